import PyProof.Rows.All
import Wide.All
import OpenK.AllK
import Wide.FinOn
import PySem.Challenge.RW_in0114_01
open PySem PySem.W PyProof.Rows
set_option Elab.async false
set_option compiler.extract_closed false
set_option linter.all false
set_option maxRecDepth 100000
set_option maxHeartbeats 8000000
namespace Mine
open_top hd for PySem.Challenge.rw_in0114_01
local macro_rules | `(tactic| walk_at $s:str) => `(tactic| k_extra $s)
section
open PySem.Calls PyProof.V PySem.Spec Builtin
theorem slot_rfind : Slot "bytes" "rfind" "bytes.rfind" :=
  .of (owner := "bytes") (n := "rfind") (by rw [typeLookup_type, builtinLookup_eq_fast]; kernel_rfl) (by decide +kernel) (by decide +kernel) (by decide +kernel)
    (by first | exact .inl (by decide +kernel) | exact .inr (by decide +kernel)) (by rw [isSubtype_type]; kernel_rfl)
theorem type_rfind : typeOf (.builtin "bytes.rfind") = pure (.type "method_descriptor") := by show builtinType _ = _; rw [builtinType_eq_fast]; kernel_rfl
theorem entry_rfind : entryFor table "bytes.rfind" = some Builtin.«bytes.rfind» := entryFor_of_tree (by kernel_rfl)
theorem args_rfind (a b : Value) : argsOk "bytes.rfind" ⟨[a, b], []⟩ := by
  unfold argsOk; rw [signature?_of (id := "bytes.rfind") (n := ['d', 'n', 'i', 'f', 'r']) (o := ['s', 'e', 't', 'y', 'b']) (by kernel_rfl) FB.owner_bytes]; kernel_rfl
/-- the last place of c in b, or -1 -/
def rfindZ (b c : Array UInt8) : Int := match Bytes.rfind? b c 0 b.size with
  | some i => i
  | none => -1
theorem meets_rfind (b c : Array UInt8) (t u : Tok) :
    Meets («bytes.rfind» ⟨[.bytes b t, .bytes c u], []⟩) (fun _ R s => ∀ t' k, R (.ok (.ret (.int (rfindZ b c) t'))) { s with toks := k }) := by
  refine .of_wp fun prog w A R s h => ?_
  show wpAny _ _ (Bytes.searchArgs .bytes "rfind" ⟨[.bytes b t, .bytes c u], []⟩ >>= fun r => _) _ _ s
  refine wpAny_bind ?_
  unfold Bytes.searchArgs
  refine wpAny_bind (wpAny_of_eq (a := (.bytes b t, [.bytes c u])) rfl ?_)
  refine wpAny_bind (wpAny_of_eq (a := none) rfl ?_)
  refine wpAny_bind (wpAny_of_eq (a := none) rfl ?_)
  refine wpAny_bind (wpAny_of_eq KBy.buffer_eq ?_)
  refine wpAny_bind (wpAny_pure ?_)
  refine wpAny_bind (wpAny_of_eq (a := b) rfl ?_)
  refine wpAny_pure ?_
  have e : ((if (min (b.size : Int) (b.size : Int)) - 0 < (c.size : Int) then none else some ((0 : Int).toNat, (min (b.size : Int) (b.size : Int)).toNat)).bind (fun (q : Nat × Nat) => Bytes.rfind? b c q.1 q.2)) = Bytes.rfind? b c 0 b.size := by
    rw [Int.min_self]
    split
    · rename_i hlt
      unfold Bytes.rfind?
      have : b.size + 1 - (0 + c.size) = 0 := by omega
      rw [this]; rfl
    · simp
  show wpAny _ _ (match ((if (min (b.size : Int) (b.size : Int)) - 0 < (c.size : Int) then none else some ((0 : Int).toNat, (min (b.size : Int) (b.size : Int)).toNat)).bind (fun (q : Nat × Nat) => Bytes.rfind? b c q.1 q.2)) with
    | some i => retInt i
    | none => _) _ _ s
  rw [e]
  unfold rfindZ at h
  cases hq : Bytes.rfind? b c 0 b.size with
  | some i => rw [hq] at h; exact wpAny_bind (wpAny_mkInt (wpAny_pure ⟨_, rfl, h _ _⟩))
  | none => rw [hq] at h; exact wpAny_bind (wpAny_rule (wpAny_bind (wpAny_mkInt (wpAny_pure ⟨_, rfl, h _ _⟩))))
section
variable {prog : Program} {w : World} {A : Around} {E : Value → Shared → Prop} {s : Shared} {b c : Array UInt8} {t u : Tok}
theorem call_rfind {Q : Value → Shared → Prop} (h : ∀ t' k, Q (.int (rfindZ b c) t') { s with toks := k }) :
    wpAny (model prog w) A (call (.builtin "bytes.rfind") [.bytes b t, .bytes c u]) Q E s :=
  call_meets slot_rfind (typeIs_bytes _ _ _) entry_rfind (args_rfind _ _) (meets_rfind b c t u) h
theorem method_rfind {M : Model} {pl : Sem Bool} {Q : Value × List Value → Shared → Prop} (h : Q (.builtin "bytes.rfind", [.bytes b t]) s) : wpAny M A (getMethod (.bytes b t) "rfind" pl) Q E s := by
  with_reducible exact KBd.method_of (.bytes b t) (typeIs_bytes _ _ _) slot_rfind type_rfind KBd.noRef h
theorem method_starts {M : Model} {pl : Sem Bool} {Q : Value × List Value → Shared → Prop} (h : Q (.builtin "bytes.startswith", [.bytes b t]) s) : wpAny M A (getMethod (.bytes b t) "startswith" pl) Q E s := by
  with_reducible exact KBd.method_of (.bytes b t) (typeIs_bytes _ _ _) FB.slot_bytes_startswith FB.type_bytes_startswith KBd.noRef h
end
/-- c opens b -/
def startsB (b c : Array UInt8) : Bool := if (b.size : Int) < c.size then false else b.extract 0 c.size == c
theorem meets_starts (b c : Array UInt8) (t u : Tok) :
    Meets («bytes.startswith» ⟨[.bytes b t, .bytes c u], []⟩) (fun _ R s => ∀ k, R (.ok (.ret (.bool (startsB b c)))) { s with toks := k }) := by
  refine .of_wp fun prog w A R s h => ?_
  show wpAny _ _ (Bytes.tailMatchM .bytes "startswith" false ⟨[.bytes b t, .bytes c u], []⟩) _ _ s
  unfold Bytes.tailMatchM
  refine wpAny_bind (wpAny_of_eq (a := (.bytes b t, [.bytes c u])) rfl ?_)
  refine wpAny_bind (wpAny_of_eq (a := none) rfl ?_)
  refine wpAny_bind (wpAny_of_eq (a := none) rfl ?_)
  refine wpAny_bind (wpAny_of_eq (a := b) rfl ?_)
  refine wpAny_bind (wpAny_isInstance (typeIs_bytes s c u) (b := false) (by rw [isSubtype_type]; kernel_rfl) ?_)
  refine wpAny_bind (wpAny_of_eq KBy.buffer_eq ?_)
  refine wpAny_pure ⟨_, rfl, ?_⟩
  have := h s.toks
  unfold startsB at this
  have hm : Min.min (b.size : Int) (if (b.size : Int) < 0 then Max.max 0 ((b.size : Int) + b.size) else b.size) = b.size := by rw [if_neg (by omega)]; exact Int.min_self _
  simpa [hm] using this
section
variable {prog : Program} {w : World} {A : Around} {E : Value → Shared → Prop} {s : Shared} {b c : Array UInt8} {t u : Tok}
theorem call_starts {Q : Value → Shared → Prop} (h : ∀ k, Q (.bool (startsB b c)) { s with toks := k }) :
    wpAny (model prog w) A (call (.builtin "bytes.startswith") [.bytes b t, .bytes c u]) Q E s :=
  call_meets FB.slot_bytes_startswith (typeIs_bytes _ _ _) FB.entry_bytes_startswith (FB.args_bytes_startswith_2 _ _) (meets_starts b c t u) h
end

theorem kind_unpack : builtinKind "_struct.unpack" = none := by decide +kernel
theorem plain_unpack : plainId "_struct.unpack" = true := by decide +kernel
theorem entry_unpack : entryFor table "_struct.unpack" = some Builtin.«_struct.unpack» := entryFor_of_tree (by kernel_rfl)
theorem args_unpack (a b : Value) : argsOk "_struct.unpack" ⟨[a, b], []⟩ := by unfold argsOk; kernel_rfl

abbrev fmtLoc : Struct.Format := ⟨false, false, [⟨'s', 4, 0, 1⟩, ⟨'L', 1, 4, 4⟩, ⟨'Q', 1, 8, 8⟩, ⟨'L', 1, 16, 4⟩], 20, 4⟩
abbrev fmtWide : Struct.Format := ⟨false, false, [⟨'s', 4, 0, 1⟩, ⟨'Q', 1, 4, 8⟩, ⟨'H', 2, 12, 2⟩, ⟨'L', 2, 16, 4⟩, ⟨'Q', 4, 24, 8⟩], 56, 10⟩
abbrev fmtEnd : Struct.Format := ⟨false, false, [⟨'s', 4, 0, 1⟩, ⟨'H', 4, 4, 2⟩, ⟨'L', 2, 12, 4⟩, ⟨'H', 1, 20, 2⟩], 22, 8⟩
theorem fmt_loc (t : Tok) : Struct.moduleFormat (.str (PySem.Str.ofString "<4sLQL") t) = pure fmtLoc := by kernel_rfl
theorem fmt_wide (t : Tok) : Struct.moduleFormat (.str (PySem.Str.ofString "<4sQ2H2L4Q") t) = pure fmtWide := by kernel_rfl
theorem fmt_end (t : Tok) : Struct.moduleFormat (.bytes [60, 52, 115, 52, 72, 50, 76, 72].toArray t) = pure fmtEnd := by
  unfold Struct.moduleFormat Struct.formatBytes
  kernel_rfl
/-- an int of the octets from i on, n of them, low ones first -/
def leN (b : Array UInt8) (i n : Nat) : Int := ((Memoryview.littleEndian (b.extract i (i + n)) : Nat) : Int)
theorem conv {α : Type} {M : Model} {A : Around} {E : Value → Shared → Prop} {s : Shared} {Q : α → Shared → Prop} {t t' : Sem α} (e : t = t') (h : wpAny M A t' Q E s) : wpAny M A t Q E s := e ▸ h
section
variable {M : Model} {A : Around} {E : Value → Shared → Prop} {s : Shared} {Q : Value → Shared → Prop}
theorem small_cut (b : Array UInt8) : (b.extract 0 4).size ≤ sizeLine := by
  rw [Array.size_extract, sizeLine_eq]; omega
theorem unp_loc (id : String) (b : Array UInt8)
    (h : ∀ t0 t1 t2 t3 k, Q (.ref s.heap.objs.size) { s with heap := s.heap.push { cls := .type "tuple", data := .seq [.bytes (b.extract 0 4) t0, .int (leN b 4 4) t1, .int (leN b 8 8) t2, .int (leN b 16 4) t3].toArray }, toks := k }) :
    wpAny M A (Struct.unpacked id fmtLoc b 0) Q E s := by
  unfold Struct.unpacked
  refine wpAny_bind ?_
  refine wpAny_bind ?_
  refine wpAny_bind (wpAny_mkBytes ?_ (small_cut b))
  refine wpAny_pure ?_
  refine conv (t' := mkInt (leN b 4 4) >>= fun v1 => mkInt (leN b 8 8) >>= fun v2 => mkInt (leN b 16 4) >>= fun v3 => pure #[.bytes (b.extract 0 4) s.toks, v1, v2, v3]) (by kernel_rfl) ?_
  refine wpAny_bind (wpAny_mkInt (wpAny_bind (wpAny_mkInt (wpAny_bind (wpAny_mkInt (wpAny_pure ?_))))))
  refine wpAny_newTuple (h _ _ _ _ _) ?_
  show 4 ≤ sizeLine
  decide
theorem unp_end (id : String) (b : Array UInt8)
    (h : ∀ t0 t1 t2 t3 t4 t5 t6 t7 k, Q (.ref s.heap.objs.size) { s with heap := s.heap.push { cls := .type "tuple", data := .seq [.bytes (b.extract 0 4) t0, .int (leN b 4 2) t1, .int (leN b 6 2) t2, .int (leN b 8 2) t3, .int (leN b 10 2) t4, .int (leN b 12 4) t5, .int (leN b 16 4) t6, .int (leN b 20 2) t7].toArray }, toks := k }) :
    wpAny M A (Struct.unpacked id fmtEnd b 0) Q E s := by
  unfold Struct.unpacked
  refine wpAny_bind ?_
  refine wpAny_bind ?_
  refine wpAny_bind (wpAny_mkBytes ?_ (small_cut b))
  refine wpAny_pure ?_
  refine conv (t' := mkInt (leN b 4 2) >>= fun v1 => mkInt (leN b 6 2) >>= fun v2 => mkInt (leN b 8 2) >>= fun v3 => mkInt (leN b 10 2) >>= fun v4 => mkInt (leN b 12 4) >>= fun v5 => mkInt (leN b 16 4) >>= fun v6 => mkInt (leN b 20 2) >>= fun v7 =>
    pure #[.bytes (b.extract 0 4) s.toks, v1, v2, v3, v4, v5, v6, v7]) (by kernel_rfl) ?_
  refine wpAny_bind (wpAny_mkInt (wpAny_bind (wpAny_mkInt (wpAny_bind (wpAny_mkInt (wpAny_bind (wpAny_mkInt (wpAny_bind (wpAny_mkInt (wpAny_bind (wpAny_mkInt (wpAny_bind (wpAny_mkInt (wpAny_pure ?_))))))))))))))
  refine wpAny_newTuple (h _ _ _ _ _ _ _ _ _) ?_
  show 8 ≤ sizeLine
  decide
theorem unp_wide (id : String) (b : Array UInt8)
    (h : ∀ t0 t1 t2 t3 t4 t5 t6 t7 t8 t9 k, Q (.ref s.heap.objs.size) { s with heap := s.heap.push { cls := .type "tuple", data := .seq [.bytes (b.extract 0 4) t0, .int (leN b 4 8) t1, .int (leN b 12 2) t2, .int (leN b 14 2) t3, .int (leN b 16 4) t4, .int (leN b 20 4) t5, .int (leN b 24 8) t6, .int (leN b 32 8) t7, .int (leN b 40 8) t8, .int (leN b 48 8) t9].toArray }, toks := k }) :
    wpAny M A (Struct.unpacked id fmtWide b 0) Q E s := by
  unfold Struct.unpacked
  refine wpAny_bind ?_
  refine wpAny_bind ?_
  refine wpAny_bind (wpAny_mkBytes ?_ (small_cut b))
  refine wpAny_pure ?_
  refine conv (t' := mkInt (leN b 4 8) >>= fun v1 => mkInt (leN b 12 2) >>= fun v2 => mkInt (leN b 14 2) >>= fun v3 => mkInt (leN b 16 4) >>= fun v4 => mkInt (leN b 20 4) >>= fun v5 => mkInt (leN b 24 8) >>= fun v6 => mkInt (leN b 32 8) >>= fun v7 => mkInt (leN b 40 8) >>= fun v8 => mkInt (leN b 48 8) >>= fun v9 =>
    pure #[.bytes (b.extract 0 4) s.toks, v1, v2, v3, v4, v5, v6, v7, v8, v9]) (by kernel_rfl) ?_
  refine wpAny_bind (wpAny_mkInt (wpAny_bind (wpAny_mkInt (wpAny_bind (wpAny_mkInt (wpAny_bind (wpAny_mkInt (wpAny_bind (wpAny_mkInt (wpAny_bind (wpAny_mkInt (wpAny_bind (wpAny_mkInt (wpAny_bind (wpAny_mkInt (wpAny_bind (wpAny_mkInt (wpAny_pure ?_))))))))))))))))))
  refine wpAny_newTuple (h _ _ _ _ _ _ _ _ _ _ _) ?_
  show 10 ≤ sizeLine
  decide
end

theorem meets_unpack {v : Value} {f : Struct.Format} {b : Array UInt8} {t : Tok} (hf : Struct.moduleFormat v = pure f) (hb : b.size = f.size) {S : Value → Shared → Shared → Prop}
    (g : ∀ (M : Model) (A : Around) (E : Value → Shared → Prop) (s : Shared) (Q : Value → Shared → Prop), (∀ r s', S r s s' → Q r s') → wpAny M A (Struct.unpacked "_struct.unpack" f b 0) Q E s) :
    Meets («_struct.unpack» ⟨[v, .bytes b t], []⟩) (fun _ R s => ∀ r s', S r s s' → R (.ok (.ret r)) s') := by
  refine .of_wp fun prog w A R s h => ?_
  unfold «_struct.unpack»
  refine wpAny_bind (wpAny_of_eq (a := ()) rfl ?_)
  refine wpAny_bind (wpAny_of_eq (a := ()) rfl ?_)
  refine wpAny_bind (wpAny_of_eq hf ?_)
  show wpAny _ _ (Struct.unpackExact "_struct.unpack" (pure f) (.bytes b t)) _ _ s
  unfold Struct.unpackExact
  refine wpAny_bind (wpAny_of_eq KBd.like_eq ?_)
  refine wpAny_bind (wpAny_pure ?_)
  refine wpAny_ite ?_
  rw [if_neg (by rw [hb]; simp)]
  refine wpAny_bind (g _ _ _ _ _ fun r s' hs => ?_)
  exact wpAny_pure ⟨_, rfl, h _ _ hs⟩
section
variable {prog : Program} {w : World} {A : Around} {E : Value → Shared → Prop} {s : Shared} {b : Array UInt8} {t u : Tok} {h₀ : Heap} {L : Addr} {m : PySem.Str → Option Value} {news : List (Addr × Obj)} {Q : Value → Shared → Prop}
abbrev tupO (vs : List Value) : Obj := { cls := .type "tuple", data := .seq vs.toArray }
theorem leN_nonneg (b : Array UInt8) (i n : Nat) : 0 ≤ leN b i n := Int.natCast_nonneg _
theorem unpack_loc (F : Fr h₀ L s.heap m) (N : News h₀ L s.heap news) (hb : b.size = 20)
    (h : ∀ D t0 t1 t2 t3 h' k, Fr h₀ L h' m → News h₀ L h' ((D, tupO [.bytes (b.extract 0 4) t0, .int (leN b 4 4) t1, .int (leN b 8 8) t2, .int (leN b 16 4) t3]) :: news) → (∀ q ∈ news, q.1 < D) → 0 ≤ leN b 8 8 → Q (.ref D) { s with heap := h', toks := k }) :
    wpAny (model prog w) A (call (.builtin "_struct.unpack") [.str (PySem.Str.ofString "<4sLQL") u, .bytes b t]) Q E s :=
  call_function_meets kind_unpack plain_unpack entry_unpack (args_unpack _ _) (meets_unpack (fmt_loc u) hb (S := fun r s s' => ∃ t0 t1 t2 t3 k, r = .ref s.heap.objs.size ∧ s' = { s with heap := s.heap.push (tupO [.bytes (b.extract 0 4) t0, .int (leN b 4 4) t1, .int (leN b 8 8) t2, .int (leN b 16 4) t3]), toks := k })
    fun _ _ _ _ _ g => unp_loc _ b fun t0 t1 t2 t3 k => g _ _ ⟨t0, t1, t2, t3, k, rfl, rfl⟩) (by
      rintro r s' ⟨t0, t1, t2, t3, k, rfl, rfl⟩
      exact h _ t0 t1 t2 t3 _ k (F.push _) (N.push F _) (fun q hq => Heap.lt_size (N q hq).1) (leN_nonneg _ _ _))
theorem unpack_end (F : Fr h₀ L s.heap m) (N : News h₀ L s.heap news) (hb : b.size = 22)
    (h : ∀ D t0 t1 t2 t3 t4 t5 t6 t7 h' k, Fr h₀ L h' m → News h₀ L h' ((D, tupO [.bytes (b.extract 0 4) t0, .int (leN b 4 2) t1, .int (leN b 6 2) t2, .int (leN b 8 2) t3, .int (leN b 10 2) t4, .int (leN b 12 4) t5, .int (leN b 16 4) t6, .int (leN b 20 2) t7]) :: news) → (∀ q ∈ news, q.1 < D) → Q (.ref D) { s with heap := h', toks := k }) :
    wpAny (model prog w) A (call (.builtin "_struct.unpack") [.bytes [60, 52, 115, 52, 72, 50, 76, 72].toArray u, .bytes b t]) Q E s :=
  call_function_meets kind_unpack plain_unpack entry_unpack (args_unpack _ _) (meets_unpack (fmt_end u) hb (S := fun r s s' => ∃ t0 t1 t2 t3 t4 t5 t6 t7 k, r = .ref s.heap.objs.size ∧ s' = { s with heap := s.heap.push (tupO [.bytes (b.extract 0 4) t0, .int (leN b 4 2) t1, .int (leN b 6 2) t2, .int (leN b 8 2) t3, .int (leN b 10 2) t4, .int (leN b 12 4) t5, .int (leN b 16 4) t6, .int (leN b 20 2) t7]), toks := k })
    fun _ _ _ _ _ g => unp_end _ b fun t0 t1 t2 t3 t4 t5 t6 t7 k => g _ _ ⟨t0, t1, t2, t3, t4, t5, t6, t7, k, rfl, rfl⟩) (by
      rintro r s' ⟨t0, t1, t2, t3, t4, t5, t6, t7, k, rfl, rfl⟩
      exact h _ t0 t1 t2 t3 t4 t5 t6 t7 _ k (F.push _) (N.push F _) fun q hq => Heap.lt_size (N q hq).1)
theorem unpack_wide (F : Fr h₀ L s.heap m) (N : News h₀ L s.heap news) (hb : b.size = 56)
    (h : ∀ D t0 t1 t2 t3 t4 t5 t6 t7 t8 t9 h' k, Fr h₀ L h' m → News h₀ L h' ((D, tupO [.bytes (b.extract 0 4) t0, .int (leN b 4 8) t1, .int (leN b 12 2) t2, .int (leN b 14 2) t3, .int (leN b 16 4) t4, .int (leN b 20 4) t5, .int (leN b 24 8) t6, .int (leN b 32 8) t7, .int (leN b 40 8) t8, .int (leN b 48 8) t9]) :: news) → (∀ q ∈ news, q.1 < D) → Q (.ref D) { s with heap := h', toks := k }) :
    wpAny (model prog w) A (call (.builtin "_struct.unpack") [.str (PySem.Str.ofString "<4sQ2H2L4Q") u, .bytes b t]) Q E s :=
  call_function_meets kind_unpack plain_unpack entry_unpack (args_unpack _ _) (meets_unpack (fmt_wide u) hb (S := fun r s s' => ∃ t0 t1 t2 t3 t4 t5 t6 t7 t8 t9 k, r = .ref s.heap.objs.size ∧ s' = { s with heap := s.heap.push (tupO [.bytes (b.extract 0 4) t0, .int (leN b 4 8) t1, .int (leN b 12 2) t2, .int (leN b 14 2) t3, .int (leN b 16 4) t4, .int (leN b 20 4) t5, .int (leN b 24 8) t6, .int (leN b 32 8) t7, .int (leN b 40 8) t8, .int (leN b 48 8) t9]), toks := k })
    fun _ _ _ _ _ g => unp_wide _ b fun t0 t1 t2 t3 t4 t5 t6 t7 t8 t9 k => g _ _ ⟨t0, t1, t2, t3, t4, t5, t6, t7, t8, t9, k, rfl, rfl⟩) (by
      rintro r s' ⟨t0, t1, t2, t3, t4, t5, t6, t7, t8, t9, k, rfl, rfl⟩
      exact h _ t0 t1 t2 t3 t4 t5 t6 t7 t8 t9 _ k (F.push _) (N.push F _) fun q hq => Heap.lt_size (N q hq).1)
end

section
variable {prog : Program} {w : World} {A : Around} {E : Value → Shared → Prop} {s : Shared} {value slice : PySem.Expr} {b : Array UInt8} {t : Tok} {h₀ : Heap} {L : Addr} {m : PySem.Str → Option Value} {news : List (Addr × Obj)} {l u : Value} {lo hi : Option Int} {Q : Value → Shared → Prop} {i : Int}
theorem slice_M (hF : Fr h₀ L s.heap m) (hN : News h₀ L s.heap news) (hl : IsPart l lo) (hu : IsPart u hi) (hz : b.size ≤ 16777216)
    (h : ∀ h' t' k, Fr h₀ L h' m → News h₀ L h' news → Q (.bytes (KBy.picked b lo hi) t') { s with heap := h', toks := k })
    (hs : subscripted slice false (.bytes b t) (.ref s.heap.objs.size) = operate [.ref s.heap.objs.size, .bytes b t] (getItem (.bytes b t) (.ref s.heap.objs.size)) := by with_unfolding_all rfl)
    (ht : ∀ r, letTemporaryGo value (.bytes b t) r = pure () := by intro _; with_unfolding_all rfl) :
    wpAny (model prog w) A (subscriptTail value slice (.bytes b t) (.ref s.heap.objs.size)) Q E { s with heap := s.heap.push { cls := .type "slice", data := .fields #[l, u, .none] } } :=
  KBc.slice_K hF hN rfl hl hu (by rw [KBw.ints_length]; exact hz) (fun h' t' k f n _ => h h' t' k f n) hs ht
/-- the octet at i as an int -/
def octZ (b : Array UInt8) (i : Int) : Int := ((b.toList.getD i.toNat 0).toNat : Int)
theorem item_M {ui : Tok} (hfit : b.size ≤ 16777216) (h0 : 0 ≤ i) (h1 : i < (b.size : Int)) (h : Q (.int (octZ b i) s.toks) { s with toks := s.toks + 1 })
    (hs : subscripted slice false (.bytes b t) (.int i ui) = operate [.bytes b t, .int i ui] (getItem (.bytes b t) (.int i ui)) := by with_unfolding_all rfl)
    (ht : ∀ r, letTemporaryGo value (.bytes b t) r = pure () := by intro _; with_unfolding_all rfl) : wpAny (model prog w) A (subscriptTail value slice (.bytes b t) (.int i ui)) Q E s :=
  KBy.item_N (x := b.toList) (by rw [Array.length_toList]; omega) h0 (by rw [Array.length_toList]; exact h1) h hs ht
theorem len_M {Q : Value → Shared → Prop} (hfit : b.size ≤ 16777216) (h : Q (.int b.size (s.toks + 1)) { s with toks := s.toks + 1 + 1 }) : wpAny (model prog w) A (call (.builtin "len") [.bytes b t]) Q E s := len_bytes (by omega) h
theorem add_M {c : Array UInt8} {u : Tok} {Q : Value → Shared → Prop} (hsz : b.size + c.size ≤ 16777216) (h : ∀ t' k, Q (.bytes (b ++ c) t') { s with toks := k }) : wpAny (model prog w) A (binaryOp .Add (.bytes b t) (.bytes c u)) Q E s := KBy.add_bytes hsz h
end
end
section
open PySem.Calls PyProof.V PySem.Spec Builtin
theorem os_boot : bootBuiltins (Str.ofString "OSError") = some (.type "OSError") := by decide +kernel
theorem os_notType : (Value.type "OSError" == Value.type "type") = false := by decide +kernel
theorem os_canNew : (((Manifest.find? "OSError").bind (·.mro.findSome? fun (t : String) => (Manifest.find? t).bind fun b => if b.noNew then some true else if b.attrs.any (·.1 == "__new__") then some false else none)).getD false) = false := by decide +kernel
theorem os_typeCall (rest : List Value) : checkTypeCall "OSError" ⟨rest, []⟩ = pure () := by kernel_rfl
theorem os_mroFast : (fastBuiltinMro "OSError").map (·.isEmpty) = some false := by kernel_rfl
theorem os_madeBy : Bind.madeBy (.type "OSError") = pure (some "OSError.__new__") := by kernel_rfl
theorem os_newCheck (v : Value) : checkBuiltinCall "OSError.__new__" ⟨[.type "OSError", v], []⟩ = pure () := by kernel_rfl
theorem os_newEntry : entryFor table "OSError.__new__" = some Builtin.«OSError.__new__» := entryFor_of_tree (by kernel_rfl)
theorem os_newPlain : plainId "OSError.__new__" = true := by decide +kernel
theorem os_self : isSubtype (.type "OSError") (.type "OSError") = pure true := by rw [isSubtype_type]; kernel_rfl
theorem os_init : Slot "OSError" "__init__" "OSError.__init__" := .of (owner := "OSError") (n := "__init__") (by rw [typeLookup_type, builtinLookup_eq_fast]; kernel_rfl) (by decide +kernel) (by decide +kernel) (by decide +kernel)
    (by first | exact .inl (by decide +kernel) | exact .inr (by decide +kernel)) (by rw [isSubtype_type]; kernel_rfl)
theorem os_initEntry : entryFor table "OSError.__init__" = some Builtin.«OSError.__init__» := entryFor_of_tree (by kernel_rfl)
theorem os_initKind : builtinKind "OSError.__init__" = some .slot := by decide +kernel
theorem os_initSplit : splitId "OSError.__init__" = some ("OSError", "__init__") := by decide +kernel
theorem os_base : isSubtype (.type "OSError") (.type "BaseException") = pure true := by rw [isSubtype_type]; kernel_rfl
theorem os_meta : (Value.type ((Manifest.find? "OSError").elim "type" (·.metatype)) == Value.type "type") = true := by decide +kernel
theorem os_exc : isSubtype (.type "OSError") (.type "BaseException") = pure true := os_base
theorem os_notTuple : isSubtype (.type ((Manifest.find? "OSError").elim "type" fun y => y.metatype)) (.type "tuple") = pure false := by rw [isSubtype_type]; kernel_rfl
theorem os_initLook : typeLookup (.type "OSError") "__init__" = pure (some (.builtin "OSError.__init__")) := by rw [typeLookup_type, builtinLookup_eq_fast]; kernel_rfl
theorem os_canon : (Manifest.canonical "OSError.__init__" == "OSError.__init__") = true := by decide +kernel
theorem os_drop : "OSError.__init__".dropRight ".__init__".length = "OSError" := by decide +kernel
theorem os_reads : OSError.osReadsInInit (.type "OSError") = pure false := by
  unfold OSError.osReadsInInit
  rw [os_initLook]
  simp only [pure_bind, os_canon, if_true, os_drop, os_self]
end
section
open PySem.Calls PyProof.V PySem.Spec Builtin
abbrev osFs (t : Addr) : Array Value := #[.ref t, .none, .none, .none, .bool false, .none, rawInt 0, rawInt 0, rawInt 0, rawInt 0, rawInt (-1)]
/-- e is a fresh OSError made with one text -/
structure MadeOs (h h' : Heap) (e : Addr) (vs : List Value) : Prop where
  keeps : ∀ b o, h.get? b = some o → h'.get? b = some o
  new : h.get? e = none
  there : ∃ t, h'.get? e = some { cls := .type "OSError", data := .fields (osFs t) } ∧ h.get? t = none ∧ h'.get? t = some { cls := .type "tuple", data := .seq vs.toArray }
section
variable {prog : Program} {w : World} {A : Around} {E : Value → Shared → Prop} {s : Shared}
theorem os_put {M : Model} {s : Shared} {a : Addr} {vs : Array Value} {i : Nat} {y : Value} {Q : Unit → Shared → Prop} (ho : s.heap.get? a = some { cls := .type "OSError", data := .fields vs }) (hi : i < vs.size)
    (h : ∀ h', h'.objs.size = s.heap.objs.size → (∀ b o, b ≠ a → s.heap.get? b = some o → h'.get? b = some o) → h'.get? a = some { cls := .type "OSError", data := .fields (vs.setIfInBounds i y) } → Q () { s with heap := h' }) : wpAny M A (OSError.osPut (.ref a) i y) Q E s := by
  unfold OSError.osPut
  refine wpAny_bind (wpAny_field ho rfl (Array.getElem?_eq_getElem hi) (wpAny_bind (wpAny_setField ho rfl hi (wpAny_letGo ?_))))
  refine h _ (Heap.SameBut.update ..).1 (fun b o hb e => (Heap.get?_update_other _ _ (Ne.symm hb)).trans e) ?_
  exact Heap.get?_update_self _ ho rfl
theorem new_os {v : Value} {Q : Value → Shared → Prop}
    (h : ∀ h' e, MadeOs s.heap h' e [v] → Q (.ref e) { s with heap := h' }) :
    wpAny (model prog w) A (call (.builtin "OSError.__new__") [.type "OSError", v]) Q E s := by
  refine wpAny_call (codeAny_call_builtin os_newPlain os_newEntry (wpAny_of_eq (os_newCheck v) ?_))
  unfold Builtin.«OSError.__new__»
  dsimp only
  refine wpAny_bind (m := isType _) (wpAny_of_eq (a := true) rfl ?_)
  simp only [Bool.not_true, Bool.false_eq_true, if_false]
  refine wpAny_bind (wpAny_of_eq os_self ?_)
  simp only [Bool.not_true, Bool.false_eq_true, if_false]
  refine wpAny_bind (wpAny_of_eq os_reads ?_)
  simp only [Bool.false_eq_true, if_false, List.isEmpty_nil, Bool.not_true]
  rw [if_neg (by simp)]
  unfold newTuple
  refine wpAny_bind (wpAny_bind (wpAny_newObj_type (wpAny_newObj_type ?_ (by show 11 ≤ sizeLine + 2; decide)) (by size_fits)))
  have e1 : OSError.osGiveMeaning (.ref (s.heap.objs.size + 1)) [v] = (OSError.osPut (.ref (s.heap.objs.size + 1)) 6 OSError.osUnset >>= fun _ => OSError.osPut (.ref (s.heap.objs.size + 1)) 7 OSError.osUnset >>= fun _ => newTuple [v] >>= fun x => OSError.osPut (.ref (s.heap.objs.size + 1)) 0 x) := by
    unfold OSError.osGiveMeaning
    rfl
  rw [show (s.heap.push { cls := .type "tuple", data := .seq ([] : List Value).toArray }).objs.size = s.heap.objs.size + 1 from Heap.size_push _ _]
  refine wpAny_bind ?_
  rw [e1]
  refine wpAny_bind (os_put (Heap.get?_push_at (by simp only [Heap.size_push]) rfl) (by show 6 < 11; decide) fun h1 z1 k1 g1 => ?_)
  refine wpAny_bind (os_put g1 (by rw [Array.size_setIfInBounds]; show 7 < 11; decide) fun h2 z2 k2 g2 => ?_)
  refine wpAny_bind (wpAny_newObj_type ?_ (by size_fits))
  have fresh1 : ∀ b o, s.heap.get? b = some o → b ≠ s.heap.objs.size + 1 := fun b o e => Nat.ne_of_lt (Nat.lt_succ_of_lt (Heap.lt_size e))
  have hz : h2.objs.size = s.heap.objs.size + 2 := by
    rw [z2]; show h1.objs.size = _; rw [z1]; simp only [Heap.size_push]
  have hne : h2.objs.size ≠ s.heap.objs.size + 1 := by omega
  refine os_put (Heap.get?_push_of_some _ g2) (by rw [Array.size_setIfInBounds, Array.size_setIfInBounds]; show 0 < 11; decide) fun h3 z3 k3 g3 => ?_
  refine wpAny_pure ?_
  refine h h3 _ ⟨fun b o e => ?_, Heap.get?_none_of_le (Nat.le_succ _), h2.objs.size, ?_, Heap.get?_none_of_le (by rw [hz]; omega), ?_⟩
  · have hb := fresh1 b o e
    exact k3 b o hb (Heap.get?_push_of_some _ (k2 b o hb (k1 b o hb (Heap.get?_push_of_some _ (Heap.get?_push_of_some _ e)))))
  · exact g3
  · exact k3 _ _ hne (Heap.get?_push_size _ rfl)
theorem os_initSig : Manifest.signature? "OSError.__init__" = some ⟨.any, "OSError", "OSError", .self, [⟨"args", .varPos, false⟩, ⟨"kwargs", .varKw, false⟩]⟩ := by kernel_rfl
theorem os_check1 (full short : String) : Bind.check ⟨.any, "OSError", "OSError", .self, [⟨"args", .varPos, false⟩, ⟨"kwargs", .varKw, false⟩]⟩ full short 1 [] = pure () := by rfl
theorem check_os {M : Model} {e : Addr} {v : Value} {Q : Unit → Shared → Prop} (hT : s.TypeIs (.ref e) "OSError") (hQ : Q () s) :
    wpAny M A (checkBuiltinCall "OSError.__init__" ⟨[.ref e, v], []⟩) Q E s := by
  simp only [checkBuiltinCall, os_initKind, os_initSplit, os_initSig]
  refine wpAny_bind (wpAny_isInstance hT os_self ?_)
  simp only [Bool.not_true, Bool.false_eq_true, if_false]
  unfold Bind.checkArgs
  dsimp only
  refine wpAny_bind (m := Bind.printed "OSError" true _ _) (printed_name (by decide +kernel) ?_)
  refine wpAny_bind (m := Bind.printed "OSError" false _ _) (printed_name (by decide +kernel) ?_)
  show wpAny M A (Sem.onRaise (Bind.check _ "OSError" "OSError" 1 []) _) Q E s
  rw [os_check1]
  exact wpAny_pure hQ
theorem init_os {e : Addr} {v : Value} {Q : Value → Shared → Prop} (hT : s.TypeIs (.ref e) "OSError") (h : Q .none s) :
    wpAny (model prog w) A (call (.builtin "OSError.__init__") [.ref e, v]) Q E s := by
  refine wpAny_call (codeAny_call_builtin os_init.plain os_initEntry (check_os hT ?_))
  unfold Builtin.«OSError.__init__»
  dsimp only
  refine wpAny_bind (wpAny_typeOf hT ?_)
  refine wpAny_bind (wpAny_of_eq os_reads ?_)
  simp only [Bool.not_false, if_true]
  exact wpAny_bind (wpAny_rule (wpAny_pure h))
theorem call_os {v : Value} {Q : Value → Shared → Prop}
    (h : ∀ h' e, MadeOs s.heap h' e [v] → Q (.ref e) { s with heap := h' }) :
    wpAny (model prog w) A (call (.type "OSError") [v]) Q E s := by
  refine wpAny_call (codeAny_of_tree ?_)
  show wpAny _ _ (callAny (.type "OSError") ⟨[v], []⟩) _ _ s
  simp only [callAny]
  refine wpAny_pure ⟨Code.quiet_builtin _ (by decide +kernel), codeAny_builtin entry_type_call ?_⟩
  rw [Around.under_plain (weight_type_call "OSError" _ _) (by first | rfl | kernel_rfl | decide +kernel)]
  unfold Builtin.«type.__call__»
  dsimp only
  rw [if_neg (by rw [os_notType]; exact Bool.false_ne_true), if_neg (by rw [os_canNew]; exact Bool.false_ne_true)]
  have hmro : ∃ l, mroOf (.type "OSError") = pure l ∧ l.isEmpty = false := by
    have h := os_mroFast
    rw [mroOf_type]
    cases hm : fastBuiltinMro "OSError" with
    | none => rw [hm] at h; cases h
    | some l => rw [hm] at h; exact ⟨l, rfl, by simpa using h⟩
  obtain ⟨l, hl, hle⟩ := hmro
  refine wpAny_bind (wpAny_of_eq (os_typeCall [v]) (wpAny_bind (wpAny_of_eq hl ?_)))
  rw [if_neg (by rw [hle]; exact Bool.false_ne_true)]
  refine wpAny_bind (wpAny_of_eq os_madeBy ?_)
  dsimp only
  refine wpAny_bind (wpAny_pure (wpAny_bind (wpAny_holding (new_os fun h' e hm => ?_))))
  obtain ⟨t, ht, _, _⟩ := hm.there
  have hT : Shared.TypeIs ⟨h', s.gens, s.drawn, s.toks, s.os⟩ (.ref e) "OSError" := ⟨_, ht, rfl⟩
  refine wpAny_bind (wpAny_isInstance hT os_self ?_)
  simp only [Bool.not_true, Bool.false_eq_true, if_false]
  refine wpAny_bind (wpAny_holding (wpAny_callSpecial?_slot (name := Str.ofString "__init__") (T := "OSError") hT os_init (init_os hT ?_)))
  dsimp only
  rw [if_neg (by simp)]
  exact wpAny_pure (h _ _ hm)
end

def RaisableOs (E : Value → Shared → Prop) (v : Value) (s₁ : Shared) : Prop :=
  ∃ a ob vs, v = .ref a ∧ s₁.heap.get? a = some ob ∧ ob.cls = .type "OSError" ∧ ob.data = .fields vs ∧ vs[1]? = some .none ∧ E (.ref a) s₁
section
variable {prog : Program} {w : World} {A : Around} {E : Value → Shared → Prop} {s : Shared}
theorem call_os_raise {v : Value} (h : ∀ h' e, MadeOs s.heap h' e [v] → E (.ref e) { s with heap := h' }) :
    wpAny (model prog w) A (call (.type "OSError") [v]) (RaisableOs E) E s :=
  call_os fun h' e hm => by
    obtain ⟨t, ht, r⟩ := hm.there
    exact ⟨e, _, _, rfl, ht, rfl, rfl, rfl, h h' e hm⟩
theorem Raise_os {M : Model} {env : Env} {e : Expr} {pos : Pos} {Q : Flow → Shared → Prop} (hh : A.handled = none)
    (h : wpAny M A (eval e env) (RaisableOs E) E s) : wpAny M A (exec (.Raise (some e) none pos) env) Q E s := by
  show wpAny M A (do standAt pos; raiseStmt env (some (do let v ← eval e env; standAt pos; pure v)) none) Q E s
  refine wpAny_bind (wpAny_standAt ?_)
  unfold raiseStmt
  dsimp only
  refine wpAny_bind (wpAny_bind (wpAny_mono h (fun v s₁ h₁ => wpAny_bind (wpAny_standAt (wpAny_pure ?_))) fun _ _ x => x))
  obtain ⟨a, ob, vs, rfl, ha, hcls, hd, h1, hE⟩ := h₁
  have hT : s₁.TypeIs (.ref a) "OSError" := ⟨ob, ha, hcls⟩
  have hnt : ∀ {Q' : Bool → Shared → Prop}, Q' false s₁ → wpAny M A (isType (.ref a)) Q' E s₁ := by
    intro Q' hq
    simp only [isType, loadHead]
    refine wpAny_bind (wpAny_loadPart ha ?_)
    rw [hd]; exact wpAny_pure hq
  refine wpAny_bind (wpAny_pure ?_)
  dsimp only
  refine wpAny_bind (wpAny_holding ?_)
  unfold excFromValue isExcClass
  refine wpAny_bind (wpAny_bind (hnt ?_))
  simp only [Bool.false_eq_true, if_false]
  refine wpAny_pure ?_
  simp only [Bool.false_eq_true, if_false]
  refine wpAny_bind (wpAny_isInstance hT os_base ?_)
  simp only [if_true]
  refine wpAny_pure ?_
  refine wpAny_bind (hnt ?_)
  simp only [Bool.false_eq_true, if_false]
  unfold raisedInstance
  refine wpAny_bind (wpAny_bind (wpAny_typeOf hT (wpAny_bind (m := typeOf (.type "OSError")) (wpAny_pure ?_))))
  rw [if_pos os_meta]
  refine wpAny_pure ?_
  unfold setFlight raiseNew
  refine wpAny_bind (wpAny_bind (wpAny_field ha hd h1 ?_))
  rw [if_neg (by decide)]
  refine wpAny_pure (wpAny_bind (wpAny_handled ?_))
  rw [hh]
  first
    | exact wpAny_throw hE
    | exact wpAny_bind (wpAny_pure (wpAny_throw hE))
end
section
variable {M : Model} {A : Around} {E : Value → Shared → Prop} {s' : Shared} {base g g₂ h : Heap} {outer : List Env} {L a e t : Addr} {m : Str → Option Value} {name : Str} {scope : Scope} {cd : Value} {Q : Unit → Shared → Prop} {news : List (Addr × Obj)}
theorem leaves_madeOs {base h : Heap} {env : Env} {outer : List Env} {L e : Addr} {args : List Value} {Q : Unit → Shared → Prop}
    (hfr : A.frames = some (env :: outer)) (hf : env.frame = some L) (hkb : base.StaysIn h) (hl : h.FunFrames base (env :: outer)) (hx : MadeOs h s'.heap e args)
    (hQ : ∀ h' t, Heap.FlyingW base outer e (.type "OSError") (.ref t) h' → h'.TupAt t args → base.get? t = none → s'.heap.UpToSlots h' → Q () { s' with heap := h' }) : wpAny M A (leaving env (.ref e)) Q E s' := by
  obtain ⟨t, he, htn, ht⟩ := hx.there
  have fresh : ∀ b, h.get? b = none → base.get? b = none := fun b hb => by
    cases hq : base.get? b with
    | none => rfl
    | some o' => have := hkb b o' hq; rw [hb] at this; cases this
  refine wpAny_leaving_firstW (a0 := .ref t) hfr (hl.of_keeps fun b o hb _ => ⟨o, hx.keeps b o hb, rfl⟩) hf he (fun b o hb => hx.keeps b o (hkb b o hb)) (fresh e hx.new) rfl rfl rfl fun h' hL => ?_
  obtain ⟨k1, ⟨_, _, k2⟩, k3, k4⟩ := hL
  exact hQ h' t ⟨k1, fresh e hx.new, k2, k3⟩ (Heap.TupAt.of_slots ⟨_, _, ht, rfl, rfl⟩ k4) (fresh t htn) k4
theorem leave_raiseOs {vs : List Value} (K : Below A base outer g) (hx : MadeOs h s'.heap e vs) (F : Fr g L h m) (N : News g L h news)
    (hQ : ∀ h' t, RaisedK base outer e (.type "OSError") t vs news h' → g.UpToSlots h' → Q () { s' with heap := h' }) (hk : scope.kind = .function := by rfl) :
    wpAny M (A.deeper (envOf name scope L a cd)) (leaving (envOf name scope L a cd) (.ref e)) Q E s' := by
  have K' := K.push (name := name) (a := a) (cd := cd) F hk
  have hin : ∀ env ∈ (envOf name scope L a cd :: outer), ∀ b, env.frame = some b → b ∈ (envOf name scope L a cd :: outer).filterMap (·.frame) := fun env he b hb => List.mem_filterMap.mpr ⟨env, he, hb⟩
  have st : base.StaysIn (hideAll h ((envOf name scope L a cd :: outer).filterMap (·.frame))) := fun b o q => hideAll_get _ (K'.stays b o q) fun hm => by
    rw [(K'.frames.mem hm).1] at q; cases q
  have hl : ∀ q ∈ news, (hideAll h ((envOf name scope L a cd :: outer).filterMap (·.frame))).get? q.1 = some q.2 ∧ base.get? q.1 = none := fun q hq => by
    refine ⟨hideAll_get _ (N q hq).1 fun hm => ?_, fresh_of_stays K.stays (N q hq).2.2⟩
    obtain ⟨env, he, hf⟩ := List.mem_filterMap.mp hm
    rcases List.mem_cons.mp he with rfl | he
    · exact (N q hq).2.1 (Option.some.inj hf).symm
    · obtain ⟨o, ho, _⟩ := (K.frames.mem (List.mem_filterMap.mpr ⟨env, he, hf⟩)).2
      rw [(N q hq).2.2] at ho; cases ho
  exact leaves_madeOs K'.stack rfl (fun b o q => of_hideAll _ q) (funFrames_hide K'.frames hin) hx fun h' t x1 x2 x3 x4 =>
    hQ h' t ⟨⟨_, st, hl, x1, x3⟩, x2⟩ (((Heap.UpToSlots.of_keeps F.keep).trans (Heap.UpToSlots.of_keeps hx.keeps)).trans x4)
theorem leave_raiseOsS {vs : List Value} (K : Below A base outer g) (hx : MadeOs h s'.heap e vs) (F : Fr g L h m) (N : News g L h news)
    (hQ : ∀ h' t, RaisedS base g outer e (.type "OSError") t vs news h' → g.UpToSlots h' → Q () { s' with heap := h' }) (hk : scope.kind = .function := by rfl) :
    wpAny M (A.deeper (envOf name scope L a cd)) (leaving (envOf name scope L a cd) (.ref e)) Q E s' := by
  have K' := K.push (name := name) (a := a) (cd := cd) F hk
  have hin : ∀ env ∈ (envOf name scope L a cd :: outer), ∀ b, env.frame = some b → b ∈ (envOf name scope L a cd :: outer).filterMap (·.frame) := fun env he b hb => List.mem_filterMap.mpr ⟨env, he, hb⟩
  have st : base.StaysIn (hideAll h ((envOf name scope L a cd :: outer).filterMap (·.frame))) := fun b o q => hideAll_get _ (K'.stays b o q) fun hm => by
    rw [(K'.frames.mem hm).1] at q; cases q
  have sg : ∀ b o, g.get? b = some o → b ∉ outer.filterMap (·.frame) → (hideAll h ((envOf name scope L a cd :: outer).filterMap (·.frame))).get? b = some o := fun b o q nm => hideAll_get _ (F.keep b o q) fun hm => by
    rcases kts_mem hm with z | z
    · rw [z, kts_self F] at q
      cases q
    · exact nm z
  have hl : ∀ q ∈ news, (hideAll h ((envOf name scope L a cd :: outer).filterMap (·.frame))).get? q.1 = some q.2 ∧ g.get? q.1 = none ∧ base.get? q.1 = none := fun q hq => by
    refine ⟨hideAll_get _ (N q hq).1 fun hm => ?_, (N q hq).2.2, fresh_of_stays K.stays (N q hq).2.2⟩
    obtain ⟨env, he, hf⟩ := List.mem_filterMap.mp hm
    rcases List.mem_cons.mp he with rfl | he
    · exact (N q hq).2.1 (Option.some.inj hf).symm
    · obtain ⟨o, ho, _⟩ := (K.frames.mem (List.mem_filterMap.mpr ⟨env, he, hf⟩)).2
      rw [(N q hq).2.2] at ho; cases ho
  exact leaves_madeOs K'.stack rfl (fun b o q => of_hideAll _ q) (funFrames_hide K'.frames hin) hx fun h' t x1 x2 x3 x4 =>
    hQ h' t ⟨⟨_, st, sg, hl, x1, x3⟩, x2⟩ (((Heap.UpToSlots.of_keeps F.keep).trans (Heap.UpToSlots.of_keeps hx.keeps)).trans x4)
theorem mem_of_cons {env : Env} {L b : Addr} {outer : List Env} (hf : env.frame = some L) (hm : b ∈ (env :: outer).filterMap (·.frame)) : b = L ∨ b ∈ outer.filterMap (·.frame) := by
  obtain ⟨en, he, hf'⟩ := List.mem_filterMap.mp hm
  rcases List.mem_cons.mp he with rfl | he
  · rw [hf] at hf'; exact .inl (Option.some.inj hf').symm
  · exact .inr (List.mem_filterMap.mpr ⟨en, he, hf'⟩)
theorem leave_onXS {env : Env} {cls : Value} {vs : List Value} (K : Below A base outer g) (hf : env.frame = some L) (F : Fr g L g₂ m) (R : RaisedS base g₂ (env :: outer) e cls t vs news s'.heap) (hsm : g₂.UpToSlots s'.heap)
    (hQ : ∀ h', RaisedS base g outer e cls t vs news h' → g.UpToSlots h' → Q () { s' with heap := h' }) :
    wpAny M (A.deeper env) (leaving env (.ref e)) Q E s' := by
  obtain ⟨⟨B, hB, hBG, hl, hfl, hnew⟩, htup⟩ := R
  exact wpAny_leaves_onW (Around.frames_deeper K.stack) hf hfl fun h' x1 x2 =>
    have R : RaisedS base g outer e cls t vs news h' := ⟨⟨B, hB, fun b o q nm => hBG b o (F.keep b o q) (fun hm => by
      rcases mem_of_cons hf hm with z | z
      · rw [z, kts_self F] at q
        cases q
      · exact nm z), fun q hq => ⟨(hl q hq).1, kts_none F.keep (hl q hq).2.1, (hl q hq).2.2⟩, x1, hnew⟩, htup.of_slots x2⟩
    hQ h' R ((Heap.UpToSlots.of_keeps F.keep).trans (hsm.trans x2))
end
end
theorem words1 : True := by
  k_with "leaving ref" => first | ((k_here; first | (refine' leave_raiseS ?zq1k1 ?zq1k0 ?zq1k2 ?zq1k3 ?_; (case zq1k0 => first | assumption | exact Heap.MadeExc.of (by assumption)); (case zq1k2 => assumption); (case zq1k1 => assumption); (case zq1k3 => k_asm); k_whole; intro h' t' S' R' U'; (try dsimp only at S' R' U' ⊢)) | (refine' leave_raiseOsS ?zq1k1 ?zq1k0 ?zq1k2 ?zq1k3 ?_; (case zq1k0 => assumption); (case zq1k1 => assumption); (case zq1k2 => assumption); (case zq1k3 => k_asm); k_whole; intro h' t' S' U'; (try dsimp only at S' U' ⊢)) | (refine' leave_onXS ?zq1k1 rfl ?zq1k2 ?zq1k3 ?zq1k4 ?_; (case zq1k3 => assumption); (case zq1k1 => assumption); (case zq1k4 => assumption); (case zq1k2 => assumption); k_whole; intro h' S' U'; (try dsimp only at S' U' ⊢)))) | fail "no"
  k_with "exec Raise some none" => first | (((with_reducible show wpAny _ _ (exec (Stmt.Raise (some (Expr.Call (Expr.Name (PySem.Str.ofString "OSError") _) _ _ _)) none _) _) _ _ _); refine Raise_os rfl ?_)) | fail "no"
  k_with "call type:OSError" => first | ((refine call_os_raise ?_; intro h' e' M')) | fail "no"
  trivial
local macro_rules | `(tactic| k_caught0) => `(tactic| ((with_reducible show wpAny _ _ (noteFrame _ _) (fun _ s₂ => wpAny _ _ (setFlight _ none) (fun _ s₃ => wpAny _ _ (handleBy _ _ (ExceptHandler.ExceptHandler (some (Expr.Name (PySem.Str.ofString "OSError") _)) none _ _ :: _)) _ _ s₃) _ s₂) _ _); refine caught_K0 (T' := "OSError") (by assumption) (by assumption) (by assumption) (by assumption) (by k_asm) os_boot os_exc os_notTuple os_self ?_))
local macro_rules | `(tactic| kts_caught) => `(tactic| ((with_reducible show wpAny _ _ (noteFrame _ _) (fun _ s₂ => wpAny _ _ (setFlight _ none) (fun _ s₃ => wpAny _ _ (handleBy _ _ (ExceptHandler.ExceptHandler (some (Expr.Name ("OSError" : Str) _)) none _ _ :: _)) _ _ s₃) _ s₂) _ _); k_dflt (refine' caught_S0 (T' := "OSError") ?R ?F ?K ?U ?XB ?TB ?D ?T0 ?ex os_boot ?hn os_exc os_notTuple os_self ?_; (case R => assumption); (case F => assumption); (case K => assumption); (case U => assumption); (case XB => assumption); (case TB => assumption); (case D => assumption); (case T0 => first | assumption | exact KtsTurn.refl); (case ex => k_is); (case hn => decide); k_whole); intro h' g' n₂ T' F' N₂ G' N' K' X' P' D'; (try k_lift K'); (try k_sweep)))
section
/-- count octets from off on -/
def cutZ (T : Array UInt8) (off i : Int) : Array UInt8 := KBy.picked T (some off) (some (off + i))
theorem cutZ_size {T : Array UInt8} {off i : Int} (h0 : 0 ≤ off) (h1 : 0 ≤ i) : ((cutZ T off i).size : Int) = min i (max 0 (T.size - off)) := by
  unfold cutZ
  rw [KBc.picked_eq]
  simp only [Option.elim, List.size_toArray, List.length_take, List.length_drop, Array.length_toList]
  obtain ⟨a, rfl⟩ := Int.eq_ofNat_of_zero_le h0
  obtain ⟨b, rfl⟩ := Int.eq_ofNat_of_zero_le h1
  rw [show ((a : Int) + (b : Int)) = ((a + b : Nat) : Int) from rfl]
  simp only [clipAt_nat]
  generalize T.size = n
  have key : min (min (a + b) n - min a n) (n - min a n) = min b (n - a) := by
    rcases Nat.le_total a n with h | h
    · obtain ⟨k, rfl⟩ := Nat.exists_eq_add_of_le h
      rw [Nat.min_eq_left h, Nat.add_min_add_left, Nat.add_sub_cancel_left, Nat.add_sub_cancel_left, Nat.min_assoc, Nat.min_self]
    · rw [Nat.min_eq_right h, Nat.min_eq_right (Nat.le_trans h (Nat.le_add_right a b)), Nat.sub_self, Nat.min_self, Nat.sub_eq_zero_of_le h, Nat.min_zero]
  rw [key]
  omega

abbrev k67 : Array UInt8 := #[80, 75, 6, 7]
abbrev k66 : Array UInt8 := #[80, 75, 6, 6]
abbrev k56 : Array UInt8 := #[80, 75, 5, 6]
inductive E64 where
  | same
  | bad
  | put (sig : Array UInt8) (a b c d e f loc : Int)
/-- what _EndRecData64 does at the end record's place -/
def e64 (T : Array UInt8) (off : Int) : E64 :=
  if off - 20 < 0 then .same else
  let b := cutZ T (off - 20) 20
  if ((b.extract 0 4).toList != k67.toList) = true then .same else
  if leN b 4 4 ≠ 0 then .bad else
  if 1 < leN b 16 4 then .bad else
  if off - 20 - 56 < leN b 8 8 then .bad else
  let c := cutZ T (leN b 8 8) 56
  if startsB c k66 = true then
    if leN c 48 8 + leN c 40 8 ≠ leN b 8 8 then .bad else
    if leN c 4 8 + 12 ≠ 56 + (off - 20 - 56 - leN b 8 8) then .bad else
    .put (c.extract 0 4) (leN c 16 4) (leN c 20 4) (leN c 24 8) (leN c 32 8) (leN c 40 8) (leN c 48 8) (off - 20 - 56 - (off - 20 - 56 - leN b 8 8))
  else if leN b 8 8 ≠ off - 20 - 56 then
    let d := cutZ T (off - 20 - 56) 56
    if startsB d k66 = true then
      if leN d 48 8 + leN d 40 8 ≠ leN b 8 8 then .bad else
      if leN d 4 8 + 12 ≠ 56 + 0 then .bad else
      .put (d.extract 0 4) (leN d 16 4) (leN d 20 4) (leN d 24 8) (leN d 32 8) (leN d 40 8) (leN d 48 8) (off - 20 - 56 - 0)
    else .bad
  else .bad
section
variable {T b c d : Array UInt8} {off : Int}
theorem e64_s1 (h : off - 20 < 0) : e64 T off = .same := by unfold e64; rw [if_pos h]
theorem e64_s2 (h : ¬ off - 20 < 0) (e1 : b = cutZ T (off - 20) 20) (g : ((b.extract 0 4).toList != k67.toList) = true) : e64 T off = .same := by
  subst e1; unfold e64; rw [if_neg h]; dsimp only; rw [if_pos g]
theorem e64_b1 (h : ¬ off - 20 < 0) (e1 : b = cutZ T (off - 20) 20) (g : ((b.extract 0 4).toList != k67.toList) = false) (g1 : leN b 4 4 ≠ 0) : e64 T off = .bad := by
  subst e1; unfold e64; rw [if_neg h]; dsimp only; rw [if_neg (by rw [g]; exact Bool.false_ne_true), if_pos g1]
theorem e64_b2 (h : ¬ off - 20 < 0) (e1 : b = cutZ T (off - 20) 20) (g : ((b.extract 0 4).toList != k67.toList) = false) (g1 : leN b 4 4 = 0) (g2 : 1 < leN b 16 4) : e64 T off = .bad := by
  subst e1; unfold e64; rw [if_neg h]; dsimp only; rw [if_neg (by rw [g]; exact Bool.false_ne_true), if_neg (not_not_intro g1), if_pos g2]
theorem e64_b3 (h : ¬ off - 20 < 0) (e1 : b = cutZ T (off - 20) 20) (g : ((b.extract 0 4).toList != k67.toList) = false) (g1 : leN b 4 4 = 0) (g2 : ¬ 1 < leN b 16 4) (g3 : off - 20 - 56 < leN b 8 8) : e64 T off = .bad := by
  subst e1; unfold e64; rw [if_neg h]; dsimp only; rw [if_neg (by rw [g]; exact Bool.false_ne_true), if_neg (not_not_intro g1), if_neg g2, if_pos g3]
theorem e64_b4 (h : ¬ off - 20 < 0) (e1 : b = cutZ T (off - 20) 20) (g : ((b.extract 0 4).toList != k67.toList) = false) (g1 : leN b 4 4 = 0) (g2 : ¬ 1 < leN b 16 4) (g3 : ¬ off - 20 - 56 < leN b 8 8)
    (e2 : c = cutZ T (leN b 8 8) 56) (g4 : startsB c k66 = true) (g5 : leN c 48 8 + leN c 40 8 ≠ leN b 8 8) : e64 T off = .bad := by
  subst e1 e2; unfold e64; rw [if_neg h]; dsimp only; rw [if_neg (by rw [g]; exact Bool.false_ne_true), if_neg (not_not_intro g1), if_neg g2, if_neg g3, if_pos g4, if_pos g5]
theorem e64_b5 (h : ¬ off - 20 < 0) (e1 : b = cutZ T (off - 20) 20) (g : ((b.extract 0 4).toList != k67.toList) = false) (g1 : leN b 4 4 = 0) (g2 : ¬ 1 < leN b 16 4) (g3 : ¬ off - 20 - 56 < leN b 8 8)
    (e2 : c = cutZ T (leN b 8 8) 56) (g4 : startsB c k66 = true) (g5 : leN c 48 8 + leN c 40 8 = leN b 8 8) (g6 : leN c 4 8 + 12 ≠ 56 + (off - 20 - 56 - leN b 8 8)) : e64 T off = .bad := by
  subst e1 e2; unfold e64; rw [if_neg h]; dsimp only; rw [if_neg (by rw [g]; exact Bool.false_ne_true), if_neg (not_not_intro g1), if_neg g2, if_neg g3, if_pos g4, if_neg (not_not_intro g5), if_pos g6]
theorem e64_p1 (h : ¬ off - 20 < 0) (e1 : b = cutZ T (off - 20) 20) (g : ((b.extract 0 4).toList != k67.toList) = false) (g1 : leN b 4 4 = 0) (g2 : ¬ 1 < leN b 16 4) (g3 : ¬ off - 20 - 56 < leN b 8 8)
    (e2 : c = cutZ T (leN b 8 8) 56) (g4 : startsB c k66 = true) (g5 : leN c 48 8 + leN c 40 8 = leN b 8 8) (g6 : leN c 4 8 + 12 = 56 + (off - 20 - 56 - leN b 8 8)) :
    e64 T off = .put (c.extract 0 4) (leN c 16 4) (leN c 20 4) (leN c 24 8) (leN c 32 8) (leN c 40 8) (leN c 48 8) (off - 20 - 56 - (off - 20 - 56 - leN b 8 8)) := by
  subst e1 e2; unfold e64; rw [if_neg h]; dsimp only; rw [if_neg (by rw [g]; exact Bool.false_ne_true), if_neg (not_not_intro g1), if_neg g2, if_neg g3, if_pos g4, if_neg (not_not_intro g5), if_neg (not_not_intro g6)]
theorem e64_b6 (h : ¬ off - 20 < 0) (e1 : b = cutZ T (off - 20) 20) (g : ((b.extract 0 4).toList != k67.toList) = false) (g1 : leN b 4 4 = 0) (g2 : ¬ 1 < leN b 16 4) (g3 : ¬ off - 20 - 56 < leN b 8 8)
    (e2 : c = cutZ T (leN b 8 8) 56) (g4 : startsB c k66 = false) (g7 : leN b 8 8 ≠ off - 20 - 56) (e3 : d = cutZ T (off - 20 - 56) 56) (g8 : startsB d k66 = true) (g5 : leN d 48 8 + leN d 40 8 ≠ leN b 8 8) : e64 T off = .bad := by
  subst e1 e2 e3; unfold e64; rw [if_neg h]; dsimp only; rw [if_neg (by rw [g]; exact Bool.false_ne_true), if_neg (not_not_intro g1), if_neg g2, if_neg g3, if_neg (by rw [g4]; exact Bool.false_ne_true), if_pos g7, if_pos g8, if_pos g5]
theorem e64_b7 (h : ¬ off - 20 < 0) (e1 : b = cutZ T (off - 20) 20) (g : ((b.extract 0 4).toList != k67.toList) = false) (g1 : leN b 4 4 = 0) (g2 : ¬ 1 < leN b 16 4) (g3 : ¬ off - 20 - 56 < leN b 8 8)
    (e2 : c = cutZ T (leN b 8 8) 56) (g4 : startsB c k66 = false) (g7 : leN b 8 8 ≠ off - 20 - 56) (e3 : d = cutZ T (off - 20 - 56) 56) (g8 : startsB d k66 = true) (g5 : leN d 48 8 + leN d 40 8 = leN b 8 8) (g6 : leN d 4 8 + 12 ≠ 56 + 0) : e64 T off = .bad := by
  subst e1 e2 e3; unfold e64; rw [if_neg h]; dsimp only; rw [if_neg (by rw [g]; exact Bool.false_ne_true), if_neg (not_not_intro g1), if_neg g2, if_neg g3, if_neg (by rw [g4]; exact Bool.false_ne_true), if_pos g7, if_pos g8, if_neg (not_not_intro g5), if_pos g6]
theorem e64_p2 (h : ¬ off - 20 < 0) (e1 : b = cutZ T (off - 20) 20) (g : ((b.extract 0 4).toList != k67.toList) = false) (g1 : leN b 4 4 = 0) (g2 : ¬ 1 < leN b 16 4) (g3 : ¬ off - 20 - 56 < leN b 8 8)
    (e2 : c = cutZ T (leN b 8 8) 56) (g4 : startsB c k66 = false) (g7 : leN b 8 8 ≠ off - 20 - 56) (e3 : d = cutZ T (off - 20 - 56) 56) (g8 : startsB d k66 = true) (g5 : leN d 48 8 + leN d 40 8 = leN b 8 8) (g6 : leN d 4 8 + 12 = 56 + 0) :
    e64 T off = .put (d.extract 0 4) (leN d 16 4) (leN d 20 4) (leN d 24 8) (leN d 32 8) (leN d 40 8) (leN d 48 8) (off - 20 - 56 - 0) := by
  subst e1 e2 e3; unfold e64; rw [if_neg h]; dsimp only; rw [if_neg (by rw [g]; exact Bool.false_ne_true), if_neg (not_not_intro g1), if_neg g2, if_neg g3, if_neg (by rw [g4]; exact Bool.false_ne_true), if_pos g7, if_pos g8, if_neg (not_not_intro g5), if_neg (not_not_intro g6)]
theorem e64_b8 (h : ¬ off - 20 < 0) (e1 : b = cutZ T (off - 20) 20) (g : ((b.extract 0 4).toList != k67.toList) = false) (g1 : leN b 4 4 = 0) (g2 : ¬ 1 < leN b 16 4) (g3 : ¬ off - 20 - 56 < leN b 8 8)
    (e2 : c = cutZ T (leN b 8 8) 56) (g4 : startsB c k66 = false) (g7 : leN b 8 8 ≠ off - 20 - 56) (e3 : d = cutZ T (off - 20 - 56) 56) (g8 : startsB d k66 = false) : e64 T off = .bad := by
  subst e1 e2 e3; unfold e64; rw [if_neg h]; dsimp only; rw [if_neg (by rw [g]; exact Bool.false_ne_true), if_neg (not_not_intro g1), if_neg g2, if_neg g3, if_neg (by rw [g4]; exact Bool.false_ne_true), if_pos g7, if_neg (by rw [g8]; exact Bool.false_ne_true)]
theorem e64_b9 (h : ¬ off - 20 < 0) (e1 : b = cutZ T (off - 20) 20) (g : ((b.extract 0 4).toList != k67.toList) = false) (g1 : leN b 4 4 = 0) (g2 : ¬ 1 < leN b 16 4) (g3 : ¬ off - 20 - 56 < leN b 8 8)
    (e2 : c = cutZ T (leN b 8 8) 56) (g4 : startsB c k66 = false) (g7 : leN b 8 8 = off - 20 - 56) : e64 T off = .bad := by
  subst e1 e2; unfold e64; rw [if_neg h]; dsimp only; rw [if_neg (by rw [g]; exact Bool.false_ne_true), if_neg (not_not_intro g1), if_neg g2, if_neg g3, if_neg (by rw [g4]; exact Bool.false_ne_true), if_neg (not_not_intro g7)]
end
theorem raised_sub {base G : Heap} {l : List Env} {e t : Addr} {cls : Value} {vs : List Value} {news news' : List (Addr × Obj)} {h : Heap} (R : RaisedS base G l e cls t vs news h) (hs : ∀ q ∈ news', q ∈ news) : RaisedS base G l e cls t vs news' h := by
  obtain ⟨⟨B, hB, hG, hl, r⟩, ht⟩ := R
  exact ⟨⟨B, hB, hG, fun q hq => hl q (hs q hq), r⟩, ht⟩

inductive EndR where
  | none
  | bad
  | row (sig : Array UInt8) (a b c d e f g : Int) (comm : Array UInt8) (loc : Int)
def fin (T c comm : Array UInt8) (off : Int) : EndR := match e64 T off with
  | .same => .row (c.extract 0 4) (leN c 4 2) (leN c 6 2) (leN c 8 2) (leN c 10 2) (leN c 12 4) (leN c 16 4) (leN c 20 2) comm off
  | .bad => .bad
  | .put sg a b c' d e f lo => .row sg a b c' d e f (leN c 20 2) comm lo
theorem fin_same {T c comm : Array UInt8} {off : Int} (h : e64 T off = .same) : fin T c comm off = .row (c.extract 0 4) (leN c 4 2) (leN c 6 2) (leN c 8 2) (leN c 10 2) (leN c 12 4) (leN c 16 4) (leN c 20 2) comm off := by unfold fin; rw [h]
theorem fin_bad {T c comm : Array UInt8} {off : Int} (h : e64 T off = .bad) : fin T c comm off = .bad := by unfold fin; rw [h]
theorem fin_put {T c comm sg : Array UInt8} {off x1 x2 x3 x4 x5 x6 lo : Int} (h : e64 T off = .put sg x1 x2 x3 x4 x5 x6 lo) : fin T c comm off = .row sg x1 x2 x3 x4 x5 x6 (leN c 20 2) comm lo := by unfold fin; rw [h]
def endTail (T D : Array UInt8) : EndR :=
  if rfindZ D k56 < 0 then .none else
  let c := KBy.picked D (some (rfindZ D k56)) (some (rfindZ D k56 + 22))
  if c.size ≠ 22 then .none else
  fin T c (KBy.picked D (some (rfindZ D k56 + 22)) (some (rfindZ D k56 + 22 + leN c 20 2))) (rfindZ D k56)
/-- what _EndRecData gives for a file of 22 octets or more -/
def endR (T : Array UInt8) : EndR :=
  if ((KBy.picked (cutZ T (T.size - 22) 22) (some 0) (some 4)).toList == k56.toList) = true then
    if ((KBy.picked (cutZ T (T.size - 22) 22) (some (-2)) none).toList == #[0, 0].toList) = true then fin T (cutZ T (T.size - 22) 22) #[] (T.size - 22)
    else endTail T (cutZ T 0 65557)
  else endTail T (cutZ T 0 65557)
section
variable {T b D : Array UInt8} {o1 off M K : Int} {sg : Array UInt8} {x1 x2 x3 x4 x5 x6 lo : Int}
theorem endR_1 (eb : b = cutZ T o1 22) (ho : o1 = T.size - 22) (a1 : ((KBy.picked b (some 0) (some 4)).toList == k56.toList) = true) (a2 : ((KBy.picked b (some (-2)) none).toList == #[0, 0].toList) = true) : endR T = fin T b #[] (T.size - 22) := by
  subst eb ho; unfold endR; rw [if_pos a1, if_pos a2]
theorem endR_2 (eb : b = cutZ T o1 22) (ho : o1 = T.size - 22) (a1 : ((KBy.picked b (some 0) (some 4)).toList == k56.toList) = true) (a2 : ((KBy.picked b (some (-2)) none).toList == #[0, 0].toList) = false) : endR T = endTail T (cutZ T 0 65557) := by
  subst eb ho; unfold endR; rw [if_pos a1, if_neg (by rw [a2]; exact Bool.false_ne_true)]
theorem endR_3 (eb : b = cutZ T o1 22) (ho : o1 = T.size - 22) (a1 : ((KBy.picked b (some 0) (some 4)).toList == k56.toList) = false) : endR T = endTail T (cutZ T 0 65557) := by
  subst eb ho; unfold endR; rw [if_neg (by rw [a1]; exact Bool.false_ne_true)]
theorem r_same1 (h : e64 T off = .same) (hz : endR T = fin T b #[] (T.size - 22)) (hf : off = T.size - 22) :
    endR T = .row (b.extract 0 4) (leN b 4 2) (leN b 6 2) (leN b 8 2) (leN b 10 2) (leN b 12 4) (leN b 16 4) (leN b 20 2) #[] off := by
  subst hf; exact hz.trans (fin_same h)
theorem r_bad1 (h : e64 T off = .bad) (hz : endR T = fin T b #[] (T.size - 22)) (hf : off = T.size - 22) : endR T = .bad := by
  subst hf; exact hz.trans (fin_bad h)
theorem r_put1 (h : e64 T off = .put sg x1 x2 x3 x4 x5 x6 lo) (hz : endR T = fin T b #[] (T.size - 22)) (hf : off = T.size - 22) : endR T = .row sg x1 x2 x3 x4 x5 x6 (leN b 20 2) #[] lo := by
  subst hf; exact hz.trans (fin_put h)
theorem tail_n1 (h0 : ¬ 0 ≤ rfindZ D k56) (eD : D = cutZ T M K) (hM : M = 0) (hK : K = 65557) : endTail T (cutZ T 0 65557) = .none := by
  subst hM hK eD; unfold endTail; rw [if_pos (by omega)]
theorem tail_n2 (h0 : 0 ≤ rfindZ D k56) (eD : D = cutZ T M K) (hM : M = 0) (hK : K = 65557) (hc : ((KBy.picked D (some (rfindZ D k56)) (some (rfindZ D k56 + 22))).size : Int) ≠ 22) : endTail T (cutZ T 0 65557) = .none := by
  subst hM hK eD; unfold endTail; rw [if_neg (by omega)]; dsimp only; rw [if_pos (by omega)]
theorem tail_f (h0 : 0 ≤ rfindZ D k56) (eD : D = cutZ T M K) (hM : M = 0) (hK : K = 65557) (hc : ((KBy.picked D (some (rfindZ D k56)) (some (rfindZ D k56 + 22))).size : Int) = 22) :
    endTail T (cutZ T 0 65557) = fin T (KBy.picked D (some (rfindZ D k56)) (some (rfindZ D k56 + 22))) (KBy.picked D (some (rfindZ D k56 + 22)) (some (rfindZ D k56 + 22 + leN (KBy.picked D (some (rfindZ D k56)) (some (rfindZ D k56 + 22))) 20 2))) (rfindZ D k56) := by
  subst hM hK eD; unfold endTail; rw [if_neg (by omega)]; dsimp only; rw [if_neg (by omega)]
theorem r_same2 {c comm : Array UInt8} {r : Int} (h : e64 T (M + r) = .same) (hz : endR T = endTail T (cutZ T 0 65557)) (hy : endTail T (cutZ T 0 65557) = fin T c comm r) (hf : M = 0) :
    endR T = .row (c.extract 0 4) (leN c 4 2) (leN c 6 2) (leN c 8 2) (leN c 10 2) (leN c 12 4) (leN c 16 4) (leN c 20 2) comm (M + r) := by
  subst hf; rw [Int.zero_add] at h ⊢; exact hz.trans (hy.trans (fin_same h))
theorem r_bad2 {c comm : Array UInt8} {r : Int} (h : e64 T (M + r) = .bad) (hz : endR T = endTail T (cutZ T 0 65557)) (hy : endTail T (cutZ T 0 65557) = fin T c comm r) (hf : M = 0) : endR T = .bad := by
  subst hf; rw [Int.zero_add] at h; exact hz.trans (hy.trans (fin_bad h))
theorem r_put2 {c comm : Array UInt8} {r : Int} (h : e64 T (M + r) = .put sg x1 x2 x3 x4 x5 x6 lo) (hz : endR T = endTail T (cutZ T 0 65557)) (hy : endTail T (cutZ T 0 65557) = fin T c comm r) (hf : M = 0) :
    endR T = .row sg x1 x2 x3 x4 x5 x6 (leN c 20 2) comm lo := by
  subst hf; rw [Int.zero_add] at h; exact hz.trans (hy.trans (fin_put h))
end
theorem rfindZ_lo {b c : Array UInt8} : -1 ≤ rfindZ b c := by unfold rfindZ; split <;> omega
theorem rfindZ_hi {b c : Array UInt8} : rfindZ b c ≤ b.size := by
  unfold rfindZ
  split
  · next i h =>
    have := List.mem_of_find?_eq_some h
    simp only [List.mem_reverse, List.mem_map, List.mem_range] at this
    obtain ⟨a, ha, rfl⟩ := this
    omega
  · omega
end
abbrev Pg : Program := PySem.Challenge.rw_in0114_01.row.prog
abbrev CTok := Tok
abbrev CAddr := Addr
/-- a call's claim: what stands around it, then what must follow -/
abbrev CallT (w : World) (p : Program) (loose : List Str) (mean : ExcName → Option Value) (mg mb : Str → Option Value) (f : Addr) (vs : List Value) (news : List (Addr × Obj)) (dep uni : Nat)
    (P : (base h₀ : Heap) → (L : Addr) → (m : Str → Option Value) → (s : Shared) → (Q E : Value → Shared → Prop) → (outer : List Env) → Prop) : Prop :=
  ∀ (dp un : Nat) (gd : Option (List Code)) (cn : Str) (nm : List (Str × NameKind)) (ig ic : Bool) (mo : List (Str × Const)) (a : Addr) (ccd : Value) (cl : List (Str × Addr)) (outer : List Env) (A₀ : Around) (base h₀ : Heap) (L : Addr) (m : Str → Option Value) (s : Shared) (Q E : Value → Shared → Prop),
    Below A₀ base outer h₀ → Fr h₀ L s.heap m → (hd.heap_39 w.params).In h₀ → News h₀ L s.heap news → Top p loose mean mg mb h₀ → dp + dep < recursionLimit → un + uni < cLine →
    P base h₀ L m s Q E (envX cn ⟨.function, nm, ig, ic, mo⟩ L a ccd cl :: outer) →
    wpAny (model Pg w) (ktrTop dp un gd cn ⟨.function, nm, ig, ic, mo⟩ L a ccd cl outer) (call (.ref f) vs) Q E s

theorem ne_lt0 {d : Nat} {rest : List (Addr × Obj)} (h : AllLt d rest) : ∀ p ∈ rest, p.1 ≠ d := fun p hp => Nat.ne_of_lt (ktn_ltOf h p hp)
theorem ne_lt1 {d : Nat} {rest : List (Addr × Obj)} (h : AllLt d rest) : ∀ p ∈ rest, p.1 ≠ d + 1 := fun p hp => Nat.ne_of_lt (Nat.lt_succ_of_lt (ktn_ltOf h p hp))
theorem ne_lt2 {d : Nat} {rest : List (Addr × Obj)} (h : AllLt d rest) : ∀ p ∈ rest, p.1 ≠ d + 1 + 1 := fun p hp => Nat.ne_of_lt (Nat.lt_succ_of_lt (Nat.lt_succ_of_lt (ktn_ltOf h p hp)))
theorem words2 : True := by
  k_with "mine lt" => first | (first | assumption | exact And.right (by assumption) | exact And.right (And.right (by assumption)) | exact And.right (And.right (And.right (by assumption))) | exact And.right (And.right (And.right (And.right (by assumption)))) | exact And.right (And.right (And.right (And.right (And.right (by assumption))))) | exact And.right (And.right (And.right (And.right (And.right (And.right (by assumption)))))) | exact And.right (And.right (And.right (And.right (And.right (And.right (And.right (by assumption))))))) | exact And.right (And.right (And.right (And.right (And.right (And.right (And.right (And.right (by assumption)))))))) | exact And.right (And.right (And.right (And.right (And.right (And.right (And.right (And.right (And.right (by assumption)))))))))  | exact And.right (And.right (And.right (And.right (And.right (And.right (And.right (And.right (And.right (And.right (by assumption))))))))))  | exact And.right (And.right (And.right (And.right (And.right (And.right (And.right (And.right (And.right (And.right (And.right (by assumption)))))))))))) | fail "no"
  trivial
local macro_rules | `(tactic| k_all) => `(tactic| (first | (with_reducible assumption) | exact ne_lt0 (by k_extra "mine lt") | exact ne_lt1 (by k_extra "mine lt") | exact ne_lt2 (by k_extra "mine lt")))
local macro_rules | `(tactic| k_room) => `(tactic| ktr_room)
theorem words3 : True := by
  k_with "mine enter" => first | ((refine wpAny_call ?_; k_dflt (first | (refine' code_def ?zq5k1 ?zq5k2 ?zq5k3 ?zq5k4 ?zq5k5 ?zq5kA ?zq5kF ?zq5kK ?zq5k6 ?zq5k7 ?zq5k8 ?zq5k9 ?zq5kB ?_ ?zq5c2 ?zq5c3 ?zq5c4 ?zq5c5; (case zq5kA => exact rfl); (case zq5kF => exact rfl); (case zq5kK => exact rfl); (case zq5k1 => k_asm); (case zq5k2 => k_asm); (case zq5k3 => k_asm); (case zq5k4 => k_asm); (case zq5k5 => k_asm); (case zq5k6 => k_is); (case zq5k7 => k_is); (case zq5k8 => ktr_room); (case zq5k9 => first | exact BindsTo.of_eq rfl | exact binds_K (by k_in) rfl (by k_is) rfl rfl rfl); (case zq5c5 => decide); (case zq5kB => exact locs rfl); (case zq5c2 => exact rfl); (case zq5c3 => exact rfl); (case zq5c4 => exact rfl); k_whole; intro g' L' h' FG' F' N' B' X' T'; (try dsimp only); (try k_lift B'); (try k_fold)) | (refine' code_defC ?zq5k1 ?zq5k2 ?zq5k3 ?zq5k4 ?zq5k5 ?zq5kA ?zq5kF ?zq5kK ?zq5k6 ?zq5k7 ?zq5k8 ?zq5k9 ?zq5kB ?zq5kD ?_ ?zq5c2 ?zq5c3 ?zq5c4; (case zq5kA => exact rfl); (case zq5kF => exact rfl); (case zq5kK => exact rfl); (case zq5k1 => k_asm); (case zq5k2 => k_asm); (case zq5k3 => k_asm); (case zq5k4 => k_asm); (case zq5k5 => k_asm); (case zq5k6 => k_is); (case zq5k7 => k_is); (case zq5k8 => ktr_room); (case zq5k9 => first | exact BindsTo.of_eq rfl | exact binds_K (by k_in) rfl (by k_is) rfl rfl rfl); (case zq5kB => exact rfl); (case zq5kD => decide +kernel); (case zq5c2 => exact rfl); (case zq5c3 => exact rfl); (case zq5c4 => exact rfl); k_whole; intro g' L' h' tk' cells' FG' F' N' Y' B' X' T' l1; (try k_lt l1); k_cells Y'; (try simp only [List.cons_append, List.nil_append] at N'); (try dsimp only); (try k_lift B'); (try k_fold))))) | fail "no"
  trivial

theorem words4 : True := by
  k_with "mine enter" => first | ((refine wpAny_call ?_; k_dflt (first | (refine' kla_code ?zq6k1 ?zq6k2 ?zq6k3 ?zq6k4 ?zq6k5 ?zq6kA ?zq6kF ?zq6kK ?zq6k6 ?zq6k7 ?zq6k8 ?zq6k9 ?zq6kB ?_ ?zq6c2 ?zq6c3 ?zq6c4 ?zq6c5; (case zq6kA => exact rfl); (case zq6kF => exact rfl); (case zq6kK => exact rfl); (case zq6k1 => k_asm); (case zq6k2 => k_asm); (case zq6k3 => k_asm); (case zq6k4 => k_asm); (case zq6k5 => k_asm); (case zq6k6 => k_mem); (case zq6k7 => exact codeRec_news (by k_asm) (by k_mem) (by assumption) (by assumption)); (case zq6k8 => ktr_room); (case zq6k9 => exact rfl); (case zq6c5 => decide); (case zq6kB => exact locs rfl); (case zq6c2 => exact rfl); (case zq6c3 => exact rfl); (case zq6c4 => exact rfl); k_whole; intro g' L' h' FG' F' N' B' X' T'; (try dsimp only); (try k_lift B'); (try k_fold)) | (refine' kdv_codeE ?zq6k1 ?zq6k2 ?zq6k3 ?zq6k4 ?zq6k5 ?zq6kA ?zq6kF ?zq6kK ?zq6k6 ?zq6k7 ?zq6k8 ?zq6k9 ?zq6kB ?_ ?zq6c2 ?zq6c3 ?zq6c4 ?zq6c5; (case zq6kA => exact rfl); (case zq6kF => exact rfl); (case zq6kK => exact rfl); (case zq6k1 => k_asm); (case zq6k2 => k_asm); (case zq6k3 => k_asm); (case zq6k4 => k_asm); (case zq6k5 => k_asm); (case zq6k6 => k_mem); (case zq6k7 => exact codeRec_news (by k_asm) (by k_mem) (by assumption) (by assumption)); (case zq6k8 => ktr_room); (case zq6k9 => kdv_bind); (case zq6c5 => decide); (case zq6kB => exact locs rfl); (case zq6c2 => exact rfl); (case zq6c3 => exact rfl); (case zq6c4 => exact rfl); k_whole; intro g' L' h' FG' F' N' B' X' T'; (try dsimp only); (try k_lift B'); (try k_fold))))) | fail "no"
  trivial

theorem words5 : True := by
  k_with "mine size" => first | (first | omega | exact Nat.le_trans (KBc.size_picked_le _ _ _) (by first | omega | exact Nat.le_trans (KBc.size_picked_le _ _ _) (by omega))) | fail "no"
  k_with "subscriptTail" => first | ((k_here; (with_reducible show wpAny _ _ (subscriptTail _ (Expr.Slice _ _ none _) (Value.bytes _ _) (Value.ref _)) _ _ _); (with_reducible rename Fr _ _ _ _ => F'); (with_reducible rename News _ _ _ _ => N'); (refine slice_M (s := ⟨_, _, _, _, _⟩) F' N' (by constructor) (by constructor) (by k_extra "mine size") ?_); intro h' t' k' F' N')) | fail "no"
  k_with "call builtin:len" => first | ((k_here; (with_reducible show wpAny _ _ (call (Value.builtin "len") [Value.bytes _ _]) _ _ _); (refine len_M (by k_extra "mine size") ?_))) | fail "no"
  k_with "compareOp Eq bytes bytes" => first | (refine eq_bytes ?_) | fail "no"
  k_with "compareOp NotEq bytes bytes" => first | (refine ne_bytes ?_) | fail "no"
  trivial

section
variable {w : World} {p : Program} {loose : List Str} {mean : ExcName → Option Value} {mg mb : Str → Option Value} {fa : Addr} {vs : List Value} {news : List (Addr × Obj)} {dep uni : Nat}
  {P : (base h₀ : Heap) → (L : Addr) → (m : Str → Option Value) → (s : Shared) → (Q E : Value → Shared → Prop) → (outer : List Env) → Prop}
  {dp un : Nat} {gd : Option (List Code)} {cn : Str} {nm : List (Str × NameKind)} {ig ic : Bool} {mo : List (Str × Const)} {a : Addr} {ccd : Value} {cl : List (Str × Addr)} {outer : List Env} {A₀ : Around} {base h₀ : Heap} {L : Addr} {m : Str → Option Value} {s : Shared} {Q E : Value → Shared → Prop}
theorem use_call (C : CallT w p loose mean mg mb fa vs news dep uni P) (B : Below A₀ base outer h₀) (F : Fr h₀ L s.heap m) (X : (hd.heap_39 w.params).In h₀) (N : News h₀ L s.heap news) (T : Top p loose mean mg mb h₀) (hd : dp + dep < recursionLimit) (hu : un + uni < cLine)
    {a' : Addr} {vs' : List Value} (ha : a' = fa) (hv : vs' = vs) (k : P base h₀ L m s Q E (envX cn ⟨.function, nm, ig, ic, mo⟩ L a ccd cl :: outer)) : wpAny (model Pg w) (ktrTop dp un gd cn ⟨.function, nm, ig, ic, mo⟩ L a ccd cl outer) (call (.ref a') vs') Q E s := by
  subst ha hv
  exact C _ _ _ _ _ _ _ _ _ _ _ _ _ _ _ _ _ _ _ _ B F X N T hd hu k
theorem news_sub {h : Heap} {news' : List (Addr × Obj)} (N : News h₀ L h news) (hs : ∀ q ∈ news', q ∈ news) : News h₀ L h news' := fun q hq => N q (hs q hq)
end
/-- names the tail of a ledger -/
structure Rest (l : List (Addr × Obj)) : Prop where
theorem words6 : True := by
  k_with "mine tail" => first | (first | assumption | (refine List.Mem.tail _ ?_; k_extra "mine tail")) | fail "no"
  k_with "mine sub" => first | (first | (intro mq mhq; k_extra "mine tail") | (refine' List.forall_mem_cons.mpr ⟨?zq13mh, ?zq13mt⟩; (case zq13mh => k_mem); (case zq13mt => k_extra "mine sub"))) | fail "no"
  k_with "mine news" => first | ((refine' news_sub ?zq14nN ?zq14nS; (case zq14nN => k_asm); (case zq14nS => k_extra "mine sub"))) | fail "no"
  k_with "mine apart" => first | (first | assumption | exact List.forall_mem_nil _ | (refine' List.forall_mem_cons.mpr ⟨?zq15ma, ?zq15mb⟩; (case zq15ma => (refine neN ?_; (try dsimp only); omega)); (case zq15mb => k_extra "mine apart"))) | fail "no"
  trivial

section
variable {M : Model} {A : Around} {E : Value → Shared → Prop} {s : Shared} {h₀ : Heap} {L a : Addr} {m : Str → Option Value} {cn : Str} {cs : Scope} {ccd : Value} {cl : List (Str × Addr)} {x : Str} {v : Value} {Q : Unit → Shared → Prop} {news : List (Addr × Obj)}
/-- a store that names the frame's new table -/
theorem store_let (F : Fr h₀ L s.heap m) (N : News h₀ L s.heap news)
    (h : let m' : Str → Option Value := fun y => if y = x then some v else m y; ∀ h', Fr h₀ L h' m' → News h₀ L h' news → Q () { s with heap := h', toks := s.toks + 1 })
    (hk : cs.kind = .function) (hx : (envX cn cs L a ccd cl).kindOf x = some .local) : wpAny M A (storeName (envX cn cs L a ccd cl) x v) Q E s :=
  storeX_L F N h hk hx
end
theorem words7 : True := by
  k_with "storeName" => first | ((k_here; k_dflt (refine' store_let ?zq16F ?zq16N ?_ ?zq16a ?zq16b; (case zq16F => k_asm); (case zq16N => k_asm); (case zq16a => rfl); (case zq16b => rfl); k_whole; intro fm h' F' N'; (try k_sweep)))) | fail "no"
  trivial
theorem ite_no' {c : Prop} [Decidable c] {X Y : Prop} (hc : ¬ c) (h : Y) : if c then X else Y := by rw [if_neg hc]; exact h
theorem ite_yes' {c : Prop} [Decidable c] {X Y : Prop} (hc : c) (h : X) : if c then X else Y := by rw [if_pos hc]; exact h
theorem words8 : True := by
  k_with "mine dec" => first | (((try simp only [decide_eq_true_eq, decide_eq_false_iff_not, Bool.not_eq_true, Bool.not_eq_false, ne_eq, Decidable.not_not, not_true_eq_false, not_false_eq_true, bne_iff_ne, beq_iff_eq, gt_iff_lt, ge_iff_le, Bool.not_eq_true', Bool.not_eq_false']); omega)) | fail "no"
  k_with "ite" => first | ((k_here; first | (refine ite_no' (by k_extra "mine dec") ?_) | (refine ite_yes' (by k_extra "mine dec") ?_))) | fail "no"
  k_with "call builtin:_struct.unpack" => first | ((k_here; k_dflt (first | (refine' unpack_loc ?zq19F ?zq19N ?zq19b ?_; (case zq19F => k_asm); (case zq19N => k_asm); (case zq19b => omega); k_whole; intro D' t0 t1 t2 t3 h' k' F' N' l1 p1; (try k_lt l1)) | (refine' unpack_wide ?zq19F ?zq19N ?zq19b ?_; (case zq19F => k_asm); (case zq19N => k_asm); (case zq19b => omega); k_whole; intro D' t0 t1 t2 t3 t4 t5 t6 t7 t8 t9 h' k' F' N' l1; (try k_lt l1)) | (refine' unpack_end ?zq19F ?zq19N ?zq19b ?_; (case zq19F => k_asm); (case zq19N => k_asm); (case zq19b => omega); k_whole; intro D' t0 t1 t2 t3 t4 t5 t6 t7 h' k' F' N' l1; (try k_lt l1))))) | fail "no"
  k_with "getMethod bytes" => first | ((first | (with_reducible refine method_rfind ?_) | (with_reducible refine method_starts ?_))) | fail "no"
  k_with "call builtin:bytes.rfind" => first | ((refine call_rfind ?_; intro t' k')) | fail "no"
  k_with "call builtin:bytes.startswith" => first | ((refine call_starts ?_; intro k')) | fail "no"
  trivial
open PySem.Calls
abbrev fnO (fd : FuncData) : Obj := { cls := .type "function", data := .func fd }
abbrev fileEs (P : Params) (k1 k2 k3 k4 : Tok) (off : Int) (to : Tok) (f1 f2 : Addr) : List DictEntry :=
  [{ hash := PyData.keyHash P "fp", key := .str "fp" k1, val := .none }, { hash := PyData.keyHash P "offset", key := .str "offset" k2, val := .int off to },
   { hash := PyData.keyHash P "seek", key := .str "seek" k3, val := .ref f1 }, { hash := PyData.keyHash P "read", key := .str "read" k4, val := .ref f2 }]
/-- what a file of the law's is made of -/
structure FileR where
  x : Nat
  d : Nat
  f1 : Nat
  f2 : Nat
  c1 : Nat
  c2 : Nat
  t0 : Nat
  cF : Nat
  cT : Nat
  fd1 : FuncData
  fd2 : FuncData
  oc1 : Obj
  oc2 : Obj
  ot : Obj
  oF : Obj
  oT : Obj
  k1 : Tok
  k2 : Tok
  k3 : Tok
  k4 : Tok
structure FileR.Ord (f : FileR) : Prop where
  o : f.cT < f.cF ∧ f.cF < f.d ∧ f.d < f.x ∧ f.x < f.t0 ∧ f.t0 < f.f1 ∧ f.f1 < f.f2 ∧ f.c1 < f.c2 ∧ f.c2 < f.f2
abbrev FLed (P : Params) (f : FileR) (off : Int) (to : Tok) (rest : List (Addr × Obj)) : List (Addr × Obj) :=
  (f.f2, fnO f.fd2) :: (f.c2, f.oc2) :: (f.f1, fnO f.fd1) :: (f.c1, f.oc1) :: (f.t0, f.ot) :: (f.x, instObj 114 f.d) :: (f.d, dictOf (fileEs P f.k1 f.k2 f.k3 f.k4 off to f.f1 f.f2) 4) :: (f.cF, f.oF) :: (f.cT, f.oT) :: rest
def SeekOK (w : World) (p : Program) (loose : List Str) (mean : ExcName → Option Value) (mg mb : Str → Option Value) (f : FileR) : Prop :=
  ∀ (rest : List (Addr × Obj)) (off i : Int) (to tp : Tok), Rest rest → (∀ p ∈ rest, p.1 ≠ f.d) → 0 ≤ i → i ≤ 16777216 →
  CallT w p loose mean mg mb f.f1 [.int i tp] (FLed w.params f off to rest) 2 20 (fun _base h₀ L m s Q _E _outer => ∀ (v : Value) (to' : Tok) (h' : Heap) (tk' : Nat), Fr h₀ L h' m → News h₀ L h' (FLed w.params f i to' rest) → Q v { s with heap := h', toks := tk' })
def ReadOK (w : World) (p : Program) (loose : List Str) (mean : ExcName → Option Value) (mg mb : Str → Option Value) (T : Array UInt8) (f : FileR) : Prop :=
  ∀ (rest : List (Addr × Obj)) (off i : Int) (to tp : Tok), Rest rest → (∀ p ∈ rest, p.1 ≠ f.d) → 0 ≤ off → off ≤ 16777216 → 0 ≤ i → i ≤ 16777216 →
  CallT w p loose mean mg mb f.f2 [.int i tp] (FLed w.params f off to rest) 2 20 (fun _base h₀ L m s Q _E _outer => ∀ (b : Array UInt8) (t to' : Tok) (off' : Int) (h' : Heap) (tk' : Nat), b = cutZ T off i → (b.size : Int) = min i (max 0 (T.size - off)) →
    Fr h₀ L h' m → News h₀ L h' (FLed w.params f off' to' rest) → Q (.bytes b t) { s with heap := h', toks := tk' })
def Seek2OK (w : World) (p : Program) (loose : List Str) (mean : ExcName → Option Value) (mg mb : Str → Option Value) (T : Array UInt8) (f : FileR) : Prop :=
  ∀ (rest : List (Addr × Obj)) (off i : Int) (to tp tw : Tok), Rest rest → (∀ p ∈ rest, p.1 ≠ f.d) → 0 ≤ i + T.size → i ≤ 16777216 →
  CallT w p loose mean mg mb f.f1 [.int i tp, .int 2 tw] (FLed w.params f off to rest) 2 20 (fun _base h₀ L m s Q _E _outer => ∀ (v : Value) (to' : Tok) (h' : Heap) (tk' : Nat), Fr h₀ L h' m → News h₀ L h' (FLed w.params f (i + T.size) to' rest) → Q v { s with heap := h', toks := tk' })
def Seek0OK (w : World) (p : Program) (loose : List Str) (mean : ExcName → Option Value) (mg mb : Str → Option Value) (f : FileR) : Prop :=
  ∀ (rest : List (Addr × Obj)) (off i : Int) (to tp tw : Tok), Rest rest → (∀ p ∈ rest, p.1 ≠ f.d) → 0 ≤ i → i ≤ 16777216 →
  CallT w p loose mean mg mb f.f1 [.int i tp, .int 0 tw] (FLed w.params f off to rest) 2 20 (fun _base h₀ L m s Q _E _outer => ∀ (v : Value) (to' : Tok) (h' : Heap) (tk' : Nat), Fr h₀ L h' m → News h₀ L h' (FLed w.params f i to' rest) → Q v { s with heap := h', toks := tk' })
def SeekBad (w : World) (p : Program) (loose : List Str) (mean : ExcName → Option Value) (mg mb : Str → Option Value) (T : Array UInt8) (f : FileR) : Prop :=
  ∀ (rest : List (Addr × Obj)) (off i : Int) (to tp tw : Tok), Rest rest → i + T.size < 0 → -16777216 ≤ i →
  CallT w p loose mean mg mb f.f1 [.int i tp, .int 2 tw] (FLed w.params f off to rest) 3 20 (fun base h₀ L m s _Q E outer => ∀ (g : Heap) (e t : Addr) (vs : List Value) (h' : Heap) (tk' : Nat), Fr h₀ L g m → RaisedS base g outer e (.type "OSError") t vs (FLed w.params f off to rest) h' → g.UpToSlots h' → E (.ref e) { s with heap := h', toks := tk' })
def AgainOK (w : World) (p : Program) (loose : List Str) (mean : ExcName → Option Value) (mg mb : Str → Option Value) (T : Array UInt8) (f : FileR) (ps : Array Value) : Prop :=
  ∀ (t : Tok) (rest : List (Addr × Obj)), CallT w p loose mean mg mb 180 [.bytes T t] ((f.c1, f.oc1) :: (f.c2, f.oc2) :: (175, tabObj ps) :: rest) 4 30 (fun base h₀ L m s Q _E _outer => CodeHd base 179 175 ∧
    ∀ (f' : FileR) (to : Tok) (h' : Heap) (tk' : Nat), f'.Ord → SeekOK w p loose mean mg mb f' → ReadOK w p loose mean mg mb T f' → f'.c1 = f.c1 → f'.c2 = f.c2 → (∀ p ∈ rest, p.1 < f'.cT) → f.c2 < f'.cT → 175 < f'.cT →
      Fr h₀ L h' m → News h₀ L h' (FLed w.params f' 0 to ((175, tabObj ps) :: rest)) → Q (.ref f'.x) { s with heap := h', toks := tk' })
theorem news_hd {h₀ h : Heap} {L : Addr} {q : Addr × Obj} {l : List (Addr × Obj)} (N : News h₀ L h (q :: l)) : News h₀ L h [q] := fun p hp => N p (by cases hp with | head => exact .head _ | tail _ e => cases e)
theorem news_tl {h₀ h : Heap} {L : Addr} {q : Addr × Obj} {l : List (Addr × Obj)} (N : News h₀ L h (q :: l)) : News h₀ L h l := fun p hp => N p (.tail _ hp)
theorem news_ap {h₀ h : Heap} {L : Addr} {q : Addr × Obj} {l : List (Addr × Obj)} (N : News h₀ L h [q]) (K : News h₀ L h l) : News h₀ L h (q :: l) := fun p hp => by
  cases hp with
  | head => exact N _ (.head _)
  | tail _ e => exact K _ e
theorem again_perm {h₀ h : Heap} {L : Addr} {q1 q2 q3 q4 q5 q6 q7 q8 q9 : Addr × Obj} {tl : List (Addr × Obj)} (N1 : News h₀ L h (q1 :: q2 :: q3 :: q4 :: q5 :: q6 :: q7 :: q8 :: q9 :: tl)) :
    News h₀ L h (q1 :: q9 :: q2 :: q8 :: q3 :: q4 :: q5 :: q6 :: q7 :: tl) :=
  have N2 := news_tl N1
  have N3 := news_tl N2
  have N4 := news_tl N3
  have N5 := news_tl N4
  have N6 := news_tl N5
  have N7 := news_tl N6
  have N8 := news_tl N7
  have N9 := news_tl N8
  news_ap (news_hd N1) (news_ap (news_hd N9) (news_ap (news_hd N2) (news_ap (news_hd N8) (news_ap (news_hd N3) (news_ap (news_hd N4) (news_ap (news_hd N5) (news_ap (news_hd N6) (news_ap (news_hd N7) (news_tl N9)))))))))
theorem andMk {a b : Prop} (ha : a) (hb : b) : a ∧ b := ⟨ha, hb⟩
theorem words9 : True := by
  k_with "mine has" => first | (first | assumption | exact Nat.lt_add_one _ | exact And.left (by assumption) | exact And.left (And.right (by assumption)) | exact And.left (And.right (And.right (by assumption))) | exact And.left (And.right (And.right (And.right (by assumption)))) | exact And.left (And.right (And.right (And.right (And.right (by assumption))))) | exact And.left (And.right (And.right (And.right (And.right (And.right (by assumption)))))) | exact And.left (And.right (And.right (And.right (And.right (And.right (And.right (by assumption)))))))) | fail "no"
  k_with "mine ord" => first | (first | (refine' andMk ?zq24oa ?zq24ob; (case zq24oa => first | (with_reducible k_extra "mine has") | omega); (case zq24ob => k_extra "mine ord")) | (with_reducible k_extra "mine has") | omega) | fail "no"
  trivial
theorem fileT (w : World) (p : Program) (loose : List Str) (mean : ExcName → Option Value) (mg mb : Str → Option Value) (T : Array UInt8) (hT : T.size ≤ 65536) (t : Tok) (rest : List (Addr × Obj)) (hrest : ∀ p ∈ rest, p.1 ≠ 175) :
  CallT w p loose mean mg mb 180 [.bytes T t] ((175, tabObj #[]) :: rest) 4 30 (fun base h₀ L m s Q E outer => CodeHd base 179 175 ∧
    ∀ (f : FileR) (ps : Array Value) (to : Tok) (h' : Heap) (tk' : Nat), f.Ord → SeekOK w p loose mean mg mb f → ReadOK w p loose mean mg mb T f → Seek2OK w p loose mean mg mb T f → Seek0OK w p loose mean mg mb f → SeekBad w p loose mean mg mb T f → AgainOK w p loose mean mg mb T f ps → (∀ p ∈ rest, p.1 < f.cT) → 175 < f.cT →
      Fr h₀ L h' m → News h₀ L h' (FLed w.params f 0 to ((175, tabObj ps) :: rest)) → Q (.ref f.x) { s with heap := h', toks := tk' }) := by
  w_on
  delta CallT Pg
  k_fill
  rintro dp un gd cn nm ig ic mo a ccd cl outer A₀ base h₀ L m s Q E B F X N Tp hdp hun ⟨hcode, hret⟩
  k_extra "mine enter"
  k_steps
  repeat ((with_reducible rename Below _ _ _ _ => zz); clear zz)
  repeat ((with_reducible rename Frag.In _ _ => zz); clear zz)
  repeat ((with_reducible rename Top _ _ _ _ _ _ => zz); clear zz)
  refine' hret (FileR.mk _ _ _ _ _ _ _ _ _ _ _ _ _ _ _ _ _ _ _ _) _ _ _ _ ?o ?s ?r ?s2 ?s0 ?sb ?ag ?lt ?l5 ?F ?N
  case N => k_asm
  case F => k_asm
  case o => exact ⟨by dsimp only; k_extra "mine ord"⟩
  case l5 => dsimp only; omega
  case lt => dsimp only; exact fun p hp => Nat.lt_succ_of_lt (ktn_ltOf (by k_extra "mine lt") p hp)
  repeat ((with_reducible rename Fr _ _ _ _ => zz); clear zz)
  repeat ((with_reducible rename News _ _ _ _ => zz); clear zz)
  case s =>
    clear hret
    unfold SeekOK
    intro rest off i to tp _ hne h0 hi
    dsimp only [FLed] at hne ⊢
    delta CallT Pg
    k_fill
    rintro dp un gd cn nm ig ic mo a ccd cl outer A₀ base h₀ L m s Q E B F X N Tp hdp hun hret
    k_extra "mine enter"
    k_steps
    exact hret _ _ _ _ (by k_asm) (by k_asm)
  case r =>
    clear hret
    unfold ReadOK
    intro rest off i to tp _ hne ho0 ho1 h0 hi
    dsimp only [FLed] at hne ⊢
    delta CallT Pg
    k_fill
    rintro dp un gd cn nm ig ic mo a ccd cl outer A₀ base h₀ L m s Q E B F X N Tp hdp hun hret
    k_extra "mine enter"
    k_steps
    exact hret _ _ _ _ _ _ rfl (cutZ_size ho0 h0) (by k_asm) (by k_asm)
  case s2 =>
    clear hret
    unfold Seek2OK
    intro rest off i to tp tw _ hne h0 hi
    dsimp only [FLed] at hne ⊢
    delta CallT Pg
    k_fill
    rintro dp un gd cn nm ig ic mo a ccd cl outer A₀ base h₀ L m s Q E B F X N Tp hdp hun hret
    k_extra "mine enter"
    k_steps
    exact hret _ _ _ _ (by k_asm) (by k_asm)
  case s0 =>
    clear hret
    unfold Seek0OK
    intro rest off i to tp tw _ hne h0 hi
    dsimp only [FLed] at hne ⊢
    delta CallT Pg
    k_fill
    rintro dp un gd cn nm ig ic mo a ccd cl outer A₀ base h₀ L m s Q E B F X N Tp hdp hun hret
    k_extra "mine enter"
    k_steps
    exact hret _ _ _ _ (by k_asm) (by k_asm)
  case sb =>
    clear hret
    unfold SeekBad
    intro rest off i to tp tw _ h0 hi
    dsimp only [FLed]
    delta CallT Pg
    k_fill
    rintro dp un gd cn nm ig ic mo a ccd cl outer A₀ base h₀ L m s Q E B F X N Tp hdp hun hret
    k_extra "mine enter"
    k_steps
    exact hret _ _ _ _ _ _ (by assumption) (by assumption) (by assumption)
  case ag =>
    clear hret
    unfold AgainOK
    intro t rest
    delta CallT Pg
    k_fill
    rintro dp un gd cn nm ig ic mo a ccd cl outer A₀ base h₀ L m s Q E B F X N Tp hdp hun ⟨hcode, hret⟩
    k_extra "mine enter"
    k_steps
    repeat ((with_reducible rename Below _ _ _ _ => zz); clear zz)
    repeat ((with_reducible rename Frag.In _ _ => zz); clear zz)
    repeat ((with_reducible rename Top _ _ _ _ _ _ => zz); clear zz)
    refine' hret (FileR.mk _ _ _ _ _ _ _ _ _ _ _ _ _ _ _ _ _ _ _ _) _ _ _ ?o ?s ?r ?e1 ?e2 ?lt ?l6 ?l5 ?F ?N
    case N => exact again_perm (by k_asm)
    case F => k_asm
    case e1 => exact rfl
    case e2 => exact rfl
    case o => exact ⟨by dsimp only; k_extra "mine ord"⟩
    case l5 => dsimp only; omega
    case l6 => dsimp only; omega
    case lt => dsimp only; exact fun p hp => Nat.lt_succ_of_lt (ktn_ltOf (by k_extra "mine lt") p hp)
    repeat ((with_reducible rename Fr _ _ _ _ => zz); clear zz)
    repeat ((with_reducible rename News _ _ _ _ => zz); clear zz)
    case s =>
      clear hret
      unfold SeekOK
      intro rest off i to tp _ hne h0 hi
      dsimp only [FLed] at hne ⊢
      delta CallT Pg
      k_fill
      rintro dp un gd cn nm ig ic mo a ccd cl outer A₀ base h₀ L m s Q E B F X N Tp hdp hun hret
      k_extra "mine enter"
      k_steps
      exact hret _ _ _ _ (by k_asm) (by k_asm)
    case r =>
      clear hret
      unfold ReadOK
      intro rest off i to tp _ hne ho0 ho1 h0 hi
      dsimp only [FLed] at hne ⊢
      delta CallT Pg
      k_fill
      rintro dp un gd cn nm ig ic mo a ccd cl outer A₀ base h₀ L m s Q E B F X N Tp hdp hun hret
      k_extra "mine enter"
      k_steps
      exact hret _ _ _ _ _ _ rfl (cutZ_size ho0 h0) (by k_asm) (by k_asm)

theorem words10 : True := by
  k_with "getMethod ref" => first | ((k_here; (first | (with_reducible show wpAny _ _ (getMethod (Value.ref _) (PySem.Str.ofString "seek") _) _ _ _) | (with_reducible show wpAny _ _ (getMethod (Value.ref _) (PySem.Str.ofString "read") _) _ _ _)); k_dflt (refine' kmu_own ?zq25k1 ?zq25k2 ?zq25k3 ?zq25k4 ?zq25k5 ?_; (case zq25k1 => k_asm); (case zq25k2 => k_asm); (case zq25k3 => k_inst); (case zq25k4 => k_is); (case zq25k5 => k_is); k_whole))) | fail "no"
  k_with "getMethod ref" => first | ((k_here; (with_reducible show wpAny _ _ (getMethod (Value.ref _) (PySem.Str.ofString "tell") _) _ _ _); k_dflt (refine' method_inst ?zq26k1 ?zq26k2 ?zq26k3 ?zq26k4 ?zq26k5 ?zq26k6 ?zq26k7 ?_; (case zq26k1 => k_asm); (case zq26k2 => k_asm); (case zq26k3 => k_inst); (case zq26k4 => k_is); (case zq26k5 => k_is); (case zq26k6 => k_is); (case zq26k7 => k_get); k_whole))) | fail "no"
  k_with "getAttr ref" => first | ((k_here; k_dflt (refine' get_own ?zq27k1 ?zq27k2 ?zq27k3 ?zq27k4 ?zq27k5 ?zq27k6 ?zq27k7 ?zq27k8 ?zq27k9 ?_; (case zq27k1 => k_asm); (case zq27k2 => k_asm); (case zq27k3 => k_inst); (case zq27k4 => k_is); (case zq27k5 => k_is); (case zq27k6 => k_is); (case zq27k7 => k_is); (case zq27k8 => k_get); (case zq27k9 => k_handed); k_whole))) | fail "no"
  k_with "callWith ref" => first | ((k_here; k_dflt (refine' callWith_F ?zq28k1 ?_; (case zq28k1 => exact FnAt.of (by k_asm) (by k_mem)); k_whole))) | fail "no"
  k_with "call ref" => first | ((k_here; (with_reducible rename SeekOK _ _ _ _ _ _ _ => hSk); k_dflt (refine' use_call (hSk _ _ _ _ _ ?zq29r ?zq29h1 ?zq29h2 ?zq29h3) ?zq29B ?zq29F ?zq29X ?zq29N ?zq29T ?zq29d ?zq29u ?zq29a ?zq29v ?_; (case zq29r => assumption); (case zq29a => with_reducible exact rfl); (case zq29v => exact rfl); (case zq29B => k_asm); (case zq29F => k_asm); (case zq29X => k_asm); (case zq29T => k_asm); (case zq29N => k_extra "mine news"); (case zq29h1 => k_extra "mine apart"); (case zq29h2 => omega); (case zq29h3 => omega); (case zq29d => ktr_room); (case zq29u => ktr_units); k_whole; intro v9 to9 h9 tk9 F9 N9; (try dsimp only [FLed] at N9 ⊢); (try k_fold)))) | fail "no"
  k_with "call ref" => first | ((k_here; (with_reducible rename ReadOK _ _ _ _ _ _ _ _ => hRd); k_dflt (refine' use_call (hRd _ _ _ _ _ ?zq30r ?zq30h1 ?zq30h2 ?zq30h3 ?zq30h4 ?zq30h5) ?zq30B ?zq30F ?zq30X ?zq30N ?zq30T ?zq30d ?zq30u ?zq30a ?zq30v ?_; (case zq30r => assumption); (case zq30a => with_reducible exact rfl); (case zq30v => exact rfl); (case zq30B => k_asm); (case zq30F => k_asm); (case zq30X => k_asm); (case zq30T => k_asm); (case zq30N => k_extra "mine news"); (case zq30h1 => k_extra "mine apart"); (case zq30h2 => omega); (case zq30h3 => omega); (case zq30h4 => omega); (case zq30h5 => omega); (case zq30d => ktr_room); (case zq30u => ktr_units); k_whole; intro b9 t9 to9 of9 h9 tk9 e9 z9 F9 N9; (try dsimp only [FLed] at N9 ⊢); (try k_fold)))) | fail "no"
  k_with "call ref" => first | ((k_here; (with_reducible rename Seek0OK _ _ _ _ _ _ _ => hSz); k_dflt (refine' use_call (hSz _ _ _ _ _ _ ?zq31r ?zq31h1 ?zq31h2 ?zq31h3) ?zq31B ?zq31F ?zq31X ?zq31N ?zq31T ?zq31d ?zq31u ?zq31a ?zq31v ?_; (case zq31r => assumption); (case zq31a => with_reducible exact rfl); (case zq31v => exact rfl); (case zq31B => k_asm); (case zq31F => k_asm); (case zq31X => k_asm); (case zq31T => k_asm); (case zq31N => k_extra "mine news"); (case zq31h1 => k_extra "mine apart"); (case zq31h2 => omega); (case zq31h3 => omega); (case zq31d => ktr_room); (case zq31u => ktr_units); k_whole; intro v9 to9 h9 tk9 F9 N9; (try dsimp only [FLed] at N9 ⊢); (try k_fold)))) | fail "no"
  k_with "call ref" => first | ((k_here; (with_reducible rename Seek2OK _ _ _ _ _ _ _ _ => hSt); k_dflt (refine' use_call (hSt _ _ _ _ _ _ ?zq32r ?zq32h1 ?zq32h2 ?zq32h3) ?zq32B ?zq32F ?zq32X ?zq32N ?zq32T ?zq32d ?zq32u ?zq32a ?zq32v ?_; (case zq32r => assumption); (case zq32a => with_reducible exact rfl); (case zq32v => exact rfl); (case zq32B => k_asm); (case zq32F => k_asm); (case zq32X => k_asm); (case zq32T => k_asm); (case zq32N => k_extra "mine news"); (case zq32h1 => k_extra "mine apart"); (case zq32h2 => omega); (case zq32h3 => omega); (case zq32d => ktr_room); (case zq32u => ktr_units); k_whole; intro v9 to9 h9 tk9 F9 N9; (try dsimp only [FLed] at N9 ⊢); (try k_fold)))) | fail "no"
  trivial
/-- nine places apart from one -/
structure Away (l a1 a2 a3 a4 a5 a6 a7 a8 a9 : Addr) : Prop where
  o : a1 ≠ l ∧ a2 ≠ l ∧ a3 ≠ l ∧ a4 ≠ l ∧ a5 ≠ l ∧ a6 ≠ l ∧ a7 ≠ l ∧ a8 ≠ l ∧ a9 ≠ l
theorem Away.upd {l a1 a2 a3 a4 a5 a6 a7 a8 a9 : Addr} {o1 o2 o3 o4 o5 o6 o7 o8 o9 o o' : Obj} {rest : List (Addr × Obj)} (h : Away l a1 a2 a3 a4 a5 a6 a7 a8 a9) (hr : ∀ p ∈ rest, p.1 ≠ l) :
    Upd l o o' ((a1, o1) :: (a2, o2) :: (a3, o3) :: (a4, o4) :: (a5, o5) :: (a6, o6) :: (a7, o7) :: (a8, o8) :: (a9, o9) :: (l, o) :: rest) ((a1, o1) :: (a2, o2) :: (a3, o3) :: (a4, o4) :: (a5, o5) :: (a6, o6) :: (a7, o7) :: (a8, o8) :: (a9, o9) :: (l, o') :: rest) :=
  .tail h.o.1 (.tail h.o.2.1 (.tail h.o.2.2.1 (.tail h.o.2.2.2.1 (.tail h.o.2.2.2.2.1 (.tail h.o.2.2.2.2.2.1 (.tail h.o.2.2.2.2.2.2.1 (.tail h.o.2.2.2.2.2.2.2.1 (.tail h.o.2.2.2.2.2.2.2.2 (.head hr)))))))))
theorem away_of {l : Addr} {f : FileR} (ho : f.Ord) (hl : f.f2 < l ∨ (f.c2 < l ∧ f.cT > l)) : Away l f.f2 f.c2 f.f1 f.c1 f.t0 f.x f.d f.cF f.cT := by
  obtain ⟨a1, a2, a3, a4, a5, a6, a7, a8⟩ := ho.o
  cases hl with
  | inl h =>
    have b6 := Nat.lt_trans a6 h
    have b5 := Nat.lt_trans a5 b6
    have b4 := Nat.lt_trans a4 b5
    have b3 := Nat.lt_trans a3 b4
    have b2 := Nat.lt_trans a2 b3
    have b8 := Nat.lt_trans a8 h
    exact ⟨Nat.ne_of_lt h, Nat.ne_of_lt b8, Nat.ne_of_lt b6, Nat.ne_of_lt (Nat.lt_trans a7 b8), Nat.ne_of_lt b5, Nat.ne_of_lt b4, Nat.ne_of_lt b3, Nat.ne_of_lt b2, Nat.ne_of_lt (Nat.lt_trans a1 b2)⟩
  | inr h =>
    have b1 := Nat.lt_trans h.2 a1
    have b2 := Nat.lt_trans b1 a2
    have b3 := Nat.lt_trans b2 a3
    have b4 := Nat.lt_trans b3 a4
    have b5 := Nat.lt_trans b4 a5
    exact ⟨Nat.ne_of_gt (Nat.lt_trans b5 a6), Nat.ne_of_lt h.1, Nat.ne_of_gt b5, Nat.ne_of_lt (Nat.lt_trans a7 h.1), Nat.ne_of_gt b4, Nat.ne_of_gt b3, Nat.ne_of_gt b2, Nat.ne_of_gt b1, Nat.ne_of_gt h.2⟩
local macro_rules | `(tactic| k_upd) => `(tactic| (refine' Away.upd ?wa ?wb; (case wa => with_reducible assumption); (case wb => with_reducible assumption)))
theorem words11 : True := by
  k_with "setItem ref int" => first | ((k_here; k_dflt (refine' ki_set ?zq33F ?zq33N ?zq33a ?zq33b ?zq33e ?zq33U ?_; (case zq33F => k_asm); (case zq33N => k_asm); (case zq33U => k_upd); (case zq33a => decide); (case zq33b => decide); (case zq33e => rfl)); ki_rest)) | fail "no"
  trivial
theorem end64 (w : World) (p : Program) (loose : List Str) (mean : ExcName → Option Value) (mg mb : Str → Option Value) (T : Array UInt8) (hT : T.size ≤ 65536) (f : FileR) (ho : f.Ord)
  (hs : SeekOK w p loose mean mg mb f) (hrd : ReadOK w p loose mean mg mb T f) (rest : List (Addr × Obj)) (hne : ∀ p ∈ rest, p.1 ≠ f.d) (fo off : Int) (fto to2 : Tok) (l : Addr) (hl : f.f2 < l ∨ (f.c2 < l ∧ f.cT > l)) (hnl : ∀ p ∈ rest, p.1 ≠ l) (n : Nat) (v0 v1 v2 v3 v4 v5 v6 v7 v8 v9 : Value) (hoff : 0 ≤ off) (hoff2 : off ≤ T.size) :
  CallT w p loose mean mg mb 62 [.ref f.x, .int off to2, .ref l] (FLed w.params f fo fto ((l, listOf [v0, v1, v2, v3, v4, v5, v6, v7, v8, v9].toArray n) :: rest)) 4 40 (fun base h₀ L m s Q E outer =>
    (e64 T off = .same → ∀ (fo' : Int) (fto' : Tok) (h' : Heap) (tk' : Nat), Fr h₀ L h' m → News h₀ L h' (FLed w.params f fo' fto' ((l, listOf [v0, v1, v2, v3, v4, v5, v6, v7, v8, v9].toArray n) :: rest)) → Q (.ref l) { s with heap := h', toks := tk' }) ∧
    (e64 T off = .bad → ∀ (fo' : Int) (fto' : Tok) (g : Heap) (e t : Addr) (vs : List Value) (h' : Heap) (tk' : Nat), Fr h₀ L g m → RaisedS base g outer e (.ref 52) t vs (FLed w.params f fo' fto' ((l, listOf [v0, v1, v2, v3, v4, v5, v6, v7, v8, v9].toArray n) :: rest)) h' → g.UpToSlots h' → E (.ref e) { s with heap := h', toks := tk' }) ∧
    (∀ (sg : Array UInt8) (x1 x2 x3 x4 x5 x6 lo : Int), e64 T off = .put sg x1 x2 x3 x4 x5 x6 lo → ∀ (t0 t1 t2 t3 t4 t5 t6 t9 : Tok) (fo' : Int) (fto' : Tok) (h' : Heap) (tk' : Nat), Fr h₀ L h' m →
      News h₀ L h' (FLed w.params f fo' fto' ((l, listOf [.bytes sg t0, .int x1 t1, .int x2 t2, .int x3 t3, .int x4 t4, .int x5 t5, .int x6 t6, v7, v8, .int lo t9].toArray n) :: rest)) → Q (.ref l) { s with heap := h', toks := tk' })) := by
  w_on
  delta CallT Pg
  have haw := away_of ho hl
  have hne' : ∀ p ∈ (l, listOf [v0, v1, v2, v3, v4, v5, v6, v7, v8, v9].toArray n) :: rest, p.1 ≠ f.d := List.forall_mem_cons.mpr ⟨haw.o.2.2.2.2.2.2.1.symm, hne⟩
  have ho := ho.o
  obtain ⟨x, d, f1, f2, c1, c2, t0, cF, cT, fd1, fd2, oc1, oc2, ot, oF, oT, k1, k2, k3, k4⟩ := f
  dsimp only [FLed] at *
  try dsimp only at haw hne'
  have hmk : Rest ((l, listOf [v0, v1, v2, v3, v4, v5, v6, v7, v8, v9].toArray n) :: rest) := ⟨⟩
  k_fill
  rintro dp un gd cn nm ig ic mo a ccd cl outer A₀ base h₀ L m s Q E B F X N Tp hdp hun ⟨hS, hB, hP⟩
  k_extra "mine enter"
  k_steps
  all_goals first
    | exact hS (e64_s1 (by with_reducible assumption)) _ _ _ _ (by k_asm) (by k_extra "mine news")
    | exact hS (e64_s2 (by with_reducible assumption) (by with_reducible assumption) (by with_reducible assumption)) _ _ _ _ (by k_asm) (by k_extra "mine news")
    | exact hP _ _ _ _ _ _ _ _ (e64_p1 (by with_reducible assumption) (by with_reducible assumption) (by with_reducible assumption) (by with_reducible assumption) (by with_reducible assumption) (by with_reducible assumption) (by with_reducible assumption) (by with_reducible assumption) (by with_reducible assumption) (by with_reducible assumption)) _ _ _ _ _ _ _ _ _ _ _ _ (by k_asm) (by k_extra "mine news")
    | exact hP _ _ _ _ _ _ _ _ (e64_p2 (by with_reducible assumption) (by with_reducible assumption) (by with_reducible assumption) (by with_reducible assumption) (by with_reducible assumption) (by with_reducible assumption) (by with_reducible assumption) (by with_reducible assumption) (by with_reducible assumption) (by with_reducible assumption) (by with_reducible assumption) (by with_reducible assumption) (by with_reducible assumption)) _ _ _ _ _ _ _ _ _ _ _ _ (by k_asm) (by k_extra "mine news")
    | (refine hB ?_ _ _ _ _ _ _ _ _ (by with_reducible assumption) (raised_sub (by with_reducible assumption) (by k_extra "mine sub")) (by with_reducible assumption); first
      | exact e64_b1 (by with_reducible assumption) (by with_reducible assumption) (by with_reducible assumption) (by with_reducible assumption)
      | exact e64_b2 (by with_reducible assumption) (by with_reducible assumption) (by with_reducible assumption) (by with_reducible assumption) (by with_reducible assumption)
      | exact e64_b3 (by with_reducible assumption) (by with_reducible assumption) (by with_reducible assumption) (by with_reducible assumption) (by with_reducible assumption) (by with_reducible assumption)
      | exact e64_b4 (by with_reducible assumption) (by with_reducible assumption) (by with_reducible assumption) (by with_reducible assumption) (by with_reducible assumption) (by with_reducible assumption) (by with_reducible assumption) (by with_reducible assumption) (by with_reducible assumption)
      | exact e64_b5 (by with_reducible assumption) (by with_reducible assumption) (by with_reducible assumption) (by with_reducible assumption) (by with_reducible assumption) (by with_reducible assumption) (by with_reducible assumption) (by with_reducible assumption) (by with_reducible assumption) (by with_reducible assumption)
      | exact e64_b9 (by with_reducible assumption) (by with_reducible assumption) (by with_reducible assumption) (by with_reducible assumption) (by with_reducible assumption) (by with_reducible assumption) (by with_reducible assumption) (by with_reducible assumption) (by with_reducible assumption)
      | exact e64_b6 (by with_reducible assumption) (by with_reducible assumption) (by with_reducible assumption) (by with_reducible assumption) (by with_reducible assumption) (by with_reducible assumption) (by with_reducible assumption) (by with_reducible assumption) (by with_reducible assumption) (by with_reducible assumption) (by with_reducible assumption) (by with_reducible assumption)
      | exact e64_b7 (by with_reducible assumption) (by with_reducible assumption) (by with_reducible assumption) (by with_reducible assumption) (by with_reducible assumption) (by with_reducible assumption) (by with_reducible assumption) (by with_reducible assumption) (by with_reducible assumption) (by with_reducible assumption) (by with_reducible assumption) (by with_reducible assumption) (by with_reducible assumption)
      | exact e64_b8 (by with_reducible assumption) (by with_reducible assumption) (by with_reducible assumption) (by with_reducible assumption) (by with_reducible assumption) (by with_reducible assumption) (by with_reducible assumption) (by with_reducible assumption) (by with_reducible assumption) (by with_reducible assumption) (by with_reducible assumption))
section
variable {w : World} {prog : Program} {A : Around} {E : Value → Shared → Prop} {s : Shared} {b c : Array UInt8} {t u : Tok}
theorem call_rfind2 {Q : Value → Shared → Prop} (h : ∀ t' k, -1 ≤ rfindZ b c → rfindZ b c ≤ b.size → Q (.int (rfindZ b c) t') { s with toks := k }) :
    wpAny (model prog w) A (call (.builtin "bytes.rfind") [.bytes b t, .bytes c u]) Q E s := call_rfind fun t' k => h t' k rfindZ_lo rfindZ_hi
end
theorem far_lt {rest : List (Addr × Obj)} {d l : Nat} (h : ∀ p ∈ rest, p.1 < d) (hd : d < l) : ∀ p ∈ rest, p.1 ≠ l := fun p hp => Nat.ne_of_lt (Nat.lt_trans (h p hp) hd)
theorem words12 : True := by
  k_with "call builtin:bytes.rfind" => first | ((k_here; refine call_rfind2 ?_; intro t' k' hr0 hr1)) | fail "no"
  k_with "call ref" => first | ((k_here; (with_reducible show wpAny _ _ (call (Value.ref 62) _) _ _ _); k_dflt (refine' use_call (end64 _ _ _ _ _ _ _ ?zq35hT _ ?zq35o ?zq35s ?zq35rd _ ?zq35hne _ _ _ _ _ ?zq35hl ?zq35hnl _ _ _ _ _ _ _ _ _ _ _ ?zq35q1 ?zq35q2) ?zq35B ?zq35F ?zq35X ?zq35N ?zq35T ?zq35d ?zq35u ?zq35a ?zq35v ⟨fun e9 fo9 ft9 h9 tk9 F9 N9 => ?_, fun e9 fo9 ft9 g9 i9 t9 vs9 h9 tk9 F9 R9 U9 => ?_, fun sg9 x1 x2 x3 x4 x5 x6 lo9 e9 t0 t1 t2 t3 t4 t5 t6 t9 fo9 ft9 h9 tk9 F9 N9 => ?_⟩; (case zq35s => assumption); (case zq35rd => assumption); (case zq35o => assumption); (case zq35hT => assumption); (case zq35hne => assumption); (case zq35a => with_reducible exact rfl); (case zq35v => exact rfl); (case zq35B => k_asm); (case zq35F => k_asm); (case zq35X => k_asm); (case zq35T => k_asm); (case zq35N => k_extra "mine news"); (case zq35hl => (try dsimp only); omega); (case zq35hnl => exact far_lt (by assumption) (by (try dsimp only); omega)); (case zq35q1 => omega); (case zq35q2 => omega); (case zq35d => ktr_room); (case zq35u => ktr_units); k_whole; all_goals ((try (dsimp only [FLed] at N9)); (try (dsimp only [FLed] at R9)); (try dsimp only [FLed]); (try k_fold))))) | fail "no"
  k_with "call builtin:list.append" => first | ((k_here; (try dsimp only); k_dflt (refine' append_K ?zq36k1 ?zq36k2 ?zq36k3 ?_ ?zq36z); (case zq36k1 => k_asm); (case zq36k2 => k_asm); (case zq36k3 => with_reducible k_upd); (case zq36z => size_fits); intro h' F' N'; (try simp only [List.push_toArray, List.cons_append, List.nil_append] at N'); (try k_sweep))) | fail "no"
  k_with "subscriptTail Name Name ref int" => first | ((k_here; (with_reducible show wpAny _ _ (subscriptTail _ _ (Value.ref _) (Value.int _ _)) _ _ _); (with_unfolding_all refine' item_litK ?zq37k1 ?zq37k2 ?zq37k3 ?zq37k4 ?_ ?zq37k6; (case zq37k1 => is_list); (case zq37k2 => decide); (case zq37k3 => decide); (case zq37k4 => rfl); (case zq37k6 => with_unfolding_all rfl); k_whole))) | fail "no"
  trivial
theorem endBig (w : World) (p : Program) (loose : List Str) (mean : ExcName → Option Value) (mg mb : Str → Option Value) (T : Array UInt8) (hT : T.size ≤ 65536) (h22 : 22 ≤ T.size) (f : FileR) (ho : f.Ord)
  (hs : SeekOK w p loose mean mg mb f) (hs2 : Seek2OK w p loose mean mg mb T f) (hs0 : Seek0OK w p loose mean mg mb f) (hrd : ReadOK w p loose mean mg mb T f) (rest : List (Addr × Obj)) (hne : ∀ p ∈ rest, p.1 ≠ f.d) (hlt : ∀ p ∈ rest, p.1 < f.d) (fo : Int) (fto : Tok) :
  CallT w p loose mean mg mb 69 [.ref f.x] (FLed w.params f fo fto rest) 6 60 (fun base h₀ L m s Q E outer =>
    (endR T = .none → ∀ (fo' : Int) (fto' : Tok) (h' : Heap) (tk' : Nat), Fr h₀ L h' m → News h₀ L h' (FLed w.params f fo' fto' rest) → Q .none { s with heap := h', toks := tk' }) ∧
    (endR T = .bad → ∀ (fo' : Int) (fto' : Tok) (g : Heap) (e t : Addr) (vs : List Value) (h' : Heap) (tk' : Nat), Fr h₀ L g m → RaisedS base g outer e (.ref 52) t vs (FLed w.params f fo' fto' rest) h' → g.UpToSlots h' → E (.ref e) { s with heap := h', toks := tk' }) ∧
    (∀ (sg : Array UInt8) (x1 x2 x3 x4 x5 x6 x7 : Int) (comm : Array UInt8) (lo : Int), endR T = .row sg x1 x2 x3 x4 x5 x6 x7 comm lo → ∀ (l n : Nat) (t0 t1 t2 t3 t4 t5 t6 t7 t8 t9 : Tok) (fo' : Int) (fto' : Tok) (h' : Heap) (tk' : Nat), f.f2 < l → Fr h₀ L h' m →
      News h₀ L h' (FLed w.params f fo' fto' ((l, listOf [.bytes sg t0, .int x1 t1, .int x2 t2, .int x3 t3, .int x4 t4, .int x5 t5, .int x6 t6, .int x7 t7, .bytes comm t8, .int lo t9].toArray n) :: rest)) → Q (.ref l) { s with heap := h', toks := tk' })) := by
  w_on
  delta CallT Pg
  have ho2 := ho.o
  obtain ⟨x, d, f1, f2, c1, c2, t0, cF, cT, fd1, fd2, oc1, oc2, ot, oF, oT, k1, k2, k3, k4⟩ := f
  dsimp only [FLed] at *
  have hmk : Rest rest := ⟨⟩
  k_fill
  rintro dp un gd cn nm ig ic mo a ccd cl outer A₀ base h₀ L m s Q E B F X N Tp hdp hun ⟨hS, hB, hP⟩
  k_extra "mine enter"
  k_steps
  all_goals first
    | have hz := endR_1 (by with_reducible assumption) (by omega) (by with_reducible assumption) (by with_reducible assumption)
    | have hz := endR_2 (by with_reducible assumption) (by omega) (by with_reducible assumption) (by with_reducible assumption)
    | have hz := endR_3 (by with_reducible assumption) (by omega) (by with_reducible assumption)
  all_goals first
    | have hy := tail_f (by with_reducible assumption) (by with_reducible assumption) (by omega) (by omega) (by with_reducible assumption)
    | have hy := tail_n2 (by with_reducible assumption) (by with_reducible assumption) (by omega) (by omega) (by with_reducible assumption)
    | have hy := tail_n1 (by with_reducible assumption) (by with_reducible assumption) (by omega) (by omega)
    | skip
  all_goals first
    | exact hP _ _ _ _ _ _ _ _ _ _ (r_same1 (by with_reducible assumption) hz (by omega)) _ _ _ _ _ _ _ _ _ _ _ _ _ _ _ _ (by omega) (by k_asm) (by k_extra "mine news")
    | exact hP _ _ _ _ _ _ _ _ _ _ (r_put1 (by with_reducible assumption) hz (by omega)) _ _ _ _ _ _ _ _ _ _ _ _ _ _ _ _ (by omega) (by k_asm) (by k_extra "mine news")
    | exact hP _ _ _ _ _ _ _ _ _ _ (r_same2 (by with_reducible assumption) hz hy (by omega)) _ _ _ _ _ _ _ _ _ _ _ _ _ _ _ _ (by omega) (by k_asm) (by k_extra "mine news")
    | exact hP _ _ _ _ _ _ _ _ _ _ (r_put2 (by with_reducible assumption) hz hy (by omega)) _ _ _ _ _ _ _ _ _ _ _ _ _ _ _ _ (by omega) (by k_asm) (by k_extra "mine news")
    | exact hB (r_bad1 (by with_reducible assumption) hz (by omega)) _ _ _ _ _ _ _ _ (by k_asm) (raised_sub (by with_reducible assumption) (by k_extra "mine sub")) (by with_reducible assumption)
    | exact hB (r_bad2 (by with_reducible assumption) hz hy (by omega)) _ _ _ _ _ _ _ _ (by k_asm) (raised_sub (by with_reducible assumption) (by k_extra "mine sub")) (by with_reducible assumption)
    | exact hS (hz.trans hy) _ _ _ _ (by k_asm) (by k_extra "mine news")
open PyProof
theorem words13 : True := by
  k_with "callWith ref" => first | ((k_here; k_dflt (first | (refine' callWith_K ?zq38k1 ?zq38k2 ?_; (case zq38k1 => k_asm); (case zq38k2 => k_is); k_whole) | (refine' callWith_K0 ?zq38k1 ?zq38k2 ?_; (case zq38k1 => k_in); (case zq38k2 => k_is); k_whole)))) | fail "no"
  trivial
/-- a claim of a call from the law's own frame -/
abbrev CallT0 (w : World) (p : Program) (loose : List Str) (mean : ExcName → Option Value) (mg mb : Str → Option Value) (f : Addr) (vs : List Value) (news : List (Addr × Obj)) (dep uni : Nat)
    (P : (h₀ : Heap) → (L : Addr) → (m : Str → Option Value) → (s : Shared) → (Q E : Value → Shared → Prop) → Prop) : Prop :=
  ∀ (dp un : Nat) (gd : Option (List Code)) (cn : Str) (nm : List (Str × NameKind)) (ig ic : Bool) (mo : List (Str × Const)) (a : Addr) (ccd : Value) (A₀ : Around) (h₀ : Heap) (L : Addr) (m : Str → Option Value) (s : Shared) (Q E : Value → Shared → Prop),
    Below A₀ h₀ [] h₀ → Fr h₀ L s.heap m → (hd.heap_39 w.params).In h₀ → News h₀ L s.heap news → Top p loose mean mg mb h₀ → dp + dep < recursionLimit → un + uni < cLine → P h₀ L m s Q E →
    wpAny (model Pg w) (ktrTop dp un gd cn ⟨.function, nm, ig, ic, mo⟩ L a ccd [] []) (call (.ref f) vs) Q E s
theorem words14 : True := by
  k_with "mine enter0" => first | ((refine wpAny_call ?_; kts_go)) | fail "no"
  trivial
theorem f_lt {rest : List (Addr × Obj)} {a b c : Nat} {o : Obj} (h : ∀ p ∈ rest, p.1 < a) (h2 : c < a) (hb : a < b) : ∀ p ∈ (c, o) :: rest, p.1 < b := fun p hp => by
  cases hp with
  | head => exact Nat.lt_trans h2 hb
  | tail _ hp => exact Nat.lt_trans (h p hp) hb
theorem f_ne {rest : List (Addr × Obj)} {a b c : Nat} {o : Obj} (h : ∀ p ∈ rest, p.1 < a) (h2 : c < a) (hb : a < b) : ∀ p ∈ (c, o) :: rest, p.1 ≠ b := fun p hp => Nat.ne_of_lt (f_lt h h2 hb p hp)
theorem f_ne0 {rest : List (Addr × Obj)} {a b : Nat} (h : ∀ p ∈ rest, p.1 < a) (hb : a < b) : ∀ p ∈ rest, p.1 ≠ b := fun p hp => Nat.ne_of_lt (Nat.lt_trans (h p hp) hb)
theorem mkRest {rest : List (Addr × Obj)} {a : Nat} (_ : ∀ p ∈ rest, p.1 < a) (ps : Array Value) : Rest ((175, tabObj ps) :: rest) := ⟨⟩
theorem FileR.Ord.td {f : FileR} (o : f.Ord) : f.cT < f.d := by have := o.o; omega
theorem words15 : True := by
  k_with "call ref" => first | ((k_here; (with_reducible show wpAny _ _ (call (Value.ref 180) _) _ _ _); k_dflt (refine' use_call (fileT _ _ _ _ _ _ _ ?zq40hT _ _ ?zq40hr) ?zq40B ?zq40F ?zq40X ?zq40N ?zq40T ?zq40d ?zq40u ?zq40a ?zq40v ⟨?zq40hc, fun f9 ps9 to9 h9 tk9 ho9 hs9 hr9 hs29 hs09 hsb9 hag9 hlt9 h1759 F9 N9 => ?_⟩; (case zq40a => with_reducible exact rfl); (case zq40v => exact rfl); (case zq40N => k_asm); (case zq40hT => assumption); (case zq40hr => assumption); (case zq40hc => k_asm); (case zq40B => k_asm); (case zq40F => k_asm); (case zq40X => k_asm); (case zq40T => k_asm); (case zq40d => ktr_room); (case zq40u => ktr_units); k_whole; (try dsimp only [FLed] at N9 ⊢); (have ho8 := ho9.o); (have hne9 := f_ne0 hlt9 ho9.td); (have hmk9 := mkRest hlt9 ps9); (try k_fold)))) | fail "no"
  k_with "call ref" => first | ((k_here; (with_reducible show wpAny _ _ (call (Value.ref 69) _) _ _ _); k_dflt (refine' use_call (endBig _ _ _ _ _ _ _ ?zq41hT ?zq41h22 _ ?zq41o ?zq41s ?zq41s2 ?zq41s0 ?zq41rd _ ?zq41hne ?zq41hlt _ _) ?zq41B ?zq41F ?zq41X ?zq41N ?zq41T ?zq41d ?zq41u ?zq41a ?zq41v ⟨fun e9 fo9 ft9 h9 tk9 F9 N9 => ?_, fun e9 fo9 ft9 g9 i9 t9 vs9 h9 tk9 F9 R9 U9 => ?_, fun sg9 x1 x2 x3 x4 x5 x6 x7 cm9 lo9 e9 l9 n9 t0 t1 t2 t3 t4 t5 t6 t7 t8 t9 fo9 ft9 h9 tk9 hl9 F9 N9 => ?_⟩; (case zq41a => with_reducible exact rfl); (case zq41v => exact rfl); (case zq41N => k_asm); (case zq41s => assumption); (case zq41s2 => assumption); (case zq41s0 => assumption); (case zq41rd => assumption); (case zq41o => assumption); (case zq41hT => assumption); (case zq41h22 => assumption); (case zq41hne => exact f_ne (by assumption) (by assumption) (FileR.Ord.td (by assumption))); (case zq41hlt => exact f_lt (by assumption) (by assumption) (FileR.Ord.td (by assumption))); (case zq41B => k_asm); (case zq41F => k_asm); (case zq41X => k_asm); (case zq41T => k_asm); (case zq41d => ktr_room); (case zq41u => ktr_units); k_whole; all_goals (try k_fold)))) | fail "no"
  trivial
theorem toldBig (w : World) (p : Program) (loose : List Str) (mean : ExcName → Option Value) (mg mb : Str → Option Value) (T : Array UInt8) (hT : T.size ≤ 65536) (h22 : 22 ≤ T.size) (t : Tok) (rest : List (Addr × Obj)) (hrest : ∀ p ∈ rest, p.1 ≠ 175) :
  CallT0 w p loose mean mg mb 187 [.bytes T t] ((175, tabObj #[]) :: rest) 10 90 (fun h₀ L m s Q E => CodeHd h₀ 179 175 ∧
    (endR T = .none → ∀ (f : FileR) (ps : Array Value) (r : Nat) (tu : Tok) (h' : Heap) (tk' : Nat), AgainOK w p loose mean mg mb T f ps → Fr h₀ L h' m → News h₀ L h' ((r, tupO [.str "told" tu, .none]) :: (f.c1, f.oc1) :: (f.c2, f.oc2) :: (175, tabObj ps) :: rest) → Q (.ref r) { s with heap := h', toks := tk' }) ∧
    (endR T = .bad → ∀ (f : FileR) (ps : Array Value) (r : Nat) (tu : Tok) (h' : Heap) (tk' : Nat), AgainOK w p loose mean mg mb T f ps → Fr h₀ L h' m → News h₀ L h' ((r, tupO [.str "refused" tu, .none]) :: (f.c1, f.oc1) :: (f.c2, f.oc2) :: (175, tabObj ps) :: rest) → Q (.ref r) { s with heap := h', toks := tk' }) ∧
    (∀ (sg : Array UInt8) (x1 x2 x3 x4 x5 x6 x7 : Int) (comm : Array UInt8) (lo : Int), endR T = .row sg x1 x2 x3 x4 x5 x6 x7 comm lo → ∀ (f : FileR) (ps : Array Value) (r l n : Nat) (tu t0 t1 t2 t3 t4 t5 t6 t7 t8 t9 : Tok) (h' : Heap) (tk' : Nat), AgainOK w p loose mean mg mb T f ps → Fr h₀ L h' m → News h₀ L h' ((r, tupO [.str "told" tu, .ref l]) :: (l, listOf [.bytes sg t0, .int x1 t1, .int x2 t2, .int x3 t3, .int x4 t4, .int x5 t5, .int x6 t6, .int x7 t7, .bytes comm t8, .int lo t9].toArray n) :: (f.c1, f.oc1) :: (f.c2, f.oc2) :: (175, tabObj ps) :: rest) → Q (.ref r) { s with heap := h', toks := tk' })) := by
  w_on
  delta CallT0 Pg
  have hmk : Rest ((175, tabObj #[]) :: rest) := ⟨⟩
  k_fill
  rintro dp un gd cn nm ig ic mo ca ccd A₀ h₀ L m s Q E B F X N Tp hdp hun ⟨hcode, hN, hB, hR⟩
  k_extra "mine enter0"
  k_steps
  all_goals first
    | exact hN (by assumption) _ _ _ _ _ _ (by assumption) (by k_asm) (by k_extra "mine news")
    | exact hB (by assumption) _ _ _ _ _ _ (by assumption) (by k_asm) (by k_extra "mine news")
    | exact hR _ _ _ _ _ _ _ _ _ _ (by assumption) _ _ _ _ _ _ _ _ _ _ _ _ _ _ _ _ _ _ (by assumption) (by k_asm) (by k_extra "mine news")
theorem words16 : True := by
  k_with "call ref" => first | ((k_here; (with_reducible rename SeekBad _ _ _ _ _ _ _ _ => hSb); k_dflt (refine' use_call (hSb _ _ _ _ _ _ ?zq42r ?zq42h1 ?zq42h2) ?zq42B ?zq42F ?zq42X ?zq42N ?zq42T ?zq42d ?zq42u ?zq42a ?zq42v ?_; (case zq42r => assumption); (case zq42a => with_reducible exact rfl); (case zq42v => exact rfl); (case zq42B => k_asm); (case zq42F => k_asm); (case zq42X => k_asm); (case zq42T => k_asm); (case zq42N => k_extra "mine news"); (case zq42h1 => omega); (case zq42h2 => omega); (case zq42d => ktr_room); (case zq42u => ktr_units); k_whole; intro g9 i9 t9 vs9 h9 tk9 F9 R9 U9; (try dsimp only [FLed] at R9); (try k_fold)))) | fail "no"
  trivial
theorem toldSmall (w : World) (p : Program) (loose : List Str) (mean : ExcName → Option Value) (mg mb : Str → Option Value) (T : Array UInt8) (hT : T.size ≤ 65536) (h22 : T.size < 22) (t : Tok) (rest : List (Addr × Obj)) (hrest : ∀ p ∈ rest, p.1 ≠ 175) :
  CallT0 w p loose mean mg mb 187 [.bytes T t] ((175, tabObj #[]) :: rest) 10 90 (fun h₀ L m s Q E => CodeHd h₀ 179 175 ∧
    (∀ (f : FileR) (ps : Array Value) (r : Nat) (tu : Tok) (h' : Heap) (tk' : Nat), AgainOK w p loose mean mg mb T f ps → Fr h₀ L h' m → News h₀ L h' ((r, tupO [.str "told" tu, .none]) :: (f.c1, f.oc1) :: (f.c2, f.oc2) :: (175, tabObj ps) :: rest) → Q (.ref r) { s with heap := h', toks := tk' })) := by
  w_on
  delta CallT0 Pg
  have hmk : Rest ((175, tabObj #[]) :: rest) := ⟨⟩
  k_fill
  rintro dp un gd cn nm ig ic mo ca ccd A₀ h₀ L m s Q E B F X N Tp hdp hun ⟨hcode, hN⟩
  k_extra "mine enter0"
  k_steps
  exact hN _ _ _ _ _ _ (by assumption) (by k_asm) (by k_extra "mine news")
theorem made_perm {h₀ h : Heap} {L : Addr} {q1 q2 c1 c2 tb : Addr × Obj} {rest : List (Addr × Obj)} (N : News h₀ L h (q1 :: q2 :: c1 :: c2 :: tb :: rest)) : News h₀ L h (c1 :: c2 :: tb :: q1 :: q2 :: rest) := fun q hq => N q (by
  simp only [List.mem_cons] at hq ⊢
  rcases hq with h | h | h | h | h | h <;> simp [h])
theorem led_perm {P : Params} {f : FileR} {off : Int} {to : Tok} {r r' : List (Addr × Obj)} (h : r.Perm r') : (FLed P f off to r).Perm (FLed P f off to r') :=
  (((((((((h.cons _).cons _).cons _).cons _).cons _).cons _).cons _).cons _).cons _)
theorem made_perm2 {h₀ h : Heap} {L : Addr} {P : Params} {f : FileR} {off : Int} {to : Tok} {q1 q2 q3 : Addr × Obj} {rest : List (Addr × Obj)} (N : News h₀ L h (FLed P f off to (q1 :: q2 :: q3 :: rest))) : News h₀ L h (FLed P f off to (q2 :: q1 :: q3 :: rest)) :=
  fun q hq => N q ((led_perm (List.Perm.swap q1 q2 (q3 :: rest))).mem_iff.mp hq)
theorem made_ne {f : FileR} {x : Obj} {q1 q2 : Addr × Obj} {rest : List (Addr × Obj)} (o : f.Ord) (h : ∀ p ∈ q1 :: q2 :: rest, p.1 < f.cT) (h1 : 175 < f.cT) : ∀ p ∈ (175, x) :: q2 :: rest, p.1 ≠ f.d := fun p hp => by
  have hd := o.td
  cases hp with
  | head => exact Nat.ne_of_lt (Nat.lt_trans h1 hd)
  | tail _ hp => exact Nat.ne_of_lt (Nat.lt_trans (h p (.tail _ hp)) hd)
theorem made_hl {f f' : FileR} {k : Nat} {x : Obj} {rest : List (Addr × Obj)} (h : ∀ p ∈ (k, x) :: rest, p.1 < f'.cT) (e : f'.c2 = f.c2) (h2 : f.c2 < k) : f'.f2 < k ∨ (f'.c2 < k ∧ f'.cT > k) := .inr ⟨e ▸ h2, h _ (.head _)⟩
theorem words17 : True := by
  k_with "call ref" => first | ((k_here; (with_reducible show wpAny _ _ (call (Value.ref 180) _) _ _ _); (with_reducible rename AgainOK _ _ _ _ _ _ _ _ _ => hag); k_dflt (refine' use_call (hag _ _) ?zq43B ?zq43F ?zq43X ?zq43N ?zq43T ?zq43d ?zq43u ?zq43a ?zq43v ⟨?zq43hc, fun f9 to9 h9 tk9 ho9 hs9 hr9 e19 e29 hlt9 h29 h1759 F9 N9 => ?_⟩; (case zq43a => with_reducible exact rfl); (case zq43v => exact rfl); (case zq43N => exact made_perm (by k_asm)); (case zq43hc => k_asm); (case zq43B => k_asm); (case zq43F => k_asm); (case zq43X => k_asm); (case zq43T => k_asm); (case zq43d => ktr_room); (case zq43u => ktr_units); k_whole; (try dsimp only [FLed] at N9 ⊢); (try k_fold)))) | fail "no"
  k_with "call ref" => first | ((k_here; (with_reducible show wpAny _ _ (call (Value.ref 62) _) _ _ _); (fail_if_success (with_reducible rename Seek2OK _ _ _ _ _ _ _ _ => zz)); k_dflt (refine' use_call (end64 _ _ _ _ _ _ _ ?zq44hT _ ?zq44o ?zq44s ?zq44rd _ ?zq44hne _ _ _ _ _ ?zq44hl ?zq44hnl _ _ _ _ _ _ _ _ _ _ _ ?zq44q1 ?zq44q2) ?zq44B ?zq44F ?zq44X ?zq44N ?zq44T ?zq44d ?zq44u ?zq44a ?zq44v ⟨fun e9 fo9 ft9 h9 tk9 F9 N9 => ?_, fun e9 fo9 ft9 g9 i9 t9 vs9 h9 tk9 F9 R9 U9 => ?_, fun sg9 x1 x2 x3 x4 x5 x6 lo9 e9 t0 t1 t2 t3 t4 t5 t6 t9 fo9 ft9 h9 tk9 F9 N9 => ?_⟩; (case zq44a => with_reducible exact rfl); (case zq44v => exact rfl); (case zq44N => exact made_perm2 (by k_asm)); (case zq44s => assumption); (case zq44rd => assumption); (case zq44o => assumption); (case zq44hT => assumption); (case zq44hne => exact made_ne (by assumption) (by assumption) (by assumption)); (case zq44B => k_asm); (case zq44F => k_asm); (case zq44X => k_asm); (case zq44T => k_asm); (case zq44hl => exact made_hl (by assumption) (by assumption) (by omega)); (case zq44hnl => k_extra "mine apart"); (case zq44q1 => omega); (case zq44q2 => omega); (case zq44d => ktr_room); (case zq44u => ktr_units); k_whole; all_goals (try k_fold)))) | fail "no"
  k_with "subscriptTail Name Constant ref int" => first | ((k_here; (with_reducible show wpAny _ _ (subscriptTail _ _ (Value.ref _) (Value.int _ _)) _ _ _); (with_unfolding_all refine' item_litK ?zq45k1 ?zq45k2 ?zq45k3 ?zq45k4 ?_ ?zq45k6; (case zq45k1 => is_list); (case zq45k2 => decide); (case zq45k3 => decide); (case zq45k4 => rfl); (case zq45k6 => with_unfolding_all rfl); k_whole))) | fail "no"
  k_with "mine apart" => first | ((with_reducible exact ne_lt0 (by k_extra "mine lt"))) | fail "no"
  trivial
theorem madeT (w : World) (p : Program) (loose : List Str) (mean : ExcName → Option Value) (mg mb : Str → Option Value) (T : Array UInt8) (hT : T.size ≤ 65536) (f : FileR) (ps : Array Value) (hag : AgainOK w p loose mean mg mb T f ps) (l n : Nat) (v0 v1 v2 v3 v4 v5 v6 v7 v8 : Value) (off : Int) (t t9 : Tok) (hoff : 0 ≤ off) (hoff2 : off ≤ T.size) (rest : List (Addr × Obj)) :
  CallT0 w p loose mean mg mb 194 [.bytes T t, .ref l] ((l, listOf [v0, v1, v2, v3, v4, v5, v6, v7, v8, .int off t9].toArray n) :: (f.c1, f.oc1) :: (f.c2, f.oc2) :: (175, tabObj ps) :: rest) 10 90 (fun h₀ L m s Q E => CodeHd h₀ 179 175 ∧
    (e64 T off = .same → ∀ (r k n' : Nat) (tu t9' : Tok) (h' : Heap) (tk' : Nat), Fr h₀ L h' m → News h₀ L h' ((r, tupO [.str "told" tu, .ref k]) :: (k, listOf [v0, v1, v2, v3, v4, v5, v6, v7, v8, .int off t9'].toArray n') :: (l, listOf [v0, v1, v2, v3, v4, v5, v6, v7, v8, .int off t9].toArray n) :: (175, tabObj ps) :: rest) → Q (.ref r) { s with heap := h', toks := tk' }) ∧
    (e64 T off = .bad → ∀ (r k n' : Nat) (tu t9' : Tok) (h' : Heap) (tk' : Nat), Fr h₀ L h' m → News h₀ L h' ((r, tupO [.str "refused" tu, .ref k]) :: (k, listOf [v0, v1, v2, v3, v4, v5, v6, v7, v8, .int off t9'].toArray n') :: (l, listOf [v0, v1, v2, v3, v4, v5, v6, v7, v8, .int off t9].toArray n) :: (175, tabObj ps) :: rest) → Q (.ref r) { s with heap := h', toks := tk' }) ∧
    (∀ (sg : Array UInt8) (x1 x2 x3 x4 x5 x6 lo : Int), e64 T off = .put sg x1 x2 x3 x4 x5 x6 lo → ∀ (r k n' : Nat) (tu t0 t1 t2 t3 t4 t5 t6 t9' : Tok) (h' : Heap) (tk' : Nat), Fr h₀ L h' m → News h₀ L h' ((r, tupO [.str "told" tu, .ref k]) :: (k, listOf [.bytes sg t0, .int x1 t1, .int x2 t2, .int x3 t3, .int x4 t4, .int x5 t5, .int x6 t6, v7, v8, .int lo t9'].toArray n') :: (l, listOf [v0, v1, v2, v3, v4, v5, v6, v7, v8, .int off t9].toArray n) :: (175, tabObj ps) :: rest) → Q (.ref r) { s with heap := h', toks := tk' })) := by
  w_on
  delta CallT0 Pg
  have hmk : Rest rest := ⟨⟩
  k_fill
  rintro dp un gd cn nm ig ic mo ca ccd A₀ h₀ L m s Q E B F X N Tp hdp hun ⟨hcode, hS, hD, hP⟩
  k_extra "mine enter0"
  k_steps
  all_goals first
    | exact hS (by assumption) _ _ _ _ _ _ _ (by k_asm) (by k_extra "mine news")
    | exact hD (by assumption) _ _ _ _ _ _ _ (by k_asm) (by k_extra "mine news")
    | exact hP _ _ _ _ _ _ _ _ (by assumption) _ _ _ _ _ _ _ _ _ _ _ _ _ _ (by k_asm) (by k_extra "mine news")
theorem in2 {k : Int} (h0 : 0 ≤ k) (h1 : k < 2) : k = 0 ∨ k = 1 := by
  obtain ⟨n, rfl⟩ := Int.eq_ofNat_of_zero_le h0
  exact (by decide : ∀ n < 2, ((n : Nat) : Int) = 0 ∨ (n : Int) = 1) n (Int.ofNat_lt.mp h1)
theorem in3 {k : Int} (h0 : 0 ≤ k) (h1 : k < 3) : k = 0 ∨ k = 1 ∨ k = 2 := by
  obtain ⟨n, rfl⟩ := Int.eq_ofNat_of_zero_le h0
  exact (by decide : ∀ n < 3, ((n : Nat) : Int) = 0 ∨ (n : Int) = 1 ∨ (n : Int) = 2) n (Int.ofNat_lt.mp h1)
theorem in4 {k : Int} (h0 : 0 ≤ k) (h1 : k < 4) : k = 0 ∨ k = 1 ∨ k = 2 ∨ k = 3 := by
  obtain ⟨n, rfl⟩ := Int.eq_ofNat_of_zero_le h0
  exact (by decide : ∀ n < 4, ((n : Nat) : Int) = 0 ∨ (n : Int) = 1 ∨ (n : Int) = 2 ∨ (n : Int) = 3) n (Int.ofNat_lt.mp h1)
theorem in6 {k : Int} (h0 : 0 ≤ k) (h1 : k < 6) : k = 0 ∨ k = 1 ∨ k = 2 ∨ k = 3 ∨ k = 4 ∨ k = 5 := by
  obtain ⟨n, rfl⟩ := Int.eq_ofNat_of_zero_le h0
  exact (by decide : ∀ n < 6, ((n : Nat) : Int) = 0 ∨ (n : Int) = 1 ∨ (n : Int) = 2 ∨ (n : Int) = 3 ∨ (n : Int) = 4 ∨ (n : Int) = 5) n (Int.ofNat_lt.mp h1)
theorem pow_ne (n : Nat) : (256 : Int) ^ n ≠ 0 := Int.pow_ne_zero (by decide)
theorem pow_log {n : Nat} (h : n ≤ 8) : ((256 : Int) ^ n).natAbs.log2 < 9000 := by
  have key : ∀ m : Fin 9, ((256 : Int) ^ m.val).natAbs.log2 < 9000 := by decide +kernel
  exact key ⟨n, Nat.lt_succ_of_le h⟩
theorem low8 {k k' : Int} (h : k' < 0 + ((k - 0).toNat : Int)) (h0 : 0 ≤ k) (h8 : k ≤ 8) : k'.toNat ≤ 8 := by
  rw [Int.zero_add, Int.sub_zero, Int.toNat_of_nonneg h0] at h
  exact Int.toNat_le.mpr (Int.le_of_lt (Int.lt_of_lt_of_le h h8))
theorem words18 : True := by
  k_with "binaryOp FloorDiv int int" => first | ((k_here; (with_reducible refine floordiv_int (pow_ne _) ?_ (Or.inl (PyProof.noPylong_of_log2 (pow_log (by first | exact low8 (by assumption) (by assumption) (by assumption) | omega))))))) | fail "no"
  trivial
abbrev lowZ (a k : Int) : Array UInt8 := byteArr (List.map (fun k' : Int => (a.fdiv (256 ^ k'.toNat)).fmod 256) (rangeKs 0 (k - 0).toNat))
theorem lowT (w : World) (p : Program) (loose : List Str) (mean : ExcName → Option Value) (mg mb : Str → Option Value) (a k : Int) (h0 : 0 ≤ k) (h8 : k ≤ 8) (t u : Tok) (rest : List (Addr × Obj)) :
  CallT w p loose mean mg mb 123 [.int a t, .int k u] rest 4 60 (fun base h₀ L m s Q E outer =>
    ∀ (t' : Tok) (h' : Heap) (tk' : Nat), Fr h₀ L h' m → News h₀ L h' rest → Q (.bytes (lowZ a k) t') { s with heap := h', toks := tk' }) := by
  w_on
  delta CallT Pg
  have hmk : Rest rest := ⟨⟩
  k_fill
  rintro dp un gd cn nm ig ic mo ca ccd cl outer A₀ base h₀ L m s Q E B F X N Tp hdp hun hret
  k_extra "mine enter"
  k_steps
  exact hret _ _ _ (by k_asm) (by k_extra "mine news")
abbrev fillZ (a k : Int) : Array UInt8 := byteArr (List.map (fun k' : Int => if k'.fmod 2 = 0 then (a.fdiv 4 + 7 * k').fmod 251 else 255 - (a + k').fmod 4) (rangeKs 0 (k - 0).toNat))
theorem fillT (w : World) (p : Program) (loose : List Str) (mean : ExcName → Option Value) (mg mb : Str → Option Value) (a k : Int) (h0 : 0 ≤ k) (h8 : k ≤ 28) (t u : Tok) (rest : List (Addr × Obj)) :
  CallT w p loose mean mg mb 128 [.int a t, .int k u] rest 4 60 (fun base h₀ L m s Q E outer =>
    ∀ (t' : Tok) (h' : Heap) (tk' : Nat), Fr h₀ L h' m → News h₀ L h' rest → Q (.bytes (fillZ a k) t') { s with heap := h', toks := tk' }) := by
  w_on
  delta CallT Pg
  have hmk : Rest rest := ⟨⟩
  k_fill
  rintro dp un gd cn nm ig ic mo ca ccd cl outer A₀ base h₀ L m s Q E B F X N Tp hdp hun hret
  k_extra "mine enter"
  k_steps
  exact hret _ _ _ (by k_asm) (by k_extra "mine news")
def pG (T mk : Array UInt8) (l : List Int) (k : Int) : List Int := if ((KBy.picked T (some k) (some (k + 4))).toList == mk.toList) = true then l ++ [k] else l
theorem pG_yes {T mk : Array UInt8} {l : List Int} {k : Int} (h : ((KBy.picked T (some k) (some (k + 4))).toList == mk.toList) = true) : pG T mk l k = l ++ [k] := by unfold pG; rw [if_pos h]
theorem pG_no {T mk : Array UInt8} {l : List Int} {k : Int} (h : ((KBy.picked T (some k) (some (k + 4))).toList == mk.toList) = false) : pG T mk l k = l := by unfold pG; rw [if_neg (by rw [h]; exact Bool.false_ne_true)]
theorem pG_grows {T mk : Array UInt8} : KPfGrows (pG T mk) := by
  unfold KPfGrows
  intro l k
  unfold pG
  split <;> simp
structure PMark (T mk : Array UInt8) : Prop where
abbrev pgOf {T mk : Array UInt8} (_ : PMark T mk) : List Int → Int → List Int := pG T mk
theorem words19 : True := by
  k_with "CompSrcT" => first | ((k_here; (with_reducible rename PMark _ _ => hpm); k_dflt ((refine LCt.CompSrcT.range (by rfl) (by k_asm) (by k_asm) (by assumption) (by first | decide | exact small_one (by l_bnd) (by l_bnd) (by l_bnd) (by l_bnd)) (by first | exact rangeSize_nat _ _ | rfl) (by first | exact Nat.le_of_ble_eq_true rfl | (rw [PySem.sizeLine_eq]; first | omega | ((have hb9 := len_ints_list (by lay_of)); omega)) | size_fits) ?_; intro g'; (refine' kci_range (pgOf hpm) (fun k' t' I' oI' C' oC' D' m' ys' l' h' tk' E' hlo' hhi' hI' hC' hx' F' N' off' ne' => ?_) ?_ ?zq48kg); (case zq48kg => exact pG_grows)); (all_goals (try (simp only [LCg.Off3, and_true] at off'))); (all_goals (try ((show KPfMark → _); intro hMark')));  kcf_last))) | fail "no"
  k_with "CompEnd" => first | ((k_here; (with_reducible rename PMark _ _ => hpe); k_dflt ((refine' LCg.CompEnd.intro ?zq49F ?zq49N _ ?zq49sub ?zq49off ?zq49hS ?zq49r); (case zq49r => (try dsimp only); first | (refine' kci_el ?zq49q1 ?zq49q2 ?zq49q3; (case zq49q2 => exact rfl); (case zq49q3 => with_unfolding_all exact rfl); (case zq49q1 => exact pG_yes (by assumption))) | (refine' kci_no ?zq49q1 ?zq49q2; (case zq49q2 => exact rfl); (case zq49q1 => exact pG_no (by assumption)))); (case zq49F => k_asm); (case zq49N => k_asm); (case zq49sub => k_extra "mine sub"); (case zq49off => first | assumption | (simp only [LCg.Off3, and_true]; assumption)); (case zq49hS => trivial)))) | fail "no"
  k_with "KCiEl" => first | (((refine kci_el (pG_yes (by assumption)) (by with_unfolding_all rfl) (by with_unfolding_all rfl)))) | fail "no"
  k_with "KCiNo" => first | (((refine kci_no (pG_no (by assumption)) (by with_unfolding_all rfl)))) | fail "no"
  k_with "eval ListComp" => first | ((k_here; (with_reducible show wpAny _ _ (eval (Expr.ListComp _ _ _ _) _) _ _ _); lct_look; lcg_calm; k_dflt (refine' LCt.ListComp_T (F₀ := ?zq52a0) ?zq52a1 ?zq52a2 ?zq52a3 ?zq52a4 ?zq52a5 ?_ ?zq52a6); (case zq52a0 => k_asm); (case zq52a6 => first | (intro _; rfl) | (intro _; with_unfolding_all rfl)); (case zq52a1 => first | with_unfolding_all rfl); (case zq52a2 => first | decide); (case zq52a3 => first | k_dflt rfl); (case zq52a4 => first | decide); (case zq52a5 => first | k_dflt rfl))) | fail "no"
  trivial
theorem placeT (w : World) (p : Program) (loose : List Str) (mean : ExcName → Option Value) (mg mb : Str → Option Value) (T mk : Array UInt8) (hT : T.size ≤ 65536) (t u : Tok) (rest : List (Addr × Obj)) :
  CallT w p loose mean mg mb 145 [.bytes T t, .bytes mk u] rest 4 60 (fun base h₀ L m s Q E outer =>
    ∀ (M : Int) (t' : Tok) (h' : Heap) (tk' : Nat), M ∈ [-1] ++ List.foldl (pG T mk) [] (rangeKs 0 ((T.size : Int) - 0).toNat) → (∀ a : Int, a ∈ [-1] ++ List.foldl (pG T mk) [] (rangeKs 0 ((T.size : Int) - 0).toNat) → a ≤ M) → Fr h₀ L h' m → News h₀ L h' rest → Q (.int M t') { s with heap := h', toks := tk' }) := by
  w_on
  delta CallT Pg
  have hpm : PMark T mk := ⟨⟩
  have hmk : Rest rest := ⟨⟩
  k_fill
  rintro dp un gd cn nm ig ic mo a ccd cl outer A₀ base h₀ L m s Q E B F X N Tp hdp hun hret
  k_extra "mine enter"
  k_steps
  exact hret _ _ _ _ (by assumption) (by assumption) (by k_asm) (by k_extra "mine news")
inductive Without (q : Addr × Obj) : List (Addr × Obj) → List (Addr × Obj) → Prop
  | here (r : List (Addr × Obj)) : Without q (q :: r) r
  | there (p : Addr × Obj) {r n : List (Addr × Obj)} : Without q r n → Without q (p :: r) (p :: n)
  | skip (p : Addr × Obj) {r n : List (Addr × Obj)} : Without q r n → Without q (p :: r) n
theorem Without.mem {q : Addr × Obj} : ∀ {l n : List (Addr × Obj)}, Without q l n → q ∈ l ∧ ∀ p ∈ n, p ∈ l
  | _, _, .here _ => ⟨.head _, fun _ h => .tail _ h⟩
  | _, _, .there _ w => ⟨.tail _ w.mem.1, fun _ h => by
    cases h with
    | head => exact .head _
    | tail _ h => exact .tail _ (w.mem.2 _ h)⟩
  | _, _, .skip _ w => ⟨.tail _ w.mem.1, fun _ h => .tail _ (w.mem.2 _ h)⟩
theorem unrEnd_rest {h₀ : Heap} {L : Addr} {rest : (Str → Option Value) → List (Addr × Obj) → Prop} {s₁ : Shared} {h' : Heap} {tk : Nat} {m' : Str → Option Value} {all news' : List (Addr × Obj)} {i : Addr} {o : Obj} (F : Fr h₀ L h' m') (N : News h₀ L h' all)
    (W : Without (i, o) all news') (off : ∀ p ∈ news', p.1 ≠ i) (r : rest m' news') : UnrEndW h₀ L s₁ [(i, o)] rest { s₁ with heap := h', toks := tk } :=
  ⟨h', tk, m', news', rfl, F, fun p hp => by
    rcases List.mem_append.mp hp with hp | hp
    · rw [List.mem_singleton.mp hp]; exact N _ W.mem.1
    · exact N p (W.mem.2 p hp), fun p hp q hq => by
    rw [List.mem_singleton.mp hq]; exact off p hp, r⟩
theorem words20 : True := by
  k_with "mine apart" => first | ((with_reducible exact ne_lt0 (by k_extra "mine lt"))) | fail "no"
  k_with "exec For Name Name cons nil" => first | ((k_here; (with_reducible rename Fr _ _ _ _ => lF'); (with_unfolding_all refine' For_turns lF' ?_); k_whole)) | fail "no"
  k_with "pyIter ref" => first | ((k_here; (with_reducible show wpAny _ _ (pyIter (Value.ref _)) (fun it s₂ => TurnsAt _ _ _ _ _ _ _ _ _ it s₂) _ _); (with_reducible rename Fr _ _ _ _ => lF'); (with_reducible rename News _ _ _ _ => lN'); (with_unfolding_all refine iter_listTurns (by rfl) lF' lN' (by k_mem) (by rfl) (by rfl) ?_); clear lF'; intro i' l1; (try k_lt l1))) | fail "no"
  k_with "UnrEndW" => first | ((k_here; (with_reducible rename Fr _ _ _ _ => lF'); (with_reducible rename News _ _ _ _ => lN'); (first | (refine' unrEnd_rest lF' lN' (Without.skip _ (Without.here _)) ?zq56off ⟨?zq56sub, ?_⟩) | (refine' unrEnd_rest lF' lN' (Without.here _) ?zq56off ⟨?zq56sub, ?_⟩)); (case zq56off => k_extra "mine apart"); (case zq56sub => exact ⟨by k_mem, trivial⟩); k_whole)) | fail "no"
  trivial
def octI (b : Array UInt8) (i : Int) : Int := (KBw.bInts b).getD i.toNat 0
section
variable {w : World} {prog : Program} {A : Around} {E : Value → Shared → Prop} {s : Shared} {b : Array UInt8} {t ui : Tok} {i : Int} {value slice : PySem.Expr}
theorem item_MB {Q : Value → Shared → Prop} (hz : b.size ≤ 65536) (h0 : 0 ≤ i) (h1 : i < (b.size : Int))
    (h : ∀ t' k, Q (.int (octI b i) t') { s with toks := k })
    (hs : subscripted slice false (.bytes b t) (.int i ui) = operate [.bytes b t, .int i ui] (getItem (.bytes b t) (.int i ui)) := by with_unfolding_all rfl)
    (ht : ∀ r, letTemporaryGo value (.bytes b t) r = pure () := by intro _; with_unfolding_all rfl) : wpAny (model prog w) A (subscriptTail value slice (.bytes b t) (.int i ui)) Q E s :=
  KBw.item_K rfl (by rw [KBw.ints_length]; omega) h0 (by rw [KBw.ints_length]; exact h1) (fun t' k _ _ => h t' k) hs ht
end
theorem octI_in (b : Array UInt8) (i : Int) : 0 ≤ octI b i ∧ octI b i < 256 := KBw.getD_in (ks := KBw.bInts b) (j := i.toNat) fun k hk => KBw.ints_in hk
theorem octI_mul (b : Array UInt8) (i c : Int) : IntMulOk (octI b i) c := IntMulOk.of_left (intBits_le_64 (Int.lt_of_lt_of_le (by decide) (octI_in b i).1) (Int.lt_of_lt_of_le (octI_in b i).2 (by decide)))
theorem sub_M {b : Array UInt8} {t ui : Tok} {i : Int} {x y : Str} {p1 p2 p3 : Pos} : subscripted (Expr.BinOp (.Name x p1) .Add (.Name y p2) p3) false (.bytes b t) (.int i ui) = operate [.bytes b t, .int i ui] (getItem (.bytes b t) (.int i ui)) := by with_unfolding_all rfl
theorem tmp_M {b : Array UInt8} {t : Tok} {x : Str} {p1 : Pos} : ∀ r, letTemporaryGo (.Name x p1) (.bytes b t) r = pure () := by intro _; with_unfolding_all rfl
theorem le_M {k c n : Int} (h : k < 0 + (((c - 0).toNat : Nat) : Int)) (hc : 0 ≤ c) (h2 : c ≤ n) : k ≤ n := by omega
theorem words21 : True := by
  k_with "binaryOp Pow int int" => first | ((k_here; (with_reducible refine pow_int_small (by assumption) (le_M (by assumption) (by first | decide | omega) (by first | decide | omega)) (by decide) ?_))) | fail "no"
  k_with "binaryOp Mult int int" => first | ((k_here; (with_reducible refine mul_int ?_ (octI_mul _ _ _)))) | fail "no"
  trivial
theorem lt_M {k c q N : Int} (h : k < 0 + (((c - 0).toNat : Nat) : Int)) (h2 : q + c ≤ N) (hc : 0 ≤ c) : q + k < N := by omega
theorem words22 : True := by
  k_with "subscriptTail Name BinOp bytes int" => first | ((k_here; (with_reducible refine' item_MB ?zq59a ?zq59b ?zq59c ?_ ?zq59hs ?zq59ht); (case zq59a => assumption); (case zq59b => omega); (case zq59c => exact lt_M (by assumption) (by omega) (by first | decide | omega)); (case zq59ht => exact tmp_M); (case zq59hs => exact sub_M); intro ti9 ki9)) | fail "no"
  k_with "call builtin:list.append" => first | ((k_here; (try dsimp only); k_dflt (refine' append_K ?zq60k1 ?zq60k2 ?zq60k3 ?_ ?zq60z); (case zq60k1 => k_asm); (case zq60k2 => k_asm); (case zq60k3 => with_reducible k_upd); (case zq60z => first | size_fits | (rw [sizeLine_eq]; simp only [List.size_toArray]; omega)); intro h' F' N'; (try simp only [List.push_toArray, List.cons_append, List.nil_append] at N'); (try k_sweep))) | fail "no"
  trivial
abbrev numS (T : Array UInt8) (p c : Int) : Int := (List.map (fun k' : Int => octI T (p + k') * 256 ^ k'.toNat) (rangeKs 0 (c - 0).toNat)).sum
def numsOf (T : Array UInt8) : Int → List Int → List Int
  | _, [] => []
  | p, c :: cs => numS T p c :: numsOf T (p + c) cs
abbrev cI (c : Int × Tok) : Value := .int c.1 c.2
/-- how far the loop is -/
def NumI (T : Array UInt8) (res : List Int) (as : List (Int × Tok)) (acc : List Value) (oP : Obj) : Prop :=
  ∃ p tp don, oP.data = Data.cell (some (.int p tp)) ∧ IntsAre acc don ∧ don ++ numsOf T p (as.map (·.1)) = res ∧ 0 ≤ p ∧ p + (as.map (·.1)).sum ≤ T.size ∧ (∀ c ∈ as, 0 ≤ c.1 ∧ c.1 ≤ 8) ∧ acc.length + as.length ≤ 16
theorem sum_nn : ∀ {as : List (Int × Tok)}, (∀ c ∈ as, 0 ≤ c.1 ∧ c.1 ≤ 8) → 0 ≤ (as.map (·.1)).sum
  | [], _ => by simp
  | a :: as, h => by
    have h1 := (h a (.head _)).1
    have h2 := sum_nn (as := as) fun c hc => h c (.tail _ hc)
    rw [List.map_cons, List.sum_cons]
    omega
theorem ints_snoc {vs : List Value} {ns : List Int} (h : IntsAre vs ns) (i : Int) (t : Tok) : IntsAre (vs ++ [.int i t]) (ns ++ [i]) := by
  induction h with
  | nil => exact .cons i t .nil
  | cons n t' _ ih => exact .cons n t' ih
section
variable {prog : Program} {w : World} {A : Around} {E : Value → Shared → Prop} {h₀ : Heap} {env : Env} {target : PySem.Expr} {body : List Stmt} {Q : Flow → Shared → Prop} {s : Shared} {ws : List (Addr × String)} {keep : List (Addr × Obj)}
theorem items_num {T : Array UInt8} {res : List Int} {x : Str} {M0 : Str → Option Value} {l' lp lt : Addr} {oT oP0 : Obj} {k0 : Nat} {tl : List (Addr × Obj)} {cs : List (Int × Tok)} (hI : NumI T res cs [] oP0)
    (hnil : ∀ mv acc k oP, NumI T res [] acc oP → ItemsRest prog w A E h₀ env target body Q s ws keep [] (fun y => if y = x then mv else M0 y) ((l', listOf (List.toArray acc) k) :: (lp, oP) :: (lt, oT) :: tl))
    (hcons : ∀ a as mv acc k oP, NumI T res (a :: as) acc oP → (∀ mv' acc' k' oP', NumI T res as acc' oP' → ItemsRest prog w A E h₀ env target body Q s ws keep ((as.map cI).map .val) (fun y => if y = x then mv' else M0 y) ((l', listOf (List.toArray acc') k') :: (lp, oP') :: (lt, oT) :: tl)) →
      ItemsRest prog w A E h₀ env target body Q s ws keep (.val (cI a) :: (as.map cI).map .val) (fun y => if y = x then mv else M0 y) ((l', listOf (List.toArray acc) k) :: (lp, oP) :: (lt, oT) :: tl)) :
    ItemsRest prog w A E h₀ env target body Q s ws keep ((cs.map cI).map .val) M0 ((l', listOf #[] k0) :: (lp, oP0) :: (lt, oT) :: tl) := by
  have all : ∀ as mv acc k oP, NumI T res as acc oP → ItemsRest prog w A E h₀ env target body Q s ws keep ((as.map cI).map .val) (fun y => if y = x then mv else M0 y) ((l', listOf (List.toArray acc) k) :: (lp, oP) :: (lt, oT) :: tl) := by
    intro as
    induction as with
    | nil => exact hnil
    | cons a as ih => exact fun mv acc k oP h => hcons a as mv acc k oP h ih
  have h := all cs (M0 x) [] k0 oP0 hI
  have e : (fun y => if y = x then M0 x else M0 y) = M0 := by
    funext y
    split
    · rename_i hy; rw [hy]
    · rfl
  rw [e] at h
  exact h
theorem items_fold {x : Str} {a b : Option Value} {M : Str → Option Value} {xs : List Itm} {news : List (Addr × Obj)} (h : ItemsRest prog w A E h₀ env target body Q s ws keep xs (fun y => if y = x then a else M y) news) :
    ItemsRest prog w A E h₀ env target body Q s ws keep xs (fun y => if y = x then a else if y = x then b else M y) news := by
  have e : (fun y => if y = x then a else if y = x then b else M y) = (fun y => if y = x then a else M y) := by
    funext y
    split <;> rfl
  rw [e]
  exact h
end
theorem numG (w : World) (p : Program) (loose : List Str) (mean : ExcName → Option Value) (mg mb : Str → Option Value) (T : Array UInt8) (hT : T.size ≤ 65536) (q : Int) (h0 : 0 ≤ q) (cs : List (Int × Tok)) (hcs : ∀ c ∈ cs, 0 ≤ c.1 ∧ c.1 ≤ 8) (hlen : cs.length ≤ 16) (hq : q + (cs.map (·.1)).sum ≤ T.size) (t u : Tok) (l n : Nat) (rest : List (Addr × Obj)) :
  CallT w p loose mean mg mb 140 [.bytes T t, .int q u, .ref l] ((l, listOf (cs.map cI).toArray n) :: rest) 4 60 (fun base h₀ L m s Q E outer =>
    ∀ (r nr : Nat) (vs : List Value) (h' : Heap) (tk' : Nat), IntsAre vs (numsOf T q (cs.map (·.1))) → l < r → Fr h₀ L h' m → News h₀ L h' ((r, listOf vs.toArray nr) :: rest) → Q (.ref r) { s with heap := h', toks := tk' }) := by
  w_on
  delta CallT Pg
  have hmk : Rest rest := ⟨⟩
  k_fill
  rintro dp un gd cn nm ig ic mo ca ccd cl outer A₀ base h₀ L m s Q E B F X N Tp hdp hun hret
  k_extra "mine enter"
  k_steps
  refine' items_num (T := T) (res := numsOf T q (cs.map (·.1))) (x := "size") ?hI ?hnil ?hcons
  case hI => exact ⟨q, u, [], by assumption, .nil, rfl, h0, hq, hcs, by simpa using hlen⟩
  case hnil =>
    rintro mv acc k oP ⟨pp, tp, don, hP, hacc, hres, hp0, hps, _, _⟩
    have hvs : IntsAre acc (numsOf T q (cs.map (·.1))) := by
      rw [← hres]; simpa [numsOf] using hacc
    k_steps
    exact hret _ _ _ _ _ hvs (by omega) (by k_asm) (by k_extra "mine news")
  case hcons =>
    rintro a as mv acc k oP ⟨pp, tp, don, hP, hacc, hres, hp0, hps, hal, hln⟩ IH
    obtain ⟨c, tc⟩ := a
    have hc := hal _ (.head _)
    have hsn := sum_nn (as := as) fun c hc => hal c (.tail _ hc)
    rw [List.map_cons, List.sum_cons] at hps
    rw [List.length_cons] at hln
    dsimp only at hc hps
    have hc0 := hc.1
    have hc8 := hc.2
    have hpc : pp + c ≤ T.size := by omega
    dsimp only [cI]
    k_steps
    refine items_fold (IH _ (acc ++ [_]) _ _ ⟨pp + c, _, don ++ [numS T pp c], by assumption, ints_snoc (by assumption) _ _, ?_, by omega, by omega, fun c hc => hal c (.tail _ hc), ?_⟩)
    · rw [List.append_assoc]
      exact hres
    · rw [List.length_append, List.length_singleton]
      omega
theorem ints3 {vs : List Value} {x0 x1 x2 : Int} (h : IntsAre vs [x0, x1, x2]) : ∃ t0 t1 t2 : Tok, vs = [.int x0 t0, .int x1 t1, .int x2 t2] := by
  cases h with | cons _ t0 h =>
  cases h with | cons _ t1 h =>
  cases h with | cons _ t2 h =>
  cases h
  exact ⟨t0, t1, t2, rfl⟩
def withT (t : Nat → Tok) : List Int → List Value
  | [] => []
  | x :: r => .int x (t 0) :: withT (fun i => t (i + 1)) r
theorem ints_fn {vs : List Value} {ns : List Int} (h : IntsAre vs ns) : ∃ t : Nat → Tok, vs = withT t ns := by
  induction h with
  | nil => exact ⟨fun _ => 0, rfl⟩
  | cons x t0 _ ih =>
    obtain ⟨t, e⟩ := ih
    exact ⟨fun i => match i with | 0 => t0 | i + 1 => t i, by rw [e]; rfl⟩
theorem ints7 {vs : List Value} {x0 x1 x2 x3 x4 x5 x6 : Int} (h : IntsAre vs [x0, x1, x2, x3, x4, x5, x6]) : ∃ t0 t1 t2 t3 t4 t5 t6 : Tok, vs = [.int x0 t0, .int x1 t1, .int x2 t2, .int x3 t3, .int x4 t4, .int x5 t5, .int x6 t6] :=
  (ints_fn h).elim fun t e => ⟨t 0, t 1, t 2, t 3, t 4, t 5, t 6, e⟩
theorem ints9 {vs : List Value} {x0 x1 x2 x3 x4 x5 x6 x7 x8 : Int} (h : IntsAre vs [x0, x1, x2, x3, x4, x5, x6, x7, x8]) : ∃ t0 t1 t2 t3 t4 t5 t6 t7 t8 : Tok, vs = [.int x0 t0, .int x1 t1, .int x2 t2, .int x3 t3, .int x4 t4, .int x5 t5, .int x6 t6, .int x7 t7, .int x8 t8] :=
  (ints_fn h).elim fun t e => ⟨t 0, t 1, t 2, t 3, t 4, t 5, t 6, t 7, t 8, e⟩
theorem num3 (w : World) (p : Program) (loose : List Str) (mean : ExcName → Option Value) (mg mb : Str → Option Value) (T : Array UInt8) (hT : T.size ≤ 65536) (q : Int) (h0 : 0 ≤ q) (hq : q + 16 ≤ T.size) (t u a0 a1 a2 : Tok) (l n : Nat) (rest : List (Addr × Obj)) :
  CallT w p loose mean mg mb 140 [.bytes T t, .int q u, .ref l] ((l, listOf [.int 4 a0, .int 8 a1, .int 4 a2].toArray n) :: rest) 4 60 (fun base h₀ L m s Q E outer =>
    ∀ (r nr : Nat) (t0 t1 t2 : Tok) (h' : Heap) (tk' : Nat), l < r → Fr h₀ L h' m → News h₀ L h' ((r, listOf [.int (numS T (q) 4) t0, .int (numS T (q + 4) 8) t1, .int (numS T (q + 4 + 8) 4) t2].toArray nr) :: rest) → Q (.ref r) { s with heap := h', toks := tk' }) :=
  fun dp un gd cn nm ig ic mo a ccd cl outer A₀ base h₀ L m s Q E B F X N Tp h1 h2 hret =>
    numG w p loose mean mg mb T hT q h0 [(4, a0), (8, a1), (4, a2)] (by intro c hc; simp only [List.mem_cons, List.not_mem_nil, or_false] at hc; rcases hc with rfl | rfl | rfl <;> (constructor <;> (dsimp only; decide))) (by simp) (by show q + ([4, 8, 4] : List Int).sum ≤ T.size; exact hq) t u l n rest dp un gd cn nm ig ic mo a ccd cl outer A₀ base h₀ L m s Q E B F X N Tp h1 h2 fun r nr vs h' tk' hvs hl F' N' => by
      obtain ⟨t0, t1, t2, rfl⟩ := ints3 hvs
      exact hret r nr t0 t1 t2 h' tk' hl F' N'
theorem num7 (w : World) (p : Program) (loose : List Str) (mean : ExcName → Option Value) (mg mb : Str → Option Value) (T : Array UInt8) (hT : T.size ≤ 65536) (q : Int) (h0 : 0 ≤ q) (hq : q + 18 ≤ T.size) (t u a0 a1 a2 a3 a4 a5 a6 : Tok) (l n : Nat) (rest : List (Addr × Obj)) :
  CallT w p loose mean mg mb 140 [.bytes T t, .int q u, .ref l] ((l, listOf [.int 2 a0, .int 2 a1, .int 2 a2, .int 2 a3, .int 4 a4, .int 4 a5, .int 2 a6].toArray n) :: rest) 4 60 (fun base h₀ L m s Q E outer =>
    ∀ (r nr : Nat) (t0 t1 t2 t3 t4 t5 t6 : Tok) (h' : Heap) (tk' : Nat), l < r → Fr h₀ L h' m → News h₀ L h' ((r, listOf [.int (numS T (q) 2) t0, .int (numS T (q + 2) 2) t1, .int (numS T (q + 2 + 2) 2) t2, .int (numS T (q + 2 + 2 + 2) 2) t3, .int (numS T (q + 2 + 2 + 2 + 2) 4) t4, .int (numS T (q + 2 + 2 + 2 + 2 + 4) 4) t5, .int (numS T (q + 2 + 2 + 2 + 2 + 4 + 4) 2) t6].toArray nr) :: rest) → Q (.ref r) { s with heap := h', toks := tk' }) :=
  fun dp un gd cn nm ig ic mo a ccd cl outer A₀ base h₀ L m s Q E B F X N Tp h1 h2 hret =>
    numG w p loose mean mg mb T hT q h0 [(2, a0), (2, a1), (2, a2), (2, a3), (4, a4), (4, a5), (2, a6)] (by intro c hc; simp only [List.mem_cons, List.not_mem_nil, or_false] at hc; rcases hc with rfl | rfl | rfl | rfl | rfl | rfl | rfl <;> (constructor <;> (dsimp only; decide))) (by simp) (by show q + ([2, 2, 2, 2, 4, 4, 2] : List Int).sum ≤ T.size; exact hq) t u l n rest dp un gd cn nm ig ic mo a ccd cl outer A₀ base h₀ L m s Q E B F X N Tp h1 h2 fun r nr vs h' tk' hvs hl F' N' => by
      obtain ⟨t0, t1, t2, t3, t4, t5, t6, rfl⟩ := ints7 hvs
      exact hret r nr t0 t1 t2 t3 t4 t5 t6 h' tk' hl F' N'
theorem num9 (w : World) (p : Program) (loose : List Str) (mean : ExcName → Option Value) (mg mb : Str → Option Value) (T : Array UInt8) (hT : T.size ≤ 65536) (q : Int) (h0 : 0 ≤ q) (hq : q + 52 ≤ T.size) (t u a0 a1 a2 a3 a4 a5 a6 a7 a8 : Tok) (l n : Nat) (rest : List (Addr × Obj)) :
  CallT w p loose mean mg mb 140 [.bytes T t, .int q u, .ref l] ((l, listOf [.int 8 a0, .int 2 a1, .int 2 a2, .int 4 a3, .int 4 a4, .int 8 a5, .int 8 a6, .int 8 a7, .int 8 a8].toArray n) :: rest) 4 60 (fun base h₀ L m s Q E outer =>
    ∀ (r nr : Nat) (t0 t1 t2 t3 t4 t5 t6 t7 t8 : Tok) (h' : Heap) (tk' : Nat), l < r → Fr h₀ L h' m → News h₀ L h' ((r, listOf [.int (numS T (q) 8) t0, .int (numS T (q + 8) 2) t1, .int (numS T (q + 8 + 2) 2) t2, .int (numS T (q + 8 + 2 + 2) 4) t3, .int (numS T (q + 8 + 2 + 2 + 4) 4) t4, .int (numS T (q + 8 + 2 + 2 + 4 + 4) 8) t5, .int (numS T (q + 8 + 2 + 2 + 4 + 4 + 8) 8) t6, .int (numS T (q + 8 + 2 + 2 + 4 + 4 + 8 + 8) 8) t7, .int (numS T (q + 8 + 2 + 2 + 4 + 4 + 8 + 8 + 8) 8) t8].toArray nr) :: rest) → Q (.ref r) { s with heap := h', toks := tk' }) :=
  fun dp un gd cn nm ig ic mo a ccd cl outer A₀ base h₀ L m s Q E B F X N Tp h1 h2 hret =>
    numG w p loose mean mg mb T hT q h0 [(8, a0), (2, a1), (2, a2), (4, a3), (4, a4), (8, a5), (8, a6), (8, a7), (8, a8)] (by intro c hc; simp only [List.mem_cons, List.not_mem_nil, or_false] at hc; rcases hc with rfl | rfl | rfl | rfl | rfl | rfl | rfl | rfl | rfl <;> (constructor <;> (dsimp only; decide))) (by simp) (by show q + ([8, 2, 2, 4, 4, 8, 8, 8, 8] : List Int).sum ≤ T.size; exact hq) t u l n rest dp un gd cn nm ig ic mo a ccd cl outer A₀ base h₀ L m s Q E B F X N Tp h1 h2 fun r nr vs h' tk' hvs hl F' N' => by
      obtain ⟨t0, t1, t2, t3, t4, t5, t6, t7, t8, rfl⟩ := ints9 hvs
      exact hret r nr t0 t1 t2 t3 t4 t5 t6 t7 t8 h' tk' hl F' N'
/-- the places of a mark, and -1 -/
def placesL (T mk : Array UInt8) : List Int := [-1] ++ List.foldl (pG T mk) [] (rangeKs 0 ((T.size : Int) - 0).toNat)
/-- the last place of a mark, or -1 -/
def placeZ (T mk : Array UInt8) : Int := (placesL T mk).max?.getD (-1)
theorem placeZ_eq {T mk : Array UInt8} {M : Int} (h1 : M ∈ placesL T mk) (h2 : ∀ a : Int, a ∈ placesL T mk → a ≤ M) : M = placeZ T mk := by
  unfold placeZ
  rw [List.max?_eq_some_iff.mpr ⟨h1, h2⟩]
  rfl
theorem fold_mem {T mk : Array UInt8} {k : Int} : ∀ {ks l : List Int}, k ∈ List.foldl (pG T mk) l ks ↔ k ∈ l ∨ (k ∈ ks ∧ ((KBy.picked T (some k) (some (k + 4))).toList == mk.toList) = true)
  | [], l => by simp
  | a :: ks, l => by
    rw [List.foldl_cons, fold_mem (ks := ks)]
    unfold pG
    split
    · rename_i hp
      constructor
      · rintro (h | h)
        · rcases List.mem_append.mp h with h | h
          · exact .inl h
          · have := List.mem_singleton.mp h; subst this; exact .inr ⟨.head _, hp⟩
        · exact .inr ⟨.tail _ h.1, h.2⟩
      · rintro (h | ⟨h, h2⟩)
        · exact .inl (List.mem_append_left _ h)
        · cases h with
          | head => exact .inl (List.mem_append_right _ (.head _))
          | tail _ h => exact .inr ⟨h, h2⟩
    · rename_i hp
      constructor
      · rintro (h | h)
        · exact .inl h
        · exact .inr ⟨.tail _ h.1, h.2⟩
      · rintro (h | ⟨h, h2⟩)
        · exact .inl h
        · cases h with
          | head => exact absurd h2 hp
          | tail _ h => exact .inr ⟨h, h2⟩
/-- the mark mk stands at k -/
def At (T mk : Array UInt8) (k : Int) : Prop := ((KBy.picked T (some k) (some (k + 4))).toList == mk.toList) = true
theorem places_mem {T mk : Array UInt8} {k : Int} : k ∈ placesL T mk ↔ k = -1 ∨ (0 ≤ k ∧ k < T.size ∧ At T mk k) := by
  unfold placesL At
  rw [List.mem_append, List.mem_singleton, fold_mem]
  constructor
  · rintro (h | h | ⟨h, h2⟩)
    · exact .inl h
    · cases h
    · have := mem_rangeKs h
      exact .inr ⟨this.1, by omega, h2⟩
  · rintro (h | ⟨h1, h2, h3⟩)
    · exact .inl h
    · refine .inr (.inr ⟨?_, h3⟩)
      unfold rangeKs
      exact List.mem_map.mpr ⟨k.toNat, List.mem_range.mpr (by omega), by omega⟩
theorem placeZ_spec (T mk : Array UInt8) : placeZ T mk ∈ placesL T mk ∧ ∀ a ∈ placesL T mk, a ≤ placeZ T mk := by
  cases e : (placesL T mk).max? with
  | none => rw [List.max?_eq_none_iff] at e; simp [placesL] at e
  | some M =>
    have h := List.max?_eq_some_iff.mp e
    have : placeZ T mk = M := by unfold placeZ; rw [e]; rfl
    rw [this]; exact h
theorem placeZ_lo (T mk : Array UInt8) : -1 ≤ placeZ T mk := (placeZ_spec T mk).2 _ (places_mem.mpr (.inl rfl))
theorem placeZ_hi (T mk : Array UInt8) : placeZ T mk < T.size := by
  rcases places_mem.mp (placeZ_spec T mk).1 with h | h <;> omega
theorem placeT2 (w : World) (p : Program) (loose : List Str) (mean : ExcName → Option Value) (mg mb : Str → Option Value) (T mk : Array UInt8) (hT : T.size ≤ 65536) (t u : Tok) (rest : List (Addr × Obj)) :
  CallT w p loose mean mg mb 145 [.bytes T t, .bytes mk u] rest 4 60 (fun base h₀ L m s Q E outer =>
    ∀ (t' : Tok) (h' : Heap) (tk' : Nat), -1 ≤ placeZ T mk → placeZ T mk < T.size → Fr h₀ L h' m → News h₀ L h' rest → Q (.int (placeZ T mk) t') { s with heap := h', toks := tk' }) :=
  fun dp un gd cn nm ig ic mo a ccd cl outer A₀ base h₀ L m s Q E B F X N Tp h1 h2 hret =>
    placeT w p loose mean mg mb T mk hT t u rest dp un gd cn nm ig ic mo a ccd cl outer A₀ base h₀ L m s Q E B F X N Tp h1 h2 fun M t' h' tk' hM1 hM2 F' N' => by
      rw [placeZ_eq hM1 hM2]; exact hret t' h' tk' (placeZ_lo _ _) (placeZ_hi _ _) F' N'
theorem words23 : True := by
  k_with "call ref" => first | ((k_here; (with_reducible show wpAny _ _ (call (Value.ref 145) _) _ _ _); k_dflt (refine' use_call (placeT2 _ _ _ _ _ _ _ _ ?zq61hT _ _ _) ?zq61B ?zq61F ?zq61X ?zq61N ?zq61T ?zq61d ?zq61u ?zq61a ?zq61v (fun t9 h9 tk9 hlo9 hhi9 F9 N9 => ?_); (case zq61a => with_reducible exact rfl); (case zq61v => exact rfl); (case zq61hT => assumption); (case zq61B => k_asm); (case zq61F => k_asm); (case zq61X => k_asm); (case zq61T => k_asm); (case zq61N => k_asm); (case zq61d => ktr_room); (case zq61u => ktr_units); k_whole; (try k_fold)))) | fail "no"
  k_with "call ref" => first | ((k_here; (with_reducible show wpAny _ _ (call (Value.ref 140) _) _ _ _); k_dflt (refine' use_call (num7 _ _ _ _ _ _ _ ?zq62hT _ ?zq62h0 ?zq62hq _ _ _ _ _ _ _ _ _ _ _ _) ?zq62B ?zq62F ?zq62X ?zq62N ?zq62T ?zq62d ?zq62u ?zq62a ?zq62v (fun r9 nr9 t0 t1 t2 t3 t4 t5 t6 h9 tk9 hl9 F9 N9 => ?_); (case zq62a => with_reducible exact rfl); (case zq62v => exact rfl); (case zq62N => k_asm); (case zq62hT => assumption); (case zq62h0 => omega); (case zq62hq => omega); (case zq62B => k_asm); (case zq62F => k_asm); (case zq62X => k_asm); (case zq62T => k_asm); (case zq62d => ktr_room); (case zq62u => ktr_units); k_whole; (try k_fold)))) | fail "no"
  k_with "call ref" => first | ((k_here; (with_reducible show wpAny _ _ (call (Value.ref 140) _) _ _ _); k_dflt (refine' use_call (num3 _ _ _ _ _ _ _ ?zq63hT _ ?zq63h0 ?zq63hq _ _ _ _ _ _ _ _) ?zq63B ?zq63F ?zq63X ?zq63N ?zq63T ?zq63d ?zq63u ?zq63a ?zq63v (fun r9 nr9 t0 t1 t2 h9 tk9 hl9 F9 N9 => ?_); (case zq63a => with_reducible exact rfl); (case zq63v => exact rfl); (case zq63N => k_asm); (case zq63hT => assumption); (case zq63h0 => omega); (case zq63hq => omega); (case zq63B => k_asm); (case zq63F => k_asm); (case zq63X => k_asm); (case zq63T => k_asm); (case zq63d => ktr_room); (case zq63u => ktr_units); k_whole; (try k_fold)))) | fail "no"
  k_with "call ref" => first | ((k_here; (with_reducible show wpAny _ _ (call (Value.ref 140) _) _ _ _); k_dflt (refine' use_call (num9 _ _ _ _ _ _ _ ?zq64hT _ ?zq64h0 ?zq64hq _ _ _ _ _ _ _ _ _ _ _ _ _ _) ?zq64B ?zq64F ?zq64X ?zq64N ?zq64T ?zq64d ?zq64u ?zq64a ?zq64v (fun r9 nr9 t0 t1 t2 t3 t4 t5 t6 t7 t8 h9 tk9 hl9 F9 N9 => ?_); (case zq64a => with_reducible exact rfl); (case zq64v => exact rfl); (case zq64N => k_asm); (case zq64hT => assumption); (case zq64h0 => omega); (case zq64hq => k_extra "mine q9"); (case zq64B => k_asm); (case zq64F => k_asm); (case zq64X => k_asm); (case zq64T => k_asm); (case zq64d => ktr_room); (case zq64u => ktr_units); k_whole; (try k_fold)))) | fail "no"
  k_with "subscriptTail Name Constant ref int" => first | ((k_here; (with_reducible show wpAny _ _ (subscriptTail _ _ (Value.ref _) (Value.int _ _)) _ _ _); (with_unfolding_all refine' item_litK ?zq65k1 ?zq65k2 ?zq65k3 ?zq65k4 ?_ ?zq65k6; (case zq65k1 => is_list); (case zq65k2 => decide); (case zq65k3 => decide); (case zq65k4 => rfl); (case zq65k6 => with_unfolding_all rfl); k_whole))) | fail "no"
  trivial
abbrev rowV (T : Array UInt8) (M : Int) (t0 t1 t2 t3 t4 t5 t6 t7 t8 t9 : Tok) : List Value := [.bytes k56 t0, .int (numS T (M + 4) 2) t1, .int (numS T (M + 4 + 2) 2) t2, .int (numS T (M + 4 + 2 + 2) 2) t3, .int (numS T (M + 4 + 2 + 2 + 2) 2) t4, .int (numS T (M + 4 + 2 + 2 + 2 + 2) 4) t5, .int (numS T (M + 4 + 2 + 2 + 2 + 2 + 4) 4) t6, .int (numS T (M + 4 + 2 + 2 + 2 + 2 + 4 + 4) 2) t7, .bytes (KBy.picked T (some (M + 22)) (some (M + 22 + numS T (M + 4 + 2 + 2 + 2 + 2 + 4 + 4) 2))) t8, .int M t9]
theorem rowT (w : World) (p : Program) (loose : List Str) (mean : ExcName → Option Value) (mg mb : Str → Option Value) (T : Array UInt8) (hT : T.size ≤ 65536) (t : Tok) (rest : List (Addr × Obj)) :
  CallT w p loose mean mg mb 152 [.bytes T t] rest 6 80 (fun base h₀ L m s Q E outer =>
    ((placeZ T k56 < 0 ∨ (T.size : Int) < placeZ T k56 + 22) → ∀ (h' : Heap) (tk' : Nat), Fr h₀ L h' m → News h₀ L h' rest → Q .none { s with heap := h', toks := tk' }) ∧
    (0 ≤ placeZ T k56 → placeZ T k56 + 22 ≤ T.size → ∀ (r nr : Nat) (t0 t1 t2 t3 t4 t5 t6 t7 t8 t9 : Tok) (h' : Heap) (tk' : Nat), AllLt r rest → Fr h₀ L h' m →
      News h₀ L h' ((r, listOf (rowV T (placeZ T k56) t0 t1 t2 t3 t4 t5 t6 t7 t8 t9).toArray nr) :: rest) → Q (.ref r) { s with heap := h', toks := tk' })) := by
  w_on
  delta CallT Pg
  have hmk : Rest rest := ⟨⟩
  k_fill
  rintro dp un gd cn nm ig ic mo ca ccd cl outer A₀ base h₀ L m s Q E B F X N Tp hdp hun ⟨hN, hR⟩
  k_extra "mine enter"
  k_steps
  all_goals first
    | exact hN (.inl (by assumption)) _ _ (by k_asm) (by k_extra "mine news")
    | exact hN (.inr (by assumption)) _ _ (by k_asm) (by k_extra "mine news")
    | (refine' hR ?o1 ?o2 _ _ _ _ _ _ _ _ _ _ _ _ _ _ ?o3 ?o4 ?o5; (case o1 => exact Int.not_lt.mp (by assumption)); (case o2 => exact Int.not_lt.mp (by assumption)); (case o4 => k_asm); (case o5 => k_extra "mine news"); (case o3 => k_extra "mine lt"))
/-- what _law_wide does at the end record's place -/
def wideZ (T : Array UInt8) (L : Int) : E64 :=
  if L < 20 then .same else
  if ((KBy.picked T (some (L - 20)) (some (L - 16))).toList != k67.toList) = true then .same else
  if numS T (L - 16) 4 ≠ 0 then .bad else
  if 1 < numS T (L - 16 + 4 + 8) 4 then .bad else
  if placeZ T k66 < 0 then .bad else
  if placeZ T k66 < numS T (L - 16 + 4) 8 then .bad else
  if numS T (L - 16 + 4) 8 < placeZ T k66 ∧ 0 < L - 76 - placeZ T k66 then .bad else
  if numS T (placeZ T k66 + 4) 8 ≠ 44 + (L - 76 - placeZ T k66) then .bad else
  if numS T (placeZ T k66 + 4 + 8 + 2 + 2 + 4 + 4 + 8 + 8) 8 + numS T (placeZ T k66 + 4 + 8 + 2 + 2 + 4 + 4 + 8 + 8 + 8) 8 ≠ numS T (L - 16 + 4) 8 then .bad else
  .put k66 (numS T (placeZ T k66 + 4 + 8 + 2 + 2) 4) (numS T (placeZ T k66 + 4 + 8 + 2 + 2 + 4) 4) (numS T (placeZ T k66 + 4 + 8 + 2 + 2 + 4 + 4) 8) (numS T (placeZ T k66 + 4 + 8 + 2 + 2 + 4 + 4 + 8) 8) (numS T (placeZ T k66 + 4 + 8 + 2 + 2 + 4 + 4 + 8 + 8) 8) (numS T (placeZ T k66 + 4 + 8 + 2 + 2 + 4 + 4 + 8 + 8 + 8) 8) (placeZ T k66)
theorem bne_no {b : Bool} (h : b = false) : ¬ b = true := by rw [h]; exact Bool.false_ne_true
theorem words24 : True := by
  k_with "mine ife" => first | (first | (refine (if_pos (by with_reducible assumption)).trans ?_; k_extra "mine ife") | (refine (if_neg (by with_reducible assumption)).trans ?_; k_extra "mine ife") | (refine (if_neg (bne_no (by with_reducible assumption))).trans ?_; k_extra "mine ife") | (refine (if_neg (not_not_intro (by with_reducible assumption))).trans ?_; k_extra "mine ife") | (refine (if_pos ⟨by with_reducible assumption, by with_reducible assumption⟩).trans ?_; k_extra "mine ife") | (refine (if_neg (fun h => absurd h.1 (by with_reducible assumption))).trans ?_; k_extra "mine ife") | (refine (if_neg (fun h => absurd h.2 (by with_reducible assumption))).trans ?_; k_extra "mine ife") | (with_reducible exact rfl)) | fail "no"
  trivial
structure WMark (T : Array UInt8) (L : Int) : Prop where
  h : 20 ≤ L → ((KBy.picked T (some (L - 20)) (some (L - 16))).toList != k67.toList) = false → 0 ≤ placeZ T k66 → placeZ T k66 + 76 ≤ L
theorem WMark.in {T : Array UInt8} {L : Int} (w : WMark T L) (h1 : L + 22 ≤ T.size) (h2 : ¬ L < 20) (h3 : ((KBy.picked T (some (L - 20)) (some (L - 16))).toList != k67.toList) = false) (h4 : ¬ placeZ T k66 < 0) : placeZ T k66 + 4 + 52 ≤ T.size := by
  have := w.h (by omega) h3 (by omega)
  omega
theorem words25 : True := by
  k_with "mine q9" => first | (((with_reducible rename WMark _ _ => hwm); exact hwm.in (by assumption) (by assumption) (by assumption) (by assumption))) | fail "no"
  trivial
theorem wideT (w : World) (p : Program) (loose : List Str) (mean : ExcName → Option Value) (mg mb : Str → Option Value) (T : Array UInt8) (hT : T.size ≤ 65536) (L : Int) (hL0 : 0 ≤ L) (hL1 : L + 22 ≤ T.size)
  (hB : WMark T L) (l n : Nat) (v0 v1 v2 v3 v4 v5 v6 : Value) (c7 : Int) (comm : Array UInt8) (t t7 t8 t9 : Tok) (rest : List (Addr × Obj)) :
  CallT w p loose mean mg mb 159 [.bytes T t, .ref l] ((l, listOf [v0, v1, v2, v3, v4, v5, v6, .int c7 t7, .bytes comm t8, .int L t9].toArray n) :: rest) 6 80 (fun base h₀ L' m s Q E outer =>
    (wideZ T L = .same → ∀ (h' : Heap) (tk' : Nat), Fr h₀ L' h' m → News h₀ L' h' ((l, listOf [v0, v1, v2, v3, v4, v5, v6, .int c7 t7, .bytes comm t8, .int L t9].toArray n) :: rest) → Q (.ref l) { s with heap := h', toks := tk' }) ∧
    (wideZ T L = .bad → ∀ (h' : Heap) (tk' : Nat), Fr h₀ L' h' m → News h₀ L' h' ((l, listOf [v0, v1, v2, v3, v4, v5, v6, .int c7 t7, .bytes comm t8, .int L t9].toArray n) :: rest) → Q .none { s with heap := h', toks := tk' }) ∧
    (∀ (sg : Array UInt8) (x1 x2 x3 x4 x5 x6 lo : Int), wideZ T L = .put sg x1 x2 x3 x4 x5 x6 lo → ∀ (r nr : Nat) (u0 u1 u2 u3 u4 u5 u6 u9 : Tok) (h' : Heap) (tk' : Nat), l < r → AllLt r rest → Fr h₀ L' h' m →
      News h₀ L' h' ((r, listOf [.bytes sg u0, .int x1 u1, .int x2 u2, .int x3 u3, .int x4 u4, .int x5 u5, .int x6 u6, .int c7 t7, .bytes comm t8, .int lo u9].toArray nr) :: (l, listOf [v0, v1, v2, v3, v4, v5, v6, .int c7 t7, .bytes comm t8, .int L t9].toArray n) :: rest) → Q (.ref r) { s with heap := h', toks := tk' })) := by
  w_on
  delta CallT Pg
  have hmk : Rest rest := ⟨⟩
  k_fill
  rintro dp un gd cn nm ig ic mo ca ccd cl outer A₀ base h₀ L' m s Q E B F X N Tp hdp hun ⟨hS, hD, hP⟩
  k_extra "mine enter"
  k_steps
  all_goals first
    | exact hS (by unfold wideZ; k_extra "mine ife") _ _ (by k_asm) (by k_extra "mine news")
    | exact hD (by unfold wideZ; k_extra "mine ife") _ _ (by k_asm) (by k_extra "mine news")
    | (refine' hP _ _ _ _ _ _ _ _ ?e _ _ _ _ _ _ _ _ _ _ _ _ ?o1 ?o2 ?o3 ?o4; (case e => unfold wideZ; k_extra "mine ife"); (case o1 => omega); (case o2 => k_extra "mine lt"); (case o3 => k_asm); (case o4 => k_extra "mine news"))
section
variable {prog : Program} {w : World} {A : Around} {E : Value → Shared → Prop} {s : Shared} {value slice : PySem.Expr} {l : Addr} {k j : Int} {u : Tok}
theorem pickI3 {a0 a1 a2 : Int} {t0 t1 t2 : Tok} {Q : Value → Shared → Prop} {vs : List Value} (hl : s.heap.IsList l vs.toArray) (hv : vs = [.int a0 t0, .int a1 t1, .int a2 t2]) (h0 : 0 ≤ k) (h1 : k < 3) (h : ∀ t', Q (.int (([a0, a1, a2] : List (Int)).getD k.toNat 0) t') s)
    (hs : subscripted slice false (.ref l) (.int k u) = operate [.ref l, .int k u] (getItem (.ref l) (.int k u)) := by with_unfolding_all rfl) : wpAny (model prog w) A (subscriptTail value slice (.ref l) (.int k u)) Q E s := by
  subst hv
  have := in3 h0 h1
  rcases this with rfl | rfl | rfl <;> exact item_litK (vs := [.int a0 t0, .int a1 t1, .int a2 t2]) hl (by decide) (by decide) rfl (h _) hs
theorem pickI4 {a0 a1 a2 a3 : Int} {t0 t1 t2 t3 : Tok} {Q : Value → Shared → Prop} {vs : List Value} (hl : s.heap.IsList l vs.toArray) (hv : vs = [.int a0 t0, .int a1 t1, .int a2 t2, .int a3 t3]) (h0 : 0 ≤ k) (h1 : k < 4) (h : ∀ t', Q (.int (([a0, a1, a2, a3] : List (Int)).getD k.toNat 0) t') s)
    (hs : subscripted slice false (.ref l) (.int k u) = operate [.ref l, .int k u] (getItem (.ref l) (.int k u)) := by with_unfolding_all rfl) : wpAny (model prog w) A (subscriptTail value slice (.ref l) (.int k u)) Q E s := by
  subst hv
  have := in4 h0 h1
  rcases this with rfl | rfl | rfl | rfl <;> exact item_litK (vs := [.int a0 t0, .int a1 t1, .int a2 t2, .int a3 t3]) hl (by decide) (by decide) rfl (h _) hs
theorem pickB2 {a0 a1 : Array UInt8} {t0 t1 : Tok} {Q : Value → Shared → Prop} {vs : List Value} (hl : s.heap.IsList l vs.toArray) (hv : vs = [.bytes a0 t0, .bytes a1 t1]) (h0 : 0 ≤ k) (h1 : k < 2) (h : ∀ t', Q (.bytes (([a0, a1] : List (Array UInt8)).getD k.toNat #[]) t') s)
    (hs : subscripted slice false (.ref l) (.int k u) = operate [.ref l, .int k u] (getItem (.ref l) (.int k u)) := by with_unfolding_all rfl) : wpAny (model prog w) A (subscriptTail value slice (.ref l) (.int k u)) Q E s := by
  subst hv
  have := in2 h0 h1
  rcases this with rfl | rfl <;> exact item_litK (vs := [.bytes a0 t0, .bytes a1 t1]) hl (by decide) (by decide) rfl (h _) hs
theorem pickB4 {a0 a1 a2 a3 : Array UInt8} {t0 t1 t2 t3 : Tok} {Q : Value → Shared → Prop} {vs : List Value} (hl : s.heap.IsList l vs.toArray) (hv : vs = [.bytes a0 t0, .bytes a1 t1, .bytes a2 t2, .bytes a3 t3]) (h0 : 0 ≤ k) (h1 : k < 4) (h : ∀ t', Q (.bytes (([a0, a1, a2, a3] : List (Array UInt8)).getD k.toNat #[]) t') s)
    (hs : subscripted slice false (.ref l) (.int k u) = operate [.ref l, .int k u] (getItem (.ref l) (.int k u)) := by with_unfolding_all rfl) : wpAny (model prog w) A (subscriptTail value slice (.ref l) (.int k u)) Q E s := by
  subst hv
  have := in4 h0 h1
  rcases this with rfl | rfl | rfl | rfl <;> exact item_litK (vs := [.bytes a0 t0, .bytes a1 t1, .bytes a2 t2, .bytes a3 t3]) hl (by decide) (by decide) rfl (h _) hs
theorem pickB6 {a0 a1 a2 a3 a4 a5 : Array UInt8} {t0 t1 t2 t3 t4 t5 : Tok} {Q : Value → Shared → Prop} {vs : List Value} (hl : s.heap.IsList l vs.toArray) (hv : vs = [.bytes a0 t0, .bytes a1 t1, .bytes a2 t2, .bytes a3 t3, .bytes a4 t4, .bytes a5 t5]) (h0 : 0 ≤ k) (h1 : k < 6) (h : ∀ t', Q (.bytes (([a0, a1, a2, a3, a4, a5] : List (Array UInt8)).getD k.toNat #[]) t') s)
    (hs : subscripted slice false (.ref l) (.int k u) = operate [.ref l, .int k u] (getItem (.ref l) (.int k u)) := by with_unfolding_all rfl) : wpAny (model prog w) A (subscriptTail value slice (.ref l) (.int k u)) Q E s := by
  subst hv
  have := in6 h0 h1
  rcases this with rfl | rfl | rfl | rfl | rfl | rfl <;> exact item_litK (vs := [.bytes a0 t0, .bytes a1 t1, .bytes a2 t2, .bytes a3 t3, .bytes a4 t4, .bytes a5 t5]) hl (by decide) (by decide) rfl (h _) hs
end
/-- marks the tape's walk -/
structure TapeMark : Prop where
section
variable {prog : Program} {w : World} {A : Around} {E : Value → Shared → Prop} {σ : Shared} {Q : Unit → Shared → Prop} {env : Env} {nm : Str} {h₀ h : Heap} {L : Addr} {m : Str → Option Value} {T T' : Nat}
theorem fold_int {v : Int} (_F : Fr h₀ L h m) (s : Shared) (e : σ = { s with heap := h, toks := T' }) (k : ∀ t tk, wpAny (model prog w) A (storeName env nm (.int v t)) Q E { s with heap := h, toks := tk }) : wpAny (model prog w) A (storeName env nm (.int v T)) Q E σ := by
  subst e; exact k T T'
end
theorem words26 : True := by
  k_with "storeName" => first | ((k_here; (with_reducible rename TapeMark => fM); (with_reducible show wpAny _ _ (storeName _ _ (Value.int _ (_ + _))) _ _ _); (with_reducible rename Fr _ _ _ _ => fF); (with_reducible rename Shared => fS); (with_reducible refine' fold_int fF fS ?zq68ze ?_); (case zq68ze => k_dflt (exact rfl)); k_whole; intro ft ftk)) | fail "no"
  trivial
theorem fold_cut {prog : Program} {w : World} {A : Around} {E : Value → Shared → Prop} {σ : Shared} {α : Type} {p : Sem α} {Q : α → Shared → Prop} {h₀ h : Heap} {L l : Addr} {m : Str → Option Value} {T' n : Nat} {news rest : List (Addr × Obj)}
    {n0 n1 n2 n3 n4 n5 n6 n7 : Int} {t0 t1 t2 t3 t4 t5 t6 t7 : Tok} (_F : Fr h₀ L h m) (N : News h₀ L h news) (_R : Rest rest) (s : Shared) (e : σ = { s with heap := h, toks := T' })
    (hm : (l, listOf [.int n0 t0, .int n1 t1, .int n2 t2, .int n3 t3, .int n4 t4, .int n5 t5, .int n6 t6, .int n7 t7].toArray n) ∈ news) (hs : ∀ q ∈ rest, q ∈ news)
    (k : ∀ tk, News h₀ L h ((l, listOf [.int n0 t0, .int n1 t1, .int n2 t2, .int n3 t3, .int n4 t4, .int n5 t5, .int n6 t6, .int n7 t7].toArray n) :: rest) → wpAny (model prog w) A p Q E { s with heap := h, toks := tk }) : wpAny (model prog w) A p Q E σ := by
  subst e
  exact k T' fun q hq => N q (by
    cases hq with
    | head => exact hm
    | tail _ hq => exact hs q hq)
theorem words27 : True := by
  k_with "execs cons" => first | ((k_here; (with_reducible rename TapeMark => fM); (k_dflt (try dsimp only)); (with_reducible show wpAny _ _ (execs _ _) _ _ (Shared.mk _ _ _ (_ + _) _)); (with_reducible rename Fr _ _ _ _ => fF); (with_reducible rename News _ _ _ _ => fN); (with_reducible rename Rest _ => fR); (with_reducible rename Shared => fS); (with_reducible refine' fold_cut fF fN fR fS ?zq69ze ?zq69zm ?zq69zs ?_); (case zq69ze => k_dflt (exact rfl)); (case zq69zm => k_dflt k_mem); (case zq69zs => k_dflt (intro mq mhq; k_extra "mine tail")); k_whole; clear fN; intro ftk fN9)) | fail "no"
  trivial
section
variable {prog : Program} {w : World} {A : Around} {E : Value → Shared → Prop} {s : Shared} {value slice : PySem.Expr} {l : Addr} {k j : Int} {u : Tok}
abbrev pkX (k : Int) : Int := ([0, 0, 1, 0] : List Int).getD k.toNat 0
abbrev pkY (k : Int) : Int := ([1, 0, 1, 2] : List Int).getD k.toNat 0
theorem pickT {vs : List Value} {a0 a1 a2 a3 : Addr} {t0 t1 t2 t3 t4 t5 t6 t7 : Tok} {Q : Value → Shared → Prop} (hl : s.heap.IsList l vs.toArray) (hv : vs = [.ref a0, .ref a1, .ref a2, .ref a3]) (h0 : 0 ≤ k) (h1 : k < 4)
    (e0 : IsTup s.heap a0 #[.int 0 t0, .int 1 t1]) (e1 : IsTup s.heap a1 #[.int 0 t2, .int 0 t3]) (e2 : IsTup s.heap a2 #[.int 1 t4, .int 1 t5]) (e3 : IsTup s.heap a3 #[.int 0 t6, .int 2 t7])
    (h : ∀ a tx ty, IsTup s.heap a #[.int (pkX k) tx, .int (pkY k) ty] → Q (.ref a) s)
    (hs : subscripted slice false (.ref l) (.int k u) = operate [.ref l, .int k u] (getItem (.ref l) (.int k u)) := by with_unfolding_all rfl) : wpAny (model prog w) A (subscriptTail value slice (.ref l) (.int k u)) Q E s := by
  subst hv
  have := in4 h0 h1
  rcases this with rfl | rfl | rfl | rfl
  · exact item_litK (vs := [.ref a0, .ref a1, .ref a2, .ref a3]) hl (by decide) (by decide) rfl (h _ _ _ e0) hs
  · exact item_litK (vs := [.ref a0, .ref a1, .ref a2, .ref a3]) hl (by decide) (by decide) rfl (h _ _ _ e1) hs
  · exact item_litK (vs := [.ref a0, .ref a1, .ref a2, .ref a3]) hl (by decide) (by decide) rfl (h _ _ _ e2) hs
  · exact item_litK (vs := [.ref a0, .ref a1, .ref a2, .ref a3]) hl (by decide) (by decide) rfl (h _ _ _ e3) hs
theorem isList_news {h₀ h : Heap} {L : Addr} {news : List (Addr × Obj)} {vs : Array Value} {n : Nat} (N : News h₀ L h news) (hm : (l, listOf vs n) ∈ news) : h.IsList l vs := ⟨_, (N _ hm).1, rfl, n, rfl⟩
end
theorem fm0 (a : Int) {c : Int} (hc : 0 < c) : 0 ≤ a.fmod c := Int.fmod_nonneg_of_pos a hc
theorem fm1 (a : Int) {c : Int} (hc : 0 < c) : a.fmod c < c := Int.fmod_lt_of_pos a hc
theorem fd0 (a : Int) : 0 ≤ (a.fmod 4).fdiv 3 := by
  have h0 := fm0 a (c := 4) (by decide)
  have h1 := fm1 a (c := 4) (by decide)
  generalize a.fmod 4 = x at h0 h1
  have := in4 h0 h1
  rcases this with rfl | rfl | rfl | rfl <;> decide
theorem fd1 (a : Int) : (a.fmod 4).fdiv 3 < 2 := by
  have h0 := fm0 a (c := 4) (by decide)
  have h1 := fm1 a (c := 4) (by decide)
  generalize a.fmod 4 = x at h0 h1
  have := in4 h0 h1
  rcases this with rfl | rfl | rfl | rfl <;> decide
theorem szApp {b c : Array UInt8} {m n : Nat} (h1 : b.size ≤ m) (h2 : c.size ≤ n) : (b ++ c).size ≤ m + n := by rw [Array.size_append]; omega
theorem lowZ_size {a : Int} {k : Nat} : (lowZ a k).size = k := by
  unfold lowZ
  rw [byteArr_size, List.length_map, rangeKs_length]
  omega
theorem fillZ_size {a : Int} {k : Nat} : (fillZ a k).size = k := by
  unfold fillZ
  rw [byteArr_size, List.length_map, rangeKs_length]
  omega
theorem szLow {a : Int} {k : Int} (h : 0 ≤ k) : (lowZ a k).size ≤ k.toNat := by
  obtain ⟨n, rfl⟩ := Int.eq_ofNat_of_zero_le h
  exact Nat.le_of_eq lowZ_size
theorem szFill {a : Int} {k : Int} (h : 0 ≤ k) : (fillZ a k).size ≤ k.toNat := by
  obtain ⟨n, rfl⟩ := Int.eq_ofNat_of_zero_le h
  exact Nat.le_of_eq fillZ_size
theorem szGet {l : List (Array UInt8)} {i n : Nat} (h : ∀ a ∈ l, a.size ≤ n) : (l.getD i #[]).size ≤ n := by
  rw [List.getD_eq_getElem?_getD]
  cases e : l[i]? with
  | none => exact Nat.zero_le _
  | some a => exact h a (List.mem_of_getElem? e)
theorem szCons {l : List (Array UInt8)} {a : Array UInt8} {m n : Nat} (h : a.size ≤ m) (h2 : ∀ a ∈ l, a.size ≤ n) : ∀ b ∈ a :: l, b.size ≤ m + n := fun b hb => by
  cases hb with
  | head => omega
  | tail _ hb => have := h2 b hb; omega
theorem szNil : ∀ b ∈ ([] : List (Array UInt8)), b.size ≤ 0 := fun _ hb => nomatch hb
def repZ (b : UInt8) (n : Int) : Array UInt8 := (List.replicate n.toNat b).toArray
theorem szRep {b : UInt8} {n c : Int} (h1 : n < c) : (repZ b n).size ≤ c.toNat := by unfold repZ; simp; omega
section
variable {prog : Program} {w : World} {A : Around} {E : Value → Shared → Prop} {s : Shared} {b c : Array UInt8} {t u : Tok}
theorem add_sz {Q : Value → Shared → Prop} {m n : Nat} (hb : b.size ≤ m) (hc : c.size ≤ n) (hmn : m + n ≤ 16777216) (h : ∀ t' k, Q (.bytes (b ++ c) t') { s with toks := k }) : wpAny (model prog w) A (binaryOp .Add (.bytes b t) (.bytes c u)) Q E s :=
  KBy.add_bytes (by omega) h
end
local macro_rules | `(tactic| walk_at "mine sz") => `(tactic| first | (refine' szApp ?h1 ?h2; (case h1 => walk_at "mine sz"); (case h2 => walk_at "mine sz")) | exact szLow (by decide) | exact szFill (by decide) | (refine' szRep ?h1; (case h1 => k_extra "mine hi")) | (refine' szGet ?h1; (case h1 => walk_at "mine szs")) | (with_reducible exact Nat.le_refl (Array.size (List.toArray _))))
local macro_rules | `(tactic| walk_at "mine szs") => `(tactic| first | (refine' szCons ?h1 ?h2; (case h1 => walk_at "mine sz"); (case h2 => walk_at "mine szs")) | exact szNil)
theorem words28 : True := by
  k_with "binaryOp Add bytes bytes" => first | ((k_here; k_dflt ((with_reducible refine' add_sz ?zq70hb ?zq70hc ?zq70hm ?_); (case zq70hb => with_reducible walk_at "mine sz"); (case zq70hc => with_reducible walk_at "mine sz"); (case zq70hm => first | decide | omega)); intro tb9 kb9)) | fail "no"
  trivial
section
variable {prog : Program} {w : World} {A : Around} {E : Value → Shared → Prop} {s : Shared}
theorem mul_rep {b : UInt8} {n c : Int} {t u : Tok} {Q : Value → Shared → Prop} (h0 : 0 ≤ n) (h1 : n < c) (hc : c ≤ 1048576) (h : ∀ t' k, Q (.bytes (repZ b n) t') { s with toks := k }) :
    wpAny (model prog w) A (binaryOp .Mult (.bytes [b].toArray t) (.int n u)) Q E s := by
  have e : ∀ m : Nat, (List.replicate m [b]).flatten = List.replicate m b := fun m => by
    induction m with
    | zero => rfl
    | succ m ih => rw [List.replicate_succ, List.replicate_succ, List.flatten_cons, ih]; rfl
  refine bytes_mul_any (List.cons_ne_nil _ _) (by omega) (by omega) (by simp) ?_
  rw [e]
  exact h
end
theorem words29 : True := by
  k_with "binaryOp Mult bytes int" => first | ((k_here; k_dflt ((with_reducible refine' mul_rep ?zq71h0 ?zq71h1 ?zq71hc ?_); (case zq71h0 => k_extra "mine lo"); (case zq71h1 => k_extra "mine hi"); (case zq71hc => decide)); intro tb9 kb9)) | fail "no"
  k_with "mine size" => first | ((refine' Nat.le_trans ?zq72h1 ?zq72h2; (case zq72h1 => with_reducible walk_at "mine sz"); (case zq72h2 => first | decide | omega))) | fail "no"
  k_with "mine mem" => first | (first | exact List.Mem.head _ | (refine' List.Mem.tail _ ?_; k_extra "mine mem")) | fail "no"
  k_with "mine list" => first | (((with_reducible rename News _ _ _ _ => lN'); (refine' News.isList lN' ?zq74hm); (case zq74hm => k_extra "mine mem"))) | fail "no"
  k_with "mine tup" => first | (((with_reducible rename News _ _ _ _ => lN'); (refine' News.isTup lN' ?zq75hm); (case zq75hm => k_extra "mine mem"))) | fail "no"
  k_with "mine lo" => first | (first | (with_reducible exact fm0 _ (by decide)) | (with_reducible exact fd0 _)) | fail "no"
  k_with "mine hi" => first | (first | (with_reducible exact fm1 _ (by decide)) | (with_reducible exact fd1 _)) | fail "no"
  k_with "subscriptTail List cons BinOp ref int" => first | ((k_here; k_dflt ((first | ((with_reducible refine' pickI4 ?zq78k1 ?zq78kv ?zq78k2 ?zq78k3 ?_ ?zq78k6); (case zq78k1 => k_extra "mine list"); (case zq78kv => exact rfl)) | ((with_reducible refine' pickI3 ?zq78k1 ?zq78kv ?zq78k2 ?zq78k3 ?_ ?zq78k6); (case zq78k1 => k_extra "mine list"); (case zq78kv => exact rfl)) | ((with_reducible refine' pickB2 ?zq78k1 ?zq78kv ?zq78k2 ?zq78k3 ?_ ?zq78k6); (case zq78k1 => k_extra "mine list"); (case zq78kv => exact rfl)) | ((with_reducible refine' pickB4 ?zq78k1 ?zq78kv ?zq78k2 ?zq78k3 ?_ ?zq78k6); (case zq78k1 => k_extra "mine list"); (case zq78kv => exact rfl)) | ((with_reducible refine' pickB6 ?zq78k1 ?zq78kv ?zq78k2 ?zq78k3 ?_ ?zq78k6); (case zq78k1 => k_extra "mine list"); (case zq78kv => exact rfl))); (case zq78k2 => k_extra "mine lo"); (case zq78k3 => k_extra "mine hi"); (case zq78k6 => with_unfolding_all rfl)); intro t9)) | fail "no"
  k_with "subscriptTail List cons BinOp ref int" => first | ((k_here; k_dflt ((with_reducible refine' pickT ?zq79k1 ?zq79kv ?zq79k2 ?zq79k3 ?zq79e0 ?zq79e1 ?zq79e2 ?zq79e3 ?_ ?zq79k6); (case zq79k1 => k_extra "mine list"); (case zq79kv => exact rfl); (case zq79k2 => k_extra "mine lo"); (case zq79k3 => k_extra "mine hi"); (case zq79e0 => k_extra "mine tup"); (case zq79e1 => k_extra "mine tup"); (case zq79e2 => k_extra "mine tup"); (case zq79e3 => k_extra "mine tup"); (case zq79k6 => with_unfolding_all rfl)); intro ap9 tx9 ty9 hp9)) | fail "no"
  k_with "subscriptTail Name Constant ref int" => first | ((k_here; (with_reducible show wpAny _ _ (subscriptTail _ _ (Value.ref _) (Value.int _ _)) _ _ _); (with_unfolding_all refine' item_litK ?zq80k1 ?zq80k2 ?zq80k3 ?zq80k4 ?_ ?zq80k6; (case zq80k1 => is_list); (case zq80k2 => decide); (case zq80k3 => decide); (case zq80k4 => rfl); (case zq80k6 => with_unfolding_all rfl); k_whole))) | fail "no"
  k_with "call ref" => first | ((k_here; (with_reducible show wpAny _ _ (call (Value.ref 123) _) _ _ _); k_dflt (refine' use_call (lowT _ _ _ _ _ _ _ _ ?zq81q1 ?zq81q2 _ _ _) ?zq81B ?zq81F ?zq81X ?zq81N ?zq81T ?zq81d ?zq81u ?zq81a ?zq81v (fun t9 h9 tk9 F9 N9 => ?_); (case zq81a => with_reducible exact rfl); (case zq81v => exact rfl); (case zq81q1 => decide); (case zq81q2 => decide); (case zq81B => k_asm); (case zq81F => k_asm); (case zq81X => k_asm); (case zq81T => k_asm); (case zq81N => k_asm); (case zq81d => ktr_room); (case zq81u => ktr_units); k_whole; (try k_fold)))) | fail "no"
  k_with "call ref" => first | ((k_here; (with_reducible show wpAny _ _ (call (Value.ref 128) _) _ _ _); k_dflt (refine' use_call (fillT _ _ _ _ _ _ _ _ ?zq82q1 ?zq82q2 _ _ _) ?zq82B ?zq82F ?zq82X ?zq82N ?zq82T ?zq82d ?zq82u ?zq82a ?zq82v (fun t9 h9 tk9 F9 N9 => ?_); (case zq82a => with_reducible exact rfl); (case zq82v => exact rfl); (case zq82q1 => decide); (case zq82q2 => decide); (case zq82B => k_asm); (case zq82F => k_asm); (case zq82X => k_asm); (case zq82T => k_asm); (case zq82N => k_asm); (case zq82d => ktr_room); (case zq82u => ktr_units); k_whole; (try k_fold)))) | fail "no"
  trivial
abbrev tSize (n0 : Int) : Int := (n0.fdiv 4).fmod 4
abbrev tMore (n2 : Int) : Int := n2.fmod 3
abbrev tTold (n0 n1 n2 : Int) : Int := tSize n0 + [n0.fmod 4, 0, n0.fmod 4 + 1, n0.fmod 4 + tMore n2].getD (n1.fmod 4).toNat 0
abbrev tLen (n2 : Int) : Int := 44 + [tMore n2, 0, tMore n2 + 1].getD ((n2.fdiv 3).fmod 3).toNat 0
abbrev tStart (n0 n1 n2 : Int) : Int := tTold n0 n1 n2 - tSize n0 + [0, 1, 0, -1].getD ((n2.fdiv 9).fmod 4).toNat 0
abbrev tLoc (n0 n1 n2 : Int) : Array UInt8 := #[80, 75, 6] ++ [#[7], #[8]].getD (((n1.fdiv 16).fmod 4).fdiv 3).toNat #[] ++ lowZ (pkX ((n1.fdiv 4).fmod 4)) 4 ++ lowZ (tTold n0 n1 n2) 8 ++ lowZ (pkY ((n1.fdiv 4).fmod 4)) 4
abbrev tWide (n0 n1 n2 n3 : Int) : Array UInt8 := #[80, 75, 6] ++ [#[6], #[5]].getD (((n2.fdiv 36).fmod 4).fdiv 3).toNat #[] ++ lowZ (tLen n2) 8 ++ fillZ n3 28 ++ lowZ (tSize n0) 8 ++ lowZ (tStart n0 n1 n2) 8 ++ repZ 3 (tMore n2)
abbrev tFake : Array UInt8 := #[80, 75, 5, 6] ++ #[7, 7, 7, 7, 7, 7, 7, 7, 7, 7, 7, 7, 7, 7, 7, 7]
abbrev tCom (n5 : Int) : Array UInt8 := [#[], #[99], #[0, 0], #[80, 75, 5, 6], tFake ++ #[0, 0], tFake ++ #[2, 0, 122]].getD (n5.fmod 6).toNat #[]
abbrev tEnd (n4 n5 n6 : Int) : Array UInt8 := #[80, 75, 5] ++ [#[6], #[5]].getD ((n6.fmod 4).fdiv 3).toNat #[] ++ fillZ n4 16 ++ lowZ (((tCom n5).size : Int) + n5.fdiv 6) 2 ++ tCom n5
abbrev tAll (n0 n1 n2 n3 n4 n5 n6 : Int) : Array UInt8 := repZ 1 (n0.fmod 4) ++ repZ 2 (tSize n0) ++ [tWide n0 n1 n2 n3 ++ tLoc n0 n1 n2, #[], tLoc n0 n1 n2, tWide n0 n1 n2 n3 ++ tLoc n0 n1 n2].getD (n6.fmod 4).toNat #[] ++ tEnd n4 n5 n6
/-- the tape -/
def tapeZ (n0 n1 n2 n3 n4 n5 n6 n7 : Int) : Array UInt8 := KBy.picked (tAll n0 n1 n2 n3 n4 n5 n6) (some (n7.fmod 128)) (some (((tAll n0 n1 n2 n3 n4 n5 n6).size : Int) - (n6.fdiv 4).fmod 4))
theorem tapeT (w : World) (p : Program) (loose : List Str) (mean : ExcName → Option Value) (mg mb : Str → Option Value) (n0 n1 n2 n3 n4 n5 n6 n7 : Int) (t0 t1 t2 t3 t4 t5 t6 t7 : Tok) (l n : Nat) (rest : List (Addr × Obj)) :
  CallT w p loose mean mg mb 135 [.ref l] ((l, listOf [.int n0 t0, .int n1 t1, .int n2 t2, .int n3 t3, .int n4 t4, .int n5 t5, .int n6 t6, .int n7 t7].toArray n) :: rest) 8 200 (fun base h₀ L m s Q E outer =>
    ∀ (t' : Tok) (h' : Heap) (tk' : Nat), Fr h₀ L h' m → News h₀ L h' rest → Q (.bytes (tapeZ n0 n1 n2 n3 n4 n5 n6 n7) t') { s with heap := h', toks := tk' }) := by
  w_on
  delta CallT Pg
  have hmk : Rest rest := ⟨⟩
  have htm : TapeMark := ⟨⟩
  k_fill
  rintro dp un gd cn nm ig ic mo ca ccd cl outer A₀ base h₀ L m s Q E B F X N Tp hdp hun hret
  k_extra "mine enter"
  k_steps
  exact hret _ _ _ (by k_asm) (by k_extra "mine news")
/-- what _law_told tells of a tape -/
def toldR (T : Array UInt8) : EndR := if T.size < 22 then .none else endR T
/-- the figures of the row at M -/
structure RowIs (T : Array UInt8) (M x1 x2 x3 x4 x5 x6 x7 : Int) (comm : Array UInt8) : Prop where
  h1 : x1 = numS T (M + 4) 2
  h2 : x2 = numS T (M + 4 + 2) 2
  h3 : x3 = numS T (M + 4 + 2 + 2) 2
  h4 : x4 = numS T (M + 4 + 2 + 2 + 2) 2
  h5 : x5 = numS T (M + 4 + 2 + 2 + 2 + 2) 4
  h6 : x6 = numS T (M + 4 + 2 + 2 + 2 + 2 + 4) 4
  h7 : x7 = numS T (M + 4 + 2 + 2 + 2 + 2 + 4 + 4) 2
  hc : comm = KBy.picked T (some (M + 22)) (some (M + 22 + numS T (M + 4 + 2 + 2 + 2 + 2 + 4 + 4) 2))
/-- told and made answer as row and wide say -/
structure PlainOK (T : Array UInt8) : Prop where
  hT : T.size ≤ 65536
  none : (placeZ T k56 < 0 ∨ (T.size : Int) < placeZ T k56 + 22) → toldR T = .none
  wm : 0 ≤ placeZ T k56 → placeZ T k56 + 22 ≤ T.size → WMark T (placeZ T k56)
  row : ∀ {x1 x2 x3 x4 x5 x6 x7 : Int} {comm : Array UInt8}, 0 ≤ placeZ T k56 → placeZ T k56 + 22 ≤ T.size → RowIs T (placeZ T k56) x1 x2 x3 x4 x5 x6 x7 comm →
    (wideZ T (placeZ T k56) = .same ∧ e64 T (placeZ T k56) = .same ∧ toldR T = .row k56 x1 x2 x3 x4 x5 x6 x7 comm (placeZ T k56)) ∨
    (wideZ T (placeZ T k56) = .bad ∧ e64 T (placeZ T k56) = .bad ∧ toldR T = .bad) ∨
    (∃ sg y1 y2 y3 y4 y5 y6 lo, wideZ T (placeZ T k56) = .put sg y1 y2 y3 y4 y5 y6 lo ∧ e64 T (placeZ T k56) = .put sg y1 y2 y3 y4 y5 y6 lo ∧ toldR T = .row sg y1 y2 y3 y4 y5 y6 x7 comm lo)
section
open Builtin
set_option maxHeartbeats 1000000
theorem picked_list (T : Array UInt8) (a b : Nat) : (KBy.picked T (some (a : Int)) (some (b : Int))).toList = (T.toList.drop a).take (b - a) := by
  rw [KBc.picked_eq]
  simp only [Option.elim, clipAt_nat]
  rcases Nat.le_total a T.size with h | h
  · rw [Nat.min_eq_left h]
    rw [List.take_eq_take_iff]
    simp only [List.length_drop, Array.length_toList]
    rcases Nat.le_total b T.size with h2 | h2
    · rw [Nat.min_eq_left h2]
    · rw [Nat.min_eq_right h2, Nat.min_self, Nat.min_eq_right (Nat.sub_le_sub_right h2 a)]
  · rw [Nat.min_eq_right h, List.drop_of_length_le (by simp), List.drop_of_length_le (by simpa using h)]
    simp
theorem cut_list (T : Array UInt8) (a n : Nat) : (cutZ T (a : Int) (n : Int)).toList = (T.toList.drop a).take n := by
  unfold cutZ
  rw [show ((a : Int) + (n : Int)) = ((a + n : Nat) : Int) from rfl, picked_list]
  rw [Nat.add_sub_cancel_left]
theorem ext_list {a b : Array UInt8} (h : a.toList = b.toList) : a = b := by
  cases a; cases b; simp at h; subst h; rfl
theorem extract_list (T : Array UInt8) (i j : Nat) : (T.extract i j).toList = (T.toList.drop i).take (j - i) := by
  simp [List.extract_eq_take_drop]
/-- four octets at a place -/
def W4 (l : List UInt8) (a : Nat) : List UInt8 := (l.drop a).take 4
theorem at_iff {T mk : Array UInt8} {a : Nat} : At T mk (a : Int) ↔ W4 T.toList a = mk.toList := by
  unfold At W4
  rw [show ((a : Int) + 4) = ((a + 4 : Nat) : Int) from rfl, picked_list, Nat.add_sub_cancel_left]
  simp
theorem w4_len {l mk : List UInt8} {a : Nat} (h : W4 l a = mk) (hm : mk.length = 4) : a + 4 ≤ l.length := by
  have : (W4 l a).length = 4 := by rw [h, hm]
  unfold W4 at this
  rw [List.length_take, List.length_drop] at this
  omega
theorem octI_list (T : Array UInt8) (a : Nat) : octI T (a : Int) = ((T.toList.getD a 0).toNat : Int) := by
  unfold octI KBw.bInts
  rw [KBw.getD_ints]
  rfl
/-- low octets first -/
def LE (l : List UInt8) : Nat := l.foldr (fun c n => n * 256 + c.toNat) 0
theorem sum_mul (f : Nat → Int) : ∀ l : List Nat, (l.map (fun k => f k * 256)).sum = (l.map f).sum * 256
  | [] => rfl
  | a :: l => by rw [List.map_cons, List.sum_cons, List.map_cons, List.sum_cons, sum_mul f l, Int.add_mul]
theorem le_sum : ∀ (n : Nat) (l : List UInt8), n ≤ l.length → ((LE (l.take n) : Nat) : Int) = ((List.range n).map fun k => ((l.getD k 0).toNat : Int) * 256 ^ k).sum
  | 0, _, _ => by simp [LE]
  | n + 1, [], h => by simp at h
  | n + 1, c :: t, h => by
    have ih := le_sum n t (by simpa using h)
    have e : LE ((c :: t).take (n + 1)) = LE (t.take n) * 256 + c.toNat := rfl
    rw [e, List.range_succ_eq_map, List.map_cons, List.sum_cons, List.map_map]
    have e2 : ((List.range n).map ((fun k => (((c :: t).getD k 0).toNat : Int) * 256 ^ k) ∘ Nat.succ)) = (List.range n).map (fun k => (fun k => ((t.getD k 0).toNat : Int) * 256 ^ k) k * 256) := by
      refine List.map_congr_left fun k _ => ?_
      show (((c :: t).getD (k + 1) 0).toNat : Int) * 256 ^ (k + 1) = ((t.getD k 0).toNat : Int) * 256 ^ k * 256
      rw [Int.pow_succ, ← Int.mul_assoc]
      rfl
    rw [e2, sum_mul, ← ih]
    simp
    omega
theorem num_sum (T : Array UInt8) (a n : Nat) : numS T (a : Int) (n : Int) = ((List.range n).map fun k => (((T.toList.drop a).getD k 0).toNat : Int) * 256 ^ k).sum := by
  unfold numS rangeKs
  rw [show ((n : Int) - 0).toNat = n by omega, List.map_map]
  congr 1
  refine List.map_congr_left fun k _ => ?_
  show octI T ((a : Int) + (0 + (k : Int))) * 256 ^ (0 + (k : Int)).toNat = _
  rw [show ((a : Int) + (0 + (k : Int))) = ((a + k : Nat) : Int) by omega, octI_list, show (0 + (k : Int)).toNat = k by omega]
  congr 3
  rw [List.getD_eq_getElem?_getD, List.getD_eq_getElem?_getD, List.getElem?_drop]
theorem le_num {T : Array UInt8} {off w i n : Nat} (h1 : i + n ≤ w) (h2 : off + i + n ≤ T.size) : leN (cutZ T (off : Int) (w : Int)) i n = numS T ((off + i : Nat) : Int) (n : Int) := by
  rw [num_sum, ← le_sum n _ (by rw [List.length_drop, Array.length_toList]; omega)]
  unfold leN Memoryview.littleEndian
  have e : ((cutZ T (off : Int) (w : Int)).extract i (i + n)).toList = (T.toList.drop (off + i)).take n := by
    rw [extract_list, cut_list, List.drop_take, List.drop_drop, List.take_take, Nat.add_sub_cancel_left]
    congr 1
    omega
  rw [← Array.foldr_toList, e]
  rfl
theorem revfind (p : Nat → Bool) : ∀ n : Nat, match (List.range n).reverse.find? p with
    | some i => p i = true ∧ i < n ∧ ∀ j, i < j → j < n → p j = false
    | none => ∀ j, j < n → p j = false
  | 0 => by simp
  | n + 1 => by
    rw [List.range_succ, List.reverse_append]
    show match (n :: (List.range n).reverse).find? p with | some i => _ | none => _
    rw [List.find?_cons]
    cases e : p n with
    | true => exact ⟨e, Nat.lt_succ_self _, fun j h1 h2 => by omega⟩
    | false =>
      have ih := revfind p n
      dsimp only
      cases e2 : (List.range n).reverse.find? p with
      | none =>
        rw [e2] at ih
        dsimp only at ih ⊢
        intro j hj
        rcases Nat.lt_or_eq_of_le (Nat.le_of_lt_succ hj) with h | h
        · exact ih j h
        · rw [h]; exact e
      | some i =>
        rw [e2] at ih
        dsimp only at ih ⊢
        refine ⟨ih.1, by omega, fun j h1 h2 => ?_⟩
        rcases Nat.lt_or_eq_of_le (Nat.le_of_lt_succ h2) with h | h
        · exact ih.2.2 j h1 h
        · rw [h]; exact e
theorem rfind_place (T mk : Array UInt8) (hm : mk.size = 4) : rfindZ T mk = placeZ T mk := by
  have hp : ∀ i : Nat, (T.extract i (i + mk.size) == mk) = true ↔ At T mk (i : Int) := fun i => by
    rw [at_iff, hm]
    unfold W4
    constructor
    · intro h
      have := congrArg Array.toList (beq_iff_eq.mp h)
      rw [extract_list, Nat.add_sub_cancel_left] at this
      exact this
    · intro h
      refine beq_iff_eq.mpr (ext_list ?_)
      rw [extract_list, Nat.add_sub_cancel_left]
      exact h
  have hr := revfind (fun i => T.extract i (i + mk.size) == mk) (T.size + 1 - (0 + mk.size))
  have hz : rfindZ T mk = match (List.range (T.size + 1 - (0 + mk.size))).reverse.find? (fun i => T.extract i (i + mk.size) == mk) with | some i => (i : Int) | none => -1 := by
    unfold rfindZ Bytes.rfind?
    simp only [Nat.add_zero, List.map_id']
    try rfl
  have hlt : ∀ {a : Int}, 0 ≤ a → At T mk a → a.toNat + 4 ≤ T.size := fun {a} h0 ha => by
    obtain ⟨n, rfl⟩ := Int.eq_ofNat_of_zero_le h0
    have := w4_len (at_iff.mp ha) (by simpa using hm)
    simpa using this
  rw [hz]
  cases e : (List.range (T.size + 1 - (0 + mk.size))).reverse.find? (fun i => T.extract i (i + mk.size) == mk) with
  | none =>
    rw [e] at hr
    dsimp only at hr ⊢
    refine placeZ_eq (places_mem.mpr (.inl rfl)) fun a ha => ?_
    rcases places_mem.mp ha with h | ⟨h0, _, h2⟩
    · omega
    · have hl := hlt h0 h2
      have := hr a.toNat (by omega)
      obtain ⟨n, rfl⟩ := Int.eq_ofNat_of_zero_le h0
      have h3 := (hp n).mpr h2
      have h4 : (T.extract n (n + mk.size) == mk) = false := this
      rw [h3] at h4; cases h4
  | some i =>
    rw [e] at hr
    dsimp only at hr ⊢
    refine placeZ_eq (places_mem.mpr (.inr ⟨by omega, by omega, (hp i).mp hr.1⟩)) fun a ha => ?_
    rcases places_mem.mp ha with h | ⟨h0, _, h2⟩
    · omega
    · have hl := hlt h0 h2
      obtain ⟨n, rfl⟩ := Int.eq_ofNat_of_zero_le h0
      rcases Nat.lt_or_ge i n with h | h
      · have h4 : (T.extract n (n + mk.size) == mk) = false := hr.2.2 n h (by simp at hl; omega)
        rw [(hp n).mpr h2] at h4; cases h4
      · omega
end
section
open Builtin
set_option maxHeartbeats 1000000
theorem sg_eq {T mk : Array UInt8} {off w : Nat} (hm : mk.size = 4) (hw : 4 ≤ w) (h : At T mk (off : Int)) : (cutZ T (off : Int) (w : Int)).extract 0 4 = mk := by
  refine ext_list ?_
  rw [extract_list, cut_list, List.drop_zero, List.take_take, ← at_iff.mp h]
  unfold W4
  congr 1
  omega
theorem at_cut {T mk : Array UInt8} {off w : Nat} (hw : 4 ≤ w) : ((cutZ T (off : Int) (w : Int)).extract 0 4).toList = W4 T.toList off := by
  rw [extract_list, cut_list, List.drop_zero, List.take_take]
  unfold W4
  congr 1
  omega
theorem cut_size {T : Array UInt8} {off w : Nat} (h : off + w ≤ T.size) : (cutZ T (off : Int) (w : Int)).size = w := by
  rw [← Array.length_toList, cut_list, List.length_take, List.length_drop, Array.length_toList]
  omega
theorem starts_iff {T mk : Array UInt8} {off w : Nat} (hm : mk.size = 4) (hw : 4 ≤ w) (h : off + w ≤ T.size) : startsB (cutZ T (off : Int) (w : Int)) mk = true ↔ At T mk (off : Int) := by
  have hs := cut_size h
  unfold startsB
  rw [if_neg (by rw [hs, hm]; omega), at_iff, beq_iff_eq, hm]
  constructor
  · intro e
    rw [← at_cut (mk := mk) hw, e]
  · intro e
    exact ext_list ((at_cut (mk := mk) hw).trans e)
theorem starts_no {T mk : Array UInt8} {off w : Nat} (hm : mk.size = 4) (hw : 4 ≤ w) (h : off + w ≤ T.size) (hn : ¬ At T mk (off : Int)) : startsB (cutZ T (off : Int) (w : Int)) mk = false := by
  cases e : startsB (cutZ T (off : Int) (w : Int)) mk with
  | false => rfl
  | true => exact absurd ((starts_iff hm hw h).mp e) hn
theorem num_eq {T : Array UInt8} {p q : Int} {c : Int} (h : p = q) : numS T p c = numS T q c := by rw [h]
theorem num_nn (T : Array UInt8) (a n : Nat) : 0 ≤ numS T (a : Int) (n : Int) := by
  rw [num_sum]
  generalize List.range n = l
  induction l with
  | nil => simp
  | cons k l ih =>
    rw [List.map_cons, List.sum_cons]
    have : (0 : Int) ≤ (((T.toList.drop a).getD k 0).toNat : Int) * 256 ^ k := Int.mul_nonneg (by omega) (Int.pow_nonneg (by decide))
    omega
/-- what stands of the wide record and of the locator -/
structure WideAt (T : Array UInt8) (M : Nat) : Prop where
  h : 20 ≤ M → At T k67 ((M : Int) - 20) → ∀ k : Nat, At T k66 (k : Int) → (k : Int) = placeZ T k66 ∧ k + 76 ≤ M
theorem place_at {T mk : Array UInt8} (h : 0 ≤ placeZ T mk) : At T mk (placeZ T mk) := by
  rcases places_mem.mp (placeZ_spec T mk).1 with h1 | h1
  · omega
  · exact h1.2.2
theorem place_has {T mk : Array UInt8} {k : Nat} (hm : mk.size = 4) (h : At T mk (k : Int)) : (k : Int) ≤ placeZ T mk := by
  have := w4_len (at_iff.mp h) (by simpa using hm)
  rw [Array.length_toList] at this
  exact (placeZ_spec T mk).2 _ (places_mem.mpr (.inr ⟨by omega, by omega, h⟩))
theorem wide_e64 {T : Array UInt8} {M : Nat} (hM : M + 22 ≤ T.size) (hW : WideAt T M) : wideZ T (M : Int) = e64 T (M : Int) := by
  by_cases h20 : M < 20
  · have e1 : wideZ T (M : Int) = .same := by unfold wideZ; rw [if_pos (by omega)]
    rw [e1, e64_s1 (by omega)]
  have hb1 : ((M : Int) - 20) = ((M - 20 : Nat) : Int) := by omega
  have hb2 : ((M : Int) - 16) = ((M - 16 : Nat) : Int) := by omega
  have hpk : (KBy.picked T (some ((M : Int) - 20)) (some ((M : Int) - 16))).toList = ((cutZ T ((M : Int) - 20) 20).extract 0 4).toList := by
    rw [hb1, hb2, picked_list]
    have := at_cut (T := T) (mk := k67) (off := M - 20) (w := 20) (by decide)
    rw [show ((20 : Nat) : Int) = 20 from rfl] at this
    rw [this]
    unfold W4
    congr 1
    omega
  cases hsig : (((cutZ T ((M : Int) - 20) 20).extract 0 4).toList != k67.toList) with
  | true =>
    rw [e64_s2 (by omega) rfl hsig]
    unfold wideZ
    rw [if_neg (by omega), if_pos (by rw [hpk]; exact hsig)]
  | false =>
  have hloc : At T k67 ((M : Int) - 20) := by
    rw [hb1, at_iff]
    have h1 : ((cutZ T ((M : Int) - 20) 20).extract 0 4).toList = k67.toList := by simpa using hsig
    rw [hb1] at h1
    rw [← at_cut (T := T) (mk := k67) (off := M - 20) (w := 20) (by decide)]
    exact h1
  have hU := hW.h (by omega) hloc
  have n1 : leN (cutZ T ((M : Int) - 20) 20) 4 4 = numS T ((M : Int) - 16) 4 := by
    rw [hb1]
    exact (le_num (T := T) (off := M - 20) (w := 20) (i := 4) (n := 4) (by decide) (by omega)).trans (num_eq (by omega))
  have n2 : leN (cutZ T ((M : Int) - 20) 20) 16 4 = numS T ((M : Int) - 16 + 4 + 8) 4 := by
    rw [hb1]
    exact (le_num (T := T) (off := M - 20) (w := 20) (i := 16) (n := 4) (by decide) (by omega)).trans (num_eq (by omega))
  have n3 : leN (cutZ T ((M : Int) - 20) 20) 8 8 = numS T ((M : Int) - 16 + 4) 8 := by
    rw [hb1]
    exact (le_num (T := T) (off := M - 20) (w := 20) (i := 8) (n := 8) (by decide) (by omega)).trans (num_eq (by omega))
  have hnn : 0 ≤ numS T ((M : Int) - 16 + 4) 8 := by
    rw [show ((M : Int) - 16 + 4) = ((M - 12 : Nat) : Int) by omega]
    exact num_nn T _ 8
  have step : wideZ T (M : Int) = (if numS T ((M : Int) - 16) 4 ≠ 0 then E64.bad else if 1 < numS T ((M : Int) - 16 + 4 + 8) 4 then .bad else (wideZ T (M : Int))) := by
    split
    · rename_i h; unfold wideZ; rw [if_neg (by omega), if_neg (by rw [hpk]; exact bne_no hsig), if_pos h]
    · split
      · rename_i h h2; unfold wideZ; rw [if_neg (by omega), if_neg (by rw [hpk]; exact bne_no hsig), if_neg h, if_pos h2]
      · rfl
  by_cases g1 : numS T ((M : Int) - 16) 4 = 0
  case neg => rw [step, if_pos g1, e64_b1 (by omega) rfl hsig (by rw [n1]; exact g1)]
  by_cases g2 : 1 < numS T ((M : Int) - 16 + 4 + 8) 4
  case pos => rw [step, if_neg (not_not_intro g1), if_pos g2, e64_b2 (by omega) rfl hsig (by rw [n1]; exact g1) (by rw [n2]; exact g2)]
  clear step
  have wz : wideZ T (M : Int) = (if placeZ T k66 < 0 then E64.bad else
      if placeZ T k66 < numS T ((M : Int) - 16 + 4) 8 then .bad else
      if numS T ((M : Int) - 16 + 4) 8 < placeZ T k66 ∧ 0 < (M : Int) - 76 - placeZ T k66 then .bad else
      if numS T (placeZ T k66 + 4) 8 ≠ 44 + ((M : Int) - 76 - placeZ T k66) then .bad else
      if numS T (placeZ T k66 + 4 + 8 + 2 + 2 + 4 + 4 + 8 + 8) 8 + numS T (placeZ T k66 + 4 + 8 + 2 + 2 + 4 + 4 + 8 + 8 + 8) 8 ≠ numS T ((M : Int) - 16 + 4) 8 then .bad else
      .put k66 (numS T (placeZ T k66 + 4 + 8 + 2 + 2) 4) (numS T (placeZ T k66 + 4 + 8 + 2 + 2 + 4) 4) (numS T (placeZ T k66 + 4 + 8 + 2 + 2 + 4 + 4) 8) (numS T (placeZ T k66 + 4 + 8 + 2 + 2 + 4 + 4 + 8) 8) (numS T (placeZ T k66 + 4 + 8 + 2 + 2 + 4 + 4 + 8 + 8) 8) (numS T (placeZ T k66 + 4 + 8 + 2 + 2 + 4 + 4 + 8 + 8 + 8) 8) (placeZ T k66)) := by
    unfold wideZ
    rw [if_neg (by omega), if_neg (by rw [hpk]; exact bne_no hsig), if_neg (not_not_intro g1), if_neg g2]
  rw [wz]
  clear wz
  generalize htold : numS T ((M : Int) - 16 + 4) 8 = told at *
  have q0 : ¬ (M : Int) - 20 < 0 := by omega
  have q1 : leN (cutZ T ((M : Int) - 20) 20) 4 4 = 0 := by rw [n1]; exact g1
  have q2 : ¬ 1 < leN (cutZ T ((M : Int) - 20) 20) 16 4 := by rw [n2]; exact g2
  obtain ⟨t, rfl⟩ := Int.eq_ofNat_of_zero_le hnn
  by_cases g3 : (M : Int) - 20 - 56 < (t : Int)
  · rw [e64_b3 q0 rfl hsig q1 q2 (by rw [n3]; exact g3)]
    by_cases hH : placeZ T k66 < 0
    · rw [if_pos hH]
    · rw [if_neg hH]
      have ha := place_at (T := T) (mk := k66) (by omega)
      obtain ⟨H, hHe⟩ := Int.eq_ofNat_of_zero_le (by omega : 0 ≤ placeZ T k66)
      rw [hHe] at ha
      have := (hU H ha).2
      rw [if_pos (by omega)]
  have q3 : ¬ (M : Int) - 20 - 56 < leN (cutZ T ((M : Int) - 20) 20) 8 8 := by rw [n3]; exact g3
  have ct : cutZ T (leN (cutZ T ((M : Int) - 20) 20) 8 8) 56 = cutZ T (t : Int) 56 := by rw [n3]
  have ft : t + 56 ≤ T.size := by omega
  -- the figures of a record at H
  have fig : ∀ (H i n : Nat), i + n ≤ 56 → H + 56 ≤ T.size → leN (cutZ T (H : Int) 56) i n = numS T ((H + i : Nat) : Int) (n : Int) := fun H i n h1 h2 => le_num (T := T) (off := H) (w := 56) h1 (by omega)
  by_cases a1 : At T k66 (t : Int)
  · obtain ⟨hH, hg⟩ := hU t a1
    have s1 : startsB (cutZ T (leN (cutZ T ((M : Int) - 20) 20) 8 8) 56) k66 = true := by rw [ct]; exact (starts_iff (by decide) (by decide) ft).mpr a1
    rw [← hH]
    rw [if_neg (by omega), if_neg (by omega), if_neg (fun h => absurd h.1 (by omega))]
    have f7 := fig t 40 8 (by decide) ft
    have f8 := fig t 48 8 (by decide) ft
    have f0 := fig t 4 8 (by decide) ft
    have e7 : numS T ((t : Int) + 4 + 8 + 2 + 2 + 4 + 4 + 8 + 8) 8 = leN (cutZ T (t : Int) 56) 40 8 := by rw [f7]; exact num_eq (by omega)
    have e8 : numS T ((t : Int) + 4 + 8 + 2 + 2 + 4 + 4 + 8 + 8 + 8) 8 = leN (cutZ T (t : Int) 56) 48 8 := by rw [f8]; exact num_eq (by omega)
    have e0 : numS T ((t : Int) + 4) 8 = leN (cutZ T (t : Int) 56) 4 8 := by rw [f0]; exact num_eq (by omega)
    rw [e7, e8, e0]
    by_cases b5 : leN (cutZ T (t : Int) 56) 48 8 + leN (cutZ T (t : Int) 56) 40 8 = (t : Int)
    · by_cases b6 : leN (cutZ T (t : Int) 56) 4 8 + 12 = 56 + ((M : Int) - 20 - 56 - (t : Int))
      · rw [if_neg (by omega), if_neg (by omega)]
        rw [e64_p1 q0 rfl hsig q1 q2 q3 ct.symm (by rw [← ct]; exact s1) (by rw [n3]; exact b5) (by rw [n3]; exact b6)]
        rw [n3, show (cutZ T (t : Int) 56).extract 0 4 = k66 from sg_eq (T := T) (mk := k66) (off := t) (w := 56) (by decide) (by decide) a1]
        have r3 : numS T ((t : Int) + 4 + 8 + 2 + 2) 4 = leN (cutZ T (t : Int) 56) 16 4 := by rw [fig t 16 4 (by decide) ft]; exact num_eq (by omega)
        have r4 : numS T ((t : Int) + 4 + 8 + 2 + 2 + 4) 4 = leN (cutZ T (t : Int) 56) 20 4 := by rw [fig t 20 4 (by decide) ft]; exact num_eq (by omega)
        have r5 : numS T ((t : Int) + 4 + 8 + 2 + 2 + 4 + 4) 8 = leN (cutZ T (t : Int) 56) 24 8 := by rw [fig t 24 8 (by decide) ft]; exact num_eq (by omega)
        have r6 : numS T ((t : Int) + 4 + 8 + 2 + 2 + 4 + 4 + 8) 8 = leN (cutZ T (t : Int) 56) 32 8 := by rw [fig t 32 8 (by decide) ft]; exact num_eq (by omega)
        rw [r3, r4, r5, r6]
        rw [show ((M : Int) - 20 - 56 - ((M : Int) - 20 - 56 - (t : Int))) = (t : Int) by omega]
      · rw [e64_b5 q0 rfl hsig q1 q2 q3 ct.symm (by rw [← ct]; exact s1) (by rw [n3]; exact b5) (by rw [n3]; exact b6)]
        rw [if_pos (by omega)]
    · rw [e64_b4 q0 rfl hsig q1 q2 q3 ct.symm (by rw [← ct]; exact s1) (by rw [n3]; exact b5)]
      split
      · rfl
      · rw [if_pos (by omega)]
  · have s1 : startsB (cutZ T (leN (cutZ T ((M : Int) - 20) 20) 8 8) 56) k66 = false := by rw [ct]; exact starts_no (by decide) (by decide) ft a1
    by_cases b7 : (t : Int) = (M : Int) - 20 - 56
    · rw [e64_b9 q0 rfl hsig q1 q2 q3 rfl s1 (by rw [n3]; exact b7)]
      by_cases hH : placeZ T k66 < 0
      · rw [if_pos hH]
      · rw [if_neg hH]
        have ha := place_at (T := T) (mk := k66) (by omega)
        obtain ⟨H, hHe⟩ := Int.eq_ofNat_of_zero_le (by omega : 0 ≤ placeZ T k66)
        rw [hHe] at ha
        have h2 := (hU H ha).2
        have hne : H ≠ t := fun e => a1 (by rw [← e]; exact ha)
        rw [if_pos (by omega)]
    · have b7' : leN (cutZ T ((M : Int) - 20) 20) 8 8 ≠ (M : Int) - 20 - 56 := by rw [n3]; exact b7
      obtain ⟨d, hd⟩ := Int.eq_ofNat_of_zero_le (by omega : 0 ≤ (M : Int) - 20 - 56)
      have fd : d + 56 ≤ T.size := by omega
      by_cases a2 : At T k66 (d : Int)
      · obtain ⟨hH, hg⟩ := hU d a2
        have s2 : startsB (cutZ T ((M : Int) - 20 - 56) 56) k66 = true := by rw [hd]; exact (starts_iff (by decide) (by decide) fd).mpr a2
        rw [← hH]
        rw [if_neg (by omega), if_neg (by omega), if_neg (fun h => absurd h.2 (by omega))]
        have e7 : numS T ((d : Int) + 4 + 8 + 2 + 2 + 4 + 4 + 8 + 8) 8 = leN (cutZ T (d : Int) 56) 40 8 := by rw [fig d 40 8 (by decide) fd]; exact num_eq (by omega)
        have e8 : numS T ((d : Int) + 4 + 8 + 2 + 2 + 4 + 4 + 8 + 8 + 8) 8 = leN (cutZ T (d : Int) 56) 48 8 := by rw [fig d 48 8 (by decide) fd]; exact num_eq (by omega)
        have e0 : numS T ((d : Int) + 4) 8 = leN (cutZ T (d : Int) 56) 4 8 := by rw [fig d 4 8 (by decide) fd]; exact num_eq (by omega)
        rw [e7, e8, e0]
        have cd : cutZ T ((M : Int) - 20 - 56) 56 = cutZ T (d : Int) 56 := by rw [hd]
        by_cases b5 : leN (cutZ T (d : Int) 56) 48 8 + leN (cutZ T (d : Int) 56) 40 8 = (t : Int)
        · by_cases b6 : leN (cutZ T (d : Int) 56) 4 8 + 12 = 56 + 0
          · rw [if_neg (by omega), if_neg (by omega)]
            rw [e64_p2 q0 rfl hsig q1 q2 q3 rfl s1 b7' cd.symm (by rw [← cd]; exact s2) (by rw [n3]; exact b5) b6]
            rw [show (cutZ T (d : Int) 56).extract 0 4 = k66 from sg_eq (T := T) (mk := k66) (off := d) (w := 56) (by decide) (by decide) a2]
            have r3 : numS T ((d : Int) + 4 + 8 + 2 + 2) 4 = leN (cutZ T (d : Int) 56) 16 4 := by rw [fig d 16 4 (by decide) fd]; exact num_eq (by omega)
            have r4 : numS T ((d : Int) + 4 + 8 + 2 + 2 + 4) 4 = leN (cutZ T (d : Int) 56) 20 4 := by rw [fig d 20 4 (by decide) fd]; exact num_eq (by omega)
            have r5 : numS T ((d : Int) + 4 + 8 + 2 + 2 + 4 + 4) 8 = leN (cutZ T (d : Int) 56) 24 8 := by rw [fig d 24 8 (by decide) fd]; exact num_eq (by omega)
            have r6 : numS T ((d : Int) + 4 + 8 + 2 + 2 + 4 + 4 + 8) 8 = leN (cutZ T (d : Int) 56) 32 8 := by rw [fig d 32 8 (by decide) fd]; exact num_eq (by omega)
            rw [r3, r4, r5, r6]
            rw [show ((M : Int) - 20 - 56 - 0) = (d : Int) by omega]
          · rw [e64_b7 q0 rfl hsig q1 q2 q3 rfl s1 b7' cd.symm (by rw [← cd]; exact s2) (by rw [n3]; exact b5) b6]
            rw [if_pos (by omega)]
        · rw [e64_b6 q0 rfl hsig q1 q2 q3 rfl s1 b7' cd.symm (by rw [← cd]; exact s2) (by rw [n3]; exact b5)]
          split
          · rfl
          · rw [if_pos (by omega)]
      · have s2 : startsB (cutZ T ((M : Int) - 20 - 56) 56) k66 = false := by rw [hd]; exact starts_no (by decide) (by decide) fd a2
        rw [e64_b8 q0 rfl hsig q1 q2 q3 rfl s1 b7' rfl s2]
        by_cases hH : placeZ T k66 < 0
        · rw [if_pos hH]
        · rw [if_neg hH]
          have ha := place_at (T := T) (mk := k66) (by omega)
          obtain ⟨H, hHe⟩ := Int.eq_ofNat_of_zero_le (by omega : 0 ≤ placeZ T k66)
          rw [hHe] at ha
          have h2 := (hU H ha).2
          have hne : H ≠ t := fun e => a1 (by rw [← e]; exact ha)
          have hne2 : H ≠ d := fun e => a2 (by rw [← e]; exact ha)
          rw [hHe]
          split
          · rfl
          · rw [if_pos ⟨by omega, by omega⟩]
end
section
open Builtin
set_option maxHeartbeats 1000000
/-- what the tape must be like -/
structure TapeOK (T : Array UInt8) : Prop where
  hT : T.size ≤ 65536
  last : ∀ a : Nat, a + 22 = T.size → At T k56 (a : Int) → (a : Int) = placeZ T k56
  wide : ∀ M : Nat, M + 22 ≤ T.size → (M : Int) = placeZ T k56 → WideAt T M
theorem cut_all {T : Array UInt8} (hT : T.size ≤ 65536) : cutZ T 0 65557 = T := by
  refine ext_list ?_
  have := cut_list T 0 65557
  rw [show ((0 : Nat) : Int) = 0 from rfl, show ((65557 : Nat) : Int) = 65557 from rfl] at this
  rw [this, List.drop_zero, List.take_of_length_le (by simp; omega)]
theorem picked_end {T : Array UInt8} {a : Nat} {b : Int} (h : T.size ≤ a) (hb : 0 ≤ b) : KBy.picked T (some (a : Int)) (some b) = #[] := by
  obtain ⟨n, rfl⟩ := Int.eq_ofNat_of_zero_le hb
  refine ext_list ?_
  rw [picked_list, List.drop_of_length_le (by simpa using h)]
  simp
theorem picked_size {T : Array UInt8} {M : Nat} : (KBy.picked T (some (M : Int)) (some ((M : Int) + 22))).size = min 22 (T.size - M) := by
  rw [← Array.length_toList, show ((M : Int) + 22) = ((M + 22 : Nat) : Int) from rfl, picked_list, List.length_take, List.length_drop, Array.length_toList, Nat.add_sub_cancel_left]
theorem le_nn (b : Array UInt8) (i n : Nat) : 0 ≤ leN b i n := by unfold leN; omega
theorem told_eq {T : Array UInt8} (hT : TapeOK T) (h22 : 22 ≤ T.size) :
    (placeZ T k56 < 0 ∨ (T.size : Int) < placeZ T k56 + 22 → endR T = .none) ∧
    (∀ M : Nat, (M : Int) = placeZ T k56 → M + 22 ≤ T.size → endR T = fin T (cutZ T (M : Int) 22) (KBy.picked T (some ((M : Int) + 22)) (some ((M : Int) + 22 + leN (cutZ T (M : Int) 22) 20 2))) (M : Int)) := by
  have hr : rfindZ T k56 = placeZ T k56 := rfind_place T k56 (by decide)
  have tail : endR T = endTail T T → (placeZ T k56 < 0 ∨ (T.size : Int) < placeZ T k56 + 22 → endR T = .none) ∧
      (∀ M : Nat, (M : Int) = placeZ T k56 → M + 22 ≤ T.size → endR T = fin T (cutZ T (M : Int) 22) (KBy.picked T (some ((M : Int) + 22)) (some ((M : Int) + 22 + leN (cutZ T (M : Int) 22) 20 2))) (M : Int)) := by
    intro e
    rw [e]
    unfold endTail
    rw [hr]
    constructor
    · intro h
      by_cases h0 : placeZ T k56 < 0
      · rw [if_pos h0]
      · rw [if_neg h0]
        dsimp only
        obtain ⟨M, hM⟩ := Int.eq_ofNat_of_zero_le (by omega : 0 ≤ placeZ T k56)
        rw [hM] at h ⊢
        rw [if_pos (by rw [picked_size]; omega)]
    · intro M hM hl
      rw [← hM, if_neg (by omega)]
      dsimp only
      rw [if_neg (by rw [picked_size]; omega)]
      rfl
  by_cases a1 : ((KBy.picked (cutZ T ((T.size : Int) - 22) 22) (some 0) (some 4)).toList == k56.toList) = true
  · by_cases a2 : ((KBy.picked (cutZ T ((T.size : Int) - 22) 22) (some (-2)) none).toList == #[0, 0].toList) = true
    · obtain ⟨a, ha⟩ : ∃ a : Nat, a + 22 = T.size := ⟨T.size - 22, by omega⟩
      have hai : (T.size : Int) - 22 = (a : Int) := by omega
      have hat : At T k56 (a : Int) := by
        rw [hai] at a1
        rw [at_iff]
        have h1 := picked_list (cutZ T (a : Int) 22) 0 4
        rw [show ((0 : Nat) : Int) = 0 from rfl, show ((4 : Nat) : Int) = 4 from rfl] at h1
        rw [h1] at a1
        have h2 := beq_iff_eq.mp a1
        have h3 := cut_list T a 22
        rw [show ((22 : Nat) : Int) = 22 from rfl] at h3
        rw [h3, List.drop_zero, List.take_take] at h2
        unfold W4
        exact h2
      have hp := hT.last a ha hat
      have e : endR T = fin T (cutZ T ((T.size : Int) - 22) 22) #[] ((T.size : Int) - 22) := by unfold endR; rw [if_pos a1, if_pos a2]
      constructor
      · intro h; omega
      · intro M hM hl
        have hMa : M = a := by omega
        subst hMa
        rw [e, hai]
        have hz := le_nn (cutZ T (M : Int) 22) 20 2
        have := picked_end (T := T) (a := M + 22) (b := (M : Int) + 22 + leN (cutZ T (M : Int) 22) 20 2) (by omega) (by omega)
        rw [show ((M + 22 : Nat) : Int) = (M : Int) + 22 from rfl] at this
        rw [this]
    · refine tail ?_
      unfold endR
      rw [if_pos a1, if_neg a2, cut_all hT.hT]
  · refine tail ?_
    unfold endR
    rw [if_neg a1, cut_all hT.hT]
theorem plain_of {T : Array UInt8} (hT : TapeOK T) : PlainOK T where
  hT := hT.hT
  none := fun h => by
    unfold toldR
    split
    · rfl
    · exact (told_eq hT (by omega)).1 h
  wm := fun h0 h1 => by
    obtain ⟨M, hM⟩ := Int.eq_ofNat_of_zero_le h0
    have hW := hT.wide M (by omega) hM.symm
    rw [hM]
    refine ⟨fun g1 g2 g3 => ?_⟩
    have ha := place_at (T := T) (mk := k66) g3
    obtain ⟨H, hHe⟩ := Int.eq_ofNat_of_zero_le g3
    rw [hHe] at ha ⊢
    have hloc : At T k67 ((M : Int) - 20) := by
      have hb1 : ((M : Int) - 20) = ((M - 20 : Nat) : Int) := by omega
      have hb2 : ((M : Int) - 16) = ((M - 16 : Nat) : Int) := by omega
      rw [hb1, at_iff]
      rw [hb1, hb2, picked_list] at g2
      have g3 : ((T.toList.drop (M - 20)).take (M - 16 - (M - 20))) = k67.toList := by simpa using g2
      rw [← g3]
      unfold W4
      congr 1
      omega
    have := (hW.h (by omega) hloc H ha).2
    omega
  row := fun {x1 x2 x3 x4 x5 x6 x7 comm} h0 h1 hR => by
    obtain ⟨M, hM⟩ := Int.eq_ofNat_of_zero_le h0
    have hW := hT.wide M (by omega) hM.symm
    rw [hM] at hR ⊢
    have hMN : M + 22 ≤ T.size := by omega
    have hw := wide_e64 hMN hW
    have ht : toldR T = fin T (cutZ T (M : Int) 22) (KBy.picked T (some ((M : Int) + 22)) (some ((M : Int) + 22 + leN (cutZ T (M : Int) 22) 20 2))) (M : Int) := by
      unfold toldR
      rw [if_neg (by omega)]
      exact (told_eq hT (by omega)).2 M hM.symm hMN
    have fig : ∀ (i n : Nat), i + n ≤ 22 → leN (cutZ T (M : Int) 22) i n = numS T ((M + i : Nat) : Int) (n : Int) := fun i n h => le_num (T := T) (off := M) (w := 22) h (by omega)
    have hc7 : leN (cutZ T (M : Int) 22) 20 2 = x7 := by rw [hR.h7, fig 20 2 (by decide)]; exact num_eq (by omega)
    have hcm : KBy.picked T (some ((M : Int) + 22)) (some ((M : Int) + 22 + leN (cutZ T (M : Int) 22) 20 2)) = comm := by rw [hR.hc, hc7, hR.h7]
    rw [hcm] at ht
    have hat : At T k56 (M : Int) := by
      have := place_at (T := T) (mk := k56) h0
      rw [hM] at this
      exact this
    rw [hw]
    cases he : e64 T (M : Int) with
    | same =>
      refine .inl ⟨rfl, rfl, ?_⟩
      rw [ht, fin_same he, hc7]
      rw [show (cutZ T (M : Int) 22).extract 0 4 = k56 from sg_eq (T := T) (mk := k56) (off := M) (w := 22) (by decide) (by decide) hat]
      rw [hR.h1, hR.h2, hR.h3, hR.h4, hR.h5, hR.h6]
      rw [fig 4 2 (by decide), fig 6 2 (by decide), fig 8 2 (by decide), fig 10 2 (by decide), fig 12 4 (by decide), fig 16 4 (by decide)]
      congr 1 <;> exact num_eq (by omega)
    | bad => exact .inr (.inl ⟨rfl, rfl, ht.trans (fin_bad he)⟩)
    | put sg a b c d e f lo =>
      refine .inr (.inr ⟨sg, a, b, c, d, e, f, lo, rfl, rfl, ?_⟩)
      rw [ht, fin_put he, hc7]
end
section
open Builtin
set_option maxHeartbeats 1000000
/-- what is known of an octet -/
inductive Ab where
  | lit (n : Nat)
  | two (a b : Nat)
  | no80
  | hi
  | any
def Ab.can : Ab → Nat → Bool
  | .lit n, v => n == v
  | .two a b, v => a == v || b == v
  | .no80, v => v != 80
  | .hi, v => Nat.ble 252 v
  | .any, _ => true
def fits : List UInt8 → List Ab → Bool
  | [], [] => true
  | b :: l, a :: t => a.can b.toNat && fits l t
  | _, _ => false
theorem fits_app : ∀ {l l' : List UInt8} {t t' : List Ab}, fits l t = true → fits l' t' = true → fits (l ++ l') (t ++ t') = true
  | [], _, [], _, _, h => h
  | b :: l, _, a :: t, _, h, h' => by
    simp only [fits, Bool.and_eq_true] at h
    simp only [List.cons_append, fits, Bool.and_eq_true]
    exact ⟨h.1, fits_app h.2 h'⟩
theorem fits_len : ∀ {l : List UInt8} {t : List Ab}, fits l t = true → l.length = t.length
  | [], [], _ => rfl
  | b :: l, a :: t, h => by
    simp only [fits, Bool.and_eq_true] at h
    simp [fits_len h.2]
theorem fits_map {α : Type} {g : α → UInt8} {f : α → Ab} : ∀ {l : List α}, (∀ x ∈ l, (f x).can (g x).toNat = true) → fits (l.map g) (l.map f) = true
  | [], _ => rfl
  | a :: l, h => by
    simp only [List.map_cons, fits, Bool.and_eq_true]
    exact ⟨h a (.head _), fits_map fun x hx => h x (.tail _ hx)⟩
def h4 (c d : Nat) : List Ab → Bool
  | a1 :: a2 :: a3 :: _ => a1.can 75 && a2.can c && a3.can d
  | _ => false
/-- the places where a mark 80 75 c d can stand -/
def m4 (c d : Nat) : List Ab → Nat → List Nat
  | [], _ => []
  | a0 :: t, p => (if a0.can 80 && h4 c d t then [p] else []) ++ m4 c d t (p + 1)
theorem m4_cons {c d : Nat} {a0 : Ab} {t : List Ab} {p : Nat} : m4 c d (a0 :: t) p = (if a0.can 80 && h4 c d t then [p] else []) ++ m4 c d t (p + 1) := rfl
theorem m4_mem {c d : UInt8} : ∀ {l : List UInt8} {t : List Ab} {k p : Nat}, fits l t = true → W4 l k = [80, 75, c, d] → p + k ∈ m4 c.toNat d.toNat t p
  | [], _, k, _, _, h => by simp [W4] at h
  | b :: l, [], _, _, h, _ => by simp [fits] at h
  | b :: l, a :: t, 0, p, h, hw => by
    have hf := h
    unfold W4 at hw
    rw [List.drop_zero] at hw
    match l, t, hf, hw with
    | b1 :: b2 :: b3 :: l, a1 :: a2 :: a3 :: t, hf, hw =>
      simp only [fits, Bool.and_eq_true] at hf
      have e : b = 80 ∧ b1 = 75 ∧ b2 = c ∧ b3 = d := by simpa using hw
      obtain ⟨rfl, rfl, rfl, rfl⟩ := e
      rw [m4_cons, if_pos (by simp only [h4, Bool.and_eq_true]; exact ⟨hf.1, ⟨hf.2.1, hf.2.2.1⟩, hf.2.2.2.1⟩)]
      simp
    | [], _, _, hw => simp at hw
    | [_], _, _, hw => simp at hw
    | [_, _], _, _, hw => simp at hw
    | _ :: _ :: _ :: _, [], hf, _ => simp [fits] at hf
    | _ :: _ :: _ :: _, [_], hf, _ => simp [fits] at hf
    | _ :: _ :: _ :: _, [_, _], hf, _ => simp [fits] at hf
  | b :: l, a :: t, k + 1, p, h, hw => by
    simp only [fits, Bool.and_eq_true] at h
    have : W4 l k = [80, 75, c, d] := by
      unfold W4 at hw ⊢
      rw [List.drop_succ_cons] at hw
      exact hw
    have ih := m4_mem (p := p + 1) h.2 this
    rw [m4_cons, show p + (k + 1) = p + 1 + k by omega]
    exact List.mem_append_right _ ih
theorem m4_pre {c d : Nat} {t : List Ab} : ∀ (n p : Nat), m4 c d (List.replicate n .no80 ++ t) p = m4 c d t (p + n)
  | 0, p => rfl
  | n + 1, p => by
    rw [List.replicate_succ, List.cons_append, m4_cons, m4_pre n (p + 1), show p + (n + 1) = p + 1 + n by omega]
    rfl
theorem m4_map {c d : Nat} : ∀ (t : List Ab) (p : Nat), m4 c d t (p + 1) = (m4 c d t p).map (· + 1)
  | [], _ => rfl
  | a :: t, p => by
    rw [m4_cons, m4_cons, List.map_append, m4_map t (p + 1)]
    congr 1
    split <;> rfl
theorem m4_at {c d : Nat} {t : List Ab} : ∀ {n q : Nat}, q ∈ m4 c d t n → ∃ r ∈ m4 c d t 0, q = r + n
  | 0, q, h => ⟨q, h, rfl⟩
  | n + 1, q, h => by
    rw [m4_map] at h
    obtain ⟨q', h', rfl⟩ := List.mem_map.mp h
    obtain ⟨r, hr, rfl⟩ := m4_at h'
    exact ⟨r, hr, rfl⟩
end
section
open Builtin
set_option maxHeartbeats 1000000
def fillA (n : Nat) : List Ab := (List.range n).map fun i => if i % 2 = 0 then .any else .hi
def n80 (n : Nat) : List Ab := List.replicate n .no80
def wideA (more : Nat) : List Ab := [.lit 80, .lit 75, .lit 6] ++ [.two 6 5] ++ n80 8 ++ fillA 28 ++ n80 8 ++ n80 8 ++ n80 more
def locA : List Ab := [.lit 80, .lit 75, .lit 6] ++ [.two 7 8] ++ n80 4 ++ n80 8 ++ n80 4
def fakeA : List Ab := [.lit 80, .lit 75, .lit 5, .lit 6, .lit 7, .lit 7, .lit 7, .lit 7, .lit 7, .lit 7, .lit 7, .lit 7, .lit 7, .lit 7, .lit 7, .lit 7, .lit 7, .lit 7, .lit 7, .lit 7]
def comA : Nat → List Ab
  | 0 => []
  | 1 => [.lit 99]
  | 2 => [.lit 0, .lit 0]
  | 3 => [.lit 80, .lit 75, .lit 5, .lit 6]
  | 4 => fakeA ++ [.lit 0, .lit 0]
  | _ => fakeA ++ [.lit 2, .lit 0, .lit 122]
def endA (com : Nat) : List Ab := [.lit 80, .lit 75, .lit 5] ++ [.two 6 5] ++ fillA 16 ++ [.any, .any] ++ comA com
def midA (sh more : Nat) : List Ab := match sh with
  | 1 => []
  | 2 => locA
  | _ => wideA more ++ locA
def bodyA (sh more com : Nat) : List Ab := midA sh more ++ endA com
def bodyOK (l : List Ab) (e : Nat) : Bool :=
  Nat.ble l.length 200 && Nat.ble 4 l.length && (m4 5 6 l 0).all (fun q => q == e || q == e + 22) && (m4 6 6 l 0).all (fun q => (m4 6 7 l 0).all fun r => Nat.ble (q + 56) r) && (m4 6 6 l 0).all (fun q => (m4 6 6 l 0).all fun r => q == r)
theorem body_ok : ∀ sh < 4, ∀ more < 3, ∀ com < 6, bodyOK (bodyA sh more com) (midA sh more).length = true := by decide +kernel
theorem byte_list (l : List Int) : (byteArr l).toList = l.map fun n => n.toNat.toUInt8 := by simp [byteArr]
theorem low_list (x : Int) (n : Nat) : (lowZ x (n : Int)).toList = (List.range n).map fun i => ((x.fdiv (256 ^ i)).fmod 256).toNat.toUInt8 := by
  unfold lowZ
  rw [byte_list]
  unfold rangeKs
  rw [show ((n : Int) - 0).toNat = n by omega, List.map_map, List.map_map]
  refine List.map_congr_left fun i _ => ?_
  show (((x.fdiv (256 ^ ((0 : Int) + (i : Int)).toNat)).fmod 256).toNat.toUInt8) = _
  rw [show ((0 : Int) + (i : Int)).toNat = i by omega]
theorem fill_list (x : Int) (n : Nat) : (fillZ x (n : Int)).toList = (List.range n).map fun (i : Nat) => (if ((i : Int)).fmod 2 = 0 then (x.fdiv 4 + 7 * (i : Int)).fmod 251 else 255 - (x + (i : Int)).fmod 4).toNat.toUInt8 := by
  unfold fillZ
  rw [byte_list]
  unfold rangeKs
  rw [show ((n : Int) - 0).toNat = n by omega, List.map_map, List.map_map]
  refine List.map_congr_left fun i _ => ?_
  show (if ((0 : Int) + (i : Int)).fmod 2 = 0 then (x.fdiv 4 + 7 * ((0 : Int) + (i : Int))).fmod 251 else 255 - (x + ((0 : Int) + (i : Int))).fmod 4).toNat.toUInt8 = _
  rw [Int.zero_add]
theorem fit_fill (x : Int) (n : Nat) : fits (fillZ x (n : Int)).toList (fillA n) = true := by
  rw [fill_list]
  unfold fillA
  refine fits_map fun i _ => ?_
  by_cases h : i % 2 = 0
  · rw [if_pos h]; rfl
  · rw [if_neg h, if_neg (by rw [Int.fmod_eq_emod_of_nonneg _ (by decide)]; omega)]
    have h0 := fm0 (x + (i : Int)) (c := 4) (by decide)
    have h1 := fm1 (x + (i : Int)) (c := 4) (by decide)
    generalize (x + (i : Int)).fmod 4 = y at h0 h1
    have := in4 h0 h1
    rcases this with rfl | rfl | rfl | rfl <;> decide
theorem low_dec : ∀ a : Nat, a < 49 → ∀ i : Nat, i < 8 → (Ab.no80.can ((((a : Int) - 1).fdiv (256 ^ i)).fmod 256).toNat.toUInt8.toNat) = true := by decide +kernel
theorem fit_low {x : Int} {n : Nat} (h0 : -1 ≤ x) (h1 : x ≤ 47) (hn : n ≤ 8) : fits (lowZ x (n : Int)).toList (n80 n) = true := by
  rw [low_list]
  have e : n80 n = (List.range n).map fun _ => Ab.no80 := by
    unfold n80
    rw [List.map_const', List.length_range]
  rw [e]
  refine fits_map fun i hi => ?_
  obtain ⟨a, ha⟩ : ∃ a : Nat, x = (a : Int) - 1 := ⟨(x + 1).toNat, by omega⟩
  subst ha
  have := List.mem_range.mp hi
  exact low_dec a (by omega) i (by omega)
theorem fit_low2 (x : Int) : fits (lowZ x 2).toList [.any, .any] = true := by
  have := low_list x 2
  rw [show ((2 : Nat) : Int) = 2 from rfl] at this
  rw [this]
  rfl
theorem fit_rep {b : UInt8} {n : Int} (hb : (Ab.no80.can b.toNat) = true) : fits (repZ b n).toList (n80 n.toNat) = true := by
  unfold repZ n80
  generalize n.toNat = m
  show fits (List.replicate m b) (List.replicate m .no80) = true
  induction m with
  | zero => rfl
  | succ m ih => rw [List.replicate_succ, List.replicate_succ]; simp only [fits, hb, ih, Bool.and_self]
theorem fit_app {a b : Array UInt8} {t u : List Ab} (h : fits a.toList t = true) (h2 : fits b.toList u = true) : fits (a ++ b).toList (t ++ u) = true := by
  rw [Array.toList_append]
  exact fits_app h h2
theorem pick_eq {α : Type} {l : List α} {i : Int} {n : Nat} {d : α} (h : i.toNat = n) : l.getD i.toNat d = l.getD n d := by rw [h]
theorem fit_two {a b : UInt8} {i : Int} (h0 : 0 ≤ i) (h1 : i < 2) : fits (([#[a], #[b]] : List (Array UInt8)).getD i.toNat #[]).toList [.two a.toNat b.toNat] = true := by
  have := in2 h0 h1
  rcases this with rfl | rfl
  · show ((a.toNat == a.toNat || b.toNat == a.toNat) && true) = true
    simp
  · show ((a.toNat == b.toNat || b.toNat == b.toNat) && true) = true
    simp
theorem pick4 {x a b c d : Int} {i : Int} (P : Int → Prop) (h0 : 0 ≤ i) (h1 : i < 4) (ha : P a) (hb : P b) (hc : P c) (hd : P d) : P (([a, b, c, d] : List Int).getD i.toNat x) := by
  have := in4 h0 h1
  rcases this with rfl | rfl | rfl | rfl
  · exact ha
  · exact hb
  · exact hc
  · exact hd
theorem pick3 {x a b c : Int} {i : Int} (P : Int → Prop) (h0 : 0 ≤ i) (h1 : i < 3) (ha : P a) (hb : P b) (hc : P c) : P (([a, b, c] : List Int).getD i.toNat x) := by
  have := in3 h0 h1
  rcases this with rfl | rfl | rfl
  · exact ha
  · exact hb
  · exact hc
section
variable (n0 n1 n2 n3 n4 n5 n6 : Int)
theorem size_in : 0 ≤ tSize n0 ∧ tSize n0 ≤ 3 := by
  have h0 := fm0 (n0.fdiv 4) (c := 4) (by decide)
  have h1 := fm1 (n0.fdiv 4) (c := 4) (by decide)
  exact ⟨h0, by show (n0.fdiv 4).fmod 4 ≤ 3; omega⟩
theorem more_in : 0 ≤ tMore n2 ∧ tMore n2 ≤ 2 := by
  have h0 := fm0 n2 (c := 3) (by decide)
  have h1 := fm1 n2 (c := 3) (by decide)
  exact ⟨h0, by show n2.fmod 3 ≤ 2; omega⟩
theorem told_in : tSize n0 ≤ tTold n0 n1 n2 ∧ tTold n0 n1 n2 ≤ tSize n0 + 5 := by
  have h0 := fm0 n0 (c := 4) (by decide)
  have h1 := fm1 n0 (c := 4) (by decide)
  have hm := more_in n2
  have := pick4 (x := 0) (fun y => 0 ≤ y ∧ y ≤ 5) (fm0 n1 (c := 4) (by decide)) (fm1 n1 (c := 4) (by decide)) (a := n0.fmod 4) (b := 0) (c := n0.fmod 4 + 1) (d := n0.fmod 4 + tMore n2) ⟨by omega, by omega⟩ ⟨by omega, by omega⟩ ⟨by omega, by omega⟩ ⟨by omega, by omega⟩
  exact ⟨Int.le_add_of_nonneg_right this.1, Int.add_le_add_left this.2 _⟩
theorem len_in : -1 ≤ tLen n2 ∧ tLen n2 ≤ 47 := by
  have hm := more_in n2
  have := pick3 (x := 0) (fun y => 0 ≤ y ∧ y ≤ 3) (fm0 (n2.fdiv 3) (c := 3) (by decide)) (fm1 (n2.fdiv 3) (c := 3) (by decide)) (a := tMore n2) (b := 0) (c := tMore n2 + 1) ⟨by omega, by omega⟩ ⟨by omega, by omega⟩ ⟨by omega, by omega⟩
  have h1 := this.1
  have h2 := this.2
  constructor
  · show -1 ≤ 44 + _; omega
  · show 44 + _ ≤ 47; omega
theorem start_in : -1 ≤ tStart n0 n1 n2 ∧ tStart n0 n1 n2 ≤ 47 := by
  have hs := size_in n0
  have ht := told_in n0 n1 n2
  have := pick4 (x := 0) (fun y => -1 ≤ y ∧ y ≤ 1) (fm0 (n2.fdiv 9) (c := 4) (by decide)) (fm1 (n2.fdiv 9) (c := 4) (by decide)) (a := 0) (b := 1) (c := 0) (d := -1) ⟨by decide, by decide⟩ ⟨by decide, by decide⟩ ⟨by decide, by decide⟩ ⟨by decide, by decide⟩
  have h1 := this.1
  have h2 := this.2
  constructor
  · show -1 ≤ tTold n0 n1 n2 - tSize n0 + _; omega
  · show tTold n0 n1 n2 - tSize n0 + _ ≤ 47; omega
theorem pk_in (k : Int) (h0 : 0 ≤ k) (h1 : k < 4) : (-1 ≤ pkX k ∧ pkX k ≤ 47) ∧ (-1 ≤ pkY k ∧ pkY k ≤ 47) :=
  ⟨pick4 (x := 0) (fun y => -1 ≤ y ∧ y ≤ 47) h0 h1 ⟨by decide, by decide⟩ ⟨by decide, by decide⟩ ⟨by decide, by decide⟩ ⟨by decide, by decide⟩, pick4 (x := 0) (fun y => -1 ≤ y ∧ y ≤ 47) h0 h1 ⟨by decide, by decide⟩ ⟨by decide, by decide⟩ ⟨by decide, by decide⟩ ⟨by decide, by decide⟩⟩
theorem fit_loc : fits (tLoc n0 n1 n2).toList locA = true := by
  have hk := pk_in ((n1.fdiv 4).fmod 4) (fm0 _ (by decide)) (fm1 _ (by decide))
  have hs := size_in n0
  have ht := told_in n0 n1 n2
  unfold locA
  exact fit_app (fit_app (fit_app (fit_app (by rfl) (fit_two (a := 7) (b := 8) (fd0 _) (fd1 _))) (fit_low (n := 4) hk.1.1 hk.1.2 (by decide))) (fit_low (n := 8) (by omega) (by omega) (by decide))) (fit_low (n := 4) hk.2.1 hk.2.2 (by decide))
theorem fit_wide : fits (tWide n0 n1 n2 n3).toList (wideA (tMore n2).toNat) = true := by
  have hs := size_in n0
  have hl := len_in n2
  have hst := start_in n0 n1 n2
  unfold wideA
  exact fit_app (fit_app (fit_app (fit_app (fit_app (fit_app (by rfl) (fit_two (a := 6) (b := 5) (fd0 _) (fd1 _))) (fit_low (n := 8) hl.1 hl.2 (by decide))) (fit_fill n3 28)) (fit_low (n := 8) (by omega) (by omega) (by decide))) (fit_low (n := 8) hst.1 hst.2 (by decide))) (fit_rep (by rfl))
theorem fit_com : ∃ com < 6, fits (tCom n5).toList (comA com) = true := by
  have h0 := fm0 n5 (c := 6) (by decide)
  have h1 := fm1 n5 (c := 6) (by decide)
  unfold tCom
  generalize n5.fmod 6 = k at h0 h1
  have := in6 h0 h1
  rcases this with rfl | rfl | rfl | rfl | rfl | rfl
  · exact ⟨0, by decide, by decide +kernel⟩
  · exact ⟨1, by decide, by decide +kernel⟩
  · exact ⟨2, by decide, by decide +kernel⟩
  · exact ⟨3, by decide, by decide +kernel⟩
  · exact ⟨4, by decide, by decide +kernel⟩
  · exact ⟨5, by decide, by decide +kernel⟩
theorem fit_end : ∃ com < 6, fits (tEnd n4 n5 n6).toList (endA com) = true := by
  obtain ⟨com, hc, hf⟩ := fit_com n5
  refine ⟨com, hc, ?_⟩
  unfold endA
  exact fit_app (fit_app (fit_app (fit_app (by rfl) (fit_two (a := 6) (b := 5) (fd0 _) (fd1 _))) (fit_fill n4 16)) (fit_low2 _)) hf
theorem fit_mid0 {X Y : Array UInt8} {k : Int} {m : Nat} (h0 : 0 ≤ k) (h1 : k < 4) (hX : fits X.toList (midA 0 m) = true) (hY : fits Y.toList (midA 2 m) = true) : ∃ sh < 4, fits (([X, #[], Y, X] : List (Array UInt8)).getD k.toNat #[]).toList (midA sh m) = true := by
  have := in4 h0 h1
  rcases this with rfl | rfl | rfl | rfl
  · exact ⟨0, by decide, hX⟩
  · exact ⟨1, by decide, rfl⟩
  · exact ⟨2, by decide, hY⟩
  · exact ⟨0, by decide, hX⟩
theorem fit_mid : ∃ sh < 4, fits (([tWide n0 n1 n2 n3 ++ tLoc n0 n1 n2, #[], tLoc n0 n1 n2, tWide n0 n1 n2 n3 ++ tLoc n0 n1 n2] : List (Array UInt8)).getD (n6.fmod 4).toNat #[]).toList (midA sh (tMore n2).toNat) = true :=
  fit_mid0 (fm0 n6 (c := 4) (by decide)) (fm1 n6 (c := 4) (by decide)) (fit_app (fit_wide n0 n1 n2 n3) (fit_loc n0 n1 n2)) (fit_loc n0 n1 n2)
theorem fit_all : ∃ n ≤ 6, ∃ sh < 4, ∃ com < 6, fits (tAll n0 n1 n2 n3 n4 n5 n6).toList (List.replicate n .no80 ++ bodyA sh (tMore n2).toNat com) = true := by
  obtain ⟨com, hc, hf⟩ := fit_end n4 n5 n6
  obtain ⟨sh, hs, hg⟩ := fit_mid n0 n1 n2 n3 n6
  have hz := size_in n0
  have h0 := fm0 n0 (c := 4) (by decide)
  have h1 := fm1 n0 (c := 4) (by decide)
  refine ⟨(n0.fmod 4).toNat + (tSize n0).toNat, by omega, sh, hs, com, hc, ?_⟩
  unfold bodyA
  rw [← List.append_assoc, ← List.replicate_append_replicate]
  exact fit_app (fit_app (fit_app (fit_rep (by rfl)) (fit_rep (by rfl))) hg) hf
end
end
section
open Builtin
set_option maxHeartbeats 1000000
theorem w4_cut {l mk : List UInt8} {a m k : Nat} (hm : mk.length = 4) (h : W4 ((l.drop a).take m) k = mk) : W4 l (a + k) = mk := by
  have hl := w4_len h hm
  rw [List.length_take] at hl
  unfold W4 at h ⊢
  rw [List.drop_take, List.take_take, List.drop_drop] at h
  rw [← h]
  congr 1
  omega
theorem tapeOK_of {U T : Array UInt8} {n a m e : Nat} {body : List Ab} (hn : n ≤ 6) (hf : fits U.toList (List.replicate n .no80 ++ body) = true) (hb : bodyOK body e = true) (hT : T.toList = (U.toList.drop a).take m) : TapeOK T := by
  unfold bodyOK at hb
  simp only [Bool.and_eq_true, Nat.ble_eq] at hb
  obtain ⟨⟨⟨⟨hlen, _⟩, h56⟩, h67⟩, h66⟩ := hb
  have hU : U.toList.length ≤ 206 := by
    rw [fits_len hf, List.length_append, List.length_replicate]
    omega
  have hsz : T.size ≤ 206 := by
    rw [← Array.length_toList, hT, List.length_take, List.length_drop]
    omega
  have pos : ∀ {c d : UInt8} {k : Nat}, W4 T.toList k = [80, 75, c, d] → ∃ q ∈ m4 c.toNat d.toNat body 0, a + k = n + q := fun {c d k} h => by
    rw [hT] at h
    have h1 := w4_cut rfl h
    have h2 := m4_mem (p := 0) hf h1
    rw [m4_pre] at h2
    obtain ⟨r, hr, e⟩ := m4_at h2
    exact ⟨r, hr, by omega⟩
  have p56 : ∀ {k : Nat}, At T k56 (k : Int) → ∃ q, (q = e ∨ q = e + 22) ∧ a + k = n + q := fun {k} h => by
    obtain ⟨q, hq, e1⟩ := pos (c := 5) (d := 6) (at_iff.mp h)
    have := List.all_eq_true.mp h56 q hq
    simp only [Bool.or_eq_true, beq_iff_eq] at this
    exact ⟨q, this, e1⟩
  refine ⟨by omega, fun b hb hat => ?_, fun M hM hp => ⟨fun h20 hloc k hk => ?_⟩⟩
  · have hle := place_has (T := T) (mk := k56) (by decide) hat
    have hpa := place_at (T := T) (mk := k56) (by omega)
    obtain ⟨p, hpe⟩ := Int.eq_ofNat_of_zero_le (by omega : 0 ≤ placeZ T k56)
    rw [hpe] at hpa hle ⊢
    obtain ⟨q, hq, e1⟩ := p56 hat
    obtain ⟨r, hr, e2⟩ := p56 hpa
    have hpl := w4_len (at_iff.mp hpa) (by rfl)
    rw [Array.length_toList] at hpl
    omega
  · rw [show ((M : Int) - 20) = ((M - 20 : Nat) : Int) by omega] at hloc
    obtain ⟨r, hr, e2⟩ := pos (c := 6) (d := 7) (at_iff.mp hloc)
    have key : ∀ {k : Nat}, At T k66 (k : Int) → ∃ q ∈ m4 6 6 body 0, a + k = n + q := fun {k} h => pos (c := 6) (d := 6) (at_iff.mp h)
    obtain ⟨q, hq, e1⟩ := key hk
    have h1 := List.all_eq_true.mp (List.all_eq_true.mp h67 q hq) r hr
    rw [Nat.ble_eq] at h1
    have hle := place_has (T := T) (mk := k66) (by decide) hk
    have hpa := place_at (T := T) (mk := k66) (by omega)
    obtain ⟨p, hpe⟩ := Int.eq_ofNat_of_zero_le (by omega : 0 ≤ placeZ T k66)
    rw [hpe] at hpa ⊢
    obtain ⟨q', hq', e3⟩ := key hpa
    have h2 := List.all_eq_true.mp (List.all_eq_true.mp h66 q hq) q' hq'
    have h3 : q = q' := by simpa using h2
    constructor
    · omega
    · omega
theorem plainOK (n0 n1 n2 n3 n4 n5 n6 n7 : Int) : PlainOK (tapeZ n0 n1 n2 n3 n4 n5 n6 n7) := by
  obtain ⟨n, hn, sh, hs, com, hc, hf⟩ := fit_all n0 n1 n2 n3 n4 n5 n6
  have hm := more_in n2
  have hb := body_ok sh hs (tMore n2).toNat (by omega) com hc
  have ha0 := fm0 n7 (c := 128) (by decide)
  have hd1 := fm1 (n6.fdiv 4) (c := 4) (by decide)
  have hd0 := fm0 (n6.fdiv 4) (c := 4) (by decide)
  have hsz : 4 ≤ (tAll n0 n1 n2 n3 n4 n5 n6).size := by
    have h1 := fits_len hf
    rw [Array.length_toList, List.length_append] at h1
    have hb2 := hb
    unfold bodyOK at hb2
    simp only [Bool.and_eq_true, Nat.ble_eq] at hb2
    omega
  refine plain_of ?_
  obtain ⟨a, ha⟩ := Int.eq_ofNat_of_zero_le ha0
  obtain ⟨b, hbe⟩ := Int.eq_ofNat_of_zero_le (by omega : 0 ≤ ((tAll n0 n1 n2 n3 n4 n5 n6).size : Int) - (n6.fdiv 4).fmod 4)
  refine tapeOK_of (a := a) (m := b - a) hn hf hb ?_
  unfold tapeZ
  rw [ha, hbe, picked_list]
end
theorem tapeP (w : World) (p : Program) (loose : List Str) (mean : ExcName → Option Value) (mg mb : Str → Option Value) (n0 n1 n2 n3 n4 n5 n6 n7 : Int) (t0 t1 t2 t3 t4 t5 t6 t7 : Tok) (l n : Nat) (rest : List (Addr × Obj)) :
  CallT w p loose mean mg mb 135 [.ref l] ((l, listOf [.int n0 t0, .int n1 t1, .int n2 t2, .int n3 t3, .int n4 t4, .int n5 t5, .int n6 t6, .int n7 t7].toArray n) :: rest) 8 200 (fun base h₀ L m s Q E outer =>
    ∀ (T : Array UInt8) (t' : Tok) (h' : Heap) (tk' : Nat), PlainOK T → Fr h₀ L h' m → News h₀ L h' rest → Q (.bytes T t') { s with heap := h', toks := tk' }) :=
  fun dp un gd cn nm ig ic mo a ccd cl outer A₀ base h₀ L m s Q E B F X N Tp h1 h2 k =>
    tapeT w p loose mean mg mb n0 n1 n2 n3 n4 n5 n6 n7 t0 t1 t2 t3 t4 t5 t6 t7 l n rest dp un gd cn nm ig ic mo a ccd cl outer A₀ base h₀ L m s Q E B F X N Tp h1 h2 fun t' h' tk' F' N' => k _ t' h' tk' (plainOK ..) F' N'
theorem rowP (w : World) (p : Program) (loose : List Str) (mean : ExcName → Option Value) (mg mb : Str → Option Value) (T : Array UInt8) (hT : T.size ≤ 65536) (t : Tok) (rest : List (Addr × Obj)) :
  CallT w p loose mean mg mb 152 [.bytes T t] rest 6 80 (fun base h₀ L m s Q E outer =>
    ((placeZ T k56 < 0 ∨ (T.size : Int) < placeZ T k56 + 22) → ∀ (h' : Heap) (tk' : Nat), Fr h₀ L h' m → News h₀ L h' rest → Q .none { s with heap := h', toks := tk' }) ∧
    (∀ (M x1 x2 x3 x4 x5 x6 x7 : Int) (comm : Array UInt8), M = placeZ T k56 → 0 ≤ M → M + 22 ≤ T.size → RowIs T M x1 x2 x3 x4 x5 x6 x7 comm → ∀ (r nr : Nat) (t0 t1 t2 t3 t4 t5 t6 t7 t8 t9 : Tok) (h' : Heap) (tk' : Nat), AllLt r rest → Fr h₀ L h' m →
      News h₀ L h' ((r, listOf [.bytes k56 t0, .int x1 t1, .int x2 t2, .int x3 t3, .int x4 t4, .int x5 t5, .int x6 t6, .int x7 t7, .bytes comm t8, .int M t9].toArray nr) :: rest) → Q (.ref r) { s with heap := h', toks := tk' })) :=
  fun dp un gd cn nm ig ic mo a ccd cl outer A₀ base h₀ L m s Q E B F X N Tp h1 h2 k =>
    rowT w p loose mean mg mb T hT t rest dp un gd cn nm ig ic mo a ccd cl outer A₀ base h₀ L m s Q E B F X N Tp h1 h2 ⟨k.1, fun e1 e2 r nr t0 t1 t2 t3 t4 t5 t6 t7 t8 t9 h' tk' hl F' N' => k.2 _ _ _ _ _ _ _ _ _ rfl e1 e2 ⟨rfl, rfl, rfl, rfl, rfl, rfl, rfl, rfl⟩ r nr t0 t1 t2 t3 t4 t5 t6 t7 t8 t9 h' tk' hl F' N'⟩
theorem wideS (w : World) (p : Program) (loose : List Str) (mean : ExcName → Option Value) (mg mb : Str → Option Value) (T : Array UInt8) (hT : T.size ≤ 65536) (L : Int) (hL0 : 0 ≤ L) (hL1 : L + 22 ≤ T.size) (hB : WMark T L) (l n : Nat) (v0 v1 v2 v3 v4 v5 v6 : Value) (c7 : Int) (comm : Array UInt8) (t t7 t8 t9 : Tok) (rest : List (Addr × Obj)) (h : wideZ T L = .same) :
  CallT w p loose mean mg mb 159 [.bytes T t, .ref l] ((l, listOf [v0, v1, v2, v3, v4, v5, v6, .int c7 t7, .bytes comm t8, .int L t9].toArray n) :: rest) 6 80 (fun base h₀ L' m s Q E outer =>
    ∀ (h' : Heap) (tk' : Nat), Fr h₀ L' h' m → News h₀ L' h' ((l, listOf [v0, v1, v2, v3, v4, v5, v6, .int c7 t7, .bytes comm t8, .int L t9].toArray n) :: rest) → Q (.ref l) { s with heap := h', toks := tk' }) :=
  fun dp un gd cn nm ig ic mo a ccd cl outer A₀ base h₀ L' m s Q E B F X N Tp h1 h2 k => wideT w p loose mean mg mb T hT L hL0 hL1 hB l n v0 v1 v2 v3 v4 v5 v6 c7 comm t t7 t8 t9 rest dp un gd cn nm ig ic mo a ccd cl outer A₀ base h₀ L' m s Q E B F X N Tp h1 h2 ⟨fun _ => k, fun e => absurd (h.symm.trans e) (by nofun), fun _ _ _ _ _ _ _ _ e => absurd (h.symm.trans e) (by nofun)⟩
theorem wideB (w : World) (p : Program) (loose : List Str) (mean : ExcName → Option Value) (mg mb : Str → Option Value) (T : Array UInt8) (hT : T.size ≤ 65536) (L : Int) (hL0 : 0 ≤ L) (hL1 : L + 22 ≤ T.size) (hB : WMark T L) (l n : Nat) (v0 v1 v2 v3 v4 v5 v6 : Value) (c7 : Int) (comm : Array UInt8) (t t7 t8 t9 : Tok) (rest : List (Addr × Obj)) (h : wideZ T L = .bad) :
  CallT w p loose mean mg mb 159 [.bytes T t, .ref l] ((l, listOf [v0, v1, v2, v3, v4, v5, v6, .int c7 t7, .bytes comm t8, .int L t9].toArray n) :: rest) 6 80 (fun base h₀ L' m s Q E outer =>
    ∀ (h' : Heap) (tk' : Nat), Fr h₀ L' h' m → News h₀ L' h' ((l, listOf [v0, v1, v2, v3, v4, v5, v6, .int c7 t7, .bytes comm t8, .int L t9].toArray n) :: rest) → Q (.none) { s with heap := h', toks := tk' }) :=
  fun dp un gd cn nm ig ic mo a ccd cl outer A₀ base h₀ L' m s Q E B F X N Tp h1 h2 k => wideT w p loose mean mg mb T hT L hL0 hL1 hB l n v0 v1 v2 v3 v4 v5 v6 c7 comm t t7 t8 t9 rest dp un gd cn nm ig ic mo a ccd cl outer A₀ base h₀ L' m s Q E B F X N Tp h1 h2 ⟨fun e => absurd (h.symm.trans e) (by nofun), fun _ => k, fun _ _ _ _ _ _ _ _ e => absurd (h.symm.trans e) (by nofun)⟩
theorem wideP (w : World) (p : Program) (loose : List Str) (mean : ExcName → Option Value) (mg mb : Str → Option Value) (T : Array UInt8) (hT : T.size ≤ 65536) (L : Int) (hL0 : 0 ≤ L) (hL1 : L + 22 ≤ T.size) (hB : WMark T L) (l n : Nat) (v0 v1 v2 v3 v4 v5 v6 : Value) (c7 : Int) (comm : Array UInt8) (t t7 t8 t9 : Tok) (rest : List (Addr × Obj)) {sg : Array UInt8} {y1 y2 y3 y4 y5 y6 lo : Int} (h : wideZ T L = .put sg y1 y2 y3 y4 y5 y6 lo) :
  CallT w p loose mean mg mb 159 [.bytes T t, .ref l] ((l, listOf [v0, v1, v2, v3, v4, v5, v6, .int c7 t7, .bytes comm t8, .int L t9].toArray n) :: rest) 6 80 (fun base h₀ L' m s Q E outer =>
    ∀ (r nr : Nat) (u0 u1 u2 u3 u4 u5 u6 u9 : Tok) (h' : Heap) (tk' : Nat), l < r → AllLt r rest → Fr h₀ L' h' m →
      News h₀ L' h' ((r, listOf [.bytes sg u0, .int y1 u1, .int y2 u2, .int y3 u3, .int y4 u4, .int y5 u5, .int y6 u6, .int c7 t7, .bytes comm t8, .int lo u9].toArray nr) :: (l, listOf [v0, v1, v2, v3, v4, v5, v6, .int c7 t7, .bytes comm t8, .int L t9].toArray n) :: rest) → Q (.ref r) { s with heap := h', toks := tk' }) :=
  fun dp un gd cn nm ig ic mo a ccd cl outer A₀ base h₀ L' m s Q E B F X N Tp h1 h2 k => wideT w p loose mean mg mb T hT L hL0 hL1 hB l n v0 v1 v2 v3 v4 v5 v6 c7 comm t t7 t8 t9 rest dp un gd cn nm ig ic mo a ccd cl outer A₀ base h₀ L' m s Q E B F X N Tp h1 h2 ⟨fun e => absurd (h.symm.trans e) (by nofun), fun e => absurd (h.symm.trans e) (by nofun), fun _ _ _ _ _ _ _ _ e => by
    have := h.symm.trans e
    injection this with e0 e1 e2 e3 e4 e5 e6 e7
    subst e0 e1 e2 e3 e4 e5 e6 e7
    exact k⟩
theorem toldR_big {T : Array UInt8} (h : ¬ T.size < 22) : toldR T = endR T := if_neg h
theorem toldN (w : World) (p : Program) (loose : List Str) (mean : ExcName → Option Value) (mg mb : Str → Option Value) (T : Array UInt8) (hT : T.size ≤ 65536) (t : Tok) (rest : List (Addr × Obj)) (hrest : ∀ p ∈ rest, p.1 ≠ 175) (h : toldR T = .none) :
  CallT0 w p loose mean mg mb 187 [.bytes T t] ((175, tabObj #[]) :: rest) 10 90 (fun h₀ L m s Q E => CodeHd h₀ 179 175 ∧ (∀ (f : FileR) (ps : Array Value) (r : Nat) (tu : Tok) (h' : Heap) (tk' : Nat), AgainOK w p loose mean mg mb T f ps → Fr h₀ L h' m → News h₀ L h' ((r, tupO [.str "told" tu, .none]) :: (f.c1, f.oc1) :: (f.c2, f.oc2) :: (175, tabObj ps) :: rest) → Q (.ref r) { s with heap := h', toks := tk' })) :=
  fun dp un gd cn nm ig ic mo a ccd A₀ h₀ L m s Q E B F X N Tp h1 h2 k => by
    by_cases hs : T.size < 22
    · exact toldSmall w p loose mean mg mb T hT hs t rest hrest dp un gd cn nm ig ic mo a ccd A₀ h₀ L m s Q E B F X N Tp h1 h2 k
    · rw [toldR_big hs] at h
      exact toldBig w p loose mean mg mb T hT (Nat.le_of_not_lt hs) t rest hrest dp un gd cn nm ig ic mo a ccd A₀ h₀ L m s Q E B F X N Tp h1 h2 ⟨k.1, fun _ => k.2, fun e => absurd (h.symm.trans e) (by nofun), fun _ _ _ _ _ _ _ _ _ _ e => absurd (h.symm.trans e) (by nofun)⟩
theorem toldB (w : World) (p : Program) (loose : List Str) (mean : ExcName → Option Value) (mg mb : Str → Option Value) (T : Array UInt8) (hT : T.size ≤ 65536) (t : Tok) (rest : List (Addr × Obj)) (hrest : ∀ p ∈ rest, p.1 ≠ 175) (h : toldR T = .bad) :
  CallT0 w p loose mean mg mb 187 [.bytes T t] ((175, tabObj #[]) :: rest) 10 90 (fun h₀ L m s Q E => CodeHd h₀ 179 175 ∧ (∀ (f : FileR) (ps : Array Value) (r : Nat) (tu : Tok) (h' : Heap) (tk' : Nat), AgainOK w p loose mean mg mb T f ps → Fr h₀ L h' m → News h₀ L h' ((r, tupO [.str "refused" tu, .none]) :: (f.c1, f.oc1) :: (f.c2, f.oc2) :: (175, tabObj ps) :: rest) → Q (.ref r) { s with heap := h', toks := tk' })) :=
  fun dp un gd cn nm ig ic mo a ccd A₀ h₀ L m s Q E B F X N Tp h1 h2 k => by
    by_cases hs : T.size < 22
    · unfold toldR at h; rw [if_pos hs] at h; cases h
    · rw [toldR_big hs] at h
      exact toldBig w p loose mean mg mb T hT (Nat.le_of_not_lt hs) t rest hrest dp un gd cn nm ig ic mo a ccd A₀ h₀ L m s Q E B F X N Tp h1 h2 ⟨k.1, fun e => absurd (h.symm.trans e) (by nofun), fun _ => k.2, fun _ _ _ _ _ _ _ _ _ _ e => absurd (h.symm.trans e) (by nofun)⟩
theorem toldP (w : World) (p : Program) (loose : List Str) (mean : ExcName → Option Value) (mg mb : Str → Option Value) (T : Array UInt8) (hT : T.size ≤ 65536) (t : Tok) (rest : List (Addr × Obj)) (hrest : ∀ p ∈ rest, p.1 ≠ 175) {sg : Array UInt8} {y1 y2 y3 y4 y5 y6 y7 : Int} {comm : Array UInt8} {lo : Int} (h : toldR T = .row sg y1 y2 y3 y4 y5 y6 y7 comm lo) :
  CallT0 w p loose mean mg mb 187 [.bytes T t] ((175, tabObj #[]) :: rest) 10 90 (fun h₀ L m s Q E => CodeHd h₀ 179 175 ∧ (∀ (f : FileR) (ps : Array Value) (r l n : Nat) (tu t0 t1 t2 t3 t4 t5 t6 t7 t8 t9 : Tok) (h' : Heap) (tk' : Nat), AgainOK w p loose mean mg mb T f ps → Fr h₀ L h' m →
    News h₀ L h' ((r, tupO [.str "told" tu, .ref l]) :: (l, listOf [.bytes sg t0, .int y1 t1, .int y2 t2, .int y3 t3, .int y4 t4, .int y5 t5, .int y6 t6, .int y7 t7, .bytes comm t8, .int lo t9].toArray n) :: (f.c1, f.oc1) :: (f.c2, f.oc2) :: (175, tabObj ps) :: rest) → Q (.ref r) { s with heap := h', toks := tk' })) :=
  fun dp un gd cn nm ig ic mo a ccd A₀ h₀ L m s Q E B F X N Tp h1 h2 k => by
    by_cases hs : T.size < 22
    · unfold toldR at h; rw [if_pos hs] at h; cases h
    · rw [toldR_big hs] at h
      exact toldBig w p loose mean mg mb T hT (Nat.le_of_not_lt hs) t rest hrest dp un gd cn nm ig ic mo a ccd A₀ h₀ L m s Q E B F X N Tp h1 h2 ⟨k.1, fun e => absurd (h.symm.trans e) (by nofun), fun e => absurd (h.symm.trans e) (by nofun), fun _ _ _ _ _ _ _ _ _ _ e => by
        have := h.symm.trans e
        injection this with e0 e1 e2 e3 e4 e5 e6 e7 e8 e9
        subst e0 e1 e2 e3 e4 e5 e6 e7 e8 e9
        exact k.2⟩
theorem madeS (w : World) (p : Program) (loose : List Str) (mean : ExcName → Option Value) (mg mb : Str → Option Value) (T : Array UInt8) (hT : T.size ≤ 65536) (f : FileR) (ps : Array Value) (hag : AgainOK w p loose mean mg mb T f ps) (l n : Nat) (v0 v1 v2 v3 v4 v5 v6 v7 v8 : Value) (off : Int) (t t9 : Tok) (hoff : 0 ≤ off) (hoff2 : off ≤ T.size) (rest : List (Addr × Obj)) (h : e64 T off = .same) :
  CallT0 w p loose mean mg mb 194 [.bytes T t, .ref l] ((l, listOf [v0, v1, v2, v3, v4, v5, v6, v7, v8, .int off t9].toArray n) :: (f.c1, f.oc1) :: (f.c2, f.oc2) :: (175, tabObj ps) :: rest) 10 90 (fun h₀ L m s Q E => CodeHd h₀ 179 175 ∧ (∀ (r k n' : Nat) (tu t9' : Tok) (h' : Heap) (tk' : Nat), Fr h₀ L h' m → News h₀ L h' ((r, tupO [.str "told" tu, .ref k]) :: (k, listOf [v0, v1, v2, v3, v4, v5, v6, v7, v8, .int off t9'].toArray n') :: (l, listOf [v0, v1, v2, v3, v4, v5, v6, v7, v8, .int off t9].toArray n) :: (175, tabObj ps) :: rest) → Q (.ref r) { s with heap := h', toks := tk' })) :=
  fun dp un gd cn nm ig ic mo a ccd A₀ h₀ L m s Q E B F X N Tp h1 h2 k => madeT w p loose mean mg mb T hT f ps hag l n v0 v1 v2 v3 v4 v5 v6 v7 v8 off t t9 hoff hoff2 rest dp un gd cn nm ig ic mo a ccd A₀ h₀ L m s Q E B F X N Tp h1 h2 ⟨k.1, fun _ => k.2, fun e => absurd (h.symm.trans e) (by nofun), fun _ _ _ _ _ _ _ _ e => absurd (h.symm.trans e) (by nofun)⟩
theorem madeB (w : World) (p : Program) (loose : List Str) (mean : ExcName → Option Value) (mg mb : Str → Option Value) (T : Array UInt8) (hT : T.size ≤ 65536) (f : FileR) (ps : Array Value) (hag : AgainOK w p loose mean mg mb T f ps) (l n : Nat) (v0 v1 v2 v3 v4 v5 v6 v7 v8 : Value) (off : Int) (t t9 : Tok) (hoff : 0 ≤ off) (hoff2 : off ≤ T.size) (rest : List (Addr × Obj)) (h : e64 T off = .bad) :
  CallT0 w p loose mean mg mb 194 [.bytes T t, .ref l] ((l, listOf [v0, v1, v2, v3, v4, v5, v6, v7, v8, .int off t9].toArray n) :: (f.c1, f.oc1) :: (f.c2, f.oc2) :: (175, tabObj ps) :: rest) 10 90 (fun h₀ L m s Q E => CodeHd h₀ 179 175 ∧ (∀ (r k n' : Nat) (tu t9' : Tok) (h' : Heap) (tk' : Nat), Fr h₀ L h' m → News h₀ L h' ((r, tupO [.str "refused" tu, .ref k]) :: (k, listOf [v0, v1, v2, v3, v4, v5, v6, v7, v8, .int off t9'].toArray n') :: (l, listOf [v0, v1, v2, v3, v4, v5, v6, v7, v8, .int off t9].toArray n) :: (175, tabObj ps) :: rest) → Q (.ref r) { s with heap := h', toks := tk' })) :=
  fun dp un gd cn nm ig ic mo a ccd A₀ h₀ L m s Q E B F X N Tp h1 h2 k => madeT w p loose mean mg mb T hT f ps hag l n v0 v1 v2 v3 v4 v5 v6 v7 v8 off t t9 hoff hoff2 rest dp un gd cn nm ig ic mo a ccd A₀ h₀ L m s Q E B F X N Tp h1 h2 ⟨k.1, fun e => absurd (h.symm.trans e) (by nofun), fun _ => k.2, fun _ _ _ _ _ _ _ _ e => absurd (h.symm.trans e) (by nofun)⟩
theorem madeP (w : World) (p : Program) (loose : List Str) (mean : ExcName → Option Value) (mg mb : Str → Option Value) (T : Array UInt8) (hT : T.size ≤ 65536) (f : FileR) (ps : Array Value) (hag : AgainOK w p loose mean mg mb T f ps) (l n : Nat) (v0 v1 v2 v3 v4 v5 v6 v7 v8 : Value) (off : Int) (t t9 : Tok) (hoff : 0 ≤ off) (hoff2 : off ≤ T.size) (rest : List (Addr × Obj)) {sg : Array UInt8} {y1 y2 y3 y4 y5 y6 lo : Int} (h : e64 T off = .put sg y1 y2 y3 y4 y5 y6 lo) :
  CallT0 w p loose mean mg mb 194 [.bytes T t, .ref l] ((l, listOf [v0, v1, v2, v3, v4, v5, v6, v7, v8, .int off t9].toArray n) :: (f.c1, f.oc1) :: (f.c2, f.oc2) :: (175, tabObj ps) :: rest) 10 90 (fun h₀ L m s Q E => CodeHd h₀ 179 175 ∧ (∀ (r k n' : Nat) (tu t0 t1 t2 t3 t4 t5 t6 t9' : Tok) (h' : Heap) (tk' : Nat), Fr h₀ L h' m →
    News h₀ L h' ((r, tupO [.str "told" tu, .ref k]) :: (k, listOf [.bytes sg t0, .int y1 t1, .int y2 t2, .int y3 t3, .int y4 t4, .int y5 t5, .int y6 t6, v7, v8, .int lo t9'].toArray n') :: (l, listOf [v0, v1, v2, v3, v4, v5, v6, v7, v8, .int off t9].toArray n) :: (175, tabObj ps) :: rest) → Q (.ref r) { s with heap := h', toks := tk' })) :=
  fun dp un gd cn nm ig ic mo a ccd A₀ h₀ L m s Q E B F X N Tp h1 h2 k => madeT w p loose mean mg mb T hT f ps hag l n v0 v1 v2 v3 v4 v5 v6 v7 v8 off t t9 hoff hoff2 rest dp un gd cn nm ig ic mo a ccd A₀ h₀ L m s Q E B F X N Tp h1 h2 ⟨k.1, fun e => absurd (h.symm.trans e) (by nofun), fun e => absurd (h.symm.trans e) (by nofun), fun _ _ _ _ _ _ _ _ e => by
    have := h.symm.trans e
    injection this with e0 e1 e2 e3 e4 e5 e6 e7
    subst e0 e1 e2 e3 e4 e5 e6 e7
    exact k.2⟩
section
open PySem.SeqAt
section
variable {A : Around} {s : Shared}
theorem eqAt_bytes (b : Array UInt8) (t u : Tok) : EqAt A s (.bytes b t) (.bytes b u) true := fun prog w E Q h => by
  unfold eqBool
  refine wpAny_holding ?_
  refine wpAny_ite_split (fun hab => wpAny_bind (wpAny_rule (wpAny_pure h))) (fun _ => ?_)
  exact wpAny_bind (eq_bytes (prog := prog) (w := w) (A := A) (E := E) (s := s) (wpAny_truthy_bool (by simpa using h)) : wpAny (model prog w) A (compareOp .Eq (.bytes b t) (.bytes b u)) _ E s)
theorem eqAt_int (i : Int) (t u : Tok) : EqAt A s (.int i t) (.int i u) true := fun prog w E Q h => EqAt.int_int i t i u prog w E Q (by rw [beq_self_eq_true]; exact h)
theorem eqAt_str (x : Str) (t u : Tok) : EqAt A s (.str x t) (.str x u) true := fun prog w E Q h => (SeqRoads2.EqGives.str x x t u).at A s prog w E Q (by rw [beq_self_eq_true]; exact h)
inductive EqAll (A : Around) (s : Shared) : List Value → List Value → Prop
  | nil : EqAll A s [] []
  | cons {v u : Value} {vs us : List Value} (h : EqAt A s v u true) (r : EqAll A s vs us) : EqAll A s (v :: vs) (u :: us)
theorem EqAll.get {vs us : List Value} (h : EqAll A s vs us) : vs.length = us.length ∧ ∀ j (h1 : j < vs.length) (h2 : j < us.length), EqAt A s vs[j] us[j] true := by
  induction h with
  | nil => exact ⟨rfl, fun j h1 _ => by simp at h1⟩
  | cons h r ih =>
    refine ⟨by simp [ih.1], fun j h1 h2 => ?_⟩
    cases j with
    | zero => exact h
    | succ j => exact ih.2 j (by simpa using h1) (by simpa using h2)
theorem all_true (l : List Nat) : l.all (fun _ => true) = true := by simp
theorem rc_lists {l b : Addr} {vs us : List Value} (hl : s.heap.IsList l vs.toArray) (hb : s.heap.IsList b us.toArray) (hu : A.units < cLine) (h : EqAll A.in1 s vs us) : RcAt A s (.ref l) (.ref b) true := fun prog w E Q hq => by
  have hg := h.get
  exact RcAt.lists (e := fun _ => true) hl hb (by simp [hg.1]) hu (fun j h1 h2 => by simpa using hg.2 j (by simpa using h1) (by simpa using h2)) prog w E Q (by rw [all_true]; exact hq)
theorem eqAt_lists {l b : Addr} {vs us : List Value} (hl : s.heap.IsList l vs.toArray) (hb : s.heap.IsList b us.toArray) (hu : A.units < cLine) (h : EqAll A.in1 s vs us) : EqAt A s (.ref l) (.ref b) true := by
  by_cases e : l = b
  · subst e; exact EqAt.same _
  · exact EqAt.of_refs e (rc_lists hl hb hu h)
end
section
variable {prog : Program} {w : World} {A : Around} {E : Value → Shared → Prop} {s : Shared}
theorem eq_tups {a b : Addr} {vs us : List Value} {Q : Value → Shared → Prop} (ha : s.heap.IsTuple a vs.toArray) (hb : s.heap.IsTuple b us.toArray) (hu : A.units < cLine) (h : EqAll A.in1 s vs us) (hq : Q (.bool true) s) :
    wpAny (model prog w) A (compareOp .Eq (.ref a) (.ref b)) Q E s := by
  have hg := h.get
  refine eq_tupleAt (e := fun _ => true) ha hb hu (fun j h1 h2 => by simpa using hg.2 j (by simpa using h1) (by simpa using h2)) ?_
  rw [all_true]
  simpa [hg.1] using hq
/-- two pairs of a word and a list of ten -/
theorem eq_pairs {h₀ : Heap} {L : Addr} {news : List (Addr × Obj)} {a b l k : Addr} {n n' : Nat} {x : Str} {sg cm : Array UInt8} {x1 x2 x3 x4 x5 x6 x7 lo : Int} {ta tb t0 t1 t2 t3 t4 t5 t6 t7 t8 t9 u0 u1 u2 u3 u4 u5 u6 u7 u8 u9 : Tok} {Q : Value → Shared → Prop}
    (N : News h₀ L s.heap news) (ma : (a, tupO [.str x ta, .ref l]) ∈ news) (mb : (b, tupO [.str x tb, .ref k]) ∈ news)
    (ml : (l, listOf [.bytes sg t0, .int x1 t1, .int x2 t2, .int x3 t3, .int x4 t4, .int x5 t5, .int x6 t6, .int x7 t7, .bytes cm t8, .int lo t9].toArray n) ∈ news)
    (mk : (k, listOf [.bytes sg u0, .int x1 u1, .int x2 u2, .int x3 u3, .int x4 u4, .int x5 u5, .int x6 u6, .int x7 u7, .bytes cm u8, .int lo u9].toArray n') ∈ news)
    (hu : A.units + 4 < cLine) (hq : Q (.bool true) s) : wpAny (model prog w) A (compareOp .Eq (.ref a) (.ref b)) Q E s := by
  have gl : s.heap.IsList l [.bytes sg t0, .int x1 t1, .int x2 t2, .int x3 t3, .int x4 t4, .int x5 t5, .int x6 t6, .int x7 t7, .bytes cm t8, .int lo t9].toArray := News.isList N ml
  have gk : s.heap.IsList k [.bytes sg u0, .int x1 u1, .int x2 u2, .int x3 u3, .int x4 u4, .int x5 u5, .int x6 u6, .int x7 u7, .bytes cm u8, .int lo u9].toArray := News.isList N mk
  have ga : s.heap.IsTuple a [.str x ta, .ref l].toArray := ⟨_, (N _ ma).1, rfl, _, rfl⟩
  have gb : s.heap.IsTuple b [.str x tb, .ref k].toArray := ⟨_, (N _ mb).1, rfl, _, rfl⟩
  refine eq_tups ga gb (by omega) (.cons (eqAt_str _ _ _) (.cons (eqAt_lists gl gk (by show A.units + 1 < cLine; omega) ?_) .nil)) hq
  exact .cons (eqAt_bytes _ _ _) (.cons (eqAt_int _ _ _) (.cons (eqAt_int _ _ _) (.cons (eqAt_int _ _ _) (.cons (eqAt_int _ _ _) (.cons (eqAt_int _ _ _) (.cons (eqAt_int _ _ _) (.cons (eqAt_int _ _ _) (.cons (eqAt_bytes _ _ _) (.cons (eqAt_int _ _ _) .nil)))))))))
theorem eq_pairN {h₀ : Heap} {L : Addr} {news : List (Addr × Obj)} {a b : Addr} {x : Str} {ta tb : Tok} {Q : Value → Shared → Prop}
    (N : News h₀ L s.heap news) (ma : (a, tupO [.str x ta, .none]) ∈ news) (mb : (b, tupO [.str x tb, .none]) ∈ news)
    (hu : A.units + 4 < cLine) (hq : Q (.bool true) s) : wpAny (model prog w) A (compareOp .Eq (.ref a) (.ref b)) Q E s := by
  have ga : s.heap.IsTuple a [.str x ta, .none].toArray := ⟨_, (N _ ma).1, rfl, _, rfl⟩
  have gb : s.heap.IsTuple b [.str x tb, .none].toArray := ⟨_, (N _ mb).1, rfl, _, rfl⟩
  exact eq_tups ga gb (by omega) (.cons (eqAt_str _ _ _) (.cons (EqAt.same _) .nil)) hq
end
end
def LawEnd (ghost : Heap) (L : Addr) (s : Shared) (f : Flow) (s' : Shared) : Prop :=
  f = .ret (.bool true) ∧ s'.gens = s.gens ∧ s'.os = s.os ∧ ∃ m' ps, Fr ghost L s'.heap m' ∧ News ghost L s'.heap [(175, tabObj ps)]
theorem law_cut {M : Model} {A : Around} {c : Sem Flow} {E : Value → Shared → Prop} {Q : Flow → Shared → Prop} {s : Shared} {ghost h : Heap} {L : Addr} {m : Str → Option Value} (_F : Fr ghost L h m) (h1 : wpAny M A c (LawEnd ghost L s) E s) (h2 : ∀ f s', LawEnd ghost L s f s' → Q f s') : wpAny M A c Q E s :=
  wpAny_mono h1 h2 (fun _ _ h => h)
theorem cut1 {l : List Int} {n : Nat} (h : n + 1 ≤ l.length) : ∃ a r, l = a :: r ∧ n ≤ r.length := match l, h with
  | a :: r, h => ⟨a, r, rfl, Nat.le_of_succ_le_succ h⟩
theorem eight {ws : List Value} {ns : List Int} (h : IntsAre ws ns) (hl : 8 ≤ ns.length) : ∃ (n0 n1 n2 n3 n4 n5 n6 n7 : Int) (t0 t1 t2 t3 t4 t5 t6 t7 : Tok) (r : List Value), ws = .int n0 t0 :: .int n1 t1 :: .int n2 t2 :: .int n3 t3 :: .int n4 t4 :: .int n5 t5 :: .int n6 t6 :: .int n7 t7 :: r := by
  obtain ⟨n0, r0, e0, hl⟩ := cut1 hl
  obtain ⟨n1, r1, e1, hl⟩ := cut1 hl
  obtain ⟨n2, r2, e2, hl⟩ := cut1 hl
  obtain ⟨n3, r3, e3, hl⟩ := cut1 hl
  obtain ⟨n4, r4, e4, hl⟩ := cut1 hl
  obtain ⟨n5, r5, e5, hl⟩ := cut1 hl
  obtain ⟨n6, r6, e6, hl⟩ := cut1 hl
  obtain ⟨n7, r7, e7, hl⟩ := cut1 hl
  obtain ⟨t, e⟩ := ints_fn h
  rw [e0, e1, e2, e3, e4, e5, e6, e7] at e
  exact ⟨n0, n1, n2, n3, n4, n5, n6, n7, t 0, t 1, t 2, t 3, t 4, t 5, t 6, t 7, _, e⟩
section
variable {prog : Program} {w : World} {A : Around} {E : Value → Shared → Prop} {s : Shared} {h₀ : Heap} {L l : Addr} {m : Str → Option Value} {news : List (Addr × Obj)} {value slice : PySem.Expr} {ws : List Value} {ns : List Int} {u : Tok} {Q : Value → Shared → Prop}
theorem slice8 (F : Fr h₀ L s.heap m) (N : News h₀ L s.heap news) {n : Nat} (hm : (l, listOf ws.toArray n) ∈ news) (hi : IntsAre ws (ns ++ (List.replicate (Int.toNat 8) [(0 : Int)]).flatten)) (hn : ¬ (63 : Int) < (ns.length : Int))
    (h : ∀ (D : Addr) (h' : Heap) (n0 n1 n2 n3 n4 n5 n6 n7 : Int) (t0 t1 t2 t3 t4 t5 t6 t7 : Tok), Fr h₀ L h' m → News h₀ L h' ((D, listOf [.int n0 t0, .int n1 t1, .int n2 t2, .int n3 t3, .int n4 t4, .int n5 t5, .int n6 t6, .int n7 t7].toArray 0) :: news) → Q (.ref D) { s with heap := h' })
    (hs : subscripted slice false (.ref l) (.ref s.heap.objs.size) = operate [.ref s.heap.objs.size, .ref l] (getItem (.ref l) (.ref s.heap.objs.size))) :
    wpAny (model prog w) A (subscriptTail value slice (.ref l) (.ref s.heap.objs.size)) Q E { s with heap := s.heap.push { cls := .type "slice", data := .fields #[.none, .int 8 u, .none] } } := by
  have hlen : (List.replicate (Int.toNat 8) [(0 : Int)]).flatten.length = 8 := by decide
  have hl8 : 8 ≤ (ns ++ (List.replicate (Int.toNat 8) [(0 : Int)]).flatten).length := by rw [List.length_append, hlen]; omega
  have hz := hi.length
  obtain ⟨n0, n1, n2, n3, n4, n5, n6, n7, t0, t1, t2, t3, t4, t5, t6, t7, r, rfl⟩ := eight hi hl8
  rw [List.length_append, hlen] at hz
  refine kba_turn (value' := PySem.Expr.Name (PySem.Str.ofString "_") ⟨0, 0, 0, 0⟩) (fun _ => rfl) ?_
  refine kms_slice_lit F N (News.isList N hm) IsPart.none (IsPart.int _ _) (zs := [.int n0 t0, .int n1 t1, .int n2 t2, .int n3 t3, .int n4 t4, .int n5 t5, .int n6 t6, .int n7 t7]) ?_ (fun D h' F' N' _ => h D h' n0 n1 n2 n3 n4 n5 n6 n7 t0 t1 t2 t3 t4 t5 t6 t7 F' N') hs (fun _ => rfl) ?_
  · unfold kms_pick
    simp [kms_lo, kms_hi]
  · rw [List.size_toArray, sizeLine_eq]; omega
end
/-- what is to be kept of the ledger at the next call of told -/
structure Keep (l : List (Addr × Obj)) : Prop where
/-- and at the call of made -/
structure KeepM (l : List (Addr × Obj)) : Prop where
theorem lt175 {a : Nat} {o : Obj} {l : List (Addr × Obj)} (h : AllLt a l) (hm : (175, o) ∈ l) : 175 < a := ktn_ltOf h _ hm
abbrev restOf {l : List (Addr × Obj)} (_ : Keep l) : List (Addr × Obj) := l
abbrev restM {l : List (Addr × Obj)} (_ : KeepM l) : List (Addr × Obj) := l
theorem news_cons {h₀ h : Heap} {L : Addr} {q : Addr × Obj} {news tl : List (Addr × Obj)} (N : News h₀ L h news) (hm : q ∈ news) (N2 : News h₀ L h tl) : News h₀ L h (q :: tl) := fun p hp => by
  cases hp with
  | head => exact N q hm
  | tail _ hp => exact N2 p hp
theorem keep1 {h₀ h : Heap} {L : Addr} {q : Addr × Obj} {tl : List (Addr × Obj)} (_ : News h₀ L h (q :: tl)) : Keep [q] := ⟨⟩
theorem keep2 {h₀ h : Heap} {L : Addr} {q q2 : Addr × Obj} {tl : List (Addr × Obj)} (_ : News h₀ L h (q :: q2 :: tl)) : Keep [q, q2] := ⟨⟩
theorem keepM1 {h₀ h : Heap} {L : Addr} {q : Addr × Obj} {tl : List (Addr × Obj)} (_ : News h₀ L h (q :: tl)) : KeepM [q] := ⟨⟩
theorem news_one {h₀ h : Heap} {L : Addr} {q : Addr × Obj} {news : List (Addr × Obj)} (N : News h₀ L h news) (hm : q ∈ news) : News h₀ L h [q] := fun p hp => by rw [List.mem_singleton.mp hp]; exact N q hm
theorem words30 : True := by
  k_with "mine sub" => first | ((with_reducible exact List.forall_mem_nil _)) | fail "no"
  k_with "mine apart" => first | ((with_reducible exact List.forall_mem_nil _)) | fail "no"
  k_with "subscriptTail BinOp" => first | ((k_here; (with_reducible show wpAny _ _ (subscriptTail _ (Expr.Slice none _ none _) (Value.ref _) (Value.ref _)) _ _ _); (with_reducible rename IntsAre _ (_ ++ _) => hI9); k_dflt (refine' slice8 (s := ⟨_, _, _, _, _⟩) ?zq85F ?zq85N ?zq85m hI9 ?zq85n ?_ ?zq85s; (case zq85F => k_asm); (case zq85N => k_asm); (case zq85m => k_mem); (case zq85n => assumption); (case zq85s => with_unfolding_all rfl)); intro D9 h9 n0 n1 n2 n3 n4 n5 n6 n7 t0 t1 t2 t3 t4 t5 t6 t7 F9 N9)) | fail "no"
  k_with "call ref" => first | ((k_here; (with_reducible show wpAny _ _ (call (Value.ref 135) _) _ _ _); k_dflt (refine' use_call (tapeP _ _ _ _ _ _ _ _ _ _ _ _ _ _ _ _ _ _ _ _ _ _ _ _ _) ?zq86B ?zq86F ?zq86X ?zq86N ?zq86T ?zq86d ?zq86u ?zq86a ?zq86v (fun T9 t9 h9 tk9 hP9 F9 N9 => ?_); (case zq86N => k_asm); (case zq86a => with_reducible exact rfl); (case zq86v => exact rfl); (case zq86B => k_asm); (case zq86F => k_asm); (case zq86X => k_asm); (case zq86T => k_asm); (case zq86d => ktr_room); (case zq86u => ktr_units); k_whole; (have hT9 := hP9.hT); (have hk9 : Keep [] := Keep.mk); (have hkm9 : KeepM [] := KeepM.mk); all_goals (try k_fold)))) | fail "no"
  k_with "call ref" => first | ((k_here; (with_reducible show wpAny _ _ (call (Value.ref 152) _) _ _ _); (with_reducible rename PlainOK _ => hP9); k_dflt (refine' use_call (rowP _ _ _ _ _ _ _ hP9.hT _ _) ?zq87B ?zq87F ?zq87X ?zq87N ?zq87T ?zq87d ?zq87u ?zq87a ?zq87v ⟨fun e9 h9 tk9 F9 N9 => ?_, fun M9 x1 x2 x3 x4 x5 x6 x7 cm9 eM9 p9 q9 hR9 r9 nr9 t0 t1 t2 t3 t4 t5 t6 t7 t8 t9 h9 tk9 hl9 F9 N9 => ?_⟩; (case zq87N => k_asm); (case zq87a => with_reducible exact rfl); (case zq87v => exact rfl); (case zq87B => k_asm); (case zq87F => k_asm); (case zq87X => k_asm); (case zq87T => k_asm); (case zq87d => ktr_room); (case zq87u => ktr_units); k_whole; all_goals first | (have hn9 := hP9.none e9) | (have h1759 := lt175 hl9 (by k_extra "mine mem"); have hk9 := keep1 N9; subst eM9; have hw9 := hP9.wm p9 q9; have hof9 := Int.le_trans (Int.le_add_of_nonneg_right (by decide)) q9; rcases hP9.row p9 q9 hR9 with ⟨hw1, he1, ht1⟩ | ⟨hw1, he1, ht1⟩ | ⟨sg9, y1, y2, y3, y4, y5, y6, lo9, hw1, he1, ht1⟩ <;> clear hR9); all_goals (try k_fold)))) | fail "no"
  k_with "call ref" => first | ((k_here; (with_reducible show wpAny _ _ (call (Value.ref 159) _) _ _ _); k_dflt (refine' use_call (wideS _ _ _ _ _ _ _ ?zq88hT _ ?zq88l0 ?zq88l1 ?zq88wm _ _ _ _ _ _ _ _ _ _ _ _ _ _ _ _ ?zq88h) ?zq88B ?zq88F ?zq88X ?zq88N ?zq88T ?zq88d ?zq88u ?zq88a ?zq88v (fun h9 tk9 F9 N9 => ?_); (case zq88h => assumption); (case zq88N => k_asm); (case zq88hT => assumption); (case zq88l0 => assumption); (case zq88l1 => assumption); (case zq88wm => assumption); (case zq88a => with_reducible exact rfl); (case zq88v => exact rfl); (case zq88B => k_asm); (case zq88F => k_asm); (case zq88X => k_asm); (case zq88T => k_asm); (case zq88d => ktr_room); (case zq88u => ktr_units); k_whole; all_goals (try k_fold)))) | fail "no"
  k_with "call ref" => first | ((k_here; (with_reducible show wpAny _ _ (call (Value.ref 159) _) _ _ _); k_dflt (refine' use_call (wideB _ _ _ _ _ _ _ ?zq89hT _ ?zq89l0 ?zq89l1 ?zq89wm _ _ _ _ _ _ _ _ _ _ _ _ _ _ _ _ ?zq89h) ?zq89B ?zq89F ?zq89X ?zq89N ?zq89T ?zq89d ?zq89u ?zq89a ?zq89v (fun h9 tk9 F9 N9 => ?_); (case zq89h => assumption); (case zq89N => k_asm); (case zq89hT => assumption); (case zq89l0 => assumption); (case zq89l1 => assumption); (case zq89wm => assumption); (case zq89a => with_reducible exact rfl); (case zq89v => exact rfl); (case zq89B => k_asm); (case zq89F => k_asm); (case zq89X => k_asm); (case zq89T => k_asm); (case zq89d => ktr_room); (case zq89u => ktr_units); k_whole; all_goals (try k_fold)))) | fail "no"
  k_with "call ref" => first | ((k_here; (with_reducible show wpAny _ _ (call (Value.ref 159) _) _ _ _); k_dflt (refine' use_call (wideP _ _ _ _ _ _ _ ?zq90hT _ ?zq90l0 ?zq90l1 ?zq90wm _ _ _ _ _ _ _ _ _ _ _ _ _ _ _ _ ?zq90h) ?zq90B ?zq90F ?zq90X ?zq90N ?zq90T ?zq90d ?zq90u ?zq90a ?zq90v (fun r9 nr9 u0 u1 u2 u3 u4 u5 u6 u9 h9 tk9 hlr9 hl9 F9 N9 => ?_); (case zq90h => assumption); (case zq90N => k_asm); (case zq90hT => assumption); (case zq90l0 => assumption); (case zq90l1 => assumption); (case zq90wm => assumption); (case zq90a => with_reducible exact rfl); (case zq90v => exact rfl); (case zq90B => k_asm); (case zq90F => k_asm); (case zq90X => k_asm); (case zq90T => k_asm); (case zq90d => ktr_room); (case zq90u => ktr_units); k_whole; (have h1759 := lt175 hl9 (by k_extra "mine mem")); (have hk9 := keep2 N9); (have hkm9 := keepM1 N9); all_goals (try k_fold)))) | fail "no"
  k_with "compareOp Eq ref ref" => first | ((k_here; (with_reducible show wpAny _ _ (compareOp CmpOp.Eq (Value.ref _) (Value.ref _)) _ _ _); (with_reducible rename News _ _ _ _ => N9); k_dflt (first | (refine' eq_pairN N9 ?zq91ma ?zq91mb ?zq91hu ?_; (case zq91ma => k_extra "mine mem"); (case zq91mb => k_extra "mine mem"); (case zq91hu => ke_room)) | (refine' eq_pairs N9 ?zq91ma ?zq91mb ?zq91ml ?zq91mk ?zq91hu ?_; (case zq91ma => k_extra "mine mem"); (case zq91mb => k_extra "mine mem"); (case zq91ml => k_extra "mine mem"); (case zq91mk => k_extra "mine mem"); (case zq91hu => ke_room))))) | fail "no"
  trivial
section
variable {w : World} {p : Program} {loose : List Str} {mean : ExcName → Option Value} {mg mb : Str → Option Value} {fa : Addr} {vs : List Value} {news : List (Addr × Obj)} {dep uni : Nat}
  {P : (h₀ : Heap) → (L : Addr) → (m : Str → Option Value) → (s : Shared) → (Q E : Value → Shared → Prop) → Prop}
  {dp un : Nat} {gd : Option (List Code)} {cn : Str} {nm : List (Str × NameKind)} {ig ic : Bool} {mo : List (Str × Const)} {a : Addr} {ccd : Value} {A₀ : Around} {h₀ : Heap} {L : Addr} {m : Str → Option Value} {s : Shared} {Q E : Value → Shared → Prop}
theorem use_call0 (C : CallT0 w p loose mean mg mb fa vs news dep uni P) (B : Below A₀ h₀ [] h₀) (F : Fr h₀ L s.heap m) (X : (hd.heap_39 w.params).In h₀) (N : News h₀ L s.heap news) (T : Top p loose mean mg mb h₀) (hd : dp + dep < recursionLimit) (hu : un + uni < cLine)
    {a' : Addr} {vs' : List Value} (ha : a' = fa) (hv : vs' = vs) (k : P h₀ L m s Q E) : wpAny (model Pg w) (ktrTop dp un gd cn ⟨.function, nm, ig, ic, mo⟩ L a ccd [] []) (call (.ref a') vs') Q E s := by
  subst ha hv
  exact C _ _ _ _ _ _ _ _ _ _ _ _ _ _ _ _ _ B F X N T hd hu k
end
theorem words31 : True := by
  k_with "call ref" => first | ((k_here; (with_reducible show wpAny _ _ (call (Value.ref 187) _) _ _ _); (with_reducible rename Keep _ => hk9); k_dflt (refine' use_call0 (toldN _ _ _ _ _ _ _ ?zq92hT _ (restOf hk9) ?zq92hr ?zq92h) ?zq92B ?zq92F ?zq92X ?zq92N ?zq92T ?zq92d ?zq92u ?zq92a ?zq92v ⟨?zq92hc, fun f9 ps9 r9 tu9 h9 tk9 hag9 F9 N9 => ?_⟩; (case zq92h => assumption); (case zq92hT => assumption); (case zq92hc => assumption); (case zq92N => (dsimp only [restOf]; k_extra "mine news")); (case zq92hr => (dsimp only [restOf]; k_extra "mine apart")); (case zq92a => with_reducible exact rfl); (case zq92v => exact rfl); (case zq92B => k_asm); (case zq92F => k_asm); (case zq92X => k_asm); (case zq92T => k_asm); (case zq92d => ktr_room); (case zq92u => ktr_units); k_whole; (try dsimp only [restOf] at N9); all_goals (try k_fold)))) | fail "no"
  k_with "call ref" => first | ((k_here; (with_reducible show wpAny _ _ (call (Value.ref 187) _) _ _ _); (with_reducible rename Keep _ => hk9); k_dflt (refine' use_call0 (toldB _ _ _ _ _ _ _ ?zq93hT _ (restOf hk9) ?zq93hr ?zq93h) ?zq93B ?zq93F ?zq93X ?zq93N ?zq93T ?zq93d ?zq93u ?zq93a ?zq93v ⟨?zq93hc, fun f9 ps9 r9 tu9 h9 tk9 hag9 F9 N9 => ?_⟩; (case zq93h => assumption); (case zq93hT => assumption); (case zq93hc => assumption); (case zq93N => (dsimp only [restOf]; k_extra "mine news")); (case zq93hr => (dsimp only [restOf]; k_extra "mine apart")); (case zq93a => with_reducible exact rfl); (case zq93v => exact rfl); (case zq93B => k_asm); (case zq93F => k_asm); (case zq93X => k_asm); (case zq93T => k_asm); (case zq93d => ktr_room); (case zq93u => ktr_units); k_whole; (try dsimp only [restOf] at N9); all_goals (try k_fold)))) | fail "no"
  k_with "call ref" => first | ((k_here; (with_reducible show wpAny _ _ (call (Value.ref 187) _) _ _ _); (with_reducible rename Keep _ => hk9); k_dflt (refine' use_call0 (toldP _ _ _ _ _ _ _ ?zq94hT _ (restOf hk9) ?zq94hr ?zq94h) ?zq94B ?zq94F ?zq94X ?zq94N ?zq94T ?zq94d ?zq94u ?zq94a ?zq94v ⟨?zq94hc, fun f9 ps9 r9 l9 n9 tu9 t0 t1 t2 t3 t4 t5 t6 t7 t8 t9 h9 tk9 hag9 F9 N9 => ?_⟩; (case zq94h => assumption); (case zq94hT => assumption); (case zq94hc => assumption); (case zq94N => (dsimp only [restOf]; k_extra "mine news")); (case zq94hr => (dsimp only [restOf]; k_extra "mine apart")); (case zq94a => with_reducible exact rfl); (case zq94v => exact rfl); (case zq94B => k_asm); (case zq94F => k_asm); (case zq94X => k_asm); (case zq94T => k_asm); (case zq94d => ktr_room); (case zq94u => ktr_units); k_whole; (try dsimp only [restOf] at N9); all_goals (try k_fold)))) | fail "no"
  k_with "call ref" => first | ((k_here; (with_reducible show wpAny _ _ (call (Value.ref 194) _) _ _ _); (with_reducible rename KeepM _ => hkm9); (with_reducible rename AgainOK _ _ _ _ _ _ _ _ _ => hag9); (with_reducible rename News _ _ _ _ => N9); k_dflt (refine' use_call0 (madeS _ _ _ _ _ _ _ ?zq95hT _ _ hag9 _ _ _ _ _ _ _ _ _ _ _ _ _ _ ?zq95o1 ?zq95o2 (restM hkm9) ?zq95h) ?zq95B ?zq95F ?zq95X ?zq95N ?zq95T ?zq95d ?zq95u ?zq95a ?zq95v ⟨?zq95hc, fun r9 k9 n9 tu9 t9 h9 tk9 F9 N9 => ?_⟩; (case zq95v => exact rfl); (case zq95hT => assumption); (case zq95hc => assumption); (case zq95N => (refine' news_cons N9 ?zq95lm ?zq95ln; (case zq95lm => k_extra "mine mem"); (case zq95ln => k_extra "mine news"))); (case zq95h => assumption); (case zq95o1 => assumption); (case zq95o2 => assumption); (case zq95a => with_reducible exact rfl); (case zq95B => k_asm); (case zq95F => k_asm); (case zq95X => k_asm); (case zq95T => k_asm); (case zq95d => ktr_room); (case zq95u => ktr_units); k_whole; (try dsimp only [restM] at N9); all_goals (try k_fold)))) | fail "no"
  k_with "call ref" => first | ((k_here; (with_reducible show wpAny _ _ (call (Value.ref 194) _) _ _ _); (with_reducible rename KeepM _ => hkm9); (with_reducible rename AgainOK _ _ _ _ _ _ _ _ _ => hag9); (with_reducible rename News _ _ _ _ => N9); k_dflt (refine' use_call0 (madeB _ _ _ _ _ _ _ ?zq96hT _ _ hag9 _ _ _ _ _ _ _ _ _ _ _ _ _ _ ?zq96o1 ?zq96o2 (restM hkm9) ?zq96h) ?zq96B ?zq96F ?zq96X ?zq96N ?zq96T ?zq96d ?zq96u ?zq96a ?zq96v ⟨?zq96hc, fun r9 k9 n9 tu9 t9 h9 tk9 F9 N9 => ?_⟩; (case zq96v => exact rfl); (case zq96hT => assumption); (case zq96hc => assumption); (case zq96N => (refine' news_cons N9 ?zq96lm ?zq96ln; (case zq96lm => k_extra "mine mem"); (case zq96ln => k_extra "mine news"))); (case zq96h => assumption); (case zq96o1 => assumption); (case zq96o2 => assumption); (case zq96a => with_reducible exact rfl); (case zq96B => k_asm); (case zq96F => k_asm); (case zq96X => k_asm); (case zq96T => k_asm); (case zq96d => ktr_room); (case zq96u => ktr_units); k_whole; (try dsimp only [restM] at N9); all_goals (try k_fold)))) | fail "no"
  k_with "call ref" => first | ((k_here; (with_reducible show wpAny _ _ (call (Value.ref 194) _) _ _ _); (with_reducible rename KeepM _ => hkm9); (with_reducible rename AgainOK _ _ _ _ _ _ _ _ _ => hag9); (with_reducible rename News _ _ _ _ => N9); k_dflt (refine' use_call0 (madeP _ _ _ _ _ _ _ ?zq97hT _ _ hag9 _ _ _ _ _ _ _ _ _ _ _ _ _ _ ?zq97o1 ?zq97o2 (restM hkm9) ?zq97h) ?zq97B ?zq97F ?zq97X ?zq97N ?zq97T ?zq97d ?zq97u ?zq97a ?zq97v ⟨?zq97hc, fun r9 k9 n9 tu9 t0 t1 t2 t3 t4 t5 t6 t9 h9 tk9 F9 N9 => ?_⟩; (case zq97v => exact rfl); (case zq97hT => assumption); (case zq97hc => assumption); (case zq97N => (refine' news_cons N9 ?zq97lm ?zq97ln; (case zq97lm => k_extra "mine mem"); (case zq97ln => k_extra "mine news"))); (case zq97h => assumption); (case zq97o1 => assumption); (case zq97o2 => assumption); (case zq97a => with_reducible exact rfl); (case zq97B => k_asm); (case zq97F => k_asm); (case zq97X => k_asm); (case zq97T => k_asm); (case zq97d => ktr_room); (case zq97u => ktr_units); k_whole; (try dsimp only [restM] at N9); all_goals (try k_fold)))) | fail "no"
  trivial
theorem lawT : PySem.Challenge.rw_in0114_01.Holds := hd (by
  w_on
  k_go0
  all_goals try k_fold
  (with_reducible rename Fr _ _ _ _ => lF)
  (with_reducible rename _ = #[] => hgens)
  refine law_cut lF ?walk ?post
  case post =>
    rintro f s' ⟨rfl, hg, ho, m', ps, F', N'⟩
    refine ⟨goodW_bool F' (hg.trans hgens) ?hn ?hp ho, ?hgr⟩
    case hgr => exact ⟨⟨ps, (N' _ (.head _)).1⟩, trivial⟩
    case hn => first | (refine raisesW_false ?_; wrow_none_raised) | wrow_none_raised
    case hp => first | wrow_post | kc_post
  case walk =>
    repeat ((with_reducible rename Ground _ _ _ _ _ _ _ _ _ => zz); clear zz)
    repeat ((with_reducible rename Tables _ _ _ _ => zz); clear zz)
    repeat ((with_reducible rename TopE _ _ _ _ => zz); clear zz)
    repeat ((with_reducible rename TopW _ _ _ => zz); clear zz)
    repeat ((with_reducible rename TabsAt _ _ => zz); clear zz)
    repeat ((with_reducible rename LooseAre _ _ _ => zz); clear zz)
    repeat ((with_reducible rename Flt.MathXP _ _ _ => zz); clear zz)
    repeat ((with_reducible rename Dflts _ _ _ _ _ _ => zz); clear zz)
    dsimp only at *
    k_steps
    all_goals first | exact ⟨rfl, rfl, rfl, _, _, by k_asm, news_one (by k_asm) (by k_extra "mine mem")⟩)
end Mine
theorem PySem.Challenge.cw_in0114_01_holds : PySem.Challenge.rw_in0114_01.Holds :=
  Mine.lawT
