import PyProof.Rows.All
import Wide.All
import OpenK.AllK
import Wide.FinOn
import PySem.Challenge.RW_ej5002_01
set_option Elab.async false
set_option rowWalk.seconds 3000

section
open PySem PySem.W PyProof.Rows
namespace Mine
open_top hd for PySem.Challenge.rw_ej5002_01
end Mine
end

section
open PySem PyProof.Rows
namespace Mine
open Builtin._codecs in
theorem narrow_shape (id : String) (self : Value) (x : PySem.Str) :
    ∃ body : Nat → (Nat × Array UInt8 × Faults) → Sem (ForInStep (Nat × Array UInt8 × Faults)),
      encodeNarrow id asciiCodec none self x = (forIn (m := Sem) [:x.length] ((0, #[], {}) : Nat × Array UInt8 × Faults) (fun n s => body n s) >>= fun s => pure s.2.1) ∧
      (∀ n i out st, ¬ out.size > sizeLine → x.cps[i]? = none → body n (i, out, st) = pure (.done (i, out, st))) ∧
      (∀ n i out st c, ¬ out.size > sizeLine → x.cps[i]? = some c → asciiCodec.bad c = false →
        body n (i, out, st) = pure (.yield (i + (Array.findIdx? asciiCodec.bad (x.cps.extract i)).getD (x.cps.extract i).size,
          Array.foldl (fun acc y => acc ++ (asciiCodec.bytesOf y).toArray) out ((x.cps.extract i).extract 0 ((Array.findIdx? asciiCodec.bad (x.cps.extract i)).getD (x.cps.extract i).size)), st))) ∧
      (∀ n i out st c, ¬ out.size > sizeLine → x.cps[i]? = some c → asciiCodec.bad c = true →
        ∃ (tag : String) (k : Unit → Sem (ForInStep (Nat × Array UInt8 × Faults))),
          body n (i, out, st) = (rule tag >>= fun _ => (raiseEncodeFault st "ascii" self i (i + (Array.findIdx? (fun y => !asciiCodec.bad y) (x.cps.extract i x.cps.size)).getD (x.cps.size - i)) asciiCodec.reason : Sem Unit) >>= k)) := by
  refine ⟨_, rfl, ?_, ?_, ?_⟩
  · intro n i out st hs hc
    rw [if_neg hs]
    dsimp only
    rw [hc]
  · intro n i out st c hs hc hb
    rw [if_neg hs]
    dsimp only
    rw [hc]
    dsimp only
    rw [hb]
    rfl
  · intro n i out st c hs hc hb
    rw [if_neg hs]
    dsimp only
    rw [hc]
    dsimp only
    rw [hb]
    rw [if_neg (by decide)]
    have e : ((none : Option PySem.Str).getD (PySem.Str.ofString "strict")).toString = "strict" := by decide +kernel
    rw [e]
    exact ⟨_, _, rfl⟩
end Mine
end

section
open PySem PyProof.Rows
set_option linter.unusedVariables false
set_option maxRecDepth 100000
namespace Mine
theorem uee_new : ExcNewFacts "UnicodeEncodeError" "UnicodeEncodeError.__new__" where
  ends := by decide +kernel
  owner := by decide +kernel
  entry := entryFor_alias (id' := "BaseException.__new__") (by rw [fastTable_eq_tree]; kernel_rfl) (by first | rfl | decide +kernel) (by decide +kernel) (by rw [fastTable_eq_tree]; kernel_rfl)
  sub := by rw [isSubtype_type]; kernel_rfl
  notAttr := by rw [isSubtype_type]; kernel_rfl
  notName := by rw [isSubtype_type]; kernel_rfl
  made := by kernel_rfl
theorem uee_mro : mroOf (.type "UnicodeEncodeError") = pure [.type "UnicodeEncodeError", .type "UnicodeError", .type "ValueError", .type "Exception", .type "BaseException", .type "object"] := by rw [mroOf_type]; kernel_rfl
theorem uee_lookup : typeLookup (.type "UnicodeEncodeError") "__new__" = pure (some (.builtin "UnicodeEncodeError.__new__")) := by rw [typeLookup_type, builtinLookup_eq_fast]; kernel_rfl
theorem uee_slot_init : Slot "UnicodeEncodeError" "__init__" "UnicodeEncodeError.__init__" :=
  .of (owner := "UnicodeEncodeError") (n := "__init__") (by rw [typeLookup_type, builtinLookup_eq_fast]; kernel_rfl) (by decide +kernel) (by decide +kernel) (by decide +kernel)
    (by first | exact .inl (by decide +kernel) | exact .inr (by decide +kernel)) (by rw [isSubtype_type]; kernel_rfl)
theorem uee_called : TypeCalled "UnicodeEncodeError" "UnicodeEncodeError.__new__" "UnicodeEncodeError.__init__" :=
  ⟨by decide +kernel, by decide +kernel, ⟨_, _, uee_mro⟩, madeBy_type uee_mro uee_lookup (by decide +kernel), by decide +kernel, by rw [isSubtype_type]; kernel_rfl, uee_slot_init⟩
theorem uee_typeCall (a b c d e : Value) : checkTypeCall "UnicodeEncodeError" ⟨[a, b, c, d, e], []⟩ = pure () := by kernel_rfl
theorem uee_newCall (a b c d e : Value) : checkBuiltinCall "UnicodeEncodeError.__new__" ⟨[.type "UnicodeEncodeError", a, b, c, d, e], []⟩ = pure () := by kernel_rfl
theorem uee_entry_init : entryFor table "UnicodeEncodeError.__init__" = some Builtin.«UnicodeEncodeError.__init__» := entryFor_of_tree (by kernel_rfl)
theorem uee_args (o a b c d e : Value) : argsOk "UnicodeEncodeError.__init__" ⟨[o, a, b, c, d, e], []⟩ := by unfold argsOk; kernel_rfl

def exObj (vs : Array Value) : Obj := { cls := .type "UnicodeEncodeError", data := .fields vs }
structure Ex (e : Addr) (vs : Array Value) (hp h : Heap) : Prop where
  at_ : h.get? e = some (exObj vs)
  keeps : ∀ b o, hp.get? b = some o → h.get? b = some o
  new : hp.get? e = none

section
variable {M : Model} {A : Around} {E : Value → Shared → Prop} {s : Shared} {e : Addr} {vs : Array Value} {hp : Heap}

theorem Ex.upd {f : Array Value → Array Value} {h : Heap} (K : Ex e vs hp h) : Ex e (f vs) hp (h.update e (Obj.mapFields f)) :=
  ⟨Heap.get?_update_self (Obj.mapFields f) K.at_ rfl, fun b o hb => by
    rw [Heap.get?_update_other _ _ (fun q => by rw [← q, K.new] at hb; cases hb)]
    exact K.keeps b o hb, K.new⟩
theorem Ex.push {h : Heap} {ob : Obj} (K : Ex e vs hp h) : Ex e vs hp (h.push ob) :=
  ⟨Heap.get?_push_of_some _ K.at_, fun b o hb => Heap.get?_push_of_some _ (K.keeps b o hb), K.new⟩
theorem st_fields {Q : Array Value → Shared → Prop} (K : Ex e vs hp s.heap) (h : Q vs s) : wpAny M A (fieldsOf (.ref e)) Q E s := by
  unfold fieldsOf
  exact wpAny_bind (wpAny_load K.at_ (wpAny_pure h))
theorem st_field {i : Nat} {x : Value} {Q : Value → Shared → Prop} (K : Ex e vs hp s.heap) (hx : vs[i]? = some x) (h : Q x s) : wpAny M A (field (.ref e) i) Q E s := by
  unfold field
  refine wpAny_bind (st_fields K ?_)
  rw [hx]
  exact wpAny_pure h
theorem st_setField {i : Nat} {x : Value} {Q : Unit → Shared → Prop} (K : Ex e vs hp s.heap) (hi : i < vs.size) (h : ∀ h', Ex e (vs.setIfInBounds i x) hp h' → Q () { s with heap := h' }) :
    wpAny M A (setField (.ref e) i x) Q E s := wpAny_setField K.at_ rfl hi (h _ (K.upd (f := (·.setIfInBounds i x))))
theorem st_updFields {f : Array Value → Array Value} {Q : Unit → Shared → Prop} (K : Ex e vs hp s.heap) (hz : (f vs).size ≤ sizeLine + 3) (h : ∀ h', Ex e (f vs) hp h' → Q () { s with heap := h' }) :
    wpAny M A (updateFields e f) Q E s := wpAny_updateFields K.at_ rfl (h _ K.upd) hz

open Builtin.UnicodeEncodeError in
theorem st_members0 {Q : Members → Shared → Prop} (K : Ex e vs hp s.heap) (hv : (vs.extract 6).toList = []) (h : Q {} s) : wpAny M A (members (.ref e)) Q E s := by
  unfold members
  refine wpAny_bind (st_fields K ?_)
  rw [hv]
  exact wpAny_pure h
open Builtin.UnicodeEncodeError in
theorem st_members {enc ob r : Value} {i j : Int} {ti tj : Tok} {Q : Members → Shared → Prop} (K : Ex e vs hp s.heap) (hv : (vs.extract 6).toList = [enc, ob, .int i ti, .int j tj, r])
    (h : Q { encoding := enc, object := ob, start := i, stop := j, reason := r } s) : wpAny M A (members (.ref e)) Q E s := by
  unfold members
  refine wpAny_bind (st_fields K ?_)
  rw [hv]
  exact wpAny_pure h
open Builtin.UnicodeEncodeError in
theorem st_setMembers {m : Members} {Q : Unit → Shared → Prop} (K : Ex e vs hp s.heap) {us : Array Value} (hu : vs.extract 0 6 ++ #[m.encoding, m.object, rawInt m.start, rawInt m.stop, m.reason] = us) (hz : us.size ≤ 20)
    (h : ∀ h', Ex e us hp h' → Q () { s with heap := h' }) : wpAny M A (setMembers (.ref e) m) Q E s := by
  unfold setMembers
  refine st_updFields K ?_ ?_
  · rw [hu, sizeLine_eq]; omega
  · rw [hu]; exact h
end
section
variable {prog : Program} {w : World} {A : Around} {E : Value → Shared → Prop} {s : Shared} {e : Addr} {vs : Array Value} {hp : Heap}
open Builtin.UnicodeEncodeError in
theorem uee_init {a0 : Value} {a r x : PySem.Str} {i j : Int} {t1 t2 t3 t4 t5 : Tok} {Q : Fin → Shared → Prop}
    (K : Ex e #[a0, .none, .none, .none, .bool false, .none] hp s.heap) (hi0 : 0 ≤ i) (hi : i < 2 ^ 63) (hj0 : 0 ≤ j) (hj : j < 2 ^ 63)
    (h : ∀ h' b0 vs', Ex e vs' hp h' → vs'[0]? = some b0 → vs'[1]? = some .none → Q (.done (.ret .none)) { s with heap := h' }) :
    wpAny (model prog w) A (Builtin.«UnicodeEncodeError.__init__» ⟨[.ref e, .str a t1, .str x t2, .int i t3, .int j t4, .str r t5], []⟩) Q E s := by
  unfold Builtin.«UnicodeEncodeError.__init__»
  unfold beginInit
  refine wpAny_bind (wpAny_bind ?_)
  dsimp only
  refine st_field K rfl ?_
  refine wpAny_bind (wpAny_newTuple ?_ (Nat.le_of_ble_eq_true rfl))
  refine wpAny_bind (st_setField K.push (Nat.lt_of_sub_pos (Nat.succ_pos 5)) fun h1 K1 => ?_)
  replace K1 : Ex e #[Value.ref s.heap.objs.size, .none, .none, .none, .bool false, .none] hp h1 := K1
  refine wpAny_bind (wpAny_letGo ?_)
  refine W.KFB.if_so rfl ?_
  refine wpAny_bind (st_members0 K1 rfl ?_)
  refine wpAny_bind (st_setMembers K1 (us := #[Value.ref s.heap.objs.size, .none, .none, .none, .bool false, .none, Builtin.UnicodeEncodeError.unset, Builtin.UnicodeEncodeError.unset, rawInt 0, rawInt 0, Builtin.UnicodeEncodeError.unset]) rfl (Nat.le_of_ble_eq_true rfl) fun h2 K2 => ?_)
  refine wpAny_bind (wpAny_letGo ?_)
  refine wpAny_bind (st_members (enc := Builtin.UnicodeEncodeError.unset) (ob := Builtin.UnicodeEncodeError.unset) (i := 0) (ti := 0) (j := 0) (tj := 0) (r := Builtin.UnicodeEncodeError.unset) K2 (by kernel_rfl) ?_)
  refine wpAny_bind (st_setMembers K2 (us := #[Value.ref s.heap.objs.size, .none, .none, .none, .bool false, .none, Builtin.UnicodeEncodeError.unset, Builtin.UnicodeEncodeError.unset, rawInt 0, rawInt 0, Builtin.UnicodeEncodeError.unset]) rfl (Nat.le_of_ble_eq_true rfl) fun h3 K3 => ?_)
  refine wpAny_bind (wpAny_letGo ?_)
  refine wpAny_bind (st_members (enc := Builtin.UnicodeEncodeError.unset) (ob := Builtin.UnicodeEncodeError.unset) (i := 0) (ti := 0) (j := 0) (tj := 0) (r := Builtin.UnicodeEncodeError.unset) K3 (by kernel_rfl) ?_)
  refine wpAny_bind (st_setMembers K3 (us := #[Value.ref s.heap.objs.size, .none, .none, .none, .bool false, .none, Builtin.UnicodeEncodeError.unset, Builtin.UnicodeEncodeError.unset, rawInt 0, rawInt 0, Builtin.UnicodeEncodeError.unset]) rfl (Nat.le_of_ble_eq_true rfl) fun h4 K4 => ?_)
  refine wpAny_bind (wpAny_letGo ?_)
  refine W.KFB.if_not rfl ?_
  refine wpAny_pure ?_
  dsimp only
  have idx : ∀ (k : Int) (tk : Tok), asIndex (.int k tk) = pure k := fun k tk => by kernel_rfl
  have sz : ∀ (k : Int) (tk : Tok), 0 ≤ k → k < 2 ^ 63 → sizeArgument "UnicodeEncodeError.__init__" (.int k tk) = pure k := fun k tk h0 h1 => by
    unfold sizeArgument
    rw [idx]
    show (if (decide (k < -(2 ^ 63 : Int)) || decide (k ≥ 2 ^ 63)) = true then _ else pure k : Sem Int) = _
    rw [if_neg (by simp; omega)]
  refine wpAny_bind (wpAny_of_eq (a := ()) (by kernel_rfl) ?_)
  refine wpAny_bind (wpAny_of_eq (a := ()) (by kernel_rfl) ?_)
  unfold initRange
  refine wpAny_bind (wpAny_bind (wpAny_of_eq (sz i t3 hi0 hi) ?_))
  refine wpAny_bind (st_members (enc := Builtin.UnicodeEncodeError.unset) (ob := Builtin.UnicodeEncodeError.unset) (i := 0) (ti := 0) (j := 0) (tj := 0) (r := Builtin.UnicodeEncodeError.unset) K4 (by kernel_rfl) ?_)
  refine wpAny_bind (st_setMembers K4 (us := #[Value.ref s.heap.objs.size, .none, .none, .none, .bool false, .none, Builtin.UnicodeEncodeError.unset, Builtin.UnicodeEncodeError.unset, rawInt i, rawInt 0, Builtin.UnicodeEncodeError.unset]) rfl (Nat.le_of_ble_eq_true rfl) fun h5 K5 => ?_)
  refine wpAny_bind (wpAny_of_eq (sz j t4 hj0 hj) ?_)
  refine wpAny_bind (st_members (enc := Builtin.UnicodeEncodeError.unset) (ob := Builtin.UnicodeEncodeError.unset) (i := i) (ti := 0) (j := 0) (tj := 0) (r := Builtin.UnicodeEncodeError.unset) K5 (by kernel_rfl) ?_)
  refine st_setMembers K5 (us := #[Value.ref s.heap.objs.size, .none, .none, .none, .bool false, .none, Builtin.UnicodeEncodeError.unset, Builtin.UnicodeEncodeError.unset, rawInt i, rawInt j, Builtin.UnicodeEncodeError.unset]) rfl (Nat.le_of_ble_eq_true rfl) fun h6 K6 => ?_
  refine wpAny_bind (wpAny_of_eq (a := ()) (by kernel_rfl) ?_)
  refine wpAny_bind (st_members (enc := Builtin.UnicodeEncodeError.unset) (ob := Builtin.UnicodeEncodeError.unset) (i := i) (ti := 0) (j := j) (tj := 0) (r := Builtin.UnicodeEncodeError.unset) K6 (by kernel_rfl) ?_)
  refine wpAny_bind (st_setMembers K6 (us := #[Value.ref s.heap.objs.size, .none, .none, .none, .bool false, .none, .str a t1, .str x t2, rawInt i, rawInt j, .str r t5]) rfl (Nat.le_of_ble_eq_true rfl) fun h7 K7 => ?_)
  exact wpAny_pure (h _ _ _ K7 rfl rfl)
end
end Mine
end

section
open PySem PyProof.Rows
set_option linter.unusedVariables false
set_option maxRecDepth 100000
namespace Mine
structure NewExcF (h h' : Heap) (e : Addr) (cls : String) : Prop where
  keeps : ∀ b o, h.get? b = some o → h'.get? b = some o
  new : h.get? e = none
  there : ∃ ob vs a0, h'.get? e = some ob ∧ ob.cls = .type cls ∧ ob.data = .fields vs ∧ vs[0]? = some a0 ∧ vs[1]? = some .none
theorem NewExcF.of {h h' : Heap} {e : Addr} {cls : String} (x : Heap.NewExc h h' e cls) : NewExcF h h' e cls :=
  ⟨x.keeps, x.new, by obtain ⟨ob, t, he, hc, hd⟩ := x.there; exact ⟨ob, _, t, he, hc, hd, rfl, rfl⟩⟩

section
variable {prog : Program} {w : World} {A : Around} {E : Value → Shared → Prop} {s : Shared}

theorem uee_call {a r x : PySem.Str} {i j : Int} {t1 t2 t3 t4 t5 : Tok} {Q : Value → Shared → Prop}
    (hi0 : 0 ≤ i) (hi : i < 2 ^ 63) (hj0 : 0 ≤ j) (hj : j < 2 ^ 63)
    (h : ∀ h' e, NewExcF s.heap h' e "UnicodeEncodeError" → Q (.ref e) { s with heap := h' }) :
    wpAny (model prog w) A (call (.type "UnicodeEncodeError") [.str a t1, .str x t2, .int i t3, .int j t4, .str r t5]) Q E s := by
  obtain ⟨hp, g, d, tk, os⟩ := s
  refine callType_codes (Q₁ := fun v s₁ => ∃ e a0 h₁, v = .ref e ∧ s₁ = ⟨h₁, g, d, tk, os⟩ ∧ Ex e #[a0, .none, .none, .none, .bool false, .none] hp h₁) uee_called (uee_typeCall _ _ _ _ _) uee_entry_init ?_ ?_
  · refine codeAny_call_builtin_code (Code.quiet_builtin _ (by decide +kernel)) (wpAny_of_eq (uee_newCall _ _ _ _ _) ?_)
    refine codeAny_exc_new uee_new ?_ (Nat.le_of_ble_eq_true rfl)
    refine ⟨_, Value.ref hp.objs.size, _, rfl, rfl, ⟨?_, ?_, ?_⟩⟩
    · exact Heap.get?_push_at (by simp only [Heap.size_push]) rfl
    · exact fun b o hb => Heap.get?_push_of_some _ (Heap.get?_push_of_some _ hb)
    · exact Heap.get?_none_of_le (Nat.le_succ _)
  · rintro obj s₁ ⟨e, a0, h₁, rfl, rfl, K⟩
    refine ⟨⟨_, K.at_, rfl⟩, uee_args _ _ _ _ _ _, ?_⟩
    refine uee_init (s := ⟨h₁, g, d, tk, os⟩) K hi0 hi hj0 hj fun h' b0 vs' K' h0 h1 => ?_
    exact ⟨rfl, h h' e ⟨K'.keeps, K'.new, _, _, _, K'.at_, rfl, rfl, h0, h1⟩⟩

open Builtin._codecs in
theorem fault_raise {α : Type} {x : PySem.Str} {t : Tok} {i j : Nat} {c r : String} {Q : α → Shared → Prop} (hh : A.handled = none) (hi : i < 2 ^ 63) (hj : j < 2 ^ 63)
    (hc : ((c : PySem.Str)).length ≤ sizeLine) (hr : ((r : PySem.Str)).length ≤ sizeLine)
    (h : ∀ h' tk e, NewExcF s.heap h' e "UnicodeEncodeError" → E (.ref e) { s with heap := h', toks := tk }) :
    wpAny (model prog w) A (raiseEncodeFault {} c (.str x t) i j r : Sem α) Q E s := by
  unfold raiseEncodeFault
  refine wpAny_bind ?_
  show wpAny _ A (mkStr c >>= fun a => (pure (Value.str x t) : Sem Value) >>= fun o => mkInt i >>= fun si => mkInt j >>= fun sj => mkStr r >>= fun rr => call (.type "UnicodeEncodeError") [a, o, si, sj, rr]) _ _ _
  refine wpAny_bind (wpAny_mkStr ?_ hc)
  refine wpAny_bind (wpAny_pure ?_)
  refine wpAny_bind (wpAny_mkInt ?_)
  refine wpAny_bind (wpAny_mkInt ?_)
  refine wpAny_bind (wpAny_mkStr ?_ hr)
  refine uee_call (by omega) (by omega) (by omega) (by omega) fun h' e hx => ?_
  unfold raiseNew
  refine wpAny_bind (wpAny_handled ?_)
  rw [hh]
  first
    | exact wpAny_throw (h _ _ _ hx)
    | exact wpAny_bind (wpAny_pure (wpAny_throw (h _ _ _ hx)))
end
end Mine
end

section
open PySem PyProof.Rows
set_option linter.unusedVariables false
set_option maxRecDepth 100000
namespace Mine
open Builtin._codecs

theorem foldl_bytes (l : List Nat) : ∀ acc : Array UInt8, l.foldl (fun acc y => acc ++ (asciiCodec.bytesOf y).toArray) acc = acc ++ (l.map Nat.toUInt8).toArray := by
  induction l with
  | nil => intro acc; simp
  | cons a r ih =>
    intro acc
    rw [List.foldl_cons, ih]
    show acc ++ #[a.toUInt8] ++ _ = _
    simp

theorem narrow_ok (id : String) (self : Value) (x : PySem.Str) (hx : ∀ c ∈ x.cps.toList, c < 128) (hz : x.cps.size ≤ sizeLine) :
    encodeNarrow id asciiCodec none self x = pure (x.cps.map Nat.toUInt8) := by
  obtain ⟨body, e, h1, h2, _⟩ := narrow_shape id self x
  rw [e, Std.Legacy.Range.forIn_eq_forIn_range']
  have hl : x.length = x.cps.size := rfl
  have hgood : ∀ (i c : Nat), x.cps[i]? = some c → asciiCodec.bad c = false := fun i c hc => by
    have hm : c ∈ x.cps.toList := by
      have := Array.mem_of_getElem? hc
      simpa using this
    have := hx c hm
    show decide (c ≥ 128) = false
    simp; omega
  show (forIn (List.range' 0 ((x.length - 0 + 1 - 1) / 1) 1) ((0, #[], {}) : Nat × Array UInt8 × Faults) (fun n s => body n s) >>= fun s => pure s.2.1 : Sem (Array UInt8)) = _
  rw [Nat.sub_zero, Nat.add_sub_cancel, Nat.div_one]
  have nof : Array.findIdx? asciiCodec.bad x.cps = none := by
    rw [Array.findIdx?_eq_none_iff]
    intro c hc
    obtain ⟨i, hi, rfl⟩ := Array.mem_iff_getElem.mp hc
    exact hgood i _ (Array.getElem?_eq_getElem hi)
  cases hn : x.length with
  | zero =>
    have hs : x.cps.size = 0 := hl ▸ hn
    have : x.cps = #[] := Array.eq_empty_of_size_eq_zero hs
    rw [this, show List.range' 0 0 = [] from rfl, List.forIn_nil, show Array.map Nat.toUInt8 (#[] : Array Nat) = #[] from by simp]
    rfl
  | succ k =>
    rw [List.range'_succ, List.forIn_cons]
    have h0 : ∃ c, x.cps[0]? = some c := ⟨x.cps[0]'(by omega), Array.getElem?_eq_getElem (by omega)⟩
    obtain ⟨c, hc⟩ := h0
    have b1 := h2 0 0 #[] {} c (by rw [sizeLine_eq]; decide) hc (hgood 0 c hc)
    have ex : x.cps.extract 0 x.cps.size = x.cps := Array.extract_size
    rw [ex, nof] at b1
    have e2 : Array.foldl (fun acc y => acc ++ (asciiCodec.bytesOf y).toArray) #[] (x.cps.extract 0 ((none : Option Nat).getD x.cps.size)) = x.cps.map Nat.toUInt8 := by
      show Array.foldl (fun acc y => acc ++ (asciiCodec.bytesOf y).toArray) #[] (x.cps.extract 0 x.cps.size) = _
      rw [ex, ← Array.foldl_toList, foldl_bytes]
      apply Array.toList_inj.mp
      rw [Array.toList_append, Array.toList_map]
      rfl
    rw [e2] at b1
    have ei : 0 + (none : Option Nat).getD x.cps.size = x.cps.size := by show 0 + x.cps.size = _; omega
    rw [ei] at b1
    rw [b1]
    show (forIn (List.range' (0 + 1) k 1) ((x.cps.size, x.cps.map Nat.toUInt8, {}) : Nat × Array UInt8 × Faults) (fun n s => body n s) >>= fun s => pure s.2.1 : Sem (Array UInt8)) = _
    cases k with
    | zero => rfl
    | succ k =>
      rw [List.range'_succ, List.forIn_cons]
      have b2 := h1 (0 + 1) x.cps.size (x.cps.map Nat.toUInt8) {} (by rw [Array.size_map]; omega) (Array.getElem?_eq_none (Nat.le_refl _))
      rw [b2]
      rfl

section
variable {prog : Program} {w : World} {A : Around} {E : Value → Shared → Prop} {s : Shared}
theorem narrow_bad {id : String} {x : PySem.Str} {t : Tok} {Q : Array UInt8 → Shared → Prop} (hx : ∃ c ∈ x.cps.toList, 128 ≤ c) (hz : x.cps.size ≤ 1000000) (hh : A.handled = none)
    (h : ∀ h' tk e, NewExcF s.heap h' e "UnicodeEncodeError" → E (.ref e) { s with heap := h', toks := tk }) :
    wpAny (model prog w) A (encodeNarrow id asciiCodec none (.str x t) x) Q E s := by
  obtain ⟨body, e, h1, h2, h3⟩ := narrow_shape id (.str x t) x
  rw [e, Std.Legacy.Range.forIn_eq_forIn_range']
  have hl : x.length = x.cps.size := rfl
  show wpAny _ _ (forIn (List.range' 0 ((x.length - 0 + 1 - 1) / 1) 1) ((0, #[], {}) : Nat × Array UInt8 × Faults) (fun n s => body n s) >>= fun s => pure s.2.1 : Sem (Array UInt8)) _ _ _
  rw [Nat.sub_zero, Nat.add_sub_cancel, Nat.div_one]
  have hsz : sizeLine = 16777216 := sizeLine_eq
  -- the fault at a place
  have fault : ∀ (n p : Nat) (out : Array UInt8) (c : Nat) (rest : List Nat), out.size ≤ 1000000 → x.cps[p]? = some c → asciiCodec.bad c = true →
      wpAny (model prog w) A (forIn (n :: rest) ((p, out, {}) : Nat × Array UInt8 × Faults) (fun n s => body n s) >>= fun s => pure s.2.1 : Sem (Array UInt8)) Q E s := by
    intro n p out c rest ho hc hb
    obtain ⟨tag, k, hb3⟩ := h3 n p out {} c (by omega) hc hb
    have hp : p < x.cps.size := (Array.getElem?_eq_some_iff.mp hc).1
    have hstop : (Array.findIdx? (fun y => !asciiCodec.bad y) (x.cps.extract p x.cps.size)).getD (x.cps.size - p) ≤ x.cps.size - p := by
      cases hq : Array.findIdx? (fun y => !asciiCodec.bad y) (x.cps.extract p x.cps.size) with
      | none => exact Nat.le_refl _
      | some q =>
        have := Array.findIdx?_eq_some_iff_getElem.mp hq
        obtain ⟨hlt, _⟩ := this
        rw [Array.size_extract] at hlt
        show q ≤ _
        omega
    rw [List.forIn_cons, hb3]
    refine wpAny_bind (wpAny_bind (wpAny_bind (wpAny_rule ?_)))
    refine wpAny_bind (fault_raise hh (by omega) (by omega) (by rw [hsz]; decide +kernel) (by rw [hsz]; decide +kernel) h)
  obtain ⟨c, hc, hcb⟩ := hx
  -- the first sign past 127
  obtain ⟨p, hp⟩ : ∃ p, Array.findIdx? asciiCodec.bad x.cps = some p := by
    cases hq : Array.findIdx? asciiCodec.bad x.cps with
    | some p => exact ⟨p, rfl⟩
    | none =>
      rw [Array.findIdx?_eq_none_iff] at hq
      have := hq c (by simpa using hc)
      have h2 : decide (c ≥ 128) = false := this
      simp at h2
      omega
  obtain ⟨hps, hpb, hpl⟩ := Array.findIdx?_eq_some_iff_getElem.mp hp
  have hcp : x.cps[p]? = some x.cps[p] := Array.getElem?_eq_getElem hps
  obtain ⟨k, hk⟩ : ∃ k, x.length = k + 1 := ⟨x.length - 1, by omega⟩
  rw [hk, List.range'_succ]
  by_cases h0 : p = 0
  · subst h0
    exact fault 0 0 #[] _ _ (by decide) hcp hpb
  · have hlt0 : 0 < p := Nat.pos_of_ne_zero h0
    have hc0 : x.cps[0]? = some (x.cps[0]'(by omega)) := Array.getElem?_eq_getElem (by omega)
    have hb0 : asciiCodec.bad (x.cps[0]'(by omega)) = false := by
      have := hpl 0 hlt0
      simpa using this
    have b1 := h2 0 0 #[] {} _ (by rw [hsz]; decide) hc0 hb0
    have ex : x.cps.extract 0 x.cps.size = x.cps := Array.extract_size
    rw [ex, hp] at b1
    have ei : 0 + (some p).getD x.cps.size = p := by show 0 + p = p; omega
    rw [ei] at b1
    rw [List.forIn_cons, b1]
    obtain ⟨k', hk'⟩ : ∃ k', k = k' + 1 := ⟨k - 1, by omega⟩
    rw [hk', List.range'_succ]
    refine fault _ p _ _ _ ?_ hcp hpb
    rw [show (some p).getD x.cps.size = p from rfl, ← Array.foldl_toList, foldl_bytes]
    simp
    omega
end
end Mine
end

section
open PySem PyProof.Rows
set_option linter.unusedVariables false
set_option maxRecDepth 100000
namespace Mine
open Builtin._codecs Builtin

theorem encode_tree_ascii (x : PySem.Str) (t u : Tok) : «str.encode» ⟨[.str x t, .str (PySem.Str.ofString "ascii") u], []⟩ = (encodeRoad "str.encode" (.str x t) x (PySem.Str.ofString "ascii") none >>= fun v => ret v) := by
  first | rfl | kernel_rfl
theorem encodeRoad_ascii (id : String) (self : Value) (x : PySem.Str) : encodeRoad id self x (PySem.Str.ofString "ascii") none = (encodeNarrow id asciiCodec none self x >>= fun b => mkBytes b) := by
  first | rfl | kernel_rfl

section
variable {prog : Program} {w : World} {A : Around} {E : Value → Shared → Prop} {s : Shared}
theorem encode_ascii {x : PySem.Str} {t u : Tok} {Q : Value → Shared → Prop} (hx : ∀ c ∈ x.cps.toList, c < 128) (hz : x.cps.size ≤ 1000000)
    (h : ∀ t' k, Q (.bytes (x.cps.map Nat.toUInt8) t') { s with toks := k }) :
    wpAny (model prog w) A (call (.builtin "str.encode") [.str x t, .str (PySem.Str.ofString "ascii") u]) Q E s := by
  have hsz : sizeLine = 16777216 := sizeLine_eq
  refine call_meets PySem.F.slot_str_encode (typeIs_str _ _ _) PySem.F.entry_str_encode (PySem.F.args_str_encode_2 _ _)
    (S := fun _ R s => ∀ t' k, R (.ok (.ret (.bytes (x.cps.map Nat.toUInt8) t'))) { s with toks := k }) ?_ h
  refine Meets.of_wp fun prog w A R s hS => ?_
  rw [encode_tree_ascii, encodeRoad_ascii, narrow_ok _ _ _ hx (by omega)]
  refine wpAny_bind (wpAny_bind (wpAny_pure ?_))
  unfold mkBytes
  rw [if_neg (by rw [Array.size_map]; omega)]
  exact wpAny_bind (wpAny_fresh (wpAny_pure (wpAny_pure ⟨_, rfl, hS _ _⟩)))
theorem encode_far {x : PySem.Str} {t u : Tok} {Q : Value → Shared → Prop} (hx : ∃ c ∈ x.cps.toList, 128 ≤ c) (hz : x.cps.size ≤ 1000000) (hh : A.handled = none)
    (h : ∀ h' tk e, NewExcF s.heap h' e "UnicodeEncodeError" → E (.ref e) { s with heap := h', toks := tk }) :
    wpAny (model prog w) A (call (.builtin "str.encode") [.str x t, .str (PySem.Str.ofString "ascii") u]) Q E s := by
  refine call_meets PySem.F.slot_str_encode (typeIs_str _ _ _) PySem.F.entry_str_encode (PySem.F.args_str_encode_2 _ _)
    (S := fun A R s => A.handled = none ∧ ∀ h' tk e, NewExcF s.heap h' e "UnicodeEncodeError" → R (.error (.ref e)) { s with heap := h', toks := tk }) ?_ ⟨hh, h⟩
  intro prog w A R s hS
  obtain ⟨hh, hS⟩ := hS
  rw [encode_tree_ascii, encodeRoad_ascii]
  exact wpAny_bind (wpAny_bind (narrow_bad hx hz hh hS))
end
end Mine
end

section
open PySem PySem.W PyProof.Rows
set_option linter.unusedVariables false
set_option maxRecDepth 100000
namespace Mine
section
variable {M : Model} {A : Around} {E : Value → Shared → Prop} {s' : Shared} {base g h : Heap} {outer : List Env} {L a e : Addr} {m : Str → Option Value} {name : Str} {scope : Scope} {cd : Value} {Q : Unit → Shared → Prop} {news : List (Addr × Obj)}

/-- an exception that has just been made leaves the frame of a def: fields of any number -/
theorem leave_newF {cls : String} (K : Below A base outer g) (hx : NewExcF h s'.heap e cls) (F : Fr g L h m) (N : News g L h news)
    (hQ : ∀ h', RaisedSN base g outer e (.type cls) news h' → g.UpToSlots h' → Q () { s' with heap := h' }) (hk : scope.kind = .function) :
    wpAny M (A.deeper (envOf name scope L a cd)) (leaving (envOf name scope L a cd) (.ref e)) Q E s' := by
  obtain ⟨ob, vs, a0, hat, hcls, hdat, h0, h1⟩ := hx.there
  have P := K.push (name := name) (a := a) (cd := cd) F hk
  let fs := (envOf name scope L a cd :: outer).filterMap (·.frame)
  let H := hideAll h fs
  have selfFree : g.get? L = none := kts_self F
  -- what is no frame stays in H
  have stays : ∀ b o, h.get? b = some o → b ∉ fs → H.get? b = some o := fun b o q n => hideAll_get fs q n
  have baseIn : base.StaysIn H := fun b o q => stays b o (P.stays b o q) fun hm => by
    have := (P.frames.mem hm).1
    rw [q] at this
    cases this
  have groundIn : ∀ b o, g.get? b = some o → b ∉ outer.filterMap (·.frame) → H.get? b = some o := fun b o q n => stays b o (F.keep b o q) fun hm => by
    rcases kts_mem hm with z | z
    · subst z
      rw [selfFree] at q
      cases q
    · exact n z
  have newsIn : ∀ q ∈ news, H.get? q.1 = some q.2 ∧ g.get? q.1 = none ∧ base.get? q.1 = none := fun q hq => by
    obtain ⟨n1, n2, n3⟩ := N q hq
    refine ⟨stays _ _ n1 fun hm => ?_, n3, fresh_of_stays K.stays n3⟩
    rcases kts_mem hm with z | z
    · exact n2 z
    · obtain ⟨_, o, ho, _⟩ := K.frames.mem z
      rw [n3] at ho
      cases ho
  have eFresh : H.get? e = none := by
    cases q : H.get? e with
    | none => rfl
    | some o =>
      have z := of_hideAll fs q
      rw [hx.new] at z
      cases z
  have frames : s'.heap.FunFrames H (envOf name scope L a cd :: outer) :=
    (funFrames_hide (as := fs) P.frames fun env he b hb => List.mem_filterMap.mpr ⟨env, he, hb⟩).of_keeps fun b o hb _ => ⟨o, hx.keeps b o hb, rfl⟩
  refine wpAny_leaving_firstW P.stack frames rfl hat (fun b o q => hx.keeps b o (of_hideAll fs q)) eFresh hdat h1 h0 fun h' left => ?_
  obtain ⟨k1, ⟨_, _, k2⟩, k3, k4⟩ := left
  rw [hcls] at k3
  exact hQ h' ⟨H, a0, baseIn, groundIn, newsIn, k1, eFresh, k2, k3⟩ ((Heap.UpToSlots.of_keeps fun b o q => hx.keeps b o (F.keep b o q)).trans k4)
end
end Mine
end

section
open PySem PySem.W PyProof.Rows
set_option linter.unusedVariables false
set_option maxRecDepth 100000
namespace Mine
section
variable {prog : Program} {w : World} {A₀ A : Around} {s : Shared} {base h₀ : Heap} {L : Addr} {m : Str → Option Value} {env : Env} {news : List (Addr × Obj)} {K : Frag} {p : Program} {loose : List Str} {mean : ExcName → Option Value} {mg mb : Str → Option Value}
  {R : Result → Shared → Prop} {name qual : Str} {params : Arguments} {body : List Stmt} {scope : Scope} {dV kV doc pm cdv ct oc : Value} {an od : Option Addr} {osl : Array (Option Value)} {f : Addr} {args : Args} {binds : List (Str × Value)}

/-- the frames of one environment -/
theorem one_frame (hf : env.frame = some L) : [env].filterMap (·.frame) = [L] := by simp [hf]

/-- a def whose frame may catch, entered from the outermost frame, whatever that frame's cells -/
theorem code_defT (B : Below A₀ base [] h₀) (F : Fr h₀ L s.heap m) (X₀ : K.In h₀) (N : News h₀ L s.heap news) (T : Top p loose mean mg mb h₀) (hA : A.frames = some [env]) (hf : env.frame = some L) (hke : env.scope.kind = .function)
    (ho : K.lookup f = some ⟨oc, od, .func (fnOf name qual params body scope dV kV doc pm an cdv ct), osl⟩) (hcd : codeIn K cdv qual = true) (hroom : A.depth < recursionLimit)
    (hbind : BindsTo s (fnOf name qual params body scope dV kV doc pm an cdv ct) args binds) (hloc : ∀ y ∈ binds, scope.names.lookup y.1 = some .local)
    (h : ∀ g L' h₁, Fr h₀ L g m → Fr g L' h₁ (fun y => binds.reverse.lookup y) → News g L' h₁ news → Below A base [env] g → K.In g → Top p loose mean mg mb g → KtsDicts ([env].filterMap (·.frame)) g →
      wpAny (model prog w) (A.deeper (envOf qual scope L' f cdv)) (execs body (envOf qual scope L' f cdv))
        (fun fl s' => LeaveS0 ([env].filterMap (·.frame)) h₀ L m g R (match fl with | .ret v => v | _ => .none) s')
        (fun e s' => wpAny (model prog w) (A.deeper (envOf qual scope L' f cdv)) (leaving (envOf qual scope L' f cdv) e) (fun _ s'' => R (.error e) s'') (fun e' s'' => R (.error e') s'') s')
        { s with heap := h₁, toks := s.toks + binds.length })
    (hco : scope.isCoroutine = false) (hgen : scope.isGenerator = false) (hk : scope.kind = .function)
    (hcell : ∀ x ∈ scope.names, x.2 ≠ .cell) : codeAny (model prog w) A (.call (.ref f) args) R s := by
  have X := X₀.keeps F.keep
  obtain ⟨FG, BG, st, _⟩ := groundX (R := R) B F N hA hf hke
  generalize hG : hideAll s.heap (news.map (·.1)) = G at FG BG st
  have toHere : ∀ b o, G.get? b = some o → s.heap.get? b = some o := fun b o q => by rw [← hG] at q; exact of_hideAll _ q
  have free : ∀ p ∈ news, G.get? p.1 = none := fun p hp => by rw [← hG]; exact hideAll_none _ (List.mem_map_of_mem hp)
  have big : G.objs.size = s.heap.objs.size := by rw [← hG]; exact hideAll_size _ _
  have ground := FG.ns
  obtain ⟨oL, es, ep, hLg, hLd, hLk, hLf⟩ := ground
  refine codeAny_call_def (fd := fnOf name qual params body scope dV kV doc pm an cdv ct) (body := body) (binds := binds) hroom (X _ _ ho) rfl (T.nolimit.keeps F.keep) (codeRec_of X hcd) rfl hbind hcell hloc (fun h₁ hns hk₁ => ?_) hco hgen hk
  have FN : Fr G s.heap.objs.size h₁ (fun y => binds.reverse.lookup y) := ⟨hns, fun b o q => hk₁ b o (toHere b o q), Nat.le_of_eq big⟩
  have NN : News G s.heap.objs.size h₁ news := fun p hp => ⟨hk₁ _ _ (N p hp).1, Nat.ne_of_lt (Heap.lt_size (N p hp).1), free p hp⟩
  have DD : KtsDicts ([env].filterMap (·.frame)) G := fun b hb => by
    rw [one_frame hf] at hb
    rw [List.mem_singleton.mp hb]
    exact ⟨oL, es, ep, hLg, hLd⟩
  refine wpAny_mono (h G s.heap.objs.size h₁ FG FN NN BG (X₀.keeps st) (T.keeps st) DD) (fun fl s' hl => ?_) fun _ _ y => y
  obtain ⟨g', L', m', news', T', F', N', k⟩ := hl
  obtain ⟨sl, hs⟩ := T'.up hLg
  have noL : h₀.get? L = none := kts_self F
  refine k ⟨⟨_, es, ep, F'.keep _ _ hs, hLd, hLk, hLf⟩, fun b o q => F'.keep b o (T'.other b o (st b o q) fun hb => ?_), F.above⟩ fun p hp => ⟨(N' p hp).1, fun q => ?_, ?_⟩
  · rw [one_frame hf] at hb
    rw [List.mem_singleton.mp hb, noL] at q
    cases q
  · have z := (N' p hp).2.2
    rw [q, hs] at z
    cases z
  · cases q : h₀.get? p.1 with
    | none => rfl
    | some o =>
      obtain ⟨sl', hs'⟩ := T'.up (st _ _ q)
      have z := (N' p hp).2.2
      rw [hs'] at z
      cases z
end
end Mine
end

section
open PySem PySem.W PyProof.Rows
set_option linter.unusedVariables false
set_option maxRecDepth 100000
namespace Mine
abbrev alpha : Array UInt8 := #[49, 50, 51, 52, 53, 54, 55, 56, 57, 65, 66, 67, 68, 69, 70, 71, 72, 74, 75, 76, 77, 78, 80, 81, 82, 83, 84, 85, 86, 87, 88, 89, 90, 97, 98, 99, 100, 101, 102, 103, 104, 105, 106, 107, 109, 110, 111, 112, 113, 114, 115, 116, 117, 118, 119, 120, 121, 122]
open Builtin

theorem slot_bytes_lstrip : Slot "bytes" "lstrip" "bytes.lstrip" :=
  .of (owner := "bytes") (n := "lstrip") (by rw [typeLookup_type, builtinLookup_eq_fast]; kernel_rfl) (by decide +kernel) (by decide +kernel) (by decide +kernel)
    (by first | exact .inl (by decide +kernel) | exact .inr (by decide +kernel)) (by rw [isSubtype_type]; kernel_rfl)
theorem type_bytes_lstrip : typeOf (.builtin "bytes.lstrip") = pure (.type "method_descriptor") := by show builtinType _ = _; rw [builtinType_eq_fast]; kernel_rfl
theorem entry_bytes_lstrip : entryFor table "bytes.lstrip" = some Builtin.«bytes.lstrip» := entryFor_of_tree (by kernel_rfl)
theorem args_bytes_lstrip_2 (a b : Value) : argsOk "bytes.lstrip" ⟨[a, b], []⟩ := by unfold argsOk; kernel_rfl
theorem slot_bytes_rstrip : Slot "bytes" "rstrip" "bytes.rstrip" :=
  .of (owner := "bytes") (n := "rstrip") (by rw [typeLookup_type, builtinLookup_eq_fast]; kernel_rfl) (by decide +kernel) (by decide +kernel) (by decide +kernel)
    (by first | exact .inl (by decide +kernel) | exact .inr (by decide +kernel)) (by rw [isSubtype_type]; kernel_rfl)
theorem type_bytes_rstrip : typeOf (.builtin "bytes.rstrip") = pure (.type "method_descriptor") := by show builtinType _ = _; rw [builtinType_eq_fast]; kernel_rfl
theorem entry_bytes_rstrip : entryFor table "bytes.rstrip" = some Builtin.«bytes.rstrip» := entryFor_of_tree (by kernel_rfl)
theorem args_bytes_rstrip_1 (a : Value) : argsOk "bytes.rstrip" ⟨[a], []⟩ := by unfold argsOk; kernel_rfl

def dropZeros (b : Array UInt8) : Array UInt8 := (b.toList.dropWhile (#[0] : Array UInt8).contains).toArray
def cut (k : List UInt8) (b : Array UInt8) (id : String) (self : Value) : Sem PySem.Fin :=
  if (k.length == b.size) = true then (rule id >>= fun _ => (Bytes.Kind.bytes.same self) >>= fun v => ret v) else (Bytes.Kind.bytes.new k.toArray >>= fun v => ret v)
theorem lstrip_eq (b : Array UInt8) (t u : Tok) : «bytes.lstrip» ⟨[.bytes b t, .bytes #[0] u], []⟩ = cut (b.toList.dropWhile (#[0] : Array UInt8).contains) b "bytes.lstrip.unchanged" (.bytes b t) := by
  first | rfl | kernel_rfl
theorem rstrip_eq (b : Array UInt8) (t : Tok) : «bytes.rstrip» ⟨[.bytes b t], []⟩ = cut (b.toList.reverse.dropWhile Bytes.isSpace).reverse b "bytes.rstrip.unchanged" (.bytes b t) := by first | rfl | kernel_rfl

section
variable {prog : Program} {w : World} {A : Around} {E : Value → Shared → Prop} {s : Shared}
theorem cut_bytes {n : Nat} {b : Array UInt8} {t : Tok} {Q : String → Shared → Prop} (h : Q "bytes" s) : wpAny (model prog w) A (typeNameOfCut n (.bytes b t)) Q E s := by
  unfold typeNameOfCut shownTypeOf
  refine wpAny_bind (wpAny_bind (wpAny_typeOf (typeIs_bytes _ b t) ?_))
  simp only [show (Value.type "bytes" == Value.type "builtin_function_or_method") = false by decide, Bool.false_eq_true, if_false]
  refine wpAny_pure ?_
  have e : typeNameCut n (.type "bytes") = pure "bytes" := by
    show typeName (.type "bytes") = _
    kernel_rfl
  rw [e]
  exact wpAny_pure h
theorem index_bytes {b : Array UInt8} {t : Tok} {Q : Int → Shared → Prop} (hh : A.handled = none) (h : ∀ h' tk e, Heap.NewExc s.heap h' e "TypeError" → E (.ref e) { s with heap := h', toks := tk }) :
    wpAny (model prog w) A (asIndex (.bytes b t)) Q E s := by
  unfold asIndex
  refine wpAny_bind (wpAny_of_eq (a := none) (by first | rfl | kernel_rfl) ?_)
  refine wpAny_bind (wpAny_callSpecial?_none (typeIs_bytes _ b t) (by rw [typeLookup_type, builtinLookup_eq_fast]; kernel_rfl) ?_)
  refine wpAny_bind (cut_bytes ?_)
  exact wpAny_raiseErrorMade plainExc_TypeError hh h (by decide +kernel)
theorem notin_alpha {t u : Tok} {Q : Value → Shared → Prop} (hh : A.handled = none) (h : ∀ h' tk, (∀ b o, s.heap.get? b = some o → h'.get? b = some o) → Q (.bool true) { s with heap := h', toks := tk }) :
    wpAny (model prog w) A (compareOp .NotIn (.bytes #[32] u) (.bytes alpha t)) Q E s := by
  show wpAny _ _ (do return .bool (!(← contains (.bytes alpha t) (.bytes #[32] u)))) Q E s
  refine wpAny_bind (wpAny_contains_slot (typeIs_bytes _ _ _) FB.slot_bytes_contains ?_)
  refine call_meets FB.slot_bytes_contains (typeIs_bytes _ _ _) FB.entry_bytes_contains (FB.args_bytes_contains_2 _ _)
    (S := fun A R s => A.handled = none ∧ ∀ h' tk, (∀ b o, s.heap.get? b = some o → h'.get? b = some o) → R (.ok (.ret (.bool false))) { s with heap := h', toks := tk }) ?_ ⟨hh, fun h' tk k => ?_⟩
  · intro prog w A R s hS
    obtain ⟨hh, hS⟩ := hS
    show wpAny _ _ (Bytes.containsIn "bytes.__contains__" (.bytes alpha t) (.bytes #[32] u) >>= fun b => ret (.bool b)) _ _ _
    unfold Bytes.containsIn
    refine wpAny_bind (wpAny_bind (wpAny_attempt (index_bytes hh fun h' tk e x => ?_)))
    dsimp only
    refine wpAny_bind (wpAny_of_eq (a := some alpha) (by first | rfl | kernel_rfl) ?_)
    refine wpAny_bind (wpAny_of_eq (a := some #[32]) (by first | rfl | kernel_rfl) ?_)
    refine wpAny_bind (wpAny_rule (wpAny_pure ?_))
    have e0 : (Bytes.find? alpha #[32] 0 alpha.size).isSome = false := by decide +kernel
    rw [e0]
    exact wpAny_pure (hS _ _ x.keeps)
  · exact wpAny_pure (wpAny_pure (h _ _ k))

theorem cut_meets {k : List UInt8} {b : Array UInt8} {id : String} {t : Tok} {Q : PySem.Fin → Shared → Prop} (hz : b.size ≤ 1000000) (hk : k.length ≤ b.size) (he : k.length = b.size → k.toArray = b)
    (h : ∀ t' tk, Q (.done (.ret (.bytes k.toArray t'))) { s with toks := tk }) : wpAny (model prog w) A (cut k b id (.bytes b t)) Q E s := by
  have hsz : sizeLine = 16777216 := sizeLine_eq
  unfold cut
  by_cases hq : k.length = b.size
  · rw [if_pos (by simpa using hq)]
    refine wpAny_bind (wpAny_rule (wpAny_bind (wpAny_of_eq (a := .bytes b t) (by first | rfl | kernel_rfl) ?_)))
    have := h t s.toks
    rw [he hq] at this
    exact wpAny_pure this
  · rw [if_neg (by simpa using hq)]
    show wpAny _ _ (mkBytes k.toArray >>= fun v => ret v) _ _ _
    unfold mkBytes
    rw [if_neg (by rw [List.size_toArray]; omega)]
    exact wpAny_bind (wpAny_bind (wpAny_fresh (wpAny_pure (wpAny_pure (h _ _)))))

theorem dropWhile_same {p : UInt8 → Bool} {l : List UInt8} (h : (l.dropWhile p).length = l.length) : l.dropWhile p = l :=
  (List.dropWhile_suffix p).eq_of_length h

theorem lstrip_rule {b : Array UInt8} {t u : Tok} {Q : Value → Shared → Prop} (hz : b.size ≤ 1000000) (h : ∀ t' tk, Q (.bytes (dropZeros b) t') { s with toks := tk }) :
    wpAny (model prog w) A (call (.builtin "bytes.lstrip") [.bytes b t, .bytes #[0] u]) Q E s := by
  refine call_meets slot_bytes_lstrip (typeIs_bytes _ _ _) entry_bytes_lstrip (args_bytes_lstrip_2 _ _)
    (S := fun _ R s => ∀ t' tk, R (.ok (.ret (.bytes (dropZeros b) t'))) { s with toks := tk }) ?_ h
  refine Meets.of_wp fun prog w A R s hS => ?_
  rw [lstrip_eq]
  refine cut_meets hz ?_ (fun e => ?_) fun t' tk => ⟨_, rfl, hS _ _⟩
  · have := (List.dropWhile_suffix (p := (#[0] : Array UInt8).contains) (l := b.toList)).length_le
    simpa using this
  · rw [dropWhile_same (by simpa using e)]
theorem rstrip_rule {b : Array UInt8} {t : Tok} {Q : Value → Shared → Prop} (hz : b.size ≤ 1000000) (hs : ∀ c ∈ b.toList, Bytes.isSpace c = false) (h : ∀ t' tk, Q (.bytes b t') { s with toks := tk }) :
    wpAny (model prog w) A (call (.builtin "bytes.rstrip") [.bytes b t]) Q E s := by
  have e : (b.toList.reverse.dropWhile Bytes.isSpace).reverse = b.toList := by
    have : b.toList.reverse.dropWhile Bytes.isSpace = b.toList.reverse := by
      cases hr : b.toList.reverse with
      | nil => rfl
      | cons c r =>
        have hc : Bytes.isSpace c = false := hs c (by
          have : c ∈ b.toList.reverse := by rw [hr]; exact List.mem_cons_self
          simpa using this)
        rw [List.dropWhile_cons, hc]
        rfl
    rw [this, List.reverse_reverse]
  refine call_meets slot_bytes_rstrip (typeIs_bytes _ _ _) entry_bytes_rstrip (args_bytes_rstrip_1 _)
    (S := fun _ R s => ∀ t' tk, R (.ok (.ret (.bytes b t'))) { s with toks := tk }) ?_ h
  refine Meets.of_wp fun prog w A R s hS => ?_
  rw [rstrip_eq, e]
  exact cut_meets hz (by simp) (fun _ => by simp) fun t' tk => ⟨_, rfl, hS _ _⟩
end
end Mine
end

section
open PySem PySem.W PyProof.Rows
set_option linter.unusedVariables false
set_option maxRecDepth 100000
namespace Mine
open Builtin

theorem rstrip_id {x : PySem.Str} (hs : ∀ c ∈ x.cps.toList, Unicode.isSpace c = false) : PySem.Txt.rstrip x = x := by
  have e : (x.cps.toList.reverse.takeWhile Unicode.isSpace) = [] := by
    cases hr : x.cps.toList.reverse with
    | nil => rfl
    | cons c r =>
      have hc : Unicode.isSpace c = false := hs c (by
        have : c ∈ x.cps.toList.reverse := by rw [hr]; exact List.mem_cons_self
        simpa using this)
      rw [List.takeWhile_cons, hc]
      rfl
  show (if stripSame Unicode.isSpace false true x = true then x else PySem.stripped Unicode.isSpace false true x) = x
  have h : stripSame Unicode.isSpace false true x = true := by
    unfold stripSame stripLo stripHi
    simp only [Bool.false_eq_true, if_false, List.drop_zero, if_true, e, List.length_nil, Nat.sub_zero]
    simp
  rw [if_pos h]

section
variable {prog : Program} {w : World} {M : Model} {A : Around} {E : Value → Shared → Prop} {s : Shared}
theorem rstrip_str {x : PySem.Str} {t : Tok} {Q : Value → Shared → Prop} (hs : ∀ c ∈ x.cps.toList, Unicode.isSpace c = false) (hz : x.cps.size ≤ 1000000) (h : ∀ t' k, Q (.str x t') { s with toks := k }) :
    wpAny (model prog w) A (call (.builtin "str.rstrip") [.str x t]) Q E s :=
  W.KXw.rstrip (rstrip_id hs) (by have e : x.length = x.cps.size := rfl; rw [sizeLine_eq]; omega) h
theorem get_rstrip {b : Array UInt8} {t : Tok} {pl : Sem Bool} {Q : Value × List Value → Shared → Prop} (h : Q (.builtin "bytes.rstrip", [.bytes b t]) s) :
    wpAny M A (getMethod (.bytes b t) "rstrip" pl) Q E s := by
  with_reducible exact W.KBd.method_of (.bytes b t) (typeIs_bytes _ _ _) slot_bytes_rstrip type_bytes_rstrip W.KBd.noRef h
theorem get_lstrip {b : Array UInt8} {t : Tok} {pl : Sem Bool} {Q : Value × List Value → Shared → Prop} (h : Q (.builtin "bytes.lstrip", [.bytes b t]) s) :
    wpAny M A (getMethod (.bytes b t) "lstrip" pl) Q E s := by
  with_reducible exact W.KBd.method_of (.bytes b t) (typeIs_bytes _ _ _) slot_bytes_lstrip type_bytes_lstrip W.KBd.noRef h
theorem notin_K {prog : Program} {w : World} {h₀ : Heap} {L : Addr} {m : PySem.Str → Option Value} {news : List (Addr × Obj)} {t u : Tok} {Q : Value → Shared → Prop} (F : Fr h₀ L s.heap m) (N : News h₀ L s.heap news) (hh : A.handled = none)
    (h : ∀ h' tk, Fr h₀ L h' m → News h₀ L h' news → Q (.bool true) { s with heap := h', toks := tk }) :
    wpAny (model prog w) A (compareOp .NotIn (.bytes #[32] u) (.bytes alpha t)) Q E s :=
  notin_alpha hh fun h' tk k => h h' tk (F.keeps k) (N.grown k)
end
end Mine
end

section
open PySem PySem.W PyProof.Rows
set_option linter.unusedVariables false
set_option maxRecDepth 100000
namespace Mine
open Builtin

def beNat (b : Array UInt8) : Nat := b.toList.foldl (fun acc c => acc * 256 + c.toNat) 0
theorem beNat_lt {b : Array UInt8} {n : Nat} (h : b.size ≤ n) : beNat b < 256 ^ n := by
  have h1 := KFB.fold_lt b.toList 0
  rw [Nat.zero_add, Nat.one_mul, Array.length_toList] at h1
  exact Nat.lt_of_lt_of_le h1 (Nat.pow_le_pow_right (by decide) h)

section
variable {prog : Program} {w : World} {M : Model} {A : Around} {E : Value → Shared → Prop} {s : Shared} {h₀ : Heap} {L : Addr} {m : PySem.Str → Option Value} {news : List (Addr × Obj)}

theorem callWith_boundKW {pos : Pos} {u : Addr} {first : List Value} {env : Env} {e : PySem.Expr} {rest : List PySem.Expr} {kws : List Keyword} {Q : Value → Shared → Prop}
    (hall : (backToKw pos (keywordEach kws env)).all (·.1.isSome) = true)
    (h : wpAny M A (spliced (backTo pos (starEach (e :: rest) env))) (fun vs s₁ => wpAny M A (evalAll ((backToKw pos (keywordEach kws env)).map (·.2)))
      (fun ks s₂ => KFB.StandsAt u s₂.heap ∧ wpAny M A (call (.ref u) (first ++ vs) (((backToKw pos (keywordEach kws env)).filterMap (·.1)).zip ks)) Q E s₂) E s₁) E s)
    (hplain : ((backTo pos (starEach (e :: rest) env)).any (·.1) || (backToKw pos (keywordEach kws env)).any (·.1.isNone)) = false) (he : starEach (e :: rest) env = (false, eval e env) :: starEach rest env) :
    wpAny M A (callWith pos (.ref u) first (backTo pos (starEach (e :: rest) env)) (backToKw pos (keywordEach kws env))) Q E s := by
  unfold callWith
  refine wpAny_bind (wpAny_holding (wpAny_mono (evalArgs_kw2 (Q := fun x s₁ => KFB.StandsAt u s₁.heap ∧ wpAny M A (call (.ref u) (first ++ x.pos) x.kw) Q E s₁) hall h he) (fun x s₁ h₁ => wpAny_bind (wpAny_standAt ?_)) fun _ _ x => x))
  obtain ⟨ho, hcall⟩ := h₁
  rw [hplain]
  refine wpAny_bind (m := keeperOf (.ref u)) ?_
  unfold keeperOf
  refine wpAny_bind (wpAny_load ho ?_)
  simp only [KFB.bound, show (Value.type "builtin_function_or_method" != Value.type "method") = true by decide, show (Value.type "builtin_function_or_method" == Value.type "builtin_function_or_method" || Value.type "builtin_function_or_method" == Value.type "method-wrapper") = true by decide, if_true]
  refine wpAny_pure ?_
  exact wpAny_bind (wpAny_mono hcall (fun r s₂ hr => wpAny_bind (wpAny_holding (wpAny_point (wpAny_pure hr)))) fun _ _ x => x)

theorem grown_any {n : Nat} {Q : Value → Shared → Prop} (hn : n < 256 ^ 1000) (h : Q (.int (n : Int) s.toks) { s with toks := s.toks + 1 }) : wpAny M A (mkIntGrown (n : Int)) Q E s := by
  unfold mkIntGrown
  have hb : bitsLine = 134217728 := by first | rfl | decide
  have hl : ¬ ((n : Int).natAbs.log2 ≥ bitsLine) := by
    rw [Int.natAbs_natCast, hb]
    by_cases hz : n = 0
    · subst hz
      decide
    · have h2 : n < 2 ^ 8000 := by
        have e : (256 : Nat) ^ 1000 = 2 ^ 8000 := by
          rw [show (256 : Nat) = 2 ^ 8 from rfl, ← Nat.pow_mul]
        rw [← e]; exact hn
      have h1 := (Nat.log2_lt hz).mpr h2
      omega
  rw [if_neg hl]
  exact wpAny_mkInt h
theorem tree_bigKW {b : Array UInt8} {t u : Tok} {P : PySem.Fin → Shared → Prop} (hl : b.size ≤ 1000) (h : P (.done (.ret (.int (beNat b : Int) s.toks))) { s with toks := s.toks + 1 }) :
    wpAny M A (Builtin.«int.from_bytes» ⟨[.type "int", .bytes b t], [(PySem.Str.ofString "byteorder", .str (PySem.Str.ofString "big") u)]⟩) P E s := by
  unfold Builtin.«int.from_bytes»
  refine wpAny_bind (wpAny_of_eq (a := true) KFB.type_int ?_)
  refine KFB.if_not rfl ?_
  refine wpAny_bind (wpAny_of_eq (a := true) F.conv_sub_int ?_)
  refine KFB.if_not rfl ?_
  refine wpAny_bind (wpAny_of_eq (a := [some (.bytes b t), some (.str (PySem.Str.ofString "big") u), none]) (by kernel_rfl) ?_)
  refine wpAny_bind (wpAny_of_eq (a := PySem.Str.ofString "big") (by kernel_rfl) ?_)
  refine wpAny_bind (wpAny_of_eq (a := false) rfl ?_)
  refine wpAny_bind (wpAny_of_eq (a := false) (by kernel_rfl) ?_)
  refine wpAny_bind (wpAny_of_eq (a := b) rfl ?_)
  show wpAny _ _ (mkIntGrown (b.toList.foldl (fun (acc : Int) (b : UInt8) => acc * 256 + (b.toNat : Int)) ((0 : Nat) : Int)) >>= fun v => _) _ _ _
  rw [KFB.foldI_eq]
  refine wpAny_bind (grown_any (beNat_lt hl) ?_)
  refine KFB.if_so (by decide +kernel) ?_
  exact wpAny_bind (wpAny_pure (wpAny_pure h))
theorem check_fbKW {b : Array UInt8} {t u : Tok} : checkBoundCall "int.from_bytes" ⟨[.type "int", .bytes b t], [(PySem.Str.ofString "byteorder", .str (PySem.Str.ofString "big") u)]⟩ = pure () := by first | kernel_rfl | rfl
theorem call_bigKW {x : Addr} {b : Array UInt8} {t u : Tok} {Q : Value → Shared → Prop} (N : News h₀ L s.heap news) (hm : (x, KFB.bound) ∈ news) (hl : b.size ≤ 1000)
    (h : ∀ t' k, Q (.int (beNat b : Int) t') { s with toks := k }) :
    wpAny (model prog w) A (call (.ref x) [.bytes b t] [(PySem.Str.ofString "byteorder", .str (PySem.Str.ofString "big") u)]) Q E s := by
  have ho := KFB.at_of N hm
  refine wpAny_call (codeAny_of_tree ?_)
  show wpAny _ A.in1 (callAny (.ref x) ⟨[.bytes b t], [(PySem.Str.ofString "byteorder", .str (PySem.Str.ofString "big") u)]⟩) _ _ s
  simp only [callAny]
  refine wpAny_bind (wpAny_load ho ?_)
  simp only [KFB.bound, show (Value.type "builtin_function_or_method" == Value.type "method" || Value.type "builtin_function_or_method" == Value.type "builtin_function_or_method" || Value.type "builtin_function_or_method" == Value.type "method-wrapper") = true by decide, if_true]
  refine KFB.if_so (by decide) ?_
  refine wpAny_bind (wpAny_of_eq (a := ()) check_fbKW ?_)
  refine wpAny_bind (wpAny_pure (wpAny_pure ?_))
  exact ⟨KFB.quiet_fb, codeAny_builtin KFB.entry_fb (tree_bigKW hl (h _ _))⟩
end
end Mine
end

section
open PySem PySem.W PyProof.Rows
set_option linter.unusedVariables false
set_option maxRecDepth 100000
namespace Mine
/-- the digits of a number, ahead of what is there -/
def enc58 (i : Nat) (acc : List UInt8) : List UInt8 :=
  if i = 0 then acc else enc58 (i / 58) (alpha.toList.getD (i % 58) 0 :: acc)
termination_by i
decreasing_by omega

def EncJ (m₀ : PySem.Str → Option Value) (news : List (Addr × Obj)) (R : List UInt8) (n : Nat) (m : PySem.Str → Option Value) (nx : List (Addr × Obj)) : Prop :=
  nx = news ∧ ∃ (i : Nat) (acc : List UInt8) (ti ts : Tok), m "i" = some (.int (i : Int) ti) ∧ m "string" = some (.bytes acc.toArray ts) ∧
    (∀ y : PySem.Str, y ≠ "i" → y ≠ "string" → y ≠ "idx" → m y = m₀ y) ∧ n = i ∧ (∃ k, i < 2 ^ k ∧ acc.length + k ≤ 200) ∧ enc58 i acc = R

section
variable {prog : Program} {w : World} {A : Around} {E : Value → Shared → Prop} {Q : Flow → Shared → Prop} {s : Shared} {env : Env} {h₀ : Heap} {L : Addr} {news : List (Addr × Obj)}
theorem While_enc {test : PySem.Expr} {body : List Stmt} {pos : Pos} {m₀ : PySem.Str → Option Value} {i₀ : Int} {ti ts : Tok}
    (F : Fr h₀ L s.heap m₀) (N : News h₀ L s.heap news) (hi : m₀ "i" = some (.int i₀ ti)) (hs : m₀ "string" = some (.bytes #[] ts)) (h0 : 0 ≤ i₀) (h1 : i₀ < 256 ^ 20)
    (turn : ∀ (i : Nat) (acc : List UInt8) (ti ts : Tok) (u : Option Value) h tk, acc.length ≤ 200 → (∃ k, i < 2 ^ k ∧ acc.length + k ≤ 200) → enc58 i acc = enc58 i₀.toNat [] →
      Fr h₀ L h (fun y : PySem.Str => if y = "string" then some (.bytes acc.toArray ts) else if y = "i" then some (.int (i : Int) ti) else if y = "idx" then u else m₀ y) → News h₀ L h news →
      wpAny (model prog w) A (isTrue test env (eval test env)) (fun b s₂ =>
        if b = true then wpAny (model prog w) A (execs body env) (WhileStep2 h₀ L s (EncJ m₀ news (enc58 i₀.toNat [])) Q i) E s₂ else Q .next s₂) E { s with heap := h, toks := tk })
    (hE : PassesOwn (model prog w) A env E := by passes_own) :
    wpAny (model prog w) A (exec (.While test body [] pos) env) Q E s := by
  refine While_inv2 (EncJ m₀ news (enc58 i₀.toNat [])) (n₀ := i₀.toNat) F N ?_ ?_ hE
  · refine ⟨rfl, i₀.toNat, [], ti, ts, ?_, hs, fun _ _ _ _ => rfl, rfl, ⟨160, ?_, by decide⟩, rfl⟩
    · rw [hi, Int.toNat_of_nonneg h0]
    · have e : (256 : Nat) ^ 20 = 2 ^ 160 := by decide +kernel
      rw [← e]
      omega
  · rintro n m₁ nx h tk F₁ N₁ ⟨rfl, i, acc, ti', ts', e1, e2, e3, rfl, ⟨k, k1, k2⟩, hR⟩
    refine turn n acc ti' ts' (m₁ "idx") h tk (by omega) ⟨k, k1, k2⟩ hR ?_ N₁
    have em : (fun y : PySem.Str => if y = "string" then some (.bytes acc.toArray ts') else if y = "i" then some (.int (n : Int) ti') else if y = "idx" then m₁ "idx" else m₀ y) = m₁ := by
      funext y
      by_cases a1 : y = "string"
      · rw [if_pos a1, a1, e2]
      · rw [if_neg a1]
        by_cases a2 : y = "i"
        · rw [if_pos a2, a2, e1]
        · rw [if_neg a2]
          by_cases a3 : y = "idx"
          · rw [if_pos a3, a3]
          · rw [if_neg a3, e3 y a2 a1 a3]
    rw [em]
    exact F₁

theorem enc_end {m₀ m₂ : PySem.Str → Option Value} {R : List UInt8} {i : Nat} {acc : List UInt8} {h' : Heap} {tk : Nat} {ti ts : Tok} {j : Int} {b : Array UInt8}
    {x : Addr × Obj} (F : Fr h₀ L h' m₂) (N : News h₀ L h' (x :: news)) (hi : (i : Int) ≠ 0) (e1 : m₂ "i" = some (.int j ti)) (e2 : m₂ "string" = some (.bytes b ts)) (hj : j = Int.fdiv (i : Int) 58) (hb : b = #[alpha.toList.getD (Int.fmod (i : Int) 58).toNat 0] ++ acc.toArray)
    (e3 : ∀ y : PySem.Str, y ≠ "i" → y ≠ "string" → y ≠ "idx" → m₂ y = m₀ y) (hk : ∃ k, i < 2 ^ k ∧ acc.length + k ≤ 200) (hR : enc58 i acc = R) :
    WhileStep2 h₀ L s (EncJ m₀ news R) Q i .next { s with heap := h', toks := tk } := by
  have e58 : Int.fdiv (i : Int) 58 = ((i / 58 : Nat) : Int) := by
    rw [Int.fdiv_eq_ediv_of_nonneg _ (by decide)]
    rfl
  have e59 : (Int.fmod (i : Int) 58).toNat = i % 58 := by
    rw [Int.fmod_eq_emod_of_nonneg _ (by decide)]
    rfl
  have eb : b = (alpha.toList.getD (i % 58) 0 :: acc).toArray := by
    rw [hb, e59]
    apply Array.toList_inj.mp
    simp
  have hi : i ≠ 0 := by omega
  refine ⟨h', tk, m₂, news, i / 58, rfl, F, fun p hp => N p (List.mem_cons_of_mem _ hp), by omega, rfl, i / 58, _, ti, ts, by rw [e1, hj, e58], by rw [e2, eb], e3, rfl, ?_, ?_⟩
  · obtain ⟨k, k1, k2⟩ := hk
    obtain ⟨k', rfl⟩ : ∃ k', k = k' + 1 := ⟨k - 1, by
      cases k with
      | zero => simp at k1; omega
      | succ k => omega⟩
    refine ⟨k', ?_, ?_⟩
    · rw [Nat.pow_succ] at k1
      omega
    · rw [List.length_cons]; omega
  · rw [← hR, enc58.eq_1 i acc, if_neg hi]
end
end Mine
end

section
open PySem PySem.W PyProof.Rows PyProof.V PySem.Spec
set_option linter.unusedVariables false
set_option maxRecDepth 100000
namespace Mine
theorem picked_alpha : ∀ n : Fin 58, KBy.picked alpha (some ((n.val : Nat) : Int)) (some (((n.val : Nat) : Int) + 1)) = [alpha.toList.getD n.val 0].toArray := by decide +kernel
section
variable {prog : Program} {w : World} {A : Around} {E : Value → Shared → Prop} {s : Shared} {value slice : PySem.Expr} {t : Tok} {h₀ : Heap} {L : Addr} {m : PySem.Str → Option Value} {news : List (Addr × Obj)} {Q : Value → Shared → Prop} {i j : Int} {ti tj : Tok}
theorem slice_alpha (F : Fr h₀ L s.heap m) (N : News h₀ L s.heap news) (h0 : 0 ≤ i) (h1 : i < 58) (hj : j = i + 1)
    (h : ∀ h' t' k, Fr h₀ L h' m → News h₀ L h' news → Q (.bytes [alpha.toList.getD i.toNat 0].toArray t') { s with heap := h', toks := k })
    (hs : subscripted slice false (.bytes alpha t) (.ref s.heap.objs.size) = operate [.ref s.heap.objs.size, .bytes alpha t] (getItem (.bytes alpha t) (.ref s.heap.objs.size)))
    (ht : ∀ r, letTemporaryGo value (.bytes alpha t) r = pure ()) :
    wpAny (model prog w) A (subscriptTail value slice (.bytes alpha t) (.ref s.heap.objs.size)) Q E { s with heap := s.heap.push { cls := .type "slice", data := .fields #[.int i ti, .int j tj, .none] } } := by
  subst hj
  refine KBc.slice_K (lo := some i) (hi := some (i + 1)) F N rfl (by constructor) (by constructor) (by decide) (fun h' t' k F' N' _ => ?_) hs ht
  have e := picked_alpha ⟨i.toNat, by omega⟩
  simp only [Int.toNat_of_nonneg h0] at e
  rw [e]
  exact h h' t' k F' N'
end
end Mine
end

section
open PySem PySem.W PyProof.Rows
set_option linter.unusedVariables false
set_option maxRecDepth 100000
namespace Mine
theorem enc58_len : ∀ (k i : Nat) (acc : List UInt8), i < 2 ^ k → (enc58 i acc).length ≤ acc.length + k
  | 0, i, acc, h => by
    have : i = 0 := by simpa using h
    rw [enc58, if_pos this]
    exact Nat.le_refl _
  | k + 1, i, acc, h => by
    rw [enc58]
    by_cases h0 : i = 0
    · rw [if_pos h0]; omega
    · rw [if_neg h0]
      rw [Nat.pow_succ] at h
      have := enc58_len k (i / 58) (alpha.toList.getD (i % 58) 0 :: acc) (by omega)
      rw [List.length_cons] at this
      omega
theorem dropZeros_le (b : Array UInt8) : (dropZeros b).size ≤ b.size := by
  have := (List.dropWhile_suffix (p := (#[0] : Array UInt8).contains) (l := b.toList)).length_le
  unfold dropZeros
  rw [List.size_toArray]
  simpa using this
theorem beNat_dz {b : Array UInt8} (hz : b.size ≤ 20) : beNat (dropZeros b) < 256 ^ 20 := beNat_lt (Nat.le_trans (dropZeros_le b) hz)

/-- what b58encode yields for octets -/
def encF (b : Array UInt8) : Array UInt8 :=
  ((List.replicate ((b.size : Int) - ((dropZeros b).size : Int)).toNat [alpha.toList.getD (0 : Int).toNat 0]).flatten).toArray ++ (enc58 (beNat (dropZeros b)) []).toArray
section
variable {prog : Program} {w : World} {A : Around} {E : Value → Shared → Prop} {s : Shared}
theorem enc_mul {n : Int} {c : UInt8} {t u : Tok} {Q : Value → Shared → Prop} (h0 : 0 ≤ n) (h1 : n ≤ 20) (h : ∀ t' k, Q (.bytes ((List.replicate n.toNat [c]).flatten).toArray t') { s with toks := k }) :
    wpAny (model prog w) A (binaryOp .Mult (.bytes [c].toArray t) (.int n u)) Q E s :=
  bytes_mul_any (List.cons_ne_nil _ _) (by omega) (by omega) (Nat.le_of_ble_eq_true rfl) h
theorem enc_add {n : Int} {i : Int} {c : UInt8} {t u : Tok} {Q : Value → Shared → Prop} (h1 : n ≤ 20) (h0 : 0 ≤ i) (h2 : i < 256 ^ 20)
    (h : ∀ t' k, Q (.bytes (((List.replicate n.toNat [c]).flatten).toArray ++ (enc58 i.toNat []).toArray) t') { s with toks := k }) :
    wpAny (model prog w) A (binaryOp .Add (.bytes ((List.replicate n.toNat [c]).flatten).toArray t) (.bytes (enc58 i.toNat []).toArray u)) Q E s := by
  refine KBy.add_bytes ?_ h
  have e : (256 : Nat) ^ 20 = 2 ^ 160 := by decide +kernel
  have h3 := enc58_len 160 i.toNat [] (by rw [← e]; omega)
  rw [List.length_nil] at h3
  have h4 : ((List.replicate n.toNat [c]).flatten).length = n.toNat := by simp
  rw [List.size_toArray, List.size_toArray, h4]
  omega
end
end Mine
end

section
open PySem PySem.W PyProof.Rows
set_option linter.unusedVariables false
set_option maxRecDepth 100000
namespace Mine
open Builtin

section
variable {prog : Program} {w : World} {A : Around} {E : Value → Shared → Prop} {s : Shared} {b : Array UInt8} {t : Tok} {it e : Addr} {i : Nat}

/-- the next octet, asked for by another iterator -/
theorem inner_item {c : UInt8} {Q : Value → Shared → Prop} (hit : KBw.IsBytesIter s.heap it b t i) (hx : b[i]? = some c)
    (hQ : ∀ h', KBw.IsBytesIter h' it b t (i + 1) → Heap.SameBut it s.heap h' → Q (.int (c.toNat : Int) s.toks) { s with heap := h', toks := s.toks + 1 }) :
    wpAny (model prog w) A (SmallTypes.nextOf (.ref it)) Q E s := by
  have hit' := hit
  obtain ⟨o, ho, hc, hd⟩ := hit'
  unfold SmallTypes.nextOf
  refine wpAny_bind (wpAny_callSpecial?_slot (name := PySem.Str.ofString "__next__") (KBw.iter_typeIs hit) KBw.slot_next
    (wpAny_call_entry KBw.slot_next (KBw.iter_typeIs hit) KBw.entry_next ?_ (KBw.args_next _)))
  show wpAny _ _ (field (.ref it) 0 >>= _) _ _ s
  refine wpAny_bind (wpAny_field ho hd (x := .bytes b t) rfl ?_)
  refine W.KFB.if_not rfl ?_
  show wpAny _ _ (field (.ref it) 1 >>= _) _ _ s
  refine wpAny_bind (wpAny_field ho hd (x := .int i 0) rfl ?_)
  refine wpAny_bind (wpAny_of_eq (a := b) rfl ?_)
  simp only [Int.toNat_natCast, hx]
  refine wpAny_bind (wpAny_setField ho hd (by simp) (wpAny_bind (wpAny_mkInt (wpAny_pure ⟨_, rfl, wpAny_pure (hQ _ ?_ (Heap.SameBut.update ..))⟩))))
  refine ⟨_, Heap.get?_update_self _ ho (Obj.isFreed_of_fields (Obj.data_mapFields hd _)), (Obj.cls_mapFields ..).trans hc, ?_⟩
  rw [Obj.data_mapFields hd]
  simp [rawInt]
theorem inner_end {Q : Value → Shared → Prop} (hh : A.handled = none) (hit : KBw.IsBytesIter s.heap it b t i) (hx : b[i]? = none)
    (hE : ∀ h' x, Heap.ExtBut it s.heap h' → (∃ o, h'.get? x = some o ∧ o.cls = .type "StopIteration") → E (.ref x) { s with heap := h' }) :
    wpAny (model prog w) A (SmallTypes.nextOf (.ref it)) Q E s := by
  have hit' := hit
  obtain ⟨o, ho, hc, hd⟩ := hit'
  unfold SmallTypes.nextOf
  refine wpAny_bind (wpAny_callSpecial?_slot (name := PySem.Str.ofString "__next__") (KBw.iter_typeIs hit) KBw.slot_next
    (wpAny_call_entry KBw.slot_next (KBw.iter_typeIs hit) KBw.entry_next ?_ (KBw.args_next _)))
  show wpAny _ _ (field (.ref it) 0 >>= _) _ _ s
  refine wpAny_bind (wpAny_field ho hd (x := .bytes b t) rfl ?_)
  refine W.KFB.if_not rfl ?_
  show wpAny _ _ (field (.ref it) 1 >>= _) _ _ s
  refine wpAny_bind (wpAny_field ho hd (x := .int i 0) rfl ?_)
  refine wpAny_bind (wpAny_of_eq (a := b) rfl ?_)
  simp only [Int.toNat_natCast, hx]
  refine wpAny_bind (wpAny_rule (wpAny_bind (wpAny_setField ho hd (by simp) ?_)))
  show wpAny _ _ (newExc (.type "StopIteration") [] >>= _) _ _ _
  refine wpAny_bind ?_
  simp only [newExc, newTuple]
  refine wpAny_bind (wpAny_newObj_type ?_ (by size_fits))
  refine wpAny_bind (m := firstArgMember _ _) (wpAny_of_eq (a := Value.none) (by first | rfl | (simp only [firstArgMember]; rfl)) ?_)
  refine wpAny_newObj_type ?_ (by size_fits)
  simp only [raiseNew]
  refine wpAny_bind (wpAny_handled ?_)
  rw [show A.in1.handled = none from hh]
  refine wpAny_bind (wpAny_pure (wpAny_throw ?_))
  exact hE _ _ (((Heap.SameBut.update ..).extBut.push _).push _) ⟨_, Heap.get?_push_size _ rfl, rfl⟩

/-- octets, drawn one by one -/
theorem draws_octets (hh : A.handled = none) (it : Addr) (b : Array UInt8) (t : Tok) :
    Draws prog w A it [it] b.size (fun i x => ∃ c tc, b[i]? = some c ∧ x = .int (c.toNat : Int) tc) (fun i h => KBw.IsBytesIter h it b t i) where
  live := fun _ _ ⟨o, ho, _⟩ => ⟨o, ho⟩
  frame := fun _ _ _ ⟨o, ho, r⟩ k => ⟨o, k it (List.mem_singleton.mpr rfl) o ho, r⟩
  item := fun _ s _ _ hi y hQ => inner_item y (Array.getElem?_eq_getElem hi) fun h' y' k => hQ _ h' (s.toks + 1) ⟨_, _, Array.getElem?_eq_getElem hi, rfl⟩ y' k
  done := fun _ _ _ y hE => inner_end hh y (Array.getElem?_eq_none (Nat.le_refl _)) hE

/-- a pair of a number and an octet, handed out by enumerate -/
theorem enum_item {c : UInt8} {old : Value} {Q : Option Value → Shared → Prop} (hh : A.handled = none) (he : IsEnum s.heap e it i old) (hit : KBw.IsBytesIter s.heap it b t i) (hx : b[i]? = some c) (hne : e ≠ it)
    (hQ : ∀ h' T ti tc x tk, IsEnumOut h' e it ((i : Int) + 1) x T → KBw.IsBytesIter h' it b t (i + 1) → h'.get? T = some { cls := .type "tuple", data := .seq #[.int i ti, .int (c.toNat : Int) tc] } →
      T ≠ e → T ≠ it → (∀ b o, b ≠ e → b ≠ it → s.heap.get? b = some o → h'.get? b = some o) → Q (some (.ref T)) { s with heap := h', toks := tk }) :
    wpAny (model prog w) A (pyNext (.ref e)) Q E s := by
  have hi : i < b.size := (Array.getElem?_eq_some_iff.mp hx).1
  refine wpAny_pyNext_enum_itemD (draws_octets (A := A.in1) hh it b t) he hit hi hne (fun q => hne (List.mem_singleton.mp q)) fun x h' tk hv ho y hT _ hk => ?_
  obtain ⟨c', tc, hc, rfl⟩ := hv
  obtain rfl : c = c' := Option.some.inj (hx.symm.trans hc)
  obtain ⟨_, hl, _⟩ := hit
  exact hQ h' _ tk tc _ _ ho y hT (Nat.ne_of_gt (Heap.lt_size he)) (Nat.ne_of_gt (Heap.lt_size hl)) hk
theorem enum_end {old : Value} {Q : Option Value → Shared → Prop} (hh : A.handled = none) (he : IsEnum s.heap e it b.size old) (hit : KBw.IsBytesIter s.heap it b t b.size)
    (hQ : ∀ h', Heap.ExtBut it s.heap h' → Q none { s with heap := h' }) : wpAny (model prog w) A (pyNext (.ref e)) Q E s :=
  wpAny_pyNext_enum_endD (draws_octets (A := A.in1) hh it b t) he hit hQ
end

open AutoSeq1 (wpAny_loadPart')
set_option maxHeartbeats 1000000 in
theorem meets_enum_bytes (b : Array UInt8) (t : Tok) :
    Meets (Builtin.«enumerate.__new__» ⟨[.type "enumerate", .bytes b t], []⟩) (fun _ R s =>
      R (.ok (.ret (.ref (s.heap.push { cls := .type "bytes_iterator", data := .fields #[.bytes b t, .int 0 0] }).objs.size)))
        { s with heap := (s.heap.push { cls := .type "bytes_iterator", data := .fields #[.bytes b t, .int 0 0] }).push { cls := .type "enumerate", data := .fields #[.none, .bool false, .ref s.heap.objs.size, rawInt 0, .none, .none] } }) :=
  .of_wp fun prog w A R s h => by
    obtain ⟨hp, g, d, tk, os⟩ := s
    have hsub := sub_enumerate
    wp_walk
    refine wpAny_stack_any fun st => wpAny_pure ?_
    split
    · rename_i c _ _ _ _ _
      cases (c == Value.type "enumerate")
      · wp_walk using KBw.pyIter_bytes
        exact ⟨_, rfl, h⟩
      · wp_walk using KBw.pyIter_bytes
        exact ⟨_, rfl, h⟩
    · wp_walk using KBw.pyIter_bytes
      exact ⟨_, rfl, h⟩
theorem call_enum_bytes {prog : Program} {w : World} {A : Around} {E : Value → Shared → Prop} {s : Shared} {b : Array UInt8} {t : Tok} {Q : Value → Shared → Prop}
    (h : ∀ h' e it, e ≠ it → s.heap.get? e = none → s.heap.get? it = none → IsEnum h' e it 0 .none → KBw.IsBytesIter h' it b t 0 → (∀ b o, s.heap.get? b = some o → h'.get? b = some o) → Q (.ref e) { s with heap := h' }) :
    wpAny (model prog w) A (call (.type "enumerate") [.bytes b t]) Q E s := by
  refine callType_new PySem.F.called_enumerate (by decide) (PySem.F.typeCall_enumerate_1 _) (PySem.F.newCall_enumerate_1 _) (fun obj => PySem.F.args_object_init_2 obj _) PySem.F.entry_enumerate_new
    (meets_enum_bytes b t) ?_
  have hz : (s.heap.push { cls := .type "bytes_iterator", data := .fields #[.bytes b t, .int 0 0] }).objs.size = s.heap.objs.size + 1 := Heap.size_push ..
  show _ ∧ _
  have he := Heap.get?_push_size (s.heap.push { cls := .type "bytes_iterator", data := .fields #[.bytes b t, .int 0 0] })
      (o := { cls := .type "enumerate", data := .fields #[.none, .bool false, .ref s.heap.objs.size, rawInt 0, .none, .none] }) rfl
  refine ⟨⟨_, he, rfl⟩, h _ _ s.heap.objs.size (by rw [hz]; exact Nat.succ_ne_self _) (by rw [hz]; exact Heap.get?_none_of_le (Nat.le_succ _)) (Heap.get?_none_of_le (Nat.le_refl _)) he
    ⟨_, Heap.get?_push_of_some _ (Heap.get?_push_size _ rfl), rfl, rfl⟩ fun b o x => Heap.get?_push_of_some _ (Heap.get?_push_of_some _ x)⟩
end Mine
end

section
open PySem PySem.W PyProof.Rows
set_option linter.unusedVariables false
set_option maxRecDepth 100000
namespace Mine
/-- the first n octets, each with its place -/
def IdxMap (b : Array UInt8) (kvs : List (Int × Value)) (n : Nat) : Prop :=
  kvs.map (·.1) = (KBw.bInts b).take n ∧ ∀ j, j < n → ∃ k t, kvs[j]? = some (k, .int (j : Int) t)

theorem IdxMap.zero {b : Array UInt8} : IdxMap b [] 0 := ⟨by simp, fun j h => absurd h (Nat.not_lt_zero j)⟩
theorem IdxMap.len {b : Array UInt8} {kvs : List (Int × Value)} {n : Nat} (x : IdxMap b kvs n) (hn : n ≤ b.size) : kvs.length = n := by
  have e := congrArg List.length x.1
  rw [List.length_map, List.length_take, KBw.ints_length] at e
  omega
theorem IdxMap.step {b : Array UInt8} {kvs : List (Int × Value)} {n : Nat} {c : UInt8} {t : Tok} (hd : (KBw.bInts b).Nodup) (x : IdxMap b kvs n) (hc : b[n]? = some c) :
    IdxMap b (stored kvs (c.toNat : Int) (.int (n : Int) t)) (n + 1) := by
  have hlt : n < b.size := (Array.getElem?_eq_some_iff.mp hc).1
  have hk : (KBw.bInts b)[n]? = some (c.toNat : Int) := KBw.ints_get hc
  have hlen := x.len (Nat.le_of_lt hlt)
  have fresh : kvs.any (fun kv => kv.1 = (c.toNat : Int)) = false := by
    rw [Bool.eq_false_iff]
    intro h
    obtain ⟨kv, hm, he⟩ := List.any_eq_true.mp h
    have he : kv.1 = (c.toNat : Int) := by simpa using he
    have hm' : kv.1 ∈ (KBw.bInts b).take n := by rw [← x.1]; exact List.mem_map_of_mem hm
    rw [he] at hm'
    obtain ⟨j, hj, hje⟩ := List.mem_iff_getElem.mp hm'
    have hjn : j < n := by
      rw [List.length_take] at hj
      omega
    have h1 : (KBw.bInts b)[j]? = some (c.toNat : Int) := by
      rw [List.getElem_take] at hje
      rw [List.getElem?_eq_getElem (by rw [KBw.ints_length]; omega), hje]
    have := (List.getElem?_inj (by rw [KBw.ints_length]; omega) hd).mp (h1.trans hk.symm)
    omega
  unfold stored
  rw [fresh]
  refine ⟨?_, fun j hj => ?_⟩
  · show (kvs ++ [((c.toNat : Int), Value.int (n : Int) t)]).map (·.1) = _
    rw [List.map_append, x.1, List.take_add_one, hk]
    rfl
  · show ∃ k t', (kvs ++ [((c.toNat : Int), Value.int (n : Int) t)])[j]? = some (k, .int (j : Int) t')
    by_cases e : j = n
    · subst e
      exact ⟨(c.toNat : Int), t, by rw [List.getElem?_append_right (by omega), hlen]; simp⟩
    · rw [List.getElem?_append_left (by omega)]
      exact x.2 j (by omega)
theorem IdxMap.found {b : Array UInt8} {kvs : List (Int × Value)} (hd : (kvs.map (·.1)).Nodup) (x : IdxMap b kvs b.size) {k : Int} {j : Nat} (hj : (KBw.bInts b)[j]? = some k) :
    ∃ t, valueAt kvs k = some (.int (j : Int) t) := by
  have hlt : j < b.size := by rw [← KBw.ints_length]; exact (List.getElem?_eq_some_iff.mp hj).1
  obtain ⟨k', t, e⟩ := x.2 j hlt
  have ek : (kvs.map (·.1))[j]? = some k' := by rw [List.getElem?_map, e]; rfl
  rw [x.1, ← KBw.ints_length, List.take_length, hj] at ek
  obtain rfl : k = k' := Option.some.inj ek
  exact ⟨t, valueAt_of_get hd e⟩
theorem IdxMap.missing {b : Array UInt8} {kvs : List (Int × Value)} (x : IdxMap b kvs b.size) {k : Int} (hk : k ∉ KBw.bInts b) : valueAt kvs k = none := by
  have hk' : k ∉ kvs.map (·.1) := by
    rw [x.1, ← KBw.ints_length, List.take_length]; exact hk
  unfold valueAt
  cases q : kvs.find? (fun kv => kv.1 = k) with
  | none => rfl
  | some kv =>
    have h1 := List.find?_some q
    have h2 := List.mem_of_find?_eq_some q
    have : kv.1 = k := by simpa using h1
    exact absurd (this ▸ List.mem_map_of_mem h2) hk'

section
variable {prog : Program} {w : World} {A : Around} {E : Value → Shared → Prop} {R : Result → Shared → Prop} {s : Shared}

/-- one turn of a dict comprehension whose target is a pair -/
theorem dict_turns {kx vx iter : PySem.Expr} {target : PySem.Expr} {scope : Scope} {pos : Pos} {it : Value} {D : Addr} {env : Env} (I : Nat → Shared → Prop)
    (turn : ∀ n s, I n s → wpAny (model prog w) A (pyNext it) (fun r s₁ => match r with
      | none => R (.ok .next) s₁
      | some v => wpAny (model prog w) A (letOwnedTupleGo target it v) (fun _ s₀ => wpAny (model prog w) A (assign target env v) (fun _ s₂ =>
          wpAny (model prog w) A (eval kx env) (fun kv s₄ => wpAny (model prog w) A (eval vx env) (fun vv s₅ =>
              wpAny (model prog w) A (dictSet D kv vv) (fun _ s₆ => ∃ m, m < n ∧ I m s₆) (notedBy (model prog w) A env fun e s' => R (.error e) s') s₅) (notedBy (model prog w) A env fun e s' => R (.error e) s') s₄) (notedBy (model prog w) A env fun e s' => R (.error e) s') s₂)
            (notedBy (model prog w) A env fun e s' => R (.error e) s') s₀) (notedBy (model prog w) A env fun e s' => R (.error e) s') s₁) (notedBy (model prog w) A env fun e s' => R (.error e) s') s)
    (n : Nat) (h : I n s) : codeAny (model prog w) A (.compLoop (.DictComp kx vx [⟨target, iter, [], 0⟩] scope pos) 0 it (.ref D) env) R s := by
  refine codeAny_loop rfl I (fun n s hI => ?_) n h
  show wpAny _ A ((compTurn (.DictComp kx vx [⟨target, iter, [], 0⟩] scope pos) 0 it (.ref D) env).onRaise (fun x => do noteFrame x env; theTreesLotGoes x)) _ _ s
  refine wpAny_noted ?_
  rw [compTurn_dict]
  refine wpAny_bind (wpAny_standAt (wpAny_bind (wpAny_mono (turn n s hI) (fun r s₁ h₁ => ?_) fun _ _ q => q)))
  cases r with
  | none => exact wpAny_pure h₁
  | some v =>
    refine wpAny_bind (wpAny_mono h₁ (fun _ s₀ h₀' => ?_) fun _ _ q => q)
    refine wpAny_bind (wpAny_mono h₀' (fun _ s₂ h₂ => ?_) fun _ _ q => q)
    refine wpAny_bind (wpAny_tests_nil ?_)
    refine wpAny_bind (wpAny_bind (wpAny_mono h₂ (fun kv s₄ h₄ => ?_) fun _ _ q => q))
    refine wpAny_bind (wpAny_holding (wpAny_mono h₄ (fun vv s₅ h₅ => ?_) fun _ _ q => q))
    exact wpAny_bind (wpAny_standAt (wpAny_holding (wpAny_mono h₅ (fun _ s₆ h₆ => wpAny_pure ⟨rfl, h₆⟩) fun _ _ q => q)))
end

section
variable {prog : Program} {w : World} {A : Around} {E : Value → Shared → Prop} {s : Shared} {env : Env}

/-- what a dict comprehension asks of its enumerate over octets -/
def EnumPost (prog : Program) (w : World) (Q : Value → Shared → Prop) : Value → Shared → Prop := fun xv s₁ => ∃ e it b t, xv = .ref e ∧ e ≠ it ∧ IsEnum s₁.heap e it 0 .none ∧ KBw.IsBytesIter s₁.heap it b t 0 ∧ b.size ≤ 1000 ∧ (KBw.bInts b).Nodup ∧
      ∀ D h' tk kvs, D = s₁.heap.objs.size → h'.DictOf (intKind prog w) D kvs → IdxMap b kvs b.size → (∀ a o, a ≠ e → a ≠ it → s₁.heap.get? a = some o → h'.get? a = some o) → Q (.ref D) { s₁ with heap := h', toks := tk }

theorem eval_DictEnum {ix ch : PySem.Str} {p1 p2 p3 p4 tp : Pos} {kk : Nat} {iter : PySem.Expr} {scope : Scope} {cl : List (PySem.Str × Addr)} {pos : Pos} {Q : Value → Shared → Prop} (hh : A.handled = none)
    (hclos : closureFor scope env = pure cl) (hcell : ∀ y ∈ scope.names, y.2 ≠ .cell) (hkind : scope.kind = .function)
    (hnames : ∀ y ∈ scope.names, y.2 = .local → scope.names.lookup y.1 = some .local) (hix : scope.names.lookup ix = some .local) (hch : scope.names.lookup ch = some .local) (hne : ix ≠ ch)
    (d1 : (ix == ("__debug__" : PySem.Str)) = false) (d2 : (ch == ("__debug__" : PySem.Str)) = false)
    (h : wpAny (model prog w) A (eval iter env) (EnumPost prog w Q) E s)
    (hs : ∀ x, foldedSetIterable iter env x = pure x := by intro _; rfl) :
    wpAny (model prog w) A (eval (.DictComp (.Name ch p1) (.Name ix p2) [⟨.Tuple [.Name ix p3, .Name ch p4] kk tp, iter, [], 0⟩] scope pos) env) Q E s := by
  rw [arm_eval_DictComp]
  refine wpAny_comprehension_free (use := none) rfl hs hclos hkind hnames (wpAny_mono h (fun xv s₁ h₁ => ?_) fun _ _ q => q)
  obtain ⟨e, it, b, t, rfl, hei, he, hit, hsz, hdis, hQ⟩ := h₁
  refine wpAny_pyIter_enum he ?_
  -- the dict, then the block's names
  refine wpAny_newObj_type (wpAny_newFunctionEnv hcell (by intro y hy; simp at hy) (fun h₁ hns₁ hsb₁ => ?_) hkind)
  dsimp only at hns₁ hsb₁ ⊢
  have hnew : (s₁.heap.push { cls := .type "dict", dict := none, data := .dict #[] }).DictOf (intKind prog w) s₁.heap.objs.size [] := Heap.DictOf.new s₁.heap
  generalize hH : s₁.heap.push { cls := .type "dict", dict := none, data := .dict #[] } = H at hns₁ hsb₁ hnew ⊢
  have up : ∀ a o, s₁.heap.get? a = some o → H.get? a = some o := fun a o q => hH ▸ Heap.get?_push_of_some _ q
  have sz : H.objs.size = s₁.heap.objs.size + 1 := by rw [← hH, Heap.size_push]
  generalize hD : s₁.heap.objs.size = D at hnew sz ⊢
  generalize hC : H.objs.size = C at hns₁ hsb₁ sz ⊢
  have freshD : s₁.heap.get? D = none := Heap.get?_none_of_le (Nat.le_of_eq hD)
  have freshC : s₁.heap.get? C = none := Heap.get?_none_of_le (by omega)
  have hDC : D ≠ C := by omega
  have apart : ∀ {a : Addr} {o : Obj}, s₁.heap.get? a = some o → a ≠ D ∧ a ≠ C := fun {a o} q => ⟨fun z => (by rw [z, freshD] at q; cases q), fun z => (by rw [z, freshC] at q; cases q)⟩
  have heD := apart he
  obtain ⟨oit, hoit, hrest⟩ := id hit
  have hitD := apart hoit
  have old₁ : ∀ a o, s₁.heap.get? a = some o → h₁.get? a = some o := fun a o q => hsb₁.extBut a o (apart q).2 (Heap.get?_push_of_some _ (up a o q))
  have dict₁ : h₁.DictOf (intKind prog w) D [] := hnew.at fun o q => hsb₁.extBut D o hDC (Heap.get?_push_of_some _ q)
  let J : Nat → Shared → Prop := fun n s' => ∃ h' tk i old kvs m', s' = { s₁ with heap := h', toks := tk } ∧ i ≤ b.size ∧ n = b.size + 1 - i ∧ IsEnum h' e it ((i : Nat) : Int) old ∧ KBw.IsBytesIter h' it b t i ∧
    h'.DictOf (intKind prog w) D kvs ∧ IdxMap b kvs i ∧ h'.Ns C m' ∧ ∀ a o, a ≠ e → a ≠ it → a ≠ D → a ≠ C → s₁.heap.get? a = some o → h'.get? a = some o
  have loop : ∀ s₃ : Shared, s₃ = { s₁ with heap := h₁, toks := s₁.toks + ([] : List (PySem.Str × Value)).length } →
      codeAny (model prog w) A (.compLoop (.DictComp (.Name ch p1) (.Name ix p2) [⟨.Tuple [.Name ix p3, .Name ch p4] kk tp, iter, [], 0⟩] scope pos) 0 (.ref e) (.ref D) (compEnvC scope cl C env))
        (compPost (model prog w) A E none Q (.ref D) C) s₃ := by
    rintro s₃ rfl
    refine dict_turns J ?_ (b.size + 1) ⟨h₁, _, 0, .none, [], _, rfl, Nat.zero_le _, rfl, old₁ _ _ he, ⟨oit, old₁ _ _ hoit, hrest⟩, dict₁, IdxMap.zero, hns₁, fun a o _ _ _ _ q => old₁ a o q⟩
    rintro n s' ⟨h', tk, i, old, kvs, m', rfl, hi, rfl, he', hit', hdict, hmap, hns, hold⟩
    by_cases hlt : i < b.size
    · have hc : b[i]? = some b[i] := Array.getElem?_eq_getElem hlt
      refine enum_item hh he' hit' hc hei fun h₂ T ti tc x tk₂ heO hit₂ hT hTe hTi hk₂ => ?_
      dsimp only
      refine wpAny_letOwnedTupleGo_enum heO fun h₃ he₃ hs₃ => ?_
      have hit₃ : KBw.IsBytesIter h₃ it b t (i + 1) := let ⟨o, ho, r⟩ := hit₂; ⟨o, (hs₃.2 it (Ne.symm hei)).trans ho, r⟩
      have hT₃ : h₃.IsTuple T #[.int (i : Int) ti, .int (b[i].toNat : Int) tc] := ⟨_, (hs₃.2 T hTe).trans hT, rfl, 0, rfl⟩
      have k₃ : ∀ a o, a ≠ e → a ≠ it → h'.get? a = some o → h₃.get? a = some o := fun a o n1 n2 q => hs₃.extBut a o n1 (hk₂ a o n1 n2 q)
      have hns₃ : h₃.Ns C m' := hns.at' fun o q => k₃ C o (Ne.symm heD.2) (Ne.symm hitD.2) q
      refine kcp_assign (env := compEnvC scope cl C env) hh hT₃ (lookup_relabel_local hix) (lookup_relabel_local hch) (by simp [compEnvC, relabel, hkind]) hns₃ fun h₄ tk₄ hns₄ hk₄ => ?_
      refine ldVarK (v := .int (b[i].toNat : Int) tc) hns₄ (by simp) ?_ (by show scope.kind = _; exact hkind) (lookup_relabel_local hch) d2
      refine ldVarK (v := .int (i : Int) ti) hns₄ (by simp [hne]) ?_ (by show scope.kind = _; exact hkind) (lookup_relabel_local hix) d1
      have dict₄ : h₄.DictOf (intKind prog w) D kvs := hdict.at fun o q => hk₄ D o hDC (k₃ D o (Ne.symm heD.1) (Ne.symm hitD.1) q)
      have hlen := hmap.len hi
      refine wpAny_dictSet_pairs (k := (b[i].toNat : Int)) (hsz := by rw [sizeLine_eq]; omega) (by first | exact decide_eq_true rfl | simp [intKind] | simp [intKind, PySem.Value.isInt] | (show _ = true; unfold intKind; simp) | trace_state) dict₄ fun h₅ hd₅ hs₅ => ?_
      have he₅ : IsEnum h₅ e it (((i + 1 : Nat)) : Int) x := hs₅.extBut e _ heD.1 (hk₄ e _ heD.2 he₃)
      refine ⟨b.size + 1 - (i + 1), by omega, h₅, _, i + 1, x, stored kvs (b[i].toNat : Int) (.int (i : Int) ti), _, rfl, hlt, rfl, he₅, ?_, hd₅, hmap.step hdis hc, hns₄.sameBut hs₅ (Ne.symm hDC), fun a o n1 n2 n3 n4 q => ?_⟩
      · obtain ⟨o, ho, r⟩ := hit₃
        exact ⟨o, hs₅.extBut it o hitD.1 (hk₄ it o hitD.2 ho), r⟩
      · exact hs₅.extBut a o n3 (hk₄ a o n4 (k₃ a o n1 n2 (hold a o n1 n2 n3 n4 q)))
    · obtain rfl : i = b.size := by omega
      refine enum_end hh he' hit' fun h₂ hx => ?_
      show ∃ m, _
      refine ⟨m', hns.at' fun o q => hx C o (Ne.symm hitD.2) q, fun h'' hs'' => ?_⟩
      exact hQ D h'' tk kvs hD.symm ((hdict.at fun o q => hx D o (Ne.symm hitD.1) q).at fun o q => hs''.extBut D o hDC q) hmap fun a o n1 n2 q => hs''.extBut a o (apart q).2 (hx a o n2 (hold a o n1 n2 (apart q).1 (apart q).2 q))
  exact codeAny_compStart_dict (loop _ rfl) (wpAny_pyIter_enum (old₁ _ _ he) (loop _ rfl))
end
end Mine
end

section
open PySem PySem.W PyProof.Rows
set_option linter.unusedVariables false
set_option maxRecDepth 100000
namespace Mine
section
variable {prog : Program} {w : World} {A : Around} {E : Value → Shared → Prop} {s : Shared} {h₀ : Heap} {L : Addr} {news : List (Addr × Obj)} {m : PySem.Str → Option Value}

theorem enum_end_K {b : Array UInt8} {t : Tok} {Q : Value → Shared → Prop} (F : Fr h₀ L s.heap m) (N : News h₀ L s.heap news) (hn : h₀.NoLimit) (hsz : b.size ≤ 1000) (hdis : (KBw.bInts b).Nodup)
    (h : ∀ D o h' tk kvs, Fr h₀ L h' m → News h₀ L h' ((D, o) :: news) → o.IsDictOf (intKind prog w) kvs → IdxMap b kvs b.size → (D == sysModules) = false → (∀ p ∈ news, p.1 < D) → Q (.ref D) { s with heap := h', toks := tk }) :
    wpAny (model prog w) A (call (.type "enumerate") [.bytes b t]) (EnumPost prog w Q) E s := by
  refine call_enum_bytes fun h' e it hne n1 n2 he hit hk => ⟨e, it, b, t, rfl, hne, he, hit, hsz, hdis, fun D h'' tk kvs hD hdict hmap hold => ?_⟩
  subst hD
  dsimp only at *
  have F1 : Fr h₀ L h' m := F.kept hk
  have N1 : News h₀ L h' news := N.keepsAll hk
  have keep : ∀ b o, s.heap.get? b = some o → h''.get? b = some o := fun b o q => hold b o (fun z => by rw [z, n1] at q; cases q) (fun z => by rw [z, n2] at q; cases q) (hk b o q)
  have F2 : Fr h₀ L h'' m := F.kept keep
  have N2 : News h₀ L h'' news := N.keepsAll keep
  obtain ⟨o, ho, hd⟩ := Heap.dictOf_iff.mp hdict
  refine h _ o h'' tk kvs F2 ?_ hd hmap (F1.notModules (modules_low hn)) (fun p hp => Heap.lt_size (N1 p hp).1)
  intro p hp
  rcases List.mem_cons.mp hp with rfl | hp
  · exact ⟨ho, fun q => absurd q (Nat.ne_of_gt F1.ns.lt), F1.fresh⟩
  · exact N2 p hp

theorem sub_found {b : Array UInt8} {kvs : List (Int × Value)} {D : Addr} {o : Obj} {k : Int} {j : Nat} {tk : Tok} {Q : Value → Shared → Prop} (N : News h₀ L s.heap news) (hm : (D, o) ∈ news) (hd : o.IsDictOf (intKind prog w) kvs)
    (x : IdxMap b kvs b.size) (hdis : (KBw.bInts b).Nodup) (hj : (KBw.bInts b)[j]? = some k) (h : ∀ t tk, Q (.int (j : Int) t) { s with toks := tk }) :
    wpAny (model prog w) A (getItem (.ref D) (.int k tk)) Q E s := by
  have hnd : (kvs.map (·.1)).Nodup := by rw [x.1, ← KBw.ints_length, List.take_length]; exact hdis
  obtain ⟨t, ht⟩ := x.found hnd hj
  exact wpAny_getItem_of (knd := intKind prog w) (k := k) (by simp [intKind, PySem.Value.isInt]) (Heap.dictOf_iff.mpr ⟨o, (N _ hm).1, hd⟩).mapOf ht (h _ _)
theorem sub_missing {b : Array UInt8} {kvs : List (Int × Value)} {D : Addr} {o : Obj} {k : Int} {tk : Tok} {Q : Value → Shared → Prop} (N : News h₀ L s.heap news) (hm : (D, o) ∈ news) (hd : o.IsDictOf (intKind prog w) kvs)
    (lo : (D == sysModules) = false) (hh : A.handled = none) (x : IdxMap b kvs b.size) (hk : k ∉ KBw.bInts b) (h : ∀ h' e, Heap.NewExc s.heap h' e "KeyError" → E (.ref e) { s with heap := h', toks := s.toks + 1 }) :
    wpAny (model prog w) A (getItem (.ref D) (.int k tk)) Q E s :=
  wpAny_getItem_missing_of (knd := intKind prog w) (k := k) (by simp [intKind, PySem.Value.isInt]) lo hh (Heap.dictOf_iff.mpr ⟨o, (N _ hm).1, hd⟩).mapOf (x.missing hk) h
theorem at_found {value slice : PySem.Expr} {b : Array UInt8} {kvs : List (Int × Value)} {D : Addr} {o : Obj} {k : Int} {j : Nat} {tk : Tok} {Q : Value → Shared → Prop} (N : News h₀ L s.heap news) (hm : (D, o) ∈ news) (hd : o.IsDictOf (intKind prog w) kvs)
    (x : IdxMap b kvs b.size) (hdis : (KBw.bInts b).Nodup) (hj : (KBw.bInts b)[j]? = some k) (h : ∀ t tk, Q (.int (j : Int) t) { s with toks := tk })
    (hs : subscripted slice false (.ref D) (.int k tk) = operate [.ref D, .int k tk] (getItem (.ref D) (.int k tk))) (ht : ∀ r, letTemporaryGo value (.ref D) r = pure ()) :
    wpAny (model prog w) A (subscriptTail value slice (.ref D) (.int k tk)) Q E s :=
  subscriptTail_builtin (Heap.dictOf_iff.mpr ⟨o, (N _ hm).1, hd⟩ : s.heap.DictOf (intKind prog w) D kvs).typeIs slot_dict_getitem.lookup (sub_found N hm hd x hdis hj h) hs ht
theorem at_missing {value slice : PySem.Expr} {b : Array UInt8} {kvs : List (Int × Value)} {D : Addr} {o : Obj} {k : Int} {tk : Tok} {Q : Value → Shared → Prop} (N : News h₀ L s.heap news) (hm : (D, o) ∈ news) (hd : o.IsDictOf (intKind prog w) kvs)
    (lo : (D == sysModules) = false) (hh : A.handled = none) (x : IdxMap b kvs b.size) (hk : k ∉ KBw.bInts b) (h : ∀ h' e, Heap.NewExc s.heap h' e "KeyError" → E (.ref e) { s with heap := h', toks := s.toks + 1 })
    (hs : subscripted slice false (.ref D) (.int k tk) = operate [.ref D, .int k tk] (getItem (.ref D) (.int k tk))) (ht : ∀ r, letTemporaryGo value (.ref D) r = pure ()) :
    wpAny (model prog w) A (subscriptTail value slice (.ref D) (.int k tk)) Q E s :=
  subscriptTail_builtin (Heap.dictOf_iff.mpr ⟨o, (N _ hm).1, hd⟩ : s.heap.DictOf (intKind prog w) D kvs).typeIs slot_dict_getitem.lookup (sub_missing N hm hd lo hh x hk h) hs ht
end
end Mine
end

section
open PySem PySem.W PyProof.Rows
set_option linter.unusedVariables false
set_option maxRecDepth 100000
namespace Mine
/-- what the digits read -/
def decI (ks : List Int) : Int := ks.foldl (fun a k => a * 58 + (((k - 49).toNat : Nat) : Int)) 0
theorem alpha_dis : (KBw.bInts alpha).Nodup := by decide +kernel
theorem alpha_at {k : Int} (h : 49 ≤ k ∧ k ≤ 57) : (KBw.bInts alpha)[(k - 49).toNat]? = some k := by
  have h' : k = 49 ∨ k = 50 ∨ k = 51 ∨ k = 52 ∨ k = 53 ∨ k = 54 ∨ k = 55 ∨ k = 56 ∨ k = 57 := by omega
  rcases h' with rfl | rfl | rfl | rfl | rfl | rfl | rfl | rfl | rfl <;> decide +kernel
theorem good_at {ks : List Int} {k : Int} (hg : ∀ k ∈ ks, 49 ≤ k ∧ k ≤ 57) (hm : k ∈ ks) : (KBw.bInts alpha)[(k - 49).toNat]? = some k := alpha_at (hg k hm)
theorem not_alpha_48 : (48 : Int) ∉ KBw.bInts alpha := by decide +kernel
theorem alpha_low : ∀ k ∈ KBw.bInts alpha, k < 128 := by decide +kernel
theorem not_alpha {k : Int} (h : k = 48 ∨ 128 ≤ k) : k ∉ KBw.bInts alpha := by
  rcases h with rfl | h
  · exact not_alpha_48
  · exact fun hm => absurd (alpha_low k hm) (by omega)
theorem own_l {p : Addr × Obj} {news own : List (Addr × Obj)} : ∀ q ∈ p :: news, q ∈ p :: (news ++ own) := fun q hq => by
  rcases List.mem_cons.mp hq with rfl | r
  · exact .head _
  · exact .tail _ (List.mem_append_left _ r)
theorem own_r {p : Addr × Obj} {news own : List (Addr × Obj)} : ∀ q ∈ own, q ∈ p :: (news ++ own) := fun q hq => .tail _ (List.mem_append_right _ hq)
theorem decI_eq (ks : List Int) : ks.foldl (fun a k => a * ((alpha.size : Nat) : Int) + (((k - 49).toNat : Nat) : Int)) 0 = decI ks := rfl
def good (k : Int) : Bool := decide (49 ≤ k ∧ k ≤ 57)
def bad (k : Int) : Prop := k = 48 ∨ 128 ≤ k
def flagG (p : Int × Bool) (k : Int) : Int × Bool := (p.1 * ((alpha.size : Nat) : Int) + (((k - 49).toNat : Nat) : Int), p.2 && good k)
theorem flag_all {ks : List Int} {p : Int × Bool} (h : (ks.foldl flagG p).2 = true) : ∀ k ∈ ks, good k = true := by
  induction ks generalizing p with
  | nil => intro k hk; cases hk
  | cons a r ih =>
    intro k hk
    rcases List.mem_cons.mp hk with rfl | hk
    · have mono : ∀ (r : List Int) (q : Int × Bool), (r.foldl flagG q).2 = true → q.2 = true := by
        intro r
        induction r with
        | nil => intro q h; exact h
        | cons b r ih2 =>
          intro q h
          have := ih2 _ h
          simp only [flagG, Bool.and_eq_true] at this
          exact this.1
      have := mono r _ h
      simp only [flagG, Bool.and_eq_true] at this
      exact this.2
    · exact ih h k hk
theorem good_of {k : Int} (h : good k = true) : 49 ≤ k ∧ k ≤ 57 := of_decide_eq_true h
theorem flag_none {ks : List Int} {p : Int × Bool} {P : Prop} (hb : ∃ k ∈ ks, bad k) (h : (ks.foldl flagG p).2 = true) : P := by
  obtain ⟨k, hk, hb⟩ := hb
  have := good_of (flag_all h k hk)
  unfold bad at hb
  omega

section
variable {prog : Program} {w : World} {A : Around} {E : Value → Shared → Prop} {s : Shared} {env : Env} {h₀ : Heap} {x y : PySem.Str} {body : List Stmt} {Q : Flow → Shared → Prop} {b : Array UInt8} {tb tc : Tok} {ks : List Int}
  {m₀ : PySem.Str → Option Value} {news : List (Addr × Obj)}
theorem iter_flag (hk : KBw.bInts b = ks) (hh : A.handled = none) (F : Fr h₀ env.locals s.heap m₀) (N : News h₀ env.locals s.heap news) (hy : m₀ y = some (.int 0 tc)) (hb : ∃ k ∈ ks, bad k) (hg : ∀ k ∈ ks, good k = true ∨ bad k) (hxy : x ≠ y)
    (turnG : ∀ k t a ta h tk own, k ∈ ks → 49 ≤ k ∧ k ≤ 57 → OwnOff own (news.map (·.1)) → Fr h₀ env.locals h (fun z => if z = x then some (.int k t) else if z = y then some (.int a ta) else m₀ z) → News h₀ env.locals h (news ++ own) →
      wpAny (model prog w) A (execs body env) (InvPostN h₀ env.locals (fun m' nx => nx = news ∧ (∃ t', m' y = some (.int (a * ((alpha.size : Nat) : Int) + (((k - 49).toNat : Nat) : Int)) t')) ∧ ∀ z, z ≠ x → z ≠ y → m' z = m₀ z) own (news.map (·.1)) { s with heap := h, toks := tk } Q) E { s with heap := h, toks := tk })
    (turnB : ∀ k t a ta h tk own J, k ∈ ks → bad k → OwnOff own (news.map (·.1)) → Fr h₀ env.locals h (fun z => if z = x then some (.int k t) else if z = y then some (.int a ta) else m₀ z) → News h₀ env.locals h (news ++ own) →
      wpAny (model prog w) A (execs body env) (InvPostN h₀ env.locals J own (news.map (·.1)) { s with heap := h, toks := tk } Q) E { s with heap := h, toks := tk }) :
    wpAny (model prog w) A (pyIter (.bytes b tb)) (fun it s₂ => LoopAtV prog w A h₀ env x body Q E it s₂) E s := by
  refine KBw.iter_bytesS (fun (p : Int × Bool) m nx => p.2 = true ∧ nx = news ∧ (∃ t, m y = some (.int p.1 t)) ∧ ∀ z, z ≠ x → z ≠ y → m z = m₀ z) flagG (0, true) hk hh F N ⟨rfl, rfl, ⟨tc, hy⟩, fun _ _ _ => rfl⟩ ?_ ?_
  · rintro k t ⟨a, f⟩ m₁ nx h tk own hm0 h0 h1 hoff ⟨hf, rfl, ⟨ta, ha⟩, hm⟩ F₁ N₁
    have em : (fun y' : PySem.Str => if y' = x then some (.int k t) else m₁ y') = (fun z : PySem.Str => if z = x then some (.int k t) else if z = y then some (.int a ta) else m₀ z) := by
      funext z
      by_cases e1 : z = x
      · simp [e1]
      · simp only [if_neg e1]
        by_cases e2 : z = y
        · rw [if_pos e2, e2, ha]
        · rw [if_neg e2, hm z e1 e2]
    rw [em] at F₁
    cases hq : good k with
    | false =>
      have hbad : bad k := (hg k hm0).resolve_left (by rw [hq]; exact Bool.false_ne_true)
      exact turnB k t a ta h tk own _ hm0 hbad hoff F₁ N₁
    | true =>
      have e : (fun m' nx' => (flagG (a, f) k).2 = true ∧ nx' = nx ∧ (∃ t', m' y = some (.int (flagG (a, f) k).1 t')) ∧ ∀ z, z ≠ x → z ≠ y → m' z = m₀ z) = (fun (m' : PySem.Str → Option Value) (nx' : List (Addr × Obj)) => nx' = nx ∧ (∃ t', m' y = some (.int (a * ((alpha.size : Nat) : Int) + (((k - 49).toNat : Nat) : Int)) t')) ∧ ∀ z, z ≠ x → z ≠ y → m' z = m₀ z) := by
        funext m' nx'
        have : (flagG (a, f) k).2 = true := by simp only [flagG, hq, Bool.and_true]; exact hf
        exact propext ⟨fun q => q.2, fun q => ⟨this, q⟩⟩
      show wpAny _ _ _ (InvPostN h₀ env.locals (fun m' nx' => (flagG (a, f) k).2 = true ∧ nx' = nx ∧ (∃ t', m' y = some (.int (flagG (a, f) k).1 t')) ∧ ∀ z, z ≠ x → z ≠ y → m' z = m₀ z) own (nx.map (·.1)) _ Q) E _
      rw [e]
      exact turnG k t a ta h tk own hm0 (good_of hq) hoff F₁ N₁
  · rintro m₁ nx h tk ⟨hf, rfl, _, _⟩ F₁ N₁
    exact flag_none hb hf
end
end Mine
end

section
open PySem PySem.W PyProof.Rows
set_option linter.unusedVariables false
set_option maxRecDepth 100000
namespace Mine
def KeyAt (h base : Heap) (e : Addr) (cls fl : Value) : Prop :=
  ∃ oe vs T oT ts, h.get? e = some oe ∧ oe.cls = cls ∧ oe.data = .fields vs ∧ vs[1]? = some (.ref T) ∧ vs[2]? = some .none ∧ base.get? T = none ∧ T ≠ e ∧ h.get? T = some oT ∧ oT.data = .fields ts ∧ ts[3]? = some fl
def KeyHeld (base : Heap) (l : List Env) (e : Addr) (cls fl : Value) (h : Heap) : Prop := base.StaysIn h ∧ base.get? e = none ∧ h.FunFrames base l ∧ KeyAt h base e cls fl

/-- of two heaps: the second is the first, but for the record at T, which holds ts -/
structure Reset (h h' : Heap) (T : Addr) (cls : Value) (ts : Array Value) : Prop where
  was : ∃ o vs, h.get? T = some o ∧ o.data = .fields vs
  now : ∃ o, h'.get? T = some o ∧ o.cls = cls ∧ o.data = .fields ts
  rest : ∀ b, b ≠ T → h'.get? b = h.get? b
theorem Reset.stays {h h' base : Heap} {T : Addr} {cls : Value} {ts : Array Value} (r : Reset h h' T cls ts) (n : base.get? T = none) (k : base.StaysIn h) : base.StaysIn h' := fun b o hb => by
  rw [r.rest b (by rintro rfl; rw [n] at hb; cases hb)]
  exact k b o hb
theorem Reset.up {h h' : Heap} {T : Addr} {cls : Value} {ts : Array Value} (r : Reset h h' T cls ts) : h.UpToSlots h' := fun b o hb hn => by
  obtain ⟨o', vs, h1, h2⟩ := r.was
  refine ⟨o.slots, (r.rest b ?_).trans hb⟩
  rintro rfl
  rw [h1] at hb
  exact hn vs (by rw [← Option.some.inj hb]; exact h2)
theorem up_frames {h h' base : Heap} {l : List Env} (u : h.UpToSlots h') (f : h.FunFrames base l) : h'.FunFrames base l :=
  f.of_keeps fun b o hb hn => by
    obtain ⟨sl, e⟩ := u b o hb hn
    exact ⟨_, e, rfl⟩

section
variable {M : Model} {A : Around} {E : Value → Shared → Prop} {s : Shared}
theorem set_rec {T : Addr} {o : Obj} {ts : Array Value} {i : Nat} {x : Value} {Q : Unit → Shared → Prop} (h1 : s.heap.get? T = some o) (h2 : o.data = .fields ts) (h3 : i < ts.size)
    (h : ∀ h', Reset s.heap h' T o.cls (ts.setIfInBounds i x) → Q () { s with heap := h' }) : wpAny M A (setField (.ref T) i x) Q E s :=
  wpAny_setField h1 h2 h3 (h _ ⟨⟨o, ts, h1, h2⟩, ⟨_, Heap.get?_update_self _ h1 (Obj.isFreed_of_fields (Obj.data_mapFields h2 _)), Obj.cls_mapFields _ _, Obj.data_mapFields h2 _⟩, fun b hb => Heap.get?_update_other _ _ (Ne.symm hb)⟩)

/-- the flight of an exception that has an entry -/
theorem flight_rec {e T : Addr} {oe oT : Obj} {vs ts : Array Value} {a0 : Value} {f : Option Addr} {Q : Unit → Shared → Prop} (h1 : s.heap.get? e = some oe) (h2 : oe.data = .fields vs) (h3 : vs[1]? = some (.ref T))
    (h4 : s.heap.get? T = some oT) (h5 : oT.data = .fields ts) (h6 : ts[3]? = some a0)
    (h : ∀ h', Reset s.heap h' T oT.cls (ts.setIfInBounds 3 (f.elim Value.none fun q => rawInt q)) → Q () { s with heap := h' }) : wpAny M A (setFlight (.ref e) f) Q E s := by
  unfold setFlight
  refine wpAny_bind (wpAny_field h1 h2 h3 ?_)
  rw [if_pos (show (Value.ref T != Value.none) = true from by simp)]
  exact set_rec h4 h5 (Array.getElem?_eq_some_iff.mp h6).1 h

theorem put_three {ts : Array Value} {a0 x : Value} (h : ts[3]? = some a0) : (ts.setIfInBounds 3 x)[3]? = some x := by
  have := (Array.getElem?_eq_some_iff.mp h).1
  simp [this]

theorem key_lands {base : Heap} {l : List Env} {e : Addr} {cls fl : Value} {Q : Unit → Shared → Prop} (hh : KeyHeld base l e cls fl s.heap)
    (hQ : ∀ h', KeyHeld base l e cls .none h' → s.heap.UpToSlots h' → Q () { s with heap := h' }) : wpAny M A (setFlight (.ref e) none) Q E s := by
  obtain ⟨k1, k2, k3, oe, vs, T, oT, ts, g1, g2, g3, g4, g5, g6, g7, g8, g9, g10⟩ := hh
  refine flight_rec g1 g3 g4 g8 g9 g10 fun h' r => hQ h' ⟨r.stays g6 k1, k2, up_frames r.up k3, ?_⟩ r.up
  obtain ⟨o, n1, _, n3⟩ := r.now
  exact ⟨oe, vs, T, o, _, (r.rest e (Ne.symm g7)).trans g1, g2, g3, g4, g5, g6, g7, n1, n3, put_three g10⟩

/-- the flight is set to a frame: an exception that is held stays held -/
theorem held_flight {base : Heap} {l : List Env} {L e : Addr} {cls a0 : Value} {Q : Unit → Shared → Prop} (hh : Heap.HeldW base l e cls a0 L s.heap)
    (hQ : ∀ h', Heap.HeldW base l e cls a0 L h' → s.heap.UpToSlots h' → Q () { s with heap := h' }) : wpAny M A (setFlight (.ref e) (some L)) Q E s := by
  obtain ⟨k1, k2, k3, oe, vs, T, oT, ts, g1, g2, g3, g4, g6, g7, g8, g9, g10⟩ := hh
  refine flight_rec g1 g3 g4 g8 g9 g10 fun h' r => hQ h' ⟨r.stays g6 k1, k2, up_frames r.up k3, ?_⟩ r.up
  obtain ⟨o, n1, _, n3⟩ := r.now
  exact ⟨oe, vs, T, o, _, (r.rest e (Ne.symm g7)).trans g1, g2, g3, g4, g6, g7, n1, n3, put_three g10⟩

/-- the first entry of an exception that has no cause: made, and set into its second field -/
theorem entry_key {base : Heap} {env : Env} {outer : List Env} {L e : Addr} {oe : Obj} {vs : Array Value} {head : Value} {hadNext : Bool} {Q : Unit → Shared → Prop}
    (hfr : A.frames = some (env :: outer)) (hl : s.heap.FunFrames base (env :: outer)) (hf : env.frame = some L)
    (he : s.heap.get? e = some oe) (hkb : base.StaysIn s.heap) (hen : base.get? e = none) (hd : oe.data = .fields vs) (hsz : 1 < vs.size) (h2 : vs[2]? = some .none)
    (h : ∀ h', KeyHeld base (env :: outer) e oe.cls (rawInt L) h' → s.heap.UpToSlots h' → Q () { s with heap := h' }) :
    wpAny M A (do let a ← frameOf env; let pl ← entryPlaceOf L hadNext; let b ← EntryCells.newEntry head a .none (rawInt L) .none pl; setField (.ref e) 1 b) Q E s := by
  refine wpAny_bind (wpAny_frameOf_fun hfr hl hf fun h₁ so => ?_)
  have noFrame : ∀ b o, s.heap.get? b = some o → (b ∈ (env :: outer).filterMap (·.frame)) → ∀ ws, o.data ≠ .fields ws := fun b o hb hm => by
    obtain ⟨_, o', q1, q2⟩ := hl.mem hm
    rw [hb] at q1
    cases q1
    exact q2
  have e₁ : h₁.get? e = some oe := (so.2.1 e fun hm => noFrame e oe he hm vs hd).trans he
  have u₁ : s.heap.UpToSlots h₁ := fun b o hb _ => so.2.2 b o hb
  have b₁ : base.StaysIn h₁ := fun b o hb => (so.2.1 b fun hm => by
    have := (hl.mem hm).1
    rw [hb] at this
    cases this).trans (hkb b o hb)
  refine wpAny_bind (wpAny_entryPlaceOf fun pl hpl => ?_)
  unfold EntryCells.newEntry newFields
  refine wpAny_bind (wpAny_newObj_type ?_ (hpl.sizeOk5 _ _ _ _ _))
  have grow : ∀ b o, h₁.get? b = some o → (h₁.push { cls := .type "traceback", dict := none, data := .fields ([head, .ref L, .none, rawInt L, .none] ++ (if pl.isEmpty then List.replicate 6 Value.none else pl)).toArray }).get? b = some o := fun b o hb => Heap.get?_push_of_some _ hb
  have ne : h₁.objs.size ≠ e := Nat.ne_of_gt (Heap.lt_size e₁)
  refine set_rec (grow e oe e₁) hd hsz fun h' r => ?_
  have up := u₁.trans ((Heap.UpToSlots.of_keeps grow).trans r.up)
  obtain ⟨o, n1, n2, n3⟩ := r.now
  refine h h' ⟨r.stays hen (fun b o hb => grow b o (b₁ b o hb)), hen, up_frames up hl, o, _, h₁.objs.size, _, _, n1, n2, n3, by simp [hsz], ?_, b₁.fresh, ne, (r.rest _ ne).trans (Heap.get?_push_size h₁ rfl), rfl, ?_⟩ up
  · rw [Array.getElem?_setIfInBounds_ne (by decide)]
    exact h2
  · rcases hpl with rfl | ⟨_, _, _, _, _, _, _, rfl⟩ <;> simp
end
end Mine
end

section
open PySem PySem.W PyProof.Rows
set_option linter.unusedVariables false
set_option maxRecDepth 100000
namespace Mine
theorem entry_unchain : entryFor table "proto.unchain" = some Builtin.«proto.unchain» := entryFor_of_tree (by kernel_rfl)

/-- an object of fields that is new over a heap -/
structure Exg (ob : Obj) (e : Addr) (vs : Array Value) (hp h : Heap) : Prop where
  at_ : h.get? e = some { ob with data := .fields vs }
  keeps : ∀ b o, hp.get? b = some o → h.get? b = some o
  new : hp.get? e = none

section
variable {M : Model} {A : Around} {E : Value → Shared → Prop} {s : Shared} {e : Addr} {vs : Array Value} {hp : Heap} {ob : Obj}
theorem Exg.upd {f : Array Value → Array Value} {h : Heap} (K : Exg ob e vs hp h) : Exg ob e (f vs) hp (h.update e (Obj.mapFields f)) :=
  ⟨Heap.get?_update_self (Obj.mapFields f) K.at_ rfl, fun b o hb => by
    rw [Heap.get?_update_other _ _ (fun q => by rw [← q, K.new] at hb; cases hb)]
    exact K.keeps b o hb, K.new⟩
theorem g_setField {i : Nat} {x : Value} {Q : Unit → Shared → Prop} (K : Exg ob e vs hp s.heap) (hi : i < vs.size) (h : ∀ h', Exg ob e (vs.setIfInBounds i x) hp h' → Q () { s with heap := h' }) :
    wpAny M A (setField (.ref e) i x) Q E s := wpAny_setField K.at_ rfl hi (h _ (K.upd (f := (·.setIfInBounds i x))))
end

section
variable {prog : Program} {w : World} {A : Around} {E : Value → Shared → Prop} {s : Shared} {env : Env}

theorem unchain_none {v : Value} {k : Addr} {ok : Obj} {vk : Array Value} {Q : Value → Shared → Prop} (hk : s.heap.get? k = some ok) (hd : ok.data = .fields vk) (h2 : vk[2]? = some .none) (h : Q .none s) :
    wpAny (model prog w) A (runValue (.builtin "proto.unchain" ⟨[v, .ref k, .ref k, .bool false], []⟩)) Q E s := by
  refine wpAny_runValue (codeAny_builtin entry_unchain ?_)
  show wpAny _ _ (field (.ref k) 2 >>= _) _ _ _
  refine wpAny_bind (wpAny_field hk hd h2 ?_)
  rw [if_pos (by rfl)]
  exact wpAny_pure h

theorem raise_none {X N I : String} (hc : ExcClass X N I) {x : PySem.Expr} {kk : Nat} {p pos : Pos} {k : Addr} {Q : Flow → Shared → Prop} (hh : A.handled = some (.ref k))
    (h : wpAny (model prog w) A (eval x env) (fun v s₁ => ∃ a h₁ ok vk, v = .ref a ∧ Heap.NewExc h₁ s₁.heap a X ∧ h₁.get? k = some ok ∧ ok.data = .fields vk ∧ vk[2]? = some .none ∧
      ∀ h₂, NewExcF h₁ h₂ a X → E (.ref a) { s₁ with heap := h₂ }) E s) :
    wpAny (model prog w) A (exec (.Raise (some x) (some (.Constant .none kk p)) pos) env) Q E s := by
  show wpAny _ A (do standAt pos; raiseStmt env (some (do let v ← eval x env; standAt pos; pure v)) (some (do let v ← eval (.Constant .none kk p) env; standAt pos; pure v))) Q E s
  refine wpAny_bind (wpAny_standAt ?_)
  unfold raiseStmt
  dsimp only
  refine wpAny_bind (wpAny_bind (wpAny_mono h (fun v s₁ h₁ => wpAny_bind (wpAny_standAt (wpAny_pure ?_))) fun _ _ x => x))
  obtain ⟨a, hp, ok, vk, rfl, hx, hk, hkd, hk2, hE⟩ := h₁
  obtain ⟨ob, tp, ha, hcls, hd⟩ := hx.there
  have hak : a ≠ k := fun q => by rw [← q, hx.new] at hk; cases hk
  have K₀ : Exg ob a #[tp, .none, .none, .none, .bool false, .none] hp s₁.heap := ⟨by rw [ha]; cases ob; simp only at hd; subst hd; rfl, hx.keeps, hx.new⟩
  have hnt : ∀ {s₂ : Shared} {vs : Array Value} {Q' : Bool → Shared → Prop}, Exg ob a vs hp s₂.heap → Q' false s₂ → wpAny (model prog w) A (isType (.ref a)) Q' E s₂ := by
    intro s₂ vs Q' K hq
    simp only [isType, loadHead]
    refine wpAny_bind (wpAny_loadPart K.at_ ?_)
    exact wpAny_pure hq
  have hT : ∀ {s₂ : Shared} {vs : Array Value}, Exg ob a vs hp s₂.heap → s₂.TypeIs (.ref a) X := fun K => ⟨_, K.at_, hcls⟩
  refine wpAny_bind (wpAny_holding ?_)
  refine wpAny_bind (m := eval (.Constant .none kk p) env) (wpAny_pure (wpAny_bind (wpAny_standAt (wpAny_pure ?_))))
  refine wpAny_bind (wpAny_pure ?_)
  dsimp only
  refine wpAny_bind (wpAny_holding ?_)
  unfold excFromValue isExcClass
  refine wpAny_bind (wpAny_bind (hnt K₀ ?_))
  simp only [Bool.false_eq_true, if_false]
  refine wpAny_pure ?_
  simp only [Bool.false_eq_true, if_false]
  refine wpAny_bind (wpAny_isInstance (hT K₀) hc.base ?_)
  simp only [if_true]
  refine wpAny_pure ?_
  rw [if_pos (show (Value.none == Value.none) = true from rfl)]
  refine wpAny_bind (wpAny_pure (wpAny_bind (g_setField K₀ (by simp) fun h₃ K₃ => wpAny_bind (g_setField K₃ (by simp) fun h₄ K₄ => ?_))))
  refine wpAny_bind (hnt K₄ ?_)
  simp only [Bool.false_eq_true, if_false]
  unfold raisedInstance
  refine wpAny_bind (wpAny_bind (wpAny_typeOf (hT K₄) (wpAny_bind (m := typeOf (.type X)) (wpAny_pure ?_))))
  rw [if_pos hc.metaType]
  refine wpAny_pure ?_
  unfold setFlight raiseNew
  refine wpAny_bind (wpAny_bind (wpAny_field K₄.at_ rfl (x := .none) (by simp) ?_))
  rw [if_neg (by decide)]
  refine wpAny_pure (wpAny_bind (wpAny_handled ?_))
  rw [hh]
  dsimp only
  rw [if_pos (show (Value.ref k != Value.ref a) = true from by simp [Ne.symm hak])]
  refine wpAny_bind (wpAny_holding (unchain_none (K₄.keeps _ _ hk) hkd hk2 ?_))

  refine wpAny_bind (m := updateField a 2 (.ref k)) (g_setField (x := .ref k) K₄ (by simp) fun h₅ K₅ => ?_)
  refine wpAny_throw (hE h₅ ⟨K₅.keeps, K₅.new, _, _, tp, K₅.at_, hcls, rfl, by simp, by simp⟩)
end
end Mine
end

section
open PySem PySem.W PyProof.Rows
set_option linter.unusedVariables false
set_option maxRecDepth 100000
namespace Mine
theorem frames_still {h h' base : Heap} (k : ∀ b o, h.get? b = some o → (∀ vs, o.data ≠ .fields vs) → ∃ o', h'.get? b = some o' ∧ ∀ vs, o'.data ≠ .fields vs) : ∀ {l : List Env}, h.FunFrames base l → h'.FunFrames base l
  | [], _ => trivial
  | env :: rest, hl => by
    obtain ⟨hk, ⟨L, o, hf, hn, ho, hd⟩, hr⟩ := hl
    obtain ⟨o', ho', hd'⟩ := k L o ho hd
    exact ⟨hk, ⟨L, o', hf, hn, ho', hd'⟩, frames_still k hr⟩

section
variable {A : Around} {base g h hh : Heap} {outer : List Env} {L a e : Addr} {m : PySem.Str → Option Value} {name : PySem.Str} {scope : Scope} {cd : Value} {news : List (Addr × Obj)}

structure HideFacts (base g h hh H : Heap) (env : Env) (outer : List Env) (L e : Addr) (news : List (Addr × Obj)) : Prop where
  base_ : base.StaysIn H
  ground : ∀ b o, g.get? b = some o → b ∉ outer.filterMap (·.frame) → H.get? b = some o
  news_ : ∀ q ∈ news, H.get? q.1 = some q.2 ∧ g.get? q.1 = none ∧ base.get? q.1 = none
  fresh : H.get? e = none
  frames : hh.FunFrames H (env :: outer)
  here : H.StaysIn hh
  off : ∀ b o, h.get? b = some o → b ∉ (env :: outer).filterMap (·.frame) → H.get? b = some o
  self : H.get? L = none

theorem hide_facts (K : Below A base outer g) (F : Fr g L h m) (N : News g L h news) (hk : scope.kind = .function) (keeps : ∀ b o, h.get? b = some o → hh.get? b = some o) (new : h.get? e = none) :
    HideFacts base g h hh (hideAll h ((envOf name scope L a cd :: outer).filterMap (·.frame))) (envOf name scope L a cd) outer L e news := by
  have P := K.push (name := name) (a := a) (cd := cd) F hk
  let fs := (envOf name scope L a cd :: outer).filterMap (·.frame)
  have selfFree : g.get? L = none := kts_self F
  have stays : ∀ b o, h.get? b = some o → b ∉ fs → (hideAll h fs).get? b = some o := fun b o q n => hideAll_get fs q n
  refine ⟨fun b o q => stays b o (P.stays b o q) fun hm => ?_, fun b o q n => stays b o (F.keep b o q) fun hm => ?_, fun q hq => ?_, ?_, ?_, fun b o q => keeps b o (of_hideAll fs q), stays, hideAll_none _ (by simp [envOf])⟩
  · have := (P.frames.mem hm).1
    rw [q] at this
    cases this
  · rcases kts_mem hm with z | z
    · subst z
      rw [selfFree] at q
      cases q
    · exact n z
  · obtain ⟨n1, n2, n3⟩ := N q hq
    refine ⟨stays _ _ n1 fun hm => ?_, n3, fresh_of_stays K.stays n3⟩
    rcases kts_mem hm with z | z
    · exact n2 z
    · obtain ⟨_, o, ho, _⟩ := K.frames.mem z
      rw [n3] at ho
      cases ho
  · cases q : (hideAll h fs).get? e with
    | none => rfl
    | some o =>
      have z := of_hideAll fs q
      rw [new] at z
      cases z
  · exact (funFrames_hide (as := fs) P.frames fun env he b hb => List.mem_filterMap.mpr ⟨env, he, hb⟩).of_keeps fun b o hb _ => ⟨o, keeps b o hb, rfl⟩
end

/-- an exception that its own frame holds, seen from the ground of that frame -/
def HeldX (base g : Heap) (env : Env) (outer : List Env) (L e : Addr) (cls : Value) (news : List (Addr × Obj)) (h : Heap) : Prop :=
  ∃ B a0, base.StaysIn B ∧ (∀ b o, g.get? b = some o → b ∉ outer.filterMap (·.frame) → B.get? b = some o) ∧ (∀ q ∈ news, B.get? q.1 = some q.2 ∧ g.get? q.1 = none ∧ base.get? q.1 = none) ∧
    Heap.HeldW B (env :: outer) e cls a0 L h ∧ g.UpToSlots h

section
variable {M : Model} {A : Around} {E : Value → Shared → Prop} {s : Shared} {base g : Heap} {outer : List Env} {L a e : Addr} {env : Env} {news : List (Addr × Obj)} {cls : Value}
theorem leave_heldX {Q : Unit → Shared → Prop} (hf : env.frame = some L) (R : HeldX base g env outer L e cls news s.heap)
    (hQ : ∀ h', RaisedSN base g outer e cls news h' → g.UpToSlots h' → Q () { s with heap := h' }) : wpAny M A (leaving env (.ref e)) Q E s := by
  obtain ⟨B, a0, b1, b2, b3, hh, sm⟩ := R
  unfold leaving
  refine wpAny_bind (wpAny_noteFrame_againW hf hh.2.2.2 ?_)
  refine wpAny_landsW hh fun h' hfl sm' => ?_
  obtain ⟨k1, k2, ⟨_, _, k3⟩, k4⟩ := hfl
  exact hQ h' ⟨B, a0, b1, b2, b3, k1, k2, k3, k4⟩ (sm.trans sm')
end
end Mine
end

section
open PySem PySem.W PyProof.Rows
set_option linter.unusedVariables false
set_option maxRecDepth 100000
namespace Mine
section
variable {prog : Program} {w : World} {A₀ A' : Around} {N : Value → Shared → Prop} {E : Value → Shared → Prop} {base g h : Heap} {outer : List Env} {L a : Addr} {m : PySem.Str → Option Value} {name : PySem.Str} {scope : Scope} {cd : Value} {news : List (Addr × Obj)}
  {n : PySem.Str} {pos : Pos}

/-- an exception made in the suite of an «except .. as n» goes out of it -/
theorem suite_out {cls : String} {s : Shared} {x : Addr} (K : Below A₀ base outer g) (F : Fr g L h m) (Nw : News g L h news) (hx : NewExcF h s.heap x cls) (hfr : A'.frames = some (envOf name scope L a cd :: outer))
    (hk : scope.kind = .function) (hl : (envOf name scope L a cd).kindOf n = some .local)
    (hN : ∀ h' tk, HeldX base g (envOf name scope L a cd) outer L x (.type cls) news h' → E (.ref x) { s with heap := h', toks := tk }) :
    AsSuiteRaised (model prog w) A' (envOf name scope L a cd) n pos (notedBy (model prog w) A' (envOf name scope L a cd) (cameBackBy (model prog w) (A₀.deeper (envOf name scope L a cd)) (envOf name scope L a cd) E)) (.ref x) s := by
  obtain ⟨ob, vs, a0, hat, hcls, hdat, h0, h1⟩ := hx.there
  have HF := hide_facts (name := name) (a := a) (cd := cd) (hh := s.heap) (e := x) K F Nw hk hx.keeps hx.new
  generalize hH : hideAll h ((envOf name scope L a cd :: outer).filterMap (·.frame)) = H at HF
  have sm₀ : g.UpToSlots s.heap := Heap.UpToSlots.of_keeps fun b o q => hx.keeps b o (F.keep b o q)
  unfold AsSuiteRaised noteFrame
  simp only [show (envOf name scope L a cd).frame = some L from rfl]
  refine wpAny_bind (wpAny_field hat hdat h1 ?_)
  rw [if_neg (by decide)]
  refine wpAny_entryW hfr HF.frames rfl hat HF.here HF.fresh hdat (Array.getElem?_eq_some_iff.mp h1).1 h0 fun h₈ hN₈ => ?_
  obtain ⟨k1, k2, k3, k4⟩ := hN₈
  have sm₈ : s.heap.UpToSlots h₈ := k4
  have ns₈ : h₈.Ns L m := sm₈.ns ((Heap.UpToSlots.of_keeps hx.keeps).ns F.ns)
  refine wpAny_nameGoes (env := envOf name scope L a cd) (m := m) hl ns₈ (by show (scope.kind == .class || (scope.kind == .module && _)) = false; rw [hk]; rfl) fun h₉ m₉ ns₉ sb₉ => ?_
  have sbL : ∀ b, b ≠ L → h₉.get? b = h₈.get? b := fun b hb => sb₉.2 b hb
  obtain ⟨o9, es9, ep9, ho9, hd9, _⟩ := id ns₉
  have L9 : ∀ vs, o9.data ≠ .fields vs := fun vs q => by rw [hd9] at q; cases q
  obtain ⟨o8, es8, ep8, ho8, hd8, _⟩ := id ns₈
  have H₉ : Heap.HeldW H (envOf name scope L a cd :: outer) x ob.cls a0 L h₉ := by
    refine ⟨fun b o hb => (sbL b fun q => by rw [q, HF.self] at hb; cases hb).trans (k1 b o hb), HF.fresh, frames_still (fun b o hb hnf => ?_) k2, ?_⟩
    · by_cases q : b = L
      · rw [q]; exact ⟨o9, ho9, L9⟩
      · exact ⟨o, (sbL b q).trans hb, hnf⟩
    · obtain ⟨oe, us, T, oT, ts, he, hc, hd, hu1, hnT, hTe, hT, hdT, h3⟩ := k3
      have neL : ∀ {b : Addr} {o : Obj} {us : Array Value}, h₈.get? b = some o → o.data = .fields us → b ≠ L := fun hb hdd q => by
        rw [q, ho8] at hb
        cases hb
        rw [hd8] at hdd
        cases hdd
      exact ⟨oe, us, T, oT, ts, (sbL x (neL he hd)).trans he, hc, hd, hu1, hnT, hTe, (sbL T (neL hT hdT)).trans hT, hdT, h3⟩
  have sm₉ : g.UpToSlots h₉ := fun b o hb hnf => by
    obtain ⟨sl, q⟩ := (sm₀.trans sm₈) b o hb hnf
    exact ⟨sl, (sbL b fun z => by rw [z, kts_self F] at hb; cases hb).trans q⟩
  -- passes on
  unfold PySem.passOn
  have fld : ∀ {B : Heap} {l : List Env} {h' : Heap} {s' : Shared}, s'.heap = h' → Heap.HeldW B l x ob.cls a0 L h' → ∃ T, ∀ {A : Around} {E' : Value → Shared → Prop} {Q' : Value → Shared → Prop}, Q' (.ref T) s' → wpAny (model prog w) A (field (.ref x) 1) Q' E' s' := by
    intro B l h' s' e hh
    obtain ⟨_, _, _, oe, us, T, oT, ts, he, hc, hd, hu1, _⟩ := hh
    exact ⟨T, fun q => wpAny_field (by rw [e]; exact he) hd hu1 q⟩
  obtain ⟨T₁, f1⟩ := fld (s' := { s with heap := h₉, toks := s.toks + 1 }) rfl H₉
  refine wpAny_bind (f1 ?_)
  rw [if_neg (show ¬ ((Value.ref T₁ == Value.none) = true) from by simp)]
  refine wpAny_bind (held_flight (L := L) H₉ fun h₁₀ H₁₀ sm₁₀ => ?_)
  refine wpAny_throw ?_
  -- noted again, come back
  unfold notedBy cameBackBy
  refine wpAny_noteFrame_againW (L := L) rfl H₁₀.2.2.2 ?_
  obtain ⟨T₂, f2⟩ := fld (s' := { s with heap := h₁₀, toks := s.toks + 1 }) rfl H₁₀
  refine wpAny_bind (f2 ?_)
  rw [if_neg (show ¬ ((Value.ref T₂ == Value.none) = true) from by simp)]
  refine held_flight (L := L) H₁₀ fun h₁₁ H₁₁ sm₁₁ => ?_
  exact hN h₁₁ _ ⟨H, a0, HF.base_, HF.ground, HF.news_, hcls ▸ H₁₁, (sm₉.trans sm₁₀).trans sm₁₁⟩
end
end Mine
end

section
open PySem PySem.W PyProof.Rows
set_option linter.unusedVariables false
set_option maxRecDepth 100000
namespace Mine
section
variable {prog : Program} {w : World} {A₀ : Around} {E : Value → Shared → Prop} {base g h : Heap} {outer : List Env} {L a : Addr} {m : PySem.Str → Option Value} {name : PySem.Str} {scope : Scope} {cd : Value} {news : List (Addr × Obj)}
  {n : PySem.Str} {KF : Frag} {p : Program} {loose : List PySem.Str} {mean : ExcName → Option Value} {mg mb : PySem.Str → Option Value} {x y : PySem.Str} {T' V N I : String} {Q : Flow → Shared → Prop}

theorem heldX_turn {g₆ : Heap} {env : Env} {x : Addr} {cls : Value} {h' : Heap} (T : KtsTurn (outer.filterMap (·.frame)) g g₆) (R : HeldX base g₆ env outer L x cls news h') : HeldX base g env outer L x cls news h' := by
  obtain ⟨B, a0, b1, b2, b3, b4, b5⟩ := R
  refine ⟨B, a0, b1, fun b o hb hm => b2 b o (T.other b o hb hm) hm, fun q hq => ⟨(b3 q hq).1, ?_, (b3 q hq).2.2⟩, b4, fun b o hb hnf => ?_⟩
  · cases z : g.get? q.1 with
    | none => rfl
    | some o =>
      obtain ⟨sl, hs⟩ := T.up z
      rw [(b3 q hq).2.1] at hs
      cases hs
  · obtain ⟨sl, hs⟩ := T.up hb
    obtain ⟨sl', hs'⟩ := b5 b _ hs hnf
    exact ⟨sl', hs'⟩

/-- «except T' as n: raise V() from None», of an exception that the own frame has just made -/
theorem caught_own {s' : Shared} {e : Addr} {X : String} {np p1 p2 p3 pos pos' : Pos} {kk : Nat} {rest : List ExceptHandler} (K : Below A₀ base outer g) (hx : Heap.NewExc h s'.heap e X) (F : Fr g L h m) (Nw : News g L h news) (XB : KF.In base) (TB : Top p loose mean mg mb base)
    (ex : nsIn KF mainGlobals x = some none) (hv : bootBuiltins x = some (.type T')) (hn' : x ≠ "__name__")
    (ey : nsIn KF mainGlobals y = some none) (hw : bootBuiltins y = some (.type V)) (hn'' : y ≠ "__name__") (hc : ExcClass V N I)
    (hexc : isSubtype (.type T') (.type "BaseException") = pure true) (hnt : isSubtype (.type ((Manifest.find? T').elim "type" fun y => y.metatype)) (.type "tuple") = pure false) (hsub : isSubtype (.type X) (.type T') = pure true)
    (hk : scope.kind = .function) (hlo : (envOf name scope L a cd).kindOf n = some .local) (hxk : (envOf name scope L a cd).kindOf x = some .globalImplicit) (hxd : (x == ("__debug__" : PySem.Str)) = false)
    (hyk : (envOf name scope L a cd).kindOf y = some .globalImplicit) (hyd : (y == ("__debug__" : PySem.Str)) = false)
    (hE : ∀ h' e tk, HeldX base g (envOf name scope L a cd) outer L e (.type V) news h' → E (.ref e) { s' with heap := h', toks := tk }) :
    wpAny (model prog w) (A₀.deeper (envOf name scope L a cd)) (noteFrame (.ref e) (envOf name scope L a cd))
      (fun _ s₂ => wpAny (model prog w) (A₀.deeper (envOf name scope L a cd)) (setFlight (.ref e) none) (fun _ s₃ =>
        wpAny (model prog w) (A₀.deeper (envOf name scope L a cd)) (handleBy (.ref e) (envOf name scope L a cd) (.ExceptHandler (some (.Name x np)) (some n) [.Raise (some (.Call (.Name y p1) [] [] p2)) (some (.Constant .none kk p3)) pos] pos' :: rest)) Q E s₃) E s₂) E s' := by
  obtain ⟨ob, tp, hat, hcls, hdat⟩ := hx.there
  have P := K.push (name := name) (a := a) (cd := cd) F hk
  have hfr : (A₀.deeper (envOf name scope L a cd)).frames = some (envOf name scope L a cd :: outer) := Around.frames_deeper K.stack
  have HF := hide_facts (name := name) (a := a) (cd := cd) (hh := s'.heap) (e := e) K F Nw hk hx.keeps hx.new
  generalize hH : hideAll h ((envOf name scope L a cd :: outer).filterMap (·.frame)) = H at HF
  have sm₀ : h.UpToSlots s'.heap := Heap.UpToSlots.of_keeps hx.keeps
  unfold noteFrame
  simp only [show (envOf name scope L a cd).frame = some L from rfl]
  refine wpAny_bind (wpAny_field hat hdat (x := .none) rfl ?_)
  rw [if_neg (by decide)]
  refine entry_key hfr HF.frames rfl hat HF.here HF.fresh hdat (by simp) (by simp) fun h₁ R₁ sm₁ => ?_
  refine key_lands R₁ fun h₂ R₂ sm₂ => ?_
  have up₂ := (sm₀.trans sm₁).trans sm₂
  obtain ⟨g₂, T₂, F₂, K₂⟩ := kts_ground K F HF.off R₂.1 up₂
  have X₂ : KF.In g₂ := XB.keeps K₂.stays
  have P₂ : TopRead p loose mg mb g₂ := topRead_of (TB.keeps K₂.stays)
  obtain ⟨_, _, _, oe₂, vs₂, T₂', oT₂, ts₂, he₂, hcl₂, _⟩ := id R₂
  refine wpAny_handleBy_builtin_as (X := X) (T := T') (b := true) hexc hnt hsub (name_B F₂ X₂ P₂ ex hv hn' ⟨rfl, ⟨oe₂, he₂, hcl₂.trans hcls⟩, ?_⟩ hk hxk hxd)
  show wpAny _ _ (setFlight (.ref e) none) _ _ _
  refine key_lands R₂ fun h₃ R₃ sm₃ => ?_
  have up₃ := up₂.trans sm₃
  obtain ⟨g₃, T₃, F₃, K₃⟩ := kts_ground K F HF.off R₃.1 up₃
  obtain ⟨_, _, _, oe, vs, T, oT, ts, he, hcl, hd, h1, h2, _⟩ := id R₃
  have X₃ : KF.In g₃ := XB.keeps K₃.stays
  have P₃ : TopRead p loose mg mb g₃ := topRead_of (TB.keeps K₃.stays)
  have N₃ : News g₃ L h₃ news := fun q hq => ⟨R₃.1 _ _ (HF.news_ q hq).1, (Nw q hq).2.1, T₃.none_ _ (Nw q hq).2.2⟩
  have eFresh : g₃.get? e = none := T₃.none_ _ (kts_none F.keep hx.new)
  have N₃' : News g₃ L h₃ ((e, oe) :: news) := News.more F₃ N₃ he (fun es k q => by rw [hd] at q; cases q) eFresh
  refine stN F₃ N₃' (fun h₄ F₄ N₄ => ?_) hk hlo
  have eAt : h₄.get? e = some oe := (N₄ _ (.head _)).1
  have N₄' : News g₃ L h₄ news := fun q hq => N₄ q (.tail _ hq)
  show wpAny _ _ (exec _ _ >>= _) _ _ _
  refine wpAny_bind (raise_none hc rfl ?_)
  refine Call_Name0 (name_B F₄ X₃ P₃ ey hw hn'' (callWith_type0 (env := envOf name scope L a cd) (call_exc hc fun h₅ x hx₅ => ?_)) hk hyk hyd)
  refine ⟨x, h₄, oe, vs, rfl, hx₅, eAt, hd, h2, fun h₆ hx₆ => ?_⟩
  exact suite_out K₃ F₄ N₄' hx₆ hfr hk hlo fun h' tk R => hE h' x tk (heldX_turn T₃ R)
end
end Mine
end

section
open PySem PySem.W PyProof.Rows
namespace Mine
def draw (ns : List Int) (k : Int) : Int :=
  if ns.length = 0 then 5 * k + 2 else ns.getD ((Int.fmod k ns.length).toNat) 0 + 37 * (Int.fdiv k ns.length)

section
variable {w : World} {mean : ExcName → Option Value} {mg mb : Str → Option Value} {news : List (Addr × Obj)}
  {dp un : Nat} {gd : Option (List Code)} {cn : Str} {cs : Scope} {a : Addr} {ccd : Value} {cl : List (Str × Addr)} {outer : List Env} {A₀ : Around} {base h₀ : Heap} {L : Addr} {m : Str → Option Value} {s : Shared} {Q E : Value → Shared → Prop}

local macro_rules | `(tactic| walk_at "binaryOp FloorDiv int int") => `(tactic| (k_here; (with_reducible refine floordiv_int ?kbe ?_ (Or.inl (PyProof.noPylong_small ?kbp))); (case kbe => omega); (case kbp => omega)))

set_option maxRecDepth 100000 in
set_option maxHeartbeats 8000000 in
theorem draw_spec {l : Addr} {vs : List Value} {ns : List Int} {k : Int} {t : Tok}
    (B : Below A₀ base outer h₀) (F : Fr h₀ L s.heap m) (X : (Mine.hd.heap_39 w.params).In h₀) (N : News h₀ L s.heap news)
    (T : Top Mine.hd.view_39 (looseW Mine.hd.view_39 [Str.ofString "b58encode_int", Str.ofString "b58encode", Str.ofString "b58decode_int"]) mean mg mb h₀)
    (hk : cs.kind = .function) (hl : base.IsList l vs.toArray) (hi : IntsAre vs ns) (hn : ns.length ≤ 63) (hk0 : 0 ≤ k) (hk1 : k < 1000)
    (hd : dp + 1 < recursionLimit) (hu : un + 8 < cLine)
    (h : ∀ (t : Tok) (h' : Heap) (tk' : Nat), Fr h₀ L h' m → News h₀ L h' news → Q (.int (draw ns k) t) { s with heap := h', toks := tk' }) :
    wpAny (model PySem.Challenge.rw_ej5002_01.row.prog w) (ktrTop dp un gd cn cs L a ccd cl outer) (call (.ref 58) [.ref l, .int k t]) Q E s := by
  revert X
  k_fill
  intro X
  refine wpAny_call ?_
  k_dflt cell_enter
  k_steps
  all_goals (refine' cb_retI h ?e1 ?e2 ?e3; (case e2 => k_asm); (case e3 => k_asm); (case e1 => (unfold draw; split <;> first | rfl | omega | (simp_all; done))))
end
end Mine
end

section
open PySem PySem.W PyProof.Rows
set_option linter.unusedVariables false
namespace Mine
local macro_rules | `(tactic| walk_at "mine spare C2 0") => `(tactic| fail "spare")
theorem txt_join_aux : ∀ ns : List Int, PySem.Str.join (PySem.Str.ofString "") (ns.map fun k => (⟨#[k.toNat]⟩ : PySem.Str)) = ⟨(ns.map Int.toNat).toArray⟩
  | [] => rfl
  | [_] => rfl
  | x :: y :: r => by
    have ih := txt_join_aux (y :: r)
    show (⟨#[x.toNat]⟩ : PySem.Str) ++ PySem.Str.ofString "" ++ PySem.Str.join (PySem.Str.ofString "") ((y :: r).map fun k => (⟨#[k.toNat]⟩ : PySem.Str)) = _
    rw [ih]
    refine PySem.Str.ext' ?_
    have e0 : (PySem.Str.ofString "").cps = #[] := by decide
    simp [PySem.Str.cps_append, e0]

def txt (ns : List Int) : PySem.Str := ⟨(ns.map Int.toNat).toArray⟩
theorem txt_join (ns : List Int) : PySem.Txt.join (PySem.Str.ofString "") (ns.map fun k => (⟨#[k.toNat]⟩ : PySem.Str)) = txt ns := by
  show Builtin.Str.glued (PySem.Str.ofString "") _ = _
  rw [StrLaws.glued_eq_join, txt_join_aux]
  rfl
theorem news_drop {h₀ h : Heap} {L : Addr} {p : Addr × Obj} {news : List (Addr × Obj)} (N : News h₀ L h (p :: news)) : News h₀ L h news := fun q hq => N q (List.mem_cons_of_mem _ hq)

section
variable {w : World} {mean : ExcName → Option Value} {mg mb : Str → Option Value} {news : List (Addr × Obj)}
  {dp un : Nat} {gd : Option (List Code)} {cn : Str} {cs : Scope} {a : Addr} {ccd : Value} {cl : List (Str × Addr)} {outer : List Env} {A₀ : Around} {base h₀ : Heap} {L : Addr} {m : Str → Option Value} {s : Shared} {Q E : Value → Shared → Prop}

local macro_rules | `(tactic| walk_at "eval ListComp") => `(tactic| (k_here; k_dflt (refine LCg.ListComp_U (F₀ := by k_asm) (by with_unfolding_all rfl) (by decide) (by rfl) (by decide) (by rfl) ?_)))

set_option maxRecDepth 100000 in
set_option maxHeartbeats 8000000 in
theorem plain_spec {l : Addr} {vs : List Value} {ns : List Int}
    (B : Below A₀ base outer h₀) (F : Fr h₀ L s.heap m) (X : (Mine.hd.heap_39 w.params).In h₀) (N : News h₀ L s.heap news)
    (T : Top Mine.hd.view_39 (looseW Mine.hd.view_39 [Str.ofString "b58encode_int", Str.ofString "b58encode", Str.ofString "b58decode_int"]) mean mg mb h₀)
    (hk : cs.kind = .function) {kk : Nat} (hl : (l, ({ cls := .type "list", data := .seq vs.toArray kk } : Obj)) ∈ news) (hi : IntsAre vs ns) (hn : ns.length ≤ 1000) (hb : ∀ n ∈ ns, 0 ≤ n ∧ n < 55296)
    (hd : dp + 1 < recursionLimit) (hu : un + 8 < cLine)
    (h : ∀ (t : Tok) (h' : Heap) (tk' : Nat), Fr h₀ L h' m → News h₀ L h' news → Q (.str (txt ns) t) { s with heap := h', toks := tk' }) :
    wpAny (model PySem.Challenge.rw_ej5002_01.row.prog w) (ktrTop dp un gd cn cs L a ccd cl outer) (call (.ref 63) [.ref l]) Q E s := by
  revert X
  k_fill
  intro X
  refine wpAny_call ?_
  k_dflt cell_enter
  k_steps
  refine LCg.CompSrc.ledger (by rfl) (by k_asm) (by k_asm) hl (by size_fits) ?_
  intro g'
  refine' kct_list (fun k => (⟨#[k.toNat]⟩ : PySem.Str)) hi (fun k' t' I' oI' C' oC' D' m' ys' h' tk' E' hk' hC' hx' F' N' off' ne' hMark' => ?_) ?_
  · have hb' := hb k' hk'
    obtain ⟨hb0, hb1⟩ := hb'
    k_steps
    all_goals exact LCg.CompEnd.intro (by assumption) (by assumption) news (fun p hp => hp) off' (Or.inr ⟨_, hl, rfl, _, rfl⟩) ⟨rfl, _, rfl⟩
  · unfold KPfDone
    intro ys hys hlen
    unfold LCg.FinE
    intro D' h' tk' F' N' o1'
    (try dsimp only)
    k_steps
    all_goals (try (dsimp only [List.cons_append, List.nil_append]; k_steps))
    all_goals (
      rw [txt_join]
      exact h _ _ _ (by assumption) (news_drop (by assumption)))
end
end Mine
end

section
open PySem PySem.W PyProof.Rows
set_option linter.unusedVariables false
set_option maxRecDepth 100000
namespace Mine
local macro_rules | `(tactic| walk_at "mine spare C3 0") => `(tactic| fail "spare")
theorem get_encode {M : Model} {A : Around} {E : Value → Shared → Prop} {s : Shared} {x : PySem.Str} {t : Tok} {pl : Sem Bool} {Q : Value × List Value → Shared → Prop} (h : Q (.builtin "str.encode", [.str x t]) s) :
    wpAny M A (getMethod (.str x t) "encode" pl) Q E s := by
  with_reducible exact getMethod_builtin (typeIs_str _ _ _) PySem.F.plainAttrs_str PySem.F.slot_str_encode PySem.F.type_str_encode (fun _ e => nomatch e) h
local macro_rules | `(tactic| walk_at "getMethod str") => `(tactic| (k_here; (with_reducible refine get_encode ?_)))
local macro_rules | `(tactic| walk_at "call builtin:str.encode") => `(tactic| (k_here; (refine encode_ascii (by assumption) (by assumption) ?_); intro _ _))

section
variable {w : World} {mean : ExcName → Option Value} {mg mb : Str → Option Value} {news : List (Addr × Obj)}
  {dp un : Nat} {gd : Option (List Code)} {cn : Str} {cs : Scope} {a : Addr} {ccd : Value} {cl : List (Str × Addr)} {outer : List Env} {A₀ : Around} {base h₀ : Heap} {L : Addr} {m : Str → Option Value} {s : Shared} {Q E : Value → Shared → Prop}

set_option maxRecDepth 100000 in
set_option maxHeartbeats 8000000 in
theorem scrub_ascii {x : PySem.Str} {t : Tok}
    (B : Below A₀ base outer h₀) (F : Fr h₀ L s.heap m) (X : (Mine.hd.heap_39 w.params).In h₀) (N : News h₀ L s.heap news)
    (T : Top Mine.hd.view_39 (looseW Mine.hd.view_39 [Str.ofString "b58encode_int", Str.ofString "b58encode", Str.ofString "b58decode_int"]) mean mg mb h₀)
    (hk : cs.kind = .function) (hx : ∀ c ∈ x.cps.toList, c < 128) (hz : x.cps.size ≤ 1000000)
    (hd : dp + 1 < recursionLimit) (hu : un + 8 < cLine)
    (h : ∀ (t : Tok) (h' : Heap) (tk' : Nat), Fr h₀ L h' m → News h₀ L h' news → Q (.bytes (x.cps.map Nat.toUInt8) t) { s with heap := h', toks := tk' }) :
    wpAny (model PySem.Challenge.rw_ej5002_01.row.prog w) (ktrTop dp un gd cn cs L a ccd cl outer) (call (.ref 21) [.str x t]) Q E s := by
  revert X
  k_fill
  intro X
  refine wpAny_call ?_
  k_dflt cell_enter
  k_steps
  all_goals exact h _ _ _ (by assumption) (by assumption)

set_option maxRecDepth 100000 in
set_option maxHeartbeats 8000000 in
theorem scrub_bytes {b : Array UInt8} {t : Tok}
    (B : Below A₀ base outer h₀) (F : Fr h₀ L s.heap m) (X : (Mine.hd.heap_39 w.params).In h₀) (N : News h₀ L s.heap news)
    (T : Top Mine.hd.view_39 (looseW Mine.hd.view_39 [Str.ofString "b58encode_int", Str.ofString "b58encode", Str.ofString "b58decode_int"]) mean mg mb h₀)
    (hk : cs.kind = .function)
    (hd : dp + 1 < recursionLimit) (hu : un + 8 < cLine)
    (h : ∀ (t : Tok) (h' : Heap) (tk' : Nat), Fr h₀ L h' m → News h₀ L h' news → Q (.bytes b t) { s with heap := h', toks := tk' }) :
    wpAny (model PySem.Challenge.rw_ej5002_01.row.prog w) (ktrTop dp un gd cn cs L a ccd cl outer) (call (.ref 21) [.bytes b t]) Q E s := by
  revert X
  k_fill
  intro X
  refine wpAny_call ?_
  k_dflt cell_enter
  k_steps
  all_goals exact h _ _ _ (by assumption) (by assumption)
end
end Mine
end

section
open PySem PySem.W PyProof.Rows
set_option linter.unusedVariables false
set_option maxRecDepth 100000
namespace Mine
local macro_rules | `(tactic| walk_at "mine spare C4 0") => `(tactic| fail "spare")
section
variable {w : World} {mean : ExcName → Option Value} {mg mb : Str → Option Value} {news : List (Addr × Obj)}
  {dp un : Nat} {gd : Option (List Code)} {cn : Str} {cs : Scope} {a : Addr} {ccd : Value} {cl : List (Str × Addr)} {outer : List Env} {A₀ : Around} {base h₀ : Heap} {L : Addr} {m : Str → Option Value} {s : Shared} {Q E : Value → Shared → Prop}

local macro_rules | `(tactic| walk_at "getMethod str") => `(tactic| (k_here; (with_reducible refine get_encode ?_)))
local macro_rules | `(tactic| walk_at "call builtin:str.encode") => `(tactic| (k_here; (refine encode_far (by assumption) (by assumption) (by rfl) ?_); intro h' tk' e' x'))
local macro_rules | `(tactic| walk_at "leaving ref") => `(tactic| (k_here; k_dflt (refine' leave_newF ?k1 ?k0 ?k2 ?k3 ?_ ?k4; (case k0 => assumption); (case k1 => assumption); (case k2 => assumption); (case k3 => k_asm); (case k4 => exact rfl)); intro h' R' U'; (try dsimp only at R' U' ⊢)))

set_option maxHeartbeats 8000000 in
theorem scrub_far {x : PySem.Str} {t : Tok}
    (B : Below A₀ base outer h₀) (F : Fr h₀ L s.heap m) (X : (Mine.hd.heap_39 w.params).In h₀) (N : News h₀ L s.heap news)
    (T : Top Mine.hd.view_39 (looseW Mine.hd.view_39 [Str.ofString "b58encode_int", Str.ofString "b58encode", Str.ofString "b58decode_int"]) mean mg mb h₀) (hk : cs.kind = .function)
    (hx : ∃ c ∈ x.cps.toList, 128 ≤ c) (hz : x.cps.size ≤ 1000000)
    (hd : dp + 1 < recursionLimit) (hu : un + 8 < cLine)
    (h : ∀ (g h' : Heap) (tk : Nat) (e : Addr), Fr h₀ L g m → RaisedSN base g (envX cn cs L a ccd cl :: outer) e (.type "UnicodeEncodeError") news h' → g.UpToSlots h' → E (.ref e) { s with heap := h', toks := tk }) :
    wpAny (model PySem.Challenge.rw_ej5002_01.row.prog w) (ktrTop dp un gd cn cs L a ccd cl outer) (call (.ref 21) [.str x t]) Q E s := by
  revert X
  k_fill
  intro X
  refine wpAny_call ?_
  k_dflt cell_enter
  k_steps
  all_goals exact h _ _ _ _ (by assumption) (by assumption) (by assumption)
end
end Mine
end

section
open PySem PySem.W PyProof.Rows
set_option linter.unusedVariables false
set_option maxRecDepth 100000
namespace Mine
section
variable {w : World} {mean : ExcName → Option Value} {mg mb : Str → Option Value} {news : List (Addr × Obj)}
  {dp un : Nat} {gd : Option (List Code)} {cn : Str} {cs : Scope} {a : Addr} {ccd : Value} {cl : List (Str × Addr)} {outer : List Env} {A₀ : Around} {base h₀ : Heap} {L : Addr} {m : Str → Option Value} {s : Shared} {Q E : Value → Shared → Prop}

local macro_rules | `(tactic| walk_at "call ref") => `(tactic| (k_here; k_dflt (refine' scrub_far ?k1 ?k2 ?k3 ?k4 ?k5 ?k6 ?hx ?hz ?kd ?ku ?_; (case k1 => k_asm); (case k2 => k_asm); (case k3 => k_asm); (case k4 => k_asm); (case k5 => k_asm); (case k6 => exact rfl); (case hx => assumption); (case hz => assumption); (case kd => ktr_room); (case ku => ktr_units)); intro g' h' tk' e' F' R' U'))

set_option maxHeartbeats 8000000 in
theorem law_scrubbed {x : PySem.Str} {t : Tok}
    (B : Below A₀ base [] h₀) (F : Fr h₀ L s.heap m) (X : (Mine.hd.heap_39 w.params).In h₀) (N : News h₀ L s.heap news)
    (T : Top Mine.hd.view_39 (looseW Mine.hd.view_39 [Str.ofString "b58encode_int", Str.ofString "b58encode", Str.ofString "b58decode_int"]) mean mg mb h₀) (hk : cs.kind = .function) (XB : (Mine.hd.heap_39 w.params).In base) (TB : Top Mine.hd.view_39 (looseW Mine.hd.view_39 [Str.ofString "b58encode_int", Str.ofString "b58encode", Str.ofString "b58decode_int"]) mean mg mb base)
    (hx : ∃ c ∈ x.cps.toList, 128 ≤ c) (hz : x.cps.size ≤ 1000000)
    (hd : dp + 2 < recursionLimit) (hu : un + 16 < cLine)
    (h : ∀ (t : Tok) (h' : Heap) (tk' : Nat), Fr h₀ L h' m → News h₀ L h' news → Q (.bool true) { s with heap := h', toks := tk' }) :
    wpAny (model PySem.Challenge.rw_ej5002_01.row.prog w) (ktrTop dp un gd cn cs L a ccd cl []) (call (.ref 70) [.str x t]) Q E s := by
  revert X
  k_fill
  intro X
  refine wpAny_call ?_
  k_dflt (refine' code_defT ?k1 ?k2 ?k3 ?k4 ?k5 ?kA ?kF ?kK ?k6 ?k7 ?k8 ?k9 ?kB ?_ ?c2 ?c3 ?c4 ?c5; (case kA => exact rfl); (case kF => exact rfl); (case kK => assumption); (case k1 => k_asm); (case k2 => k_asm); (case k3 => k_asm); (case k4 => k_asm); (case k5 => k_asm); (case k6 => k_is); (case k7 => k_is); (case k8 => ktr_room); (case k9 => first | exact binds_K (by k_in) rfl (by k_is) rfl rfl rfl | exact BindsTo.of_eq rfl); (case kB => exact locs rfl); (case c2 => exact rfl); (case c3 => exact rfl); (case c4 => exact rfl); (case c5 => decide); k_whole; intro g' L' h' FG' F' N' B' X' T' D'; (try dsimp only); (try k_lift B'); (try k_fold))
  k_steps
  all_goals exact h 0 _ _ (by assumption) (by assumption)
end
end Mine
end

section
open PySem PySem.W PyProof.Rows
set_option linter.unusedVariables false
set_option maxRecDepth 100000
namespace Mine
section
variable {w : World} {mean : ExcName → Option Value} {mg mb : Str → Option Value} {news : List (Addr × Obj)}
  {dp un : Nat} {gd : Option (List Code)} {cn : Str} {cs : Scope} {a : Addr} {ccd : Value} {cl : List (Str × Addr)} {outer : List Env} {A₀ : Around} {base h₀ : Heap} {L : Addr} {m : Str → Option Value} {s : Shared} {Q E : Value → Shared → Prop}
local macro_rules | `(tactic| walk_at "call ref") => `(tactic| (k_here; k_dflt (refine' scrub_far ?k1 ?k2 ?k3 ?k4 ?k5 ?k6 ?hx ?hz ?kd ?ku ?_; (case k1 => k_asm); (case k2 => k_asm); (case k3 => k_asm); (case k4 => k_asm); (case k5 => k_asm); (case k6 => exact rfl); (case hx => assumption); (case hz => assumption); (case kd => ktr_room); (case ku => ktr_units)); intro g' h' tk' e' F' R' U'))
local macro_rules | `(tactic| walk_at "leaving ref") => `(tactic| (k_here; k_dflt (refine' leave_onSN ?k1 ?k2 ?k3 ?k4 ?_; (case k3 => assumption); (case k2 => assumption); (case k1 => assumption); (case k4 => assumption); k_whole); intro h' S' R' U'; (try dsimp only at S' R' U' ⊢)))

set_option maxHeartbeats 8000000 in
theorem enc_far {x : PySem.Str} {t : Tok}
    (B : Below A₀ base outer h₀) (F : Fr h₀ L s.heap m) (X : (Mine.hd.heap_39 w.params).In h₀) (N : News h₀ L s.heap news)
    (T : Top Mine.hd.view_39 (looseW Mine.hd.view_39 [Str.ofString "b58encode_int", Str.ofString "b58encode", Str.ofString "b58decode_int"]) mean mg mb h₀) (hk : cs.kind = .function)
    (hx : ∃ c ∈ x.cps.toList, 128 ≤ c) (hz : x.cps.size ≤ 1000000)
    (hd : dp + 2 < recursionLimit) (hu : un + 16 < cLine)
    (h : ∀ (g h' : Heap) (tk : Nat) (e : Addr), Fr h₀ L g m → RaisedSN base g (envX cn cs L a ccd cl :: outer) e (.type "UnicodeEncodeError") news h' → g.UpToSlots h' → E (.ref e) { s with heap := h', toks := tk }) :
    wpAny (model PySem.Challenge.rw_ej5002_01.row.prog w) (ktrTop dp un gd cn cs L a ccd cl outer) (call (.ref 37) [.str x t]) Q E s := by
  revert X
  k_fill
  intro X
  refine wpAny_call ?_
  k_dflt (refine' code_def ?k1 ?k2 ?k3 ?k4 ?k5 ?kA ?kF ?kK ?k6 ?k7 ?k8 ?k9 ?kB ?_ ?c2 ?c3 ?c4 ?c5; (case kA => exact rfl); (case kF => exact rfl); (case kK => assumption); (case k1 => k_asm); (case k2 => k_asm); (case k3 => k_asm); (case k4 => k_asm); (case k5 => k_asm); (case k6 => k_is); (case k7 => k_is); (case k8 => ktr_room); (case k9 => first | exact BindsTo.of_eq rfl | exact binds_K (by k_in) rfl (by k_is) rfl rfl rfl); (case c5 => decide); (case kB => exact locs rfl); (case c2 => exact rfl); (case c3 => exact rfl); (case c4 => exact rfl); k_whole; intro g' L' h' FG' F' N' B' X' T'; (try dsimp only); (try k_lift B'); (try k_fold))
  k_steps
  all_goals exact h _ _ _ _ (by assumption) (by assumption) (by assumption)
end
end Mine
end

section
open PySem PySem.W PyProof.Rows
set_option linter.unusedVariables false
set_option maxRecDepth 100000
namespace Mine
section
variable {w : World} {mean : ExcName → Option Value} {mg mb : Str → Option Value} {news : List (Addr × Obj)}
  {dp un : Nat} {gd : Option (List Code)} {cn : Str} {cs : Scope} {a : Addr} {ccd : Value} {cl : List (Str × Addr)} {outer : List Env} {A₀ : Around} {base h₀ : Heap} {L : Addr} {m : Str → Option Value} {s : Shared} {Q E : Value → Shared → Prop}
local macro_rules | `(tactic| walk_at "call ref") => `(tactic| (k_here; k_dflt (refine' enc_far ?k1 ?k2 ?k3 ?k4 ?k5 ?k6 ?hx ?hz ?kd ?ku ?_; (case k1 => k_asm); (case k2 => k_asm); (case k3 => k_asm); (case k4 => k_asm); (case k5 => k_asm); (case k6 => exact rfl); (case hx => assumption); (case hz => assumption); (case kd => ktr_room); (case ku => ktr_units)); intro g' h' tk' e' F' R' U'))

set_option maxHeartbeats 8000000 in
theorem law_written {x : PySem.Str} {t : Tok}
    (B : Below A₀ base [] h₀) (F : Fr h₀ L s.heap m) (X : (Mine.hd.heap_39 w.params).In h₀) (N : News h₀ L s.heap news)
    (T : Top Mine.hd.view_39 (looseW Mine.hd.view_39 [Str.ofString "b58encode_int", Str.ofString "b58encode", Str.ofString "b58decode_int"]) mean mg mb h₀) (hk : cs.kind = .function) (XB : (Mine.hd.heap_39 w.params).In base) (TB : Top Mine.hd.view_39 (looseW Mine.hd.view_39 [Str.ofString "b58encode_int", Str.ofString "b58encode", Str.ofString "b58decode_int"]) mean mg mb base)
    (hx : ∃ c ∈ x.cps.toList, 128 ≤ c) (hz : x.cps.size ≤ 1000000)
    (hd : dp + 3 < recursionLimit) (hu : un + 24 < cLine)
    (h : ∀ (t : Tok) (h' : Heap) (tk' : Nat), Fr h₀ L h' m → News h₀ L h' news → Q (.bool true) { s with heap := h', toks := tk' }) :
    wpAny (model PySem.Challenge.rw_ej5002_01.row.prog w) (ktrTop dp un gd cn cs L a ccd cl []) (call (.ref 77) [.str x t]) Q E s := by
  revert X
  k_fill
  intro X
  refine wpAny_call ?_
  k_dflt (refine' code_defT ?k1 ?k2 ?k3 ?k4 ?k5 ?kA ?kF ?kK ?k6 ?k7 ?k8 ?k9 ?kB ?_ ?c2 ?c3 ?c4 ?c5; (case kA => exact rfl); (case kF => exact rfl); (case kK => assumption); (case k1 => k_asm); (case k2 => k_asm); (case k3 => k_asm); (case k4 => k_asm); (case k5 => k_asm); (case k6 => k_is); (case k7 => k_is); (case k8 => ktr_room); (case k9 => first | exact binds_K (by k_in) rfl (by k_is) rfl rfl rfl | exact BindsTo.of_eq rfl); (case kB => exact locs rfl); (case c2 => exact rfl); (case c3 => exact rfl); (case c4 => exact rfl); (case c5 => decide); k_whole; intro g' L' h' FG' F' N' B' X' T' D'; (try dsimp only); (try k_lift B'); (try k_fold))
  k_steps
  all_goals exact h 0 _ _ (by assumption) (by assumption)
end
end Mine
end

section
open PySem PySem.W PyProof.Rows
set_option linter.unusedVariables false
set_option maxRecDepth 100000
namespace Mine
section
variable {w : World} {mean : ExcName → Option Value} {mg mb : Str → Option Value} {news : List (Addr × Obj)}
  {dp un : Nat} {gd : Option (List Code)} {cn : Str} {cs : Scope} {a : Addr} {ccd : Value} {cl : List (Str × Addr)} {outer : List Env} {A₀ : Around} {base h₀ : Heap} {L : Addr} {m : Str → Option Value} {s : Shared} {Q E : Value → Shared → Prop}
local macro_rules | `(tactic| walk_at "call ref") => `(tactic| (k_here; k_dflt (refine' scrub_far ?k1 ?k2 ?k3 ?k4 ?k5 ?k6 ?hx ?hz ?kd ?ku ?_; (case k1 => k_asm); (case k2 => k_asm); (case k3 => k_asm); (case k4 => k_asm); (case k5 => k_asm); (case k6 => exact rfl); (case hx => assumption); (case hz => assumption); (case kd => ktr_room); (case ku => ktr_units)); intro g' h' tk' e' F' R' U'))
local macro_rules | `(tactic| walk_at "leaving ref") => `(tactic| (k_here; k_dflt (refine' leave_onSN ?k1 ?k2 ?k3 ?k4 ?_; (case k3 => assumption); (case k2 => assumption); (case k1 => assumption); (case k4 => assumption); k_whole); intro h' S' R' U'; (try dsimp only at S' R' U' ⊢)))
local macro_rules | `(tactic| walk_at "compareOp NotIn bytes") => `(tactic| (k_here; k_dflt (refine' notin_K ?k1 ?k2 ?k3 ?_; (case k1 => k_asm); (case k2 => k_asm); (case k3 => exact rfl); k_whole); intro h' tk' F' N'))
local macro_rules | `(tactic| walk_at "call builtin:str.rstrip") => `(tactic| (k_here; (refine rstrip_str (by assumption) (by assumption) ?_); intro _ _))

set_option maxHeartbeats 8000000 in
theorem dec_far {x : PySem.Str} {t : Tok}
    (B : Below A₀ base outer h₀) (F : Fr h₀ L s.heap m) (X : (Mine.hd.heap_39 w.params).In h₀) (N : News h₀ L s.heap news)
    (T : Top Mine.hd.view_39 (looseW Mine.hd.view_39 [Str.ofString "b58encode_int", Str.ofString "b58encode", Str.ofString "b58decode_int"]) mean mg mb h₀) (hk : cs.kind = .function)
    (hx : ∃ c ∈ x.cps.toList, 128 ≤ c) (hs : ∀ c ∈ x.cps.toList, Unicode.isSpace c = false) (hz : x.cps.size ≤ 1000000)
    (hd : dp + 2 < recursionLimit) (hu : un + 16 < cLine)
    (h : ∀ (g h' : Heap) (tk : Nat) (e : Addr), Fr h₀ L g m → RaisedSN base g (envX cn cs L a ccd cl :: outer) e (.type "UnicodeEncodeError") news h' → g.UpToSlots h' → E (.ref e) { s with heap := h', toks := tk }) :
    wpAny (model PySem.Challenge.rw_ej5002_01.row.prog w) (ktrTop dp un gd cn cs L a ccd cl outer) (call (.ref 51) [.str x t]) Q E s := by
  revert X
  k_fill
  intro X
  refine wpAny_call ?_
  k_dflt (refine' code_def ?k1 ?k2 ?k3 ?k4 ?k5 ?kA ?kF ?kK ?k6 ?k7 ?k8 ?k9 ?kB ?_ ?c2 ?c3 ?c4 ?c5; (case kA => exact rfl); (case kF => exact rfl); (case kK => assumption); (case k1 => k_asm); (case k2 => k_asm); (case k3 => k_asm); (case k4 => k_asm); (case k5 => k_asm); (case k6 => k_is); (case k7 => k_is); (case k8 => ktr_room); (case k9 => first | exact BindsTo.of_eq rfl | exact binds_K (by k_in) rfl (by k_is) rfl rfl rfl | (refine' kp_binds ?kx ?ke; (case kx => k_in); (case ke => exact fun _ => rfl))); (case c5 => decide); (case kB => exact locs rfl); (case c2 => exact rfl); (case c3 => exact rfl); (case c4 => exact rfl); k_whole; intro g' L' h' FG' F' N' B' X' T'; (try dsimp only); (try k_lift B'); (try k_fold))
  k_steps
  all_goals exact h _ _ _ _ (by assumption) (by assumption) (by assumption)
end
end Mine
end

section
open PySem PySem.W PyProof.Rows
set_option linter.unusedVariables false
set_option maxRecDepth 100000
namespace Mine
section
variable {w : World} {mean : ExcName → Option Value} {mg mb : Str → Option Value} {news : List (Addr × Obj)}
  {dp un : Nat} {gd : Option (List Code)} {cn : Str} {cs : Scope} {a : Addr} {ccd : Value} {cl : List (Str × Addr)} {outer : List Env} {A₀ : Around} {base h₀ : Heap} {L : Addr} {m : Str → Option Value} {s : Shared} {Q E : Value → Shared → Prop}
local macro_rules | `(tactic| walk_at "call ref") => `(tactic| (k_here; k_dflt (refine' dec_far ?k1 ?k2 ?k3 ?k4 ?k5 ?k6 ?hx ?hs ?hz ?kd ?ku ?_; (case k1 => k_asm); (case k2 => k_asm); (case k3 => k_asm); (case k4 => k_asm); (case k5 => k_asm); (case k6 => exact rfl); (case hx => assumption); (case hs => assumption); (case hz => assumption); (case kd => ktr_room); (case ku => ktr_units)); intro g' h' tk' e' F' R' U'))

set_option maxHeartbeats 8000000 in
theorem kind_far {x : PySem.Str} {t : Tok}
    (B : Below A₀ base [] h₀) (F : Fr h₀ L s.heap m) (X : (Mine.hd.heap_39 w.params).In h₀) (N : News h₀ L s.heap news)
    (T : Top Mine.hd.view_39 (looseW Mine.hd.view_39 [Str.ofString "b58encode_int", Str.ofString "b58encode", Str.ofString "b58decode_int"]) mean mg mb h₀) (hk : cs.kind = .function) (XB : (Mine.hd.heap_39 w.params).In base) (TB : Top Mine.hd.view_39 (looseW Mine.hd.view_39 [Str.ofString "b58encode_int", Str.ofString "b58encode", Str.ofString "b58decode_int"]) mean mg mb base)
    (hx : ∃ c ∈ x.cps.toList, 128 ≤ c) (hs : ∀ c ∈ x.cps.toList, Unicode.isSpace c = false) (hz : x.cps.size ≤ 1000000)
    (hd : dp + 3 < recursionLimit) (hu : un + 24 < cLine)
    (h : ∀ (t : Tok) (h' : Heap) (tk' : Nat), Fr h₀ L h' m → News h₀ L h' news → Q (.str (PySem.Str.ofString "far") t) { s with heap := h', toks := tk' }) :
    wpAny (model PySem.Challenge.rw_ej5002_01.row.prog w) (ktrTop dp un gd cn cs L a ccd cl []) (call (.ref 84) [.str x t]) Q E s := by
  revert X
  k_fill
  intro X
  refine wpAny_call ?_
  k_dflt (refine' code_defT ?k1 ?k2 ?k3 ?k4 ?k5 ?kA ?kF ?kK ?k6 ?k7 ?k8 ?k9 ?kB ?_ ?c2 ?c3 ?c4 ?c5; (case kA => exact rfl); (case kF => exact rfl); (case kK => assumption); (case k1 => k_asm); (case k2 => k_asm); (case k3 => k_asm); (case k4 => k_asm); (case k5 => k_asm); (case k6 => k_is); (case k7 => k_is); (case k8 => ktr_room); (case k9 => first | exact binds_K (by k_in) rfl (by k_is) rfl rfl rfl | exact BindsTo.of_eq rfl); (case kB => exact locs rfl); (case c2 => exact rfl); (case c3 => exact rfl); (case c4 => exact rfl); (case c5 => decide); k_whole; intro g' L' h' FG' F' N' B' X' T' D'; (try dsimp only); (try k_lift B'); (try k_fold))
  k_steps
  all_goals exact h _ _ _ (by assumption) (by assumption)
end
end Mine
end

section
open PySem PySem.W PyProof.Rows
set_option linter.unusedVariables false
set_option maxRecDepth 100000
namespace Mine
/-- a mark at which the walk halts -/
def Stop (P : Prop) : Prop := P
theorem stop_here {P : Prop} (h : Stop P) : P := h
section
variable {w : World} {mean : ExcName → Option Value} {mg mb : Str → Option Value} {news : List (Addr × Obj)}
  {dp un : Nat} {gd : Option (List Code)} {cn : Str} {cs : Scope} {a : Addr} {ccd : Value} {cl : List (Str × Addr)} {outer : List Env} {A₀ : Around} {base h₀ : Heap} {L : Addr} {m : Str → Option Value} {s : Shared} {Q E : Value → Shared → Prop}
local macro_rules | `(tactic| walk_at "exec While Name cons nil") => `(tactic| (k_here; refine stop_here ?_))
local macro_rules | `(tactic| walk_at "exec While") => `(tactic| (k_here; refine stop_here ?_))
local macro_rules | `(tactic| walk_at "subscriptTail") => `(tactic| (k_here; (with_reducible show wpAny _ _ (subscriptTail _ (Expr.Slice _ _ none _) (Value.bytes _ _) (Value.ref _)) _ _ _); (with_reducible rename Fr _ _ _ _ => F'); (with_reducible rename News _ _ _ _ => N'); k_dflt (refine slice_alpha (s := ⟨_, _, _, _, _⟩) F' N' (by first | decide | exact fmod_lo _ (by decide)) (by first | decide | exact fmod_hi _ (by decide)) (by rfl) ?_ (by with_unfolding_all rfl) (by intro _; with_unfolding_all rfl)); intro _ _ _ F' N'))
local macro_rules | `(tactic| walk_at "binaryOp Add bytes bytes") => `(tactic| (k_here; (refine KBy.add_bytes ?z ?_; (case z => (simp only [List.size_toArray, List.length_cons, List.length_nil]; omega))); intro _ _))

set_option maxHeartbeats 8000000 in
theorem enc_int {i : Int} {t ta : Tok}
    (B : Below A₀ base outer h₀) (F : Fr h₀ L s.heap m) (X : (Mine.hd.heap_39 w.params).In h₀) (N : News h₀ L s.heap news)
    (T : Top Mine.hd.view_39 (looseW Mine.hd.view_39 [Str.ofString "b58encode_int", Str.ofString "b58encode", Str.ofString "b58decode_int"]) mean mg mb h₀) (hk : cs.kind = .function)
    (hi : 0 ≤ i) (hi2 : i < 256 ^ 20)
    (hd : dp + 1 < recursionLimit) (hu : un + 8 < cLine)
    (h : ∀ (t : Tok) (h' : Heap) (tk' : Nat), Fr h₀ L h' m → News h₀ L h' news → Q (.bytes (enc58 i.toNat []).toArray t) { s with heap := h', toks := tk' }) :
    wpAny (model PySem.Challenge.rw_ej5002_01.row.prog w) (ktrTop dp un gd cn cs L a ccd cl outer) (call (.ref 29) [.int i t] [(PySem.Str.ofString "default_one", .bool false), (PySem.Str.ofString "alphabet", .bytes alpha ta)]) Q E s := by
  revert X
  k_fill
  intro X
  refine wpAny_call ?_
  k_dflt (refine' code_def ?k1 ?k2 ?k3 ?k4 ?k5 ?kA ?kF ?kK ?k6 ?k7 ?k8 ?k9 ?kB ?_ ?c2 ?c3 ?c4 ?c5; (case kA => exact rfl); (case kF => exact rfl); (case kK => assumption); (case k1 => k_asm); (case k2 => k_asm); (case k3 => k_asm); (case k4 => k_asm); (case k5 => k_asm); (case k6 => k_is); (case k7 => k_is); (case k8 => ktr_room); (case k9 => first | exact BindsTo.of_eq rfl | exact binds_K (by k_in) rfl (by k_is) rfl rfl rfl | (refine' kp_binds ?kx ?ke; (case kx => k_in); (case ke => exact fun _ => rfl))); (case c5 => decide); (case kB => exact locs rfl); (case c2 => exact rfl); (case c3 => exact rfl); (case c4 => exact rfl); k_whole; intro g' L' h' FG' F' N' B' X' T'; (try dsimp only); (try k_lift B'); (try k_fold))
  k_steps
  all_goals (
    unfold Stop
    refine While_enc (by assumption) (by assumption) (by with_unfolding_all rfl) (by with_unfolding_all rfl) (by assumption) (by assumption) ?_
    intro i' acc' ti' ts' u' h' tk' hl' hk' hR' F' N'
    k_steps)
  all_goals first
    | (refine enc_end (by assumption) (by assumption) (i := i') (acc := acc') (by assumption) (by with_unfolding_all rfl) (by with_unfolding_all rfl) (by with_unfolding_all rfl) (by with_unfolding_all rfl) ?_ hk' hR'
       intro y y1 y2 y3
       simp [y1, y2, y3])
    | (have e0 : enc58 i' acc' = acc' := by
         rw [enc58, if_pos (by omega)]
       rw [hR'] at e0
       rw [← e0]
       exact h _ _ _ (by assumption) (by assumption))
    | skip
end
end Mine
end

section
open PySem PySem.W PyProof.Rows
set_option linter.unusedVariables false
set_option maxRecDepth 100000
namespace Mine
section
variable {w : World} {mean : ExcName → Option Value} {mg mb : Str → Option Value} {news : List (Addr × Obj)}
  {dp un : Nat} {gd : Option (List Code)} {cn : Str} {cs : Scope} {a : Addr} {ccd : Value} {cl : List (Str × Addr)} {outer : List Env} {A₀ : Around} {base h₀ : Heap} {L : Addr} {m : Str → Option Value} {s : Shared} {Q E : Value → Shared → Prop}
local macro_rules | `(tactic| walk_at "call ref") => `(tactic| (k_here; k_dflt (refine' scrub_bytes ?k1 ?k2 ?k3 ?k4 ?k5 ?k6  ?kd ?ku ?_; (case k1 => k_asm); (case k2 => k_asm); (case k3 => k_asm); (case k4 => k_asm); (case k5 => k_asm); (case k6 => exact rfl); (case kd => ktr_room); (case ku => ktr_units)); intro t' h' tk' F' N'))
local macro_rules | `(tactic| walk_at "subscriptTail") => `(tactic| (k_here; (with_reducible show wpAny _ _ (subscriptTail _ (Expr.Slice _ _ none _) (Value.bytes _ _) (Value.ref _)) _ _ _); (with_reducible rename Fr _ _ _ _ => F'); (with_reducible rename News _ _ _ _ => N'); k_dflt (refine slice_alpha (s := ⟨_, _, _, _, _⟩) F' N' (by first | decide | exact fmod_lo _ (by decide)) (by first | decide | exact fmod_hi _ (by decide)) (by rfl) ?_ (by with_unfolding_all rfl) (by intro _; with_unfolding_all rfl)); intro _ _ _ F' N'))
local macro_rules | `(tactic| walk_at "getMethod bytes") => `(tactic| (k_here; (with_reducible refine get_lstrip ?_)))
local macro_rules | `(tactic| walk_at "call builtin:bytes.lstrip") => `(tactic| (k_here; k_dflt (refine lstrip_rule (by omega) ?_); intro _ _))
local macro_rules | `(tactic| walk_at "call builtin:len") => `(tactic| (k_here; (with_reducible show wpAny _ _ (call (Value.builtin "len") [Value.bytes _ _]) _ _ _); (refine len_bytes (by omega) ?_)))
local macro_rules | `(tactic| walk_at "callWith ref") => `(tactic| (k_here; kfb_any; k_dflt (first
  | (refine' callWith_KW ?k1 ?k2 ?k3 ?_; (case k1 => k_asm); (case k2 => k_is); (case k3 => exact rfl); k_whole)
  | refine callWith_boundKW (by rfl) ?_ (by rfl) (by rfl))))
local macro_rules | `(tactic| walk_at "call ref") => `(tactic| (k_here; k_dflt (refine' enc_int ?k1 ?k2 ?k3 ?k4 ?k5 ?k6 ?h0 ?h1 ?kd ?ku ?_; (case k1 => k_asm); (case k2 => k_asm); (case k3 => k_asm); (case k4 => k_asm); (case k5 => k_asm); (case k6 => exact rfl); (case h0 => first | with_reducible assumption | exact Int.natCast_nonneg _); (case h1 => with_reducible assumption); (case kd => ktr_room); (case ku => ktr_units)); intro t' h' tk' F' N'))
local macro_rules | `(tactic| walk_at "call ref") => `(tactic| (k_here; (with_reducible show wpAny _ _ (call (Value.ref _) [Value.bytes _ _] (List.zip _ _)) _ _ _); k_dflt (refine' call_bigKW ?N ?m ?l ?_; (case N => k_asm); (case m => k_mem); (case l => omega); k_whole); intro _ _))
local macro_rules | `(tactic| walk_at "binaryOp Mult bytes int") => `(tactic| (k_here; k_dflt (refine' enc_mul ?a ?b ?_; (case a => omega); (case b => omega)); intro _ _))
local macro_rules | `(tactic| walk_at "binaryOp Add bytes bytes") => `(tactic| (k_here; k_dflt (refine' enc_add ?a ?b ?c ?_; (case a => omega); (case b => first | with_reducible assumption | exact Int.natCast_nonneg _); (case c => with_reducible assumption)); intro _ _))

set_option maxHeartbeats 8000000 in
theorem enc_bytes {b : Array UInt8} {t : Tok}
    (B : Below A₀ base outer h₀) (F : Fr h₀ L s.heap m) (X : (Mine.hd.heap_39 w.params).In h₀) (N : News h₀ L s.heap news)
    (T : Top Mine.hd.view_39 (looseW Mine.hd.view_39 [Str.ofString "b58encode_int", Str.ofString "b58encode", Str.ofString "b58decode_int"]) mean mg mb h₀) (hk : cs.kind = .function)
    (hz : b.size ≤ 20)
    (hd : dp + 2 < recursionLimit) (hu : un + 16 < cLine)
    (h : ∀ (t : Tok) (h' : Heap) (tk' : Nat), Fr h₀ L h' m → News h₀ L h' news → Q (.bytes (encF b) t) { s with heap := h', toks := tk' }) :
    wpAny (model PySem.Challenge.rw_ej5002_01.row.prog w) (ktrTop dp un gd cn cs L a ccd cl outer) (call (.ref 37) [.bytes b t]) Q E s := by
  revert X
  k_fill
  intro X
  refine wpAny_call ?_
  k_dflt (refine' code_def ?k1 ?k2 ?k3 ?k4 ?k5 ?kA ?kF ?kK ?k6 ?k7 ?k8 ?k9 ?kB ?_ ?c2 ?c3 ?c4 ?c5; (case kA => exact rfl); (case kF => exact rfl); (case kK => assumption); (case k1 => k_asm); (case k2 => k_asm); (case k3 => k_asm); (case k4 => k_asm); (case k5 => k_asm); (case k6 => k_is); (case k7 => k_is); (case k8 => ktr_room); (case k9 => first | exact BindsTo.of_eq rfl | exact binds_K (by k_in) rfl (by k_is) rfl rfl rfl | (refine' kp_binds ?kx ?ke; (case kx => k_in); (case ke => exact fun _ => rfl))); (case c5 => decide); (case kB => exact locs rfl); (case c2 => exact rfl); (case c3 => exact rfl); (case c4 => exact rfl); k_whole; intro g' L' h' FG' F' N' B' X' T'; (try dsimp only); (try k_lift B'); (try k_fold))
  have hdz := dropZeros_le b
  have hbi : ((beNat (dropZeros b) : Nat) : Int) < 256 ^ 20 := by
    have := beNat_dz (b := b) hz
    exact_mod_cast this
  k_steps
  all_goals (
    simp only [Int.toNat_natCast]
    exact h _ _ _ (by assumption) (by first | assumption | exact news_drop (by assumption)))
end
end Mine
end

section
open PySem PySem.W PyProof.Rows
set_option linter.unusedVariables false
set_option maxRecDepth 100000
namespace Mine
local macro_rules | `(tactic| walk_at "mine spare C12 0") => `(tactic| fail "spare")
section
variable {w : World} {mean : ExcName → Option Value} {mg mb : Str → Option Value} {news : List (Addr × Obj)}
  {dp un : Nat} {gd : Option (List Code)} {cn : Str} {cs : Scope} {a : Addr} {ccd : Value} {cl : List (Str × Addr)} {outer : List Env} {A₀ : Around} {base h₀ : Heap} {L : Addr} {m : Str → Option Value} {s : Shared} {Q E : Value → Shared → Prop}
local macro_rules | `(tactic| walk_at "call ref") => `(tactic| (k_here; k_dflt (refine' scrub_ascii ?k1 ?k2 ?k3 ?k4 ?k5 ?k6 ?hx ?hz ?kd ?ku ?_; (case k1 => k_asm); (case k2 => k_asm); (case k3 => k_asm); (case k4 => k_asm); (case k5 => k_asm); (case k6 => exact rfl); (case hx => assumption); (case hz => omega); (case kd => ktr_room); (case ku => ktr_units)); intro t' h' tk' F' N'))
local macro_rules | `(tactic| walk_at "subscriptTail") => `(tactic| (k_here; (with_reducible show wpAny _ _ (subscriptTail _ (Expr.Slice _ _ none _) (Value.bytes _ _) (Value.ref _)) _ _ _); (with_reducible rename Fr _ _ _ _ => F'); (with_reducible rename News _ _ _ _ => N'); k_dflt (refine slice_alpha (s := ⟨_, _, _, _, _⟩) F' N' (by first | decide | exact fmod_lo _ (by decide)) (by first | decide | exact fmod_hi _ (by decide)) (by rfl) ?_ (by with_unfolding_all rfl) (by intro _; with_unfolding_all rfl)); intro _ _ _ F' N'))
local macro_rules | `(tactic| walk_at "getMethod bytes") => `(tactic| (k_here; (with_reducible refine get_lstrip ?_)))
local macro_rules | `(tactic| walk_at "call builtin:bytes.lstrip") => `(tactic| (k_here; k_dflt (refine lstrip_rule (by omega) ?_); intro _ _))
local macro_rules | `(tactic| walk_at "call builtin:len") => `(tactic| (k_here; (with_reducible show wpAny _ _ (call (Value.builtin "len") [Value.bytes _ _]) _ _ _); (refine len_bytes (by omega) ?_)))
local macro_rules | `(tactic| walk_at "callWith ref") => `(tactic| (k_here; kfb_any; k_dflt (first
  | (refine' callWith_KW ?k1 ?k2 ?k3 ?_; (case k1 => k_asm); (case k2 => k_is); (case k3 => exact rfl); k_whole)
  | refine callWith_boundKW (by rfl) ?_ (by rfl) (by rfl))))
local macro_rules | `(tactic| walk_at "call ref") => `(tactic| (k_here; k_dflt (refine' enc_int ?k1 ?k2 ?k3 ?k4 ?k5 ?k6 ?h0 ?h1 ?kd ?ku ?_; (case k1 => k_asm); (case k2 => k_asm); (case k3 => k_asm); (case k4 => k_asm); (case k5 => k_asm); (case k6 => exact rfl); (case h0 => first | with_reducible assumption | exact Int.natCast_nonneg _); (case h1 => with_reducible assumption); (case kd => ktr_room); (case ku => ktr_units)); intro t' h' tk' F' N'))
local macro_rules | `(tactic| walk_at "call ref") => `(tactic| (k_here; (with_reducible show wpAny _ _ (call (Value.ref _) [Value.bytes _ _] (List.zip _ _)) _ _ _); k_dflt (refine' call_bigKW ?N ?m ?l ?_; (case N => k_asm); (case m => k_mem); (case l => omega); k_whole); intro _ _))
local macro_rules | `(tactic| walk_at "binaryOp Mult bytes int") => `(tactic| (k_here; k_dflt (refine' enc_mul ?a ?b ?_; (case a => omega); (case b => omega)); intro _ _))
local macro_rules | `(tactic| walk_at "binaryOp Add bytes bytes") => `(tactic| (k_here; k_dflt (refine' enc_add ?a ?b ?c ?_; (case a => omega); (case b => first | with_reducible assumption | exact Int.natCast_nonneg _); (case c => with_reducible assumption)); intro _ _))

set_option maxHeartbeats 8000000 in
theorem enc_text {x : PySem.Str} {t : Tok}
    (B : Below A₀ base outer h₀) (F : Fr h₀ L s.heap m) (X : (Mine.hd.heap_39 w.params).In h₀) (N : News h₀ L s.heap news)
    (T : Top Mine.hd.view_39 (looseW Mine.hd.view_39 [Str.ofString "b58encode_int", Str.ofString "b58encode", Str.ofString "b58decode_int"]) mean mg mb h₀) (hk : cs.kind = .function)
    (hx : ∀ c ∈ x.cps.toList, c < 128) (hz : x.cps.size ≤ 20)
    (hd : dp + 2 < recursionLimit) (hu : un + 16 < cLine)
    (h : ∀ (t : Tok) (h' : Heap) (tk' : Nat), Fr h₀ L h' m → News h₀ L h' news → Q (.bytes (encF (x.cps.map Nat.toUInt8)) t) { s with heap := h', toks := tk' }) :
    wpAny (model PySem.Challenge.rw_ej5002_01.row.prog w) (ktrTop dp un gd cn cs L a ccd cl outer) (call (.ref 37) [.str x t]) Q E s := by
  revert X
  k_fill
  intro X
  refine wpAny_call ?_
  k_dflt (refine' code_def ?k1 ?k2 ?k3 ?k4 ?k5 ?kA ?kF ?kK ?k6 ?k7 ?k8 ?k9 ?kB ?_ ?c2 ?c3 ?c4 ?c5; (case kA => exact rfl); (case kF => exact rfl); (case kK => assumption); (case k1 => k_asm); (case k2 => k_asm); (case k3 => k_asm); (case k4 => k_asm); (case k5 => k_asm); (case k6 => k_is); (case k7 => k_is); (case k8 => ktr_room); (case k9 => first | exact BindsTo.of_eq rfl | exact binds_K (by k_in) rfl (by k_is) rfl rfl rfl | (refine' kp_binds ?kx ?ke; (case kx => k_in); (case ke => exact fun _ => rfl))); (case c5 => decide); (case kB => exact locs rfl); (case c2 => exact rfl); (case c3 => exact rfl); (case c4 => exact rfl); k_whole; intro g' L' h' FG' F' N' B' X' T'; (try dsimp only); (try k_lift B'); (try k_fold))
  have hm : (x.cps.map Nat.toUInt8).size ≤ 20 := by rw [Array.size_map]; exact hz
  have hdz := dropZeros_le (x.cps.map Nat.toUInt8)
  have hbi : ((beNat (dropZeros (x.cps.map Nat.toUInt8)) : Nat) : Int) < 256 ^ 20 := by
    have := beNat_dz (b := (x.cps.map Nat.toUInt8)) hm
    exact_mod_cast this
  k_steps
  all_goals (
    simp only [Int.toNat_natCast]
    exact h _ _ _ (by assumption) (by first | assumption | exact news_drop (by assumption)))
end
end Mine
end

section
open PySem PySem.W PyProof.Rows
set_option linter.unusedVariables false
set_option maxRecDepth 100000
namespace Mine
section
variable {w : World} {mean : ExcName → Option Value} {mg mb : Str → Option Value} {news : List (Addr × Obj)}
  {dp un : Nat} {gd : Option (List Code)} {cn : Str} {cs : Scope} {a : Addr} {ccd : Value} {cl : List (Str × Addr)} {outer : List Env} {A₀ : Around} {base h₀ : Heap} {L : Addr} {m : Str → Option Value} {s : Shared} {Q E : Value → Shared → Prop}
local macro_rules | `(tactic| walk_at "eval DictComp") => `(tactic| (k_here; k_dflt (refine eval_DictEnum (by with_unfolding_all rfl) (by with_unfolding_all rfl) (by decide) (by rfl) (by decide) (by rfl) (by rfl) (by decide) (by rfl) (by rfl) ?_)))
local macro_rules | `(tactic| walk_at "call type:enumerate") => `(tactic| (k_here; k_dflt (refine' enum_end_K ?F ?N ?n ?z alpha_dis ?_; (case F => k_asm); (case N => k_asm); (case n => exact Top.nolimit (by k_asm)); (case z => decide)); intro D' o' h' tk' kvs' F' N' hd' hm' lo' lt'; (try k_lt lt')))
theorem news_swapdrop {h₀ h : Heap} {L : Addr} {p q : Addr × Obj} {news : List (Addr × Obj)} (N : News h₀ L h (p :: q :: news)) : News h₀ L h (p :: news) := fun x hx => N x (by rcases List.mem_cons.mp hx with r | r <;> simp [r])
theorem low_ne {news : List (Addr × Obj)} {L : Addr} (x : ∀ p ∈ news, p.1 < L) : ∀ p ∈ news, p.1 ≠ L + 1 := fun p hp => Nat.ne_of_lt (Nat.lt_succ_of_lt (x p hp))
local macro_rules | `(tactic| walk_at "storeName") => `(tactic| (k_here; k_dflt (refine' storeX_C ?F ?N ?c ?U ?d ?_ ?a ?b; (case a => rfl); (case b => rfl); (case F => k_asm); (case N => k_asm); (case c => rfl); (case U => refine' UpdF.tail ?x (UpdF.head (low_ne ?y)); (case x => k_ne); (case y => assumption)); (case d => k_asm); k_whole); intro h' o' F' N' d'; (try dsimp only at N')))

set_option maxHeartbeats 8000000 in
theorem get_map {ta : Tok}
    (B : Below A₀ base outer h₀) (F : Fr h₀ L s.heap m) (X : (Mine.hd.heap_39 w.params).In h₀) (N : News h₀ L s.heap news)
    (T : Top Mine.hd.view_39 (looseW Mine.hd.view_39 [Str.ofString "b58encode_int", Str.ofString "b58encode", Str.ofString "b58decode_int"]) mean mg mb h₀) (hk : cs.kind = .function)
    
    (hd : dp + 1 < recursionLimit) (hu : un + 8 < cLine)
    (h : ∀ (D : Addr) (o : Obj) (h' : Heap) (tk' : Nat) (kvs : List (Int × Value)), Fr h₀ L h' m → News h₀ L h' ((D, o) :: news) → o.IsDictOf (intKind PySem.Challenge.rw_ej5002_01.row.prog w) kvs → IdxMap alpha kvs alpha.size → (D == sysModules) = false → Q (.ref D) { s with heap := h', toks := tk' }) :
    wpAny (model PySem.Challenge.rw_ej5002_01.row.prog w) (ktrTop dp un gd cn cs L a ccd cl outer) (call (.ref 42) [.bytes alpha ta] [(PySem.Str.ofString "autofix", .bool false)]) Q E s := by
  revert X
  k_fill
  intro X
  refine wpAny_call ?_
  k_dflt (refine' code_defC ?k1 ?k2 ?k3 ?k4 ?k5 ?kA ?kF ?kK ?k6 ?k7 ?k8 ?k9 ?kB ?kD ?_ ?c2 ?c3 ?c4; (case kA => exact rfl); (case kF => exact rfl); (case kK => assumption); (case k1 => k_asm); (case k2 => k_asm); (case k3 => k_asm); (case k4 => k_asm); (case k5 => k_asm); (case k6 => k_is); (case k7 => k_is); (case k8 => ktr_room); (case k9 => first | exact BindsTo.of_eq rfl | exact binds_K (by k_in) rfl (by k_is) rfl rfl rfl); (case kB => exact rfl); (case kD => decide +kernel); (case c2 => exact rfl); (case c3 => exact rfl); (case c4 => exact rfl); k_whole; intro g' L' h' tk' cells' FG' F' N' Y' B' X' T' l1; k_cells Y'; (try simp only [List.cons_append, List.nil_append] at N'); (try dsimp only); (try k_lift B'); (try k_fold))
  k_steps

  all_goals exact h _ _ _ _ _ (by assumption) (news_swapdrop (by assumption)) (by assumption) (by assumption) (by assumption)
end
end Mine
end

section
open PySem PySem.W PyProof.Rows
set_option linter.unusedVariables false
set_option maxRecDepth 100000
namespace Mine
section
variable {w : World} {mean : ExcName → Option Value} {mg mb : Str → Option Value} {news : List (Addr × Obj)}
  {dp un : Nat} {gd : Option (List Code)} {cn : Str} {cs : Scope} {a : Addr} {ccd : Value} {cl : List (Str × Addr)} {outer : List Env} {A₀ : Around} {base h₀ : Heap} {L : Addr} {m : Str → Option Value} {s : Shared} {Q E : Value → Shared → Prop}
local macro_rules | `(tactic| walk_at "call ref") => `(tactic| (k_here; k_dflt (refine' scrub_bytes ?k1 ?k2 ?k3 ?k4 ?k5 ?k6  ?kd ?ku ?_; (case k1 => k_asm); (case k2 => k_asm); (case k3 => k_asm); (case k4 => k_asm); (case k5 => k_asm); (case k6 => exact rfl); (case kd => ktr_room); (case ku => ktr_units)); intro t' h' tk' F' N'))
local macro_rules | `(tactic| walk_at "call ref") => `(tactic| (k_here; k_dflt (refine' get_map ?k1 ?k2 ?k3 ?k4 ?k5 ?k6  ?kd ?ku ?_; (case k1 => k_asm); (case k2 => k_asm); (case k3 => k_asm); (case k4 => k_asm); (case k5 => k_asm); (case k6 => exact rfl); (case kd => ktr_room); (case ku => ktr_units)); intro D' o' h' tk' kvs' F' N' hd' hm' lo'))
local macro_rules | `(tactic| walk_at "compareOp NotIn bytes") => `(tactic| (k_here; k_dflt (refine' notin_K ?k1 ?k2 ?k3 ?_; (case k1 => k_asm); (case k2 => k_asm); (case k3 => exact rfl); k_whole); intro h' tk' F' N'))
local macro_rules | `(tactic| walk_at "call builtin:str.rstrip") => `(tactic| (k_here; (refine rstrip_str (by assumption) (by assumption) ?_); intro _ _))
local macro_rules | `(tactic| walk_at "getMethod bytes") => `(tactic| (k_here; (with_reducible refine get_rstrip ?_)))
local macro_rules | `(tactic| walk_at "call builtin:bytes.rstrip") => `(tactic| (k_here; k_dflt (refine rstrip_rule (by omega) (by assumption) ?_); intro _ _))
local macro_rules | `(tactic| walk_at "call builtin:len") => `(tactic| (k_here; (with_reducible show wpAny _ _ (call (Value.builtin "len") [Value.bytes _ _]) _ _ _); (refine len_bytes (by omega) ?_)))
local macro_rules | `(tactic| walk_at "callWith ref") => `(tactic| (k_here; kfb_any; k_dflt (first
  | (refine' callWith_KW ?k1 ?k2 ?k3 ?_; (case k1 => k_asm); (case k2 => k_is); (case k3 => exact rfl); k_whole))))
local macro_rules | `(tactic| walk_at "subscriptTail") => `(tactic| (k_here; (with_reducible show wpAny _ _ (subscriptTail _ _ (Value.ref _) (Value.int _ _)) _ _ _); k_dflt (refine' at_found ?N ?m ?d ?x alpha_dis ?j ?_ ?a ?b; (case N => k_asm); (case m => k_mem); (case d => assumption); (case x => assumption); (case j => exact good_at (by assumption) (by assumption)); (case a => with_unfolding_all rfl); (case b => intro _; with_unfolding_all rfl); k_whole); intro _ _))
local macro_rules | `(tactic| walk_at "pyIter bytes") => `(tactic| (k_here; (with_reducible show wpAny _ _ (pyIter (Value.bytes _ _)) (fun it s₂ => LoopAtV _ _ _ _ _ _ _ _ _ it s₂) _ _); (rename Fr _ _ _ _ => lF'); (rename News _ _ _ _ => lN'); (with_unfolding_all refine' KBw.iterBytes_acc1 (y := PySem.Str.ofString "decimal") (fun a k => a * ((alpha.size : Nat) : Int) + (((k - 49).toNat : Nat) : Int)) (by assumption) (by rfl) lF' lN' (by rfl) (fun k' t' a' ta' h' tk' own' hmem' hlo' hhi' hoff' F' N' => ?_) (fun u' t' h' tk' F' N' => ?_)); (all_goals (try simp only [List.nil_append, List.cons_append, List.append_nil] at N')); (all_goals (try k_fold))))
local macro_rules | `(tactic| walk_at "InvEndN") => `(tactic| (k_here; refine InvEndN.intro (by assumption) (by assumption) ⟨rfl, ⟨_, by with_unfolding_all rfl⟩, by kba_same⟩ (by rfl) own_l own_r))

set_option maxHeartbeats 8000000 in
theorem dec_bytes {b : Array UInt8} {t : Tok} {ks : List Int}
    (B : Below A₀ base outer h₀) (F : Fr h₀ L s.heap m) (X : (Mine.hd.heap_39 w.params).In h₀) (N : News h₀ L s.heap news)
    (T : Top Mine.hd.view_39 (looseW Mine.hd.view_39 [Str.ofString "b58encode_int", Str.ofString "b58encode", Str.ofString "b58decode_int"]) mean mg mb h₀) (hk : cs.kind = .function)
    (hz : b.size ≤ 20) (hs : ∀ c ∈ b.toList, Builtin.Bytes.isSpace c = false) (hks : KBw.bInts b = ks) (hg : ∀ k ∈ ks, 49 ≤ k ∧ k ≤ 57)
    (hd : dp + 2 < recursionLimit) (hu : un + 16 < cLine)
    (h : ∀ (t : Tok) (h' : Heap) (tk' : Nat), Fr h₀ L h' m → News h₀ L h' news → Q (.int (decI ks) t) { s with heap := h', toks := tk' }) :
    wpAny (model PySem.Challenge.rw_ej5002_01.row.prog w) (ktrTop dp un gd cn cs L a ccd cl outer) (call (.ref 51) [.bytes b t]) Q E s := by
  revert X
  k_fill
  intro X
  refine wpAny_call ?_
  k_dflt (refine' code_def ?k1 ?k2 ?k3 ?k4 ?k5 ?kA ?kF ?kK ?k6 ?k7 ?k8 ?k9 ?kB ?_ ?c2 ?c3 ?c4 ?c5; (case kA => exact rfl); (case kF => exact rfl); (case kK => assumption); (case k1 => k_asm); (case k2 => k_asm); (case k3 => k_asm); (case k4 => k_asm); (case k5 => k_asm); (case k6 => k_is); (case k7 => k_is); (case k8 => ktr_room); (case k9 => first | exact BindsTo.of_eq rfl | exact binds_K (by k_in) rfl (by k_is) rfl rfl rfl | (refine' kp_binds ?kx ?ke; (case kx => k_in); (case ke => exact fun _ => rfl))); (case c5 => decide); (case kB => exact locs rfl); (case c2 => exact rfl); (case c3 => exact rfl); (case c4 => exact rfl); k_whole; intro g' L' h' FG' F' N' B' X' T'; (try dsimp only); (try k_lift B'); (try k_fold))
  k_steps
  · (with_reducible rename Fr _ _ _ _ => F')
    (with_reducible rename News _ _ _ _ => N')
    refine' InvEndN.intro F' N' ⟨rfl, Exists.intro _ ?e, ?s⟩ rfl own_l own_r
    case e => with_unfolding_all rfl
    case s =>
      intro z h1 h2
      simp only [if_neg h1, if_neg h2]
  · rw [decI_eq]
    exact h _ _ _ (by assumption) (news_drop (by assumption))
end
end Mine
end

section
open PySem PySem.W PyProof.Rows
set_option linter.unusedVariables false
set_option maxRecDepth 100000
namespace Mine
local macro_rules | `(tactic| walk_at "mine spare C15 0") => `(tactic| fail "spare")
section
variable {w : World} {mean : ExcName → Option Value} {mg mb : Str → Option Value} {news : List (Addr × Obj)}
  {dp un : Nat} {gd : Option (List Code)} {cn : Str} {cs : Scope} {a : Addr} {ccd : Value} {cl : List (Str × Addr)} {outer : List Env} {A₀ : Around} {base h₀ : Heap} {L : Addr} {m : Str → Option Value} {s : Shared} {Q E : Value → Shared → Prop}
local macro_rules | `(tactic| walk_at "call ref") => `(tactic| (k_here; k_dflt (refine' scrub_ascii ?k1 ?k2 ?k3 ?k4 ?k5 ?k6 ?hx ?hz ?kd ?ku ?_; (case k1 => k_asm); (case k2 => k_asm); (case k3 => k_asm); (case k4 => k_asm); (case k5 => k_asm); (case k6 => exact rfl); (case hx => assumption); (case hz => assumption); (case kd => ktr_room); (case ku => ktr_units)); intro t' h' tk' F' N'))
local macro_rules | `(tactic| walk_at "call ref") => `(tactic| (k_here; k_dflt (refine' get_map ?k1 ?k2 ?k3 ?k4 ?k5 ?k6  ?kd ?ku ?_; (case k1 => k_asm); (case k2 => k_asm); (case k3 => k_asm); (case k4 => k_asm); (case k5 => k_asm); (case k6 => exact rfl); (case kd => ktr_room); (case ku => ktr_units)); intro D' o' h' tk' kvs' F' N' hd' hm' lo'))
local macro_rules | `(tactic| walk_at "compareOp NotIn bytes") => `(tactic| (k_here; k_dflt (refine' notin_K ?k1 ?k2 ?k3 ?_; (case k1 => k_asm); (case k2 => k_asm); (case k3 => exact rfl); k_whole); intro h' tk' F' N'))
local macro_rules | `(tactic| walk_at "call builtin:str.rstrip") => `(tactic| (k_here; (refine rstrip_str (by assumption) (by assumption) ?_); intro _ _))
local macro_rules | `(tactic| walk_at "getMethod bytes") => `(tactic| (k_here; (with_reducible refine get_rstrip ?_)))
local macro_rules | `(tactic| walk_at "call builtin:bytes.rstrip") => `(tactic| (k_here; k_dflt (refine rstrip_rule (by omega) (by assumption) ?_); intro _ _))
local macro_rules | `(tactic| walk_at "call builtin:len") => `(tactic| (k_here; (with_reducible show wpAny _ _ (call (Value.builtin "len") [Value.bytes _ _]) _ _ _); (refine len_bytes (by omega) ?_)))
local macro_rules | `(tactic| walk_at "callWith ref") => `(tactic| (k_here; kfb_any; k_dflt (first
  | (refine' callWith_KW ?k1 ?k2 ?k3 ?_; (case k1 => k_asm); (case k2 => k_is); (case k3 => exact rfl); k_whole))))
local macro_rules | `(tactic| walk_at "subscriptTail") => `(tactic| (k_here; (with_reducible show wpAny _ _ (subscriptTail _ _ (Value.ref _) (Value.int _ _)) _ _ _); k_dflt (refine' at_found ?N ?m ?d ?x alpha_dis ?j ?_ ?a ?b; (case N => k_asm); (case m => k_mem); (case d => assumption); (case x => assumption); (case j => exact good_at (by assumption) (by assumption)); (case a => with_unfolding_all rfl); (case b => intro _; with_unfolding_all rfl); k_whole); intro _ _))
local macro_rules | `(tactic| walk_at "pyIter bytes") => `(tactic| (k_here; (with_reducible show wpAny _ _ (pyIter (Value.bytes _ _)) (fun it s₂ => LoopAtV _ _ _ _ _ _ _ _ _ it s₂) _ _); (rename Fr _ _ _ _ => lF'); (rename News _ _ _ _ => lN'); (with_unfolding_all refine' KBw.iterBytes_acc1 (y := PySem.Str.ofString "decimal") (fun a k => a * ((alpha.size : Nat) : Int) + (((k - 49).toNat : Nat) : Int)) (by assumption) (by rfl) lF' lN' (by rfl) (fun k' t' a' ta' h' tk' own' hmem' hlo' hhi' hoff' F' N' => ?_) (fun u' t' h' tk' F' N' => ?_)); (all_goals (try simp only [List.nil_append, List.cons_append, List.append_nil] at N')); (all_goals (try k_fold))))
local macro_rules | `(tactic| walk_at "InvEndN") => `(tactic| (k_here; refine InvEndN.intro (by assumption) (by assumption) ⟨rfl, ⟨_, by with_unfolding_all rfl⟩, by kba_same⟩ (by rfl) own_l own_r))

set_option maxHeartbeats 8000000 in
theorem dec_text {x : PySem.Str} {t : Tok} {ks : List Int}
    (B : Below A₀ base outer h₀) (F : Fr h₀ L s.heap m) (X : (Mine.hd.heap_39 w.params).In h₀) (N : News h₀ L s.heap news)
    (T : Top Mine.hd.view_39 (looseW Mine.hd.view_39 [Str.ofString "b58encode_int", Str.ofString "b58encode", Str.ofString "b58decode_int"]) mean mg mb h₀) (hk : cs.kind = .function)
    (hx : ∀ c ∈ x.cps.toList, c < 128) (hsp : ∀ c ∈ x.cps.toList, Unicode.isSpace c = false) (hz : x.cps.size ≤ 1000000) (hks : KBw.bInts (x.cps.map Nat.toUInt8) = ks) (hg : ∀ k ∈ ks, 49 ≤ k ∧ k ≤ 57)
    (hd : dp + 2 < recursionLimit) (hu : un + 16 < cLine)
    (h : ∀ (t : Tok) (h' : Heap) (tk' : Nat), Fr h₀ L h' m → News h₀ L h' news → Q (.int (decI ks) t) { s with heap := h', toks := tk' }) :
    wpAny (model PySem.Challenge.rw_ej5002_01.row.prog w) (ktrTop dp un gd cn cs L a ccd cl outer) (call (.ref 51) [.str x t]) Q E s := by
  revert X
  k_fill
  intro X
  refine wpAny_call ?_
  k_dflt (refine' code_def ?k1 ?k2 ?k3 ?k4 ?k5 ?kA ?kF ?kK ?k6 ?k7 ?k8 ?k9 ?kB ?_ ?c2 ?c3 ?c4 ?c5; (case kA => exact rfl); (case kF => exact rfl); (case kK => assumption); (case k1 => k_asm); (case k2 => k_asm); (case k3 => k_asm); (case k4 => k_asm); (case k5 => k_asm); (case k6 => k_is); (case k7 => k_is); (case k8 => ktr_room); (case k9 => first | exact BindsTo.of_eq rfl | exact binds_K (by k_in) rfl (by k_is) rfl rfl rfl | (refine' kp_binds ?kx ?ke; (case kx => k_in); (case ke => exact fun _ => rfl))); (case c5 => decide); (case kB => exact locs rfl); (case c2 => exact rfl); (case c3 => exact rfl); (case c4 => exact rfl); k_whole; intro g' L' h' FG' F' N' B' X' T'; (try dsimp only); (try k_lift B'); (try k_fold))
  k_steps
  · (with_reducible rename Fr _ _ _ _ => F')
    (with_reducible rename News _ _ _ _ => N')
    refine' InvEndN.intro F' N' ⟨rfl, Exists.intro _ ?e, ?s⟩ rfl own_l own_r
    case e => with_unfolding_all rfl
    case s =>
      intro z h1 h2
      simp only [if_neg h1, if_neg h2]
  · rw [decI_eq]
    exact h _ _ _ (by assumption) (news_drop (by assumption))
end
end Mine
end

section
open PySem PySem.W PyProof.Rows
set_option linter.unusedVariables false
set_option maxRecDepth 100000
namespace Mine
section
variable {w : World} {mean : ExcName → Option Value} {mg mb : Str → Option Value} {news : List (Addr × Obj)}
  {dp un : Nat} {gd : Option (List Code)} {cn : Str} {cs : Scope} {a : Addr} {ccd : Value} {cl : List (Str × Addr)} {outer : List Env} {A₀ : Around} {base h₀ : Heap} {L : Addr} {m : Str → Option Value} {s : Shared} {Q E : Value → Shared → Prop}
local macro_rules | `(tactic| walk_at "call ref") => `(tactic| (k_here; k_dflt (refine' dec_bytes ?k1 ?k2 ?k3 ?k4 ?k5 ?k6 ?hz ?hs ?hks ?hg ?kd ?ku ?_; (case k1 => k_asm); (case k2 => k_asm); (case k3 => k_asm); (case k4 => k_asm); (case k5 => k_asm); (case k6 => exact rfl); (case hz => assumption); (case hs => assumption); (case hks => assumption); (case hg => assumption); (case kd => ktr_room); (case ku => ktr_units)); intro t' h' tk' F' N'))

set_option maxHeartbeats 8000000 in
theorem kind_read {b : Array UInt8} {t : Tok} {ks : List Int}
    (B : Below A₀ base [] h₀) (F : Fr h₀ L s.heap m) (X : (Mine.hd.heap_39 w.params).In h₀) (N : News h₀ L s.heap news)
    (T : Top Mine.hd.view_39 (looseW Mine.hd.view_39 [Str.ofString "b58encode_int", Str.ofString "b58encode", Str.ofString "b58decode_int"]) mean mg mb h₀) (hk : cs.kind = .function) (XB : (Mine.hd.heap_39 w.params).In base) (TB : Top Mine.hd.view_39 (looseW Mine.hd.view_39 [Str.ofString "b58encode_int", Str.ofString "b58encode", Str.ofString "b58decode_int"]) mean mg mb base)
    (hz : b.size ≤ 20) (hs : ∀ c ∈ b.toList, Builtin.Bytes.isSpace c = false) (hks : KBw.bInts b = ks) (hg : ∀ k ∈ ks, 49 ≤ k ∧ k ≤ 57)
    (hd : dp + 3 < recursionLimit) (hu : un + 24 < cLine)
    (h : ∀ (t : Tok) (h' : Heap) (tk' : Nat), Fr h₀ L h' m → News h₀ L h' news → Q (.str (PySem.Str.ofString "read") t) { s with heap := h', toks := tk' }) :
    wpAny (model PySem.Challenge.rw_ej5002_01.row.prog w) (ktrTop dp un gd cn cs L a ccd cl []) (call (.ref 84) [.bytes b t]) Q E s := by
  revert X
  k_fill
  intro X
  refine wpAny_call ?_
  k_dflt (refine' code_defT ?k1 ?k2 ?k3 ?k4 ?k5 ?kA ?kF ?kK ?k6 ?k7 ?k8 ?k9 ?kB ?_ ?c2 ?c3 ?c4 ?c5; (case kA => exact rfl); (case kF => exact rfl); (case kK => assumption); (case k1 => k_asm); (case k2 => k_asm); (case k3 => k_asm); (case k4 => k_asm); (case k5 => k_asm); (case k6 => k_is); (case k7 => k_is); (case k8 => ktr_room); (case k9 => first | exact binds_K (by k_in) rfl (by k_is) rfl rfl rfl | exact BindsTo.of_eq rfl); (case kB => exact locs rfl); (case c2 => exact rfl); (case c3 => exact rfl); (case c4 => exact rfl); (case c5 => decide); k_whole; intro g' L' h' FG' F' N' B' X' T' D'; (try dsimp only); (try k_lift B'); (try k_fold))
  k_steps
  all_goals exact h _ _ _ (by assumption) (by assumption)
end
end Mine
end

section
open PySem PySem.W PyProof.Rows
set_option linter.unusedVariables false
set_option maxRecDepth 100000
namespace Mine
section
variable {w : World} {mean : ExcName → Option Value} {mg mb : Str → Option Value} {news : List (Addr × Obj)}
  {dp un : Nat} {gd : Option (List Code)} {cn : Str} {cs : Scope} {a : Addr} {ccd : Value} {cl : List (Str × Addr)} {outer : List Env} {A₀ : Around} {base h₀ : Heap} {L : Addr} {m : Str → Option Value} {s : Shared} {Q E : Value → Shared → Prop}
local macro_rules | `(tactic| walk_at "call ref") => `(tactic| (k_here; k_dflt (refine' scrub_bytes ?k1 ?k2 ?k3 ?k4 ?k5 ?k6  ?kd ?ku ?_; (case k1 => k_asm); (case k2 => k_asm); (case k3 => k_asm); (case k4 => k_asm); (case k5 => k_asm); (case k6 => exact rfl); (case kd => ktr_room); (case ku => ktr_units)); intro t' h' tk' F' N'))
local macro_rules | `(tactic| walk_at "call ref") => `(tactic| (k_here; k_dflt (refine' get_map ?k1 ?k2 ?k3 ?k4 ?k5 ?k6  ?kd ?ku ?_; (case k1 => k_asm); (case k2 => k_asm); (case k3 => k_asm); (case k4 => k_asm); (case k5 => k_asm); (case k6 => exact rfl); (case kd => ktr_room); (case ku => ktr_units)); intro D' o' h' tk' kvs' F' N' hd' hm' lo'))
local macro_rules | `(tactic| walk_at "compareOp NotIn bytes") => `(tactic| (k_here; k_dflt (refine' notin_K ?k1 ?k2 ?k3 ?_; (case k1 => k_asm); (case k2 => k_asm); (case k3 => exact rfl); k_whole); intro h' tk' F' N'))
local macro_rules | `(tactic| walk_at "call builtin:str.rstrip") => `(tactic| (k_here; (refine rstrip_str (by assumption) (by assumption) ?_); intro _ _))
local macro_rules | `(tactic| walk_at "getMethod bytes") => `(tactic| (k_here; (with_reducible refine get_rstrip ?_)))
local macro_rules | `(tactic| walk_at "call builtin:bytes.rstrip") => `(tactic| (k_here; k_dflt (refine rstrip_rule (by omega) (by assumption) ?_); intro _ _))
local macro_rules | `(tactic| walk_at "call builtin:len") => `(tactic| (k_here; (with_reducible show wpAny _ _ (call (Value.builtin "len") [Value.bytes _ _]) _ _ _); (refine len_bytes (by omega) ?_)))
local macro_rules | `(tactic| walk_at "callWith ref") => `(tactic| (k_here; kfb_any; k_dflt (first
  | (refine' callWith_KW ?k1 ?k2 ?k3 ?_; (case k1 => k_asm); (case k2 => k_is); (case k3 => exact rfl); k_whole))))
local macro_rules | `(tactic| walk_at "subscriptTail zzz") => `(tactic| (k_here; (with_reducible show wpAny _ _ (subscriptTail _ _ (Value.ref _) (Value.int _ _)) _ _ _); k_dflt (refine' at_found ?N ?m ?d ?x alpha_dis ?j ?_ ?a ?b; (case N => k_asm); (case m => k_mem); (case d => assumption); (case x => assumption); (case j => exact good_at (by assumption) (by assumption)); (case a => with_unfolding_all rfl); (case b => intro _; with_unfolding_all rfl); k_whole); intro _ _))
local macro_rules | `(tactic| walk_at "pyIter bytes zzz") => `(tactic| (k_here; (with_reducible show wpAny _ _ (pyIter (Value.bytes _ _)) (fun it s₂ => LoopAtV _ _ _ _ _ _ _ _ _ it s₂) _ _); (rename Fr _ _ _ _ => lF'); (rename News _ _ _ _ => lN'); (with_unfolding_all refine' KBw.iterBytes_acc1 (y := PySem.Str.ofString "decimal") (fun a k => a * ((alpha.size : Nat) : Int) + (((k - 49).toNat : Nat) : Int)) (by assumption) (by rfl) lF' lN' (by rfl) (fun k' t' a' ta' h' tk' own' hmem' hlo' hhi' hoff' F' N' => ?_) (fun u' t' h' tk' F' N' => ?_)); (all_goals (try simp only [List.nil_append, List.cons_append, List.append_nil] at N')); (all_goals (try k_fold))))
local macro_rules | `(tactic| walk_at "InvEndN") => `(tactic| (k_here; refine InvEndN.intro (by assumption) (by assumption) ⟨rfl, ⟨_, by with_unfolding_all rfl⟩, by kba_same⟩ (by rfl) own_l own_r))
local macro_rules | `(tactic| walk_at "subscriptTail") => `(tactic| (k_here; (with_reducible show wpAny _ _ (subscriptTail _ _ (Value.ref _) (Value.int _ _)) _ _ _); k_dflt (first
  | (refine' at_found ?N ?m ?d ?x alpha_dis ?j ?_ ?a ?b; (case j => exact alpha_at (by assumption)); (case N => k_asm); (case m => k_mem); (case d => assumption); (case x => assumption); (case a => with_unfolding_all rfl); (case b => intro _; with_unfolding_all rfl); k_whole; intro _ _)
  | (refine' at_missing ?N ?m ?d ?l ?hh ?x ?j ?_ ?a ?b; (case j => exact not_alpha (by assumption)); (case N => k_asm); (case m => k_mem); (case d => assumption); (case x => assumption); (case l => assumption); (case hh => with_unfolding_all rfl); (case a => with_unfolding_all rfl); (case b => intro _; with_unfolding_all rfl); k_whole; intro h' e' x'))))
local macro_rules | `(tactic| walk_at "pyIter bytes") => `(tactic| (k_here; (with_reducible show wpAny _ _ (pyIter (Value.bytes _ _)) (fun it s₂ => LoopAtV _ _ _ _ _ _ _ _ _ it s₂) _ _); (rename Fr _ _ _ _ => lF'); (rename News _ _ _ _ => lN'); (with_unfolding_all refine' iter_flag (y := PySem.Str.ofString "decimal") (by assumption) (by rfl) lF' lN' (by rfl) (by assumption) (by assumption) (by decide) (fun k' t' a' ta' h' tk' own' hmem' hlo' hoff' F' N' => ?_) (fun k' t' a' ta' h' tk' own' J' hmem' hbad' hoff' F' N' => ?_)); (all_goals (try simp only [List.nil_append, List.cons_append, List.append_nil] at N')); (all_goals (try k_fold))))
local macro_rules | `(tactic| walk_at "noteFrame ref") => `(tactic| (k_here; (with_reducible rename Heap.NewExc _ _ _ _ => hX'); k_dflt (refine' caught_own (T' := "KeyError") (V := "ValueError") ?K hX' ?F ?N ?XB ?TB ?ex PyProof.Rows.Boot.«KeyError» ?hn ?ey PyProof.Rows.Boot.«ValueError» ?hm excClass_ValueError kr_isExc_KeyError kr_notTuple_KeyError ?hs ?c1 ?c2 ?c3 ?c4 ?c5 ?c6 ?_; (case K => assumption); (case F => k_asm); (case N => k_asm); (case XB => assumption); (case TB => assumption); (case ex => k_is); (case ey => k_is); (case hn => decide); (case hm => decide); (case hs => rw [isSubtype_type]; kernel_rfl); (case c1 => exact rfl); (case c2 => exact rfl); (case c3 => exact rfl); (case c4 => decide); (case c5 => exact rfl); (case c6 => decide)); clear hX'; intro h' e' tk' R'))
local macro_rules | `(tactic| walk_at "leaving ref") => `(tactic| (k_here; k_dflt (refine' leave_heldX ?k1 ?k2 ?_; (case k1 => exact rfl); (case k2 => assumption)); intro h' S' U'))
theorem raised_sub {base G : Heap} {l : List Env} {e : Addr} {cls : Value} {news news' : List (Addr × Obj)} {h : Heap} (R : RaisedSN base G l e cls news h) (hs : ∀ q ∈ news', q ∈ news) : RaisedSN base G l e cls news' h := by
  obtain ⟨B, a0, b1, b2, b3, b4⟩ := R
  exact ⟨B, a0, b1, b2, fun q hq => b3 q (hs q hq), b4⟩

set_option maxHeartbeats 8000000 in
theorem dec_bad {b : Array UInt8} {t : Tok} {ks : List Int}
    (B : Below A₀ base outer h₀) (F : Fr h₀ L s.heap m) (X : (Mine.hd.heap_39 w.params).In h₀) (N : News h₀ L s.heap news)
    (T : Top Mine.hd.view_39 (looseW Mine.hd.view_39 [Str.ofString "b58encode_int", Str.ofString "b58encode", Str.ofString "b58decode_int"]) mean mg mb h₀) (hk : cs.kind = .function) (XB : (Mine.hd.heap_39 w.params).In base) (TB : Top Mine.hd.view_39 (looseW Mine.hd.view_39 [Str.ofString "b58encode_int", Str.ofString "b58encode", Str.ofString "b58decode_int"]) mean mg mb base)
    (hz : b.size ≤ 20) (hs : ∀ c ∈ b.toList, Builtin.Bytes.isSpace c = false) (hks : KBw.bInts b = ks) (hb : ∃ k ∈ ks, bad k) (hg : ∀ k ∈ ks, good k = true ∨ bad k)
    (hd : dp + 2 < recursionLimit) (hu : un + 16 < cLine)
    (h : ∀ (g h' : Heap) (tk : Nat) (e : Addr), Fr h₀ L g m → RaisedSN base g (envX cn cs L a ccd cl :: outer) e (.type "ValueError") news h' → g.UpToSlots h' → E (.ref e) { s with heap := h', toks := tk }) :
    wpAny (model PySem.Challenge.rw_ej5002_01.row.prog w) (ktrTop dp un gd cn cs L a ccd cl outer) (call (.ref 51) [.bytes b t]) Q E s := by
  revert X
  k_fill
  intro X
  refine wpAny_call ?_
  k_dflt (refine' code_def ?k1 ?k2 ?k3 ?k4 ?k5 ?kA ?kF ?kK ?k6 ?k7 ?k8 ?k9 ?kB ?_ ?c2 ?c3 ?c4 ?c5; (case kA => exact rfl); (case kF => exact rfl); (case kK => assumption); (case k1 => k_asm); (case k2 => k_asm); (case k3 => k_asm); (case k4 => k_asm); (case k5 => k_asm); (case k6 => k_is); (case k7 => k_is); (case k8 => ktr_room); (case k9 => first | exact BindsTo.of_eq rfl | exact binds_K (by k_in) rfl (by k_is) rfl rfl rfl | (refine' kp_binds ?kx ?ke; (case kx => k_in); (case ke => exact fun _ => rfl))); (case c5 => decide); (case kB => exact locs rfl); (case c2 => exact rfl); (case c3 => exact rfl); (case c4 => exact rfl); k_whole; intro g' L' h' FG' F' N' B' X' T'; (try dsimp only); (try k_lift B'); (try k_fold))
  k_steps
  · (with_reducible rename Fr _ _ _ _ => F')
    (with_reducible rename News _ _ _ _ => N')
    refine' InvEndN.intro F' N' ⟨rfl, Exists.intro _ ?e, ?s⟩ rfl own_l own_r
    case e => with_unfolding_all rfl
    case s =>
      intro z h1 h2
      simp only [if_neg h1, if_neg h2]
  · exact h _ _ _ _ (by assumption) (raised_sub (by assumption) fun q hq => .tail _ (List.mem_append_left _ hq)) (by assumption)
end
end Mine
end

section
open PySem PySem.W PyProof.Rows
set_option linter.unusedVariables false
set_option maxRecDepth 100000
namespace Mine
section
variable {w : World} {mean : ExcName → Option Value} {mg mb : Str → Option Value} {news : List (Addr × Obj)}
  {dp un : Nat} {gd : Option (List Code)} {cn : Str} {cs : Scope} {a : Addr} {ccd : Value} {cl : List (Str × Addr)} {outer : List Env} {A₀ : Around} {base h₀ : Heap} {L : Addr} {m : Str → Option Value} {s : Shared} {Q E : Value → Shared → Prop}
local macro_rules | `(tactic| walk_at "call ref") => `(tactic| (k_here; k_dflt (refine' dec_bad ?k1 ?k2 ?k3 ?k4 ?k5 ?k6 ?xb ?tb ?hz ?hs ?hks ?hb ?hg ?kd ?ku ?_; (case k1 => k_asm); (case k2 => k_asm); (case k3 => k_asm); (case k4 => k_asm); (case k5 => k_asm); (case k6 => exact rfl); (case xb => assumption); (case tb => assumption); (case hz => assumption); (case hs => assumption); (case hks => assumption); (case hb => assumption); (case hg => assumption); (case kd => ktr_room); (case ku => ktr_units)); intro g' h' tk' e' F' R' U'))

set_option maxHeartbeats 8000000 in
theorem kind_strange {b : Array UInt8} {t : Tok} {ks : List Int}
    (B : Below A₀ base [] h₀) (F : Fr h₀ L s.heap m) (X : (Mine.hd.heap_39 w.params).In h₀) (N : News h₀ L s.heap news)
    (T : Top Mine.hd.view_39 (looseW Mine.hd.view_39 [Str.ofString "b58encode_int", Str.ofString "b58encode", Str.ofString "b58decode_int"]) mean mg mb h₀) (hk : cs.kind = .function) (XB : (Mine.hd.heap_39 w.params).In base) (TB : Top Mine.hd.view_39 (looseW Mine.hd.view_39 [Str.ofString "b58encode_int", Str.ofString "b58encode", Str.ofString "b58decode_int"]) mean mg mb base)
    (hz : b.size ≤ 20) (hs : ∀ c ∈ b.toList, Builtin.Bytes.isSpace c = false) (hks : KBw.bInts b = ks) (hb : ∃ k ∈ ks, bad k) (hg : ∀ k ∈ ks, good k = true ∨ bad k)
    (hd : dp + 3 < recursionLimit) (hu : un + 24 < cLine)
    (h : ∀ (t : Tok) (h' : Heap) (tk' : Nat), Fr h₀ L h' m → News h₀ L h' news → Q (.str (PySem.Str.ofString "strange") t) { s with heap := h', toks := tk' }) :
    wpAny (model PySem.Challenge.rw_ej5002_01.row.prog w) (ktrTop dp un gd cn cs L a ccd cl []) (call (.ref 84) [.bytes b t]) Q E s := by
  revert X
  k_fill
  intro X
  refine wpAny_call ?_
  k_dflt (refine' code_defT ?k1 ?k2 ?k3 ?k4 ?k5 ?kA ?kF ?kK ?k6 ?k7 ?k8 ?k9 ?kB ?_ ?c2 ?c3 ?c4 ?c5; (case kA => exact rfl); (case kF => exact rfl); (case kK => assumption); (case k1 => k_asm); (case k2 => k_asm); (case k3 => k_asm); (case k4 => k_asm); (case k5 => k_asm); (case k6 => k_is); (case k7 => k_is); (case k8 => ktr_room); (case k9 => first | exact binds_K (by k_in) rfl (by k_is) rfl rfl rfl | exact BindsTo.of_eq rfl); (case kB => exact locs rfl); (case c2 => exact rfl); (case c3 => exact rfl); (case c4 => exact rfl); (case c5 => decide); k_whole; intro g' L' h' FG' F' N' B' X' T' D'; (try dsimp only); (try k_lift B'); (try k_fold))
  k_steps

  all_goals exact h _ _ _ (by assumption) (by assumption)
end
end Mine
end

section
open PySem PySem.W PyProof.Rows
set_option linter.unusedVariables false
set_option maxRecDepth 100000
namespace Mine
section
variable {prog : Program} {w : World} {A : Around} {E : Value → Shared → Prop} {s : Shared} {env : Env} {h₀ : Heap} {x : PySem.Str} {body : List Stmt} {Q : Flow → Shared → Prop} {m₀ : PySem.Str → Option Value} {news : List (Addr × Obj)}
theorem iter_noneL {l : Addr} {vs : List Value} {ns : List Int} {nn : Nat} (hh : A.handled = none) (hl : (l, W.listOf vs.toArray nn) ∈ news) (hi : IntsAre vs ns) (F : Fr h₀ env.locals s.heap m₀) (N : News h₀ env.locals s.heap news)
    (turn : ∀ k t h tk own, k ∈ ns → OwnOff own (news.map (·.1)) → Fr h₀ env.locals h (fun z => if z = x then some (.int k t) else m₀ z) → News h₀ env.locals h (news ++ own) →
      wpAny (model prog w) A (execs body env) (InvPostN h₀ env.locals (fun m' nx => nx = news ∧ ∀ z, z ≠ x → m' z = m₀ z) own (news.map (·.1)) { s with heap := h, toks := tk } Q) E { s with heap := h, toks := tk })
    (done : ∀ (u : PySem.Str → Option Value) h tk, Fr h₀ env.locals h (fun z => if z = x then u z else m₀ z) → News h₀ env.locals h news → Q .next { s with heap := h, toks := tk }) :
    wpAny (model prog w) A (pyIter (.ref l)) (fun it s₂ => LoopAtV prog w A h₀ env x body Q E it s₂) E s := by
  refine iter_invNL (fun _ m nx => nx = news ∧ ∀ z, z ≠ x → m z = m₀ z) hh hl hi F N ⟨rfl, fun _ _ => rfl⟩ ?_ ?_
  · rintro i n t m₁ nx h tk own hn _ hoff hmem ⟨rfl, hm⟩ F₁ N₁
    rw [map_none hm] at F₁
    refine wpAny_mono (turn n t h tk own (List.mem_of_getElem? hn) hoff F₁ N₁) (fun f s₂ hf => ?_) fun _ _ y => y
    have put : ∀ s₃, InvEndN h₀ env.locals (fun m' nx' => nx' = nx ∧ ∀ z, z ≠ x → m' z = m₀ z) own (nx.map (·.1)) { s with heap := h, toks := tk } s₃ →
        InvEndN h₀ env.locals (fun m' nx' => (l, W.listOf vs.toArray nn) ∈ nx' ∧ nx' = nx ∧ ∀ z, z ≠ x → m' z = m₀ z) own (nx.map (·.1)) { s with heap := h, toks := tk } s₃ := by
      rintro s₃ ⟨h', tk', m', news', nx', e, F', N', a1, a2, a3, rfl, a5⟩
      exact ⟨h', tk', m', news', _, e, F', N', a1, a2, a3, hl, rfl, a5⟩
    cases f with
    | ret v => exact hf
    | brk => exact hf
    | next => exact put _ hf
    | cont => exact put _ hf
  · rintro m₁ nx h tk _ ⟨rfl, hm⟩ F₁ N₁
    refine done m₁ h tk ?_ N₁
    rw [done_none hm]
    exact F₁
end

section
variable {prog : Program} {w : World} {A : Around} {E : Value → Shared → Prop} {s : Shared} {value slice : PySem.Expr} {b : Array UInt8} {t ui : Tok} {i : Int}
theorem range_at {n : Nat} (h0 : 0 ≤ i) (h1 : i < n) : (rangeKs 0 n).getD i.toNat 0 = i := by
  rw [kll_at (by omega), Int.toNat_of_nonneg h0, Int.zero_add]
theorem range_mem {n : Nat} (h : i ∈ rangeKs 0 n) : 0 ≤ i ∧ i < n := by
  unfold rangeKs at h
  obtain ⟨j, hj, rfl⟩ := List.mem_map.mp h
  have := List.mem_range.mp hj
  omega
theorem whole_item {Q : Value → Shared → Prop} (hk : KBw.bInts b = rangeKs 0 128) (hm : i ∈ rangeKs 0 128) (h : ∀ t' k, Q (.int i t') { s with toks := k })
    (hs : subscripted slice false (.bytes b t) (.int i ui) = operate [.bytes b t, .int i ui] (getItem (.bytes b t) (.int i ui)))
    (ht : ∀ r, letTemporaryGo value (.bytes b t) r = pure ()) : wpAny (model prog w) A (subscriptTail value slice (.bytes b t) (.int i ui)) Q E s := by
  obtain ⟨h0, h1⟩ := range_mem hm
  refine KBw.item_K hk (by rw [rangeKs_length]; decide) h0 (by rw [rangeKs_length]; exact h1) (fun t' k _ _ => ?_) hs ht
  rw [range_at h0 h1]
  exact h t' k
theorem whole_len {Q : Value → Shared → Prop} (hk : KBw.bInts b = rangeKs 0 128) (h : Q (.int 128 (s.toks + 1)) { s with toks := s.toks + 1 + 1 }) : wpAny (model prog w) A (call (.builtin "len") [.bytes b t]) Q E s :=
  KBw.len_K hk (by rw [rangeKs_length]; decide) (by rw [rangeKs_length]; exact h)
end
def whole : Array UInt8 := (txt (rangeKs 0 128)).cps.map Nat.toUInt8
theorem whole_ints : KBw.bInts whole = rangeKs 0 128 := by decide +kernel
theorem asc_range : ∀ c ∈ (txt (rangeKs 0 128)).cps.toList, c < 128 := by decide +kernel
theorem siz_range : (txt (rangeKs 0 128)).cps.size ≤ 1000000 := by decide +kernel
theorem bnd_range : ∀ n ∈ rangeKs 0 128, 0 ≤ n ∧ n < 55296 := fun n h => by have := range_mem h; omega
theorem len_range : (rangeKs 0 128).length ≤ 1000 := by rw [rangeKs_length]; decide
end Mine
end

section
open PySem PySem.W PyProof.Rows
set_option linter.unusedVariables false
set_option maxRecDepth 100000
namespace Mine
theorem bints_inj {a b : Array UInt8} (h : KBw.bInts a = KBw.bInts b) : a = b := by
  refine Array.ext' ?_
  have inj : ∀ {l r : List UInt8}, l.map (fun c => (c.toNat : Int)) = r.map (fun c => (c.toNat : Int)) → l = r := by
    intro l
    induction l with
    | nil => intro r h; cases r with
      | nil => rfl
      | cons _ _ => cases h
    | cons x xs ih => intro r h; cases r with
      | nil => cases h
      | cons y ys =>
        simp only [List.map_cons, List.cons.injEq] at h
        have e : x = y := UInt8.toNat_inj.mp (Int.ofNat_inj.mp h.1)
        rw [e, ih h.2]
  exact inj h
theorem txt_ints {R : List Int} (hb : ∀ n ∈ R, 0 ≤ n ∧ n < 128) : KBw.bInts ((txt R).cps.map Nat.toUInt8) = R := by
  show ((txt R).cps.map Nat.toUInt8).toList.map (fun c => (c.toNat : Int)) = R
  rw [Array.toList_map]
  show (((R.map Int.toNat).toArray).toList.map Nat.toUInt8).map (fun c => (c.toNat : Int)) = R
  rw [List.map_map, List.map_map]
  refine (List.map_congr_left fun n hn => ?_).trans (List.map_id R)
  obtain ⟨h0, h1⟩ := hb n hn
  show (((n.toNat).toUInt8.toNat : Nat) : Int) = n
  have : (n.toNat).toUInt8.toNat = n.toNat := Nat.mod_eq_of_lt (by omega)
  rw [this]
  omega
theorem txt_mem {R : List Int} {c : Nat} (h : c ∈ (txt R).cps.toList) : ∃ n ∈ R, n.toNat = c := by
  have h : c ∈ R.map Int.toNat := h
  obtain ⟨n, hn, e⟩ := List.mem_map.mp h
  exact ⟨n, hn, e⟩
theorem txt_asc {R : List Int} (hb : ∀ n ∈ R, 0 ≤ n ∧ n < 128) : ∀ c ∈ (txt R).cps.toList, c < 128 := fun c h => by
  obtain ⟨n, hn, rfl⟩ := txt_mem h
  have := hb n hn
  omega
theorem txt_size (R : List Int) : (txt R).cps.size = R.length := by
  show ((R.map Int.toNat).toArray).size = _
  simp
theorem row_len (f : Int → Int) (z : Int) : (List.map f (rangeKs 0 (z.fmod 21 - 0).toNat)).length ≤ 20 := by
  rw [List.length_map, rangeKs_length]
  have := Int.fmod_lt_of_pos z (show (0 : Int) < 21 by decide)
  omega
theorem row_bnd (f : Int → Int) (ks : List Int) : ∀ n ∈ List.map (fun k => (f k).fmod 128) ks, 0 ≤ n ∧ n < 128 := fun n h => by
  obtain ⟨k, _, rfl⟩ := List.mem_map.mp h
  exact ⟨Int.fmod_nonneg_of_pos _ (by decide), Int.fmod_lt_of_pos _ (by decide)⟩
theorem wide_bnd {R : List Int} (hb : ∀ n ∈ R, 0 ≤ n ∧ n < 128) : ∀ n ∈ R, 0 ≤ n ∧ n < 55296 := fun n h => by
  have := hb n h
  omega
theorem size_of {W : Array UInt8} {R : List Int} {n : Nat} (h : KBw.bInts W = R) (hn : R.length ≤ n) : W.size ≤ n := by
  rw [← KBw.ints_length, h]; exact hn
theorem in_low {R : List Int} (hb : ∀ n ∈ R, 0 ≤ n ∧ n < 128) : KBa.In R := fun n h => by
  have := hb n h
  omega
theorem in_oct (f : Int → Int) (ks : List Int) : KBa.In (List.map (fun k => (f k).fmod 256) ks) := fun n h => by
  obtain ⟨k, _, rfl⟩ := List.mem_map.mp h
  exact ⟨Int.fmod_nonneg_of_pos _ (by decide), Int.fmod_lt_of_pos _ (by decide)⟩
section
variable {prog : Program} {w : World} {A : Around} {E : Value → Shared → Prop} {s : Shared} {h₀ : Heap} {L : Addr} {m : PySem.Str → Option Value} {news : List (Addr × Obj)} {D : Addr} {vs : List Value} {ns : List Int}
theorem make_ints {Q : Value → Shared → Prop} (F : Fr h₀ L s.heap m) (N : News h₀ L s.heap news) (hh : A.handled = none) (hl : s.heap.IsList D vs.toArray) (hi : IntsAre vs ns) (hr : KBa.In ns) (hn : ns.length ≤ 1000)
    (h : ∀ W t' h' k, KBw.bInts W = ns → Fr h₀ L h' m → News h₀ L h' news → Q (.bytes W t') { s with heap := h', toks := k }) : wpAny (model prog w) A (call (.type "bytes") [.ref D]) Q E s :=
  KBa.make_K F N hh hl hi hr (by omega) fun h' t' k F' N' _ => h _ t' h' k (KBa.ints_make hr) F' N'
theorem ne_same {a b : Array UInt8} {R : List Int} {t u : Tok} {Q : Value → Shared → Prop} (ha : KBw.bInts a = R) (hb : KBw.bInts b = R) (h : Q (.bool false) s) : wpAny (model prog w) A (compareOp .NotEq (.bytes a t) (.bytes b u)) Q E s := by
  have e : a = b := bints_inj (ha.trans hb.symm)
  subst e
  refine ne_bytes ?_
  rw [show (a.toList != a.toList) = false from by simp]
  exact h
theorem ne_self {a : Array UInt8} {t u : Tok} {Q : Value → Shared → Prop} (h : Q (.bool false) s) : wpAny (model prog w) A (compareOp .NotEq (.bytes a t) (.bytes a u)) Q E s := ne_same rfl rfl h
theorem ne_enc {a b : Array UInt8} {R : List Int} {t u : Tok} {Q : Value → Shared → Prop} (ha : KBw.bInts a = R) (hb : KBw.bInts b = R) (h : Q (.bool false) s) : wpAny (model prog w) A (compareOp .NotEq (.bytes (encF a) t) (.bytes (encF b) u)) Q E s := by
  have e : a = b := bints_inj (ha.trans hb.symm)
  subst e
  exact ne_self h
end
end Mine
end

section
open PySem PySem.W PyProof.Rows
set_option linter.unusedVariables false
set_option maxRecDepth 100000
namespace Mine
def Part (R A : List Int) : Prop := A.length ≤ R.length ∧ ∀ n ∈ A, n ∈ R
theorem Part.take (R : List Int) (k : Nat) : Part R (R.take k) := ⟨by rw [List.length_take]; omega, fun n h => List.mem_of_mem_take h⟩
theorem Part.drop (R : List Int) (k : Nat) : Part R (R.drop k) := ⟨by rw [List.length_drop]; omega, fun n h => List.mem_of_mem_drop h⟩
theorem part_wide {R A : List Int} (p : Part R A) (hb : ∀ n ∈ R, 0 ≤ n ∧ n < 128) : ∀ n ∈ A, 0 ≤ n ∧ n < 55296 := fun n h => by
  have := hb n (p.2 n h)
  omega
theorem part_len {R A : List Int} {k : Nat} (p : Part R A) (hn : R.length ≤ 20) (hk : 20 ≤ k) : A.length ≤ k := Nat.le_trans p.1 (Nat.le_trans hn hk)
theorem str_app (a b : PySem.Str) : (a ++ b).cps = a.cps ++ b.cps := PySem.Str.cps_append a b
theorem far_in {a b : PySem.Str} {z : Nat} (h : 128 ≤ z) : ∃ c ∈ (a ++ (⟨#[z]⟩ : PySem.Str) ++ b).cps.toList, 128 ≤ c := ⟨z, by simp [str_app], h⟩
theorem far_size {A B : List Int} {z : Nat} (ha : A.length ≤ 1000) (hb : B.length ≤ 1000) : (txt A ++ (⟨#[z]⟩ : PySem.Str) ++ txt B).cps.size ≤ 1000000 := by
  simp only [str_app, Array.size_append, txt_size]
  have : (#[z] : Array Nat).size = 1 := rfl
  omega
section
variable {prog : Program} {w : World} {A : Around} {E : Value → Shared → Prop} {s : Shared} {h₀ : Heap} {L l : Addr} {m : PySem.Str → Option Value} {news : List (Addr × Obj)} {value slice : PySem.Expr} {vs : List Value} {ns : List Int} {y : Int} {t : Tok} {Q : Value → Shared → Prop}
theorem cut_upto (F : Fr h₀ L s.heap m) (N : News h₀ L s.heap news) (hl : s.heap.IsList l vs.toArray) (hi : IntsAre vs ns) (hn : ns.length ≤ 1000) (h0 : 0 ≤ y)
    (h : ∀ D ws P h', Fr h₀ L h' m → News h₀ L h' ((D, W.listOf (List.toArray ws) 0) :: news) → (∀ p ∈ news, p.1 < D) → IntsAre ws P → Part ns P → Q (.ref D) { s with heap := h' })
    (hs : subscripted slice false (.ref l) (.ref s.heap.objs.size) = operate [.ref s.heap.objs.size, .ref l] (getItem (.ref l) (.ref s.heap.objs.size))) (ht : ∀ r, letTemporaryGo value (.ref l) r = pure ()) :
    wpAny (model prog w) A (subscriptTail value slice (.ref l) (.ref s.heap.objs.size)) Q E { s with heap := s.heap.push { cls := .type "slice", data := .fields #[.none, .int y t, .none] } } :=
  kmk_slice_ints F N hl IsPart.none (IsPart.int _ _) hi (slice_ints_uptoW hi h0) rfl (fun D ws h' F' N' l1 hI _ _ => h D ws _ h' F' N' l1 hI (Part.take ns _)) hs ht (kmk_sz hi (by rw [sizeLine_eq]; omega))
theorem cut_from (F : Fr h₀ L s.heap m) (N : News h₀ L s.heap news) (hl : s.heap.IsList l vs.toArray) (hi : IntsAre vs ns) (hn : ns.length ≤ 1000) (h0 : 0 ≤ y)
    (h : ∀ D ws P h', Fr h₀ L h' m → News h₀ L h' ((D, W.listOf (List.toArray ws) 0) :: news) → (∀ p ∈ news, p.1 < D) → IntsAre ws P → Part ns P → Q (.ref D) { s with heap := h' })
    (hs : subscripted slice false (.ref l) (.ref s.heap.objs.size) = operate [.ref s.heap.objs.size, .ref l] (getItem (.ref l) (.ref s.heap.objs.size))) (ht : ∀ r, letTemporaryGo value (.ref l) r = pure ()) :
    wpAny (model prog w) A (subscriptTail value slice (.ref l) (.ref s.heap.objs.size)) Q E { s with heap := s.heap.push { cls := .type "slice", data := .fields #[.int y t, .none, .none] } } :=
  kmk_slice_ints F N hl (IsPart.int _ _) IsPart.none hi (slice_ints_fromW hi h0) rfl (fun D ws h' F' N' l1 hI _ _ => h D ws _ h' F' N' l1 hI (Part.drop ns _)) hs ht (kmk_sz hi (by rw [sizeLine_eq]; omega))
end
theorem fmod_pos_len (z : Int) (k : Nat) : 0 ≤ z.fmod ((k : Int) + 1) := Int.fmod_nonneg_of_pos _ (by omega)
theorem sz_one {P : List Int} {z : Nat} (h : P.length ≤ 1000) : (txt P).length + (⟨#[z]⟩ : PySem.Str).length ≤ sizeLine := by
  show (txt P).cps.size + 1 ≤ sizeLine
  rw [txt_size, sizeLine_eq]; omega
theorem sz_two {P R : List Int} {z : Nat} (h : P.length ≤ 1000) (h' : R.length ≤ 1000) : (txt P ++ (⟨#[z]⟩ : PySem.Str)).length + (txt R).length ≤ sizeLine := by
  show (txt P ++ (⟨#[z]⟩ : PySem.Str)).cps.size + (txt R).cps.size ≤ sizeLine
  rw [str_app, Array.size_append, txt_size, txt_size, sizeLine_eq]
  have : ((⟨#[z]⟩ : PySem.Str).cps).size = 1 := rfl
  omega
theorem far_ge (z : Int) : 128 ≤ (128 + z.fmod 900).toNat := by
  have := Int.fmod_nonneg_of_pos z (show (0 : Int) < 900 by decide)
  omega
theorem far_ge2 (z : Int) : 256 ≤ (256 + z.fmod 745).toNat ∧ (256 + z.fmod 745).toNat ≤ 1000 := by
  have := Int.fmod_nonneg_of_pos z (show (0 : Int) < 745 by decide)
  have := Int.fmod_lt_of_pos z (show (0 : Int) < 745 by decide)
  omega
end Mine
end

section
open PySem PySem.W PyProof.Rows
set_option linter.unusedVariables false
set_option maxRecDepth 100000
namespace Mine
theorem good_len (f : Int → Int) (z : Int) : (List.map f (rangeKs 0 (z.fmod 8 - 0).toNat)).length ≤ 7 := by
  rw [List.length_map, rangeKs_length]
  have := Int.fmod_lt_of_pos z (show (0 : Int) < 8 by decide)
  omega
theorem good_bnd (f : Int → Int) (ks : List Int) : ∀ n ∈ List.map (fun k => 49 + (f k).fmod 9) ks, 49 ≤ n ∧ n ≤ 57 := fun n h => by
  obtain ⟨k, _, rfl⟩ := List.mem_map.mp h
  have := Int.fmod_nonneg_of_pos (f k) (show (0 : Int) < 9 by decide)
  have := Int.fmod_lt_of_pos (f k) (show (0 : Int) < 9 by decide)
  show 49 ≤ 49 + (f k).fmod 9 ∧ 49 + (f k).fmod 9 ≤ 57
  omega
theorem part_dig {R A : List Int} (p : Part R A) (hb : ∀ n ∈ R, 49 ≤ n ∧ n ≤ 57) : ∀ n ∈ A, 49 ≤ n ∧ n ≤ 57 := fun n h => hb n (p.2 n h)
theorem dig_wide {A : List Int} (hb : ∀ n ∈ A, 49 ≤ n ∧ n ≤ 57) : ∀ n ∈ A, 0 ≤ n ∧ n < 55296 := fun n h => by
  have := hb n h
  omega
theorem dig_low {A : List Int} (hb : ∀ n ∈ A, 49 ≤ n ∧ n ≤ 57) : ∀ n ∈ A, 0 ≤ n ∧ n < 128 := fun n h => by
  have := hb n h
  omega
theorem part_len7 {R A : List Int} {k : Nat} (p : Part R A) (hn : R.length ≤ 7) (hk : 7 ≤ k) : A.length ≤ k := Nat.le_trans p.1 (Nat.le_trans hn hk)
theorem space_far : ∀ z < 1001, 256 ≤ z → Unicode.isSpace z = false := by decide +kernel
theorem space_dig : ∀ z < 58, 49 ≤ z → Unicode.isSpace z = false := by decide +kernel
theorem nospace_txt {A : List Int} (hb : ∀ n ∈ A, 49 ≤ n ∧ n ≤ 57) : ∀ c ∈ (txt A).cps.toList, Unicode.isSpace c = false := fun c h => by
  obtain ⟨n, hn, rfl⟩ := txt_mem h
  have := hb n hn
  exact space_dig _ (by omega) (by omega)
theorem nospace_far {A B : List Int} {z : Nat} (ha : ∀ n ∈ A, 49 ≤ n ∧ n ≤ 57) (hb : ∀ n ∈ B, 49 ≤ n ∧ n ≤ 57) (hz : 256 ≤ z ∧ z ≤ 1000) : ∀ c ∈ (txt A ++ (⟨#[z]⟩ : PySem.Str) ++ txt B).cps.toList, Unicode.isSpace c = false := fun c h => by
  simp only [str_app, Array.toList_append, List.mem_append] at h
  rcases h with (h | h) | h
  · exact nospace_txt ha c h
  · obtain rfl : c = z := by simpa using h
    exact space_far _ (by omega) hz.1
  · exact nospace_txt hb c h
theorem far_ge3 (z : Int) : 128 ≤ (256 + z.fmod 745).toNat := by
  have := far_ge2 z
  omega
theorem bytes_mem {W : Array UInt8} {R : List Int} (h : KBw.bInts W = R) {c : UInt8} (hc : c ∈ W.toList) : (c.toNat : Int) ∈ R := by
  rw [← h]
  exact List.mem_map_of_mem hc
theorem nospace_bytes {W : Array UInt8} {R : List Int} (h : KBw.bInts W = R) (hR : ∀ n ∈ R, 48 ≤ n) : ∀ c ∈ W.toList, Builtin.Bytes.isSpace c = false := fun c hc => by
  have h48 := hR _ (bytes_mem h hc)
  have hn : 48 ≤ c.toNat := by omega
  unfold Builtin.Bytes.isSpace
  have e1 : (c == 32) = false := by
    rw [beq_eq_false_iff_ne]
    intro q
    rw [q] at hn
    exact absurd hn (by decide)
  have e2 : decide (c ≤ 13) = false := by
    rw [decide_eq_false_iff_not]
    intro q
    have : c.toNat ≤ 13 := q
    omega
  rw [e1, e2]
  simp
/-- digits about one strange octet -/
theorem mix_bad {A B : List Int} {x : Int} (hx : bad x) : ∃ k ∈ A ++ [x] ++ B, bad k := ⟨x, by simp, hx⟩
theorem mix_all {A B : List Int} {x : Int} (ha : ∀ n ∈ A, 49 ≤ n ∧ n ≤ 57) (hb : ∀ n ∈ B, 49 ≤ n ∧ n ≤ 57) (hx : bad x) : ∀ k ∈ A ++ [x] ++ B, good k = true ∨ bad k := fun k h => by
  simp only [List.mem_append, List.mem_singleton] at h
  rcases h with (h | rfl) | h
  · exact .inl (decide_eq_true (ha k h))
  · exact .inr hx
  · exact .inl (decide_eq_true (hb k h))
theorem mix_48 {A B : List Int} {x : Int} (ha : ∀ n ∈ A, 49 ≤ n ∧ n ≤ 57) (hb : ∀ n ∈ B, 49 ≤ n ∧ n ≤ 57) (hx : bad x) : ∀ k ∈ A ++ [x] ++ B, 48 ≤ k := fun k h => by
  simp only [List.mem_append, List.mem_singleton] at h
  rcases h with (h | rfl) | h
  · have := ha k h; omega
  · unfold bad at hx; omega
  · have := hb k h; omega
theorem mix_in {A B : List Int} {x : Int} (ha : ∀ n ∈ A, 49 ≤ n ∧ n ≤ 57) (hb : ∀ n ∈ B, 49 ≤ n ∧ n ≤ 57) (hx : 0 ≤ x ∧ x < 256) : KBa.In (A ++ [x] ++ B) := fun k h => by
  simp only [List.mem_append, List.mem_singleton] at h
  rcases h with (h | rfl) | h
  · have := ha k h; omega
  · exact hx
  · have := hb k h; omega
theorem mix_len {A B : List Int} {x : Int} {n : Nat} (ha : A.length ≤ 7) (hb : B.length ≤ 7) (hn : 15 ≤ n) : (A ++ [x] ++ B).length ≤ n := by
  simp only [List.length_append, List.length_singleton]
  omega
theorem bad_far (z : Int) : bad (128 + z.fmod 128) := Or.inr (by
  have := Int.fmod_nonneg_of_pos z (show (0 : Int) < 128 by decide)
  omega)
theorem bad_zero : bad 48 := Or.inl rfl
theorem oct_far (z : Int) : 0 ≤ 128 + z.fmod 128 ∧ 128 + z.fmod 128 < 256 := by
  have := Int.fmod_nonneg_of_pos z (show (0 : Int) < 128 by decide)
  have := Int.fmod_lt_of_pos z (show (0 : Int) < 128 by decide)
  omega
theorem dig_48 {A : List Int} (hb : ∀ n ∈ A, 49 ≤ n ∧ n ≤ 57) : ∀ n ∈ A, 48 ≤ n := fun n h => by
  have := hb n h
  omega
end Mine
end

section
open PySem PySem.W PyProof.Rows
set_option linter.unusedVariables false
set_option maxRecDepth 100000
namespace Mine
section
variable {prog : Program} {w : World} {A : Around} {E : Value → Shared → Prop} {s : Shared} {Q : Value → Shared → Prop}
theorem eq_selfI {n : Int} {t u : Tok} (h : Q (.bool true) s) : wpAny (model prog w) A (compareOp .Eq (.int n t) (.int n u)) Q E s := eq_int (by simpa using h)
theorem room_one {B : List Int} {x : Int} (h : B.length ≤ 7) : B.length + [x].length ≤ sizeLine := by
  rw [sizeLine_eq]; simp only [List.length_cons, List.length_nil]; omega
theorem room_two {B C : List Int} {x : Int} (h : B.length ≤ 7) (h' : C.length ≤ 7) : (B ++ [x]).length + C.length ≤ sizeLine := by
  rw [sizeLine_eq]; simp only [List.length_cons, List.length_nil, List.length_append]; omega
end
theorem len63 {ns : List Int} (h : ¬ ((63 : Nat) : Int) < (ns.length : Int)) : ns.length ≤ 63 := by omega
theorem step_lo {c k : Int} (hc : 0 ≤ c) (h : 0 ≤ k) : 0 ≤ c + k := by omega
theorem step_hi8 {c k z : Int} (hc : c ≤ 900) (h : k < 0 + ((z.fmod 8 - 0).toNat : Int)) : c + k < 1000 := by
  have := Int.fmod_lt_of_pos z (show (0 : Int) < 8 by decide)
  omega
theorem step_hi21 {c k z : Int} (hc : c ≤ 900) (h : k < 0 + ((z.fmod 21 - 0).toNat : Int)) : c + k < 1000 := by
  have := Int.fmod_lt_of_pos z (show (0 : Int) < 21 by decide)
  omega
theorem row_len1000 (f : Int → Int) (z : Int) : (List.map f (rangeKs 0 (z.fmod 21 - 0).toNat)).length ≤ 1000 := Nat.le_trans (row_len f z) (by decide)
theorem good_len1000 (f : Int → Int) (z : Int) : (List.map f (rangeKs 0 (z.fmod 8 - 0).toNat)).length ≤ 1000 := Nat.le_trans (good_len f z) (by decide)
theorem good_len20 (f : Int → Int) (z : Int) : (List.map f (rangeKs 0 (z.fmod 8 - 0).toNat)).length ≤ 20 := Nat.le_trans (good_len f z) (by decide)
theorem part1000 {R A : List Int} (p : Part R A) (hn : R.length ≤ 20) : A.length ≤ 1000 := part_len p hn (by decide)
theorem part7_1000 {R A : List Int} (p : Part R A) (hn : R.length ≤ 7) : A.length ≤ 1000 := part_len7 p hn (by decide)
theorem part7 {R A : List Int} (p : Part R A) (hn : R.length ≤ 7) : A.length ≤ 7 := part_len7 p hn (by decide)
end Mine
end

section
open PySem PySem.W PyProof.Rows
set_option linter.unusedVariables false
set_option maxRecDepth 100000
namespace Mine
section
variable {w : World} {mean : ExcName → Option Value} {mg mb : Str → Option Value} {news : List (Addr × Obj)}
  {dp un : Nat} {gd : Option (List Code)} {cn : Str} {cs : Scope} {a : Addr} {ccd : Value} {cl : List (Str × Addr)} {outer : List Env} {A₀ : Around} {base h₀ : Heap} {L : Addr} {m : Str → Option Value} {s : Shared} {Q E : Value → Shared → Prop}

set_option maxHeartbeats 8000000 in
theorem scrub_whole {t : Tok}
    (B : Below A₀ base outer h₀) (F : Fr h₀ L s.heap m) (X : (Mine.hd.heap_39 w.params).In h₀) (N : News h₀ L s.heap news)
    (T : Top Mine.hd.view_39 (looseW Mine.hd.view_39 [Str.ofString "b58encode_int", Str.ofString "b58encode", Str.ofString "b58decode_int"]) mean mg mb h₀) (hk : cs.kind = .function)
    
    (hd : dp + 1 < recursionLimit) (hu : un + 8 < cLine)
    (h : ∀ (W : Array UInt8) (t : Tok) (h' : Heap) (tk' : Nat), KBw.bInts W = rangeKs 0 128 → Fr h₀ L h' m → News h₀ L h' news → Q (.bytes W t) { s with heap := h', toks := tk' }) :
    wpAny (model PySem.Challenge.rw_ej5002_01.row.prog w) (ktrTop dp un gd cn cs L a ccd cl outer) (call (.ref 21) [.str (txt (rangeKs 0 128)) t]) Q E s := by
  exact scrub_ascii B F X N T hk asc_range siz_range hd hu fun t h' tk' F N => h whole t h' tk' whole_ints F N

set_option maxHeartbeats 8000000 in
theorem scrub_ints {R : List Int} {t : Tok}
    (B : Below A₀ base outer h₀) (F : Fr h₀ L s.heap m) (X : (Mine.hd.heap_39 w.params).In h₀) (N : News h₀ L s.heap news)
    (T : Top Mine.hd.view_39 (looseW Mine.hd.view_39 [Str.ofString "b58encode_int", Str.ofString "b58encode", Str.ofString "b58decode_int"]) mean mg mb h₀) (hk : cs.kind = .function)
    (hb : ∀ n ∈ R, 0 ≤ n ∧ n < 128) (hn : R.length ≤ 1000)
    (hd : dp + 1 < recursionLimit) (hu : un + 8 < cLine)
    (h : ∀ (W : Array UInt8) (t : Tok) (h' : Heap) (tk' : Nat), KBw.bInts W = R → Fr h₀ L h' m → News h₀ L h' news → Q (.bytes W t) { s with heap := h', toks := tk' }) :
    wpAny (model PySem.Challenge.rw_ej5002_01.row.prog w) (ktrTop dp un gd cn cs L a ccd cl outer) (call (.ref 21) [.str (txt R) t]) Q E s := by
  exact scrub_ascii B F X N T hk (txt_asc hb) (by rw [txt_size]; omega) hd hu fun t h' tk' F N => h _ t h' tk' (txt_ints hb) F N
theorem empty_map : (PySem.Str.ofString "").cps.map Nat.toUInt8 = #[] := by decide +kernel

set_option maxHeartbeats 8000000 in
theorem scrub_empty {t : Tok}
    (B : Below A₀ base outer h₀) (F : Fr h₀ L s.heap m) (X : (Mine.hd.heap_39 w.params).In h₀) (N : News h₀ L s.heap news)
    (T : Top Mine.hd.view_39 (looseW Mine.hd.view_39 [Str.ofString "b58encode_int", Str.ofString "b58encode", Str.ofString "b58decode_int"]) mean mg mb h₀) (hk : cs.kind = .function)
    
    (hd : dp + 1 < recursionLimit) (hu : un + 8 < cLine)
    (h : ∀ (t : Tok) (h' : Heap) (tk' : Nat), Fr h₀ L h' m → News h₀ L h' news → Q (.bytes #[] t) { s with heap := h', toks := tk' }) :
    wpAny (model PySem.Challenge.rw_ej5002_01.row.prog w) (ktrTop dp un gd cn cs L a ccd cl outer) (call (.ref 21) [.str (PySem.Str.ofString "") t]) Q E s := by
  refine scrub_ascii B F X N T hk (by decide +kernel) (by decide +kernel) hd hu fun t h' tk' F N => ?_
  rw [empty_map]
  exact h t h' tk' F N

set_option maxHeartbeats 8000000 in
theorem dec_ints {R : List Int} {t : Tok}
    (B : Below A₀ base outer h₀) (F : Fr h₀ L s.heap m) (X : (Mine.hd.heap_39 w.params).In h₀) (N : News h₀ L s.heap news)
    (T : Top Mine.hd.view_39 (looseW Mine.hd.view_39 [Str.ofString "b58encode_int", Str.ofString "b58encode", Str.ofString "b58decode_int"]) mean mg mb h₀) (hk : cs.kind = .function)
    (hb : ∀ n ∈ R, 49 ≤ n ∧ n ≤ 57) (hn : R.length ≤ 20)
    (hd : dp + 2 < recursionLimit) (hu : un + 16 < cLine)
    (h : ∀ (t : Tok) (h' : Heap) (tk' : Nat), Fr h₀ L h' m → News h₀ L h' news → Q (.int (decI R) t) { s with heap := h', toks := tk' }) :
    wpAny (model PySem.Challenge.rw_ej5002_01.row.prog w) (ktrTop dp un gd cn cs L a ccd cl outer) (call (.ref 51) [.str (txt R) t]) Q E s := by
  exact dec_text B F X N T hk (txt_asc (dig_low hb)) (nospace_txt hb) (by rw [txt_size]; omega) (txt_ints (dig_low hb)) hb hd hu h

set_option maxHeartbeats 8000000 in
theorem enc_ints {R : List Int} {t : Tok}
    (B : Below A₀ base outer h₀) (F : Fr h₀ L s.heap m) (X : (Mine.hd.heap_39 w.params).In h₀) (N : News h₀ L s.heap news)
    (T : Top Mine.hd.view_39 (looseW Mine.hd.view_39 [Str.ofString "b58encode_int", Str.ofString "b58encode", Str.ofString "b58decode_int"]) mean mg mb h₀) (hk : cs.kind = .function)
    (hb : ∀ n ∈ R, 0 ≤ n ∧ n < 128) (hn : R.length ≤ 20)
    (hd : dp + 2 < recursionLimit) (hu : un + 16 < cLine)
    (h : ∀ (W : Array UInt8) (t : Tok) (h' : Heap) (tk' : Nat), KBw.bInts W = R → Fr h₀ L h' m → News h₀ L h' news → Q (.bytes (encF W) t) { s with heap := h', toks := tk' }) :
    wpAny (model PySem.Challenge.rw_ej5002_01.row.prog w) (ktrTop dp un gd cn cs L a ccd cl outer) (call (.ref 37) [.str (txt R) t]) Q E s := by
  exact enc_text B F X N T hk (txt_asc hb) (by rw [txt_size]; omega) hd hu fun t h' tk' F N => h _ t h' tk' (txt_ints hb) F N
end
local macro_rules | `(tactic| walk_at "call ref") => `(tactic| (k_here; refine stop_here ?_))
local macro_rules | `(tactic| walk_at "call type:list") => `(tactic| (k_here; (with_reducible show wpAny _ _ (call (Value.type _) [Value.ref _]) _ _ _); (rename IsRange _ _ _ _ _ _ _ _ => rgX); (with_unfolding_all refine' kll_range (a := 0) (b := 128) (n := 128) ?k0 ?k1 ?k2 ?k3 ?k4 ?k5 ?k6 ?_; (case k0 => rfl); (case k1 => k_asm); (case k2 => k_asm); (case k3 => first | exact rgX | assumption); (case k4 => decide); (case k5 => rfl); (case k6 => exact Nat.le_of_ble_eq_true rfl); k_whole); intro D' vs' c' h' tk' F' N' l1 hI'; (clear rgX); (try k_lt l1); (try k_sweep)))
local macro_rules | `(tactic| walk_at "call ref") => `(tactic| (k_here; (with_reducible show wpAny _ _ (call (Value.ref 58) [_, Value.int _ _]) _ _ _); k_dflt ((refine' draw_spec ?k1 ?k2 ?k3 ?k4 ?k5 ?k6 ?hl ?hi ?hn ?hk0 ?hk1 ?kd ?ku ?_); (case k1 => (k_asm)); (case k2 => (k_asm)); (case k3 => (k_asm)); (case k4 => (k_asm)); (case k5 => (k_asm)); (case k6 => (exact rfl)); (case hl => (with_reducible assumption)); (case hi => (with_reducible assumption)); (case hn => (exact len63 (by with_reducible assumption))); (case hk0 => (first | decide | exact step_lo (by decide) (by with_reducible assumption))); (case hk1 => (first | decide | exact step_hi8 (by decide) (by with_reducible assumption) | exact step_hi21 (by decide) (by with_reducible assumption))); (case kd => (ktr_room)); (case ku => (ktr_units))); intro t' h' tk' F' N'; (try k_sweep)))
local macro_rules | `(tactic| walk_at "call ref") => `(tactic| (k_here; (with_reducible show wpAny _ _ (call (Value.ref 63) [Value.ref _]) _ _ _); k_dflt ((refine' plain_spec ?k1 ?k2 ?k3 ?k4 ?k5 ?k6 ?hl ?hi ?hn ?hb ?kd ?ku ?_); (case k1 => (k_asm)); (case k2 => (k_asm)); (case k3 => (k_asm)); (case k4 => (k_asm)); (case k5 => (k_asm)); (case k6 => (exact rfl)); (case hl => (first | k_mem | (with_unfolding_all k_mem))); (case hi => (with_reducible assumption)); (case hn => (first | with_reducible exact row_len1000 _ _ | with_reducible exact good_len1000 _ _ | with_reducible exact part1000 (by with_reducible assumption) (row_len _ _) | with_reducible exact part7_1000 (by with_reducible assumption) (good_len _ _) | exact len_range)); (case hb => (first | with_reducible exact wide_bnd (row_bnd _ _) | with_reducible exact dig_wide (good_bnd _ _) | with_reducible exact part_wide (by with_reducible assumption) (row_bnd _ _) | with_reducible exact dig_wide (part_dig (by with_reducible assumption) (good_bnd _ _)) | exact bnd_range)); (case kd => (ktr_room)); (case ku => (ktr_units))); intro t' h' tk' F' N'; (try k_sweep)))
local macro_rules | `(tactic| walk_at "call ref") => `(tactic| (k_here; (with_reducible show wpAny _ _ (call (Value.ref 21) [Value.bytes _ _]) _ _ _); k_dflt ((refine' scrub_bytes ?k1 ?k2 ?k3 ?k4 ?k5 ?k6 ?kd ?ku ?_); (case k1 => (k_asm)); (case k2 => (k_asm)); (case k3 => (k_asm)); (case k4 => (k_asm)); (case k5 => (k_asm)); (case k6 => (exact rfl)); (case kd => (ktr_room)); (case ku => (ktr_units))); intro t' h' tk' F' N'; (try k_sweep)))
local macro_rules | `(tactic| walk_at "call ref") => `(tactic| (k_here; (with_reducible show wpAny _ _ (call (Value.ref 21) [Value.str (txt _) _]) _ _ _); k_dflt ((refine' scrub_ints ?k1 ?k2 ?k3 ?k4 ?k5 ?k6 ?hb ?hn ?kd ?ku ?_); (case k1 => (k_asm)); (case k2 => (k_asm)); (case k3 => (k_asm)); (case k4 => (k_asm)); (case k5 => (k_asm)); (case k6 => (exact rfl)); (case hb => (with_reducible exact row_bnd _ _)); (case hn => (with_reducible exact row_len1000 _ _)); (case kd => (ktr_room)); (case ku => (ktr_units))); intro W' t' h' tk' wI' F' N'; (try k_sweep)))
local macro_rules | `(tactic| walk_at "call ref") => `(tactic| (k_here; (with_reducible show wpAny _ _ (call (Value.ref 21) [Value.str (txt (rangeKs 0 128)) _]) _ _ _); k_dflt ((refine' scrub_whole ?k1 ?k2 ?k3 ?k4 ?k5 ?k6 ?kd ?ku ?_); (case k1 => (k_asm)); (case k2 => (k_asm)); (case k3 => (k_asm)); (case k4 => (k_asm)); (case k5 => (k_asm)); (case k6 => (exact rfl)); (case kd => (ktr_room)); (case ku => (ktr_units))); intro W' t' h' tk' wI' F' N'; (try k_sweep)))
local macro_rules | `(tactic| walk_at "call ref") => `(tactic| (k_here; (with_reducible show wpAny _ _ (call (Value.ref 21) [Value.str (PySem.Str.ofString _) _]) _ _ _); k_dflt ((refine' scrub_empty ?k1 ?k2 ?k3 ?k4 ?k5 ?k6 ?kd ?ku ?_); (case k1 => (k_asm)); (case k2 => (k_asm)); (case k3 => (k_asm)); (case k4 => (k_asm)); (case k5 => (k_asm)); (case k6 => (exact rfl)); (case kd => (ktr_room)); (case ku => (ktr_units))); intro t' h' tk' F' N'; (try k_sweep)))
local macro_rules | `(tactic| walk_at "call ref") => `(tactic| (k_here; (with_reducible show wpAny _ _ (call (Value.ref 37) [Value.bytes _ _]) _ _ _); k_dflt ((refine' enc_bytes ?k1 ?k2 ?k3 ?k4 ?k5 ?k6 ?hz ?kd ?ku ?_); (case k1 => (k_asm)); (case k2 => (k_asm)); (case k3 => (k_asm)); (case k4 => (k_asm)); (case k5 => (k_asm)); (case k6 => (exact rfl)); (case hz => (exact size_of (by with_reducible assumption) (row_len _ _))); (case kd => (ktr_room)); (case ku => (ktr_units))); intro t' h' tk' F' N'; (try k_sweep)))
local macro_rules | `(tactic| walk_at "call ref") => `(tactic| (k_here; (with_reducible show wpAny _ _ (call (Value.ref 37) [Value.str _ _]) _ _ _); k_dflt ((refine' enc_ints ?k1 ?k2 ?k3 ?k4 ?k5 ?k6 ?hb ?hn ?kd ?ku ?_); (case k1 => (k_asm)); (case k2 => (k_asm)); (case k3 => (k_asm)); (case k4 => (k_asm)); (case k5 => (k_asm)); (case k6 => (exact rfl)); (case hb => (with_reducible exact row_bnd _ _)); (case hn => (with_reducible exact row_len _ _)); (case kd => (ktr_room)); (case ku => (ktr_units))); intro W' t' h' tk' wI' F' N'; (try k_sweep)))
local macro_rules | `(tactic| walk_at "call ref") => `(tactic| (k_here; (with_reducible show wpAny _ _ (call (Value.ref 70) [Value.str _ _]) _ _ _); k_dflt ((refine' law_scrubbed ?k1 ?k2 ?k3 ?k4 ?k5 ?k6 ?xb ?tb ?hx ?hz ?kd ?ku ?_); (case k1 => (k_asm)); (case k2 => (k_asm)); (case k3 => (k_asm)); (case k4 => (k_asm)); (case k5 => (k_asm)); (case k6 => (exact rfl)); (case xb => (assumption)); (case tb => (assumption)); (case hx => (first | exact far_in (far_ge _) | exact far_in (by decide))); (case hz => (exact far_size (part1000 (by with_reducible assumption) (row_len _ _)) (part1000 (by with_reducible assumption) (row_len _ _)))); (case kd => (ktr_room)); (case ku => (ktr_units))); intro t' h' tk' F' N'; (try k_sweep)))
local macro_rules | `(tactic| walk_at "call ref") => `(tactic| (k_here; (with_reducible show wpAny _ _ (call (Value.ref 77) [Value.str _ _]) _ _ _); k_dflt ((refine' law_written ?k1 ?k2 ?k3 ?k4 ?k5 ?k6 ?xb ?tb ?hx ?hz ?kd ?ku ?_); (case k1 => (k_asm)); (case k2 => (k_asm)); (case k3 => (k_asm)); (case k4 => (k_asm)); (case k5 => (k_asm)); (case k6 => (exact rfl)); (case xb => (assumption)); (case tb => (assumption)); (case hx => (first | exact far_in (far_ge _) | exact far_in (by decide))); (case hz => (exact far_size (part1000 (by with_reducible assumption) (row_len _ _)) (part1000 (by with_reducible assumption) (row_len _ _)))); (case kd => (ktr_room)); (case ku => (ktr_units))); intro t' h' tk' F' N'; (try k_sweep)))
local macro_rules | `(tactic| walk_at "pyIter ref") => `(tactic| (k_here; (with_reducible show wpAny _ _ (pyIter (Value.ref _)) (fun it s₂ => LoopAtV _ _ _ _ _ _ _ _ _ it s₂) _ _); (rename Fr _ _ _ _ => lF'); (rename News _ _ _ _ => lN'); (with_unfolding_all refine' iter_noneL ?h ?m ?i lF' lN' (fun k' t' h' tk' own' hm' off' F' N' => ?_) (fun u' h' tk' F' N' => ?_)); (case h => rfl); (case m => k_mem); (case i => assumption); (all_goals (try simp only [List.nil_append, List.cons_append, List.append_nil] at N')); (all_goals (try k_fold))))
local macro_rules | `(tactic| walk_at "subscriptTail") => `(tactic| (k_here; (with_reducible show wpAny _ _ (subscriptTail _ _ (Value.bytes _ _) (Value.int _ _)) _ _ _); k_dflt (refine' whole_item ?w ?m ?_ ?a ?b; (case w => assumption); (case m => assumption); (case a => with_unfolding_all rfl); (case b => intro _; with_unfolding_all rfl)); intro _ _))
local macro_rules | `(tactic| walk_at "call builtin:len") => `(tactic| (k_here; (with_reducible show wpAny _ _ (call (Value.builtin "len") [Value.bytes _ _]) _ _ _); (refine whole_len (by assumption) ?_)))
local macro_rules | `(tactic| walk_at "call type:bytes") => `(tactic| (k_here; (with_reducible show wpAny _ _ (call (Value.type "bytes") [Value.ref _]) _ _ _); k_dflt ((refine' make_ints ?kbaF ?kbaN ?kbah ?kbal ?kbai ?kbar ?kban ?_); (case kbaF => k_asm); (case kbaN => k_asm); (case kbah => rfl); (case kbal => (kba_isList)); (case kbai => (kba_listInts)); (case kbar => (first | with_reducible exact in_oct _ _ | with_reducible exact in_low (row_bnd _ _) | with_reducible exact in_low (dig_low (good_bnd _ _)) | exact mix_in (part_dig (by with_reducible assumption) (good_bnd _ _)) (part_dig (by with_reducible assumption) (good_bnd _ _)) (oct_far _) | exact mix_in (part_dig (by with_reducible assumption) (good_bnd _ _)) (part_dig (by with_reducible assumption) (good_bnd _ _)) (by decide))); (case kban => (first | with_reducible exact row_len1000 _ _ | with_reducible exact good_len1000 _ _ | exact mix_len (part7 (by with_reducible assumption) (good_len _ _)) (part7 (by with_reducible assumption) (good_len _ _)) (by decide)))); intro W' t' h' tk' wI' F' N'; (try k_sweep)))
local macro_rules | `(tactic| walk_at "compareOp NotEq bytes bytes") => `(tactic| (k_here; first
  | ((with_reducible show wpAny _ _ (PySem.compareOp _ (PySem.Value.bytes (encF _) _) (PySem.Value.bytes (encF _) _)) _ _ _); refine ne_enc (by assumption) (by assumption) ?_)
  | (with_reducible refine ne_self ?_)
  | (with_reducible refine ne_same (by assumption) (by assumption) ?_)))
local macro_rules | `(tactic| walk_at "subscriptTail Name Slice ref ref") => `(tactic| (k_here; (with_reducible show wpAny _ _ (subscriptTail _ (PySem.Expr.Slice none (some _) none _) (Value.ref _) (Value.ref _)) _ _ _); k_dflt ((refine' cut_upto ?F ?N ?l ?i ?n ?z ?_ ?s ?t); (case F => (k_asm)); (case N => (k_asm)); (case l => (exact News.isList (by k_asm) (by k_mem))); (case i => (with_reducible assumption)); (case n => (first | with_reducible exact row_len1000 _ _ | with_reducible exact good_len1000 _ _ | with_reducible exact part1000 (by with_reducible assumption) (row_len _ _) | with_reducible exact part7_1000 (by with_reducible assumption) (good_len _ _) | exact len_range)); (case z => (exact fmod_pos_len _ _)); (case s => (with_unfolding_all rfl)); (case t => (intro _; with_unfolding_all rfl))); intro D' ws' P' h' F' N' l1 hI' hP'; (clear l1); (try k_sweep)))
local macro_rules | `(tactic| walk_at "subscriptTail Name Slice ref ref") => `(tactic| (k_here; (with_reducible show wpAny _ _ (subscriptTail _ (PySem.Expr.Slice (some _) none none _) (Value.ref _) (Value.ref _)) _ _ _); k_dflt ((refine' cut_from ?F ?N ?l ?i ?n ?z ?_ ?s ?t); (case F => (k_asm)); (case N => (k_asm)); (case l => (exact News.isList (by k_asm) (by k_mem))); (case i => (with_reducible assumption)); (case n => (first | with_reducible exact row_len1000 _ _ | with_reducible exact good_len1000 _ _ | with_reducible exact part1000 (by with_reducible assumption) (row_len _ _) | with_reducible exact part7_1000 (by with_reducible assumption) (good_len _ _) | exact len_range)); (case z => (exact fmod_pos_len _ _)); (case s => (with_unfolding_all rfl)); (case t => (intro _; with_unfolding_all rfl))); intro D' ws' P' h' F' N' l1 hI' hP'; (clear l1); (try k_sweep)))
local macro_rules | `(tactic| walk_at "call ref") => `(tactic| (k_here; (with_reducible show wpAny _ _ (call (Value.ref 84) [Value.str _ _]) _ _ _); k_dflt ((refine' kind_far ?k1 ?k2 ?k3 ?k4 ?k5 ?k6 ?xb ?tb ?hx ?hs ?hz ?kd ?ku ?_); (case k1 => (k_asm)); (case k2 => (k_asm)); (case k3 => (k_asm)); (case k4 => (k_asm)); (case k5 => (k_asm)); (case k6 => (exact rfl)); (case xb => (assumption)); (case tb => (assumption)); (case hx => (exact far_in (far_ge3 _))); (case hs => (exact nospace_far (part_dig (by with_reducible assumption) (good_bnd _ _)) (part_dig (by with_reducible assumption) (good_bnd _ _)) (far_ge2 _))); (case hz => (exact far_size (part7_1000 (by with_reducible assumption) (good_len _ _)) (part7_1000 (by with_reducible assumption) (good_len _ _)))); (case kd => (ktr_room)); (case ku => (ktr_units))); intro t' h' tk' F' N'; (try k_sweep)))
local macro_rules | `(tactic| walk_at "call ref") => `(tactic| (k_here; (with_reducible show wpAny _ _ (call (Value.ref 84) [Value.bytes _ _]) _ _ _); k_dflt ((refine' kind_strange ?k1 ?k2 ?k3 ?k4 ?k5 ?k6 ?xb ?tb ?hz ?hs ?hks ?hb ?hg ?kd ?ku ?_); (case k1 => (k_asm)); (case k2 => (k_asm)); (case k3 => (k_asm)); (case k4 => (k_asm)); (case k5 => (k_asm)); (case k6 => (exact rfl)); (case xb => (assumption)); (case tb => (assumption)); (case hz => (exact size_of (by with_reducible assumption) (mix_len (part7 (by with_reducible assumption) (good_len _ _)) (part7 (by with_reducible assumption) (good_len _ _)) (by decide)))); (case hs => (first | exact nospace_bytes (by with_reducible assumption) (mix_48 (part_dig (by with_reducible assumption) (good_bnd _ _)) (part_dig (by with_reducible assumption) (good_bnd _ _)) (bad_far _)) | exact nospace_bytes (by with_reducible assumption) (mix_48 (part_dig (by with_reducible assumption) (good_bnd _ _)) (part_dig (by with_reducible assumption) (good_bnd _ _)) bad_zero))); (case hks => (with_reducible assumption)); (case hb => (first | exact mix_bad (bad_far _) | exact mix_bad bad_zero)); (case hg => (first | exact mix_all (part_dig (by with_reducible assumption) (good_bnd _ _)) (part_dig (by with_reducible assumption) (good_bnd _ _)) (bad_far _) | exact mix_all (part_dig (by with_reducible assumption) (good_bnd _ _)) (part_dig (by with_reducible assumption) (good_bnd _ _)) bad_zero)); (case kd => (ktr_room)); (case ku => (ktr_units))); intro t' h' tk' F' N'; (try k_sweep)))
local macro_rules | `(tactic| walk_at "call ref") => `(tactic| (k_here; (with_reducible show wpAny _ _ (call (Value.ref 84) [Value.bytes _ _]) _ _ _); k_dflt ((refine' kind_read ?k1 ?k2 ?k3 ?k4 ?k5 ?k6 ?xb ?tb ?hz ?hs ?hks ?hg ?kd ?ku ?_); (case k1 => (k_asm)); (case k2 => (k_asm)); (case k3 => (k_asm)); (case k4 => (k_asm)); (case k5 => (k_asm)); (case k6 => (exact rfl)); (case xb => (assumption)); (case tb => (assumption)); (case hz => (exact size_of (by with_reducible assumption) (good_len20 _ _))); (case hs => (exact nospace_bytes (by with_reducible assumption) (dig_48 (good_bnd _ _)))); (case hks => (with_reducible assumption)); (case hg => (exact good_bnd _ _)); (case kd => (ktr_room)); (case ku => (ktr_units))); intro t' h' tk' F' N'; (try k_sweep)))
local macro_rules | `(tactic| walk_at "call ref") => `(tactic| (k_here; (with_reducible show wpAny _ _ (call (Value.ref 51) [Value.bytes _ _]) _ _ _); k_dflt ((refine' dec_bytes ?k1 ?k2 ?k3 ?k4 ?k5 ?k6 ?hz ?hs ?hks ?hg ?kd ?ku ?_); (case k1 => (k_asm)); (case k2 => (k_asm)); (case k3 => (k_asm)); (case k4 => (k_asm)); (case k5 => (k_asm)); (case k6 => (exact rfl)); (case hz => (exact size_of (by with_reducible assumption) (good_len20 _ _))); (case hs => (exact nospace_bytes (by with_reducible assumption) (dig_48 (good_bnd _ _)))); (case hks => (with_reducible assumption)); (case hg => (exact good_bnd _ _)); (case kd => (ktr_room)); (case ku => (ktr_units))); intro t' h' tk' F' N'; (try k_sweep)))
local macro_rules | `(tactic| walk_at "call ref") => `(tactic| (k_here; (with_reducible show wpAny _ _ (call (Value.ref 51) [Value.str _ _]) _ _ _); k_dflt ((refine' dec_ints ?k1 ?k2 ?k3 ?k4 ?k5 ?k6 ?hb ?hn ?kd ?ku ?_); (case k1 => (k_asm)); (case k2 => (k_asm)); (case k3 => (k_asm)); (case k4 => (k_asm)); (case k5 => (k_asm)); (case k6 => (exact rfl)); (case hb => (exact good_bnd _ _)); (case hn => (exact good_len20 _ _)); (case kd => (ktr_room)); (case ku => (ktr_units))); intro t' h' tk' F' N'; (try k_sweep)))
local macro_rules | `(tactic| walk_at "binaryOp Add str str") => `(tactic| (k_here; (with_reducible show wpAny _ _ (binaryOp Operator.Add (Value.str _ _) (Value.str _ _)) _ _ _); (refine' PyProof.Rows.add_str ?_ ?hsz; (case hsz => first | (with_reducible refine sz_one ?_; first | exact (part1000 (by with_reducible assumption) (row_len _ _)) | exact (part7_1000 (by with_reducible assumption) (good_len _ _))) | (with_reducible refine sz_two ?_ ?_ <;> first | exact (part1000 (by with_reducible assumption) (row_len _ _)) | exact (part7_1000 (by with_reducible assumption) (good_len _ _))))); intro _ _))
local macro_rules | `(tactic| walk_at "last binaryOp Add str str") => `(tactic| (k_here; (with_reducible show wpAny _ _ (binaryOp Operator.Add (Value.str _ _) (Value.str _ _)) _ _ _); (refine' PyProof.Rows.add_str ?_ ?hsz; (case hsz => first | (with_reducible refine sz_one ?_; first | exact (part1000 (by with_reducible assumption) (row_len _ _)) | exact (part7_1000 (by with_reducible assumption) (good_len _ _))) | (with_reducible refine sz_two ?_ ?_ <;> first | exact (part1000 (by with_reducible assumption) (row_len _ _)) | exact (part7_1000 (by with_reducible assumption) (good_len _ _))))); intro _ _))
local macro_rules | `(tactic| walk_at "binaryOp Add ref ref") => `(tactic| (k_here; (with_reducible show wpAny _ _ (binaryOp _ (Value.ref _) (Value.ref _)) _ _ _); k_dflt (refine' kmk_add_ints ?F ?N ?a ?b ?i ?j ?_ ?z; (case F => k_asm); (case N => k_asm); (case a => kmk_list); (case b => kmk_list); (case i => l_ints); (case j => first | exact IntsAre.cons _ _ IntsAre.nil | l_ints); (case z => first | exact room_one (part7 (by with_reducible assumption) (good_len _ _)) | exact room_two (part7 (by with_reducible assumption) (good_len _ _)) (part7 (by with_reducible assumption) (good_len _ _)))); intro D' ws' h' F' N' l1 hI'; (clear l1); (try k_sweep)))
local macro_rules | `(tactic| walk_at "compareOp Eq int int") => `(tactic| (k_here; (with_reducible show wpAny _ _ (PySem.compareOp _ (PySem.Value.int (decI _) _) (PySem.Value.int (decI _) _)) _ _ _); (with_reducible refine eq_selfI ?_)))
set_option maxHeartbeats 40000000 in
theorem g0 : PySem.Challenge.rw_ej5002_01.Holds := by
  refine Mine.hd ?_
  (k_go0; (all_goals try k_fold); k_steps)
end Mine
end

theorem PySem.Challenge.cw_ej5002_01_holds : PySem.Challenge.rw_ej5002_01.Holds := by
  exact Mine.g0
