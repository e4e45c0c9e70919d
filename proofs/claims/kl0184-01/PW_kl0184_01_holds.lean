import PyProof.Rows.All
import Wide.All
import OpenK.AllK
import Wide.FinOn
import PySem.Challenge.RW_kl0184_01

set_option Elab.async false

section
open PySem PySem.W PyProof.Rows
set_option Elab.async false
set_option maxRecDepth 100000
namespace Mine
open Builtin

theorem slot_bytes_le : Slot "bytes" (cmpInfo .LtE).2.1 "bytes.__le__" :=
  .of (owner := "bytes") (n := "__le__") (by rw [typeLookup_type, builtinLookup_eq_fast]; kernel_rfl) (by decide +kernel) (by decide +kernel) (by decide +kernel)
    (by first | exact .inl (by decide +kernel) | exact .inr (by decide +kernel)) (by rw [isSubtype_type]; kernel_rfl)
theorem entry_bytes_le : entryFor table "bytes.__le__" = some Builtin.«bytes.__le__» := entryFor_of_tree (by kernel_rfl)
theorem args_bytes_le (a b : Value) : argsOk "bytes.__le__" ⟨[a, b], []⟩ := by unfold argsOk; kernel_rfl
theorem gives_bytes_le (b c : Array UInt8) (t u : Tok) : Gives («bytes.__le__» ⟨[.bytes b t, .bytes c u], []⟩) (.val (.bool (Bytes.holds "__le__" (Bytes.order b.toList c.toList)))) := by
  refine .of_wp fun M A E s Q hq => ?_
  show wpAny M A (isInstance (.bytes c u) (.type "bytes") >>= fun r => _) _ E s
  refine wpAny_bind (wpAny_isInstance (PySem.W.typeIs_bytes s c u) F.sub_bytes_bytes ?_)
  exact wpAny_pure ⟨_, rfl, hq⟩
theorem order_one (x y : UInt8) : Bytes.holds "__le__" (Bytes.order [x] [y]) = decide (x.toNat ≤ y.toNat) := by
  have key : ∀ o : Ordering, Bytes.holds "__le__" o = (o != .gt) := fun o => by cases o <;> decide
  rw [key]
  simp only [Bytes.order]
  by_cases h : x < y
  · have h' : x.toNat < y.toNat := h
    have h2 : x.toNat ≤ y.toNat := by omega
    rw [if_pos h, decide_eq_true h2]; rfl
  · by_cases h2 : x > y
    · have h' : y.toNat < x.toNat := h2
      have hx : ¬ x.toNat ≤ y.toNat := by omega
      rw [if_neg h, if_pos h2, decide_eq_false hx]; rfl
    · have h3 : ¬ (y.toNat < x.toNat) := h2
      have hx : x.toNat ≤ y.toNat := by omega
      rw [if_neg h, if_neg h2, decide_eq_true hx]; rfl
section
variable {prog : Program} {w : World} {A : Around} {E : Value → Shared → Prop} {s : Shared} {b c : Array UInt8} {t u : Tok}
theorem le_bytes1 {x y : UInt8} {Q : Value → Shared → Prop} (h : Q (.bool (decide (x.toNat ≤ y.toNat))) s) : wpAny (model prog w) A (compareOp .LtE (.bytes [x].toArray t) (.bytes [y].toArray u)) Q E s :=
  compareOp_gives (op := .LtE) (PySem.W.typeIs_bytes s _ t) (PySem.W.typeIs_bytes s _ u) slot_bytes_le entry_bytes_le (args_bytes_le _ _) (gives_bytes_le _ _ t u) (fun e => nomatch e) (by
    show Q _ _
    rw [show ([x].toArray.toList) = [x] from rfl, show ([y].toArray.toList) = [y] from rfl, order_one]; exact h)

theorem gives_ord_bytes (x : UInt8) (t : Tok) : Gives («ord» ⟨[.bytes [x].toArray t], []⟩) (.int x.toNat) := .of_eq rfl
theorem ord_bytes {x : UInt8} {Q : Value → Shared → Prop} (h : Q (.int x.toNat s.toks) { s with toks := s.toks + 1 }) : wpAny (model prog w) A (call (.builtin "ord") [.bytes [x].toArray t]) Q E s :=
  call_function_meets F.kind_ord F.plain_ord F.entry_ord (F.args_ord1 _) (gives_ord_bytes x t).meets h

theorem look_index : typeLookup (.type "bytes") "__index__" = pure none := by rw [typeLookup_type, builtinLookup_eq_fast]; kernel_rfl

theorem find_two (x y z : UInt8) : (Bytes.find? [x, y].toArray [z].toArray 0 2).isSome = (z == x || z == y) := by
  have e : List.range (2 + 1 - (0 + [z].toArray.size)) = [0, 1] := rfl
  unfold Bytes.find?
  rw [e]
  have e0 : [x, y].toArray.extract 0 (0 + [z].toArray.size) = [x].toArray := by simp
  have e1 : [x, y].toArray.extract 1 (1 + [z].toArray.size) = [y].toArray := by simp
  have q : ∀ a b : UInt8, (#[a] == #[b]) = (a == b) := fun a b => by
    rw [Bool.eq_iff_iff]; simp
  simp only [List.map_cons, List.map_nil, Nat.add_zero, List.find?_cons, List.find?_nil, e0, e1, q]
  have c1 : (z == x) = (x == z) := BEq.comm
  have c2 : (z == y) = (y == z) := BEq.comm
  rw [c1, c2]
  cases x == z <;> cases y == z <;> rfl
theorem cutName_bytes : typeNameOfCut 200 (.bytes b t) = pure "bytes" := by
  first | rfl | kernel_rfl
theorem asIndex_bytes {Q : Int → Shared → Prop} (hh : A.handled = none) (h : ∀ h' tk e, Heap.NewExc s.heap h' e "TypeError" → E (.ref e) { s with heap := h', toks := tk }) :
    wpAny (model prog w) A (asIndex (.bytes b t)) Q E s := by
  unfold asIndex
  refine wpAny_bind (wpAny_of_eq (a := Option.none) rfl ?_)
  refine wpAny_bind (wpAny_callSpecial?_none (PySem.W.typeIs_bytes s b t) look_index ?_)
  refine wpAny_bind (wpAny_of_eq (a := "bytes") cutName_bytes ?_)
  exact wpAny_raiseErrorMade plainExc_TypeError hh h
theorem in_bytes2 {x y z : UInt8} {Q : Value → Shared → Prop} (hh : A.handled = none)
    (h : ∀ h' tk, (∀ a o, s.heap.get? a = some o → h'.get? a = some o) → Q (.bool (z == x || z == y)) { s with heap := h', toks := tk }) : wpAny (model prog w) A (compareOp .In (.bytes [z].toArray u) (.bytes [x, y].toArray t)) Q E s := by
  show wpAny _ _ (do return .bool (← contains (.bytes [x, y].toArray t) (.bytes [z].toArray u))) Q E s
  refine wpAny_bind (wpAny_contains_slot (PySem.W.typeIs_bytes s _ t) FB.slot_bytes_contains ?_)
  refine wpAny_call (codeAny_call_builtin FB.slot_bytes_contains.plain FB.entry_bytes_contains (FB.slot_bytes_contains.check _ _ _ _ _ _ _ _ (PySem.W.typeIs_bytes s _ t) (FB.args_bytes_contains_2 _ _) ?_))
  show wpAny _ _ (Bytes.containsIn "bytes.__contains__" (.bytes [x, y].toArray t) (.bytes [z].toArray u) >>= fun r => _) _ _ _
  refine wpAny_bind ?_
  unfold Bytes.containsIn
  refine wpAny_bind (wpAny_attempt (asIndex_bytes hh fun h' tk e he => ?_))
  refine wpAny_bind (wpAny_of_eq KBy.buffer_eq ?_)
  show wpAny _ _ (Bytes.buffer? "bytes.__contains__" (.bytes [z].toArray u) >>= fun r => _) _ _ _
  refine wpAny_bind (wpAny_of_eq KBy.buffer_eq ?_)
  refine wpAny_bind (wpAny_rule (wpAny_pure ?_))
  have e2 : (Bytes.find? [x, y].toArray [z].toArray 0 [x, y].toArray.size).isSome = (z == x || z == y) := find_two x y z
  rw [e2]
  exact wpAny_pure (wpAny_pure (wpAny_pure (h h' tk he.keeps)))
end
end Mine
end

section
open PySem PySem.W PyProof.Rows
set_option Elab.async false
set_option maxRecDepth 100000
namespace Mine
open Builtin
theorem tn_bytes : typeLookup (.type "tuple") "__bytes__" = pure none := by rw [typeLookup_type, builtinLookup_eq_fast]; kernel_rfl
theorem tn_index : typeLookup (.type "tuple") "__index__" = pure none := by rw [typeLookup_type, builtinLookup_eq_fast]; kernel_rfl
theorem tn_buffer : typeLookup (.type "tuple") "__buffer__" = pure none := by rw [typeLookup_type, builtinLookup_eq_fast]; kernel_rfl
theorem tn_split : splitId "tuple.__len__" = some ("tuple", "__len__") := by decide +kernel
theorem tn_sub : isSubtype (.type "tuple") (.type "tuple") = pure true := by rw [isSubtype_type]; kernel_rfl
section
variable {prog : Program} {w : World} {A : Around} {E : Value → Shared → Prop} {s : Shared}
/-- the bytes' own loop, over whatever walks -/
theorem bytes_loopW {R : Result → Shared → Prop} {I S : Addr} {fp : List Addr} {n : Nat} {P : Nat → Value → Prop} {St : Nat → Heap → Prop} {ns : List Int}
    (W : Walks prog w A.in1 I fp [I] n P St) (hn : ns.length = n) (hP : ∀ i v, i < n → P i v → ∃ k t, ns[i]? = some k ∧ v = .int k t) (hr : ∀ k ∈ ns, 0 ≤ k ∧ k < 256) (hz : ns.length ≤ sizeLine) (hIS : I ≠ S) (hSf : S ∉ fp) :
    ∀ (k i : Nat) (s : Shared), n - i = k → i ≤ n → St i s.heap → s.heap.get? S = some { cls := .type "bytearray", data := .bytearray (byteArr (ns.take i)) } →
      (∀ h' t k', (∀ b o, b ≠ I → b ≠ S → s.heap.get? b = some o → h'.get? b = some o) → R (.ok (.ret (.bytes (byteArr ns) t))) { s with heap := h', toks := k' }) →
      codeAny (model prog w) A (.builtin "bytes.__new__.loop" ⟨[.type "bytes", .ref I, .ref S], []⟩) R s := by
  intro k
  induction k with
  | zero =>
    intro i s hk hle hst hS hR
    have hin : i = n := by omega
    subst hin
    refine codeAny_builtin F.bm_entry_loop ?_
    rw [Around.under_plainId F.bm_plain_loop _]
    show wpAny _ A.in1 (pyNext (.ref I) >>= _) _ _ s
    refine wpAny_bind (W.done s _ _ hst fun h' tk' he => ?_)
    have hS' : h'.get? S = some { cls := .type "bytearray", data := .bytearray (byteArr (ns.take i)) } := he S _ (fun q => hIS (List.mem_singleton.mp q).symm) hS
    refine wpAny_bind ?_
    unfold Builtin.Bytes.payload Builtin.Bytes.payload?
    refine wpAny_bind (wpAny_bind (wpAny_load hS' ?_))
    refine wpAny_pure (wpAny_pure ?_)
    rw [← hn, List.take_length]
    refine wpAny_bind (wpAny_mkBytes ?_ (by rw [byteArr_size]; exact hz))
    show wpAny _ _ (if (Value.type "bytes" == Value.type "bytes") = true then _ else _) _ _ _
    refine bm_if_true (by decide) ?_
    have keep : ∀ b o, b ≠ I → b ≠ S → s.heap.get? b = some o → h'.get? b = some o := fun b o hb _ e => he b o (fun q => hb (List.mem_singleton.mp q)) e
    first
      | exact wpAny_pure (hR h' _ _ keep)
      | exact wpAny_bind (wpAny_pure (wpAny_pure (hR h' _ _ keep)))
  | succ k ih =>
    intro i s hk hle hst hS hR
    have hlt : i < n := by omega
    refine codeAny_builtin F.bm_entry_loop ?_
    rw [Around.under_plainId F.bm_plain_loop _]
    show wpAny _ A.in1 (pyNext (.ref I) >>= _) _ _ s
    refine wpAny_bind (W.item i s _ _ hlt hst fun v h' tk' hv hst' hs => ?_)
    obtain ⟨x, t, hx, hve⟩ := hP i v hlt hv
    subst hve
    obtain ⟨h0, h1⟩ := hr x (List.mem_of_getElem? hx)
    have hS' : h'.get? S = some { cls := .type "bytearray", data := .bytearray (byteArr (ns.take i)) } := hs S _ (fun q => hIS (List.mem_singleton.mp q).symm) hS
    refine wpAny_bind (wpAny_holding (wpAny_of_eq (rfl : asIndex (.int x t) = pure x) ?_))
    refine wpAny_bind (wpAny_letGo ?_)
    refine bm_if_false (by simp only [Bool.or_eq_false_iff, decide_eq_false_iff_not]; omega) ?_
    refine wpAny_bind ?_
    show wpAny _ _ (updateBytearray S (·.push x.toNat.toUInt8)) _ _ _
    unfold updateBytearray
    refine wpAny_bind (wpAny_load hS' ?_)
    show wpAny _ _ (update S (Obj.mapBytearray (·.push x.toNat.toUInt8)) >>= fun _ => lookBehind S) _ _ _
    refine wpAny_bind (wpAny_update hS' ?_)
    have hS₂ : (h'.update S (Obj.mapBytearray (·.push x.toNat.toUInt8))).get? S = some { cls := .type "bytearray", data := .bytearray (byteArr (ns.take (i + 1))) } := by
      rw [byteArr_take hx]
      exact Heap.get?_update_self (Obj.mapBytearray (·.push x.toNat.toUInt8)) hS' rfl
    refine wpAny_lookBehind hS₂ ?_ ?_
    · show (if (byteArr (ns.take (i + 1))).size > sizeLine then some "bytearray:memory" else none) = none
      rw [if_neg]
      rw [byteArr_size, List.length_take]
      omega
    · refine wpAny_pure ⟨plainId_quiet F.bm_plain_loop _, ih (i + 1) { s with heap := h'.update S (Obj.mapBytearray (·.push x.toNat.toUInt8)), toks := tk' } (by omega) hlt ?_ hS₂ fun h3 t' k' hk3 => ?_⟩
      · exact W.frame _ _ _ hst' fun b hb o e => (Heap.get?_update_other _ _ (fun q : S = b => hSf (q ▸ hb))).trans e
      · exact hR h3 t' k' fun b o hbI hbS e => hk3 b o hbI hbS ((Heap.get?_update_other _ _ (Ne.symm hbS)).trans (hs b o (fun q => hbI (List.mem_singleton.mp q)) e))

theorem bytes_new_tup {l : Addr} {vs : List Value} {ns : List Int} {Q : Value → Shared → Prop} (hh : A.handled = none) (hl : s.heap.IsTuple l vs.toArray) (hi : IntsAre vs ns) (hr : ∀ n ∈ ns, 0 ≤ n ∧ n < 256) (hz : ns.length ≤ sizeLine)
    (hQ : ∀ h' t k, (∀ b o, s.heap.get? b = some o → h'.get? b = some o) → Q (.bytes (byteArr ns) t) { s with heap := h', toks := k }) :
    codeAny (model prog w) A (.call (.builtin "bytes.__new__") ⟨[.type "bytes", .ref l], []⟩) (wants Q E) s := by
  refine codeAny_of_tree ?_
  show wpAny _ A.in1 (do checkBuiltinCall "bytes.__new__" ⟨[.type "bytes", .ref l], []⟩; again (.builtin "bytes.__new__" ⟨[.type "bytes", .ref l], []⟩)) _ _ s
  refine wpAny_bind (wpAny_of_eq (F.bm_newCall _) (wpAny_pure ⟨plainId_quiet F.bm_plain _, codeAny_builtin F.bm_entry ?_⟩))
  rw [Around.under_plainId F.bm_plain _]
  have hT : s.TypeIs (.ref l) "tuple" := hl.typeIs
  obtain ⟨ol, hol, hoc, nl, hod⟩ := id hl
  unfold Builtin.«bytes.__new__»
  refine wpAny_bind (wpAny_of_eq (a := true) rfl ?_)
  refine bm_if_false rfl ?_
  refine wpAny_bind (wpAny_of_eq F.bm_sub ?_)
  refine bm_if_false rfl ?_
  refine wpAny_bind (wpAny_of_eq (F.bm_bind _) ?_)
  refine wpAny_bind (wpAny_of_eq (a := ()) rfl ?_)
  refine wpAny_bind (wpAny_of_eq (a := ()) rfl ?_)
  refine bm_if_false rfl ?_
  refine wpAny_bind (wpAny_specialOf hT tn_bytes ?_)
  refine wpAny_bind (wpAny_bind ?_)
  show wpAny _ _ (load l >>= _) _ _ _
  refine wpAny_bind (wpAny_load hol ?_)
  rw [hod]
  refine wpAny_pure (wpAny_pure ?_)
  refine bm_if_false rfl ?_
  refine wpAny_bind (wpAny_specialOf hT tn_index ?_)
  refine bm_if_true rfl ?_
  first
    | show wpAny _ _ (Builtin.Bytes.buffer? "bytes.__new__" (.ref l) true >>= _) _ _ _
    | (refine wpAny_bind ?_; show wpAny _ _ (Builtin.Bytes.buffer? "bytes.__new__" (.ref l) true >>= _) _ _ _)
  refine wpAny_bind ?_
  unfold Builtin.Bytes.buffer?
  refine wpAny_bind (wpAny_specialOf hT tn_buffer ?_)
  refine wpAny_bind (wpAny_specialOf hT tn_buffer ?_)
  refine wpAny_pure ?_
  refine wpAny_bind (wpAny_tryCatch (wpAny_pyIter_tuple hl ?_))
  have hl₁ : (s.heap.push { cls := .type "tuple_iterator", data := .fields #[.ref l, .int 0 0] }).IsTuple l vs.toArray := hl.push _
  have hT₁ : ({ s with heap := s.heap.push { cls := .type "tuple_iterator", data := .fields #[.ref l, .int 0 0] } } : Shared).TypeIs (.ref l) "tuple" := Heap.IsTuple.typeIs (s := { s with heap := s.heap.push { cls := .type "tuple_iterator", data := .fields #[.ref l, .int 0 0] } }) hl₁
  refine wpAny_bind (wpAny_holding ?_)
  unfold Builtin.Bytes.lengthHint
  refine wpAny_bind (wpAny_specialOf hT₁ slot_tuple_len.lookup ?_)
  dsimp only
  rw [tn_split]
  dsimp only
  refine wpAny_bind (wpAny_isInstance hT₁ tn_sub ?_)
  refine bm_if_false rfl ?_
  refine bm_if_true (by decide +kernel) ?_
  refine wpAny_pure ?_
  refine wpAny_bind ?_
  unfold Builtin.Bytes.newBytearray
  refine wpAny_newObj_type ?_ (Nat.zero_le _)
  have hI : ((s.heap.push { cls := .type "tuple_iterator", data := .fields #[.ref l, .int 0 0] }).push { cls := .type "bytearray", data := .bytearray #[] }).IsTupleIter s.heap.objs.size l 0 :=
    ⟨_, Heap.get?_push_of_some _ (Heap.get?_push_size _ rfl), rfl, rfl⟩
  have hlt : l < s.heap.objs.size := Heap.lt_size hol
  have hne : l ≠ s.heap.objs.size := Nat.ne_of_lt hlt
  have hsz : (s.heap.push { cls := .type "tuple_iterator", data := .fields #[.ref l, .int 0 0] }).objs.size = s.heap.objs.size + 1 := Heap.size_push _ _
  have W := Walks.tuple (prog := prog) (w := w) (A := A.in1) hh s.heap.objs.size l hne vs.toArray
  have hlen : vs.toArray.size = ns.length := by simp [hi.length]
  have main := bytes_loopW (prog := prog) (w := w) (A := A) (R := wants Q E) (I := s.heap.objs.size) (S := (s.heap.push { cls := .type "tuple_iterator", data := .fields #[.ref l, .int 0 0] }).objs.size) W hlen.symm
    (fun i v hiv hv => by
      obtain ⟨k, t, e, hk⟩ := IntsAre.at hi i v (by simpa using hv)
      exact ⟨k, t, hk, e⟩) hr hz (by rw [hsz]; exact Nat.ne_of_lt (Nat.lt_succ_self _))
    (by
      rw [hsz]
      intro q
      rcases List.mem_cons.mp q with q | q
      · exact absurd q (Nat.ne_of_gt (Nat.lt_succ_self _))
      · exact absurd (List.mem_singleton.mp q) (Nat.ne_of_gt (Nat.lt_succ_of_lt hlt)))
    vs.toArray.size 0 { s with heap := (s.heap.push { cls := .type "tuple_iterator", data := .fields #[.ref l, .int 0 0] }).push { cls := .type "bytearray", data := .bytearray #[] } } rfl (Nat.zero_le _) ⟨hI, hl₁.push _⟩ (Heap.get?_push_size _ rfl)
    fun h' t k hk => hQ h' t k fun b o e => hk b o (Nat.ne_of_lt (Heap.lt_size e)) (by rw [hsz]; exact Nat.ne_of_lt (Nat.lt_succ_of_lt (Heap.lt_size e))) (Heap.get?_push_of_some _ (Heap.get?_push_of_some _ e))
  first
    | exact wpAny_pure ⟨plainId_quiet F.bm_plain_loop _, main⟩
    | exact wpAny_pure (wpAny_pure ⟨plainId_quiet F.bm_plain_loop _, main⟩)

theorem call_bytes_tup {l : Addr} {vs : List Value} {ns : List Int} {Q : Value → Shared → Prop} (hl : s.heap.IsTuple l vs.toArray) (hi : IntsAre vs ns) (hr : ∀ n ∈ ns, 0 ≤ n ∧ n < 256) (hz : vs.length ≤ sizeLine) (hh : A.handled = none)
    (hQ : ∀ h' t k, (∀ b o, s.heap.get? b = some o → h'.get? b = some o) → Q (.bytes (byteArr ns) t) { s with heap := h', toks := k }) : wpAny (model prog w) A (call (.type "bytes") [.ref l]) Q E s := by
  refine callType_codes (Q₁ := fun obj s₁ => s₁.TypeIs obj "bytes" ∧ Q obj s₁) F.bm_called (F.bm_typeCall _) F.entry_object_init
    (bytes_new_tup hh hl hi hr (by rw [← hi.length]; exact hz) fun h' t k hk => ⟨PySem.W.typeIs_bytes _ _ _, hQ h' t k hk⟩) fun obj s₁ h₁ => ?_
  exact ⟨h₁.1, F.args_object_init_2 obj _, object_init_meets F.bm_called.init.lookup F.bm_called.made (by decide) prog w A.in1 _ s₁ ⟨h₁.1, rfl, h₁.2⟩⟩
variable {h₀ : Heap} {L : Addr} {m : Str → Option Value} {news : List (Addr × Obj)}
theorem bytes_tupK {l : Addr} {vs : List Value} {ns : List Int} {o : Obj} {Q : Value → Shared → Prop} (F : Fr h₀ L s.heap m) (N : News h₀ L s.heap news) (hl : (l, o) ∈ news) (ho : o.cls = .type "tuple" ∧ ∃ n, o.data = .seq vs.toArray n) (hi : IntsAre vs ns) (hr : ∀ n ∈ ns, 0 ≤ n ∧ n < 256) (hz : vs.length ≤ sizeLine) (hh : A.handled = none)
    (h : ∀ h' t k, Fr h₀ L h' m → News h₀ L h' news → Q (.bytes (ns.map fun n => n.toNat.toUInt8).toArray t) { s with heap := h', toks := k }) : wpAny (model prog w) A (call (.type "bytes") [.ref l]) Q E s :=
  call_bytes_tup ⟨o, (N _ hl).1, ho.1, ho.2⟩ hi hr hz hh fun h' t k hk => h h' t k (F.keeps hk) (fun q hq => ⟨hk _ _ (N q hq).1, (N q hq).2⟩)
end
end Mine
end

section
open PySem PySem.W PyProof.Rows
set_option Elab.async false
set_option maxRecDepth 100000
namespace Mine
open Builtin
/-- the plain reading, sign by sign -/
def needsB (o : UInt8) (tabs head : Bool) : Bool :=
  if o == 32 || o == 9 then tabs else if o == 95 then head else (o == 61 || !(decide (32 ≤ o.toNat) && decide (o.toNat ≤ 126)))
def hexL : List UInt8 := [48, 49, 50, 51, 52, 53, 54, 55, 56, 57, 65, 66, 67, 68, 69, 70]
@[irreducible] def hexI (i : Int) : Int := ((hexL.getD i.toNat 0).toNat : Int)
theorem hexI_def (i : Int) : hexI i = ((hexL.getD i.toNat 0).toNat : Int) := by unfold hexI; rfl
theorem hexI_range (i : Int) : 0 ≤ hexI i ∧ hexI i < 256 := by
  rw [hexI_def]
  have := (hexL.getD i.toNat 0).toNat_lt
  omega
theorem hexI_two (a b : Int) : ∀ n ∈ [hexI a, hexI b], 0 ≤ n ∧ n < 256 := by
  intro n hn
  simp only [List.mem_cons, List.not_mem_nil, or_false] at hn
  rcases hn with e | e <;> subst e <;> exact hexI_range _
theorem hexI_three (a b : Int) : ∀ n ∈ [(61 : Int), hexI a, hexI b], 0 ≤ n ∧ n < 256 := by
  intro n hn
  simp only [List.mem_cons, List.not_mem_nil, or_false] at hn
  rcases hn with e | e | e
  · subst e; decide
  · subst e; exact hexI_range _
  · subst e; exact hexI_range _
def quoteB (o : UInt8) : List UInt8 := [61, (hexI ((o.toNat : Int).fdiv 16)).toNat.toUInt8, (hexI ((o.toNat : Int).fmod 16)).toNat.toUInt8]
theorem div16 {o : UInt8} : 0 ≤ ((o.toNat : Int).fdiv 16) ∧ ((o.toNat : Int).fdiv 16) < 16 := by
  have h := o.toNat_lt
  rw [Int.fdiv_eq_ediv_of_nonneg _ (by decide)]
  omega
theorem mod16 {k : Int} : 0 ≤ (k.fmod 16) ∧ (k.fmod 16) < 16 := by
  rw [Int.fmod_eq_emod_of_nonneg _ (by decide)]
  omega
theorem div16i {n : Int} (h0 : 0 ≤ n ∧ n < 256) : 0 ≤ (n.fdiv 16) ∧ (n.fdiv 16) < 16 := by
  rw [Int.fdiv_eq_ediv_of_nonneg _ (by decide)]
  omega
section
variable {prog : Program} {w : World} {A : Around} {E : Value → Shared → Prop} {s : Shared} {t u : Tok}
theorem hex_item {i : Int} {value slice : Expr} {Q : Value → Shared → Prop} (hi : 0 ≤ i ∧ i < 16) (h : Q (.int (hexI i) s.toks) { s with toks := s.toks + 1 })
    (hs : subscripted slice false (.bytes #[48, 49, 50, 51, 52, 53, 54, 55, 56, 57, 65, 66, 67, 68, 69, 70] t) (.int i u) = operate [.bytes #[48, 49, 50, 51, 52, 53, 54, 55, 56, 57, 65, 66, 67, 68, 69, 70] t, .int i u] (getItem (.bytes #[48, 49, 50, 51, 52, 53, 54, 55, 56, 57, 65, 66, 67, 68, 69, 70] t) (.int i u)) := by with_unfolding_all rfl)
    (ht : ∀ r, letTemporaryGo value (.bytes #[48, 49, 50, 51, 52, 53, 54, 55, 56, 57, 65, 66, 67, 68, 69, 70] t) r = pure () := by intro _; with_unfolding_all rfl) : wpAny (model prog w) A (subscriptTail value slice (.bytes #[48, 49, 50, 51, 52, 53, 54, 55, 56, 57, 65, 66, 67, 68, 69, 70] t) (.int i u)) Q E s :=
  KBy.item_N (x := hexL) (by decide) hi.1 (by have := hi.2; show i < (16 : Int); omega) (by rw [← hexI_def]; exact h) hs ht
theorem len_one {x : UInt8} {Q : Value → Shared → Prop} (h : Q (.int 1 (s.toks + 1)) { s with toks := s.toks + 1 + 1 }) : wpAny (model prog w) A (call (.builtin "len") [.bytes [x].toArray t]) Q E s :=
  PySem.W.len_bytes (b := [x].toArray) (by show 1 ≤ _; decide) h
variable {h₀ : Heap} {L : Addr} {m : Str → Option Value} {news : List (Addr × Obj)}
theorem in_bytes2K {x y z : UInt8} {Q : Value → Shared → Prop} (F : Fr h₀ L s.heap m) (N : News h₀ L s.heap news) (hh : A.handled = none)
    (h : ∀ h' tk, Fr h₀ L h' m → News h₀ L h' news → Q (.bool (z == x || z == y)) { s with heap := h', toks := tk }) : wpAny (model prog w) A (compareOp .In (.bytes [z].toArray u) (.bytes [x, y].toArray t)) Q E s :=
  in_bytes2 hh fun h' tk hk => h h' tk (F.keeps hk) (fun q hq => ⟨hk _ _ (N q hq).1, (N q hq).2⟩)
end
-- needsquoting's ends
section
variable {o : UInt8} {tabs head : Bool}
theorem nb1 (h : (o == 32 || o == 9) = true) : Value.bool tabs = Value.bool (needsB o tabs head) := by simp only [needsB, h, if_true]
theorem one_beq (x y : UInt8) : ([x].toArray.toList == [y].toArray.toList) = (x == y) := by
  show ([x] == [y]) = _
  simp
theorem nb2 (h : (o == 32 || o == 9) = false) (h2 : ([o].toArray.toList == [95].toArray.toList) = true) : Value.bool head = Value.bool (needsB o tabs head) := by
  rw [one_beq] at h2
  simp only [needsB, h, h2, if_true, Bool.false_eq_true, if_false]
theorem nb3 (h : (o == 32 || o == 9) = false) (h2 : ([o].toArray.toList == [95].toArray.toList) = false) (h3 : ([o].toArray.toList == [61].toArray.toList) = true) : Value.bool ([o].toArray.toList == [61].toArray.toList) = Value.bool (needsB o tabs head) := by
  rw [h3]
  rw [one_beq] at h2 h3
  simp only [needsB, h, h2, h3, Bool.false_eq_true, if_false, Bool.true_or]
theorem nb4 (h : (o == 32 || o == 9) = false) (h2 : ([o].toArray.toList == [95].toArray.toList) = false) (h3 : ([o].toArray.toList == [61].toArray.toList) = false) (h4 : UInt8.toNat 32 ≤ o.toNat) : Value.bool (!decide (o.toNat ≤ UInt8.toNat 126)) = Value.bool (needsB o tabs head) := by
  rw [one_beq] at h2 h3
  have h4' : 32 ≤ o.toNat := h4
  simp only [needsB, h, h2, h3, Bool.false_eq_true, if_false, Bool.false_or, decide_eq_true h4', Bool.true_and]
  rfl
theorem nb5 (h : (o == 32 || o == 9) = false) (h2 : ([o].toArray.toList == [95].toArray.toList) = false) (h3 : ([o].toArray.toList == [61].toArray.toList) = false) (h4 : ¬ UInt8.toNat 32 ≤ o.toNat) : Value.bool (!decide (UInt8.toNat 32 ≤ o.toNat)) = Value.bool (needsB o tabs head) := by
  rw [one_beq] at h2 h3
  have h4' : ¬ 32 ≤ o.toNat := h4
  have h5 : decide (UInt8.toNat 32 ≤ o.toNat) = false := decide_eq_false h4
  rw [h5]
  simp only [needsB, h, h2, h3, Bool.false_eq_true, if_false, Bool.false_or, decide_eq_false h4', Bool.false_and]
end
end Mine
namespace Mine
theorem byte_same (o : UInt8) : ((o.toNat : Int)).toNat.toUInt8 = o := by
  rw [Int.toNat_natCast]
  exact UInt8.ofNat_toNat
theorem byte_one {o : UInt8} : ∀ n ∈ [(o.toNat : Int)], 0 ≤ n ∧ n < 256 := by
  intro n hn
  rw [List.mem_singleton] at hn
  subst hn
  have := o.toNat_lt
  omega
theorem one_in {n : Int} (h : 0 ≤ n ∧ n < 256) : ∀ k ∈ [n], 0 ≤ k ∧ k < 256 := by
  intro k hk
  rw [List.mem_singleton] at hk
  subst hk
  exact h
section
variable {prog : Program} {w : World} {A : Around} {E : Value → Shared → Prop} {s : Shared} {h₀ : Heap} {L : Addr} {m : Str → Option Value} {news : List (Addr × Obj)}
theorem bytes_lstK {l : Addr} {vs : List Value} {ns : List Int} {Q : Value → Shared → Prop} (F : Fr h₀ L s.heap m) (N : News h₀ L s.heap news) (hl : s.heap.IsList l vs.toArray) (hi : IntsAre vs ns) (hr : ∀ n ∈ ns, 0 ≤ n ∧ n < 256) (hz : vs.length ≤ sizeLine) (hh : A.handled = none)
    (h : ∀ h' t k, Fr h₀ L h' m → News h₀ L h' news → Q (.bytes (ns.map fun n => n.toNat.toUInt8).toArray t) { s with heap := h', toks := k }) : wpAny (model prog w) A (call (.type "bytes") [.ref l]) Q E s :=
  call_bytes_ints hl hi hr hz hh fun h' t k hk => h h' t k (F.keeps hk) (fun q hq => ⟨hk _ _ (N q hq).1, (N q hq).2⟩)
end
-- _law_spelled, of an int
def spellI (n : Int) (tabs head : Bool) : List UInt8 :=
  if (if n = 95 then !head else if n = 32 ∨ n = 9 then !tabs else decide (33 ≤ n ∧ n ≤ 126 ∧ n ≠ 61)) then [n.toNat.toUInt8] else [(61 : Int).toNat.toUInt8, (hexI (n.fdiv 16)).toNat.toUInt8, (hexI (n.fmod 16)).toNat.toUInt8]
def hexB (o : UInt8) : Bool := (decide (48 ≤ o.toNat) && decide (o.toNat ≤ 57)) || (decide (97 ≤ o.toNat) && decide (o.toNat ≤ 102)) || (decide (65 ≤ o.toNat) && decide (o.toNat ≤ 70))
end Mine
namespace Mine
theorem u8_48 : UInt8.toNat 48 = 48 := rfl
theorem u8_57 : UInt8.toNat 57 = 57 := rfl
theorem u8_97 : UInt8.toNat 97 = 97 := rfl
theorem u8_102 : UInt8.toNat 102 = 102 := rfl
theorem u8_65 : UInt8.toNat 65 = 65 := rfl
theorem u8_70 : UInt8.toNat 70 = 70 := rfl
theorem u8_32 : UInt8.toNat 32 = 32 := rfl
theorem u8_126 : UInt8.toNat 126 = 126 := rfl
abbrev HexU (o : UInt8) : Prop := (48 ≤ o.toNat ∧ o.toNat ≤ 57) ∨ (65 ≤ o.toNat ∧ o.toNat ≤ 70)
def digU (o : UInt8) : Int := if o.toNat ≤ 57 then (o.toNat : Int) - 48 else (o.toNat : Int) - 55
theorem ints_two (a b : UInt8) : KBw.bInts [a, b].toArray = [(a.toNat : Int), (b.toNat : Int)] := rfl
section
variable {prog : Program} {w : World} {A : Around} {E : Value → Shared → Prop} {s : Shared} {t u : Tok}
theorem le_bytes1n {x y : UInt8} {i j : Nat} {Q : Value → Shared → Prop} (hx : x.toNat = i) (hy : y.toNat = j) (h : Q (.bool (decide (i ≤ j))) s) : wpAny (model prog w) A (compareOp .LtE (.bytes [x].toArray t) (.bytes [y].toArray u)) Q E s := by
  subst hx hy
  exact le_bytes1 h
theorem unr_end {h₀ : Heap} {L I : Addr} {it : Obj} {rest : (Str → Option Value) → List (Addr × Obj) → Prop} {s₁ : Shared} {h' : Heap} {tk : Nat} {m' : Str → Option Value} {all news : List (Addr × Obj)} (hI : ∀ p ∈ news, p.1 < I) (F : Fr h₀ L h' m') (N : News h₀ L h' all)
    (hn : ∀ p ∈ (I, it) :: news, p ∈ all) (r : rest m' news) : UnrEnd h₀ L s₁ I it rest { s₁ with heap := h', toks := tk } :=
  ⟨h', tk, m', news, rfl, F, fun p hp => N p (hn p hp), fun p hp => Nat.ne_of_lt (hI p hp), r⟩
end
theorem spell_plain {n : Int} {tabs head : Bool} {t : Tok} (h : (if n = 95 then !head else if n = 32 ∨ n = 9 then !tabs else decide (33 ≤ n ∧ n ≤ 126 ∧ n ≠ 61)) = true) : ∃ t', Value.bytes [n.toNat.toUInt8].toArray t = .bytes (spellI n tabs head).toArray t' := by
  unfold spellI
  rw [if_pos h]
  exact ⟨_, rfl⟩
theorem spell_coded {n : Int} {tabs head : Bool} {t : Tok} (h : (if n = 95 then !head else if n = 32 ∨ n = 9 then !tabs else decide (33 ≤ n ∧ n ≤ 126 ∧ n ≠ 61)) = false) : ∃ t', Value.bytes [(61 : Int).toNat.toUInt8, (hexI (n.fdiv 16)).toNat.toUInt8, (hexI (n.fmod 16)).toNat.toUInt8].toArray t = .bytes (spellI n tabs head).toArray t' := by
  unfold spellI
  rw [if_neg (by rw [h]; exact Bool.false_ne_true)]
  exact ⟨_, rfl⟩
theorem sc1 {n : Int} {tabs head : Bool} (h : n = 95) : (if n = 95 then !head else if n = 32 ∨ n = 9 then !tabs else decide (33 ≤ n ∧ n ≤ 126 ∧ n ≠ 61)) = !head := if_pos h
theorem sc2 {n : Int} {tabs head : Bool} (h : n = 32 ∨ n = 9) : (if n = 95 then !head else if n = 32 ∨ n = 9 then !tabs else decide (33 ≤ n ∧ n ≤ 126 ∧ n ≠ 61)) = !tabs := by
  rw [if_neg (by omega), if_pos h]
theorem sc3 {n : Int} {tabs head : Bool} (h : 33 ≤ n ∧ n ≤ 126 ∧ n ≠ 61) (h2 : n ≠ 95) : (if n = 95 then !head else if n = 32 ∨ n = 9 then !tabs else decide (33 ≤ n ∧ n ≤ 126 ∧ n ≠ 61)) = true := by
  rw [if_neg h2, if_neg (by omega), decide_eq_true h]
theorem sc4 {n : Int} {tabs head : Bool} (h : ¬ (33 ≤ n ∧ n ≤ 126 ∧ n ≠ 61)) (h2 : n ≠ 95) (h3 : n ≠ 32) (h4 : n ≠ 9) : (if n = 95 then !head else if n = 32 ∨ n = 9 then !tabs else decide (33 ≤ n ∧ n ≤ 126 ∧ n ≠ 61)) = false := by
  rw [if_neg h2, if_neg (by omega), decide_eq_false h]
theorem nt {b : Bool} (h : b = false) : (!b) = true := by rw [h]; rfl
theorem nf {b : Bool} (h : b = true) : (!b) = false := by rw [h]; rfl
end Mine

namespace Mine
theorem spell_ways (n : Int) : n = 95 ∨ n = 32 ∨ n = 9 ∨ n = 61 ∨ (33 ≤ n ∧ n ≤ 126 ∧ n ≠ 61 ∧ n ≠ 95) ∨ (n < 33 ∧ n ≠ 32 ∧ n ≠ 9) ∨ 126 < n := by omega
theorem int_eq {x y : Int} {t : Tok} (h : x = y) : ∃ t', Value.int x t = Value.int y t' := ⟨t, by rw [h]⟩
theorem cps_0 : (((Str.ofString "0").cps.getD 0 0 : Nat) : Int) = 48 := by decide +kernel
theorem cps_a : (((Str.ofString "a").cps.getD 0 0 : Nat) : Int) = 97 := by decide +kernel
theorem u8_65i : ((UInt8.toNat 65 : Nat) : Int) = 65 := rfl
end Mine
end

section
open PySem PySem.W PyProof.Rows PySem.Spec PySem.Calls
set_option Elab.async false
namespace Mine
/-- the names of the frame that grows -/
def gm (octets text lets : Value) (rest : Str → Option Value) : Str → Option Value := fun y =>
  if y = Str.ofString "lets" then some lets else if y = Str.ofString "text" then some text else if y = Str.ofString "octets" then some octets else rest y
def octs (ps : List (List UInt8)) (i : Nat) : List UInt8 := (ps.take i).flatten
def textOf (o : List UInt8) : Str := ⟨(o.map UInt8.toNat).toArray⟩
def lets (o : List UInt8) : Bool := o.all fun x => decide (x.toNat < 128)
def PiecesAre (vs : List Value) (ps : List (List UInt8)) : Prop := vs.length = ps.length ∧ ∀ (i : Nat) (p : List UInt8), ps[i]? = some p → ∃ t, vs[i]? = some (Value.bytes p.toArray t)
theorem PiecesAre.get {vs : List Value} {ps : List (List UInt8)} (h : PiecesAre vs ps) {i : Nat} {v : Value} (e : vs[i]? = some v) : ∃ p t, ps[i]? = some p ∧ v = Value.bytes p.toArray t := by
  have hlt : i < ps.length := by
    rw [← h.1]
    exact (List.getElem?_eq_some_iff.mp e).1
  obtain ⟨t, ht⟩ := h.2 i ps[i] (List.getElem?_eq_getElem hlt)
  rw [e] at ht
  exact ⟨_, t, List.getElem?_eq_getElem hlt, Option.some.inj ht⟩
theorem octs_succ {ps : List (List UInt8)} {i : Nat} {p : List UInt8} (h : ps[i]? = some p) : octs ps (i + 1) = octs ps i ++ p := by
  unfold octs
  rw [List.take_add_one, h]
  simp
end Mine
namespace Mine
theorem gm_turn (o' x' l' pv o x l : Value) (rest : Str → Option Value) : (fun y => if y = Str.ofString "lets" then some l' else if y = Str.ofString "text" then some x' else if y = Str.ofString "octets" then some o' else if y = Str.ofString "piece" then some pv else gm o x l rest y) =
    gm o' x' l' (fun y => if y = Str.ofString "piece" then some pv else rest y) := by
  funext y
  unfold gm
  by_cases h1 : y = Str.ofString "lets"
  · rw [if_pos h1, if_pos h1]
  rw [if_neg h1, if_neg h1]
  by_cases h2 : y = Str.ofString "text"
  · rw [if_pos h2, if_pos h2, if_neg h1]
  rw [if_neg h2, if_neg h2]
  by_cases h3 : y = Str.ofString "octets"
  · rw [if_pos h3, if_pos h3, if_neg h1, if_neg h2]
  rw [if_neg h3, if_neg h3]
  dsimp only
  rw [if_neg h1, if_neg h2, if_neg h3]
theorem lets_app (a b : List UInt8) : lets (a ++ b) = (lets a && lets b) := by
  unfold lets
  rw [List.all_append]
theorem lets_yes {a : List UInt8} : lets a = true ↔ ∀ x ∈ a, x.toNat < 128 := by
  unfold lets
  simp
theorem lets_no {a : List UInt8} : lets a = false ↔ ∃ x ∈ a, 128 ≤ x.toNat := by
  unfold lets
  rw [List.all_eq_false]
  simp
theorem text_len (a : List UInt8) : (textOf a).length = a.length := by simp [textOf, PySem.Str.length]
theorem text_yes {a : List UInt8} (h : lets a = true) : ∀ c ∈ (textOf a).cps.toList, c < 128 := by
  intro c hc
  have hc' : c ∈ a.map UInt8.toNat := by simpa [textOf] using hc
  obtain ⟨x, hx, rfl⟩ := List.mem_map.mp hc'
  exact lets_yes.mp h x hx
theorem text_no {a : List UInt8} (h : lets a = false) : ∃ c ∈ (textOf a).cps.toList, 128 ≤ c := by
  obtain ⟨x, hx, h128⟩ := lets_no.mp h
  exact ⟨x.toNat, by simpa [textOf] using ⟨x, hx, rfl⟩, h128⟩
theorem octs_len {ps : List (List UInt8)} (h : ∀ p ∈ ps, p.length ≤ 3) (i : Nat) : (octs ps i).length ≤ 3 * ps.length := by
  unfold octs
  have key : ∀ qs : List (List UInt8), (∀ p ∈ qs, p.length ≤ 3) → qs.flatten.length ≤ 3 * qs.length := by
    intro qs
    induction qs with
    | nil => intro _; simp
    | cons a r ih =>
      intro h
      have h1 := h a (.head _)
      have h2 := ih fun p hp => h p (.tail _ hp)
      simp only [List.flatten_cons, List.length_append, List.length_cons]
      omega
  have h1 := key (ps.take i) fun p hp => h p (List.mem_of_mem_take hp)
  have h2 : (ps.take i).length ≤ ps.length := List.length_take_le' i ps
  omega
theorem octs_ne {ps : List (List UInt8)} (h : ∀ p ∈ ps, p ≠ []) {i : Nat} (h1 : 1 ≤ i) (h2 : i ≤ ps.length) : octs ps i ≠ [] := by
  cases ps with
  | nil => simp at h2; omega
  | cons a r =>
    obtain ⟨j, rfl⟩ : ∃ j, i = j + 1 := ⟨i - 1, by omega⟩
    unfold octs
    rw [List.take_succ_cons, List.flatten_cons]
    intro e
    exact h a (.head _) (List.append_eq_nil_iff.mp e).1
end Mine
namespace Mine
theorem gm_given (pv o x l : Value) (rest : Str → Option Value) : (fun y => if y = Str.ofString "given" then some pv else gm o x l rest y) = gm o x l (fun y => if y = Str.ofString "given" then some pv else rest y) := by
  funext y
  unfold gm
  by_cases h0 : y = Str.ofString "given"
  · subst h0
    rw [if_pos rfl]
    have n1 : ¬ (Str.ofString "given" = Str.ofString "lets") := by decide
    have n2 : ¬ (Str.ofString "given" = Str.ofString "text") := by decide
    have n3 : ¬ (Str.ofString "given" = Str.ofString "octets") := by decide
    rw [if_neg n1, if_neg n2, if_neg n3]
    simp
  · simp only [h0, if_false]
end Mine
end

section
open PySem PySem.W PyProof.Rows PySem.Spec PySem.Calls
set_option Elab.async false
set_option maxRecDepth 100000
namespace Mine
def chrOf (x : UInt8) : Str := ⟨#[x.toNat]⟩
section
variable {prog : Program} {w : World} {A : Around} {E : Value → Shared → Prop} {s : Shared} {h₀ : Heap} {L : Addr} {m mg mb : Str → Option Value} {env : Env} {K : Frag} {p : Program} {loose : List Str} {mean : ExcName → Option Value}
def ChrSrc (A : Around) (h₀ : Heap) (L : Addr) (m : Str → Option Value) (Q : Value → Shared → Prop) (xv : Value) (s₁ : Shared) : Prop :=
  ∃ (b : List UInt8) (t : Tok) (news : List (Addr × Obj)), xv = .bytes b.toArray t ∧ A.handled = none ∧ Fr h₀ L s₁.heap m ∧ News h₀ L s₁.heap news ∧ b.length ≤ 1048576 ∧
    ∀ D h tk ys, CarriedAll ys (b.map fun x => PyData.str (chrOf x)) → Fr h₀ L h m → News h₀ L h ((D, LCg.lst ys) :: news) → LCg.Off1 D news → Q (.ref D) { s₁ with heap := h, toks := tk }
theorem ChrSrc.intro {Q : Value → Shared → Prop} {b : List UInt8} {t : Tok} {news : List (Addr × Obj)} {s₁ : Shared} (hh : A.handled = none) (F : Fr h₀ L s₁.heap m) (N : News h₀ L s₁.heap news) (hz : b.length ≤ 1048576)
    (k : ∀ D h tk ys, CarriedAll ys (b.map fun x => PyData.str (chrOf x)) → Fr h₀ L h m → News h₀ L h ((D, LCg.lst ys) :: news) → LCg.Off1 D news → Q (.ref D) { s₁ with heap := h, toks := tk }) : ChrSrc A h₀ L m Q (.bytes b.toArray t) s₁ :=
  ⟨b, t, news, rfl, hh, F, N, hz, k⟩
theorem carried_snoc : ∀ {ys : List Value} {ds : List PyData} {v : Value} {d : PyData}, CarriedAll ys ds → Carried v d → CarriedAll (ys ++ [v]) (ds ++ [d])
  | _, _, _, _, .nil, c => .cons c .nil
  | _, _, _, _, .cons a r, c => .cons a (carried_snoc r c)
theorem chr_rest {x : Str} {p1 p2 p3 : Pos} {scope : Scope} {cl : List (Str × Addr)} {Fin : List Value → List (Addr × Obj) → Prop} {news : List (Addr × Obj)} {s : Shared} {b : List UInt8}
    (X : K.In h₀) (T : Top p loose mean mg mb h₀) (e : nsIn K mainGlobals (Str.ofString "chr") = some none) (hv : bootBuiltins (Str.ofString "chr") = some (.builtin "chr")) (hg : env.globals = mainGlobals) (hb : env.builtins = builtinsNs)
    (hk : ∀ C, (compEnvC scope cl C env).scope.kind = .function) (hx : ∀ C, (compEnvC scope cl C env).kindOf (Str.ofString "chr") = some .globalImplicit) (hxo : ∀ C, (compEnvC scope cl C env).kindOf x = some .local) (hd : (x == ("__debug__" : Str)) = false)
    (fin : ∀ ys, CarriedAll ys (b.map fun x => PyData.str (chrOf x)) → Fin ys news) : ∀ (k i : Nat) (ys : List Value), i + k = b.length → CarriedAll ys ((b.take i).map fun x => PyData.str (chrOf x)) →
      LCg.CompRest prog w A h₀ L m env (.Call (.Name (Str.ofString "chr") p1) [.Name x p2] [] p3) x scope cl s (fun nw => nw = news) (fun i v => ∃ c u, b.toArray[i]? = some c ∧ v = .int ((c : UInt8).toNat : Int) u) Fin k i ys news
  | 0, i, ys, hi, hc => by
    refine LCg.CompRest.zero (fin ys ?_)
    rwa [List.take_of_length_le (by omega)] at hc
  | k + 1, i, ys, hi, hc => by
    refine LCg.CompRest.succ fun v I oI C oC D m₂ h tk E' hP hC hm F N off ne => ?_
    obtain ⟨c, u, hcx, rfl⟩ := hP
    have hci : b[i]? = some c := by simpa using hcx
    refine wpAny_Call_NameR (LCgL.ld_built F X T e hv (by decide) ?_ hg hb (hk C) (hx C) (by decide))
    refine callWith_builtin rfl (evalArgs_plain (spliced_cons ?_))
    refine LCgL.ld_own N (.tail _ (.head _)) hC hm ?_ (hk C) (hxo C) hd
    refine spliced_nil ?_
    have c256 : c.toNat < 256 := UInt8.toNat_lt c
    refine chr_of_range (by omega) (by omega) ?_
    refine LCg.CompEnd.intro F N news (fun q hq => hq) off rfl ?_
    have hcar : CarriedAll (ys ++ [Value.str ⟨#[((c.toNat : Int)).toNat]⟩ tk]) ((b.take (i + 1)).map fun x => PyData.str (chrOf x)) := by
      rw [List.take_add_one, hci, Option.toList_some, List.map_append]
      exact carried_snoc hc (Carried.str _ _)
    exact chr_rest X T e hv hg hb hk hx hxo hd fin k (i + 1) _ (by omega) hcar
theorem comp_chr {iter : Expr} {x : Str} {px p1 p2 p3 : Pos} {scope : Scope} {cl : List (Str × Addr)} {pos : Pos} {Q : Value → Shared → Prop} (F₀ : Fr h₀ L s.heap m)
    (X : K.In h₀) (T : Top p loose mean mg mb h₀) (e : nsIn K mainGlobals (Str.ofString "chr") = some none) (hv : bootBuiltins (Str.ofString "chr") = some (.builtin "chr")) (hg : env.globals = mainGlobals) (hb : env.builtins = builtinsNs)
    (hkc : ∀ C, (compEnvC scope cl C env).scope.kind = .function) (hxc : ∀ C, (compEnvC scope cl C env).kindOf (Str.ofString "chr") = some .globalImplicit) (hxo : ∀ C, (compEnvC scope cl C env).kindOf x = some .local) (hd : (x == ("__debug__" : Str)) = false)
    (hclos : closureFor scope env = pure cl) (hcell : ∀ y ∈ scope.names, y.2 ≠ .cell) (hkind : scope.kind = .function)
    (hnames : ∀ y ∈ scope.names, y.2 = .local → scope.names.lookup y.1 = some .local) (hx : scope.names.lookup x = some .local)
    (h : wpAny (model prog w) A (eval iter env) (ChrSrc A h₀ L m Q) E s)
    (hs : ∀ x, foldedSetIterable iter env x = pure x := by intro _; rfl) :
    wpAny (model prog w) A (eval (.ListComp (.Call (.Name (Str.ofString "chr") p1) [.Name x p2] [] p3) [⟨.Name x px, iter, [], 0⟩] scope pos) env) Q E s := by
  rw [eval_ListComp]
  refine wpAny_comprehension_free (use := none) rfl hs hclos hkind hnames (wpAny_mono h (fun xv s₁ h₁ => ?_) fun _ _ e => e)
  obtain ⟨b, t, news, rfl, hh, F, N, hz, k⟩ := h₁
  refine KBw.pyIter_bytes ?_
  refine LCg.block_U (S := fun nw => nw = news) (Fin := fun ys nw => nw = news ∧ CarriedAll ys (b.map fun x => PyData.str (chrOf x))) (KBw.walks hh s₁.heap.objs.size b.toArray t) (by rw [sizeLine_eq]; simp only [List.size_toArray]; omega) (fun i h st => by obtain ⟨o, e, _⟩ := st; exact ⟨o, e⟩)
    (fun i h h' o nw st e e' _ _ _ => by obtain ⟨o', q, r⟩ := st; rw [e] at q; cases q; exact ⟨o, e', r⟩) hcell hkind hx ⟨_, Heap.get?_push_size _ rfl, rfl, rfl⟩ (fun b hb => ?_)
    (F.keeps fun _ _ e => Heap.get?_push_of_some _ e) (N.grown fun _ _ e => Heap.get?_push_of_some _ e) (Nat.ne_of_lt F.ns.lt) (next_is_new F) (fun p hp => Nat.ne_of_lt (Heap.lt_size (N p hp).1)) rfl ?_ ?_
  · rw [List.mem_singleton.mp hb]
    show s₁.heap.objs.size < (s₁.heap.push _).objs.size
    rw [Heap.size_push]; exact Nat.lt_succ_self _
  · exact chr_rest X T e hv hg hb hkc hxc hxo hd (fun ys hc => ⟨rfl, hc⟩) b.toArray.size 0 [] (by simp) .nil
  · intro D C h tk m' ys news' F' N' o1 hn hC₀ hD₀ hCL hDL hCD offC fin
    obtain ⟨rfl, fin⟩ := fin
    refine ⟨m', hn, fun h'' hs'' => k D h'' tk ys fin (F'.change hs'' hCL hC₀) (fun p hp => ?_) o1⟩
    refine ⟨hs''.extBut _ _ ?_ (N' p hp).1, (N' p hp).2⟩
    rcases List.mem_cons.mp hp with rfl | hp
    · exact Ne.symm hCD
    · exact offC p hp
end
end Mine
end

section
open PySem PySem.W PyProof.Rows
set_option Elab.async false
set_option maxRecDepth 100000
namespace Mine
open Builtin PySem.Calls
namespace UE
theorem notType : (Value.type "UnicodeEncodeError" == Value.type "type") = false := by decide +kernel
theorem canNew : (((Manifest.find? "UnicodeEncodeError").bind (·.mro.findSome? fun (t : String) => (Manifest.find? t).bind fun b => if b.noNew then some true else if b.attrs.any (·.1 == "__new__") then some false else none)).getD false) = false := by decide +kernel
theorem typeCall (rest : List Value) : checkTypeCall "UnicodeEncodeError" ⟨rest, []⟩ = pure () := by kernel_rfl
theorem mroFast : (fastBuiltinMro "UnicodeEncodeError").map (·.isEmpty) = some false := by kernel_rfl
theorem mro : ∃ l, mroOf (.type "UnicodeEncodeError") = pure l ∧ l.isEmpty = false := by
  have h := mroFast
  rw [mroOf_type]
  cases hm : fastBuiltinMro "UnicodeEncodeError" with
  | none => rw [hm] at h; cases h
  | some l => rw [hm] at h; exact ⟨l, rfl, by simpa using h⟩
theorem madeBy : Bind.madeBy (.type "UnicodeEncodeError") = pure (some "UnicodeEncodeError.__new__") := by kernel_rfl
theorem newCheck (rest : List Value) : checkBuiltinCall "UnicodeEncodeError.__new__" ⟨.type "UnicodeEncodeError" :: rest, []⟩ = pure () := by kernel_rfl
theorem newEntry : entryFor table "UnicodeEncodeError.__new__" = some Builtin.«BaseException.__new__» :=
  entryFor_alias (id' := "BaseException.__new__") (by rw [fastTable_eq_tree]; kernel_rfl) (by first | rfl | (unfold String.splitOn; simp +decide [String.splitOnAux])) (by decide +kernel) (by rw [fastTable_eq_tree]; kernel_rfl)
theorem newPlain : plainId "UnicodeEncodeError.__new__" = true := by decide +kernel
theorem newEnds : "UnicodeEncodeError.__new__".endsWith ".__new__" = true := by decide +kernel
theorem subOwner : isSubtype (.type "UnicodeEncodeError") (.type ("UnicodeEncodeError.__new__".dropRight 8)) = pure true := by rw [isSubtype_type]; kernel_rfl
theorem madeHere : Bind.madeHere "BaseException.__new__" (.type "UnicodeEncodeError") = pure () := by kernel_rfl
theorem notAttr : isSubtype (.type "UnicodeEncodeError") (.type "AttributeError") = pure false := by rw [isSubtype_type]; kernel_rfl
theorem notName : isSubtype (.type "UnicodeEncodeError") (.type "NameError") = pure false := by rw [isSubtype_type]; kernel_rfl
theorem self : isSubtype (.type "UnicodeEncodeError") (.type "UnicodeEncodeError") = pure true := by rw [isSubtype_type]; kernel_rfl
theorem isExc : isSubtype (.type "UnicodeEncodeError") (.type "BaseException") = pure true := by rw [isSubtype_type]; kernel_rfl
theorem notTuple : isSubtype (.type ((Manifest.find? "UnicodeEncodeError").elim "type" fun y => y.metatype)) (.type "tuple") = pure false := by rw [isSubtype_type]; kernel_rfl
theorem boot : bootBuiltins (Str.ofString "UnicodeEncodeError") = some (.type "UnicodeEncodeError") := by decide +kernel
theorem init : Slot "UnicodeEncodeError" "__init__" "UnicodeEncodeError.__init__" := .of (owner := "UnicodeEncodeError") (n := "__init__") (by rw [typeLookup_type, builtinLookup_eq_fast]; kernel_rfl) (by decide +kernel) (by decide +kernel) (by decide +kernel)
    (by first | exact .inl (by decide +kernel) | exact .inr (by decide +kernel)) (by rw [isSubtype_type]; kernel_rfl)
theorem initEntry : entryFor table "UnicodeEncodeError.__init__" = some Builtin.«UnicodeEncodeError.__init__» := by first | exact entryFor_of_tree (by kernel_rfl) | exact entryFor_of_fast (by kernel_rfl)
theorem initKind : builtinKind "UnicodeEncodeError.__init__" = some .slot := by decide +kernel
theorem initSplit : splitId "UnicodeEncodeError.__init__" = some ("UnicodeEncodeError", "__init__") := by decide +kernel
theorem initArgs (a b c d e f : Value) : argsOk "UnicodeEncodeError.__init__" ⟨[a, b, c, d, e, f], []⟩ := by
  unfold argsOk; kernel_rfl
end UE
section
variable {prog : Program} {w : World} {A : Around} {E : Value → Shared → Prop} {s : Shared}
open UnicodeEncodeError

theorem ue_members0 {M : Model} {e : Addr} {o : Obj} {t0 : Value} {Q : Members → Shared → Prop} (ho : s.heap.get? e = some o) (hd : o.data = .fields #[t0, .none, .none, .none, .bool false, .none]) (h : Q {} s) :
    wpAny M A (members (.ref e)) Q E s := by
  unfold members
  refine wpAny_bind (wpAny_fieldsOf ho hd ?_)
  exact wpAny_pure h
theorem ue_members5 {M : Model} {e : Addr} {o : Obj} {t0 a b c : Value} {i j : Int} {Q : Members → Shared → Prop} (ho : s.heap.get? e = some o) (hd : o.data = .fields #[t0, .none, .none, .none, .bool false, .none, a, b, rawInt i, rawInt j, c])
    (h : Q { encoding := a, object := b, start := i, stop := j, reason := c } s) : wpAny M A (members (.ref e)) Q E s := by
  unfold members
  refine wpAny_bind (wpAny_fieldsOf ho hd ?_)
  exact wpAny_pure h
theorem ue_put {M : Model} {e : Addr} {o : Obj} {vs : Array Value} {m : Members} {Q : Unit → Shared → Prop} (ho : s.heap.get? e = some o) (hd : o.data = .fields vs) (hz : vs.size ≤ 11)
    (h : ∀ h' o', h'.get? e = some o' → o'.cls = o.cls → o'.data = .fields (vs.extract 0 6 ++ #[m.encoding, m.object, rawInt m.start, rawInt m.stop, m.reason]) → (∀ b o, b ≠ e → s.heap.get? b = some o → h'.get? b = some o) → Q () { s with heap := h' }) :
    wpAny M A (setMembers (.ref e) m) Q E s := by
  unfold setMembers
  refine wpAny_updateFields ho hd ?_ (by
    show (vs.extract 0 6 ++ #[m.encoding, m.object, rawInt m.start, rawInt m.stop, m.reason]).size ≤ sizeLine + 3
    rw [Array.size_append, Array.size_extract, sizeLine_eq]
    simp
    omega)
  refine h _ _ (Heap.get?_update_self _ ho (Obj.isFreed_of_fields (Obj.data_mapFields hd _))) (Obj.cls_mapFields _ _) (Obj.data_mapFields hd _) fun b o hb hbo => ?_
  rw [Heap.get?_update_other _ _ (Ne.symm hb)]
  exact hbo
end
end Mine
end

section
open PySem PySem.W PyProof.Rows
set_option Elab.async false
set_option maxRecDepth 100000
namespace Mine
open Builtin PySem.Calls UnicodeEncodeError
/-- a new exception: no traceback yet, no context -/
structure NewExc3 (h h' : Heap) (e : Addr) (cls : String) : Prop where
  keeps : ∀ b o, h.get? b = some o → h'.get? b = some o
  new : h.get? e = none
  there : ∃ ob vs, h'.get? e = some ob ∧ ob.cls = .type cls ∧ ob.data = .fields vs ∧ vs[1]? = some .none ∧ vs[2]? = some .none
section
variable {prog : Program} {w : World} {A : Around} {E : Value → Shared → Prop} {s : Shared}
theorem ue_init {e t0 : Addr} {ob : Obj} {te tx ti tj tr : Tok} {enc x reason : Str} {i j : Int} {Q : Value → Shared → Prop}
    (he : s.heap.get? e = some ob) (hcls : ob.cls = .type "UnicodeEncodeError") (hd : ob.data = .fields #[.ref t0, .none, .none, .none, .bool false, .none])
    (hi : 0 ≤ i ∧ i < 2 ^ 63) (hj : 0 ≤ j ∧ j < 2 ^ 63)
    (h : ∀ h' o' t1, h'.get? e = some o' → o'.cls = .type "UnicodeEncodeError" → o'.data = .fields #[.ref t1, .none, .none, .none, .bool false, .none, .str enc te, .str x tx, rawInt i, rawInt j, .str reason tr] → (∀ b o, b ≠ e → s.heap.get? b = some o → h'.get? b = some o) → Q .none { s with heap := h' }) :
    wpAny (model prog w) A (call (.builtin "UnicodeEncodeError.__init__") [.ref e, .str enc te, .str x tx, .int i ti, .int j tj, .str reason tr]) Q E s := by
  have hT : s.TypeIs (.ref e) "UnicodeEncodeError" := ⟨ob, he, hcls⟩
  refine wpAny_call (codeAny_call_builtin UE.init.plain UE.initEntry (UE.init.check _ _ _ _ _ _ _ _ hT (UE.initArgs _ _ _ _ _ _) ?_))
  unfold Builtin.«UnicodeEncodeError.__init__»
  dsimp only
  refine wpAny_bind ?_
  unfold beginInit
  dsimp only
  rw [if_neg (by simp)]
  refine wpAny_bind (wpAny_field he hd rfl ?_)
  unfold newTuple
  refine wpAny_bind (wpAny_newObj_type ?_ (by show (5 : Nat) ≤ _; decide))
  have he₁ := Heap.get?_push_of_some (h := s.heap) { cls := .type "tuple", data := .seq [Value.str enc te, .str x tx, .int i ti, .int j tj, .str reason tr].toArray } he
  refine wpAny_bind (wpAny_setField he₁ hd (by simp) ?_)
  refine wpAny_bind (wpAny_letGo ?_)
  have he₂ := Heap.get?_update_self (Obj.mapFields (·.setIfInBounds 0 (Value.ref s.heap.objs.size))) he₁ (Obj.isFreed_of_fields (Obj.data_mapFields hd _))
  have hd₂ : (Obj.mapFields (·.setIfInBounds 0 (Value.ref s.heap.objs.size)) ob).data = .fields #[.ref s.heap.objs.size, .none, .none, .none, .bool false, .none] := Obj.data_mapFields hd _
  have hc₂ : (Obj.mapFields (·.setIfInBounds 0 (Value.ref s.heap.objs.size)) ob).cls = .type "UnicodeEncodeError" := (Obj.cls_mapFields _ _).trans hcls
  have hk₂ : ∀ b o, b ≠ e → s.heap.get? b = some o → ((s.heap.push { cls := .type "tuple", data := .seq [Value.str enc te, .str x tx, .int i ti, .int j tj, .str reason tr].toArray }).update e (Obj.mapFields (·.setIfInBounds 0 (Value.ref s.heap.objs.size)))).get? b = some o := fun b o hb hbo => by
    rw [Heap.get?_update_other _ _ (Ne.symm hb)]
    exact Heap.get?_push_of_some _ hbo
  generalize ((s.heap.push { cls := .type "tuple", data := .seq [Value.str enc te, .str x tx, .int i ti, .int j tj, .str reason tr].toArray }).update e (Obj.mapFields (·.setIfInBounds 0 (Value.ref s.heap.objs.size)))) = H2 at he₂ hk₂ ⊢
  generalize (Obj.mapFields (·.setIfInBounds 0 (Value.ref s.heap.objs.size)) ob) = O2 at he₂ hd₂ hc₂
  generalize s.heap.objs.size = T1 at hd₂
  rw [if_pos (by decide)]
  show wpAny _ _ (members (.ref e) >>= _) _ _ _
  refine wpAny_bind (ue_members0 he₂ hd₂ ?_)
  show wpAny _ _ (setMembers (.ref e) _ >>= _) _ _ _
  refine wpAny_bind (ue_put he₂ hd₂ (by simp) fun H3 O3 he₃ hc₃ hd₃ hk₃ => ?_)
  have hd₃' : O3.data = .fields #[.ref T1, .none, .none, .none, .bool false, .none, unset, unset, rawInt 0, rawInt 0, unset] := hd₃
  show wpAny _ _ (letGo _ >>= _) _ _ _
  refine wpAny_bind (wpAny_letGo ?_)
  show wpAny _ _ (members (.ref e) >>= _) _ _ _
  refine wpAny_bind (ue_members5 he₃ hd₃' ?_)
  show wpAny _ _ (setMembers (.ref e) _ >>= _) _ _ _
  refine wpAny_bind (ue_put he₃ hd₃' (by simp) fun H4 O4 he₄ hc₄ hd₄ hk₄ => ?_)
  have hd₄' : O4.data = .fields #[.ref T1, .none, .none, .none, .bool false, .none, unset, unset, rawInt 0, rawInt 0, unset] := hd₄
  refine wpAny_bind (wpAny_letGo ?_)
  refine wpAny_bind (ue_members5 he₄ hd₄' ?_)
  refine wpAny_bind (ue_put he₄ hd₄' (by simp) fun H5 O5 he₅ hc₅ hd₅ hk₅ => ?_)
  have hd₅' : O5.data = .fields #[.ref T1, .none, .none, .none, .bool false, .none, unset, unset, rawInt 0, rawInt 0, unset] := hd₅
  refine wpAny_bind (wpAny_letGo ?_)
  rw [if_neg (by simp)]
  refine wpAny_pure ?_
  dsimp only
  refine wpAny_bind (wpAny_of_eq (a := ()) rfl ?_)
  refine wpAny_bind (wpAny_of_eq (a := ()) rfl ?_)
  refine wpAny_bind ?_
  unfold initRange
  refine wpAny_bind ?_
  unfold sizeArgument
  refine wpAny_bind (wpAny_of_eq (rfl : asIndex (.int i ti) = pure i) ?_)
  rw [if_neg (by simp; omega)]
  refine wpAny_pure ?_
  refine wpAny_bind (ue_members5 he₅ hd₅' ?_)
  refine wpAny_bind (ue_put he₅ hd₅' (by simp) fun H6 O6 he₆ hc₆ hd₆ hk₆ => ?_)
  have hd₆' : O6.data = .fields #[.ref T1, .none, .none, .none, .bool false, .none, unset, unset, rawInt i, rawInt 0, unset] := hd₆
  refine wpAny_bind ?_
  refine wpAny_bind (wpAny_of_eq (rfl : asIndex (.int j tj) = pure j) ?_)
  rw [if_neg (by simp; omega)]
  refine wpAny_pure ?_
  refine wpAny_bind (ue_members5 he₆ hd₆' ?_)
  refine ue_put he₆ hd₆' (by simp) fun H7 O7 he₇ hc₇ hd₇ hk₇ => ?_
  have hd₇' : O7.data = .fields #[.ref T1, .none, .none, .none, .bool false, .none, unset, unset, rawInt i, rawInt j, unset] := hd₇
  refine wpAny_bind (wpAny_of_eq (a := ()) rfl ?_)
  refine wpAny_bind (ue_members5 he₇ hd₇' ?_)
  refine wpAny_bind (ue_put he₇ hd₇' (by simp) fun H8 O8 he₈ hc₈ hd₈ hk₈ => ?_)
  have hd₈' : O8.data = .fields #[.ref T1, .none, .none, .none, .bool false, .none, .str enc te, .str x tx, rawInt i, rawInt j, .str reason tr] := hd₈
  refine wpAny_pure ?_
  exact h H8 O8 T1 he₈ (hc₈.trans (hc₇.trans (hc₆.trans (hc₅.trans (hc₄.trans (hc₃.trans hc₂)))))) hd₈' fun b o hb hbo => hk₈ b o hb (hk₇ b o hb (hk₆ b o hb (hk₅ b o hb (hk₄ b o hb (hk₃ b o hb (hk₂ b o hb hbo))))))
theorem ue_new {rest : List Value} {Q : Value → Shared → Prop}
    (h : Q (.ref (s.heap.push { cls := .type "tuple", data := .seq rest.toArray }).objs.size) { s with heap := (s.heap.push { cls := .type "tuple", data := .seq rest.toArray }).push { cls := .type "UnicodeEncodeError", data := .fields #[.ref s.heap.objs.size, .none, .none, .none, .bool false, .none] } }) (hrest : rest.length ≤ sizeLine := by size_fits) :
    wpAny (model prog w) A (call (.builtin "UnicodeEncodeError.__new__") (.type "UnicodeEncodeError" :: rest)) Q E s := by
  refine call_builtin_at UE.newPlain UE.newEntry (UE.newCheck rest) ?_
  unfold Builtin.«BaseException.__new__»
  refine PyProof.Rows.wpAt_bind (wpAt_owner rfl UE.newEnds (PyProof.Rows.wpAt_of_any ?_))
  dsimp only
  refine wpAny_bind (m := isType _) (wpAny_of_eq (a := true) rfl ?_)
  simp only [Bool.not_true, Bool.false_eq_true, if_false]
  refine wpAny_bind (wpAny_of_eq UE.subOwner ?_)
  simp only [Bool.not_true, Bool.false_eq_true, if_false]
  refine wpAny_bind (wpAny_of_eq UE.madeHere ?_)
  refine wpAny_bind (wpAny_of_eq (a := 0) ?own ?_)
  case own =>
    show (do
      if ← isSubtype (.type "UnicodeEncodeError") (.type "AttributeError") then return 2
      if ← isSubtype (.type "UnicodeEncodeError") (.type "NameError") then return 1
      return 0 : Sem Nat) = pure 0
    simp only [UE.notAttr, UE.notName, pure_bind, Bool.false_eq_true, if_false]
  unfold newTuple
  refine wpAny_bind (wpAny_newObj_type (wpAny_bind (wpAny_newObj_type (wpAny_pure ⟨_, rfl, ?_⟩) (by size_fits))) (by show rest.toArray.size ≤ sizeLine; rw [List.size_toArray]; exact hrest))
  first
    | exact h
    | simpa using h
theorem ue_call {te tx ti tj tr : Tok} {enc x reason : Str} {i j : Int} {Q : Value → Shared → Prop} (hi : 0 ≤ i ∧ i < 2 ^ 63) (hj : 0 ≤ j ∧ j < 2 ^ 63)
    (h : ∀ h' e, NewExc3 s.heap h' e "UnicodeEncodeError" → Q (.ref e) { s with heap := h' }) :
    wpAny (model prog w) A (call (.type "UnicodeEncodeError") [.str enc te, .str x tx, .int i ti, .int j tj, .str reason tr]) Q E s := by
  refine wpAny_call (codeAny_of_tree ?_)
  show wpAny _ _ (callAny (.type "UnicodeEncodeError") ⟨[.str enc te, .str x tx, .int i ti, .int j tj, .str reason tr], []⟩) _ _ s
  simp only [callAny]
  refine wpAny_pure ⟨Code.quiet_builtin _ (by decide +kernel), codeAny_builtin entry_type_call ?_⟩
  rw [Around.under_plain (weight_type_call "UnicodeEncodeError" _ _) (by first | rfl | kernel_rfl | decide +kernel)]
  unfold Builtin.«type.__call__»
  dsimp only
  rw [if_neg (by rw [UE.notType]; exact Bool.false_ne_true), if_neg (by rw [UE.canNew]; exact Bool.false_ne_true)]
  obtain ⟨l, hl, hle⟩ := UE.mro
  refine wpAny_bind (wpAny_of_eq (UE.typeCall _) (wpAny_bind (wpAny_of_eq hl ?_)))
  rw [if_neg (by rw [hle]; exact Bool.false_ne_true)]
  refine wpAny_bind (wpAny_of_eq UE.madeBy ?_)
  dsimp only
  refine wpAny_bind (wpAny_pure (wpAny_bind (wpAny_holding (ue_new ?_ (by show (5 : Nat) ≤ _; decide)))))
  refine wpAny_bind (wpAny_isInstance (T := "UnicodeEncodeError") ⟨_, Heap.get?_push_size _ rfl, rfl⟩ UE.self ?_)
  simp only [Bool.not_true, Bool.false_eq_true, if_false]
  refine wpAny_bind (wpAny_holding (wpAny_callSpecial?_slot (name := Str.ofString "__init__") (T := "UnicodeEncodeError") ⟨_, Heap.get?_push_size _ rfl, rfl⟩ UE.init
    (ue_init (Heap.get?_push_size _ rfl) rfl rfl hi hj fun h' o' t1 he' hc' hd' hk' => ?_)))
  dsimp only
  rw [if_neg (by simp)]
  refine wpAny_pure (h _ _ ⟨fun b o hb => ?_, Heap.get?_none_of_le (by simp), o', _, he', hc', hd', rfl, rfl⟩)
  exact hk' b o (Nat.ne_of_lt (Nat.lt_of_lt_of_le (Heap.lt_size hb) (by simp))) (Heap.get?_push_of_some _ (Heap.get?_push_of_some _ hb))
end
end Mine
end

section
open PySem PySem.W PyProof.Rows
set_option Elab.async false
set_option maxRecDepth 100000
namespace Mine
open Builtin PySem.Calls
section
theorem enc_road {x : Str} {t : Tok} : _codecs.encodeRoad "str.encode" (.str x t) x (Str.ofString "ascii") none = (do mkBytes (← _codecs.encodeNarrow "str.encode" _codecs.asciiCodec none (.str x t) x)) := by
  kernel_rfl
theorem enc_tree {x : Str} {t u : Tok} : «str.encode» ⟨[.str x t, .str (Str.ofString "ascii") u], []⟩ = (do ret (← _codecs.encodeRoad "str.encode" (.str x t) x (Str.ofString "ascii") none)) := by
  kernel_rfl
theorem wp_forIn_cons {M : Model} {A : Around} {E : Value → Shared → Prop} {s : Shared} {α β : Type} {f : α → β → Sem (ForInStep β)} {a : α} {l : List α} {b : β} {Q : β → Shared → Prop}
    (h : wpAny M A (f a b) (fun r s' => match r with | .done b => Q b s' | .yield b => wpAny M A (forIn l b f) Q E s') E s) : wpAny M A (forIn (a :: l) b f) Q E s := by
  rw [List.forIn_cons]
  refine wpAny_bind (wpAny_mono h (fun r s' h' => ?_) fun _ _ e => e)
  cases r with
  | done b => exact wpAny_pure h'
  | yield b => exact h'
theorem wp_forIn_nil {M : Model} {A : Around} {E : Value → Shared → Prop} {s : Shared} {α β : Type} {f : α → β → Sem (ForInStep β)} {b : β} {Q : β → Shared → Prop} (h : Q b s) : wpAny M A (forIn ([] : List α) b f) Q E s := by
  rw [List.forIn_nil]
  exact wpAny_pure h
theorem range_size (n : Nat) : ([0:n] : Std.Legacy.Range).size = n := by simp [Std.Legacy.Range.size]
def asciiB (x : Str) : Array UInt8 := (x.cps.toList.map fun c => c.toUInt8).toArray
theorem asciiB_size (x : Str) : (asciiB x).size = x.length := by simp [asciiB, Str.length]
theorem ascii_fold (l : List Nat) (acc : Array UInt8) : l.foldl (fun acc y => acc ++ (_codecs.asciiCodec.bytesOf y).toArray) acc = acc ++ (l.map fun c => c.toUInt8).toArray := by
  induction l generalizing acc with
  | nil => simp
  | cons c r ih =>
    rw [List.foldl_cons, ih]
    show (acc ++ [c.toUInt8].toArray) ++ _ = _
    rw [Array.append_assoc]
    congr 1
    rw [List.append_toArray]
    rfl
theorem find_none {x : Str} (hx : ∀ c ∈ x.cps.toList, c < 128) : x.cps.findIdx? _codecs.asciiCodec.bad = none := by
  rw [Array.findIdx?_eq_none_iff]
  intro c hc
  have := hx c (by simpa using hc)
  show decide (c ≥ 128) = false
  exact decide_eq_false (by omega)
section
variable {M : Model} {A : Around} {E : Value → Shared → Prop} {s : Shared}
theorem enc_narrow_ok {x : Str} {t : Tok} {Q : Array UInt8 → Shared → Prop} (hx : ∀ c ∈ x.cps.toList, c < 128) (hz : x.length ≤ 1048576) (h : Q (asciiB x) s) : wpAny M A (_codecs.encodeNarrow "str.encode" _codecs.asciiCodec none (.str x t) x) Q E s := by
  unfold _codecs.encodeNarrow
  refine wpAny_bind ?_
  rw [Std.Legacy.Range.forIn_eq_forIn_range', range_size]
  cases hn : x.length with
  | zero =>
    rw [List.range'_zero]
    refine wp_forIn_nil (wpAny_pure ?_)
    have e : asciiB x = #[] := Array.eq_empty_of_size_eq_zero (by rw [asciiB_size]; exact hn)
    rw [e] at h
    exact h
  | succ k =>
    rw [List.range'_succ]
    refine wp_forIn_cons ?_
    have hcs : x.cps.size = k + 1 := hn
    have h0 : x.cps[0]? = some x.cps[0] := Array.getElem?_eq_getElem (by omega)
    have hb0 : _codecs.asciiCodec.bad x.cps[0] = false := by
      have := hx x.cps[0] (by simp)
      exact decide_eq_false (by omega)
    have e0 : x.cps.extract 0 x.cps.size = x.cps := by simp
    have e1 : ∀ f : Nat → Bool, Array.findIdx? f x.cps = none → (Array.findIdx? f x.cps).getD x.cps.size = x.cps.size := fun f hf => by rw [hf]; rfl
    dsimp only
    rw [if_neg (by simp), h0]
    refine wpAny_bind (wpAny_pure ?_)
    dsimp only
    refine bm_if_true (by rw [hb0]; rfl) ?_
    rw [e0, find_none hx]
    refine wpAny_pure ?_
    dsimp only [Option.getD_none]
    rw [e0, show 0 + x.cps.size = x.cps.size from Nat.zero_add _, ← Array.foldl_toList, ascii_fold, Array.empty_append]
    show wpAny _ _ (forIn (List.range' (0 + 1) k 1) (x.cps.size, asciiB x, _) _) _ _ _
    cases k with
    | zero => exact wp_forIn_nil (wpAny_pure h)
    | succ j =>
      rw [List.range'_succ]
      refine wp_forIn_cons ?_
      have hend : x.cps[x.cps.size]? = none := Array.getElem?_eq_none (Nat.le_refl _)
      dsimp only
      rw [if_neg (by rw [asciiB_size, sizeLine_eq]; omega), hend]
      refine wpAny_bind (wpAny_pure ?_)
      refine wpAny_pure ?_
      exact wpAny_pure h
end
section
variable {prog : Program} {w : World} {A : Around} {E : Value → Shared → Prop} {s : Shared}
theorem strict_name : ((none : Option Str).getD (Str.ofString "strict")).toString = "strict" := by decide +kernel
theorem raise_fault {α : Type} {x : Str} {t : Tok} {i j : Nat} {Q : α → Shared → Prop} (hh : A.handled = none) (hi : i < 2 ^ 63) (hj : j < 2 ^ 63)
    (h : ∀ h' tk e, NewExc3 s.heap h' e "UnicodeEncodeError" → E (.ref e) { s with heap := h', toks := tk }) :
    wpAny (model prog w) A (_codecs.raiseEncodeFault {} "ascii" (.str x t) i j "ordinal not in range(128)") Q E s := by
  unfold _codecs.raiseEncodeFault
  refine wpAny_bind ?_
  show wpAny _ _ (do
    let a ← mkStr "ascii"
    let b ← (pure (Value.str x t) : Sem Value)
    let c ← mkInt (i : Int)
    let d ← mkInt (j : Int)
    let e ← mkStr "ordinal not in range(128)"
    call (.type "UnicodeEncodeError") [a, b, c, d, e]) _ _ _
  refine wpAny_bind (wpAny_mkStr (wpAny_bind (wpAny_pure (wpAny_bind (wpAny_mkInt (wpAny_bind (wpAny_mkInt (wpAny_bind (wpAny_mkStr ?_ (by decide +kernel))))))))) (by decide +kernel))
  refine ue_call (by omega) (by omega) fun h' e he => ?_
  unfold raiseNew
  refine wpAny_bind (wpAny_handled ?_)
  rw [hh]
  first
    | exact wpAny_throw (h h' _ e he)
    | exact wpAny_bind (wpAny_pure (wpAny_throw (h h' _ e he)))
theorem getD_small (p : Nat → Bool) (a : Array Nat) (d : Nat) (h1 : a.size ≤ 1048576) (h2 : d ≤ 1048576) : (a.findIdx? p).getD d ≤ 1048576 := by
  cases hf : a.findIdx? p with
  | none => exact h2
  | some k =>
    rw [Array.findIdx?_eq_some_iff_getElem] at hf
    obtain ⟨hk, _⟩ := hf
    show k ≤ _
    omega
theorem enc_narrow_bad {x : Str} {t : Tok} {Q : Array UInt8 → Shared → Prop} (hx : ∃ c ∈ x.cps.toList, 128 ≤ c) (hz : x.length ≤ 1048576) (hh : A.handled = none)
    (h : ∀ h' tk e, NewExc3 s.heap h' e "UnicodeEncodeError" → E (.ref e) { s with heap := h', toks := tk }) :
    wpAny (model prog w) A (_codecs.encodeNarrow "str.encode" _codecs.asciiCodec none (.str x t) x) Q E s := by
  unfold _codecs.encodeNarrow
  refine wpAny_bind ?_
  rw [Std.Legacy.Range.forIn_eq_forIn_range', range_size]
  have hzz : x.cps.size ≤ 1048576 := hz
  cases hf : x.cps.findIdx? _codecs.asciiCodec.bad with
  | none =>
    exfalso
    obtain ⟨c, hc, h1⟩ := hx
    rw [Array.findIdx?_eq_none_iff] at hf
    have h2 := hf c (by simpa using hc)
    have h3 : decide (c ≥ 128) = false := h2
    have := of_decide_eq_false h3
    omega
  | some k =>
    rw [Array.findIdx?_eq_some_iff_getElem] at hf
    obtain ⟨hk, hb, hlo⟩ := hf
    have hf : x.cps.findIdx? _codecs.asciiCodec.bad = some k := by
      rw [Array.findIdx?_eq_some_iff_getElem]
      exact ⟨hk, hb, hlo⟩
    obtain ⟨n, hn⟩ : ∃ n, x.length = n + 1 := ⟨x.cps.size - 1, by show x.cps.size = _; omega⟩
    have hcs : x.cps.size = n + 1 := hn
    rw [hn, List.range'_succ]
    refine wp_forIn_cons ?_
    have h0 : x.cps[0]? = some x.cps[0] := Array.getElem?_eq_getElem (by omega)
    have e0 : x.cps.extract 0 x.cps.size = x.cps := by simp
    dsimp only
    rw [if_neg (by simp), h0]
    refine wpAny_bind (wpAny_pure ?_)
    dsimp only
    by_cases hk0 : k = 0
    · subst hk0
      refine bm_if_false (by rw [hb]; rfl) ?_
      refine wpAny_bind (wpAny_rule ?_)
      rw [strict_name]
      refine bm_if_true (by decide) ?_
      refine wpAny_bind (raise_fault hh (by omega) ?_ h)
      have := getD_small (fun y => !_codecs.asciiCodec.bad y) (x.cps.extract 0 x.cps.size) (x.cps.size - 0) (by rw [e0]; exact hzz) (by omega)
      omega
    · have hb0 : _codecs.asciiCodec.bad x.cps[0] = false := by
        have := hlo 0 (by omega)
        simpa using this
      refine bm_if_true (by rw [hb0]; rfl) ?_
      rw [e0, hf]
      refine wpAny_pure ?_
      dsimp only [Option.getD_some]
      obtain ⟨j, hj⟩ : ∃ j, n = j + 1 := ⟨n - 1, by omega⟩
      subst hj
      rw [List.range'_succ]
      refine wp_forIn_cons ?_
      have ek : 0 + k = k := Nat.zero_add k
      have hkk : x.cps[k]? = some x.cps[k] := Array.getElem?_eq_getElem hk
      have hsz : (Array.foldl (fun acc y => acc ++ (_codecs.asciiCodec.bytesOf y).toArray) #[] (x.cps.extract 0 k)).size ≤ 1048576 := by
        rw [← Array.foldl_toList, ascii_fold]
        simp
        omega
      dsimp only
      rw [if_neg (by rw [sizeLine_eq]; omega), ek, hkk]
      refine wpAny_bind (wpAny_pure ?_)
      dsimp only
      refine bm_if_false (by rw [hb]; rfl) ?_
      refine wpAny_bind (wpAny_rule ?_)
      rw [strict_name]
      refine bm_if_true (by decide) ?_
      refine wpAny_bind (raise_fault hh (by omega) ?_ h)
      have := getD_small (fun y => !_codecs.asciiCodec.bad y) (x.cps.extract k x.cps.size) (x.cps.size - k) (by simp; omega) (by omega)
      omega

theorem encode_ok {x : Str} {t u : Tok} (hx : ∀ c ∈ x.cps.toList, c < 128) (hz : x.length ≤ 1048576) :
    Meets («str.encode» ⟨[.str x t, .str (Str.ofString "ascii") u], []⟩) (fun _ R s => ∀ t' k, R (.ok (.ret (.bytes (asciiB x) t'))) { s with toks := k }) := by
  refine .of_wp fun prog w A R s h => ?_
  rw [enc_tree, enc_road]
  refine wpAny_bind (wpAny_bind (enc_narrow_ok hx hz (wpAny_mkBytes ?_ (by rw [asciiB_size, sizeLine_eq]; omega))))
  exact wpAny_pure ⟨_, rfl, h _ _⟩
theorem encode_bad {x : Str} {t u : Tok} (hx : ∃ c ∈ x.cps.toList, 128 ≤ c) (hz : x.length ≤ 1048576) :
    Meets («str.encode» ⟨[.str x t, .str (Str.ofString "ascii") u], []⟩) (fun A R s => A.handled = none ∧ ∀ h' tk e, NewExc3 s.heap h' e "UnicodeEncodeError" → R (.error (.ref e)) { s with heap := h', toks := tk }) := by
  refine .of_wp fun prog w A R s h => ?_
  rw [enc_tree, enc_road]
  exact wpAny_bind (wpAny_bind (enc_narrow_bad hx hz h.1 h.2))
theorem slot_encode : Slot "str" "encode" "str.encode" :=
  .of (owner := "str") (n := "encode") (by rw [typeLookup_type, builtinLookup_eq_fast]; kernel_rfl) (by decide +kernel) (by decide +kernel) (by decide +kernel)
    (by first | exact .inl (by decide +kernel) | exact .inr (by decide +kernel)) (by rw [isSubtype_type]; kernel_rfl)
theorem type_encode : typeOf (.builtin "str.encode") = pure (.type "method_descriptor") := by show builtinType _ = _; rw [builtinType_eq_fast]; kernel_rfl
theorem entry_encode : entryFor table "str.encode" = some Builtin.«str.encode» := entryFor_of_tree (by kernel_rfl)
theorem args_encode (a b : Value) : argsOk "str.encode" ⟨[a, b], []⟩ := by unfold argsOk; kernel_rfl
theorem call_encode_ok {x : Str} {t u : Tok} {Q : Value → Shared → Prop} (hx : ∀ c ∈ x.cps.toList, c < 128) (hz : x.length ≤ 1048576) (h : ∀ t' k, Q (.bytes (asciiB x) t') { s with toks := k }) :
    wpAny (model prog w) A (call (.builtin "str.encode") [.str x t, .str (Str.ofString "ascii") u]) Q E s :=
  call_meets slot_encode (typeIs_str s x t) entry_encode (args_encode _ _) (encode_ok hx hz) h
theorem call_encode_bad {x : Str} {t u : Tok} {Q : Value → Shared → Prop} (hx : ∃ c ∈ x.cps.toList, 128 ≤ c) (hz : x.length ≤ 1048576) (hh : A.handled = none) (h : ∀ h' tk e, NewExc3 s.heap h' e "UnicodeEncodeError" → E (.ref e) { s with heap := h', toks := tk }) :
    wpAny (model prog w) A (call (.builtin "str.encode") [.str x t, .str (Str.ofString "ascii") u]) Q E s :=
  call_meets slot_encode (typeIs_str s x t) entry_encode (args_encode _ _) (encode_bad hx hz) ⟨hh, h⟩
end
end
end Mine
namespace Mine
section
variable {M : Model} {A : Around} {E : Value → Shared → Prop} {s : Shared} {x : Str} {t : Tok} {pl : Sem Bool} {Q : Value × List Value → Shared → Prop}
theorem gm_encode (h : Q (.builtin "str.encode", [.str x t]) s) : wpAny M A (getMethod (.str x t) "encode" pl) Q E s := by
  with_reducible exact GM.of (.str x t) (typeIs_str _ _ _) slot_encode type_encode GM.noRef h
end
end Mine
end

section
open PySem PySem.W PyProof.Rows PySem.Spec PySem.Calls
set_option Elab.async false
set_option maxRecDepth 100000
namespace Mine
open KBy in
/-- bytes + bytes, with what is known of the new object's token -/
theorem add_tok {prog : Program} {w : World} {A : Around} {E : Value → Shared → Prop} {s : Shared} {b c d : List UInt8} {t u : Tok} {Q : Value → Shared → Prop} (e : b ++ c = d) (hsz : b.length + c.length ≤ 16777216)
    (h : ∀ t' k, (b ≠ [] → c ≠ [] → t' = s.toks) → Q (.bytes d.toArray t') { s with toks := k }) : wpAny (model prog w) A (binaryOp .Add (.bytes b.toArray t) (.bytes c.toArray u)) Q E s := by
  subst e
  refine concat_gives (typeIs_bytes s b.toArray t) (typeIs_bytes s c.toArray u) noFill_bytes_add seq_bytes_add FB.slot_bytes_add FB.entry_bytes_add (FB.args_bytes_add_2 _ _) (gives_bytes_add (tooLong_not (by simpa using hsz))) ?_
  by_cases hb : b.toArray.isEmpty = true
  · rw [if_pos hb]
    have e : b = [] := by simpa using hb
    subst e
    exact h u s.toks (fun q => absurd rfl q)
  · rw [if_neg hb]
    by_cases hc : c.toArray.isEmpty = true
    · rw [if_pos hc]
      have e : c = [] := by simpa using hc
      subst e
      have h' := h t s.toks (fun _ q => absurd rfl q)
      rw [List.append_nil] at h'
      exact h'
    · rw [if_neg hc]
      have h' := h s.toks (s.toks + 1) (fun _ _ => rfl)
      refine ⟨by rw [Array.size_append, sizeLine_eq]; simpa using hsz, ?_⟩
      have e2 : b.toArray ++ c.toArray = (b ++ c).toArray := by simp
      rw [e2]
      exact h'
section
variable {prog : Program} {w : World} {A : Around} {E : Value → Shared → Prop} {s : Shared} {t u : Tok} {Q : Value → Shared → Prop}
theorem text_app (a b : List UInt8) : textOf a ++ textOf b = textOf (a ++ b) := by
  refine PySem.Str.ext' ?_
  rw [PySem.Str.cps_append]
  simp [textOf]
theorem join_cps : ∀ (l : List UInt8), (Txt.join (Str.ofString "") (l.map chrOf)) = textOf l
  | [] => rfl
  | [a] => rfl
  | a :: b :: r => by
    show Builtin.Str.glued (Str.ofString "") ((a :: b :: r).map chrOf) = _
    rw [StrLaws.glued_eq_join, List.map_cons, List.map_cons, join_cons_cons]
    have ih := join_cps (b :: r)
    have ih' : Str.join (Str.ofString "") (chrOf b :: r.map chrOf) = textOf (b :: r) := by
      rw [← List.map_cons, ← StrLaws.glued_eq_join]; exact ih
    rw [ih']
    have e1 : chrOf a ++ Str.ofString "" = textOf [a] := rfl
    rw [e1, text_app]
    rfl
theorem join_chr {D : Addr} {ys : List Value} {b : List UInt8} (hl : s.heap.IsList D ys.toArray) (hc : CarriedAll ys (b.map fun x => PyData.str (chrOf x))) (hn : b.length ≤ 1048576)
    (h : ∀ t' k, Q (.str (textOf b) t') { s with toks := k }) : wpAny (model prog w) A (PySem.call (.builtin "str.join") [.str (Str.ofString "") t, .ref D]) Q E s :=
  KT.join_1 (g := chrOf) hl hc (fun a _ => rfl) hn fun t' k _ => by rw [join_cps]; exact h t' k
theorem add_text {a b c : List UInt8} (e : a ++ b = c) (hz : c.length ≤ 1048576) (h : ∀ t' k, Q (.str (textOf c) t') { s with toks := k }) : wpAny (model prog w) A (binaryOp .Add (.str (textOf a) t) (.str (textOf b) u)) Q E s := by
  subst e
  have ha : (textOf a).length = a.length := by simp [textOf, PySem.Str.length]
  have hb : (textOf b).length = b.length := by simp [textOf, PySem.Str.length]
  rw [List.length_append] at hz
  refine KXadd.add (K := a.length) (L := b.length) (by rw [ha]; exact Nat.le_refl _) (by rw [hb]; exact Nat.le_refl _) (by omega) fun t' k _ => ?_
  rw [text_app]
  exact h t' k
theorem max_bytes {b : List UInt8} (hh : A.handled = none) (hne : b ≠ []) {h₀ : Heap} {L : Addr} {m : Str → Option Value} {news : List (Addr × Obj)} (F : Fr h₀ L s.heap m) (N : News h₀ L s.heap news)
    (h : ∀ (M : UInt8) h' t' k, M ∈ b → (∀ x ∈ b, x.toNat ≤ M.toNat) → Fr h₀ L h' m → News h₀ L h' news → Q (.int (M.toNat : Int) t') { s with heap := h', toks := k }) :
    wpAny (model prog w) A (PySem.call (.builtin "max") [.bytes b.toArray t]) Q E s := by
  let num : Nat → Int := fun i => ((b.getD i 0).toNat : Int)
  have hlen : 0 < b.length := List.length_pos_iff.mpr hne
  have hP : ∀ i v, (∃ c u, b.toArray[i]? = some c ∧ v = Value.int ((c : UInt8).toNat : Int) u) → ∃ t, v = .int (num i) t := fun i v ⟨c, u, hc, e⟩ => ⟨u, by
    have : b[i]? = some c := by simpa using hc
    rw [e]
    show Value.int _ _ = Value.int (((b.getD i 0).toNat : Nat) : Int) u
    rw [List.getD_eq_getElem?_getD, this]; rfl⟩
  refine call_max_walk (KBw.pyIter_bytes ?_)
  refine ⟨_, _, _, _, _, _, _, rfl, KBw.walks (A := A.in1) hh s.heap.objs.size b.toArray t, ⟨_, Heap.get?_push_size _ rfl, rfl, rfl⟩, fun b hb => ?_, by simpa using hlen, CmpOf.ints_gt num hP, fun v h' tk hv hk => ?_⟩
  · rw [List.mem_singleton.mp hb]
    show s.heap.objs.size < (s.heap.push _).objs.size
    rw [Heap.size_push]; exact Nat.lt_succ_self _
  · obtain ⟨c, u, hc, rfl⟩ := hv
    obtain ⟨h1, h2⟩ := argBest_gt num (b.toArray.size - 1)
    have hc' : b[argBest (fun i j => decide (num i > num j)) (b.toArray.size - 1)]? = some c := by simpa using hc
    have kp : ∀ a o, s.heap.get? a = some o → h'.get? a = some o := fun a o e => hk a o (fun q => by rw [List.mem_singleton.mp q] at e; exact Nat.lt_irrefl _ (Heap.lt_size e)) (Heap.get?_push_of_some _ e)
    refine h c h' u tk (List.mem_of_getElem? hc') (fun x hx => ?_) (F.grownK kp) (N.grown kp)
    obtain ⟨j, hj⟩ := List.getElem?_of_mem hx
    have hjl : j < b.length := (List.getElem?_eq_some_iff.mp hj).1
    have h3 := h2 j (by simp; omega)
    have e1 : num j = (x.toNat : Int) := by show (((b.getD j 0).toNat : Nat) : Int) = _; rw [List.getD_eq_getElem?_getD, hj]; rfl
    have e2 : num (argBest (fun i j => decide (num i > num j)) (b.toArray.size - 1)) = (c.toNat : Int) := by show (((b.getD _ 0).toNat : Nat) : Int) = _; rw [List.getD_eq_getElem?_getD, hc']; rfl
    rw [e1, e2] at h3
    omega
theorem join_chrN {D : Addr} {ys : List Value} {b : List UInt8} {h₀ : Heap} {L : Addr} {news : List (Addr × Obj)} (N : News h₀ L s.heap ((D, LCg.lst ys) :: news)) (hc : CarriedAll ys (b.map fun x => PyData.str (chrOf x))) (hn : b.length ≤ 1048576)
    (h : ∀ t' k, Q (.str (textOf b) t') { s with toks := k }) : wpAny (model prog w) A (PySem.call (.builtin "str.join") [.str (Str.ofString "") t, .ref D]) Q E s :=
  join_chr ⟨_, (N _ (.head _)).1, rfl, _, rfl⟩ hc hn h
theorem lt_yes {a b : Int} (hab : a < b) (h : Q (.bool true) s) : wpAny (model prog w) A (compareOp .Lt (.int a t) (.int b u)) Q E s := by
  refine P.lt_int ?_
  rw [decide_eq_true hab]; exact h
theorem lt_no {a b : Int} (hab : ¬ a < b) (h : Q (.bool false) s) : wpAny (model prog w) A (compareOp .Lt (.int a t) (.int b u)) Q E s := by
  refine P.lt_int ?_
  rw [decide_eq_false hab]; exact h
theorem max_lt {p : List UInt8} {M : UInt8} (hM : M ∈ p) (hall : ∀ x ∈ p, x.toNat < 128) : (M.toNat : Int) < 128 := by
  have := hall M hM
  omega
theorem max_ge {p : List UInt8} {M : UInt8} (hle : ∀ x ∈ p, x.toNat ≤ M.toNat) (hex : ∃ x ∈ p, 128 ≤ x.toNat) : ¬ (M.toNat : Int) < 128 := by
  obtain ⟨x, hx, h128⟩ := hex
  have := hle x hx
  omega
end
theorem ascii_text (a : List UInt8) : asciiB (textOf a) = a.toArray := by
  unfold asciiB textOf
  congr 1
  rw [List.map_map]
  have : ((fun c : Nat => c.toUInt8) ∘ UInt8.toNat) = id := by
    funext x
    simp
  rw [this, List.map_id]
end Mine
end

section
open PySem PySem.W PyProof.Rows PySem.Spec PySem.Calls
set_option Elab.async false
namespace Mine

/-- the builtins whose standing in the stack makes a bytearray 'exported' -/
def badIds : List String := ["bytearray.__contains__", "bytearray.__mod__", "bytearray.__rmod__", "_struct.pack_into.held", "bytearray.find.held"] ++ Builtin.Bytes.decodersThatHold
def okC : Code → Bool
  | .builtin id _ => !badIds.contains id
  | _ => true
def GoodL (l : List (Code × Pos)) : Prop := ∀ x ∈ l, okC x.1 = true

def wpR {α : Type} (M : Model) (A : Around) (t : Sem α) (Q : α → Shared → Prop) (E : Value → Shared → Prop) (s : Shared) : Prop :=
  ∀ Γ p, Γ.In A → okC Γ.code = true → GoodL Γ.below → Sem.wp M Γ t (fun a _ s' => Q a s') (fun e _ s' => E e s') p s
def codeR (M : Model) (A : Around) (c : Code) (R : Result → Shared → Prop) (s : Shared) : Prop :=
  ∀ Γ p, Γ.code = c → Γ.Below A → GoodL Γ.below → wpCode M Γ R p s

section
variable {α β : Type} {M : Model} {A : Around} {E : Value → Shared → Prop} {s : Shared}

theorem wpR_of {t : Sem α} {Q : α → Shared → Prop} (h : wpAny M A t Q E s) : wpR M A t Q E s := fun Γ p hΓ _ _ => h Γ p hΓ
theorem codeR_of {c : Code} {R : Result → Shared → Prop} (h : codeAny M A c R s) : codeR M A c R s := fun Γ p hc hΓ _ => h Γ p hc hΓ
theorem wpR_pure {a : α} {Q : α → Shared → Prop} (h : Q a s) : wpR M A (pure a) Q E s := wpR_of (wpAny_pure h)
theorem wpR_mono {t : Sem α} {Q Q' : α → Shared → Prop} {E' : Value → Shared → Prop} (h : wpR M A t Q E s)
    (hQ : ∀ a s, Q a s → Q' a s) (hE : ∀ e s, E e s → E' e s) : wpR M A t Q' E' s :=
  fun Γ p hΓ hc hg => Sem.wp_mono M Γ t (fun a _ s => hQ a s) (fun e _ s => hE e s) p s (h Γ p hΓ hc hg)
theorem wpR_bind {m : Sem α} {f : α → Sem β} {Q : β → Shared → Prop} (h : wpR M A m (fun a s' => wpR M A (f a) Q E s') E s) :
    wpR M A (m >>= f) Q E s := fun Γ p hΓ hc hg => by
  rw [Sem.wp_bind']
  exact Sem.wp_mono M Γ m (fun a p' s' h' => h' Γ p' hΓ hc hg) (fun _ _ _ h' => h') p s (h Γ p hΓ hc hg)
theorem wpR_bindA {m : Sem α} {f : α → Sem β} {Q : β → Shared → Prop} (h : wpAny M A m (fun a s' => wpR M A (f a) Q E s') E s) :
    wpR M A (m >>= f) Q E s := wpR_bind (wpR_of h)
theorem wpR_onRaise {m : Sem α} {k : Value → Sem Unit} {Q : α → Shared → Prop} (h : wpR M A m Q (fun _ _ => False) s) : wpR M A (m.onRaise k) Q E s := fun Γ p hΓ hc hg => by
  rw [Sem.wp_onRaise]
  exact Sem.wp_mono M Γ m (fun _ _ _ h' => h') (fun e p' s' h' => h'.elim) p s (h Γ p hΓ hc hg)
theorem wpR_holding {vs : List Value} {m : Sem α} {Q : α → Shared → Prop} (h : wpR M A m Q E s) : wpR M A (holding vs m) Q E s :=
  fun Γ p hΓ hc hg => by rw [Sem.wp_holding]; exact h Γ p hΓ hc hg
theorem wpR_keep {vs : List Value} {m : Sem α} {Q : α → Shared → Prop} (h : wpR M A m Q E s) : wpR M A (m.keep vs) Q E s :=
  fun Γ p hΓ hc hg => by rw [Sem.wp_keep]; exact h Γ p hΓ hc hg
theorem wpR_operate {vs : List Value} {m : Sem Value} {Q : Value → Shared → Prop} (h : wpR M A m Q E s) : wpR M A (operate vs m) Q E s :=
  fun Γ p hΓ hc hg => by rw [Sem.wp_operate]; exact h Γ p hΓ hc hg
theorem goodL_enter {Γ : PySem.Ctx} {c : Code} {h : Option Value} {p : Pos} (hc : okC Γ.code = true) (hg : GoodL Γ.below) : GoodL (Γ.enter c h p).below := by
  show GoodL ((Γ.code, p) :: Γ.below)
  intro x hx
  rcases List.mem_cons.mp hx with rfl | hx
  · exact hc
  · exact hg x hx
theorem wpR_run {c : Code} {h : Option Value} {Q : Flow → Shared → Prop}
    (hc : codeR M (A.mark h) c (fun r s' => match r with | .ok f => Q f s' | .error e => E e s') s) (hnb : h ≠ some byPass := by intro x; cases x) :
    wpR M A (run c h) Q E s :=
  fun Γ p hΓ ok hg => by rw [Sem.wp_run]; exact hc _ p rfl (hΓ.enter c h p hnb) (goodL_enter ok hg)
theorem wpR_runValue {c : Code} {Q : Value → Shared → Prop}
    (hc : codeR M A c (fun r s' => match r with | .ok (.ret v) => Q v s' | .ok _ => False | .error e => E e s') s) :
    wpR M A (runValue c) Q E s := fun Γ p hΓ ok hg => by rw [Sem.wp_runValue]; exact hc _ p rfl (hΓ.enter c none p (by intro x; cases x)) (goodL_enter ok hg)
theorem wpR_call {f : Value} {pos : List Value} {kw : List (Str × Value)} {Q : Value → Shared → Prop}
    (hc : codeR M A (.call f ⟨pos, kw⟩) (fun r s' => match r with | .ok (.ret v) => Q v s' | .ok _ => False | .error e => E e s') s) :
    wpR M A (PySem.call f pos kw) Q E s := wpR_runValue hc
theorem codeR_of_tree {c : Code} {R : Result → Shared → Prop} (ok : okC c = true)
    (h : wpR M (A.under c) (M.den c) (fun fin s' => match fin with | .done f => R (.ok f) s' | .again c' => c'.quiet = true ∧ codeR M A c' R s')
      (fun e s' => R (.error e) s') s) : codeR M A c R s := fun Γ p hc hΓ hg => by
  rw [wpCode_iff_wp, hc]
  refine Sem.wp_mono M Γ _ (fun fin p' s' h' => ?_) (fun _ _ _ h' => h') p s (h Γ p (hc ▸ hΓ.in) (hc ▸ ok) hg)
  cases fin with
  | done f => exact h'
  | again c' => exact ⟨h'.1, h'.2 (Γ.goto c') p' rfl (hΓ.goto c') hg⟩
theorem codeR_mono {c : Code} {R R' : Result → Shared → Prop} (h : codeR M A c R s) (hR : ∀ r s, R r s → R' r s) : codeR M A c R' s :=
  fun Γ p hc hΓ hg => wpCode_mono hR (h Γ p hc hΓ hg)
/-- the stack that is seen in R holds none of the bad builtins -/
theorem wpR_stack {Q : List (Code × Pos) → Shared → Prop} (h : ∀ l, GoodL l → Q l s) : wpR M A stack Q E s := fun Γ p hΓ ok hg => by
  show Q ((Γ.code, p) :: Γ.below) s
  exact h _ (goodL_enter (c := Γ.code) (h := none) ok hg)
theorem execs_app_wp (Γ : PySem.Ctx) (env : Env) (rest : List Stmt) (Q : Flow → Pos → Shared → Prop) (E : Value → Pos → Shared → Prop) : ∀ (pre : List Stmt) (p : Pos) (s : Shared),
    Sem.wp M Γ (execs pre env) (fun f p' s' => match f with | .next => Sem.wp M Γ (execs rest env) Q E p' s' | f => Q f p' s') E p s → Sem.wp M Γ (execs (pre ++ rest) env) Q E p s
  | [], _, _, h => h
  | a :: pre, p, s, h => by
    rw [List.cons_append, execs_cons, Sem.wp_bind']
    rw [execs_cons, Sem.wp_bind'] at h
    refine Sem.wp_mono M Γ _ (fun f p' s' h' => ?_) (fun _ _ _ h' => h') p s h
    cases f <;> first | exact execs_app_wp Γ env rest Q E pre p' s' h' | exact h'
theorem wpR_execs_app {env : Env} {rest : List Stmt} (pre : List Stmt) {Q : Flow → Shared → Prop}
    (h : wpAny M A (execs pre env) (fun f s' => match f with | .next => wpR M A (execs rest env) Q E s' | f => Q f s') E s) : wpR M A (execs (pre ++ rest) env) Q E s := fun Γ p hΓ ok hg =>
  execs_app_wp Γ env rest _ _ pre p s (Sem.wp_mono M Γ _ (fun f p' s' h' => by cases f <;> first | exact h' Γ p' hΓ ok hg | exact h') (fun _ _ _ h' => h') p s (h Γ p hΓ))
theorem wpR_execs_cons {env : Env} {st : Stmt} {rest : List Stmt} {Q : Flow → Shared → Prop}
    (h : wpR M A (exec st env) (fun f s' => match f with | .next => wpR M A (execs rest env) Q E s' | f => Q f s') E s) :
    wpR M A (execs (st :: rest) env) Q E s := fun Γ p hΓ ok hg => by
  rw [execs_cons, Sem.wp_bind']
  refine Sem.wp_mono M Γ _ (fun f p' s' h' => ?_) (fun _ _ _ h' => h') _ _ (h Γ p hΓ ok hg)
  cases f <;> first | exact h' Γ p' hΓ ok hg | exact h'
theorem wpR_runOwn {c : Code} {env : Env} {Q : Flow → Shared → Prop}
    (hc : codeR M A c (fun r s' => match r with | .ok f => Q f s' | .error _ => False) s) : wpR M A (runOwn c env) Q E s := by
  unfold runOwn
  exact wpR_onRaise (wpR_run (h := none) hc)
theorem wpR_For {env : Env} {target : Expr} {iter : Expr} {body orelse : List Stmt} {pos : Pos} {Q : Flow → Shared → Prop}
    (h : wpR M A (eval iter env) (fun x s₁ => wpAny M A (pyIter x) (fun it s₂ => codeR M A (.forLoop target it body orelse env) (fun r s' => match r with | .ok f => Q f s' | .error _ => False) s₂) E s₁) E s)
    (hs : ∀ x, foldedSetIterable iter env x = pure x := by intro _; rfl) :
    wpR M A (exec (.For target iter body orelse pos) env) Q E s := by
  rw [exec_For]
  exact wpR_bindA (wpAny_standAt (wpR_bind (wpR_mono h (fun x s₁ h₁ => by
    rw [hs x]
    exact wpR_bindA (wpAny_pure (wpR_bindA (wpAny_standAt (wpR_bindA (wpAny_holding (wpAny_mono h₁ (fun it s₂ h₂ => wpR_runOwn h₂) fun _ _ h' => h'))))))) fun _ _ h' => h')))
theorem wpR_If {env : Env} {test : Expr} {body orelse : List Stmt} {pos : Pos} {Q : Flow → Shared → Prop}
    (h : wpR M A (isTrue test env (eval test env)) (fun b s₂ => wpR M A (if b then execs body env else execs orelse env) Q E s₂) E s) :
    wpR M A (exec (.If test body orelse pos) env) Q E s := by
  rw [exec_If]
  exact wpR_bindA (wpAny_standAt (wpR_bind h))
end

section
variable {prog : Program} {w : World} {A : Around} {s : Shared}
theorem codeR_func {body : List Stmt} {env : Env} {R : Result → Shared → Prop}
    (h : wpR (model prog w) (A.deeper env) (execs body env) (fun f s' => R (.ok (.ret (match f with | .ret v => v | _ => .none))) s') (fun _ _ => False) s) :
    codeR (model prog w) A (.func body env) R s := by
  refine codeR_of_tree rfl ?_
  show wpR _ (A.deeper env) (do point; match ← (execs body env).onRaise (leaving env) with | .ret v => ret v | _ => ret .none) _ _ s
  refine wpR_bindA (wpAny_point (wpR_bind (wpR_onRaise (wpR_mono h (fun f s' h' => ?_) fun _ _ h' => h'))))
  cases f <;> exact wpR_pure h'
theorem codeR_block {stmts : List Stmt} {env : Env} {R : Result → Shared → Prop}
    (h : wpR (model prog w) A (execs stmts env) (fun f s' => R (.ok f) s') (fun _ _ => False) s) : codeR (model prog w) A (.block stmts env) R s := by
  refine codeR_of_tree rfl ?_
  show wpR _ _ (do return Fin.done (← (execs stmts env).onRaise (fun x => do noteFrame x env; theTreesLotGoes x))) _ _ s
  exact wpR_bind (wpR_onRaise (wpR_mono h (fun f s' h' => wpR_pure h') fun _ _ h' => h'))
theorem codeR_forLoop {R : Result → Shared → Prop} {target : Expr} {it : Value} {body orelse : List Stmt} {env : Env} (I : Nat → Shared → Prop)
    (turn : ∀ n s, I n s → wpAny (model prog w) A (pyNext it) (fun r s₁ => match r with
      | none => wpR (model prog w) A (execs orelse env) (fun f s₃ => R (.ok f) s₃) (fun _ _ => False) s₁
      | some v => wpAny (model prog w) A (assign target env v) (fun _ s₂ => wpR (model prog w) A (execs body env) (fun f s₃ => match f with
          | .next | .cont => ∃ m, m < n ∧ I m s₃
          | .brk => R (.ok .next) s₃
          | .ret v => R (.ok (.ret v)) s₃) (fun _ _ => False) s₂) (fun _ _ => False) s₁) (fun _ _ => False) s)
    (n : Nat) (h : I n s) (ht : ∀ v, letOwnedTupleGo target it v = pure () := by intro _; rfl) : codeR (model prog w) A (.forLoop target it body orelse env) R s := by
  induction n using Nat.strongRecOn generalizing s with
  | ind n ih =>
    refine codeR_of_tree rfl ?_
    show wpR _ _ ((forTurn target it body orelse env).onRaise (fun x => do noteFrame x env; theTreesLotGoes x)) _ _ s
    refine wpR_onRaise ?_
    simp only [forTurn]
    refine wpR_bindA (wpAny_standAt (wpR_bindA (wpAny_onRaise (wpAny_mono (turn n s h) (fun r s₁ h₁ => ?_) fun _ _ h' => h'.elim))))
    cases r with
    | none => exact wpR_pure ⟨rfl, codeR_block h₁⟩
    | some v =>
      refine wpR_bindA (wpAny_of_eq (ht v) ?_)
      refine wpR_bindA (wpAny_mono h₁ (fun _ s₂ h₂ => wpR_bind (wpR_mono h₂ (fun f s₃ h₃ => ?_) fun _ _ h' => h')) fun _ _ h' => h')
      cases f with
      | next => obtain ⟨m, hm, hI⟩ := h₃; exact wpR_pure ⟨rfl, ih m hm hI⟩
      | cont => obtain ⟨m, hm, hI⟩ := h₃; exact wpR_pure ⟨rfl, ih m hm hI⟩
      | brk => exact wpR_pure h₃
      | ret v => exact wpR_pure h₃
theorem codeR_forLoopT {R : Result → Shared → Prop} {target : Expr} {it : Value} {body orelse : List Stmt} {env : Env} (I : Nat → Shared → Prop)
    (turn : ∀ n s, I n s → wpAny (model prog w) A (pyNext it) (fun r s₁ => match r with
      | none => wpR (model prog w) A (execs orelse env) (fun f s₃ => R (.ok f) s₃) (fun _ _ => False) s₁
      | some v => wpAny (model prog w) A (letOwnedTupleGo target it v) (fun _ s₁' => wpAny (model prog w) A (assign target env v) (fun _ s₂ => wpR (model prog w) A (execs body env) (fun f s₃ => match f with
          | .next | .cont => ∃ m, m < n ∧ I m s₃
          | .brk => R (.ok .next) s₃
          | .ret v => R (.ok (.ret v)) s₃) (fun _ _ => False) s₂) (fun _ _ => False) s₁') (fun _ _ => False) s₁) (fun _ _ => False) s)
    (n : Nat) (h : I n s) : codeR (model prog w) A (.forLoop target it body orelse env) R s := by
  induction n using Nat.strongRecOn generalizing s with
  | ind n ih =>
    refine codeR_of_tree rfl ?_
    show wpR _ _ ((forTurn target it body orelse env).onRaise (fun x => do noteFrame x env; theTreesLotGoes x)) _ _ s
    refine wpR_onRaise ?_
    simp only [forTurn]
    refine wpR_bindA (wpAny_standAt (wpR_bindA (wpAny_onRaise (wpAny_mono (turn n s h) (fun r s₁ h₁ => ?_) fun _ _ h' => h'.elim))))
    cases r with
    | none => exact wpR_pure ⟨rfl, codeR_block h₁⟩
    | some v =>
      refine wpR_bindA (wpAny_mono h₁ (fun _ s₁' h₁' => ?_) fun _ _ h' => h')
      refine wpR_bindA (wpAny_mono h₁' (fun _ s₂ h₂ => wpR_bind (wpR_mono h₂ (fun f s₃ h₃ => ?_) fun _ _ h' => h')) fun _ _ h' => h')
      cases f with
      | next => obtain ⟨m, hm, hI⟩ := h₃; exact wpR_pure ⟨rfl, ih m hm hI⟩
      | cont => obtain ⟨m, hm, hI⟩ := h₃; exact wpR_pure ⟨rfl, ih m hm hI⟩
      | brk => exact wpR_pure h₃
      | ret v => exact wpR_pure h₃
theorem wpR_with_toks {M : Model} {A : Around} {s : Shared} {α : Type} {t : Sem α} {Q : α → Shared → Prop} {E : Value → Shared → Prop} {n : Nat} (hn : n ≤ s.toks)
    (h : wpR M A t (fun a s' => n ≤ s'.toks → Q a s') E s) : wpR M A t Q E s := fun Γ p hΓ ok hg =>
  Sem.wp_mono M Γ t (fun a _ s' h' => h'.2 h'.1) (fun _ _ _ h' => h'.2) p s (Sem.wp_toks M Γ n t _ _ p s hn (h Γ p hΓ ok hg))
theorem codeR_call_function {a : Addr} {args : Args} {o : Obj} {fd : FuncData} {body : List Stmt} {R : Result → Shared → Prop} (hroom : A.depth < recursionLimit)
    (ho : s.heap.get? a = some o)
    (hd' : o.data = .func fd) (hco : fd.scope.isCoroutine = false) (hgen : fd.scope.isGenerator = false) (hbody : fd.body = .stmts body) (hcd : s.heap.CodeRec fd.code fd.qualname)
    (h : wpAny (model prog w) A.in1 (bindArgs fd args) (fun binds s₁ =>
      wpAny (model prog w) A.in1 (newFunctionEnv fd.scope fd.globals fd.closure binds (fd.qualname ++ ".<locals>.") (some a) fd.code none fd.builtins)
        (fun env s₂ => s₂.heap.NoLimit ∧ codeR (model prog w) A (.func body env) R s₂) (fun e s' => R (.error e) s') s₁) (fun e s' => R (.error e) s') s) :
    codeR (model prog w) A (.call (.ref a) args) R s := by
  refine codeR_of_tree rfl (wpR_of ?_)
  show wpAny _ A.in1 (callAny (.ref a) args) _ _ s
  simp only [callAny]
  refine wpAny_bind (wpAny_load ho ?_)
  obtain ⟨c, oc, vs, tq, hc, hoc, hdc, hq⟩ := hcd
  simp only [hd', callFunction, hco, hgen, hbody, hc]
  rw [hc] at h
  refine wpAny_bind (m := field (.ref c) 1) (wpAny_field hoc hdc hq (wpAny_bind (wpAny_pure ?_)))
  exact wpAny_bind (wpAny_mono h (fun binds s₁ h₁ => wpAny_bind (wpAny_mono h₁ (fun env s₂ h₂ => wpAny_bind (wpAny_enterFrame h₂.1 hroom
    (wpAny_pure (And.intro rfl h₂.2)))) fun _ _ h' => h')) fun _ _ h' => h')
theorem codeR_call_def {R : Result → Shared → Prop} {a : Addr} {o : Obj} {fd : FuncData} {body : List Stmt} {args : Args} {binds : List (Str × Value)}
    (hroom : A.depth < recursionLimit) (ho : s.heap.get? a = some o) (hdata : o.data = .func fd) (hlim : s.heap.NoLimit) (hcd : s.heap.CodeRec fd.code fd.qualname)
    (hbody : fd.body = .stmts body) (hbind : BindsTo s fd args binds)
    (hcell : ∀ x ∈ fd.scope.names, x.2 ≠ .cell) (hloc : ∀ x ∈ binds, fd.scope.names.lookup x.1 = some .local)
    (h : ∀ h₀, h₀.Ns s.heap.objs.size (fun x => binds.reverse.lookup x) → (∀ b o, s.heap.get? b = some o → h₀.get? b = some o) →
      wpR (model prog w) (A.deeper (callEnv fd s.heap.objs.size a)) (execs body (callEnv fd s.heap.objs.size a)) (fun f s' => R (.ok (.ret (match f with | .ret v => v | _ => .none))) s')
        (fun _ _ => False) { s with heap := h₀, toks := s.toks + binds.length })
    (hco : fd.scope.isCoroutine = false := by rfl) (hgen : fd.scope.isGenerator = false := by rfl) (hk : fd.scope.kind = .function := by rfl) :
    codeR (model prog w) A (.call (.ref a) args) R s := by
  refine codeR_call_function hroom ho hdata hco hgen hbody hcd (hbind _ _ _ _ ?_)
  refine wpAny_newFunctionEnv hcell hloc (fun h₀ hns₀ hsb₀ => ⟨hlim.fresh _ hsb₀, codeR_func (h h₀ hns₀ fun b o e => ?_)⟩) hk
  exact hsb₀.extBut b o (Nat.ne_of_lt (Heap.lt_size e)) (Heap.get?_push_of_some _ e)
end

section
variable {prog : Program} {w : World} {A₀ A : Around} {s : Shared} {base h₀ : Heap} {outer : List Env} {L : Addr} {m mg mb : Str → Option Value} {env : Env} {news : List (Addr × Obj)} {K : Frag} {p : Program} {loose : List Str} {mean : ExcName → Option Value}
  {R : Result → Shared → Prop} {name qual : Str} {params : Arguments} {body : List Stmt} {scope : Scope} {dV kV doc pm cdv ct oc : Value} {an od : Option Addr} {osl : Array (Option Value)} {f : Addr} {args : Args} {binds : List (Str × Value)}
theorem codeR_def
    (B : Below A₀ base outer h₀) (F : Fr h₀ L s.heap m) (X₀ : K.In h₀) (N : News h₀ L s.heap news) (T : Top p loose mean mg mb h₀) (hA : A.frames = some (env :: outer)) (hf : env.frame = some L) (hke : env.scope.kind = .function)
    (ho : K.lookup f = some ⟨oc, od, .func (fnOf name qual params body scope dV kV doc pm an cdv ct), osl⟩) (hcd : codeIn K cdv qual = true) (hroom : A.depth < recursionLimit)
    (hbind : BindsTo s (fnOf name qual params body scope dV kV doc pm an cdv ct) args binds) (hloc : ∀ y ∈ binds, scope.names.lookup y.1 = some .local)
    (h : ∀ g L' h₁, Fr h₀ L g m → Fr g L' h₁ (fun y => binds.reverse.lookup y) → News g L' h₁ news → Below A base (env :: outer) g → K.In g → Top p loose mean mg mb g →
      wpR (model prog w) (A.deeper (envOf qual scope L' f cdv)) (execs body (envOf qual scope L' f cdv))
        (fun fl s' => LeaveK h₀ L m g R (match fl with | .ret v => v | _ => .none) s') (fun _ _ => False)
        { s with heap := h₁, toks := s.toks + binds.length })
    (hco : scope.isCoroutine = false) (hgen : scope.isGenerator = false) (hk : scope.kind = .function)
    (hcell : ∀ x ∈ scope.names, x.2 ≠ .cell) : codeR (model prog w) A (.call (.ref f) args) R s := by
  obtain ⟨FG, BG, st, lv⟩ := groundX (R := R) B F N hA hf hke
  refine codeR_call_def (fd := fnX name qual params body scope [] dV kV doc pm an cdv ct) (body := body) (binds := binds) hroom ((X₀.keeps F.keep) _ _ ho) rfl (T.nolimit.keeps F.keep) (codeRec_of (X₀.keeps F.keep) hcd) rfl hbind hcell hloc (fun h₁ hns hk₁ => ?_) hco hgen hk
  exact wpR_mono (h _ s.heap.objs.size h₁ FG ⟨hns, fun b o e => hk₁ b o (of_hideAll _ e), Nat.le_of_eq (hideAll_size _ _)⟩
    (fun p hp => ⟨hk₁ _ _ (N p hp).1, Nat.ne_of_lt (Heap.lt_size (N p hp).1), hideAll_none _ (List.mem_map_of_mem hp)⟩) BG (X₀.keeps st) (T.keeps st)) (fun fl s' hl => lv _ _ hl) fun _ _ y => y
end

section
variable {M : Model} {A : Around} {E : Value → Shared → Prop} {s : Shared} {env : Env}
theorem callWithR_function {pos : Pos} {a : Addr} {o : Obj} {fd : FuncData} {args : List (Bool × Sem Value)} {Q : Value → Shared → Prop} (hplain : args.any (·.1) = false)
    (h : wpAny M A (evalArgs (.ref a) true args []) (fun x s₁ => (s₁.heap.get? a = some o ∧ o.data = .func fd) ∧ wpR M A (PySem.call (.ref a) x.pos x.kw) Q E s₁) E s) :
    wpR M A (callWith pos (.ref a) [] args []) Q E s := by
  unfold callWith
  refine wpR_bindA (wpAny_holding (wpAny_mono h (fun x s₁ h₁ => wpR_bindA (wpAny_standAt ?_)) fun _ _ x => x))
  have tail : ∀ {t : Sem Value}, wpR M A t Q E s₁ → wpR M A (t >>= fun r => holding [r] point >>= fun _ => pure r) Q E s₁ :=
    fun ht => wpR_bind (wpR_mono ht (fun r s₂ hr => wpR_of (wpAny_bind (wpAny_holding (wpAny_point (wpAny_pure hr))))) fun _ _ x => x)
  simp only [hplain, List.any_nil, Bool.or_false, List.nil_append]
  refine wpR_bindA (m := keeperOf (.ref a)) ?_
  unfold keeperOf
  refine wpAny_bind (wpAny_load h₁.1.1 ?_)
  rw [h₁.1.2]
  refine wpAny_pure ?_
  dsimp only
  split <;> first
    | exact tail h₁.2
    | exact tail (by unfold callMarked; exact wpR_keep h₁.2)
theorem callWithR_type {pos : Pos} {T : String} {args : List (Bool × Sem Value)} {Q : Value → Shared → Prop} (hplain : args.any (·.1) = false)
    (h : wpAny M A (evalArgs (.type T) true args []) (fun a s₁ => wpR M A (PySem.call (.type T) a.pos a.kw) Q E s₁) E s) :
    wpR M A (callWith pos (.type T) [] args []) Q E s := by
  unfold callWith
  refine wpR_bindA (wpAny_holding (wpAny_mono h (fun a s₁ h₁ => wpR_bindA (wpAny_standAt ?_)) fun _ _ x => x))
  simp only [hplain, List.any_nil, Bool.or_false, List.nil_append]
  refine wpR_bindA (wpAny_pure ?_)
  exact wpR_bind (wpR_mono h₁ (fun r s₂ hr => wpR_of (wpAny_bind (wpAny_holding (wpAny_point (wpAny_pure hr))))) fun _ _ x => x)
theorem wpR_Call_Name {id : Str} {p pos : Pos} {args : List Expr} {Q : Value → Shared → Prop}
    (h : wpAny M A (eval (.Name id p) env) (fun f s₁ => wpR M A (callWith pos f [] (backTo pos (starEach args env)) []) Q E s₁) E s) :
    wpR M A (eval (.Call (.Name id p) args [] pos) env) Q E s := by
  show wpR M A (do callWith pos (← eval (.Name id p) env) [] (backTo pos (starEach args env)) (backToKw pos (keywordEach [] env))) Q E s
  exact wpR_bindA h
end
end Mine
end

section
open PySem PySem.W PyProof.Rows PySem.Spec PySem.Calls
set_option Elab.async false
set_option maxRecDepth 100000
namespace Mine
open Builtin

theorem mro_ba : mroOf (.type "bytearray") = pure [.type "bytearray", .type "object"] := by rw [mroOf_type]; kernel_rfl
theorem lookup_ba_new : typeLookup (.type "bytearray") "__new__" = pure (some (.builtin "bytearray.__new__")) := by rw [typeLookup_type, builtinLookup_eq_fast]; kernel_rfl
theorem slot_ba_init : Slot "bytearray" "__init__" "bytearray.__init__" :=
  .of (owner := "bytearray") (n := "__init__") (by rw [typeLookup_type, builtinLookup_eq_fast]; kernel_rfl) (by decide +kernel) (by decide +kernel) (by decide +kernel)
    (by first | exact .inl (by decide +kernel) | exact .inr (by decide +kernel)) (by rw [isSubtype_type]; kernel_rfl)
theorem sub_ba_self : isSubtype (.type "bytearray") (.type "bytearray") = pure true := by rw [isSubtype_type]; kernel_rfl
theorem called_ba : TypeCalled "bytearray" "bytearray.__new__" "bytearray.__init__" :=
  ⟨by decide +kernel, by decide +kernel, ⟨_, _, mro_ba⟩, madeBy_type mro_ba lookup_ba_new (by decide +kernel), by decide +kernel, sub_ba_self, slot_ba_init⟩
theorem typeCall_ba_1 (a : Value) : checkTypeCall "bytearray" ⟨[a], []⟩ = pure () := by kernel_rfl
theorem newCall_ba_1 (a : Value) : checkBuiltinCall "bytearray.__new__" ⟨[.type "bytearray", a], []⟩ = pure () := by kernel_rfl
theorem entry_ba_new : entryFor table "bytearray.__new__" = some Builtin.«list.__new__» :=
  entryFor_alias (id' := "list.__new__") (by rw [fastTable_eq_tree]; kernel_rfl) (by first | rfl | (unfold String.splitOn; simp +decide [String.splitOnAux])) (by decide +kernel) (by rw [fastTable_eq_tree]; kernel_rfl)
theorem entry_ba_init : entryFor table "bytearray.__init__" = some Builtin.«bytearray.__init__» := entryFor_of_tree (by kernel_rfl)
theorem args_ba_init (a b : Value) : argsOk "bytearray.__init__" ⟨[a, b], []⟩ := by unfold argsOk; kernel_rfl
set_option maxRecDepth 1000000 in
set_option maxHeartbeats 4000000 in
theorem owner_ba_new : ("bytearray.__new__".splitOn ".__new__").headD "" = "bytearray" := by simp +decide [String.splitOn, String.splitOnAux]

section
variable {prog : Program} {w : World} {A : Around} {E : Value → Shared → Prop} {s : Shared}
theorem codeR_builtin {id : String} {args : Args} {b : Builtin} {R : Result → Shared → Prop} (ok : badIds.contains id = false) (hb : entryFor table id = some b)
    (h : wpR (model prog w) (A.under (.builtin id args)) (b args)
      (fun fin s' => match fin with | .done f => R (.ok f) s' | .again c' => c'.quiet = true ∧ codeR (model prog w) A c' R s') (fun e s' => R (.error e) s') s) :
    codeR (model prog w) A (.builtin id args) R s := by
  refine codeR_of_tree (by show (!badIds.contains id) = true; rw [ok]; rfl) ?_
  show wpR _ _ (match entryFor table id with | some b => b args | none => unsupported ((withoutEnding? id "#data").getD id)) _ _ s
  rw [hb]; exact h
theorem codeR_call_builtin {id : String} {args : Args} {R : Result → Shared → Prop} (hq : (Code.builtin id args).quiet = true)
    (h : wpAny (model prog w) A.in1 (checkBuiltinCall id args) (fun _ s₁ => codeR (model prog w) A (.builtin id args) R s₁) (fun e s' => R (.error e) s') s) :
    codeR (model prog w) A (.call (.builtin id) args) R s := by
  refine codeR_of_tree rfl (wpR_of ?_)
  show wpAny _ A.in1 (do checkBuiltinCall id args; again (.builtin id args)) _ _ s
  exact wpAny_bind (wpAny_mono h (fun _ s₁ h₁ => wpAny_pure (And.intro hq h₁)) fun _ _ h' => h')

theorem code_ba_new (a : Value) {Q₁ : Value → Shared → Prop}
    (h : Q₁ (.ref s.heap.objs.size) { s with heap := s.heap.push { cls := .type "bytearray", data := .bytearray #[] } }) :
    codeAny (model prog w) A (.call (.builtin "bytearray.__new__") ⟨[.type "bytearray", a], []⟩) (wants Q₁ E) s := by
  refine codeAny_of_tree ?_
  show wpAny _ A.in1 (do checkBuiltinCall "bytearray.__new__" ⟨[.type "bytearray", a], []⟩; again (.builtin "bytearray.__new__" ⟨[.type "bytearray", a], []⟩)) _ _ s
  have pl : plainId "bytearray.__new__" = true := by decide +kernel
  refine wpAny_bind (wpAny_of_eq (newCall_ba_1 a) (wpAny_pure ⟨plainId_quiet pl _, codeAny_builtin_stack entry_ba_new rfl fun p st => ?_⟩))
  rw [Around.under_plainId pl _]
  have hsub := sub_ba_self
  have hown := owner_ba_new
  obtain ⟨hp, g, d, tk, os⟩ := s
  simp only [hown]
  wp_walk
  exact h

theorem any_good {f : Code × Pos → Bool} (hf : ∀ c p, okC c = true → f (c, p) = false) {l : List (Code × Pos)} (h : GoodL l) : l.any f = false := by
  rw [List.any_eq_false]
  intro x hx e
  rw [show x = (x.1, x.2) from rfl, hf _ _ (h x hx)] at e
  cases e
theorem dec_of_ok {id : String} {args : Args} (hk : okC (.builtin id args) = true) : Bytes.decodersThatHold.contains id = false := by
  have hb : badIds.contains id = false := by simpa [okC] using hk
  cases e : Bytes.decodersThatHold.contains id with
  | false => rfl
  | true =>
    have : badIds.contains id = true := by
      unfold badIds
      rw [List.contains_append, e, Bool.or_true]
    rw [this] at hb; cases hb
theorem exported_R {self : Value} {Q : Bool → Shared → Prop} (h : Q false s) : wpR (model prog w) A (Bytes.exported self) Q E s := by
  unfold Bytes.exported
  refine wpR_bind (wpR_stack fun l hl => ?_)
  refine wpR_pure ?_
  rw [any_good (fun c p hk => ?_) hl]
  · exact h
  · split
    · rename_i heq; cases heq
      exact absurd hk (by show ¬ ((!badIds.contains "bytearray.__contains__") = true); decide +kernel)
    · rename_i heq; cases heq
      exact absurd hk (by show ¬ ((!badIds.contains "bytearray.__mod__") = true); decide +kernel)
    · rename_i heq; cases heq
      exact absurd hk (by show ¬ ((!badIds.contains "bytearray.__rmod__") = true); decide +kernel)
    · rename_i heq; cases heq
      exact absurd hk (by show ¬ ((!badIds.contains "_struct.pack_into.held") = true); decide +kernel)
    · rename_i heq; cases heq
      exact absurd hk (by show ¬ ((!badIds.contains "bytearray.find.held") = true); decide +kernel)
    · rename_i heq; cases heq; rw [dec_of_ok hk, Bool.and_false]
    · rfl

theorem ba_release : typeLookup (.type "bytearray") "__release_buffer__" = pure (some (.builtin "bytearray.__release_buffer__")) := by rw [typeLookup_type, builtinLookup_eq_fast]; kernel_rfl
theorem by_release : typeLookup (.type "bytes") "__release_buffer__" = pure none := by rw [typeLookup_type, builtinLookup_eq_fast]; kernel_rfl
theorem by_buffer : typeLookup (.type "bytes") "__buffer__" = pure (some (.builtin "bytes.__buffer__")) := by rw [typeLookup_type, builtinLookup_eq_fast]; kernel_rfl
theorem by_index : typeLookup (.type "bytes") "__index__" = pure none := by rw [typeLookup_type, builtinLookup_eq_fast]; kernel_rfl
theorem sub_ba_own : isSubtype (.type "bytearray") (.type ("bytearray.__release_buffer__".dropRight ("__release_buffer__".length + 1))) = pure true := by rw [isSubtype_type]; kernel_rfl
theorem sub_by_own : isSubtype (.type "bytes") (.type ("bytes.__buffer__".dropRight ("__buffer__".length + 1))) = pure true := by rw [isSubtype_type]; kernel_rfl
theorem ba_bind (v : Value) : Bytes.bindOptional "bytearray.__init__" "bytearray" ["source", "encoding", "errors"] [v] [] = pure [some v, none, none] := by kernel_rfl
theorem ba_ownRelease {S : Addr} {Q : Bool → Shared → Prop} (hT : s.TypeIs (.ref S) "bytearray") (h : Q false s) : wpAny (model prog w) A (Bytes.ownRelease (.ref S)) Q E s := by
  unfold Bytes.ownRelease Bytes.slotIsOwn
  refine wpAny_bind (wpAny_bind (wpAny_specialOf hT ba_release ?_))
  dsimp only
  rw [if_neg (by decide +kernel)]
  exact wpAny_isInstance hT sub_ba_own (wpAny_pure h)
theorem by_ownRelease {b : Array UInt8} {t : Tok} {Q : Bool → Shared → Prop} (h : Q false s) : wpAny (model prog w) A (Bytes.ownRelease (.bytes b t)) Q E s := by
  unfold Bytes.ownRelease Bytes.slotIsOwn
  refine wpAny_bind (wpAny_bind (wpAny_specialOf (typeIs_bytes s b t) by_release ?_))
  exact wpAny_pure (wpAny_pure h)
theorem ba_write {S : Addr} {b c : Array UInt8} {n : Nat} {Q : Unit → Shared → Prop} (hS : s.heap.get? S = some { cls := .type "bytearray", data := .bytearray b n }) (hc : c.size ≤ sizeLine)
    (h : ∀ h', (∀ a o, a ≠ S → s.heap.get? a = some o → h'.get? a = some o) → h'.get? S = some { cls := .type "bytearray", data := .bytearray c n } → Q () { s with heap := h' }) :
    wpAny (model prog w) A (Bytes.write (.ref S) fun _ => c) Q E s := by
  show wpAny _ _ (updateBytearray S fun _ => c) _ _ _
  unfold updateBytearray
  refine wpAny_bind (wpAny_load hS ?_)
  show wpAny _ _ (update S (Obj.mapBytearray fun _ => c) >>= fun _ => lookBehind S) _ _ _
  refine wpAny_bind (wpAny_update hS ?_)
  have hS₂ : (s.heap.update S (Obj.mapBytearray fun _ => c)).get? S = some { cls := .type "bytearray", data := .bytearray c n } := Heap.get?_update_self (Obj.mapBytearray fun _ => c) hS rfl
  refine wpAny_lookBehind hS₂ ?_ (h _ (fun a o hne e => (Heap.get?_update_other _ _ (Ne.symm hne)).trans e) hS₂)
  show (if c.size > sizeLine then some "bytearray:memory" else none) = none
  rw [if_neg (by omega)]
theorem init_R {S : Addr} {b : Array UInt8} {t : Tok} {Q : Fin → Shared → Prop} (hS : s.heap.get? S = some { cls := .type "bytearray", data := .bytearray #[] }) (hb : b.size ≤ sizeLine)
    (h : ∀ h', (∀ a o, a ≠ S → s.heap.get? a = some o → h'.get? a = some o) → h'.get? S = some { cls := .type "bytearray", data := .bytearray b } → Q (.done (.ret .none)) { s with heap := h' }) :
    wpR (model prog w) A (Builtin.«bytearray.__init__» ⟨[.ref S, .bytes b t], []⟩) Q E s := by
  have hT : s.TypeIs (.ref S) "bytearray" := ⟨_, hS, rfl⟩
  unfold Builtin.«bytearray.__init__»
  refine wpR_bindA (ba_ownRelease hT ?_)
  (try dsimp only)
  refine wpR_bindA (wpAny_of_eq (ba_bind _) ?_)
  (try dsimp only)
  refine wpR_bindA (wpAny_of_eq (a := ()) rfl ?_)
  refine wpR_bindA (wpAny_of_eq (a := ()) rfl ?_)
  refine wpR_bind ?_
  unfold orM
  refine wpR_bind (exported_R ?_)
  refine wpR_of ?_
  show wpAny _ _ (Bytes.exportsOf (.ref S) >>= fun n => pure (decide (n > 0))) _ _ s
  unfold Bytes.exportsOf
  refine wpAny_bind (wpAny_bind (wpAny_load hS (wpAny_pure (wpAny_pure ?_))))
  rw [if_neg (by decide)]
  refine wpR_of (wpAny_bind (ba_write hS (by simp) fun h₁ k₁ g₁ => ?_))
  refine wpAny_bind (wpAny_of_eq (a := none) rfl ?_)
  rw [if_neg (by decide), if_neg (by decide), if_neg (by decide)]
  refine wpAny_bind (wpAny_of_eq (a := ()) rfl ?_)
  refine wpAny_bind (wpAny_specialOf (typeIs_bytes _ b t) by_index ?_)
  rw [if_neg (by decide)]
  refine wpAny_bind ?_
  unfold Bytes.buffer?
  refine wpAny_bind (wpAny_specialOf (typeIs_bytes _ b t) by_buffer ?_)
  (try dsimp only)
  unfold Bytes.slotIsOwn
  refine wpAny_bind (wpAny_bind (wpAny_specialOf (typeIs_bytes _ b t) by_buffer ?_))
  (try dsimp only)
  rw [if_neg (by decide +kernel)]
  refine wpAny_isInstance (typeIs_bytes _ b t) sub_by_own ?_
  rw [if_neg (by decide)]
  refine wpAny_bind (wpAny_specialOf (typeIs_bytes _ b t) by_buffer ?_)
  (try dsimp only)
  refine wpAny_bind (by_ownRelease ?_)
  rw [if_neg (by decide)]
  refine wpAny_bind (wpAny_of_eq (a := b) rfl (wpAny_pure ?_))
  (try dsimp only)
  refine wpAny_bind (wpAny_rule ?_)
  refine wpAny_bind (ba_write g₁ hb fun h₂ k₂ g₂ => wpAny_pure ?_)
  exact h h₂ (fun a o hne e => k₂ a o hne (k₁ a o hne e)) g₂
end
end Mine
end

section
open PySem PySem.W PyProof.Rows PySem.Spec PySem.Calls
set_option Elab.async false
set_option maxRecDepth 100000
namespace Mine
theorem slot_ba_ga : Slot "bytearray" "__getattribute__" "bytearray.__getattribute__" :=
  .of (owner := "bytearray") (n := "__getattribute__") (by rw [typeLookup_type, builtinLookup_eq_fast]; kernel_rfl) (by decide +kernel) (by decide +kernel) (by decide +kernel)
    (by first | exact .inl (by decide +kernel) | exact .inr (by decide +kernel)) (by rw [isSubtype_type]; kernel_rfl)
theorem args_ba_ga (a b : Value) : argsOk "bytearray.__getattribute__" ⟨[a, b], []⟩ := by unfold argsOk; kernel_rfl
theorem entry_ba_ga : entryFor table "bytearray.__getattribute__" = some Builtin.«object.__getattribute__» :=
  entryFor_alias (id' := "object.__getattribute__") (by rw [fastTable_eq_tree]; kernel_rfl) (by first | rfl | decide +kernel) (by decide +kernel) (by rw [fastTable_eq_tree]; kernel_rfl)
theorem lk_ba_class : typeLookup (.type "bytearray") "__class__" = pure (some (.builtin "object.__class__")) := by rw [typeLookup_type, builtinLookup_eq_fast]; kernel_rfl
theorem sub_ba_class : isSubtype (.type "bytearray") (.type (".".intercalate ("object.__class__".cutAt '.').dropLast)) = pure true := by
  rw [F.owner_object_class, isSubtype_type]; kernel_rfl
section
variable {prog : Program} {w : World} {A : Around} {E : Value → Shared → Prop} {h : Heap} {g : Array GenState} {d : Drawn} {t : Nat} {os : OsState} {a : Addr} {o : Obj}
theorem ba_get {R : Result → Shared → Prop} (hx : h.get? a = some o) (hc : o.cls = .type "bytearray") (hq : R (.ok (.ret (.type "bytearray"))) ⟨h, g, d, t, os⟩) :
    codeAny (model prog w) A (.call (.builtin "getset_descriptor.__get__") ⟨[.builtin "object.__class__", .ref a, .type "bytearray"], []⟩) R ⟨h, g, d, t, os⟩ := by
  have hT : (⟨h, g, d, t, os⟩ : Shared).TypeIs (.ref a) "bytearray" := ⟨_, hx, hc⟩
  have hT5 : (⟨h, g, d, t, os⟩ : Shared).TypeIs (.builtin "object.__class__") "getset_descriptor" := F.typeOf_object_class
  have f8 := sub_ba_class
  refine codeAny_call_builtin F.slot_gs_get.plain F.entry_gs_get (F.slot_gs_get.check _ _ _ _ _ _ _ _ hT5 (F.args_gs_get _ _ _) ?_)
  repeat (any_goals (first | assumption | wp_step))
  refine ⟨Code.quiet_builtin _ (by decide +kernel), codeAny_builtin F.entry_object_class ?_⟩
  repeat (any_goals (first | assumption | wp_step))
theorem ba_entry {tk : Tok} {Q : PySem.Fin → Shared → Prop} (hx : h.get? a = some o) (hc : o.cls = .type "bytearray") (hq : Q (.done (.ret (.type "bytearray"))) ⟨h, g, d, t, os⟩) :
    wpAny (model prog w) A (Builtin.«object.__getattribute__» ⟨[.ref a, .str "__class__" tk], []⟩) Q E ⟨h, g, d, t, os⟩ := by
  have hT : (⟨h, g, d, t, os⟩ : Shared).TypeIs (.ref a) "bytearray" := ⟨_, hx, hc⟩
  have hT5 : (⟨h, g, d, t, os⟩ : Shared).TypeIs (.builtin "object.__class__") "getset_descriptor" := F.typeOf_object_class
  have f4 := lk_ba_class
  have f5 := F.typeOf_object_class
  have f6 := F.slot_gs_get.lookup
  have f7 := F.slot_gs_set.lookup
  repeat (any_goals (first | assumption | wp_step))
  refine ba_get hx hc ?_
  repeat (any_goals (first | assumption | wp_step))
theorem ba_by {tk : Tok} {Q : Value → Shared → Prop} (hx : h.get? a = some o) (hc : o.cls = .type "bytearray") (hq : Q (.type "bytearray") ⟨h, g, d, t, os⟩) : wpAny (model prog w) A (getAttrBy (.ref a) (.str "__class__" tk) false) Q E ⟨h, g, d, t, os⟩ := by
  have hT : (⟨h, g, d, t, os⟩ : Shared).TypeIs (.ref a) "bytearray" := ⟨_, hx, hc⟩
  have f2 := slot_ba_ga.lookup
  have f3 := slot_ba_ga.bind (.ref a)
  repeat (any_goals (first | assumption | wp_step))
  refine codeAny_call_builtin slot_ba_ga.plain entry_ba_ga (slot_ba_ga.check _ _ _ _ _ _ _ _ hT (args_ba_ga _ _) (ba_entry hx hc ?_))
  repeat (any_goals (first | assumption | wp_step))
theorem ba_class_attr {Q : Option Value → Shared → Prop} (hx : h.get? a = some o) (hc : o.cls = .type "bytearray") (hq : Q (some (.type "bytearray")) ⟨h, g, d, t + 1, os⟩) : wpAny (model prog w) A (getAttr? (.ref a) "__class__") Q E ⟨h, g, d, t, os⟩ := by
  unfold getAttr? getAttrBy?
  repeat (any_goals (first | assumption | with_reducible apply ba_by hx hc | wp_step))
end
theorem kitx_ba {K : Frag} {a : Addr} : KitX K (.ref a) (.type "bytearray") (KitAt a "bytearray") :=
  kitx_of kitAt_ty (fun {_ _ _ _ _ s} p k => by obtain ⟨h, g, d, t, os⟩ := s; obtain ⟨o, h1, h2⟩ := p; exact ba_class_attr h1 h2 k)
end Mine
end

section
open PySem PySem.W PyProof.Rows PySem.Spec PySem.Calls
set_option Elab.async false
set_option maxRecDepth 100000
namespace Mine
open Builtin
theorem slot_ba_ne : Slot "bytearray" (cmpInfo .NotEq).2.1 "bytearray.__ne__" :=
  .of (owner := "bytearray") (n := "__ne__") (by rw [typeLookup_type, builtinLookup_eq_fast]; kernel_rfl) (by decide +kernel) (by decide +kernel) (by decide +kernel)
    (by first | exact .inl (by decide +kernel) | exact .inr (by decide +kernel)) (by rw [isSubtype_type]; kernel_rfl)
theorem entry_ba_ne : entryFor table "bytearray.__ne__" = some Builtin.«bytearray.__ne__» := entryFor_of_tree (by kernel_rfl)
theorem args_ba_ne (a b : Value) : argsOk "bytearray.__ne__" ⟨[a, b], []⟩ := by unfold argsOk; kernel_rfl
theorem ba_buffer : typeLookup (.type "bytearray") "__buffer__" = pure (some (.builtin "bytearray.__buffer__")) := by rw [typeLookup_type, builtinLookup_eq_fast]; kernel_rfl
theorem sub_ba_bown : isSubtype (.type "bytearray") (.type ("bytearray.__buffer__".dropRight ("__buffer__".length + 1))) = pure true := by rw [isSubtype_type]; kernel_rfl
theorem sub_by_ba : isSubtype (.type "bytes") (.type "bytearray") = pure false := by rw [isSubtype_type]; kernel_rfl
theorem order_self : ∀ l : List UInt8, Bytes.order l l = .eq
  | [] => rfl
  | x :: l => by
    unfold Bytes.order
    have h : ¬ x < x := fun h => Nat.lt_irrefl _ (show x.toNat < x.toNat from h)
    rw [if_neg h, if_neg h, order_self l]
section
variable {prog : Program} {w : World} {A : Around} {E : Value → Shared → Prop} {s : Shared}
theorem buffer_ba {id : String} {a : Addr} {b : Array UInt8} {n : Nat} {Q : Option (Array UInt8) → Shared → Prop} (ho : s.heap.get? a = some { cls := .type "bytearray", data := .bytearray b n }) (h : Q (some b) s) :
    wpAny (model prog w) A (Bytes.buffer? id (.ref a)) Q E s := by
  have hT : s.TypeIs (.ref a) "bytearray" := ⟨_, ho, rfl⟩
  unfold Bytes.buffer?
  refine wpAny_bind (wpAny_specialOf hT ba_buffer ?_)
  (try dsimp only)
  unfold Bytes.slotIsOwn
  refine wpAny_bind (wpAny_bind (wpAny_specialOf hT ba_buffer ?_))
  (try dsimp only)
  rw [if_neg (by decide +kernel)]
  refine wpAny_isInstance hT sub_ba_bown ?_
  rw [if_neg (by decide)]
  refine wpAny_bind (wpAny_specialOf hT ba_buffer ?_)
  (try dsimp only)
  refine wpAny_bind (ba_ownRelease hT ?_)
  rw [if_neg (by decide)]
  refine wpAny_bind ?_
  unfold Bytes.payload Bytes.payload?
  refine wpAny_bind (wpAny_bind (wpAny_load ho (wpAny_pure ?_)))
  exact wpAny_pure (wpAny_pure h)
theorem buffer_by {id : String} {b : Array UInt8} {t : Tok} {Q : Option (Array UInt8) → Shared → Prop} (h : Q (some b) s) :
    wpAny (model prog w) A (Bytes.buffer? id (.bytes b t)) Q E s := by
  unfold Bytes.buffer?
  refine wpAny_bind (wpAny_specialOf (typeIs_bytes _ b t) by_buffer ?_)
  (try dsimp only)
  unfold Bytes.slotIsOwn
  refine wpAny_bind (wpAny_bind (wpAny_specialOf (typeIs_bytes _ b t) by_buffer ?_))
  (try dsimp only)
  rw [if_neg (by decide +kernel)]
  refine wpAny_isInstance (typeIs_bytes _ b t) sub_by_own ?_
  rw [if_neg (by decide)]
  refine wpAny_bind (wpAny_specialOf (typeIs_bytes _ b t) by_buffer ?_)
  (try dsimp only)
  refine wpAny_bind (by_ownRelease ?_)
  rw [if_neg (by decide)]
  exact wpAny_bind (wpAny_of_eq (a := b) rfl (wpAny_pure h))
/-- a bytearray beside its own bytes -/
theorem ne_ba {a : Addr} {b : Array UInt8} {n : Nat} {t : Tok} {Q : Value → Shared → Prop} (ho : s.heap.get? a = some { cls := .type "bytearray", data := .bytearray b n }) (hu : A.units < cLine) (h : Q (.bool false) s) :
    wpAny (model prog w) A (compareOp .NotEq (.ref a) (.bytes b t)) Q E s := by
  have hT : s.TypeIs (.ref a) "bytearray" := ⟨_, ho, rfl⟩
  refine cmp_ofNotEq ?_
  have key : wpAny (model prog w) A (PySem.call (.builtin "bytearray.__ne__") [.ref a, .bytes b t]) (fun v s' => v ≠ .notImplemented ∧ Q v s') E s := by
    refine wpAny_call_entry slot_ba_ne hT entry_ba_ne ?_ (args_ba_ne _ _)
    show wpAny (model prog w) A.in1 (slotArgs "__ne__" 1 ⟨[.ref a, .bytes b t], []⟩ >>= _) _ E s
    refine wpAny_bind (wpAny_of_eq (a := (.ref a, [.bytes b t])) rfl ?_)
    (try dsimp only)
    refine wpAny_bind (buffer_ba ho ?_)
    (try dsimp only)
    refine wpAny_bind ?_
    unfold Bytes.bufferQuiet?
    refine wpAny_bind (wpAny_attempt (buffer_by (wpAny_pure ?_)))
    (try dsimp only)
    refine wpAny_pure ⟨_, rfl, fun e => (nomatch e), ?_⟩
    rw [order_self]
    exact h
  unfold richCompare
  refine wpAny_holding ?_
  refine wpAny_bind (wpAny_cRoomFor hu ?_)
  rw [oneThing_ref]
  (try dsimp only)
  refine wpAny_bind (wpAny_typeOf hT (wpAny_bind (wpAny_typeOf (typeIs_bytes _ b t) ?_)))
  rw [if_pos (by decide +kernel)]
  refine wpAny_bind ?_
  refine wpAny_of_eq sub_by_ba ?_
  (try dsimp only)
  rw [if_neg (by decide)]
  exact wpAny_bind (wpAny_tryCompare_slot hT slot_ba_ne (wpAny_mono key (fun v s' h' => ⟨h'.1, wpAny_pure h'.2⟩) fun _ _ h' => h'))
theorem isnot_ref_self {a : Addr} {Q : Value → Shared → Prop} (h : Q (.bool false) s) : wpAny (model prog w) A (compareOp .IsNot (.ref a) (.ref a)) Q E s := by
  show wpAny _ _ (isSame (.ref a) (.ref a) >>= fun r => pure (Value.bool !r)) _ _ _
  unfold isSame
  (try dsimp only)
  rw [if_pos (by simp)]
  exact wpAny_bind (wpAny_pure (wpAny_pure h))
theorem isnot_bytes_self {b : Array UInt8} {t : Tok} (ht : t ≠ 0) {Q : Value → Shared → Prop} (h : Q (.bool false) s) : wpAny (model prog w) A (compareOp .IsNot (.bytes b t) (.bytes b t)) Q E s := by
  show wpAny _ _ (isSame (.bytes b t) (.bytes b t) >>= fun r => pure (Value.bool !r)) _ _ _
  unfold isSame isSame.created
  (try dsimp only)
  have h0 : (t == 0 || t == 0) = false := by simp [ht]
  rw [h0, if_neg (by decide), if_pos (by simp)]
  exact wpAny_bind (wpAny_pure (wpAny_pure h))
end
end Mine
end

section
open PySem PySem.W PyProof.Rows PySem.Spec PySem.Calls
set_option Elab.async false
set_option maxRecDepth 100000
namespace Mine
section
variable {prog : Program} {w : World} {A : Around} {E : Value → Shared → Prop} {s : Shared} {t u : Tok} {Q : Value → Shared → Prop}
theorem ne_bytes_self {b : List UInt8} (h : Q (.bool false) s) : wpAny (model prog w) A (compareOp .NotEq (.bytes b.toArray t) (.bytes b.toArray u)) Q E s := ne_bytes (by simpa using h)
theorem ne_ba_N {a : Addr} {b : Array UInt8} {n : Nat} {h₀ : Heap} {L : Addr} {news : List (Addr × Obj)} (N : News h₀ L s.heap news) (hm : (a, ({ cls := .type "bytearray", data := .bytearray b n } : Obj)) ∈ news) (hu : A.units < cLine) (h : Q (.bool false) s) :
    wpAny (model prog w) A (compareOp .NotEq (.ref a) (.bytes b t)) Q E s := ne_ba (N _ hm).1 hu h
end
end Mine
end

section
open PySem PySem.W PyProof.Rows PySem.Spec PySem.Calls
set_option Elab.async false
set_option maxRecDepth 100000
namespace Mine
section
variable {prog : Program} {w : World} {A : Around} {E : Value → Shared → Prop} {s : Shared} {t u : Tok} {Q : Value → Shared → Prop} {value slice : Expr} {h₀ : Heap} {L : Addr} {m : Str → Option Value} {news : List (Addr × Obj)}
theorem item_at {x pre post : List UInt8} {o : UInt8} {i : Int} {ui : Tok} (e : x = pre ++ o :: post) (hi : i = (pre.length : Int)) (hz : x.length ≤ 1048576) (h : Q (.int (o.toNat : Int) s.toks) { s with toks := s.toks + 1 })
    (hs : subscripted slice false (.bytes x.toArray t) (.int i ui) = operate [.bytes x.toArray t, .int i ui] (getItem (.bytes x.toArray t) (.int i ui)) := by with_unfolding_all rfl)
    (ht : ∀ r, letTemporaryGo value (.bytes x.toArray t) r = pure () := by intro _; with_unfolding_all rfl) :
    wpAny (model prog w) A (subscriptTail value slice (.bytes x.toArray t) (.int i ui)) Q E s := by
  subst hi
  refine KBy.item_N (by omega) (by omega) ?_ ?_ hs ht
  · rw [e]; simp; omega
  · have e2 : x.getD ((pre.length : Int)).toNat 0 = o := by
      rw [e]; simp
    rw [e2]; exact h
theorem bInts_inj {b c : Array UInt8} (h : KBw.bInts b = KBw.bInts c) : b = c := by
  have key : ∀ l r : List UInt8, (l.map fun c => (c.toNat : Int)) = r.map (fun c => (c.toNat : Int)) → l = r := by
    intro l
    induction l with
    | nil => intro r e; cases r with
      | nil => rfl
      | cons a r => simp at e
    | cons a l ih => intro r e; cases r with
      | nil => simp at e
      | cons b r =>
        simp only [List.map_cons, List.cons.injEq] at e
        obtain ⟨e1, e2⟩ := e
        have e3 : a = b := UInt8.toNat_inj.mp (by omega)
        rw [e3, ih r e2]
  exact Array.toList_inj.mp (key _ _ h)
theorem slice_at {x pre mid post : List UInt8} {lo hi : Int} {tl tu : Tok} (e : x = pre ++ (mid ++ post)) (hlo : lo = (pre.length : Int)) (hhi : hi = (pre.length : Int) + (mid.length : Int)) (hz : x.length ≤ 1048576) (hF : Fr h₀ L s.heap m) (hN : News h₀ L s.heap news)
    (h : ∀ h' t' k, Fr h₀ L h' m → News h₀ L h' news → Q (.bytes mid.toArray t') { s with heap := h', toks := k })
    (hs : subscripted slice false (.bytes x.toArray t) (.ref s.heap.objs.size) = operate [.ref s.heap.objs.size, .bytes x.toArray t] (getItem (.bytes x.toArray t) (.ref s.heap.objs.size)) := by with_unfolding_all rfl)
    (ht : ∀ r, letTemporaryGo value (.bytes x.toArray t) r = pure () := by intro _; with_unfolding_all rfl) :
    wpAny (model prog w) A (subscriptTail value slice (.bytes x.toArray t) (.ref s.heap.objs.size)) Q E { s with heap := s.heap.push { cls := .type "slice", data := .fields #[.int lo tl, .int hi tu, .none] } } := by
  refine KBc.slice_K hF hN (lo := some lo) (hi := some hi) rfl (by constructor) (by constructor) ?_ (fun h' t' k F' N' hb => ?_) hs ht
  · rw [KBw.ints_length]; simp; omega
  · have e2 : KBy.picked x.toArray (some lo) (some hi) = mid.toArray := by
      refine bInts_inj ?_
      rw [hb, KBw.ints_length]
      have hx : x.toArray.size = pre.length + mid.length + post.length := by rw [e]; simp; omega
      rw [hx]
      dsimp only [Option.elim]
      have c1 : clipAt (pre.length + mid.length + post.length) lo = pre.length := by
        have := clipAt_cast (pre.length + mid.length + post.length) lo
        rw [hlo] at this ⊢
        rw [if_neg (by omega)] at this
        omega
      have c2 : clipAt (pre.length + mid.length + post.length) hi = pre.length + mid.length := by
        have := clipAt_cast (pre.length + mid.length + post.length) hi
        rw [hhi] at this ⊢
        rw [if_neg (by omega)] at this
        omega
      rw [c1, c2, e]
      unfold KBw.bInts
      simp
    rw [e2]
    exact h h' t' k F' N'
theorem append_T {D : Addr} {ys : List Value} {x : Value} (F : Fr h₀ L s.heap m) (N : News h₀ L s.heap ((D, LCg.lst ys) :: news)) (hnd : ∀ p ∈ news, p.1 ≠ D) (hz : ys.length ≤ 1048576)
    (h : ∀ h', Fr h₀ L h' m → News h₀ L h' ((D, LCg.lst (ys ++ [x])) :: news) → Q .none { s with heap := h' }) : wpAny (model prog w) A (PySem.call (.builtin "list.append") [.ref D, x]) Q E s := by
  refine append_K (its := ys.toArray) (n := ys.length) (news' := (D, LCg.lst (ys ++ [x])) :: news) F N ?_ h (by rw [List.size_toArray, sizeLine_eq]; omega)
  rw [← LCg.lst_snoc]
  exact Upd.head hnd
end
end Mine
namespace Mine
def SlA (x pre mid post : List UInt8) (n m : Nat) : Prop := x = pre ++ (mid ++ post) ∧ pre.length = n ∧ mid.length = m
def SlB (x pre mid post : List UInt8) (n m : Nat) : Prop := SlA x pre mid post n m
def SlC (x pre mid post : List UInt8) (n m : Nat) : Prop := SlA x pre mid post n m
section
variable {prog : Program} {w : World} {A : Around} {E : Value → Shared → Prop} {s : Shared} {t u : Tok} {Q : Value → Shared → Prop} {value slice : Expr} {h₀ : Heap} {L : Addr} {m : Str → Option Value} {news : List (Addr × Obj)}
theorem slice_by {x pre mid post : List UInt8} {n k : Nat} {lo hi : Int} {tl tu : Tok} (S : SlA x pre mid post n k) (hlo : lo = (n : Int)) (hhi : hi = (n : Int) + (k : Int)) (hz : x.length ≤ 1048576) (hF : Fr h₀ L s.heap m) (hN : News h₀ L s.heap news)
    (h : ∀ h' t' k, Fr h₀ L h' m → News h₀ L h' news → Q (.bytes mid.toArray t') { s with heap := h', toks := k })
    (hs : subscripted slice false (.bytes x.toArray t) (.ref s.heap.objs.size) = operate [.ref s.heap.objs.size, .bytes x.toArray t] (getItem (.bytes x.toArray t) (.ref s.heap.objs.size)) := by with_unfolding_all rfl)
    (ht : ∀ r, letTemporaryGo value (.bytes x.toArray t) r = pure () := by intro _; with_unfolding_all rfl) :
    wpAny (model prog w) A (subscriptTail value slice (.bytes x.toArray t) (.ref s.heap.objs.size)) Q E { s with heap := s.heap.push { cls := .type "slice", data := .fields #[.int lo tl, .int hi tu, .none] } } := by
  obtain ⟨e, rfl, rfl⟩ := S
  exact slice_at e hlo hhi hz hF hN h hs ht
end
end Mine
end

section
open PySem PySem.W PyProof.Rows PySem.Spec PySem.Calls
set_option Elab.async false
set_option maxRecDepth 100000
namespace Mine
def tupO (a : Int) (t : Tok) (b : Int) (u : Tok) : Obj := { cls := .type "tuple", data := .seq [Value.int a t, Value.int b u].toArray }
def RowAre (ys : List Value) (rows : List (Int × Int)) (nw : List (Addr × Obj)) : Prop :=
  ys.length = rows.length ∧ ∀ (i : Nat) (r : Int × Int), rows[i]? = some r → ∃ a t u, ys[i]? = some (Value.ref a) ∧ (a, tupO r.1 t r.2 u) ∈ nw
theorem RowAre.nil {nw : List (Addr × Obj)} : RowAre [] [] nw := ⟨rfl, fun i r h => by simp at h⟩
theorem RowAre.more {ys : List Value} {rows : List (Int × Int)} {nw nw' : List (Addr × Obj)} (h : RowAre ys rows nw) (k : ∀ p ∈ nw, p ∈ nw') : RowAre ys rows nw' :=
  ⟨h.1, fun i r hr => by obtain ⟨a, t, u, e, hm⟩ := h.2 i r hr; exact ⟨a, t, u, e, k _ hm⟩⟩
theorem RowAre.snoc {ys : List Value} {rows : List (Int × Int)} {nw : List (Addr × Obj)} (h : RowAre ys rows nw) {a : Addr} {r : Int × Int} {t u : Tok} (hm : (a, tupO r.1 t r.2 u) ∈ nw) : RowAre (ys ++ [Value.ref a]) (rows ++ [r]) nw := by
  refine ⟨by simp [h.1], fun i q hq => ?_⟩
  by_cases hi : i < rows.length
  · rw [List.getElem?_append_left hi] at hq
    obtain ⟨a', t', u', e, hm'⟩ := h.2 i q hq
    exact ⟨a', t', u', by rw [List.getElem?_append_left (by rw [h.1]; exact hi)]; exact e, hm'⟩
  · rw [List.getElem?_append_right (by omega)] at hq
    have hi2 : i - rows.length = 0 := by
      have := (List.getElem?_eq_some_iff.mp hq).1
      simp at this
      omega
    rw [hi2] at hq
    have hq' : r = q := by simpa using hq
    subst hq'
    exact ⟨a, t, u, by rw [List.getElem?_append_right (by rw [h.1]; omega), h.1, hi2]; rfl, hm⟩
theorem RowAre.app {ys zs : List Value} {rows qs : List (Int × Int)} {nw : List (Addr × Obj)} (h : RowAre ys rows nw) (k : RowAre zs qs nw) : RowAre (ys ++ zs) (rows ++ qs) nw := by
  refine ⟨by simp [h.1, k.1], fun i q hq => ?_⟩
  by_cases hi : i < rows.length
  · rw [List.getElem?_append_left hi] at hq
    obtain ⟨a', t', u', e, hm'⟩ := h.2 i q hq
    exact ⟨a', t', u', by rw [List.getElem?_append_left (by rw [h.1]; exact hi)]; exact e, hm'⟩
  · rw [List.getElem?_append_right (by omega)] at hq
    obtain ⟨a', t', u', e, hm'⟩ := k.2 _ q hq
    exact ⟨a', t', u', by rw [List.getElem?_append_right (by rw [h.1]; omega), h.1]; exact e, hm'⟩
theorem RowAre.cons {ys : List Value} {rows : List (Int × Int)} {nw : List (Addr × Obj)} (h : RowAre ys rows nw) {a : Addr} {r : Int × Int} {t u : Tok} (hm : (a, tupO r.1 t r.2 u) ∈ nw) : RowAre (Value.ref a :: ys) (r :: rows) nw :=
  (RowAre.nil.snoc hm).app h
section
variable {prog : Program} {w : World} {A : Around} {s : Shared} {h₀ : Heap} {L : Addr} {m : Str → Option Value} {env : Env} {x : Str} {elt : Expr} {scope : Scope} {cl : List (Str × Addr)} {ax : Addr} {vs : List Value} {ns : List Int}
/-- a block that makes a pair of ints of each int -/
theorem rest_tup {f1 f2 : Int → Int} {Fin : List Value → List (Addr × Obj) → Prop} (hI : IntsAre vs ns)
    (helt : ∀ (n : Int) (tn : Tok) I oI C oC D ys m₂ h tk nw (Q : Value → Shared → Prop) (E' : Value → Shared → Prop), LCg.NsObj oC m₂ → m₂ x = some (.int n tn) → Fr h₀ L h m → News h₀ L h ((I, oI) :: (C, oC) :: (D, LCg.lst ys) :: nw) →
      (∀ T h' tk' t u, Fr h₀ L h' m → News h₀ L h' ((T, tupO (f1 n) t (f2 n) u) :: (I, oI) :: (C, oC) :: (D, LCg.lst ys) :: nw) → (∀ p ∈ (I, oI) :: (C, oC) :: (D, LCg.lst ys) :: nw, p.1 < T) → Q (.ref T) { s with heap := h', toks := tk' }) →
      wpAny (model prog w) A (eval elt (compEnvC scope cl C env)) Q E' { s with heap := h, toks := tk })
    (fin : ∀ ys nw, RowAre ys (ns.map fun n => (f1 n, f2 n)) nw → LCg.SrcAt h₀ ax vs.toArray nw → Fin ys nw) : ∀ (k i : Nat) (ys : List Value) (nw : List (Addr × Obj)), i + k = ns.length → RowAre ys ((ns.take i).map fun n => (f1 n, f2 n)) nw → LCg.SrcAt h₀ ax vs.toArray nw →
      LCg.CompRest prog w A h₀ L m env elt x scope cl s (LCg.SrcAt h₀ ax vs.toArray) (fun i v => vs.toArray[i]? = some v) Fin k i ys nw
  | 0, i, ys, nw, hi, hr, hs => by
    refine LCg.CompRest.zero (fin ys nw ?_ hs)
    rwa [List.take_of_length_le (by omega)] at hr
  | k + 1, i, ys, nw, hi, hr, hs => by
    refine LCg.CompRest.succ fun v I oI C oC D m₂ h tk E' hP hC hm F N off ne => ?_
    have hil : i < ns.length := by omega
    obtain ⟨tn, hv⟩ := hI.get i ns[i] (by simp [hil])
    have hve : v = .int ns[i] tn := by
      have : vs[i]? = some v := by simpa using hP
      rw [hv] at this
      exact (Option.some.inj this).symm
    subst hve
    refine helt ns[i] tn I oI C oC D ys m₂ h tk nw _ E' hC hm F N fun T h' tk' t u F' N' lt => ?_
    have hT : ∀ p ∈ (I, oI) :: (C, oC) :: (D, LCg.lst ys) :: nw, p.1 ≠ T := fun p hp => Nat.ne_of_lt (lt p hp)
    refine LCg.CompEnd.intro F' N' ((T, tupO (f1 ns[i]) t (f2 ns[i]) u) :: nw) (fun q hq => ?_) ?_ ?_ ?_
    · rcases List.mem_cons.mp hq with rfl | hq
      · exact .tail _ (.head _)
      · rcases List.mem_cons.mp hq with rfl | hq
        · exact .tail _ (.tail _ (.head _))
        · rcases List.mem_cons.mp hq with rfl | hq
          · exact .tail _ (.tail _ (.tail _ (.head _)))
          · rcases List.mem_cons.mp hq with rfl | hq
            · exact .head _
            · exact .tail _ (.tail _ (.tail _ (.tail _ hq)))
    · exact ⟨⟨Ne.symm (hT _ (.head _)), Ne.symm (hT _ (.tail _ (.head _))), Ne.symm (hT _ (.tail _ (.tail _ (.head _))))⟩, off⟩
    · rcases hs with hs | ⟨o, hm', r⟩
      · exact .inl hs
      · exact .inr ⟨o, .tail _ hm', r⟩
    · refine rest_tup hI helt fin k (i + 1) _ _ (by omega) ?_ ?_
      · rw [List.take_add_one, List.getElem?_eq_getElem hil, Option.toList_some, List.map_append]
        exact (hr.more fun p hp => .tail _ hp).snoc (t := t) (u := u) (.head _)
      · rcases hs with hs | ⟨o, hm', r⟩
        · exact .inl hs
        · exact .inr ⟨o, .tail _ hm', r⟩
end
end Mine
namespace Mine
theorem allLt_back {d : Addr} : ∀ {l : List (Addr × Obj)}, AllLt d l → ∀ p ∈ l, p.1 < d
  | [], _, _, h => nomatch h
  | _ :: _, h, p, hp => by
    rcases List.mem_cons.mp hp with rfl | hp
    · exact h.1
    · exact allLt_back h.2 p hp
theorem lt_three {T I C D : Addr} {oI oC oD : Obj} {nw : List (Addr × Obj)} (h : I < T ∧ C < T ∧ D < T ∧ AllLt T nw) : ∀ p ∈ (I, oI) :: (C, oC) :: (D, oD) :: nw, p.1 < T :=
  allLt_back (l := (I, oI) :: (C, oC) :: (D, oD) :: nw) h
end Mine
namespace Mine
def listO (ys : List Value) : Obj := { cls := .type "list", data := .seq ys.toArray }
section
variable {prog : Program} {w : World} {A : Around} {E : Value → Shared → Prop} {s : Shared} {h₀ : Heap} {L : Addr} {m : Str → Option Value} {news : List (Addr × Obj)}
theorem row_add {a b : Addr} {n k : Nat} {ys zs : List Value} {Q : Value → Shared → Prop} (F : Fr h₀ L s.heap m) (N : News h₀ L s.heap news) (ha : (a, ({ cls := .type "list", data := .seq ys.toArray n } : Obj)) ∈ news) (hb : (b, ({ cls := .type "list", data := .seq zs.toArray k } : Obj)) ∈ news)
    (hz : ys.length + zs.length ≤ 1048576)
    (h : ∀ D h', Fr h₀ L h' m → News h₀ L h' ((D, listO (ys ++ zs)) :: news) → (∀ p ∈ news, p.1 < D) → Q (.ref D) { s with heap := h' }) : wpAny (model prog w) A (binaryOp .Add (.ref a) (.ref b)) Q E s :=
  kmk_add_lit F N (its := ys.toArray) (its2 := zs.toArray) (zs := ys ++ zs) ⟨_, (N _ ha).1, rfl, n, rfl⟩ ⟨_, (N _ hb).1, rfl, k, rfl⟩ rfl h (by rw [sizeLine_eq]; show ys.length + zs.length ≤ _; omega)
end
theorem row_after {g h : Heap} {L D : Addr} {nw rest : List (Addr × Obj)} {ys zs : List Value} {rows qs : List (Int × Int)} (_N : News g L h ((D, listO (ys ++ zs)) :: rest)) (hr : RowAre ys rows nw) (sub : ∀ p ∈ nw, p ∈ (D, listO (ys ++ zs)) :: rest) (hz : RowAre zs qs ((D, listO (ys ++ zs)) :: rest)) :
    RowAre (ys ++ zs) (rows ++ qs) ((D, listO (ys ++ zs)) :: rest) :=
  (hr.more sub).app hz
theorem row_pack {g h : Heap} {L D : Addr} {nw rest : List (Addr × Obj)} {ys zs : List Value} {rows qs : List (Int × Int)} (N : News g L h ((D, listO (ys ++ zs)) :: rest)) (hr : RowAre ys rows nw) (sub : ∀ p ∈ nw, p ∈ (D, listO (ys ++ zs)) :: rest) (hz : RowAre zs qs ((D, listO (ys ++ zs)) :: rest)) :
    ∃ items nw', News g L h nw' ∧ RowAre items (rows ++ qs) nw' ∧ (D, listO items) ∈ nw' := ⟨_, _, N, (hr.more sub).app hz, .head _⟩
def extra : List (Int × Int) := [(61, 0), (65, 2), (95, 3), (200, 0), (32, 1), (9, 2), (126, 3), (127, 0), (255, 1), (10, 0), (160, 3)]
def rowsOf (ns : List Int) : List (Int × Int) := (ns.take 30).map (fun n => (n.fmod 256, (n.fdiv 256).fmod 4)) ++ extra
end Mine
namespace Mine
theorem pack4 {g h : Heap} {L D : Addr} {rest : List (Addr × Obj)} {ys : List Value} {rows : List (Int × Int)} (N : News g L h ((D, listO ys) :: rest)) (hr : RowAre ys rows ((D, listO ys) :: rest)) :
    ∃ items nw, News g L h nw ∧ RowAre items rows nw ∧ (D, listO items) ∈ nw := ⟨_, _, N, hr, .head _⟩
/-- the names of the law's frame in its loop -/
def lm (p1 p2 p3 p4 : Option Value) (M : Str → Option Value) : Str → Option Value := fun y =>
  if y = Str.ofString "piece" then p1 else if y = Str.ofString "sign" then p2 else if y = Str.ofString "way" then p3 else if y = Str.ofString "octet" then p4 else M y
theorem lm_of {m M : Str → Option Value} (h : ∀ y, y ≠ Str.ofString "piece" → y ≠ Str.ofString "sign" → y ≠ Str.ofString "way" → y ≠ Str.ofString "octet" → m y = M y) :
    m = lm (m (Str.ofString "piece")) (m (Str.ofString "sign")) (m (Str.ofString "way")) (m (Str.ofString "octet")) M := by
  funext y
  unfold lm
  by_cases h1 : y = Str.ofString "piece"
  · rw [if_pos h1, h1]
  rw [if_neg h1]
  by_cases h2 : y = Str.ofString "sign"
  · rw [if_pos h2, h2]
  rw [if_neg h2]
  by_cases h3 : y = Str.ofString "way"
  · rw [if_pos h3, h3]
  rw [if_neg h3]
  by_cases h4 : y = Str.ofString "octet"
  · rw [if_pos h4, h4]
  rw [if_neg h4]
  exact h y h1 h2 h3 h4
end Mine
end

section
open PySem PySem.W PyProof.Rows PySem.Spec PySem.Calls
set_option Elab.async false
namespace Mine
section
variable {prog : Program} {w : World} {A₀ A : Around} {s : Shared} {base h₀ : Heap} {L a : Addr} {m mg mb : Str → Option Value} {cn : Str} {cs : Scope} {ccd : Value} {news : List (Addr × Obj)} {K : Frag} {p : Program} {loose : List Str} {mean : ExcName → Option Value}
  {R : Result → Shared → Prop} {name qual : Str} {params : Arguments} {body : List Stmt} {scope : Scope} {dV kV doc pm cdv ct oc : Value} {an od : Option Addr} {osl : Array (Option Value)} {f : Addr} {args : Args} {binds : List (Str × Value)}
theorem codeR_defS0 (B : Below A₀ base [] h₀) (F : Fr h₀ L s.heap m) (X₀ : K.In h₀) (N : News h₀ L s.heap news) (T : Top p loose mean mg mb h₀) (hA : A.frames = some [envOf cn cs L a ccd])
    (ho : K.lookup f = some ⟨oc, od, .func (fnOf name qual params body scope dV kV doc pm an cdv ct), osl⟩) (hcd : codeIn K cdv qual = true) (hroom : A.depth < recursionLimit)
    (hbind : BindsTo s (fnOf name qual params body scope dV kV doc pm an cdv ct) args binds) (hloc : ∀ y ∈ binds, scope.names.lookup y.1 = some .local)
    (h : ∀ g L' h₁, Fr h₀ L g m → Fr g L' h₁ (fun y => binds.reverse.lookup y) → News g L' h₁ news → Below A base [envOf cn cs L a ccd] g → K.In g → Top p loose mean mg mb g → KtsDicts ([envOf cn cs L a ccd].filterMap (·.frame)) g →
      wpR (model prog w) (A.deeper (envOf qual scope L' f cdv)) (execs body (envOf qual scope L' f cdv))
        (fun fl s' => LeaveS0 ([envOf cn cs L a ccd].filterMap (·.frame)) h₀ L m g R (match fl with | .ret v => v | _ => .none) s') (fun _ _ => False)
        { s with heap := h₁, toks := s.toks + binds.length })
    (hck : cs.kind = .function) (hco : scope.isCoroutine = false) (hgen : scope.isGenerator = false) (hk : scope.kind = .function)
    (hcell : ∀ x ∈ scope.names, x.2 ≠ .cell) : codeR (model prog w) A (.call (.ref f) args) R s := by
  have X := X₀.keeps F.keep
  refine codeR_call_def (fd := fnOf name qual params body scope dV kV doc pm an cdv ct) (body := body) (binds := binds) hroom (X _ _ ho) rfl (T.nolimit.keeps F.keep) (codeRec_of X hcd) rfl hbind hcell hloc (fun h₁ hns hk₁ => ?_) hco hgen hk
  obtain ⟨oL, es, ep, hLg, hLd, hN, hNs, st, B₂⟩ := kts_enter B F N hA hck
  have D₂ : KtsDicts ([envOf cn cs L a ccd].filterMap (·.frame)) (hideAll s.heap (news.map (·.1))) := fun b hb => by
    rcases kts_mem hb with rfl | z
    · exact ⟨oL, es, ep, hLg, hLd⟩
    · simp at z
  refine wpR_mono (h _ s.heap.objs.size h₁ ⟨hN _ hLg, st, F.above⟩ ⟨hns, fun b o e => hk₁ b o (of_hideAll _ e), Nat.le_of_eq (hideAll_size _ _)⟩
    (fun p hp => ⟨hk₁ _ _ (N p hp).1, Nat.ne_of_lt (Heap.lt_size (N p hp).1), hideAll_none _ (List.mem_map_of_mem hp)⟩) B₂ (X₀.keeps st) (T.keeps st) D₂) (fun fl s' hl => ?_) fun _ _ y => y
  obtain ⟨g', L', m', news', T', F', N', k⟩ := hl
  have nL₀ : h₀.get? L = none := kts_self F
  obtain ⟨sl, hs⟩ := T'.up hLg
  refine k ⟨hNs sl _ (F'.keep _ _ hs), fun b o e => F'.keep b o (T'.other b o (st b o e) (fun q => by
    rcases kts_mem q with z | z
    · rw [z, nL₀] at e
      cases e
    · simp at z)), F.above⟩ fun p hp => ⟨(N' p hp).1, fun q => ?_, ?_⟩
  · have := (N' p hp).2.2; rw [q, hs] at this; cases this
  · cases q : h₀.get? p.1 with
    | none => rfl
    | some o =>
      obtain ⟨sl', hs'⟩ := T'.up (st _ _ q)
      have := (N' p hp).2.2
      rw [hs'] at this
      cases this
end
section
variable {M : Model} {A : Around} {E : Value → Shared → Prop} {s : Shared} {env : Env}
theorem wpR_one {st : Stmt} {rest : List Stmt} {Q : Flow → Shared → Prop}
    (h : wpAny M A (exec st env) (fun f s' => match f with | .next => wpR M A (execs rest env) Q E s' | f => Q f s') E s) : wpR M A (execs (st :: rest) env) Q E s := wpR_execs_cons (wpR_of h)
/-- the last statements need no R -/
theorem wpR_last {body : List Stmt} {Q : Flow → Shared → Prop} (h : wpAny M A (execs body env) Q E s) : wpR M A (execs body env) Q E s := wpR_of h
end
theorem some_toks {α : Type} {M : Model} {A : Around} {t : Sem α} {Q : α → Shared → Prop} {E : Value → Shared → Prop} {h : Heap} {g : Array GenState} {d : Drawn} {os : OsState} {tk : Nat} (h1 : 1 ≤ tk)
    (k : ∀ tk', 1 ≤ tk' → wpR M A t Q E ⟨h, g, d, tk', os⟩) : wpR M A t Q E ⟨h, g, d, tk, os⟩ := k tk h1
/-- a frame's names, told in another way -/
theorem fr_as {g h : Heap} {L : Addr} {m m' : Str → Option Value} (F : Fr g L h m) (e : ∀ y, m y = m' y) : Fr g L h m' := (funext e : m = m') ▸ F
end Mine
end

section
open PySem PySem.W PyProof.Rows PySem.Spec PySem.Calls
set_option Elab.async false
namespace Mine
def Coded (p : List UInt8) (n : Int) : Prop := (∃ o : UInt8, p = [o] ∧ o.toNat ≠ 61 ∧ n = (o.toNat : Int)) ∨ (∃ a b, p = [61, a, b] ∧ HexU a ∧ HexU b ∧ n = digU a * 16 + digU b)
def CodedAll (ps : List (List UInt8)) (ns : List Int) : Prop := ps.length = ns.length ∧ ∀ (i : Nat) (p : List UInt8) (n : Int), ps[i]? = some p → ns[i]? = some n → Coded p n
def rm (row k : Value) (rest : Str → Option Value) : Str → Option Value := fun y => if y = Str.ofString "k" then some k else if y = Str.ofString "row" then some row else rest y
theorem rm_k (row k v : Value) (rest : Str → Option Value) : (fun y => if y = Str.ofString "k" then some v else rm row k rest y) = rm row v rest := by
  funext y
  unfold rm
  by_cases h : y = Str.ofString "k"
  · rw [if_pos h, if_pos h]
  · rw [if_neg h, if_neg h, if_neg h]
theorem flat_at {ps : List (List UInt8)} {i : Nat} {p : List UInt8} (h : ps[i]? = some p) : ps.flatten = octs ps i ++ (p ++ (ps.drop (i + 1)).flatten) := by
  unfold octs
  have hl : i < ps.length := (List.getElem?_eq_some_iff.mp h).1
  have e : ps = ps.take i ++ (p :: ps.drop (i + 1)) := by
    have e1 := (List.take_append_drop i ps).symm
    rw [List.drop_eq_getElem_cons hl] at e1
    have e2 : ps[i] = p := by
      rw [List.getElem?_eq_getElem hl] at h
      exact Option.some.inj h
    rw [e2] at e1
    exact e1
  conv => lhs; rw [e]
  rw [List.flatten_append, List.flatten_cons]
/-- a halt of the walk -/
def Stop (P : Prop) : Prop := P
section
variable {M : Model} {A : Around} {E : Value → Shared → Prop} {s : Shared} {env : Env}
theorem wpAny_stop {st : Stmt} {rest : List Stmt} {Q : Flow → Shared → Prop}
    (h : wpAny M A (exec st env) (fun f s' => match f with | .next => Stop (wpAny M A (execs rest env) Q E s') | f => Q f s') E s) : wpAny M A (execs (st :: rest) env) Q E s := wpAny_execs_cons h
end
section
variable {prog : Program} {w : World} {A : Around} {E : Value → Shared → Prop} {s : Shared} {t u : Tok} {Q : Value → Shared → Prop}
theorem len_by {b : List UInt8} (hz : b.length ≤ 1048576) (h : Q (.int (b.length : Int) (s.toks + 1)) { s with toks := s.toks + 1 + 1 }) : wpAny (model prog w) A (call (.builtin "len") [.bytes b.toArray t]) Q E s := by
  refine PySem.W.len_bytes (b := b.toArray) (by simp; omega) ?_
  have e : ((b.toArray.size : Nat) : Int) = (b.length : Int) := by simp
  rw [e]
  exact h
theorem ne_yes {a b : Int} (hab : a ≠ b) (h : Q (.bool true) s) : wpAny (model prog w) A (compareOp .NotEq (.int a t) (.int b u)) Q E s := P.ne_int (by rw [bne_iff_ne.mpr hab]; exact h)
theorem ne_no {a b : Int} (hab : a = b) (h : Q (.bool false) s) : wpAny (model prog w) A (compareOp .NotEq (.int a t) (.int b u)) Q E s := P.ne_int (by subst hab; simpa using h)
end
theorem ints_snoc {ys : List Value} {ns : List Int} {i : Nat} {n : Int} {t : Tok} (h : IntsAre ys (ns.take i)) (hn : ns[i]? = some n) : IntsAre (ys ++ [.int n t]) (ns.take (i + 1)) := by
  rw [List.take_add_one, hn]
  exact h.append (.cons n t .nil)
end Mine
namespace Mine
theorem rm_init (row k : Value) (rest : Str → Option Value) (y : Str) : (if y = Str.ofString "row" then some row else if y = Str.ofString "k" then some k else rest y) = rm row k rest y := by
  unfold rm
  by_cases h : y = Str.ofString "k"
  · subst h
    have n : ¬ (Str.ofString "k" = Str.ofString "row") := by decide
    rw [if_neg n, if_pos rfl, if_pos rfl]
  · rw [if_neg h, if_neg h]
/-- where the reading stands -/
def RInv (D L : Addr) (g : Heap) (R0 : Str → Option Value) (ps : List (List UInt8)) (ns : List Int) (nw : List (Addr × Obj)) (s : Shared) (n : Nat) (s' : Shared) : Prop :=
  ∃ i h tk ys t, n = ps.length - i ∧ i ≤ ps.length ∧ s' = { s with heap := h, toks := tk } ∧ Fr g L h (rm (.ref D) (.int ((octs ps i).length : Int) t) R0) ∧ News g L h ((D, LCg.lst ys) :: nw) ∧ IntsAre ys (ns.take i)
theorem RInv.intro {D L : Addr} {g h : Heap} {R0 m : Str → Option Value} {ps : List (List UInt8)} {ns : List Int} {nw : List (Addr × Obj)} {s : Shared} {i : Nat} {tk : Nat} {ys : List Value} {k : Int} {t : Tok} (hi : i ≤ ps.length) (F : Fr g L h (fun y => if y = Str.ofString "k" then some (.int k t) else m y)) (hm : ∃ v, m = rm (.ref D) v R0) (hk : k = ((octs ps i).length : Int)) (N : News g L h ((D, LCg.lst ys) :: nw)) (hy : IntsAre ys (ns.take i)) :
    RInv D L g R0 ps ns nw s (ps.length - i) { s with heap := h, toks := tk } := by
  obtain ⟨v, rfl⟩ := hm
  subst hk
  rw [rm_k] at F
  exact ⟨i, h, tk, ys, t, rfl, hi, rfl, F, N, hy⟩
theorem octs_all (ps : List (List UInt8)) : octs ps ps.length = ps.flatten := by
  unfold octs
  rw [List.take_length]
end Mine
namespace Mine
theorem read_head {g h : Heap} {L D1 T : Addr} {to : Obj} {news : List (Addr × Obj)} {P : Prop} (N : News g L h ((T, to) :: (D1, LCg.lst []) :: news)) (d1 : ∀ p ∈ news, p.1 < D1) (d2 : D1 < T ∧ P) :
    News g L h ((D1, LCg.lst []) :: (T, to) :: news) ∧ ∀ p ∈ ((T, to) :: news), p.1 ≠ D1 := by
  refine ⟨fun p hp => N p ?_, fun p hp => ?_⟩
  · rcases List.mem_cons.mp hp with rfl | hp
    · exact .tail _ (.head _)
    · rcases List.mem_cons.mp hp with rfl | hp
      · exact .head _
      · exact .tail _ (.tail _ hp)
  · rcases List.mem_cons.mp hp with rfl | hp
    · exact Nat.ne_of_gt d2.1
    · exact Nat.ne_of_lt (d1 p hp)
theorem rinv_start {D L : Addr} {g : Heap} {R0 : Str → Option Value} {ps : List (List UInt8)} {ns : List Int} {nw : List (Addr × Obj)} {s : Shared} {t : Tok} (F : Fr g L s.heap (fun y => if y = Str.ofString "row" then some (.ref D) else if y = Str.ofString "k" then some (.int 0 t) else R0 y)) (N : News g L s.heap ((D, LCg.lst []) :: nw)) :
    RInv D L g R0 ps ns nw s (ps.length - 0) s :=
  ⟨0, s.heap, s.toks, [], t, rfl, Nat.zero_le _, rfl, fr_as F fun y => rm_init _ _ _ y, N, by rw [List.take_zero]; exact .nil⟩
end Mine
namespace Mine
def RNext (D L : Addr) (g : Heap) (R0 : Str → Option Value) (ps : List (List UInt8)) (ns : List Int) (nw : List (Addr × Obj)) (s : Shared) (n : Nat) (s' : Shared) : Prop :=
  ∃ m, m < n ∧ RInv D L g R0 ps ns nw s m s'
theorem RNext.intro {D L : Addr} {g h : Heap} {R0 m : Str → Option Value} {ps : List (List UInt8)} {ns : List Int} {nw : List (Addr × Obj)} {s : Shared} {i : Nat} {tk : Nat} {ys : List Value} {k : Int} {t : Tok} (hi : i < ps.length) (F : Fr g L h (fun y => if y = Str.ofString "k" then some (.int k t) else m y)) (hm : ∃ v, m = rm (.ref D) v R0) (hk : k = ((octs ps (i + 1)).length : Int)) (N : News g L h ((D, LCg.lst ys) :: nw)) (hy : IntsAre ys (ns.take (i + 1))) :
    RNext D L g R0 ps ns nw s (ps.length - i) { s with heap := h, toks := tk } := ⟨ps.length - (i + 1), by omega, RInv.intro hi F hm hk N hy⟩
theorem while_read {prog : Program} {w : World} {A : Around} {test : Expr} {body orelse : List Stmt} {env : Env} {R : Result → Shared → Prop} {D L : Addr} {g : Heap} {R0 : Str → Option Value} {ps : List (List UInt8)} {ns : List Int} {nw : List (Addr × Obj)} {s : Shared} {t : Tok}
    (F : Fr g L s.heap (fun y => if y = Str.ofString "row" then some (.ref D) else if y = Str.ofString "k" then some (.int 0 t) else R0 y)) (N : News g L s.heap ((D, LCg.lst []) :: nw))
    (turn : ∀ n s', RInv D L g R0 ps ns nw s n s' →
      wpAny (model prog w) A (isTrue test env (eval test env)) (fun b s₂ =>
        if b then wpAny (model prog w) A (execs body env) (fun f s₃ => match f with
            | .next | .cont => RNext D L g R0 ps ns nw s n s₃
            | .brk => R (.ok .next) s₃
            | .ret v => R (.ok (.ret v)) s₃) (notedBy (model prog w) A env fun e s' => R (.error e) s') s₂
        else wpAny (model prog w) A (execs orelse env) (fun f s₃ => Stop (R (.ok f) s₃)) (notedBy (model prog w) A env fun e s' => R (.error e) s') s₂)
        (notedBy (model prog w) A env fun e s' => R (.error e) s') s') : codeAny (model prog w) A (.whileLoop test body orelse env) R s :=
  codeAny_whileLoop _ turn _ (rinv_start F N)
end Mine
end

section
open PySem PySem.W PyProof.Rows PySem.Spec PySem.Calls
set_option Elab.async false
set_option maxRecDepth 100000
namespace Mine
def pc1 (tb hd : Bool) (o : UInt8) : List UInt8 := if needsB o tb hd then quoteB o else [o]
def pc2 (tb hd : Bool) (o : UInt8) (w : Int) : List UInt8 := if w = 2 then quoteB o else if w = 3 ∧ o.toNat ≠ 61 then [o] else pc1 tb hd o
theorem u8_of_int (o : UInt8) : ((o.toNat : Int)).toNat.toUInt8 = o := by simp
theorem needs_61 {o : UInt8} {tb hd : Bool} (h : needsB o tb hd = false) : o.toNat ≠ 61 := by
  intro e
  have : o = 61 := UInt8.toNat_inj.mp e
  subst this
  cases tb <;> cases hd <;> revert h <;> decide
theorem hex_all : ∀ i : Fin 16, HexU ((hexL.getD i.val 0).toNat.toUInt8) ∧ digU ((hexL.getD i.val 0).toNat.toUInt8) = (i.val : Int) := by
  unfold HexU digU hexL
  decide +kernel
theorem hex_at {k : Int} (h0 : 0 ≤ k) (h1 : k < 16) : HexU (hexI k).toNat.toUInt8 ∧ digU (hexI k).toNat.toUInt8 = k := by
  have h := hex_all ⟨k.toNat, by omega⟩
  have e : (hexI k).toNat.toUInt8 = (hexL.getD k.toNat 0).toNat.toUInt8 := by
    rw [hexI_def]; simp
  rw [e]
  refine ⟨h.1, h.2.trans ?_⟩
  show ((k.toNat : Nat) : Int) = k
  omega
theorem quote_coded (o : UInt8) : Coded (quoteB o) (o.toNat : Int) := by
  have d := div16 (o := o)
  have m := mod16 (k := (o.toNat : Int))
  obtain ⟨a1, a2⟩ := hex_at d.1 d.2
  obtain ⟨b1, b2⟩ := hex_at m.1 m.2
  refine .inr ⟨_, _, rfl, a1, b1, ?_⟩
  rw [a2, b2, Int.fdiv_eq_ediv_of_nonneg _ (by decide), Int.fmod_eq_emod_of_nonneg _ (by decide)]
  omega
theorem pc1_coded (tb hd : Bool) (o : UInt8) : Coded (pc1 tb hd o) (o.toNat : Int) := by
  unfold pc1
  cases h : needsB o tb hd with
  | true => rw [if_pos rfl]; exact quote_coded o
  | false => rw [if_neg Bool.false_ne_true]; exact .inl ⟨o, rfl, needs_61 h, rfl⟩
theorem pc2_coded (tb hd : Bool) (o : UInt8) (w : Int) : Coded (pc2 tb hd o w) (o.toNat : Int) := by
  unfold pc2
  split
  · exact quote_coded o
  · split
    · rename_i h; exact .inl ⟨o, rfl, h.2, rfl⟩
    · exact pc1_coded tb hd o
theorem coded_len {p : List UInt8} {n : Int} (h : Coded p n) : p ≠ [] ∧ p.length ≤ 3 := by
  rcases h with ⟨o, rfl, _⟩ | ⟨a, b, rfl, _⟩
  · exact ⟨by simp, by simp⟩
  · exact ⟨by simp, by simp⟩
theorem spell_pc (o : UInt8) (tb hd : Bool) : spellI (o.toNat : Int) tb hd = pc1 tb hd o := by
  have key : (if (o.toNat : Int) = 95 then !hd else if (o.toNat : Int) = 32 ∨ (o.toNat : Int) = 9 then !tb else decide (33 ≤ (o.toNat : Int) ∧ (o.toNat : Int) ≤ 126 ∧ (o.toNat : Int) ≠ 61)) = !needsB o tb hd := by
    have all : ∀ k : Fin 256, (if ((UInt8.ofNat k.val).toNat : Int) = 95 then !hd else if ((UInt8.ofNat k.val).toNat : Int) = 32 ∨ ((UInt8.ofNat k.val).toNat : Int) = 9 then !tb else decide (33 ≤ ((UInt8.ofNat k.val).toNat : Int) ∧ ((UInt8.ofNat k.val).toNat : Int) ≤ 126 ∧ ((UInt8.ofNat k.val).toNat : Int) ≠ 61)) = !needsB (UInt8.ofNat k.val) tb hd := by
      cases tb <;> cases hd <;> decide +kernel
    have h := all ⟨o.toNat, o.toNat_lt⟩
    have e : UInt8.ofNat o.toNat = o := by simp
    simp only [e] at h
    exact h
  unfold spellI pc1
  rw [key]
  cases h : needsB o tb hd with
  | true => rfl
  | false =>
    show ([((o.toNat : Int)).toNat.toUInt8] : List UInt8) = [o]
    rw [u8_of_int]
end Mine
end

section
open PySem PySem.W PyProof.Rows PySem.Spec PySem.Calls
set_option Elab.async false
namespace Mine

/-- the thread of the claim's caller ends, when the call comes back in R -/
theorem thread_R {prog : Program} {w : World} {t : Sem Fin} {s : Shared} {R : Result → Shared → Prop} (hreg : s.asleep)
    (h : wpR (model prog w) callerA t (fun fin s' => ∃ f, fin = .done f ∧ (R (.ok f) s' ∧ leftWithCleanup s'.gens = false)) (fun e s' => R (.error e) s' ∧ leftWithCleanup s'.gens = false) s) :
    ∃ n r s' s'', runN (denote table) prog w n s ⟨t, .builtin "claim.caller" {}, default, []⟩ = .halted (outcomeOf r) s' ∧
      schedN (denote table) prog w n (.single s ⟨t, .builtin "claim.caller" {}, default, []⟩) = .halted (outcomeOf r) s' ∧ s'.forget = s''.forget ∧ R r s'' := by
  have h0 := h ⟨.builtin "claim.caller" {}, none, none, [], none⟩ default caller_in rfl (fun x hx => nomatch hx)
  have h1 : Sem.wp (model prog w) ⟨.builtin "claim.caller" {}, none, none, [], none⟩ t (Sem.finPost (model prog w) ⟨.builtin "claim.caller" {}, none, none, [], none⟩ fun r s' => R r s' ∧ leftWithCleanup s'.gens = false)
      (fun e _ s' => R (.error e) s' ∧ leftWithCleanup s'.gens = false) default s :=
    Sem.wp_mono _ _ t (fun fin p' s' h' => by obtain ⟨f, rfl, hf⟩ := h'; exact hf) (fun _ _ _ h' => h') default s h0
  obtain ⟨n, r, s₁, s₂, hs, hn, hfo, hR⟩ := wp_halts_full (M := model prog w) (R := R) hreg h1
  exact ⟨n, r, s₂, s₁, hn, hs, hfo, hR⟩

abbrev WalkR (q : Program) (loose : List Str) (XP : (Str → Option Value) → Heap → Prop) (YP : World → Heap → Prop) (r : RowW) (d : DefRec) (kwd : List (Str × Expr)) : Prop :=
  ∀ (w : World) (s₀ s₁ : Shared) (mg mb : Str → Option Value), Ground q loose r.records XP w s₀ mg mb s₁.heap → YP w s₁.heap → ∀ (a : Addr) (o : Obj) (pm cd doc dV kV : Value), s₁.heap.get? a = some o →
    o.data = .func { docDef d.name d.params d.body d.scope pm cd doc with defaults := dV, kwdefaults := kV } → s₁.heap.CodeRec cd d.name → Dflts mg s₁.heap d.params kwd dV kV → mg d.name = some (.ref a) → s₁.gens = #[] →
    ∀ (args : List WData) (vals : List Value) (as : List Addr), r.claim.pre args = true → WData.layableAll args = true → ReadsAllW r.records (classAt s₀.heap) s₁.heap vals args as → WellAll w.params s₁.heap vals args → (∀ a ∈ as, (a == sysModules) = false) →
      codeR (model r.prog w) callerA (.call (.ref a) ⟨vals, []⟩) (GoodWG r.claim (classAt s₀.heap) (ExcName.means s₀.heap) args s₁) s₁

theorem callFrom_R {c : ClaimW} {tree : List Value → Sem Fin} {w : World} {s : Shared} {free : Addr → Prop} {gens : Prop} {kept : Heap → Prop} (hz : s.asleep) (hgens : s.gens = #[])
    (hspec : ∀ args, c.pre args = true → WData.layableAll args = true →
      ∀ ord : List DictEntry → List DictEntry, (∀ l, (ord l).Perm l) →
      ∃ vs s₁, layAllW c.records (classAt s.heap) w.params ord args s = some (vs, s₁) ∧
        wpR (model c.prog w) callerA (tree vs) (fun fin s' => ∃ f, fin = .done f ∧ (c.Ends s args vs s₁ (.ok f) s' ∧ s'.os = s.os ∧ AllBare s'.gens ∧ kept s'.heap))
          (fun e s' => c.Ends s args vs s₁ (.error e) s' ∧ s'.os = s.os ∧ AllBare s'.gens ∧ kept s'.heap) s₁) :
    c.CallFrom (fun vs => ⟨tree vs, .builtin "claim.caller" {}, default, []⟩) w free gens kept s := by
  intro args hpre hlay ord hord
  obtain ⟨vs, s₁, hlaid, hcode⟩ := hspec args hpre hlay ord hord
  have hal := layAllW_rest _ _ _ hlaid
  have hcode' := wpR_mono (Q' := fun fin s' => ∃ f, fin = .done f ∧ ((c.Ends s args vs s₁ (.ok f) s' ∧ s'.os = s.os ∧ kept s'.heap) ∧ leftWithCleanup s'.gens = false))
    (E' := fun e s' => (c.Ends s args vs s₁ (.error e) s' ∧ s'.os = s.os ∧ kept s'.heap) ∧ leftWithCleanup s'.gens = false) hcode
    (fun fin s' ⟨f, e, h1, h2, h3, h4⟩ => ⟨f, e, ⟨h1, h2, h4⟩, leftWithCleanup_false_of_bare h3⟩)
    (fun e s' ⟨h1, h2, h3, h4⟩ => ⟨⟨h1, h2, h4⟩, leftWithCleanup_false_of_bare h3⟩)
  obtain ⟨k, r, s', s'', hrun, hsched, hfo, hcase, hos, hkp⟩ := thread_R (R := fun r s' => c.Ends s args vs s₁ r s' ∧ s'.os = s.os ∧ kept s'.heap) (Shared.asleep_of_life hal.2.2.2 hz) hcode'
  obtain ⟨eh, _, _, eo, _⟩ := Shared.forget_eq hfo
  have hends := hcase.congr eh
  have hkp' : kept s'.heap := by rw [eh]; exact hkp
  rw [← eo] at hos
  have hlife : s'.heap.life = s.heap.life := (runN_life _ _ _ hrun).trans hal.2.2.2
  refine ⟨vs, s₁, hlaid, k, _, s', hsched, ?_, (fun _ i x hx => by rw [hgens] at hx; simp at hx), hkp', by rw [hlife], Shared.rest_eq hos⟩
  rcases hends with ⟨v, rfl, d1, d2, d3, d4, d5⟩ | ⟨e, ob, cls, rfl, d1, d2, d3, d4, d5⟩
  · exact .inl ⟨v, rfl, d1, d2, d3, fun b o y _ => d4 b o y, d5⟩
  · exact .inr ⟨e, ob, cls, rfl, d1, d2, d3, d4, fun b o y _ => d5 b o y⟩

theorem PySem.W.holds_open {r : OpenRow} {q : Program} {loose : List Str} {Xt : Shared → Bool} {XP : (Str → Option Value) → Heap → Prop} {α : Type} {Yf : Shared → α} {Ya : World → α} {YP : World → Heap → Prop} {d : DefRec} {kwd : List (Str × Expr)} {N : Nat}
    (left : LeftO r.prog q loose Xt Yf Ya N) (hY : ∀ w s, Yf s = Ya w → YP w s.heap) (hYk : ∀ w h h', YP w h → (∀ b o, h.get? b = some o → h'.get? b = some o) → YP w h')
    (hX : ∀ s, Xt s = true → XP (s.heap.nsMap mainGlobals) s.heap) (hXk : ∀ mg h h', XP mg h → (∀ b o, h.get? b = some o → h'.get? b = some o) → XP mg h')
    (hdef : defOf q r.name = some (d, kwd)) (hp : r.prog.theDef r.name = some (d.params, d.body, d.scope)) (hk : kwWritten? d.params.kwonlyargs d.params.kw_defaults = some kwd) (hRf : ∀ s, Xt s = true → RecFacts r.records s.heap) (hwr : (!r.writes || r.records.isEmpty) = true)
    (k1 : r.wellSaid = true) (ok : (chainsOk q && opensWell r.prog && (frees r.toRowW && r.within.isEmpty)) = true) (hb : r.prog.bare) (hw : r.toRowW.promised)
    (call : WalkR q loose XP YP r.toRowW d kwd) : r.Holds := by
  obtain ⟨ok, k5⟩ := Bool.and_eq_true_iff.mp ok
  obtain ⟨hch, o1⟩ := Bool.and_eq_true_iff.mp ok
  obtain ⟨k5, k6⟩ := Bool.and_eq_true_iff.mp k5
  obtain ⟨hsame, hu, ha, hap, hm⟩ := frees_parts k5
  have hi := ident_freeW hu ha hap
  have hwi : r.claim.within = [] := List.isEmpty_iff.mp k6
  refine ⟨k1, hw, ⟨hb, o1, by show r.makers.map _ = []; rw [hm]; rfl⟩, hw.witness, fun w => ⟨(left.behind hX hch w).1, fun s' hs' => ?_⟩⟩
  obtain ⟨s₀, hf, hg0, s, hT, hz, hgens, hg, G00, y⟩ := (left.behind (XP := fun mg h => XP mg h ∧ RecFacts r.records h) (fun s hs => ⟨hX s hs, hRf s hs⟩) hch w).2 s' hs'
  have G0 : Ground q loose [] XP w s (s.heap.nsMap mainGlobals) (s.heap.nsMap builtinsNs) s.heap := ⟨G00.T, G00.B, G00.D, G00.TE, G00.TD, G00.W, G00.X.1, G00.cls, G00.has, G00.apart, G00.once, G00.K⟩
  have RF := G00.X.2
  have hT' := hT
  refine ⟨s₀, hf, hg0, s, hT, fun n hn => ?_, RF.1, RF.2.1, ?_⟩
  · obtain rfl : n = r.name := by
      revert hn
      split <;> intro hn <;> simp_all
    exact pinned_of_view hg G0 hdef hp hk
  have hgens : s.gens = #[] := Array.eq_empty_of_size_eq_zero (beq_iff_eq.mp hgens)
  have G : Ground q loose r.records XP w s _ _ s.heap := RF.ground G0
  refine callFrom_R (c := r.claim) hz hgens fun args hpre hlay ord hord => ?_
  obtain ⟨⟨vs, s₁⟩, hlaid⟩ := Option.isSome_iff_exists.mp (layAllW_isSome (P := w.params) (ord := ord) G.has args r.args s (pre_splitW hpre).1)
  have keeps := layAllW_keeps _ _ _ hlaid
  have hal := layAllW_rest _ _ _ hlaid
  obtain ⟨as, hrd, hin, hold⟩ := reads_layAllW hord _ _ _ hlaid hlay s₁.heap (fun _ _ e => e)
  have L : Laid r.records w s s₁ args vs as := ⟨⟨ord, hord, hlaid⟩, hrd, hin, hold, keeps, hal.1.trans hgens, hal.2.2.1⟩
  have G₁ := G.keeps hXk keeps
  obtain ⟨a, o, pm, cd, doc, dV, kV, h1, h2, h3, h4, h5⟩ := G₁.fn hdef
  have hcall := call w s s₁ _ _ G₁ (hYk _ _ _ (hY w s y) keeps) a o pm cd doc dV kV h2 h3 h4 h5 (defOf_name hdef ▸ h1) L.gens args vs as hpre hlay L.reads L.well (L.low G.low)
  refine ⟨vs, s₁, hlaid, ?_⟩
  show wpR (model r.prog w) callerA (do match ← nsGet mainNs r.name with
      | some f => do ret (← PySem.call f vs)
      | none => unsupported "claim.caller:no-such-global") _ _ s₁
  refine wpR_bindA (wpAny_nsGet G₁.T.g ?_)
  rw [h1]
  refine wpR_bind (wpR_call (codeR_mono hcall fun res s' g => ?_))
  rcases res with e | fl
  · have z := g.laid (c := r.claim) hsame hwi hi L
    exact ⟨z.1, z.2.1, z.2.2, fun q => ⟨namesKept_of hT' hg _ keeps g.2.1.old, noTable hwr q⟩⟩
  · obtain ⟨v, dd, aa, hv, _⟩ | ⟨e, _, _, hv, _⟩ := g.1
    · cases hv
      have z := g.laid (c := r.claim) hsame hwi hi L
      exact wpR_pure ⟨_, rfl, z.1, z.2.1, z.2.2, fun q => ⟨namesKept_of hT' hg _ keeps g.2.1.old, noTable hwr q⟩⟩
    · cases hv
end Mine
end

section
open PySem PySem.W PyProof.Rows PySem.Spec PySem.Calls
set_option Elab.async false
namespace Mine
set_option maxRecDepth 100000 in
set_option maxHeartbeats 8000000 in
open_top hd1 for PySem.Challenge.rw_kl0184_01

/-- what a call of the text's def at f gives back, whoever calls -/
abbrev MC (w : World) (f : Addr) (news : List (Addr × Obj)) (vs : List Value) (dn un' : Nat) (Ret : Value → Prop) : Prop :=
  ∀ (mean : ExcName → Option Value) (mg mb : Str → Option Value) (dp un : Nat) (gd : Option (List Code)) (cn : Str) (cs : Scope) (a : Addr) (ccd : Value) (cl : List (Str × Addr)) (outer : List Env) (A₀ : Around) (base h₀ : Heap) (L : Addr) (m : Str → Option Value) (s : Shared) (Q E : Value → Shared → Prop),
    Below A₀ base outer h₀ → Fr h₀ L s.heap m → (hd1.heap_39 w.params).In h₀ → News h₀ L s.heap news → Top hd1.view_39 (looseW hd1.view_39 [Str.ofString "bytes_types"]) mean mg mb h₀ → cs.kind = .function →
    dp + dn < recursionLimit → un + un' < cLine →
    (∀ r h' tk', Ret r → Fr h₀ L h' m → News h₀ L h' news → Q r { s with heap := h', toks := tk' }) →
      wpAny (model PySem.Challenge.rw_kl0184_01.row.prog w) (ktrTop dp un gd cn cs L a ccd cl outer) (call (.ref f) vs) Q E s
/-- the same, of a call that ends in a ValueError -/
abbrev MCR (w : World) (f : Addr) (news : List (Addr × Obj)) (vs : List Value) (dn un' : Nat) : Prop :=
  ∀ (mean : ExcName → Option Value) (mg mb : Str → Option Value) (dp un : Nat) (gd : Option (List Code)) (cn : Str) (cs : Scope) (a : Addr) (ccd : Value) (cl : List (Str × Addr)) (outer : List Env) (A₀ : Around) (base h₀ : Heap) (L : Addr) (m : Str → Option Value) (s : Shared) (Q E : Value → Shared → Prop),
    Below A₀ base outer h₀ → Fr h₀ L s.heap m → (hd1.heap_39 w.params).In h₀ → News h₀ L s.heap news → Top hd1.view_39 (looseW hd1.view_39 [Str.ofString "bytes_types"]) mean mg mb h₀ →
    (hd1.heap_39 w.params).In base → Top hd1.view_39 (looseW hd1.view_39 [Str.ofString "bytes_types"]) mean mg mb base → cs.kind = .function →
    dp + dn < recursionLimit → un + un' < cLine →
    (∀ g e h' tk', Fr h₀ L g m → RaisedSN base g (envX cn cs L a ccd cl :: outer) e (.type "ValueError") news h' → g.UpToSlots h' → E (.ref e) { s with heap := h', toks := tk' }) →
      wpAny (model PySem.Challenge.rw_kl0184_01.row.prog w) (ktrTop dp un gd cn cs L a ccd cl outer) (call (.ref f) vs) Q E s
/-- a call that may have raised and caught within: the ground of the frames below may stand anew -/
abbrev MCS (w : World) (f : Addr) (news : List (Addr × Obj)) (vs : List Value) (dn un' : Nat) (Ret : Value → Prop) : Prop :=
  ∀ (mean : ExcName → Option Value) (mg mb : Str → Option Value) (dp un : Nat) (gd : Option (List Code)) (cn : Str) (cs : Scope) (a : Addr) (ccd : Value) (outer : List Env) (A₀ : Around) (base h₀ g₀ : Heap) (L : Addr) (m : Str → Option Value) (s : Shared) (Q E : Value → Shared → Prop),
    Below A₀ base outer h₀ → Fr h₀ L s.heap m → (hd1.heap_39 w.params).In h₀ → News h₀ L s.heap news → Top hd1.view_39 (looseW hd1.view_39 [Str.ofString "bytes_types"]) mean mg mb h₀ →
    (hd1.heap_39 w.params).In base → Top hd1.view_39 (looseW hd1.view_39 [Str.ofString "bytes_types"]) mean mg mb base → KtsDicts (outer.filterMap (·.frame)) h₀ → KtsTurn (outer.filterMap (·.frame)) g₀ h₀ → cs.kind = .function →
    dp + dn < recursionLimit → un + un' < cLine →
    (∀ r h' tk' h₀', Ret r → KtsTurn (outer.filterMap (·.frame)) g₀ h₀' → Fr h₀' L h' m → News h₀' L h' news → Below A₀ base outer h₀' → (hd1.heap_39 w.params).In h₀' → Top hd1.view_39 (looseW hd1.view_39 [Str.ofString "bytes_types"]) mean mg mb h₀' →
      KtsDicts (outer.filterMap (·.frame)) h₀' → Q r { s with heap := h', toks := tk' }) →
      wpAny (model PySem.Challenge.rw_kl0184_01.row.prog w) (ktrTop dp un gd cn cs L a ccd [] outer) (call (.ref f) vs) Q E s
end Mine
end

section
open PySem PySem.W PyProof.Rows PySem.Spec PySem.Calls
set_option Elab.async false
set_option maxRecDepth 100000
namespace Mine
section
variable {prog : Program} {w : World} {A₀ : Around} {E : Value → Shared → Prop} {s' : Shared} {base g g₀ G : Heap} {outer : List Env} {L a e : Addr} {m : Str → Option Value} {name : Str} {scope : Scope} {cd : Value}
  {n : Str} {b₀ : Stmt} {suite : List Stmt} {pos np : Pos} {rest : List ExceptHandler} {Q : Flow → Shared → Prop} {news : List (Addr × Obj)} {KF : Frag}
  {p : Program} {loose : List Str} {mean : ExcName → Option Value} {mg mb : Str → Option Value} {x : Str} {X T' : String}
/-- a raised one is caught under a name, and the ledger keeps what it is -/
theorem caught_named (R : RaisedSN base G (envOf name scope L a cd :: outer) e (.type X) news s'.heap) (F : Fr g L G m) (K : Below A₀ base outer g) (hsm : G.UpToSlots s'.heap) (XB : KF.In base) (TB : Top p loose mean mg mb base)
    (D : KtsDicts (outer.filterMap (·.frame)) g) (T0 : KtsTurn (outer.filterMap (·.frame)) g₀ g)
    (ex : nsIn KF mainGlobals x = some none) (hv : bootBuiltins x = some (.type T')) (hn' : x ≠ "__name__")
    (hexc : isSubtype (.type T') (.type "BaseException") = pure true) (hnt : isSubtype (.type ((Manifest.find? T').elim "type" fun y => y.metatype)) (.type "tuple") = pure false) (hsub : isSubtype (.type X) (.type T') = pure true)
    (k : ∀ h' g' tk oe, oe.cls = .type X → KtsTurn (outer.filterMap (·.frame)) g₀ g' → Fr g' L h' (fun y => if y = n then some (.ref e) else m y) → News g' L h' ((e, oe) :: news) → Below A₀ base outer g' → KF.In g' → Top p loose mean mg mb g' → KtsDicts (outer.filterMap (·.frame)) g' →
      wpAny (model prog w) ((A₀.deeper (envOf name scope L a cd)).mark (some (.ref e))) (execs (b₀ :: suite) (envOf name scope L a cd))
        (fun f s₄ => wpAny (model prog w) (A₀.deeper (envOf name scope L a cd)) (do bindName (envOf name scope L a cd) n .none; unbindBehindTheSuite (envOf name scope L a cd) n pos) (fun _ s₅ => Q f s₅) E s₄)
        (AsSuiteRaised (model prog w) ((A₀.deeper (envOf name scope L a cd)).mark (some (.ref e))) (envOf name scope L a cd) n pos (notedBy (model prog w) ((A₀.deeper (envOf name scope L a cd)).mark (some (.ref e))) (envOf name scope L a cd) (cameBackBy (model prog w) (A₀.deeper (envOf name scope L a cd)) (envOf name scope L a cd) E)))
        { s' with heap := h', toks := tk })
    (hk : scope.kind = .function := by rfl) (hlo : (envOf name scope L a cd).kindOf n = some .local := by rfl) (hx : (envOf name scope L a cd).kindOf x = some .globalImplicit := by rfl) (hd : (x == ("__debug__" : Str)) = false := by decide) :
    wpAny (model prog w) (A₀.deeper (envOf name scope L a cd)) (noteFrame (.ref e) (envOf name scope L a cd))
      (fun _ s₂ => wpAny (model prog w) (A₀.deeper (envOf name scope L a cd)) (setFlight (.ref e) none) (fun _ s₃ =>
        wpAny (model prog w) (A₀.deeper (envOf name scope L a cd)) (handleBy (.ref e) (envOf name scope L a cd) (.ExceptHandler (some (.Name x np)) (some n) (b₀ :: suite) pos :: rest)) Q E s₃) E s₂) E s' := by
  obtain ⟨B, a0, hB, hBG, hl, hfl⟩ := R
  have hL : B.get? L = none := by
    obtain ⟨_, ⟨L', _, hf, hn', _⟩, _⟩ := hfl.2.2.1
    obtain rfl : L = L' := Option.some.inj hf
    exact hn'
  refine wpAny_looks_onW (Around.frames_deeper K.stack) rfl hfl fun h₄ hheld₄ hsm₄ => ?_
  refine wpAny_landsW hheld₄ fun h₅ hheld hsm₅' => ?_
  have up₅ := hsm.trans (hsm₄.trans hsm₅')
  obtain ⟨g₅, T₅, F₅, K₅⟩ := kts_ground K F hBG hheld.1 up₅
  obtain ⟨ob, hob, hobc⟩ := hheld.there
  refine wpAny_handleBy_builtin_as (X := X) (T := T') (b := true) hexc hnt hsub (name_B F₅ (XB.keeps K₅.stays) (topRead_of (TB.keeps K₅.stays)) ex hv hn' ⟨rfl, ⟨ob, hob, hobc⟩, ?_⟩ hk hx hd)
  refine lands_againW hheld fun h₆ hfl₆ hsm₆ => ?_
  have up₆ := up₅.trans hsm₆
  obtain ⟨g₆, T₆, F₆, K₆⟩ := kts_ground K F hBG hfl₆.1 up₆
  obtain ⟨oe, ws, hoe, hoec, hoed, _⟩ := hfl₆.first
  have ne₆ : g₆.get? e = none := T₆.none_ _ (kts_fresh F hBG hfl₆.2.1 fun o ho mm => by
    obtain ⟨_, o', ho', hdd⟩ := K.frames.mem mm
    rw [ho] at ho'
    cases ho'
    obtain ⟨sl, hs⟩ := up₆ _ _ (F.keep _ _ ho) hdd
    rw [hoe] at hs
    cases hs
    exact hdd _ hoed)
  have N₁ : News g₆ L h₆ [(e, oe)] := News.more F₆ News.nil hoe (fun es n q => by rw [hoed] at q; cases q) ne₆
  have N₂ : News g₆ L h₆ news := fun q hq => ⟨hfl₆.1 _ _ (hl q hq).1, (fun z => by have := (hl q hq).1; rw [z, hL] at this; cases this), T₆.none_ _ (kts_none F.keep (hl q hq).2.1)⟩
  have N₆ : News g₆ L h₆ ((e, oe) :: news) := fun q hq => (List.mem_cons.mp hq).elim (fun z => N₁ q (by rw [z]; exact List.Mem.head _)) (N₂ q)
  refine stN F₆ N₆ (fun h₇ F₇ N₇ => ?_) hk hlo
  exact k h₇ g₆ _ oe hoec (T0.trans T₆) F₇ N₇ K₆ (XB.keeps K₆.stays) (TB.keeps K₆.stays) (D.turn T₆)
end
end Mine
end

section
open PySem PySem.W PyProof.Rows PySem.Spec PySem.Calls
set_option Elab.async false
namespace Mine
section
variable {w : World} {f : Addr} {news : List (Addr × Obj)} {vs : List Value} {dn un' : Nat} {Ret : Value → Prop} {mean : ExcName → Option Value} {mg mb : Str → Option Value} {dp un : Nat} {gd : Option (List Code)} {cn : Str} {cs : Scope} {a : Addr} {ccd : Value} {cl : List (Str × Addr)} {outer : List Env} {A₀ : Around} {base h₀ g₀ : Heap} {L : Addr} {m : Str → Option Value} {s : Shared} {Q E : Value → Shared → Prop}
theorem mc_use (C : MC w f news vs dn un' Ret) (B : Below A₀ base outer h₀) (F : Fr h₀ L s.heap m) (X : (hd1.heap_39 w.params).In h₀) (N : News h₀ L s.heap news) (T : Top hd1.view_39 (looseW hd1.view_39 [Str.ofString "bytes_types"]) mean mg mb h₀) (hk : cs.kind = .function)
    (hd : dp + dn < recursionLimit) (hu : un + un' < cLine) (k : ∀ r h' tk', Ret r → Fr h₀ L h' m → News h₀ L h' news → Q r { s with heap := h', toks := tk' }) :
    wpAny (model PySem.Challenge.rw_kl0184_01.row.prog w) (ktrTop dp un gd cn cs L a ccd cl outer) (call (.ref f) vs) Q E s :=
  C _ _ _ _ _ _ _ _ _ _ _ _ _ _ _ _ _ _ _ _ B F X N T hk hd hu k
theorem mcr_use (C : MCR w f news vs dn un') (B : Below A₀ base outer h₀) (F : Fr h₀ L s.heap m) (X : (hd1.heap_39 w.params).In h₀) (N : News h₀ L s.heap news) (T : Top hd1.view_39 (looseW hd1.view_39 [Str.ofString "bytes_types"]) mean mg mb h₀)
    (XB : (hd1.heap_39 w.params).In base) (TB : Top hd1.view_39 (looseW hd1.view_39 [Str.ofString "bytes_types"]) mean mg mb base) (hk : cs.kind = .function)
    (hd : dp + dn < recursionLimit) (hu : un + un' < cLine) (k : ∀ g e h' tk', Fr h₀ L g m → RaisedSN base g (envX cn cs L a ccd cl :: outer) e (.type "ValueError") news h' → g.UpToSlots h' → E (.ref e) { s with heap := h', toks := tk' }) :
    wpAny (model PySem.Challenge.rw_kl0184_01.row.prog w) (ktrTop dp un gd cn cs L a ccd cl outer) (call (.ref f) vs) Q E s :=
  C _ _ _ _ _ _ _ _ _ _ _ _ _ _ _ _ _ _ _ _ B F X N T XB TB hk hd hu k
theorem mcs_use (C : MCS w f news vs dn un' Ret) (B : Below A₀ base outer h₀) (F : Fr h₀ L s.heap m) (X : (hd1.heap_39 w.params).In h₀) (N : News h₀ L s.heap news) (T : Top hd1.view_39 (looseW hd1.view_39 [Str.ofString "bytes_types"]) mean mg mb h₀)
    (XB : (hd1.heap_39 w.params).In base) (TB : Top hd1.view_39 (looseW hd1.view_39 [Str.ofString "bytes_types"]) mean mg mb base) (D : KtsDicts (outer.filterMap (·.frame)) h₀) (T0 : KtsTurn (outer.filterMap (·.frame)) g₀ h₀) (hk : cs.kind = .function)
    (hd : dp + dn < recursionLimit) (hu : un + un' < cLine) (k : ∀ r h' tk' h₀', Ret r → KtsTurn (outer.filterMap (·.frame)) g₀ h₀' → Fr h₀' L h' m → News h₀' L h' news → Below A₀ base outer h₀' → (hd1.heap_39 w.params).In h₀' → Top hd1.view_39 (looseW hd1.view_39 [Str.ofString "bytes_types"]) mean mg mb h₀' →
      KtsDicts (outer.filterMap (·.frame)) h₀' → Q r { s with heap := h', toks := tk' }) :
    wpAny (model PySem.Challenge.rw_kl0184_01.row.prog w) (ktrTop dp un gd cn cs L a ccd [] outer) (call (.ref f) vs) Q E s :=
  C _ _ _ _ _ _ _ _ _ _ _ _ _ _ _ _ _ _ _ _ B F X N T XB TB D T0 hk hd hu k
end
end Mine
namespace Mine
/-- one name of a frame is kept, the rest may be anything -/
theorem gen_arg {g h : Heap} {L : Addr} {k : Str} {v : Option Value} {M : Str → Option Value} (F : Fr g L h M) (e : M k = v) :
    ∃ M' : Str → Option Value, Fr g L h (fun y => if y = k then v else M' y) := by
  refine ⟨M, ?_⟩
  have q : (fun y => if y = k then v else M y) = M := by
    funext y
    by_cases h3 : y = k
    · subst h3
      rw [if_pos rfl, e]
    · rw [if_neg h3]
  rw [q]
  exact F
theorem gen_three {g h : Heap} {L : Addr} {k1 k2 k3 : Str} {v1 v2 v3 : Option Value} {M : Str → Option Value} (F : Fr g L h M) (e1 : M k1 = v1) (e2 : M k2 = v2) (e3 : M k3 = v3) :
    ∃ M' : Str → Option Value, Fr g L h (fun y => if y = k1 then v1 else if y = k2 then v2 else if y = k3 then v3 else M' y) := by
  refine ⟨M, ?_⟩
  have q : (fun y => if y = k1 then v1 else if y = k2 then v2 else if y = k3 then v3 else M y) = M := by
    funext y
    by_cases h1 : y = k1
    · subst h1
      rw [if_pos rfl, e1]
    · rw [if_neg h1]
      by_cases h2 : y = k2
      · subst h2
        rw [if_pos rfl, e2]
      · rw [if_neg h2]
        by_cases h3 : y = k3
        · subst h3
          rw [if_pos rfl, e3]
        · rw [if_neg h3]
  rw [q]
  exact F
end Mine
end

section
open PySem PySem.W PyProof.Rows
set_option Elab.async false
set_option maxRecDepth 100000
namespace Mine
open PySem.Spec PySem.Calls
/-- e is caught and stands in its frame's own traceback; its context is none -/
structure Held3 (B : Heap) (l : List Env) (e T : Addr) (cls : String) (h : Heap) : Prop where
  stays : B.StaysIn h
  frames : h.FunFrames B l
  exc : ∃ oe vs, h.get? e = some oe ∧ oe.cls = .type cls ∧ oe.data = .fields vs ∧ vs[1]? = some (.ref T) ∧ vs[2]? = some .none
  newE : B.get? e = none
  newT : B.get? T = none
  ne : T ≠ e
  tb : ∃ oT ts, h.get? T = some oT ∧ oT.data = .fields ts ∧ 3 < ts.size
theorem Held3.keeps {B : Heap} {l : List Env} {e T : Addr} {cls : String} {h h' : Heap} (x : Held3 B l e T cls h) (k : ∀ b o, h.get? b = some o → h'.get? b = some o) : Held3 B l e T cls h' := by
  obtain ⟨oe, vs, he, r⟩ := x.exc
  obtain ⟨oT, ts, hT, q⟩ := x.tb
  exact ⟨fun b o e => k b o (x.stays b o e), x.frames.of_keeps fun b o hb _ => ⟨o, k b o hb, rfl⟩, ⟨oe, vs, k _ _ he, r⟩, x.newE, x.newT, x.ne, ⟨oT, ts, k _ _ hT, q⟩⟩
theorem Held3.typeIs {B : Heap} {l : List Env} {e T : Addr} {cls : String} {s : Shared} (x : Held3 B l e T cls s.heap) : s.TypeIs (.ref e) cls := by
  obtain ⟨oe, vs, he, hc, _⟩ := x.exc
  exact ⟨oe, he, hc⟩
section
variable {M : Model} {A : Around} {E : Value → Shared → Prop} {s : Shared}
theorem note_first {B : Heap} {env : Env} {outer : List Env} {L e : Addr} {oe : Obj} {vs : Array Value} {cls : String} {Q : Unit → Shared → Prop}
    (hfr : A.frames = some (env :: outer)) (hl : s.heap.FunFrames B (env :: outer)) (hf : env.frame = some L)
    (he : s.heap.get? e = some oe) (hc : oe.cls = .type cls) (hkb : B.StaysIn s.heap) (hen : B.get? e = none) (hd : oe.data = .fields vs) (h1 : vs[1]? = some .none) (h2 : vs[2]? = some .none)
    (h : ∀ T h', Held3 B (env :: outer) e T cls h' → s.heap.UpToSlots h' → Q () { s with heap := h' }) : wpAny M A (noteFrame (.ref e) env) Q E s := by
  unfold noteFrame
  simp only [hf]
  refine wpAny_bind (wpAny_field he hd h1 ?_)
  rw [if_neg (by decide)]
  have hsz : 1 < vs.size := (Array.getElem?_eq_some_iff.mp h1).1
  have hene : e ∉ (env :: outer).filterMap (·.frame) := fun hm => by
    obtain ⟨_, o, ho, hnf⟩ := hl.mem hm
    rw [he] at ho; injection ho with ho; subst ho; exact hnf vs hd
  refine wpAny_bind (wpAny_frameOf_fun hfr hl hf fun h₁ hs₁ => ?_)
  refine wpAny_bind (wpAny_entryPlaceOf fun pl hpl => ?_)
  unfold EntryCells.newEntry newFields
  refine wpAny_bind (wpAny_newObj_type ?_ (hpl.sizeOk5 _ _ _ _ _))
  have he₁ : h₁.get? e = some oe := (hs₁.2.1 e hene).trans he
  have kb₁ : B.StaysIn h₁ := fun b o hbo => (hs₁.2.1 b fun hm => by rw [(hl.mem hm).1] at hbo; cases hbo).trans (hkb b o hbo)
  generalize hO : ({ cls := .type "traceback", dict := none, data := .fields ([Value.none, .ref L, .none, rawInt L, .none] ++ (if pl.isEmpty then List.replicate 6 Value.none else pl)).toArray } : Obj) = OT
  have hOd : ∃ ts, OT.data = .fields ts ∧ 3 < ts.size := ⟨_, by rw [← hO], by simp⟩
  have hOf : OT.isFreed = false := by rw [← hO]; rfl
  have he₂ := Heap.get?_push_of_some (h := h₁) OT he₁
  refine wpAny_setField he₂ hd hsz ?_
  have hTe : h₁.objs.size ≠ e := Nat.ne_of_gt (Heap.lt_size he₁)
  have hd₃ := Obj.data_mapFields hd (·.setIfInBounds 1 (Value.ref h₁.objs.size))
  have he₃ := Heap.get?_update_self (Obj.mapFields (·.setIfInBounds 1 (Value.ref h₁.objs.size))) he₂ (Obj.isFreed_of_fields hd₃)
  have keep : ∀ b o, b ≠ e → h₁.get? b = some o → ((h₁.push OT).update e (Obj.mapFields (·.setIfInBounds 1 (Value.ref h₁.objs.size)))).get? b = some o := fun b o hbe hb => by
    rw [Heap.get?_update_other _ _ (Ne.symm hbe)]
    exact Heap.get?_push_of_some _ hb
  have noRecord : ∀ b o, s.heap.get? b = some o → (∀ vs, o.data ≠ .fields vs) → b ≠ e := fun b o hb hnf q => by
    rw [q, he] at hb; injection hb with hb; subst hb; exact hnf vs hd
  obtain ⟨ts, hts, ht3⟩ := hOd
  refine h h₁.objs.size _ ⟨fun b o hbo => keep b o (fun q => by rw [q, hen] at hbo; cases hbo) (kb₁ b o hbo), hl.of_keeps fun b o hb hnf => ?_, ⟨_, _, he₃, (Obj.cls_mapFields _ _).trans hc, hd₃, by simp [hsz], ?_⟩, hen, kb₁.fresh, hTe,
    ⟨OT, ts, (Heap.get?_update_other _ _ (Ne.symm hTe)).trans (Heap.get?_push_size h₁ hOf), hts, ht3⟩⟩ fun b o hb hnf => ?_
  · obtain ⟨sl, hs⟩ := hs₁.2.2 b o hb
    exact ⟨_, keep b _ (noRecord b o hb hnf) hs, rfl⟩
  · rw [Array.getElem?_setIfInBounds_ne (by decide)]; exact h2
  · obtain ⟨sl, hs⟩ := hs₁.2.2 b o hb
    exact ⟨sl, keep b _ (noRecord b o hb hnf) hs⟩
theorem flight_none {B : Heap} {l : List Env} {e T : Addr} {cls : String} {Q : Unit → Shared → Prop} (x : Held3 B l e T cls s.heap)
    (h : ∀ h', Held3 B l e T cls h' → s.heap.UpToSlots h' → Q () { s with heap := h' }) : wpAny M A (setFlight (.ref e) none) Q E s := by
  obtain ⟨oe, vs, he, hc, hd, h1, h2⟩ := x.exc
  obtain ⟨oT, ts, hT, hdT, h3⟩ := x.tb
  have other : ∀ b, b ≠ T → (s.heap.update T (Obj.mapFields (·.setIfInBounds 3 ((none : Option Addr).elim Value.none fun f => rawInt f)))).get? b = s.heap.get? b :=
    fun b hb => Heap.get?_update_other _ _ (Ne.symm hb)
  have noRecord : ∀ b o, s.heap.get? b = some o → (∀ vs, o.data ≠ .fields vs) → b ≠ T := fun b o hb hnf q => by
    rw [q, hT] at hb; injection hb with hb; subst hb; exact hnf ts hdT
  unfold setFlight
  refine wpAny_bind (wpAny_field he hd h1 ?_)
  rw [if_pos (show (Value.ref T != Value.none) = true from by simp)]
  refine wpAny_setField hT hdT h3 (h _ ⟨fun b o hbo => (other b fun q => by rw [q, x.newT] at hbo; cases hbo).trans (x.stays b o hbo), x.frames.of_keeps fun b o hb hnf => ⟨o, (other b (noRecord b o hb hnf)).trans hb, rfl⟩,
    ⟨oe, vs, (other e (Ne.symm x.ne)).trans he, hc, hd, h1, h2⟩, x.newE, x.newT, x.ne, ⟨_, _, Heap.get?_update_self _ hT (Obj.isFreed_of_fields (Obj.data_mapFields hdT _)), Obj.data_mapFields hdT _, by simp [h3]⟩⟩
    fun b o hb hnf => ⟨o.slots, (other b (noRecord b o hb hnf)).trans hb⟩)
end
namespace UC
theorem entry : entryFor table "proto.unchain" = some Builtin.«proto.unchain» := by first | exact entryFor_of_tree (by kernel_rfl) | exact entryFor_of_fast (by kernel_rfl)
theorem plain : plainId "proto.unchain" = true := by decide +kernel
end UC
section
variable {prog : Program} {w : World} {A : Around} {E : Value → Shared → Prop} {s : Shared} {env : Env}
theorem unchain_none {v : Value} {e : Addr} {oe : Obj} {vs : Array Value} {Q : Value → Shared → Prop} (he : s.heap.get? e = some oe) (hd : oe.data = .fields vs) (h2 : vs[2]? = some .none) (h : Q .none s) :
    wpAny (model prog w) A (runValue (.builtin "proto.unchain" ⟨[v, .ref e, .ref e, .bool false], []⟩)) Q E s := by
  refine wpAny_runValue (codeAny_builtin UC.entry ?_)
  rw [Around.under_plainId UC.plain _]
  unfold Builtin.«proto.unchain»
  dsimp only
  refine wpAny_bind (wpAny_field he hd h2 ?_)
  refine bm_if_true (by decide) ?_
  exact wpAny_pure h
theorem raise_held {cls : String} (FX : ExcRaiseFacts cls) {e : Addr} {x : Sem Value} {Q : Flow → Shared → Prop} (hh : A.handled = some (.ref e))
    (h : wpAny (model prog w) A x (fun v s₁ => ∃ e' t oe vs, v = .ref e' ∧ e' ≠ e ∧ s₁.heap.get? e' = some { cls := .type cls, data := .fields #[.ref t, .none, .none, .none, .bool false, .none] } ∧ s₁.heap.get? e = some oe ∧ oe.data = .fields vs ∧ vs[2]? = some .none ∧
      E (.ref e') { s₁ with heap := s₁.heap.update e' (Obj.mapFields (·.setIfInBounds 2 (.ref e))) }) E s) :
    wpAny (model prog w) A (raiseStmt env (some x) none) Q E s := by
  unfold raiseStmt
  refine wpAny_bind (wpAny_mono h (fun v s₁ h₁ => ?_) fun _ _ x => x)
  obtain ⟨e', t, oe, vs, rfl, hne, he, hoe, hod, ho2, hE⟩ := h₁
  obtain ⟨hp, g, d, tk, os⟩ := s₁
  have hsub := FX.isExc
  have hmeta := FX.plainMeta
  repeat (first | refine wpAny_loadPart he ?_ | wp_step)
  unfold raiseNew
  refine wpAny_bind (wpAny_handled ?_)
  rw [hh]
  show wpAny _ _ (if (Value.ref e != Value.ref e') = true then _ else _) _ _ _
  refine bm_if_true (by simpa using fun q => hne q.symm) ?_
  refine wpAny_bind (wpAny_holding (unchain_none hoe hod ho2 ?_))
  refine wpAny_bind ?_
  unfold updateField
  refine wpAny_bind (wpAny_load he ?_)
  show wpAny _ _ (if 2 < 6 then _ else _) _ _ _
  rw [if_pos (by decide)]
  exact wpAny_update he (wpAny_throw hE)
end
section
variable {prog : Program} {w : World} {A₀ : Around} {E : Value → Shared → Prop} {s' : Shared} {base g h : Heap} {outer : List Env} {L a e : Addr} {m : Str → Option Value} {name : Str} {scope : Scope} {cd : Value}
  {pos np : Pos} {Q : Flow → Shared → Prop} {KF : Frag} {p : Program} {loose : List Str} {mean : ExcName → Option Value} {mg mb : Str → Option Value}

abbrev hidB (h : Heap) (l : List Env) : Heap := hideAll h (l.filterMap (·.frame))

theorem hid_facts (K : Below A₀ base outer g) (F : Fr g L h m) (hk : scope.kind = .function) :
    base.StaysIn (hidB h (envOf name scope L a cd :: outer)) ∧ h.FunFrames (hidB h (envOf name scope L a cd :: outer)) (envOf name scope L a cd :: outer) ∧ (hidB h (envOf name scope L a cd :: outer)).StaysIn h := by
  have K' := K.push (name := name) (a := a) (cd := cd) F hk
  refine ⟨fun b o q => hideAll_get _ (K'.stays b o q) fun hm => ?_, funFrames_hide K'.frames fun env he b hb => List.mem_filterMap.mpr ⟨env, he, hb⟩, fun b o q => of_hideAll _ q⟩
  rw [(K'.frames.mem hm).1] at q; cases q

theorem caught_ue {x : Str} {b₀ : Stmt} {suite : List Stmt} {rest : List ExceptHandler} (hx3 : NewExc3 h s'.heap e "UnicodeEncodeError") (K : Below A₀ base outer g) (F : Fr g L h m) (XB : KF.In base) (TB : Top p loose mean mg mb base)
    (ex : nsIn KF mainGlobals x = some none) (hv : bootBuiltins x = some (.type "UnicodeEncodeError")) (hn' : x ≠ "__name__")
    (k : ∀ T h' g', Held3 (hidB h (envOf name scope L a cd :: outer)) (envOf name scope L a cd :: outer) e T "UnicodeEncodeError" h' → h.UpToSlots h' → Fr g' L h' m → Below A₀ base outer g' →
      wpAny (model prog w) ((A₀.deeper (envOf name scope L a cd)).mark (some (.ref e))) (execs (b₀ :: suite) (envOf name scope L a cd)) Q E { s' with heap := h' })
    (hk : scope.kind = .function) (hxk : (envOf name scope L a cd).kindOf x = some .globalImplicit) (hdb : (x == ("__debug__" : Str)) = false)
    (hE : PassesOwnAt (model prog w) ((A₀.deeper (envOf name scope L a cd)).mark (some (.ref e))) (A₀.deeper (envOf name scope L a cd)) (envOf name scope L a cd) E) :
    wpAny (model prog w) (A₀.deeper (envOf name scope L a cd)) (noteFrame (.ref e) (envOf name scope L a cd))
      (fun _ s₂ => wpAny (model prog w) (A₀.deeper (envOf name scope L a cd)) (setFlight (.ref e) none) (fun _ s₃ =>
        wpAny (model prog w) (A₀.deeper (envOf name scope L a cd)) (handleBy (.ref e) (envOf name scope L a cd) (.ExceptHandler (some (.Name x np)) none (b₀ :: suite) pos :: rest)) Q E s₃) E s₂) E s' := by
  obtain ⟨hb1, hb2, hb3⟩ := hid_facts (name := name) (a := a) (cd := cd) K F hk
  obtain ⟨ob, vs, he, hcls, hd, h1, h2⟩ := hx3.there
  have hBG : ∀ b o, h.get? b = some o → b ∉ (envOf name scope L a cd :: outer).filterMap (·.frame) → (hidB h (envOf name scope L a cd :: outer)).get? b = some o := fun b o q nm => hideAll_get _ q nm
  have hen : (hidB h (envOf name scope L a cd :: outer)).get? e = none := by
    cases q : (hidB h (envOf name scope L a cd :: outer)).get? e with
    | none => rfl
    | some o => have := of_hideAll _ q; rw [hx3.new] at this; cases this
  have up0 : h.UpToSlots s'.heap := Heap.UpToSlots.of_keeps hx3.keeps
  refine note_first (Around.frames_deeper K.stack) (hb2.of_keeps fun b o hb _ => ⟨o, hx3.keeps b o hb, rfl⟩) rfl he hcls (fun b o q => hx3.keeps b o (hb3 b o q)) hen hd h1 h2 fun T h₄ H4 up4 => ?_
  refine flight_none H4 fun h₅ H5 up5 => ?_
  have up45 := (up0.trans up4).trans up5
  obtain ⟨g₅, T₅, F₅, K₅⟩ := kts_ground K F hBG H5.stays up45
  have X₅ : KF.In g₅ := XB.keeps K₅.stays
  have P₅ : TopRead p loose mg mb g₅ := topRead_of (TB.keeps K₅.stays)
  refine wpAny_handleBy_builtin (X := "UnicodeEncodeError") (T := "UnicodeEncodeError") (b := true) UE.isExc UE.notTuple UE.self (name_B F₅ X₅ P₅ ex hv hn' ⟨rfl, H5.typeIs (s := { s' with heap := h₅ }), ?_⟩ hk hxk hdb)
  refine flight_none (s := { s' with heap := h₅ }) H5 fun h₆ H6 up6 => ?_
  have up46 := up45.trans up6
  obtain ⟨g₆, T₆, F₆, K₆⟩ := kts_ground K F hBG H6.stays up46
  exact wpAny_passesOwnAt hE (k T h₆ g₆ H6 up46 F₆ K₆)
end
end Mine
end

section
open PySem PySem.W PyProof.Rows
set_option Elab.async false
set_option maxRecDepth 100000
namespace Mine
open PySem.Spec PySem.Calls
/-- the new exception v, raised where e was held: e is its context, and it has no traceback yet -/
structure Fresh3 (B : Heap) (l : List Env) (v : Addr) (h : Heap) : Prop where
  stays : B.StaysIn h
  frames : h.FunFrames B l
  new : B.get? v = none
  there : ∃ ob vs a0, h.get? v = some ob ∧ ob.cls = .type "ValueError" ∧ ob.data = .fields vs ∧ vs[1]? = some .none ∧ vs[0]? = some a0
section
variable {prog : Program} {w : World} {A A₀ : Around} {E : Value → Shared → Prop} {s s' : Shared} {base g h B : Heap} {outer l : List Env} {L a e T : Addr} {m : Str → Option Value} {name : Str} {scope : Scope} {cd : Value}
  {pos np cp cpos : Pos} {Q : Flow → Shared → Prop} {news : List (Addr × Obj)} {KF : Frag} {p : Program} {loose : List Str} {mean : ExcName → Option Value} {mg mb : Str → Option Value}

theorem raise_value {x msg : Str} (H : Held3 B l e T "UnicodeEncodeError" s.heap) (Fx : Fr g L s.heap m) (X : KF.In g) (P : TopRead p loose mg mb g) (ex : nsIn KF mainGlobals x = some none) (hv : bootBuiltins x = some (.type "ValueError")) (hn' : x ≠ "__name__")
    (hm : msg.length ≤ sizeLine) (hh : A.handled = some (.ref e))
    (k : ∀ h' tk v, Fresh3 B l v h' → s.heap.UpToSlots h' → E (.ref v) { s with heap := h', toks := tk })
    (hk : scope.kind = .function) (hxk : (envOf name scope L a cd).kindOf x = some .globalImplicit) (hdb : (x == ("__debug__" : Str)) = false) :
    wpAny (model prog w) A (execs [Stmt.Raise (some (Expr.Call (Expr.Name x np) [Expr.Constant (Const.str msg) 0 cp] [] cpos)) none pos] (envOf name scope L a cd)) Q E s := by
  rw [execs_cons]
  refine wpAny_bind ?_
  rw [arm_exec_Raise]
  refine wpAny_bind (wpAny_standAt ?_)
  refine raise_held F.excRaise_ValueError hh ?_
  refine wpAny_bind ?_
  refine wpAny_mono (Q := fun v s₁ => ∃ e' t oe vs, v = Value.ref e' ∧ e' ≠ e ∧ s₁.heap.get? e' = some { cls := .type "ValueError", data := .fields #[.ref t, .none, .none, .none, .bool false, .none] } ∧ s₁.heap.get? e = some oe ∧ oe.data = .fields vs ∧ vs[2]? = some .none ∧
      E (.ref e') { s₁ with heap := s₁.heap.update e' (Obj.mapFields (·.setIfInBounds 2 (.ref e))) }) ?_ (fun v s₁ h₁ => wpAny_bind (wpAny_standAt (wpAny_pure h₁))) fun _ _ e => e
  refine wpAny_Call_ofName (name_B Fx X P ex hv hn' ?_ hk hxk hdb)
  refine callWith_excType rfl ?_
  show wpAny _ _ (evalArgs (.type "ValueError") true [(false, eval (Expr.Constant (Const.str msg) 0 cp) (envOf name scope L a cd))] []) _ _ _
  refine evalArgs_plain (spliced_cons (Constant_str (spliced_nil ?_)))
  refine wpAny_call_exc F.excCall_ValueError (hrest := by show (1 : Nat) ≤ _; decide) fun h' v hv3 => ?_
  obtain ⟨t, ht, htn, htt⟩ := hv3.there
  have hb : B.get? v = none := by
    cases q : B.get? v with
    | none => rfl
    | some o =>
      have h1 := H.stays v o q
      have h2 := hv3.new
      rw [h1] at h2; cases h2
  have hve : v ≠ e := fun q => by
    obtain ⟨oe, vs, he, _⟩ := H.exc
    have h2 := hv3.new
    rw [q, he] at h2; cases h2
  have H' := H.keeps hv3.keeps
  obtain ⟨oe, vs, he, hce, hde, hd1, hd2⟩ := H'.exc
  have hvo : ∀ b, b ≠ v → (h'.update v (Obj.mapFields (·.setIfInBounds 2 (Value.ref e)))).get? b = h'.get? b := fun b hb => Heap.get?_update_other _ _ (Ne.symm hb)
  have nr : ∀ b o, h'.get? b = some o → (∀ vs, o.data ≠ .fields vs) → b ≠ v := fun b o hb hnf q => by
    rw [q, ht] at hb; injection hb with hb; subst hb; exact hnf _ rfl
  refine ⟨v, t, oe, vs, rfl, hve, ht, he, hde, hd2, k _ _ v ⟨fun b o q => (hvo b fun z => by rw [z, hb] at q; cases q).trans (H'.stays b o q), H'.frames.of_keeps fun b o q hnf => ⟨o, (hvo b (nr b o q hnf)).trans q, rfl⟩, hb,
    ⟨_, _, .ref t, Heap.get?_update_self _ ht rfl, rfl, rfl, rfl, rfl⟩⟩ fun b o q hnf => ?_⟩
  have q' := hv3.keeps b o q
  exact ⟨o.slots, (hvo b (nr b o q' hnf)).trans q'⟩

/-- out of the frame, with the new exception v -/
theorem leave_fresh (K : Below A₀ base outer g) (F : Fr g L h m) (N : News g L h news) (hx : Fresh3 (hidB h (envOf name scope L a cd :: outer)) (envOf name scope L a cd :: outer) e s'.heap) (up : h.UpToSlots s'.heap)
    {Q : Unit → Shared → Prop} (hQ : ∀ h', RaisedSN base g outer e (.type "ValueError") news h' → g.UpToSlots h' → Q () { s' with heap := h' }) (hk : scope.kind = .function) :
    wpAny (model prog w) (A₀.deeper (envOf name scope L a cd)) (leaving (envOf name scope L a cd) (.ref e)) Q E s' := by
  obtain ⟨hb1, hb2, hb3⟩ := hid_facts (name := name) (a := a) (cd := cd) K F hk
  have sg : ∀ b o, g.get? b = some o → b ∉ outer.filterMap (·.frame) → (hidB h (envOf name scope L a cd :: outer)).get? b = some o := fun b o q nm => hideAll_get _ (F.keep b o q) fun hm => by
    rcases kts_mem hm with z | z
    · rw [z, kts_self F] at q
      cases q
    · exact nm z
  have hl : ∀ q ∈ news, (hidB h (envOf name scope L a cd :: outer)).get? q.1 = some q.2 ∧ g.get? q.1 = none ∧ base.get? q.1 = none := fun q hq => by
    refine ⟨hideAll_get _ (N q hq).1 fun hm => ?_, (N q hq).2.2, fresh_of_stays K.stays (N q hq).2.2⟩
    obtain ⟨env, he, hf⟩ := List.mem_filterMap.mp hm
    rcases List.mem_cons.mp he with rfl | he
    · exact (N q hq).2.1 (Option.some.inj hf).symm
    · obtain ⟨o, ho, _⟩ := (K.frames.mem (List.mem_filterMap.mpr ⟨env, he, hf⟩)).2
      rw [(N q hq).2.2] at ho; cases ho
  obtain ⟨ob, vs, a0, he, hcls, hd, h1, h0⟩ := hx.there
  refine wpAny_leaving_firstW (Around.frames_deeper K.stack) hx.frames rfl he hx.stays hx.new hd h1 h0 fun h' hL => ?_
  obtain ⟨k1, ⟨_, _, k2⟩, k3, k4⟩ := hL
  exact hQ h' ⟨_, a0, hb1, sg, hl, k1, hx.new, k2, by rw [← hcls]; exact k3⟩ (((Heap.UpToSlots.of_keeps F.keep).trans up).trans k4)
end
end Mine
end

section
open PySem PySem.W PyProof.Rows PySem.Spec PySem.Calls
namespace Mine
local macro_rules | `(tactic| walk_at "compareOp In bytes bytes") => `(tactic| (k_here; (with_reducible show wpAny _ _ (compareOp CmpOp.In (Value.bytes _ _) (Value.bytes _ _)) _ _ _); k_dflt (refine' in_bytes2K ?F ?N ?h ?_; (case F => k_asm); (case N => k_asm); (case h => with_unfolding_all rfl); k_whole); intro h' tk' F' N'))
local macro_rules | `(tactic| walk_at "compareOp LtE bytes bytes") => `(tactic| (k_here; (with_reducible show wpAny _ _ (compareOp CmpOp.LtE (Value.bytes _ _) (Value.bytes _ _)) _ _ _); k_dflt (refine' le_bytes1n ?x ?y ?_; (case x => first | exact u8_48 | exact u8_97 | exact u8_65 | exact u8_32 | exact rfl); (case y => first | exact u8_57 | exact u8_102 | exact u8_70 | exact u8_126 | exact rfl); k_whole)))
local macro_rules | `(tactic| walk_at "pyIter bytes") => `(tactic| ((with_reducible show wpAny _ _ (pyIter (Value.bytes (List.toArray [_, _]) _)) (fun it s₂ => LoopAtV _ _ _ _ _ _ _ _ _ it s₂) _ _); k_here; ((rename Fr _ _ _ _ => lF'); (rename News _ _ _ _ => lN'); (with_unfolding_all refine iter_bytesUnr (by rfl) lF' lN' (ints_two _ _) ?_); clear lF' lN'; intro i' l1)))
local macro_rules | `(tactic| walk_at "UnrEnd") => `(tactic| (refine' unr_end ?a ?b ?c ?d ?_; (case a => assumption); (case b => assumption); (case c => assumption); (case d => kcj_all)))
local macro_rules | `(tactic| walk_at "call builtin:ord") => `(tactic| (k_here; (with_reducible show wpAny _ _ (call (Value.builtin _) [Value.bytes _ _]) _ _ _); k_dflt (refine' ord_bytes ?_; k_whole)))
local macro_rules | `(tactic| walk_at "call builtin:len") => `(tactic| (k_here; (with_reducible show wpAny _ _ (call (Value.builtin "len") [Value.bytes (List.toArray [_]) _]) _ _ _); k_dflt (refine' len_one ?_; k_whole)))
local macro_rules | `(tactic| walk_at "call type:bytes") => `(tactic| (k_here; (with_reducible show wpAny _ _ (call (Value.type _) [Value.ref _]) _ _ _); k_dflt (first
  | (refine' bytes_tupK ?F ?N ?l ?o ?i ?r ?z ?h ?_; (case F => k_asm); (case N => k_asm); (case l => k_mem); (case o => exact ⟨rfl, _, rfl⟩); (case i => first | l_ints | l_intsW); (case r => first | exact hexI_two _ _ | exact byte_one | by_in); (case z => (simp only [sizeLine_eq, List.length_cons, List.length_nil]; decide)); (case h => with_unfolding_all rfl); k_whole)
  | (refine' bytes_lstK ?F ?N ?l ?i ?r ?z ?h ?_; (case F => k_asm); (case N => k_asm); (case l => is_list); (case i => first | l_ints | l_intsW); (case r => first | exact hexI_three _ _ | exact one_in (by assumption) | by_in); (case z => (simp only [sizeLine_eq, List.length_cons, List.length_nil]; decide)); (case h => with_unfolding_all rfl); k_whole)); intro h' t' k' F' N'; (try dsimp only [List.map]); (try simp only [byte_same]); (try k_sweep)))
local macro_rules | `(tactic| walk_at "subscriptTail") => `(tactic| (k_here; (with_reducible show wpAny _ _ (subscriptTail _ _ (Value.bytes #[48, _, _, _, _, _, _, _, _, _, _, _, _, _, _, _] _) (Value.int _ _)) _ _ _); k_dflt (refine' hex_item ?i ?_; (case i => first | exact div16 | exact mod16 | exact div16i (by assumption)); k_whole)))
local macro_rules | `(tactic| walk_at "ite") => `(tactic| (k_here; k_openite; first
  | (refine ite_pos (decide_eq_true (by omega)) ?_)
  | (refine ite_neg (ne_true_of_eq_false (decide_eq_false (by omega))) ?_)
  | (refine ite_pos (by simp only [beq_iff_eq, bne_iff_ne, ne_eq]; omega) ?_)
  | (refine ite_neg (by simp only [beq_iff_eq, bne_iff_ne, ne_eq]; omega) ?_)))

section
set_option Elab.async false
section
local macro_rules | `(tactic| walk_at "call builtin:str.encode") => `(tactic| (k_here; (show wpAny _ _ (call (Value.builtin _) [Value.str _ _, Value.str _ _]) _ _ _); k_dflt (first
  | (refine' call_encode_ok ?x ?z ?_; (case x => assumption); (case z => assumption); k_whole; intro t' k')
  | (refine' call_encode_bad ?x ?z ?h ?_; (case x => assumption); (case z => assumption); (case h => with_unfolding_all rfl); k_whole; intro h' tk' e' X'))))
local macro_rules | `(tactic| walk_at "getMethod str") => `(tactic| (k_here; with_reducible refine gm_encode ?_))
set_option maxRecDepth 100000 in
set_option maxHeartbeats 8000000 in
theorem sp_dec_ok (w : World) (x : Str) (hx : ∀ c ∈ x.cps.toList, c < 128) (hz : x.length ≤ 1048576) (t : Tok) (news : List (Addr × Obj)) : MC w 22 news [.str x t] 1 8 (fun r => ∃ t', r = .bytes (asciiB x) t') := by
  w_on
  unfold MC
  k_fill
  intros
  rename_i hret
  refine wpAny_call ?_
  k_dflt cell_enter
  k_steps
  all_goals (refine hret _ _ _ ⟨_, rfl⟩ (by assumption) (by (first | assumption | (refine' cb_drop ?cbN ?cbS; (case cbN => assumption); (case cbS => kcj_all)))))
set_option maxRecDepth 100000 in
set_option maxHeartbeats 8000000 in
theorem sp_dec_bad (w : World) (x : Str) (hx : ∃ c ∈ x.cps.toList, 128 ≤ c) (hz : x.length ≤ 1048576) (t : Tok) (news : List (Addr × Obj)) : MCR w 22 news [.str x t] 1 8 := by
  w_on
  unfold MCR
  k_fill
  intros
  rename_i XB TB _ _ _ hret
  refine wpAny_call ?_
  k_dflt cell_enter
  k_steps
  rename_i X3
  refine caught_ue X3 (by assumption) (by assumption) XB TB ?ex ?hv (by decide) ?k rfl rfl (by decide) ?hE
  case ex => k_is
  case hv => exact UE.boot
  case hE => passes_own
  case k =>
    intro T h6 g6 H6 up6 F6 K6
    refine raise_value (s := ⟨_, _, _, _, _⟩) H6 F6 (XB.keeps K6.stays) (topRead_of (TB.keeps K6.stays)) ?ex ?hv (by decide) (by decide +kernel) rfl ?k rfl rfl (by decide)
    case ex => k_is
    case hv => exact PyProof.Rows.Boot.«ValueError»
    case k =>
      intro h7 tk7 v7 V7 up7
      clear K6 F6
      k_unfold
      refine leave_fresh (s' := ⟨_, _, _, _, _⟩) (by assumption) (by assumption) (by assumption) V7 (up6.trans up7) ?_ rfl
      intro h8 R8 U8
      exact hret _ _ _ _ (by assumption) R8 U8
end
end

section
set_option Elab.async false
set_option maxRecDepth 100000
section
section
variable {prog : Program} {w : World} {A : Around} {E : Value → Shared → Prop} {s : Shared}
theorem type_of_bytes {b : Array UInt8} {t : Tok} {Q : Value → Shared → Prop} (hq : Q (.type "bytes") s) : wpAny (model prog w) A (PySem.call (.type "type") [.bytes b t]) Q E s := by
  have hT := typeIs_bytes s b t
  refine wpAny_call (codeAny_of_tree ?_)
  show wpAny _ _ (callAny (.type "type") _) _ _ _
  refine wpAny_pure ⟨Code.quiet_builtin _ (by decide +kernel), codeAny_builtin F.entry_type_call ?_⟩
  rw [Around.under_plain (weight_type_call_type "type" [.bytes b t] []) rfl]
  repeat (any_goals (first | assumption | wp_step))
theorem is_type_self {T : String} {Q : Value → Shared → Prop} (hq : Q (.bool true) s) : wpAny (model prog w) A (compareOp .Is (.type T) (.type T)) Q E s := by
  show wpAny _ _ (isSame (.type T) (.type T) >>= fun r => pure (Value.bool r)) _ _ _
  refine wpAny_bind (wpAny_of_eq (a := true) ?_ (wpAny_pure hq))
  show (pure (Value.type T == Value.type T) : Sem Bool) = pure true
  simp
theorem isnot_type_self {T : String} {Q : Value → Shared → Prop} (hq : Q (.bool false) s) : wpAny (model prog w) A (compareOp .IsNot (.type T) (.type T)) Q E s := by
  show wpAny _ _ (isSame (.type T) (.type T) >>= fun r => pure (Value.bool !r)) _ _ _
  refine wpAny_bind (wpAny_of_eq (a := true) ?_ (wpAny_pure hq))
  show (pure (Value.type T == Value.type T) : Sem Bool) = pure true
  simp
end
end
end

section
set_option Elab.async false
section
local macro_rules | `(tactic| walk_at "call type:type") => `(tactic| (k_here; (with_reducible show wpAny _ _ (call (Value.type "type") [Value.bytes _ _]) _ _ _); refine type_of_bytes ?_))
local macro_rules | `(tactic| walk_at "call type:type") => `(tactic| (k_here; (with_reducible show wpAny _ _ (call (Value.type "type") [Value.ref _]) _ _ _); k_dflt (refine' kto_cont (T := "ValueError") ?c ?n ?_; (case c => (refine' kitAt_N ?N ?m ?c; (case N => k_asm); (case m => k_mem); (case c => assumption))); (case n => decide +kernel); k_whole)))
local macro_rules | `(tactic| walk_at "compareOp Is") => `(tactic| (k_here; (with_reducible show wpAny _ _ (compareOp CmpOp.Is (Value.type _) (Value.type _)) _ _ _); k_dflt (refine is_type_self ?_)))
local macro_rules | `(tactic| walk_at "compareOp IsNot") => `(tactic| (k_here; (with_reducible show wpAny _ _ (compareOp CmpOp.IsNot (Value.type _) (Value.type _)) _ _ _); k_dflt (refine isnot_type_self ?_)))
local macro_rules | `(tactic| walk_at "call ref") => `(tactic| (k_here; (show wpAny _ _ (call (Value.ref 22) [Value.str _ _]) _ _ _); k_dflt (refine' mc_use (sp_dec_ok _ _ ?hx ?hz _ _) ?k1 ?k2 ?k3 ?k4 ?k5 ?kK ?kd ?ku ?_; (case hx => assumption); (case hz => assumption); (case k1 => k_asm); (case k2 => k_asm); (case k3 => k_asm); (case k4 => k_asm); (case k5 => k_asm); (case kK => first | exact rfl | assumption); (case kd => ktr_room); (case ku => ktr_units); k_whole; intro r9 h9 tk9 R9 F9 N9; obtain ⟨t9, R9⟩ := R9; subst R9; (try dsimp only); (try k_fold))))
local macro_rules | `(tactic| walk_at "call ref") => `(tactic| (k_here; (show wpAny _ _ (call (Value.ref 22) [Value.str _ _]) _ _ _); k_dflt (refine' mcr_use (sp_dec_bad _ _ ?hx ?hz _ _) ?k1 ?k2 ?k3 ?k4 ?k5 ?kX ?kT ?kK ?kd ?ku ?_; (case hx => assumption); (case hz => assumption); (case k1 => k_asm); (case k2 => k_asm); (case k3 => k_asm); (case k4 => k_asm); (case k5 => k_asm); (case kX => assumption); (case kT => assumption); (case kK => first | exact rfl | assumption); (case kd => ktr_room); (case ku => ktr_units); k_whole; intro g9 e9 h9 tk9 F9 R9 U9; (try dsimp only); (try k_fold))))
set_option maxRecDepth 100000 in
set_option maxHeartbeats 8000000 in
theorem sp_door_ok (w : World) (x : Str) (hx : ∀ c ∈ x.cps.toList, c < 128) (hz : x.length ≤ 1048576) (t t2 : Tok) (b : Array UInt8) (hb : asciiB x = b) (news : List (Addr × Obj)) : MC w 64 news [.str x t, .bytes b t2, .bool true] 2 12 (fun r => r = .bool true) := by
  subst hb
  w_on
  unfold MC
  k_fill
  intros
  rename_i hret
  refine wpAny_call ?_
  k_dflt cell_enter
  k_steps
  all_goals (refine hret _ _ _ (by simp) (by assumption) (by (first | assumption | (refine' cb_drop ?cbN ?cbS; (case cbN => assumption); (case cbS => kcj_all)))))
local macro_rules | `(tactic| walk_at "noteFrame ref") => `(tactic| (k_here; k_dflt (refine' caught_named (T' := "ValueError") ?R ?F ?K ?U ?XB ?TB ?D ?T0 ?ex PyProof.Rows.Boot.«ValueError» ?hn PySem.F.isExc_ValueError PySem.F.notTuple_ValueError ?hs ?_; (case R => assumption); (case F => assumption); (case K => assumption); (case U => assumption); (case XB => assumption); (case TB => assumption); (case D => assumption); (case T0 => first | assumption | exact KtsTurn.refl); (case hs => kts_sub); (case ex => k_is); (case hn => decide); k_whole); intro h' g' tk' oe' ce' T' F' N' K' X' P' D'; (try k_lift K'); (try k_sweep)))
set_option maxRecDepth 100000 in
set_option maxHeartbeats 8000000 in
theorem sp_door_bad (w : World) (x : Str) (hx : ∃ c ∈ x.cps.toList, 128 ≤ c) (hz : x.length ≤ 1048576) (t t2 : Tok) (b : Array UInt8) (news : List (Addr × Obj)) : MCS w 64 news [.str x t, .bytes b t2, .bool false] 2 12 (fun r => r = .bool true) := by
  w_on
  unfold MCS
  k_fill
  intros
  rename_i hret
  refine wpAny_call ?_
  k_dflt (refine' code_defS ?k1 ?k2 ?k3 ?k4 ?k5 ?XB ?TB ?D ?T0 ?kA ?k6 ?k7 ?k8 ?k9 ?kB ?_ ?cK ?c2 ?c3 ?c4 ?c5; (case kA => exact rfl); (case k2 => k_asm); (case k1 => k_asm); (case XB => assumption); (case TB => assumption); (case D => assumption); (case T0 => assumption); (case k3 => k_asm); (case k4 => k_asm); (case k5 => k_asm); (case k6 => k_is); (case k7 => k_is); (case k8 => ktr_room); (case k9 => exact BindsTo.of_eq rfl); (case kB => exact locs rfl); (case cK => assumption); (case c2 => exact rfl); (case c3 => exact rfl); (case c4 => exact rfl); (case c5 => decide); k_whole; intro g' L' h' FG' F' N' B' X' T' D'; (try dsimp only); (try k_lift B'); (try k_fold))
  k_steps
  all_goals (refine hret _ _ _ _ rfl (by assumption) (by assumption) (by (first | assumption | (refine' cb_drop ?cbN ?cbS; (case cbN => assumption); (case cbS => kcj_all)))) (by assumption) (by assumption) (by assumption) (by assumption))
end
end

section
set_option Elab.async false
section
local macro_rules | `(tactic| walk_at "call builtin:str.encode") => `(tactic| (k_here; (show wpAny _ _ (call (Value.builtin _) [Value.str _ _, Value.str _ _]) _ _ _); k_dflt (first
  | (refine' call_encode_ok ?x ?z ?_; (case x => assumption); (case z => assumption); k_whole; intro t' k')
  | (refine' call_encode_bad ?x ?z ?h ?_; (case x => assumption); (case z => assumption); (case h => with_unfolding_all rfl); k_whole; intro h' tk' e' X'))))
local macro_rules | `(tactic| walk_at "getMethod str") => `(tactic| (k_here; with_reducible refine gm_encode ?_))
local macro_rules | `(tactic| walk_at "call builtin:isinstance") => `(tactic| (k_here; (with_reducible show wpAny _ _ (call _ [Value.ref _, Value.ref _]) _ _ _); k_dflt (kit_obj kitx_ba)))
local macro_rules | `(tactic| walk_at "call builtin:isinstance") => `(tactic| (k_here; (with_reducible show wpAny _ _ (call _ [Value.ref _, Value.type _]) _ _ _); k_dflt (kit_obj kitx_ba)))
set_option maxRecDepth 100000 in
set_option maxHeartbeats 8000000 in
theorem sp_dec_bytes (w : World) (b : Array UInt8) (t : Tok) (news : List (Addr × Obj)) : MC w 22 news [.bytes b t] 1 8 (fun r => r = .bytes b t) := by
  w_on
  unfold MC
  k_fill
  intros
  rename_i hret
  refine wpAny_call ?_
  k_dflt cell_enter
  k_steps
  all_goals (refine hret _ _ _ rfl (by assumption) (by (first | assumption | (refine' cb_drop ?cbN ?cbS; (case cbN => assumption); (case cbS => kcj_all)))))
set_option maxRecDepth 100000 in
set_option maxHeartbeats 8000000 in
theorem sp_dec_ba (w : World) (b : Array UInt8) (a : Addr) (n : Nat) (news : List (Addr × Obj)) : MC w 22 ((a, { cls := .type "bytearray", data := .bytearray b n }) :: news) [.ref a] 1 8 (fun r => r = .ref a) := by
  w_on
  unfold MC
  k_fill
  intros
  rename_i hret
  refine wpAny_call ?_
  k_dflt cell_enter
  k_steps
  all_goals (refine hret _ _ _ rfl (by assumption) (by (first | assumption | (refine' cb_drop ?cbN ?cbS; (case cbN => assumption); (case cbS => kcj_all)))))
end
end

section
set_option Elab.async false
set_option maxRecDepth 100000
section
open Builtin
section
variable {prog : Program} {w : World} {A : Around} {E : Value → Shared → Prop} {s : Shared}
theorem call_ba {b : Array UInt8} {t : Tok} {Q : Value → Shared → Prop} (hb : b.size ≤ sizeLine)
    (h : ∀ h', (∀ a o, s.heap.get? a = some o → h'.get? a = some o) → h'.get? s.heap.objs.size = some { cls := .type "bytearray", data := .bytearray b } → Q (.ref s.heap.objs.size) { s with heap := h' }) :
    wpR (model prog w) A (PySem.call (.type "bytearray") [.bytes b t]) Q E s := by
  refine wpR_call (codeR_of_tree rfl (wpR_of ?_))
  show wpAny _ _ (callAny (.type "bytearray") _) _ _ _
  refine wpAny_pure ⟨Code.quiet_builtin _ (by decide +kernel), codeR_builtin (by decide +kernel) F.entry_type_call ?_⟩
  unfold Builtin.«type.__call__»
  dsimp only
  rw [if_neg (by decide +kernel), if_neg (by rw [called_ba.canCreate]; decide)]
  refine wpR_bindA (wpAny_of_eq (typeCall_ba_1 _) ?_)
  refine wpR_bindA (wpAny_of_eq mro_ba ?_)
  rw [if_neg (by decide)]
  refine wpR_bindA (wpAny_of_eq called_ba.made ?_)
  (try dsimp only)
  refine wpR_bindA (wpAny_pure ?_)
  refine wpR_bindA (wpAny_holding (wpAny_call (codeAny_mono (code_ba_new _ (E := E) (Q₁ := fun obj s₁ => obj = .ref s.heap.objs.size ∧ s₁ = { s with heap := s.heap.push { cls := .type "bytearray", data := .bytearray #[] } }) ⟨rfl, rfl⟩) fun r s₁ hr => ?_)))
  cases r with
  | error e => exact hr
  | ok fl =>
    cases fl with
    | ret obj =>
      obtain ⟨rfl, rfl⟩ := hr
      have hS : (s.heap.push { cls := .type "bytearray", data := .bytearray #[] }).get? s.heap.objs.size = some { cls := .type "bytearray", data := .bytearray #[] } := Heap.get?_push_size _ rfl
      have hT : ({ s with heap := s.heap.push { cls := .type "bytearray", data := .bytearray #[] } } : Shared).TypeIs (.ref s.heap.objs.size) "bytearray" := ⟨_, hS, rfl⟩
      dsimp only
      refine wpR_bindA (wpAny_isInstance hT sub_ba_self ?_)
      rw [if_neg (by decide)]
      refine wpR_bind (wpR_holding ?_)
      unfold callSpecial?
      refine wpR_bindA (wpAny_specialOf hT slot_ba_init.lookup ?_)
      (try dsimp only)
      refine wpR_holding ?_
      refine wpR_bindA (wpAny_of_eq (slot_ba_init.bind _) ?_)
      (try dsimp only)
      refine wpR_bind (wpR_call (codeR_call_builtin (plainId_quiet slot_ba_init.plain _) (slot_ba_init.check _ _ _ _ _ _ _ _ hT (args_ba_init _ _) (codeR_builtin (by decide +kernel) entry_ba_init ?_))))
      refine init_R hS hb fun h' k g => ?_
      (try dsimp only)
      refine wpR_pure ?_
      (try dsimp only)
      rw [if_neg (by decide)]
      refine wpR_pure ?_
      exact h h' (fun a o e => k a o (fun e' => Nat.lt_irrefl _ (e' ▸ Heap.lt_size e)) (Heap.get?_push_of_some _ e)) g
    | _ => exact hr.elim
end
end
end

section
set_option Elab.async false
section
/-- a call in R, out of the law's own frame -/
abbrev MCG (w : World) (f : Addr) (news : List (Addr × Obj)) (vs : List Value) (dn un' : Nat) (Ret : Value → Prop) : Prop :=
  ∀ (mean : ExcName → Option Value) (mg mb : Str → Option Value) (dp un : Nat) (gd : Option (List Code)) (cn : Str) (cs : Scope) (a : Addr) (ccd : Value) (A₀ : Around) (base h₀ : Heap) (L : Addr) (m : Str → Option Value) (s : Shared) (Q E : Value → Shared → Prop),
    Below A₀ base [] h₀ → Fr h₀ L s.heap m → (hd1.heap_39 w.params).In h₀ → News h₀ L s.heap news → Top hd1.view_39 (looseW hd1.view_39 [Str.ofString "bytes_types"]) mean mg mb h₀ →
    (hd1.heap_39 w.params).In base → Top hd1.view_39 (looseW hd1.view_39 [Str.ofString "bytes_types"]) mean mg mb base → cs.kind = .function →
    dp + dn < recursionLimit → un + un' < cLine →
    (∀ r h' tk', Ret r → Fr h₀ L h' m → News h₀ L h' news → Q r { s with heap := h', toks := tk' }) →
      wpR (model PySem.Challenge.rw_kl0184_01.row.prog w) (ktrTop dp un gd cn cs L a ccd [] []) (call (.ref f) vs) Q E s
end
end

section
set_option Elab.async false
section
/-- how a turn of a loop in R ends -/
def TurnEnd (J : Nat → Heap → (Str → Option Value) → List (Addr × Obj) → Prop) (i : Nat) (L : Addr) (own : List (Addr × Obj)) (wr : List Addr) (s : Shared) (f : Flow) (s₃ : Shared) : Prop :=
  (f = .next ∨ f = .cont) ∧ ∃ g m news h tk, s₃ = { s with heap := h, toks := tk } ∧ J i g m news ∧ Fr g L h m ∧ News g L h (own ++ news) ∧ ∀ p ∈ news, p.1 ∉ wr
theorem own_of {g h : Heap} {L : Addr} {news : List (Addr × Obj)} : ∀ (fp : List Addr), (∀ b ∈ fp, (∃ o, h.get? b = some o) ∧ b ≠ L ∧ g.get? b = none) → ∃ own : List (Addr × Obj), own.map (·.1) = fp ∧ News g L h own
  | [], _ => ⟨[], rfl, News.nil⟩
  | b :: r, k => by
    obtain ⟨own, e, N⟩ := own_of (g := g) (h := h) (L := L) (news := news) r fun c hc => k c (.tail _ hc)
    obtain ⟨⟨o, ho⟩, h1, h2⟩ := k b (.head _)
    exact ⟨(b, o) :: own, by rw [List.map_cons, e], fun p hp => by
      rcases List.mem_cons.mp hp with rfl | hp
      · exact ⟨ho, h1, h2⟩
      · exact N p hp⟩
section
variable {prog : Program} {w : World} {A : Around} {s : Shared} {env : Env} {target : Expr} {body : List Stmt} {R : Result → Shared → Prop} {I L : Addr} {fp wr : List Addr} {n : Nat} {P : Nat → Value → Prop} {St : Nat → Heap → Prop} {T0 : Nat}
theorem loopR (W : Walks prog w A I fp wr n P St) (hex : ∀ i h, St i h → ∀ b ∈ fp, ∃ o, h.get? b = some o) (J : Nat → Heap → (Str → Option Value) → List (Addr × Obj) → Prop)
    (hgo : ∀ i v (s' : Shared), St (i + 1) s'.heap → ∀ Q : Unit → Shared → Prop, Q () s' → wpAny (model prog w) A (letOwnedTupleGo target (.ref I) v) Q (fun _ _ => False) s')
    (turn : ∀ i v g m news own h tk, i < n → P i v → own.map (·.1) = fp → (∀ p ∈ news, p.1 ∉ wr) → J i g m news → Fr g L h m → News g L h (own ++ news) → T0 ≤ tk →
      wpAny (model prog w) A (assign target env v) (fun _ s₂ => wpR (model prog w) A (execs body env) (TurnEnd J (i + 1) L own wr { s with heap := h, toks := tk }) (fun _ _ => False) s₂) (fun _ _ => False) { s with heap := h, toks := tk })
    (done : ∀ g m news h tk, J n g m news → Fr g L h m → News g L h news → T0 ≤ tk → R (.ok .next) { s with heap := h, toks := tk })
    {g : Heap} {m : Str → Option Value} {news : List (Addr × Obj)} (hst : St 0 s.heap) (F : Fr g L s.heap m) (N : News g L s.heap news) (hfp : ∀ b ∈ fp, b ≠ L ∧ g.get? b = none) (hnw : ∀ p ∈ news, p.1 ∉ wr) (hj : J 0 g m news) (hT : T0 ≤ s.toks) :
    codeR (model prog w) A (.forLoop target (.ref I) body [] env) R s := by
  let Inv : Nat → Shared → Prop := fun k s' => ∃ i g m news h tk, k = n - i ∧ i ≤ n ∧ s' = { s with heap := h, toks := tk } ∧ St i h ∧ J i g m news ∧ Fr g L h m ∧ News g L h news ∧ (∀ b ∈ fp, b ≠ L ∧ g.get? b = none) ∧ (∀ p ∈ news, p.1 ∉ wr) ∧ T0 ≤ tk
  refine codeR_forLoopT Inv (fun k s' hI => ?_) n ⟨0, g, m, news, s.heap, s.toks, rfl, Nat.zero_le _, rfl, hst, hj, F, N, hfp, hnw, hT⟩
  obtain ⟨i, g, m, news, h, tk, rfl, hi, rfl, st, hJ, F, N, own, hnw, hT⟩ := hI
  have after : ∀ h', (∀ b o, b ∉ wr → h.get? b = some o → h'.get? b = some o) → Fr g L h' m ∧ News g L h' news := fun h' k => by
    have nL : L ∉ wr := fun q => (own L (W.sub _ q)).1 rfl
    refine ⟨⟨F.ns.at' fun o e => k L o nL e, fun b o e => k b o (fun q => by rw [(own b (W.sub _ q)).2] at e; cases e) (F.keep b o e), F.above⟩, fun p hp => ⟨k _ _ (hnw p hp) (N p hp).1, (N p hp).2⟩⟩
  by_cases hlt : i < n
  · refine wpAny_with_toks (n := T0) hT (W.item i _ _ _ hlt st fun v h' tk' hP st' keep => ?_)
    intro hT'
    dsimp only
    obtain ⟨F', N'⟩ := after h' keep
    obtain ⟨ow, e, NO⟩ := own_of (g := g) (h := h') (L := L) (news := news) fp fun b hb => ⟨hex _ _ st' b hb, own b hb⟩
    refine hgo i v _ st' _ ?_
    have N₂ : News g L h' (ow ++ news) := fun p hp => (List.mem_append.mp hp).elim (NO p) (N' p)
    refine wpAny_with_toks (n := T0) hT' (wpAny_mono (turn i v g m news ow h' tk' hlt hP e hnw hJ F' N₂ hT') (fun _ s₂ h₂ hT₂ => ?_) fun _ _ x _ => x)
    refine wpR_with_toks hT₂ (wpR_mono h₂ (fun f s₃ hf hT₃ => ?_) fun _ _ x => x)
    obtain ⟨hfl, g', m', news', h₃, tk₃, rfl, hJ', F₃, N₃, hnw'⟩ := hf
    have key : ∃ k, k < n - i ∧ Inv k { s with heap := h₃, toks := tk₃ } := by
      refine ⟨n - (i + 1), by omega, i + 1, g', m', news', h₃, tk₃, rfl, hlt, rfl, ?_, hJ', F₃, (fun p hp => N₃ p (List.mem_append_right _ hp)), fun b hb => ?_, hnw', hT₃⟩
      · refine W.frame _ _ _ st' fun b hb o ho => ?_
        rw [← e] at hb
        obtain ⟨p, hp, rfl⟩ := List.mem_map.mp hb
        rw [(NO p hp).1] at ho
        cases ho
        exact (N₃ p (List.mem_append_left _ hp)).1
      · rw [← e] at hb
        obtain ⟨p, hp, rfl⟩ := List.mem_map.mp hb
        exact (N₃ p (List.mem_append_left _ hp)).2
    rcases hfl with rfl | rfl <;> exact key
  · have hin : i = n := by omega
    subst hin
    refine wpAny_with_toks (n := T0) hT (W.done _ _ _ st fun h' tk' keep => ?_)
    intro hT'
    dsimp only
    obtain ⟨F', N'⟩ := after h' keep
    exact wpR_of (wpAny_execs_nil (done g m news h' tk' hJ F' N' hT'))
end
end
end

section
set_option Elab.async false
section
section
variable {prog : Program} {w : World} {A : Around} {s : Shared} {env : Env} {target : Expr} {body : List Stmt} {R : Result → Shared → Prop} {l L : Addr} {T0 : Nat} {items : Array Value} {lo : Obj} {nn : Nat} {g : Heap} {m : Str → Option Value} {news : List (Addr × Obj)}
def isTup : Expr → Bool
  | .Tuple .. => true
  | .List .. => true
  | _ => false
theorem go_plain {v : Value} {r : Addr} {o : Obj} {vs : Array Value} {T : String} {Q : Unit → Shared → Prop} (ho : s.heap.get? r = some o) (hc : o.cls = .type T) (hd : o.data = .fields vs)
    (hT : ["enumerate", "zip", "dict_itemiterator", "dict_reverseitemiterator", "odict_iterator", "itertools.zip_longest", "itertools.pairwise"].contains T = false) (h : Q () s) :
    wpAny (model prog w) A (letOwnedTupleGo target (.ref r) v) Q (fun _ _ => False) s := by
  unfold letOwnedTupleGo
  split
  · cases v with
    | ref a =>
      refine wpAny_bind (wpAny_load ho ?_)
      rw [hc, hd]
      dsimp only
      rw [hT]
      exact wpAny_pure h
    | _ => exact wpAny_pure h
  · cases v with
    | ref a =>
      refine wpAny_bind (wpAny_load ho ?_)
      rw [hc, hd]
      dsimp only
      rw [hT]
      exact wpAny_pure h
    | _ => exact wpAny_pure h
  · exact wpAny_pure h
theorem iterR_list (hh : A.handled = none) (J : Nat → Heap → (Str → Option Value) → List (Addr × Obj) → Prop) (hl : (l, lo) ∈ news) (hlc : lo.cls = .type "list") (hld : lo.data = .seq items nn)
    (turn : ∀ I i v g m news own h tk, i < items.size → items[i]? = some v → own.map (·.1) = [I, l] → (∀ p ∈ news, p.1 ∉ [I]) → J i g m news → Fr g L h m → News g L h (own ++ news) → T0 ≤ tk →
      wpAny (model prog w) A (assign target env v) (fun _ s₂ => wpR (model prog w) A (execs body env) (TurnEnd J (i + 1) L own [I] { s with heap := h, toks := tk }) (fun _ _ => False) s₂) (fun _ _ => False) { s with heap := h, toks := tk })
    (done : ∀ g m news h tk, J items.size g m news → Fr g L h m → News g L h news → T0 ≤ tk → R (.ok .next) { s with heap := h, toks := tk })
    (F : Fr g L s.heap m) (N : News g L s.heap news) (hj : J 0 g m news) (hT : T0 ≤ s.toks) :
    wpAny (model prog w) A (pyIter (.ref l)) (fun it s₂ => codeR (model prog w) A (.forLoop target it body [] env) R s₂) (fun _ _ => False) s := by
  have hls : s.heap.IsList l items := ⟨lo, (N _ hl).1, hlc, nn, hld⟩
  refine wpAny_pyIter_list hls ?_
  have hne : l ≠ s.heap.objs.size := Nat.ne_of_lt (Heap.lt_size (N _ hl).1)
  have W := Walks.list (prog := prog) (w := w) hh s.heap.objs.size l hne items
  refine loopR (s := { s with heap := s.heap.push { cls := .type "list_iterator", data := .fields #[.ref l, .int 0 0] } }) (T0 := T0) (L := L) W (fun i h st b hb => ?_) J (fun i v s' st Q hQ => ?_)
    (fun i v g m news own h tk hi hP e hnw hJ F N hT => turn _ i v g m news own h tk hi hP e hnw hJ F N hT) done ?_ (F.push _) (fun p hp => ⟨Heap.get?_push_of_some _ (N p hp).1, (N p hp).2⟩) (fun b hb => ?_) (fun p hp hm => ?_) hj hT
  · rcases List.mem_cons.mp hb with rfl | hb
    · obtain ⟨o, ho, _⟩ := st.1; exact ⟨o, ho⟩
    · rw [List.mem_singleton.mp hb]; obtain ⟨o, ho, _⟩ := st.2; exact ⟨o, ho⟩
  · obtain ⟨o, ho, hc, hd⟩ := st.1
    exact go_plain ho hc hd (by decide +kernel) hQ
  · exact ⟨⟨_, Heap.get?_push_size _ rfl, rfl, rfl⟩, hls.at fun o e => Heap.get?_push_of_some _ e⟩
  · rcases List.mem_cons.mp hb with rfl | hb
    · exact ⟨fun e => absurd F.ns.lt (e ▸ Nat.lt_irrefl _), next_is_new F⟩
    · rw [List.mem_singleton.mp hb]; exact (N _ hl).2
  · exact absurd (Heap.lt_size (N p hp).1) ((List.mem_singleton.mp hm) ▸ Nat.lt_irrefl _)
theorem iterR_tuple (hh : A.handled = none) (J : Nat → Heap → (Str → Option Value) → List (Addr × Obj) → Prop) (hl : (l, lo) ∈ news) (hlc : lo.cls = .type "tuple") (hld : lo.data = .seq items nn)
    (turn : ∀ I i v g m news own h tk, i < items.size → items[i]? = some v → own.map (·.1) = [I, l] → (∀ p ∈ news, p.1 ∉ [I]) → J i g m news → Fr g L h m → News g L h (own ++ news) → T0 ≤ tk →
      wpAny (model prog w) A (assign target env v) (fun _ s₂ => wpR (model prog w) A (execs body env) (TurnEnd J (i + 1) L own [I] { s with heap := h, toks := tk }) (fun _ _ => False) s₂) (fun _ _ => False) { s with heap := h, toks := tk })
    (done : ∀ g m news h tk, J items.size g m news → Fr g L h m → News g L h news → T0 ≤ tk → R (.ok .next) { s with heap := h, toks := tk })
    (F : Fr g L s.heap m) (N : News g L s.heap news) (hj : J 0 g m news) (hT : T0 ≤ s.toks) :
    wpAny (model prog w) A (pyIter (.ref l)) (fun it s₂ => codeR (model prog w) A (.forLoop target it body [] env) R s₂) (fun _ _ => False) s := by
  have hls : s.heap.IsTuple l items := ⟨lo, (N _ hl).1, hlc, nn, hld⟩
  refine wpAny_pyIter_tuple hls ?_
  have hne : l ≠ s.heap.objs.size := Nat.ne_of_lt (Heap.lt_size (N _ hl).1)
  have W := Walks.tuple (prog := prog) (w := w) hh s.heap.objs.size l hne items
  refine loopR (s := { s with heap := s.heap.push { cls := .type "tuple_iterator", data := .fields #[.ref l, .int 0 0] } }) (T0 := T0) (L := L) W (fun i h st b hb => ?_) J (fun i v s' st Q hQ => ?_)
    (fun i v g m news own h tk hi hP e hnw hJ F N hT => turn _ i v g m news own h tk hi hP e hnw hJ F N hT) done ?_ (F.push _) (fun p hp => ⟨Heap.get?_push_of_some _ (N p hp).1, (N p hp).2⟩) (fun b hb => ?_) (fun p hp hm => ?_) hj hT
  · rcases List.mem_cons.mp hb with rfl | hb
    · obtain ⟨o, ho, _⟩ := st.1; exact ⟨o, ho⟩
    · rw [List.mem_singleton.mp hb]; obtain ⟨o, ho, _⟩ := st.2; exact ⟨o, ho⟩
  · obtain ⟨o, ho, hc, hd⟩ := st.1
    exact go_plain ho hc hd (by decide +kernel) hQ
  · exact ⟨⟨_, Heap.get?_push_size _ rfl, rfl, rfl⟩, hls.at fun o e => Heap.get?_push_of_some _ e⟩
  · rcases List.mem_cons.mp hb with rfl | hb
    · exact ⟨fun e => absurd F.ns.lt (e ▸ Nat.lt_irrefl _), next_is_new F⟩
    · rw [List.mem_singleton.mp hb]; exact (N _ hl).2
  · exact absurd (Heap.lt_size (N p hp).1) ((List.mem_singleton.mp hm) ▸ Nat.lt_irrefl _)
end
end
end

section
set_option Elab.async false
section
section
variable {M : Model} {A : Around} {E : Value → Shared → Prop} {s : Shared} {env : Env}
theorem wpR_Tuple2 {e1 e2 : Expr} {k : Nat} {pos : Pos} {Q : Value → Shared → Prop}
    (h : wpAny M A (eval e1 env) (fun v1 s₁ => wpR M A (eval e2 env) (fun v2 s₂ => Q (.ref s₂.heap.objs.size) { s₂ with heap := s₂.heap.push { cls := .type "tuple", data := .seq [v1, v2].toArray } }) E s₁) E s)
    (h1 : starEach [e1, e2] env = [(false, eval e1 env), (false, eval e2 env)] := by rfl) :
    wpR M A (eval (.Tuple [e1, e2] k pos) env) Q E s := by
  rw [arm_eval_Tuple]
  refine wpR_bindA (wpAny_standAt ?_)
  refine wpR_bind ?_
  rw [h1]
  show wpR M A (do
    let v ← eval e1 env
    let here ← (pure [v] : Sem (List Value))
    return here ++ (← holding here (do
      let v ← eval e2 env
      let here ← (pure [v] : Sem (List Value))
      return here ++ (← holding here (pure []))))) _ _ _
  refine wpR_bindA (wpAny_mono h (fun v1 s₁ h₁ => ?_) fun _ _ x => x)
  refine wpR_bindA (wpAny_pure ?_)
  refine wpR_bind (wpR_holding ?_)
  refine wpR_bind (wpR_mono h₁ (fun v2 s₂ h₂ => ?_) fun _ _ x => x)
  refine wpR_bindA (wpAny_pure ?_)
  refine wpR_bindA (wpAny_holding (wpAny_pure ?_))
  refine wpR_pure (wpR_pure ?_)
  exact wpR_of (wpAny_newObj_type h₂ (by show [v1, v2].toArray.size ≤ sizeLine; rw [sizeLine_eq]; simp))
end
section
variable {prog : Program} {w : World} {A : Around} {E : Value → Shared → Prop} {s : Shared} {g : Heap} {L : Addr} {m : Str → Option Value} {news : List (Addr × Obj)}
theorem news_new {h h' : Heap} {o : Obj} (F : Fr g L h m) (N : News g L h news) (k : ∀ a o, h.get? a = some o → h'.get? a = some o) (e : h'.get? h.objs.size = some o) :
    Fr g L h' m ∧ News g L h' ((h.objs.size, o) :: news) := by
  refine ⟨F.grownK k, fun p hp => ?_⟩
  rcases List.mem_cons.mp hp with rfl | hp
  · exact ⟨e, fun q => absurd F.ns.lt (q ▸ Nat.lt_irrefl _), next_is_new F⟩
  · exact (N.grown k) p hp
theorem ba_N {b : Array UInt8} {t : Tok} {Q : Value → Shared → Prop} (F : Fr g L s.heap m) (N : News g L s.heap news) (hb : b.size ≤ 1048576)
    (h : ∀ S h', Fr g L h' m → News g L h' ((S, { cls := .type "bytearray", data := .bytearray b }) :: news) → Q (.ref S) { s with heap := h' }) :
    wpR (model prog w) A (PySem.call (.type "bytearray") [.bytes b t]) Q E s :=
  call_ba (by rw [sizeLine_eq]; omega) fun h' k e => by
    obtain ⟨F', N'⟩ := news_new F N k e
    exact h _ h' F' N'
end
end
end

section
set_option Elab.async false
section
local macro_rules | `(tactic| walk_at "binaryOp Add bytes bytes") => `(tactic| (k_here; k_dflt (refine' add_tok ?e ?z ?_; (case e => assumption); (case z => assumption); k_whole; intro t' k' e')))
local macro_rules | `(tactic| walk_at "binaryOp Add str str") => `(tactic| (k_here; k_dflt (refine' add_text ?e ?z ?_; (case e => assumption); (case z => assumption); k_whole; intro t' k')))
local macro_rules | `(tactic| walk_at "eval ListComp") => `(tactic| (k_here; k_dflt (refine' comp_chr ?k1 ?k2 ?k3 ?k4 ?k5 rfl rfl (fun _ => rfl) (fun _ => rfl) (fun _ => rfl) (by decide) (by rfl) (by decide) (by rfl) (by decide) (by rfl) ?_; (case k1 => k_asm); (case k2 => k_asm); (case k3 => k_asm); (case k4 => k_is); (case k5 => boot_by_name))))
local macro_rules | `(tactic| walk_at "ChrSrc") => `(tactic| (k_dflt (refine' ChrSrc.intro rfl ?k1 ?k2 ?k3 ?_; (case k1 => k_asm); (case k2 => k_asm); (case k3 => assumption)); intro D' h' tk' ys' hc' F' N' o1'; (try dsimp only)))
local macro_rules | `(tactic| walk_at "call builtin:str.join") => `(tactic| (k_here; k_dflt (refine' join_chrN ?k1 ?k2 ?k3 ?_; (case k1 => k_asm); (case k2 => assumption); (case k3 => assumption); k_whole; intro t' k')))
local macro_rules | `(tactic| walk_at "call builtin:max") => `(tactic| (k_here; k_dflt (refine' max_bytes rfl ?k0 ?k1 ?k2 ?_; (case k0 => assumption); (case k1 => k_asm); (case k2 => k_asm); k_whole; intro M' h' t' k' hM' hle' F' N')))
local macro_rules | `(tactic| walk_at "compareOp Lt int int") => `(tactic| (k_here; k_dflt (first
  | (refine' lt_yes (max_lt ?h1 ?h2) ?_; (case h1 => assumption); (case h2 => assumption))
  | (refine' lt_no (max_ge ?h1 ?h2) ?_; (case h1 => assumption); (case h2 => assumption)))))
local macro_rules | `(tactic| walk_at "call ref") => `(tactic| (k_here; (show wpAny _ _ (call (Value.ref 64) [Value.str _ _, Value.bytes _ _, Value.bool true]) _ _ _); k_dflt (refine' mc_use (sp_door_ok _ _ ?hx ?hz _ _ _ ?hb _) ?k1 ?k2 ?k3 ?k4 ?k5 ?kK ?kd ?ku ?_; (case hx => assumption); (case hz => assumption); (case hb => assumption); (case k1 => k_asm); (case k2 => k_asm); (case k3 => k_asm); (case k4 => k_asm); (case k5 => k_asm); (case kK => first | exact rfl | assumption); (case kd => ktr_room); (case ku => ktr_units); k_whole; intro r9 h9 tk9 R9 F9 N9; subst R9; (try dsimp only); (try k_fold))))
local macro_rules | `(tactic| walk_at "call ref") => `(tactic| (k_here; (show wpAny _ _ (call (Value.ref 64) [Value.str _ _, Value.bytes _ _, Value.bool false]) _ _ _); k_dflt (refine' mcs_use (sp_door_bad _ _ ?hx ?hz _ _ _ _) ?k1 ?k2 ?k3 ?k4 ?k5 ?kX ?kT ?kD ?kT0 ?kK ?kd ?ku ?_; (case hx => assumption); (case hz => assumption); (case k1 => k_asm); (case k2 => k_asm); (case k3 => k_asm); (case k4 => k_asm); (case k5 => k_asm); (case kX => assumption); (case kT => assumption); (case kD => assumption); (case kT0 => assumption); (case kK => first | exact rfl | assumption); (case kd => ktr_room); (case ku => ktr_units); k_whole; intro r9 h9 tk9 g9 R9 T9 F9 N9 B9 X9 P9 D9; subst R9; (try dsimp only); (try k_fold))))
local macro_rules | `(tactic| walk_at "call ref") => `(tactic| (k_here; (show wpAny _ _ (call (Value.ref 22) [Value.bytes _ _]) _ _ _); k_dflt (refine' mc_use (sp_dec_bytes _ _ _ _) ?k1 ?k2 ?k3 ?k4 ?k5 ?kK ?kd ?ku ?_; (case k1 => k_asm); (case k2 => k_asm); (case k3 => k_asm); (case k4 => k_asm); (case k5 => k_asm); (case kK => first | exact rfl | assumption); (case kd => ktr_room); (case ku => ktr_units); k_whole; intro r9 h9 tk9 R9 F9 N9; subst R9; (try dsimp only); (try k_fold))))
local macro_rules | `(tactic| walk_at "call ref") => `(tactic| (k_here; (show wpAny _ _ (call (Value.ref 22) [Value.ref _]) _ _ _); k_dflt (refine' mc_use (sp_dec_ba _ _ _ _ _) ?k1 ?k2 ?k3 ?k4 ?k5 ?kK ?kd ?ku ?_; (case k1 => k_asm); (case k2 => k_asm); (case k3 => k_asm); (case k4 => assumption); (case k5 => k_asm); (case kK => first | exact rfl | assumption); (case kd => ktr_room); (case ku => ktr_units); k_whole; intro r9 h9 tk9 R9 F9 N9; subst R9; (try dsimp only); (try k_fold))))
local macro_rules | `(tactic| walk_at "compareOp IsNot") => `(tactic| (k_here; (with_reducible show wpAny _ _ (compareOp CmpOp.IsNot (Value.bytes _ _) (Value.bytes _ _)) _ _ _); k_dflt (refine isnot_bytes_self (by assumption) ?_)))
local macro_rules | `(tactic| walk_at "compareOp IsNot ref ref") => `(tactic| (k_here; k_dflt (refine isnot_ref_self ?_)))
local macro_rules | `(tactic| walk_at "compareOp NotEq bytes bytes") => `(tactic| (k_here; k_dflt (refine ne_bytes_self ?_)))
local macro_rules | `(tactic| walk_at "compareOp NotEq") => `(tactic| (k_here; (with_reducible show wpAny _ _ (compareOp CmpOp.NotEq (Value.ref _) (Value.bytes _ _)) _ _ _); k_dflt (refine' ne_ba_N ?k1 (List.Mem.head _) ?ku ?_; (case k1 => assumption); (case ku => ktr_units))))
local macro_rules | `(tactic| walk_at "compareOp NotEq ref") => `(tactic| (k_here; (with_reducible show wpAny _ _ (compareOp CmpOp.NotEq (Value.ref _) (Value.bytes _ _)) _ _ _); k_dflt (refine' ne_ba_N ?k1 (List.Mem.head _) ?ku ?_; (case k1 => assumption); (case ku => ktr_units))))
set_option maxRecDepth 100000 in
set_option maxHeartbeats 8000000 in
theorem sp_grows (w : World) (l : Addr) (vs : List Value) (ps : List (List UInt8)) (hps : PiecesAre vs ps) (hsh : ∀ p ∈ ps, p ≠ [] ∧ p.length ≤ 3) (hln : ps.length ≤ 63) (hl2 : 2 ≤ ps.length) (nn : Nat) (news : List (Addr × Obj)) (hl : (l, { cls := .type "list", data := .seq vs.toArray nn }) ∈ news) : MCG w 69 news [.ref l] 3 20 (fun r => r = .bool true) := by
  w_on
  unfold MCG
  k_fill
  intro mean mg mb dp un gd cn cs a ccd A₀ base h₀ L m s Q E B F X N T XB TB hk hd hu hret
  refine wpR_call ?_
  k_dflt (refine' codeR_defS0 ?k1 ?k2 ?k3 ?k4 ?k5 ?kA ?k6 ?k7 ?k8 ?k9 ?kB ?_ ?cK ?c2 ?c3 ?c4 ?c5; (case kA => exact rfl); (case k2 => k_asm); (case k1 => k_asm); (case k3 => k_asm); (case k4 => k_asm); (case k5 => k_asm); (case k6 => k_is); (case k7 => k_is); (case k8 => ktr_room); (case k9 => exact BindsTo.of_eq rfl); (case kB => exact locs rfl); (case cK => assumption); (case c2 => exact rfl); (case c3 => exact rfl); (case c4 => exact rfl); (case c5 => decide); k_whole; intro g' L' h' FG' F' N' B' X' T' D'; (try dsimp only))
  refine some_toks (by k_dflt exact Nat.le_add_left 1 _) fun tk1 hT1 => ?_
  refine wpR_one ?_
  k_steps
  refine wpR_execs_cons (wpR_For (wpR_of ?_))
  k_steps
  with_reducible rename Fr _ _ _ _ => F1
  with_reducible rename News _ _ _ _ => N1
  have F2 := fr_as (m' := gm (.bytes (octs ps 0).toArray tk1) (.str (textOf (octs ps 0)) (tk1 + 1)) (.bool (lets (octs ps 0))) _) F1 (fun y => rfl)
  clear F1
  refine iterR_list (items := vs.toArray) (nn := nn) (T0 := 1) (L := L') rfl (fun i g m nw => nw = _ ∧ (∃ t u rest, (2 ≤ i → t ≠ 0) ∧ m = gm (.bytes (octs ps i).toArray t) (.str (textOf (octs ps i)) u) (.bool (lets (octs ps i))) rest) ∧ KtsTurn ([envOf cn cs L a ccd].filterMap (·.frame)) g' g ∧
    Below _ base [envOf cn cs L a ccd] g ∧ (hd1.heap_39 w.params).In g ∧ Top hd1.view_39 (looseW hd1.view_39 [Str.ofString "bytes_types"]) mean mg mb g ∧ KtsDicts ([envOf cn cs L a ccd].filterMap (·.frame)) g) (List.Mem.tail _ hl) rfl rfl ?turn ?done F2 N1 ⟨rfl, ⟨_, _, _, ?_, rfl⟩, KtsTurn.refl, B', X', T', D'⟩ (by dsimp only; omega)
  case turn =>
    rintro I i v g m nw own h tk hi hP e hnw ⟨rfl, ⟨t, u, rest, ht, rfl⟩, T2, B2, X2, P2, D2⟩ F3 N3 hT3
    obtain ⟨p, tp, hp, rfl⟩ := hps.get (by simpa using hP)
    clear F2 N1
    have pm : p ∈ ps := List.mem_of_getElem? hp
    have hp0 : p ≠ [] := (hsh p pm).1
    have hp3 : p.length ≤ 3 := (hsh p pm).2
    have hil : i < ps.length := (List.getElem?_eq_some_iff.mp hp).1
    have hO : octs ps i ++ p = octs ps (i + 1) := (octs_succ hp).symm
    have l1 := octs_len (fun p hp => (hsh p hp).2) i
    have l2 := octs_len (fun p hp => (hsh p hp).2) (i + 1)
    have hz1 : (octs ps i).length + p.length ≤ 16777216 := by omega
    have hz2 : (octs ps (i + 1)).length ≤ 1048576 := by omega
    have hz3 : (textOf (octs ps (i + 1))).length ≤ 1048576 := by rw [text_len]; exact hz2
    have hz4 : p.length ≤ 1048576 := by omega
    have hb1 : asciiB (textOf (octs ps (i + 1))) = (octs ps (i + 1)).toArray := ascii_text _
    have hla : lets (octs ps (i + 1)) = (lets (octs ps i) && lets p) := by rw [← hO, lets_app]
    generalize hnw9 : own ++ _ = nw at N3
    k_steps
    refine wpR_of ?_
    with_reducible rename Fr _ _ _ _ => F3
    cases hold : lets (octs ps i) with
    | true =>
      rw [hold, Bool.true_and] at hla
      rw [hold] at F3
      cases hpl : lets p with
      | true =>
        rw [hpl] at hla
        have hall := lets_yes.mp hpl
        have hx1 := text_yes hla
        k_steps
        with_reducible rename Fr _ _ _ _ => F9
        with_reducible rename News _ _ _ _ => N9
        with_reducible rename (octs ps i ≠ [] → _) => et
        have F10 := fr_as F9 (fun y => congrFun (gm_turn _ _ _ _ _ _ _ _) y)
        rw [← hla] at F10
        refine ⟨.inl rfl, _, _, _, _, _, rfl, ⟨rfl, ⟨_, _, _, ?_, rfl⟩, (by assumption), (by assumption), (by assumption), (by assumption), (by assumption)⟩, F10, ?_, hnw⟩
        · intro h2
          rw [et (octs_ne (fun p hp => (hsh p hp).1) (by omega) (by omega)) hp0]
          refine Nat.ne_of_gt ?_
          show @LT.lt Nat _ 0 _
          (try dsimp only)
          omega
        · rw [hnw9]
          (first | assumption | (refine' cb_drop ?cbN ?cbS; (case cbN => assumption); (case cbS => kcj_all)))
      | false =>
        rw [hpl] at hla
        have hex := lets_no.mp hpl
        have hx2 := text_no hla
        k_steps
        with_reducible rename Fr _ _ _ _ => F9
        with_reducible rename News _ _ _ _ => N9
        with_reducible rename (octs ps i ≠ [] → _) => et
        have F10 := fr_as F9 (fun y => congrFun (gm_turn _ _ _ _ _ _ _ _) y)
        rw [← hla] at F10
        refine ⟨.inl rfl, _, _, _, _, _, rfl, ⟨rfl, ⟨_, _, _, ?_, rfl⟩, (by assumption), (by assumption), (by assumption), (by assumption), (by assumption)⟩, F10, ?_, hnw⟩
        · intro h2
          rw [et (octs_ne (fun p hp => (hsh p hp).1) (by omega) (by omega)) hp0]
          refine Nat.ne_of_gt ?_
          show @LT.lt Nat _ 0 _
          (try dsimp only)
          omega
        · rw [hnw9]
          (first | assumption | (refine' cb_drop ?cbN ?cbS; (case cbN => assumption); (case cbS => kcj_all)))
    | false =>
      rw [hold, Bool.false_and] at hla
      rw [hold] at F3
      have hx2 := text_no hla
      k_steps
      with_reducible rename Fr _ _ _ _ => F9
      with_reducible rename News _ _ _ _ => N9
      with_reducible rename (octs ps i ≠ [] → _) => et
      have F10 := fr_as F9 (fun y => congrFun (gm_turn _ _ _ _ _ _ _ _) y)
      rw [← hla] at F10
      refine ⟨.inl rfl, _, _, _, _, _, rfl, ⟨rfl, ⟨_, _, _, ?_, rfl⟩, (by assumption), (by assumption), (by assumption), (by assumption), (by assumption)⟩, F10, ?_, hnw⟩
      · intro h2
        rw [et (octs_ne (fun p hp => (hsh p hp).1) (by omega) (by omega)) hp0]
        refine Nat.ne_of_gt ?_
        show @LT.lt Nat _ 0 _
        (try dsimp only)
        omega
      · rw [hnw9]
        (first | assumption | (refine' cb_drop ?cbN ?cbS; (case cbN => assumption); (case cbS => kcj_all)))
  case done =>
    rintro g m nw h tk ⟨rfl, ⟨t, u, rest, ht, rfl⟩, T2, B2, X2, P2, D2⟩ F3 N3 hT3
    have ht0 : t ≠ 0 := ht (by simpa [hps.1] using hl2)
    have hsz : octs ps vs.toArray.size = octs ps vs.length := by simp
    have l1 := octs_len (fun p hp => (hsh p hp).2) vs.length
    rw [hsz] at F3
    have hz : (octs ps vs.length).toArray.size ≤ 1048576 := by simp; omega
    dsimp only
    clear N1 F2
    refine wpR_execs_cons (wpR_For (wpR_Tuple2 ?_))
    k_steps
    refine wpR_Call_Name ?_
    k_steps
    refine callWithR_type (by rfl) (evalArgs_plain (spliced_cons ?_))
    k_steps
    with_reducible rename Fr _ _ _ _ => F5
    with_reducible rename News _ _ _ _ => N5
    refine ba_N F5 N5 hz fun S h6 F6 N6 => ?_
    dsimp only
    clear F5 N5
    obtain ⟨F7, N7⟩ := news_new (o := { cls := .type "tuple", data := .seq [Value.bytes (octs ps vs.length).toArray t, Value.ref S].toArray }) F6 N6 (fun a o e => Heap.get?_push_of_some _ e) (Heap.get?_push_size _ rfl)
    clear F6 N6
    refine iterR_tuple (g := g) (items := [Value.bytes (octs ps vs.length).toArray t, Value.ref S].toArray) (nn := 0) (T0 := 1) (L := L') rfl (fun i g' m nw => g' = g ∧ nw = _ ∧ (∃ rest, m = gm (.bytes (octs ps vs.length).toArray t) (.str (textOf (octs ps vs.length)) u) (.bool (lets (octs ps vs.length))) rest)) (List.Mem.head _) rfl rfl ?turn2 ?done2 F7 N7 ⟨rfl, rfl, ⟨_, rfl⟩⟩ (by dsimp only; omega)
    case turn2 =>
      rintro I i v g' m nw own h tk hi hP e hnw ⟨rfl, rfl, ⟨rest, rfl⟩⟩ F3 N3 hT3
      clear F7 N7
      have hi2 : i = 0 ∨ i = 1 := by
        have : i < 2 := by simpa using hi
        omega
      rcases hi2 with rfl | rfl
      · obtain rfl : v = Value.bytes (octs ps vs.length).toArray t := by simpa using hP.symm
        generalize hnw9 : own ++ _ = nw at N3
        k_steps
        refine wpR_of ?_
        k_steps
        with_reducible rename Fr _ _ _ _ => F9
        with_reducible rename News _ _ _ _ => N9
        have F10 := fr_as F9 (fun y => congrFun (gm_given _ _ _ _ _) y)
        refine ⟨.inl rfl, _, _, _, _, _, rfl, ⟨rfl, rfl, ⟨_, rfl⟩⟩, F10, ?_, hnw⟩
        rw [hnw9]
        exact N9
      · obtain rfl : v = Value.ref S := by simpa using hP.symm
        have N3 := fun p (hp : p ∈ (S, ({ cls := .type "bytearray", data := .bytearray (octs ps vs.length).toArray } : Obj)) :: (own ++ _)) => N3 p ((List.mem_cons.mp hp).elim (fun q => by rw [q]; exact List.mem_append_right _ (List.Mem.tail _ (List.Mem.head _))) id)
        change News _ _ _ _ at N3
        generalize hnw9 : own ++ _ = nw at N3
        k_steps
        refine wpR_of ?_
        k_steps
        with_reducible rename Fr _ _ _ _ => F9
        with_reducible rename News _ _ _ _ => N9
        have F10 := fr_as F9 (fun y => congrFun (gm_given _ _ _ _ _) y)
        refine ⟨.inl rfl, _, _, _, _, _, rfl, ⟨rfl, rfl, ⟨_, rfl⟩⟩, F10, ?_, hnw⟩
        rw [hnw9]
        exact fun p hp => N9 p (List.Mem.tail _ hp)
    case done2 =>
      rintro g' m nw h tk ⟨rfl, rfl, ⟨rest, rfl⟩⟩ F3 N3 hT3
      dsimp only
      refine wpR_of ?_
      k_steps
      with_reducible rename News _ _ _ _ => N9
      exact hret _ _ _ rfl (by assumption) (fun p hp => N9 p (List.Mem.tail _ (List.Mem.tail _ (List.Mem.tail _ hp))))
  all_goals omega
end
end

section
set_option Elab.async false
section
set_option maxRecDepth 100000 in
set_option maxHeartbeats 8000000 in
theorem sp_ishex (w : World) (o : UInt8) (ho : HexU o) (t : Tok) (news : List (Addr × Obj)) : MC w 43 news [.bytes [o].toArray t] 1 8 (fun r => r = .bool true) := by
  w_on
  unfold MC
  k_fill
  intros
  rename_i hret
  refine wpAny_call ?_
  k_dflt cell_enter
  with_reducible rename Fr _ _ _ _ => F0
  obtain ⟨M0, F1⟩ := gen_arg (k := Str.ofString "c") (v := some (.bytes [o].toArray t)) F0 (by rfl)
  clear F0
  rcases ho with ho | ho
  all_goals k_steps
  all_goals (refine hret _ _ _ (congrArg Value.bool (decide_eq_true (by omega))) (by assumption) (by (first | assumption | (refine' cb_drop ?cbN ?cbS; (case cbN => assumption); (case cbS => kcj_all)))))
set_option maxRecDepth 100000 in
set_option maxHeartbeats 8000000 in
theorem sp_unhex (w : World) (a b : UInt8) (ha : HexU a) (hb : HexU b) (t : Tok) (news : List (Addr × Obj)) : MC w 50 news [.bytes [a, b].toArray t] 1 8 (fun r => ∃ t', r = .int (digU a * 16 + digU b) t') := by
  w_on
  unfold MC
  k_fill
  intros
  rename_i hret
  refine wpAny_call ?_
  k_dflt cell_enter
  with_reducible rename Fr _ _ _ _ => F0
  obtain ⟨M0, F1⟩ := gen_arg (k := Str.ofString "s") (v := some (.bytes [a, b].toArray t)) F0 (by rfl)
  clear F0
  rcases ha with ha | ha <;> rcases hb with hb | hb
  all_goals k_steps
  all_goals (refine hret _ _ _ (int_eq ?_) (by assumption) (by (first | assumption | (refine' cb_drop ?cbN ?cbS; (case cbN => assumption); (case cbS => kcj_all)))))
  all_goals ((try simp only [cps_0, u8_65i]); unfold digU; (repeat' split) <;> omega)
end
end

section
set_option Elab.async false
section
/-- a call that gives a new list of ints -/
abbrev MCL (w : World) (f : Addr) (news : List (Addr × Obj)) (vs : List Value) (dn un' : Nat) (ns : List Int) : Prop :=
  ∀ (mean : ExcName → Option Value) (mg mb : Str → Option Value) (dp un : Nat) (gd : Option (List Code)) (cn : Str) (cs : Scope) (a : Addr) (ccd : Value) (cl : List (Str × Addr)) (outer : List Env) (A₀ : Around) (base h₀ : Heap) (L : Addr) (m : Str → Option Value) (s : Shared) (Q E : Value → Shared → Prop),
    Below A₀ base outer h₀ → Fr h₀ L s.heap m → (hd1.heap_39 w.params).In h₀ → News h₀ L s.heap news → Top hd1.view_39 (looseW hd1.view_39 [Str.ofString "bytes_types"]) mean mg mb h₀ → cs.kind = .function →
    dp + dn < recursionLimit → un + un' < cLine →
    (∀ D h' tk' ys, IntsAre ys ns → Fr h₀ L h' m → News h₀ L h' ((D, LCg.lst ys) :: news) → Q (.ref D) { s with heap := h', toks := tk' }) →
      wpAny (model PySem.Challenge.rw_kl0184_01.row.prog w) (ktrTop dp un gd cn cs L a ccd cl outer) (call (.ref f) vs) Q E s
section
variable {w : World} {f : Addr} {news : List (Addr × Obj)} {vs : List Value} {dn un' : Nat} {ns : List Int} {mean : ExcName → Option Value} {mg mb : Str → Option Value} {dp un : Nat} {gd : Option (List Code)} {cn : Str} {cs : Scope} {a : Addr} {ccd : Value} {cl : List (Str × Addr)} {outer : List Env} {A₀ : Around} {base h₀ : Heap} {L : Addr} {m : Str → Option Value} {s : Shared} {Q E : Value → Shared → Prop}
theorem mcl_use (C : MCL w f news vs dn un' ns) (B : Below A₀ base outer h₀) (F : Fr h₀ L s.heap m) (X : (hd1.heap_39 w.params).In h₀) (N : News h₀ L s.heap news) (T : Top hd1.view_39 (looseW hd1.view_39 [Str.ofString "bytes_types"]) mean mg mb h₀) (hk : cs.kind = .function)
    (hd : dp + dn < recursionLimit) (hu : un + un' < cLine) (k : ∀ D h' tk' ys, IntsAre ys ns → Fr h₀ L h' m → News h₀ L h' ((D, LCg.lst ys) :: news) → Q (.ref D) { s with heap := h', toks := tk' }) :
    wpAny (model PySem.Challenge.rw_kl0184_01.row.prog w) (ktrTop dp un gd cn cs L a ccd cl outer) (call (.ref f) vs) Q E s :=
  C _ _ _ _ _ _ _ _ _ _ _ _ _ _ _ _ _ _ _ _ B F X N T hk hd hu k
end
end
section
/-- of what stands under the newest two names, one name is kept, the rest may be anything -/
theorem gen_base {g h : Heap} {L : Addr} {k1 k2 k3 : Str} {v1 v2 v3 : Option Value} {M : Str → Option Value} (F : Fr g L h (fun y => if y = k1 then v1 else if y = k2 then v2 else M y)) (e : M k3 = v3) :
    ∃ M' : Str → Option Value, Fr g L h (fun y => if y = k1 then v1 else if y = k2 then v2 else if y = k3 then v3 else M' y) := by
  refine ⟨M, ?_⟩
  have q : (fun y => if y = k1 then v1 else if y = k2 then v2 else if y = k3 then v3 else M y) = (fun y => if y = k1 then v1 else if y = k2 then v2 else M y) := by
    funext y
    by_cases h3 : y = k3
    · subst h3
      rw [if_pos rfl, e]
    · rw [if_neg h3]
  rw [q]
  exact F
end
section
/-- the counter may stand anywhere -/
theorem wp_gentoks {α : Type} {M : Model} {A : Around} {t : Sem α} {Q : α → Shared → Prop} {E : Value → Shared → Prop} {h : Heap} {g : Array GenState} {d : Drawn} {os : OsState} {n : Nat}
    (k : ∀ tk, wpAny M A t Q E ⟨h, g, d, tk, os⟩) : wpAny M A t Q E ⟨h, g, d, n + 1, os⟩ := k _
end
end

section
set_option Elab.async false
section
local macro_rules | `(tactic| walk_at "call builtin:len") => `(tactic| (k_here; (with_reducible show wpAny _ _ (call (Value.builtin "len") [Value.bytes (List.toArray _) _]) _ _ _); k_dflt (refine' len_by ?z ?_; (case z => assumption))))
local macro_rules | `(tactic| walk_at "compareOp Lt int int") => `(tactic| (k_here; k_dflt (first
  | (refine' lt_yes ?h1 ?_; (case h1 => first | assumption | omega))
  | (refine' lt_no ?h1 ?_; (case h1 => first | assumption | omega)))))
local macro_rules | `(tactic| walk_at "compareOp NotEq int int") => `(tactic| (k_here; k_dflt (first
  | (refine' ne_yes ?h1 ?_; (case h1 => first | assumption | omega))
  | (refine' ne_no ?h1 ?_; (case h1 => first | assumption | omega | rfl)))))
local macro_rules | `(tactic| walk_at "subscriptTail") => `(tactic| (k_here; (with_reducible show wpAny _ _ (subscriptTail _ _ (Value.bytes (List.toArray _) _) (Value.int _ _)) _ _ _); k_dflt (refine' item_at ?e ?i ?z ?_; (case e => assumption); (case i => rfl); (case z => assumption))))
local macro_rules | `(tactic| walk_at "subscriptTail") => `(tactic| (k_here; (with_reducible show wpAny _ _ (subscriptTail _ (Expr.Slice _ _ none _) (Value.bytes _ _) (Value.ref _)) _ _ _); (with_reducible rename Fr _ _ _ _ => F'); (with_reducible rename News _ _ _ _ => N'); k_dflt (first
  | (refine' slice_by (s := ⟨_, _, _, _, _⟩) (?S : SlA _ _ _ _ _ _) ?lo ?hi ?z F' N' ?_; (case S => with_reducible assumption); (case lo => omega); (case hi => omega); (case z => assumption); intro h' t' k' F' N')
  | (refine' slice_by (s := ⟨_, _, _, _, _⟩) (?S : SlB _ _ _ _ _ _) ?lo ?hi ?z F' N' ?_; (case S => with_reducible assumption); (case lo => omega); (case hi => omega); (case z => assumption); intro h' t' k' F' N')
  | (refine' slice_by (s := ⟨_, _, _, _, _⟩) (?S : SlC _ _ _ _ _ _) ?lo ?hi ?z F' N' ?_; (case S => with_reducible assumption); (case lo => omega); (case hi => omega); (case z => assumption); intro h' t' k' F' N'))))
local macro_rules | `(tactic| walk_at "call builtin:list.append") => `(tactic| (k_here; (show wpAny _ _ (call (Value.builtin _) [Value.ref _, _]) _ _ _); k_dflt (refine' append_T ?F ?N ?d ?z ?_; (case F => k_asm); (case N => assumption); (case d => assumption); (case z => assumption)); intro h' F' N'; (try k_sweep)))
local macro_rules | `(tactic| walk_at "call ref") => `(tactic| (k_here; (show wpAny _ _ (call (Value.ref 43) [Value.bytes (List.toArray [_]) _]) _ _ _); k_dflt (refine' mc_use (sp_ishex _ _ ?ho _ _) ?k1 ?k2 ?k3 ?k4 ?k5 ?kK ?kd ?ku ?_; (case ho => assumption); (case k1 => k_asm); (case k2 => k_asm); (case k3 => k_asm); (case k4 => k_asm); (case k5 => k_asm); (case kK => first | exact rfl | assumption); (case kd => ktr_room); (case ku => ktr_units); k_whole; intro r9 h9 tk9 R9 F9 N9; subst R9; (try dsimp only); (try k_fold))))
local macro_rules | `(tactic| walk_at "call ref") => `(tactic| (k_here; (show wpAny _ _ (call (Value.ref 50) [Value.bytes (List.toArray [_, _]) _]) _ _ _); k_dflt (refine' mc_use (sp_unhex _ _ _ ?ha ?hb _ _) ?k1 ?k2 ?k3 ?k4 ?k5 ?kK ?kd ?ku ?_; (case ha => assumption); (case hb => assumption); (case k1 => k_asm); (case k2 => k_asm); (case k3 => k_asm); (case k4 => k_asm); (case k5 => k_asm); (case kK => first | exact rfl | assumption); (case kd => ktr_room); (case ku => ktr_units); k_whole; intro r9 h9 tk9 R9 F9 N9; obtain ⟨t9, R9⟩ := R9; subst R9; (try dsimp only); (try k_fold))))
local macro_rules | `(tactic| walk_at "execs cons") => `(tactic| (k_here; with_reducible refine wp_gentoks ?_; intro tk))
set_option maxRecDepth 100000 in
set_option maxHeartbeats 8000000 in
theorem sp_read (w : World) (ps : List (List UInt8)) (ns : List Int) (hc : CodedAll ps ns) (hln : ps.length ≤ 63) (B : List UInt8) (hB : B = ps.flatten) (hz : B.length ≤ 1048576) (t : Tok) (news : List (Addr × Obj)) : MCL w 76 news [.bytes B.toArray t] 2 16 ns := by
  w_on
  unfold MCL
  k_fill
  intro mean mg mb dp un gd cn cs a ccd cl outer A₀ base h₀ L m s Q E B₀ F X N T hk hd hu hret
  refine wpAny_call ?_
  k_dflt cell_enter
  refine wpAny_stop ?_
  k_steps
  unfold Stop
  refine wpAny_stop (wpAny_While ?_)
  with_reducible rename Fr _ _ _ _ => F1
  with_reducible rename News _ _ _ _ => N1
  with_reducible rename ∀ p ∈ news, _ => d1
  with_reducible rename _ ∧ AllLt _ _ => d2
  obtain ⟨N2, hnd⟩ := read_head (to := _) N1 d1 d2
  obtain ⟨R0, F1⟩ := gen_base (k3 := Str.ofString "octets") (v3 := some (.bytes B.toArray t)) F1 (by rfl)
  refine while_read (ps := ps) (ns := ns) F1 N2 (fun n s' hI => ?turn)
  clear F1 N1 N2
  case turn =>
    obtain ⟨i, h, tk, ys, tkk, rfl, hi, rfl, F3, N3, hy⟩ := hI
    by_cases hlt : i < ps.length
    · have hp := List.getElem?_eq_getElem hlt
      generalize ps[i] = p at hp
      have hni : i < ns.length := by rw [← hc.1]; exact hlt
      have hn := List.getElem?_eq_getElem hni
      generalize ns[i] = n at hn
      have hcod := hc.2 i p n hp hn
      have e0 := hB.trans (flat_at hp)
      have e1 : octs ps (i + 1) = octs ps i ++ p := octs_succ hp
      have l1 : B.length = (octs ps i).length + (p.length + ((ps.drop (i + 1)).flatten).length) := by rw [e0]; simp
      have hyl : ys.length ≤ 1048576 := by
        have := hy.length
        rw [List.length_take] at this
        have := hc.1
        omega
      rcases hcod with ⟨o, rfl, ho, rfl⟩ | ⟨a, b, rfl, ha, hb, rfl⟩
      · generalize (ps.drop (i + 1)).flatten = post at e0 l1
        have hit : B = octs ps i ++ o :: post := e0
        simp only [List.length_cons, List.length_nil] at l1
        have hlt1 : ((octs ps i).length : Int) < (B.length : Int) := by omega
        have ho1 : (o.toNat : Int) ≠ 61 := by omega
        k_steps
        with_reducible rename Fr _ _ _ _ => F9
        with_reducible rename News _ _ _ _ => N9
        exact RNext.intro hlt F9 ⟨_, rfl⟩ (by rw [e1]; simp) N9 (ints_snoc hy hn)
      · generalize (ps.drop (i + 1)).flatten = post at e0 l1
        have hit : B = octs ps i ++ (61 : UInt8) :: ([a, b] ++ post) := e0
        have sA : SlA B (octs ps i ++ [61]) [a] ([b] ++ post) ((octs ps i).length + 1) 1 := ⟨by rw [e0]; simp, by simp, rfl⟩
        have sB : SlB B (octs ps i ++ [61, a]) [b] post ((octs ps i).length + 2) 1 := ⟨by rw [e0]; simp, by simp, rfl⟩
        have sC : SlC B (octs ps i ++ [61]) [a, b] post ((octs ps i).length + 1) 2 := ⟨by rw [e0]; simp, by simp, rfl⟩
        simp only [List.length_cons, List.length_nil] at l1
        have hlt1 : ((octs ps i).length : Int) < (B.length : Int) := by omega
        have ho1 : (((61 : UInt8).toNat : Nat) : Int) = 61 := rfl
        k_steps
        with_reducible rename Fr _ _ _ _ => F9
        with_reducible rename News _ _ _ _ => N9
        exact RNext.intro hlt F9 ⟨_, rfl⟩ (by rw [e1]; simp) N9 (ints_snoc hy hn)
    · have hie : i = ps.length := by omega
      subst hie
      have hge : ¬ ((octs ps ps.length).length : Int) < (B.length : Int) := by rw [octs_all, hB]; omega
      k_steps
      unfold Stop
      dsimp only
      k_steps
      with_reducible rename Fr _ _ _ _ => F9
      with_reducible rename News _ _ _ _ => N9
      rw [List.take_of_length_le (by rw [hc.1]; exact Nat.le_refl _)] at hy
      exact hret _ _ _ _ hy F9 (fun p hp => N9 p ((List.mem_cons.mp hp).elim (fun e => e ▸ List.Mem.head _) (fun h => List.Mem.tail _ (List.Mem.tail _ h))))
end
end

section
set_option Elab.async false
section
section
variable {prog : Program} {w : World} {A : Around} {s : Shared} {R : Result → Shared → Prop} {name : Str} {params : Arguments} {body : List Stmt} {scope : Scope} {dV kV pm cd doc : Value} {a : Addr} {o : Obj} {args : Args} {binds : List (Str × Value)}
/-- the law's own frame, in R -/
theorem codeR_full (hroom : A.depth < recursionLimit) (ho : s.heap.get? a = some o) (hdata : o.data = .func { docDef name params body scope pm cd doc with defaults := dV, kwdefaults := kV }) (hlim : s.heap.NoLimit) (hcd : s.heap.CodeRec cd name)
    (hbind : BindsTo s { docDef name params body scope pm cd doc with defaults := dV, kwdefaults := kV } args binds)
    (hloc : ∀ x ∈ binds, scope.names.lookup x.1 = some .local)
    (h : ∀ h₁, Fr s.heap s.heap.objs.size h₁ (fun x => binds.reverse.lookup x) →
      wpR (model prog w) (A.deeper (envOf name scope s.heap.objs.size a cd)) (execs body (envOf name scope s.heap.objs.size a cd))
        (fun f s' => R (.ok (.ret (match f with | .ret v => v | _ => .none))) s') (fun _ _ => False)
        { s with heap := h₁, toks := s.toks + binds.length })
    (hco : scope.isCoroutine = false := by rfl) (hgen : scope.isGenerator = false := by rfl) (hk : scope.kind = .function := by rfl)
    (hcell : ∀ x ∈ scope.names, x.2 ≠ .cell := by decide) :
    codeR (model prog w) A (.call (.ref a) args) R s :=
  codeR_call_def hroom ho hdata hlim hcd rfl hbind hcell hloc (fun h₁ hns hkeep => h h₁ ⟨hns, hkeep, Nat.le_refl _⟩) hco hgen hk
end
end
end

section
set_option Elab.async false
section
set_option maxRecDepth 100000 in
set_option maxHeartbeats 8000000 in
theorem sp_needs (w : World) (o : UInt8) (t : Tok) (tabs head : Bool) (news : List (Addr × Obj)) : MC w 29 news [.bytes [o].toArray t, .bool tabs, .bool head] 1 8 (fun r => r = .bool (needsB o tabs head)) := by
  w_on
  unfold MC
  k_fill
  intros
  rename_i hret
  refine wpAny_call ?_
  k_dflt cell_enter
  with_reducible rename Fr _ _ _ _ => F0
  obtain ⟨M0, F1⟩ := gen_three (k1 := Str.ofString "c") (v1 := some (.bytes [o].toArray t)) (k2 := Str.ofString "quotetabs") (v2 := some (.bool tabs)) (k3 := Str.ofString "header") (v3 := some (.bool head)) F0 (by rfl) (by rfl) (by rfl)
  clear F0
  k_steps
  all_goals (refine hret _ _ _ ?_ (by assumption) (by (first | assumption | (refine' cb_drop ?cbN ?cbS; (case cbN => assumption); (case cbS => kcj_all)))))
  · exact nb1 (by assumption)
  · exact nb2 (by assumption) (by assumption)
  · exact nb3 (by assumption) (by assumption) (by assumption)
  · exact nb4 (by assumption) (by assumption) (by assumption) (by assumption)
  · exact nb5 (by assumption) (by assumption) (by assumption) (by assumption)
set_option maxRecDepth 100000 in
set_option maxHeartbeats 8000000 in
theorem sp_quote (w : World) (o : UInt8) (t : Tok) (news : List (Addr × Obj)) : MC w 36 news [.bytes [o].toArray t] 1 8 (fun r => ∃ t', r = .bytes (quoteB o).toArray t') := by
  w_on
  unfold MC
  k_fill
  intros
  rename_i hret
  refine wpAny_call ?_
  k_dflt cell_enter
  with_reducible rename Fr _ _ _ _ => F0
  obtain ⟨M0, F1⟩ := gen_arg (k := Str.ofString "c") (v := some (.bytes [o].toArray t)) F0 (by rfl)
  clear F0
  k_steps
  all_goals (refine hret _ _ _ ⟨_, rfl⟩ (by assumption) (by (first | assumption | (refine' cb_drop ?cbN ?cbS; (case cbN => assumption); (case cbS => kcj_all)))))
set_option maxRecDepth 100000 in
set_option maxHeartbeats 8000000 in
theorem sp_spelled (w : World) (n : Int) (hn : 0 ≤ n ∧ n < 256) (t : Tok) (tabs head : Bool) (news : List (Addr × Obj)) : MC w 57 news [.int n t, .bool tabs, .bool head] 1 8 (fun r => ∃ t', r = .bytes (spellI n tabs head).toArray t') := by
  w_on
  unfold MC
  k_fill
  intros
  rename_i hret
  refine wpAny_call ?_
  k_dflt cell_enter
  with_reducible rename Fr _ _ _ _ => F0
  obtain ⟨M0, F1⟩ := gen_three (k1 := Str.ofString "octet") (v1 := some (.int n t)) (k2 := Str.ofString "tabs") (v2 := some (.bool tabs)) (k3 := Str.ofString "head") (v3 := some (.bool head)) F0 (by rfl) (by rfl) (by rfl)
  clear F0
  rcases spell_ways n with hw | hw | hw | hw | hw | hw | hw
  all_goals k_steps
  all_goals (refine hret _ _ _ ?_ (by assumption) (by (first | assumption | (refine' cb_drop ?cbN ?cbS; (case cbN => assumption); (case cbS => kcj_all)))))
  all_goals first
    | exact spell_plain ((sc1 (by omega)).trans (nt (by assumption)))
    | exact spell_coded ((sc1 (by omega)).trans (nf (by assumption)))
    | exact spell_plain ((sc2 (by omega)).trans (nt (by assumption)))
    | exact spell_coded ((sc2 (by omega)).trans (nf (by assumption)))
    | exact spell_plain (sc3 (by omega) (by omega))
    | exact spell_coded (sc4 (by omega) (by omega) (by omega) (by omega))
    | (exfalso; omega)
end
end

section
set_option Elab.async false
set_option maxRecDepth 100000
section
def Apart3 (D1 D2 D3 : Addr) (nw : List (Addr × Obj)) : Prop := D1 ≠ D2 ∧ D1 ≠ D3 ∧ D2 ≠ D3 ∧ ∀ p ∈ nw, p.1 ≠ D1 ∧ p.1 ≠ D2 ∧ p.1 ≠ D3
theorem pack5 {g h : Heap} {L T D1 D2 D3 : Addr} {to : Obj} {nw : List (Addr × Obj)} {P1 P2 P3 : Prop} (N : News g L h ((T, to) :: (D3, LCg.lst []) :: (D2, LCg.lst []) :: (D1, LCg.lst []) :: nw))
    (l1 : ∀ p ∈ nw, p.1 < D1) (l2 : D1 < D2 ∧ P1) (l3 : D2 < D3 ∧ D1 < D3 ∧ P2) (l4 : D3 < T ∧ D2 < T ∧ D1 < T ∧ P3) :
    ∃ nw', News g L h ((D1, LCg.lst []) :: (D2, LCg.lst []) :: (D3, LCg.lst []) :: nw') ∧ Apart3 D1 D2 D3 nw' ∧ ∀ p ∈ nw, p ∈ nw' := by
  have a1 : D1 < D2 := l2.1
  have a2 : D2 < D3 := l3.1
  have a3 : D3 < T := l4.1
  refine ⟨(T, to) :: nw, fun p hp => N p ?_, ⟨Nat.ne_of_lt a1, Nat.ne_of_lt (Nat.lt_trans a1 a2), Nat.ne_of_lt a2, fun p hp => ?_⟩, fun p hp => .tail _ hp⟩
  · rcases List.mem_cons.mp hp with rfl | hp
    · exact .tail _ (.tail _ (.tail _ (.head _)))
    · rcases List.mem_cons.mp hp with rfl | hp
      · exact .tail _ (.tail _ (.head _))
      · rcases List.mem_cons.mp hp with rfl | hp
        · exact .tail _ (.head _)
        · rcases List.mem_cons.mp hp with rfl | hp
          · exact .head _
          · exact .tail _ (.tail _ (.tail _ (.tail _ hp)))
  · rcases List.mem_cons.mp hp with rfl | hp
    · exact ⟨Nat.ne_of_gt (Nat.lt_trans a1 (Nat.lt_trans a2 a3)), Nat.ne_of_gt (Nat.lt_trans a2 a3), Nat.ne_of_gt a3⟩
    · have b := l1 p hp
      exact ⟨Nat.ne_of_lt b, Nat.ne_of_lt (Nat.lt_trans b a1), Nat.ne_of_lt (Nat.lt_trans b (Nat.lt_trans a1 a2))⟩
section
variable {prog : Program} {w : World} {A : Around} {E : Value → Shared → Prop} {s : Shared} {t u : Tok} {Q : Value → Shared → Prop} {h₀ : Heap} {L : Addr} {m : Str → Option Value} {tl tl2 : List (Addr × Obj)} {D1 D2 D3 : Addr} {y1 y2 y3 : List Value} {x : Value}
/-- the ledger of the three lists, whatever stands around them -/
def Led (g h : Heap) (L : Addr) (D1 D2 D3 : Addr) (y1 y2 y3 : List Value) (tl : List (Addr × Obj)) : Prop := News g L h ((D1, LCg.lst y1) :: (D2, LCg.lst y2) :: (D3, LCg.lst y3) :: tl)
theorem app1 (F : Fr h₀ L s.heap m) (N : News h₀ L s.heap ((D1, LCg.lst y1) :: (D2, LCg.lst y2) :: (D3, LCg.lst y3) :: tl)) (ap : Apart3 D1 D2 D3 tl) (hz : y1.length ≤ 1048576)
    (h : ∀ h', Fr h₀ L h' m → News h₀ L h' ((D1, LCg.lst (y1 ++ [x])) :: (D2, LCg.lst y2) :: (D3, LCg.lst y3) :: tl) → Q .none { s with heap := h' }) : wpAny (model prog w) A (PySem.call (.builtin "list.append") [.ref D1, x]) Q E s :=
  append_T F N (fun p hp => by
    rcases List.mem_cons.mp hp with rfl | hp
    · exact Ne.symm ap.1
    · rcases List.mem_cons.mp hp with rfl | hp
      · exact Ne.symm ap.2.1
      · exact (ap.2.2.2 p hp).1) hz h
theorem app2 (F : Fr h₀ L s.heap m) (N : News h₀ L s.heap ((D1, LCg.lst y1) :: (D2, LCg.lst y2) :: (D3, LCg.lst y3) :: tl)) (ap : Apart3 D1 D2 D3 tl) (hz : y2.length ≤ 1048576)
    (h : ∀ h', Fr h₀ L h' m → News h₀ L h' ((D1, LCg.lst y1) :: (D2, LCg.lst (y2 ++ [x])) :: (D3, LCg.lst y3) :: tl) → Q .none { s with heap := h' }) : wpAny (model prog w) A (PySem.call (.builtin "list.append") [.ref D2, x]) Q E s := by
  refine append_K (its := y2.toArray) (n := y2.length) (news' := (D1, LCg.lst y1) :: (D2, LCg.lst (y2 ++ [x])) :: (D3, LCg.lst y3) :: tl) F N ?_ h (by rw [List.size_toArray, sizeLine_eq]; omega)
  rw [← LCg.lst_snoc]
  refine Upd.tail ap.1 (Upd.head fun p hp => ?_)
  rcases List.mem_cons.mp hp with rfl | hp
  · exact Ne.symm ap.2.2.1
  · exact (ap.2.2.2 p hp).2.1
theorem app3 (F : Fr h₀ L s.heap m) (N : News h₀ L s.heap ((D1, LCg.lst y1) :: (D2, LCg.lst y2) :: (D3, LCg.lst y3) :: tl)) (ap : Apart3 D1 D2 D3 tl) (hz : y3.length ≤ 1048576)
    (h : ∀ h', Fr h₀ L h' m → News h₀ L h' ((D1, LCg.lst y1) :: (D2, LCg.lst y2) :: (D3, LCg.lst (y3 ++ [x])) :: tl) → Q .none { s with heap := h' }) : wpAny (model prog w) A (PySem.call (.builtin "list.append") [.ref D3, x]) Q E s := by
  refine append_K (its := y3.toArray) (n := y3.length) (news' := (D1, LCg.lst y1) :: (D2, LCg.lst y2) :: (D3, LCg.lst (y3 ++ [x])) :: tl) F N ?_ h (by rw [List.size_toArray, sizeLine_eq]; omega)
  rw [← LCg.lst_snoc]
  exact Upd.tail ap.2.1 (Upd.tail ap.2.2.1 (Upd.head fun p hp => (ap.2.2.2 p hp).2.2))
theorem eq_yes {a b : Int} (hab : a = b) (h : Q (.bool true) s) : wpAny (model prog w) A (compareOp .Eq (.int a t) (.int b u)) Q E s := P.eq_int (by subst hab; simpa using h)
theorem eq_no {a b : Int} (hab : a ≠ b) (h : Q (.bool false) s) : wpAny (model prog w) A (compareOp .Eq (.int a t) (.int b u)) Q E s := P.eq_int (by rw [beq_eq_false_iff_ne.mpr hab]; exact h)
end
theorem pieces_snoc {ys : List Value} {ps : List (List UInt8)} {p : List UInt8} {t : Tok} {i : Nat} (h : PiecesAre ys (ps.take i)) (hp : ps[i]? = some p) : PiecesAre (ys ++ [Value.bytes p.toArray t]) (ps.take (i + 1)) := by
  have hl : i < ps.length := (List.getElem?_eq_some_iff.mp hp).1
  have hlen : ys.length = i := by rw [h.1, List.length_take]; omega
  refine ⟨by rw [List.length_append, List.length_take, hlen]; simp; omega, fun j q hq => ?_⟩
  rw [List.take_add_one, hp, Option.toList_some] at hq
  by_cases hj : j < i
  · rw [List.getElem?_append_left (by rw [List.length_take]; omega)] at hq
    obtain ⟨t', e⟩ := h.2 j q hq
    exact ⟨t', by rw [List.getElem?_append_left (by omega)]; exact e⟩
  · have hj2 : j = i := by
      have := (List.getElem?_eq_some_iff.mp hq).1
      simp at this
      omega
    subst hj2
    rw [List.getElem?_append_right (by rw [List.length_take]; omega)] at hq
    have e0 : j - (ps.take j).length = 0 := by rw [List.length_take]; omega
    rw [e0] at hq
    have hq' : p = q := by simpa using hq
    subst hq'
    exact ⟨t, by rw [List.getElem?_append_right (by omega), hlen, Nat.sub_self]; rfl⟩
section
variable {w : World} {o : UInt8} {t : Tok} {tb hd : Bool} {news : List (Addr × Obj)}
theorem needs_t (h : needsB o tb hd = true) : MC w 29 news [.bytes [o].toArray t, .bool tb, .bool hd] 1 8 (fun r => r = .bool true) := by
  have := sp_needs w o t tb hd news
  rw [h] at this
  exact this
theorem needs_f (h : needsB o tb hd = false) : MC w 29 news [.bytes [o].toArray t, .bool tb, .bool hd] 1 8 (fun r => r = .bool false) := by
  have := sp_needs w o t tb hd news
  rw [h] at this
  exact this
theorem spelled_as {p : List UInt8} (h : pc1 tb hd o = p) : MC w 57 news [.int (o.toNat : Int) t, .bool tb, .bool hd] 1 8 (fun r => ∃ t', r = .bytes p.toArray t') := by
  have h256 := o.toNat_lt
  have := sp_spelled w (o.toNat : Int) (by omega) t tb hd news
  rw [spell_pc, h] at this
  exact this
end
end
end

section
set_option Elab.async false
set_option maxRecDepth 100000
section
theorem fr_lm {g h : Heap} {L : Addr} {m M : Str → Option Value} (F : Fr g L h m) (e : ∀ y, y ≠ Str.ofString "piece" → y ≠ Str.ofString "sign" → y ≠ Str.ofString "way" → y ≠ Str.ofString "octet" → m y = M y) :
    ∃ p1 p2 p3 p4, Fr g L h (lm p1 p2 p3 p4 M) := ⟨_, _, _, _, lm_of e ▸ F⟩
theorem two_bools {g h : Heap} {L : Addr} {b1 b2 : Bool} {M : Str → Option Value} (F : Fr g L h (fun y => if y = Str.ofString "tabs" then some (.bool b1) else if y = Str.ofString "head" then some (.bool b2) else M y)) :
    ∃ tb hb, Fr g L h (fun y => if y = Str.ofString "tabs" then some (.bool tb) else if y = Str.ofString "head" then some (.bool hb) else M y) := ⟨b1, b2, F⟩
theorem turn_led {g h : Heap} {L I l D1 D2 D3 : Addr} {lo : Obj} {y1 y2 y3 : List Value} {own nw5 : List (Addr × Obj)} (N : News g L h (own ++ ((D1, LCg.lst y1) :: (D2, LCg.lst y2) :: (D3, LCg.lst y3) :: nw5))) (e : own.map (·.1) = [I, l])
    (hnw : ∀ p ∈ ((D1, LCg.lst y1) :: (D2, LCg.lst y2) :: (D3, LCg.lst y3) :: nw5), p.1 ∉ [I]) (ap : Apart3 D1 D2 D3 nw5) (hm : (l, lo) ∈ nw5) :
    ∃ tl, News g L h ((D1, LCg.lst y1) :: (D2, LCg.lst y2) :: (D3, LCg.lst y3) :: tl) ∧ Apart3 D1 D2 D3 tl ∧ (∀ p ∈ nw5, p ∈ tl) ∧ (∀ p ∈ own, p ∈ tl) := by
  refine ⟨own ++ nw5, fun p hp => N p ?_, ⟨ap.1, ap.2.1, ap.2.2.1, fun p hp => ?_⟩, fun p hp => List.mem_append_right _ hp, fun p hp => List.mem_append_left _ hp⟩
  · rcases List.mem_cons.mp hp with rfl | hp
    · exact List.mem_append_right _ (.head _)
    · rcases List.mem_cons.mp hp with rfl | hp
      · exact List.mem_append_right _ (.tail _ (.head _))
      · rcases List.mem_cons.mp hp with rfl | hp
        · exact List.mem_append_right _ (.tail _ (.tail _ (.head _)))
        · rcases List.mem_append.mp hp with hp | hp
          · exact List.mem_append_left _ hp
          · exact List.mem_append_right _ (.tail _ (.tail _ (.tail _ hp)))
  · rcases List.mem_append.mp hp with hp | hp
    · have h1 : p.1 ∈ own.map (·.1) := List.mem_map.mpr ⟨p, hp, rfl⟩
      rw [e] at h1
      have n1 := hnw _ (.head _)
      have n2 := hnw _ (.tail _ (.head _))
      have n3 := hnw _ (.tail _ (.tail _ (.head _)))
      rcases List.mem_cons.mp h1 with h1 | h1
      · rw [h1]
        exact ⟨fun q => n1 (by rw [← q]; exact .head _), fun q => n2 (by rw [← q]; exact .head _), fun q => n3 (by rw [← q]; exact .head _)⟩
      · rw [List.mem_singleton.mp h1]
        exact ap.2.2.2 _ hm
    · exact ap.2.2.2 p hp
def toU (rows : List (Int × Int)) : List (UInt8 × Int) := rows.map fun r => (r.1.toNat.toUInt8, r.2)
def P1 (tb hb : Bool) (rows : List (UInt8 × Int)) : List (List UInt8) := rows.map fun r => pc1 tb hb r.1
def P2 (tb hb : Bool) (rows : List (UInt8 × Int)) : List (List UInt8) := rows.map fun r => pc2 tb hb r.1 r.2
def P3 (rows : List (UInt8 × Int)) : List (List UInt8) := rows.map fun r => [r.1]
theorem rows_in {ns : List Int} : ∀ r ∈ rowsOf ns, 0 ≤ r.1 ∧ r.1 < 256 := by
  intro r hr
  rcases List.mem_append.mp hr with hr | hr
  · obtain ⟨n, _, rfl⟩ := List.mem_map.mp hr
    show 0 ≤ n.fmod 256 ∧ n.fmod 256 < 256
    rw [Int.fmod_eq_emod_of_nonneg _ (by decide)]
    omega
  · have : ∀ r ∈ extra, 0 ≤ r.1 ∧ r.1 < 256 := by decide
    exact this r hr
theorem rows_len (ns : List Int) : (rowsOf ns).length ≤ 41 ∧ 11 ≤ (rowsOf ns).length := by
  unfold rowsOf
  rw [List.length_append, List.length_map, List.length_take]
  have : extra.length = 11 := rfl
  omega
theorem u8_back {n : Int} (h : 0 ≤ n ∧ n < 256) : n = ((n.toNat.toUInt8).toNat : Int) := by
  have h1 : n.toNat < 256 := by omega
  have e : (n.toNat.toUInt8).toNat = n.toNat := by
    rw [Nat.toUInt8_eq, UInt8.toNat_ofNat']
    exact Nat.mod_eq_of_lt h1
  rw [e]
  omega
end
section
theorem news_tl {g h : Heap} {L : Addr} {x : Addr × Obj} {l : List (Addr × Obj)} (N : News g L h (x :: l)) : News g L h l := fun p hp => N p (.tail _ hp)
end
section
def Tag (_ : Str → Option Value) : Prop := True
theorem tag_of {g h : Heap} {L : Addr} {p1 p2 p3 p4 : Option Value} {M : Str → Option Value} (_ : Fr g L h (lm p1 p2 p3 p4 M)) : Tag M := trivial
theorem fr_turn {g h : Heap} {L : Addr} {m M : Str → Option Value} (_ : Tag M) (F : Fr g L h m) (e : ∀ y, y ≠ Str.ofString "piece" → y ≠ Str.ofString "sign" → y ≠ Str.ofString "way" → y ≠ Str.ofString "octet" → m y = M y) :
    ∃ p1 p2 p3 p4, Fr g L h (lm p1 p2 p3 p4 M) := fr_lm F e
theorem led_back {g h : Heap} {L D1 D2 D3 : Addr} {o1 o2 o3 : Obj} {tl own nw5 : List (Addr × Obj)} (N : News g L h ((D1, o1) :: (D2, o2) :: (D3, o3) :: tl)) (own8 : ∀ p ∈ own, p ∈ tl) (sub8 : ∀ p ∈ nw5, p ∈ tl) :
    News g L h (own ++ ((D1, o1) :: (D2, o2) :: (D3, o3) :: nw5)) := fun p hp => N p (by
  rcases List.mem_append.mp hp with hp | hp
  · exact .tail _ (.tail _ (.tail _ (own8 p hp)))
  · rcases List.mem_cons.mp hp with rfl | hp
    · exact .head _
    · rcases List.mem_cons.mp hp with rfl | hp
      · exact .tail _ (.head _)
      · rcases List.mem_cons.mp hp with rfl | hp
        · exact .tail _ (.tail _ (.head _))
        · exact .tail _ (.tail _ (.tail _ (sub8 p hp))))
theorem nw_back {I D1 D2 D3 : Addr} {o1 o2 o3 q1 q2 q3 : Obj} {nw5 : List (Addr × Obj)} (h : ∀ p ∈ ((D1, o1) :: (D2, o2) :: (D3, o3) :: nw5), p.1 ∉ [I]) : ∀ p ∈ ((D1, q1) :: (D2, q2) :: (D3, q3) :: nw5), p.1 ∉ [I] := fun p hp => by
  rcases List.mem_cons.mp hp with rfl | hp
  · exact h (D1, o1) (.head _)
  · rcases List.mem_cons.mp hp with rfl | hp
    · exact h (D2, o2) (.tail _ (.head _))
    · rcases List.mem_cons.mp hp with rfl | hp
      · exact h (D3, o3) (.tail _ (.tail _ (.head _)))
      · exact h _ (.tail _ (.tail _ (.tail _ hp)))
end
end

section
set_option Elab.async false
set_option maxRecDepth 100000
section
section
variable {M : Model} {A : Around} {E : Value → Shared → Prop} {s : Shared} {env : Env}
theorem wpR_notCall {f : Expr} {args : List Expr} {kw : List Keyword} {pos p2 : Pos} {whole : Sem Value} {Q : Bool → Shared → Prop}
    (h : wpR M A (eval (.Call f args kw pos) env) (fun v s₁ => wpAny M A (truthy v) (fun b s₂ => Q (!b) s₂) E s₁) E s) :
    wpR M A (isTrue (.UnaryOp .Not (.Call f args kw pos) p2) env whole) Q E s := by
  rw [arm_isTrue_UnaryOp]
  refine wpR_bind ?_
  show wpR M A (do
    let v ← eval (.Call f args kw pos) env
    standAt pos
    holding [v] (truthy v)) _ _ _
  refine wpR_bind (wpR_mono h (fun v s₁ h₁ => ?_) fun _ _ x => x)
  exact wpR_bindA (wpAny_standAt (wpR_of (wpAny_holding (wpAny_mono h₁ (fun b s₂ h₂ => wpR_pure h₂) fun _ _ x => x))))
theorem callWithR_K {K : Frag} {f : Addr} {pos : Pos} {args : List (Bool × Sem Value)} {oc : Value} {od : Option Addr} {fd : FuncData} {osl : Array (Option Value)} {Q : Value → Shared → Prop} (hplain : args.any (·.1) = false) (hl : K.lookup f = some ⟨oc, od, .func fd, osl⟩)
    (h : wpAny M A (evalArgs (.ref f) true args []) (fun x s₁ => K.In s₁.heap ∧ wpR M A (PySem.call (.ref f) x.pos x.kw) Q E s₁) E s) : wpR M A (callWith pos (.ref f) [] args []) Q E s :=
  callWithR_function hplain (wpAny_mono h (fun x s₁ h₁ => ⟨⟨h₁.1 _ _ hl, rfl⟩, h₁.2⟩) fun _ _ x => x)
end
section
variable {w : World} {f : Addr} {news : List (Addr × Obj)} {vs : List Value} {dn un' : Nat} {Ret : Value → Prop} {mean : ExcName → Option Value} {mg mb : Str → Option Value} {dp un : Nat} {gd : Option (List Code)} {cn : Str} {cs : Scope} {a : Addr} {ccd : Value} {A₀ : Around} {base h₀ : Heap} {L : Addr} {m : Str → Option Value} {s : Shared} {Q E : Value → Shared → Prop}
theorem mcg_use (C : MCG w f news vs dn un' Ret) (B : Below A₀ base [] h₀) (F : Fr h₀ L s.heap m) (X : (hd1.heap_39 w.params).In h₀) (N : News h₀ L s.heap news) (T : Top hd1.view_39 (looseW hd1.view_39 [Str.ofString "bytes_types"]) mean mg mb h₀)
    (XB : (hd1.heap_39 w.params).In base) (TB : Top hd1.view_39 (looseW hd1.view_39 [Str.ofString "bytes_types"]) mean mg mb base) (hk : cs.kind = .function)
    (hd : dp + dn < recursionLimit) (hu : un + un' < cLine) (k : ∀ r h' tk', Ret r → Fr h₀ L h' m → News h₀ L h' news → Q r { s with heap := h', toks := tk' }) :
    wpR (model PySem.Challenge.rw_kl0184_01.row.prog w) (ktrTop dp un gd cn cs L a ccd [] []) (call (.ref f) vs) Q E s :=
  C _ _ _ _ _ _ _ _ _ _ _ _ _ _ _ _ _ _ B F X N T XB TB hk hd hu k
end
theorem shape_of {ps : List (List UInt8)} (h : ∀ p ∈ ps, p ≠ [] ∧ p.length ≤ 3) : ∀ p ∈ ps, p ≠ [] ∧ p.length ≤ 3 := h
theorem p1_shape {tb hb : Bool} {rows : List (UInt8 × Int)} : ∀ p ∈ P1 tb hb rows, p ≠ [] ∧ p.length ≤ 3 := fun p hp => by
  obtain ⟨r, _, rfl⟩ := List.mem_map.mp hp
  exact coded_len (pc1_coded tb hb r.1)
theorem p2_shape {tb hb : Bool} {rows : List (UInt8 × Int)} : ∀ p ∈ P2 tb hb rows, p ≠ [] ∧ p.length ≤ 3 := fun p hp => by
  obtain ⟨r, _, rfl⟩ := List.mem_map.mp hp
  exact coded_len (pc2_coded tb hb r.1 r.2)
theorem p3_shape {rows : List (UInt8 × Int)} : ∀ p ∈ P3 rows, p ≠ [] ∧ p.length ≤ 3 := fun p hp => by
  obtain ⟨r, _, rfl⟩ := List.mem_map.mp hp
  exact ⟨by simp, by simp⟩
end
section
def pm (pv : Option Value) (M : Str → Option Value) : Str → Option Value := fun y => if y = Str.ofString "pieces" then pv else M y
theorem fr_pm {g h : Heap} {L : Addr} {m : Str → Option Value} (F : Fr g L h m) : ∃ pv, Fr g L h (pm pv m) := by
  refine ⟨m (Str.ofString "pieces"), ?_⟩
  have e : pm (m (Str.ofString "pieces")) m = m := by
    funext y
    unfold pm
    by_cases h : y = Str.ofString "pieces"
    · rw [if_pos h, h]
    · rw [if_neg h]
  rw [e]
  exact F
theorem pm_turn {g h : Heap} {L : Addr} {v pv : Option Value} {M : Str → Option Value} (F : Fr g L h (fun y => if y = Str.ofString "pieces" then v else pm pv M y)) : Fr g L h (pm v M) := by
  have e : (fun y => if y = Str.ofString "pieces" then v else pm pv M y) = pm v M := by
    funext y
    unfold pm
    by_cases h : y = Str.ofString "pieces"
    · rw [if_pos h, if_pos h]
    · rw [if_neg h, if_neg h, if_neg h]
  rw [← e]
  exact F
end
end

section
set_option Elab.async false
set_option maxRecDepth 100000
section
section
variable {prog : Program} {w : World} {A : Around} {s : Shared} {h₀ : Heap} {L : Addr} {m : Str → Option Value} {env : Env} {x x₂ : Str} {p : Pos} {scope : Scope} {cl : List (Str × Addr)} {ax : Addr} {items : List Value} {rows : List (Int × Int)} {news : List (Addr × Obj)}
/-- a block that takes the first of each pair -/
theorem due_rest {Fin : List Value → List (Addr × Obj) → Prop} (hr : RowAre items rows news) (hs : LCg.SrcAt h₀ ax items.toArray news)
    (hk : ∀ C, (compEnvC scope cl C env).scope.kind = .function) (hx : ∀ C, (compEnvC scope cl C env).kindOf x = some .local) (hd : (x == ("__debug__" : Str)) = false)
    (fin : ∀ ys, IntsAre ys (rows.map (·.1)) → Fin ys news) : ∀ (k i : Nat) (ys : List Value), i + k = rows.length → IntsAre ys ((rows.map (·.1)).take i) →
      LCp.CompRestP prog w A h₀ L m env (.Name x p) x x₂ scope cl s (LCg.SrcAt h₀ ax items.toArray) (fun i v => items.toArray[i]? = some v) Fin k i ys news
  | 0, i, ys, hi, hy => by
    refine LCp.CompRestP.zero (fin ys ?_)
    rwa [List.take_of_length_le (by simp; omega)] at hy
  | k + 1, i, ys, hi, hy => by
    refine LCp.CompRestP.succ fun v hP => ?_
    have hil : i < rows.length := by omega
    have hri := List.getElem?_eq_getElem hil
    obtain ⟨a, t, u, e, hm⟩ := hr.2 i _ hri
    have hv : v = .ref a := by
      have : items[i]? = some v := by simpa using hP
      rw [e] at this
      exact (Option.some.inj this).symm
    subst hv
    refine ⟨a, _, .int (rows[i]).1 t, .int (rows[i]).2 u, 0, rfl, hm, rfl, rfl, fun I oI C oC D m₂ h tk E' hC h1 h2 F N off ne => ?_⟩
    refine LCgL.ld_own N (.tail _ (.head _)) hC h1 ?_ (hk C) (hx C) hd
    refine LCg.CompEnd.intro F N news (fun q hq => hq) off hs ?_
    refine due_rest hr hs hk hx hd fin k (i + 1) _ (by omega) ?_
    exact ints_snoc hy (by rw [List.getElem?_map, hri]; rfl)
end
end
end

section
set_option Elab.async false
set_option maxRecDepth 100000
section
open Builtin
theorem slot_join : Slot "bytes" "join" "bytes.join" :=
  .of (owner := "bytes") (n := "join") (by rw [typeLookup_type, builtinLookup_eq_fast]; kernel_rfl) (by decide +kernel) (by decide +kernel) (by decide +kernel)
    (by first | exact .inl (by decide +kernel) | exact .inr (by decide +kernel)) (by rw [isSubtype_type]; kernel_rfl)
theorem type_join : typeOf (.builtin "bytes.join") = pure (.type "method_descriptor") := by show builtinType _ = _; rw [builtinType_eq_fast]; kernel_rfl
theorem entry_join : entryFor table "bytes.join" = some Builtin.«bytes.join» := entryFor_of_tree (by kernel_rfl)
theorem args_join (a b : Value) : argsOk "bytes.join" ⟨[a, b], []⟩ := by unfold argsOk; kernel_rfl
section
variable {M : Model} {A : Around} {E : Value → Shared → Prop} {s : Shared} {b : Array UInt8} {t : Tok} {pl : Sem Bool} {Q : Value × List Value → Shared → Prop}
theorem gm_join (h : Q (.builtin "bytes.join", [.bytes b t]) s) : wpAny M A (getMethod (.bytes b t) "join" pl) Q E s :=
  getMethod_builtin (typeIs_bytes s b t) FB.plainAttrs_bytes slot_join type_join (fun _ e => nomatch e) h
end
section
variable {M : Model} {A : Around} {E : Value → Shared → Prop} {s : Shared}
theorem forIn_inv {β : Type} {n : Nat} {f : Nat → β → Sem (ForInStep β)} (I : Nat → β → Prop) {Q : β → Shared → Prop}
    (step : ∀ i b (Q' : ForInStep β → Shared → Prop), i < n → I i b → (∀ b', I (i + 1) b' → Q' (.yield b') s) → wpAny M A (f i b) Q' E s) (hQ : ∀ b, I n b → Q b s) :
    ∀ k i b, i + k = n → I i b → wpAny M A (forIn (List.range' i k 1) b f) Q E s
  | 0, i, b, hi, h => by
    rw [List.range'_zero]
    refine wp_forIn_nil (hQ b ?_)
    rw [← hi]
    exact h
  | k + 1, i, b, hi, h => by
    rw [List.range'_succ]
    refine wp_forIn_cons (step i b _ (by omega) h fun b' h' => ?_)
    exact forIn_inv I step hQ k (i + 1) b' (by omega) h'
end
section
variable {prog : Program} {w : World} {A : Around} {E : Value → Shared → Prop} {s : Shared}
theorem take_by {id : String} {b : Array UInt8} {t : Tok} {Q : Option (Array UInt8 × Option Value) → Shared → Prop} (h : Q (some (b, none)) s) :
    wpAny (model prog w) A (Bytes.takeBufferQuiet? id (.bytes b t) 0) Q E s := by
  unfold Bytes.takeBufferQuiet?
  refine wpAny_bind (wpAny_attempt ?_)
  unfold Bytes.takeBuffer?
  refine wpAny_bind (wpAny_specialOf (typeIs_bytes _ b t) by_buffer ?_)
  (try dsimp only)
  unfold Bytes.slotIsOwn
  refine wpAny_bind (wpAny_bind (wpAny_specialOf (typeIs_bytes _ b t) by_buffer ?_))
  (try dsimp only)
  rw [if_neg (by decide +kernel)]
  refine wpAny_isInstance (typeIs_bytes _ b t) sub_by_own ?_
  rw [if_neg (by decide)]
  refine wpAny_bind (wpAny_specialOf (typeIs_bytes _ b t) by_buffer ?_)
  (try dsimp only)
  unfold Bytes.buffer?
  refine wpAny_bind (wpAny_bind (wpAny_specialOf (typeIs_bytes _ b t) by_buffer ?_))
  (try dsimp only)
  unfold Bytes.slotIsOwn
  refine wpAny_bind (wpAny_bind (wpAny_specialOf (typeIs_bytes _ b t) by_buffer ?_))
  (try dsimp only)
  rw [if_neg (by decide +kernel)]
  refine wpAny_isInstance (typeIs_bytes _ b t) sub_by_own ?_
  rw [if_neg (by decide)]
  refine wpAny_bind (wpAny_specialOf (typeIs_bytes _ b t) by_buffer ?_)
  (try dsimp only)
  refine wpAny_bind (by_ownRelease ?_)
  rw [if_neg (by decide)]
  exact wpAny_bind (wpAny_of_eq (a := b) rfl (wpAny_pure (wpAny_pure (wpAny_pure h))))
theorem joined_nil (l : List (Array UInt8)) : Bytes.joined #[] l = (l.map Array.toList).flatten.toArray := by
  unfold Bytes.joined
  have key : ∀ (l : List (Array UInt8)) (k : Nat) (out : Array UInt8), (l.zipIdx k).foldl (fun out (p, i) => (if i > 0 then out ++ #[] else out) ++ p) out = out ++ (l.map Array.toList).flatten.toArray := by
    intro l
    induction l with
    | nil => intro k out; simp
    | cons a l ih =>
      intro k out
      rw [List.zipIdx_cons, List.foldl_cons, ih]
      apply Array.ext'
      simp
  rw [key]
  simp
theorem letgo_none (keep : List Value) {Q : Unit → Shared → Prop} (h : Q () s) : ∀ (taken : List Value), wpAny (model prog w) A (Bytes.joinLetGo (taken.map fun v => (v, none)) keep) Q E s
  | [] => wpAny_pure h
  | v :: r => by
    show wpAny _ _ (Bytes.joinLetGo ((v, none) :: _) keep) _ _ _
    unfold Bytes.joinLetGo
    (try dsimp only)
    unfold PySem.letGo PySem.letGo
    refine wpAny_bind (wpAny_bind (wpAny_holding (wpAny_point (wpAny_pure ?_))))
    exact letgo_none keep h r
theorem fold_len : ∀ (ps : List (List UInt8)) (k : Nat), (ps.map List.toArray).foldl (fun x1 (x2 : Array UInt8) => x1 + x2.size) k = k + ps.flatten.length
  | [], k => by simp
  | p :: r, k => by
    rw [List.map_cons, List.foldl_cons, fold_len r]
    simp
    omega
theorem jm {α : Type} {its : Array Value} (h : 2 ≤ its.size) (f : Value → α) (g : Array Value → α) : Bytes.joinM.match_1 (motive := fun _ => α) its f g = g its := by
  unfold Bytes.joinM.match_1
  rw [dif_neg (by omega)]
theorem any_off {vs : List Value} {ps : List (List UInt8)} (hp : PiecesAre vs ps) (i : Nat) : ¬ ((Bytes.Kind.bytes == Bytes.Kind.bytearray || ((vs.take i).map fun v => (v, (none : Option Value))).any fun x => x.1.onHeap) = true) := by
  have h1 : (Bytes.Kind.bytes == Bytes.Kind.bytearray) = false := rfl
  rw [h1, Bool.false_or, List.any_eq_true]
  rintro ⟨x, hx, hb⟩
  obtain ⟨v, hv, rfl⟩ := List.mem_map.mp hx
  obtain ⟨k, hk, rfl⟩ := List.mem_iff_getElem.mp (List.mem_of_mem_take hv)
  have hk2 : k < ps.length := by rw [← hp.1]; exact hk
  obtain ⟨t, e⟩ := hp.2 k _ (List.getElem?_eq_getElem hk2)
  rw [List.getElem?_eq_getElem hk] at e
  have e := Option.some.inj e
  dsimp only at hb
  rw [e] at hb
  exact Bool.noConfusion hb
theorem wp_join {l : Addr} {o : Obj} {vs : List Value} {n : Nat} {ps : List (List UInt8)} {t : Tok} {Q : Value → Shared → Prop} (ho : s.heap.get? l = some o) (hc : o.cls = .type "list") (hd : o.data = .seq vs.toArray n)
    (hp : PiecesAre vs ps) (hz : ps.flatten.length ≤ sizeLine) (h2 : 2 ≤ vs.length) (h : ∀ t' k, Q (.bytes ps.flatten.toArray t') { s with toks := k }) :
    wpAny (model prog w) A (call (.builtin "bytes.join") [.bytes #[] t, .ref l]) Q E s := by
  refine wpAny_call_entry slot_join (typeIs_bytes s #[] t) entry_join ?_ (args_join _ _)
  show wpAny (model prog w) A.in1 (Bytes.joinM .bytes ⟨[.bytes #[] t, .ref l], []⟩) _ E s
  unfold Bytes.joinM
  refine wpAny_bind (wpAny_of_eq (a := (.bytes #[] t, .ref l)) rfl ?_)
  dsimp only
  have hT : s.TypeIs (.ref l) "list" := ⟨o, ho, hc⟩
  obtain ⟨its, hI⟩ : ∃ its, vs.toArray = its := ⟨_, rfl⟩
  rw [hI] at hd
  rw [if_pos (by rfl)]
  refine wpAny_bind ?_
  unfold Bytes.joinItems
  refine wpAny_bind (wpAny_typeOf hT ?_)
  rw [if_pos (by decide +kernel)]
  refine wpAny_pure ?_
  refine wpAny_bind (wpAny_seqItems ho hd ?_)
  dsimp only
  rw [if_pos (by rfl)]
  rw [jm (by rw [← hI, List.size_toArray]; exact h2)]
  subst hI
  rw [Std.Legacy.Range.forIn_eq_forIn_range', range_size]
  have hlen : vs.toArray.size = ps.length := by rw [List.size_toArray]; exact hp.1
  refine wpAny_bind (forIn_inv (n := vs.toArray.size) (fun i b => b = (((ps.take i).map List.toArray).toArray, (vs.take i).map fun v => (v, none))) ?step ?fin _ 0 _ (by simp) (by rfl))
  case step =>
    rintro i b Q' hi rfl hk
    refine wpAny_bind (wpAny_seqItems ho hd ?_)
    dsimp only
    have hpi : i < ps.length := by omega
    obtain ⟨t', e⟩ := hp.2 i _ (List.getElem?_eq_getElem hpi)
    have eg : vs.toArray.getD i .none = .bytes (ps[i]).toArray t' := by simp [e]
    rw [eg]
    rw [if_neg (any_off hp i)]
    refine wpAny_bind (wpAny_holding (take_by ?_))
    dsimp only
    refine wpAny_bind (wpAny_seqItems ho hd ?_)
    dsimp only
    rw [if_neg (by simp)]
    refine wpAny_pure (hk _ ?_)
    have hvi : i < vs.length := by have := hp.1; omega
    have ev : vs[i] = .bytes (ps[i]).toArray t' := by
      rw [List.getElem?_eq_getElem hvi] at e
      exact Option.some.inj e
    rw [List.take_succ_eq_append_getElem hpi, List.take_succ_eq_append_getElem hvi, ev, List.map_append, List.map_append]
    refine Prod.ext ?_ rfl
    show Array.push _ _ = _
    rw [List.push_toArray]
    rfl
  case fin =>
    rintro b rfl
    dsimp only
    rw [hlen, List.take_length]
    refine wpAny_bind (wpAny_of_eq (a := #[]) rfl ?_)
    have hsum : Array.foldl (fun x1 (x2 : Array UInt8) => x1 + x2.size) ((#[] : Array UInt8).size * ((List.map List.toArray ps).toArray.size - 1)) (List.map List.toArray ps).toArray = ps.flatten.length := by
      rw [← Array.foldl_toList]
      have := fold_len ps 0
      simp at this ⊢
      exact this
    rw [hsum, if_neg (by unfold Bytes.tooLong; simpa using hz)]
    rw [joined_nil, List.map_map]
    have hmm : List.map (Array.toList ∘ List.toArray) ps = ps := by
      rw [show (Array.toList ∘ List.toArray : List UInt8 → List UInt8) = _root_.id from rfl, List.map_id]
    rw [hmm]
    refine wpAny_bind (wpAny_mkBytes ?_ (by simpa using hz))
    refine wpAny_bind (wpAny_holding (wpAny_point ?_))
    refine wpAny_bind (letgo_none _ ?_ _)
    exact wpAny_pure ⟨_, rfl, h _ _⟩
end
end
end

section
set_option Elab.async false
section
theorem coded_P1 (tb hb : Bool) {rows : List (Int × Int)} (rin : ∀ r ∈ rows, 0 ≤ r.1 ∧ r.1 < 256) : CodedAll (P1 tb hb (toU rows)) (rows.map (·.1)) := by
  refine ⟨by simp [P1, toU], fun i p n hp hn => ?_⟩
  simp only [P1, toU, List.getElem?_map, Option.map_map] at hp hn
  cases e : rows[i]? with
  | none => rw [e] at hp; cases hp
  | some r =>
    rw [e] at hp hn
    obtain rfl := Option.some.inj hp
    obtain rfl := Option.some.inj hn
    have h := pc1_coded tb hb r.1.toNat.toUInt8
    rw [← u8_back (rin r (List.mem_of_getElem? e))] at h
    exact h
theorem coded_P2 (tb hb : Bool) {rows : List (Int × Int)} (rin : ∀ r ∈ rows, 0 ≤ r.1 ∧ r.1 < 256) : CodedAll (P2 tb hb (toU rows)) (rows.map (·.1)) := by
  refine ⟨by simp [P2, toU], fun i p n hp hn => ?_⟩
  simp only [P2, toU, List.getElem?_map, Option.map_map] at hp hn
  cases e : rows[i]? with
  | none => rw [e] at hp; cases hp
  | some r =>
    rw [e] at hp hn
    obtain rfl := Option.some.inj hp
    obtain rfl := Option.some.inj hn
    have h := pc2_coded tb hb r.1.toNat.toUInt8 r.2
    rw [← u8_back (rin r (List.mem_of_getElem? e))] at h
    exact h
theorem flat_len : ∀ {ps : List (List UInt8)}, (∀ p ∈ ps, p ≠ [] ∧ p.length ≤ 3) → ps.flatten.length ≤ 3 * ps.length
  | [], _ => by simp
  | p :: r, h => by
    have h1 := (h p (.head _)).2
    have h2 := flat_len fun q hq => h q (.tail _ hq)
    rw [List.flatten_cons, List.length_append, List.length_cons]
    omega
theorem flat_P1 (tb hb : Bool) {rows : List (Int × Int)} (h : rows.length ≤ 41) : (P1 tb hb (toU rows)).flatten.length ≤ 123 := by
  have := flat_len (p1_shape (tb := tb) (hb := hb) (rows := toU rows))
  have e : (P1 tb hb (toU rows)).length = rows.length := by simp [P1, toU]
  omega
theorem flat_P2 (tb hb : Bool) {rows : List (Int × Int)} (h : rows.length ≤ 41) : (P2 tb hb (toU rows)).flatten.length ≤ 123 := by
  have := flat_len (p2_shape (tb := tb) (hb := hb) (rows := toU rows))
  have e : (P2 tb hb (toU rows)).length = rows.length := by simp [P2, toU]
  omega
end
end

section
set_option Elab.async false
section
theorem post_true (ns : List Int) : PySem.Challenge.rw_kl0184_01.row.claim.post [ofPy (PyData.list (List.map PyData.int ns))] (WData.bool true) [ofPy (PyData.list (List.map PyData.int ns))] = true :=
  postW_of (by wrow_shape) (by wtm_val) (by str_meet; first | done | w_fin)
end
section
/-- a statement; the counter stands at one or more behind it, too -/
theorem wpR_one_toks {M : Model} {A : Around} {E : Value → Shared → Prop} {s : Shared} {env : Env} {st : Stmt} {rest : List Stmt} {Q : Flow → Shared → Prop} (hn : 1 ≤ s.toks)
    (h : wpAny M A (exec st env) (fun f s' => 1 ≤ s'.toks → match f with | .next => wpR M A (execs rest env) Q E s' | f => Q f s') E s) : wpR M A (execs (st :: rest) env) Q E s :=
  wpR_execs_cons (wpR_with_toks hn (wpR_of h))
end
section
/-- what stands under the four names that are read from here on may be anything -/
theorem gen_tail {g h : Heap} {L : Addr} {v b1 b2 : Option Value} {M : Str → Option Value} (F : Fr g L h (fun z => if z = Str.ofString "row" then v else if z = Str.ofString "tabs" then b1 else if z = Str.ofString "head" then b2 else M z)) :
    ∃ M' : Str → Option Value, Fr g L h (fun z => if z = Str.ofString "row" then v else if z = Str.ofString "tabs" then b1 else if z = Str.ofString "head" then b2 else M' z) := ⟨M, F⟩
end
end

section
set_option Elab.async false
section
local macro_rules | `(tactic| walk_at "call type:type") => `(tactic| (k_here; (with_reducible show wpAny _ _ (call (Value.type "type") [Value.bytes _ _]) _ _ _); refine type_of_bytes ?_))
local macro_rules | `(tactic| walk_at "call type:type") => `(tactic| (k_here; (with_reducible show wpAny _ _ (call (Value.type "type") [Value.ref _]) _ _ _); k_dflt (refine' kto_cont (T := "ValueError") ?c ?n ?_; (case c => (refine' kitAt_N ?N ?m ?c; (case N => k_asm); (case m => k_mem); (case c => assumption))); (case n => decide +kernel); k_whole)))
local macro_rules | `(tactic| walk_at "compareOp Is") => `(tactic| (k_here; (with_reducible show wpAny _ _ (compareOp CmpOp.Is (Value.type _) (Value.type _)) _ _ _); k_dflt (refine is_type_self ?_)))
local macro_rules | `(tactic| walk_at "compareOp IsNot") => `(tactic| (k_here; (with_reducible show wpAny _ _ (compareOp CmpOp.IsNot (Value.type _) (Value.type _)) _ _ _); k_dflt (refine isnot_type_self ?_)))
local macro_rules | `(tactic| walk_at "CompSrc") => `(tactic| (k_here; k_dflt (refine' LCg.CompSrc.ledger ?h ?F ?N ?m ?z ?_; (case h => rfl); (case F => k_asm); (case N => k_asm); (case m => k_mem); (case z => ((with_reducible rename IntsAre _ (List.take 30 _) => hI9); rw [sizeLine_eq, List.size_toArray, hI9.length, List.length_take]; omega))); intro g'))
local macro_rules | `(tactic| walk_at "binaryOp Add ref ref") => `(tactic| (k_here; k_dflt (refine' row_add ?F ?N ?a ?b ?z ?_; (case F => k_asm); (case N => k_asm); (case a => k_mem); (case b => k_mem); (case z => (simp only [List.length_cons, List.length_nil]; omega))); intro D' h' F' N' l1'))
local macro_rules | `(tactic| walk_at "call builtin:list.append") => `(tactic| (k_here; (show wpAny _ _ (call (Value.builtin _) [Value.ref _, _]) _ _ _); k_dflt (first
  | (refine' app1 ?F ?N ?d ?z ?_; (case F => k_asm); (case N => first | assumption | exact news_tl (by assumption) | exact news_tl (news_tl (by assumption))); (case d => assumption); (case z => assumption))
  | (refine' app2 ?F ?N ?d ?z ?_; (case F => k_asm); (case N => first | assumption | exact news_tl (by assumption) | exact news_tl (news_tl (by assumption))); (case d => assumption); (case z => assumption))
  | (refine' app3 ?F ?N ?d ?z ?_; (case F => k_asm); (case N => first | assumption | exact news_tl (by assumption) | exact news_tl (news_tl (by assumption))); (case d => assumption); (case z => assumption))); intro h' F' N'; (try k_sweep)))
local macro_rules | `(tactic| walk_at "compareOp Eq int int") => `(tactic| (k_here; k_dflt (first
  | (refine' eq_yes ?h1 ?_; (case h1 => first | assumption | omega))
  | (refine' eq_no ?h1 ?_; (case h1 => first | assumption | omega)))))
local macro_rules | `(tactic| walk_at "compareOp NotEq int int") => `(tactic| (k_here; k_dflt (first
  | (refine' ne_yes ?h1 ?_; (case h1 => first | assumption | omega))
  | (refine' ne_no ?h1 ?_; (case h1 => first | assumption | omega | rfl)))))
local macro_rules | `(tactic| walk_at "compareOp NotEq bytes bytes") => `(tactic| (k_here; k_dflt (refine ne_bytes_self ?_)))
local macro_rules | `(tactic| walk_at "call ref") => `(tactic| (k_here; (show wpAny _ _ (call (Value.ref 29) [Value.bytes _ _, Value.bool _, Value.bool _]) _ _ _); k_dflt (first
  | (refine' mc_use (needs_t ?ho) ?k1 ?k2 ?k3 ?k4 ?k5 ?kK ?kd ?ku ?_; (case ho => assumption); (case k1 => k_asm); (case k2 => k_asm); (case k3 => k_asm); (case k4 => k_asm); (case k5 => k_asm); (case kK => first | exact rfl | assumption); (case kd => (first | ktr_room | decide)); (case ku => (first | ktr_units | decide)); k_whole)
  | (refine' mc_use (needs_f ?ho) ?k1 ?k2 ?k3 ?k4 ?k5 ?kK ?kd ?ku ?_; (case ho => assumption); (case k1 => k_asm); (case k2 => k_asm); (case k3 => k_asm); (case k4 => k_asm); (case k5 => k_asm); (case kK => first | exact rfl | assumption); (case kd => (first | ktr_room | decide)); (case ku => (first | ktr_units | decide)); k_whole)); intro r9 h9 tk9 R9 F9 N9; subst R9; (try dsimp only); (try k_fold)))
local macro_rules | `(tactic| walk_at "call ref") => `(tactic| (k_here; (show wpAny _ _ (call (Value.ref 36) [Value.bytes _ _]) _ _ _); k_dflt (refine' mc_use (sp_quote _ _ _ _) ?k1 ?k2 ?k3 ?k4 ?k5 ?kK ?kd ?ku ?_; (case k1 => k_asm); (case k2 => k_asm); (case k3 => k_asm); (case k4 => k_asm); (case k5 => k_asm); (case kK => first | exact rfl | assumption); (case kd => (first | ktr_room | decide)); (case ku => (first | ktr_units | decide)); k_whole; intro r9 h9 tk9 R9 F9 N9; obtain ⟨t9, R9⟩ := R9; subst R9; (try dsimp only); (try k_fold))))
local macro_rules | `(tactic| walk_at "call ref") => `(tactic| (k_here; (show wpAny _ _ (call (Value.ref 57) [Value.int _ _, Value.bool _, Value.bool _]) _ _ _); k_dflt (refine' mc_use (spelled_as ?hp) ?k1 ?k2 ?k3 ?k4 ?k5 ?kK ?kd ?ku ?_; (case hp => assumption); (case k1 => k_asm); (case k2 => k_asm); (case k3 => k_asm); (case k4 => k_asm); (case k5 => k_asm); (case kK => first | exact rfl | assumption); (case kd => (first | ktr_room | decide)); (case ku => (first | ktr_units | decide)); k_whole; intro r9 h9 tk9 R9 F9 N9; obtain ⟨t9, R9⟩ := R9; subst R9; (try dsimp only); (try k_fold))))
local macro_rules | `(tactic| walk_at "call ref") => `(tactic| (k_here; (show wpAny _ _ (call (Value.ref 64) [Value.str _ _, Value.bytes _ _, Value.bool true]) _ _ _); k_dflt (refine' mc_use (sp_door_ok _ _ ?hx ?hz _ _ _ ?hb _) ?k1 ?k2 ?k3 ?k4 ?k5 ?kK ?kd ?ku ?_; (case hx => assumption); (case hz => assumption); (case hb => assumption); (case k1 => k_asm); (case k2 => k_asm); (case k3 => k_asm); (case k4 => k_asm); (case k5 => k_asm); (case kK => first | exact rfl | assumption); (case kd => (first | ktr_room | decide)); (case ku => (first | ktr_units | decide)); k_whole; intro r9 h9 tk9 R9 F9 N9; subst R9; (try dsimp only); (try k_fold))))
local macro_rules | `(tactic| walk_at "call ref") => `(tactic| (k_here; (show wpAny _ _ (call (Value.ref 76) [Value.bytes (List.toArray _) _]) _ _ _); k_dflt (refine' mcl_use (sp_read _ _ _ ?hc ?hl _ rfl ?hz _ _) ?k1 ?k2 ?k3 ?k4 ?k5 rfl ?kd ?ku ?_; (case hc => assumption); (case hl => assumption); (case hz => assumption); (case k1 => k_asm); (case k2 => k_asm); (case k3 => k_asm); (case k4 => k_asm); (case k5 => k_asm); (case kd => decide); (case ku => decide); k_whole; intro D9 h9 tk9 ys9 Y9 F9 N9; (try dsimp only))))
set_option maxRecDepth 100000 in
set_option maxHeartbeats 8000000 in
theorem law_holds : PySem.Challenge.rw_kl0184_01.Holds := by
  w_on
  refine hd1 ?_
  k_fill
  intro w s₀ s₁ mg mb G Y fa o pm cd doc dV kV ho hd hcd hD hmg hg args vals as hpre hlay hrd hwl hlo
  have KX := kIn_of Y
  have X := (Ground.X G).1
  have V := (Ground.X G).2
  refine Ground.open G ?_
  intro T B D TE TW
  have TA := at_of_top T
  try (obtain ⟨_, _, he, B0⟩ := based_of_top T rfl hmg ho hd; have he' : cd = _ := he; subst he'; clear he)
  clear hmg
  wrow_args hpre hlay hrd hwl hlo
  have he := Dflts.none hD rfl
  subst he
  refine codeR_full (by decide) ho hd (Top.nolimit T) hcd (BindsTo.of_eq rfl) (locs rfl) fun h₁ F => ?_
  have N0 := (News.nil : News _ _ _ []).at F
  have K0 : Below callerA s₁.heap [] s₁.heap := below_caller _
  clear hd hD TA hcd B V TE TW
  refine some_toks (by k_dflt exact Nat.le_add_left 1 _) fun tk1 hT1 => ?_
  refine wpR_one ?_
  k_steps
  refine wpR_one ?_
  k_steps
  dsimp only
  with_reducible rename Fr _ _ _ _ => F2
  obtain ⟨tb, hb, F2⟩ := two_bools F2
  refine wpR_one ?_
  k_dflt (refine LCg.Assign_ListComp_U (F₀ := by k_asm) (by rfl) (by with_unfolding_all rfl) (by rfl) (by decide) (by rfl) (by decide) (by rfl) (by rfl) (by rfl) ?_)
  k_dflt lcg_toSrc
  with_reducible rename IntsAre _ (List.take 30 _) => hI3
  refine rest_tup (f1 := fun n => n.fmod 256) (f2 := fun n => (n.fdiv 256).fmod 4) hI3 ?helt ?fin _ 0 [] _ ?hk RowAre.nil ?hs
  case hk => simp [hI3.length]
  case hs => exact .inr ⟨_, by k_mem, rfl, _, rfl⟩
  case helt =>
    intro n tn I oI C oC D ys m₂ h tk nw Q E' hC hm F N hQ
    k_steps
    with_reducible rename _ ∧ _ ∧ _ ∧ AllLt _ _ => l9
    with_reducible rename Fr _ _ _ _ => F9
    with_reducible rename News _ _ _ _ => N9
    exact hQ _ _ _ _ _ F9 N9 (lt_three l9)
  case fin =>
    intro ys nw hrow hsrc D3 h3 tk3 F3 N3 o3
    obtain ⟨M3, F3⟩ := gen_tail F3
    dsimp only
    have hyz : ys.length ≤ 30 := by rw [hrow.1]; simp; omega
    refine wpR_one ?_
    k_steps
    with_reducible rename News _ _ _ _ => N4
    with_reducible rename Fr _ _ _ _ => F4
    have hrow4 := row_pack (qs := extra) N4 hrow (fun p hp => by repeat (first | exact hp | apply List.mem_cons_of_mem)) (by
      unfold extra
      repeat' (first | exact RowAre.nil | (refine' RowAre.cons ?_ ?_) | (k_dflt k_mem)))
    clear N4 hrow hsrc o3
    obtain ⟨items, nw4, N5, hr5, hm5⟩ := hrow4
    dsimp only
    refine wpR_one ?_
    k_steps
    with_reducible rename Fr _ _ _ _ => F5
    with_reducible rename News _ _ _ _ => N6
    with_reducible rename ∀ p ∈ nw4, _ => d1
    with_reducible rename _ ∧ AllLt _ nw4 => d2
    with_reducible rename _ ∧ _ ∧ AllLt _ nw4 => d3
    with_reducible rename _ ∧ _ ∧ _ ∧ AllLt _ nw4 => d4
    obtain ⟨nw5, N7, ap, sub5⟩ := pack5 N6 d1 d2 d3 d4
    clear N6 d1 d2 d3 d4
    have hr6 := hr5.more sub5
    have hm6 := sub5 _ hm5
    clear hr5 hm5 sub5
    obtain ⟨p1, p2, p3, p4, F6⟩ := fr_lm F5 (fun y _ _ _ _ => rfl)
    clear F5
    dsimp only
    refine wpR_execs_cons (wpR_For (wpR_of ?_))
    k_steps
    obtain ⟨rows, hr6, rin, rlen⟩ : ∃ rows, RowAre items rows nw5 ∧ (∀ r ∈ rows, 0 ≤ r.1 ∧ r.1 < 256) ∧ (rows.length ≤ 41 ∧ 11 ≤ rows.length) := ⟨_, hr6, rows_in, rows_len _⟩
    refine iterR_list (items := items.toArray) (nn := 0) (T0 := 1) (L := s₁.heap.objs.size) rfl (fun i g' m nw => g' = s₁.heap ∧ ∃ y1 y2 y3, nw = (_, LCg.lst y1) :: (_, LCg.lst y2) :: (_, LCg.lst y3) :: nw5 ∧ PiecesAre y1 ((P1 tb hb (toU rows)).take i) ∧ PiecesAre y2 ((P2 tb hb (toU rows)).take i) ∧ PiecesAre y3 ((P3 (toU rows)).take i) ∧ ∃ p1 p2 p3 p4, m = lm p1 p2 p3 p4 _)
      (List.Mem.tail _ (List.Mem.tail _ (List.Mem.tail _ hm6))) rfl rfl ?turn6 ?done6 F6 N7 ⟨rfl, [], [], [], rfl, ⟨rfl, fun i p hp => by simp at hp⟩, ⟨rfl, fun i p hp => by simp at hp⟩, ⟨rfl, fun i p hp => by simp at hp⟩, _, _, _, _, rfl⟩ ?hT
    case hT => exact Nat.le_add_left 1 _
    case turn6 =>
      rintro I i v g' m nw own h tk hi hP e hnw ⟨rfl, y1, y2, y3, rfl, q1, q2, q3, p1, p2, p3, p4, rfl⟩ F7 N7 hT7
      obtain ⟨tl, N8, ap8, sub8, own8⟩ := turn_led N7 e hnw ap hm6
      have tag := tag_of F7
      clear N7 F6
      have hil : i < rows.length := by
        have := hr6.1
        simp at hi
        omega
      have hr := List.getElem?_eq_getElem hil
      have hrm : rows[i] ∈ rows := List.getElem_mem hil
      have hri := rin _ hrm
      generalize rows[i] = r at hr hri
      obtain ⟨ra, rt, ru, hit, hrm2⟩ := hr6.2 i r hr
      obtain rfl : v = Value.ref ra := by
        have : items[i]? = some v := by simpa using hP
        rw [hit] at this
        exact (Option.some.inj this).symm
      obtain ⟨r1, r2⟩ := r
      dsimp only at hri hrm2
      have ho := u8_back hri
      generalize ho8 : r1.toNat.toUInt8 = o at ho
      subst ho
      have hU : (toU rows)[i]? = some (o, r2) := by
        unfold toU
        rw [List.getElem?_map, hr]
        simp
      have hp1 : (P1 tb hb (toU rows))[i]? = some (pc1 tb hb o) := by unfold P1; rw [List.getElem?_map, hU]; rfl
      have hp2 : (P2 tb hb (toU rows))[i]? = some (pc2 tb hb o r2) := by unfold P2; rw [List.getElem?_map, hU]; rfl
      have hp3 : (P3 (toU rows))[i]? = some [o] := by unfold P3; rw [List.getElem?_map, hU]; rfl
      have hTup : IsTup h ra [Value.int (o.toNat : Int) rt, Value.int r2 ru].toArray := ⟨_, (N8 _ (List.Mem.tail _ (List.Mem.tail _ (List.Mem.tail _ (sub8 _ hrm2))))).1, rfl, _, rfl⟩
      have z1 : y1.length ≤ 1048576 := by rw [q1.1, List.length_take]; omega
      have z2 : y2.length ≤ 1048576 := by rw [q2.1, List.length_take]; omega
      have z3 : y3.length ≤ 1048576 := by rw [q3.1, List.length_take]; omega
      have hob : 0 ≤ (o.toNat : Int) ∧ (o.toNat : Int) < 256 := hri
      k_steps
      refine wpR_of ?_
      have hpc2 : (r2 = 2 ∧ pc2 tb hb o r2 = quoteB o) ∨ (r2 = 3 ∧ (o.toNat : Int) ≠ 61 ∧ pc2 tb hb o r2 = [o]) ∨ (r2 ≠ 2 ∧ ¬ (r2 = 3 ∧ (o.toNat : Int) ≠ 61) ∧ pc2 tb hb o r2 = pc1 tb hb o) := by
        unfold pc2
        by_cases a1 : r2 = 2
        · exact .inl ⟨a1, by rw [if_pos a1]⟩
        · rw [if_neg a1]
          by_cases a2 : r2 = 3 ∧ o.toNat ≠ 61
          · exact .inr (.inl ⟨a2.1, by omega, by rw [if_pos a2]⟩)
          · exact .inr (.inr ⟨a1, fun q => a2 ⟨q.1, by omega⟩, by rw [if_neg a2]⟩)
      cases hn : needsB o tb hb with
      | true =>
        have hpc : pc1 tb hb o = quoteB o := by unfold pc1; rw [if_pos hn]
        rw [hpc] at hp1
        rcases hpc2 with ⟨a1, e2⟩ | ⟨a1, a2, e2⟩ | ⟨a1, a2, e2⟩
        · rw [e2] at hp2
        
          k_steps
          with_reducible rename Fr _ _ _ _ => F9
          with_reducible rename News _ _ _ _ => N9
          obtain ⟨_, _, _, _, F10⟩ := fr_turn tag F9 (fun y g1 g2 g3 g4 => by simp only [g1, g2, g3, g4, if_false, lm])
          clear F9
          have N10 := led_back N9 own8 sub8
          clear N9
          refine ⟨.inl rfl, _, _, _, _, _, rfl, ⟨rfl, _, _, _, rfl, pieces_snoc q1 hp1, pieces_snoc q2 hp2, pieces_snoc q3 hp3, _, _, _, _, rfl⟩, F10, N10, nw_back hnw⟩
        · rw [e2] at hp2
        
          k_steps
          with_reducible rename Fr _ _ _ _ => F9
          with_reducible rename News _ _ _ _ => N9
          obtain ⟨_, _, _, _, F10⟩ := fr_turn tag F9 (fun y g1 g2 g3 g4 => by simp only [g1, g2, g3, g4, if_false, lm])
          clear F9
          have N10 := led_back N9 own8 sub8
          clear N9
          refine ⟨.inl rfl, _, _, _, _, _, rfl, ⟨rfl, _, _, _, rfl, pieces_snoc q1 hp1, pieces_snoc q2 hp2, pieces_snoc q3 hp3, _, _, _, _, rfl⟩, F10, N10, nw_back hnw⟩
        · rw [e2, hpc] at hp2
          by_cases a3 : r2 = 3
          · have a4 : (o.toNat : Int) = 61 := by
              by_cases q : (o.toNat : Int) = 61
              · exact q
              · exact absurd ⟨a3, q⟩ a2
            k_steps
            with_reducible rename Fr _ _ _ _ => F9
            with_reducible rename News _ _ _ _ => N9
            obtain ⟨_, _, _, _, F10⟩ := fr_turn tag F9 (fun y g1 g2 g3 g4 => by simp only [g1, g2, g3, g4, if_false, lm])
            clear F9
            have N10 := led_back N9 own8 sub8
            clear N9
            refine ⟨.inl rfl, _, _, _, _, _, rfl, ⟨rfl, _, _, _, rfl, pieces_snoc q1 hp1, pieces_snoc q2 hp2, pieces_snoc q3 hp3, _, _, _, _, rfl⟩, F10, N10, nw_back hnw⟩
          · skip
            k_steps
            with_reducible rename Fr _ _ _ _ => F9
            with_reducible rename News _ _ _ _ => N9
            obtain ⟨_, _, _, _, F10⟩ := fr_turn tag F9 (fun y g1 g2 g3 g4 => by simp only [g1, g2, g3, g4, if_false, lm])
            clear F9
            have N10 := led_back N9 own8 sub8
            clear N9
            refine ⟨.inl rfl, _, _, _, _, _, rfl, ⟨rfl, _, _, _, rfl, pieces_snoc q1 hp1, pieces_snoc q2 hp2, pieces_snoc q3 hp3, _, _, _, _, rfl⟩, F10, N10, nw_back hnw⟩
      | false =>
        have hpc : pc1 tb hb o = [o] := by unfold pc1; rw [if_neg (by rw [hn]; exact Bool.false_ne_true)]
        rw [hpc] at hp1
        rcases hpc2 with ⟨a1, e2⟩ | ⟨a1, a2, e2⟩ | ⟨a1, a2, e2⟩
        · rw [e2] at hp2
        
          k_steps
          with_reducible rename Fr _ _ _ _ => F9
          with_reducible rename News _ _ _ _ => N9
          obtain ⟨_, _, _, _, F10⟩ := fr_turn tag F9 (fun y g1 g2 g3 g4 => by simp only [g1, g2, g3, g4, if_false, lm])
          clear F9
          have N10 := led_back N9 own8 sub8
          clear N9
          refine ⟨.inl rfl, _, _, _, _, _, rfl, ⟨rfl, _, _, _, rfl, pieces_snoc q1 hp1, pieces_snoc q2 hp2, pieces_snoc q3 hp3, _, _, _, _, rfl⟩, F10, N10, nw_back hnw⟩
        · rw [e2] at hp2
        
          k_steps
          with_reducible rename Fr _ _ _ _ => F9
          with_reducible rename News _ _ _ _ => N9
          obtain ⟨_, _, _, _, F10⟩ := fr_turn tag F9 (fun y g1 g2 g3 g4 => by simp only [g1, g2, g3, g4, if_false, lm])
          clear F9
          have N10 := led_back N9 own8 sub8
          clear N9
          refine ⟨.inl rfl, _, _, _, _, _, rfl, ⟨rfl, _, _, _, rfl, pieces_snoc q1 hp1, pieces_snoc q2 hp2, pieces_snoc q3 hp3, _, _, _, _, rfl⟩, F10, N10, nw_back hnw⟩
        · rw [e2, hpc] at hp2
          by_cases a3 : r2 = 3
          · have a4 : (o.toNat : Int) = 61 := by
              by_cases q : (o.toNat : Int) = 61
              · exact q
              · exact absurd ⟨a3, q⟩ a2
            k_steps
            with_reducible rename Fr _ _ _ _ => F9
            with_reducible rename News _ _ _ _ => N9
            obtain ⟨_, _, _, _, F10⟩ := fr_turn tag F9 (fun y g1 g2 g3 g4 => by simp only [g1, g2, g3, g4, if_false, lm])
            clear F9
            have N10 := led_back N9 own8 sub8
            clear N9
            refine ⟨.inl rfl, _, _, _, _, _, rfl, ⟨rfl, _, _, _, rfl, pieces_snoc q1 hp1, pieces_snoc q2 hp2, pieces_snoc q3 hp3, _, _, _, _, rfl⟩, F10, N10, nw_back hnw⟩
          · skip
            k_steps
            with_reducible rename Fr _ _ _ _ => F9
            with_reducible rename News _ _ _ _ => N9
            obtain ⟨_, _, _, _, F10⟩ := fr_turn tag F9 (fun y g1 g2 g3 g4 => by simp only [g1, g2, g3, g4, if_false, lm])
            clear F9
            have N10 := led_back N9 own8 sub8
            clear N9
            refine ⟨.inl rfl, _, _, _, _, _, rfl, ⟨rfl, _, _, _, rfl, pieces_snoc q1 hp1, pieces_snoc q2 hp2, pieces_snoc q3 hp3, _, _, _, _, rfl⟩, F10, N10, nw_back hnw⟩
    case done6 =>
      rintro g' m nw h tk ⟨rfl, y1, y2, y3, rfl, q1, q2, q3, p1, p2, p3, p4, rfl⟩ F7 N7 hT7
      clear F6
      have hsz : items.toArray.size = rows.length := by rw [List.size_toArray]; exact hr6.1
      rw [hsz] at q1 q2 q3
      have e1 : (P1 tb hb (toU rows)).take rows.length = P1 tb hb (toU rows) := List.take_of_length_le (by simp [P1, toU])
      have e2 : (P2 tb hb (toU rows)).take rows.length = P2 tb hb (toU rows) := List.take_of_length_le (by simp [P2, toU])
      have e3 : (P3 (toU rows)).take rows.length = P3 (toU rows) := List.take_of_length_le (by simp [P3, toU])
      rw [e1] at q1
      rw [e2] at q2
      rw [e3] at q3
      have hx0 : ∀ c ∈ (Str.ofString "").cps.toList, c < 128 := by decide
      have hz0 : (Str.ofString "").length ≤ 1048576 := by decide
      have hb0 : asciiB (Str.ofString "") = #[] := by decide
      dsimp only
      refine wpR_one_toks hT7 ?_
      k_steps
      with_reducible rename 1 ≤ _ => hT8
      dsimp only
      refine wpR_execs_cons (wpR_For (wpR_of ?_))
      k_steps
      with_reducible rename Fr _ _ _ _ => F8
      with_reducible rename News _ _ _ _ => N8
      obtain ⟨pv0, F8⟩ := fr_pm F8
      refine iterR_tuple (nn := 0) (T0 := 1) (L := s₁.heap.objs.size) rfl (fun i g' m nw => g' = s₁.heap ∧ nw = _ ∧ ∃ pv, m = Mine.pm pv _) (List.Mem.head _) rfl rfl ?turn8 ?done8 F8 N8 ⟨rfl, rfl, _, rfl⟩ ?hT8
      case hT8 => exact hT8
      case turn8 =>
        rintro I i v g' m nw own h tk hi hP e hnw ⟨rfl, rfl, pv, rfl⟩ F9 N9 hT9
        have hi3 : i = 0 ∨ i = 1 ∨ i = 2 := by
          have : i < 3 := by simpa using hi
          omega
        clear F8 N8
        rcases hi3 with rfl | rfl | rfl
        · obtain rfl : v = Value.ref _ := by simpa using hP.symm
          k_steps
          refine wpR_execs_cons (wpR_If (wpR_notCall (wpR_Call_Name ?_)))
          k_steps
          refine callWithR_K (K := hd1.heap_39 w.params) (by rfl) (by k_is) (evalArgs_plain (spliced_cons ?_))
          k_steps
          with_reducible rename Fr _ _ _ _ => F9
          with_reducible rename News _ _ _ _ => N9
          refine mcg_use (sp_grows w _ _ _ q1 p1_shape (by simp [P1, P2, P3, toU]; omega) (by simp [P1, P2, P3, toU]; omega) _ _ (List.mem_append_right _ (List.Mem.tail _ (List.Mem.head _)))) K0 F9 KX N9 T KX T rfl (by decide) (by decide) ?_
          clear F9 N9
          rintro r h8 tk8 rfl F10 N10
          dsimp only
          refine wpAny_truthy_bool ?_
          rw [if_neg (by decide)]
          refine wpR_of (wpAny_execs_nil ?_)
          dsimp only
          refine wpR_of (wpAny_execs_nil ?_)
          have F11 := pm_turn F10
          clear F10
          exact ⟨.inl rfl, _, _, _, _, _, rfl, ⟨rfl, rfl, _, rfl⟩, F11, N10, hnw⟩
        · obtain rfl : v = Value.ref _ := by simpa using hP.symm
          k_steps
          refine wpR_execs_cons (wpR_If (wpR_notCall (wpR_Call_Name ?_)))
          k_steps
          refine callWithR_K (K := hd1.heap_39 w.params) (by rfl) (by k_is) (evalArgs_plain (spliced_cons ?_))
          k_steps
          with_reducible rename Fr _ _ _ _ => F9
          with_reducible rename News _ _ _ _ => N9
          refine mcg_use (sp_grows w _ _ _ q2 p2_shape (by simp [P1, P2, P3, toU]; omega) (by simp [P1, P2, P3, toU]; omega) _ _ (List.mem_append_right _ (List.Mem.tail _ (List.Mem.tail _ (List.Mem.head _))))) K0 F9 KX N9 T KX T rfl (by decide) (by decide) ?_
          clear F9 N9
          rintro r h8 tk8 rfl F10 N10
          dsimp only
          refine wpAny_truthy_bool ?_
          rw [if_neg (by decide)]
          refine wpR_of (wpAny_execs_nil ?_)
          dsimp only
          refine wpR_of (wpAny_execs_nil ?_)
          have F11 := pm_turn F10
          clear F10
          exact ⟨.inl rfl, _, _, _, _, _, rfl, ⟨rfl, rfl, _, rfl⟩, F11, N10, hnw⟩
        · obtain rfl : v = Value.ref _ := by simpa using hP.symm
          k_steps
          refine wpR_execs_cons (wpR_If (wpR_notCall (wpR_Call_Name ?_)))
          k_steps
          refine callWithR_K (K := hd1.heap_39 w.params) (by rfl) (by k_is) (evalArgs_plain (spliced_cons ?_))
          k_steps
          with_reducible rename Fr _ _ _ _ => F9
          with_reducible rename News _ _ _ _ => N9
          refine mcg_use (sp_grows w _ _ _ q3 p3_shape (by simp [P1, P2, P3, toU]; omega) (by simp [P1, P2, P3, toU]; omega) _ _ (List.mem_append_right _ (List.Mem.tail _ (List.Mem.tail _ (List.Mem.tail _ (List.Mem.head _)))))) K0 F9 KX N9 T KX T rfl (by decide) (by decide) ?_
          clear F9 N9
          rintro r h8 tk8 rfl F10 N10
          dsimp only
          refine wpAny_truthy_bool ?_
          rw [if_neg (by decide)]
          refine wpR_of (wpAny_execs_nil ?_)
          dsimp only
          refine wpR_of (wpAny_execs_nil ?_)
          have F11 := pm_turn F10
          clear F10
          exact ⟨.inl rfl, _, _, _, _, _, rfl, ⟨rfl, rfl, _, rfl⟩, F11, N10, hnw⟩
      case done8 =>
        rintro g' m nw h tk ⟨rfl, rfl, pv, rfl⟩ F9 N9 hT9
        clear F8 N8
        dsimp only
        refine wpR_of ?_
        refine wpAny_stop ?_
        k_dflt (refine LCp.Assign_ListComp_P (F₀ := by k_asm) (by rfl) (by with_unfolding_all rfl) (by rfl) (by decide) (by rfl) (by decide) (by rfl) (by rfl) (by decide) (by rfl) (by rfl) ?_)
        k_steps
        refine LCp.SrcLP.ledger (by rfl) F9 N9 (List.Mem.tail _ (List.Mem.tail _ (List.Mem.tail _ (List.Mem.tail _ hm6)))) (by rw [hsz, sizeLine_eq]; omega) fun g => ?_
        refine due_rest (hr6.more fun p hp => List.Mem.tail _ (List.Mem.tail _ (List.Mem.tail _ (List.Mem.tail _ hp)))) (.inr ⟨_, List.Mem.tail _ (List.Mem.tail _ (List.Mem.tail _ (List.Mem.tail _ hm6))), rfl, _, rfl⟩) (fun _ => rfl) (fun _ => rfl) (by decide) ?fin9 _ 0 [] (by rw [Nat.zero_add, hsz]) .nil
        case fin9 =>
          clear F9 N9
          intro ys hys D9 h9 tk9 F9 N9 o9
          dsimp only
          unfold Stop
          k_steps
          have hc1 := coded_P1 tb hb rin
          have hc2 := coded_P2 tb hb rin
          have hl1 : (P1 tb hb (toU rows)).length ≤ 63 := by simp [P1, toU]; omega
          have hl2 : (P2 tb hb (toU rows)).length ≤ 63 := by simp [P2, toU]; omega
          have hz1 : (P1 tb hb (toU rows)).flatten.length ≤ 1048576 := by have := flat_P1 tb hb rlen.1; omega
          have hz2 : (P2 tb hb (toU rows)).flatten.length ≤ 1048576 := by have := flat_P2 tb hb rlen.1; omega
          refine gm_join ?_
          k_steps
          with_reducible rename Fr _ _ _ _ => Fa
          with_reducible rename News _ _ _ _ => Na
          refine wp_join (Na _ (List.Mem.tail _ (List.Mem.tail _ (List.Mem.head _)))).1 rfl rfl q1 (by rw [sizeLine_eq]; have := flat_P1 tb hb rlen.1; omega) (by rw [q1.1]; simp [P1, toU]; omega) fun t1 k1 => ?_
          k_steps
          clear Fa Na
          refine gm_join ?_
          k_steps
          with_reducible rename Fr _ _ _ _ => Fa
          with_reducible rename News _ _ _ _ => Na
          refine wp_join (Na _ (List.Mem.tail _ (List.Mem.tail _ (List.Mem.tail _ (List.Mem.tail _ (List.Mem.head _)))))).1 rfl rfl q2 (by rw [sizeLine_eq]; have := flat_P2 tb hb rlen.1; omega) (by rw [q2.1]; simp [P2, toU]; omega) fun t2 k2 => ?_
          k_steps
          with_reducible rename Fr _ _ _ _ => Fz
          refine goodWG_reads (d := .bool true) (as := []) B0 Fz ?g1 ?g2 (ReadsW.bool _) ?g3 ?g4 rfl
          case g1 => row_bare
          case g2 => intro _; rfl
          case g3 => exact unshared_nil
          case g4 =>
            exact post_true _
end
end

end Mine
end

open PySem PySem.W PyProof.Rows
theorem PySem.Challenge.cw_kl0184_01_holds : PySem.Challenge.rw_kl0184_01.Holds :=
  Mine.law_holds
