import PyProof.Rows.All
import Wide.All
import OpenK.AllK
import Wide.FinOn
import PySem.Challenge.RW_fx0004_04

open PySem PySem.W PyProof.Rows PySem.SeqAt PySem.Calls
set_option Elab.async false
set_option maxRecDepth 100000
set_option maxHeartbeats 8000000
set_option linter.unusedVariables false
set_option linter.unusedSimpArgs false

namespace Mine
namespace BF
theorem slot_lt : Slot "bytes" (cmpInfo .Lt).2.1 "bytes.__lt__" :=
  .of (owner := "bytes") (n := "__lt__") (by rw [typeLookup_type, builtinLookup_eq_fast]; kernel_rfl) (by decide +kernel) (by decide +kernel) (by decide +kernel)
    (by first | exact .inl (by decide +kernel) | exact .inr (by decide +kernel)) (by rw [isSubtype_type]; kernel_rfl)
theorem entry_lt : entryFor table "bytes.__lt__" = some Builtin.«bytes.__lt__» := entryFor_of_tree (by kernel_rfl)
theorem args_lt (a b : Value) : argsOk "bytes.__lt__" ⟨[a, b], []⟩ := by
  unfold argsOk; rw [signature?_of (id := "bytes.__lt__") (n := ['_', '_', 't', 'l', '_', '_']) (o := ['s', 'e', 't', 'y', 'b']) (by kernel_rfl) PySem.W.FB.owner_bytes]; kernel_rfl
theorem slot_gt : Slot "bytes" (cmpInfo .Gt).2.1 "bytes.__gt__" :=
  .of (owner := "bytes") (n := "__gt__") (by rw [typeLookup_type, builtinLookup_eq_fast]; kernel_rfl) (by decide +kernel) (by decide +kernel) (by decide +kernel)
    (by first | exact .inl (by decide +kernel) | exact .inr (by decide +kernel)) (by rw [isSubtype_type]; kernel_rfl)
theorem entry_gt : entryFor table "bytes.__gt__" = some Builtin.«bytes.__gt__» := entryFor_of_tree (by kernel_rfl)
theorem args_gt (a b : Value) : argsOk "bytes.__gt__" ⟨[a, b], []⟩ := by
  unfold argsOk; rw [signature?_of (id := "bytes.__gt__") (n := ['_', '_', 't', 'g', '_', '_']) (o := ['s', 'e', 't', 'y', 'b']) (by kernel_rfl) PySem.W.FB.owner_bytes]; kernel_rfl
theorem slot_lower : Slot "bytes" "lower" "bytes.lower" :=
  .of (owner := "bytes") (n := "lower") (by rw [typeLookup_type, builtinLookup_eq_fast]; kernel_rfl) (by decide +kernel) (by decide +kernel) (by decide +kernel)
    (by first | exact .inl (by decide +kernel) | exact .inr (by decide +kernel)) (by rw [isSubtype_type]; kernel_rfl)
theorem type_lower : typeOf (.builtin "bytes.lower") = pure (.type "method_descriptor") := by show builtinType _ = _; rw [builtinType_eq_fast]; kernel_rfl
theorem entry_lower : entryFor table "bytes.lower" = some Builtin.«bytes.lower» := entryFor_of_tree (by kernel_rfl)
theorem args_lower (a : Value) : argsOk "bytes.lower" ⟨[a], []⟩ := by
  unfold argsOk; rw [signature?_of (id := "bytes.lower") (n := ['r', 'e', 'w', 'o', 'l']) (o := ['s', 'e', 't', 'y', 'b']) (by kernel_rfl) PySem.W.FB.owner_bytes]; kernel_rfl
theorem slot_upper : Slot "bytes" "upper" "bytes.upper" :=
  .of (owner := "bytes") (n := "upper") (by rw [typeLookup_type, builtinLookup_eq_fast]; kernel_rfl) (by decide +kernel) (by decide +kernel) (by decide +kernel)
    (by first | exact .inl (by decide +kernel) | exact .inr (by decide +kernel)) (by rw [isSubtype_type]; kernel_rfl)
theorem type_upper : typeOf (.builtin "bytes.upper") = pure (.type "method_descriptor") := by show builtinType _ = _; rw [builtinType_eq_fast]; kernel_rfl
theorem entry_upper : entryFor table "bytes.upper" = some Builtin.«bytes.upper» := entryFor_of_tree (by kernel_rfl)
theorem args_upper (a : Value) : argsOk "bytes.upper" ⟨[a], []⟩ := by
  unfold argsOk; rw [signature?_of (id := "bytes.upper") (n := ['r', 'e', 'p', 'p', 'u']) (o := ['s', 'e', 't', 'y', 'b']) (by kernel_rfl) PySem.W.FB.owner_bytes]; kernel_rfl
end BF

/-- the order of two octet rows, as the model has it -/
def bLt (a b : List UInt8) : Bool := Builtin.Bytes.order a b == .lt
def bGt (a b : List UInt8) : Bool := Builtin.Bytes.order a b == .gt
def lowB (l : List UInt8) : List UInt8 := l.map Builtin.Bytes.toLower
def uppB (l : List UInt8) : List UInt8 := l.map Builtin.Bytes.toUpper

theorem gives_lt (b c : Array UInt8) (t u : Tok) : Gives (Builtin.«bytes.__lt__» ⟨[.bytes b t, .bytes c u], []⟩) (.val (.bool (bLt b.toList c.toList))) := by
  refine .of_wp fun M A E s Q hq => ?_
  show wpAny M A (isInstance (.bytes c u) (.type "bytes") >>= fun r => _) _ E s
  refine wpAny_bind (wpAny_isInstance (typeIs_bytes s c u) F.sub_bytes_bytes ?_)
  exact wpAny_pure ⟨_, rfl, hq⟩
theorem gives_gt (b c : Array UInt8) (t u : Tok) : Gives (Builtin.«bytes.__gt__» ⟨[.bytes b t, .bytes c u], []⟩) (.val (.bool (bGt b.toList c.toList))) := by
  refine .of_wp fun M A E s Q hq => ?_
  show wpAny M A (isInstance (.bytes c u) (.type "bytes") >>= fun r => _) _ E s
  refine wpAny_bind (wpAny_isInstance (typeIs_bytes s c u) F.sub_bytes_bytes ?_)
  exact wpAny_pure ⟨_, rfl, hq⟩
theorem meets_lower (b : Array UInt8) (t : Tok) : Meets (Builtin.«bytes.lower» ⟨[.bytes b t], []⟩) (fun _ R s => b.size ≤ sizeLine ∧ R (.ok (.ret (.bytes (lowB b.toList).toArray s.toks))) { s with toks := s.toks + 1 }) := by
  refine .of_wp fun prog w A R s hS => ?_
  obtain ⟨hsz, h⟩ := hS
  show wpAny _ _ (mkBytes (lowB b.toList).toArray >>= fun v => PySem.ret v) _ _ s
  unfold mkBytes
  rw [if_neg (by simp [lowB]; omega)]
  exact wpAny_bind (wpAny_bind (wpAny_fresh (wpAny_pure (wpAny_pure ⟨_, rfl, h⟩))))
theorem meets_upper (b : Array UInt8) (t : Tok) : Meets (Builtin.«bytes.upper» ⟨[.bytes b t], []⟩) (fun _ R s => b.size ≤ sizeLine ∧ R (.ok (.ret (.bytes (uppB b.toList).toArray s.toks))) { s with toks := s.toks + 1 }) := by
  refine .of_wp fun prog w A R s hS => ?_
  obtain ⟨hsz, h⟩ := hS
  show wpAny _ _ (mkBytes (uppB b.toList).toArray >>= fun v => PySem.ret v) _ _ s
  unfold mkBytes
  rw [if_neg (by simp [uppB]; omega)]
  exact wpAny_bind (wpAny_bind (wpAny_fresh (wpAny_pure (wpAny_pure ⟨_, rfl, h⟩))))
section
variable {prog : Program} {w : World} {A : Around} {E : Value → Shared → Prop} {s : Shared} {b c : Array UInt8} {t u : Tok}
theorem lt_bytes {Q : Value → Shared → Prop} (h : Q (.bool (bLt b.toList c.toList)) s) : wpAny (model prog w) A (compareOp .Lt (.bytes b t) (.bytes c u)) Q E s :=
  compareOp_gives (op := .Lt) (typeIs_bytes s b t) (typeIs_bytes s c u) BF.slot_lt BF.entry_lt (BF.args_lt _ _) (gives_lt b c t u) (fun e => nomatch e) h
theorem gt_bytes {Q : Value → Shared → Prop} (h : Q (.bool (bGt b.toList c.toList)) s) : wpAny (model prog w) A (compareOp .Gt (.bytes b t) (.bytes c u)) Q E s :=
  compareOp_gives (op := .Gt) (typeIs_bytes s b t) (typeIs_bytes s c u) BF.slot_gt BF.entry_gt (BF.args_gt _ _) (gives_gt b c t u) (fun e => nomatch e) h
theorem method_lower {M : Model} {pl : Sem Bool} {Q : Value × List Value → Shared → Prop} (h : Q (.builtin "bytes.lower", [.bytes b t]) s) : wpAny M A (getMethod (.bytes b t) "lower" pl) Q E s :=
  getMethod_builtin (typeIs_bytes _ _ _) FB.plainAttrs_bytes BF.slot_lower BF.type_lower (fun _ e => nomatch e) h
theorem method_upper {M : Model} {pl : Sem Bool} {Q : Value × List Value → Shared → Prop} (h : Q (.builtin "bytes.upper", [.bytes b t]) s) : wpAny M A (getMethod (.bytes b t) "upper" pl) Q E s :=
  getMethod_builtin (typeIs_bytes _ _ _) FB.plainAttrs_bytes BF.slot_upper BF.type_upper (fun _ e => nomatch e) h
theorem call_lower {Q : Value → Shared → Prop} (hz : b.size ≤ 16777216) (h : ∀ t' k, Q (.bytes (lowB b.toList).toArray t') { s with toks := k }) :
    wpAny (model prog w) A (call (.builtin "bytes.lower") [.bytes b t]) Q E s :=
  call_meets BF.slot_lower (typeIs_bytes _ _ _) BF.entry_lower (BF.args_lower _) (meets_lower b t) ⟨by rw [sizeLine_eq]; exact hz, h _ _⟩
theorem call_upper {Q : Value → Shared → Prop} (hz : b.size ≤ 16777216) (h : ∀ t' k, Q (.bytes (uppB b.toList).toArray t') { s with toks := k }) :
    wpAny (model prog w) A (call (.builtin "bytes.upper") [.bytes b t]) Q E s :=
  call_meets BF.slot_upper (typeIs_bytes _ _ _) BF.entry_upper (BF.args_upper _) (meets_upper b t) ⟨by rw [sizeLine_eq]; exact hz, h _ _⟩
end
end Mine

namespace Mine

abbrev Lbl := List UInt8
inductive BytesAre : List Value → List Lbl → Prop
  | nil : BytesAre [] []
  | cons (l : Lbl) (t : Tok) (h : l.length ≤ 4096) {vs : List Value} {ls : List Lbl} : BytesAre vs ls → BytesAre (.bytes l.toArray t :: vs) (l :: ls)
namespace BytesAre
theorem length : ∀ {vs : List Value} {ls : List Lbl}, BytesAre vs ls → vs.length = ls.length
  | _, _, .nil => rfl
  | _, _, .cons _ _ _ r => by rw [List.length_cons, List.length_cons, r.length]
theorem size : ∀ {vs : List Value} {ls : List Lbl}, BytesAre vs ls → ∀ l ∈ ls, l.length ≤ 4096
  | _, _, .nil, _, h => nomatch h
  | _, _, .cons _ _ h r, l, hl => by
    rcases List.mem_cons.mp hl with rfl | hl
    · exact h
    · exact r.size l hl
theorem append : ∀ {vs ws : List Value} {ls ms : List Lbl}, BytesAre vs ls → BytesAre ws ms → BytesAre (vs ++ ws) (ls ++ ms)
  | _, _, _, _, .nil, k => k
  | _, _, _, _, .cons l t h r, k => .cons l t h (r.append k)
theorem get : ∀ {vs : List Value} {ls : List Lbl} (i : Nat), BytesAre vs ls → i < ls.length → ∃ t, vs[i]? = some (.bytes (ls.getD i []).toArray t) ∧ (ls.getD i []).length ≤ 4096
  | _, _, i, .nil, h => absurd h (Nat.not_lt_zero _)
  | _, _, 0, .cons l t h _, _ => ⟨t, rfl, h⟩
  | _, _, i + 1, .cons _ _ _ r, h => by
    obtain ⟨t, e, e'⟩ := r.get i (Nat.lt_of_succ_lt_succ h)
    exact ⟨t, by simpa using e, by simpa using e'⟩
theorem at_ : ∀ {vs : List Value} {ls : List Lbl} {i : Nat} {v : Value}, BytesAre vs ls → vs[i]? = some v → ∃ l t, ls[i]? = some l ∧ v = .bytes l.toArray t ∧ l.length ≤ 4096
  | _, _, i, v, .nil, h => by simp at h
  | _, _, 0, v, .cons l t hl _, h => ⟨l, t, rfl, (Option.some.inj h).symm, hl⟩
  | _, _, i + 1, v, .cons _ _ _ r, h => by
    obtain ⟨l, t, e, e', e''⟩ := r.at_ (i := i) (v := v) (by simpa using h)
    exact ⟨l, t, by simpa using e, e', e''⟩
theorem drop : ∀ {vs : List Value} {ls : List Lbl} (k : Nat), BytesAre vs ls → BytesAre (vs.drop k) (ls.drop k)
  | _, _, 0, h => h
  | _, _, _ + 1, .nil => .nil
  | _, _, k + 1, .cons _ _ _ r => r.drop k
theorem take : ∀ {vs : List Value} {ls : List Lbl} (k : Nat), BytesAre vs ls → BytesAre (vs.take k) (ls.take k)
  | _, _, 0, _ => .nil
  | _, _, _ + 1, .nil => .nil
  | _, _, k + 1, .cons l t h r => .cons l t h (r.take k)
theorem one (l : Lbl) (t : Tok) (h : l.length ≤ 4096) : BytesAre [.bytes l.toArray t] [l] := .cons l t h .nil
theorem reverse {vs : List Value} {ls : List Lbl} (h : BytesAre vs ls) : BytesAre vs.reverse ls.reverse := by
  induction h with
  | nil => exact .nil
  | cons l t h _ ih => rw [List.reverse_cons, List.reverse_cons]; exact ih.append (.one l t h)
end BytesAre

theorem eqBool_bytes {prog : Program} {w : World} {A : Around} {E : Value → Shared → Prop} {s : Shared} {x y : Array UInt8} {t u : Tok} {Q : Bool → Shared → Prop} (h : Q (x.toList == y.toList) s) : wpAny (model prog w) A (eqBool (.bytes x t) (.bytes y u)) Q E s := by
  unfold eqBool
  show wpAny _ _ (if (Value.bytes x t == Value.bytes y u) = true then _ else _) Q E s
  by_cases hab : (Value.bytes x t == Value.bytes y u) = true
  · rw [if_pos hab]
    have e : x = y := by have := eq_of_beq hab; injection this
    subst e
    exact wpAny_bind (wpAny_rule (wpAny_pure (by simpa using h)))
  · rw [if_neg hab]
    exact wpAny_bind (eq_bytes (wpAny_truthy_bool h))
theorem EqAt.bytes {A : Around} {s : Shared} (x y : Array UInt8) (t u : Tok) : EqAt A s (.bytes x t) (.bytes y u) (x.toList == y.toList) := fun _ _ _ _ hq => eqBool_bytes hq

theorem all_range_eq (ls ms : List Lbl) (h : ls.length = ms.length) : ((List.range ls.length).all fun j => ls.getD j [] == ms.getD j []) = decide (ls = ms) := by
  by_cases e : ls = ms
  · subst e
    simp
  · rw [decide_eq_false e]
    rw [Bool.eq_false_iff]
    intro h'
    apply e
    apply List.ext_getElem h
    intro i h1 h2
    have := List.all_eq_true.mp h' i (List.mem_range.mpr h1)
    simpa [List.getD_eq_getElem?_getD, h1, h2] using this
theorem eqAt_of {A : Around} {s : Shared} {vs ws : List Value} {ls ms : List Lbl} (hv : BytesAre vs ls) (hw : BytesAre ws ms) :
    ∀ j (h1 : j < vs.toArray.size) (h2 : j < ws.toArray.size), EqAt A s vs.toArray[j] ws.toArray[j] (ls.getD j [] == ms.getD j []) := by
  intro j h1 h2
  obtain ⟨t, e1, _⟩ := hv.get j (by rw [← hv.length]; simpa using h1)
  obtain ⟨u, e2, _⟩ := hw.get j (by rw [← hw.length]; simpa using h2)
  have q1 : vs.toArray[j] = .bytes (ls.getD j []).toArray t := by
    have : vs[j]? = some vs.toArray[j] := by simp
    rw [this] at e1; exact Option.some.inj e1
  have q2 : ws.toArray[j] = .bytes (ms.getD j []).toArray u := by
    have : ws[j]? = some ws.toArray[j] := by simp
    rw [this] at e2; exact Option.some.inj e2
  rw [q1, q2]
  exact EqAt.bytes _ _ _ _

section
variable {prog : Program} {w : World} {A : Around} {E : Value → Shared → Prop} {s : Shared} {h₀ : Heap} {L a b : Addr} {m : Str → Option Value} {news : List (Addr × Obj)} {vs ws : List Value} {ls ms : List Lbl} {n n' : Nat} {Q : Value → Shared → Prop}

theorem eq_labels (N : News h₀ L s.heap news) (ha : (a, listOf vs.toArray n) ∈ news) (hb : (b, listOf ws.toArray n') ∈ news) (hv : BytesAre vs ls) (hw : BytesAre ws ms) (hu : A.units < cLine)
    (h : Q (.bool (decide (ls = ms))) s) : wpAny (model prog w) A (compareOp .Eq (.ref a) (.ref b)) Q E s := by
  by_cases hl : ls.length = ms.length
  · refine eq_listAt (N.isList ha) (N.isList hb) (by simp [hv.length, hw.length, hl]) hu (eqAt_of hv hw) ?_
    have e := all_range_eq ls ms hl
    have e2 : vs.toArray.size = ls.length := by simp [hv.length]
    rw [e2, e]; exact h
  · refine eq_list_lengthsAt (N.isList ha) (N.isList hb) (by simp [hv.length, hw.length, hl]) hu ?_
    rw [decide_eq_false (fun e => hl (by rw [e]))] at h
    exact h
theorem ne_labels (N : News h₀ L s.heap news) (ha : (a, listOf vs.toArray n) ∈ news) (hb : (b, listOf ws.toArray n') ∈ news) (hv : BytesAre vs ls) (hw : BytesAre ws ms) (hu : A.units < cLine)
    (h : Q (.bool (!decide (ls = ms))) s) : wpAny (model prog w) A (compareOp .NotEq (.ref a) (.ref b)) Q E s := by
  by_cases hl : ls.length = ms.length
  · refine RcNeAt.lists (N.isList ha) (N.isList hb) (by simp [hv.length, hw.length, hl]) hu (eqAt_of hv hw) prog w E Q ?_
    have e := all_range_eq ls ms hl
    have e2 : vs.toArray.size = ls.length := by simp [hv.length]
    rw [e2, e]; exact h
  · refine RcNeAt.lists_lengths (N.isList ha) (N.isList hb) (by simp [hv.length, hw.length, hl]) hu prog w E Q ?_
    rw [decide_eq_false (fun e => hl (by rw [e]))] at h
    exact h
end
end Mine

namespace Mine

abbrev tupO (vs : List Value) (n : Nat) : Obj := { cls := .type "tuple", data := .seq vs.toArray n }
abbrev sliceO (a b c : Value) : Obj := { cls := .type "slice", data := .fields #[a, b, c] }

/-- what a part of a slice says -/
inductive Part : Value → Option Int → Prop
  | none : Part .none none
  | int (i : Int) (u : Tok) : Part (.int i u) (some i)

section
variable {prog : Program} {w : World} {A : Around} {E : Value → Shared → Prop} {s : Shared}
theorem slicePart_of {v : Value} {o : Option Int} (p : Part v o) {Q : Option Int → Shared → Prop} (h : Q o s) : wpAny (model prog w) A (Builtin.Slice.slicePartIndex v) Q E s := by
  cases p with
  | none => exact slicePart_none h
  | int i u => exact slicePart_int h
theorem sliceApplied_one {sl : Addr} {n : Nat} {a b : Value} {x y : Option Int} {lo hi : Nat} {os : Obj} (hos : s.heap.get? sl = some os) (hds : os.data = .fields #[a, b, .none]) (p : Part a x) (q : Part b y)
    (e : Builtin.Slice.sliceAdjust x y 1 (n : Int) = ((lo : Int), (hi : Int))) (hle : lo ≤ hi) {Q : Int × Int × Nat → Shared → Prop} (h : Q ((lo : Int), 1, hi - lo) s) :
    wpAny (model prog w) A (Builtin.Slice.sliceApplied (.ref sl) (pure (n : Int))) Q E s := by
  unfold Builtin.Slice.sliceApplied Builtin.Slice.sliceFields
  refine wpAny_bind (wpAny_bind (wpAny_field hos hds (x := a) rfl (wpAny_bind (wpAny_field hos hds (x := b) rfl (wpAny_bind (wpAny_field hos hds (x := .none) rfl (wpAny_pure ?_)))))))
  refine wpAny_bind (slicePart_none ?_)
  show wpAny _ _ (if ((1 : Int) == 0) = true then _ else _) _ _ s
  rw [if_neg (by decide)]
  refine wpAny_bind (slicePart_of p (wpAny_bind (slicePart_of q (wpAny_bind (wpAny_pure ?_)))))
  show wpAny _ _ (match Builtin.Slice.sliceAdjust x y 1 (n : Int) with | (lo, hi) => pure (lo, (1 : Int), Builtin.Slice.slicePlaces lo hi 1)) _ _ s
  rw [e]
  show wpAny _ _ (pure ((lo : Int), (1 : Int), Builtin.Slice.slicePlaces (lo : Int) (hi : Int) 1)) _ _ s
  have pl : Builtin.Slice.slicePlaces (lo : Int) (hi : Int) 1 = hi - lo := by
    unfold Builtin.Slice.slicePlaces
    have h1 : (1 : Int) > 0 := by omega
    simp only [h1, if_true, Int.ediv_one]
    split <;> omega
  rw [pl]
  exact wpAny_pure h
theorem pick_two (xs : Array Value) (lo hi : Nat) : ((List.range (hi - lo)).filterMap fun (k : Nat) => xs[((lo : Int) + (k : Int) * 1).toNat]?).toArray = ((xs.toList.drop lo).take (hi - lo)).toArray := by
  have e : (fun (k : Nat) => xs[((lo : Int) + (k : Int) * 1).toNat]?) = fun k => xs[lo + k]? := by
    funext k
    have : ((lo : Int) + (k : Int) * 1).toNat = lo + k := by omega
    rw [this]
  rw [e]
  have := pick_run xs lo (hi - lo)
  rw [List.filterMap_map] at this
  have e2 : ((fun x => xs[x]?) ∘ fun x => lo + x) = fun k => xs[lo + k]? := rfl
  rw [e2] at this
  rw [this]
theorem getItem_tuple_slice {t sl : Addr} {items : Array Value} {a b : Value} {x y : Option Int} {lo hi : Nat} {os : Obj} {Q : Value → Shared → Prop} (ht : IsTup s.heap t items) (hos : s.heap.get? sl = some os) (hcs : os.cls = .type "slice") (hds : os.data = .fields #[a, b, .none])
    (p : Part a x) (q : Part b y) (e : Builtin.Slice.sliceAdjust x y 1 (items.size : Int) = ((lo : Int), (hi : Int))) (hle : lo ≤ hi) (hno : hi - lo ≠ items.size)
    (h : Q (.ref s.heap.objs.size) { s with heap := s.heap.push { cls := .type "tuple", data := .seq ((items.toList.drop lo).take (hi - lo)).toArray } })
    (hsz : items.size ≤ sizeLine) : wpAny (model prog w) A (getItem (.ref t) (.ref sl)) Q E s := by
  have hdrop : sizeOk (.seq ((items.toList.drop lo).take (hi - lo)).toArray) := by
    show ((items.toList.drop lo).take (hi - lo)).toArray.size ≤ sizeLine
    rw [List.size_toArray, List.length_take, List.length_drop, Array.length_toList]
    omega
  have hTs : s.TypeIs (.ref sl) "slice" := ⟨os, hos, hcs⟩
  unfold getItem
  try with_reducible refine wpAny_holding ?_
  first | refine wpAny_bind (wpAny_pure ?_) | skip
  refine wpAny_bind (wpAny_sequenceKey ht.typeIs (by decide) ?_)
  refine wpAny_bind (wpAny_callSpecial?_slot (name := Str.ofString "__getitem__") ht.typeIs slot_tuple_getitem
    (wpAny_call_entry slot_tuple_getitem ht.typeIs entry_tuple_getitem ?_ (args_tuple_getitem _ _)))
  show wpAny _ _ (Builtin.Tuple.tupleItemsOf (.ref t) >>= _) _ _ s
  refine wpAny_bind (tupleItemsOf_ ht ?_)
  refine wpAny_bind (wpAny_typeOf hTs ?_)
  rw [if_pos (by decide)]
  refine wpAny_bind (sliceApplied_one hos hds p q e hle ?_)
  have hno' : ¬ (((lo : Int) == 0 && (1 : Int) == 1 && (hi - lo) == items.size) = true) := by
    have : ((hi - lo) == items.size) = false := by rw [beq_eq_false_iff_ne]; exact hno
    rw [this]; simp
  show wpAny _ _ (if ((lo : Int) == 0 && (1 : Int) == 1 && (hi - lo) == items.size) = true then _ else _) _ _ s
  rw [if_neg hno', pick_two items lo hi]
  first
    | exact wpAny_bind (m := Builtin.Tuple.tupleExact _) (wpAny_newObj_type (wpAny_pure ⟨_, rfl, wpAny_pure h⟩) hdrop)
    | exact wpAny_bind (m := Builtin.Tuple.tupleExact _) (wpAny_newObj_type (wpAny_bind (wpAny_pure (wpAny_pure ⟨_, rfl, wpAny_pure h⟩))) hdrop)
    | exact wpAny_bind (wpAny_bind (m := Builtin.Tuple.tupleExact _) (wpAny_newObj_type (wpAny_pure (wpAny_pure ⟨_, rfl, wpAny_pure h⟩)) hdrop))
    | exact wpAny_bind (wpAny_bind (m := Builtin.Tuple.tupleExact _) (wpAny_newObj_type (wpAny_pure ⟨_, rfl, wpAny_pure h⟩) hdrop))
end
end Mine

namespace Mine
abbrev Led := List (Addr × Obj)
abbrev lblD (hs : Int) (tk : Tok) (t : Addr) (n : Nat) : Obj := dictOf [⟨hs, .str (Str.ofString "labels") tk, .ref t⟩] n

/-- does the row end in the empty label -/
def absO (ls : List Lbl) : Bool := decide (0 < ls.length) && (ls.getD (ls.length - 1) [] == [])

section
variable {prog : Program} {w : World} {A : Around} {E : Value → Shared → Prop} {s : Shared} {h₀ : Heap} {L a b : Addr} {m : Str → Option Value} {news : Led} {vs ws : List Value} {ls ms : List Lbl} {n n' : Nat} {Q : Value → Shared → Prop}
theorem len_tupB (N : News h₀ L s.heap news) (ha : (a, tupO vs n) ∈ news) (hv : BytesAre vs ls) (hz : ls.length ≤ 16384) (h : ∀ t k, Q (.int (ls.length : Int) t) { s with toks := k }) :
    wpAny (model prog w) A (call (.builtin "len") [.ref a]) Q E s := by
  refine len_tuple (N.isTup ha) (by rw [List.size_toArray, hv.length]; omega) ?_
  rw [List.size_toArray, hv.length]
  exact h _ _
theorem item_tupB {value slice : Expr} {k : Int} {u : Tok} (N : News h₀ L s.heap news) (ha : (a, tupO vs n) ∈ news) (hv : BytesAre vs ls) (j : Nat) (hj : j < ls.length) (hz : ls.length ≤ 16384)
    (hk : k = (j : Int) ∨ k = (j : Int) - (ls.length : Int)) (h : ∀ t, (ls.getD j []).length ≤ 4096 → Q (.bytes (ls.getD j []).toArray t) s)
    (hs : subscripted slice false (.ref a) (.int k u) = operate [.ref a, .int k u] (getItem (.ref a) (.int k u)) := by with_unfolding_all rfl) :
    wpAny (model prog w) A (subscriptTail value slice (.ref a) (.int k u)) Q E s := by
  obtain ⟨t, e, e'⟩ := hv.get j hj
  refine item_tupleT (N.isTup ha) (by omega) (by omega) (j := j) ?_ e (h t e') hs
  rw [hv.length]
  unfold seqIndex?
  rcases hk with rfl | rfl
  · have h1 : ¬ ((j : Int) < 0) := by omega
    simp [h1, hj]
  · have h1 : ((j : Int) - (ls.length : Int)) < 0 := by omega
    have h2 : ((j : Int) - (ls.length : Int) + (ls.length : Int)) = (j : Int) := by omega
    simp only [h1, if_true, h2]
    have h3 : ¬ ((j : Int) < 0) := by omega
    simp [hj]
theorem item_tupLast {value slice : Expr} {u : Tok} (N : News h₀ L s.heap news) (ha : (a, tupO vs n) ∈ news) (hv : BytesAre vs ls) (hz : ls.length ≤ 16384) (hj : 0 < ls.length) (h : ∀ t, (ls.getD (ls.length - 1) []).length ≤ 4096 → Q (.bytes (ls.getD (ls.length - 1) []).toArray t) s)
    (hs : subscripted slice false (.ref a) (.int (-1) u) = operate [.ref a, .int (-1) u] (getItem (.ref a) (.int (-1) u)) := by with_unfolding_all rfl) :
    wpAny (model prog w) A (subscriptTail value slice (.ref a) (.int (-1) u)) Q E s :=
  item_tupB N ha hv (ls.length - 1) (by omega) hz (.inr (by omega)) h hs
end

section
variable {h₀ h' : Heap} {L : Addr} {m : Str → Option Value} {news : Led} {s : Shared} {Q : Value → Shared → Prop} {t : Tok} {tk' : Nat}
theorem retB {x y : Bool} (hret : ∀ (h' : Heap) (tk' : Nat), Fr h₀ L h' m → News h₀ L h' news → Q (.bool x) { s with heap := h', toks := tk' }) (F : Fr h₀ L h' m) (N : News h₀ L h' news) (e : y = x) : Q (.bool y) { s with heap := h', toks := tk' } := by
  subst e; exact hret h' tk' F N
theorem retI {x y : Int} (hret : ∀ (t : Tok) (h' : Heap) (tk' : Nat), Fr h₀ L h' m → News h₀ L h' news → Q (.int x t) { s with heap := h', toks := tk' }) (F : Fr h₀ L h' m) (N : News h₀ L h' news) (e : y = x) : Q (.int y t) { s with heap := h', toks := tk' } := by
  subst e; exact hret t h' tk' F N
end
end Mine

namespace Mine
theorem absO_pos {ls : List Lbl} (h : 0 < (ls.length : Int)) : decide (ls.getD (ls.length - 1) [] = []) = absO ls := by
  unfold absO
  rw [decide_eq_true (show 0 < ls.length by omega), Bool.true_and]
  generalize ls.getD (ls.length - 1) [] = x
  cases x <;> rfl
theorem absO_nil {ls : List Lbl} (h : ¬ 0 < (ls.length : Int)) : decide (0 < (ls.length : Int)) = absO ls := by
  unfold absO
  rw [decide_eq_false h, decide_eq_false (show ¬ 0 < ls.length by omega), Bool.false_and]
/-- the comparison from the right, both rows turned round -/
def fcR (d : Int) : List Lbl → List Lbl → Int → Int × Int × Int
  | x :: r, y :: q, k => if bLt (lowB x) (lowB y) then (if k > 0 then 4 else 0, -1, k) else if bGt (lowB x) (lowB y) then (if k > 0 then 4 else 0, 1, k) else fcR d r q (k + 1)
  | _, _, k => (if d < 0 then 1 else if d > 0 then 2 else 3, d, k)
def fcmp (ls ms : List Lbl) : Int × Int × Int :=
  if absO ls != absO ms then (0, if absO ls then 1 else -1, 0) else fcR ((ls.length : Int) - (ms.length : Int)) ls.reverse ms.reverse 0

structure FcI (ls ms : List Lbl) (l l1 l2 nl nr : Int) (k : Nat) : Prop where
  k1 : k ≤ ls.length
  k2 : k ≤ ms.length
  hl : l = (min ls.length ms.length : Nat) - (k : Int)
  h1 : l1 = (ls.length : Int) - (k : Int)
  h2 : l2 = (ms.length : Int) - (k : Int)
  hn : nl = (k : Int)
  hr : nr = 0
  inv : ∀ d, fcR d ls.reverse ms.reverse 0 = fcR d (ls.reverse.drop k) (ms.reverse.drop k) (k : Int)
theorem fc_start {ls ms : List Lbl} {l l1 l2 : Int} (hl : l = (min ls.length ms.length : Nat)) (h1 : l1 = ls.length) (h2 : l2 = ms.length) : ∃ k, FcI ls ms l l1 l2 0 0 k :=
  ⟨0, by omega, by omega, by omega, by omega, by omega, rfl, rfl, fun d => rfl⟩
theorem rev_drop_get {ls : List Lbl} {k : Nat} (h : k < ls.length) : ls.reverse.drop k = ls.getD (ls.length - 1 - k) [] :: ls.reverse.drop (k + 1) := by
  have h' : k < ls.reverse.length := by simpa using h
  rw [List.drop_eq_getElem_cons h']
  congr 1
  rw [List.getElem_reverse]
  have h2 : ls.length - 1 - k < ls.length := by omega
  simp [List.getD_eq_getElem?_getD, h2]
theorem fc_next {ls ms : List Lbl} {l l1 l2 nl nr : Int} {k : Nat} {x y : Lbl} (I : FcI ls ms l l1 l2 nl nr k) (hpos : 0 < l) (ex : x = ls.getD (l1 - 1).toNat []) (ey : y = ms.getD (l2 - 1).toNat [])
    (n1 : bLt (lowB x) (lowB y) = false) (n2 : bGt (lowB x) (lowB y) = false) : ∃ k, FcI ls ms (l - 1) (l1 - 1) (l2 - 1) (nl + 1) nr k := by
  obtain ⟨k1, k2, hl, h1, h2, hn, hr, inv⟩ := I
  have a1 : k < ls.length := by omega
  have a2 : k < ms.length := by omega
  have e1 : (l1 - 1).toNat = ls.length - 1 - k := by omega
  have e2 : (l2 - 1).toNat = ms.length - 1 - k := by omega
  rw [e1] at ex
  rw [e2] at ey
  refine ⟨k + 1, by omega, by omega, by omega, by omega, by omega, by omega, hr, fun d => ?_⟩
  rw [inv d, rev_drop_get a1, rev_drop_get a2, ← ex, ← ey, fcR, if_neg (by rw [n1]; decide), if_neg (by rw [n2]; decide)]
  push_cast
  rfl
theorem abs_eq {ls ms : List Lbl} (ha : (absO ls != absO ms) = false) : absO ls = absO ms := by simpa using ha
theorem fc_lt {ls ms : List Lbl} {l l1 l2 nl nr v : Int} {k : Nat} {x y : Lbl} (I : FcI ls ms l l1 l2 nl nr k) (ha : (absO ls != absO ms) = false) (hpos : 0 < l) (ex : x = ls.getD (l1 - 1).toNat []) (ey : y = ms.getD (l2 - 1).toNat [])
    (n1 : bLt (lowB x) (lowB y) = true) (hv : (0 < nl ∧ v = 4) ∨ (¬ 0 < nl ∧ v = 0)) : (v, -1, nl) = fcmp ls ms := by
  obtain ⟨k1, k2, hl, h1, h2, hn, hr, inv⟩ := I
  have a1 : k < ls.length := by omega
  have a2 : k < ms.length := by omega
  have e1 : (l1 - 1).toNat = ls.length - 1 - k := by omega
  have e2 : (l2 - 1).toNat = ms.length - 1 - k := by omega
  rw [e1] at ex
  rw [e2] at ey
  unfold fcmp
  rw [if_neg (by rw [ha]; decide), inv, rev_drop_get a1, rev_drop_get a2, ← ex, ← ey, fcR, if_pos n1, hn]
  rw [hn] at hv
  rcases hv with ⟨h, rfl⟩ | ⟨h, rfl⟩
  · rw [if_pos h]
  · rw [if_neg h]
theorem fc_gt {ls ms : List Lbl} {l l1 l2 nl nr v : Int} {k : Nat} {x y : Lbl} (I : FcI ls ms l l1 l2 nl nr k) (ha : (absO ls != absO ms) = false) (hpos : 0 < l) (ex : x = ls.getD (l1 - 1).toNat []) (ey : y = ms.getD (l2 - 1).toNat [])
    (n1 : bLt (lowB x) (lowB y) = false) (n2 : bGt (lowB x) (lowB y) = true) (hv : (0 < nl ∧ v = 4) ∨ (¬ 0 < nl ∧ v = 0)) : (v, 1, nl) = fcmp ls ms := by
  obtain ⟨k1, k2, hl, h1, h2, hn, hr, inv⟩ := I
  have a1 : k < ls.length := by omega
  have a2 : k < ms.length := by omega
  have e1 : (l1 - 1).toNat = ls.length - 1 - k := by omega
  have e2 : (l2 - 1).toNat = ms.length - 1 - k := by omega
  rw [e1] at ex
  rw [e2] at ey
  unfold fcmp
  rw [if_neg (by rw [ha]; decide), inv, rev_drop_get a1, rev_drop_get a2, ← ex, ← ey, fcR, if_neg (by rw [n1]; decide), if_pos n2, hn]
  rw [hn] at hv
  rcases hv with ⟨h, rfl⟩ | ⟨h, rfl⟩
  · rw [if_pos h]
  · rw [if_neg h]
theorem fc_end {ls ms : List Lbl} {l l1 l2 nl nr v : Int} {k : Nat} (I : FcI ls ms l l1 l2 nl nr k) (ha : (absO ls != absO ms) = false) (hpos : ¬ 0 < l)
    (hv : ((ls.length : Int) - ms.length < 0 ∧ v = 1) ∨ (0 < (ls.length : Int) - ms.length ∧ v = 2) ∨ (¬ (ls.length : Int) - ms.length < 0 ∧ ¬ 0 < (ls.length : Int) - ms.length ∧ v = 3)) :
    (v, (ls.length : Int) - ms.length, nl) = fcmp ls ms := by
  obtain ⟨k1, k2, hl, h1, h2, hn, hr, inv⟩ := I
  have e0 : v = if (ls.length : Int) - ms.length < 0 then 1 else if (ls.length : Int) - ms.length > 0 then 2 else 3 := by
    rcases hv with ⟨h, rfl⟩ | ⟨h, rfl⟩ | ⟨h, h', rfl⟩
    · rw [if_pos h]
    · rw [if_neg (by omega), if_pos h]
    · rw [if_neg h, if_neg h']
  unfold fcmp
  rw [if_neg (by rw [ha]; decide), inv]
  have hor : ls.length ≤ k ∨ ms.length ≤ k := by omega
  rcases hor with h | h
  · have e : ls.reverse.drop k = [] := by simp [h]
    rw [e]; simp only [fcR]; rw [hn, e0]
  · have e : ms.reverse.drop k = [] := by simp [h]
    rw [e]
    cases hx : ls.reverse.drop k <;> (simp only [fcR]; rw [hn, e0])
theorem fc_abs1 {ls ms : List Lbl} (ha : (absO ls != absO ms) = true) (h : absO ls = true) : ((0 : Int), (1 : Int), (0 : Int)) = fcmp ls ms := by
  unfold fcmp; rw [if_pos ha, if_pos h]
theorem fc_abs0 {ls ms : List Lbl} (ha : (absO ls != absO ms) = true) (h : absO ls = false) : ((0 : Int), (-1 : Int), (0 : Int)) = fcmp ls ms := by
  unfold fcmp; rw [if_pos ha, if_neg (by rw [h]; decide)]
theorem retT3 {h₀ h' : Heap} {L r : Addr} {m : Str → Option Value} {news : Led} {s : Shared} {Q : Value → Shared → Prop} {t1 t2 t3 : Tok} {tk' : Nat} {a b c : Int} {R : Int × Int × Int}
    (hret : ∀ (r : Addr) (t1 t2 t3 : Tok) (h' : Heap) (tk' : Nat), Fr h₀ L h' m → News h₀ L h' ((r, tupO [.int R.1 t1, .int R.2.1 t2, .int R.2.2 t3] 0) :: news) → (∀ p ∈ news, p.1 < r) → Q (.ref r) { s with heap := h', toks := tk' })
    (F : Fr h₀ L h' m) (N : News h₀ L h' ((r, { cls := .type "tuple", data := .seq [Value.int a t1, Value.int b t2, Value.int c t3].toArray }) :: news)) (l1 : ∀ p ∈ news, p.1 < r) (e : (a, b, c) = R) : Q (.ref r) { s with heap := h', toks := tk' } := by
  subst e
  exact hret r t1 t2 t3 h' tk' F N l1
section
variable {prog : Program} {w : World} {A : Around} {E : Value → Shared → Prop} {s : Shared} {h₀ : Heap} {L a b : Addr} {m : Str → Option Value} {news : Led} {vs ws : List Value} {ls ms : List Lbl} {n n' : Nat} {Q : Value → Shared → Prop}
theorem item_tupI {value slice : Expr} {k : Int} {u : Tok} (N : News h₀ L s.heap news) (ha : (a, tupO vs n) ∈ news) (hv : BytesAre vs ls) (hz : ls.length ≤ 16384) (h0 : 0 ≤ k) (h1 : k < ls.length) (h : ∀ (x : Lbl) t, x = ls.getD k.toNat [] → x.length ≤ 4096 → Q (.bytes x.toArray t) s)
    (hs : subscripted slice false (.ref a) (.int k u) = operate [.ref a, .int k u] (getItem (.ref a) (.int k u)) := by with_unfolding_all rfl) :
    wpAny (model prog w) A (subscriptTail value slice (.ref a) (.int k u)) Q E s :=
  item_tupB N ha hv k.toNat (by omega) hz (.inl (by omega)) (fun t e => h _ t rfl e) hs
end
section
variable {prog : Program} {w : World} {A : Around} {E : Value → Shared → Prop} {s : Shared} {x y : Lbl} {t u : Tok}
theorem lowB_length (x : Lbl) : (lowB x).length = x.length := by simp [lowB]
theorem uppB_length (x : Lbl) : (uppB x).length = x.length := by simp [uppB]
theorem call_lowerL {Q : Value → Shared → Prop} (hz : x.length ≤ 4096) (h : ∀ t' k, (lowB x).length ≤ 4096 → Q (.bytes (lowB x).toArray t') { s with toks := k }) :
    wpAny (model prog w) A (call (.builtin "bytes.lower") [.bytes x.toArray t]) Q E s := call_lower (by simpa using Nat.le_trans hz (by decide)) fun t' k => h t' k (by rw [lowB_length]; exact hz)
theorem call_upperL {Q : Value → Shared → Prop} (hz : x.length ≤ 4096) (h : ∀ t' k, (uppB x).length ≤ 4096 → Q (.bytes (uppB x).toArray t') { s with toks := k }) :
    wpAny (model prog w) A (call (.builtin "bytes.upper") [.bytes x.toArray t]) Q E s := call_upper (by simpa using Nat.le_trans hz (by decide)) fun t' k => h t' k (by rw [uppB_length]; exact hz)
theorem len_bytesL {Q : Value → Shared → Prop} (hz : x.length ≤ 4096) (h : ∀ t' k, Q (.int (x.length : Int) t') { s with toks := k }) : wpAny (model prog w) A (call (.builtin "len") [.bytes x.toArray t]) Q E s :=
  len_bytes (by simpa using Nat.le_trans hz (by decide)) (by simpa using h _ _)
theorem lt_bytesL {Q : Value → Shared → Prop} (h : Q (.bool (bLt x y)) s) : wpAny (model prog w) A (compareOp .Lt (.bytes x.toArray t) (.bytes y.toArray u)) Q E s := lt_bytes h
theorem gt_bytesL {Q : Value → Shared → Prop} (h : Q (.bool (bGt x y)) s) : wpAny (model prog w) A (compareOp .Gt (.bytes x.toArray t) (.bytes y.toArray u)) Q E s := gt_bytes h
theorem eq_bytesL {Q : Value → Shared → Prop} (h : Q (.bool (decide (x = y))) s) : wpAny (model prog w) A (compareOp .Eq (.bytes x.toArray t) (.bytes y.toArray u)) Q E s :=
  eq_bytes (by show Q (.bool (x == y)) s; rw [show (x == y) = decide (x = y) from by by_cases h : x = y <;> simp [h]]; exact h)
end
end Mine

namespace Mine

/-- the end of a turn of a loop whose body only makes things and stores names of the frame -/
def KbEnd {σ : Type} (h₀ : Heap) (L : Addr) (s : Shared) (news : Led) (ps : σ → List (Str × Value)) (stored : List Str) (x : Str) (m₀ : Str → Option Value) (P : σ → Prop) (s₂ : Shared) : Prop :=
  ∃ (c : σ) (h' : Heap) (tk : Nat) (m' : Str → Option Value) (news' : Led), s₂ = { s with heap := h', toks := tk } ∧ Fr h₀ L h' m' ∧ News h₀ L h' news' ∧ (∀ p ∈ news, p ∈ news') ∧
    (∀ p ∈ ps c, m' p.1 = some p.2) ∧ (∀ z, z ≠ x → (∀ p ∈ ps c, z ≠ p.1) → stored.contains z = false → m' z = m₀ z) ∧ P c
def KbPost {σ : Type} (h₀ : Heap) (L : Addr) (s : Shared) (news : Led) (ps : σ → List (Str × Value)) (stored : List Str) (x : Str) (m₀ : Str → Option Value) (P : σ → Prop) (Q : Flow → Shared → Prop) (f : Flow) (s₂ : Shared) : Prop :=
  match f with
  | .ret v => Q (.ret v) s₂
  | .brk => Q .next s₂
  | _ => KbEnd h₀ L s news ps stored x m₀ P s₂
theorem kb_end {σ : Type} {h₀ : Heap} {L : Addr} {s : Shared} {news : Led} {ps : σ → List (Str × Value)} {stored : List Str} {x : Str} {m₀ : Str → Option Value} {P : σ → Prop} (c : σ) {h' : Heap} {tk : Nat} {m' : Str → Option Value} {news' : Led}
    (F : Fr h₀ L h' m') (N : News h₀ L h' news') (hn : ∀ p ∈ news, p ∈ news') (hk : ∀ p ∈ ps c, m' p.1 = some p.2) (hr : ∀ z, z ≠ x → (∀ p ∈ ps c, z ≠ p.1) → stored.contains z = false → m' z = m₀ z) (hp : P c) :
    KbEnd h₀ L s news ps stored x m₀ P { s with heap := h', toks := tk } := ⟨c, h', tk, m', news', rfl, F, N, hn, hk, hr, hp⟩

section
variable {prog : Program} {w : World} {A : Around} {E : Value → Shared → Prop} {s : Shared} {env : Env} {h₀ : Heap} {x : Str} {body : List Stmt} {Q : Flow → Shared → Prop}
theorem kb_walks {σ : Type} {I : Addr} {fp wr : List Addr} {n : Nat} {V : Nat → Value → Prop} {St : Nat → Heap → Prop} {m₀ : Str → Option Value} {news : Led} {s₂ : Shared} (ps : σ → List (Str × Value)) (stored : List Str) (P : Nat → σ → Prop) (c₀ : σ)
    (W : Walks prog w A I fp wr n V St) (hL : env.locals ∉ fp) (hwr : ∀ b ∈ wr, h₀.get? b = none) (hnw : ∀ p ∈ news, p.1 ∉ wr) (st : St 0 s₂.heap) (F : Fr h₀ env.locals s₂.heap m₀) (N : News h₀ env.locals s₂.heap news)
    (hk : ∀ p ∈ ps c₀, m₀ p.1 = some p.2) (hp : P 0 c₀)
    (turn : ∀ i (c : σ) v (u : Str → Option Value) h tk own, i < n → V i v → P i c → Fr h₀ env.locals h (fun y => if y = x then some v else kstB (fun z => if stored.contains z then u z else m₀ z) (ps c) y) → News h₀ env.locals h (news ++ own) →
      wpAny (model prog w) A (execs body env) (KbPost h₀ env.locals { s₂ with heap := h, toks := tk } (news ++ own) ps stored x m₀ (P (i + 1)) Q) E { s₂ with heap := h, toks := tk })
    (done : ∀ (c : σ) (u : Str → Option Value) h tk, P n c → Fr h₀ env.locals h (fun y => if y = x then u y else kstB (fun z => if stored.contains z then u z else m₀ z) (ps c) y) → News h₀ env.locals h news → Q .next { s₂ with heap := h, toks := tk }) :
    LoopAtV prog w A h₀ env x body Q E (.ref I) s₂ := by
  refine ⟨I, fp, wr, n, V, St, m₀, news, fun i m nx => nx = news ∧ ∃ c, (∀ p ∈ ps c, m p.1 = some p.2) ∧ (∀ z, z ≠ x → (∀ p ∈ ps c, z ≠ p.1) → stored.contains z = false → m z = m₀ z) ∧ P i c, rfl, W, hL, hwr, hnw, st, F, N, ⟨rfl, c₀, hk, fun _ _ _ _ => rfl, hp⟩, ?_, ?_⟩
  · rintro i v m₁ news₁ s₁ own ⟨h, tk, rfl⟩ hin hV ⟨rfl, c, h1, h2, hp'⟩ hoff hown hget hfp hst F₁ N₁
    have N₂ : News h₀ env.locals h (news₁ ++ own) := fun p hp => N₁ p ((List.mem_append.mp hp).elim (fun h => List.mem_append.mpr (.inr h)) fun h => List.mem_append.mpr (.inl h))
    refine wpAny_mono (turn i c v m₁ h tk own hin hV hp' (kst_fr h1 h2 F₁) N₂) (fun f s₃ q => ?_) fun _ _ e => e
    have fin : KbEnd h₀ env.locals { s₂ with heap := h, toks := tk } (news₁ ++ own) ps stored x m₀ (P (i + 1)) s₃ →
        LoopStepU h₀ env.locals wr own (fun m nx => nx = news₁ ∧ ∃ c, (∀ p ∈ ps c, m p.1 = some p.2) ∧ (∀ z, z ≠ x → (∀ p ∈ ps c, z ≠ p.1) → stored.contains z = false → m z = m₀ z) ∧ P (i + 1) c) { s₂ with heap := h, toks := tk } .next s₃ := by
      rintro ⟨c', h', tk', m', news', rfl, F', N', hn', hk', hr', hp''⟩
      refine ⟨rfl, h', tk', m', news₁, rfl, F', fun p hp => N' p (hn' p ?_), hoff, rfl, c', hk', hr', hp''⟩
      rcases List.mem_append.mp hp with q | q
      · exact List.mem_append.mpr (.inr q)
      · exact List.mem_append.mpr (.inl q)
    cases f with
    | ret v => exact .ret q
    | brk => exact .brk q
    | next => exact .next (fin q)
    | cont => exact .cont (fin q)
  · rintro h tk m' news' F' N' _ ⟨rfl, c, h1, h2, hp'⟩
    exact done c m' h tk hp' (kst_frOut h1 h2 F') N'

/-- a for over a tuple of the ledger -/
theorem kb_tup {σ : Type} {l : Addr} {vs : List Value} {nn : Nat} {m₀ : Str → Option Value} {news : Led} (ps : σ → List (Str × Value)) (stored : List Str) (P : Nat → σ → Prop) (c₀ : σ)
    (hh : A.handled = none) (hl : (l, tupO vs nn) ∈ news) (F : Fr h₀ env.locals s.heap m₀) (N : News h₀ env.locals s.heap news) (hk : ∀ p ∈ ps c₀, m₀ p.1 = some p.2) (hp : P 0 c₀)
    (turn : ∀ i (c : σ) v (u : Str → Option Value) h tk own, i < vs.length → vs[i]? = some v → P i c → Fr h₀ env.locals h (fun y => if y = x then some v else kstB (fun z => if stored.contains z then u z else m₀ z) (ps c) y) → News h₀ env.locals h (news ++ own) →
      wpAny (model prog w) A (execs body env) (KbPost h₀ env.locals { s with heap := h, toks := tk } (news ++ own) ps stored x m₀ (P (i + 1)) Q) E { s with heap := h, toks := tk })
    (done : ∀ (c : σ) (u : Str → Option Value) h tk, P vs.length c → Fr h₀ env.locals h (fun y => if y = x then u y else kstB (fun z => if stored.contains z then u z else m₀ z) (ps c) y) → News h₀ env.locals h news → Q .next { s with heap := h, toks := tk }) :
    wpAny (model prog w) A (pyIter (.ref l)) (fun it s₂ => LoopAtV prog w A h₀ env x body Q E it s₂) E s := by
  have ht : IsTup s.heap l vs.toArray := N.isTup hl
  have hol : s.heap.get? l = some (tupO vs nn) := (N _ hl).1
  have hne : l ≠ s.heap.objs.size := Nat.ne_of_lt (Heap.lt_size hol)
  refine iter_tuple ht ?_
  have W := Walks.tuple (prog := prog) (w := w) hh s.heap.objs.size l hne vs.toArray
  have hlen : vs.toArray.size = vs.length := by simp
  rw [hlen] at W
  refine kb_walks (s₂ := { s with heap := s.heap.push { cls := .type "tuple_iterator", data := .fields #[.ref l, .int 0 0] } }) ps stored P c₀ W ?_ ?_ ?_ ⟨⟨_, Heap.get?_push_size _ rfl, rfl, rfl⟩, ?_⟩ (F.push _) (fun p hp => ⟨Heap.get?_push_of_some _ (N p hp).1, (N p hp).2⟩) hk hp ?_ done
  · intro hm
    rcases List.mem_cons.mp hm with e | hm
    · exact absurd F.ns.lt (e ▸ Nat.lt_irrefl _)
    · exact (N _ hl).2.1 ((List.mem_singleton.mp hm).symm)
  · intro b hb
    rw [List.mem_singleton.mp hb]
    exact next_is_new F
  · intro p hp hI
    exact absurd (Heap.lt_size (N p hp).1) ((List.mem_singleton.mp hI) ▸ Nat.lt_irrefl _)
  · exact ⟨_, Heap.get?_push_of_some _ hol, rfl, nn, rfl⟩
  · intro i c v u h tk own hi hv
    exact turn i c v u h tk own hi (by simpa using hv)
/-- a for over a list of the ledger -/
theorem kb_lst {σ : Type} {l : Addr} {vs : List Value} {nn : Nat} {m₀ : Str → Option Value} {news : Led} (ps : σ → List (Str × Value)) (stored : List Str) (P : Nat → σ → Prop) (c₀ : σ)
    (hh : A.handled = none) (hl : (l, listOf vs.toArray nn) ∈ news) (F : Fr h₀ env.locals s.heap m₀) (N : News h₀ env.locals s.heap news) (hk : ∀ p ∈ ps c₀, m₀ p.1 = some p.2) (hp : P 0 c₀)
    (turn : ∀ i (c : σ) v (u : Str → Option Value) h tk own, i < vs.length → vs[i]? = some v → P i c → Fr h₀ env.locals h (fun y => if y = x then some v else kstB (fun z => if stored.contains z then u z else m₀ z) (ps c) y) → News h₀ env.locals h (news ++ own) →
      wpAny (model prog w) A (execs body env) (KbPost h₀ env.locals { s with heap := h, toks := tk } (news ++ own) ps stored x m₀ (P (i + 1)) Q) E { s with heap := h, toks := tk })
    (done : ∀ (c : σ) (u : Str → Option Value) h tk, P vs.length c → Fr h₀ env.locals h (fun y => if y = x then u y else kstB (fun z => if stored.contains z then u z else m₀ z) (ps c) y) → News h₀ env.locals h news → Q .next { s with heap := h, toks := tk }) :
    wpAny (model prog w) A (pyIter (.ref l)) (fun it s₂ => LoopAtV prog w A h₀ env x body Q E it s₂) E s := by
  have hls : s.heap.IsList l vs.toArray := N.isList hl
  have hol : s.heap.get? l = some (listOf vs.toArray nn) := (N _ hl).1
  have hne : l ≠ s.heap.objs.size := Nat.ne_of_lt (Heap.lt_size hol)
  refine wpAny_pyIter_list hls ?_
  have W := Walks.list (prog := prog) (w := w) hh s.heap.objs.size l hne vs.toArray
  have hlen : vs.toArray.size = vs.length := by simp
  rw [hlen] at W
  refine kb_walks (s₂ := { s with heap := s.heap.push { cls := .type "list_iterator", data := .fields #[.ref l, .int 0 0] } }) ps stored P c₀ W ?_ ?_ ?_ ⟨⟨_, Heap.get?_push_size _ rfl, rfl, rfl⟩, ?_⟩ (F.push _) (fun p hp => ⟨Heap.get?_push_of_some _ (N p hp).1, (N p hp).2⟩) hk hp ?_ done
  · intro hm
    rcases List.mem_cons.mp hm with e | hm
    · exact absurd F.ns.lt (e ▸ Nat.lt_irrefl _)
    · exact (N _ hl).2.1 ((List.mem_singleton.mp hm).symm)
  · intro b hb
    rw [List.mem_singleton.mp hb]
    exact next_is_new F
  · intro p hp hI
    exact absurd (Heap.lt_size (N p hp).1) ((List.mem_singleton.mp hI) ▸ Nat.lt_irrefl _)
  · exact ⟨_, Heap.get?_push_of_some _ hol, rfl, nn, rfl⟩
  · intro i c v u h tk own hi hv
    exact turn i c v u h tk own hi (by simpa using hv)
end

theorem raisedK_sub {base : Heap} {l : List Env} {e : Addr} {cls : Value} {t : Addr} {vs : List Value} {news news' : Led} {h : Heap} (R : RaisedK base l e cls t vs news' h) (hs : ∀ p ∈ news, p ∈ news') : RaisedK base l e cls t vs news h := by
  obtain ⟨⟨B, h1, h2, h3, h4⟩, h5⟩ := R
  exact ⟨⟨B, h1, fun q hq => h2 q (hs q hq), h3, h4⟩, h5⟩
/-- the end of a way that raises -/
theorem endR {E : Value → Shared → Prop} {s : Shared} {base h₀ g h' : Heap} {out : List Env} {L e t : Addr} {m : Str → Option Value} {cls : Value} {vs : List Value} {news newsB : Led} {tk' : Nat}
    (h : ∀ (e t : Addr) (g h' : Heap) (tk' : Nat), Fr h₀ L g m → g.UpToSlots h' → RaisedK base out e cls t vs news h' → E (.ref e) { s with heap := h', toks := tk' })
    (F : Fr h₀ L g m) (U : g.UpToSlots h') (R : RaisedK base out e cls t vs newsB h') (hs : ∀ p ∈ news, p ∈ newsB) : E (.ref e) { s with heap := h', toks := tk' } :=
  h e t g h' tk' F U (raisedK_sub R hs)
theorem retN {h₀ h' : Heap} {L : Addr} {m : Str → Option Value} {news : Led} {s : Shared} {Q : Value → Shared → Prop} {tk' : Nat} {v : Value} (hret : ∀ (h' : Heap) (tk' : Nat), Fr h₀ L h' m → News h₀ L h' news → Q v { s with heap := h', toks := tk' }) (F : Fr h₀ L h' m) (N : News h₀ L h' news) : Q v { s with heap := h', toks := tk' } := hret h' tk' F N
end Mine

namespace Mine
/-- the octets that a row takes on the wire -/
def wireN (ls : List Lbl) : Int := (ls.map (fun l => (l.length : Int) + 1)).sum
/-- the place of the first empty label, or -1 -/
def empI : List Lbl → Int → Int
  | [], _ => -1
  | l :: r, k => if l = [] then k else empI r (k + 1)
theorem wireN_append (ls ms : List Lbl) : wireN (ls ++ ms) = wireN ls + wireN ms := by simp [wireN]
theorem wireN_nil : wireN [] = 0 := rfl
theorem empI_snoc (ls : List Lbl) (l : Lbl) : ∀ k : Int, 0 ≤ k → empI (ls ++ [l]) k = (if empI ls k < 0 then (if l = [] then k + ls.length else -1) else empI ls k) := by
  induction ls with
  | nil =>
    intro k hk
    simp only [List.nil_append, empI, List.length_nil]
    by_cases h : l = [] <;> simp [h]
  | cons a r ih =>
    intro k hk
    simp only [List.cons_append, empI]
    by_cases h : a = []
    · simp only [h, if_true]
      rw [if_neg (by omega)]
    · simp only [h, if_false]
      rw [ih (k + 1) (by omega)]
      simp only [List.length_cons]
      split
      · split
        · push_cast; omega
        · rfl
      · rfl
structure VdI (ls : List Lbl) (k : Nat) (t i j : Int) : Prop where
  all : ∀ l ∈ ls.take k, l.length ≤ 63
  ht : t = wireN (ls.take k)
  hj : j = (k : Int)
  hi : i = empI (ls.take k) 0
theorem vd_start (ls : List Lbl) : VdI ls 0 0 (-1) 0 := ⟨by simp, by simp [wireN], rfl, by simp [empI]⟩
theorem take_next {ls : List Lbl} {k : Nat} {x : Lbl} (h : ls[k]? = some x) : ls.take (k + 1) = ls.take k ++ [x] := by
  rw [List.take_add_one, h]; rfl
theorem vd_next {ls : List Lbl} {k : Nat} {t i j t' i' j' : Int} {x : Lbl} (I : VdI ls k t i j) (hx : ls[k]? = some x) (hl : ¬ 63 < (x.length : Int)) (ht : t' = t + ((x.length : Int) + 1)) (hj : j' = j + 1)
    (hi : (i < 0 ∧ x = [] ∧ i' = j) ∨ (i < 0 ∧ ¬ x = [] ∧ i' = i) ∨ (¬ i < 0 ∧ i' = i)) : VdI ls (k + 1) t' i' j' := by
  obtain ⟨h1, h2, h3, h4⟩ := I
  have hk : k < ls.length := by
    rcases Nat.lt_or_ge k ls.length with h | h
    · exact h
    · rw [List.getElem?_eq_none h] at hx; cases hx
  have e := take_next hx
  have hlen : (ls.take k).length = k := by simp; omega
  refine ⟨?_, ?_, by omega, ?_⟩
  · rw [e]
    intro l hl'
    rcases List.mem_append.mp hl' with h | h
    · exact h1 l h
    · rw [List.mem_singleton.mp h]; omega
  · rw [e, wireN_append, ht, h2]; simp [wireN]
  · rw [e, empI_snoc _ _ 0 (by omega), ← h4, hlen]
    rcases hi with ⟨a, b, c⟩ | ⟨a, b, c⟩ | ⟨a, c⟩
    · rw [if_pos a, if_pos b, c, h3]; omega
    · rw [if_pos a, if_neg b, c, h4]
      have : ∀ (l : List Lbl) (k : Int), 0 ≤ k → empI l k < 0 → empI l k = -1 := by
        intro l
        induction l with
        | nil => intro k _ _; rfl
        | cons y r ih =>
          intro k hk hneg
          simp only [empI] at hneg ⊢
          by_cases hy : y = []
          · simp only [hy, if_true] at hneg; omega
          · simp only [hy, if_false] at hneg ⊢; exact ih (k + 1) (by omega) hneg
      exact this _ 0 (by omega) (h4 ▸ a)
    · rw [if_neg a, c]
/-- what a row of labels is refused for: 1 a label, 2 the whole, 3 an empty label; 0 it is taken -/
def vcode (ls : List Lbl) : Nat :=
  if ls.any (fun l => decide (63 < l.length)) then 1 else if 255 < wireN ls then 2 else if 0 ≤ empI ls 0 ∧ empI ls 0 ≠ (ls.length : Int) - 1 then 3 else 0
theorem vc1 {ls : List Lbl} {k : Nat} {t i j : Int} {x : Lbl} (I : VdI ls k t i j) (hx : ls[k]? = some x) (hl : 63 < (x.length : Int)) : vcode ls = 1 := by
  unfold vcode
  rw [if_pos]
  rw [List.any_eq_true]
  exact ⟨x, List.mem_of_getElem? hx, decide_eq_true (by omega)⟩
theorem vd_all {ls : List Lbl} {t i j : Int} (I : VdI ls ls.length t i j) : ¬ ls.any (fun l => decide (63 < l.length)) = true ∧ t = wireN ls ∧ i = empI ls 0 := by
  obtain ⟨h1, h2, h3, h4⟩ := I
  rw [List.take_length] at h1 h2 h4
  refine ⟨?_, h2, h4⟩
  rw [List.any_eq_true]
  rintro ⟨x, hx, hl⟩
  have := h1 x hx
  simp at hl
  omega
theorem vc2 {ls : List Lbl} {k : Nat} {t i j : Int} (I : VdI ls k t i j) (hk : k = ls.length) (ht : 255 < t) : vcode ls = 2 := by
  subst hk
  obtain ⟨h1, h2, h3⟩ := vd_all I
  unfold vcode
  rw [if_neg h1, if_pos (h2 ▸ ht)]
theorem vc3 {ls : List Lbl} {k : Nat} {t i j : Int} (I : VdI ls k t i j) (hk : k = ls.length) (ht : ¬ 255 < t) (h0 : 0 ≤ i) (h1 : i ≠ (ls.length : Int) - 1) : vcode ls = 3 := by
  subst hk
  obtain ⟨a1, a2, a3⟩ := vd_all I
  unfold vcode
  rw [if_neg a1, if_neg (a2 ▸ ht), if_pos ⟨a3 ▸ h0, a3 ▸ h1⟩]
theorem vc0 {ls : List Lbl} {k : Nat} {t i j : Int} (I : VdI ls k t i j) (hk : k = ls.length) (ht : ¬ 255 < t) (h0 : ¬ (0 ≤ i ∧ i ≠ (ls.length : Int) - 1)) : vcode ls = 0 := by
  subst hk
  obtain ⟨a1, a2, a3⟩ := vd_all I
  unfold vcode
  rw [if_neg a1, if_neg (a2 ▸ ht), if_neg (a3 ▸ h0)]
def subO (ls ms : List Lbl) : Bool := decide ((fcmp ls ms).1 = 2) || decide ((fcmp ls ms).1 = 3)
def supO (ls ms : List Lbl) : Bool := decide ((fcmp ls ms).1 = 1) || decide ((fcmp ls ms).1 = 3)
def ordO (ls ms : List Lbl) : Int := (fcmp ls ms).2.1
section
variable {h₀ h' : Heap} {L : Addr} {m : Str → Option Value} {news big : Led} {s : Shared} {Q : Value → Shared → Prop} {t : Tok} {tk' : Nat}
theorem retBs {x y : Bool} (hret : ∀ (h' : Heap) (tk' : Nat), Fr h₀ L h' m → News h₀ L h' news → Q (.bool x) { s with heap := h', toks := tk' }) (F : Fr h₀ L h' m) (N : News h₀ L h' big) (hs : ∀ p ∈ news, p ∈ big) (e : y = x) : Q (.bool y) { s with heap := h', toks := tk' } := by
  subst e; exact hret h' tk' F fun p hp => N p (hs p hp)
theorem retIs {x y : Int} (hret : ∀ (t : Tok) (h' : Heap) (tk' : Nat), Fr h₀ L h' m → News h₀ L h' news → Q (.int x t) { s with heap := h', toks := tk' }) (F : Fr h₀ L h' m) (N : News h₀ L h' big) (hs : ∀ p ∈ news, p ∈ big) (e : y = x) : Q (.int y t) { s with heap := h', toks := tk' } := by
  subst e; exact hret t h' tk' F fun p hp => N p (hs p hp)
theorem retNs {v : Value} (hret : ∀ (h' : Heap) (tk' : Nat), Fr h₀ L h' m → News h₀ L h' news → Q v { s with heap := h', toks := tk' }) (F : Fr h₀ L h' m) (N : News h₀ L h' big) (hs : ∀ p ∈ news, p ∈ big) : Q v { s with heap := h', toks := tk' } :=
  hret h' tk' F fun p hp => N p (hs p hp)
end
theorem subO_a {ls ms : List Lbl} (h : (fcmp ls ms).1 = 2) : true = subO ls ms := by simp [subO, h]
theorem subO_b {ls ms : List Lbl} (h : (fcmp ls ms).1 = 3) : true = subO ls ms := by simp [subO, h]
theorem subO_c {ls ms : List Lbl} (h : ¬ (fcmp ls ms).1 = 2) (h' : ¬ (fcmp ls ms).1 = 3) : false = subO ls ms := by simp [subO, h, h']
theorem supO_a {ls ms : List Lbl} (h : (fcmp ls ms).1 = 1) : true = supO ls ms := by simp [supO, h]
theorem supO_b {ls ms : List Lbl} (h : (fcmp ls ms).1 = 3) : true = supO ls ms := by simp [supO, h]
theorem supO_c {ls ms : List Lbl} (h : ¬ (fcmp ls ms).1 = 1) (h' : ¬ (fcmp ls ms).1 = 3) : false = supO ls ms := by simp [supO, h, h']
end Mine

namespace Mine
section
variable {prog : Program} {w : World} {A : Around} {E : Value → Shared → Prop} {s : Shared} {name : Str} {scope : Scope} {L a C : Addr} {cd : Value} {h₀ : Heap} {m mg : Str → Option Value} {x : Str} {np pos : Pos} {bm : List Value} {B newId initId : String} {Q : Flow → Shared → Prop}
theorem issub_nested {s : Shared} {nm q : Str} {C N : Addr} {bs bm : List Value} {hdct : Bool} {sn : List Str} {sub : List Value} {ab : Bool} {col : Option Bool} {dd : Option Addr} {k0 k1 k2 k3 k5 : Option Value} {newId : String} {k : Value} {dep : Int} {tk : Tok} {Q : Fin → Shared → Prop} (hk : k = .int dep tk)
    (hC : s.heap.get? C = some (excClassObj nm q C N bs bm hdct sn sub ab col dd k0 k1 k2 k3 k5 newId)) (hq : Q (.done (.ret (.bool true))) s) :
    wpAny (model prog w) A (Builtin.«issubclass.nested» ⟨[.ref C, .ref C, k], []⟩) Q E s := by
  subst hk
  obtain ⟨hp, g, d, tk, os⟩ := s
  have hcC : (Value.ref C :: bm).contains (Value.ref C) = true := by simp
  repeat (first | with_reducible refine wpAny_loadPart_at hC ?_ | (with_reducible refine wpAny_isSubtype_exc hC ?_; rw [hcC]) | wp_step)
  exact hq
theorem issub_own {s : Shared} {nm q : Str} {C N : Addr} {bs bm : List Value} {hdct : Bool} {sn : List Str} {sub : List Value} {ab : Bool} {col : Option Bool} {dd : Option Addr} {k0 k1 k2 k3 k5 : Option Value} {newId : String} {Q : Value → Shared → Prop}
    (hC : s.heap.get? C = some (excClassObj nm q C N bs bm hdct sn sub ab col dd k0 k1 k2 k3 k5 newId)) (hq : Q (.bool true) s) : wpAny (model prog w) A (call (.builtin "issubclass") [.ref C, .ref C]) Q E s :=
  call_function_meets F.kind_issubclass F.plain_issubclass F.entry_issubclass (F.args_issubclass_2 _ _)
    (S := fun _ R s => s.heap.get? C = some (excClassObj nm q C N bs bm hdct sn sub ab col dd k0 k1 k2 k3 k5 newId) ∧ R (.ok (.ret (.bool true))) s)
    (fun _ _ _ _ _ hs => issubclass_outer (issub_nested rfl hs.1 hs.2)) ⟨hC, hq⟩
theorem Raise_ownC (F : Fr h₀ L s.heap m) (hg : h₀.Ns mainGlobals mg) (O : OwnCls x C bm newId mg h₀) (FB : ExcBaseFacts B newId initId bm) (hh : A.handled = none)
    (h : ∀ h' e, Heap.MadeExcOf s.heap h' e (.ref C) [] → E (.ref e) { s with heap := h' })
    (hk : scope.kind = .function := by rfl) (hx : (envOf name scope L a cd).kindOf x = some .globalImplicit := by rfl) (hd : (x == ("__debug__" : Str)) = false := by decide) :
    wpAny (model prog w) A (exec (.Raise (some (.Name x np)) none pos) (envOf name scope L a cd)) Q E s := by
  obtain ⟨tl, N, nm, q, bs, hdct, sn, sub, ab, col, dd, k0, k1, k2, k3, k5, mN, hC, hN, hni, T⟩ := O.obj
  have hC' := F.keep _ _ hC
  have hB : tl.contains (.type "BaseException") = true := T.hasType FB.hasBase
  have hcB : (Value.ref C :: tl).contains (.type "BaseException") = true := by rw [List.contains_cons, hB, Bool.or_true]
  show wpAny (model prog w) A (do standAt pos; raiseStmt (envOf name scope L a cd) (some (do let v ← eval (.Name x np) (envOf name scope L a cd); standAt pos; pure v)) none) Q E s
  refine wpAny_bind (wpAny_standAt ?_)
  unfold raiseStmt
  dsimp only
  refine wpAny_bind (wpAny_bind (ld_own F hg O (wpAny_bind (wpAny_standAt (wpAny_pure ?_))) hk hx hd))
  refine wpAny_bind (wpAny_pure ?_)
  dsimp only
  obtain ⟨hp, g, d, tk, os⟩ := s
  refine wpAny_bind (wpAny_holding ?_)
  unfold excFromValue isExcClass
  have hT := T.keeps F.keep
  have hN' := hN.keeps F.keep
  have hCC : (Value.ref C :: tl).contains (Value.ref C) = true := by simp
  repeat (first | with_reducible refine wpAny_loadPart_at hC' ?_ | (with_reducible refine wpAny_isSubtype_exc hC' ?_; rw [hcB]) | (with_reducible refine wpAny_bind (wpAny_call_exc_subT (hrest := Nat.zero_le _) FB hT hC' hN' hni fun h' e hm => ?_)) | wp_step)
  obtain ⟨t, he, _, _⟩ := hm.there
  have hC2 := hm.keeps _ _ hC'
  repeat (first | with_reducible refine wpAny_loadPart_at he ?_ | with_reducible refine wpAny_loadPart_at hC2 ?_ | (with_reducible refine wpAny_isSubtype_exc hC2 ?_; rw [hcB]) | (with_reducible refine wpAny_bind (issub_own hC2 ?_)) | wp_step)
  exact wpAny_raiseNew_none hh (h h' e hm)
end
end Mine

namespace Mine
section
variable {prog : Program} {w : World} {A : Around} {E : Value → Shared → Prop} {s : Shared} {h₀ : Heap} {L : Addr} {m : Str → Option Value} {env : Env}

theorem tup_st {ax I : Addr} {its : List Value} {nn : Nat} : ∀ i (h h' : Heap) (o : Obj) (nw : Led), (h.IsTupleIter I ax i ∧ h.IsTuple ax its.toArray) → h.get? I = some o → h'.get? I = some o → (∀ b o, h₀.get? b = some o → h'.get? b = some o) → News h₀ L h' nw → (ax, tupO its nn) ∈ nw → (h'.IsTupleIter I ax i ∧ h'.IsTuple ax its.toArray) :=
  fun i h h' o nw st e e' k N S => ⟨by obtain ⟨o', q, r⟩ := st.1; rw [e] at q; cases q; exact ⟨o, e', r⟩, ⟨_, (N _ S).1, rfl, nn, rfl⟩⟩

/-- what a comprehension over a tuple of the ledger asks of its source -/
def SrcT (prog : Program) (w : World) (A : Around) (h₀ : Heap) (L : Addr) (m : Str → Option Value) (env : Env) (elt : Expr) (x : Str) (scope : Scope) (cl : List (Str × Addr)) (Fin : Shared → List Value → Led → Prop) (xv : Value) (s₁ : Shared) : Prop :=
  ∃ ax its nn news, xv = .ref ax ∧ A.handled = none ∧ Fr h₀ L s₁.heap m ∧ News h₀ L s₁.heap news ∧ (ax, tupO its nn) ∈ news ∧ its.length ≤ sizeLine ∧
    ∀ s₂ : Shared, (∃ h, s₂ = { s₁ with heap := h }) → LCg.CompRest prog w A h₀ L m env elt x scope cl s₂ (fun nw => (ax, tupO its nn) ∈ nw) (fun i v => its[i]? = some v) (Fin s₂) its.length 0 [] news

theorem ListComp_T {elt iter : Expr} {x : Str} {px : Pos} {scope : Scope} {cl : List (Str × Addr)} {pos : Pos} {Q : Value → Shared → Prop} (F₀ : Fr h₀ L s.heap m)
    (hclos : closureFor scope env = pure cl) (hcell : ∀ y ∈ scope.names, y.2 ≠ .cell) (hkind : scope.kind = .function)
    (hnames : ∀ y ∈ scope.names, y.2 = .local → scope.names.lookup y.1 = some .local) (hx : scope.names.lookup x = some .local)
    (h : wpAny (model prog w) A (eval iter env) (SrcT prog w A h₀ L m env elt x scope cl (fun s₂ => LCg.FinE h₀ L m s₂ Q)) E s)
    (hs : ∀ x, foldedSetIterable iter env x = pure x := by intro _; rfl) :
    wpAny (model prog w) A (eval (.ListComp elt [⟨.Name x px, iter, [], 0⟩] scope pos) env) Q E s := by
  rw [eval_ListComp]
  refine wpAny_comprehension_free (use := none) rfl hs hclos hkind hnames (wpAny_mono h (fun xv s₁ h₁ => ?_) fun _ _ e => e)
  obtain ⟨ax, its, nn, news, rfl, hh, F, N, S, hsz, R⟩ := h₁
  have hol := (N _ S).1
  have hlt : ax < s₁.heap.objs.size := Heap.lt_size hol
  refine iter_tuple (N.isTup S) ?_
  have up : ∀ b o, s₁.heap.get? b = some o → (s₁.heap.push { cls := .type "tuple_iterator", data := .fields #[.ref ax, .int 0 0] }).get? b = some o := fun b o e => Heap.get?_push_of_some _ e
  have W := Walks.tuple (prog := prog) (w := w) hh s₁.heap.objs.size ax (Nat.ne_of_lt hlt) its.toArray
  have hlen : its.toArray.size = its.length := by simp
  rw [hlen] at W
  have W' : Walks prog w A s₁.heap.objs.size [s₁.heap.objs.size, ax] [s₁.heap.objs.size] its.length (fun i v => its[i]? = some v) (fun i h => h.IsTupleIter s₁.heap.objs.size ax i ∧ h.IsTuple ax its.toArray) :=
    { sub := W.sub, frame := W.frame, done := W.done, self := W.self, item := fun i s Q E hi st hQ => W.item i s Q E hi st fun v h' tk hP => hQ v h' tk (by simpa using hP) }
  refine LCg.block_U W' hsz (fun i h st => by obtain ⟨o, e, _⟩ := st.1; exact ⟨o, e⟩) tup_st hcell hkind hx ⟨⟨_, Heap.get?_push_size _ rfl, rfl, rfl⟩, ⟨_, up _ _ hol, rfl, nn, rfl⟩⟩ (fun b hb => ?_)
    (F.keeps up) (N.grown up) (Nat.ne_of_lt F.ns.lt) (next_is_new F) (fun p hp => Nat.ne_of_lt (Heap.lt_size (N p hp).1)) S (R _ ⟨_, rfl⟩) ?_
  · show b < (s₁.heap.push _).objs.size
    rw [Heap.size_push]
    rcases List.mem_cons.mp hb with rfl | hb
    · exact Nat.lt_succ_self _
    · rw [List.mem_singleton.mp hb]; exact Nat.lt_succ_of_lt hlt
  · intro D C h tk m' ys news' F' N' o1 hn hC₀ hD₀ hCL hDL hCD offC fin
    refine ⟨m', hn, fun h'' hs'' => fin D h'' tk (F'.change hs'' hCL hC₀) (fun p hp => ?_) o1⟩
    refine ⟨hs''.extBut _ _ ?_ (N' p hp).1, (N' p hp).2⟩
    rcases List.mem_cons.mp hp with rfl | hp
    · exact Ne.symm hCD
    · exact offC p hp

theorem Assign_ListComp_T {elt iter : Expr} {x y : Str} {px py : Pos} {scope : Scope} {cl : List (Str × Addr)} {pos spos : Pos} {Q : Flow → Shared → Prop} (F₀ : Fr h₀ L s.heap m) (hLe : env.locals = L)
    (hsw : swapsWith (.ListComp elt [⟨.Name x px, iter, [], 0⟩] scope pos) (some (.Name y py)) spos.line env = pure true)
    (hclos : closureFor scope env = pure cl) (hcell : ∀ z ∈ scope.names, z.2 ≠ .cell) (hkind : scope.kind = .function)
    (hnames : ∀ z ∈ scope.names, z.2 = .local → scope.names.lookup z.1 = some .local) (hx : scope.names.lookup x = some .local)
    (hy : env.kindOf y = some .local) (hp : (env.scope.kind == .class || (env.scope.kind == .module && env.locals != env.globals)) = false)
    (h : wpAny (model prog w) A (eval iter env) (SrcT prog w A h₀ L m env elt x scope cl (fun s₂ => LCg.FinA h₀ L m s₂ y Q)) E s)
    (hs : ∀ x, foldedSetIterable iter env x = pure x := by intro _; rfl) :
    wpAny (model prog w) A (exec (.Assign [.Name y py] (.ListComp elt [⟨.Name x px, iter, [], 0⟩] scope pos) spos) env) Q E s := by
  subst hLe
  rw [exec_Assign_Name_used _ _ _ _ hsw]
  refine wpAny_bind (wpAny_standAt (wpAny_bind ?_))
  show wpAny _ A (do let _ ← comprehension (.ListComp elt [⟨.Name x px, iter, [], 0⟩] scope pos) scope env _ (newList []) false (eval iter env) (some (assign (.Name y py) env))) _ _ s
  refine wpAny_bind (wpAny_mono (wpAny_comprehension_free (use := some (assign (.Name y py) env)) (Q := fun _ s' => Q .next s') rfl hs hclos hkind hnames
    (wpAny_mono h (fun xv s₁ h₁ => ?_) fun _ _ e => e)) (fun _ s' hq => wpAny_pure (wpAny_pure hq)) fun _ _ e => e)
  obtain ⟨ax, its, nn, news, rfl, hh, F, N, S, hsz, R⟩ := h₁
  have hol := (N _ S).1
  have hlt : ax < s₁.heap.objs.size := Heap.lt_size hol
  refine iter_tuple (N.isTup S) ?_
  have up : ∀ b o, s₁.heap.get? b = some o → (s₁.heap.push { cls := .type "tuple_iterator", data := .fields #[.ref ax, .int 0 0] }).get? b = some o := fun b o e => Heap.get?_push_of_some _ e
  have W := Walks.tuple (prog := prog) (w := w) hh s₁.heap.objs.size ax (Nat.ne_of_lt hlt) its.toArray
  have hlen : its.toArray.size = its.length := by simp
  rw [hlen] at W
  have W' : Walks prog w A s₁.heap.objs.size [s₁.heap.objs.size, ax] [s₁.heap.objs.size] its.length (fun i v => its[i]? = some v) (fun i h => h.IsTupleIter s₁.heap.objs.size ax i ∧ h.IsTuple ax its.toArray) :=
    { sub := W.sub, frame := W.frame, done := W.done, self := W.self, item := fun i s Q E hi st hQ => W.item i s Q E hi st fun v h' tk hP => hQ v h' tk (by simpa using hP) }
  refine LCg.block_U W' hsz (fun i h st => by obtain ⟨o, e, _⟩ := st.1; exact ⟨o, e⟩) tup_st hcell hkind hx ⟨⟨_, Heap.get?_push_size _ rfl, rfl, rfl⟩, ⟨_, up _ _ hol, rfl, nn, rfl⟩⟩ (fun b hb => ?_)
    (F.keeps up) (N.grown up) (Nat.ne_of_lt F.ns.lt) (next_is_new F) (fun p hp => Nat.ne_of_lt (Heap.lt_size (N p hp).1)) S (R _ ⟨_, rfl⟩) ?_
  · show b < (s₁.heap.push _).objs.size
    rw [Heap.size_push]
    rcases List.mem_cons.mp hb with rfl | hb
    · exact Nat.lt_succ_self _
    · rw [List.mem_singleton.mp hb]; exact Nat.lt_succ_of_lt hlt
  · intro D C h' tk m' ys news' F' N' o1 hn hC₀ hD₀ hCL hDL hCD offC fin
    show wpAny _ A (assign (.Name y py) env (.ref D)) _ _ _
    refine wpAny_assign_Name (wpAny_storeName_local hy F'.ns (fun h₂ hn₂ hs₂ => ?_) hp)
    have hL₀ : h₀.get? env.locals = none := Heap.get?_none_of_le F'.above
    have F₂ : Fr h₀ env.locals h₂ (fun z => if z = y then some (.ref D) else m z) := ⟨hn₂, fun b o e => hs₂.extBut b o (fun q => by rw [q, hL₀] at e; cases e) (F'.keep b o e), F'.above⟩
    refine ⟨m', hn.sameBut hs₂ hCL, fun h'' hs'' => fin D h'' _ (F₂.change hs'' hCL hC₀) (fun p hp => ?_) o1⟩
    have z : h₂.get? p.1 = some p.2 := hs₂.extBut _ _ (N' p hp).2.1 (N' p hp).1
    refine ⟨hs''.extBut _ _ ?_ z, (N' p hp).2⟩
    rcases List.mem_cons.mp hp with rfl | hp
    · exact Ne.symm hCD
    · exact offC p hp

def CmEnd (h₀ : Heap) (L : Addr) (m : Str → Option Value) (s : Shared) (led : Led) (R : Value → Prop) (y : Value) (s₂ : Shared) : Prop :=
  ∃ h' tk', s₂ = { s with heap := h', toks := tk' } ∧ Fr h₀ L h' m ∧ News h₀ L h' led ∧ R y
theorem CmEnd.intro {h₀ h' : Heap} {L : Addr} {m : Str → Option Value} {s : Shared} {led led' : Led} {R : Value → Prop} {y : Value} {tk' : Nat} (F : Fr h₀ L h' m) (N : News h₀ L h' led') (hs : ∀ p ∈ led, p ∈ led') (r : R y) :
    CmEnd h₀ L m s led R y { s with heap := h', toks := tk' } := ⟨h', tk', rfl, F, fun p hp => N p (hs p hp), r⟩
/-- a comprehension whose element, upon each item, gives a value in the relation R and leaves the ledger -/
theorem comp_map {elt : Expr} {x : Str} {scope : Scope} {cl : List (Str × Addr)} {S : Led → Prop} {vs : List Value} {Fin : List Value → Led → Prop} {news : Led} {n : Nat} (R : Nat → Value → Value → Prop) (hn : n = vs.length) (hS : S news)
    (turn : ∀ i v I oI C oC D m₂ ys h tk (E' : Value → Shared → Prop), vs[i]? = some v → LCg.NsObj oC m₂ → m₂ x = some v → Fr h₀ L h m → News h₀ L h ((I, oI) :: (C, oC) :: (D, LCg.lst ys) :: news) → LCg.Off3 I C D news →
      wpAny (model prog w) A (eval elt (compEnvC scope cl C env)) (CmEnd h₀ L m { s with heap := h, toks := tk } ((I, oI) :: (C, oC) :: (D, LCg.lst ys) :: news) (R i v)) E' { s with heap := h, toks := tk })
    (fin : ∀ ys, ys.length = vs.length → (∀ i v y, vs[i]? = some v → ys[i]? = some y → R i v y) → Fin ys news) : LCg.CompRest prog w A h₀ L m env elt x scope cl s S (fun i v => vs[i]? = some v) Fin n 0 [] news := by
  have key : ∀ (j i : Nat) (ys : List Value), i + j = vs.length → ys.length = i → (∀ k v y, vs[k]? = some v → ys[k]? = some y → R k v y) → LCg.CompRest prog w A h₀ L m env elt x scope cl s S (fun i v => vs[i]? = some v) Fin j i ys news := by
    intro j
    induction j with
    | zero =>
      intro i ys hi hl hy
      exact LCg.CompRest.zero (fin ys (by omega) hy)
    | succ j ih =>
      intro i ys hi hl hy
      refine LCg.CompRest.succ ?_
      intro v I oI C oC D m₂ h tk E' hv hC hx F N off ne
      refine wpAny_mono (turn i v I oI C oC D m₂ ys h tk E' hv hC hx F N off) (fun y s₂ hq => ?_) fun _ _ e => e
      obtain ⟨h', tk', rfl, F', N', hR⟩ := hq
      refine ⟨h', tk', news, rfl, F', N', off, hS, ?_⟩
      refine ih (i + 1) _ (by omega) (by simp [hl]) ?_
      intro k v' y' hv' hy'
      rcases Nat.lt_or_ge k ys.length with hk | hk
      · rw [List.getElem?_append_left hk] at hy'
        exact hy k v' y' hv' hy'
      · rw [List.getElem?_append_right hk] at hy'
        have hk' : k = i := by
          rcases Nat.lt_or_ge (k - ys.length) 1 with q | q
          · omega
          · rw [List.getElem?_eq_none (by simpa using q)] at hy'; cases hy'
        subst hk'
        rw [hl, Nat.sub_self] at hy'
        cases hy'
        rw [hv] at hv'
        cases hv'
        exact hR
  rw [hn]
  exact key vs.length 0 [] (by omega) rfl (fun k v y _ hy => by simp at hy)
theorem comp_mapA {elt : Expr} {x : Str} {scope : Scope} {cl : List (Str × Addr)} {S : Led → Prop} {vs : List Value} {Fin : List Value → Led → Prop} {news : Led} (R : Nat → Value → Value → Prop) (hS : S news)
    (turn : ∀ i v I oI C oC D m₂ ys h tk (E' : Value → Shared → Prop), vs[i]? = some v → LCg.NsObj oC m₂ → m₂ x = some v → Fr h₀ L h m → News h₀ L h ((I, oI) :: (C, oC) :: (D, LCg.lst ys) :: news) → LCg.Off3 I C D news →
      wpAny (model prog w) A (eval elt (compEnvC scope cl C env)) (CmEnd h₀ L m { s with heap := h, toks := tk } ((I, oI) :: (C, oC) :: (D, LCg.lst ys) :: news) (R i v)) E' { s with heap := h, toks := tk })
    (fin : ∀ ys, ys.length = vs.length → (∀ (i : Nat) v y, vs[i]? = some v → ys[i]? = some y → R i v y) → Fin ys news) : LCg.CompRest prog w A h₀ L m env elt x scope cl s S (fun i v => vs.toArray[i]? = some v) Fin vs.toArray.size 0 [] news := by
  have e : (fun (i : Nat) (v : Value) => vs.toArray[i]? = some v) = fun i v => vs[i]? = some v := by funext i v; simp
  rw [e]
  exact comp_map R (by simp) hS turn fin
/-- each item as it is -/
theorem all_same {vs ys : List Value} (hl : ys.length = vs.length) (h : ∀ (i : Nat) (v y : Value), vs[i]? = some v → ys[i]? = some y → y = v) : ys = vs := by
  apply List.ext_getElem? 
  intro i
  rcases Nat.lt_or_ge i vs.length with q | q
  · have h1 : ys[i]? = some ys[i] := List.getElem?_eq_getElem (by omega)
    have h2 : vs[i]? = some vs[i] := List.getElem?_eq_getElem q
    rw [h1, h2, h i _ _ h2 h1]
  · rw [List.getElem?_eq_none q, List.getElem?_eq_none (by omega)]
/-- each item's octets turned by f -/
theorem all_map {vs ys : List Value} {ls : List Lbl} (f : Lbl → Lbl) (hb : BytesAre vs ls) (hl : ys.length = vs.length) (h : ∀ (i : Nat) (v y : Value), vs[i]? = some v → ys[i]? = some y → ∀ (l : Lbl) (t : Tok), v = .bytes l.toArray t → ∃ u, y = .bytes (f l).toArray u ∧ (f l).length ≤ 4096) : BytesAre ys (ls.map f) := by
  induction hb generalizing ys with
  | nil => cases ys with | nil => exact .nil | cons _ _ => simp at hl
  | cons l t hl' r ih =>
    cases ys with
    | nil => simp at hl
    | cons y ys =>
      obtain ⟨u, rfl, hu⟩ := h 0 _ _ rfl rfl l t rfl
      exact .cons _ u hu (ih (by simpa using hl) fun i v y' hv hy => h (i + 1) v y' (by simpa using hv) (by simpa using hy))
end
theorem my_ne {d : Addr} {news : Led} (h : ∀ p ∈ news, p.1 < d) : ∀ p ∈ news, p.1 ≠ d := fun p hp => Nat.ne_of_lt (h p hp)
section
variable {prog : Program} {w : World} {A : Around} {E : Value → Shared → Prop} {s : Shared} {h₀ : Heap} {L a b l : Addr} {m : Str → Option Value} {news : Led} {vs ws : List Value} {ls ms : List Lbl} {n n' : Nat} {Q : Value → Shared → Prop}
theorem tupleOfL (F : Fr h₀ L s.heap m) (N : News h₀ L s.heap news) (hl : (l, listOf vs.toArray n) ∈ news) (hb : BytesAre vs ls) (hz : ls.length ≤ 16384)
    (h : ∀ D h', Fr h₀ L h' m → News h₀ L h' ((D, tupO vs 0) :: news) → (∀ p ∈ news, p.1 < D) → Q (.ref D) { s with heap := h' }) : wpAny (model prog w) A (call (.type "tuple") [.ref l]) Q E s :=
  kde_tupleOf F N (N.isList hl) (by rw [List.size_toArray, hb.length]; exact hz) rfl fun D h' F' N' l1 => h D h' F' N' l1
end
theorem retNm {h₀ h' : Heap} {L : Addr} {m : Str → Option Value} {news big : Led} {s : Shared} {Q : Value → Shared → Prop} {tk' : Nat} {x dx t C : Addr} {vs : List Value} {hs : Int} {tk : Tok}
    (ret : ∀ (x dx t : Addr) (hs : Int) (tk : Tok) (h' : Heap) (tk' : Nat), Fr h₀ L h' m → News h₀ L h' ((x, instObj C dx) :: (dx, lblD hs tk t 1) :: (t, tupO vs 0) :: news) → Q (.ref x) { s with heap := h', toks := tk' })
    (F : Fr h₀ L h' m) (N : News h₀ L h' big) (hsub : ∀ p ∈ (x, instObj C dx) :: (dx, lblD hs tk t 1) :: (t, tupO vs 0) :: news, p ∈ big) : Q (.ref x) { s with heap := h', toks := tk' } :=
  ret x dx t hs tk h' tk' F fun p hp => N p (hsub p hp)
end Mine

namespace Mine
section
variable {prog : Program} {w : World} {A : Around} {E : Value → Shared → Prop} {s : Shared} {h₀ : Heap} {L a b l D : Addr} {m : Str → Option Value} {news : Led} {vs ws : List Value} {ls ms : List Lbl} {n n' : Nat} {Q : Value → Shared → Prop}
theorem listOfTB (F : Fr h₀ L s.heap m) (N : News h₀ L s.heap news) (hl : (b, tupO vs n) ∈ news) (hb : BytesAre vs ls) (hz : ls.length ≤ 16384)
    (h : ∀ D c h', Fr h₀ L h' m → News h₀ L h' ((D, listOf vs.toArray c) :: news) → (∀ p ∈ news, p.1 < D) → Q (.ref D) { s with heap := h' }) : wpAny (model prog w) A (call (.type "list") [.ref b]) Q E s :=
  list_copyKT F N (N.isTup hl) h (by rw [List.size_toArray, hb.length, sizeLine_eq]; omega)
theorem listOfLB (F : Fr h₀ L s.heap m) (N : News h₀ L s.heap news) (hl : (b, listOf vs.toArray n) ∈ news) (hb : BytesAre vs ls) (hz : ls.length ≤ 16384)
    (h : ∀ D c h', Fr h₀ L h' m → News h₀ L h' ((D, listOf vs.toArray c) :: news) → (∀ p ∈ news, p.1 < D) → Q (.ref D) { s with heap := h' }) : wpAny (model prog w) A (call (.type "list") [.ref b]) Q E s :=
  list_copyK F N (N.isList hl) h (by rw [List.size_toArray, hb.length, sizeLine_eq]; omega)
theorem len_lstB (N : News h₀ L s.heap news) (ha : (a, listOf vs.toArray n) ∈ news) (hv : BytesAre vs ls) (hz : ls.length ≤ 16384) (h : ∀ t k, Q (.int (ls.length : Int) t) { s with toks := k }) :
    wpAny (model prog w) A (call (.builtin "len") [.ref a]) Q E s := by
  refine len_list (N.isList ha) (by rw [List.size_toArray, hv.length]; omega) ?_
  rw [List.size_toArray, hv.length]
  exact h _ _
theorem extendB {g : Obj → Led} (F : Fr h₀ L s.heap m) (N : News h₀ L s.heap news) (hb : (b, listOf ws.toArray n') ∈ news) (hv : BytesAre vs ls) (hw : BytesAre ws ms) (hz : ls.length ≤ 16384) (hz' : ms.length ≤ 16384)
    (U : ∀ o', Upd D (listOf vs.toArray n) o' news (g o'))
    (h : ∀ c us h', Fr h₀ L h' m → News h₀ L h' (g (listOf (List.toArray us) c)) → BytesAre us (ls ++ ms) → Q .none { s with heap := h' }) : wpAny (model prog w) A (call (.builtin "list.extend") [.ref D, .ref b]) Q E s := by
  have e1 := hv.length
  have e2 := hw.length
  have hd : ¬(!(vs.toArray).isEmpty && Builtin.List.listTooLong (vs.toArray.size + ws.toArray.size)) = true := by
    have : Builtin.List.listTooLong (vs.toArray.size + ws.toArray.size) = false := by
      unfold Builtin.List.listTooLong
      have e3 : sizeLine = 16777216 := sizeLine_eq
      simp only [List.size_toArray]
      simp
      omega
    rw [this]; simp
  by_cases hne : ms = []
  · subst hne
    cases hw
    refine kxn_extend F N hb rfl (U _) hd (by simp [sizeLine_eq]; omega) (by simp [sizeLine_eq]; omega) fun h' F' N' => h n vs h' F' N' (by rw [List.append_nil]; exact hv)
  · refine kl_extend F N hb rfl ?_ (U _) hd (by simp [sizeLine_eq]; omega) (by simp [sizeLine_eq]; omega) fun h' F' N' => h _ _ h' F' N' (by simpa using hv.append hw)
    intro q
    apply hne
    apply List.eq_nil_of_length_eq_zero
    rw [← e2]; simpa using q
theorem addB (F : Fr h₀ L s.heap m) (N : News h₀ L s.heap news) (ha : (a, listOf vs.toArray n) ∈ news) (hb : (b, listOf ws.toArray n') ∈ news) (hv : BytesAre vs ls) (hw : BytesAre ws ms) (hz : ls.length ≤ 16384) (hz' : ms.length ≤ 16384)
    (h : ∀ D us h', Fr h₀ L h' m → News h₀ L h' ((D, listOf (List.toArray us) 0) :: news) → (∀ p ∈ news, p.1 < D) → BytesAre us (ls ++ ms) → Q (.ref D) { s with heap := h' }) :
    wpAny (model prog w) A (binaryOp .Add (.ref a) (.ref b)) Q E s :=
  kmk_add_lit F N (N.isList ha) (N.isList hb) rfl (fun D h' F' N' l1 => h D _ h' F' N' l1 (by simpa using hv.append hw)) (by have e1 := hv.length; have e2 := hw.length; simp [sizeLine_eq]; omega)
theorem pick_from {x : Int} (hx : 0 ≤ x) : kms_pick vs (some x) none = vs.drop x.toNat := by
  unfold kms_pick kms_lo kms_hi
  dsimp only
  rw [if_neg (by omega), kmk_drop_min, List.take_of_length_le (by rw [List.length_drop]; omega)]
theorem pick_to {x : Int} (hx : 0 ≤ x) : kms_pick vs none (some x) = vs.take x.toNat := by
  unfold kms_pick kms_lo kms_hi
  dsimp only
  rw [if_neg (by omega), List.drop_zero, Nat.sub_zero, kmk_take_min]
theorem sliceFromB {value slice : PySem.Expr} {x : Int} {u : Tok} (F : Fr h₀ L s.heap m) (N : News h₀ L s.heap news) (ha : (a, listOf vs.toArray n) ∈ news) (hv : BytesAre vs ls) (hz : ls.length ≤ 16384) (hx : 0 ≤ x)
    (h : ∀ D us h', Fr h₀ L h' m → News h₀ L h' ((D, listOf (List.toArray us) 0) :: news) → (∀ p ∈ news, p.1 < D) → BytesAre us (ls.drop x.toNat) → Q (.ref D) { s with heap := h' })
    (hs : subscripted slice false (.ref a) (.ref s.heap.objs.size) = operate [.ref s.heap.objs.size, .ref a] (getItem (.ref a) (.ref s.heap.objs.size))) (ht : ∀ r, letTemporaryGo value (.ref a) r = pure ()) :
    wpAny (model prog w) A (subscriptTail value slice (.ref a) (.ref s.heap.objs.size)) Q E { s with heap := s.heap.push { cls := .type "slice", data := .fields #[.int x u, .none, .none] } } :=
  kms_slice_lit F N (N.isList ha) (IsPart.int _ _) IsPart.none (zs := vs.drop x.toNat) (by rw [pick_from hx]) (fun D h' F' N' l1 => h D _ h' F' N' l1 (hv.drop _)) hs ht (by rw [List.size_toArray, hv.length, sizeLine_eq]; omega)
theorem sliceToB {value slice : PySem.Expr} {x : Int} {u : Tok} (F : Fr h₀ L s.heap m) (N : News h₀ L s.heap news) (ha : (a, listOf vs.toArray n) ∈ news) (hv : BytesAre vs ls) (hz : ls.length ≤ 16384) (hx : 0 ≤ x)
    (h : ∀ D us h', Fr h₀ L h' m → News h₀ L h' ((D, listOf (List.toArray us) 0) :: news) → (∀ p ∈ news, p.1 < D) → BytesAre us (ls.take x.toNat) → Q (.ref D) { s with heap := h' })
    (hs : subscripted slice false (.ref a) (.ref s.heap.objs.size) = operate [.ref s.heap.objs.size, .ref a] (getItem (.ref a) (.ref s.heap.objs.size))) (ht : ∀ r, letTemporaryGo value (.ref a) r = pure ()) :
    wpAny (model prog w) A (subscriptTail value slice (.ref a) (.ref s.heap.objs.size)) Q E { s with heap := s.heap.push { cls := .type "slice", data := .fields #[.none, .int x u, .none] } } :=
  kms_slice_lit F N (N.isList ha) IsPart.none (IsPart.int _ _) (zs := vs.take x.toNat) (by rw [pick_to hx]) (fun D h' F' N' l1 => h D _ h' F' N' l1 (hv.take _)) hs ht (by rw [List.size_toArray, hv.length, sizeLine_eq]; omega)
end
theorem retNmU {h₀ h' : Heap} {L : Addr} {m : Str → Option Value} {news big : Led} {s : Shared} {Q : Value → Shared → Prop} {tk' : Nat} {x dx t C : Addr} {vs : List Value} {ls : List Lbl} {hs : Int} {tk : Tok}
    (ret : ∀ (x dx t : Addr) (hs : Int) (tk : Tok) (us : List Value) (h' : Heap) (tk' : Nat), Fr h₀ L h' m → News h₀ L h' ((x, instObj C dx) :: (dx, lblD hs tk t 1) :: (t, tupO us 0) :: news) → BytesAre us ls → Q (.ref x) { s with heap := h', toks := tk' })
    (hb : BytesAre vs ls) (F : Fr h₀ L h' m) (N : News h₀ L h' big) (hsub : ∀ p ∈ (x, instObj C dx) :: (dx, lblD hs tk t 1) :: (t, tupO vs 0) :: news, p ∈ big) : Q (.ref x) { s with heap := h', toks := tk' } :=
  ret x dx t hs tk vs h' tk' F (fun p hp => N p (hsub p hp)) hb
section
variable {prog : Program} {w : World} {A : Around} {E : Value → Shared → Prop} {s : Shared} {h₀ : Heap} {L t sl : Addr} {m : Str → Option Value} {news : Led} {vs : List Value} {ls : List Lbl} {n : Nat} {Q : Value → Shared → Prop}
theorem tupTail {value slice : PySem.Expr} {ops : List Value} {a b : Value} {x y : Option Int} {lo hi : Nat} (F : Fr h₀ L s.heap m) (N : News h₀ L s.heap news) (ht : (t, tupO vs n) ∈ news) (hsl : (sl, sliceO a b .none) ∈ news) (hv : BytesAre vs ls) (hz : ls.length ≤ 16384)
    (p : Part a x) (q : Part b y) (e : Builtin.Slice.sliceAdjust x y 1 (ls.length : Int) = ((lo : Int), (hi : Int))) (hle : lo ≤ hi) (hno : hi - lo ≠ ls.length)
    (h : ∀ D us h', Fr h₀ L h' m → News h₀ L h' ((D, tupO us 0) :: news) → (∀ p ∈ news, p.1 < D) → BytesAre us ((ls.drop lo).take (hi - lo)) → Q (.ref D) { s with heap := h' })
    (hs : subscripted slice false (.ref t) (.ref sl) = operate ops (getItem (.ref t) (.ref sl))) (hg : ∀ r, letTemporaryGo value (.ref t) r = pure ()) :
    wpAny (model prog w) A (subscriptTail value slice (.ref t) (.ref sl)) Q E s := by
  have hT := N.isTup ht
  have e1 : vs.toArray.size = ls.length := by rw [List.size_toArray, hv.length]
  refine subscriptTail_ops hT.typeIs slot_tuple_getitem.lookup (getItem_tuple_slice hT (N _ hsl).1 rfl rfl p q (by rw [e1]; exact e) hle (by rw [e1]; exact hno) ?_ (by rw [e1, sizeLine_eq]; omega)) hs hg
  exact h _ _ _ (F.push _) (News.push F N _) (fun p hp => Heap.lt_size (N p hp).1) ((hv.drop _).take _)
theorem adj_to {k : Int} {c : Nat} (hk1 : k < 0) (hk2 : -k ≤ (c : Int)) : Builtin.Slice.sliceAdjust none (some k) 1 (c : Int) = (((0 : Nat) : Int), ((c - (-k).toNat : Nat) : Int)) := by
  unfold Builtin.Slice.sliceAdjust
  simp only [Option.getD_none, show (1 : Int) > 0 by decide, if_true, Option.map_some, Option.getD_some]
  congr 1
  split <;> (try split) <;> omega
theorem adj_from {k : Int} {c : Nat} (hk1 : k < 0) (hk2 : -k ≤ (c : Int)) : Builtin.Slice.sliceAdjust (some k) none 1 (c : Int) = (((c - (-k).toNat : Nat) : Int), (c : Int)) := by
  unfold Builtin.Slice.sliceAdjust
  simp only [Option.getD_none, show (1 : Int) > 0 by decide, if_true, Option.map_some, Option.getD_some]
  congr 1
  split <;> (try split) <;> omega
end
theorem retTp {h₀ h' : Heap} {L : Addr} {m : Str → Option Value} {news big : Led} {s : Shared} {Q : Value → Shared → Prop} {tk' : Nat} {r : Addr} {us : List Value} {ls ms : List Lbl}
    (ret : ∀ (r : Addr) (us : List Value) (h' : Heap) (tk' : Nat), Fr h₀ L h' m → News h₀ L h' ((r, tupO us 0) :: news) → BytesAre us ls → Q (.ref r) { s with heap := h', toks := tk' })
    (hb : BytesAre us ms) (F : Fr h₀ L h' m) (N : News h₀ L h' big) (hsub : ∀ p ∈ (r, tupO us 0) :: news, p ∈ big) (e : ms = ls) : Q (.ref r) { s with heap := h', toks := tk' } :=
  ret r us h' tk' F (fun p hp => N p (hsub p hp)) (e ▸ hb)
section
variable {prog : Program} {w : World} {A : Around} {E : Value → Shared → Prop} {s : Shared} {h₀ : Heap} {L : Addr} {m : Str → Option Value} {news : Led} {Q : Value → Shared → Prop}
theorem sl_named {value slice : PySem.Expr} {v a b c : Value} (F : Fr h₀ L s.heap m) (N : News h₀ L s.heap news)
    (h : ∀ sl h', Fr h₀ L h' m → News h₀ L h' ((sl, sliceO a b c) :: news) → (∀ p ∈ news, p.1 < sl) → wpAny (model prog w) A (subscriptTail value slice v (.ref sl)) Q E { s with heap := h' }) :
    wpAny (model prog w) A (subscriptTail value slice v (.ref s.heap.objs.size)) Q E { s with heap := s.heap.push { cls := .type "slice", data := .fields #[a, b, c] } } :=
  h _ _ (F.push _) (News.push F N _) fun p hp => Heap.lt_size (N p hp).1
theorem adj_one {k : Int} {c : Nat} (hk1 : k = 1) (hk2 : 0 < c) : Builtin.Slice.sliceAdjust (some k) none 1 (c : Int) = (((1 : Nat) : Int), (c : Int)) := by
  subst hk1
  unfold Builtin.Slice.sliceAdjust
  simp only [Option.getD_none, show (1 : Int) > 0 by decide, if_true, Option.map_some, Option.getD_some]
  congr 1
  split <;> (try split) <;> omega
end
section
variable {prog : Program} {w : World} {A : Around} {E : Value → Shared → Prop} {s : Shared} {K : Frag} {x C L f : Addr} {h₀ : Heap} {m : Str → Option Value} {ox : Obj} {od : Option Obj}
/-- a slice of an object of a class of one's own with a __getitem__ -/
theorem subsl_K {value slice : PySem.Expr} {i : Value} {ops : List Value} {Q : Value → Shared → Prop} (F : Fr h₀ L s.heap m) (X₀ : K.In h₀) (I : InstAt s.heap x ox C od) (hq : noSeq K C = true) (hs : findIn K (.ref C) "__getitem__" = some (some (.ref f))) (hf : fnIn K f = true) (hfn : isFn K (.ref f) = true)
    (h : wpAny (model prog w) A (call (.ref f) [.ref x, i]) Q E s)
    (hsl : subscripted slice true (.ref x) i = operate ops (getItem (.ref x) i)) :
    wpAny (model prog w) A (subscriptTail value slice (.ref x) i) Q E s := by
  have X := X₀.keeps F.keep
  unfold fnIn at hf
  split at hf
  · rename_i e
    unfold subscriptTail getitemInPython
    refine wpAny_bind (wpAny_bind (wpAny_bind (I.type.here ((looks_findIn X hs).here ?_))))
    dsimp only
    refine wpAny_bind (wpAny_load (X _ _ e) (wpAny_pure ?_))
    dsimp only
    rw [hsl]
    refine wpAny_bind (wpAny_operating (wpAny_mono (getItem_K F X₀ I hq hs hfn h) (fun v s' z => ?_) fun _ _ z => z))
    show wpAny (model prog w) A (letTemporaryGo value (.ref x) v >>= fun _ => pure v) Q E s'
    exact wpAny_bind (wpAny_letTemporaryGo (wpAny_pure z))
  · cases hf
end
end Mine

namespace Mine
/-- a row of labels that a Name may be made of -/
structure Okay (ls : List Lbl) : Prop where
  len : ∀ l ∈ ls, l.length ≤ 63
  wid : wireN ls ≤ 255
  mid : ∀ i, i + 1 < ls.length → ls.getD i [] ≠ []
theorem empI_neg : ∀ (ls : List Lbl) (k : Int), 0 ≤ k → (∀ i, i < ls.length → ls.getD i [] ≠ []) → empI ls k = -1
  | [], _, _, _ => rfl
  | a :: r, k, hk, h => by
    have h0 := h 0 (by simp)
    simp only [List.getD_cons_zero] at h0
    simp only [empI, h0, if_false]
    exact empI_neg r (k + 1) (by omega) fun i hi => by have := h (i + 1) (by simp; omega); simpa using this
theorem empI_get : ∀ (ls : List Lbl) (k : Int) (i : Nat), 0 ≤ k → i < ls.length → ls.getD i [] = [] → (0 ≤ empI ls k ∧ empI ls k ≤ k + i)
  | [], _, _, _, h, _ => by simp at h
  | a :: r, k, i, hk, h, e => by
    simp only [empI]
    by_cases ha : a = []
    · simp only [ha, if_true]; omega
    · simp only [ha, if_false]
      cases i with
      | zero => exact absurd (by simpa using e) ha
      | succ i =>
        have := empI_get r (k + 1) i (by omega) (by simpa using h) (by simpa using e)
        push_cast; omega
theorem empI_at : ∀ (ls : List Lbl) (k : Int), 0 ≤ k → 0 ≤ empI ls k → k ≤ empI ls k ∧ (empI ls k - k).toNat < ls.length ∧ ls.getD (empI ls k - k).toNat [] = []
  | [], _, _, h => by simp [empI] at h
  | a :: r, k, hk, h => by
    simp only [empI] at h ⊢
    by_cases ha : a = []
    · simp only [ha, if_true]; refine ⟨by omega, by simp, by simp⟩
    · simp only [ha, if_false] at h ⊢
      obtain ⟨h1, h2, h3⟩ := empI_at r (k + 1) (by omega) h
      have e : (empI r (k + 1) - k).toNat = (empI r (k + 1) - (k + 1)).toNat + 1 := by omega
      refine ⟨by omega, ?_, ?_⟩
      · rw [e]; simp; exact h2
      · rw [e]; simpa using h3
theorem vcode_zero {ls : List Lbl} : vcode ls = 0 ↔ Okay ls := by
  unfold vcode
  constructor
  · intro h
    split at h
    · cases h
    · rename_i h1
      split at h
      · cases h
      · rename_i h2
        split at h
        · cases h
        · rename_i h3
          refine ⟨?_, by omega, ?_⟩
          · intro l hl
            rw [List.any_eq_true] at h1
            by_cases q : l.length ≤ 63
            · exact q
            · exact absurd ⟨l, hl, decide_eq_true (by omega)⟩ h1
          · intro i hi e
            have := empI_get ls 0 i (by omega) (by omega) e
            apply h3
            omega
  · rintro ⟨h1, h2, h3⟩
    rw [if_neg, if_neg (by omega), if_neg]
    · rintro ⟨a, b⟩
      obtain ⟨q1, q2, q3⟩ := empI_at ls 0 (by omega) a
      rw [Int.sub_zero] at q2 q3
      exact h3 _ (by omega) q3
    · rw [List.any_eq_true]
      rintro ⟨l, hl, q⟩
      have := h1 l hl
      simp at q
      omega
theorem wireN_nonneg : ∀ ls : List Lbl, 0 ≤ wireN ls
  | [] => by simp [wireN]
  | a :: r => by have := wireN_nonneg r; simp only [wireN, List.map_cons, List.sum_cons] at this ⊢; omega
theorem wireN_cons (a : Lbl) (r : List Lbl) : wireN (a :: r) = (a.length : Int) + 1 + wireN r := by simp [wireN]
theorem wireN_take (ls : List Lbl) (k : Nat) : wireN (ls.take k) ≤ wireN ls := by
  have h := wireN_append (ls.take k) (ls.drop k)
  rw [List.take_append_drop] at h
  have := wireN_nonneg (ls.drop k)
  omega
theorem wireN_drop (ls : List Lbl) (k : Nat) : wireN (ls.drop k) ≤ wireN ls := by
  have h := wireN_append (ls.take k) (ls.drop k)
  rw [List.take_append_drop] at h
  have := wireN_nonneg (ls.take k)
  omega
theorem wireN_len : ∀ ls : List Lbl, (ls.length : Int) ≤ wireN ls
  | [] => by simp [wireN]
  | a :: r => by have := wireN_len r; rw [wireN_cons]; simp only [List.length_cons]; push_cast; omega
theorem getD_take {ls : List Lbl} {k i : Nat} (h : i < k) : (ls.take k).getD i [] = ls.getD i [] := by
  simp [List.getD, List.getElem?_take, h]
theorem getD_drop (ls : List Lbl) (k i : Nat) : (ls.drop k).getD i [] = ls.getD (k + i) [] := by
  simp [List.getD, List.getElem?_drop]
theorem Okay.take {ls : List Lbl} (h : Okay ls) (k : Nat) : Okay (ls.take k) := by
  refine ⟨fun l hl => h.len l (List.mem_of_mem_take hl), Int.le_trans (wireN_take ls k) h.wid, fun i hi => ?_⟩
  rw [List.length_take] at hi
  rw [getD_take (by omega)]
  exact h.mid i (by omega)
theorem Okay.drop {ls : List Lbl} (h : Okay ls) (k : Nat) : Okay (ls.drop k) := by
  refine ⟨fun l hl => h.len l (List.mem_of_mem_drop hl), Int.le_trans (wireN_drop ls k) h.wid, fun i hi => ?_⟩
  rw [List.length_drop] at hi
  rw [getD_drop]
  exact h.mid _ (by omega)
theorem v_take {ls : List Lbl} (h : vcode ls = 0) (k : Nat) : vcode (ls.take k) = 0 := vcode_zero.mpr ((vcode_zero.mp h).take k)
theorem v_drop {ls : List Lbl} (h : vcode ls = 0) (k : Nat) : vcode (ls.drop k) = 0 := vcode_zero.mpr ((vcode_zero.mp h).drop k)
theorem v_len {ls : List Lbl} (h : vcode ls = 0) : ls.length ≤ 255 := by have := wireN_len ls; have := (vcode_zero.mp h).wid; omega
theorem order_eq : ∀ {a b : List UInt8}, Builtin.Bytes.order a b = .eq → a = b
  | [], [], _ => rfl
  | [], _ :: _, h => by simp [Builtin.Bytes.order] at h
  | _ :: _, [], h => by simp [Builtin.Bytes.order] at h
  | x :: xs, y :: ys, h => by
    simp only [Builtin.Bytes.order] at h
    split at h
    · cases h
    · split at h
      · cases h
      · rename_i h1 h2
        have e : x = y := by
          apply UInt8.toNat_inj.mp
          rw [UInt8.lt_iff_toNat_lt] at h1
          have h2' : ¬ y < x := h2
          rw [UInt8.lt_iff_toNat_lt] at h2'
          omega
        rw [e, order_eq h]
theorem order_self : ∀ (a : List UInt8), Builtin.Bytes.order a a = .eq
  | [] => rfl
  | x :: xs => by
    simp only [Builtin.Bytes.order]
    rw [if_neg (by rw [UInt8.lt_iff_toNat_lt]; omega), if_neg (by show ¬ x < x; rw [UInt8.lt_iff_toNat_lt]; omega)]
    exact order_self xs
theorem b_eq {a b : List UInt8} (h : bLt a b = false) (h' : bGt a b = false) : a = b := by
  unfold bLt at h
  unfold bGt at h'
  apply order_eq
  cases q : Builtin.Bytes.order a b <;> simp_all
theorem bLt_self (a : List UInt8) : bLt a a = false := by unfold bLt; rw [order_self]; rfl
theorem bGt_self (a : List UInt8) : bGt a a = false := by unfold bGt; rw [order_self]; rfl
/-- alike in small letters, as far as both go -/
def agr : List Lbl → List Lbl → Bool
  | x :: r, y :: q => decide (lowB x = lowB y) && agr r q
  | _, _ => true
theorem fcR_agr (d : Int) : ∀ (r q : List Lbl) (k : Int), agr r q = true → (fcR d r q k).1 = (if d < 0 then 1 else if d > 0 then 2 else 3) ∧ (fcR d r q k).2.1 = d
  | [], _, _, _ => by simp [fcR]
  | _ :: _, [], _, _ => by simp [fcR]
  | x :: r, y :: q, k, h => by
    simp only [agr, Bool.and_eq_true, decide_eq_true_eq] at h
    have e : fcR d (x :: r) (y :: q) k = fcR d r q (k + 1) := by
      rw [fcR, h.1, bLt_self, bGt_self]; simp
    rw [e]
    exact fcR_agr d r q (k + 1) h.2
theorem fcR_not (d : Int) : ∀ (r q : List Lbl) (k : Int), agr r q = false → ((fcR d r q k).1 = 0 ∨ (fcR d r q k).1 = 4) ∧ ((fcR d r q k).2.1 = -1 ∨ (fcR d r q k).2.1 = 1)
  | [], _, _, h => by simp [agr] at h
  | _ :: _, [], _, h => by simp [agr] at h
  | x :: r, y :: q, k, h => by
    rw [fcR]
    split
    · refine ⟨?_, .inl rfl⟩
      show (if k > 0 then (4 : Int) else 0) = 0 ∨ (if k > 0 then (4 : Int) else 0) = 4
      split <;> simp
    · split
      · refine ⟨?_, .inr rfl⟩
        show (if k > 0 then (4 : Int) else 0) = 0 ∨ (if k > 0 then (4 : Int) else 0) = 4
        split <;> simp
      · rename_i h1 h2
        have e := b_eq (by simpa using h1) (by simpa using h2)
        have h' : agr r q = false := by
          have : agr (x :: r) (y :: q) = (decide (lowB x = lowB y) && agr r q) := rfl
          rw [this, e] at h
          simpa using h
        exact fcR_not d r q (k + 1) h'
theorem agr_iff : ∀ {r q : List Lbl}, q.length ≤ r.length → (agr r q = true ↔ (r.take q.length).map lowB = q.map lowB)
  | _, [], _ => by simp [agr]
  | [], _ :: _, h => by simp at h
  | x :: r, y :: q, h => by
    have := agr_iff (r := r) (q := q) (by simpa using h)
    simp only [agr, Bool.and_eq_true, decide_eq_true_eq, List.length_cons, List.take_succ_cons, List.map_cons, List.cons.injEq]
    rw [this]
theorem agr_comm : ∀ (r q : List Lbl), agr r q = agr q r
  | [], [] => rfl
  | [], _ :: _ => rfl
  | _ :: _, [] => rfl
  | x :: r, y :: q => by
    simp only [agr]
    rw [agr_comm r q]
    congr 1
    exact decide_eq_decide.mpr eq_comm
/-- under: as the law tells it -/
def undO (ls ms : List Lbl) : Bool :=
  if (absO ls != absO ms) || decide (ls.length < ms.length) then false else decide ((ls.drop (ls.length - ms.length)).map lowB = ms.map lowB)
theorem agr_rev {ls ms : List Lbl} (h : ms.length ≤ ls.length) : agr ls.reverse ms.reverse = decide ((ls.drop (ls.length - ms.length)).map lowB = ms.map lowB) := by
  have q := agr_iff (r := ls.reverse) (q := ms.reverse) (by simpa using h)
  rw [List.length_reverse, List.take_reverse, List.map_reverse, List.map_reverse, List.reverse_inj] at q
  rw [Bool.eq_iff_iff, q, decide_eq_true_eq]
theorem subO_und (ls ms : List Lbl) : subO ls ms = undO ls ms := by
  unfold subO undO fcmp
  by_cases ha : (absO ls != absO ms) = true
  · rw [if_pos ha, ha]; simp
  · have ha' : (absO ls != absO ms) = false := by simpa using ha
    rw [if_neg ha, ha', Bool.false_or]
    by_cases hl : ls.length < ms.length
    · rw [if_pos (by simpa using hl)]
      cases q : agr ls.reverse ms.reverse with
      | true =>
        rw [(fcR_agr _ _ _ _ q).1, if_pos (by omega)]
        simp
      | false =>
        rcases (fcR_not ((ls.length : Int) - (ms.length : Int)) _ _ 0 q).1 with e | e <;> rw [e] <;> simp
    · rw [if_neg (by simpa using hl)]
      rw [← agr_rev (by omega)]
      cases q : agr ls.reverse ms.reverse with
      | true =>
        rw [(fcR_agr _ _ _ _ q).1, if_neg (by omega)]
        split <;> simp
      | false =>
        rcases (fcR_not ((ls.length : Int) - (ms.length : Int)) _ _ 0 q).1 with e | e <;> rw [e] <;> simp
theorem und_len {ls ms : List Lbl} (h : undO ls ms = true) : ms.length ≤ ls.length := by
  unfold undO at h
  split at h
  · cases h
  · rename_i q
    simp only [Bool.or_eq_true, decide_eq_true_eq] at q
    omega
theorem sub_len {ls ms : List Lbl} (h : subO ls ms = true) : ms.length ≤ ls.length := und_len (subO_und ls ms ▸ h)
/-- equal names: alike in small letters -/
theorem ordO_zero (ls ms : List Lbl) : (ordO ls ms = 0) ↔ (absO ls = absO ms ∧ ls.map lowB = ms.map lowB) := by
  unfold ordO fcmp
  by_cases ha : (absO ls != absO ms) = true
  · rw [if_pos ha]
    have : ¬ absO ls = absO ms := by simpa using ha
    constructor
    · intro h
      exfalso
      revert h
      show (if absO ls then (1 : Int) else -1) = 0 → False
      split <;> simp
    · intro h; exact absurd h.1 this
  · rw [if_neg ha]
    have ha' : absO ls = absO ms := by simpa using ha
    constructor
    · intro h
      cases q : agr ls.reverse ms.reverse with
      | true =>
        rw [(fcR_agr _ _ _ _ q).2] at h
        have hl : ls.length = ms.length := by omega
        rw [agr_rev (by omega)] at q
        have q' := of_decide_eq_true q
        rw [hl, Nat.sub_self, List.drop_zero] at q'
        exact ⟨ha', q'⟩
      | false =>
        rcases (fcR_not ((ls.length : Int) - (ms.length : Int)) _ _ 0 q).2 with e | e <;> rw [e] at h <;> cases h
    · rintro ⟨_, h⟩
      have hl : ls.length = ms.length := by simpa using congrArg List.length h
      have q : agr ls.reverse ms.reverse = true := by
        rw [agr_rev (by omega)]
        apply decide_eq_true
        rw [hl, Nat.sub_self, List.drop_zero, h]
      rw [(fcR_agr _ _ _ _ q).2]
      omega
theorem ordO_self (ls : List Lbl) : ordO ls ls = 0 := (ordO_zero ls ls).mpr ⟨rfl, rfl⟩
theorem newsSub {h₀ h' : Heap} {L : Addr} {news big : Led} (N : News h₀ L h' big) (hs : ∀ p ∈ news, p ∈ big) : News h₀ L h' news := fun p hp => N p (hs p hp)
theorem retT1 {h₀ h' : Heap} {L r : Addr} {m : Str → Option Value} {news big : Led} {s : Shared} {Q : Value → Shared → Prop} {tk' : Nat} {o : Obj}
    (ret : ∀ (r : Addr) (h' : Heap) (tk' : Nat), Fr h₀ L h' m → News h₀ L h' ((r, o) :: news) → Q (.ref r) { s with heap := h', toks := tk' })
    (F : Fr h₀ L h' m) (N : News h₀ L h' big) (hs : ∀ p ∈ (r, o) :: news, p ∈ big) : Q (.ref r) { s with heap := h', toks := tk' } := ret r h' tk' F (newsSub N hs)
section
variable {prog : Program} {w : World} {A : Around} {E : Value → Shared → Prop} {s : Shared} {K : Frag} {x C L f : Addr} {h₀ : Heap} {m : Str → Option Value} {ox : Obj} {od : Option Obj}
theorem len_K' {Q : Value → Shared → Prop} (F : Fr h₀ L s.heap m) (X₀ : K.In h₀) (I : InstAt s.heap x ox C od) (hs : findIn K (.ref C) "__len__" = some (some (.ref f))) (hf : isFn K (.ref f) = true)
    (h : wpAny (model prog w) A.in1 (call (.ref f) [.ref x]) (PySem.W.LenBack Q) E s) : wpAny (model prog w) A (runValue (.builtin "len" ⟨[.ref x], []⟩)) Q E s := by
  refine wpAny_runValue (codeAny_builtin entry_len ?_)
  unfold Builtin.«len»
  refine wpAny_bind (m := oneArg "len" _) (wpAny_pure ?_)
  refine wpAny_bind (m := callSpecial? (.ref x) (Str.ofString "__len__")) (special_fn (X₀.keeps F.keep) I hs (beq_iff_eq.mp hf) (wpAny_mono h (fun r s' hr => ?_) fun _ _ y => y))
  cases r <;> first | exact hr.elim | skip
  rename_i n u
  obtain ⟨⟨h0, h1⟩, hq⟩ := hr
  refine wpAny_bind (wpAny_holding (wpAny_pure ?_))
  refine wpAny_bind (wpAny_letGo ?_)
  show wpAny _ _ (if n < 0 then _ else _) _ _ _
  rw [if_neg (by omega)]
  show wpAny _ _ (if n ≥ 2 ^ 63 then _ else _) _ _ _
  rw [if_neg (by omega)]
  exact wpAny_bind (wpAny_mkInt (wpAny_pure hq))
def NonZ (Q : Bool → Shared → Prop) (v : Value) (s' : Shared) : Prop := match v with
  | .int n _ => Q (decide (n ≠ 0)) s'
  | _ => False
/-- the truth of an object whose class has a __len__ and no __bool__ -/
theorem truthy_len {Q : Bool → Shared → Prop} (F : Fr h₀ L s.heap m) (X₀ : K.In h₀) (I : InstAt s.heap x ox C od) (hb : findIn K (.ref C) "__bool__" = some none) (hs : findIn K (.ref C) "__len__" = some (some (.ref f))) (hf : isFn K (.ref f) = true)
    (h : wpAny (model prog w) A.in1 (call (.ref f) [.ref x]) (PySem.W.LenBack (NonZ Q)) E s) : wpAny (model prog w) A (truthy (.ref x)) Q E s := by
  have X := X₀.keeps F.keep
  unfold truthy
  refine wpAny_bind (m := callSpecial? (.ref x) (Str.ofString "__bool__")) (wpAny_bind (wpAny_bind (I.type.here ((looks_findIn X hb).here (wpAny_pure ?_)))))
  refine wpAny_bind (wpAny_bind (I.type.here ((looks_findIn X hs).here ?_)))
  show wpAny _ _ (if (some (Value.ref f)).isNone = true then _ else _) _ _ _
  rw [if_neg (by simp)]
  refine wpAny_bind (wpAny_mono (len_K' F X₀ I hs hf h) (fun v s' z => ?_) fun _ _ y => y)
  cases v <;> first | exact z.elim | skip
  rename_i n u
  have e : (n != 0) = decide (n ≠ 0) := by by_cases q : n = 0 <;> simp [q]
  show wpAny _ _ (pure (n != 0)) _ _ _
  rw [e]
  exact wpAny_pure z
end
end Mine

namespace Mine
section
variable {prog : Program} {w : World} {A : Around} {E : Value → Shared → Prop} {s : Shared} {h₀ : Heap} {L a b : Addr} {m : Str → Option Value} {news : Led} {vs ws : List Value} {ls ms : List Lbl} {n n' : Nat} {Q : Value → Shared → Prop}
/-- an item of a tuple of labels of the program's own heap -/
theorem item_tupKI {K : Frag} {o : Obj} {value slice : Expr} {k : Int} {u : Tok} (X₀ : K.In h₀) (F : Fr h₀ L s.heap m) (ho : K.lookup a = some o) (e : o = tupO vs n) (hv : BytesAre vs ls) (hz : ls.length ≤ 16384) (h0 : 0 ≤ k) (h1 : k < ls.length)
    (h : ∀ (x : Lbl) t, x = ls.getD k.toNat [] → x.length ≤ 4096 → Q (.bytes x.toArray t) s)
    (hs : subscripted slice false (.ref a) (.int k u) = operate [.ref a, .int k u] (getItem (.ref a) (.int k u)) := by with_unfolding_all rfl) :
    wpAny (model prog w) A (subscriptTail value slice (.ref a) (.int k u)) Q E s := by
  obtain ⟨t, e1, e2⟩ := hv.get k.toNat (by omega)
  have hT : IsTup s.heap a vs.toArray := ⟨o, F.keep _ _ (X₀ _ _ ho), by rw [e], n, by rw [e]⟩
  refine item_tupleT hT (by omega) (by omega) (j := k.toNat) ?_ e1 (h _ t rfl e2) hs
  rw [hv.length]
  unfold seqIndex?
  have h2 : ¬ (k < 0) := by omega
  simp [h2]
  omega
theorem item_lstI {value slice : Expr} {k : Int} {u : Tok} (N : News h₀ L s.heap news) (ha : (a, listOf vs.toArray n) ∈ news) (hv : BytesAre vs ls) (hz : ls.length ≤ 16384) (h0 : 0 ≤ k) (h1 : k < ls.length)
    (h : ∀ (x : Lbl) t, x = ls.getD k.toNat [] → x.length ≤ 4096 → Q (.bytes x.toArray t) s)
    (hs : subscripted slice false (.ref a) (.int k u) = operate [.ref a, .int k u] (getItem (.ref a) (.int k u)) := by with_unfolding_all rfl) (hg : ∀ r, letTemporaryGo value (.ref a) r = pure () := by intro _; with_unfolding_all rfl) :
    wpAny (model prog w) A (subscriptTail value slice (.ref a) (.int k u)) Q E s := by
  obtain ⟨t, e1, e2⟩ := hv.get k.toNat (by omega)
  exact item_listL (N.isList ha) h0 (by omega) e1 (h _ t rfl e2) hs hg
/-- a comparison whose right hand is of a subclass: its method first -/
theorem cmp_first {K : Frag} {op : CmpOp} {x y C C' g : Addr} {ox oy : Obj} {od od' : Option Obj} (hu : A.units < cLine) (F : Fr h₀ L s.heap m) (X₀ : K.In h₀) (I : InstAt s.heap x ox C od) (J : InstAt s.heap y oy C' od') (hne : (Value.ref C != Value.ref C') = true) (hsub : subIn K (.ref C') (.ref C) = some true)
    (hs : findIn K (.ref C') (cmpInfo op).2.2 = some (some (.ref g))) (hf : isFn K (.ref g) = true)
    (h : wpAny (model prog w) A (call (.ref g) [.ref y, .ref x]) (PySem.W.CmpBack Q) E s) : wpAny (model prog w) A (richCompare op (.ref x) (.ref y)) Q E s := by
  have X := X₀.keeps F.keep
  have one : wpAny (model prog w) A (tryCompare (.ref y) (cmpInfo op).2.2 (.ref x)) (fun r s' => ∃ v, r = some v ∧ Q v s') E s := by
    unfold tryCompare
    refine wpAny_bind (ifBound_K X J hs hf (wpAny_mono h (fun v s' hv => ?_) fun _ _ e => e))
    cases v <;> first | exact hv.elim | exact wpAny_pure ⟨_, rfl, hv⟩
  unfold richCompare
  simp only [oneThing_ref]
  refine wpAny_holding (wpAny_bind (wpAny_cRoomFor hu ?_))
  refine wpAny_bind (I.type.here (wpAny_bind (J.type.here ?_)))
  rw [if_pos hne]
  refine wpAny_bind ((looks_subIn X hsub).here ?_)
  simp only [if_true]
  refine wpAny_bind (wpAny_mono one (fun r s' z => ?_) fun _ _ e => e)
  obtain ⟨v, rfl, hq⟩ := z
  first | exact wpAny_bind (wpAny_rule (wpAny_pure hq)) | exact wpAny_rule (wpAny_pure hq) | exact wpAny_rule (wpAny_bind (wpAny_pure hq))
end
section
variable {prog : Program} {w : World} {A : Around} {E : Value → Shared → Prop} {s : Shared} {h₀ : Heap} {L a b : Addr} {m : Str → Option Value} {news : Led} {vs ws : List Value} {ls ms : List Lbl} {n n' : Nat} {Q : Value → Shared → Prop}
theorem len_tupE {k : Int} (N : News h₀ L s.heap news) (ha : (a, tupO vs n) ∈ news) (hv : BytesAre vs ls) (hz : ls.length ≤ 16384) (e : (ls.length : Int) = k) (h : ∀ t k', Q (.int k t) { s with toks := k' }) :
    wpAny (model prog w) A (call (.builtin "len") [.ref a]) Q E s := len_tupB N ha hv hz fun t k' => e ▸ h t k'
theorem retO {h₀ h' : Heap} {L r : Addr} {m : Str → Option Value} {news big : Led} {s : Shared} {Q : Value → Shared → Prop} {tk' : Nat} {v1 v3 : Value} {o : Int} {t : Tok} {P : Prop}
    (ret : ∀ (r : Addr) (v1 : Value) (o : Int) (t : Tok) (v3 : Value) (h' : Heap) (tk' : Nat), Fr h₀ L h' m → News h₀ L h' ((r, tupO [v1, .int o t, v3] 0) :: news) → (o = 0 ↔ P) → Q (.ref r) { s with heap := h', toks := tk' })
    (F : Fr h₀ L h' m) (N : News h₀ L h' big) (hs : ∀ p ∈ (r, tupO [v1, .int o t, v3] 0) :: news, p ∈ big) (e : o = 0 ↔ P) : Q (.ref r) { s with heap := h', toks := tk' } := ret r v1 o t v3 h' tk' F (newsSub N hs) e
end
theorem lowB_nil {x : Lbl} (h : lowB [] = lowB x) : x = [] := by
  apply List.eq_nil_of_length_eq_zero
  have := congrArg List.length h
  rw [lowB_length, lowB_length] at this
  exact this.symm
theorem one_root {ls : List Lbl} {x y : Lbl} (hL : (ls.length : Int) = 1) (hx : x = ls.getD (0 : Int).toNat []) (hy : y = ([[]] : List Lbl).getD (0 : Int).toNat []) (h1 : bLt (lowB y) (lowB x) = false) (h2 : bGt (lowB y) (lowB x) = false) : ls = [[]] := by
  have e := b_eq h1 h2
  have hy' : y = [] := by simpa using hy
  rw [hy'] at e
  have hx' := lowB_nil e
  match ls, hL with
  | [z], _ => rw [hx'] at hx; simp at hx; rw [← hx]
  | [], h => simp at h
  | _ :: _ :: _, h => simp at h; omega
theorem one_root_not {ls : List Lbl} {x y : Lbl} (hx : x = ls.getD (0 : Int).toNat []) (hy : y = ([[]] : List Lbl).getD (0 : Int).toNat []) (h1 : bLt (lowB y) (lowB x) = true ∨ bGt (lowB y) (lowB x) = true) : ls ≠ [[]] := by
  intro e
  subst e
  rw [hx, hy] at h1
  revert h1
  simp [bLt_self, bGt_self]
theorem ne_root_len {ls : List Lbl} (h : 1 < (ls.length : Int)) : ls ≠ [[]] := by rintro rfl; simp at h
theorem ne_root_abs {ls : List Lbl} (h : absO ls = false) : ls ≠ [[]] := by rintro rfl; cases h
theorem abs_pos {ls : List Lbl} (h : absO ls = true) : 0 < ls.length := by
  unfold absO at h
  simp only [Bool.and_eq_true, decide_eq_true_eq] at h
  exact h.1
theorem pos_of_ne {ls : List Lbl} (h : ¬ ls = []) : 0 < ls.length := List.length_pos_iff.mpr h
theorem elt_map (f : Lbl → Lbl) {l : Lbl} {t u : Tok} (h : (f l).length ≤ 4096) : ∀ (l2 : Lbl) (t2 : Tok), Value.bytes l.toArray t = .bytes l2.toArray t2 → ∃ u', Value.bytes (f l).toArray u = .bytes (f l2).toArray u' ∧ (f l2).length ≤ 4096 := by
  intro l2 t2 e
  have e1 : l = l2 := by
    injection e with e1
    simpa using e1
  subst e1
  exact ⟨u, rfl, h⟩
theorem retLs {h₀ h' : Heap} {L D : Addr} {m : Str → Option Value} {news big : Led} {s : Shared} {Q : Value → Shared → Prop} {tk' : Nat} {us : List Value} {ls : List Lbl} {c : Nat}
    (ret : ∀ (D : Addr) (c : Nat) (us : List Value) (h' : Heap) (tk' : Nat), Fr h₀ L h' m → News h₀ L h' ((D, listOf us.toArray c) :: news) → BytesAre us ls → Q (.ref D) { s with heap := h', toks := tk' })
    (hb : BytesAre us ls) (F : Fr h₀ L h' m) (N : News h₀ L h' big) (hs : ∀ p ∈ (D, listOf us.toArray c) :: news, p ∈ big) : Q (.ref D) { s with heap := h', toks := tk' } := ret D c us h' tk' F (newsSub N hs) hb
theorem absO_posL {ls : List Lbl} {x : Lbl} (h : 0 < (ls.length : Int)) (e : x = ls.getD ((ls.length : Int) - 1).toNat []) : decide (x = []) = absO ls := by
  have q : ((ls.length : Int) - 1).toNat = ls.length - 1 := by omega
  rw [e, q]
  exact absO_pos h
def wordsL : List Lbl := [[97], [65], [98], [95], [99, 100, 101, 102, 103, 104, 105, 106, 107, 108, 109, 110, 111, 112, 113, 114, 115, 116, 117, 118, 119, 120, 121], [67, 68, 69, 70, 71, 72, 73, 74, 75, 76, 77, 78, 79, 80, 81, 82, 83, 84, 85, 86, 87, 88, 89], [0], [122, 122, 122, 122, 122, 122, 122, 122, 122, 122, 122, 122, 122, 122, 122, 122, 122, 122, 122, 122, 122, 122, 122, 122, 122, 122, 122, 122, 122, 122, 122, 122, 122, 122, 122, 122, 122, 122, 122, 122], [42], [201], [233], [96]]
theorem words_are {t0 t1 t2 t3 t4 t5 t6 t7 t8 t9 t10 t11 : Tok} : BytesAre [.bytes #[97] t0, .bytes #[65] t1, .bytes #[98] t2, .bytes #[95] t3, .bytes #[99, 100, 101, 102, 103, 104, 105, 106, 107, 108, 109, 110, 111, 112, 113, 114, 115, 116, 117, 118, 119, 120, 121] t4, .bytes #[67, 68, 69, 70, 71, 72, 73, 74, 75, 76, 77, 78, 79, 80, 81, 82, 83, 84, 85, 86, 87, 88, 89] t5, .bytes #[0] t6, .bytes #[122, 122, 122, 122, 122, 122, 122, 122, 122, 122, 122, 122, 122, 122, 122, 122, 122, 122, 122, 122, 122, 122, 122, 122, 122, 122, 122, 122, 122, 122, 122, 122, 122, 122, 122, 122, 122, 122, 122, 122] t7, .bytes #[42] t8, .bytes #[201] t9, .bytes #[233] t10, .bytes #[96] t11] wordsL :=
  .cons _ _ (by decide) (.cons _ _ (by decide) (.cons _ _ (by decide) (.cons _ _ (by decide) (.cons _ _ (by decide) (.cons _ _ (by decide) (.cons _ _ (by decide) (.cons _ _ (by decide) (.cons _ _ (by decide) (.cons _ _ (by decide) (.cons _ _ (by decide) (.cons _ _ (by decide) (.nil))))))))))))
theorem elt_len {l : Lbl} {t u : Tok} : ∀ (l2 : Lbl) (t2 : Tok), Value.bytes l.toArray t = .bytes l2.toArray t2 → ∃ u', Value.int ((l.length : Int) + 1) u = .int ((l2.length : Int) + 1) u' := by
  intro l2 t2 e
  have e1 : l = l2 := by
    injection e with e1
    simpa using e1
  subst e1
  exact ⟨u, rfl⟩
theorem all_ints {vs ys : List Value} {ls : List Lbl} (hb : BytesAre vs ls) (hl : ys.length = vs.length) (h : ∀ (i : Nat) (v y : Value), vs[i]? = some v → ys[i]? = some y → ∀ (l : Lbl) (t : Tok), v = .bytes l.toArray t → ∃ u, y = .int ((l.length : Int) + 1) u) : IntsAre ys (ls.map (fun l => (l.length : Int) + 1)) := by
  induction hb generalizing ys with
  | nil => cases ys with | nil => exact .nil | cons _ _ => simp at hl
  | cons l t hl' r ih =>
    cases ys with
    | nil => simp at hl
    | cons y ys =>
      obtain ⟨u, rfl⟩ := h 0 _ _ rfl rfl l t rfl
      exact .cons _ u (ih (by simpa using hl) fun i v y' hv hy => h (i + 1) v y' (by simpa using hv) (by simpa using hy))
theorem und_a {ls ms : List Lbl} (h : (absO ls != absO ms) = true) : false = undO ls ms := by unfold undO; rw [h]; rfl
theorem und_b {ls ms : List Lbl} (h : ls.length < ms.length) : false = undO ls ms := by unfold undO; rw [decide_eq_true h, Bool.or_true]; rfl
theorem und_c {ls ms : List Lbl} (h : (absO ls != absO ms) = false) (h' : ¬ ls.length < ms.length) : decide ((ls.drop ((ls.length : Int) - (ms.length : Int)).toNat).map lowB = ms.map lowB) = undO ls ms := by
  unfold undO
  rw [h, decide_eq_false h', Bool.or_self, if_neg (by simp), show ((ls.length : Int) - (ms.length : Int)).toNat = ls.length - ms.length by omega]
end Mine

namespace Mine
/-- the end of a turn of a loop that makes things anew: led tells the part of the ledger that changes from turn to turn -/
def KcEnd {σ : Type} (h₀ : Heap) (L : Addr) (s : Shared) (I : Addr) (big : Led) (led : σ → Led) (ps : σ → List (Str × Value)) (stored : List Str) (x : Str) (m₀ : Str → Option Value) (P : σ → Prop) (s₂ : Shared) : Prop :=
  ∃ (c : σ) (h' : Heap) (tk : Nat) (m' : Str → Option Value) (news' : Led), s₂ = { s with heap := h', toks := tk } ∧ Fr h₀ L h' m' ∧ News h₀ L h' news' ∧ (∀ p ∈ led c ++ big, p ∈ news') ∧ (∀ p ∈ led c, p.1 ≠ I) ∧
    (∀ p ∈ ps c, m' p.1 = some p.2) ∧ (∀ z, z ≠ x → (∀ p ∈ ps c, z ≠ p.1) → stored.contains z = false → m' z = m₀ z) ∧ P c
def KcPost {σ : Type} (h₀ : Heap) (L : Addr) (s : Shared) (I : Addr) (big : Led) (led : σ → Led) (ps : σ → List (Str × Value)) (stored : List Str) (x : Str) (m₀ : Str → Option Value) (P : σ → Prop) (Q : Flow → Shared → Prop) (f : Flow) (s₂ : Shared) : Prop :=
  match f with
  | .ret v => Q (.ret v) s₂
  | .brk => Q .next s₂
  | _ => KcEnd h₀ L s I big led ps stored x m₀ P s₂
theorem kc_end {σ : Type} {h₀ : Heap} {L : Addr} {s : Shared} {I : Addr} {big : Led} {led : σ → Led} {ps : σ → List (Str × Value)} {stored : List Str} {x : Str} {m₀ : Str → Option Value} {P : σ → Prop} (c : σ) {h' : Heap} {tk : Nat} {m' : Str → Option Value} {news' : Led}
    (F : Fr h₀ L h' m') (N : News h₀ L h' news') (hn : ∀ p ∈ led c ++ big, p ∈ news') (ho : ∀ p ∈ led c, p.1 ≠ I) (hk : ∀ p ∈ ps c, m' p.1 = some p.2) (hr : ∀ z, z ≠ x → (∀ p ∈ ps c, z ≠ p.1) → stored.contains z = false → m' z = m₀ z) (hp : P c) :
    KcEnd h₀ L s I big led ps stored x m₀ P { s with heap := h', toks := tk } := ⟨c, h', tk, m', news', rfl, F, N, hn, ho, hk, hr, hp⟩

section
variable {prog : Program} {w : World} {A : Around} {E : Value → Shared → Prop} {s : Shared} {env : Env} {h₀ : Heap} {x : Str} {body : List Stmt} {Q : Flow → Shared → Prop}
theorem kc_walks {σ : Type} {I : Addr} {fp : List Addr} {n : Nat} {V : Nat → Value → Prop} {St : Nat → Heap → Prop} {m₀ : Str → Option Value} {news : Led} {s₂ : Shared} (led : σ → Led) (ps : σ → List (Str × Value)) (stored : List Str) (P : Nat → σ → Prop) (c₀ : σ)
    (W : Walks prog w A I fp [I] n V St) (hI : I ∈ fp) (hex : ∀ i h, St i h → ∃ o, h.get? I = some o) (hL : env.locals ∉ fp) (hwr : h₀.get? I = none) (hnw : ∀ p ∈ led c₀ ++ news, p.1 ≠ I) (st : St 0 s₂.heap) (F : Fr h₀ env.locals s₂.heap m₀) (N : News h₀ env.locals s₂.heap (led c₀ ++ news))
    (hk : ∀ p ∈ ps c₀, m₀ p.1 = some p.2) (hp : P 0 c₀)
    (turn : ∀ i (c : σ) v (u : Str → Option Value) h tk oI own, i < n → V i v → P i c → Fr h₀ env.locals h (fun y => if y = x then some v else kstB (fun z => if stored.contains z then u z else m₀ z) (ps c) y) → News h₀ env.locals h (led c ++ ((I, oI) :: (news ++ own))) →
      (∀ p ∈ led c, p.1 ≠ I) → wpAny (model prog w) A (execs body env) (KcPost h₀ env.locals { s₂ with heap := h, toks := tk } I ((I, oI) :: (news ++ own)) led ps stored x m₀ (P (i + 1)) Q) E { s₂ with heap := h, toks := tk })
    (done : ∀ (c : σ) (u : Str → Option Value) h tk, P n c → Fr h₀ env.locals h (fun y => if y = x then u y else kstB (fun z => if stored.contains z then u z else m₀ z) (ps c) y) → News h₀ env.locals h (led c ++ news) → Q .next { s₂ with heap := h, toks := tk }) :
    LoopAtV prog w A h₀ env x body Q E (.ref I) s₂ := by
  refine ⟨I, fp, [I], n, V, St, m₀, led c₀ ++ news, fun i m nx => ∃ c, nx = led c ++ news ∧ (∀ p ∈ ps c, m p.1 = some p.2) ∧ (∀ z, z ≠ x → (∀ p ∈ ps c, z ≠ p.1) → stored.contains z = false → m z = m₀ z) ∧ P i c, rfl, W, hL, ?_, ?_, st, F, N, ⟨c₀, rfl, hk, fun _ _ _ _ => rfl, hp⟩, ?_, ?_⟩
  · intro b hb; rw [List.mem_singleton.mp hb]; exact hwr
  · intro p hp' hq; exact hnw p hp' (List.mem_singleton.mp hq)
  · rintro i v m₁ news₁ s₁ own ⟨h, tk, rfl⟩ hin hV ⟨c, rfl, h1, h2, hp'⟩ hoff hown hget hfp hst F₁ N₁
    obtain ⟨oI, hoI⟩ := hex _ _ hst
    have hown' : (I, oI) ∈ own := hfp I hI hwr oI hoI
    have N₂ : News h₀ env.locals h (led c ++ ((I, oI) :: (news ++ own))) := fun p hp => N₁ p (by
      rcases List.mem_append.mp hp with q | q
      · exact List.mem_append.mpr (.inr (List.mem_append.mpr (.inl q)))
      · rcases List.mem_cons.mp q with rfl | q
        · exact List.mem_append.mpr (.inl hown')
        · rcases List.mem_append.mp q with q | q
          · exact List.mem_append.mpr (.inr (List.mem_append.mpr (.inr q)))
          · exact List.mem_append.mpr (.inl q))
    have hoffc : ∀ p ∈ led c, p.1 ≠ I := fun p hp q => hoff p (List.mem_append.mpr (.inl hp)) (by rw [q]; exact List.mem_singleton.mpr rfl)
    have hoffn : ∀ p ∈ news, p.1 ≠ I := fun p hp q => hoff p (List.mem_append.mpr (.inr hp)) (by rw [q]; exact List.mem_singleton.mpr rfl)
    refine wpAny_mono (turn i c v m₁ h tk oI own hin hV hp' (kst_fr h1 h2 F₁) N₂ hoffc) (fun f s₃ q => ?_) fun _ _ e => e
    have fin : KcEnd h₀ env.locals { s₂ with heap := h, toks := tk } I ((I, oI) :: (news ++ own)) led ps stored x m₀ (P (i + 1)) s₃ →
        LoopStepU h₀ env.locals [I] own (fun m nx => ∃ c, nx = led c ++ news ∧ (∀ p ∈ ps c, m p.1 = some p.2) ∧ (∀ z, z ≠ x → (∀ p ∈ ps c, z ≠ p.1) → stored.contains z = false → m z = m₀ z) ∧ P (i + 1) c) { s₂ with heap := h, toks := tk } .next s₃ := by
      rintro ⟨c', h', tk', m', news', rfl, F', N', hn', ho', hk', hr', hp''⟩
      refine ⟨rfl, h', tk', m', led c' ++ news, rfl, F', fun p hp => N' p (hn' p ?_), ?_, c', rfl, hk', hr', hp''⟩
      · rcases List.mem_append.mp hp with q | q
        · exact List.mem_append.mpr (.inr (List.mem_cons.mpr (.inr (List.mem_append.mpr (.inr q)))))
        · rcases List.mem_append.mp q with q | q
          · exact List.mem_append.mpr (.inl q)
          · exact List.mem_append.mpr (.inr (List.mem_cons.mpr (.inr (List.mem_append.mpr (.inl q)))))
      · intro p hp q
        rcases List.mem_append.mp hp with z | z
        · exact ho' p z (List.mem_singleton.mp q)
        · exact hoffn p z (List.mem_singleton.mp q)
    cases f with
    | ret v => exact .ret q
    | brk => exact .brk q
    | next => exact .next (fin q)
    | cont => exact .cont (fin q)
  · rintro h tk m' news' F' N' _ ⟨c, rfl, h1, h2, hp'⟩
    exact done c m' h tk hp' (kst_frOut h1 h2 F') N'
theorem small_to {n : Int} (h0 : 0 ≤ n) (h : n ≤ 100000) : Builtin.Range.small 0 n 1 = true ∧ Builtin.Range.rangeSize 0 n 1 = n := by
  have e : Builtin.Range.rangeSize 0 n 1 = n := by
    unfold Builtin.Range.rangeSize
    simp
    omega
  refine ⟨?_, e⟩
  unfold Builtin.Range.small
  rw [e]
  unfold Builtin.Range.rangeFitsLong
  simp
  omega
/-- a for over range(n) -/
theorem kc_rng {σ : Type} {r : Addr} {n : Int} {t u v : Tok} {m₀ : Str → Option Value} {news : Led} (led : σ → Led) (ps : σ → List (Str × Value)) (stored : List Str) (P : Nat → σ → Prop) (c₀ : σ)
    (hh : A.handled = none) (hr : IsRange s.heap r 0 n 1 t u v) (h0 : 0 ≤ n) (hn : n ≤ 100000) (F : Fr h₀ env.locals s.heap m₀) (N : News h₀ env.locals s.heap (led c₀ ++ news)) (hk : ∀ p ∈ ps c₀, m₀ p.1 = some p.2) (hp : P 0 c₀)
    (turn : ∀ (i : Nat) (c : σ) (ti : Tok) (u : Str → Option Value) h tk I oI own, (i : Int) < n → P i c → Fr h₀ env.locals h (fun y => if y = x then some (.int i ti) else kstB (fun z => if stored.contains z then u z else m₀ z) (ps c) y) → News h₀ env.locals h (led c ++ ((I, oI) :: (news ++ own))) →
      (∀ p ∈ led c, p.1 ≠ I) → wpAny (model prog w) A (execs body env) (KcPost h₀ env.locals { s with heap := h, toks := tk } I ((I, oI) :: (news ++ own)) led ps stored x m₀ (P (i + 1)) Q) E { s with heap := h, toks := tk })
    (done : ∀ (c : σ) (u : Str → Option Value) h tk, P n.toNat c → Fr h₀ env.locals h (fun y => if y = x then u y else kstB (fun z => if stored.contains z then u z else m₀ z) (ps c) y) → News h₀ env.locals h (led c ++ news) → Q .next { s with heap := h, toks := tk }) :
    wpAny (model prog w) A (pyIter (.ref r)) (fun it s₂ => LoopAtV prog w A h₀ env x body Q E it s₂) E s := by
  obtain ⟨hs, he⟩ := small_to h0 hn
  refine wpAny_pyIter_range hr hs ?_
  rw [he]
  have W := Walks.range (prog := prog) (w := w) hh s.heap.objs.size 0 1 n.toNat
  have hz : ((n.toNat : Nat) : Int) = n := by omega
  refine kc_walks (s₂ := { s with heap := s.heap.push { cls := .type "range_iterator", data := .fields #[rawInt 0, rawInt n, rawInt 1] } }) led ps stored P c₀ W (by simp) (fun i h st => ⟨_, st⟩) ?_ (next_is_new F) ?_ ?_ (F.push _) (fun p hp => ⟨Heap.get?_push_of_some _ (N p hp).1, (N p hp).2⟩) hk hp ?_ done
  · intro hm
    exact absurd F.ns.lt ((List.mem_singleton.mp hm) ▸ Nat.lt_irrefl _)
  · intro p hp
    exact Nat.ne_of_lt (Heap.lt_size (N p hp).1)
  · show IsRangeIter _ _ _ _ _
    rw [hz]
    have e1 : (0 : Int) + ((0 : Nat) : Int) * 1 = 0 := by omega
    have e2 : n - ((0 : Nat) : Int) = n := by omega
    rw [e1, e2]
    exact Heap.get?_push_size _ rfl
  · rintro i c v u h tk oI own hi ⟨ti, rfl⟩ hp' F' N' ho
    have e : (0 : Int) + (i : Int) * 1 = (i : Int) := by omega
    rw [e] at F'
    exact turn i c ti u h tk _ oI own (by omega) hp' F' N' ho
end
def stepN (p : List Lbl × Int) : List Lbl × Int := (wordsL.getD (p.2.fmod 12).toNat [] :: p.1, p.2.fdiv 12)
def nameI : Nat → List Lbl × Int → List Lbl × Int
  | 0, p => p
  | i + 1, p => stepN (nameI i p)
def nameS (k : Int) : List Lbl × Int := (if 0 < (k.fdiv 5).fmod 3 then [[]] else [], (k.fdiv 5).fdiv 3)
/-- the row that a number draws -/
def lawName (k : Int) : List Lbl := (nameI (k.fmod 5).toNat (nameS k)).1
def NmP (k : Int) (i : Nat) (us : List Value) (ls : List Lbl) (num : Int) : Prop := BytesAre us ls ∧ (ls, num) = nameI i (nameS k) ∧ ls.length ≤ i + 1
theorem nm_pos {k : Int} {us : List Value} (h : 0 < (k.fdiv 5).fmod 3) (hb : BytesAre us [[]]) : NmP k 0 us [[]] ((k.fdiv 5).fdiv 3) := ⟨hb, by simp [nameI, nameS, h], by simp⟩
theorem nm_neg {k : Int} (h : ¬ 0 < (k.fdiv 5).fmod 3) : NmP k 0 [] [] ((k.fdiv 5).fdiv 3) := ⟨.nil, by simp [nameI, nameS, h], by simp⟩
theorem nm_next {k : Int} {i : Nat} {us' : List Value} {ls : List Lbl} {num : Int} {x : Lbl} (hq : (ls, num) = nameI i (nameS k)) (hl : ls.length ≤ i + 1) (hx : x = wordsL.getD (num.fmod 12).toNat []) (hb : BytesAre us' ([x] ++ ls)) :
    NmP k (i + 1) us' ([x] ++ ls) (num.fdiv 12) := by
  refine ⟨hb, ?_, by simp; omega⟩
  show _ = stepN (nameI i (nameS k))
  rw [← hq, hx]
  rfl
theorem nm_end {k : Int} {us : List Value} {ls : List Lbl} {num : Int} (hb : BytesAre us ls) (hq : (ls, num) = nameI (k.fmod 5).toNat (nameS k)) : BytesAre us (lawName k) := by
  unfold lawName; rw [← hq]; exact hb
theorem fmod_bd (a : Int) {b : Int} (h : 0 < b) : 0 ≤ a.fmod b ∧ a.fmod b < b := ⟨by rw [Int.fmod_eq_emod_of_nonneg _ (by omega)]; exact Int.emod_nonneg _ (by omega), Int.fmod_lt_of_pos a h⟩
/-- a goal put by, for the prover to look at -/
def Park (P : Prop) : Prop := P
theorem raisedS_sub {base G : Heap} {l : List Env} {e : Addr} {cls : Value} {t : Addr} {vs : List Value} {news news' : Led} {h : Heap} (R : RaisedS base G l e cls t vs news' h) (hs : ∀ p ∈ news, p ∈ news') : RaisedS base G l e cls t vs news h := by
  obtain ⟨⟨B, h1, h2, h3, h4, h5⟩, h6⟩ := R
  exact ⟨⟨B, h1, h2, fun q hq => h3 q (hs q hq), h4, h5⟩, h6⟩
/-- the end of a way that raises -/
theorem endS {E : Value → Shared → Prop} {s : Shared} {base h₀ g h' : Heap} {out : List Env} {L e t : Addr} {m : Str → Option Value} {cls : Value} {vs : List Value} {news newsB : Led} {tk' : Nat}
    (h : ∀ (e t : Addr) (g h' : Heap) (tk' : Nat), Fr h₀ L g m → g.UpToSlots h' → RaisedS base g out e cls t vs news h' → E (.ref e) { s with heap := h', toks := tk' })
    (F : Fr h₀ L g m) (U : g.UpToSlots h') (R : RaisedS base g out e cls t vs newsB h') (hs : ∀ p ∈ news, p ∈ newsB) : E (.ref e) { s with heap := h', toks := tk' } :=
  h e t g h' tk' F U (raisedS_sub R hs)
theorem noabs_f {ls ms : List Lbl} (h : absO ls = false) : absO ls = true → ms.length = 0 := by intro q; rw [h] at q; cases q
theorem noabs_l {ls ms : List Lbl} (h : ¬ 0 < (ms.length : Int)) : absO ls = true → ms.length = 0 := by intro _; omega
end Mine

namespace Mine
/-- what is known of a frame -/
def look : List (Str × Value) → Str → Option Value
  | [], _ => none
  | (y, v) :: r, x => if x = y then some v else look r x
def Vars (m : Str → Option Value) : List (Str × Value) → Prop
  | [] => True
  | p :: r => m p.1 = some p.2 ∧ Vars m r
theorem Vars.get {m : Str → Option Value} {x : Str} {v : Value} : ∀ {l : List (Str × Value)}, Vars m l → look l x = some v → m x = some v
  | [], _, e => by cases e
  | (y, u) :: r, h, e => by
    unfold look at e
    by_cases c : x = y
    · rw [if_pos c] at e; subst c; cases e; exact h.1
    · rw [if_neg c] at e; exact Vars.get h.2 e
/-- a function's body and scope, out of the program -/
def fBody : Stmt → List Stmt
  | .FunctionDef _ _ b _ _ _ _ _ _ _ => b
  | _ => []
def fScope : Stmt → Scope → Scope
  | .FunctionDef _ _ _ _ _ _ sc _ _ _, _ => sc
  | _, d => d
def lastDef (p : Program) : Stmt := p.main.body.getLastD (.Pass ⟨0, 0, 0, 0⟩)
theorem PkE {M : Model} {A : Around} {t : Sem Flow} {Q : Flow → Shared → Prop} {E : Value → Shared → Prop} {s : Shared} (h : Park (wpAny M A t Q E s)) : wpAny M A t Q E s := h
theorem PkD {p : Prop} (h : p) : Park p := h
end Mine

namespace Mine
/-- a short row that a Name may be made of -/
structure Ok5 (ls : List Lbl) : Prop where
  v : vcode ls = 0
  n : ls.length ≤ 5
theorem wireN_le (B : Nat) : ∀ (ls : List Lbl), (∀ l ∈ ls, l.length ≤ B) → wireN ls ≤ (ls.length : Int) * ((B : Int) + 1)
  | [], _ => by simp [wireN]
  | a :: r, h => by
    have h1 := h a (by simp)
    have h2 := wireN_le B r fun l hl => h l (by simp [hl])
    rw [wireN_cons, List.length_cons]
    have : ((r.length + 1 : Nat) : Int) * ((B : Int) + 1) = (r.length : Int) * ((B : Int) + 1) + ((B : Int) + 1) := by
      rw [Int.natCast_add, Int.add_mul]; simp
    rw [this]; omega
def SmallR (ls : List Lbl) : Prop := ∀ l ∈ ls, l.length ≤ 40
theorem words_small : ∀ l ∈ wordsL, l.length ≤ 40 ∧ l ≠ [] := by decide
theorem words_get (j : Nat) (h : j < 12) : wordsL.getD j [] ∈ wordsL := by
  have hl : wordsL.length = 12 := rfl
  rw [List.getD_eq_getElem?_getD, List.getElem?_eq_getElem (by omega)]
  exact List.getElem_mem _
theorem nameI_shape (s : List Lbl × Int) : ∀ i, ∃ pre : List Lbl, (nameI i s).1 = pre ++ s.1 ∧ pre.length = i ∧ ∀ l ∈ pre, l.length ≤ 40 ∧ l ≠ []
  | 0 => ⟨[], rfl, rfl, fun _ h => nomatch h⟩
  | i + 1 => by
    obtain ⟨pre, h1, h2, h3⟩ := nameI_shape s i
    have hb := fmod_bd (nameI i s).2 (b := 12) (by decide)
    refine ⟨wordsL.getD ((nameI i s).2.fmod 12).toNat [] :: pre, ?_, by simp [h2], ?_⟩
    · show (stepN (nameI i s)).1 = _
      unfold stepN
      simp [h1]
    · intro l hl
      rcases List.mem_cons.mp hl with q | q
      · rw [q]; exact words_small _ (words_get _ (by omega))
      · exact h3 l q
theorem okay_pre {pre tl : List Lbl} (h3 : ∀ l ∈ pre, l.length ≤ 40 ∧ l ≠ []) (h4 : tl = [] ∨ tl = [[]]) (hn : pre.length ≤ 4) : Okay (pre ++ tl) := by
  have hs : ∀ l ∈ pre ++ tl, l.length ≤ 40 := by
    intro l hl
    rcases List.mem_append.mp hl with q | q
    · exact (h3 l q).1
    · rcases h4 with rfl | rfl
      · cases q
      · rw [List.mem_singleton.mp q]; simp
  have hl : (pre ++ tl).length ≤ 5 := by rcases h4 with rfl | rfl <;> simp <;> omega
  refine ⟨fun l hl => Nat.le_trans (hs l hl) (by decide), ?_, ?_⟩
  · have := wireN_le 40 _ hs
    have e : (((40 : Nat) : Int) + 1) = 41 := rfl
    rw [e] at this
    omega
  · intro i hi
    have hi' : i < pre.length := by rcases h4 with rfl | rfl <;> simp at hi <;> omega
    rw [List.getD_eq_getElem?_getD, List.getElem?_append_left hi', List.getElem?_eq_getElem hi']
    exact (h3 _ (List.getElem_mem _)).2
theorem ok_name (k : Int) : Ok5 (lawName k) := by
  have hb := fmod_bd k (b := 5) (by decide)
  unfold lawName
  obtain ⟨pre, h1, h2, h3⟩ := nameI_shape (nameS k) (k.fmod 5).toNat
  rw [h1]
  have h4 : (nameS k).1 = [] ∨ (nameS k).1 = [[]] := by unfold nameS; dsimp only; split <;> simp
  refine ⟨vcode_zero.mpr (okay_pre h3 h4 (by omega)), ?_⟩
  rcases h4 with e | e <;> rw [e] <;> simp <;> omega
theorem Ok5.drop {ls : List Lbl} (h : Ok5 ls) (k : Nat) : Ok5 (ls.drop k) := ⟨v_drop h.v k, by have := h.n; simp; omega⟩
theorem Ok5.take {ls : List Lbl} (h : Ok5 ls) (k : Nat) : Ok5 (ls.take k) := ⟨v_take h.v k, by have := h.n; simp; omega⟩
theorem wireN_upp : ∀ ls : List Lbl, wireN (ls.map uppB) = wireN ls
  | [] => rfl
  | a :: r => by rw [List.map_cons, wireN_cons, wireN_cons, wireN_upp r, uppB_length]
theorem Ok5.upp {ls : List Lbl} (h : Ok5 ls) : Ok5 (ls.map uppB) := by
  have o := vcode_zero.mp h.v
  refine ⟨vcode_zero.mpr ⟨?_, ?_, ?_⟩, by simpa using h.n⟩
  · intro l hl
    obtain ⟨x, hx, rfl⟩ := List.mem_map.mp hl
    rw [uppB_length]; exact o.len x hx
  · rw [wireN_upp]; exact o.wid
  · intro i hi e
    simp only [List.length_map] at hi
    refine o.mid i hi ?_
    rw [List.getD_eq_getElem?_getD, List.getElem?_map, List.getElem?_eq_getElem (by omega)] at e
    rw [List.getD_eq_getElem?_getD, List.getElem?_eq_getElem (by omega)]
    simp only [Option.map_some, Option.getD_some] at e ⊢
    exact List.eq_nil_of_length_eq_zero (by rw [← uppB_length, e]; rfl)
/-- joined rows -/
theorem j_not1 {ls ms : List Lbl} (h : vcode ls = 0) (h' : vcode ms = 0) : vcode (ls ++ ms) ≠ 1 := by
  have o := vcode_zero.mp h
  have o' := vcode_zero.mp h'
  unfold vcode
  rw [if_neg]
  · split
    · decide
    · split <;> decide
  · intro q
    obtain ⟨x, hx, e⟩ := List.any_eq_true.mp q
    have e := of_decide_eq_true e
    rcases List.mem_append.mp hx with z | z
    · have := o.len x z; omega
    · have := o'.len x z; omega
theorem absO_last {ls : List Lbl} {i : Nat} (hi : i + 1 = ls.length) (e : ls.getD i [] = []) : absO ls = true := by
  unfold absO
  have : ls.length - 1 = i := by omega
  rw [this, e]
  simp; omega
theorem j_okay {ls ms : List Lbl} (h : Okay ls) (h' : Okay ms) (ha : absO ls = true → ms.length = 0) (hw : ¬ 255 < wireN (ls ++ ms)) : Okay (ls ++ ms) := by
  refine ⟨?_, by omega, ?_⟩
  · intro x hx
    rcases List.mem_append.mp hx with z | z
    · exact h.len x z
    · exact h'.len x z
  · intro i hi e
    rw [List.length_append] at hi
    by_cases c : i < ls.length
    · have e' : ls.getD i [] = [] := by
        rw [List.getD_eq_getElem?_getD, List.getElem?_append_left c] at e
        rw [List.getD_eq_getElem?_getD]; exact e
      by_cases d : i + 1 < ls.length
      · exact h.mid i d e'
      · have := ha (absO_last (by omega) e')
        omega
    · have e' : ms.getD (i - ls.length) [] = [] := by
        rw [List.getD_eq_getElem?_getD, List.getElem?_append_right (by omega)] at e
        rw [List.getD_eq_getElem?_getD]; exact e
      exact h'.mid _ (by omega) e'
theorem j_not3 {ls ms : List Lbl} (h : vcode ls = 0) (h' : vcode ms = 0) : (absO ls = true → ms.length = 0) → vcode (ls ++ ms) ≠ 3 := by
  intro ha q
  by_cases hw : 255 < wireN (ls ++ ms)
  · have n1 := j_not1 h h'
    unfold vcode at q n1
    split at q
    · cases q
    · cases q
  · rw [vcode_zero.mpr (j_okay (vcode_zero.mp h) (vcode_zero.mp h') ha hw)] at q
    cases q
theorem j_two {ls ms : List Lbl} (h : vcode ls = 0) (h' : vcode ms = 0) (ha : absO ls = true → ms.length = 0) : vcode (ls ++ ms) = 2 ↔ 255 < wireN (ls ++ ms) := by
  constructor
  · intro q
    by_cases hw : 255 < wireN (ls ++ ms)
    · exact hw
    · rw [vcode_zero.mpr (j_okay (vcode_zero.mp h) (vcode_zero.mp h') ha hw)] at q
      cases q
  · intro hw
    have n1 := j_not1 h h'
    unfold vcode at n1 ⊢
    split at n1
    · exact absurd rfl n1
    · rename_i c; rw [if_neg c, if_pos hw]
theorem j_zero {ls ms : List Lbl} (h : vcode (ls ++ ms) = 0) : ¬ 255 < wireN (ls ++ ms) := by
  have := (vcode_zero.mp h).wid; omega
end Mine

namespace Mine
abbrev NoE : Value → Shared → Prop := fun _ _ => False
/-- the end of a turn of a loop over a tuple of pairs: the ledger keeps, the frame but for the stored names -/
def KtEnd (h₀ : Heap) (L : Addr) (s : Shared) (news : Led) (stored : List Str) (m₀ : Str → Option Value) (s₂ : Shared) : Prop :=
  ∃ (h' : Heap) (tk : Nat) (m' : Str → Option Value) (news' : Led), s₂ = { s with heap := h', toks := tk } ∧ Fr h₀ L h' m' ∧ News h₀ L h' news' ∧ (∀ p ∈ news, p ∈ news') ∧ (∀ z, stored.contains z = false → m' z = m₀ z)
def KtPost (h₀ : Heap) (L : Addr) (s : Shared) (news : Led) (stored : List Str) (m₀ : Str → Option Value) (Q : Flow → Shared → Prop) (f : Flow) (s₂ : Shared) : Prop :=
  match f with
  | .ret v => Q (.ret v) s₂
  | .brk => Q .next s₂
  | _ => KtEnd h₀ L s news stored m₀ s₂
theorem kt_end {h₀ : Heap} {L : Addr} {s : Shared} {news : Led} {stored : List Str} {m₀ : Str → Option Value} {h' : Heap} {tk : Nat} {m' : Str → Option Value} {news' : Led}
    (F : Fr h₀ L h' m') (N : News h₀ L h' news') (hn : ∀ p ∈ news, p ∈ news') (hr : ∀ z, stored.contains z = false → m' z = m₀ z) :
    KtEnd h₀ L s news stored m₀ { s with heap := h', toks := tk } := ⟨h', tk, m', news', rfl, F, N, hn, hr⟩
section
variable {prog : Program} {w : World} {A : Around} {E : Value → Shared → Prop} {s : Shared} {env : Env} {h₀ : Heap} {target : PySem.Expr} {body : List Stmt} {Q : Flow → Shared → Prop}
theorem kt_tup {l : Addr} {vs : List Value} {nn : Nat} {m₀ : Str → Option Value} {news : Led} (stored : List Str)
    (hh : A.handled = none) (hl : (l, tupO vs nn) ∈ news) (F : Fr h₀ env.locals s.heap m₀) (N : News h₀ env.locals s.heap news)
    (turn : ∀ (i : Nat) (v : Value) (m₁ : Str → Option Value) (h : Heap) (tk : Nat) (own : Led), vs[i]? = some v → (∀ z, stored.contains z = false → m₁ z = m₀ z) → Fr h₀ env.locals h m₁ → News h₀ env.locals h (news ++ own) →
      wpAny (model prog w) A (assign target env v) (fun _ s₃ => wpAny (model prog w) A (execs body env) (KtPost h₀ env.locals { s with heap := h, toks := tk } (news ++ own) stored m₀ Q) E s₃) E { s with heap := h, toks := tk })
    (done : ∀ (m₁ : Str → Option Value) (h : Heap) (tk : Nat), (∀ z, stored.contains z = false → m₁ z = m₀ z) → Fr h₀ env.locals h m₁ → News h₀ env.locals h news → Q .next { s with heap := h, toks := tk }) :
    wpAny (model prog w) A (pyIter (.ref l)) (fun it s₂ => TurnsAt prog w A h₀ env target body Q E it s₂) E s := by
  have hax := N _ hl
  have ht : s.heap.IsTuple l vs.toArray := ⟨_, hax.1, rfl, nn, rfl⟩
  have hne : l ≠ s.heap.objs.size := Nat.ne_of_lt (Heap.lt_size hax.1)
  refine wpAny_pyIter_tuple ht ?_
  refine ⟨s.heap.objs.size, _, _, _, _, _, _, m₀, news, fun i m nx => nx = news ∧ ∀ z, stored.contains z = false → m z = m₀ z, rfl,
    KTurns.ofWalks (Walks.tuple hh s.heap.objs.size l hne vs.toArray) (fun i v s Q E st q => letGo_tupleiter st.1 q), ?_, ?_, ?_, ?_, F.push _, (fun p hp => ⟨Heap.get?_push_of_some _ (N p hp).1, (N p hp).2⟩), ⟨rfl, fun _ _ => rfl⟩, ?_, ?_⟩
  · intro hm
    rcases List.mem_cons.mp hm with e | hm
    · exact absurd F.ns.lt (e ▸ Nat.lt_irrefl _)
    · exact hax.2.1 (List.mem_singleton.mp hm).symm
  · intro b hb
    rw [List.mem_singleton.mp hb]
    exact next_is_new F
  · intro p hp hI
    exact absurd (Heap.lt_size (N p hp).1) ((List.mem_singleton.mp hI) ▸ Nat.lt_irrefl _)
  · exact ⟨⟨_, Heap.get?_push_size _ rfl, rfl, rfl⟩, ht.at fun o e => Heap.get?_push_of_some _ e⟩
  · rintro i v m₁ news₁ h₁ tk₁ own hin hV ⟨rfl, h2⟩ hoff hown hget hfp hst F₁ N₁
    have N₂ : News h₀ env.locals h₁ (news₁ ++ own) := fun p hp => N₁ p ((List.mem_append.mp hp).elim (fun h => List.mem_append.mpr (.inr h)) fun h => List.mem_append.mpr (.inl h))
    refine wpAny_mono (turn i v m₁ h₁ tk₁ own (by simpa using hV) h2 F₁ N₂) (fun _ s₃ q => wpAny_mono q (fun f s₄ q => ?_) fun _ _ e => e) fun _ _ e => e
    have fin : KtEnd h₀ env.locals { s with heap := h₁, toks := tk₁ } (news₁ ++ own) stored m₀ s₄ →
        LoopStepU h₀ env.locals [s.heap.objs.size] own (fun m nx => nx = news₁ ∧ ∀ z, stored.contains z = false → m z = m₀ z) { s with heap := h₁, toks := tk₁ } .next s₄ := by
      rintro ⟨h', tk', m', news', rfl, F', N', hn', hr'⟩
      refine ⟨rfl, h', tk', m', news₁, rfl, F', fun p hp => N' p (hn' p ?_), hoff, rfl, hr'⟩
      rcases List.mem_append.mp hp with q | q
      · exact List.mem_append.mpr (.inr q)
      · exact List.mem_append.mpr (.inl q)
    cases f with
    | ret v => exact .ret q
    | brk => exact .brk q
    | next => exact .next (fin q)
    | cont => exact .cont (fin q)
  · rintro h tk m' news' F' N' _ ⟨rfl, h2⟩
    exact done m' h tk h2 F' N'
end
/-- a pair of rows in the ledger -/
def PairOk (news : Led) (v : Value) : Prop :=
  ∃ (p : Addr) (n : Nat) (one : Addr) (c : Nat) (us : List Value) (ls : List Lbl) (two : Addr) (c' : Nat) (us' : List Value) (ms : List Lbl), v = .ref p ∧ (p, tupO [.ref one, .ref two] n) ∈ news ∧
    (one, listOf us.toArray c) ∈ news ∧ BytesAre us ls ∧ vcode ls = 0 ∧ ls.length ≤ 5 ∧ (two, listOf us'.toArray c') ∈ news ∧ BytesAre us' ms ∧ vcode ms = 0 ∧ ms.length ≤ 5
def AllPair (news : Led) : List Value → Prop
  | [] => True
  | v :: r => PairOk news v ∧ AllPair news r
theorem AllPair.get {news : Led} {v : Value} : ∀ {vs : List Value} {i : Nat}, AllPair news vs → vs[i]? = some v → PairOk news v
  | [], _, _, e => by simp at e
  | a :: r, 0, h, e => by simp at e; exact e ▸ h.1
  | a :: r, i + 1, h, e => AllPair.get h.2 (by simpa using e)
theorem Vars.keep {m m₁ : Str → Option Value} {st : List Str} (h : ∀ z, st.contains z = false → m₁ z = m z) : ∀ {l : List (Str × Value)}, Vars m l → (l.all fun p => !st.contains p.1) = true → Vars m₁ l
  | [], _, _ => trivial
  | p :: r, hv, ha => by
    simp only [List.all_cons, Bool.and_eq_true] at ha
    exact ⟨(h p.1 (by simpa using ha.1)).trans hv.1, Vars.keep h hv.2 ha.2⟩
theorem kt_same {m₀ m₁ : Str → Option Value} {x y : Str} {a b : Option Value} (h : ∀ z, [x, y].contains z = false → m₁ z = m₀ z) : ∀ z, [x, y].contains z = false → (fun k => if k = y then a else if k = x then b else m₁ k) z = m₀ z := by
  intro z hz
  have q := h z hz
  simp only [List.contains_cons, List.contains_nil, Bool.or_false, Bool.or_eq_false_iff, beq_eq_false_iff_ne, ne_eq] at hz
  simp [hz.1, hz.2, q]
theorem jc_AL {ls ms : List Lbl} (h : absO ls = true) (h' : 0 < ms.length) (q : absO ls = false ∨ ms = []) : False := by
  rcases q with q | q
  · rw [h] at q; cases q
  · subst q; simp at h'
theorem jc_LA {ls ms : List Lbl} (h : absO ls = true → ms.length = 0) (a : absO ls = true) (n : ms ≠ []) : False := n (List.eq_nil_of_length_eq_zero (h a))
theorem jc_LR {ls ms : List Lbl} (q : vcode (ls ++ ms) = 2) (h : absO ls = true → ms.length = 0) (n : ¬ 255 < wireN (ls ++ ms)) (v : vcode ls = 0) (v' : vcode ms = 0) : False := n ((j_two v v' h).mp q)
theorem absO_at {ls : List Lbl} (h : absO ls = true) : 0 < ls.length ∧ ls.getD (ls.length - 1) [] = [] := by
  unfold absO at h
  simp only [Bool.and_eq_true, decide_eq_true_eq, beq_iff_eq] at h
  exact h
theorem jc_RA {ls ms : List Lbl} (q : vcode (ls ++ ms) = 0) (a : absO ls = true) (n : ms ≠ []) : False := by
  obtain ⟨h1, h2⟩ := absO_at a
  have hp := List.length_pos_iff.mpr n
  refine (vcode_zero.mp q).mid (ls.length - 1) (by rw [List.length_append]; omega) ?_
  rw [List.getD_eq_getElem?_getD, List.getElem?_append_left (by omega)]
  rw [List.getD_eq_getElem?_getD] at h2
  exact h2
theorem jc_RL {ls ms : List Lbl} (q : vcode (ls ++ ms) = 0) (n : 255 < wireN (ls ++ ms)) : False := j_zero q n
theorem kt_pairs {prog : Program} {w : World} {A : Around} {E : Value → Shared → Prop} {s : Shared} {env : Env} {h₀ : Heap} {target : PySem.Expr} {body : List Stmt} {Q : Flow → Shared → Prop}
    {l : Addr} {vs : List Value} {nn : Nat} {m₀ : Str → Option Value} {news : Led} (stored : List Str)
    (hh : A.handled = none) (hl : (l, tupO vs nn) ∈ news) (F : Fr h₀ env.locals s.heap m₀) (N : News h₀ env.locals s.heap news) (hA : AllPair news vs)
    (turn : ∀ (m₁ : Str → Option Value) (h : Heap) (tk : Nat) (big : Led) (p : Addr) (n : Nat) (one : Addr) (c : Nat) (us : List Value) (ls : List Lbl) (two : Addr) (c' : Nat) (us' : List Value) (ms : List Lbl),
      (∀ z, stored.contains z = false → m₁ z = m₀ z) → Fr h₀ env.locals h m₁ → News h₀ env.locals h big → (p, tupO [.ref one, .ref two] n) ∈ big → (one, listOf us.toArray c) ∈ big → BytesAre us ls → vcode ls = 0 → ls.length ≤ 5 → (two, listOf us'.toArray c') ∈ big → BytesAre us' ms → vcode ms = 0 → ms.length ≤ 5 →
      wpAny (model prog w) A (assign target env (.ref p)) (fun _ s₃ => wpAny (model prog w) A (execs body env) (KtPost h₀ env.locals { s with heap := h, toks := tk } big stored m₀ Q) E s₃) E { s with heap := h, toks := tk })
    (done : ∀ (m₁ : Str → Option Value) (h : Heap) (tk : Nat), (∀ z, stored.contains z = false → m₁ z = m₀ z) → Fr h₀ env.locals h m₁ → News h₀ env.locals h news → Q .next { s with heap := h, toks := tk }) :
    wpAny (model prog w) A (pyIter (.ref l)) (fun it s₂ => TurnsAt prog w A h₀ env target body Q E it s₂) E s :=
  kt_tup stored hh hl F N (fun i v m₁ h tk own hv hm F₁ N₁ => by
    obtain ⟨p, n, one, c, us, ls, two, c', us', ms, rfl, h1, h2, h3, h4, h5, h6, h7, h8, h9⟩ := hA.get hv
    exact turn m₁ h tk _ p n one c us ls two c' us' ms hm F₁ N₁ (List.mem_append_left own h1) (List.mem_append_left own h2) h3 h4 h5 (List.mem_append_left own h6) h7 h8 h9) done
end Mine

namespace Mine
section
variable {prog : Program} {w : World} {A : Around} {E : Value → Shared → Prop} {s : Shared} {env : Env} {h₀ : Heap} {x : Str} {body : List Stmt} {Q : Flow → Shared → Prop}
theorem kc_walks2 {σ : Type} {I : Addr} {fp : List Addr} {n : Nat} {V : Nat → Value → Prop} {St : Nat → Heap → Prop} {m₀ : Str → Option Value} {news : Led} {s₂ : Shared} (Z : Obj → Prop) (led : σ → Led) (ps : σ → List (Str × Value)) (stored : List Str) (P : Nat → σ → Prop) (c₀ : σ)
    (W : Walks prog w A I fp [I] n V St) (hI : I ∈ fp) (hex : ∀ i h, St i h → ∃ o, h.get? I = some o ∧ Z o) (hL : env.locals ∉ fp) (hwr : h₀.get? I = none) (hnw : ∀ p ∈ led c₀ ++ news, p.1 ≠ I) (st : St 0 s₂.heap) (F : Fr h₀ env.locals s₂.heap m₀) (N : News h₀ env.locals s₂.heap (led c₀ ++ news))
    (hk : ∀ p ∈ ps c₀, m₀ p.1 = some p.2) (hp : P 0 c₀)
    (turn : ∀ i (c : σ) v (u : Str → Option Value) h tk oI own, i < n → V i v → P i c → Fr h₀ env.locals h (fun y => if y = x then some v else kstB (fun z => if stored.contains z then u z else m₀ z) (ps c) y) → News h₀ env.locals h (led c ++ ((I, oI) :: (news ++ own))) →
      Z oI → (∀ p ∈ led c, p.1 ≠ I) → wpAny (model prog w) A (execs body env) (KcPost h₀ env.locals { s₂ with heap := h, toks := tk } I ((I, oI) :: (news ++ own)) led ps stored x m₀ (P (i + 1)) Q) E { s₂ with heap := h, toks := tk })
    (done : ∀ (c : σ) (u : Str → Option Value) h tk, P n c → Fr h₀ env.locals h (fun y => if y = x then u y else kstB (fun z => if stored.contains z then u z else m₀ z) (ps c) y) → News h₀ env.locals h (led c ++ news) → Q .next { s₂ with heap := h, toks := tk }) :
    LoopAtV prog w A h₀ env x body Q E (.ref I) s₂ := by
  refine ⟨I, fp, [I], n, V, St, m₀, led c₀ ++ news, fun i m nx => ∃ c, nx = led c ++ news ∧ (∀ p ∈ ps c, m p.1 = some p.2) ∧ (∀ z, z ≠ x → (∀ p ∈ ps c, z ≠ p.1) → stored.contains z = false → m z = m₀ z) ∧ P i c, rfl, W, hL, ?_, ?_, st, F, N, ⟨c₀, rfl, hk, fun _ _ _ _ => rfl, hp⟩, ?_, ?_⟩
  · intro b hb; rw [List.mem_singleton.mp hb]; exact hwr
  · intro p hp' hq; exact hnw p hp' (List.mem_singleton.mp hq)
  · rintro i v m₁ news₁ s₁ own ⟨h, tk, rfl⟩ hin hV ⟨c, rfl, h1, h2, hp'⟩ hoff hown hget hfp hst F₁ N₁
    obtain ⟨oI, hoI, hZ⟩ := hex _ _ hst
    have hown' : (I, oI) ∈ own := hfp I hI hwr oI hoI
    have N₂ : News h₀ env.locals h (led c ++ ((I, oI) :: (news ++ own))) := fun p hp => N₁ p (by
      rcases List.mem_append.mp hp with q | q
      · exact List.mem_append.mpr (.inr (List.mem_append.mpr (.inl q)))
      · rcases List.mem_cons.mp q with rfl | q
        · exact List.mem_append.mpr (.inl hown')
        · rcases List.mem_append.mp q with q | q
          · exact List.mem_append.mpr (.inr (List.mem_append.mpr (.inr q)))
          · exact List.mem_append.mpr (.inl q))
    have hoffc : ∀ p ∈ led c, p.1 ≠ I := fun p hp q => hoff p (List.mem_append.mpr (.inl hp)) (by rw [q]; exact List.mem_singleton.mpr rfl)
    have hoffn : ∀ p ∈ news, p.1 ≠ I := fun p hp q => hoff p (List.mem_append.mpr (.inr hp)) (by rw [q]; exact List.mem_singleton.mpr rfl)
    refine wpAny_mono (turn i c v m₁ h tk oI own hin hV hp' (kst_fr h1 h2 F₁) N₂ hZ hoffc) (fun f s₃ q => ?_) fun _ _ e => e
    have fin : KcEnd h₀ env.locals { s₂ with heap := h, toks := tk } I ((I, oI) :: (news ++ own)) led ps stored x m₀ (P (i + 1)) s₃ →
        LoopStepU h₀ env.locals [I] own (fun m nx => ∃ c, nx = led c ++ news ∧ (∀ p ∈ ps c, m p.1 = some p.2) ∧ (∀ z, z ≠ x → (∀ p ∈ ps c, z ≠ p.1) → stored.contains z = false → m z = m₀ z) ∧ P (i + 1) c) { s₂ with heap := h, toks := tk } .next s₃ := by
      rintro ⟨c', h', tk', m', news', rfl, F', N', hn', ho', hk', hr', hp''⟩
      refine ⟨rfl, h', tk', m', led c' ++ news, rfl, F', fun p hp => N' p (hn' p ?_), ?_, c', rfl, hk', hr', hp''⟩
      · rcases List.mem_append.mp hp with q | q
        · exact List.mem_append.mpr (.inr (List.mem_cons.mpr (.inr (List.mem_append.mpr (.inr q)))))
        · rcases List.mem_append.mp q with q | q
          · exact List.mem_append.mpr (.inl q)
          · exact List.mem_append.mpr (.inr (List.mem_cons.mpr (.inr (List.mem_append.mpr (.inl q)))))
      · intro p hp q
        rcases List.mem_append.mp hp with z | z
        · exact ho' p z (List.mem_singleton.mp q)
        · exact hoffn p z (List.mem_singleton.mp q)
    cases f with
    | ret v => exact .ret q
    | brk => exact .brk q
    | next => exact .next (fin q)
    | cont => exact .cont (fin q)
  · rintro h tk m' news' F' N' _ ⟨c, rfl, h1, h2, hp'⟩
    exact done c m' h tk hp' (kst_frOut h1 h2 F') N'
/-- a for over range(n) -/
theorem kc_rng2 {σ : Type} {r : Addr} {n : Int} {t u v : Tok} {m₀ : Str → Option Value} {news : Led} (led : σ → Led) (ps : σ → List (Str × Value)) (stored : List Str) (P : Nat → σ → Prop) (c₀ : σ)
    (hh : A.handled = none) (hr : IsRange s.heap r 0 n 1 t u v) (h0 : 0 ≤ n) (hn : n ≤ 100000) (F : Fr h₀ env.locals s.heap m₀) (N : News h₀ env.locals s.heap (led c₀ ++ news)) (hk : ∀ p ∈ ps c₀, m₀ p.1 = some p.2) (hp : P 0 c₀)
    (turn : ∀ (i : Nat) (c : σ) (ti : Tok) (u : Str → Option Value) h tk I oI own, (i : Int) < n → P i c → Fr h₀ env.locals h (fun y => if y = x then some (.int i ti) else kstB (fun z => if stored.contains z then u z else m₀ z) (ps c) y) → News h₀ env.locals h (led c ++ ((I, oI) :: (news ++ own))) →
      oI.cls = .type "range_iterator" → (∀ p ∈ led c, p.1 ≠ I) → wpAny (model prog w) A (execs body env) (KcPost h₀ env.locals { s with heap := h, toks := tk } I ((I, oI) :: (news ++ own)) led ps stored x m₀ (P (i + 1)) Q) E { s with heap := h, toks := tk })
    (done : ∀ (c : σ) (u : Str → Option Value) h tk, P n.toNat c → Fr h₀ env.locals h (fun y => if y = x then u y else kstB (fun z => if stored.contains z then u z else m₀ z) (ps c) y) → News h₀ env.locals h (led c ++ news) → Q .next { s with heap := h, toks := tk }) :
    wpAny (model prog w) A (pyIter (.ref r)) (fun it s₂ => LoopAtV prog w A h₀ env x body Q E it s₂) E s := by
  obtain ⟨hs, he⟩ := small_to h0 hn
  refine wpAny_pyIter_range hr hs ?_
  rw [he]
  have W := Walks.range (prog := prog) (w := w) hh s.heap.objs.size 0 1 n.toNat
  have hz : ((n.toNat : Nat) : Int) = n := by omega
  refine kc_walks2 (Z := fun o => o.cls = .type "range_iterator") (s₂ := { s with heap := s.heap.push { cls := .type "range_iterator", data := .fields #[rawInt 0, rawInt n, rawInt 1] } }) led ps stored P c₀ W (by simp) (fun i h st => ⟨_, st, rfl⟩) ?_ (next_is_new F) ?_ ?_ (F.push _) (fun p hp => ⟨Heap.get?_push_of_some _ (N p hp).1, (N p hp).2⟩) hk hp ?_ done
  · intro hm
    exact absurd F.ns.lt ((List.mem_singleton.mp hm) ▸ Nat.lt_irrefl _)
  · intro p hp
    exact Nat.ne_of_lt (Heap.lt_size (N p hp).1)
  · show IsRangeIter _ _ _ _ _
    rw [hz]
    have e1 : (0 : Int) + ((0 : Nat) : Int) * 1 = 0 := by omega
    have e2 : n - ((0 : Nat) : Int) = n := by omega
    rw [e1, e2]
    exact Heap.get?_push_size _ rfl
  · rintro i c v u h tk oI own hi ⟨ti, rfl⟩ hp' F' N' hzz ho
    have e : (0 : Int) + (i : Int) * 1 = (i : Int) := by omega
    rw [e] at F'
    exact turn i c ti u h tk _ oI own (by omega) hp' F' N' hzz ho
end
theorem list_off {h₀ h : Heap} {L I D : Addr} {oI : Obj} {us : List Value} {n : Nat} {news : Led} (N : News h₀ L h news) (hI : (I, oI) ∈ news) (hD : (D, listOf us.toArray n) ∈ news) (hc : oI.cls = .type "range_iterator") : ∀ p ∈ [(D, listOf us.toArray n)], p.1 ≠ I := by
  intro p hp e
  rw [List.mem_singleton.mp hp] at e
  have a := (N _ hI).1
  have b := (N _ hD).1
  dsimp only at a b e
  rw [e, a] at b
  have q := Option.some.inj b
  rw [q] at hc
  have : (Value.type "list") = .type "range_iterator" := hc
  injection this with z
  exact absurd z (by decide)
theorem sub_cons {a : Addr × Obj} {news : Led} (h : a ∈ news) : ∀ p ∈ [a] ++ news, p ∈ news := by
  intro p hp
  rcases List.mem_cons.mp hp with e | e
  · exact e ▸ h
  · exact e
theorem PkU {p : Prop} (h : Park p) : p := h
theorem dep_lo {z : Int} (h : 0 ≤ z ∧ z < 9) : -2 ≤ z - 2 := by omega
theorem dep_hi {z : Int} (h : 0 ≤ z ∧ z < 9) : z - 2 ≤ 6 := by omega
theorem listK0 {prog : Program} {w : World} {A : Around} {E : Value → Shared → Prop} {s : Shared} {h₀ : Heap} {L a : Addr} {m : Str → Option Value} {news : Led} {Q : Value → Shared → Prop} {K : Frag} {o : Obj}
    (F : Fr h₀ L s.heap m) (N : News h₀ L s.heap news) (X : K.In h₀) (ho : K.lookup a = some o) (hc : o.cls = .type "tuple") (hd : ∃ n, o.data = .seq #[] n)
    (h : ∀ D c h', Fr h₀ L h' m → News h₀ L h' ((D, listOf (List.toArray []) c) :: news) → (∀ p ∈ news, p.1 < D) → Q (.ref D) { s with heap := h' }) : wpAny (model prog w) A (call (.type "list") [.ref a]) Q E s :=
  list_copyKT F N ⟨o, (X.keeps F.keep) _ _ ho, hc, hd⟩ h (by simp)
/-- what is around the law's own call -/
abbrev cA (dp un : Nat) (gd : Option (List Code)) : Around := { handled := none, depth := dp, frames := some [], guards := gd, units := un }
theorem sp_a {ls : List Lbl} {d : Int} (h : d = 0) : ls = ls.take ((ls.length : Int) - d).toNat := by rw [List.take_of_length_le (by omega)]
theorem sp_b {ls : List Lbl} {d : Int} (h : d = 0) : [] = ls.drop ((ls.length : Int) - d).toNat := by rw [List.drop_of_length_le (by omega)]
theorem sp_c {ls : List Lbl} {d : Int} (h : d = (ls.length : Int)) : [] = ls.take ((ls.length : Int) - d).toNat := by
  have : ((ls.length : Int) - d).toNat = 0 := by omega
  rw [this]; rfl
theorem sp_d {ls : List Lbl} {d : Int} (h : d = (ls.length : Int)) : ls = ls.drop ((ls.length : Int) - d).toNat := by
  have : ((ls.length : Int) - d).toNat = 0 := by omega
  rw [this]; rfl
theorem sp_e {ls : List Lbl} {d : Int} (h : 0 < d) (h' : d < (ls.length : Int)) : ls.take (ls.length - d.toNat) = ls.take ((ls.length : Int) - d).toNat := by
  have : ((ls.length : Int) - d).toNat = ls.length - d.toNat := by omega
  rw [this]
theorem sp_f {ls : List Lbl} {d : Int} (h : 0 < d) (h' : d < (ls.length : Int)) : ls.drop (ls.length - d.toNat) = ls.drop ((ls.length : Int) - d).toNat := by
  have : ((ls.length : Int) - d).toNat = ls.length - d.toNat := by omega
  rw [this]
theorem pa_1 {ls : List Lbl} (y : ls = [] ∨ ls = [[]]) (h : decide (ls = []) = false) (h' : ¬ ls = [[]]) : False := y.elim (of_decide_eq_false h) h'
theorem take_sub {ls ms : List Lbl} (h : ms.length ≤ ls.length) : ls.take ((ls.length : Int) - (ms.length : Int)).toNat = ls.take (ls.length - ms.length) := by
  have : ((ls.length : Int) - (ms.length : Int)).toNat = ls.length - ms.length := by omega
  rw [this]
end Mine

namespace Mine
/-- rows of labels of the same lengths -/
theorem wireN_of : ∀ {ls ms : List Lbl}, ls.map List.length = ms.map List.length → wireN ls = wireN ms
  | [], [], _ => rfl
  | [], b :: r, h => by simp at h
  | a :: r, [], h => by simp at h
  | a :: r, b :: q, h => by
    simp only [List.map_cons, List.cons.injEq] at h
    rw [wireN_cons, wireN_cons, h.1, wireN_of h.2]
theorem get_of : ∀ {ls ms : List Lbl} (i : Nat), ls.map List.length = ms.map List.length → (ls.getD i [] = [] ↔ ms.getD i [] = [])
  | [], [], i, _ => Iff.rfl
  | [], b :: r, i, h => by simp at h
  | a :: r, [], i, h => by simp at h
  | a :: r, b :: q, 0, h => by
    simp only [List.map_cons, List.cons.injEq] at h
    simp only [List.getD_cons_zero]
    rw [← List.length_eq_zero_iff, ← List.length_eq_zero_iff, h.1]
  | a :: r, b :: q, i + 1, h => by
    simp only [List.map_cons, List.cons.injEq] at h
    simpa using get_of i h.2
theorem len_of {ls ms : List Lbl} (h : ls.map List.length = ms.map List.length) : ls.length = ms.length := by
  have := congrArg List.length h
  simpa using this
theorem okay_of {ls ms : List Lbl} (h : ls.map List.length = ms.map List.length) (o : Okay ms) : Okay ls := by
  refine ⟨?_, ?_, ?_⟩
  · intro l hl
    have : l.length ∈ ms.map List.length := h ▸ List.mem_map_of_mem hl
    obtain ⟨x, hx, e⟩ := List.mem_map.mp this
    rw [← e]; exact o.len x hx
  · rw [wireN_of h]; exact o.wid
  · intro i hi e
    exact o.mid i (len_of h ▸ hi) ((get_of i h).mp e)
theorem absO_iff {ls : List Lbl} : absO ls = true ↔ 0 < ls.length ∧ ls.getD (ls.length - 1) [] = [] := by
  unfold absO
  simp only [Bool.and_eq_true, decide_eq_true_eq, beq_iff_eq]
theorem absO_of {ls ms : List Lbl} (h : ls.map List.length = ms.map List.length) : absO ls = absO ms := by
  rw [Bool.eq_iff_iff, absO_iff, absO_iff, len_of h, get_of _ h]
theorem low_len {ls ms : List Lbl} (h : ls.map lowB = ms.map lowB) : ls.map List.length = ms.map List.length := by
  have := congrArg (List.map List.length) h
  simpa [Function.comp_def, lowB_length] using this
theorem und_is {ls ms : List Lbl} (h : undO ls ms = true) : ms.length ≤ ls.length ∧ absO ls = absO ms ∧ (ls.drop (ls.length - ms.length)).map lowB = ms.map lowB := by
  have hl := und_len h
  unfold undO at h
  split at h
  · cases h
  · rename_i c
    simp only [Bool.or_eq_true, decide_eq_true_eq, bne_iff_ne, ne_eq, not_or, Classical.not_not] at c
    exact ⟨hl, c.1, of_decide_eq_true h⟩
theorem und_low {ls ms : List Lbl} (h : undO ls ms = true) : (ls.take (ls.length - ms.length) ++ ms).map lowB = ls.map lowB := by
  rw [List.map_append, ← (und_is h).2.2, ← List.map_append, List.take_append_drop]
theorem und_v {ls ms : List Lbl} (h : undO ls ms = true) (v : vcode ls = 0) : vcode (ls.take (ls.length - ms.length) ++ ms) = 0 :=
  vcode_zero.mpr (okay_of (low_len (und_low h)) (vcode_zero.mp v))
theorem und_ord {ls ms : List Lbl} (h : undO ls ms = true) : ordO (ls.take (ls.length - ms.length) ++ ms) ls = 0 :=
  (ordO_zero _ _).mpr ⟨absO_of (low_len (und_low h)), und_low h⟩
theorem sh_abs {ls : List Lbl} {k : Nat} (v : vcode ls = 0) (hk : 0 < k) : absO (ls.take (ls.length - k)) = false := by
  cases h : absO (ls.take (ls.length - k)) with
  | false => rfl
  | true =>
    obtain ⟨h1, h2⟩ := absO_iff.mp h
    rw [List.length_take] at h1 h2
    have hm : min (ls.length - k) ls.length = ls.length - k := by omega
    rw [hm] at h1 h2
    rw [getD_take (by omega)] at h2
    exact absurd h2 ((vcode_zero.mp v).mid _ (by omega))
theorem sh_abs' {ls ms : List Lbl} {k : Nat} (v : vcode ls = 0) (hk : 0 < k) : absO (ls.take (ls.length - k)) = true → ms = [] := by
  intro h; rw [sh_abs v hk] at h; cases h
theorem der_v {ls ms : List Lbl} (v : vcode ls = 0) (v' : vcode ms = 0) (hw : wireN (ls ++ ms) ≤ 255) : absO ls = false → vcode (ls ++ ms) = 0 := fun a =>
  vcode_zero.mpr (j_okay (vcode_zero.mp v) (vcode_zero.mp v') (fun q => by rw [a] at q; cases q) (by omega))
theorem der_abs {ls ms : List Lbl} (hm : 0 < ms.length) : absO (ls ++ ms) = absO ms := by
  rw [Bool.eq_iff_iff, absO_iff, absO_iff, List.length_append]
  have e : (ls ++ ms).getD (ls.length + ms.length - 1) [] = ms.getD (ms.length - 1) [] := by
    rw [List.getD_eq_getElem?_getD, List.getElem?_append_right (by omega), List.getD_eq_getElem?_getD]
    have : ls.length + ms.length - 1 - ls.length = ms.length - 1 := by omega
    rw [this]
  rw [e]
  constructor
  · intro h; exact ⟨hm, h.2⟩
  · intro h; exact ⟨by omega, h.2⟩
theorem der_und {ls ms : List Lbl} (hm : 0 < ms.length) : undO (ls ++ ms) ms = true := by
  unfold undO
  rw [der_abs hm, List.length_append]
  have : ls.length + ms.length - ms.length = ls.length := by omega
  rw [this, List.drop_left]
  simp
theorem der_take {ls ms : List Lbl} : (ls ++ ms).take ((ls ++ ms).length - ms.length) = ls := by
  rw [List.length_append]
  have : ls.length + ms.length - ms.length = ls.length := by omega
  rw [this, List.take_left]
end Mine

namespace Mine
open_top hd for PySem.Challenge.rw_fx0004_04

noncomputable abbrev PP : Program := PySem.Challenge.rw_fx0004_04.row.prog
noncomputable abbrev VW : Program := Mine.hd.view_39
noncomputable abbrev LO : List Str := looseW VW [Str.ofString "NameRelation", Str.ofString "FrozenInstanceError", Str.ofString "NameStyle", Str.ofString "root", Str.ofString "empty", Str.ofString "_SUCCESSOR_PREFIX"]


theorem fillK : PySem.Challenge.rw_fx0004_04 = PySem.Challenge.rw_fx0004_04 ∧ Mine.hd.heap_39 = Mine.hd.heap_39 := by
  w_top off
  k_fill
  exact ⟨rfl, rfl⟩

local macro_rules | `(tactic| walk_at "call builtin:len") => `(tactic| (k_here; (with_reducible show wpAny _ _ (call (Value.builtin _) [Value.ref _]) _ _ _); k_dflt (refine' len_tupB ?N ?i ?b ?z ?_; (case N => k_asm); (case i => k_mem); (case b => assumption); (case z => first | assumption | omega); k_whole); intro t' k'))
local macro_rules | `(tactic| walk_at "subscriptTail") => `(tactic| (k_here; (with_reducible show wpAny _ _ (subscriptTail _ _ (Value.ref _) (Value.int _ _)) _ _ _); k_dflt (refine' item_tupI ?N ?i ?b ?y ?z ?x ?_ ?w; (case N => k_asm); (case i => k_mem); (case b => assumption); (case w => with_unfolding_all rfl); (case z => omega); (case x => omega); (case y => first | assumption | omega); k_whole); intro x' t' e' z'))
local macro_rules | `(tactic| walk_at "subscriptTail") => `(tactic| (k_here; (with_reducible show wpAny _ _ (subscriptTail _ _ (Value.ref _) (Value.int (-1) _)) _ _ _); k_dflt (refine' item_tupLast ?N ?i ?b ?y ?z ?_ ?w; (case N => k_asm); (case i => k_mem); (case b => assumption); (case w => with_unfolding_all rfl); (case z => omega); (case y => first | assumption | omega); k_whole); intro t' e'))
local macro_rules | `(tactic| walk_at "getMethod bytes") => `(tactic| (k_here; (with_reducible show wpAny _ _ (getMethod (Value.bytes _ _) (Str.ofString "lower") _) _ _ _); refine method_lower ?_))
local macro_rules | `(tactic| walk_at "getMethod bytes") => `(tactic| (k_here; (with_reducible show wpAny _ _ (getMethod (Value.bytes _ _) (Str.ofString "upper") _) _ _ _); refine method_upper ?_))
local macro_rules | `(tactic| walk_at "call builtin:bytes.lower") => `(tactic| (k_here; k_dflt (refine call_lowerL (by assumption) ?_); intro t' k' z'))
local macro_rules | `(tactic| walk_at "call builtin:bytes.upper") => `(tactic| (k_here; k_dflt (refine call_upperL (by assumption) ?_); intro t' k' z'))
local macro_rules | `(tactic| walk_at "compareOp Lt bytes bytes") => `(tactic| (k_here; k_dflt (refine lt_bytesL ?_)))
local macro_rules | `(tactic| walk_at "compareOp Gt bytes bytes") => `(tactic| (k_here; k_dflt (refine gt_bytesL ?_)))
local macro_rules | `(tactic| walk_at "compareOp Eq bytes bytes") => `(tactic| (k_here; k_dflt (refine eq_bytesL ?_)))
local macro_rules | `(tactic| walk_at "exec Raise some none") => `(tactic| (k_here; (with_reducible show wpAny _ _ (exec (Stmt.Raise (some (Expr.Name _ _)) none _) _) _ _ _); k_dflt (refine' Raise_ownC ?F ?g ?O PySem.F.excBase_Exception ?h ?_ ?c ?d ?e; (case F => k_asm); (case g => exact TopRead.g (by k_asm)); (case O => exact own_of_in (by k_asm) (by k_asm) (by k_is) (by k_exc)); (case h => first | rfl | assumption); (case c => rfl); (case d => rfl); (case e => decide); k_whole); intro h' e' x'))
local macro_rules | `(tactic| walk_at "call builtin:len") => `(tactic| (k_here; (with_reducible show wpAny _ _ (call (Value.builtin _) [Value.bytes _ _]) _ _ _); k_dflt (refine len_bytesL (by assumption) ?_); intro t' k'))
local macro_rules | `(tactic| walk_at "exec Assign cons ListComp") => `(tactic| (k_extra "my comp"))
local macro_rules | `(tactic| walk_at "eval ListComp") => `(tactic| (k_extra "my comp"))
local macro_rules | `(tactic| ktr_units) => `(tactic| ((have hcL9 := cLine_is); (simp only [units_under_make, units_in1, units_deeper, Around.mark_units, units_caller]); (try dsimp only [ktrTop]); omega))
local macro_rules | `(tactic| k_mem) => `(tactic| first | exact List.mem_cons_self | (refine List.mem_cons_of_mem _ ?_; k_mem) | assumption)
local macro_rules | `(tactic| walk_at "call type:tuple") => `(tactic| (k_here; (with_reducible show wpAny _ _ (call (Value.type _) [Value.ref _]) _ _ _); k_dflt (refine' tupleOfL ?F ?N ?l ?b ?z ?_; (case F => k_asm); (case N => k_asm); (case l => k_mem); (case b => assumption); (case z => first | assumption | omega); k_whole); intro D' h' F' N' l1; (try k_lt l1); (try k_sweep)))
local macro_rules | `(tactic| k_all) => `(tactic| exact my_ne (by assumption))
local macro_rules | `(tactic| walk_at "my_sub") => `(tactic| first | exact fun _ h => h | kcf_all)
local macro_rules | `(tactic| walk_at "my_same") => `(tactic| (intro z h1 h2 h3; first
  | rfl
  | ((simp only [List.forall_mem_cons, List.not_mem_nil, false_implies, implies_true, and_true, ne_eq] at h2); (simp only [List.contains_cons, List.contains_nil, Bool.or_false, Bool.or_eq_false_iff, beq_eq_false_iff_ne, ne_eq] at h3); (simp [kstB, h1, h2, h3]; done))))
local macro_rules | `(tactic| walk_at "KbEnd") => `(tactic| (refine' kb_end ⟨_, _, _, _, _, _⟩ ?F ?N ?s ?k ?r ?p; (case F => k_asm); (case N => k_asm); (case s => walk_at "my_sub"); (case k => kst_all); (case r => walk_at "my_same"); (case p => k_extra "state")))
local macro_rules | `(tactic| walk_at "CmEnd") => `(tactic| (refine' CmEnd.intro ?F ?N ?s ?r; (case F => k_asm); (case N => k_asm); (case s => walk_at "my_sub"); (case r => first | rfl | k_extra "elt")))
local macro_rules | `(tactic| walk_at "KbPost") => `(tactic| (dsimp only [KbPost]))

local macro_rules | `(tactic| walk_at "my_bytes") => `(tactic| first | assumption | exact BytesAre.nil | exact BytesAre.one _ _ (by decide) | exact BytesAre.one _ _ (by assumption))
local macro_rules | `(tactic| walk_at "my_len") => `(tactic| first | assumption | omega | ((simp only [List.length_append, List.length_take, List.length_drop, List.length_map, List.length_cons, List.length_nil]); omega) | decide)
local macro_rules | `(tactic| walk_at "call type:list") => `(tactic| (k_here; (with_reducible show wpAny _ _ (call (Value.type _) [Value.ref _]) _ _ _); k_dflt (refine' listOfLB ?F ?N ?l ?b ?z ?_; (case F => k_asm); (case N => k_asm); (case l => k_mem); (case b => walk_at "my_bytes"); (case z => walk_at "my_len"); k_whole); intro D' c' h' F' N' l1; (try k_lt l1); (try k_sweep)))
local macro_rules | `(tactic| walk_at "call type:list") => `(tactic| (k_here; (with_reducible show wpAny _ _ (call (Value.type _) [Value.ref _]) _ _ _); k_dflt (refine' listOfTB ?F ?N ?l ?b ?z ?_; (case F => k_asm); (case N => k_asm); (case l => k_mem); (case b => walk_at "my_bytes"); (case z => walk_at "my_len"); k_whole); intro D' c' h' F' N' l1; (try k_lt l1); (try k_sweep)))
local macro_rules | `(tactic| walk_at "call builtin:len") => `(tactic| (k_here; (with_reducible show wpAny _ _ (call (Value.builtin _) [Value.ref _]) _ _ _); k_dflt (refine' len_lstB ?N ?i ?b ?z ?_; (case N => k_asm); (case i => k_mem); (case b => walk_at "my_bytes"); (case z => walk_at "my_len"); k_whole); intro t' k'))
local macro_rules | `(tactic| walk_at "call builtin:list.extend") => `(tactic| (k_here; (with_reducible show wpAny _ _ (call (Value.builtin _) [Value.ref _, Value.ref _]) _ _ _); k_dflt (refine' extendB ?F ?N ?j ?b ?bb ?z ?zz ?U ?_; (case F => k_asm); (case N => k_asm); (case j => k_mem); (case U => (intro o'; k_upd)); (case b => walk_at "my_bytes"); (case bb => walk_at "my_bytes"); (case z => walk_at "my_len"); (case zz => walk_at "my_len"); k_whole); intro c' us' h' F' N' b'; (try dsimp only at N'); (try k_sweep)))
local macro_rules | `(tactic| walk_at "binaryOp Add ref ref") => `(tactic| (k_here; (with_reducible show wpAny _ _ (binaryOp _ (Value.ref _) (Value.ref _)) _ _ _); k_dflt (refine' addB ?F ?N ?i ?j ?b ?bb ?z ?zz ?_; (case F => k_asm); (case N => k_asm); (case i => k_mem); (case j => k_mem); (case b => walk_at "my_bytes"); (case bb => walk_at "my_bytes"); (case z => walk_at "my_len"); (case zz => walk_at "my_len"); k_whole); intro D' us' h' F' N' l1 b'; (try k_lt l1); (try k_sweep)))
local macro_rules | `(tactic| walk_at "subscriptTail Name Slice ref ref") => `(tactic| (k_here; k_dflt (refine' sl_named ?F ?N ?_; (case F => k_asm); (case N => k_asm); k_whole); intro D' h' F' N' l1; (try dsimp only); (try k_lt l1); (try k_sweep)))
local macro_rules | `(tactic| walk_at "subscriptTail Attribute Slice ref ref") => `(tactic| (k_here; k_dflt (refine' sl_named ?F ?N ?_; (case F => k_asm); (case N => k_asm); k_whole); intro D' h' F' N' l1; (try dsimp only); (try k_lt l1); (try k_sweep)))
local macro_rules | `(tactic| walk_at "subscriptTail Name Slice ref ref") => `(tactic| (k_here; (with_reducible show wpAny _ _ (subscriptTail _ (PySem.Expr.Slice (some _) none none _) (Value.ref _) (Value.ref _)) _ _ _); k_dflt (refine' sliceFromB ?F ?N ?l ?b ?z ?x ?_ ?s ?t; (case F => k_asm); (case N => k_asm); (case l => k_mem); (case b => walk_at "my_bytes"); (case z => walk_at "my_len"); (case x => omega); (case s => with_unfolding_all rfl); (case t => kmk_pure); k_whole); intro D' us' h' F' N' l1 b'; (try k_lt l1); (try k_sweep)))
local macro_rules | `(tactic| walk_at "subscriptTail Name Slice ref ref") => `(tactic| (k_here; (with_reducible show wpAny _ _ (subscriptTail _ (PySem.Expr.Slice none (some _) none _) (Value.ref _) (Value.ref _)) _ _ _); k_dflt (refine' sliceToB ?F ?N ?l ?b ?z ?x ?_ ?s ?t; (case F => k_asm); (case N => k_asm); (case l => k_mem); (case b => walk_at "my_bytes"); (case z => walk_at "my_len"); (case x => omega); (case s => with_unfolding_all rfl); (case t => kmk_pure); k_whole); intro D' us' h' F' N' l1 b'; (try k_lt l1); (try k_sweep)))
local macro_rules | `(tactic| walk_at "compareOp Eq ref ref") => `(tactic| (k_here; k_dflt (refine' eq_labels ?N ?i ?j ?b ?bb ?u ?_; (case N => k_asm); (case i => k_mem); (case j => k_mem); (case b => walk_at "my_bytes"); (case bb => walk_at "my_bytes"); (case u => ktr_units); k_whole)))
local macro_rules | `(tactic| walk_at "compareOp NotEq ref ref") => `(tactic| (k_here; k_dflt (refine' ne_labels ?N ?i ?j ?b ?bb ?u ?_; (case N => k_asm); (case i => k_mem); (case j => k_mem); (case b => walk_at "my_bytes"); (case bb => walk_at "my_bytes"); (case u => ktr_units); k_whole)))
local macro_rules | `(tactic| walk_at "SrcT") => `(tactic| (k_extra "my src"))
local macro_rules | `(tactic| walk_at "subscriptTail") => `(tactic| (k_here; (with_reducible show wpAny _ _ (subscriptTail _ _ (Value.ref _) (Value.ref _)) _ _ _); (try have hp9 := pos_of_ne (by assumption)); k_dflt (refine' tupTail ?F ?N ?i ?j ?b ?z ?p ?q ?e ?l ?o ?_ ?s ?t; (case F => k_asm); (case N => k_asm); (case i => k_mem); (case j => k_mem); (case b => assumption); (case z => assumption); (case p => first | exact Part.none | exact Part.int _ _); (case q => first | exact Part.none | exact Part.int _ _); (case e => first | exact adj_one rfl (by omega) | exact adj_to (by omega) (by omega) | exact adj_from (by omega) (by omega)); (case l => omega); (case o => omega); (case s => with_unfolding_all rfl); (case t => kmk_pure); k_whole); intro D' us' h' F' N' l1 b'; (try k_lt l1); (try k_sweep)))
local macro_rules | `(tactic| walk_at "subscriptTail") => `(tactic| (k_here; (with_reducible show wpAny _ _ (subscriptTail _ (PySem.Expr.Slice _ _ none _) (Value.ref _) (Value.ref _)) _ _ _); k_dflt (refine' subsl_K ?k1 ?k2 ?k3 ?k7 ?k4 ?k5 ?k6 ?_ ?s; (case k1 => k_asm); (case k2 => k_asm); (case k3 => k_inst); (case k7 => k_is); (case k4 => k_is); (case k5 => k_is); (case k6 => k_is); (case s => with_unfolding_all rfl); k_whole)))
local macro_rules | `(tactic| walk_at "my_v") => `(tactic| first | assumption | exact v_take (by assumption) _ | exact v_drop (by assumption) _)
local macro_rules | `(tactic| walk_at "my_enter") => `(tactic| (refine' code_def ?k1 ?k2 ?k3 ?k4 ?k5 ?kA ?kF ?kK ?k6 ?k7 ?k8 ?k9 ?kB ?_ ?c2 ?c3 ?c4 ?c5; (case kA => exact rfl); (case kF => exact rfl); (case kK => assumption); (case k1 => k_asm); (case k2 => k_asm); (case k3 => k_asm); (case k4 => k_asm); (case k5 => k_asm); (case k6 => k_is); (case k7 => k_is); (case k8 => ktr_room); (case k9 => first | exact binds_K (by k_in) rfl (by k_is) rfl rfl rfl | exact kp_binds (by k_in) (fun _ => rfl)); (case c5 => decide); (case kB => exact locs rfl); (case c2 => exact rfl); (case c3 => exact rfl); (case c4 => exact rfl); k_whole; intro g' L' h' FG' F' N' B' X' T'; (try dsimp only); (try k_fold)))
local macro_rules | `(tactic| walk_at "truthy ref") => `(tactic| (k_here; k_dflt (refine' truthy_len ?k1 ?k2 ?k3 ?k4 ?k5 ?k6 ?_; (case k1 => k_asm); (case k2 => k_asm); (case k3 => k_inst); (case k4 => k_is); (case k5 => k_is); (case k6 => k_is); k_whole)))
local macro_rules | `(tactic| walk_at "subscriptTail") => `(tactic| (k_here; (with_reducible show wpAny _ _ (subscriptTail _ _ (Value.ref _) (Value.int _ _)) _ _ _); k_dflt (refine' item_lstI ?N ?i ?b ?z ?y ?x ?_ ?w ?g; (case N => k_asm); (case i => k_mem); (case b => walk_at "my_bytes"); (case w => with_unfolding_all rfl); (case g => kmk_pure); (case z => walk_at "my_len"); (case y => omega); (case x => walk_at "my_lt"); k_whole); intro x' t' e' z'))
local macro_rules | `(tactic| walk_at "my_lt") => `(tactic| first | omega | ((show _ < ((12 : Nat) : Int)); omega) | ((simp only [List.length_append, List.length_take, List.length_drop, List.length_map, List.length_cons, List.length_nil]); omega))
local macro_rules | `(tactic| walk_at "compareOp Eq ref") => `(tactic| (k_here; (with_reducible show wpAny _ _ (compareOp CmpOp.Eq (Value.ref _) _) _ _ _); (refine cmp_ofEq ?_); k_dflt (refine' cmp_K ?k1 ?k2 ?k3 ?k4 ?k5 ?k6 ?k7 ?k8 ?_; (case k1 => ktr_units); (case k2 => k_asm); (case k3 => k_asm); (case k4 => k_inst); (case k5 => k_typeOf); (case k6 => k_is); (case k7 => k_is); (case k8 => k_is); k_whole)))
local macro_rules | `(tactic| walk_at "compareOp NotEq ref") => `(tactic| (k_here; (with_reducible show wpAny _ _ (compareOp CmpOp.NotEq (Value.ref _) _) _ _ _); (refine cmp_ofNotEq ?_); k_dflt (refine' cmp_K ?k1 ?k2 ?k3 ?k4 ?k5 ?k6 ?k7 ?k8 ?_; (case k1 => ktr_units); (case k2 => k_asm); (case k3 => k_asm); (case k4 => k_inst); (case k5 => k_typeOf); (case k6 => k_is); (case k7 => k_is); (case k8 => k_is); k_whole)))
local macro_rules | `(tactic| walk_at "compareOp Eq ref") => `(tactic| (k_here; (with_reducible show wpAny _ _ (compareOp CmpOp.Eq (Value.ref _) (Value.ref _)) _ _ _); (refine cmp_ofEq ?_); k_dflt (refine' cmp_first ?k1 ?k2 ?k3 ?k4 ?k5 ?k6 ?k7 ?k8 ?k9 ?_; (case k1 => ktr_units); (case k2 => k_asm); (case k3 => k_asm); (case k4 => k_inst); (case k5 => k_inst); (case k6 => decide); (case k7 => k_is); (case k8 => k_is); (case k9 => k_is); k_whole)))
local macro_rules | `(tactic| walk_at "KcPost") => `(tactic| (show KcEnd _ _ _ _ _ _ _ _ _ _ _ _))
local macro_rules | `(tactic| walk_at "KcEnd") => `(tactic| (k_extra "KcEnd"))
local macro_rules | `(tactic| walk_at "my_off") => `(tactic| first | assumption | (intro p hp; (simp only [List.mem_cons, List.not_mem_nil, or_false] at hp); subst hp; first | k_ne | (dsimp only; omega)))
local macro_rules | `(tactic| walk_at "pyIter ref") => `(tactic| (k_extra "my iter"))
local macro_rules | `(tactic| walk_at "leaving ref") => `(tactic| (k_here; k_dflt (first
  | (refine' leave_raiseS ?k1 ?k0 ?k2 ?k3 ?_; (case k0 => first | assumption | exact Heap.MadeExc.of (by assumption)); (case k1 => assumption); (case k2 => assumption); (case k3 => k_asm); k_whole; intro h' t' R' RK' U'; (try dsimp only at R' U' ⊢))
  | (refine' leave_onS ?k1 ?k2 ?k3 ?k4 ?_; (case k3 => assumption); (case k1 => assumption); (case k2 => assumption); (case k4 => assumption); k_whole; intro h' R' RK' U'; (try dsimp only at R' U' ⊢)))))
local macro_rules | `(tactic| walk_at "my_noabs") => `(tactic| first | assumption | exact noabs_f (by assumption) | exact noabs_l (by assumption))
local macro_rules | `(tactic| walk_at "execs cons") => `(tactic| (k_extra "cut"))
local macro_rules | `(tactic| walk_at "CutPost") => `(tactic| (show CutEnd _ _ _ _ _ _ _))
local macro_rules | `(tactic| walk_at "CutEnd") => `(tactic| (k_extra "cutend"))
local macro_rules | `(tactic| walk_at "my_vars") => `(tactic| first | exact True.intro | (refine And.intro ?_ ?_; (focus first | rfl | ((with_reducible rename Vars _ _ => hV9); refine' hV9.get ?kLook; (case kLook => with_unfolding_all rfl))); (walk_at "my_vars")))
local macro_rules | `(tactic| walk_at "eval Name") => `(tactic| (k_here; k_dflt (refine' nameX_L ?F ?v ?_ ?a ?b; (case a => rfl); (case b => rfl); (case F => k_asm); (case v => ((with_reducible rename Vars _ _ => hV9); refine' hV9.get ?kLook; (case kLook => with_unfolding_all rfl))); k_whole)))
local macro_rules | `(tactic| walk_at "exec For Tuple Tuple") => `(tactic| (k_extra "my for"))
local macro_rules | `(tactic| walk_at "KtPost") => `(tactic| (dsimp only [KtPost]))
local macro_rules | `(tactic| walk_at "KtEnd") => `(tactic| (k_extra "ktend"))
local macro_rules | `(tactic| walk_at "exec Try") => `(tactic| (k_here; refine wpAny_Try_except ?_))
local macro_rules | `(tactic| walk_at "call type:list") => `(tactic| (k_here; (with_reducible show wpAny _ _ (call (Value.type _) [Value.ref _]) _ _ _); k_dflt (refine' listK0 ?F ?N ?X ?k ?c ?d ?_; (case F => k_asm); (case N => k_asm); (case X => k_asm); (case k => k_is); (case c => rfl); (case d => exact ⟨_, rfl⟩); k_whole); intro D' c' h' F' N' l1; (try k_lt l1); (try k_sweep)))

section
variable {w : World} {mean : ExcName → Option Value} {mg mb : Str → Option Value} {dp un : Nat} {gd : Option (List Code)} {cn : Str} {cs : Scope} {a : Addr} {ccd : Value} {cl : List (Str × Addr)} {outer : List Env} {A₀ : Around} {base h₀ : Heap} {L : Addr} {m : Str → Option Value} {news : Led} {s : Shared} {Q E : Value → Shared → Prop}
variable (B : Below A₀ base outer h₀) (F : Fr h₀ L s.heap m) (X : (Mine.hd.heap_39 w.params).In h₀) (N : News h₀ L s.heap news) (T : Top VW LO mean mg mb h₀) (hk : cs.kind = .function)
include B F X N T hk

theorem is_absolute_c (hd : dp + 2 < recursionLimit) (hu : un + 16 < cLine)
  {x dx t : Addr} {hs : Int} {tk : Tok} {vs : List Value} {n n' : Nat} {ls : List Lbl} (i1 : (x, instObj 494 dx) ∈ news) (i2 : (dx, lblD hs tk t n') ∈ news) (i3 : (t, tupO vs n) ∈ news) (hb : BytesAre vs ls) (hz : ls.length ≤ 16384)
  (ret : ∀ (h' : Heap) (tk' : Nat), Fr h₀ L h' m → News h₀ L h' news → Q (.bool (absO ls)) { s with heap := h', toks := tk' }) :
  wpAny (model PP w) (ktrTop dp un gd cn cs L a ccd cl outer) (call (.ref 275) [.ref x]) Q E s := by
  refine wpAny_call ?_
  k_dflt ktr_enter
  k_steps
  all_goals refine retB ret (by k_asm) (by k_asm) ?_
  · exact absO_pos (by assumption)
  · exact absO_nil (by assumption)

end

section
variable {w : World} {mean : ExcName → Option Value} {mg mb : Str → Option Value} {dp un : Nat} {gd : Option (List Code)} {cn : Str} {cs : Scope} {a : Addr} {ccd : Value} {cl : List (Str × Addr)} {outer : List Env} {A₀ : Around} {base h₀ : Heap} {L : Addr} {m : Str → Option Value} {news : Led} {s : Shared} {Q E : Value → Shared → Prop}
variable (B : Below A₀ base outer h₀) (F : Fr h₀ L s.heap m) (X : (Mine.hd.heap_39 w.params).In h₀) (N : News h₀ L s.heap news) (T : Top VW LO mean mg mb h₀) (hk : cs.kind = .function)
include B F X N T hk


theorem validate_c (hd : dp + 2 < recursionLimit) (hu : un + 16 < cLine)
  {t : Addr} {vs : List Value} {n : Nat} {ls : List Lbl} (i3 : (t, tupO vs n) ∈ news) (hb : BytesAre vs ls) (hz : ls.length ≤ 16384)
  (ret : vcode ls = 0 → ∀ (h' : Heap) (tk' : Nat), Fr h₀ L h' m → News h₀ L h' news → Q .none { s with heap := h', toks := tk' })
  (rL : vcode ls = 1 → ∀ (e t : Addr) (g h' : Heap) (tk' : Nat), Fr h₀ L g m → g.UpToSlots h' → RaisedS base g (envX cn cs L a ccd cl :: outer) e (.ref 118) t [] news h' → E (.ref e) { s with heap := h', toks := tk' })
  (rN : vcode ls = 2 → ∀ (e t : Addr) (g h' : Heap) (tk' : Nat), Fr h₀ L g m → g.UpToSlots h' → RaisedS base g (envX cn cs L a ccd cl :: outer) e (.ref 106) t [] news h' → E (.ref e) { s with heap := h', toks := tk' })
  (rE : vcode ls = 3 → ∀ (e t : Addr) (g h' : Heap) (tk' : Nat), Fr h₀ L g m → g.UpToSlots h' → RaisedS base g (envX cn cs L a ccd cl :: outer) e (.ref 94) t [] news h' → E (.ref e) { s with heap := h', toks := tk' }) :
  wpAny (model PP w) (ktrTop dp un gd cn cs L a ccd cl outer) (call (.ref 158) [.ref t]) Q E s := by
  k_with_none
  refine wpAny_call ?_
  k_dflt ktr_enter
  k_with "pyIter ref" => ((with_reducible show wpAny _ _ (pyIter (Value.ref _)) (fun it s₂ => LoopAtV _ _ _ _ _ _ _ _ _ it s₂) _ _); (rename Fr _ _ _ _ => lF'); (rename News _ _ _ _ => lN'); (with_unfolding_all refine' kb_tup (σ := Int × Nat × Int × Nat × Int × Nat) (fun c => [(Str.ofString "total", Value.int c.1 c.2.1), (Str.ofString "i", Value.int c.2.2.1 c.2.2.2.1), (Str.ofString "j", Value.int c.2.2.2.2.1 c.2.2.2.2.2)]) [Str.ofString "ll"] (fun k c => VdI ls k c.1 c.2.2.1 c.2.2.2.2.1) ⟨_, _, _, _, _, _⟩ ?hh ?hm lF' lN' ?hk ?hp (fun k' c' v' u' h' tk' own' hk' hv' hI' F' N' => ?_) (fun c' u' h' tk' hI' F' N' => ?_)); (case hh => rfl); (case hm => k_mem); (case hk => kst_all); (case hp => exact vd_start _); (all_goals (try clear lF' lN')); (all_goals (try (obtain ⟨l', t', hl', hv2', hz'⟩ := hb.at_ hv'; subst hv2'))))
  k_with "state" => (exact vd_next (by assumption) (by assumption) (by assumption) rfl rfl (by first | exact Or.inl ⟨by omega, of_decide_eq_true (by assumption), rfl⟩ | exact Or.inr (Or.inl ⟨by omega, of_decide_eq_false (by assumption), rfl⟩) | exact Or.inr (Or.inr ⟨by omega, rfl⟩)))
  k_steps
  all_goals first
    | exact endS (rL (vc1 (by assumption) (by assumption) (by assumption))) (by assumption) (by assumption) (by assumption) (by walk_at "my_sub")
    | exact endS (rN (vc2 (by assumption) hb.length (by assumption))) (by assumption) (by assumption) (by assumption) (by walk_at "my_sub")
    | exact endS (rE (vc3 (by assumption) hb.length (by assumption) (by omega) (by omega))) (by assumption) (by assumption) (by assumption) (by walk_at "my_sub")
    | exact retN (ret (vc0 (by assumption) hb.length (by assumption) (by omega))) (by k_asm) (by k_asm)

end

section
variable {w : World} {mean : ExcName → Option Value} {mg mb : Str → Option Value} {dp un : Nat} {gd : Option (List Code)} {cn : Str} {cs : Scope} {a : Addr} {ccd : Value} {cl : List (Str × Addr)} {outer : List Env} {A₀ : Around} {base h₀ : Heap} {L : Addr} {m : Str → Option Value} {news : Led} {s : Shared} {Q E : Value → Shared → Prop}
variable (B : Below A₀ base outer h₀) (F : Fr h₀ L s.heap m) (X : (Mine.hd.heap_39 w.params).In h₀) (N : News h₀ L s.heap news) (T : Top VW LO mean mg mb h₀) (hk : cs.kind = .function)
include B F X N T hk


theorem maybe_c (hd : dp + 2 < recursionLimit) (hu : un + 16 < cLine) {l : Lbl} {t : Tok}
  (ret : ∀ (h' : Heap) (tk' : Nat), Fr h₀ L h' m → News h₀ L h' news → Q (.bytes l.toArray t) { s with heap := h', toks := tk' }) :
  wpAny (model PP w) (ktrTop dp un gd cn cs L a ccd cl outer) (call (.ref 165) [.bytes l.toArray t]) Q E s := by
  k_with_none
  refine wpAny_call ?_
  k_dflt ktr_enter
  k_steps
  all_goals exact retN ret (by k_asm) (by k_asm)


end

section
variable {w : World} {mean : ExcName → Option Value} {mg mb : Str → Option Value} {dp un : Nat} {gd : Option (List Code)} {cn : Str} {cs : Scope} {a : Addr} {ccd : Value} {cl : List (Str × Addr)} {outer : List Env} {A₀ : Around} {base h₀ : Heap} {L : Addr} {m : Str → Option Value} {news : Led} {s : Shared} {Q E : Value → Shared → Prop}
variable (B : Below A₀ base outer h₀) (F : Fr h₀ L s.heap m) (X : (Mine.hd.heap_39 w.params).In h₀) (N : News h₀ L s.heap news) (T : Top VW LO mean mg mb h₀) (hk : cs.kind = .function)
include B F X N T hk


theorem len_c (hd : dp + 2 < recursionLimit) (hu : un + 16 < cLine) {x dx t : Addr} {hs : Int} {tk : Tok} {vs : List Value} {n n' : Nat} {ls : List Lbl} (i1 : (x, instObj 494 dx) ∈ news) (i2 : (dx, lblD hs tk t n') ∈ news) (i3 : (t, tupO vs n) ∈ news) (hb : BytesAre vs ls) (hz : ls.length ≤ 16384)
  (ret : ∀ (tk0 : Tok) (h' : Heap) (tk' : Nat), Fr h₀ L h' m → News h₀ L h' news → Q (.int (ls.length : Int) tk0) { s with heap := h', toks := tk' }) :
  wpAny (model PP w) (ktrTop dp un gd cn cs L a ccd cl outer) (call (.ref 411) [.ref x]) Q E s := by
  k_with_none
  refine wpAny_call ?_
  k_dflt ktr_enter
  k_steps
  all_goals exact retIs ret (by k_asm) (by k_asm) (by walk_at "my_sub") rfl

end

section
variable {w : World} {mean : ExcName → Option Value} {mg mb : Str → Option Value} {dp un : Nat} {gd : Option (List Code)} {cn : Str} {cs : Scope} {a : Addr} {ccd : Value} {cl : List (Str × Addr)} {outer : List Env} {A₀ : Around} {base h₀ : Heap} {L : Addr} {m : Str → Option Value} {news : Led} {s : Shared} {Q E : Value → Shared → Prop}
variable (B : Below A₀ base outer h₀) (F : Fr h₀ L s.heap m) (X : (Mine.hd.heap_39 w.params).In h₀) (N : News h₀ L s.heap news) (T : Top VW LO mean mg mb h₀) (hk : cs.kind = .function)
include B F X N T hk


theorem fullcompare_c (hd : dp + 4 < recursionLimit) (hu : un + 32 < cLine)
  {x dx t : Addr} {hs : Int} {tk : Tok} {vs : List Value} {n n' : Nat} {ls : List Lbl} (i1 : (x, instObj 494 dx) ∈ news) (i2 : (dx, lblD hs tk t n') ∈ news) (i3 : (t, tupO vs n) ∈ news) (hb : BytesAre vs ls) (hz : ls.length ≤ 16384)
  {y dy u : Addr} {hs' : Int} {tk' : Tok} {ws : List Value} {o o' : Nat} {ms : List Lbl} (j1 : (y, instObj 494 dy) ∈ news) (j2 : (dy, lblD hs' tk' u o') ∈ news) (j3 : (u, tupO ws o) ∈ news) (hb' : BytesAre ws ms) (hz' : ms.length ≤ 16384)
  (ret : ∀ (r : Addr) (t1 t2 t3 : Tok) (h' : Heap) (tk' : Nat), Fr h₀ L h' m → News h₀ L h' ((r, tupO [.int (fcmp ls ms).1 t1, .int (fcmp ls ms).2.1 t2, .int (fcmp ls ms).2.2 t3] 0) :: news) → (∀ p ∈ news, p.1 < r) → Q (.ref r) { s with heap := h', toks := tk' }) :
  wpAny (model PP w) (ktrTop dp un gd cn cs L a ccd cl outer) (call (.ref 296) [.ref x, .ref y]) Q E s := by
  k_with_none
  refine wpAny_call ?_
  k_dflt ktr_enter
  k_with "call ref" => (k_dflt (refine' is_absolute_c ?k1 ?k2 ?k3 ?k4 ?k5 ?k6 ?k7 ?k8 ?i1 ?i2 ?i3 ?b ?z ?_; (case k1 => k_asm); (case k2 => k_asm); (case k3 => k_asm); (case k4 => k_asm); (case k5 => k_asm); (case k6 => first | exact rfl | assumption); (case i1 => k_mem); (case i2 => k_mem); (case i3 => k_mem); (case b => assumption); (case z => assumption); (case k7 => ktr_room); (case k8 => ktr_units)); intro h9 tk9 F9 N9; (try dsimp only); (try k_fold))
  k_with "state" => (first | exact fc_start (by omega) (by omega) (by omega) | exact fc_next (by assumption) (by omega) (by assumption) (by assumption) (by assumption) (by assumption))
  k_with "exec While Compare cons nil" => (k_while (fun _ l l1 l2 nl nr => ∃ k, FcI ls ms l l1 l2 nl nr k) (fun _ l _ _ _ _ => l.toNat) "l" "l1" "l2" "nlabels" "namereln"; obtain ⟨kk, kI⟩ := kInv; have k1 := kI.k1; have k2 := kI.k2; have k3 := kI.hl; have k4 := kI.h1; have k5 := kI.h2; have k6 := kI.hn; have k7 := kI.hr)
  k_steps
  all_goals refine retT3 ret (by k_asm) (by k_asm) (by assumption) ?_
  all_goals first
    | exact fc_lt (by assumption) (by assumption) (by assumption) (by assumption) (by assumption) (by assumption) (by omega)
    | exact fc_gt (by assumption) (by assumption) (by assumption) (by assumption) (by assumption) (by assumption) (by assumption) (by omega)
    | exact fc_end (by assumption) (by assumption) (by assumption) (by omega)
    | exact fc_abs1 (by assumption) (by assumption)
    | exact fc_abs0 (by assumption) (by assumption)

end

section
variable {w : World} {mean : ExcName → Option Value} {mg mb : Str → Option Value} {dp un : Nat} {gd : Option (List Code)} {cn : Str} {cs : Scope} {a : Addr} {ccd : Value} {cl : List (Str × Addr)} {outer : List Env} {A₀ : Around} {base h₀ : Heap} {L : Addr} {m : Str → Option Value} {news : Led} {s : Shared} {Q E : Value → Shared → Prop}
variable (B : Below A₀ base outer h₀) (F : Fr h₀ L s.heap m) (X : (Mine.hd.heap_39 w.params).In h₀) (N : News h₀ L s.heap news) (T : Top VW LO mean mg mb h₀) (hk : cs.kind = .function)
include B F X N T hk


theorem name_c (hd : dp + 8 < recursionLimit) (hu : un + 64 < cLine)
  {l : Addr} {vs : List Value} {n : Nat} {ls : List Lbl} (i3 : (l, listOf vs.toArray n) ∈ news) (hb : BytesAre vs ls) (hz : ls.length ≤ 16384)
  (ret : vcode (ls) = 0 → ∀ (x dx t : Addr) (hs : Int) (tk : Tok) (us : List Value) (h' : Heap) (tk' : Nat), Fr h₀ L h' m → News h₀ L h' ((x, instObj 494 dx) :: (dx, lblD hs tk t 1) :: (t, tupO us 0) :: news) → BytesAre us (ls) → Q (.ref x) { s with heap := h', toks := tk' }) (rL : vcode (ls) = 1 → ∀ (e t : Addr) (g h' : Heap) (tk' : Nat), Fr h₀ L g m → g.UpToSlots h' → RaisedS base g (envX cn cs L a ccd cl :: outer) e (.ref 118) t [] news h' → E (.ref e) { s with heap := h', toks := tk' }) (rN : vcode (ls) = 2 → ∀ (e t : Addr) (g h' : Heap) (tk' : Nat), Fr h₀ L g m → g.UpToSlots h' → RaisedS base g (envX cn cs L a ccd cl :: outer) e (.ref 106) t [] news h' → E (.ref e) { s with heap := h', toks := tk' }) (rE : vcode (ls) = 3 → ∀ (e t : Addr) (g h' : Heap) (tk' : Nat), Fr h₀ L g m → g.UpToSlots h' → RaisedS base g (envX cn cs L a ccd cl :: outer) e (.ref 94) t [] news h' → E (.ref e) { s with heap := h', toks := tk' }) :
  wpAny (model PP w) (ktrTop dp un gd cn cs L a ccd cl outer) (call (.ref 494) [.ref l]) Q E s := by
  k_with_none
  refine' call_cls F X N (by k_is) (by k_is) (by k_is) ?_
  intro x' d' h' F' N' l1 l2
  k_lt2 l2
  k_dflt ktr_enter
  k_with "my comp" => (k_dflt (refine LCg.Assign_ListComp_U (F₀ := by k_asm) (by rfl) (by with_unfolding_all rfl) (by with_unfolding_all rfl) (by decide) (by rfl) (by decide) (by rfl) (by rfl) (by rfl) ?_))
  k_with "CompSrc" => ((refine LCg.CompSrc.ledger (by rfl) (by k_asm) (by k_asm) (by k_mem) (by rw [List.size_toArray, sizeLine_eq, hb.length]; omega) ?_); intro g'; refine comp_mapA (fun _ v y => y = v) (Or.inr ⟨_, by k_mem, rfl, _, rfl⟩) (fun i1 v1 I1 oI1 C1 oC1 D1 m1 ys1 h1 tk1 E1 hv1 hC1 hx1 F1 N1 off1 => ?_) (fun ys1 hl1 hy1 => ?_); all_goals (first | (obtain ⟨l', t', hl', hv2', hz'⟩ := hb.at_ hv1; subst hv2') | (rw [all_same hl1 hy1]; clear hy1 hl1)))
  k_with "call ref" => (k_dflt (refine' maybe_c ?k1 ?k2 ?k3 ?k4 ?k5 ?k6 ?k7 ?k8 ?_; (case k1 => k_asm); (case k2 => k_asm); (case k3 => k_asm); (case k4 => k_asm); (case k5 => k_asm); (case k6 => first | exact rfl | assumption); (case k7 => ktr_room); (case k8 => ktr_units)); intro h9 tk9 F9 N9; (try dsimp only); (try k_fold))
  k_with "call ref" => (k_dflt (refine' validate_c ?k1 ?k2 ?k3 ?k4 ?k5 ?k6 ?k7 ?k8 ?i3 ?b ?z ?_ ?_ ?_ ?_; (case k1 => k_asm); (case k2 => k_asm); (case k3 => k_asm); (case k4 => k_asm); (case k5 => k_asm); (case k6 => first | exact rfl | assumption); (case k7 => ktr_room); (case k8 => ktr_units); (case i3 => k_mem); (case b => assumption); (case z => first | assumption | omega)); rotate_left; (intro v9 e9 t9 g9 h9 tk9 F9 U9 R9; (try dsimp only); (try k_fold)); rotate_left; (intro v9 e9 t9 g9 h9 tk9 F9 U9 R9; (try dsimp only); (try k_fold)); rotate_left; (intro v9 e9 t9 g9 h9 tk9 F9 U9 R9; (try dsimp only); (try k_fold)); rotate_left; intro v9 h9 tk9 F9 N9; (try dsimp only); (try k_fold))
  k_steps
  all_goals first
    | exact retNmU (ret (by assumption)) (by assumption) (by k_asm) (by k_asm) (by walk_at "my_sub")
    | exact endS (rL (by assumption)) (by assumption) (by assumption) (by assumption) (by walk_at "my_sub")
    | exact endS (rN (by assumption)) (by assumption) (by assumption) (by assumption) (by walk_at "my_sub")
    | exact endS (rE (by assumption)) (by assumption) (by assumption) (by assumption) (by walk_at "my_sub")

end

section
variable {w : World} {mean : ExcName → Option Value} {mg mb : Str → Option Value} {dp un : Nat} {gd : Option (List Code)} {cn : Str} {cs : Scope} {a : Addr} {ccd : Value} {cl : List (Str × Addr)} {outer : List Env} {A₀ : Around} {base h₀ : Heap} {L : Addr} {m : Str → Option Value} {news : Led} {s : Shared} {Q E : Value → Shared → Prop}
variable (B : Below A₀ base outer h₀) (F : Fr h₀ L s.heap m) (X : (Mine.hd.heap_39 w.params).In h₀) (N : News h₀ L s.heap news) (T : Top VW LO mean mg mb h₀) (hk : cs.kind = .function)
include B F X N T hk


theorem namet_c (hd : dp + 8 < recursionLimit) (hu : un + 64 < cLine)
  {l : Addr} {vs : List Value} {n : Nat} {ls : List Lbl} (i3 : (l, tupO vs n) ∈ news) (hb : BytesAre vs ls) (hz : ls.length ≤ 16384)
  (ret : vcode (ls) = 0 → ∀ (x dx t : Addr) (hs : Int) (tk : Tok) (us : List Value) (h' : Heap) (tk' : Nat), Fr h₀ L h' m → News h₀ L h' ((x, instObj 494 dx) :: (dx, lblD hs tk t 1) :: (t, tupO us 0) :: news) → BytesAre us (ls) → Q (.ref x) { s with heap := h', toks := tk' }) (rL : vcode (ls) = 1 → ∀ (e t : Addr) (g h' : Heap) (tk' : Nat), Fr h₀ L g m → g.UpToSlots h' → RaisedS base g (envX cn cs L a ccd cl :: outer) e (.ref 118) t [] news h' → E (.ref e) { s with heap := h', toks := tk' }) (rN : vcode (ls) = 2 → ∀ (e t : Addr) (g h' : Heap) (tk' : Nat), Fr h₀ L g m → g.UpToSlots h' → RaisedS base g (envX cn cs L a ccd cl :: outer) e (.ref 106) t [] news h' → E (.ref e) { s with heap := h', toks := tk' }) (rE : vcode (ls) = 3 → ∀ (e t : Addr) (g h' : Heap) (tk' : Nat), Fr h₀ L g m → g.UpToSlots h' → RaisedS base g (envX cn cs L a ccd cl :: outer) e (.ref 94) t [] news h' → E (.ref e) { s with heap := h', toks := tk' }) :
  wpAny (model PP w) (ktrTop dp un gd cn cs L a ccd cl outer) (call (.ref 494) [.ref l]) Q E s := by
  k_with_none
  refine' call_cls F X N (by k_is) (by k_is) (by k_is) ?_
  intro x' d' h' F' N' l1 l2
  k_lt2 l2
  k_dflt ktr_enter
  k_with "my comp" => (k_dflt (refine Assign_ListComp_T (F₀ := by k_asm) (by rfl) (by with_unfolding_all rfl) (by with_unfolding_all rfl) (by decide) (by rfl) (by decide) (by rfl) (by rfl) (by rfl) ?_))
  k_with "my src" => ((refine ⟨_, _, _, _, rfl, by rfl, by k_asm, by k_asm, by k_mem, by rw [sizeLine_eq, hb.length]; omega, ?_⟩); (rintro s2 ⟨h2, rfl⟩); refine comp_map (fun _ v y => y = v) rfl (by k_mem) (fun i1 v1 I1 oI1 C1 oC1 D1 m1 ys1 h1 tk1 E1 hv1 hC1 hx1 F1 N1 off1 => ?_) (fun ys1 hl1 hy1 => ?_); all_goals (first | (obtain ⟨l', t', hl', hv2', hz'⟩ := hb.at_ hv1; subst hv2') | (rw [all_same hl1 hy1]; clear hy1 hl1)))
  k_with "call ref" => (k_dflt (refine' maybe_c ?k1 ?k2 ?k3 ?k4 ?k5 ?k6 ?k7 ?k8 ?_; (case k1 => k_asm); (case k2 => k_asm); (case k3 => k_asm); (case k4 => k_asm); (case k5 => k_asm); (case k6 => first | exact rfl | assumption); (case k7 => ktr_room); (case k8 => ktr_units)); intro h9 tk9 F9 N9; (try dsimp only); (try k_fold))
  k_with "call ref" => (k_dflt (refine' validate_c ?k1 ?k2 ?k3 ?k4 ?k5 ?k6 ?k7 ?k8 ?i3 ?b ?z ?_ ?_ ?_ ?_; (case k1 => k_asm); (case k2 => k_asm); (case k3 => k_asm); (case k4 => k_asm); (case k5 => k_asm); (case k6 => first | exact rfl | assumption); (case k7 => ktr_room); (case k8 => ktr_units); (case i3 => k_mem); (case b => assumption); (case z => first | assumption | omega)); rotate_left; (intro v9 e9 t9 g9 h9 tk9 F9 U9 R9; (try dsimp only); (try k_fold)); rotate_left; (intro v9 e9 t9 g9 h9 tk9 F9 U9 R9; (try dsimp only); (try k_fold)); rotate_left; (intro v9 e9 t9 g9 h9 tk9 F9 U9 R9; (try dsimp only); (try k_fold)); rotate_left; intro v9 h9 tk9 F9 N9; (try dsimp only); (try k_fold))
  k_steps
  all_goals first
    | exact retNmU (ret (by assumption)) (by assumption) (by k_asm) (by k_asm) (by walk_at "my_sub")
    | exact endS (rL (by assumption)) (by assumption) (by assumption) (by assumption) (by walk_at "my_sub")
    | exact endS (rN (by assumption)) (by assumption) (by assumption) (by assumption) (by walk_at "my_sub")
    | exact endS (rE (by assumption)) (by assumption) (by assumption) (by assumption) (by walk_at "my_sub")

end

section
variable {w : World} {mean : ExcName → Option Value} {mg mb : Str → Option Value} {dp un : Nat} {gd : Option (List Code)} {cn : Str} {cs : Scope} {a : Addr} {ccd : Value} {cl : List (Str × Addr)} {outer : List Env} {A₀ : Around} {base h₀ : Heap} {L : Addr} {m : Str → Option Value} {news : Led} {s : Shared} {Q E : Value → Shared → Prop}
variable (B : Below A₀ base outer h₀) (F : Fr h₀ L s.heap m) (X : (Mine.hd.heap_39 w.params).In h₀) (N : News h₀ L s.heap news) (T : Top VW LO mean mg mb h₀) (hk : cs.kind = .function)
include B F X N T hk


theorem name_v (hd : dp + 8 < recursionLimit) (hu : un + 64 < cLine)
  {l : Addr} {vs : List Value} {n : Nat} {ls : List Lbl} (i3 : (l, listOf vs.toArray n) ∈ news) (hb : BytesAre vs ls) (hz : ls.length ≤ 16384) (hv : vcode ls = 0)
  (ret : ∀ (x dx t : Addr) (hs : Int) (tk : Tok) (us : List Value) (h' : Heap) (tk' : Nat), Fr h₀ L h' m → News h₀ L h' ((x, instObj 494 dx) :: (dx, lblD hs tk t 1) :: (t, tupO us 0) :: news) → BytesAre us (ls) → Q (.ref x) { s with heap := h', toks := tk' }) : wpAny (model PP w) (ktrTop dp un gd cn cs L a ccd cl outer) (call (.ref 494) [.ref l]) Q E s :=
  name_c B F X N T hk hd hu i3 hb hz (fun _ => ret) (fun h => by omega) (fun h => by omega) (fun h => by omega)
theorem namet_v (hd : dp + 8 < recursionLimit) (hu : un + 64 < cLine)
  {l : Addr} {vs : List Value} {n : Nat} {ls : List Lbl} (i3 : (l, tupO vs n) ∈ news) (hb : BytesAre vs ls) (hz : ls.length ≤ 16384) (hv : vcode ls = 0)
  (ret : ∀ (x dx t : Addr) (hs : Int) (tk : Tok) (us : List Value) (h' : Heap) (tk' : Nat), Fr h₀ L h' m → News h₀ L h' ((x, instObj 494 dx) :: (dx, lblD hs tk t 1) :: (t, tupO us 0) :: news) → BytesAre us (ls) → Q (.ref x) { s with heap := h', toks := tk' }) : wpAny (model PP w) (ktrTop dp un gd cn cs L a ccd cl outer) (call (.ref 494) [.ref l]) Q E s :=
  namet_c B F X N T hk hd hu i3 hb hz (fun _ => ret) (fun h => by omega) (fun h => by omega) (fun h => by omega)

end

section
variable {w : World} {mean : ExcName → Option Value} {mg mb : Str → Option Value} {dp un : Nat} {gd : Option (List Code)} {cn : Str} {cs : Scope} {a : Addr} {ccd : Value} {cl : List (Str × Addr)} {outer : List Env} {A₀ : Around} {base h₀ : Heap} {L : Addr} {m : Str → Option Value} {news : Led} {s : Shared} {Q E : Value → Shared → Prop}
variable (B : Below A₀ base outer h₀) (F : Fr h₀ L s.heap m) (X : (Mine.hd.heap_39 w.params).In h₀) (N : News h₀ L s.heap news) (T : Top VW LO mean mg mb h₀) (hk : cs.kind = .function)
include B F X N T hk


theorem is_subdomain_c (hd : dp + 6 < recursionLimit) (hu : un + 64 < cLine) {x dx t : Addr} {hs : Int} {tk : Tok} {vs : List Value} {n n' : Nat} {ls : List Lbl} (i1 : (x, instObj 494 dx) ∈ news) (i2 : (dx, lblD hs tk t n') ∈ news) (i3 : (t, tupO vs n) ∈ news) (hb : BytesAre vs ls) (hz : ls.length ≤ 16384)
  {y dy u : Addr} {hs' : Int} {tk' : Tok} {ws : List Value} {o o' : Nat} {ms : List Lbl} (j1 : (y, instObj 494 dy) ∈ news) (j2 : (dy, lblD hs' tk' u o') ∈ news) (j3 : (u, tupO ws o) ∈ news) (hb' : BytesAre ws ms) (hz' : ms.length ≤ 16384)
  (ret : ∀ (h' : Heap) (tk' : Nat), Fr h₀ L h' m → News h₀ L h' news → Q (.bool (subO ls ms)) { s with heap := h', toks := tk' }) :
  wpAny (model PP w) (ktrTop dp un gd cn cs L a ccd cl outer) (call (.ref 303) [.ref x, .ref y]) Q E s := by
  k_with_none
  refine wpAny_call ?_
  k_dflt ktr_enter
  k_with "call ref" => (k_dflt (refine' fullcompare_c ?k1 ?k2 ?k3 ?k4 ?k5 ?k6 ?k7 ?k8 ?i1 ?i2 ?i3 ?b ?z ?j1 ?j2 ?j3 ?bb ?zz ?_; (case k1 => k_asm); (case k2 => k_asm); (case k3 => k_asm); (case k4 => k_asm); (case k5 => k_asm); (case k6 => first | exact rfl | assumption); (case k7 => ktr_room); (case k8 => ktr_units); (case i1 => k_mem); (case i2 => k_mem); (case i3 => k_mem); (case b => assumption); (case z => first | assumption | omega); (case j1 => k_mem); (case j2 => k_mem); (case j3 => k_mem); (case bb => assumption); (case zz => first | assumption | omega)); intro r9 t91 t92 t93 h9 tk9 F9 N9 l9; (try k_lt l9); (try dsimp only); (try k_fold))
  k_steps
  all_goals refine retBs ret (by k_asm) (by k_asm) (by walk_at "my_sub") ?_
  all_goals first | exact subO_a (by assumption) | exact subO_b (by assumption) | exact subO_c (by assumption) (by assumption)

theorem eq_c (hd : dp + 6 < recursionLimit) (hu : un + 64 < cLine) {x dx t : Addr} {hs : Int} {tk : Tok} {vs : List Value} {n n' : Nat} {ls : List Lbl} (i1 : (x, instObj 494 dx) ∈ news) (i2 : (dx, lblD hs tk t n') ∈ news) (i3 : (t, tupO vs n) ∈ news) (hb : BytesAre vs ls) (hz : ls.length ≤ 16384)
  {y dy u : Addr} {hs' : Int} {tk' : Tok} {ws : List Value} {o o' : Nat} {ms : List Lbl} (j1 : (y, instObj 494 dy) ∈ news) (j2 : (dy, lblD hs' tk' u o') ∈ news) (j3 : (u, tupO ws o) ∈ news) (hb' : BytesAre ws ms) (hz' : ms.length ≤ 16384)
  (ret : ∀ (h' : Heap) (tk' : Nat), Fr h₀ L h' m → News h₀ L h' news → Q (.bool (decide (ordO ls ms = 0))) { s with heap := h', toks := tk' }) :
  wpAny (model PP w) (ktrTop dp un gd cn cs L a ccd cl outer) (call (.ref 324) [.ref x, .ref y]) Q E s := by
  k_with_none
  refine wpAny_call ?_
  k_dflt ktr_enter
  k_with "call ref" => (k_dflt (refine' fullcompare_c ?k1 ?k2 ?k3 ?k4 ?k5 ?k6 ?k7 ?k8 ?i1 ?i2 ?i3 ?b ?z ?j1 ?j2 ?j3 ?bb ?zz ?_; (case k1 => k_asm); (case k2 => k_asm); (case k3 => k_asm); (case k4 => k_asm); (case k5 => k_asm); (case k6 => first | exact rfl | assumption); (case k7 => ktr_room); (case k8 => ktr_units); (case i1 => k_mem); (case i2 => k_mem); (case i3 => k_mem); (case b => assumption); (case z => first | assumption | omega); (case j1 => k_mem); (case j2 => k_mem); (case j3 => k_mem); (case bb => assumption); (case zz => first | assumption | omega)); intro r9 t91 t92 t93 h9 tk9 F9 N9 l9; (try k_lt l9); (try dsimp only); (try k_fold))
  k_steps
  all_goals exact retBs ret (by k_asm) (by k_asm) (by walk_at "my_sub") rfl

theorem ne_c (hd : dp + 6 < recursionLimit) (hu : un + 64 < cLine) {x dx t : Addr} {hs : Int} {tk : Tok} {vs : List Value} {n n' : Nat} {ls : List Lbl} (i1 : (x, instObj 494 dx) ∈ news) (i2 : (dx, lblD hs tk t n') ∈ news) (i3 : (t, tupO vs n) ∈ news) (hb : BytesAre vs ls) (hz : ls.length ≤ 16384)
  {y dy u : Addr} {hs' : Int} {tk' : Tok} {ws : List Value} {o o' : Nat} {ms : List Lbl} (j1 : (y, instObj 494 dy) ∈ news) (j2 : (dy, lblD hs' tk' u o') ∈ news) (j3 : (u, tupO ws o) ∈ news) (hb' : BytesAre ws ms) (hz' : ms.length ≤ 16384)
  (ret : ∀ (h' : Heap) (tk' : Nat), Fr h₀ L h' m → News h₀ L h' news → Q (.bool (!decide (ordO ls ms = 0))) { s with heap := h', toks := tk' }) :
  wpAny (model PP w) (ktrTop dp un gd cn cs L a ccd cl outer) (call (.ref 331) [.ref x, .ref y]) Q E s := by
  k_with_none
  refine wpAny_call ?_
  k_dflt ktr_enter
  k_with "call ref" => (k_dflt (refine' fullcompare_c ?k1 ?k2 ?k3 ?k4 ?k5 ?k6 ?k7 ?k8 ?i1 ?i2 ?i3 ?b ?z ?j1 ?j2 ?j3 ?bb ?zz ?_; (case k1 => k_asm); (case k2 => k_asm); (case k3 => k_asm); (case k4 => k_asm); (case k5 => k_asm); (case k6 => first | exact rfl | assumption); (case k7 => ktr_room); (case k8 => ktr_units); (case i1 => k_mem); (case i2 => k_mem); (case i3 => k_mem); (case b => assumption); (case z => first | assumption | omega); (case j1 => k_mem); (case j2 => k_mem); (case j3 => k_mem); (case bb => assumption); (case zz => first | assumption | omega)); intro r9 t91 t92 t93 h9 tk9 F9 N9 l9; (try k_lt l9); (try dsimp only); (try k_fold))
  k_steps
  all_goals exact retBs ret (by k_asm) (by k_asm) (by walk_at "my_sub") rfl

end

section
variable {w : World} {mean : ExcName → Option Value} {mg mb : Str → Option Value} {dp un : Nat} {gd : Option (List Code)} {cn : Str} {cs : Scope} {a : Addr} {ccd : Value} {cl : List (Str × Addr)} {outer : List Env} {A₀ : Around} {base h₀ : Heap} {L : Addr} {m : Str → Option Value} {news : Led} {s : Shared} {Q E : Value → Shared → Prop}
variable (B : Below A₀ base outer h₀) (F : Fr h₀ L s.heap m) (X : (Mine.hd.heap_39 w.params).In h₀) (N : News h₀ L s.heap news) (T : Top VW LO mean mg mb h₀) (hk : cs.kind = .function)
include B F X N T hk


theorem getto_c (hd : dp + 2 < recursionLimit) (hu : un + 16 < cLine) {x dx t : Addr} {hs : Int} {tk : Tok} {vs : List Value} {n n' : Nat} {ls : List Lbl} (i1 : (x, instObj 494 dx) ∈ news) (i2 : (dx, lblD hs tk t n') ∈ news) (i3 : (t, tupO vs n) ∈ news) (hb : BytesAre vs ls) (hz : ls.length ≤ 16384)
  {sl : Addr} {k : Int} {kt : Tok} (j1 : (sl, sliceO .none (.int k kt) .none) ∈ news) (hk1 : k < 0) (hk2 : -k ≤ (ls.length : Int))
  (ret : ∀ (r : Addr) (us : List Value) (h' : Heap) (tk' : Nat), Fr h₀ L h' m → News h₀ L h' ((r, tupO us 0) :: news) → BytesAre us (ls.take (ls.length - (-k).toNat)) → Q (.ref r) { s with heap := h', toks := tk' }) :
  wpAny (model PP w) (ktrTop dp un gd cn cs L a ccd cl outer) (call (.ref 418) [.ref x, .ref sl]) Q E s := by
  k_with_none
  refine wpAny_call ?_
  k_dflt ktr_enter
  k_steps
  all_goals exact retTp ret (by assumption) (by k_asm) (by k_asm) (by walk_at "my_sub") (by rw [List.drop_zero, Nat.sub_zero])

theorem getfrom_c (hd : dp + 2 < recursionLimit) (hu : un + 16 < cLine) {x dx t : Addr} {hs : Int} {tk : Tok} {vs : List Value} {n n' : Nat} {ls : List Lbl} (i1 : (x, instObj 494 dx) ∈ news) (i2 : (dx, lblD hs tk t n') ∈ news) (i3 : (t, tupO vs n) ∈ news) (hb : BytesAre vs ls) (hz : ls.length ≤ 16384)
  {sl : Addr} {k : Int} {kt : Tok} (j1 : (sl, sliceO (.int k kt) .none .none) ∈ news) (hk1 : k < 0) (hk2 : -k < (ls.length : Int))
  (ret : ∀ (r : Addr) (us : List Value) (h' : Heap) (tk' : Nat), Fr h₀ L h' m → News h₀ L h' ((r, tupO us 0) :: news) → BytesAre us (ls.drop (ls.length - (-k).toNat)) → Q (.ref r) { s with heap := h', toks := tk' }) :
  wpAny (model PP w) (ktrTop dp un gd cn cs L a ccd cl outer) (call (.ref 418) [.ref x, .ref sl]) Q E s := by
  k_with_none
  refine wpAny_call ?_
  k_dflt ktr_enter
  k_steps
  all_goals exact retTp ret (by assumption) (by k_asm) (by k_asm) (by walk_at "my_sub") (List.take_of_length_le (by rw [List.length_drop]; exact Nat.le_refl _))

end

section
variable {w : World} {mean : ExcName → Option Value} {mg mb : Str → Option Value} {dp un : Nat} {gd : Option (List Code)} {cn : Str} {cs : Scope} {a : Addr} {ccd : Value} {cl : List (Str × Addr)} {outer : List Env} {A₀ : Around} {base h₀ : Heap} {L : Addr} {m : Str → Option Value} {news : Led} {s : Shared} {Q E : Value → Shared → Prop}
variable (B : Below A₀ base outer h₀) (F : Fr h₀ L s.heap m) (X : (Mine.hd.heap_39 w.params).In h₀) (N : News h₀ L s.heap news) (T : Top VW LO mean mg mb h₀) (hk : cs.kind = .function)
include B F X N T hk


theorem concat_c (hd : dp + 10 < recursionLimit) (hu : un + 96 < cLine) {x dx t : Addr} {hs : Int} {tk : Tok} {vs : List Value} {n n' : Nat} {ls : List Lbl} (i1 : (x, instObj 494 dx) ∈ news) (i2 : (dx, lblD hs tk t n') ∈ news) (i3 : (t, tupO vs n) ∈ news) (hb : BytesAre vs ls) (hz : ls.length ≤ 16384)
  {y dy u : Addr} {hs' : Int} {tk' : Tok} {ws : List Value} {o o' : Nat} {ms : List Lbl} (j1 : (y, instObj 494 dy) ∈ news) (j2 : (dy, lblD hs' tk' u o') ∈ news) (j3 : (u, tupO ws o) ∈ news) (hb' : BytesAre ws ms) (hz' : ms.length ≤ 16384) (hzz : ls.length + ms.length ≤ 16384)
  (rA : absO ls = true → 0 < ms.length → ∀ (e t : Addr) (g h' : Heap) (tk' : Nat), Fr h₀ L g m → g.UpToSlots h' → RaisedS base g (envX cn cs L a ccd cl :: outer) e (.ref 130) t [] news h' → E (.ref e) { s with heap := h', toks := tk' })
  (ret : vcode (ls ++ ms) = 0 → ∀ (x dx t : Addr) (hs : Int) (tk : Tok) (us : List Value) (h' : Heap) (tk' : Nat), Fr h₀ L h' m → News h₀ L h' ((x, instObj 494 dx) :: (dx, lblD hs tk t 1) :: (t, tupO us 0) :: news) → BytesAre us (ls ++ ms) → Q (.ref x) { s with heap := h', toks := tk' }) (rL : vcode ((ls ++ ms)) = 1 → ∀ (e t : Addr) (g h' : Heap) (tk' : Nat), Fr h₀ L g m → g.UpToSlots h' → RaisedS base g (envX cn cs L a ccd cl :: outer) e (.ref 118) t [] news h' → E (.ref e) { s with heap := h', toks := tk' }) 
  (rN : vcode (ls ++ ms) = 2 → (absO ls = true → ms.length = 0) → ∀ (e t : Addr) (g h' : Heap) (tk' : Nat), Fr h₀ L g m → g.UpToSlots h' → RaisedS base g (envX cn cs L a ccd cl :: outer) e (.ref 106) t [] news h' → E (.ref e) { s with heap := h', toks := tk' })
  (rE : vcode (ls ++ ms) = 3 → (absO ls = true → ms.length = 0) → ∀ (e t : Addr) (g h' : Heap) (tk' : Nat), Fr h₀ L g m → g.UpToSlots h' → RaisedS base g (envX cn cs L a ccd cl :: outer) e (.ref 94) t [] news h' → E (.ref e) { s with heap := h', toks := tk' }) :
  wpAny (model PP w) (ktrTop dp un gd cn cs L a ccd cl outer) (call (.ref 446) [.ref x, .ref y]) Q E s := by
  k_with_none
  refine wpAny_call ?_
  k_dflt ktr_enter
  k_with "call ref" => (k_dflt (refine' is_absolute_c ?k1 ?k2 ?k3 ?k4 ?k5 ?k6 ?k7 ?k8 ?i1 ?i2 ?i3 ?b ?z ?_; (case k1 => k_asm); (case k2 => k_asm); (case k3 => k_asm); (case k4 => k_asm); (case k5 => k_asm); (case k6 => first | exact rfl | assumption); (case k7 => ktr_room); (case k8 => ktr_units); (case i1 => k_mem); (case i2 => k_mem); (case i3 => k_mem); (case b => assumption); (case z => first | assumption | omega)); intro h9 tk9 F9 N9; (try dsimp only); (try k_fold))
  k_with "call ref" => (k_dflt (refine' len_c ?k1 ?k2 ?k3 ?k4 ?k5 ?k6 ?k7 ?k8 ?i1 ?i2 ?i3 ?b ?z ?_; (case k1 => k_asm); (case k2 => k_asm); (case k3 => k_asm); (case k4 => k_asm); (case k5 => k_asm); (case k6 => first | exact rfl | assumption); (case k7 => ktr_room); (case k8 => ktr_units); (case i1 => k_mem); (case i2 => k_mem); (case i3 => k_mem); (case b => assumption); (case z => first | assumption | omega)); intro t9 h9 tk9 F9 N9; (try dsimp only [PySem.W.CmpBack, PySem.W.LenBack, PySem.W.BoolBack, NonZ]); (try refine ⟨⟨by omega, by omega⟩, ?_⟩); (try dsimp only [NonZ]); (try k_fold))
  k_with "call ref" => (k_dflt (refine' name_c ?k1 ?k2 ?k3 ?k4 ?k5 ?k6 ?k7 ?k8 ?i3 ?b ?z ?_ ?_ ?_ ?_; (case k1 => k_asm); (case k2 => k_asm); (case k3 => k_asm); (case k4 => k_asm); (case k5 => k_asm); (case k6 => first | exact rfl | assumption); (case k7 => ktr_room); (case k8 => ktr_units); (case i3 => k_mem); (case b => walk_at "my_bytes"); (case z => walk_at "my_len")); rotate_left; (intro v9 e9 t9 g9 h9 tk9 F9 U9 R9; (try dsimp only); (try k_fold)); rotate_left; (intro v9 e9 t9 g9 h9 tk9 F9 U9 R9; (try dsimp only); (try k_fold)); rotate_left; (intro v9 e9 t9 g9 h9 tk9 F9 U9 R9; (try dsimp only); (try k_fold)); rotate_left; intro v9 x9 d9 u9 s9 k9 w9 h9 tk9 F9 N9 b9; (try dsimp only); (try k_fold))
  k_steps
  all_goals first
    | exact endS (rA (by assumption) (by omega)) (by assumption) (by assumption) (by assumption) (by walk_at "my_sub")
    | exact retNmU (ret (by assumption)) (by assumption) (by k_asm) (by k_asm) (by walk_at "my_sub")
    | exact endS (rL (by assumption)) (by assumption) (by assumption) (by assumption) (by walk_at "my_sub")
    | exact endS (rN (by assumption) (by walk_at "my_noabs")) (by assumption) (by assumption) (by assumption) (by walk_at "my_sub")
    | exact endS (rE (by assumption) (by walk_at "my_noabs")) (by assumption) (by assumption) (by assumption) (by walk_at "my_sub")
-- noabs

end

section
variable {w : World} {mean : ExcName → Option Value} {mg mb : Str → Option Value} {dp un : Nat} {gd : Option (List Code)} {cn : Str} {cs : Scope} {a : Addr} {ccd : Value} {cl : List (Str × Addr)} {outer : List Env} {A₀ : Around} {base h₀ : Heap} {L : Addr} {m : Str → Option Value} {news : Led} {s : Shared} {Q E : Value → Shared → Prop}
variable (B : Below A₀ base outer h₀) (F : Fr h₀ L s.heap m) (X : (Mine.hd.heap_39 w.params).In h₀) (N : News h₀ L s.heap news) (T : Top VW LO mean mg mb h₀) (hk : cs.kind = .function)
include B F X N T hk


theorem derelativize_c (hd : dp + 12 < recursionLimit) (hu : un + 128 < cLine) {x dx t : Addr} {hs : Int} {tk : Tok} {vs : List Value} {n n' : Nat} {ls : List Lbl} (i1 : (x, instObj 494 dx) ∈ news) (i2 : (dx, lblD hs tk t n') ∈ news) (i3 : (t, tupO vs n) ∈ news) (hb : BytesAre vs ls) (hz : ls.length ≤ 16384)
  {y dy u : Addr} {hs' : Int} {tk' : Tok} {ws : List Value} {o o' : Nat} {ms : List Lbl} (j1 : (y, instObj 494 dy) ∈ news) (j2 : (dy, lblD hs' tk' u o') ∈ news) (j3 : (u, tupO ws o) ∈ news) (hb' : BytesAre ws ms) (hz' : ms.length ≤ 16384) (hzz : ls.length + ms.length ≤ 16384) (hv : absO ls = false → vcode (ls ++ ms) = 0)
  (retS : absO ls = true → ∀ (h' : Heap) (tk' : Nat), Fr h₀ L h' m → News h₀ L h' news → Q (.ref x) { s with heap := h', toks := tk' })
  (ret : absO ls = false → ∀ (x dx t : Addr) (hs : Int) (tk : Tok) (us : List Value) (h' : Heap) (tk' : Nat), Fr h₀ L h' m → News h₀ L h' ((x, instObj 494 dx) :: (dx, lblD hs tk t 1) :: (t, tupO us 0) :: news) → BytesAre us (ls ++ ms) → Q (.ref x) { s with heap := h', toks := tk' }) :
  wpAny (model PP w) (ktrTop dp un gd cn cs L a ccd cl outer) (call (.ref 460) [.ref x, .ref y]) Q E s := by
  k_with_none
  refine wpAny_call ?_
  k_dflt ktr_enter
  k_with "call ref" => (k_dflt (refine' is_absolute_c ?k1 ?k2 ?k3 ?k4 ?k5 ?k6 ?k7 ?k8 ?i1 ?i2 ?i3 ?b ?z ?_; (case k1 => k_asm); (case k2 => k_asm); (case k3 => k_asm); (case k4 => k_asm); (case k5 => k_asm); (case k6 => first | exact rfl | assumption); (case k7 => ktr_room); (case k8 => ktr_units); (case i1 => k_mem); (case i2 => k_mem); (case i3 => k_mem); (case b => assumption); (case z => first | assumption | omega)); intro h9 tk9 F9 N9; (try dsimp only); (try k_fold))
  k_with "call ref" => ((have hv' := hv (by assumption)); k_dflt (refine' concat_c ?k1 ?k2 ?k3 ?k4 ?k5 ?k6 ?k7 ?k8 ?i1 ?i2 ?i3 ?b ?z ?j1 ?j2 ?j3 ?bb ?zz ?zzz ?_ ?_ ?_ ?_ ?_; (case k1 => k_asm); (case k2 => k_asm); (case k3 => k_asm); (case k4 => k_asm); (case k5 => k_asm); (case k6 => first | exact rfl | assumption); (case k7 => ktr_room); (case k8 => ktr_units); (case i1 => k_mem); (case i2 => k_mem); (case i3 => k_mem); (case b => assumption); (case z => walk_at "my_len"); (case j1 => k_mem); (case j2 => k_mem); (case j3 => k_mem); (case bb => assumption); (case zz => walk_at "my_len"); (case zzz => assumption)); (focus (intro q8 q9; exfalso; simp_all; done)); rotate_left; (focus (intro q8; omega)); (focus (intro q8; omega)); (focus (intro q8; omega)); intro v9 x9 d9 u9 s9 k9 w9 h9 tk9 F9 N9 b9; (try dsimp only); (try k_fold))
  k_steps
  all_goals first
    | exact retNs (retS (by assumption)) (by k_asm) (by k_asm) (by walk_at "my_sub")
    | exact retNmU (ret (by assumption)) (by assumption) (by k_asm) (by k_asm) (by walk_at "my_sub")

end

section
variable {w : World} {mean : ExcName → Option Value} {mg mb : Str → Option Value} {dp un : Nat} {gd : Option (List Code)} {cn : Str} {cs : Scope} {a : Addr} {ccd : Value} {cl : List (Str × Addr)} {outer : List Env} {A₀ : Around} {base h₀ : Heap} {L : Addr} {m : Str → Option Value} {news : Led} {s : Shared} {Q E : Value → Shared → Prop}
variable (B : Below A₀ base outer h₀) (F : Fr h₀ L s.heap m) (X : (Mine.hd.heap_39 w.params).In h₀) (N : News h₀ L s.heap news) (T : Top VW LO mean mg mb h₀) (hk : cs.kind = .function)
include B F X N T hk


theorem add_c (hd : dp + 12 < recursionLimit) (hu : un + 112 < cLine) {x dx t : Addr} {hs : Int} {tk : Tok} {vs : List Value} {n n' : Nat} {ls : List Lbl} (i1 : (x, instObj 494 dx) ∈ news) (i2 : (dx, lblD hs tk t n') ∈ news) (i3 : (t, tupO vs n) ∈ news) (hb : BytesAre vs ls) (hz : ls.length ≤ 16384)
  {y dy u : Addr} {hs' : Int} {tk' : Tok} {ws : List Value} {o o' : Nat} {ms : List Lbl} (j1 : (y, instObj 494 dy) ∈ news) (j2 : (dy, lblD hs' tk' u o') ∈ news) (j3 : (u, tupO ws o) ∈ news) (hb' : BytesAre ws ms) (hz' : ms.length ≤ 16384) (hv : vcode (ls ++ ms) = 0) (hzz : ls.length + ms.length ≤ 16384) (hA : absO ls = true → ms = [])
  (ret : ∀ (x dx t : Addr) (hs : Int) (tk : Tok) (us : List Value) (h' : Heap) (tk' : Nat), Fr h₀ L h' m → News h₀ L h' ((x, instObj 494 dx) :: (dx, lblD hs tk t 1) :: (t, tupO us 0) :: news) → BytesAre us (ls ++ ms) → Q (.ref x) { s with heap := h', toks := tk' }) :
  wpAny (model PP w) (ktrTop dp un gd cn cs L a ccd cl outer) (call (.ref 425) [.ref x, .ref y]) Q E s := by
  k_with_none
  refine wpAny_call ?_
  k_dflt ktr_enter
  k_with "call ref" => (k_dflt (refine' concat_c ?k1 ?k2 ?k3 ?k4 ?k5 ?k6 ?k7 ?k8 ?i1 ?i2 ?i3 ?b ?z ?j1 ?j2 ?j3 ?bb ?zz ?zzz ?_ ?_ ?_ ?_ ?_; (case k1 => k_asm); (case k2 => k_asm); (case k3 => k_asm); (case k4 => k_asm); (case k5 => k_asm); (case k6 => first | exact rfl | assumption); (case k7 => ktr_room); (case k8 => ktr_units); (case i1 => k_mem); (case i2 => k_mem); (case i3 => k_mem); (case b => assumption); (case z => walk_at "my_len"); (case j1 => k_mem); (case j2 => k_mem); (case j3 => k_mem); (case bb => assumption); (case zz => walk_at "my_len"); (case zzz => assumption)); (focus (intro q8 q9; exfalso; rw [hA q8] at q9; exact absurd q9 (by decide))); rotate_left; (focus (intro q8; omega)); (focus (intro q8; omega)); (focus (intro q8; omega)); intro v9 x9 d9 u9 s9 k9 w9 h9 tk9 F9 N9 b9; (try dsimp only); (try k_fold))
  k_steps
  all_goals exact retNmU ret (by assumption) (by k_asm) (by k_asm) (by walk_at "my_sub")

end

section
variable {w : World} {mean : ExcName → Option Value} {mg mb : Str → Option Value} {dp un : Nat} {gd : Option (List Code)} {cn : Str} {cs : Scope} {a : Addr} {ccd : Value} {cl : List (Str × Addr)} {outer : List Env} {A₀ : Around} {base h₀ : Heap} {L : Addr} {m : Str → Option Value} {news : Led} {s : Shared} {Q E : Value → Shared → Prop}
variable (B : Below A₀ base outer h₀) (F : Fr h₀ L s.heap m) (X : (Mine.hd.heap_39 w.params).In h₀) (N : News h₀ L s.heap news) (T : Top VW LO mean mg mb h₀) (hk : cs.kind = .function)
include B F X N T hk


theorem relativize_c (hd : dp + 12 < recursionLimit) (hu : un + 128 < cLine) {x dx t : Addr} {hs : Int} {tk : Tok} {vs : List Value} {n n' : Nat} {ls : List Lbl} (i1 : (x, instObj 494 dx) ∈ news) (i2 : (dx, lblD hs tk t n') ∈ news) (i3 : (t, tupO vs n) ∈ news) (hb : BytesAre vs ls) (hz : ls.length ≤ 16384)
  {y dy u : Addr} {hs' : Int} {tk' : Tok} {ws : List Value} {o o' : Nat} {ms : List Lbl} (j1 : (y, instObj 494 dy) ∈ news) (j2 : (dy, lblD hs' tk' u o') ∈ news) (j3 : (u, tupO ws o) ∈ news) (hb' : BytesAre ws ms) (hz' : ms.length ≤ 16384) (hm : 0 < ms.length) (hv : vcode ls = 0)
  (retS : undO ls ms = false → ∀ (h' : Heap) (tk' : Nat), Fr h₀ L h' m → News h₀ L h' news → Q (.ref x) { s with heap := h', toks := tk' })
  (ret : undO ls ms = true → ∀ (x dx t : Addr) (hs : Int) (tk : Tok) (us : List Value) (h' : Heap) (tk' : Nat), Fr h₀ L h' m → News h₀ L h' ((x, instObj 494 dx) :: (dx, lblD hs tk t 1) :: (t, tupO us 0) :: news) → BytesAre us (ls.take (ls.length - ms.length)) → Q (.ref x) { s with heap := h', toks := tk' }) :
  wpAny (model PP w) (ktrTop dp un gd cn cs L a ccd cl outer) (call (.ref 453) [.ref x, .ref y]) Q E s := by
  rw [← subO_und] at ret retS
  k_with_none
  refine wpAny_call ?_
  k_dflt ktr_enter
  k_with "call ref" => (k_dflt (refine' len_c ?k1 ?k2 ?k3 ?k4 ?k5 ?k6 ?k7 ?k8 ?i1 ?i2 ?i3 ?b ?z ?_; (case k1 => k_asm); (case k2 => k_asm); (case k3 => k_asm); (case k4 => k_asm); (case k5 => k_asm); (case k6 => first | exact rfl | assumption); (case k7 => ktr_room); (case k8 => ktr_units); (case i1 => k_mem); (case i2 => k_mem); (case i3 => k_mem); (case b => assumption); (case z => first | assumption | omega)); intro t9 h9 tk9 F9 N9; (try dsimp only [PySem.W.CmpBack, PySem.W.LenBack, PySem.W.BoolBack, NonZ]); (try refine ⟨⟨by omega, by omega⟩, ?_⟩); (try dsimp only [NonZ]); (try k_fold))
  k_with "call ref" => (k_dflt (refine' is_subdomain_c ?k1 ?k2 ?k3 ?k4 ?k5 ?k6 ?k7 ?k8 ?i1 ?i2 ?i3 ?b ?z ?j1 ?j2 ?j3 ?bb ?zz ?_; (case k1 => k_asm); (case k2 => k_asm); (case k3 => k_asm); (case k4 => k_asm); (case k5 => k_asm); (case k6 => first | exact rfl | assumption); (case k7 => ktr_room); (case k8 => ktr_units); (case i1 => k_mem); (case i2 => k_mem); (case i3 => k_mem); (case b => assumption); (case z => walk_at "my_len"); (case j1 => k_mem); (case j2 => k_mem); (case j3 => k_mem); (case bb => assumption); (case zz => walk_at "my_len")); intro h9 tk9 F9 N9; (try dsimp only [PySem.W.CmpBack, PySem.W.LenBack, PySem.W.BoolBack]); (try k_fold))
  k_with "call ref" => ((have hle' := sub_len (by assumption)); k_dflt (refine' getto_c ?k1 ?k2 ?k3 ?k4 ?k5 ?k6 ?k7 ?k8 ?i1 ?i2 ?i3 ?b ?z ?j1 ?y1 ?y2 ?_; (case k1 => k_asm); (case k2 => k_asm); (case k3 => k_asm); (case k4 => k_asm); (case k5 => k_asm); (case k6 => first | exact rfl | assumption); (case k7 => ktr_room); (case k8 => ktr_units); (case i1 => k_mem); (case i2 => k_mem); (case i3 => k_mem); (case b => assumption); (case z => first | assumption | omega); (case j1 => k_mem); (case y1 => omega); (case y2 => omega)); intro r9 us9 h9 tk9 F9 N9 b9; (rw [Int.neg_neg, Int.toNat_natCast] at b9); (try dsimp only); (try k_fold))
  k_with "call ref" => (k_dflt (refine' namet_v ?k1 ?k2 ?k3 ?k4 ?k5 ?k6 ?k7 ?k8 ?i3 ?b ?z ?v ?_; (case k1 => k_asm); (case k2 => k_asm); (case k3 => k_asm); (case k4 => k_asm); (case k5 => k_asm); (case k6 => first | exact rfl | assumption); (case k7 => ktr_room); (case k8 => ktr_units); (case i3 => k_mem); (case b => walk_at "my_bytes"); (case z => walk_at "my_len"); (case v => walk_at "my_v")); intro x9 d9 u9 s9 k9 w9 h9 tk9 F9 N9 b9; (try dsimp only); (try k_fold))
  k_steps
  all_goals first
    | exact retNs (retS (by assumption)) (by k_asm) (by k_asm) (by walk_at "my_sub")
    | exact retNmU (ret (by assumption)) (by assumption) (by k_asm) (by k_asm) (by walk_at "my_sub")

theorem sub_c (hd : dp + 14 < recursionLimit) (hu : un + 144 < cLine) {x dx t : Addr} {hs : Int} {tk : Tok} {vs : List Value} {n n' : Nat} {ls : List Lbl} (i1 : (x, instObj 494 dx) ∈ news) (i2 : (dx, lblD hs tk t n') ∈ news) (i3 : (t, tupO vs n) ∈ news) (hb : BytesAre vs ls) (hz : ls.length ≤ 16384)
  {y dy u : Addr} {hs' : Int} {tk' : Tok} {ws : List Value} {o o' : Nat} {ms : List Lbl} (j1 : (y, instObj 494 dy) ∈ news) (j2 : (dy, lblD hs' tk' u o') ∈ news) (j3 : (u, tupO ws o) ∈ news) (hb' : BytesAre ws ms) (hz' : ms.length ≤ 16384) (hm : 0 < ms.length) (hv : vcode ls = 0)
  (retS : undO ls ms = false → ∀ (h' : Heap) (tk' : Nat), Fr h₀ L h' m → News h₀ L h' news → Q (.ref x) { s with heap := h', toks := tk' })
  (ret : undO ls ms = true → ∀ (x dx t : Addr) (hs : Int) (tk : Tok) (us : List Value) (h' : Heap) (tk' : Nat), Fr h₀ L h' m → News h₀ L h' ((x, instObj 494 dx) :: (dx, lblD hs tk t 1) :: (t, tupO us 0) :: news) → BytesAre us (ls.take (ls.length - ms.length)) → Q (.ref x) { s with heap := h', toks := tk' }) :
  wpAny (model PP w) (ktrTop dp un gd cn cs L a ccd cl outer) (call (.ref 432) [.ref x, .ref y]) Q E s := by
  k_with_none
  refine wpAny_call ?_
  k_dflt ktr_enter
  k_with "call ref" => (k_dflt (refine' relativize_c ?k1 ?k2 ?k3 ?k4 ?k5 ?k6 ?k7 ?k8 ?i1 ?i2 ?i3 ?b ?z ?j1 ?j2 ?j3 ?bb ?zz ?m ?v ?_ ?_; (case k1 => k_asm); (case k2 => k_asm); (case k3 => k_asm); (case k4 => k_asm); (case k5 => k_asm); (case k6 => first | exact rfl | assumption); (case k7 => ktr_room); (case k8 => ktr_units); (case i1 => k_mem); (case i2 => k_mem); (case i3 => k_mem); (case b => assumption); (case z => walk_at "my_len"); (case j1 => k_mem); (case j2 => k_mem); (case j3 => k_mem); (case bb => assumption); (case zz => walk_at "my_len"); (case m => assumption); (case v => assumption)); (intro v9 h9 tk9 F9 N9; (try dsimp only); (try k_fold)); rotate_left; (intro v9 x9 d9 u9 s9 k9 w9 h9 tk9 F9 N9 b9; (try dsimp only); (try k_fold)); rotate_left)
  k_steps
  all_goals first
    | exact retNs (retS (by assumption)) (by k_asm) (by k_asm) (by walk_at "my_sub")
    | exact retNmU (ret (by assumption)) (by assumption) (by k_asm) (by k_asm) (by walk_at "my_sub")

end

section
variable {w : World} {mean : ExcName → Option Value} {mg mb : Str → Option Value} {dp un : Nat} {gd : Option (List Code)} {cn : Str} {cs : Scope} {a : Addr} {ccd : Value} {cl : List (Str × Addr)} {outer : List Env} {A₀ : Around} {base h₀ : Heap} {L : Addr} {m : Str → Option Value} {news : Led} {s : Shared} {Q E : Value → Shared → Prop}
variable (B : Below A₀ base outer h₀) (F : Fr h₀ L s.heap m) (X : (Mine.hd.heap_39 w.params).In h₀) (N : News h₀ L s.heap news) (T : Top VW LO mean mg mb h₀) (hk : cs.kind = .function)
include B F X N T hk


theorem split_c (hd : dp + 12 < recursionLimit) (hu : un + 128 < cLine) {x dx t : Addr} {hs : Int} {tk : Tok} {vs : List Value} {n n' : Nat} {ls : List Lbl} (i1 : (x, instObj 494 dx) ∈ news) (i2 : (dx, lblD hs tk t n') ∈ news) (i3 : (t, tupO vs n) ∈ news) (hb : BytesAre vs ls) (hz : ls.length ≤ 16384) {d : Int} {dt : Tok} (hv : vcode ls = 0)
  (rZero : d = 0 → ∀ (r : Addr) (h' : Heap) (tk' : Nat), Fr h₀ L h' m → News h₀ L h' ((r, tupO [.ref x, .ref 524] 0) :: news) → Q (.ref r) { s with heap := h', toks := tk' })
  (rAll : d ≠ 0 → d = (ls.length : Int) → ∀ (r : Addr) (h' : Heap) (tk' : Nat), Fr h₀ L h' m → News h₀ L h' ((r, tupO [.ref 524, .ref x] 0) :: news) → Q (.ref r) { s with heap := h', toks := tk' })
  (rBad : (d < 0 ∨ (ls.length : Int) < d) → ∀ (xs : List Value) (e t : Addr) (g h' : Heap) (tk' : Nat), Fr h₀ L g m → g.UpToSlots h' → RaisedS base g (envX cn cs L a ccd cl :: outer) e (.type "ValueError") t xs news h' → E (.ref e) { s with heap := h', toks := tk' })
  (rMid : 0 < d → d < (ls.length : Int) → ∀ (r x1 d1 t1 : Addr) (s1 : Int) (k1 : Tok) (u1 : List Value) (x2 d2 t2 : Addr) (s2 : Int) (k2 : Tok) (u2 : List Value) (h' : Heap) (tk' : Nat), Fr h₀ L h' m →
    News h₀ L h' ((r, tupO [.ref x1, .ref x2] 0) :: (x2, instObj 494 d2) :: (d2, lblD s2 k2 t2 1) :: (t2, tupO u2 0) :: (x1, instObj 494 d1) :: (d1, lblD s1 k1 t1 1) :: (t1, tupO u1 0) :: news) → BytesAre u1 (ls.take (ls.length - d.toNat)) → BytesAre u2 (ls.drop (ls.length - d.toNat)) → Q (.ref r) { s with heap := h', toks := tk' }) :
  wpAny (model PP w) (ktrTop dp un gd cn cs L a ccd cl outer) (call (.ref 439) [.ref x, .int d dt]) Q E s := by
  k_with_none
  refine wpAny_call ?_
  k_dflt ktr_enter
  k_with "call ref" => (k_dflt (refine' getto_c ?k1 ?k2 ?k3 ?k4 ?k5 ?k6 ?k7 ?k8 ?i1 ?i2 ?i3 ?b ?z ?j1 ?y1 ?y2 ?_; (case k1 => k_asm); (case k2 => k_asm); (case k3 => k_asm); (case k4 => k_asm); (case k5 => k_asm); (case k6 => first | exact rfl | assumption); (case k7 => ktr_room); (case k8 => ktr_units); (case i1 => k_mem); (case i2 => k_mem); (case i3 => k_mem); (case b => assumption); (case z => first | assumption | omega); (case j1 => k_mem); (case y1 => omega); (case y2 => omega)); intro r9 us9 h9 tk9 F9 N9 b9; (rw [Int.neg_neg] at b9); (try dsimp only); (try k_fold))
  k_with "call ref" => (k_dflt (refine' getfrom_c ?k1 ?k2 ?k3 ?k4 ?k5 ?k6 ?k7 ?k8 ?i1 ?i2 ?i3 ?b ?z ?j1 ?y1 ?y2 ?_; (case k1 => k_asm); (case k2 => k_asm); (case k3 => k_asm); (case k4 => k_asm); (case k5 => k_asm); (case k6 => first | exact rfl | assumption); (case k7 => ktr_room); (case k8 => ktr_units); (case i1 => k_mem); (case i2 => k_mem); (case i3 => k_mem); (case b => assumption); (case z => first | assumption | omega); (case j1 => k_mem); (case y1 => omega); (case y2 => omega)); intro r9 us9 h9 tk9 F9 N9 b9; (rw [Int.neg_neg] at b9); (try dsimp only); (try k_fold))
  k_with "call ref" => (k_dflt (refine' namet_v ?k1 ?k2 ?k3 ?k4 ?k5 ?k6 ?k7 ?k8 ?i3 ?b ?z ?v ?_; (case k1 => k_asm); (case k2 => k_asm); (case k3 => k_asm); (case k4 => k_asm); (case k5 => k_asm); (case k6 => first | exact rfl | assumption); (case k7 => ktr_room); (case k8 => ktr_units); (case i3 => k_mem); (case b => walk_at "my_bytes"); (case z => walk_at "my_len"); (case v => walk_at "my_v")); intro x9 d9 u9 s9 k9 w9 h9 tk9 F9 N9 b9; (try dsimp only); (try k_fold))
  k_steps
  all_goals first
    | exact retT1 (rZero (by assumption)) (by k_asm) (by k_asm) (by walk_at "my_sub")
    | exact retT1 (rAll (by assumption) (by assumption)) (by k_asm) (by k_asm) (by walk_at "my_sub")
    | exact endS (rBad (.inl (by assumption)) _) (by assumption) (by assumption) (by assumption) (by walk_at "my_sub")
    | exact endS (rBad (.inr (by assumption)) _) (by assumption) (by assumption) (by assumption) (by walk_at "my_sub")
    | exact rMid (by omega) (by omega) _ _ _ _ _ _ _ _ _ _ _ _ _ _ _ (by k_asm) (newsSub (by k_asm) (by walk_at "my_sub")) (by assumption) (by assumption)

end

section
variable {w : World} {mean : ExcName → Option Value} {mg mb : Str → Option Value} {dp un : Nat} {gd : Option (List Code)} {cn : Str} {cs : Scope} {a : Addr} {ccd : Value} {cl : List (Str × Addr)} {outer : List Env} {A₀ : Around} {base h₀ : Heap} {L : Addr} {m : Str → Option Value} {news : Led} {s : Shared} {Q E : Value → Shared → Prop}
variable (B : Below A₀ base outer h₀) (F : Fr h₀ L s.heap m) (X : (Mine.hd.heap_39 w.params).In h₀) (N : News h₀ L s.heap news) (T : Top VW LO mean mg mb h₀) (hk : cs.kind = .function)
include B F X N T hk


theorem chooseN_c (hd : dp + 2 < recursionLimit) (hu : un + 16 < cLine) {x dx t : Addr} {hs : Int} {tk : Tok} {vs : List Value} {n n' : Nat} {ls : List Lbl} (i1 : (x, instObj 494 dx) ∈ news) (i2 : (dx, lblD hs tk t n') ∈ news) (i3 : (t, tupO vs n) ∈ news) (hb : BytesAre vs ls) (hz : ls.length ≤ 16384)
  (ret : ∀ (h' : Heap) (tk' : Nat), Fr h₀ L h' m → News h₀ L h' news → Q (.ref x) { s with heap := h', toks := tk' }) :
  wpAny (model PP w) (ktrTop dp un gd cn cs L a ccd cl outer) (call (.ref 468) [.ref x, .none]) Q E s := by
  k_with_none
  refine wpAny_call ?_
  k_dflt (walk_at "my_enter")
  k_steps
  all_goals exact retNs ret (by k_asm) (by k_asm) (by walk_at "my_sub")

theorem chooseE_c (hd : dp + 4 < recursionLimit) (hu : un + 32 < cLine) {x dx t : Addr} {hs : Int} {tk : Tok} {vs : List Value} {n n' : Nat} {ls : List Lbl} (i1 : (x, instObj 494 dx) ∈ news) (i2 : (dx, lblD hs tk t n') ∈ news) (i3 : (t, tupO vs n) ∈ news) (hb : BytesAre vs ls) (hz : ls.length ≤ 16384) {y dy u : Addr} {hs' : Int} {tk' : Tok} {ws : List Value} {o o' : Nat} {ms : List Lbl} (j1 : (y, instObj 494 dy) ∈ news) (j2 : (dy, lblD hs' tk' u o') ∈ news) (j3 : (u, tupO ws o) ∈ news) (hb' : BytesAre ws ms) (hz' : ms.length ≤ 16384) (hm : ms = [])
  (ret : ∀ (h' : Heap) (tk' : Nat), Fr h₀ L h' m → News h₀ L h' news → Q (.ref x) { s with heap := h', toks := tk' }) :
  wpAny (model PP w) (ktrTop dp un gd cn cs L a ccd cl outer) (call (.ref 468) [.ref x, .ref y, .bool true]) Q E s := by
  have hm0 : (ms.length : Int) = 0 := by rw [hm]; rfl
  k_with_none
  refine wpAny_call ?_
  k_dflt (walk_at "my_enter")
  k_with "call ref" => (k_dflt (refine' len_c ?k1 ?k2 ?k3 ?k4 ?k5 ?k6 ?k7 ?k8 ?i1 ?i2 ?i3 ?b ?z ?_; (case k1 => k_asm); (case k2 => k_asm); (case k3 => k_asm); (case k4 => k_asm); (case k5 => k_asm); (case k6 => first | exact rfl | assumption); (case k7 => ktr_room); (case k8 => ktr_units); (case i1 => k_mem); (case i2 => k_mem); (case i3 => k_mem); (case b => assumption); (case z => first | assumption | omega)); intro t9 h9 tk9 F9 N9; (try dsimp only [PySem.W.CmpBack, PySem.W.LenBack, PySem.W.BoolBack, NonZ]); (try refine ⟨⟨by omega, by omega⟩, ?_⟩); (try dsimp only [NonZ]); (try k_fold))
  k_steps
  all_goals first
    | (exfalso; simp_all; done)
    | exact retNs ret (by k_asm) (by k_asm) (by walk_at "my_sub")

theorem choose1_c (hd : dp + 14 < recursionLimit) (hu : un + 144 < cLine) {x dx t : Addr} {hs : Int} {tk : Tok} {vs : List Value} {n n' : Nat} {ls : List Lbl} (i1 : (x, instObj 494 dx) ∈ news) (i2 : (dx, lblD hs tk t n') ∈ news) (i3 : (t, tupO vs n) ∈ news) (hb : BytesAre vs ls) (hz : ls.length ≤ 16384)
  {y dy u : Addr} {hs' : Int} {tk' : Tok} {ws : List Value} {o o' : Nat} {ms : List Lbl} (j1 : (y, instObj 494 dy) ∈ news) (j2 : (dy, lblD hs' tk' u o') ∈ news) (j3 : (u, tupO ws o) ∈ news) (hb' : BytesAre ws ms) (hz' : ms.length ≤ 16384) (hm : 0 < ms.length) (hv : vcode ls = 0)
  (retS : undO ls ms = false → ∀ (h' : Heap) (tk' : Nat), Fr h₀ L h' m → News h₀ L h' news → Q (.ref x) { s with heap := h', toks := tk' })
  (ret : undO ls ms = true → ∀ (x dx t : Addr) (hs : Int) (tk : Tok) (us : List Value) (h' : Heap) (tk' : Nat), Fr h₀ L h' m → News h₀ L h' ((x, instObj 494 dx) :: (dx, lblD hs tk t 1) :: (t, tupO us 0) :: news) → BytesAre us (ls.take (ls.length - ms.length)) → Q (.ref x) { s with heap := h', toks := tk' }) :
  wpAny (model PP w) (ktrTop dp un gd cn cs L a ccd cl outer) (call (.ref 468) [.ref x, .ref y, .bool true]) Q E s := by
  k_with_none
  refine wpAny_call ?_
  k_dflt (walk_at "my_enter")
  k_with "call ref" => (k_dflt (refine' len_c ?k1 ?k2 ?k3 ?k4 ?k5 ?k6 ?k7 ?k8 ?i1 ?i2 ?i3 ?b ?z ?_; (case k1 => k_asm); (case k2 => k_asm); (case k3 => k_asm); (case k4 => k_asm); (case k5 => k_asm); (case k6 => first | exact rfl | assumption); (case k7 => ktr_room); (case k8 => ktr_units); (case i1 => k_mem); (case i2 => k_mem); (case i3 => k_mem); (case b => assumption); (case z => first | assumption | omega)); intro t9 h9 tk9 F9 N9; (try dsimp only [PySem.W.CmpBack, PySem.W.LenBack, PySem.W.BoolBack, NonZ]); (try refine ⟨⟨by omega, by omega⟩, ?_⟩); (try dsimp only [NonZ]); (try k_fold))
  k_with "call ref" => (k_dflt (refine' relativize_c ?k1 ?k2 ?k3 ?k4 ?k5 ?k6 ?k7 ?k8 ?i1 ?i2 ?i3 ?b ?z ?j1 ?j2 ?j3 ?bb ?zz ?m ?v ?_ ?_; (case k1 => k_asm); (case k2 => k_asm); (case k3 => k_asm); (case k4 => k_asm); (case k5 => k_asm); (case k6 => first | exact rfl | assumption); (case k7 => ktr_room); (case k8 => ktr_units); (case i1 => k_mem); (case i2 => k_mem); (case i3 => k_mem); (case b => assumption); (case z => walk_at "my_len"); (case j1 => k_mem); (case j2 => k_mem); (case j3 => k_mem); (case bb => assumption); (case zz => walk_at "my_len"); (case m => assumption); (case v => assumption)); (intro v9 h9 tk9 F9 N9; (try dsimp only); (try k_fold)); rotate_left; (intro v9 x9 d9 u9 s9 k9 w9 h9 tk9 F9 N9 b9; (try dsimp only); (try k_fold)); rotate_left)
  k_steps
  all_goals first
    | exact retNs (retS (by assumption)) (by k_asm) (by k_asm) (by walk_at "my_sub")
    | exact retNmU (ret (by assumption)) (by assumption) (by k_asm) (by k_asm) (by walk_at "my_sub")
    | (exfalso; simp_all; done)
    | (exfalso; omega)

theorem choose0_c (hd : dp + 14 < recursionLimit) (hu : un + 144 < cLine) {x dx t : Addr} {hs : Int} {tk : Tok} {vs : List Value} {n n' : Nat} {ls : List Lbl} (i1 : (x, instObj 494 dx) ∈ news) (i2 : (dx, lblD hs tk t n') ∈ news) (i3 : (t, tupO vs n) ∈ news) (hb : BytesAre vs ls) (hz : ls.length ≤ 16384)
  {y dy u : Addr} {hs' : Int} {tk' : Tok} {ws : List Value} {o o' : Nat} {ms : List Lbl} (j1 : (y, instObj 494 dy) ∈ news) (j2 : (dy, lblD hs' tk' u o') ∈ news) (j3 : (u, tupO ws o) ∈ news) (hb' : BytesAre ws ms) (hz' : ms.length ≤ 16384) (hm : 0 < ms.length) (hzz : ls.length + ms.length ≤ 16384) (hv : absO ls = false → vcode (ls ++ ms) = 0)
  (retS : absO ls = true → ∀ (h' : Heap) (tk' : Nat), Fr h₀ L h' m → News h₀ L h' news → Q (.ref x) { s with heap := h', toks := tk' })
  (ret : absO ls = false → ∀ (x dx t : Addr) (hs : Int) (tk : Tok) (us : List Value) (h' : Heap) (tk' : Nat), Fr h₀ L h' m → News h₀ L h' ((x, instObj 494 dx) :: (dx, lblD hs tk t 1) :: (t, tupO us 0) :: news) → BytesAre us (ls ++ ms) → Q (.ref x) { s with heap := h', toks := tk' }) :
  wpAny (model PP w) (ktrTop dp un gd cn cs L a ccd cl outer) (call (.ref 468) [.ref x, .ref y, .bool false]) Q E s := by
  k_with_none
  refine wpAny_call ?_
  k_dflt (walk_at "my_enter")
  k_with "call ref" => (k_dflt (refine' len_c ?k1 ?k2 ?k3 ?k4 ?k5 ?k6 ?k7 ?k8 ?i1 ?i2 ?i3 ?b ?z ?_; (case k1 => k_asm); (case k2 => k_asm); (case k3 => k_asm); (case k4 => k_asm); (case k5 => k_asm); (case k6 => first | exact rfl | assumption); (case k7 => ktr_room); (case k8 => ktr_units); (case i1 => k_mem); (case i2 => k_mem); (case i3 => k_mem); (case b => assumption); (case z => first | assumption | omega)); intro t9 h9 tk9 F9 N9; (try dsimp only [PySem.W.CmpBack, PySem.W.LenBack, PySem.W.BoolBack, NonZ]); (try refine ⟨⟨by omega, by omega⟩, ?_⟩); (try dsimp only [NonZ]); (try k_fold))
  k_with "call ref" => (k_dflt (refine' derelativize_c ?k1 ?k2 ?k3 ?k4 ?k5 ?k6 ?k7 ?k8 ?i1 ?i2 ?i3 ?b ?z ?j1 ?j2 ?j3 ?bb ?zz ?zzz ?v ?_ ?_; (case k1 => k_asm); (case k2 => k_asm); (case k3 => k_asm); (case k4 => k_asm); (case k5 => k_asm); (case k6 => first | exact rfl | assumption); (case k7 => ktr_room); (case k8 => ktr_units); (case i1 => k_mem); (case i2 => k_mem); (case i3 => k_mem); (case b => assumption); (case z => walk_at "my_len"); (case j1 => k_mem); (case j2 => k_mem); (case j3 => k_mem); (case bb => assumption); (case zz => walk_at "my_len"); (case zzz => walk_at "my_len"); (case v => assumption)); (intro v9 h9 tk9 F9 N9; (try dsimp only); (try k_fold)); rotate_left; (intro v9 x9 d9 u9 s9 k9 w9 h9 tk9 F9 N9 b9; (try dsimp only); (try k_fold)); rotate_left)
  k_steps
  all_goals first
    | exact retNs (retS (by assumption)) (by k_asm) (by k_asm) (by walk_at "my_sub")
    | exact retNmU (ret (by assumption)) (by assumption) (by k_asm) (by k_asm) (by walk_at "my_sub")
    | (exfalso; simp_all; done)
    | (exfalso; omega)

end

section
variable {w : World} {mean : ExcName → Option Value} {mg mb : Str → Option Value} {dp un : Nat} {gd : Option (List Code)} {cn : Str} {cs : Scope} {a : Addr} {ccd : Value} {cl : List (Str × Addr)} {outer : List Env} {A₀ : Around} {base h₀ : Heap} {L : Addr} {m : Str → Option Value} {news : Led} {s : Shared} {Q E : Value → Shared → Prop}
variable (B : Below A₀ base outer h₀) (F : Fr h₀ L s.heap m) (X : (Mine.hd.heap_39 w.params).In h₀) (N : News h₀ L s.heap news) (T : Top VW LO mean mg mb h₀) (hk : cs.kind = .function)
include B F X N T hk


theorem absroot_c (hd : dp + 2 < recursionLimit) (hu : un + 16 < cLine)
  (ret : ∀ (h' : Heap) (tk' : Nat), Fr h₀ L h' m → News h₀ L h' news → Q (.bool true) { s with heap := h', toks := tk' }) :
  wpAny (model PP w) (ktrTop dp un gd cn cs L a ccd cl outer) (call (.ref 275) [.ref 520]) Q E s := by
  k_with_none
  refine wpAny_call ?_
  k_dflt ktr_enter
  k_steps
  all_goals exact retBs ret (by k_asm) (by k_asm) (by walk_at "my_sub") (by decide)

theorem absempty_c (hd : dp + 2 < recursionLimit) (hu : un + 16 < cLine)
  (ret : ∀ (h' : Heap) (tk' : Nat), Fr h₀ L h' m → News h₀ L h' news → Q (.bool false) { s with heap := h', toks := tk' }) :
  wpAny (model PP w) (ktrTop dp un gd cn cs L a ccd cl outer) (call (.ref 275) [.ref 524]) Q E s := by
  k_with_none
  refine wpAny_call ?_
  k_dflt ktr_enter
  k_steps
  all_goals exact retBs ret (by k_asm) (by k_asm) (by walk_at "my_sub") (by decide)

end

section
variable {w : World} {mean : ExcName → Option Value} {mg mb : Str → Option Value} {dp un : Nat} {gd : Option (List Code)} {cn : Str} {cs : Scope} {a : Addr} {ccd : Value} {cl : List (Str × Addr)} {outer : List Env} {A₀ : Around} {base h₀ : Heap} {L : Addr} {m : Str → Option Value} {news : Led} {s : Shared} {Q E : Value → Shared → Prop}
variable (B : Below A₀ base outer h₀) (F : Fr h₀ L s.heap m) (X : (Mine.hd.heap_39 w.params).In h₀) (N : News h₀ L s.heap news) (T : Top VW LO mean mg mb h₀) (hk : cs.kind = .function)
include B F X N T hk


section
local macro_rules | `(tactic| walk_at "call builtin:len") => `(tactic| (k_here; (with_reducible show wpAny _ _ (call (Value.builtin _) [Value.ref _]) _ _ _); k_dflt (first | (refine' len_tupE (k := 0) ?N ?i ?b ?z ?e ?_; (case N => k_asm); (case i => k_mem); (case e => assumption); (case b => assumption); (case z => assumption); k_whole) | (refine' len_tupE (k := 1) ?N ?i ?b ?z ?e ?_; (case N => k_asm); (case i => k_mem); (case e => assumption); (case b => assumption); (case z => assumption); k_whole)); intro t' k'))
local macro_rules | `(tactic| walk_at "my_ne") => `(tactic| first | exact ne_root_abs (by assumption) | exact ne_root_len (by omega) | exact one_root_not (by assumption) (by assumption) (.inl (by assumption)) | exact one_root_not (by assumption) (by assumption) (.inr (by assumption)) | (intro h; simp_all; done))
local macro_rules | `(tactic| walk_at "my_eq") => `(tactic| first | exact one_root (by assumption) (by assumption) (by assumption) (by assumption) (by assumption) | exact List.eq_nil_of_length_eq_zero (by omega))

theorem fcrootN_c (hd : dp + 4 < recursionLimit) (hu : un + 32 < cLine) {x dx t : Addr} {hs : Int} {tk : Tok} {vs : List Value} {n n' : Nat} {ls : List Lbl} (i1 : (x, instObj 494 dx) ∈ news) (i2 : (dx, lblD hs tk t n') ∈ news) (i3 : (t, tupO vs n) ∈ news) (hb : BytesAre vs ls) (hz : ls.length ≤ 16384) (hA : absO ls = false)
  (ret : ∀ (r : Addr) (v1 : Value) (o : Int) (t : Tok) (v3 : Value) (h' : Heap) (tk' : Nat), Fr h₀ L h' m → News h₀ L h' ((r, tupO [v1, .int o t, v3] 0) :: news) → (o = 0 ↔ ls = [[]]) → Q (.ref r) { s with heap := h', toks := tk' }) :
  wpAny (model PP w) (ktrTop dp un gd cn cs L a ccd cl outer) (call (.ref 296) [.ref 520, .ref x]) Q E s := by
  k_with_none
  refine wpAny_call ?_
  k_dflt ktr_enter
  k_with "call ref" => (k_dflt (refine' absroot_c ?k1 ?k2 ?k3 ?k4 ?k5 ?k6 ?k7 ?k8 ?_; (case k1 => k_asm); (case k2 => k_asm); (case k3 => k_asm); (case k4 => k_asm); (case k5 => k_asm); (case k6 => first | exact rfl | assumption); (case k7 => ktr_room); (case k8 => ktr_units)); intro h9 tk9 F9 N9; (try dsimp only); (try k_fold))
  k_with "call ref" => (k_dflt (refine' is_absolute_c ?k1 ?k2 ?k3 ?k4 ?k5 ?k6 ?k7 ?k8 ?i1 ?i2 ?i3 ?b ?z ?_; (case k1 => k_asm); (case k2 => k_asm); (case k3 => k_asm); (case k4 => k_asm); (case k5 => k_asm); (case k6 => first | exact rfl | assumption); (case k7 => ktr_room); (case k8 => ktr_units); (case i1 => k_mem); (case i2 => k_mem); (case i3 => k_mem); (case b => assumption); (case z => first | assumption | omega)); intro h9 tk9 F9 N9; (try rw [hA]); (try dsimp only); (try k_fold))
  k_steps
  all_goals first
    | exact retO ret (by k_asm) (by k_asm) (by walk_at "my_sub") (iff_of_false (by omega) (by walk_at "my_ne"))
    | exact retO ret (by k_asm) (by k_asm) (by walk_at "my_sub") (iff_of_true (by omega) (by walk_at "my_eq"))

theorem fcrootM_c (hd : dp + 4 < recursionLimit) (hu : un + 32 < cLine) {x dx t : Addr} {hs : Int} {tk : Tok} {vs : List Value} {n n' : Nat} {ls : List Lbl} (i1 : (x, instObj 494 dx) ∈ news) (i2 : (dx, lblD hs tk t n') ∈ news) (i3 : (t, tupO vs n) ∈ news) (hb : BytesAre vs ls) (hz : ls.length ≤ 16384) (hA : absO ls = true) (hL : 1 < ls.length)
  (ret : ∀ (r : Addr) (v1 : Value) (o : Int) (t : Tok) (v3 : Value) (h' : Heap) (tk' : Nat), Fr h₀ L h' m → News h₀ L h' ((r, tupO [v1, .int o t, v3] 0) :: news) → (o = 0 ↔ ls = [[]]) → Q (.ref r) { s with heap := h', toks := tk' }) :
  wpAny (model PP w) (ktrTop dp un gd cn cs L a ccd cl outer) (call (.ref 296) [.ref 520, .ref x]) Q E s := by
  k_with_none
  refine wpAny_call ?_
  k_dflt ktr_enter
  k_with "call ref" => (k_dflt (refine' absroot_c ?k1 ?k2 ?k3 ?k4 ?k5 ?k6 ?k7 ?k8 ?_; (case k1 => k_asm); (case k2 => k_asm); (case k3 => k_asm); (case k4 => k_asm); (case k5 => k_asm); (case k6 => first | exact rfl | assumption); (case k7 => ktr_room); (case k8 => ktr_units)); intro h9 tk9 F9 N9; (try dsimp only); (try k_fold))
  k_with "call ref" => (k_dflt (refine' is_absolute_c ?k1 ?k2 ?k3 ?k4 ?k5 ?k6 ?k7 ?k8 ?i1 ?i2 ?i3 ?b ?z ?_; (case k1 => k_asm); (case k2 => k_asm); (case k3 => k_asm); (case k4 => k_asm); (case k5 => k_asm); (case k6 => first | exact rfl | assumption); (case k7 => ktr_room); (case k8 => ktr_units); (case i1 => k_mem); (case i2 => k_mem); (case i3 => k_mem); (case b => assumption); (case z => first | assumption | omega)); intro h9 tk9 F9 N9; (try rw [hA]); (try dsimp only); (try k_fold))
  k_with "subscriptTail" => ((with_reducible show wpAny _ _ (subscriptTail _ _ (Value.ref _) (Value.int _ _)) _ _ _); k_dflt (refine' item_tupKI (vs := [Value.bytes #[] _]) (ls := [[]]) ?X ?F ?o ?e ?b ?z ?y ?x ?_ ?w; (case X => k_asm); (case F => k_asm); (case o => k_is); (case e => rfl); (case b => first | exact .nil | exact .one [] _ (by decide)); (case z => decide); (case w => with_unfolding_all rfl); (case y => omega); (case x => decide); k_whole); intro x' t' e' z')
  k_steps
  all_goals first
    | exact retO ret (by k_asm) (by k_asm) (by walk_at "my_sub") (iff_of_false (by omega) (by walk_at "my_ne"))
    | exact retO ret (by k_asm) (by k_asm) (by walk_at "my_sub") (iff_of_true (by omega) (by walk_at "my_eq"))

theorem fcroot1_c (hd : dp + 4 < recursionLimit) (hu : un + 32 < cLine) {x dx t : Addr} {hs : Int} {tk : Tok} {vs : List Value} {n n' : Nat} {ls : List Lbl} (i1 : (x, instObj 494 dx) ∈ news) (i2 : (dx, lblD hs tk t n') ∈ news) (i3 : (t, tupO vs n) ∈ news) (hb : BytesAre vs ls) (hz : ls.length ≤ 16384) (hA : absO ls = true) (hL : (ls.length : Int) = 1)
  (ret : ∀ (r : Addr) (v1 : Value) (o : Int) (t : Tok) (v3 : Value) (h' : Heap) (tk' : Nat), Fr h₀ L h' m → News h₀ L h' ((r, tupO [v1, .int o t, v3] 0) :: news) → (o = 0 ↔ ls = [[]]) → Q (.ref r) { s with heap := h', toks := tk' }) :
  wpAny (model PP w) (ktrTop dp un gd cn cs L a ccd cl outer) (call (.ref 296) [.ref 520, .ref x]) Q E s := by
  k_with_none
  refine wpAny_call ?_
  k_dflt ktr_enter
  k_with "call ref" => (k_dflt (refine' absroot_c ?k1 ?k2 ?k3 ?k4 ?k5 ?k6 ?k7 ?k8 ?_; (case k1 => k_asm); (case k2 => k_asm); (case k3 => k_asm); (case k4 => k_asm); (case k5 => k_asm); (case k6 => first | exact rfl | assumption); (case k7 => ktr_room); (case k8 => ktr_units)); intro h9 tk9 F9 N9; (try dsimp only); (try k_fold))
  k_with "call ref" => (k_dflt (refine' is_absolute_c ?k1 ?k2 ?k3 ?k4 ?k5 ?k6 ?k7 ?k8 ?i1 ?i2 ?i3 ?b ?z ?_; (case k1 => k_asm); (case k2 => k_asm); (case k3 => k_asm); (case k4 => k_asm); (case k5 => k_asm); (case k6 => first | exact rfl | assumption); (case k7 => ktr_room); (case k8 => ktr_units); (case i1 => k_mem); (case i2 => k_mem); (case i3 => k_mem); (case b => assumption); (case z => first | assumption | omega)); intro h9 tk9 F9 N9; (try rw [hA]); (try dsimp only); (try k_fold))
  k_with "subscriptTail" => ((with_reducible show wpAny _ _ (subscriptTail _ _ (Value.ref _) (Value.int _ _)) _ _ _); k_dflt (refine' item_tupKI (vs := [Value.bytes #[] _]) (ls := [[]]) ?X ?F ?o ?e ?b ?z ?y ?x ?_ ?w; (case X => k_asm); (case F => k_asm); (case o => k_is); (case e => rfl); (case b => first | exact .nil | exact .one [] _ (by decide)); (case z => decide); (case w => with_unfolding_all rfl); (case y => omega); (case x => decide); k_whole); intro x' t' e' z')
  k_steps
  all_goals first
    | exact retO ret (by k_asm) (by k_asm) (by walk_at "my_sub") (iff_of_false (by omega) (by walk_at "my_ne"))
    | exact retO ret (by k_asm) (by k_asm) (by walk_at "my_sub") (iff_of_true (by omega) (by walk_at "my_eq"))

theorem fcroot_c (hd : dp + 4 < recursionLimit) (hu : un + 32 < cLine) {x dx t : Addr} {hs : Int} {tk : Tok} {vs : List Value} {n n' : Nat} {ls : List Lbl} (i1 : (x, instObj 494 dx) ∈ news) (i2 : (dx, lblD hs tk t n') ∈ news) (i3 : (t, tupO vs n) ∈ news) (hb : BytesAre vs ls) (hz : ls.length ≤ 16384)
  (ret : ∀ (r : Addr) (v1 : Value) (o : Int) (t : Tok) (v3 : Value) (h' : Heap) (tk' : Nat), Fr h₀ L h' m → News h₀ L h' ((r, tupO [v1, .int o t, v3] 0) :: news) → (o = 0 ↔ ls = [[]]) → Q (.ref r) { s with heap := h', toks := tk' }) :
  wpAny (model PP w) (ktrTop dp un gd cn cs L a ccd cl outer) (call (.ref 296) [.ref 520, .ref x]) Q E s := by
  cases hA : absO ls with
  | false => exact fcrootN_c B F X N T hk hd hu i1 i2 i3 hb hz hA ret
  | true =>
    have := abs_pos hA
    by_cases hL : ls.length = 1
    · exact fcroot1_c B F X N T hk hd hu i1 i2 i3 hb hz hA (by omega) ret
    · exact fcrootM_c B F X N T hk hd hu i1 i2 i3 hb hz hA (by omega) ret

end

end

section
variable {w : World} {mean : ExcName → Option Value} {mg mb : Str → Option Value} {dp un : Nat} {gd : Option (List Code)} {cn : Str} {cs : Scope} {a : Addr} {ccd : Value} {cl : List (Str × Addr)} {outer : List Env} {A₀ : Around} {base h₀ : Heap} {L : Addr} {m : Str → Option Value} {news : Led} {s : Shared} {Q E : Value → Shared → Prop}
variable (B : Below A₀ base outer h₀) (F : Fr h₀ L s.heap m) (X : (Mine.hd.heap_39 w.params).In h₀) (N : News h₀ L s.heap news) (T : Top VW LO mean mg mb h₀) (hk : cs.kind = .function)
include B F X N T hk


section
local macro_rules | `(tactic| walk_at "call builtin:len") => `(tactic| (k_here; (with_reducible show wpAny _ _ (call (Value.builtin _) [Value.ref _]) _ _ _); k_dflt (first | (refine' len_tupE (k := 0) ?N ?i ?b ?z ?e ?_; (case N => k_asm); (case i => k_mem); (case e => assumption); (case b => assumption); (case z => assumption); k_whole) | (refine' len_tupE (k := 1) ?N ?i ?b ?z ?e ?_; (case N => k_asm); (case i => k_mem); (case e => assumption); (case b => assumption); (case z => assumption); k_whole)); intro t' k'))
local macro_rules | `(tactic| walk_at "my_ne") => `(tactic| first | exact ne_root_abs (by assumption) | exact ne_root_len (by omega) | exact one_root_not (by assumption) (by assumption) (.inl (by assumption)) | exact one_root_not (by assumption) (by assumption) (.inr (by assumption)) | (intro h; simp_all; done))
local macro_rules | `(tactic| walk_at "my_eq") => `(tactic| first | exact one_root (by assumption) (by assumption) (by assumption) (by assumption) (by assumption) | exact List.eq_nil_of_length_eq_zero (by omega))

theorem fcemptyA_c (hd : dp + 4 < recursionLimit) (hu : un + 32 < cLine) {x dx t : Addr} {hs : Int} {tk : Tok} {vs : List Value} {n n' : Nat} {ls : List Lbl} (i1 : (x, instObj 494 dx) ∈ news) (i2 : (dx, lblD hs tk t n') ∈ news) (i3 : (t, tupO vs n) ∈ news) (hb : BytesAre vs ls) (hz : ls.length ≤ 16384) (hA : absO ls = true) (hL : 0 < ls.length)
  (ret : ∀ (r : Addr) (v1 : Value) (o : Int) (t : Tok) (v3 : Value) (h' : Heap) (tk' : Nat), Fr h₀ L h' m → News h₀ L h' ((r, tupO [v1, .int o t, v3] 0) :: news) → (o = 0 ↔ ls = []) → Q (.ref r) { s with heap := h', toks := tk' }) :
  wpAny (model PP w) (ktrTop dp un gd cn cs L a ccd cl outer) (call (.ref 296) [.ref 524, .ref x]) Q E s := by
  k_with_none
  refine wpAny_call ?_
  k_dflt ktr_enter
  k_with "call ref" => (k_dflt (refine' absempty_c ?k1 ?k2 ?k3 ?k4 ?k5 ?k6 ?k7 ?k8 ?_; (case k1 => k_asm); (case k2 => k_asm); (case k3 => k_asm); (case k4 => k_asm); (case k5 => k_asm); (case k6 => first | exact rfl | assumption); (case k7 => ktr_room); (case k8 => ktr_units)); intro h9 tk9 F9 N9; (try dsimp only); (try k_fold))
  k_with "call ref" => (k_dflt (refine' is_absolute_c ?k1 ?k2 ?k3 ?k4 ?k5 ?k6 ?k7 ?k8 ?i1 ?i2 ?i3 ?b ?z ?_; (case k1 => k_asm); (case k2 => k_asm); (case k3 => k_asm); (case k4 => k_asm); (case k5 => k_asm); (case k6 => first | exact rfl | assumption); (case k7 => ktr_room); (case k8 => ktr_units); (case i1 => k_mem); (case i2 => k_mem); (case i3 => k_mem); (case b => assumption); (case z => first | assumption | omega)); intro h9 tk9 F9 N9; (try rw [hA]); (try dsimp only); (try k_fold))
  k_steps
  all_goals first
    | exact retO ret (by k_asm) (by k_asm) (by walk_at "my_sub") (iff_of_false (by omega) (by walk_at "my_ne"))
    | exact retO ret (by k_asm) (by k_asm) (by walk_at "my_sub") (iff_of_true (by omega) (by walk_at "my_eq"))

theorem fcemptyP_c (hd : dp + 4 < recursionLimit) (hu : un + 32 < cLine) {x dx t : Addr} {hs : Int} {tk : Tok} {vs : List Value} {n n' : Nat} {ls : List Lbl} (i1 : (x, instObj 494 dx) ∈ news) (i2 : (dx, lblD hs tk t n') ∈ news) (i3 : (t, tupO vs n) ∈ news) (hb : BytesAre vs ls) (hz : ls.length ≤ 16384) (hA : absO ls = false) (hL : 0 < ls.length)
  (ret : ∀ (r : Addr) (v1 : Value) (o : Int) (t : Tok) (v3 : Value) (h' : Heap) (tk' : Nat), Fr h₀ L h' m → News h₀ L h' ((r, tupO [v1, .int o t, v3] 0) :: news) → (o = 0 ↔ ls = []) → Q (.ref r) { s with heap := h', toks := tk' }) :
  wpAny (model PP w) (ktrTop dp un gd cn cs L a ccd cl outer) (call (.ref 296) [.ref 524, .ref x]) Q E s := by
  k_with_none
  refine wpAny_call ?_
  k_dflt ktr_enter
  k_with "call ref" => (k_dflt (refine' absempty_c ?k1 ?k2 ?k3 ?k4 ?k5 ?k6 ?k7 ?k8 ?_; (case k1 => k_asm); (case k2 => k_asm); (case k3 => k_asm); (case k4 => k_asm); (case k5 => k_asm); (case k6 => first | exact rfl | assumption); (case k7 => ktr_room); (case k8 => ktr_units)); intro h9 tk9 F9 N9; (try dsimp only); (try k_fold))
  k_with "call ref" => (k_dflt (refine' is_absolute_c ?k1 ?k2 ?k3 ?k4 ?k5 ?k6 ?k7 ?k8 ?i1 ?i2 ?i3 ?b ?z ?_; (case k1 => k_asm); (case k2 => k_asm); (case k3 => k_asm); (case k4 => k_asm); (case k5 => k_asm); (case k6 => first | exact rfl | assumption); (case k7 => ktr_room); (case k8 => ktr_units); (case i1 => k_mem); (case i2 => k_mem); (case i3 => k_mem); (case b => assumption); (case z => first | assumption | omega)); intro h9 tk9 F9 N9; (try rw [hA]); (try dsimp only); (try k_fold))
  k_steps
  all_goals first
    | exact retO ret (by k_asm) (by k_asm) (by walk_at "my_sub") (iff_of_false (by omega) (by walk_at "my_ne"))
    | exact retO ret (by k_asm) (by k_asm) (by walk_at "my_sub") (iff_of_true (by omega) (by walk_at "my_eq"))

theorem fcempty0_c (hd : dp + 4 < recursionLimit) (hu : un + 32 < cLine) {x dx t : Addr} {hs : Int} {tk : Tok} {vs : List Value} {n n' : Nat} {ls : List Lbl} (i1 : (x, instObj 494 dx) ∈ news) (i2 : (dx, lblD hs tk t n') ∈ news) (i3 : (t, tupO vs n) ∈ news) (hb : BytesAre vs ls) (hz : ls.length ≤ 16384) (hA : absO ls = false) (hL : (ls.length : Int) = 0)
  (ret : ∀ (r : Addr) (v1 : Value) (o : Int) (t : Tok) (v3 : Value) (h' : Heap) (tk' : Nat), Fr h₀ L h' m → News h₀ L h' ((r, tupO [v1, .int o t, v3] 0) :: news) → (o = 0 ↔ ls = []) → Q (.ref r) { s with heap := h', toks := tk' }) :
  wpAny (model PP w) (ktrTop dp un gd cn cs L a ccd cl outer) (call (.ref 296) [.ref 524, .ref x]) Q E s := by
  k_with_none
  refine wpAny_call ?_
  k_dflt ktr_enter
  k_with "call ref" => (k_dflt (refine' absempty_c ?k1 ?k2 ?k3 ?k4 ?k5 ?k6 ?k7 ?k8 ?_; (case k1 => k_asm); (case k2 => k_asm); (case k3 => k_asm); (case k4 => k_asm); (case k5 => k_asm); (case k6 => first | exact rfl | assumption); (case k7 => ktr_room); (case k8 => ktr_units)); intro h9 tk9 F9 N9; (try dsimp only); (try k_fold))
  k_with "call ref" => (k_dflt (refine' is_absolute_c ?k1 ?k2 ?k3 ?k4 ?k5 ?k6 ?k7 ?k8 ?i1 ?i2 ?i3 ?b ?z ?_; (case k1 => k_asm); (case k2 => k_asm); (case k3 => k_asm); (case k4 => k_asm); (case k5 => k_asm); (case k6 => first | exact rfl | assumption); (case k7 => ktr_room); (case k8 => ktr_units); (case i1 => k_mem); (case i2 => k_mem); (case i3 => k_mem); (case b => assumption); (case z => first | assumption | omega)); intro h9 tk9 F9 N9; (try rw [hA]); (try dsimp only); (try k_fold))
  k_steps
  all_goals first
    | exact retO ret (by k_asm) (by k_asm) (by walk_at "my_sub") (iff_of_false (by omega) (by walk_at "my_ne"))
    | exact retO ret (by k_asm) (by k_asm) (by walk_at "my_sub") (iff_of_true (by omega) (by walk_at "my_eq"))

theorem fcempty_c (hd : dp + 4 < recursionLimit) (hu : un + 32 < cLine) {x dx t : Addr} {hs : Int} {tk : Tok} {vs : List Value} {n n' : Nat} {ls : List Lbl} (i1 : (x, instObj 494 dx) ∈ news) (i2 : (dx, lblD hs tk t n') ∈ news) (i3 : (t, tupO vs n) ∈ news) (hb : BytesAre vs ls) (hz : ls.length ≤ 16384)
  (ret : ∀ (r : Addr) (v1 : Value) (o : Int) (t : Tok) (v3 : Value) (h' : Heap) (tk' : Nat), Fr h₀ L h' m → News h₀ L h' ((r, tupO [v1, .int o t, v3] 0) :: news) → (o = 0 ↔ ls = []) → Q (.ref r) { s with heap := h', toks := tk' }) :
  wpAny (model PP w) (ktrTop dp un gd cn cs L a ccd cl outer) (call (.ref 296) [.ref 524, .ref x]) Q E s := by
  by_cases hA : absO ls = true
  · exact fcemptyA_c B F X N T hk hd hu i1 i2 i3 hb hz hA (abs_pos hA) ret
  have hA : absO ls = false := by simpa using hA
  by_cases hL : 0 < ls.length
  · exact fcemptyP_c B F X N T hk hd hu i1 i2 i3 hb hz hA hL ret
  · have e : ls = [] := List.eq_nil_of_length_eq_zero (by omega)
    exact fcempty0_c B F X N T hk hd hu i1 i2 i3 hb hz (by rw [e]; rfl) (by omega) ret

end

end

section
variable {w : World} {mean : ExcName → Option Value} {mg mb : Str → Option Value} {dp un : Nat} {gd : Option (List Code)} {cn : Str} {cs : Scope} {a : Addr} {ccd : Value} {cl : List (Str × Addr)} {outer : List Env} {A₀ : Around} {base h₀ : Heap} {L : Addr} {m : Str → Option Value} {news : Led} {s : Shared} {Q E : Value → Shared → Prop}
variable (B : Below A₀ base outer h₀) (F : Fr h₀ L s.heap m) (X : (Mine.hd.heap_39 w.params).In h₀) (N : News h₀ L s.heap news) (T : Top VW LO mean mg mb h₀) (hk : cs.kind = .function)
include B F X N T hk


theorem eqroot_c (hd : dp + 6 < recursionLimit) (hu : un + 64 < cLine) {x dx t : Addr} {hs : Int} {tk : Tok} {vs : List Value} {n n' : Nat} {ls : List Lbl} (i1 : (x, instObj 494 dx) ∈ news) (i2 : (dx, lblD hs tk t n') ∈ news) (i3 : (t, tupO vs n) ∈ news) (hb : BytesAre vs ls) (hz : ls.length ≤ 16384)
  (ret : ∀ (h' : Heap) (tk' : Nat), Fr h₀ L h' m → News h₀ L h' news → Q (.bool (decide (ls = [[]]))) { s with heap := h', toks := tk' }) :
  wpAny (model PP w) (ktrTop dp un gd cn cs L a ccd cl outer) (call (.ref 324) [.ref 520, .ref x]) Q E s := by
  k_with_none
  refine wpAny_call ?_
  k_dflt ktr_enter
  k_with "call ref" => (k_dflt (refine' fcroot_c ?k1 ?k2 ?k3 ?k4 ?k5 ?k6 ?k7 ?k8 ?i1 ?i2 ?i3 ?b ?z ?_; (case k1 => k_asm); (case k2 => k_asm); (case k3 => k_asm); (case k4 => k_asm); (case k5 => k_asm); (case k6 => first | exact rfl | assumption); (case k7 => ktr_room); (case k8 => ktr_units); (case i1 => k_mem); (case i2 => k_mem); (case i3 => k_mem); (case b => assumption); (case z => assumption)); intro r9 v9 o9 t9 w9 h9 tk9 F9 N9 e9; (try dsimp only); (try k_fold))
  k_steps
  all_goals exact retBs ret (by k_asm) (by k_asm) (by walk_at "my_sub") (decide_eq_decide.mpr (by assumption))

theorem eqempty_c (hd : dp + 6 < recursionLimit) (hu : un + 64 < cLine) {x dx t : Addr} {hs : Int} {tk : Tok} {vs : List Value} {n n' : Nat} {ls : List Lbl} (i1 : (x, instObj 494 dx) ∈ news) (i2 : (dx, lblD hs tk t n') ∈ news) (i3 : (t, tupO vs n) ∈ news) (hb : BytesAre vs ls) (hz : ls.length ≤ 16384)
  (ret : ∀ (h' : Heap) (tk' : Nat), Fr h₀ L h' m → News h₀ L h' news → Q (.bool (decide (ls = []))) { s with heap := h', toks := tk' }) :
  wpAny (model PP w) (ktrTop dp un gd cn cs L a ccd cl outer) (call (.ref 324) [.ref 524, .ref x]) Q E s := by
  k_with_none
  refine wpAny_call ?_
  k_dflt ktr_enter
  k_with "call ref" => (k_dflt (refine' fcempty_c ?k1 ?k2 ?k3 ?k4 ?k5 ?k6 ?k7 ?k8 ?i1 ?i2 ?i3 ?b ?z ?_; (case k1 => k_asm); (case k2 => k_asm); (case k3 => k_asm); (case k4 => k_asm); (case k5 => k_asm); (case k6 => first | exact rfl | assumption); (case k7 => ktr_room); (case k8 => ktr_units); (case i1 => k_mem); (case i2 => k_mem); (case i3 => k_mem); (case b => assumption); (case z => assumption)); intro r9 v9 o9 t9 w9 h9 tk9 F9 N9 e9; (try dsimp only); (try k_fold))
  k_steps
  all_goals exact retBs ret (by k_asm) (by k_asm) (by walk_at "my_sub") (decide_eq_decide.mpr (by assumption))

end

section
variable {w : World} {mean : ExcName → Option Value} {mg mb : Str → Option Value} {dp un : Nat} {gd : Option (List Code)} {cn : Str} {cs : Scope} {a : Addr} {ccd : Value} {cl : List (Str × Addr)} {outer : List Env} {A₀ : Around} {base h₀ : Heap} {L : Addr} {m : Str → Option Value} {news : Led} {s : Shared} {Q E : Value → Shared → Prop}
variable (B : Below A₀ base outer h₀) (F : Fr h₀ L s.heap m) (X : (Mine.hd.heap_39 w.params).In h₀) (N : News h₀ L s.heap news) (T : Top VW LO mean mg mb h₀) (hk : cs.kind = .function)
include B F X N T hk


theorem parent_c (hd : dp + 12 < recursionLimit) (hu : un + 128 < cLine) {x dx t : Addr} {hs : Int} {tk : Tok} {vs : List Value} {n n' : Nat} {ls : List Lbl} (i1 : (x, instObj 494 dx) ∈ news) (i2 : (dx, lblD hs tk t n') ∈ news) (i3 : (t, tupO vs n) ∈ news) (hb : BytesAre vs ls) (hz : ls.length ≤ 16384) (hv : vcode ls = 0)
  (rP : (ls = [] ∨ ls = [[]]) → ∀ (e t : Addr) (g h' : Heap) (tk' : Nat), Fr h₀ L g m → g.UpToSlots h' → RaisedS base g (envX cn cs L a ccd cl :: outer) e (.ref 142) t [] news h' → E (.ref e) { s with heap := h', toks := tk' })
  (ret : ls ≠ [] → ls ≠ [[]] → ∀ (x dx t : Addr) (hs : Int) (tk : Tok) (us : List Value) (h' : Heap) (tk' : Nat), Fr h₀ L h' m → News h₀ L h' ((x, instObj 494 dx) :: (dx, lblD hs tk t 1) :: (t, tupO us 0) :: news) → BytesAre us (ls.drop 1) → Q (.ref x) { s with heap := h', toks := tk' }) :
  wpAny (model PP w) (ktrTop dp un gd cn cs L a ccd cl outer) (call (.ref 475) [.ref x]) Q E s := by
  k_with_none
  refine wpAny_call ?_
  k_dflt ktr_enter
  k_with "call ref" => (k_dflt (refine' eqroot_c ?k1 ?k2 ?k3 ?k4 ?k5 ?k6 ?k7 ?k8 ?i1 ?i2 ?i3 ?b ?z ?_; (case k1 => k_asm); (case k2 => k_asm); (case k3 => k_asm); (case k4 => k_asm); (case k5 => k_asm); (case k6 => first | exact rfl | assumption); (case k7 => ktr_room); (case k8 => ktr_units); (case i1 => k_mem); (case i2 => k_mem); (case i3 => k_mem); (case b => assumption); (case z => assumption)); intro h9 tk9 F9 N9; (try dsimp only [PySem.W.CmpBack]); (try k_fold))
  k_with "call ref" => (k_dflt (refine' eqempty_c ?k1 ?k2 ?k3 ?k4 ?k5 ?k6 ?k7 ?k8 ?i1 ?i2 ?i3 ?b ?z ?_; (case k1 => k_asm); (case k2 => k_asm); (case k3 => k_asm); (case k4 => k_asm); (case k5 => k_asm); (case k6 => first | exact rfl | assumption); (case k7 => ktr_room); (case k8 => ktr_units); (case i1 => k_mem); (case i2 => k_mem); (case i3 => k_mem); (case b => assumption); (case z => assumption)); intro h9 tk9 F9 N9; (try dsimp only [PySem.W.CmpBack]); (try k_fold))
  k_with "call ref" => ((rw [List.take_of_length_le (by rw [List.length_drop]; exact Nat.le_refl _)] at *); (k_dflt (refine' namet_v ?k1 ?k2 ?k3 ?k4 ?k5 ?k6 ?k7 ?k8 ?i3 ?b ?z ?v ?_; (case k1 => k_asm); (case k2 => k_asm); (case k3 => k_asm); (case k4 => k_asm); (case k5 => k_asm); (case k6 => first | exact rfl | assumption); (case k7 => ktr_room); (case k8 => ktr_units); (case i3 => k_mem); (case b => walk_at "my_bytes"); (case z => walk_at "my_len"); (case v => walk_at "my_v")); intro x9 d9 u9 s9 k9 w9 h9 tk9 F9 N9 b9; (try dsimp only); (try k_fold)))
  k_steps
  all_goals first
    | exact endS (rP (.inr (by assumption))) (by assumption) (by assumption) (by assumption) (by walk_at "my_sub")
    | exact endS (rP (.inl (by assumption))) (by assumption) (by assumption) (by assumption) (by walk_at "my_sub")
    | exact retNmU (ret (by assumption) (by assumption)) (by assumption) (by k_asm) (by k_asm) (by walk_at "my_sub")

end

section
variable {w : World} {mean : ExcName → Option Value} {mg mb : Str → Option Value} {dp un : Nat} {gd : Option (List Code)} {cn : Str} {cs : Scope} {a : Addr} {ccd : Value} {cl : List (Str × Addr)} {outer : List Env} {A₀ : Around} {base h₀ : Heap} {L : Addr} {m : Str → Option Value} {news : Led} {s : Shared} {Q E : Value → Shared → Prop}
variable (B : Below A₀ base outer h₀) (F : Fr h₀ L s.heap m) (X : (Mine.hd.heap_39 w.params).In h₀) (N : News h₀ L s.heap news) (T : Top VW LO mean mg mb h₀) (hk : cs.kind = .function)
include B F X N T hk


theorem lawabs_c (hd : dp + 2 < recursionLimit) (hu : un + 16 < cLine) {x : Addr} {vs : List Value} {n : Nat} {ls : List Lbl} (i1 : (x, listOf vs.toArray n) ∈ news) (hb : BytesAre vs ls) (hz : ls.length ≤ 8192)
  (ret : ∀ (h' : Heap) (tk' : Nat), Fr h₀ L h' m → News h₀ L h' news → Q (.bool (absO ls)) { s with heap := h', toks := tk' }) :
  wpAny (model PP w) (ktrTop dp un gd cn cs L a ccd cl outer) (call (.ref 550) [.ref x]) Q E s := by
  k_with_none
  refine wpAny_call ?_
  k_dflt ktr_enter
  k_steps
  all_goals refine retBs ret (by k_asm) (by k_asm) (by walk_at "my_sub") ?_
  · exact absO_posL (by assumption) (by assumption)
  · exact absO_nil (by assumption)

theorem lawfold_c (hd : dp + 4 < recursionLimit) (hu : un + 32 < cLine) {x : Addr} {vs : List Value} {n : Nat} {ls : List Lbl} (i1 : (x, listOf vs.toArray n) ∈ news) (hb : BytesAre vs ls) (hz : ls.length ≤ 8192)
  (ret : ∀ (D : Addr) (c : Nat) (us : List Value) (h' : Heap) (tk' : Nat), Fr h₀ L h' m → News h₀ L h' ((D, listOf us.toArray c) :: news) → BytesAre us (ls.map lowB) → Q (.ref D) { s with heap := h', toks := tk' }) :
  wpAny (model PP w) (ktrTop dp un gd cn cs L a ccd cl outer) (call (.ref 555) [.ref x]) Q E s := by
  k_with_none
  refine wpAny_call ?_
  k_dflt ktr_enter
  k_with "my comp" => (k_dflt (refine LCg.ListComp_U (F₀ := by k_asm) (by rfl) (by with_unfolding_all rfl) (by decide) (by rfl) (by decide) (by rfl) ?_))
  k_with "CompSrc" => ((refine LCg.CompSrc.ledger (by rfl) (by k_asm) (by k_asm) (by k_mem) (by rw [List.size_toArray, sizeLine_eq, hb.length]; omega) ?_); intro g'; refine comp_mapA (fun _ v y => ∀ (l : Lbl) (t : Tok), v = .bytes l.toArray t → ∃ u, y = .bytes (lowB l).toArray u ∧ (lowB l).length ≤ 4096) (Or.inr ⟨_, by k_mem, rfl, _, rfl⟩) (fun i1 v1 I1 oI1 C1 oC1 D1 m1 ys1 h1 tk1 E1 hv1 hC1 hx1 F1 N1 off1 => ?_) (fun ys1 hl1 hy1 => ?_); all_goals (first | (obtain ⟨l', t', hl', hv2', hz'⟩ := hb.at_ hv1; subst hv2') | (have b9 := all_map lowB hb hl1 hy1; clear hy1 hl1)))
  k_with "elt" => (exact elt_map lowB (by assumption))
  k_steps
  all_goals exact retLs ret (by assumption) (by k_asm) (by k_asm) (by walk_at "my_sub")

end

section
variable {w : World} {mean : ExcName → Option Value} {mg mb : Str → Option Value} {dp un : Nat} {gd : Option (List Code)} {cn : Str} {cs : Scope} {a : Addr} {ccd : Value} {cl : List (Str × Addr)} {outer : List Env} {A₀ : Around} {base h₀ : Heap} {L : Addr} {m : Str → Option Value} {news : Led} {s : Shared} {Q E : Value → Shared → Prop}
variable (B : Below A₀ base outer h₀) (F : Fr h₀ L s.heap m) (X : (Mine.hd.heap_39 w.params).In h₀) (N : News h₀ L s.heap news) (T : Top VW LO mean mg mb h₀) (hk : cs.kind = .function)
include B F X N T hk


theorem lawunder_c (hd : dp + 6 < recursionLimit) (hu : un + 48 < cLine) {x : Addr} {vs : List Value} {n : Nat} {ls : List Lbl} (i1 : (x, listOf vs.toArray n) ∈ news) (hb : BytesAre vs ls) (hz : ls.length ≤ 8192) {y : Addr} {ws : List Value} {o : Nat} {ms : List Lbl} (j1 : (y, listOf ws.toArray o) ∈ news) (hb' : BytesAre ws ms) (hz' : ms.length ≤ 8192)
  (ret : ∀ (h' : Heap) (tk' : Nat), Fr h₀ L h' m → News h₀ L h' news → Q (.bool (undO ls ms)) { s with heap := h', toks := tk' }) :
  wpAny (model PP w) (ktrTop dp un gd cn cs L a ccd cl outer) (call (.ref 581) [.ref x, .ref y]) Q E s := by
  k_with_none
  refine wpAny_call ?_
  k_dflt ktr_enter
  k_with "call ref" => (k_dflt (refine' lawabs_c ?k1 ?k2 ?k3 ?k4 ?k5 ?k6 ?k7 ?k8 ?i1 ?b ?z ?_; (case k1 => k_asm); (case k2 => k_asm); (case k3 => k_asm); (case k4 => k_asm); (case k5 => k_asm); (case k6 => first | exact rfl | assumption); (case k7 => ktr_room); (case k8 => ktr_units); (case i1 => k_mem); (case b => walk_at "my_bytes"); (case z => walk_at "my_len")); intro h9 tk9 F9 N9; (try dsimp only); (try k_fold))
  k_with "call ref" => (k_dflt (refine' lawfold_c ?k1 ?k2 ?k3 ?k4 ?k5 ?k6 ?k7 ?k8 ?i1 ?b ?z ?_; (case k1 => k_asm); (case k2 => k_asm); (case k3 => k_asm); (case k4 => k_asm); (case k5 => k_asm); (case k6 => first | exact rfl | assumption); (case k7 => ktr_room); (case k8 => ktr_units); (case i1 => k_mem); (case b => walk_at "my_bytes"); (case z => walk_at "my_len")); intro D9 c9 us9 h9 tk9 F9 N9 b9; (try dsimp only); (try k_fold))
  k_steps
  all_goals refine retBs ret (by k_asm) (by k_asm) (by walk_at "my_sub") ?_
  · exact und_a (by assumption)
  · exact und_b (by omega)
  · exact und_c (by assumption) (by omega)

end

section
variable {w : World} {mean : ExcName → Option Value} {mg mb : Str → Option Value} {dp un : Nat} {gd : Option (List Code)} {cn : Str} {cs : Scope} {a : Addr} {ccd : Value} {cl : List (Str × Addr)} {outer : List Env} {A₀ : Around} {base h₀ : Heap} {L : Addr} {m : Str → Option Value} {news : Led} {s : Shared} {Q E : Value → Shared → Prop}
variable (B : Below A₀ base outer h₀) (F : Fr h₀ L s.heap m) (X : (Mine.hd.heap_39 w.params).In h₀) (N : News h₀ L s.heap news) (T : Top VW LO mean mg mb h₀) (hk : cs.kind = .function)
include B F X N T hk


theorem lawwide_c (hd : dp + 4 < recursionLimit) (hu : un + 32 < cLine) {x : Addr} {vs : List Value} {n : Nat} {ls : List Lbl} (i1 : (x, listOf vs.toArray n) ∈ news) (hb : BytesAre vs ls) (hz : ls.length ≤ 8192)
  (ret : ∀ (t : Tok) (h' : Heap) (tk' : Nat), Fr h₀ L h' m → News h₀ L h' news → Q (.int (wireN ls) t) { s with heap := h', toks := tk' }) :
  wpAny (model PP w) (ktrTop dp un gd cn cs L a ccd cl outer) (call (.ref 560) [.ref x]) Q E s := by
  k_with_none
  refine wpAny_call ?_
  k_dflt ktr_enter
  k_with "my comp" => (k_dflt (refine LCg.ListComp_U (F₀ := by k_asm) (by rfl) (by with_unfolding_all rfl) (by decide) (by rfl) (by decide) (by rfl) ?_))
  k_with "CompSrc" => ((refine LCg.CompSrc.ledger (by rfl) (by k_asm) (by k_asm) (by k_mem) (by rw [List.size_toArray, sizeLine_eq, hb.length]; omega) ?_); intro g'; refine comp_mapA (fun _ v y => ∀ (l : Lbl) (t : Tok), v = .bytes l.toArray t → ∃ u, y = .int ((l.length : Int) + 1) u) (Or.inr ⟨_, by k_mem, rfl, _, rfl⟩) (fun i1 v1 I1 oI1 C1 oC1 D1 m1 ys1 h1 tk1 E1 hv1 hC1 hx1 F1 N1 off1 => ?_) (fun ys1 hl1 hy1 => ?_); all_goals (first | (obtain ⟨l', t', hl', hv2', hz'⟩ := hb.at_ hv1; subst hv2') | (have b9 := all_ints hb hl1 hy1; clear hy1 hl1)))
  k_with "elt" => (exact elt_len)
  k_steps
  all_goals exact retIs ret (by k_asm) (by k_asm) (by walk_at "my_sub") rfl

end

section
variable {w : World} {mean : ExcName → Option Value} {mg mb : Str → Option Value} {dp un : Nat} {gd : Option (List Code)} {cn : Str} {cs : Scope} {a : Addr} {ccd : Value} {cl : List (Str × Addr)} {outer : List Env} {A₀ : Around} {base h₀ : Heap} {L : Addr} {m : Str → Option Value} {news : Led} {s : Shared} {Q E : Value → Shared → Prop}
variable (B : Below A₀ base outer h₀) (F : Fr h₀ L s.heap m) (X : (Mine.hd.heap_39 w.params).In h₀) (N : News h₀ L s.heap news) (T : Top VW LO mean mg mb h₀) (hk : cs.kind = .function)
include B F X N T hk


theorem lawwords_c (hd : dp + 2 < recursionLimit) (hu : un + 16 < cLine)
  (ret : ∀ (D : Addr) (c : Nat) (us : List Value) (h' : Heap) (tk' : Nat), Fr h₀ L h' m → News h₀ L h' ((D, listOf us.toArray c) :: news) → BytesAre us wordsL → Q (.ref D) { s with heap := h', toks := tk' }) :
  wpAny (model PP w) (ktrTop dp un gd cn cs L a ccd cl outer) (call (.ref 536) []) Q E s := by
  k_with_none
  refine wpAny_call ?_
  k_dflt ktr_enter
  k_steps
  all_goals exact retLs ret words_are (by k_asm) (by k_asm) (by walk_at "my_sub")

end

section
variable {w : World} {mean : ExcName → Option Value} {mg mb : Str → Option Value} {dp un : Nat} {gd : Option (List Code)} {cn : Str} {cs : Scope} {a : Addr} {ccd : Value} {cl : List (Str × Addr)} {outer : List Env} {A₀ : Around} {base h₀ : Heap} {L : Addr} {m : Str → Option Value} {news : Led} {s : Shared} {Q E : Value → Shared → Prop}
variable (B : Below A₀ base outer h₀) (F : Fr h₀ L s.heap m) (X : (Mine.hd.heap_39 w.params).In h₀) (N : News h₀ L s.heap news) (T : Top VW LO mean mg mb h₀) (hk : cs.kind = .function)
include B F X N T hk


theorem lawname_c (hd : dp + 4 < recursionLimit) (hu : un + 32 < cLine) {k : Int} {kt : Tok}
  (ret : ∀ (D : Addr) (c : Nat) (us : List Value) (h' : Heap) (tk' : Nat), Fr h₀ L h' m → News h₀ L h' ((D, listOf us.toArray c) :: news) → BytesAre us (lawName k) → Q (.ref D) { s with heap := h', toks := tk' }) :
  wpAny (model PP w) (ktrTop dp un gd cn cs L a ccd cl outer) (call (.ref 543) [.int k kt]) Q E s := by
  have hk5 := fmod_bd k (b := 5) (by decide)
  k_with_none
  refine wpAny_call ?_
  k_dflt ktr_enter
  k_with "call ref" => (k_dflt (refine' lawwords_c ?k1 ?k2 ?k3 ?k4 ?k5 ?k6 ?k7 ?k8 ?_; (case k1 => k_asm); (case k2 => k_asm); (case k3 => k_asm); (case k4 => k_asm); (case k5 => k_asm); (case k6 => first | exact rfl | assumption); (case k7 => ktr_room); (case k8 => ktr_units)); intro D9 c9 us9 h9 tk9 F9 N9 b9; (try dsimp only); (try k_fold))
  k_with "my iter" => (k_dflt ((with_reducible show wpAny _ _ (pyIter (Value.ref _)) (fun it s₂ => LoopAtV _ _ _ _ _ _ _ _ _ it s₂) _ _); (rename Fr _ _ _ _ => lF'); (rename News _ _ _ _ => lN'); (with_unfolding_all refine' kc_rng (σ := Addr × Nat × List Value × List Lbl × Int × Tok) (news := news) (fun c => [(c.1, listOf c.2.2.1.toArray c.2.1)]) (fun c => [(Str.ofString "labels", Value.ref c.1), (Str.ofString "number", Value.int c.2.2.2.2.1 c.2.2.2.2.2)]) [] (fun i c => NmP k i c.2.2.1 c.2.2.2.1 c.2.2.2.2.1) ⟨_, _, _, _, _, _⟩ ?hh ?hr ?h0 ?hn lF' ?hN ?hk ?hp (fun k' c' t' u' h' tk' I' oI' own' hk' hI' F' N' o' => ?_) (fun c' u' h' tk' hI' F' N' => ?_)); (case hh => rfl); (case hr => assumption); (case h0 => omega); (case hn => omega); (case hk => kst_all); (case hN => exact newsSub lN' (by walk_at "my_sub")); (case hp => first | exact nm_pos (by assumption) (.one [] _ (by decide)) | exact nm_neg (by assumption)); (all_goals (try clear lF' lN')); (all_goals (obtain ⟨cD, cn9, cu, cl9, cnum, ctok⟩ := c'; obtain ⟨hq1, hq2, hq3⟩ := hI'; (try have hq4 := fmod_bd cnum (b := 12) (by decide)); (try dsimp only [List.cons_append, List.nil_append] at N'); (try dsimp only at hq1 hq2 hq3 hq4)))))
  k_with "KcEnd" => (refine' kc_end (σ := Addr × Nat × List Value × List Lbl × Int × Tok) ⟨_, _, _, _, _, _⟩ ?kF ?kN ?kS ?kO ?kK ?kR ?kP; (case kF => k_asm); (case kK => kst_all); (case kN => k_asm); (case kS => walk_at "my_sub"); (case kP => exact nm_next (by assumption) (by assumption) (by assumption) (by assumption)); (case kO => walk_at "my_off"); (case kR => walk_at "my_same"))
  k_steps
  all_goals exact retLs ret (nm_end (by assumption) (by assumption)) (by k_asm) (by k_asm) (by walk_at "my_sub")

end


section
variable {w : World} {mean : ExcName → Option Value} {mg mb : Str → Option Value} {dp un : Nat} {gd : Option (List Code)} {cn : Str} {cs : Scope} {a : Addr} {ccd : Value} {cl : List (Str × Addr)} {A₀ : Around} {h₀ : Heap} {L : Addr} {m : Str → Option Value} {news : Led} {s : Shared} {Q E : Value → Shared → Prop}
variable (B : Below A₀ h₀ [] h₀) (F : Fr h₀ L s.heap m) (X : (Mine.hd.heap_39 w.params).In h₀) (N : News h₀ L s.heap news) (T : Top VW LO mean mg mb h₀) (hk : cs.kind = .function)
include B F X N T hk

theorem lawjoined_c (hd : dp + 12 < recursionLimit) (hu : un + 128 < cLine) {x dx t : Addr} {hs : Int} {tk : Tok} {vs : List Value} {n n' : Nat} {ls : List Lbl} (i1 : (x, instObj 494 dx) ∈ news) (i2 : (dx, lblD hs tk t n') ∈ news) (i3 : (t, tupO vs n) ∈ news) (hb : BytesAre vs ls) (hz : ls.length ≤ 16384)
  {y dy u : Addr} {hs' : Int} {tk' : Tok} {ws : List Value} {o o' : Nat} {ms : List Lbl} (j1 : (y, instObj 494 dy) ∈ news) (j2 : (dy, lblD hs' tk' u o') ∈ news) (j3 : (u, tupO ws o) ∈ news) (hb' : BytesAre ws ms) (hz' : ms.length ≤ 16384) (hzz : ls.length + ms.length ≤ 8192) (hv1 : vcode (ls ++ ms) ≠ 1) (hv3 : (absO ls = true → ms.length = 0) → vcode (ls ++ ms) ≠ 3)
  (rA : absO ls = true → 0 < ms.length → ∀ (t : Tok) (h' : Heap) (tk' : Nat), Fr h₀ L h' m → News h₀ L h' news → Q (.str (Str.ofString "absolute") t) { s with heap := h', toks := tk' })
  (rL : vcode (ls ++ ms) = 2 → (absO ls = true → ms.length = 0) → ∀ (t : Tok) (h' : Heap) (tk' : Nat), Fr h₀ L h' m → News h₀ L h' news → Q (.str (Str.ofString "long") t) { s with heap := h', toks := tk' })
  (ret : vcode (ls ++ ms) = 0 → ∀ (D : Addr) (c : Nat) (us : List Value) (h' : Heap) (tk' : Nat), Fr h₀ L h' m → News h₀ L h' ((D, listOf us.toArray c) :: news) → BytesAre us (ls ++ ms) → Q (.ref D) { s with heap := h', toks := tk' }) :
  wpAny (model PP w) (ktrTop dp un gd cn cs L a ccd [] []) (call (.ref 567) [.ref x, .ref y]) Q E s := by
  k_with_none
  refine wpAny_call ?_
  k_dflt (refine' code_defS0 ?k1 ?k2 ?k3 ?k4 ?k5 ?kA ?k6 ?k7 ?k8 ?k9 ?kB ?_ ?kK ?c2 ?c3 ?c4 ?c5; (case kA => exact rfl); (case kK => assumption); (case k1 => k_asm); (case k2 => k_asm); (case k3 => k_asm); (case k4 => k_asm); (case k5 => k_asm); (case k6 => k_is); (case k7 => k_is); (case k8 => ktr_room); (case k9 => exact BindsTo.of_eq rfl); (case c5 => decide); (case kB => exact locs rfl); (case c2 => exact rfl); (case c3 => exact rfl); (case c4 => exact rfl); k_whole; intro g' L' h' FG' F' N' B' X' T' D'; (try dsimp only); (try k_fold))
  k_with "call ref" => (k_dflt (refine' concat_c ?k1 ?k2 ?k3 ?k4 ?k5 ?k6 ?k7 ?k8 ?i1 ?i2 ?i3 ?b ?z ?j1 ?j2 ?j3 ?bb ?zz ?zzz ?_ ?_ ?_ ?_ ?_; (case k1 => k_asm); (case k2 => k_asm); (case k3 => k_asm); (case k4 => k_asm); (case k5 => k_asm); (case k6 => first | exact rfl | assumption); (case k7 => ktr_room); (case k8 => ktr_units); (case i1 => k_mem); (case i2 => k_mem); (case i3 => k_mem); (case b => assumption); (case z => walk_at "my_len"); (case j1 => k_mem); (case j2 => k_mem); (case j3 => k_mem); (case bb => assumption); (case zz => walk_at "my_len"); (case zzz => walk_at "my_len")); (intro w9; intro v9 e9 t9 g9 h9 tk9 F9 U9 R9; (try dsimp only); (try k_fold)); rotate_left; rotate_left; (intro v9 e9 t9 g9 h9 tk9 F9 U9 R9; (try dsimp only); (try k_fold)); rotate_left; (intro w9; intro v9 e9 t9 g9 h9 tk9 F9 U9 R9; (try dsimp only); (try k_fold)); rotate_left; (intro w9; intro v9 e9 t9 g9 h9 tk9 F9 U9 R9; (try dsimp only); (try k_fold)); rotate_left; rotate_left; intro v9 x9 d9 u9 s9 k9 w9 h9 tk9 F9 N9 b9; (try dsimp only); (try k_fold); rotate_right)
  k_steps
  all_goals first
    | exact retNs (rA (by assumption) (by assumption) _) (by k_asm) (by k_asm) (by walk_at "my_sub")
    | exact retNs (rL (by assumption) (by assumption) _) (by k_asm) (by k_asm) (by walk_at "my_sub")
    | exact retLs (ret (by assumption)) (by assumption) (by k_asm) (by k_asm) (by walk_at "my_sub")
    | exact absurd (by assumption) hv1
    | exact absurd (by assumption) (hv3 (by assumption))

end

section
variable {w : World} {mean : ExcName → Option Value} {mg mb : Str → Option Value} {dp un : Nat} {gd : Option (List Code)} {cn : Str} {cs : Scope} {a : Addr} {ccd : Value} {cl : List (Str × Addr)} {outer : List Env} {A₀ : Around} {base h₀ : Heap} {L : Addr} {m : Str → Option Value} {news : Led} {s : Shared} {Q E : Value → Shared → Prop}
variable (B : Below A₀ base outer h₀) (F : Fr h₀ L s.heap m) (X : (Mine.hd.heap_39 w.params).In h₀) (N : News h₀ L s.heap news) (T : Top VW LO mean mg mb h₀) (hk : cs.kind = .function)
include B F X N T hk


theorem lawjoin_c (hd : dp + 6 < recursionLimit) (hu : un + 48 < cLine) {x : Addr} {vs : List Value} {n : Nat} {ls : List Lbl} (i1 : (x, listOf vs.toArray n) ∈ news) (hb : BytesAre vs ls) (hz : ls.length ≤ 8192) {y : Addr} {ws : List Value} {o : Nat} {ms : List Lbl} (j1 : (y, listOf ws.toArray o) ∈ news) (hb' : BytesAre ws ms) (hz' : ms.length ≤ 8192) (hzz : ls.length + ms.length ≤ 8192)
  (rA : absO ls = true → ms ≠ [] → ∀ (t : Tok) (h' : Heap) (tk' : Nat), Fr h₀ L h' m → News h₀ L h' news → Q (.str (Str.ofString "absolute") t) { s with heap := h', toks := tk' })
  (rL : (absO ls = false ∨ ms = []) → 255 < wireN (ls ++ ms) → ∀ (t : Tok) (h' : Heap) (tk' : Nat), Fr h₀ L h' m → News h₀ L h' news → Q (.str (Str.ofString "long") t) { s with heap := h', toks := tk' })
  (ret : (absO ls = false ∨ ms = []) → ¬ 255 < wireN (ls ++ ms) → ∀ (D : Addr) (c : Nat) (us : List Value) (h' : Heap) (tk' : Nat), Fr h₀ L h' m → News h₀ L h' ((D, listOf us.toArray c) :: news) → BytesAre us (ls ++ ms) → Q (.ref D) { s with heap := h', toks := tk' }) :
  wpAny (model PP w) (ktrTop dp un gd cn cs L a ccd cl outer) (call (.ref 574) [.ref x, .ref y]) Q E s := by
  k_with_none
  refine wpAny_call ?_
  k_dflt ktr_enter
  k_with "call ref" => (k_dflt (refine' lawabs_c ?k1 ?k2 ?k3 ?k4 ?k5 ?k6 ?k7 ?k8 ?i1 ?b ?z ?_; (case k1 => k_asm); (case k2 => k_asm); (case k3 => k_asm); (case k4 => k_asm); (case k5 => k_asm); (case k6 => first | exact rfl | assumption); (case k7 => ktr_room); (case k8 => ktr_units); (case i1 => k_mem); (case b => walk_at "my_bytes"); (case z => walk_at "my_len")); intro h9 tk9 F9 N9; (try dsimp only); (try k_fold))
  k_with "call ref" => (k_dflt (refine' lawwide_c ?k1 ?k2 ?k3 ?k4 ?k5 ?k6 ?k7 ?k8 ?i1 ?b ?z ?_; (case k1 => k_asm); (case k2 => k_asm); (case k3 => k_asm); (case k4 => k_asm); (case k5 => k_asm); (case k6 => first | exact rfl | assumption); (case k7 => ktr_room); (case k8 => ktr_units); (case i1 => k_mem); (case b => walk_at "my_bytes"); (case z => walk_at "my_len")); intro t9 h9 tk9 F9 N9; (try dsimp only); (try k_fold))
  k_steps
  all_goals first
    | exact retNs (rA (by assumption) (of_decide_eq_false (by assumption)) _) (by k_asm) (by k_asm) (by walk_at "my_sub")
    | exact retNs (rL (.inr (of_decide_eq_true (by assumption))) (by assumption) _) (by k_asm) (by k_asm) (by walk_at "my_sub")
    | exact retNs (rL (.inl (by assumption)) (by assumption) _) (by k_asm) (by k_asm) (by walk_at "my_sub")
    | exact retLs (ret (.inr (of_decide_eq_true (by assumption))) (by assumption)) (by assumption) (by k_asm) (by k_asm) (by walk_at "my_sub")
    | exact retLs (ret (.inl (by assumption)) (by assumption)) (by assumption) (by k_asm) (by k_asm) (by walk_at "my_sub")

end

def lawSx : { x : Scope // x = fScope (lastDef PySem.Challenge.pw_fx0004_04) ⟨.function, [], false, false, []⟩ } := ⟨Scope.mk _ _ _ _ _, by with_unfolding_all rfl⟩
def lawBx : { x : List Stmt // x = fBody (lastDef PySem.Challenge.pw_fx0004_04) } := ⟨_ :: _ :: _ :: _ :: _ :: _ :: _ :: _ :: _ :: _ :: _ :: _ :: _ :: _ :: _ :: _ :: _ :: _ :: _ :: _ :: _ :: [], by with_unfolding_all rfl⟩
def lawS : Scope := lawSx.1
def lawB : List Stmt := lawBx.1

section
variable {w : World} {mean : ExcName → Option Value} {mg mb : Str → Option Value} {dp un : Nat} {gd : Option (List Code)} {cn : Str} {a : Addr} {ccd : Value} {A₀ : Around} {h₀ : Heap} {L : Addr} {m : Str → Option Value} {news : Led} {s : Shared} {Q : Flow → Shared → Prop} {E : Value → Shared → Prop}
variable (B : Below A₀ h₀ [] h₀) (F : Fr h₀ L s.heap m) (X : (Mine.hd.heap_39 w.params).In h₀) (N : News h₀ L s.heap news) (T : Top VW LO mean mg mb h₀) (hk : lawS.kind = .function)
include B F X N T hk

theorem draw0 (hd : dp + 100 < recursionLimit) (hu : un + 1600 < cLine) {sc : Addr} {svs : List Value} {sis : List Int} (hL : h₀.IsList sc svs.toArray) (hI : IntsAre svs sis) (hn : sis.length ≤ 63) (hV : Vars m [("script", .ref sc)])
    (kk : ∀ (v : Int) (t : Tok) (m' : Str → Option Value) (h' : Heap) (tk' : Nat), Fr h₀ L h' m' → Vars m' [("script", .ref sc), ("number", .int v t)] → News h₀ L h' news →
      wpAny (model PP w) (ktrTop dp un gd cn lawS L a ccd [] []) (execs (lawB.drop 1) (envX cn lawS L a ccd [])) Q E { s with heap := h', toks := tk' }) :
    wpAny (model PP w) (ktrTop dp un gd cn lawS L a ccd [] []) (execs (lawB.drop 0) (envX cn lawS L a ccd [])) Q E s := by
  k_with_none
  with_unfolding_all show wpAny _ (ktrTop _ _ _ _ (Scope.mk _ _ _ _ _) _ _ _ _ _) (execs (_ :: _) (envX _ (Scope.mk _ _ _ _ _) _ _ _ _)) _ _ _
  k_with "cut" => (k_dflt ((with_reducible show wpAny _ _ (execs (Stmt.Assign [Expr.Name (Str.ofString "other") _] _ _ :: _) _) _ _ _); refine' kk _ _ _ _ _ ?kF ?kV ?kN; (case kF => k_asm); (case kV => walk_at "my_vars"); (case kN => k_asm)))
  k_steps
theorem draw1 (hd : dp + 100 < recursionLimit) (hu : un + 1600 < cLine) {sc : Addr} {svs : List Value} {sis : List Int} (hL : h₀.IsList sc svs.toArray) (hI : IntsAre svs sis) (hn : sis.length ≤ 63) {v : Int} {t : Tok} (hV : Vars m [("script", .ref sc), ("number", .int v t)])
    (kk : ∀ (v' : Int) (t' : Tok) (m' : Str → Option Value) (h' : Heap) (tk' : Nat), Fr h₀ L h' m' → Vars m' [("script", .ref sc), ("number", .int v t), ("other", .int v' t')] → News h₀ L h' news →
      wpAny (model PP w) (ktrTop dp un gd cn lawS L a ccd [] []) (execs (lawB.drop 2) (envX cn lawS L a ccd [])) Q E { s with heap := h', toks := tk' }) :
    wpAny (model PP w) (ktrTop dp un gd cn lawS L a ccd [] []) (execs (lawB.drop 1) (envX cn lawS L a ccd [])) Q E s := by
  k_with_none
  with_unfolding_all show wpAny _ (ktrTop _ _ _ _ (Scope.mk _ _ _ _ _) _ _ _ _ _) (execs (_ :: _) (envX _ (Scope.mk _ _ _ _ _) _ _ _ _)) _ _ _
  k_with "cut" => (k_dflt ((with_reducible show wpAny _ _ (execs (Stmt.Assign [Expr.Name (Str.ofString "labels") _] _ _ :: _) _) _ _ _); refine' kk _ _ _ _ _ ?kF ?kV ?kN; (case kF => k_asm); (case kV => walk_at "my_vars"); (case kN => k_asm)))
  k_steps

end

section
variable {w : World} {mean : ExcName → Option Value} {mg mb : Str → Option Value} {dp un : Nat} {gd : Option (List Code)} {cn : Str} {a : Addr} {ccd : Value} {A₀ : Around} {h₀ : Heap} {L : Addr} {m : Str → Option Value} {news : Led} {s : Shared} {Q : Flow → Shared → Prop} {E : Value → Shared → Prop}
variable (B : Below A₀ h₀ [] h₀) (F : Fr h₀ L s.heap m) (X : (Mine.hd.heap_39 w.params).In h₀) (N : News h₀ L s.heap news) (T : Top VW LO mean mg mb h₀) (hk : lawS.kind = .function)
include B F X N T hk

theorem draw2 (hd : dp + 100 < recursionLimit) (hu : un + 1600 < cLine) {sc : Addr} {svs : List Value} {sis : List Int} (hL : h₀.IsList sc svs.toArray) (hI : IntsAre svs sis) (hn : sis.length ≤ 63) {v : Int} {t : Tok} {v' : Int} {t' : Tok} (hV : Vars m [("script", .ref sc), ("number", .int v t), ("other", .int v' t')])
    (kk : ∀ (D : Addr) (c : Nat) (us : List Value) (ls : List Lbl) (D' : Addr) (c' : Nat) (us' : List Value) (ms : List Lbl) (m' : Str → Option Value) (h' : Heap) (tk' : Nat), Fr h₀ L h' m' → Vars m' [("script", .ref sc), ("labels", .ref D), ("origin", .ref D')] → News h₀ L h' ((D', listOf us'.toArray c') :: (D, listOf us.toArray c) :: news) → BytesAre us ls → Ok5 ls → BytesAre us' ms → Ok5 ms → wpAny (model PP w) (ktrTop dp un gd cn lawS L a ccd [] []) (execs (lawB.drop 5) (envX cn lawS L a ccd [])) Q NoE { s with heap := h', toks := tk' }) :
    wpAny (model PP w) (ktrTop dp un gd cn lawS L a ccd [] []) (execs (lawB.drop 2) (envX cn lawS L a ccd [])) Q NoE s := by
  have hq3 := fmod_bd v' (b := 3) (by decide)
  have hq4 := (ok_name v).n
  have hq5 := (ok_name (v'.fdiv 3)).n
  have hq6 : 0 < ((lawName v).length : Int) → 0 ≤ (v'.fdiv 3).fmod ((lawName v).length : Int) := fun h => (fmod_bd _ h).1
  k_with_none
  with_unfolding_all show wpAny _ (ktrTop _ _ _ _ (Scope.mk _ _ _ _ _) _ _ _ _ _) (execs (_ :: _) (envX _ (Scope.mk _ _ _ _ _) _ _ _ _)) _ _ _
  k_with "cut" => (k_dflt ((with_reducible show wpAny _ _ (execs (Stmt.Assign [Expr.Name (Str.ofString "third") _] _ _ :: _) _) _ _ _); refine PkE ?_))
  k_with "call ref" => (k_dflt (refine' lawname_c ?k1 ?k2 ?k3 ?k4 ?k5 ?k6 ?k7 ?k8 ?_; (case k1 => k_asm); (case k2 => k_asm); (case k3 => k_asm); (case k4 => k_asm); (case k5 => k_asm); (case k6 => first | exact rfl | assumption); (case k7 => ktr_room); (case k8 => ktr_units)); intro D9 c9 us9 h9 tk9 F9 N9 b9; (try dsimp only); (try k_fold))
  k_with "my comp" => (k_dflt (refine LCg.Assign_ListComp_U (F₀ := by k_asm) (by rfl) (by with_unfolding_all rfl) (by with_unfolding_all rfl) (by decide) (by rfl) (by decide) (by rfl) (by rfl) (by rfl) ?_))
  k_with "CompSrc" => ((rename BytesAre _ _ => hb9); (refine LCg.CompSrc.ledger (by rfl) (by k_asm) (by k_asm) (by k_mem) (by rw [List.size_toArray, sizeLine_eq, hb9.length]; simp only [List.length_drop]; omega) ?_); intro g'; refine comp_mapA (fun _ v y => ∀ (l : Lbl) (t : Tok), v = .bytes l.toArray t → ∃ u, y = .bytes (uppB l).toArray u ∧ (uppB l).length ≤ 4096) (Or.inr ⟨_, by k_mem, rfl, _, rfl⟩) (fun i1 v1 I1 oI1 C1 oC1 D1 m1 ys1 h1 tk1 E1 hv1 hC1 hx1 F1 N1 off1 => ?_) (fun ys1 hl1 hy1 => ?_); all_goals (first | (obtain ⟨l', t', hl', hv2', hz'⟩ := hb9.at_ hv1; subst hv2') | (have b9 := all_map uppB hb9 hl1 hy1; clear hy1 hl1)))
  k_with "elt" => (exact elt_map uppB (by assumption))
  k_steps
  all_goals try (exfalso; (have q8 := of_decide_eq_false (by assumption : decide (lawName v = []) = false)); exact q8 (List.eq_nil_of_length_eq_zero (by omega)))
  all_goals refine PkD ?_
  all_goals k_dflt (refine' kk _ _ _ _ _ _ _ _ _ _ _ ?kF ?kV ?kN ?kb ?ko ?kc ?kp; (case kF => k_asm); (case kV => walk_at "my_vars"); (case kN => exact newsSub (by k_asm) (by walk_at "my_sub")); (case kb => assumption); (case kc => assumption); (case ko => exact ok_name _); (case kp => first | exact ok_name _ | exact (ok_name _).drop _ | exact ((ok_name _).drop _).upp))

end

section
variable {w : World} {mean : ExcName → Option Value} {mg mb : Str → Option Value} {dp un : Nat} {gd : Option (List Code)} {cn : Str} {a : Addr} {ccd : Value} {A₀ : Around} {h₀ : Heap} {L : Addr} {m : Str → Option Value} {news : Led} {s : Shared} {Q : Flow → Shared → Prop} {E : Value → Shared → Prop}
variable (B : Below A₀ h₀ [] h₀) (F : Fr h₀ L s.heap m) (X : (Mine.hd.heap_39 w.params).In h₀) (N : News h₀ L s.heap news) (T : Top VW LO mean mg mb h₀) (hk : lawS.kind = .function)
include B F X N T hk

theorem draw5 (hd : dp + 100 < recursionLimit) (hu : un + 1600 < cLine) {sc : Addr} {svs : List Value} {sis : List Int} (hL : h₀.IsList sc svs.toArray) (hI : IntsAre svs sis) (hn : sis.length ≤ 63) {D D' : Addr} (hV : Vars m [("script", .ref sc), ("labels", .ref D), ("origin", .ref D')])
    (kk : ∀ (D3 : Addr) (c : Nat) (us : List Value) (ls : List Lbl) (m' : Str → Option Value) (h' : Heap) (tk' : Nat), Fr h₀ L h' m' → Vars m' [("script", .ref sc), ("labels", .ref D), ("origin", .ref D'), ("third", .ref D3)] → News h₀ L h' ((D3, listOf us.toArray c) :: news) → BytesAre us ls → Ok5 ls → wpAny (model PP w) (ktrTop dp un gd cn lawS L a ccd [] []) (execs (lawB.drop 6) (envX cn lawS L a ccd [])) Q NoE { s with heap := h', toks := tk' }) :
    wpAny (model PP w) (ktrTop dp un gd cn lawS L a ccd [] []) (execs (lawB.drop 5) (envX cn lawS L a ccd [])) Q NoE s := by
  k_with_none
  with_unfolding_all show wpAny _ (ktrTop _ _ _ _ (Scope.mk _ _ _ _ _) _ _ _ _ _) (execs (_ :: _) (envX _ (Scope.mk _ _ _ _ _) _ _ _ _)) _ _ _
  k_with "cut" => (k_dflt ((with_reducible show wpAny _ _ (execs (Stmt.Assign [Expr.Tuple _ _ _] _ _ :: _) _) _ _ _); refine' kk _ _ _ _ _ _ _ ?kF ?kV ?kN ?kb ?ko; (case kF => k_asm); (case kV => walk_at "my_vars"); (case kN => k_asm); (case kb => assumption); (case ko => exact ok_name _)))
  k_with "call ref" => (k_dflt (refine' lawname_c ?k1 ?k2 ?k3 ?k4 ?k5 ?k6 ?k7 ?k8 ?_; (case k1 => k_asm); (case k2 => k_asm); (case k3 => k_asm); (case k4 => k_asm); (case k5 => k_asm); (case k6 => first | exact rfl | assumption); (case k7 => ktr_room); (case k8 => ktr_units)); intro D9 c9 us9 h9 tk9 F9 N9 b9; (try dsimp only); (try k_fold))
  k_steps

end

section
variable {w : World} {mean : ExcName → Option Value} {mg mb : Str → Option Value} {dp un : Nat} {gd : Option (List Code)} {cn : Str} {a : Addr} {ccd : Value} {A₀ : Around} {h₀ : Heap} {L : Addr} {m : Str → Option Value} {news : Led} {s : Shared} {Q : Flow → Shared → Prop} {E : Value → Shared → Prop}
variable (B : Below A₀ h₀ [] h₀) (F : Fr h₀ L s.heap m) (X : (Mine.hd.heap_39 w.params).In h₀) (N : News h₀ L s.heap news) (T : Top VW LO mean mg mb h₀) (hk : lawS.kind = .function)
include B F X N T hk

theorem names6 (hd : dp + 100 < recursionLimit) (hu : un + 1600 < cLine) {sc D D' D3 : Addr} {c c' c3 : Nat} {vs vs' vs3 : List Value} {ls ms ts : List Lbl} (hV : Vars m [("script", .ref sc), ("labels", .ref D), ("origin", .ref D'), ("third", .ref D3)])
    (i1 : (D, listOf vs.toArray c) ∈ news) (b1 : BytesAre vs ls) (i2 : (D', listOf vs'.toArray c') ∈ news) (b2 : BytesAre vs' ms) (i3 : (D3, listOf vs3.toArray c3) ∈ news) (b3 : BytesAre vs3 ts) (v1 : vcode ls = 0) (l1 : ls.length ≤ 5) (v2 : vcode ms = 0) (l2 : ms.length ≤ 5) (v3 : vcode ts = 0) (l3 : ts.length ≤ 5)
    (kk : ∀ (x dx t : Addr) (hs : Int) (tk : Tok) (us : List Value) (x' dx' t' : Addr) (hs' : Int) (tk1 : Tok) (us' : List Value) (x3 dx3 t3 : Addr) (hs3 : Int) (tk3 : Tok) (us3 : List Value) (m' : Str → Option Value) (h' : Heap) (tk' : Nat), Fr h₀ L h' m' → Vars m' [("script", .ref sc), ("labels", .ref D), ("origin", .ref D'), ("third", .ref D3), ("name", .ref x), ("end", .ref x'), ("more", .ref x3), ("long", .ref D3)] → News h₀ L h' ((x3, instObj 494 dx3) :: (dx3, lblD hs3 tk3 t3 1) :: (t3, tupO us3 0) :: (x', instObj 494 dx') :: (dx', lblD hs' tk1 t' 1) :: (t', tupO us' 0) :: (x, instObj 494 dx) :: (dx, lblD hs tk t 1) :: (t, tupO us 0) :: news) → BytesAre us ls → BytesAre us' ms → BytesAre us3 ts → wpAny (model PP w) (ktrTop dp un gd cn lawS L a ccd [] []) (execs (lawB.drop 8) (envX cn lawS L a ccd [])) Q NoE { s with heap := h', toks := tk' }) :
    wpAny (model PP w) (ktrTop dp un gd cn lawS L a ccd [] []) (execs (lawB.drop 6) (envX cn lawS L a ccd [])) Q NoE s := by
  k_with_none
  with_unfolding_all show wpAny _ (ktrTop _ _ _ _ (Scope.mk _ _ _ _ _) _ _ _ _ _) (execs (_ :: _) (envX _ (Scope.mk _ _ _ _ _) _ _ _ _)) _ _ _
  k_with "cut" => (k_dflt ((with_reducible show wpAny _ _ (execs (Stmt.For _ _ _ _ _ :: _) _) _ _ _); refine PkE ?_))
  k_with "call ref" => (k_dflt (refine' name_v ?k1 ?k2 ?k3 ?k4 ?k5 ?k6 ?k7 ?k8 ?i3 ?b ?z ?v ?_; (case k1 => k_asm); (case k2 => k_asm); (case k3 => k_asm); (case k4 => k_asm); (case k5 => k_asm); (case k6 => first | exact rfl | assumption); (case k7 => ktr_room); (case k8 => ktr_units); (case i3 => k_mem); (case b => walk_at "my_bytes"); (case z => walk_at "my_len"); (case v => walk_at "my_v")); intro x9 d9 u9 s9 k9 w9 h9 tk9 F9 N9 b9; (try dsimp only); (try k_fold))
  k_steps
  all_goals refine PkD ?_
  all_goals k_dflt (refine' kk _ _ _ _ _ _ _ _ _ _ _ _ _ _ _ _ _ _ _ _ _ ?kF ?kV ?kN ?kb ?kc ?kd; (case kF => k_asm); (case kV => walk_at "my_vars"); (case kN => exact newsSub (by k_asm) (by walk_at "my_sub")); (case kb => assumption); (case kc => assumption); (case kd => assumption))

end

section
variable {w : World} {mean : ExcName → Option Value} {mg mb : Str → Option Value} {dp un : Nat} {gd : Option (List Code)} {cn : Str} {a : Addr} {ccd : Value} {A₀ : Around} {h₀ : Heap} {L : Addr} {m : Str → Option Value} {news : Led} {s : Shared} {Q : Flow → Shared → Prop} {E : Value → Shared → Prop}
variable (B : Below A₀ h₀ [] h₀) (F : Fr h₀ L s.heap m) (X : (Mine.hd.heap_39 w.params).In h₀) (N : News h₀ L s.heap news) (T : Top VW LO mean mg mb h₀) (hk : lawS.kind = .function)
include B F X N T hk

theorem pairs8 (hd : dp + 100 < recursionLimit) (hu : un + 1600 < cLine) {sc D D' D3 x x' x3 : Addr} {c c' c3 : Nat} {vs vs' vs3 : List Value} {ls ms ts : List Lbl} (hV : Vars m [("script", .ref sc), ("labels", .ref D), ("origin", .ref D'), ("third", .ref D3), ("name", .ref x), ("end", .ref x'), ("more", .ref x3), ("long", .ref D3)])
    (i1 : (D, listOf vs.toArray c) ∈ news) (b1 : BytesAre vs ls) (i2 : (D', listOf vs'.toArray c') ∈ news) (b2 : BytesAre vs' ms) (i3 : (D3, listOf vs3.toArray c3) ∈ news) (b3 : BytesAre vs3 ts) (v1 : vcode ls = 0) (l1 : ls.length ≤ 5) (v2 : vcode ms = 0) (l2 : ms.length ≤ 5) (v3 : vcode ts = 0) (l3 : ts.length ≤ 5)
    (kk : ∀  (m' : Str → Option Value) (h' : Heap) (tk' : Nat), Fr h₀ L h' m' → Vars m' [("script", .ref sc), ("labels", .ref D), ("origin", .ref D'), ("third", .ref D3), ("name", .ref x), ("end", .ref x'), ("more", .ref x3), ("long", .ref D3)] → News h₀ L h' (news) →  wpAny (model PP w) (ktrTop dp un gd cn lawS L a ccd [] []) (execs (lawB.drop 9) (envX cn lawS L a ccd [])) Q NoE { s with heap := h', toks := tk' }) :
    wpAny (model PP w) (ktrTop dp un gd cn lawS L a ccd [] []) (execs (lawB.drop 8) (envX cn lawS L a ccd [])) Q NoE s := by
  k_with_none
  with_unfolding_all show wpAny _ (ktrTop _ _ _ _ (Scope.mk _ _ _ _ _) _ _ _ _ _) (execs (_ :: _) (envX _ (Scope.mk _ _ _ _ _) _ _ _ _)) _ _ _
  k_with "cut" => (k_dflt ((with_reducible show wpAny _ _ (execs (Stmt.For (Expr.Name _ _) _ _ _ _ :: _) _) _ _ _); refine' kk _ _ _ ?kF ?kV ?kN; (case kF => k_asm); (case kV => exact Vars.keep hm' hV rfl); (case kN => exact newsSub (by k_asm) (by walk_at "my_sub"))))
  k_with "my for" => (k_dflt ((rename Fr _ _ _ _ => lF'); (with_unfolding_all refine' For_turns lF' ?_); k_whole))
  k_with "my iter" => (k_dflt ((with_reducible show wpAny _ _ (pyIter (Value.ref _)) (fun it s₂ => TurnsAt _ _ _ _ _ _ _ _ _ it s₂) _ _); (rename Fr _ _ _ _ => lF'); (rename News _ _ _ _ => lN'); (with_unfolding_all refine' kt_pairs [Str.ofString "one", Str.ofString "two"] rfl ?khl lF' lN' ?khA (fun m' h' tk' big' p' n' one' c' us' ls' two' d' ws' ms' hm' F' N' q1 q2 q3 q4 q5 q6 q7 q8 q9 => ?_) (fun m' h' tk' hm' F' N' => ?_)); (case khl => k_mem); (case khA => exact ⟨⟨_, _, D, _, _, _, D', _, _, _, rfl, by k_mem, by k_mem, b1, v1, l1, by k_mem, b2, v2, l2⟩, ⟨_, _, D, _, _, _, D3, _, _, _, rfl, by k_mem, by k_mem, b1, v1, l1, by k_mem, b3, v3, l3⟩, ⟨_, _, D3, _, _, _, D, _, _, _, rfl, by k_mem, by k_mem, b3, v3, l3, by k_mem, b1, v1, l1⟩, ⟨_, _, D', _, _, _, _, _, _, _, rfl, by k_mem, by k_mem, b2, v2, l2, by k_mem, BytesAre.nil, by rfl, by decide⟩, trivial⟩); (all_goals clear lF' lN'); (all_goals (try dsimp only))))
  k_with "call ref" => (k_dflt (refine' name_v ?k1 ?k2 ?k3 ?k4 ?k5 ?k6 ?k7 ?k8 ?i3 ?b ?z ?v ?_; (case k1 => k_asm); (case k2 => k_asm); (case k3 => k_asm); (case k4 => k_asm); (case k5 => k_asm); (case k6 => first | exact rfl | assumption); (case k7 => ktr_room); (case k8 => ktr_units); (case i3 => k_mem); (case b => walk_at "my_bytes"); (case z => walk_at "my_len"); (case v => walk_at "my_v")); intro x9 d9 u9 s9 k9 w9 h9 tk9 F9 N9 b9; (try dsimp only); (try k_fold))
  k_with "call ref" => (k_dflt (refine' lawjoined_c ?k1 ?k2 ?k3 ?k4 ?k5 ?k6 ?k7 ?k8 ?i1 ?i2 ?i3 ?b ?z ?j1 ?j2 ?j3 ?bb ?zz ?zzz ?n1 ?n3 ?_ ?_ ?_; (case k1 => k_asm); (case k2 => k_asm); (case k3 => k_asm); (case k4 => k_asm); (case k5 => k_asm); (case k6 => first | exact rfl | assumption); (case k7 => ktr_room); (case k8 => ktr_units); (case i1 => k_mem); (case i2 => k_mem); (case i3 => k_mem); (case b => assumption); (case z => walk_at "my_len"); (case j1 => k_mem); (case j2 => k_mem); (case j3 => k_mem); (case bb => assumption); (case zz => walk_at "my_len"); (case zzz => walk_at "my_len"); (case n1 => exact j_not1 (by assumption) (by assumption)); (case n3 => exact j_not3 (by assumption) (by assumption))); (first | (focus (intro a9 p9 t9 h9 tk9 F9 N9; (exfalso; first | exact jc_AL (by assumption) (by assumption) (by assumption) | exact jc_LA (by assumption) (by assumption) (by assumption) | exact jc_RA (by assumption) (by assumption) (by assumption) | exact jc_RL (by assumption) (by assumption) | exact jc_LR (by assumption) (by assumption) (by assumption) (by assumption) (by assumption)))) | ((focus (intro a9 p9 t9 h9 tk9 F9 N9; (try dsimp only); (try k_fold))); rotate_left)); (first | (focus (intro a9 p9 t9 h9 tk9 F9 N9; (exfalso; first | exact jc_AL (by assumption) (by assumption) (by assumption) | exact jc_LA (by assumption) (by assumption) (by assumption) | exact jc_RA (by assumption) (by assumption) (by assumption) | exact jc_RL (by assumption) (by assumption) | exact jc_LR (by assumption) (by assumption) (by assumption) (by assumption) (by assumption)))) | ((focus (intro a9 p9 t9 h9 tk9 F9 N9; (try dsimp only); (try k_fold))); rotate_left)); (try (first | (focus (intro z9 D9 c9 us9 h9 tk9 F9 N9 b9; (exfalso; first | exact jc_AL (by assumption) (by assumption) (by assumption) | exact jc_LA (by assumption) (by assumption) (by assumption) | exact jc_RA (by assumption) (by assumption) (by assumption) | exact jc_RL (by assumption) (by assumption) | exact jc_LR (by assumption) (by assumption) (by assumption) (by assumption) (by assumption)))) | ((focus (intro z9 D9 c9 us9 h9 tk9 F9 N9 b9; (try dsimp only); (try k_fold))); rotate_left))))
  k_with "call ref" => (k_dflt (refine' lawjoin_c ?k1 ?k2 ?k3 ?k4 ?k5 ?k6 ?k7 ?k8 ?i1 ?b ?z ?j1 ?bb ?zz ?zzz ?_ ?_ ?_; (case k1 => k_asm); (case k2 => k_asm); (case k3 => k_asm); (case k4 => k_asm); (case k5 => k_asm); (case k6 => first | exact rfl | assumption); (case k7 => ktr_room); (case k8 => ktr_units); (case i1 => k_mem); (case b => walk_at "my_bytes"); (case z => walk_at "my_len"); (case j1 => k_mem); (case bb => walk_at "my_bytes"); (case zz => walk_at "my_len"); (case zzz => walk_at "my_len")); (first | (focus (intro a9 p9 t9 h9 tk9 F9 N9; (exfalso; first | exact jc_AL (by assumption) (by assumption) (by assumption) | exact jc_LA (by assumption) (by assumption) (by assumption) | exact jc_RA (by assumption) (by assumption) (by assumption) | exact jc_RL (by assumption) (by assumption) | exact jc_LR (by assumption) (by assumption) (by assumption) (by assumption) (by assumption)))) | ((focus (intro a9 p9 t9 h9 tk9 F9 N9; (try dsimp only); (try k_fold))); rotate_left)); (first | (focus (intro a9 p9 t9 h9 tk9 F9 N9; (exfalso; first | exact jc_AL (by assumption) (by assumption) (by assumption) | exact jc_LA (by assumption) (by assumption) (by assumption) | exact jc_RA (by assumption) (by assumption) (by assumption) | exact jc_RL (by assumption) (by assumption) | exact jc_LR (by assumption) (by assumption) (by assumption) (by assumption) (by assumption)))) | ((focus (intro a9 p9 t9 h9 tk9 F9 N9; (try dsimp only); (try k_fold))); rotate_left)); (try (first | (focus (intro a9 q9 D9 c9 us9 h9 tk9 F9 N9 b9; (exfalso; first | exact jc_AL (by assumption) (by assumption) (by assumption) | exact jc_LA (by assumption) (by assumption) (by assumption) | exact jc_RA (by assumption) (by assumption) (by assumption) | exact jc_RL (by assumption) (by assumption) | exact jc_LR (by assumption) (by assumption) (by assumption) (by assumption) (by assumption)))) | ((focus (intro a9 q9 D9 c9 us9 h9 tk9 F9 N9 b9; (try dsimp only); (try k_fold))); rotate_left))))
  k_with "ktend" => (refine' kt_end ?kF ?kN ?kS ?kR; (case kF => k_asm); (case kN => k_asm); (case kS => walk_at "my_sub"); (case kR => exact kt_same hm'))
  k_steps
  all_goals exact absurd rfl (by assumption : ¬ _ = _)

end

section
variable {w : World} {mean : ExcName → Option Value} {mg mb : Str → Option Value} {dp un : Nat} {gd : Option (List Code)} {cn : Str} {a : Addr} {ccd : Value} {A₀ : Around} {h₀ : Heap} {L : Addr} {m : Str → Option Value} {news : Led} {s : Shared} {Q : Flow → Shared → Prop} {E : Value → Shared → Prop}
variable (B : Below A₀ h₀ [] h₀) (F : Fr h₀ L s.heap m) (X : (Mine.hd.heap_39 w.params).In h₀) (N : News h₀ L s.heap news) (T : Top VW LO mean mg mb h₀) (hk : lawS.kind = .function)
include B F X N T hk

theorem rng9 (hd : dp + 100 < recursionLimit) (hu : un + 1600 < cLine) {sc D D' D3 x x' x3 dx3 t3 : Addr} {hs3 : Int} {tk3 : Tok} {c3 n3 : Nat} {vs3 us3 : List Value} {ts : List Lbl} (hV : Vars m [("script", .ref sc), ("labels", .ref D), ("origin", .ref D'), ("third", .ref D3), ("name", .ref x), ("end", .ref x'), ("more", .ref x3), ("long", .ref D3)])
    (i3 : (D3, listOf vs3.toArray c3) ∈ news) (b3 : BytesAre vs3 ts) (v3 : vcode ts = 0) (l3 : ts.length ≤ 5) (x3m : (x3, instObj 494 dx3) ∈ news) (y3m : (dx3, lblD hs3 tk3 t3 n3) ∈ news) (z3m : (t3, tupO us3 0) ∈ news) (bu3 : BytesAre us3 ts)
    (kk : ∀  (m' : Str → Option Value) (h' : Heap) (tk' : Nat), Fr h₀ L h' m' → Vars m' [("script", .ref sc), ("labels", .ref D), ("origin", .ref D'), ("name", .ref x), ("end", .ref x')] → News h₀ L h' (news) →  wpAny (model PP w) (ktrTop dp un gd cn lawS L a ccd [] []) (execs (lawB.drop 10) (envX cn lawS L a ccd [])) Q NoE { s with heap := h', toks := tk' }) :
    wpAny (model PP w) (ktrTop dp un gd cn lawS L a ccd [] []) (execs (lawB.drop 9) (envX cn lawS L a ccd [])) Q NoE s := by
  k_with_none
  with_unfolding_all show wpAny _ (ktrTop _ _ _ _ (Scope.mk _ _ _ _ _) _ _ _ _ _) (execs (_ :: _) (envX _ (Scope.mk _ _ _ _ _) _ _ _ _)) _ _ _
  k_with "cut" => (k_dflt ((with_reducible show wpAny _ _ (execs (Stmt.Assign [Expr.Name (Str.ofString "depth") _] _ _ :: _) _) _ _ _); refine' kk _ _ _ ?kF ?kV ?kN; (case kF => k_asm); (case kV => walk_at "my_vars"); (case kN => exact newsSub (by k_asm) (by walk_at "my_sub"))))
  k_with "my iter" => (k_dflt ((with_reducible show wpAny _ _ (pyIter (Value.ref _)) (fun it s₂ => LoopAtV _ _ _ _ _ _ _ _ _ it s₂) _ _); (rename Fr _ _ _ _ => lF'); (rename News _ _ _ _ => lN'); (with_unfolding_all refine' kc_rng2 (σ := Addr × Nat × List Value × List Lbl) (news := news) (fun c => [(c.1, listOf c.2.2.1.toArray c.2.1)]) (fun c => [(Str.ofString "long", Value.ref c.1)]) [Str.ofString "due", Str.ofString "told"] (fun i c => BytesAre c.2.2.1 c.2.2.2 ∧ vcode c.2.2.2 = 0) ⟨D3, c3, vs3, ts⟩ ?hh ?hr ?h0 ?hn lF' ?hN ?hk ?hp (fun k' c' t' u' h' tk' I' oI' own' hk' hI' F' N' hz' o' => ?_) (fun c' u' h' tk' hI' F' N' => ?_)); (case hh => rfl); (case hr => assumption); (case h0 => omega); (case hn => omega); (case hk => (intro p hp; rw [List.mem_singleton.mp hp]; refine' hV.get ?kLook; (case kLook => with_unfolding_all rfl))); (case hp => exact ⟨b3, v3⟩); (case hN => exact newsSub lN' (sub_cons i3)); (all_goals (try clear lF' lN')); (all_goals (obtain ⟨cD, cn9, cu, cl9⟩ := c'; obtain ⟨hq1, hq2⟩ := hI'; (try have hq3 := v_len hq2); (try have ja := List.mem_append_left own' i3); (try have jb := List.mem_append_left own' x3m); (try have jc := List.mem_append_left own' y3m); (try have jd := List.mem_append_left own' z3m); (try dsimp only [List.cons_append, List.nil_append] at N'); (try dsimp only at hq1 hq2 hq3)))))
  k_with "call ref" => (k_dflt (refine' name_v ?k1 ?k2 ?k3 ?k4 ?k5 ?k6 ?k7 ?k8 ?i3 ?b ?z ?v ?_; (case k1 => k_asm); (case k2 => k_asm); (case k3 => k_asm); (case k4 => k_asm); (case k5 => k_asm); (case k6 => first | exact rfl | assumption); (case k7 => ktr_room); (case k8 => ktr_units); (case i3 => k_mem); (case b => walk_at "my_bytes"); (case z => walk_at "my_len"); (case v => walk_at "my_v")); intro x9 d9 u9 s9 k9 w9 h9 tk9 F9 N9 b9; (try dsimp only); (try k_fold))
  k_with "call ref" => (k_dflt (refine' lawjoined_c ?k1 ?k2 ?k3 ?k4 ?k5 ?k6 ?k7 ?k8 ?i1 ?i2 ?i3 ?b ?z ?j1 ?j2 ?j3 ?bb ?zz ?zzz ?n1 ?n3 ?_ ?_ ?_; (case k1 => k_asm); (case k2 => k_asm); (case k3 => k_asm); (case k4 => k_asm); (case k5 => k_asm); (case k6 => first | exact rfl | assumption); (case k7 => ktr_room); (case k8 => ktr_units); (case i1 => k_mem); (case i2 => k_mem); (case i3 => k_mem); (case b => assumption); (case z => walk_at "my_len"); (case j1 => k_mem); (case j2 => k_mem); (case j3 => k_mem); (case bb => assumption); (case zz => walk_at "my_len"); (case zzz => walk_at "my_len"); (case n1 => exact j_not1 (by assumption) (by assumption)); (case n3 => exact j_not3 (by assumption) (by assumption))); (first | (focus (intro a9 p9 t9 h9 tk9 F9 N9; (exfalso; first | exact jc_AL (by assumption) (by assumption) (by assumption) | exact jc_LA (by assumption) (by assumption) (by assumption) | exact jc_RA (by assumption) (by assumption) (by assumption) | exact jc_RL (by assumption) (by assumption) | exact jc_LR (by assumption) (by assumption) (by assumption) (by assumption) (by assumption)))) | ((focus (intro a9 p9 t9 h9 tk9 F9 N9; (try dsimp only); (try k_fold))); rotate_left)); (first | (focus (intro a9 p9 t9 h9 tk9 F9 N9; (exfalso; first | exact jc_AL (by assumption) (by assumption) (by assumption) | exact jc_LA (by assumption) (by assumption) (by assumption) | exact jc_RA (by assumption) (by assumption) (by assumption) | exact jc_RL (by assumption) (by assumption) | exact jc_LR (by assumption) (by assumption) (by assumption) (by assumption) (by assumption)))) | ((focus (intro a9 p9 t9 h9 tk9 F9 N9; (try dsimp only); (try k_fold))); rotate_left)); (try (first | (focus (intro z9 D9 c9 us9 h9 tk9 F9 N9 b9; (exfalso; first | exact jc_AL (by assumption) (by assumption) (by assumption) | exact jc_LA (by assumption) (by assumption) (by assumption) | exact jc_RA (by assumption) (by assumption) (by assumption) | exact jc_RL (by assumption) (by assumption) | exact jc_LR (by assumption) (by assumption) (by assumption) (by assumption) (by assumption)))) | ((focus (intro z9 D9 c9 us9 h9 tk9 F9 N9 b9; (try dsimp only); (try k_fold))); rotate_left))))
  k_with "call ref" => (k_dflt (refine' lawjoin_c ?k1 ?k2 ?k3 ?k4 ?k5 ?k6 ?k7 ?k8 ?i1 ?b ?z ?j1 ?bb ?zz ?zzz ?_ ?_ ?_; (case k1 => k_asm); (case k2 => k_asm); (case k3 => k_asm); (case k4 => k_asm); (case k5 => k_asm); (case k6 => first | exact rfl | assumption); (case k7 => ktr_room); (case k8 => ktr_units); (case i1 => k_mem); (case b => walk_at "my_bytes"); (case z => walk_at "my_len"); (case j1 => k_mem); (case bb => walk_at "my_bytes"); (case zz => walk_at "my_len"); (case zzz => walk_at "my_len")); (first | (focus (intro a9 p9 t9 h9 tk9 F9 N9; (exfalso; first | exact jc_AL (by assumption) (by assumption) (by assumption) | exact jc_LA (by assumption) (by assumption) (by assumption) | exact jc_RA (by assumption) (by assumption) (by assumption) | exact jc_RL (by assumption) (by assumption) | exact jc_LR (by assumption) (by assumption) (by assumption) (by assumption) (by assumption)))) | ((focus (intro a9 p9 t9 h9 tk9 F9 N9; (try dsimp only); (try k_fold))); rotate_left)); (first | (focus (intro a9 p9 t9 h9 tk9 F9 N9; (exfalso; first | exact jc_AL (by assumption) (by assumption) (by assumption) | exact jc_LA (by assumption) (by assumption) (by assumption) | exact jc_RA (by assumption) (by assumption) (by assumption) | exact jc_RL (by assumption) (by assumption) | exact jc_LR (by assumption) (by assumption) (by assumption) (by assumption) (by assumption)))) | ((focus (intro a9 p9 t9 h9 tk9 F9 N9; (try dsimp only); (try k_fold))); rotate_left)); (try (first | (focus (intro a9 q9 D9 c9 us9 h9 tk9 F9 N9 b9; (exfalso; first | exact jc_AL (by assumption) (by assumption) (by assumption) | exact jc_LA (by assumption) (by assumption) (by assumption) | exact jc_RA (by assumption) (by assumption) (by assumption) | exact jc_RL (by assumption) (by assumption) | exact jc_LR (by assumption) (by assumption) (by assumption) (by assumption) (by assumption)))) | ((focus (intro a9 q9 D9 c9 us9 h9 tk9 F9 N9 b9; (try dsimp only); (try k_fold))); rotate_left))))
  k_with "KcEnd" => (refine' kc_end (σ := Addr × Nat × List Value × List Lbl) ⟨_, _, _, _⟩ ?kF ?kN ?kS ?kO ?kK ?kR ?kP; (case kF => k_asm); (case kK => kst_all); (case kN => k_asm); (case kS => walk_at "my_sub"); (case kP => exact ⟨by assumption, by assumption⟩); (case kO => exact list_off (by k_asm) (by k_mem) (by k_mem) (by assumption)); (case kR => walk_at "my_same"))
  k_steps
  all_goals exact absurd rfl (by assumption : ¬ _ = _)

end

section
variable {w : World} {mean : ExcName → Option Value} {mg mb : Str → Option Value} {dp un : Nat} {gd : Option (List Code)} {cn : Str} {a : Addr} {ccd : Value} {A₀ : Around} {h₀ : Heap} {L : Addr} {m : Str → Option Value} {news : Led} {s : Shared} {Q : Flow → Shared → Prop} {E : Value → Shared → Prop}
variable (B : Below A₀ h₀ [] h₀) (F : Fr h₀ L s.heap m) (X : (Mine.hd.heap_39 w.params).In h₀) (N : News h₀ L s.heap news) (T : Top VW LO mean mg mb h₀) (hk : lawS.kind = .function)
include B F X N T hk

theorem depth10 (hd : dp + 100 < recursionLimit) (hu : un + 1600 < cLine) {sc D D' x x' : Addr} {svs : List Value} {sis : List Int} (hL : h₀.IsList sc svs.toArray) (hI : IntsAre svs sis) (hn : sis.length ≤ 63) (hV : Vars m [("script", .ref sc), ("labels", .ref D), ("origin", .ref D'), ("name", .ref x), ("end", .ref x')])
    (kk : ∀ (d : Int) (t : Tok) (m' : Str → Option Value) (h' : Heap) (tk' : Nat), Fr h₀ L h' m' → Vars m' [("labels", .ref D), ("origin", .ref D'), ("name", .ref x), ("end", .ref x'), ("depth", .int d t)] → News h₀ L h' (news) → -2 ≤ d → d ≤ 6 → wpAny (model PP w) (ktrTop dp un gd cn lawS L a ccd [] []) (execs (lawB.drop 11) (envX cn lawS L a ccd [])) Q NoE { s with heap := h', toks := tk' }) :
    wpAny (model PP w) (ktrTop dp un gd cn lawS L a ccd [] []) (execs (lawB.drop 10) (envX cn lawS L a ccd [])) Q NoE s := by
  have hq : ∀ z : Int, 0 ≤ z.fmod 9 ∧ z.fmod 9 < 9 := fun z => fmod_bd z (by decide)
  have hq1 := fmod_bd (1 : Int) (b := 9) (by decide)
  k_with_none
  with_unfolding_all show wpAny _ (ktrTop _ _ _ _ (Scope.mk _ _ _ _ _) _ _ _ _ _) (execs (_ :: _) (envX _ (Scope.mk _ _ _ _ _) _ _ _ _)) _ _ _
  k_with "cut" => (k_dflt ((with_reducible show wpAny _ _ (execs (Stmt.Try _ _ _ _ _ :: _) _) _ _ _); refine' kk _ _ _ _ _ ?kF ?kV ?kN ?ka ?kb; (case kF => k_asm); (case kV => walk_at "my_vars"); (case kN => k_asm); (case ka => first | exact dep_lo (hq _) | exact dep_lo hq1 | omega); (case kb => first | exact dep_hi (hq _) | exact dep_hi hq1 | omega)))
  k_steps

end

section
variable {w : World} {mean : ExcName → Option Value} {mg mb : Str → Option Value} {dp un : Nat} {gd : Option (List Code)} {cn : Str} {a : Addr} {ccd : Value} {h₀ : Heap} {L : Addr} {m : Str → Option Value} {news : Led} {s : Shared} {Q : Flow → Shared → Prop} {E : Value → Shared → Prop}
variable (B : Below (cA dp un gd) h₀ [] h₀) (F : Fr h₀ L s.heap m) (X : (Mine.hd.heap_39 w.params).In h₀) (N : News h₀ L s.heap news) (T : Top VW LO mean mg mb h₀) (hk : lawS.kind = .function)
include B F X N T hk

set_option maxHeartbeats 24000000 in
theorem split11 (hd : dp + 100 < recursionLimit) (hu : un + 1600 < cLine) {D D' x x' dx t : Addr} {hs : Int} {tk : Tok} {c n : Nat} {vs us : List Value} {ls : List Lbl} {d : Int} {td : Tok} (hV : Vars m [("labels", .ref D), ("origin", .ref D'), ("name", .ref x), ("end", .ref x'), ("depth", .int d td)])
    (i1 : (D, listOf vs.toArray c) ∈ news) (b1 : BytesAre vs ls) (v1 : vcode ls = 0) (l1 : ls.length ≤ 5) (xm : (x, instObj 494 dx) ∈ news) (ym : (dx, lblD hs tk t n) ∈ news) (zm : (t, tupO us 0) ∈ news) (bu : BytesAre us ls) (hd1 : -2 ≤ d) (hd2 : d ≤ 6)
    (kk : ∀  (m' : Str → Option Value) (h' : Heap) (tk' : Nat), Fr h₀ L h' m' → Vars m' [("labels", .ref D), ("origin", .ref D'), ("name", .ref x), ("end", .ref x')] → News h₀ L h' (news) →  wpAny (model PP w) ((cA dp un gd).deeper (envOf cn lawS L a ccd)) (execs (lawB.drop 12) (envOf cn lawS L a ccd)) Q NoE { s with heap := h', toks := tk' }) :
    wpAny (model PP w) ((cA dp un gd).deeper (envOf cn lawS L a ccd)) (execs (lawB.drop 11) (envOf cn lawS L a ccd)) Q NoE s := by
  k_with_none
  with_unfolding_all show wpAny _ (Around.deeper _ (envOf _ (Scope.mk _ _ _ _ _) _ _ _)) (execs (_ :: _) (envOf _ (Scope.mk _ _ _ _ _) _ _ _)) _ _ _
  k_with "cut" => (k_dflt ((with_reducible show wpAny _ _ (execs (Stmt.Try (Stmt.If _ _ _ _ :: _) _ _ _ _ :: _) _) _ _ _); refine' kk _ _ _ ?kF ?kV ?kN; (case kF => k_asm); (case kV => walk_at "my_vars"); (case kN => exact newsSub (by k_asm) (by walk_at "my_sub"))))
  k_with "call ref" => (k_dflt (refine' split_c ?k1 ?k2 ?k3 ?k4 ?k5 ?k6 ?k7 ?k8 ?i1 ?i2 ?i3 ?b ?z ?v ?_ ?_ ?_ ?_; (case k1 => k_asm); (case k2 => k_asm); (case k3 => k_asm); (case k4 => k_asm); (case k5 => k_asm); (case k6 => first | exact rfl | assumption); (case k7 => ktr_room); (case k8 => ktr_units); (case i1 => k_mem); (case i2 => k_mem); (case i3 => k_mem); (case b => assumption); (case z => walk_at "my_len"); (case v => assumption)); ((focus (intro y9 r9 h9 tk9 F9 N9; (try dsimp only); (try k_fold))); rotate_left); ((focus (intro z9 y9 r9 h9 tk9 F9 N9; (try dsimp only); (try k_fold))); rotate_left); ((focus (intro y9 xs9 e9 t9 g9 h9 tk9 F9 U9 R8; have R9 := R8.toK; clear R8; (try dsimp only); (try k_fold))); rotate_left); ((focus (intro y9 z9 r9 x9 d9 u9 s9 k9 w9 x8 d8 u8 s8 k8 w8 h9 tk9 F9 N9 b9 b8; (try dsimp only); (try k_fold))); rotate_left))
  k_steps
  all_goals first
    | exact absurd (sp_a (by assumption)) (by assumption)
    | exact absurd (sp_b (by assumption)) (of_decide_eq_false (by assumption))
    | exact absurd (sp_c (by assumption)) (of_decide_eq_false (by assumption))
    | exact absurd (sp_d (by assumption)) (by assumption)
    | exact absurd (sp_e (by assumption) (by assumption)) (by assumption)
    | exact absurd (sp_f (by assumption) (by assumption)) (by assumption)

end

section
variable {w : World} {mean : ExcName → Option Value} {mg mb : Str → Option Value} {dp un : Nat} {gd : Option (List Code)} {cn : Str} {a : Addr} {ccd : Value} {h₀ : Heap} {L : Addr} {m : Str → Option Value} {news : Led} {s : Shared} {Q : Flow → Shared → Prop} {E : Value → Shared → Prop}
variable (B : Below (cA dp un gd) h₀ [] h₀) (F : Fr h₀ L s.heap m) (X : (Mine.hd.heap_39 w.params).In h₀) (N : News h₀ L s.heap news) (T : Top VW LO mean mg mb h₀) (hk : lawS.kind = .function)
include B F X N T hk

theorem parent12 (hd : dp + 100 < recursionLimit) (hu : un + 1600 < cLine) {D D' x x' dx t : Addr} {hs : Int} {tk : Tok} {c n : Nat} {vs us : List Value} {ls : List Lbl} (hV : Vars m [("labels", .ref D), ("origin", .ref D'), ("name", .ref x), ("end", .ref x')])
    (i1 : (D, listOf vs.toArray c) ∈ news) (b1 : BytesAre vs ls) (v1 : vcode ls = 0) (l1 : ls.length ≤ 5) (xm : (x, instObj 494 dx) ∈ news) (ym : (dx, lblD hs tk t n) ∈ news) (zm : (t, tupO us 0) ∈ news) (bu : BytesAre us ls)
    (kk : ∀  (m' : Str → Option Value) (h' : Heap) (tk' : Nat), Fr h₀ L h' m' → Vars m' [("labels", .ref D), ("origin", .ref D'), ("name", .ref x), ("end", .ref x')] → News h₀ L h' (news) →  wpAny (model PP w) ((cA dp un gd).deeper (envOf cn lawS L a ccd)) (execs (lawB.drop 13) (envOf cn lawS L a ccd)) Q NoE { s with heap := h', toks := tk' }) :
    wpAny (model PP w) ((cA dp un gd).deeper (envOf cn lawS L a ccd)) (execs (lawB.drop 12) (envOf cn lawS L a ccd)) Q NoE s := by
  k_with_none
  with_unfolding_all show wpAny _ (Around.deeper _ (envOf _ (Scope.mk _ _ _ _ _) _ _ _)) (execs (_ :: _) (envOf _ (Scope.mk _ _ _ _ _) _ _ _)) _ _ _
  k_with "cut" => (k_dflt ((with_reducible show wpAny _ _ (execs (Stmt.If (PySem.Expr.Compare (PySem.Expr.Name (Str.ofString "origin") _) _ _ _) _ _ _ :: _) _) _ _ _); refine' kk _ _ _ ?kF ?kV ?kN; (case kF => k_asm); (case kV => walk_at "my_vars"); (case kN => exact newsSub (by k_asm) (by walk_at "my_sub"))))
  k_with "call ref" => (k_dflt (refine' parent_c ?k1 ?k2 ?k3 ?k4 ?k5 ?k6 ?k7 ?k8 ?i1 ?i2 ?i3 ?b ?z ?v ?_ ?_; (case k1 => k_asm); (case k2 => k_asm); (case k3 => k_asm); (case k4 => k_asm); (case k5 => k_asm); (case k6 => first | exact rfl | assumption); (case k7 => ktr_room); (case k8 => ktr_units); (case i1 => k_mem); (case i2 => k_mem); (case i3 => k_mem); (case b => assumption); (case z => walk_at "my_len"); (case v => assumption)); ((focus (intro y9 e9 t9 g9 h9 tk9 F9 U9 R8; have R9 := R8.toK; clear R8; (try dsimp only); (try k_fold))); rotate_left); ((focus (intro y9 z9 x9 d9 u9 s9 k9 w9 h9 tk9 F9 N9 b9; (try dsimp only); (try k_fold))); rotate_left))
  k_steps
  all_goals first
    | exact (pa_1 (by assumption) (by assumption) (by assumption)).elim
    | exact absurd rfl (by assumption : ¬ List.drop 1 _ = _)

end

section
variable {w : World} {mean : ExcName → Option Value} {mg mb : Str → Option Value} {dp un : Nat} {gd : Option (List Code)} {cn : Str} {a : Addr} {ccd : Value} {A₀ : Around} {h₀ : Heap} {L : Addr} {m : Str → Option Value} {news : Led} {s : Shared} {Q : Flow → Shared → Prop} {E : Value → Shared → Prop}
variable (B : Below A₀ h₀ [] h₀) (F : Fr h₀ L s.heap m) (X : (Mine.hd.heap_39 w.params).In h₀) (N : News h₀ L s.heap news) (T : Top VW LO mean mg mb h₀) (hk : lawS.kind = .function)
include B F X N T hk

theorem orig13 (hd : dp + 100 < recursionLimit) (hu : un + 1600 < cLine) {D D' x x' dx t dx' t' : Addr} {hs hs' : Int} {tk tk1 : Tok} {c n c' n' : Nat} {vs us vs' us' : List Value} {ls ms : List Lbl} (hV : Vars m [("labels", .ref D), ("origin", .ref D'), ("name", .ref x), ("end", .ref x')])
    (i2 : (D', listOf vs'.toArray c') ∈ news) (b2 : BytesAre vs' ms) (l2 : ms.length ≤ 5) (v1 : vcode ls = 0) (l1 : ls.length ≤ 5) (xm : (x, instObj 494 dx) ∈ news) (ym : (dx, lblD hs tk t n) ∈ news) (zm : (t, tupO us 0) ∈ news) (bu : BytesAre us ls)
    (xm' : (x', instObj 494 dx') ∈ news) (ym' : (dx', lblD hs' tk1 t' n') ∈ news) (zm' : (t', tupO us' 0) ∈ news) (bu' : BytesAre us' ms) (rt : ∀ (m' : Str → Option Value) (h' : Heap) (tk' : Nat), Fr h₀ L h' m' → Q (.ret (.bool true)) { s with heap := h', toks := tk' })
    (kk : ∀  (m' : Str → Option Value) (h' : Heap) (tk' : Nat), Fr h₀ L h' m' → Vars m' [("labels", .ref D), ("origin", .ref D'), ("name", .ref x), ("end", .ref x')] → News h₀ L h' (news) → 0 < ms.length → wpAny (model PP w) (ktrTop dp un gd cn lawS L a ccd [] []) (execs (lawB.drop 14) (envX cn lawS L a ccd [])) Q NoE { s with heap := h', toks := tk' }) :
    wpAny (model PP w) (ktrTop dp un gd cn lawS L a ccd [] []) (execs (lawB.drop 13) (envX cn lawS L a ccd [])) Q NoE s := by
  k_with_none
  with_unfolding_all show wpAny _ (ktrTop _ _ _ _ (Scope.mk _ _ _ _ _) _ _ _ _ _) (execs (_ :: _) (envX _ (Scope.mk _ _ _ _ _) _ _ _ _)) _ _ _
  k_with "cut" => (k_dflt ((with_reducible show wpAny _ _ (execs (Stmt.Assign [Expr.Name (Str.ofString "under") _] _ _ :: _) _) _ _ _); refine' kk _ _ _ ?kF ?kV ?kN ?kp; (case kF => k_asm); (case kV => walk_at "my_vars"); (case kN => exact newsSub (by k_asm) (by walk_at "my_sub")); (case kp => exact List.length_pos_iff.mpr (of_decide_eq_false (by assumption)))))
  k_with "call ref" => (k_dflt (refine' chooseE_c ?k1 ?k2 ?k3 ?k4 ?k5 ?k6 ?k7 ?k8 ?i1 ?i2 ?i3 ?b ?z ?j1 ?j2 ?j3 ?bb ?zz ?v ?_; (case k1 => k_asm); (case k2 => k_asm); (case k3 => k_asm); (case k4 => k_asm); (case k5 => k_asm); (case k6 => first | exact rfl | assumption); (case k7 => ktr_room); (case k8 => ktr_units); (case i1 => k_mem); (case i2 => k_mem); (case i3 => k_mem); (case b => assumption); (case z => walk_at "my_len"); (case j1 => k_mem); (case j2 => k_mem); (case j3 => k_mem); (case bb => assumption); (case zz => walk_at "my_len"); (case v => exact of_decide_eq_true (by assumption))); intro h9 tk9 F9 N9; (try dsimp only); (try k_fold))
  k_with "call ref" => (k_dflt (refine' chooseN_c ?k1 ?k2 ?k3 ?k4 ?k5 ?k6 ?k7 ?k8 ?i1 ?i2 ?i3 ?b ?z ?_; (case k1 => k_asm); (case k2 => k_asm); (case k3 => k_asm); (case k4 => k_asm); (case k5 => k_asm); (case k6 => first | exact rfl | assumption); (case k7 => ktr_room); (case k8 => ktr_units); (case i1 => k_mem); (case i2 => k_mem); (case i3 => k_mem); (case b => assumption); (case z => walk_at "my_len")); intro h9 tk9 F9 N9; (try dsimp only); (try k_fold))
  k_with "call ref" => (k_dflt (refine' eq_c ?k1 ?k2 ?k3 ?k4 ?k5 ?k6 ?k7 ?k8 ?i1 ?i2 ?i3 ?b ?z ?j1 ?j2 ?j3 ?bb ?zz ?_; (case k1 => k_asm); (case k2 => k_asm); (case k3 => k_asm); (case k4 => k_asm); (case k5 => k_asm); (case k6 => first | exact rfl | assumption); (case k7 => ktr_room); (case k8 => ktr_units); (case i1 => k_mem); (case i2 => k_mem); (case i3 => k_mem); (case b => assumption); (case z => walk_at "my_len"); (case j1 => k_mem); (case j2 => k_mem); (case j3 => k_mem); (case bb => assumption); (case zz => walk_at "my_len")); intro h9 tk9 F9 N9; (try dsimp only [PySem.W.CmpBack, PySem.W.LenBack, PySem.W.BoolBack]); (try k_fold))
  k_steps
  all_goals first
    | exact absurd (ordO_self _) (by assumption)
    | (rw [decide_eq_true (ordO_self _)]; exact rt _ _ _ (by k_asm))

end

section
variable {w : World} {mean : ExcName → Option Value} {mg mb : Str → Option Value} {dp un : Nat} {gd : Option (List Code)} {cn : Str} {a : Addr} {ccd : Value} {A₀ : Around} {h₀ : Heap} {L : Addr} {m : Str → Option Value} {news : Led} {s : Shared} {Q : Flow → Shared → Prop} {E : Value → Shared → Prop}
variable (B : Below A₀ h₀ [] h₀) (F : Fr h₀ L s.heap m) (X : (Mine.hd.heap_39 w.params).In h₀) (N : News h₀ L s.heap news) (T : Top VW LO mean mg mb h₀) (hk : lawS.kind = .function)
include B F X N T hk

theorem short14 (hd : dp + 100 < recursionLimit) (hu : un + 1600 < cLine) {D D' x x' : Addr} {c c' : Nat} {vs vs' : List Value} {ls ms : List Lbl} (hV : Vars m [("labels", .ref D), ("origin", .ref D'), ("name", .ref x), ("end", .ref x')])
    (i1 : (D, listOf vs.toArray c) ∈ news) (b1 : BytesAre vs ls) (l1 : ls.length ≤ 5) (i2 : (D', listOf vs'.toArray c') ∈ news) (b2 : BytesAre vs' ms) (l2 : ms.length ≤ 5)
    (kk : ∀ (Ds : Addr) (cs : Nat) (us : List Value) (sh : List Lbl) (m' : Str → Option Value) (h' : Heap) (tk' : Nat), Fr h₀ L h' m' → Vars m' [("labels", .ref D), ("origin", .ref D'), ("name", .ref x), ("end", .ref x'), ("under", .bool (undO ls ms)), ("short", .ref Ds)] → News h₀ L h' ((Ds, listOf us.toArray cs) :: news) → BytesAre us sh → (undO ls ms = true → sh = ls.take (ls.length - ms.length)) → (undO ls ms = false → sh = ls) → wpAny (model PP w) (ktrTop dp un gd cn lawS L a ccd [] []) (execs (lawB.drop 16) (envX cn lawS L a ccd [])) Q NoE { s with heap := h', toks := tk' }) :
    wpAny (model PP w) (ktrTop dp un gd cn lawS L a ccd [] []) (execs (lawB.drop 14) (envX cn lawS L a ccd [])) Q NoE s := by
  k_with_none
  with_unfolding_all show wpAny _ (ktrTop _ _ _ _ (Scope.mk _ _ _ _ _) _ _ _ _ _) (execs (_ :: _) (envX _ (Scope.mk _ _ _ _ _) _ _ _ _)) _ _ _
  k_with "cut" => (k_dflt ((with_reducible show wpAny _ _ (execs (Stmt.If _ _ _ _ :: _) _) _ _ _); refine PkE ?_))
  k_with "call ref" => (k_dflt (refine' lawunder_c ?k1 ?k2 ?k3 ?k4 ?k5 ?k6 ?k7 ?k8 ?i1 ?b ?z ?j1 ?bb ?zz ?_; (case k1 => k_asm); (case k2 => k_asm); (case k3 => k_asm); (case k4 => k_asm); (case k5 => k_asm); (case k6 => first | exact rfl | assumption); (case k7 => ktr_room); (case k8 => ktr_units); (case i1 => k_mem); (case b => walk_at "my_bytes"); (case z => walk_at "my_len"); (case j1 => k_mem); (case bb => walk_at "my_bytes"); (case zz => walk_at "my_len")); intro h9 tk9 F9 N9; (try rw [hun]); (try dsimp only); (try k_fold))
  rcases Bool.eq_false_or_eq_true (undO ls ms) with hun | hun
  · have hq := und_len hun
    rw [hun] at kk
    k_steps
    all_goals refine PkD ?_
    all_goals k_dflt (refine' kk _ _ _ _ _ _ _ ?kF ?kV ?kN ?kb ?ka ?kc; (case kF => k_asm); (case kV => walk_at "my_vars"); (case kN => exact newsSub (by k_asm) (by walk_at "my_sub")); (case kb => assumption); (case ka => exact fun _ => take_sub hq); (case kc => exact fun h => nomatch h))
  · rw [hun] at kk
    k_steps
    all_goals refine PkD ?_
    all_goals k_dflt (refine' kk _ c vs ls _ _ _ ?kF ?kV ?kN ?kb ?ka ?kc; (case kF => k_asm); (case kV => walk_at "my_vars"); (case kN => exact newsSub (by k_asm) (sub_cons i1)); (case kb => exact b1); (case ka => exact fun h => nomatch h); (case kc => exact fun _ => rfl))

end

section
variable {w : World} {mean : ExcName → Option Value} {mg mb : Str → Option Value} {dp un : Nat} {gd : Option (List Code)} {cn : Str} {a : Addr} {ccd : Value} {A₀ : Around} {h₀ : Heap} {L : Addr} {m : Str → Option Value} {news : Led} {s : Shared} {Q : Flow → Shared → Prop} {E : Value → Shared → Prop}
variable (B : Below A₀ h₀ [] h₀) (F : Fr h₀ L s.heap m) (X : (Mine.hd.heap_39 w.params).In h₀) (N : News h₀ L s.heap news) (T : Top VW LO mean mg mb h₀) (hk : lawS.kind = .function)
include B F X N T hk

theorem rel16 (hd : dp + 100 < recursionLimit) (hu : un + 1600 < cLine) {D D' Ds x x' dx t dx' t' : Addr} {hs hs' : Int} {tk tk1 : Tok} {c n c' n' cs : Nat} {vs us vs' us' vs3 : List Value} {ls ms sh : List Lbl} (hV : Vars m [("labels", .ref D), ("origin", .ref D'), ("name", .ref x), ("end", .ref x'), ("under", .bool (undO ls ms)), ("short", .ref Ds)])
    (i1 : (D, listOf vs.toArray c) ∈ news) (b1 : BytesAre vs ls) (v1 : vcode ls = 0) (l1 : ls.length ≤ 5) (i2 : (D', listOf vs'.toArray c') ∈ news) (b2 : BytesAre vs' ms) (v2 : vcode ms = 0) (l2 : ms.length ≤ 5) (xm : (x, instObj 494 dx) ∈ news) (ym : (dx, lblD hs tk t n) ∈ news) (zm : (t, tupO us 0) ∈ news) (bu : BytesAre us ls)
    (xm' : (x', instObj 494 dx') ∈ news) (ym' : (dx', lblD hs' tk1 t' n') ∈ news) (zm' : (t', tupO us' 0) ∈ news) (bu' : BytesAre us' ms) (hm : 0 < ms.length) (i3 : (Ds, listOf vs3.toArray cs) ∈ news) (b3 : BytesAre vs3 sh) (h1 : undO ls ms = true → sh = ls.take (ls.length - ms.length)) (h2 : undO ls ms = false → sh = ls)
    (kk : ∀  (m' : Str → Option Value) (h' : Heap) (tk' : Nat), Fr h₀ L h' m' → Vars m' [("labels", .ref D), ("origin", .ref D'), ("name", .ref x), ("end", .ref x'), ("under", .bool (undO ls ms)), ("short", .ref Ds)] → News h₀ L h' (news) →  wpAny (model PP w) (ktrTop dp un gd cn lawS L a ccd [] []) (execs (lawB.drop 18) (envX cn lawS L a ccd [])) Q NoE { s with heap := h', toks := tk' }) :
    wpAny (model PP w) (ktrTop dp un gd cn lawS L a ccd [] []) (execs (lawB.drop 16) (envX cn lawS L a ccd [])) Q NoE s := by
  k_with_none
  with_unfolding_all show wpAny _ (ktrTop _ _ _ _ (Scope.mk _ _ _ _ _) _ _ _ _ _) (execs (_ :: _) (envX _ (Scope.mk _ _ _ _ _) _ _ _ _)) _ _ _
  k_with "cut" => (k_dflt ((with_reducible show wpAny _ _ (execs (Stmt.If (PySem.Expr.BoolOp BoolOp.And _ _) _ _ _ :: _) _) _ _ _); refine' kk _ _ _ ?kF ?kV ?kN; (case kF => k_asm); (case kV => walk_at "my_vars"); (case kN => exact newsSub (by k_asm) (by walk_at "my_sub"))))
  k_with "call ref" => (k_dflt (refine' relativize_c ?k1 ?k2 ?k3 ?k4 ?k5 ?k6 ?k7 ?k8 ?i1 ?i2 ?i3 ?b ?z ?j1 ?j2 ?j3 ?bb ?zz ?m ?v ?_ ?_; (case k1 => k_asm); (case k2 => k_asm); (case k3 => k_asm); (case k4 => k_asm); (case k5 => k_asm); (case k6 => first | exact rfl | assumption); (case k7 => ktr_room); (case k8 => ktr_units); (case i1 => k_mem); (case i2 => k_mem); (case i3 => k_mem); (case b => assumption); (case z => walk_at "my_len"); (case j1 => k_mem); (case j2 => k_mem); (case j3 => k_mem); (case bb => assumption); (case zz => walk_at "my_len"); (case m => assumption); (case v => assumption)); (first | (focus (intro v9 h9 tk9 F9 N9; exfalso; rw [hun] at v9; exact Bool.noConfusion v9)) | ((focus (intro v9 h9 tk9 F9 N9; (try dsimp only [PySem.W.CmpBack, PySem.W.LenBack, PySem.W.BoolBack]); (try k_fold))); rotate_left)); (try (first | (focus (intro v9 x9 d9 u9 s9 k9 w9 h9 tk9 F9 N9 b9; exfalso; rw [hun] at v9; exact Bool.noConfusion v9)) | ((focus (intro v9 x9 d9 u9 s9 k9 w9 h9 tk9 F9 N9 b9; (try dsimp only [PySem.W.CmpBack, PySem.W.LenBack, PySem.W.BoolBack]); (try k_fold))); rotate_left))))
  k_with "call ref" => (k_dflt (refine' sub_c ?k1 ?k2 ?k3 ?k4 ?k5 ?k6 ?k7 ?k8 ?i1 ?i2 ?i3 ?b ?z ?j1 ?j2 ?j3 ?bb ?zz ?m ?v ?_ ?_; (case k1 => k_asm); (case k2 => k_asm); (case k3 => k_asm); (case k4 => k_asm); (case k5 => k_asm); (case k6 => first | exact rfl | assumption); (case k7 => ktr_room); (case k8 => ktr_units); (case i1 => k_mem); (case i2 => k_mem); (case i3 => k_mem); (case b => assumption); (case z => walk_at "my_len"); (case j1 => k_mem); (case j2 => k_mem); (case j3 => k_mem); (case bb => assumption); (case zz => walk_at "my_len"); (case m => assumption); (case v => assumption)); (first | (focus (intro v9 h9 tk9 F9 N9; exfalso; rw [hun] at v9; exact Bool.noConfusion v9)) | ((focus (intro v9 h9 tk9 F9 N9; (try dsimp only [PySem.W.CmpBack, PySem.W.LenBack, PySem.W.BoolBack]); (try k_fold))); rotate_left)); (try (first | (focus (intro v9 x9 d9 u9 s9 k9 w9 h9 tk9 F9 N9 b9; exfalso; rw [hun] at v9; exact Bool.noConfusion v9)) | ((focus (intro v9 x9 d9 u9 s9 k9 w9 h9 tk9 F9 N9 b9; (try dsimp only [PySem.W.CmpBack, PySem.W.LenBack, PySem.W.BoolBack]); (try k_fold))); rotate_left))))
  k_with "call ref" => (k_dflt (refine' choose1_c ?k1 ?k2 ?k3 ?k4 ?k5 ?k6 ?k7 ?k8 ?i1 ?i2 ?i3 ?b ?z ?j1 ?j2 ?j3 ?bb ?zz ?m ?v ?_ ?_; (case k1 => k_asm); (case k2 => k_asm); (case k3 => k_asm); (case k4 => k_asm); (case k5 => k_asm); (case k6 => first | exact rfl | assumption); (case k7 => ktr_room); (case k8 => ktr_units); (case i1 => k_mem); (case i2 => k_mem); (case i3 => k_mem); (case b => assumption); (case z => walk_at "my_len"); (case j1 => k_mem); (case j2 => k_mem); (case j3 => k_mem); (case bb => assumption); (case zz => walk_at "my_len"); (case m => assumption); (case v => assumption)); (first | (focus (intro v9 h9 tk9 F9 N9; exfalso; rw [hun] at v9; exact Bool.noConfusion v9)) | ((focus (intro v9 h9 tk9 F9 N9; (try dsimp only [PySem.W.CmpBack, PySem.W.LenBack, PySem.W.BoolBack]); (try k_fold))); rotate_left)); (try (first | (focus (intro v9 x9 d9 u9 s9 k9 w9 h9 tk9 F9 N9 b9; exfalso; rw [hun] at v9; exact Bool.noConfusion v9)) | ((focus (intro v9 x9 d9 u9 s9 k9 w9 h9 tk9 F9 N9 b9; (try dsimp only [PySem.W.CmpBack, PySem.W.LenBack, PySem.W.BoolBack]); (try k_fold))); rotate_left))))
  k_with "call ref" => (k_dflt (refine' is_subdomain_c ?k1 ?k2 ?k3 ?k4 ?k5 ?k6 ?k7 ?k8 ?i1 ?i2 ?i3 ?b ?z ?j1 ?j2 ?j3 ?bb ?zz ?_; (case k1 => k_asm); (case k2 => k_asm); (case k3 => k_asm); (case k4 => k_asm); (case k5 => k_asm); (case k6 => first | exact rfl | assumption); (case k7 => ktr_room); (case k8 => ktr_units); (case i1 => k_mem); (case i2 => k_mem); (case i3 => k_mem); (case b => assumption); (case z => walk_at "my_len"); (case j1 => k_mem); (case j2 => k_mem); (case j3 => k_mem); (case bb => assumption); (case zz => walk_at "my_len")); intro h9 tk9 F9 N9; (try rw [subO_und, hun]); (try dsimp only); (try k_fold))
  rcases Bool.eq_false_or_eq_true (undO ls ms) with hun | hun
  · have hs' := h1 hun
    subst hs'
    rw [hun] at hV kk
    k_steps
    all_goals exact absurd rfl (by assumption : ¬ _ = _)
  · have hs' := h2 hun
    subst hs'
    rw [hun] at hV kk
    k_steps
    all_goals exact absurd rfl (by assumption : ¬ _ = _)

end

section
variable {w : World} {mean : ExcName → Option Value} {mg mb : Str → Option Value} {dp un : Nat} {gd : Option (List Code)} {cn : Str} {a : Addr} {ccd : Value} {A₀ : Around} {h₀ : Heap} {L : Addr} {m : Str → Option Value} {news : Led} {s : Shared} {Q : Flow → Shared → Prop} {E : Value → Shared → Prop}
variable (B : Below A₀ h₀ [] h₀) (F : Fr h₀ L s.heap m) (X : (Mine.hd.heap_39 w.params).In h₀) (N : News h₀ L s.heap news) (T : Top VW LO mean mg mb h₀) (hk : lawS.kind = .function)
include B F X N T hk

theorem plus18 (hd : dp + 100 < recursionLimit) (hu : un + 1600 < cLine) {D D' Ds x x' dx t dx' t' : Addr} {hs hs' : Int} {tk tk1 : Tok} {c n c' n' cs : Nat} {vs us vs' us' vs3 : List Value} {ls ms sh : List Lbl} (hV : Vars m [("labels", .ref D), ("origin", .ref D'), ("name", .ref x), ("end", .ref x'), ("under", .bool (undO ls ms)), ("short", .ref Ds)])
    (i1 : (D, listOf vs.toArray c) ∈ news) (b1 : BytesAre vs ls) (v1 : vcode ls = 0) (l1 : ls.length ≤ 5) (i2 : (D', listOf vs'.toArray c') ∈ news) (b2 : BytesAre vs' ms) (v2 : vcode ms = 0) (l2 : ms.length ≤ 5) (xm : (x, instObj 494 dx) ∈ news) (ym : (dx, lblD hs tk t n) ∈ news) (zm : (t, tupO us 0) ∈ news) (bu : BytesAre us ls)
    (xm' : (x', instObj 494 dx') ∈ news) (ym' : (dx', lblD hs' tk1 t' n') ∈ news) (zm' : (t', tupO us' 0) ∈ news) (bu' : BytesAre us' ms) (hm : 0 < ms.length) (i3 : (Ds, listOf vs3.toArray cs) ∈ news) (b3 : BytesAre vs3 sh) (h1 : undO ls ms = true → sh = ls.take (ls.length - ms.length)) (h2 : undO ls ms = false → sh = ls)
    (kk : ∀  (m' : Str → Option Value) (h' : Heap) (tk' : Nat), Fr h₀ L h' m' → Vars m' [("labels", .ref D), ("origin", .ref D'), ("name", .ref x), ("end", .ref x')] → News h₀ L h' (news) →  wpAny (model PP w) (ktrTop dp un gd cn lawS L a ccd [] []) (execs (lawB.drop 19) (envX cn lawS L a ccd [])) Q NoE { s with heap := h', toks := tk' }) :
    wpAny (model PP w) (ktrTop dp un gd cn lawS L a ccd [] []) (execs (lawB.drop 18) (envX cn lawS L a ccd [])) Q NoE s := by
  k_with_none
  with_unfolding_all show wpAny _ (ktrTop _ _ _ _ (Scope.mk _ _ _ _ _) _ _ _ _ _) (execs (_ :: _) (envX _ (Scope.mk _ _ _ _ _) _ _ _ _)) _ _ _
  k_with "cut" => (k_dflt ((with_reducible show wpAny _ _ (execs (Stmt.If (PySem.Expr.BoolOp BoolOp.Or _ _) _ _ _ :: _) _) _ _ _); refine' kk _ _ _ ?kF ?kV ?kN; (case kF => k_asm); (case kV => walk_at "my_vars"); (case kN => exact newsSub (by k_asm) (by walk_at "my_sub"))))
  k_with "call ref" => (k_dflt (refine' name_v ?k1 ?k2 ?k3 ?k4 ?k5 ?k6 ?k7 ?k8 ?i3 ?b ?z ?v ?_; (case k1 => k_asm); (case k2 => k_asm); (case k3 => k_asm); (case k4 => k_asm); (case k5 => k_asm); (case k6 => first | exact rfl | assumption); (case k7 => ktr_room); (case k8 => ktr_units); (case i3 => k_mem); (case b => walk_at "my_bytes"); (case z => walk_at "my_len"); (case v => walk_at "my_v")); intro x9 d9 u9 s9 k9 w9 h9 tk9 F9 N9 b9; (try dsimp only); (try k_fold))
  k_with "call ref" => (k_dflt (refine' add_c ?k1 ?k2 ?k3 ?k4 ?k5 ?k6 ?k7 ?k8 ?i1 ?i2 ?i3 ?b ?z ?j1 ?j2 ?j3 ?bb ?zz ?v ?zzz ?hA ?_; (case k1 => k_asm); (case k2 => k_asm); (case k3 => k_asm); (case k4 => k_asm); (case k5 => k_asm); (case k6 => first | exact rfl | assumption); (case k7 => ktr_room); (case k8 => ktr_units); (case i1 => k_mem); (case i2 => k_mem); (case i3 => k_mem); (case b => assumption); (case z => walk_at "my_len"); (case j1 => k_mem); (case j2 => k_mem); (case j3 => k_mem); (case bb => assumption); (case zz => walk_at "my_len"); (case v => exact und_v hun v1); (case zzz => walk_at "my_len"); (case hA => exact sh_abs' v1 hm)); intro x9 d9 u9 s9 k9 w9 h9 tk9 F9 N9 b9; (try dsimp only [PySem.W.CmpBack, PySem.W.LenBack, PySem.W.BoolBack]); (try k_fold))
  k_with "call ref" => (k_dflt (refine' ne_c ?k1 ?k2 ?k3 ?k4 ?k5 ?k6 ?k7 ?k8 ?i1 ?i2 ?i3 ?b ?z ?j1 ?j2 ?j3 ?bb ?zz ?_; (case k1 => k_asm); (case k2 => k_asm); (case k3 => k_asm); (case k4 => k_asm); (case k5 => k_asm); (case k6 => first | exact rfl | assumption); (case k7 => ktr_room); (case k8 => ktr_units); (case i1 => k_mem); (case i2 => k_mem); (case i3 => k_mem); (case b => assumption); (case z => walk_at "my_len"); (case j1 => k_mem); (case j2 => k_mem); (case j3 => k_mem); (case bb => assumption); (case zz => walk_at "my_len")); intro h9 tk9 F9 N9; (try dsimp only [PySem.W.CmpBack, PySem.W.LenBack, PySem.W.BoolBack]); (try k_fold))
  rcases Bool.eq_false_or_eq_true (undO ls ms) with hun | hun
  · have hs' := h1 hun
    subst hs'
    have v3 : vcode (ls.take (ls.length - ms.length)) = 0 := v_take v1 _
    rw [hun] at hV
    k_steps
    all_goals first | exact absurd (und_ord hun) (by assumption) | exact absurd rfl (by assumption : ¬ _ = _)
  · rw [hun] at hV
    k_steps
    all_goals first | exact absurd (und_ord hun) (by assumption) | exact absurd rfl (by assumption : ¬ _ = _)

end

section
variable {w : World} {mean : ExcName → Option Value} {mg mb : Str → Option Value} {dp un : Nat} {gd : Option (List Code)} {cn : Str} {a : Addr} {ccd : Value} {A₀ : Around} {h₀ : Heap} {L : Addr} {m : Str → Option Value} {news : Led} {s : Shared} {Q : Flow → Shared → Prop} {E : Value → Shared → Prop}
variable (B : Below A₀ h₀ [] h₀) (F : Fr h₀ L s.heap m) (X : (Mine.hd.heap_39 w.params).In h₀) (N : News h₀ L s.heap news) (T : Top VW LO mean mg mb h₀) (hk : lawS.kind = .function)
include B F X N T hk

theorem der19 (hd : dp + 100 < recursionLimit) (hu : un + 1600 < cLine) {D D' x x' dx t dx' t' : Addr} {hs hs' : Int} {tk tk1 : Tok} {c n c' n' : Nat} {vs us vs' us' : List Value} {ls ms : List Lbl} (hV : Vars m [("labels", .ref D), ("origin", .ref D'), ("name", .ref x), ("end", .ref x')])
    (i1 : (D, listOf vs.toArray c) ∈ news) (b1 : BytesAre vs ls) (v1 : vcode ls = 0) (l1 : ls.length ≤ 5) (i2 : (D', listOf vs'.toArray c') ∈ news) (b2 : BytesAre vs' ms) (v2 : vcode ms = 0) (l2 : ms.length ≤ 5) (xm : (x, instObj 494 dx) ∈ news) (ym : (dx, lblD hs tk t n) ∈ news) (zm : (t, tupO us 0) ∈ news) (bu : BytesAre us ls)
    (xm' : (x', instObj 494 dx') ∈ news) (ym' : (dx', lblD hs' tk1 t' n') ∈ news) (zm' : (t', tupO us' 0) ∈ news) (bu' : BytesAre us' ms) (hm : 0 < ms.length)
    (kk : ∀  (m' : Str → Option Value) (h' : Heap) (tk' : Nat), Fr h₀ L h' m' → Vars m' [("labels", .ref D), ("origin", .ref D'), ("name", .ref x), ("end", .ref x')] → News h₀ L h' (news) →  wpAny (model PP w) (ktrTop dp un gd cn lawS L a ccd [] []) (execs (lawB.drop 20) (envX cn lawS L a ccd [])) Q NoE { s with heap := h', toks := tk' }) :
    wpAny (model PP w) (ktrTop dp un gd cn lawS L a ccd [] []) (execs (lawB.drop 19) (envX cn lawS L a ccd [])) Q NoE s := by
  k_with_none
  with_unfolding_all show wpAny _ (ktrTop _ _ _ _ (Scope.mk _ _ _ _ _) _ _ _ _ _) (execs (_ :: _) (envX _ (Scope.mk _ _ _ _ _) _ _ _ _)) _ _ _
  k_with "cut" => (k_dflt ((with_reducible show wpAny _ _ (execs [Stmt.Return _ _] _) _ _ _); (with_reducible show wpAny _ _ (execs (Stmt.Return (some (PySem.Expr.BoolOp _ _ _)) _ :: _) _) _ _ _); refine' kk _ _ _ ?kF ?kV ?kN; (case kF => k_asm); (case kV => walk_at "my_vars"); (case kN => exact newsSub (by k_asm) (by walk_at "my_sub"))))
  k_with "call ref" => (k_dflt (refine' lawabs_c ?k1 ?k2 ?k3 ?k4 ?k5 ?k6 ?k7 ?k8 ?i1 ?b ?z ?_; (case k1 => k_asm); (case k2 => k_asm); (case k3 => k_asm); (case k4 => k_asm); (case k5 => k_asm); (case k6 => first | exact rfl | assumption); (case k7 => ktr_room); (case k8 => ktr_units); (case i1 => k_mem); (case b => walk_at "my_bytes"); (case z => walk_at "my_len")); intro h9 tk9 F9 N9; (try rw [hun]); (try dsimp only); (try k_fold))
  k_with "call ref" => (k_dflt (refine' lawwide_c ?k1 ?k2 ?k3 ?k4 ?k5 ?k6 ?k7 ?k8 ?i1 ?b ?z ?_; (case k1 => k_asm); (case k2 => k_asm); (case k3 => k_asm); (case k4 => k_asm); (case k5 => k_asm); (case k6 => first | exact rfl | assumption); (case k7 => ktr_room); (case k8 => ktr_units); (case i1 => k_mem); (case b => walk_at "my_bytes"); (case z => walk_at "my_len")); intro t9 h9 tk9 F9 N9; (try dsimp only); (try k_fold))
  k_with "call ref" => (k_dflt (refine' derelativize_c ?k1 ?k2 ?k3 ?k4 ?k5 ?k6 ?k7 ?k8 ?i1 ?i2 ?i3 ?b ?z ?j1 ?j2 ?j3 ?bb ?zz ?zzz ?v ?_ ?_; (case k1 => k_asm); (case k2 => k_asm); (case k3 => k_asm); (case k4 => k_asm); (case k5 => k_asm); (case k6 => first | exact rfl | assumption); (case k7 => ktr_room); (case k8 => ktr_units); (case i1 => k_mem); (case i2 => k_mem); (case i3 => k_mem); (case b => assumption); (case z => walk_at "my_len"); (case j1 => k_mem); (case j2 => k_mem); (case j3 => k_mem); (case bb => assumption); (case zz => walk_at "my_len"); (case zzz => walk_at "my_len"); (case v => first | exact der_v v1 v2 (by omega) | exact fun q => absurd (hun.symm.trans q) (by decide))); (first | (focus (intro v9 h9 tk9 F9 N9; exfalso; rw [hun] at v9; exact Bool.noConfusion v9)) | ((focus (intro v9 h9 tk9 F9 N9; (try dsimp only [PySem.W.CmpBack, PySem.W.LenBack, PySem.W.BoolBack]); (try k_fold))); rotate_left)); (try (first | (focus (intro v9 x9 d9 u9 s9 k9 w9 h9 tk9 F9 N9 b9; exfalso; rw [hun] at v9; exact Bool.noConfusion v9)) | ((focus (intro v9 x9 d9 u9 s9 k9 w9 h9 tk9 F9 N9 b9; (try dsimp only [PySem.W.CmpBack, PySem.W.LenBack, PySem.W.BoolBack]); (try k_fold))); rotate_left))))
  k_with "call ref" => (k_dflt (refine' choose0_c ?k1 ?k2 ?k3 ?k4 ?k5 ?k6 ?k7 ?k8 ?i1 ?i2 ?i3 ?b ?z ?j1 ?j2 ?j3 ?bb ?zz ?m ?zzz ?v ?_ ?_; (case k1 => k_asm); (case k2 => k_asm); (case k3 => k_asm); (case k4 => k_asm); (case k5 => k_asm); (case k6 => first | exact rfl | assumption); (case k7 => ktr_room); (case k8 => ktr_units); (case i1 => k_mem); (case i2 => k_mem); (case i3 => k_mem); (case b => assumption); (case z => walk_at "my_len"); (case j1 => k_mem); (case j2 => k_mem); (case j3 => k_mem); (case bb => assumption); (case zz => walk_at "my_len"); (case m => assumption); (case zzz => walk_at "my_len"); (case v => first | exact der_v v1 v2 (by omega) | exact fun q => absurd (hun.symm.trans q) (by decide))); (first | (focus (intro v9 h9 tk9 F9 N9; exfalso; rw [hun] at v9; exact Bool.noConfusion v9)) | ((focus (intro v9 h9 tk9 F9 N9; (try dsimp only [PySem.W.CmpBack, PySem.W.LenBack, PySem.W.BoolBack]); (try k_fold))); rotate_left)); (try (first | (focus (intro v9 x9 d9 u9 s9 k9 w9 h9 tk9 F9 N9 b9; exfalso; rw [hun] at v9; exact Bool.noConfusion v9)) | ((focus (intro v9 x9 d9 u9 s9 k9 w9 h9 tk9 F9 N9 b9; (try dsimp only [PySem.W.CmpBack, PySem.W.LenBack, PySem.W.BoolBack]); (try k_fold))); rotate_left))))
  k_with "call ref" => (k_dflt (refine' relativize_c ?k1 ?k2 ?k3 ?k4 ?k5 ?k6 ?k7 ?k8 ?i1 ?i2 ?i3 ?b ?z ?j1 ?j2 ?j3 ?bb ?zz ?m ?v ?_ ?_; (case k1 => k_asm); (case k2 => k_asm); (case k3 => k_asm); (case k4 => k_asm); (case k5 => k_asm); (case k6 => first | exact rfl | assumption); (case k7 => ktr_room); (case k8 => ktr_units); (case i1 => k_mem); (case i2 => k_mem); (case i3 => k_mem); (case b => assumption); (case z => walk_at "my_len"); (case j1 => k_mem); (case j2 => k_mem); (case j3 => k_mem); (case bb => assumption); (case zz => walk_at "my_len"); (case m => assumption); (case v => exact der_v v1 v2 (by omega) hun)); (focus (intro v9; exfalso; rw [der_und hm] at v9; exact Bool.noConfusion v9)); intro v9 x9 d9 u9 s9 k9 w9 h9 tk9 F9 N9 b9; (rw [der_take] at b9); (try dsimp only); (try k_fold))
  rcases Bool.eq_false_or_eq_true (absO ls) with hun | hun
  · k_steps
    all_goals exact absurd rfl (by assumption : ¬ _ = _)
  · k_steps
    all_goals exact absurd rfl (by assumption : ¬ _ = _)

end

section
variable {w : World} {mean : ExcName → Option Value} {mg mb : Str → Option Value} {dp un : Nat} {gd : Option (List Code)} {cn : Str} {a : Addr} {ccd : Value} {A₀ : Around} {h₀ : Heap} {L : Addr} {m : Str → Option Value} {news : Led} {s : Shared} {Q : Flow → Shared → Prop} {E : Value → Shared → Prop}
variable (B : Below A₀ h₀ [] h₀) (F : Fr h₀ L s.heap m) (X : (Mine.hd.heap_39 w.params).In h₀) (N : News h₀ L s.heap news) (T : Top VW LO mean mg mb h₀) (hk : lawS.kind = .function)
include B F X N T hk

theorem end20 (hd : dp + 100 < recursionLimit) (hu : un + 1600 < cLine) {D D' x x' dx t dx' t' : Addr} {hs hs' : Int} {tk tk1 : Tok} {c n c' n' : Nat} {vs us vs' us' : List Value} {ls ms : List Lbl} (hV : Vars m [("labels", .ref D), ("origin", .ref D'), ("name", .ref x), ("end", .ref x')])
    (i1 : (D, listOf vs.toArray c) ∈ news) (b1 : BytesAre vs ls) (v1 : vcode ls = 0) (l1 : ls.length ≤ 5) (i2 : (D', listOf vs'.toArray c') ∈ news) (b2 : BytesAre vs' ms) (v2 : vcode ms = 0) (l2 : ms.length ≤ 5) (xm : (x, instObj 494 dx) ∈ news) (ym : (dx, lblD hs tk t n) ∈ news) (zm : (t, tupO us 0) ∈ news) (bu : BytesAre us ls)
    (xm' : (x', instObj 494 dx') ∈ news) (ym' : (dx', lblD hs' tk1 t' n') ∈ news) (zm' : (t', tupO us' 0) ∈ news) (bu' : BytesAre us' ms) (hm : 0 < ms.length)
    (rt : ∀ (m' : Str → Option Value) (h' : Heap) (tk' : Nat), Fr h₀ L h' m' → Q (.ret (.bool true)) { s with heap := h', toks := tk' }) :
    wpAny (model PP w) (ktrTop dp un gd cn lawS L a ccd [] []) (execs (lawB.drop 20) (envX cn lawS L a ccd [])) Q NoE s := by
  k_with_none
  with_unfolding_all show wpAny _ (ktrTop _ _ _ _ (Scope.mk _ _ _ _ _) _ _ _ _ _) (execs (_ :: _) (envX _ (Scope.mk _ _ _ _ _) _ _ _ _)) _ _ _
  k_steps
  all_goals first
    | exact absurd rfl (by assumption : ¬ _ = _)
    | (rw [decide_eq_true (rfl : ms = ms)]; exact rt _ _ _ (by k_asm))

end

section
variable {w : World} {mean : ExcName → Option Value} {mg mb : Str → Option Value} {dp un : Nat} {gd : Option (List Code)} {cn : Str} {a : Addr} {ccd : Value} {h₀ : Heap} {L : Addr} {m : Str → Option Value} {news : Led} {s : Shared} {Q : Flow → Shared → Prop} {E : Value → Shared → Prop}
variable (B : Below (cA dp un gd) h₀ [] h₀) (F : Fr h₀ L s.heap m) (X : (Mine.hd.heap_39 w.params).In h₀) (N : News h₀ L s.heap news) (T : Top VW LO mean mg mb h₀) (hk : lawS.kind = .function)
include B F X N T hk

theorem law_all (hd : dp + 101 < recursionLimit) (hu : un + 1603 < cLine) {sc : Addr} {svs : List Value} {sis : List Int} (hL : h₀.IsList sc svs.toArray) (hI : IntsAre svs sis) (hn : sis.length ≤ 63) (hV : Vars m [("script", .ref sc)])
    (rt : ∀ (m' : Str → Option Value) (h' : Heap) (tk' : Nat), Fr h₀ L h' m' → Q (.ret (.bool true)) { s with heap := h', toks := tk' }) :
    wpAny (model PP w) ((cA dp un gd).deeper (envOf cn lawS L a ccd)) (execs (lawB.drop 0) (envOf cn lawS L a ccd)) Q NoE s := by
  have hd1 : dp + 1 + 100 < recursionLimit := by omega
  have hu1 : un + 3 + 1600 < cLine := by omega
  have hu2 : un + 1600 < cLine := by omega
  have hd2 : dp + 100 < recursionLimit := by omega
  show wpAny _ (ktrTop (dp + 1) (un + 3) gd cn lawS L a ccd [] []) (execs _ (envX cn lawS L a ccd [])) _ _ _
  refine draw0 B F X N T hk hd1 hu1 hL hI hn hV (fun v t m1 g1 k1 F V N => ?_)
  refine draw1 B F X N T hk hd1 hu1 hL hI hn V (fun v' t' m1 g1 k1 F V N => ?_)
  refine draw2 B F X N T hk hd1 hu1 hL hI hn V (fun D c us ls D' c' us' ms m1 g1 k1 F V N b1 o1 b2 o2 => ?_)
  refine draw5 B F X N T hk hd1 hu1 hL hI hn V (fun D3 c3 us3 ts m1 g1 k1 F V N b3 o3 => ?_)
  refine names6 B F X N T hk hd1 hu1 V (by k_mem) b1 (by k_mem) b2 (by k_mem) b3 o1.v o1.n o2.v o2.n o3.v o3.n (fun x dx tx hs tk xs x' dx' tx' hs' tk' xs' x3 dx3 tx3 hs3 tk3 xs3 m1 g1 k1 F V N c1 c2 c3 => ?_)
  refine pairs8 B F X N T hk hd1 hu1 V (by k_mem) b1 (by k_mem) b2 (by k_mem) b3 o1.v o1.n o2.v o2.n o3.v o3.n (fun m1 g1 k1 F V N => ?_)
  refine rng9 B F X N T hk hd1 hu1 V (by k_mem) b3 o3.v o3.n (by k_mem) (by k_mem) (by k_mem) c3 (fun m1 g1 k1 F V N => ?_)
  refine depth10 B F X N T hk hd1 hu1 hL hI hn V (fun d td m1 g1 k1 F V N d1 d2 => ?_)
  show wpAny _ ((cA dp un gd).deeper (envOf cn lawS L a ccd)) (execs _ (envOf cn lawS L a ccd)) _ _ _
  refine split11 B F X N T hk hd2 hu2 V (by k_mem) b1 o1.v o1.n (by k_mem) (by k_mem) (by k_mem) c1 d1 d2 (fun m1 g1 k1 F V N => ?_)
  refine parent12 B F X N T hk hd2 hu2 V (by k_mem) b1 o1.v o1.n (by k_mem) (by k_mem) (by k_mem) c1 (fun m1 g1 k1 F V N => ?_)
  show wpAny _ (ktrTop (dp + 1) (un + 3) gd cn lawS L a ccd [] []) (execs _ (envX cn lawS L a ccd [])) _ _ _
  refine orig13 (c := 0) (vs := []) B F X N T hk hd1 hu1 V (by k_mem) b2 o2.n o1.v o1.n (by k_mem) (by k_mem) (by k_mem) c1 (by k_mem) (by k_mem) (by k_mem) c2 rt (fun m1 g1 k1 F V N hm => ?_)
  refine short14 B F X N T hk hd1 hu1 V (by k_mem) b1 o1.n (by k_mem) b2 o2.n (fun Ds ds uss sh m1 g1 k1 F V N bs h1 h2 => ?_)
  refine rel16 B F X N T hk hd1 hu1 V (by k_mem) b1 o1.v o1.n (by k_mem) b2 o2.v o2.n (by k_mem) (by k_mem) (by k_mem) c1 (by k_mem) (by k_mem) (by k_mem) c2 hm (by k_mem) bs h1 h2 (fun m1 g1 k1 F V N => ?_)
  refine plus18 B F X N T hk hd1 hu1 V (by k_mem) b1 o1.v o1.n (by k_mem) b2 o2.v o2.n (by k_mem) (by k_mem) (by k_mem) c1 (by k_mem) (by k_mem) (by k_mem) c2 hm (by k_mem) bs h1 h2 (fun m1 g1 k1 F V N => ?_)
  refine der19 B F X N T hk hd1 hu1 V (by k_mem) b1 o1.v o1.n (by k_mem) b2 o2.v o2.n (by k_mem) (by k_mem) (by k_mem) c1 (by k_mem) (by k_mem) (by k_mem) c2 hm (fun m1 g1 k1 F V N => ?_)
  exact end20 B F X N T hk hd1 hu1 V (by k_mem) b1 o1.v o1.n (by k_mem) b2 o2.v o2.n (by k_mem) (by k_mem) (by k_mem) c1 (by k_mem) (by k_mem) (by k_mem) c2 hm rt

end

end Mine

theorem PySem.Challenge.cw_fx0004_04_holds : PySem.Challenge.rw_fx0004_04.Holds :=
  Mine.hd (by
  k_with_none
  w_top off
  k_go0
  rename Fr _ _ _ _ => lF
  rename News _ _ _ _ => lN
  rename Frag.In _ _ => lX
  rename Top _ _ _ _ _ _ => lT
  rename Below _ _ _ _ => lB
  rename Heap.IsList _ _ _ => lL
  rename IntsAre _ _ => lI
  rename ¬ _ < _ => lH
  refine wpAny_mono (Mine.law_all (dp := 1 + claimMargin) (un := 4) (gd := some []) lB lF lX lN lT rfl (by decide) (by decide) lL lI (by omega) ⟨rfl, trivial⟩ (fun m' h' tk' F' => ?_)) (fun _ _ q => q) (fun _ _ q => q.elim)
  dsimp only
  k_steps)
