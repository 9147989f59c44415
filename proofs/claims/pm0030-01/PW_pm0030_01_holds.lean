import PyProof.Rows.All
import Wide.All
import OpenK.AllK
import Wide.FinOn
import PySem.Challenge.RW_pm0030_01
set_option Elab.async false
set_option linter.all false
open PySem PySem.W PyProof.Rows
namespace Mine
section
section
local macro_rules | `(tactic| o_head $_) => `(tactic| skip)
set_option maxRecDepth 100000 in
set_option maxHeartbeats 8000000 in
theorem hd (h : OpenRow.Holds PySem.Challenge.rw_pm0030_01.row) : OpenRow.Holds PySem.Challenge.rw_pm0030_01.row := by
  k_head
  exact h
end
set_option maxRecDepth 100000 in
set_option maxHeartbeats 8000000 in
local macro_rules | `(tactic| k_head) => `(tactic| o_head (kmHook hd.heap_1
  [2, 3, 15, 17, 18, 20, 21, 22, 23, 24, 26, 27, 29, 30, 31, 32, 33, 35, 36, 38, 39, 40, 41, 42, 44, 45, 47, 48, 49, 50, 51, 53, 54, 56, 57, 58, 61, 66, 67, 68, 70, 71, 73, 74, 75, 77, 78, 80, 81, 82, 83, 85, 86, 88, 89, 90, 91, 93, 94, 96, 97, 98, 100, 101, 103, 104, 105, 107, 108, 110, 111, 112, 113, 115, 116, 118, 119, 120, 122, 123, 125, 126, 127, 128, 130, 131, 133, 134, 135, 136, 137, 138, 139, 142, 144, 145, 147, 148, 149, 151, 152, 154, 155, 156, 158, 159, 161, 162, 163, 165, 166, 168, 169, 170, 173, 174]
  (fun _ => by kernel_rfl) [157, 99, 106]))
set_option maxRecDepth 100000 in
set_option maxHeartbeats 8000000 in
open_top hd3 for PySem.Challenge.rw_pm0030_01
end
section
theorem sub_cons {α : Type} {a : α} {l B : List α} (h : a ∈ B) (t : ∀ q ∈ l, q ∈ B) : ∀ q ∈ a :: l, q ∈ B := List.forall_mem_cons.2 ⟨h, t⟩
theorem room {a k k' c : Nat} (h : a + k' < c) (e : Nat.ble k k' = true) : a + k < c := Nat.lt_of_le_of_lt (Nat.add_le_add_left (Nat.le_of_ble_eq_true e) a) h
theorem room1 {a b k k' c : Nat} (h : a + k' < c) (e : Nat.ble (b + k) k' = true) : a + b + k < c := Nat.add_assoc a b k ▸ room h e

noncomputable abbrev PP : Program := PySem.Challenge.rw_pm0030_01.row.prog

noncomputable abbrev rowObj (d : Addr) (vs : List Value) (n : Nat) : Obj := { cls := .ref 137, dict := some d, data := .seq vs.toArray n }
noncomputable abbrev dObj (hs : Int) (tk : Tok) (size : Int) (t : Tok) (n : Nat) : Obj := dictOf [⟨hs, .str (Str.ofString "_initial_size") tk, .int size t⟩] n
noncomputable abbrev tupObj (vs : List Value) : Obj := { cls := .type "tuple", data := .seq vs.toArray }
end
theorem freshRow : True := by
  w_top off
  k_with_none
  trivial
section
open PySem.AutoSeq1 (wpAny_loadPart')



section
variable {w : World} {A : Around} {E : Value → Shared → Prop} {s : Shared} {r d : Addr} {vs : List Value} {n : Nat}

theorem row_type {M : Model} {h : Heap} (ho : h.get? r = some (rowObj d vs n)) : Looks M h (typeOf (.ref r)) (.ref 137) :=
  (Looks.ld ho).andThen .now

theorem row_isList {M : Model} {h : Heap} (X : (hd.heap_1 w.params).In h) (ho : h.get? r = some (rowObj d vs n)) : Looks M h (isInstance (.ref r) (.type "list")) true :=
  (row_type ho).andThen (looks_mroIn X (by k_is))

theorem row_special {M : Model} {name : Str} {id : String} {args : List Value} {Q : Option Value → Shared → Prop} (X : (hd.heap_1 w.params).In s.heap) (ho : s.heap.get? r = some (rowObj d vs n))
    (hs : findIn (hd.heap_1 w.params) (.ref 137) name = some (some (.builtin id))) (hb : ∀ self, bindSpecial (.builtin id) self = pure (.builtin id, [self]))
    (h : wpAny M A (call (.builtin id) (.ref r :: args)) (fun v => Q (some v)) E s) : wpAny M A (callSpecial? (.ref r) name args) Q E s := by
  refine wpAny_bind (wpAny_bind ((row_type ho).here ((looks_findIn X hs).here (wpAny_holding (wpAny_bind ?_)))))
  rw [hb]
  exact wpAny_pure (wpAny_bind (wpAny_mono h (fun _ _ z => wpAny_pure z) fun _ _ z => z))

theorem row_check {M : Model} {id nm : String} {rest : List Value} {Q : Unit → Shared → Prop} (X : (hd.heap_1 w.params).In s.heap) (ho : s.heap.get? r = some (rowObj d vs n))
    (hk : builtinKind id = some .slot ∨ builtinKind id = some .method) (hs : splitId id = some ("list", nm)) (ha : argsOk id ⟨.ref r :: rest, []⟩) (q : Q () s) :
    wpAny M A (checkBuiltinCall id ⟨.ref r :: rest, []⟩) Q E s := by
  rcases hk with hk | hk <;>
  · simp only [checkBuiltinCall, hk, hs]
    refine wpAny_bind ((row_isList X ho).here ?_)
    simp only [Bool.not_true, Bool.false_eq_true, if_false]
    cases hsig : Manifest.signature? id with
    | none => exact wpAny_pure q
    | some sig =>
      simp only [argsOk, hsig] at ha
      have h2 : Bind.checkArgs id sig ⟨.ref r :: rest, []⟩ = pure () := ha
      show wpAny M A (Bind.checkArgs id sig ⟨.ref r :: rest, []⟩) Q E s
      rw [h2]; exact wpAny_pure q

theorem row_meets {prog : Program} {id nm : String} {B : Builtin} {rest : List Value} {S : PySem.Spec} {Q : Value → Shared → Prop} (X : (hd.heap_1 w.params).In s.heap) (ho : s.heap.get? r = some (rowObj d vs n))
    (hk : builtinKind id = some .slot ∨ builtinKind id = some .method) (hs : splitId id = some ("list", nm)) (plain : plainId id = true)
    (entry : entryFor table id = some B) (args : argsOk id ⟨.ref r :: rest, []⟩) (g : Meets (B ⟨.ref r :: rest, []⟩) S) (h : S A (wants Q E) s) :
    wpAny (model prog w) A (call (.builtin id) (.ref r :: rest)) Q E s :=
  wpAny_call (codeAny_call_builtin plain entry (row_check X ho hk hs args (g prog w A (wants Q E) s h)))

/-! the built-ins on the accumulator's object -/
theorem m_insert (l d : Addr) (vs : List Value) (n : Nat) (x : Int) (u : Tok) (y : Value) (h0 : 0 ≤ x) (hx : x ≤ vs.length) (hs1 : vs.length < 1000) :
    Meets (Builtin.«list.insert» ⟨[.ref l, .int x u, y], []⟩) (fun _ R s => s.heap.get? l = some (rowObj d vs n) ∧
      R (.ok (.ret Value.none)) { s with heap := s.heap.update l (Obj.mapSeq fun xs => have k := if x < 0 then (x + (xs.size : Int)).toNat else min x.toNat xs.size; (xs.extract 0 k).push y ++ xs.extract k), toks := s.toks }) :=
  .of_wp fun prog w A R s h => by
    obtain ⟨hp, g, dd, tk, os⟩ := s; obtain ⟨hl, h⟩ := h; have f1 := PySem.AutoSeq1.idx_int; have f2 := PySem.AutoSeq1.sub_tuple_tuple; have f3 := PySem.AutoSeq1.sub_list_list
    have hc0 : ¬(!Builtin.List.listFitsIndex x) = true := by
      simp only [Builtin.List.listFitsIndex, Bool.not_eq_true', Bool.not_eq_false, Bool.and_eq_true, decide_eq_true_eq]
      omega
    have hsz : vs.toArray.size ≤ sizeLine := by rw [List.size_toArray, PySem.sizeLine_eq]; omega
    have hz' : ((fun xs : Array Value => have k := if x < 0 then (x + (xs.size : Int)).toNat else min x.toNat xs.size; (xs.extract 0 k).push y ++ xs.extract k) vs.toArray).size ≤ sizeLine + 1 := Nat.le_trans (PySem.AutoSeq1.size_inserted _ _ _) (Nat.add_le_add_right hsz 1)
    wp_walk using (wpAny_updateSeq hl rfl (hz := hsz) (_hz' := hz')), wpAny_loadPart' hl
    exact ⟨_, rfl, h⟩

theorem m_len (l d : Addr) (vs : List Value) (n : Nat) :
    Meets (Builtin.«list.__len__» ⟨[.ref l], []⟩) (fun _ R s => s.heap.get? l = some (rowObj d vs n) ∧ R (.ok (.ret (Value.int (vs.length : Int) s.toks))) { s with heap := s.heap, toks := s.toks + 1 }) :=
  .of_wp fun prog w A R s h => by obtain ⟨hp, g, dd, tk, os⟩ := s; obtain ⟨hl, h⟩ := h; wp_walk using wpAny_loadPart' hl; exact ⟨_, rfl, by simpa using h⟩

theorem m_iter (l d : Addr) (vs : List Value) (n : Nat) :
    Meets (Builtin.«list.__iter__» ⟨[.ref l], []⟩) (fun _ R s => s.heap.get? l = some (rowObj d vs n) ∧ R (.ok (.ret (Value.ref s.heap.objs.size))) { s with heap := s.heap.push { cls := Value.type "list_iterator", data := Data.fields #[Value.ref l, rawInt 0] }, toks := s.toks }) :=
  .of_wp fun prog w A R s h => by obtain ⟨hp, g, dd, tk, os⟩ := s; obtain ⟨hl, h⟩ := h; wp_walk; exact ⟨_, rfl, h⟩

theorem m_pop (l d : Addr) (vs : List Value) (n : Nat) (y : Value) (hy : vs.toArray[vs.toArray.size - 1]? = some y) (hs1 : vs.length < 1000) :
    Meets (Builtin.«list.pop» ⟨[.ref l], []⟩)
      (fun _ R s => s.heap.get? l = some (rowObj d vs n) ∧ R (.ok (.ret y)) { s with heap := s.heap.update l (Obj.mapSeq fun xs => xs.eraseIdxIfInBounds (vs.toArray.size - 1)) }) :=
  .of_wp fun prog w A R s h => by
    obtain ⟨hp, g, dd, tk, os⟩ := s; obtain ⟨hl, h⟩ := h
    have hsz : vs.toArray.size ≤ sizeLine := by rw [List.size_toArray, PySem.sizeLine_eq]; omega
    have hpos : 0 < vs.toArray.size := by
      rcases Nat.eq_zero_or_pos vs.toArray.size with h0 | h0
      · simp [h0] at hy
      · exact h0
    have hne : ¬ vs.toArray.isEmpty = true := by
      intro he; have : vs.toArray.size = 0 := by simpa using he
      omega
    have hk : seqIndex? (-1) vs.toArray.size = some (vs.toArray.size - 1) := by
      rw [seqIndex_neg (by omega) (by omega)]; congr 1; omega
    wp_walk using wpAny_loadPart' hl
    simp only [hk, hy, Option.bind_some, Option.map_some]
    have hz' : (vs.toArray.eraseIdxIfInBounds (vs.toArray.size - 1)).size ≤ sizeLine + 1 := Nat.le_trans (PySem.MeetsSeq.size_erased _ _) (Nat.le_succ_of_le hsz)
    wp_walk using (wpAny_updateSeq hl rfl (hz := hsz) (_hz' := hz')), wpAny_loadPart' hl
    exact ⟨_, rfl, h⟩
end
end
theorem freshRow2 : True := by
  w_top off
  k_with_none
  trivial
section
open PySem.AutoSeq1 (wpAny_loadPart')


section
variable {w : World} {A : Around} {E : Value → Shared → Prop} {s : Shared} {r d : Addr} {vs : List Value} {n : Nat}

theorem m_item (l d : Addr) (vs : List Value) (n : Nat) (k : Int) (u : Tok) (x : Value) (h0 : 0 ≤ k) (hk : k < 1000) (hx : vs[k.toNat]? = some x) :
    Meets (Builtin.«list.__getitem__» ⟨[.ref l, .int k u], []⟩) (fun _ R s => s.heap.get? l = some (rowObj d vs n) ∧ R (.ok (.ret x)) s) :=
  .of_wp fun prog w A R s h => by
    obtain ⟨hl, h⟩ := h
    show wpAny _ _ (Builtin.List.listSubscript? (.int k u) >>= _) _ _ s
    refine wpAny_bind (wpAny_listSubscript_int (fitsIndex_of h0 (by omega)) ?_)
    obtain ⟨j, rfl⟩ := Int.eq_ofNat_of_zero_le h0
    have hx' : vs.toArray[j]? = some x := by simpa using hx
    show wpAny _ _ ((seqItemAt l j >>= fun r => pure (r.map (j, ·))) >>= _) _ _ s
    refine wpAny_bind (wpAny_bind (wpAny_seqItemAt hl rfl (wpAny_pure ?_)))
    rw [hx']
    first
      | exact wpAny_bind (wpAny_pure (wpAny_pure ⟨x, rfl, h⟩))
      | exact wpAny_pure ⟨x, rfl, h⟩

theorem m_item_out (l d : Addr) (vs : List Value) (n : Nat) (k : Int) (u : Tok) (h0 : 0 ≤ k) (hk : k < 1000) (hx : (vs.length : Int) ≤ k) :
    Meets (Builtin.«list.__getitem__» ⟨[.ref l, .int k u], []⟩) (fun A R s => s.heap.get? l = some (rowObj d vs n) ∧ raisesNew "IndexError" A R s) :=
  .of_wp fun prog w A R s h => by
    obtain ⟨hl, hA, h⟩ := h
    show wpAny _ _ (Builtin.List.listSubscript? (.int k u) >>= _) _ _ s
    refine wpAny_bind (wpAny_listSubscript_int (fitsIndex_of h0 (by omega)) ?_)
    obtain ⟨j, rfl⟩ := Int.eq_ofNat_of_zero_le h0
    have hx' : vs.toArray[j]? = none := Array.getElem?_eq_none (by rw [List.size_toArray]; omega)
    show wpAny _ _ ((seqItemAt l j >>= fun r => pure (r.map (j, ·))) >>= _) _ _ s
    refine wpAny_bind (wpAny_bind (wpAny_seqItemAt hl rfl (wpAny_pure ?_)))
    rw [hx']
    first
      | exact wpAny_bind (wpAny_rule (by exact_raiseError plainExc_IndexError hA h))
      | exact wpAny_bind (wpAny_rule (wpAny_bind (by exact_raiseError plainExc_IndexError hA h)))
      | exact wpAny_bind (wpAny_bind (wpAny_rule (by exact_raiseError plainExc_IndexError hA h)))
      | exact wpAny_rule (by exact_raiseError plainExc_IndexError hA h)

theorem row_key {M : Model} {k : Value} {name : Str} {Q : Value → Shared → Prop} (X : (hd.heap_1 w.params).In s.heap) (ho : s.heap.get? r = some (rowObj d vs n)) (q : Q k s) :
    wpAny M A (sequenceKey (.ref r) k name) Q E s := by
  unfold sequenceKey
  refine wpAny_bind ((row_type ho).here ?_)
  refine wpAny_bind ((anyM_none (C := 137) X (show noSeq (hd.heap_1 w.params) 137 = true by k_is)).here ?_)
  rw [if_pos (show (!false) = true from rfl)]
  exact wpAny_pure q

theorem row_getItem {k : Int} {u : Tok} {Q : Value → Shared → Prop} (X : (hd.heap_1 w.params).In s.heap) (ho : s.heap.get? r = some (rowObj d vs n)) {x : Value} (h0 : 0 ≤ k) (hk : k < 1000) (hx : vs[k.toNat]? = some x) (q : Q x s) :
    wpAny (model PP w) A (getItem (.ref r) (.int k u)) Q E s := by
  unfold getItem
  refine wpAny_holding (wpAny_bind (row_key X ho ?_))
  refine wpAny_bind (row_special X ho (by k_is) PySem.F.slot_list_getitem.bind ?_)
  exact row_meets (nm := "__getitem__") X ho (.inr (by decide +kernel)) (by decide +kernel) PySem.F.slot_list_getitem.plain PySem.F.entry_list_getitem (PySem.F.args_list_getitem_2 _ _)
    (m_item r d vs n k u x h0 hk hx) ⟨ho, wpAny_pure q⟩

theorem row_getItem_out {k : Int} {u : Tok} {Q : Value → Shared → Prop} (X : (hd.heap_1 w.params).In s.heap) (ho : s.heap.get? r = some (rowObj d vs n)) (hA : A.handled = none) (h0 : 0 ≤ k) (hk : k < 1000) (hx : (vs.length : Int) ≤ k)
    (hE : ∀ h' tk e, Heap.NewExc s.heap h' e "IndexError" → E (.ref e) { s with heap := h', toks := tk }) :
    wpAny (model PP w) A (getItem (.ref r) (.int k u)) Q E s := by
  unfold getItem
  refine wpAny_holding (wpAny_bind (row_key X ho ?_))
  refine wpAny_bind (row_special X ho (by k_is) PySem.F.slot_list_getitem.bind ?_)
  exact row_meets (nm := "__getitem__") X ho (.inr (by decide +kernel)) (by decide +kernel) PySem.F.slot_list_getitem.plain PySem.F.entry_list_getitem (PySem.F.args_list_getitem_2 _ _)
    (m_item_out r d vs n k u h0 hk hx) ⟨ho, hA, hE⟩

theorem row_tail {value slice : PySem.Expr} {i : Value} {ops : List Value} {Q : Value → Shared → Prop} (X : (hd.heap_1 w.params).In s.heap) (ho : s.heap.get? r = some (rowObj d vs n))
    (hg : wpAny (model PP w) A (getItem (.ref r) i) Q E s)
    (hs : subscripted slice false (.ref r) i = operate ops (getItem (.ref r) i)) : wpAny (model PP w) A (subscriptTail value slice (.ref r) i) Q E s := by
  unfold subscriptTail getitemInPython
  refine wpAny_bind (wpAny_bind (wpAny_bind ((row_type ho).here ((looks_findIn (name := "__getitem__") X (by k_is)).here ?_))))
  have fin : wpAny (model PP w) A (subscripted slice false (.ref r) i) (fun v s₃ => wpAny (model PP w) A (letTemporaryGo value (.ref r) v >>= fun _ => pure v) Q E s₃) E s := by
    rw [hs]
    exact wpAny_operating (wpAny_mono hg (fun r s₃ h₃ => wpAny_bind (wpAny_letTemporaryGo (wpAny_pure h₃))) fun _ _ x => x)
  first
    | exact wpAny_pure (wpAny_bind fin)
    | exact wpAny_bind (wpAny_pure (wpAny_bind fin))
    | exact wpAny_bind fin
end
end
theorem freshTup : True := by
  w_top off
  k_with_none
  trivial
section
open PySem.AutoSeq1 (wpAny_loadPart')

noncomputable def fw (q : Nat) : Str := if q ≤ 3 then Str.ofString "" else if q = 4 then Str.ofString "\t" else Str.ofString " "
noncomputable def pt (q : Nat) : Str := if q = 1 then Str.ofString "a" else if q = 2 then Str.ofString "ab" else if q = 3 then Str.ofString "b" else if q = 6 then Str.ofString "a" else Str.ofString ""

noncomputable abbrev pieceObj (q : Nat) (t1 t2 : Tok) : Obj := tupObj [.str (fw q) t1, .str (pt q) t2]

section
variable {w : World} {prog : Program} {A : Around} {E : Value → Shared → Prop} {s : Shared}

theorem rc_lt_str {x y : Str} {t u : Tok} {Q : Value → Shared → Prop} (h : Q (.bool (decide (x.cps.toList < y.cps.toList))) s) : wpAny (model prog w) A (richCompare .Lt (.str x t) (.str y u)) Q E s :=
  compareOp_gives (op := .Lt) (typeIs_str s x t) (typeIs_str s y u) PySem.F.slot_str_lt PySem.F.entry_str_lt (PySem.F.args_str_lt_2 _ _) (gives_str_lt x y t u) (fun e => nomatch e) h
theorem rc_le_str {x y : Str} {t u : Tok} {Q : Value → Shared → Prop} (h : Q (.bool (!decide (y.cps.toList < x.cps.toList))) s) : wpAny (model prog w) A (richCompare .LtE (.str x t) (.str y u)) Q E s :=
  compareOp_gives (op := .LtE) (typeIs_str s x t) (typeIs_str s y u) PySem.F.slot_str_le PySem.F.entry_str_le (PySem.F.args_str_le_2 _ _) (gives_str_le x y t u) (fun e => nomatch e) h

theorem eqs_true {x y : Str} {t u : Tok} {Q : Bool → Shared → Prop} (e : x = y) (h : Q true s) : wpAny (model prog w) A (eqBool (.str x t) (.str y u)) Q E s :=
  wpAny_eqBool_str (by rw [decide_eq_true e]; exact h)
theorem eqs_false {x y : Str} {t u : Tok} {Q : Bool → Shared → Prop} (e : x ≠ y) (h : Q false s) : wpAny (model prog w) A (eqBool (.str x t) (.str y u)) Q E s :=
  wpAny_eqBool_str (by rw [decide_eq_false e]; exact h)

theorem seven {P : Nat → Prop} (h : ∀ i : Fin 7, P i.val) : ∀ i, i < 7 → P i := fun i hi => h ⟨i, hi⟩

theorem fw_lt : ∀ i j, i < 7 → j < 7 → fw i ≠ fw j → decide ((fw i).cps.toList < (fw j).cps.toList) = decide (i < j) := by
  have : ∀ i : Fin 7, ∀ j : Fin 7, fw i ≠ fw j → decide ((fw i).cps.toList < (fw j).cps.toList) = decide (i.val < j.val) := by decide +kernel
  exact fun i j hi hj => this ⟨i, hi⟩ ⟨j, hj⟩
theorem fw_le : ∀ i j, i < 7 → j < 7 → fw i ≠ fw j → (!decide ((fw j).cps.toList < (fw i).cps.toList)) = decide (i ≤ j) := by
  have : ∀ i : Fin 7, ∀ j : Fin 7, fw i ≠ fw j → (!decide ((fw j).cps.toList < (fw i).cps.toList)) = decide (i.val ≤ j.val) := by decide +kernel
  exact fun i j hi hj => this ⟨i, hi⟩ ⟨j, hj⟩
theorem pt_lt : ∀ i j, i < 7 → j < 7 → fw i = fw j → pt i ≠ pt j → decide ((pt i).cps.toList < (pt j).cps.toList) = decide (i < j) := by
  have : ∀ i : Fin 7, ∀ j : Fin 7, fw i = fw j → pt i ≠ pt j → decide ((pt i).cps.toList < (pt j).cps.toList) = decide (i.val < j.val) := by decide +kernel
  exact fun i j hi hj => this ⟨i, hi⟩ ⟨j, hj⟩
theorem pt_le : ∀ i j, i < 7 → j < 7 → fw i = fw j → pt i ≠ pt j → (!decide ((pt j).cps.toList < (pt i).cps.toList)) = decide (i ≤ j) := by
  have : ∀ i : Fin 7, ∀ j : Fin 7, fw i = fw j → pt i ≠ pt j → (!decide ((pt j).cps.toList < (pt i).cps.toList)) = decide (i.val ≤ j.val) := by decide +kernel
  exact fun i j hi hj => this ⟨i, hi⟩ ⟨j, hj⟩
theorem both_eq : ∀ i j, i < 7 → j < 7 → fw i = fw j → pt i = pt j → i = j := by
  have : ∀ i : Fin 7, ∀ j : Fin 7, fw i = fw j → pt i = pt j → i.val = j.val := by decide +kernel
  exact fun i j hi hj => this ⟨i, hi⟩ ⟨j, hj⟩

set_option maxHeartbeats 2000000 in
theorem m_tup_lt (a b : Addr) (i j : Nat) (hi : i < 7) (hj : j < 7) (t1 t2 u1 u2 : Tok) :
    Meets (Builtin.«tuple.__lt__» ⟨[.ref a, .ref b], []⟩) (fun _ R s => s.heap.get? a = some (pieceObj i t1 t2) ∧ s.heap.get? b = some (pieceObj j u1 u2) ∧ R (.ok (.ret (.bool (decide (i < j))))) s) :=
  .of_wp fun prog w A R s h => by
    obtain ⟨hp, g, dd, tk, os⟩ := s; obtain ⟨ha, hb, h⟩ := h
    have f2 := PySem.AutoSeq1.sub_tuple_tuple
    by_cases e1 : fw i = fw j
    · by_cases e2 : pt i = pt j
      · have e3 : decide (i < j) = false := by rw [both_eq i j hi hj e1 e2]; simp
        rw [e3] at h
        repeat (first | (with_reducible refine wpAny_bind ?_) | (with_reducible refine wpAny_pure ?_) | with_reducible (first | refine wpAny_loadPart' ha ?_ | refine wpAny_loadPart' hb ?_ | refine eqs_true e1 ?_ | refine eqs_true e2 ?_) | (first | with_reducible (first | refine wpAny_pure ?_ | refine wpAny_bind ?_ | refine wpAny_holding ?_ | refine wpAny_standAt ?_ | refine wpAny_point ?_ | refine wpAny_rule ?_ | refine wpAny_letGo ?_ | refine wpAny_mkInt' ?_ | refine wpAny_fresh' ?_ | refine wpAny_alloc' ?_ | refine wpAny_throw ?_ | refine wpAny_of_eq (by assumption) ?_ | refine wpAny_typeOf (by assumption) ?_ | refine wpAny_isInstance_val (by assumption) (by assumption) ?_ | refine wpAny_isInstance (by assumption) (by assumption) ?_) | (with_reducible refine wpAny_ite_false ?hc ?_; case hc => exact rfl) | (with_reducible refine wpAny_ite_true ?hc ?_; case hc => exact rfl) | wp_delta | with_reducible_and_instances refine wpAny_pure ?_ | with_reducible_and_instances refine wpAny_bind ?_ | wp_step))
        exact ⟨_, rfl, h⟩
      · rw [← pt_lt i j hi hj e1 e2] at h
        repeat (first | (with_reducible refine wpAny_bind ?_) | (with_reducible refine wpAny_pure ?_) | with_reducible (first | refine wpAny_loadPart' ha ?_ | refine wpAny_loadPart' hb ?_ | refine eqs_true e1 ?_ | refine eqs_false e2 ?_ | refine rc_lt_str ?_) | (first | with_reducible (first | refine wpAny_pure ?_ | refine wpAny_bind ?_ | refine wpAny_holding ?_ | refine wpAny_standAt ?_ | refine wpAny_point ?_ | refine wpAny_rule ?_ | refine wpAny_letGo ?_ | refine wpAny_mkInt' ?_ | refine wpAny_fresh' ?_ | refine wpAny_alloc' ?_ | refine wpAny_throw ?_ | refine wpAny_of_eq (by assumption) ?_ | refine wpAny_typeOf (by assumption) ?_ | refine wpAny_isInstance_val (by assumption) (by assumption) ?_ | refine wpAny_isInstance (by assumption) (by assumption) ?_) | (with_reducible refine wpAny_ite_false ?hc ?_; case hc => exact rfl) | (with_reducible refine wpAny_ite_true ?hc ?_; case hc => exact rfl) | wp_delta | with_reducible_and_instances refine wpAny_pure ?_ | with_reducible_and_instances refine wpAny_bind ?_ | wp_step))
        exact ⟨_, rfl, h⟩
    · rw [← fw_lt i j hi hj e1] at h
      repeat (first | (with_reducible refine wpAny_bind ?_) | (with_reducible refine wpAny_pure ?_) | with_reducible (first | refine wpAny_loadPart' ha ?_ | refine wpAny_loadPart' hb ?_ | refine eqs_false e1 ?_ | refine rc_lt_str ?_) | (first | with_reducible (first | refine wpAny_pure ?_ | refine wpAny_bind ?_ | refine wpAny_holding ?_ | refine wpAny_standAt ?_ | refine wpAny_point ?_ | refine wpAny_rule ?_ | refine wpAny_letGo ?_ | refine wpAny_mkInt' ?_ | refine wpAny_fresh' ?_ | refine wpAny_alloc' ?_ | refine wpAny_throw ?_ | refine wpAny_of_eq (by assumption) ?_ | refine wpAny_typeOf (by assumption) ?_ | refine wpAny_isInstance_val (by assumption) (by assumption) ?_ | refine wpAny_isInstance (by assumption) (by assumption) ?_) | (with_reducible refine wpAny_ite_false ?hc ?_; case hc => exact rfl) | (with_reducible refine wpAny_ite_true ?hc ?_; case hc => exact rfl) | wp_delta | with_reducible_and_instances refine wpAny_pure ?_ | with_reducible_and_instances refine wpAny_bind ?_ | wp_step))
      exact ⟨_, rfl, h⟩

set_option maxHeartbeats 2000000 in
theorem m_tup_le (a b : Addr) (i j : Nat) (hi : i < 7) (hj : j < 7) (t1 t2 u1 u2 : Tok) :
    Meets (Builtin.«tuple.__le__» ⟨[.ref a, .ref b], []⟩) (fun _ R s => s.heap.get? a = some (pieceObj i t1 t2) ∧ s.heap.get? b = some (pieceObj j u1 u2) ∧ R (.ok (.ret (.bool (decide (i ≤ j))))) s) :=
  .of_wp fun prog w A R s h => by
    obtain ⟨hp, g, dd, tk, os⟩ := s; obtain ⟨ha, hb, h⟩ := h
    have f2 := PySem.AutoSeq1.sub_tuple_tuple
    by_cases e1 : fw i = fw j
    · by_cases e2 : pt i = pt j
      · have e3 : decide (i ≤ j) = true := by rw [both_eq i j hi hj e1 e2]; simp
        rw [e3] at h
        repeat (first | (with_reducible refine wpAny_bind ?_) | (with_reducible refine wpAny_pure ?_) | with_reducible (first | refine wpAny_loadPart' ha ?_ | refine wpAny_loadPart' hb ?_ | refine eqs_true e1 ?_ | refine eqs_true e2 ?_) | (first | with_reducible (first | refine wpAny_pure ?_ | refine wpAny_bind ?_ | refine wpAny_holding ?_ | refine wpAny_standAt ?_ | refine wpAny_point ?_ | refine wpAny_rule ?_ | refine wpAny_letGo ?_ | refine wpAny_mkInt' ?_ | refine wpAny_fresh' ?_ | refine wpAny_alloc' ?_ | refine wpAny_throw ?_ | refine wpAny_of_eq (by assumption) ?_ | refine wpAny_typeOf (by assumption) ?_ | refine wpAny_isInstance_val (by assumption) (by assumption) ?_ | refine wpAny_isInstance (by assumption) (by assumption) ?_) | (with_reducible refine wpAny_ite_false ?hc ?_; case hc => exact rfl) | (with_reducible refine wpAny_ite_true ?hc ?_; case hc => exact rfl) | wp_delta | with_reducible_and_instances refine wpAny_pure ?_ | with_reducible_and_instances refine wpAny_bind ?_ | wp_step))
        exact ⟨_, rfl, h⟩
      · rw [← pt_le i j hi hj e1 e2] at h
        repeat (first | (with_reducible refine wpAny_bind ?_) | (with_reducible refine wpAny_pure ?_) | with_reducible (first | refine wpAny_loadPart' ha ?_ | refine wpAny_loadPart' hb ?_ | refine eqs_true e1 ?_ | refine eqs_false e2 ?_ | refine rc_le_str ?_) | (first | with_reducible (first | refine wpAny_pure ?_ | refine wpAny_bind ?_ | refine wpAny_holding ?_ | refine wpAny_standAt ?_ | refine wpAny_point ?_ | refine wpAny_rule ?_ | refine wpAny_letGo ?_ | refine wpAny_mkInt' ?_ | refine wpAny_fresh' ?_ | refine wpAny_alloc' ?_ | refine wpAny_throw ?_ | refine wpAny_of_eq (by assumption) ?_ | refine wpAny_typeOf (by assumption) ?_ | refine wpAny_isInstance_val (by assumption) (by assumption) ?_ | refine wpAny_isInstance (by assumption) (by assumption) ?_) | (with_reducible refine wpAny_ite_false ?hc ?_; case hc => exact rfl) | (with_reducible refine wpAny_ite_true ?hc ?_; case hc => exact rfl) | wp_delta | with_reducible_and_instances refine wpAny_pure ?_ | with_reducible_and_instances refine wpAny_bind ?_ | wp_step))
        exact ⟨_, rfl, h⟩
    · rw [← fw_le i j hi hj e1] at h
      repeat (first | (with_reducible refine wpAny_bind ?_) | (with_reducible refine wpAny_pure ?_) | with_reducible (first | refine wpAny_loadPart' ha ?_ | refine wpAny_loadPart' hb ?_ | refine eqs_false e1 ?_ | refine rc_le_str ?_) | (first | with_reducible (first | refine wpAny_pure ?_ | refine wpAny_bind ?_ | refine wpAny_holding ?_ | refine wpAny_standAt ?_ | refine wpAny_point ?_ | refine wpAny_rule ?_ | refine wpAny_letGo ?_ | refine wpAny_mkInt' ?_ | refine wpAny_fresh' ?_ | refine wpAny_alloc' ?_ | refine wpAny_throw ?_ | refine wpAny_of_eq (by assumption) ?_ | refine wpAny_typeOf (by assumption) ?_ | refine wpAny_isInstance_val (by assumption) (by assumption) ?_ | refine wpAny_isInstance (by assumption) (by assumption) ?_) | (with_reducible refine wpAny_ite_false ?hc ?_; case hc => exact rfl) | (with_reducible refine wpAny_ite_true ?hc ?_; case hc => exact rfl) | wp_delta | with_reducible_and_instances refine wpAny_pure ?_ | with_reducible_and_instances refine wpAny_bind ?_ | wp_step))
      exact ⟨_, rfl, h⟩

theorem cmp_lt_piece {a b : Addr} {i j : Nat} (hi : i < 7) (hj : j < 7) {t1 t2 u1 u2 : Tok} {Q : Value → Shared → Prop} (ha : s.heap.get? a = some (pieceObj i t1 t2)) (hb : s.heap.get? b = some (pieceObj j u1 u2)) (hu : A.units < cLine)
    (h : Q (.bool (decide (i < j))) s) : wpAny (model prog w) A (compareOp .Lt (.ref a) (.ref b)) Q E s :=
  richCompare_meets_room (op := .Lt) ⟨_, ha, rfl⟩ ⟨_, hb, rfl⟩ PySem.F.slot_tuple_lt PySem.F.entry_tuple_lt (PySem.F.args_tuple_lt_2 _ _) (m_tup_lt a b i j hi hj t1 t2 u1 u2) ⟨ha, hb, (by intro e; cases e), h⟩ hu
theorem cmp_le_piece {a b : Addr} {i j : Nat} (hi : i < 7) (hj : j < 7) {t1 t2 u1 u2 : Tok} {Q : Value → Shared → Prop} (ha : s.heap.get? a = some (pieceObj i t1 t2)) (hb : s.heap.get? b = some (pieceObj j u1 u2)) (hu : A.units < cLine)
    (h : Q (.bool (decide (i ≤ j))) s) : wpAny (model prog w) A (compareOp .LtE (.ref a) (.ref b)) Q E s :=
  richCompare_meets_room (op := .LtE) ⟨_, ha, rfl⟩ ⟨_, hb, rfl⟩ PySem.F.slot_tuple_le PySem.F.entry_tuple_le (PySem.F.args_tuple_le_2 _ _) (m_tup_le a b i j hi hj t1 t2 u1 u2) ⟨ha, hb, (by intro e; cases e), h⟩ hu
end
end
theorem freshRowIt : True := by
  w_top off
  k_with_none
  trivial
section
open PySem.AutoSeq1 (wpAny_loadPart')

section
variable {prog : Program} {w : World} {A : Around} {E : Value → Shared → Prop} {s : Shared} {r d it : Addr} {vs : List Value} {n i : Nat}

theorem row_next {x : Value} {Q : Option Value → Shared → Prop} (hit : s.heap.IsListIter it r i) (ho : s.heap.get? r = some (rowObj d vs n)) (hx : vs[i]? = some x)
    (hQ : ∀ h', h'.IsListIter it r (i + 1) → Heap.SameBut it s.heap h' → Q (some x) { s with heap := h' }) :
    wpAny (model prog w) A (pyNext (.ref it)) Q E s := by
  obtain ⟨oi, hoi, hci, hdi⟩ := id hit
  unfold pyNext
  refine wpAny_bind (wpAny_attempt (wpAny_callSpecial?_slot (name := Str.ofString "__next__") hit.typeIs slot_listiter_next
    (wpAny_call_entry slot_listiter_next hit.typeIs entry_listiter_next ?_ (args_listiter_next _))))
  show wpAny _ _ (field (.ref it) 0 >>= _) _ _ s
  refine wpAny_bind (wpAny_field hoi hdi (x := .ref r) rfl ?_)
  show wpAny _ _ (if (Value.ref r == Value.none) = true then _ else _) _ _ s
  rw [if_neg (show ¬ ((Value.ref r == Value.none) = true) from Bool.false_ne_true)]
  show wpAny _ _ (field (.ref it) 1 >>= _) _ _ s
  refine wpAny_bind (wpAny_field hoi hdi (x := .int i 0) rfl ?_)
  show wpAny _ _ (seqItems? (.ref r) >>= _) _ _ s
  refine wpAny_bind (wpAny_seqItems ho rfl ?_)
  have hx' : vs.toArray[i]? = some x := by simpa using hx
  simp only [Int.toNat_natCast, hx']
  refine wpAny_bind (wpAny_setField hoi hdi (by simp) (wpAny_pure ⟨x, rfl, wpAny_pure (hQ _ ?_ (Heap.SameBut.update ..))⟩))
  exact ⟨_, Heap.get?_update_self _ hoi (Obj.isFreed_of_fields (Obj.data_mapFields hdi _)), (Obj.cls_mapFields ..).trans hci, by
    rw [Obj.data_mapFields hdi]; simp [rawInt]⟩

theorem row_next_end {Q : Option Value → Shared → Prop} (hh : A.handled = none) (hit : s.heap.IsListIter it r i) (ho : s.heap.get? r = some (rowObj d vs n)) (hx : vs[i]? = none)
    (hQ : ∀ h', Heap.ExtBut it s.heap h' → Q none { s with heap := h' }) : wpAny (model prog w) A (pyNext (.ref it)) Q E s := by
  obtain ⟨oi, hoi, hci, hdi⟩ := id hit
  unfold pyNext
  refine wpAny_bind (wpAny_attempt (wpAny_callSpecial?_slot (name := Str.ofString "__next__") hit.typeIs slot_listiter_next
    (wpAny_call_entry slot_listiter_next hit.typeIs entry_listiter_next ?_ (args_listiter_next _))))
  show wpAny _ _ (field (.ref it) 0 >>= _) _ _ s
  refine wpAny_bind (wpAny_field hoi hdi (x := .ref r) rfl ?_)
  show wpAny _ _ (if (Value.ref r == Value.none) = true then _ else _) _ _ s
  rw [if_neg (show ¬ ((Value.ref r == Value.none) = true) from Bool.false_ne_true)]
  show wpAny _ _ (field (.ref it) 1 >>= _) _ _ s
  refine wpAny_bind (wpAny_field hoi hdi (x := .int i 0) rfl ?_)
  show wpAny _ _ (seqItems? (.ref r) >>= _) _ _ s
  refine wpAny_bind (wpAny_seqItems ho rfl ?_)
  have hx' : vs.toArray[i]? = none := by simpa using hx
  simp only [Int.toNat_natCast, hx']
  refine wpAny_bind (wpAny_rule (wpAny_bind (wpAny_setField hoi hdi (by simp) ?_)))
  show wpAny _ _ (newExc (.type "StopIteration") [] >>= _) _ _ _
  refine wpAny_bind ?_
  simp only [newExc, newTuple]
  refine wpAny_bind (wpAny_newObj_type ?_ (by size_fits))
  refine wpAny_bind (m := firstArgMember _ _) (wpAny_of_eq (a := Value.none) (by first | rfl | (simp only [firstArgMember]; rfl)) ?_)
  refine wpAny_newObj_type ?_ (by size_fits)
  simp only [raiseNew]
  refine wpAny_bind (wpAny_handled ?_)
  rw [show A.in1.handled = none from hh]
  refine wpAny_bind (wpAny_pure (wpAny_throw ?_))
  refine wpAny_bind (wpAny_isInstance (T := "StopIteration") (b := true) ⟨_, Heap.get?_push_size _ rfl, rfl⟩ isSubtype_stop ?_)
  exact wpAny_pure (hQ _ (((Heap.SameBut.update ..).extBut.push _).push _))

theorem row_pyIter {Q : Value → Shared → Prop} (X : (hd.heap_1 w.params).In s.heap) (ho : s.heap.get? r = some (rowObj d vs n))
    (hfind : findIn (hd.heap_1 w.params) (.ref 137) "__iter__" = some (some (.builtin "list.__iter__")))
    (hQ : Q (.ref s.heap.objs.size) { s with heap := s.heap.push { cls := .type "list_iterator", data := .fields #[.ref r, .int 0 0] } }) :
    wpAny (model prog w) A (pyIter (.ref r)) Q E s := by
  have L : ∀ {A' : Around} {Q' : Option Value → Shared → Prop}, Q' (some (.builtin "list.__iter__")) s → wpAny (model prog w) A' (specialOf (.ref r) "__iter__") Q' E s := fun q =>
    wpAny_bind ((row_type ho).here ((looks_findIn X hfind).here q))
  unfold pyIter
  refine wpAny_bind (L ?_)
  show wpAny _ A (callSpecialIfBoundUnlessNone? (.ref r) "__iter__" _ >>= _) Q E s
  simp only [callSpecialIfBoundUnlessNone?, bindSpecialIfBound?]
  refine wpAny_bind (wpAny_holding (wpAny_bind (wpAny_bind (L ?_))))
  simp only [slot_list_iter.bind]
  refine wpAny_bind (wpAny_askSetting (wpAny_ite ?_))
  have hc : ∀ {R : Value → Shared → Prop}, R (.ref s.heap.objs.size) { s with heap := s.heap.push { cls := .type "list_iterator", data := .fields #[.ref r, .int 0 0] } } →
      wpAny (model prog w) A (call (.builtin "list.__iter__") [.ref r]) R E s := fun q =>
    row_meets (nm := "__iter__") X ho (.inl (by decide +kernel)) (by decide +kernel) PySem.F.slot_list_iter.plain PySem.F.entry_list_iter (PySem.F.args_list_iter_1 _) (m_iter r d vs n) ⟨ho, q⟩
  have fin : ∀ {Q' : Option Value → Shared → Prop} {rf : Sem Value}, Q' (some (.ref s.heap.objs.size)) { s with heap := s.heap.push { cls := .type "list_iterator", data := .fields #[.ref r, .int 0 0] } } →
      wpAny (model prog w) A (if (Value.builtin "list.__iter__" == Value.none) = true then (rf >>= fun v => pure (some v)) else (call (.builtin "list.__iter__") [.ref r] >>= fun v => pure (some v))) Q' E s := fun q => by
    simp only [builtin_beq_none, Bool.false_eq_true, if_false]
    exact wpAny_bind (hc (wpAny_pure q))
  have last : wpAny (model prog w) A (specialOf (.ref s.heap.objs.size) "__next__") (fun o s' => wpAny (model prog w) A (match o with
      | none => do rule "iter.non-iterator"; raiseError "TypeError" s!"iter() returned non-iterator of type '{← typeNameOf (.ref s.heap.objs.size)}'"
      | some _ => pure (.ref s.heap.objs.size)) Q E s') E { s with heap := s.heap.push { cls := .type "list_iterator", data := .fields #[.ref r, .int 0 0] } } :=
    wpAny_specialOf (T := "list_iterator") ⟨_, Heap.get?_push_size _ rfl, rfl⟩ slot_listiter_next.lookup (wpAny_pure hQ)
  split
  · exact wpAny_bind (wpAny_pure (wpAny_pure (fin (wpAny_bind last))))
  · exact wpAny_tryCatch (wpAny_bind (wpAny_pure (wpAny_pure (fin (wpAny_bind last)))))

theorem Walks_row {A : Around} (hh : A.handled = none) (I : Addr) (hne : r ≠ I) :
    Walks prog w A I [I, r] [I] vs.length (fun i v => vs[i]? = some v) (fun i h => h.IsListIter I r i ∧ h.get? r = some (rowObj d vs n)) where
  sub := fun b hb => by simp at hb; simp [hb]
  frame := fun _ _ _ st hk => ⟨st.1.at fun o e => hk I (by simp) o e, hk r (by simp) _ st.2⟩
  item := fun i s Q E hi st hQ => by
    refine row_next st.1 st.2 (x := vs[i]) (by simp [hi]) fun h' hit' hs' => ?_
    exact hQ _ h' s.toks (by simp [hi]) ⟨hit', (hs'.2 r hne).trans st.2⟩ fun b o hb e => (hs'.2 b (fun h => hb (by simp [h]))).trans e
  done := fun s Q E st hQ => row_next_end hh st.1 st.2 (by simp) fun h' he' => hQ h' s.toks fun b o hb e => he' b o (fun h => hb (by simp [h])) e
  self := fun _ _ _ _ st hQ => wpAny_pyIter_listiter st.1 hQ

theorem WalksU_row {A : Around} (hh : A.handled = none) (I : Addr) (hne : r ≠ I) (Ts : Nat → Addr) (vals : Nat → Array Value)
    (hit : ∀ j, j < vs.length → vs[j]? = some (.ref (Ts j))) (hTI : ∀ j, j < vs.length → Ts j ≠ I) :
    WalksU prog w A I (I :: r :: (List.range vs.length).map Ts) [I] vs.length (fun j v => v = vals j)
      (fun j h => h.IsListIter I r j ∧ h.get? r = some (rowObj d vs n) ∧ ∀ k, k < vs.length → h.IsTuple (Ts k) (vals k))
      (fun j T h => (j < vs.length ∧ T = Ts j) ∧ h.IsListIter I r (j + 1) ∧ h.get? r = some (rowObj d vs n) ∧ ∀ k, k < vs.length → h.IsTuple (Ts k) (vals k)) where
  sub := fun b hb => by simp at hb; simp [hb]
  frame := fun _ _ _ st hk => ⟨st.1.at fun o e => hk I (by simp) o e, hk r (by simp) _ st.2.1,
    fun k hk' => (st.2.2 k hk').at fun o e => hk (Ts k) (List.mem_cons_of_mem _ (List.mem_cons_of_mem _ (List.mem_map.mpr ⟨k, List.mem_range.mpr hk', rfl⟩))) o e⟩
  item := fun i s Q E hi st hQ => by
    refine row_next st.1 st.2.1 (x := .ref (Ts i)) (hit i hi) fun h' hit' hs' => ?_
    have tup : ∀ k, k < vs.length → h'.IsTuple (Ts k) (vals k) := fun k hk' => (st.2.2 k hk').extBut hs'.extBut (hTI k hk')
    exact hQ (Ts i) (vals i) h' s.toks rfl (tup i hi) ⟨⟨hi, rfl⟩, hit', (hs'.2 r hne).trans st.2.1, tup⟩ fun b o hb e => hs'.extBut b o (fun h => hb (by simp [h])) e
  go := fun _ _ _ _ _ s Q _ hm hQ => wpAny_letOwnedTupleGo_listiter hm.2.1 (hQ s.heap hm.2 fun _ _ _ e => e)
  apart := fun j T _ hm hmem => by
    rcases List.mem_cons.mp hmem with e | e
    · exact hTI j hm.1.1 (hm.1.2 ▸ e)
    · cases e
  done := fun s Q E st hQ => row_next_end hh st.1 st.2.1 (by simp) fun h' he' => hQ h' s.toks fun b o hb e => he' b o (fun h => hb (by simp [h])) e
  self := fun _ _ _ _ st hQ => wpAny_pyIter_listiter st.1 hQ
end
end
theorem freshGenR : True := by
  w_top off
  k_with_none
  trivial
section
structure Items (h : Heap) (vs : List Value) (qs : List Nat) : Prop where
  len : vs.length = qs.length
  at_ : ∀ (j q : Nat), qs[j]? = some q → q < 7 ∧ ∃ t t1 t2, vs[j]? = some (.ref t) ∧ h.get? t = some (pieceObj q t1 t2)

noncomputable def TabOk (o : Obj) : Prop := ∃ ps : Array Value, o.data = .fields ps ∧ TriplesOk ps.toList ∧ o = tabObj ps

theorem fr_ext {h₀ h h' : Heap} {L P : Addr} {m : Str → Option Value} (F : Fr h₀ L h m) (hP : h₀.get? P = none) (hL : L ≠ P) (hx : Heap.ExtBut P h h') : Fr h₀ L h' m :=
  ⟨F.ns.extBut hx hL, fun b o e => hx b o (fun q => by subst q; rw [hP] at e; cases e) (F.keep b o e), F.above⟩
theorem news_ext {h₀ h h' : Heap} {L P : Addr} {news : List (Addr × Obj)} (N : News h₀ L h news) (hne : ∀ p ∈ news, p.1 ≠ P) (hx : Heap.ExtBut P h h') : News h₀ L h' news :=
  fun p hp => ⟨hx p.1 p.2 (hne p hp) (N p hp).1, (N p hp).2⟩
theorem Items.keep {h h' : Heap} {vs : List Value} {qs : List Nat} (I : Items h vs qs) (k : ∀ t (q : Nat) t1 t2, h.get? t = some (pieceObj q t1 t2) → h'.get? t = some (pieceObj q t1 t2)) : Items h' vs qs :=
  ⟨I.len, fun j q hq => let ⟨a, t, t1, t2, e, ht⟩ := I.at_ j q hq; ⟨a, t, t1, t2, e, k t q t1 t2 ht⟩⟩
theorem passing_all (n : Nat) : passing (fun _ => true) n 0 = List.range n := by
  unfold passing
  simp

theorem isCode_of {h g : Heap} {c P : Addr} {oT : Obj} {ps : Array Value} (hC : CodeHd g c P) (k : ∀ b o, g.get? b = some o → h.get? b = some o) (hP : h.get? P = some oT) (hpd : oT.data = .fields ps) (htr : TriplesOk ps.toList) : h.IsCode c P ps := by
  obtain ⟨o, vs, file, tf, flags, tg, inF, text, tt, e1, _, e3, _, f3, f4, f5, f6, f7, f11⟩ := hC
  exact ⟨o, vs, file, tf, flags, tg, inF, text, tt, oT, k _ _ e1, e3, f3, f4, f5, f6, f7, hP, hpd, htr, f11⟩
theorem tableAt_of {h g : Heap} {c P : Addr} {ps : Array Value} (hC : CodeHd g c P) (k : ∀ b o, g.get? b = some o → h.get? b = some o) (hP : h.get? P = some (tabObj ps)) : h.TableAt c P ps := by
  obtain ⟨o, vs, file, tf, flags, tg, inF, text, tt, e1, e2, e3, e4, _⟩ := hC
  exact ⟨⟨o, vs, k _ _ e1, e2, e3, e4⟩, hP⟩
theorem genexprT {M : Model} {A : Around} {E : Value → Shared → Prop} {s : Shared} {env : Env} {c P : Addr} {ps : Array Value} {pos : Pos} {qualname : Str} {scope : Scope} {Q : Value → Shared → Prop} (hc : env.code = .ref c) (hok : s.heap.IsCode c P ps) (htab : s.heap.TableAt c P ps)
    (hQ : ∀ code h' tk ps', Heap.ExtBut P s.heap h' → h'.IsCode c P ps' → h'.get? P = some (tabObj ps') → Q code { s with heap := h', toks := tk }) :
    wpAny M A (genexprCode env pos qualname scope) Q E s := by
  cases hnf : codeAmong pos ps.toList with
  | none => exact wpAny_genexprCodeX hc hok htab hnf fun c' h' tk hx _ _ hi _ ht _ => hQ _ h' tk _ hx hi ht.2
  | some cv =>
    obtain ⟨o, vs, file, tf, flags, tg, inF, text, tt, op, ho, hd, h11, h2, h7, h9, h10, hop, hpd, htr, hne⟩ := id hok
    unfold genexprCode codeAt
    rw [hc, if_neg (show ¬ ((Value.ref c == Value.none) = true) from Bool.false_ne_true)]
    refine wpAny_bind (wpAny_fieldsOf ho hd ?_)
    rw [h11]
    refine wpAny_bind (wpAny_fieldsOf hop hpd ?_)
    rw [hnf]
    exact wpAny_pure (hQ cv s.heap s.toks ps (Heap.ExtBut.refl _ _) hok htab.2)
theorem triples_of_code {h : Heap} {c P : Addr} {ps : Array Value} (x : h.IsCode c P ps) : TriplesOk ps.toList := by
  obtain ⟨o, vs, file, tf, flags, tg, inF, text, tt, op, ho, hd, h11, h2, h7, h9, h10, hop, hpd, htr, hne⟩ := x
  exact htr

section
variable {w : World} {A : Around} {E : Value → Shared → Prop} {s : Shared} {g : Heap} {L : Addr} {m mg mb : Str → Option Value} {p : Program} {loose : List Str} {mean : ExcName → Option Value}
  {rest : List (Addr × Obj)} {c P r d : Addr} {oT : Obj} {vs : List Value} {n : Nat} {qs : List Nat}

set_option maxHeartbeats 2000000 in
theorem gen_row {env : Env} {elt iter : PySem.Expr} {xa xb : Str} {pa pb ptp : Pos} {kt : Nat} {scope : Scope} {pos : Pos} {Q : Value → Shared → Prop} (G : Nat → Value → Prop)
    (F : Fr g L s.heap m) (X : (hd.heap_1 w.params).In g) (T : Top p loose mean mg mb g) (N : News g L s.heap ((P, oT) :: rest)) (hrow : (r, rowObj d vs n) ∈ rest) (hsep : ∀ q ∈ rest, q.1 ≠ P)
    (I : Items s.heap vs qs) (hB : AllBare s.gens) (ok : TabOk oT) (hcode : env.code = .ref c) (hC : CodeHd g c P) (hge : env.globals = mainGlobals)
    (hh : A.handled = none) (hco : scope.isCoroutine = false) (hclos : closureFor scope env = pure []) (hcell : ∀ y ∈ scope.names, y.2 ≠ .cell) (h0 : scope.names.lookup (".0" : Str) = some NameKind.local)
    (hxa : scope.names.lookup xa = some .local) (hxb : scope.names.lookup xb = some .local) (hab : xa ≠ xb) (hkind : scope.kind = .function) (hroom : A.depth < recursionLimit)
    (hiter : ∀ {Q' : Value → Shared → Prop}, Q' (.ref r) s → wpAny (model PP w) A (eval iter env) Q' E s)
    (hs : ∀ x, genFold iter env x = pure x)
    (hel : ∀ (C : Addr) (code : Value) (A' : Around) (E' : Value → Shared → Prop) (q : Nat) (t1 t2 : Tok) (u : Shared) (m₂ : Str → Option Value), A'.handled = none → q < 7 → u.heap.Ns C m₂ → m₂ xa = some (.str (fw q) t1) → m₂ xb = some (.str (pt q) t2) →
      (∀ b o, g.get? b = some o → u.heap.get? b = some o) →
      wpAny (model PP w) A' (eval elt (genEnv scope [] C code builtinsNs env)) (fun y s₃ => G q y ∧ Keeps u s₃) E' u)
    (hQ : ∀ (a : Addr) (oT' : Obj) (s' : Shared), (∀ q ∈ (P, oT') :: rest, q.1 ≤ s.heap.objs.size - 1) → L ≤ s.heap.objs.size - 1 → Fr g L s'.heap m → News g L s'.heap ((P, oT') :: rest) → TabOk oT' → AllBare s'.gens → s'.os = s.os → Items s'.heap vs qs →
      Gen PP w A (s.heap.objs.size - 1) a (passing (fun _ => true) vs.length 0).length (fun j y => ∃ i, (passing (fun _ => true) vs.length 0)[j]? = some i ∧ ∃ q, qs[i]? = some q ∧ G q y) s' → Q (.ref a) s') :
    wpAny (model PP w) A (eval (.GeneratorExp elt [⟨.Tuple [.Name xa pa, .Name xb pb] kt ptp, iter, [], 0⟩] scope pos) env) Q E s := by
  have hP : s.heap.get? P = some oT := (N _ (.head _)).1
  have hPL : P ≠ L := (N _ (.head _)).2.1
  have hgP : g.get? P = none := (N _ (.head _)).2.2
  have hr := (N _ (.tail _ hrow)).1
  have hrP : r ≠ P := hsep _ hrow
  obtain ⟨ps, hpd, htr, rfl⟩ := ok
  have hIP : ∀ (t q : Nat) t1 t2, s.heap.get? t = some (pieceObj q t1 t2) → t ≠ P := fun t q t1 t2 e q' => by
    subst q'
    rw [hP] at e
    cases Option.some.inj e
  have hLs : L < s.heap.objs.size := F.ns.lt
  obtain ⟨bm, ob, BM⟩ := bmod_of_top T
  refine wpAny_GeneratorExp_walksQT hh hco hclos hcell h0 hxa hxb hab hkind hroom ?_ hs
  refine hiter (row_pyIter (X.keeps F.keep) hr (by k_is) ?_)
  have k₂ : ∀ b o, s.heap.get? b = some o → (s.heap.push { cls := .type "list_iterator", data := .fields #[.ref r, .int 0 0] }).get? b = some o := fun b o e => Heap.get?_push_of_some _ e
  refine ⟨T.nolimit.keeps fun b o e => k₂ b o (F.keep b o e), ?_⟩
  refine genexprT hcode (isCode_of hC (fun b o e => k₂ b o (F.keep b o e)) (k₂ _ _ hP) hpd htr) (tableAt_of hC (fun b o e => k₂ b o (F.keep b o e)) (k₂ _ _ hP)) fun code h₃ tk₃ ps' hx₃ hok₃ hP' => ?_
  have kg₃ : ∀ b o, g.get? b = some o → h₃.get? b = some o := fun b o e => hx₃ b o (fun q => by subst q; rw [hgP] at e; cases e) (k₂ b o (F.keep b o e))
  have k₃ : ∀ b o, b ≠ P → s.heap.get? b = some o → h₃.get? b = some o := fun b o hb e => hx₃ b o hb (k₂ b o e)
  have hIit : h₃.get? s.heap.objs.size = some { cls := .type "list_iterator", data := .fields #[.ref r, .int 0 0] } :=
    hx₃ _ _ (Nat.ne_of_gt (Heap.lt_size hP)) (Heap.get?_push_size _ rfl)
  have hIlt : s.heap.objs.size < h₃.objs.size := Heap.lt_size hIit
  have BM₃ := BM.keeps kg₃
  rw [hge]
  refine wpAny_builtinsFor BM₃.ns BM₃.name BM₃.ne BM₃.obj BM₃.cls BM₃.dict BM₃.data ?_
  let Ts : Nat → Addr := fun j => match vs[j]? with | some (.ref t) => t | _ => 0
  let vals : Nat → Array Value := fun j => match s.heap.get? (Ts j) with | some ⟨_, _, .seq xs _, _⟩ => xs | _ => #[]
  have at' : ∀ j, j < vs.length → ∃ q t1 t2, qs[j]? = some q ∧ q < 7 ∧ vs[j]? = some (.ref (Ts j)) ∧ s.heap.get? (Ts j) = some (pieceObj q t1 t2) ∧ vals j = #[.str (fw q) t1, .str (pt q) t2] := fun j hj => by
    have hj' : j < qs.length := I.len ▸ hj
    obtain ⟨h7, t, t1, t2, e1, e2⟩ := I.at_ j qs[j] (List.getElem?_eq_getElem hj')
    have eT : Ts j = t := by simp only [Ts, e1]
    refine ⟨qs[j], t1, t2, List.getElem?_eq_getElem hj', h7, by rw [eT]; exact e1, by rw [eT]; exact e2, ?_⟩
    simp only [vals, eT, e2]
  have W := fun (A' : Around) (hA : A'.handled = none) => (WalksU_row (prog := PP) (w := w) (d := d) (n := n) hA s.heap.objs.size (Nat.ne_of_lt (Heap.lt_size hr)) Ts vals
    (fun j hj => let ⟨_, _, _, _, _, e, _⟩ := at' j hj; e) (fun j hj => let ⟨_, _, _, _, _, _, e, _⟩ := at' j hj; Nat.ne_of_lt (Heap.lt_size e))).bound
  refine ⟨s.heap.objs.size, _, _, vs.length, _, _, _, fun _ => true, fun i y => ∃ q, qs[i]? = some q ∧ G q y, rfl, W, ?_, ?_, ?_, T.nolimit.keeps kg₃, ?_, ?_, ?_⟩
  · rintro i vals' ⟨hi, rfl⟩
    obtain ⟨q, t1, t2, _, _, _, _, e⟩ := at' i hi
    exact ⟨_, _, e⟩
  · refine ⟨⟨_, hIit, rfl, rfl⟩, k₃ _ _ hrP hr, fun k hk => ?_⟩
    obtain ⟨q, t1, t2, _, _, _, e, e2⟩ := at' k hk
    exact ⟨_, k₃ _ _ (hIP _ _ _ _ e) e, rfl, 0, by rw [e2]⟩
  · intro b hb
    rcases List.mem_cons.mp hb with rfl | hb
    · exact hIlt
    · rcases List.mem_cons.mp hb with rfl | hb
      · exact Nat.lt_trans (Heap.lt_size hr) hIlt
      · obtain ⟨j, hj, rfl⟩ := List.mem_map.mp hb
        obtain ⟨q, t1, t2, _, _, _, e, _⟩ := at' j (List.mem_range.mp hj)
        exact Nat.lt_trans (Heap.lt_size e) hIlt
  · intro hm
    have hc := T.nolimit
    obtain ⟨mc, hns, _⟩ := hc
    obtain ⟨o, _, _, ho, _⟩ := hns
    have := Heap.lt_size (F.keep _ _ ho)
    rw [List.mem_singleton.mp hm] at this
    exact Nat.lt_irrefl _ this
  · intro href hhref
    have keep : ∀ {s₂ : Shared}, (∀ b ∈ List.range h₃.objs.size, b ∉ [s.heap.objs.size] → ∀ o, href.get? b = some o → s₂.heap.get? b = some o) → ∀ b o, g.get? b = some o → s₂.heap.get? b = some o := fun k b o e =>
      k b (List.mem_range.mpr (Heap.lt_size (kg₃ b o e))) (fun hm => by
        have := Heap.lt_size (F.keep _ _ e)
        rw [List.mem_singleton.mp hm] at this
        exact Nat.lt_irrefl _ this) o (hhref b o (kg₃ b o e))
    refine ⟨fun A' E' i va vb s₂ m₂ _ _ _ _ _ _ => wpAny_pure ⟨rfl, _, _, rfl, fun _ _ e => e⟩, fun A' E' i va vb s₂ m₂ hA' hPt _ hn ha hb hk => ?_⟩
    obtain ⟨hi, hv⟩ := hPt
    obtain ⟨q, t1, t2, hq, h7, _, _, e⟩ := at' i hi
    rw [e] at hv
    obtain ⟨rfl, rfl⟩ : va = .str (fw q) t1 ∧ vb = .str (pt q) t2 := by simpa using congrArg Array.toList hv
    exact wpAny_mono (hel _ code A' E' q t1 t2 s₂ m₂ hA' h7 hn ha hb (keep hk)) (fun y s₃ h => ⟨⟨q, hq, h.1⟩, h.2⟩) fun _ _ e => e
  · intro a h₅ tk gs hgb hag hsz₅ hk₅ W' hat
    have ok' : TabOk (tabObj ps') := ⟨ps', rfl, triples_of_code hok₃, rfl⟩
    have F₃ : Fr g L h₃ m := ⟨(F.ns.keeps k₂).extBut hx₃ (Ne.symm hPL), kg₃, F.above⟩
    refine hQ a (tabObj ps') _ (fun q hq => Nat.le_sub_one_of_lt ?_) (Nat.le_sub_one_of_lt hLs) (F₃.keeps hk₅) (fun q hq => ?_) ok' (hB.push hgb) rfl (I.keep fun t q t1 t2 e => hk₅ _ _ (k₃ _ _ (hIP _ _ _ _ e) e)) ⟨_, _, _, _, W', hat, (fun i s' st => st.1.typeIs), List.mem_cons_self, ?_, ?_⟩
    · rcases List.mem_cons.mp hq with rfl | hq
      · exact Heap.lt_size hP
      · exact Heap.lt_size (N q (.tail _ hq)).1
    · rcases List.mem_cons.mp hq with rfl | hq
      · exact ⟨hk₅ _ _ hP', hPL, hgP⟩
      · have z := N q (.tail _ hq)
        exact ⟨hk₅ _ _ (k₃ _ _ (hsep q hq) z.1), z.2⟩
    · intro b hb
      show b < h₅.objs.size
      rw [hsz₅]
      have hag' : h₃.objs.size < a := hag
      rcases List.mem_cons.mp hb with rfl | hb
      · exact Nat.lt_succ_self _
      · rcases List.mem_cons.mp hb with rfl | hb
        · exact Nat.lt_succ_of_lt hag'
        · exact Nat.lt_succ_of_lt (Nat.lt_trans (List.mem_range.mp hb) hag')
    · intro b hb
      have hIlt' : s.heap.objs.size < h₃.objs.size := hIlt
      rcases List.mem_cons.mp hb with rfl | hb
      · show s.heap.objs.size - 1 < h₃.objs.size
        omega
      · rw [List.mem_singleton.mp hb]
        exact Nat.sub_lt (Nat.lt_of_le_of_lt (Nat.zero_le _) hLs) Nat.one_pos
end
end
theorem freshSumG : True := by
  w_top off
  k_with_none
  trivial
section
set_option maxRecDepth 100000

theorem preSum_small {val : Nat → Int} (h : ∀ i, 0 ≤ val i ∧ val i ≤ 1000) : ∀ i, 0 ≤ preSum val i ∧ preSum val i ≤ 1000 * (i : Int)
  | 0 => by simp [preSum]
  | i + 1 => by
    have a := preSum_small h i
    have b := h i
    simp only [preSum]
    omega

section
variable {prog : Program} {w : World} {A : Around} {R : Result → Shared → Prop} {I : Addr} {fp wr : List Addr} {G : Array GenState → Array GenState → Prop} {n : Nat} {P : Nat → Value → Prop} {St : Nat → Shared → Prop}

theorem sum_from (W : WalksS prog w A.in1 I fp wr G n P St) (c0 : Int) (hc : 0 ≤ c0 ∧ c0 ≤ 1000) (hn : n ≤ 1000) (val : Nat → Int) (hsm : ∀ i, 0 ≤ val i ∧ val i ≤ 1000) (hval : ∀ i v, P i v → ∃ t, v = .int (val i) t) (S : Addr) (hSf : S ∉ fp) :
    ∀ (k i : Nat) (s : Shared) (tA : Tok) (ep : Nat), n - i = k → i ≤ n → St i s → s.heap.get? S = some { cls := .type "list", dict := none, data := .seq #[.int (c0 + preSum val i) tA] ep, slots := #[] } →
    (∀ s' t', Moved (S :: wr) G s s' → R (.ok (.ret (.int (c0 + preSum val n) t'))) s') → codeAny (model prog w) A (.builtin "sum.loop" ⟨[.ref I, .ref S, rawInt 0, rawInt 0], []⟩) R s := by
  have hSw : S ∉ wr := fun h => hSf (W.sub _ h)
  have hsub : ∀ b ∈ wr, b ∈ S :: wr := fun b hb => List.mem_cons_of_mem _ hb
  intro k
  induction k with
  | zero =>
    intro i s tA ep hk hi hst hS hR
    obtain rfl : i = n := by omega
    refine codeAny_builtin PySem.F.entry_sum_loop ?_
    rw [Around.under_plainId PySem.F.plain_sum_loop _]
    show wpAny _ A.in1 (seqItems? (.ref S) >>= _) _ _ s
    refine wpAny_bind (wpAny_seqItems hS rfl ?_)
    show wpAny _ A.in1 (tryCatch (pyNext (.ref I)) _ >>= _) _ _ s
    refine wpAny_bind (wpAny_tryCatch (W.done s _ _ hst fun s' hm => ?_))
    exact wpAny_pure (hR s' tA (hm.mono hsub))
  | succ k ih =>
    intro i s tA ep hk hi hst hS hR
    have hlt : i < n := by omega
    refine codeAny_builtin PySem.F.entry_sum_loop ?_
    rw [Around.under_plainId PySem.F.plain_sum_loop _]
    show wpAny _ A.in1 (seqItems? (.ref S) >>= _) _ _ s
    refine wpAny_bind (wpAny_seqItems hS rfl ?_)
    show wpAny _ A.in1 (tryCatch (pyNext (.ref I)) _ >>= _) _ _ s
    refine wpAny_bind (wpAny_tryCatch (W.item i s _ _ hlt hst fun v s' hP hst' hm => ?_))
    obtain ⟨t, rfl⟩ := hval i v hP
    have hS' := hm.heap S _ hSw hS
    have b1 := preSum_small hsm i
    have b2 := hsm i
    have fit : (decide (-(2 ^ 63) ≤ val i) && decide (val i < 2 ^ 63) && (decide (-(2 ^ 63) ≤ c0 + preSum val i + val i) && decide (c0 + preSum val i + val i < 2 ^ 63))) = true := by
      simp only [Bool.and_eq_true, decide_eq_true_eq]
      omega
    show wpAny _ A.in1 (if (decide (-(2 ^ 63) ≤ val i) && decide (val i < 2 ^ 63) && (decide (-(2 ^ 63) ≤ c0 + preSum val i + val i) && decide (c0 + preSum val i + val i < 2 ^ 63))) = true then (mkInt (c0 + preSum val i + val i) >>= _) else _) _ _ _
    rw [if_pos fit]
    refine wpAny_bind (wpAny_mkInt ?_)
    show wpAny _ A.in1 (updateSeq S (fun _ => #[.int (c0 + preSum val i + val i) s'.toks]) >>= _) _ _ _
    have e : c0 + preSum val i + val i = c0 + preSum val (i + 1) := by simp only [preSum]; omega
    rw [e]
    refine wpAny_bind ?_
    refine wpAny_updateSeq hS' rfl (wpAny_pure ⟨plainId_quiet PySem.F.plain_sum_loop _, ih (i + 1) _ s'.toks _ (by omega) hlt (W.frame _ s' _ _ hst' (Nat.le_succ _) fun b hb o e => ?_) (Heap.get?_update_self _ hS' rfl) fun s'' t'' hm'' => ?_⟩)
    · exact (Heap.get?_update_other _ _ (fun h : S = b => hSf (by rw [h]; exact hb))).trans e
    · refine hR s'' t'' (Moved.trans W.gtrans ((hm.mono hsub).then_heap (Nat.le_succ _) fun b o hb e => ?_) hm'')
      exact (Heap.get?_update_other _ _ (fun h : S = b => hb (by rw [h]; exact List.mem_cons_self))).trans e
end

section
variable {prog : Program} {w : World} {A : Around} {E : Value → Shared → Prop} {s : Shared} {h₀ : Heap} {L K : Addr} {m : Str → Option Value} {a : Addr} {n : Nat} {F : Nat → Value → Prop}

theorem call_sum_from {c0 : Int} {t : Tok} {Q : Value → Shared → Prop} (hc : 0 ≤ c0 ∧ c0 ≤ 1000) (hn : n ≤ 1000) (Fh : Fr h₀ L s.heap m) (G : AllBare s.gens) (X : Gen prog w A K a n F s) (hLK : L ≤ K) (val : Nat → Int) (hsm : ∀ i, 0 ≤ val i ∧ val i ≤ 1000)
    (hval : ∀ j v, F j v → ∃ t, v = .int (val j) t)
    (hQ : ∀ s' t', Fr h₀ L s'.heap m → AllBare s'.gens → s'.os = s.os → (∀ b o, b ≤ K → s.heap.get? b = some o → s'.heap.get? b = some o) → Q (.int (c0 + preSum val n) t') s') :
    wpAny (model prog w) A (call (.builtin "sum") [.ref a, .int c0 t]) Q E s := by
  obtain ⟨fp, wr, g, St, W, hst, _, _, hfp, hwr⟩ := X
  have W := W.in4_1
  refine call_function_tree PySem.F.kind_sum PySem.F.plain_sum PySem.F.entry_sum (by unfold argsOk; kernel_rfl) ?_
  unfold Builtin.«sum»
  simp only [List.length_cons, List.length_nil]
  rw [if_neg (by decide)]
  refine wpAny_bind (wpAny_of_eq (show Builtin.Builtins.bindParams "sum" ["start"] 0 { pos := [.int c0 t] } = pure [some (.int c0 t)] from rfl) ?_)
  refine wpAny_bind (W.self 0 _ _ _ hst ?_)
  show wpAny _ _ (if (decide (-(2 ^ 63) ≤ c0) && decide (c0 < 2 ^ 63)) = true then _ else _) _ _ _
  rw [if_pos (by simp only [Bool.and_eq_true, decide_eq_true_eq]; omega)]
  refine wpAny_bind (wpAny_rule (wpAny_bind (wpAny_mkInt (wpAny_bind (wpAny_pure ?_)))))
  simp only [List.forIn_cons, List.forIn_nil]
  refine wpAny_bind (wpAny_bind (wpAny_bind (wpAny_isInstance (T := "int") (b := false) (typeIs_int _ _ _) PySem.sub_int_str ?_)))
  simp only [Bool.false_eq_true, if_false]
  refine wpAny_pure (wpAny_bind (wpAny_bind (wpAny_isInstance (T := "int") (b := false) (typeIs_int _ _ _) PySem.sub_int_bytes ?_)))
  simp only [Bool.false_eq_true, if_false]
  refine wpAny_pure (wpAny_bind (wpAny_bind (wpAny_isInstance (T := "int") (b := false) (typeIs_int _ _ _) PySem.sub_int_bytearray ?_)))
  simp only [Bool.false_eq_true, if_false]
  refine wpAny_pure (wpAny_pure ?_)
  refine wpAny_bind (wpAny_newObj_type ?_)
  have hSf : s.heap.objs.size ∉ fp := fun hm => Nat.lt_irrefl _ (hfp _ hm)
  refine wpAny_pure ⟨plainId_quiet PySem.F.plain_sum_loop _, sum_from W c0 hc hn val hsm hval s.heap.objs.size hSf n 0 _ s.toks 0 rfl (Nat.zero_le _)
    (W.frame 0 s _ _ hst (Nat.le_succ _) fun b _ o e => Heap.get?_push_of_some _ e) (by rw [show c0 + preSum val 0 = c0 from by simp [preSum]]; exact Heap.get?_push_size _ rfl) fun s' t' hm => ?_⟩
  have hm' := hm.drop_new (s₂ := s) (Nat.le_succ _)
  exact hQ s' t' (Fh.moved hm' fun b hb => Nat.lt_of_le_of_lt hLK (hwr b hb)) (G.movedS hm') hm'.os fun b o hb e => hm'.heap b o (fun hmem => Nat.lt_irrefl _ (Nat.lt_of_lt_of_le (hwr b hmem) hb)) e
end
end
theorem freshEltL : True := by
  w_top off
  k_with_none
  trivial
section
set_option maxRecDepth 100000

noncomputable def plen (q : Nat) : Nat := (fw q).length + (pt q).length
theorem plen_le : ∀ q, q < 7 → plen q ≤ 2 := by
  have : ∀ q : Fin 7, plen q.val ≤ 2 := by decide +kernel
  exact fun q hq => this ⟨q, hq⟩
theorem fw_len_le : ∀ q, (fw q).length ≤ 2 := by
  intro q; unfold fw; split <;> (try split) <;> decide
theorem pt_len_le : ∀ q, (pt q).length ≤ 2 := by
  intro q; unfold pt; (repeat' split) <;> decide

section
variable {w : World} {A : Around} {E : Value → Shared → Prop} {u : Shared} {g : Heap} {mg mb : Str → Option Value} {p : Program} {loose : List Str} {mean : ExcName → Option Value}

theorem gname {x : Str} {pos : Pos} {C : Addr} {code v : Value} {scope : Scope} {env : Env} {m₂ : Str → Option Value} {Q : Value → Shared → Prop} (hn : u.heap.Ns C m₂) (hv : m₂ x = some v)
    (h : Q v u) (hk : scope.kind = .function := by rfl) (hl : (genEnv scope [] C code builtinsNs env).kindOf x = some .local := by rfl) (hd : (x == ("__debug__" : Str)) = false := by decide) :
    wpAny (model PP w) A (eval (.Name x pos) (genEnv scope [] C code builtinsNs env)) Q E u :=
  wpAny_Name (wpAny_loadName_local hk hl hn hv h) hd
theorem gname_b {x : Str} {pos : Pos} {C : Addr} {code v : Value} {scope : Scope} {env : Env} {Q : Value → Shared → Prop} (X : (hd.heap_1 w.params).In g) (T : Top p loose mean mg mb g) (k : ∀ b o, g.get? b = some o → u.heap.get? b = some o)
    (e : nsIn (hd.heap_1 w.params) mainGlobals x = some none) (hv : bootBuiltins x = some v) (hn : x ≠ "__name__") (hge : env.globals = mainGlobals) (h : Q v u)
    (hk : scope.kind = .function := by rfl) (hx : (genEnv scope [] C code builtinsNs env).kindOf x = some .globalImplicit := by rfl) (hd : (x == ("__debug__" : Str)) = false := by decide) :
    wpAny (model PP w) A (eval (.Name x pos) (genEnv scope [] C code builtinsNs env)) Q E u :=
  Calls.Name_function_global hk hx (Calls.loadGlobal_builtin (env := genEnv scope [] C code builtinsNs env) (by show u.heap.Ns env.globals mg; rw [hge]; exact T.g.keeps k) (mg_none_of X T.g e) (T.b.keeps k) ((T.builtins x hn).trans hv) h) hd
theorem gname_g {x : Str} {pos : Pos} {C : Addr} {code v : Value} {scope : Scope} {env : Env} {Q : Value → Shared → Prop} (X : (hd.heap_1 w.params).In g) (T : Top p loose mean mg mb g) (k : ∀ b o, g.get? b = some o → u.heap.get? b = some o)
    (e : nsIn (hd.heap_1 w.params) mainGlobals x = some (some v)) (hge : env.globals = mainGlobals) (h : Q v u)
    (hk : scope.kind = .function := by rfl) (hx : (genEnv scope [] C code builtinsNs env).kindOf x = some .globalImplicit := by rfl) (hd : (x == ("__debug__" : Str)) = false := by decide) :
    wpAny (model PP w) A (eval (.Name x pos) (genEnv scope [] C code builtinsNs env)) Q E u :=
  Calls.Name_function_global hk hx (Calls.loadGlobal_global (env := genEnv scope [] C code builtinsNs env) (by show u.heap.Ns env.globals mg; rw [hge]; exact T.g.keeps k) (mg_of X T.g e) h) hd

theorem elt_len {q : Nat} {t1 t2 : Tok} {C : Addr} {code : Value} {env : Env} {m₂ : Str → Option Value} {p1 p2 p3 p4 p5 p6 p7 : Pos} {scope : Scope} (X : (hd.heap_1 w.params).In g) (T : Top p loose mean mg mb g) (k : ∀ b o, g.get? b = some o → u.heap.get? b = some o)
    (hn : u.heap.Ns C m₂) (h1 : m₂ "fws" = some (.str (fw q) t1)) (h2 : m₂ "part" = some (.str (pt q) t2)) (hge : env.globals = mainGlobals) (hh : A.handled = none)
    (hsc : scope = { kind := .function, names := [("\x2e0", .local), ("fws", .local), ("part", .local), ("len", .globalImplicit)], isGenerator := true, isCoroutine := false }) :
    wpAny (model PP w) A (eval (.BinOp (.Call (.Name "len" p1) [.Name "fws" p2] [] p3) .Add (.Call (.Name "len" p4) [.Name "part" p5] [] p6) p7) (genEnv scope [] C code builtinsNs env))
      (fun y s₃ => (∃ t, y = .int (plen q : Int) t) ∧ Keeps u s₃) E u := by
  subst hsc
  have l1 := fw_len_le q
  have l2 := pt_len_le q
  refine wpAny_BinOp ?_
  walk1
  refine gname_b X T k (by k_is) (by boot_by_name) (by decide) hge ?_
  walk1
  walk1
  refine gname hn h1 ?_
  walk1
  refine PyProof.Rows.len_str (x := fw q) (by omega) ?_
  walk1
  refine gname_b X T k (by k_is) (by boot_by_name) (by decide) hge ?_
  walk1
  walk1
  refine gname hn h2 ?_
  walk1
  refine PyProof.Rows.len_str (x := pt q) (by omega) ?_
  have e : (((fw q).length : Nat) : Int) + (((pt q).length : Nat) : Int) = ((plen q : Nat) : Int) := by simp [plen]
  refine wpAny_add_int ?_
  exact ⟨⟨_, congrArg (Value.int · _) e⟩, ⟨_, _, rfl, fun _ _ e => e⟩⟩
end
end
theorem freshRowGet : True := by
  w_top off
  k_with_none
  trivial
section
set_option maxRecDepth 100000
theorem news_sub {h₀ h : Heap} {L : Addr} {n n' : List (Addr × Obj)} (N : News h₀ L h n) (hs : ∀ p ∈ n', p ∈ n) : News h₀ L h n' := fun p hp => N p (hs p hp)
theorem news_keep {h₀ h h' : Heap} {L : Addr} {n : List (Addr × Obj)} (N : News h₀ L h n) (k : ∀ p ∈ n, h.get? p.1 = some p.2 → h'.get? p.1 = some p.2) : News h₀ L h' n := fun p hp => ⟨k p hp (N p hp).1, (N p hp).2⟩
theorem inst_rowG {h₀ h : Heap} {L r d : Addr} {vs : List Value} {n : Nat} {od : Obj} {news : List (Addr × Obj)} (N : News h₀ L h news) (h1 : (r, rowObj d vs n) ∈ news) (h2 : (d, od) ∈ news) :
    InstAt h r (rowObj d vs n) 137 (some od) := ⟨(N _ h1).1, rfl, rfl, (N _ h2).1⟩
theorem inst_row {h₀ h : Heap} {L r d : Addr} {vs : List Value} {n nd : Nat} {hs size : Int} {tk t : Tok} {news : List (Addr × Obj)} (N : News h₀ L h news) (h1 : (r, rowObj d vs n) ∈ news) (h2 : (d, dObj hs tk size t nd) ∈ news) :
    InstAt h r (rowObj d vs n) 137 (some (dObj hs tk size t nd)) := ⟨(N _ h1).1, rfl, rfl, (N _ h2).1⟩

theorem look_size (hs : Int) (tk : Tok) (size : Int) (t : Tok) (nd : Nat) : lookIn "_initial_size" (dObj hs tk size t nd) = some (some (.int size t)) := by
  rw [lookIn_dict]
  rfl
theorem look_none (hs : Int) (tk : Tok) (size : Int) (t : Tok) (nd : Nat) {name : Str} (hn : name ≠ "_initial_size") : lookIn name (dObj hs tk size t nd) = some none := by
  rw [lookIn_dict]
  have e : (Value.str (Str.ofString "_initial_size") tk).isStr name = false := by
    show (Str.ofString "_initial_size" == name) = false
    exact beq_false_of_ne (Ne.symm hn)
  simp only [getL, List.find?, e]
  rfl
section
variable {w : World} {A : Around} {E : Value → Shared → Prop} {s : Shared} {h₀ : Heap} {L : Addr} {m : Str → Option Value} {x r d : Addr} {vs : List Value} {n nd : Nat} {hs size : Int} {tk t : Tok} {news : List (Addr × Obj)}

theorem ga_split : splitId "list.__getattribute__" = some ("list", "__getattribute__") := by decide +kernel
theorem ga_check {M : Model} {nmv : Value} {Q : Unit → Shared → Prop} (X : (hd.heap_1 w.params).In s.heap) (ho : s.heap.get? r = some (rowObj d vs n)) (q : Q () s) :
    wpAny M A (checkBuiltinCall "list.__getattribute__" ⟨[.ref r, nmv], []⟩) Q E s :=
  by
  have a1 : builtinKind "list.__getattribute__" = some .slot := by decide +kernel
  have a2 := PySem.F.args_list_getattribute_2 (.ref r) nmv
  have a3 := @row_check w A E s r d vs n M "list.__getattribute__" "__getattribute__" [nmv] Q X ho (.inl a1) ga_split a2 q
  exact a3
set_option maxHeartbeats 1000000 in
theorem row_size {expr : Bool} {Q : Value → Shared → Prop} (F : Fr h₀ L s.heap m) (X₀ : (hd.heap_1 w.params).In h₀) (N : News h₀ L s.heap news) (h1 : (r, rowObj d vs n) ∈ news) (h2 : (d, dObj hs tk size t nd) ∈ news)
    (h : Q (.int size t) { s with toks := s.toks + 1 }) : wpAny (model PP w) A (getAttr (.ref r) "_initial_size" expr) Q E s := by
  have X := X₀.keeps F.keep
  have I := inst_row N h1 h2
  have hf : findObj (hd.heap_1 w.params) 137 (some (dObj hs tk size t nd)) "_initial_size" = some (.value (.int size t)) :=
    findObj_own (attr := none) (by k_is) (by k_is) rfl (look_size hs tk size t nd)
  obtain ⟨hh, g, dd, tt, os⟩ := s
  have L0 := I.type (M := model PP w)
  have L1 := looks_findIn (M := model PP w) X (t := .ref 137) (name := "__getattribute__") (r := some (.builtin "list.__getattribute__")) (by k_is)
  have L2 := looks_findIn (M := model PP w) X (t := .ref 137) (name := "__getattr__") (r := none) (by k_is)
  have L3 := looks_find (M := model PP w) X I hf
  unfold getAttr getAttrBy
  refine wpAny_bind (wpAny_mkText (wpAny_holding (wpAny_bind (L0.at (wpAny_bind (L1.at ?_))))))
  show wpAny _ _ (getAttrByItsOwn (.ref r) (.str "_initial_size" tt) (.ref 137) (.builtin "list.__getattribute__") true expr) _ _ _
  unfold getAttrByItsOwn hookBefore callGetattribute boundAndCalled
  refine wpAny_bind (m := typeLookup (.ref 137) "__getattr__") (L2.at ?_)
  refine wpAny_bind (wpAny_attempt (wpAny_holding ?_))
  rw [show (expr && onTheHeap (Value.builtin "list.__getattribute__")) = false from Bool.and_false _, if_neg (by decide)]
  refine wpAny_bind (wpAny_of_eq (PySem.F.slot_list_getattribute.bind _) ?_)
  refine wpAny_mono (Q := fun v s' => v = .int size t ∧ s' = ⟨hh, g, dd, tt + 1, os⟩) (E := fun _ _ => False) ?_ (fun v s' hv => ?_) fun _ _ z => z.elim
  · have ho : hh.get? r = some (rowObj d vs n) := (N _ h1).1
    refine wpAny_call ?_
    refine codeAny_call_builtin PySem.F.slot_list_getattribute.plain PySem.F.entry_list_ga ?_
    refine ga_check X ho ?_
    unfold Builtin.«object.__getattribute__»
    wp_step
    refine wpAny_pure ?_
    dsimp only
    refine wpAny_bind (wpAny_pure ?_)
    refine wpAny_bind (L0.at (wpAny_bind (L3.at ?_)))
    exact wpAny_pure ⟨rfl, rfl⟩
  · obtain ⟨rfl, rfl⟩ := hv
    exact wpAny_pure h
end

section
variable {prog : Program} {w : World} {A : Around} {E : Value → Shared → Prop} {s : Shared} {K : Frag} {x C : Addr} {ox : Obj} {od : Option Obj} {name : Str} {pl : Sem Bool} {Q : Value × List Value → Shared → Prop}

theorem rowm_fn {f tf : Value} (X : K.In s.heap) (I : InstAt s.heap x ox C od) (hga : findIn K (.ref C) "__getattribute__" = some (some (.builtin "list.__getattribute__"))) (hk : findIn K (.ref C) "__getattr__" = some none)
    (hf : findIn K (.ref C) name = some (some f)) (ht : typeIn K f = some tf) (hm : (tf != .type "function" && tf != .type "method_descriptor" && tf != .type "wrapper_descriptor") = false) (hs : shadowIn od name = some false) (h : Q (f, [.ref x]) s) :
    wpAny (model prog w) A (getMethod (.ref x) name pl) Q E s := by
  have hcan := canon_list_getattribute
  unfold getMethod specialOf
  refine wpAny_bind (wpAny_bind (I.type.here ((looks_findIn X hga).here ?_)))
  dsimp only
  rw [hcan, if_neg (by decide)]
  refine wpAny_bind (wpAny_bind (I.type.here ((looks_findIn X hk).here ?_)))
  refine wpAny_bind (wpAny_bind (I.type.here ((looks_findIn X hf).here (wpAny_bind ((looks_typeIn X ht).here ?_)))))
  rw [if_neg (by rw [hm]; decide)]
  refine wpAny_bind (wpAny_loadPart I.at_ ?_)
  have hd := I.dict
  cases e : ox.dict with
  | none => exact wpAny_bind (wpAny_rule (wpAny_pure h))
  | some dx =>
    cases od with
    | none => rw [e] at hd; exact hd.elim
    | some o =>
      rw [e] at hd
      obtain ⟨r, a, b⟩ := Option.map_eq_some_iff.mp hs
      refine wpAny_bind (wpAny_bind (wpAny_loadPart hd ?_))
      rw [nsLook_of a]
      refine wpAny_pure ?_
      rw [b]
      exact wpAny_bind (wpAny_rule (wpAny_pure h))
end

section
variable {w : World} {A : Around} {E : Value → Shared → Prop} {s : Shared} {h₀ : Heap} {L : Addr} {m : Str → Option Value} {x r d : Addr} {vs : List Value} {n nd : Nat} {hs size : Int} {tk t : Tok} {news : List (Addr × Obj)} {pl : Sem Bool} {Q : Value × List Value → Shared → Prop}

theorem row_meth {name : Str} {f tf : Value} (F : Fr h₀ L s.heap m) (X₀ : (hd.heap_1 w.params).In h₀) (N : News h₀ L s.heap news) (h1 : (r, rowObj d vs n) ∈ news) (h2 : (d, dObj hs tk size t nd) ∈ news)
    (hf : findIn (hd.heap_1 w.params) (.ref 137) name = some (some f)) (ht : typeIn (hd.heap_1 w.params) f = some tf) (hm : (tf != .type "function" && tf != .type "method_descriptor" && tf != .type "wrapper_descriptor") = false)
    (hn : name ≠ "_initial_size") (h : Q (f, [.ref r]) s) : wpAny (model PP w) A (getMethod (.ref r) name pl) Q E s :=
  rowm_fn (X₀.keeps F.keep) (inst_row N h1 h2) (by k_is) (by k_is) hf ht hm (by
    have e : lookIn name (dObj hs tk size t nd) = some none := look_none hs tk size t nd hn
    show (lookIn name (dObj hs tk size t nd)).map _ = _
    rw [e]; rfl) h
end
end
local macro_rules | `(tactic| k_room) => `(tactic| ktr_room)
local macro_rules | `(tactic| k_units) => `(tactic| ktr_units)
theorem freshLenW : True := by
  w_top off
  k_with_none
  trivial
section
theorem gen_toks {prog : Program} {w : World} {A : Around} {K a : Addr} {n : Nat} {F : Nat → Value → Prop} {s : Shared} (X : Gen prog w A K a n F s) (t : Nat) (ht : s.toks ≤ t) : Gen prog w A K a n F { s with toks := t } :=
  let ⟨fp, wr, g, St, W, hst, x1, x2, hfp, hwr⟩ := X
  ⟨fp, wr, g, St, W, W.frame 0 s s.heap t hst ht (fun _ _ _ e => e), x1, x2, hfp, hwr⟩
theorem news_ne {h₀ h : Heap} {L P x : Addr} {news : List (Addr × Obj)} {oP ox : Obj} (N : News h₀ L h news) (ok : TabOk oP) (hP : (P, oP) ∈ news) (hx : (x, ox) ∈ news) (hd : ∀ ps, ox.data ≠ .fields ps) : x ≠ P := fun e => by
  obtain ⟨ps, hp, _⟩ := ok
  have e1 := (N _ hP).1
  have e2 := (N _ hx).1
  subst e
  have e3 : oP = ox := Option.some.inj (e1.symm.trans e2)
  exact hd ps (e3 ▸ hp)

structure Led (tl : List (Addr × Obj)) (vs : List Value) (qs : List Nat) : Prop where
  len : vs.length = qs.length
  at_ : ∀ (j q : Nat), qs[j]? = some q → q < 7 ∧ ∃ t t1 t2, vs[j]? = some (.ref t) ∧ (t, pieceObj q t1 t2) ∈ tl
theorem Led.items {tl news : List (Addr × Obj)} {vs : List Value} {qs : List Nat} (I : Led tl vs qs) {h₀ h : Heap} {L : Addr} (N : News h₀ L h news) (hs : ∀ p ∈ tl, p ∈ news) : Items h vs qs :=
  ⟨I.len, fun j q hq => let ⟨a, t, t1, t2, e, ht⟩ := I.at_ j q hq; ⟨a, t, t1, t2, e, (N _ (hs _ ht)).1⟩⟩
noncomputable def sumL (qs : List Nat) : Nat := (qs.map plen).sum
theorem preSum_sumL (qs : List Nat) : ∀ n, n ≤ qs.length → preSum (fun i => ((plen (qs.getD i 0) : Nat) : Int)) n = ((sumL (qs.take n) : Nat) : Int)
  | 0, _ => by simp [preSum, sumL]
  | n + 1, h => by
    have ih := preSum_sumL qs n (by omega)
    have e : qs.take (n + 1) = qs.take n ++ [qs.getD n 0] := by
      rw [List.take_succ, List.getElem?_eq_getElem (by omega)]
      simp [List.getD, List.getElem?_eq_getElem (show n < qs.length by omega)]
    simp only [preSum, ih, e]
    simp [sumL]

set_option maxRecDepth 100000 in
set_option maxHeartbeats 8000000 in
theorem row_len {w : World} {p : Program} {loose : List Str} {mean : ExcName → Option Value} {mg mb : Str → Option Value}
    (dp un : Nat) (gd : Option (List Code)) (cn : Str) (cs : Scope) (a : Addr) (ccd : Value) (cl : List (Str × Addr)) (outer : List Env) (A₀ : Around) (base h₀ : Heap) (L : Addr) (m : Str → Option Value) (s : Shared) (Q E : Value → Shared → Prop)
    (r d : Addr) (vs : List Value) (n : Nat) (hs : Int) (tkd tsz : Tok) (size : Int) (nd : Nat) (oL : Obj) (tl : List (Addr × Obj)) (qs : List Nat)
    (B : Below A₀ base outer h₀) (F : Fr h₀ L s.heap m) (X : (hd.heap_1 w.params).In h₀)
    (N : News h₀ L s.heap ((99, oL) :: (r, rowObj d vs n) :: (d, dObj hs tkd size tsz nd) :: tl)) (T : Top p loose mean mg mb h₀) (hk : cs.kind = .function)
    (hd1 : dp + 10 < recursionLimit) (hu1 : un + 80 < cLine)
    (ok : TabOk oL) (hsep : ∀ q ∈ tl, q.1 ≠ 99) (I : Led tl vs qs) (hB : AllBare s.gens) (h1 : 0 ≤ size) (h2 : size ≤ 2) (h3 : qs.length ≤ 20)
    (hret : ∀ (t : Tok) (s' : Shared) (oL' : Obj), Fr h₀ L s'.heap m → News h₀ L s'.heap ((99, oL') :: (r, rowObj d vs n) :: (d, dObj hs tkd size tsz nd) :: tl) → TabOk oL' → AllBare s'.gens → s'.os = s.os → Q (.int (size + (sumL qs : Nat)) t) s') :
    wpAny (model PP w) (ktrTop dp un gd cn cs L a ccd cl outer) (call (.ref 104) [.ref r]) Q E s := by
  have hrne : r ≠ 99 := news_ne N ok (.head _) (.tail _ (.head _)) (by intro ps h; cases h)
  have hdne : d ≠ 99 := news_ne N ok (.head _) (.tail _ (.tail _ (.head _))) (by intro ps h; cases h)
  refine wpAny_call ?_
  k_dflt cell_enter
  k_steps
  rename_i g' L' h' FG F' N' B' X' T'
  refine gen_row (fun q y => ∃ t, y = .int (plen q : Int) t) F' X' T' N' (.head _) ?_ (I.items N' fun p hp => .tail _ (.tail _ (.tail _ hp))) hB ok rfl (codeHd_of_K X' (by kernel_rfl)) rfl rfl rfl rfl (by decide) rfl rfl rfl (by decide) rfl (by k_room) ?_ (fun _ => rfl) ?_ ?_
  · intro q hq
    rcases List.mem_cons.mp hq with rfl | hq
    · exact hrne
    · rcases List.mem_cons.mp hq with rfl | hq
      · exact hdne
      · exact hsep q hq
  · intro Q' hq
    walk1
    exact hq
  · intro C code A' E' q t1 t2 u m₂ hA hq hn e1 e2 k
    exact elt_len X' T' k hn e1 e2 rfl hA rfl
  · intro aG oL' s' hle hLle F₂ N₂ ok₂ hB₂ hos₂ I₂ X₂
    k_steps
    refine row_size F₂ X' N₂ (.tail _ (.head _)) (.tail _ (.tail _ (.head _))) ?_
    k_steps
    have hvl : vs.length = qs.length := I.len
    rw [passing_all] at X₂
    rw [List.length_range] at X₂
    have hsm : ∀ i, 0 ≤ ((plen (qs.getD i 0) : Nat) : Int) ∧ ((plen (qs.getD i 0) : Nat) : Int) ≤ 1000 := fun i => by
      have a := fw_len_le (qs.getD i 0)
      have b := pt_len_le (qs.getD i 0)
      unfold plen
      omega
    refine call_sum_from ⟨h1, by omega⟩ (by omega) F₂ hB₂ (gen_toks X₂ _ (Nat.le_succ _)) hLle (fun i => ((plen (qs.getD i 0) : Nat) : Int)) hsm ?_ ?_
    · rintro j v ⟨i, hi, q, hq, t, rfl⟩
      have hij : i = j := by
        rcases Nat.lt_or_ge j vs.length with hj | hj
        · rw [List.getElem?_range hj] at hi; exact (Option.some.inj hi).symm
        · rw [List.getElem?_eq_none (by simpa using hj)] at hi; cases hi
      subst hij
      exact ⟨t, by rw [List.getD, hq]; rfl⟩
    · intro s₃ t₃ F₃ hB₃ hos₃ kp
      have e : preSum (fun i => ((plen (qs.getD i 0) : Nat) : Int)) vs.length = ((sumL qs : Nat) : Int) := by
        rw [hvl, preSum_sumL qs _ (Nat.le_refl _), List.take_length]
      rw [e]
      exact ⟨_, _, _, F₃, news_keep N₂ (fun p hp h => kp p.1 p.2 (hle p hp) h), fun Fx Nx => hret _ _ _ Fx Nx ok₂ hB₃ (hos₃.trans hos₂)⟩
end
theorem freshLenB : True := by
  w_top off
  k_with_none
  trivial
section
set_option maxRecDepth 100000
set_option maxHeartbeats 2000000 in
theorem len_row {w : World} {p : Program} {loose : List Str} {mean : ExcName → Option Value} {mg mb : Str → Option Value}
    {dp un : Nat} {gd : Option (List Code)} {cn : Str} {cs : Scope} {a : Addr} {ccd : Value} {cl : List (Str × Addr)} {outer : List Env} {A₀ : Around} {base h₀ : Heap} {L : Addr} {m : Str → Option Value} {s : Shared} {Q E : Value → Shared → Prop}
    {r d : Addr} {vs : List Value} {n : Nat} {hs : Int} {tkd tsz : Tok} {size : Int} {nd : Nat} {oL : Obj} {tl : List (Addr × Obj)} {qs : List Nat}
    (B : Below A₀ base outer h₀) (F : Fr h₀ L s.heap m) (X : (hd.heap_1 w.params).In h₀)
    (N : News h₀ L s.heap ((99, oL) :: (r, rowObj d vs n) :: (d, dObj hs tkd size tsz nd) :: tl)) (T : Top p loose mean mg mb h₀) (hk : cs.kind = .function)
    (hd1 : dp + 10 < recursionLimit) (hu1 : un + 90 < cLine)
    (ok : TabOk oL) (hsep : ∀ q ∈ tl, q.1 ≠ 99) (I : Led tl vs qs) (hB : AllBare s.gens) (h1 : 0 ≤ size) (h2 : size ≤ 2) (h3 : qs.length ≤ 20)
    (hret : ∀ (t : Tok) (s' : Shared) (oL' : Obj), Fr h₀ L s'.heap m → News h₀ L s'.heap ((99, oL') :: (r, rowObj d vs n) :: (d, dObj hs tkd size tsz nd) :: tl) → TabOk oL' → AllBare s'.gens → s'.os = s.os → Q (.int (size + (sumL qs : Nat)) t) s') :
    wpAny (model PP w) (ktrTop dp un gd cn cs L a ccd cl outer) (call (.builtin "len") [.ref r]) Q E s := by
  have hl : sumL qs ≤ 100 := by
    have : ∀ l : List Nat, sumL l ≤ 4 * l.length := by
      intro l
      induction l with
      | nil => simp [sumL]
      | cons x l ih =>
        have a := fw_len_le x
        have b := pt_len_le x
        simp only [sumL, List.map_cons, List.sum_cons, List.length_cons] at *
        have : plen x ≤ 4 := by unfold plen; omega
        omega
    have := this qs
    omega
  refine len_K F X (inst_row N (.tail _ (.head _)) (.tail _ (.tail _ (.head _)))) (f := 104) (by k_is) (by k_is) ?_
  refine row_len _ _ _ _ _ _ _ _ _ _ _ _ _ _ _ _ _ _ _ _ _ _ _ _ _ _ _ _ _ B F X N T hk hd1 ?_ ok hsep I hB h1 h2 h3 ?_
  · show un + 1 + 80 < cLine
    omega
  · intro t s' oL' F' N' ok' hB' hos'
    refine ⟨⟨by omega, by omega⟩, hret _ { s' with toks := s'.toks + 1 } oL' F' N' ok' hB' hos'⟩
end
section
open PySem

noncomputable def placeLoop (many signs count : Int) (half : Nat) : Option Int :=
  if h : half = 0 then none
  else if count ≤ signs - half ∧ signs - half < many then some count
  else placeLoop many signs count (half / 2)
termination_by half
decreasing_by omega

noncomputable def lawPlace (many signs count : Int) : Option Int :=
  if signs ≤ many then some (min count signs)
  else placeLoop many signs count ((signs + 1) / 2).toNat

noncomputable def optV (t : Tok) : Option Int → Value
  | none => .none
  | some k => .int k t

theorem placeLoop_none {many signs c : Int} : ∀ (half : Nat), many ≤ signs - half → placeLoop many signs c half = none := by
  intro half
  induction half using Nat.strongRecOn with
  | ind half ih =>
    intro h
    rw [placeLoop]
    split
    · rfl
    · rw [if_neg (by omega)]
      exact ih (half / 2) (by omega) (by omega)
theorem placeLoop_hit {many signs c : Int} {half : Nat} (h0 : half ≠ 0) (h : c ≤ signs - half ∧ signs - half < many) : placeLoop many signs c half = some c := by
  rw [placeLoop, dif_neg h0, if_pos h]
theorem placeLoop_next {many signs c : Int} {half : Nat} (h0 : half ≠ 0) (h : ¬ (c ≤ signs - half ∧ signs - half < many)) : placeLoop many signs c half = placeLoop many signs c (half / 2) := by
  rw [placeLoop, dif_neg h0, if_neg h]

noncomputable def BInv (many signs c lo hi : Int) : Prop :=
  0 ≤ lo ∧ lo ≤ hi ∧ hi ≤ signs ∧ ((hi ≤ many ∧ lo ≤ min c signs ∧ min c signs ≤ hi ∧ lawPlace many signs c = some (min c signs)) ∨
    (hi = signs ∧ many < signs ∧ lo ≤ c ∧ placeLoop many signs c ((signs - lo + 1) / 2).toNat = lawPlace many signs c))

theorem BInv.init {many signs c : Int} (h1 : 0 ≤ signs) (h3 : 0 ≤ c) : BInv many signs c 0 signs := by
  refine ⟨by omega, h1, by omega, ?_⟩
  by_cases h : signs ≤ many
  · exact .inl ⟨h, by omega, by omega, by unfold lawPlace; rw [if_pos h]⟩
  · refine .inr ⟨rfl, by omega, h3, ?_⟩
    unfold lawPlace
    rw [if_neg h]
    congr 2
    omega
theorem mid_eq (a : Int) : a.fdiv 2 = a / 2 := Int.fdiv_eq_ediv_of_nonneg _ (by omega)
theorem BInv.mid {many signs c lo hi : Int} (I : BInv many signs c lo hi) (h : lo < hi) : 0 ≤ (lo + hi).fdiv 2 ∧ lo ≤ (lo + hi).fdiv 2 ∧ (lo + hi).fdiv 2 < hi ∧ (lo + hi).fdiv 2 < signs := by
  obtain ⟨h1, h2, h3, _⟩ := I
  rw [mid_eq]
  omega
theorem BInv.out {many signs c lo hi : Int} (I : BInv many signs c lo hi) (h : lo < hi) (hm : many ≤ (lo + hi).fdiv 2) : lawPlace many signs c = none := by
  obtain ⟨h1, h2, h3, h4⟩ := I
  rw [mid_eq] at hm
  rcases h4 with ⟨a, _⟩ | ⟨rfl, b, d, e⟩
  · omega
  · rw [← e]
    exact placeLoop_none _ (by omega)
theorem BInv.up {many signs c lo hi : Int} (I : BInv many signs c lo hi) (h : lo < hi) (hm : (lo + hi).fdiv 2 < c) : BInv many signs c ((lo + hi).fdiv 2 + 1) hi := by
  obtain ⟨h1, h2, h3, h4⟩ := I
  rw [mid_eq] at *
  refine ⟨by omega, by omega, h3, ?_⟩
  rcases h4 with ⟨a, b1, b2, b3⟩ | ⟨rfl, b, d, e⟩
  · exact .inl ⟨a, by omega, b2, b3⟩
  · refine .inr ⟨rfl, b, by omega, ?_⟩
    rw [← e, placeLoop_next (half := ((hi - lo + 1) / 2).toNat) (by omega) (by omega)]
    congr 1
    omega
theorem BInv.down {many signs c lo hi : Int} (I : BInv many signs c lo hi) (h : lo < hi) (hm : c ≤ (lo + hi).fdiv 2) (hr : (lo + hi).fdiv 2 < many) : BInv many signs c lo ((lo + hi).fdiv 2) := by
  obtain ⟨h1, h2, h3, h4⟩ := I
  rw [mid_eq] at *
  refine ⟨h1, by omega, by omega, .inl ?_⟩
  rcases h4 with ⟨a, b1, b2, b3⟩ | ⟨rfl, b, d, e⟩
  · exact ⟨by omega, by omega, by omega, b3⟩
  · refine ⟨by omega, by omega, by omega, ?_⟩
    rw [← e, placeLoop_hit (half := ((hi - lo + 1) / 2).toNat) (by omega) (by omega)]
    congr 1
    omega
theorem BInv.exit {many signs c lo hi : Int} (I : BInv many signs c lo hi) (h : ¬ lo < hi) (hc : c ≤ many) : lawPlace many signs c = some lo := by
  obtain ⟨h1, h2, h3, h4⟩ := I
  rcases h4 with ⟨a, b1, b2, b3⟩ | ⟨rfl, b, d, e⟩
  · rw [b3]; congr 1; omega
  · omega
theorem lawPlace_self {many c : Int} (h : c ≤ many) : lawPlace many many c = some c := by
  unfold lawPlace
  rw [if_pos (Int.le_refl _)]
  congr 1
  omega
end
theorem freshBisL : True := by
  w_top off
  k_with_none
  trivial
section
set_option maxRecDepth 100000
theorem sumL_le (l : List Nat) : sumL l ≤ 4 * l.length := by
  induction l with
  | nil => simp [sumL]
  | cons x l ih =>
    have a := fw_len_le x
    have b := pt_len_le x
    simp only [sumL, List.map_cons, List.sum_cons, List.length_cons] at *
    have : plen x ≤ 4 := by unfold plen; omega
    omega
section
variable {w : World} {A : Around} {E : Value → Shared → Prop} {s : Shared} {g : Heap} {L : Addr} {m : Str → Option Value} {r d : Addr} {vs : List Value} {n : Nat} {news tl : List (Addr × Obj)} {qs : List Nat} {lo hi sg c : Int} {u : Tok} {Q : Value → Shared → Prop} {value slice : PySem.Expr} {ops : List Value}
theorem cmp_lt_led {t px : Addr} {i j : Nat} {t1 t2 u1 u2 : Tok} (N : News g L s.heap news) (h1 : (t, pieceObj i t1 t2) ∈ news) (h2 : (px, pieceObj j u1 u2) ∈ news) (hi : i < 7) (hj : j < 7) (hu : A.units < cLine) (h : Q (.bool (decide (i < j))) s) :
    wpAny (model PP w) A (compareOp .Lt (.ref t) (.ref px)) Q E s := cmp_lt_piece hi hj (N _ h1).1 (N _ h2).1 hu h
theorem bis_item (F : Fr g L s.heap m) (X : (hd.heap_1 w.params).In g) (N : News g L s.heap news) (hr : (r, rowObj d vs n) ∈ news) (I : Led tl vs qs) (H : BInv qs.length sg c lo hi) (hlt : lo < hi) (hsg : sg ≤ 200) (hA : A.handled = none)
    (hs : subscripted slice false (.ref r) (.int ((lo + hi).fdiv 2) u) = operate ops (getItem (.ref r) (.int ((lo + hi).fdiv 2) u)))
    (hout : lawPlace qs.length sg c = none → ∀ h' tk e, Heap.NewExc s.heap h' e "IndexError" → E (.ref e) { s with heap := h', toks := tk })
    (hin : ∀ q t t1 t2, 0 ≤ (lo + hi).fdiv 2 → (lo + hi).fdiv 2 < qs.length → qs[((lo + hi).fdiv 2).toNat]? = some q → q < 7 → (t, pieceObj q t1 t2) ∈ tl → Q (.ref t) s) :
    wpAny (model PP w) A (subscriptTail value slice (.ref r) (.int ((lo + hi).fdiv 2) u)) Q E s := by
  have Xs := X.keeps F.keep
  have ho := (N _ hr).1
  obtain ⟨b1, b2, b3, b4⟩ := H.mid hlt
  refine row_tail Xs ho ?_ hs
  by_cases hm : (lo + hi).fdiv 2 < (qs.length : Int)
  · have hj : ((lo + hi).fdiv 2).toNat < qs.length := by omega
    obtain ⟨h7, t, t1, t2, e1, e2⟩ := I.at_ _ _ (List.getElem?_eq_getElem hj)
    exact row_getItem Xs ho b1 (by omega) e1 (hin _ t t1 t2 b1 hm (List.getElem?_eq_getElem hj) h7 e2)
  · exact row_getItem_out Xs ho hA b1 (by omega) (by rw [I.len]; omega) (hout (H.out hlt (by omega)))
end
set_option maxHeartbeats 8000000 in
theorem bl_none {w : World} {p : Program} {loose : List Str} {mean : ExcName → Option Value} {mg mb : Str → Option Value}
    {dp un : Nat} {gd : Option (List Code)} {cn : Str} {cs : Scope} {a : Addr} {ccd : Value} {cl : List (Str × Addr)} {outer : List Env} {A₀ : Around} {base h₀ : Heap} {L : Addr} {m : Str → Option Value} {s : Shared} {Q E : Value → Shared → Prop}
    {r d px : Addr} {vs : List Value} {n : Nat} {hs : Int} {tkd tsz u1 u2 : Tok} {size : Int} {nd x : Nat} {oL : Obj} {tl : List (Addr × Obj)} {qs : List Nat} {c : Nat}
    (B : Below A₀ base outer h₀) (F : Fr h₀ L s.heap m) (X : (hd.heap_1 w.params).In h₀)
    (N : News h₀ L s.heap ((99, oL) :: (r, rowObj d vs n) :: (d, dObj hs tkd size tsz nd) :: tl)) (T : Top p loose mean mg mb h₀) (hk : cs.kind = .function)
    (hd1 : dp + 20 < recursionLimit) (hu1 : un + 120 < cLine)
    (ok : TabOk oL) (hsep : ∀ q ∈ tl, q.1 ≠ 99) (I : Led tl vs qs) (hB : AllBare s.gens) (h1 : 0 ≤ size) (h2 : size ≤ 2) (h3 : qs.length ≤ 20)
    (hpx : (px, pieceObj x u1 u2) ∈ tl) (hx : x < 7) (hc : c ≤ qs.length) (hcnt : ∀ j q, qs[j]? = some q → (q < x ↔ j < c))
    (hret : ∀ (k : Int) (t : Tok) (s' : Shared) (oL' : Obj), lawPlace qs.length (size + (sumL qs : Nat)) c = some k → Fr h₀ L s'.heap m → News h₀ L s'.heap ((99, oL') :: (r, rowObj d vs n) :: (d, dObj hs tkd size tsz nd) :: tl) → TabOk oL' → AllBare s'.gens → s'.os = s.os → Q (.int k t) s')
    (hraise : ∀ (g' : Heap) (e : Addr) (s' : Shared) (oL' : Obj), lawPlace qs.length (size + (sumL qs : Nat)) c = none → Fr h₀ L g' m → RaisedSN base g' (envX cn cs L a ccd cl :: outer) e (.type "IndexError") ((99, oL') :: (r, rowObj d vs n) :: (d, dObj hs tkd size tsz nd) :: tl) s'.heap →
      g'.UpToSlots s'.heap → TabOk oL' → AllBare s'.gens → s'.os = s.os → E (.ref e) s') :
    wpAny (model PP w) (ktrTop dp un gd cn cs L a ccd cl outer) (call (.ref 57) [.ref r, .ref px]) Q E s := by
  have hl := sumL_le qs
  refine wpAny_call ?_
  (refine' code_def ?k1 ?k2 ?k3 ?k4 ?k5 ?kA ?kF ?kK ?k6 ?k7 ?k8 ?k9 ?kB ?_ ?c2 ?c3 ?c4 ?c5; (case kA => exact rfl); (case kF => exact rfl); (case kK => assumption); (case k1 => k_asm); (case k2 => k_asm); (case k3 => k_asm); (case k4 => k_asm); (case k5 => k_asm); (case k6 => k_is); (case k7 => k_is); (case k8 => ktr_room); (case k9 => (refine' kp_binds ?kx ?ke; (case kx => k_in); (case ke => exact fun _ => rfl))); (case c5 => decide); (case kB => exact locs rfl); (case c2 => exact rfl); (case c3 => exact rfl); (case c4 => exact rfl); k_whole; intro g' L' h' FG F' N' B' X' T'; (try dsimp only); (try k_lift B'); (try k_fold))
  k_steps
  refine len_row B' F' X' N' T' rfl ?_ ?_ ok hsep I hB h1 h2 h3 ?_
  · exact room1 hd1 rfl
  · exact room1 hu1 rfl
  intro t₂ s₂ oL₂ F₂ N₂ ok₂ hB₂ hos₂
  (k_with "exec While Compare cons nil" => k_while (fun _ lo hi => BInv qs.length (size + (sumL qs : Nat)) c lo hi) (fun _ lo hi => (hi - lo).toNat) "lo" "hi")
  (k_with "state" => first
    | exact BInv.init (by omega) (by omega)
    | exact BInv.up (by assumption) (by assumption) (by omega)
    | exact BInv.down (by assumption) (by assumption) (by omega) (by omega)
    | (trace_state; fail "state"))
  (k_with "measure" => first | (simp only [mid_eq] at *; omega) | (trace_state; fail "measure"))
  k_steps
  · refine bis_item (by k_asm) X' (by k_asm) (.tail _ (.head _)) I (by assumption) (by assumption) (by omega) rfl rfl ?_ ?_
    · intro hno h₅ tk₅ e he
      show wpAny _ _ (leaving _ _) _ _ _
      refine leave_newS B' he (by k_asm) (by k_asm) ?_
      intro h₆ R R' up
      exact hraise _ _ _ _ hno FG R up ok₂ hB₂ hos₂
    · intro q t t1 t2 b1 b2 hq h7 ht
      k_steps
      refine cmp_lt_led (by k_asm) (.tail _ (.tail _ (.tail _ ht))) (.tail _ (.tail _ (.tail _ hpx))) h7 hx (by k_units) ?_
      have hz := hcnt _ _ hq
      k_steps
  · exact hret _ _ _ _ (BInv.exit (by assumption) (by omega) (by omega)) (by k_asm) (by k_asm) ok₂ hB₂ hos₂
end
theorem freshBisA : True := by
  w_top off
  k_with_none
  trivial
section
set_option maxRecDepth 100000

set_option maxHeartbeats 8000000 in
theorem bl_none4 {w : World} {p : Program} {loose : List Str} {mean : ExcName → Option Value} {mg mb : Str → Option Value}
    {dp un : Nat} {gd : Option (List Code)} {cn : Str} {cs : Scope} {a : Addr} {ccd : Value} {cl : List (Str × Addr)} {outer : List Env} {A₀ : Around} {base h₀ : Heap} {L : Addr} {m : Str → Option Value} {s : Shared} {Q E : Value → Shared → Prop}
    {r d px : Addr} {vs : List Value} {n : Nat} {hs : Int} {tkd tsz u1 u2 u3 u4 : Tok} {size hi : Int} {nd x : Nat} {oL : Obj} {tl : List (Addr × Obj)} {qs : List Nat} {c : Nat}
    (B : Below A₀ base outer h₀) (F : Fr h₀ L s.heap m) (X : (hd.heap_1 w.params).In h₀)
    (N : News h₀ L s.heap ((99, oL) :: (r, rowObj d vs n) :: (d, dObj hs tkd size tsz nd) :: tl)) (T : Top p loose mean mg mb h₀) (hk : cs.kind = .function)
    (hd1 : dp + 20 < recursionLimit) (hu1 : un + 120 < cLine)
    (ok : TabOk oL) (hsep : ∀ q ∈ tl, q.1 ≠ 99) (I : Led tl vs qs) (hB : AllBare s.gens) (h1 : 0 ≤ size) (h2 : size ≤ 2) (h3 : qs.length ≤ 20)
    (hpx : (px, pieceObj x u1 u2) ∈ tl) (hx : x < 7) (hc : c ≤ qs.length) (hcnt : ∀ j q, qs[j]? = some q → (q < x ↔ j < c))
    (hret : ∀ (k : Int) (t : Tok) (s' : Shared) (oL' : Obj), lawPlace qs.length (size + (sumL qs : Nat)) c = some k → Fr h₀ L s'.heap m → News h₀ L s'.heap ((99, oL') :: (r, rowObj d vs n) :: (d, dObj hs tkd size tsz nd) :: tl) → TabOk oL' → AllBare s'.gens → s'.os = s.os → Q (.int k t) s')
    (hraise : ∀ (g' : Heap) (e : Addr) (s' : Shared) (oL' : Obj), lawPlace qs.length (size + (sumL qs : Nat)) c = none → Fr h₀ L g' m → RaisedSN base g' (envX cn cs L a ccd cl :: outer) e (.type "IndexError") ((99, oL') :: (r, rowObj d vs n) :: (d, dObj hs tkd size tsz nd) :: tl) s'.heap →
      g'.UpToSlots s'.heap → TabOk oL' → AllBare s'.gens → s'.os = s.os → E (.ref e) s') :
    wpAny (model PP w) (ktrTop dp un gd cn cs L a ccd cl outer) (call (.ref 57) [.ref r, .ref px, .int 0 u3, .none]) Q E s := by
  have hl := sumL_le qs
  refine wpAny_call ?_
  (refine' code_def ?k1 ?k2 ?k3 ?k4 ?k5 ?kA ?kF ?kK ?k6 ?k7 ?k8 ?k9 ?kB ?_ ?c2 ?c3 ?c4 ?c5; (case kA => exact rfl); (case kF => exact rfl); (case kK => assumption); (case k1 => k_asm); (case k2 => k_asm); (case k3 => k_asm); (case k4 => k_asm); (case k5 => k_asm); (case k6 => k_is); (case k7 => k_is); (case k8 => ktr_room); (case k9 => (refine' kp_binds ?kx ?ke; (case kx => k_in); (case ke => exact fun _ => rfl))); (case c5 => decide); (case kB => exact locs rfl); (case c2 => exact rfl); (case c3 => exact rfl); (case c4 => exact rfl); k_whole; intro g' L' h' FG F' N' B' X' T'; (try dsimp only); (try k_lift B'); (try k_fold))
  k_steps
  refine len_row B' F' X' N' T' rfl ?_ ?_ ok hsep I hB h1 h2 h3 ?_
  · exact room1 hd1 rfl
  · exact room1 hu1 rfl
  intro t₂ s₂ oL₂ F₂ N₂ ok₂ hB₂ hos₂
  (k_with "exec While Compare cons nil" => k_while (fun _ lo hi' => BInv qs.length (size + (sumL qs : Nat)) c lo hi') (fun _ lo hi' => (hi' - lo).toNat) "lo" "hi")
  (k_with "state" => first
    | exact BInv.init (by omega) (by omega)
    | exact BInv.up (by assumption) (by assumption) (by omega)
    | exact BInv.down (by assumption) (by assumption) (by omega) (by omega)
    | (trace_state; fail "state"))
  (k_with "measure" => first | (simp only [mid_eq] at *; omega) | (trace_state; fail "measure"))
  k_steps
  · refine bis_item (by k_asm) X' (by k_asm) (.tail _ (.head _)) I (by assumption) (by assumption) (by omega) rfl rfl ?_ ?_
    · intro hno h₅ tk₅ e he
      show wpAny _ _ (leaving _ _) _ _ _
      refine leave_newS B' he (by k_asm) (by k_asm) ?_
      intro h₆ R R' up
      exact hraise _ _ _ _ hno FG R up ok₂ hB₂ hos₂
    · intro q t t1 t2 b1 b2 hq h7 ht
      k_steps
      refine cmp_lt_led (by k_asm) (.tail _ (.tail _ (.tail _ ht))) (.tail _ (.tail _ (.tail _ hpx))) h7 hx (by k_units) ?_
      have hz := hcnt _ _ hq
      k_steps
  · exact hret _ _ _ _ (BInv.exit (by assumption) (by omega) (by omega)) (by k_asm) (by k_asm) ok₂ hB₂ hos₂

set_option maxHeartbeats 8000000 in
theorem bl_int4 {w : World} {p : Program} {loose : List Str} {mean : ExcName → Option Value} {mg mb : Str → Option Value}
    {dp un : Nat} {gd : Option (List Code)} {cn : Str} {cs : Scope} {a : Addr} {ccd : Value} {cl : List (Str × Addr)} {outer : List Env} {A₀ : Around} {base h₀ : Heap} {L : Addr} {m : Str → Option Value} {s : Shared} {Q E : Value → Shared → Prop}
    {r d px : Addr} {vs : List Value} {n : Nat} {hs : Int} {tkd tsz u1 u2 u3 u4 : Tok} {size hi : Int} {nd x : Nat} {oL : Obj} {tl : List (Addr × Obj)} {qs : List Nat} {c : Nat}
    (B : Below A₀ base outer h₀) (F : Fr h₀ L s.heap m) (X : (hd.heap_1 w.params).In h₀)
    (N : News h₀ L s.heap ((99, oL) :: (r, rowObj d vs n) :: (d, dObj hs tkd size tsz nd) :: tl)) (T : Top p loose mean mg mb h₀) (hk : cs.kind = .function)
    (hd1 : dp + 20 < recursionLimit) (hu1 : un + 120 < cLine)
    (ok : TabOk oL) (hsep : ∀ q ∈ tl, q.1 ≠ 99) (I : Led tl vs qs) (hB : AllBare s.gens) (h1 : 0 ≤ size) (h2 : size ≤ 2) (h3 : qs.length ≤ 20)
    (hpx : (px, pieceObj x u1 u2) ∈ tl) (hx : x < 7) (hc : c ≤ qs.length) (hcnt : ∀ j q, qs[j]? = some q → (q < x ↔ j < c)) (hh1 : 0 ≤ hi) (hh2 : hi ≤ 200)
    (hret : ∀ (k : Int) (t : Tok) (s' : Shared) (oL' : Obj), lawPlace qs.length hi c = some k → Fr h₀ L s'.heap m → News h₀ L s'.heap ((99, oL') :: (r, rowObj d vs n) :: (d, dObj hs tkd size tsz nd) :: tl) → TabOk oL' → AllBare s'.gens → s'.os = s.os → Q (.int k t) s')
    (hraise : ∀ (g' : Heap) (e : Addr) (s' : Shared) (oL' : Obj), lawPlace qs.length hi c = none → Fr h₀ L g' m → RaisedSN base g' (envX cn cs L a ccd cl :: outer) e (.type "IndexError") ((99, oL') :: (r, rowObj d vs n) :: (d, dObj hs tkd size tsz nd) :: tl) s'.heap →
      g'.UpToSlots s'.heap → TabOk oL' → AllBare s'.gens → s'.os = s.os → E (.ref e) s') :
    wpAny (model PP w) (ktrTop dp un gd cn cs L a ccd cl outer) (call (.ref 57) [.ref r, .ref px, .int 0 u3, .int hi u4]) Q E s := by
  have hl := sumL_le qs
  refine wpAny_call ?_
  (refine' code_def ?k1 ?k2 ?k3 ?k4 ?k5 ?kA ?kF ?kK ?k6 ?k7 ?k8 ?k9 ?kB ?_ ?c2 ?c3 ?c4 ?c5; (case kA => exact rfl); (case kF => exact rfl); (case kK => assumption); (case k1 => k_asm); (case k2 => k_asm); (case k3 => k_asm); (case k4 => k_asm); (case k5 => k_asm); (case k6 => k_is); (case k7 => k_is); (case k8 => ktr_room); (case k9 => (refine' kp_binds ?kx ?ke; (case kx => k_in); (case ke => exact fun _ => rfl))); (case c5 => decide); (case kB => exact locs rfl); (case c2 => exact rfl); (case c3 => exact rfl); (case c4 => exact rfl); k_whole; intro g' L' h' FG F' N' B' X' T'; (try dsimp only); (try k_lift B'); (try k_fold))
  (k_with "exec While Compare cons nil" => k_while (fun _ lo hi' => BInv qs.length hi c lo hi') (fun _ lo hi' => (hi' - lo).toNat) "lo" "hi")
  (k_with "state" => first
    | exact BInv.init (by omega) (by omega)
    | exact BInv.up (by assumption) (by assumption) (by omega)
    | exact BInv.down (by assumption) (by assumption) (by omega) (by omega)
    | (trace_state; fail "state"))
  (k_with "measure" => first | (simp only [mid_eq] at *; omega) | (trace_state; fail "measure"))
  k_steps
  · refine bis_item (by k_asm) X' (by k_asm) (.tail _ (.head _)) I (by assumption) (by assumption) (by omega) rfl rfl ?_ ?_
    · intro hno h₅ tk₅ e he
      show wpAny _ _ (leaving _ _) _ _ _
      refine leave_newS B' he (by k_asm) (by k_asm) ?_
      intro h₆ R R' up
      exact hraise _ _ _ _ hno FG R up ok hB rfl
    · intro q t t1 t2 b1 b2 hq h7 ht
      k_steps
      refine cmp_lt_led (by k_asm) (.tail _ (.tail _ (.tail _ ht))) (.tail _ (.tail _ (.tail _ hpx))) h7 hx (by k_units) ?_
      have hz := hcnt _ _ hq
      k_steps
  · exact hret _ _ _ _ (BInv.exit (by assumption) (by omega) (by omega)) (by k_asm) (by k_asm) ok hB rfl

set_option maxHeartbeats 8000000 in
theorem br_none {w : World} {p : Program} {loose : List Str} {mean : ExcName → Option Value} {mg mb : Str → Option Value}
    {dp un : Nat} {gd : Option (List Code)} {cn : Str} {cs : Scope} {a : Addr} {ccd : Value} {cl : List (Str × Addr)} {outer : List Env} {A₀ : Around} {base h₀ : Heap} {L : Addr} {m : Str → Option Value} {s : Shared} {Q E : Value → Shared → Prop}
    {r d px : Addr} {vs : List Value} {n : Nat} {hs : Int} {tkd tsz u1 u2 u3 u4 : Tok} {size hi : Int} {nd x : Nat} {oL : Obj} {tl : List (Addr × Obj)} {qs : List Nat} {c : Nat}
    (B : Below A₀ base outer h₀) (F : Fr h₀ L s.heap m) (X : (hd.heap_1 w.params).In h₀)
    (N : News h₀ L s.heap ((99, oL) :: (r, rowObj d vs n) :: (d, dObj hs tkd size tsz nd) :: tl)) (T : Top p loose mean mg mb h₀) (hk : cs.kind = .function)
    (hd1 : dp + 20 < recursionLimit) (hu1 : un + 120 < cLine)
    (ok : TabOk oL) (hsep : ∀ q ∈ tl, q.1 ≠ 99) (I : Led tl vs qs) (hB : AllBare s.gens) (h1 : 0 ≤ size) (h2 : size ≤ 2) (h3 : qs.length ≤ 20)
    (hpx : (px, pieceObj x u1 u2) ∈ tl) (hx : x < 7) (hc : c ≤ qs.length) (hcnt : ∀ j q, qs[j]? = some q → (q ≤ x ↔ j < c))
    (hret : ∀ (k : Int) (t : Tok) (s' : Shared) (oL' : Obj), lawPlace qs.length (size + (sumL qs : Nat)) c = some k → Fr h₀ L s'.heap m → News h₀ L s'.heap ((99, oL') :: (r, rowObj d vs n) :: (d, dObj hs tkd size tsz nd) :: tl) → TabOk oL' → AllBare s'.gens → s'.os = s.os → Q (.int k t) s')
    (hraise : ∀ (g' : Heap) (e : Addr) (s' : Shared) (oL' : Obj), lawPlace qs.length (size + (sumL qs : Nat)) c = none → Fr h₀ L g' m → RaisedSN base g' (envX cn cs L a ccd cl :: outer) e (.type "IndexError") ((99, oL') :: (r, rowObj d vs n) :: (d, dObj hs tkd size tsz nd) :: tl) s'.heap →
      g'.UpToSlots s'.heap → TabOk oL' → AllBare s'.gens → s'.os = s.os → E (.ref e) s') :
    wpAny (model PP w) (ktrTop dp un gd cn cs L a ccd cl outer) (call (.ref 39) [.ref r, .ref px]) Q E s := by
  have hl := sumL_le qs
  refine wpAny_call ?_
  (refine' code_def ?k1 ?k2 ?k3 ?k4 ?k5 ?kA ?kF ?kK ?k6 ?k7 ?k8 ?k9 ?kB ?_ ?c2 ?c3 ?c4 ?c5; (case kA => exact rfl); (case kF => exact rfl); (case kK => assumption); (case k1 => k_asm); (case k2 => k_asm); (case k3 => k_asm); (case k4 => k_asm); (case k5 => k_asm); (case k6 => k_is); (case k7 => k_is); (case k8 => ktr_room); (case k9 => (refine' kp_binds ?kx ?ke; (case kx => k_in); (case ke => exact fun _ => rfl))); (case c5 => decide); (case kB => exact locs rfl); (case c2 => exact rfl); (case c3 => exact rfl); (case c4 => exact rfl); k_whole; intro g' L' h' FG F' N' B' X' T'; (try dsimp only); (try k_lift B'); (try k_fold))
  k_steps
  refine len_row B' F' X' N' T' rfl ?_ ?_ ok hsep I hB h1 h2 h3 ?_
  · exact room1 hd1 rfl
  · exact room1 hu1 rfl
  intro t₂ s₂ oL₂ F₂ N₂ ok₂ hB₂ hos₂
  (k_with "exec While Compare cons nil" => k_while (fun _ lo hi' => BInv qs.length (size + (sumL qs : Nat)) c lo hi') (fun _ lo hi' => (hi' - lo).toNat) "lo" "hi")
  (k_with "state" => first
    | exact BInv.init (by omega) (by omega)
    | exact BInv.up (by assumption) (by assumption) (by omega)
    | exact BInv.down (by assumption) (by assumption) (by omega) (by omega)
    | (trace_state; fail "state"))
  (k_with "measure" => first | (simp only [mid_eq] at *; omega) | (trace_state; fail "measure"))
  k_steps
  · refine bis_item (by k_asm) X' (by k_asm) (.tail _ (.head _)) I (by assumption) (by assumption) (by omega) rfl rfl ?_ ?_
    · intro hno h₅ tk₅ e he
      show wpAny _ _ (leaving _ _) _ _ _
      refine leave_newS B' he (by k_asm) (by k_asm) ?_
      intro h₆ R R' up
      exact hraise _ _ _ _ hno FG R up ok₂ hB₂ hos₂
    · intro q t t1 t2 b1 b2 hq h7 ht
      k_steps
      refine cmp_lt_led (by k_asm) (.tail _ (.tail _ (.tail _ hpx))) (.tail _ (.tail _ (.tail _ ht))) hx h7 (by k_units) ?_
      have hz := hcnt _ _ hq
      k_steps
  · exact hret _ _ _ _ (BInv.exit (by assumption) (by omega) (by omega)) (by k_asm) (by k_asm) ok₂ hB₂ hos₂

set_option maxHeartbeats 8000000 in
theorem br_none4 {w : World} {p : Program} {loose : List Str} {mean : ExcName → Option Value} {mg mb : Str → Option Value}
    {dp un : Nat} {gd : Option (List Code)} {cn : Str} {cs : Scope} {a : Addr} {ccd : Value} {cl : List (Str × Addr)} {outer : List Env} {A₀ : Around} {base h₀ : Heap} {L : Addr} {m : Str → Option Value} {s : Shared} {Q E : Value → Shared → Prop}
    {r d px : Addr} {vs : List Value} {n : Nat} {hs : Int} {tkd tsz u1 u2 u3 u4 : Tok} {size hi : Int} {nd x : Nat} {oL : Obj} {tl : List (Addr × Obj)} {qs : List Nat} {c : Nat}
    (B : Below A₀ base outer h₀) (F : Fr h₀ L s.heap m) (X : (hd.heap_1 w.params).In h₀)
    (N : News h₀ L s.heap ((99, oL) :: (r, rowObj d vs n) :: (d, dObj hs tkd size tsz nd) :: tl)) (T : Top p loose mean mg mb h₀) (hk : cs.kind = .function)
    (hd1 : dp + 20 < recursionLimit) (hu1 : un + 120 < cLine)
    (ok : TabOk oL) (hsep : ∀ q ∈ tl, q.1 ≠ 99) (I : Led tl vs qs) (hB : AllBare s.gens) (h1 : 0 ≤ size) (h2 : size ≤ 2) (h3 : qs.length ≤ 20)
    (hpx : (px, pieceObj x u1 u2) ∈ tl) (hx : x < 7) (hc : c ≤ qs.length) (hcnt : ∀ j q, qs[j]? = some q → (q ≤ x ↔ j < c))
    (hret : ∀ (k : Int) (t : Tok) (s' : Shared) (oL' : Obj), lawPlace qs.length (size + (sumL qs : Nat)) c = some k → Fr h₀ L s'.heap m → News h₀ L s'.heap ((99, oL') :: (r, rowObj d vs n) :: (d, dObj hs tkd size tsz nd) :: tl) → TabOk oL' → AllBare s'.gens → s'.os = s.os → Q (.int k t) s')
    (hraise : ∀ (g' : Heap) (e : Addr) (s' : Shared) (oL' : Obj), lawPlace qs.length (size + (sumL qs : Nat)) c = none → Fr h₀ L g' m → RaisedSN base g' (envX cn cs L a ccd cl :: outer) e (.type "IndexError") ((99, oL') :: (r, rowObj d vs n) :: (d, dObj hs tkd size tsz nd) :: tl) s'.heap →
      g'.UpToSlots s'.heap → TabOk oL' → AllBare s'.gens → s'.os = s.os → E (.ref e) s') :
    wpAny (model PP w) (ktrTop dp un gd cn cs L a ccd cl outer) (call (.ref 39) [.ref r, .ref px, .int 0 u3, .none]) Q E s := by
  have hl := sumL_le qs
  refine wpAny_call ?_
  (refine' code_def ?k1 ?k2 ?k3 ?k4 ?k5 ?kA ?kF ?kK ?k6 ?k7 ?k8 ?k9 ?kB ?_ ?c2 ?c3 ?c4 ?c5; (case kA => exact rfl); (case kF => exact rfl); (case kK => assumption); (case k1 => k_asm); (case k2 => k_asm); (case k3 => k_asm); (case k4 => k_asm); (case k5 => k_asm); (case k6 => k_is); (case k7 => k_is); (case k8 => ktr_room); (case k9 => (refine' kp_binds ?kx ?ke; (case kx => k_in); (case ke => exact fun _ => rfl))); (case c5 => decide); (case kB => exact locs rfl); (case c2 => exact rfl); (case c3 => exact rfl); (case c4 => exact rfl); k_whole; intro g' L' h' FG F' N' B' X' T'; (try dsimp only); (try k_lift B'); (try k_fold))
  k_steps
  refine len_row B' F' X' N' T' rfl ?_ ?_ ok hsep I hB h1 h2 h3 ?_
  · exact room1 hd1 rfl
  · exact room1 hu1 rfl
  intro t₂ s₂ oL₂ F₂ N₂ ok₂ hB₂ hos₂
  (k_with "exec While Compare cons nil" => k_while (fun _ lo hi' => BInv qs.length (size + (sumL qs : Nat)) c lo hi') (fun _ lo hi' => (hi' - lo).toNat) "lo" "hi")
  (k_with "state" => first
    | exact BInv.init (by omega) (by omega)
    | exact BInv.up (by assumption) (by assumption) (by omega)
    | exact BInv.down (by assumption) (by assumption) (by omega) (by omega)
    | (trace_state; fail "state"))
  (k_with "measure" => first | (simp only [mid_eq] at *; omega) | (trace_state; fail "measure"))
  k_steps
  · refine bis_item (by k_asm) X' (by k_asm) (.tail _ (.head _)) I (by assumption) (by assumption) (by omega) rfl rfl ?_ ?_
    · intro hno h₅ tk₅ e he
      show wpAny _ _ (leaving _ _) _ _ _
      refine leave_newS B' he (by k_asm) (by k_asm) ?_
      intro h₆ R R' up
      exact hraise _ _ _ _ hno FG R up ok₂ hB₂ hos₂
    · intro q t t1 t2 b1 b2 hq h7 ht
      k_steps
      refine cmp_lt_led (by k_asm) (.tail _ (.tail _ (.tail _ hpx))) (.tail _ (.tail _ (.tail _ ht))) hx h7 (by k_units) ?_
      have hz := hcnt _ _ hq
      k_steps
  · exact hret _ _ _ _ (BInv.exit (by assumption) (by omega) (by omega)) (by k_asm) (by k_asm) ok₂ hB₂ hos₂

set_option maxHeartbeats 8000000 in
theorem br_int4 {w : World} {p : Program} {loose : List Str} {mean : ExcName → Option Value} {mg mb : Str → Option Value}
    {dp un : Nat} {gd : Option (List Code)} {cn : Str} {cs : Scope} {a : Addr} {ccd : Value} {cl : List (Str × Addr)} {outer : List Env} {A₀ : Around} {base h₀ : Heap} {L : Addr} {m : Str → Option Value} {s : Shared} {Q E : Value → Shared → Prop}
    {r d px : Addr} {vs : List Value} {n : Nat} {hs : Int} {tkd tsz u1 u2 u3 u4 : Tok} {size hi : Int} {nd x : Nat} {oL : Obj} {tl : List (Addr × Obj)} {qs : List Nat} {c : Nat}
    (B : Below A₀ base outer h₀) (F : Fr h₀ L s.heap m) (X : (hd.heap_1 w.params).In h₀)
    (N : News h₀ L s.heap ((99, oL) :: (r, rowObj d vs n) :: (d, dObj hs tkd size tsz nd) :: tl)) (T : Top p loose mean mg mb h₀) (hk : cs.kind = .function)
    (hd1 : dp + 20 < recursionLimit) (hu1 : un + 120 < cLine)
    (ok : TabOk oL) (hsep : ∀ q ∈ tl, q.1 ≠ 99) (I : Led tl vs qs) (hB : AllBare s.gens) (h1 : 0 ≤ size) (h2 : size ≤ 2) (h3 : qs.length ≤ 20)
    (hpx : (px, pieceObj x u1 u2) ∈ tl) (hx : x < 7) (hc : c ≤ qs.length) (hcnt : ∀ j q, qs[j]? = some q → (q ≤ x ↔ j < c)) (hh1 : 0 ≤ hi) (hh2 : hi ≤ 200)
    (hret : ∀ (k : Int) (t : Tok) (s' : Shared) (oL' : Obj), lawPlace qs.length hi c = some k → Fr h₀ L s'.heap m → News h₀ L s'.heap ((99, oL') :: (r, rowObj d vs n) :: (d, dObj hs tkd size tsz nd) :: tl) → TabOk oL' → AllBare s'.gens → s'.os = s.os → Q (.int k t) s')
    (hraise : ∀ (g' : Heap) (e : Addr) (s' : Shared) (oL' : Obj), lawPlace qs.length hi c = none → Fr h₀ L g' m → RaisedSN base g' (envX cn cs L a ccd cl :: outer) e (.type "IndexError") ((99, oL') :: (r, rowObj d vs n) :: (d, dObj hs tkd size tsz nd) :: tl) s'.heap →
      g'.UpToSlots s'.heap → TabOk oL' → AllBare s'.gens → s'.os = s.os → E (.ref e) s') :
    wpAny (model PP w) (ktrTop dp un gd cn cs L a ccd cl outer) (call (.ref 39) [.ref r, .ref px, .int 0 u3, .int hi u4]) Q E s := by
  have hl := sumL_le qs
  refine wpAny_call ?_
  (refine' code_def ?k1 ?k2 ?k3 ?k4 ?k5 ?kA ?kF ?kK ?k6 ?k7 ?k8 ?k9 ?kB ?_ ?c2 ?c3 ?c4 ?c5; (case kA => exact rfl); (case kF => exact rfl); (case kK => assumption); (case k1 => k_asm); (case k2 => k_asm); (case k3 => k_asm); (case k4 => k_asm); (case k5 => k_asm); (case k6 => k_is); (case k7 => k_is); (case k8 => ktr_room); (case k9 => (refine' kp_binds ?kx ?ke; (case kx => k_in); (case ke => exact fun _ => rfl))); (case c5 => decide); (case kB => exact locs rfl); (case c2 => exact rfl); (case c3 => exact rfl); (case c4 => exact rfl); k_whole; intro g' L' h' FG F' N' B' X' T'; (try dsimp only); (try k_lift B'); (try k_fold))
  (k_with "exec While Compare cons nil" => k_while (fun _ lo hi' => BInv qs.length hi c lo hi') (fun _ lo hi' => (hi' - lo).toNat) "lo" "hi")
  (k_with "state" => first
    | exact BInv.init (by omega) (by omega)
    | exact BInv.up (by assumption) (by assumption) (by omega)
    | exact BInv.down (by assumption) (by assumption) (by omega) (by omega)
    | (trace_state; fail "state"))
  (k_with "measure" => first | (simp only [mid_eq] at *; omega) | (trace_state; fail "measure"))
  k_steps
  · refine bis_item (by k_asm) X' (by k_asm) (.tail _ (.head _)) I (by assumption) (by assumption) (by omega) rfl rfl ?_ ?_
    · intro hno h₅ tk₅ e he
      show wpAny _ _ (leaving _ _) _ _ _
      refine leave_newS B' he (by k_asm) (by k_asm) ?_
      intro h₆ R R' up
      exact hraise _ _ _ _ hno FG R up ok hB rfl
    · intro q t t1 t2 b1 b2 hq h7 ht
      k_steps
      refine cmp_lt_led (by k_asm) (.tail _ (.tail _ (.tail _ hpx))) (.tail _ (.tail _ (.tail _ ht))) hx h7 (by k_units) ?_
      have hz := hcnt _ _ hq
      k_steps
  · exact hret _ _ _ _ (BInv.exit (by assumption) (by omega) (by omega)) (by k_asm) (by k_asm) ok hB rfl
end
theorem freshKeyC : True := by
  w_top off
  k_with_none
  trivial
section
set_option maxRecDepth 100000
noncomputable def fr (q : Nat) : Nat := if q ≤ 3 then 0 else if q = 4 then 1 else 2
theorem fr_lt (i j : Nat) (hi : i < 7) (hj : j < 7) : decide ((fw i).cps.toList < (fw j).cps.toList) = decide (fr i < fr j) := by
  have : ∀ i j : Fin 7, decide ((fw i.val).cps.toList < (fw j.val).cps.toList) = decide (fr i.val < fr j.val) := by decide +kernel
  exact this ⟨i, hi⟩ ⟨j, hj⟩
theorem fr_le (i j : Nat) (hi : i < 7) (hj : j < 7) : (!decide ((fw j).cps.toList < (fw i).cps.toList)) = decide (fr i ≤ fr j) := by
  rw [fr_lt j i hj hi]
  by_cases h : fr j < fr i
  · simp [h]
  · simp [h, Nat.le_of_not_lt h]
section
variable {w : World} {prog : Program} {A : Around} {E : Value → Shared → Prop} {s : Shared}
theorem cmp_lt_fw {i j : Nat} (hi : i < 7) (hj : j < 7) {t u : Tok} {Q : Value → Shared → Prop} (h : Q (.bool (decide (fr i < fr j))) s) : wpAny (model prog w) A (compareOp .Lt (.str (fw i) t) (.str (fw j) u)) Q E s :=
  rc_lt_str (by rw [fr_lt i j hi hj]; exact h)
theorem cmp_le_fw {i j : Nat} (hi : i < 7) (hj : j < 7) {t u : Tok} {Q : Value → Shared → Prop} (h : Q (.bool (decide (fr i ≤ fr j))) s) : wpAny (model prog w) A (compareOp .LtE (.str (fw i) t) (.str (fw j) u)) Q E s :=
  rc_le_str (by rw [fr_le i j hi hj]; exact h)
end

noncomputable abbrev keyParams (p0 : Pos) : Arguments := { posonlyargs := [], args := [{ arg := "one", annotation := none, pos := p0 }], vararg := none, kwonlyargs := [], kw_defaults := [], kwarg := none, defaults := [] }
noncomputable abbrev keyBody (p1 p2 p3 : Pos) (ck : Nat) : PySem.Expr := .Subscript (.Name "one" p1) (.Constant (.int 0) ck p2) p3
noncomputable abbrev keyScope : Scope := { kind := .function, names := [("one", .local)], isGenerator := false, isCoroutine := false }

set_option maxHeartbeats 4000000 in
theorem call_key {w : World} {p : Program} {loose : List Str} {mean : ExcName → Option Value} {mg mb : Str → Option Value}
    {dp un : Nat} {gd : Option (List Code)} {cn : Str} {cs : Scope} {a : Addr} {ccd : Value} {cl : List (Str × Addr)} {outer : List Env} {A₀ : Around} {base h₀ : Heap} {L : Addr} {m : Str → Option Value} {s : Shared} {Q E : Value → Shared → Prop}
    {kf t c' : Addr} {q : Nat} {t1 t2 tt : Tok} {p0 p1 p2 p3 : Pos} {ck : Nat} {qual : Str} {pm ctv : Value} {oc : Obj} {vs : Array Value} {news : List (Addr × Obj)}
    (B : Below A₀ base outer h₀) (F : Fr h₀ L s.heap m) (X : (hd.heap_1 w.params).In h₀) (N : News h₀ L s.heap news) (T : Top p loose mean mg mb h₀) (hk : cs.kind = .function)
    (hd1 : dp + 5 < recursionLimit) (hu1 : un + 20 < cLine)
    (hkf : (kf, kla_obj "<lambda>" qual (keyParams p0) (keyBody p1 p2 p3 ck) keyScope [] pm c' ctv) ∈ news) (hc1 : (c', oc) ∈ news) (hc2 : oc.data = .fields vs) (hc3 : vs[1]? = some (.str qual tt))
    (ht : (t, pieceObj q t1 t2) ∈ news)
    (hret : ∀ (h' : Heap) (tk' : Nat), Fr h₀ L h' m → News h₀ L h' news → Q (.str (fw q) t1) { s with heap := h', toks := tk' }) :
    wpAny (model PP w) (ktrTop dp un gd cn cs L a ccd cl outer) (call (.ref kf) [.ref t]) Q E s := by
  refine wpAny_call ?_
  (refine' kla_code ?k1 ?k2 ?k3 ?k4 ?k5 ?kA ?kF ?kK ?k6 ?k7 ?k8 ?k9 ?kB ?_ ?c2 ?c3 ?c4 ?c5; (case kA => exact rfl); (case kF => exact rfl); (case kK => assumption); (case k1 => k_asm); (case k2 => k_asm); (case k3 => k_asm); (case k4 => k_asm); (case k5 => k_asm); (case k6 => exact hkf); (case k7 => exact codeRec_news N hc1 hc2 hc3); (case k8 => ktr_room); (case k9 => exact rfl); (case c5 => decide); (case kB => exact locs rfl); (case c2 => exact rfl); (case c3 => exact rfl); (case c4 => exact rfl); k_whole; intro g' L' h' FG' F' N' B' X' T'; (try dsimp only); (try k_lift B'); (try k_fold))
  k_steps
  exact hret _ _ (by k_asm) (by k_asm)
end
local macro_rules | `(tactic| walk_at "compareOp Lt str str") => `(tactic| (refine cmp_lt_fw ?h1 ?h2 ?_; (case h1 => assumption); (case h2 => assumption)))
theorem freshBisK : True := by
  w_top off
  k_with_none
  trivial
section
set_option maxRecDepth 100000

set_option maxHeartbeats 8000000 in
theorem bl_key {w : World} {p : Program} {loose : List Str} {mean : ExcName → Option Value} {mg mb : Str → Option Value}
    {dp un : Nat} {gd : Option (List Code)} {cn : Str} {cs : Scope} {a : Addr} {ccd : Value} {cl : List (Str × Addr)} {outer : List Env} {A₀ : Around} {base h₀ : Heap} {L : Addr} {m : Str → Option Value} {s : Shared} {Q E : Value → Shared → Prop}
    {r d kf c' : Addr} {vs : List Value} {n : Nat} {hs : Int} {tkd tsz u1 tt : Tok} {size : Int} {nd x : Nat} {oL oc ob : Obj} {tl : List (Addr × Obj)} {qs : List Nat} {c : Nat}
    {p0 p1 p2 p3 : Pos} {ck : Nat} {qual : Str} {pm ctv : Value} {cvs : Array Value}
    (B : Below A₀ base outer h₀) (F : Fr h₀ L s.heap m) (X : (hd.heap_1 w.params).In h₀)
    (N : News h₀ L s.heap ((99, oL) :: (r, rowObj d vs n) :: (d, dObj hs tkd size tsz nd) :: tl)) (T : Top p loose mean mg mb h₀) (hk : cs.kind = .function)
    (hd1 : dp + 20 < recursionLimit) (hu1 : un + 120 < cLine)
    (ok : TabOk oL) (hsep : ∀ q ∈ tl, q.1 ≠ 99) (I : Led tl vs qs) (hB : AllBare s.gens) (h1 : 0 ≤ size) (h2 : size ≤ 2) (h3 : qs.length ≤ 20)
    (hkf : (kf, ob) ∈ tl) (hob : ob = kla_obj "<lambda>" qual (keyParams p0) (keyBody p1 p2 p3 ck) keyScope [] pm c' ctv) (hc1 : (c', oc) ∈ tl) (hc2 : oc.data = .fields cvs) (hc3 : cvs[1]? = some (.str qual tt))
    (hx : x < 7) (hc : c ≤ qs.length) (hcnt : ∀ j q, qs[j]? = some q → (fr q < fr x ↔ j < c))
    (hret : ∀ (k : Int) (t : Tok) (s' : Shared) (oL' : Obj), lawPlace qs.length (size + (sumL qs : Nat)) c = some k → Fr h₀ L s'.heap m → News h₀ L s'.heap ((99, oL') :: (r, rowObj d vs n) :: (d, dObj hs tkd size tsz nd) :: tl) → TabOk oL' → AllBare s'.gens → s'.os = s.os → Q (.int k t) s')
    (hraise : ∀ (g' : Heap) (e : Addr) (s' : Shared) (oL' : Obj), lawPlace qs.length (size + (sumL qs : Nat)) c = none → Fr h₀ L g' m → RaisedSN base g' (envX cn cs L a ccd cl :: outer) e (.type "IndexError") ((99, oL') :: (r, rowObj d vs n) :: (d, dObj hs tkd size tsz nd) :: tl) s'.heap →
      g'.UpToSlots s'.heap → TabOk oL' → AllBare s'.gens → s'.os = s.os → E (.ref e) s') :
    wpAny (model PP w) (ktrTop dp un gd cn cs L a ccd cl outer) (call (.ref 57) [.ref r, .str (fw x) u1] [("key", .ref kf)]) Q E s := by
  subst hob
  have hl := sumL_le qs
  refine wpAny_call ?_
  (refine' code_def ?k1 ?k2 ?k3 ?k4 ?k5 ?kA ?kF ?kK ?k6 ?k7 ?k8 ?k9 ?kB ?_ ?c2 ?c3 ?c4 ?c5; (case kA => exact rfl); (case kF => exact rfl); (case kK => assumption); (case k1 => k_asm); (case k2 => k_asm); (case k3 => k_asm); (case k4 => k_asm); (case k5 => k_asm); (case k6 => k_is); (case k7 => k_is); (case k8 => ktr_room); (case k9 => (refine' kp_binds ?kx ?ke; (case kx => k_in); (case ke => exact fun _ => rfl))); (case c5 => decide); (case kB => exact locs rfl); (case c2 => exact rfl); (case c3 => exact rfl); (case c4 => exact rfl); k_whole; intro g' L' h' FG F' N' B' X' T'; (try dsimp only); (try k_lift B'); (try k_fold))
  k_steps
  refine len_row B' F' X' N' T' rfl ?_ ?_ ok hsep I hB h1 h2 h3 ?_
  · exact room1 hd1 rfl
  · exact room1 hu1 rfl
  intro t₂ s₂ oL₂ F₂ N₂ ok₂ hB₂ hos₂
  (k_with "exec While Compare cons nil" => k_while (fun _ lo hi' => BInv qs.length (size + (sumL qs : Nat)) c lo hi') (fun _ lo hi' => (hi' - lo).toNat) "lo" "hi")
  (k_with "state" => first
    | exact BInv.init (by omega) (by omega)
    | exact BInv.up (by assumption) (by assumption) (by omega)
    | exact BInv.down (by assumption) (by assumption) (by omega) (by omega)
    | (trace_state; fail "state"))
  (k_with "measure" => first | (simp only [mid_eq] at *; omega) | (trace_state; fail "measure"))
  k_steps
  · refine callWith_F (FnAt.of (by k_asm) (.tail _ (.tail _ (.tail _ hkf)))) ?_
    k_steps
    refine bis_item (by k_asm) X' (by k_asm) (.tail _ (.head _)) I (by assumption) (by assumption) (by omega) rfl rfl ?_ ?_
    · intro hno h₅ tk₅ e he
      show wpAny _ _ (leaving _ _) _ _ _
      refine leave_newS B' he (by k_asm) (by k_asm) ?_
      intro h₆ R R' up
      exact hraise _ _ _ _ hno FG R up ok₂ hB₂ hos₂
    · intro q t t1 t2 b1 b2 hq h7 ht
      k_steps
      · exact FnAt.of (by k_asm) (.tail _ (.tail _ (.tail _ hkf)))
      refine call_key B' (by k_asm) X' (by k_asm) T' rfl ?_ ?_ (.tail _ (.tail _ (.tail _ hkf))) (.tail _ (.tail _ (.tail _ hc1))) hc2 hc3 (.tail _ (.tail _ (.tail _ ht))) ?_
      · exact room1 hd1 rfl
      · exact room1 hu1 rfl
      intro h₇ tk₇ F₇ N₇
      have hz := hcnt _ _ hq
      k_steps
  · exact hret _ _ _ _ (BInv.exit (by assumption) (by omega) (by omega)) (by k_asm) (by k_asm) ok₂ hB₂ hos₂

set_option maxHeartbeats 8000000 in
theorem br_key {w : World} {p : Program} {loose : List Str} {mean : ExcName → Option Value} {mg mb : Str → Option Value}
    {dp un : Nat} {gd : Option (List Code)} {cn : Str} {cs : Scope} {a : Addr} {ccd : Value} {cl : List (Str × Addr)} {outer : List Env} {A₀ : Around} {base h₀ : Heap} {L : Addr} {m : Str → Option Value} {s : Shared} {Q E : Value → Shared → Prop}
    {r d kf c' : Addr} {vs : List Value} {n : Nat} {hs : Int} {tkd tsz u1 tt : Tok} {size : Int} {nd x : Nat} {oL oc ob : Obj} {tl : List (Addr × Obj)} {qs : List Nat} {c : Nat}
    {p0 p1 p2 p3 : Pos} {ck : Nat} {qual : Str} {pm ctv : Value} {cvs : Array Value}
    (B : Below A₀ base outer h₀) (F : Fr h₀ L s.heap m) (X : (hd.heap_1 w.params).In h₀)
    (N : News h₀ L s.heap ((99, oL) :: (r, rowObj d vs n) :: (d, dObj hs tkd size tsz nd) :: tl)) (T : Top p loose mean mg mb h₀) (hk : cs.kind = .function)
    (hd1 : dp + 20 < recursionLimit) (hu1 : un + 120 < cLine)
    (ok : TabOk oL) (hsep : ∀ q ∈ tl, q.1 ≠ 99) (I : Led tl vs qs) (hB : AllBare s.gens) (h1 : 0 ≤ size) (h2 : size ≤ 2) (h3 : qs.length ≤ 20)
    (hkf : (kf, ob) ∈ tl) (hob : ob = kla_obj "<lambda>" qual (keyParams p0) (keyBody p1 p2 p3 ck) keyScope [] pm c' ctv) (hc1 : (c', oc) ∈ tl) (hc2 : oc.data = .fields cvs) (hc3 : cvs[1]? = some (.str qual tt))
    (hx : x < 7) (hc : c ≤ qs.length) (hcnt : ∀ j q, qs[j]? = some q → (fr q ≤ fr x ↔ j < c))
    (hret : ∀ (k : Int) (t : Tok) (s' : Shared) (oL' : Obj), lawPlace qs.length (size + (sumL qs : Nat)) c = some k → Fr h₀ L s'.heap m → News h₀ L s'.heap ((99, oL') :: (r, rowObj d vs n) :: (d, dObj hs tkd size tsz nd) :: tl) → TabOk oL' → AllBare s'.gens → s'.os = s.os → Q (.int k t) s')
    (hraise : ∀ (g' : Heap) (e : Addr) (s' : Shared) (oL' : Obj), lawPlace qs.length (size + (sumL qs : Nat)) c = none → Fr h₀ L g' m → RaisedSN base g' (envX cn cs L a ccd cl :: outer) e (.type "IndexError") ((99, oL') :: (r, rowObj d vs n) :: (d, dObj hs tkd size tsz nd) :: tl) s'.heap →
      g'.UpToSlots s'.heap → TabOk oL' → AllBare s'.gens → s'.os = s.os → E (.ref e) s') :
    wpAny (model PP w) (ktrTop dp un gd cn cs L a ccd cl outer) (call (.ref 39) [.ref r, .str (fw x) u1] [("key", .ref kf)]) Q E s := by
  subst hob
  have hl := sumL_le qs
  refine wpAny_call ?_
  (refine' code_def ?k1 ?k2 ?k3 ?k4 ?k5 ?kA ?kF ?kK ?k6 ?k7 ?k8 ?k9 ?kB ?_ ?c2 ?c3 ?c4 ?c5; (case kA => exact rfl); (case kF => exact rfl); (case kK => assumption); (case k1 => k_asm); (case k2 => k_asm); (case k3 => k_asm); (case k4 => k_asm); (case k5 => k_asm); (case k6 => k_is); (case k7 => k_is); (case k8 => ktr_room); (case k9 => (refine' kp_binds ?kx ?ke; (case kx => k_in); (case ke => exact fun _ => rfl))); (case c5 => decide); (case kB => exact locs rfl); (case c2 => exact rfl); (case c3 => exact rfl); (case c4 => exact rfl); k_whole; intro g' L' h' FG F' N' B' X' T'; (try dsimp only); (try k_lift B'); (try k_fold))
  k_steps
  refine len_row B' F' X' N' T' rfl ?_ ?_ ok hsep I hB h1 h2 h3 ?_
  · exact room1 hd1 rfl
  · exact room1 hu1 rfl
  intro t₂ s₂ oL₂ F₂ N₂ ok₂ hB₂ hos₂
  (k_with "exec While Compare cons nil" => k_while (fun _ lo hi' => BInv qs.length (size + (sumL qs : Nat)) c lo hi') (fun _ lo hi' => (hi' - lo).toNat) "lo" "hi")
  (k_with "state" => first
    | exact BInv.init (by omega) (by omega)
    | exact BInv.up (by assumption) (by assumption) (by omega)
    | exact BInv.down (by assumption) (by assumption) (by omega) (by omega)
    | (trace_state; fail "state"))
  (k_with "measure" => first | (simp only [mid_eq] at *; omega) | (trace_state; fail "measure"))
  k_steps
  · refine callWith_F (FnAt.of (by k_asm) (.tail _ (.tail _ (.tail _ hkf)))) ?_
    k_steps
    refine bis_item (by k_asm) X' (by k_asm) (.tail _ (.head _)) I (by assumption) (by assumption) (by omega) rfl rfl ?_ ?_
    · intro hno h₅ tk₅ e he
      show wpAny _ _ (leaving _ _) _ _ _
      refine leave_newS B' he (by k_asm) (by k_asm) ?_
      intro h₆ R R' up
      exact hraise _ _ _ _ hno FG R up ok₂ hB₂ hos₂
    · intro q t t1 t2 b1 b2 hq h7 ht
      k_steps
      · exact FnAt.of (by k_asm) (.tail _ (.tail _ (.tail _ hkf)))
      refine call_key B' (by k_asm) X' (by k_asm) T' rfl ?_ ?_ (.tail _ (.tail _ (.tail _ hkf))) (.tail _ (.tail _ (.tail _ hc1))) hc2 hc3 (.tail _ (.tail _ (.tail _ ht))) ?_
      · exact room1 hd1 rfl
      · exact room1 hu1 rfl
      intro h₇ tk₇ F₇ N₇
      have hz := hcnt _ _ hq
      k_steps
  · exact hret _ _ _ _ (BInv.exit (by assumption) (by omega) (by omega)) (by k_asm) (by k_asm) ok₂ hB₂ hos₂
end
theorem freshTryC : True := by
  w_top off
  k_with_none
  trivial
section
set_option maxRecDepth 100000
noncomputable def Stop (P : Prop) : Prop := P
theorem Stop.go {P : Prop} (h : Stop P) : P := h
section
open PySem.Calls
variable {prog : Program} {w : World} {A₀ A : Around} {s : Shared} {base h₀ : Heap} {L : Addr} {m : Str → Option Value} {env : Env} {news : List (Addr × Obj)} {K : Frag} {p : Program} {loose : List Str} {mean : ExcName → Option Value} {mg mb : Str → Option Value}
    {R : Result → Shared → Prop} {name qual : Str} {params : Arguments} {body : List Stmt} {scope : Scope} {dV kV doc pm cdv ct oc : Value} {an od : Option Addr} {osl : Array (Option Value)} {f : Addr} {args : Args} {binds : List (Str × Value)}

theorem call_try (B : Below A₀ base [] h₀) (F : Fr h₀ L s.heap m) (X₀ : K.In h₀) (N : News h₀ L s.heap news) (T : Top p loose mean mg mb h₀) (hA : A.frames = some [env]) (hf : env.frame = some L) (hke : env.scope.kind = .function)
    (ho : K.lookup f = some ⟨oc, od, .func (fnOf name qual params body scope dV kV doc pm an cdv ct), osl⟩) (hcd : codeIn K cdv qual = true) (hroom : A.depth < recursionLimit)
    (hbind : BindsTo s (fnOf name qual params body scope dV kV doc pm an cdv ct) args binds) (hloc : ∀ y ∈ binds, scope.names.lookup y.1 = some .local)
    (h : ∀ g L' h₁, Fr h₀ L g m → Fr g L' h₁ (fun y => binds.reverse.lookup y) → News g L' h₁ news → Below A base [env] g → K.In g → Top p loose mean mg mb g → KtsDicts ([env].filterMap (·.frame)) g →
      wpAny (model prog w) (A.deeper (envOf qual scope L' f cdv)) (execs body (envOf qual scope L' f cdv))
        (fun fl s' => LeaveS0 [L] h₀ L m g R (match fl with | .ret v => v | _ => .none) s')
        (fun e s' => wpAny (model prog w) (A.deeper (envOf qual scope L' f cdv)) (leaving (envOf qual scope L' f cdv) e) (fun _ s'' => R (.error e) s'') (fun e' s'' => R (.error e') s'') s')
        { s with heap := h₁, toks := s.toks + binds.length })
    (hco : scope.isCoroutine = false) (hgen : scope.isGenerator = false) (hk : scope.kind = .function)
    (hcell : ∀ x ∈ scope.names, x.2 ≠ .cell) : codeAny (model prog w) A (.call (.ref f) args) R s := by
  have X := X₀.keeps F.keep
  refine codeAny_call_def (fd := fnOf name qual params body scope dV kV doc pm an cdv ct) (body := body) (binds := binds) hroom (X _ _ ho) rfl (T.nolimit.keeps F.keep) (codeRec_of X hcd) rfl hbind hcell hloc (fun h₁ hns hk₁ => ?_) hco hgen hk
  obtain ⟨FG, BG, st, _⟩ := groundX (R := R) B F N hA hf hke
  obtain ⟨oL, es, ep, hLg, hLd, hLk, hLf⟩ := FG.ns
  have hNs : ∀ (sl : Array (Option Value)) (h' : Heap), h'.get? L = some { oL with slots := sl } → Heap.Ns h' L m := fun sl h' e => ⟨_, es, ep, e, hLd, hLk, hLf⟩
  have mem1 : ∀ b, b ∈ ([env].filterMap (·.frame)) → b = L := fun b hb => by
    obtain ⟨e', he, hfe⟩ := List.mem_filterMap.mp hb
    rw [List.mem_singleton.mp he, hf] at hfe
    exact (Option.some.inj hfe).symm
  refine wpAny_mono (h _ s.heap.objs.size h₁ FG ⟨hns, fun b o e => hk₁ b o (of_hideAll _ e), Nat.le_of_eq (hideAll_size _ _)⟩
    (fun p hp => ⟨hk₁ _ _ (N p hp).1, Nat.ne_of_lt (Heap.lt_size (N p hp).1), hideAll_none _ (List.mem_map_of_mem hp)⟩) BG (X₀.keeps st) (T.keeps st) (fun b hb => by
      rw [mem1 b hb]
      exact ⟨oL, es, ep, hLg, hLd⟩)) (fun fl s' hl => ?_) fun _ _ y => y
  obtain ⟨g', L', m', news', T', F', N', k⟩ := hl
  have nL₀ : h₀.get? L = none := kts_self F
  obtain ⟨sl, hs⟩ := T'.up hLg
  refine k ⟨hNs sl _ (F'.keep _ _ hs), fun b o e => F'.keep b o (T'.other b o (st b o e) (fun q => by
    rw [List.mem_singleton.mp q, nL₀] at e
    cases e)), F.above⟩ fun p hp => ⟨(N' p hp).1, fun q => ?_, ?_⟩
  · have := (N' p hp).2.2; rw [q, hs] at this; cases this
  · cases q : h₀.get? p.1 with
    | none => rfl
    | some o =>
      obtain ⟨sl', hs'⟩ := T'.up (st _ _ q)
      have := (N' p hp).2.2
      rw [hs'] at this
      cases this
end
end
theorem freshPlaceW : True := by
  w_top off
  k_with_none
  trivial
section
set_option maxRecDepth 100000
noncomputable def PInv (many signs c half : Int) : Prop := 0 ≤ half ∧ half < 300 ∧ placeLoop many signs c half.toNat = placeLoop many signs c ((signs + 1) / 2).toNat
theorem PInv.init {many signs c : Int} (h1 : 0 ≤ signs) (h2 : signs < 300) : PInv many signs c ((signs + 1).fdiv 2) := by
  rw [mid_eq]
  exact ⟨by omega, by omega, rfl⟩
theorem PInv.next {many signs c half : Int} (I : PInv many signs c half) (h : 0 < half) (hn : ¬ (c ≤ signs - half ∧ signs - half < many)) : PInv many signs c (half.fdiv 2) := by
  obtain ⟨a, b, e⟩ := I
  rw [mid_eq]
  refine ⟨by omega, by omega, ?_⟩
  rw [← e, placeLoop_next (half := half.toNat) (by omega) (by omega)]
  congr 1
  omega
theorem PInv.next1 {many signs c half : Int} (I : PInv many signs c half) (h : 0 < half) (hn : ¬ c ≤ signs - half) : PInv many signs c (half.fdiv 2) := I.next h fun z => hn z.1
theorem PInv.next2 {many signs c half : Int} (I : PInv many signs c half) (h : 0 < half) (hn : ¬ signs - half < many) : PInv many signs c (half.fdiv 2) := I.next h fun z => hn z.2
theorem PInv.hit {many signs c half : Int} (I : PInv many signs c half) (h : 0 < half) (hs : ¬ signs ≤ many) (h1 : c ≤ signs - half) (h2 : signs - half < many) : lawPlace many signs c = some c := by
  obtain ⟨a, b, e⟩ := I
  unfold lawPlace
  rw [if_neg hs, ← e, placeLoop_hit (by omega) (by omega)]
theorem PInv.last {many signs c half : Int} (I : PInv many signs c half) (h : ¬ 0 < half) (hs : ¬ signs ≤ many) : lawPlace many signs c = none := by
  obtain ⟨a, b, e⟩ := I
  unfold lawPlace
  rw [if_neg hs, ← e, placeLoop, dif_pos (by omega)]
theorem place_min {many signs c : Int} (hs : signs ≤ many) : lawPlace many signs c = some (if signs < c then signs else c) := by
  unfold lawPlace
  rw [if_pos hs]
  congr 1
  split <;> omega
set_option maxHeartbeats 8000000 in
theorem place_spec {w : World} {p : Program} {loose : List Str} {mean : ExcName → Option Value} {mg mb : Str → Option Value}
    {dp un : Nat} {gd : Option (List Code)} {cn : Str} {cs : Scope} {a : Addr} {ccd : Value} {cl : List (Str × Addr)} {outer : List Env} {A₀ : Around} {base h₀ : Heap} {L : Addr} {m : Str → Option Value} {news : List (Addr × Obj)} {s : Shared} {Q E : Value → Shared → Prop}
    (B : Below A₀ base outer h₀) (F : Fr h₀ L s.heap m) (X : (hd.heap_1 w.params).In h₀) (N : News h₀ L s.heap news) (T : Top p loose mean mg mb h₀) (hk : cs.kind = .function)
    (hd1 : dp + 1 < recursionLimit) (hu1 : un + 8 < cLine)
    {many signs count : Int} {t1 t2 t3 : Tok} (h1 : 0 ≤ many) (h2 : many < 300) (h3 : 0 ≤ signs) (h4 : signs < 300) (h5 : 0 ≤ count) (h6 : count < 300)
    (hret : ∀ (t : Tok) (h' : Heap) (tk' : Nat), Fr h₀ L h' m → News h₀ L h' news → Q (optV t (lawPlace many signs count)) { s with heap := h', toks := tk' }) :
    wpAny (model PP w) (ktrTop dp un gd cn cs L a ccd cl outer) (call (.ref 155) [.int many t1, .int signs t2, .int count t3]) Q E s := by
  (k_with "exec While Compare cons nil" => k_while (fun _ half => PInv many signs count half) (fun _ half => half.toNat) "half")
  (k_with "state" => first
    | exact PInv.init (by omega) (by omega)
    | exact PInv.next1 (by assumption) (by assumption) (by omega)
    | exact PInv.next2 (by assumption) (by assumption) (by omega)
    | (trace_state; fail "state"))
  (k_with "measure" => first | (simp only [mid_eq] at *; omega) | (trace_state; fail "measure"))
  refine wpAny_call ?_
  k_dflt cell_enter
  k_steps
  · have z := fun t h' tk' hF hN => hret t h' tk' hF hN
    rw [place_min (by assumption)] at z
    exact z _ _ _ (by k_asm) (by k_asm)
  · have z := fun t h' tk' hF hN => hret t h' tk' hF hN
    rw [PInv.hit (by assumption) (by assumption) (by assumption) (by assumption) (by assumption)] at z
    exact z _ _ _ (by k_asm) (by k_asm)
  · have z := fun t h' tk' hF hN => hret t h' tk' hF hN
    rw [PInv.last (by assumption) (by assumption) (by assumption)] at z
    exact z 0 _ _ (by k_asm) (by k_asm)
end
theorem freshPieceW : True := by
  w_top off
  k_with_none
  trivial
section
set_option maxRecDepth 100000
theorem news_cons {h₀ h : Heap} {L : Addr} {n n' : List (Addr × Obj)} {p : Addr × Obj} (N : News h₀ L h n) (hm : p ∈ n) (hs : ∀ q ∈ n', q ∈ n) : News h₀ L h (p :: n') := fun q hq => by
  rcases List.mem_cons.mp hq with rfl | hq
  · exact N _ hm
  · exact N q (hs q hq)
noncomputable def prank (i : Nat) : Nat := match i with | 0 => 1 | 1 => 0 | 2 => 5 | 3 => 3 | 4 => 2 | 5 => 4 | _ => 6
theorem fp0 : fw (prank (Int.toNat 0)) = Str.ofString "" := by decide +kernel
theorem qp0 : pt (prank (Int.toNat 0)) = Str.ofString "a" := by decide +kernel
theorem fp1 : fw (prank (Int.toNat 1)) = Str.ofString "" := by decide +kernel
theorem qp1 : pt (prank (Int.toNat 1)) = Str.ofString "" := by decide +kernel
theorem fp2 : fw (prank (Int.toNat 2)) = Str.ofString " " := by decide +kernel
theorem qp2 : pt (prank (Int.toNat 2)) = Str.ofString "" := by decide +kernel
theorem fp3 : fw (prank (Int.toNat 3)) = Str.ofString "" := by decide +kernel
theorem qp3 : pt (prank (Int.toNat 3)) = Str.ofString "b" := by decide +kernel
theorem fp4 : fw (prank (Int.toNat 4)) = Str.ofString "" := by decide +kernel
theorem qp4 : pt (prank (Int.toNat 4)) = Str.ofString "ab" := by decide +kernel
theorem fp5 : fw (prank (Int.toNat 5)) = Str.ofString "\t" := by decide +kernel
theorem qp5 : pt (prank (Int.toNat 5)) = Str.ofString "" := by decide +kernel
theorem fp6 : fw (prank (Int.toNat 6)) = Str.ofString " " := by decide +kernel
theorem qp6 : pt (prank (Int.toNat 6)) = Str.ofString "a" := by decide +kernel
theorem po0 (u1 u2 : Tok) : pieceObj (prank (Int.toNat 0)) u1 u2 = tupObj [.str (Str.ofString "") u1, .str (Str.ofString "a") u2] := by
  show tupObj [.str (fw _) _, .str (pt _) _] = _
  rw [fp0, qp0]
theorem po1 (u1 u2 : Tok) : pieceObj (prank (Int.toNat 1)) u1 u2 = tupObj [.str (Str.ofString "") u1, .str (Str.ofString "") u2] := by
  show tupObj [.str (fw _) _, .str (pt _) _] = _
  rw [fp1, qp1]
theorem po2 (u1 u2 : Tok) : pieceObj (prank (Int.toNat 2)) u1 u2 = tupObj [.str (Str.ofString " ") u1, .str (Str.ofString "") u2] := by
  show tupObj [.str (fw _) _, .str (pt _) _] = _
  rw [fp2, qp2]
theorem po3 (u1 u2 : Tok) : pieceObj (prank (Int.toNat 3)) u1 u2 = tupObj [.str (Str.ofString "") u1, .str (Str.ofString "b") u2] := by
  show tupObj [.str (fw _) _, .str (pt _) _] = _
  rw [fp3, qp3]
theorem po4 (u1 u2 : Tok) : pieceObj (prank (Int.toNat 4)) u1 u2 = tupObj [.str (Str.ofString "") u1, .str (Str.ofString "ab") u2] := by
  show tupObj [.str (fw _) _, .str (pt _) _] = _
  rw [fp4, qp4]
theorem po5 (u1 u2 : Tok) : pieceObj (prank (Int.toNat 5)) u1 u2 = tupObj [.str (Str.ofString "\t") u1, .str (Str.ofString "") u2] := by
  show tupObj [.str (fw _) _, .str (pt _) _] = _
  rw [fp5, qp5]
theorem po6 (u1 u2 : Tok) : pieceObj (prank (Int.toNat 6)) u1 u2 = tupObj [.str (Str.ofString " ") u1, .str (Str.ofString "a") u2] := by
  show tupObj [.str (fw _) _, .str (pt _) _] = _
  rw [fp6, qp6]
set_option maxHeartbeats 8000000 in
theorem piece_spec {w : World} {p : Program} {loose : List Str} {mean : ExcName → Option Value} {mg mb : Str → Option Value}
    {dp un : Nat} {gd : Option (List Code)} {cn : Str} {cs : Scope} {a : Addr} {ccd : Value} {cl : List (Str × Addr)} {outer : List Env} {A₀ : Around} {base h₀ : Heap} {L : Addr} {m : Str → Option Value} {news : List (Addr × Obj)} {s : Shared} {Q E : Value → Shared → Prop}
    (B : Below A₀ base outer h₀) (F : Fr h₀ L s.heap m) (X : (hd.heap_1 w.params).In h₀) (N : News h₀ L s.heap news) (T : Top p loose mean mg mb h₀) (hk : cs.kind = .function)
    (hd1 : dp + 1 < recursionLimit) (hu1 : un + 8 < cLine)
    {x : Int} {t1 : Tok}
    (hret : ∀ (px : Addr) (u1 u2 : Tok) (h' : Heap) (tk' : Nat), Fr h₀ L h' m → News h₀ L h' ((px, pieceObj (prank (x % 7).toNat) u1 u2) :: news) → (∀ q ∈ news, q.1 < px) → Q (.ref px) { s with heap := h', toks := tk' }) :
    wpAny (model PP w) (ktrTop dp un gd cn cs L a ccd cl outer) (call (.ref 148) [.int x t1]) Q E s := by
  refine wpAny_call ?_
  k_dflt cell_enter
  k_steps
  have hm : x.fmod 7 = x % 7 := Int.fmod_eq_emod_of_nonneg _ (by omega)
  have hcs : x % 7 = 0 ∨ x % 7 = 1 ∨ x % 7 = 2 ∨ x % 7 = 3 ∨ x % 7 = 4 ∨ x % 7 = 5 ∨ x % 7 = 6 := by omega
  rcases hcs with e | e | e | e | e | e | e
  all_goals rw [e] at hm
  all_goals simp only [e, po0, po1, po2, po3, po4, po5, po6] at hret
  all_goals rw [hm]
  all_goals k_steps
  all_goals
    rename (∀ p : Addr × Obj, p ∈ news → p.1 < _) => hlt
    exact hret _ _ _ _ _ (by k_asm) (news_cons (by k_asm) (by first
          | exact .tail _ (.head _)
          | exact .tail _ (.tail _ (.head _))
          | exact .tail _ (.tail _ (.tail _ (.head _)))
          | exact .tail _ (.tail _ (.tail _ (.tail _ (.head _))))
          | exact .tail _ (.tail _ (.tail _ (.tail _ (.tail _ (.head _)))))
          | exact .tail _ (.tail _ (.tail _ (.tail _ (.tail _ (.tail _ (.head _))))))
          | exact .tail _ (.tail _ (.tail _ (.tail _ (.tail _ (.tail _ (.tail _ (.head _)))))))) (fun p hp => .tail _ (.tail _ (.tail _ (.tail _ (.tail _ (.tail _ (.tail _ (.tail _ hp)))))))))
        (fun q hq => by first | exact hlt q hq | exact Nat.lt_trans (hlt q hq) (by omega))
end
section
local macro_rules | `(tactic| walk_at "call ref") => `(tactic| refine Stop.go ?_)
theorem freshAskA : True := by
  w_top off
  k_with_none
  trivial
section
set_option maxRecDepth 100000

set_option maxHeartbeats 8000000 in
theorem asked_tf {w : World} {p : Program} {loose : List Str} {mean : ExcName → Option Value} {mg mb : Str → Option Value}
    {dp un : Nat} {gd : Option (List Code)} {cn : Str} {cs : Scope} {a : Addr} {ccd : Value} {cl : List (Str × Addr)} {A₀ : Around} {base h₀ : Heap} {L : Addr} {m : Str → Option Value} {s : Shared} {Q E : Value → Shared → Prop}
    {r d px : Addr} {vs : List Value} {n : Nat} {hs : Int} {tkd tsz u1 u2 : Tok} {size : Int} {nd x : Nat} {oL : Obj} {tl : List (Addr × Obj)} {qs : List Nat} {c : Nat}
    (B : Below A₀ base [] h₀) (XB : (hd.heap_1 w.params).In base) (TB : Top p loose mean mg mb base) (F : Fr h₀ L s.heap m) (X : (hd.heap_1 w.params).In h₀)
    (N : News h₀ L s.heap ((99, oL) :: (r, rowObj d vs n) :: (d, dObj hs tkd size tsz nd) :: tl)) (T : Top p loose mean mg mb h₀) (hk : cs.kind = .function)
    (hd1 : dp + 30 < recursionLimit) (hu1 : un + 160 < cLine)
    (ok : TabOk oL) (hsep : ∀ q ∈ tl, q.1 ≠ 99) (I : Led tl vs qs) (hB : AllBare s.gens) (h1 : 0 ≤ size) (h2 : size ≤ 2) (h3 : qs.length ≤ 20)
    (hpx : (px, pieceObj x u1 u2) ∈ tl) (hx : x < 7) (hc : c ≤ qs.length) (hcnt : ∀ j q, qs[j]? = some q → (q < x ↔ j < c))
    (hret : ∀ (t : Tok) (s' : Shared) (oL' : Obj), Fr h₀ L s'.heap m → News h₀ L s'.heap ((99, oL') :: (r, rowObj d vs n) :: (d, dObj hs tkd size tsz nd) :: tl) → TabOk oL' → AllBare s'.gens → s'.os = s.os → Q (optV t (lawPlace qs.length (size + (sumL qs : Nat)) c)) s') :
    wpAny (model PP w) (ktrTop dp un gd cn cs L a ccd cl []) (call (.ref 162) [.ref r, .ref px, .bool true, .bool false]) Q E s := by
  refine wpAny_call ?_
  (refine' call_try ?k1 ?k2 ?k3 ?k4 ?k5 ?kA ?kF ?kK ?k6 ?k7 ?k8 ?k9 ?kB ?_ ?c2 ?c3 ?c4 ?c5; (case kA => exact rfl); (case kF => exact rfl); (case kK => assumption); (case k1 => k_asm); (case k2 => k_asm); (case k3 => k_asm); (case k4 => k_asm); (case k5 => k_asm); (case k6 => k_is); (case k7 => k_is); (case k8 => ktr_room); (case k9 => exact BindsTo.of_eq rfl); (case c5 => decide); (case kB => exact locs rfl); (case c2 => exact rfl); (case c3 => exact rfl); (case c4 => exact rfl); k_whole; intro g' L' h' FG F' N' B' X' T' D'; (try dsimp only); (try k_lift B'); (try k_fold))
  k_steps
  show wpAny _ _ (call _ _ _) _ _ _
  refine bl_none B' (by k_asm) X' (by k_asm) T' rfl ?_ ?_ ok hsep I hB h1 h2 h3 hpx hx hc hcnt ?_ ?_
  · exact room1 hd1 rfl
  · exact room1 hu1 rfl
  · intro k t s₂ oL₂ hk₂ F₂ N₂ ok₂ hB₂ hos₂
    k_steps
    have z := hret t s₂ oL₂ (by k_asm) (by k_asm) ok₂ hB₂ hos₂
    rw [hk₂] at z
    exact z
  · intro g₂ e s₂ oL₂ hno FG₂ R up ok₂ hB₂ hos₂
    refine' caught_SN0 (T' := "IndexError") R FG₂ B' up XB TB D' KtsTurn.refl ?ex PyProof.Rows.Boot.«IndexError» ?hn PySem.F.isExc_IndexError PySem.F.notTuple_IndexError ?hs ?_
    (case ex => k_is)
    (case hn => decide)
    (case hs => kts_sub)
    intro h₃ g₃ T₃ F₃ N₃ K₃ X₃ P₃ D₃
    k_steps
    have z := fun t h' hF hN => hret t { s₂ with heap := h' } oL₂ hF hN ok₂ hB₂ hos₂
    rw [hno] at z
    exact z 0 _ (by k_asm) (by k_asm)
set_option maxHeartbeats 8000000 in
theorem asked_ff {w : World} {p : Program} {loose : List Str} {mean : ExcName → Option Value} {mg mb : Str → Option Value}
    {dp un : Nat} {gd : Option (List Code)} {cn : Str} {cs : Scope} {a : Addr} {ccd : Value} {cl : List (Str × Addr)} {A₀ : Around} {base h₀ : Heap} {L : Addr} {m : Str → Option Value} {s : Shared} {Q E : Value → Shared → Prop}
    {r d px : Addr} {vs : List Value} {n : Nat} {hs : Int} {tkd tsz u1 u2 : Tok} {size : Int} {nd x : Nat} {oL : Obj} {tl : List (Addr × Obj)} {qs : List Nat} {c : Nat}
    (B : Below A₀ base [] h₀) (XB : (hd.heap_1 w.params).In base) (TB : Top p loose mean mg mb base) (F : Fr h₀ L s.heap m) (X : (hd.heap_1 w.params).In h₀)
    (N : News h₀ L s.heap ((99, oL) :: (r, rowObj d vs n) :: (d, dObj hs tkd size tsz nd) :: tl)) (T : Top p loose mean mg mb h₀) (hk : cs.kind = .function)
    (hd1 : dp + 30 < recursionLimit) (hu1 : un + 160 < cLine)
    (ok : TabOk oL) (hsep : ∀ q ∈ tl, q.1 ≠ 99) (I : Led tl vs qs) (hB : AllBare s.gens) (h1 : 0 ≤ size) (h2 : size ≤ 2) (h3 : qs.length ≤ 20)
    (hpx : (px, pieceObj x u1 u2) ∈ tl) (hx : x < 7) (hc : c ≤ qs.length) (hcnt : ∀ j q, qs[j]? = some q → (q ≤ x ↔ j < c))
    (hret : ∀ (t : Tok) (s' : Shared) (oL' : Obj), Fr h₀ L s'.heap m → News h₀ L s'.heap ((99, oL') :: (r, rowObj d vs n) :: (d, dObj hs tkd size tsz nd) :: tl) → TabOk oL' → AllBare s'.gens → s'.os = s.os → Q (optV t (lawPlace qs.length (size + (sumL qs : Nat)) c)) s') :
    wpAny (model PP w) (ktrTop dp un gd cn cs L a ccd cl []) (call (.ref 162) [.ref r, .ref px, .bool false, .bool false]) Q E s := by
  refine wpAny_call ?_
  (refine' call_try ?k1 ?k2 ?k3 ?k4 ?k5 ?kA ?kF ?kK ?k6 ?k7 ?k8 ?k9 ?kB ?_ ?c2 ?c3 ?c4 ?c5; (case kA => exact rfl); (case kF => exact rfl); (case kK => assumption); (case k1 => k_asm); (case k2 => k_asm); (case k3 => k_asm); (case k4 => k_asm); (case k5 => k_asm); (case k6 => k_is); (case k7 => k_is); (case k8 => ktr_room); (case k9 => exact BindsTo.of_eq rfl); (case c5 => decide); (case kB => exact locs rfl); (case c2 => exact rfl); (case c3 => exact rfl); (case c4 => exact rfl); k_whole; intro g' L' h' FG F' N' B' X' T' D'; (try dsimp only); (try k_lift B'); (try k_fold))
  k_steps
  show wpAny _ _ (call _ _ _) _ _ _
  refine br_none (hi := 0) (u3 := 0) (u4 := 0) B' (by k_asm) X' (by k_asm) T' rfl ?_ ?_ ok hsep I hB h1 h2 h3 hpx hx hc hcnt ?_ ?_
  · exact room1 hd1 rfl
  · exact room1 hu1 rfl
  · intro k t s₂ oL₂ hk₂ F₂ N₂ ok₂ hB₂ hos₂
    k_steps
    have z := hret t s₂ oL₂ (by k_asm) (by k_asm) ok₂ hB₂ hos₂
    rw [hk₂] at z
    exact z
  · intro g₂ e s₂ oL₂ hno FG₂ R up ok₂ hB₂ hos₂
    refine' caught_SN0 (T' := "IndexError") R FG₂ B' up XB TB D' KtsTurn.refl ?ex PyProof.Rows.Boot.«IndexError» ?hn PySem.F.isExc_IndexError PySem.F.notTuple_IndexError ?hs ?_
    (case ex => k_is)
    (case hn => decide)
    (case hs => kts_sub)
    intro h₃ g₃ T₃ F₃ N₃ K₃ X₃ P₃ D₃
    k_steps
    have z := fun t h' hF hN => hret t { s₂ with heap := h' } oL₂ hF hN ok₂ hB₂ hos₂
    rw [hno] at z
    exact z 0 _ (by k_asm) (by k_asm)
end
theorem freshKeyL : True := by
  w_top off
  k_with_none
  trivial
section
set_option maxRecDepth 100000
structure TabK (ps : Array Value) (rest : List (Addr × Obj)) : Prop where
  triples : TriplesOk ps.toList
  codes : ∀ pos v, codeAmong pos ps.toList = some v → ∃ c' oc vs t, v = .ref c' ∧ (c', oc) ∈ rest ∧ oc.data = .fields vs ∧ vs[1]? = some (.str "_law_asked.<locals>.<lambda>" t)
theorem TabK.nil (rest : List (Addr × Obj)) : TabK #[] rest := ⟨trivial, fun pos v h => by simp [codeAmong] at h⟩
theorem TabK.sub {ps : Array Value} {rest rest' : List (Addr × Obj)} (T : TabK ps rest) (h : ∀ p ∈ rest, p ∈ rest') : TabK ps rest' :=
  ⟨T.triples, fun pos v e => let ⟨c', oc, vs, t, e1, e2, e3⟩ := T.codes pos v e; ⟨c', oc, vs, t, e1, h _ e2, e3⟩⟩
theorem among_snoc {pos : Pos} {a b : Int} {c v : Value} (l : List Value) (h : TriplesOk l) (hv : codeAmong pos (l ++ [rawInt a, rawInt b, c]) = some v) : codeAmong pos l = some v ∨ v = c := by
  fun_induction TriplesOk l with
  | case1 =>
    simp only [List.nil_append, codeAmong, rawInt] at hv
    split at hv
    · exact .inr (Option.some.inj hv).symm
    · cases hv
  | case2 a' t b' u x rest ih =>
    simp only [List.cons_append, codeAmong] at hv ⊢
    split at hv
    · rename_i hc; rw [if_pos hc]; exact .inl hv
    · rename_i hc; rw [if_neg hc]; exact ih h hv
  | case3 l h1 h2 => exact h.elim
theorem TabK.snoc {ps : Array Value} {rest : List (Addr × Obj)} {pos : Pos} {c' : Addr} {oc : Obj} {vs : Array Value} {t : Tok} (T : TabK ps rest) (h1 : (c', oc) ∈ rest) (h2 : oc.data = .fields vs) (h3 : vs[1]? = some (.str "_law_asked.<locals>.<lambda>" t)) :
    TabK (ps ++ #[rawInt pos.line, rawInt pos.col, .ref c']) rest := by
  refine ⟨?_, fun pos' v e => ?_⟩
  · have := TriplesOk_snoc pos.line pos.col (.ref c') ps.toList T.triples
    simpa using this
  · have e : codeAmong pos' (ps.toList ++ [rawInt pos.line, rawInt pos.col, .ref c']) = some v := by simpa using e
    rcases among_snoc _ T.triples e with e | rfl
    · exact T.codes pos' v e
    · exact ⟨c', oc, vs, t, rfl, h1, h2, h3⟩

section
variable {M : Model} {A : Around} {E : Value → Shared → Prop} {s : Shared} {h₀ : Heap} {L a c : Addr} {m mg mb : Str → Option Value} {cn : Str} {cs : Scope} {ccd : Value} {cl : List (Str × Addr)} {rest : List (Addr × Obj)}
  {p : Program} {loose : List Str} {mean : ExcName → Option Value} {params : Arguments} {body : PySem.Expr} {scope : Scope} {ps : Array Value} {pos : Pos} {clos : List (Str × Addr)}

theorem eval_key {Q : Value → Shared → Prop} {tl : List (Addr × Obj)} (F : Fr h₀ L s.heap m) (N : News h₀ L s.heap ((157, tabObj ps) :: rest)) (T : Top p loose mean mg mb h₀) (C : CodeHd h₀ c 157) (hcd : ccd = .ref c) (hsep : ∀ q ∈ rest, q.1 ≠ 157) (K : TabK ps tl) (hsub : ∀ p ∈ tl, p ∈ rest)
    (hcn : cn ++ ".<locals>." ++ "<lambda>" = "_law_asked.<locals>.<lambda>") (hcl : closureFor scope (envX cn cs L a ccd cl) = pure clos) (hdef : defaultsOf params (envX cn cs L a ccd cl) = ([], []))
    (h : ∀ f c' oc vs t pm ctv ob ps' h' tk, ob = kla_obj "<lambda>" "_law_asked.<locals>.<lambda>" params body scope clos pm c' ctv → Fr h₀ L h' m → News h₀ L h' ((f, ob) :: (157, tabObj ps') :: (c', oc) :: rest) →
      oc.data = .fields vs → vs[1]? = some (.str "_law_asked.<locals>.<lambda>" t) → TabK ps' ((c', oc) :: tl) → ((c', oc) ∈ tl ∨ ∀ q ∈ (157, tabObj ps) :: rest, q.1 < c') → (∀ q ∈ (157, tabObj ps) :: rest, q.1 < f) → c' ≠ 157 → c' < f → Q (.ref f) { s with heap := h', toks := tk }) :
    wpAny M A (eval (.Lambda params body scope pos) (envX cn cs L a ccd cl)) Q E s := by
  refine kla_eval hdef ?_
  rw [show (envX cn cs L a ccd cl).qual ++ "<lambda>" = ("_law_asked.<locals>.<lambda>" : Str) from hcn]
  cases hca : codeAmong pos ps.toList with
  | none =>
    refine kla_nest F N T C hcd (UpdF.head hsep) K.triples hca hcl fun f c' oc vs t ctv h' tk F' N' d1 d2 l1 l2 => ?_
    refine h f c' oc vs t ((mg "__name__").getD .none) ctv _ (ps ++ #[rawInt pos.line, rawInt pos.col, .ref c']) h' tk rfl F' (fun q hq => N' q ?_) d1 d2 ((K.sub fun p hp => .tail _ hp).snoc (pos := pos) (.head _) d1 d2) (.inr l1) (fun q hq => Nat.lt_trans (l1 q hq) l2) (Nat.ne_of_gt (l1 _ (.head _))) l2
    rcases List.mem_cons.mp hq with rfl | hq
    · exact .head _
    · rcases List.mem_cons.mp hq with rfl | hq
      · exact .tail _ (.tail _ (.head _))
      · rcases List.mem_cons.mp hq with rfl | hq
        · exact .tail _ (.head _)
        · exact .tail _ (.tail _ (.tail _ hq))
  | some v =>
    obtain ⟨c', oc, vs, t, rfl, e2, e3, e4⟩ := K.codes pos v hca
    refine kla_hit F N T C hcd (.head _) K.triples hca hcl fun f ctv h' tk F' N' l1 => ?_
    refine h f c' oc vs t ((mg "__name__").getD .none) ctv _ ps h' tk rfl F' (fun q hq => N' q ?_) e3 e4 (K.sub fun p hp => .tail _ hp) (.inl e2) l1 (hsep _ (hsub _ e2)) (l1 _ (.tail _ (hsub _ e2)))
    rcases List.mem_cons.mp hq with rfl | hq
    · exact .head _
    · rcases List.mem_cons.mp hq with rfl | hq
      · exact .tail _ (.head _)
      · rcases List.mem_cons.mp hq with rfl | hq
        · exact .tail _ (.tail _ (hsub _ e2))
        · exact .tail _ (.tail _ hq)
end
end
theorem freshAskK : True := by
  w_top off
  k_with_none
  trivial
section
set_option maxRecDepth 100000

set_option maxHeartbeats 8000000 in
theorem asked_tt {w : World} {p : Program} {loose : List Str} {mean : ExcName → Option Value} {mg mb : Str → Option Value}
    {dp un : Nat} {gd : Option (List Code)} {cn : Str} {cs : Scope} {a : Addr} {ccd : Value} {cl : List (Str × Addr)} {A₀ : Around} {base h₀ : Heap} {L : Addr} {m : Str → Option Value} {s : Shared} {Q E : Value → Shared → Prop}
    {r d px : Addr} {vs : List Value} {n : Nat} {hs : Int} {tkd tsz u1 u2 : Tok} {size : Int} {nd x : Nat} {oL : Obj} {tl : List (Addr × Obj)} {qs : List Nat} {c : Nat} {ps : Array Value}
    (B : Below A₀ base [] h₀) (XB : (hd.heap_1 w.params).In base) (TB : Top p loose mean mg mb base) (F : Fr h₀ L s.heap m) (X : (hd.heap_1 w.params).In h₀)
    (N : News h₀ L s.heap ((99, oL) :: (r, rowObj d vs n) :: (d, dObj hs tkd size tsz nd) :: (157, tabObj ps) :: tl)) (T : Top p loose mean mg mb h₀) (hk : cs.kind = .function)
    (hd1 : dp + 30 < recursionLimit) (hu1 : un + 160 < cLine)
    (ok : TabOk oL) {tlk : List (Addr × Obj)} (hK : TabK ps tlk) (hks : ∀ p ∈ tlk, p ∈ tl) (hsep : ∀ q ∈ tl, q.1 ≠ 99 ∧ q.1 ≠ 157) (I : Led tl vs qs) (hB : AllBare s.gens) (h1 : 0 ≤ size) (h2 : size ≤ 2) (h3 : qs.length ≤ 20)
    (hpx : (px, pieceObj x u1 u2) ∈ tl) (hx : x < 7) (hc : c ≤ qs.length) (hcnt : ∀ j q, qs[j]? = some q → (fr q < fr x ↔ j < c))
    (hret : ∀ (t : Tok) (s' : Shared) (oL' : Obj) (ps' : Array Value) (c' : Addr) (oc : Obj), Fr h₀ L s'.heap m → News h₀ L s'.heap ((99, oL') :: (r, rowObj d vs n) :: (d, dObj hs tkd size tsz nd) :: (157, tabObj ps') :: (c', oc) :: tl) →
      TabOk oL' → TabK ps' ((c', oc) :: tlk) → ((c', oc) ∈ tlk ∨ ∀ q ∈ (99, oL) :: (r, rowObj d vs n) :: (d, dObj hs tkd size tsz nd) :: (157, tabObj ps) :: tl, q.1 < c') → AllBare s'.gens → s'.os = s.os → Q (optV t (lawPlace qs.length (size + (sumL qs : Nat)) c)) s') :
    wpAny (model PP w) (ktrTop dp un gd cn cs L a ccd cl []) (call (.ref 162) [.ref r, .ref px, .bool true, .bool true]) Q E s := by
  have hrne : r ≠ 157 := news_ne N ⟨_, rfl, hK.triples, rfl⟩ (.tail _ (.tail _ (.tail _ (.head _)))) (.tail _ (.head _)) (by intro ps h; cases h)
  have hdne : d ≠ 157 := news_ne N ⟨_, rfl, hK.triples, rfl⟩ (.tail _ (.tail _ (.tail _ (.head _)))) (.tail _ (.tail _ (.head _))) (by intro ps h; cases h)
  have hpne : px ≠ 157 := (hsep _ hpx).2
  have N₀ : News h₀ L s.heap ((157, tabObj ps) :: (px, pieceObj x u1 u2) :: (99, oL) :: (r, rowObj d vs n) :: (d, dObj hs tkd size tsz nd) :: tl) := fun q hq => by
    simp only [List.mem_cons] at hq
    refine N q ?_
    simp only [List.mem_cons]
    rcases hq with h | h | h | h | h | h
    · exact .inr (.inr (.inr (.inl h)))
    · exact .inr (.inr (.inr (.inr (h ▸ hpx))))
    · exact .inl h
    · exact .inr (.inl h)
    · exact .inr (.inr (.inl h))
    · exact .inr (.inr (.inr (.inr h)))
  refine wpAny_call ?_
  (refine' call_try ?k1 ?k2 ?k3 ?k4 ?k5 ?kA ?kF ?kK ?k6 ?k7 ?k8 ?k9 ?kB ?_ ?c2 ?c3 ?c4 ?c5; (case kA => exact rfl); (case kF => exact rfl); (case kK => assumption); (case k1 => k_asm); (case k2 => k_asm); (case k3 => k_asm); (case k4 => exact N₀); (case k5 => k_asm); (case k6 => k_is); (case k7 => k_is); (case k8 => ktr_room); (case k9 => exact BindsTo.of_eq rfl); (case c5 => decide); (case kB => exact locs rfl); (case c2 => exact rfl); (case c3 => exact rfl); (case c4 => exact rfl); k_whole; intro g' L' h' FG F' N' B' X' T' D'; (try dsimp only); (try k_lift B'); (try k_fold))
  k_steps
  refine eval_key F' (by k_asm) T' (codeHd_of_K (c := 161) X' (by kernel_rfl)) rfl ?_ hK ?_ rfl rfl rfl ?_
  · intro q hq
    simp only [List.mem_cons] at hq
    rcases hq with rfl | rfl | rfl | rfl | hq
    · exact hpne
    · exact (show (99 : Nat) ≠ 157 by decide)
    · exact hrne
    · exact hdne
    · exact (hsep q hq).2
  · intro p hp
    exact .tail _ (.tail _ (.tail _ (.tail _ (hks p hp))))
  intro kf c' oc cvs tt pm ctv ob ps' h₄ tk₄ hob F₄ N₄ d1 d2 K₄ fresh lf hc7 hcf
  have N₅ : News g' L' h₄ ((99, oL) :: (r, rowObj d vs n) :: (d, dObj hs tkd size tsz nd) :: (kf, ob) :: (157, tabObj ps') :: (c', oc) :: tl) := fun q hq => by
    simp only [List.mem_cons] at hq
    refine N₄ q ?_
    simp only [List.mem_cons]
    rcases hq with h | h | h | h | h | h | h
    · exact .inr (.inr (.inr (.inr (.inl h))))
    · exact .inr (.inr (.inr (.inr (.inr (.inl h)))))
    · exact .inr (.inr (.inr (.inr (.inr (.inr (.inl h))))))
    · exact .inl h
    · exact .inr (.inl h)
    · exact .inr (.inr (.inl h))
    · exact .inr (.inr (.inr (.inr (.inr (.inr (.inr h))))))
  have I' : Led ((kf, ob) :: (157, tabObj ps') :: (c', oc) :: tl) vs qs := ⟨I.len, fun j q hq => let ⟨a, t, t1, t2, e, z⟩ := I.at_ j q hq; ⟨a, t, t1, t2, e, .tail _ (.tail _ (.tail _ z))⟩⟩
  have hsep' : ∀ q ∈ (kf, ob) :: (157, tabObj ps') :: (c', oc) :: tl, q.1 ≠ 99 := by
    have n99 : ∀ b, (∀ q ∈ (157, tabObj ps) :: (px, pieceObj x u1 u2) :: (99, oL) :: (r, rowObj d vs n) :: (d, dObj hs tkd size tsz nd) :: tl, q.1 < b) → b ≠ 99 := fun b hb => Nat.ne_of_gt (hb (99, oL) (.tail _ (.tail _ (.head _))))
    intro q hq
    simp only [List.mem_cons] at hq
    rcases hq with rfl | rfl | rfl | hq
    · exact n99 _ lf
    · exact (show (157 : Nat) ≠ 99 by decide)
    · rcases fresh with hm | hl
      · exact (hsep _ (hks _ hm)).1
      · exact n99 _ hl
    · exact (hsep q hq).1
  clear N₄
  have drop : ∀ {o : Obj} (q : Addr × Obj), q ∈ (99, o) :: (r, rowObj d vs n) :: (d, dObj hs tkd size tsz nd) :: (157, tabObj ps') :: (c', oc) :: tl → q ∈ (99, o) :: (r, rowObj d vs n) :: (d, dObj hs tkd size tsz nd) :: (kf, ob) :: (157, tabObj ps') :: (c', oc) :: tl := fun q hq => by
    simp only [List.mem_cons] at hq ⊢
    rcases hq with h | h | h | h
    · exact .inl h
    · exact .inr (.inl h)
    · exact .inr (.inr (.inl h))
    · exact .inr (.inr (.inr (.inr h)))
  have fresh' : (c', oc) ∈ tlk ∨ ∀ q ∈ (99, oL) :: (r, rowObj d vs n) :: (d, dObj hs tkd size tsz nd) :: (157, tabObj ps) :: tl, q.1 < c' := by
    rcases fresh with h | h
    · exact .inl h
    · refine .inr fun q hq => h q ?_
      simp only [List.mem_cons] at hq ⊢
      rcases hq with h | h | h | h | h
      · exact .inr (.inr (.inl h))
      · exact .inr (.inr (.inr (.inl h)))
      · exact .inr (.inr (.inr (.inr (.inl h))))
      · exact .inl h
      · exact .inr (.inr (.inr (.inr (.inr h))))
  k_steps
  show wpAny _ _ (call _ _ _) _ _ _
  refine bl_key B' (by k_asm) X' N₅ T' rfl ?_ ?_ ok hsep' I' hB h1 h2 h3 (.head _) hob (.tail _ (.tail _ (.head _))) d1 d2 hx hc hcnt ?_ ?_
  · exact room1 hd1 rfl
  · exact room1 hu1 rfl
  · intro k t s₂ oL₂ hk₂ F₂ N₂ ok₂ hB₂ hos₂
    k_steps
    have z := hret t s₂ oL₂ ps' c' oc (by k_asm) (news_sub (by k_asm) drop) ok₂ K₄ fresh' hB₂ hos₂
    rw [hk₂] at z
    exact z
  · intro g₂ e s₂ oL₂ hno FG₂ R up ok₂ hB₂ hos₂
    refine' caught_SN0 (T' := "IndexError") R FG₂ B' up XB TB D' KtsTurn.refl ?ex PyProof.Rows.Boot.«IndexError» ?hn PySem.F.isExc_IndexError PySem.F.notTuple_IndexError ?hs ?_
    (case ex => k_is)
    (case hn => decide)
    (case hs => kts_sub)
    intro h₃ g₃ T₃ F₃ N₃ K₃ X₃ P₃ D₃
    k_steps
    have z := fun t h' hF hN => hret t { s₂ with heap := h' } oL₂ ps' c' oc hF (news_sub hN drop) ok₂ K₄ fresh' hB₂ hos₂
    rw [hno] at z
    exact z 0 _ (by k_asm) (by k_asm)
set_option maxHeartbeats 8000000 in
theorem asked_ft {w : World} {p : Program} {loose : List Str} {mean : ExcName → Option Value} {mg mb : Str → Option Value}
    {dp un : Nat} {gd : Option (List Code)} {cn : Str} {cs : Scope} {a : Addr} {ccd : Value} {cl : List (Str × Addr)} {A₀ : Around} {base h₀ : Heap} {L : Addr} {m : Str → Option Value} {s : Shared} {Q E : Value → Shared → Prop}
    {r d px : Addr} {vs : List Value} {n : Nat} {hs : Int} {tkd tsz u1 u2 : Tok} {size : Int} {nd x : Nat} {oL : Obj} {tl : List (Addr × Obj)} {qs : List Nat} {c : Nat} {ps : Array Value}
    (B : Below A₀ base [] h₀) (XB : (hd.heap_1 w.params).In base) (TB : Top p loose mean mg mb base) (F : Fr h₀ L s.heap m) (X : (hd.heap_1 w.params).In h₀)
    (N : News h₀ L s.heap ((99, oL) :: (r, rowObj d vs n) :: (d, dObj hs tkd size tsz nd) :: (157, tabObj ps) :: tl)) (T : Top p loose mean mg mb h₀) (hk : cs.kind = .function)
    (hd1 : dp + 30 < recursionLimit) (hu1 : un + 160 < cLine)
    (ok : TabOk oL) {tlk : List (Addr × Obj)} (hK : TabK ps tlk) (hks : ∀ p ∈ tlk, p ∈ tl) (hsep : ∀ q ∈ tl, q.1 ≠ 99 ∧ q.1 ≠ 157) (I : Led tl vs qs) (hB : AllBare s.gens) (h1 : 0 ≤ size) (h2 : size ≤ 2) (h3 : qs.length ≤ 20)
    (hpx : (px, pieceObj x u1 u2) ∈ tl) (hx : x < 7) (hc : c ≤ qs.length) (hcnt : ∀ j q, qs[j]? = some q → (fr q ≤ fr x ↔ j < c))
    (hret : ∀ (t : Tok) (s' : Shared) (oL' : Obj) (ps' : Array Value) (c' : Addr) (oc : Obj), Fr h₀ L s'.heap m → News h₀ L s'.heap ((99, oL') :: (r, rowObj d vs n) :: (d, dObj hs tkd size tsz nd) :: (157, tabObj ps') :: (c', oc) :: tl) →
      TabOk oL' → TabK ps' ((c', oc) :: tlk) → ((c', oc) ∈ tlk ∨ ∀ q ∈ (99, oL) :: (r, rowObj d vs n) :: (d, dObj hs tkd size tsz nd) :: (157, tabObj ps) :: tl, q.1 < c') → AllBare s'.gens → s'.os = s.os → Q (optV t (lawPlace qs.length (size + (sumL qs : Nat)) c)) s') :
    wpAny (model PP w) (ktrTop dp un gd cn cs L a ccd cl []) (call (.ref 162) [.ref r, .ref px, .bool false, .bool true]) Q E s := by
  have hrne : r ≠ 157 := news_ne N ⟨_, rfl, hK.triples, rfl⟩ (.tail _ (.tail _ (.tail _ (.head _)))) (.tail _ (.head _)) (by intro ps h; cases h)
  have hdne : d ≠ 157 := news_ne N ⟨_, rfl, hK.triples, rfl⟩ (.tail _ (.tail _ (.tail _ (.head _)))) (.tail _ (.tail _ (.head _))) (by intro ps h; cases h)
  have hpne : px ≠ 157 := (hsep _ hpx).2
  have N₀ : News h₀ L s.heap ((157, tabObj ps) :: (px, pieceObj x u1 u2) :: (99, oL) :: (r, rowObj d vs n) :: (d, dObj hs tkd size tsz nd) :: tl) := fun q hq => by
    simp only [List.mem_cons] at hq
    refine N q ?_
    simp only [List.mem_cons]
    rcases hq with h | h | h | h | h | h
    · exact .inr (.inr (.inr (.inl h)))
    · exact .inr (.inr (.inr (.inr (h ▸ hpx))))
    · exact .inl h
    · exact .inr (.inl h)
    · exact .inr (.inr (.inl h))
    · exact .inr (.inr (.inr (.inr h)))
  refine wpAny_call ?_
  (refine' call_try ?k1 ?k2 ?k3 ?k4 ?k5 ?kA ?kF ?kK ?k6 ?k7 ?k8 ?k9 ?kB ?_ ?c2 ?c3 ?c4 ?c5; (case kA => exact rfl); (case kF => exact rfl); (case kK => assumption); (case k1 => k_asm); (case k2 => k_asm); (case k3 => k_asm); (case k4 => exact N₀); (case k5 => k_asm); (case k6 => k_is); (case k7 => k_is); (case k8 => ktr_room); (case k9 => exact BindsTo.of_eq rfl); (case c5 => decide); (case kB => exact locs rfl); (case c2 => exact rfl); (case c3 => exact rfl); (case c4 => exact rfl); k_whole; intro g' L' h' FG F' N' B' X' T' D'; (try dsimp only); (try k_lift B'); (try k_fold))
  k_steps
  refine eval_key F' (by k_asm) T' (codeHd_of_K (c := 161) X' (by kernel_rfl)) rfl ?_ hK ?_ rfl rfl rfl ?_
  · intro q hq
    simp only [List.mem_cons] at hq
    rcases hq with rfl | rfl | rfl | rfl | hq
    · exact hpne
    · exact (show (99 : Nat) ≠ 157 by decide)
    · exact hrne
    · exact hdne
    · exact (hsep q hq).2
  · intro p hp
    exact .tail _ (.tail _ (.tail _ (.tail _ (hks p hp))))
  intro kf c' oc cvs tt pm ctv ob ps' h₄ tk₄ hob F₄ N₄ d1 d2 K₄ fresh lf hc7 hcf
  have N₅ : News g' L' h₄ ((99, oL) :: (r, rowObj d vs n) :: (d, dObj hs tkd size tsz nd) :: (kf, ob) :: (157, tabObj ps') :: (c', oc) :: tl) := fun q hq => by
    simp only [List.mem_cons] at hq
    refine N₄ q ?_
    simp only [List.mem_cons]
    rcases hq with h | h | h | h | h | h | h
    · exact .inr (.inr (.inr (.inr (.inl h))))
    · exact .inr (.inr (.inr (.inr (.inr (.inl h)))))
    · exact .inr (.inr (.inr (.inr (.inr (.inr (.inl h))))))
    · exact .inl h
    · exact .inr (.inl h)
    · exact .inr (.inr (.inl h))
    · exact .inr (.inr (.inr (.inr (.inr (.inr (.inr h))))))
  have I' : Led ((kf, ob) :: (157, tabObj ps') :: (c', oc) :: tl) vs qs := ⟨I.len, fun j q hq => let ⟨a, t, t1, t2, e, z⟩ := I.at_ j q hq; ⟨a, t, t1, t2, e, .tail _ (.tail _ (.tail _ z))⟩⟩
  have hsep' : ∀ q ∈ (kf, ob) :: (157, tabObj ps') :: (c', oc) :: tl, q.1 ≠ 99 := by
    have n99 : ∀ b, (∀ q ∈ (157, tabObj ps) :: (px, pieceObj x u1 u2) :: (99, oL) :: (r, rowObj d vs n) :: (d, dObj hs tkd size tsz nd) :: tl, q.1 < b) → b ≠ 99 := fun b hb => Nat.ne_of_gt (hb (99, oL) (.tail _ (.tail _ (.head _))))
    intro q hq
    simp only [List.mem_cons] at hq
    rcases hq with rfl | rfl | rfl | hq
    · exact n99 _ lf
    · exact (show (157 : Nat) ≠ 99 by decide)
    · rcases fresh with hm | hl
      · exact (hsep _ (hks _ hm)).1
      · exact n99 _ hl
    · exact (hsep q hq).1
  clear N₄
  have drop : ∀ {o : Obj} (q : Addr × Obj), q ∈ (99, o) :: (r, rowObj d vs n) :: (d, dObj hs tkd size tsz nd) :: (157, tabObj ps') :: (c', oc) :: tl → q ∈ (99, o) :: (r, rowObj d vs n) :: (d, dObj hs tkd size tsz nd) :: (kf, ob) :: (157, tabObj ps') :: (c', oc) :: tl := fun q hq => by
    simp only [List.mem_cons] at hq ⊢
    rcases hq with h | h | h | h
    · exact .inl h
    · exact .inr (.inl h)
    · exact .inr (.inr (.inl h))
    · exact .inr (.inr (.inr (.inr h)))
  have fresh' : (c', oc) ∈ tlk ∨ ∀ q ∈ (99, oL) :: (r, rowObj d vs n) :: (d, dObj hs tkd size tsz nd) :: (157, tabObj ps) :: tl, q.1 < c' := by
    rcases fresh with h | h
    · exact .inl h
    · refine .inr fun q hq => h q ?_
      simp only [List.mem_cons] at hq ⊢
      rcases hq with h | h | h | h | h
      · exact .inr (.inr (.inl h))
      · exact .inr (.inr (.inr (.inl h)))
      · exact .inr (.inr (.inr (.inr (.inl h))))
      · exact .inl h
      · exact .inr (.inr (.inr (.inr (.inr h))))
  k_steps
  show wpAny _ _ (call _ _ _) _ _ _
  refine br_key B' (by k_asm) X' N₅ T' rfl ?_ ?_ ok hsep' I' hB h1 h2 h3 (.head _) hob (.tail _ (.tail _ (.head _))) d1 d2 hx hc hcnt ?_ ?_
  · exact room1 hd1 rfl
  · exact room1 hu1 rfl
  · intro k t s₂ oL₂ hk₂ F₂ N₂ ok₂ hB₂ hos₂
    k_steps
    have z := hret t s₂ oL₂ ps' c' oc (by k_asm) (news_sub (by k_asm) drop) ok₂ K₄ fresh' hB₂ hos₂
    rw [hk₂] at z
    exact z
  · intro g₂ e s₂ oL₂ hno FG₂ R up ok₂ hB₂ hos₂
    refine' caught_SN0 (T' := "IndexError") R FG₂ B' up XB TB D' KtsTurn.refl ?ex PyProof.Rows.Boot.«IndexError» ?hn PySem.F.isExc_IndexError PySem.F.notTuple_IndexError ?hs ?_
    (case ex => k_is)
    (case hn => decide)
    (case hs => kts_sub)
    intro h₃ g₃ T₃ F₃ N₃ K₃ X₃ P₃ D₃
    k_steps
    have z := fun t h' hF hN => hret t { s₂ with heap := h' } oL₂ ps' c' oc hF (news_sub hN drop) ok₂ K₄ fresh' hB₂ hos₂
    rw [hno] at z
    exact z 0 _ (by k_asm) (by k_asm)
end
theorem freshInsW : True := by
  w_top off
  k_with_none
  trivial
section
set_option maxRecDepth 100000
theorem upd_ext {h : Heap} {r : Addr} (f : Obj → Obj) : Heap.ExtBut r h (h.update r f) := fun b o hb e => (Heap.get?_update_other _ _ (Ne.symm hb)).trans e
noncomputable def insF (x : Int) (y : Value) (xs : Array Value) : Array Value := (xs.extract 0 (if x < 0 then (x + (xs.size : Int)).toNat else min x.toNat xs.size)).push y ++ xs.extract (if x < 0 then (x + (xs.size : Int)).toNat else min x.toNat xs.size)
theorem m_insert' (l d : Addr) (vs : List Value) (n : Nat) (x : Int) (u : Tok) (y : Value) (h0 : 0 ≤ x) (hx : x ≤ vs.length) (hs1 : vs.length < 1000) :
    Meets (Builtin.«list.insert» ⟨[.ref l, .int x u, y], []⟩) (fun _ R s => s.heap.get? l = some (rowObj d vs n) ∧ R (.ok (.ret Value.none)) { s with heap := s.heap.update l (Obj.mapSeq (insF x y)), toks := s.toks }) :=
  @m_insert l d vs n x u y h0 hx hs1
section
variable {w : World} {A : Around} {E : Value → Shared → Prop} {s : Shared} {g : Heap} {L : Addr} {m : Str → Option Value} {r d : Addr} {vs : List Value} {n : Nat} {oL : Obj} {rest : List (Addr × Obj)} {u : Tok} {y : Value}
theorem row_update {vs' : List Value} (f : Array Value → Array Value) (F : Fr g L s.heap m) (N : News g L s.heap ((99, oL) :: (r, rowObj d vs n) :: rest)) (h99 : (99 : Addr) ≠ r) (hr : ∀ q ∈ rest, q.1 ≠ r) (hf : f vs.toArray = vs'.toArray) :
    ∃ n', Fr g L (s.heap.update r (Obj.mapSeq f)) m ∧ News g L (s.heap.update r (Obj.mapSeq f)) ((99, oL) :: (r, rowObj d vs' n') :: rest) := by
  have hrow := N _ (.tail _ (.head _))
  have e := Heap.get?_update_self (Obj.mapSeq f) hrow.1 rfl
  refine ⟨if vs'.toArray.size == vs.toArray.size then n else n + 1, fr_ext F hrow.2.2 (Ne.symm hrow.2.1) (upd_ext _), fun q hq => ?_⟩
  rcases List.mem_cons.mp hq with rfl | hq
  · exact ⟨upd_ext _ _ _ h99 (N _ (.head _)).1, (N _ (.head _)).2⟩
  · rcases List.mem_cons.mp hq with rfl | hq
    · refine ⟨?_, hrow.2⟩
      rw [e]
      show some (Obj.mapSeq f (rowObj d vs n)) = _
      simp only [Obj.mapSeq, rowObj, hf]
    · have z := N q (.tail _ (.tail _ hq))
      exact ⟨upd_ext _ _ _ (hr q hq) z.1, z.2⟩
theorem row_insert {x : Int} {Q : Value → Shared → Prop} (F : Fr g L s.heap m) (X : (hd.heap_1 w.params).In g) (N : News g L s.heap ((99, oL) :: (r, rowObj d vs n) :: rest)) (h99 : (99 : Addr) ≠ r) (hr : ∀ q ∈ rest, q.1 ≠ r) (h0 : 0 ≤ x) (hx : x ≤ vs.length) (h20 : vs.length < 1000)
    (hQ : ∀ h' n', Fr g L h' m → News g L h' ((99, oL) :: (r, rowObj d (vs.take x.toNat ++ y :: vs.drop x.toNat) n') :: rest) → Q .none { s with heap := h' }) :
    wpAny (model PP w) A (call (.builtin "list.insert") [.ref r, .int x u, y]) Q E s := by
  have ho := (N _ (.tail _ (.head _))).1
  have hk1 : builtinKind "list.insert" = some .method := by decide +kernel
  have hs1 : splitId "list.insert" = some ("list", "insert") := by decide +kernel
  have a1 := PySem.F.args_list_insert_3 (.ref r) (.int x u) y
  refine row_meets (X.keeps F.keep) ho (.inr hk1) hs1 PySem.F.slot_list_insert.plain PySem.F.entry_list_insert a1 (m_insert' r d vs n x u y h0 hx h20) ⟨ho, ?_⟩
  have hf : insF x y vs.toArray = (vs.take x.toNat ++ y :: vs.drop x.toNat).toArray := by
    have hj : (if x < 0 then (x + (vs.toArray.size : Int)).toNat else min x.toNat vs.toArray.size) = x.toNat := by
      rw [if_neg (by omega)]
      simp only [List.size_toArray]
      omega
    unfold insF
    rw [hj]
    apply Array.toList_inj.mp
    simp [List.drop_eq_nil_of_le, List.take_of_length_le]
  obtain ⟨n', F', N'⟩ := row_update _ F N h99 hr hf
  exact hQ _ n' F' N'
end
theorem placeLoop_some {many signs c k : Int} : ∀ (half : Nat), placeLoop many signs c half = some k → k = c := by
  intro half
  induction half using Nat.strongRecOn with
  | ind half ih =>
    intro h
    rw [placeLoop] at h
    split at h
    · cases h
    · split at h
      · exact (Option.some.inj h).symm
      · exact ih (half / 2) (by omega) h
theorem lawPlace_some {many signs c k : Int} (h : lawPlace many signs c = some k) (h0 : 0 ≤ c) (h1 : c ≤ many) (h2 : 0 ≤ signs) : 0 ≤ k ∧ k ≤ many ∧ k ≤ c := by
  unfold lawPlace at h
  split at h
  · have := Option.some.inj h
    omega
  · have := placeLoop_some _ h
    omega

local macro_rules | `(tactic| walk_at "getMethod ref") => `(tactic| refine Stop.go ?_)
local macro_rules | `(tactic| walk_at "call builtin:list.insert") => `(tactic| refine Stop.go ?_)

set_option maxHeartbeats 8000000 in
theorem il_none {w : World} {p : Program} {loose : List Str} {mean : ExcName → Option Value} {mg mb : Str → Option Value}
    {dp un : Nat} {gd : Option (List Code)} {cn : Str} {cs : Scope} {a : Addr} {ccd : Value} {cl : List (Str × Addr)} {outer : List Env} {A₀ : Around} {base h₀ : Heap} {L : Addr} {m : Str → Option Value} {s : Shared} {Q E : Value → Shared → Prop}
    {r d px : Addr} {vs : List Value} {n : Nat} {hs : Int} {tkd tsz u1 u2 u3 : Tok} {size : Int} {nd x : Nat} {oL : Obj} {tl : List (Addr × Obj)} {qs : List Nat} {c : Nat}
    (B : Below A₀ base outer h₀) (F : Fr h₀ L s.heap m) (X : (hd.heap_1 w.params).In h₀)
    (N : News h₀ L s.heap ((99, oL) :: (r, rowObj d vs n) :: (d, dObj hs tkd size tsz nd) :: tl)) (T : Top p loose mean mg mb h₀) (hk : cs.kind = .function)
    (hd1 : dp + 30 < recursionLimit) (hu1 : un + 140 < cLine)
    (ok : TabOk oL) (hsep : ∀ q ∈ tl, q.1 ≠ 99 ∧ q.1 ≠ r) (I : Led tl vs qs) (hB : AllBare s.gens) (h1 : 0 ≤ size) (h2 : size ≤ 2) (h3 : qs.length ≤ 20)
    (hpx : (px, pieceObj x u1 u2) ∈ tl) (hx : x < 7) (hc : c ≤ qs.length) (hcnt : ∀ j q, qs[j]? = some q → (q < x ↔ j < c))
    (hret : ∀ (k : Int) (n' : Nat) (s' : Shared) (oL' : Obj), lawPlace qs.length (size + (sumL qs : Nat)) c = some k → 0 ≤ k → k ≤ qs.length → Fr h₀ L s'.heap m → News h₀ L s'.heap ((99, oL') :: (r, rowObj d (vs.take k.toNat ++ .ref px :: vs.drop k.toNat) n') :: (d, dObj hs tkd size tsz nd) :: tl) → TabOk oL' → AllBare s'.gens → s'.os = s.os → Q .none s')
    (hraise : ∀ (g' : Heap) (e : Addr) (s' : Shared) (oL' : Obj), lawPlace qs.length (size + (sumL qs : Nat)) c = none → Fr h₀ L g' m → RaisedSN base g' (envX cn cs L a ccd cl :: outer) e (.type "IndexError") ((99, oL') :: (r, rowObj d vs n) :: (d, dObj hs tkd size tsz nd) :: tl) s'.heap →
      g'.UpToSlots s'.heap → TabOk oL' → AllBare s'.gens → s'.os = s.os → E (.ref e) s') :
    wpAny (model PP w) (ktrTop dp un gd cn cs L a ccd cl outer) (call (.ref 48) [.ref r, .ref px, .int 0 u3, .none]) Q E s := by
  have hl := sumL_le qs
  have hrne : r ≠ 99 := news_ne N ok (.head _) (.tail _ (.head _)) (by intro ps h; cases h)
  have hdne : d ≠ r := fun e => by
    have e1 := (N _ (.tail _ (.head _))).1
    have e2 := (N _ (.tail _ (.tail _ (.head _)))).1
    subst e
    cases Option.some.inj (e1.symm.trans e2)
  refine wpAny_call ?_
  (refine' code_def ?k1 ?k2 ?k3 ?k4 ?k5 ?kA ?kF ?kK ?k6 ?k7 ?k8 ?k9 ?kB ?_ ?c2 ?c3 ?c4 ?c5; (case kA => exact rfl); (case kF => exact rfl); (case kK => assumption); (case k1 => k_asm); (case k2 => k_asm); (case k3 => k_asm); (case k4 => k_asm); (case k5 => k_asm); (case k6 => k_is); (case k7 => k_is); (case k8 => ktr_room); (case k9 => (refine' kp_binds ?kx ?ke; (case kx => k_in); (case ke => exact fun _ => rfl))); (case c5 => decide); (case kB => exact locs rfl); (case c2 => exact rfl); (case c3 => exact rfl); (case c4 => exact rfl); k_whole; intro g' L' h' FG F' N' B' X' T'; (try dsimp only); (try k_lift B'); (try k_fold))
  k_steps
  show wpAny _ _ (call _ _ _) _ _ _
  refine bl_none4 (hi := 0) (u4 := 0) B' (by k_asm) X' (by k_asm) T' rfl ?_ ?_ ok (fun q hq => (hsep q hq).1) I hB h1 h2 h3 hpx hx hc hcnt ?_ ?_
  · exact room1 hd1 rfl
  · exact room1 hu1 rfl
  · intro k t s₂ oL₂ hk₂ F₂ N₂ ok₂ hB₂ hos₂
    have hb := lawPlace_some hk₂ (by omega) (by omega) (by omega)
    k_steps
    show wpAny _ _ (getMethod _ _ _) _ _ _
    refine row_meth (f := .builtin "list.insert") (tf := .type "method_descriptor") (by k_asm) X' (by k_asm) (.tail _ (.head _)) (.tail _ (.tail _ (.head _))) (by k_is) (by kernel_rfl) (by decide +kernel) (by decide) ?_
    k_steps
    show wpAny _ _ (call _ _ _) _ _ _
    refine row_insert (by k_asm) X' (by k_asm) (Ne.symm hrne) ?_ hb.1 (by rw [I.len]; omega) (by rw [I.len]; omega) ?_
    · intro q hq
      rcases List.mem_cons.mp hq with rfl | hq
      · exact hdne
      · exact (hsep q hq).2
    intro h₇ n₇ F₇ N₇
    k_steps
    exact hret _ _ _ _ hk₂ hb.1 hb.2.1 (by k_asm) (by k_asm) ok₂ hB₂ hos₂

  · intro g₂ e s₂ oL₂ hno FG₂ R up ok₂ hB₂ hos₂
    show wpAny _ _ (leaving _ _) _ _ _
    refine leave_onSN B' FG₂ R up ?_
    intro h₆ R₆ R₇ up₆
    exact hraise _ _ _ _ hno FG R₆ up₆ ok₂ hB₂ hos₂

set_option maxHeartbeats 8000000 in
theorem il_int {w : World} {p : Program} {loose : List Str} {mean : ExcName → Option Value} {mg mb : Str → Option Value}
    {dp un : Nat} {gd : Option (List Code)} {cn : Str} {cs : Scope} {a : Addr} {ccd : Value} {cl : List (Str × Addr)} {outer : List Env} {A₀ : Around} {base h₀ : Heap} {L : Addr} {m : Str → Option Value} {s : Shared} {Q E : Value → Shared → Prop}
    {r d px : Addr} {vs : List Value} {n : Nat} {hs : Int} {tkd tsz u1 u2 u3 u4 : Tok} {size hi : Int} {nd x : Nat} {oL : Obj} {tl : List (Addr × Obj)} {qs : List Nat} {c : Nat}
    (B : Below A₀ base outer h₀) (F : Fr h₀ L s.heap m) (X : (hd.heap_1 w.params).In h₀)
    (N : News h₀ L s.heap ((99, oL) :: (r, rowObj d vs n) :: (d, dObj hs tkd size tsz nd) :: tl)) (T : Top p loose mean mg mb h₀) (hk : cs.kind = .function)
    (hd1 : dp + 30 < recursionLimit) (hu1 : un + 140 < cLine)
    (ok : TabOk oL) (hsep : ∀ q ∈ tl, q.1 ≠ 99 ∧ q.1 ≠ r) (I : Led tl vs qs) (hB : AllBare s.gens) (h1 : 0 ≤ size) (h2 : size ≤ 2) (h3 : qs.length ≤ 20)
    (hpx : (px, pieceObj x u1 u2) ∈ tl) (hx : x < 7) (hc : c ≤ qs.length) (hcnt : ∀ j q, qs[j]? = some q → (q < x ↔ j < c)) (hh1 : 0 ≤ hi) (hh2 : hi ≤ 200)
    (hret : ∀ (k : Int) (n' : Nat) (s' : Shared) (oL' : Obj), lawPlace qs.length hi c = some k → 0 ≤ k → k ≤ qs.length → Fr h₀ L s'.heap m → News h₀ L s'.heap ((99, oL') :: (r, rowObj d (vs.take k.toNat ++ .ref px :: vs.drop k.toNat) n') :: (d, dObj hs tkd size tsz nd) :: tl) → TabOk oL' → AllBare s'.gens → s'.os = s.os → Q .none s')
    (hraise : ∀ (g' : Heap) (e : Addr) (s' : Shared) (oL' : Obj), lawPlace qs.length hi c = none → Fr h₀ L g' m → RaisedSN base g' (envX cn cs L a ccd cl :: outer) e (.type "IndexError") ((99, oL') :: (r, rowObj d vs n) :: (d, dObj hs tkd size tsz nd) :: tl) s'.heap →
      g'.UpToSlots s'.heap → TabOk oL' → AllBare s'.gens → s'.os = s.os → E (.ref e) s') :
    wpAny (model PP w) (ktrTop dp un gd cn cs L a ccd cl outer) (call (.ref 48) [.ref r, .ref px, .int 0 u3, .int hi u4]) Q E s := by
  have hl := sumL_le qs
  have hrne : r ≠ 99 := news_ne N ok (.head _) (.tail _ (.head _)) (by intro ps h; cases h)
  have hdne : d ≠ r := fun e => by
    have e1 := (N _ (.tail _ (.head _))).1
    have e2 := (N _ (.tail _ (.tail _ (.head _)))).1
    subst e
    cases Option.some.inj (e1.symm.trans e2)
  refine wpAny_call ?_
  (refine' code_def ?k1 ?k2 ?k3 ?k4 ?k5 ?kA ?kF ?kK ?k6 ?k7 ?k8 ?k9 ?kB ?_ ?c2 ?c3 ?c4 ?c5; (case kA => exact rfl); (case kF => exact rfl); (case kK => assumption); (case k1 => k_asm); (case k2 => k_asm); (case k3 => k_asm); (case k4 => k_asm); (case k5 => k_asm); (case k6 => k_is); (case k7 => k_is); (case k8 => ktr_room); (case k9 => (refine' kp_binds ?kx ?ke; (case kx => k_in); (case ke => exact fun _ => rfl))); (case c5 => decide); (case kB => exact locs rfl); (case c2 => exact rfl); (case c3 => exact rfl); (case c4 => exact rfl); k_whole; intro g' L' h' FG F' N' B' X' T'; (try dsimp only); (try k_lift B'); (try k_fold))
  k_steps
  show wpAny _ _ (call _ _ _) _ _ _
  refine bl_int4 B' (by k_asm) X' (by k_asm) T' rfl ?_ ?_ ok (fun q hq => (hsep q hq).1) I hB h1 h2 h3 hpx hx hc hcnt hh1 hh2 ?_ ?_
  · exact room1 hd1 rfl
  · exact room1 hu1 rfl
  · intro k t s₂ oL₂ hk₂ F₂ N₂ ok₂ hB₂ hos₂
    have hb := lawPlace_some hk₂ (by omega) (by omega) (by omega)
    k_steps
    show wpAny _ _ (getMethod _ _ _) _ _ _
    refine row_meth (f := .builtin "list.insert") (tf := .type "method_descriptor") (by k_asm) X' (by k_asm) (.tail _ (.head _)) (.tail _ (.tail _ (.head _))) (by k_is) (by kernel_rfl) (by decide +kernel) (by decide) ?_
    k_steps
    show wpAny _ _ (call _ _ _) _ _ _
    refine row_insert (by k_asm) X' (by k_asm) (Ne.symm hrne) ?_ hb.1 (by rw [I.len]; omega) (by rw [I.len]; omega) ?_
    · intro q hq
      rcases List.mem_cons.mp hq with rfl | hq
      · exact hdne
      · exact (hsep q hq).2
    intro h₇ n₇ F₇ N₇
    k_steps
    exact hret _ _ _ _ hk₂ hb.1 hb.2.1 (by k_asm) (by k_asm) ok₂ hB₂ hos₂

  · intro g₂ e s₂ oL₂ hno FG₂ R up ok₂ hB₂ hos₂
    show wpAny _ _ (leaving _ _) _ _ _
    refine leave_onSN B' FG₂ R up ?_
    intro h₆ R₆ R₇ up₆
    exact hraise _ _ _ _ hno FG R₆ up₆ ok₂ hB₂ hos₂

set_option maxHeartbeats 8000000 in
theorem ir_none {w : World} {p : Program} {loose : List Str} {mean : ExcName → Option Value} {mg mb : Str → Option Value}
    {dp un : Nat} {gd : Option (List Code)} {cn : Str} {cs : Scope} {a : Addr} {ccd : Value} {cl : List (Str × Addr)} {outer : List Env} {A₀ : Around} {base h₀ : Heap} {L : Addr} {m : Str → Option Value} {s : Shared} {Q E : Value → Shared → Prop}
    {r d px : Addr} {vs : List Value} {n : Nat} {hs : Int} {tkd tsz u1 u2 u3 : Tok} {size : Int} {nd x : Nat} {oL : Obj} {tl : List (Addr × Obj)} {qs : List Nat} {c : Nat}
    (B : Below A₀ base outer h₀) (F : Fr h₀ L s.heap m) (X : (hd.heap_1 w.params).In h₀)
    (N : News h₀ L s.heap ((99, oL) :: (r, rowObj d vs n) :: (d, dObj hs tkd size tsz nd) :: tl)) (T : Top p loose mean mg mb h₀) (hk : cs.kind = .function)
    (hd1 : dp + 30 < recursionLimit) (hu1 : un + 140 < cLine)
    (ok : TabOk oL) (hsep : ∀ q ∈ tl, q.1 ≠ 99 ∧ q.1 ≠ r) (I : Led tl vs qs) (hB : AllBare s.gens) (h1 : 0 ≤ size) (h2 : size ≤ 2) (h3 : qs.length ≤ 20)
    (hpx : (px, pieceObj x u1 u2) ∈ tl) (hx : x < 7) (hc : c ≤ qs.length) (hcnt : ∀ j q, qs[j]? = some q → (q ≤ x ↔ j < c))
    (hret : ∀ (k : Int) (n' : Nat) (s' : Shared) (oL' : Obj), lawPlace qs.length (size + (sumL qs : Nat)) c = some k → 0 ≤ k → k ≤ qs.length → Fr h₀ L s'.heap m → News h₀ L s'.heap ((99, oL') :: (r, rowObj d (vs.take k.toNat ++ .ref px :: vs.drop k.toNat) n') :: (d, dObj hs tkd size tsz nd) :: tl) → TabOk oL' → AllBare s'.gens → s'.os = s.os → Q .none s')
    (hraise : ∀ (g' : Heap) (e : Addr) (s' : Shared) (oL' : Obj), lawPlace qs.length (size + (sumL qs : Nat)) c = none → Fr h₀ L g' m → RaisedSN base g' (envX cn cs L a ccd cl :: outer) e (.type "IndexError") ((99, oL') :: (r, rowObj d vs n) :: (d, dObj hs tkd size tsz nd) :: tl) s'.heap →
      g'.UpToSlots s'.heap → TabOk oL' → AllBare s'.gens → s'.os = s.os → E (.ref e) s') :
    wpAny (model PP w) (ktrTop dp un gd cn cs L a ccd cl outer) (call (.ref 30) [.ref r, .ref px, .int 0 u3, .none]) Q E s := by
  have hl := sumL_le qs
  have hrne : r ≠ 99 := news_ne N ok (.head _) (.tail _ (.head _)) (by intro ps h; cases h)
  have hdne : d ≠ r := fun e => by
    have e1 := (N _ (.tail _ (.head _))).1
    have e2 := (N _ (.tail _ (.tail _ (.head _)))).1
    subst e
    cases Option.some.inj (e1.symm.trans e2)
  refine wpAny_call ?_
  (refine' code_def ?k1 ?k2 ?k3 ?k4 ?k5 ?kA ?kF ?kK ?k6 ?k7 ?k8 ?k9 ?kB ?_ ?c2 ?c3 ?c4 ?c5; (case kA => exact rfl); (case kF => exact rfl); (case kK => assumption); (case k1 => k_asm); (case k2 => k_asm); (case k3 => k_asm); (case k4 => k_asm); (case k5 => k_asm); (case k6 => k_is); (case k7 => k_is); (case k8 => ktr_room); (case k9 => (refine' kp_binds ?kx ?ke; (case kx => k_in); (case ke => exact fun _ => rfl))); (case c5 => decide); (case kB => exact locs rfl); (case c2 => exact rfl); (case c3 => exact rfl); (case c4 => exact rfl); k_whole; intro g' L' h' FG F' N' B' X' T'; (try dsimp only); (try k_lift B'); (try k_fold))
  k_steps
  show wpAny _ _ (call _ _ _) _ _ _
  refine br_none4 (hi := 0) (u4 := 0) B' (by k_asm) X' (by k_asm) T' rfl ?_ ?_ ok (fun q hq => (hsep q hq).1) I hB h1 h2 h3 hpx hx hc hcnt ?_ ?_
  · exact room1 hd1 rfl
  · exact room1 hu1 rfl
  · intro k t s₂ oL₂ hk₂ F₂ N₂ ok₂ hB₂ hos₂
    have hb := lawPlace_some hk₂ (by omega) (by omega) (by omega)
    k_steps
    show wpAny _ _ (getMethod _ _ _) _ _ _
    refine row_meth (f := .builtin "list.insert") (tf := .type "method_descriptor") (by k_asm) X' (by k_asm) (.tail _ (.head _)) (.tail _ (.tail _ (.head _))) (by k_is) (by kernel_rfl) (by decide +kernel) (by decide) ?_
    k_steps
    show wpAny _ _ (call _ _ _) _ _ _
    refine row_insert (by k_asm) X' (by k_asm) (Ne.symm hrne) ?_ hb.1 (by rw [I.len]; omega) (by rw [I.len]; omega) ?_
    · intro q hq
      rcases List.mem_cons.mp hq with rfl | hq
      · exact hdne
      · exact (hsep q hq).2
    intro h₇ n₇ F₇ N₇
    k_steps
    exact hret _ _ _ _ hk₂ hb.1 hb.2.1 (by k_asm) (by k_asm) ok₂ hB₂ hos₂

  · intro g₂ e s₂ oL₂ hno FG₂ R up ok₂ hB₂ hos₂
    show wpAny _ _ (leaving _ _) _ _ _
    refine leave_onSN B' FG₂ R up ?_
    intro h₆ R₆ R₇ up₆
    exact hraise _ _ _ _ hno FG R₆ up₆ ok₂ hB₂ hos₂

set_option maxHeartbeats 8000000 in
theorem ir_int {w : World} {p : Program} {loose : List Str} {mean : ExcName → Option Value} {mg mb : Str → Option Value}
    {dp un : Nat} {gd : Option (List Code)} {cn : Str} {cs : Scope} {a : Addr} {ccd : Value} {cl : List (Str × Addr)} {outer : List Env} {A₀ : Around} {base h₀ : Heap} {L : Addr} {m : Str → Option Value} {s : Shared} {Q E : Value → Shared → Prop}
    {r d px : Addr} {vs : List Value} {n : Nat} {hs : Int} {tkd tsz u1 u2 u3 u4 : Tok} {size hi : Int} {nd x : Nat} {oL : Obj} {tl : List (Addr × Obj)} {qs : List Nat} {c : Nat}
    (B : Below A₀ base outer h₀) (F : Fr h₀ L s.heap m) (X : (hd.heap_1 w.params).In h₀)
    (N : News h₀ L s.heap ((99, oL) :: (r, rowObj d vs n) :: (d, dObj hs tkd size tsz nd) :: tl)) (T : Top p loose mean mg mb h₀) (hk : cs.kind = .function)
    (hd1 : dp + 30 < recursionLimit) (hu1 : un + 140 < cLine)
    (ok : TabOk oL) (hsep : ∀ q ∈ tl, q.1 ≠ 99 ∧ q.1 ≠ r) (I : Led tl vs qs) (hB : AllBare s.gens) (h1 : 0 ≤ size) (h2 : size ≤ 2) (h3 : qs.length ≤ 20)
    (hpx : (px, pieceObj x u1 u2) ∈ tl) (hx : x < 7) (hc : c ≤ qs.length) (hcnt : ∀ j q, qs[j]? = some q → (q ≤ x ↔ j < c)) (hh1 : 0 ≤ hi) (hh2 : hi ≤ 200)
    (hret : ∀ (k : Int) (n' : Nat) (s' : Shared) (oL' : Obj), lawPlace qs.length hi c = some k → 0 ≤ k → k ≤ qs.length → Fr h₀ L s'.heap m → News h₀ L s'.heap ((99, oL') :: (r, rowObj d (vs.take k.toNat ++ .ref px :: vs.drop k.toNat) n') :: (d, dObj hs tkd size tsz nd) :: tl) → TabOk oL' → AllBare s'.gens → s'.os = s.os → Q .none s')
    (hraise : ∀ (g' : Heap) (e : Addr) (s' : Shared) (oL' : Obj), lawPlace qs.length hi c = none → Fr h₀ L g' m → RaisedSN base g' (envX cn cs L a ccd cl :: outer) e (.type "IndexError") ((99, oL') :: (r, rowObj d vs n) :: (d, dObj hs tkd size tsz nd) :: tl) s'.heap →
      g'.UpToSlots s'.heap → TabOk oL' → AllBare s'.gens → s'.os = s.os → E (.ref e) s') :
    wpAny (model PP w) (ktrTop dp un gd cn cs L a ccd cl outer) (call (.ref 30) [.ref r, .ref px, .int 0 u3, .int hi u4]) Q E s := by
  have hl := sumL_le qs
  have hrne : r ≠ 99 := news_ne N ok (.head _) (.tail _ (.head _)) (by intro ps h; cases h)
  have hdne : d ≠ r := fun e => by
    have e1 := (N _ (.tail _ (.head _))).1
    have e2 := (N _ (.tail _ (.tail _ (.head _)))).1
    subst e
    cases Option.some.inj (e1.symm.trans e2)
  refine wpAny_call ?_
  (refine' code_def ?k1 ?k2 ?k3 ?k4 ?k5 ?kA ?kF ?kK ?k6 ?k7 ?k8 ?k9 ?kB ?_ ?c2 ?c3 ?c4 ?c5; (case kA => exact rfl); (case kF => exact rfl); (case kK => assumption); (case k1 => k_asm); (case k2 => k_asm); (case k3 => k_asm); (case k4 => k_asm); (case k5 => k_asm); (case k6 => k_is); (case k7 => k_is); (case k8 => ktr_room); (case k9 => (refine' kp_binds ?kx ?ke; (case kx => k_in); (case ke => exact fun _ => rfl))); (case c5 => decide); (case kB => exact locs rfl); (case c2 => exact rfl); (case c3 => exact rfl); (case c4 => exact rfl); k_whole; intro g' L' h' FG F' N' B' X' T'; (try dsimp only); (try k_lift B'); (try k_fold))
  k_steps
  show wpAny _ _ (call _ _ _) _ _ _
  refine br_int4 B' (by k_asm) X' (by k_asm) T' rfl ?_ ?_ ok (fun q hq => (hsep q hq).1) I hB h1 h2 h3 hpx hx hc hcnt hh1 hh2 ?_ ?_
  · exact room1 hd1 rfl
  · exact room1 hu1 rfl
  · intro k t s₂ oL₂ hk₂ F₂ N₂ ok₂ hB₂ hos₂
    have hb := lawPlace_some hk₂ (by omega) (by omega) (by omega)
    k_steps
    show wpAny _ _ (getMethod _ _ _) _ _ _
    refine row_meth (f := .builtin "list.insert") (tf := .type "method_descriptor") (by k_asm) X' (by k_asm) (.tail _ (.head _)) (.tail _ (.tail _ (.head _))) (by k_is) (by kernel_rfl) (by decide +kernel) (by decide) ?_
    k_steps
    show wpAny _ _ (call _ _ _) _ _ _
    refine row_insert (by k_asm) X' (by k_asm) (Ne.symm hrne) ?_ hb.1 (by rw [I.len]; omega) (by rw [I.len]; omega) ?_
    · intro q hq
      rcases List.mem_cons.mp hq with rfl | hq
      · exact hdne
      · exact (hsep q hq).2
    intro h₇ n₇ F₇ N₇
    k_steps
    exact hret _ _ _ _ hk₂ hb.1 hb.2.1 (by k_asm) (by k_asm) ok₂ hB₂ hos₂

  · intro g₂ e s₂ oL₂ hno FG₂ R up ok₂ hB₂ hos₂
    show wpAny _ _ (leaving _ _) _ _ _
    refine leave_onSN B' FG₂ R up ?_
    intro h₆ R₆ R₇ up₆
    exact hraise _ _ _ _ hno FG R₆ up₆ ok₂ hB₂ hos₂
end
theorem freshLaidW : True := by
  w_top off
  k_with_none
  trivial
section
set_option maxRecDepth 100000

set_option maxHeartbeats 8000000 in
theorem laid_ln {w : World} {p : Program} {loose : List Str} {mean : ExcName → Option Value} {mg mb : Str → Option Value}
    {dp un : Nat} {gd : Option (List Code)} {cn : Str} {cs : Scope} {a : Addr} {ccd : Value} {cl : List (Str × Addr)} {A₀ : Around} {base h₀ : Heap} {L : Addr} {m : Str → Option Value} {s : Shared} {Q E : Value → Shared → Prop}
    {r d px : Addr} {vs : List Value} {n : Nat} {hs : Int} {tkd tsz u1 u2 : Tok} {size : Int} {nd x : Nat} {oL : Obj} {tl : List (Addr × Obj)} {qs : List Nat} {c : Nat}
    (B : Below A₀ base [] h₀) (XB : (hd.heap_1 w.params).In base) (TB : Top p loose mean mg mb base) (F : Fr h₀ L s.heap m) (X : (hd.heap_1 w.params).In h₀)
    (N : News h₀ L s.heap ((99, oL) :: (r, rowObj d vs n) :: (d, dObj hs tkd size tsz nd) :: tl)) (T : Top p loose mean mg mb h₀) (hk : cs.kind = .function)
    (hd1 : dp + 40 < recursionLimit) (hu1 : un + 180 < cLine)
    (ok : TabOk oL) (hsep : ∀ q ∈ tl, q.1 ≠ 99 ∧ q.1 ≠ r) (I : Led tl vs qs) (hB : AllBare s.gens) (h1 : 0 ≤ size) (h2 : size ≤ 2) (h3 : qs.length ≤ 20)
    (hpx : (px, pieceObj x u1 u2) ∈ tl) (hx : x < 7) (hc : c ≤ qs.length) (hcnt : ∀ j q, qs[j]? = some q → (q < x ↔ j < c))
    (hret : ∀ (k : Int) (n' : Nat) (s' : Shared) (oL' : Obj), lawPlace qs.length (size + (sumL qs : Nat)) c = some k → 0 ≤ k → k ≤ qs.length → Fr h₀ L s'.heap m → News h₀ L s'.heap ((99, oL') :: (r, rowObj d (vs.take k.toNat ++ .ref px :: vs.drop k.toNat) n') :: (d, dObj hs tkd size tsz nd) :: tl) → TabOk oL' → AllBare s'.gens → s'.os = s.os → Q (.bool true) s')
    (hno : ∀ (s' : Shared) (oL' : Obj), lawPlace qs.length (size + (sumL qs : Nat)) c = none → Fr h₀ L s'.heap m → News h₀ L s'.heap ((99, oL') :: (r, rowObj d vs n) :: (d, dObj hs tkd size tsz nd) :: tl) → TabOk oL' → AllBare s'.gens → s'.os = s.os → Q (.bool false) s') :
    wpAny (model PP w) (ktrTop dp un gd cn cs L a ccd cl []) (call (.ref 169) [.ref r, .ref px, .bool true, .none]) Q E s := by
  refine wpAny_call ?_
  (refine' call_try ?k1 ?k2 ?k3 ?k4 ?k5 ?kA ?kF ?kK ?k6 ?k7 ?k8 ?k9 ?kB ?_ ?c2 ?c3 ?c4 ?c5; (case kA => exact rfl); (case kF => exact rfl); (case kK => assumption); (case k1 => k_asm); (case k2 => k_asm); (case k3 => k_asm); (case k4 => k_asm); (case k5 => k_asm); (case k6 => k_is); (case k7 => k_is); (case k8 => ktr_room); (case k9 => exact BindsTo.of_eq rfl); (case c5 => decide); (case kB => exact locs rfl); (case c2 => exact rfl); (case c3 => exact rfl); (case c4 => exact rfl); k_whole; intro g' L' h' FG F' N' B' X' T' D'; (try dsimp only); (try k_lift B'); (try k_fold))
  k_steps
  show wpAny _ _ (call _ _ _) _ _ _
  refine il_none B' (by k_asm) X' (by k_asm) T' rfl ?_ ?_ ok hsep I hB h1 h2 h3 hpx hx hc hcnt ?_ ?_
  · exact room1 hd1 rfl
  · exact room1 hu1 rfl
  · intro k n₂ s₂ oL₂ hk₂ hk0 hk1 F₂ N₂ ok₂ hB₂ hos₂
    k_steps
    exact hret _ _ _ _ hk₂ hk0 hk1 (by k_asm) (by k_asm) ok₂ hB₂ hos₂
  · intro g₂ e s₂ oL₂ hno₂ FG₂ R up ok₂ hB₂ hos₂
    refine' caught_SN0 (T' := "IndexError") R FG₂ B' up XB TB D' KtsTurn.refl ?ex PyProof.Rows.Boot.«IndexError» ?hn PySem.F.isExc_IndexError PySem.F.notTuple_IndexError ?hs ?_
    (case ex => k_is)
    (case hn => decide)
    (case hs => kts_sub)
    intro h₃ g₃ T₃ F₃ N₃ K₃ X₃ P₃ D₃
    k_steps
    exact hno _ _ hno₂ (by k_asm) (by k_asm) ok₂ hB₂ hos₂

set_option maxHeartbeats 8000000 in
theorem laid_li {w : World} {p : Program} {loose : List Str} {mean : ExcName → Option Value} {mg mb : Str → Option Value}
    {dp un : Nat} {gd : Option (List Code)} {cn : Str} {cs : Scope} {a : Addr} {ccd : Value} {cl : List (Str × Addr)} {A₀ : Around} {base h₀ : Heap} {L : Addr} {m : Str → Option Value} {s : Shared} {Q E : Value → Shared → Prop}
    {r d px : Addr} {vs : List Value} {n : Nat} {hs : Int} {tkd tsz u1 u2 u4 : Tok} {size hi : Int} {nd x : Nat} {oL : Obj} {tl : List (Addr × Obj)} {qs : List Nat} {c : Nat}
    (B : Below A₀ base [] h₀) (XB : (hd.heap_1 w.params).In base) (TB : Top p loose mean mg mb base) (F : Fr h₀ L s.heap m) (X : (hd.heap_1 w.params).In h₀)
    (N : News h₀ L s.heap ((99, oL) :: (r, rowObj d vs n) :: (d, dObj hs tkd size tsz nd) :: tl)) (T : Top p loose mean mg mb h₀) (hk : cs.kind = .function)
    (hd1 : dp + 40 < recursionLimit) (hu1 : un + 180 < cLine)
    (ok : TabOk oL) (hsep : ∀ q ∈ tl, q.1 ≠ 99 ∧ q.1 ≠ r) (I : Led tl vs qs) (hB : AllBare s.gens) (h1 : 0 ≤ size) (h2 : size ≤ 2) (h3 : qs.length ≤ 20)
    (hpx : (px, pieceObj x u1 u2) ∈ tl) (hx : x < 7) (hc : c ≤ qs.length) (hcnt : ∀ j q, qs[j]? = some q → (q < x ↔ j < c)) (hh1 : 0 ≤ hi) (hh2 : hi ≤ 200)
    (hret : ∀ (k : Int) (n' : Nat) (s' : Shared) (oL' : Obj), lawPlace qs.length hi c = some k → 0 ≤ k → k ≤ qs.length → Fr h₀ L s'.heap m → News h₀ L s'.heap ((99, oL') :: (r, rowObj d (vs.take k.toNat ++ .ref px :: vs.drop k.toNat) n') :: (d, dObj hs tkd size tsz nd) :: tl) → TabOk oL' → AllBare s'.gens → s'.os = s.os → Q (.bool true) s')
    (hno : ∀ (s' : Shared) (oL' : Obj), lawPlace qs.length hi c = none → Fr h₀ L s'.heap m → News h₀ L s'.heap ((99, oL') :: (r, rowObj d vs n) :: (d, dObj hs tkd size tsz nd) :: tl) → TabOk oL' → AllBare s'.gens → s'.os = s.os → Q (.bool false) s') :
    wpAny (model PP w) (ktrTop dp un gd cn cs L a ccd cl []) (call (.ref 169) [.ref r, .ref px, .bool true, .int hi u4]) Q E s := by
  refine wpAny_call ?_
  (refine' call_try ?k1 ?k2 ?k3 ?k4 ?k5 ?kA ?kF ?kK ?k6 ?k7 ?k8 ?k9 ?kB ?_ ?c2 ?c3 ?c4 ?c5; (case kA => exact rfl); (case kF => exact rfl); (case kK => assumption); (case k1 => k_asm); (case k2 => k_asm); (case k3 => k_asm); (case k4 => k_asm); (case k5 => k_asm); (case k6 => k_is); (case k7 => k_is); (case k8 => ktr_room); (case k9 => exact BindsTo.of_eq rfl); (case c5 => decide); (case kB => exact locs rfl); (case c2 => exact rfl); (case c3 => exact rfl); (case c4 => exact rfl); k_whole; intro g' L' h' FG F' N' B' X' T' D'; (try dsimp only); (try k_lift B'); (try k_fold))
  k_steps
  show wpAny _ _ (call _ _ _) _ _ _
  refine il_int B' (by k_asm) X' (by k_asm) T' rfl ?_ ?_ ok hsep I hB h1 h2 h3 hpx hx hc hcnt hh1 hh2 ?_ ?_
  · exact room1 hd1 rfl
  · exact room1 hu1 rfl
  · intro k n₂ s₂ oL₂ hk₂ hk0 hk1 F₂ N₂ ok₂ hB₂ hos₂
    k_steps
    exact hret _ _ _ _ hk₂ hk0 hk1 (by k_asm) (by k_asm) ok₂ hB₂ hos₂
  · intro g₂ e s₂ oL₂ hno₂ FG₂ R up ok₂ hB₂ hos₂
    refine' caught_SN0 (T' := "IndexError") R FG₂ B' up XB TB D' KtsTurn.refl ?ex PyProof.Rows.Boot.«IndexError» ?hn PySem.F.isExc_IndexError PySem.F.notTuple_IndexError ?hs ?_
    (case ex => k_is)
    (case hn => decide)
    (case hs => kts_sub)
    intro h₃ g₃ T₃ F₃ N₃ K₃ X₃ P₃ D₃
    k_steps
    exact hno _ _ hno₂ (by k_asm) (by k_asm) ok₂ hB₂ hos₂

set_option maxHeartbeats 8000000 in
theorem laid_rn {w : World} {p : Program} {loose : List Str} {mean : ExcName → Option Value} {mg mb : Str → Option Value}
    {dp un : Nat} {gd : Option (List Code)} {cn : Str} {cs : Scope} {a : Addr} {ccd : Value} {cl : List (Str × Addr)} {A₀ : Around} {base h₀ : Heap} {L : Addr} {m : Str → Option Value} {s : Shared} {Q E : Value → Shared → Prop}
    {r d px : Addr} {vs : List Value} {n : Nat} {hs : Int} {tkd tsz u1 u2 : Tok} {size : Int} {nd x : Nat} {oL : Obj} {tl : List (Addr × Obj)} {qs : List Nat} {c : Nat}
    (B : Below A₀ base [] h₀) (XB : (hd.heap_1 w.params).In base) (TB : Top p loose mean mg mb base) (F : Fr h₀ L s.heap m) (X : (hd.heap_1 w.params).In h₀)
    (N : News h₀ L s.heap ((99, oL) :: (r, rowObj d vs n) :: (d, dObj hs tkd size tsz nd) :: tl)) (T : Top p loose mean mg mb h₀) (hk : cs.kind = .function)
    (hd1 : dp + 40 < recursionLimit) (hu1 : un + 180 < cLine)
    (ok : TabOk oL) (hsep : ∀ q ∈ tl, q.1 ≠ 99 ∧ q.1 ≠ r) (I : Led tl vs qs) (hB : AllBare s.gens) (h1 : 0 ≤ size) (h2 : size ≤ 2) (h3 : qs.length ≤ 20)
    (hpx : (px, pieceObj x u1 u2) ∈ tl) (hx : x < 7) (hc : c ≤ qs.length) (hcnt : ∀ j q, qs[j]? = some q → (q ≤ x ↔ j < c))
    (hret : ∀ (k : Int) (n' : Nat) (s' : Shared) (oL' : Obj), lawPlace qs.length (size + (sumL qs : Nat)) c = some k → 0 ≤ k → k ≤ qs.length → Fr h₀ L s'.heap m → News h₀ L s'.heap ((99, oL') :: (r, rowObj d (vs.take k.toNat ++ .ref px :: vs.drop k.toNat) n') :: (d, dObj hs tkd size tsz nd) :: tl) → TabOk oL' → AllBare s'.gens → s'.os = s.os → Q (.bool true) s')
    (hno : ∀ (s' : Shared) (oL' : Obj), lawPlace qs.length (size + (sumL qs : Nat)) c = none → Fr h₀ L s'.heap m → News h₀ L s'.heap ((99, oL') :: (r, rowObj d vs n) :: (d, dObj hs tkd size tsz nd) :: tl) → TabOk oL' → AllBare s'.gens → s'.os = s.os → Q (.bool false) s') :
    wpAny (model PP w) (ktrTop dp un gd cn cs L a ccd cl []) (call (.ref 169) [.ref r, .ref px, .bool false, .none]) Q E s := by
  refine wpAny_call ?_
  (refine' call_try ?k1 ?k2 ?k3 ?k4 ?k5 ?kA ?kF ?kK ?k6 ?k7 ?k8 ?k9 ?kB ?_ ?c2 ?c3 ?c4 ?c5; (case kA => exact rfl); (case kF => exact rfl); (case kK => assumption); (case k1 => k_asm); (case k2 => k_asm); (case k3 => k_asm); (case k4 => k_asm); (case k5 => k_asm); (case k6 => k_is); (case k7 => k_is); (case k8 => ktr_room); (case k9 => exact BindsTo.of_eq rfl); (case c5 => decide); (case kB => exact locs rfl); (case c2 => exact rfl); (case c3 => exact rfl); (case c4 => exact rfl); k_whole; intro g' L' h' FG F' N' B' X' T' D'; (try dsimp only); (try k_lift B'); (try k_fold))
  k_steps
  show wpAny _ _ (call _ _ _) _ _ _
  refine ir_none B' (by k_asm) X' (by k_asm) T' rfl ?_ ?_ ok hsep I hB h1 h2 h3 hpx hx hc hcnt ?_ ?_
  · exact room1 hd1 rfl
  · exact room1 hu1 rfl
  · intro k n₂ s₂ oL₂ hk₂ hk0 hk1 F₂ N₂ ok₂ hB₂ hos₂
    k_steps
    exact hret _ _ _ _ hk₂ hk0 hk1 (by k_asm) (by k_asm) ok₂ hB₂ hos₂
  · intro g₂ e s₂ oL₂ hno₂ FG₂ R up ok₂ hB₂ hos₂
    refine' caught_SN0 (T' := "IndexError") R FG₂ B' up XB TB D' KtsTurn.refl ?ex PyProof.Rows.Boot.«IndexError» ?hn PySem.F.isExc_IndexError PySem.F.notTuple_IndexError ?hs ?_
    (case ex => k_is)
    (case hn => decide)
    (case hs => kts_sub)
    intro h₃ g₃ T₃ F₃ N₃ K₃ X₃ P₃ D₃
    k_steps
    exact hno _ _ hno₂ (by k_asm) (by k_asm) ok₂ hB₂ hos₂

set_option maxHeartbeats 8000000 in
theorem laid_ri {w : World} {p : Program} {loose : List Str} {mean : ExcName → Option Value} {mg mb : Str → Option Value}
    {dp un : Nat} {gd : Option (List Code)} {cn : Str} {cs : Scope} {a : Addr} {ccd : Value} {cl : List (Str × Addr)} {A₀ : Around} {base h₀ : Heap} {L : Addr} {m : Str → Option Value} {s : Shared} {Q E : Value → Shared → Prop}
    {r d px : Addr} {vs : List Value} {n : Nat} {hs : Int} {tkd tsz u1 u2 u4 : Tok} {size hi : Int} {nd x : Nat} {oL : Obj} {tl : List (Addr × Obj)} {qs : List Nat} {c : Nat}
    (B : Below A₀ base [] h₀) (XB : (hd.heap_1 w.params).In base) (TB : Top p loose mean mg mb base) (F : Fr h₀ L s.heap m) (X : (hd.heap_1 w.params).In h₀)
    (N : News h₀ L s.heap ((99, oL) :: (r, rowObj d vs n) :: (d, dObj hs tkd size tsz nd) :: tl)) (T : Top p loose mean mg mb h₀) (hk : cs.kind = .function)
    (hd1 : dp + 40 < recursionLimit) (hu1 : un + 180 < cLine)
    (ok : TabOk oL) (hsep : ∀ q ∈ tl, q.1 ≠ 99 ∧ q.1 ≠ r) (I : Led tl vs qs) (hB : AllBare s.gens) (h1 : 0 ≤ size) (h2 : size ≤ 2) (h3 : qs.length ≤ 20)
    (hpx : (px, pieceObj x u1 u2) ∈ tl) (hx : x < 7) (hc : c ≤ qs.length) (hcnt : ∀ j q, qs[j]? = some q → (q ≤ x ↔ j < c)) (hh1 : 0 ≤ hi) (hh2 : hi ≤ 200)
    (hret : ∀ (k : Int) (n' : Nat) (s' : Shared) (oL' : Obj), lawPlace qs.length hi c = some k → 0 ≤ k → k ≤ qs.length → Fr h₀ L s'.heap m → News h₀ L s'.heap ((99, oL') :: (r, rowObj d (vs.take k.toNat ++ .ref px :: vs.drop k.toNat) n') :: (d, dObj hs tkd size tsz nd) :: tl) → TabOk oL' → AllBare s'.gens → s'.os = s.os → Q (.bool true) s')
    (hno : ∀ (s' : Shared) (oL' : Obj), lawPlace qs.length hi c = none → Fr h₀ L s'.heap m → News h₀ L s'.heap ((99, oL') :: (r, rowObj d vs n) :: (d, dObj hs tkd size tsz nd) :: tl) → TabOk oL' → AllBare s'.gens → s'.os = s.os → Q (.bool false) s') :
    wpAny (model PP w) (ktrTop dp un gd cn cs L a ccd cl []) (call (.ref 169) [.ref r, .ref px, .bool false, .int hi u4]) Q E s := by
  refine wpAny_call ?_
  (refine' call_try ?k1 ?k2 ?k3 ?k4 ?k5 ?kA ?kF ?kK ?k6 ?k7 ?k8 ?k9 ?kB ?_ ?c2 ?c3 ?c4 ?c5; (case kA => exact rfl); (case kF => exact rfl); (case kK => assumption); (case k1 => k_asm); (case k2 => k_asm); (case k3 => k_asm); (case k4 => k_asm); (case k5 => k_asm); (case k6 => k_is); (case k7 => k_is); (case k8 => ktr_room); (case k9 => exact BindsTo.of_eq rfl); (case c5 => decide); (case kB => exact locs rfl); (case c2 => exact rfl); (case c3 => exact rfl); (case c4 => exact rfl); k_whole; intro g' L' h' FG F' N' B' X' T' D'; (try dsimp only); (try k_lift B'); (try k_fold))
  k_steps
  show wpAny _ _ (call _ _ _) _ _ _
  refine ir_int B' (by k_asm) X' (by k_asm) T' rfl ?_ ?_ ok hsep I hB h1 h2 h3 hpx hx hc hcnt hh1 hh2 ?_ ?_
  · exact room1 hd1 rfl
  · exact room1 hu1 rfl
  · intro k n₂ s₂ oL₂ hk₂ hk0 hk1 F₂ N₂ ok₂ hB₂ hos₂
    k_steps
    exact hret _ _ _ _ hk₂ hk0 hk1 (by k_asm) (by k_asm) ok₂ hB₂ hos₂
  · intro g₂ e s₂ oL₂ hno₂ FG₂ R up ok₂ hB₂ hos₂
    refine' caught_SN0 (T' := "IndexError") R FG₂ B' up XB TB D' KtsTurn.refl ?ex PyProof.Rows.Boot.«IndexError» ?hn PySem.F.isExc_IndexError PySem.F.notTuple_IndexError ?hs ?_
    (case ex => k_is)
    (case hn => decide)
    (case hs => kts_sub)
    intro h₃ g₃ T₃ F₃ N₃ K₃ X₃ P₃ D₃
    k_steps
    exact hno _ _ hno₂ (by k_asm) (by k_asm) ok₂ hB₂ hos₂
end
end
theorem freshSupB : True := by
  w_top off
  k_with_none
  trivial
section
set_option maxRecDepth 100000
noncomputable abbrev bObj (bt id : String) (r : Addr) : Obj := { cls := .type bt, data := .fields #[.builtin id, .ref r] }

theorem slot_wrapper_descriptor : Slot "wrapper_descriptor" "__get__" "wrapper_descriptor.__get__" :=
  .of (owner := "wrapper_descriptor") (n := "__get__") (by rw [typeLookup_type, builtinLookup_eq_fast]; kernel_rfl) (by decide +kernel) (by decide +kernel) (by decide +kernel)
    (by first | exact .inl (by decide +kernel) | exact .inr (by decide +kernel)) (by rw [isSubtype_type]; kernel_rfl)
theorem entry_wrapper_descriptor : entryFor table "wrapper_descriptor.__get__" = some Builtin.«wrapper_descriptor.__get__» := entryFor_of_tree (by kernel_rfl)
theorem args_wrapper_descriptor (a b c : Value) : argsOk "wrapper_descriptor.__get__" ⟨[a, b, c], []⟩ := by unfold argsOk; kernel_rfl

theorem slot_method_descriptor : Slot "method_descriptor" "__get__" "method_descriptor.__get__" :=
  .of (owner := "method_descriptor") (n := "__get__") (by rw [typeLookup_type, builtinLookup_eq_fast]; kernel_rfl) (by decide +kernel) (by decide +kernel) (by decide +kernel)
    (by first | exact .inl (by decide +kernel) | exact .inr (by decide +kernel)) (by rw [isSubtype_type]; kernel_rfl)
theorem entry_method_descriptor : entryFor table "method_descriptor.__get__" = some Builtin.«method_descriptor.__get__» := entryFor_of_tree (by kernel_rfl)
theorem args_method_descriptor (a b c : Value) : argsOk "method_descriptor.__get__" ⟨[a, b, c], []⟩ := by unfold argsOk; kernel_rfl

section
variable {w : World} {M : Model} {A : Around} {E : Value → Shared → Prop} {s : Shared} {r d : Addr} {vs : List Value} {n : Nat}

theorem type_b_len : typeOf (.builtin "list.__len__") = pure (.type "wrapper_descriptor") := by show builtinType _ = _; rw [builtinType_eq_fast]; kernel_rfl
theorem get_len {P : Fin → Shared → Prop} (X : (hd.heap_1 w.params).In s.heap) (ho : s.heap.get? r = some (rowObj d vs n)) (h : P (.done (.ret (.ref s.heap.objs.size))) { s with heap := s.heap.push (bObj "method-wrapper" "list.__len__" r) }) :
    wpAny M A (Builtin.«wrapper_descriptor.__get__» ⟨[.builtin "list.__len__", .ref r, .ref 137], []⟩) P E s := by
  unfold Builtin.«wrapper_descriptor.__get__»
  refine wpAny_bind (wpAny_of_eq (a := (.builtin "list.__len__", some (.ref r), some (.ref 137))) (by first | rfl | kernel_rfl) ?_)
  refine wpAny_bind (wpAny_bind (wpAny_of_eq (a := (("__len__" : Str), .type "list")) (by first | rfl | kernel_rfl) (wpAny_bind ((row_isList X ho).here ?_))))
  refine KFB.if_not rfl ?_
  refine wpAny_pure ?_
  exact wpAny_bind (wpAny_newObj_type (wpAny_pure h))

theorem type_b_init : typeOf (.builtin "list.__init__") = pure (.type "wrapper_descriptor") := by show builtinType _ = _; rw [builtinType_eq_fast]; kernel_rfl
theorem get_init {P : Fin → Shared → Prop} (X : (hd.heap_1 w.params).In s.heap) (ho : s.heap.get? r = some (rowObj d vs n)) (h : P (.done (.ret (.ref s.heap.objs.size))) { s with heap := s.heap.push (bObj "method-wrapper" "list.__init__" r) }) :
    wpAny M A (Builtin.«wrapper_descriptor.__get__» ⟨[.builtin "list.__init__", .ref r, .ref 137], []⟩) P E s := by
  unfold Builtin.«wrapper_descriptor.__get__»
  refine wpAny_bind (wpAny_of_eq (a := (.builtin "list.__init__", some (.ref r), some (.ref 137))) (by first | rfl | kernel_rfl) ?_)
  refine wpAny_bind (wpAny_bind (wpAny_of_eq (a := (("__init__" : Str), .type "list")) (by first | rfl | kernel_rfl) (wpAny_bind ((row_isList X ho).here ?_))))
  refine KFB.if_not rfl ?_
  refine wpAny_pure ?_
  exact wpAny_bind (wpAny_newObj_type (wpAny_pure h))

theorem type_b_pop : typeOf (.builtin "list.pop") = pure (.type "method_descriptor") := by show builtinType _ = _; rw [builtinType_eq_fast]; kernel_rfl
theorem get_pop {P : Fin → Shared → Prop} (X : (hd.heap_1 w.params).In s.heap) (ho : s.heap.get? r = some (rowObj d vs n)) (h : P (.done (.ret (.ref s.heap.objs.size))) { s with heap := s.heap.push (bObj "builtin_function_or_method" "list.pop" r) }) :
    wpAny M A (Builtin.«method_descriptor.__get__» ⟨[.builtin "list.pop", .ref r, .ref 137], []⟩) P E s := by
  unfold Builtin.«method_descriptor.__get__»
  refine wpAny_bind (wpAny_of_eq (a := (.builtin "list.pop", some (.ref r), some (.ref 137))) (by first | rfl | kernel_rfl) ?_)
  dsimp only
  refine KFB.if_not (by decide +kernel) ?_
  refine wpAny_bind (wpAny_bind (wpAny_of_eq (a := (("pop" : Str), .type "list")) (by first | rfl | kernel_rfl) (wpAny_bind ((row_isList X ho).here ?_))))
  refine KFB.if_not rfl ?_
  refine wpAny_pure ?_
  exact wpAny_bind (wpAny_newObj_type (wpAny_pure h))
end
end
theorem freshSupC : True := by
  w_top off
  k_with_none
  trivial
section
open PySem.Calls
set_option maxRecDepth 100000
section
variable {w : World} {prog : Program} {M : Model} {A : Around} {E : Value → Shared → Prop} {h : Heap} {g : Array GenState} {dd : Drawn} {t : Nat} {os : OsState} {r d so : Addr} {vs : List Value} {n : Nat}

theorem sga {dt eid bid : String} {B : Builtin} {name : Str} {O : Obj} {tk : Tok} {Q : Fin → Shared → Prop} {l₀ l : List Value} (hC : Looks (model prog w) h (mroOf (.ref 137)) l₀) (hl : (l₀.dropWhile (· != .ref 137)).drop 1 = l) (hf : alongIn (hd.heap_1 w.params) name l = some (some (.builtin bid))) (X : (hd.heap_1 w.params).In h) (hso : h.get? so = some (ks_superObj 137 r 137)) (ho : h.get? r = some (rowObj d vs n)) (hr : r ≠ 137)
    (slot : Slot dt "__get__" eid) (entry : entryFor table eid = some B) (args : argsOk eid ⟨[.builtin bid, .ref r, .ref 137], []⟩) (hTf : (⟨h, g, dd, t, os⟩ : Shared).TypeIs (.builtin bid) dt) (hn : (name == ("__class__" : Str)) = false)
    (hget : ∀ {A : Around} {E : Value → Shared → Prop} {P : Fin → Shared → Prop}, P (.done (.ret (.ref h.objs.size))) ⟨h.push O, g, dd, t, os⟩ → wpAny (model prog w) A (B ⟨[.builtin bid, .ref r, .ref 137], []⟩) P E ⟨h, g, dd, t, os⟩)
    (hq : Q (.done (.ret (.ref h.objs.size))) ⟨h.push O, g, dd, t, os⟩) :
    wpAny (model prog w) A (Builtin.«super.__getattribute__» ⟨[.ref so, .str name tk], []⟩) Q E ⟨h, g, dd, t, os⟩ := by
  have hlk := slot.lookup
  have hne : (Value.ref r == Value.ref 137) = false := by simp [hr]
  have hno : Looks (model prog w) h (opaqueClassAbove (.ref 137)) none := looks_opaque X (by k_is)
  have hdt : (ks_superObj 137 r 137).data = .fields #[.ref 137, .ref r, .ref 137] := rfl
  have f0 : (#[.ref 137, .ref r, .ref 137] : Array Value)[0]? = some (.ref 137) := rfl
  have f1 : (#[.ref 137, .ref r, .ref 137] : Array Value)[1]? = some (.ref r) := rfl
  have f2 : (#[.ref 137, .ref r, .ref 137] : Array Value)[2]? = some (.ref 137) := rfl
  unfold Builtin.«super.__getattribute__»
  repeat (first
    | (with_reducible refine wpAny_field hso hdt f0 ?_) | (with_reducible refine wpAny_field hso hdt f1 ?_) | (with_reducible refine wpAny_field hso hdt f2 ?_)
    | (with_reducible refine ks_wpAny_notOpaque hno ?_)
    | (with_reducible refine Looks.at hC ?_; rw [hl])
    | (refine ks_forIn_along X (fun _ _ => rfl) rfl ?_ hf)
    | (with_reducible refine wpAny_typeOf hTf ?_)
    | (with_reducible refine wpAny_call_entry slot hTf entry ?_ args)
    | (with_reducible refine hget ?_)
    | (with_reducible refine ⟨_, rfl, ?_⟩)
    | (simp only [hn, hne, Bool.or_false, Bool.false_eq_true, if_false])
    | wp_step
    | dsimp only)
  all_goals exact hq

end
section
variable {w : World} {A : Around} {E : Value → Shared → Prop} {s : Shared} {h₀ : Heap} {L : Addr} {m : Str → Option Value} {news : List (Addr × Obj)} {r d so : Addr} {vs : List Value} {n : Nat}
theorem sgetm_len {pl : Sem Bool} {od : Option Obj} {Q : Value × List Value → Shared → Prop} (F : Fr h₀ L s.heap m) (X₀ : (hd.heap_1 w.params).In h₀) (N : News h₀ L s.heap news) (hso : (so, ks_superObj 137 r 137) ∈ news) (I : InstAt s.heap r (rowObj d vs n) 137 od)
    (hq : ∀ q h', Fr h₀ L h' m → News h₀ L h' ((q, bObj "method-wrapper" "list.__len__" r) :: news) → (∀ p ∈ news, p.1 < q) → Q (.ref q, []) { s with heap := h', toks := s.toks + 1 }) :
    wpAny (model PP w) A (getMethod (.ref so) (Str.ofString "__len__") pl) Q E s := by
  have X := X₀.keeps F.keep
  have hf0 : ks_superIn (hd.heap_1 w.params) 137 137 (Str.ofString "__len__") = some (some (.builtin "list.__len__")) := by kernel_rfl
  have hs0 := (N _ hso).1
  obtain ⟨hh, g, dd, t, os⟩ := s
  cases hc : clsIn (hd.heap_1 w.params) 137 with
  | none => unfold ks_superIn at hf0; rw [hc] at hf0; cases hf0
  | some cd =>
  unfold ks_superIn at hf0
  rw [hc] at hf0
  have hC : Looks (model PP w) hh (mroOf (.ref 137)) cd.mro := fun A Q E s k q => wpAny_bind ((looks_clsIn X hc) A _ E s k (wpAny_pure q))
  have hne := ks_ne X I hc
  have hlk := PySem.F.ks_slot_super_ga.lookup
  have hcan := PySem.F.ks_canon_super_ga
  have hT : ∀ t', (⟨hh, g, dd, t', os⟩ : Shared).TypeIs (.ref so) "super" := fun _ => ⟨_, hs0, rfl⟩
  unfold getMethod
  refine wpAny_bind (wpAny_specialOf (hT _) hlk ?_)
  show wpAny _ _ (if (Manifest.canonical "super.__getattribute__" != "object.__getattribute__") = true then _ else _) _ _ _
  rw [if_pos hcan]
  unfold getAttr getAttrBy
  refine wpAny_bind (wpAny_bind (wpAny_mkText (wpAny_holding (wpAny_bind (wpAny_typeOf (hT _) (wpAny_bind (wpAny_of_eq hlk ?_)))))))
  show wpAny _ _ (getAttrByItsOwn (.ref so) (.str (Str.ofString "__len__") t) (.type "super") (.builtin "super.__getattribute__") true false) _ _ _
  unfold getAttrByItsOwn hookBefore callGetattribute boundAndCalled
  refine wpAny_bind (wpAny_of_eq (show (if onTheHeap (.type "super") then typeLookup (.type "super") "__getattr__" else pure none) = pure none from rfl) ?_)
  refine wpAny_bind (wpAny_attempt (wpAny_holding ?_))
  show wpAny _ _ (bindSpecial (.builtin "super.__getattribute__") (.ref so) >>= _) _ _ _
  refine wpAny_bind (wpAny_of_eq (PySem.F.ks_slot_super_ga.bind _) ?_)
  refine wpAny_mono (Q := fun v s' => v = .ref hh.objs.size ∧ s' = ⟨hh.push (bObj "method-wrapper" "list.__len__" r), g, dd, t + 1, os⟩) (E := fun _ _ => False)
    (wpAny_call_entry PySem.F.ks_slot_super_ga (hT _) PySem.F.ks_entry_super_ga (sga hC rfl hf0 X hs0 I.at_ hne slot_wrapper_descriptor entry_wrapper_descriptor (args_wrapper_descriptor _ _ _) type_b_len (by decide) (fun h => get_len X I.at_ h) ⟨_, rfl, rfl, rfl⟩) (PySem.F.ks_gaArgs_super _ _)) (fun v s' hv => ?_) fun _ _ z => z.elim
  obtain ⟨rfl, rfl⟩ := hv
  obtain ⟨F', N', l'⟩ := ks_newsPush (s := ⟨hh, g, dd, t, os⟩) (o := bObj "method-wrapper" "list.__len__" r) F N rfl (Heap.get?_push_at rfl rfl) (fun b o e => Heap.get?_push_of_some _ e)
  exact wpAny_pure (wpAny_pure (hq _ _ F' N' l'))
end
section
variable {w : World} {prog : Program} {M : Model} {A : Around} {E : Value → Shared → Prop} {h : Heap} {g : Array GenState} {dd : Drawn} {t : Nat} {os : OsState} {r d so : Addr} {vs : List Value} {n : Nat}

end
section
variable {w : World} {A : Around} {E : Value → Shared → Prop} {s : Shared} {h₀ : Heap} {L : Addr} {m : Str → Option Value} {news : List (Addr × Obj)} {r d so : Addr} {vs : List Value} {n : Nat}
theorem sgetm_init {pl : Sem Bool} {od : Option Obj} {Q : Value × List Value → Shared → Prop} (F : Fr h₀ L s.heap m) (X₀ : (hd.heap_1 w.params).In h₀) (N : News h₀ L s.heap news) (hso : (so, ks_superObj 137 r 137) ∈ news) (I : InstAt s.heap r (rowObj d vs n) 137 od)
    (hq : ∀ q h', Fr h₀ L h' m → News h₀ L h' ((q, bObj "method-wrapper" "list.__init__" r) :: news) → (∀ p ∈ news, p.1 < q) → Q (.ref q, []) { s with heap := h', toks := s.toks + 1 }) :
    wpAny (model PP w) A (getMethod (.ref so) (Str.ofString "__init__") pl) Q E s := by
  have X := X₀.keeps F.keep
  have hf0 : ks_superIn (hd.heap_1 w.params) 137 137 (Str.ofString "__init__") = some (some (.builtin "list.__init__")) := by kernel_rfl
  have hs0 := (N _ hso).1
  obtain ⟨hh, g, dd, t, os⟩ := s
  cases hc : clsIn (hd.heap_1 w.params) 137 with
  | none => unfold ks_superIn at hf0; rw [hc] at hf0; cases hf0
  | some cd =>
  unfold ks_superIn at hf0
  rw [hc] at hf0
  have hC : Looks (model PP w) hh (mroOf (.ref 137)) cd.mro := fun A Q E s k q => wpAny_bind ((looks_clsIn X hc) A _ E s k (wpAny_pure q))
  have hne := ks_ne X I hc
  have hlk := PySem.F.ks_slot_super_ga.lookup
  have hcan := PySem.F.ks_canon_super_ga
  have hT : ∀ t', (⟨hh, g, dd, t', os⟩ : Shared).TypeIs (.ref so) "super" := fun _ => ⟨_, hs0, rfl⟩
  unfold getMethod
  refine wpAny_bind (wpAny_specialOf (hT _) hlk ?_)
  show wpAny _ _ (if (Manifest.canonical "super.__getattribute__" != "object.__getattribute__") = true then _ else _) _ _ _
  rw [if_pos hcan]
  unfold getAttr getAttrBy
  refine wpAny_bind (wpAny_bind (wpAny_mkText (wpAny_holding (wpAny_bind (wpAny_typeOf (hT _) (wpAny_bind (wpAny_of_eq hlk ?_)))))))
  show wpAny _ _ (getAttrByItsOwn (.ref so) (.str (Str.ofString "__init__") t) (.type "super") (.builtin "super.__getattribute__") true false) _ _ _
  unfold getAttrByItsOwn hookBefore callGetattribute boundAndCalled
  refine wpAny_bind (wpAny_of_eq (show (if onTheHeap (.type "super") then typeLookup (.type "super") "__getattr__" else pure none) = pure none from rfl) ?_)
  refine wpAny_bind (wpAny_attempt (wpAny_holding ?_))
  show wpAny _ _ (bindSpecial (.builtin "super.__getattribute__") (.ref so) >>= _) _ _ _
  refine wpAny_bind (wpAny_of_eq (PySem.F.ks_slot_super_ga.bind _) ?_)
  refine wpAny_mono (Q := fun v s' => v = .ref hh.objs.size ∧ s' = ⟨hh.push (bObj "method-wrapper" "list.__init__" r), g, dd, t + 1, os⟩) (E := fun _ _ => False)
    (wpAny_call_entry PySem.F.ks_slot_super_ga (hT _) PySem.F.ks_entry_super_ga (sga hC rfl hf0 X hs0 I.at_ hne slot_wrapper_descriptor entry_wrapper_descriptor (args_wrapper_descriptor _ _ _) type_b_init (by decide) (fun h => get_init X I.at_ h) ⟨_, rfl, rfl, rfl⟩) (PySem.F.ks_gaArgs_super _ _)) (fun v s' hv => ?_) fun _ _ z => z.elim
  obtain ⟨rfl, rfl⟩ := hv
  obtain ⟨F', N', l'⟩ := ks_newsPush (s := ⟨hh, g, dd, t, os⟩) (o := bObj "method-wrapper" "list.__init__" r) F N rfl (Heap.get?_push_at rfl rfl) (fun b o e => Heap.get?_push_of_some _ e)
  exact wpAny_pure (wpAny_pure (hq _ _ F' N' l'))
end
section
variable {w : World} {prog : Program} {M : Model} {A : Around} {E : Value → Shared → Prop} {h : Heap} {g : Array GenState} {dd : Drawn} {t : Nat} {os : OsState} {r d so : Addr} {vs : List Value} {n : Nat}

end
section
variable {w : World} {A : Around} {E : Value → Shared → Prop} {s : Shared} {h₀ : Heap} {L : Addr} {m : Str → Option Value} {news : List (Addr × Obj)} {r d so : Addr} {vs : List Value} {n : Nat}
theorem sgetm_pop {pl : Sem Bool} {od : Option Obj} {Q : Value × List Value → Shared → Prop} (F : Fr h₀ L s.heap m) (X₀ : (hd.heap_1 w.params).In h₀) (N : News h₀ L s.heap news) (hso : (so, ks_superObj 137 r 137) ∈ news) (I : InstAt s.heap r (rowObj d vs n) 137 od)
    (hq : ∀ q h', Fr h₀ L h' m → News h₀ L h' ((q, bObj "builtin_function_or_method" "list.pop" r) :: news) → (∀ p ∈ news, p.1 < q) → Q (.ref q, []) { s with heap := h', toks := s.toks + 1 }) :
    wpAny (model PP w) A (getMethod (.ref so) (Str.ofString "pop") pl) Q E s := by
  have X := X₀.keeps F.keep
  have hf0 : ks_superIn (hd.heap_1 w.params) 137 137 (Str.ofString "pop") = some (some (.builtin "list.pop")) := by kernel_rfl
  have hs0 := (N _ hso).1
  obtain ⟨hh, g, dd, t, os⟩ := s
  cases hc : clsIn (hd.heap_1 w.params) 137 with
  | none => unfold ks_superIn at hf0; rw [hc] at hf0; cases hf0
  | some cd =>
  unfold ks_superIn at hf0
  rw [hc] at hf0
  have hC : Looks (model PP w) hh (mroOf (.ref 137)) cd.mro := fun A Q E s k q => wpAny_bind ((looks_clsIn X hc) A _ E s k (wpAny_pure q))
  have hne := ks_ne X I hc
  have hlk := PySem.F.ks_slot_super_ga.lookup
  have hcan := PySem.F.ks_canon_super_ga
  have hT : ∀ t', (⟨hh, g, dd, t', os⟩ : Shared).TypeIs (.ref so) "super" := fun _ => ⟨_, hs0, rfl⟩
  unfold getMethod
  refine wpAny_bind (wpAny_specialOf (hT _) hlk ?_)
  show wpAny _ _ (if (Manifest.canonical "super.__getattribute__" != "object.__getattribute__") = true then _ else _) _ _ _
  rw [if_pos hcan]
  unfold getAttr getAttrBy
  refine wpAny_bind (wpAny_bind (wpAny_mkText (wpAny_holding (wpAny_bind (wpAny_typeOf (hT _) (wpAny_bind (wpAny_of_eq hlk ?_)))))))
  show wpAny _ _ (getAttrByItsOwn (.ref so) (.str (Str.ofString "pop") t) (.type "super") (.builtin "super.__getattribute__") true false) _ _ _
  unfold getAttrByItsOwn hookBefore callGetattribute boundAndCalled
  refine wpAny_bind (wpAny_of_eq (show (if onTheHeap (.type "super") then typeLookup (.type "super") "__getattr__" else pure none) = pure none from rfl) ?_)
  refine wpAny_bind (wpAny_attempt (wpAny_holding ?_))
  show wpAny _ _ (bindSpecial (.builtin "super.__getattribute__") (.ref so) >>= _) _ _ _
  refine wpAny_bind (wpAny_of_eq (PySem.F.ks_slot_super_ga.bind _) ?_)
  refine wpAny_mono (Q := fun v s' => v = .ref hh.objs.size ∧ s' = ⟨hh.push (bObj "builtin_function_or_method" "list.pop" r), g, dd, t + 1, os⟩) (E := fun _ _ => False)
    (wpAny_call_entry PySem.F.ks_slot_super_ga (hT _) PySem.F.ks_entry_super_ga (sga hC rfl hf0 X hs0 I.at_ hne slot_method_descriptor entry_method_descriptor (args_method_descriptor _ _ _) type_b_pop (by decide) (fun h => get_pop X I.at_ h) ⟨_, rfl, rfl, rfl⟩) (PySem.F.ks_gaArgs_super _ _)) (fun v s' hv => ?_) fun _ _ z => z.elim
  obtain ⟨rfl, rfl⟩ := hv
  obtain ⟨F', N', l'⟩ := ks_newsPush (s := ⟨hh, g, dd, t, os⟩) (o := bObj "builtin_function_or_method" "list.pop" r) F N rfl (Heap.get?_push_at rfl rfl) (fun b o e => Heap.get?_push_of_some _ e)
  exact wpAny_pure (wpAny_pure (hq _ _ F' N' l'))
end
section
variable {w : World} {prog : Program} {M : Model} {A : Around} {E : Value → Shared → Prop} {h : Heap} {g : Array GenState} {dd : Drawn} {t : Nat} {os : OsState} {r d so : Addr} {vs : List Value} {n : Nat}
end
end
theorem freshSupD : True := by
  w_top off
  k_with_none
  trivial
section
set_option maxRecDepth 100000
open PySem.Calls
section
variable {w : World} {A : Around} {E : Value → Shared → Prop} {s : Shared} {r d u : Addr} {vs : List Value} {n : Nat}
theorem call_bound {bt id : String} {args : List Value} {B : Builtin} {S : PySem.Spec} {Q : Value → Shared → Prop} (hb : s.heap.get? u = some (bObj bt id r)) (hbt : bt = "method-wrapper" ∨ bt = "builtin_function_or_method")
    (hchk : ∀ (E' : Value → Shared → Prop) (Q' : Unit → Shared → Prop), Q' () s → wpAny (model PP w) A.in1 (checkBoundCall id ⟨.ref r :: args, []⟩) Q' E' s) (plain : plainId id = true) (entry : entryFor table id = some B)
    (g : Meets (B ⟨.ref r :: args, []⟩) S) (h : S A (wants Q E) s) : wpAny (model PP w) A (call (.ref u) args) Q E s := by
  refine wpAny_call (codeAny_of_tree ?_)
  show wpAny _ A.in1 (callAny (.ref u) ⟨args, []⟩) _ _ _
  unfold callAny
  refine wpAny_bind (wpAny_load hb ?_)
  dsimp only
  have h1 : (Value.type bt == Value.type "method" || Value.type bt == Value.type "builtin_function_or_method" || Value.type bt == Value.type "method-wrapper") = true := by rcases hbt with rfl | rfl <;> decide
  have h2 : (Value.type bt != Value.type "method") = true := by rcases hbt with rfl | rfl <;> decide
  rw [if_pos h1]
  show wpAny _ _ (if (Value.type bt != Value.type "method") = true then _ else _) _ _ _
  rw [if_pos h2]
  refine wpAny_bind (hchk _ _ ?_)
  refine wpAny_pure ⟨plainId_quiet plain _, codeAny_builtin entry ?_⟩
  rw [Around.under_plainId plain]
  exact g _ _ _ _ _ h

theorem chk_len {M : Model} {Q : Unit → Shared → Prop} (q : Q () s) : wpAny M A (checkBoundCall "list.__len__" ⟨[.ref r], []⟩) Q E s :=
  wpAny_of_eq (by first | rfl | kernel_rfl) q
theorem chk_init {M : Model} {Q : Unit → Shared → Prop} (q : Q () s) : wpAny M A (checkBoundCall "list.__init__" ⟨[.ref r], []⟩) Q E s :=
  wpAny_of_eq (by first | rfl | kernel_rfl) q
theorem chk_pop {M : Model} {Q : Unit → Shared → Prop} (X : (hd.heap_1 w.params).In s.heap) (ho : s.heap.get? r = some (rowObj d vs n)) (q : Q () s) : wpAny M A (checkBoundCall "list.pop" ⟨[.ref r], []⟩) Q E s := by
  have L1 : Looks M s.heap (isInstance (.ref r) (.type "module")) false := (row_type ho).andThen (looks_mroIn X (by k_is))
  have L2 : Looks M s.heap (isType (.ref r)) false := (Looks.ld ho).andThen .now
  have L3 : Looks M s.heap (typeOf (.ref 137)) (.type "type") := looks_typeIn X (by k_is)
  cases hc : clsIn (hd.heap_1 w.params) 137 with
  | none => exact absurd (show (clsIn (hd.heap_1 w.params) 137).isSome = true by kernel_rfl) (by rw [hc]; decide)
  | some cd =>
  have L4 : Looks M s.heap (classData 137) cd := looks_clsIn X hc
  have hq : cd.qualname = "_Accumulator" := by
    have e : (clsIn (hd.heap_1 w.params) 137).map (·.qualname) = some ("_Accumulator" : Str) := by kernel_rfl
    rw [hc] at e
    exact Option.some.inj e
  unfold checkBoundCall
  cases hs : Manifest.signature? "list.pop" with
  | none => exact wpAny_pure q
  | some sig =>
  rw [show builtinKind "list.pop" = some .method by decide +kernel]
  dsimp only
  rw [if_neg (by decide)]
  refine wpAny_bind (L1.here ?_)
  rw [if_neg (by decide +kernel)]
  refine wpAny_bind (L2.here ?_)
  rw [if_neg (by decide)]
  refine wpAny_bind ((row_type ho).here ?_)
  refine wpAny_bind (L4.here ?_)
  refine wpAny_bind (L3.here ?_)
  rw [if_pos (by decide +kernel)]
  rw [hq]
  refine wpAny_of_eq ?_ q
  have hs' := Option.some.inj (hs.symm.trans (show Manifest.signature? "list.pop" = some ⟨.positional, "list.pop", "pop", .self, [⟨"index", .posOnly, false⟩]⟩ by kernel_rfl))
  subst hs'
  kernel_rfl
theorem callWith_b {M : Model} {bt id : String} {first : List Value} {env : Env} {pos : Pos} {Q : Value → Shared → Prop} (hb : s.heap.get? u = some (bObj bt id r)) (hbt : bt = "method-wrapper" ∨ bt = "builtin_function_or_method")
    (h : wpAny M A (call (.ref u) (first ++ [])) Q E s) : wpAny M A (callWith pos (.ref u) first (backTo pos (starEach [] env)) []) Q E s := by
  unfold callWith
  refine wpAny_bind (wpAny_holding (wpAny_mono (evalArgs_nil3 (Q := fun a s₁ => s₁.heap.get? u = some (bObj bt id r) ∧ wpAny M A (call (.ref u) (first ++ a.pos) a.kw) Q E s₁) ⟨hb, h⟩) (fun x s₁ h₁ => wpAny_bind (wpAny_standAt ?_)) fun _ _ x => x))
  obtain ⟨ho, hcall⟩ := h₁
  simp only [List.any_nil, Bool.or_false, backTo, starEach, List.map_nil]
  refine wpAny_bind (m := keeperOf (.ref u)) ?_
  unfold keeperOf
  refine wpAny_bind (wpAny_load ho ?_)
  have h2 : (Value.type bt != Value.type "method") = true := by rcases hbt with rfl | rfl <;> decide
  have h3 : (Value.type bt == Value.type "builtin_function_or_method" || Value.type bt == Value.type "method-wrapper") = true := by rcases hbt with rfl | rfl <;> decide
  simp only [bObj, h2, h3, if_true]
  refine wpAny_pure ?_
  exact wpAny_bind (wpAny_mono hcall (fun r s₂ hr => wpAny_bind (wpAny_holding (wpAny_point (wpAny_pure hr)))) fun _ _ x => x)
end
end
theorem freshRowSl : True := by
  w_top off
  k_with_none
  trivial
section
set_option maxRecDepth 100000
section
variable {w : World} {A : Around} {E : Value → Shared → Prop} {s : Shared} {r d : Addr} {vs : List Value} {n : Nat}
theorem pick_from {i : Int} (h0 : 0 ≤ i) (hi : i ≤ vs.length) : slicePick vs.toArray (some i) none none = (vs.drop i.toNat).toArray := by
  obtain ⟨k, rfl⟩ := Int.eq_ofNat_of_zero_le h0
  rw [slicePick_from _ _ (by simp only [List.size_toArray]; omega)]
  simp
theorem row_parts {sl : Addr} {i : Int} {u : Tok} {Q : Value × Value × Value → Shared → Prop} {M : Model} (hs : s.heap.IsSliceOf sl (.int i u) .none .none) (h : Q (rawInt i, .none, .none) s) :
    wpAny M A (Builtin.List.listSliceParts (.ref sl)) Q E s := by
  obtain ⟨os, hos, hcs, hds⟩ := id hs
  rw [listSliceParts_eq]
  refine wpAny_bind (wpAny_field hos hds (x := .none) rfl (wpAny_bind (wpAny_listPart (k := none) .none ?_)))
  rw [if_neg (by decide)]
  refine wpAny_bind (wpAny_field hos hds (x := .int i u) rfl (wpAny_bind (wpAny_listPart (k := some i) (.int _ _) ?_)))
  exact wpAny_bind (wpAny_field hos hds (x := .none) rfl (wpAny_bind (wpAny_listPart (k := none) .none (wpAny_pure h))))
theorem row_sub {sl : Addr} {i : Int} {u : Tok} {Q : Option Int → Shared → Prop} {M : Model} (hs : s.heap.IsSliceOf sl (.int i u) .none .none) (h : Q none s) : wpAny M A (Builtin.List.listSubscript? (.ref sl)) Q E s := by
  obtain ⟨os, hos, hcs, hds⟩ := id hs
  have hTs : s.TypeIs (.ref sl) "slice" := ⟨os, hos, hcs⟩
  unfold Builtin.List.listSubscript?
  refine wpAny_bind (wpAny_specialOf hTs slice_no_index ?_)
  simp only [Option.isNone_none, if_true]
  exact wpAny_pure h

theorem getitem_check {M : Model} {v : Value} {Q : Unit → Shared → Prop} (X : (hd.heap_1 w.params).In s.heap) (ho : s.heap.get? r = some (rowObj d vs n)) (q : Q () s) : wpAny M A (checkBuiltinCall "list.__getitem__" ⟨[.ref r, v], []⟩) Q E s := by
  have hk1 : builtinKind "list.__getitem__" = some .method := by decide +kernel
  have hs1 : splitId "list.__getitem__" = some ("list", "__getitem__") := by decide +kernel
  have a2 := PySem.F.args_list_getitem_2 (.ref r) v
  exact @row_check w A E s r d vs n M "list.__getitem__" "__getitem__" [v] Q X ho (.inr hk1) hs1 a2 q
theorem setitem_check {M : Model} {v v' : Value} {Q : Unit → Shared → Prop} (X : (hd.heap_1 w.params).In s.heap) (ho : s.heap.get? r = some (rowObj d vs n)) (q : Q () s) : wpAny M A (checkBuiltinCall "list.__setitem__" ⟨[.ref r, v, v'], []⟩) Q E s := by
  have hk1 : builtinKind "list.__setitem__" = some .slot := by decide +kernel
  have hs1 : splitId "list.__setitem__" = some ("list", "__setitem__") := by decide +kernel
  have a2 := PySem.F.args_list_setitem_3 (.ref r) v v'
  exact @row_check w A E s r d vs n M "list.__setitem__" "__setitem__" [v, v'] Q X ho (.inl hk1) hs1 a2 q
theorem row_slice {sl : Addr} {i : Int} {u : Tok} {Q : Value → Shared → Prop} (X : (hd.heap_1 w.params).In s.heap) (ho : s.heap.get? r = some (rowObj d vs n)) (hs : s.heap.IsSliceOf sl (.int i u) .none .none) (h0 : 0 ≤ i) (hi : i ≤ vs.length) (h20 : vs.length < 1000)
    (q : Q (.ref s.heap.objs.size) { s with heap := s.heap.push { cls := .type "list", data := .seq (vs.drop i.toNat).toArray } }) :
    wpAny (model PP w) A (getItem (.ref r) (.ref sl)) Q E s := by
  obtain ⟨os, hos, hcs, hds⟩ := id hs
  have hTs : s.TypeIs (.ref sl) "slice" := ⟨os, hos, hcs⟩
  unfold getItem
  refine wpAny_holding (wpAny_bind (row_key X ho ?_))
  refine wpAny_bind (row_special X ho (by k_is) PySem.F.slot_list_getitem.bind ?_)
  refine wpAny_call ?_
  refine codeAny_call_builtin PySem.F.slot_list_getitem.plain PySem.F.entry_list_getitem ?_
  refine getitem_check X ho ?_
  show wpAny _ _ (Builtin.List.listSubscript? (.ref sl) >>= _) _ _ s
  refine wpAny_bind (row_sub hs ?_)
  show wpAny _ _ (typeOf (.ref sl) >>= _) _ _ s
  refine wpAny_bind (wpAny_typeOf hTs ?_)
  rw [if_neg (by decide)]
  refine wpAny_bind (row_parts hs ?_)
  refine wpAny_bind (m := Builtin.List.listItems (.ref r)) ?_
  unfold Builtin.List.listItems
  refine wpAny_bind (wpAny_seqItems ho rfl (wpAny_pure ?_))
  refine wpAny_bind (wpAny_of_eq (sliceIndices_raw (some i) none none vs.toArray.size (by simp)) ?_)
  have q' : Q (.ref s.heap.objs.size) { s with heap := s.heap.push { cls := .type "list", data := .seq (slicePick vs.toArray (some i) none none) } } := by
    rw [pick_from h0 hi]
    exact q
  have hz : vs.toArray.size ≤ sizeLine := by rw [List.size_toArray, PySem.sizeLine_eq]; omega
  refine wpAny_bind (wpAny_newObj_type (wpAny_pure ?_) (Nat.le_trans (slicePick_size_le vs.toArray (some i) none none) hz))
  exact wpAny_pure q'
theorem bounds_from {i : Int} {N : Nat} (h0 : 0 ≤ i) (hi : i ≤ N) : sliceBounds (some i) none none N = (i, (N : Int), 1) := by
  unfold sliceBounds
  simp
  omega
theorem row_clear {sl l : Addr} {i : Int} {u : Tok} {c : Nat} {Q : Value → Shared → Prop} (X : (hd.heap_1 w.params).In s.heap) (ho : s.heap.get? r = some (rowObj d vs n)) (hs : s.heap.IsSliceOf sl (.int i u) .none .none) (hl : s.heap.get? l = some (W.listOf #[] c)) (hrl : r ≠ l) (h0 : 0 ≤ i) (hi : i ≤ vs.length) (h20 : vs.length < 1000)
    (q : ∀ f : Array Value → Array Value, f vs.toArray = (vs.take i.toNat).toArray → Q .none { s with heap := s.heap.update r (Obj.mapSeq f) }) :
    wpAny (model PP w) A (call (.builtin "list.__setitem__") [.ref r, .ref sl, .ref l]) Q E s := by
  obtain ⟨os, hos, hcs, hds⟩ := id hs
  have hTs : s.TypeIs (.ref sl) "slice" := ⟨os, hos, hcs⟩
  refine wpAny_call ?_
  refine codeAny_call_builtin PySem.F.slot_list_setitem.plain PySem.F.entry_list_setitem ?_
  refine setitem_check X ho ?_
  show wpAny _ _ (Builtin.List.listSubscript? (.ref sl) >>= _) _ _ s
  refine wpAny_bind (row_sub hs ?_)
  show wpAny _ _ (typeOf (.ref sl) >>= _) _ _ s
  refine wpAny_bind (wpAny_typeOf hTs ?_)
  rw [if_neg (by decide)]
  refine wpAny_bind (row_parts hs ?_)
  dsimp only
  have hTl : s.TypeIs (.ref l) "list" := ⟨_, hl, rfl⟩
  rw [if_neg (show ¬ (Builtin.List.listSameRef (.ref r) (.ref l) = true) from by simp [Builtin.List.listSameRef, hrl])]
  refine wpAny_bind (m := Builtin.List.listAllItems (.ref l) _) ?_
  unfold Builtin.List.listAllItems
  refine wpAny_bind (wpAny_typeOf hTl ?_)
  rw [if_pos (by decide)]
  unfold Builtin.List.listItems
  refine wpAny_bind (wpAny_seqItems hl rfl (wpAny_pure ?_))
  refine wpAny_bind (m := Builtin.List.listItems (.ref r)) ?_
  unfold Builtin.List.listItems
  refine wpAny_bind (wpAny_seqItems ho rfl (wpAny_pure ?_))
  refine wpAny_bind (wpAny_of_eq (sliceIndices_raw (some i) none none vs.toArray.size (by simp)) ?_)
  rw [bounds_from h0 (by simpa using hi)]
  dsimp only
  rw [if_pos (by decide)]
  refine wpAny_bind (wpAny_rule ?_)
  rw [if_neg (show ¬ (Builtin.List.listTooLong (vs.toArray.size + (#[] : Array Value).size) = true) from by simp [Builtin.List.listTooLong, PySem.sizeLine_eq]; omega)]
  have hf : (fun xs : Array Value => xs.extract 0 i.toNat ++ #[] ++ xs.extract (max i ((vs.toArray.size : Nat) : Int)).toNat) vs.toArray = (vs.take i.toNat).toArray := by
    have e : (max i ((vs.toArray.size : Nat) : Int)).toNat = vs.length := by simp only [List.size_toArray]; omega
    show vs.toArray.extract 0 i.toNat ++ #[] ++ vs.toArray.extract _ = _
    rw [e]
    apply Array.toList_inj.mp
    simp
  have hsz : vs.toArray.size ≤ sizeLine := by rw [List.size_toArray, PySem.sizeLine_eq]; omega
  have hz' : ((fun xs : Array Value => xs.extract 0 i.toNat ++ #[] ++ xs.extract (max i ((vs.toArray.size : Nat) : Int)).toNat) vs.toArray).size ≤ sizeLine + 1 := by
    rw [hf, List.size_toArray, PySem.sizeLine_eq, List.length_take]
    omega
  refine wpAny_bind (wpAny_updateSeq ho rfl (hz := hsz) (_hz' := hz') ?_)
  refine wpAny_bind (wpAny_letGo (wpAny_pure ?_))
  exact q _ hf
theorem row_slice_tail {h₀ : Heap} {L : Addr} {m : Str → Option Value} {news : List (Addr × Obj)} {value slice : PySem.Expr} {ops : List Value} {i : Int} {u : Tok} {Q : Value → Shared → Prop} (F : Fr h₀ L s.heap m) (X₀ : (hd.heap_1 w.params).In h₀) (N : News h₀ L s.heap news) (hr : (r, rowObj d vs n) ∈ news)
    (h0 : 0 ≤ i) (hi : i ≤ vs.length) (h20 : vs.length < 1000)
    (h : ∀ h', Fr h₀ L h' m → News h₀ L h' ((s.heap.objs.size + 1, W.listOf (vs.drop i.toNat).toArray 0) :: news) → Q (.ref (s.heap.objs.size + 1)) { s with heap := h' })
    (hs : subscripted slice false (.ref r) (.ref s.heap.objs.size) = operate ops (getItem (.ref r) (.ref s.heap.objs.size))) :
    wpAny (model PP w) A (subscriptTail value slice (.ref r) (.ref s.heap.objs.size)) Q E { s with heap := s.heap.push { cls := .type "slice", data := .fields #[.int i u, .none, .none] } } := by
  have F1 := F.push { cls := .type "slice", data := .fields #[.int i u, .none, .none] }
  have N0 := (N.grown fun _ _ e => Heap.get?_push_of_some _ e : News h₀ L (s.heap.push { cls := .type "slice", data := .fields #[.int i u, .none, .none] }) news)
  have N1 := News.push F1 N0 (W.listOf (vs.drop i.toNat).toArray 0)
  rw [Heap.size_push] at N1
  refine row_tail (X₀.keeps F1.keep) (N0 _ hr).1 (row_slice (X₀.keeps F1.keep) (N0 _ hr).1 (Heap.IsSliceOf.new ..) h0 hi h20 ?_) hs
  show Q (.ref (s.heap.push _).objs.size) _
  rw [Heap.size_push]
  exact h _ (F1.push _) N1
theorem row_store {h₀ : Heap} {L : Addr} {m : Str → Option Value} {oL : Obj} {rest : List (Addr × Obj)} {l : Addr} {c : Nat} {i : Int} {u : Tok} {Q : Unit → Shared → Prop} (F : Fr h₀ L s.heap m) (X₀ : (hd.heap_1 w.params).In h₀)
    (N : News h₀ L s.heap ((99, oL) :: (r, rowObj d vs n) :: rest)) (h99 : (99 : Addr) ≠ r) (hr : ∀ q ∈ rest, q.1 ≠ r) (hl : (l, W.listOf #[] c) ∈ rest) (h0 : 0 ≤ i) (hi : i ≤ vs.length) (h20 : vs.length < 1000)
    (h : ∀ h' n', Fr h₀ L h' m → News h₀ L h' ((99, oL) :: (r, rowObj d (vs.take i.toNat) n') :: rest) → Q () { s with heap := h' }) :
    wpAny (model PP w) A (setItem (.ref r) (.ref s.heap.objs.size) (.ref l)) Q E { s with heap := s.heap.push { cls := .type "slice", data := .fields #[.int i u, .none, .none] } } := by
  have F1 := F.push { cls := .type "slice", data := .fields #[.int i u, .none, .none] }
  have N0 := (N.grown fun _ _ e => Heap.get?_push_of_some _ e : News h₀ L (s.heap.push { cls := .type "slice", data := .fields #[.int i u, .none, .none] }) _)
  have X := X₀.keeps F1.keep
  have ho := (N0 _ (.tail _ (.head _))).1
  have hrl : r ≠ l := Ne.symm (hr _ hl)
  unfold setItem
  refine wpAny_holding (wpAny_bind (row_key X ho ?_))
  refine wpAny_bind (row_special (s := { s with heap := s.heap.push { cls := .type "slice", data := .fields #[.int i u, .none, .none] } }) X ho (by k_is) PySem.F.slot_list_setitem.bind ?_)
  refine row_clear (s := { s with heap := s.heap.push { cls := .type "slice", data := .fields #[.int i u, .none, .none] } }) X ho (Heap.IsSliceOf.new ..) (N0 _ (.tail _ (.tail _ hl))).1 hrl h0 hi h20 ?_
  intro f hf
  obtain ⟨n', F2, N2⟩ := row_update (s := { s with heap := s.heap.push { cls := .type "slice", data := .fields #[.int i u, .none, .none] } }) f F1 N0 h99 hr hf
  exact wpAny_pure (h _ n' F2 N2)
end
end
theorem freshEltS : True := by
  w_top off
  k_with_none
  trivial
section
set_option maxRecDepth 100000
section
variable {w : World} {A : Around} {E : Value → Shared → Prop} {u : Shared} {g : Heap} {mg mb : Str → Option Value} {p : Program} {loose : List Str} {mean : ExcName → Option Value}
noncomputable def ptxt (q : Nat) : Str := Txt.join (Str.ofString "") [fw q, pt q]
set_option maxHeartbeats 1000000 in
theorem elt_str {q : Nat} {t1 t2 : Tok} {C : Addr} {code : Value} {env : Env} {m₂ : Str → Option Value} {p1 p2 p3 p4 p5 p6 : Pos} {kt : Nat} {scope : Scope} {pl : Sem Bool} (X : (hd.heap_1 w.params).In g) (T : Top p loose mean mg mb g) (k : ∀ b o, g.get? b = some o → u.heap.get? b = some o)
    (hn : u.heap.Ns C m₂) (h1 : m₂ "fws" = some (.str (fw q) t1)) (h2 : m₂ "part" = some (.str (pt q) t2)) (hge : env.globals = mainGlobals) (hh : A.handled = none)
    (hsc : scope = { kind := .function, names := [("\x2e0", .local), ("fws", .local), ("part", .local), ("EMPTYSTRING", .globalImplicit)], isGenerator := true, isCoroutine := false })
    (he : eval (.Call (.Attribute (.Name "EMPTYSTRING" p1) "join" p2) [.Tuple [.Name "fws" p3, .Name "part" p4] kt p5] [] p6) (genEnv scope [] C code builtinsNs env) = (do
      let ov ← eval (.Name "EMPTYSTRING" p1) (genEnv scope [] C code builtinsNs env)
      standAt p2.atName
      let (f, first) ← holding [ov] (getMethod ov "join" pl)
      callWith p6 f first (backTo p6 (starEach [.Tuple [.Name "fws" p3, .Name "part" p4] kt p5] (genEnv scope [] C code builtinsNs env))) [])) :
    wpAny (model PP w) A (eval (.Call (.Attribute (.Name "EMPTYSTRING" p1) "join" p2) [.Tuple [.Name "fws" p3, .Name "part" p4] kt p5] [] p6) (genEnv scope [] C code builtinsNs env))
      (fun y s₃ => (∃ t, y = .str (ptxt q) t) ∧ Keeps u s₃) E u := by
  subst hsc
  have l0 : (Str.ofString "").length = 0 := by decide
  have l1 := fw_len_le q
  have l2 := pt_len_le q
  refine MethodCall_ (pl := pl) ?_ he
  refine gname_g X T k (by k_is) hge ?_
  walk1
  walk1
  walk1
  walk1
  walk1
  refine gname hn h1 ?_
  walk1
  refine gname hn h2 ?_
  walk1
  refine wpAny_newObj_type ?_
  walk1
  have ht : IsTup (u.heap.push { cls := .type "tuple", data := .seq #[.str (fw q) t1, .str (pt q) t2] }) u.heap.objs.size #[.str (fw q) t1, .str (pt q) t2] := ⟨_, Heap.get?_push_size _ rfl, rfl, _, rfl⟩
  refine join_tuple (ys := [fw q, pt q]) ht (.cons _ _ (.cons _ _ .nil)) (by simp; omega) fun t' tk => ?_
  exact ⟨⟨t', rfl⟩, ⟨_, _, rfl, fun _ _ e => Heap.get?_push_of_some _ e⟩⟩
end
end
theorem freshStrW : True := by
  w_top off
  k_with_none
  trivial
section
theorem ptxt_len (q : Nat) : (ptxt q).length ≤ 4 := by
  unfold ptxt fw pt
  (repeat' split) <;> decide
theorem map_getD (qs : List Nat) : (List.range qs.length).map (fun j => ptxt (qs.getD j 0)) = qs.map ptxt := by
  apply List.ext_getElem
  · simp
  · intro i h1 h2
    simp at h1
    simp [List.getD, List.getElem?_eq_getElem h1]
theorem txt_len (qs : List Nat) : ((qs.map ptxt).map (·.length)).sum ≤ 4 * qs.length := by
  induction qs with
  | nil => simp
  | cons x l ih =>
    have := ptxt_len x
    simp only [List.map_cons, List.sum_cons, List.length_cons]
    omega
set_option maxRecDepth 100000 in
set_option maxHeartbeats 8000000 in
theorem row_str {w : World} {p : Program} {loose : List Str} {mean : ExcName → Option Value} {mg mb : Str → Option Value}
    (dp un : Nat) (gd : Option (List Code)) (cn : Str) (cs : Scope) (a : Addr) (ccd : Value) (cl : List (Str × Addr)) (outer : List Env) (A₀ : Around) (base h₀ : Heap) (L : Addr) (m : Str → Option Value) (s : Shared) (Q E : Value → Shared → Prop)
    (r d : Addr) (vs : List Value) (n : Nat) (hs : Int) (tkd tsz : Tok) (size : Int) (nd : Nat) (oL : Obj) (tl : List (Addr × Obj)) (qs : List Nat)
    (B : Below A₀ base outer h₀) (F : Fr h₀ L s.heap m) (X : (hd.heap_1 w.params).In h₀)
    (N : News h₀ L s.heap ((106, oL) :: (r, rowObj d vs n) :: (d, dObj hs tkd size tsz nd) :: tl)) (T : Top p loose mean mg mb h₀) (hk : cs.kind = .function)
    (hd1 : dp + 10 < recursionLimit) (hu1 : un + 80 < cLine)
    (ok : TabOk oL) (hsep : ∀ q ∈ tl, q.1 ≠ 106) (I : Led tl vs qs) (hB : AllBare s.gens) (h1 : 0 ≤ size) (h2 : size ≤ 2) (h3 : qs.length ≤ 20)
    (hret : ∀ (t : Tok) (s' : Shared) (oL' : Obj), Fr h₀ L s'.heap m → News h₀ L s'.heap ((106, oL') :: (r, rowObj d vs n) :: (d, dObj hs tkd size tsz nd) :: tl) → TabOk oL' → AllBare s'.gens → s'.os = s.os → Q (.str (Txt.join (Str.ofString "") (qs.map ptxt)) t) s') :
    wpAny (model PP w) (ktrTop dp un gd cn cs L a ccd cl outer) (call (.ref 111) [.ref r]) Q E s := by
  have hrne : r ≠ 106 := news_ne N ok (.head _) (.tail _ (.head _)) (by intro ps h; cases h)
  have hdne : d ≠ 106 := news_ne N ok (.head _) (.tail _ (.tail _ (.head _))) (by intro ps h; cases h)
  refine wpAny_call ?_
  k_dflt cell_enter
  k_steps
  rename_i g' L' h' FG F' N' B' X' T'
  refine gen_row (fun q y => ∃ t, y = .str (ptxt q) t) F' X' T' N' (.head _) ?_ (I.items N' fun p hp => .tail _ (.tail _ (.tail _ hp))) hB ok rfl (codeHd_of_K (c := 110) X' (by kernel_rfl)) rfl rfl rfl rfl (by decide) rfl rfl rfl (by decide) rfl (by k_room) ?_ (fun _ => rfl) ?_ ?_
  · intro q hq
    rcases List.mem_cons.mp hq with rfl | hq
    · exact hrne
    · rcases List.mem_cons.mp hq with rfl | hq
      · exact hdne
      · exact hsep q hq
  · intro Q' hq
    walk1
    exact hq
  · intro C code A' E' q t1 t2 u m₂ hA hq hn e1 e2 k
    exact elt_str X' T' k hn e1 e2 rfl hA rfl rfl
  · intro aG oL' s' hle hLle F₂ N₂ ok₂ hB₂ hos₂ I₂ X₂
    have hvl : vs.length = qs.length := I.len
    rw [passing_all] at X₂
    rw [List.length_range] at X₂
    k_steps
    have hlen := txt_len qs
    have hj : JoinOk (Str.ofString "") ((List.range vs.length).map fun j => ptxt (qs.getD j 0)) = true := by
      rw [hvl, map_getD]
      refine joinOk_of ?_
      have l0 : (Str.ofString "").length = 0 := by decide
      rw [l0]
      omega
    refine join_rowsK F₂ hB₂ X₂ hLle (fun j => ptxt (qs.getD j 0)) ?_ hj ?_ (by rw [PySem.sizeLine_eq]; omega)
    · rintro j v ⟨i, hi, q, hq, t, rfl⟩
      have hij : i = j := by
        rcases Nat.lt_or_ge j vs.length with hj | hj
        · rw [List.getElem?_range hj] at hi; exact (Option.some.inj hi).symm
        · rw [List.getElem?_eq_none (by simpa using hj)] at hi; cases hi
      subst hij
      exact ⟨t, by rw [List.getD, hq]; rfl⟩
    · intro s₃ t₃ F₃ hB₃ hos₃ kp
      rw [hvl, map_getD]
      exact ⟨_, _, _, F₃, news_keep N₂ (fun p hp h => kp p.1 p.2 (hle p hp) h), fun Fx Nx => hret _ _ _ Fx Nx ok₂ hB₃ (hos₃.trans hos₂)⟩
end
theorem freshStrB : True := by
  w_top off
  k_with_none
  trivial
section
set_option maxRecDepth 100000
set_option maxHeartbeats 2000000 in
theorem str_row {w : World} {p : Program} {loose : List Str} {mean : ExcName → Option Value} {mg mb : Str → Option Value}
    {dp un : Nat} {gd : Option (List Code)} {cn : Str} {cs : Scope} {a : Addr} {ccd : Value} {cl : List (Str × Addr)} {outer : List Env} {A₀ : Around} {base h₀ : Heap} {L : Addr} {m : Str → Option Value} {s : Shared} {Q E : Value → Shared → Prop}
    {r d : Addr} {vs : List Value} {n : Nat} {hs : Int} {tkd tsz : Tok} {size : Int} {nd : Nat} {oL : Obj} {tl : List (Addr × Obj)} {qs : List Nat}
    (B : Below A₀ base outer h₀) (F : Fr h₀ L s.heap m) (X : (hd.heap_1 w.params).In h₀)
    (N : News h₀ L s.heap ((106, oL) :: (r, rowObj d vs n) :: (d, dObj hs tkd size tsz nd) :: tl)) (T : Top p loose mean mg mb h₀) (hk : cs.kind = .function)
    (hd1 : dp + 10 < recursionLimit) (hu1 : un + 100 < cLine)
    (ok : TabOk oL) (hsep : ∀ q ∈ tl, q.1 ≠ 106) (I : Led tl vs qs) (hB : AllBare s.gens) (h1 : 0 ≤ size) (h2 : size ≤ 2) (h3 : qs.length ≤ 20)
    (hret : ∀ (t : Tok) (s' : Shared) (oL' : Obj), Fr h₀ L s'.heap m → News h₀ L s'.heap ((106, oL') :: (r, rowObj d vs n) :: (d, dObj hs tkd size tsz nd) :: tl) → TabOk oL' → AllBare s'.gens → s'.os = s.os → Q (.str (Txt.join (Str.ofString "") (qs.map ptxt)) t) s') :
    wpAny (model PP w) (ktrTop dp un gd cn cs L a ccd cl outer) (call (.type "str") [.ref r]) Q E s := by
  refine kso_call (f := 111) ?_ (X.keeps F.keep) (inst_row N (.tail _ (.head _)) (.tail _ (.tail _ (.head _)))) (by k_is) (by k_is) ?_
  · show un + 1 + 1 < cLine
    omega
  · refine row_str _ _ _ _ _ _ _ _ _ _ _ _ _ _ _ _ _ _ _ _ _ _ _ _ _ _ _ _ _ B F X N T hk hd1 ?_ ok hsep I hB h1 h2 h3 ?_
    · show un + 1 + 1 + 80 < cLine
      omega
    · intro t s' oL' F' N' ok' hB' hos'
      exact hret _ _ _ F' N' ok' hB' hos'
end
theorem freshConL : True := by
  w_top off
  k_with_none
  trivial
section
open PySem.Calls
set_option maxRecDepth 100000
noncomputable def makesL (K : Frag) (C : Addr) : Bool := match K.lookup C with
  | some ⟨_, _, .cls cd, sl⟩ => !cd.abstract && !cd.hasDel && cd.hasDict && (sl.toList[4]?).join == some (.builtin "list.__new__") && !cd.mro.isEmpty && cd.mro.contains (.ref C) && cd.mro.contains (.type "list") &&
      specialIn K (.ref C) "__call__" == some (some (.builtin "type.__call__")) && instIn K (.ref C) (.type "type") == some true
  | _ => false
structure MakesL (M : Model) (h : Heap) (C : Addr) : Prop where
  obj : ∃ oc od cd sl, h.get? C = some ⟨oc, od, .cls cd, sl⟩ ∧ cd.abstract = false ∧ cd.hasDel = false ∧ cd.hasDict = true ∧ cd.mro.isEmpty = false
  made : Looks M h (Bind.madeBy (.ref C)) (some "list.__new__")
  base : Looks M h (Bind.staticBase (.ref C)) (.ref C)
  self : Looks M h (isSubtype (.ref C) (.ref C)) true
  top : Looks M h (isSubtype (.ref C) (.type "list")) true
  call : Looks M h (specialOf (.ref C) "__call__") (some (.builtin "type.__call__"))
  typ : Looks M h (isInstance (.ref C) (.type "type")) true
theorem makesL_of {K : Frag} {M : Model} {h : Heap} (X : K.In h) {C : Addr} (e : makesL K C = true) : MakesL M h C := by
  unfold makesL at e
  split at e
  · rename_i oc od cd sl ho
    simp only [Bool.and_eq_true, Bool.not_eq_true', beq_iff_eq] at e
    obtain ⟨⟨⟨⟨⟨⟨⟨⟨e1, e2⟩, e0⟩, e3⟩, e4⟩, e5⟩, e6⟩, e7⟩, e8⟩ := e
    have hc : clsIn K C = some cd := by unfold clsIn; rw [ho]
    have hm : Looks M h (mroOf (.ref C)) cd.mro := (looks_clsIn X hc).andThen .now
    obtain ⟨c, l, hl⟩ : ∃ c l, cd.mro = c :: l := by cases q : cd.mro with | nil => rw [q] at e4; cases e4 | cons c l => exact ⟨c, l, rfl⟩
    have made : Looks M h (Bind.madeBy (.ref C)) (some "list.__new__") := by
      intro A Q E s k q
      unfold Bind.madeBy
      refine wpAny_bind (hm A _ E s k ?_)
      rw [hl, List.forIn_cons]
      refine wpAny_bind (wpAny_bind (wpAny_bind (wpAny_bind (wpAny_loadPart (k _ _ (X _ _ ho)) (wpAny_pure ?_)))))
      dsimp only
      rw [← Array.getElem?_toList, e3]
      exact wpAny_pure (wpAny_pure (wpAny_pure q))
    refine ⟨⟨oc, od, cd, sl, X _ _ ho, e1, e2, e0, e4⟩, made, ?_, looks_mroIn X ?_, looks_mroIn X ?_, looks_specialIn X e7, looks_instIn X e8⟩
    · intro A Q E s k q
      unfold Bind.staticBase
      refine wpAny_bind (hm A _ E s k ?_)
      rw [hl, List.forIn_cons]
      exact wpAny_bind (wpAny_bind (wpAny_bind (made A _ E s k (wpAny_pure (wpAny_pure (wpAny_pure q))))))
    · unfold mroIn; rw [hc, Option.bind_some, if_neg (by rw [e4]; decide), e5]
    · unfold mroIn; rw [hc, Option.bind_some, if_neg (by rw [e4]; decide), e6]
  · cases e
theorem makes_row {M : Model} {h : Heap} {P : Params} (X : (hd.heap_1 P).In h) : MakesL M h 137 := makesL_of X (by kernel_rfl)

noncomputable abbrev lstObj (C dx : Addr) : Obj := { cls := .ref C, dict := some dx, data := .seq #[] }
section
variable {prog : Program} {w : World} {A : Around} {C : Addr} {h : Heap} {g : Array GenState} {d : Drawn} {t : Nat} {os : OsState} {R : Result → Shared → Prop}
theorem newL {v : Value} (Y : MakesL (model prog w) h C) (hq : R (.ok (.ret (.ref (h.objs.size + 1)))) ⟨(h.push emptyDict).push (lstObj C h.objs.size), g, d, t, os⟩) :
    codeAny (model prog w) A (.call (.builtin "list.__new__") ⟨[.ref C, v], []⟩) R ⟨h, g, d, t, os⟩ := by
  obtain ⟨⟨oc, od, cd, sl, hC, e1, e2, e0, e4⟩, made, base, self, top, call, typ⟩ := Y
  have hT : Looks (model prog w) h (isType (.ref C)) true := (Looks.ld (part := some headPart) hC).andThen .now
  refine codeAny_of_tree ?_
  show wpAny _ A.in1 (do checkBuiltinCall "list.__new__" ⟨[.ref C, v], []⟩; again (.builtin "list.__new__" ⟨[.ref C, v], []⟩)) _ _ _
  have hk : builtinKind "list.__new__" = some .builtinFn := by decide +kernel
  have hs : splitId "list.__new__" = some ("list", "__new__") := by decide +kernel
  simp only [checkBuiltinCall, hk, hs]
  refine wpAny_bind ?_
  rw [if_pos (by decide)]
  refine wpAny_bind (hT.at ?_)
  refine KFB.if_not rfl ?_
  refine wpAny_bind (top.at ?_)
  refine KFB.if_not rfl ?_
  refine wpAny_bind (base.at ?_)
  refine wpAny_bind (made.at ?_)
  refine KFB.if_not (by decide +kernel) ?_
  refine wpAny_of_eq (a := ()) (by kernel_rfl) ?_
  refine wpAny_pure ⟨plainId_quiet PySem.F.plain_list_new _, codeAny_builtin_stack PySem.F.entry_list_new rfl fun p st => ?_⟩
  rw [Around.under_plainId PySem.F.plain_list_new _]
  have hown := owner_list_new
  simp only [hown]
  refine wpAny_bind (hT.at ?_)
  refine KFB.if_not rfl ?_
  refine wpAny_bind (top.at ?_)
  refine KFB.if_not rfl ?_
  refine wpAny_bind (wpAny_pure ?_)
  refine KFB.if_not rfl ?_
  refine wpAny_bind (wpAny_newObj_type ?_)
  have hC' := Heap.get?_push_of_some (lstObj C h.objs.size) (Heap.get?_push_of_some emptyDict hC)
  refine wpAny_bind ?_
  show wpAny _ _ (newObj _ _ _) _ _ _
  unfold newObj
  dsimp only
  rw [if_neg (by simp)]
  unfold newObjAsIs classHasDel
  refine wpAny_bind (wpAny_alloc ?_)
  refine wpAny_bind (wpAny_bind (wpAny_load hC' ?_))
  refine wpAny_pure ?_
  rw [e2]
  refine KFB.if_not rfl ?_
  refine wpAny_pure (wpAny_pure ?_)
  show R _ _
  rw [Heap.size_push]
  exact hq
end
end
theorem freshConM : True := by
  w_top off
  k_with_none
  trivial
section
open PySem.Calls
set_option maxRecDepth 100000
section
variable {prog : Program} {w : World} {A : Around} {C : Addr} {h : Heap} {g : Array GenState} {d : Drawn} {t : Nat} {os : OsState} {R : Result → Shared → Prop}
theorem makeL_core {v : Value} {init : Value} (Y : MakesL (model prog w) h C) (hi : Looks (model prog w) h (typeLookup (.ref C) "__init__") (some init))
    (hb : ∀ self, Looks (model prog w) h (bindSpecial init self) (init, [self]))
    (hq : codeAny (model prog w) (A.under (.builtin "type.__call__" ⟨[.ref C, v], []⟩)) (.call init ⟨[.ref (h.objs.size + 1), v], []⟩) (InitBack (h.objs.size + 1) R) ⟨(h.push emptyDict).push (lstObj C h.objs.size), g, d, t, os⟩)
    (hnew : Looks (model prog w) h (typeLookup (.ref C) "__new__") (some (.builtin "list.__new__"))) :
    codeAny (model prog w) A (.call (.ref C) ⟨[v], []⟩) R ⟨h, g, d, t, os⟩ := by
  have Y' := Y
  obtain ⟨⟨oc, od, cd, sl, hC, e1, e2, e0, e4⟩, made, base, self, top, call, typ⟩ := Y
  refine codeAny_of_tree ?_
  show wpAny _ _ (callAny (.ref C) _) _ _ _
  refine nd_load hC ?_
  show wpAny _ _ (callAny.viaDunder (.ref C) _) _ _ _
  unfold callAny.viaDunder
  refine wpAny_bind (call.at ?_)
  dsimp only
  rw [tc_bind]
  refine wpAny_bind (wpAny_pure (wpAny_bind (wpAny_pure ?_)))
  refine wpAny_pure (a := Fin.again (.call (.builtin "type.__call__") ⟨[.ref C, v], []⟩)) (And.intro rfl ?_)
  refine codeAny_call_builtin_at (Code.quiet_builtin _ (by decide +kernel)) entry_typeCall (check_slot tc_kind tc_split typ (tc_args _ _ _) ?_)
  unfold Builtin.«type.__call__»
  have hm : Looks (model prog w) h (mroOf (.ref C)) cd.mro := ((Looks.ld (part := none) hC).andThen .now).andThen .now
  repeat (first | simp only [e4, Bool.false_eq_true, if_false] | with_reducible refine wpAny_call ?_ | lk)
  refine newL Y' ?_
  have k : ∀ b o, h.get? b = some o → ((h.push emptyDict).push (lstObj C h.objs.size)).get? b = some o := fun b o e => Heap.get?_push_of_some _ (Heap.get?_push_of_some _ e)
  have hx : ((h.push emptyDict).push (lstObj C h.objs.size)).get? (h.objs.size + 1) = some (lstObj C h.objs.size) := by heap_get
  have t1 : Looks (model prog w) ((h.push emptyDict).push (lstObj C h.objs.size)) (typeOf (.ref (h.objs.size + 1))) (.ref C) := (Looks.ld hx).andThen .now
  have s1 := self.keeps k
  have i1 := hi.keeps k
  have b1 := (hb (.ref (h.objs.size + 1))).keeps k
  unfold isInstance callSpecial? specialOf
  repeat (first | with_reducible refine wpAny_call ?_ | lk)
  refine codeAny_mono hq fun r s' z => ?_
  rcases r with e | (v | _ | _ | _) <;> first | exact z | exact z.elim | skip
  obtain ⟨rfl, z⟩ := z
  exact wpAny_pure (wpAny_pure z)
end
end
theorem freshConS : True := by
  w_top off
  k_with_none
  trivial
section
open PySem.Calls
set_option maxRecDepth 100000
theorem refuse_list (self : Value) : refuseLoop self "__setattr__" [.type "list", .type "object"] = pure () := by
  first | kernel_rfl | rfl
section
variable {w : World} {A : Around} {E : Value → Shared → Prop} {R : Result → Shared → Prop} {s : Shared} {h₀ : Heap} {L : Addr} {m : Str → Option Value} {news : List (Addr × Obj)} {x dx : Addr} {vs : List Value} {nn : Nat}
theorem mro_row (P : Params) : ∃ cd, clsIn (hd.heap_1 P) 137 = some cd ∧ cd.mro = [.ref 137, .type "list", .type "object"] := by
  have e : (clsIn (hd.heap_1 P) 137).map (·.mro) = some [.ref 137, .type "list", .type "object"] := by kernel_rfl
  cases hc : clsIn (hd.heap_1 P) 137 with
  | none => rw [hc] at e; cases e
  | some cd => rw [hc] at e; exact ⟨cd, rfl, Option.some.inj e⟩
theorem osaL_open {ox : Obj} {od : Option Obj} {name : Str} {tk : Tok} {v : Value} (X : (hd.heap_1 w.params).In s.heap) (I : InstAt s.heap x ox 137 od) (ht : findIn (hd.heap_1 w.params) (.ref 137) name = some none)
    (h : ∀ b, wpAny (model PP w) A.in1 (Builtin.ObjectAttr.storeInOwnDict (.ref x) (.ref 137) (.str name tk) name v b)
      (fun fin s' => match fin with | .done f => R (.ok f) s' | .again c' => c'.quiet = true ∧ codeAny (model PP w) A c' R s') (fun e s' => R (.error e) s') s) :
    codeAny (model PP w) A (.call (.builtin "object.__setattr__") ⟨[.ref x, .str name tk, v], []⟩) R s := by
  have SF := PySem.F.store_object
  obtain ⟨cd, hc, ho⟩ := mro_row w.params
  have sub : Looks (model PP w) s.heap (isInstance (.ref x) (.type "object")) true := I.type.andThen (looks_mroIn X (by kernel_rfl))
  refine codeAny_call_builtin SF.slot.plain SF.entry (@check_slot (model PP w) _ _ s "object.__setattr__" "object" "__setattr__" (.ref x) [.str name tk, v] [] _ SF.kind SF.split sub (SF.args (.ref x) (.str name tk) v) ?_)
  have hm : Looks (model PP w) s.heap (mroOf (.ref 137)) cd.mro := (looks_clsIn X hc).andThen .now
  rw [osa_eq, refuse_eq]
  refine wpAny_bind (wpAny_bind (I.type.here (wpAny_bind (hm.here ?_))))
  rw [ho, refuseLoop_ref, refuse_list]
  refine wpAny_pure (wpAny_bind (I.type.here (wpAny_bind ((looks_findIn X ht).here ?_))))
  refine wpAny_bind (wpAny_pure ?_)
  exact h _
theorem osaL_dict {ox od od' : Obj} {name : Str} {tk : Tok} {v : Value} {pre post : List (Addr × Obj)} {es : List DictEntry} {n : Nat} (F : Fr h₀ L s.heap m) (N : News h₀ L s.heap (pre ++ (dx, od) :: post)) (X : (hd.heap_1 w.params).In s.heap)
    (I : InstAt s.heap x ox 137 (some od)) (hod : ox.dict = some dx) (ht : findIn (hd.heap_1 w.params) (.ref 137) name = some none)
    (hl : (lookIn name od).isSome = true) (h1 : ∀ p ∈ pre, p.1 ≠ dx) (h2 : ∀ p ∈ post, p.1 ≠ dx)
    (e : Obj.putName name (PyData.keyHash w.params name) (.str name s.toks) v od = od') (e' : od'.data = .dict es.toArray n) (hz : es.length ≤ 1000)
    (h : ∀ h', Fr h₀ L h' m → News h₀ L h' (pre ++ (dx, od') :: post) → R (.ok (.ret .none)) { s with heap := h', toks := s.toks + 1 }) :
    codeAny (model PP w) A (.call (.builtin "object.__setattr__") ⟨[.ref x, .str name tk, v], []⟩) R s := by
  refine osaL_open X I ht fun b => ?_
  obtain ⟨cd, hc, hd'⟩ := any_some (show (clsIn (hd.heap_1 w.params) 137).any (·.hasDict) = true by kernel_rfl)
  obtain ⟨U1, U2⟩ := news_upd (f := Obj.putName name (PyData.keyHash w.params name) (.str name s.toks) v) F N h1 h2 e (by obtain ⟨_, _, dd, _⟩ := od'; cases e'; rfl)
  have D := (N (dx, od) (by simp)).1
  have D' := (U2 (dx, od') (by simp)).1
  obtain ⟨hx, hcl, hn, -⟩ := I
  obtain ⟨oc, odi, oda, osl⟩ := ox
  dsimp only at hcl hod
  subst hcl hod
  refine wpAny_bind (wpAny_pure (wpAny_bind (wpAny_bind (wpAny_loadPart hx (wpAny_bind ((looks_clsIn X hc).here ?_))))))
  rw [hd']
  refine wpAny_pure (a := some dx) (wpAny_bind (wpAny_pure (wpAny_bind ?_)))
  unfold nsSet
  refine wpAny_bind (wpAny_bind (wpAny_askSetting (wpAny_pure (wpAny_bind (wpAny_mkText (wpAny_bind (wpAny_loadPart D ?_)))))))
  unfold lookIn at hl
  split at hl
  · rename_i es₀ n₀ q
    rw [q]
    dsimp only
    have c : (!es₀.any (·.key.isStr name) && es₀.any (·.refKey)) = false := by
      rw [← Array.any_toList, ← Array.any_toList]
      split at hl
      · rename_i en he
        rw [List.any_eq_true.mpr ⟨en, List.mem_of_find?_eq_some he, List.find?_some he⟩]; rfl
      · split at hl
        · cases hl
        · rename_i z; rw [Bool.not_eq_true] at z; rw [z, Bool.and_false]
    rw [aRefKeyMayBeTheName_at, c]
    refine wpAny_updatePart D ?_
    refine wpAny_bind (wpAny_lookBehind D' (by rw [e']; exact pastItsLine_dict (by rw [List.size_toArray, sizeLine_eq]; omega)) ?_)
    exact wpAny_pure (h _ U1 U2)
  · cases hl
theorem setL_dict {ox : Obj} {name : Str} {v : Value} {es es' : List DictEntry} {n n' : Nat} {news' : List (Addr × Obj)} {Q : Unit → Shared → Prop} (F : Fr h₀ L s.heap m) (X₀ : (hd.heap_1 w.params).In h₀) (N : News h₀ L s.heap news) (I : InstAt s.heap x ox 137 (some (dictOf es n))) (hod : ox.dict = some dx)
    (hs : findIn (hd.heap_1 w.params) (.ref 137) "__setattr__" = some (some (.builtin "object.__setattr__"))) (ht : findIn (hd.heap_1 w.params) (.ref 137) name = some none) (hl : (getL name es).isSome = true)
    (e : (putL name (PyData.keyHash w.params name) (.str name (s.toks + 1)) v es, putN name es n) = (es', n')) (U : Upd dx (dictOf es n) (dictOf es' n') news news') (hz : es'.length ≤ 1000)
    (h : ∀ h', Fr h₀ L h' m → News h₀ L h' news' → Q () { s with heap := h', toks := s.toks + 2 }) :
    wpAny (model PP w) A (setAttr (.ref x) name v) Q E s := by
  obtain ⟨pre, post, rfl, rfl, a, b⟩ := U.split
  obtain ⟨e1, e2⟩ := Prod.mk.inj e
  exact set_plain (X₀.keeps F.keep) I hs (osaL_dict (s := { s with toks := s.toks + 1 }) F N (X₀.keeps F.keep) I hod ht hl a b (by rw [putName_dict, e1, e2]) rfl hz fun h' F' N' => h h' F' N')
end
end
section
local macro_rules | `(tactic| k_inst) => `(tactic| (refine' inst_rowG ?N ?h1 ?h2; (case N => k_asm); (case h1 => k_mem); (case h2 => k_mem)))
local macro_rules | `(tactic| walk_at "getMethod ref") => `(tactic| refine Stop.go ?_)
theorem freshPcW : True := by
  w_top off
  k_with_none
  trivial
section
set_option maxRecDepth 100000
set_option maxHeartbeats 8000000 in
theorem part_count {w : World} {p : Program} {loose : List Str} {mean : ExcName → Option Value} {mg mb : Str → Option Value}
    {dp un : Nat} {gd : Option (List Code)} {cn : Str} {cs : Scope} {a : Addr} {ccd : Value} {cl : List (Str × Addr)} {outer : List Env} {A₀ : Around} {base h₀ : Heap} {L : Addr} {m : Str → Option Value} {s : Shared} {Q E : Value → Shared → Prop}
    {r d : Addr} {vs : List Value} {n : Nat} {hs : Int} {tkd tsz : Tok} {size : Int} {nd : Nat} {oL : Obj} {tl : List (Addr × Obj)}
    (B : Below A₀ base outer h₀) (F : Fr h₀ L s.heap m) (X : (hd.heap_1 w.params).In h₀)
    (N : News h₀ L s.heap ((99, oL) :: (r, rowObj d vs n) :: (d, dObj hs tkd size tsz nd) :: tl)) (T : Top p loose mean mg mb h₀) (hk : cs.kind = .function)
    (hd1 : dp + 10 < recursionLimit) (hu1 : un + 40 < cLine)
    (hret : ∀ (t : Tok) (h' : Heap) (tk' : Nat), Fr h₀ L h' m → News h₀ L h' ((99, oL) :: (r, rowObj d vs n) :: (d, dObj hs tkd size tsz nd) :: tl) → Q (.int (vs.length : Int) t) { s with heap := h', toks := tk' }) :
    wpAny (model PP w) (ktrTop dp un gd cn cs L a ccd cl outer) (call (.ref 134) [.ref r]) Q E s := by
  refine wpAny_call ?_
  (refine' ks_code_super ?k1 ?k2 ?k3 ?k4 ?k5 ?kA ?kF ?kK ?k6 ?k7 ?k8 ?k9 ?kB ?_ ?c1 ?c2 ?c3 ?c4; (case kA => exact rfl); (case kF => exact rfl); (case kK => assumption); (case k1 => k_asm); (case k2 => k_asm); (case k3 => k_asm); (case k4 => k_asm); (case k5 => k_asm); (case k6 => k_is); (case k7 => k_is); (case k8 => ktr_room); (case k9 => exact BindsTo.of_eq rfl); (case kB => exact locs rfl); (case c1 => decide); (case c2 => exact rfl); (case c3 => exact rfl); (case c4 => exact rfl); intro g' L' h' FG' F' N' B' X' T' l1; (try k_lt l1); (try dsimp only); (try k_lift B'))
  k_steps
  show wpAny _ _ (getMethod _ _ _) _ _ _
  refine sgetm_len (d := d) (vs := vs) (n := n) (by k_asm) X' (by k_asm) (by k_mem) (inst_row (by k_asm) (by k_mem) (by k_mem)) ?_
  intro q₂ h₂ F₂ N₂ l₂
  refine callWith_b (bt := "method-wrapper") (id := "list.__len__") (r := r) (N₂ _ (.head _)).1 (.inl rfl) ?_
  show wpAny _ _ (call _ []) _ _ _
  refine call_bound (bt := "method-wrapper") (id := "list.__len__") (r := r) (N₂ _ (.head _)).1 (.inl rfl) (fun E' Q' q => chk_len q) PySem.F.slot_list_len.plain PySem.F.entry_list_len (m_len r d vs n) ⟨(N₂ (r, rowObj d vs n) (by k_mem)).1, ?_⟩
  k_steps
  exact hret _ _ _ (by k_asm) (news_sub (by k_asm) fun p hp => .tail _ (.tail _ hp))
end
section
local macro_rules | `(tactic| walk_at "call ref") => `(tactic| refine Stop.go ?_)
local macro_rules | `(tactic| walk_at "wpAt") => `(tactic| ((fail_if_success ks_step "execs cons"); (fail_if_success ks_step "exec Expr"); (fail_if_success ks_step "exec Return"); (fail_if_success ks_step "eval Call"); (fail_if_success ks_step "attributeBase Call"); (fail_if_success ks_step "exec If"); dsimp only))
local macro_rules | `(tactic| walk_at "wpAt") => `(tactic| (ks_step "eval Call"; refine Stop.go ?_))
theorem freshConW : True := by
  w_top off
  k_with_none
  trivial
section
set_option maxRecDepth 100000
open PySem.AutoSeq1 (wpAny_loadPart')
theorem m_init (l d : Addr) (n : Nat) :
    Meets (Builtin.«list.__init__» ⟨[.ref l], []⟩) (fun _ R s => s.heap.get? l = some (rowObj d [] n) ∧ R (.ok (.ret Value.none)) { s with heap := s.heap.update l (Obj.mapSeq fun _ => #[]), toks := s.toks }) :=
  .of_wp fun prog w A R s h => by
    obtain ⟨hp, g, dd, tk, os⟩ := s; obtain ⟨hl, h⟩ := h
    have hsz : ([] : List Value).toArray.size ≤ sizeLine := by simp
    have hz' : ((fun _ : Array Value => (#[] : Array Value)) ([] : List Value).toArray).size ≤ sizeLine + 1 := by simp
    wp_walk using (wpAny_updateSeq hl rfl (hz := hsz) (_hz' := hz')), wpAny_loadPart' hl
    exact ⟨_, rfl, h⟩
theorem row_updG {g : Heap} {s : Shared} {L : Addr} {m : Str → Option Value} {r d : Addr} {vs vs' : List Value} {n : Nat} {rest : List (Addr × Obj)} (f : Array Value → Array Value) (F : Fr g L s.heap m) (N : News g L s.heap ((r, rowObj d vs n) :: rest)) (hr : ∀ q ∈ rest, q.1 ≠ r) (hf : f vs.toArray = vs'.toArray) :
    ∃ n', Fr g L (s.heap.update r (Obj.mapSeq f)) m ∧ News g L (s.heap.update r (Obj.mapSeq f)) ((r, rowObj d vs' n') :: rest) := by
  have hrow := N _ (.head _)
  have e := Heap.get?_update_self (Obj.mapSeq f) hrow.1 rfl
  have ext : Heap.ExtBut r s.heap (s.heap.update r (Obj.mapSeq f)) := fun b o hb e => (Heap.get?_update_other _ _ (Ne.symm hb)).trans e
  refine ⟨if vs'.toArray.size == vs.toArray.size then n else n + 1, fr_ext F hrow.2.2 (Ne.symm hrow.2.1) ext, fun q hq => ?_⟩
  rcases List.mem_cons.mp hq with rfl | hq
  · refine ⟨?_, hrow.2⟩
    rw [e]
    show some (Obj.mapSeq f (rowObj d vs n)) = _
    simp only [Obj.mapSeq, rowObj, hf]
  · have z := N q (.tail _ hq)
    exact ⟨ext _ _ (hr q hq) z.1, z.2⟩
local macro_rules | `(tactic| walk_at "wpAt") => `(tactic| (ks_step "exec Expr"; refine Stop.go ?_))
set_option maxHeartbeats 8000000 in
theorem init_row {w : World} {p : Program} {loose : List Str} {mean : ExcName → Option Value} {mg mb : Str → Option Value}
    {dp un : Nat} {gd : Option (List Code)} {cn : Str} {cs : Scope} {a : Addr} {ccd : Value} {cl : List (Str × Addr)} {outer : List Env} {A₀ : Around} {base h₀ : Heap} {L : Addr} {m : Str → Option Value} {s : Shared} {R : Result → Shared → Prop}
    {size : Int} {tsz : Tok} {news : List (Addr × Obj)} {r d : Addr}
    (B : Below A₀ base outer h₀) (F : Fr h₀ L s.heap m) (X : (hd.heap_1 w.params).In h₀) (N : News h₀ L s.heap ((r, rowObj d [] 0) :: (d, dictOf [] 0) :: news)) (T : Top p loose mean mg mb h₀) (hk : cs.kind = .function)
    (hlt : ∀ q ∈ news, q.1 < d) (hdr : d < r)
    (hd1 : dp + 20 < recursionLimit) (hu1 : un + 60 < cLine)
    (hret : ∀ (n : Nat) (hs : Int) (tkd : Tok) (nd : Nat) (h' : Heap) (tk' : Nat), Fr h₀ L h' m → News h₀ L h' ((r, rowObj d [] n) :: (d, dObj hs tkd size tsz nd) :: news) → R (.ok (.ret .none)) { s with heap := h', toks := tk' }) :
    codeAny (model PP w) (ktrTop dp un gd cn cs L a ccd cl outer) (.call (.ref 74) ⟨[.ref r, .int size tsz], []⟩) R s := by
  (refine' ks_code_super ?k1 ?k2 ?k3 ?k4 ?k5 ?kA ?kF ?kK ?k6 ?k7 ?k8 ?k9 ?kB ?_ ?c1 ?c2 ?c3 ?c4; (case kA => exact rfl); (case kF => exact rfl); (case kK => assumption); (case k1 => k_asm); (case k2 => k_asm); (case k3 => k_asm); (case k4 => k_asm); (case k5 => k_asm); (case k6 => k_is); (case k7 => k_is); (case k8 => ktr_room); (case k9 => (refine' kp_binds ?kx ?ke; (case kx => k_in); (case ke => exact fun _ => rfl))); (case kB => exact locs rfl); (case c1 => decide); (case c2 => exact rfl); (case c3 => exact rfl); (case c4 => exact rfl); intro g' L' h' FG' F' N' B' X' T' l1; (try k_lt l1); (try dsimp only); (try k_lift B'))
  k_steps
  refine' setL_dict (dx := d) (es := []) (n := 0) (es' := [⟨PyData.keyHash w.params (Str.ofString "_initial_size"), .str (Str.ofString "_initial_size") _, .int size tsz⟩]) (name := Str.ofString "_initial_size") ?k1 ?k2 ?k3 ?k4 ?k5 ?k6 ?k8 ?k10 ?k11 ?k12 ?k13 ?_
  (case k1 => k_asm)
  (case k2 => exact X')
  (case k3 => k_asm)
  (case k4 => exact inst_rowG (by k_asm) (.head _) (.tail _ (.head _)))
  (case k5 => exact rfl)
  (case k6 => k_is)
  (case k8 => k_is)
  (case k10 => exact rfl)
  (case k11 => exact rfl)
  (case k12 => exact .tail (Nat.ne_of_gt hdr) (.head fun p hp => Nat.ne_of_lt (hlt p hp)))
  (case k13 => exact Nat.le_of_ble_eq_true rfl)
  intro h₂ F₂ N₂
  k_steps
  refine (id ?_ : Stop _)
  refine ks_wpAt_Expr_any ?_
  refine ks_wpAt_MethodCall ?_
  k_steps
  show wpAny _ _ (getMethod _ _ _) _ _ _
  refine sgetm_init (d := d) (vs := []) (n := 0) (by k_asm) X' (by k_asm) (by k_mem) (inst_rowG (by k_asm) (by k_mem) (.tail _ (.tail _ (.head _)))) ?_
  intro q₃ h₃ F₃ N₃ l₃
  have ho := (N₃ (r, rowObj d [] 0) (by k_mem)).1
  refine callWith_b (bt := "method-wrapper") (id := "list.__init__") (r := r) (N₃ _ (.head _)).1 (.inl rfl) ?_
  show wpAny _ _ (call _ []) _ _ _
  refine call_bound (bt := "method-wrapper") (id := "list.__init__") (r := r) (N₃ _ (.head _)).1 (.inl rfl) (fun E' Q' q => chk_init q) PySem.F.slot_list_init.plain PySem.F.entry_list_init (m_init r d 0) ⟨ho, ?_⟩
  have hr' : ∀ (o : Obj), ∀ q ∈ (d, o) :: news, q.1 ≠ r := fun o q hq => by
    rcases List.mem_cons.mp hq with rfl | hq
    · exact Nat.ne_of_lt hdr
    · exact Nat.ne_of_lt (Nat.lt_trans (hlt q hq) hdr)
  obtain ⟨n', F₄, N₄⟩ := row_updG (s := { s with heap := h₃ }) (vs' := []) (fun _ => #[]) F₃ (news_sub N₃ fun p hp => .tail _ (.tail _ hp)) (hr' _) rfl
  k_steps
  exact hret n' _ _ _ _ _ (by k_asm) (by k_asm)
set_option maxHeartbeats 8000000 in
theorem row_new {w : World} {p : Program} {loose : List Str} {mean : ExcName → Option Value} {mg mb : Str → Option Value}
    {dp un : Nat} {gd : Option (List Code)} {cn : Str} {cs : Scope} {a : Addr} {ccd : Value} {cl : List (Str × Addr)} {outer : List Env} {A₀ : Around} {base h₀ : Heap} {L : Addr} {m : Str → Option Value} {s : Shared} {Q E : Value → Shared → Prop}
    {size : Int} {tsz : Tok} {news : List (Addr × Obj)}
    (B : Below A₀ base outer h₀) (F : Fr h₀ L s.heap m) (X : (hd.heap_1 w.params).In h₀) (N : News h₀ L s.heap news) (T : Top p loose mean mg mb h₀) (hk : cs.kind = .function)
    (hd1 : dp + 30 < recursionLimit) (hu1 : un + 100 < cLine)
    (hret : ∀ (r d : Addr) (n : Nat) (hs : Int) (tkd : Tok) (nd : Nat) (h' : Heap) (tk' : Nat), Fr h₀ L h' m → News h₀ L h' ((r, rowObj d [] n) :: (d, dObj hs tkd size tsz nd) :: news) → (∀ q ∈ news, q.1 < r ∧ q.1 < d) → r ≠ d → Q (.ref r) { s with heap := h', toks := tk' }) :
    wpAny (model PP w) (ktrTop dp un gd cn cs L a ccd cl outer) (call (.ref 137) [.int size tsz]) Q E s := by
  have X₁ := X.keeps F.keep
  have N₁ : News h₀ L ((s.heap.push emptyDict).push (rowObj s.heap.objs.size [] 0)) ((s.heap.objs.size + 1, rowObj s.heap.objs.size [] 0) :: (s.heap.objs.size, dictOf [] 0) :: news) := by
    have := (N.push F emptyDict).push (F.push _) (rowObj s.heap.objs.size [] 0)
    rwa [Heap.size_push] at this
  have F₁ : Fr h₀ L ((s.heap.push emptyDict).push (rowObj s.heap.objs.size [] 0)) m := (F.push _).push _
  have hlt : ∀ q ∈ news, q.1 < s.heap.objs.size := fun q hq => Heap.lt_size (N q hq).1
  refine wpAny_call ?_
  obtain ⟨hh, g, dd, tk, os⟩ := s
  refine makeL_core (makes_row X₁) (looks_findIn X₁ (r := some (.ref 74)) (by k_is)) (fun self => bind_fn X₁ self (by k_is)) ?_ (looks_findIn X₁ (by k_is))
  show codeAny _ _ _ _ ⟨(hh.push emptyDict).push (rowObj hh.objs.size [] 0), g, dd, tk, os⟩
  refine init_row B F₁ X N₁ T hk hlt (Nat.lt_succ_self _) ?_ ?_ ?_
  · have hw : (Code.builtin "type.__call__" ⟨[.ref 137, .int size tsz], []⟩).weight ≤ 2 := by
      exact Nat.le_trans (Nat.le_of_eq (show _ = 1 by kernel_rfl)) (by decide)
    show dp + _ + 20 < _
    omega
  · have hw : (Code.builtin "type.__call__" ⟨[.ref 137, .int size tsz], []⟩).cUnits ≤ 20 := by
      exact Nat.le_trans (Nat.le_of_eq (show _ = 1 by kernel_rfl)) (by decide)
    show un + _ + 60 < _
    omega
  · intro n hs tkd nd h' tk' F' N'
    exact ⟨rfl, hret _ _ n hs tkd nd h' tk' F' N' (fun q hq => ⟨Nat.lt_succ_of_lt (hlt q hq), hlt q hq⟩) (Nat.succ_ne_self _)⟩
end
theorem freshPopW : True := by
  w_top off
  k_with_none
  trivial
section
set_option maxRecDepth 100000
theorem allLt_mem {d : Addr} : ∀ {l : List (Addr × Obj)}, AllLt d l → ∀ p ∈ l, p.1 < d
  | [], _, _, h => nomatch h
  | p :: r, h, q, hq => by
    rcases List.mem_cons.mp hq with rfl | hq
    · exact h.1
    · exact allLt_mem h.2 q hq
theorem erase_last (vs₀ : List Value) (y : Value) : (vs₀ ++ [y]).eraseIdx vs₀.length = vs₀ := by
  rw [List.eraseIdx_append_of_length_le (Nat.le_refl _)]
  simp
theorem po00 (u1 u2 : Tok) : pieceObj 0 u1 u2 = tupObj [.str (Str.ofString "") u1, .str (Str.ofString "") u2] := by
  show tupObj [.str (fw 0) _, .str (pt 0) _] = _
  rw [show fw 0 = Str.ofString "" by decide +kernel, show pt 0 = Str.ofString "" by decide +kernel]
set_option maxHeartbeats 8000000 in
theorem row_pop {w : World} {p : Program} {loose : List Str} {mean : ExcName → Option Value} {mg mb : Str → Option Value}
    {dp un : Nat} {gd : Option (List Code)} {cn : Str} {cs : Scope} {a : Addr} {ccd : Value} {cl : List (Str × Addr)} {outer : List Env} {A₀ : Around} {base h₀ : Heap} {L : Addr} {m : Str → Option Value} {s : Shared} {Q E : Value → Shared → Prop}
    {r d : Addr} {vs : List Value} {n : Nat} {hs : Int} {tkd tsz : Tok} {size : Int} {nd : Nat} {oL : Obj} {tl : List (Addr × Obj)}
    (B : Below A₀ base outer h₀) (F : Fr h₀ L s.heap m) (X : (hd.heap_1 w.params).In h₀)
    (N : News h₀ L s.heap ((99, oL) :: (r, rowObj d vs n) :: (d, dObj hs tkd size tsz nd) :: tl)) (T : Top p loose mean mg mb h₀) (hk : cs.kind = .function)
    (hd1 : dp + 20 < recursionLimit) (hu1 : un + 60 < cLine) (ok : TabOk oL) (hsep : ∀ q ∈ tl, q.1 ≠ r) (h20 : vs.length ≤ 20)
    (hempty : vs = [] → ∀ (t : Addr) (u1 u2 : Tok) (h' : Heap) (tk' : Nat), Fr h₀ L h' m → News h₀ L h' ((t, pieceObj 0 u1 u2) :: (99, oL) :: (r, rowObj d vs n) :: (d, dObj hs tkd size tsz nd) :: tl) →
      (∀ q ∈ (99, oL) :: (r, rowObj d vs n) :: (d, dObj hs tkd size tsz nd) :: tl, q.1 < t) → Q (.ref t) { s with heap := h', toks := tk' })
    (hpop : ∀ (vs₀ : List Value) (y : Value) (n' : Nat) (h' : Heap) (tk' : Nat), vs = vs₀ ++ [y] → Fr h₀ L h' m → News h₀ L h' ((99, oL) :: (r, rowObj d vs₀ n') :: (d, dObj hs tkd size tsz nd) :: tl) → Q y { s with heap := h', toks := tk' }) :
    wpAny (model PP w) (ktrTop dp un gd cn cs L a ccd cl outer) (call (.ref 97) [.ref r]) Q E s := by
  have hrne : r ≠ 99 := news_ne N ok (.head _) (.tail _ (.head _)) (by intro ps h; cases h)
  have hdne : d ≠ r := fun e => by
    have e1 := (N _ (.tail _ (.head _))).1
    have e2 := (N _ (.tail _ (.tail _ (.head _)))).1
    subst e
    cases Option.some.inj (e1.symm.trans e2)
  simp only [po00] at hempty
  refine wpAny_call ?_
  (refine' ks_code_super ?k1 ?k2 ?k3 ?k4 ?k5 ?kA ?kF ?kK ?k6 ?k7 ?k8 ?k9 ?kB ?_ ?c1 ?c2 ?c3 ?c4; (case kA => exact rfl); (case kF => exact rfl); (case kK => assumption); (case k1 => k_asm); (case k2 => k_asm); (case k3 => k_asm); (case k4 => k_asm); (case k5 => k_asm); (case k6 => k_is); (case k7 => k_is); (case k8 => ktr_room); (case k9 => exact BindsTo.of_eq rfl); (case kB => exact locs rfl); (case c1 => decide); (case c2 => exact rfl); (case c3 => exact rfl); (case c4 => exact rfl); intro g' L' h' FG' F' N' B' X' T' l1; (try k_lt l1); (try dsimp only); (try k_lift B'))
  k_steps
  show wpAny _ _ (getMethod _ _ _) _ _ _
  refine row_meth (f := .ref 134) (tf := .type "function") (by k_asm) X' (by k_asm) (.tail _ (.head _)) (.tail _ (.tail _ (.head _))) (by k_is) (by kernel_rfl) (by decide +kernel) (by decide) ?_
  k_steps
  show wpAny _ _ (call _ _ _) _ _ _
  refine part_count B' (by k_asm) X' (by k_asm) T' rfl ?_ ?_ ?_
  · exact room1 hd1 rfl
  · exact room1 hu1 rfl
  intro t₂ h₂ tk₂ F₂ N₂
  k_steps
  · refine (fun z => z) (hempty (List.eq_nil_of_length_eq_zero (by omega)) _ _ _ _ _ (by k_asm) (by k_asm) ?_)
    exact allLt_mem (l := (99, oL) :: (r, rowObj d vs n) :: (d, dObj hs tkd size tsz nd) :: tl) (by assumption)
  · refine (id ?_ : Stop _)
    refine ks_wpAt_MethodCall ?_
    k_steps
    show wpAny _ _ (getMethod _ _ _) _ _ _
    refine sgetm_pop (d := d) (vs := vs) (n := n) (by k_asm) X' (by k_asm) (by k_mem) (inst_row (by k_asm) (by k_mem) (by k_mem)) ?_
    intro q₃ h₃ F₃ N₃ l₃
    have ho := (N₃ (r, rowObj d vs n) (by k_mem)).1
    have X₃ := X'.keeps F₃.keep
    refine callWith_b (bt := "builtin_function_or_method") (id := "list.pop") (r := r) (N₃ _ (.head _)).1 (.inr rfl) ?_
    show wpAny _ _ (call _ []) _ _ _
    have hv : ∃ vs₀ y, vs = vs₀ ++ [y] := by
      rcases List.eq_nil_or_concat vs with hv | ⟨vs₀, y, hv⟩
      · subst hv; simp at *
      · exact ⟨vs₀, y, by rw [hv, List.concat_eq_append]⟩
    obtain ⟨vs₀, y, hv⟩ := hv
    refine call_bound (bt := "builtin_function_or_method") (id := "list.pop") (r := r) (N₃ _ (.head _)).1 (.inr rfl) (fun E' Q' q => chk_pop X₃ ho q) PySem.F.slot_list_pop.plain PySem.F.entry_list_pop
      (m_pop r d vs n y (by rw [hv]; simp) (by omega)) ⟨ho, ?_⟩
    have hsep' : ∀ q ∈ (d, dObj hs tkd size tsz nd) :: tl, q.1 ≠ r := fun q hq => by
      rcases List.mem_cons.mp hq with rfl | hq
      · exact hdne
      · exact hsep q hq
    obtain ⟨n', F₄, N₄⟩ := row_update (s := { s with heap := h₃ }) (oL := oL) (r := r) (d := d) (vs := vs) (n := n) (rest := (d, dObj hs tkd size tsz nd) :: tl) (vs' := vs₀) (fun xs => xs.eraseIdxIfInBounds (vs.toArray.size - 1)) F₃ (news_sub N₃ fun p hp => .tail _ (.tail _ hp)) (Ne.symm hrne) hsep' (by rw [hv]; apply Array.toList_inj.mp; simp [erase_last])
    k_steps
    exact hpop vs₀ y n' _ _ hv (by k_asm) (by k_asm)
end
end
end
theorem freshPfW : True := by
  w_top off
  k_with_none
  trivial
section
set_option maxRecDepth 100000
local macro_rules | `(tactic| walk_at "subscriptTail Name Slice") => `(tactic| fail)
set_option maxHeartbeats 8000000 in
theorem row_popf {w : World} {p : Program} {loose : List Str} {mean : ExcName → Option Value} {mg mb : Str → Option Value}
    {dp un : Nat} {gd : Option (List Code)} {cn : Str} {cs : Scope} {a : Addr} {ccd : Value} {cl : List (Str × Addr)} {outer : List Env} {A₀ : Around} {base h₀ : Heap} {L : Addr} {m : Str → Option Value} {s : Shared} {Q E : Value → Shared → Prop}
    {r d : Addr} {vs : List Value} {n : Nat} {hs i : Int} {tkd tsz u : Tok} {size : Int} {nd : Nat} {oL : Obj} {tl : List (Addr × Obj)}
    (B : Below A₀ base outer h₀) (F : Fr h₀ L s.heap m) (X : (hd.heap_1 w.params).In h₀)
    (N : News h₀ L s.heap ((99, oL) :: (r, rowObj d vs n) :: (d, dObj hs tkd size tsz nd) :: tl)) (T : Top p loose mean mg mb h₀) (hk : cs.kind = .function)
    (hd1 : dp + 20 < recursionLimit) (hu1 : un + 60 < cLine) (ok : TabOk oL) (hsep : ∀ q ∈ tl, q.1 ≠ r) (h20 : vs.length ≤ 20) (h0 : 0 ≤ i) (hi : i ≤ vs.length)
    (hret : ∀ (pl : Addr) (n' n'' : Nat) (h' : Heap) (tk' : Nat), Fr h₀ L h' m → News h₀ L h' ((pl, W.listOf (vs.drop i.toNat).toArray n'') :: (99, oL) :: (r, rowObj d (vs.take i.toNat) n') :: (d, dObj hs tkd size tsz nd) :: tl) →
      (∀ q ∈ (99, oL) :: (r, rowObj d vs n) :: (d, dObj hs tkd size tsz nd) :: tl, q.1 < pl) → Q (.ref pl) { s with heap := h', toks := tk' }) :
    wpAny (model PP w) (ktrTop dp un gd cn cs L a ccd cl outer) (call (.ref 89) [.ref r, .int i u]) Q E s := by
  have hrne : r ≠ 99 := news_ne N ok (.head _) (.tail _ (.head _)) (by intro ps h; cases h)
  have hdne : d ≠ r := fun e => by
    have e1 := (N _ (.tail _ (.head _))).1
    have e2 := (N _ (.tail _ (.tail _ (.head _)))).1
    subst e
    cases Option.some.inj (e1.symm.trans e2)
  refine wpAny_call ?_
  (refine' code_def ?k1 ?k2 ?k3 ?k4 ?k5 ?kA ?kF ?kK ?k6 ?k7 ?k8 ?k9 ?kB ?_ ?c2 ?c3 ?c4 ?c5; (case kA => exact rfl); (case kF => exact rfl); (case kK => assumption); (case k1 => k_asm); (case k2 => k_asm); (case k3 => k_asm); (case k4 => k_asm); (case k5 => k_asm); (case k6 => k_is); (case k7 => k_is); (case k8 => ktr_room); (case k9 => (refine' kp_binds ?kx ?ke; (case kx => k_in); (case ke => exact fun _ => rfl))); (case c5 => decide); (case kB => exact locs rfl); (case c2 => exact rfl); (case c3 => exact rfl); (case c4 => exact rfl); k_whole; intro g' L' h' FG F' N' B' X' T'; (try dsimp only); (try k_lift B'); (try k_fold))
  have hlt : ∀ q ∈ (99, oL) :: (r, rowObj d vs n) :: (d, dObj hs tkd size tsz nd) :: tl, q.1 < h'.objs.size := fun q hq => Heap.lt_size (N' q hq).1
  k_steps
  refine row_slice_tail (by k_asm) X' (by k_asm) (.tail _ (.head _)) h0 hi (by omega) ?_ rfl
  intro h₂ F₂ N₂
  k_steps
  rename_i l₃ h₃ F₃ N₃ l1
  have hr1 : r < h'.objs.size := hlt _ (.tail _ (.head _))
  refine row_store (oL := oL) (r := r) (d := d) (vs := vs) (n := n) (l := l₃) (c := 0) (i := i) (rest := (l₃, W.listOf #[] 0) :: (h'.objs.size + 1, W.listOf (vs.drop i.toNat).toArray 0) :: (d, dObj hs tkd size tsz nd) :: tl) F₃ X' ?_ (Ne.symm hrne) ?_ (.head _) h0 hi (by omega) ?_
  · refine news_sub N₃ fun q hq => ?_
    simp only [List.mem_cons] at hq ⊢
    rcases hq with h | h | h | h | h | h
    · exact .inr (.inr (.inl h))
    · exact .inr (.inr (.inr (.inl h)))
    · exact .inl h
    · exact .inr (.inl h)
    · exact .inr (.inr (.inr (.inr (.inl h))))
    · exact .inr (.inr (.inr (.inr (.inr h))))
  · intro q hq
    simp only [List.mem_cons] at hq
    rcases hq with rfl | rfl | rfl | hq
    · exact Nat.ne_of_gt l1.2.2.1
    · exact Nat.ne_of_gt (Nat.lt_succ_of_lt hr1)
    · exact hdne
    · exact hsep q hq
  intro h₄ n₄ F₄ N₄
  k_steps
  refine hret _ n₄ 0 _ _ (by k_asm) (news_sub (by k_asm) fun q hq => ?_) (fun q hq => Nat.lt_succ_of_lt (hlt q hq))
  simp only [List.mem_cons] at hq ⊢
  rcases hq with h | h | h | h | h
  · exact .inr (.inr (.inr (.inl h)))
  · exact .inl h
  · exact .inr (.inl h)
  · exact .inr (.inr (.inr (.inr (.inl h))))
  · exact .inr (.inr (.inr (.inr (.inr h))))
end
theorem freshLoopG : True := by
  w_top off
  k_with_none
  trivial
section
open PySem.Spec
set_option maxRecDepth 100000
noncomputable def GEnd (h₀ : Heap) (L : Addr) (wr : List Addr) (own : List (Addr × Obj)) (Jn : (Str → Option Value) → List (Addr × Obj) → Prop) (os : OsState) (s₂ : Shared) : Prop :=
  ∃ m₂ news₂, Fr h₀ L s₂.heap m₂ ∧ News h₀ L s₂.heap (own ++ news₂) ∧ (∀ p ∈ news₂, p.1 ∉ wr) ∧ AllBare s₂.gens ∧ s₂.os = os ∧ Jn m₂ news₂
noncomputable def GStep (h₀ : Heap) (L : Addr) (wr : List Addr) (own : List (Addr × Obj)) (Jn : (Str → Option Value) → List (Addr × Obj) → Prop) (os : OsState) (Qr : Value → Shared → Prop) (f : Flow) (s₂ : Shared) : Prop :=
  match f with
  | .ret v => Qr v s₂
  | .brk => False
  | _ => GEnd h₀ L wr own Jn os s₂
section
variable {prog : Program} {w : World} {A : Around} {s : Shared} {env : Env} {h₀ : Heap}

theorem forLoop_G {R : Result → Shared → Prop} {x : Str} {px : Pos} {body : List Stmt} {I : Addr} {fp wr : List Addr} {n : Nat} {P : Nat → Value → Prop} {St : Nat → Heap → Prop} {m : Str → Option Value}
    {news : List (Addr × Obj)} (W : Walks prog w A I fp wr n P St) (hx : env.kindOf x = some .local)
    (hp : (env.scope.kind == .class || (env.scope.kind == .module && env.locals != env.globals)) = false)
    (hLf : env.locals ∉ fp) (hwr : ∀ b ∈ fp, h₀.get? b = none) (hIo : ∀ i h, St i h → ∀ b ∈ fp, ∃ o, h.get? b = some o) (hnw : ∀ p ∈ news, p.1 ∉ wr)
    (hst : St 0 s.heap) (F : Fr h₀ env.locals s.heap m) (N : News h₀ env.locals s.heap news) (hG : AllBare s.gens)
    (J : Nat → (Str → Option Value) → List (Addr × Obj) → Prop) (h0 : J 0 m news)
    (step : ∀ i v m₁ news₁ s₁ own, s₁.os = s.os → AllBare s₁.gens → i < n → P i v → J i m₁ news₁ → (∀ p ∈ news₁, p.1 ∉ wr) → (∀ p ∈ own, p.1 ∈ fp) → (∀ b ∈ fp, ∃ o, (b, o) ∈ own) →
      Fr h₀ env.locals s₁.heap (fun y => if y = x then some v else m₁ y) → News h₀ env.locals s₁.heap (own ++ news₁) →
      wpAny (model prog w) A (execs body env) (GStep h₀ env.locals wr own (J (i + 1)) s.os (fun v s' => R (.ok (.ret v)) s')) (notedBy (model prog w) A env fun e s' => R (.error e) s') s₁)
    (hR : ∀ s' m' news', s'.os = s.os → AllBare s'.gens → Fr h₀ env.locals s'.heap m' → News h₀ env.locals s'.heap news' → J n m' news' → R (.ok .next) s') :
    codeAny (model prog w) A (.forLoop (.Name x px) (.ref I) body [] env) R s := by
  have hLw : env.locals ∉ wr := fun h => hLf (W.sub _ h)
  have old : ∀ b o, h₀.get? b = some o → b ∉ wr := fun b o e hb => by rw [hwr b (W.sub b hb)] at e; cases e
  refine codeAny_forLoop
    (fun k s' => ∃ m' news' i, s'.os = s.os ∧ AllBare s'.gens ∧ St i s'.heap ∧ Fr h₀ env.locals s'.heap m' ∧ News h₀ env.locals s'.heap news' ∧ (∀ p ∈ news', p.1 ∉ wr) ∧ J i m' news' ∧ i ≤ n ∧ k = n + 1 - i) ?_ (n + 1)
    ⟨m, news, 0, rfl, hG, hst, F, N, hnw, h0, Nat.zero_le _, rfl⟩
  rintro k s' ⟨m', news', i, hos, hG', hst', F', N', hnw', hJ, hi, rfl⟩
  have next : ∀ h₁ : Heap, (∀ b o, b ∉ wr → s'.heap.get? b = some o → h₁.get? b = some o) → Fr h₀ env.locals h₁ m' ∧ News h₀ env.locals h₁ news' := fun h₁ hk₁ =>
    ⟨⟨F'.ns.at' fun o e => hk₁ _ o hLw e, fun b o e => hk₁ b o (old b o e) (F'.keep b o e), F'.above⟩, fun p hp => ⟨hk₁ _ _ (hnw' p hp) (N' p hp).1, (N' p hp).2⟩⟩
  by_cases hlt : i < n
  · refine W.item i _ _ _ hlt hst' fun v h₁ tk₁ hP hst₁ hk₁ => ?_
    obtain ⟨F₁, N₁⟩ := next h₁ hk₁
    refine wpAny_assign_Name (wpAny_storeName_local hx F₁.ns (fun h₂ hn₂ hs₂ => ?_) hp)
    have F₂ := F₁.set hn₂ hs₂
    have Nown : News h₀ env.locals h₂ (ownOf h₀ fp h₂) := news_ownOf hLf
    have fin : ∀ s₃ : Shared, GEnd h₀ env.locals wr (ownOf h₀ fp h₂) (J (i + 1)) s.os s₃ → ∃ k', k' < n + 1 - i ∧ ∃ m' news' i, s₃.os = s.os ∧ AllBare s₃.gens ∧ St i s₃.heap ∧ Fr h₀ env.locals s₃.heap m' ∧ News h₀ env.locals s₃.heap news' ∧ (∀ p ∈ news', p.1 ∉ wr) ∧ J i m' news' ∧ i ≤ n ∧ k' = n + 1 - i := by
      rintro s₃ ⟨m₂, news₂, F₃, N₃, ha₃, hG₃, ho₃, hJ₃⟩
      refine ⟨n + 1 - (i + 1), by omega, m₂, news₂, i + 1, ho₃, hG₃, ?_, F₃, N₃.right, ha₃, hJ₃, hlt, rfl⟩
      refine W.frame _ _ _ hst₁ fun b hb o e => ?_
      have e₂ : h₂.get? b = some o := (hs₂.2 b fun q => hLf (q ▸ hb)).trans e
      cases hn : h₀.get? b with
      | some o₀ =>
        have : o₀ = o := by have := F₂.keep b o₀ hn; rw [e₂] at this; exact (Option.some.inj this).symm
        exact this ▸ F₃.keep b o₀ hn
      | none => exact (N₃ _ (List.mem_append_left _ (mem_ownOf hb hn e₂))).1
    have hown : ∀ b ∈ fp, ∃ o, (b, o) ∈ ownOf h₀ fp h₂ := fun b hb => by
      obtain ⟨o, e⟩ := hIo _ _ hst₁ b hb
      exact ⟨o, mem_ownOf hb (hwr b hb) ((hs₂.2 b fun q => hLf (q ▸ hb)).trans e)⟩
    refine wpAny_mono (step i v m' news' _ (ownOf h₀ fp h₂) hos hG' hlt hP hJ hnw' ownOf_sub hown F₂ (Nown.append (N₁.set hs₂))) (fun f s₃ h₃ => ?_) fun _ _ e => e
    cases f with
    | ret v => exact h₃
    | brk => exact h₃.elim
    | cont => exact fin s₃ h₃
    | next => exact fin s₃ h₃
  · have hin : i = n := by omega
    subst hin
    refine W.done _ _ _ hst' fun h₁ tk₁ hk₁ => wpAny_execs_nil ?_
    obtain ⟨F₁, N₁⟩ := next h₁ hk₁
    exact hR _ m' news' hos hG' F₁ N₁ hJ
end
end
theorem freshLawD : True := by
  w_top off
  k_with_none
  trivial
section
open PySem.Spec
set_option maxRecDepth 100000
noncomputable def lawF : Stmt := (PP.main.body.getLast?).getD default
noncomputable def lawBody : List Stmt := match lawF with | .FunctionDef _ _ b _ _ _ _ _ _ _ => b | _ => []
noncomputable def lawScope : Scope := match lawF with | .FunctionDef _ _ _ _ _ _ s _ _ _ => s | _ => default
noncomputable def turnBody : List Stmt := match lawBody.getD 4 default with | .For _ _ b _ _ => b | _ => []
noncomputable def t1 : List Stmt := turnBody.drop 2
theorem of_scope {P : Scope → Prop} {b c : Scope} (e : b = c) (h : P c) : P b := e ▸ h
theorem execs_split {M : Model} {A : Around} {E : Value → Shared → Prop} {s : Shared} {env : Env} {Q : Flow → Shared → Prop} {st : Stmt} {rest : List Stmt} {b : List Stmt} (e : b = st :: rest)
    (h : wpAny M A (execs (st :: rest) env) Q E s) : wpAny M A (execs b env) Q E s := e ▸ h
end
theorem freshCmpT : True := by
  w_top off
  k_with_none
  trivial
section
open PySem.Spec PySem.Calls
set_option maxRecDepth 100000
section
variable {prog : Program} {w : World} {A : Around} {h₀ : Heap} {L : Addr} {m : Str → Option Value} {env : Env} {ct : Expr} {x : Str} {px : Pos} {scope : Scope} {cl : List (Str × Addr)} {s : Shared} {S : List (Addr × Obj) → Prop} {Fin : List Value → List (Addr × Obj) → Prop} {news : List (Addr × Obj)}
theorem rest_T {vs : List Value} {qs : List Nat} (Le : Led news vs qs) (cmp : Nat → Bool) (hS : S news)
    (hx : scope.names.lookup x = some .local) (hk : scope.kind = .function) (hd : (x == ("__debug__" : Str)) = false)
    (test : ∀ t q t1 t2 I oI C oC D m₂ ys h tk (E' : Value → Shared → Prop), (t, pieceObj q t1 t2) ∈ news → q < 7 → LCg.NsObj oC m₂ → m₂ x = some (.ref t) → Fr h₀ L h m →
      News h₀ L h ((I, oI) :: (C, oC) :: (D, LCg.lst ys) :: news) →
      wpAny (model prog w) A (isTrue ct (compEnvC scope cl C env) (eval ct (compEnvC scope cl C env))) (fun b s' => b = cmp q ∧ ∃ tk', s' = { s with heap := h, toks := tk' }) E' { s with heap := h, toks := tk })
    (fin : ∀ ys : List Value, ys.length = (qs.filter cmp).length → Fin ys news) :
    LCt.CompRestT prog w A h₀ L m env ct (.Name x px) x scope cl s S (fun i v => vs.toArray[i]? = some v) Fin vs.toArray.size 0 [] news := by
  have key : ∀ (j i : Nat) (ys : List Value), i + j = vs.length → ys.length = ((qs.take i).filter cmp).length → LCt.CompRestT prog w A h₀ L m env ct (.Name x px) x scope cl s S (fun i v => vs.toArray[i]? = some v) Fin j i ys news := by
    intro j
    induction j with
    | zero =>
      intro i ys hi hy
      refine LCt.CompRestT.zero (fin ys ?_)
      rw [hy, List.take_of_length_le (by rw [← Le.len]; omega)]
    | succ j ih =>
      intro i ys hi hy
      refine LCt.CompRestT.succ ?_
      intro v I oI C oC D m₂ h tk E' hv hC hx₂ F N off ne
      have hlt : i < qs.length := by rw [← Le.len]; omega
      obtain ⟨h7, t, t1, t2, e1, e2⟩ := Le.at_ i _ (List.getElem?_eq_getElem hlt)
      have hv' : v = .ref t := by
        have : vs[i]? = some v := by simpa using hv
        rw [e1] at this
        exact (Option.some.inj this).symm
      subst hv'
      have hs : (qs.take (i + 1)).filter cmp = (qs.take i).filter cmp ++ (if cmp qs[i] then [qs[i]] else []) := by
        rw [List.take_add_one, List.getElem?_eq_getElem hlt]
        simp only [Option.toList_some, List.filter_append]
        congr 1
        cases hcq : cmp qs[i] <;> simp [List.filter_cons, hcq]
      refine wpAny_mono (test t _ t1 t2 I oI C oC D m₂ ys h tk E' e2 h7 hC hx₂ F N) (fun b s₂ hq => ?_) fun _ _ e => e
      obtain ⟨hb, tk', rfl⟩ := hq
      cases b with
      | true =>
        simp only [if_true]
        refine LCgL.ld_own N (.tail _ (.head _)) hC hx₂ ?_ hk (PySem.lookup_relabel_local hx) hd
        refine ⟨h, tk', news, rfl, F, N, off, hS, ih (i + 1) _ (by omega) ?_⟩
        rw [hs, ← hb, List.length_append, hy]
        simp
      | false =>
        simp only [Bool.false_eq_true, if_false]
        refine ⟨h, tk', news, rfl, F, N, off, hS, ih (i + 1) _ (by omega) ?_⟩
        rw [hs, ← hb, hy]
        simp
  exact key _ 0 [] (by simp) (by simp)

theorem rest_P {elt : Expr} {x₂ : Str} {vs : List Value} {qs : List Nat} (Le : Led news vs qs) (R : Nat → Value → Prop) (hS : S news)
    (turn : ∀ t q t1 t2 I oI C oC D m₂ ys h tk (E' : Value → Shared → Prop), (t, pieceObj q t1 t2) ∈ news → q < 7 → LCg.NsObj oC m₂ → m₂ x = some (.str (fw q) t1) → m₂ x₂ = some (.str (pt q) t2) → Fr h₀ L h m →
      News h₀ L h ((I, oI) :: (C, oC) :: (D, LCg.lst ys) :: news) →
      wpAny (model prog w) A (eval elt (compEnvC scope cl C env)) (fun y s' => R q y ∧ ∃ tk', s' = { s with heap := h, toks := tk' }) E' { s with heap := h, toks := tk })
    (fin : ∀ ys : List Value, ys.length = qs.length → (∀ (j q : Nat), qs[j]? = some q → ∃ y, ys[j]? = some y ∧ R q y) → Fin ys news) :
    LCp.CompRestP prog w A h₀ L m env elt x x₂ scope cl s S (fun i v => vs.toArray[i]? = some v) Fin vs.toArray.size 0 [] news := by
  have key : ∀ (j i : Nat) (ys : List Value), i + j = vs.length → ys.length = i → (∀ (j q : Nat), j < i → qs[j]? = some q → ∃ y, ys[j]? = some y ∧ R q y) → LCp.CompRestP prog w A h₀ L m env elt x x₂ scope cl s S (fun i v => vs.toArray[i]? = some v) Fin j i ys news := by
    intro j
    induction j with
    | zero =>
      intro i ys hi hy hR
      refine LCp.CompRestP.zero (fin ys (by rw [hy, ← Le.len]; omega) fun j q hq => hR j q ?_ hq)
      have := (List.getElem?_eq_some_iff.mp hq).1
      rw [← Le.len] at this
      omega
    | succ j ih =>
      intro i ys hi hy hR
      refine LCp.CompRestP.succ ?_
      intro v hv
      have hlt : i < qs.length := by rw [← Le.len]; omega
      obtain ⟨h7, t, t1, t2, e1, e2⟩ := Le.at_ i _ (List.getElem?_eq_getElem hlt)
      have hv' : v = .ref t := by
        have : vs[i]? = some v := by simpa using hv
        rw [e1] at this
        exact (Option.some.inj this).symm
      subst hv'
      refine ⟨t, _, _, _, _, rfl, e2, rfl, rfl, ?_⟩
      intro I oI C oC D m₂ h tk E' hC hx₂ hx₃ F N off ne
      refine wpAny_mono (turn t _ t1 t2 I oI C oC D m₂ ys h tk E' e2 h7 hC hx₂ hx₃ F N) (fun y s₂ hq => ?_) fun _ _ e => e
      obtain ⟨hr, tk', rfl⟩ := hq
      refine ⟨h, tk', news, rfl, F, N, off, hS, ih (i + 1) _ (by omega) (by simp [hy]) ?_⟩
      intro k q hk hq
      by_cases hki : k < i
      · obtain ⟨y', h1, h2⟩ := hR k q hki hq
        refine ⟨y', ?_, h2⟩
        rw [List.getElem?_append_left (by omega)]; exact h1
      · have : k = i := by omega
        subst this
        rw [List.getElem?_eq_getElem hlt] at hq
        cases hq
        exact ⟨y, by rw [List.getElem?_append_right (by omega)]; simp [hy], hr⟩
  exact key _ 0 [] (by simp) rfl (fun j q h => absurd h (Nat.not_lt_zero _))
end
end
section
local macro_rules | `(tactic| k_mem) => `(tactic| assumption)
theorem freshCntA : True := by
  w_top off
  k_with_none
  trivial
section
open PySem.Spec PySem.Calls
set_option maxRecDepth 100000
local macro_rules | `(tactic| walk_at "CompSrcT") => `(tactic| refine Stop.go ?_)
local macro_rules | `(tactic| walk_at "compareOp Lt ref ref") => `(tactic| refine Stop.go ?_)
local macro_rules | `(tactic| walk_at "compareOp LtE ref ref") => `(tactic| refine Stop.go ?_)
local macro_rules | `(tactic| walk_at "compareOp LtE str str") => `(tactic| (refine cmp_le_fw ?h1 ?h2 ?_; (case h1 => assumption); (case h2 => assumption)))
noncomputable def cntE (i : Nat) : Expr := match turnBody.getD i default with | .Assign _ (.Call _ (e :: _) _ _) _ => e | _ => default


set_option maxHeartbeats 8000000 in
theorem cnt_lt {w : World} {p : Program} {loose : List Str} {mean : ExcName → Option Value} {mg mb : Str → Option Value}
    {dp un : Nat} {gd : Option (List Code)} {cn : Str} {a : Addr} {ccd : Value} {h₀ : Heap} {L : Addr} {m : Str → Option Value} {s : Shared} {Q E : Value → Shared → Prop} {news : List (Addr × Obj)}
    {pl cP px : Addr} {vs : List Value} {n2 x : Nat} {oc : Obj} {u1 u2 : Tok} {qs : List Nat}
    (F : Fr h₀ L s.heap m) (X : (hd.heap_1 w.params).In h₀) (N : News h₀ L s.heap news) (T : Top p loose mean mg mb h₀)
    (hm : m "plain" = some (.ref pl)) (hpl : (pl, W.listOf vs.toArray n2) ∈ news) (hcP : (cP, oc) ∈ news) (hc : oc.data = .cell (some (.ref px))) (hpx : (px, pieceObj x u1 u2) ∈ news) (hx : x < 7) (Le : Led news vs qs) (h20 : vs.length ≤ 20)
    (hd1 : dp + 5 < recursionLimit) (hu1 : un + 20 < cLine)
    (hret : ∀ (D : Addr) (ys : List Value) (h' : Heap) (tk' : Nat), ys.length = (qs.filter fun q => decide (q < x)).length → Fr h₀ L h' m → News h₀ L h' ((D, LCg.lst ys) :: news) → Q (.ref D) { s with heap := h', toks := tk' }) :
    wpAny (model PP w) (ktrTop dp un gd cn lawScope L a ccd [("piece", cP)] []) (eval (cntE 3) (envX cn lawScope L a ccd [("piece", cP)])) Q E s := by
  conv in (eval _ _) => arg 1; whnf
  conv =>
    pattern (occs := *) lawScope
    all_goals whnf
  refine LCt.ListComp_T F (by with_unfolding_all rfl) (by decide) (by rfl) (by decide) (by rfl) ?_
  refine nameX_L F hm ?_
  refine LCt.CompSrcT.ledger rfl F N hpl (by size_fits) ?_
  intro g
  refine rest_T Le (fun q => decide (q < x)) (.inr ⟨_, hpl, rfl, _, rfl⟩) rfl rfl rfl ?_ ?_
  · intro t q t1 t2 I oI C oC D m₂ ys h tk E' hq h7 hC hx₂ F₁ N₁
    have hcP₁ := List.mem_cons_of_mem (I, oI) (List.mem_cons_of_mem (C, oC) (List.mem_cons_of_mem (D, LCg.lst ys) hcP))
    have hpx₁ := List.mem_cons_of_mem (I, oI) (List.mem_cons_of_mem (C, oC) (List.mem_cons_of_mem (D, LCg.lst ys) hpx))
    have hq₁ := List.mem_cons_of_mem (I, oI) (List.mem_cons_of_mem (C, oC) (List.mem_cons_of_mem (D, LCg.lst ys) hq))
    k_steps
    show wpAny _ _ (compareOp _ _ _) _ _ _
    refine cmp_lt_piece h7 hx (N₁ _ hq₁).1 (N₁ _ hpx₁).1 (by show un < _; omega) ?_
    k_steps
  · intro ys hy D h tk F₁ N₁ _
    exact hret D ys h tk hy F₁ N₁


set_option maxHeartbeats 8000000 in
theorem cnt_le {w : World} {p : Program} {loose : List Str} {mean : ExcName → Option Value} {mg mb : Str → Option Value}
    {dp un : Nat} {gd : Option (List Code)} {cn : Str} {a : Addr} {ccd : Value} {h₀ : Heap} {L : Addr} {m : Str → Option Value} {s : Shared} {Q E : Value → Shared → Prop} {news : List (Addr × Obj)}
    {pl cP px : Addr} {vs : List Value} {n2 x : Nat} {oc : Obj} {u1 u2 : Tok} {qs : List Nat}
    (F : Fr h₀ L s.heap m) (X : (hd.heap_1 w.params).In h₀) (N : News h₀ L s.heap news) (T : Top p loose mean mg mb h₀)
    (hm : m "plain" = some (.ref pl)) (hpl : (pl, W.listOf vs.toArray n2) ∈ news) (hcP : (cP, oc) ∈ news) (hc : oc.data = .cell (some (.ref px))) (hpx : (px, pieceObj x u1 u2) ∈ news) (hx : x < 7) (Le : Led news vs qs) (h20 : vs.length ≤ 20)
    (hd1 : dp + 5 < recursionLimit) (hu1 : un + 20 < cLine)
    (hret : ∀ (D : Addr) (ys : List Value) (h' : Heap) (tk' : Nat), ys.length = (qs.filter fun q => decide (q ≤ x)).length → Fr h₀ L h' m → News h₀ L h' ((D, LCg.lst ys) :: news) → Q (.ref D) { s with heap := h', toks := tk' }) :
    wpAny (model PP w) (ktrTop dp un gd cn lawScope L a ccd [("piece", cP)] []) (eval (cntE 4) (envX cn lawScope L a ccd [("piece", cP)])) Q E s := by
  conv in (eval _ _) => arg 1; whnf
  conv =>
    pattern (occs := *) lawScope
    all_goals whnf
  refine LCt.ListComp_T F (by with_unfolding_all rfl) (by decide) (by rfl) (by decide) (by rfl) ?_
  refine nameX_L F hm ?_
  refine LCt.CompSrcT.ledger rfl F N hpl (by size_fits) ?_
  intro g
  refine rest_T Le (fun q => decide (q ≤ x)) (.inr ⟨_, hpl, rfl, _, rfl⟩) rfl rfl rfl ?_ ?_
  · intro t q t1 t2 I oI C oC D m₂ ys h tk E' hq h7 hC hx₂ F₁ N₁
    have hcP₁ := List.mem_cons_of_mem (I, oI) (List.mem_cons_of_mem (C, oC) (List.mem_cons_of_mem (D, LCg.lst ys) hcP))
    have hpx₁ := List.mem_cons_of_mem (I, oI) (List.mem_cons_of_mem (C, oC) (List.mem_cons_of_mem (D, LCg.lst ys) hpx))
    have hq₁ := List.mem_cons_of_mem (I, oI) (List.mem_cons_of_mem (C, oC) (List.mem_cons_of_mem (D, LCg.lst ys) hq))
    k_steps
    show wpAny _ _ (compareOp _ _ _) _ _ _
    refine cmp_le_piece h7 hx (N₁ _ hq₁).1 (N₁ _ hpx₁).1 (by show un < _; omega) ?_
    k_steps
  · intro ys hy D h tk F₁ N₁ _
    exact hret D ys h tk hy F₁ N₁


set_option maxHeartbeats 8000000 in
theorem cnt_flt {w : World} {p : Program} {loose : List Str} {mean : ExcName → Option Value} {mg mb : Str → Option Value}
    {dp un : Nat} {gd : Option (List Code)} {cn : Str} {a : Addr} {ccd : Value} {h₀ : Heap} {L : Addr} {m : Str → Option Value} {s : Shared} {Q E : Value → Shared → Prop} {news : List (Addr × Obj)}
    {pl cP px : Addr} {vs : List Value} {n2 x : Nat} {oc : Obj} {u1 u2 : Tok} {qs : List Nat}
    (F : Fr h₀ L s.heap m) (X : (hd.heap_1 w.params).In h₀) (N : News h₀ L s.heap news) (T : Top p loose mean mg mb h₀)
    (hm : m "plain" = some (.ref pl)) (hpl : (pl, W.listOf vs.toArray n2) ∈ news) (hcP : (cP, oc) ∈ news) (hc : oc.data = .cell (some (.ref px))) (hpx : (px, pieceObj x u1 u2) ∈ news) (hx : x < 7) (Le : Led news vs qs) (h20 : vs.length ≤ 20)
    (hd1 : dp + 5 < recursionLimit) (hu1 : un + 20 < cLine)
    (hret : ∀ (D : Addr) (ys : List Value) (h' : Heap) (tk' : Nat), ys.length = (qs.filter fun q => decide (fr q < fr x)).length → Fr h₀ L h' m → News h₀ L h' ((D, LCg.lst ys) :: news) → Q (.ref D) { s with heap := h', toks := tk' }) :
    wpAny (model PP w) (ktrTop dp un gd cn lawScope L a ccd [("piece", cP)] []) (eval (cntE 5) (envX cn lawScope L a ccd [("piece", cP)])) Q E s := by
  conv in (eval _ _) => arg 1; whnf
  conv =>
    pattern (occs := *) lawScope
    all_goals whnf
  refine LCt.ListComp_T F (by with_unfolding_all rfl) (by decide) (by rfl) (by decide) (by rfl) ?_
  refine nameX_L F hm ?_
  refine LCt.CompSrcT.ledger rfl F N hpl (by size_fits) ?_
  intro g
  refine rest_T Le (fun q => decide (fr q < fr x)) (.inr ⟨_, hpl, rfl, _, rfl⟩) rfl rfl rfl ?_ ?_
  · intro t q t1 t2 I oI C oC D m₂ ys h tk E' hq h7 hC hx₂ F₁ N₁
    have hcP₁ := List.mem_cons_of_mem (I, oI) (List.mem_cons_of_mem (C, oC) (List.mem_cons_of_mem (D, LCg.lst ys) hcP))
    have hpx₁ := List.mem_cons_of_mem (I, oI) (List.mem_cons_of_mem (C, oC) (List.mem_cons_of_mem (D, LCg.lst ys) hpx))
    have hq₁ := List.mem_cons_of_mem (I, oI) (List.mem_cons_of_mem (C, oC) (List.mem_cons_of_mem (D, LCg.lst ys) hq))
    k_steps
  · intro ys hy D h tk F₁ N₁ _
    exact hret D ys h tk hy F₁ N₁


set_option maxHeartbeats 8000000 in
theorem cnt_fle {w : World} {p : Program} {loose : List Str} {mean : ExcName → Option Value} {mg mb : Str → Option Value}
    {dp un : Nat} {gd : Option (List Code)} {cn : Str} {a : Addr} {ccd : Value} {h₀ : Heap} {L : Addr} {m : Str → Option Value} {s : Shared} {Q E : Value → Shared → Prop} {news : List (Addr × Obj)}
    {pl cP px : Addr} {vs : List Value} {n2 x : Nat} {oc : Obj} {u1 u2 : Tok} {qs : List Nat}
    (F : Fr h₀ L s.heap m) (X : (hd.heap_1 w.params).In h₀) (N : News h₀ L s.heap news) (T : Top p loose mean mg mb h₀)
    (hm : m "plain" = some (.ref pl)) (hpl : (pl, W.listOf vs.toArray n2) ∈ news) (hcP : (cP, oc) ∈ news) (hc : oc.data = .cell (some (.ref px))) (hpx : (px, pieceObj x u1 u2) ∈ news) (hx : x < 7) (Le : Led news vs qs) (h20 : vs.length ≤ 20)
    (hd1 : dp + 5 < recursionLimit) (hu1 : un + 20 < cLine)
    (hret : ∀ (D : Addr) (ys : List Value) (h' : Heap) (tk' : Nat), ys.length = (qs.filter fun q => decide (fr q ≤ fr x)).length → Fr h₀ L h' m → News h₀ L h' ((D, LCg.lst ys) :: news) → Q (.ref D) { s with heap := h', toks := tk' }) :
    wpAny (model PP w) (ktrTop dp un gd cn lawScope L a ccd [("piece", cP)] []) (eval (cntE 6) (envX cn lawScope L a ccd [("piece", cP)])) Q E s := by
  conv in (eval _ _) => arg 1; whnf
  conv =>
    pattern (occs := *) lawScope
    all_goals whnf
  refine LCt.ListComp_T F (by with_unfolding_all rfl) (by decide) (by rfl) (by decide) (by rfl) ?_
  refine nameX_L F hm ?_
  refine LCt.CompSrcT.ledger rfl F N hpl (by size_fits) ?_
  intro g
  refine rest_T Le (fun q => decide (fr q ≤ fr x)) (.inr ⟨_, hpl, rfl, _, rfl⟩) rfl rfl rfl ?_ ?_
  · intro t q t1 t2 I oI C oC D m₂ ys h tk E' hq h7 hC hx₂ F₁ N₁
    have hcP₁ := List.mem_cons_of_mem (I, oI) (List.mem_cons_of_mem (C, oC) (List.mem_cons_of_mem (D, LCg.lst ys) hcP))
    have hpx₁ := List.mem_cons_of_mem (I, oI) (List.mem_cons_of_mem (C, oC) (List.mem_cons_of_mem (D, LCg.lst ys) hpx))
    have hq₁ := List.mem_cons_of_mem (I, oI) (List.mem_cons_of_mem (C, oC) (List.mem_cons_of_mem (D, LCg.lst ys) hq))
    k_steps
  · intro ys hy D h tk F₁ N₁ _
    exact hret D ys h tk hy F₁ N₁
end
theorem freshCmpS : True := by
  w_top off
  k_with_none
  trivial
section
open PySem.Spec PySem.Calls
set_option maxRecDepth 100000
noncomputable def sgnE : Expr := match turnBody.getD 2 default with | .Assign _ (.BinOp _ _ (.Call _ (e :: _) _ _) _) _ => e | _ => default

theorem ints_of {R : Nat → Int} : ∀ {ys : List Value} {qs : List Nat}, ys.length = qs.length → (∀ (j q : Nat), qs[j]? = some q → ∃ y, ys[j]? = some y ∧ ∃ t, y = .int (R q) t) → IntsAre ys (qs.map R)
  | [], [], _, _ => .nil
  | y :: ys, q :: qs, h, g => by
    obtain ⟨y', e, t, rfl⟩ := g 0 q rfl
    cases e
    exact .cons _ t (ints_of (by simpa using h) fun j q hq => g (j + 1) q hq)
theorem strs_of {R : Nat → PySem.Str} : ∀ {ys : List Value} {qs : List Nat}, ys.length = qs.length → (∀ (j q : Nat), qs[j]? = some q → ∃ y, ys[j]? = some y ∧ ∃ t, y = .str (R q) t) → CarriedAll ys (qs.map fun q => PyData.str (R q))
  | [], [], _, _ => .nil
  | y :: ys, q :: qs, h, g => by
    obtain ⟨y', e, t, rfl⟩ := g 0 q rfl
    cases e
    exact .cons (.str _ t) (strs_of (by simpa using h) fun j q hq => g (j + 1) q hq)

set_option maxHeartbeats 8000000 in
theorem lens_plain {w : World} {p : Program} {loose : List PySem.Str} {mean : ExcName → Option Value} {mg mb : PySem.Str → Option Value}
    {dp un : Nat} {gd : Option (List Code)} {cn : PySem.Str} {a : Addr} {ccd : Value} {h₀ : Heap} {L : Addr} {m : PySem.Str → Option Value} {s : Shared} {Q E : Value → Shared → Prop} {news : List (Addr × Obj)}
    {pl cP : Addr} {vs : List Value} {n2 : Nat} {qs : List Nat}
    (F : Fr h₀ L s.heap m) (X : (hd.heap_1 w.params).In h₀) (N : News h₀ L s.heap news) (T : Top p loose mean mg mb h₀)
    (hm : m "plain" = some (.ref pl)) (hpl : (pl, W.listOf vs.toArray n2) ∈ news) (Le : Led news vs qs) (h20 : vs.length ≤ 20)
    (hd1 : dp + 5 < recursionLimit) (hu1 : un + 20 < cLine)
    (hret : ∀ (D : Addr) (ys : List Value) (h' : Heap) (tk' : Nat), IntsAre ys (qs.map fun q => ((plen q : Nat) : Int)) → Fr h₀ L h' m → News h₀ L h' ((D, LCg.lst ys) :: news) → Q (.ref D) { s with heap := h', toks := tk' }) :
    wpAny (model PP w) (ktrTop dp un gd cn lawScope L a ccd [("piece", cP)] []) (eval sgnE (envX cn lawScope L a ccd [("piece", cP)])) Q E s := by
  conv in (eval _ _) => arg 1; whnf
  conv =>
    pattern (occs := *) lawScope
    all_goals whnf
  refine LCp.ListComp_P F (by with_unfolding_all rfl) (by decide) (by rfl) (by decide) (by rfl) (by rfl) (by decide) ?_
  refine nameX_L F hm ?_
  refine LCp.SrcLP.ledger rfl F N hpl (by size_fits) ?_
  intro g
  refine rest_P Le (fun q y => ∃ t, y = .int ((plen q : Nat) : Int) t) (.inr ⟨_, hpl, rfl, _, rfl⟩) ?_ ?_
  · intro t q t1 t2 I oI C oC D m₂ ys h tk E' hq h7 hC hx₁ hx₂ F₁ N₁
    have l1 := fw_len_le q
    have l2 := pt_len_le q
    k_steps
  · intro ys hl hy D h tk F₁ N₁ _
    exact hret D ys h tk (ints_of hl hy) F₁ N₁
set_option maxHeartbeats 8000000 in
theorem text_plain {w : World} {p : Program} {loose : List PySem.Str} {mean : ExcName → Option Value} {mg mb : PySem.Str → Option Value}
    {dp un : Nat} {gd : Option (List Code)} {cn : PySem.Str} {a : Addr} {ccd : Value} {h₀ : Heap} {L : Addr} {m : PySem.Str → Option Value} {s : Shared} {Q E : Value → Shared → Prop} {news : List (Addr × Obj)}
    {pl cP : Addr} {vs : List Value} {n2 : Nat} {qs : List Nat}
    (F : Fr h₀ L s.heap m) (X : (hd.heap_1 w.params).In h₀) (N : News h₀ L s.heap news) (T : Top p loose mean mg mb h₀)
    (hm : m "plain" = some (.ref pl)) (hpl : (pl, W.listOf vs.toArray n2) ∈ news) (Le : Led news vs qs) (h20 : vs.length ≤ 20)
    (hd1 : dp + 5 < recursionLimit) (hu1 : un + 20 < cLine)
    (hret : ∀ (D : Addr) (ys : List Value) (h' : Heap) (tk' : Nat), CarriedAll ys (qs.map fun q => PyData.str (ptxt q)) → Fr h₀ L h' m → News h₀ L h' ((D, LCg.lst ys) :: news) → Q (.ref D) { s with heap := h', toks := tk' }) :
    wpAny (model PP w) (ktrTop dp un gd cn lawScope L a ccd [("piece", cP)] []) (eval (cntE 13) (envX cn lawScope L a ccd [("piece", cP)])) Q E s := by
  conv in (eval _ _) => arg 1; whnf
  conv =>
    pattern (occs := *) lawScope
    all_goals whnf
  refine LCp.ListComp_P F (by with_unfolding_all rfl) (by decide) (by rfl) (by decide) (by rfl) (by rfl) (by decide) ?_
  refine nameX_L F hm ?_
  refine LCp.SrcLP.ledger rfl F N hpl (by size_fits) ?_
  intro g
  refine rest_P Le (fun q y => ∃ t, y = .str (ptxt q) t) (.inr ⟨_, hpl, rfl, _, rfl⟩) ?_ ?_
  · intro t q t1 t2 I oI C oC D m₂ ys h tk E' hq h7 hC hx₁ hx₂ F₁ N₁
    have l1 := fw_len_le q
    have l2 := pt_len_le q
    k_steps
  · intro ys hl hy D h tk F₁ N₁ _
    exact hret D ys h tk (strs_of hl hy) F₁ N₁
end
end
theorem freshSepD : True := by
  w_top off
  k_with_none
  trivial
section
open PySem.Spec
set_option maxRecDepth 100000
structure Sep (r d pl cP I l : Addr) (tl : List (Addr × Obj)) : Prop where
  nd : (r :: d :: pl :: cP :: I :: l :: [99, 157, 106]).Nodup
  tl : ∀ q ∈ tl, q.1 ∉ (r :: d :: pl :: cP :: I :: l :: [99, 157, 106])
structure SepF (r d pl cP I l : Addr) (tl : List (Addr × Obj)) : Prop where
  n1 : r ≠ d ∧ r ≠ pl ∧ r ≠ cP ∧ r ≠ I ∧ r ≠ l ∧ r ≠ 99 ∧ r ≠ 157 ∧ r ≠ 106
  n2 : d ≠ pl ∧ d ≠ cP ∧ d ≠ I ∧ d ≠ l ∧ d ≠ 99 ∧ d ≠ 157 ∧ d ≠ 106
  n3 : pl ≠ cP ∧ pl ≠ I ∧ pl ≠ l ∧ pl ≠ 99 ∧ pl ≠ 157 ∧ pl ≠ 106
  n4 : cP ≠ I ∧ cP ≠ l ∧ cP ≠ 99 ∧ cP ≠ 157 ∧ cP ≠ 106
  n5 : I ≠ l ∧ I ≠ 99 ∧ I ≠ 157 ∧ I ≠ 106
  n6 : l ≠ 99 ∧ l ≠ 157 ∧ l ≠ 106
  t : ∀ q ∈ tl, q.1 ≠ r ∧ q.1 ≠ d ∧ q.1 ≠ pl ∧ q.1 ≠ cP ∧ q.1 ≠ I ∧ q.1 ≠ l ∧ q.1 ≠ 99 ∧ q.1 ≠ 157 ∧ q.1 ≠ 106
theorem Sep.f {r d pl cP I l : Addr} {tl : List (Addr × Obj)} (S : Sep r d pl cP I l tl) : SepF r d pl cP I l tl := by
  obtain ⟨nd, ht⟩ := S
  simp only [List.nodup_cons, List.mem_cons, List.not_mem_nil, or_false, not_or, List.nodup_nil, and_true, not_false_eq_true] at nd
  obtain ⟨h1, h2, h3, h4, h5, h6, _⟩ := nd
  refine ⟨h1, h2, h3, h4, h5, h6, fun q hq => ?_⟩
  have := ht q hq
  simpa only [List.mem_cons, List.not_mem_nil, or_false, not_or] using this
theorem Sep.cons {r d pl cP I l c : Addr} {o : Obj} {tl : List (Addr × Obj)} (S : Sep r d pl cP I l tl) (h : c ∉ (r :: d :: pl :: cP :: I :: l :: [99, 157, 106])) : Sep r d pl cP I l ((c, o) :: tl) :=
  ⟨S.nd, fun q hq => (List.mem_cons.mp hq).elim (fun e => e ▸ h) (S.tl q)⟩
theorem Sep.new {r d pl cP I l c : Addr} {o o1 o2 o3 o4 o5 o6 o7 o8 o9 : Obj} {tl : List (Addr × Obj)} (S : Sep r d pl cP I l tl) (h : ∀ q ∈ (99, o1) :: (r, o2) :: (d, o3) :: (157, o4) :: (106, o5) :: (pl, o6) :: (cP, o7) :: (I, o8) :: (l, o9) :: tl, q.1 < c) :
    Sep r d pl cP I l ((c, o) :: tl) := by
  refine S.cons ?_
  simp only [List.forall_mem_cons] at h
  obtain ⟨a1, a2, a3, a4, a5, a6, a7, a8, a9, _⟩ := h
  simp only [List.mem_cons, List.not_mem_nil, or_false, not_or]
  exact ⟨Nat.ne_of_gt a2, Nat.ne_of_gt a3, Nat.ne_of_gt a6, Nat.ne_of_gt a7, Nat.ne_of_gt a8, Nat.ne_of_gt a9, Nat.ne_of_gt a1, Nat.ne_of_gt a4, Nat.ne_of_gt a5⟩
theorem fr_look {h₀ h : Heap} {L : Addr} {m : Str → Option Value} {x : Str} {v : Value} (F : Fr h₀ L h m) (e : m x = some v) : Fr h₀ L h (fun y => if y = x then some v else m y) := by
  have : (fun y => if y = x then some v else m y) = m := by
    funext y
    by_cases hy : y = x
    · rw [if_pos hy, hy, e]
    · rw [if_neg hy]
  rw [this]; exact F
theorem Led.mono {tl tl' : List (Addr × Obj)} {vs : List Value} {qs : List Nat} (Le : Led tl vs qs) (h : ∀ p ∈ tl, p ∈ tl') : Led tl' vs qs :=
  ⟨Le.len, fun j q hq => let ⟨a, t, t1, t2, e, ht⟩ := Le.at_ j q hq; ⟨a, t, t1, t2, e, h _ ht⟩⟩
noncomputable def chain (m : Str → Option Value) : List (Str × Value) → Str → Option Value
  | [] => m
  | (x, v) :: l => fun y => if y = x then some v else chain m l y
noncomputable def looks (m : Str → Option Value) : List (Str × Value) → Prop
  | [] => True
  | (x, v) :: l => m x = some v ∧ looks m l
theorem chain_eq (m : Str → Option Value) : ∀ l, looks m l → chain m l = m
  | [], _ => rfl
  | (x, v) :: l, h => by
    funext y
    show (if y = x then some v else chain m l y) = m y
    rw [chain_eq m l h.2]
    by_cases hy : y = x
    · rw [if_pos hy, hy, h.1]
    · rw [if_neg hy]
theorem fr_chain {h₀ h : Heap} {L : Addr} {m : Str → Option Value} (F : Fr h₀ L h m) (l : List (Str × Value)) (e : looks m l) : Fr h₀ L h (chain m l) := by
  rw [chain_eq m l e]; exact F
theorem wp_execs_app {M : Model} {Γ : PySem.Ctx} {env : Env} {Q : Flow → Shared → Prop} {E : Value → Shared → Prop} {rest : List Stmt} : ∀ (l : List Stmt) (p : Pos) (s : Shared),
    Sem.wp M Γ (execs l env) (fun f p' s' => match f with | .next => Sem.wp M Γ (execs rest env) (fun a _ s'' => Q a s'') (fun e _ s'' => E e s'') p' s' | f => Q f s') (fun e _ s' => E e s') p s →
    Sem.wp M Γ (execs (l ++ rest) env) (fun a _ s'' => Q a s'') (fun e _ s'' => E e s'') p s
  | [], p, s, h => h
  | st :: l, p, s, h => by
    show Sem.wp M Γ (execs (st :: (l ++ rest)) env) _ _ p s
    rw [execs_cons, Sem.wp_bind'] at h ⊢
    refine Sem.wp_mono M Γ _ (fun f p' s' h' => ?_) (fun _ _ _ h' => h') _ _ h
    cases f with
    | next => exact wp_execs_app l p' s' h'
    | ret v => exact h'
    | brk => exact h'
    | cont => exact h'
theorem execs_app {M : Model} {A : Around} {env : Env} {Q : Flow → Shared → Prop} {E : Value → Shared → Prop} {s : Shared} (n : Nat) (b : List Stmt)
    (h : wpAny M A (execs (b.take n) env) (fun f s' => match f with | .next => wpAny M A (execs (b.drop n) env) Q E s' | f => Q f s') E s) : wpAny M A (execs b env) Q E s := fun Γ p hΓ => by
  have e : b = b.take n ++ b.drop n := (List.take_append_drop n b).symm
  rw [e]
  refine wp_execs_app _ p s (Sem.wp_mono M Γ _ (fun f p' s' h' => ?_) (fun _ _ _ h' => h') _ _ (h Γ p hΓ))
  cases f with
  | next => exact h' Γ p' hΓ
  | ret v => exact h'
  | brk => exact h'
  | cont => exact h'
theorem prank_lt : ∀ i, prank i < 7 := by intro i; unfold prank; split <;> decide
theorem cnt_size {ys : List Value} {qs : List Nat} {f : Nat → Bool} (h : ys.length = (qs.filter f).length) (h3 : qs.length ≤ 15) : ys.toArray.size = (qs.filter f).length ∧ (qs.filter f).length < 2 ^ 62 :=
  ⟨by simpa using h, by have := List.length_filter_le f qs; omega⟩
section
variable {r d pl cP I l : Addr} {o1 o2 o3 o4 o5 o6 o7 o8 o9 : Obj} {tl : List (Addr × Obj)}
theorem sub6 {p : Addr × Obj} (h : p ∈ tl) : p ∈ (157, o1) :: (106, o2) :: (pl, o3) :: (cP, o4) :: (I, o5) :: (l, o6) :: tl := .tail _ (.tail _ (.tail _ (.tail _ (.tail _ (.tail _ h)))))
theorem sub9 {p : Addr × Obj} (h : p ∈ tl) : p ∈ (99, o7) :: (r, o8) :: (d, o9) :: (157, o1) :: (106, o2) :: (pl, o3) :: (cP, o4) :: (I, o5) :: (l, o6) :: tl := .tail _ (.tail _ (.tail _ (sub6 h)))
theorem sub5 {p : Addr × Obj} (h : p ∈ tl) : p ∈ (106, o2) :: (pl, o3) :: (cP, o4) :: (I, o5) :: (l, o6) :: tl := .tail _ (.tail _ (.tail _ (.tail _ (.tail _ h))))
theorem Sep.ne99 (S : Sep r d pl cP I l tl) : ∀ q ∈ (157, o1) :: (106, o2) :: (pl, o3) :: (cP, o4) :: (I, o5) :: (l, o6) :: tl, q.1 ≠ 99 := by
  have f := S.f
  simp only [List.forall_mem_cons]
  exact ⟨(show (157 : Nat) ≠ 99 by decide), (show (106 : Nat) ≠ 99 by decide), f.n3.2.2.2.1, f.n4.2.2.1, f.n5.2.1, f.n6.1, fun q hq => (f.t q hq).2.2.2.2.2.2.1⟩
theorem Sep.ne99r (S : Sep r d pl cP I l tl) : ∀ q ∈ (157, o1) :: (106, o2) :: (pl, o3) :: (cP, o4) :: (I, o5) :: (l, o6) :: tl, q.1 ≠ 99 ∧ q.1 ≠ r := by
  have f := S.f
  simp only [List.forall_mem_cons]
  exact ⟨⟨(show (157 : Nat) ≠ 99 by decide), Ne.symm f.n1.2.2.2.2.2.2.1⟩, ⟨(show (106 : Nat) ≠ 99 by decide), Ne.symm f.n1.2.2.2.2.2.2.2⟩, ⟨f.n3.2.2.2.1, Ne.symm f.n1.2.1⟩, ⟨f.n4.2.2.1, Ne.symm f.n1.2.2.1⟩, ⟨f.n5.2.1, Ne.symm f.n1.2.2.2.1⟩, ⟨f.n6.1, Ne.symm f.n1.2.2.2.2.1⟩, fun q hq => ⟨(f.t q hq).2.2.2.2.2.2.1, (f.t q hq).1⟩⟩
theorem Sep.ne99k (S : Sep r d pl cP I l tl) : ∀ q ∈ (106, o2) :: (pl, o3) :: (cP, o4) :: (I, o5) :: (l, o6) :: tl, q.1 ≠ 99 ∧ q.1 ≠ 157 := by
  have f := S.f
  simp only [List.forall_mem_cons]
  exact ⟨⟨(show (106 : Nat) ≠ 99 by decide), (show (106 : Nat) ≠ 157 by decide)⟩, ⟨f.n3.2.2.2.1, f.n3.2.2.2.2.1⟩, ⟨f.n4.2.2.1, f.n4.2.2.2.1⟩, ⟨f.n5.2.1, f.n5.2.2.1⟩, ⟨f.n6.1, f.n6.2.1⟩, fun q hq => ⟨(f.t q hq).2.2.2.2.2.2.1, (f.t q hq).2.2.2.2.2.2.2.1⟩⟩
theorem Sep.ne106 (S : Sep r d pl cP I l tl) : ∀ q ∈ (99, o1) :: (157, o2) :: (pl, o3) :: (cP, o4) :: (I, o5) :: (l, o6) :: tl, q.1 ≠ 106 := by
  have f := S.f
  simp only [List.forall_mem_cons]
  exact ⟨(show (99 : Nat) ≠ 106 by decide), (show (157 : Nat) ≠ 106 by decide), f.n3.2.2.2.2.2, f.n4.2.2.2.2, f.n5.2.2.2, f.n6.2.2, fun q hq => (f.t q hq).2.2.2.2.2.2.2.2⟩
theorem Sep.ask {c : Addr} {o o1 o2 o3 o4 o5 o6 o7 o8 o9 : Obj} (S : Sep r d pl cP I l tl) (h : (c, o) ∈ tl ∨ ∀ q ∈ (99, o1) :: (r, o2) :: (d, o3) :: (157, o4) :: (106, o5) :: (pl, o6) :: (cP, o7) :: (I, o8) :: (l, o9) :: tl, q.1 < c) :
    Sep r d pl cP I l ((c, o) :: tl) := h.elim (fun h => S.cons (S.tl _ h)) S.new
theorem ask_sub {c : Addr} {o : Obj} : ∀ p ∈ (99, o1) :: (r, o2) :: (d, o3) :: (157, o4) :: (106, o5) :: (pl, o6) :: (cP, o7) :: (I, o8) :: (l, o9) :: (c, o) :: tl,
    p ∈ (99, o1) :: (r, o2) :: (d, o3) :: (157, o4) :: (c, o) :: (106, o5) :: (pl, o6) :: (cP, o7) :: (I, o8) :: (l, o9) :: tl := by
  (repeat refine sub_cons (by k_mem) ?_)
  exact fun q hq => by repeat (first | exact hq | refine .tail _ ?_)
theorem sub72 : ∀ q ∈ (99, o1) :: (r, o2) :: (d, o3) :: (157, o4) :: (106, o5) :: (pl, o6) :: (cP, o7) :: tl, q ∈ (99, o1) :: (r, o2) :: (d, o3) :: (157, o4) :: (106, o5) :: (pl, o6) :: (cP, o7) :: (I, o8) :: (l, o9) :: tl := by
  (repeat refine sub_cons (by k_mem) ?_)
  exact fun q hq => by repeat (first | exact hq | refine .tail _ ?_)
theorem Sep.neI (S : Sep r d pl cP I l tl) : ∀ q ∈ (99, o1) :: (r, o2) :: (d, o3) :: (157, o4) :: (106, o5) :: (pl, o6) :: (cP, o7) :: tl, q.1 ≠ I := by
  have f := S.f
  simp only [List.forall_mem_cons]
  exact ⟨Ne.symm f.n5.2.1, f.n1.2.2.2.1, f.n2.2.2.1, Ne.symm f.n5.2.2.1, Ne.symm f.n5.2.2.2, f.n3.2.1, f.n4.1, fun q hq => (f.t q hq).2.2.2.2.1⟩
theorem Sep.updC {px : Addr} {op o : Obj} (S : Sep r d pl cP I l tl) (h : px ≠ cP) : UpdF cP o ((px, op) :: (99, o1) :: (r, o2) :: (d, o3) :: (157, o4) :: (106, o5) :: (pl, o6) :: (cP, o) :: (I, o8) :: (l, o9) :: tl)
    (fun o' => (px, op) :: (99, o1) :: (r, o2) :: (d, o3) :: (157, o4) :: (106, o5) :: (pl, o6) :: (cP, o') :: (I, o8) :: (l, o9) :: tl) :=
  let f := S.f
  .tail h (.tail (Ne.symm f.n4.2.2.1) (.tail f.n1.2.2.1 (.tail f.n2.2.1 (.tail (Ne.symm f.n4.2.2.2.1) (.tail (Ne.symm f.n4.2.2.2.2) (.tail f.n3.1 (.head (List.forall_mem_cons.mpr ⟨Ne.symm f.n4.1, List.forall_mem_cons.mpr ⟨Ne.symm f.n4.2.1, fun q hq => (f.t q hq).2.2.2.1⟩⟩))))))))
theorem Sep.updPl {o o' : Obj} (S : Sep r d pl cP I l tl) : Upd pl o o' ((99, o1) :: (r, o2) :: (d, o3) :: (157, o4) :: (106, o5) :: (pl, o) :: (cP, o7) :: (I, o8) :: (l, o9) :: tl)
    ((99, o1) :: (r, o2) :: (d, o3) :: (157, o4) :: (106, o5) :: (pl, o') :: (cP, o7) :: (I, o8) :: (l, o9) :: tl) :=
  let f := S.f
  .tail (Ne.symm f.n3.2.2.2.1) (.tail f.n1.2.1 (.tail f.n2.1 (.tail (Ne.symm f.n3.2.2.2.2.1) (.tail (Ne.symm f.n3.2.2.2.2.2) (.head (List.forall_mem_cons.mpr ⟨Ne.symm f.n3.1, List.forall_mem_cons.mpr ⟨Ne.symm f.n3.2.1, List.forall_mem_cons.mpr ⟨Ne.symm f.n3.2.2.1, fun q hq => (f.t q hq).2.2.1⟩⟩⟩))))))
end
end
section
local macro_rules | `(tactic| walk_at "call ref") => `(tactic| refine Stop.go ?_)
local macro_rules | `(tactic| walk_at "eval ListComp") => `(tactic| refine Stop.go ?_)
theorem freshTurA : True := by
  w_top off
  k_with_none
  trivial
section
open PySem.Spec
set_option maxRecDepth 100000

theorem sum_plen : ∀ qs : List Nat, (qs.map fun q => ((plen q : Nat) : Int)).sum = ((sumL qs : Nat) : Int)
  | [] => rfl
  | q :: qs => by
    have := sum_plen qs
    simp only [sumL, List.map_cons, List.sum_cons] at this ⊢
    omega
theorem px_first {c r d pl cP I l : Addr} {o o1 o2 o3 o4 o5 o6 o7 o8 o9 : Obj} {tl : List (Addr × Obj)} : ∀ q ∈ (99, o1) :: (r, o2) :: (d, o3) :: (157, o4) :: (106, o5) :: (pl, o6) :: (cP, o7) :: (I, o8) :: (l, o9) :: (c, o) :: tl,
    q ∈ (c, o) :: (99, o1) :: (r, o2) :: (d, o3) :: (157, o4) :: (106, o5) :: (pl, o6) :: (cP, o7) :: (I, o8) :: (l, o9) :: tl := by
  (repeat refine sub_cons (by k_mem) ?_)
  exact fun q hq => by repeat (first | exact hq | refine .tail _ ?_)
theorem sgn_of {o : Option Value} {size a b : Int} {t : Tok} (h : o = some (.int (size + a) t)) (e : a = b) : o = some (.int (size + b) t) := e ▸ h
set_option maxHeartbeats 8000000 in
theorem turn1 {w : World} {p : Program} {loose : List Str} {mean : ExcName → Option Value} {mg mb : Str → Option Value}
    {dp un : Nat} {gd : Option (List Code)} {cn : Str} {a : Addr} {ccd : Value} {A₀ : Around} {base h₀ : Heap} {L : Addr} {m : Str → Option Value} {s : Shared} {Q : Flow → Shared → Prop} {E : Value → Shared → Prop}
    {I l r d pl cP : Addr} {vs : List Value} {n n2 : Nat} {hs : Int} {tkd tsz tx : Tok} {size x : Int} {nd : Nat} {oI ol oL oS oc : Obj} {ov : Option Value} {ps : Array Value} {tl : List (Addr × Obj)} {qs : List Nat}
    (B : Below A₀ base [] h₀) (F₀ : Fr h₀ L s.heap m) (X : (hd.heap_1 w.params).In h₀)
    (N : News h₀ L s.heap ((99, oL) :: (r, rowObj d vs n) :: (d, dObj hs tkd size tsz nd) :: (157, tabObj ps) :: (106, oS) :: (pl, W.listOf vs.toArray n2) :: (cP, oc) :: (I, oI) :: (l, ol) :: tl)) (T : Top p loose mean mg mb h₀)
    (mx : m "x" = some (.int x tx)) (mrow : m "row" = some (.ref r)) (mpl : m "plain" = some (.ref pl)) (msz : m "size" = some (.int size tsz))
    (hc : oc.data = .cell ov)
    (hd1 : dp + 60 < recursionLimit) (hu1 : un + 200 < cLine)
    (sep : Sep r d pl cP I l tl) (Le : Led tl vs qs) (h1 : 0 ≤ size) (h2 : size ≤ 2) (h3 : qs.length ≤ 15)
    (hnext : ∀ (px : Addr) (u1 u2 t1 t2 t3 t4 t5 t6 : Tok) (oc' : Obj) (m' : Str → Option Value) (h' : Heap) (tk' : Nat), oc'.data = .cell (some (.ref px)) → Fr h₀ L h' m' →
      News h₀ L h' ((99, oL) :: (r, rowObj d vs n) :: (d, dObj hs tkd size tsz nd) :: (157, tabObj ps) :: (106, oS) :: (pl, W.listOf vs.toArray n2) :: (cP, oc') :: (I, oI) :: (l, ol) :: (px, pieceObj (prank (x % 7).toNat) u1 u2) :: tl) →
      Sep r d pl cP I l ((px, pieceObj (prank (x % 7).toNat) u1 u2) :: tl) →
      m' "x" = some (.int x tx) → m' "row" = some (.ref r) → m' "plain" = some (.ref pl) → m' "size" = some (.int size tsz) →
      m' "many" = some (.int qs.length t1) → m' "signs" = some (.int (size + (sumL qs : Nat)) t2) → m' "lesser" = some (.int ((qs.filter fun q => decide (q < prank (x % 7).toNat)).length : Nat) t3) →
      m' "upto" = some (.int ((qs.filter fun q => decide (q ≤ prank (x % 7).toNat)).length : Nat) t4) → m' "front" = some (.int ((qs.filter fun q => decide (fr q < fr (prank (x % 7).toNat))).length : Nat) t5) →
      m' "within" = some (.int ((qs.filter fun q => decide (fr q ≤ fr (prank (x % 7).toNat))).length : Nat) t6) →
      wpAny (model PP w) (ktrTop dp un gd cn lawScope L a ccd [("piece", cP)] []) (execs (turnBody.drop 7) (envX cn lawScope L a ccd [("piece", cP)])) Q E { s with heap := h', toks := tk' }) :
    wpAny (model PP w) (ktrTop dp un gd cn lawScope L a ccd [("piece", cP)] []) (execs turnBody (envX cn lawScope L a ccd [("piece", cP)])) Q E s := by
  have F := fr_chain F₀ [("x", .int x tx), ("row", .ref r), ("plain", .ref pl), ("size", .int size tsz)] ⟨mx, mrow, mpl, msz, trivial⟩
  dsimp only [chain] at F
  refine execs_app 7 turnBody ?_
  generalize hR : List.drop 7 turnBody = R at hnext ⊢
  conv in (execs (List.take 7 turnBody) _) => arg 1; whnf; arg 2; whnf; arg 2; whnf; arg 2; whnf; arg 2; whnf; arg 2; whnf; arg 2; whnf; arg 2; whnf
  conv =>
    pattern (occs := *) lawScope
    all_goals whnf
  k_steps
  show wpAny _ _ (call _ _ _) _ _ _
  refine piece_spec B F X N T rfl (room hd1 rfl) (room hu1 rfl) ?_
  intro px u1 u2 h₁ tk₁ F₁ N₁ fr₁
  k_steps
  have hpc : px ≠ cP := Nat.ne_of_gt (fr₁ (cP, oc) (by k_mem))
  refine storeX_C F₁ N₁ (c := cP) rfl (sep.updC hpc) hc ?_
  intro h₂ oc' F₂ N₂ hc'
  have Le₂ : ∀ {news : List (Addr × Obj)}, (∀ q ∈ tl, q ∈ news) → Led news vs qs := fun h => Le.mono h
  have hx7 : prank (x % 7).toNat < 7 := prank_lt _
  have hsz : vs.toArray.size = qs.length := by simp [Le.len]
  have hq62 : qs.length < 2 ^ 62 := by omega
  have hvs : vs.length ≤ 20 := by rw [Le.len]; omega
  k_steps
  show wpAny _ _ (eval _ _) _ _ _
  refine lens_plain (by k_asm) X (by k_asm) T rfl (by k_mem) (Le₂ (fun q hq => by repeat (first | exact hq | refine .tail _ ?_))) hvs (room hd1 rfl) (room hu1 rfl) ?_
  intro D ys h₃ tk₃ hy F₃ N₃
  k_steps
  show wpAny _ _ (eval _ _) _ _ _
  refine cnt_lt (px := px) (by k_asm) X (by k_asm) T rfl (by k_mem) (by k_mem) hc' (by k_mem) hx7 (Le₂ (fun q hq => by repeat (first | exact hq | refine .tail _ ?_))) hvs (room hd1 rfl) (room hu1 rfl) ?_
  intro D0 ys0 g0 tk0 hy0 G0 M0
  obtain ⟨hw0, hv0⟩ := cnt_size hy0 h3
  k_steps
  show wpAny _ _ (eval _ _) _ _ _
  refine cnt_le (px := px) (by k_asm) X (by k_asm) T rfl (by k_mem) (by k_mem) hc' (by k_mem) hx7 (Le₂ (fun q hq => by repeat (first | exact hq | refine .tail _ ?_))) hvs (room hd1 rfl) (room hu1 rfl) ?_
  intro D1 ys1 g1 tk1 hy1 G1 M1
  obtain ⟨hw1, hv1⟩ := cnt_size hy1 h3
  k_steps
  show wpAny _ _ (eval _ _) _ _ _
  refine cnt_flt (px := px) (by k_asm) X (by k_asm) T rfl (by k_mem) (by k_mem) hc' (by k_mem) hx7 (Le₂ (fun q hq => by repeat (first | exact hq | refine .tail _ ?_))) hvs (room hd1 rfl) (room hu1 rfl) ?_
  intro D2 ys2 g2 tk2 hy2 G2 M2
  obtain ⟨hw2, hv2⟩ := cnt_size hy2 h3
  k_steps
  show wpAny _ _ (eval _ _) _ _ _
  refine cnt_fle (px := px) (by k_asm) X (by k_asm) T rfl (by k_mem) (by k_mem) hc' (by k_mem) hx7 (Le₂ (fun q hq => by repeat (first | exact hq | refine .tail _ ?_))) hvs (room hd1 rfl) (room hu1 rfl) ?_
  intro D3 ys3 g3 tk3 hy3 G3 M3
  obtain ⟨hw3, hv3⟩ := cnt_size hy3 h3
  k_steps
  show wpAny _ _ (execs R _) _ _ _
  refine hnext px u1 u2 _ _ _ _ _ _ oc' _ _ _ hc' (by k_asm) (news_sub (by k_asm) (fun q hq => .tail _ (.tail _ (.tail _ (.tail _ (.tail _ (px_first q hq))))))) (sep.new fr₁) rfl rfl rfl rfl rfl (sgn_of rfl (sum_plen qs)) rfl rfl rfl rfl
end
theorem freshCmpO : True := by
  w_top off
  k_with_none
  trivial
section
open PySem.Spec
set_option maxRecDepth 100000
theorem cmp_optV {w : World} {A : Around} {E : Value → Shared → Prop} {s : Shared} {Q : Value → Shared → Prop} {t t' : Tok} {o : Option Int} (hh : A.units < cLine) (h : Q (.bool false) s) :
    wpAny (model PP w) A (compareOp .NotEq (optV t o) (optV t' o)) Q E s := by
  cases o with
  | none => 
    show wpAny _ _ (compareOp .NotEq .none .none) _ _ _
    k_steps
    exact h
  | some k => 
    show wpAny _ _ (compareOp .NotEq (.int k t) (.int k t')) _ _ _
    k_steps
    rw [show (k != k) = false by simp]
    exact h
end
theorem freshTurB : True := by
  w_top off
  k_with_none
  trivial
section
open PySem.Spec
set_option maxRecDepth 100000
local macro_rules | `(tactic| walk_at "compareOp") => `(tactic| (refine cmp_optV (by assumption) ?_))

theorem place_in {w : World} {p : Program} {loose : List Str} {mean : ExcName → Option Value} {mg mb : Str → Option Value}
    {dp un : Nat} {gd : Option (List Code)} {cn : Str} {cs : Scope} {a : Addr} {ccd : Value} {cl : List (Str × Addr)} {outer : List Env} {A₀ : Around} {base h₀ : Heap} {L : Addr} {m : Str → Option Value} {news : List (Addr × Obj)} {s : Shared} {Q E : Value → Shared → Prop}
    (B : Below A₀ base outer h₀) (F : Fr h₀ L s.heap m) (X : (hd.heap_1 w.params).In h₀) (N : News h₀ L s.heap news) (T : Top p loose mean mg mb h₀) (hk : cs.kind = .function)
    (hd1 : dp + 60 < recursionLimit) (hu1 : un + 200 < cLine)
    {many sm count : Nat} {size : Int} {t1 t2 t3 : Tok} (h1 : 0 ≤ size) (h2 : size ≤ 2) (h3 : many ≤ 15) (h4 : sm ≤ 60) (h5 : count ≤ many)
    (hret : ∀ (t : Tok) (h' : Heap) (tk' : Nat), Fr h₀ L h' m → News h₀ L h' news → Q (optV t (lawPlace many (size + (sm : Nat)) (count : Nat))) { s with heap := h', toks := tk' }) :
    wpAny (model PP w) (ktrTop dp un gd cn cs L a ccd cl outer) (call (.ref 155) [.int many t1, .int (size + (sm : Nat)) t2, .int (count : Nat) t3]) Q E s :=
  place_spec B F X N T hk (room hd1 rfl) (room hu1 rfl) (by omega) (by omega) (by omega) (by omega) (by omega) (by omega) hret
set_option maxHeartbeats 8000000 in
theorem turn2 {w : World} {p : Program} {loose : List Str} {mean : ExcName → Option Value} {mg mb : Str → Option Value}
    {dp un : Nat} {gd : Option (List Code)} {cn : Str} {a : Addr} {ccd : Value} {A₀ : Around} {base h₀ : Heap} {L : Addr} {m : Str → Option Value} {s : Shared} {Q : Flow → Shared → Prop} {E : Value → Shared → Prop}
    {I l r d pl cP px : Addr} {vs : List Value} {n n2 : Nat} {hs : Int} {tkd tsz u1 u2 t1 t2 t3 t4 t5 t6 : Tok} {size : Int} {nd y c1 c2 c3 c4 : Nat} {oI ol oL oS oc : Obj} {ps : Array Value} {tl : List (Addr × Obj)} {qs : List Nat}
    (B : Below A₀ base [] h₀) (XB : (hd.heap_1 w.params).In base) (TB : Top p loose mean mg mb base) (F₀ : Fr h₀ L s.heap m) (X : (hd.heap_1 w.params).In h₀)
    (N : News h₀ L s.heap ((99, oL) :: (r, rowObj d vs n) :: (d, dObj hs tkd size tsz nd) :: (157, tabObj ps) :: (106, oS) :: (pl, W.listOf vs.toArray n2) :: (cP, oc) :: (I, oI) :: (l, ol) :: tl)) (T : Top p loose mean mg mb h₀)
    (mrow : m "row" = some (.ref r)) (mma : m "many" = some (.int qs.length t1)) (msg : m "signs" = some (.int (size + (sumL qs : Nat)) t2))
    (mle : m "lesser" = some (.int (c1 : Nat) t3)) (mup : m "upto" = some (.int (c2 : Nat) t4)) (mfr : m "front" = some (.int (c3 : Nat) t5)) (mwi : m "within" = some (.int (c4 : Nat) t6))
    (hc : oc.data = .cell (some (.ref px))) (hpx : (px, pieceObj y u1 u2) ∈ tl) (hy : y < 7)
    (hd1 : dp + 60 < recursionLimit) (hu1 : un + 200 < cLine)
    (okL : TabOk oL) (hK : TabK ps tl) (hB : AllBare s.gens) (sep : Sep r d pl cP I l tl) (Le : Led tl vs qs) (h1 : 0 ≤ size) (h2 : size ≤ 2) (h3 : qs.length ≤ 15)
    (k1 : c1 ≤ qs.length) (k2 : c2 ≤ qs.length) (k3 : c3 ≤ qs.length) (k4 : c4 ≤ qs.length)
    (q1 : ∀ (j q : Nat), qs[j]? = some q → (q < y ↔ j < c1)) (q2 : ∀ (j q : Nat), qs[j]? = some q → (q ≤ y ↔ j < c2))
    (q3 : ∀ (j q : Nat), qs[j]? = some q → (fr q < fr y ↔ j < c3)) (q4 : ∀ (j q : Nat), qs[j]? = some q → (fr q ≤ fr y ↔ j < c4))
    (hnext : ∀ (s' : Shared) (oL' : Obj) (ps' : Array Value) (tl' : List (Addr × Obj)), TabOk oL' → TabK ps' tl' → AllBare s'.gens → s'.os = s.os → Sep r d pl cP I l tl' → (∀ q ∈ tl, q ∈ tl') → Fr h₀ L s'.heap m →
      News h₀ L s'.heap ((99, oL') :: (r, rowObj d vs n) :: (d, dObj hs tkd size tsz nd) :: (157, tabObj ps') :: (106, oS) :: (pl, W.listOf vs.toArray n2) :: (cP, oc) :: (I, oI) :: (l, ol) :: tl') →
      wpAny (model PP w) (ktrTop dp un gd cn lawScope L a ccd [("piece", cP)] []) (execs (turnBody.drop 11) (envX cn lawScope L a ccd [("piece", cP)])) Q E s') :
    wpAny (model PP w) (ktrTop dp un gd cn lawScope L a ccd [("piece", cP)] []) (execs (turnBody.drop 7) (envX cn lawScope L a ccd [("piece", cP)])) Q E s := by
  have lk : looks m [("row", .ref r), ("many", .int qs.length t1), ("signs", .int (size + (sumL qs : Nat)) t2), ("lesser", .int (c1 : Nat) t3), ("upto", .int (c2 : Nat) t4), ("front", .int (c3 : Nat) t5), ("within", .int (c4 : Nat) t6)] := ⟨mrow, mma, msg, mle, mup, mfr, mwi, trivial⟩
  have F := fr_chain F₀ _ lk
  have back : ∀ {h : Heap}, Fr h₀ L h (chain m _) → Fr h₀ L h m := fun {h} F => (chain_eq m _ lk) ▸ F
  dsimp only [chain] at F back
  have hs2 : sumL qs ≤ 60 := Nat.le_trans (sumL_le qs) (by omega)
  have huc : un < cLine := by omega
  refine execs_app 4 (turnBody.drop 7) ?_
  conv in (execs (List.take 4 _) _) => arg 1; whnf; arg 2; whnf; arg 2; whnf; arg 2; whnf; arg 2; whnf
  rw [show List.drop 4 (List.drop 7 turnBody) = List.drop 11 turnBody from List.drop_drop]
  generalize hR : List.drop 11 turnBody = R at hnext ⊢
  conv =>
    pattern (occs := *) lawScope
    all_goals whnf
  k_steps
  show wpAny _ _ (call _ _ _) _ _ _
  refine asked_tf B XB TB (by k_asm) X (by k_asm) T rfl (room hd1 rfl) (room hu1 rfl) okL sep.ne99 (Le.mono fun q hq => sub6 hq) hB h1 h2 (by omega) (sub6 hpx) hy k1 q1 ?_
  intro t s1 oL1 F1 N1 okL1 hB1 hos1
  k_steps
  show wpAny _ _ (call _ _ _) _ _ _
  refine place_in B (by k_asm) X (by k_asm) T rfl hd1 hu1 h1 h2 h3 hs2 (by assumption) ?_
  intro pt1 ph1 ptk1 PF1 PN1
  k_steps
  show wpAny _ _ (call _ _ _) _ _ _
  refine asked_ff B XB TB (by k_asm) X (by k_asm) T rfl (room hd1 rfl) (room hu1 rfl) okL1 sep.ne99 (Le.mono fun q hq => sub6 hq) hB1 h1 h2 (by omega) (sub6 hpx) hy k2 q2 ?_
  intro t s2 oL2 F2 N2 okL2 hB2 hos2
  k_steps
  show wpAny _ _ (call _ _ _) _ _ _
  refine place_in B (by k_asm) X (by k_asm) T rfl hd1 hu1 h1 h2 h3 hs2 (by assumption) ?_
  intro pt2 ph2 ptk2 PF2 PN2
  k_steps
  show wpAny _ _ (call _ _ _) _ _ _
  refine asked_tt B XB TB (by k_asm) X (by k_asm) T rfl (room hd1 rfl) (room hu1 rfl) okL2 hK (fun q hq => sub5 hq) sep.ne99k (Le.mono fun q hq => sub5 hq) hB2 h1 h2 (by omega) (sub5 hpx) hy k3 q3 ?_
  intro t s3 oL3 ps3 ca3 oa3 F3 N3' okL3 hK3 fr3 hB3 hos3
  have N3 := news_sub N3' ask_sub
  clear N3'
  k_steps
  show wpAny _ _ (call _ _ _) _ _ _
  refine place_in B (by k_asm) X (by k_asm) T rfl hd1 hu1 h1 h2 h3 hs2 (by assumption) ?_
  intro pt3 ph3 ptk3 PF3 PN3
  k_steps
  show wpAny _ _ (call _ _ _) _ _ _
  refine asked_ft B XB TB (by k_asm) X (by k_asm) T rfl (room hd1 rfl) (room hu1 rfl) okL3 hK3 (fun q hq => sub5 hq) (sep.ask fr3).ne99k (Le.mono fun q hq => sub5 (.tail _ hq)) hB3 h1 h2 (by omega) (sub5 (.tail _ hpx)) hy k4 q4 ?_
  intro t s4 oL4 ps4 ca4 oa4 F4 N4' okL4 hK4 fr4 hB4 hos4
  have N4 := news_sub N4' ask_sub
  clear N4'
  k_steps
  show wpAny _ _ (call _ _ _) _ _ _
  refine place_in B (by k_asm) X (by k_asm) T rfl hd1 hu1 h1 h2 h3 hs2 (by assumption) ?_
  intro pt4 ph4 ptk4 PF4 PN4
  k_steps
  show wpAny _ _ (execs R _) _ _ _
  exact hnext _ oL4 ps4 ((ca4, oa4) :: (ca3, oa3) :: tl) okL4 hK4 hB4 (hos4.trans (hos3.trans (hos2.trans hos1))) ((sep.ask fr3).ask fr4) (fun q hq => .tail _ (.tail _ hq)) (back (by k_asm)) (by k_asm)
end
section
noncomputable def Srt (qs : List Nat) : Prop := qs.Pairwise (· ≤ ·)
theorem cnt_of (p : Nat → Bool) : ∀ {qs : List Nat}, qs.Pairwise (fun a b => p b = true → p a = true) → ∀ (j q : Nat), qs[j]? = some q → (p q = true ↔ j < (qs.filter p).length)
  | [], _, j, q, h => by simp at h
  | a :: qs, hs, j, q, h => by
    obtain ⟨h1, h2⟩ := List.pairwise_cons.mp hs
    by_cases ha : p a = true
    · rw [List.filter_cons_of_pos ha]
      cases j with
      | zero =>
        cases h
        simp [ha]
      | succ j =>
        have := cnt_of p h2 j q h
        rw [this, List.length_cons]
        omega
    · have hn : ∀ b ∈ qs, ¬ p b = true := fun b hb hp => ha (h1 b hb hp)
      have he : qs.filter p = [] := by
        rw [List.filter_eq_nil_iff]; exact hn
      rw [List.filter_cons_of_neg ha, he]
      simp only [List.length_nil, Nat.not_lt_zero, iff_false]
      cases j with
      | zero => cases h; exact ha
      | succ j => exact hn q (List.mem_of_getElem? h)
theorem ct_len (p : Nat → Bool) (qs : List Nat) : (qs.filter p).length ≤ qs.length := List.length_filter_le p qs
theorem ct_lt {qs : List Nat} (S : Srt qs) (x : Nat) : ∀ (j q : Nat), qs[j]? = some q → (q < x ↔ j < (qs.filter fun q => decide (q < x)).length) := fun j q h => by
  have := cnt_of (fun q => decide (q < x)) (S.imp fun {a b} h hb => by simp only [decide_eq_true_eq] at hb ⊢; omega) j q h
  simpa using this
theorem ct_le {qs : List Nat} (S : Srt qs) (x : Nat) : ∀ (j q : Nat), qs[j]? = some q → (q ≤ x ↔ j < (qs.filter fun q => decide (q ≤ x)).length) := fun j q h => by
  have := cnt_of (fun q => decide (q ≤ x)) (S.imp fun {a b} h hb => by simp only [decide_eq_true_eq] at hb ⊢; omega) j q h
  simpa using this
theorem fr_mono {a b : Nat} (h : a ≤ b) : fr a ≤ fr b := by
  unfold fr
  split <;> split <;> (try split) <;> (try split) <;> omega
theorem ct_flt {qs : List Nat} (S : Srt qs) (x : Nat) : ∀ (j q : Nat), qs[j]? = some q → (fr q < fr x ↔ j < (qs.filter fun q => decide (fr q < fr x)).length) := fun j q h => by
  have := cnt_of (fun q => decide (fr q < fr x)) (S.imp fun {a b} h hb => by have := fr_mono h; simp only [decide_eq_true_eq] at hb ⊢; omega) j q h
  simpa using this
theorem ct_fle {qs : List Nat} (S : Srt qs) (x : Nat) : ∀ (j q : Nat), qs[j]? = some q → (fr q ≤ fr x ↔ j < (qs.filter fun q => decide (fr q ≤ fr x)).length) := fun j q h => by
  have := cnt_of (fun q => decide (fr q ≤ fr x)) (S.imp fun {a b} h hb => by have := fr_mono h; simp only [decide_eq_true_eq] at hb ⊢; omega) j q h
  simpa using this
theorem srt_ins {qs : List Nat} (S : Srt qs) {x c : Nat} (h1 : ∀ (j q : Nat), j < c → qs[j]? = some q → q ≤ x) (h2 : ∀ (j q : Nat), c ≤ j → qs[j]? = some q → x ≤ q) : Srt (qs.take c ++ x :: qs.drop c) := by
  have st : (qs.take c).Pairwise (· ≤ ·) := S.sublist (List.take_sublist c qs)
  have sd : (qs.drop c).Pairwise (· ≤ ·) := S.sublist (List.drop_sublist c qs)
  have ht : ∀ a ∈ qs.take c, a ≤ x := fun a ha => by
    obtain ⟨j, hj⟩ := List.getElem?_of_mem ha
    rw [List.getElem?_take] at hj
    split at hj
    · exact h1 j a (by assumption) hj
    · cases hj
  have hd : ∀ b ∈ qs.drop c, x ≤ b := fun b hb => by
    obtain ⟨j, hj⟩ := List.getElem?_of_mem hb
    rw [List.getElem?_drop] at hj
    exact h2 (c + j) b (by omega) hj
  refine List.pairwise_append.mpr ⟨st, List.pairwise_cons.mpr ⟨hd, sd⟩, ?_⟩
  intro a ha b hb
  rcases List.mem_cons.mp hb with rfl | hb
  · exact ht a ha
  · exact Nat.le_trans (ht a ha) (hd b hb)
theorem lp_eq {many signs c k : Int} (h : lawPlace many signs c = some k) (hm : many ≤ signs) (hc : c ≤ many) : k = c := by
  unfold lawPlace at h
  split at h
  · have := Option.some.inj h
    omega
  · exact placeLoop_some _ h
theorem lp_small {many signs c : Int} (h : signs < many) : lawPlace many signs c ≠ none := by
  unfold lawPlace
  rw [if_pos (by omega)]
  intro e; cases e
end
theorem freshCmpL : True := by
  w_top off
  k_with_none
  trivial
section
open PySem.Spec
set_option maxRecDepth 100000
section
variable {w : World} {A : Around} {E : Value → Shared → Prop} {s : Shared} {Q : Value → Shared → Prop}
theorem ne_lists {a b : Addr} {vs : List Value} {n n2 : Nat} (ha : s.heap.get? a = some (W.listOf vs.toArray n)) (hb : s.heap.get? b = some (W.listOf vs.toArray n2)) (hu : A.units < cLine) (h : Q (.bool false) s) :
    wpAny (model PP w) A (compareOp .NotEq (.ref a) (.ref b)) Q E s := by
  refine cmp_ofNotEq ?_
  refine richCompare_meets_room (op := .NotEq) ⟨_, ha, rfl⟩ ⟨_, hb, rfl⟩ PySem.F.slot_list_ne PySem.F.entry_list_ne (PySem.F.args_list_ne_2 _ _) (PySem.SeqAt.list_neAt a b vs.toArray vs.toArray n n2 none none #[] #[] rfl (fun _ => true)) ⟨ha, hb, fun j h1 h2 => PySem.SeqAt.EqAt.same _, ?_⟩ hu
  have e : (!(List.range vs.toArray.size).all fun _ => true) = false := by simp
  rw [e]
  exact ⟨(by intro e; cases e), h⟩
theorem ne_nil {a b : Addr} {vs : List Value} {n n2 : Nat} (ha : s.heap.get? a = some (W.listOf vs.toArray n)) (hb : s.heap.get? b = some (W.listOf #[] n2)) (hu : A.units < cLine) (h : Q (.bool (!vs.isEmpty)) s) :
    wpAny (model PP w) A (compareOp .NotEq (.ref a) (.ref b)) Q E s := by
  refine cmp_ofNotEq ?_
  cases vs with
  | nil =>
    refine richCompare_meets_room (op := .NotEq) ⟨_, ha, rfl⟩ ⟨_, hb, rfl⟩ PySem.F.slot_list_ne PySem.F.entry_list_ne (PySem.F.args_list_ne_2 _ _) (PySem.SeqAt.list_neAt a b #[] #[] n n2 none none #[] #[] rfl (fun _ => true)) ⟨ha, hb, fun j h1 h2 => absurd h1 (Nat.not_lt_zero _), ?_⟩ hu
    exact ⟨(by intro e; cases e), h⟩
  | cons v vs =>
    refine richCompare_meets_room (op := .NotEq) ⟨_, ha, rfl⟩ ⟨_, hb, rfl⟩ PySem.F.slot_list_ne PySem.F.entry_list_ne (PySem.F.args_list_ne_2 _ _) (PySem.SeqAt.list_ne_lengthsAt a b _ _ n n2 none none #[] #[] (by simp)) ⟨ha, hb, ?_⟩ hu
    exact ⟨(by intro e; cases e), h⟩
theorem ne_pieces {a b : Addr} {i : Nat} {t1 t2 u1 u2 : Tok} (ha : s.heap.get? a = some (pieceObj i t1 t2)) (hb : s.heap.get? b = some (pieceObj i u1 u2)) (hu : A.units < cLine) (h : Q (.bool false) s) :
    wpAny (model PP w) A (compareOp .NotEq (.ref a) (.ref b)) Q E s := by
  refine cmp_ofNotEq ?_
  refine richCompare_meets_room (op := .NotEq) ⟨_, ha, rfl⟩ ⟨_, hb, rfl⟩ PySem.F.slot_tuple_ne PySem.F.entry_tuple_ne (PySem.F.args_tuple_ne_2 _ _) (PySem.SeqAt.tuple_neAt a b #[.str (fw i) t1, .str (pt i) t2] #[.str (fw i) u1, .str (pt i) u2] _ _ none none #[] #[] (fun _ => true)) ⟨ha, hb, ?_, ?_⟩ hu
  · intro j h1 h2
    have hj : j = 0 ∨ j = 1 := by simp at h1; omega
    rcases hj with rfl | rfl
    · have z := PySem.SeqAt.EqAt.str_str (A := A.in1) (s := s) (fw i) t1 (fw i) u1
      rw [show (fw i == fw i) = true by simp] at z
      exact z
    · have z := PySem.SeqAt.EqAt.str_str (A := A.in1) (s := s) (pt i) t2 (pt i) u2
      rw [show (pt i == pt i) = true by simp] at z
      exact z
  · exact ⟨(by intro e; cases e), h⟩
section
variable {h₀ : Heap} {L : Addr} {news : List (Addr × Obj)}
theorem ne_listsN {a b : Addr} {vs : List Value} {n n2 : Nat} (N : News h₀ L s.heap news) (ha : (a, W.listOf vs.toArray n) ∈ news) (hb : (b, W.listOf vs.toArray n2) ∈ news) (hu : A.units < cLine) (h : Q (.bool false) s) :
    wpAny (model PP w) A (compareOp .NotEq (.ref a) (.ref b)) Q E s := ne_lists (N _ ha).1 (N _ hb).1 hu h
theorem ne_nilN {a b : Addr} {vs : List Value} {n n2 : Nat} (N : News h₀ L s.heap news) (ha : (a, W.listOf vs.toArray n) ∈ news) (hb : (b, W.listOf #[] n2) ∈ news) (hu : A.units < cLine) (h : Q (.bool (!vs.isEmpty)) s) :
    wpAny (model PP w) A (compareOp .NotEq (.ref a) (.ref b)) Q E s := ne_nil (N _ ha).1 (N _ hb).1 hu h
theorem ne_piecesN {a b : Addr} {i : Nat} {t1 t2 u1 u2 : Tok} (N : News h₀ L s.heap news) (ha : (a, pieceObj i t1 t2) ∈ news) (hb : (b, pieceObj i u1 u2) ∈ news) (hu : A.units < cLine) (h : Q (.bool false) s) :
    wpAny (model PP w) A (compareOp .NotEq (.ref a) (.ref b)) Q E s := ne_pieces (N _ ha).1 (N _ hb).1 hu h
end
end
theorem kp_from (vs : List Value) (c : Nat) : kms_pick vs (some (c : Int)) none = vs.drop c := by
  unfold kms_pick kms_lo kms_hi
  dsimp only
  rw [if_neg (by omega), Int.toNat_natCast]
  by_cases h : c ≤ vs.length
  · rw [Nat.min_eq_left h, List.take_of_length_le (by rw [List.length_drop]; omega)]
  · rw [Nat.min_eq_right (by omega), List.drop_of_length_le (l := vs) (i := c) (by omega), List.drop_of_length_le (Nat.le_refl _)]
    simp
theorem kp_upto (vs : List Value) (c : Nat) : kms_pick vs none (some (c : Int)) = vs.take c := by
  unfold kms_pick kms_lo kms_hi
  dsimp only
  rw [if_neg (by omega), Int.toNat_natCast, List.drop_zero, Nat.sub_zero]
  by_cases h : c ≤ vs.length
  · rw [Nat.min_eq_left h]
  · rw [Nat.min_eq_right (by omega), List.take_of_length_le (Nat.le_refl _), List.take_of_length_le (by omega)]
section
variable {w : World} {A : Around} {E : Value → Shared → Prop} {s : Shared} {Q : Value → Shared → Prop} {h₀ : Heap} {L pl : Addr} {m : Str → Option Value} {news : List (Addr × Obj)} {vs : List Value} {n c : Nat} {t : Tok} {x : Str} {p1 p2 : Pos} {e : PySem.Expr}
theorem slice_from (F : Fr h₀ L s.heap m) (N : News h₀ L s.heap news) (hm : (pl, W.listOf vs.toArray n) ∈ news) (hz : vs.length ≤ 20)
    (h : ∀ D h', Fr h₀ L h' m → News h₀ L h' ((D, W.listOf (vs.drop c).toArray 0) :: news) → (∀ p ∈ news, p.1 < D) → Q (.ref D) { s with heap := h' }) :
    wpAny (model PP w) A (subscriptTail (.Name x p1) (.Slice (some e) none none p2) (.ref pl) (.ref s.heap.objs.size)) Q E { s with heap := s.heap.push { cls := .type "slice", data := .fields #[.int (c : Int) t, .none, .none] } } :=
  kms_slice_lit F N (News.isList N hm) (IsPart.int _ _) IsPart.none (kp_from vs c) h (by with_unfolding_all rfl) (by intro _; with_unfolding_all rfl) (by show vs.length ≤ _; rw [sizeLine_eq]; omega)
theorem slice_upto (F : Fr h₀ L s.heap m) (N : News h₀ L s.heap news) (hm : (pl, W.listOf vs.toArray n) ∈ news) (hz : vs.length ≤ 20)
    (h : ∀ D h', Fr h₀ L h' m → News h₀ L h' ((D, W.listOf (vs.take c).toArray 0) :: news) → (∀ p ∈ news, p.1 < D) → Q (.ref D) { s with heap := h' }) :
    wpAny (model PP w) A (subscriptTail (.Name x p1) (.Slice none (some e) none p2) (.ref pl) (.ref s.heap.objs.size)) Q E { s with heap := s.heap.push { cls := .type "slice", data := .fields #[.none, .int (c : Int) t, .none] } } :=
  kms_slice_lit F N (News.isList N hm) IsPart.none (IsPart.int _ _) (kp_upto vs c) h (by with_unfolding_all rfl) (by intro _; with_unfolding_all rfl) (by show vs.length ≤ _; rw [sizeLine_eq]; omega)
end
end
theorem freshDeedD : True := by
  w_top off
  k_with_none
  trivial
section
open PySem.Spec
set_option maxRecDepth 100000
noncomputable def ifS : Stmt := turnBody.getD 12 default
noncomputable def tA : Expr := match ifS with | .If t _ _ _ => t | _ => default
noncomputable def bA : List Stmt := match ifS with | .If _ b _ _ => b | _ => []
noncomputable def pA : Pos := match ifS with | .If _ _ _ p => p | _ => default
noncomputable def ifB : Stmt := match ifS with | .If _ _ (e :: _) _ => e | _ => default
noncomputable def tB : Expr := match ifB with | .If t _ _ _ => t | _ => default
noncomputable def bB : List Stmt := match ifB with | .If _ b _ _ => b | _ => []
noncomputable def bC : List Stmt := match ifB with | .If _ _ e _ => e | _ => []
noncomputable def pB : Pos := match ifB with | .If _ _ _ p => p | _ => default
theorem body_eq : (turnBody.drop 11).take 2 = [turnBody.getD 11 default, .If tA bA [.If tB bB bC pB] pA] := by rfl
noncomputable def StAt (h₀ : Heap) (L r d pl cP I l : Addr) (oI ol : Obj) (size : Int) (tsz : Tok) (m : Str → Option Value) (vs : List Value) (qs : List Nat) (s : Shared) : Prop :=
  ∃ (n n2 : Nat) (hs : Int) (tkd : Tok) (nd : Nat) (oL oS oc : Obj) (ov : Option Value) (ps : Array Value) (tl : List (Addr × Obj)),
    TabOk oL ∧ TabOk oS ∧ TabK ps tl ∧ Sep r d pl cP I l tl ∧ Led tl vs qs ∧ Srt qs ∧ oc.data = .cell ov ∧ AllBare s.gens ∧ Fr h₀ L s.heap m ∧
    News h₀ L s.heap ((99, oL) :: (r, rowObj d vs n) :: (d, dObj hs tkd size tsz nd) :: (157, tabObj ps) :: (106, oS) :: (pl, W.listOf vs.toArray n2) :: (cP, oc) :: (I, oI) :: (l, ol) :: tl)
theorem StAt.elim {C : Prop} {h₀ : Heap} {L r d pl cP I l : Addr} {oI ol : Obj} {size : Int} {tsz : Tok} {m : Str → Option Value} {vs : List Value} {qs : List Nat} {s : Shared} (st : StAt h₀ L r d pl cP I l oI ol size tsz m vs qs s)
    (k : ∀ (n n2 : Nat) (hs : Int) (tkd : Tok) (nd : Nat) (oL oS oc : Obj) (ov : Option Value) (ps : Array Value) (tl : List (Addr × Obj)),
      TabOk oL → TabOk oS → TabK ps tl → Sep r d pl cP I l tl → Led tl vs qs → Srt qs → oc.data = .cell ov → AllBare s.gens → Fr h₀ L s.heap m →
      News h₀ L s.heap ((99, oL) :: (r, rowObj d vs n) :: (d, dObj hs tkd size tsz nd) :: (157, tabObj ps) :: (106, oS) :: (pl, W.listOf vs.toArray n2) :: (cP, oc) :: (I, oI) :: (l, ol) :: tl) → C) : C := by
  obtain ⟨n, n2, hs, tkd, nd, oL, oS, oc, ov, ps, tl, okL, okS, hK, sep, Le, S, hc, hB, F, N⟩ := st
  exact k n n2 hs tkd nd oL oS oc ov ps tl okL okS hK sep Le S hc hB F N
theorem Led.take {tl : List (Addr × Obj)} {vs : List Value} {qs : List Nat} (Le : Led tl vs qs) (k : Nat) : Led tl (vs.take k) (qs.take k) := by
  refine ⟨by simp only [List.length_take, Le.len], fun j q hq => ?_⟩
  rw [List.getElem?_take] at hq
  split at hq
  · obtain ⟨a, t, t1, t2, e, ht⟩ := Le.at_ j q hq
    exact ⟨a, t, t1, t2, by rw [List.getElem?_take, if_pos (by assumption)]; exact e, ht⟩
  · cases hq
theorem Led.ins {tl : List (Addr × Obj)} {vs : List Value} {qs : List Nat} {px : Addr} {x : Nat} {u1 u2 : Tok} (Le : Led tl vs qs) (k : Nat) (hk : k ≤ qs.length) (h : (px, pieceObj x u1 u2) ∈ tl) (hx : x < 7) :
    Led tl (vs.take k ++ .ref px :: vs.drop k) (qs.take k ++ x :: qs.drop k) := by
  have hl := Le.len
  refine ⟨by simp only [List.length_append, List.length_cons, List.length_take, List.length_drop, hl], fun j q hq => ?_⟩
  have l1 : (qs.take k).length = k := by rw [List.length_take]; omega
  have l2 : (vs.take k).length = k := by rw [List.length_take]; omega
  by_cases h1 : j < k
  · rw [List.getElem?_append_left (by omega)] at hq ⊢
    obtain ⟨a, t, t1, t2, e, ht⟩ := (Le.take k).at_ j q hq
    exact ⟨a, t, t1, t2, e, ht⟩
  · rw [List.getElem?_append_right (by omega)] at hq ⊢
    rw [l1] at hq
    rw [l2]
    obtain ⟨i, hi⟩ : ∃ i, j - k = i := ⟨_, rfl⟩
    rw [hi] at hq ⊢
    cases i with
    | zero =>
      simp only [List.getElem?_cons_zero, Option.some.injEq] at hq ⊢
      subst hq
      exact ⟨hx, px, u1, u2, rfl, h⟩
    | succ i =>
      simp only [List.getElem?_cons_succ, List.getElem?_drop] at hq ⊢
      obtain ⟨a, t, t1, t2, e, ht⟩ := Le.at_ _ q hq
      exact ⟨a, t, t1, t2, e, ht⟩
theorem Srt.take {qs : List Nat} (S : Srt qs) (k : Nat) : Srt (qs.take k) := S.sublist (List.take_sublist k qs)
theorem kl_last_snoc : ∀ (vs : List Value) (y : Value), kl_last (vs ++ [y]) = some (vs, y)
  | [], y => rfl
  | v :: vs, y => by
    show (match kl_last (vs ++ [y]) with | some (p, y) => some (v :: p, y) | none => some ([], v)) = _
    rw [kl_last_snoc vs y]
theorem Sep.newPl {r d pl pl' cP I l : Addr} {o1 o2 o3 o4 o5 o6 o7 o8 o9 : Obj} {tl news : List (Addr × Obj)} (S : Sep r d pl cP I l tl) (h : ∀ q ∈ news, q.1 < pl')
    (hs : ∀ q ∈ (99, o1) :: (r, o2) :: (d, o3) :: (157, o4) :: (106, o5) :: (pl, o6) :: (cP, o7) :: (I, o8) :: (l, o9) :: tl, q ∈ news) : Sep r d pl' cP I l tl := by
  obtain ⟨⟨a1, a2, a3, a4, a5, a6, a7, a8⟩, ⟨b1, b2, b3, b4, b5, b6, b7⟩, ⟨e1, e2, e3, e4, e5, e6⟩, ⟨d1, d2, d3, d4, d5⟩, ⟨f1, f2, f3, f4⟩, ⟨g1, g2, g3⟩, ht⟩ := S.f
  have h' := fun q hq => h q (hs q hq)
  simp only [List.forall_mem_cons] at h'
  obtain ⟨z1, z2, z3, z4, z5, z6, z7, z8, z9, zt⟩ := h'
  refine ⟨?_, fun q hq => ?_⟩
  · simp only [List.nodup_cons, List.mem_cons, List.not_mem_nil, or_false, not_or, List.nodup_nil, and_true, not_false_eq_true]
    exact ⟨⟨a1, Nat.ne_of_lt z2, a3, a4, a5, a6, a7, a8⟩, ⟨Nat.ne_of_lt z3, b2, b3, b4, b5, b6, b7⟩, ⟨Nat.ne_of_gt z7, Nat.ne_of_gt z8, Nat.ne_of_gt z9, Nat.ne_of_gt z1, Nat.ne_of_gt z4, Nat.ne_of_gt z5⟩, ⟨d1, d2, d3, d4, d5⟩, ⟨f1, f2, f3, f4⟩, ⟨g1, g2, g3⟩, ⟨(show (99 : Nat) ≠ 157 by decide), (show (99 : Nat) ≠ 106 by decide)⟩, (show (157 : Nat) ≠ 106 by decide)⟩
  · obtain ⟨y1, y2, y3, y4, y5, y6, y7, y8, y9⟩ := ht q hq
    simp only [List.mem_cons, List.not_mem_nil, or_false, not_or]
    exact ⟨y1, y2, Nat.ne_of_lt (zt q hq), y4, y5, y6, y7, y8, y9⟩
theorem gm_pop {w : World} {A : Around} {E : Value → Shared → Prop} {s : Shared} {h₀ : Heap} {L r d : Addr} {m : Str → Option Value} {vs : List Value} {n nd : Nat} {hs size : Int} {tk t : Tok} {news : List (Addr × Obj)} {Q : Value × List Value → Shared → Prop} {pl : Sem Bool}
    (F : Fr h₀ L s.heap m) (X₀ : (hd.heap_1 w.params).In h₀) (N : News h₀ L s.heap news) (h1 : (r, rowObj d vs n) ∈ news) (h2 : (d, dObj hs tk size t nd) ∈ news) (h : Q (.ref 97, [.ref r]) s) :
    wpAny (model PP w) A (getMethod (.ref r) "pop" pl) Q E s :=
  row_meth (f := .ref 97) (tf := .type "function") F X₀ N h1 h2 (by k_is) (by kernel_rfl) (by decide +kernel) (by decide) h
theorem gm_popf {w : World} {A : Around} {E : Value → Shared → Prop} {s : Shared} {h₀ : Heap} {L r d : Addr} {m : Str → Option Value} {vs : List Value} {n nd : Nat} {hs size : Int} {tk t : Tok} {news : List (Addr × Obj)} {Q : Value × List Value → Shared → Prop} {pl : Sem Bool}
    (F : Fr h₀ L s.heap m) (X₀ : (hd.heap_1 w.params).In h₀) (N : News h₀ L s.heap news) (h1 : (r, rowObj d vs n) ∈ news) (h2 : (d, dObj hs tk size t nd) ∈ news) (h : Q (.ref 89, [.ref r]) s) :
    wpAny (model PP w) A (getMethod (.ref r) "pop_from" pl) Q E s :=
  row_meth (f := .ref 89) (tf := .type "function") F X₀ N h1 h2 (by k_is) (by kernel_rfl) (by decide +kernel) (by decide) h
theorem gm_pc {w : World} {A : Around} {E : Value → Shared → Prop} {s : Shared} {h₀ : Heap} {L r d : Addr} {m : Str → Option Value} {vs : List Value} {n nd : Nat} {hs size : Int} {tk t : Tok} {news : List (Addr × Obj)} {Q : Value × List Value → Shared → Prop} {pl : Sem Bool}
    (F : Fr h₀ L s.heap m) (X₀ : (hd.heap_1 w.params).In h₀) (N : News h₀ L s.heap news) (h1 : (r, rowObj d vs n) ∈ news) (h2 : (d, dObj hs tk size t nd) ∈ news) (h : Q (.ref 134, [.ref r]) s) :
    wpAny (model PP w) A (getMethod (.ref r) "part_count" pl) Q E s :=
  row_meth (f := .ref 134) (tf := .type "function") F X₀ N h1 h2 (by k_is) (by kernel_rfl) (by decide +kernel) (by decide) h
theorem sub_pl {r d pl : Addr} {o o1 o2 o3 o4 o5 : Obj} {tl : List (Addr × Obj)} : (pl, o) ∈ (99, o1) :: (r, o2) :: (d, o3) :: (157, o4) :: (106, o5) :: (pl, o) :: tl := .tail _ (.tail _ (.tail _ (.tail _ (.tail _ (.head _)))))
theorem ne_pieces0N {w : World} {A : Around} {E : Value → Shared → Prop} {s : Shared} {Q : Value → Shared → Prop} {h₀ : Heap} {L : Addr} {news : List (Addr × Obj)} {a b : Addr} {t1 t2 u1 u2 : Tok} (N : News h₀ L s.heap news) (ha : (a, pieceObj 0 t1 t2) ∈ news)
    (hb : (b, tupObj [.str (Str.ofString "") u1, .str (Str.ofString "") u2]) ∈ news) (hu : A.units < cLine) (h : Q (.bool false) s) :
    wpAny (model PP w) A (compareOp .NotEq (.ref a) (.ref b)) Q E s := ne_piecesN N ha (by rw [po00 u1 u2]; exact hb) hu h
theorem srt_l {qs : List Nat} {y c : Nat} (S : Srt qs) (hc : c ≤ qs.length) (h : ∀ (j q : Nat), qs[j]? = some q → (q < y ↔ j < c)) : Srt (qs.take c ++ y :: qs.drop c) :=
  srt_ins S (fun j q hj hq => Nat.le_of_lt ((h j q hq).mpr hj)) (fun j q hj hq => Nat.le_of_not_lt fun hl => absurd ((h j q hq).mp hl) (Nat.not_lt.mpr hj))
theorem srt_r {qs : List Nat} {y c : Nat} (S : Srt qs) (hc : c ≤ qs.length) (h : ∀ (j q : Nat), qs[j]? = some q → (q ≤ y ↔ j < c)) : Srt (qs.take c ++ y :: qs.drop c) :=
  srt_ins S (fun j q hj hq => (h j q hq).mpr hj) (fun j q hj hq => Nat.le_of_lt (Nat.lt_of_not_le fun hl => absurd ((h j q hq).mp hl) (Nat.not_lt.mpr hj)))
theorem kl_ins_nat (vs : List Value) (c : Nat) (v : Value) (h : c ≤ vs.length) : kl_ins vs (c : Int) v = vs.take c ++ v :: vs.drop c := by
  unfold kl_ins
  have e : (if (c : Int) < 0 then ((c : Int) + vs.length).toNat else min (c : Int).toNat vs.length) = c := by
    rw [if_neg (by omega), Int.toNat_natCast]; omega
  rw [e]
theorem fits_nat {c : Nat} (h : c ≤ 20) : Builtin.List.listFitsIndex (c : Int) = true := by
  unfold Builtin.List.listFitsIndex
  rw [Bool.and_eq_true, decide_eq_true_eq, decide_eq_true_eq]
  omega
end
section
local macro_rules | `(tactic| walk_at "getMethod ref") => `(tactic| refine Stop.go ?_)
section
local macro_rules | `(tactic| walk_at "compareOp NotEq ref ref") => `(tactic| refine Stop.go ?_)
theorem freshTurCA : True := by
  w_top off
  k_with_none
  trivial
section
open PySem.Spec
set_option maxRecDepth 100000

set_option maxHeartbeats 8000000 in
theorem turnA {w : World} {p : Program} {loose : List Str} {mean : ExcName → Option Value} {mg mb : Str → Option Value}
    {dp un : Nat} {gd : Option (List Code)} {cn : Str} {a : Addr} {ccd : Value} {A₀ : Around} {base h₀ : Heap} {L : Addr} {m : Str → Option Value} {s : Shared} {Q : Flow → Shared → Prop} {E : Value → Shared → Prop}
    {I l r d pl cP : Addr} {vs : List Value} {n n2 : Nat} {hs : Int} {tkd tsz : Tok} {size : Int} {nd : Nat} {oI ol oL oS oc : Obj} {ov : Option Value} {ps : Array Value} {tl : List (Addr × Obj)} {qs : List Nat}
    (B : Below A₀ base [] h₀) (F₀ : Fr h₀ L s.heap m) (X : (hd.heap_1 w.params).In h₀)
    (N : News h₀ L s.heap ((99, oL) :: (r, rowObj d vs n) :: (d, dObj hs tkd size tsz nd) :: (157, tabObj ps) :: (106, oS) :: (pl, W.listOf vs.toArray n2) :: (cP, oc) :: (I, oI) :: (l, ol) :: tl)) (T : Top p loose mean mg mb h₀)
    (mrow : m "row" = some (.ref r)) (mpl : m "plain" = some (.ref pl))
    (hc : oc.data = .cell ov)
    (hd1 : dp + 60 < recursionLimit) (hu1 : un + 200 < cLine)
    (okL : TabOk oL) (okS : TabOk oS) (hK : TabK ps tl) (hB : AllBare s.gens) (sep : Sep r d pl cP I l tl) (Le : Led tl vs qs) (S : Srt qs) (h3 : qs.length ≤ 15)
    (hnext : ∀ (s' : Shared) (vs' : List Value) (qs' : List Nat), StAt h₀ L r d pl cP I l oI ol size tsz m vs' qs' s' → s'.os = s.os → qs'.length ≤ qs.length + 1 → Q .next s') :
    wpAny (model PP w) (ktrTop dp un gd cn lawScope L a ccd [("piece", cP)] []) (execs bA (envX cn lawScope L a ccd [("piece", cP)])) Q E s := by
  have lk : looks m [("row", .ref r), ("plain", .ref pl)] := ⟨mrow, mpl, trivial⟩
  have F := fr_chain F₀ _ lk
  have back : ∀ {h : Heap}, Fr h₀ L h (chain m _) → Fr h₀ L h m := fun {h} F => (chain_eq m _ lk) ▸ F
  dsimp only [chain] at F back
  have hvs : vs.length ≤ 20 := by rw [Le.len]; omega
  conv in (execs _ _) => arg 1; whnf
  conv =>
    pattern (occs := *) lawScope
    all_goals whnf
  k_steps
  show wpAny _ _ (getMethod _ _ _) _ _ _
  refine gm_pop (by k_asm) X (by k_asm) (.tail _ (.head _)) (.tail _ (.tail _ (.head _))) ?_
  k_steps
  show wpAny _ _ (call _ _ _) _ _ _
  refine row_pop B (by k_asm) X (by k_asm) T rfl (room hd1 rfl) (room hu1 rfl) okL (fun q hq => (sep.ne99r q hq).2) hvs ?_ ?_
  · intro hv t u1 u2 h₁ tk₁ F₁ N₁ fr₁
    subst hv
    k_steps
    show wpAny _ _ (compareOp _ _ _) _ _ _
    refine ne_nilN (vs := []) (by k_asm) (by k_mem) (by k_mem) (by show un < _; omega) ?_
    k_steps
    show wpAny _ _ (compareOp _ _ _) _ _ _
    refine ne_pieces0N (by k_asm) (by k_mem) (by k_mem) (by show un < _; omega) ?_
    k_steps
    exact hnext _ [] qs ⟨n, n2, hs, tkd, nd, oL, oS, oc, ov, ps, tl, okL, okS, hK, sep, Le, S, hc, hB, back (by k_asm), news_sub (by k_asm) (by (repeat refine sub_cons (by k_mem) ?_); exact fun q hq => by repeat (first | exact hq | refine .tail _ ?_))⟩ rfl (Nat.le_succ _)
  · intro vs₀ y n' h₁ tk₁ hv F₁ N₁
    subst hv
    have hlen := Le.len
    rw [List.length_append, List.length_singleton] at hlen
    obtain ⟨q7, t, z1, z2, e1, e2⟩ := Le.at_ vs₀.length _ (List.getElem?_eq_getElem (by omega))
    rw [List.getElem?_append_right (Nat.le_refl _), Nat.sub_self] at e1
    have ey := Option.some.inj e1
    subst ey
    k_steps
    show wpAny _ _ (compareOp _ _ _) _ _ _
    refine ne_nilN (by k_asm) (by k_mem) (by k_mem) (by show un < _; omega) ?_
    rw [show (!(vs₀ ++ [Value.ref t]).isEmpty) = true by cases vs₀ <;> rfl]
    k_steps
    show wpAny _ _ (getMethod _ _ _) _ _ _
    refine kl_method (by k_asm) (by k_mem) PySem.F.slot_list_pop PySem.F.type_list_pop ?_
    k_steps
    refine' kl_pop (n := n2) ?F ?N (kl_last_snoc vs₀ (.ref t)) (sep.updPl (o1 := oL) (o2 := rowObj d vs₀ n') (o3 := dObj hs tkd size tsz nd) (o4 := tabObj ps) (o5 := oS) (o7 := oc) (o8 := oI) (o9 := ol)) ?z ?_
    case F => k_asm
    case N =>
      exact news_sub (by k_asm) (by (repeat refine sub_cons (by k_mem) ?_); exact fun q hq => by repeat (first | exact hq | refine .tail _ ?_))
    case z => 
      show (vs₀ ++ [Value.ref t]).length ≤ _
      rw [sizeLine_eq]; omega
    intro h₂ F₂ N₂
    k_steps
    show wpAny _ _ (compareOp _ _ _) _ _ _
    refine ne_piecesN (by k_asm) (sub9 e2) (sub9 e2) (by show un < _; omega) ?_
    k_steps
    refine hnext _ vs₀ (qs.take vs₀.length) ⟨n', n2 + 1, hs, tkd, nd, oL, oS, oc, ov, ps, tl, okL, okS, hK, sep, ?_, S.take _, hc, hB, back (by k_asm), by k_asm⟩ rfl (by rw [List.length_take]; omega)
    have z := Le.take vs₀.length
    rw [List.take_left] at z
    exact z
end
theorem freshTurCB : True := by
  w_top off
  k_with_none
  trivial
section
open PySem.Spec
set_option maxRecDepth 100000
local macro_rules | `(tactic| walk_at "subscriptTail Name Slice ref ref") => `(tactic| refine Stop.go ?_)

set_option maxHeartbeats 8000000 in
theorem turnB {w : World} {p : Program} {loose : List Str} {mean : ExcName → Option Value} {mg mb : Str → Option Value}
    {dp un : Nat} {gd : Option (List Code)} {cn : Str} {a : Addr} {ccd : Value} {A₀ : Around} {base h₀ : Heap} {L : Addr} {m : Str → Option Value} {s : Shared} {Q : Flow → Shared → Prop} {E : Value → Shared → Prop}
    {I l r d pl cP px : Addr} {vs : List Value} {n n2 : Nat} {hs : Int} {tkd tsz u1 u2 t4 : Tok} {size : Int} {nd y c2 : Nat} {oI ol oL oS oc : Obj} {ps : Array Value} {tl : List (Addr × Obj)} {qs : List Nat}
    (B : Below A₀ base [] h₀) (F₀ : Fr h₀ L s.heap m) (X : (hd.heap_1 w.params).In h₀)
    (N : News h₀ L s.heap ((99, oL) :: (r, rowObj d vs n) :: (d, dObj hs tkd size tsz nd) :: (157, tabObj ps) :: (106, oS) :: (pl, W.listOf vs.toArray n2) :: (cP, oc) :: (I, oI) :: (l, ol) :: tl)) (T : Top p loose mean mg mb h₀)
    (mrow : m "row" = some (.ref r)) (mpl : m "plain" = some (.ref pl)) (mup : m "upto" = some (.int (c2 : Nat) t4))
    (hc : oc.data = .cell (some (.ref px))) (hpx : (px, pieceObj y u1 u2) ∈ tl) (hy : y < 7) (k2 : c2 ≤ qs.length) (q2 : ∀ (j q : Nat), qs[j]? = some q → (q ≤ y ↔ j < c2))
    (hd1 : dp + 60 < recursionLimit) (hu1 : un + 200 < cLine)
    (okL : TabOk oL) (okS : TabOk oS) (hK : TabK ps tl) (hB : AllBare s.gens) (sep : Sep r d pl cP I l tl) (Le : Led tl vs qs) (S : Srt qs) (h1 : 0 ≤ size) (h2 : size ≤ 2) (h3 : qs.length ≤ 15)
    (hnext : ∀ (s' : Shared) (pl' : Addr) (vs' : List Value) (qs' : List Nat), StAt h₀ L r d pl' cP I l oI ol size tsz (fun y => if y = "plain" then some (.ref pl') else m y) vs' qs' s' → s'.os = s.os → qs'.length ≤ qs.length + 1 → Q .next s') :
    wpAny (model PP w) (ktrTop dp un gd cn lawScope L a ccd [("piece", cP)] []) (execs bB (envX cn lawScope L a ccd [("piece", cP)])) Q E s := by
  have lk : looks m [("row", .ref r), ("plain", .ref pl), ("upto", .int (c2 : Nat) t4)] := ⟨mrow, mpl, mup, trivial⟩
  have F := fr_chain F₀ _ lk
  have back : ∀ {h : Heap}, Fr h₀ L h (chain m _) → Fr h₀ L h m := fun {h} F => (chain_eq m _ lk) ▸ F
  have back2 : ∀ {h : Heap} {v : Value}, Fr h₀ L h (fun y => if y = "plain" then some v else chain m _ y) → Fr h₀ L h (fun y => if y = "plain" then some v else m y) := fun {h v} F => (chain_eq m _ lk) ▸ F
  dsimp only [chain] at F back back2
  have hvs : vs.length ≤ 20 := by rw [Le.len]; omega
  conv in (execs _ _) => arg 1; whnf
  conv =>
    pattern (occs := *) lawScope
    all_goals whnf
  k_steps
  show wpAny _ _ (getMethod _ _ _) _ _ _
  refine gm_popf (by k_asm) X (by k_asm) (.tail _ (.head _)) (.tail _ (.tail _ (.head _))) ?_
  k_steps
  show wpAny _ _ (getMethod _ _ _) _ _ _
  refine gm_pc (by k_asm) X (by k_asm) (.tail _ (.head _)) (.tail _ (.tail _ (.head _))) ?_
  k_steps
  show wpAny _ _ (call _ _ _) _ _ _
  refine part_count B (by k_asm) X (by k_asm) T rfl (room hd1 rfl) (room hu1 rfl) ?_
  intro tc h₁ tk₁ F₁ N₁
  k_steps
  show wpAny _ _ (call _ _ _) _ _ _
  have hlen := Le.len
  have hself : lawPlace qs.length (vs.length : Int) c2 = some (c2 : Int) := by rw [hlen]; exact lawPlace_self (by omega)
  refine br_int4 B (by k_asm) X (by k_asm) T rfl (room hd1 rfl) (room hu1 rfl) okL sep.ne99 (Le.mono fun q hq => sub6 hq) hB h1 h2 (by omega) (sub6 hpx) hy k2 q2 (by omega) (by omega) ?_ ?_
  rotate_left
  · intro g' e s₂ oL₂ hno
    rw [hself] at hno
    cases hno
  intro k t s₂ oL₂ hk F₂ N₂ okL₂ hB₂ hos₂
  rw [hself] at hk
  have ek := Option.some.inj hk
  subst ek
  k_steps
  show wpAny _ _ (call _ _ _) _ _ _
  refine row_popf B (by k_asm) X (by k_asm) T rfl (room hd1 rfl) (room hu1 rfl) okL₂ (fun q hq => (sep.ne99r q hq).2) hvs (by omega) (by omega) ?_
  intro pl₁ n' n'' h₃ tk₃ F₃ N₃ fr₃
  rw [Int.toNat_natCast] at N₃
  k_steps
  show wpAny _ _ (subscriptTail _ _ _ _) _ _ _
  refine slice_from F₃ N₃ (.tail _ (sub_pl)) hvs ?_
  intro pl4 h4 F4 N4 fr4
  k_steps
  show wpAny _ _ (compareOp _ _ _) _ _ _
  refine ne_listsN (by k_asm) (by k_mem) (by k_mem) (by show un < _; omega) ?_
  k_steps
  show wpAny _ _ (subscriptTail _ _ _ _) _ _ _
  refine slice_upto F4 N4 (.tail _ (.tail _ (sub_pl))) hvs ?_
  intro pl5 h5 F5 N5 fr5
  k_steps
  refine hnext _ pl5 (vs.take c2) (qs.take c2) ⟨n', 0, hs, tkd, nd, oL₂, oS, oc, _, ps, tl, okL₂, okS, hK, sep.newPl fr5 (fun q hq => .tail _ (.tail _ hq)), Le.take _, S.take _, hc, hB₂, back2 (by k_asm), news_sub (by k_asm) (by (repeat refine sub_cons (by k_mem) ?_); exact fun q hq => by repeat (first | exact hq | refine .tail _ ?_))⟩ hos₂ (by rw [List.length_take]; omega)
end
end
theorem freshTurCL : True := by
  w_top off
  k_with_none
  trivial
section
open PySem.Spec
set_option maxRecDepth 100000

set_option maxHeartbeats 8000000 in
theorem turnCL {w : World} {p : Program} {loose : List Str} {mean : ExcName → Option Value} {mg mb : Str → Option Value}
    {dp un : Nat} {gd : Option (List Code)} {cn : Str} {a : Addr} {ccd : Value} {A₀ : Around} {base h₀ : Heap} {L : Addr} {m : Str → Option Value} {s : Shared} {Q : Flow → Shared → Prop} {E : Value → Shared → Prop}
    {I l r d pl cP px : Addr} {vs : List Value} {n n2 : Nat} {hs : Int} {tkd tsz u1 u2 t1 t2 t4 : Tok} {size : Int} {nd y c : Nat} {oI ol oL oS oc : Obj} {ps : Array Value} {tl : List (Addr × Obj)} {qs : List Nat}
    (B : Below A₀ base [] h₀) (XB : (hd.heap_1 w.params).In base) (TB : Top p loose mean mg mb base) (F₀ : Fr h₀ L s.heap m) (X : (hd.heap_1 w.params).In h₀)
    (N : News h₀ L s.heap ((99, oL) :: (r, rowObj d vs n) :: (d, dObj hs tkd size tsz nd) :: (157, tabObj ps) :: (106, oS) :: (pl, W.listOf vs.toArray n2) :: (cP, oc) :: (I, oI) :: (l, ol) :: tl)) (T : Top p loose mean mg mb h₀)
    (mrow : m "row" = some (.ref r)) (mpl : m "plain" = some (.ref pl)) (mma : m "many" = some (.int qs.length t1)) (msg : m "signs" = some (.int (size + (sumL qs : Nat)) t2)) (mlf : m "left" = some (.bool true)) (mpc : m "place" = some (.int (c : Nat) t4))
    (hc : oc.data = .cell (some (.ref px))) (hpx : (px, pieceObj y u1 u2) ∈ tl) (hy : y < 7) (hcl : c ≤ qs.length) (hcnt : ∀ (j q : Nat), qs[j]? = some q → (q < y ↔ j < c))
    (hd1 : dp + 60 < recursionLimit) (hu1 : un + 200 < cLine)
    (okL : TabOk oL) (okS : TabOk oS) (hK : TabK ps tl) (hB : AllBare s.gens) (sep : Sep r d pl cP I l tl) (Le : Led tl vs qs) (S : Srt qs) (h1 : 0 ≤ size) (h2 : size ≤ 2) (h3 : qs.length ≤ 15)
    (hnext : ∀ (s' : Shared) (v : Value) (qs' : List Nat) (vs' : List Value), StAt h₀ L r d pl cP I l oI ol size tsz (fun y => if y = "told" then some v else m y) vs' qs' s' → s'.os = s.os → qs'.length ≤ qs.length + 1 → Q .next s') :
    wpAny (model PP w) (ktrTop dp un gd cn lawScope L a ccd [("piece", cP)] []) (execs (bC.drop 2) (envX cn lawScope L a ccd [("piece", cP)])) Q E s := by
  have lk : looks m [("row", .ref r), ("plain", .ref pl), ("many", .int qs.length t1), ("signs", .int (size + (sumL qs : Nat)) t2), ("left", .bool true), ("place", .int (c : Nat) t4)] := ⟨mrow, mpl, mma, msg, mlf, mpc, trivial⟩
  have F := fr_chain F₀ _ lk
  have back : ∀ {h : Heap}, Fr h₀ L h (chain m _) → Fr h₀ L h m := fun {h} F => (chain_eq m _ lk) ▸ F
  have back2 : ∀ {h : Heap} {v : Value}, Fr h₀ L h (fun y => if y = "told" then some v else chain m _ y) → Fr h₀ L h (fun y => if y = "told" then some v else m y) := fun {h v} F => (chain_eq m _ lk) ▸ F
  dsimp only [chain] at F back back2
  have hvs : vs.length ≤ 20 := by rw [Le.len]; omega
  have hlen := Le.len
  have hs2 : sumL qs ≤ 60 := Nat.le_trans (sumL_le qs) (by omega)
  have hself : lawPlace qs.length (vs.length : Int) c = some (c : Int) := by rw [Le.len]; exact lawPlace_self (by omega)
  conv in (execs _ _) => arg 1; whnf
  conv =>
    pattern (occs := *) lawScope
    all_goals whnf
  k_steps
  show wpAny _ _ (call _ _ _) _ _ _
  refine place_in B (by k_asm) X (by k_asm) T rfl hd1 hu1 h1 h2 h3 hs2 (by assumption) ?_
  intro t h₁ tk₁ F₁ N₁
  by_cases hge : (qs.length : Int) ≤ size + (sumL qs : Nat)
  · cases hlp : lawPlace (qs.length : Int) (size + (sumL qs : Nat)) (c : Nat) with
    | none =>
      dsimp only [optV]
      k_steps
      show wpAny _ _ (call _ _ _) _ _ _
      refine laid_ln B XB TB (by k_asm) X (by k_asm) T rfl (room hd1 rfl) (room hu1 rfl) okL sep.ne99r (Le.mono fun q hq => sub6 hq) hB h1 h2 (by omega) (sub6 hpx) hy hcl hcnt ?_ ?_
      · intro k n' s' oL' hk
        rw [hlp] at hk
        cases hk
      intro s1 oL1 hno F1 N1 okL1 hBL1 hos1
      k_steps
      show wpAny _ _ (getMethod _ _ _) _ _ _
      refine gm_pc (by k_asm) X (by k_asm) (.tail _ (.head _)) (.tail _ (.tail _ (.head _))) ?_
      k_steps
      show wpAny _ _ (call _ _ _) _ _ _
      refine part_count B (by k_asm) X (by k_asm) T rfl (room hd1 rfl) (room hu1 rfl) ?_
      intro tc hp tkp Fp Np
      k_steps
      show wpAny _ _ (call _ _ _) _ _ _
      refine laid_li B XB TB (by k_asm) X (by k_asm) T rfl (room hd1 rfl) (room hu1 rfl) okL1 sep.ne99r (Le.mono fun q hq => sub6 hq) hBL1 h1 h2 (by omega) (sub6 hpx) hy hcl hcnt (by omega) (by omega) ?_ ?_
      rotate_left
      · intro s' oL' hno
        rw [hself] at hno
        cases hno
      intro kk n2_ s2 oL2 hk0 hk1 hk2 F2 N2 okL2 hBL2 hos2
      rw [hself] at hk0
      have ek := Option.some.inj hk0
      subst ek
      rw [Int.toNat_natCast] at N2
      k_steps
      show wpAny _ _ (getMethod _ _ _) _ _ _
      refine kl_method (by k_asm) (by k_mem) PySem.F.slot_list_insert PySem.F.type_list_insert ?_
      k_steps
      refine' kl_insert (n := n2) ?gF ?gN ?gf ?ge (sep.updPl (o1 := oL2) (o2 := rowObj d (vs.take c ++ .ref px :: vs.drop c) n2_) (o3 := dObj hs tkd size tsz nd) (o4 := tabObj ps) (o5 := oS) (o7 := oc) (o8 := oI) (o9 := ol)) ?gz ?_
      case gF => k_asm
      case gN => k_asm
      case gf => exact fits_nat (by omega)
      case ge => exact kl_ins_nat vs c (.ref px) (by omega)
      case gz =>
        show vs.length ≤ _
        rw [sizeLine_eq]; omega
      intro hF FF NF
      k_steps
      refine hnext _ _ (qs.take c ++ y :: qs.drop c) (vs.take c ++ .ref px :: vs.drop c) ⟨_, n2 + 1, hs, tkd, nd, oL2, oS, oc, _, ps, tl, okL2, okS, hK, sep, Le.ins c hcl hpx hy, srt_l S hcl hcnt, hc, hBL2, back2 (by k_asm), by k_asm⟩ (hos2.trans hos1) (by simp only [List.length_append, List.length_cons, List.length_take, List.length_drop]; omega)
    | some k =>
      have hk := lp_eq hlp hge (by omega)
      subst hk
      dsimp only [optV]
      k_steps
      show wpAny _ _ (call _ _ _) _ _ _
      refine laid_ln B XB TB (by k_asm) X (by k_asm) T rfl (room hd1 rfl) (room hu1 rfl) okL sep.ne99r (Le.mono fun q hq => sub6 hq) hB h1 h2 (by omega) (sub6 hpx) hy hcl hcnt ?_ ?_
      rotate_left
      · intro s' oL' hno
        rw [hlp] at hno
        cases hno
      intro kk n3_ s3 oL3 hk0 hk1 hk2 F3 N3 okL3 hBL3 hos3
      rw [hlp] at hk0
      have ek := Option.some.inj hk0
      subst ek
      rw [Int.toNat_natCast] at N3
      k_steps
      show wpAny _ _ (getMethod _ _ _) _ _ _
      refine kl_method (by k_asm) (by k_mem) PySem.F.slot_list_insert PySem.F.type_list_insert ?_
      k_steps
      refine' kl_insert (n := n2) ?gF ?gN ?gf ?ge (sep.updPl (o1 := oL3) (o2 := rowObj d (vs.take c ++ .ref px :: vs.drop c) n3_) (o3 := dObj hs tkd size tsz nd) (o4 := tabObj ps) (o5 := oS) (o7 := oc) (o8 := oI) (o9 := ol)) ?gz ?_
      case gF => k_asm
      case gN => k_asm
      case gf => exact fits_nat (by omega)
      case ge => exact kl_ins_nat vs c (.ref px) (by omega)
      case gz =>
        show vs.length ≤ _
        rw [sizeLine_eq]; omega
      intro hF FF NF
      k_steps
      refine hnext _ _ (qs.take c ++ y :: qs.drop c) (vs.take c ++ .ref px :: vs.drop c) ⟨_, n2 + 1, hs, tkd, nd, oL3, oS, oc, _, ps, tl, okL3, okS, hK, sep, Le.ins c hcl hpx hy, srt_l S hcl hcnt, hc, hBL3, back2 (by k_asm), by k_asm⟩ hos3 (by simp only [List.length_append, List.length_cons, List.length_take, List.length_drop]; omega)
  · k_steps
    show wpAny _ _ (getMethod _ _ _) _ _ _
    refine gm_pc (by k_asm) X (by k_asm) (.tail _ (.head _)) (.tail _ (.tail _ (.head _))) ?_
    k_steps
    show wpAny _ _ (call _ _ _) _ _ _
    refine part_count B (by k_asm) X (by k_asm) T rfl (room hd1 rfl) (room hu1 rfl) ?_
    intro tc hp tkp Fp Np
    k_steps
    show wpAny _ _ (call _ _ _) _ _ _
    refine laid_li B XB TB (by k_asm) X (by k_asm) T rfl (room hd1 rfl) (room hu1 rfl) okL sep.ne99r (Le.mono fun q hq => sub6 hq) hB h1 h2 (by omega) (sub6 hpx) hy hcl hcnt (by omega) (by omega) ?_ ?_
    rotate_left
    · intro s' oL' hno
      rw [hself] at hno
      cases hno
    intro kk n2_ s2 oL2 hk0 hk1 hk2 F2 N2 okL2 hBL2 hos2
    rw [hself] at hk0
    have ek := Option.some.inj hk0
    subst ek
    rw [Int.toNat_natCast] at N2
    k_steps
    show wpAny _ _ (getMethod _ _ _) _ _ _
    refine kl_method (by k_asm) (by k_mem) PySem.F.slot_list_insert PySem.F.type_list_insert ?_
    k_steps
    refine' kl_insert (n := n2) ?gF ?gN ?gf ?ge (sep.updPl (o1 := oL2) (o2 := rowObj d (vs.take c ++ .ref px :: vs.drop c) n2_) (o3 := dObj hs tkd size tsz nd) (o4 := tabObj ps) (o5 := oS) (o7 := oc) (o8 := oI) (o9 := ol)) ?gz ?_
    case gF => k_asm
    case gN => k_asm
    case gf => exact fits_nat (by omega)
    case ge => exact kl_ins_nat vs c (.ref px) (by omega)
    case gz =>
      show vs.length ≤ _
      rw [sizeLine_eq]; omega
    intro hF FF NF
    k_steps
    refine hnext _ _ (qs.take c ++ y :: qs.drop c) (vs.take c ++ .ref px :: vs.drop c) ⟨_, n2 + 1, hs, tkd, nd, oL2, oS, oc, _, ps, tl, okL2, okS, hK, sep, Le.ins c hcl hpx hy, srt_l S hcl hcnt, hc, hBL2, back2 (by k_asm), by k_asm⟩ hos2 (by simp only [List.length_append, List.length_cons, List.length_take, List.length_drop]; omega)
end
theorem freshTurCR : True := by
  w_top off
  k_with_none
  trivial
section
open PySem.Spec
set_option maxRecDepth 100000

set_option maxHeartbeats 8000000 in
theorem turnCR {w : World} {p : Program} {loose : List Str} {mean : ExcName → Option Value} {mg mb : Str → Option Value}
    {dp un : Nat} {gd : Option (List Code)} {cn : Str} {a : Addr} {ccd : Value} {A₀ : Around} {base h₀ : Heap} {L : Addr} {m : Str → Option Value} {s : Shared} {Q : Flow → Shared → Prop} {E : Value → Shared → Prop}
    {I l r d pl cP px : Addr} {vs : List Value} {n n2 : Nat} {hs : Int} {tkd tsz u1 u2 t1 t2 t4 : Tok} {size : Int} {nd y c : Nat} {oI ol oL oS oc : Obj} {ps : Array Value} {tl : List (Addr × Obj)} {qs : List Nat}
    (B : Below A₀ base [] h₀) (XB : (hd.heap_1 w.params).In base) (TB : Top p loose mean mg mb base) (F₀ : Fr h₀ L s.heap m) (X : (hd.heap_1 w.params).In h₀)
    (N : News h₀ L s.heap ((99, oL) :: (r, rowObj d vs n) :: (d, dObj hs tkd size tsz nd) :: (157, tabObj ps) :: (106, oS) :: (pl, W.listOf vs.toArray n2) :: (cP, oc) :: (I, oI) :: (l, ol) :: tl)) (T : Top p loose mean mg mb h₀)
    (mrow : m "row" = some (.ref r)) (mpl : m "plain" = some (.ref pl)) (mma : m "many" = some (.int qs.length t1)) (msg : m "signs" = some (.int (size + (sumL qs : Nat)) t2)) (mlf : m "left" = some (.bool false)) (mpc : m "place" = some (.int (c : Nat) t4))
    (hc : oc.data = .cell (some (.ref px))) (hpx : (px, pieceObj y u1 u2) ∈ tl) (hy : y < 7) (hcl : c ≤ qs.length) (hcnt : ∀ (j q : Nat), qs[j]? = some q → (q ≤ y ↔ j < c))
    (hd1 : dp + 60 < recursionLimit) (hu1 : un + 200 < cLine)
    (okL : TabOk oL) (okS : TabOk oS) (hK : TabK ps tl) (hB : AllBare s.gens) (sep : Sep r d pl cP I l tl) (Le : Led tl vs qs) (S : Srt qs) (h1 : 0 ≤ size) (h2 : size ≤ 2) (h3 : qs.length ≤ 15)
    (hnext : ∀ (s' : Shared) (v : Value) (qs' : List Nat) (vs' : List Value), StAt h₀ L r d pl cP I l oI ol size tsz (fun y => if y = "told" then some v else m y) vs' qs' s' → s'.os = s.os → qs'.length ≤ qs.length + 1 → Q .next s') :
    wpAny (model PP w) (ktrTop dp un gd cn lawScope L a ccd [("piece", cP)] []) (execs (bC.drop 2) (envX cn lawScope L a ccd [("piece", cP)])) Q E s := by
  have lk : looks m [("row", .ref r), ("plain", .ref pl), ("many", .int qs.length t1), ("signs", .int (size + (sumL qs : Nat)) t2), ("left", .bool false), ("place", .int (c : Nat) t4)] := ⟨mrow, mpl, mma, msg, mlf, mpc, trivial⟩
  have F := fr_chain F₀ _ lk
  have back : ∀ {h : Heap}, Fr h₀ L h (chain m _) → Fr h₀ L h m := fun {h} F => (chain_eq m _ lk) ▸ F
  have back2 : ∀ {h : Heap} {v : Value}, Fr h₀ L h (fun y => if y = "told" then some v else chain m _ y) → Fr h₀ L h (fun y => if y = "told" then some v else m y) := fun {h v} F => (chain_eq m _ lk) ▸ F
  dsimp only [chain] at F back back2
  have hvs : vs.length ≤ 20 := by rw [Le.len]; omega
  have hlen := Le.len
  have hs2 : sumL qs ≤ 60 := Nat.le_trans (sumL_le qs) (by omega)
  have hself : lawPlace qs.length (vs.length : Int) c = some (c : Int) := by rw [Le.len]; exact lawPlace_self (by omega)
  conv in (execs _ _) => arg 1; whnf
  conv =>
    pattern (occs := *) lawScope
    all_goals whnf
  k_steps
  show wpAny _ _ (call _ _ _) _ _ _
  refine place_in B (by k_asm) X (by k_asm) T rfl hd1 hu1 h1 h2 h3 hs2 (by assumption) ?_
  intro t h₁ tk₁ F₁ N₁
  by_cases hge : (qs.length : Int) ≤ size + (sumL qs : Nat)
  · cases hlp : lawPlace (qs.length : Int) (size + (sumL qs : Nat)) (c : Nat) with
    | none =>
      dsimp only [optV]
      k_steps
      show wpAny _ _ (call _ _ _) _ _ _
      refine laid_rn B XB TB (by k_asm) X (by k_asm) T rfl (room hd1 rfl) (room hu1 rfl) okL sep.ne99r (Le.mono fun q hq => sub6 hq) hB h1 h2 (by omega) (sub6 hpx) hy hcl hcnt ?_ ?_
      · intro k n' s' oL' hk
        rw [hlp] at hk
        cases hk
      intro s1 oL1 hno F1 N1 okL1 hBL1 hos1
      k_steps
      show wpAny _ _ (getMethod _ _ _) _ _ _
      refine gm_pc (by k_asm) X (by k_asm) (.tail _ (.head _)) (.tail _ (.tail _ (.head _))) ?_
      k_steps
      show wpAny _ _ (call _ _ _) _ _ _
      refine part_count B (by k_asm) X (by k_asm) T rfl (room hd1 rfl) (room hu1 rfl) ?_
      intro tc hp tkp Fp Np
      k_steps
      show wpAny _ _ (call _ _ _) _ _ _
      refine laid_ri B XB TB (by k_asm) X (by k_asm) T rfl (room hd1 rfl) (room hu1 rfl) okL1 sep.ne99r (Le.mono fun q hq => sub6 hq) hBL1 h1 h2 (by omega) (sub6 hpx) hy hcl hcnt (by omega) (by omega) ?_ ?_
      rotate_left
      · intro s' oL' hno
        rw [hself] at hno
        cases hno
      intro kk n2_ s2 oL2 hk0 hk1 hk2 F2 N2 okL2 hBL2 hos2
      rw [hself] at hk0
      have ek := Option.some.inj hk0
      subst ek
      rw [Int.toNat_natCast] at N2
      k_steps
      show wpAny _ _ (getMethod _ _ _) _ _ _
      refine kl_method (by k_asm) (by k_mem) PySem.F.slot_list_insert PySem.F.type_list_insert ?_
      k_steps
      refine' kl_insert (n := n2) ?gF ?gN ?gf ?ge (sep.updPl (o1 := oL2) (o2 := rowObj d (vs.take c ++ .ref px :: vs.drop c) n2_) (o3 := dObj hs tkd size tsz nd) (o4 := tabObj ps) (o5 := oS) (o7 := oc) (o8 := oI) (o9 := ol)) ?gz ?_
      case gF => k_asm
      case gN => k_asm
      case gf => exact fits_nat (by omega)
      case ge => exact kl_ins_nat vs c (.ref px) (by omega)
      case gz =>
        show vs.length ≤ _
        rw [sizeLine_eq]; omega
      intro hF FF NF
      k_steps
      refine hnext _ _ (qs.take c ++ y :: qs.drop c) (vs.take c ++ .ref px :: vs.drop c) ⟨_, n2 + 1, hs, tkd, nd, oL2, oS, oc, _, ps, tl, okL2, okS, hK, sep, Le.ins c hcl hpx hy, srt_r S hcl hcnt, hc, hBL2, back2 (by k_asm), by k_asm⟩ (hos2.trans hos1) (by simp only [List.length_append, List.length_cons, List.length_take, List.length_drop]; omega)
    | some k =>
      have hk := lp_eq hlp hge (by omega)
      subst hk
      dsimp only [optV]
      k_steps
      show wpAny _ _ (call _ _ _) _ _ _
      refine laid_rn B XB TB (by k_asm) X (by k_asm) T rfl (room hd1 rfl) (room hu1 rfl) okL sep.ne99r (Le.mono fun q hq => sub6 hq) hB h1 h2 (by omega) (sub6 hpx) hy hcl hcnt ?_ ?_
      rotate_left
      · intro s' oL' hno
        rw [hlp] at hno
        cases hno
      intro kk n3_ s3 oL3 hk0 hk1 hk2 F3 N3 okL3 hBL3 hos3
      rw [hlp] at hk0
      have ek := Option.some.inj hk0
      subst ek
      rw [Int.toNat_natCast] at N3
      k_steps
      show wpAny _ _ (getMethod _ _ _) _ _ _
      refine kl_method (by k_asm) (by k_mem) PySem.F.slot_list_insert PySem.F.type_list_insert ?_
      k_steps
      refine' kl_insert (n := n2) ?gF ?gN ?gf ?ge (sep.updPl (o1 := oL3) (o2 := rowObj d (vs.take c ++ .ref px :: vs.drop c) n3_) (o3 := dObj hs tkd size tsz nd) (o4 := tabObj ps) (o5 := oS) (o7 := oc) (o8 := oI) (o9 := ol)) ?gz ?_
      case gF => k_asm
      case gN => k_asm
      case gf => exact fits_nat (by omega)
      case ge => exact kl_ins_nat vs c (.ref px) (by omega)
      case gz =>
        show vs.length ≤ _
        rw [sizeLine_eq]; omega
      intro hF FF NF
      k_steps
      refine hnext _ _ (qs.take c ++ y :: qs.drop c) (vs.take c ++ .ref px :: vs.drop c) ⟨_, n2 + 1, hs, tkd, nd, oL3, oS, oc, _, ps, tl, okL3, okS, hK, sep, Le.ins c hcl hpx hy, srt_r S hcl hcnt, hc, hBL3, back2 (by k_asm), by k_asm⟩ hos3 (by simp only [List.length_append, List.length_cons, List.length_take, List.length_drop]; omega)
  · k_steps
    show wpAny _ _ (getMethod _ _ _) _ _ _
    refine gm_pc (by k_asm) X (by k_asm) (.tail _ (.head _)) (.tail _ (.tail _ (.head _))) ?_
    k_steps
    show wpAny _ _ (call _ _ _) _ _ _
    refine part_count B (by k_asm) X (by k_asm) T rfl (room hd1 rfl) (room hu1 rfl) ?_
    intro tc hp tkp Fp Np
    k_steps
    show wpAny _ _ (call _ _ _) _ _ _
    refine laid_ri B XB TB (by k_asm) X (by k_asm) T rfl (room hd1 rfl) (room hu1 rfl) okL sep.ne99r (Le.mono fun q hq => sub6 hq) hB h1 h2 (by omega) (sub6 hpx) hy hcl hcnt (by omega) (by omega) ?_ ?_
    rotate_left
    · intro s' oL' hno
      rw [hself] at hno
      cases hno
    intro kk n2_ s2 oL2 hk0 hk1 hk2 F2 N2 okL2 hBL2 hos2
    rw [hself] at hk0
    have ek := Option.some.inj hk0
    subst ek
    rw [Int.toNat_natCast] at N2
    k_steps
    show wpAny _ _ (getMethod _ _ _) _ _ _
    refine kl_method (by k_asm) (by k_mem) PySem.F.slot_list_insert PySem.F.type_list_insert ?_
    k_steps
    refine' kl_insert (n := n2) ?gF ?gN ?gf ?ge (sep.updPl (o1 := oL2) (o2 := rowObj d (vs.take c ++ .ref px :: vs.drop c) n2_) (o3 := dObj hs tkd size tsz nd) (o4 := tabObj ps) (o5 := oS) (o7 := oc) (o8 := oI) (o9 := ol)) ?gz ?_
    case gF => k_asm
    case gN => k_asm
    case gf => exact fits_nat (by omega)
    case ge => exact kl_ins_nat vs c (.ref px) (by omega)
    case gz =>
      show vs.length ≤ _
      rw [sizeLine_eq]; omega
    intro hF FF NF
    k_steps
    refine hnext _ _ (qs.take c ++ y :: qs.drop c) (vs.take c ++ .ref px :: vs.drop c) ⟨_, n2 + 1, hs, tkd, nd, oL2, oS, oc, _, ps, tl, okL2, okS, hK, sep, Le.ins c hcl hpx hy, srt_r S hcl hcnt, hc, hBL2, back2 (by k_asm), by k_asm⟩ hos2 (by simp only [List.length_append, List.length_cons, List.length_take, List.length_drop]; omega)
end
theorem freshRowC : True := by
  w_top off
  k_with_none
  trivial
section
open PySem.Spec PySem.Calls
set_option maxRecDepth 100000
noncomputable def rowE : PySem.Expr := match turnBody.getD 14 default with | .If (.BoolOp _ (.Compare e _ _ _ :: _) _) _ _ _ => e | _ => default
theorem paired_eq : ∀ {l₁ l₂ : List Value}, Paired (fun v y : Value => y = v) l₁ l₂ → l₂ = l₁
  | _, _, .nil => rfl
  | _, _, .cons e h => by rw [e, paired_eq h]
set_option maxHeartbeats 8000000 in
theorem row_list {w : World}
    {dp un : Nat} {gd : Option (List Code)} {cn : PySem.Str} {a : Addr} {ccd : Value} {h₀ : Heap} {L : Addr} {m : PySem.Str → Option Value} {s : Shared} {Q E : Value → Shared → Prop} {news : List (Addr × Obj)}
    {r d cP : Addr} {vs : List Value} {n : Nat}
    (F : Fr h₀ L s.heap m) (X : (hd.heap_1 w.params).In h₀) (N : News h₀ L s.heap news)
    (hm : m "row" = some (.ref r)) (hr : (r, rowObj d vs n) ∈ news) (h20 : vs.length ≤ 20)
    (hret : ∀ (D : Addr) (n' : Nat) (h' : Heap) (tk' : Nat), Fr h₀ L h' m → News h₀ L h' ((D, W.listOf vs.toArray n') :: news) → Q (.ref D) { s with heap := h', toks := tk' }) :
    wpAny (model PP w) (ktrTop dp un gd cn lawScope L a ccd [("piece", cP)] []) (eval rowE (envX cn lawScope L a ccd [("piece", cP)])) Q E s := by
  conv in (eval _ _) => arg 1; whnf
  conv =>
    pattern (occs := *) lawScope
    all_goals whnf
  have ho := (N _ hr).1
  have hrlt : r < s.heap.objs.size := Heap.lt_size ho
  refine wpAny_ListComp_free (fun _ => true) (fun v y => y = v) (by with_unfolding_all rfl) (by decide) (by rfl) (by decide) (by rfl) ?_
  refine nameX_L F hm ?_
  refine row_pyIter (X.keeps F.keep) ho (by k_is) ?_
  have k₂ : ∀ b o, s.heap.get? b = some o → (s.heap.push { cls := .type "list_iterator", data := .fields #[.ref r, .int 0 0] }).get? b = some o := fun b o e => Heap.get?_push_of_some _ e
  have hI₀ : h₀.get? s.heap.objs.size = none := by
    cases e : h₀.get? s.heap.objs.size with
    | none => rfl
    | some o => exact absurd (Heap.lt_size (F.keep _ _ e)) (Nat.lt_irrefl _)
  refine ⟨s.heap.objs.size, [s.heap.objs.size, r], [s.heap.objs.size], vs.length, _, _, rfl, Walks_row (n := n) (d := d) rfl s.heap.objs.size (Nat.ne_of_lt hrlt), ?_, ⟨⟨_, Heap.get?_push_size _ rfl, rfl, rfl⟩, k₂ _ _ ho⟩, ?_, ⟨?_, ?_⟩, ?_⟩
  · rw [sizeLine_eq]; omega
  · intro b hb
    show b < (s.heap.push _).objs.size
    rw [Heap.size_push]
    rcases List.mem_cons.mp hb with rfl | hb
    · exact Nat.lt_succ_self _
    · rw [List.mem_singleton.mp hb]; exact Nat.lt_succ_of_lt hrlt
  · intro C i v s₃ m₃ E' _ _ hn hx _ _
    exact wpAny_tests_nil ⟨rfl, ⟨_, _, rfl, fun _ _ e => e⟩⟩
  · intro C i v s₃ m₃ E' _ _ _ hn hx _ _
    exact ldVarK hn hx ⟨rfl, ⟨_, _, rfl, fun _ _ e => e⟩⟩ (by rfl) (by rfl) (by decide)
  · intro D h' tk ys vs' hD hl hpl hlen hP hF hk
    have e1 : vs'.filter (fun _ => true) = vs' := List.filter_eq_self.mpr fun _ _ => rfl
    rw [e1] at hF
    have e2 := paired_eq hF
    have e3 : vs' = vs := by
      apply List.ext_getElem? 
      intro j
      cases hj : vs'[j]? with
      | none =>
        rw [List.getElem?_eq_none_iff] at hj
        exact (List.getElem?_eq_none (by omega)).symm
      | some v => exact (hP j v hj).symm
    obtain ⟨n', hn'⟩ := hpl
    have ey : ys = vs.toArray := by
      have : ys.toList = vs := e2.trans e3
      rw [← this]
    rw [ey] at hn'
    have hDn : s.heap.get? D = none := by
      cases e : s.heap.get? D with
      | none => rfl
      | some o => rw [show _ = _ from k₂ D o e] at hD; cases hD
    have kk : ∀ b o, s.heap.get? b = some o → h'.get? b = some o := fun b o e => hk b o (by
      intro hb
      rw [List.mem_singleton.mp hb] at e
      exact absurd (Heap.lt_size e) (Nat.lt_irrefl _)) (k₂ b o e)
    refine hret D n' h' tk (F.keeps kk) ?_
    intro q hq
    rcases List.mem_cons.mp hq with rfl | hq
    · refine ⟨hn', ?_, ?_⟩
      · intro e
        obtain ⟨o, _, _, ho', _⟩ := F.ns
        have : s.heap.get? D = some o := by rw [show D = L from e]; exact ho'
        rw [hDn] at this; cases this
      · cases e : h₀.get? D with
        | none => rfl
        | some o => have := F.keep _ _ e; rw [hDn] at this; cases this
    · exact ⟨kk _ _ (N q hq).1, (N q hq).2⟩
section
variable {r d pl cP I l : Addr} {o1 o2 o3 o4 o5 o6 o7 o8 o9 : Obj} {tl : List (Addr × Obj)}
theorem sub6' {p : Addr × Obj} (h : p ∈ tl) : p ∈ (99, o1) :: (157, o2) :: (pl, o3) :: (cP, o4) :: (I, o5) :: (l, o6) :: tl := .tail _ (.tail _ (.tail _ (.tail _ (.tail _ (.tail _ h)))))
theorem to106 : ∀ p ∈ (106, o5) :: (r, o2) :: (d, o3) :: (99, o1) :: (157, o4) :: (pl, o6) :: (cP, o7) :: (I, o8) :: (l, o9) :: tl, p ∈ (99, o1) :: (r, o2) :: (d, o3) :: (157, o4) :: (106, o5) :: (pl, o6) :: (cP, o7) :: (I, o8) :: (l, o9) :: tl := by
  (repeat refine sub_cons (by k_mem) ?_)
  exact fun q hq => by repeat (first | exact hq | refine .tail _ ?_)
theorem of106 : ∀ p ∈ (99, o1) :: (r, o2) :: (d, o3) :: (157, o4) :: (106, o5) :: (pl, o6) :: (cP, o7) :: (I, o8) :: (l, o9) :: tl, p ∈ (106, o5) :: (r, o2) :: (d, o3) :: (99, o1) :: (157, o4) :: (pl, o6) :: (cP, o7) :: (I, o8) :: (l, o9) :: tl := by
  (repeat refine sub_cons (by k_mem) ?_)
  exact fun q hq => by repeat (first | exact hq | refine .tail _ ?_)
end
end
theorem freshTxtL : True := by
  w_top off
  k_with_none
  trivial
section
open PySem.Spec
theorem ptxt_plen : ∀ q, q < 7 → (ptxt q).length = plen q := by
  have : ∀ q : Fin 7, (ptxt q.val).length = plen q.val := by decide +kernel
  exact fun q hq => this ⟨q, hq⟩
theorem join_len {qs : List Nat} (h : ∀ q ∈ qs, q < 7) : (Txt.join (Str.ofString "") (qs.map ptxt)).length = sumL qs := by
  have z : (Str.ofString "").length = 0 := by decide
  have hs : ∀ l : List Nat, (∀ q ∈ l, q < 7) → ((l.map ptxt).map (·.length)).sum = sumL l := by
    intro l
    induction l with
    | nil => intro _; rfl
    | cons q l ih =>
      intro h
      have a := ih fun q hq => h q (.tail _ hq)
      have b := ptxt_plen q (h q (.head _))
      simp only [sumL, List.map_cons, List.sum_cons] at a b ⊢
      omega
  cases qs with
  | nil => decide
  | cons q qs =>
    have e := hs _ h
    rw [List.map_cons] at e ⊢
    rw [show Txt.join (Str.ofString "") (ptxt q :: List.map ptxt qs) = Str.join (Str.ofString "") (ptxt q :: List.map ptxt qs) from eq_of_beq (join_plain_closes _ _), len_join_cons, z, e]
    simp
section
variable {w : World} {A : Around} {E : Value → Shared → Prop} {s : Shared} {Q : Value → Shared → Prop} {t u : Tok}
theorem ne_ints {a b : Int} (e : a = b) (hu : A.units < cLine) (h : Q (.bool false) s) : wpAny (model PP w) A (compareOp .NotEq (.int a t) (.int b u)) Q E s := by
  subst e
  exact cmp_optV (o := some a) hu h
theorem ne_strs {x : Str} (h : Q (.bool false) s) : wpAny (model PP w) A (compareOp .NotEq (.str x t) (.str x u)) Q E s := by
  refine ne_str ?_
  rw [show (x != x) = false by simp]
  exact h
end
end
theorem freshTurC : True := by
  w_top off
  k_with_none
  trivial
section
open PySem.Spec
set_option maxRecDepth 100000

set_option maxHeartbeats 8000000 in
theorem turnC {w : World} {p : Program} {loose : List Str} {mean : ExcName → Option Value} {mg mb : Str → Option Value}
    {dp un : Nat} {gd : Option (List Code)} {cn : Str} {a : Addr} {ccd : Value} {A₀ : Around} {base h₀ : Heap} {L : Addr} {m : Str → Option Value} {s : Shared} {Q : Flow → Shared → Prop} {E : Value → Shared → Prop}
    {I l r d pl cP px : Addr} {vs : List Value} {n n2 : Nat} {hs : Int} {tkd tsz u1 u2 t1 t2 t3 t4 t5 : Tok} {size : Int} {z : Int} {nd y c1 c2 : Nat} {oI ol oL oS oc : Obj} {ps : Array Value} {tl : List (Addr × Obj)} {qs : List Nat}
    (B : Below A₀ base [] h₀) (XB : (hd.heap_1 w.params).In base) (TB : Top p loose mean mg mb base) (F₀ : Fr h₀ L s.heap m) (X : (hd.heap_1 w.params).In h₀)
    (N : News h₀ L s.heap ((99, oL) :: (r, rowObj d vs n) :: (d, dObj hs tkd size tsz nd) :: (157, tabObj ps) :: (106, oS) :: (pl, W.listOf vs.toArray n2) :: (cP, oc) :: (I, oI) :: (l, ol) :: tl)) (T : Top p loose mean mg mb h₀)
    (mrow : m "row" = some (.ref r)) (mpl : m "plain" = some (.ref pl)) (mma : m "many" = some (.int qs.length t1)) (msg : m "signs" = some (.int (size + (sumL qs : Nat)) t2)) (mle : m "lesser" = some (.int (c1 : Nat) t3)) (mup : m "upto" = some (.int (c2 : Nat) t4)) (mdd : m "deed" = some (.int z t5)) (msz : m "size" = some (.int size tsz))
    (hc : oc.data = .cell (some (.ref px))) (hpx : (px, pieceObj y u1 u2) ∈ tl) (hy : y < 7) (k1 : c1 ≤ qs.length) (k2 : c2 ≤ qs.length) (q1 : ∀ (j q : Nat), qs[j]? = some q → (q < y ↔ j < c1)) (q2 : ∀ (j q : Nat), qs[j]? = some q → (q ≤ y ↔ j < c2))
    (hd1 : dp + 60 < recursionLimit) (hu1 : un + 200 < cLine)
    (okL : TabOk oL) (okS : TabOk oS) (hK : TabK ps tl) (hB : AllBare s.gens) (sep : Sep r d pl cP I l tl) (Le : Led tl vs qs) (S : Srt qs) (h1 : 0 ≤ size) (h2 : size ≤ 2) (h3 : qs.length ≤ 15)
    (hnext : ∀ (s' : Shared) (m' : Str → Option Value) (pl' : Addr) (vs' : List Value) (qs' : List Nat), m' "row" = some (.ref r) → m' "plain" = some (.ref pl') → m' "size" = some (.int size tsz) →
      StAt h₀ L r d pl' cP I l oI ol size tsz m' vs' qs' s' → s'.os = s.os → qs'.length ≤ qs.length + 1 → Q .next s') :
    wpAny (model PP w) (ktrTop dp un gd cn lawScope L a ccd [("piece", cP)] []) (execs bC (envX cn lawScope L a ccd [("piece", cP)])) Q E s := by
  have lk : looks m [("row", .ref r), ("plain", .ref pl), ("many", .int qs.length t1), ("signs", .int (size + (sumL qs : Nat)) t2), ("lesser", .int (c1 : Nat) t3), ("upto", .int (c2 : Nat) t4), ("deed", .int z t5), ("size", .int size tsz)] := ⟨mrow, mpl, mma, msg, mle, mup, mdd, msz, trivial⟩
  have F := fr_chain F₀ _ lk
  dsimp only [chain] at F
  refine execs_app 2 bC ?_
  generalize hR : List.drop 2 bC = R
  conv in (execs (List.take 2 _) _) => arg 1; whnf; arg 2; whnf; arg 2; whnf
  conv =>
    pattern (occs := *) lawScope
    all_goals whnf
  cases hp : (z.fmod 2 == 0) with
  | true =>
    k_steps
    show wpAny _ _ (execs R _) _ _ _
    rw [← hR]
    exact turnCL B XB TB (by k_asm) X (by k_asm) T rfl rfl rfl rfl (congrArg (fun b => some (Value.bool b)) hp) rfl hc hpx hy k1 q1 hd1 hu1 okL okS hK hB sep Le S h1 h2 h3 (fun s' v qs' vs' st os l => hnext s' _ pl vs' qs' rfl rfl rfl st os l)
  | false =>
    k_steps
    show wpAny _ _ (execs R _) _ _ _
    rw [← hR]
    exact turnCR B XB TB (by k_asm) X (by k_asm) T rfl rfl rfl rfl (congrArg (fun b => some (Value.bool b)) hp) rfl hc hpx hy k2 q2 hd1 hu1 okL okS hK hB sep Le S h1 h2 h3 (fun s' v qs' vs' st os l => hnext s' _ pl vs' qs' rfl rfl rfl st os l)
end
theorem freshTur3 : True := by
  w_top off
  k_with_none
  trivial
section
open PySem.Spec
set_option maxRecDepth 100000

set_option maxHeartbeats 8000000 in
theorem turn3 {w : World} {p : Program} {loose : List Str} {mean : ExcName → Option Value} {mg mb : Str → Option Value}
    {dp un : Nat} {gd : Option (List Code)} {cn : Str} {a : Addr} {ccd : Value} {A₀ : Around} {base h₀ : Heap} {L : Addr} {m : Str → Option Value} {s : Shared} {Q : Flow → Shared → Prop} {E : Value → Shared → Prop}
    {I l r d pl cP px : Addr} {vs : List Value} {n n2 : Nat} {hs : Int} {tkd tsz u1 u2 t1 t2 t3 t4 t5 : Tok} {size : Int} {z : Int} {nd y c1 c2 : Nat} {oI ol oL oS oc : Obj} {ps : Array Value} {tl : List (Addr × Obj)} {qs : List Nat}
    (B : Below A₀ base [] h₀) (XB : (hd.heap_1 w.params).In base) (TB : Top p loose mean mg mb base) (F₀ : Fr h₀ L s.heap m) (X : (hd.heap_1 w.params).In h₀)
    (N : News h₀ L s.heap ((99, oL) :: (r, rowObj d vs n) :: (d, dObj hs tkd size tsz nd) :: (157, tabObj ps) :: (106, oS) :: (pl, W.listOf vs.toArray n2) :: (cP, oc) :: (I, oI) :: (l, ol) :: tl)) (T : Top p loose mean mg mb h₀)
    (mrow : m "row" = some (.ref r)) (mpl : m "plain" = some (.ref pl)) (mma : m "many" = some (.int qs.length t1)) (msg : m "signs" = some (.int (size + (sumL qs : Nat)) t2)) (mle : m "lesser" = some (.int (c1 : Nat) t3)) (mup : m "upto" = some (.int (c2 : Nat) t4)) (mx : m "x" = some (.int z t5)) (msz : m "size" = some (.int size tsz))
    (hc : oc.data = .cell (some (.ref px))) (hpx : (px, pieceObj y u1 u2) ∈ tl) (hy : y < 7) (k1 : c1 ≤ qs.length) (k2 : c2 ≤ qs.length) (q1 : ∀ (j q : Nat), qs[j]? = some q → (q < y ↔ j < c1)) (q2 : ∀ (j q : Nat), qs[j]? = some q → (q ≤ y ↔ j < c2))
    (hd1 : dp + 60 < recursionLimit) (hu1 : un + 200 < cLine)
    (okL : TabOk oL) (okS : TabOk oS) (hK : TabK ps tl) (hB : AllBare s.gens) (sep : Sep r d pl cP I l tl) (Le : Led tl vs qs) (S : Srt qs) (h1 : 0 ≤ size) (h2 : size ≤ 2) (h3 : qs.length ≤ 15)
    (hnext0 : ∀ (s' : Shared) (m' : Str → Option Value) (pl' : Addr) (vs' : List Value) (qs' : List Nat), m' "row" = some (.ref r) → m' "plain" = some (.ref pl') → m' "size" = some (.int size tsz) →
      StAt h₀ L r d pl' cP I l oI ol size tsz m' vs' qs' s' → s'.os = s.os → qs'.length ≤ qs.length + 1 → wpAny (model PP w) (ktrTop dp un gd cn lawScope L a ccd [("piece", cP)] []) (execs (turnBody.drop 13) (envX cn lawScope L a ccd [("piece", cP)])) Q E s') :
    wpAny (model PP w) (ktrTop dp un gd cn lawScope L a ccd [("piece", cP)] []) (execs (turnBody.drop 11) (envX cn lawScope L a ccd [("piece", cP)])) Q E s := by
  have lk : looks m [("row", .ref r), ("plain", .ref pl), ("many", .int qs.length t1), ("signs", .int (size + (sumL qs : Nat)) t2), ("lesser", .int (c1 : Nat) t3), ("upto", .int (c2 : Nat) t4), ("x", .int z t5), ("size", .int size tsz)] := ⟨mrow, mpl, mma, msg, mle, mup, mx, msz, trivial⟩
  have F := fr_chain F₀ _ lk
  dsimp only [chain] at F
  refine execs_app 2 (turnBody.drop 11) ?_
  rw [show List.drop 2 (List.drop 11 turnBody) = List.drop 13 turnBody from List.drop_drop, body_eq]
  generalize hR : List.drop 13 turnBody = R at hnext0 ⊢
  generalize hA : bA = XA
  generalize hB' : bB = XB'
  generalize hC : bC = XC
  conv in (turnBody.getD 11 default) => whnf
  conv in tA => whnf
  conv in tB => whnf
  conv =>
    pattern (occs := *) lawScope
    all_goals whnf
  k_steps
  · rw [← hA]
    refine turnA B (by k_asm) X (by k_asm) T rfl rfl hc hd1 hu1 okL okS hK hB sep Le S h3 ?_
    intro s' vs' qs' st os l
    k_steps
    show wpAny _ _ (execs R _) _ _ _
    exact hnext0 s' _ pl vs' qs' rfl rfl rfl st os l
  · rw [← hB']
    refine turnB B (by k_asm) X (by k_asm) T rfl rfl rfl hc hpx hy k2 q2 hd1 hu1 okL okS hK hB sep Le S h1 h2 h3 ?_
    intro s' pl' vs' qs' st os l
    k_steps
    show wpAny _ _ (execs R _) _ _ _
    exact hnext0 s' _ pl' vs' qs' rfl rfl rfl st os l
  · rw [← hC]
    refine turnC B XB TB (by k_asm) X (by k_asm) T rfl rfl rfl rfl rfl rfl rfl rfl hc hpx hy k1 k2 q1 q2 hd1 hu1 okL okS hK hB sep Le S h1 h2 h3 ?_
    intro s' m' pl' vs' qs' e1 e2 e3 st os l
    k_steps
    show wpAny _ _ (execs R _) _ _ _
    exact hnext0 s' m' pl' vs' qs' e1 e2 e3 st os l
end
theorem freshTur4 : True := by
  w_top off
  k_with_none
  trivial
section
open PySem.Spec
set_option maxRecDepth 100000
local macro_rules | `(tactic| walk_at "compareOp NotEq int int") => `(tactic| refine Stop.go ?_)
local macro_rules | `(tactic| walk_at "compareOp NotEq str str") => `(tactic| refine Stop.go ?_)
local macro_rules | `(tactic| walk_at "compareOp NotEq ref ref") => `(tactic| refine Stop.go ?_)
local macro_rules | `(tactic| walk_at "call builtin:str.join") => `(tactic| refine Stop.go ?_)
local macro_rules | `(tactic| walk_at "call builtin:len") => `(tactic| refine Stop.go ?_)
local macro_rules | `(tactic| walk_at "call type:str") => `(tactic| refine Stop.go ?_)

set_option maxHeartbeats 8000000 in
theorem turn4 {w : World} {p : Program} {loose : List Str} {mean : ExcName → Option Value} {mg mb : Str → Option Value}
    {dp un : Nat} {gd : Option (List Code)} {cn : Str} {a : Addr} {ccd : Value} {A₀ : Around} {base h₀ : Heap} {L : Addr} {m : Str → Option Value} {s : Shared} {Q : Flow → Shared → Prop} {E : Value → Shared → Prop}
    {I l r d pl cP : Addr} {vs : List Value} {n n2 : Nat} {hs : Int} {tkd tsz t1 : Tok} {size : Int} {nd : Nat} {ov : Option Value} {oI ol oL oS oc : Obj} {ps : Array Value} {tl : List (Addr × Obj)} {qs : List Nat}
    (B : Below A₀ base [] h₀) (F₀ : Fr h₀ L s.heap m) (X : (hd.heap_1 w.params).In h₀)
    (N : News h₀ L s.heap ((99, oL) :: (r, rowObj d vs n) :: (d, dObj hs tkd size tsz nd) :: (157, tabObj ps) :: (106, oS) :: (pl, W.listOf vs.toArray n2) :: (cP, oc) :: (I, oI) :: (l, ol) :: tl)) (T : Top p loose mean mg mb h₀)
    (mrow : m "row" = some (.ref r)) (mpl : m "plain" = some (.ref pl)) (msz : m "size" = some (.int size tsz))
    (hc : oc.data = .cell ov)
    (hd1 : dp + 60 < recursionLimit) (hu1 : un + 200 < cLine)
    (okL : TabOk oL) (okS : TabOk oS) (hK : TabK ps tl) (hB : AllBare s.gens) (sep : Sep r d pl cP I l tl) (Le : Led tl vs qs) (S : Srt qs) (h1 : 0 ≤ size) (h2 : size ≤ 2) (h3 : qs.length ≤ 16)
    (hnext : ∀ (s' : Shared) (m' : Str → Option Value), m' "row" = some (.ref r) → m' "plain" = some (.ref pl) → m' "size" = some (.int size tsz) → StAt h₀ L r d pl cP I l oI ol size tsz m' vs qs s' → s'.os = s.os → Q .next s') :
    wpAny (model PP w) (ktrTop dp un gd cn lawScope L a ccd [("piece", cP)] []) (execs (turnBody.drop 13) (envX cn lawScope L a ccd [("piece", cP)])) Q E s := by
  have lk : looks m [("row", .ref r), ("plain", .ref pl), ("size", .int size tsz)] := ⟨mrow, mpl, msz, trivial⟩
  have F := fr_chain F₀ _ lk
  dsimp only [chain] at F
  have hvs : vs.length ≤ 20 := by rw [Le.len]; omega
  have hlen := Le.len
  conv in (execs _ _) => arg 1; whnf
  conv =>
    pattern (occs := *) lawScope
    all_goals whnf
  k_steps
  show wpAny _ _ (eval _ _) _ _ _
  refine text_plain (by k_asm) X (by k_asm) T rfl sub_pl (Le.mono fun q hq => sub9 hq) hvs (by omega) (by omega) ?_
  intro D1 ys1 h1_ tk1 hy1 F1 N1
  k_steps
  show wpAny _ _ (call _ _ _) _ _ _
  refine KT.join_B (l := qs) (g := ptxt) 4 (News.isList N1 (.head _)) hy1 (fun q _ => ptxt_len q) (by omega) (by decide) ?_
  intro t' k'
  k_steps
  show wpAny _ _ (eval _ _) _ _ _
  refine row_list (by k_asm) X (by k_asm) rfl (.tail _ (.tail _ (.head _))) hvs ?_
  intro D2 n2_ h2_ tk2 F2 N2
  k_steps
  show wpAny _ _ (compareOp _ _ _) _ _ _
  refine ne_listsN (vs := vs) N2 (.head _) (.tail _ (.tail _ sub_pl)) (by show un < _; omega) ?_
  k_steps
  show wpAny _ _ (getMethod _ _ _) _ _ _
  have N3 := news_sub N2 (fun q hq => List.mem_cons_of_mem _ (List.mem_cons_of_mem _ hq))
  clear N2
  refine gm_pc (by k_asm) X (by k_asm) (.tail _ (.head _)) (.tail _ (.tail _ (.head _))) ?_
  k_steps
  show wpAny _ _ (call _ _ _) _ _ _
  refine part_count B (by k_asm) X (by k_asm) T rfl (room hd1 rfl) (room hu1 rfl) ?_
  intro tc h4_ tk4 F4 N4
  k_steps
  show wpAny _ _ (call _ _ _) _ _ _
  refine KM.len_K (n := vs.length) N4 sub_pl (by simp) (by omega) ?_
  k_steps
  show wpAny _ _ (compareOp _ _ _) _ _ _
  refine ne_ints rfl (by show un < _; omega) ?_
  k_steps
  show wpAny _ _ (call _ _ _) _ _ _
  refine str_row B (by k_asm) X (news_sub N4 to106) T rfl (room hd1 rfl) (room hu1 rfl) okS sep.ne106 (Le.mono fun q hq => sub6' hq) hB h1 h2 (by omega) ?_
  intro t5 s5 oS5 F5 N5' okS5 hB5 hos5
  have N5 := news_sub N5' of106
  clear N5'
  k_steps
  show wpAny _ _ (compareOp _ _ _) _ _ _
  refine ne_strs ?_
  k_steps
  show wpAny _ _ (call _ _ _) _ _ _
  refine len_row B (by k_asm) X N5 T rfl (room hd1 rfl) (room hu1 rfl) okL sep.ne99 (Le.mono fun q hq => sub6 hq) hB5 h1 h2 (by omega) ?_
  intro t6 s6 oL6 F6 N6 okL6 hB6 hos6
  k_steps
  have hql : ∀ q ∈ qs, q < 7 := fun q hq => by
    obtain ⟨j, hj⟩ := List.getElem?_of_mem hq
    exact (Le.at_ j q hj).1
  have hjl := join_len hql
  have hs2 : sumL qs ≤ 64 := Nat.le_trans (sumL_le qs) (by omega)
  show wpAny _ _ (call _ _ _) _ _ _
  refine PyProof.Rows.len_str (by omega) ?_
  k_steps
  show wpAny _ _ (compareOp _ _ _) _ _ _
  refine ne_ints (by rw [hjl]) (by show un < _; omega) ?_
  k_steps
  exact hnext _ _ rfl rfl rfl ⟨n, n2, hs, tkd, nd, oL6, oS5, oc, ov, ps, tl, okL6, okS5, hK, sep, Le, S, hc, hB6, (by k_asm), (by k_asm)⟩ (hos6.trans hos5)
end
end
theorem freshTurn : True := by
  w_top off
  k_with_none
  trivial
section
open PySem.Spec
set_option maxRecDepth 100000
theorem turn {w : World} {p : Program} {loose : List Str} {mean : ExcName → Option Value} {mg mb : Str → Option Value}
    {dp un : Nat} {gd : Option (List Code)} {cn : Str} {a : Addr} {ccd : Value} {A₀ : Around} {base h₀ : Heap} {L : Addr} {m : Str → Option Value} {s : Shared} {Q : Flow → Shared → Prop} {E : Value → Shared → Prop}
    {I l r d pl cP : Addr} {vs : List Value} {tsz tx : Tok} {size x : Int} {oI ol : Obj} {qs : List Nat}
    (B : Below A₀ base [] h₀) (XB : (hd.heap_1 w.params).In base) (TB : Top p loose mean mg mb base) (X : (hd.heap_1 w.params).In h₀) (T : Top p loose mean mg mb h₀)
    (st : StAt h₀ L r d pl cP I l oI ol size tsz m vs qs s)
    (mx : m "x" = some (.int x tx)) (mrow : m "row" = some (.ref r)) (mpl : m "plain" = some (.ref pl)) (msz : m "size" = some (.int size tsz))
    (hd1 : dp + 60 < recursionLimit) (hu1 : un + 200 < cLine) (h1 : 0 ≤ size) (h2 : size ≤ 2) (h3 : qs.length ≤ 15)
    (hnext : ∀ (s' : Shared) (m' : Str → Option Value) (pl' : Addr) (vs' : List Value) (qs' : List Nat), m' "row" = some (.ref r) → m' "plain" = some (.ref pl') → m' "size" = some (.int size tsz) →
      StAt h₀ L r d pl' cP I l oI ol size tsz m' vs' qs' s' → s'.os = s.os → qs'.length ≤ qs.length + 1 → Q .next s') :
    wpAny (model PP w) (ktrTop dp un gd cn lawScope L a ccd [("piece", cP)] []) (execs turnBody (envX cn lawScope L a ccd [("piece", cP)])) Q E s := by
  refine st.elim ?_
  intro n n2 hs tkd nd oL oS oc ov ps tl okL okS hK sep Le S hc hB F N
  refine turn1 B F X N T mx mrow mpl msz hc hd1 hu1 sep Le h1 h2 h3 ?_
  intro px u1 u2 t1 t2 t3 t4 t5 t6 oc' m' h' tk' hc' F' N' sep' e1 e2 e3 e4 e5 e6 e7 e8 e9 e10
  have sub : ∀ q ∈ tl, q ∈ (px, pieceObj (prank (x % 7).toNat) u1 u2) :: tl := fun q hq => .tail _ hq
  refine turn2 (px := px) (u1 := u1) (u2 := u2) B XB TB F' X N' T e2 e5 e6 e7 e8 e9 e10 hc' (.head _) (prank_lt _) hd1 hu1 okL (hK.sub sub) hB sep' (Le.mono sub) h1 h2 h3 (ct_len _ _) (ct_len _ _) (ct_len _ _) (ct_len _ _)
    (ct_lt S _) (ct_le S _) (ct_flt S _) (ct_fle S _) ?_
  intro s₂ oL₂ ps₂ tl₂ okL₂ hK₂ hB₂ hos₂ sep₂ sub₂ F₂ N₂
  refine turn3 (px := px) (u1 := u1) (u2 := u2) B XB TB F₂ X N₂ T e2 e3 e5 e6 e7 e8 e1 e4 hc' (sub₂ _ (.head _)) (prank_lt _) (ct_len _ _) (ct_len _ _) (ct_lt S _) (ct_le S _) hd1 hu1 okL₂ okS hK₂ hB₂ sep₂ ((Le.mono sub).mono sub₂) S h1 h2 h3 ?_
  intro s₃ m₃ pl₃ vs₃ qs₃ f1 f2 f3 st₃ hos₃ hl₃
  refine st₃.elim ?_
  intro n n2 hs tkd nd oL oS oc ov ps tl okL okS hK sep Le S hc hB F N
  refine turn4 (t1 := tsz) B F X N T f1 f2 f3 hc hd1 hu1 okL okS hK hB sep Le S h1 h2 (by omega) ?_
  intro s₄ m₄ g1 g2 g3 st₄ hos₄
  exact hnext s₄ m₄ pl₃ vs₃ qs₃ g1 g2 g3 st₄ (hos₄.trans (hos₃.trans hos₂)) hl₃
end
theorem freshLawL : True := by
  w_top off
  k_with_none
  trivial
section
open PySem.Spec
set_option maxRecDepth 100000
noncomputable def forS : Stmt := lawBody.getD 4 default
noncomputable def LJ (L r d cP I l : Addr) (size : Int) (tsz : Tok) (i : Nat) (m : Str → Option Value) (news : List (Addr × Obj)) : Prop :=
  ∃ (pl : Addr) (vs : List Value) (qs : List Nat) (n n2 : Nat) (hs : Int) (tkd : Tok) (nd : Nat) (oL oS oc : Obj) (ov : Option Value) (ps : Array Value) (tl : List (Addr × Obj)),
    news = (99, oL) :: (r, rowObj d vs n) :: (d, dObj hs tkd size tsz nd) :: (157, tabObj ps) :: (106, oS) :: (pl, W.listOf vs.toArray n2) :: (cP, oc) :: tl ∧
    TabOk oL ∧ TabOk oS ∧ TabK ps tl ∧ Sep r d pl cP I l tl ∧ Led tl vs qs ∧ Srt qs ∧ qs.length ≤ i ∧ oc.data = .cell ov ∧
    m "row" = some (.ref r) ∧ m "plain" = some (.ref pl) ∧ m "size" = some (.int size tsz)

theorem LJ.elim {C : Prop} {L r d cP I l : Addr} {size : Int} {tsz : Tok} {i : Nat} {m : Str → Option Value} {news : List (Addr × Obj)} (h : LJ L r d cP I l size tsz i m news)
    (k : ∀ (pl : Addr) (vs : List Value) (qs : List Nat) (n n2 : Nat) (hs : Int) (tkd : Tok) (nd : Nat) (oL oS oc : Obj) (ov : Option Value) (ps : Array Value) (tl : List (Addr × Obj)),
      news = (99, oL) :: (r, rowObj d vs n) :: (d, dObj hs tkd size tsz nd) :: (157, tabObj ps) :: (106, oS) :: (pl, W.listOf vs.toArray n2) :: (cP, oc) :: tl →
      TabOk oL → TabOk oS → TabK ps tl → Sep r d pl cP I l tl → Led tl vs qs → Srt qs → qs.length ≤ i → oc.data = .cell ov →
      m "row" = some (.ref r) → m "plain" = some (.ref pl) → m "size" = some (.int size tsz) → C) : C := by
  obtain ⟨pl, vs, qs, n, n2, hs, tkd, nd, oL, oS, oc, ov, ps, tl, rfl, okL, okS, hK, sep, Le, S, hq, hc, e1, e2, e3⟩ := h
  exact k pl vs qs n n2 hs tkd nd oL oS oc ov ps tl rfl okL okS hK sep Le S hq hc e1 e2 e3
theorem take7 {r d pl cP l : Addr} {o1 o2 o3 o4 o5 o6 o7 o8 : Obj} : ∀ q ∈ (99, o1) :: (r, o2) :: (d, o3) :: (157, o4) :: (106, o5) :: (pl, o6) :: [(cP, o7)], q ∈ (99, o1) :: (r, o2) :: (d, o3) :: (157, o4) :: (106, o5) :: (pl, o6) :: (cP, o7) :: [(l, o8)] :=
  List.forall_mem_cons.mpr ⟨.head _, List.forall_mem_cons.mpr ⟨.tail _ (.head _), List.forall_mem_cons.mpr ⟨.tail _ (.tail _ (.head _)), List.forall_mem_cons.mpr ⟨.tail _ (.tail _ (.tail _ (.head _))),
    List.forall_mem_cons.mpr ⟨.tail _ (.tail _ (.tail _ (.tail _ (.head _)))), List.forall_mem_cons.mpr ⟨.tail _ (.tail _ (.tail _ (.tail _ (.tail _ (.head _))))), List.forall_mem_cons.mpr ⟨.tail _ (.tail _ (.tail _ (.tail _ (.tail _ (.tail _ (.head _)))))), fun _ h => nomatch h⟩⟩⟩⟩⟩⟩⟩
theorem ints_at : ∀ {ws : List Value} {ns : List Int}, IntsAre ws ns → ∀ (i : Nat) (v : Value), ws[i]? = some v → ∃ x t, v = .int x t
  | _, _, .nil, i, v, h => by simp at h
  | _, _, .cons n t hs, 0, v, h => ⟨n, t, (Option.some.inj h).symm⟩
  | _, _, .cons n t hs, i + 1, v, h => ints_at hs i v h
set_option maxHeartbeats 8000000 in
theorem law_loop {w : World} {p : Program} {loose : List Str} {mean : ExcName → Option Value} {mg mb : Str → Option Value}
    {dp un : Nat} {gd : Option (List Code)} {cn : Str} {a : Addr} {ccd : Value} {A₀ : Around} {base h₀ : Heap} {L : Addr} {m : Str → Option Value} {s : Shared} {Q : Flow → Shared → Prop} {E : Value → Shared → Prop}
    {l r d pl cP : Addr} {n n2 nl nd : Nat} {hs size : Int} {tkd tsz : Tok} {oL oS oc : Obj} {ov : Option Value} {ps : Array Value} {ws : List Value} {ns : List Int}
    (B : Below A₀ base [] h₀) (XB : (hd.heap_1 w.params).In base) (TB : Top p loose mean mg mb base) (F : Fr h₀ L s.heap m) (X : (hd.heap_1 w.params).In h₀)
    (N : News h₀ L s.heap ((99, oL) :: (r, rowObj d [] n) :: (d, dObj hs tkd size tsz nd) :: (157, tabObj ps) :: (106, oS) :: (pl, W.listOf #[] n2) :: (cP, oc) :: [(l, W.listOf ws.toArray nl)])) (T : Top p loose mean mg mb h₀)
    (mnum : m "numbers" = some (.ref l)) (mrow : m "row" = some (.ref r)) (mpl : m "plain" = some (.ref pl)) (msz : m "size" = some (.int size tsz))
    (hc : oc.data = .cell ov) (hW : IntsAre ws ns) (h14 : ws.length ≤ 14)
    (hd1 : dp + 60 < recursionLimit) (hu1 : un + 200 < cLine)
    (okL : TabOk oL) (okS : TabOk oS) (hK : TabK ps []) (hB : AllBare s.gens) (h1 : 0 ≤ size) (h2 : size ≤ 2)
    (ndp : (r :: d :: pl :: cP :: l :: [99, 157, 106]).Nodup)
    (hnext : ∀ (s' : Shared) (m' : Str → Option Value) (oL' oS' : Obj) (ps' : Array Value) (news' : List (Addr × Obj)), TabOk oL' → TabOk (tabObj ps') → TabOk oS' → AllBare s'.gens → s'.os = s.os → Fr h₀ L s'.heap m' →
      News h₀ L s'.heap ((99, oL') :: (157, tabObj ps') :: (106, oS') :: news') → Q .next s') :
    wpAny (model PP w) (ktrTop dp un gd cn lawScope L a ccd [("piece", cP)] []) (exec forS (envX cn lawScope L a ccd [("piece", cP)])) Q E s := by
  conv in (exec _ _) => arg 1; whnf
  conv =>
    pattern (occs := *) lawScope
    all_goals whnf
  refine wpAny_For (nameX_L F mnum ?_) (by intro _; rfl)
  have hl := News.isList N (.tail _ (.tail _ (.tail _ (.tail _ (.tail _ (.tail _ (.tail _ (.head _))))))))
  refine wpAny_pyIter_list hl ?_
  have up : ∀ b o, s.heap.get? b = some o → (s.heap.push { cls := .type "list_iterator", data := .fields #[.ref l, .int 0 0] }).get? b = some o := fun b o e => Heap.get?_push_of_some _ e
  have hlt : l < s.heap.objs.size := by obtain ⟨_, e, _⟩ := hl; exact Heap.lt_size e
  have hIn := fun q hq => Heap.lt_size (N q hq).1
  have hI₀ : h₀.get? s.heap.objs.size = none := next_is_new F
  have hlr := N _ (.tail _ (.tail _ (.tail _ (.tail _ (.tail _ (.tail _ (.tail _ (.head _))))))))
  have hLI : L < s.heap.objs.size := F.ns.lt
  have F₂ := F.keeps up
  have N₂ := News.grown N up
  have WK := Walks.list (prog := PP) (w := w) (A := ktrTop dp un gd cn lawScope L a ccd [("piece", cP)] []) rfl s.heap.objs.size l (Nat.ne_of_lt hlt) ws.toArray
  have st0 : (s.heap.push { cls := .type "list_iterator", data := .fields #[.ref l, .int 0 0] }).IsListIter s.heap.objs.size l 0 ∧ (s.heap.push { cls := .type "list_iterator", data := .fields #[.ref l, .int 0 0] }).IsList l ws.toArray := ⟨⟨_, Heap.get?_push_size _ rfl, rfl, rfl⟩, hl.push _⟩
  generalize s.heap.objs.size = I at hlt hIn hI₀ hLI WK st0 ⊢
  have sep0 : Sep r d pl cP I l [] := by
    simp only [List.forall_mem_cons] at hIn
    obtain ⟨z1, z2, z3, z4, z5, z6, z7, z8, _⟩ := hIn
    simp only [List.nodup_cons, List.mem_cons, List.not_mem_nil, or_false, not_or, List.nodup_nil, and_true, not_false_eq_true] at ndp
    obtain ⟨⟨a1, a2, a3, a4, a5, a6, a7⟩, ⟨b1, b2, b3, b4, b5, b6⟩, ⟨c1, c2, c3, c4, c5⟩, ⟨d1, d2, d3, d4⟩, ⟨e1, e2, e3⟩, _⟩ := ndp
    refine ⟨?_, fun q hq => nomatch hq⟩
    simp only [List.nodup_cons, List.mem_cons, List.not_mem_nil, or_false, not_or, List.nodup_nil, and_true, not_false_eq_true]
    exact ⟨⟨a1, a2, a3, Nat.ne_of_lt z2, a4, a5, a6, a7⟩, ⟨b1, b2, Nat.ne_of_lt z3, b3, b4, b5, b6⟩, ⟨c1, Nat.ne_of_lt z6, c2, c3, c4, c5⟩, ⟨Nat.ne_of_lt z7, d1, d2, d3, d4⟩, ⟨Nat.ne_of_gt z8, Nat.ne_of_gt z1, Nat.ne_of_gt z4, Nat.ne_of_gt z5⟩, ⟨e1, e2, e3⟩, ⟨(show (99 : Nat) ≠ 157 by decide), (show (99 : Nat) ≠ 106 by decide)⟩, (show (157 : Nat) ≠ 106 by decide)⟩
  refine forLoop_G WK (by rfl) (by rfl) ?_ ?_ ?_ ?_ st0 F₂ (news_sub N₂ ?_) hB (LJ L r d cP I l size tsz) ⟨pl, [], [], n, n2, hs, tkd, nd, oL, oS, oc, ov, ps, [], rfl, okL, okS, hK, sep0, ⟨rfl, fun j q h => by simp at h⟩, .nil, Nat.zero_le _, hc, mrow, mpl, msz⟩ ?_ ?_
  · intro h
    rcases List.mem_cons.mp h with h | h
    · exact absurd h (Nat.ne_of_lt hLI)
    · exact hlr.2.1 (List.mem_singleton.mp h).symm
  · intro b hb
    rcases List.mem_cons.mp hb with rfl | hb
    · exact hI₀
    · rw [List.mem_singleton.mp hb]; exact hlr.2.2
  · intro i h st b hb
    rcases List.mem_cons.mp hb with rfl | hb
    · obtain ⟨o, e, _⟩ := st.1; exact ⟨o, e⟩
    · rw [List.mem_singleton.mp hb]; obtain ⟨o, e, _⟩ := st.2; exact ⟨o, e⟩
  · intro q hq h
    have h1 : q.1 < I := hIn q (take7 q hq)
    rw [List.mem_singleton.mp h] at h1
    exact Nat.lt_irrefl _ h1
  · exact take7
  · intro i v m₁ news₁ s₁ own hos hG hi hP hJ hnw' hown1 hown2 F₁ N₁
    refine LJ.elim hJ ?_
    intro pl vs qs n n2 hs tkd nd oL oS oc ov ps tl eN okL okS hK sep Le S hq hc e1 e2 e3
    subst eN
    obtain ⟨oI, hoI⟩ := hown2 I (.head _)
    obtain ⟨ol, hol⟩ := hown2 l (.tail _ (.head _))
    obtain ⟨x, t, rfl⟩ := ints_at hW i v (by simpa using hP)
    have hi' : i < 14 := by
      have : i < ws.length := by simpa using hi
      omega
    have hin : ∀ q ∈ (99, oL) :: (r, rowObj d vs n) :: (d, dObj hs tkd size tsz nd) :: (157, tabObj ps) :: (106, oS) :: (pl, W.listOf vs.toArray n2) :: (cP, oc) :: (I, oI) :: (l, ol) :: tl, q ∈ own ++ (99, oL) :: (r, rowObj d vs n) :: (d, dObj hs tkd size tsz nd) :: (157, tabObj ps) :: (106, oS) :: (pl, W.listOf vs.toArray n2) :: (cP, oc) :: tl := by
      (repeat refine sub_cons (List.mem_append_right _ (by k_mem)) ?_)
      exact sub_cons (List.mem_append_left _ hoI) (sub_cons (List.mem_append_left _ hol) fun q hq => List.mem_append_right _ (by repeat (first | exact hq | refine .tail _ ?_)))
    have hownE : ∀ q ∈ own, q = (I, oI) ∨ q = (l, ol) := fun q hq => by
      have a := (N₁ q (List.mem_append_left _ hq)).1
      rcases List.mem_cons.mp (hown1 q hq) with h | h
      · have b := (N₁ _ (List.mem_append_left _ hoI)).1
        rw [h, b] at a
        exact .inl (Prod.ext h (Option.some.inj a).symm)
      · have h := List.mem_singleton.mp h
        have b := (N₁ _ (List.mem_append_left _ hol)).1
        rw [h, b] at a
        exact .inr (Prod.ext h (Option.some.inj a).symm)
    refine turn B XB TB X T ⟨n, n2, hs, tkd, nd, oL, oS, oc, ov, ps, tl, okL, okS, hK, sep, Le, S, hc, hG, F₁, news_sub N₁ hin⟩ rfl ((if_neg (by decide)).trans e1) ((if_neg (by decide)).trans e2) ((if_neg (by decide)).trans e3) hd1 hu1 h1 h2 (by omega) ?_
    intro s' m' pl' vs' qs' g1 g2 g3 st' hos' hl'
    refine st'.elim ?_
    intro n n2 hs tkd nd oL oS oc ov ps tl okL okS hK sep Le S hc hB' F' N'
    refine ⟨m', _, F', ?_, ?_, hB', hos'.trans hos, ⟨pl', vs', qs', n, n2, hs, tkd, nd, oL, oS, oc, ov, ps, tl, rfl, okL, okS, hK, sep, Le, S, by omega, hc, g1, g2, g3⟩⟩
    · intro q hq
      refine N' q ?_
      rcases List.mem_append.mp hq with h | h
      · rcases hownE q h with rfl | rfl
        · exact .tail _ (.tail _ (.tail _ (.tail _ (.tail _ (.tail _ (.tail _ (.head _)))))))
        · exact .tail _ (.tail _ (.tail _ (.tail _ (.tail _ (.tail _ (.tail _ (.tail _ (.head _))))))))
      · exact sub72 q h
    · exact fun q hq h => sep.neI q hq (List.mem_singleton.mp h)
  · intro s' m' news' hos hG F' N' hJ
    refine LJ.elim hJ ?_
    intro pl vs qs n n2 hs tkd nd oL oS oc ov ps tl eN okL okS hK sep Le S hq hc e1 e2 e3
    subst eN
    refine hnext s' m' oL oS ps [] okL ⟨ps, rfl, hK.triples, rfl⟩ okS hG hos F' (news_sub N' ?_)
    (repeat refine sub_cons (by k_mem) ?_)
    exact fun q hq => nomatch hq
end
theorem freshPostB : True := by
  w_top off
  k_with_none
  trivial
section
open PySem.Spec PySem.Calls
theorem grown_at {tabs : List (Addr × Addr)} {h₁ h' : Heap} (hT : TabsAt tabs h₁) (hg : GrownAll tabs h') {b : Addr} {o : Obj} (hb : b ∈ tabs.map (·.2)) (e : h₁.get? b = some o) :
    isCodeTable h₁ b ∧ o = tabObj #[] ∧ ∃ ps, h'.get? b = some (tabObj ps) := by
  obtain ⟨q, hq, rfl⟩ := List.mem_map.mp hb
  have t := hT q hq
  exact ⟨(t.1.tab t.2).isCodeTable, Option.some.inj (e.symm.trans t.2), hg.get q hq⟩
theorem post_bare {cw : ClaimW} {cl : Str → Option Addr} {mean : ExcName → Option Value} {args : List WData} {s₁ s' : Shared} {tabs : List (Addr × Addr)} (hT : TabsAt tabs s₁.heap) (hr : ∀ a x, cw.raises a x = false) (hp : cw.post args (.bool true) args = true)
    (hk : ∀ b o, (ghostOf s₁.heap tabs).get? b = some o → s'.heap.get? b = some o) (hos : s'.os = s₁.os) (hB : AllBare s'.gens) (hg : GrownAll tabs s'.heap) : GoodWG cw cl mean args s₁ (.ok (.ret (.bool true))) s' := by
  refine ⟨.inl ⟨.bool true, .bool true, [], rfl, fun _ => hr _ _, .bool true, hp, fun _ => ⟨.nil, fun a h => nomatch h⟩⟩, ⟨fun b o e => ?_, fun b o e => ?_⟩, hos, hB⟩
  · by_cases hb : b ∈ tabs.map (·.2)
    · obtain ⟨h1, rfl, ps, h2⟩ := grown_at hT hg hb e
      refine .inr (.inl ⟨h1, rfl, #[], ps, rfl, ?_⟩)
      rw [Array.empty_append]; exact h2
    · exact .inl (hk b o (ghost_ne e hb))
  · by_cases hb : b ∈ tabs.map (·.2)
    · obtain ⟨_, _, ps, h2⟩ := grown_at hT hg hb e
      exact ⟨_, h2⟩
    · exact ⟨o, hk b o (ghost_ne e hb)⟩
noncomputable def EndB (s₁ : Shared) (tabs : List (Addr × Addr)) (r : Result) (s' : Shared) : Prop :=
  r = .ok (.ret (.bool true)) ∧ (∀ b o, (ghostOf s₁.heap tabs).get? b = some o → s'.heap.get? b = some o) ∧ s'.os = s₁.os ∧ AllBare s'.gens ∧ GrownAll tabs s'.heap
theorem post_code {M : Model} {A : Around} {cd : Code} {s s₁ : Shared} {cw : ClaimW} {cl : Str → Option Addr} {mean : ExcName → Option Value} {args : List WData} {tabs : List (Addr × Addr)} (hT : TabsAt tabs s₁.heap) (hr : ∀ a x, cw.raises a x = false) (hp : cw.post args (.bool true) args = true)
    (h : codeAny M A cd (EndB s₁ tabs) s) : codeAny M A cd (GoodWG cw cl mean args s₁) s :=
  codeAny_mono h fun r s' ⟨hr', hk, hos, hB, hg⟩ => by subst hr'; exact post_bare hT hr hp hk hos hB hg
theorem grown3 {h₀ h : Heap} {L : Addr} {oL oS : Obj} {ps : Array Value} {news : List (Addr × Obj)} (N : News h₀ L h ((99, oL) :: (157, tabObj ps) :: (106, oS) :: news)) (h1 : TabOk oL) (h2 : TabOk oS) : GrownAll [(161, 157), (103, 99), (110, 106)] h := by
  obtain ⟨p1, _, _, rfl⟩ := h1
  obtain ⟨p2, _, _, rfl⟩ := h2
  exact ⟨⟨ps, (N _ (.tail _ (.head _))).1⟩, ⟨p1, (N _ (.head _)).1⟩, ⟨p2, (N _ (.tail _ (.tail _ (.head _)))).1⟩, trivial⟩
theorem nodup8 {r d pl c l : Addr} (h1 : r ≠ d) (h2 : l < r ∧ l < d) (h3 : c < r ∧ c < d) (h4 : c < l) (h5 : 157 < c ∧ 99 < c ∧ 106 < c) (h6 : r < pl) (h7 : d < pl) : (r :: d :: pl :: c :: l :: [99, 157, 106]).Nodup := by
  have lt : ∀ {a b e : Addr}, a < b → b < e → a < e := fun h h' => Nat.lt_trans h h'
  simp only [List.nodup_cons, List.mem_cons, List.not_mem_nil, or_false, not_or, List.nodup_nil, and_true, not_false_eq_true]
  exact ⟨⟨h1, Nat.ne_of_lt h6, Nat.ne_of_gt h3.1, Nat.ne_of_gt h2.1, Nat.ne_of_gt (lt h5.2.1 h3.1), Nat.ne_of_gt (lt h5.1 h3.1), Nat.ne_of_gt (lt h5.2.2 h3.1)⟩,
    ⟨Nat.ne_of_lt h7, Nat.ne_of_gt h3.2, Nat.ne_of_gt h2.2, Nat.ne_of_gt (lt h5.2.1 h3.2), Nat.ne_of_gt (lt h5.1 h3.2), Nat.ne_of_gt (lt h5.2.2 h3.2)⟩,
    ⟨Nat.ne_of_gt (lt h3.1 h6), Nat.ne_of_gt (lt h2.1 h6), Nat.ne_of_gt (lt (lt h5.2.1 h3.1) h6), Nat.ne_of_gt (lt (lt h5.1 h3.1) h6), Nat.ne_of_gt (lt (lt h5.2.2 h3.1) h6)⟩,
    ⟨Nat.ne_of_lt h4, Nat.ne_of_gt h5.2.1, Nat.ne_of_gt h5.1, Nat.ne_of_gt h5.2.2⟩,
    ⟨Nat.ne_of_gt (lt h5.2.1 h4), Nat.ne_of_gt (lt h5.1 h4), Nat.ne_of_gt (lt h5.2.2 h4)⟩,
    ⟨(show (99 : Nat) ≠ 157 by decide), (show (99 : Nat) ≠ 106 by decide)⟩, (show (157 : Nat) ≠ 106 by decide)⟩
theorem post_true (args : List WData) : PySem.Challenge.rw_pm0030_01.row.claim.post args (.bool true) args = true := by
  with_unfolding_all rfl
end
theorem freshTop : True := by
  w_top off
  k_with_none
  trivial
section
open PySem.Calls PySem.Spec
local macro_rules | `(tactic| walk_at "exec For Name Name cons nil") => `(tactic| refine Stop.go ?_)
set_option maxRecDepth 100000 in
set_option maxHeartbeats 8000000 in
theorem law_true : PySem.Challenge.rw_pm0030_01.Holds := by
  refine hd3 ?_
  k_fill
  intro w s₀ s₁ mg mb G Y fa o pm cd doc dV kV ho hd hcd hD hmg hg args vals as hpre hlay hrd hwl hlo
  have KX := km_in_of Y
  km_tabs Y
  have X := (Ground.X G).1
  have V := (Ground.X G).2
  refine Ground.open G ?_
  intro T B D TE TW
  try (refine guard_noD D (by decide +kernel) ?_; clear D)
  have hT9 : TabsAt ([(161, 157), (103, 99), (110, 106)] : List (Addr × Addr)) _ :=
    List.forall_mem_cons.mpr ⟨⟨codeHd_of_K (c := 161) (P := 157) KX (by kernel_rfl), hT8 157 (by simp)⟩,
    List.forall_mem_cons.mpr ⟨⟨codeHd_of_K (c := 103) (P := 99) KX (by kernel_rfl), hT8 99 (by simp)⟩,
    List.forall_mem_cons.mpr ⟨⟨codeHd_of_K (c := 110) (P := 106) KX (by kernel_rfl), hT8 106 (by simp)⟩, fun _ h => nomatch h⟩⟩⟩
  clear hmg
  wrow_args hpre hlay hrd hwl hlo
  all_goals (
    first | refine callC_kw (enter_call ?_) | refine enter_call ?_
    w_top on
    refine post_code hT9 (fun _ _ => rfl) ?hpost ?_
    rotate_left
    w_call any ho hd hcd hD T F
    clear hd
    kn_ghosts F T
    k_drop
    skip)
  all_goals try k_fold
  k_steps
  show wpAny _ _ (call _ _ _) _ _ _
  refine row_new (by k_asm) (by k_asm) (by k_asm) (by k_asm) (by k_asm) rfl (by decide) (by decide) ?_
  intro r d n hs tkd nd h₁ tk₁ F₁ N₁ fr₁ hrd
  k_steps
  rename_i wO rO X0 XX TT KK cA cB l0 la hxa lla Da wsa hxb hIa hCa hLa lDa Dn wsn hx5 hIn lDn hx4 tn hx3 hx2 pl hx1 lpl hx F' N'
  show wpAny _ _ (exec _ _) _ _ _
  refine law_loop (l := Dn) (r := r) (d := d) (pl := pl) (cP := s₁.heap.objs.size + 1) (n := n) (n2 := 0) (nl := 0) (nd := nd) (hs := hs) (tkd := tkd) (oc := wO) (oL := tabObj #[]) (oS := tabObj #[]) (ps := #[]) KK XX TT F' XX (news_sub N' ?sub) TT rfl rfl rfl rfl rO hIn ?h14 (by decide) (by decide) ⟨#[], rfl, trivial, rfl⟩ ⟨#[], rfl, trivial, rfl⟩ (TabK.nil []) ?hB (Int.fmod_nonneg_of_pos _ (by decide)) ?h2 ?ndp ?nx
  case sub =>
    (repeat refine sub_cons (by k_mem) ?_)
    exact fun q hq => nomatch hq
  case h14 => 
    have e := hIn.length
    simp only [List.length_append, List.length_cons, List.length_nil, List.length_take] at e
    omega
  case hB => exact AllBare.of_eq hg
  case h2 => exact Int.lt_add_one_iff.mp (Int.fmod_lt_of_pos _ (by decide))
  case ndp =>
    have f1 := fr₁ _ (.head _)
    have f2 := fr₁ _ (.tail _ (.tail _ (.tail _ (.head _))))
    exact nodup8 hrd f1 f2 lDn.2.2.1 ⟨Nat.lt_succ_of_lt l0.1, Nat.lt_succ_of_lt l0.2.1, Nat.lt_succ_of_lt l0.2.2⟩ lpl.1 lpl.2.1
  case nx =>
    intro s' m' oL' oS' ps' news' okL' okP okS' hB' hos' F'' N''
    clear N' F'
    walk1
    walk1
    walk1
    exact ⟨rfl, F''.keep, hos', hB', grown3 N'' okL' okS'⟩
  case hpost => exact post_true _
end
end
end Mine
theorem PySem.Challenge.cw_pm0030_01_holds : PySem.Challenge.rw_pm0030_01.Holds := by
  exact Mine.law_true
