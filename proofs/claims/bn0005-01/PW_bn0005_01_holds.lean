import PyProof.Rows.All
import Wide.All
import OpenK.AllK
import Wide.FinOn
import PySem.Challenge.RW_bn0005_01
set_option Elab.async false
section
open PySem PySem.W PyProof.Rows
set_option maxRecDepth 100000
set_option maxHeartbeats 8000000
namespace Mine
open_top hd for PySem.Challenge.rw_bn0005_01
noncomputable abbrev LL : List Str := ["HAAB", "TZOLKIN", "_law_names", "_law_months", "midnight", "amod", "to_haab", "to_tzolkin", "_haab_count", "_tzolkin_count", "next_haab", "next_tzolkin", "next_tzolkin_haab", "_law_wheels", "_law_to_tzolkin", "_law_to_haab", "_law_told_both", "_law_told_tzolkin", "_law_told_month", "_law_faults", "law", "EPOCH"]

/-- what a call of the def at f does, from any frame of a def, said by R of the frame and of the two ends -/
abbrev Says (w : World) (mean : ExcName → Option Value) (mg mb : Str → Option Value) (dN uN : Nat) (f : Addr) (vs : List Value)
    (R : Heap → Addr → (Str → Option Value) → List (Addr × Obj) → Shared → List Env → (Value → Shared → Prop) → (Value → Shared → Prop) → Prop) : Prop :=
  ∀ (dp un : Nat) (gd : Option (List PySem.Code)) (cn : Str) (cs : Scope) (a : Addr) (ccd : Value) (cl : List (Str × Addr)) (outer : List Env) (A₀ : Around) (base h₀ : Heap) (L : Addr) (m : Str → Option Value)
    (news : List (Addr × Obj)) (s : Shared) (Q E : Value → Shared → Prop),
    Below A₀ base outer h₀ → Fr h₀ L s.heap m → (Mine.hd.heap_39 w.params).In h₀ → News h₀ L s.heap news → Top topProg LL mean mg mb h₀ → cs.kind = .function →
    dp + dN < recursionLimit → un + uN < cLine →
    R h₀ L m news s (envX cn cs L a ccd cl :: outer) Q E →
    wpAny (model PySem.Challenge.rw_bn0005_01.row.prog w) (ktrTop dp un gd cn cs L a ccd cl outer) (call (.ref f) vs) Q E s

end Mine
end
section
open PySem PySem.W PyProof.Rows PySem.Calls
set_option maxRecDepth 100000
set_option maxHeartbeats 400000
namespace Mine
open PySem.MeetsSeq PySem.AutoSeq1

def isTxt (x : Str) : Value → Bool
  | .str y _ => decide (y = x)
  | _ => false
def allTxt (vs : List Value) : Bool := vs.all fun v => match v with | .str _ _ => true | _ => false
theorem eq_txt {x : Str} {t : Tok} {vs : List Value} (h : allTxt vs = true) : ∀ y ∈ vs.toArray, EqGives y (.str x t) (isTxt x y) := by
  intro y hy
  have hy' : y ∈ vs := by simpa using hy
  have h1 := List.all_eq_true.mp h y hy'
  cases y <;> first | exact absurd h1 Bool.false_ne_true | skip
  exact fun _ _ _ _ _ _ h => wpAny_eqBool_str h

section
variable {prog : Program} {w : World} {A : Around} {E : Value → Shared → Prop} {s : Shared} {K : Frag} {a : Addr} {h₀ : Heap} {L : Addr} {m : Str → Option Value}
theorem topMethod_list {n : Nat} {name : Str} {id : String} {pl : Sem Bool} {l : List Value} {Q : Value × List Value → Shared → Prop} (F : Fr h₀ L s.heap m) (X₀ : K.In h₀)
    (hl : K.lookup a = some ⟨.type "list", none, .seq l.toArray n, #[]⟩) (slot : Slot "list" name id) (hty : typeOf (.builtin id) = pure (.type "method_descriptor"))
    (h : Q (.builtin id, [.ref a]) s) : wpAny (model prog w) A (getMethod (.ref a) name pl) Q E s :=
  getMethod_builtin ⟨_, X₀.keeps F.keep _ _ hl, rfl⟩ PySem.F.plainAttrs_list slot hty (fun a e => by cases e; exact ⟨_, X₀.keeps F.keep _ _ hl, rfl⟩) h

theorem topIndex_hit {n : Nat} {l : List Value} {x : Str} {t : Tok} {j : Nat} {Q : Value → Shared → Prop} (F : Fr h₀ L s.heap m) (X₀ : K.In h₀)
    (hl : K.lookup a = some ⟨.type "list", none, .seq l.toArray n, #[]⟩) (ht : allTxt l = true) (hj : l.findIdx? (isTxt x) = some j) (hs : l.length < 1000)
    (h : Q (.int j s.toks) { s with toks := s.toks + 1 }) : wpAny (model prog w) A (call (.builtin "list.index") [.ref a, .str x t]) Q E s := by
  have ho := X₀.keeps F.keep _ _ hl
  obtain ⟨hlt, hat, hno⟩ := List.findIdx?_eq_some_iff_getElem.mp hj
  refine call_meets PySem.F.slot_list_index ⟨_, ho, rfl⟩ PySem.F.entry_list_index (PySem.F.args_list_index_2 _ _)
    (MeetsSeq.list_index a l.toArray n (.str x t) (isTxt x) (eq_txt ht) j (by simpa using hlt) (by omega) (by simpa using hat) (fun i hi hlt' => by simpa using hno i hlt')) ⟨ho, h⟩

theorem index_loop_none (l : Addr) (items : Array Value) (n : Nat) (x : Str) (tx : Tok) (he : ∀ y, y ∈ items → EqGives y (.str x tx) (isTxt x y)) (hno : ∀ m (hm : m < items.size), isTxt x items[m] = false) (upto : Int) (hup : (items.size : Int) ≤ upto) (hx : (reprText x).length + 100 ≤ sizeLine) (k : Nat) :
    ∀ i : Nat, items.size - i = k → Meets (Builtin.«list.index.loop» ⟨[.ref l, .str x tx, rawInt i, rawInt upto], []⟩)
      (fun A R s => s.heap.get? l = some { cls := .type "list", dict := none, data := .seq items n, slots := #[] } ∧ raisesNew "ValueError" A R s) := by
  induction k with
  | zero =>
    intro i hk prog w A R s h
    obtain ⟨hp, g, d, tk, os⟩ := s; obtain ⟨hl, h⟩ := h
    wp_walk using wpAny_loadPart' hl
    have hi : (if (i : Int) < upto then items[((i : Nat) : Int).toNat]? else none) = none := by
      have : items[((i : Nat) : Int).toNat]? = none := by simp; omega
      rw [this]; split <;> rfl
    rw [hi]
    refine wpAny_bind (wpAny_rule ?_)
    refine wpAny_bind (wpAny_pyRepr_str ?_ (Nat.le_trans (Nat.le_add_right _ 100) hx))
    unfold Builtin.List.listRaiseStr
    have hlen : (reprText x ++ Str.ofString " is not in list").length ≤ sizeLine := by
      rw [Str.length_append]; exact Nat.le_trans (Nat.add_le_add_left (show _ ≤ 100 by decide) _) hx
    generalize reprText x ++ Str.ofString " is not in list" = msg at hlen ⊢
    refine wpAny_bind ?_
    refine wpAny_mkStr ?_ hlen
    refine wpAny_bind ?_
    unfold newExc newTuple
    refine wpAny_bind (wpAny_newObj_type ?_)
    refine wpAny_bind (m := firstArgMember _ _) (wpAny_of_eq (a := Value.none) (by simp only [firstArgMember, plainExc_ValueError.first]; rfl) ?_)
    rw [plainExc_ValueError.own]
    refine wpAny_newObj_type ?_
    unfold raiseNew
    refine wpAny_bind (wpAny_handled ?_)
    rw [show A.handled = none from h.1]
    first
      | refine wpAny_throw ?_
      | refine wpAny_bind (wpAny_pure (wpAny_throw ?_))
    exact h.2 _ _ _ ⟨fun b o hb => Heap.get?_push_of_some _ (Heap.get?_push_of_some _ hb), Heap.get?_none_of_le (by simp), _, _, Heap.get?_push_size _ rfl, rfl, rfl⟩
  | succ k ih =>
    intro i hk prog w A R s h
    obtain ⟨hp, g, d, tk, os⟩ := s; obtain ⟨hl, h⟩ := h
    have hlt : i < items.size := by omega
    wp_walk using wpAny_loadPart' hl
    have hi : (if (i : Int) < upto then items[((i : Nat) : Int).toNat]? else none) = some items[i] := by
      have : (i : Int) < upto := by omega
      simp [hlt, this]
    have hc : ((i : Int) + 1) = ((i + 1 : Nat) : Int) := by push_cast; rfl
    rw [hi]
    refine wpAny_bind (he _ (Array.getElem_mem hlt) prog w _ _ _ _ ?_)
    rw [hno i hlt]
    wp_walk
    rw [hc]
    exact ⟨plainId_quiet plain_index_loop _, codeAny_builtin entry_index_loop (by
      rw [Around.under_plainId plain_index_loop _]
      exact ih (i + 1) (by omega) prog w A R _ ⟨hl, h⟩)⟩
theorem list_index_none (l : Addr) (items : Array Value) (n : Nat) (x : Str) (tx : Tok) (he : ∀ y, y ∈ items → EqGives y (.str x tx) (isTxt x y)) (hno : ∀ m (hm : m < items.size), isTxt x items[m] = false) (hsz : items.size < 1000) (hx : (reprText x).length + 100 ≤ sizeLine) :
    Meets (Builtin.«list.index» ⟨[.ref l, .str x tx], []⟩)
      (fun A R s => s.heap.get? l = some { cls := .type "list", dict := none, data := .seq items n, slots := #[] } ∧ raisesNew "ValueError" A R s) := by
  intro prog w A R s h
  obtain ⟨hp, g, d, tk, os⟩ := s; obtain ⟨hl, h⟩ := h
  wp_walk using wpAny_loadPart' hl
  have a1 : ((fun i : Int => if i < 0 then max 0 (i + (items.size : Int)) else i) ((none : Option Int).getD 0)) = ((0 : Nat) : Int) := by simp
  have a2 : ((fun i : Int => if i < 0 then max 0 (i + (items.size : Int)) else i) ((none : Option Int).getD (2 ^ 63 - 1))) = 2 ^ 63 - 1 := by simp
  rw [a1, a2]
  exact ⟨plainId_quiet plain_index_loop _, codeAny_builtin entry_index_loop (by
    rw [Around.under_plainId plain_index_loop _]
    exact index_loop_none l items n x tx he hno (2 ^ 63 - 1) (by omega) hx _ 0 rfl prog w A R _ ⟨hl, h⟩)⟩

theorem topIndex_none {n : Nat} {l : List Value} {x : Str} {t : Tok} {Q : Value → Shared → Prop} (F : Fr h₀ L s.heap m) (X₀ : K.In h₀)
    (hl : K.lookup a = some ⟨.type "list", none, .seq l.toArray n, #[]⟩) (ht : allTxt l = true) (hj : l.findIdx? (isTxt x) = none) (hs : l.length < 1000) (hx : (reprText x).length + 100 ≤ sizeLine) (hA : A.handled = none)
    (hE : ∀ h' tk e, Heap.NewExc s.heap h' e "ValueError" → E (.ref e) { s with heap := h', toks := tk }) : wpAny (model prog w) A (call (.builtin "list.index") [.ref a, .str x t]) Q E s := by
  have ho := X₀.keeps F.keep _ _ hl
  have hno := List.findIdx?_eq_none_iff.mp hj
  refine call_meets PySem.F.slot_list_index ⟨_, ho, rfl⟩ PySem.F.entry_list_index (PySem.F.args_list_index_2 _ _)
    (list_index_none a l.toArray n x t (eq_txt ht) (fun i hi => hno _ (by simp)) (by simpa using hs) hx) ⟨ho, hA, fun h' tk e hn => hE h' tk e hn⟩
end
abbrev haabV : List Value := [.str "Pop" 209, .str "Wo'" 210, .str "Zip" 211, .str "Sotz'" 212, .str "Sek" 213, .str "Xul" 214, .str "Yaxk'in'" 215, .str "Mol" 216, .str "Ch'en" 217, .str "Yax" 218, .str "Sak'" 219, .str "Keh" 220, .str "Mak" 221, .str "K'ank'in" 222, .str "Muwan'" 223, .str "Pax" 224, .str "K'ayab" 225, .str "Kumk'u" 226, .str "Wayeb'" 227]
abbrev tzolV : List Value := [.str "Imix'" 229, .str "Ik'" 230, .str "Ak'b'al" 231, .str "K'an" 232, .str "Chikchan" 233, .str "Kimi" 234, .str "Manik'" 235, .str "Lamat" 236, .str "Muluk" 237, .str "Ok" 238, .str "Chuwen" 239, .str "Eb'" 240, .str "B'en" 241, .str "Ix" 242, .str "Men" 243, .str "K'ib'" 244, .str "Kab'an" 245, .str "Etz'nab'" 246, .str "Kawak" 247, .str "Ajaw" 248]
abbrev haabN : List Str := ["Pop", "Wo'", "Zip", "Sotz'", "Sek", "Xul", "Yaxk'in'", "Mol", "Ch'en", "Yax", "Sak'", "Keh", "Mak", "K'ank'in", "Muwan'", "Pax", "K'ayab", "Kumk'u", "Wayeb'", "Ajaw"]
abbrev tzolN : List Str := ["Imix'", "Ik'", "Ak'b'al", "K'an", "Chikchan", "Kimi", "Manik'", "Lamat", "Muluk", "Ok", "Chuwen", "Eb'", "B'en", "Ix", "Men", "K'ib'", "Kab'an", "Etz'nab'", "Kawak", "Ajaw", "Pop"]
theorem haab_find : ∀ k : Nat, k < 19 → haabV.findIdx? (isTxt (haabN.getD k Str.empty)) = some k := by decide +kernel
theorem haab_miss : haabV.findIdx? (isTxt "Ajaw") = none := by decide +kernel
theorem tzol_find : ∀ k : Nat, k < 20 → tzolV.findIdx? (isTxt (tzolN.getD k Str.empty)) = some k := by decide +kernel
theorem tzol_miss : tzolV.findIdx? (isTxt "Pop") = none := by decide +kernel
theorem fits_Ajaw : (reprText "Ajaw").length + 100 ≤ sizeLine := by decide +kernel
theorem fits_Pop : (reprText "Pop").length + 100 ≤ sizeLine := by decide +kernel
end Mine
end
section
open PySem PySem.W PyProof.Rows PySem.Calls
set_option maxRecDepth 100000
set_option maxHeartbeats 400000
namespace Mine
section
variable {M : Model} {A : Around} {E : Value → Shared → Prop} {s : Shared}
theorem wpAny_setsByText {Q : Bool → Shared → Prop} (h : ∀ b, Q b s) : wpAny M A setsByText Q E s := by
  unfold setsByText
  exact wpAny_bind (wpAny_askSetting (wpAny_pure (h _)))
theorem wpAny_choose {src : Source} {n : Nat} {Q : Nat → Shared → Prop} (hn : n ≠ 0) (h : ∀ i d', i < n → Q i { s with drawn := d' }) : wpAny M A (choose src n) Q E s := fun Γ p _ => by
  unfold choose
  rw [Sem.wp_choose]
  exact ⟨hn, h _ _ (Nat.mod_lt _ (Nat.pos_of_ne_zero hn))⟩
end
theorem mem_pickGo {α : Type} (next : Nat → Nat) (x : α) : ∀ (fuel k : Nat) (left : List α) (out : Array α), left.length ≤ fuel → (x ∈ pickOrder.go next fuel k left out ↔ x ∈ left ∨ x ∈ out)
  | 0, k, left, out, h => by
    have : left = [] := List.length_eq_zero_iff.mp (by omega)
    subst this
    simp [pickOrder.go]
  | fuel + 1, k, left, out, h => by
    unfold pickOrder.go
    cases left with
    | nil => simp
    | cons a r =>
      have hlt : next k % (a :: r).length < (a :: r).length := Nat.mod_lt _ (by simp)
      generalize next k % (a :: r).length = i at hlt
      rw [List.getElem?_eq_getElem hlt]
      dsimp only
      rw [mem_pickGo next x fuel (k + 1) _ _ (by rw [List.length_eraseIdx]; simp only [hlt, if_true]; omega)]
      rw [Array.mem_push]
      constructor
      · rintro (h1 | h1 | h1)
        · exact .inl (List.mem_of_mem_eraseIdx h1)
        · exact .inr h1
        · exact .inl (h1 ▸ List.getElem_mem hlt)
      · rintro (h1 | h1)
        · obtain ⟨j, hj, e⟩ := List.getElem_of_mem h1
          by_cases hji : j = i
          · subst hji; exact .inr (.inr e.symm)
          · exact .inl (List.mem_eraseIdx_iff_getElem.mpr ⟨j, hj, hji, e⟩)
        · exact .inr (.inl h1)
theorem size_pickGo {α : Type} (next : Nat → Nat) : ∀ (fuel k : Nat) (left : List α) (out : Array α), (pickOrder.go next fuel k left out).size ≤ out.size + fuel
  | 0, k, left, out => by simp [pickOrder.go]
  | fuel + 1, k, left, out => by
    unfold pickOrder.go
    split
    · refine Nat.le_trans (size_pickGo next fuel (k + 1) _ _) ?_
      rw [Array.size_push]; omega
    · omega
theorem size_pickOrder {α : Type} (next : Nat → Nat) (xs : Array α) : (pickOrder next xs).size ≤ xs.size := by
  unfold pickOrder
  have := size_pickGo next xs.size 0 xs.toList #[]
  simpa using this
theorem mem_pickOrder {α : Type} (next : Nat → Nat) (xs : Array α) (x : α) : x ∈ pickOrder next xs ↔ x ∈ xs := by
  unfold pickOrder
  rw [mem_pickGo next x _ _ _ _ (by simp)]
  simp
section
variable {prog : Program} {w : World} {A : Around} {E : Value → Shared → Prop} {s : Shared}
theorem quiet_inner {β : Type} (es : Array (Int × Value)) (hs : ∀ e ∈ es.toList, e.2.scannable = true) (f : (Int × Value) → β → Sem (ForInStep β)) (b : β)
    (hf : ∀ e, e.2.scannable = true → f e b = pure (.yield b)) {Q : β → Shared → Prop} (h : Q b s) : wpAny (model prog w) A (forIn es b f) Q E s := by
  obtain ⟨l⟩ := es
  rw [List.forIn_toArray]
  induction l with
  | nil => rw [List.forIn_nil]; exact wpAny_pure h
  | cons e r ih =>
    rw [List.forIn_cons, hf e (hs e (.head _))]
    exact wpAny_bind (wpAny_pure (ih fun x hx => hs x (.tail _ hx)))
theorem wpAny_setsQuiet3 {a b c : Addr} {oa ob oc : Obj} {ea eb ec : Array (Int × Value)} {na nb nc : Nat} {ta tb tc : SetTable} {Q : Bool → Shared → Prop}
    (ha : s.heap.get? a = some oa) (da : oa.data = .set ea na ta) (fa : ta.fits ea.size = true) (sa : ∀ e ∈ ea.toList, e.2.scannable = true)
    (hb : s.heap.get? b = some ob) (db : ob.data = .set eb nb tb) (fb : tb.fits eb.size = true) (sb : ∀ e ∈ eb.toList, e.2.scannable = true)
    (hc : s.heap.get? c = some oc) (dc : oc.data = .set ec nc tc) (fc : tc.fits ec.size = true) (sc : ∀ e ∈ ec.toList, e.2.scannable = true)
    (h : Q true s) : wpAny (model prog w) A (setsQuiet [a, b, c]) Q E s := by
  have hq : ∀ (e : Int × Value), e.2.scannable = true → ∀ (x : Addr → Sem (ForInStep (Option Bool × Unit))), (match e.2 with
      | Value.ref a => x a
      | _ => pure (ForInStep.yield (none, ()))) = pure (ForInStep.yield (none, ())) := fun e he x => by
    obtain ⟨h0, v⟩ := e
    cases v <;> first | rfl | exact absurd he Bool.false_ne_true
  unfold setsQuiet
  simp only [List.forIn_cons, List.forIn_nil]
  refine wpAny_bind (wpAny_bind (wpAny_bind (wpAny_setEntries_of ha da fa (wpAny_bind (quiet_inner ea sa _ _ (fun e he => hq e he _) ?_)))))
  refine wpAny_pure ?_
  dsimp only
  refine wpAny_bind (wpAny_bind (wpAny_setEntries_of hb db fb (wpAny_bind (quiet_inner eb sb _ _ (fun e he => hq e he _) ?_))))
  refine wpAny_pure ?_
  dsimp only
  refine wpAny_bind (wpAny_bind (wpAny_setEntries_of hc dc fc (wpAny_bind (quiet_inner ec sc _ _ (fun e he => hq e he _) ?_))))
  refine wpAny_pure (wpAny_pure ?_)
  exact wpAny_pure h
abbrev IntEls (prog : Program) (w : World) (es : Array (Int × Value)) : Prop := ElemsOf (intKind prog w) es.toList
theorem IntEls.sc {es : Array (Int × Value)} (h : IntEls prog w es) : ∀ e ∈ es.toList, e.2.scannable = true := fun e he => (h e he).2
theorem wpAny_setWalk_of {a : Addr} {o : Obj} {es : Array (Int × Value)} {n : Nat} {t : SetTable} {Q : Array (Int × Value) → Shared → Prop}
    (ho : s.heap.get? a = some o) (hd : o.data = .set es n t) (hf : t.fits es.size = true) (hok : (t.led && t.plain) = true ∨ es.size ≤ 1 ∨ (model prog w).w.params.followText "set-order" = true)
    (h : ∀ es', (∀ x, x ∈ es' ↔ x ∈ es) → es'.size ≤ es.size → Q es' s) : wpAny (model prog w) A (setWalk a) Q E s := by
  unfold setWalk
  refine wpAny_bind (wpAny_setState_of ho hd hf ?_)
  dsimp only
  unfold setsByText
  refine wpAny_bind (wpAny_bind (wpAny_askSetting (wpAny_pure ?_)))
  cases hb : (Setting.mk (model prog w).prog (model prog w).w.params).params.followText "set-order" with
  | true =>
    rw [if_pos rfl]
    refine wpAny_bind (wpAny_askSetting (wpAny_pure (h _ (fun x => mem_pickOrder _ _ _) (size_pickOrder _ _))))
  | false =>
    have hok' : (t.led && t.plain) = true ∨ es.size ≤ 1 := by
      rcases hok with h1 | h1 | h1
      · exact .inl h1
      · exact .inr h1
      · exact absurd (h1.symm.trans hb) (by simp)
    rw [if_neg Bool.false_ne_true]
    show wpAny _ _ (if (!t.plain && decide (es.size > 1)) = true then _ else _) _ _ _
    have h1 : (!t.plain && decide (es.size > 1)) = false := by
      rcases hok' with h1 | h1
      · simp only [Bool.and_eq_true] at h1; simp [h1.2]
      · simp; intro _; omega
    rw [h1, if_neg Bool.false_ne_true]
    show wpAny _ _ ((if (!t.led && decide (es.size > 1)) = true then unsupported "set:maker-not-led" else pure ()) >>= _) _ _ _
    have h2 : (!t.led && decide (es.size > 1)) = false := by
      rcases hok' with h1 | h1
      · simp only [Bool.and_eq_true] at h1; simp [h1.1]
      · simp; intro _; omega
    rw [h2, if_neg Bool.false_ne_true]
    exact wpAny_bind (wpAny_pure (wpAny_pure (h _ (fun x => Iff.rfl) (Nat.le_refl _))))

theorem wpAny_setWalkUnseen_of {a b r : Addr} {oa ob : Obj} {ea eb : Array (Int × Value)} {na nb : Nat} {ta tb : SetTable} {S : Int → Bool} {k : Nat} {Q : Array (Int × Value) → Shared → Prop}
    (ha : s.heap.get? a = some oa) (da : oa.data = .set ea na ta) (fa : ta.fits ea.size = true) (la : IntEls prog w ea)
    (hb : s.heap.get? b = some ob) (db : ob.data = .set eb nb tb) (fb : tb.fits eb.size = true) (lb : IntEls prog w eb)
    (hr : s.heap.SetOf (intKind prog w) r S k)
    (h : ∀ es' h', (∀ x, x ∈ es' ↔ x ∈ ea) → es'.size ≤ ea.size → Heap.SameBut r s.heap h' → h'.SetOf (intKind prog w) r S k → Q es' { s with heap := h' }) :
    wpAny (model prog w) A (setWalkUnseen a [b, r] (some r)) Q E s := by
  have hs0 : Heap.SameBut r s.heap s.heap := ⟨rfl, fun _ _ => rfl⟩
  unfold setWalkUnseen
  refine wpAny_bind (wpAny_setState_of ha da fa ?_)
  dsimp only
  unfold setsByText
  refine wpAny_bind (wpAny_bind (wpAny_askSetting (wpAny_pure ?_)))
  split
  · rename_i hc
    refine wpAny_setWalk_of ha da fa ?_ fun es' he hz => h es' s.heap he hz hs0 hr
    simp only [Bool.or_eq_true, decide_eq_true_eq] at hc
    rcases hc with (hc | hc) | hc
    · exact .inr (.inr hc)
    · exact .inl hc
    · exact .inr (.inl hc)
  · obtain ⟨o, es, ep, t, ho, hex, hd, hel, hmem, hbd, hf, hn⟩ := hr
    refine wpAny_bind (wpAny_setsQuiet3 ha da fa la.sc hb db fb lb.sc ho hd hf (IntEls.sc hel) ?_)
    simp only [Bool.not_true, Bool.false_eq_true, if_false]
    refine wpAny_bind (wpAny_rule ?_)
    refine wpAny_bind (wpAny_setState_of ho hd hf ?_)
    dsimp only
    split
    · refine wpAny_bind (wpAny_storeSet_of ho hd ?_ (fits_of_scanBound hbd))
      obtain ⟨_, hS⟩ := SetOf_store (knd := intKind prog w) ho hex hd (t' := { t with led := t.led && ta.led, plain := t.plain && ta.plain }) hel hmem hbd (by cases t; exact hf)
      rw [hn] at hS
      exact wpAny_pure (h _ _ (fun _ => Iff.rfl) (Nat.le_refl _) (Heap.SameBut.update s.heap r _) hS)
    · exact wpAny_pure (h _ s.heap (fun _ => Iff.rfl) (Nat.le_refl _) hs0 ⟨o, es, ep, t, ho, hex, hd, hel, hmem, hbd, hf, hn⟩)

/-- the keys that were taken into a set, each once, in their order -/
def KeysOf (prog : Program) (w : World) (h : Heap) (r : Addr) (σ : List Int) : Prop := σ.Nodup ∧ h.SetOf (intKind prog w) r (fun k => σ.any (· == k)) σ.length
theorem KeysOf.step {h h' : Heap} {r : Addr} {σ : List Int} {k : Int} (x : KeysOf prog w h r σ)
    (hS : h'.SetOf (intKind prog w) r (fun k' => (fun k => σ.any (· == k)) k' || decide (k' = k)) (if (fun k => σ.any (· == k)) k then σ.length else σ.length + 1)) :
    KeysOf prog w h' r (step_dedup σ k) := by
  refine ⟨?_, SetOf_congr hS (fun k' => (step_any σ k k').symm) (step_length σ k).symm⟩
  unfold step_dedup
  split
  · exact x.1
  · rename_i hn
    refine List.nodup_append.mpr ⟨x.1, by simp, fun a ha b hb => ?_⟩
    simp only [List.mem_singleton] at hb
    subst hb
    intro e
    subst e
    exact hn (List.any_eq_true.mpr ⟨a, ha, by simp⟩)
theorem mem_step {σ : List Int} {k x : Int} : x ∈ step_dedup σ k ↔ x ∈ σ ∨ x = k := by
  unfold step_dedup
  split
  · rename_i h
    obtain ⟨y, hy, e⟩ := List.any_eq_true.mp h
    have : y = k := by simpa using e
    subst this
    constructor
    · exact .inl
    · rintro (h | rfl)
      · exact h
      · exact hy
  · simp

theorem int_el {e : Int × Value} (he : (∃ k, (intKind prog w).is k e.2 = true ∧ e.1 = (intKind prog w).hash k) ∧ e.2.scannable = true) : ∃ k t, e.2 = .int k t ∧ e.1 = hashInt k := by
  obtain ⟨⟨k, hk, hh⟩, _⟩ := he
  obtain ⟨t, ht⟩ := Value.isInt_shape hk
  exact ⟨k, t, ht, hh⟩
theorem inter_for {Sa : Int → Bool} {r : Addr} {f : Int × Value → PUnit → Sem (ForInStep PUnit)} {es : Array (Int × Value)} {h₀ : Heap} {s₀ : Shared} {bound : Nat} {Q : PUnit → Shared → Prop}
    (hel : IntEls prog w es)
    (hf : ∀ (k : Int) (t : Tok) (σ : List Int) (h₁ : Heap) (Q : ForInStep PUnit → Shared → Prop), KeysOf prog w h₁ r σ → Heap.SameBut r h₀ h₁ → σ.length < bound →
      (∀ h₂, KeysOf prog w h₂ r (if Sa k then step_dedup σ k else σ) → Heap.SameBut r h₀ h₂ → Q (.yield ⟨⟩) { s₀ with heap := h₂ }) →
      wpAny (model prog w) A (f (hashInt k, .int k t) ⟨⟩) Q E { s₀ with heap := h₁ })
    (σ : List Int) (h₁ : Heap) (hK : KeysOf prog w h₁ r σ) (hs : Heap.SameBut r h₀ h₁) (hb : σ.length + es.size ≤ bound)
    (h : ∀ h₂ σ', (∀ k, k ∈ σ' ↔ k ∈ σ ∨ (Sa k = true ∧ ∃ e ∈ es.toList, ∃ t, e.2 = .int k t)) → KeysOf prog w h₂ r σ' → Heap.SameBut r h₀ h₂ → Q ⟨⟩ { s₀ with heap := h₂ }) :
    wpAny (model prog w) A (forIn es PUnit.unit f) Q E { s₀ with heap := h₁ } := by
  obtain ⟨l⟩ := es
  rw [List.forIn_toArray]
  have hel' : ElemsOf (intKind prog w) l := hel
  have hb' : σ.length + l.length ≤ bound := by simpa using hb
  clear hel hb
  induction l generalizing σ h₁ with
  | nil =>
    rw [List.forIn_nil]
    exact wpAny_pure (h _ _ (fun k => by simp) hK hs)
  | cons e l ih =>
    rw [List.forIn_cons]
    obtain ⟨k, t, e2, e1⟩ := int_el hel'.head
    obtain ⟨eh, ev⟩ := e
    simp only at e1 e2
    subst e1 e2
    rw [List.length_cons] at hb'
    refine wpAny_bind (hf k t σ h₁ _ hK hs (by omega) fun h₂ hK₂ hs₂ => ?_)
    dsimp only
    refine ih _ h₂ hK₂ hs₂ (fun h₃ σ' hm hK₃ hs₃ => h h₃ σ' (fun k' => ?_) hK₃ hs₃) hel'.tail ?_
    · rw [hm k']
      have hk : k' ∈ (if Sa k then step_dedup σ k else σ) ↔ k' ∈ σ ∨ (Sa k' = true ∧ k' = k) := by
        split
        · rename_i hk
          rw [mem_step]
          constructor
          · rintro (h | rfl)
            · exact .inl h
            · exact .inr ⟨hk, rfl⟩
          · rintro (h | ⟨_, h⟩)
            · exact .inl h
            · exact .inr h
        · rename_i hk
          constructor
          · exact .inl
          · rintro (h' | ⟨h', rfl⟩)
            · exact h'
            · exact absurd h' hk
      rw [hk]
      constructor
      · rintro ((h | ⟨h1, rfl⟩) | ⟨h1, x, hx, t', ht⟩)
        · exact .inl h
        · exact .inr ⟨h1, _, .head _, t, rfl⟩
        · exact .inr ⟨h1, x, .tail _ hx, t', ht⟩
      · rintro (h | ⟨h1, x, hx, t', ht⟩)
        · exact .inl (.inl h)
        · rcases List.mem_cons.mp hx with rfl | hx
          · exact .inl (.inr ⟨h1, by injection ht with a b; exact a.symm⟩)
          · exact .inr ⟨h1, x, hx, t', ht⟩
    · have : (if Sa k then step_dedup σ k else σ).length ≤ σ.length + 1 := by
        split
        · rw [step_length]; split <;> omega
        · omega
      omega

theorem inter_core {asked wk r : Addr} {Sk Sw : Int → Bool} {nk nw : Nat} {id : String} {H : Heap} {s₀ : Shared} {Q : Unit → Shared → Prop}
    (hk : H.SetOf (intKind prog w) asked Sk nk) (hw : H.SetOf (intKind prog w) wk Sw nw) (hkr : asked ≠ r) (hwr : wk ≠ r) (hr : H.SetOf (intKind prog w) r (fun _ => false) 0) (hb : nw + 1 < scanBound)
    (h : ∀ h' σ, (∀ k, k ∈ σ ↔ Sk k = true ∧ Sw k = true) → KeysOf prog w h' r σ → Heap.SameBut r H h' → Q () { s₀ with heap := h' }) :
    wpAny (model prog w) A (do
        let was ← setEpoch wk
        let l ← setWalkUnseen wk [asked, r] (some r)
        forIn l PUnit.unit fun x _ => do
            holding [x.2] do
                let d ← setFind asked x.2 x.1
                if d.isSome = true then do
                    let _ ← setAddHashed r x.2 x.1
                    pure ()
                  else pure ()
            Builtin.Frozenset.unchanged id wk was
            pure (ForInStep.yield PUnit.unit)
        pure ()) Q E { s₀ with heap := H } := by
  obtain ⟨ok, ek, epk, tk, hok, hexk, hdk, helk, hmemk, hbdk, hfk, hnk⟩ := hk
  obtain ⟨ow, ew, epw, tw, how, hexw, hdw, helw, hmemw, hbdw, hfw, hnw⟩ := hw
  refine wpAny_bind (wpAny_setEpoch_of how hdw hfw ?_)
  refine wpAny_bind (wpAny_setWalkUnseen_of how hdw hfw helw hok hdk hfk helk hr fun es' h₁ he hz hs₁ hr₁ => ?_)
  have helE : IntEls prog w es' := fun e hm => helw e (by
    have := (he e).mp (by simpa using hm)
    simpa using this)
  have hsz : es'.size + 1 < scanBound := by omega
  refine wpAny_bind (inter_for (Sa := Sk) (h₀ := H) (bound := es'.size) helE ?_ [] h₁ ⟨List.nodup_nil, SetOf_congr hr₁ (fun _ => rfl) rfl⟩ hs₁ (by simp) ?_)
  · intro k t σ h₂ Q' hK hs₂ hb₂ hQ
    have hok₂ : h₂.get? asked = some ok := (hs₂.2 _ hkr).trans hok
    have how₂ : h₂.get? wk = some ow := (hs₂.2 _ hwr).trans how
    have hk₂ : h₂.SetOf (intKind prog w) asked Sk nk := ⟨ok, ek, epk, tk, hok₂, hexk, hdk, helk, hmemk, hbdk, hfk, hnk⟩
    refine wpAny_bind (wpAny_holding (wpAny_bind (wpAny_setFind_of (knd := intKind prog w) (s := { s₀ with heap := h₂ }) (intKind_is _ _ _ _) rfl hk₂ fun rr hrr => ?_)))
    rw [hrr]
    cases hc : Sk k with
    | false =>
      simp only [Bool.false_eq_true, if_false]
      refine wpAny_pure ?_
      unfold Builtin.Frozenset.unchanged
      refine wpAny_bind (wpAny_bind (wpAny_setEpoch_of how₂ hdw hfw ?_))
      simp only [bne_self_eq_false, Bool.false_eq_true, if_false]
      refine wpAny_pure (wpAny_pure (hQ h₂ ?_ hs₂))
      rw [hc]; exact hK
    | true =>
      simp only [if_true]
      refine wpAny_bind (wpAny_setAddHashed_of (knd := intKind prog w) (s := { s₀ with heap := h₂ }) (intKind_is _ _ _ _) rfl hK.2 (by omega) fun h₃ hs₃ hS₃ => wpAny_pure ?_)
      have how₃ : h₃.get? wk = some ow := (hs₃.2 _ hwr).trans how₂
      unfold Builtin.Frozenset.unchanged
      refine wpAny_bind (wpAny_bind (wpAny_setEpoch_of (s := { s₀ with heap := h₃ }) how₃ hdw hfw ?_))
      simp only [bne_self_eq_false, Bool.false_eq_true, if_false]
      refine wpAny_pure (wpAny_pure (hQ h₃ ?_ (hs₂.trans hs₃)))
      rw [hc, if_pos rfl]
      exact hK.step hS₃
  · intro h₂ σ' hm hK hs₂
    refine wpAny_pure (h h₂ σ' (fun k => ?_) hK hs₂)
    rw [hm k]
    have hw' : Sw k = true ↔ ∃ e ∈ es'.toList, ∃ t, e.2 = .int k t := by
      rw [hmemw k]
      constructor
      · rintro ⟨e, hm', hi⟩
        exact ⟨e, by simpa using (he e).mpr (by simpa using hm'), Value.isInt_shape hi⟩
      · rintro ⟨e, hm', t, ht⟩
        exact ⟨e, by simpa using (he e).mp (by simpa using hm'), by rw [ht]; exact intKind_is _ _ _ _⟩
    rw [hw']
    simp

theorem wpAny_intersection {a b : Addr} {Sa Sb : Int → Bool} {na nb : Nat} {id : String} {Q : Value → Shared → Prop}
    (ha : s.heap.SetOf (intKind prog w) a Sa na) (hb : s.heap.SetOf (intKind prog w) b Sb nb) (hab : a ≠ b) (hna1 : na + 1 < scanBound) (hnb1 : nb + 1 < scanBound)
    (h : ∀ h' σ, (∀ k, k ∈ σ ↔ Sa k = true ∧ Sb k = true) → KeysOf prog w h' s.heap.objs.size σ → (∀ q o, s.heap.get? q = some o → h'.get? q = some o) → Q (.ref s.heap.objs.size) { s with heap := h' }) :
    wpAny (model prog w) A (Builtin.Frozenset.intersection id a (.ref b)) Q E s := by
  have hT : s.TypeIs (.ref a) "set" := ha.typeIs
  unfold Builtin.Frozenset.intersection
  have hne : ((Value.ref b : Value) == Value.ref a) = false := by
    have : (Value.ref b : Value) ≠ Value.ref a := fun e => hab (by injection e with e; exact e.symm)
    simpa using this
  rw [hne]
  simp only [Bool.false_eq_true, if_false]
  unfold Builtin.Frozenset.baseOf
  refine wpAny_bind (wpAny_bind (wpAny_isInstance hT sub_set_self ?_))
  simp only [if_true]
  refine wpAny_pure ?_
  refine wpAny_bind (wpAny_newSet_of (knd := intKind prog w) fun led hS => ?_)
  generalize hH : s.heap.push { cls := Value.type "set", data := Data.set #[] 0 (SetTable.fresh 0 0 led) } = H at *
  generalize hR : s.heap.objs.size = r at *
  have kp : ∀ q o, s.heap.get? q = some o → H.get? q = some o := fun q o e => hH ▸ Heap.get?_push_of_some _ e
  have lt : ∀ q o, s.heap.get? q = some o → q ≠ r := fun q o e => hR ▸ Nat.ne_of_lt (Heap.lt_size e)
  obtain ⟨oa, ea, epa, ta, hoa, hexa, hda, hela, hmema, hbda, hfa, hna⟩ := ha
  obtain ⟨ob, eb, epb, tb, hob, hexb, hdb, helb, hmemb, hbdb, hfb, hnb⟩ := hb
  have hoa' := kp _ _ hoa
  have hob' := kp _ _ hob
  have har := lt _ _ hoa
  have hbr := lt _ _ hob
  have hTb : Shared.TypeIs { s with heap := H } (.ref b) "set" := ⟨_, hob', hexb.1⟩
  unfold Builtin.Frozenset.addrOf
  refine wpAny_bind (wpAny_pure ?_)
  refine wpAny_bind (wpAny_holding ?_)
  unfold Builtin.Frozenset.isAnySet
  refine wpAny_bind (wpAny_bind (wpAny_isInstance hTb sub_set_self ?_))
  refine wpAny_pure ?_
  simp only [if_true]
  refine wpAny_bind (wpAny_pure ?_)
  unfold Builtin.Frozenset.sizeOf
  refine wpAny_bind (wpAny_bind (wpAny_setEntries_of (s := { s with heap := H }) hob' hdb hfb (wpAny_pure ?_)))
  refine wpAny_bind (wpAny_bind (wpAny_setEntries_of (s := { s with heap := H }) hoa' hda hfa (wpAny_pure ?_)))
  have hA : H.SetOf (intKind prog w) a Sa na := ⟨oa, ea, epa, ta, hoa', hexa, hda, hela, hmema, hbda, hfa, hna⟩
  have hB : H.SetOf (intKind prog w) b Sb nb := ⟨ob, eb, epb, tb, hob', hexb, hdb, helb, hmemb, hbdb, hfb, hnb⟩
  by_cases hgt : eb.size > ea.size
  · simp only [if_pos hgt]
    refine inter_core (s₀ := s) hB hA hbr har hS (by omega) fun h' σ hσ hK hs => wpAny_pure ?_
    exact h h' σ (fun k => by rw [hσ k]; exact And.comm) hK fun q o e => (hs.2 q (lt q o e)).trans (kp q o e)
  · simp only [if_neg hgt]
    refine inter_core (s₀ := s) hA hB har hbr hS (by omega) fun h' σ hσ hK hs => wpAny_pure ?_
    exact h h' σ hσ hK fun q o e => (hs.2 q (lt q o e)).trans (kp q o e)
theorem entry_set_intersection : entryFor table "set.intersection" = some Builtin.«frozenset.intersection» :=
  entryFor_alias (id' := "frozenset.intersection") (by kernel_rfl) rfl (by decide +kernel) (by kernel_rfl)
theorem call_intersection {a b : Addr} {Sa Sb : Int → Bool} {na nb : Nat} {Q : Value → Shared → Prop}
    (ha : s.heap.SetOf (intKind prog w) a Sa na) (hb : s.heap.SetOf (intKind prog w) b Sb nb) (hab : a ≠ b) (hna1 : na + 1 < scanBound) (hnb1 : nb + 1 < scanBound)
    (h : ∀ h' σ, (∀ k, k ∈ σ ↔ Sa k = true ∧ Sb k = true) → KeysOf prog w h' s.heap.objs.size σ → (∀ q o, s.heap.get? q = some o → h'.get? q = some o) → Q (.ref s.heap.objs.size) { s with heap := h' }) :
    wpAny (model prog w) A (call (.builtin "set.intersection") [.ref a, .ref b]) Q E s := by
  refine wpAny_call_entry PySem.F.slot_set_intersection ha.typeIs entry_set_intersection ?_ (PySem.F.args_set_intersection_2 _ _)
  unfold Builtin.«frozenset.intersection» Builtin.Frozenset.manyOthers
  simp only [List.isEmpty_nil, Bool.not_true, Bool.false_eq_true, if_false, bind_assoc]
  unfold Builtin.Frozenset.addrOf
  refine wpAny_bind (wpAny_pure ?_)
  refine wpAny_bind (wpAny_pure ?_)
  simp only [List.isEmpty_cons, Bool.false_eq_true, if_false, List.forIn_cons, List.forIn_nil, bind_assoc]
  refine wpAny_bind (wpAny_holding (wpAny_bind (wpAny_pure ?_)))
  refine wpAny_intersection ha hb hab hna1 hnb1 fun h' σ hσ hK hk => ?_
  exact wpAny_bind (wpAny_pure (wpAny_bind (wpAny_pure (wpAny_pure ⟨_, rfl, h h' σ hσ hK hk⟩))))
theorem pop_place1 {t : SetTable} {n : Nat} (hf : t.fits n = true) (hn : n = 1) : t.popPlace = some 0 := by
  subst hn
  simp only [SetTable.fits, Bool.and_eq_true, beq_iff_eq] at hf
  unfold SetTable.popPlace
  have h1 : t.place.isEmpty = false := by rw [Array.isEmpty_eq_false_iff]; intro e; rw [e] at hf; simp at hf
  rw [h1]
  simp only [Bool.false_eq_true, if_false]
  split
  · rename_i h
    congr 1
    omega
  · rfl
theorem pop_place0 {t : SetTable} {n : Nat} (hf : t.fits n = true) (hn : n = 0) : t.popPlace = none := by
  subst hn
  simp only [SetTable.fits, Bool.and_eq_true, beq_iff_eq] at hf
  unfold SetTable.popPlace
  rw [if_pos]
  rw [Array.isEmpty_iff]
  exact Array.eq_empty_of_size_eq_zero hf.1
theorem call_pop_one {r : Addr} {k : Int} {Q : Value → Shared → Prop} (hr : KeysOf prog w s.heap r [k])
    (h : ∀ h' d' t, Heap.SameBut r s.heap h' → Q (.int k t) { s with heap := h', drawn := d' }) :
    wpAny (model prog w) A (call (.builtin "set.pop") [.ref r]) Q E s := by
  obtain ⟨o, es, ep, t, ho, hex, hd, hel, hmem, hbd, hf, hn⟩ := hr.2
  have hT : s.TypeIs (.ref r) "set" := ⟨_, ho, hex.1⟩
  refine wpAny_call_entry PySem.F.slot_set_pop hT PySem.F.entry_set_pop ?_ (PySem.F.args_set_pop_1 _)
  unfold Builtin.«set.pop» Builtin.Frozenset.noArgs
  simp only [List.isEmpty_nil, bind_assoc]
  unfold Builtin.Frozenset.addrOf
  refine wpAny_bind (wpAny_pure ?_)
  have hsz : es.size = 1 := hn
  have e0 : ∃ t', es[0]? = some (hashInt k, .int k t') := by
    have hlt : 0 < es.toList.length := by simp [hsz]
    have hin : es.toList[0] ∈ es.toList := List.getElem_mem hlt
    obtain ⟨k', t', e2, e1⟩ := int_el (hel _ hin)
    have := (hmem k').mpr ⟨_, hin, by rw [e2]; exact intKind_is _ _ _ _⟩
    have hk : k = k' := by simpa using this
    subst hk
    refine ⟨t', ?_⟩
    rw [← Array.getElem?_toList, List.getElem?_eq_getElem hlt]
    congr 1
    exact Prod.ext e1 e2
  obtain ⟨t', e0⟩ := e0
  have fin : ∀ (d' : Drawn) (Q' : Option Value → Shared → Prop), (∀ h', Heap.SameBut r s.heap h' → Q' (some (.int k t')) { s with heap := h', drawn := d' }) → wpAny (model prog w) A.in1 (do
      storeSet r (SetTable.eraseAt es 0) (t.popped 0)
      pure (some (Value.int k t'))) Q' E { s with drawn := d' } := fun d' Q' hQ' => by
    refine wpAny_bind (wpAny_storeSet_of (s := { s with drawn := d' }) ho hd (wpAny_pure (hQ' _ (Heap.SameBut.update s.heap r _))) (fits_of_scanBound ?_))
    unfold SetTable.eraseAt
    simp only [Array.size_append, Array.size_extract]
    omega
  refine wpAny_bind ?_
  unfold setPop
  refine wpAny_bind (wpAny_setState_of ho hd hf ?_)
  dsimp only
  rw [pop_place1 hf hsz]
  dsimp only
  refine wpAny_bind (wpAny_setsByText fun b => ?_)
  split
  · refine wpAny_bind (wpAny_choose (by omega) fun i d' hi => ?_)
    have : i = 0 := by omega
    subst this
    rw [e0]
    exact fin d' _ fun h' hs => wpAny_pure ⟨_, rfl, h _ _ _ hs⟩
  · show wpAny _ _ ((if (!t.led && decide (es.size > 1)) = true then unsupported "set:maker-not-led" else pure ()) >>= _) _ _ _
    have h2 : (!t.led && decide (es.size > 1)) = false := by simp; intro _; omega
    rw [h2, if_neg Bool.false_ne_true]
    refine wpAny_bind (wpAny_pure (wpAny_bind (wpAny_pure ?_)))
    rw [e0]
    exact fin s.drawn _ fun h' hs => wpAny_pure ⟨_, rfl, h _ _ _ hs⟩
theorem call_pop_none {r : Addr} {Q : Value → Shared → Prop} (hA : A.handled = none) (hr : KeysOf prog w s.heap r [])
    (hE : ∀ h' tk e, Heap.NewExc s.heap h' e "KeyError" → E (.ref e) { s with heap := h', toks := tk }) :
    wpAny (model prog w) A (call (.builtin "set.pop") [.ref r]) Q E s := by
  obtain ⟨o, es, ep, t, ho, hex, hd, hel, hmem, hbd, hf, hn⟩ := hr.2
  have hT : s.TypeIs (.ref r) "set" := ⟨_, ho, hex.1⟩
  refine wpAny_call_entry PySem.F.slot_set_pop hT PySem.F.entry_set_pop ?_ (PySem.F.args_set_pop_1 _)
  unfold Builtin.«set.pop» Builtin.Frozenset.noArgs
  simp only [List.isEmpty_nil]
  unfold Builtin.Frozenset.addrOf
  refine wpAny_bind (wpAny_pure ?_)
  refine wpAny_bind ?_
  unfold setPop
  refine wpAny_bind (wpAny_setState_of ho hd hf ?_)
  dsimp only
  rw [pop_place0 hf hn]
  refine wpAny_pure ?_
  refine wpAny_bind (wpAny_rule ?_)
  exact_raiseError plainExc_KeyError hA hE
theorem getMethod_set {r : Addr} {S : Int → Bool} {n : Nat} {name : Str} {id : String} {pl : Sem Bool} {Q : Value × List Value → Shared → Prop} (hr : s.heap.SetOf (intKind prog w) r S n) (slot : Slot "set" name id) (hty : typeOf (.builtin id) = pure (.type "method_descriptor"))
    (h : Q (.builtin id, [.ref r]) s) : wpAny (model prog w) A (getMethod (.ref r) name pl) Q E s :=
  getMethod_builtin hr.typeIs PySem.F.plainAttrs_set slot hty hr.noDict h
end
end Mine
end
section
open PySem PySem.W PyProof.Rows PySem.Calls
set_option maxRecDepth 100000
set_option maxHeartbeats 3200000
namespace Mine
theorem sub_gen_set : isSubtype (.type "generator") (.type "set") = pure false := by rw [isSubtype_type]; kernel_rfl
theorem sub_gen_frozenset : isSubtype (.type "generator") (.type "frozenset") = pure false := by rw [isSubtype_type]; kernel_rfl
section
variable {prog : Program} {w : World} {A : Around} {E : Value → Shared → Prop} {s : Shared}
theorem call_set_gen {a : Addr} {fp wr : List Addr} {G : Array GenState → Array GenState → Prop} {n : Nat} {P : Nat → Value → Prop} {St : Nat → Shared → Prop} {val : Nat → Int} {Q : Value → Shared → Prop}
    (hh : A.handled = none) (hg : ∀ i s, St i s → s.TypeIs (.ref a) "generator") (W : WalksS prog w A.in4 a fp wr G n P St) (hst : St 0 s) (hfp : ∀ b ∈ fp, b < s.heap.objs.size) (haf : a ∈ fp) (hval : ∀ i v, P i v → ∃ t, v = .int (val i) t) (hb : n + 1 < scanBound)
    (h : ∀ s', Moved wr G s s' →
      s'.heap.SetOf (intKind prog w) s.heap.objs.size (fun k' => (firstMet val n).any (· == k')) (firstMet val n).length → Q (.ref s.heap.objs.size) s') :
    wpAny (model prog w) A (call (.type "set") [.ref a]) Q E s := by
  obtain ⟨c, tl, hmro⟩ := PySem.F.called_set.mro
  have hmade := PySem.F.called_set.made
  have hsub := PySem.F.called_set.sub
  refine wpAny_call (codeAny_of_tree ?_)
  show wpAny _ _ (callAny (.type "set") _) _ _ _
  refine wpAny_pure ⟨Code.quiet_builtin _ (by decide +kernel), codeAny_builtin PySem.F.entry_type_call ?_⟩
  rw [Around.under_plain (weight_type_call_type "set" [.ref a] []) rfl]
  have h1 := PySem.F.called_set.notType
  have h2 := PySem.F.called_set.canCreate
  have hct := PySem.F.typeCall_set_1 (.ref a)
  repeat (any_goals (first | assumption | wp_step))
  refine codeAny_mono (code_set_new_1 (.ref a) (E := E) (Q₁ := fun obj s₁ => ∃ led : Bool, obj = .ref s.heap.objs.size ∧ s₁ = { s with heap := s.heap.push { cls := .type "set", dict := none, data := .set #[] 0 (.fresh 0 0 led) } }) fun led => ⟨led, rfl, rfl⟩) fun r s₁ hr => ?_
  cases r with
  | error e => exact hr
  | ok fl =>
    cases fl with
    | ret obj =>
      obtain ⟨led, rfl, rfl⟩ := hr
      have hS : (s.heap.push { cls := .type "set", dict := none, data := .set #[] 0 (.fresh 0 0 led) }).get? s.heap.objs.size = some { cls := .type "set", dict := none, data := .set #[] 0 (.fresh 0 0 led) } := Heap.get?_push_size _ rfl
      have hT : Shared.TypeIs { s with heap := s.heap.push { cls := .type "set", dict := none, data := .set #[] 0 (.fresh 0 0 led) } } (.ref s.heap.objs.size) "set" := ⟨_, hS, rfl⟩
      have hli := PySem.F.called_set.init.lookup
      have hbi := PySem.F.called_set.init.bind (.ref s.heap.objs.size)
      repeat (any_goals (first | assumption | wp_step))
      refine codeAny_mono (codeAny_call_builtin (R := wants (fun r s₂ => r = .none ∧ 
          Moved wr G s s₂ ∧
          s₂.heap.SetOf (intKind prog w) s.heap.objs.size (fun k' => (firstMet val n).any (· == k')) (firstMet val n).length) E) PySem.F.called_set.init.plain PySem.F.entry_set_init (check_set_init_1 hT ?_)) fun r₂ s₂ hr₂ => ?_
      · generalize hH : s.heap.push { cls := .type "set", dict := none, data := .set #[] 0 (.fresh 0 0 led) } = H at *
        have hst' : St 0 { s with heap := H } := W.frame 0 s H s.toks hst (Nat.le_refl _) fun b hb o e => hH ▸ Heap.get?_push_of_some _ e
        have hgT := hg 0 _ hst'
        have hsls := sub_gen_set
        have hslf := sub_gen_frozenset
        have hne : (Value.type "generator" == Value.type "dict") = false := by decide
        unfold Builtin.«set.__init__» noKeywords Builtin.Frozenset.updateFrom
        generalize hPI : pyIter = PI
        wp_walk
        subst hPI
        refine W.in4_2.self 0 _ _ _ hst' ?_
        refine wpAny_bind (wpAny_runValue ?_)
        have hSf : s.heap.objs.size ∉ fp := fun hm => Nat.lt_irrefl _ (hfp _ hm)
        refine codeAny_set_update_loopS (A := A.in1.in1) W.of_in1 s.heap.objs.size hSf val hval hb (n - 0) 0 _ (by omega) (Nat.zero_le _) hst' ?hS0 ?hR
        case hS0 => exact SetOf_congr ((setObjOf_fresh (knd := intKind prog w) led).setOf hS (by unfold scanBound; omega)) (fun _ => rfl) rfl
        case hR =>
          intro s' hm hS'
          show wpAny _ _ _ _ _ _
          refine wpAny_pure ?_
          show wpAny _ _ (ret Value.none) _ _ _
          refine wpAny_pure ⟨rfl, ⟨fun b o hb' e => hm.heap b o ?_ (hH ▸ Heap.get?_push_of_some _ e), hm.gens, hm.drawn, hm.os, hm.toks⟩, hS'⟩
          intro hmem
          rcases List.mem_cons.mp hmem with rfl | hmem
          · exact Nat.lt_irrefl _ (Heap.lt_size e)
          · exact hb' hmem
      · cases r₂ with
        | error e => exact hr₂
        | ok fl₂ =>
          cases fl₂ with
          | ret r =>
            obtain ⟨rfl, hm, hS'⟩ := hr₂
            repeat (any_goals (first | assumption | wp_step))
            exact h _ hm hS'
          | _ => exact hr₂.elim
    | _ => exact hr.elim
end
end Mine
end
section
open PySem PySem.W PyProof.Rows PySem.Calls
set_option maxRecDepth 100000
set_option maxHeartbeats 1600000
namespace Mine
section
variable {prog : Program} {w : World} {A : Around} {E : Value → Shared → Prop} {s : Shared}

/-- what is known of a generator of ints that set() may read to its end -/
def SetGen (prog : Program) (w : World) (A : Around) (gen lo n : Nat) (val : Nat → Int) (s : Shared) : Prop :=
  ∃ fp wr G P St, WalksS prog w A.in4 gen fp wr G n P St ∧ St 0 s ∧ (∀ i s, St i s → s.TypeIs (.ref gen) "generator") ∧ (∀ b ∈ fp, b < s.heap.objs.size) ∧ gen ∈ fp ∧
    (∀ i v, P i v → ∃ t, v = .int (val i) t) ∧ (∀ b ∈ wr, lo ≤ b) ∧ ∀ x y, G x y → AllBare x → AllBare y

def GenK (prog : Program) (w : World) (A : Around) (env : Env) (elt : Expr) (x : Str) (scope : Scope) (cl : List (Str × Addr)) (pos : Pos) (E : Value → Shared → Prop) (Q : Value → Shared → Prop) (xv : Value) (s₁ : Shared) : Prop :=
  wpAny (model prog w) A (pyIter xv) (fun it s₂ => s₂.heap.NoLimit ∧
      wpAny (model prog w) A (genexprCode env pos (env.qual ++ "<genexpr>") scope) (fun code s₃ => wpAny (model prog w) A (builtinsFor env.globals env.builtins) (fun bi s₄ =>
        ∃ I fp wr n₀ P St₀ pz F, it = .ref I ∧ (∀ A' : Around, A'.handled = none → Walks prog w A' I fp wr n₀ P St₀) ∧ St₀ 0 s₄.heap ∧ (∀ b ∈ fp, b < s₄.heap.objs.size) ∧ s₄.heap.NoLimit ∧ cStatics ∉ wr ∧
          (∀ href : Heap, (∀ b o, s₄.heap.get? b = some o → href.get? b = some o) →
            QuietGenD prog w (genEnv scope cl s₄.heap.objs.size code bi env) x [] elt (List.range s₄.heap.objs.size) wr P pz F href (A.depth + 1) (A.units + 8)) ∧
          (∀ a h₅ tk gs, gs.bare = true → s₄.heap.objs.size < a → h₅.objs.size = a + 1 → (∀ b o, s₄.heap.get? b = some o → h₅.get? b = some o) →
            WalksS prog w A.in4 a (a :: s₄.heap.objs.size :: List.range s₄.heap.objs.size) (s₄.heap.objs.size :: wr) (GenOnlyQ s₄.gens.size) (passing pz n₀ 0).length
              (fun j y => ∃ i, (passing pz n₀ 0)[j]? = some i ∧ F i y) (GenAt prog w A.in4 a s₄.gens.size s₄.heap.objs.size (List.range s₄.heap.objs.size) wr pz n₀ F) →
            GenAt prog w A.in4 a s₄.gens.size s₄.heap.objs.size (List.range s₄.heap.objs.size) wr pz n₀ F 0 { s₄ with gens := s₄.gens.push gs, toks := tk, heap := h₅ } →
            Q (.ref a) { s₄ with gens := s₄.gens.push gs, toks := tk, heap := h₅ })) E s₃) E s₂) E s₁

theorem gen_start {env : Env} {elt iter : Expr} {x : Str} {px : Pos} {scope : Scope} {cl : List (Str × Addr)} {pos : Pos} {Q : Value → Shared → Prop}
    (hh : A.handled = none) (hco : scope.isCoroutine = false) (hclos : closureFor scope env = pure cl) (hcell : ∀ y ∈ scope.names, y.2 ≠ .cell) (h0 : scope.names.lookup (".0" : Str) = some NameKind.local)
    (hx : scope.names.lookup x = some .local) (hkind : scope.kind = .function) (hroom : A.depth < recursionLimit)
    (h : wpAny (model prog w) A (eval iter env) (fun xv s₁ => GenK prog w A env elt x scope cl pos E Q xv s₁) E s) (hs : ∀ x, genFold iter env x = pure x) :
    wpAny (model prog w) A (eval (.GeneratorExp elt [⟨.Name x px, iter, [], 0⟩] scope pos) env) Q E s := wpAny_GeneratorExp_walksQD hh hco hclos hcell h0 hx hkind hroom h hs

theorem passing_all (n : Nat) : passing (fun _ => true) n 0 = List.range n := by
  unfold passing
  simp [List.range_eq_range']

theorem genK_of {h₀ : Heap} {L r c P c' a₀ : Addr} {m mg mb : Str → Option Value} {mean : ExcName → Option Value} {p : Program} {loose : List Str} {own rest : List (Addr × Obj)} {ps : Array Value} {cn : Str} {cs : Scope} {ccl cl : List (Str × Addr)} {a b st : Int} {t u v : Tok} {n : Nat}
    {x y : Str} {px py pp pos : Pos} {scope : Scope} {oc : Obj} {d : Int} {td : Tok} {Q : Value → Shared → Prop}
    (hh : A.handled = none) (F : Fr h₀ L s.heap m) (N : News h₀ L s.heap (own ++ (P, tabObj ps) :: rest)) (T : Top p loose mean mg mb h₀) (C : CodeHd h₀ c P)
    (h1 : ∀ q ∈ own, q.1 ≠ P) (h2 : ∀ q ∈ rest, q.1 ≠ P) (ht : TriplesOk ps.toList) (hb : AllBare s.gens)
    (hr : IsRange s.heap r a b st t u v) (hsm : Builtin.Range.small a b st = true) (hn : Builtin.Range.rangeSize a b st = n)
    (hkind : scope.kind = .function) (hxl : scope.names.lookup x = some .local) (hyl : scope.names.lookup y = some .free) (hcl : cl.lookup y = some c') (hmem : (c', oc) ∈ own ++ (P, tabObj ps) :: rest) (hoc : oc.data = .cell (some (.int d td)))
    (hxd : (x == ("__debug__" : Str)) = false) (hyd : (y == ("__debug__" : Str)) = false) (hyc : (y == ("__classdict__" : Str)) = false)
    (h : ∀ gen s' ps', TriplesOk ps'.toList → Fr h₀ L s'.heap m → News h₀ L s'.heap (own ++ (P, tabObj ps') :: rest) → SetGen prog w A gen s.heap.objs.size n (fun i => a + i * st + d) s' → s'.os = s.os → AllBare s'.gens → Q (.ref gen) s') :
    GenK prog w A (envX cn cs L a₀ (.ref c) ccl) (.BinOp (.Name x px) .Add (.Name y py) pp) x scope cl pos E Q (.ref r) s := by
  unfold GenK
  have hm := N (P, tabObj ps) (List.mem_append_right _ (.head _))
  obtain ⟨bm, ob, b1, b2, b3, b4, b5, b6⟩ := T.bmain
  have hnl : s.heap.NoLimit := T.nolimit.keeps F.keep
  refine wpAny_pyIter_range hr hsm ?_
  have hPlt : P < s.heap.objs.size := Heap.lt_size hm.1
  have hIP : s.heap.objs.size ≠ P := Nat.ne_of_gt hPlt
  have hLlt : L < s.heap.objs.size := F.ns.lt
  have push : ∀ q o, s.heap.get? q = some o → (s.heap.push { cls := .type "range_iterator", data := .fields #[rawInt a, rawInt (Builtin.Range.rangeSize a b st), rawInt st] }).get? q = some o := fun q o e => Heap.get?_push_of_some _ e
  have hself : (s.heap.push { cls := .type "range_iterator", data := .fields #[rawInt a, rawInt (Builtin.Range.rangeSize a b st), rawInt st] }).get? s.heap.objs.size = some { cls := .type "range_iterator", data := .fields #[rawInt a, rawInt (Builtin.Range.rangeSize a b st), rawInt st] } := Heap.get?_push_size _ rfl
  refine ⟨hnl.keeps push, ?_⟩
  generalize hH2 : s.heap.push { cls := .type "range_iterator", data := .fields #[rawInt a, rawInt (Builtin.Range.rangeSize a b st), rawInt st] } = H2 at push hself
  have size2 : H2.objs.size = s.heap.objs.size + 1 := by rw [← hH2, Heap.size_push]
  have key : ∀ code H3 tk ps', TriplesOk ps'.toList → (∀ b o, b ≠ P → H2.get? b = some o → H3.get? b = some o) → H3.get? P = some (tabObj ps') →
      wpAny (model prog w) A (builtinsFor (envX cn cs L a₀ (.ref c) ccl).globals (envX cn cs L a₀ (.ref c) ccl).builtins) (fun bi s₄ =>
        ∃ I fp wr n₀ P St₀ pz F, Value.ref s.heap.objs.size = .ref I ∧ (∀ A' : Around, A'.handled = none → Walks prog w A' I fp wr n₀ P St₀) ∧ St₀ 0 s₄.heap ∧ (∀ b ∈ fp, b < s₄.heap.objs.size) ∧ s₄.heap.NoLimit ∧ cStatics ∉ wr ∧
          (∀ href : Heap, (∀ b o, s₄.heap.get? b = some o → href.get? b = some o) →
            QuietGenD prog w (genEnv scope cl s₄.heap.objs.size code bi (envX cn cs L a₀ (.ref c) ccl)) x [] (.BinOp (.Name x px) .Add (.Name y py) pp) (List.range s₄.heap.objs.size) wr P pz F href (A.depth + 1) (A.units + 8)) ∧
          (∀ a h₅ tk gs, gs.bare = true → s₄.heap.objs.size < a → h₅.objs.size = a + 1 → (∀ b o, s₄.heap.get? b = some o → h₅.get? b = some o) →
            WalksS prog w A.in4 a (a :: s₄.heap.objs.size :: List.range s₄.heap.objs.size) (s₄.heap.objs.size :: wr) (GenOnlyQ s₄.gens.size) (passing pz n₀ 0).length
              (fun j y => ∃ i, (passing pz n₀ 0)[j]? = some i ∧ F i y) (GenAt prog w A.in4 a s₄.gens.size s₄.heap.objs.size (List.range s₄.heap.objs.size) wr pz n₀ F) →
            GenAt prog w A.in4 a s₄.gens.size s₄.heap.objs.size (List.range s₄.heap.objs.size) wr pz n₀ F 0 { s₄ with gens := s₄.gens.push gs, toks := tk, heap := h₅ } →
            Q (.ref a) { s₄ with gens := s₄.gens.push gs, toks := tk, heap := h₅ })) E { s with heap := H3, toks := tk } := by
    intro code H3 tk ps' ht' hk3 hP3
    have up : ∀ b o, b ≠ P → s.heap.get? b = some o → H3.get? b = some o := fun b o hb e => hk3 b o hb (push b o e)
    have old : ∀ b o, h₀.get? b = some o → H3.get? b = some o := fun b o e => up b o (fun q => by rw [q, hm.2.2] at e; cases e) (F.keep b o e)
    have hgP : mainGlobals ≠ P := fun q => by
      obtain ⟨o, es, ep, e, hd, _⟩ := T.g
      rw [q, hm.2.2] at e; cases e
    have hIsz : s.heap.objs.size < H3.objs.size := Heap.lt_size (hk3 _ _ hIP hself)
    refine wpAny_builtinsFor (T.g.keeps old) b1 b2 (old _ _ b3) b4 b5 b6 ?_
    refine ⟨s.heap.objs.size, [s.heap.objs.size], [s.heap.objs.size], n, _, _, fun _ => true, fun i y => ∃ t, y = .int (a + (i : Int) * st + d) t, rfl, fun A' hA => Walks.range hA _ a st n, ?_, ?_, T.nolimit.keeps old, ?_, ?_, ?_⟩
    · show H3.get? _ = _
      rw [hk3 _ _ hIP hself, hn]; simp
    · intro b hb
      rw [List.mem_singleton.mp hb]; exact hIsz
    · intro q
      obtain ⟨_, hc0, _⟩ := hnl
      have := hc0.lt
      rw [List.mem_singleton.mp q] at this
      exact absurd this (Nat.lt_irrefl _)
    · intro href hhref
      refine ⟨fun A' E' i v s₂ m₂ hA _ _ hP hns hx hkp => ?_, fun A' E' i v s₂ m₂ hA _ _ hP _ hns hx hkp => ?_⟩
      · rw [List.forIn_nil]
        exact wpAny_pure ⟨rfl, s₂.heap, s₂.toks, rfl, fun _ _ e => e⟩
      · obtain ⟨tv, rfl⟩ := hP
        refine wpAny_BinOp (wpAny_Name (wpAny_loadName_local hkind hxl hns hx ?_) hxd)
        have hcn := N _ hmem
        have hcP : c' ≠ P := fun q => by
          have := hcn.1
          rw [q, hm.1] at this
          cases this
          cases hoc
        have hc3 : H3.get? c' = some oc := up _ _ hcP hcn.1
        have hcs : s₂.heap.get? c' = some oc := hkp c' (List.mem_range.mpr (Heap.lt_size hc3)) (fun q => by
          have l := Heap.lt_size hcn.1
          rw [List.mem_singleton.mp q] at l
          exact absurd l (Nat.lt_irrefl _)) _ (hhref _ _ hc3)
        refine wpAny_Name (wpAny_loadName_free hkind hyl hcl ⟨oc, hcs, hoc⟩ ?_ hyc) hyd
        refine add_int ⟨⟨_, rfl⟩, s₂.heap, _, rfl, fun _ _ e => e⟩
    · intro gen h₅ tk' gs hbare hlt hsz5 hk5 W hG
      have up5 : ∀ b o, b ≠ P → s.heap.get? b = some o → h₅.get? b = some o := fun b o hb e => hk5 b o (up b o hb e)
      refine h gen _ ps' ht' ⟨F.ns.at' fun o e => up5 _ _ hm.2.1.symm e, fun b o e => hk5 b o (old b o e), F.above⟩ (fun q hq => ?_) ?_ rfl (hb.push hbare)
      · rcases List.mem_append.mp hq with hq | hq
        · have x := N q (List.mem_append_left _ hq)
          exact ⟨up5 _ _ (h1 q hq) x.1, x.2⟩
        · rcases List.mem_cons.mp hq with rfl | hq
          · exact ⟨hk5 _ _ hP3, hm.2⟩
          · have x := N q (List.mem_append_right _ (.tail _ hq))
            exact ⟨up5 _ _ (h2 q hq) x.1, x.2⟩
      · rw [passing_all] at W
        simp only [List.length_range] at W
        refine ⟨_, _, _, _, _, W, hG, ?_, ?_, .head _, ?_, ?_, ?_⟩
        · intro i s'' hs
          obtain ⟨⟨o, _, _, e1, e2, _⟩, _⟩ := hs
          exact ⟨o, e1, e2⟩
        · intro b hb
          have l1 : H3.objs.size < gen := hlt
          show b < h₅.objs.size
          rw [hsz5]
          rcases List.mem_cons.mp hb with rfl | hb
          · exact Nat.lt_succ_self _
          rcases List.mem_cons.mp hb with rfl | hb
          · exact Nat.lt_succ_of_lt l1
          · exact Nat.lt_succ_of_lt (Nat.lt_trans (List.mem_range.mp hb) l1)
        · rintro i v ⟨j, hj, t', rfl⟩
          refine ⟨t', ?_⟩
          obtain ⟨hlt', e⟩ := List.getElem?_eq_some_iff.mp hj
          rw [List.getElem_range] at e
          rw [e]
        · intro b hb
          rcases List.mem_cons.mp hb with rfl | hb
          · exact Nat.le_of_lt hIsz
          · exact Nat.le_of_eq (List.mem_singleton.mp hb).symm
        · intro x y hxy hx
          exact hxy.bare hx
  have hm2 := push _ _ hm.1
  have CH2 : CodeHd H2 c P := C.keeps fun b o e => push b o (F.keep b o e)
  cases hf : codeAmong pos ps.toList with
  | some cv =>
    exact wpAny_genexprCode_hit rfl (CH2.code hm2 ht) hf (key _ H2 s.toks ps ht (fun b o _ e => e) hm2)
  | none =>
    refine wpAny_genexprCodeX rfl (CH2.code hm2 ht) (CH2.tab hm2) hf fun cv h' tk hx hge hlt hcode hrec htab _ => ?_
    refine key _ h' tk _ ?_ (fun b o hb e => hx b o hb e) htab.2
    have hl : (ps ++ #[rawInt pos.line, rawInt pos.col, Value.ref cv]).toList = ps.toList ++ [rawInt pos.line, rawInt pos.col, .ref cv] := by simp
    rw [hl]; exact TriplesOk_snoc _ _ _ _ ht
end
end Mine
end
section
open PySem PySem.W PyProof.Rows PySem.Calls
set_option maxRecDepth 100000
set_option maxHeartbeats 1600000
namespace Mine
section
variable {prog : Program} {w : World} {A : Around} {E : Value → Shared → Prop} {s : Shared} {h₀ : Heap} {L : Addr} {m : Str → Option Value} {news : List (Addr × Obj)}

/-- o is a set of the ints val 0, …, val (n - 1) -/
def ValSet (prog : Program) (w : World) (o : Obj) (val : Nat → Int) (n : Nat) : Prop := ∃ S N, o.SetObjOf (intKind prog w) S N ∧ N ≤ n ∧ ∀ k, S k = true ↔ ∃ i, i < n ∧ val i = k
/-- o is a set of the ints of σ -/
def KeySet (prog : Program) (w : World) (o : Obj) (σ : List Int) : Prop := σ.Nodup ∧ o.SetObjOf (intKind prog w) (fun k => σ.any (· == k)) σ.length ∧ σ.length < scanBound

theorem setOf_any {val : Nat → Int} {n : Nat} (k : Int) : (firstMet val n).any (· == k) = true ↔ ∃ i, i < n ∧ val i = k := by
  rw [firstMet_any]
  simp only [List.any_eq_true, List.mem_map, List.mem_range, beq_iff_eq]
  constructor
  · rintro ⟨x, ⟨i, hi, rfl⟩, rfl⟩; exact ⟨i, hi, rfl⟩
  · rintro ⟨i, hi, rfl⟩; exact ⟨_, ⟨i, hi, rfl⟩, rfl⟩

theorem setGen_N {gen lo n : Nat} {val : Nat → Int} {Q : Value → Shared → Prop} (hA : A.handled = none) (F : Fr h₀ L s.heap m) (N : News h₀ L s.heap news) (G : SetGen prog w A gen lo n val s) (hlo : ∀ q ∈ news, q.1 < lo) (hL : L < lo) (hb : AllBare s.gens) (hn : n + 1 < scanBound)
    (h : ∀ D so s', Fr h₀ L s'.heap m → News h₀ L s'.heap ((D, so) :: news) → (∀ q ∈ news, q.1 < D) → ValSet prog w so val n → s'.os = s.os → AllBare s'.gens → Q (.ref D) s') :
    wpAny (model prog w) A (call (.type "set") [.ref gen]) Q E s := by
  obtain ⟨fp, wr, GG, P, St, W, hst, hty, hfp, hgf, hval, hwr, hbare⟩ := G
  refine call_set_gen hA hty W hst hfp hgf hval hn fun s' hm hS => ?_
  obtain ⟨so, ho, hso⟩ := hS.objOf
  have up : ∀ b o, b < lo → s.heap.get? b = some o → s'.heap.get? b = some o := fun b o hb e => hm.heap b o (fun q => Nat.lt_irrefl _ (Nat.lt_of_lt_of_le hb (hwr b q))) e
  have old : ∀ b o, h₀.get? b = some o → s'.heap.get? b = some o := fun b o e => up b o (Nat.lt_trans (Nat.lt_of_lt_of_le (Heap.lt_size e) F.above) hL) (F.keep b o e)
  have hD : ∀ q ∈ news, q.1 < s.heap.objs.size := fun q hq => Heap.lt_size (N q hq).1
  refine h _ so s' ⟨F.ns.at' fun o e => up _ _ hL e, old, F.above⟩ (fun q hq => ?_) hD ⟨_, _, hso, firstMet_length_le val n, setOf_any⟩ hm.os (hbare _ _ hm.gens hb)
  rcases List.mem_cons.mp hq with rfl | hq
  · refine ⟨ho, Nat.ne_of_gt F.ns.lt, ?_⟩
    cases e : h₀.get? s.heap.objs.size with
    | none => rfl
    | some o => exact absurd (Heap.lt_size (F.keep _ _ e)) (Nat.lt_irrefl _)
  · exact ⟨up _ _ (hlo q hq) (N q hq).1, (N q hq).2⟩

theorem method_N {r : Addr} {o : Obj} {S : Int → Bool} {n : Nat} {name : Str} {id : String} {pl : Sem Bool} {Q : Value × List Value → Shared → Prop} (N : News h₀ L s.heap news) (hm : (r, o) ∈ news) (ho : o.SetObjOf (intKind prog w) S n) (hb : n < scanBound)
    (slot : Slot "set" name id) (hty : typeOf (.builtin id) = pure (.type "method_descriptor")) (h : Q (.builtin id, [.ref r]) s) : wpAny (model prog w) A (getMethod (.ref r) name pl) Q E s :=
  getMethod_set (ho.setOf (N.get hm) hb) slot hty h
theorem methodV_N {r : Addr} {o : Obj} {val : Nat → Int} {n : Nat} {name : Str} {id : String} {pl : Sem Bool} {Q : Value × List Value → Shared → Prop} (N : News h₀ L s.heap news) (hm : (r, o) ∈ news) (ho : ValSet prog w o val n) (hb : n < scanBound)
    (slot : Slot "set" name id) (hty : typeOf (.builtin id) = pure (.type "method_descriptor")) (h : Q (.builtin id, [.ref r]) s) : wpAny (model prog w) A (getMethod (.ref r) name pl) Q E s :=
  let ⟨_, _, hs, hN, _⟩ := ho; method_N N hm hs (Nat.lt_of_le_of_lt hN hb) slot hty h
theorem methodK_N {r : Addr} {o : Obj} {σ : List Int} {name : Str} {id : String} {pl : Sem Bool} {Q : Value × List Value → Shared → Prop} (N : News h₀ L s.heap news) (hm : (r, o) ∈ news) (ho : KeySet prog w o σ)
    (slot : Slot "set" name id) (hty : typeOf (.builtin id) = pure (.type "method_descriptor")) (h : Q (.builtin id, [.ref r]) s) : wpAny (model prog w) A (getMethod (.ref r) name pl) Q E s :=
  method_N N hm ho.2.1 ho.2.2 slot hty h

theorem inter_N {a b : Addr} {oa ob : Obj} {va vb : Nat → Int} {na nb : Nat} {Q : Value → Shared → Prop} (F : Fr h₀ L s.heap m) (N : News h₀ L s.heap news) (ha : (a, oa) ∈ news) (hb : (b, ob) ∈ news) (hab : a ≠ b) (sa : ValSet prog w oa va na) (sb : ValSet prog w ob vb nb)
    (hna : na + 1 < scanBound) (hnb : nb + 1 < scanBound)
    (h : ∀ D so h' σ, Fr h₀ L h' m → News h₀ L h' ((D, so) :: news) → (∀ q ∈ news, q.1 < D) → KeySet prog w so σ → (∀ k, k ∈ σ ↔ (∃ i, i < na ∧ va i = k) ∧ ∃ i, i < nb ∧ vb i = k) → Q (.ref D) { s with heap := h' }) :
    wpAny (model prog w) A (call (.builtin "set.intersection") [.ref a, .ref b]) Q E s := by
  obtain ⟨Sa, Na, hsa, hNa, hka⟩ := sa
  obtain ⟨Sb, Nb, hsb, hNb, hkb⟩ := sb
  refine call_intersection (hsa.setOf (N.get ha) (by omega)) (hsb.setOf (N.get hb) (by omega)) hab (by omega) (by omega) fun h' σ hσ hK hk => ?_
  obtain ⟨so, ho, hso⟩ := hK.2.objOf
  have hbd : σ.length < scanBound := by
    obtain ⟨o, es, ep, t, _, _, _, _, _, hlt, _, hn⟩ := hK.2
    omega
  refine h _ so h' σ ⟨F.ns.keeps hk, fun b o e => hk _ _ (F.keep b o e), F.above⟩ (fun q hq => ?_) (fun q hq => Heap.lt_size (N q hq).1) ⟨hK.1, hso, hbd⟩ (fun k => by rw [hσ, hka, hkb])
  rcases List.mem_cons.mp hq with rfl | hq
  · refine ⟨ho, Nat.ne_of_gt F.ns.lt, ?_⟩
    cases e : h₀.get? s.heap.objs.size with
    | none => rfl
    | some o => exact absurd (Heap.lt_size (F.keep _ _ e)) (Nat.lt_irrefl _)
  · exact ⟨hk _ _ (N q hq).1, (N q hq).2⟩

theorem pop_N {r : Addr} {o : Obj} {k : Int} {σ : List Int} {Q : Value → Shared → Prop} (F : Fr h₀ L s.heap m) (N : News h₀ L s.heap ((r, o) :: news)) (hlt : ∀ q ∈ news, q.1 < r) (ho : KeySet prog w o σ) (hk : ∀ x, x ∈ σ ↔ x = k)
    (h : ∀ h' d' t, Fr h₀ L h' m → News h₀ L h' news → Q (.int k t) { s with heap := h', drawn := d' }) :
    wpAny (model prog w) A (call (.builtin "set.pop") [.ref r]) Q E s := by
  have hσ : σ = [k] := by
    obtain ⟨hnd, _, _⟩ := ho
    have hin : k ∈ σ := (hk k).mpr rfl
    cases σ with
    | nil => cases hin
    | cons a l =>
      have ha : a = k := (hk a).mp (.head _)
      cases l with
      | nil => rw [ha]
      | cons b l =>
        have hb : b = k := (hk b).mp (.tail _ (.head _))
        rw [ha, hb] at hnd
        exact absurd (List.mem_cons_self) (List.nodup_cons.mp hnd).1
  subst hσ
  have hr := N (r, o) (.head _)
  refine call_pop_one ⟨ho.1, ho.2.1.setOf hr.1 ho.2.2⟩ fun h' d' t hs => ?_
  refine h h' d' t ⟨F.ns.sameBut hs hr.2.1.symm, fun b ob e => (hs.2 b (fun q => ?_)).trans (F.keep b ob e), F.above⟩ fun q hq => ?_
  · rw [q, hr.2.2] at e; cases e
  · have x := N q (.tail _ hq)
    exact ⟨(hs.2 _ (Nat.ne_of_lt (hlt q hq))).trans x.1, x.2⟩

theorem popNone_N {r : Addr} {o : Obj} {σ : List Int} {Q : Value → Shared → Prop} (hA : A.handled = none) (F : Fr h₀ L s.heap m) (N : News h₀ L s.heap news) (hm : (r, o) ∈ news) (ho : KeySet prog w o σ) (hk : ∀ x, x ∉ σ)
    (hE : ∀ h' tk e, Heap.NewExc s.heap h' e "KeyError" → E (.ref e) { s with heap := h', toks := tk }) :
    wpAny (model prog w) A (call (.builtin "set.pop") [.ref r]) Q E s := by
  have hσ : σ = [] := List.eq_nil_iff_forall_not_mem.mpr hk
  subst hσ
  exact call_pop_none hA ⟨ho.1, ho.2.1.setOf (N.get hm) ho.2.2⟩ hE
end
end Mine
end
section
open PySem PySem.W PyProof.Rows PySem.Calls
set_option maxRecDepth 100000
set_option maxHeartbeats 1600000
namespace Mine

theorem updF_app {d : Addr} {o : Obj} {pre l : List (Addr × Obj)} {g : Obj → List (Addr × Obj)} (hp : ∀ p ∈ pre, p.1 ≠ d) (U : UpdF d o l g) : UpdF d o (pre ++ l) (fun o' => pre ++ g o') := by
  induction pre with
  | nil => exact U
  | cons a r ih => exact .tail (hp a (.head _)) (ih fun p h => hp p (.tail _ h))
theorem all_ne {l : List (Addr × Obj)} {L c : Addr} (h : ∀ p ∈ l, p.1 < L) (hc : @LE.le Nat _ L c) : ∀ q ∈ l, q.1 ≠ c := fun q hq => Nat.ne_of_lt (Nat.lt_of_lt_of_le (h q hq) hc)
theorem all_gt {l : List (Addr × Obj)} {b c : Addr} (h : ∀ p ∈ l, b < p.1) (hc : @LE.le Nat _ c b) : ∀ q ∈ l, q.1 ≠ c := fun q hq => Nat.ne_of_gt (Nat.lt_of_le_of_lt hc (h q hq))

/-- the two code tables' entries -/
noncomputable abbrev tl (ps qs : Array Value) : List (Addr × Obj) := [(53, tabObj ps), (74, tabObj qs)]
inductive Tail : List (Addr × Obj) → List (Addr × Obj) → List (Addr × Obj) → Prop
  | here {l} : Tail l [] l
  | base {p l} : Tail (p ++ l) p l
  | cons {a l p t} : Tail l p t → Tail (a :: l) (a :: p) t
theorem Tail.eq {l p t : List (Addr × Obj)} (h : Tail l p t) : l = p ++ t := by
  induction h with
  | here => rfl
  | base => rfl
  | cons _ ih => rw [ih]; rfl

section
variable {prog : Program} {w : World} {A : Around} {E : Value → Shared → Prop} {s : Shared} {h₀ : Heap} {L : Addr} {m : Str → Option Value} {news : List (Addr × Obj)}
def GenFor (prog : Program) (w : World) (A : Around) (gen : Addr) (news : List (Addr × Obj)) (L : Addr) (n : Nat) (val : Nat → Int) (s : Shared) : Prop := ∃ lo, SetGen prog w A gen lo n val s ∧ (∀ q ∈ news, q.1 < lo) ∧ L < lo
theorem genK_U {r c P c' a₀ : Addr} {mg mb : Str → Option Value} {mean : ExcName → Option Value} {p : Program} {loose : List Str} {g : Obj → List (Addr × Obj)} {ps : Array Value} {cn : Str} {cs : Scope} {ccl cl : List (Str × Addr)} {a b st : Int} {t u v : Tok} {n : Nat}
    {x y : Str} {px py pp pos : Pos} {scope : Scope} {oc : Obj} {d : Int} {td : Tok} {Q : Value → Shared → Prop}
    (hh : A.handled = none) (F : Fr h₀ L s.heap m) (N : News h₀ L s.heap news) (T : Top p loose mean mg mb h₀) (C : CodeHd h₀ c P)
    (U : UpdF P (tabObj ps) news g) (ht : TriplesOk ps.toList) (hb : AllBare s.gens)
    (hr : IsRange s.heap r a b st t u v) (hsm : Builtin.Range.small a b st = true) (hn : Builtin.Range.rangeSize a b st = n)
    (hcl : cl.lookup y = some c') (hmem : (c', oc) ∈ news) (hoc : oc.data = .cell (some (.int d td)))
    (hkind : scope.kind = .function) (hxl : scope.names.lookup x = some .local) (hyl : scope.names.lookup y = some .free)
    (hxd : (x == ("__debug__" : Str)) = false) (hyd : (y == ("__debug__" : Str)) = false) (hyc : (y == ("__classdict__" : Str)) = false)
    (h : ∀ gen s' ps', TriplesOk ps'.toList → Fr h₀ L s'.heap m → News h₀ L s'.heap (g (tabObj ps')) → GenFor prog w A gen (g (tabObj ps')) L n (fun i => a + i * st + d) s' → s'.os = s.os → AllBare s'.gens → Q (.ref gen) s') :
    GenK prog w A (envX cn cs L a₀ (.ref c) ccl) (.BinOp (.Name x px) .Add (.Name y py) pp) x scope cl pos E Q (.ref r) s := by
  obtain ⟨own, rest, rfl, hg, h1, h2⟩ := U.split
  refine genK_of hh F N T C h1 h2 ht hb hr hsm hn hkind hxl hyl hcl hmem hoc hxd hyd hyc fun gen s' ps' ht' F' N' G ho hb' => ?_
  refine h gen s' ps' ht' F' (hg _ ▸ N') ⟨_, G, ?_, F.ns.lt⟩ ho hb'
  rw [hg]
  intro q hq
  have lt : ∀ q ∈ own ++ (P, tabObj ps) :: rest, q.1 < s.heap.objs.size := fun q hq => Heap.lt_size (N q hq).1
  rcases List.mem_append.mp hq with hq | hq
  · exact lt q (List.mem_append_left _ hq)
  · rcases List.mem_cons.mp hq with rfl | hq
    · exact lt (P, tabObj ps) (List.mem_append_right _ (.head _))
    · exact lt q (List.mem_append_right _ (.tail _ hq))
theorem setGen_U {gen n : Nat} {val : Nat → Int} {Q : Value → Shared → Prop} (hA : A.handled = none) (F : Fr h₀ L s.heap m) (N : News h₀ L s.heap news) (G : GenFor prog w A gen news L n val s) (hb : AllBare s.gens) (hn : n + 1 < scanBound)
    (h : ∀ D so s', Fr h₀ L s'.heap m → News h₀ L s'.heap ((D, so) :: news) → (∀ q ∈ news, q.1 < D) → ValSet prog w so val n → s'.os = s.os → AllBare s'.gens → Q (.ref D) s') :
    wpAny (model prog w) A (call (.type "set") [.ref gen]) Q E s :=
  let ⟨_, G, hlo, hL⟩ := G; setGen_N hA F N G hlo hL hb hn h
end

/-- the exception e of type X stands raised, seen from the frame env of the ground h₀ -/
def Ends (base h₀ : Heap) (L : Addr) (m : Str → Option Value) (l : List Env) (e : Addr) (X : String) (news : List (Addr × Obj)) (h : Heap) : Prop := ∃ G, Fr h₀ L G m ∧ RaisedSN base G l e (.type X) news h ∧ G.UpToSlots h

/-- what a call of the def at f does, with the code tables in the ledger's tail -/
abbrev SaysT (w : World) (mean : ExcName → Option Value) (mg mb : Str → Option Value) (dN uN : Nat) (f : Addr) (vs : List Value)
    (R : Heap → Addr → (Str → Option Value) → List (Addr × Obj) → Shared → List Env → Heap → (Value → Shared → Prop) → (Value → Shared → Prop) → Prop) : Prop :=
  ∀ (dp un : Nat) (gd : Option (List PySem.Code)) (cn : Str) (cs : Scope) (a : Addr) (ccd : Value) (cl : List (Str × Addr)) (outer : List Env) (A₀ : Around) (base h₀ : Heap) (L : Addr) (m : Str → Option Value)
    (news pre : List (Addr × Obj)) (ps qs : Array Value) (s : Shared) (Q E : Value → Shared → Prop),
    Below A₀ base outer h₀ → Fr h₀ L s.heap m → (Mine.hd.heap_39 w.params).In h₀ → News h₀ L s.heap news → Top topProg LL mean mg mb h₀ → cs.kind = .function →
    dp + dN < recursionLimit → un + uN < cLine →
    (Mine.hd.heap_39 w.params).In base → Top topProg LL mean mg mb base → CodeHd base 57 53 → CodeHd base 78 74 → KtsDicts (outer.filterMap (·.frame)) h₀ →
    Tail news pre (tl ps qs) → (∀ q ∈ pre, 74 < q.1) → TriplesOk ps.toList → TriplesOk qs.toList → AllBare s.gens →
    R h₀ L m pre s (envX cn cs L a ccd cl :: outer) base Q E →
    wpAny (model PySem.Challenge.rw_bn0005_01.row.prog w) (ktrTop dp un gd cn cs L a ccd cl outer) (call (.ref f) vs) Q E s
end Mine
namespace Mine
section
variable {prog : Program} {w : World} {A : Around} {E : Value → Shared → Prop} {s : Shared} {h₀ : Heap} {L : Addr} {m : Str → Option Value} {news : List (Addr × Obj)}
theorem popOne_N {r : Addr} {o : Obj} {σ : List Int} {Q : Value → Shared → Prop} (F : Fr h₀ L s.heap m) (N : News h₀ L s.heap ((r, o) :: news)) (hlt : ∀ q ∈ news, q.1 < r) (ho : KeySet prog w o σ) (hk : ∃ k, ∀ x, x ∈ σ ↔ x = k)
    (h : ∀ h' d' t k, Fr h₀ L h' m → News h₀ L h' news → k ∈ σ → Q (.int k t) { s with heap := h', drawn := d' }) :
    wpAny (model prog w) A (call (.builtin "set.pop") [.ref r]) Q E s :=
  let ⟨k, hk⟩ := hk; pop_N F N hlt ho hk fun h' d' t F' N' => h h' d' t k F' N' ((hk k).mpr rfl)
end
/-- _tzolkin_count's two wheels meet in one number -/
theorem tz_meets {σ : List Int} {d : Int} {k : Nat} (h : ∀ x, x ∈ σ ↔ (∃ i : Nat, i < 20 ∧ 0 + (i : Int) * 13 + d = x) ∧ ∃ i : Nat, i < 13 ∧ 0 + (i : Int) * 20 + (1 + (k : Int)) = x) (hlo : 1 ≤ d) (hhi : d ≤ 13) (hk : k < 20) : ∃ y, ∀ x, x ∈ σ ↔ x = y := by
  refine ⟨13 * ((17 * (1 + (k : Int) - d)) % 20) + d, fun x => ?_⟩
  rw [h]
  constructor
  · rintro ⟨⟨i, hi, rfl⟩, j, hj, e⟩
    have h1 : 17 * (1 + (k : Int) - d) = (i : Int) + 20 * (11 * (i : Int) - 17 * j) := by omega
    rw [h1, Int.add_mul_emod_self_left, Int.emod_eq_of_lt (by omega) (by omega)]
    omega
  · rintro rfl
    refine ⟨⟨((17 * (1 + (k : Int) - d)) % 20).toNat, by omega, by omega⟩, ((13 * ((17 * (1 + (k : Int) - d)) % 20) + d - (1 + k)) / 20).toNat, by omega, by omega⟩
end Mine
end
section
open PySem PySem.W PyProof.Rows PySem.Calls PySem.Spec
set_option maxRecDepth 100000
set_option maxHeartbeats 1600000
namespace Mine
section
variable {M : Model} {A₀ : Around} {E : Value → Shared → Prop} {s' : Shared} {base g h : Heap} {outer : List Env} {L e : Addr} {m : Str → Option Value} {env : Env} {news : List (Addr × Obj)}

theorem dicts_push {g : Heap} (F : Fr h L g m) (D : KtsDicts (outer.filterMap (·.frame)) h) (hf : env.frame = some L) : KtsDicts ((env :: outer).filterMap (·.frame)) g := fun b hb => by
  rw [List.filterMap_cons, hf] at hb
  rcases List.mem_cons.mp hb with rfl | hb
  · obtain ⟨o, es, ep, ho, hd, _⟩ := F.ns
    exact ⟨o, es, ep, ho, hd⟩
  · obtain ⟨o, es, n, ho, hd⟩ := D b hb
    exact ⟨o, es, n, F.keep _ _ ho, hd⟩

theorem mem_frames {b : Addr} (hf : env.frame = some L) (hm : b ∈ (env :: outer).filterMap (·.frame)) : b = L ∨ b ∈ outer.filterMap (·.frame) := by
  rw [List.filterMap_cons, hf] at hm
  exact List.mem_cons.mp hm

/-- the exception made in this frame leaves it -/
theorem leaveX_new {X : String} {oe : Obj} {vs : Array Value} {a0 : Value} {Q : Unit → Shared → Prop} (K : Below A₀ base outer g) (F : Fr g L h m) (N : News g L h news) (hf : env.frame = some L) (hk : env.scope.kind = .function)
    (hnew : h.get? e = none) (hkeep : ∀ b o, h.get? b = some o → s'.heap.get? b = some o) (he : s'.heap.get? e = some oe) (hcls : oe.cls = .type X) (hd : oe.data = .fields vs) (h1 : vs[1]? = some .none) (h0 : vs[0]? = some a0)
    (hQ : ∀ h', RaisedSN base g outer e (.type X) news h' → g.UpToSlots h' → Q () { s' with heap := h' }) :
    wpAny M (A₀.deeper env) (leaving env (.ref e)) Q E s' := by
  have K' := pushX K F hf hk
  have hin : ∀ env' ∈ (env :: outer), ∀ b, env'.frame = some b → b ∈ (env :: outer).filterMap (·.frame) := fun env' he b hb => List.mem_filterMap.mpr ⟨env', he, hb⟩
  have st : base.StaysIn (hideAll h ((env :: outer).filterMap (·.frame))) := fun b o q => hideAll_get _ (K'.stays b o q) fun hm => by
    rw [(K'.frames.mem hm).1] at q; cases q
  have sg : ∀ b o, g.get? b = some o → b ∉ outer.filterMap (·.frame) → (hideAll h ((env :: outer).filterMap (·.frame))).get? b = some o := fun b o q nm => hideAll_get _ (F.keep b o q) fun hm => by
    rcases mem_frames hf hm with z | z
    · rw [z, kts_self F] at q
      cases q
    · exact nm z
  have hl : ∀ q ∈ news, (hideAll h ((env :: outer).filterMap (·.frame))).get? q.1 = some q.2 ∧ g.get? q.1 = none ∧ base.get? q.1 = none := fun q hq => by
    refine ⟨hideAll_get _ (N q hq).1 fun hm => ?_, (N q hq).2.2, fresh_of_stays K.stays (N q hq).2.2⟩
    rcases mem_frames hf hm with z | z
    · exact (N q hq).2.1 z
    · obtain ⟨_, o, ho, _⟩ := K.frames.mem z
      rw [(N q hq).2.2] at ho; cases ho
  have hen : (hideAll h ((env :: outer).filterMap (·.frame))).get? e = none := by
    cases q : (hideAll h ((env :: outer).filterMap (·.frame))).get? e with
    | none => rfl
    | some o => have := of_hideAll _ q; rw [hnew] at this; cases this
  refine wpAny_leaving_firstW (a0 := a0) K'.stack ((funFrames_hide K'.frames hin).of_keeps fun b o hb _ => ⟨o, hkeep b o hb, rfl⟩) hf he (fun b o hb => hkeep b o (of_hideAll _ hb)) hen hd h1 h0 fun h' hL => ?_
  obtain ⟨k1, ⟨_, _, k2⟩, k3, k4⟩ := hL
  exact hQ h' ⟨_, a0, st, sg, hl, k1, hen, k2, by rw [← hcls]; exact k3⟩ (((Heap.UpToSlots.of_keeps F.keep).trans (Heap.UpToSlots.of_keeps hkeep)).trans k4)

/-- an exception that came from a call leaves this frame too -/
theorem leaveX_on {X : String} {G : Heap} {Q : Unit → Shared → Prop} (K : Below A₀ base outer g) (F : Fr g L G m) (hf : env.frame = some L) (R : RaisedSN base G (env :: outer) e (.type X) news s'.heap) (hsm : G.UpToSlots s'.heap)
    (hQ : ∀ h', RaisedSN base g outer e (.type X) news h' → g.UpToSlots h' → Q () { s' with heap := h' }) :
    wpAny M (A₀.deeper env) (leaving env (.ref e)) Q E s' := by
  obtain ⟨B, a0, hB, hBG, hl, hfl⟩ := R
  exact wpAny_leaves_onW (Around.frames_deeper K.stack) hf hfl fun h' x1 x2 =>
    hQ h' ⟨B, a0, hB, fun b o q nm => hBG b o (F.keep b o q) (fun hm => by
      rcases mem_frames hf hm with z | z
      · rw [z, kts_self F] at q
        cases q
      · exact nm z), fun q hq => ⟨(hl q hq).1, kts_none F.keep (hl q hq).2.1, (hl q hq).2.2⟩, x1⟩ ((Heap.UpToSlots.of_keeps F.keep).trans (hsm.trans x2))

theorem set_get {vs : Array Value} {i j : Nat} {x : Value} (h : i ≠ j) : (vs.setIfInBounds i x)[j]? = vs[j]? := Array.getElem?_setIfInBounds_ne h

/-- a builtin's new exception is looked at by a try of this very frame -/
theorem own_note {X : String} {Q : Unit → Shared → Prop} (K : Below A₀ base outer g) (F : Fr g L h m) (N : News g L h news) (hf : env.frame = some L) (hk : env.scope.kind = .function) (hx : Heap.NewExc h s'.heap e X)
    (D : KtsDicts (outer.filterMap (·.frame)) g)
    (k : ∀ h₅ g' T eo to ws ts, KtsTurn (outer.filterMap (·.frame)) g g' → Fr g' L h₅ m → News g' L h₅ ((e, eo) :: (T, to) :: news) → e ≠ T → (∀ q ∈ news, q.1 ≠ T) → Below A₀ base outer g' → KtsDicts (outer.filterMap (·.frame)) g' →
      eo.cls = .type X → eo.data = .fields ws → ws[1]? = some (.ref T) → ws[2]? = some .none → ws.size = 6 → to.data = .fields ts → ts[3]? = some .none → Q () { s' with heap := h₅ }) :
    wpAny M (A₀.deeper env) (noteFrame (.ref e) env) (fun _ s₂ => wpAny M (A₀.deeper env) (setFlight (.ref e) none) Q E s₂) E s' := by
  obtain ⟨hkeep, hnew, oe, tp, he, hcls, hd⟩ := hx
  have K' := pushX K F hf hk
  have hl : s'.heap.FunFrames base (env :: outer) := K'.frames.of_keeps fun b o hb _ => ⟨o, hkeep b o hb, rfl⟩
  have hfr : ∀ b ∈ (env :: outer).filterMap (·.frame), ∃ o, h.get? b = some o := fun b hb => let ⟨_, o, ho, _⟩ := K'.frames.mem hb; ⟨o, ho⟩
  have hene : e ∉ (env :: outer).filterMap (·.frame) := fun hm => by
    obtain ⟨o, ho⟩ := hfr e hm
    rw [hnew] at ho; cases ho
  unfold noteFrame
  simp only [hf]
  refine wpAny_bind (wpAny_field he hd (x := .none) rfl ?_)
  rw [if_neg (by decide)]
  refine wpAny_bind (wpAny_frameOf_fun (Around.frames_deeper K.stack) hl hf fun h₁ hs₁ => ?_)
  refine wpAny_bind (wpAny_entryPlaceOf fun pl hpl => ?_)
  unfold EntryCells.newEntry newFields
  refine wpAny_bind (wpAny_newObj_type ?_ (hpl.sizeOk5 _ _ _ _ _))
  have he₁ : h₁.get? e = some oe := (hs₁.2.1 e hene).trans he
  have he₂ := Heap.get?_push_of_some (h := h₁) { cls := .type "traceback", dict := none, data := .fields ([Value.none, .ref L, .none, rawInt L, .none] ++ (if pl.isEmpty then List.replicate 6 Value.none else pl)).toArray } he₁
  refine wpAny_setField he₂ hd (show 1 < 6 by decide) ?_
  have hTe : h₁.objs.size ≠ e := Nat.ne_of_gt (Heap.lt_size he₁)
  have hd₃ := Obj.data_mapFields hd (·.setIfInBounds 1 (Value.ref h₁.objs.size))
  have he₃ := Heap.get?_update_self (Obj.mapFields (·.setIfInBounds 1 (Value.ref h₁.objs.size))) he₂ (Obj.isFreed_of_fields hd₃)
  have hT₃ := (Heap.get?_update_other (h₁.push { cls := .type "traceback", dict := none, data := .fields ([Value.none, .ref L, .none, rawInt L, .none] ++ (if pl.isEmpty then List.replicate 6 Value.none else pl)).toArray })
    (Obj.mapFields (·.setIfInBounds 1 (Value.ref h₁.objs.size))) (Ne.symm hTe)).trans (Heap.get?_push_size h₁ rfl)
  unfold setFlight
  refine wpAny_bind (wpAny_field he₃ hd₃ (x := .ref h₁.objs.size) (by rfl) ?_)
  rw [if_pos (show (Value.ref h₁.objs.size != Value.none) = true from by simp)]
  refine wpAny_setField hT₃ rfl (by simp only [List.size_toArray, List.length_append, List.length_cons, List.length_nil] <;> omega) ?_
  have hT₄ := Heap.get?_update_self (Obj.mapFields (·.setIfInBounds 3 ((none : Option Addr).elim Value.none fun f => rawInt f))) hT₃ (Obj.isFreed_of_fields (Obj.data_mapFields rfl _))
  have he₄ := (Heap.get?_update_other ((h₁.push { cls := .type "traceback", dict := none, data := .fields ([Value.none, .ref L, .none, rawInt L, .none] ++ (if pl.isEmpty then List.replicate 6 Value.none else pl)).toArray }).update e (Obj.mapFields (·.setIfInBounds 1 (Value.ref h₁.objs.size))))
    (Obj.mapFields (·.setIfInBounds 3 ((none : Option Addr).elim Value.none fun f => rawInt f))) hTe).trans he₃
  have keep : ∀ b o, b ≠ e → h₁.get? b = some o →
      (((h₁.push { cls := .type "traceback", dict := none, data := .fields ([Value.none, .ref L, .none, rawInt L, .none] ++ (if pl.isEmpty then List.replicate 6 Value.none else pl)).toArray }).update e (Obj.mapFields (·.setIfInBounds 1 (Value.ref h₁.objs.size)))).update h₁.objs.size
        (Obj.mapFields (·.setIfInBounds 3 ((none : Option Addr).elim Value.none fun f => rawInt f)))).get? b = some o := fun b o hbe hb => by
    have hbT : h₁.objs.size ≠ b := Nat.ne_of_gt (Heap.lt_size hb)
    rw [Heap.get?_update_other _ _ hbT, Heap.get?_update_other _ _ (Ne.symm hbe)]
    exact Heap.get?_push_of_some _ hb
  generalize (((h₁.push { cls := .type "traceback", dict := none, data := .fields ([Value.none, .ref L, .none, rawInt L, .none] ++ (if pl.isEmpty then List.replicate 6 Value.none else pl)).toArray }).update e (Obj.mapFields (·.setIfInBounds 1 (Value.ref h₁.objs.size)))).update h₁.objs.size
        (Obj.mapFields (·.setIfInBounds 3 ((none : Option Addr).elim Value.none fun f => rawInt f)))) = h₅ at hT₄ he₄ keep ⊢
  have hne : ∀ b o, h.get? b = some o → b ≠ e := fun b o hb q => by rw [q, hnew] at hb; cases hb
  have out : ∀ b o, b ∉ (env :: outer).filterMap (·.frame) → h.get? b = some o → h₅.get? b = some o := fun b o nm hb => keep b o (hne b o hb) ((hs₁.2.1 b nm).trans (hkeep b o hb))
  have slots : ∀ b o, h.get? b = some o → ∃ sl, h₅.get? b = some { o with slots := sl } := fun b o hb => by
    obtain ⟨sl, hs⟩ := hs₁.2.2 b o (hkeep b o hb)
    exact ⟨sl, keep b _ (hne b o hb) hs⟩
  have hTn : h.get? h₁.objs.size = none := by
    cases q : h.get? h₁.objs.size with
    | none => rfl
    | some o =>
      obtain ⟨sl, hs⟩ := hs₁.2.2 _ o (hkeep _ o q)
      exact absurd (Heap.lt_size hs) (Nat.lt_irrefl _)
  have gnone : ∀ b, h.get? b = none → g.get? b = none := fun b hb => by
    cases q : g.get? b with
    | none => rfl
    | some o => rw [F.keep _ _ q] at hb; cases hb
  obtain ⟨T, S⟩ := kts_turn_at (h := h₅) (fs := outer.filterMap (·.frame)) (g := g)
    (fun b hb => let ⟨_, o, ho, _⟩ := K.frames.mem hb; ⟨o, ho⟩)
    (fun b o eq nm => out b o (fun hm => by
      rcases mem_frames hf hm with z | z
      · rw [z, kts_self F] at eq
        cases eq
      · exact nm z) (F.keep b o eq))
    (fun b o eq _ => slots b o (F.keep b o eq))
  have hUp : h.UpToSlots h₅ := fun b o hb _ => slots b o hb
  have F₅ : Fr (ktsHeap h₅ (outer.filterMap (·.frame)) g) L h₅ m := ⟨hUp.ns F.ns, S, by rw [T.size]; exact F.above⟩
  have hdT := Obj.data_mapFields (o := { cls := .type "traceback", dict := none, data := .fields ([Value.none, .ref L, .none, rawInt L, .none] ++ (if pl.isEmpty then List.replicate 6 Value.none else pl)).toArray }) rfl (·.setIfInBounds 3 ((none : Option Addr).elim Value.none fun f => rawInt f))
  refine k h₅ _ h₁.objs.size _ _ _ _ T F₅ (fun q hq => ?_) hTe.symm (fun q hq z => by have := (N q hq).1; rw [z, hTn] at this; cases this) ⟨K.stack, fun b o eq => T.other b o (K.stays b o eq) (fun hm => by
    rw [(K.frames.mem hm).1] at eq
    cases eq), K.frames.of_keeps fun b o eq _ => ?_⟩ (D.turn T) (hcls ▸ Obj.cls_mapFields _ _) hd₃ rfl rfl rfl hdT ?_
  · rcases List.mem_cons.mp hq with rfl | hq
    · refine ⟨he₄, fun z => ?_, T.none_ _ (gnone _ hnew)⟩
      obtain ⟨oL, _, _, hoL, _⟩ := F.ns
      rw [show e = L from z, hoL] at hnew; cases hnew
    rcases List.mem_cons.mp hq with rfl | hq
    · refine ⟨hT₄, fun z => ?_, T.none_ _ (gnone _ hTn)⟩
      obtain ⟨oL, _, _, hoL, _⟩ := F.ns
      rw [show h₁.objs.size = L from z, hoL] at hTn; cases hTn
    · have n := N q hq
      refine ⟨out _ _ (fun hm => ?_) n.1, n.2.1, T.none_ _ n.2.2⟩
      rcases mem_frames hf hm with z | z
      · exact n.2.1 z
      · obtain ⟨_, o, ho, _⟩ := K.frames.mem z
        rw [n.2.2] at ho; cases ho
  · obtain ⟨sl, hs⟩ := T.up eq
    exact ⟨_, hs, rfl⟩
  · first | rfl | simp
end

section
variable {M : Model} {A : Around} {E : Value → Shared → Prop} {s : Shared} {g : Heap} {L e T : Addr} {m : Str → Option Value} {news : List (Addr × Obj)} {eo to : Obj} {ws ts : Array Value}
theorem setFlight_led {Q : Unit → Shared → Prop} (F : Fr g L s.heap m) (N : News g L s.heap ((e, eo) :: (T, to) :: news)) (hne : e ≠ T) (hd : eo.data = .fields ws) (h1 : ws[1]? = some (.ref T)) (htd : to.data = .fields ts) (h3 : ts[3]? = some .none)
    (hT : ∀ q ∈ news, q.1 ≠ T)
    (k : ∀ h' to', Fr g L h' m → News g L h' ((e, eo) :: (T, to') :: news) → Q () { s with heap := h' }) : wpAny M A (setFlight (.ref e) none) Q E s := by
  have he := N (e, eo) (.head _)
  have ht := N (T, to) (.tail _ (.head _))
  unfold setFlight
  refine wpAny_bind (wpAny_field he.1 hd h1 ?_)
  rw [if_pos (show (Value.ref T != Value.none) = true from by simp)]
  refine wpAny_setField ht.1 htd (Array.getElem?_eq_some_iff.mp h3).1 ?_
  have other : ∀ b o, b ≠ T → s.heap.get? b = some o → (s.heap.update T (Obj.mapFields (·.setIfInBounds 3 ((none : Option Addr).elim Value.none fun f => rawInt f)))).get? b = some o := fun b o hb q => (Heap.get?_update_other _ _ (Ne.symm hb)).trans q
  refine k _ (Obj.mapFields (·.setIfInBounds 3 ((none : Option Addr).elim Value.none fun f => rawInt f)) to) ⟨F.ns.at' fun o q => other _ _ ht.2.1.symm q, fun b o q => other _ _ (fun z => by rw [z, ht.2.2] at q; cases q) (F.keep b o q), F.above⟩ (fun q hq => ?_)
  rcases List.mem_cons.mp hq with rfl | hq
  · exact ⟨other _ _ hne he.1, he.2⟩
  rcases List.mem_cons.mp hq with rfl | hq
  · exact ⟨Heap.get?_update_self _ ht.1 (Obj.isFreed_of_fields (Obj.data_mapFields htd _)), ht.2⟩
  · have n := N q (.tail _ (.tail _ hq))
    exact ⟨other _ _ (hT q hq) n.1, n.2⟩
end

section
variable {prog : Program} {w : World} {A₀ : Around} {E : Value → Shared → Prop} {s' : Shared} {base g h : Heap} {outer : List Env} {L a e : Addr} {m mg mb : Str → Option Value} {mean : ExcName → Option Value} {cn : Str} {cs : Scope} {ccd : Value} {cl : List (Str × Addr)} {news : List (Addr × Obj)} {p : Program} {loose : List Str} {KF : Frag}
  {X T' : String} {x n : Str} {np pos : Pos} {b₀ : Stmt} {suite : List Stmt} {rest : List ExceptHandler} {Q : Flow → Shared → Prop}
theorem own_caught0 (K : Below A₀ base outer g) (F : Fr g L h m) (N : News g L h news) (hx : Heap.NewExc h s'.heap e X) (XB : KF.In base) (TB : Top p loose mean mg mb base) (D : KtsDicts (outer.filterMap (·.frame)) g)
    (ex : nsIn KF mainGlobals x = some none) (hv : bootBuiltins x = some (.type T')) (hn' : x ≠ "__name__") (hexc : isSubtype (.type T') (.type "BaseException") = pure true)
    (hnt : isSubtype (.type ((Manifest.find? T').elim "type" fun y => y.metatype)) (.type "tuple") = pure false) (hsub : isSubtype (.type X) (.type T') = pure true)
    (k : ∀ h₅ g' T eo to ws, KtsTurn (outer.filterMap (·.frame)) g g' → Fr g' L h₅ m → News g' L h₅ ((e, eo) :: (T, to) :: news) → Below A₀ base outer g' → KF.In g' → Top p loose mean mg mb g' → KtsDicts (outer.filterMap (·.frame)) g' →
      eo.cls = .type X → eo.data = .fields ws → ws[2]? = some .none → ws.size = 6 →
      wpAny (model prog w) ((A₀.deeper (envX cn cs L a ccd cl)).mark (some (.ref e))) (execs (b₀ :: suite) (envX cn cs L a ccd cl)) Q
        (notedBy (model prog w) ((A₀.deeper (envX cn cs L a ccd cl)).mark (some (.ref e))) (envX cn cs L a ccd cl) (cameBackBy (model prog w) (A₀.deeper (envX cn cs L a ccd cl)) (envX cn cs L a ccd cl) E)) { s' with heap := h₅ })
    (hck : cs.kind = .function) (hxk : (envX cn cs L a ccd cl).kindOf x = some .globalImplicit) (hd : (x == ("__debug__" : Str)) = false) :
    wpAny (model prog w) (A₀.deeper (envX cn cs L a ccd cl)) (noteFrame (.ref e) (envX cn cs L a ccd cl))
      (fun _ s₂ => wpAny (model prog w) (A₀.deeper (envX cn cs L a ccd cl)) (setFlight (.ref e) none) (fun _ s₃ =>
        wpAny (model prog w) (A₀.deeper (envX cn cs L a ccd cl)) (handleBy (.ref e) (envX cn cs L a ccd cl) (.ExceptHandler (some (.Name x np)) none (b₀ :: suite) pos :: rest)) Q E s₃) E s₂) E s' := by
  refine own_note K F N rfl hck hx D fun h₅ g' T eo to ws ts KT F₅ N₅ hne hTnews B₅ D₅ hcls hd5 h1 h2 hsz htd h3 => ?_
  have X₅ : KF.In g' := XB.keeps B₅.stays
  have T₅ : Top p loose mean mg mb g' := TB.keeps B₅.stays
  refine wpAny_handleBy_builtin (X := X) (T := T') (b := true) hexc hnt hsub (nameX_B F₅ X₅ (topRead_of T₅) ex hv hn' ⟨rfl, ⟨eo, (N₅ (e, eo) (.head _)).1, hcls⟩, ?_⟩ hck hxk hd)
  refine setFlight_led F₅ N₅ hne hd5 h1 htd h3 hTnews fun h₆ to' F₆ N₆ => ?_
  exact k h₆ g' T eo to' ws KT F₆ N₆ B₅ X₅ T₅ D₅ hcls hd5 h2 hsz

theorem own_caughtB (K : Below A₀ base outer g) (F : Fr g L h m) (N : News g L h news) (hx : Heap.NewExc h s'.heap e X) (XB : KF.In base) (TB : Top p loose mean mg mb base) (D : KtsDicts (outer.filterMap (·.frame)) g)
    (ex : nsIn KF mainGlobals x = some none) (hv : bootBuiltins x = some (.type T')) (hn' : x ≠ "__name__") (hexc : isSubtype (.type T') (.type "BaseException") = pure true)
    (hnt : isSubtype (.type ((Manifest.find? T').elim "type" fun y => y.metatype)) (.type "tuple") = pure false) (hsub : isSubtype (.type X) (.type T') = pure true)
    (k : ∀ h₅ g' T eo to ws tk, KtsTurn (outer.filterMap (·.frame)) g g' → Fr g' L h₅ (fun y => if y = n then some (.ref e) else m y) → News g' L h₅ ((e, eo) :: (T, to) :: news) → Below A₀ base outer g' → KF.In g' → Top p loose mean mg mb g' → KtsDicts (outer.filterMap (·.frame)) g' →
      eo.cls = .type X → eo.data = .fields ws → ws[2]? = some .none → ws.size = 6 →
      wpAny (model prog w) ((A₀.deeper (envX cn cs L a ccd cl)).mark (some (.ref e))) (execs (b₀ :: suite) (envX cn cs L a ccd cl))
        (fun f s₄ => wpAny (model prog w) (A₀.deeper (envX cn cs L a ccd cl)) (do bindName (envX cn cs L a ccd cl) n .none; unbindBehindTheSuite (envX cn cs L a ccd cl) n pos) (fun _ s₅ => Q f s₅) E s₄)
        (AsSuiteRaised (model prog w) ((A₀.deeper (envX cn cs L a ccd cl)).mark (some (.ref e))) (envX cn cs L a ccd cl) n pos (notedBy (model prog w) ((A₀.deeper (envX cn cs L a ccd cl)).mark (some (.ref e))) (envX cn cs L a ccd cl) (cameBackBy (model prog w) (A₀.deeper (envX cn cs L a ccd cl)) (envX cn cs L a ccd cl) E)))
        { s' with heap := h₅, toks := tk })
    (hck : cs.kind = .function) (hlo : (envX cn cs L a ccd cl).kindOf n = some .local) (hxk : (envX cn cs L a ccd cl).kindOf x = some .globalImplicit) (hd : (x == ("__debug__" : Str)) = false) :
    wpAny (model prog w) (A₀.deeper (envX cn cs L a ccd cl)) (noteFrame (.ref e) (envX cn cs L a ccd cl))
      (fun _ s₂ => wpAny (model prog w) (A₀.deeper (envX cn cs L a ccd cl)) (setFlight (.ref e) none) (fun _ s₃ =>
        wpAny (model prog w) (A₀.deeper (envX cn cs L a ccd cl)) (handleBy (.ref e) (envX cn cs L a ccd cl) (.ExceptHandler (some (.Name x np)) (some n) (b₀ :: suite) pos :: rest)) Q E s₃) E s₂) E s' := by
  refine own_note K F N rfl hck hx D fun h₅ g' T eo to ws ts KT F₅ N₅ hne hTnews B₅ D₅ hcls hd5 h1 h2 hsz htd h3 => ?_
  have X₅ : KF.In g' := XB.keeps B₅.stays
  have T₅ : Top p loose mean mg mb g' := TB.keeps B₅.stays
  refine wpAny_handleBy_builtin_as (X := X) (T := T') (b := true) hexc hnt hsub (nameX_B F₅ X₅ (topRead_of T₅) ex hv hn' ⟨rfl, ⟨eo, (N₅ (e, eo) (.head _)).1, hcls⟩, ?_⟩ hck hxk hd)
  refine setFlight_led F₅ N₅ hne hd5 h1 htd h3 hTnews fun h₆ to' F₆ N₆ => ?_
  exact storeX_L F₆ N₆ (fun h₇ F₇ N₇ => k h₇ g' T eo to' ws _ KT F₇ N₇ B₅ X₅ T₅ D₅ hcls hd5 h2 hsz) hck hlo
end
end Mine
end
section
open PySem PySem.W PyProof.Rows PySem.Calls PySem.Spec
set_option maxRecDepth 100000
set_option maxHeartbeats 1600000
namespace Mine
theorem plain_unchain : plainId "proto.unchain" = true := by decide +kernel
theorem entry_unchain : entryFor table "proto.unchain" = some Builtin.«proto.unchain» := entryFor_of_fast (by kernel_rfl)

structure NewX (h h' : Heap) (e : Addr) (X : String) : Prop where
  keeps : ∀ b o, h.get? b = some o → h'.get? b = some o
  new : h.get? e = none
  there : ∃ ob vs a0, h'.get? e = some ob ∧ ob.cls = .type X ∧ ob.data = .fields vs ∧ vs[1]? = some .none ∧ vs[0]? = some a0 ∧ vs.size = 6

section
variable {prog : Program} {w : World} {A : Around} {E : Value → Shared → Prop} {s : Shared}
theorem unchain_none {v : Value} {e : Addr} {eo : Obj} {ws : Array Value} {b : Bool} {x : Value} {Q : Value → Shared → Prop} (he : s.heap.get? e = some eo) (hd : eo.data = .fields ws) (h2 : ws[2]? = some .none) (h : Q .none s) :
    wpAny (model prog w) A (runValue (.builtin "proto.unchain" ⟨[v, .ref e, x, .bool b], []⟩)) Q E s := by
  refine wpAny_runValue (codeAny_builtin entry_unchain ?_)
  rw [Around.under_plainId plain_unchain _]
  unfold Builtin.«proto.unchain»
  refine wpAny_bind (wpAny_field he hd h2 ?_)
  rw [if_pos (by rfl)]
  exact wpAny_pure h

theorem update_new {h h' : Heap} {e : Addr} {f : Obj → Obj} (hk : ∀ b o, h.get? b = some o → h'.get? b = some o) (hn : h.get? e = none) : ∀ b o, h.get? b = some o → (h'.update e f).get? b = some o := fun b o hb =>
  (Heap.get?_update_other _ _ (fun q => by rw [q, hb] at hn; cases hn)).trans (hk b o hb)

theorem raiseNew_in {e e2 : Addr} {eo ob : Obj} {ws vs : Array Value} {Q : Flow → Shared → Prop} (hh : A.handled = some (.ref e)) (hne : e2 ≠ e) (he : s.heap.get? e = some eo) (hd : eo.data = .fields ws) (h2 : ws[2]? = some .none)
    (he2 : s.heap.get? e2 = some ob) (hd2 : ob.data = .fields vs) (hsz : 2 < vs.size)
    (h : E (.ref e2) { s with heap := s.heap.update e2 (Obj.mapFields (·.setIfInBounds 2 (.ref e))) }) : wpAny (model prog w) A (raiseNew (.ref e2)) Q E s := by
  unfold raiseNew
  refine wpAny_bind (wpAny_handled ?_)
  rw [hh]
  dsimp only
  rw [if_pos (by simp; exact fun q => hne q.symm)]
  refine wpAny_bind (wpAny_holding (unchain_none he hd h2 ?_))
  refine wpAny_bind ?_
  have := wpAny_setField (M := model prog w) (A := A) (E := E) (i := 2) (x := .ref e) (Q := fun _ s' => wpAny (model prog w) A (throw (Value.ref e2) : Sem Flow) Q E s') he2 hd2 hsz (wpAny_throw h)
  simpa only [setField] using this

theorem raiseStmt_in {cls : String} (F : ExcRaiseFacts cls) {env : Env} {x : Sem Value} {e : Addr} {eo : Obj} {ws : Array Value} {Q : Flow → Shared → Prop} (hh : A.handled = some (.ref e)) (hd : eo.data = .fields ws) (h2 : ws[2]? = some .none)
    (h : wpAny (model prog w) A x (fun v s₁ => ∃ e2 t, v = .ref e2 ∧ e2 ≠ e ∧ s₁.heap.get? e = some eo ∧ s₁.heap.get? e2 = some { cls := .type cls, data := .fields #[.ref t, .none, .none, .none, .bool false, .none] } ∧
      E (.ref e2) { s₁ with heap := s₁.heap.update e2 (Obj.mapFields (·.setIfInBounds 2 (.ref e))) }) E s) :
    wpAny (model prog w) A (raiseStmt env (some x) none) Q E s := by
  unfold raiseStmt
  refine wpAny_bind (wpAny_mono h (fun v s₁ h₁ => ?_) fun _ _ x => x)
  obtain ⟨e2, t, rfl, hne, hep, he, hE⟩ := h₁
  obtain ⟨hp, g, d, tk, os⟩ := s₁
  have hsub := F.isExc
  have hmeta := F.plainMeta
  repeat (first | refine wpAny_loadPart he ?_ | wp_step)
  exact raiseNew_in hh hne hep hd h2 he rfl (show 2 < 6 by decide) hE

theorem raiseStmt_from {cls X : String} (F : ExcRaiseFacts cls) (G : ExcRaiseFacts X) {env : Env} {x c : Sem Value} {e : Addr} {eo : Obj} {ws : Array Value} {Q : Flow → Shared → Prop} (hh : A.handled = some (.ref e)) (hcl : eo.cls = .type X) (hd : eo.data = .fields ws) (h2 : ws[2]? = some .none)
    (h : wpAny (model prog w) A x (fun v s₁ => wpAny (model prog w) A c (fun cv s₂ => cv = .ref e ∧ ∃ e2 t, v = .ref e2 ∧ e2 ≠ e ∧ s₂.heap.get? e = some eo ∧ s₂.heap.get? e2 = some { cls := .type cls, data := .fields #[.ref t, .none, .none, .none, .bool false, .none] } ∧
      E (.ref e2) { s₂ with heap := ((s₂.heap.update e2 (Obj.mapFields (·.setIfInBounds 3 (.ref e)))).update e2 (Obj.mapFields (·.setIfInBounds 4 (.bool true)))).update e2 (Obj.mapFields (·.setIfInBounds 2 (.ref e))) }) E s₁) E s) :
    wpAny (model prog w) A (raiseStmt env (some x) (some c)) Q E s := by
  unfold raiseStmt
  refine wpAny_bind (wpAny_mono h (fun v s₁ h₁ => ?_) fun _ _ x => x)
  refine wpAny_bind (wpAny_holding (wpAny_mono h₁ (fun cv s₂ h₂ => ?_) fun _ _ x => x))
  obtain ⟨rfl, e2, t, rfl, hne, hep, he, hE⟩ := h₂
  obtain ⟨hp, g, d, tk, os⟩ := s₂
  have hsub := F.isExc
  have hmeta := F.plainMeta
  have hsub' := G.isExc
  have hmeta' := G.plainMeta
  obtain ⟨ecls, edict, edata, eslots⟩ := eo
  dsimp only at hcl hd
  subst hcl hd
  repeat (first | refine wpAny_loadPart he ?_ | refine wpAny_loadPart hep ?_ | wp_step)
  have o3 := Heap.get?_update_self (h := hp) (Obj.mapFields fun x => x.setIfInBounds 3 (Value.ref e)) he (Obj.isFreed_of_fields (Obj.data_mapFields rfl _))
  have o4 := Heap.get?_update_self (Obj.mapFields fun x => x.setIfInBounds 4 (Value.bool true)) o3 (Obj.isFreed_of_fields (Obj.data_mapFields (Obj.data_mapFields rfl _) _))
  have k4 : ((hp.update e2 (Obj.mapFields fun x => x.setIfInBounds 3 (Value.ref e))).update e2 (Obj.mapFields fun x => x.setIfInBounds 4 (Value.bool true))).get? e = some { cls := Value.type X, dict := edict, data := Data.fields ws, slots := eslots } := by
    rw [Heap.get?_update_other _ _ hne, Heap.get?_update_other _ _ hne]; exact hep
  refine raiseNew_in hh hne k4 rfl h2 o4 (Obj.data_mapFields (Obj.data_mapFields rfl _) _) ?_ hE
  simp

theorem NewX.of {h h₁ h' : Heap} {e : Addr} {X : String} {vs : List Value} (x : Heap.MadeExc h h₁ e X vs) (hk : ∀ b o, b ≠ e → h₁.get? b = some o → h'.get? b = some o)
    (ht : ∃ ob ws a0, h'.get? e = some ob ∧ ob.cls = .type X ∧ ob.data = .fields ws ∧ ws[1]? = some .none ∧ ws[0]? = some a0 ∧ ws.size = 6) : NewX h h' e X :=
  ⟨fun b o hb => hk b o (fun q => by rw [q, x.new] at hb; cases hb) (x.keeps b o hb), x.new, ht⟩

theorem newX_2 {h h₁ : Heap} {e e2 : Addr} {X : String} {vs : List Value} (x : Heap.MadeExc h h₁ e2 X vs) : NewX h (h₁.update e2 (Obj.mapFields (·.setIfInBounds 2 (.ref e)))) e2 X := by
  obtain ⟨t, he, _⟩ := x.there
  exact .of x (fun b o hb q => (Heap.get?_update_other _ _ hb.symm).trans q) ⟨_, _, _, Heap.get?_update_self _ he (Obj.isFreed_of_fields (Obj.data_mapFields rfl _)), Obj.cls_mapFields _ _, Obj.data_mapFields rfl _, rfl, rfl, rfl⟩
theorem newX_342 {h h₁ : Heap} {e e2 : Addr} {X : String} {vs : List Value} (x : Heap.MadeExc h h₁ e2 X vs) :
    NewX h (((h₁.update e2 (Obj.mapFields (·.setIfInBounds 3 (.ref e)))).update e2 (Obj.mapFields (·.setIfInBounds 4 (.bool true)))).update e2 (Obj.mapFields (·.setIfInBounds 2 (.ref e)))) e2 X := by
  obtain ⟨t, he, _⟩ := x.there
  have o3 := Heap.get?_update_self (h := h₁) (Obj.mapFields fun x => x.setIfInBounds 3 (Value.ref e)) he (Obj.isFreed_of_fields (Obj.data_mapFields rfl _))
  have o4 := Heap.get?_update_self (Obj.mapFields fun x => x.setIfInBounds 4 (Value.bool true)) o3 (Obj.isFreed_of_fields (Obj.data_mapFields (Obj.data_mapFields rfl _) _))
  refine .of x (fun b o hb q => ?_) ⟨_, _, _, Heap.get?_update_self _ o4 (Obj.isFreed_of_fields (Obj.data_mapFields (Obj.data_mapFields (Obj.data_mapFields rfl _) _) _)), (Obj.cls_mapFields _ _).trans ((Obj.cls_mapFields _ _).trans (Obj.cls_mapFields _ _)),
    Obj.data_mapFields (Obj.data_mapFields (Obj.data_mapFields rfl _) _) _, rfl, rfl, rfl⟩
  rw [Heap.get?_update_other _ _ hb.symm, Heap.get?_update_other _ _ hb.symm, Heap.get?_update_other _ _ hb.symm]; exact q

theorem raise_in {cls newId initId : String} (FC : ExcCallFacts cls newId initId) (FR : ExcRaiseFacts cls) {env : Env} {x : Str} {np cpos pos : Pos} {e₀ : Expr} {rest : List Expr} {e : Addr} {eo : Obj} {ws : Array Value} {Q : Flow → Shared → Prop}
    (hh : A.handled = some (.ref e)) (hd : eo.data = .fields ws) (h2 : ws[2]? = some .none)
    (h : wpAny (model prog w) A (eval (.Name x np) env) (fun f s₁ => f = .type cls ∧ wpAny (model prog w) A (spliced (backTo cpos (starEach (e₀ :: rest) env)))
      (fun vs s₂ => vs.length ≤ sizeLine ∧ s₂.heap.get? e = some eo ∧ ∀ h' e2, NewX s₂.heap h' e2 cls → E (.ref e2) { s₂ with heap := h' }) E s₁) E s)
    (he : starEach (e₀ :: rest) env = (false, eval e₀ env) :: starEach rest env := by rfl) (hplain : (backTo cpos (starEach rest env)).any (·.1) = false := by rfl) :
    wpAny (model prog w) A (exec (.Raise (some (.Call (.Name x np) (e₀ :: rest) [] cpos)) none pos) env) Q E s := by
  rw [arm_exec_Raise]
  refine wpAny_bind (wpAny_standAt (raiseStmt_in FR hh hd h2 (wpAny_bind (wpAny_Call_ofName (wpAny_mono h (fun f s₁ h₁ => ?_) fun _ _ x => x)))))
  obtain ⟨rfl, h₁⟩ := h₁
  refine callWith_excType (by rw [he]; show (false || (backTo cpos (starEach rest env)).any (·.1)) = false; rw [hplain]; rfl) ?_
  rw [he] at h₁ ⊢
  refine Calls.evalArgs_plain (wpAny_mono h₁ (fun vs s₂ h₃ => ?_) fun _ _ y => y)
  obtain ⟨hlen, hep, hE⟩ := h₃
  refine wpAny_call_exc FC (hrest := hlen) fun h' e2 hm => wpAny_bind (wpAny_standAt (wpAny_pure ?_))
  obtain ⟨t, ht, _, _⟩ := hm.there
  exact ⟨e2, t, rfl, (fun q => by have := hm.new; rw [q, hep] at this; cases this), hm.keeps _ _ hep, ht, hE _ _ (newX_2 hm)⟩
theorem raise_from {cls newId initId X : String} (FC : ExcCallFacts cls newId initId) (FR : ExcRaiseFacts cls) (G : ExcRaiseFacts X) {env : Env} {x : Str} {np cpos pos : Pos} {e₀ c : Expr} {rest : List Expr} {e : Addr} {eo : Obj} {ws : Array Value} {Q : Flow → Shared → Prop}
    (hh : A.handled = some (.ref e)) (hcl : eo.cls = .type X) (hd : eo.data = .fields ws) (h2 : ws[2]? = some .none)
    (h : wpAny (model prog w) A (eval (.Name x np) env) (fun f s₁ => f = .type cls ∧ wpAny (model prog w) A (spliced (backTo cpos (starEach (e₀ :: rest) env)))
      (fun vs s₂ => vs.length ≤ sizeLine ∧ s₂.heap.get? e = some eo ∧ ∀ h₁ e2, Heap.MadeExc s₂.heap h₁ e2 cls vs → wpAny (model prog w) A (eval c env) (fun cv s₃ => cv = .ref e ∧ s₃ = { s₂ with heap := h₁ } ∧ ∀ h', NewX s₂.heap h' e2 cls → E (.ref e2) { s₂ with heap := h' }) E { s₂ with heap := h₁ }) E s₁) E s)
    (he : starEach (e₀ :: rest) env = (false, eval e₀ env) :: starEach rest env := by rfl) (hplain : (backTo cpos (starEach rest env)).any (·.1) = false := by rfl) :
    wpAny (model prog w) A (exec (.Raise (some (.Call (.Name x np) (e₀ :: rest) [] cpos)) (some c) pos) env) Q E s := by
  rw [arm_exec_Raise]
  refine wpAny_bind (wpAny_standAt (raiseStmt_from FR G hh hcl hd h2 (wpAny_bind (wpAny_Call_ofName (wpAny_mono h (fun f s₁ h₁ => ?_) fun _ _ x => x)))))
  obtain ⟨rfl, h₁⟩ := h₁
  refine callWith_excType (by rw [he]; show (false || (backTo cpos (starEach rest env)).any (·.1)) = false; rw [hplain]; rfl) ?_
  rw [he] at h₁ ⊢
  refine Calls.evalArgs_plain (wpAny_mono h₁ (fun vs s₂ h₃ => ?_) fun _ _ y => y)
  obtain ⟨hlen, hep, hE⟩ := h₃
  refine wpAny_call_exc FC (hrest := hlen) fun h' e2 hm => wpAny_bind (wpAny_standAt (wpAny_pure ?_))
  obtain ⟨t, ht, _, _⟩ := hm.there
  refine wpAny_bind (wpAny_mono (hE _ _ hm) (fun cv s₃ hc => wpAny_bind (wpAny_standAt (wpAny_pure ?_))) fun _ _ y => y)
  obtain ⟨rfl, rfl, hE⟩ := hc
  exact ⟨rfl, e2, t, rfl, (fun q => by have := hm.new; rw [q, hep] at this; cases this), hm.keeps _ _ hep, ht, hE _ (newX_342 hm)⟩
end
end Mine
end
section
open PySem PySem.W PyProof.Rows PySem.Calls PySem.Spec
set_option maxRecDepth 100000
set_option maxHeartbeats 1600000
namespace Mine
section
variable {prog : Program} {w : World} {A₀ A' : Around} {E E' : Value → Shared → Prop} {s' : Shared} {base B g h : Heap} {outer : List Env} {L e : Addr} {m : Str → Option Value} {env : Env} {news : List (Addr × Obj)} {X : String} {a0 : Value}

/-- what stays of the heap while the exception e is raised in this frame -/
structure Grounded (base B g : Heap) (L e : Addr) (outer : List Env) (news : List (Addr × Obj)) : Prop where
  st : base.StaysIn B
  sg : ∀ b o, g.get? b = some o → b ∉ outer.filterMap (·.frame) → B.get? b = some o
  hl : ∀ q ∈ news, B.get? q.1 = some q.2 ∧ g.get? q.1 = none ∧ base.get? q.1 = none
  hen : B.get? e = none
  hL : B.get? L = none
  gL : g.get? L = none
  hlo : ∀ b ∈ outer.filterMap (·.frame), b ≠ L

theorem grounded (K : Below A₀ base outer g) (F : Fr g L h m) (N : News g L h news) (hf : env.frame = some L) (hk : env.scope.kind = .function) (hx : NewX h s'.heap e X) :
    ∃ B, Grounded base B g L e outer news ∧ s'.heap.FunFrames B (env :: outer) ∧ B.StaysIn s'.heap := by
  have K' := pushX K F hf hk
  have hin : ∀ env' ∈ (env :: outer), ∀ b, env'.frame = some b → b ∈ (env :: outer).filterMap (·.frame) := fun env' he b hb => List.mem_filterMap.mpr ⟨env', he, hb⟩
  refine ⟨hideAll h ((env :: outer).filterMap (·.frame)), ⟨fun b o q => hideAll_get _ (K'.stays b o q) fun hm => ?_, fun b o q nm => hideAll_get _ (F.keep b o q) fun hm => ?_, fun q hq => ⟨hideAll_get _ (N q hq).1 fun hm => ?_, (N q hq).2.2, fresh_of_stays K.stays (N q hq).2.2⟩, ?_, hideAll_none _ ?_, kts_self F, fun b hb q => ?_⟩,
    (funFrames_hide K'.frames hin).of_keeps fun b o hb _ => ⟨o, hx.keeps b o hb, rfl⟩, fun b o hb => hx.keeps b o (of_hideAll _ hb)⟩
  · rw [(K'.frames.mem hm).1] at q; cases q
  · rcases mem_frames hf hm with z | z
    · rw [z, kts_self F] at q
      cases q
    · exact nm z
  · rcases mem_frames hf hm with z | z
    · exact (N q hq).2.1 z
    · obtain ⟨_, o, ho, _⟩ := K.frames.mem z
      rw [(N q hq).2.2] at ho; cases ho
  · cases q : (hideAll h ((env :: outer).filterMap (·.frame))).get? e with
    | none => rfl
    | some o => have := of_hideAll _ q; rw [hx.new] at this; cases this
  · rw [List.filterMap_cons, hf]; exact .head _
  · obtain ⟨_, o, ho, _⟩ := K.frames.mem hb
    rw [q, kts_self F] at ho; cases ho

abbrev Held (B g : Heap) (env : Env) (outer : List Env) (e : Addr) (X : String) (a0 : Value) (L : Addr) (h : Heap) : Prop := Heap.HeldW B (env :: outer) e (.type X) a0 L h ∧ g.UpToSlots h

theorem first_note {Q : Unit → Shared → Prop} (hfr : A'.frames = some (env :: outer)) (hf : env.frame = some L) (G : Grounded base B g L e outer news) (FF : s'.heap.FunFrames B (env :: outer)) (st : B.StaysIn s'.heap) (hx : NewX h s'.heap e X) (hgk : g.UpToSlots s'.heap)
    (k : ∀ h' a0, Held B g env outer e X a0 L h' → s'.heap.UpToSlots h' → Q () { s' with heap := h' }) : wpAny (model prog w) A' (noteFrame (.ref e) env) Q E s' := by
  obtain ⟨ob, vs, a0, he, hc, hd, h1, h0, hsz⟩ := hx.there
  unfold noteFrame
  simp only [hf]
  refine wpAny_bind (wpAny_field he hd h1 ?_)
  rw [if_neg (by decide)]
  refine wpAny_entryW hfr FF hf he st G.hen hd (by omega) h0 fun h' hN => ?_
  obtain ⟨n1, n2, n3, n4⟩ := hN
  exact k h' a0 ⟨⟨n1, G.hen, n2, hc ▸ n3⟩, hgk.trans n4⟩ n4

theorem held_flight {Q : Unit → Shared → Prop} (H : Held B g env outer e X a0 L s'.heap) (k : ∀ h', Held B g env outer e X a0 L h' → Q () { s' with heap := h' }) : wpAny (model prog w) A' (setFlight (.ref e) (some L)) Q E s' := by
  obtain ⟨⟨hkb, hen, hl, oe, vs, T, oT, ts, he, hcls, hd, h1, hnT, hTe, hT, hdT, h3⟩, hg⟩ := H
  have hsz3 : 3 < ts.size := (Array.getElem?_eq_some_iff.mp h3).1
  have other : ∀ b, b ≠ T → (s'.heap.update T (Obj.mapFields (·.setIfInBounds 3 ((some L).elim Value.none fun f => rawInt f)))).get? b = s'.heap.get? b :=
    fun b hb => Heap.get?_update_other _ _ (Ne.symm hb)
  have noRecord : ∀ b o, s'.heap.get? b = some o → (∀ vs, o.data ≠ .fields vs) → b ≠ T := fun b o hb hnf q => by
    rw [q, hT] at hb; injection hb with hb; subst hb; exact hnf ts hdT
  unfold setFlight
  refine wpAny_bind (wpAny_field he hd h1 ?_)
  rw [if_pos (show (Value.ref T != Value.none) = true from by simp)]
  refine wpAny_setField hT hdT hsz3 (k _ ⟨⟨fun b o hbo => (other b fun q => by rw [q, hnT] at hbo; cases hbo).trans (hkb b o hbo), hen,
    hl.of_keeps fun b o hb hnf => ⟨o, (other b (noRecord b o hb hnf)).trans hb, rfl⟩, ?_⟩, hg.trans fun b o hb hnf => ⟨o.slots, (other b (noRecord b o hb hnf)).trans hb⟩⟩)
  exact ⟨oe, vs, T, _, _, (other e (Ne.symm hTe)).trans he, hcls, hd, h1, hnT, hTe, Heap.get?_update_self _ hT (Obj.isFreed_of_fields (Obj.data_mapFields hdT _)), Obj.data_mapFields hdT _, by simp [hsz3]⟩

theorem held_back (hf : env.frame = some L) (H : Held B g env outer e X a0 L s'.heap) (k : ∀ h', Held B g env outer e X a0 L h' → E (.ref e) { s' with heap := h' }) : cameBackBy (model prog w) A' env E (.ref e) s' := by
  obtain ⟨oe, vs, T, oT, ts, he, hcls, hd, h1, _⟩ := H.1.2.2.2
  unfold cameBackBy
  refine wpAny_bind (wpAny_field he hd h1 ?_)
  rw [if_neg (show ¬ ((Value.ref T == Value.none) = true) from by simp), hf]
  first
    | exact wpAny_bind (wpAny_pure (held_flight H k))
    | exact held_flight H k

theorem held_noted (hf : env.frame = some L) (H : Held B g env outer e X a0 L s'.heap) (k : E (.ref e) s') : notedBy (model prog w) A' env E (.ref e) s' := wpAny_noteFrame_againW hf H.1.2.2.2 k

theorem held_leaves {Q : Unit → Shared → Prop} (hf : env.frame = some L) (G : Grounded base B g L e outer news) (H : Held B g env outer e X a0 L s'.heap)
    (k : ∀ h', RaisedSN base g outer e (.type X) news h' → g.UpToSlots h' → Q () { s' with heap := h' }) : wpAny (model prog w) A' (leaving env (.ref e)) Q E s' := by
  unfold leaving
  refine wpAny_bind (wpAny_noteFrame_againW hf H.1.2.2.2 ?_)
  refine wpAny_landsW H.1 fun h' hfl hs => ?_
  obtain ⟨k1, k2, ⟨_, _, k3⟩, k4⟩ := hfl
  exact k h' ⟨B, a0, G.st, G.sg, G.hl, k1, k2, k3, k4⟩ (H.2.trans hs)

/-- an exception raised in an except suite without a name leaves the frame -/
theorem end0 {Q₀ : Value → Shared → Prop} {E₁ : Value → Value → Shared → Prop} (hfr : A'.frames = some (env :: outer)) (K : Below A₀ base outer g) (F : Fr g L h m) (N : News g L h news) (hf : env.frame = some L) (hk : env.scope.kind = .function) (hx : NewX h s'.heap e X)
    (k : ∀ h', RaisedSN base g outer e (.type X) news h' → g.UpToSlots h' → Q₀ (.ref e) { s' with heap := h' }) :
    notedBy (model prog w) A' env (cameBackBy (model prog w) (A₀.deeper env) env (fun x s => wpAny (model prog w) (A₀.deeper env) (leaving env x) (fun _ s'' => Q₀ x s'') (fun e' s'' => E₁ x e' s'') s)) (.ref e) s' := by
  obtain ⟨B, G, FF, st⟩ := grounded K F N hf hk hx
  have hgk : g.UpToSlots s'.heap := (Heap.UpToSlots.of_keeps F.keep).trans (Heap.UpToSlots.of_keeps hx.keeps)
  refine first_note hfr hf G FF st hx hgk fun h₁ a0 H _ => ?_
  refine held_back hf H fun h₂ H₂ => ?_
  exact held_leaves hf G H₂ k

theorem held_ns {h₁ h₂ : Heap} {m₁ : Str → Option Value} (hf : env.frame = some L) (hke : env.scope.kind ≠ .module) (G : Grounded base B g L e outer news) (H : Held B g env outer e X a0 L h₁) (hn : h₁.Ns L m₁) (hn₂ : ∃ m₂, h₂.Ns L m₂) (hs : Heap.SameBut L h₁ h₂) : Held B g env outer e X a0 L h₂ := by
  obtain ⟨⟨hkb, hen, hl, oe, vs, T, oT, ts, he, hcls, hd, h1, hnT, hTe, hT, hdT, h3⟩, hg⟩ := H
  obtain ⟨oL, es, ep, hoL, hdL, _⟩ := hn
  obtain ⟨m₂, hn₂⟩ := hn₂
  have other : ∀ b o, b ≠ L → h₁.get? b = some o → h₂.get? b = some o := fun b o hb q => (hs.2 b hb).trans q
  have neL : ∀ b o vs, h₁.get? b = some o → o.data = .fields vs → b ≠ L := fun b o vs hb hd q => by
    rw [q, hoL] at hb; cases hb; rw [hdL] at hd; cases hd
  have hfrs : ∀ l : List Env, (∀ b ∈ l.filterMap (·.frame), b ≠ L) → h₁.FunFrames B l → h₂.FunFrames B l := by
    intro l
    induction l with
    | nil => intro _ _; trivial
    | cons ev r ih =>
      rintro hne ⟨x1, ⟨L', o, x2, x3, x4, x5⟩, x6⟩
      have hL' : L' ∈ (ev :: r).filterMap (·.frame) := List.mem_filterMap.mpr ⟨ev, .head _, x2⟩
      refine ⟨x1, ⟨L', o, x2, x3, other _ _ (hne _ hL') x4, x5⟩, ih (fun b hb => hne b ?_) x6⟩
      rw [List.filterMap_cons, x2]; exact .tail _ hb
  refine ⟨⟨fun b o hb => other b o (fun q => by rw [q, G.hL] at hb; cases hb) (hkb b o hb), hen, .cons hke hf hn₂ G.hL (hfrs outer G.hlo hl.2.2), ?_⟩, fun b o hb hnf => ?_⟩
  · exact ⟨oe, vs, T, oT, ts, other _ _ (neL _ _ _ he hd) he, hcls, hd, h1, hnT, hTe, other _ _ (neL _ _ _ hT hdT) hT, hdT, h3⟩
  · obtain ⟨sl, hs'⟩ := hg b o hb hnf
    exact ⟨sl, other _ _ (fun q => by rw [q, G.gL] at hb; cases hb) hs'⟩

/-- an exception raised in an except suite with a name leaves the frame -/
theorem endB {Q₀ : Value → Shared → Prop} {E₁ : Value → Value → Shared → Prop} {n : Str} {pos : Pos} (hfr : A'.frames = some (env :: outer)) (K : Below A₀ base outer g) (F : Fr g L h m) (N : News g L h news) (hf : env.frame = some L) (hlo : env.locals = L) (hk : env.scope.kind = .function)
    (hn : env.kindOf n = some .local) (hx : NewX h s'.heap e X)
    (k : ∀ h' tk, RaisedSN base g outer e (.type X) news h' → g.UpToSlots h' → Q₀ (.ref e) { s' with heap := h', toks := tk }) :
    AsSuiteRaised (model prog w) A' env n pos (notedBy (model prog w) A' env (cameBackBy (model prog w) (A₀.deeper env) env (fun x s => wpAny (model prog w) (A₀.deeper env) (leaving env x) (fun _ s'' => Q₀ x s'') (fun e' s'' => E₁ x e' s'') s))) (.ref e) s' := by
  obtain ⟨B, G, FF, st⟩ := grounded K F N hf hk hx
  have hgk : g.UpToSlots s'.heap := (Heap.UpToSlots.of_keeps F.keep).trans (Heap.UpToSlots.of_keeps hx.keeps)
  refine first_note hfr hf G FF st hx hgk fun h₁ a0 H hup => ?_
  have hn₁ : h₁.Ns L m := hup.ns (F.ns.keeps hx.keeps)
  refine wpAny_nameGoes hn (hlo.symm ▸ hn₁) (by rw [hk]; rfl) fun h₂ m₂ hn₂ hs₂ => ?_
  rw [hlo] at hn₂ hs₂
  have H₂ := held_ns hf (by rw [hk]; decide) G H hn₁ ⟨m₂, hn₂⟩ hs₂
  obtain ⟨oe, vs, T, oT, ts, he, hcls, hd, h1, _⟩ := H₂.1.2.2.2
  unfold PySem.passOn
  refine wpAny_bind (wpAny_field he hd h1 ?_)
  rw [if_neg (show ¬ ((Value.ref T == Value.none) = true) from by simp), hf]
  have fin : ∀ h₃, Held B g env outer e X a0 L h₃ → notedBy (model prog w) A' env (cameBackBy (model prog w) (A₀.deeper env) env (fun x s => wpAny (model prog w) (A₀.deeper env) (leaving env x) (fun _ s'' => Q₀ x s'') (fun e' s'' => E₁ x e' s'') s)) (.ref e) { s' with heap := h₃, toks := s'.toks + 1 } := fun h₃ H₃ => by
    refine held_noted (s' := { s' with heap := h₃, toks := s'.toks + 1 }) hf H₃ ?_
    refine held_back (s' := { s' with heap := h₃, toks := s'.toks + 1 }) hf H₃ fun h₄ H₄ => ?_
    exact held_leaves (s' := { s' with heap := h₄, toks := s'.toks + 1 }) hf G H₄ fun h' R U => k h' _ R U
  first
    | exact wpAny_bind (wpAny_pure (wpAny_bind (held_flight (s' := { s' with heap := h₂, toks := s'.toks + 1 }) H₂ fun h₃ H₃ => wpAny_throw (fin h₃ H₃))))
    | exact wpAny_bind (held_flight (s' := { s' with heap := h₂, toks := s'.toks + 1 }) H₂ fun h₃ H₃ => wpAny_throw (fin h₃ H₃))
end
end Mine
end
section
open PySem PySem.W PyProof.Rows PySem.Calls PySem.Spec
set_option maxRecDepth 100000
set_option maxHeartbeats 1600000
namespace Mine
abbrev SaysR (w : World) (mean : ExcName → Option Value) (mg mb : Str → Option Value) (dN uN : Nat) (f : Addr) (vs : List Value)
    (R : Heap → Addr → (Str → Option Value) → List (Addr × Obj) → Shared → List Env → Heap → (Value → Shared → Prop) → (Value → Shared → Prop) → Prop) : Prop :=
  ∀ (dp un : Nat) (gd : Option (List PySem.Code)) (cn : Str) (cs : Scope) (a : Addr) (ccd : Value) (cl : List (Str × Addr)) (outer : List Env) (A₀ : Around) (base h₀ : Heap) (L : Addr) (m : Str → Option Value)
    (news : List (Addr × Obj)) (s : Shared) (Q E : Value → Shared → Prop),
    Below A₀ base outer h₀ → Fr h₀ L s.heap m → (Mine.hd.heap_39 w.params).In h₀ → News h₀ L s.heap news → Top topProg LL mean mg mb h₀ → cs.kind = .function →
    dp + dN < recursionLimit → un + uN < cLine →
    (Mine.hd.heap_39 w.params).In base → Top topProg LL mean mg mb base → KtsDicts (outer.filterMap (·.frame)) h₀ →
    R h₀ L m news s (envX cn cs L a ccd cl :: outer) base Q E →
    wpAny (model PySem.Challenge.rw_bn0005_01.row.prog w) (ktrTop dp un gd cn cs L a ccd cl outer) (call (.ref f) vs) Q E s

section
variable {M : Model} {A₀ : Around} {E : Value → Shared → Prop} {s' : Shared} {base g h : Heap} {outer : List Env} {L e : Addr} {m : Str → Option Value} {env : Env} {news : List (Addr × Obj)} {X : String}
theorem leaveX_made {vs : List Value} {Q : Unit → Shared → Prop} (K : Below A₀ base outer g) (F : Fr g L h m) (N : News g L h news) (hf : env.frame = some L) (hk : env.scope.kind = .function) (hx : Heap.MadeExc h s'.heap e X vs)
    (hQ : ∀ h', RaisedSN base g outer e (.type X) news h' → g.UpToSlots h' → Q () { s' with heap := h' }) :
    wpAny M (A₀.deeper env) (leaving env (.ref e)) Q E s' := by
  obtain ⟨t, he, _⟩ := hx.there
  exact leaveX_new K F N hf hk hx.new hx.keeps he rfl rfl rfl rfl hQ
/-- a heap whose frames' slots alone have turned serves as the ground as well -/
theorem unturn {G' : Heap} {l : List Env} {cls : Value} {fs : List Addr} (T : KtsTurn fs g G') (hfs : ∀ b ∈ fs, b ∈ l.filterMap (·.frame)) (R : RaisedSN base G' l e cls news h) (U : G'.UpToSlots h) : RaisedSN base g l e cls news h ∧ g.UpToSlots h := by
  obtain ⟨B, a0, hB, hBG, hl, hfl⟩ := R
  refine ⟨⟨B, a0, hB, fun b o q nm => hBG b o (T.other b o q (fun hm => nm (hfs b hm))) nm, fun q hq => ⟨(hl q hq).1, ?_, (hl q hq).2.2⟩, hfl⟩, fun b o q hnf => ?_⟩
  · cases z : g.get? q.1 with
    | none => rfl
    | some o =>
      obtain ⟨sl, hs⟩ := T.up z
      have := (hl q hq).2.1
      rw [hs] at this; cases this
  · obtain ⟨sl, hs⟩ := T.up q
    obtain ⟨sl', hs'⟩ := U b _ hs hnf
    exact ⟨sl', hs'⟩
end

section
variable {prog : Program} {w : World} {A A₀ : Around} {E : Value → Shared → Prop} {s : Shared} {base g : Heap} {outer : List Env} {L a e : Addr} {m mg mb : Str → Option Value} {mean : ExcName → Option Value} {cn : Str} {cs : Scope} {ccd : Value} {cl : List (Str × Addr)} {news : List (Addr × Obj)} {p : Program} {loose : List Str} {KF : Frag}
/-- what stands behind the arguments of «raise X(…) from c» in a suite that handles e -/
def FromK (prog : Program) (w : World) (A : Around) (env : Env) (c : Expr) (e : Addr) (eo : Obj) (cls : String) (E : Value → Shared → Prop) (vs : List Value) (s₂ : Shared) : Prop :=
  vs.length ≤ sizeLine ∧ s₂.heap.get? e = some eo ∧ ∀ h₁ e2, Heap.MadeExc s₂.heap h₁ e2 cls vs → wpAny (model prog w) A (eval c env) (fun cv s₃ => cv = .ref e ∧ s₃ = { s₂ with heap := h₁ } ∧ ∀ h', NewX s₂.heap h' e2 cls → E (.ref e2) { s₂ with heap := h' }) E { s₂ with heap := h₁ }
def InK (e : Addr) (eo : Obj) (cls : String) (E : Value → Shared → Prop) (vs : List Value) (s₂ : Shared) : Prop :=
  vs.length ≤ sizeLine ∧ s₂.heap.get? e = some eo ∧ ∀ h' e2, NewX s₂.heap h' e2 cls → E (.ref e2) { s₂ with heap := h' }

theorem raise_fromX {cls newId initId X : String} (FC : ExcCallFacts cls newId initId) (FR : ExcRaiseFacts cls) (G : ExcRaiseFacts X) {x : Str} {np cpos pos : Pos} {e₀ c : Expr} {rest : List Expr} {eo : Obj} {ws : Array Value} {Q : Flow → Shared → Prop}
    (F : Fr g L s.heap m) (XK : KF.In g) (T : TopRead p loose mg mb g) (ex : nsIn KF mainGlobals x = some none) (hv : bootBuiltins x = some (.type cls)) (hn : x ≠ "__name__")
    (hh : A.handled = some (.ref e)) (hcl : eo.cls = .type X) (hd : eo.data = .fields ws) (h2 : ws[2]? = some .none)
    (h : wpAny (model prog w) A (spliced (backTo cpos (starEach (e₀ :: rest) (envX cn cs L a ccd cl)))) (fun vs s₂ => FromK prog w A (envX cn cs L a ccd cl) c e eo cls E vs s₂) E s)
    (hk : cs.kind = .function) (hx : (envX cn cs L a ccd cl).kindOf x = some .globalImplicit) (hdd : (x == ("__debug__" : Str)) = false)
    (he : starEach (e₀ :: rest) (envX cn cs L a ccd cl) = (false, eval e₀ (envX cn cs L a ccd cl)) :: starEach rest (envX cn cs L a ccd cl)) (hplain : (backTo cpos (starEach rest (envX cn cs L a ccd cl))).any (·.1) = false) :
    wpAny (model prog w) A (exec (.Raise (some (.Call (.Name x np) (e₀ :: rest) [] cpos)) (some c) pos) (envX cn cs L a ccd cl)) Q E s :=
  raise_from FC FR G hh hcl hd h2 (nameX_B F XK T ex hv hn ⟨rfl, h⟩ hk hx hdd) he hplain
theorem raise_inX {cls newId initId : String} (FC : ExcCallFacts cls newId initId) (FR : ExcRaiseFacts cls) {x : Str} {np cpos pos : Pos} {e₀ : Expr} {rest : List Expr} {eo : Obj} {ws : Array Value} {Q : Flow → Shared → Prop}
    (F : Fr g L s.heap m) (XK : KF.In g) (T : TopRead p loose mg mb g) (ex : nsIn KF mainGlobals x = some none) (hv : bootBuiltins x = some (.type cls)) (hn : x ≠ "__name__")
    (hh : A.handled = some (.ref e)) (hd : eo.data = .fields ws) (h2 : ws[2]? = some .none)
    (h : wpAny (model prog w) A (spliced (backTo cpos (starEach (e₀ :: rest) (envX cn cs L a ccd cl)))) (fun vs s₂ => InK e eo cls E vs s₂) E s)
    (hk : cs.kind = .function) (hx : (envX cn cs L a ccd cl).kindOf x = some .globalImplicit) (hdd : (x == ("__debug__" : Str)) = false)
    (he : starEach (e₀ :: rest) (envX cn cs L a ccd cl) = (false, eval e₀ (envX cn cs L a ccd cl)) :: starEach rest (envX cn cs L a ccd cl)) (hplain : (backTo cpos (starEach rest (envX cn cs L a ccd cl))).any (·.1) = false) :
    wpAny (model prog w) A (exec (.Raise (some (.Call (.Name x np) (e₀ :: rest) [] cpos)) none pos) (envX cn cs L a ccd cl)) Q E s :=
  raise_in FC FR hh hd h2 (nameX_B F XK T ex hv hn ⟨rfl, h⟩ hk hx hdd) he hplain

theorem fromK_end {cls : String} {n : Str} {np pos : Pos} {eo : Obj} {vs : List Value} {Q₀ : Value → Shared → Prop} {E₁ : Value → Value → Shared → Prop} (hlen : vs.length ≤ sizeLine) (K : Below A₀ base outer g) (F : Fr g L s.heap m) (N : News g L s.heap news) (hm : (e, eo) ∈ news) (hne : m n = some (.ref e))
    (hk : cs.kind = .function) (hlo : (envX cn cs L a ccd cl).kindOf n = some .local) (hdd : (n == ("__debug__" : Str)) = false) (hfr : A.frames = some (envX cn cs L a ccd cl :: outer))
    (k : ∀ e2 h' tk, RaisedSN base g outer e2 (.type cls) news h' → g.UpToSlots h' → Q₀ (.ref e2) { s with heap := h', toks := tk }) :
    FromK prog w A (envX cn cs L a ccd cl) (.Name n np) e eo cls (AsSuiteRaised (model prog w) A (envX cn cs L a ccd cl) n pos (notedBy (model prog w) A (envX cn cs L a ccd cl) (cameBackBy (model prog w) (A₀.deeper (envX cn cs L a ccd cl)) (envX cn cs L a ccd cl)
      (fun x s => wpAny (model prog w) (A₀.deeper (envX cn cs L a ccd cl)) (leaving (envX cn cs L a ccd cl) x) (fun _ s'' => Q₀ x s'') (fun e' s'' => E₁ x e' s'') s)))) vs s := by
  refine ⟨hlen, N.get hm, fun h₁ e2 hx => ?_⟩
  have F₁ : Fr g L h₁ m := ⟨F.ns.keeps hx.keeps, fun b o q => hx.keeps _ _ (F.keep b o q), F.above⟩
  refine nameX_L (s := { s with heap := h₁ }) F₁ hne ⟨rfl, rfl, fun h' hx' => ?_⟩ hk hlo hdd
  exact endB (s' := { s with heap := h' }) hfr K F N rfl rfl hk hlo hx' fun h' tk R U => k e2 h' tk R U
theorem inK_end {cls : String} {eo : Obj} {vs : List Value} {Q₀ : Value → Shared → Prop} {E₁ : Value → Value → Shared → Prop} (hlen : vs.length ≤ sizeLine) (K : Below A₀ base outer g) (F : Fr g L s.heap m) (N : News g L s.heap news) (hm : (e, eo) ∈ news)
    (hk : cs.kind = .function) (hfr : A.frames = some (envX cn cs L a ccd cl :: outer))
    (k : ∀ e2 h', RaisedSN base g outer e2 (.type cls) news h' → g.UpToSlots h' → Q₀ (.ref e2) { s with heap := h' }) :
    InK e eo cls (notedBy (model prog w) A (envX cn cs L a ccd cl) (cameBackBy (model prog w) (A₀.deeper (envX cn cs L a ccd cl)) (envX cn cs L a ccd cl)
      (fun x s => wpAny (model prog w) (A₀.deeper (envX cn cs L a ccd cl)) (leaving (envX cn cs L a ccd cl) x) (fun _ s'' => Q₀ x s'') (fun e' s'' => E₁ x e' s'') s))) vs s := by
  refine ⟨hlen, N.get hm, fun h' e2 hx => ?_⟩
  exact end0 (s' := { s with heap := h' }) hfr K F N rfl hk hx fun h'' R U => k e2 h'' R U
end

section
open Builtin Builtin.Str
variable {prog : Program} {w : World} {A : Around} {E : Value → Shared → Prop} {s : Shared}
/-- the field «{0}» of a format with its first argument -/
theorem field_zero {id : String} {a : Array Value} {byName : PySem.Str → Sem Value} {v : Value} {num : Numbering} {Q : Value × Numbering → Shared → Prop} (hn : num = .unset) (ha : a[0]? = some v)
    (h : Q (v, .manual) s) : wpAny (model prog w) A (fieldObject id (some a) byName [48] num) Q E s := by
  subst hn
  unfold fieldObject
  first
    | refine wpAny_bind (wpAny_pure ?_)
    | refine wpAny_bind (wpAny_of_eq (a := some 0) rfl ?_)
  first
    | refine wpAny_bind (wpAny_pure ?_)
    | refine wpAny_bind (wpAny_of_eq (a := (some 0, .manual)) rfl ?_)
  simp only [ha, pure_bind]
  rw [KPc.range_list]
  exact wpAny_bind (wpAny_pure (wpAny_pure h))
end

section
variable {base g g' h h₀ : Heap} {L e : Addr} {m : Str → Option Value} {env : Env} {outer l : List Env} {X : String} {news news' : List (Addr × Obj)} {t : Addr} {vs : List Value}
theorem raised_sub {cls : Value} (R : RaisedSN base g l e cls news' h) (hs : ∀ q ∈ news, q ∈ news') : RaisedSN base g l e cls news h := by
  obtain ⟨B, a0, hB, hBG, hl, hfl⟩ := R
  exact ⟨B, a0, hB, hBG, fun q hq => hl q (hs q hq), hfl⟩
theorem ends_S (FG : Fr h₀ L g m) (R : RaisedS base g l e (.type X) t vs news h) (U : g.UpToSlots h) : Ends base h₀ L m l e X news h := ⟨g, FG, R.toSN, U⟩
theorem ends_N (FG : Fr h₀ L g m) (R : RaisedSN base g l e (.type X) news' h) (U : g.UpToSlots h) (hs : ∀ q ∈ news, q ∈ news') : Ends base h₀ L m l e X news h := ⟨g, FG, raised_sub R hs, U⟩
theorem ends_turn (FG : Fr h₀ L g m) (T : KtsTurn (l.filterMap (·.frame)) g g') (R : RaisedSN base g' l e (.type X) news' h) (U : g'.UpToSlots h) (hs : ∀ q ∈ news, q ∈ news') : Ends base h₀ L m l e X news h :=
  let ⟨R', U'⟩ := unturn T (fun _ hb => hb) R U
  ⟨g, FG, raised_sub R' hs, U'⟩
end

section
variable {prog : Program} {w : World} {A A₀ : Around} {E : Value → Shared → Prop} {s : Shared} {g : Heap} {L a : Addr} {m mg mb : Str → Option Value} {cn : Str} {cs : Scope} {ccd : Value} {cl : List (Str × Addr)} {p : Program} {loose : List Str} {KF : Frag}
def OutK (cls : String) (E : Value → Shared → Prop) (vs : List Value) (s₂ : Shared) : Prop := vs.length ≤ sizeLine ∧ ∀ h' e, Heap.MadeExc s₂.heap h' e cls vs → E (.ref e) { s₂ with heap := h' }
theorem outK {cls : String} {vs : List Value} (hl : vs.length ≤ sizeLine) (h : ∀ h' e, Heap.MadeExc s.heap h' e cls vs → E (.ref e) { s with heap := h' }) : OutK cls E vs s := ⟨hl, h⟩
theorem raise_outX {cls newId initId : String} (FC : ExcCallFacts cls newId initId) (FR : ExcRaiseFacts cls) {x : Str} {np cpos pos : Pos} {e₀ : Expr} {rest : List Expr} {Q : Flow → Shared → Prop}
    (F : Fr g L s.heap m) (XK : KF.In g) (T : TopRead p loose mg mb g) (ex : nsIn KF mainGlobals x = some none) (hv : bootBuiltins x = some (.type cls)) (hn : x ≠ "__name__")
    (hh : A.handled = none)
    (h : wpAny (model prog w) A (spliced (backTo cpos (starEach (e₀ :: rest) (envX cn cs L a ccd cl)))) (fun vs s₂ => OutK cls E vs s₂) E s)
    (hk : cs.kind = .function) (hx : (envX cn cs L a ccd cl).kindOf x = some .globalImplicit) (hdd : (x == ("__debug__" : Str)) = false)
    (he : starEach (e₀ :: rest) (envX cn cs L a ccd cl) = (false, eval e₀ (envX cn cs L a ccd cl)) :: starEach rest (envX cn cs L a ccd cl)) (hplain : (backTo cpos (starEach rest (envX cn cs L a ccd cl))).any (·.1) = false) :
    wpAny (model prog w) A (exec (.Raise (some (.Call (.Name x np) (e₀ :: rest) [] cpos)) none pos) (envX cn cs L a ccd cl)) Q E s :=
  Raise_madeB FC FR hh (nameX_B F XK T ex hv hn ⟨rfl, h⟩ hk hx hdd) he hplain
end

section
variable {M : Model} {A₀ : Around} {E : Value → Shared → Prop} {s' : Shared} {base g : Heap} {outer : List Env} {L e : Addr} {m : Str → Option Value} {env : Env} {news : List (Addr × Obj)} {X : String}
theorem leaveX_ends {Q : Unit → Shared → Prop} (K : Below A₀ base outer g) (hf : env.frame = some L) (hE : Ends base g L m (env :: outer) e X news s'.heap)
    (hQ : ∀ h', RaisedSN base g outer e (.type X) news h' → g.UpToSlots h' → Q () { s' with heap := h' }) :
    wpAny M (A₀.deeper env) (leaving env (.ref e)) Q E s' :=
  let ⟨_, F, R, U⟩ := hE; leaveX_on K F hf R U hQ
end
section
variable {w : World} {mean : ExcName → Option Value} {mg mb : Str → Option Value} {dN uN : Nat} {f : Addr} {vs : List Value}
  {dp un : Nat} {gd : Option (List PySem.Code)} {cn : Str} {cs : Scope} {a : Addr} {ccd : Value} {cl : List (Str × Addr)} {outer : List Env} {A₀ : Around} {base h₀ : Heap} {L : Addr} {m : Str → Option Value}
  {news pre : List (Addr × Obj)} {ps qs : Array Value} {s : Shared} {Q E : Value → Shared → Prop}
theorem says_use {R} (S : Says w mean mg mb dN uN f vs R) (B : Below A₀ base outer h₀) (F : Fr h₀ L s.heap m) (X : (Mine.hd.heap_39 w.params).In h₀) (N : News h₀ L s.heap news) (T : Top topProg LL mean mg mb h₀) (hk : cs.kind = .function)
    (hd : dp + dN < recursionLimit) (hu : un + uN < cLine) (r : R h₀ L m news s (envX cn cs L a ccd cl :: outer) Q E) :
    wpAny (model PySem.Challenge.rw_bn0005_01.row.prog w) (ktrTop dp un gd cn cs L a ccd cl outer) (call (.ref f) vs) Q E s := S _ _ _ _ _ _ _ _ _ _ _ _ _ _ _ _ _ _ B F X N T hk hd hu r
theorem saysR_use {R} (S : SaysR w mean mg mb dN uN f vs R) (B : Below A₀ base outer h₀) (F : Fr h₀ L s.heap m) (X : (Mine.hd.heap_39 w.params).In h₀) (N : News h₀ L s.heap news) (T : Top topProg LL mean mg mb h₀) (hk : cs.kind = .function)
    (XB : (Mine.hd.heap_39 w.params).In base) (TB : Top topProg LL mean mg mb base) (D : KtsDicts (outer.filterMap (·.frame)) h₀)
    (hd : dp + dN < recursionLimit) (hu : un + uN < cLine) (r : R h₀ L m news s (envX cn cs L a ccd cl :: outer) base Q E) :
    wpAny (model PySem.Challenge.rw_bn0005_01.row.prog w) (ktrTop dp un gd cn cs L a ccd cl outer) (call (.ref f) vs) Q E s := S _ _ _ _ _ _ _ _ _ _ _ _ _ _ _ _ _ _ B F X N T hk hd hu XB TB D r
theorem saysT_use {R} (S : SaysT w mean mg mb dN uN f vs R) (B : Below A₀ base outer h₀) (F : Fr h₀ L s.heap m) (X : (Mine.hd.heap_39 w.params).In h₀) (N : News h₀ L s.heap news) (T : Top topProg LL mean mg mb h₀) (hk : cs.kind = .function)
    (XB : (Mine.hd.heap_39 w.params).In base) (TB : Top topProg LL mean mg mb base) (C57 : CodeHd base 57 53) (C78 : CodeHd base 78 74) (D : KtsDicts (outer.filterMap (·.frame)) h₀)
    (hT : Tail news pre (tl ps qs)) (h1 : TriplesOk ps.toList) (h2 : TriplesOk qs.toList) (hb : AllBare s.gens) (hp : ∀ q ∈ pre, 74 < q.1)
    (hd : dp + dN < recursionLimit) (hu : un + uN < cLine) (r : R h₀ L m pre s (envX cn cs L a ccd cl :: outer) base Q E) :
    wpAny (model PySem.Challenge.rw_bn0005_01.row.prog w) (ktrTop dp un gd cn cs L a ccd cl outer) (call (.ref f) vs) Q E s := S _ _ _ _ _ _ _ _ _ _ _ _ _ _ _ _ _ _ _ _ _ B F X N T hk hd hu XB TB C57 C78 D hT hp h1 h2 hb r
end
theorem gt74 {news pre : List (Addr × Obj)} {ps qs : Array Value} {D : Addr} (hT : Tail news pre (tl ps qs)) (l1 : ∀ p ∈ news, p.1 < D) : 74 < D := by
  rw [hT.eq] at l1
  exact l1 (74, tabObj qs) (List.mem_append_right _ (.tail _ (.head _)))
end Mine
end
section
namespace Mine
open PySem PySem.W PyProof.Rows in
theorem fresh_W1 {M : Model} {A : Around} {E : Value → Shared → Prop} {env : Env} {Q : Flow → Shared → Prop} {s : Shared} (h : Q .next s) : wpAny M A (execs [] env) Q E s := by
  w_top off
  walk1
  exact h
end Mine
open PySem PySem.W PyProof.Rows
set_option maxRecDepth 100000
set_option maxHeartbeats 3200000
namespace Mine
local macro_rules | `(tactic| k_room) => `(tactic| ktr_room)
local macro_rules | `(tactic| k_units) => `(tactic| ktr_units)
local macro_rules | `(tactic| k_all) => `(tactic| (refine' List.forall_mem_append.mpr ⟨?a, ?b⟩; (case a => first | exact all_gt (by assumption) (by first | decide | omega) | exact all_ne (by assumption) (by omega)); (case b => k_all)))
local macro_rules | `(tactic| k_updF) => `(tactic| (refine' updF_app ?a ?b; (case a => first | exact all_gt (by assumption) (by first | decide | omega) | exact all_ne (by assumption) (by omega)); (case b => k_updF)))
local macro_rules | `(tactic| k_mem) => `(tactic| first | (refine' List.mem_append_right _ ?b; (case b => k_mem)) | exact List.mem_append_left _ (by assumption))
local macro_rules | `(tactic| walk_at "eval GeneratorExp") => `(tactic| (k_here; k_dflt (refine' gen_start ?hh rfl ?cl ?cell ?h0 ?hx rfl ?room ?_ ?hs; (case hh => rfl); (case cl => exact rfl); (case cell => decide); (case h0 => rfl); (case hx => rfl); (case room => ktr_room); (case hs => exact fun _ => rfl); k_whole)))
local macro_rules | `(tactic| walk_at "GenK") => `(tactic| (k_here; k_dflt (refine' genK_U ?hh ?F ?N ?T ?C ?U ?ht ?hb ?hr ?sm ?hn ?hcl ?mem ?hoc rfl rfl rfl ?xd ?yd ?yc ?_; (case hh => rfl); (case F => k_asm); (case N => k_asm); (case T => k_asm); (case C => exact CodeHd.keeps (by assumption) (Below.stays (by assumption))); (case U => k_updF); (case ht => assumption); (case hb => assumption); (case hr => assumption); (case sm => decide); (case hn => first | exact (show Builtin.Range.rangeSize _ _ _ = ((20 : Nat) : Int) by decide) | exact (show Builtin.Range.rangeSize _ _ _ = ((13 : Nat) : Int) by decide) | exact (show Builtin.Range.rangeSize _ _ _ = ((52 : Nat) : Int) by decide) | exact (show Builtin.Range.rangeSize _ _ _ = ((73 : Nat) : Int) by decide)); (case hcl => rfl); (case mem => k_mem); (case hoc => assumption); (case xd => decide); (case yd => decide); (case yc => decide); k_whole); intro gen' s' ps' ht' F' N' G' ho' hb'; (try dsimp only at N' G')))
local macro_rules | `(tactic| walk_at "call type:set") => `(tactic| (k_here; k_dflt (refine' setGen_U ?hh ?F ?N ?G ?hb ?hn ?_; (case hh => rfl); (case F => k_asm); (case N => k_asm); (case G => assumption); (case hb => assumption); (case hn => decide); k_whole); intro D' so' s' F' N' l1 hS' ho' hb'; (try k_lt l1)))
local macro_rules | `(tactic| walk_at "getMethod ref") => `(tactic| (k_here; k_dflt (first
  | (refine' methodV_N ?N ?m ?v ?b PySem.F.slot_set_intersection PySem.F.type_set_intersection ?_; (case N => k_asm); (case m => k_mem); (case v => assumption); (case b => decide))
  | (refine' methodK_N ?N ?m ?v PySem.F.slot_set_pop PySem.F.type_set_pop ?_; (case N => k_asm); (case m => k_mem); (case v => assumption)))))
local macro_rules | `(tactic| walk_at "call builtin:set.intersection") => `(tactic| (k_here; k_dflt (refine' inter_N ?F ?N ?ma ?mb ?ab ?sa ?sb ?na ?nb ?_; (case F => k_asm); (case N => k_asm); (case ma => k_mem); (case mb => k_mem); (case ab => k_ne); (case sa => assumption); (case sb => assumption); (case na => decide); (case nb => decide); k_whole); intro D' so' h' σ' F' N' l1 hK' hs'; (have l2 := l1); (try k_lt l1)))
local macro_rules | `(tactic| walk_at "call builtin:set.pop") => `(tactic| (k_here; k_dflt (refine' popOne_N ?F ?N ?l ?K ?ex ?_; (case F => k_asm); (case N => k_asm); (case l => assumption); (case K => assumption); (case ex => exact tz_meets (by assumption) (by assumption) (by assumption) (by assumption)); k_whole); intro h' d' t' k' F' N' hk'))
local macro_rules | `(tactic| walk_at "exec Try") => `(tactic| (k_here; (with_reducible show wpAny _ _ (exec (Stmt.Try _ (_ :: _) _ [] _) _) _ _ _); refine wpAny_Try_except ?_))
local macro_rules | `(tactic| walk_at "noteFrame ref") => `(tactic| (k_here; (rename Heap.NewExc _ _ _ _ => nx9); k_dflt (first
  | ((with_reducible show wpAny _ _ (noteFrame _ _) (fun _ s₂ => wpAny _ _ (setFlight _ none) (fun _ s₃ => wpAny _ _ (handleBy _ _ (ExceptHandler.ExceptHandler (some (Expr.Name _ _)) (some _) _ _ :: _)) _ _ s₃) _ s₂) _ _); refine' own_caughtB (X := "ValueError") (T' := "ValueError") ?K ?F ?N ?x ?XB ?TB ?D ?ex PyProof.Rows.Boot.«ValueError» ?n PySem.F.isExc_ValueError PySem.F.notTuple_ValueError ?s ?_ ?a ?b ?c ?d; (case K => assumption); (case F => assumption); (case N => assumption); (case x => assumption); (case XB => assumption); (case TB => assumption); (case D => assumption); (case ex => k_is); (case n => decide); (case s => (rw [isSubtype_type]; kernel_rfl)); (case a => rfl); (case b => rfl); (case c => rfl); (case d => decide); k_whole; intro h' g' T' eo' to' ws' tk' KT' F' N' B' X' P' D' ec' ed' e2' es')
  | (refine' own_caught0 (X := "KeyError") (T' := "KeyError") ?K ?F ?N ?x ?XB ?TB ?D ?ex PyProof.Rows.Boot.«KeyError» ?n kr_isExc_KeyError kr_notTuple_KeyError ?s ?_ ?a ?b ?c; (case K => assumption); (case F => assumption); (case N => assumption); (case x => assumption); (case XB => assumption); (case TB => assumption); (case D => assumption); (case ex => k_is); (case n => decide); (case s => (rw [isSubtype_type]; kernel_rfl)); (case a => rfl); (case b => rfl); (case c => decide); k_whole; intro h' g' T' eo' to' ws' KT' F' N' B' X' P' D' ec' ed' e2' es'))))
local macro_rules | `(tactic| walk_at "exec Raise some some") => `(tactic| (k_here; k_dflt (refine' raise_fromX (X := "ValueError") PySem.F.excCall_ValueError PySem.F.excRaise_ValueError PySem.F.excRaise_ValueError ?F ?X ?T ?ex PyProof.Rows.Boot.«ValueError» ?n ?hh ?hc ?hd ?h2 ?_ ?a ?b ?c ?d ?e; (case F => k_asm); (case X => k_asm); (case T => k_asm); (case ex => k_is); (case n => decide); (case hh => rfl); (case hc => assumption); (case hd => assumption); (case h2 => assumption); (case a => rfl); (case b => rfl); (case c => decide); (case d => rfl); (case e => rfl); k_whole)))
local macro_rules | `(tactic| walk_at "exec Raise some none") => `(tactic| (k_here; k_dflt (refine' raise_outX PySem.F.excCall_IndexError PySem.F.excRaise_IndexError ?F ?X ?T ?ex PyProof.Rows.Boot.«IndexError» ?n ?hh ?_ ?a ?b ?c ?d ?e; (case hh => rfl); (case F => k_asm); (case X => k_asm); (case T => k_asm); (case ex => k_is); (case n => decide); (case a => rfl); (case b => rfl); (case c => decide); (case d => rfl); (case e => rfl); k_whole)))
local macro_rules | `(tactic| walk_at "OutK") => `(tactic| (k_here; k_dflt (refine' outK ?l ?_; (case l => exact (show 1 ≤ sizeLine by decide)); k_whole); intro h' e' x'))
local macro_rules | `(tactic| walk_at "exec Raise some none") => `(tactic| (k_here; k_dflt (refine' raise_inX PySem.F.excCall_IndexError PySem.F.excRaise_IndexError ?F ?X ?T ?ex PyProof.Rows.Boot.«IndexError» ?n ?hh ?hd ?h2 ?_ ?a ?b ?c ?d ?e; (case hd => assumption); (case h2 => assumption); (case hh => rfl); (case F => k_asm); (case X => k_asm); (case T => k_asm); (case ex => k_is); (case n => decide); (case a => rfl); (case b => rfl); (case c => decide); (case d => rfl); (case e => rfl); k_whole)))
local macro_rules | `(tactic| walk_at "FromK") => `(tactic| (k_here; k_dflt (refine' fromK_end ?l ?K ?F ?N ?m ?n ?a ?b ?c ?d ?_; (case l => exact (show 1 ≤ sizeLine by decide)); (case K => assumption); (case F => k_asm); (case N => k_asm); (case m => k_mem); (case n => rfl); (case a => rfl); (case b => rfl); (case c => decide); (case d => rfl); k_whole); intro e' h' tk' R' U'))
local macro_rules | `(tactic| walk_at "InK") => `(tactic| (k_here; k_dflt (refine' inK_end ?l ?K ?F ?N ?m ?a ?d ?_; (case l => exact (show 1 ≤ sizeLine by decide)); (case K => assumption); (case F => k_asm); (case N => k_asm); (case m => k_mem); (case a => rfl); (case d => rfl); k_whole); intro e' h' R' U'))
local macro_rules | `(tactic| kfm_turns) => `(tactic| (refine KPc.turn ?_; kpc_if; kpc_check; refine wpAny_bind (field_zero (by rfl) (by rfl) ?_); refine wpAny_bind (wpAny_holding (wpAny_of_eq (a := _) rfl ?_)); kpc_if; refine wpAny_bind (wpAny_pure ?_); kfm_val; refine wpAny_bind (wpAny_of_eq (a := some _) rfl ?_); refine wpAny_pure ?_; refine KFm.after_field (by kpc_g) (by kpc_text) (by kpc_obj) (by kfm_len) (by kpc_obj) (by kfm_cat2) (by kfm_rest) ?_; intro _ _; kfm_turns))
local macro_rules | `(tactic| walk_at "leaving ref") => `(tactic| (k_here; k_dflt (refine' leaveX_ends ?K rfl ?x ?_; (case x => assumption); (case K => assumption); k_whole); intro h' R' U'))
local macro_rules | `(tactic| walk_at "leaving ref") => `(tactic| (k_here; k_dflt (refine' leaveX_made ?K ?F ?N rfl rfl ?x ?_; (case x => assumption); (case F => assumption); (case N => assumption); (case K => assumption); k_whole); intro h' R' U'))
local macro_rules | `(tactic| walk_at "getMethod ref") => `(tactic| (k_here; (with_reducible show wpAny _ _ (getMethod (Value.ref _) (PySem.Str.ofString "index") _) _ _ _); k_dflt (refine' topMethod_list ?F ?X ?l PySem.F.slot_list_index PySem.F.type_list_index ?_; (case F => k_asm); (case X => k_asm); (case l => k_is))))
local macro_rules | `(tactic| walk_at "call builtin:list.index") => `(tactic| (k_here; (with_reducible show wpAny _ _ (call (Value.builtin _) [Value.ref _, Value.str _ _]) _ _ _); k_dflt (first
  | (refine' topIndex_hit ?F ?X ?l ?t ?j ?s ?_; (case F => k_asm); (case X => k_asm); (case l => k_is); (case t => rfl); (case j => assumption); (case s => decide))
  | (refine' topIndex_none ?F ?X ?l ?t ?j ?s ?x ?A ?_; (case F => k_asm); (case X => k_asm); (case l => k_is); (case t => rfl); (case j => assumption); (case s => decide); (case x => assumption); (case A => rfl); intro h' tk' e' x'))))
theorem fm {a b : Int} (hb : 0 ≤ b) : a.fmod b = a % b := Int.fmod_eq_emod_of_nonneg a hb
theorem fd {a b : Int} (hb : 0 ≤ b) : a.fdiv b = a / b := Int.fdiv_eq_ediv_of_nonneg a hb
theorem haab_get : ∀ k : Nat, k < 19 → (["Pop", "Wo'", "Zip", "Sotz'", "Sek", "Xul", "Yaxk'in'", "Mol", "Ch'en", "Yax", "Sak'", "Keh", "Mak", "K'ank'in", "Muwan'", "Pax", "K'ayab", "Kumk'u", "Wayeb'"] : List Str).getD k Str.empty = haabN.getD k Str.empty := by decide +kernel
theorem tzol_get : ∀ k : Nat, k < 20 → (["Imix'", "Ik'", "Ak'b'al", "K'an", "Chikchan", "Kimi", "Manik'", "Lamat", "Muluk", "Ok", "Chuwen", "Eb'", "B'en", "Ix", "Men", "K'ib'", "Kab'an", "Etz'nab'", "Kawak", "Ajaw"] : List Str).getD k Str.empty = tzolN.getD k Str.empty := by decide +kernel
theorem to_haab_says (w : World) (mean : ExcName → Option Value) (mg mb : Str → Option Value) (n : Int) (t : Tok) (hlo : -2000 ≤ n) (hhi : n < 2000000000) :
    Says w mean mg mb 3 30 37 [.int (584283 + n) t] (fun h₀ L m news s _ Q _ =>
      ∀ D (k : Nat) c x t₁ t₂ kn h' tk', k < 19 → c = (n + 348) % 365 % 20 → (k : Int) = (n + 348) % 365 / 20 → x = haabN.getD k Str.empty → Fr h₀ L h' m → News h₀ L h' ((D, ({ cls := .type "tuple", data := .seq #[.int c t₁, .str x t₂] kn } : Obj)) :: news) → (∀ p ∈ news, p.1 < D) → Q (.ref D) { s with heap := h', toks := tk' }) := by
  unfold Says
  k_fill
  intro dp un gd cn cs a ccd cl outer A₀ base h₀ L m news s Q E B F X N T hk hd hu hret
  refine wpAny_call ?_
  k_dflt cell_enter
  k_steps
  all_goals
    (have e1 : (584283 + n - 584283 + 348).fmod 365 = (n + 348) % 365 := by rw [fm (by decide)]; congr 1; omega
     have e2 : ((584283 + n - 584283 + 348).fmod 365).fdiv 20 = (n + 348) % 365 / 20 := by rw [e1, fd (by decide)]
     have e3 : ((584283 + n - 584283 + 348).fmod 365).fmod 20 = (n + 348) % 365 % 20 := by rw [e1, fm (by decide)]
     exact hret _ (((584283 + n - 584283 + 348).fmod 365).fdiv 20).toNat _ _ _ _ _ _ _ (by rw [e2]; omega) e3 (by rw [e2]; omega) (haab_get _ (by rw [e2]; omega)) (by assumption) (by assumption) (by assumption))
theorem to_tzolkin_says (w : World) (mean : ExcName → Option Value) (mg mb : Str → Option Value) (n : Int) (t : Tok) (hlo : -2000 ≤ n) (hhi : n < 2000000000) :
    Says w mean mg mb 3 30 44 [.int (584283 + n) t] (fun h₀ L m news s _ Q _ =>
      ∀ D (k : Nat) c x t₁ t₂ kn h' tk', k < 20 → c = (n + 3) % 13 + 1 → (k : Int) = (n + 19) % 20 → x = tzolN.getD k Str.empty → Fr h₀ L h' m → News h₀ L h' ((D, ({ cls := .type "tuple", data := .seq #[.int c t₁, .str x t₂] kn } : Obj)) :: news) → (∀ p ∈ news, p.1 < D) → Q (.ref D) { s with heap := h', toks := tk' }) := by
  unfold Says
  k_fill
  intro dp un gd cn cs a ccd cl outer A₀ base h₀ L m news s Q E B F X N T hk hd hu hret
  refine wpAny_call ?_
  k_dflt cell_enter
  k_steps
  all_goals
    (have e1 : (584283 + n - 584283 + 4).fmod 13 = (n + 4) % 13 := by rw [fm (by decide)]; congr 1; omega
     have e2 : (584283 + n - 584283 + 20).fmod 20 = (n + 20) % 20 := by rw [fm (by decide)]; congr 1; omega
     have e3 : (if (584283 + n - 584283 + 4).fmod 13 = 0 then (13 : Int) else (584283 + n - 584283 + 4).fmod 13) = (n + 3) % 13 + 1 := by rw [e1]; split <;> omega
     have e4 : (if (584283 + n - 584283 + 20).fmod 20 = 0 then (20 : Int) else (584283 + n - 584283 + 20).fmod 20) - 1 = (n + 19) % 20 := by rw [e2]; split <;> omega
     exact hret _ ((if (584283 + n - 584283 + 20).fmod 20 = 0 then (20 : Int) else (584283 + n - 584283 + 20).fmod 20) - 1).toNat _ _ _ _ _ _ _ (by rw [e4]; omega) e3 (by rw [e4]; omega) (tzol_get _ (by rw [e4]; omega)) (by assumption) (by assumption) (by assumption))
end Mine
end
section
namespace Mine
open PySem PySem.W PyProof.Rows in
theorem fresh_W4 {M : Model} {A : Around} {E : Value → Shared → Prop} {env : Env} {Q : Flow → Shared → Prop} {s : Shared} (h : Q .next s) : wpAny M A (execs [] env) Q E s := by
  w_top off
  walk1
  exact h
end Mine
open PySem PySem.W PyProof.Rows
set_option maxRecDepth 100000
set_option maxHeartbeats 3200000
namespace Mine
local macro_rules | `(tactic| k_room) => `(tactic| ktr_room)
local macro_rules | `(tactic| k_units) => `(tactic| ktr_units)
local macro_rules | `(tactic| k_all) => `(tactic| (refine' List.forall_mem_append.mpr ⟨?a, ?b⟩; (case a => first | exact all_gt (by assumption) (by first | decide | omega) | exact all_ne (by assumption) (by omega)); (case b => k_all)))
local macro_rules | `(tactic| k_updF) => `(tactic| (refine' updF_app ?a ?b; (case a => first | exact all_gt (by assumption) (by first | decide | omega) | exact all_ne (by assumption) (by omega)); (case b => k_updF)))
local macro_rules | `(tactic| k_mem) => `(tactic| first | (refine' List.mem_append_right _ ?b; (case b => k_mem)) | exact List.mem_append_left _ (by assumption))
local macro_rules | `(tactic| walk_at "eval GeneratorExp") => `(tactic| (k_here; k_dflt (refine' gen_start ?hh rfl ?cl ?cell ?h0 ?hx rfl ?room ?_ ?hs; (case hh => rfl); (case cl => exact rfl); (case cell => decide); (case h0 => rfl); (case hx => rfl); (case room => ktr_room); (case hs => exact fun _ => rfl); k_whole)))
local macro_rules | `(tactic| walk_at "GenK") => `(tactic| (k_here; k_dflt (refine' genK_U ?hh ?F ?N ?T ?C ?U ?ht ?hb ?hr ?sm ?hn ?hcl ?mem ?hoc rfl rfl rfl ?xd ?yd ?yc ?_; (case hh => rfl); (case F => k_asm); (case N => k_asm); (case T => k_asm); (case C => exact CodeHd.keeps (by assumption) (Below.stays (by assumption))); (case U => k_updF); (case ht => assumption); (case hb => assumption); (case hr => assumption); (case sm => decide); (case hn => first | exact (show Builtin.Range.rangeSize _ _ _ = ((20 : Nat) : Int) by decide) | exact (show Builtin.Range.rangeSize _ _ _ = ((13 : Nat) : Int) by decide) | exact (show Builtin.Range.rangeSize _ _ _ = ((52 : Nat) : Int) by decide) | exact (show Builtin.Range.rangeSize _ _ _ = ((73 : Nat) : Int) by decide)); (case hcl => rfl); (case mem => k_mem); (case hoc => assumption); (case xd => decide); (case yd => decide); (case yc => decide); k_whole); intro gen' s' ps' ht' F' N' G' ho' hb'; (try dsimp only at N' G')))
local macro_rules | `(tactic| walk_at "call type:set") => `(tactic| (k_here; k_dflt (refine' setGen_U ?hh ?F ?N ?G ?hb ?hn ?_; (case hh => rfl); (case F => k_asm); (case N => k_asm); (case G => assumption); (case hb => assumption); (case hn => decide); k_whole); intro D' so' s' F' N' l1 hS' ho' hb'; (try k_lt l1)))
local macro_rules | `(tactic| walk_at "getMethod ref") => `(tactic| (k_here; k_dflt (first
  | (refine' methodV_N ?N ?m ?v ?b PySem.F.slot_set_intersection PySem.F.type_set_intersection ?_; (case N => k_asm); (case m => k_mem); (case v => assumption); (case b => decide))
  | (refine' methodK_N ?N ?m ?v PySem.F.slot_set_pop PySem.F.type_set_pop ?_; (case N => k_asm); (case m => k_mem); (case v => assumption)))))
local macro_rules | `(tactic| walk_at "call builtin:set.intersection") => `(tactic| (k_here; k_dflt (refine' inter_N ?F ?N ?ma ?mb ?ab ?sa ?sb ?na ?nb ?_; (case F => k_asm); (case N => k_asm); (case ma => k_mem); (case mb => k_mem); (case ab => k_ne); (case sa => assumption); (case sb => assumption); (case na => decide); (case nb => decide); k_whole); intro D' so' h' σ' F' N' l1 hK' hs'; (have l2 := l1); (try k_lt l1)))
local macro_rules | `(tactic| walk_at "call builtin:set.pop") => `(tactic| (k_here; k_dflt (refine' popOne_N ?F ?N ?l ?K ?ex ?_; (case F => k_asm); (case N => k_asm); (case l => assumption); (case K => assumption); (case ex => exact tz_meets (by assumption) (by assumption) (by assumption) (by assumption)); k_whole); intro h' d' t' k' F' N' hk'))
local macro_rules | `(tactic| walk_at "exec Try") => `(tactic| (k_here; (with_reducible show wpAny _ _ (exec (Stmt.Try _ (_ :: _) _ [] _) _) _ _ _); refine wpAny_Try_except ?_))
local macro_rules | `(tactic| walk_at "noteFrame ref") => `(tactic| (k_here; (rename Heap.NewExc _ _ _ _ => nx9); k_dflt (first
  | ((with_reducible show wpAny _ _ (noteFrame _ _) (fun _ s₂ => wpAny _ _ (setFlight _ none) (fun _ s₃ => wpAny _ _ (handleBy _ _ (ExceptHandler.ExceptHandler (some (Expr.Name _ _)) (some _) _ _ :: _)) _ _ s₃) _ s₂) _ _); refine' own_caughtB (X := "ValueError") (T' := "ValueError") ?K ?F ?N ?x ?XB ?TB ?D ?ex PyProof.Rows.Boot.«ValueError» ?n PySem.F.isExc_ValueError PySem.F.notTuple_ValueError ?s ?_ ?a ?b ?c ?d; (case K => assumption); (case F => assumption); (case N => assumption); (case x => assumption); (case XB => assumption); (case TB => assumption); (case D => assumption); (case ex => k_is); (case n => decide); (case s => (rw [isSubtype_type]; kernel_rfl)); (case a => rfl); (case b => rfl); (case c => rfl); (case d => decide); k_whole; intro h' g' T' eo' to' ws' tk' KT' F' N' B' X' P' D' ec' ed' e2' es')
  | (refine' own_caught0 (X := "KeyError") (T' := "KeyError") ?K ?F ?N ?x ?XB ?TB ?D ?ex PyProof.Rows.Boot.«KeyError» ?n kr_isExc_KeyError kr_notTuple_KeyError ?s ?_ ?a ?b ?c; (case K => assumption); (case F => assumption); (case N => assumption); (case x => assumption); (case XB => assumption); (case TB => assumption); (case D => assumption); (case ex => k_is); (case n => decide); (case s => (rw [isSubtype_type]; kernel_rfl)); (case a => rfl); (case b => rfl); (case c => decide); k_whole; intro h' g' T' eo' to' ws' KT' F' N' B' X' P' D' ec' ed' e2' es'))))
local macro_rules | `(tactic| walk_at "exec Raise some some") => `(tactic| (k_here; k_dflt (refine' raise_fromX (X := "ValueError") PySem.F.excCall_ValueError PySem.F.excRaise_ValueError PySem.F.excRaise_ValueError ?F ?X ?T ?ex PyProof.Rows.Boot.«ValueError» ?n ?hh ?hc ?hd ?h2 ?_ ?a ?b ?c ?d ?e; (case F => k_asm); (case X => k_asm); (case T => k_asm); (case ex => k_is); (case n => decide); (case hh => rfl); (case hc => assumption); (case hd => assumption); (case h2 => assumption); (case a => rfl); (case b => rfl); (case c => decide); (case d => rfl); (case e => rfl); k_whole)))
local macro_rules | `(tactic| walk_at "exec Raise some none") => `(tactic| (k_here; k_dflt (refine' raise_outX PySem.F.excCall_IndexError PySem.F.excRaise_IndexError ?F ?X ?T ?ex PyProof.Rows.Boot.«IndexError» ?n ?hh ?_ ?a ?b ?c ?d ?e; (case hh => rfl); (case F => k_asm); (case X => k_asm); (case T => k_asm); (case ex => k_is); (case n => decide); (case a => rfl); (case b => rfl); (case c => decide); (case d => rfl); (case e => rfl); k_whole)))
local macro_rules | `(tactic| walk_at "OutK") => `(tactic| (k_here; k_dflt (refine' outK ?l ?_; (case l => exact (show 1 ≤ sizeLine by decide)); k_whole); intro h' e' x'))
local macro_rules | `(tactic| walk_at "exec Raise some none") => `(tactic| (k_here; k_dflt (refine' raise_inX PySem.F.excCall_IndexError PySem.F.excRaise_IndexError ?F ?X ?T ?ex PyProof.Rows.Boot.«IndexError» ?n ?hh ?hd ?h2 ?_ ?a ?b ?c ?d ?e; (case hd => assumption); (case h2 => assumption); (case hh => rfl); (case F => k_asm); (case X => k_asm); (case T => k_asm); (case ex => k_is); (case n => decide); (case a => rfl); (case b => rfl); (case c => decide); (case d => rfl); (case e => rfl); k_whole)))
local macro_rules | `(tactic| walk_at "FromK") => `(tactic| (k_here; k_dflt (refine' fromK_end ?l ?K ?F ?N ?m ?n ?a ?b ?c ?d ?_; (case l => exact (show 1 ≤ sizeLine by decide)); (case K => assumption); (case F => k_asm); (case N => k_asm); (case m => k_mem); (case n => rfl); (case a => rfl); (case b => rfl); (case c => decide); (case d => rfl); k_whole); intro e' h' tk' R' U'))
local macro_rules | `(tactic| walk_at "InK") => `(tactic| (k_here; k_dflt (refine' inK_end ?l ?K ?F ?N ?m ?a ?d ?_; (case l => exact (show 1 ≤ sizeLine by decide)); (case K => assumption); (case F => k_asm); (case N => k_asm); (case m => k_mem); (case a => rfl); (case d => rfl); k_whole); intro e' h' R' U'))
local macro_rules | `(tactic| kfm_turns) => `(tactic| (refine KPc.turn ?_; kpc_if; kpc_check; refine wpAny_bind (field_zero (by rfl) (by rfl) ?_); refine wpAny_bind (wpAny_holding (wpAny_of_eq (a := _) rfl ?_)); kpc_if; refine wpAny_bind (wpAny_pure ?_); kfm_val; refine wpAny_bind (wpAny_of_eq (a := some _) rfl ?_); refine wpAny_pure ?_; refine KFm.after_field (by kpc_g) (by kpc_text) (by kpc_obj) (by kfm_len) (by kpc_obj) (by kfm_cat2) (by kfm_rest) ?_; intro _ _; kfm_turns))
local macro_rules | `(tactic| walk_at "leaving ref") => `(tactic| (k_here; k_dflt (refine' leaveX_ends ?K rfl ?x ?_; (case x => assumption); (case K => assumption); k_whole); intro h' R' U'))
local macro_rules | `(tactic| walk_at "leaving ref") => `(tactic| (k_here; k_dflt (refine' leaveX_made ?K ?F ?N rfl rfl ?x ?_; (case x => assumption); (case F => assumption); (case N => assumption); (case K => assumption); k_whole); intro h' R' U'))
local macro_rules | `(tactic| walk_at "getMethod ref") => `(tactic| (k_here; (with_reducible show wpAny _ _ (getMethod (Value.ref _) (PySem.Str.ofString "index") _) _ _ _); k_dflt (refine' topMethod_list ?F ?X ?l PySem.F.slot_list_index PySem.F.type_list_index ?_; (case F => k_asm); (case X => k_asm); (case l => k_is))))
local macro_rules | `(tactic| walk_at "call builtin:list.index") => `(tactic| (k_here; (with_reducible show wpAny _ _ (call (Value.builtin _) [Value.ref _, Value.str _ _]) _ _ _); k_dflt (first
  | (refine' topIndex_hit ?F ?X ?l ?t ?j ?s ?_; (case F => k_asm); (case X => k_asm); (case l => k_is); (case t => rfl); (case j => assumption); (case s => decide))
  | (refine' topIndex_none ?F ?X ?l ?t ?j ?s ?x ?A ?_; (case F => k_asm); (case X => k_asm); (case l => k_is); (case t => rfl); (case j => assumption); (case s => decide); (case x => assumption); (case A => rfl); intro h' tk' e' x'))))
theorem hc_good (w : World) (mean : ExcName → Option Value) (mg mb : Str → Option Value) (d : Int) (t : Tok) (k : Nat) (x : Str) (t' : Tok) (hx : haabV.findIdx? (isTxt x) = some k) (hlo : 0 ≤ d) (hhi : d ≤ 19) (hk : k < 19) :
    SaysR w mean mg mb 3 30 51 [.int d t, .str x t'] (fun h₀ L m news s _ _ Q _ =>
      ∀ u h' tk', Fr h₀ L h' m → News h₀ L h' news → Q (.int ((if 360 < (k : Int) * 20 then 360 else (k : Int) * 20) + d) u) { s with heap := h', toks := tk' }) := by
  unfold SaysR
  k_fill
  intro dp un gd cn cs a ccd cl outer A₀ base h₀ L m news s Q E B F X N T hkd hdp hu XB TB KD hret
  refine wpAny_call ?_
  k_dflt cell_enter
  k_steps
  all_goals exact hret _ _ _ (by assumption) (by assumption)
theorem hc_day (w : World) (mean : ExcName → Option Value) (mg mb : Str → Option Value) (d : Int) (t : Tok) (x : Str) (t' : Tok) (hd : d < 0 ∨ 19 < d) :
    SaysR w mean mg mb 3 30 51 [.int d t, .str x t'] (fun h₀ L m news s l base _ E =>
      ∀ e h' tk', Ends base h₀ L m l e "IndexError" news h' → E (.ref e) { s with heap := h', toks := tk' }) := by
  unfold SaysR
  k_fill
  intro dp un gd cn cs a ccd cl outer A₀ base h₀ L m news s Q E B F X N T hkd hdp hu XB TB KD hret
  refine wpAny_call ?_
  k_dflt cell_enter
  rename Fr h₀ L _ m => FG
  have KD' := dicts_push (env := envX cn cs L a ccd cl) FG KD rfl
  rcases hd with hd | hd <;> k_steps
  all_goals exact hret _ _ _ (ends_N FG (by assumption) (by assumption) (fun _ h => h))
theorem hc_name (w : World) (mean : ExcName → Option Value) (mg mb : Str → Option Value) (d : Int) (t : Tok) (t' : Tok) (hlo : 0 ≤ d) (hhi : d ≤ 19) :
    SaysR w mean mg mb 3 30 51 [.int d t, .str "Ajaw" t'] (fun h₀ L m news s l base _ E =>
      ∀ e h' tk', Ends base h₀ L m l e "ValueError" news h' → E (.ref e) { s with heap := h', toks := tk' }) := by
  unfold SaysR
  k_fill
  intro dp un gd cn cs a ccd cl outer A₀ base h₀ L m news s Q E B F X N T hkd hdp hu XB TB KD hret
  refine wpAny_call ?_
  k_dflt cell_enter
  rename Fr h₀ L _ m => FG
  have KD' := dicts_push (env := envX cn cs L a ccd cl) FG KD rfl
  have hx := haab_miss
  have hf := fits_Ajaw
  k_steps
  all_goals exact hret _ _ _ (ends_turn FG (by assumption) (by assumption) (by assumption) (fun q hq => .tail _ (.tail _ hq)))
end Mine
end
section
namespace Mine
open PySem PySem.W PyProof.Rows in
theorem fresh_W3 {M : Model} {A : Around} {E : Value → Shared → Prop} {env : Env} {Q : Flow → Shared → Prop} {s : Shared} (h : Q .next s) : wpAny M A (execs [] env) Q E s := by
  w_top off
  walk1
  exact h
end Mine
open PySem PySem.W PyProof.Rows
set_option maxRecDepth 100000
set_option maxHeartbeats 3200000
namespace Mine
local macro_rules | `(tactic| k_room) => `(tactic| ktr_room)
local macro_rules | `(tactic| k_units) => `(tactic| ktr_units)
local macro_rules | `(tactic| k_all) => `(tactic| (refine' List.forall_mem_append.mpr ⟨?a, ?b⟩; (case a => first | exact all_gt (by assumption) (by first | decide | omega) | exact all_ne (by assumption) (by omega)); (case b => k_all)))
local macro_rules | `(tactic| k_updF) => `(tactic| (refine' updF_app ?a ?b; (case a => first | exact all_gt (by assumption) (by first | decide | omega) | exact all_ne (by assumption) (by omega)); (case b => k_updF)))
local macro_rules | `(tactic| k_mem) => `(tactic| first | (refine' List.mem_append_right _ ?b; (case b => k_mem)) | exact List.mem_append_left _ (by assumption))
local macro_rules | `(tactic| walk_at "eval GeneratorExp") => `(tactic| (k_here; k_dflt (refine' gen_start ?hh rfl ?cl ?cell ?h0 ?hx rfl ?room ?_ ?hs; (case hh => rfl); (case cl => exact rfl); (case cell => decide); (case h0 => rfl); (case hx => rfl); (case room => ktr_room); (case hs => exact fun _ => rfl); k_whole)))
local macro_rules | `(tactic| walk_at "GenK") => `(tactic| (k_here; k_dflt (refine' genK_U ?hh ?F ?N ?T ?C ?U ?ht ?hb ?hr ?sm ?hn ?hcl ?mem ?hoc rfl rfl rfl ?xd ?yd ?yc ?_; (case hh => rfl); (case F => k_asm); (case N => k_asm); (case T => k_asm); (case C => exact CodeHd.keeps (by assumption) (Below.stays (by assumption))); (case U => k_updF); (case ht => assumption); (case hb => assumption); (case hr => assumption); (case sm => decide); (case hn => first | exact (show Builtin.Range.rangeSize _ _ _ = ((20 : Nat) : Int) by decide) | exact (show Builtin.Range.rangeSize _ _ _ = ((13 : Nat) : Int) by decide) | exact (show Builtin.Range.rangeSize _ _ _ = ((52 : Nat) : Int) by decide) | exact (show Builtin.Range.rangeSize _ _ _ = ((73 : Nat) : Int) by decide)); (case hcl => rfl); (case mem => k_mem); (case hoc => assumption); (case xd => decide); (case yd => decide); (case yc => decide); k_whole); intro gen' s' ps' ht' F' N' G' ho' hb'; (try dsimp only at N' G')))
local macro_rules | `(tactic| walk_at "call type:set") => `(tactic| (k_here; k_dflt (refine' setGen_U ?hh ?F ?N ?G ?hb ?hn ?_; (case hh => rfl); (case F => k_asm); (case N => k_asm); (case G => assumption); (case hb => assumption); (case hn => decide); k_whole); intro D' so' s' F' N' l1 hS' ho' hb'; (try k_lt l1)))
local macro_rules | `(tactic| walk_at "getMethod ref") => `(tactic| (k_here; k_dflt (first
  | (refine' methodV_N ?N ?m ?v ?b PySem.F.slot_set_intersection PySem.F.type_set_intersection ?_; (case N => k_asm); (case m => k_mem); (case v => assumption); (case b => decide))
  | (refine' methodK_N ?N ?m ?v PySem.F.slot_set_pop PySem.F.type_set_pop ?_; (case N => k_asm); (case m => k_mem); (case v => assumption)))))
local macro_rules | `(tactic| walk_at "call builtin:set.intersection") => `(tactic| (k_here; k_dflt (refine' inter_N ?F ?N ?ma ?mb ?ab ?sa ?sb ?na ?nb ?_; (case F => k_asm); (case N => k_asm); (case ma => k_mem); (case mb => k_mem); (case ab => k_ne); (case sa => assumption); (case sb => assumption); (case na => decide); (case nb => decide); k_whole); intro D' so' h' σ' F' N' l1 hK' hs'; (have l2 := l1); (try k_lt l1)))
local macro_rules | `(tactic| walk_at "call builtin:set.pop") => `(tactic| (k_here; k_dflt (refine' popOne_N ?F ?N ?l ?K ?ex ?_; (case F => k_asm); (case N => k_asm); (case l => assumption); (case K => assumption); (case ex => exact tz_meets (by assumption) (by assumption) (by assumption) (by assumption)); k_whole); intro h' d' t' k' F' N' hk'))
local macro_rules | `(tactic| walk_at "exec Try") => `(tactic| (k_here; (with_reducible show wpAny _ _ (exec (Stmt.Try _ (_ :: _) _ [] _) _) _ _ _); refine wpAny_Try_except ?_))
local macro_rules | `(tactic| walk_at "noteFrame ref") => `(tactic| (k_here; (rename Heap.NewExc _ _ _ _ => nx9); k_dflt (first
  | ((with_reducible show wpAny _ _ (noteFrame _ _) (fun _ s₂ => wpAny _ _ (setFlight _ none) (fun _ s₃ => wpAny _ _ (handleBy _ _ (ExceptHandler.ExceptHandler (some (Expr.Name _ _)) (some _) _ _ :: _)) _ _ s₃) _ s₂) _ _); refine' own_caughtB (X := "ValueError") (T' := "ValueError") ?K ?F ?N ?x ?XB ?TB ?D ?ex PyProof.Rows.Boot.«ValueError» ?n PySem.F.isExc_ValueError PySem.F.notTuple_ValueError ?s ?_ ?a ?b ?c ?d; (case K => assumption); (case F => assumption); (case N => assumption); (case x => assumption); (case XB => assumption); (case TB => assumption); (case D => assumption); (case ex => k_is); (case n => decide); (case s => (rw [isSubtype_type]; kernel_rfl)); (case a => rfl); (case b => rfl); (case c => rfl); (case d => decide); k_whole; intro h' g' T' eo' to' ws' tk' KT' F' N' B' X' P' D' ec' ed' e2' es')
  | (refine' own_caught0 (X := "KeyError") (T' := "KeyError") ?K ?F ?N ?x ?XB ?TB ?D ?ex PyProof.Rows.Boot.«KeyError» ?n kr_isExc_KeyError kr_notTuple_KeyError ?s ?_ ?a ?b ?c; (case K => assumption); (case F => assumption); (case N => assumption); (case x => assumption); (case XB => assumption); (case TB => assumption); (case D => assumption); (case ex => k_is); (case n => decide); (case s => (rw [isSubtype_type]; kernel_rfl)); (case a => rfl); (case b => rfl); (case c => decide); k_whole; intro h' g' T' eo' to' ws' KT' F' N' B' X' P' D' ec' ed' e2' es'))))
local macro_rules | `(tactic| walk_at "exec Raise some some") => `(tactic| (k_here; k_dflt (refine' raise_fromX (X := "ValueError") PySem.F.excCall_ValueError PySem.F.excRaise_ValueError PySem.F.excRaise_ValueError ?F ?X ?T ?ex PyProof.Rows.Boot.«ValueError» ?n ?hh ?hc ?hd ?h2 ?_ ?a ?b ?c ?d ?e; (case F => k_asm); (case X => k_asm); (case T => k_asm); (case ex => k_is); (case n => decide); (case hh => rfl); (case hc => assumption); (case hd => assumption); (case h2 => assumption); (case a => rfl); (case b => rfl); (case c => decide); (case d => rfl); (case e => rfl); k_whole)))
local macro_rules | `(tactic| walk_at "exec Raise some none") => `(tactic| (k_here; k_dflt (refine' raise_outX PySem.F.excCall_IndexError PySem.F.excRaise_IndexError ?F ?X ?T ?ex PyProof.Rows.Boot.«IndexError» ?n ?hh ?_ ?a ?b ?c ?d ?e; (case hh => rfl); (case F => k_asm); (case X => k_asm); (case T => k_asm); (case ex => k_is); (case n => decide); (case a => rfl); (case b => rfl); (case c => decide); (case d => rfl); (case e => rfl); k_whole)))
local macro_rules | `(tactic| walk_at "OutK") => `(tactic| (k_here; k_dflt (refine' outK ?l ?_; (case l => exact (show 1 ≤ sizeLine by decide)); k_whole); intro h' e' x'))
local macro_rules | `(tactic| walk_at "exec Raise some none") => `(tactic| (k_here; k_dflt (refine' raise_inX PySem.F.excCall_IndexError PySem.F.excRaise_IndexError ?F ?X ?T ?ex PyProof.Rows.Boot.«IndexError» ?n ?hh ?hd ?h2 ?_ ?a ?b ?c ?d ?e; (case hd => assumption); (case h2 => assumption); (case hh => rfl); (case F => k_asm); (case X => k_asm); (case T => k_asm); (case ex => k_is); (case n => decide); (case a => rfl); (case b => rfl); (case c => decide); (case d => rfl); (case e => rfl); k_whole)))
local macro_rules | `(tactic| walk_at "FromK") => `(tactic| (k_here; k_dflt (refine' fromK_end ?l ?K ?F ?N ?m ?n ?a ?b ?c ?d ?_; (case l => exact (show 1 ≤ sizeLine by decide)); (case K => assumption); (case F => k_asm); (case N => k_asm); (case m => k_mem); (case n => rfl); (case a => rfl); (case b => rfl); (case c => decide); (case d => rfl); k_whole); intro e' h' tk' R' U'))
local macro_rules | `(tactic| walk_at "InK") => `(tactic| (k_here; k_dflt (refine' inK_end ?l ?K ?F ?N ?m ?a ?d ?_; (case l => exact (show 1 ≤ sizeLine by decide)); (case K => assumption); (case F => k_asm); (case N => k_asm); (case m => k_mem); (case a => rfl); (case d => rfl); k_whole); intro e' h' R' U'))
local macro_rules | `(tactic| kfm_turns) => `(tactic| (refine KPc.turn ?_; kpc_if; kpc_check; refine wpAny_bind (field_zero (by rfl) (by rfl) ?_); refine wpAny_bind (wpAny_holding (wpAny_of_eq (a := _) rfl ?_)); kpc_if; refine wpAny_bind (wpAny_pure ?_); kfm_val; refine wpAny_bind (wpAny_of_eq (a := some _) rfl ?_); refine wpAny_pure ?_; refine KFm.after_field (by kpc_g) (by kpc_text) (by kpc_obj) (by kfm_len) (by kpc_obj) (by kfm_cat2) (by kfm_rest) ?_; intro _ _; kfm_turns))
local macro_rules | `(tactic| walk_at "leaving ref") => `(tactic| (k_here; k_dflt (refine' leaveX_ends ?K rfl ?x ?_; (case x => assumption); (case K => assumption); k_whole); intro h' R' U'))
local macro_rules | `(tactic| walk_at "leaving ref") => `(tactic| (k_here; k_dflt (refine' leaveX_made ?K ?F ?N rfl rfl ?x ?_; (case x => assumption); (case F => assumption); (case N => assumption); (case K => assumption); k_whole); intro h' R' U'))
local macro_rules | `(tactic| walk_at "getMethod ref") => `(tactic| (k_here; (with_reducible show wpAny _ _ (getMethod (Value.ref _) (PySem.Str.ofString "index") _) _ _ _); k_dflt (refine' topMethod_list ?F ?X ?l PySem.F.slot_list_index PySem.F.type_list_index ?_; (case F => k_asm); (case X => k_asm); (case l => k_is))))
local macro_rules | `(tactic| walk_at "call builtin:list.index") => `(tactic| (k_here; (with_reducible show wpAny _ _ (call (Value.builtin _) [Value.ref _, Value.str _ _]) _ _ _); k_dflt (first
  | (refine' topIndex_hit ?F ?X ?l ?t ?j ?s ?_; (case F => k_asm); (case X => k_asm); (case l => k_is); (case t => rfl); (case j => assumption); (case s => decide))
  | (refine' topIndex_none ?F ?X ?l ?t ?j ?s ?x ?A ?_; (case F => k_asm); (case X => k_asm); (case l => k_is); (case t => rfl); (case j => assumption); (case s => decide); (case x => assumption); (case A => rfl); intro h' tk' e' x'))))
theorem tz_good (w : World) (mean : ExcName → Option Value) (mg mb : Str → Option Value) (d : Int) (t : Tok) (k : Nat) (x : Str) (t' : Tok) (hx : tzolV.findIdx? (isTxt x) = some k) (hlo : 1 ≤ d) (hhi : d ≤ 13) (hk : k < 20) :
    SaysT w mean mg mb 4 60 58 [.int d t, .str x t'] (fun h₀ L m pre s _ _ Q _ =>
      ∀ y u s' ps' qs', Fr h₀ L s'.heap m → News h₀ L s'.heap (pre ++ tl ps' qs') → TriplesOk ps'.toList → TriplesOk qs'.toList → AllBare s'.gens → s'.os = s.os → (∃ i : Nat, i < 20 ∧ 0 + (i : Int) * 13 + d = y) → (∃ i : Nat, i < 13 ∧ 0 + (i : Int) * 20 + (1 + (k : Int)) = y) → Q (.int y u) s') := by
  unfold SaysT
  k_fill
  intro dp un gd cn cs a ccd cl outer A₀ base h₀ L m news pre ps qs s Q E B F X N T hkd hd hu XB TB C57 C78 KD hT hpre ht1 ht2 hbare hret
  obtain rfl := hT.eq
  refine wpAny_call ?_
  k_dflt (refine' code_defC ?k1 ?k2 ?k3 ?k4 ?k5 ?kA ?kF ?kK ?k6 ?k7 ?k8 ?k9 ?kB ?kD ?_ ?c2 ?c3 ?c4; (case kA => exact rfl); (case kF => exact rfl); (case kK => assumption); (case k1 => k_asm); (case k2 => k_asm); (case k3 => k_asm); (case k4 => k_asm); (case k5 => k_asm); (case k6 => k_is); (case k7 => k_is); (case k8 => ktr_room); (case k9 => exact BindsTo.of_eq rfl); (case kB => exact rfl); (case kD => decide +kernel); (case c2 => exact rfl); (case c3 => exact rfl); (case c4 => exact rfl); k_whole; intro g' L' h' tk' cells' FG' F' N' Y' B' X' T' l1; k_cells Y'; (try simp only [List.cons_append, List.nil_append] at N'); (try dsimp only); (try k_lift B'); (try k_fold))
  rename (∀ p ∈ pre ++ tl ps qs, p.1 < _) => l1
  have lpre := fun p h => l1 p (List.mem_append_left _ h)
  have l53 := ltN (l1 (53, tabObj ps) (List.mem_append_right _ (.head _)))
  have l74 := ltN (l1 (74, tabObj qs) (List.mem_append_right _ (.tail _ (.head _))))
  dsimp only at l53 l74
  k_steps
  all_goals (rename (∀ x, x ∈ _ ↔ _) => hs; rename (_ ∈ _) => hk9; have hs9 := (hs _).mp hk9)
  all_goals (rename News h₀ L _ _ => kN; refine hret _ _ _ _ _ (by assumption) (fun q hq => kN q (.tail _ (.tail _ (.tail _ (.tail _ hq))))) (by assumption) (by assumption) (by assumption) ?_ hs9.1 hs9.2)
  all_goals (repeat (first | rfl | refine Eq.trans (by assumption) ?_))
theorem tz_day (w : World) (mean : ExcName → Option Value) (mg mb : Str → Option Value) (d : Int) (t : Tok) (x : Str) (t' : Tok) (hd : d < 1 ∨ 13 < d) :
    SaysT w mean mg mb 4 60 58 [.int d t, .str x t'] (fun h₀ L m pre s l base _ E =>
      ∀ e s' ps' qs', Ends base h₀ L m l e "IndexError" (pre ++ tl ps' qs') s'.heap → TriplesOk ps'.toList → TriplesOk qs'.toList → AllBare s'.gens → s'.os = s.os → E (.ref e) s') := by
  unfold SaysT
  k_fill
  intro dp un gd cn cs a ccd cl outer A₀ base h₀ L m news pre ps qs s Q E B F X N T hkd hdp hu XB TB C57 C78 KD hT hpre ht1 ht2 hbare hret
  obtain rfl := hT.eq
  refine wpAny_call ?_
  k_dflt (refine' code_defC ?k1 ?k2 ?k3 ?k4 ?k5 ?kA ?kF ?kK ?k6 ?k7 ?k8 ?k9 ?kB ?kD ?_ ?c2 ?c3 ?c4; (case kA => exact rfl); (case kF => exact rfl); (case kK => assumption); (case k1 => k_asm); (case k2 => k_asm); (case k3 => k_asm); (case k4 => k_asm); (case k5 => k_asm); (case k6 => k_is); (case k7 => k_is); (case k8 => ktr_room); (case k9 => exact BindsTo.of_eq rfl); (case kB => exact rfl); (case kD => decide +kernel); (case c2 => exact rfl); (case c3 => exact rfl); (case c4 => exact rfl); k_whole; intro g' L' h' tk' cells' FG' F' N' Y' B' X' T' l1; k_cells Y'; (try simp only [List.cons_append, List.nil_append] at N'); (try dsimp only); (try k_lift B'); (try k_fold))
  rename Fr h₀ L _ m => FG
  have KD' := dicts_push (env := envX cn cs L a ccd cl) FG KD rfl
  rcases hd with hd | hd <;> k_steps
  all_goals exact hret _ _ _ _ (ends_N FG (by assumption) (by assumption) (fun q hq => .tail _ (.tail _ hq))) (by assumption) (by assumption) hbare rfl
theorem tz_name (w : World) (mean : ExcName → Option Value) (mg mb : Str → Option Value) (d : Int) (t : Tok) (t' : Tok) (hlo : 1 ≤ d) (hhi : d ≤ 13) :
    SaysT w mean mg mb 4 60 58 [.int d t, .str "Pop" t'] (fun h₀ L m pre s l base _ E =>
      ∀ e s' ps' qs', Ends base h₀ L m l e "ValueError" (pre ++ tl ps' qs') s'.heap → TriplesOk ps'.toList → TriplesOk qs'.toList → AllBare s'.gens → s'.os = s.os → E (.ref e) s') := by
  unfold SaysT
  k_fill
  intro dp un gd cn cs a ccd cl outer A₀ base h₀ L m news pre ps qs s Q E B F X N T hkd hdp hu XB TB C57 C78 KD hT hpre ht1 ht2 hbare hret
  obtain rfl := hT.eq
  refine wpAny_call ?_
  k_dflt (refine' code_defC ?k1 ?k2 ?k3 ?k4 ?k5 ?kA ?kF ?kK ?k6 ?k7 ?k8 ?k9 ?kB ?kD ?_ ?c2 ?c3 ?c4; (case kA => exact rfl); (case kF => exact rfl); (case kK => assumption); (case k1 => k_asm); (case k2 => k_asm); (case k3 => k_asm); (case k4 => k_asm); (case k5 => k_asm); (case k6 => k_is); (case k7 => k_is); (case k8 => ktr_room); (case k9 => exact BindsTo.of_eq rfl); (case kB => exact rfl); (case kD => decide +kernel); (case c2 => exact rfl); (case c3 => exact rfl); (case c4 => exact rfl); k_whole; intro g' L' h' tk' cells' FG' F' N' Y' B' X' T' l1; k_cells Y'; (try simp only [List.cons_append, List.nil_append] at N'); (try dsimp only); (try k_lift B'); (try k_fold))
  rename Fr h₀ L _ m => FG
  have KD' := dicts_push (env := envX cn cs L a ccd cl) FG KD rfl
  rename (∀ p ∈ pre ++ tl ps qs, p.1 < _) => l1
  have lpre := fun p h => l1 p (List.mem_append_left _ h)
  have l53 := ltN (l1 (53, tabObj ps) (List.mem_append_right _ (.head _)))
  have l74 := ltN (l1 (74, tabObj qs) (List.mem_append_right _ (.tail _ (.head _))))
  dsimp only at l53 l74
  have hx := tzol_miss
  have hf := fits_Pop
  k_steps
  all_goals (refine hret _ _ _ _ (ends_turn FG (by assumption) (by assumption) (by assumption) (fun q hq => .tail _ (.tail _ (.tail _ (.tail _ (.tail _ hq)))))) (by assumption) (by assumption) (by assumption) ?_)
  all_goals (repeat (first | rfl | refine Eq.trans (by assumption) ?_))
end Mine
end
section
namespace Mine
open PySem PySem.W PyProof.Rows in
theorem fresh_WN {M : Model} {A : Around} {E : Value → Shared → Prop} {env : Env} {Q : Flow → Shared → Prop} {s : Shared} (h : Q .next s) : wpAny M A (execs [] env) Q E s := by
  w_top off
  walk1
  exact h
end Mine
open PySem PySem.W PyProof.Rows
set_option maxRecDepth 100000
set_option maxHeartbeats 3200000
namespace Mine
local macro_rules | `(tactic| k_room) => `(tactic| ktr_room)
local macro_rules | `(tactic| k_units) => `(tactic| ktr_units)
local macro_rules | `(tactic| k_all) => `(tactic| (refine' List.forall_mem_append.mpr ⟨?a, ?b⟩; (case a => first | exact all_gt (by assumption) (by first | decide | omega) | exact all_ne (by assumption) (by omega)); (case b => k_all)))
local macro_rules | `(tactic| k_updF) => `(tactic| (refine' updF_app ?a ?b; (case a => first | exact all_gt (by assumption) (by first | decide | omega) | exact all_ne (by assumption) (by omega)); (case b => k_updF)))
local macro_rules | `(tactic| k_mem) => `(tactic| first | (refine' List.mem_append_right _ ?b; (case b => k_mem)) | exact List.mem_append_left _ (by assumption))
local macro_rules | `(tactic| walk_at "eval GeneratorExp") => `(tactic| (k_here; k_dflt (refine' gen_start ?hh rfl ?cl ?cell ?h0 ?hx rfl ?room ?_ ?hs; (case hh => rfl); (case cl => exact rfl); (case cell => decide); (case h0 => rfl); (case hx => rfl); (case room => ktr_room); (case hs => exact fun _ => rfl); k_whole)))
local macro_rules | `(tactic| walk_at "GenK") => `(tactic| (k_here; k_dflt (refine' genK_U ?hh ?F ?N ?T ?C ?U ?ht ?hb ?hr ?sm ?hn ?hcl ?mem ?hoc rfl rfl rfl ?xd ?yd ?yc ?_; (case hh => rfl); (case F => k_asm); (case N => k_asm); (case T => k_asm); (case C => exact CodeHd.keeps (by assumption) (Below.stays (by assumption))); (case U => k_updF); (case ht => assumption); (case hb => assumption); (case hr => assumption); (case sm => decide); (case hn => first | exact (show Builtin.Range.rangeSize _ _ _ = ((20 : Nat) : Int) by decide) | exact (show Builtin.Range.rangeSize _ _ _ = ((13 : Nat) : Int) by decide) | exact (show Builtin.Range.rangeSize _ _ _ = ((52 : Nat) : Int) by decide) | exact (show Builtin.Range.rangeSize _ _ _ = ((73 : Nat) : Int) by decide)); (case hcl => rfl); (case mem => k_mem); (case hoc => assumption); (case xd => decide); (case yd => decide); (case yc => decide); k_whole); intro gen' s' ps' ht' F' N' G' ho' hb'; (try dsimp only at N' G')))
local macro_rules | `(tactic| walk_at "call type:set") => `(tactic| (k_here; k_dflt (refine' setGen_U ?hh ?F ?N ?G ?hb ?hn ?_; (case hh => rfl); (case F => k_asm); (case N => k_asm); (case G => assumption); (case hb => assumption); (case hn => decide); k_whole); intro D' so' s' F' N' l1 hS' ho' hb'; (try k_lt l1)))
local macro_rules | `(tactic| walk_at "getMethod ref") => `(tactic| (k_here; k_dflt (first
  | (refine' methodV_N ?N ?m ?v ?b PySem.F.slot_set_intersection PySem.F.type_set_intersection ?_; (case N => k_asm); (case m => k_mem); (case v => assumption); (case b => decide))
  | (refine' methodK_N ?N ?m ?v PySem.F.slot_set_pop PySem.F.type_set_pop ?_; (case N => k_asm); (case m => k_mem); (case v => assumption)))))
local macro_rules | `(tactic| walk_at "call builtin:set.intersection") => `(tactic| (k_here; k_dflt (refine' inter_N ?F ?N ?ma ?mb ?ab ?sa ?sb ?na ?nb ?_; (case F => k_asm); (case N => k_asm); (case ma => k_mem); (case mb => k_mem); (case ab => k_ne); (case sa => assumption); (case sb => assumption); (case na => decide); (case nb => decide); k_whole); intro D' so' h' σ' F' N' l1 hK' hs'; (have l2 := l1); (try k_lt l1)))
local macro_rules | `(tactic| walk_at "call builtin:set.pop") => `(tactic| (k_here; k_dflt (refine' popOne_N ?F ?N ?l ?K ?ex ?_; (case F => k_asm); (case N => k_asm); (case l => assumption); (case K => assumption); (case ex => exact tz_meets (by assumption) (by assumption) (by assumption) (by assumption)); k_whole); intro h' d' t' k' F' N' hk'))
local macro_rules | `(tactic| walk_at "exec Try") => `(tactic| (k_here; (with_reducible show wpAny _ _ (exec (Stmt.Try _ (_ :: _) _ [] _) _) _ _ _); refine wpAny_Try_except ?_))
local macro_rules | `(tactic| walk_at "noteFrame ref") => `(tactic| (k_here; (rename Heap.NewExc _ _ _ _ => nx9); k_dflt (first
  | ((with_reducible show wpAny _ _ (noteFrame _ _) (fun _ s₂ => wpAny _ _ (setFlight _ none) (fun _ s₃ => wpAny _ _ (handleBy _ _ (ExceptHandler.ExceptHandler (some (Expr.Name _ _)) (some _) _ _ :: _)) _ _ s₃) _ s₂) _ _); refine' own_caughtB (X := "ValueError") (T' := "ValueError") ?K ?F ?N ?x ?XB ?TB ?D ?ex PyProof.Rows.Boot.«ValueError» ?n PySem.F.isExc_ValueError PySem.F.notTuple_ValueError ?s ?_ ?a ?b ?c ?d; (case K => assumption); (case F => assumption); (case N => assumption); (case x => assumption); (case XB => assumption); (case TB => assumption); (case D => assumption); (case ex => k_is); (case n => decide); (case s => (rw [isSubtype_type]; kernel_rfl)); (case a => rfl); (case b => rfl); (case c => rfl); (case d => decide); k_whole; intro h' g' T' eo' to' ws' tk' KT' F' N' B' X' P' D' ec' ed' e2' es')
  | (refine' own_caught0 (X := "KeyError") (T' := "KeyError") ?K ?F ?N ?x ?XB ?TB ?D ?ex PyProof.Rows.Boot.«KeyError» ?n kr_isExc_KeyError kr_notTuple_KeyError ?s ?_ ?a ?b ?c; (case K => assumption); (case F => assumption); (case N => assumption); (case x => assumption); (case XB => assumption); (case TB => assumption); (case D => assumption); (case ex => k_is); (case n => decide); (case s => (rw [isSubtype_type]; kernel_rfl)); (case a => rfl); (case b => rfl); (case c => decide); k_whole; intro h' g' T' eo' to' ws' KT' F' N' B' X' P' D' ec' ed' e2' es'))))
local macro_rules | `(tactic| walk_at "exec Raise some some") => `(tactic| (k_here; k_dflt (refine' raise_fromX (X := "ValueError") PySem.F.excCall_ValueError PySem.F.excRaise_ValueError PySem.F.excRaise_ValueError ?F ?X ?T ?ex PyProof.Rows.Boot.«ValueError» ?n ?hh ?hc ?hd ?h2 ?_ ?a ?b ?c ?d ?e; (case F => k_asm); (case X => k_asm); (case T => k_asm); (case ex => k_is); (case n => decide); (case hh => rfl); (case hc => assumption); (case hd => assumption); (case h2 => assumption); (case a => rfl); (case b => rfl); (case c => decide); (case d => rfl); (case e => rfl); k_whole)))
local macro_rules | `(tactic| walk_at "exec Raise some none") => `(tactic| (k_here; k_dflt (refine' raise_outX PySem.F.excCall_IndexError PySem.F.excRaise_IndexError ?F ?X ?T ?ex PyProof.Rows.Boot.«IndexError» ?n ?hh ?_ ?a ?b ?c ?d ?e; (case hh => rfl); (case F => k_asm); (case X => k_asm); (case T => k_asm); (case ex => k_is); (case n => decide); (case a => rfl); (case b => rfl); (case c => decide); (case d => rfl); (case e => rfl); k_whole)))
local macro_rules | `(tactic| walk_at "OutK") => `(tactic| (k_here; k_dflt (refine' outK ?l ?_; (case l => exact (show 1 ≤ sizeLine by decide)); k_whole); intro h' e' x'))
local macro_rules | `(tactic| walk_at "exec Raise some none") => `(tactic| (k_here; k_dflt (refine' raise_inX PySem.F.excCall_IndexError PySem.F.excRaise_IndexError ?F ?X ?T ?ex PyProof.Rows.Boot.«IndexError» ?n ?hh ?hd ?h2 ?_ ?a ?b ?c ?d ?e; (case hd => assumption); (case h2 => assumption); (case hh => rfl); (case F => k_asm); (case X => k_asm); (case T => k_asm); (case ex => k_is); (case n => decide); (case a => rfl); (case b => rfl); (case c => decide); (case d => rfl); (case e => rfl); k_whole)))
local macro_rules | `(tactic| walk_at "FromK") => `(tactic| (k_here; k_dflt (refine' fromK_end ?l ?K ?F ?N ?m ?n ?a ?b ?c ?d ?_; (case l => exact (show 1 ≤ sizeLine by decide)); (case K => assumption); (case F => k_asm); (case N => k_asm); (case m => k_mem); (case n => rfl); (case a => rfl); (case b => rfl); (case c => decide); (case d => rfl); k_whole); intro e' h' tk' R' U'))
local macro_rules | `(tactic| walk_at "InK") => `(tactic| (k_here; k_dflt (refine' inK_end ?l ?K ?F ?N ?m ?a ?d ?_; (case l => exact (show 1 ≤ sizeLine by decide)); (case K => assumption); (case F => k_asm); (case N => k_asm); (case m => k_mem); (case a => rfl); (case d => rfl); k_whole); intro e' h' R' U'))
local macro_rules | `(tactic| kfm_turns) => `(tactic| (refine KPc.turn ?_; kpc_if; kpc_check; refine wpAny_bind (field_zero (by rfl) (by rfl) ?_); refine wpAny_bind (wpAny_holding (wpAny_of_eq (a := _) rfl ?_)); kpc_if; refine wpAny_bind (wpAny_pure ?_); kfm_val; refine wpAny_bind (wpAny_of_eq (a := some _) rfl ?_); refine wpAny_pure ?_; refine KFm.after_field (by kpc_g) (by kpc_text) (by kpc_obj) (by kfm_len) (by kpc_obj) (by kfm_cat2) (by kfm_rest) ?_; intro _ _; kfm_turns))
local macro_rules | `(tactic| walk_at "leaving ref") => `(tactic| (k_here; k_dflt (refine' leaveX_ends ?K rfl ?x ?_; (case x => assumption); (case K => assumption); k_whole); intro h' R' U'))
local macro_rules | `(tactic| walk_at "leaving ref") => `(tactic| (k_here; k_dflt (refine' leaveX_made ?K ?F ?N rfl rfl ?x ?_; (case x => assumption); (case F => assumption); (case N => assumption); (case K => assumption); k_whole); intro h' R' U'))
local macro_rules | `(tactic| walk_at "getMethod ref") => `(tactic| (k_here; (with_reducible show wpAny _ _ (getMethod (Value.ref _) (PySem.Str.ofString "index") _) _ _ _); k_dflt (refine' topMethod_list ?F ?X ?l PySem.F.slot_list_index PySem.F.type_list_index ?_; (case F => k_asm); (case X => k_asm); (case l => k_is))))
local macro_rules | `(tactic| walk_at "call builtin:list.index") => `(tactic| (k_here; (with_reducible show wpAny _ _ (call (Value.builtin _) [Value.ref _, Value.str _ _]) _ _ _); k_dflt (first
  | (refine' topIndex_hit ?F ?X ?l ?t ?j ?s ?_; (case F => k_asm); (case X => k_asm); (case l => k_is); (case t => rfl); (case j => assumption); (case s => decide))
  | (refine' topIndex_none ?F ?X ?l ?t ?j ?s ?x ?A ?_; (case F => k_asm); (case X => k_asm); (case l => k_is); (case t => rfl); (case j => assumption); (case s => decide); (case x => assumption); (case A => rfl); intro h' tk' e' x'))))
theorem haab_find' {x : Str} {k : Nat} (hx : x = haabN.getD k Str.empty) (hk : k < 19) : haabV.findIdx? (isTxt x) = some k := by subst hx; exact haab_find k hk
theorem tzol_find' {x : Str} {k : Nat} (hx : x = tzolN.getD k Str.empty) (hk : k < 20) : tzolV.findIdx? (isTxt x) = some k := by subst hx; exact tzol_find k hk
theorem haab_inj : ∀ k : Nat, k < 20 → ∀ j : Nat, j < 20 → haabN.getD k Str.empty = haabN.getD j Str.empty → k = j := by decide +kernel
theorem tzol_inj : ∀ k : Nat, k < 21 → ∀ j : Nat, j < 21 → tzolN.getD k Str.empty = tzolN.getD j Str.empty → k = j := by decide +kernel
theorem nh_same {n c v : Int} {j k : Nat} {x y : Str} (hx : x = haabN.getD k Str.empty) (hy : y = haabN.getD j Str.empty) (hk : k < 19) (hj : j < 19) (hkc : (k : Int) = (n + 348) % 365 / 20) (hc : c = (n + 348) % 365 % 20) (e : (x == y) = true) (hv : v = 584283 + n + (1 - c)) :
    v = (if (n + 348) % 365 / 20 = j then 584283 + n + (1 - (n + 348) % 365 % 20) else 584283 + n + ((20 * (j : Int) + 1) - (n + 348) % 365) % 365) := by
  have e' := beq_iff_eq.mp e
  rw [hx, hy] at e'
  have := haab_inj k (by omega) j (by omega) e'
  rw [if_pos (by omega)]
  omega
theorem nh_other {n c v : Int} {j k : Nat} {x y : Str} (hx : x = haabN.getD k Str.empty) (hy : y = haabN.getD j Str.empty) (hk : k < 19) (hj : j < 19) (hkc : (k : Int) = (n + 348) % 365 / 20) (hc : c = (n + 348) % 365 % 20) (e : (x == y) = false)
    (hv : v = 584283 + n + ((if 360 < (j : Int) * 20 then 360 else (j : Int) * 20) + 1 - ((if 360 < (k : Int) * 20 then 360 else (k : Int) * 20) + c)).fmod 365) :
    v = (if (n + 348) % 365 / 20 = j then 584283 + n + (1 - (n + 348) % 365 % 20) else 584283 + n + ((20 * (j : Int) + 1) - (n + 348) % 365) % 365) := by
  have hkj : k ≠ j := fun q => by
    rw [hx, hy, q] at e
    simp at e
  rw [if_neg (by omega), hv, fm (by decide), if_neg (by omega), if_neg (by omega)]
  congr 2
  omega
theorem nh_no {k : Nat} {x : Str} (hx : x = haabN.getD k Str.empty) (hk : k < 19) (e : (x == ("Ajaw" : Str)) = true) : False := by
  have e' := beq_iff_eq.mp e
  rw [hx] at e'
  have := haab_inj k (by omega) 19 (by decide) e'
  omega
local macro_rules | `(tactic| walk_at "call ref") => `(tactic| (k_here; (with_reducible show wpAny _ _ (call (Value.ref 37) _) _ _ _); k_dflt (refine' says_use (to_haab_says _ _ _ _ _ _ ?lo ?hi) ?B ?F ?X ?N ?T ?hk ?hd ?hu ?_; (case B => k_asm); (case F => k_asm); (case X => k_asm); (case N => k_asm); (case T => k_asm); (case hk => exact rfl); (case hd => ktr_room); (case hu => ktr_units); (case lo => omega); (case hi => omega); k_whole); intro D' k' c' x' t' u' kn' h' tk' hk' hc' hkc' hx' F' N' l1; (try (have l9 := gt74 (by repeat (first | exact Tail.base | apply Tail.cons)) l1)); (try k_lt l1)))
local macro_rules | `(tactic| walk_at "call ref") => `(tactic| (k_here; (with_reducible show wpAny _ _ (call (Value.ref 51) _) _ _ _); k_dflt (first
  | (refine' saysR_use (hc_good _ _ _ _ _ _ _ _ _ ?f ?lo ?hi ?hk9) ?B ?F ?X ?N ?T ?hk ?XB ?TB ?D ?hd ?hu ?_; (case B => k_asm); (case F => k_asm); (case X => k_asm); (case N => k_asm); (case T => k_asm); (case hk => exact rfl); (case XB => assumption); (case TB => assumption); (case D => assumption); (case f => exact haab_find' (by assumption) (by omega)); (case lo => omega); (case hi => omega); (case hk9 => omega); (case hd => ktr_room); (case hu => ktr_units); k_whole; intro u' h' tk' F' N')
  | (refine' saysR_use (hc_name _ _ _ _ _ _ _ ?lo ?hi) ?B ?F ?X ?N ?T ?hk ?XB ?TB ?D ?hd ?hu ?_; (case B => k_asm); (case F => k_asm); (case X => k_asm); (case N => k_asm); (case T => k_asm); (case hk => exact rfl); (case XB => assumption); (case TB => assumption); (case D => assumption); (case lo => omega); (case hi => omega); (case hd => ktr_room); (case hu => ktr_units); k_whole; intro e' h' tk' hE'))))
local macro_rules | `(tactic| walk_at "call ref") => `(tactic| (k_here; (with_reducible show wpAny _ _ (call (Value.ref 44) _) _ _ _); k_dflt (refine' says_use (to_tzolkin_says _ _ _ _ _ _ ?lo ?hi) ?B ?F ?X ?N ?T ?hk ?hd ?hu ?_; (case B => k_asm); (case F => k_asm); (case X => k_asm); (case N => k_asm); (case T => k_asm); (case hk => exact rfl); (case hd => ktr_room); (case hu => ktr_units); (case lo => omega); (case hi => omega); k_whole); intro D' k' c' x' t' u' kn' h' tk' hk' hc' hkc' hx' F' N' l1; (try (have l9 := gt74 (by repeat (first | exact Tail.base | apply Tail.cons)) l1)); (try k_lt l1)))
local macro_rules | `(tactic| walk_at "call ref") => `(tactic| (k_here; (with_reducible show wpAny _ _ (call (Value.ref 58) _) _ _ _); k_dflt (first
  | (refine' saysT_use (tz_good _ _ _ _ _ _ _ _ _ ?f ?lo ?hi ?hk9) ?B ?F ?X ?N ?T ?hk ?XB ?TB ?c1 ?c2 ?D ?hT ?h1 ?h2 ?hb ?hp ?hd ?hu ?_; (case B => k_asm); (case F => k_asm); (case X => k_asm); (case N => k_asm); (case T => k_asm); (case hk => exact rfl); (case XB => assumption); (case TB => assumption); (case D => assumption); (case c1 => assumption); (case c2 => assumption); (case hT => repeat (first | exact Tail.base | apply Tail.cons)); (case h1 => assumption); (case h2 => assumption); (case hb => assumption); (case hp => repeat (first | assumption | refine List.forall_mem_cons.mpr ⟨by (first | (dsimp only; assumption) | (refine ltN ?_; dsimp only; omega)), ?_⟩)); (case f => exact tzol_find' (by assumption) (by omega)); (case lo => omega); (case hi => omega); (case hk9 => omega); (case hd => ktr_room); (case hu => ktr_units); k_whole; intro y' u' s' ps' qs' F' N' ht1' ht2' hb' ho' hi' hj'; (try simp only [List.cons_append, List.nil_append] at N'))
  | (refine' saysT_use (tz_day _ _ _ _ _ _ _ _ ?hd9) ?B ?F ?X ?N ?T ?hk ?XB ?TB ?c1 ?c2 ?D ?hT ?h1 ?h2 ?hb ?hp ?hd ?hu ?_; (case B => k_asm); (case F => k_asm); (case X => k_asm); (case N => k_asm); (case T => k_asm); (case hk => exact rfl); (case XB => assumption); (case TB => assumption); (case D => assumption); (case c1 => assumption); (case c2 => assumption); (case hT => repeat (first | exact Tail.base | apply Tail.cons)); (case h1 => assumption); (case h2 => assumption); (case hb => assumption); (case hp => repeat (first | assumption | refine List.forall_mem_cons.mpr ⟨by (first | (dsimp only; assumption) | (refine ltN ?_; dsimp only; omega)), ?_⟩)); (case hd9 => omega); (case hd => ktr_room); (case hu => ktr_units); k_whole; intro e' s' ps' qs' hE' ht1' ht2' hb' ho'; (try simp only [List.cons_append, List.nil_append] at hE'))
  | (refine' saysT_use (tz_name _ _ _ _ _ _ _ ?lo ?hi) ?B ?F ?X ?N ?T ?hk ?XB ?TB ?c1 ?c2 ?D ?hT ?h1 ?h2 ?hb ?hp ?hd ?hu ?_; (case B => k_asm); (case F => k_asm); (case X => k_asm); (case N => k_asm); (case T => k_asm); (case hk => exact rfl); (case XB => assumption); (case TB => assumption); (case D => assumption); (case c1 => assumption); (case c2 => assumption); (case hT => repeat (first | exact Tail.base | apply Tail.cons)); (case h1 => assumption); (case h2 => assumption); (case hb => assumption); (case hp => repeat (first | assumption | refine List.forall_mem_cons.mpr ⟨by (first | (dsimp only; assumption) | (refine ltN ?_; dsimp only; omega)), ?_⟩)); (case lo => omega); (case hi => omega); (case hd => ktr_room); (case hu => ktr_units); k_whole; intro e' s' ps' qs' hE' ht1' ht2' hb' ho'; (try simp only [List.cons_append, List.nil_append] at hE')))))
theorem nh_good (w : World) (mean : ExcName → Option Value) (mg mb : Str → Option Value) (n : Int) (t : Tok) (j : Nat) (y : Str) (t' : Tok) (hy : y = haabN.getD j Str.empty) (hj : j < 19) (hlo : 0 ≤ n) (hhi : n < 2000000000) :
    SaysR w mean mg mb 8 200 65 [.str y t', .int (584283 + n) t] (fun h₀ L m news s _ _ Q _ =>
      ∀ v u h' tk', v = (if (n + 348) % 365 / 20 = j then 584283 + n + (1 - (n + 348) % 365 % 20) else 584283 + n + ((20 * (j : Int) + 1) - (n + 348) % 365) % 365) → Fr h₀ L h' m → News h₀ L h' news → Q (.int v u) { s with heap := h', toks := tk' }) := by
  unfold SaysR
  k_fill
  intro dp un gd cn cs a ccd cl outer A₀ base h₀ L m news s Q E B F X N T hkd hdp hu XB TB KD hret
  refine wpAny_call ?_
  k_dflt cell_enter
  rename Fr h₀ L _ m => FG
  have KD' := dicts_push (env := envX cn cs L a ccd cl) FG KD rfl
  k_steps
  all_goals (rename News h₀ L _ _ => kN)
  all_goals first
    | exact hret _ _ _ _ (nh_same (by assumption) hy (by assumption) hj (by assumption) (by assumption) (by assumption) rfl) (by assumption) (fun q hq => kN q (.tail _ hq))
    | exact hret _ _ _ _ (nh_other (by assumption) hy (by assumption) hj (by assumption) (by assumption) (by assumption) rfl) (by assumption) (fun q hq => kN q (.tail _ hq))
theorem nh_early (w : World) (mean : ExcName → Option Value) (mg mb : Str → Option Value) (n : Int) (t : Tok) (y : Str) (t' : Tok) (hlo : -2000 ≤ n) (hhi : n < 0) :
    SaysR w mean mg mb 8 200 65 [.str y t', .int (584283 + n) t] (fun h₀ L m news s l base _ E =>
      ∀ e h' tk', Ends base h₀ L m l e "IndexError" news h' → E (.ref e) { s with heap := h', toks := tk' }) := by
  unfold SaysR
  k_fill
  intro dp un gd cn cs a ccd cl outer A₀ base h₀ L m news s Q E B F X N T hkd hdp hu XB TB KD hret
  refine wpAny_call ?_
  k_dflt cell_enter
  rename Fr h₀ L _ m => FG
  have KD' := dicts_push (env := envX cn cs L a ccd cl) FG KD rfl
  k_steps
  all_goals exact hret _ _ _ (ends_N FG (by assumption) (by assumption) (fun _ h => h))
theorem nh_bad (w : World) (mean : ExcName → Option Value) (mg mb : Str → Option Value) (n : Int) (t : Tok) (t' : Tok) (hlo : 0 ≤ n) (hhi : n < 2000000000) :
    SaysR w mean mg mb 8 200 65 [.str "Ajaw" t', .int (584283 + n) t] (fun h₀ L m news s l base _ E =>
      ∀ e h' tk', Ends base h₀ L m l e "ValueError" news h' → E (.ref e) { s with heap := h', toks := tk' }) := by
  unfold SaysR
  k_fill
  intro dp un gd cn cs a ccd cl outer A₀ base h₀ L m news s Q E B F X N T hkd hdp hu XB TB KD hret
  refine wpAny_call ?_
  k_dflt cell_enter
  rename Fr h₀ L _ m => FG
  have KD' := dicts_push (env := envX cn cs L a ccd cl) FG KD rfl
  k_steps
  all_goals first
    | exact (nh_no (by assumption) (by assumption) (by assumption)).elim
    | exact hret _ _ _ (ends_N FG (by assumption) (by assumption) (fun q hq => .tail _ hq))
end Mine
end
section
namespace Mine
open PySem PySem.W PyProof.Rows in
theorem fresh_WT {M : Model} {A : Around} {E : Value → Shared → Prop} {env : Env} {Q : Flow → Shared → Prop} {s : Shared} (h : Q .next s) : wpAny M A (execs [] env) Q E s := by
  w_top off
  walk1
  exact h
end Mine
open PySem PySem.W PyProof.Rows
set_option maxRecDepth 100000
set_option maxHeartbeats 3200000
namespace Mine
local macro_rules | `(tactic| k_room) => `(tactic| ktr_room)
local macro_rules | `(tactic| k_units) => `(tactic| ktr_units)
local macro_rules | `(tactic| k_all) => `(tactic| (refine' List.forall_mem_append.mpr ⟨?a, ?b⟩; (case a => first | exact all_gt (by assumption) (by first | decide | omega) | exact all_ne (by assumption) (by omega)); (case b => k_all)))
local macro_rules | `(tactic| k_updF) => `(tactic| (refine' updF_app ?a ?b; (case a => first | exact all_gt (by assumption) (by first | decide | omega) | exact all_ne (by assumption) (by omega)); (case b => k_updF)))
local macro_rules | `(tactic| k_mem) => `(tactic| first | (refine' List.mem_append_right _ ?b; (case b => k_mem)) | exact List.mem_append_left _ (by assumption))
local macro_rules | `(tactic| walk_at "eval GeneratorExp") => `(tactic| (k_here; k_dflt (refine' gen_start ?hh rfl ?cl ?cell ?h0 ?hx rfl ?room ?_ ?hs; (case hh => rfl); (case cl => exact rfl); (case cell => decide); (case h0 => rfl); (case hx => rfl); (case room => ktr_room); (case hs => exact fun _ => rfl); k_whole)))
local macro_rules | `(tactic| walk_at "GenK") => `(tactic| (k_here; k_dflt (refine' genK_U ?hh ?F ?N ?T ?C ?U ?ht ?hb ?hr ?sm ?hn ?hcl ?mem ?hoc rfl rfl rfl ?xd ?yd ?yc ?_; (case hh => rfl); (case F => k_asm); (case N => k_asm); (case T => k_asm); (case C => exact CodeHd.keeps (by assumption) (Below.stays (by assumption))); (case U => k_updF); (case ht => assumption); (case hb => assumption); (case hr => assumption); (case sm => decide); (case hn => first | exact (show Builtin.Range.rangeSize _ _ _ = ((20 : Nat) : Int) by decide) | exact (show Builtin.Range.rangeSize _ _ _ = ((13 : Nat) : Int) by decide) | exact (show Builtin.Range.rangeSize _ _ _ = ((52 : Nat) : Int) by decide) | exact (show Builtin.Range.rangeSize _ _ _ = ((73 : Nat) : Int) by decide)); (case hcl => rfl); (case mem => k_mem); (case hoc => assumption); (case xd => decide); (case yd => decide); (case yc => decide); k_whole); intro gen' s' ps' ht' F' N' G' ho' hb'; (try dsimp only at N' G')))
local macro_rules | `(tactic| walk_at "call type:set") => `(tactic| (k_here; k_dflt (refine' setGen_U ?hh ?F ?N ?G ?hb ?hn ?_; (case hh => rfl); (case F => k_asm); (case N => k_asm); (case G => assumption); (case hb => assumption); (case hn => decide); k_whole); intro D' so' s' F' N' l1 hS' ho' hb'; (try k_lt l1)))
local macro_rules | `(tactic| walk_at "getMethod ref") => `(tactic| (k_here; k_dflt (first
  | (refine' methodV_N ?N ?m ?v ?b PySem.F.slot_set_intersection PySem.F.type_set_intersection ?_; (case N => k_asm); (case m => k_mem); (case v => assumption); (case b => decide))
  | (refine' methodK_N ?N ?m ?v PySem.F.slot_set_pop PySem.F.type_set_pop ?_; (case N => k_asm); (case m => k_mem); (case v => assumption)))))
local macro_rules | `(tactic| walk_at "call builtin:set.intersection") => `(tactic| (k_here; k_dflt (refine' inter_N ?F ?N ?ma ?mb ?ab ?sa ?sb ?na ?nb ?_; (case F => k_asm); (case N => k_asm); (case ma => k_mem); (case mb => k_mem); (case ab => k_ne); (case sa => assumption); (case sb => assumption); (case na => decide); (case nb => decide); k_whole); intro D' so' h' σ' F' N' l1 hK' hs'; (have l2 := l1); (try k_lt l1)))
local macro_rules | `(tactic| walk_at "call builtin:set.pop") => `(tactic| (k_here; k_dflt (refine' popOne_N ?F ?N ?l ?K ?ex ?_; (case F => k_asm); (case N => k_asm); (case l => assumption); (case K => assumption); (case ex => exact tz_meets (by assumption) (by assumption) (by assumption) (by assumption)); k_whole); intro h' d' t' k' F' N' hk'))
local macro_rules | `(tactic| walk_at "exec Try") => `(tactic| (k_here; (with_reducible show wpAny _ _ (exec (Stmt.Try _ (_ :: _) _ [] _) _) _ _ _); refine wpAny_Try_except ?_))
local macro_rules | `(tactic| walk_at "noteFrame ref") => `(tactic| (k_here; (rename Heap.NewExc _ _ _ _ => nx9); k_dflt (first
  | ((with_reducible show wpAny _ _ (noteFrame _ _) (fun _ s₂ => wpAny _ _ (setFlight _ none) (fun _ s₃ => wpAny _ _ (handleBy _ _ (ExceptHandler.ExceptHandler (some (Expr.Name _ _)) (some _) _ _ :: _)) _ _ s₃) _ s₂) _ _); refine' own_caughtB (X := "ValueError") (T' := "ValueError") ?K ?F ?N ?x ?XB ?TB ?D ?ex PyProof.Rows.Boot.«ValueError» ?n PySem.F.isExc_ValueError PySem.F.notTuple_ValueError ?s ?_ ?a ?b ?c ?d; (case K => assumption); (case F => assumption); (case N => assumption); (case x => assumption); (case XB => assumption); (case TB => assumption); (case D => assumption); (case ex => k_is); (case n => decide); (case s => (rw [isSubtype_type]; kernel_rfl)); (case a => rfl); (case b => rfl); (case c => rfl); (case d => decide); k_whole; intro h' g' T' eo' to' ws' tk' KT' F' N' B' X' P' D' ec' ed' e2' es')
  | (refine' own_caught0 (X := "KeyError") (T' := "KeyError") ?K ?F ?N ?x ?XB ?TB ?D ?ex PyProof.Rows.Boot.«KeyError» ?n kr_isExc_KeyError kr_notTuple_KeyError ?s ?_ ?a ?b ?c; (case K => assumption); (case F => assumption); (case N => assumption); (case x => assumption); (case XB => assumption); (case TB => assumption); (case D => assumption); (case ex => k_is); (case n => decide); (case s => (rw [isSubtype_type]; kernel_rfl)); (case a => rfl); (case b => rfl); (case c => decide); k_whole; intro h' g' T' eo' to' ws' KT' F' N' B' X' P' D' ec' ed' e2' es'))))
local macro_rules | `(tactic| walk_at "exec Raise some some") => `(tactic| (k_here; k_dflt (refine' raise_fromX (X := "ValueError") PySem.F.excCall_ValueError PySem.F.excRaise_ValueError PySem.F.excRaise_ValueError ?F ?X ?T ?ex PyProof.Rows.Boot.«ValueError» ?n ?hh ?hc ?hd ?h2 ?_ ?a ?b ?c ?d ?e; (case F => k_asm); (case X => k_asm); (case T => k_asm); (case ex => k_is); (case n => decide); (case hh => rfl); (case hc => assumption); (case hd => assumption); (case h2 => assumption); (case a => rfl); (case b => rfl); (case c => decide); (case d => rfl); (case e => rfl); k_whole)))
local macro_rules | `(tactic| walk_at "exec Raise some none") => `(tactic| (k_here; k_dflt (refine' raise_outX PySem.F.excCall_IndexError PySem.F.excRaise_IndexError ?F ?X ?T ?ex PyProof.Rows.Boot.«IndexError» ?n ?hh ?_ ?a ?b ?c ?d ?e; (case hh => rfl); (case F => k_asm); (case X => k_asm); (case T => k_asm); (case ex => k_is); (case n => decide); (case a => rfl); (case b => rfl); (case c => decide); (case d => rfl); (case e => rfl); k_whole)))
local macro_rules | `(tactic| walk_at "OutK") => `(tactic| (k_here; k_dflt (refine' outK ?l ?_; (case l => exact (show 1 ≤ sizeLine by decide)); k_whole); intro h' e' x'))
local macro_rules | `(tactic| walk_at "exec Raise some none") => `(tactic| (k_here; k_dflt (refine' raise_inX PySem.F.excCall_IndexError PySem.F.excRaise_IndexError ?F ?X ?T ?ex PyProof.Rows.Boot.«IndexError» ?n ?hh ?hd ?h2 ?_ ?a ?b ?c ?d ?e; (case hd => assumption); (case h2 => assumption); (case hh => rfl); (case F => k_asm); (case X => k_asm); (case T => k_asm); (case ex => k_is); (case n => decide); (case a => rfl); (case b => rfl); (case c => decide); (case d => rfl); (case e => rfl); k_whole)))
local macro_rules | `(tactic| walk_at "FromK") => `(tactic| (k_here; k_dflt (refine' fromK_end ?l ?K ?F ?N ?m ?n ?a ?b ?c ?d ?_; (case l => exact (show 1 ≤ sizeLine by decide)); (case K => assumption); (case F => k_asm); (case N => k_asm); (case m => k_mem); (case n => rfl); (case a => rfl); (case b => rfl); (case c => decide); (case d => rfl); k_whole); intro e' h' tk' R' U'))
local macro_rules | `(tactic| walk_at "InK") => `(tactic| (k_here; k_dflt (refine' inK_end ?l ?K ?F ?N ?m ?a ?d ?_; (case l => exact (show 1 ≤ sizeLine by decide)); (case K => assumption); (case F => k_asm); (case N => k_asm); (case m => k_mem); (case a => rfl); (case d => rfl); k_whole); intro e' h' R' U'))
local macro_rules | `(tactic| kfm_turns) => `(tactic| (refine KPc.turn ?_; kpc_if; kpc_check; refine wpAny_bind (field_zero (by rfl) (by rfl) ?_); refine wpAny_bind (wpAny_holding (wpAny_of_eq (a := _) rfl ?_)); kpc_if; refine wpAny_bind (wpAny_pure ?_); kfm_val; refine wpAny_bind (wpAny_of_eq (a := some _) rfl ?_); refine wpAny_pure ?_; refine KFm.after_field (by kpc_g) (by kpc_text) (by kpc_obj) (by kfm_len) (by kpc_obj) (by kfm_cat2) (by kfm_rest) ?_; intro _ _; kfm_turns))
local macro_rules | `(tactic| walk_at "leaving ref") => `(tactic| (k_here; k_dflt (refine' leaveX_ends ?K rfl ?x ?_; (case x => assumption); (case K => assumption); k_whole); intro h' R' U'))
local macro_rules | `(tactic| walk_at "leaving ref") => `(tactic| (k_here; k_dflt (refine' leaveX_made ?K ?F ?N rfl rfl ?x ?_; (case x => assumption); (case F => assumption); (case N => assumption); (case K => assumption); k_whole); intro h' R' U'))
local macro_rules | `(tactic| walk_at "getMethod ref") => `(tactic| (k_here; (with_reducible show wpAny _ _ (getMethod (Value.ref _) (PySem.Str.ofString "index") _) _ _ _); k_dflt (refine' topMethod_list ?F ?X ?l PySem.F.slot_list_index PySem.F.type_list_index ?_; (case F => k_asm); (case X => k_asm); (case l => k_is))))
local macro_rules | `(tactic| walk_at "call builtin:list.index") => `(tactic| (k_here; (with_reducible show wpAny _ _ (call (Value.builtin _) [Value.ref _, Value.str _ _]) _ _ _); k_dflt (first
  | (refine' topIndex_hit ?F ?X ?l ?t ?j ?s ?_; (case F => k_asm); (case X => k_asm); (case l => k_is); (case t => rfl); (case j => assumption); (case s => decide))
  | (refine' topIndex_none ?F ?X ?l ?t ?j ?s ?x ?A ?_; (case F => k_asm); (case X => k_asm); (case l => k_is); (case t => rfl); (case j => assumption); (case s => decide); (case x => assumption); (case A => rfl); intro h' tk' e' x'))))
local macro_rules | `(tactic| walk_at "call ref") => `(tactic| (k_here; (with_reducible show wpAny _ _ (call (Value.ref 37) _) _ _ _); k_dflt (refine' says_use (to_haab_says _ _ _ _ _ _ ?lo ?hi) ?B ?F ?X ?N ?T ?hk ?hd ?hu ?_; (case B => k_asm); (case F => k_asm); (case X => k_asm); (case N => k_asm); (case T => k_asm); (case hk => exact rfl); (case hd => ktr_room); (case hu => ktr_units); (case lo => omega); (case hi => omega); k_whole); intro D' k' c' x' t' u' kn' h' tk' hk' hc' hkc' hx' F' N' l1; (try (have l9 := gt74 (by repeat (first | exact Tail.base | apply Tail.cons)) l1)); (try k_lt l1)))
local macro_rules | `(tactic| walk_at "call ref") => `(tactic| (k_here; (with_reducible show wpAny _ _ (call (Value.ref 51) _) _ _ _); k_dflt (first
  | (refine' saysR_use (hc_good _ _ _ _ _ _ _ _ _ ?f ?lo ?hi ?hk9) ?B ?F ?X ?N ?T ?hk ?XB ?TB ?D ?hd ?hu ?_; (case B => k_asm); (case F => k_asm); (case X => k_asm); (case N => k_asm); (case T => k_asm); (case hk => exact rfl); (case XB => assumption); (case TB => assumption); (case D => assumption); (case f => exact haab_find' (by assumption) (by omega)); (case lo => omega); (case hi => omega); (case hk9 => omega); (case hd => ktr_room); (case hu => ktr_units); k_whole; intro u' h' tk' F' N')
  | (refine' saysR_use (hc_name _ _ _ _ _ _ _ ?lo ?hi) ?B ?F ?X ?N ?T ?hk ?XB ?TB ?D ?hd ?hu ?_; (case B => k_asm); (case F => k_asm); (case X => k_asm); (case N => k_asm); (case T => k_asm); (case hk => exact rfl); (case XB => assumption); (case TB => assumption); (case D => assumption); (case lo => omega); (case hi => omega); (case hd => ktr_room); (case hu => ktr_units); k_whole; intro e' h' tk' hE'))))
local macro_rules | `(tactic| walk_at "call ref") => `(tactic| (k_here; (with_reducible show wpAny _ _ (call (Value.ref 44) _) _ _ _); k_dflt (refine' says_use (to_tzolkin_says _ _ _ _ _ _ ?lo ?hi) ?B ?F ?X ?N ?T ?hk ?hd ?hu ?_; (case B => k_asm); (case F => k_asm); (case X => k_asm); (case N => k_asm); (case T => k_asm); (case hk => exact rfl); (case hd => ktr_room); (case hu => ktr_units); (case lo => omega); (case hi => omega); k_whole); intro D' k' c' x' t' u' kn' h' tk' hk' hc' hkc' hx' F' N' l1; (try (have l9 := gt74 (by repeat (first | exact Tail.base | apply Tail.cons)) l1)); (try k_lt l1)))
local macro_rules | `(tactic| walk_at "call ref") => `(tactic| (k_here; (with_reducible show wpAny _ _ (call (Value.ref 58) _) _ _ _); k_dflt (first
  | (refine' saysT_use (tz_good _ _ _ _ _ _ _ _ _ ?f ?lo ?hi ?hk9) ?B ?F ?X ?N ?T ?hk ?XB ?TB ?c1 ?c2 ?D ?hT ?h1 ?h2 ?hb ?hp ?hd ?hu ?_; (case B => k_asm); (case F => k_asm); (case X => k_asm); (case N => k_asm); (case T => k_asm); (case hk => exact rfl); (case XB => assumption); (case TB => assumption); (case D => assumption); (case c1 => assumption); (case c2 => assumption); (case hT => repeat (first | exact Tail.base | apply Tail.cons)); (case h1 => assumption); (case h2 => assumption); (case hb => assumption); (case hp => repeat (first | assumption | refine List.forall_mem_cons.mpr ⟨by (first | (dsimp only; assumption) | (refine ltN ?_; dsimp only; omega)), ?_⟩)); (case f => exact tzol_find' (by assumption) (by omega)); (case lo => omega); (case hi => omega); (case hk9 => omega); (case hd => ktr_room); (case hu => ktr_units); k_whole; intro y' u' s' ps' qs' F' N' ht1' ht2' hb' ho' hi' hj'; (try simp only [List.cons_append, List.nil_append] at N'))
  | (refine' saysT_use (tz_day _ _ _ _ _ _ _ _ ?hd9) ?B ?F ?X ?N ?T ?hk ?XB ?TB ?c1 ?c2 ?D ?hT ?h1 ?h2 ?hb ?hp ?hd ?hu ?_; (case B => k_asm); (case F => k_asm); (case X => k_asm); (case N => k_asm); (case T => k_asm); (case hk => exact rfl); (case XB => assumption); (case TB => assumption); (case D => assumption); (case c1 => assumption); (case c2 => assumption); (case hT => repeat (first | exact Tail.base | apply Tail.cons)); (case h1 => assumption); (case h2 => assumption); (case hb => assumption); (case hp => repeat (first | assumption | refine List.forall_mem_cons.mpr ⟨by (first | (dsimp only; assumption) | (refine ltN ?_; dsimp only; omega)), ?_⟩)); (case hd9 => omega); (case hd => ktr_room); (case hu => ktr_units); k_whole; intro e' s' ps' qs' hE' ht1' ht2' hb' ho'; (try simp only [List.cons_append, List.nil_append] at hE'))
  | (refine' saysT_use (tz_name _ _ _ _ _ _ _ ?lo ?hi) ?B ?F ?X ?N ?T ?hk ?XB ?TB ?c1 ?c2 ?D ?hT ?h1 ?h2 ?hb ?hp ?hd ?hu ?_; (case B => k_asm); (case F => k_asm); (case X => k_asm); (case N => k_asm); (case T => k_asm); (case hk => exact rfl); (case XB => assumption); (case TB => assumption); (case D => assumption); (case c1 => assumption); (case c2 => assumption); (case hT => repeat (first | exact Tail.base | apply Tail.cons)); (case h1 => assumption); (case h2 => assumption); (case hb => assumption); (case hp => repeat (first | assumption | refine List.forall_mem_cons.mpr ⟨by (first | (dsimp only; assumption) | (refine ltN ?_; dsimp only; omega)), ?_⟩)); (case lo => omega); (case hi => omega); (case hd => ktr_room); (case hu => ktr_units); k_whole; intro e' s' ps' qs' hE' ht1' ht2' hb' ho'; (try simp only [List.cons_append, List.nil_append] at hE')))))
abbrev tup2 (d : Int) (t : Tok) (x : Str) (u : Tok) (kn : Nat) : Obj := { cls := .type "tuple", data := .seq #[.int d t, .str x u] kn }
theorem nt_plain {n c d y1 y2 : Int} {k j : Nat} (hc : c = (n + 3) % 13 + 1) (hk : (k : Int) = (n + 19) % 20) (h1 : ∃ i : Nat, i < 20 ∧ 0 + (i : Int) * 13 + c = y1) (h2 : ∃ i : Nat, i < 13 ∧ 0 + (i : Int) * 20 + (1 + (k : Int)) = y1)
    (h3 : ∃ i : Nat, i < 20 ∧ 0 + (i : Int) * 13 + d = y2) (h4 : ∃ i : Nat, i < 13 ∧ 0 + (i : Int) * 20 + (1 + (j : Int)) = y2) (hd1 : 1 ≤ d) (hd2 : d ≤ 13) (hj : j < 20) :
    0 ≤ (y2 - y1).fmod 260 ∧ (y2 - y1).fmod 260 < 260 ∧ (n + 3 + (y2 - y1).fmod 260) % 13 + 1 = d ∧ (n + 19 + (y2 - y1).fmod 260) % 20 = j := by
  rw [fm (by decide)]
  obtain ⟨i1, _, e1⟩ := h1
  obtain ⟨i2, _, e2⟩ := h2
  obtain ⟨i3, _, e3⟩ := h3
  obtain ⟨i4, _, e4⟩ := h4
  refine ⟨by omega, by omega, ?_, ?_⟩
  · have : (n + 3 + (y2 - y1) % 260) % 13 = (n + 3 + (y2 - y1)) % 13 := by omega
    omega
  · have : (n + 19 + (y2 - y1) % 260) % 20 = (n + 19 + (y2 - y1)) % 20 := by omega
    omega
theorem nt_good (w : World) (mean : ExcName → Option Value) (mg mb : Str → Option Value) (T : Addr) (n d : Int) (t t₁ t₂ : Tok) (kn j : Nat) (y : Str) (hy : y = tzolN.getD j Str.empty) (hj : j < 20) (hd1 : 1 ≤ d) (hd2 : d ≤ 13) (hlo : 0 ≤ n) (hhi : n < 2000000000) :
    SaysT w mean mg mb 8 300 72 [.ref T, .int (584283 + n) t] (fun h₀ L m pre s _ _ Q _ => (T, tup2 d t₁ y t₂ kn) ∈ pre ∧
      ∀ a u s' ps' qs', 0 ≤ a → a < 260 → (n + 3 + a) % 13 + 1 = d → (n + 19 + a) % 20 = j → Fr h₀ L s'.heap m → News h₀ L s'.heap (pre ++ tl ps' qs') → TriplesOk ps'.toList → TriplesOk qs'.toList → AllBare s'.gens → s'.os = s.os → Q (.int (584283 + n + a) u) s') := by
  unfold SaysT
  k_fill
  intro dp un gd cn cs a ccd cl outer A₀ base h₀ L m news pre ps qs s Q E B F X N T hkd hdp hu XB TB C57 C78 KD hT hpre ht1 ht2 hbare hret
  obtain rfl := hT.eq
  obtain ⟨hmem, hret⟩ := hret
  refine wpAny_call ?_
  k_dflt cell_enter
  rename Fr h₀ L _ m => FG
  have KD' := dicts_push (env := envX cn cs L a ccd cl) FG KD rfl
  k_steps
  all_goals
    (rename News h₀ L _ _ => kN
     rename (_ = (n + 3) % 13 + 1) => hc9
     rename (((_ : Nat) : Int) = (n + 19) % 20) => hk9
     have P := nt_plain hc9 hk9 (by assumption) (by assumption) (by assumption) (by assumption) hd1 hd2 hj
     refine hret _ _ _ _ _ P.1 P.2.1 P.2.2.1 P.2.2.2 (by assumption) (fun q hq => kN q (.tail _ hq)) (by assumption) (by assumption) (by assumption) ?_
     repeat (first | rfl | refine Eq.trans (by assumption) ?_))
theorem nt_early (w : World) (mean : ExcName → Option Value) (mg mb : Str → Option Value) (T : Addr) (n : Int) (t : Tok) (hlo : -2000 ≤ n) (hhi : n < 0) :
    SaysT w mean mg mb 8 300 72 [.ref T, .int (584283 + n) t] (fun h₀ L m pre s l base _ E =>
      ∀ e s' ps' qs', Ends base h₀ L m l e "IndexError" (pre ++ tl ps' qs') s'.heap → TriplesOk ps'.toList → TriplesOk qs'.toList → AllBare s'.gens → s'.os = s.os → E (.ref e) s') := by
  unfold SaysT
  k_fill
  intro dp un gd cn cs a ccd cl outer A₀ base h₀ L m news pre ps qs s Q E B F X N T hkd hdp hu XB TB C57 C78 KD hT hpre ht1 ht2 hbare hret
  obtain rfl := hT.eq
  refine wpAny_call ?_
  k_dflt cell_enter
  rename Fr h₀ L _ m => FG
  have KD' := dicts_push (env := envX cn cs L a ccd cl) FG KD rfl
  k_steps
  all_goals exact hret _ _ _ _ (ends_N FG (by assumption) (by assumption) (fun _ h => h)) (by assumption) (by assumption) hbare rfl
theorem nt_day (w : World) (mean : ExcName → Option Value) (mg mb : Str → Option Value) (T : Addr) (n d : Int) (t t₁ t₂ : Tok) (kn : Nat) (y : Str) (hd : d < 1 ∨ 13 < d) (hlo : 0 ≤ n) (hhi : n < 2000000000) :
    SaysT w mean mg mb 8 300 72 [.ref T, .int (584283 + n) t] (fun h₀ L m pre s l base _ E => (T, tup2 d t₁ y t₂ kn) ∈ pre ∧
      ∀ e s' ps' qs', Ends base h₀ L m l e "IndexError" (pre ++ tl ps' qs') s'.heap → TriplesOk ps'.toList → TriplesOk qs'.toList → AllBare s'.gens → s'.os = s.os → E (.ref e) s') := by
  unfold SaysT
  k_fill
  intro dp un gd cn cs a ccd cl outer A₀ base h₀ L m news pre ps qs s Q E B F X N T hkd hdp hu XB TB C57 C78 KD hT hpre ht1 ht2 hbare hret
  obtain rfl := hT.eq
  obtain ⟨hmem, hret⟩ := hret
  refine wpAny_call ?_
  k_dflt cell_enter
  rename Fr h₀ L _ m => FG
  have KD' := dicts_push (env := envX cn cs L a ccd cl) FG KD rfl
  k_steps
  all_goals (refine hret _ _ _ _ (ends_N FG (by assumption) (by assumption) (fun q hq => .tail _ hq)) (by assumption) (by assumption) (by assumption) ?_)
  all_goals (repeat (first | rfl | refine Eq.trans (by assumption) ?_))
theorem nt_name (w : World) (mean : ExcName → Option Value) (mg mb : Str → Option Value) (T : Addr) (n d : Int) (t t₁ t₂ : Tok) (kn : Nat) (hd1 : 1 ≤ d) (hd2 : d ≤ 13) (hlo : 0 ≤ n) (hhi : n < 2000000000) :
    SaysT w mean mg mb 8 300 72 [.ref T, .int (584283 + n) t] (fun h₀ L m pre s l base _ E => (T, tup2 d t₁ "Pop" t₂ kn) ∈ pre ∧
      ∀ e s' ps' qs', Ends base h₀ L m l e "ValueError" (pre ++ tl ps' qs') s'.heap → TriplesOk ps'.toList → TriplesOk qs'.toList → AllBare s'.gens → s'.os = s.os → E (.ref e) s') := by
  unfold SaysT
  k_fill
  intro dp un gd cn cs a ccd cl outer A₀ base h₀ L m news pre ps qs s Q E B F X N T hkd hdp hu XB TB C57 C78 KD hT hpre ht1 ht2 hbare hret
  obtain rfl := hT.eq
  obtain ⟨hmem, hret⟩ := hret
  refine wpAny_call ?_
  k_dflt cell_enter
  rename Fr h₀ L _ m => FG
  have KD' := dicts_push (env := envX cn cs L a ccd cl) FG KD rfl
  k_steps
  all_goals (refine hret _ _ _ _ (ends_N FG (by assumption) (by assumption) (fun q hq => .tail _ hq)) (by assumption) (by assumption) (by assumption) ?_)
  all_goals (repeat (first | rfl | refine Eq.trans (by assumption) ?_))
end Mine
end
section
open PySem PySem.W PyProof.Rows
set_option maxRecDepth 100000
set_option maxHeartbeats 1600000
namespace Mine
/-- x days after the day of n, the two wheels show day d, name j and haab position hp -/
def Fit (n d : Int) (j : Nat) (hp : Int) (x : Int) : Prop := 0 ≤ x ∧ x < 18980 ∧ (n + 3 + x) % 13 + 1 = d ∧ (n + 19 + x) % 20 = j ∧ (n + 348 + x) % 365 = hp
theorem fit_one {n d hp x y : Int} {j : Nat} (hx : Fit n d j hp x) (hy : Fit n d j hp y) : x = y := by
  obtain ⟨a1, a2, a3, a4, a5⟩ := hx
  obtain ⟨b1, b2, b3, b4, b5⟩ := hy
  have h1 : (x - y) % 13 = 0 := by omega
  have h2 : (x - y) % 20 = 0 := by omega
  have h3 : (x - y) % 365 = 0 := by omega
  omega
theorem fit_iff {n a b d hp x : Int} {j : Nat} (ha : 0 ≤ a) (ha' : a < 260) (h1 : (n + 3 + a) % 13 + 1 = d) (h2 : (n + 19 + a) % 20 = j) (hb : 0 ≤ b) (hb' : b < 365) (h3 : (n + 348 + b) % 365 = hp) :
    ((∃ i : Nat, i < 73 ∧ 0 + (i : Int) * 260 + a = x) ∧ ∃ i : Nat, i < 52 ∧ 0 + (i : Int) * 365 + b = x) ↔ Fit n d j hp x := by
  constructor
  · rintro ⟨⟨i, hi, e1⟩, i', hi', e2⟩
    refine ⟨by omega, by omega, ?_, ?_, ?_⟩
    · have : (n + 3 + x) % 13 = (n + 3 + a) % 13 := by omega
      omega
    · have : (n + 19 + x) % 20 = (n + 19 + a) % 20 := by omega
      omega
    · have : (n + 348 + x) % 365 = (n + 348 + b) % 365 := by omega
      omega
  · rintro ⟨x1, x2, x3, x4, x5⟩
    have d1 : (x - a) % 13 = 0 := by omega
    have d2 : (x - a) % 20 = 0 := by omega
    have d3 : (x - b) % 365 = 0 := by omega
    exact ⟨⟨((x - a) / 260).toNat, by omega, by omega⟩, ((x - b) / 365).toNat, by omega, by omega⟩
theorem nth_iff {σ : List Int} {n c c' d hd y1 y2 : Int} {k j k' hm : Nat}
    (hs : ∀ x, x ∈ σ ↔ (∃ i : Nat, i < 73 ∧ 0 + (i : Int) * 260 + (y2 - y1).fmod 260 = x) ∧ ∃ i : Nat, i < 52 ∧ 0 + (i : Int) * 365 + ((if 360 < (hm : Int) * 20 then 360 else (hm : Int) * 20) + hd - ((if 360 < (k' : Int) * 20 then 360 else (k' : Int) * 20) + c')).fmod 365 = x)
    (hc : c = (n + 3) % 13 + 1) (hk : (k : Int) = (n + 19) % 20) (h1 : ∃ i : Nat, i < 20 ∧ 0 + (i : Int) * 13 + c = y1) (h2 : ∃ i : Nat, i < 13 ∧ 0 + (i : Int) * 20 + (1 + (k : Int)) = y1)
    (h3 : ∃ i : Nat, i < 20 ∧ 0 + (i : Int) * 13 + d = y2) (h4 : ∃ i : Nat, i < 13 ∧ 0 + (i : Int) * 20 + (1 + (j : Int)) = y2) (hd1 : 1 ≤ d) (hd2 : d ≤ 13) (hj : j < 20)
    (hc' : c' = (n + 348) % 365 % 20) (hk' : (k' : Int) = (n + 348) % 365 / 20) (hm19 : hm < 19) (hh1 : 0 ≤ hd) (hh2 : 20 * (hm : Int) + hd < 365) (hh3 : hd ≤ 19) : ∀ x, x ∈ σ ↔ Fit n d j (20 * (hm : Int) + hd) x := by
  intro x
  obtain ⟨a1, a2, a3, a4⟩ := nt_plain hc hk h1 h2 h3 h4 hd1 hd2 hj
  rw [hs]
  rw [fm (b := 365) (by decide), if_neg (by omega), if_neg (by omega)]
  exact fit_iff a1 a2 a3 a4 (by omega) (by omega) (by omega)
theorem fit_ex {σ : List Int} {n d hp : Int} {j : Nat} (h : ∀ x, x ∈ σ ↔ Fit n d j hp x) (hex : ∃ x, Fit n d j hp x) : ∃ k, ∀ x, x ∈ σ ↔ x = k :=
  let ⟨k, hk⟩ := hex; ⟨k, fun x => (h x).trans ⟨fun hx => fit_one hx hk, fun e => e ▸ hk⟩⟩
theorem fit_no {σ : List Int} {n d hp : Int} {j : Nat} (h : ∀ x, x ∈ σ ↔ Fit n d j hp x) (hn : ∀ x, ¬ Fit n d j hp x) : ∀ x, x ∉ σ := fun x hx => hn x ((h x).mp hx)
end Mine
end
section
namespace Mine
open PySem PySem.W PyProof.Rows in
theorem fresh_WB {M : Model} {A : Around} {E : Value → Shared → Prop} {env : Env} {Q : Flow → Shared → Prop} {s : Shared} (h : Q .next s) : wpAny M A (execs [] env) Q E s := by
  w_top off
  walk1
  exact h
end Mine
open PySem PySem.W PyProof.Rows
set_option maxRecDepth 100000
set_option maxHeartbeats 3200000
namespace Mine
local macro_rules | `(tactic| k_room) => `(tactic| ktr_room)
local macro_rules | `(tactic| k_units) => `(tactic| ktr_units)
local macro_rules | `(tactic| k_all) => `(tactic| (refine' List.forall_mem_append.mpr ⟨?a, ?b⟩; (case a => first | exact all_gt (by assumption) (by first | decide | omega) | exact all_ne (by assumption) (by omega)); (case b => k_all)))
local macro_rules | `(tactic| k_updF) => `(tactic| (refine' updF_app ?a ?b; (case a => first | exact all_gt (by assumption) (by first | decide | omega) | exact all_ne (by assumption) (by omega)); (case b => k_updF)))
local macro_rules | `(tactic| k_mem) => `(tactic| first | (refine' List.mem_append_right _ ?b; (case b => k_mem)) | exact List.mem_append_left _ (by assumption))
local macro_rules | `(tactic| walk_at "eval GeneratorExp") => `(tactic| (k_here; k_dflt (refine' gen_start ?hh rfl ?cl ?cell ?h0 ?hx rfl ?room ?_ ?hs; (case hh => rfl); (case cl => exact rfl); (case cell => decide); (case h0 => rfl); (case hx => rfl); (case room => ktr_room); (case hs => exact fun _ => rfl); k_whole)))
local macro_rules | `(tactic| walk_at "GenK") => `(tactic| (k_here; k_dflt (refine' genK_U ?hh ?F ?N ?T ?C ?U ?ht ?hb ?hr ?sm ?hn ?hcl ?mem ?hoc rfl rfl rfl ?xd ?yd ?yc ?_; (case hh => rfl); (case F => k_asm); (case N => k_asm); (case T => k_asm); (case C => exact CodeHd.keeps (by assumption) (Below.stays (by assumption))); (case U => k_updF); (case ht => assumption); (case hb => assumption); (case hr => assumption); (case sm => decide); (case hn => first | exact (show Builtin.Range.rangeSize _ _ _ = ((20 : Nat) : Int) by decide) | exact (show Builtin.Range.rangeSize _ _ _ = ((13 : Nat) : Int) by decide) | exact (show Builtin.Range.rangeSize _ _ _ = ((52 : Nat) : Int) by decide) | exact (show Builtin.Range.rangeSize _ _ _ = ((73 : Nat) : Int) by decide)); (case hcl => rfl); (case mem => k_mem); (case hoc => assumption); (case xd => decide); (case yd => decide); (case yc => decide); k_whole); intro gen' s' ps' ht' F' N' G' ho' hb'; (try dsimp only at N' G')))
local macro_rules | `(tactic| walk_at "call type:set") => `(tactic| (k_here; k_dflt (refine' setGen_U ?hh ?F ?N ?G ?hb ?hn ?_; (case hh => rfl); (case F => k_asm); (case N => k_asm); (case G => assumption); (case hb => assumption); (case hn => decide); k_whole); intro D' so' s' F' N' l1 hS' ho' hb'; (try k_lt l1)))
local macro_rules | `(tactic| walk_at "getMethod ref") => `(tactic| (k_here; k_dflt (first
  | (refine' methodV_N ?N ?m ?v ?b PySem.F.slot_set_intersection PySem.F.type_set_intersection ?_; (case N => k_asm); (case m => k_mem); (case v => assumption); (case b => decide))
  | (refine' methodK_N ?N ?m ?v PySem.F.slot_set_pop PySem.F.type_set_pop ?_; (case N => k_asm); (case m => k_mem); (case v => assumption)))))
local macro_rules | `(tactic| walk_at "call builtin:set.intersection") => `(tactic| (k_here; k_dflt (refine' inter_N ?F ?N ?ma ?mb ?ab ?sa ?sb ?na ?nb ?_; (case F => k_asm); (case N => k_asm); (case ma => k_mem); (case mb => k_mem); (case ab => k_ne); (case sa => assumption); (case sb => assumption); (case na => decide); (case nb => decide); k_whole); intro D' so' h' σ' F' N' l1 hK' hs'; (have l2 := l1); (try k_lt l1)))
local macro_rules | `(tactic| walk_at "call builtin:set.pop") => `(tactic| (k_here; k_dflt (refine' popOne_N ?F ?N ?l ?K ?ex ?_; (case F => k_asm); (case N => k_asm); (case l => assumption); (case K => assumption); (case ex => exact tz_meets (by assumption) (by assumption) (by assumption) (by assumption)); k_whole); intro h' d' t' k' F' N' hk'))
local macro_rules | `(tactic| walk_at "exec Try") => `(tactic| (k_here; (with_reducible show wpAny _ _ (exec (Stmt.Try _ (_ :: _) _ [] _) _) _ _ _); refine wpAny_Try_except ?_))
local macro_rules | `(tactic| walk_at "noteFrame ref") => `(tactic| (k_here; (rename Heap.NewExc _ _ _ _ => nx9); k_dflt (first
  | ((with_reducible show wpAny _ _ (noteFrame _ _) (fun _ s₂ => wpAny _ _ (setFlight _ none) (fun _ s₃ => wpAny _ _ (handleBy _ _ (ExceptHandler.ExceptHandler (some (Expr.Name _ _)) (some _) _ _ :: _)) _ _ s₃) _ s₂) _ _); refine' own_caughtB (X := "ValueError") (T' := "ValueError") ?K ?F ?N ?x ?XB ?TB ?D ?ex PyProof.Rows.Boot.«ValueError» ?n PySem.F.isExc_ValueError PySem.F.notTuple_ValueError ?s ?_ ?a ?b ?c ?d; (case K => assumption); (case F => assumption); (case N => assumption); (case x => assumption); (case XB => assumption); (case TB => assumption); (case D => assumption); (case ex => k_is); (case n => decide); (case s => (rw [isSubtype_type]; kernel_rfl)); (case a => rfl); (case b => rfl); (case c => rfl); (case d => decide); k_whole; intro h' g' T' eo' to' ws' tk' KT' F' N' B' X' P' D' ec' ed' e2' es')
  | (refine' own_caught0 (X := "KeyError") (T' := "KeyError") ?K ?F ?N ?x ?XB ?TB ?D ?ex PyProof.Rows.Boot.«KeyError» ?n kr_isExc_KeyError kr_notTuple_KeyError ?s ?_ ?a ?b ?c; (case K => assumption); (case F => assumption); (case N => assumption); (case x => assumption); (case XB => assumption); (case TB => assumption); (case D => assumption); (case ex => k_is); (case n => decide); (case s => (rw [isSubtype_type]; kernel_rfl)); (case a => rfl); (case b => rfl); (case c => decide); k_whole; intro h' g' T' eo' to' ws' KT' F' N' B' X' P' D' ec' ed' e2' es'))))
local macro_rules | `(tactic| walk_at "exec Raise some some") => `(tactic| (k_here; k_dflt (refine' raise_fromX (X := "ValueError") PySem.F.excCall_ValueError PySem.F.excRaise_ValueError PySem.F.excRaise_ValueError ?F ?X ?T ?ex PyProof.Rows.Boot.«ValueError» ?n ?hh ?hc ?hd ?h2 ?_ ?a ?b ?c ?d ?e; (case F => k_asm); (case X => k_asm); (case T => k_asm); (case ex => k_is); (case n => decide); (case hh => rfl); (case hc => assumption); (case hd => assumption); (case h2 => assumption); (case a => rfl); (case b => rfl); (case c => decide); (case d => rfl); (case e => rfl); k_whole)))
local macro_rules | `(tactic| walk_at "exec Raise some none") => `(tactic| (k_here; k_dflt (refine' raise_outX PySem.F.excCall_IndexError PySem.F.excRaise_IndexError ?F ?X ?T ?ex PyProof.Rows.Boot.«IndexError» ?n ?hh ?_ ?a ?b ?c ?d ?e; (case hh => rfl); (case F => k_asm); (case X => k_asm); (case T => k_asm); (case ex => k_is); (case n => decide); (case a => rfl); (case b => rfl); (case c => decide); (case d => rfl); (case e => rfl); k_whole)))
local macro_rules | `(tactic| walk_at "OutK") => `(tactic| (k_here; k_dflt (refine' outK ?l ?_; (case l => exact (show 1 ≤ sizeLine by decide)); k_whole); intro h' e' x'))
local macro_rules | `(tactic| walk_at "exec Raise some none") => `(tactic| (k_here; k_dflt (refine' raise_inX PySem.F.excCall_IndexError PySem.F.excRaise_IndexError ?F ?X ?T ?ex PyProof.Rows.Boot.«IndexError» ?n ?hh ?hd ?h2 ?_ ?a ?b ?c ?d ?e; (case hd => assumption); (case h2 => assumption); (case hh => rfl); (case F => k_asm); (case X => k_asm); (case T => k_asm); (case ex => k_is); (case n => decide); (case a => rfl); (case b => rfl); (case c => decide); (case d => rfl); (case e => rfl); k_whole)))
local macro_rules | `(tactic| walk_at "FromK") => `(tactic| (k_here; k_dflt (refine' fromK_end ?l ?K ?F ?N ?m ?n ?a ?b ?c ?d ?_; (case l => exact (show 1 ≤ sizeLine by decide)); (case K => assumption); (case F => k_asm); (case N => k_asm); (case m => k_mem); (case n => rfl); (case a => rfl); (case b => rfl); (case c => decide); (case d => rfl); k_whole); intro e' h' tk' R' U'))
local macro_rules | `(tactic| walk_at "InK") => `(tactic| (k_here; k_dflt (refine' inK_end ?l ?K ?F ?N ?m ?a ?d ?_; (case l => exact (show 1 ≤ sizeLine by decide)); (case K => assumption); (case F => k_asm); (case N => k_asm); (case m => k_mem); (case a => rfl); (case d => rfl); k_whole); intro e' h' R' U'))
local macro_rules | `(tactic| kfm_turns) => `(tactic| (refine KPc.turn ?_; kpc_if; kpc_check; refine wpAny_bind (field_zero (by rfl) (by rfl) ?_); refine wpAny_bind (wpAny_holding (wpAny_of_eq (a := _) rfl ?_)); kpc_if; refine wpAny_bind (wpAny_pure ?_); kfm_val; refine wpAny_bind (wpAny_of_eq (a := some _) rfl ?_); refine wpAny_pure ?_; refine KFm.after_field (by kpc_g) (by kpc_text) (by kpc_obj) (by kfm_len) (by kpc_obj) (by kfm_cat2) (by kfm_rest) ?_; intro _ _; kfm_turns))
local macro_rules | `(tactic| walk_at "leaving ref") => `(tactic| (k_here; k_dflt (refine' leaveX_ends ?K rfl ?x ?_; (case x => assumption); (case K => assumption); k_whole); intro h' R' U'))
local macro_rules | `(tactic| walk_at "leaving ref") => `(tactic| (k_here; k_dflt (refine' leaveX_made ?K ?F ?N rfl rfl ?x ?_; (case x => assumption); (case F => assumption); (case N => assumption); (case K => assumption); k_whole); intro h' R' U'))
local macro_rules | `(tactic| walk_at "getMethod ref") => `(tactic| (k_here; (with_reducible show wpAny _ _ (getMethod (Value.ref _) (PySem.Str.ofString "index") _) _ _ _); k_dflt (refine' topMethod_list ?F ?X ?l PySem.F.slot_list_index PySem.F.type_list_index ?_; (case F => k_asm); (case X => k_asm); (case l => k_is))))
local macro_rules | `(tactic| walk_at "call builtin:list.index") => `(tactic| (k_here; (with_reducible show wpAny _ _ (call (Value.builtin _) [Value.ref _, Value.str _ _]) _ _ _); k_dflt (first
  | (refine' topIndex_hit ?F ?X ?l ?t ?j ?s ?_; (case F => k_asm); (case X => k_asm); (case l => k_is); (case t => rfl); (case j => assumption); (case s => decide))
  | (refine' topIndex_none ?F ?X ?l ?t ?j ?s ?x ?A ?_; (case F => k_asm); (case X => k_asm); (case l => k_is); (case t => rfl); (case j => assumption); (case s => decide); (case x => assumption); (case A => rfl); intro h' tk' e' x'))))
local macro_rules | `(tactic| walk_at "call ref") => `(tactic| (k_here; (with_reducible show wpAny _ _ (call (Value.ref 37) _) _ _ _); k_dflt (refine' says_use (to_haab_says _ _ _ _ _ _ ?lo ?hi) ?B ?F ?X ?N ?T ?hk ?hd ?hu ?_; (case B => k_asm); (case F => k_asm); (case X => k_asm); (case N => k_asm); (case T => k_asm); (case hk => exact rfl); (case hd => ktr_room); (case hu => ktr_units); (case lo => omega); (case hi => omega); k_whole); intro D' k' c' x' t' u' kn' h' tk' hk' hc' hkc' hx' F' N' l1; (try (have l9 := gt74 (by repeat (first | exact Tail.base | apply Tail.cons)) l1)); (try k_lt l1)))
local macro_rules | `(tactic| walk_at "call ref") => `(tactic| (k_here; (with_reducible show wpAny _ _ (call (Value.ref 51) _) _ _ _); k_dflt (first
  | (refine' saysR_use (hc_good _ _ _ _ _ _ _ _ _ ?f ?lo ?hi ?hk9) ?B ?F ?X ?N ?T ?hk ?XB ?TB ?D ?hd ?hu ?_; (case B => k_asm); (case F => k_asm); (case X => k_asm); (case N => k_asm); (case T => k_asm); (case hk => exact rfl); (case XB => assumption); (case TB => assumption); (case D => assumption); (case f => exact haab_find' (by assumption) (by omega)); (case lo => omega); (case hi => omega); (case hk9 => omega); (case hd => ktr_room); (case hu => ktr_units); k_whole; intro u' h' tk' F' N')
  | (refine' saysR_use (hc_name _ _ _ _ _ _ _ ?lo ?hi) ?B ?F ?X ?N ?T ?hk ?XB ?TB ?D ?hd ?hu ?_; (case B => k_asm); (case F => k_asm); (case X => k_asm); (case N => k_asm); (case T => k_asm); (case hk => exact rfl); (case XB => assumption); (case TB => assumption); (case D => assumption); (case lo => omega); (case hi => omega); (case hd => ktr_room); (case hu => ktr_units); k_whole; intro e' h' tk' hE'))))
local macro_rules | `(tactic| walk_at "call ref") => `(tactic| (k_here; (with_reducible show wpAny _ _ (call (Value.ref 44) _) _ _ _); k_dflt (refine' says_use (to_tzolkin_says _ _ _ _ _ _ ?lo ?hi) ?B ?F ?X ?N ?T ?hk ?hd ?hu ?_; (case B => k_asm); (case F => k_asm); (case X => k_asm); (case N => k_asm); (case T => k_asm); (case hk => exact rfl); (case hd => ktr_room); (case hu => ktr_units); (case lo => omega); (case hi => omega); k_whole); intro D' k' c' x' t' u' kn' h' tk' hk' hc' hkc' hx' F' N' l1; (try (have l9 := gt74 (by repeat (first | exact Tail.base | apply Tail.cons)) l1)); (try k_lt l1)))
local macro_rules | `(tactic| walk_at "call ref") => `(tactic| (k_here; (with_reducible show wpAny _ _ (call (Value.ref 58) _) _ _ _); k_dflt (first
  | (refine' saysT_use (tz_good _ _ _ _ _ _ _ _ _ ?f ?lo ?hi ?hk9) ?B ?F ?X ?N ?T ?hk ?XB ?TB ?c1 ?c2 ?D ?hT ?h1 ?h2 ?hb ?hp ?hd ?hu ?_; (case B => k_asm); (case F => k_asm); (case X => k_asm); (case N => k_asm); (case T => k_asm); (case hk => exact rfl); (case XB => assumption); (case TB => assumption); (case D => assumption); (case c1 => assumption); (case c2 => assumption); (case hT => repeat (first | exact Tail.base | apply Tail.cons)); (case h1 => assumption); (case h2 => assumption); (case hb => assumption); (case hp => repeat (first | assumption | refine List.forall_mem_cons.mpr ⟨by (first | (dsimp only; assumption) | (refine ltN ?_; dsimp only; omega)), ?_⟩)); (case f => exact tzol_find' (by assumption) (by omega)); (case lo => omega); (case hi => omega); (case hk9 => omega); (case hd => ktr_room); (case hu => ktr_units); k_whole; intro y' u' s' ps' qs' F' N' ht1' ht2' hb' ho' hi' hj'; (try simp only [List.cons_append, List.nil_append] at N'))
  | (refine' saysT_use (tz_day _ _ _ _ _ _ _ _ ?hd9) ?B ?F ?X ?N ?T ?hk ?XB ?TB ?c1 ?c2 ?D ?hT ?h1 ?h2 ?hb ?hp ?hd ?hu ?_; (case B => k_asm); (case F => k_asm); (case X => k_asm); (case N => k_asm); (case T => k_asm); (case hk => exact rfl); (case XB => assumption); (case TB => assumption); (case D => assumption); (case c1 => assumption); (case c2 => assumption); (case hT => repeat (first | exact Tail.base | apply Tail.cons)); (case h1 => assumption); (case h2 => assumption); (case hb => assumption); (case hp => repeat (first | assumption | refine List.forall_mem_cons.mpr ⟨by (first | (dsimp only; assumption) | (refine ltN ?_; dsimp only; omega)), ?_⟩)); (case hd9 => omega); (case hd => ktr_room); (case hu => ktr_units); k_whole; intro e' s' ps' qs' hE' ht1' ht2' hb' ho'; (try simp only [List.cons_append, List.nil_append] at hE'))
  | (refine' saysT_use (tz_name _ _ _ _ _ _ _ ?lo ?hi) ?B ?F ?X ?N ?T ?hk ?XB ?TB ?c1 ?c2 ?D ?hT ?h1 ?h2 ?hb ?hp ?hd ?hu ?_; (case B => k_asm); (case F => k_asm); (case X => k_asm); (case N => k_asm); (case T => k_asm); (case hk => exact rfl); (case XB => assumption); (case TB => assumption); (case D => assumption); (case c1 => assumption); (case c2 => assumption); (case hT => repeat (first | exact Tail.base | apply Tail.cons)); (case h1 => assumption); (case h2 => assumption); (case hb => assumption); (case hp => repeat (first | assumption | refine List.forall_mem_cons.mpr ⟨by (first | (dsimp only; assumption) | (refine ltN ?_; dsimp only; omega)), ?_⟩)); (case lo => omega); (case hi => omega); (case hd => ktr_room); (case hu => ktr_units); k_whole; intro e' s' ps' qs' hE' ht1' ht2' hb' ho'; (try simp only [List.cons_append, List.nil_append] at hE')))))
local macro_rules | `(tactic| walk_at "call ref") => `(tactic| (k_here; (with_reducible show wpAny _ _ (call (Value.ref 51) _) _ _ _); k_dflt (refine' saysR_use (hc_day _ _ _ _ _ _ _ _ ?hd9) ?B ?F ?X ?N ?T ?hk ?XB ?TB ?D ?hd ?hu ?_; (case B => k_asm); (case F => k_asm); (case X => k_asm); (case N => k_asm); (case T => k_asm); (case hk => exact rfl); (case XB => assumption); (case TB => assumption); (case D => assumption); (case hd9 => omega); (case hd => ktr_room); (case hu => ktr_units); k_whole; intro e' h' tk' hE')))
local macro_rules | `(tactic| walk_at "call builtin:set.pop") => `(tactic| (k_here; k_dflt (refine' popOne_N ?F ?N ?l ?K ?ex ?_; (case F => k_asm); (case N => k_asm); (case l => assumption); (case K => assumption); (case ex => exact fit_ex (nth_iff (by assumption) (by assumption) (by assumption) (by assumption) (by assumption) (by assumption) (by assumption) (by assumption) (by assumption) (by assumption) (by assumption) (by assumption) (by assumption) (by assumption) (by assumption) (by assumption)) (by assumption)); k_whole); intro h' d' t' k' F' N' hk'))
local macro_rules | `(tactic| walk_at "call builtin:set.pop") => `(tactic| (k_here; k_dflt (refine' popNone_N ?A ?F ?N ?m ?K ?ex ?_; (case A => rfl); (case F => k_asm); (case N => k_asm); (case m => k_mem); (case K => assumption); (case ex => exact fit_no (nth_iff (by assumption) (by assumption) (by assumption) (by assumption) (by assumption) (by assumption) (by assumption) (by assumption) (by assumption) (by assumption) (by assumption) (by assumption) (by assumption) (by assumption) (by assumption) (by assumption)) (by assumption)); k_whole); intro h' tk' e' x'))
theorem nb_good (w : World) (mean : ExcName → Option Value) (mg mb : Str → Option Value) (T U : Addr) (n d hd : Int) (t t₁ t₂ t₃ t₄ : Tok) (kn kn' j hm : Nat) (y z : Str) (hy : y = tzolN.getD j Str.empty) (hz : z = haabN.getD hm Str.empty) (hj : j < 20) (hd1 : 1 ≤ d) (hd2 : d ≤ 13) (hm19 : hm < 19) (hh1 : 0 ≤ hd) (hh3 : hd ≤ 19) (hh2 : 20 * (hm : Int) + hd < 365)
    (hex : ∃ x, Fit n d j (20 * (hm : Int) + hd) x) (hlo : -2000 ≤ n) (hhi : n < 2000000000) :
    SaysT w mean mg mb 8 300 79 [.ref T, .ref U, .int (584283 + n) t] (fun h₀ L m pre s _ _ Q _ => (T, tup2 d t₁ y t₂ kn) ∈ pre ∧ (U, tup2 hd t₃ z t₄ kn') ∈ pre ∧
      ∀ x u s' ps' qs', Fit n d j (20 * (hm : Int) + hd) x → Fr h₀ L s'.heap m → News h₀ L s'.heap (pre ++ tl ps' qs') → TriplesOk ps'.toList → TriplesOk qs'.toList → AllBare s'.gens → s'.os = s.os → Q (.int (x + (584283 + n)) u) s') := by
  unfold SaysT
  k_fill
  intro dp un gd cn cs a ccd cl outer A₀ base h₀ L m news pre ps qs s Q E B F X N T hkd hdp hu XB TB C57 C78 KD hT hpre ht1 ht2 hbare hret
  obtain rfl := hT.eq
  obtain ⟨hmem, hmem2, hret⟩ := hret
  refine wpAny_call ?_
  k_dflt (refine' code_defC ?k1 ?k2 ?k3 ?k4 ?k5 ?kA ?kF ?kK ?k6 ?k7 ?k8 ?k9 ?kB ?kD ?_ ?c2 ?c3 ?c4; (case kA => exact rfl); (case kF => exact rfl); (case kK => assumption); (case k1 => k_asm); (case k2 => k_asm); (case k3 => k_asm); (case k4 => k_asm); (case k5 => k_asm); (case k6 => k_is); (case k7 => k_is); (case k8 => ktr_room); (case k9 => exact BindsTo.of_eq rfl); (case kB => exact rfl); (case kD => decide +kernel); (case c2 => exact rfl); (case c3 => exact rfl); (case c4 => exact rfl); k_whole; intro g' L' h' tk' cells' FG' F' N' Y' B' X' T' l1; k_cells Y'; (try simp only [List.cons_append, List.nil_append] at N'); (try dsimp only); (try k_lift B'); (try k_fold))
  rename Fr h₀ L _ m => FG
  have KD' := dicts_push (env := envX cn cs L a ccd cl) FG KD rfl
  rename (∀ p ∈ pre ++ tl ps qs, p.1 < _) => l1
  have lpre := fun p h => l1 p (List.mem_append_left _ h)
  have l53 := ltN (l1 (53, tabObj ps) (List.mem_append_right _ (.head _)))
  have l74 := ltN (l1 (74, tabObj qs) (List.mem_append_right _ (.tail _ (.head _))))
  dsimp only at l53 l74
  k_steps
  all_goals
    (rename News h₀ L _ _ => kN
     rename (_ ∈ _) => hk9
     have P := (nth_iff (by assumption) (by assumption) (by assumption) (by assumption) (by assumption) (by assumption) (by assumption) (by assumption) (by assumption) (by assumption) (by assumption) (by assumption) (by assumption) (by assumption) (by assumption) (by assumption) _).mp hk9
     refine hret _ _ _ _ _ P (by assumption) (fun q hq => kN q (.tail _ (.tail _ (.tail _ (.tail _ (.tail _ (.tail _ hq))))))) (by assumption) (by assumption) (by assumption) ?_
     repeat (first | rfl | refine Eq.trans (by assumption) ?_))
theorem nb_none (w : World) (mean : ExcName → Option Value) (mg mb : Str → Option Value) (T U : Addr) (n d hd : Int) (t t₁ t₂ t₃ t₄ : Tok) (kn kn' j hm : Nat) (y z : Str) (hy : y = tzolN.getD j Str.empty) (hz : z = haabN.getD hm Str.empty) (hj : j < 20) (hd1 : 1 ≤ d) (hd2 : d ≤ 13) (hm19 : hm < 19) (hh1 : 0 ≤ hd) (hh3 : hd ≤ 19) (hh2 : 20 * (hm : Int) + hd < 365)
    (hex : ∀ x, ¬ Fit n d j (20 * (hm : Int) + hd) x) (hlo : -2000 ≤ n) (hhi : n < 2000000000) :
    SaysT w mean mg mb 8 300 79 [.ref T, .ref U, .int (584283 + n) t] (fun h₀ L m pre s l base _ E => (T, tup2 d t₁ y t₂ kn) ∈ pre ∧ (U, tup2 hd t₃ z t₄ kn') ∈ pre ∧
      ∀ e s' ps' qs', Ends base h₀ L m l e "IndexError" (pre ++ tl ps' qs') s'.heap → TriplesOk ps'.toList → TriplesOk qs'.toList → AllBare s'.gens → s'.os = s.os → E (.ref e) s') := by
  unfold SaysT
  k_fill
  intro dp un gd cn cs a ccd cl outer A₀ base h₀ L m news pre ps qs s Q E B F X N T hkd hdp hu XB TB C57 C78 KD hT hpre ht1 ht2 hbare hret
  obtain rfl := hT.eq
  obtain ⟨hmem, hmem2, hret⟩ := hret
  refine wpAny_call ?_
  k_dflt (refine' code_defC ?k1 ?k2 ?k3 ?k4 ?k5 ?kA ?kF ?kK ?k6 ?k7 ?k8 ?k9 ?kB ?kD ?_ ?c2 ?c3 ?c4; (case kA => exact rfl); (case kF => exact rfl); (case kK => assumption); (case k1 => k_asm); (case k2 => k_asm); (case k3 => k_asm); (case k4 => k_asm); (case k5 => k_asm); (case k6 => k_is); (case k7 => k_is); (case k8 => ktr_room); (case k9 => exact BindsTo.of_eq rfl); (case kB => exact rfl); (case kD => decide +kernel); (case c2 => exact rfl); (case c3 => exact rfl); (case c4 => exact rfl); k_whole; intro g' L' h' tk' cells' FG' F' N' Y' B' X' T' l1; k_cells Y'; (try simp only [List.cons_append, List.nil_append] at N'); (try dsimp only); (try k_lift B'); (try k_fold))
  rename Fr h₀ L _ m => FG
  have KD' := dicts_push (env := envX cn cs L a ccd cl) FG KD rfl
  rename (∀ p ∈ pre ++ tl ps qs, p.1 < _) => l1
  have lpre := fun p h => l1 p (List.mem_append_left _ h)
  have l53 := ltN (l1 (53, tabObj ps) (List.mem_append_right _ (.head _)))
  have l74 := ltN (l1 (74, tabObj qs) (List.mem_append_right _ (.tail _ (.head _))))
  dsimp only at l53 l74
  k_steps
  all_goals (refine hret _ _ _ _ (ends_turn FG (by assumption) (by assumption) (by assumption) (fun q hq => .tail _ (.tail _ (.tail _ (.tail _ (.tail _ (.tail _ (.tail _ (.tail _ (.tail _ hq)))))))))) (by assumption) (by assumption) (by assumption) ?_)
  all_goals (repeat (first | rfl | refine Eq.trans (by assumption) ?_))
theorem nb_hday (w : World) (mean : ExcName → Option Value) (mg mb : Str → Option Value) (T U : Addr) (n d hd : Int) (t t₁ t₂ t₃ t₄ : Tok) (kn kn' : Nat) (y z : Str) (hd9 : hd < 0 ∨ 19 < hd) (hlo : -2000 ≤ n) (hhi : n < 2000000000) :
    SaysT w mean mg mb 8 300 79 [.ref T, .ref U, .int (584283 + n) t] (fun h₀ L m pre s l base _ E => (T, tup2 d t₁ y t₂ kn) ∈ pre ∧ (U, tup2 hd t₃ z t₄ kn') ∈ pre ∧
      ∀ e s' ps' qs', Ends base h₀ L m l e "IndexError" (pre ++ tl ps' qs') s'.heap → TriplesOk ps'.toList → TriplesOk qs'.toList → AllBare s'.gens → s'.os = s.os → E (.ref e) s') := by
  unfold SaysT
  k_fill
  intro dp un gd cn cs a ccd cl outer A₀ base h₀ L m news pre ps qs s Q E B F X N T hkd hdp hu XB TB C57 C78 KD hT hpre ht1 ht2 hbare hret
  obtain rfl := hT.eq
  obtain ⟨hmem, hmem2, hret⟩ := hret
  refine wpAny_call ?_
  k_dflt (refine' code_defC ?k1 ?k2 ?k3 ?k4 ?k5 ?kA ?kF ?kK ?k6 ?k7 ?k8 ?k9 ?kB ?kD ?_ ?c2 ?c3 ?c4; (case kA => exact rfl); (case kF => exact rfl); (case kK => assumption); (case k1 => k_asm); (case k2 => k_asm); (case k3 => k_asm); (case k4 => k_asm); (case k5 => k_asm); (case k6 => k_is); (case k7 => k_is); (case k8 => ktr_room); (case k9 => exact BindsTo.of_eq rfl); (case kB => exact rfl); (case kD => decide +kernel); (case c2 => exact rfl); (case c3 => exact rfl); (case c4 => exact rfl); k_whole; intro g' L' h' tk' cells' FG' F' N' Y' B' X' T' l1; k_cells Y'; (try simp only [List.cons_append, List.nil_append] at N'); (try dsimp only); (try k_lift B'); (try k_fold))
  rename Fr h₀ L _ m => FG
  have KD' := dicts_push (env := envX cn cs L a ccd cl) FG KD rfl
  rename (∀ p ∈ pre ++ tl ps qs, p.1 < _) => l1
  have lpre := fun p h => l1 p (List.mem_append_left _ h)
  have l53 := ltN (l1 (53, tabObj ps) (List.mem_append_right _ (.head _)))
  have l74 := ltN (l1 (74, tabObj qs) (List.mem_append_right _ (.tail _ (.head _))))
  dsimp only at l53 l74
  k_steps
  all_goals (refine hret _ _ _ _ (ends_N FG (by assumption) (by assumption) (fun q hq => .tail _ (.tail _ (.tail _ hq)))) (by assumption) (by assumption) (by assumption) ?_)
  all_goals (repeat (first | rfl | refine Eq.trans (by assumption) ?_))
theorem nb_hname (w : World) (mean : ExcName → Option Value) (mg mb : Str → Option Value) (T U : Addr) (n d hd : Int) (t t₁ t₂ t₃ t₄ : Tok) (kn kn' : Nat) (y : Str) (hh1 : 0 ≤ hd) (hh3 : hd ≤ 19) (hlo : -2000 ≤ n) (hhi : n < 2000000000) :
    SaysT w mean mg mb 8 300 79 [.ref T, .ref U, .int (584283 + n) t] (fun h₀ L m pre s l base _ E => (T, tup2 d t₁ y t₂ kn) ∈ pre ∧ (U, tup2 hd t₃ "Ajaw" t₄ kn') ∈ pre ∧
      ∀ e s' ps' qs', Ends base h₀ L m l e "ValueError" (pre ++ tl ps' qs') s'.heap → TriplesOk ps'.toList → TriplesOk qs'.toList → AllBare s'.gens → s'.os = s.os → E (.ref e) s') := by
  unfold SaysT
  k_fill
  intro dp un gd cn cs a ccd cl outer A₀ base h₀ L m news pre ps qs s Q E B F X N T hkd hdp hu XB TB C57 C78 KD hT hpre ht1 ht2 hbare hret
  obtain rfl := hT.eq
  obtain ⟨hmem, hmem2, hret⟩ := hret
  refine wpAny_call ?_
  k_dflt (refine' code_defC ?k1 ?k2 ?k3 ?k4 ?k5 ?kA ?kF ?kK ?k6 ?k7 ?k8 ?k9 ?kB ?kD ?_ ?c2 ?c3 ?c4; (case kA => exact rfl); (case kF => exact rfl); (case kK => assumption); (case k1 => k_asm); (case k2 => k_asm); (case k3 => k_asm); (case k4 => k_asm); (case k5 => k_asm); (case k6 => k_is); (case k7 => k_is); (case k8 => ktr_room); (case k9 => exact BindsTo.of_eq rfl); (case kB => exact rfl); (case kD => decide +kernel); (case c2 => exact rfl); (case c3 => exact rfl); (case c4 => exact rfl); k_whole; intro g' L' h' tk' cells' FG' F' N' Y' B' X' T' l1; k_cells Y'; (try simp only [List.cons_append, List.nil_append] at N'); (try dsimp only); (try k_lift B'); (try k_fold))
  rename Fr h₀ L _ m => FG
  have KD' := dicts_push (env := envX cn cs L a ccd cl) FG KD rfl
  rename (∀ p ∈ pre ++ tl ps qs, p.1 < _) => l1
  have lpre := fun p h => l1 p (List.mem_append_left _ h)
  have l53 := ltN (l1 (53, tabObj ps) (List.mem_append_right _ (.head _)))
  have l74 := ltN (l1 (74, tabObj qs) (List.mem_append_right _ (.tail _ (.head _))))
  dsimp only at l53 l74
  k_steps
  all_goals (refine hret _ _ _ _ (ends_N FG (by assumption) (by assumption) (fun q hq => .tail _ (.tail _ (.tail _ hq)))) (by assumption) (by assumption) (by assumption) ?_)
  all_goals (repeat (first | rfl | refine Eq.trans (by assumption) ?_))
theorem nb_tday (w : World) (mean : ExcName → Option Value) (mg mb : Str → Option Value) (T U : Addr) (n d hd : Int) (t t₁ t₂ t₃ t₄ : Tok) (kn kn' hm : Nat) (y z : Str) (hz : z = haabN.getD hm Str.empty) (hm19 : hm < 19) (hh1 : 0 ≤ hd) (hh3 : hd ≤ 19) (hd9 : d < 1 ∨ 13 < d) (hlo : -2000 ≤ n) (hhi : n < 2000000000) :
    SaysT w mean mg mb 8 300 79 [.ref T, .ref U, .int (584283 + n) t] (fun h₀ L m pre s l base _ E => (T, tup2 d t₁ y t₂ kn) ∈ pre ∧ (U, tup2 hd t₃ z t₄ kn') ∈ pre ∧
      ∀ e s' ps' qs', Ends base h₀ L m l e "IndexError" (pre ++ tl ps' qs') s'.heap → TriplesOk ps'.toList → TriplesOk qs'.toList → AllBare s'.gens → s'.os = s.os → E (.ref e) s') := by
  unfold SaysT
  k_fill
  intro dp un gd cn cs a ccd cl outer A₀ base h₀ L m news pre ps qs s Q E B F X N T hkd hdp hu XB TB C57 C78 KD hT hpre ht1 ht2 hbare hret
  obtain rfl := hT.eq
  obtain ⟨hmem, hmem2, hret⟩ := hret
  refine wpAny_call ?_
  k_dflt (refine' code_defC ?k1 ?k2 ?k3 ?k4 ?k5 ?kA ?kF ?kK ?k6 ?k7 ?k8 ?k9 ?kB ?kD ?_ ?c2 ?c3 ?c4; (case kA => exact rfl); (case kF => exact rfl); (case kK => assumption); (case k1 => k_asm); (case k2 => k_asm); (case k3 => k_asm); (case k4 => k_asm); (case k5 => k_asm); (case k6 => k_is); (case k7 => k_is); (case k8 => ktr_room); (case k9 => exact BindsTo.of_eq rfl); (case kB => exact rfl); (case kD => decide +kernel); (case c2 => exact rfl); (case c3 => exact rfl); (case c4 => exact rfl); k_whole; intro g' L' h' tk' cells' FG' F' N' Y' B' X' T' l1; k_cells Y'; (try simp only [List.cons_append, List.nil_append] at N'); (try dsimp only); (try k_lift B'); (try k_fold))
  rename Fr h₀ L _ m => FG
  have KD' := dicts_push (env := envX cn cs L a ccd cl) FG KD rfl
  rename (∀ p ∈ pre ++ tl ps qs, p.1 < _) => l1
  have lpre := fun p h => l1 p (List.mem_append_left _ h)
  have l53 := ltN (l1 (53, tabObj ps) (List.mem_append_right _ (.head _)))
  have l74 := ltN (l1 (74, tabObj qs) (List.mem_append_right _ (.tail _ (.head _))))
  dsimp only at l53 l74
  k_steps
  all_goals (refine hret _ _ _ _ (ends_N FG (by assumption) (by assumption) (fun q hq => .tail _ (.tail _ (.tail _ (.tail _ (.tail _ hq)))))) (by assumption) (by assumption) (by assumption) ?_)
  all_goals (repeat (first | rfl | refine Eq.trans (by assumption) ?_))
theorem nb_tname (w : World) (mean : ExcName → Option Value) (mg mb : Str → Option Value) (T U : Addr) (n d hd : Int) (t t₁ t₂ t₃ t₄ : Tok) (kn kn' hm : Nat) (z : Str) (hz : z = haabN.getD hm Str.empty) (hm19 : hm < 19) (hh1 : 0 ≤ hd) (hh3 : hd ≤ 19) (hd1 : 1 ≤ d) (hd2 : d ≤ 13) (hlo : -2000 ≤ n) (hhi : n < 2000000000) :
    SaysT w mean mg mb 8 300 79 [.ref T, .ref U, .int (584283 + n) t] (fun h₀ L m pre s l base _ E => (T, tup2 d t₁ "Pop" t₂ kn) ∈ pre ∧ (U, tup2 hd t₃ z t₄ kn') ∈ pre ∧
      ∀ e s' ps' qs', Ends base h₀ L m l e "ValueError" (pre ++ tl ps' qs') s'.heap → TriplesOk ps'.toList → TriplesOk qs'.toList → AllBare s'.gens → s'.os = s.os → E (.ref e) s') := by
  unfold SaysT
  k_fill
  intro dp un gd cn cs a ccd cl outer A₀ base h₀ L m news pre ps qs s Q E B F X N T hkd hdp hu XB TB C57 C78 KD hT hpre ht1 ht2 hbare hret
  obtain rfl := hT.eq
  obtain ⟨hmem, hmem2, hret⟩ := hret
  refine wpAny_call ?_
  k_dflt (refine' code_defC ?k1 ?k2 ?k3 ?k4 ?k5 ?kA ?kF ?kK ?k6 ?k7 ?k8 ?k9 ?kB ?kD ?_ ?c2 ?c3 ?c4; (case kA => exact rfl); (case kF => exact rfl); (case kK => assumption); (case k1 => k_asm); (case k2 => k_asm); (case k3 => k_asm); (case k4 => k_asm); (case k5 => k_asm); (case k6 => k_is); (case k7 => k_is); (case k8 => ktr_room); (case k9 => exact BindsTo.of_eq rfl); (case kB => exact rfl); (case kD => decide +kernel); (case c2 => exact rfl); (case c3 => exact rfl); (case c4 => exact rfl); k_whole; intro g' L' h' tk' cells' FG' F' N' Y' B' X' T' l1; k_cells Y'; (try simp only [List.cons_append, List.nil_append] at N'); (try dsimp only); (try k_lift B'); (try k_fold))
  rename Fr h₀ L _ m => FG
  have KD' := dicts_push (env := envX cn cs L a ccd cl) FG KD rfl
  rename (∀ p ∈ pre ++ tl ps qs, p.1 < _) => l1
  have lpre := fun p h => l1 p (List.mem_append_left _ h)
  have l53 := ltN (l1 (53, tabObj ps) (List.mem_append_right _ (.head _)))
  have l74 := ltN (l1 (74, tabObj qs) (List.mem_append_right _ (.tail _ (.head _))))
  dsimp only at l53 l74
  k_steps
  all_goals (refine hret _ _ _ _ (ends_N FG (by assumption) (by assumption) (fun q hq => .tail _ (.tail _ (.tail _ (.tail _ (.tail _ hq)))))) (by assumption) (by assumption) (by assumption) ?_)
  all_goals (repeat (first | rfl | refine Eq.trans (by assumption) ?_))
end Mine
end
section
namespace Mine
open PySem PySem.W PyProof.Rows in
theorem fresh_WL {M : Model} {A : Around} {E : Value → Shared → Prop} {env : Env} {Q : Flow → Shared → Prop} {s : Shared} (h : Q .next s) : wpAny M A (execs [] env) Q E s := by
  w_top off
  walk1
  exact h
end Mine
open PySem PySem.W PyProof.Rows
set_option maxRecDepth 100000
set_option maxHeartbeats 3200000
namespace Mine
abbrev SaysL (w : World) (mean : ExcName → Option Value) (mg mb : Str → Option Value) (dN uN : Nat) (f : Addr) (vs : List Value)
    (R : Heap → Addr → (Str → Option Value) → List (Addr × Obj) → Shared → (Value → Shared → Prop) → Prop) : Prop :=
  ∀ (dp un : Nat) (gd : Option (List PySem.Code)) (cn : Str) (cs : Scope) (a : Addr) (ccd : Value) (A₀ : Around) (base h₀ : Heap) (L : Addr) (m : Str → Option Value)
    (news pre : List (Addr × Obj)) (ps qs : Array Value) (s : Shared) (Q E : Value → Shared → Prop),
    Below A₀ base [] h₀ → Fr h₀ L s.heap m → (Mine.hd.heap_39 w.params).In h₀ → News h₀ L s.heap news → Top topProg LL mean mg mb h₀ → cs.kind = .function →
    dp + dN < recursionLimit → un + uN < cLine →
    (Mine.hd.heap_39 w.params).In base → Top topProg LL mean mg mb base → CodeHd base 57 53 → CodeHd base 78 74 →
    Tail news pre (tl ps qs) → (∀ q ∈ pre, 74 < q.1) → TriplesOk ps.toList → TriplesOk qs.toList → AllBare s.gens →
    R h₀ L m pre s Q →
    wpAny (model PySem.Challenge.rw_bn0005_01.row.prog w) (ktrTop dp un gd cn cs L a ccd [] []) (call (.ref f) vs) Q E s
/-- the call comes back with v, the ledger's head and the frame as they were -/
abbrev Back (h₀ : Heap) (L : Addr) (m : Str → Option Value) (pre : List (Addr × Obj)) (s : Shared) (V : Value → Prop) (Q : Value → Shared → Prop) : Prop :=
  ∀ v s' ps' qs', V v → Fr h₀ L s'.heap m → News h₀ L s'.heap (pre ++ tl ps' qs') → TriplesOk ps'.toList → TriplesOk qs'.toList → AllBare s'.gens → s'.os = s.os → Q v s'
local macro_rules | `(tactic| k_room) => `(tactic| ktr_room)
local macro_rules | `(tactic| k_units) => `(tactic| ktr_units)
local macro_rules | `(tactic| k_all) => `(tactic| (refine' List.forall_mem_append.mpr ⟨?a, ?b⟩; (case a => first | exact all_gt (by assumption) (by first | decide | omega) | exact all_ne (by assumption) (by omega)); (case b => k_all)))
local macro_rules | `(tactic| k_updF) => `(tactic| (refine' updF_app ?a ?b; (case a => first | exact all_gt (by assumption) (by first | decide | omega) | exact all_ne (by assumption) (by omega)); (case b => k_updF)))
local macro_rules | `(tactic| k_mem) => `(tactic| first | (refine' List.mem_append_right _ ?b; (case b => k_mem)) | exact List.mem_append_left _ (by assumption))
local macro_rules | `(tactic| walk_at "eval GeneratorExp") => `(tactic| (k_here; k_dflt (refine' gen_start ?hh rfl ?cl ?cell ?h0 ?hx rfl ?room ?_ ?hs; (case hh => rfl); (case cl => exact rfl); (case cell => decide); (case h0 => rfl); (case hx => rfl); (case room => ktr_room); (case hs => exact fun _ => rfl); k_whole)))
local macro_rules | `(tactic| walk_at "GenK") => `(tactic| (k_here; k_dflt (refine' genK_U ?hh ?F ?N ?T ?C ?U ?ht ?hb ?hr ?sm ?hn ?hcl ?mem ?hoc rfl rfl rfl ?xd ?yd ?yc ?_; (case hh => rfl); (case F => k_asm); (case N => k_asm); (case T => k_asm); (case C => exact CodeHd.keeps (by assumption) (Below.stays (by assumption))); (case U => k_updF); (case ht => assumption); (case hb => assumption); (case hr => assumption); (case sm => decide); (case hn => first | exact (show Builtin.Range.rangeSize _ _ _ = ((20 : Nat) : Int) by decide) | exact (show Builtin.Range.rangeSize _ _ _ = ((13 : Nat) : Int) by decide) | exact (show Builtin.Range.rangeSize _ _ _ = ((52 : Nat) : Int) by decide) | exact (show Builtin.Range.rangeSize _ _ _ = ((73 : Nat) : Int) by decide)); (case hcl => rfl); (case mem => k_mem); (case hoc => assumption); (case xd => decide); (case yd => decide); (case yc => decide); k_whole); intro gen' s' ps' ht' F' N' G' ho' hb'; (try dsimp only at N' G')))
local macro_rules | `(tactic| walk_at "call type:set") => `(tactic| (k_here; k_dflt (refine' setGen_U ?hh ?F ?N ?G ?hb ?hn ?_; (case hh => rfl); (case F => k_asm); (case N => k_asm); (case G => assumption); (case hb => assumption); (case hn => decide); k_whole); intro D' so' s' F' N' l1 hS' ho' hb'; (try k_lt l1)))
local macro_rules | `(tactic| walk_at "getMethod ref") => `(tactic| (k_here; k_dflt (first
  | (refine' methodV_N ?N ?m ?v ?b PySem.F.slot_set_intersection PySem.F.type_set_intersection ?_; (case N => k_asm); (case m => k_mem); (case v => assumption); (case b => decide))
  | (refine' methodK_N ?N ?m ?v PySem.F.slot_set_pop PySem.F.type_set_pop ?_; (case N => k_asm); (case m => k_mem); (case v => assumption)))))
local macro_rules | `(tactic| walk_at "call builtin:set.intersection") => `(tactic| (k_here; k_dflt (refine' inter_N ?F ?N ?ma ?mb ?ab ?sa ?sb ?na ?nb ?_; (case F => k_asm); (case N => k_asm); (case ma => k_mem); (case mb => k_mem); (case ab => k_ne); (case sa => assumption); (case sb => assumption); (case na => decide); (case nb => decide); k_whole); intro D' so' h' σ' F' N' l1 hK' hs'; (have l2 := l1); (try k_lt l1)))
local macro_rules | `(tactic| walk_at "call builtin:set.pop") => `(tactic| (k_here; k_dflt (refine' popOne_N ?F ?N ?l ?K ?ex ?_; (case F => k_asm); (case N => k_asm); (case l => assumption); (case K => assumption); (case ex => exact tz_meets (by assumption) (by assumption) (by assumption) (by assumption)); k_whole); intro h' d' t' k' F' N' hk'))
local macro_rules | `(tactic| walk_at "exec Try") => `(tactic| (k_here; (with_reducible show wpAny _ _ (exec (Stmt.Try _ (_ :: _) _ [] _) _) _ _ _); refine wpAny_Try_except ?_))
local macro_rules | `(tactic| walk_at "noteFrame ref") => `(tactic| (k_here; (rename Heap.NewExc _ _ _ _ => nx9); k_dflt (first
  | ((with_reducible show wpAny _ _ (noteFrame _ _) (fun _ s₂ => wpAny _ _ (setFlight _ none) (fun _ s₃ => wpAny _ _ (handleBy _ _ (ExceptHandler.ExceptHandler (some (Expr.Name _ _)) (some _) _ _ :: _)) _ _ s₃) _ s₂) _ _); refine' own_caughtB (X := "ValueError") (T' := "ValueError") ?K ?F ?N ?x ?XB ?TB ?D ?ex PyProof.Rows.Boot.«ValueError» ?n PySem.F.isExc_ValueError PySem.F.notTuple_ValueError ?s ?_ ?a ?b ?c ?d; (case K => assumption); (case F => assumption); (case N => assumption); (case x => assumption); (case XB => assumption); (case TB => assumption); (case D => assumption); (case ex => k_is); (case n => decide); (case s => (rw [isSubtype_type]; kernel_rfl)); (case a => rfl); (case b => rfl); (case c => rfl); (case d => decide); k_whole; intro h' g' T' eo' to' ws' tk' KT' F' N' B' X' P' D' ec' ed' e2' es')
  | (refine' own_caught0 (X := "KeyError") (T' := "KeyError") ?K ?F ?N ?x ?XB ?TB ?D ?ex PyProof.Rows.Boot.«KeyError» ?n kr_isExc_KeyError kr_notTuple_KeyError ?s ?_ ?a ?b ?c; (case K => assumption); (case F => assumption); (case N => assumption); (case x => assumption); (case XB => assumption); (case TB => assumption); (case D => assumption); (case ex => k_is); (case n => decide); (case s => (rw [isSubtype_type]; kernel_rfl)); (case a => rfl); (case b => rfl); (case c => decide); k_whole; intro h' g' T' eo' to' ws' KT' F' N' B' X' P' D' ec' ed' e2' es'))))
local macro_rules | `(tactic| walk_at "exec Raise some some") => `(tactic| (k_here; k_dflt (refine' raise_fromX (X := "ValueError") PySem.F.excCall_ValueError PySem.F.excRaise_ValueError PySem.F.excRaise_ValueError ?F ?X ?T ?ex PyProof.Rows.Boot.«ValueError» ?n ?hh ?hc ?hd ?h2 ?_ ?a ?b ?c ?d ?e; (case F => k_asm); (case X => k_asm); (case T => k_asm); (case ex => k_is); (case n => decide); (case hh => rfl); (case hc => assumption); (case hd => assumption); (case h2 => assumption); (case a => rfl); (case b => rfl); (case c => decide); (case d => rfl); (case e => rfl); k_whole)))
local macro_rules | `(tactic| walk_at "exec Raise some none") => `(tactic| (k_here; k_dflt (refine' raise_outX PySem.F.excCall_IndexError PySem.F.excRaise_IndexError ?F ?X ?T ?ex PyProof.Rows.Boot.«IndexError» ?n ?hh ?_ ?a ?b ?c ?d ?e; (case hh => rfl); (case F => k_asm); (case X => k_asm); (case T => k_asm); (case ex => k_is); (case n => decide); (case a => rfl); (case b => rfl); (case c => decide); (case d => rfl); (case e => rfl); k_whole)))
local macro_rules | `(tactic| walk_at "OutK") => `(tactic| (k_here; k_dflt (refine' outK ?l ?_; (case l => exact (show 1 ≤ sizeLine by decide)); k_whole); intro h' e' x'))
local macro_rules | `(tactic| walk_at "exec Raise some none") => `(tactic| (k_here; k_dflt (refine' raise_inX PySem.F.excCall_IndexError PySem.F.excRaise_IndexError ?F ?X ?T ?ex PyProof.Rows.Boot.«IndexError» ?n ?hh ?hd ?h2 ?_ ?a ?b ?c ?d ?e; (case hd => assumption); (case h2 => assumption); (case hh => rfl); (case F => k_asm); (case X => k_asm); (case T => k_asm); (case ex => k_is); (case n => decide); (case a => rfl); (case b => rfl); (case c => decide); (case d => rfl); (case e => rfl); k_whole)))
local macro_rules | `(tactic| walk_at "FromK") => `(tactic| (k_here; k_dflt (refine' fromK_end ?l ?K ?F ?N ?m ?n ?a ?b ?c ?d ?_; (case l => exact (show 1 ≤ sizeLine by decide)); (case K => assumption); (case F => k_asm); (case N => k_asm); (case m => k_mem); (case n => rfl); (case a => rfl); (case b => rfl); (case c => decide); (case d => rfl); k_whole); intro e' h' tk' R' U'))
local macro_rules | `(tactic| walk_at "InK") => `(tactic| (k_here; k_dflt (refine' inK_end ?l ?K ?F ?N ?m ?a ?d ?_; (case l => exact (show 1 ≤ sizeLine by decide)); (case K => assumption); (case F => k_asm); (case N => k_asm); (case m => k_mem); (case a => rfl); (case d => rfl); k_whole); intro e' h' R' U'))
local macro_rules | `(tactic| kfm_turns) => `(tactic| (refine KPc.turn ?_; kpc_if; kpc_check; refine wpAny_bind (field_zero (by rfl) (by rfl) ?_); refine wpAny_bind (wpAny_holding (wpAny_of_eq (a := _) rfl ?_)); kpc_if; refine wpAny_bind (wpAny_pure ?_); kfm_val; refine wpAny_bind (wpAny_of_eq (a := some _) rfl ?_); refine wpAny_pure ?_; refine KFm.after_field (by kpc_g) (by kpc_text) (by kpc_obj) (by kfm_len) (by kpc_obj) (by kfm_cat2) (by kfm_rest) ?_; intro _ _; kfm_turns))
local macro_rules | `(tactic| walk_at "leaving ref") => `(tactic| (k_here; k_dflt (refine' leaveX_ends ?K rfl ?x ?_; (case x => assumption); (case K => assumption); k_whole); intro h' R' U'))
local macro_rules | `(tactic| walk_at "leaving ref") => `(tactic| (k_here; k_dflt (refine' leaveX_made ?K ?F ?N rfl rfl ?x ?_; (case x => assumption); (case F => assumption); (case N => assumption); (case K => assumption); k_whole); intro h' R' U'))
local macro_rules | `(tactic| walk_at "getMethod ref") => `(tactic| (k_here; (with_reducible show wpAny _ _ (getMethod (Value.ref _) (PySem.Str.ofString "index") _) _ _ _); k_dflt (refine' topMethod_list ?F ?X ?l PySem.F.slot_list_index PySem.F.type_list_index ?_; (case F => k_asm); (case X => k_asm); (case l => k_is))))
local macro_rules | `(tactic| walk_at "call builtin:list.index") => `(tactic| (k_here; (with_reducible show wpAny _ _ (call (Value.builtin _) [Value.ref _, Value.str _ _]) _ _ _); k_dflt (first
  | (refine' topIndex_hit ?F ?X ?l ?t ?j ?s ?_; (case F => k_asm); (case X => k_asm); (case l => k_is); (case t => rfl); (case j => assumption); (case s => decide))
  | (refine' topIndex_none ?F ?X ?l ?t ?j ?s ?x ?A ?_; (case F => k_asm); (case X => k_asm); (case l => k_is); (case t => rfl); (case j => assumption); (case s => decide); (case x => assumption); (case A => rfl); intro h' tk' e' x'))))
local macro_rules | `(tactic| walk_at "call ref") => `(tactic| (k_here; (with_reducible show wpAny _ _ (call (Value.ref 37) _) _ _ _); k_dflt (refine' says_use (to_haab_says _ _ _ _ _ _ ?lo ?hi) ?B ?F ?X ?N ?T ?hk ?hd ?hu ?_; (case B => k_asm); (case F => k_asm); (case X => k_asm); (case N => k_asm); (case T => k_asm); (case hk => exact rfl); (case hd => ktr_room); (case hu => ktr_units); (case lo => omega); (case hi => omega); k_whole); intro D' k' c' x' t' u' kn' h' tk' hk' hc' hkc' hx' F' N' l1; (try (have l9 := gt74 (by repeat (first | exact Tail.base | apply Tail.cons)) l1)); (try k_lt l1)))
local macro_rules | `(tactic| walk_at "call ref") => `(tactic| (k_here; (with_reducible show wpAny _ _ (call (Value.ref 51) _) _ _ _); k_dflt (first
  | (refine' saysR_use (hc_good _ _ _ _ _ _ _ _ _ ?f ?lo ?hi ?hk9) ?B ?F ?X ?N ?T ?hk ?XB ?TB ?D ?hd ?hu ?_; (case B => k_asm); (case F => k_asm); (case X => k_asm); (case N => k_asm); (case T => k_asm); (case hk => exact rfl); (case XB => assumption); (case TB => assumption); (case D => assumption); (case f => exact haab_find' (by assumption) (by omega)); (case lo => omega); (case hi => omega); (case hk9 => omega); (case hd => ktr_room); (case hu => ktr_units); k_whole; intro u' h' tk' F' N')
  | (refine' saysR_use (hc_name _ _ _ _ _ _ _ ?lo ?hi) ?B ?F ?X ?N ?T ?hk ?XB ?TB ?D ?hd ?hu ?_; (case B => k_asm); (case F => k_asm); (case X => k_asm); (case N => k_asm); (case T => k_asm); (case hk => exact rfl); (case XB => assumption); (case TB => assumption); (case D => assumption); (case lo => omega); (case hi => omega); (case hd => ktr_room); (case hu => ktr_units); k_whole; intro e' h' tk' hE'))))
local macro_rules | `(tactic| walk_at "call ref") => `(tactic| (k_here; (with_reducible show wpAny _ _ (call (Value.ref 44) _) _ _ _); k_dflt (refine' says_use (to_tzolkin_says _ _ _ _ _ _ ?lo ?hi) ?B ?F ?X ?N ?T ?hk ?hd ?hu ?_; (case B => k_asm); (case F => k_asm); (case X => k_asm); (case N => k_asm); (case T => k_asm); (case hk => exact rfl); (case hd => ktr_room); (case hu => ktr_units); (case lo => omega); (case hi => omega); k_whole); intro D' k' c' x' t' u' kn' h' tk' hk' hc' hkc' hx' F' N' l1; (try (have l9 := gt74 (by repeat (first | exact Tail.base | apply Tail.cons)) l1)); (try k_lt l1)))
local macro_rules | `(tactic| walk_at "call ref") => `(tactic| (k_here; (with_reducible show wpAny _ _ (call (Value.ref 58) _) _ _ _); k_dflt (first
  | (refine' saysT_use (tz_good _ _ _ _ _ _ _ _ _ ?f ?lo ?hi ?hk9) ?B ?F ?X ?N ?T ?hk ?XB ?TB ?c1 ?c2 ?D ?hT ?h1 ?h2 ?hb ?hp ?hd ?hu ?_; (case B => k_asm); (case F => k_asm); (case X => k_asm); (case N => k_asm); (case T => k_asm); (case hk => exact rfl); (case XB => assumption); (case TB => assumption); (case D => assumption); (case c1 => assumption); (case c2 => assumption); (case hT => repeat (first | exact Tail.base | apply Tail.cons)); (case h1 => assumption); (case h2 => assumption); (case hb => assumption); (case hp => repeat (first | assumption | refine List.forall_mem_cons.mpr ⟨by (first | (dsimp only; assumption) | (refine ltN ?_; dsimp only; omega)), ?_⟩)); (case f => exact tzol_find' (by assumption) (by omega)); (case lo => omega); (case hi => omega); (case hk9 => omega); (case hd => ktr_room); (case hu => ktr_units); k_whole; intro y' u' s' ps' qs' F' N' ht1' ht2' hb' ho' hi' hj'; (try simp only [List.cons_append, List.nil_append] at N'))
  | (refine' saysT_use (tz_day _ _ _ _ _ _ _ _ ?hd9) ?B ?F ?X ?N ?T ?hk ?XB ?TB ?c1 ?c2 ?D ?hT ?h1 ?h2 ?hb ?hp ?hd ?hu ?_; (case B => k_asm); (case F => k_asm); (case X => k_asm); (case N => k_asm); (case T => k_asm); (case hk => exact rfl); (case XB => assumption); (case TB => assumption); (case D => assumption); (case c1 => assumption); (case c2 => assumption); (case hT => repeat (first | exact Tail.base | apply Tail.cons)); (case h1 => assumption); (case h2 => assumption); (case hb => assumption); (case hp => repeat (first | assumption | refine List.forall_mem_cons.mpr ⟨by (first | (dsimp only; assumption) | (refine ltN ?_; dsimp only; omega)), ?_⟩)); (case hd9 => omega); (case hd => ktr_room); (case hu => ktr_units); k_whole; intro e' s' ps' qs' hE' ht1' ht2' hb' ho'; (try simp only [List.cons_append, List.nil_append] at hE'))
  | (refine' saysT_use (tz_name _ _ _ _ _ _ _ ?lo ?hi) ?B ?F ?X ?N ?T ?hk ?XB ?TB ?c1 ?c2 ?D ?hT ?h1 ?h2 ?hb ?hp ?hd ?hu ?_; (case B => k_asm); (case F => k_asm); (case X => k_asm); (case N => k_asm); (case T => k_asm); (case hk => exact rfl); (case XB => assumption); (case TB => assumption); (case D => assumption); (case c1 => assumption); (case c2 => assumption); (case hT => repeat (first | exact Tail.base | apply Tail.cons)); (case h1 => assumption); (case h2 => assumption); (case hb => assumption); (case hp => repeat (first | assumption | refine List.forall_mem_cons.mpr ⟨by (first | (dsimp only; assumption) | (refine ltN ?_; dsimp only; omega)), ?_⟩)); (case lo => omega); (case hi => omega); (case hd => ktr_room); (case hu => ktr_units); k_whole; intro e' s' ps' qs' hE' ht1' ht2' hb' ho'; (try simp only [List.cons_append, List.nil_append] at hE')))))
local macro_rules | `(tactic| walk_at "noteFrame ref") => `(tactic| (k_here; (rename RaisedSN _ _ _ _ _ _ _ => rsX); first
  | (k_dflt (refine' caught_SN0 (T' := "IndexError") ?R ?F ?K ?U ?XB ?TB ?D ?T0 ?ex PyProof.Rows.Boot.«IndexError» ?hn PySem.F.isExc_IndexError PySem.F.notTuple_IndexError ?hs ?_; (case R => assumption); (case F => assumption); (case K => assumption); (case U => assumption); (case XB => assumption); (case TB => assumption); (case D => assumption); (case T0 => first | assumption | exact KtsTurn.refl); (case hs => kts_sub); (case ex => k_is); (case hn => decide); k_whole); intro h' g' T' F' N' K' X' P' D'; (try k_lift K'); (try k_sweep))
  | (k_dflt (refine' kts_lookSN ?R ?F ?K ?U ?D ?_; (case R => assumption); (case F => assumption); (case K => assumption); (case U => assumption); (case D => assumption); k_whole); intro h' R' U'; (try dsimp only at R' U' ⊢))))
local macro_rules | `(tactic| walk_at "call ref") => `(tactic| (k_here; k_dflt (first
  | (refine' saysT_use ?S ?B ?F ?X ?N ?T ?hk ?XB ?TB ?c1 ?c2 ?D ?hT ?h1 ?h2 ?hb ?hp ?hd ?hu ?_; (case S => assumption); (case B => k_asm); (case F => k_asm); (case X => k_asm); (case N => k_asm); (case T => k_asm); (case hk => exact rfl); (case XB => assumption); (case TB => assumption); (case D => assumption); (case c1 => assumption); (case c2 => assumption); (case hT => repeat (first | exact Tail.base | apply Tail.cons)); (case h1 => assumption); (case h2 => assumption); (case hb => assumption); (case hp => repeat (first | assumption | refine List.forall_mem_cons.mpr ⟨by (first | (dsimp only; assumption) | (refine ltN ?_; dsimp only; omega)), ?_⟩)); (case hd => ktr_room); (case hu => ktr_units); k_whole; refine ⟨by assumption, ?_⟩; first | (intro e' s' ps' qs' hE' ht1' ht2' hb' ho'; (try simp only [List.cons_append, List.nil_append] at hE'); obtain ⟨G', F', R', U'⟩ := hE') | (intro v' u' s' ps' qs' hv' F' N' ht1' ht2' hb' ho'; (try simp only [List.cons_append, List.nil_append] at N'))))))
local macro_rules | `(tactic| walk_at "call ref") => `(tactic| (k_here; k_dflt (first
  | (refine' saysR_use ?S ?B ?F ?X ?N ?T ?hk ?XB ?TB ?D ?hd ?hu ?_; (case S => assumption); (case B => k_asm); (case F => k_asm); (case X => k_asm); (case N => k_asm); (case T => k_asm); (case hk => exact rfl); (case XB => assumption); (case TB => assumption); (case D => assumption); (case hd => ktr_room); (case hu => ktr_units); k_whole; first | (intro e' h' tk' hE'; obtain ⟨G', F', R', U'⟩ := hE') | (intro v' u' h' tk' hv' F' N')))))
abbrev RBad (P : List (Addr × Obj) → Prop) (X : String) : Heap → Addr → (Str → Option Value) → List (Addr × Obj) → Shared → List Env → Heap → (Value → Shared → Prop) → (Value → Shared → Prop) → Prop :=
  fun h₀ L m pre s l base _ E => P pre ∧ ∀ e s' ps' qs', Ends base h₀ L m l e X (pre ++ tl ps' qs') s'.heap → TriplesOk ps'.toList → TriplesOk qs'.toList → AllBare s'.gens → s'.os = s.os → E (.ref e) s'
abbrev RGood (P : List (Addr × Obj) → Prop) (V : Int → Prop) : Heap → Addr → (Str → Option Value) → List (Addr × Obj) → Shared → List Env → Heap → (Value → Shared → Prop) → (Value → Shared → Prop) → Prop :=
  fun h₀ L m pre s _ _ Q _ => P pre ∧ ∀ x u s' ps' qs', V x → Fr h₀ L s'.heap m → News h₀ L s'.heap (pre ++ tl ps' qs') → TriplesOk ps'.toList → TriplesOk qs'.toList → AllBare s'.gens → s'.os = s.os → Q (.int x u) s'
abbrev MBad (X : String) : Heap → Addr → (Str → Option Value) → List (Addr × Obj) → Shared → List Env → Heap → (Value → Shared → Prop) → (Value → Shared → Prop) → Prop :=
  fun h₀ L m news s l base _ E => ∀ e h' tk', Ends base h₀ L m l e X news h' → E (.ref e) { s with heap := h', toks := tk' }
abbrev MGood (V : Int → Prop) : Heap → Addr → (Str → Option Value) → List (Addr × Obj) → Shared → List Env → Heap → (Value → Shared → Prop) → (Value → Shared → Prop) → Prop :=
  fun h₀ L m news s _ _ Q _ => ∀ v u h' tk', V v → Fr h₀ L h' m → News h₀ L h' news → Q (.int v u) { s with heap := h', toks := tk' }
theorem tb_good (w : World) (mean : ExcName → Option Value) (mg mb : Str → Option Value) (T U : Addr) (j : Int) (t : Tok) (P : List (Addr × Obj) → Prop) (V : Int → Prop) (S : SaysT w mean mg mb 8 300 79 [.ref T, .ref U, .int j t] (RGood P V)) :
    SaysL w mean mg mb 12 400 109 [.ref T, .ref U, .int j t] (fun h₀ L m pre s Q => P pre ∧ Back h₀ L m pre s (fun v => ∃ x u, v = .int x u ∧ V x) Q) := by
  unfold SaysL
  k_fill
  intro dp un gd cn cs a ccd A₀ base h₀ L m news pre ps qs s Q E B F X N T hkd hdp hu XB TB C57 C78 hT hpre ht1 ht2 hbare hret
  obtain rfl := hT.eq
  obtain ⟨hP, hret⟩ := hret
  refine wpAny_call ?_
  k_dflt (refine' code_defS0 ?k1 ?k2 ?k3 ?k4 ?k5 ?kA ?k6 ?k7 ?k8 ?k9 ?kB ?_ ?cK ?c2 ?c3 ?c4 ?c5; (case kA => exact rfl); (case k2 => k_asm); (case k1 => k_asm); (case k3 => k_asm); (case k4 => k_asm); (case k5 => k_asm); (case k6 => k_is); (case k7 => k_is); (case k8 => ktr_room); (case k9 => exact BindsTo.of_eq rfl); (case kB => exact locs rfl); (case cK => assumption); (case c2 => exact rfl); (case c3 => exact rfl); (case c4 => exact rfl); (case c5 => decide); k_whole; intro g' L' h' FG' F' N' B' X' T' D'; (try dsimp only); (try k_lift B'); (try k_fold))
  k_steps
  all_goals (refine hret _ _ _ _ ⟨_, _, rfl, by assumption⟩ (by assumption) (by assumption) (by assumption) (by assumption) (by assumption) ?_; exact (by assumption))
theorem tb_index (w : World) (mean : ExcName → Option Value) (mg mb : Str → Option Value) (T U : Addr) (j : Int) (t : Tok) (P : List (Addr × Obj) → Prop) (S : SaysT w mean mg mb 8 300 79 [.ref T, .ref U, .int j t] (RBad P "IndexError")) :
    SaysL w mean mg mb 12 400 109 [.ref T, .ref U, .int j t] (fun h₀ L m pre s Q => P pre ∧ Back h₀ L m pre s (fun v => ∃ u, v = .str "index" u) Q) := by
  unfold SaysL
  k_fill
  intro dp un gd cn cs a ccd A₀ base h₀ L m news pre ps qs s Q E B F X N T hkd hdp hu XB TB C57 C78 hT hpre ht1 ht2 hbare hret
  obtain rfl := hT.eq
  obtain ⟨hP, hret⟩ := hret
  refine wpAny_call ?_
  k_dflt (refine' code_defS0 ?k1 ?k2 ?k3 ?k4 ?k5 ?kA ?k6 ?k7 ?k8 ?k9 ?kB ?_ ?cK ?c2 ?c3 ?c4 ?c5; (case kA => exact rfl); (case k2 => k_asm); (case k1 => k_asm); (case k3 => k_asm); (case k4 => k_asm); (case k5 => k_asm); (case k6 => k_is); (case k7 => k_is); (case k8 => ktr_room); (case k9 => exact BindsTo.of_eq rfl); (case kB => exact locs rfl); (case cK => assumption); (case c2 => exact rfl); (case c3 => exact rfl); (case c4 => exact rfl); (case c5 => decide); k_whole; intro g' L' h' FG' F' N' B' X' T' D'; (try dsimp only); (try k_lift B'); (try k_fold))
  k_steps
  all_goals (refine hret _ _ _ _ ⟨_, rfl⟩ (by assumption) (by assumption) (by assumption) (by assumption) (by assumption) ?_; exact (by assumption))
theorem tb_value (w : World) (mean : ExcName → Option Value) (mg mb : Str → Option Value) (T U : Addr) (j : Int) (t : Tok) (P : List (Addr × Obj) → Prop) (S : SaysT w mean mg mb 8 300 79 [.ref T, .ref U, .int j t] (RBad P "ValueError")) :
    SaysL w mean mg mb 12 400 109 [.ref T, .ref U, .int j t] (fun h₀ L m pre s Q => P pre ∧ Back h₀ L m pre s (fun v => ∃ u, v = .str "value" u) Q) := by
  unfold SaysL
  k_fill
  intro dp un gd cn cs a ccd A₀ base h₀ L m news pre ps qs s Q E B F X N T hkd hdp hu XB TB C57 C78 hT hpre ht1 ht2 hbare hret
  obtain rfl := hT.eq
  obtain ⟨hP, hret⟩ := hret
  refine wpAny_call ?_
  k_dflt (refine' code_defS0 ?k1 ?k2 ?k3 ?k4 ?k5 ?kA ?k6 ?k7 ?k8 ?k9 ?kB ?_ ?cK ?c2 ?c3 ?c4 ?c5; (case kA => exact rfl); (case k2 => k_asm); (case k1 => k_asm); (case k3 => k_asm); (case k4 => k_asm); (case k5 => k_asm); (case k6 => k_is); (case k7 => k_is); (case k8 => ktr_room); (case k9 => exact BindsTo.of_eq rfl); (case kB => exact locs rfl); (case cK => assumption); (case c2 => exact rfl); (case c3 => exact rfl); (case c4 => exact rfl); (case c5 => decide); k_whole; intro g' L' h' FG' F' N' B' X' T' D'; (try dsimp only); (try k_lift B'); (try k_fold))
  k_steps
  all_goals (refine hret _ _ _ _ ⟨_, rfl⟩ (by assumption) (by assumption) (by assumption) (by assumption) (by assumption) ?_; exact (by assumption))
theorem tt_good (w : World) (mean : ExcName → Option Value) (mg mb : Str → Option Value) (T : Addr) (j : Int) (t : Tok) (P : List (Addr × Obj) → Prop) (V : Int → Prop) (S : SaysT w mean mg mb 8 300 72 [.ref T, .int j t] (RGood P V)) :
    SaysL w mean mg mb 12 400 116 [.ref T, .int j t] (fun h₀ L m pre s Q => P pre ∧ Back h₀ L m pre s (fun v => ∃ x u, v = .int x u ∧ V x) Q) := by
  unfold SaysL
  k_fill
  intro dp un gd cn cs a ccd A₀ base h₀ L m news pre ps qs s Q E B F X N T hkd hdp hu XB TB C57 C78 hT hpre ht1 ht2 hbare hret
  obtain rfl := hT.eq
  obtain ⟨hP, hret⟩ := hret
  refine wpAny_call ?_
  k_dflt (refine' code_defS0 ?k1 ?k2 ?k3 ?k4 ?k5 ?kA ?k6 ?k7 ?k8 ?k9 ?kB ?_ ?cK ?c2 ?c3 ?c4 ?c5; (case kA => exact rfl); (case k2 => k_asm); (case k1 => k_asm); (case k3 => k_asm); (case k4 => k_asm); (case k5 => k_asm); (case k6 => k_is); (case k7 => k_is); (case k8 => ktr_room); (case k9 => exact BindsTo.of_eq rfl); (case kB => exact locs rfl); (case cK => assumption); (case c2 => exact rfl); (case c3 => exact rfl); (case c4 => exact rfl); (case c5 => decide); k_whole; intro g' L' h' FG' F' N' B' X' T' D'; (try dsimp only); (try k_lift B'); (try k_fold))
  k_steps
  all_goals (refine hret _ _ _ _ ⟨_, _, rfl, by assumption⟩ (by assumption) (by assumption) (by assumption) (by assumption) (by assumption) ?_; exact (by assumption))
theorem tt_index (w : World) (mean : ExcName → Option Value) (mg mb : Str → Option Value) (T : Addr) (j : Int) (t : Tok) (P : List (Addr × Obj) → Prop) (S : SaysT w mean mg mb 8 300 72 [.ref T, .int j t] (RBad P "IndexError")) :
    SaysL w mean mg mb 12 400 116 [.ref T, .int j t] (fun h₀ L m pre s Q => P pre ∧ Back h₀ L m pre s (fun v => ∃ u, v = .str "index" u) Q) := by
  unfold SaysL
  k_fill
  intro dp un gd cn cs a ccd A₀ base h₀ L m news pre ps qs s Q E B F X N T hkd hdp hu XB TB C57 C78 hT hpre ht1 ht2 hbare hret
  obtain rfl := hT.eq
  obtain ⟨hP, hret⟩ := hret
  refine wpAny_call ?_
  k_dflt (refine' code_defS0 ?k1 ?k2 ?k3 ?k4 ?k5 ?kA ?k6 ?k7 ?k8 ?k9 ?kB ?_ ?cK ?c2 ?c3 ?c4 ?c5; (case kA => exact rfl); (case k2 => k_asm); (case k1 => k_asm); (case k3 => k_asm); (case k4 => k_asm); (case k5 => k_asm); (case k6 => k_is); (case k7 => k_is); (case k8 => ktr_room); (case k9 => exact BindsTo.of_eq rfl); (case kB => exact locs rfl); (case cK => assumption); (case c2 => exact rfl); (case c3 => exact rfl); (case c4 => exact rfl); (case c5 => decide); k_whole; intro g' L' h' FG' F' N' B' X' T' D'; (try dsimp only); (try k_lift B'); (try k_fold))
  k_steps
  all_goals (refine hret _ _ _ _ ⟨_, rfl⟩ (by assumption) (by assumption) (by assumption) (by assumption) (by assumption) ?_; exact (by assumption))
theorem tt_value (w : World) (mean : ExcName → Option Value) (mg mb : Str → Option Value) (T : Addr) (j : Int) (t : Tok) (P : List (Addr × Obj) → Prop) (S : SaysT w mean mg mb 8 300 72 [.ref T, .int j t] (RBad P "ValueError")) :
    SaysL w mean mg mb 12 400 116 [.ref T, .int j t] (fun h₀ L m pre s Q => P pre ∧ Back h₀ L m pre s (fun v => ∃ u, v = .str "value" u) Q) := by
  unfold SaysL
  k_fill
  intro dp un gd cn cs a ccd A₀ base h₀ L m news pre ps qs s Q E B F X N T hkd hdp hu XB TB C57 C78 hT hpre ht1 ht2 hbare hret
  obtain rfl := hT.eq
  obtain ⟨hP, hret⟩ := hret
  refine wpAny_call ?_
  k_dflt (refine' code_defS0 ?k1 ?k2 ?k3 ?k4 ?k5 ?kA ?k6 ?k7 ?k8 ?k9 ?kB ?_ ?cK ?c2 ?c3 ?c4 ?c5; (case kA => exact rfl); (case k2 => k_asm); (case k1 => k_asm); (case k3 => k_asm); (case k4 => k_asm); (case k5 => k_asm); (case k6 => k_is); (case k7 => k_is); (case k8 => ktr_room); (case k9 => exact BindsTo.of_eq rfl); (case kB => exact locs rfl); (case cK => assumption); (case c2 => exact rfl); (case c3 => exact rfl); (case c4 => exact rfl); (case c5 => decide); k_whole; intro g' L' h' FG' F' N' B' X' T' D'; (try dsimp only); (try k_lift B'); (try k_fold))
  k_steps
  all_goals (refine hret _ _ _ _ ⟨_, rfl⟩ (by assumption) (by assumption) (by assumption) (by assumption) (by assumption) ?_; exact (by assumption))
theorem tm_good (w : World) (mean : ExcName → Option Value) (mg mb : Str → Option Value) (y : Str) (j : Int) (t t' : Tok) (V : Int → Prop) (S : SaysR w mean mg mb 8 200 65 [.str y t', .int j t] (MGood V)) :
    SaysL w mean mg mb 12 400 123 [.str y t', .int j t] (fun h₀ L m pre s Q => Back h₀ L m pre s (fun v => ∃ x u, v = .int x u ∧ V x) Q) := by
  unfold SaysL
  k_fill
  intro dp un gd cn cs a ccd A₀ base h₀ L m news pre ps qs s Q E B F X N T hkd hdp hu XB TB C57 C78 hT hpre ht1 ht2 hbare hret
  obtain rfl := hT.eq
  refine wpAny_call ?_
  k_dflt (refine' code_defS0 ?k1 ?k2 ?k3 ?k4 ?k5 ?kA ?k6 ?k7 ?k8 ?k9 ?kB ?_ ?cK ?c2 ?c3 ?c4 ?c5; (case kA => exact rfl); (case k2 => k_asm); (case k1 => k_asm); (case k3 => k_asm); (case k4 => k_asm); (case k5 => k_asm); (case k6 => k_is); (case k7 => k_is); (case k8 => ktr_room); (case k9 => exact BindsTo.of_eq rfl); (case kB => exact locs rfl); (case cK => assumption); (case c2 => exact rfl); (case c3 => exact rfl); (case c4 => exact rfl); (case c5 => decide); k_whole; intro g' L' h' FG' F' N' B' X' T' D'; (try dsimp only); (try k_lift B'); (try k_fold))
  k_steps
  all_goals exact hret _ _ _ _ ⟨_, _, rfl, by assumption⟩ (by assumption) (by assumption) (by assumption) (by assumption) hbare rfl
theorem tm_index (w : World) (mean : ExcName → Option Value) (mg mb : Str → Option Value) (y : Str) (j : Int) (t t' : Tok) (S : SaysR w mean mg mb 8 200 65 [.str y t', .int j t] (MBad "IndexError")) :
    SaysL w mean mg mb 12 400 123 [.str y t', .int j t] (fun h₀ L m pre s Q => Back h₀ L m pre s (fun v => ∃ u, v = .str "index" u) Q) := by
  unfold SaysL
  k_fill
  intro dp un gd cn cs a ccd A₀ base h₀ L m news pre ps qs s Q E B F X N T hkd hdp hu XB TB C57 C78 hT hpre ht1 ht2 hbare hret
  obtain rfl := hT.eq
  refine wpAny_call ?_
  k_dflt (refine' code_defS0 ?k1 ?k2 ?k3 ?k4 ?k5 ?kA ?k6 ?k7 ?k8 ?k9 ?kB ?_ ?cK ?c2 ?c3 ?c4 ?c5; (case kA => exact rfl); (case k2 => k_asm); (case k1 => k_asm); (case k3 => k_asm); (case k4 => k_asm); (case k5 => k_asm); (case k6 => k_is); (case k7 => k_is); (case k8 => ktr_room); (case k9 => exact BindsTo.of_eq rfl); (case kB => exact locs rfl); (case cK => assumption); (case c2 => exact rfl); (case c3 => exact rfl); (case c4 => exact rfl); (case c5 => decide); k_whole; intro g' L' h' FG' F' N' B' X' T' D'; (try dsimp only); (try k_lift B'); (try k_fold))
  k_steps
  all_goals exact hret _ _ _ _ ⟨_, rfl⟩ (by assumption) (by assumption) (by assumption) (by assumption) hbare rfl
theorem tm_value (w : World) (mean : ExcName → Option Value) (mg mb : Str → Option Value) (y : Str) (j : Int) (t t' : Tok) (S : SaysR w mean mg mb 8 200 65 [.str y t', .int j t] (MBad "ValueError")) :
    SaysL w mean mg mb 12 400 123 [.str y t', .int j t] (fun h₀ L m pre s Q => Back h₀ L m pre s (fun v => ∃ u, v = .str "value" u) Q) := by
  unfold SaysL
  k_fill
  intro dp un gd cn cs a ccd A₀ base h₀ L m news pre ps qs s Q E B F X N T hkd hdp hu XB TB C57 C78 hT hpre ht1 ht2 hbare hret
  obtain rfl := hT.eq
  refine wpAny_call ?_
  k_dflt (refine' code_defS0 ?k1 ?k2 ?k3 ?k4 ?k5 ?kA ?k6 ?k7 ?k8 ?k9 ?kB ?_ ?cK ?c2 ?c3 ?c4 ?c5; (case kA => exact rfl); (case k2 => k_asm); (case k1 => k_asm); (case k3 => k_asm); (case k4 => k_asm); (case k5 => k_asm); (case k6 => k_is); (case k7 => k_is); (case k8 => ktr_room); (case k9 => exact BindsTo.of_eq rfl); (case kB => exact locs rfl); (case cK => assumption); (case c2 => exact rfl); (case c3 => exact rfl); (case c4 => exact rfl); (case c5 => decide); k_whole; intro g' L' h' FG' F' N' B' X' T' D'; (try dsimp only); (try k_lift B'); (try k_fold))
  k_steps
  all_goals exact hret _ _ _ _ ⟨_, rfl⟩ (by assumption) (by assumption) (by assumption) (by assumption) hbare rfl
end Mine
end
section
namespace Mine
open PySem PySem.W PyProof.Rows in
theorem fresh_WH {M : Model} {A : Around} {E : Value → Shared → Prop} {env : Env} {Q : Flow → Shared → Prop} {s : Shared} (h : Q .next s) : wpAny M A (execs [] env) Q E s := by
  w_top off
  walk1
  exact h
end Mine
open PySem PySem.W PyProof.Rows
set_option maxRecDepth 100000
set_option maxHeartbeats 3200000
namespace Mine
local macro_rules | `(tactic| k_room) => `(tactic| ktr_room)
local macro_rules | `(tactic| k_units) => `(tactic| ktr_units)
local macro_rules | `(tactic| k_all) => `(tactic| (refine' List.forall_mem_append.mpr ⟨?a, ?b⟩; (case a => first | exact all_gt (by assumption) (by first | decide | omega) | exact all_ne (by assumption) (by omega)); (case b => k_all)))
local macro_rules | `(tactic| k_updF) => `(tactic| (refine' updF_app ?a ?b; (case a => first | exact all_gt (by assumption) (by first | decide | omega) | exact all_ne (by assumption) (by omega)); (case b => k_updF)))
local macro_rules | `(tactic| k_mem) => `(tactic| first | (refine' List.mem_append_right _ ?b; (case b => k_mem)) | exact List.mem_append_left _ (by assumption))
local macro_rules | `(tactic| walk_at "eval GeneratorExp") => `(tactic| (k_here; k_dflt (refine' gen_start ?hh rfl ?cl ?cell ?h0 ?hx rfl ?room ?_ ?hs; (case hh => rfl); (case cl => exact rfl); (case cell => decide); (case h0 => rfl); (case hx => rfl); (case room => ktr_room); (case hs => exact fun _ => rfl); k_whole)))
local macro_rules | `(tactic| walk_at "GenK") => `(tactic| (k_here; k_dflt (refine' genK_U ?hh ?F ?N ?T ?C ?U ?ht ?hb ?hr ?sm ?hn ?hcl ?mem ?hoc rfl rfl rfl ?xd ?yd ?yc ?_; (case hh => rfl); (case F => k_asm); (case N => k_asm); (case T => k_asm); (case C => exact CodeHd.keeps (by assumption) (Below.stays (by assumption))); (case U => k_updF); (case ht => assumption); (case hb => assumption); (case hr => assumption); (case sm => decide); (case hn => first | exact (show Builtin.Range.rangeSize _ _ _ = ((20 : Nat) : Int) by decide) | exact (show Builtin.Range.rangeSize _ _ _ = ((13 : Nat) : Int) by decide) | exact (show Builtin.Range.rangeSize _ _ _ = ((52 : Nat) : Int) by decide) | exact (show Builtin.Range.rangeSize _ _ _ = ((73 : Nat) : Int) by decide)); (case hcl => rfl); (case mem => k_mem); (case hoc => assumption); (case xd => decide); (case yd => decide); (case yc => decide); k_whole); intro gen' s' ps' ht' F' N' G' ho' hb'; (try dsimp only at N' G')))
local macro_rules | `(tactic| walk_at "call type:set") => `(tactic| (k_here; k_dflt (refine' setGen_U ?hh ?F ?N ?G ?hb ?hn ?_; (case hh => rfl); (case F => k_asm); (case N => k_asm); (case G => assumption); (case hb => assumption); (case hn => decide); k_whole); intro D' so' s' F' N' l1 hS' ho' hb'; (try k_lt l1)))
local macro_rules | `(tactic| walk_at "getMethod ref") => `(tactic| (k_here; k_dflt (first
  | (refine' methodV_N ?N ?m ?v ?b PySem.F.slot_set_intersection PySem.F.type_set_intersection ?_; (case N => k_asm); (case m => k_mem); (case v => assumption); (case b => decide))
  | (refine' methodK_N ?N ?m ?v PySem.F.slot_set_pop PySem.F.type_set_pop ?_; (case N => k_asm); (case m => k_mem); (case v => assumption)))))
local macro_rules | `(tactic| walk_at "call builtin:set.intersection") => `(tactic| (k_here; k_dflt (refine' inter_N ?F ?N ?ma ?mb ?ab ?sa ?sb ?na ?nb ?_; (case F => k_asm); (case N => k_asm); (case ma => k_mem); (case mb => k_mem); (case ab => k_ne); (case sa => assumption); (case sb => assumption); (case na => decide); (case nb => decide); k_whole); intro D' so' h' σ' F' N' l1 hK' hs'; (have l2 := l1); (try k_lt l1)))
local macro_rules | `(tactic| walk_at "call builtin:set.pop") => `(tactic| (k_here; k_dflt (refine' popOne_N ?F ?N ?l ?K ?ex ?_; (case F => k_asm); (case N => k_asm); (case l => assumption); (case K => assumption); (case ex => exact tz_meets (by assumption) (by assumption) (by assumption) (by assumption)); k_whole); intro h' d' t' k' F' N' hk'))
local macro_rules | `(tactic| walk_at "exec Try") => `(tactic| (k_here; (with_reducible show wpAny _ _ (exec (Stmt.Try _ (_ :: _) _ [] _) _) _ _ _); refine wpAny_Try_except ?_))
local macro_rules | `(tactic| walk_at "noteFrame ref") => `(tactic| (k_here; (rename Heap.NewExc _ _ _ _ => nx9); k_dflt (first
  | ((with_reducible show wpAny _ _ (noteFrame _ _) (fun _ s₂ => wpAny _ _ (setFlight _ none) (fun _ s₃ => wpAny _ _ (handleBy _ _ (ExceptHandler.ExceptHandler (some (Expr.Name _ _)) (some _) _ _ :: _)) _ _ s₃) _ s₂) _ _); refine' own_caughtB (X := "ValueError") (T' := "ValueError") ?K ?F ?N ?x ?XB ?TB ?D ?ex PyProof.Rows.Boot.«ValueError» ?n PySem.F.isExc_ValueError PySem.F.notTuple_ValueError ?s ?_ ?a ?b ?c ?d; (case K => assumption); (case F => assumption); (case N => assumption); (case x => assumption); (case XB => assumption); (case TB => assumption); (case D => assumption); (case ex => k_is); (case n => decide); (case s => (rw [isSubtype_type]; kernel_rfl)); (case a => rfl); (case b => rfl); (case c => rfl); (case d => decide); k_whole; intro h' g' T' eo' to' ws' tk' KT' F' N' B' X' P' D' ec' ed' e2' es')
  | (refine' own_caught0 (X := "KeyError") (T' := "KeyError") ?K ?F ?N ?x ?XB ?TB ?D ?ex PyProof.Rows.Boot.«KeyError» ?n kr_isExc_KeyError kr_notTuple_KeyError ?s ?_ ?a ?b ?c; (case K => assumption); (case F => assumption); (case N => assumption); (case x => assumption); (case XB => assumption); (case TB => assumption); (case D => assumption); (case ex => k_is); (case n => decide); (case s => (rw [isSubtype_type]; kernel_rfl)); (case a => rfl); (case b => rfl); (case c => decide); k_whole; intro h' g' T' eo' to' ws' KT' F' N' B' X' P' D' ec' ed' e2' es'))))
local macro_rules | `(tactic| walk_at "exec Raise some some") => `(tactic| (k_here; k_dflt (refine' raise_fromX (X := "ValueError") PySem.F.excCall_ValueError PySem.F.excRaise_ValueError PySem.F.excRaise_ValueError ?F ?X ?T ?ex PyProof.Rows.Boot.«ValueError» ?n ?hh ?hc ?hd ?h2 ?_ ?a ?b ?c ?d ?e; (case F => k_asm); (case X => k_asm); (case T => k_asm); (case ex => k_is); (case n => decide); (case hh => rfl); (case hc => assumption); (case hd => assumption); (case h2 => assumption); (case a => rfl); (case b => rfl); (case c => decide); (case d => rfl); (case e => rfl); k_whole)))
local macro_rules | `(tactic| walk_at "exec Raise some none") => `(tactic| (k_here; k_dflt (refine' raise_outX PySem.F.excCall_IndexError PySem.F.excRaise_IndexError ?F ?X ?T ?ex PyProof.Rows.Boot.«IndexError» ?n ?hh ?_ ?a ?b ?c ?d ?e; (case hh => rfl); (case F => k_asm); (case X => k_asm); (case T => k_asm); (case ex => k_is); (case n => decide); (case a => rfl); (case b => rfl); (case c => decide); (case d => rfl); (case e => rfl); k_whole)))
local macro_rules | `(tactic| walk_at "OutK") => `(tactic| (k_here; k_dflt (refine' outK ?l ?_; (case l => exact (show 1 ≤ sizeLine by decide)); k_whole); intro h' e' x'))
local macro_rules | `(tactic| walk_at "exec Raise some none") => `(tactic| (k_here; k_dflt (refine' raise_inX PySem.F.excCall_IndexError PySem.F.excRaise_IndexError ?F ?X ?T ?ex PyProof.Rows.Boot.«IndexError» ?n ?hh ?hd ?h2 ?_ ?a ?b ?c ?d ?e; (case hd => assumption); (case h2 => assumption); (case hh => rfl); (case F => k_asm); (case X => k_asm); (case T => k_asm); (case ex => k_is); (case n => decide); (case a => rfl); (case b => rfl); (case c => decide); (case d => rfl); (case e => rfl); k_whole)))
local macro_rules | `(tactic| walk_at "FromK") => `(tactic| (k_here; k_dflt (refine' fromK_end ?l ?K ?F ?N ?m ?n ?a ?b ?c ?d ?_; (case l => exact (show 1 ≤ sizeLine by decide)); (case K => assumption); (case F => k_asm); (case N => k_asm); (case m => k_mem); (case n => rfl); (case a => rfl); (case b => rfl); (case c => decide); (case d => rfl); k_whole); intro e' h' tk' R' U'))
local macro_rules | `(tactic| walk_at "InK") => `(tactic| (k_here; k_dflt (refine' inK_end ?l ?K ?F ?N ?m ?a ?d ?_; (case l => exact (show 1 ≤ sizeLine by decide)); (case K => assumption); (case F => k_asm); (case N => k_asm); (case m => k_mem); (case a => rfl); (case d => rfl); k_whole); intro e' h' R' U'))
local macro_rules | `(tactic| kfm_turns) => `(tactic| (refine KPc.turn ?_; kpc_if; kpc_check; refine wpAny_bind (field_zero (by rfl) (by rfl) ?_); refine wpAny_bind (wpAny_holding (wpAny_of_eq (a := _) rfl ?_)); kpc_if; refine wpAny_bind (wpAny_pure ?_); kfm_val; refine wpAny_bind (wpAny_of_eq (a := some _) rfl ?_); refine wpAny_pure ?_; refine KFm.after_field (by kpc_g) (by kpc_text) (by kpc_obj) (by kfm_len) (by kpc_obj) (by kfm_cat2) (by kfm_rest) ?_; intro _ _; kfm_turns))
local macro_rules | `(tactic| walk_at "leaving ref") => `(tactic| (k_here; k_dflt (refine' leaveX_ends ?K rfl ?x ?_; (case x => assumption); (case K => assumption); k_whole); intro h' R' U'))
local macro_rules | `(tactic| walk_at "leaving ref") => `(tactic| (k_here; k_dflt (refine' leaveX_made ?K ?F ?N rfl rfl ?x ?_; (case x => assumption); (case F => assumption); (case N => assumption); (case K => assumption); k_whole); intro h' R' U'))
local macro_rules | `(tactic| walk_at "getMethod ref") => `(tactic| (k_here; (with_reducible show wpAny _ _ (getMethod (Value.ref _) (PySem.Str.ofString "index") _) _ _ _); k_dflt (refine' topMethod_list ?F ?X ?l PySem.F.slot_list_index PySem.F.type_list_index ?_; (case F => k_asm); (case X => k_asm); (case l => k_is))))
local macro_rules | `(tactic| walk_at "call builtin:list.index") => `(tactic| (k_here; (with_reducible show wpAny _ _ (call (Value.builtin _) [Value.ref _, Value.str _ _]) _ _ _); k_dflt (first
  | (refine' topIndex_hit ?F ?X ?l ?t ?j ?s ?_; (case F => k_asm); (case X => k_asm); (case l => k_is); (case t => rfl); (case j => assumption); (case s => decide))
  | (refine' topIndex_none ?F ?X ?l ?t ?j ?s ?x ?A ?_; (case F => k_asm); (case X => k_asm); (case l => k_is); (case t => rfl); (case j => assumption); (case s => decide); (case x => assumption); (case A => rfl); intro h' tk' e' x'))))
theorem wheels_says (w : World) (mean : ExcName → Option Value) (mg mb : Str → Option Value) (v : Int) (t : Tok) :
    Says w mean mg mb 3 30 88 [.int v t] (fun h₀ L m news s _ Q _ =>
      ∀ D a b c d t₁ t₂ t₃ t₄ kn h' tk', a = (3 + v) % 13 + 1 → b = (19 + v) % 20 → c = (263 + v) % 365 % 20 → d = (263 + v) % 365 / 20 → Fr h₀ L h' m →
        News h₀ L h' ((D, ({ cls := .type "tuple", data := .seq #[.int a t₁, .int b t₂, .int c t₃, .int d t₄] kn } : Obj)) :: news) → (∀ p ∈ news, p.1 < D) → Q (.ref D) { s with heap := h', toks := tk' }) := by
  unfold Says
  k_fill
  intro dp un gd cn cs a ccd cl outer A₀ base h₀ L m news s Q E B F X N T hk hd hu hret
  refine wpAny_call ?_
  k_dflt cell_enter
  k_steps
  all_goals
    (have e1 : (3 + v).fmod 13 + 1 = (3 + v) % 13 + 1 := by rw [fm (by decide)]
     have e2 : (19 + v).fmod 20 = (19 + v) % 20 := by rw [fm (by decide)]
     have e3 : ((13 * 20 + 3 + v).fmod 365).fmod 20 = (263 + v) % 365 % 20 := by rw [fm (by decide), fm (by decide)]; congr 2
     have e4 : ((13 * 20 + 3 + v).fmod 365).fdiv 20 = (263 + v) % 365 / 20 := by rw [fm (by decide), fd (by decide)]; congr 2
     exact hret _ _ _ _ _ _ _ _ _ _ _ _ e1 e2 e3 e4 (by assumption) (by assumption) (by assumption))
theorem fm13 (a : Int) : a.fmod 13 = a % 13 := fm (by decide)
theorem fm20 (a : Int) : a.fmod 20 = a % 20 := fm (by decide)
theorem fm19 (a : Int) : a.fmod 19 = a % 19 := fm (by decide)
theorem ltt_says (w : World) (mean : ExcName → Option Value) (mg mb : Str → Option Value) (nu nm wnu wnm : Int) (t₁ t₂ t₃ t₄ : Tok) (h1 : 1 ≤ nu) (h2 : nu ≤ 13) (h3 : 0 ≤ nm) (h4 : nm < 20) (h5 : 1 ≤ wnu) (h6 : wnu ≤ 13) (h7 : 0 ≤ wnm) (h8 : wnm < 20) :
    Says w mean mg mb 3 30 95 [.int nu t₁, .int nm t₂, .int wnu t₃, .int wnm t₄] (fun h₀ L m news s _ Q _ =>
      ∀ x u h' tk', 0 ≤ x → x < 260 → (nu - 1 + x) % 13 + 1 = wnu → (nm + x) % 20 = wnm → Fr h₀ L h' m → News h₀ L h' news → Q (.int x u) { s with heap := h', toks := tk' }) := by
  unfold Says
  k_fill
  intro dp un gd cn cs a ccd cl outer A₀ base h₀ L m news s Q E B F X N T hk hd hu hret
  refine wpAny_call ?_
  k_dflt cell_enter
  k_with "exec While Compare cons nil" => k_while (fun _ name number days => 0 ≤ days ∧ days ≤ (wnm - nm) % 20 ∧ name = (nm + days) % 20 ∧ number = (nu - 1 + days) % 13 + 1) (fun _ _ _ days => ((wnm - nm) % 20 - days).toNat) "name" "number" "days"
  k_with "state" => (simp only [fm13, fm20] at *; (try (refine ⟨?_, ?_, ?_, ?_⟩)); all_goals omega)
  k_with "measure" => (simp only [fm13, fm20] at *; omega)
  k_with "exec While Compare cons nil" => k_while (fun _ number days => (wnm - nm) % 20 ≤ days ∧ days ≤ (wnm - nm) % 20 + 20 * ((2 * (wnu - nu - (wnm - nm) % 20)) % 13) ∧ (days - (wnm - nm) % 20) % 20 = 0 ∧ number = (nu - 1 + days) % 13 + 1) (fun _ _ days => ((wnm - nm) % 20 + 20 * ((2 * (wnu - nu - (wnm - nm) % 20)) % 13) - days).toNat) "number" "days"
  k_steps
  all_goals (simp only [fm13, fm20] at *; exact hret _ _ _ _ (by omega) (by omega) (by omega) (by omega) (by assumption) (by assumption))
  k_with_none
end Mine
end
section
namespace Mine
open PySem PySem.W PyProof.Rows in
theorem fresh_WI {M : Model} {A : Around} {E : Value → Shared → Prop} {env : Env} {Q : Flow → Shared → Prop} {s : Shared} (h : Q .next s) : wpAny M A (execs [] env) Q E s := by
  w_top off
  walk1
  exact h
end Mine
open PySem PySem.W PyProof.Rows
set_option maxRecDepth 100000
set_option maxHeartbeats 3200000
namespace Mine
local macro_rules | `(tactic| k_room) => `(tactic| ktr_room)
local macro_rules | `(tactic| k_units) => `(tactic| ktr_units)
local macro_rules | `(tactic| k_all) => `(tactic| (refine' List.forall_mem_append.mpr ⟨?a, ?b⟩; (case a => first | exact all_gt (by assumption) (by first | decide | omega) | exact all_ne (by assumption) (by omega)); (case b => k_all)))
local macro_rules | `(tactic| k_updF) => `(tactic| (refine' updF_app ?a ?b; (case a => first | exact all_gt (by assumption) (by first | decide | omega) | exact all_ne (by assumption) (by omega)); (case b => k_updF)))
local macro_rules | `(tactic| k_mem) => `(tactic| first | (refine' List.mem_append_right _ ?b; (case b => k_mem)) | exact List.mem_append_left _ (by assumption))
local macro_rules | `(tactic| walk_at "eval GeneratorExp") => `(tactic| (k_here; k_dflt (refine' gen_start ?hh rfl ?cl ?cell ?h0 ?hx rfl ?room ?_ ?hs; (case hh => rfl); (case cl => exact rfl); (case cell => decide); (case h0 => rfl); (case hx => rfl); (case room => ktr_room); (case hs => exact fun _ => rfl); k_whole)))
local macro_rules | `(tactic| walk_at "GenK") => `(tactic| (k_here; k_dflt (refine' genK_U ?hh ?F ?N ?T ?C ?U ?ht ?hb ?hr ?sm ?hn ?hcl ?mem ?hoc rfl rfl rfl ?xd ?yd ?yc ?_; (case hh => rfl); (case F => k_asm); (case N => k_asm); (case T => k_asm); (case C => exact CodeHd.keeps (by assumption) (Below.stays (by assumption))); (case U => k_updF); (case ht => assumption); (case hb => assumption); (case hr => assumption); (case sm => decide); (case hn => first | exact (show Builtin.Range.rangeSize _ _ _ = ((20 : Nat) : Int) by decide) | exact (show Builtin.Range.rangeSize _ _ _ = ((13 : Nat) : Int) by decide) | exact (show Builtin.Range.rangeSize _ _ _ = ((52 : Nat) : Int) by decide) | exact (show Builtin.Range.rangeSize _ _ _ = ((73 : Nat) : Int) by decide)); (case hcl => rfl); (case mem => k_mem); (case hoc => assumption); (case xd => decide); (case yd => decide); (case yc => decide); k_whole); intro gen' s' ps' ht' F' N' G' ho' hb'; (try dsimp only at N' G')))
local macro_rules | `(tactic| walk_at "call type:set") => `(tactic| (k_here; k_dflt (refine' setGen_U ?hh ?F ?N ?G ?hb ?hn ?_; (case hh => rfl); (case F => k_asm); (case N => k_asm); (case G => assumption); (case hb => assumption); (case hn => decide); k_whole); intro D' so' s' F' N' l1 hS' ho' hb'; (try k_lt l1)))
local macro_rules | `(tactic| walk_at "getMethod ref") => `(tactic| (k_here; k_dflt (first
  | (refine' methodV_N ?N ?m ?v ?b PySem.F.slot_set_intersection PySem.F.type_set_intersection ?_; (case N => k_asm); (case m => k_mem); (case v => assumption); (case b => decide))
  | (refine' methodK_N ?N ?m ?v PySem.F.slot_set_pop PySem.F.type_set_pop ?_; (case N => k_asm); (case m => k_mem); (case v => assumption)))))
local macro_rules | `(tactic| walk_at "call builtin:set.intersection") => `(tactic| (k_here; k_dflt (refine' inter_N ?F ?N ?ma ?mb ?ab ?sa ?sb ?na ?nb ?_; (case F => k_asm); (case N => k_asm); (case ma => k_mem); (case mb => k_mem); (case ab => k_ne); (case sa => assumption); (case sb => assumption); (case na => decide); (case nb => decide); k_whole); intro D' so' h' σ' F' N' l1 hK' hs'; (have l2 := l1); (try k_lt l1)))
local macro_rules | `(tactic| walk_at "call builtin:set.pop") => `(tactic| (k_here; k_dflt (refine' popOne_N ?F ?N ?l ?K ?ex ?_; (case F => k_asm); (case N => k_asm); (case l => assumption); (case K => assumption); (case ex => exact tz_meets (by assumption) (by assumption) (by assumption) (by assumption)); k_whole); intro h' d' t' k' F' N' hk'))
local macro_rules | `(tactic| walk_at "exec Try") => `(tactic| (k_here; (with_reducible show wpAny _ _ (exec (Stmt.Try _ (_ :: _) _ [] _) _) _ _ _); refine wpAny_Try_except ?_))
local macro_rules | `(tactic| walk_at "noteFrame ref") => `(tactic| (k_here; (rename Heap.NewExc _ _ _ _ => nx9); k_dflt (first
  | ((with_reducible show wpAny _ _ (noteFrame _ _) (fun _ s₂ => wpAny _ _ (setFlight _ none) (fun _ s₃ => wpAny _ _ (handleBy _ _ (ExceptHandler.ExceptHandler (some (Expr.Name _ _)) (some _) _ _ :: _)) _ _ s₃) _ s₂) _ _); refine' own_caughtB (X := "ValueError") (T' := "ValueError") ?K ?F ?N ?x ?XB ?TB ?D ?ex PyProof.Rows.Boot.«ValueError» ?n PySem.F.isExc_ValueError PySem.F.notTuple_ValueError ?s ?_ ?a ?b ?c ?d; (case K => assumption); (case F => assumption); (case N => assumption); (case x => assumption); (case XB => assumption); (case TB => assumption); (case D => assumption); (case ex => k_is); (case n => decide); (case s => (rw [isSubtype_type]; kernel_rfl)); (case a => rfl); (case b => rfl); (case c => rfl); (case d => decide); k_whole; intro h' g' T' eo' to' ws' tk' KT' F' N' B' X' P' D' ec' ed' e2' es')
  | (refine' own_caught0 (X := "KeyError") (T' := "KeyError") ?K ?F ?N ?x ?XB ?TB ?D ?ex PyProof.Rows.Boot.«KeyError» ?n kr_isExc_KeyError kr_notTuple_KeyError ?s ?_ ?a ?b ?c; (case K => assumption); (case F => assumption); (case N => assumption); (case x => assumption); (case XB => assumption); (case TB => assumption); (case D => assumption); (case ex => k_is); (case n => decide); (case s => (rw [isSubtype_type]; kernel_rfl)); (case a => rfl); (case b => rfl); (case c => decide); k_whole; intro h' g' T' eo' to' ws' KT' F' N' B' X' P' D' ec' ed' e2' es'))))
local macro_rules | `(tactic| walk_at "exec Raise some some") => `(tactic| (k_here; k_dflt (refine' raise_fromX (X := "ValueError") PySem.F.excCall_ValueError PySem.F.excRaise_ValueError PySem.F.excRaise_ValueError ?F ?X ?T ?ex PyProof.Rows.Boot.«ValueError» ?n ?hh ?hc ?hd ?h2 ?_ ?a ?b ?c ?d ?e; (case F => k_asm); (case X => k_asm); (case T => k_asm); (case ex => k_is); (case n => decide); (case hh => rfl); (case hc => assumption); (case hd => assumption); (case h2 => assumption); (case a => rfl); (case b => rfl); (case c => decide); (case d => rfl); (case e => rfl); k_whole)))
local macro_rules | `(tactic| walk_at "exec Raise some none") => `(tactic| (k_here; k_dflt (refine' raise_outX PySem.F.excCall_IndexError PySem.F.excRaise_IndexError ?F ?X ?T ?ex PyProof.Rows.Boot.«IndexError» ?n ?hh ?_ ?a ?b ?c ?d ?e; (case hh => rfl); (case F => k_asm); (case X => k_asm); (case T => k_asm); (case ex => k_is); (case n => decide); (case a => rfl); (case b => rfl); (case c => decide); (case d => rfl); (case e => rfl); k_whole)))
local macro_rules | `(tactic| walk_at "OutK") => `(tactic| (k_here; k_dflt (refine' outK ?l ?_; (case l => exact (show 1 ≤ sizeLine by decide)); k_whole); intro h' e' x'))
local macro_rules | `(tactic| walk_at "exec Raise some none") => `(tactic| (k_here; k_dflt (refine' raise_inX PySem.F.excCall_IndexError PySem.F.excRaise_IndexError ?F ?X ?T ?ex PyProof.Rows.Boot.«IndexError» ?n ?hh ?hd ?h2 ?_ ?a ?b ?c ?d ?e; (case hd => assumption); (case h2 => assumption); (case hh => rfl); (case F => k_asm); (case X => k_asm); (case T => k_asm); (case ex => k_is); (case n => decide); (case a => rfl); (case b => rfl); (case c => decide); (case d => rfl); (case e => rfl); k_whole)))
local macro_rules | `(tactic| walk_at "FromK") => `(tactic| (k_here; k_dflt (refine' fromK_end ?l ?K ?F ?N ?m ?n ?a ?b ?c ?d ?_; (case l => exact (show 1 ≤ sizeLine by decide)); (case K => assumption); (case F => k_asm); (case N => k_asm); (case m => k_mem); (case n => rfl); (case a => rfl); (case b => rfl); (case c => decide); (case d => rfl); k_whole); intro e' h' tk' R' U'))
local macro_rules | `(tactic| walk_at "InK") => `(tactic| (k_here; k_dflt (refine' inK_end ?l ?K ?F ?N ?m ?a ?d ?_; (case l => exact (show 1 ≤ sizeLine by decide)); (case K => assumption); (case F => k_asm); (case N => k_asm); (case m => k_mem); (case a => rfl); (case d => rfl); k_whole); intro e' h' R' U'))
local macro_rules | `(tactic| kfm_turns) => `(tactic| (refine KPc.turn ?_; kpc_if; kpc_check; refine wpAny_bind (field_zero (by rfl) (by rfl) ?_); refine wpAny_bind (wpAny_holding (wpAny_of_eq (a := _) rfl ?_)); kpc_if; refine wpAny_bind (wpAny_pure ?_); kfm_val; refine wpAny_bind (wpAny_of_eq (a := some _) rfl ?_); refine wpAny_pure ?_; refine KFm.after_field (by kpc_g) (by kpc_text) (by kpc_obj) (by kfm_len) (by kpc_obj) (by kfm_cat2) (by kfm_rest) ?_; intro _ _; kfm_turns))
local macro_rules | `(tactic| walk_at "leaving ref") => `(tactic| (k_here; k_dflt (refine' leaveX_ends ?K rfl ?x ?_; (case x => assumption); (case K => assumption); k_whole); intro h' R' U'))
local macro_rules | `(tactic| walk_at "leaving ref") => `(tactic| (k_here; k_dflt (refine' leaveX_made ?K ?F ?N rfl rfl ?x ?_; (case x => assumption); (case F => assumption); (case N => assumption); (case K => assumption); k_whole); intro h' R' U'))
local macro_rules | `(tactic| walk_at "getMethod ref") => `(tactic| (k_here; (with_reducible show wpAny _ _ (getMethod (Value.ref _) (PySem.Str.ofString "index") _) _ _ _); k_dflt (refine' topMethod_list ?F ?X ?l PySem.F.slot_list_index PySem.F.type_list_index ?_; (case F => k_asm); (case X => k_asm); (case l => k_is))))
local macro_rules | `(tactic| walk_at "call builtin:list.index") => `(tactic| (k_here; (with_reducible show wpAny _ _ (call (Value.builtin _) [Value.ref _, Value.str _ _]) _ _ _); k_dflt (first
  | (refine' topIndex_hit ?F ?X ?l ?t ?j ?s ?_; (case F => k_asm); (case X => k_asm); (case l => k_is); (case t => rfl); (case j => assumption); (case s => decide))
  | (refine' topIndex_none ?F ?X ?l ?t ?j ?s ?x ?A ?_; (case F => k_asm); (case X => k_asm); (case l => k_is); (case t => rfl); (case j => assumption); (case s => decide); (case x => assumption); (case A => rfl); intro h' tk' e' x'))))
/-- _law_to_haab's loop: days gone from (hd, mo), now at (hday, month) -/
def HI (hd mo wd wm hday month days : Int) : Prop := 0 ≤ days ∧ days ≤ (20 * wm + wd - (20 * mo + hd)) % 365 ∧ 0 ≤ hday ∧ hday < 20 ∧ 0 ≤ month ∧ month < 19 ∧ 20 * month + hday < 365 ∧ (20 * month + hday - (20 * mo + hd) - days) % 365 = 0
def HM (hd mo wd wm days : Int) : Nat := ((20 * wm + wd - (20 * mo + hd)) % 365 - days).toNat
theorem small0 (X : Int) (h1 : -365 < X) (h2 : X < 365) (h : X % 365 = 0) : X = 0 := by omega
theorem hi_lt {hd mo wd wm h m d : Int} (H : HI hd mo wd wm h m d) (h6 : 0 ≤ wd) (h7 : wd < 20) (h8 : 0 ≤ wm) (h9 : wm < 19) (h10 : 20 * wm + wd < 365) (hne : m ≠ wm ∨ h ≠ wd) : d < (20 * wm + wd - (20 * mo + hd)) % 365 := by
  obtain ⟨a1, a2, a3, a4, a5, a6, a7, a8⟩ := H
  generalize hD : (20 * wm + wd - (20 * mo + hd)) % 365 = D at *
  generalize 20 * mo + hd = p0 at *
  by_cases e : d = D
  · exfalso
    have z : (20 * m + h - (20 * wm + wd)) % 365 = 0 := by omega
    have := small0 _ (by omega) (by omega) z
    omega
  · omega
theorem hi_skip {hd mo wd wm h m d : Int} (H : HI hd mo wd wm h m d) (h6 : 0 ≤ wd) (h7 : wd < 20) (h8 : 0 ≤ wm) (h9 : wm < 19) (h10 : 20 * wm + wd < 365) (h0 : h = 0) (hm : m ≠ wm) : (m = 18 → d + 5 ≤ (20 * wm + wd - (20 * mo + hd)) % 365) ∧ (m ≠ 18 → d + 20 ≤ (20 * wm + wd - (20 * mo + hd)) % 365) := by
  have L := hi_lt H h6 h7 h8 h9 h10 (.inl hm)
  obtain ⟨a1, a2, a3, a4, a5, a6, a7, a8⟩ := H
  generalize hD : (20 * wm + wd - (20 * mo + hd)) % 365 = D at *
  generalize 20 * mo + hd = p0 at *
  subst h0
  have e : (20 * m + (D - d) - (20 * wm + wd)) % 365 = 0 := by omega
  refine ⟨fun h18 => ?_, fun h18 => ?_⟩
  · by_cases c : d + 5 ≤ D
    · exact c
    · exfalso
      have := small0 _ (by omega) (by omega) e
      omega
  · by_cases c : d + 20 ≤ D
    · exact c
    · exfalso
      have := small0 _ (by omega) (by omega) e
      omega
theorem hi_step {hd mo wd wm h m d h' m' d' : Int} (H : HI hd mo wd wm h m d) (h6 : 0 ≤ wd) (h7 : wd < 20) (h8 : 0 ≤ wm) (h9 : wm < 19) (h10 : 20 * wm + wd < 365) (hne : m ≠ wm ∨ h ≠ wd)
    (hs : (h = 0 ∧ m ≠ wm ∧ (m = 18 ∧ d' = d + 5 ∨ m ≠ 18 ∧ d' = d + 20) ∧ h' = h ∧ m' = (m + 1).fmod 19) ∨ (d' = d + 1 ∧ ((m = 18 ∧ h + 1 = 5 ∨ m ≠ 18 ∧ h + 1 = 20) ∧ h' = 0 ∧ m' = (m + 1).fmod 19 ∨ (m = 18 ∧ h + 1 ≠ 5 ∨ m ≠ 18 ∧ h + 1 ≠ 20) ∧ h' = h + 1 ∧ m' = m))) :
    HI hd mo wd wm h' m' d' := by
  have L := hi_lt H h6 h7 h8 h9 h10 hne
  simp only [fm19] at hs
  rcases hs with ⟨h0, hm, hd', e1, e2⟩ | ⟨e, hs⟩
  · have S := hi_skip H h6 h7 h8 h9 h10 h0 hm
    obtain ⟨a1, a2, a3, a4, a5, a6, a7, a8⟩ := H
    unfold HI
    subst e1 e2 h0
    rcases hd' with ⟨e3, rfl⟩ | ⟨e3, rfl⟩
    · have S5 := S.1 e3
      subst e3
      exact ⟨by omega, S5, by omega, by omega, by omega, by omega, by omega, by omega⟩
    · have S := S.2 e3
      have e4 : (m + 1) % 19 = m + 1 := by omega
      rw [e4]
      exact ⟨by omega, S, by omega, by omega, by omega, by omega, by omega, by omega⟩
  · obtain ⟨a1, a2, a3, a4, a5, a6, a7, a8⟩ := H
    unfold HI
    subst e
    rcases hs with ⟨hs, rfl, rfl⟩ | ⟨hs, rfl, rfl⟩
    · rcases hs with ⟨rfl, e5⟩ | ⟨e3, e5⟩
      · exact ⟨by omega, by omega, by omega, by omega, by omega, by omega, by omega, by omega⟩
      · have e4 : (m + 1) % 19 = m + 1 := by omega
        rw [e4]
        exact ⟨by omega, by omega, by omega, by omega, by omega, by omega, by omega, by omega⟩
    · exact ⟨by omega, by omega, by omega, by omega, by omega, by omega, by omega, by omega⟩
theorem hm_step {hd mo wd wm h m d d' : Int} (H : HI hd mo wd wm h m d) (h6 : 0 ≤ wd) (h7 : wd < 20) (h8 : 0 ≤ wm) (h9 : wm < 19) (h10 : 20 * wm + wd < 365) (hne : m ≠ wm ∨ h ≠ wd) (hs : d < d') : HM hd mo wd wm d' < HM hd mo wd wm d := by
  have L := hi_lt H h6 h7 h8 h9 h10 hne
  unfold HM
  omega
theorem hi_end {hd mo wd wm h m d : Int} (H : HI hd mo wd wm h m d) (h6 : 0 ≤ wd) (h7 : wd < 20) (h8 : 0 ≤ wm) (h9 : wm < 19) (h10 : 20 * wm + wd < 365) (hm : m = wm) (hh : h = wd) : d = (20 * wm + wd - (20 * mo + hd)) % 365 := by
  obtain ⟨a1, a2, a3, a4, a5, a6, a7, a8⟩ := H
  subst hm hh
  generalize hD : (20 * m + h - (20 * mo + hd)) % 365 = D at *
  have z : (D - d) % 365 = 0 := by omega
  have := small0 _ (by omega) (by omega) z
  omega
theorem lth_says (w : World) (mean : ExcName → Option Value) (mg mb : Str → Option Value) (hd mo wd wm : Int) (t₁ t₂ t₃ t₄ : Tok) (h1 : 0 ≤ hd) (h2 : hd < 20) (h3 : 0 ≤ mo) (h4 : mo < 19) (h5 : 20 * mo + hd < 365) (h6 : 0 ≤ wd) (h7 : wd < 20) (h8 : 0 ≤ wm) (h9 : wm < 19) (h10 : 20 * wm + wd < 365) :
    Says w mean mg mb 3 30 102 [.int hd t₁, .int mo t₂, .int wd t₃, .int wm t₄] (fun h₀ L m news s _ Q _ =>
      ∀ u h' tk', Fr h₀ L h' m → News h₀ L h' news → Q (.int ((20 * wm + wd - (20 * mo + hd)) % 365) u) { s with heap := h', toks := tk' }) := by
  unfold Says
  k_fill
  intro dp un gd cn cs a ccd cl outer A₀ base h₀ L m news s Q E B F X N T hk hdp hu hret
  refine wpAny_call ?_
  k_dflt cell_enter
  k_with "state" => first
    | exact hi_step kInv h6 h7 h8 h9 h10 (by omega) (.inl ⟨by omega, by omega, by omega, rfl, rfl⟩)
    | exact hi_step kInv h6 h7 h8 h9 h10 (by omega) (.inr ⟨rfl, .inl ⟨by omega, rfl, rfl⟩⟩)
    | exact hi_step kInv h6 h7 h8 h9 h10 (by omega) (.inr ⟨rfl, .inr ⟨by omega, rfl, rfl⟩⟩)
    | exact ⟨by omega, by omega, by omega, by omega, by omega, by omega, by omega, by omega⟩
  k_with "measure" => exact hm_step kInv h6 h7 h8 h9 h10 (by omega) (by omega)
  k_with "exec While BoolOp cons nil" => k_while (fun _ hday month days => HI hd mo wd wm hday month days) (fun _ hday month days => HM hd mo wd wm days) "hday" "month" "days"
  k_steps
  all_goals (rw [hi_end kInv h6 h7 h8 h9 h10 (by omega) (by omega)]; exact hret _ _ _ (by assumption) (by assumption))
  k_with_none
abbrev faultsOf (a b : Bool) (t u : Tok) : List Value := (if a then [.str "index" t] else []) ++ (if b then [.str "value" u] else [])
theorem allLt_all {d : Addr} : ∀ {l : List (Addr × Obj)}, AllLt d l → ∀ p ∈ l, p.1 < d
  | [], _ => fun _ h => nomatch h
  | _ :: _, h => fun q hq => by
    rcases List.mem_cons.mp hq with rfl | hq
    · exact h.1
    · exact allLt_all h.2 q hq
theorem news_123 {h₀ h : Heap} {L : Addr} {a b c : Addr × Obj} {news : List (Addr × Obj)} (N : News h₀ L h (a :: b :: c :: news)) : News h₀ L h (a :: news) := fun q hq => by
  rcases List.mem_cons.mp hq with rfl | hq
  · exact N _ (.head _)
  · exact N _ (.tail _ (.tail _ (.tail _ hq)))
theorem faults_says (w : World) (mean : ExcName → Option Value) (mg mb : Str → Option Value) (x y : Bool) :
    Says w mean mg mb 3 30 130 [.bool x, .bool y] (fun h₀ L m news s _ Q _ =>
      ∀ D t u kn h' tk', Fr h₀ L h' m → News h₀ L h' ((D, W.listOf (faultsOf x y t u).toArray kn) :: news) → (∀ p ∈ news, p.1 < D) → Q (.ref D) { s with heap := h', toks := tk' }) := by
  unfold Says
  cases x <;> cases y <;> k_fill
  all_goals intro dp un gd cn cs a ccd cl outer A₀ base h₀ L m news s Q E B F X N T hk hdp hu hret
  all_goals refine wpAny_call ?_
  all_goals k_dflt cell_enter
  all_goals k_steps
  all_goals (rename News h₀ L _ _ => kN; rename (_ ∧ _ ∧ AllLt _ news) => l9; have l8 := allLt_all l9.2.2)
  · exact hret _ 0 0 _ _ _ (by assumption) (news_123 kN) l8
  · exact hret _ 0 _ _ _ _ (by assumption) (news_123 kN) l8
  · exact hret _ _ 0 _ _ _ (by assumption) (news_123 kN) l8
  · exact hret _ _ _ _ _ _ (by assumption) (news_123 kN) l8
end Mine
end
section
open PySem PySem.W PyProof.Rows
set_option maxRecDepth 100000
set_option maxHeartbeats 3200000
namespace Mine
theorem post_true {M : Model} {A : Around} {cd : Code} {s s₁ : Shared} {cw : ClaimW} {cl : Str → Option Addr} {mean : ExcName → Option Value} {args : List WData} {tabs : List (Addr × Addr)} (hT : TabsAt tabs s₁.heap) (hr : ∀ a, cw.raises args a = false) (hp : cw.post args (.bool true) args = true)
    (h : codeAny M A cd (fun r s' => r = .ok (.ret (.bool true)) ∧ (∀ b o, (ghostOf s₁.heap tabs).get? b = some o → s'.heap.get? b = some o) ∧ GrownAll tabs s'.heap ∧ s'.os = s₁.os ∧ AllBare s'.gens) s) : codeAny M A cd (GoodWG cw cl mean args s₁) s :=
  codeAny_mono h fun r s' ⟨hc, hk, hgr, hos, hg⟩ => by
    have keep : ∀ b o, b ∉ tabs.map (·.2) → s₁.heap.get? b = some o → s'.heap.get? b = some o := fun b o hb e => hk b o (ghost_ne e hb)
    have grown : ∀ b o, b ∈ tabs.map (·.2) → s₁.heap.get? b = some o → isCodeTable s₁.heap b ∧ o = tabObj #[] ∧ ∃ ps, s'.heap.get? b = some (tabObj ps) := fun b o hb e => by
      obtain ⟨q, hq, rfl⟩ := List.mem_map.mp hb
      have e2 := (hT q hq).2
      rw [e] at e2
      exact ⟨((hT q hq).1.tab (hT q hq).2).isCodeTable, Option.some.inj e2, hgr.get q hq⟩
    refine ⟨.inl ⟨_, _, _, hc, hr, .bool true, hp, fun _ => ⟨.nil, fun _ h => nomatch h⟩⟩, ⟨fun b o e => ?_, fun b o e => ?_⟩, hos, hg⟩
    · by_cases hb : b ∈ tabs.map (·.2)
      · obtain ⟨ht, rfl, ps, hP⟩ := grown b o hb e
        exact .inr (.inl ⟨ht, rfl, #[], ps, rfl, by rw [Array.empty_append]; exact hP⟩)
      · exact .inl (keep b o hb e)
    · by_cases hb : b ∈ tabs.map (·.2)
      · obtain ⟨_, _, ps, hP⟩ := grown b o hb e
        exact ⟨_, hP⟩
      · exact ⟨o, keep b o hb e⟩
end Mine
end
section
open PySem PySem.W PyProof.Rows
set_option maxRecDepth 100000
set_option maxHeartbeats 3200000
namespace Mine
noncomputable def lawStmts (w : World) : List Stmt := match (Mine.hd.heap_39 w.params).lookup 137 with
  | some ⟨_, _, .func fd, _⟩ => (match fd.body with | .stmts b => b | _ => [])
  | _ => []
noncomputable def lawScope (w : World) : Scope := match (Mine.hd.heap_39 w.params).lookup 137 with
  | some ⟨_, _, .func fd, _⟩ => fd.scope
  | _ => default
def LawQ (base : Heap) (os : OsState) (f : Flow) (s' : Shared) : Prop := f = .ret (.bool true) ∧ (∀ b o, base.get? b = some o → s'.heap.get? b = some o) ∧ GrownAll [(57, 53), (78, 74)] s'.heap ∧ s'.os = os ∧ AllBare s'.gens
/-- statements i, …, i + k - 1 of the law -/
noncomputable def seg (w : World) (i k : Nat) : List Stmt := ((lawStmts w).drop i).take k
noncomputable abbrev lawEnv (w : World) (L fa : Addr) (cd : Value) : Env := envOf "law" (lawScope w) L fa cd
section
variable {M : Model} {A : Around} {E : Value → Shared → Prop} {env : Env}
theorem execs_app_eq : ∀ (a b : List Stmt), execs (a ++ b) env = (execs a env >>= fun f => match f with | .next => execs b env | f => pure f)
  | [], b => by rw [List.nil_append, execs_nil, pure_bind]
  | x :: r, b => by
    rw [List.cons_append, execs_cons, execs_cons, bind_assoc]
    congr 1
    funext f
    cases f with
    | next => exact execs_app_eq r b
    | cont => simp only [pure_bind]
    | brk => simp only [pure_bind]
    | ret v => simp only [pure_bind]
theorem execs_app {Q : Flow → Shared → Prop} {s : Shared} (a : List Stmt) {b : List Stmt}
    (h : wpAny M A (execs a env) (fun f s₁ => match f with | .next => wpAny M A (execs b env) Q E s₁ | f => Q f s₁) E s) : wpAny M A (execs (a ++ b) env) Q E s := by
  rw [execs_app_eq]
  refine wpAny_bind (wpAny_mono h (fun f s₁ h₁ => ?_) fun _ _ e => e)
  cases f with
  | next => exact h₁
  | cont => exact wpAny_pure h₁
  | brk => exact wpAny_pure h₁
  | ret v => exact wpAny_pure h₁
end
theorem fr_kst {h₀ h : Heap} {L : Addr} {m : Str → Option Value} {ps : List (Str × Value)} (F : Fr h₀ L h m) (hk : ∀ p ∈ ps, m p.1 = some p.2) : Fr h₀ L h (kstB m ps) := by
  have e : kstB m ps = m := funext fun y => kstB_eq hk fun _ => rfl
  rw [e]; exact F
end Mine
end
section
namespace Mine
open PySem PySem.W PyProof.Rows in
theorem fresh_LAWA {M : Model} {A : Around} {E : Value → Shared → Prop} {env : Env} {Q : Flow → Shared → Prop} {s : Shared} (h : Q .next s) : wpAny M A (execs [] env) Q E s := by
  w_top off
  walk1
  exact h
end Mine
open PySem PySem.W PyProof.Rows
set_option maxRecDepth 100000
set_option maxHeartbeats 3200000
namespace Mine
local macro_rules | `(tactic| k_room) => `(tactic| ktr_room)
local macro_rules | `(tactic| k_units) => `(tactic| ktr_units)
local macro_rules | `(tactic| k_all) => `(tactic| (refine' List.forall_mem_append.mpr ⟨?a, ?b⟩; (case a => first | exact all_gt (by assumption) (by first | decide | omega) | exact all_ne (by assumption) (by omega)); (case b => k_all)))
local macro_rules | `(tactic| k_updF) => `(tactic| (refine' updF_app ?a ?b; (case a => first | exact all_gt (by assumption) (by first | decide | omega) | exact all_ne (by assumption) (by omega)); (case b => k_updF)))
local macro_rules | `(tactic| k_mem) => `(tactic| first | (refine' List.mem_append_right _ ?b; (case b => k_mem)) | exact List.mem_append_left _ (by assumption))
local macro_rules | `(tactic| walk_at "eval GeneratorExp") => `(tactic| (k_here; k_dflt (refine' gen_start ?hh rfl ?cl ?cell ?h0 ?hx rfl ?room ?_ ?hs; (case hh => rfl); (case cl => exact rfl); (case cell => decide); (case h0 => rfl); (case hx => rfl); (case room => ktr_room); (case hs => exact fun _ => rfl); k_whole)))
local macro_rules | `(tactic| walk_at "GenK") => `(tactic| (k_here; k_dflt (refine' genK_U ?hh ?F ?N ?T ?C ?U ?ht ?hb ?hr ?sm ?hn ?hcl ?mem ?hoc rfl rfl rfl ?xd ?yd ?yc ?_; (case hh => rfl); (case F => k_asm); (case N => k_asm); (case T => k_asm); (case C => exact CodeHd.keeps (by assumption) (Below.stays (by assumption))); (case U => k_updF); (case ht => assumption); (case hb => assumption); (case hr => assumption); (case sm => decide); (case hn => first | exact (show Builtin.Range.rangeSize _ _ _ = ((20 : Nat) : Int) by decide) | exact (show Builtin.Range.rangeSize _ _ _ = ((13 : Nat) : Int) by decide) | exact (show Builtin.Range.rangeSize _ _ _ = ((52 : Nat) : Int) by decide) | exact (show Builtin.Range.rangeSize _ _ _ = ((73 : Nat) : Int) by decide)); (case hcl => rfl); (case mem => k_mem); (case hoc => assumption); (case xd => decide); (case yd => decide); (case yc => decide); k_whole); intro gen' s' ps' ht' F' N' G' ho' hb'; (try dsimp only at N' G')))
local macro_rules | `(tactic| walk_at "call type:set") => `(tactic| (k_here; k_dflt (refine' setGen_U ?hh ?F ?N ?G ?hb ?hn ?_; (case hh => rfl); (case F => k_asm); (case N => k_asm); (case G => assumption); (case hb => assumption); (case hn => decide); k_whole); intro D' so' s' F' N' l1 hS' ho' hb'; (try k_lt l1)))
local macro_rules | `(tactic| walk_at "getMethod ref") => `(tactic| (k_here; k_dflt (first
  | (refine' methodV_N ?N ?m ?v ?b PySem.F.slot_set_intersection PySem.F.type_set_intersection ?_; (case N => k_asm); (case m => k_mem); (case v => assumption); (case b => decide))
  | (refine' methodK_N ?N ?m ?v PySem.F.slot_set_pop PySem.F.type_set_pop ?_; (case N => k_asm); (case m => k_mem); (case v => assumption)))))
local macro_rules | `(tactic| walk_at "call builtin:set.intersection") => `(tactic| (k_here; k_dflt (refine' inter_N ?F ?N ?ma ?mb ?ab ?sa ?sb ?na ?nb ?_; (case F => k_asm); (case N => k_asm); (case ma => k_mem); (case mb => k_mem); (case ab => k_ne); (case sa => assumption); (case sb => assumption); (case na => decide); (case nb => decide); k_whole); intro D' so' h' σ' F' N' l1 hK' hs'; (have l2 := l1); (try k_lt l1)))
local macro_rules | `(tactic| walk_at "call builtin:set.pop") => `(tactic| (k_here; k_dflt (refine' popOne_N ?F ?N ?l ?K ?ex ?_; (case F => k_asm); (case N => k_asm); (case l => assumption); (case K => assumption); (case ex => exact tz_meets (by assumption) (by assumption) (by assumption) (by assumption)); k_whole); intro h' d' t' k' F' N' hk'))
local macro_rules | `(tactic| walk_at "exec Try") => `(tactic| (k_here; (with_reducible show wpAny _ _ (exec (Stmt.Try _ (_ :: _) _ [] _) _) _ _ _); refine wpAny_Try_except ?_))
local macro_rules | `(tactic| walk_at "noteFrame ref") => `(tactic| (k_here; (rename Heap.NewExc _ _ _ _ => nx9); k_dflt (first
  | ((with_reducible show wpAny _ _ (noteFrame _ _) (fun _ s₂ => wpAny _ _ (setFlight _ none) (fun _ s₃ => wpAny _ _ (handleBy _ _ (ExceptHandler.ExceptHandler (some (Expr.Name _ _)) (some _) _ _ :: _)) _ _ s₃) _ s₂) _ _); refine' own_caughtB (X := "ValueError") (T' := "ValueError") ?K ?F ?N ?x ?XB ?TB ?D ?ex PyProof.Rows.Boot.«ValueError» ?n PySem.F.isExc_ValueError PySem.F.notTuple_ValueError ?s ?_ ?a ?b ?c ?d; (case K => assumption); (case F => assumption); (case N => assumption); (case x => assumption); (case XB => assumption); (case TB => assumption); (case D => assumption); (case ex => k_is); (case n => decide); (case s => (rw [isSubtype_type]; kernel_rfl)); (case a => rfl); (case b => rfl); (case c => rfl); (case d => decide); k_whole; intro h' g' T' eo' to' ws' tk' KT' F' N' B' X' P' D' ec' ed' e2' es')
  | (refine' own_caught0 (X := "KeyError") (T' := "KeyError") ?K ?F ?N ?x ?XB ?TB ?D ?ex PyProof.Rows.Boot.«KeyError» ?n kr_isExc_KeyError kr_notTuple_KeyError ?s ?_ ?a ?b ?c; (case K => assumption); (case F => assumption); (case N => assumption); (case x => assumption); (case XB => assumption); (case TB => assumption); (case D => assumption); (case ex => k_is); (case n => decide); (case s => (rw [isSubtype_type]; kernel_rfl)); (case a => rfl); (case b => rfl); (case c => decide); k_whole; intro h' g' T' eo' to' ws' KT' F' N' B' X' P' D' ec' ed' e2' es'))))
local macro_rules | `(tactic| walk_at "exec Raise some some") => `(tactic| (k_here; k_dflt (refine' raise_fromX (X := "ValueError") PySem.F.excCall_ValueError PySem.F.excRaise_ValueError PySem.F.excRaise_ValueError ?F ?X ?T ?ex PyProof.Rows.Boot.«ValueError» ?n ?hh ?hc ?hd ?h2 ?_ ?a ?b ?c ?d ?e; (case F => k_asm); (case X => k_asm); (case T => k_asm); (case ex => k_is); (case n => decide); (case hh => rfl); (case hc => assumption); (case hd => assumption); (case h2 => assumption); (case a => rfl); (case b => rfl); (case c => decide); (case d => rfl); (case e => rfl); k_whole)))
local macro_rules | `(tactic| walk_at "exec Raise some none") => `(tactic| (k_here; k_dflt (refine' raise_outX PySem.F.excCall_IndexError PySem.F.excRaise_IndexError ?F ?X ?T ?ex PyProof.Rows.Boot.«IndexError» ?n ?hh ?_ ?a ?b ?c ?d ?e; (case hh => rfl); (case F => k_asm); (case X => k_asm); (case T => k_asm); (case ex => k_is); (case n => decide); (case a => rfl); (case b => rfl); (case c => decide); (case d => rfl); (case e => rfl); k_whole)))
local macro_rules | `(tactic| walk_at "OutK") => `(tactic| (k_here; k_dflt (refine' outK ?l ?_; (case l => exact (show 1 ≤ sizeLine by decide)); k_whole); intro h' e' x'))
local macro_rules | `(tactic| walk_at "exec Raise some none") => `(tactic| (k_here; k_dflt (refine' raise_inX PySem.F.excCall_IndexError PySem.F.excRaise_IndexError ?F ?X ?T ?ex PyProof.Rows.Boot.«IndexError» ?n ?hh ?hd ?h2 ?_ ?a ?b ?c ?d ?e; (case hd => assumption); (case h2 => assumption); (case hh => rfl); (case F => k_asm); (case X => k_asm); (case T => k_asm); (case ex => k_is); (case n => decide); (case a => rfl); (case b => rfl); (case c => decide); (case d => rfl); (case e => rfl); k_whole)))
local macro_rules | `(tactic| walk_at "FromK") => `(tactic| (k_here; k_dflt (refine' fromK_end ?l ?K ?F ?N ?m ?n ?a ?b ?c ?d ?_; (case l => exact (show 1 ≤ sizeLine by decide)); (case K => assumption); (case F => k_asm); (case N => k_asm); (case m => k_mem); (case n => rfl); (case a => rfl); (case b => rfl); (case c => decide); (case d => rfl); k_whole); intro e' h' tk' R' U'))
local macro_rules | `(tactic| walk_at "InK") => `(tactic| (k_here; k_dflt (refine' inK_end ?l ?K ?F ?N ?m ?a ?d ?_; (case l => exact (show 1 ≤ sizeLine by decide)); (case K => assumption); (case F => k_asm); (case N => k_asm); (case m => k_mem); (case a => rfl); (case d => rfl); k_whole); intro e' h' R' U'))
local macro_rules | `(tactic| kfm_turns) => `(tactic| (refine KPc.turn ?_; kpc_if; kpc_check; refine wpAny_bind (field_zero (by rfl) (by rfl) ?_); refine wpAny_bind (wpAny_holding (wpAny_of_eq (a := _) rfl ?_)); kpc_if; refine wpAny_bind (wpAny_pure ?_); kfm_val; refine wpAny_bind (wpAny_of_eq (a := some _) rfl ?_); refine wpAny_pure ?_; refine KFm.after_field (by kpc_g) (by kpc_text) (by kpc_obj) (by kfm_len) (by kpc_obj) (by kfm_cat2) (by kfm_rest) ?_; intro _ _; kfm_turns))
local macro_rules | `(tactic| walk_at "leaving ref") => `(tactic| (k_here; k_dflt (refine' leaveX_ends ?K rfl ?x ?_; (case x => assumption); (case K => assumption); k_whole); intro h' R' U'))
local macro_rules | `(tactic| walk_at "leaving ref") => `(tactic| (k_here; k_dflt (refine' leaveX_made ?K ?F ?N rfl rfl ?x ?_; (case x => assumption); (case F => assumption); (case N => assumption); (case K => assumption); k_whole); intro h' R' U'))
local macro_rules | `(tactic| walk_at "getMethod ref") => `(tactic| (k_here; (with_reducible show wpAny _ _ (getMethod (Value.ref _) (PySem.Str.ofString "index") _) _ _ _); k_dflt (refine' topMethod_list ?F ?X ?l PySem.F.slot_list_index PySem.F.type_list_index ?_; (case F => k_asm); (case X => k_asm); (case l => k_is))))
local macro_rules | `(tactic| walk_at "call builtin:list.index") => `(tactic| (k_here; (with_reducible show wpAny _ _ (call (Value.builtin _) [Value.ref _, Value.str _ _]) _ _ _); k_dflt (first
  | (refine' topIndex_hit ?F ?X ?l ?t ?j ?s ?_; (case F => k_asm); (case X => k_asm); (case l => k_is); (case t => rfl); (case j => assumption); (case s => decide))
  | (refine' topIndex_none ?F ?X ?l ?t ?j ?s ?x ?A ?_; (case F => k_asm); (case X => k_asm); (case l => k_is); (case t => rfl); (case j => assumption); (case s => decide); (case x => assumption); (case A => rfl); intro h' tk' e' x'))))
local macro_rules | `(tactic| walk_at "call ref") => `(tactic| (k_here; (with_reducible show wpAny _ _ (call (Value.ref 88) _) _ _ _); k_dflt (refine' says_use (wheels_says _ _ _ _ _ _) ?B ?F ?X ?N ?T ?hk ?hd ?hu ?_; (case B => k_asm); (case F => k_asm); (case X => k_asm); (case N => k_asm); (case T => k_asm); (case hk => exact rfl); (case hd => ktr_room); (case hu => ktr_units); k_whole); intro D' a' b' c' d' t' u' v' w' kn' h' tk' ha' hb' hc' hd' F' N' l1; (try (have l9 := gt74 (by repeat (first | exact Tail.here | exact Tail.base | apply Tail.cons)) l1)); (try k_lt l1)))
theorem lawA (w : World) (mean : ExcName → Option Value) (mg mb : Str → Option Value) (base : Heap) (L fa l : Addr) (cd : Value) (s : Shared) (vs : List Value) (ns : List Int) (Q : Flow → Shared → Prop) :
    Below callerA base [] base → Fr base L s.heap (fun (x : Str) => List.lookup x [(Str.ofString "script", Value.ref l)]) → (Mine.hd.heap_39 w.params).In base → News base L s.heap (tl #[] #[]) → Top topProg LL mean mg mb base →
    base.IsList l vs.toArray → IntsAre vs ns → ¬ 63 < ns.length →
    (∀ (m : Str → Option Value) D ws h' tk' n number name hday month t0 t1 t2 t3 t4 t5, n = ((ns.take 6 ++ [0, 0, 0, 0, 0, 0]).getD 0 0 + 2000) % 1000000000 - 2000 → number = (n + 3) % 13 + 1 → name = (n + 19) % 20 → hday = (n + 348) % 365 % 20 → month = (n + 348) % 365 / 20 →
      IntsAre ws (ns.take 6 ++ [0, 0, 0, 0, 0, 0]) → 74 < D → Fr base L h' (kstB m [("parts", .ref D), ("n", .int n t0), ("jd", .int (584283 + n) t1), ("number", .int number t2), ("name", .int name t3), ("hday", .int hday t4), ("month", .int month t5)]) →
      News base L h' ((D, W.listOf ws.toArray 0) :: tl #[] #[]) → Q .next { s with heap := h', toks := tk' }) →
    wpAny (model PySem.Challenge.rw_bn0005_01.row.prog w) (callerA.deeper (lawEnv w L fa cd)) (execs (seg w 0 4) (lawEnv w L fa cd)) Q (fun _ _ => False) s := by
  k_fill
  intro B F X N T hl hi hlen hret
  delta lawEnv
  conv in (seg w 0 4) => whnf
  dsimp only [List.take]
  conv in (occs := *) (lawScope w) => all_goals whnf
  k_steps
  all_goals
    (rename News base L _ _ => kN
     refine hret _ _ _ _ _ _ _ _ _ _ _ _ _ _ _ _ ?a1 ?a2 ?a3 ?a4 ?a5 (by assumption) ?a7 (fr_kst (by assumption) (by kst_all)) ?a9)
  case a9 => exact fun q hq => (by assumption : News _ _ _ _) q (by (rcases List.mem_cons.mp hq with rfl | hq); exact .tail _ (.head _); exact .tail _ (.tail _ (.tail _ (.tail _ hq))))
  case a1 => rw [fm (by decide)]; rfl
  case a7 => (refine ltN ?_; omega)
  all_goals exact Eq.trans (by assumption) (by omega)
end Mine
end
section
namespace Mine
open PySem PySem.W PyProof.Rows in
theorem fresh_LAWB {M : Model} {A : Around} {E : Value → Shared → Prop} {env : Env} {Q : Flow → Shared → Prop} {s : Shared} (h : Q .next s) : wpAny M A (execs [] env) Q E s := by
  w_top off
  walk1
  exact h
end Mine
open PySem PySem.W PyProof.Rows
set_option maxRecDepth 100000
set_option maxHeartbeats 3200000
namespace Mine
local macro_rules | `(tactic| k_room) => `(tactic| ktr_room)
local macro_rules | `(tactic| k_units) => `(tactic| ktr_units)
local macro_rules | `(tactic| k_all) => `(tactic| (refine' List.forall_mem_append.mpr ⟨?a, ?b⟩; (case a => first | exact all_gt (by assumption) (by first | decide | omega) | exact all_ne (by assumption) (by omega)); (case b => k_all)))
local macro_rules | `(tactic| k_updF) => `(tactic| (refine' updF_app ?a ?b; (case a => first | exact all_gt (by assumption) (by first | decide | omega) | exact all_ne (by assumption) (by omega)); (case b => k_updF)))
local macro_rules | `(tactic| k_mem) => `(tactic| first | (refine' List.mem_append_right _ ?b; (case b => k_mem)) | exact List.mem_append_left _ (by assumption))
local macro_rules | `(tactic| walk_at "eval GeneratorExp") => `(tactic| (k_here; k_dflt (refine' gen_start ?hh rfl ?cl ?cell ?h0 ?hx rfl ?room ?_ ?hs; (case hh => rfl); (case cl => exact rfl); (case cell => decide); (case h0 => rfl); (case hx => rfl); (case room => ktr_room); (case hs => exact fun _ => rfl); k_whole)))
local macro_rules | `(tactic| walk_at "GenK") => `(tactic| (k_here; k_dflt (refine' genK_U ?hh ?F ?N ?T ?C ?U ?ht ?hb ?hr ?sm ?hn ?hcl ?mem ?hoc rfl rfl rfl ?xd ?yd ?yc ?_; (case hh => rfl); (case F => k_asm); (case N => k_asm); (case T => k_asm); (case C => exact CodeHd.keeps (by assumption) (Below.stays (by assumption))); (case U => k_updF); (case ht => assumption); (case hb => assumption); (case hr => assumption); (case sm => decide); (case hn => first | exact (show Builtin.Range.rangeSize _ _ _ = ((20 : Nat) : Int) by decide) | exact (show Builtin.Range.rangeSize _ _ _ = ((13 : Nat) : Int) by decide) | exact (show Builtin.Range.rangeSize _ _ _ = ((52 : Nat) : Int) by decide) | exact (show Builtin.Range.rangeSize _ _ _ = ((73 : Nat) : Int) by decide)); (case hcl => rfl); (case mem => k_mem); (case hoc => assumption); (case xd => decide); (case yd => decide); (case yc => decide); k_whole); intro gen' s' ps' ht' F' N' G' ho' hb'; (try dsimp only at N' G')))
local macro_rules | `(tactic| walk_at "call type:set") => `(tactic| (k_here; k_dflt (refine' setGen_U ?hh ?F ?N ?G ?hb ?hn ?_; (case hh => rfl); (case F => k_asm); (case N => k_asm); (case G => assumption); (case hb => assumption); (case hn => decide); k_whole); intro D' so' s' F' N' l1 hS' ho' hb'; (try k_lt l1)))
local macro_rules | `(tactic| walk_at "getMethod ref") => `(tactic| (k_here; k_dflt (first
  | (refine' methodV_N ?N ?m ?v ?b PySem.F.slot_set_intersection PySem.F.type_set_intersection ?_; (case N => k_asm); (case m => k_mem); (case v => assumption); (case b => decide))
  | (refine' methodK_N ?N ?m ?v PySem.F.slot_set_pop PySem.F.type_set_pop ?_; (case N => k_asm); (case m => k_mem); (case v => assumption)))))
local macro_rules | `(tactic| walk_at "call builtin:set.intersection") => `(tactic| (k_here; k_dflt (refine' inter_N ?F ?N ?ma ?mb ?ab ?sa ?sb ?na ?nb ?_; (case F => k_asm); (case N => k_asm); (case ma => k_mem); (case mb => k_mem); (case ab => k_ne); (case sa => assumption); (case sb => assumption); (case na => decide); (case nb => decide); k_whole); intro D' so' h' σ' F' N' l1 hK' hs'; (have l2 := l1); (try k_lt l1)))
local macro_rules | `(tactic| walk_at "call builtin:set.pop") => `(tactic| (k_here; k_dflt (refine' popOne_N ?F ?N ?l ?K ?ex ?_; (case F => k_asm); (case N => k_asm); (case l => assumption); (case K => assumption); (case ex => exact tz_meets (by assumption) (by assumption) (by assumption) (by assumption)); k_whole); intro h' d' t' k' F' N' hk'))
local macro_rules | `(tactic| walk_at "exec Try") => `(tactic| (k_here; (with_reducible show wpAny _ _ (exec (Stmt.Try _ (_ :: _) _ [] _) _) _ _ _); refine wpAny_Try_except ?_))
local macro_rules | `(tactic| walk_at "noteFrame ref") => `(tactic| (k_here; (rename Heap.NewExc _ _ _ _ => nx9); k_dflt (first
  | ((with_reducible show wpAny _ _ (noteFrame _ _) (fun _ s₂ => wpAny _ _ (setFlight _ none) (fun _ s₃ => wpAny _ _ (handleBy _ _ (ExceptHandler.ExceptHandler (some (Expr.Name _ _)) (some _) _ _ :: _)) _ _ s₃) _ s₂) _ _); refine' own_caughtB (X := "ValueError") (T' := "ValueError") ?K ?F ?N ?x ?XB ?TB ?D ?ex PyProof.Rows.Boot.«ValueError» ?n PySem.F.isExc_ValueError PySem.F.notTuple_ValueError ?s ?_ ?a ?b ?c ?d; (case K => assumption); (case F => assumption); (case N => assumption); (case x => assumption); (case XB => assumption); (case TB => assumption); (case D => assumption); (case ex => k_is); (case n => decide); (case s => (rw [isSubtype_type]; kernel_rfl)); (case a => rfl); (case b => rfl); (case c => rfl); (case d => decide); k_whole; intro h' g' T' eo' to' ws' tk' KT' F' N' B' X' P' D' ec' ed' e2' es')
  | (refine' own_caught0 (X := "KeyError") (T' := "KeyError") ?K ?F ?N ?x ?XB ?TB ?D ?ex PyProof.Rows.Boot.«KeyError» ?n kr_isExc_KeyError kr_notTuple_KeyError ?s ?_ ?a ?b ?c; (case K => assumption); (case F => assumption); (case N => assumption); (case x => assumption); (case XB => assumption); (case TB => assumption); (case D => assumption); (case ex => k_is); (case n => decide); (case s => (rw [isSubtype_type]; kernel_rfl)); (case a => rfl); (case b => rfl); (case c => decide); k_whole; intro h' g' T' eo' to' ws' KT' F' N' B' X' P' D' ec' ed' e2' es'))))
local macro_rules | `(tactic| walk_at "exec Raise some some") => `(tactic| (k_here; k_dflt (refine' raise_fromX (X := "ValueError") PySem.F.excCall_ValueError PySem.F.excRaise_ValueError PySem.F.excRaise_ValueError ?F ?X ?T ?ex PyProof.Rows.Boot.«ValueError» ?n ?hh ?hc ?hd ?h2 ?_ ?a ?b ?c ?d ?e; (case F => k_asm); (case X => k_asm); (case T => k_asm); (case ex => k_is); (case n => decide); (case hh => rfl); (case hc => assumption); (case hd => assumption); (case h2 => assumption); (case a => rfl); (case b => rfl); (case c => decide); (case d => rfl); (case e => rfl); k_whole)))
local macro_rules | `(tactic| walk_at "exec Raise some none") => `(tactic| (k_here; k_dflt (refine' raise_outX PySem.F.excCall_IndexError PySem.F.excRaise_IndexError ?F ?X ?T ?ex PyProof.Rows.Boot.«IndexError» ?n ?hh ?_ ?a ?b ?c ?d ?e; (case hh => rfl); (case F => k_asm); (case X => k_asm); (case T => k_asm); (case ex => k_is); (case n => decide); (case a => rfl); (case b => rfl); (case c => decide); (case d => rfl); (case e => rfl); k_whole)))
local macro_rules | `(tactic| walk_at "OutK") => `(tactic| (k_here; k_dflt (refine' outK ?l ?_; (case l => exact (show 1 ≤ sizeLine by decide)); k_whole); intro h' e' x'))
local macro_rules | `(tactic| walk_at "exec Raise some none") => `(tactic| (k_here; k_dflt (refine' raise_inX PySem.F.excCall_IndexError PySem.F.excRaise_IndexError ?F ?X ?T ?ex PyProof.Rows.Boot.«IndexError» ?n ?hh ?hd ?h2 ?_ ?a ?b ?c ?d ?e; (case hd => assumption); (case h2 => assumption); (case hh => rfl); (case F => k_asm); (case X => k_asm); (case T => k_asm); (case ex => k_is); (case n => decide); (case a => rfl); (case b => rfl); (case c => decide); (case d => rfl); (case e => rfl); k_whole)))
local macro_rules | `(tactic| walk_at "FromK") => `(tactic| (k_here; k_dflt (refine' fromK_end ?l ?K ?F ?N ?m ?n ?a ?b ?c ?d ?_; (case l => exact (show 1 ≤ sizeLine by decide)); (case K => assumption); (case F => k_asm); (case N => k_asm); (case m => k_mem); (case n => rfl); (case a => rfl); (case b => rfl); (case c => decide); (case d => rfl); k_whole); intro e' h' tk' R' U'))
local macro_rules | `(tactic| walk_at "InK") => `(tactic| (k_here; k_dflt (refine' inK_end ?l ?K ?F ?N ?m ?a ?d ?_; (case l => exact (show 1 ≤ sizeLine by decide)); (case K => assumption); (case F => k_asm); (case N => k_asm); (case m => k_mem); (case a => rfl); (case d => rfl); k_whole); intro e' h' R' U'))
local macro_rules | `(tactic| kfm_turns) => `(tactic| (refine KPc.turn ?_; kpc_if; kpc_check; refine wpAny_bind (field_zero (by rfl) (by rfl) ?_); refine wpAny_bind (wpAny_holding (wpAny_of_eq (a := _) rfl ?_)); kpc_if; refine wpAny_bind (wpAny_pure ?_); kfm_val; refine wpAny_bind (wpAny_of_eq (a := some _) rfl ?_); refine wpAny_pure ?_; refine KFm.after_field (by kpc_g) (by kpc_text) (by kpc_obj) (by kfm_len) (by kpc_obj) (by kfm_cat2) (by kfm_rest) ?_; intro _ _; kfm_turns))
local macro_rules | `(tactic| walk_at "leaving ref") => `(tactic| (k_here; k_dflt (refine' leaveX_ends ?K rfl ?x ?_; (case x => assumption); (case K => assumption); k_whole); intro h' R' U'))
local macro_rules | `(tactic| walk_at "leaving ref") => `(tactic| (k_here; k_dflt (refine' leaveX_made ?K ?F ?N rfl rfl ?x ?_; (case x => assumption); (case F => assumption); (case N => assumption); (case K => assumption); k_whole); intro h' R' U'))
local macro_rules | `(tactic| walk_at "getMethod ref") => `(tactic| (k_here; (with_reducible show wpAny _ _ (getMethod (Value.ref _) (PySem.Str.ofString "index") _) _ _ _); k_dflt (refine' topMethod_list ?F ?X ?l PySem.F.slot_list_index PySem.F.type_list_index ?_; (case F => k_asm); (case X => k_asm); (case l => k_is))))
local macro_rules | `(tactic| walk_at "call builtin:list.index") => `(tactic| (k_here; (with_reducible show wpAny _ _ (call (Value.builtin _) [Value.ref _, Value.str _ _]) _ _ _); k_dflt (first
  | (refine' topIndex_hit ?F ?X ?l ?t ?j ?s ?_; (case F => k_asm); (case X => k_asm); (case l => k_is); (case t => rfl); (case j => assumption); (case s => decide))
  | (refine' topIndex_none ?F ?X ?l ?t ?j ?s ?x ?A ?_; (case F => k_asm); (case X => k_asm); (case l => k_is); (case t => rfl); (case j => assumption); (case s => decide); (case x => assumption); (case A => rfl); intro h' tk' e' x'))))
theorem fm17 (a : Int) : a.fmod 17 = a % 17 := fm (by decide)
theorem fm21 (a : Int) : a.fmod 21 = a % 21 := fm (by decide)
theorem fm23 (a : Int) : a.fmod 23 = a % 23 := fm (by decide)
theorem fm5 (a : Int) : a.fmod 5 = a % 5 := fm (by decide)
theorem fm18980 (a : Int) : a.fmod 18980 = a % 18980 := fm (by decide)
theorem lawB (w : World) (mean : ExcName → Option Value) (mg mb : Str → Option Value) (base : Heap) (L fa : Addr) (cd : Value) (s : Shared) (ns : List Int) (Q : Flow → Shared → Prop)
    (m : Str → Option Value) (D : Addr) (ws : List Value) (n number name hday month : Int) (t0 t1 t2 t3 t4 t5 : Tok) :
    Below callerA base [] base → (Mine.hd.heap_39 w.params).In base → Top topProg LL mean mg mb base →
    IntsAre ws (ns.take 6 ++ [0, 0, 0, 0, 0, 0]) → (ns.take 6).length = min 6 ns.length → 74 < D → Fr base L s.heap (kstB m [("parts", .ref D), ("n", .int n t0), ("jd", .int (584283 + n) t1), ("number", .int number t2), ("name", .int name t3), ("hday", .int hday t4), ("month", .int month t5)]) →
    News base L s.heap ((D, W.listOf ws.toArray 0) :: tl #[] #[]) →
    (∀ (m : Str → Option Value) h' tk' wn wna wd wm k t0 t1 t2 t3 t4 t5 t6 t7 t8 t9 t10, -1 ≤ wn → wn ≤ 15 → 0 ≤ wna → wna ≤ 20 → -1 ≤ wd → wd ≤ 21 → 0 ≤ wm → wm ≤ 19 → (wm = 18 → wd < 5 ∨ 20 ≤ wd) → 0 ≤ k → k < 18980 →
      Fr base L h' (kstB m [("n", .int n t0), ("jd", .int (584283 + n) t1), ("number", .int number t2), ("name", .int name t3), ("hday", .int hday t4), ("month", .int month t5), ("want_number", .int wn t6), ("want_name", .int wna t7), ("want_day", .int wd t8), ("want_month", .int wm t9), ("k", .int k t10)]) →
      News base L h' (tl #[] #[]) → Q .next { s with heap := h', toks := tk' }) →
    wpAny (model PySem.Challenge.rw_bn0005_01.row.prog w) (callerA.deeper (lawEnv w L fa cd)) (execs (seg w 4 6) (lawEnv w L fa cd)) Q (fun _ _ => False) s := by
  k_fill
  intro B X T hws hlen hD F N hret
  delta lawEnv
  conv in (seg w 4 6) => whnf
  dsimp only [List.take]
  conv in (occs := *) (lawScope w) => all_goals whnf
  k_steps
  all_goals
    (rename News base L _ _ => kN
     refine hret _ _ _ _ _ _ _ _ _ _ _ _ _ _ _ _ _ _ _ ?_ ?_ ?_ ?_ ?_ ?_ ?_ ?_ ?_ ?_ ?_ (fr_kst (by assumption) (by kst_all)) (fun q hq => kN q (.tail _ hq)))
  all_goals (clear hret; (try clear kN); simp only [fm17, fm21, fm23, fm5, fm20, fm18980] at *; omega)
end Mine
end
section
namespace Mine
open PySem PySem.W PyProof.Rows in
theorem fresh_LAWC {M : Model} {A : Around} {E : Value → Shared → Prop} {env : Env} {Q : Flow → Shared → Prop} {s : Shared} (h : Q .next s) : wpAny M A (execs [] env) Q E s := by
  w_top off
  walk1
  exact h
end Mine
open PySem PySem.W PyProof.Rows
set_option maxRecDepth 100000
set_option maxHeartbeats 3200000
namespace Mine
local macro_rules | `(tactic| k_room) => `(tactic| ktr_room)
local macro_rules | `(tactic| k_units) => `(tactic| ktr_units)
local macro_rules | `(tactic| k_all) => `(tactic| (refine' List.forall_mem_append.mpr ⟨?a, ?b⟩; (case a => first | exact all_gt (by assumption) (by first | decide | omega) | exact all_ne (by assumption) (by omega)); (case b => k_all)))
local macro_rules | `(tactic| k_updF) => `(tactic| (refine' updF_app ?a ?b; (case a => first | exact all_gt (by assumption) (by first | decide | omega) | exact all_ne (by assumption) (by omega)); (case b => k_updF)))
local macro_rules | `(tactic| k_mem) => `(tactic| first | (refine' List.mem_append_right _ ?b; (case b => k_mem)) | exact List.mem_append_left _ (by assumption))
local macro_rules | `(tactic| walk_at "eval GeneratorExp") => `(tactic| (k_here; k_dflt (refine' gen_start ?hh rfl ?cl ?cell ?h0 ?hx rfl ?room ?_ ?hs; (case hh => rfl); (case cl => exact rfl); (case cell => decide); (case h0 => rfl); (case hx => rfl); (case room => ktr_room); (case hs => exact fun _ => rfl); k_whole)))
local macro_rules | `(tactic| walk_at "GenK") => `(tactic| (k_here; k_dflt (refine' genK_U ?hh ?F ?N ?T ?C ?U ?ht ?hb ?hr ?sm ?hn ?hcl ?mem ?hoc rfl rfl rfl ?xd ?yd ?yc ?_; (case hh => rfl); (case F => k_asm); (case N => k_asm); (case T => k_asm); (case C => exact CodeHd.keeps (by assumption) (Below.stays (by assumption))); (case U => k_updF); (case ht => assumption); (case hb => assumption); (case hr => assumption); (case sm => decide); (case hn => first | exact (show Builtin.Range.rangeSize _ _ _ = ((20 : Nat) : Int) by decide) | exact (show Builtin.Range.rangeSize _ _ _ = ((13 : Nat) : Int) by decide) | exact (show Builtin.Range.rangeSize _ _ _ = ((52 : Nat) : Int) by decide) | exact (show Builtin.Range.rangeSize _ _ _ = ((73 : Nat) : Int) by decide)); (case hcl => rfl); (case mem => k_mem); (case hoc => assumption); (case xd => decide); (case yd => decide); (case yc => decide); k_whole); intro gen' s' ps' ht' F' N' G' ho' hb'; (try dsimp only at N' G')))
local macro_rules | `(tactic| walk_at "call type:set") => `(tactic| (k_here; k_dflt (refine' setGen_U ?hh ?F ?N ?G ?hb ?hn ?_; (case hh => rfl); (case F => k_asm); (case N => k_asm); (case G => assumption); (case hb => assumption); (case hn => decide); k_whole); intro D' so' s' F' N' l1 hS' ho' hb'; (try k_lt l1)))
local macro_rules | `(tactic| walk_at "getMethod ref") => `(tactic| (k_here; k_dflt (first
  | (refine' methodV_N ?N ?m ?v ?b PySem.F.slot_set_intersection PySem.F.type_set_intersection ?_; (case N => k_asm); (case m => k_mem); (case v => assumption); (case b => decide))
  | (refine' methodK_N ?N ?m ?v PySem.F.slot_set_pop PySem.F.type_set_pop ?_; (case N => k_asm); (case m => k_mem); (case v => assumption)))))
local macro_rules | `(tactic| walk_at "call builtin:set.intersection") => `(tactic| (k_here; k_dflt (refine' inter_N ?F ?N ?ma ?mb ?ab ?sa ?sb ?na ?nb ?_; (case F => k_asm); (case N => k_asm); (case ma => k_mem); (case mb => k_mem); (case ab => k_ne); (case sa => assumption); (case sb => assumption); (case na => decide); (case nb => decide); k_whole); intro D' so' h' σ' F' N' l1 hK' hs'; (have l2 := l1); (try k_lt l1)))
local macro_rules | `(tactic| walk_at "call builtin:set.pop") => `(tactic| (k_here; k_dflt (refine' popOne_N ?F ?N ?l ?K ?ex ?_; (case F => k_asm); (case N => k_asm); (case l => assumption); (case K => assumption); (case ex => exact tz_meets (by assumption) (by assumption) (by assumption) (by assumption)); k_whole); intro h' d' t' k' F' N' hk'))
local macro_rules | `(tactic| walk_at "exec Try") => `(tactic| (k_here; (with_reducible show wpAny _ _ (exec (Stmt.Try _ (_ :: _) _ [] _) _) _ _ _); refine wpAny_Try_except ?_))
local macro_rules | `(tactic| walk_at "noteFrame ref") => `(tactic| (k_here; (rename Heap.NewExc _ _ _ _ => nx9); k_dflt (first
  | ((with_reducible show wpAny _ _ (noteFrame _ _) (fun _ s₂ => wpAny _ _ (setFlight _ none) (fun _ s₃ => wpAny _ _ (handleBy _ _ (ExceptHandler.ExceptHandler (some (Expr.Name _ _)) (some _) _ _ :: _)) _ _ s₃) _ s₂) _ _); refine' own_caughtB (X := "ValueError") (T' := "ValueError") ?K ?F ?N ?x ?XB ?TB ?D ?ex PyProof.Rows.Boot.«ValueError» ?n PySem.F.isExc_ValueError PySem.F.notTuple_ValueError ?s ?_ ?a ?b ?c ?d; (case K => assumption); (case F => assumption); (case N => assumption); (case x => assumption); (case XB => assumption); (case TB => assumption); (case D => assumption); (case ex => k_is); (case n => decide); (case s => (rw [isSubtype_type]; kernel_rfl)); (case a => rfl); (case b => rfl); (case c => rfl); (case d => decide); k_whole; intro h' g' T' eo' to' ws' tk' KT' F' N' B' X' P' D' ec' ed' e2' es')
  | (refine' own_caught0 (X := "KeyError") (T' := "KeyError") ?K ?F ?N ?x ?XB ?TB ?D ?ex PyProof.Rows.Boot.«KeyError» ?n kr_isExc_KeyError kr_notTuple_KeyError ?s ?_ ?a ?b ?c; (case K => assumption); (case F => assumption); (case N => assumption); (case x => assumption); (case XB => assumption); (case TB => assumption); (case D => assumption); (case ex => k_is); (case n => decide); (case s => (rw [isSubtype_type]; kernel_rfl)); (case a => rfl); (case b => rfl); (case c => decide); k_whole; intro h' g' T' eo' to' ws' KT' F' N' B' X' P' D' ec' ed' e2' es'))))
local macro_rules | `(tactic| walk_at "exec Raise some some") => `(tactic| (k_here; k_dflt (refine' raise_fromX (X := "ValueError") PySem.F.excCall_ValueError PySem.F.excRaise_ValueError PySem.F.excRaise_ValueError ?F ?X ?T ?ex PyProof.Rows.Boot.«ValueError» ?n ?hh ?hc ?hd ?h2 ?_ ?a ?b ?c ?d ?e; (case F => k_asm); (case X => k_asm); (case T => k_asm); (case ex => k_is); (case n => decide); (case hh => rfl); (case hc => assumption); (case hd => assumption); (case h2 => assumption); (case a => rfl); (case b => rfl); (case c => decide); (case d => rfl); (case e => rfl); k_whole)))
local macro_rules | `(tactic| walk_at "exec Raise some none") => `(tactic| (k_here; k_dflt (refine' raise_outX PySem.F.excCall_IndexError PySem.F.excRaise_IndexError ?F ?X ?T ?ex PyProof.Rows.Boot.«IndexError» ?n ?hh ?_ ?a ?b ?c ?d ?e; (case hh => rfl); (case F => k_asm); (case X => k_asm); (case T => k_asm); (case ex => k_is); (case n => decide); (case a => rfl); (case b => rfl); (case c => decide); (case d => rfl); (case e => rfl); k_whole)))
local macro_rules | `(tactic| walk_at "OutK") => `(tactic| (k_here; k_dflt (refine' outK ?l ?_; (case l => exact (show 1 ≤ sizeLine by decide)); k_whole); intro h' e' x'))
local macro_rules | `(tactic| walk_at "exec Raise some none") => `(tactic| (k_here; k_dflt (refine' raise_inX PySem.F.excCall_IndexError PySem.F.excRaise_IndexError ?F ?X ?T ?ex PyProof.Rows.Boot.«IndexError» ?n ?hh ?hd ?h2 ?_ ?a ?b ?c ?d ?e; (case hd => assumption); (case h2 => assumption); (case hh => rfl); (case F => k_asm); (case X => k_asm); (case T => k_asm); (case ex => k_is); (case n => decide); (case a => rfl); (case b => rfl); (case c => decide); (case d => rfl); (case e => rfl); k_whole)))
local macro_rules | `(tactic| walk_at "FromK") => `(tactic| (k_here; k_dflt (refine' fromK_end ?l ?K ?F ?N ?m ?n ?a ?b ?c ?d ?_; (case l => exact (show 1 ≤ sizeLine by decide)); (case K => assumption); (case F => k_asm); (case N => k_asm); (case m => k_mem); (case n => rfl); (case a => rfl); (case b => rfl); (case c => decide); (case d => rfl); k_whole); intro e' h' tk' R' U'))
local macro_rules | `(tactic| walk_at "InK") => `(tactic| (k_here; k_dflt (refine' inK_end ?l ?K ?F ?N ?m ?a ?d ?_; (case l => exact (show 1 ≤ sizeLine by decide)); (case K => assumption); (case F => k_asm); (case N => k_asm); (case m => k_mem); (case a => rfl); (case d => rfl); k_whole); intro e' h' R' U'))
local macro_rules | `(tactic| kfm_turns) => `(tactic| (refine KPc.turn ?_; kpc_if; kpc_check; refine wpAny_bind (field_zero (by rfl) (by rfl) ?_); refine wpAny_bind (wpAny_holding (wpAny_of_eq (a := _) rfl ?_)); kpc_if; refine wpAny_bind (wpAny_pure ?_); kfm_val; refine wpAny_bind (wpAny_of_eq (a := some _) rfl ?_); refine wpAny_pure ?_; refine KFm.after_field (by kpc_g) (by kpc_text) (by kpc_obj) (by kfm_len) (by kpc_obj) (by kfm_cat2) (by kfm_rest) ?_; intro _ _; kfm_turns))
local macro_rules | `(tactic| walk_at "leaving ref") => `(tactic| (k_here; k_dflt (refine' leaveX_ends ?K rfl ?x ?_; (case x => assumption); (case K => assumption); k_whole); intro h' R' U'))
local macro_rules | `(tactic| walk_at "leaving ref") => `(tactic| (k_here; k_dflt (refine' leaveX_made ?K ?F ?N rfl rfl ?x ?_; (case x => assumption); (case F => assumption); (case N => assumption); (case K => assumption); k_whole); intro h' R' U'))
local macro_rules | `(tactic| walk_at "getMethod ref") => `(tactic| (k_here; (with_reducible show wpAny _ _ (getMethod (Value.ref _) (PySem.Str.ofString "index") _) _ _ _); k_dflt (refine' topMethod_list ?F ?X ?l PySem.F.slot_list_index PySem.F.type_list_index ?_; (case F => k_asm); (case X => k_asm); (case l => k_is))))
local macro_rules | `(tactic| walk_at "call builtin:list.index") => `(tactic| (k_here; (with_reducible show wpAny _ _ (call (Value.builtin _) [Value.ref _, Value.str _ _]) _ _ _); k_dflt (first
  | (refine' topIndex_hit ?F ?X ?l ?t ?j ?s ?_; (case F => k_asm); (case X => k_asm); (case l => k_is); (case t => rfl); (case j => assumption); (case s => decide))
  | (refine' topIndex_none ?F ?X ?l ?t ?j ?s ?x ?A ?_; (case F => k_asm); (case X => k_asm); (case l => k_is); (case t => rfl); (case j => assumption); (case s => decide); (case x => assumption); (case A => rfl); intro h' tk' e' x'))))
local macro_rules | `(tactic| walk_at "call ref") => `(tactic| (k_here; (with_reducible show wpAny _ _ (call (Value.ref 130) _) _ _ _); k_dflt (refine' says_use (faults_says _ _ _ _ _ _) ?B ?F ?X ?N ?T ?hk ?hd ?hu ?_; (case B => k_asm); (case F => k_asm); (case X => k_asm); (case N => k_asm); (case T => k_asm); (case hk => exact rfl); (case hd => ktr_room); (case hu => ktr_units); k_whole); intro D' t' u' kn' h' tk' F' N' l1; (have l9 := gt74 (by repeat (first | exact Tail.here | exact Tail.base | apply Tail.cons)) l1); (try k_lt l1)))
theorem lawC (w : World) (mean : ExcName → Option Value) (mg mb : Str → Option Value) (base : Heap) (L fa : Addr) (cd : Value) (s : Shared) (Q : Flow → Shared → Prop)
    (m : Str → Option Value) (n number name hday month wn wna wd wm k : Int) (t0 t1 t2 t3 t4 t5 t6 t7 t8 t9 t10 : Tok) (hna : 0 ≤ wna) (hna2 : wna ≤ 20) (hm1 : 0 ≤ wm) (hm2 : wm ≤ 19) :
    Below callerA base [] base → (Mine.hd.heap_39 w.params).In base → Top topProg LL mean mg mb base →
    Fr base L s.heap (kstB m [("n", .int n t0), ("jd", .int (584283 + n) t1), ("number", .int number t2), ("name", .int name t3), ("hday", .int hday t4), ("month", .int month t5), ("want_number", .int wn t6), ("want_name", .int wna t7), ("want_day", .int wd t8), ("want_month", .int wm t9), ("k", .int k t10)]) →
    News base L s.heap (tl #[] #[]) →
    (∀ (m : Str → Option Value) h' tk' T U De Dt Dh xE xT xN xD xM u0 u1 u2 u3 u4 u5 u6 u7 u8 u9 k0 k1 k2 k3 k4, (xE = true ↔ n < 0) → (xT = true ↔ wn < 1 ∨ 13 < wn) → (xN = true ↔ wna = 20) → (xD = true ↔ wd < 0 ∨ 19 < wd) → (xM = true ↔ wm = 19) →
      (∀ q ∈ [(Dh, W.listOf (faultsOf xD xM u8 u9).toArray k4), (Dt, W.listOf (faultsOf xT xN u6 u7).toArray k3), (De, W.listOf (faultsOf xE false u4 u5).toArray k2), (U, tup2 wd u2 (haabN.getD wm.toNat Str.empty) u3 k1), (T, tup2 wn u0 (tzolN.getD wna.toNat Str.empty) u1 k0)], 74 < q.1) →
      Fr base L h' (kstB m [("n", .int n t0), ("jd", .int (584283 + n) t1), ("number", .int number t2), ("name", .int name t3), ("hday", .int hday t4), ("month", .int month t5), ("want_number", .int wn t6), ("want_name", .int wna t7), ("want_day", .int wd t8), ("want_month", .int wm t9), ("k", .int k t10),
        ("tzolkin", .ref T), ("haab", .ref U), ("early", .ref De), ("wrong_tzolkin", .ref Dt), ("wrong_haab", .ref Dh)]) →
      News base L h' ([(Dh, W.listOf (faultsOf xD xM u8 u9).toArray k4), (Dt, W.listOf (faultsOf xT xN u6 u7).toArray k3), (De, W.listOf (faultsOf xE false u4 u5).toArray k2), (U, tup2 wd u2 (haabN.getD wm.toNat Str.empty) u3 k1), (T, tup2 wn u0 (tzolN.getD wna.toNat Str.empty) u1 k0)] ++ tl #[] #[]) → Q .next { s with heap := h', toks := tk' }) →
    wpAny (model PySem.Challenge.rw_bn0005_01.row.prog w) (callerA.deeper (lawEnv w L fa cd)) (execs (seg w 10 5) (lawEnv w L fa cd)) Q (fun _ _ => False) s := by
  k_fill
  intro B X T F N hret
  delta lawEnv
  conv in (seg w 10 5) => whnf
  dsimp only [List.take]
  conv in (occs := *) (lawScope w) => all_goals whnf
  k_steps
  all_goals
    (rename News base L _ _ => kN
     refine hret _ _ _ _ _ _ _ _ _ _ _ _ _ _ _ _ _ _ _ _ _ _ _ _ _ _ _ _ ?_ ?_ ?_ ?_ ?_ ?_ (fr_kst (by assumption) (by kst_all)) kN)
  all_goals first
    | (simp only [decide_eq_true_eq, beq_iff_eq]; done)
    | (simp only [decide_eq_true_eq, beq_iff_eq]; omega)
    | (repeat (first | exact List.forall_mem_nil _ | refine List.forall_mem_cons.mpr ⟨by (refine ltN ?_; dsimp only; omega), ?_⟩))
end Mine
end
section
open PySem PySem.W PyProof.Rows
set_option maxRecDepth 100000
set_option maxHeartbeats 1600000
namespace Mine
section
variable {w : World} {mean : ExcName → Option Value} {mg mb : Str → Option Value} {dN uN : Nat} {f : Addr} {vs : List Value}
theorem saysT_mono {R R'} (S : SaysT w mean mg mb dN uN f vs R) (h : ∀ h₀ L m pre s l base Q E, R' h₀ L m pre s l base Q E → R h₀ L m pre s l base Q E) : SaysT w mean mg mb dN uN f vs R' :=
  fun dp un gd cn cs a ccd cl outer A₀ base h₀ L m news pre ps qs s Q E B F X N T hk hd hu XB TB C57 C78 D hT hp h1 h2 hb r =>
    S dp un gd cn cs a ccd cl outer A₀ base h₀ L m news pre ps qs s Q E B F X N T hk hd hu XB TB C57 C78 D hT hp h1 h2 hb (h _ _ _ _ _ _ _ _ _ r)
theorem saysR_mono {R R'} (S : SaysR w mean mg mb dN uN f vs R) (h : ∀ h₀ L m news s l base Q E, R' h₀ L m news s l base Q E → R h₀ L m news s l base Q E) : SaysR w mean mg mb dN uN f vs R' :=
  fun dp un gd cn cs a ccd cl outer A₀ base h₀ L m news s Q E B F X N T hk hd hu XB TB D r =>
    S dp un gd cn cs a ccd cl outer A₀ base h₀ L m news s Q E B F X N T hk hd hu XB TB D (h _ _ _ _ _ _ _ _ _ r)
theorem saysL_mono {R R'} (S : SaysL w mean mg mb dN uN f vs R) (h : ∀ h₀ L m pre s Q, R' h₀ L m pre s Q → R h₀ L m pre s Q) : SaysL w mean mg mb dN uN f vs R' :=
  fun dp un gd cn cs a ccd A₀ base h₀ L m news pre ps qs s Q E B F X N T hk hd hu XB TB C57 C78 hT hp h1 h2 hb r =>
    S dp un gd cn cs a ccd A₀ base h₀ L m news pre ps qs s Q E B F X N T hk hd hu XB TB C57 C78 hT hp h1 h2 hb (h _ _ _ _ _ _ r)
end
/-- what _law_told_both tells -/
def TB (n wn wna wd wm : Int) (v : Value) : Prop :=
  ((wn < 1 ∨ 13 < wn ∨ wd < 0 ∨ 19 < wd) ∧ ∃ u, v = .str "index" u) ∨ ((wna = 20 ∨ wm = 19) ∧ ∃ u, v = .str "value" u) ∨
  ((1 ≤ wn ∧ wn ≤ 13 ∧ 0 ≤ wd ∧ wd ≤ 19 ∧ wna < 20 ∧ wm < 19) ∧ ((∃ x u, Fit n wn wna.toNat (20 * wm + wd) x ∧ v = .int (x + (584283 + n)) u) ∨ ((∀ x, ¬ Fit n wn wna.toNat (20 * wm + wd) x) ∧ ∃ u, v = .str "index" u)))
theorem tb_all (w : World) (mean : ExcName → Option Value) (mg mb : Str → Option Value) (T U : Addr) (n wn wna wd wm : Int) (t u0 u1 u2 u3 : Tok) (k0 k1 : Nat) (hna : 0 ≤ wna) (hna2 : wna ≤ 20) (hm1 : 0 ≤ wm) (hm2 : wm ≤ 19) (h18 : wm = 18 → wd < 5 ∨ 20 ≤ wd) (hlo : -2000 ≤ n) (hhi : n < 2000000000) :
    SaysL w mean mg mb 12 400 109 [.ref T, .ref U, .int (584283 + n) t] (fun h₀ L m pre s Q => ((T, tup2 wn u0 (tzolN.getD wna.toNat Str.empty) u1 k0) ∈ pre ∧ (U, tup2 wd u2 (haabN.getD wm.toNat Str.empty) u3 k1) ∈ pre) ∧ Back h₀ L m pre s (TB n wn wna wd wm) Q) := by
  have idx : (wn < 1 ∨ 13 < wn ∨ wd < 0 ∨ 19 < wd) → ∀ v, (∃ u, v = Value.str "index" u) → TB n wn wna wd wm v := fun h v hv => .inl ⟨h, hv⟩
  have val : (wna = 20 ∨ wm = 19) → ∀ v, (∃ u, v = Value.str "value" u) → TB n wn wna wd wm v := fun h v hv => .inr (.inl ⟨h, hv⟩)
  by_cases c1 : wd < 0 ∨ 19 < wd
  · refine saysL_mono (tb_index w mean mg mb T U _ t _ (saysT_mono (nb_hday w mean mg mb T U n wn wd t u0 u1 u2 u3 k0 k1 _ _ c1 hlo hhi) fun _ _ _ _ _ _ _ _ _ r => ⟨r.1.1, r.1.2, r.2⟩)) fun _ _ _ _ _ _ r => ⟨r.1, fun v s' ps' qs' hv => r.2 v s' ps' qs' (idx (by omega) v hv)⟩
  by_cases c2 : wm = 19
  · subst c2
    refine saysL_mono (tb_value w mean mg mb T U _ t _ (saysT_mono (nb_hname w mean mg mb T U n wn wd t u0 u1 u2 u3 k0 k1 _ (by omega) (by omega) hlo hhi) fun _ _ _ _ _ _ _ _ _ r => ⟨r.1.1, r.1.2, r.2⟩)) fun _ _ _ _ _ _ r => ⟨r.1, fun v s' ps' qs' hv => r.2 v s' ps' qs' (val (.inr rfl) v hv)⟩
  by_cases c3 : wn < 1 ∨ 13 < wn
  · refine saysL_mono (tb_index w mean mg mb T U _ t _ (saysT_mono (nb_tday w mean mg mb T U n wn wd t u0 u1 u2 u3 k0 k1 wm.toNat _ _ rfl (by omega) (by omega) (by omega) c3 hlo hhi) fun _ _ _ _ _ _ _ _ _ r => ⟨r.1.1, r.1.2, r.2⟩)) fun _ _ _ _ _ _ r => ⟨r.1, fun v s' ps' qs' hv => r.2 v s' ps' qs' (idx (by omega) v hv)⟩
  by_cases c4 : wna = 20
  · subst c4
    refine saysL_mono (tb_value w mean mg mb T U _ t _ (saysT_mono (nb_tname w mean mg mb T U n wn wd t u0 u1 u2 u3 k0 k1 wm.toNat _ rfl (by omega) (by omega) (by omega) (by omega) (by omega) hlo hhi) fun _ _ _ _ _ _ _ _ _ r => ⟨r.1.1, r.1.2, r.2⟩)) fun _ _ _ _ _ _ r => ⟨r.1, fun v s' ps' qs' hv => r.2 v s' ps' qs' (val (.inl rfl) v hv)⟩
  have e : 20 * ((wm.toNat : Nat) : Int) + wd = 20 * wm + wd := by omega
  by_cases c5 : ∃ x, Fit n wn wna.toNat (20 * wm + wd) x
  · refine saysL_mono (tb_good w mean mg mb T U _ t _ (fun v => ∃ x, Fit n wn wna.toNat (20 * wm + wd) x ∧ v = x + (584283 + n)) (saysT_mono (nb_good w mean mg mb T U n wn wd t u0 u1 u2 u3 k0 k1 wna.toNat wm.toNat _ _ rfl rfl (by omega) (by omega) (by omega) (by omega) (by omega) (by omega) (by omega) (by rw [e]; exact c5) hlo hhi) fun _ _ _ _ _ _ _ _ _ r => ⟨r.1.1, r.1.2, fun x u s' ps' qs' hx => r.2 _ u s' ps' qs' ⟨x, by rw [← e]; exact hx, rfl⟩⟩)) fun _ _ _ _ _ _ r => ⟨r.1, fun v s' ps' qs' hv => r.2 v s' ps' qs' ?_⟩
    obtain ⟨_, u, rfl, x, hx, rfl⟩ := hv
    exact .inr (.inr ⟨⟨by omega, by omega, by omega, by omega, by omega, by omega⟩, .inl ⟨x, u, hx, rfl⟩⟩)
  · refine saysL_mono (tb_index w mean mg mb T U _ t _ (saysT_mono (nb_none w mean mg mb T U n wn wd t u0 u1 u2 u3 k0 k1 wna.toNat wm.toNat _ _ rfl rfl (by omega) (by omega) (by omega) (by omega) (by omega) (by omega) (by omega) (by rw [e]; exact fun x hx => c5 ⟨x, hx⟩) hlo hhi) fun _ _ _ _ _ _ _ _ _ r => ⟨r.1.1, r.1.2, r.2⟩)) fun _ _ _ _ _ _ r => ⟨r.1, fun v s' ps' qs' hv => r.2 v s' ps' qs' ?_⟩
    exact .inr (.inr ⟨⟨by omega, by omega, by omega, by omega, by omega, by omega⟩, .inr ⟨fun x hx => c5 ⟨x, hx⟩, hv⟩⟩)
/-- what _law_told_tzolkin tells -/
def TT (n wn wna : Int) (v : Value) : Prop :=
  ((n < 0 ∨ wn < 1 ∨ 13 < wn) ∧ ∃ u, v = .str "index" u) ∨ (wna = 20 ∧ ∃ u, v = .str "value" u) ∨
  ((0 ≤ n ∧ 1 ≤ wn ∧ wn ≤ 13 ∧ wna < 20) ∧ ∃ a u, 0 ≤ a ∧ a < 260 ∧ (n + 3 + a) % 13 + 1 = wn ∧ (n + 19 + a) % 20 = wna ∧ v = .int (584283 + n + a) u)
theorem tt_all (w : World) (mean : ExcName → Option Value) (mg mb : Str → Option Value) (T : Addr) (n wn wna : Int) (t u0 u1 : Tok) (k0 : Nat) (hna : 0 ≤ wna) (hna2 : wna ≤ 20) (hlo : -2000 ≤ n) (hhi : n < 2000000000) :
    SaysL w mean mg mb 12 400 116 [.ref T, .int (584283 + n) t] (fun h₀ L m pre s Q => (T, tup2 wn u0 (tzolN.getD wna.toNat Str.empty) u1 k0) ∈ pre ∧ Back h₀ L m pre s (TT n wn wna) Q) := by
  by_cases c1 : n < 0
  · refine saysL_mono (tt_index w mean mg mb T _ t (fun pre => (T, tup2 wn u0 (tzolN.getD wna.toNat Str.empty) u1 k0) ∈ pre) (saysT_mono (nt_early w mean mg mb T n t hlo c1) fun _ _ _ _ _ _ _ _ _ r => r.2)) fun _ _ _ _ _ _ r => ⟨r.1, fun v s' ps' qs' hv => r.2 v s' ps' qs' (.inl ⟨.inl c1, hv⟩)⟩
  by_cases c2 : wn < 1 ∨ 13 < wn
  · refine saysL_mono (tt_index w mean mg mb T _ t _ (nt_day w mean mg mb T n wn t u0 u1 k0 _ c2 (by omega) hhi)) fun _ _ _ _ _ _ r => ⟨r.1, fun v s' ps' qs' hv => r.2 v s' ps' qs' (.inl ⟨.inr c2, hv⟩)⟩
  by_cases c3 : wna = 20
  · subst c3
    refine saysL_mono (tt_value w mean mg mb T _ t _ (nt_name w mean mg mb T n wn t u0 u1 k0 (by omega) (by omega) (by omega) hhi)) fun _ _ _ _ _ _ r => ⟨r.1, fun v s' ps' qs' hv => r.2 v s' ps' qs' (.inr (.inl ⟨rfl, hv⟩))⟩
  · refine saysL_mono (tt_good w mean mg mb T _ t (fun pre => (T, tup2 wn u0 (tzolN.getD wna.toNat Str.empty) u1 k0) ∈ pre) (fun v => ∃ a, 0 ≤ a ∧ a < 260 ∧ (n + 3 + a) % 13 + 1 = wn ∧ (n + 19 + a) % 20 = wna ∧ v = 584283 + n + a)
      (saysT_mono (nt_good w mean mg mb T n wn t u0 u1 k0 wna.toNat _ rfl (by omega) (by omega) (by omega) (by omega) hhi) fun _ _ _ _ _ _ _ _ _ r => ⟨r.1, fun a u s' ps' qs' h1 h2 h3 h4 => r.2 _ u s' ps' qs' ⟨a, h1, h2, h3, by omega, rfl⟩⟩)) fun _ _ _ _ _ _ r => ⟨r.1, fun v s' ps' qs' hv => r.2 v s' ps' qs' ?_⟩
    obtain ⟨_, u, rfl, a, h1, h2, h3, h4, rfl⟩ := hv
    exact .inr (.inr ⟨⟨by omega, by omega, by omega, by omega⟩, a, u, h1, h2, h3, h4, rfl⟩)
/-- what _law_told_month tells -/
def TM (n wm : Int) (v : Value) : Prop :=
  (n < 0 ∧ ∃ u, v = .str "index" u) ∨ (wm = 19 ∧ ∃ u, v = .str "value" u) ∨
  ((0 ≤ n ∧ wm < 19) ∧ ∃ u, v = .int (if (n + 348) % 365 / 20 = wm then 584283 + n + (1 - (n + 348) % 365 % 20) else 584283 + n + ((20 * wm + 1) - (n + 348) % 365) % 365) u)
theorem tm_all (w : World) (mean : ExcName → Option Value) (mg mb : Str → Option Value) (n wm : Int) (t t' : Tok) (hm1 : 0 ≤ wm) (hm2 : wm ≤ 19) (hlo : -2000 ≤ n) (hhi : n < 2000000000) :
    SaysL w mean mg mb 12 400 123 [.str (haabN.getD wm.toNat Str.empty) t', .int (584283 + n) t] (fun h₀ L m pre s Q => Back h₀ L m pre s (TM n wm) Q) := by
  by_cases c1 : n < 0
  · refine saysL_mono (tm_index w mean mg mb _ _ t t' (nh_early w mean mg mb n t _ t' hlo c1)) fun _ _ _ _ _ _ r => fun v s' ps' qs' hv => r v s' ps' qs' (.inl ⟨c1, hv⟩)
  by_cases c2 : wm = 19
  · subst c2
    refine saysL_mono (tm_value w mean mg mb _ _ t t' (nh_bad w mean mg mb n t t' (by omega) hhi)) fun _ _ _ _ _ _ r => fun v s' ps' qs' hv => r v s' ps' qs' (.inr (.inl ⟨rfl, hv⟩))
  · refine saysL_mono (tm_good w mean mg mb _ _ t t' _ (nh_good w mean mg mb n t wm.toNat _ t' rfl (by omega) (by omega) hhi)) fun _ _ _ _ _ _ r => fun v s' ps' qs' hv => r v s' ps' qs' ?_
    obtain ⟨_, u, rfl, rfl⟩ := hv
    have e : ((wm.toNat : Nat) : Int) = wm := by omega
    rw [e]
    exact .inr (.inr ⟨⟨by omega, by omega⟩, u, rfl⟩)
theorem saysL_use {w : World} {mean : ExcName → Option Value} {mg mb : Str → Option Value} {dN uN : Nat} {f : Addr} {vs : List Value} {dp un : Nat} {gd : Option (List PySem.Code)} {cn : Str} {cs : Scope} {a : Addr} {ccd : Value} {A₀ : Around} {base h₀ : Heap} {L : Addr} {m : Str → Option Value}
    {news pre : List (Addr × Obj)} {ps qs : Array Value} {s : Shared} {Q E : Value → Shared → Prop} {R} (S : SaysL w mean mg mb dN uN f vs R) (B : Below A₀ base [] h₀) (F : Fr h₀ L s.heap m) (X : (Mine.hd.heap_39 w.params).In h₀) (N : News h₀ L s.heap news) (T : Top topProg LL mean mg mb h₀) (hk : cs.kind = .function)
    (XB : (Mine.hd.heap_39 w.params).In base) (TB : Top topProg LL mean mg mb base) (C57 : CodeHd base 57 53) (C78 : CodeHd base 78 74)
    (hT : Tail news pre (tl ps qs)) (h1 : TriplesOk ps.toList) (h2 : TriplesOk qs.toList) (hb : AllBare s.gens) (hp : ∀ q ∈ pre, 74 < q.1)
    (hd : dp + dN < recursionLimit) (hu : un + uN < cLine) (r : R h₀ L m pre s Q) :
    wpAny (model PySem.Challenge.rw_bn0005_01.row.prog w) (ktrTop dp un gd cn cs L a ccd [] []) (call (.ref f) vs) Q E s := S _ _ _ _ _ _ _ _ _ _ _ _ _ _ _ _ _ _ _ B F X N T hk hd hu XB TB C57 C78 hT hp h1 h2 hb r
/-- the law's names behind its fifteenth statement -/
abbrev VC (n number name hday month wn wna wd wm k : Int) (t0 t1 t2 t3 t4 t5 t6 t7 t8 t9 t10 : Tok) (T U De Dt Dh : Addr) : List (Str × Value) :=
  [("n", .int n t0), ("jd", .int (584283 + n) t1), ("number", .int number t2), ("name", .int name t3), ("hday", .int hday t4), ("month", .int month t5), ("want_number", .int wn t6), ("want_name", .int wna t7), ("want_day", .int wd t8), ("want_month", .int wm t9), ("k", .int k t10),
        ("tzolkin", .ref T), ("haab", .ref U), ("early", .ref De), ("wrong_tzolkin", .ref Dt), ("wrong_haab", .ref Dh)]
/-- the law's ledger behind its fifteenth statement -/
abbrev LC (wn wna wd wm : Int) (xE xT xN xD xM : Bool) (u0 u1 u2 u3 u4 u5 u6 u7 u8 u9 : Tok) (k0 k1 k2 k3 k4 : Nat) (T U De Dt Dh : Addr) (r : List (Addr × Obj)) : List (Addr × Obj) :=
  (Dh, W.listOf (faultsOf xD xM u8 u9).toArray k4) :: (Dt, W.listOf (faultsOf xT xN u6 u7).toArray k3) :: (De, W.listOf (faultsOf xE false u4 u5).toArray k2) :: (U, tup2 wd u2 (haabN.getD wm.toNat Str.empty) u3 k1) :: (T, tup2 wn u0 (tzolN.getD wna.toNat Str.empty) u1 k0) :: r
theorem tb_use {w : World} {mean : ExcName → Option Value} {mg mb : Str → Option Value} {dp un : Nat} {gd : Option (List PySem.Code)} {cn : Str} {cs : Scope} {a : Addr} {ccd : Value} {A₀ : Around} {base h₀ : Heap} {L : Addr} {m : Str → Option Value}
    {news pre : List (Addr × Obj)} {ps qs : Array Value} {s : Shared} {Q E : Value → Shared → Prop} {T U : Addr} {n wn wna wd wm : Int} {t u0 u1 u2 u3 : Tok} {k0 k1 : Nat}
    (B : Below A₀ base [] h₀) (F : Fr h₀ L s.heap m) (X : (Mine.hd.heap_39 w.params).In h₀) (N : News h₀ L s.heap news) (T9 : Top topProg LL mean mg mb h₀) (hk : cs.kind = .function)
    (XB : (Mine.hd.heap_39 w.params).In base) (TB9 : Top topProg LL mean mg mb base) (C57 : CodeHd base 57 53) (C78 : CodeHd base 78 74)
    (hT : Tail news pre (tl ps qs)) (e1 : (T, tup2 wn u0 (tzolN.getD wna.toNat Str.empty) u1 k0) ∈ pre) (e2 : (U, tup2 wd u2 (haabN.getD wm.toNat Str.empty) u3 k1) ∈ pre)
    (h1 : TriplesOk ps.toList) (h2 : TriplesOk qs.toList) (hb : AllBare s.gens) (hp : ∀ q ∈ pre, 74 < q.1)
    (hd : dp + 12 < recursionLimit) (hu : un + 400 < cLine) (hna : 0 ≤ wna) (hna2 : wna ≤ 20) (hm1 : 0 ≤ wm) (hm2 : wm ≤ 19) (h18 : wm = 18 → wd < 5 ∨ 20 ≤ wd) (hlo : -2000 ≤ n) (hhi : n < 2000000000) (r : Back h₀ L m pre s (TB n wn wna wd wm) Q) :
    wpAny (model PySem.Challenge.rw_bn0005_01.row.prog w) (ktrTop dp un gd cn cs L a ccd [] []) (call (.ref 109) [.ref T, .ref U, .int (584283 + n) t]) Q E s :=
  saysL_use (tb_all w mean mg mb T U n wn wna wd wm t u0 u1 u2 u3 k0 k1 hna hna2 hm1 hm2 h18 hlo hhi) B F X N T9 hk XB TB9 C57 C78 hT h1 h2 hb hp hd hu ⟨⟨e1, e2⟩, r⟩
theorem tt_use {w : World} {mean : ExcName → Option Value} {mg mb : Str → Option Value} {dp un : Nat} {gd : Option (List PySem.Code)} {cn : Str} {cs : Scope} {a : Addr} {ccd : Value} {A₀ : Around} {base h₀ : Heap} {L : Addr} {m : Str → Option Value}
    {news pre : List (Addr × Obj)} {ps qs : Array Value} {s : Shared} {Q E : Value → Shared → Prop} {T : Addr} {n wn wna : Int} {t u0 u1 : Tok} {k0 : Nat}
    (B : Below A₀ base [] h₀) (F : Fr h₀ L s.heap m) (X : (Mine.hd.heap_39 w.params).In h₀) (N : News h₀ L s.heap news) (T9 : Top topProg LL mean mg mb h₀) (hk : cs.kind = .function)
    (XB : (Mine.hd.heap_39 w.params).In base) (TB9 : Top topProg LL mean mg mb base) (C57 : CodeHd base 57 53) (C78 : CodeHd base 78 74)
    (hT : Tail news pre (tl ps qs)) (e1 : (T, tup2 wn u0 (tzolN.getD wna.toNat Str.empty) u1 k0) ∈ pre)
    (h1 : TriplesOk ps.toList) (h2 : TriplesOk qs.toList) (hb : AllBare s.gens) (hp : ∀ q ∈ pre, 74 < q.1)
    (hd : dp + 12 < recursionLimit) (hu : un + 400 < cLine) (hna : 0 ≤ wna) (hna2 : wna ≤ 20) (hlo : -2000 ≤ n) (hhi : n < 2000000000) (r : Back h₀ L m pre s (TT n wn wna) Q) :
    wpAny (model PySem.Challenge.rw_bn0005_01.row.prog w) (ktrTop dp un gd cn cs L a ccd [] []) (call (.ref 116) [.ref T, .int (584283 + n) t]) Q E s :=
  saysL_use (tt_all w mean mg mb T n wn wna t u0 u1 k0 hna hna2 hlo hhi) B F X N T9 hk XB TB9 C57 C78 hT h1 h2 hb hp hd hu ⟨e1, r⟩
theorem tm_use {w : World} {mean : ExcName → Option Value} {mg mb : Str → Option Value} {dp un : Nat} {gd : Option (List PySem.Code)} {cn : Str} {cs : Scope} {a : Addr} {ccd : Value} {A₀ : Around} {base h₀ : Heap} {L : Addr} {m : Str → Option Value}
    {news pre : List (Addr × Obj)} {ps qs : Array Value} {s : Shared} {Q E : Value → Shared → Prop} {n wm : Int} {y : Str} {t t' : Tok} (hy : y = haabN.getD wm.toNat Str.empty)
    (B : Below A₀ base [] h₀) (F : Fr h₀ L s.heap m) (X : (Mine.hd.heap_39 w.params).In h₀) (N : News h₀ L s.heap news) (T9 : Top topProg LL mean mg mb h₀) (hk : cs.kind = .function)
    (XB : (Mine.hd.heap_39 w.params).In base) (TB9 : Top topProg LL mean mg mb base) (C57 : CodeHd base 57 53) (C78 : CodeHd base 78 74)
    (hT : Tail news pre (tl ps qs)) (h1 : TriplesOk ps.toList) (h2 : TriplesOk qs.toList) (hb : AllBare s.gens) (hp : ∀ q ∈ pre, 74 < q.1)
    (hd : dp + 12 < recursionLimit) (hu : un + 400 < cLine) (hm1 : 0 ≤ wm) (hm2 : wm ≤ 19) (hlo : -2000 ≤ n) (hhi : n < 2000000000) (r : Back h₀ L m pre s (TM n wm) Q) :
    wpAny (model PySem.Challenge.rw_bn0005_01.row.prog w) (ktrTop dp un gd cn cs L a ccd [] []) (call (.ref 123) [.str y t', .int (584283 + n) t]) Q E s := by
  subst hy
  exact saysL_use (tm_all w mean mg mb n wm t t' hm1 hm2 hlo hhi) B F X N T9 hk XB TB9 C57 C78 hT h1 h2 hb hp hd hu r
end Mine
end
section
open PySem PySem.W PyProof.Rows PySem.Calls PyProof.V PySem.Spec
set_option maxRecDepth 100000
set_option maxHeartbeats 1600000
namespace Mine
theorem ks_canLayAll0 : ∀ ns : List Str, (∀ y ∈ ns, PyData.strOk y = true) → PyData.canLayAll0 (ns.map PyData.str) = true
  | [], _ => rfl
  | y :: r, h => by simp [PyData.canLayAll0, PyData.canLay0, ks_canLayAll0 r fun y hy => h y (.tail _ hy), h y (.head _)]
theorem ks_depthAll : ∀ ns : List Str, PyData.depthAll (ns.map PyData.str) = 0
  | [] => rfl
  | _ :: r => by simp [PyData.depthAll, PyData.depth, ks_depthAll r]
theorem ks_shaped (ns : List Str) (h : ∀ y ∈ ns, PyData.strOk y = true) : SeqAt.shaped (.list (ns.map PyData.str)) = true := by
  simp [SeqAt.shaped, PyData.canLay0, PyData.depth, ks_canLayAll0 ns h, ks_depthAll]
theorem ks_sameAll : ∀ ns ms : List Str, PySem.Spec.sameAll (ns.map PyData.str) (ms.map PyData.str) = decide (ns = ms)
  | [], [] => by simp [PySem.Spec.sameAll]
  | [], _ :: _ => by simp [PySem.Spec.sameAll]
  | _ :: _, [] => by simp [PySem.Spec.sameAll]
  | a :: r, b :: t => by
    simp only [List.map_cons, PySem.Spec.sameAll, PyProof.V.same_str, ks_sameAll r t]
    by_cases h : a = b <;> by_cases h' : r = t <;> simp [h, h']
theorem ks_same (ns ms : List Str) : PySem.Spec.same (.list (ns.map PyData.str)) (.list (ms.map PyData.str)) = decide (ns = ms) := by
  simp only [PySem.Spec.same]; exact ks_sameAll ns ms
theorem ks_carried : ∀ {vs : List Value} {ns : List Str}, StrsAre vs ns → CarriedAll vs (ns.map PyData.str)
  | _, _, .nil => .nil
  | _, _, .cons _ t r => .cons (.str _ t) (ks_carried r)
theorem ks_app : ∀ {vs ws : List Value} {ns ms : List Str}, StrsAre vs ns → StrsAre ws ms → StrsAre (vs ++ ws) (ns ++ ms)
  | _, _, _, _, .nil, h => h
  | _, _, _, _, .cons y t r, h => .cons y t (ks_app r h)
theorem ks_len : ∀ {vs : List Value} {ns : List Str}, StrsAre vs ns → vs.length = ns.length
  | _, _, .nil => rfl
  | _, _, .cons _ _ r => by rw [List.length_cons, List.length_cons, ks_len r]
/-- the words of a list of faults -/
def fN (a b : Bool) : List Str := (if a then [("index" : Str)] else []) ++ (if b then [("value" : Str)] else [])
theorem fN_len (a b : Bool) : (fN a b).length ≤ 2 := by cases a <;> cases b <;> decide
theorem fN_are (a b : Bool) (t u : Tok) : StrsAre (faultsOf a b t u) (fN a b) := by
  cases a <;> cases b
  · exact .nil
  · exact .cons _ _ .nil
  · exact .cons _ _ .nil
  · exact .cons _ _ (.cons _ _ .nil)
theorem fN_nil {a b c d : Bool} : fN a b ++ fN c d = [] ↔ a = false ∧ b = false ∧ c = false ∧ d = false := by
  cases a <;> cases b <;> cases c <;> cases d <;> decide
theorem fN_nil1 {a b : Bool} : fN a b = [] ↔ a = false ∧ b = false := by
  cases a <;> cases b <;> decide
theorem fN_index {a b c d : Bool} : (fN a b ++ fN c d).any (· == ("index" : Str)) = (a || c) := by
  cases a <;> cases b <;> cases c <;> cases d <;> decide
theorem fN_value {a b c d : Bool} : (fN a b ++ fN c d).any (· == ("value" : Str)) = (b || d) := by
  cases a <;> cases b <;> cases c <;> cases d <;> decide
theorem fN_ok (a b : Bool) : ∀ y ∈ fN a b, PyData.strOk y = true := by
  cases a <;> cases b <;> decide +kernel
theorem fN_ok2 (a b c d : Bool) : ∀ y ∈ fN a b ++ fN c d, PyData.strOk y = true := fun y hy => (List.mem_append.mp hy).elim (fN_ok a b y) (fN_ok c d y)
section
variable {prog : Program} {w : World} {A : Around} {E : Value → Shared → Prop} {s : Shared} {h₀ : Heap} {L : Addr} {m : Str → Option Value} {news : List (Addr × Obj)} {a b : Addr} {xs ys : List Value} {ka kb : Nat} {Q : Value → Shared → Prop}
theorem isL (N : News h₀ L s.heap news) (ha : (a, W.listOf xs.toArray ka) ∈ news) : s.heap.IsList a xs.toArray := News.isList N ha
theorem add_fl {p q r t : Bool} (F : Fr h₀ L s.heap m) (N : News h₀ L s.heap news) (ha : (a, W.listOf xs.toArray ka) ∈ news) (hb : (b, W.listOf ys.toArray kb) ∈ news) (hx : StrsAre xs (fN p q)) (hy : StrsAre ys (fN r t))
    (h : ∀ D h', Fr h₀ L h' m → News h₀ L h' ((D, W.listOf (xs ++ ys).toArray 0) :: news) → (∀ p ∈ news, p.1 < D) → StrsAre (xs ++ ys) (fN p q ++ fN r t) → Q (.ref D) { s with heap := h' }) :
    wpAny (model prog w) A (binaryOp .Add (.ref a) (.ref b)) Q E s := by
  refine add_lists F N (isL N ha) (isL N hb) (fun h' F' N' => h _ h' F' N' (fun p hp => Heap.lt_size (N p hp).1) (ks_app hx hy)) ?_
  rw [ks_len hx, ks_len hy]
  have := fN_len p q
  have := fN_len r t
  refine Nat.le_trans (show _ ≤ 4 by omega) ?_
  decide
theorem ne_fl {ns ms : List Str} (oa : ∀ y ∈ ns, PyData.strOk y = true) (ob : ∀ y ∈ ms, PyData.strOk y = true) (N : News h₀ L s.heap news) (ha : (a, W.listOf xs.toArray ka) ∈ news) (hb : (b, W.listOf ys.toArray kb) ∈ news) (hx : StrsAre xs ns) (hy : StrsAre ys ms) (hu : A.units + 64 < cLine)
    (h : Q (.bool (!decide (ns = ms))) s) : wpAny (model prog w) A (compareOp .NotEq (.ref a) (.ref b)) Q E s :=
  ne_dataH_same (reads_newData (isL N ha) (ks_carried hx)) (reads_newData (isL N hb) (ks_carried hy)) (ks_shaped _ oa) (ks_shaped _ ob) hu (SeqAt.noMix_of_shape (.list .str) rfl _ _ (list_map_has fun _ => rfl) (list_map_has fun _ => rfl)) (by rw [ks_same]; exact h)
theorem ne_fl1 {ns : List Str} (oa : ∀ y ∈ ns, PyData.strOk y = true) (N : News h₀ L s.heap news) (ha : (a, W.listOf xs.toArray ka) ∈ news) (hb : (b, W.listOf ys.toArray kb) ∈ news) (hx : StrsAre xs ns) (hy : StrsAre ys []) (hu : A.units + 64 < cLine)
    (hne : ns ≠ []) (h : Q (.bool true) s) : wpAny (model prog w) A (compareOp .NotEq (.ref a) (.ref b)) Q E s :=
  ne_fl oa (fun _ h => absurd h List.not_mem_nil) N ha hb hx hy hu (by rw [decide_eq_false hne]; exact h)
theorem ne_fl0 {ns : List Str} (oa : ∀ y ∈ ns, PyData.strOk y = true) (N : News h₀ L s.heap news) (ha : (a, W.listOf xs.toArray ka) ∈ news) (hb : (b, W.listOf ys.toArray kb) ∈ news) (hx : StrsAre xs ns) (hy : StrsAre ys []) (hu : A.units + 64 < cLine)
    (hne : ns = []) (h : Q (.bool false) s) : wpAny (model prog w) A (compareOp .NotEq (.ref a) (.ref b)) Q E s :=
  ne_fl oa (fun _ h => absurd h List.not_mem_nil) N ha hb hx hy hu (by rw [decide_eq_true hne]; exact h)
theorem notin_fl {ns : List Str} {k : Str} {t : Tok} (N : News h₀ L s.heap news) (ha : (a, W.listOf xs.toArray ka) ∈ news) (hx : StrsAre xs ns) (hin : ns.any (· == k) = true) (h : Q (.bool false) s) : wpAny (model prog w) A (compareOp .NotIn (.str k t) (.ref a)) Q E s :=
  notin_list_strs (isL N ha) hx (by rw [hin]; exact h)
theorem in_fl {ns : List Str} {k : Str} {t : Tok} (N : News h₀ L s.heap news) (ha : (a, W.listOf xs.toArray ka) ∈ news) (hx : StrsAre xs ns) (hin : ns.any (· == k) = true) (h : Q (.bool true) s) : wpAny (model prog w) A (compareOp .In (.str k t) (.ref a)) Q E s :=
  in_list_strs (isL N ha) hx (by rw [hin]; exact h)
end
/-- _law_faults, its list by the words -/
theorem faults_strs (w : World) (mean : ExcName → Option Value) (mg mb : Str → Option Value) (x y : Bool) :
    Says w mean mg mb 3 30 130 [.bool x, .bool y] (fun h₀ L m news s _ Q _ =>
      ∀ D fs kn h' tk', StrsAre fs (fN x y) → Fr h₀ L h' m → News h₀ L h' ((D, W.listOf (List.toArray fs) kn) :: news) → (∀ p ∈ news, p.1 < D) → Q (.ref D) { s with heap := h', toks := tk' }) :=
  fun dp un gd cn cs a ccd cl outer A₀ base h₀ L m news s Q E B F X N T hk hd hu r =>
    faults_says w mean mg mb x y dp un gd cn cs a ccd cl outer A₀ base h₀ L m news s Q E B F X N T hk hd hu fun D t u kn h' tk' F' N' l => r D _ kn h' tk' (fN_are x y t u) F' N' l
theorem tz_same {n number name wn wna a x : Int} (h1 : number = (n + 3) % 13 + 1) (h2 : name = (n + 19) % 20) (a0 : 0 ≤ a) (a1 : a < 260) (a2 : (n + 3 + a) % 13 + 1 = wn) (a3 : (n + 19 + a) % 20 = wna) (x0 : 0 ≤ x) (x1 : x < 260) (x2 : (number - 1 + x) % 13 + 1 = wn) (x3 : (name + x) % 20 = wna) : a = x := by
  have b1 : (a - x) % 13 = 0 := by omega
  have b2 : (a - x) % 20 = 0 := by omega
  omega
theorem month_end {n wm month hday V : Int} (h1 : hday = (n + 348) % 365 % 20) (h2 : month = (n + 348) % 365 / 20) (hV : (if (n + 348) % 365 / 20 = wm then 584283 + n + (1 - (n + 348) % 365 % 20) else 584283 + n + (20 * wm + 1 - (n + 348) % 365) % 365) = V)
    (h : month ≠ wm ∨ ¬ 1 < hday) : V = 584283 + n + (20 * wm + 1 - (20 * month + hday)) % 365 := by
  subst hV
  have e : 20 * month + hday = (n + 348) % 365 := by omega
  by_cases c : (n + 348) % 365 / 20 = wm
  · rw [if_pos c]; omega
  · rw [if_neg c, e]
theorem ret_eq {Q : Flow → Shared → Prop} {x y : Int} {s : Shared} (e : x = y) (h : Q (.ret (.bool true)) s) : Q (.ret (.bool (x == y))) s := by
  subst e; rw [beq_self_eq_true]; exact h
/-- the law's ledger, its lists of faults by name -/
abbrev LCf (wn wna wd wm : Int) (fE fT fH : List Value) (u0 u1 u2 u3 : Tok) (k0 k1 k2 k3 k4 : Nat) (T U De Dt Dh : Addr) (r : List (Addr × Obj)) : List (Addr × Obj) :=
  (Dh, W.listOf fH.toArray k4) :: (Dt, W.listOf fT.toArray k3) :: (De, W.listOf fE.toArray k2) :: (U, tup2 wd u2 (haabN.getD wm.toNat Str.empty) u3 k1) :: (T, tup2 wn u0 (tzolN.getD wna.toNat Str.empty) u1 k0) :: r
theorem LCf_eq (wn wna wd wm : Int) (xE xT xN xD xM : Bool) (u0 u1 u2 u3 u4 u5 u6 u7 u8 u9 : Tok) (k0 k1 k2 k3 k4 : Nat) (T U De Dt Dh : Addr) (r : List (Addr × Obj)) :
    LC wn wna wd wm xE xT xN xD xM u0 u1 u2 u3 u4 u5 u6 u7 u8 u9 k0 k1 k2 k3 k4 T U De Dt Dh r = LCf wn wna wd wm (faultsOf xE false u4 u5) (faultsOf xT xN u6 u7) (faultsOf xD xM u8 u9) u0 u1 u2 u3 k0 k1 k2 k3 k4 T U De Dt Dh r := rfl
end Mine
end
section
open PySem PySem.W PyProof.Rows
set_option maxRecDepth 100000
set_option maxHeartbeats 1600000
namespace Mine
/-- the law's loop over 52 years, i years gone: the wheels of that year's day, and due -/
def DueI (n wn wna dd : Int) (i : Nat) (v : Value) (num nam : Int) : Prop :=
  num = (n + 3 + dd + (i : Int)) % 13 + 1 ∧ nam = (n + 19 + dd + 5 * (i : Int)) % 20 ∧
  ((∃ u, v = .str "index" u ∧ ∀ j : Nat, j < i → ¬ ((n + 3 + dd + (j : Int)) % 13 + 1 = wn ∧ (n + 19 + dd + 5 * (j : Int)) % 20 = wna)) ∨
   (∃ (j : Nat) (u : Tok), j < i ∧ (n + 3 + dd + (j : Int)) % 13 + 1 = wn ∧ (n + 19 + dd + 5 * (j : Int)) % 20 = wna ∧ v = .int (584283 + n + dd + 365 * (j : Int)) u))
theorem due_start {n wn wna dd num nam num0 nam0 : Int} {u : Tok} (h1 : num0 = (n + 3) % 13 + 1) (h2 : nam0 = (n + 19) % 20) (e1 : num = (num0 - 1 + dd).fmod 13 + 1) (e2 : nam = (nam0 + dd).fmod 20) : DueI n wn wna dd 0 (.str "index" u) num nam := by
  rw [fm (by decide)] at e1 e2
  refine ⟨by omega, by omega, .inl ⟨u, rfl, fun j hj => absurd hj (Nat.not_lt_zero _)⟩⟩
theorem due_keep {n wn wna dd num nam num' nam' : Int} {i i' : Nat} {j : Nat} {u : Tok} (h1 : num = (n + 3 + dd + (i : Int)) % 13 + 1) (h2 : nam = (n + 19 + dd + 5 * (i : Int)) % 20) (hj : j < i) (e1 : (n + 3 + dd + (j : Int)) % 13 + 1 = wn) (e2 : (n + 19 + dd + 5 * (j : Int)) % 20 = wna) (d1 : num' = num.fmod 13 + 1) (d2 : nam' = (nam + 5).fmod 20) (hi : i' = i + 1) :
    DueI n wn wna dd i' (.int (584283 + n + dd + 365 * (j : Int)) u) num' nam' := by
  subst hi
  rw [fm (by decide)] at d1 d2
  exact ⟨by omega, by omega, .inr ⟨j, u, by omega, e1, e2, rfl⟩⟩
theorem due_hit {n wn wna dd num nam num' nam' y : Int} {i i' : Nat} {u : Tok} (h1 : num = (n + 3 + dd + (i : Int)) % 13 + 1) (h2 : nam = (n + 19 + dd + 5 * (i : Int)) % 20) (e1 : num = wn) (e2 : nam = wna) (d1 : num' = num.fmod 13 + 1) (d2 : nam' = (nam + 5).fmod 20) (hi : i' = i + 1) (hy : y = 0 + (i : Int)) :
    DueI n wn wna dd i' (.int (584283 + n + dd + 365 * y) u) num' nam' := by
  subst hi
  rw [Int.zero_add] at hy
  subst hy
  rw [fm (by decide)] at d1 d2
  exact ⟨by omega, by omega, .inr ⟨i, u, by omega, by omega, by omega, rfl⟩⟩
theorem due_miss {n wn wna dd num nam num' nam' : Int} {i i' : Nat} {u : Tok} (h1 : num = (n + 3 + dd + (i : Int)) % 13 + 1) (h2 : nam = (n + 19 + dd + 5 * (i : Int)) % 20) (hm : ∀ j : Nat, j < i → ¬ ((n + 3 + dd + (j : Int)) % 13 + 1 = wn ∧ (n + 19 + dd + 5 * (j : Int)) % 20 = wna)) (e : num ≠ wn ∨ nam ≠ wna) (d1 : num' = num.fmod 13 + 1) (d2 : nam' = (nam + 5).fmod 20) (hi : i' = i + 1) :
    DueI n wn wna dd i' (.str "index" u) num' nam' := by
  subst hi
  rw [fm (by decide)] at d1 d2
  refine ⟨by omega, by omega, .inl ⟨u, rfl, fun j hj => ?_⟩⟩
  rcases Nat.lt_succ_iff_lt_or_eq.mp hj with hj | rfl
  · exact hm j hj
  · rintro ⟨a, b⟩; omega
/-- the day that a year's turn tells is the day sought -/
theorem due_fit {n wn wna wd wm hday month : Int} {j : Nat} (h3 : hday = (n + 348) % 365 % 20) (h4 : month = (n + 348) % 365 / 20) (hw : 0 ≤ wna) (a0 : 0 ≤ wm) (a1 : 0 ≤ wd) (a2 : 20 * wm + wd < 365) (hj : j < 52)
    (e1 : (n + 3 + (20 * wm + wd - (20 * month + hday)) % 365 + (j : Int)) % 13 + 1 = wn) (e2 : (n + 19 + (20 * wm + wd - (20 * month + hday)) % 365 + 5 * (j : Int)) % 20 = wna) :
    Fit n wn wna.toNat (20 * wm + wd) ((20 * wm + wd - (20 * month + hday)) % 365 + 365 * (j : Int)) := by
  have e5 : 20 * month + hday = (n + 348) % 365 := by omega
  rw [e5] at *
  have b1 := Int.emod_nonneg (20 * wm + wd - (n + 348) % 365) (show (365 : Int) ≠ 0 by decide)
  have b2 := Int.emod_lt_of_pos (20 * wm + wd - (n + 348) % 365) (show (0 : Int) < 365 by decide)
  have b3 : (n + 348 + (20 * wm + wd - (n + 348) % 365) % 365) % 365 = 20 * wm + wd := by omega
  generalize (20 * wm + wd - (n + 348) % 365) % 365 = D at *
  exact ⟨by omega, by omega, by omega, by omega, by omega⟩
/-- a day sought is told by a year's turn -/
theorem fit_due {n wn wna wd wm hday month x : Int} (h3 : hday = (n + 348) % 365 % 20) (h4 : month = (n + 348) % 365 / 20) (hw : 0 ≤ wna) (a0 : 0 ≤ wm) (a1 : 0 ≤ wd) (a2 : 20 * wm + wd < 365) (hx : Fit n wn wna.toNat (20 * wm + wd) x) :
    ∃ j : Nat, j < 52 ∧ x = (20 * wm + wd - (20 * month + hday)) % 365 + 365 * (j : Int) ∧ (n + 3 + (20 * wm + wd - (20 * month + hday)) % 365 + (j : Int)) % 13 + 1 = wn ∧ (n + 19 + (20 * wm + wd - (20 * month + hday)) % 365 + 5 * (j : Int)) % 20 = wna := by
  have e5 : 20 * month + hday = (n + 348) % 365 := by omega
  rw [e5] at *
  obtain ⟨x1, x2, x3, x4, x5⟩ := hx
  have b1 := Int.emod_nonneg (20 * wm + wd - (n + 348) % 365) (show (365 : Int) ≠ 0 by decide)
  have b2 := Int.emod_lt_of_pos (20 * wm + wd - (n + 348) % 365) (show (0 : Int) < 365 by decide)
  have b3 : (n + 348 + (20 * wm + wd - (n + 348) % 365) % 365) % 365 = 20 * wm + wd := by omega
  generalize (20 * wm + wd - (n + 348) % 365) % 365 = D at *
  have b4 : (x - D) % 365 = 0 := by omega
  refine ⟨((x - D) / 365).toNat, by omega, by omega, ?_, ?_⟩
  · have : (((x - D) / 365).toNat : Int) = (x - D) / 365 := by omega
    rw [this]
    have b5 : x = D + 365 * ((x - D) / 365) := by omega
    generalize (x - D) / 365 = q at *
    omega
  · have : (((x - D) / 365).toNat : Int) = (x - D) / 365 := by omega
    rw [this]
    have b5 : x = D + 365 * ((x - D) / 365) := by omega
    generalize (x - D) / 365 = q at *
    omega
end Mine
end
section
namespace Mine
open PySem PySem.W PyProof.Rows in
theorem fresh_LAWD {M : Model} {A : Around} {E : Value → Shared → Prop} {env : Env} {Q : Flow → Shared → Prop} {s : Shared} (h : Q .next s) : wpAny M A (execs [] env) Q E s := by
  w_top off
  walk1
  exact h
end Mine
open PySem PySem.W PyProof.Rows
set_option maxRecDepth 100000
set_option maxHeartbeats 3200000
namespace Mine
local macro_rules | `(tactic| k_room) => `(tactic| ktr_room)
local macro_rules | `(tactic| k_units) => `(tactic| ktr_units)
local macro_rules | `(tactic| k_all) => `(tactic| (refine' List.forall_mem_append.mpr ⟨?a, ?b⟩; (case a => first | exact all_gt (by assumption) (by first | decide | omega) | exact all_ne (by assumption) (by omega)); (case b => k_all)))
local macro_rules | `(tactic| k_updF) => `(tactic| (refine' updF_app ?a ?b; (case a => first | exact all_gt (by assumption) (by first | decide | omega) | exact all_ne (by assumption) (by omega)); (case b => k_updF)))
local macro_rules | `(tactic| k_mem) => `(tactic| first | (refine' List.mem_append_right _ ?b; (case b => k_mem)) | exact List.mem_append_left _ (by assumption))
local macro_rules | `(tactic| walk_at "eval GeneratorExp") => `(tactic| (k_here; k_dflt (refine' gen_start ?hh rfl ?cl ?cell ?h0 ?hx rfl ?room ?_ ?hs; (case hh => rfl); (case cl => exact rfl); (case cell => decide); (case h0 => rfl); (case hx => rfl); (case room => ktr_room); (case hs => exact fun _ => rfl); k_whole)))
local macro_rules | `(tactic| walk_at "GenK") => `(tactic| (k_here; k_dflt (refine' genK_U ?hh ?F ?N ?T ?C ?U ?ht ?hb ?hr ?sm ?hn ?hcl ?mem ?hoc rfl rfl rfl ?xd ?yd ?yc ?_; (case hh => rfl); (case F => k_asm); (case N => k_asm); (case T => k_asm); (case C => exact CodeHd.keeps (by assumption) (Below.stays (by assumption))); (case U => k_updF); (case ht => assumption); (case hb => assumption); (case hr => assumption); (case sm => decide); (case hn => first | exact (show Builtin.Range.rangeSize _ _ _ = ((20 : Nat) : Int) by decide) | exact (show Builtin.Range.rangeSize _ _ _ = ((13 : Nat) : Int) by decide) | exact (show Builtin.Range.rangeSize _ _ _ = ((52 : Nat) : Int) by decide) | exact (show Builtin.Range.rangeSize _ _ _ = ((73 : Nat) : Int) by decide)); (case hcl => rfl); (case mem => k_mem); (case hoc => assumption); (case xd => decide); (case yd => decide); (case yc => decide); k_whole); intro gen' s' ps' ht' F' N' G' ho' hb'; (try dsimp only at N' G')))
local macro_rules | `(tactic| walk_at "call type:set") => `(tactic| (k_here; k_dflt (refine' setGen_U ?hh ?F ?N ?G ?hb ?hn ?_; (case hh => rfl); (case F => k_asm); (case N => k_asm); (case G => assumption); (case hb => assumption); (case hn => decide); k_whole); intro D' so' s' F' N' l1 hS' ho' hb'; (try k_lt l1)))
local macro_rules | `(tactic| walk_at "getMethod ref") => `(tactic| (k_here; k_dflt (first
  | (refine' methodV_N ?N ?m ?v ?b PySem.F.slot_set_intersection PySem.F.type_set_intersection ?_; (case N => k_asm); (case m => k_mem); (case v => assumption); (case b => decide))
  | (refine' methodK_N ?N ?m ?v PySem.F.slot_set_pop PySem.F.type_set_pop ?_; (case N => k_asm); (case m => k_mem); (case v => assumption)))))
local macro_rules | `(tactic| walk_at "call builtin:set.intersection") => `(tactic| (k_here; k_dflt (refine' inter_N ?F ?N ?ma ?mb ?ab ?sa ?sb ?na ?nb ?_; (case F => k_asm); (case N => k_asm); (case ma => k_mem); (case mb => k_mem); (case ab => k_ne); (case sa => assumption); (case sb => assumption); (case na => decide); (case nb => decide); k_whole); intro D' so' h' σ' F' N' l1 hK' hs'; (have l2 := l1); (try k_lt l1)))
local macro_rules | `(tactic| walk_at "call builtin:set.pop") => `(tactic| (k_here; k_dflt (refine' popOne_N ?F ?N ?l ?K ?ex ?_; (case F => k_asm); (case N => k_asm); (case l => assumption); (case K => assumption); (case ex => exact tz_meets (by assumption) (by assumption) (by assumption) (by assumption)); k_whole); intro h' d' t' k' F' N' hk'))
local macro_rules | `(tactic| walk_at "exec Try") => `(tactic| (k_here; (with_reducible show wpAny _ _ (exec (Stmt.Try _ (_ :: _) _ [] _) _) _ _ _); refine wpAny_Try_except ?_))
local macro_rules | `(tactic| walk_at "noteFrame ref") => `(tactic| (k_here; (rename Heap.NewExc _ _ _ _ => nx9); k_dflt (first
  | ((with_reducible show wpAny _ _ (noteFrame _ _) (fun _ s₂ => wpAny _ _ (setFlight _ none) (fun _ s₃ => wpAny _ _ (handleBy _ _ (ExceptHandler.ExceptHandler (some (Expr.Name _ _)) (some _) _ _ :: _)) _ _ s₃) _ s₂) _ _); refine' own_caughtB (X := "ValueError") (T' := "ValueError") ?K ?F ?N ?x ?XB ?TB ?D ?ex PyProof.Rows.Boot.«ValueError» ?n PySem.F.isExc_ValueError PySem.F.notTuple_ValueError ?s ?_ ?a ?b ?c ?d; (case K => assumption); (case F => assumption); (case N => assumption); (case x => assumption); (case XB => assumption); (case TB => assumption); (case D => assumption); (case ex => k_is); (case n => decide); (case s => (rw [isSubtype_type]; kernel_rfl)); (case a => rfl); (case b => rfl); (case c => rfl); (case d => decide); k_whole; intro h' g' T' eo' to' ws' tk' KT' F' N' B' X' P' D' ec' ed' e2' es')
  | (refine' own_caught0 (X := "KeyError") (T' := "KeyError") ?K ?F ?N ?x ?XB ?TB ?D ?ex PyProof.Rows.Boot.«KeyError» ?n kr_isExc_KeyError kr_notTuple_KeyError ?s ?_ ?a ?b ?c; (case K => assumption); (case F => assumption); (case N => assumption); (case x => assumption); (case XB => assumption); (case TB => assumption); (case D => assumption); (case ex => k_is); (case n => decide); (case s => (rw [isSubtype_type]; kernel_rfl)); (case a => rfl); (case b => rfl); (case c => decide); k_whole; intro h' g' T' eo' to' ws' KT' F' N' B' X' P' D' ec' ed' e2' es'))))
local macro_rules | `(tactic| walk_at "exec Raise some some") => `(tactic| (k_here; k_dflt (refine' raise_fromX (X := "ValueError") PySem.F.excCall_ValueError PySem.F.excRaise_ValueError PySem.F.excRaise_ValueError ?F ?X ?T ?ex PyProof.Rows.Boot.«ValueError» ?n ?hh ?hc ?hd ?h2 ?_ ?a ?b ?c ?d ?e; (case F => k_asm); (case X => k_asm); (case T => k_asm); (case ex => k_is); (case n => decide); (case hh => rfl); (case hc => assumption); (case hd => assumption); (case h2 => assumption); (case a => rfl); (case b => rfl); (case c => decide); (case d => rfl); (case e => rfl); k_whole)))
local macro_rules | `(tactic| walk_at "exec Raise some none") => `(tactic| (k_here; k_dflt (refine' raise_outX PySem.F.excCall_IndexError PySem.F.excRaise_IndexError ?F ?X ?T ?ex PyProof.Rows.Boot.«IndexError» ?n ?hh ?_ ?a ?b ?c ?d ?e; (case hh => rfl); (case F => k_asm); (case X => k_asm); (case T => k_asm); (case ex => k_is); (case n => decide); (case a => rfl); (case b => rfl); (case c => decide); (case d => rfl); (case e => rfl); k_whole)))
local macro_rules | `(tactic| walk_at "OutK") => `(tactic| (k_here; k_dflt (refine' outK ?l ?_; (case l => exact (show 1 ≤ sizeLine by decide)); k_whole); intro h' e' x'))
local macro_rules | `(tactic| walk_at "exec Raise some none") => `(tactic| (k_here; k_dflt (refine' raise_inX PySem.F.excCall_IndexError PySem.F.excRaise_IndexError ?F ?X ?T ?ex PyProof.Rows.Boot.«IndexError» ?n ?hh ?hd ?h2 ?_ ?a ?b ?c ?d ?e; (case hd => assumption); (case h2 => assumption); (case hh => rfl); (case F => k_asm); (case X => k_asm); (case T => k_asm); (case ex => k_is); (case n => decide); (case a => rfl); (case b => rfl); (case c => decide); (case d => rfl); (case e => rfl); k_whole)))
local macro_rules | `(tactic| walk_at "FromK") => `(tactic| (k_here; k_dflt (refine' fromK_end ?l ?K ?F ?N ?m ?n ?a ?b ?c ?d ?_; (case l => exact (show 1 ≤ sizeLine by decide)); (case K => assumption); (case F => k_asm); (case N => k_asm); (case m => k_mem); (case n => rfl); (case a => rfl); (case b => rfl); (case c => decide); (case d => rfl); k_whole); intro e' h' tk' R' U'))
local macro_rules | `(tactic| walk_at "InK") => `(tactic| (k_here; k_dflt (refine' inK_end ?l ?K ?F ?N ?m ?a ?d ?_; (case l => exact (show 1 ≤ sizeLine by decide)); (case K => assumption); (case F => k_asm); (case N => k_asm); (case m => k_mem); (case a => rfl); (case d => rfl); k_whole); intro e' h' R' U'))
local macro_rules | `(tactic| kfm_turns) => `(tactic| (refine KPc.turn ?_; kpc_if; kpc_check; refine wpAny_bind (field_zero (by rfl) (by rfl) ?_); refine wpAny_bind (wpAny_holding (wpAny_of_eq (a := _) rfl ?_)); kpc_if; refine wpAny_bind (wpAny_pure ?_); kfm_val; refine wpAny_bind (wpAny_of_eq (a := some _) rfl ?_); refine wpAny_pure ?_; refine KFm.after_field (by kpc_g) (by kpc_text) (by kpc_obj) (by kfm_len) (by kpc_obj) (by kfm_cat2) (by kfm_rest) ?_; intro _ _; kfm_turns))
local macro_rules | `(tactic| walk_at "leaving ref") => `(tactic| (k_here; k_dflt (refine' leaveX_ends ?K rfl ?x ?_; (case x => assumption); (case K => assumption); k_whole); intro h' R' U'))
local macro_rules | `(tactic| walk_at "leaving ref") => `(tactic| (k_here; k_dflt (refine' leaveX_made ?K ?F ?N rfl rfl ?x ?_; (case x => assumption); (case F => assumption); (case N => assumption); (case K => assumption); k_whole); intro h' R' U'))
local macro_rules | `(tactic| walk_at "getMethod ref") => `(tactic| (k_here; (with_reducible show wpAny _ _ (getMethod (Value.ref _) (PySem.Str.ofString "index") _) _ _ _); k_dflt (refine' topMethod_list ?F ?X ?l PySem.F.slot_list_index PySem.F.type_list_index ?_; (case F => k_asm); (case X => k_asm); (case l => k_is))))
local macro_rules | `(tactic| walk_at "call builtin:list.index") => `(tactic| (k_here; (with_reducible show wpAny _ _ (call (Value.builtin _) [Value.ref _, Value.str _ _]) _ _ _); k_dflt (first
  | (refine' topIndex_hit ?F ?X ?l ?t ?j ?s ?_; (case F => k_asm); (case X => k_asm); (case l => k_is); (case t => rfl); (case j => assumption); (case s => decide))
  | (refine' topIndex_none ?F ?X ?l ?t ?j ?s ?x ?A ?_; (case F => k_asm); (case X => k_asm); (case l => k_is); (case t => rfl); (case j => assumption); (case s => decide); (case x => assumption); (case A => rfl); intro h' tk' e' x'))))
local macro_rules | `(tactic| walk_at "call ref") => `(tactic| (k_here; (with_reducible show wpAny _ _ (call (Value.ref 109) _) _ _ _); k_dflt (refine' tb_use ?B ?F ?X ?N ?T ?hk ?XB ?TB ?c1 ?c2 ?hT ?e1 ?e2 ?h1 ?h2 ?hb ?hp ?hd ?hu ?na1 ?na2 ?m1 ?m2 ?m18 ?lo ?hi ?_; (case B => k_asm); (case F => k_asm); (case X => k_asm); (case N => k_asm); (case T => k_asm); (case hk => exact rfl); (case XB => assumption); (case TB => assumption); (case c1 => assumption); (case c2 => assumption); (case hT => repeat (first | exact Tail.here | apply Tail.cons)); (case e1 => k_mem); (case e2 => k_mem); (case h1 => assumption); (case h2 => assumption); (case hb => assumption); (case hp => assumption); (case hd => ktr_room); (case hu => ktr_units); (case na1 => omega); (case na2 => omega); (case m1 => omega); (case m2 => omega); (case m18 => assumption); (case lo => omega); (case hi => omega); k_whole); intro v' s' ps' qs' hv' F' N' ht1' ht2' hb' ho'; (try simp only [List.cons_append, List.nil_append] at N')))
theorem lawD (w : World) (mean : ExcName → Option Value) (mg mb : Str → Option Value) (base : Heap) (L fa : Addr) (cd : Value) (s : Shared) (Q : Flow → Shared → Prop)
    (m : Str → Option Value) (n number name hday month wn wna wd wm k : Int) (t0 t1 t2 t3 t4 t5 t6 t7 t8 t9 t10 : Tok) (T U De Dt Dh : Addr) (xE xT xN xD xM : Bool) (u0 u1 u2 u3 u4 u5 u6 u7 u8 u9 : Tok) (k0 k1 k2 k3 k4 : Nat) (ps qs : Array Value)
    (hna : 0 ≤ wna) (hna2 : wna ≤ 20) (hm1 : 0 ≤ wm) (hm2 : wm ≤ 19) (h18 : wm = 18 → wd < 5 ∨ 20 ≤ wd) (hlo : -2000 ≤ n) (hhi : n < 2000000000) :
    Below callerA base [] base → (Mine.hd.heap_39 w.params).In base → Top topProg LL mean mg mb base → CodeHd base 57 53 → CodeHd base 78 74 → TriplesOk ps.toList → TriplesOk qs.toList → AllBare s.gens →
    (∀ q ∈ LC wn wna wd wm xE xT xN xD xM u0 u1 u2 u3 u4 u5 u6 u7 u8 u9 k0 k1 k2 k3 k4 T U De Dt Dh [], 74 < q.1) →
    Fr base L s.heap (kstB m (VC n number name hday month wn wna wd wm k t0 t1 t2 t3 t4 t5 t6 t7 t8 t9 t10 T U De Dt Dh)) →
    News base L s.heap (LC wn wna wd wm xE xT xN xD xM u0 u1 u2 u3 u4 u5 u6 u7 u8 u9 k0 k1 k2 k3 k4 T U De Dt Dh (tl ps qs)) →
    (∀ (m : Str → Option Value) v s' ps' qs', TB n wn wna wd wm v → TriplesOk ps'.toList → TriplesOk qs'.toList → AllBare s'.gens → s'.os = s.os →
      Fr base L s'.heap (kstB m (("told", v) :: VC n number name hday month wn wna wd wm k t0 t1 t2 t3 t4 t5 t6 t7 t8 t9 t10 T U De Dt Dh)) →
      News base L s'.heap (LC wn wna wd wm xE xT xN xD xM u0 u1 u2 u3 u4 u5 u6 u7 u8 u9 k0 k1 k2 k3 k4 T U De Dt Dh (tl ps' qs')) → Q .next s') →
    wpAny (model PySem.Challenge.rw_bn0005_01.row.prog w) (callerA.deeper (lawEnv w L fa cd)) (execs (seg w 15 1) (lawEnv w L fa cd)) Q (fun _ _ => False) s := by
  k_fill
  intro B X T9 C57 C78 ht1 ht2 hb hgt F N hret
  delta lawEnv
  conv in (seg w 15 1) => whnf
  dsimp only [List.take]
  conv in (occs := *) (lawScope w) => all_goals whnf
  dsimp only [VC, LC] at F N hgt
  k_steps
  all_goals (refine hret _ _ _ _ _ (by assumption) ?_ ?_ (by assumption) ?_ (fr_kst (by assumption) (by kst_all)) (by assumption))
  all_goals first | assumption | (repeat (first | rfl | refine Eq.trans (by assumption) ?_))
end Mine
end
section
namespace Mine
open PySem PySem.W PyProof.Rows in
theorem fresh_LAWE {M : Model} {A : Around} {E : Value → Shared → Prop} {env : Env} {Q : Flow → Shared → Prop} {s : Shared} (h : Q .next s) : wpAny M A (execs [] env) Q E s := by
  w_top off
  walk1
  exact h
end Mine
open PySem PySem.W PyProof.Rows
set_option maxRecDepth 100000
set_option maxHeartbeats 3200000
namespace Mine
local macro_rules | `(tactic| k_room) => `(tactic| ktr_room)
local macro_rules | `(tactic| k_units) => `(tactic| ktr_units)
local macro_rules | `(tactic| k_all) => `(tactic| (refine' List.forall_mem_append.mpr ⟨?a, ?b⟩; (case a => first | exact all_gt (by assumption) (by first | decide | omega) | exact all_ne (by assumption) (by omega)); (case b => k_all)))
local macro_rules | `(tactic| k_updF) => `(tactic| (refine' updF_app ?a ?b; (case a => first | exact all_gt (by assumption) (by first | decide | omega) | exact all_ne (by assumption) (by omega)); (case b => k_updF)))
local macro_rules | `(tactic| k_mem) => `(tactic| first | (refine' List.mem_append_right _ ?b; (case b => k_mem)) | exact List.mem_append_left _ (by assumption))
local macro_rules | `(tactic| walk_at "eval GeneratorExp") => `(tactic| (k_here; k_dflt (refine' gen_start ?hh rfl ?cl ?cell ?h0 ?hx rfl ?room ?_ ?hs; (case hh => rfl); (case cl => exact rfl); (case cell => decide); (case h0 => rfl); (case hx => rfl); (case room => ktr_room); (case hs => exact fun _ => rfl); k_whole)))
local macro_rules | `(tactic| walk_at "GenK") => `(tactic| (k_here; k_dflt (refine' genK_U ?hh ?F ?N ?T ?C ?U ?ht ?hb ?hr ?sm ?hn ?hcl ?mem ?hoc rfl rfl rfl ?xd ?yd ?yc ?_; (case hh => rfl); (case F => k_asm); (case N => k_asm); (case T => k_asm); (case C => exact CodeHd.keeps (by assumption) (Below.stays (by assumption))); (case U => k_updF); (case ht => assumption); (case hb => assumption); (case hr => assumption); (case sm => decide); (case hn => first | exact (show Builtin.Range.rangeSize _ _ _ = ((20 : Nat) : Int) by decide) | exact (show Builtin.Range.rangeSize _ _ _ = ((13 : Nat) : Int) by decide) | exact (show Builtin.Range.rangeSize _ _ _ = ((52 : Nat) : Int) by decide) | exact (show Builtin.Range.rangeSize _ _ _ = ((73 : Nat) : Int) by decide)); (case hcl => rfl); (case mem => k_mem); (case hoc => assumption); (case xd => decide); (case yd => decide); (case yc => decide); k_whole); intro gen' s' ps' ht' F' N' G' ho' hb'; (try dsimp only at N' G')))
local macro_rules | `(tactic| walk_at "call type:set") => `(tactic| (k_here; k_dflt (refine' setGen_U ?hh ?F ?N ?G ?hb ?hn ?_; (case hh => rfl); (case F => k_asm); (case N => k_asm); (case G => assumption); (case hb => assumption); (case hn => decide); k_whole); intro D' so' s' F' N' l1 hS' ho' hb'; (try k_lt l1)))
local macro_rules | `(tactic| walk_at "getMethod ref") => `(tactic| (k_here; k_dflt (first
  | (refine' methodV_N ?N ?m ?v ?b PySem.F.slot_set_intersection PySem.F.type_set_intersection ?_; (case N => k_asm); (case m => k_mem); (case v => assumption); (case b => decide))
  | (refine' methodK_N ?N ?m ?v PySem.F.slot_set_pop PySem.F.type_set_pop ?_; (case N => k_asm); (case m => k_mem); (case v => assumption)))))
local macro_rules | `(tactic| walk_at "call builtin:set.intersection") => `(tactic| (k_here; k_dflt (refine' inter_N ?F ?N ?ma ?mb ?ab ?sa ?sb ?na ?nb ?_; (case F => k_asm); (case N => k_asm); (case ma => k_mem); (case mb => k_mem); (case ab => k_ne); (case sa => assumption); (case sb => assumption); (case na => decide); (case nb => decide); k_whole); intro D' so' h' σ' F' N' l1 hK' hs'; (have l2 := l1); (try k_lt l1)))
local macro_rules | `(tactic| walk_at "call builtin:set.pop") => `(tactic| (k_here; k_dflt (refine' popOne_N ?F ?N ?l ?K ?ex ?_; (case F => k_asm); (case N => k_asm); (case l => assumption); (case K => assumption); (case ex => exact tz_meets (by assumption) (by assumption) (by assumption) (by assumption)); k_whole); intro h' d' t' k' F' N' hk'))
local macro_rules | `(tactic| walk_at "exec Try") => `(tactic| (k_here; (with_reducible show wpAny _ _ (exec (Stmt.Try _ (_ :: _) _ [] _) _) _ _ _); refine wpAny_Try_except ?_))
local macro_rules | `(tactic| walk_at "noteFrame ref") => `(tactic| (k_here; (rename Heap.NewExc _ _ _ _ => nx9); k_dflt (first
  | ((with_reducible show wpAny _ _ (noteFrame _ _) (fun _ s₂ => wpAny _ _ (setFlight _ none) (fun _ s₃ => wpAny _ _ (handleBy _ _ (ExceptHandler.ExceptHandler (some (Expr.Name _ _)) (some _) _ _ :: _)) _ _ s₃) _ s₂) _ _); refine' own_caughtB (X := "ValueError") (T' := "ValueError") ?K ?F ?N ?x ?XB ?TB ?D ?ex PyProof.Rows.Boot.«ValueError» ?n PySem.F.isExc_ValueError PySem.F.notTuple_ValueError ?s ?_ ?a ?b ?c ?d; (case K => assumption); (case F => assumption); (case N => assumption); (case x => assumption); (case XB => assumption); (case TB => assumption); (case D => assumption); (case ex => k_is); (case n => decide); (case s => (rw [isSubtype_type]; kernel_rfl)); (case a => rfl); (case b => rfl); (case c => rfl); (case d => decide); k_whole; intro h' g' T' eo' to' ws' tk' KT' F' N' B' X' P' D' ec' ed' e2' es')
  | (refine' own_caught0 (X := "KeyError") (T' := "KeyError") ?K ?F ?N ?x ?XB ?TB ?D ?ex PyProof.Rows.Boot.«KeyError» ?n kr_isExc_KeyError kr_notTuple_KeyError ?s ?_ ?a ?b ?c; (case K => assumption); (case F => assumption); (case N => assumption); (case x => assumption); (case XB => assumption); (case TB => assumption); (case D => assumption); (case ex => k_is); (case n => decide); (case s => (rw [isSubtype_type]; kernel_rfl)); (case a => rfl); (case b => rfl); (case c => decide); k_whole; intro h' g' T' eo' to' ws' KT' F' N' B' X' P' D' ec' ed' e2' es'))))
local macro_rules | `(tactic| walk_at "exec Raise some some") => `(tactic| (k_here; k_dflt (refine' raise_fromX (X := "ValueError") PySem.F.excCall_ValueError PySem.F.excRaise_ValueError PySem.F.excRaise_ValueError ?F ?X ?T ?ex PyProof.Rows.Boot.«ValueError» ?n ?hh ?hc ?hd ?h2 ?_ ?a ?b ?c ?d ?e; (case F => k_asm); (case X => k_asm); (case T => k_asm); (case ex => k_is); (case n => decide); (case hh => rfl); (case hc => assumption); (case hd => assumption); (case h2 => assumption); (case a => rfl); (case b => rfl); (case c => decide); (case d => rfl); (case e => rfl); k_whole)))
local macro_rules | `(tactic| walk_at "exec Raise some none") => `(tactic| (k_here; k_dflt (refine' raise_outX PySem.F.excCall_IndexError PySem.F.excRaise_IndexError ?F ?X ?T ?ex PyProof.Rows.Boot.«IndexError» ?n ?hh ?_ ?a ?b ?c ?d ?e; (case hh => rfl); (case F => k_asm); (case X => k_asm); (case T => k_asm); (case ex => k_is); (case n => decide); (case a => rfl); (case b => rfl); (case c => decide); (case d => rfl); (case e => rfl); k_whole)))
local macro_rules | `(tactic| walk_at "OutK") => `(tactic| (k_here; k_dflt (refine' outK ?l ?_; (case l => exact (show 1 ≤ sizeLine by decide)); k_whole); intro h' e' x'))
local macro_rules | `(tactic| walk_at "exec Raise some none") => `(tactic| (k_here; k_dflt (refine' raise_inX PySem.F.excCall_IndexError PySem.F.excRaise_IndexError ?F ?X ?T ?ex PyProof.Rows.Boot.«IndexError» ?n ?hh ?hd ?h2 ?_ ?a ?b ?c ?d ?e; (case hd => assumption); (case h2 => assumption); (case hh => rfl); (case F => k_asm); (case X => k_asm); (case T => k_asm); (case ex => k_is); (case n => decide); (case a => rfl); (case b => rfl); (case c => decide); (case d => rfl); (case e => rfl); k_whole)))
local macro_rules | `(tactic| walk_at "FromK") => `(tactic| (k_here; k_dflt (refine' fromK_end ?l ?K ?F ?N ?m ?n ?a ?b ?c ?d ?_; (case l => exact (show 1 ≤ sizeLine by decide)); (case K => assumption); (case F => k_asm); (case N => k_asm); (case m => k_mem); (case n => rfl); (case a => rfl); (case b => rfl); (case c => decide); (case d => rfl); k_whole); intro e' h' tk' R' U'))
local macro_rules | `(tactic| walk_at "InK") => `(tactic| (k_here; k_dflt (refine' inK_end ?l ?K ?F ?N ?m ?a ?d ?_; (case l => exact (show 1 ≤ sizeLine by decide)); (case K => assumption); (case F => k_asm); (case N => k_asm); (case m => k_mem); (case a => rfl); (case d => rfl); k_whole); intro e' h' R' U'))
local macro_rules | `(tactic| kfm_turns) => `(tactic| (refine KPc.turn ?_; kpc_if; kpc_check; refine wpAny_bind (field_zero (by rfl) (by rfl) ?_); refine wpAny_bind (wpAny_holding (wpAny_of_eq (a := _) rfl ?_)); kpc_if; refine wpAny_bind (wpAny_pure ?_); kfm_val; refine wpAny_bind (wpAny_of_eq (a := some _) rfl ?_); refine wpAny_pure ?_; refine KFm.after_field (by kpc_g) (by kpc_text) (by kpc_obj) (by kfm_len) (by kpc_obj) (by kfm_cat2) (by kfm_rest) ?_; intro _ _; kfm_turns))
local macro_rules | `(tactic| walk_at "leaving ref") => `(tactic| (k_here; k_dflt (refine' leaveX_ends ?K rfl ?x ?_; (case x => assumption); (case K => assumption); k_whole); intro h' R' U'))
local macro_rules | `(tactic| walk_at "leaving ref") => `(tactic| (k_here; k_dflt (refine' leaveX_made ?K ?F ?N rfl rfl ?x ?_; (case x => assumption); (case F => assumption); (case N => assumption); (case K => assumption); k_whole); intro h' R' U'))
local macro_rules | `(tactic| walk_at "getMethod ref") => `(tactic| (k_here; (with_reducible show wpAny _ _ (getMethod (Value.ref _) (PySem.Str.ofString "index") _) _ _ _); k_dflt (refine' topMethod_list ?F ?X ?l PySem.F.slot_list_index PySem.F.type_list_index ?_; (case F => k_asm); (case X => k_asm); (case l => k_is))))
local macro_rules | `(tactic| walk_at "call builtin:list.index") => `(tactic| (k_here; (with_reducible show wpAny _ _ (call (Value.builtin _) [Value.ref _, Value.str _ _]) _ _ _); k_dflt (first
  | (refine' topIndex_hit ?F ?X ?l ?t ?j ?s ?_; (case F => k_asm); (case X => k_asm); (case l => k_is); (case t => rfl); (case j => assumption); (case s => decide))
  | (refine' topIndex_none ?F ?X ?l ?t ?j ?s ?x ?A ?_; (case F => k_asm); (case X => k_asm); (case l => k_is); (case t => rfl); (case j => assumption); (case s => decide); (case x => assumption); (case A => rfl); intro h' tk' e' x'))))
local macro_rules | `(tactic| walk_at "binaryOp Add ref ref") => `(tactic| (k_here; k_dflt (refine' add_fl ?F ?N ?a ?b ?x ?y ?_; (case F => k_asm); (case N => k_asm); (case a => k_mem); (case b => k_mem); (case x => assumption); (case y => assumption); k_whole); intro D' h' F' N' l1 hS'; (try k_lt l1)))
local macro_rules | `(tactic| walk_at "compareOp NotEq ref ref") => `(tactic| (k_here; k_dflt (first
  | (refine' ne_fl1 ?o ?N ?a ?b ?x ?y ?u ?e ?_; (case N => k_asm); (case a => k_mem); (case b => k_mem); (case x => assumption); (case y => exact StrsAre.nil); (case e => assumption); (case o => first | exact fN_ok _ _ | exact fN_ok2 _ _ _ _); (case u => ke_room); k_whole)
  | (refine' ne_fl0 ?o ?N ?a ?b ?x ?y ?u ?e ?_; (case N => k_asm); (case a => k_mem); (case b => k_mem); (case x => assumption); (case y => exact StrsAre.nil); (case e => assumption); (case o => first | exact fN_ok _ _ | exact fN_ok2 _ _ _ _); (case u => ke_room); k_whole))))
local macro_rules | `(tactic| walk_at "compareOp NotIn str ref") => `(tactic| (k_here; k_dflt (refine' notin_fl ?N ?a ?x ?e ?_; (case N => k_asm); (case a => k_mem); (case x => assumption); (case e => first | assumption | (rw [fN_index]; rfl) | (rw [fN_value]; rfl)); k_whole)))
local macro_rules | `(tactic| walk_at "compareOp In str ref") => `(tactic| (k_here; k_dflt (refine' in_fl ?N ?a ?x ?e ?_; (case N => k_asm); (case a => k_mem); (case x => assumption); (case e => first | assumption | (rw [fN_index]; rfl) | (rw [fN_value]; rfl)); k_whole)))
local macro_rules | `(tactic| walk_at "call ref") => `(tactic| (k_here; (with_reducible show wpAny _ _ (call (Value.ref 102) _) _ _ _); k_dflt (refine' says_use (lth_says _ _ _ _ _ _ _ _ _ _ _ _ ?p1 ?p2 ?p3 ?p4 ?p5 ?p6 ?p7 ?p8 ?p9 ?p10) ?B ?F ?X ?N ?T ?hk ?hd ?hu ?_; (case B => k_asm); (case F => k_asm); (case X => k_asm); (case N => k_asm); (case T => k_asm); (case hk => exact rfl); (case hd => ktr_room); (case hu => ktr_units); (case p1 => omega); (case p2 => omega); (case p3 => omega); (case p4 => omega); (case p5 => omega); (case p6 => omega); (case p7 => omega); (case p8 => omega); (case p9 => omega); (case p10 => omega); k_whole); intro u' h' tk' F' N'))
structure LoopHere (P : Prop) : Prop where
  of : P
theorem lawE (w : World) (mean : ExcName → Option Value) (mg mb : Str → Option Value) (base : Heap) (L fa : Addr) (cd : Value) (s : Shared) (Q : Flow → Shared → Prop)
    (m : Str → Option Value) (n number name hday month wn wna wd wm k : Int) (t0 t1 t2 t3 t4 t5 t6 t7 t8 t9 t10 : Tok) (T U De Dt Dh : Addr) (xT xN xD xM : Bool) (fE fT fH : List Value) (u0 u1 u2 u3 : Tok) (k0 k1 k2 k3 k4 : Nat) (ps qs : Array Value) (v : Value)
    (hv : TB n wn wna wd wm v) (hfT : StrsAre fT (fN xT xN)) (hfH : StrsAre fH (fN xD xM)) (hxT : xT = true ↔ wn < 1 ∨ 13 < wn) (hxN : xN = true ↔ wna = 20) (hxD : xD = true ↔ wd < 0 ∨ 19 < wd) (hxM : xM = true ↔ wm = 19)
    (hnu : number = (n + 3) % 13 + 1) (hnm : name = (n + 19) % 20) (hh1 : hday = (n + 348) % 365 % 20) (hh2 : month = (n + 348) % 365 / 20) (hna : 0 ≤ wna) (hna2 : wna ≤ 20) (hm1 : 0 ≤ wm) (hm2 : wm ≤ 19) (h18 : wm = 18 → wd < 5 ∨ 20 ≤ wd) (hlo : -2000 ≤ n) (hhi : n < 2000000000) :
    Below callerA base [] base → (Mine.hd.heap_39 w.params).In base → Top topProg LL mean mg mb base → CodeHd base 57 53 → CodeHd base 78 74 → TriplesOk ps.toList → TriplesOk qs.toList → AllBare s.gens →
    (∀ q ∈ LCf wn wna wd wm fE fT fH u0 u1 u2 u3 k0 k1 k2 k3 k4 T U De Dt Dh [], 74 < q.1) →
    Fr base L s.heap (kstB m (("told", v) :: VC n number name hday month wn wna wd wm k t0 t1 t2 t3 t4 t5 t6 t7 t8 t9 t10 T U De Dt Dh)) →
    News base L s.heap (LCf wn wna wd wm fE fT fH u0 u1 u2 u3 k0 k1 k2 k3 k4 T U De Dt Dh (tl ps qs)) →
    (∀ (m : Str → Option Value) s' ps' qs', TriplesOk ps'.toList → TriplesOk qs'.toList → AllBare s'.gens → s'.os = s.os →
      Fr base L s'.heap (kstB m (VC n number name hday month wn wna wd wm k t0 t1 t2 t3 t4 t5 t6 t7 t8 t9 t10 T U De Dt Dh)) →
      News base L s'.heap (LCf wn wna wd wm fE fT fH u0 u1 u2 u3 k0 k1 k2 k3 k4 T U De Dt Dh (tl ps' qs')) → Q .next s') →
    wpAny (model PySem.Challenge.rw_bn0005_01.row.prog w) (callerA.deeper (lawEnv w L fa cd)) (execs (seg w 16 1) (lawEnv w L fa cd)) Q (fun _ _ => False) s := by
  k_fill
  intro B X T9 C57 C78 ht1 ht2 hb hgt F N hret
  have hgt2 := List.forall_mem_cons.mp hgt
  have hgt3 := List.forall_mem_cons.mp hgt2.2
  have hgt4 := List.forall_mem_cons.mp hgt3.2
  have hgt5 := List.forall_mem_cons.mp hgt4.2
  have hgt6 := List.forall_mem_cons.mp hgt5.2
  have g1 := ltN hgt2.1
  have g2 := ltN hgt3.1
  have g3 := ltN hgt4.1
  have g4 := ltN hgt5.1
  have g5 := ltN hgt6.1
  clear hgt hgt2 hgt3 hgt4 hgt5 hgt6
  dsimp only at g1 g2 g3 g4 g5
  delta lawEnv
  conv in (seg w 16 1) => whnf
  dsimp only [List.take]
  conv in (occs := *) (lawScope w) => all_goals whnf
  dsimp only [VC, LCf] at F N
  obtain ⟨q9, u9, e9⟩ | ⟨q9, u9, e9⟩ | ⟨⟨q3, q4, q5, q6, q7, q8⟩, q9⟩ := hv
  · have z1 : fN xT xN ++ fN xD xM ≠ [] := fun e => by
      have := fN_nil.mp e
      by_cases c : wn < 1 ∨ 13 < wn
      · exact absurd (hxT.mpr c) (by rw [this.1]; decide)
      · exact absurd (hxD.mpr (by omega)) (by rw [this.2.2.1]; decide)
    have z2 : (fN xT xN ++ fN xD xM).any (· == ("index" : Str)) = true := by
      rw [fN_index]
      by_cases c : wn < 1 ∨ 13 < wn
      · rw [hxT.mpr c]; rfl
      · rw [hxD.mpr (by omega), Bool.or_true]
    subst e9
    k_steps
    all_goals (rename News base L _ _ => kN)
    all_goals (refine hret _ _ _ _ ht1 ht2 hb rfl (fr_kst (by assumption) (by kst_all)) ?_)
    all_goals (intro q hq; refine kN q ?_; repeat (first | exact hq | apply List.Mem.tail))
  · have z1 : fN xT xN ++ fN xD xM ≠ [] := fun e => by
      have := fN_nil.mp e
      rcases q9 with q9 | q9
      · exact absurd (hxN.mpr q9) (by rw [this.2.1]; decide)
      · exact absurd (hxM.mpr q9) (by rw [this.2.2.2]; decide)
    have z2 : (fN xT xN ++ fN xD xM).any (· == ("value" : Str)) = true := by
      rw [fN_value]
      rcases q9 with q9 | q9
      · rw [hxN.mpr q9]; rfl
      · rw [hxM.mpr q9, Bool.or_true]
    subst e9
    k_steps
    all_goals (rename News base L _ _ => kN)
    all_goals (refine hret _ _ _ _ ht1 ht2 hb rfl (fr_kst (by assumption) (by kst_all)) ?_)
    all_goals (intro q hq; refine kN q ?_; repeat (first | exact hq | apply List.Mem.tail))
  · dsimp only [kstB] at F
    have z1 : fN xT xN ++ fN xD xM = [] := fN_nil.mpr ⟨Bool.eq_false_iff.mpr fun e => by have := hxT.mp e; omega, Bool.eq_false_iff.mpr fun e => by have := hxN.mp e; omega, Bool.eq_false_iff.mpr fun e => by have := hxD.mp e; omega, Bool.eq_false_iff.mpr fun e => by have := hxM.mp e; omega⟩
    k_with "pyIter ref" => ((with_reducible show wpAny _ _ (pyIter (Value.ref _)) (fun it s₂ => LoopAtV _ _ _ _ _ _ _ _ _ it s₂) _ _); (refine LoopHere.of ?_))
    k_steps
    k_with_none
    all_goals (refine LoopHere.mk ?_)
    (rename Fr _ _ _ _ => lF'); (rename News _ _ _ _ => lN'); (rename IsRange _ _ _ _ _ _ _ _ => rgX)
    (refine' kst_range (σ := Value × Int × Tok × Int × Tok) (fun _ => LCf wn wna wd wm fE fT fH u0 u1 u2 u3 k0 k1 k2 k3 k4 T U De Dt Dh (tl ps qs)) (fun c => [("due", c.1), ("number_then", .int c.2.1 c.2.2.1), ("name_then", .int c.2.2.2.1 c.2.2.2.2)]) (fun _ => True) [] (fun pre c => DueI n wn wna ((20 * wm + wd - (20 * month + hday)) % 365) pre.length c.1 c.2.1 c.2.2.2.1) (?c1, ?c2, ?c3, ?c4, ?c5) rfl rgX (by decide) (n := 52) rfl lF' ?kn trivial ?kk ?kp ?_ ?_)
    (case kn => exact kst_newsOf lN' (fun q hq => by repeat (first | exact hq | apply List.Mem.tail)))
    (case kk => kst_all)
    (case kp => exact due_start hnu hnm rfl rfl)
    (all_goals clear lF' lN' rgX)
    case' refine'_1 => (intro c9 pre9 y9 ty9 v9 h9 tk9 own9 hy9 hl9 hoff9 _ hP9 F9 N9; obtain ⟨v9, a9, ta9, b9, tb9⟩ := c9; obtain ⟨p1, p2, p3⟩ := hP9; (dsimp only at p1 p2 p3); (dsimp only [kstB] at F9); (dsimp only [LCf, tl] at N9 hoff9); (simp only [List.nil_append, List.cons_append] at N9); (simp only [List.map_cons, List.map_nil] at hoff9); obtain ⟨u8, e8, p3⟩ | ⟨j8, u8, hj8, e7, e6, e8⟩ := p3 <;> subst e8)
    case' refine'_2 => (intro c9 v9 h9 tk9 _ hP9 F9 N9; obtain ⟨v9, a9, ta9, b9, tb9⟩ := c9; obtain ⟨p1, p2, p3⟩ := hP9; (dsimp only at p1 p2 p3); (dsimp only [kstB] at F9); (dsimp only [LCf, tl] at N9); (rw [rangeKs_length] at p3))
    · obtain ⟨u8, e8, p3⟩ | ⟨j8, u8, hj8, e7, e6, e8⟩ := p3 <;> subst e8 <;> obtain ⟨x7, u7, hx, e5⟩ | ⟨hno, u7, e5⟩ := q9 <;> subst e5
      · obtain ⟨j8, hj8, _, e7, e6⟩ := fit_due hh1 hh2 hna hm1 q5 (by omega) hx
        exact absurd ⟨e7, e6⟩ (p3 j8 hj8)
      · k_steps
        all_goals exact hret _ _ _ _ ht1 ht2 hb rfl (fr_kst (by assumption) (by kst_all)) N9
      · have e4 := fit_one hx (due_fit hh1 hh2 hna hm1 q5 (by omega) hj8 e7 e6)
        k_steps
        all_goals first
          | (exfalso; omega)
          | exact hret _ _ _ _ ht1 ht2 hb rfl (fr_kst (by assumption) (by kst_all)) N9
      · exact absurd (due_fit hh1 hh2 hna hm1 q5 (by omega) hj8 e7 e6) (hno _)
    · k_with "state" => first
        | exact due_hit p1 p2 (by omega) (by omega) rfl rfl (by rw [List.length_append]; rfl) (by omega)
        | exact due_miss p1 p2 p3 (by omega) rfl rfl (by rw [List.length_append]; rfl)
      k_steps
      k_with_none
    · k_with "state" => exact due_keep p1 p2 hj8 e7 e6 rfl rfl (by rw [List.length_append]; rfl)
      k_steps
      k_with_none
end Mine
end
section
namespace Mine
open PySem PySem.W PyProof.Rows in
theorem fresh_LAWF {M : Model} {A : Around} {E : Value → Shared → Prop} {env : Env} {Q : Flow → Shared → Prop} {s : Shared} (h : Q .next s) : wpAny M A (execs [] env) Q E s := by
  w_top off
  walk1
  exact h
end Mine
open PySem PySem.W PyProof.Rows
set_option maxRecDepth 100000
set_option maxHeartbeats 3200000
namespace Mine
theorem tb_later {n k a b c d : Int} {v : Value} (h : TB n a b c d v) (ha : a = (3 + (n + k - 1872000)) % 13 + 1) (hb : b = (19 + (n + k - 1872000)) % 20) (hc : c = (263 + (n + k - 1872000)) % 365 % 20) (hd : d = (263 + (n + k - 1872000)) % 365 / 20) (h0 : 0 ≤ k) (h1 : k < 18980) : ∃ u, v = .int (k + (584283 + n)) u := by
  have F : Fit n a b.toNat (20 * d + c) k := ⟨h0, h1, by omega, by omega, by omega⟩
  rcases h with ⟨q, _⟩ | ⟨q, _⟩ | ⟨_, ⟨x, u, hx, rfl⟩ | ⟨hn, _⟩⟩
  · omega
  · omega
  · exact ⟨u, by rw [fit_one F hx]⟩
  · exact absurd F (hn k)
local macro_rules | `(tactic| k_room) => `(tactic| ktr_room)
local macro_rules | `(tactic| k_units) => `(tactic| ktr_units)
local macro_rules | `(tactic| k_all) => `(tactic| (refine' List.forall_mem_append.mpr ⟨?a, ?b⟩; (case a => first | exact all_gt (by assumption) (by first | decide | omega) | exact all_ne (by assumption) (by omega)); (case b => k_all)))
local macro_rules | `(tactic| k_updF) => `(tactic| (refine' updF_app ?a ?b; (case a => first | exact all_gt (by assumption) (by first | decide | omega) | exact all_ne (by assumption) (by omega)); (case b => k_updF)))
local macro_rules | `(tactic| k_mem) => `(tactic| first | (refine' List.mem_append_right _ ?b; (case b => k_mem)) | exact List.mem_append_left _ (by assumption))
local macro_rules | `(tactic| walk_at "eval GeneratorExp") => `(tactic| (k_here; k_dflt (refine' gen_start ?hh rfl ?cl ?cell ?h0 ?hx rfl ?room ?_ ?hs; (case hh => rfl); (case cl => exact rfl); (case cell => decide); (case h0 => rfl); (case hx => rfl); (case room => ktr_room); (case hs => exact fun _ => rfl); k_whole)))
local macro_rules | `(tactic| walk_at "GenK") => `(tactic| (k_here; k_dflt (refine' genK_U ?hh ?F ?N ?T ?C ?U ?ht ?hb ?hr ?sm ?hn ?hcl ?mem ?hoc rfl rfl rfl ?xd ?yd ?yc ?_; (case hh => rfl); (case F => k_asm); (case N => k_asm); (case T => k_asm); (case C => exact CodeHd.keeps (by assumption) (Below.stays (by assumption))); (case U => k_updF); (case ht => assumption); (case hb => assumption); (case hr => assumption); (case sm => decide); (case hn => first | exact (show Builtin.Range.rangeSize _ _ _ = ((20 : Nat) : Int) by decide) | exact (show Builtin.Range.rangeSize _ _ _ = ((13 : Nat) : Int) by decide) | exact (show Builtin.Range.rangeSize _ _ _ = ((52 : Nat) : Int) by decide) | exact (show Builtin.Range.rangeSize _ _ _ = ((73 : Nat) : Int) by decide)); (case hcl => rfl); (case mem => k_mem); (case hoc => assumption); (case xd => decide); (case yd => decide); (case yc => decide); k_whole); intro gen' s' ps' ht' F' N' G' ho' hb'; (try dsimp only at N' G')))
local macro_rules | `(tactic| walk_at "call type:set") => `(tactic| (k_here; k_dflt (refine' setGen_U ?hh ?F ?N ?G ?hb ?hn ?_; (case hh => rfl); (case F => k_asm); (case N => k_asm); (case G => assumption); (case hb => assumption); (case hn => decide); k_whole); intro D' so' s' F' N' l1 hS' ho' hb'; (try k_lt l1)))
local macro_rules | `(tactic| walk_at "getMethod ref") => `(tactic| (k_here; k_dflt (first
  | (refine' methodV_N ?N ?m ?v ?b PySem.F.slot_set_intersection PySem.F.type_set_intersection ?_; (case N => k_asm); (case m => k_mem); (case v => assumption); (case b => decide))
  | (refine' methodK_N ?N ?m ?v PySem.F.slot_set_pop PySem.F.type_set_pop ?_; (case N => k_asm); (case m => k_mem); (case v => assumption)))))
local macro_rules | `(tactic| walk_at "call builtin:set.intersection") => `(tactic| (k_here; k_dflt (refine' inter_N ?F ?N ?ma ?mb ?ab ?sa ?sb ?na ?nb ?_; (case F => k_asm); (case N => k_asm); (case ma => k_mem); (case mb => k_mem); (case ab => k_ne); (case sa => assumption); (case sb => assumption); (case na => decide); (case nb => decide); k_whole); intro D' so' h' σ' F' N' l1 hK' hs'; (have l2 := l1); (try k_lt l1)))
local macro_rules | `(tactic| walk_at "call builtin:set.pop") => `(tactic| (k_here; k_dflt (refine' popOne_N ?F ?N ?l ?K ?ex ?_; (case F => k_asm); (case N => k_asm); (case l => assumption); (case K => assumption); (case ex => exact tz_meets (by assumption) (by assumption) (by assumption) (by assumption)); k_whole); intro h' d' t' k' F' N' hk'))
local macro_rules | `(tactic| walk_at "exec Try") => `(tactic| (k_here; (with_reducible show wpAny _ _ (exec (Stmt.Try _ (_ :: _) _ [] _) _) _ _ _); refine wpAny_Try_except ?_))
local macro_rules | `(tactic| walk_at "noteFrame ref") => `(tactic| (k_here; (rename Heap.NewExc _ _ _ _ => nx9); k_dflt (first
  | ((with_reducible show wpAny _ _ (noteFrame _ _) (fun _ s₂ => wpAny _ _ (setFlight _ none) (fun _ s₃ => wpAny _ _ (handleBy _ _ (ExceptHandler.ExceptHandler (some (Expr.Name _ _)) (some _) _ _ :: _)) _ _ s₃) _ s₂) _ _); refine' own_caughtB (X := "ValueError") (T' := "ValueError") ?K ?F ?N ?x ?XB ?TB ?D ?ex PyProof.Rows.Boot.«ValueError» ?n PySem.F.isExc_ValueError PySem.F.notTuple_ValueError ?s ?_ ?a ?b ?c ?d; (case K => assumption); (case F => assumption); (case N => assumption); (case x => assumption); (case XB => assumption); (case TB => assumption); (case D => assumption); (case ex => k_is); (case n => decide); (case s => (rw [isSubtype_type]; kernel_rfl)); (case a => rfl); (case b => rfl); (case c => rfl); (case d => decide); k_whole; intro h' g' T' eo' to' ws' tk' KT' F' N' B' X' P' D' ec' ed' e2' es')
  | (refine' own_caught0 (X := "KeyError") (T' := "KeyError") ?K ?F ?N ?x ?XB ?TB ?D ?ex PyProof.Rows.Boot.«KeyError» ?n kr_isExc_KeyError kr_notTuple_KeyError ?s ?_ ?a ?b ?c; (case K => assumption); (case F => assumption); (case N => assumption); (case x => assumption); (case XB => assumption); (case TB => assumption); (case D => assumption); (case ex => k_is); (case n => decide); (case s => (rw [isSubtype_type]; kernel_rfl)); (case a => rfl); (case b => rfl); (case c => decide); k_whole; intro h' g' T' eo' to' ws' KT' F' N' B' X' P' D' ec' ed' e2' es'))))
local macro_rules | `(tactic| walk_at "exec Raise some some") => `(tactic| (k_here; k_dflt (refine' raise_fromX (X := "ValueError") PySem.F.excCall_ValueError PySem.F.excRaise_ValueError PySem.F.excRaise_ValueError ?F ?X ?T ?ex PyProof.Rows.Boot.«ValueError» ?n ?hh ?hc ?hd ?h2 ?_ ?a ?b ?c ?d ?e; (case F => k_asm); (case X => k_asm); (case T => k_asm); (case ex => k_is); (case n => decide); (case hh => rfl); (case hc => assumption); (case hd => assumption); (case h2 => assumption); (case a => rfl); (case b => rfl); (case c => decide); (case d => rfl); (case e => rfl); k_whole)))
local macro_rules | `(tactic| walk_at "exec Raise some none") => `(tactic| (k_here; k_dflt (refine' raise_outX PySem.F.excCall_IndexError PySem.F.excRaise_IndexError ?F ?X ?T ?ex PyProof.Rows.Boot.«IndexError» ?n ?hh ?_ ?a ?b ?c ?d ?e; (case hh => rfl); (case F => k_asm); (case X => k_asm); (case T => k_asm); (case ex => k_is); (case n => decide); (case a => rfl); (case b => rfl); (case c => decide); (case d => rfl); (case e => rfl); k_whole)))
local macro_rules | `(tactic| walk_at "OutK") => `(tactic| (k_here; k_dflt (refine' outK ?l ?_; (case l => exact (show 1 ≤ sizeLine by decide)); k_whole); intro h' e' x'))
local macro_rules | `(tactic| walk_at "exec Raise some none") => `(tactic| (k_here; k_dflt (refine' raise_inX PySem.F.excCall_IndexError PySem.F.excRaise_IndexError ?F ?X ?T ?ex PyProof.Rows.Boot.«IndexError» ?n ?hh ?hd ?h2 ?_ ?a ?b ?c ?d ?e; (case hd => assumption); (case h2 => assumption); (case hh => rfl); (case F => k_asm); (case X => k_asm); (case T => k_asm); (case ex => k_is); (case n => decide); (case a => rfl); (case b => rfl); (case c => decide); (case d => rfl); (case e => rfl); k_whole)))
local macro_rules | `(tactic| walk_at "FromK") => `(tactic| (k_here; k_dflt (refine' fromK_end ?l ?K ?F ?N ?m ?n ?a ?b ?c ?d ?_; (case l => exact (show 1 ≤ sizeLine by decide)); (case K => assumption); (case F => k_asm); (case N => k_asm); (case m => k_mem); (case n => rfl); (case a => rfl); (case b => rfl); (case c => decide); (case d => rfl); k_whole); intro e' h' tk' R' U'))
local macro_rules | `(tactic| walk_at "InK") => `(tactic| (k_here; k_dflt (refine' inK_end ?l ?K ?F ?N ?m ?a ?d ?_; (case l => exact (show 1 ≤ sizeLine by decide)); (case K => assumption); (case F => k_asm); (case N => k_asm); (case m => k_mem); (case a => rfl); (case d => rfl); k_whole); intro e' h' R' U'))
local macro_rules | `(tactic| kfm_turns) => `(tactic| (refine KPc.turn ?_; kpc_if; kpc_check; refine wpAny_bind (field_zero (by rfl) (by rfl) ?_); refine wpAny_bind (wpAny_holding (wpAny_of_eq (a := _) rfl ?_)); kpc_if; refine wpAny_bind (wpAny_pure ?_); kfm_val; refine wpAny_bind (wpAny_of_eq (a := some _) rfl ?_); refine wpAny_pure ?_; refine KFm.after_field (by kpc_g) (by kpc_text) (by kpc_obj) (by kfm_len) (by kpc_obj) (by kfm_cat2) (by kfm_rest) ?_; intro _ _; kfm_turns))
local macro_rules | `(tactic| walk_at "leaving ref") => `(tactic| (k_here; k_dflt (refine' leaveX_ends ?K rfl ?x ?_; (case x => assumption); (case K => assumption); k_whole); intro h' R' U'))
local macro_rules | `(tactic| walk_at "leaving ref") => `(tactic| (k_here; k_dflt (refine' leaveX_made ?K ?F ?N rfl rfl ?x ?_; (case x => assumption); (case F => assumption); (case N => assumption); (case K => assumption); k_whole); intro h' R' U'))
local macro_rules | `(tactic| walk_at "getMethod ref") => `(tactic| (k_here; (with_reducible show wpAny _ _ (getMethod (Value.ref _) (PySem.Str.ofString "index") _) _ _ _); k_dflt (refine' topMethod_list ?F ?X ?l PySem.F.slot_list_index PySem.F.type_list_index ?_; (case F => k_asm); (case X => k_asm); (case l => k_is))))
local macro_rules | `(tactic| walk_at "call builtin:list.index") => `(tactic| (k_here; (with_reducible show wpAny _ _ (call (Value.builtin _) [Value.ref _, Value.str _ _]) _ _ _); k_dflt (first
  | (refine' topIndex_hit ?F ?X ?l ?t ?j ?s ?_; (case F => k_asm); (case X => k_asm); (case l => k_is); (case t => rfl); (case j => assumption); (case s => decide))
  | (refine' topIndex_none ?F ?X ?l ?t ?j ?s ?x ?A ?_; (case F => k_asm); (case X => k_asm); (case l => k_is); (case t => rfl); (case j => assumption); (case s => decide); (case x => assumption); (case A => rfl); intro h' tk' e' x'))))
local macro_rules | `(tactic| walk_at "call ref") => `(tactic| (k_here; (with_reducible show wpAny _ _ (call (Value.ref 88) _) _ _ _); k_dflt (refine' says_use (wheels_says _ _ _ _ _ _) ?B ?F ?X ?N ?T ?hk ?hd ?hu ?_; (case B => k_asm); (case F => k_asm); (case X => k_asm); (case N => k_asm); (case T => k_asm); (case hk => exact rfl); (case hd => ktr_room); (case hu => ktr_units); k_whole); intro D' a' b' c' d' t' u' v' w' kn' h' tk' ha' hb' hc' hd' F' N' l1; (have l9 := gt74 (by repeat (first | exact Tail.here | apply Tail.cons)) l1); (try k_lt l1)))
local macro_rules | `(tactic| walk_at "call ref") => `(tactic| (k_here; (with_reducible show wpAny _ _ (call (Value.ref 109) _) _ _ _); k_dflt (refine' tb_use ?B ?F ?X ?N ?T ?hk ?XB ?TB ?c1 ?c2 ?hT ?e1 ?e2 ?h1 ?h2 ?hb ?hp ?hd ?hu ?na1 ?na2 ?m1 ?m2 ?m18 ?lo ?hi ?_; (case B => k_asm); (case F => k_asm); (case X => k_asm); (case N => k_asm); (case T => k_asm); (case hk => exact rfl); (case XB => assumption); (case TB => assumption); (case c1 => assumption); (case c2 => assumption); (case hT => repeat (first | exact Tail.here | apply Tail.cons)); (case e1 => k_mem); (case e2 => k_mem); (case h1 => assumption); (case h2 => assumption); (case hb => assumption); (case hp => repeat (first | exact List.forall_mem_nil _ | refine List.forall_mem_cons.mpr ⟨by (first | (dsimp only; assumption) | (refine ltN ?_; dsimp only; omega)), ?_⟩)); (case hd => ktr_room); (case hu => ktr_units); (case na1 => omega); (case na2 => omega); (case m1 => omega); (case m2 => omega); (case m18 => omega); (case lo => omega); (case hi => omega); k_whole); intro v' s' ps' qs' hv' F' N' ht1' ht2' hb' ho'; (try simp only [List.cons_append, List.nil_append] at N'); obtain ⟨u9, e9⟩ := tb_later hv' (by assumption) (by assumption) (by assumption) (by assumption) (by assumption) (by assumption); subst e9))
theorem lawF (w : World) (mean : ExcName → Option Value) (mg mb : Str → Option Value) (base : Heap) (L fa : Addr) (cd : Value) (s : Shared) (Q : Flow → Shared → Prop)
    (m : Str → Option Value) (n number name hday month wn wna wd wm k : Int) (t0 t1 t2 t3 t4 t5 t6 t7 t8 t9 t10 : Tok) (T U De Dt Dh : Addr) (xE xT xN xD xM : Bool) (u0 u1 u2 u3 u4 u5 u6 u7 u8 u9 : Tok) (k0 k1 k2 k3 k4 : Nat) (ps qs : Array Value)
    (hk0 : 0 ≤ k) (hk1 : k < 18980) (hlo : -2000 ≤ n) (hhi : n < 2000000000) :
    Below callerA base [] base → (Mine.hd.heap_39 w.params).In base → Top topProg LL mean mg mb base → CodeHd base 57 53 → CodeHd base 78 74 → TriplesOk ps.toList → TriplesOk qs.toList → AllBare s.gens →
    (∀ q ∈ LC wn wna wd wm xE xT xN xD xM u0 u1 u2 u3 u4 u5 u6 u7 u8 u9 k0 k1 k2 k3 k4 T U De Dt Dh [], 74 < q.1) →
    Fr base L s.heap (kstB m (VC n number name hday month wn wna wd wm k t0 t1 t2 t3 t4 t5 t6 t7 t8 t9 t10 T U De Dt Dh)) →
    News base L s.heap (LC wn wna wd wm xE xT xN xD xM u0 u1 u2 u3 u4 u5 u6 u7 u8 u9 k0 k1 k2 k3 k4 T U De Dt Dh (tl ps qs)) →
    (∀ (m : Str → Option Value) s' ps' qs', TriplesOk ps'.toList → TriplesOk qs'.toList → AllBare s'.gens → s'.os = s.os →
      Fr base L s'.heap (kstB m (VC n number name hday month wn wna wd wm k t0 t1 t2 t3 t4 t5 t6 t7 t8 t9 t10 T U De Dt Dh)) →
      News base L s'.heap (LC wn wna wd wm xE xT xN xD xM u0 u1 u2 u3 u4 u5 u6 u7 u8 u9 k0 k1 k2 k3 k4 T U De Dt Dh (tl ps' qs')) → Q .next s') →
    wpAny (model PySem.Challenge.rw_bn0005_01.row.prog w) (callerA.deeper (lawEnv w L fa cd)) (execs (seg w 17 2) (lawEnv w L fa cd)) Q (fun _ _ => False) s := by
  k_fill
  intro B X T9 C57 C78 ht1 ht2 hb hgt F N hret
  have hgt2 := List.forall_mem_cons.mp hgt
  have hgt3 := List.forall_mem_cons.mp hgt2.2
  have hgt4 := List.forall_mem_cons.mp hgt3.2
  have hgt5 := List.forall_mem_cons.mp hgt4.2
  have hgt6 := List.forall_mem_cons.mp hgt5.2
  have g1 := ltN hgt2.1
  have g2 := ltN hgt3.1
  have g3 := ltN hgt4.1
  have g4 := ltN hgt5.1
  have g5 := ltN hgt6.1
  clear hgt hgt2 hgt3 hgt4 hgt5 hgt6
  dsimp only at g1 g2 g3 g4 g5
  delta lawEnv
  conv in (seg w 17 2) => whnf
  dsimp only [List.take]
  conv in (occs := *) (lawScope w) => all_goals whnf
  dsimp only [VC, LC] at F N
  k_steps
  all_goals first
    | (exfalso; omega)
    | (rename News base L _ _ => kN
       refine hret _ _ _ _ ?_ ?_ (by assumption) ?_ (fr_kst (by assumption) (by kst_all)) (fun q hq => kN q (.tail _ (.tail _ (.tail _ hq)))))
  all_goals first | assumption | (repeat (first | rfl | refine Eq.trans (by assumption) ?_))
end Mine
end
section
namespace Mine
open PySem PySem.W PyProof.Rows in
theorem fresh_LAWG1 {M : Model} {A : Around} {E : Value → Shared → Prop} {env : Env} {Q : Flow → Shared → Prop} {s : Shared} (h : Q .next s) : wpAny M A (execs [] env) Q E s := by
  w_top off
  walk1
  exact h
end Mine
open PySem PySem.W PyProof.Rows
set_option maxRecDepth 100000
set_option maxHeartbeats 3200000
namespace Mine
local macro_rules | `(tactic| k_room) => `(tactic| ktr_room)
local macro_rules | `(tactic| k_units) => `(tactic| ktr_units)
local macro_rules | `(tactic| k_all) => `(tactic| (refine' List.forall_mem_append.mpr ⟨?a, ?b⟩; (case a => first | exact all_gt (by assumption) (by first | decide | omega) | exact all_ne (by assumption) (by omega)); (case b => k_all)))
local macro_rules | `(tactic| k_updF) => `(tactic| (refine' updF_app ?a ?b; (case a => first | exact all_gt (by assumption) (by first | decide | omega) | exact all_ne (by assumption) (by omega)); (case b => k_updF)))
local macro_rules | `(tactic| k_mem) => `(tactic| first | (refine' List.mem_append_right _ ?b; (case b => k_mem)) | exact List.mem_append_left _ (by assumption))
local macro_rules | `(tactic| walk_at "eval GeneratorExp") => `(tactic| (k_here; k_dflt (refine' gen_start ?hh rfl ?cl ?cell ?h0 ?hx rfl ?room ?_ ?hs; (case hh => rfl); (case cl => exact rfl); (case cell => decide); (case h0 => rfl); (case hx => rfl); (case room => ktr_room); (case hs => exact fun _ => rfl); k_whole)))
local macro_rules | `(tactic| walk_at "GenK") => `(tactic| (k_here; k_dflt (refine' genK_U ?hh ?F ?N ?T ?C ?U ?ht ?hb ?hr ?sm ?hn ?hcl ?mem ?hoc rfl rfl rfl ?xd ?yd ?yc ?_; (case hh => rfl); (case F => k_asm); (case N => k_asm); (case T => k_asm); (case C => exact CodeHd.keeps (by assumption) (Below.stays (by assumption))); (case U => k_updF); (case ht => assumption); (case hb => assumption); (case hr => assumption); (case sm => decide); (case hn => first | exact (show Builtin.Range.rangeSize _ _ _ = ((20 : Nat) : Int) by decide) | exact (show Builtin.Range.rangeSize _ _ _ = ((13 : Nat) : Int) by decide) | exact (show Builtin.Range.rangeSize _ _ _ = ((52 : Nat) : Int) by decide) | exact (show Builtin.Range.rangeSize _ _ _ = ((73 : Nat) : Int) by decide)); (case hcl => rfl); (case mem => k_mem); (case hoc => assumption); (case xd => decide); (case yd => decide); (case yc => decide); k_whole); intro gen' s' ps' ht' F' N' G' ho' hb'; (try dsimp only at N' G')))
local macro_rules | `(tactic| walk_at "call type:set") => `(tactic| (k_here; k_dflt (refine' setGen_U ?hh ?F ?N ?G ?hb ?hn ?_; (case hh => rfl); (case F => k_asm); (case N => k_asm); (case G => assumption); (case hb => assumption); (case hn => decide); k_whole); intro D' so' s' F' N' l1 hS' ho' hb'; (try k_lt l1)))
local macro_rules | `(tactic| walk_at "getMethod ref") => `(tactic| (k_here; k_dflt (first
  | (refine' methodV_N ?N ?m ?v ?b PySem.F.slot_set_intersection PySem.F.type_set_intersection ?_; (case N => k_asm); (case m => k_mem); (case v => assumption); (case b => decide))
  | (refine' methodK_N ?N ?m ?v PySem.F.slot_set_pop PySem.F.type_set_pop ?_; (case N => k_asm); (case m => k_mem); (case v => assumption)))))
local macro_rules | `(tactic| walk_at "call builtin:set.intersection") => `(tactic| (k_here; k_dflt (refine' inter_N ?F ?N ?ma ?mb ?ab ?sa ?sb ?na ?nb ?_; (case F => k_asm); (case N => k_asm); (case ma => k_mem); (case mb => k_mem); (case ab => k_ne); (case sa => assumption); (case sb => assumption); (case na => decide); (case nb => decide); k_whole); intro D' so' h' σ' F' N' l1 hK' hs'; (have l2 := l1); (try k_lt l1)))
local macro_rules | `(tactic| walk_at "call builtin:set.pop") => `(tactic| (k_here; k_dflt (refine' popOne_N ?F ?N ?l ?K ?ex ?_; (case F => k_asm); (case N => k_asm); (case l => assumption); (case K => assumption); (case ex => exact tz_meets (by assumption) (by assumption) (by assumption) (by assumption)); k_whole); intro h' d' t' k' F' N' hk'))
local macro_rules | `(tactic| walk_at "exec Try") => `(tactic| (k_here; (with_reducible show wpAny _ _ (exec (Stmt.Try _ (_ :: _) _ [] _) _) _ _ _); refine wpAny_Try_except ?_))
local macro_rules | `(tactic| walk_at "noteFrame ref") => `(tactic| (k_here; (rename Heap.NewExc _ _ _ _ => nx9); k_dflt (first
  | ((with_reducible show wpAny _ _ (noteFrame _ _) (fun _ s₂ => wpAny _ _ (setFlight _ none) (fun _ s₃ => wpAny _ _ (handleBy _ _ (ExceptHandler.ExceptHandler (some (Expr.Name _ _)) (some _) _ _ :: _)) _ _ s₃) _ s₂) _ _); refine' own_caughtB (X := "ValueError") (T' := "ValueError") ?K ?F ?N ?x ?XB ?TB ?D ?ex PyProof.Rows.Boot.«ValueError» ?n PySem.F.isExc_ValueError PySem.F.notTuple_ValueError ?s ?_ ?a ?b ?c ?d; (case K => assumption); (case F => assumption); (case N => assumption); (case x => assumption); (case XB => assumption); (case TB => assumption); (case D => assumption); (case ex => k_is); (case n => decide); (case s => (rw [isSubtype_type]; kernel_rfl)); (case a => rfl); (case b => rfl); (case c => rfl); (case d => decide); k_whole; intro h' g' T' eo' to' ws' tk' KT' F' N' B' X' P' D' ec' ed' e2' es')
  | (refine' own_caught0 (X := "KeyError") (T' := "KeyError") ?K ?F ?N ?x ?XB ?TB ?D ?ex PyProof.Rows.Boot.«KeyError» ?n kr_isExc_KeyError kr_notTuple_KeyError ?s ?_ ?a ?b ?c; (case K => assumption); (case F => assumption); (case N => assumption); (case x => assumption); (case XB => assumption); (case TB => assumption); (case D => assumption); (case ex => k_is); (case n => decide); (case s => (rw [isSubtype_type]; kernel_rfl)); (case a => rfl); (case b => rfl); (case c => decide); k_whole; intro h' g' T' eo' to' ws' KT' F' N' B' X' P' D' ec' ed' e2' es'))))
local macro_rules | `(tactic| walk_at "exec Raise some some") => `(tactic| (k_here; k_dflt (refine' raise_fromX (X := "ValueError") PySem.F.excCall_ValueError PySem.F.excRaise_ValueError PySem.F.excRaise_ValueError ?F ?X ?T ?ex PyProof.Rows.Boot.«ValueError» ?n ?hh ?hc ?hd ?h2 ?_ ?a ?b ?c ?d ?e; (case F => k_asm); (case X => k_asm); (case T => k_asm); (case ex => k_is); (case n => decide); (case hh => rfl); (case hc => assumption); (case hd => assumption); (case h2 => assumption); (case a => rfl); (case b => rfl); (case c => decide); (case d => rfl); (case e => rfl); k_whole)))
local macro_rules | `(tactic| walk_at "exec Raise some none") => `(tactic| (k_here; k_dflt (refine' raise_outX PySem.F.excCall_IndexError PySem.F.excRaise_IndexError ?F ?X ?T ?ex PyProof.Rows.Boot.«IndexError» ?n ?hh ?_ ?a ?b ?c ?d ?e; (case hh => rfl); (case F => k_asm); (case X => k_asm); (case T => k_asm); (case ex => k_is); (case n => decide); (case a => rfl); (case b => rfl); (case c => decide); (case d => rfl); (case e => rfl); k_whole)))
local macro_rules | `(tactic| walk_at "OutK") => `(tactic| (k_here; k_dflt (refine' outK ?l ?_; (case l => exact (show 1 ≤ sizeLine by decide)); k_whole); intro h' e' x'))
local macro_rules | `(tactic| walk_at "exec Raise some none") => `(tactic| (k_here; k_dflt (refine' raise_inX PySem.F.excCall_IndexError PySem.F.excRaise_IndexError ?F ?X ?T ?ex PyProof.Rows.Boot.«IndexError» ?n ?hh ?hd ?h2 ?_ ?a ?b ?c ?d ?e; (case hd => assumption); (case h2 => assumption); (case hh => rfl); (case F => k_asm); (case X => k_asm); (case T => k_asm); (case ex => k_is); (case n => decide); (case a => rfl); (case b => rfl); (case c => decide); (case d => rfl); (case e => rfl); k_whole)))
local macro_rules | `(tactic| walk_at "FromK") => `(tactic| (k_here; k_dflt (refine' fromK_end ?l ?K ?F ?N ?m ?n ?a ?b ?c ?d ?_; (case l => exact (show 1 ≤ sizeLine by decide)); (case K => assumption); (case F => k_asm); (case N => k_asm); (case m => k_mem); (case n => rfl); (case a => rfl); (case b => rfl); (case c => decide); (case d => rfl); k_whole); intro e' h' tk' R' U'))
local macro_rules | `(tactic| walk_at "InK") => `(tactic| (k_here; k_dflt (refine' inK_end ?l ?K ?F ?N ?m ?a ?d ?_; (case l => exact (show 1 ≤ sizeLine by decide)); (case K => assumption); (case F => k_asm); (case N => k_asm); (case m => k_mem); (case a => rfl); (case d => rfl); k_whole); intro e' h' R' U'))
local macro_rules | `(tactic| kfm_turns) => `(tactic| (refine KPc.turn ?_; kpc_if; kpc_check; refine wpAny_bind (field_zero (by rfl) (by rfl) ?_); refine wpAny_bind (wpAny_holding (wpAny_of_eq (a := _) rfl ?_)); kpc_if; refine wpAny_bind (wpAny_pure ?_); kfm_val; refine wpAny_bind (wpAny_of_eq (a := some _) rfl ?_); refine wpAny_pure ?_; refine KFm.after_field (by kpc_g) (by kpc_text) (by kpc_obj) (by kfm_len) (by kpc_obj) (by kfm_cat2) (by kfm_rest) ?_; intro _ _; kfm_turns))
local macro_rules | `(tactic| walk_at "leaving ref") => `(tactic| (k_here; k_dflt (refine' leaveX_ends ?K rfl ?x ?_; (case x => assumption); (case K => assumption); k_whole); intro h' R' U'))
local macro_rules | `(tactic| walk_at "leaving ref") => `(tactic| (k_here; k_dflt (refine' leaveX_made ?K ?F ?N rfl rfl ?x ?_; (case x => assumption); (case F => assumption); (case N => assumption); (case K => assumption); k_whole); intro h' R' U'))
local macro_rules | `(tactic| walk_at "getMethod ref") => `(tactic| (k_here; (with_reducible show wpAny _ _ (getMethod (Value.ref _) (PySem.Str.ofString "index") _) _ _ _); k_dflt (refine' topMethod_list ?F ?X ?l PySem.F.slot_list_index PySem.F.type_list_index ?_; (case F => k_asm); (case X => k_asm); (case l => k_is))))
local macro_rules | `(tactic| walk_at "call builtin:list.index") => `(tactic| (k_here; (with_reducible show wpAny _ _ (call (Value.builtin _) [Value.ref _, Value.str _ _]) _ _ _); k_dflt (first
  | (refine' topIndex_hit ?F ?X ?l ?t ?j ?s ?_; (case F => k_asm); (case X => k_asm); (case l => k_is); (case t => rfl); (case j => assumption); (case s => decide))
  | (refine' topIndex_none ?F ?X ?l ?t ?j ?s ?x ?A ?_; (case F => k_asm); (case X => k_asm); (case l => k_is); (case t => rfl); (case j => assumption); (case s => decide); (case x => assumption); (case A => rfl); intro h' tk' e' x'))))
local macro_rules | `(tactic| walk_at "call ref") => `(tactic| (k_here; (with_reducible show wpAny _ _ (call (Value.ref 116) _) _ _ _); k_dflt (refine' tt_use ?B ?F ?X ?N ?T ?hk ?XB ?TB ?c1 ?c2 ?hT ?e1 ?h1 ?h2 ?hb ?hp ?hd ?hu ?na1 ?na2 ?lo ?hi ?_; (case B => k_asm); (case F => k_asm); (case X => k_asm); (case N => k_asm); (case T => k_asm); (case hk => exact rfl); (case XB => assumption); (case TB => assumption); (case c1 => assumption); (case c2 => assumption); (case hT => repeat (first | exact Tail.here | apply Tail.cons)); (case e1 => k_mem); (case h1 => assumption); (case h2 => assumption); (case hb => assumption); (case hp => repeat (first | exact List.forall_mem_nil _ | refine List.forall_mem_cons.mpr ⟨by (first | (dsimp only; assumption) | (refine ltN ?_; dsimp only; omega)), ?_⟩)); (case hd => ktr_room); (case hu => ktr_units); (case na1 => omega); (case na2 => omega); (case lo => omega); (case hi => omega); k_whole); intro v' s' ps' qs' hv' F' N' ht1' ht2' hb' ho'; (try simp only [List.cons_append, List.nil_append] at N')))
theorem lawG1 (w : World) (mean : ExcName → Option Value) (mg mb : Str → Option Value) (base : Heap) (L fa : Addr) (cd : Value) (s : Shared) (Q : Flow → Shared → Prop)
    (m : Str → Option Value) (n number name hday month wn wna wd wm k : Int) (t0 t1 t2 t3 t4 t5 t6 t7 t8 t9 t10 : Tok) (T U De Dt Dh : Addr) (xE xT xN xD xM : Bool) (u0 u1 u2 u3 u4 u5 u6 u7 u8 u9 : Tok) (k0 k1 k2 k3 k4 : Nat) (ps qs : Array Value)
    (hna : 0 ≤ wna) (hna2 : wna ≤ 20) (hlo : -2000 ≤ n) (hhi : n < 2000000000) :
    Below callerA base [] base → (Mine.hd.heap_39 w.params).In base → Top topProg LL mean mg mb base → CodeHd base 57 53 → CodeHd base 78 74 → TriplesOk ps.toList → TriplesOk qs.toList → AllBare s.gens →
    (∀ q ∈ LC wn wna wd wm xE xT xN xD xM u0 u1 u2 u3 u4 u5 u6 u7 u8 u9 k0 k1 k2 k3 k4 T U De Dt Dh [], 74 < q.1) →
    Fr base L s.heap (kstB m (VC n number name hday month wn wna wd wm k t0 t1 t2 t3 t4 t5 t6 t7 t8 t9 t10 T U De Dt Dh)) →
    News base L s.heap (LC wn wna wd wm xE xT xN xD xM u0 u1 u2 u3 u4 u5 u6 u7 u8 u9 k0 k1 k2 k3 k4 T U De Dt Dh (tl ps qs)) →
    (∀ (m : Str → Option Value) v s' ps' qs', TT n wn wna v → TriplesOk ps'.toList → TriplesOk qs'.toList → AllBare s'.gens → s'.os = s.os →
      Fr base L s'.heap (kstB m (("told", v) :: VC n number name hday month wn wna wd wm k t0 t1 t2 t3 t4 t5 t6 t7 t8 t9 t10 T U De Dt Dh)) →
      News base L s'.heap (LC wn wna wd wm xE xT xN xD xM u0 u1 u2 u3 u4 u5 u6 u7 u8 u9 k0 k1 k2 k3 k4 T U De Dt Dh (tl ps' qs')) → Q .next s') →
    wpAny (model PySem.Challenge.rw_bn0005_01.row.prog w) (callerA.deeper (lawEnv w L fa cd)) (execs (seg w 19 1) (lawEnv w L fa cd)) Q (fun _ _ => False) s := by
  k_fill
  intro B X T9 C57 C78 ht1 ht2 hb hgt F N hret
  have hgt2 := List.forall_mem_cons.mp hgt
  have hgt3 := List.forall_mem_cons.mp hgt2.2
  have hgt4 := List.forall_mem_cons.mp hgt3.2
  have hgt5 := List.forall_mem_cons.mp hgt4.2
  have hgt6 := List.forall_mem_cons.mp hgt5.2
  have g1 := ltN hgt2.1
  have g2 := ltN hgt3.1
  have g3 := ltN hgt4.1
  have g4 := ltN hgt5.1
  have g5 := ltN hgt6.1
  clear hgt hgt2 hgt3 hgt4 hgt5 hgt6
  dsimp only at g1 g2 g3 g4 g5
  delta lawEnv
  conv in (seg w 19 1) => whnf
  dsimp only [List.take]
  conv in (occs := *) (lawScope w) => all_goals whnf
  dsimp only [VC, LC] at F N
  k_steps
  all_goals (refine hret _ _ _ _ _ (by assumption) ?_ ?_ (by assumption) ?_ (fr_kst (by assumption) (by kst_all)) (by assumption))
  all_goals first | assumption | (repeat (first | rfl | refine Eq.trans (by assumption) ?_))
end Mine
end
section
namespace Mine
open PySem PySem.W PyProof.Rows in
theorem fresh_LAWG2 {M : Model} {A : Around} {E : Value → Shared → Prop} {env : Env} {Q : Flow → Shared → Prop} {s : Shared} (h : Q .next s) : wpAny M A (execs [] env) Q E s := by
  w_top off
  walk1
  exact h
end Mine
open PySem PySem.W PyProof.Rows
set_option maxRecDepth 100000
set_option maxHeartbeats 3200000
namespace Mine
local macro_rules | `(tactic| k_room) => `(tactic| ktr_room)
local macro_rules | `(tactic| k_units) => `(tactic| ktr_units)
local macro_rules | `(tactic| k_all) => `(tactic| (refine' List.forall_mem_append.mpr ⟨?a, ?b⟩; (case a => first | exact all_gt (by assumption) (by first | decide | omega) | exact all_ne (by assumption) (by omega)); (case b => k_all)))
local macro_rules | `(tactic| k_updF) => `(tactic| (refine' updF_app ?a ?b; (case a => first | exact all_gt (by assumption) (by first | decide | omega) | exact all_ne (by assumption) (by omega)); (case b => k_updF)))
local macro_rules | `(tactic| k_mem) => `(tactic| first | (refine' List.mem_append_right _ ?b; (case b => k_mem)) | exact List.mem_append_left _ (by assumption))
local macro_rules | `(tactic| walk_at "eval GeneratorExp") => `(tactic| (k_here; k_dflt (refine' gen_start ?hh rfl ?cl ?cell ?h0 ?hx rfl ?room ?_ ?hs; (case hh => rfl); (case cl => exact rfl); (case cell => decide); (case h0 => rfl); (case hx => rfl); (case room => ktr_room); (case hs => exact fun _ => rfl); k_whole)))
local macro_rules | `(tactic| walk_at "GenK") => `(tactic| (k_here; k_dflt (refine' genK_U ?hh ?F ?N ?T ?C ?U ?ht ?hb ?hr ?sm ?hn ?hcl ?mem ?hoc rfl rfl rfl ?xd ?yd ?yc ?_; (case hh => rfl); (case F => k_asm); (case N => k_asm); (case T => k_asm); (case C => exact CodeHd.keeps (by assumption) (Below.stays (by assumption))); (case U => k_updF); (case ht => assumption); (case hb => assumption); (case hr => assumption); (case sm => decide); (case hn => first | exact (show Builtin.Range.rangeSize _ _ _ = ((20 : Nat) : Int) by decide) | exact (show Builtin.Range.rangeSize _ _ _ = ((13 : Nat) : Int) by decide) | exact (show Builtin.Range.rangeSize _ _ _ = ((52 : Nat) : Int) by decide) | exact (show Builtin.Range.rangeSize _ _ _ = ((73 : Nat) : Int) by decide)); (case hcl => rfl); (case mem => k_mem); (case hoc => assumption); (case xd => decide); (case yd => decide); (case yc => decide); k_whole); intro gen' s' ps' ht' F' N' G' ho' hb'; (try dsimp only at N' G')))
local macro_rules | `(tactic| walk_at "call type:set") => `(tactic| (k_here; k_dflt (refine' setGen_U ?hh ?F ?N ?G ?hb ?hn ?_; (case hh => rfl); (case F => k_asm); (case N => k_asm); (case G => assumption); (case hb => assumption); (case hn => decide); k_whole); intro D' so' s' F' N' l1 hS' ho' hb'; (try k_lt l1)))
local macro_rules | `(tactic| walk_at "getMethod ref") => `(tactic| (k_here; k_dflt (first
  | (refine' methodV_N ?N ?m ?v ?b PySem.F.slot_set_intersection PySem.F.type_set_intersection ?_; (case N => k_asm); (case m => k_mem); (case v => assumption); (case b => decide))
  | (refine' methodK_N ?N ?m ?v PySem.F.slot_set_pop PySem.F.type_set_pop ?_; (case N => k_asm); (case m => k_mem); (case v => assumption)))))
local macro_rules | `(tactic| walk_at "call builtin:set.intersection") => `(tactic| (k_here; k_dflt (refine' inter_N ?F ?N ?ma ?mb ?ab ?sa ?sb ?na ?nb ?_; (case F => k_asm); (case N => k_asm); (case ma => k_mem); (case mb => k_mem); (case ab => k_ne); (case sa => assumption); (case sb => assumption); (case na => decide); (case nb => decide); k_whole); intro D' so' h' σ' F' N' l1 hK' hs'; (have l2 := l1); (try k_lt l1)))
local macro_rules | `(tactic| walk_at "call builtin:set.pop") => `(tactic| (k_here; k_dflt (refine' popOne_N ?F ?N ?l ?K ?ex ?_; (case F => k_asm); (case N => k_asm); (case l => assumption); (case K => assumption); (case ex => exact tz_meets (by assumption) (by assumption) (by assumption) (by assumption)); k_whole); intro h' d' t' k' F' N' hk'))
local macro_rules | `(tactic| walk_at "exec Try") => `(tactic| (k_here; (with_reducible show wpAny _ _ (exec (Stmt.Try _ (_ :: _) _ [] _) _) _ _ _); refine wpAny_Try_except ?_))
local macro_rules | `(tactic| walk_at "noteFrame ref") => `(tactic| (k_here; (rename Heap.NewExc _ _ _ _ => nx9); k_dflt (first
  | ((with_reducible show wpAny _ _ (noteFrame _ _) (fun _ s₂ => wpAny _ _ (setFlight _ none) (fun _ s₃ => wpAny _ _ (handleBy _ _ (ExceptHandler.ExceptHandler (some (Expr.Name _ _)) (some _) _ _ :: _)) _ _ s₃) _ s₂) _ _); refine' own_caughtB (X := "ValueError") (T' := "ValueError") ?K ?F ?N ?x ?XB ?TB ?D ?ex PyProof.Rows.Boot.«ValueError» ?n PySem.F.isExc_ValueError PySem.F.notTuple_ValueError ?s ?_ ?a ?b ?c ?d; (case K => assumption); (case F => assumption); (case N => assumption); (case x => assumption); (case XB => assumption); (case TB => assumption); (case D => assumption); (case ex => k_is); (case n => decide); (case s => (rw [isSubtype_type]; kernel_rfl)); (case a => rfl); (case b => rfl); (case c => rfl); (case d => decide); k_whole; intro h' g' T' eo' to' ws' tk' KT' F' N' B' X' P' D' ec' ed' e2' es')
  | (refine' own_caught0 (X := "KeyError") (T' := "KeyError") ?K ?F ?N ?x ?XB ?TB ?D ?ex PyProof.Rows.Boot.«KeyError» ?n kr_isExc_KeyError kr_notTuple_KeyError ?s ?_ ?a ?b ?c; (case K => assumption); (case F => assumption); (case N => assumption); (case x => assumption); (case XB => assumption); (case TB => assumption); (case D => assumption); (case ex => k_is); (case n => decide); (case s => (rw [isSubtype_type]; kernel_rfl)); (case a => rfl); (case b => rfl); (case c => decide); k_whole; intro h' g' T' eo' to' ws' KT' F' N' B' X' P' D' ec' ed' e2' es'))))
local macro_rules | `(tactic| walk_at "exec Raise some some") => `(tactic| (k_here; k_dflt (refine' raise_fromX (X := "ValueError") PySem.F.excCall_ValueError PySem.F.excRaise_ValueError PySem.F.excRaise_ValueError ?F ?X ?T ?ex PyProof.Rows.Boot.«ValueError» ?n ?hh ?hc ?hd ?h2 ?_ ?a ?b ?c ?d ?e; (case F => k_asm); (case X => k_asm); (case T => k_asm); (case ex => k_is); (case n => decide); (case hh => rfl); (case hc => assumption); (case hd => assumption); (case h2 => assumption); (case a => rfl); (case b => rfl); (case c => decide); (case d => rfl); (case e => rfl); k_whole)))
local macro_rules | `(tactic| walk_at "exec Raise some none") => `(tactic| (k_here; k_dflt (refine' raise_outX PySem.F.excCall_IndexError PySem.F.excRaise_IndexError ?F ?X ?T ?ex PyProof.Rows.Boot.«IndexError» ?n ?hh ?_ ?a ?b ?c ?d ?e; (case hh => rfl); (case F => k_asm); (case X => k_asm); (case T => k_asm); (case ex => k_is); (case n => decide); (case a => rfl); (case b => rfl); (case c => decide); (case d => rfl); (case e => rfl); k_whole)))
local macro_rules | `(tactic| walk_at "OutK") => `(tactic| (k_here; k_dflt (refine' outK ?l ?_; (case l => exact (show 1 ≤ sizeLine by decide)); k_whole); intro h' e' x'))
local macro_rules | `(tactic| walk_at "exec Raise some none") => `(tactic| (k_here; k_dflt (refine' raise_inX PySem.F.excCall_IndexError PySem.F.excRaise_IndexError ?F ?X ?T ?ex PyProof.Rows.Boot.«IndexError» ?n ?hh ?hd ?h2 ?_ ?a ?b ?c ?d ?e; (case hd => assumption); (case h2 => assumption); (case hh => rfl); (case F => k_asm); (case X => k_asm); (case T => k_asm); (case ex => k_is); (case n => decide); (case a => rfl); (case b => rfl); (case c => decide); (case d => rfl); (case e => rfl); k_whole)))
local macro_rules | `(tactic| walk_at "FromK") => `(tactic| (k_here; k_dflt (refine' fromK_end ?l ?K ?F ?N ?m ?n ?a ?b ?c ?d ?_; (case l => exact (show 1 ≤ sizeLine by decide)); (case K => assumption); (case F => k_asm); (case N => k_asm); (case m => k_mem); (case n => rfl); (case a => rfl); (case b => rfl); (case c => decide); (case d => rfl); k_whole); intro e' h' tk' R' U'))
local macro_rules | `(tactic| walk_at "InK") => `(tactic| (k_here; k_dflt (refine' inK_end ?l ?K ?F ?N ?m ?a ?d ?_; (case l => exact (show 1 ≤ sizeLine by decide)); (case K => assumption); (case F => k_asm); (case N => k_asm); (case m => k_mem); (case a => rfl); (case d => rfl); k_whole); intro e' h' R' U'))
local macro_rules | `(tactic| kfm_turns) => `(tactic| (refine KPc.turn ?_; kpc_if; kpc_check; refine wpAny_bind (field_zero (by rfl) (by rfl) ?_); refine wpAny_bind (wpAny_holding (wpAny_of_eq (a := _) rfl ?_)); kpc_if; refine wpAny_bind (wpAny_pure ?_); kfm_val; refine wpAny_bind (wpAny_of_eq (a := some _) rfl ?_); refine wpAny_pure ?_; refine KFm.after_field (by kpc_g) (by kpc_text) (by kpc_obj) (by kfm_len) (by kpc_obj) (by kfm_cat2) (by kfm_rest) ?_; intro _ _; kfm_turns))
local macro_rules | `(tactic| walk_at "leaving ref") => `(tactic| (k_here; k_dflt (refine' leaveX_ends ?K rfl ?x ?_; (case x => assumption); (case K => assumption); k_whole); intro h' R' U'))
local macro_rules | `(tactic| walk_at "leaving ref") => `(tactic| (k_here; k_dflt (refine' leaveX_made ?K ?F ?N rfl rfl ?x ?_; (case x => assumption); (case F => assumption); (case N => assumption); (case K => assumption); k_whole); intro h' R' U'))
local macro_rules | `(tactic| walk_at "getMethod ref") => `(tactic| (k_here; (with_reducible show wpAny _ _ (getMethod (Value.ref _) (PySem.Str.ofString "index") _) _ _ _); k_dflt (refine' topMethod_list ?F ?X ?l PySem.F.slot_list_index PySem.F.type_list_index ?_; (case F => k_asm); (case X => k_asm); (case l => k_is))))
local macro_rules | `(tactic| walk_at "call builtin:list.index") => `(tactic| (k_here; (with_reducible show wpAny _ _ (call (Value.builtin _) [Value.ref _, Value.str _ _]) _ _ _); k_dflt (first
  | (refine' topIndex_hit ?F ?X ?l ?t ?j ?s ?_; (case F => k_asm); (case X => k_asm); (case l => k_is); (case t => rfl); (case j => assumption); (case s => decide))
  | (refine' topIndex_none ?F ?X ?l ?t ?j ?s ?x ?A ?_; (case F => k_asm); (case X => k_asm); (case l => k_is); (case t => rfl); (case j => assumption); (case s => decide); (case x => assumption); (case A => rfl); intro h' tk' e' x'))))
local macro_rules | `(tactic| walk_at "binaryOp Add ref ref") => `(tactic| (k_here; k_dflt (refine' add_fl ?F ?N ?a ?b ?x ?y ?_; (case F => k_asm); (case N => k_asm); (case a => k_mem); (case b => k_mem); (case x => assumption); (case y => assumption); k_whole); intro D' h' F' N' l1 hS'; (try k_lt l1)))
local macro_rules | `(tactic| walk_at "compareOp NotEq ref ref") => `(tactic| (k_here; k_dflt (first
  | (refine' ne_fl1 ?o ?N ?a ?b ?x ?y ?u ?e ?_; (case N => k_asm); (case a => k_mem); (case b => k_mem); (case x => assumption); (case y => exact StrsAre.nil); (case e => assumption); (case o => first | exact fN_ok _ _ | exact fN_ok2 _ _ _ _); (case u => ke_room); k_whole)
  | (refine' ne_fl0 ?o ?N ?a ?b ?x ?y ?u ?e ?_; (case N => k_asm); (case a => k_mem); (case b => k_mem); (case x => assumption); (case y => exact StrsAre.nil); (case e => assumption); (case o => first | exact fN_ok _ _ | exact fN_ok2 _ _ _ _); (case u => ke_room); k_whole))))
local macro_rules | `(tactic| walk_at "compareOp NotIn str ref") => `(tactic| (k_here; k_dflt (refine' notin_fl ?N ?a ?x ?e ?_; (case N => k_asm); (case a => k_mem); (case x => assumption); (case e => first | assumption | (rw [fN_index]; rfl) | (rw [fN_value]; rfl)); k_whole)))
local macro_rules | `(tactic| walk_at "compareOp In str ref") => `(tactic| (k_here; k_dflt (refine' in_fl ?N ?a ?x ?e ?_; (case N => k_asm); (case a => k_mem); (case x => assumption); (case e => first | assumption | (rw [fN_index]; rfl) | (rw [fN_value]; rfl)); k_whole)))
local macro_rules | `(tactic| walk_at "call ref") => `(tactic| (k_here; (with_reducible show wpAny _ _ (call (Value.ref 95) _) _ _ _); k_dflt (refine' says_use (ltt_says _ _ _ _ _ _ _ _ _ _ _ _ ?p1 ?p2 ?p3 ?p4 ?p5 ?p6 ?p7 ?p8) ?B ?F ?X ?N ?T ?hk ?hd ?hu ?_; (case B => k_asm); (case F => k_asm); (case X => k_asm); (case N => k_asm); (case T => k_asm); (case hk => exact rfl); (case hd => ktr_room); (case hu => ktr_units); (case p1 => omega); (case p2 => omega); (case p3 => omega); (case p4 => omega); (case p5 => omega); (case p6 => omega); (case p7 => omega); (case p8 => omega); k_whole); intro x' u' h' tk' hx1' hx2' hx3' hx4' F' N'))
theorem lawG2 (w : World) (mean : ExcName → Option Value) (mg mb : Str → Option Value) (base : Heap) (L fa : Addr) (cd : Value) (s : Shared) (Q : Flow → Shared → Prop)
    (m : Str → Option Value) (n number name hday month wn wna wd wm k : Int) (t0 t1 t2 t3 t4 t5 t6 t7 t8 t9 t10 : Tok) (T U De Dt Dh : Addr) (xE xT xN : Bool) (fE fT fH : List Value) (u0 u1 u2 u3 : Tok) (k0 k1 k2 k3 k4 : Nat) (ps qs : Array Value) (v : Value)
    (hv : TT n wn wna v) (hfE : StrsAre fE (fN xE false)) (hfT : StrsAre fT (fN xT xN)) (hxE : xE = true ↔ n < 0) (hxT : xT = true ↔ wn < 1 ∨ 13 < wn) (hxN : xN = true ↔ wna = 20) (hnu : number = (n + 3) % 13 + 1) (hnm : name = (n + 19) % 20) (hna : 0 ≤ wna) (hna2 : wna ≤ 20) (hlo : -2000 ≤ n) (hhi : n < 2000000000) :
    Below callerA base [] base → (Mine.hd.heap_39 w.params).In base → Top topProg LL mean mg mb base → CodeHd base 57 53 → CodeHd base 78 74 → TriplesOk ps.toList → TriplesOk qs.toList → AllBare s.gens →
    (∀ q ∈ LCf wn wna wd wm fE fT fH u0 u1 u2 u3 k0 k1 k2 k3 k4 T U De Dt Dh [], 74 < q.1) →
    Fr base L s.heap (kstB m (("told", v) :: VC n number name hday month wn wna wd wm k t0 t1 t2 t3 t4 t5 t6 t7 t8 t9 t10 T U De Dt Dh)) →
    News base L s.heap (LCf wn wna wd wm fE fT fH u0 u1 u2 u3 k0 k1 k2 k3 k4 T U De Dt Dh (tl ps qs)) →
    (∀ (m : Str → Option Value) s' ps' qs', TriplesOk ps'.toList → TriplesOk qs'.toList → AllBare s'.gens → s'.os = s.os →
      Fr base L s'.heap (kstB m (VC n number name hday month wn wna wd wm k t0 t1 t2 t3 t4 t5 t6 t7 t8 t9 t10 T U De Dt Dh)) →
      News base L s'.heap (LCf wn wna wd wm fE fT fH u0 u1 u2 u3 k0 k1 k2 k3 k4 T U De Dt Dh (tl ps' qs')) → Q .next s') →
    wpAny (model PySem.Challenge.rw_bn0005_01.row.prog w) (callerA.deeper (lawEnv w L fa cd)) (execs (seg w 20 1) (lawEnv w L fa cd)) Q (fun _ _ => False) s := by
  k_fill
  intro B X T9 C57 C78 ht1 ht2 hb hgt F N hret
  have hgt2 := List.forall_mem_cons.mp hgt
  have hgt3 := List.forall_mem_cons.mp hgt2.2
  have hgt4 := List.forall_mem_cons.mp hgt3.2
  have hgt5 := List.forall_mem_cons.mp hgt4.2
  have hgt6 := List.forall_mem_cons.mp hgt5.2
  have g1 := ltN hgt2.1
  have g2 := ltN hgt3.1
  have g3 := ltN hgt4.1
  have g4 := ltN hgt5.1
  have g5 := ltN hgt6.1
  clear hgt hgt2 hgt3 hgt4 hgt5 hgt6
  dsimp only at g1 g2 g3 g4 g5
  delta lawEnv
  conv in (seg w 20 1) => whnf
  dsimp only [List.take]
  conv in (occs := *) (lawScope w) => all_goals whnf
  dsimp only [VC, LCf] at F N
  obtain ⟨q9, u9, e9⟩ | ⟨q9, u9, e9⟩ | ⟨⟨q5, q6, q7, q8⟩, a9, u9, r9, r8, r7, r6, e9⟩ := hv
  · have z1 : fN xE false ++ fN xT xN ≠ [] := fun e => by
      have := fN_nil.mp e
      rcases q9 with q9 | q9 | q9
      · exact absurd (hxE.mpr q9) (by rw [this.1]; decide)
      · exact absurd (hxT.mpr (.inl q9)) (by rw [this.2.2.1]; decide)
      · exact absurd (hxT.mpr (.inr q9)) (by rw [this.2.2.1]; decide)
    have z2 : (fN xE false ++ fN xT xN).any (· == ("index" : Str)) = true := by
      rw [fN_index]
      rcases q9 with q9 | q9 | q9
      · rw [hxE.mpr q9]; rfl
      · rw [hxT.mpr (.inl q9), Bool.or_true]
      · rw [hxT.mpr (.inr q9), Bool.or_true]
    subst e9
    k_steps
    all_goals (rename News base L _ _ => kN)
    all_goals (refine hret _ _ _ _ ht1 ht2 hb rfl (fr_kst (by assumption) (by kst_all)) ?_)
    all_goals (intro q hq; refine kN q ?_; repeat (first | exact hq | apply List.Mem.tail))
  · have z1 : fN xE false ++ fN xT xN ≠ [] := fun e => by
      have := fN_nil.mp e
      exact absurd (hxN.mpr q9) (by rw [this.2.2.2]; decide)
    have z2 : (fN xE false ++ fN xT xN).any (· == ("value" : Str)) = true := by
      rw [fN_value, hxN.mpr q9, Bool.or_true]
    subst e9
    k_steps
    all_goals (rename News base L _ _ => kN)
    all_goals (refine hret _ _ _ _ ht1 ht2 hb rfl (fr_kst (by assumption) (by kst_all)) ?_)
    all_goals (intro q hq; refine kN q ?_; repeat (first | exact hq | apply List.Mem.tail))
  · have z1 : fN xE false ++ fN xT xN = [] := fN_nil.mpr ⟨Bool.eq_false_iff.mpr fun e => by have := hxE.mp e; omega, rfl, Bool.eq_false_iff.mpr fun e => by have := hxT.mp e; omega, Bool.eq_false_iff.mpr fun e => by have := hxN.mp e; omega⟩
    subst e9
    k_steps
    all_goals (have e9 := tz_same hnu hnm r9 r8 r7 r6 (by assumption) (by assumption) (by assumption) (by assumption))
    all_goals first
      | (exfalso; omega)
      | skip
    all_goals (rename News base L _ _ => kN)
    all_goals (refine hret _ _ _ _ ht1 ht2 hb rfl (fr_kst (by assumption) (by kst_all)) ?_)
    all_goals (intro q hq; refine kN q ?_; repeat (first | exact hq | apply List.Mem.tail))
end Mine
end
section
namespace Mine
open PySem PySem.W PyProof.Rows in
theorem fresh_LAWH1 {M : Model} {A : Around} {E : Value → Shared → Prop} {env : Env} {Q : Flow → Shared → Prop} {s : Shared} (h : Q .next s) : wpAny M A (execs [] env) Q E s := by
  w_top off
  walk1
  exact h
end Mine
open PySem PySem.W PyProof.Rows
set_option maxRecDepth 100000
set_option maxHeartbeats 3200000
namespace Mine
local macro_rules | `(tactic| k_room) => `(tactic| ktr_room)
local macro_rules | `(tactic| k_units) => `(tactic| ktr_units)
local macro_rules | `(tactic| k_all) => `(tactic| (refine' List.forall_mem_append.mpr ⟨?a, ?b⟩; (case a => first | exact all_gt (by assumption) (by first | decide | omega) | exact all_ne (by assumption) (by omega)); (case b => k_all)))
local macro_rules | `(tactic| k_updF) => `(tactic| (refine' updF_app ?a ?b; (case a => first | exact all_gt (by assumption) (by first | decide | omega) | exact all_ne (by assumption) (by omega)); (case b => k_updF)))
local macro_rules | `(tactic| k_mem) => `(tactic| first | (refine' List.mem_append_right _ ?b; (case b => k_mem)) | exact List.mem_append_left _ (by assumption))
local macro_rules | `(tactic| walk_at "eval GeneratorExp") => `(tactic| (k_here; k_dflt (refine' gen_start ?hh rfl ?cl ?cell ?h0 ?hx rfl ?room ?_ ?hs; (case hh => rfl); (case cl => exact rfl); (case cell => decide); (case h0 => rfl); (case hx => rfl); (case room => ktr_room); (case hs => exact fun _ => rfl); k_whole)))
local macro_rules | `(tactic| walk_at "GenK") => `(tactic| (k_here; k_dflt (refine' genK_U ?hh ?F ?N ?T ?C ?U ?ht ?hb ?hr ?sm ?hn ?hcl ?mem ?hoc rfl rfl rfl ?xd ?yd ?yc ?_; (case hh => rfl); (case F => k_asm); (case N => k_asm); (case T => k_asm); (case C => exact CodeHd.keeps (by assumption) (Below.stays (by assumption))); (case U => k_updF); (case ht => assumption); (case hb => assumption); (case hr => assumption); (case sm => decide); (case hn => first | exact (show Builtin.Range.rangeSize _ _ _ = ((20 : Nat) : Int) by decide) | exact (show Builtin.Range.rangeSize _ _ _ = ((13 : Nat) : Int) by decide) | exact (show Builtin.Range.rangeSize _ _ _ = ((52 : Nat) : Int) by decide) | exact (show Builtin.Range.rangeSize _ _ _ = ((73 : Nat) : Int) by decide)); (case hcl => rfl); (case mem => k_mem); (case hoc => assumption); (case xd => decide); (case yd => decide); (case yc => decide); k_whole); intro gen' s' ps' ht' F' N' G' ho' hb'; (try dsimp only at N' G')))
local macro_rules | `(tactic| walk_at "call type:set") => `(tactic| (k_here; k_dflt (refine' setGen_U ?hh ?F ?N ?G ?hb ?hn ?_; (case hh => rfl); (case F => k_asm); (case N => k_asm); (case G => assumption); (case hb => assumption); (case hn => decide); k_whole); intro D' so' s' F' N' l1 hS' ho' hb'; (try k_lt l1)))
local macro_rules | `(tactic| walk_at "getMethod ref") => `(tactic| (k_here; k_dflt (first
  | (refine' methodV_N ?N ?m ?v ?b PySem.F.slot_set_intersection PySem.F.type_set_intersection ?_; (case N => k_asm); (case m => k_mem); (case v => assumption); (case b => decide))
  | (refine' methodK_N ?N ?m ?v PySem.F.slot_set_pop PySem.F.type_set_pop ?_; (case N => k_asm); (case m => k_mem); (case v => assumption)))))
local macro_rules | `(tactic| walk_at "call builtin:set.intersection") => `(tactic| (k_here; k_dflt (refine' inter_N ?F ?N ?ma ?mb ?ab ?sa ?sb ?na ?nb ?_; (case F => k_asm); (case N => k_asm); (case ma => k_mem); (case mb => k_mem); (case ab => k_ne); (case sa => assumption); (case sb => assumption); (case na => decide); (case nb => decide); k_whole); intro D' so' h' σ' F' N' l1 hK' hs'; (have l2 := l1); (try k_lt l1)))
local macro_rules | `(tactic| walk_at "call builtin:set.pop") => `(tactic| (k_here; k_dflt (refine' popOne_N ?F ?N ?l ?K ?ex ?_; (case F => k_asm); (case N => k_asm); (case l => assumption); (case K => assumption); (case ex => exact tz_meets (by assumption) (by assumption) (by assumption) (by assumption)); k_whole); intro h' d' t' k' F' N' hk'))
local macro_rules | `(tactic| walk_at "exec Try") => `(tactic| (k_here; (with_reducible show wpAny _ _ (exec (Stmt.Try _ (_ :: _) _ [] _) _) _ _ _); refine wpAny_Try_except ?_))
local macro_rules | `(tactic| walk_at "noteFrame ref") => `(tactic| (k_here; (rename Heap.NewExc _ _ _ _ => nx9); k_dflt (first
  | ((with_reducible show wpAny _ _ (noteFrame _ _) (fun _ s₂ => wpAny _ _ (setFlight _ none) (fun _ s₃ => wpAny _ _ (handleBy _ _ (ExceptHandler.ExceptHandler (some (Expr.Name _ _)) (some _) _ _ :: _)) _ _ s₃) _ s₂) _ _); refine' own_caughtB (X := "ValueError") (T' := "ValueError") ?K ?F ?N ?x ?XB ?TB ?D ?ex PyProof.Rows.Boot.«ValueError» ?n PySem.F.isExc_ValueError PySem.F.notTuple_ValueError ?s ?_ ?a ?b ?c ?d; (case K => assumption); (case F => assumption); (case N => assumption); (case x => assumption); (case XB => assumption); (case TB => assumption); (case D => assumption); (case ex => k_is); (case n => decide); (case s => (rw [isSubtype_type]; kernel_rfl)); (case a => rfl); (case b => rfl); (case c => rfl); (case d => decide); k_whole; intro h' g' T' eo' to' ws' tk' KT' F' N' B' X' P' D' ec' ed' e2' es')
  | (refine' own_caught0 (X := "KeyError") (T' := "KeyError") ?K ?F ?N ?x ?XB ?TB ?D ?ex PyProof.Rows.Boot.«KeyError» ?n kr_isExc_KeyError kr_notTuple_KeyError ?s ?_ ?a ?b ?c; (case K => assumption); (case F => assumption); (case N => assumption); (case x => assumption); (case XB => assumption); (case TB => assumption); (case D => assumption); (case ex => k_is); (case n => decide); (case s => (rw [isSubtype_type]; kernel_rfl)); (case a => rfl); (case b => rfl); (case c => decide); k_whole; intro h' g' T' eo' to' ws' KT' F' N' B' X' P' D' ec' ed' e2' es'))))
local macro_rules | `(tactic| walk_at "exec Raise some some") => `(tactic| (k_here; k_dflt (refine' raise_fromX (X := "ValueError") PySem.F.excCall_ValueError PySem.F.excRaise_ValueError PySem.F.excRaise_ValueError ?F ?X ?T ?ex PyProof.Rows.Boot.«ValueError» ?n ?hh ?hc ?hd ?h2 ?_ ?a ?b ?c ?d ?e; (case F => k_asm); (case X => k_asm); (case T => k_asm); (case ex => k_is); (case n => decide); (case hh => rfl); (case hc => assumption); (case hd => assumption); (case h2 => assumption); (case a => rfl); (case b => rfl); (case c => decide); (case d => rfl); (case e => rfl); k_whole)))
local macro_rules | `(tactic| walk_at "exec Raise some none") => `(tactic| (k_here; k_dflt (refine' raise_outX PySem.F.excCall_IndexError PySem.F.excRaise_IndexError ?F ?X ?T ?ex PyProof.Rows.Boot.«IndexError» ?n ?hh ?_ ?a ?b ?c ?d ?e; (case hh => rfl); (case F => k_asm); (case X => k_asm); (case T => k_asm); (case ex => k_is); (case n => decide); (case a => rfl); (case b => rfl); (case c => decide); (case d => rfl); (case e => rfl); k_whole)))
local macro_rules | `(tactic| walk_at "OutK") => `(tactic| (k_here; k_dflt (refine' outK ?l ?_; (case l => exact (show 1 ≤ sizeLine by decide)); k_whole); intro h' e' x'))
local macro_rules | `(tactic| walk_at "exec Raise some none") => `(tactic| (k_here; k_dflt (refine' raise_inX PySem.F.excCall_IndexError PySem.F.excRaise_IndexError ?F ?X ?T ?ex PyProof.Rows.Boot.«IndexError» ?n ?hh ?hd ?h2 ?_ ?a ?b ?c ?d ?e; (case hd => assumption); (case h2 => assumption); (case hh => rfl); (case F => k_asm); (case X => k_asm); (case T => k_asm); (case ex => k_is); (case n => decide); (case a => rfl); (case b => rfl); (case c => decide); (case d => rfl); (case e => rfl); k_whole)))
local macro_rules | `(tactic| walk_at "FromK") => `(tactic| (k_here; k_dflt (refine' fromK_end ?l ?K ?F ?N ?m ?n ?a ?b ?c ?d ?_; (case l => exact (show 1 ≤ sizeLine by decide)); (case K => assumption); (case F => k_asm); (case N => k_asm); (case m => k_mem); (case n => rfl); (case a => rfl); (case b => rfl); (case c => decide); (case d => rfl); k_whole); intro e' h' tk' R' U'))
local macro_rules | `(tactic| walk_at "InK") => `(tactic| (k_here; k_dflt (refine' inK_end ?l ?K ?F ?N ?m ?a ?d ?_; (case l => exact (show 1 ≤ sizeLine by decide)); (case K => assumption); (case F => k_asm); (case N => k_asm); (case m => k_mem); (case a => rfl); (case d => rfl); k_whole); intro e' h' R' U'))
local macro_rules | `(tactic| kfm_turns) => `(tactic| (refine KPc.turn ?_; kpc_if; kpc_check; refine wpAny_bind (field_zero (by rfl) (by rfl) ?_); refine wpAny_bind (wpAny_holding (wpAny_of_eq (a := _) rfl ?_)); kpc_if; refine wpAny_bind (wpAny_pure ?_); kfm_val; refine wpAny_bind (wpAny_of_eq (a := some _) rfl ?_); refine wpAny_pure ?_; refine KFm.after_field (by kpc_g) (by kpc_text) (by kpc_obj) (by kfm_len) (by kpc_obj) (by kfm_cat2) (by kfm_rest) ?_; intro _ _; kfm_turns))
local macro_rules | `(tactic| walk_at "leaving ref") => `(tactic| (k_here; k_dflt (refine' leaveX_ends ?K rfl ?x ?_; (case x => assumption); (case K => assumption); k_whole); intro h' R' U'))
local macro_rules | `(tactic| walk_at "leaving ref") => `(tactic| (k_here; k_dflt (refine' leaveX_made ?K ?F ?N rfl rfl ?x ?_; (case x => assumption); (case F => assumption); (case N => assumption); (case K => assumption); k_whole); intro h' R' U'))
local macro_rules | `(tactic| walk_at "getMethod ref") => `(tactic| (k_here; (with_reducible show wpAny _ _ (getMethod (Value.ref _) (PySem.Str.ofString "index") _) _ _ _); k_dflt (refine' topMethod_list ?F ?X ?l PySem.F.slot_list_index PySem.F.type_list_index ?_; (case F => k_asm); (case X => k_asm); (case l => k_is))))
local macro_rules | `(tactic| walk_at "call builtin:list.index") => `(tactic| (k_here; (with_reducible show wpAny _ _ (call (Value.builtin _) [Value.ref _, Value.str _ _]) _ _ _); k_dflt (first
  | (refine' topIndex_hit ?F ?X ?l ?t ?j ?s ?_; (case F => k_asm); (case X => k_asm); (case l => k_is); (case t => rfl); (case j => assumption); (case s => decide))
  | (refine' topIndex_none ?F ?X ?l ?t ?j ?s ?x ?A ?_; (case F => k_asm); (case X => k_asm); (case l => k_is); (case t => rfl); (case j => assumption); (case s => decide); (case x => assumption); (case A => rfl); intro h' tk' e' x'))))
local macro_rules | `(tactic| walk_at "call ref") => `(tactic| (k_here; (with_reducible show wpAny _ _ (call (Value.ref 123) _) _ _ _); k_dflt (refine' tm_use ?hy ?B ?F ?X ?N ?T ?hk ?XB ?TB ?c1 ?c2 ?hT ?h1 ?h2 ?hb ?hp ?hd ?hu ?m1 ?m2 ?lo ?hi ?_; (case B => k_asm); (case F => k_asm); (case X => k_asm); (case N => k_asm); (case T => k_asm); (case hk => exact rfl); (case XB => assumption); (case TB => assumption); (case c1 => assumption); (case c2 => assumption); (case hT => repeat (first | exact Tail.here | apply Tail.cons)); (case hy => exact rfl); (case h1 => assumption); (case h2 => assumption); (case hb => assumption); (case hp => repeat (first | exact List.forall_mem_nil _ | refine List.forall_mem_cons.mpr ⟨by (first | (dsimp only; assumption) | (refine ltN ?_; dsimp only; omega)), ?_⟩)); (case hd => ktr_room); (case hu => ktr_units); (case m1 => omega); (case m2 => omega); (case lo => omega); (case hi => omega); k_whole); intro v' s' ps' qs' hv' F' N' ht1' ht2' hb' ho'; (try simp only [List.cons_append, List.nil_append] at N')))
theorem lawH1 (w : World) (mean : ExcName → Option Value) (mg mb : Str → Option Value) (base : Heap) (L fa : Addr) (cd : Value) (s : Shared) (Q : Flow → Shared → Prop)
    (m : Str → Option Value) (n number name hday month wn wna wd wm k : Int) (t0 t1 t2 t3 t4 t5 t6 t7 t8 t9 t10 : Tok) (T U De Dt Dh : Addr) (fE fT fH : List Value) (u0 u1 u2 u3 : Tok) (k0 k1 k2 k3 k4 : Nat) (ps qs : Array Value)
    (hm1 : 0 ≤ wm) (hm2 : wm ≤ 19) (hlo : -2000 ≤ n) (hhi : n < 2000000000) :
    Below callerA base [] base → (Mine.hd.heap_39 w.params).In base → Top topProg LL mean mg mb base → CodeHd base 57 53 → CodeHd base 78 74 → TriplesOk ps.toList → TriplesOk qs.toList → AllBare s.gens →
    (∀ q ∈ LCf wn wna wd wm fE fT fH u0 u1 u2 u3 k0 k1 k2 k3 k4 T U De Dt Dh [], 74 < q.1) →
    Fr base L s.heap (kstB m (VC n number name hday month wn wna wd wm k t0 t1 t2 t3 t4 t5 t6 t7 t8 t9 t10 T U De Dt Dh)) →
    News base L s.heap (LCf wn wna wd wm fE fT fH u0 u1 u2 u3 k0 k1 k2 k3 k4 T U De Dt Dh (tl ps qs)) →
    (∀ (m : Str → Option Value) v s' ps' qs', TM n wm v → TriplesOk ps'.toList → TriplesOk qs'.toList → AllBare s'.gens → s'.os = s.os →
      Fr base L s'.heap (kstB m (("told", v) :: VC n number name hday month wn wna wd wm k t0 t1 t2 t3 t4 t5 t6 t7 t8 t9 t10 T U De Dt Dh)) →
      News base L s'.heap (LCf wn wna wd wm fE fT fH u0 u1 u2 u3 k0 k1 k2 k3 k4 T U De Dt Dh (tl ps' qs')) → Q .next s') →
    wpAny (model PySem.Challenge.rw_bn0005_01.row.prog w) (callerA.deeper (lawEnv w L fa cd)) (execs (seg w 21 1) (lawEnv w L fa cd)) Q (fun _ _ => False) s := by
  k_fill
  intro B X T9 C57 C78 ht1 ht2 hb hgt F N hret
  have hgt2 := List.forall_mem_cons.mp hgt
  have hgt3 := List.forall_mem_cons.mp hgt2.2
  have hgt4 := List.forall_mem_cons.mp hgt3.2
  have hgt5 := List.forall_mem_cons.mp hgt4.2
  have hgt6 := List.forall_mem_cons.mp hgt5.2
  have g1 := ltN hgt2.1
  have g2 := ltN hgt3.1
  have g3 := ltN hgt4.1
  have g4 := ltN hgt5.1
  have g5 := ltN hgt6.1
  clear hgt hgt2 hgt3 hgt4 hgt5 hgt6
  dsimp only at g1 g2 g3 g4 g5
  delta lawEnv
  conv in (seg w 21 1) => whnf
  dsimp only [List.take]
  conv in (occs := *) (lawScope w) => all_goals whnf
  dsimp only [VC, LCf] at F N
  k_steps
  all_goals (refine hret _ _ _ _ _ (by assumption) ?_ ?_ (by assumption) ?_ (fr_kst (by assumption) (by kst_all)) (by assumption))
  all_goals first | assumption | (repeat (first | rfl | refine Eq.trans (by assumption) ?_))
end Mine
end
section
namespace Mine
open PySem PySem.W PyProof.Rows in
theorem fresh_LAWH2 {M : Model} {A : Around} {E : Value → Shared → Prop} {env : Env} {Q : Flow → Shared → Prop} {s : Shared} (h : Q .next s) : wpAny M A (execs [] env) Q E s := by
  w_top off
  walk1
  exact h
end Mine
open PySem PySem.W PyProof.Rows
set_option maxRecDepth 100000
set_option maxHeartbeats 3200000
namespace Mine
local macro_rules | `(tactic| k_room) => `(tactic| ktr_room)
local macro_rules | `(tactic| k_units) => `(tactic| ktr_units)
local macro_rules | `(tactic| k_all) => `(tactic| (refine' List.forall_mem_append.mpr ⟨?a, ?b⟩; (case a => first | exact all_gt (by assumption) (by first | decide | omega) | exact all_ne (by assumption) (by omega)); (case b => k_all)))
local macro_rules | `(tactic| k_updF) => `(tactic| (refine' updF_app ?a ?b; (case a => first | exact all_gt (by assumption) (by first | decide | omega) | exact all_ne (by assumption) (by omega)); (case b => k_updF)))
local macro_rules | `(tactic| k_mem) => `(tactic| first | (refine' List.mem_append_right _ ?b; (case b => k_mem)) | exact List.mem_append_left _ (by assumption))
local macro_rules | `(tactic| walk_at "eval GeneratorExp") => `(tactic| (k_here; k_dflt (refine' gen_start ?hh rfl ?cl ?cell ?h0 ?hx rfl ?room ?_ ?hs; (case hh => rfl); (case cl => exact rfl); (case cell => decide); (case h0 => rfl); (case hx => rfl); (case room => ktr_room); (case hs => exact fun _ => rfl); k_whole)))
local macro_rules | `(tactic| walk_at "GenK") => `(tactic| (k_here; k_dflt (refine' genK_U ?hh ?F ?N ?T ?C ?U ?ht ?hb ?hr ?sm ?hn ?hcl ?mem ?hoc rfl rfl rfl ?xd ?yd ?yc ?_; (case hh => rfl); (case F => k_asm); (case N => k_asm); (case T => k_asm); (case C => exact CodeHd.keeps (by assumption) (Below.stays (by assumption))); (case U => k_updF); (case ht => assumption); (case hb => assumption); (case hr => assumption); (case sm => decide); (case hn => first | exact (show Builtin.Range.rangeSize _ _ _ = ((20 : Nat) : Int) by decide) | exact (show Builtin.Range.rangeSize _ _ _ = ((13 : Nat) : Int) by decide) | exact (show Builtin.Range.rangeSize _ _ _ = ((52 : Nat) : Int) by decide) | exact (show Builtin.Range.rangeSize _ _ _ = ((73 : Nat) : Int) by decide)); (case hcl => rfl); (case mem => k_mem); (case hoc => assumption); (case xd => decide); (case yd => decide); (case yc => decide); k_whole); intro gen' s' ps' ht' F' N' G' ho' hb'; (try dsimp only at N' G')))
local macro_rules | `(tactic| walk_at "call type:set") => `(tactic| (k_here; k_dflt (refine' setGen_U ?hh ?F ?N ?G ?hb ?hn ?_; (case hh => rfl); (case F => k_asm); (case N => k_asm); (case G => assumption); (case hb => assumption); (case hn => decide); k_whole); intro D' so' s' F' N' l1 hS' ho' hb'; (try k_lt l1)))
local macro_rules | `(tactic| walk_at "getMethod ref") => `(tactic| (k_here; k_dflt (first
  | (refine' methodV_N ?N ?m ?v ?b PySem.F.slot_set_intersection PySem.F.type_set_intersection ?_; (case N => k_asm); (case m => k_mem); (case v => assumption); (case b => decide))
  | (refine' methodK_N ?N ?m ?v PySem.F.slot_set_pop PySem.F.type_set_pop ?_; (case N => k_asm); (case m => k_mem); (case v => assumption)))))
local macro_rules | `(tactic| walk_at "call builtin:set.intersection") => `(tactic| (k_here; k_dflt (refine' inter_N ?F ?N ?ma ?mb ?ab ?sa ?sb ?na ?nb ?_; (case F => k_asm); (case N => k_asm); (case ma => k_mem); (case mb => k_mem); (case ab => k_ne); (case sa => assumption); (case sb => assumption); (case na => decide); (case nb => decide); k_whole); intro D' so' h' σ' F' N' l1 hK' hs'; (have l2 := l1); (try k_lt l1)))
local macro_rules | `(tactic| walk_at "call builtin:set.pop") => `(tactic| (k_here; k_dflt (refine' popOne_N ?F ?N ?l ?K ?ex ?_; (case F => k_asm); (case N => k_asm); (case l => assumption); (case K => assumption); (case ex => exact tz_meets (by assumption) (by assumption) (by assumption) (by assumption)); k_whole); intro h' d' t' k' F' N' hk'))
local macro_rules | `(tactic| walk_at "exec Try") => `(tactic| (k_here; (with_reducible show wpAny _ _ (exec (Stmt.Try _ (_ :: _) _ [] _) _) _ _ _); refine wpAny_Try_except ?_))
local macro_rules | `(tactic| walk_at "noteFrame ref") => `(tactic| (k_here; (rename Heap.NewExc _ _ _ _ => nx9); k_dflt (first
  | ((with_reducible show wpAny _ _ (noteFrame _ _) (fun _ s₂ => wpAny _ _ (setFlight _ none) (fun _ s₃ => wpAny _ _ (handleBy _ _ (ExceptHandler.ExceptHandler (some (Expr.Name _ _)) (some _) _ _ :: _)) _ _ s₃) _ s₂) _ _); refine' own_caughtB (X := "ValueError") (T' := "ValueError") ?K ?F ?N ?x ?XB ?TB ?D ?ex PyProof.Rows.Boot.«ValueError» ?n PySem.F.isExc_ValueError PySem.F.notTuple_ValueError ?s ?_ ?a ?b ?c ?d; (case K => assumption); (case F => assumption); (case N => assumption); (case x => assumption); (case XB => assumption); (case TB => assumption); (case D => assumption); (case ex => k_is); (case n => decide); (case s => (rw [isSubtype_type]; kernel_rfl)); (case a => rfl); (case b => rfl); (case c => rfl); (case d => decide); k_whole; intro h' g' T' eo' to' ws' tk' KT' F' N' B' X' P' D' ec' ed' e2' es')
  | (refine' own_caught0 (X := "KeyError") (T' := "KeyError") ?K ?F ?N ?x ?XB ?TB ?D ?ex PyProof.Rows.Boot.«KeyError» ?n kr_isExc_KeyError kr_notTuple_KeyError ?s ?_ ?a ?b ?c; (case K => assumption); (case F => assumption); (case N => assumption); (case x => assumption); (case XB => assumption); (case TB => assumption); (case D => assumption); (case ex => k_is); (case n => decide); (case s => (rw [isSubtype_type]; kernel_rfl)); (case a => rfl); (case b => rfl); (case c => decide); k_whole; intro h' g' T' eo' to' ws' KT' F' N' B' X' P' D' ec' ed' e2' es'))))
local macro_rules | `(tactic| walk_at "exec Raise some some") => `(tactic| (k_here; k_dflt (refine' raise_fromX (X := "ValueError") PySem.F.excCall_ValueError PySem.F.excRaise_ValueError PySem.F.excRaise_ValueError ?F ?X ?T ?ex PyProof.Rows.Boot.«ValueError» ?n ?hh ?hc ?hd ?h2 ?_ ?a ?b ?c ?d ?e; (case F => k_asm); (case X => k_asm); (case T => k_asm); (case ex => k_is); (case n => decide); (case hh => rfl); (case hc => assumption); (case hd => assumption); (case h2 => assumption); (case a => rfl); (case b => rfl); (case c => decide); (case d => rfl); (case e => rfl); k_whole)))
local macro_rules | `(tactic| walk_at "exec Raise some none") => `(tactic| (k_here; k_dflt (refine' raise_outX PySem.F.excCall_IndexError PySem.F.excRaise_IndexError ?F ?X ?T ?ex PyProof.Rows.Boot.«IndexError» ?n ?hh ?_ ?a ?b ?c ?d ?e; (case hh => rfl); (case F => k_asm); (case X => k_asm); (case T => k_asm); (case ex => k_is); (case n => decide); (case a => rfl); (case b => rfl); (case c => decide); (case d => rfl); (case e => rfl); k_whole)))
local macro_rules | `(tactic| walk_at "OutK") => `(tactic| (k_here; k_dflt (refine' outK ?l ?_; (case l => exact (show 1 ≤ sizeLine by decide)); k_whole); intro h' e' x'))
local macro_rules | `(tactic| walk_at "exec Raise some none") => `(tactic| (k_here; k_dflt (refine' raise_inX PySem.F.excCall_IndexError PySem.F.excRaise_IndexError ?F ?X ?T ?ex PyProof.Rows.Boot.«IndexError» ?n ?hh ?hd ?h2 ?_ ?a ?b ?c ?d ?e; (case hd => assumption); (case h2 => assumption); (case hh => rfl); (case F => k_asm); (case X => k_asm); (case T => k_asm); (case ex => k_is); (case n => decide); (case a => rfl); (case b => rfl); (case c => decide); (case d => rfl); (case e => rfl); k_whole)))
local macro_rules | `(tactic| walk_at "FromK") => `(tactic| (k_here; k_dflt (refine' fromK_end ?l ?K ?F ?N ?m ?n ?a ?b ?c ?d ?_; (case l => exact (show 1 ≤ sizeLine by decide)); (case K => assumption); (case F => k_asm); (case N => k_asm); (case m => k_mem); (case n => rfl); (case a => rfl); (case b => rfl); (case c => decide); (case d => rfl); k_whole); intro e' h' tk' R' U'))
local macro_rules | `(tactic| walk_at "InK") => `(tactic| (k_here; k_dflt (refine' inK_end ?l ?K ?F ?N ?m ?a ?d ?_; (case l => exact (show 1 ≤ sizeLine by decide)); (case K => assumption); (case F => k_asm); (case N => k_asm); (case m => k_mem); (case a => rfl); (case d => rfl); k_whole); intro e' h' R' U'))
local macro_rules | `(tactic| kfm_turns) => `(tactic| (refine KPc.turn ?_; kpc_if; kpc_check; refine wpAny_bind (field_zero (by rfl) (by rfl) ?_); refine wpAny_bind (wpAny_holding (wpAny_of_eq (a := _) rfl ?_)); kpc_if; refine wpAny_bind (wpAny_pure ?_); kfm_val; refine wpAny_bind (wpAny_of_eq (a := some _) rfl ?_); refine wpAny_pure ?_; refine KFm.after_field (by kpc_g) (by kpc_text) (by kpc_obj) (by kfm_len) (by kpc_obj) (by kfm_cat2) (by kfm_rest) ?_; intro _ _; kfm_turns))
local macro_rules | `(tactic| walk_at "leaving ref") => `(tactic| (k_here; k_dflt (refine' leaveX_ends ?K rfl ?x ?_; (case x => assumption); (case K => assumption); k_whole); intro h' R' U'))
local macro_rules | `(tactic| walk_at "leaving ref") => `(tactic| (k_here; k_dflt (refine' leaveX_made ?K ?F ?N rfl rfl ?x ?_; (case x => assumption); (case F => assumption); (case N => assumption); (case K => assumption); k_whole); intro h' R' U'))
local macro_rules | `(tactic| walk_at "getMethod ref") => `(tactic| (k_here; (with_reducible show wpAny _ _ (getMethod (Value.ref _) (PySem.Str.ofString "index") _) _ _ _); k_dflt (refine' topMethod_list ?F ?X ?l PySem.F.slot_list_index PySem.F.type_list_index ?_; (case F => k_asm); (case X => k_asm); (case l => k_is))))
local macro_rules | `(tactic| walk_at "call builtin:list.index") => `(tactic| (k_here; (with_reducible show wpAny _ _ (call (Value.builtin _) [Value.ref _, Value.str _ _]) _ _ _); k_dflt (first
  | (refine' topIndex_hit ?F ?X ?l ?t ?j ?s ?_; (case F => k_asm); (case X => k_asm); (case l => k_is); (case t => rfl); (case j => assumption); (case s => decide))
  | (refine' topIndex_none ?F ?X ?l ?t ?j ?s ?x ?A ?_; (case F => k_asm); (case X => k_asm); (case l => k_is); (case t => rfl); (case j => assumption); (case s => decide); (case x => assumption); (case A => rfl); intro h' tk' e' x'))))
local macro_rules | `(tactic| walk_at "binaryOp Add ref ref") => `(tactic| (k_here; k_dflt (refine' add_fl ?F ?N ?a ?b ?x ?y ?_; (case F => k_asm); (case N => k_asm); (case a => k_mem); (case b => k_mem); (case x => assumption); (case y => assumption); k_whole); intro D' h' F' N' l1 hS'; (try k_lt l1)))
local macro_rules | `(tactic| walk_at "compareOp NotEq ref ref") => `(tactic| (k_here; k_dflt (first
  | (refine' ne_fl1 ?o ?N ?a ?b ?x ?y ?u ?e ?_; (case N => k_asm); (case a => k_mem); (case b => k_mem); (case x => assumption); (case y => exact StrsAre.nil); (case e => assumption); (case o => first | exact fN_ok _ _ | exact fN_ok2 _ _ _ _); (case u => ke_room); k_whole)
  | (refine' ne_fl0 ?o ?N ?a ?b ?x ?y ?u ?e ?_; (case N => k_asm); (case a => k_mem); (case b => k_mem); (case x => assumption); (case y => exact StrsAre.nil); (case e => assumption); (case o => first | exact fN_ok _ _ | exact fN_ok2 _ _ _ _); (case u => ke_room); k_whole))))
local macro_rules | `(tactic| walk_at "compareOp NotIn str ref") => `(tactic| (k_here; k_dflt (refine' notin_fl ?N ?a ?x ?e ?_; (case N => k_asm); (case a => k_mem); (case x => assumption); (case e => first | assumption | (rw [fN_index]; rfl) | (rw [fN_value]; rfl)); k_whole)))
local macro_rules | `(tactic| walk_at "compareOp In str ref") => `(tactic| (k_here; k_dflt (refine' in_fl ?N ?a ?x ?e ?_; (case N => k_asm); (case a => k_mem); (case x => assumption); (case e => first | assumption | (rw [fN_index]; rfl) | (rw [fN_value]; rfl)); k_whole)))
local macro_rules | `(tactic| walk_at "call ref") => `(tactic| (k_here; (with_reducible show wpAny _ _ (call (Value.ref 102) _) _ _ _); k_dflt (refine' says_use (lth_says _ _ _ _ _ _ _ _ _ _ _ _ ?p1 ?p2 ?p3 ?p4 ?p5 ?p6 ?p7 ?p8 ?p9 ?p10) ?B ?F ?X ?N ?T ?hk ?hd ?hu ?_; (case B => k_asm); (case F => k_asm); (case X => k_asm); (case N => k_asm); (case T => k_asm); (case hk => exact rfl); (case hd => ktr_room); (case hu => ktr_units); (case p1 => omega); (case p2 => omega); (case p3 => omega); (case p4 => omega); (case p5 => omega); (case p6 => omega); (case p7 => omega); (case p8 => omega); (case p9 => omega); (case p10 => omega); k_whole); intro u' h' tk' F' N'))
local macro_rules | `(tactic| walk_at "call ref") => `(tactic| (k_here; (with_reducible show wpAny _ _ (call (Value.ref 130) _) _ _ _); k_dflt (refine' says_use (faults_strs _ _ _ _ _ _) ?B ?F ?X ?N ?T ?hk ?hd ?hu ?_; (case B => k_asm); (case F => k_asm); (case X => k_asm); (case N => k_asm); (case T => k_asm); (case hk => exact rfl); (case hd => ktr_room); (case hu => ktr_units); k_whole); intro D' f' kn' h' tk' hS' F' N' l1; (try k_lt l1)))
theorem lawH2 (w : World) (mean : ExcName → Option Value) (mg mb : Str → Option Value) (base : Heap) (L fa : Addr) (cd : Value) (s : Shared) (Q : Flow → Shared → Prop)
    (m : Str → Option Value) (n number name hday month wn wna wd wm k : Int) (t0 t1 t2 t3 t4 t5 t6 t7 t8 t9 t10 : Tok) (T U De Dt Dh : Addr) (xE : Bool) (fE fT fH : List Value) (u0 u1 u2 u3 : Tok) (k0 k1 k2 k3 k4 : Nat) (ps qs : Array Value) (v : Value)
    (hv : TM n wm v) (hfE : StrsAre fE (fN xE false)) (hxE : xE = true ↔ n < 0) (hh1 : hday = (n + 348) % 365 % 20) (hh2 : month = (n + 348) % 365 / 20) (hm1 : 0 ≤ wm) (hm2 : wm ≤ 19) (hlo : -2000 ≤ n) (hhi : n < 2000000000) :
    Below callerA base [] base → (Mine.hd.heap_39 w.params).In base → Top topProg LL mean mg mb base → CodeHd base 57 53 → CodeHd base 78 74 → TriplesOk ps.toList → TriplesOk qs.toList → AllBare s.gens →
    (∀ q ∈ LCf wn wna wd wm fE fT fH u0 u1 u2 u3 k0 k1 k2 k3 k4 T U De Dt Dh [], 74 < q.1) →
    Fr base L s.heap (kstB m (("told", v) :: VC n number name hday month wn wna wd wm k t0 t1 t2 t3 t4 t5 t6 t7 t8 t9 t10 T U De Dt Dh)) →
    News base L s.heap (LCf wn wna wd wm fE fT fH u0 u1 u2 u3 k0 k1 k2 k3 k4 T U De Dt Dh (tl ps qs)) →
    (∀ (m : Str → Option Value) s' ps' qs', TriplesOk ps'.toList → TriplesOk qs'.toList → AllBare s'.gens → s'.os = s.os → Fr base L s'.heap m → News base L s'.heap (tl ps' qs') → Q (.ret (.bool true)) s') →
    wpAny (model PySem.Challenge.rw_bn0005_01.row.prog w) (callerA.deeper (lawEnv w L fa cd)) (execs (seg w 22 3) (lawEnv w L fa cd)) Q (fun _ _ => False) s := by
  k_fill
  intro B X T9 C57 C78 ht1 ht2 hb hgt F N hret
  have hgt2 := List.forall_mem_cons.mp hgt
  have hgt3 := List.forall_mem_cons.mp hgt2.2
  have hgt4 := List.forall_mem_cons.mp hgt3.2
  have hgt5 := List.forall_mem_cons.mp hgt4.2
  have hgt6 := List.forall_mem_cons.mp hgt5.2
  have g1 := ltN hgt2.1
  have g2 := ltN hgt3.1
  have g3 := ltN hgt4.1
  have g4 := ltN hgt5.1
  have g5 := ltN hgt6.1
  clear hgt hgt2 hgt3 hgt4 hgt5 hgt6
  dsimp only at g1 g2 g3 g4 g5
  delta lawEnv
  conv in (seg w 22 3) => whnf
  dsimp only [List.take]
  conv in (occs := *) (lawScope w) => all_goals whnf
  dsimp only [VC, LCf] at F N
  obtain ⟨q9, u9, e9⟩ | ⟨q9, u9, e9⟩ | ⟨⟨q5, q6⟩, u9, e9⟩ := hv
  · have z0 : xE = true := hxE.mpr q9
    subst z0 e9
    have z1 : fN true false ≠ [] := by decide
    k_steps
    all_goals (rename News base L _ _ => kN)
    all_goals first | (exfalso; omega) | (show Q _ _)
    all_goals first
      | (refine hret _ _ _ _ ht1 ht2 hb rfl (by assumption) ?_)
      | (refine ret_eq (month_end hh1 hh2 hV (by omega)) (hret _ _ _ _ ht1 ht2 hb rfl (by assumption) ?_))
    all_goals (intro q hq; refine kN q ?_; repeat (first | exact hq | apply List.Mem.tail))
  · subst q9 e9
    cases xE
    · have z1 : fN false false = [] := rfl
      k_steps
      all_goals (rename News base L _ _ => kN)
      all_goals first | (exfalso; omega) | (show Q _ _)
      all_goals first
        | (refine hret _ _ _ _ ht1 ht2 hb rfl (by assumption) ?_)
        | (refine ret_eq (month_end hh1 hh2 hV (by omega)) (hret _ _ _ _ ht1 ht2 hb rfl (by assumption) ?_))
      all_goals (intro q hq; refine kN q ?_; repeat (first | exact hq | apply List.Mem.tail))
    · have z1 : fN true false ≠ [] := by decide
      k_steps
      all_goals (rename News base L _ _ => kN)
      all_goals first | (exfalso; omega) | (show Q _ _)
      all_goals first
        | (refine hret _ _ _ _ ht1 ht2 hb rfl (by assumption) ?_)
        | (refine ret_eq (month_end hh1 hh2 hV (by omega)) (hret _ _ _ _ ht1 ht2 hb rfl (by assumption) ?_))
      all_goals (intro q hq; refine kN q ?_; repeat (first | exact hq | apply List.Mem.tail))
  · have z0 : xE = false := Bool.eq_false_iff.mpr fun e => by have := hxE.mp e; omega
    generalize hV : (if (n + 348) % 365 / 20 = wm then 584283 + n + (1 - (n + 348) % 365 % 20) else 584283 + n + (20 * wm + 1 - (n + 348) % 365) % 365) = V at e9
    subst z0 e9
    have z1 : fN false false = [] := rfl
    k_steps
    all_goals (rename News base L _ _ => kN)
    all_goals first | (exfalso; omega) | (show Q _ _)
    all_goals first
      | (refine hret _ _ _ _ ht1 ht2 hb rfl (by assumption) ?_)
      | (refine ret_eq (month_end hh1 hh2 hV (by omega)) (hret _ _ _ _ ht1 ht2 hb rfl (by assumption) ?_))
    all_goals (intro q hq; refine kN q ?_; repeat (first | exact hq | apply List.Mem.tail))
end Mine
end
section
open PySem PySem.W PyProof.Rows
set_option maxRecDepth 100000
set_option maxHeartbeats 3200000
namespace Mine
theorem law_segs (w : World) : lawStmts w = seg w 0 4 ++ (seg w 4 6 ++ (seg w 10 5 ++ (seg w 15 1 ++ (seg w 16 1 ++ (seg w 17 2 ++ (seg w 19 1 ++ (seg w 20 1 ++ (seg w 21 1 ++ seg w 22 3)))))))) := by
  have e : ∀ (l : List Stmt), l.length = 25 → l = (l.drop 0).take 4 ++ ((l.drop 4).take 6 ++ ((l.drop 10).take 5 ++ ((l.drop 15).take 1 ++ ((l.drop 16).take 1 ++ ((l.drop 17).take 2 ++ ((l.drop 19).take 1 ++ ((l.drop 20).take 1 ++ ((l.drop 21).take 1 ++ (l.drop 22).take 3)))))))) := by
    intro l hl
    match l, hl with
    | [a0,a1,a2,a3,a4,a5,a6,a7,a8,a9,b0,b1,b2,b3,b4,b5,b6,b7,b8,b9,c0,c1,c2,c3,c4], _ => rfl
  exact e _ (by kernel_rfl)
theorem law_run (w : World) (mean : ExcName → Option Value) (mg mb : Str → Option Value) (base : Heap) (L fa l : Addr) (cd : Value) (s : Shared) (vs : List Value) (ns : List Int)
    (B : Below callerA base [] base) (F : Fr base L s.heap (fun (x : Str) => List.lookup x [(Str.ofString "script", Value.ref l)])) (X : (Mine.hd.heap_39 w.params).In base) (N : News base L s.heap (tl #[] #[])) (T9 : Top topProg LL mean mg mb base) (C57 : CodeHd base 57 53) (C78 : CodeHd base 78 74)
    (hl : base.IsList l vs.toArray) (hi : IntsAre vs ns) (hlen : ¬ 63 < ns.length) (hb : AllBare s.gens) :
    wpAny (model PySem.Challenge.rw_bn0005_01.row.prog w) (callerA.deeper (lawEnv w L fa cd)) (execs (lawStmts w) (lawEnv w L fa cd)) (LawQ base s.os) (fun _ _ => False) s := by
  rw [law_segs]
  have hT : TriplesOk (#[] : Array Value).toList := trivial
  refine execs_app _ (lawA w mean mg mb base L fa l cd s vs ns _ B F X N T9 hl hi hlen ?_)
  intro m D ws h1 tk1 n number name hday month t0 t1 t2 t3 t4 t5 en enu enm ehd emo hws hD F1 N1
  have hn1 : -2000 ≤ n := by omega
  have hn2 : n < 2000000000 := by omega
  clear en
  refine execs_app _ (lawB w mean mg mb base L fa cd _ ns _ m D ws n number name hday month t0 t1 t2 t3 t4 t5 B X T9 hws List.length_take hD F1 N1 ?_)
  intro m h2 tk2 wn wna wd wm k t0 t1 t2 t3 t4 t5 t6 t7 t8 t9 t10 b1 b2 b3 b4 b5 b6 b7 b8 b9 b10 b11 F2 N2
  refine execs_app _ (lawC w mean mg mb base L fa cd _ _ m n number name hday month wn wna wd wm k t0 t1 t2 t3 t4 t5 t6 t7 t8 t9 t10 b3 b4 b7 b8 B X T9 F2 N2 ?_)
  intro m h3 tk3 T U De Dt Dh xE xT xN xD xM u0 u1 u2 u3 u4 u5 u6 u7 u8 u9 k0 k1 k2 k3 k4 hxE hxT hxN hxD hxM hgt F3 N3
  have sE : StrsAre (faultsOf xE false u4 u5) (fN xE false) := fN_are xE false u4 u5
  have sT : StrsAre (faultsOf xT xN u6 u7) (fN xT xN) := fN_are xT xN u6 u7
  have sH : StrsAre (faultsOf xD xM u8 u9) (fN xD xM) := fN_are xD xM u8 u9
  refine execs_app _ (lawD w mean mg mb base L fa cd _ _ m n number name hday month wn wna wd wm k t0 t1 t2 t3 t4 t5 t6 t7 t8 t9 t10 T U De Dt Dh xE xT xN xD xM u0 u1 u2 u3 u4 u5 u6 u7 u8 u9 k0 k1 k2 k3 k4 #[] #[] b3 b4 b7 b8 b9 hn1 hn2 B X T9 C57 C78 hT hT hb hgt F3 N3 ?_)
  intro m v s4 ps4 qs4 hv4 p4 q4 hb4 ho4 F4 N4
  refine execs_app _ (lawE w mean mg mb base L fa cd s4 _ m n number name hday month wn wna wd wm k t0 t1 t2 t3 t4 t5 t6 t7 t8 t9 t10 T U De Dt Dh xT xN xD xM _ _ _ u0 u1 u2 u3 k0 k1 k2 k3 k4 ps4 qs4 v hv4 sT sH hxT hxN hxD hxM enu enm ehd emo b3 b4 b7 b8 b9 hn1 hn2 B X T9 C57 C78 p4 q4 hb4 hgt F4 N4 ?_)
  intro m s5 ps5 qs5 p5 q5 hb5 ho5 F5 N5
  refine execs_app _ (lawF w mean mg mb base L fa cd s5 _ m n number name hday month wn wna wd wm k t0 t1 t2 t3 t4 t5 t6 t7 t8 t9 t10 T U De Dt Dh xE xT xN xD xM u0 u1 u2 u3 u4 u5 u6 u7 u8 u9 k0 k1 k2 k3 k4 ps5 qs5 b10 b11 hn1 hn2 B X T9 C57 C78 p5 q5 hb5 hgt F5 N5 ?_)
  intro m s6 ps6 qs6 p6 q6 hb6 ho6 F6 N6
  refine execs_app _ (lawG1 w mean mg mb base L fa cd s6 _ m n number name hday month wn wna wd wm k t0 t1 t2 t3 t4 t5 t6 t7 t8 t9 t10 T U De Dt Dh xE xT xN xD xM u0 u1 u2 u3 u4 u5 u6 u7 u8 u9 k0 k1 k2 k3 k4 ps6 qs6 b3 b4 hn1 hn2 B X T9 C57 C78 p6 q6 hb6 hgt F6 N6 ?_)
  intro m v s7 ps7 qs7 hv7 p7 q7 hb7 ho7 F7 N7
  refine execs_app _ (lawG2 w mean mg mb base L fa cd s7 _ m n number name hday month wn wna wd wm k t0 t1 t2 t3 t4 t5 t6 t7 t8 t9 t10 T U De Dt Dh xE xT xN _ _ _ u0 u1 u2 u3 k0 k1 k2 k3 k4 ps7 qs7 v hv7 sE sT hxE hxT hxN enu enm b3 b4 hn1 hn2 B X T9 C57 C78 p7 q7 hb7 hgt F7 N7 ?_)
  intro m s8 ps8 qs8 p8 q8 hb8 ho8 F8 N8
  refine execs_app _ (lawH1 w mean mg mb base L fa cd s8 _ m n number name hday month wn wna wd wm k t0 t1 t2 t3 t4 t5 t6 t7 t8 t9 t10 T U De Dt Dh _ _ _ u0 u1 u2 u3 k0 k1 k2 k3 k4 ps8 qs8 b7 b8 hn1 hn2 B X T9 C57 C78 p8 q8 hb8 hgt F8 N8 ?_)
  intro m v s9 ps9 qs9 hv9 p9 q9 hb9 ho9 F9 N9
  refine lawH2 w mean mg mb base L fa cd s9 _ m n number name hday month wn wna wd wm k t0 t1 t2 t3 t4 t5 t6 t7 t8 t9 t10 T U De Dt Dh xE _ _ _ u0 u1 u2 u3 k0 k1 k2 k3 k4 ps9 qs9 v hv9 sE hxE ehd emo b7 b8 hn1 hn2 B X T9 C57 C78 p9 q9 hb9 hgt F9 N9 ?_
  intro m s10 ps10 qs10 p10 q10 hb10 ho10 F10 N10
  refine ⟨rfl, fun b o e => F10.keep b o e, ⟨?_, ?_, trivial⟩, ?_, hb10⟩
  · exact GrownAt.of N10 (.head _)
  · exact GrownAt.of N10 (.tail _ (.head _))
  · rw [ho10, ho9, ho8, ho7, ho6, ho5, ho4]
end Mine
end
section
namespace Mine
open PySem PySem.W PyProof.Rows in
theorem fresh_LawHead {M : Model} {A : Around} {E : Value → Shared → Prop} {env : Env} {Q : Flow → Shared → Prop} {s : Shared} (h : Q .next s) : wpAny M A (execs [] env) Q E s := by
  w_top off
  walk1
  exact h
end Mine
open PySem PySem.W PyProof.Rows
set_option maxRecDepth 100000
set_option maxHeartbeats 3200000
namespace Mine
theorem head1 : PySem.Challenge.rw_bn0005_01.Holds := hd (by
  k_fill
  intro w s₀ s₁ mg mb G Y fa o pm cd doc dV kV ho hd hcd hD hmg hg args vals as hpre hlay hrd hwl hlo
  have KX := kIn_of Y
  have X := (Ground.X G).1
  have V := (Ground.X G).2
  refine Ground.open G ?_
  intro T B D TE TW
  try (refine guard_noD D (by decide +kernel) ?_; clear D)
  have hT9 : TabsAt [(57, 53), (78, 74)] s₁.heap := List.forall_mem_cons.mpr ⟨tab_of (x := PySem.Str.ofString "_tzolkin_count") (c := 57) (P := 53) T KX rfl (by kernel_rfl), List.forall_mem_cons.mpr ⟨tab_of (x := PySem.Str.ofString "next_tzolkin_haab") (c := 78) (P := 74) T KX rfl (by kernel_rfl), fun _ h => nomatch h⟩⟩
  clear hmg
  wrow_args hpre hlay hrd hwl hlo
  all_goals (first | refine callC_kw (enter_call ?_) | refine enter_call ?_)
  all_goals w_top on
  all_goals (refine post_true hT9 (fun _ => rfl) ?_ ?_)
  case refine_1 => wrow_post
  all_goals w_call any ho hd hcd hD T F
  all_goals clear hd
  all_goals kn_ghosts F T
  all_goals (try clear T); all_goals (try clear X); all_goals (try clear V); all_goals (try clear TE); all_goals (try clear TW); all_goals (try clear B); all_goals (try clear G); all_goals (try clear Y); all_goals (try clear ho hcd)
  all_goals (rename Top topProg _ _ _ _ _ => T9; have eL : (looseW Mine.hd.view_39 [Str.ofString "HAAB", Str.ofString "TZOLKIN"] ++ List.map (fun x => x.name) (recsOf Mine.hd.view_39) ++ List.map (fun x => x.fst) (litsOf Mine.hd.view_39) ++ List.map (fun x => x.name) (clssOf Mine.hd.view_39 (looseW Mine.hd.view_39 [Str.ofString "HAAB", Str.ofString "TZOLKIN"]))) = LL := by kernel_rfl)
  all_goals (rw [eL] at T9; clear eL)
  all_goals
    (rename Below callerA _ [] _ => B9
     rename Fr _ _ _ _ => F9
     rename News _ _ _ _ => N9
     rename IntsAre _ _ => I9
     have hb9 : AllBare s₁.gens := AllBare.of_eq hg
     have e9 := law_run w _ mg mb _ _ fa _ cd { heap := _, gens := s₁.gens, drawn := s₁.drawn, toks := s₁.toks + 1, os := s₁.os } _ _ B9 F9 (by assumption) N9 T9 (by assumption) (by assumption) (by assumption) I9 (by omega) hb9
     unfold lawEnv at e9
     conv at e9 in (lawStmts w) => whnf
     conv at e9 in (occs := *) (lawScope w) => all_goals whnf
     refine wpAny_mono e9 ?_ ?_)
  · rintro f s' ⟨rfl, h1, h2, h3, h4⟩
    exact ⟨rfl, h1, h2, h3, h4⟩
  · exact fun _ _ h => absurd h id)
end Mine
end
open PySem PySem.W PyProof.Rows
set_option maxRecDepth 100000 in
set_option maxHeartbeats 8000000 in
theorem PySem.Challenge.cw_bn0005_01_holds : PySem.Challenge.rw_bn0005_01.Holds :=
  Mine.head1
