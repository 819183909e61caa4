import PyProof.Rows.All
import Wide.All
import OpenK.AllK
import Wide.FinOn
import Lean
import PySem.Challenge.RW_in0086_01
open PySem PySem.W PyProof.Rows PySem.Calls PySem.Spec
set_option Elab.async false
set_option maxRecDepth 100000
-- DateR
namespace Mine
theorem dt_mro : mroOf (.type "datetime.date") = pure [.type "datetime.date", .type "object"] := by rw [mroOf_type]; kernel_rfl
theorem dt_lookup_new : typeLookup (.type "datetime.date") "__new__" = pure (some (.builtin "datetime.date.__new__")) := by rw [typeLookup_type, builtinLookup_eq_fast]; kernel_rfl
theorem dt_slot_init : Slot "datetime.date" "__init__" "object.__init__" :=
  .of (owner := "object") (n := "__init__") (by rw [typeLookup_type, builtinLookup_eq_fast]; kernel_rfl) (by decide +kernel) (by decide +kernel) (by decide +kernel)
    (by first | exact .inl (by decide +kernel) | exact .inr (by decide +kernel)) (by rw [isSubtype_type]; kernel_rfl)
theorem dt_sub : isSubtype (.type "datetime.date") (.type "datetime.date") = pure true := by rw [isSubtype_type]; kernel_rfl
theorem dt_sub_dt : isSubtype (.type "datetime.date") (.type "datetime.datetime") = pure false := by rw [isSubtype_type]; kernel_rfl
theorem dt_called : TypeCalled "datetime.date" "datetime.date.__new__" "object.__init__" :=
  ⟨by decide +kernel, by decide +kernel, ⟨_, _, dt_mro⟩, madeBy_type dt_mro dt_lookup_new (by decide +kernel), by decide +kernel, dt_sub, dt_slot_init⟩
theorem dt_typeCall (a b c : Value) : checkTypeCall "datetime.date" ⟨[a, b, c], []⟩ = pure () := by kernel_rfl
theorem dt_newCall (a b c : Value) : checkBuiltinCall "datetime.date.__new__" ⟨[.type "datetime.date", a, b, c], []⟩ = pure () := by kernel_rfl
theorem dt_entry : entryFor table "datetime.date.__new__" = some Builtin.«datetime.date.__new__» := by first | exact entryFor_of_fast (by kernel_rfl) | exact entryFor_of_tree (by kernel_rfl)
theorem dt_initArgs (o a b c : Value) : argsOk "object.__init__" ⟨[o, a, b, c], []⟩ := by first | exact F.args_object_init_4 o a b c | kernel_rfl
theorem dt_plainAttrs : PlainAttrs "datetime.date" :=
  ⟨⟨"object.__getattribute__", by rw [typeLookup_type, builtinLookup_eq_fast]; kernel_rfl, by decide +kernel⟩, by rw [typeLookup_type, builtinLookup_eq_fast]; kernel_rfl⟩
theorem dt_slot_weekday : Slot "datetime.date" "weekday" "datetime.date.weekday" :=
  .of (owner := "datetime.date") (n := "weekday") (by rw [typeLookup_type, builtinLookup_eq_fast]; kernel_rfl) (by decide +kernel) (by decide +kernel) (by decide +kernel)
    (by first | exact .inl (by decide +kernel) | exact .inr (by decide +kernel)) dt_sub
theorem dt_type_weekday : typeOf (.builtin "datetime.date.weekday") = pure (.type "method_descriptor") := by kernel_rfl
theorem dt_entry_weekday : entryFor table "datetime.date.weekday" = some Builtin.«datetime.date.weekday» := by first | exact entryFor_of_fast (by kernel_rfl) | exact entryFor_of_tree (by kernel_rfl)
theorem dt_weekdayArgs (o : Value) : argsOk "datetime.date.weekday" ⟨[o], []⟩ := by kernel_rfl
theorem dt_bind0 (a b c : Value) : Builtin._datetime.dtBind "datetime.date.__new__" "function" ["year", "month", "day"] 0 [a, b, c] [] = pure [some a, some b, some c] := by kernel_rfl
theorem dt_cint (y : Int) (t : Tok) (h1 : -100000 < y) (h2 : y < 100000) : Builtin._datetime.dtCInt (.int y t) = pure y := by
  unfold Builtin._datetime.dtCInt
  have : asIndex (.int y t) = pure y := rfl
  rw [this]
  simp only [pure_bind]
  rw [if_neg (by simp only [Bool.or_eq_true, decide_eq_true_eq]; omega), if_neg (by omega), if_neg (by omega)]
theorem dt_bind (y : Int) (t t1 t2 : Tok) (h1 : -100000 < y) (h2 : y < 100000) :
    Builtin._datetime.dtBindInts "datetime.date.__new__" "function" ["year", "month", "day"] 3 [.int y t, .int 1 t1, .int 1 t2] [] = pure [some y, some 1, some 1] := by
  have e1 := dt_cint y t h1 h2
  have e2 : ∀ t, Builtin._datetime.dtCInt (.int 1 t) = pure 1 := fun t => rfl
  unfold Builtin._datetime.dtBindInts
  rw [dt_bind0]
  simp [List.zipIdx_cons, e1, e2, List.lookup]
section
variable {prog : Program} {w : World} {A : Around} {E : Value → Shared → Prop} {s : Shared}
abbrev dateObj (y : Int) : Obj := { cls := .type "datetime.date", data := .fields #[rawInt y, rawInt 1, rawInt 1] }
theorem dt_dim (y : Int) : Builtin._datetime.daysInMonth y 1 = 31 := by
  unfold Builtin._datetime.daysInMonth
  simp
theorem dt_new {y : Int} {t t1 t2 : Tok} {R : Result → Shared → Prop} (h1 : -100000 < y) (h2 : y < 100000)
    (hQ : wpAny (model prog w) A.in1 (Builtin._datetime.newDateRaw (.type "datetime.date") y 1 1) (fun v s' => R (.ok (.ret v)) s') (fun e s' => R (.error e) s') s) :
    codeAny (model prog w) A (.call (.builtin "datetime.date.__new__") ⟨[.type "datetime.date", .int y t, .int 1 t1, .int 1 t2], []⟩) R s := by
  have F.plain : plainId "datetime.date.__new__" = true := by decide +kernel
  refine codeAny_of_tree ?_
  show wpAny _ A.in1 (do checkBuiltinCall "datetime.date.__new__" ⟨[.type "datetime.date", .int y t, .int 1 t1, .int 1 t2], []⟩; again (.builtin "datetime.date.__new__" ⟨[.type "datetime.date", .int y t, .int 1 t1, .int 1 t2], []⟩)) _ _ s
  refine wpAny_bind (wpAny_of_eq (dt_newCall _ _ _) (wpAny_pure ⟨plainId_quiet F.plain _, codeAny_builtin dt_entry ?_⟩))
  rw [Around.under_plainId F.plain _]
  unfold Builtin.«datetime.date.__new__»
  refine wpAny_bind ?_
  unfold Builtin._datetime.dtNewClass
  refine wpAny_bind (wpAny_of_eq (a := true) rfl ?_)
  refine bm_if_false rfl ?_
  refine wpAny_bind (wpAny_of_eq dt_sub ?_)
  refine bm_if_false rfl ?_
  refine wpAny_pure ?_
  refine wpAny_bind (wpAny_of_eq dt_sub_dt ?_)
  refine bm_if_false rfl ?_
  dsimp only
  refine wpAny_bind (wpAny_of_eq (dt_bind y t t1 t2 h1 h2) ?_)
  dsimp only
  refine wpAny_bind (wpAny_mono hQ (fun v s' h => wpAny_pure h) fun _ _ h => h)
theorem dt_raw_ok {y : Int} {Q E : Value → Shared → Prop} (h1 : 1 ≤ y) (h2 : y ≤ 9999)
    (hQ : Q (.ref s.heap.objs.size) { s with heap := s.heap.push (dateObj y) }) :
    wpAny (model prog w) A (Builtin._datetime.newDateRaw (.type "datetime.date") y 1 1) Q E s := by
  unfold Builtin._datetime.newDateRaw
  refine wpAny_bind (wpAny_of_eq (a := ()) ?_ ?_)
  · unfold Builtin._datetime.checkDate
    rw [dt_dim]
    rw [if_neg (by simp only [Bool.or_eq_true, decide_eq_true_eq]; omega), if_neg (by decide), if_neg (by decide)]
  · exact wpAny_newObj_type hQ
theorem dt_raw_bad {y : Int} {Q E : Value → Shared → Prop} (h : y = -1 ∨ y = 0 ∨ y = 10000 ∨ y = 10001) (hh : A.handled = none)
    (hE : ∀ h' tk e, Heap.NewExc s.heap h' e "ValueError" → E (.ref e) { s with heap := h', toks := tk }) :
    wpAny (model prog w) A (Builtin._datetime.newDateRaw (.type "datetime.date") y 1 1) Q E s := by
  unfold Builtin._datetime.newDateRaw
  refine wpAny_bind ?_
  unfold Builtin._datetime.checkDate
  rw [if_pos (by simp only [Bool.or_eq_true, decide_eq_true_eq]; omega)]
  refine wpAny_bind (wpAny_rule ?_)
  refine wpAny_bind (wpAny_raiseErrorMade plainExc_ValueError hh hE ?_)
  rcases h with rfl | rfl | rfl | rfl <;> decide +kernel
theorem call_date_ok {y : Int} {t t1 t2 : Tok} {Q : Value → Shared → Prop} (h1 : 1 ≤ y) (h2 : y ≤ 9999)
    (hQ : Q (.ref s.heap.objs.size) { s with heap := s.heap.push (dateObj y) }) :
    wpAny (model prog w) A (call (.type "datetime.date") [.int y t, .int 1 t1, .int 1 t2]) Q E s := by
  refine callType_codes (Q₁ := fun obj s₁ => s₁.TypeIs obj "datetime.date" ∧ Q obj s₁) dt_called (dt_typeCall _ _ _) F.entry_object_init
    (dt_new (by omega) (by omega) (dt_raw_ok h1 h2 ⟨⟨_, Heap.get?_push_size _ rfl, rfl⟩, hQ⟩)) fun obj s₁ h₁ => ?_
  exact ⟨h₁.1, dt_initArgs obj _ _ _, object_init_meets dt_called.init.lookup dt_called.made (by decide) prog w A.in1 _ s₁ ⟨h₁.1, rfl, h₁.2⟩⟩
theorem call_date_bad {y : Int} {t t1 t2 : Tok} {Q : Value → Shared → Prop} (h : y = -1 ∨ y = 0 ∨ y = 10000 ∨ y = 10001) (hh : A.handled = none)
    (hE : ∀ h' tk e, Heap.NewExc s.heap h' e "ValueError" → E (.ref e) { s with heap := h', toks := tk }) :
    wpAny (model prog w) A (call (.type "datetime.date") [.int y t, .int 1 t1, .int 1 t2]) Q E s := by
  refine callType_codes (Q₁ := fun obj s₁ => False) dt_called (dt_typeCall _ _ _) F.entry_object_init
    (dt_new (by omega) (by omega) (dt_raw_bad h hh hE)) fun obj s₁ h₁ => h₁.elim
theorem dt_weekday_meets (a : Addr) (y : Int) : Meets (Builtin.«datetime.date.weekday» ⟨[.ref a], []⟩)
    (fun _ R s => s.heap.get? a = some (dateObj y) ∧ ∀ tk, R (.ok (.ret (.int (Builtin._datetime.weekdayOf (Builtin._datetime.toOrdinal y 1 1)) tk))) { s with toks := s.toks + 1 }) := by
  refine Meets.of_wp fun prog w A R s hs => ?_
  obtain ⟨ha, hR⟩ := hs
  have hT : s.TypeIs (.ref a) "datetime.date" := ⟨_, ha, rfl⟩
  have hn : s!"date.{"weekday"}" = "date.weekday" := by decide +kernel
  show wpAny _ _ (do
    let (y, m, d) ← Builtin._datetime.dateParts (← selfOnly s!"date.{"weekday"}" ⟨[.ref a], []⟩)
    retInt (Builtin._datetime.weekdayOf (Builtin._datetime.toOrdinal y m d))) _ _ _
  rw [hn]
  refine wpAny_bind (wpAny_of_eq (a := Value.ref a) (by kernel_rfl) ?_)
  refine wpAny_bind ?_
  unfold Builtin._datetime.dateParts Builtin._datetime.dateParts?
  refine wpAny_bind (wpAny_bind (wpAny_isInstance hT dt_sub ?_))
  refine bm_if_false rfl ?_
  unfold fieldsOf
  refine wpAny_bind (wpAny_bind (wpAny_load ha ?_))
  refine wpAny_pure ?_
  refine wpAny_pure ?_
  refine wpAny_pure ?_
  refine wpAny_bind (wpAny_mkInt ?_)
  exact wpAny_pure ⟨_, rfl, hR _⟩
theorem weekday_method {a : Addr} {y : Int} {pl : Sem Bool} {Q : Value × List Value → Shared → Prop} (ha : s.heap.get? a = some (dateObj y))
    (h : Q (.builtin "datetime.date.weekday", [.ref a]) s) : wpAny (model prog w) A (getMethod (.ref a) "weekday" pl) Q E s :=
  getMethod_builtin ⟨_, ha, rfl⟩ dt_plainAttrs dt_slot_weekday dt_type_weekday (fun b e => by cases e; exact ⟨_, ha, rfl⟩) h
theorem weekday_call {a : Addr} {y : Int} {Q : Value → Shared → Prop} (ha : s.heap.get? a = some (dateObj y))
    (h : ∀ tk, Q (.int (Builtin._datetime.weekdayOf (Builtin._datetime.toOrdinal y 1 1)) tk) { s with toks := s.toks + 1 }) :
    wpAny (model prog w) A (call (.builtin "datetime.date.weekday") [.ref a]) Q E s :=
  call_meets dt_slot_weekday ⟨_, ha, rfl⟩ dt_entry_weekday (dt_weekdayArgs _) (dt_weekday_meets a y) ⟨ha, h⟩

/-- the weekday of 1 January of a year -/
def wd (y : Int) : Int := Builtin._datetime.weekdayOf (Builtin._datetime.toOrdinal y 1 1)
theorem wd_range (y : Int) : 0 ≤ wd y ∧ wd y < 7 := by unfold wd Builtin._datetime.weekdayOf; omega

variable {h₀ : Heap} {L : Addr} {m : Str → Option Value} {news : List (Addr × Obj)}
theorem date_K {y : Int} {t t1 t2 : Tok} {Q : Value → Shared → Prop} (F : Fr h₀ L s.heap m) (N : News h₀ L s.heap news) (h1 : 1 ≤ y) (h2 : y ≤ 9999)
    (h : ∀ D h', Fr h₀ L h' m → News h₀ L h' ((D, dateObj y) :: news) → (∀ q ∈ news, q.1 < D) → Q (.ref D) { s with heap := h' }) :
    wpAny (model prog w) A (call (.type "datetime.date") [.int y t, .int 1 t1, .int 1 t2]) Q E s := by
  have hk : ∀ b o, s.heap.get? b = some o → (s.heap.push (dateObj y)).get? b = some o := fun b o hb => Heap.get?_push_of_some _ hb
  exact call_date_ok h1 h2 (h _ _ (F.keeps hk) (news_pushed F N hk (Heap.get?_push_size _ rfl) rfl) fun q hq => Heap.lt_size (N q hq).1)
theorem weekday_method_K {D : Addr} {y : Int} {pl : Sem Bool} {Q : Value × List Value → Shared → Prop} (N : News h₀ L s.heap news) (hm : (D, dateObj y) ∈ news)
    (h : Q (.builtin "datetime.date.weekday", [.ref D]) s) : wpAny (model prog w) A (getMethod (.ref D) "weekday" pl) Q E s := weekday_method (N _ hm).1 h
theorem weekday_call_K {D : Addr} {y : Int} {Q : Value → Shared → Prop} (N : News h₀ L s.heap news) (hm : (D, dateObj y) ∈ news)
    (h : ∀ tk, 0 ≤ wd y → wd y < 7 → Q (.int (wd y) tk) { s with toks := s.toks + 1 }) :
    wpAny (model prog w) A (call (.builtin "datetime.date.weekday") [.ref D]) Q E s := weekday_call (N _ hm).1 fun tk => h tk (wd_range y).1 (wd_range y).2
end
end Mine
-- Plain
namespace Mine
def wdF (y : Int) : Int := ((y - 1) * 365 + (y - 1) / 4 - (y - 1) / 100 + (y - 1) / 400 + 7) % 7
theorem wd_eq (y : Int) : wd y = wdF y := by
  have h : Builtin.Time.timeDaysBefore (Builtin.Time.timeIsLeap y) 1 = 0 := by
    unfold Builtin.Time.timeDaysBefore
    simp
  unfold wd wdF Builtin._datetime.weekdayOf Builtin._datetime.toOrdinal
  simp only [h]
  omega
theorem wd_zero : wd 0 = 5 := by rw [wd_eq]; decide
theorem wd_mod (y : Int) : wd (y % 400) = wd y := by
  rw [wd_eq, wd_eq]
  unfold wdF
  have e : y = 400 * (y / 400) + y % 400 := by omega
  generalize hq : y / 400 = q at e
  generalize hr : y % 400 = r at e
  have h0 : 0 ≤ r := by omega
  have h1 : r < 400 := by omega
  subst e
  have a : (400 * q + r - 1) / 4 = 100 * q + (r - 1) / 4 := by omega
  have b : (400 * q + r - 1) / 100 = 4 * q + (r - 1) / 100 := by omega
  have c : (400 * q + r - 1) / 400 = q + (r - 1) / 400 := by omega
  rw [a, b, c]
  generalize (r - 1) / 4 = x
  generalize (r - 1) / 100 = y
  generalize (r - 1) / 400 = z
  omega
theorem wd_steps : ∀ n : Nat, n < 400 → wdF ((n : Int) + 1) = (wdF n + (if (n : Int) = 0 ∨ ((n : Int) % 4 = 0 ∧ ¬ (n : Int) % 100 = 0) then 366 else 365)) % 7 := by decide +kernel
theorem wd_step {y : Int} (h0 : 0 ≤ y) (h1 : y < 400) : wd (y + 1) = (wd y + (if y = 0 ∨ (y % 4 = 0 ∧ ¬ y % 100 = 0) then 366 else 365)) % 7 := by
  have h := wd_steps y.toNat (by omega)
  rw [Int.toNat_of_nonneg h0] at h
  rw [wd_eq, wd_eq]
  exact h
theorem wd_leap {y : Int} (h0 : 0 ≤ y) (h1 : y < 400) (h : y = 0 ∨ (y % 4 = 0 ∧ ¬ y % 100 = 0)) : wd (y + 1) = (wd y + 366) % 7 := by rw [wd_step h0 h1, if_pos h]
theorem wd_plain {y : Int} (h0 : 0 ≤ y) (h1 : y < 400) (h : ¬ (y = 0 ∨ (y % 4 = 0 ∧ ¬ y % 100 = 0))) : wd (y + 1) = (wd y + 365) % 7 := by rw [wd_step h0 h1, if_neg h]
/-- every item of the row is the weekday of its year's 1 January -/
def RowsOk (row : List Int) : Prop := ∀ i : Nat, i < row.length → row.getD i 0 = wd i
theorem rowsOk_five : RowsOk [5] := by
  intro i hi
  obtain rfl : i = 0 := by simp at hi; omega
  exact wd_zero.symm
theorem rowsOk_snoc {row : List Int} {v : Int} (h : RowsOk row) (hv : v = wd (row.length : Int)) : RowsOk (row ++ [v]) := by
  intro i hi
  by_cases hlt : i < row.length
  · rw [List.getD_eq_getElem?_getD, List.getElem?_append_left hlt, ← List.getD_eq_getElem?_getD]
    exact h i hlt
  · have : i = row.length := by simp at hi; omega
    subst this
    rw [List.getD_eq_getElem?_getD, List.getElem?_append_right (Nat.le_refl _)]
    simp [hv]
end Mine
-- Forms
namespace Mine
def beginF (f s w : Int) : Int := if w = 0 then 1 - (f - s) % 7 else 1 + (s - f) % 7 + 7 * (w - 1)
def calcF (y w d : Int) (m : Bool) : Int :=
  if m = true then (if w = 0 then 1 + d - wd y else 1 + ((7 - wd y) % 7 + 7 * (w - 1)) + d)
  else (if w = 0 then 1 + (d + 1) % 7 - (wd y + 1) % 7 else 1 + ((7 - (wd y + 1) % 7) % 7 + 7 * (w - 1)) + (d + 1) % 7)
theorem row_turn {row pre : List Int} {k d : Int} (hl : row.length = pre.length + 1) (hr : RowsOk row) (he : k = 0 + (pre.length : Int)) (hlt : pre.length < (399 - 0 : Int).toNat)
    (hd : d = if k = 0 ∨ (k % 4 = 0 ∧ ¬ k % 100 = 0) then 366 else 365) :
    (row ++ [(row.getD (-1 + (row.length : Int)).toNat 0 + d).fmod 7]).length = (pre ++ [k]).length + 1 ∧ RowsOk (row ++ [(row.getD (-1 + (row.length : Int)).toNat 0 + d).fmod 7]) := by
  refine ⟨by simp [hl], rowsOk_snoc hr ?_⟩
  have e : (-1 + (row.length : Int)).toNat = pre.length := by omega
  rw [e, hr pre.length (by omega), Int.fmod_eq_emod_of_nonneg _ (by decide), hd, hl]
  have hk : k = (pre.length : Int) := by omega
  rw [hk]
  rw [← wd_step (by omega) (by omega)]
  congr 1
theorem row_turn0 {row pre : List Int} {k : Int} (h : k = 0) (hl : row.length = pre.length + 1) (hr : RowsOk row) (he : k = 0 + (pre.length : Int)) (hlt : pre.length < (399 - 0 : Int).toNat) :
    (row ++ [(row.getD (-1 + (row.length : Int)).toNat 0 + 366).fmod 7]).length = (pre ++ [k]).length + 1 ∧ RowsOk (row ++ [(row.getD (-1 + (row.length : Int)).toNat 0 + 366).fmod 7]) :=
  row_turn hl hr he hlt (by rw [if_pos (.inl h)])
theorem row_turn1 {row pre : List Int} {k : Int} (h : k.fmod 4 = 0) (h' : k.fmod 100 ≠ 0) (hl : row.length = pre.length + 1) (hr : RowsOk row) (he : k = 0 + (pre.length : Int)) (hlt : pre.length < (399 - 0 : Int).toNat) :
    (row ++ [(row.getD (-1 + (row.length : Int)).toNat 0 + 366).fmod 7]).length = (pre ++ [k]).length + 1 ∧ RowsOk (row ++ [(row.getD (-1 + (row.length : Int)).toNat 0 + 366).fmod 7]) := by
  rw [Int.fmod_eq_emod_of_nonneg _ (by decide)] at h h'
  exact row_turn hl hr he hlt (by rw [if_pos (.inr ⟨h, h'⟩)])
theorem row_turn2 {row pre : List Int} {k : Int} (h0 : k ≠ 0) (h : k.fmod 4 = 0) (h' : k.fmod 100 = 0) (hl : row.length = pre.length + 1) (hr : RowsOk row) (he : k = 0 + (pre.length : Int)) (hlt : pre.length < (399 - 0 : Int).toNat) :
    (row ++ [(row.getD (-1 + (row.length : Int)).toNat 0 + 365).fmod 7]).length = (pre ++ [k]).length + 1 ∧ RowsOk (row ++ [(row.getD (-1 + (row.length : Int)).toNat 0 + 365).fmod 7]) := by
  rw [Int.fmod_eq_emod_of_nonneg _ (by decide)] at h h'
  exact row_turn hl hr he hlt (by rw [if_neg (by omega)])
theorem row_turn3 {row pre : List Int} {k : Int} (h0 : k ≠ 0) (h : k.fmod 4 ≠ 0) (hl : row.length = pre.length + 1) (hr : RowsOk row) (he : k = 0 + (pre.length : Int)) (hlt : pre.length < (399 - 0 : Int).toNat) :
    (row ++ [(row.getD (-1 + (row.length : Int)).toNat 0 + 365).fmod 7]).length = (pre ++ [k]).length + 1 ∧ RowsOk (row ++ [(row.getD (-1 + (row.length : Int)).toNat 0 + 365).fmod 7]) := by
  rw [Int.fmod_eq_emod_of_nonneg _ (by decide)] at h
  exact row_turn hl hr he hlt (by rw [if_neg (by omega)])
theorem row_start : [(5 : Int)].length = ([] : List Int).length + 1 ∧ RowsOk [5] := ⟨rfl, rowsOk_five⟩
end Mine
namespace Mine
theorem calc_begin {y wk st f k : Int} (hf : f = wd y) (hs : st = 0 ∨ st = 6) (h0 : 0 ≤ k) (h7 : k < 7) :
    calcF y wk ((st + k).fmod 7) (st == 0) = beginF f st wk + k := by
  have hr := wd_range y
  rw [Int.fmod_eq_emod_of_nonneg _ (by decide), hf]
  unfold calcF beginF
  generalize wd y = v at hr
  obtain ⟨a, b⟩ := hr
  rcases hs with rfl | rfl
  · rw [if_pos (by decide)]
    by_cases hw : wk = 0
    · rw [if_pos hw, if_pos hw]; omega
    · rw [if_neg hw, if_neg hw]; omega
  · rw [if_neg (by decide)]
    by_cases hw : wk = 0
    · rw [if_pos hw, if_pos hw]; omega
    · rw [if_neg hw, if_neg hw]; omega
theorem not_bne {a b : Int} (h : a = b) : ¬ ((a != b) = true) := by simp [h]
theorem not_dec {a b : Int} (h : a = b) : ¬ (decide (a ≠ b) = true) := by simp [h]
end Mine
-- Ground
namespace Mine
/-! a loop over a short written range in a def that catches: the ground (the caller's frame) may turn between the turns -/
def GEnd (fs : List Addr) (g₀ : Heap) (L : Addr) (s₁ : Shared) (I : Addr) (it : Obj) (rest : (Str → Option Value) → List (Addr × Obj) → Prop) (s₂ : Shared) : Prop :=
  ∃ g' h' tk m' news', KtsTurn fs g₀ g' ∧ s₂ = { s₁ with heap := h', toks := tk } ∧ Fr g' L h' m' ∧ News g' L h' ((I, it) :: news') ∧ (∀ p ∈ news', p.1 ≠ I) ∧ rest m' news'
def GPost (fs : List Addr) (g₀ : Heap) (L : Addr) (s₁ : Shared) (I : Addr) (it : Obj) (rest : (Str → Option Value) → List (Addr × Obj) → Prop) (Q : Flow → Shared → Prop) (f : Flow) (s₂ : Shared) : Prop :=
  match f with
  | .ret v => Q (.ret v) s₂
  | .brk => Q .next s₂
  | _ => GEnd fs g₀ L s₁ I it rest s₂
section
variable {prog : Program} {w : World} {A : Around} {E : Value → Shared → Prop} {s : Shared} {env : Env} {x : Str} {body : List Stmt} {Q : Flow → Shared → Prop}
noncomputable def GRest (prog : Program) (w : World) (A : Around) (E : Value → Shared → Prop) (fs : List Addr) (g₀ : Heap) (Inv : Heap → Prop) (env : Env) (x : Str) (body : List Stmt) (Q : Flow → Shared → Prop) (s : Shared) (I : Addr) (a : Int) (n : Nat) : Nat → Nat → (Str → Option Value) → List (Addr × Obj) → Prop
  | 0, _, m, news => ∀ g h tk, KtsTurn fs g₀ g → Inv g → Fr g env.locals h m → News g env.locals h news → Q .next { s with heap := h, toks := tk }
  | k + 1, i, m, news => ∀ g t h tk, KtsTurn fs g₀ g → Inv g → Fr g env.locals h (fun y => if y = x then some (.int (a + (i : Int)) t) else m y) →
      News g env.locals h ((I, itR (a + ((i + 1 : Nat) : Int)) ((n : Int) - ((i + 1 : Nat) : Int))) :: news) →
      wpAny (model prog w) A (execs body env) (GPost fs g₀ env.locals { s with heap := h, toks := tk } I (itR (a + ((i + 1 : Nat) : Int)) ((n : Int) - ((i + 1 : Nat) : Int))) (GRest prog w A E fs g₀ Inv env x body Q s I a n k (i + 1)) Q) E { s with heap := h, toks := tk }
theorem GRest.zero {fs : List Addr} {g₀ : Heap} {Inv : Heap → Prop} {I : Addr} {a : Int} {n i : Nat} {m : Str → Option Value} {news : List (Addr × Obj)}
    (h : ∀ g h tk, KtsTurn fs g₀ g → Inv g → Fr g env.locals h m → News g env.locals h news → Q .next { s with heap := h, toks := tk }) :
    GRest prog w A E fs g₀ Inv env x body Q s I a n 0 i m news := h
theorem GRest.succ {fs : List Addr} {g₀ : Heap} {Inv : Heap → Prop} {I : Addr} {a : Int} {n k i : Nat} {m : Str → Option Value} {news : List (Addr × Obj)}
    (h : ∀ g t h tk, KtsTurn fs g₀ g → Inv g → Fr g env.locals h (fun y => if y = x then some (.int (a + (i : Int)) t) else m y) →
      News g env.locals h ((I, itR (a + ((i + 1 : Nat) : Int)) ((n : Int) - ((i + 1 : Nat) : Int))) :: news) →
      wpAny (model prog w) A (execs body env) (GPost fs g₀ env.locals { s with heap := h, toks := tk } I (itR (a + ((i + 1 : Nat) : Int)) ((n : Int) - ((i + 1 : Nat) : Int))) (GRest prog w A E fs g₀ Inv env x body Q s I a n k (i + 1)) Q) E { s with heap := h, toks := tk }) :
    GRest prog w A E fs g₀ Inv env x body Q s I a n (k + 1) i m news := h

theorem g_down {Lc L : Addr} {g₀ g h : Heap} {m : Str → Option Value} {oL : Obj} {all : List (Addr × Obj)} (hL : g₀.get? Lc = some oL) (T : KtsTurn [Lc] g₀ g) (F : Fr g L h m) (N : News g L h all) :
    ∃ sl, Fr (hideAll g₀ [Lc]) L h m ∧ News (hideAll g₀ [Lc]) L h ((Lc, { oL with slots := sl }) :: all) := by
  obtain ⟨sl, hs⟩ := T.frame Lc oL hL (.head _)
  have hid : (hideAll g₀ [Lc]).get? Lc = none := hideAll_none _ (.head _)
  refine ⟨sl, ⟨F.ns, fun b o e => F.keep b o (T.other b o (of_hideAll _ e) fun hm => ?_), ?_⟩, fun p hp => ?_⟩
  · rw [List.mem_singleton.mp hm, hid] at e
    cases e
  · rw [hideAll_size, ← T.size]
    exact F.above
  · rcases List.mem_cons.mp hp with rfl | hp
    · exact ⟨F.keep _ _ hs, (fun q => by
        have q' : Lc = L := q
        have := kts_self F
        rw [← q', hs] at this
        cases this), hid⟩
    · refine ⟨(N p hp).1, (N p hp).2.1, ?_⟩
      cases q : (hideAll g₀ [Lc]).get? p.1 with
      | none => rfl
      | some o =>
        obtain ⟨sl', hs'⟩ := T.up (of_hideAll _ q)
        have := (N p hp).2.2
        rw [hs'] at this
        cases this
theorem g_up {Lc L : Addr} {g₀ h : Heap} {m : Str → Option Value} {oL : Obj} {sl : Array (Option Value)} {all : List (Addr × Obj)} (hL : g₀.get? Lc = some oL) (F : Fr (hideAll g₀ [Lc]) L h m)
    (hs : h.get? Lc = some { oL with slots := sl }) (N : News (hideAll g₀ [Lc]) L h all) (off : ∀ p ∈ all, p.1 ≠ Lc) :
    ∃ g, KtsTurn [Lc] g₀ g ∧ Fr g L h m ∧ News g L h all := by
  obtain ⟨T, S⟩ := kts_turn_at (h := h) (fs := [Lc]) (g := g₀) (fun b hb => ⟨oL, by rw [List.mem_singleton.mp hb]; exact hL⟩)
    (fun b o e nm => F.keep b o (hideAll_get _ e nm))
    (fun b o e hm => by
      rw [List.mem_singleton.mp hm] at e ⊢
      rw [hL] at e
      cases e
      exact ⟨sl, hs⟩)
  refine ⟨_, T, ⟨F.ns, S, ?_⟩, fun p hp => ⟨(N p hp).1, (N p hp).2.1, T.none_ _ ?_⟩⟩
  · rw [T.size, ← hideAll_size [Lc] g₀]
    exact F.above
  · cases q : g₀.get? p.1 with
    | none => rfl
    | some o =>
      have := hideAll_get [Lc] q (fun hm => off p hp (List.mem_singleton.mp hm))
      rw [(N p hp).2.2] at this
      cases this

theorem rest_of_G {Lc I : Addr} {g₀ : Heap} {Inv : Heap → Prop} {oL : Obj} {a : Int} {n : Nat} (hL : g₀.get? Lc = some oL) (hI : I ≠ Lc) (hinv : ∀ g, KtsTurn [Lc] g₀ g → Inv g) :
    ∀ (k i : Nat) (m : Str → Option Value) (news : List (Addr × Obj)) (sl : Array (Option Value)), (∀ p ∈ news, p.1 ≠ Lc) → GRest prog w A E [Lc] g₀ Inv env x body Q s I a n k i m news →
      RangeRest prog w A E (hideAll g₀ [Lc]) env x body Q s I a n k i m ((Lc, { oL with slots := sl }) :: news)
  | 0, i, m, news, sl, off, r => RangeRest.zero fun h tk F N => by
    obtain ⟨g, T, F', N'⟩ := g_up hL F (N _ (.head _)).1 (fun p hp => N p (.tail _ hp)) off
    exact r g h tk T (hinv g T) F' N'
  | k + 1, i, m, news, sl, off, r => RangeRest.succ fun t h tk F N => by
    obtain ⟨g, T, F', N'⟩ := g_up (all := (I, itR (a + ((i + 1 : Nat) : Int)) ((n : Int) - ((i + 1 : Nat) : Int))) :: news) hL F (N _ (.tail _ (.head _))).1
      (fun p hp => by
        rcases List.mem_cons.mp hp with rfl | hp
        · exact N _ (.head _)
        · exact N p (.tail _ (.tail _ hp)))
      (fun p hp => by
        rcases List.mem_cons.mp hp with rfl | hp
        · exact hI
        · exact off p hp)
    refine wpAny_mono (r g t h tk T (hinv g T) F' N') (fun f s₂ p => ?_) fun _ _ e => e
    have fin : GEnd [Lc] g₀ env.locals { s with heap := h, toks := tk } I (itR (a + ((i + 1 : Nat) : Int)) ((n : Int) - ((i + 1 : Nat) : Int))) (GRest prog w A E [Lc] g₀ Inv env x body Q s I a n k (i + 1)) s₂ →
        UnrEnd (hideAll g₀ [Lc]) env.locals { s with heap := h, toks := tk } I (itR (a + ((i + 1 : Nat) : Int)) ((n : Int) - ((i + 1 : Nat) : Int))) (RangeRest prog w A E (hideAll g₀ [Lc]) env x body Q s I a n k (i + 1)) s₂ := by
      rintro ⟨g', h', tk', m', news', T', e, F₂, N₂, off', r'⟩
      obtain ⟨sl', F₃, N₃⟩ := g_down hL T' F₂ N₂
      have hlc : ∀ p ∈ news', p.1 ≠ Lc := fun p hp q => by
        obtain ⟨sl₂, hs₂⟩ := T'.frame Lc oL hL (.head _)
        have := (N₂ p (.tail _ hp)).2.2
        rw [q, hs₂] at this
        cases this
      refine ⟨h', tk', m', (Lc, { oL with slots := sl' }) :: news', e, F₃, fun p hp => ?_, fun p hp => ?_, rest_of_G hL hI hinv k (i + 1) m' news' sl' hlc r'⟩
      · rcases List.mem_cons.mp hp with rfl | hp
        · exact N₃ _ (.tail _ (.head _))
        · rcases List.mem_cons.mp hp with rfl | hp
          · exact N₃ _ (.head _)
          · exact N₃ p (.tail _ (.tail _ hp))
      · rcases List.mem_cons.mp hp with rfl | hp
        · exact fun q => hI q.symm
        · exact off' p hp
    cases f with
    | ret v => exact p
    | brk => exact p
    | next => exact fin p
    | cont => exact fin p

theorem iter_G {Lc r : Addr} {fs : List Addr} {g₀ : Heap} {Inv : Heap → Prop} {a₀ b₀ : Int} {t₀ u₀ v₀ : Tok} {n : Nat} {m₀ : Str → Option Value} {news : List (Addr × Obj)} (hfs : fs = [Lc]) (D : KtsDicts fs g₀)
    (hh : A.handled = none) (hr : IsRange s.heap r a₀ b₀ 1 t₀ u₀ v₀) (hsmall : Builtin.Range.small a₀ b₀ 1 = true) (hn : Builtin.Range.rangeSize a₀ b₀ 1 = (n : Int)) (F : Fr g₀ env.locals s.heap m₀) (N : News g₀ env.locals s.heap news)
    (hinv : ∀ g, KtsTurn fs g₀ g → Inv g)
    (rest₀ : ∀ I : Addr, (∀ p ∈ news, p.1 < I) → GRest prog w A E fs g₀ Inv env x body Q s I a₀ n n 0 m₀ news) :
    wpAny (model prog w) A (pyIter (.ref r)) (fun it s₂ => LoopAtV prog w A (hideAll g₀ fs) env x body Q E it s₂) E s := by
  subst hfs
  obtain ⟨oL, es, k, hL, _⟩ := D Lc (.head _)
  obtain ⟨sl, F', N'⟩ := g_down hL KtsTurn.refl F N
  refine iter_rangeUnr hh hr hsmall hn F' N' fun I hI => rest_of_G hL (Nat.ne_of_gt (hI _ (.head _))) hinv n 0 m₀ news sl (fun p hp q => ?_) (rest₀ I fun p hp => hI p (.tail _ hp))
  have := (N p hp).2.2
  rw [q, hL] at this
  cases this
theorem for_G {g₀ : Heap} {fs : List Addr} {m : Str → Option Value} {px pos : Pos} {iter : Expr} (_F : Fr g₀ env.locals s.heap m) (_D : KtsDicts fs g₀) (hx : env.kindOf x = some .local)
    (hp : (env.scope.kind == .class || (env.scope.kind == .module && env.locals != env.globals)) = false)
    (h : wpAny (model prog w) A (eval iter env) (fun xv s₁ => wpAny (model prog w) A (pyIter xv) (fun it s₂ => LoopAtV prog w A (hideAll g₀ fs) env x body Q E it s₂) E s₁) E s)
    (hs : ∀ x, foldedSetIterable iter env x = pure x := by intro _; rfl)
    (hE : PassesOwn (model prog w) A env E := by passes_own) :
    wpAny (model prog w) A (exec (.For (.Name x px) iter body [] pos) env) Q E s := For_invV (hideAll g₀ fs) hx hp h hs
end
/-- a turn at a place that is a letter: what the loop stores (st) is forgotten between the turns -/
def SEnd (fs : List Addr) (g₀ : Heap) (L : Addr) (s₁ : Shared) (p : Addr × Obj) (news : List (Addr × Obj)) (x : Str) (st : List Str) (m₀ : Str → Option Value) (s₂ : Shared) : Prop :=
  ∃ g' h' tk m', KtsTurn fs g₀ g' ∧ s₂ = { s₁ with heap := h', toks := tk } ∧ Fr g' L h' m' ∧ News g' L h' (p :: news) ∧ ∀ y, y ≠ x → st.contains y = false → m' y = m₀ y
def SPost (fs : List Addr) (g₀ : Heap) (L : Addr) (s₁ : Shared) (p : Addr × Obj) (news : List (Addr × Obj)) (x : Str) (st : List Str) (m₀ : Str → Option Value) (Q : Flow → Shared → Prop) (f : Flow) (s₂ : Shared) : Prop :=
  match f with
  | .ret v => Q (.ret v) s₂
  | .brk => Q .next s₂
  | _ => SEnd fs g₀ L s₁ p news x st m₀ s₂
theorem SEnd.intro {fs : List Addr} {g₀ g' h' : Heap} {L : Addr} {s₁ : Shared} {p : Addr × Obj} {news : List (Addr × Obj)} {x : Str} {st : List Str} {tk : Nat} {m₀ m' : Str → Option Value}
    (T : KtsTurn fs g₀ g') (F : Fr g' L h' m') (N : News g' L h' (p :: news)) (k : ∀ y, y ≠ x → st.contains y = false → m' y = m₀ y) : SEnd fs g₀ L s₁ p news x st m₀ { s₁ with heap := h', toks := tk } :=
  ⟨g', h', tk, m', T, rfl, F, N, k⟩
abbrev GTurn (prog : Program) (w : World) (A : Around) (E : Value → Shared → Prop) (fs : List Addr) (g₀ : Heap) (Inv : Heap → Prop) (env : Env) (x : Str) (body : List Stmt) (Q : Flow → Shared → Prop) (s : Shared) (I : Addr) (a : Int) (n : Nat) (st : List Str) (m₀ : Str → Option Value) (news : List (Addr × Obj)) : Prop :=
  ∀ (i : Nat) (g : Heap) (t : Tok) (h : Heap) (tk : Nat) (u : Str → Option Value), i < n → KtsTurn fs g₀ g → Inv g → Fr g env.locals h (fun y => if y = x then some (.int (a + (i : Int)) t) else if st.contains y then u y else m₀ y) →
    News g env.locals h ((I, itR (a + ((i + 1 : Nat) : Int)) ((n : Int) - ((i + 1 : Nat) : Int))) :: news) →
    wpAny (model prog w) A (execs body env) (SPost fs g₀ env.locals { s with heap := h, toks := tk } (I, itR (a + ((i + 1 : Nat) : Int)) ((n : Int) - ((i + 1 : Nat) : Int))) news x st m₀ Q) E { s with heap := h, toks := tk }
abbrev GDone (fs : List Addr) (g₀ : Heap) (Inv : Heap → Prop) (env : Env) (x : Str) (Q : Flow → Shared → Prop) (s : Shared) (st : List Str) (m₀ : Str → Option Value) (news : List (Addr × Obj)) : Prop :=
  ∀ (g h : Heap) (tk : Nat) (u : Str → Option Value), KtsTurn fs g₀ g → Inv g → Fr g env.locals h (fun y => if y = x then u y else if st.contains y then u y else m₀ y) → News g env.locals h news → Q .next { s with heap := h, toks := tk }
section
variable {prog : Program} {w : World} {A : Around} {E : Value → Shared → Prop} {s : Shared} {env : Env} {x : Str} {body : List Stmt} {Q : Flow → Shared → Prop}
theorem rest_sym {fs : List Addr} {g₀ : Heap} {Inv : Heap → Prop} {I : Addr} {a : Int} {n : Nat} {st : List Str} {m₀ : Str → Option Value} {news : List (Addr × Obj)} (off : ∀ p ∈ news, p.1 < I)
    (turn : GTurn prog w A E fs g₀ Inv env x body Q s I a n st m₀ news) (done : GDone fs g₀ Inv env x Q s st m₀ news) :
    ∀ (k i : Nat) (m : Str → Option Value), i + k = n → (∀ y, y ≠ x → st.contains y = false → m y = m₀ y) → GRest prog w A E fs g₀ Inv env x body Q s I a n k i m news
  | 0, i, m, _, hm => GRest.zero fun g h tk T V F N => by
    have e : m = fun y => if y = x then m y else if st.contains y then m y else m₀ y := by
      funext y
      by_cases h1 : y = x
      · rw [if_pos h1]
      · rw [if_neg h1]
        cases h2 : st.contains y with
        | true => rfl
        | false => exact hm y h1 h2
    rw [e] at F
    exact done g h tk m T V F N
  | k + 1, i, m, hk, hm => GRest.succ fun g t h tk T V F N => by
    have e : (fun y => if y = x then some (.int (a + (i : Int)) t) else m y) = fun y => if y = x then some (.int (a + (i : Int)) t) else if st.contains y then m y else m₀ y := by
      funext y
      by_cases h1 : y = x
      · rw [if_pos h1, if_pos h1]
      · rw [if_neg h1, if_neg h1]
        cases h2 : st.contains y with
        | true => rfl
        | false => exact hm y h1 h2
    rw [e] at F
    refine wpAny_mono (turn i g t h tk m (by omega) T V F N) (fun f s₂ p => ?_) fun _ _ e => e
    have fin : SEnd fs g₀ env.locals { s with heap := h, toks := tk } (I, itR (a + ((i + 1 : Nat) : Int)) ((n : Int) - ((i + 1 : Nat) : Int))) news x st m₀ s₂ →
        GEnd fs g₀ env.locals { s with heap := h, toks := tk } I (itR (a + ((i + 1 : Nat) : Int)) ((n : Int) - ((i + 1 : Nat) : Int))) (GRest prog w A E fs g₀ Inv env x body Q s I a n k (i + 1)) s₂ := by
      rintro ⟨g', h', tk', m', T', e', F', N', hm'⟩
      exact ⟨g', h', tk', m', news, T', e', F', N', fun p hp => Nat.ne_of_lt (off p hp), rest_sym off turn done k (i + 1) m' (by omega) hm'⟩
    cases f with
    | ret v => exact p
    | brk => exact p
    | next => exact fin p
    | cont => exact fin p
theorem iter_S {Lc r : Addr} {fs : List Addr} {g₀ : Heap} {Inv : Heap → Prop} {a₀ b₀ : Int} {t₀ u₀ v₀ : Tok} {n : Nat} {m₀ : Str → Option Value} {news : List (Addr × Obj)} (st : List Str) (hfs : fs = [Lc]) (D : KtsDicts fs g₀)
    (hh : A.handled = none) (hr : IsRange s.heap r a₀ b₀ 1 t₀ u₀ v₀) (hsmall : Builtin.Range.small a₀ b₀ 1 = true) (hn : Builtin.Range.rangeSize a₀ b₀ 1 = (n : Int)) (F : Fr g₀ env.locals s.heap m₀) (N : News g₀ env.locals s.heap news)
    (hinv : ∀ g, KtsTurn fs g₀ g → Inv g)
    (turn : ∀ I : Addr, (∀ p ∈ news, p.1 < I) → GTurn prog w A E fs g₀ Inv env x body Q s I a₀ n st m₀ news) (done : GDone fs g₀ Inv env x Q s st m₀ news) :
    wpAny (model prog w) A (pyIter (.ref r)) (fun it s₂ => LoopAtV prog w A (hideAll g₀ fs) env x body Q E it s₂) E s :=
  iter_G hfs D hh hr hsmall hn F N hinv fun I off => rest_sym off (turn I off) done n 0 m₀ (Nat.zero_add n) fun _ _ _ => rfl
end
abbrev GInv (A₀ : Around) (base : Heap) (outer : List Env) (K : Frag) (p : Program) (loose : List Str) (mean : ExcName → Option Value) (mg mb : Str → Option Value) (g : Heap) : Prop :=
  Below A₀ base outer g ∧ K.In g ∧ Top p loose mean mg mb g ∧ KtsDicts (outer.filterMap (·.frame)) g
theorem g_inv {A₀ : Around} {base g₀ : Heap} {outer : List Env} {K : Frag} {p : Program} {loose : List Str} {mean : ExcName → Option Value} {mg mb : Str → Option Value} (B : Below A₀ base outer g₀) (XB : K.In base) (TB : Top p loose mean mg mb base)
    (D : KtsDicts (outer.filterMap (·.frame)) g₀) : ∀ g, KtsTurn (outer.filterMap (·.frame)) g₀ g → GInv A₀ base outer K p loose mean mg mb g := fun g T => by
  have B' : Below A₀ base outer g := ⟨B.stack, fun b o e => T.other b o (B.stays b o e) (fun hm => by
    rw [(B.frames.mem hm).1] at e
    cases e), B.frames.of_keeps fun b o e _ => by
    obtain ⟨sl, hs⟩ := T.up e
    exact ⟨_, hs, rfl⟩⟩
  exact ⟨B', XB.keeps B'.stays, TB.keeps B'.stays, D.turn T⟩
end Mine
-- Hd
namespace Mine
set_option maxHeartbeats 8000000 in
open_top hd for PySem.Challenge.rw_in0086_01
end Mine
-- ClCalc
namespace Mine
local macro_rules | `(tactic| walk_at "call type:datetime.date") => `(tactic| (k_here; (with_reducible show wpAny _ _ (call (Value.type "datetime.date") [Value.int _ _, Value.int _ _, Value.int _ _]) _ _ _); k_dflt (refine' date_K ?k1 ?k2 ?k3 ?k4 ?_; (case k1 => k_asm); (case k2 => k_asm); (case k3 => omega); (case k4 => omega); k_whole); intro D' h' F' N' l1; (try k_lt l1); (try k_sweep)))
local macro_rules | `(tactic| walk_at "getMethod ref") => `(tactic| (k_here; (with_reducible show wpAny _ _ (getMethod (Value.ref _) (PySem.Str.ofString "weekday") _) _ _ _); k_dflt (refine' weekday_method_K ?k1 ?k2 ?_; (case k1 => k_asm); (case k2 => k_mem); k_whole)))
local macro_rules | `(tactic| walk_at "call builtin:datetime.date.weekday") => `(tactic| (k_here; (with_reducible show wpAny _ _ (call (Value.builtin _) [Value.ref _]) _ _ _); k_dflt (refine' weekday_call_K ?k1 ?k2 ?_; (case k1 => k_asm); (case k2 => k_mem); k_whole); intro _ _ _))
set_option maxHeartbeats 4000000 in
theorem claim_calc (w : World) (mean : ExcName → Option Value) (mg mb : Str → Option Value) :
    CbC 51 0 (∀ (cbNews : CbLed) (y : Int) (ty : CbTok) (wk : Int) (tw : CbTok) (d : Int) (td : CbTok) (m : Bool),
      CbClaim PySem.Challenge.rw_in0086_01.row.prog w (hd.heap_39 w.params) hd.view_39 (looseW hd.view_39 []) mean mg mb 51 cbNews [] (1 ≤ y ∧ y ≤ 9999 ∧ -1000 ≤ wk ∧ wk ≤ 1000)
        [.int y ty, .int wk tw, .int d td, .bool m] (fun t => .int (calcF y wk d m) t)) := by
  k_fill
  k_with_none
  k_with "tree" => simp only [calcF]
  unfold CbC
  dsimp only [CbClaim, CbLists, CbRet]
  intros
  rename_i hret
  have cbI : CbIn 51 := CbIn.mk
  refine wpAny_call ?_
  k_dflt cell_enter
  k_steps
  all_goals cb_end hret
end Mine
-- ClBegin
namespace Mine
theorem fm_ne {a b : Int} (h : a.fmod 7 ≠ b) : a % 7 ≠ b := by rwa [Int.fmod_eq_emod_of_nonneg _ (by decide)] at h
set_option maxHeartbeats 4000000 in
theorem claim_begin (w : World) (mean : ExcName → Option Value) (mg mb : Str → Option Value) :
    CbC 65 0 (∀ (cbNews : CbLed) (f : Int) (tf : CbTok) (st : Int) (ts : CbTok) (wk : Int) (tw : CbTok),
      CbClaim PySem.Challenge.rw_in0086_01.row.prog w (hd.heap_39 w.params) hd.view_39 (looseW hd.view_39 []) mean mg mb 65 cbNews [] (0 ≤ f ∧ f < 7 ∧ (st = 0 ∨ st = 6) ∧ -1000 ≤ wk ∧ wk ≤ 1000)
        [.int f tf, .int st ts, .int wk tw] (fun t => .int (beginF f st wk) t)) := by
  k_fill
  k_with_none
  k_with "exec While Compare cons nil" => k_while_given ["first", "start", "week"] (fun f st wk _ b => ¬ wk = 0 ∧ 1 ≤ b ∧ b ≤ 1 + (st - f) % 7) (fun f st wk _ b => (8 - b).toNat) "begin"
  k_with "exec While Compare cons nil" => k_while_given ["first", "start", "week"] (fun f st wk _ b => wk = 0 ∧ 1 - (f - st) % 7 ≤ b ∧ b ≤ 1) (fun f st wk _ b => (8 + b).toNat) "begin"
  k_with "state" => ((have hx := fm_ne (by assumption)); omega)
  k_with "measure" => omega
  k_with "tree" => simp only [beginF]
  unfold CbC
  dsimp only [CbClaim, CbLists, CbRet]
  intros
  rename_i hret
  have cbI : CbIn 65 := CbIn.mk
  refine wpAny_call ?_
  k_dflt cell_enter
  k_steps

  all_goals cb_end hret
end Mine
-- ClWeek
namespace Mine
local macro_rules | `(tactic| walk_at "call type:datetime.date") => `(tactic| (k_here; (with_reducible show wpAny _ _ (call (Value.type "datetime.date") [Value.int _ _, Value.int _ _, Value.int _ _]) _ _ _); k_dflt (refine' call_date_bad ?k1 ?k2 ?_; (case k1 => omega); (case k2 => rfl); k_whole); intro h' tk' e' x'))
local macro_rules | `(tactic| k_room) => `(tactic| ktr_room)
local macro_rules | `(tactic| walk_at "exec For Name Call cons nil") => `(tactic| (k_here; (with_reducible rename KtsDicts _ _ => kdX); (rename Fr _ _ _ _ => lF'); (with_unfolding_all refine' for_G lF' kdX ?k1 ?k2 ?_; (case k1 => exact rfl); (case k2 => exact rfl); k_whole)))
local macro_rules | `(tactic| walk_at "pyIter ref") => `(tactic| ((with_reducible show wpAny _ _ (pyIter (Value.ref _)) (fun it s₂ => LoopAtV _ _ _ (hideAll _ _) _ _ _ _ _ it s₂) _ _); (rename KtsDicts _ _ => kdX); (rename Fr _ _ _ _ => lF'); (rename News _ _ _ _ => lN'); (rename IsRange _ _ _ _ _ _ _ _ => rgX); (with_unfolding_all refine iter_S (n := 7) [Str.ofString "due", Str.ofString "told"] (by rfl) kdX (by rfl) rgX (by decide) (by first | decide | rfl) lF' lN' (g_inv (by assumption) (by assumption) (by assumption) kdX) (fun i' l1 n' g' t' h' tk' u' hn' T' V' F' N' => ?_) (fun g' h' tk' u' T' V' F' N' => ?_)); clear lF' lN'; obtain ⟨B', X', P', D'⟩ := V'))
local macro_rules | `(tactic| walk_at "SPost") => `(tactic| (dsimp only [SPost]))
local macro_rules | `(tactic| walk_at "SEnd") => `(tactic| (refine' SEnd.intro ?T ?F ?N ?K; (case F => assumption); (case T => assumption); (case N => assumption); (case K => (intro y h1 h2; simp only [List.contains_cons, List.contains_nil, Bool.or_false, Bool.or_eq_false_iff, beq_eq_false_iff_ne, ne_eq] at h2; simp [h1, h2]))))
local macro_rules | `(tactic| walk_at "ite") => `(tactic| (k_here; first | refine ite_neg (not_bne (calc_begin (by assumption) (by assumption) (by omega) (by omega))) ?_ | refine ite_neg (not_dec (calc_begin (by assumption) (by assumption) (by omega) (by omega))) ?_))
abbrev WkClaim (w : World) (mean : ExcName → Option Value) (mg mb : Str → Option Value) : Prop :=
  ∀ (news : List (Addr × Obj)) (y : Int) (ty : Nat) (wk : Int) (tw : Nat) (st : Int) (ts : Nat) (f : Int) (tf : Nat) (dp un : Nat) (gd : Option (List Code)) (cn : Str) (cs : Scope) (a : Addr) (ccd : Value) (A₀ : Around) (h₀ : Heap) (L : Addr) (m : Str → Option Value) (s : Shared) (Q E : Value → Shared → Prop),
    Below A₀ h₀ [] h₀ → Fr h₀ L s.heap m → (hd.heap_39 w.params).In h₀ → News h₀ L s.heap news → Top hd.view_39 (looseW hd.view_39 []) mean mg mb h₀ → cs.kind = .function →
    f = wd y → 0 ≤ f → f < 7 → (st = 0 ∨ st = 6) → -1 ≤ y → y ≤ 10001 → -1000 ≤ wk → wk ≤ 1000 → dp + 5 < recursionLimit → un + 60 < cLine → CbRet h₀ L m news s Q (fun _ => .bool true) →
      wpAny (model PySem.Challenge.rw_in0086_01.row.prog w) ({ handled := none, depth := dp, frames := some [envOf cn cs L a ccd], guards := gd, units := un } : Around) (call (.ref 72) [.int y ty, .int wk tw, .int st ts, .int f tf]) Q E s
set_option maxHeartbeats 8000000 in
theorem claim_week (w : World) (mean : ExcName → Option Value) (mg mb : Str → Option Value) : WkClaim w mean mg mb := by
  unfold WkClaim
  k_fill
  k_with_none
  have cCalc := claim_calc w mean mg mb
  have cBegin := claim_begin w mean mg mb
  k_with "call ref" => k_call_by "_calc_julian_from_U_or_W" calcF (fun (y wk _ : Int) (_ : Bool) => 1 ≤ y ∧ y ≤ 9999 ∧ -1000 ≤ wk ∧ wk ≤ 1000)
  k_with "call ref" => k_call_by "_law_begin" beginF (fun (f st wk : Int) => 0 ≤ f ∧ f < 7 ∧ (st = 0 ∨ st = 6) ∧ -1000 ≤ wk ∧ wk ≤ 1000)
  dsimp only [CbRet]
  intros
  rename_i hret
  have cbI : CbIn 72 := CbIn.mk
  refine wpAny_call ?_
  k_dflt (refine' code_defS0 ?k1 ?k2 ?k3 ?k4 ?k5 ?kA ?k6 ?k7 ?k8 ?k9 ?kB ?_ ?cK ?c2 ?c3 ?c4 ?c5; (case kA => exact rfl); (case k2 => k_asm); (case k1 => k_asm); (case k3 => k_asm); (case k4 => k_asm); (case k5 => k_asm); (case k6 => k_is); (case k7 => k_is); (case k8 => ktr_room); (case k9 => exact BindsTo.of_eq rfl); (case kB => exact locs rfl); (case cK => assumption); (case c2 => exact rfl); (case c3 => exact rfl); (case c4 => exact rfl); (case c5 => decide); k_whole; intro g' L' h' FG' F' N' B' X' T' D'; (try dsimp only); (try k_fold))
  k_steps

  all_goals cb_end hret
end Mine
-- Main
namespace Mine
section
variable {prog : Program} {w : World} {A : Around} {E : Value → Shared → Prop} {s : Shared}
theorem item_rows {value slice : PySem.Expr} {l : Addr} {vs : List Value} {row : List Int} {y : Int} {u : Tok} {Q : Value → Shared → Prop} (hl : s.heap.IsList l vs.toArray) (hi : IntsAre vs row) (hr : RowsOk row)
    (hlen : row.length = (rangeKs 0 (399 - 0 : Int).toNat).length + 1) (h : ∀ t, Q (.int (wd y) t) s)
    (hs : subscripted slice false (.ref l) (.int (y.fmod 400) u) = operate [.ref l, .int (y.fmod 400) u] (getItem (.ref l) (.int (y.fmod 400) u)) := by with_unfolding_all rfl) :
    wpAny (model prog w) A (subscriptTail value slice (.ref l) (.int (y.fmod 400) u)) Q E s := by
  rw [rangeKs_length] at hlen
  have e : y.fmod 400 = y % 400 := Int.fmod_eq_emod_of_nonneg _ (by decide)
  have hb : (y.fmod 400).toNat < row.length := by rw [e]; omega
  obtain ⟨v, hv⟩ : ∃ v, vs[(y.fmod 400).toNat]? = some v := ⟨vs[(y.fmod 400).toNat]'(by rw [hi.length]; exact hb), List.getElem?_eq_getElem _⟩
  obtain ⟨n, t, rfl, hn⟩ := IntsAre.at hi _ v hv
  have hw : n = wd y := by
    have h1 := hr (y.fmod 400).toNat hb
    rw [List.getD_eq_getElem?_getD, hn] at h1
    have h2 : (((y.fmod 400).toNat : Nat) : Int) = y % 400 := by rw [e]; omega
    rw [h2, wd_mod] at h1
    exact h1
  subst hw
  exact tail_any hl.typeIs slot_list_getitem.lookup (wpAny_getItem_list hl (by rw [e]; omega) (by rw [e]; omega) (by simpa using hv) (h t)) hs
end
theorem forget_toks {α : Type} {M : Model} {A : Around} {t : Sem α} {Q : α → Shared → Prop} {E : Value → Shared → Prop} {h : Heap} {g : Array GenState} {d : Drawn} {X : Nat} {o : OsState}
    (H : ∀ tk, wpAny M A t Q E ⟨h, g, d, tk, o⟩) : wpAny M A t Q E ⟨h, g, d, X, o⟩ := H X
theorem store_forget {M : Model} {A : Around} {env : Env} {x : Str} {e : Int} {t : Nat} {Q : Unit → Shared → Prop} {E : Value → Shared → Prop} {h : Heap} {g : Array GenState} {d : Drawn} {X : Nat} {o : OsState}
    (H : ∀ t tk, wpAny M A (storeName env x (.int e t)) Q E ⟨h, g, d, tk, o⟩) : wpAny M A (storeName env x (.int e t)) Q E ⟨h, g, d, X, o⟩ := H t X
theorem endW {h₀ h' : Heap} {L I : Addr} {o : Obj} {rest : (Str → Option Value) → List (Addr × Obj) → Prop} {s₁ : Shared} {tk : Nat} {m' : Str → Option Value} {news : List (Addr × Obj)}
    (F : Fr h₀ L h' m') (N : News h₀ L h' ((I, o) :: news)) (off : ∀ p ∈ news, p.1 < I) (r : rest m' news) : UnrEndW h₀ L s₁ [(I, o)] rest { s₁ with heap := h', toks := tk } :=
  ⟨h', tk, m', news, rfl, F, N, fun p hp q hq => by rw [List.mem_singleton.mp hq]; exact Nat.ne_of_lt (off p hp), r⟩
theorem yr_lo (a : Int) : -1 ≤ a.fmod 10003 - 1 := by rw [Int.fmod_eq_emod_of_nonneg _ (by decide)]; omega
theorem yr_hi (a : Int) : a.fmod 10003 - 1 ≤ 10001 := by rw [Int.fmod_eq_emod_of_nonneg _ (by decide)]; omega
theorem wk_lo (a : Int) : -1000 ≤ a.fmod 131 - 40 := by rw [Int.fmod_eq_emod_of_nonneg _ (by decide)]; omega
theorem wk_hi (a : Int) : a.fmod 131 - 40 ≤ 1000 := by rw [Int.fmod_eq_emod_of_nonneg _ (by decide)]; omega
end Mine
open Mine
-- the walk keeps its lines by their number: no two theorems of one file may stand under the same number of lines (here seven, above six, three, none)
local macro_rules | `(tactic| walk_at "subscriptTail") => `(tactic| (k_here; (with_reducible show wpAny _ _ (subscriptTail _ _ (Value.ref _) (Value.int (Int.fmod _ 400) _)) _ _ _); (with_unfolding_all refine' item_rows ?k1 ?k2 ?k3 ?k4 ?_ ?k6; (case k1 => is_list); (case k2 => l_ints); (case k3 => assumption); (case k4 => assumption); (case k6 => with_unfolding_all rfl); k_whole); intro _))
namespace Mine
theorem week_law (w : World) (mean : ExcName → Option Value) (mg mb : Str → Option Value) (news : List (Addr × Obj)) (v v' : Int) (ty tw : Nat) (st : Int) (ts tf : Nat) (cn : Str) (cs : Scope) (a : Addr) (ccd : Value) (A₀ : Around) (h₀ : Heap) (L : Addr) (m : Str → Option Value) (s : Shared) (Q E : Value → Shared → Prop)
    (B : Below A₀ h₀ [] h₀) (F : Fr h₀ L s.heap m) (X : (hd.heap_39 w.params).In h₀) (N : News h₀ L s.heap news) (T : Top hd.view_39 (looseW hd.view_39 []) mean mg mb h₀) (hk : cs.kind = .function) (hst : st = 0 ∨ st = 6)
    (hret : ∀ (_ : Nat) (h' : Heap) (tk' : Nat), Fr h₀ L h' m → News h₀ L h' news → Q (.bool true) { s with heap := h', toks := tk' }) :
    wpAny (model PySem.Challenge.rw_in0086_01.row.prog w) (callerA.deeper (envOf cn cs L a ccd)) (call (.ref 72) [.int (v.fmod 10003 - 1) ty, .int (v'.fmod 131 - 40) tw, .int st ts, .int (wd (v.fmod 10003 - 1)) tf]) Q E s :=
  claim_week w mean mg mb news _ ty _ tw st ts _ tf 302 7 (callerA.deeper (envOf cn cs L a ccd)).guards cn cs a ccd A₀ h₀ L m s Q E B F X N T hk rfl (wd_range _).1 (wd_range _).2 hst (yr_lo _) (yr_hi _) (wk_lo _) (wk_hi _) (by decide) (by decide) hret
end Mine
local macro_rules | `(tactic| walk_at "call ref") => `(tactic| (k_here; (with_reducible show wpAny _ _ (call (Value.ref 72) [_, _, _, _]) _ _ _); k_dflt (refine' week_law _ _ _ _ _ _ _ _ _ _ _ _ _ _ _ _ _ _ _ _ _ _ _ ?k1 ?k2 ?k3 ?k4 ?k5 ?k6 ?k7 ?_; (case k1 => k_asm); (case k2 => k_asm); (case k3 => k_asm); (case k4 => k_asm); (case k5 => k_asm); (case k6 => exact rfl); (case k7 => first | exact Or.inl rfl | exact Or.inr rfl); k_whole); (intro t9 h9 tk9 F9 N9); (try dsimp only); (try k_fold)))
local macro_rules | `(tactic| walk_at "pyIter ref") => `(tactic| ((with_reducible show wpAny _ _ (pyIter (Value.ref _)) (fun it s₂ => TurnsAt _ _ _ _ _ _ _ _ _ it s₂) _ _); (rename Fr _ _ _ _ => lF'); (rename News _ _ _ _ => lN'); (with_unfolding_all refine iter_tupTurns (by rfl) lF' lN' (List.Mem.head _) (by rfl) (by rfl) ?_); clear lF'; intro i' l1))
local macro_rules | `(tactic| walk_at "UnrEndW") => `(tactic| (refine' endW ?k1 ?k2 ?k3 ⟨?k4, ?_⟩; (case k1 => assumption); (case k2 => assumption); (case k3 => assumption); (case k4 => k_subL); k_whole))
local macro_rules | `(tactic| walk_at "storeName") => `(tactic| (k_here; (with_reducible show wpAny _ _ (storeName _ _ (Value.int _ (Shared.toks _))) _ _ _); refine store_forget ?_; intro _ tk))
local macro_rules | `(tactic| walk_at "storeName") => `(tactic| (k_here; (with_reducible show wpAny _ _ (storeName _ _ (Value.int _ (_ + _))) _ _ _); refine store_forget ?_; intro _ tk))
local macro_rules | `(tactic| walk_at "execs cons") => `(tactic| (k_here; refine forget_toks ?_; intro tk; (with_reducible refine wpAny_execs_cons ?_); try dsimp only))
set_option maxHeartbeats 8000000 in
theorem PySem.Challenge.cw_in0086_01_holds : PySem.Challenge.rw_in0086_01.Holds := by
  refine Mine.hd ?_
  k_with_none
  k_with "state" => first | exact row_start | exact row_turn0 (by assumption) (by assumption) (by assumption) (by assumption) (by assumption) | exact row_turn1 (by assumption) (by assumption) (by assumption) (by assumption) (by assumption) (by assumption) | exact row_turn2 (by assumption) (by assumption) (by assumption) (by assumption) (by assumption) (by assumption) (by assumption) | exact row_turn3 (by assumption) (by assumption) (by assumption) (by assumption) (by assumption) (by assumption)
  k_with "pyIter ref" => (k_of "year" => k_state (fun pre row => row.length = pre.length + 1 ∧ RowsOk row) "row")
  k_with "pyIter ref" => (k_of "place" => k_search (fun _ => True))
  w_strict (k_go0; (all_goals try k_fold); k_steps)
