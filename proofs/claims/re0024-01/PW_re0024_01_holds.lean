import PyProof.Rows.All
import Wide.All
import OpenK.AllK
import Wide.FinOn
import PySem.Challenge.RW_re0024_01
set_option Elab.async false
section
set_option compiler.extract_closed false
open PySem PySem.W PyProof.Rows
set_option Elab.async false
namespace Mine
set_option maxRecDepth 100000
set_option maxHeartbeats 8000000
local macro_rules | `(tactic| o_law) => `(tactic| refine holds_law (by unfold OpenLaw.wellSaid OpenRow.wellSaid OpenRow.partSaid looksOpen; (repeat' with_reducible refine look_both ?_ ?_); all_goals decide +kernel) fun said => ?_)
set_option synthInstance.maxSize 1 in
open_top hd for PySem.Challenge.rw_re0024_01
end Mine
end
section
set_option compiler.extract_closed false
namespace Mine
theorem rm0 {a b n : Nat} (h : a + b < n) : a < n := Nat.lt_of_le_of_lt (Nat.le_add_right a b) h
theorem rm1 {a b c n : Nat} (h : a + b < n) (k : c ≤ b) : a + c < n := Nat.lt_of_le_of_lt (Nat.add_le_add_left k a) h
theorem rm2 {a b c d n : Nat} (h : a + b < n) (k : c + d ≤ b) : a + c + d < n := Nat.add_assoc a c d ▸ rm1 h k
theorem cjL {a b : Prop} (h : a ∧ b) : a := h.1
theorem cjR {a b : Prop} (h : a ∧ b) : b := h.2
end Mine
end
section
set_option compiler.extract_closed false
namespace Mine
theorem tnB {i j : Int} (hi : 0 ≤ i) (h : i ≤ j) : (j - i).toNat = j.toNat - i.toNat := by
  obtain ⟨a, rfl⟩ := Int.eq_ofNat_of_zero_le hi
  obtain ⟨b, rfl⟩ := Int.eq_ofNat_of_zero_le (Int.le_trans hi h)
  exact Int.toNat_sub b a
theorem tnA {i j : Int} (hi : 0 ≤ i) (h : i ≤ j) : i.toNat + (j - i).toNat = j.toNat := by
  rw [tnB hi h]
  exact Nat.add_sub_cancel' (Int.toNat_le_toNat h)
theorem tnS {k : Int} (h : 0 ≤ k) : (k + 1).toNat = k.toNat + 1 := Int.toNat_add h (by decide)
theorem tn1 {n : Nat} : ((n : Int) - 1).toNat = n - 1 := Int.toNat_sub n 1
theorem tnL {k : Int} {n : Nat} (h : 0 ≤ k) (h' : k < n) : k.toNat < n := (Int.toNat_lt h).mpr h'
theorem tnE {k : Int} {n : Nat} (h : k ≤ n) : k.toNat ≤ n := Int.toNat_le.mpr h
theorem tn0 {k : Int} (h : 0 ≤ k) : ∃ a : Nat, k = a := Int.eq_ofNat_of_zero_le h
theorem ms1 {x k k' : Int} {n : Nat} (hn : n = (x - k).toNat) (h : k < x) (h' : k < k') : (x - k').toNat < n := by omega
theorem ms0 {x k : Int} {n : Nat} (hn : n = (x - k).toNat) (h : k < x) : 0 < n := by omega
theorem ms2 {x k : Int} {n : Nat} (hn : n = (x - k).toNat) (h : k < x) : n = n - 1 + 1 := by omega
theorem ms4 {l : Nat} {k : Int} (h : 0 ≤ k) : l - k.toNat ≤ ((l : Int) + 1 - k).toNat := by omega
theorem ms5 {x k : Int} {n : Nat} (hn : n + 1 = (x - k).toNat) : n = (x - (k + 1)).toNat := by omega
theorem minN (a b : Nat) : min (a : Int) (b : Int) = ((min a b : Nat) : Int) := by
  rcases Nat.le_total a b with h | h
  · rw [Nat.min_eq_left h, Int.min_eq_left (Int.ofNat_le.mpr h)]
  · rw [Nat.min_eq_right h, Int.min_eq_right (Int.ofNat_le.mpr h)]
end Mine
end
section
set_option compiler.extract_closed false
open PySem PySem.W PySem.Calls PyProof.Rows PySem.Builtin PySem.Builtin.ObjectAttr
set_option Elab.async false
set_option maxRecDepth 100000
set_option maxHeartbeats 1000000
namespace Mine
/-! attributes of functions -/
theorem fn_sa : Slot "function" "__setattr__" "object.__setattr__" :=
  .of (owner := "object") (n := "__setattr__") (by rw [typeLookup_type, builtinLookup_eq_fast]; kernel_rfl) (by decide +kernel) (by decide +kernel) (by decide +kernel)
    (by first | exact .inl (by decide +kernel) | exact .inr (by decide +kernel)) (by rw [isSubtype_type]; kernel_rfl)
theorem fn_ga : Slot "function" "__getattribute__" "object.__getattribute__" :=
  .of (owner := "object") (n := "__getattribute__") (by rw [typeLookup_type, builtinLookup_eq_fast]; kernel_rfl) (by decide +kernel) (by decide +kernel) (by decide +kernel)
    (by first | exact .inl (by decide +kernel) | exact .inr (by decide +kernel)) (by rw [isSubtype_type]; kernel_rfl)
theorem fn_noHook : typeLookup (.type "function") "__getattr__" = pure none := by rw [typeLookup_type, builtinLookup_eq_fast]; kernel_rfl
theorem fn_noRead : typeLookup (.type "function") "read" = pure none := by rw [typeLookup_type, builtinLookup_eq_fast]; kernel_rfl
theorem fn_mro : mroOf (.type "function") = pure [.type "function", .type "object"] := by kernel_rfl
theorem fn_passes (self : Value) : refuseLoop self "__setattr__" [.type "function", .type "object"] = pure () := by kernel_rfl
theorem fn_dict : typeHasDict (.type "function") = true := by kernel_rfl
theorem ga_entry : entryFor table "object.__getattribute__" = some Builtin.«object.__getattribute__» := entryFor_of_tree (by kernel_rfl)
theorem ga_args (a b : Value) : argsOk "object.__getattribute__" ⟨[a, b], []⟩ := by unfold argsOk; kernel_rfl
/-- a function object -/
noncomputable def FnObj (o : Obj) : Prop := o.cls = .type "function" ∧ ∃ fd, o.data = .func fd
section
variable {prog : Program} {w : World} {A : Around} {E : Value → Shared → Prop} {s : Shared} {h₀ : Heap} {L f : Addr} {m : Str → Option Value} {o : Obj}
theorem fn_type {M : Model} {h : Heap} (ho : h.get? f = some o) (hc : o.cls = .type "function") : Looks M h (typeOf (.ref f)) (.type "function") := by
  have := (Looks.ld (M := M) (part := some headPart) ho).andThen (f := fun o : Obj => (pure o.cls : Sem Value)) (b := .type "function") (by rw [hc]; exact .now)
  exact this
theorem setattr_fn {fd : FuncData} {sl : Array (Option Value)} {v : Value} {pre post : List (Addr × Obj)} {Q : Unit → Shared → Prop} (F : Fr h₀ L s.heap m)
    (N : News h₀ L s.heap (pre ++ (f, ⟨.type "function", none, .func fd, sl⟩) :: post)) (h1 : ∀ p ∈ pre, p.1 ≠ f) (h2 : ∀ p ∈ post, p.1 ≠ f)
    (h : ∀ d h' tk, Fr h₀ L h' m → News h₀ L h' ((d, dictOf [⟨PyData.keyHash w.params "read", .str "read" tk, v⟩] 1) :: (pre ++ (f, ⟨.type "function", some d, .func fd, sl⟩) :: post)) →
      (∀ p ∈ pre ++ (f, (⟨.type "function", none, .func fd, sl⟩ : Obj)) :: post, p.1 < d) → Q () { s with heap := h', toks := s.toks + 2 }) :
    wpAny (model prog w) A (setAttr (.ref f) "read" v) Q E s := by
  have ho : s.heap.get? f = some ⟨.type "function", none, .func fd, sl⟩ := (N (f, _) (List.mem_append_right _ (.head _))).1
  refine wpAny_bind (wpAny_mkText (wpAny_bind (wpAny_bind (wpAny_bind ((fn_type ho rfl) _ _ _ _ (fun _ _ e => e) ?_)))))
  rw [fn_sa.lookup]
  refine wpAny_pure (wpAny_holding ?_)
  rw [fn_sa.bind]
  refine wpAny_bind (wpAny_pure (wpAny_bind (wpAny_call ?_)))
  refine codeAny_call_builtin fn_sa.plain PySem.F.store_object.entry (fn_sa.check _ _ _ _ _ _ _ _ ⟨_, ho, rfl⟩ (PySem.F.store_object.args _ _ _) ?_)
  show wpAny _ _ (Builtin.«object.__setattr__» ⟨[.ref f, .str "read" s.toks, v], []⟩) _ _ _
  rw [osa_eq, refuse_eq]
  refine wpAny_bind (wpAny_bind ((fn_type ho rfl) _ _ _ _ (fun _ _ e => e) ?_))
  rw [fn_mro]
  refine wpAny_bind (wpAny_pure ?_)
  rw [fn_passes]
  refine wpAny_pure (wpAny_bind ((fn_type ho rfl) _ _ _ _ (fun _ _ e => e) ?_))
  rw [fn_noRead]
  refine wpAny_bind (wpAny_pure (wpAny_bind (wpAny_pure ?_)))
  unfold storeInOwnDict
  refine wpAny_bind (wpAny_pure ?_)
  rw [if_neg (by decide)]
  refine wpAny_bind (wpAny_bind (wpAny_loadPart ho ?_))
  dsimp only
  rw [fn_dict, if_neg (by decide)]
  refine wpAny_bind (wpAny_alloc (wpAny_bind (wpAny_update (Heap.get?_push_of_some _ ho) ?_)))
  refine wpAny_pure ?_
  unfold storeInDict
  refine wpAny_bind (wpAny_pure (wpAny_bind ?_))
  have Np := N.push F { cls := .type "dict", data := .dict #[] }
  have Fp := F.push { cls := .type "dict", data := .dict #[] }
  have hlt : ∀ p ∈ pre ++ (f, (⟨.type "function", none, .func fd, sl⟩ : Obj)) :: post, p.1 < s.heap.objs.size := fun p hp => Heap.lt_size (N p hp).1
  have hfd : f < s.heap.objs.size := Heap.lt_size ho
  obtain ⟨F1, N1⟩ := news_upd (pre := (s.heap.objs.size, { cls := .type "dict", data := .dict #[] }) :: pre) (post := post) (f := fun o : Obj => { o with dict := some s.heap.objs.size }) Fp Np
    (fun p hp => by rcases List.mem_cons.mp hp with rfl | hp; exact Nat.ne_of_gt hfd; exact h1 p hp) h2 rfl rfl
  have D := (N1 (s.heap.objs.size, { cls := .type "dict", data := .dict #[] }) (.head _)).1
  have hpost : ∀ p ∈ pre ++ (f, (⟨.type "function", some s.heap.objs.size, .func fd, sl⟩ : Obj)) :: post, p.1 ≠ s.heap.objs.size := fun p hp => by
    rcases List.mem_append.mp hp with hp | hp
    · exact Nat.ne_of_lt (hlt p (List.mem_append_left _ hp))
    · rcases List.mem_cons.mp hp with rfl | hp
      · exact Nat.ne_of_lt hfd
      · exact Nat.ne_of_lt (hlt p (List.mem_append_right _ (.tail _ hp)))
  obtain ⟨F2, N2⟩ := news_upd (pre := []) (o' := dictOf [⟨PyData.keyHash w.params "read", .str "read" (s.toks + 1), v⟩] 1) (f := Obj.putName "read" (PyData.keyHash w.params "read") (.str "read" (s.toks + 1)) v) F1 N1
    (fun p hp => nomatch hp) hpost (by rw [show ({ cls := .type "dict", data := .dict #[] } : Obj) = dictOf [] 0 from rfl, putName_dict]; rfl) rfl
  unfold nsSet
  refine wpAny_bind (wpAny_bind (wpAny_askSetting (wpAny_pure (wpAny_bind (wpAny_mkText (wpAny_bind (wpAny_loadPart D ?_)))))))
  dsimp only
  rw [aRefKeyMayBeTheName_at, if_neg (by simp)]
  refine wpAny_updatePart D ?_
  refine wpAny_bind (wpAny_lookBehind (N2 (s.heap.objs.size, _) (.head _)).1 (pastItsLine_dict (by size_fits)) ?_)
  exact wpAny_pure (wpAny_pure (wpAny_pure (h _ _ _ F2 N2 hlt)))
/-- f.read of a function whose dict holds the name -/
theorem getMethod_fn {fd : FuncData} {sl : Array (Option Value)} {v : Value} {d : Addr} {hs : Int} {tk : Tok} {n : Nat} {pl : Sem Bool} {Q : Value × List Value → Shared → Prop}
    (ho : s.heap.get? f = some ⟨.type "function", some d, .func fd, sl⟩) (hd : s.heap.get? d = some (dictOf [⟨hs, .str "read" tk, v⟩] n)) (hv : handedIn v = true)
    (h : Q (v, []) { s with toks := s.toks + 1 }) : wpAny (model prog w) A (getMethod (.ref f) "read" pl) Q E s := by
  have hcan := PySem.F.canon_object_ga
  unfold getMethod specialOf
  refine wpAny_bind (wpAny_bind ((fn_type ho rfl) _ _ _ _ (fun _ _ e => e) ?_))
  rw [fn_ga.lookup]
  refine wpAny_pure ?_
  dsimp only
  rw [hcan, if_neg (by decide)]
  refine wpAny_bind (wpAny_bind ((fn_type ho rfl) _ _ _ _ (fun _ _ e => e) ?_))
  rw [fn_noHook]
  refine wpAny_pure ?_
  refine wpAny_bind (wpAny_bind ((fn_type ho rfl) _ _ _ _ (fun _ _ e => e) ?_))
  rw [fn_noRead]
  refine wpAny_pure ?_
  refine wpAny_bind ?_
  refine wpAny_bind (wpAny_mkText ?_)
  refine wpAny_holding (wpAny_bind ((fn_type ho rfl) _ _ _ _ (fun _ _ e => e) ?_))
  rw [fn_ga.lookup]
  refine wpAny_bind (wpAny_pure ?_)
  dsimp only [onTheHeap]
  unfold getAttrByItsOwn hookBefore callGetattribute boundAndCalled
  dsimp only [onTheHeap]
  refine wpAny_bind (wpAny_pure ?_)
  refine wpAny_bind (wpAny_attempt (wpAny_holding ?_))
  rw [fn_ga.bind]
  refine wpAny_bind (wpAny_pure (wpAny_call ?_))
  refine codeAny_call_builtin fn_ga.plain ga_entry (fn_ga.check _ _ _ _ _ _ _ _ ⟨_, ho, rfl⟩ (ga_args _ _) ?_)
  unfold Builtin.«object.__getattribute__»
  refine wpAny_bind (wpAny_pure ?_)
  refine wpAny_bind (wpAny_pure ?_)
  refine wpAny_bind ((fn_type ho rfl) _ _ _ _ (fun _ _ e => e) ?_)
  unfold ObjectAttr.find
  rw [fn_noRead]
  refine wpAny_bind (wpAny_bind (wpAny_pure (wpAny_bind (wpAny_pure (wpAny_bind (wpAny_pure ?_))))))
  unfold ownThenClass inOwnDict ObjectAttr.ownDict
  refine wpAny_bind (wpAny_bind (wpAny_bind (wpAny_loadPart ho ?_)))
  dsimp only
  unfold instanceDict
  refine wpAny_bind (wpAny_loadPart ho ?_)
  dsimp only
  refine wpAny_pure ?_
  have hns : s.heap.Ns d (nsFind #[⟨hs, .str "read" tk, v⟩]) := ⟨_, _, n, hd, rfl, fun e he => ⟨"read", tk, by simp at he; rw [he]⟩, fun _ => rfl⟩
  refine wpAny_nsGet hns ?_
  rw [show nsFind #[⟨hs, .str "read" tk, v⟩] "read" = some v from by simp [nsFind, findBy, Value.isStr]]
  refine wpAny_bind (wpAny_rule (wpAny_pure (wpAny_pure ?_)))
  show wpAny _ _ (handedOut v) _ _ _
  rw [handedOut_of hv]
  exact wpAny_pure (wpAny_pure h)
end
end Mine
end
section
set_option compiler.extract_closed false
open PySem PySem.W PySem.Calls PyProof.Rows PySem.Builtin
set_option Elab.async false
set_option maxRecDepth 100000
set_option maxHeartbeats 1000000
namespace Mine
theorem ci_next : Slot "callable_iterator" "__next__" "callable_iterator.__next__" :=
  .of (owner := "callable_iterator") (n := "__next__") (by rw [typeLookup_type, builtinLookup_eq_fast]; kernel_rfl) (by decide +kernel) (by decide +kernel) (by decide +kernel)
    (by first | exact .inl (by decide +kernel) | exact .inr (by decide +kernel)) (by rw [isSubtype_type]; kernel_rfl)
theorem ci_entry : entryFor table "callable_iterator.__next__" = some Builtin.«callable_iterator.__next__» := entryFor_of_tree (by kernel_rfl)
theorem ci_args (a : Value) : argsOk "callable_iterator.__next__" ⟨[a], []⟩ := by unfold argsOk; kernel_rfl
theorem ci_iter : Slot "callable_iterator" "__iter__" "callable_iterator.__iter__" :=
  .of (owner := "callable_iterator") (n := "__iter__") (by rw [typeLookup_type, builtinLookup_eq_fast]; kernel_rfl) (by decide +kernel) (by decide +kernel) (by decide +kernel)
    (by first | exact .inl (by decide +kernel) | exact .inr (by decide +kernel)) (by rw [isSubtype_type]; kernel_rfl)
noncomputable abbrev ciObj (mo : Addr) (ts : Tok) : Obj := { cls := .type "callable_iterator", data := .fields #[.ref mo, .str (Str.ofString "") ts, .bool false] }
noncomputable abbrev ciEnd : Obj := { cls := .type "callable_iterator", data := .fields #[.none, .none, .bool true] }
section
variable {prog : Program} {w : World} {A : Around} {E : Value → Shared → Prop} {s : Shared}
theorem callBorrowed_any {M : Model} {f : Value} {pos : List Value} {Q : Value → Shared → Prop}
    (hc : codeAny M A (.call f ⟨pos, []⟩) (fun r s' => match r with | .ok (.ret v) => Q v s' | .ok _ => False | .error e => E e s') s) :
    wpAny M A (callBorrowed f pos) Q E s := fun Γ p hΓ => by
  unfold callBorrowed
  rw [Sem.wp_call]
  refine wpCode_mono (fun r s' hr => ?_) (hc _ p rfl (hΓ.enter (.call f ⟨pos, []⟩) none p (by intro x; cases x)))
  rcases r with e | (v | _ | _ | _) <;> first | exact hr | exact hr.elim
/-- stopIteration inside a __next__ is the end of the loop -/
theorem stop_here {α : Type} {P : α → Shared → Prop} {A' : Around} {Q : Option Value → Shared → Prop} {R : Value → Shared → Prop} (hh : A.handled = none)
    (h : ∀ h', (∀ b o, s.heap.get? b = some o → h'.get? b = some o) → Q none { s with heap := h' }) :
    wpAny (model prog w) A (Builtin.SmallTypes.stopIteration : Sem α) P
      (fun e s' => wpAny (model prog w) A' (do if ← isInstance e (.type "StopIteration") then pure none else throw e) Q R s') s := by
  unfold Builtin.SmallTypes.stopIteration
  refine wpAny_bind ?_
  simp only [newExc, newTuple]
  refine wpAny_bind (wpAny_newObj_type ?_ (by size_fits))
  refine wpAny_bind (m := firstArgMember _ _) (wpAny_of_eq (a := Value.none) (by first | rfl | (simp only [firstArgMember]; rfl)) ?_)
  refine wpAny_newObj_type ?_ (by size_fits)
  simp only [raiseNew]
  refine wpAny_bind (wpAny_handled ?_)
  rw [hh]
  refine wpAny_bind (wpAny_pure (wpAny_throw ?_))
  refine wpAny_bind (wpAny_isInstance (T := "StopIteration") (b := true) ⟨_, Heap.get?_push_size _ rfl, rfl⟩ isSubtype_stop ?_)
  exact wpAny_pure (h _ fun b o e => Heap.get?_push_of_some _ (Heap.get?_push_of_some _ e))
theorem ci_ended {it : Addr} {Q : Option Value → Shared → Prop} (hh : A.handled = none) (hit : s.heap.get? it = some ciEnd)
    (h : ∀ h', (∀ b o, s.heap.get? b = some o → h'.get? b = some o) → Q none { s with heap := h' }) : wpAny (model prog w) A (pyNext (.ref it)) Q E s := by
  unfold pyNext
  have ht : s.TypeIs (.ref it) "callable_iterator" := ⟨_, hit, rfl⟩
  refine wpAny_bind (wpAny_attempt (wpAny_callSpecial?_slot (name := Str.ofString "__next__") ht ci_next (wpAny_call_entry ci_next ht ci_entry ?_ (ci_args _))))
  unfold Builtin.«callable_iterator.__next__»
  refine wpAny_bind (wpAny_pure ?_)
  refine wpAny_bind (wpAny_field hit rfl (x := .bool true) rfl ?_)
  rw [if_pos (by decide)]
  refine wpAny_bind (wpAny_rule (wpAny_bind ?_))
  exact stop_here (A := A.in1) (by exact hh) h
theorem ci_step {it mo f : Addr} {ts : Tok} {self : Value} {fo : Obj} {fd : FuncData} {Q : Option Value → Shared → Prop} (hh : A.handled = none) (hit : s.heap.get? it = some (ciObj mo ts))
    (hmo : s.heap.get? mo = some (methodObj (.ref f) self)) (hf : s.heap.get? f = some fo) (hfd : fo.data = .func fd)
    (h : codeAny (model prog w) A.in1 (.call (.ref f) ⟨[self], []⟩) (fun r s' => ∃ c t, r = .ok (.ret (.str c t)) ∧ s'.heap.get? it = some (ciObj mo ts) ∧ s'.heap.get? mo = some (methodObj (.ref f) self) ∧ s'.heap.get? f = some fo ∧
      (c ≠ Str.ofString "" → Q (some (.str c t)) s') ∧ (c = Str.ofString "" → ∀ h', Heap.ExtBut it s'.heap h' → h'.get? it = some ciEnd → Q none { s' with heap := h' })) s) :
    wpAny (model prog w) A (pyNext (.ref it)) Q E s := by
  have borrow : ∀ {s : Shared} {A : Around} {E : Value → Shared → Prop} {P : Bool → Shared → Prop}, s.heap.get? mo = some (methodObj (.ref f) self) → s.heap.get? f = some fo → P true s → wpAny (model prog w) A (borrowsExactly (.ref mo)) P E s := by
    intro s A E P h1 h2 h3
    unfold borrowsExactly
    refine wpAny_bind (wpAny_load h1 ?_)
    show wpAny _ _ (do match (← load f).data with | .func _ => pure true | _ => pure false) _ _ _
    refine wpAny_bind (wpAny_load h2 ?_)
    rw [hfd]
    exact wpAny_pure h3
  unfold pyNext
  have ht : s.TypeIs (.ref it) "callable_iterator" := ⟨_, hit, rfl⟩
  refine wpAny_bind (wpAny_attempt (wpAny_callSpecial?_slot (name := Str.ofString "__next__") ht ci_next (wpAny_call_entry ci_next ht ci_entry ?_ (ci_args _))))
  unfold Builtin.«callable_iterator.__next__»
  refine wpAny_bind (wpAny_pure ?_)
  refine wpAny_bind (wpAny_field hit rfl (x := .bool false) rfl ?_)
  rw [if_neg (by decide)]
  refine wpAny_bind (wpAny_field hit rfl (x := .ref mo) rfl ?_)
  refine wpAny_bind (wpAny_attempt ?_)
  unfold callOutOfASlot
  refine wpAny_bind (borrow hmo hf ?_)
  rw [if_pos rfl]
  refine callBorrowed_any (method_call hmo ?_)
  refine codeAny_mono h fun r s' hr => ?_
  obtain ⟨c, t, rfl, hit', hmo', hf', hgo, hend⟩ := hr
  dsimp only
  refine wpAny_bind (wpAny_field hit' rfl (x := .bool false) rfl ?_)
  rw [if_neg (by decide)]
  refine wpAny_bind (wpAny_field hit' rfl (x := .str (Str.ofString "") ts) rfl ?_)
  refine wpAny_bind (wpAny_holding (wpAny_eqBool_str ?_))
  by_cases hc : Str.ofString "" = c
  · rw [decide_eq_true hc, if_neg (by decide)]
    refine wpAny_bind (wpAny_rule (wpAny_bind ?_))
    show wpAny _ _ (do
      slotLetsGo "callable_iterator.__next__" (← field (.ref it) 0) fun | .builtin "callable_iterator.__next__" x => x.pos.head? == some (.ref it) | _ => false
      setField (.ref it) 0 .none; setField (.ref it) 1 .none; setField (.ref it) 2 (.bool true)) _ _ _
    refine wpAny_bind (wpAny_field hit' rfl (x := .ref mo) rfl ?_)
    unfold slotLetsGo
    refine wpAny_bind (wpAny_bind (borrow hmo' hf' ?_))
    rw [if_pos rfl]
    refine wpAny_pure ?_
    refine wpAny_bind (wpAny_setField hit' rfl (by simp) ?_)
    have e1 : ∀ h : Heap, h.get? it = some (ciObj mo ts) → (h.update it (Obj.mapFields (·.setIfInBounds 0 .none))).get? it = some { cls := .type "callable_iterator", data := .fields #[.none, .str (Str.ofString "") ts, .bool false] } := fun h e => Heap.get?_update_self _ e rfl
    refine wpAny_bind (wpAny_setField (e1 _ hit') rfl (by simp) ?_)
    have e2 : ∀ h : Heap, h.get? it = some { cls := .type "callable_iterator", data := .fields #[.none, .str (Str.ofString "") ts, .bool false] } → (h.update it (Obj.mapFields (·.setIfInBounds 1 .none))).get? it = some { cls := .type "callable_iterator", data := .fields #[.none, .none, .bool false] } := fun h e => Heap.get?_update_self _ e rfl
    refine wpAny_setField (e2 _ (e1 _ hit')) rfl (by simp) ?_
    refine stop_here (A := A.in1) (by exact hh) fun h' hk => ?_
    refine hend hc.symm h' (fun b o hb e => hk b o ?_) (hk _ _ (Heap.get?_update_self _ (e2 _ (e1 _ hit')) rfl))
    exact (Heap.get?_update_other _ _ (Ne.symm hb)).trans ((Heap.get?_update_other _ _ (Ne.symm hb)).trans ((Heap.get?_update_other _ _ (Ne.symm hb)).trans e))
  · rw [decide_eq_false hc, if_pos (by decide)]
    exact wpAny_pure ⟨_, rfl, wpAny_pure (hgo fun q => hc q.symm)⟩
end
end Mine
end
section
set_option compiler.extract_closed false
open PySem PySem.W PySem.Calls PyProof.Rows PySem.Builtin
set_option Elab.async false
set_option maxRecDepth 100000
set_option maxHeartbeats 1000000
namespace Mine
theorem ci_iter_entry : entryFor table "callable_iterator.__iter__" = some Builtin.«dict_keyiterator.__iter__» :=
  entryFor_alias (id' := "dict_keyiterator.__iter__") (by kernel_rfl) rfl (by decide +kernel) (by kernel_rfl)
theorem ci_iter_args (a : Value) : argsOk "callable_iterator.__iter__" ⟨[a], []⟩ := by unfold argsOk; kernel_rfl
theorem meth_call : Slot "method" "__call__" "method.__call__" :=
  .of (owner := "method") (n := "__call__") (by rw [typeLookup_type, builtinLookup_eq_fast]; kernel_rfl) (by decide +kernel) (by decide +kernel) (by decide +kernel)
    (by first | exact .inl (by decide +kernel) | exact .inr (by decide +kernel)) (by rw [isSubtype_type]; kernel_rfl)
theorem iter_entry : entryFor table "iter" = some Builtin.«iter» := entryFor_of_tree (by kernel_rfl)
theorem iter_args (a b : Value) : argsOk "iter" ⟨[a, b], []⟩ := by unfold argsOk; kernel_rfl
section
variable {prog : Program} {w : World} {A : Around} {E : Value → Shared → Prop} {s : Shared}
theorem ci_self {it : Addr} {o : Obj} {Q : Value → Shared → Prop} (hit : s.heap.get? it = some o) (hc : o.cls = .type "callable_iterator") (h : Q (.ref it) s) : wpAny (model prog w) A (pyIter (.ref it)) Q E s := by
  have ht : s.TypeIs (.ref it) "callable_iterator" := ⟨_, hit, hc⟩
  refine wpAny_pyIter_slot ht ci_iter (wpAny_call_entry ci_iter ht ci_iter_entry ?_ (ci_iter_args _))
  show wpAny _ _ (ret (.ref it)) _ _ s
  exact wpAny_pure ⟨_, rfl, "callable_iterator", _, ht, ci_next.lookup, h⟩
theorem call_iter2 {h₀ : Heap} {L mo : Addr} {m : Str → Option Value} {news : List (Addr × Obj)} {f self : Value} {ts : Tok} {Q : Value → Shared → Prop} (F : Fr h₀ L s.heap m) (N : News h₀ L s.heap news) (hmo : (mo, methodObj f self) ∈ news)
    (h : ∀ it h', Fr h₀ L h' m → News h₀ L h' ((it, ciObj mo ts) :: news) → (∀ p ∈ news, p.1 < it) → Q (.ref it) { s with heap := h' }) :
    wpAny (model prog w) A (call (.builtin "iter") [.ref mo, .str (Str.ofString "") ts]) Q E s := by
  refine call_function_entry (by decide +kernel) (by decide +kernel) iter_entry (iter_args _ _) ?_
  unfold Builtin.«iter»
  refine wpAny_bind (m := someArgs "iter" 1 2 _) (wpAny_of_eq (a := [Value.ref mo, .str (Str.ofString "") ts]) (by first | rfl | kernel_rfl!) ?_)
  dsimp only
  have ht : s.TypeIs (.ref mo) "method" := ⟨_, (N _ hmo).1, rfl⟩
  refine wpAny_bind (wpAny_specialOf (name := Str.ofString "__call__") ht meth_call.lookup ?_)
  refine wpAny_ite_split (fun hab => absurd hab (by decide)) (fun _ => ?_)
  refine wpAny_bind (wpAny_rule (wpAny_bind (wpAny_newObj_type ?_ (by size_fits))))
  exact wpAny_pure ⟨_, rfl, h _ _ (F.push _) (N.push F _) fun p hp => Heap.lt_size (N p hp).1⟩
end
end Mine
end
section
set_option compiler.extract_closed false
open PySem PySem.W PySem.Calls PyProof.Rows
set_option Elab.async false
set_option maxRecDepth 100000
set_option maxHeartbeats 1000000
namespace Mine
/-- what a call is to hand back: the rest of the ledger stands as it stood -/
noncomputable def RestR (h₀ : Heap) (L : Addr) (g : Heap) (rest : List (Addr × Obj)) (R : Result → Shared → Prop) : Result → Shared → Prop := fun r s' => News h₀ L s'.heap rest → (∀ p ∈ rest, g.get? p.1 = some p.2) → R r s'
theorem news_left {h₀ h : Heap} {L : Addr} {a b : List (Addr × Obj)} (N : News h₀ L h (a ++ b)) : News h₀ L h a := fun p hp => N p (List.mem_append_left _ hp)
theorem news_right {h₀ h : Heap} {L : Addr} {a b : List (Addr × Obj)} (N : News h₀ L h (a ++ b)) : News h₀ L h b := fun p hp => N p (List.mem_append_right _ hp)
theorem news_app {h₀ h : Heap} {L : Addr} {a b : List (Addr × Obj)} (N : News h₀ L h a) (N' : News h₀ L h b) : News h₀ L h (a ++ b) := fun p hp => (List.mem_append.mp hp).elim (N p) (N' p)
section
variable {prog : Program} {w : World} {A₀ A : Around} {s : Shared} {base h₀ : Heap} {outer : List Env} {L : Addr} {m : Str → Option Value} {env : Env} {news rest : List (Addr × Obj)}
  {R : Result → Shared → Prop} {name qual : Str} {params : Arguments} {body : List Stmt} {scope : Scope} {cl : List (Str × Addr)} {dV kV doc pm cdv ct : Value} {an : Option Addr} {fo : Obj} {f : Addr} {args : Args} {binds : List (Str × Value)}
theorem rest_back {v : Value} {s' : Shared} (N : News h₀ L s.heap (news ++ rest)) (hsep : ∀ p ∈ rest, p.1 ∉ news.map (·.1)) (hl : LeaveK h₀ L m (hideAll s.heap (news.map (·.1))) (RestR h₀ L (hideAll s.heap (news.map (·.1))) rest R) v s')
    (lv : LeaveK h₀ L m (hideAll s.heap (news.map (·.1))) (RestR h₀ L (hideAll s.heap (news.map (·.1))) rest R) v s' → RestR h₀ L (hideAll s.heap (news.map (·.1))) rest R (.ok (.ret v)) s') : R (.ok (.ret v)) s' := by
  have hg : ∀ p ∈ rest, (hideAll s.heap (news.map (·.1))).get? p.1 = some p.2 := fun p hp => hideAll_get _ (N p (List.mem_append_right _ hp)).1 (hsep p hp)
  refine lv hl (fun p hp => ?_) hg
  obtain ⟨L', m', news', F', N', k⟩ := hl
  have n := N p (List.mem_append_right _ hp)
  exact ⟨F'.keep _ _ (hg p hp), n.2⟩
theorem callR_plain (B : Below A₀ base outer h₀) (F : Fr h₀ L s.heap m) (N : News h₀ L s.heap (news ++ rest)) (hsep : ∀ p ∈ rest, p.1 ∉ news.map (·.1)) (hlim : h₀.NoLimit) (hA : A.frames = some (env :: outer)) (hf : env.frame = some L) (hke : env.scope.kind = .function)
    (ho : s.heap.get? f = some fo) (hd : fo.data = .func (fnX name qual params body scope cl dV kV doc pm an cdv ct)) (hcd : s.heap.CodeRec cdv qual) (hroom : A.depth < recursionLimit)
    (hbind : BindsTo s (fnX name qual params body scope cl dV kV doc pm an cdv ct) args binds) (hloc : ∀ y ∈ binds, scope.names.lookup y.1 = some .local)
    (h : ∀ g L' h₁, Fr h₀ L g m → Fr g L' h₁ (fun y => binds.reverse.lookup y) → News g L' h₁ news → Below A base (env :: outer) g → h₀.StaysIn g → (∀ p ∈ news, p.1 < L') → (∀ p ∈ rest, p.1 < L') → (∀ b o, b ∉ news.map (·.1) → s.heap.get? b = some o → g.get? b = some o) →
      wpAny (model prog w) (A.deeper (envX qual scope L' f cdv cl)) (execs body (envX qual scope L' f cdv cl))
        (fun fl s' => LeaveK h₀ L m g (RestR h₀ L g rest R) (match fl with | .ret v => v | _ => .none) s')
        (fun e s' => wpAny (model prog w) (A.deeper (envX qual scope L' f cdv cl)) (leaving (envX qual scope L' f cdv cl) e) (fun _ s'' => R (.error e) s'') (fun e' s'' => R (.error e') s'') s')
        { s with heap := h₁, toks := s.toks + binds.length })
    (hcell : ∀ x ∈ scope.names, x.2 ≠ .cell) (hco : scope.isCoroutine = false := by rfl) (hgen : scope.isGenerator = false := by rfl) (hk : scope.kind = .function := by rfl) : codeAny (model prog w) A (.call (.ref f) args) R s := by
  have N1 := news_left N
  obtain ⟨FG, BG, st, lv⟩ := groundX (R := RestR h₀ L (hideAll s.heap (news.map (·.1))) rest R) B F N1 hA hf hke
  refine codeAny_call_def (fd := fnX name qual params body scope cl dV kV doc pm an cdv ct) (body := body) (binds := binds) hroom ho hd (hlim.keeps F.keep) hcd rfl hbind hcell hloc (fun h₁ hns hk₁ => ?_) hco hgen hk
  exact wpAny_mono (h _ s.heap.objs.size h₁ FG ⟨hns, fun b o e => hk₁ b o (of_hideAll _ e), Nat.le_of_eq (hideAll_size _ _)⟩
    (fun p hp => ⟨hk₁ _ _ (N1 p hp).1, Nat.ne_of_lt (Heap.lt_size (N1 p hp).1), hideAll_none _ (List.mem_map_of_mem hp)⟩) BG st (fun p hp => Heap.lt_size (N1 p hp).1) (fun p hp => Heap.lt_size (N p (List.mem_append_right _ hp)).1) (fun b o hb e => hideAll_get _ e hb)) (fun fl s' hl => rest_back N hsep hl (lv _ _)) fun _ _ y => y
theorem callR_cells (B : Below A₀ base outer h₀) (F : Fr h₀ L s.heap m) (N : News h₀ L s.heap (news ++ rest)) (hsep : ∀ p ∈ rest, p.1 ∉ news.map (·.1)) (hlim : h₀.NoLimit) (hA : A.frames = some (env :: outer)) (hf : env.frame = some L) (hke : env.scope.kind = .function)
    (ho : s.heap.get? f = some fo) (hd : fo.data = .func (fnX name qual params body scope [] dV kV doc pm an cdv ct)) (hcd : s.heap.CodeRec cdv qual) (hroom : A.depth < recursionLimit)
    (hbind : BindsTo s (fnX name qual params body scope [] dV kV doc pm an cdv ct) args binds)
    (hkind : ∀ n, ∀ x ∈ binds, scope.names.lookup x.1 = some .local ∨ (scope.names.lookup x.1 = some .cell ∧ ((cellsFrom n scope.names []).lookup x.1).isSome = true))
    (hnd : ((cellsFrom 0 scope.names []).map (·.1)).Nodup)
    (h : ∀ g L' h₁ tk cells, Fr h₀ L g m → Fr g L' h₁ (bindL (envOfC qual scope L' f cdv).kindOf binds fun _ => none) → News g L' h₁ (cells ++ news) →
      CellsAre (bindC (envOfC qual scope L' f cdv).kindOf binds fun _ => none) (cellsFrom (L' + 1) scope.names []) cells → Below A base (env :: outer) g → h₀.StaysIn g → (∀ p ∈ news, p.1 < L') → (∀ p ∈ rest, p.1 < L') → (∀ b o, b ∉ news.map (·.1) → s.heap.get? b = some o → g.get? b = some o) →
      wpAny (model prog w) (A.deeper (envOfC qual scope L' f cdv)) (execs body (envOfC qual scope L' f cdv))
        (fun fl s' => LeaveK h₀ L m g (RestR h₀ L g rest R) (match fl with | .ret v => v | _ => .none) s')
        (fun e s' => wpAny (model prog w) (A.deeper (envOfC qual scope L' f cdv)) (leaving (envOfC qual scope L' f cdv) e) (fun _ s'' => R (.error e) s'') (fun e' s'' => R (.error e') s'') s')
        { s with heap := h₁, toks := tk })
    (hco : scope.isCoroutine = false := by rfl) (hgen : scope.isGenerator = false := by rfl) (hk : scope.kind = .function := by rfl) : codeAny (model prog w) A (.call (.ref f) args) R s := by
  have N1 := news_left N
  obtain ⟨FG, BG, st, lv⟩ := groundX (R := RestR h₀ L (hideAll s.heap (news.map (·.1))) rest R) B F N1 hA hf hke
  refine codeAny_call_function hroom ho hd hco hgen rfl hcd (hbind _ _ _ _ ?_)
  refine wpAny_newFunctionEnv_cells hk (hkind _) fun env' he s' x => ?_
  subst he
  refine ⟨(hlim.keeps F.keep).keeps x.toInCall.keep, codeAny_func ?_⟩
  obtain ⟨h₁, tk, rfl, _⟩ := x.done
  have hk₁ := x.toInCall.keep
  obtain ⟨cells, NC, Y⟩ := Cl.news (h₀ := s.heap) (Nat.le_refl _) fun n c hm => ⟨x.cell n c (lookup_of_mem_nodup (cellsFrom_names scope.names 0 (s.heap.objs.size + 1) [] [] rfl ▸ hnd) hm), x.above n c hm⟩
  refine wpAny_mono (h _ s.heap.objs.size h₁ tk cells FG ⟨x.toInCall.ns, fun b o e => hk₁ b o (of_hideAll _ e), Nat.le_of_eq (hideAll_size _ _)⟩ (fun p hp => ?_) Y BG st (fun p hp => Heap.lt_size (N1 p hp).1) (fun p hp => Heap.lt_size (N p (List.mem_append_right _ hp)).1) (fun b o hb e => hideAll_get _ e hb)) (fun fl s' hl => rest_back N hsep hl (lv _ _)) fun _ _ y => y
  rcases List.mem_append.mp hp with hp | hp
  · refine ⟨(NC p hp).1, (NC p hp).2.1, ?_⟩
    cases q : (hideAll s.heap (news.map (·.1))).get? p.1 with
    | none => rfl
    | some o => have := of_hideAll _ q; rw [(NC p hp).2.2] at this; cases this
  · exact ⟨hk₁ _ _ (N1 p hp).1, Nat.ne_of_lt (Heap.lt_size (N1 p hp).1), hideAll_none _ (List.mem_map_of_mem hp)⟩
end
section
variable {prog : Program} {w : World} {A₀ A : Around} {s : Shared} {K : Frag} {base h₀ : Heap} {outer : List Env} {L : Addr} {m mg mb : Str → Option Value} {env : Env} {news rest : List (Addr × Obj)} {p : Program} {loose : List Str} {mean : ExcName → Option Value}
  {R : Result → Shared → Prop} {name qual : Str} {params : Arguments} {body : List Stmt} {scope : Scope} {dV kV doc pm cdv ct oc : Value} {an od : Option Addr} {osl : Array (Option Value)} {f : Addr} {args : Args} {binds : List (Str × Value)}
theorem code_defR (B : Below A₀ base outer h₀) (F : Fr h₀ L s.heap m) (X₀ : K.In h₀) (N : News h₀ L s.heap (news ++ rest)) (T : Top p loose mean mg mb h₀) (hsep : ∀ p ∈ rest, p.1 ∉ news.map (·.1)) (hA : A.frames = some (env :: outer)) (hf : env.frame = some L) (hke : env.scope.kind = .function)
    (ho : K.lookup f = some ⟨oc, od, .func (fnOf name qual params body scope dV kV doc pm an cdv ct), osl⟩) (hcd : codeIn K cdv qual = true) (hroom : A.depth < recursionLimit)
    (hbind : BindsTo s (fnOf name qual params body scope dV kV doc pm an cdv ct) args binds) (hloc : ∀ y ∈ binds, scope.names.lookup y.1 = some .local)
    (h : ∀ g L' h₁, Fr h₀ L g m → Fr g L' h₁ (fun y => binds.reverse.lookup y) → News g L' h₁ news → Below A base (env :: outer) g → K.In g → Top p loose mean mg mb g → (∀ p ∈ news, p.1 < L') → (∀ p ∈ rest, p.1 < L') → (∀ b o, b ∉ news.map (·.1) → s.heap.get? b = some o → g.get? b = some o) →
      wpAny (model prog w) (A.deeper (envOf qual scope L' f cdv)) (execs body (envOf qual scope L' f cdv))
        (fun fl s' => LeaveK h₀ L m g (RestR h₀ L g rest R) (match fl with | .ret v => v | _ => .none) s')
        (fun e s' => wpAny (model prog w) (A.deeper (envOf qual scope L' f cdv)) (leaving (envOf qual scope L' f cdv) e) (fun _ s'' => R (.error e) s'') (fun e' s'' => R (.error e') s'') s')
        { s with heap := h₁, toks := s.toks + binds.length })
    (hco : scope.isCoroutine = false) (hgen : scope.isGenerator = false) (hk : scope.kind = .function)
    (hcell : ∀ x ∈ scope.names, x.2 ≠ .cell) : codeAny (model prog w) A (.call (.ref f) args) R s :=
  callR_plain (cl := []) B F N hsep T.nolimit hA hf hke ((X₀.keeps F.keep) _ _ ho) rfl (codeRec_of (X₀.keeps F.keep) hcd) hroom hbind hloc (fun g L' h₁ FG F' N' B' st l l2 l3 => h g L' h₁ FG F' N' B' (X₀.keeps st) (T.keeps st) l l2 l3) hcell hco hgen hk
theorem code_defCR (B : Below A₀ base outer h₀) (F : Fr h₀ L s.heap m) (X₀ : K.In h₀) (N : News h₀ L s.heap (news ++ rest)) (T : Top p loose mean mg mb h₀) (hsep : ∀ p ∈ rest, p.1 ∉ news.map (·.1)) (hA : A.frames = some (env :: outer)) (hf : env.frame = some L) (hke : env.scope.kind = .function)
    (ho : K.lookup f = some ⟨oc, od, .func (fnOf name qual params body scope dV kV doc pm an cdv ct), osl⟩) (hcd : codeIn K cdv qual = true) (hroom : A.depth < recursionLimit)
    (hbind : BindsTo s (fnOf name qual params body scope dV kV doc pm an cdv ct) args binds) (hkind : (binds.all fun y => scope.names.lookup y.1 == some .local || scope.names.lookup y.1 == some .cell) = true)
    (hnd : ((cellsFrom 0 scope.names []).map (·.1)).Nodup)
    (h : ∀ g L' h₁ tk cells, Fr h₀ L g m → Fr g L' h₁ (bindL (envOfC qual scope L' f cdv).kindOf binds fun _ => none) → News g L' h₁ (cells ++ news) →
      CellsAre (bindC (envOfC qual scope L' f cdv).kindOf binds fun _ => none) (cellsFrom (L' + 1) scope.names []) cells → Below A base (env :: outer) g → K.In g → Top p loose mean mg mb g → (∀ p ∈ news, p.1 < L') → (∀ p ∈ rest, p.1 < L') → (∀ b o, b ∉ news.map (·.1) → s.heap.get? b = some o → g.get? b = some o) →
      wpAny (model prog w) (A.deeper (envOfC qual scope L' f cdv)) (execs body (envOfC qual scope L' f cdv))
        (fun fl s' => LeaveK h₀ L m g (RestR h₀ L g rest R) (match fl with | .ret v => v | _ => .none) s')
        (fun e s' => wpAny (model prog w) (A.deeper (envOfC qual scope L' f cdv)) (leaving (envOfC qual scope L' f cdv) e) (fun _ s'' => R (.error e) s'') (fun e' s'' => R (.error e') s'') s')
        { s with heap := h₁, toks := tk })
    (hco : scope.isCoroutine = false) (hgen : scope.isGenerator = false) (hk : scope.kind = .function) : codeAny (model prog w) A (.call (.ref f) args) R s :=
  callR_cells B F N hsep T.nolimit hA hf hke ((X₀.keeps F.keep) _ _ ho) rfl (codeRec_of (X₀.keeps F.keep) hcd) hroom hbind (kindsX hkind) hnd (fun g L' h₁ tk cells FG F' N' Y B' st l l2 l3 => h g L' h₁ tk cells FG F' N' Y B' (X₀.keeps st) (T.keeps st) l l2 l3) hco hgen hk
end
end Mine
end
section
set_option compiler.extract_closed false
open PySem PySem.W PySem.Calls PyProof.Rows
set_option Elab.async false
set_option maxRecDepth 100000
set_option maxHeartbeats 1000000
namespace Mine
section
variable {prog : Program} {w : World} {A : Around} {E : Value → Shared → Prop} {s : Shared} {h₀ : Heap} {L D : Addr} {m : Str → Option Value} {news news' : List (Addr × Obj)} {v v' : Value} {n : Nat} {t : Tok}
theorem one_get {Q : Value → Shared → Prop} (N : News h₀ L s.heap news) (hm : (D, listOf #[v] n) ∈ news) (h : Q v s) : wpAny (model prog w) A (getItem (.ref D) (.int 0 t)) Q E s :=
  wpAny_getItem_list (PySem.IsL.isList (n := n) (N _ hm).1) (by decide) (by decide) rfl h
theorem one_sub {value slice : PySem.Expr} {Q : Value → Shared → Prop} (N : News h₀ L s.heap news) (hm : (D, listOf #[v] n) ∈ news) (h : Q v s)
    (hs : subscripted slice false (.ref D) (.int 0 t) = operate [.ref D, .int 0 t] (getItem (.ref D) (.int 0 t)) := by with_unfolding_all rfl) : wpAny (model prog w) A (subscriptTail value slice (.ref D) (.int 0 t)) Q E s :=
  have hL := PySem.IsL.isList (n := n) (N _ hm).1
  tail_any hL.typeIs slot_list_getitem.lookup (one_get N hm h) hs
theorem one_set {Q : Unit → Shared → Prop} (F : Fr h₀ L s.heap m) (N : News h₀ L s.heap news) (U : Upd D (listOf #[v] n) (listOf #[v'] n) news news')
    (h : ∀ h', Fr h₀ L h' m → News h₀ L h' news' → Q () { s with heap := h' }) : wpAny (model prog w) A (setItem (.ref D) (.int 0 t) v') Q E s := by
  obtain ⟨pre, post, rfl, rfl, a, b⟩ := U.split
  have z := N (D, listOf #[v] n) (List.mem_append.mpr (.inr (.head _)))
  exact ki_setAt z.1 (by decide) (by decide) (by simp) (h _ (F.change (Heap.SameBut.update ..) z.2.1 z.2.2) (ki_turn _ N a b (by simp) (by simp)))
end
end Mine
end
section
set_option compiler.extract_closed false
open PySem PySem.W PySem.Calls PyProof.Rows
set_option Elab.async false
set_option maxRecDepth 100000
namespace Mine
noncomputable abbrev PP : Program := PySem.Challenge.pw_re0024_01
noncomputable abbrev KK : Params → Frag := Mine.hd.heap_39
/-! the def `read` within `_law_read`, taken out of the row -/
noncomputable def bodyOf : Stmt → List Stmt
  | .FunctionDef _ _ b .. => b
  | _ => []
noncomputable def argsOf : Stmt → Arguments
  | .FunctionDef _ a .. => a
  | _ => default
noncomputable def scopeOf : Stmt → Scope
  | .FunctionDef _ _ _ _ _ _ s .. => s
  | _ => default
noncomputable def nth : List Stmt → Nat → Stmt
  | [], _ => default
  | a :: _, 0 => a
  | _ :: r, n + 1 => nth r n
noncomputable def rdDef : Stmt := nth (bodyOf (nth PP.main.body 9)) 1
noncomputable def rdArgs : Arguments := argsOf rdDef
noncomputable def rdBody : List Stmt := bodyOf rdDef
noncomputable def rdScope : Scope := scopeOf rdDef
noncomputable abbrev cellIs (o : Obj) (v : Value) : Prop := o.data = .cell (some v)
/-- two addresses that differ (a word that omega does not see) -/
noncomputable def Apart (a b : Nat) : Prop := a ≠ b
theorem Apart.ne {a b : Nat} (h : Apart a b) : a ≠ b := h
theorem Apart.en {a b : Nat} (h : Apart a b) : b ≠ a := Ne.symm h
/-- the addresses of one lexer and what it reads from -/
structure Lx where
  x : Nat
  dx : Nat
  st : Nat
  sd : Nat
  rf : Nat
  rc : Nat
  ca : Nat
  ct : Nat
  al : Nat
  pb : Nat
  oa : Obj
  ot : Obj
  lf : FuncData
  sl : Array (Option Value)
  qual : Str
  doc : Value
  pm : Value
  ctv : Value
  t0 : Tok
  t1 : Tok
  t2 : Tok
  t3 : Tok
  t4 : Tok
  t5 : Tok
/-- the lexer's dict -/
noncomputable abbrev lxDict (w : World) (l : Lx) (ln : Int) (tl : Tok) : Obj :=
  dictOf [⟨PyData.keyHash w.params "lineno", .str "lineno" l.t0, .int ln tl⟩, ⟨PyData.keyHash w.params "instream", .str "instream" l.t1, .ref l.st⟩,
    ⟨PyData.keyHash w.params "whitespace", .str "whitespace" l.t2, .str "\n\t\x0d " l.t3⟩, ⟨PyData.keyHash w.params "pushback", .str "pushback" l.t4, .ref l.pb⟩] 4
/-- the ledger of one lexer -/
noncomputable abbrev lxNews (w : World) (l : Lx) (ln : Int) (tl : Tok) (k : Int) (tk : Tok) : List (Addr × Obj) :=
  [(l.dx, lxDict w l ln tl), (l.al, W.listOf #[.int k tk] 0), (l.x, instObj 59 l.dx), (l.pb, W.listOf #[] 0), (l.st, ⟨.type "function", some l.sd, .func l.lf, l.sl⟩), (l.sd, dictOf [⟨PyData.keyHash w.params "read", .str "read" l.t5, .ref l.rf⟩] 1),
   (l.rf, fnMade "read" l.qual rdArgs rdBody rdScope [("text", l.ct), ("asked", l.ca)] l.doc l.pm l.rc l.ctv), (l.ca, l.oa), (l.ct, l.ot)]
/-- what holds of the parts of one lexer, whatever it has read -/
structure LxOk (l : Lx) (text : Str) (tt : Tok) : Prop where
  asked : l.oa.data = .cell (some (.ref l.al))
  text : l.ot.data = .cell (some (.str text tt))
  ne1 : Apart l.dx l.al ∧ Apart l.dx l.x ∧ Apart l.dx l.pb ∧ Apart l.dx l.st ∧ Apart l.dx l.sd ∧ Apart l.dx l.rf ∧ Apart l.dx l.ca ∧ Apart l.dx l.ct
  ne2 : Apart l.al l.x ∧ Apart l.al l.pb ∧ Apart l.al l.st ∧ Apart l.al l.sd ∧ Apart l.al l.rf ∧ Apart l.al l.ca ∧ Apart l.al l.ct
/-- a code object is none of a lexer's own -/
theorem lx_code {w : World} {l : Lx} {text : Str} {tt : Tok} {ln k : Int} {t1 t2 : Tok} {h : Heap} (ok : LxOk l text tt) (N : ∀ p ∈ lxNews w l ln t1 k t2, h.get? p.1 = some p.2) (hc : h.CodeRec (.ref l.rc) l.qual) : l.rc ∉ (lxNews w l ln t1 k t2).map (·.1) := by
  obtain ⟨c, o, vs, t, e, ho, hd, hv⟩ := hc
  cases e
  have hno : ∀ p ∈ lxNews w l ln t1 k t2, p.2.data ≠ .fields vs := by
    intro p hp
    simp only [lxNews, List.mem_cons, List.not_mem_nil, or_false] at hp
    rcases hp with rfl | rfl | rfl | rfl | rfl | rfl | rfl | rfl | rfl
    all_goals first | (intro q; cases q; done) | (intro q; rw [ok.asked] at q; cases q) | (intro q; rw [ok.text] at q; cases q)
  intro hm
  obtain ⟨p, hp, e⟩ := List.mem_map.mp hm
  have := N p hp
  rw [e, ho] at this
  exact hno p hp ((Option.some.inj this) ▸ hd)
theorem code_into {h h' : Heap} {c : Addr} {q : Str} (hc : h.CodeRec (.ref c) q) (k : ∀ o, h.get? c = some o → h'.get? c = some o) : h'.CodeRec (.ref c) q :=
  let ⟨c', o, vs, t, e, ho, r⟩ := hc; ⟨c', o, vs, t, e, by cases e; exact k _ ho, r⟩
end Mine
end
section
set_option compiler.extract_closed false
open PySem PySem.W PyProof.Rows
set_option Elab.async false
namespace Mine
/-! the plain lexer -/
noncomputable def ws (c : Nat) : Bool := c == 10 || c == 9 || c == 13 || c == 32
noncomputable def lexB : List Nat → List Nat → List Nat × Option (List Nat)
  | acc, [] => (acc, none)
  | acc, c :: r => if ws c then (acc, some r) else if c = 92 then (match r with | [] => (acc, none) | d :: r' => lexB (acc ++ [d]) r') else lexB (acc ++ [c]) r
noncomputable def lexQ : List Nat → List Nat → List Nat × Option (List Nat)
  | acc, [] => (acc, none)
  | acc, c :: r => if c = 34 then (acc, some r) else if c = 92 then (match r with | [] => (acc, none) | d :: r' => lexQ (acc ++ [d]) r') else lexQ (acc ++ [c]) r
noncomputable def lexT : List Nat → List Nat × Option (List Nat)
  | [] => ([], none)
  | c :: r => if ws c then lexT r else if c = 34 then lexQ [] r else if c = 92 then (match r with | [] => ([], none) | d :: r' => lexB [d] r') else lexB [c] r
noncomputable def nl (l : List Nat) : Int := (l.count 10 : Int)
/-- what is left of a text at a place -/
noncomputable def rem (text : Str) (k : Int) : List Nat := text.cps.toList.drop k.toNat
open PySem.Builtin.Str in
theorem idx_clip (len : Nat) {i j : Int} (hi : 0 ≤ i) (hj : 0 ≤ j) : strSliceIndices (some i) (some j) 1 len = strSliceIndices (some (min i len)) (some (min j len)) 1 len := by
  have a1 : ¬ i < 0 := Int.not_lt.mpr hi
  have a2 : ¬ j < 0 := Int.not_lt.mpr hj
  have a3 : ¬ (min i (len : Int) < 0) := Int.not_lt.mpr (Int.le_min.mpr ⟨hi, Int.natCast_nonneg len⟩)
  have a4 : ¬ (min j (len : Int) < 0) := Int.not_lt.mpr (Int.le_min.mpr ⟨hj, Int.natCast_nonneg len⟩)
  have e1 : min (min i (len : Int)) len = min i len := Int.min_eq_left (Int.min_le_right i len)
  have e2 : min (min j (len : Int)) len = min j len := Int.min_eq_left (Int.min_le_right j len)
  simp [strSliceIndices, a1, a2, a3, a4]
open PySem.Builtin.Str in
theorem idx_none (len : Nat) {i j : Int} (hi : 0 ≤ j) (hij : j ≤ i) : strSliceIndices (some i) (some j) 1 len = strSliceIndices (some (min j len)) (some (min j len)) 1 len := by
  have a1 : ¬ i < 0 := Int.not_lt.mpr (Int.le_trans hi hij)
  have a2 : ¬ j < 0 := Int.not_lt.mpr hi
  have p : (0 : Int) ≤ min j (len : Int) := Int.le_min.mpr ⟨hi, Int.natCast_nonneg len⟩
  have a3 : ¬ (min j (len : Int) < 0) := Int.not_lt.mpr p
  have e1 : min (min j (len : Int)) len = min j len := Int.min_eq_left (Int.min_le_right j len)
  have r : min j (len : Int) ≤ min i (len : Int) := Int.le_min.mpr ⟨Int.le_trans (Int.min_le_left _ _) hij, Int.min_le_right _ _⟩
  have e2 : max (0 : Int) (min j (len : Int)) ≤ max (0 : Int) (min i (len : Int)) := by
    rw [Int.max_eq_right p, Int.max_eq_right (Int.le_trans p r)]
    exact r
  simp only [strSliceIndices, a1, a2, a3, if_false, e1]
  simp only [show (1 : Int) > 0 from by decide, if_true]
  simp only [sliceRange]
  have e3 : ¬ (max (0 : Int) (min i (len : Int)) < max (0 : Int) (min j (len : Int))) := Int.not_lt.mpr e2
  simp [e3]
theorem len_list (x : Str) : x.cps.toList.length = x.length := by simp [Str.length]
/-- a slice between two places, wherever they lie -/
theorem slice_eq {x : Str} {i j : Int} (hi : 0 ≤ i) (hj : 0 ≤ j) : Txt.slice x (some i) (some j) = ⟨((x.cps.toList.drop i.toNat).take (j.toNat - i.toNat)).toArray⟩ := by
  have hl := len_list x
  have z : (0 : Int) ≤ (x.length : Int) := Int.natCast_nonneg _
  by_cases h : i ≤ j
  · have e : Txt.slice x (some i) (some j) = Txt.slice x (some (min i x.length)) (some (min j x.length)) := by
      unfold Txt.slice
      rw [idx_clip x.length hi hj]
    have c := slice_closes (x := x) (i := min i x.length) (j := min j x.length) ⟨Int.le_min.mpr ⟨hi, z⟩, Int.le_min.mpr ⟨Int.le_trans (Int.min_le_left _ _) h, Int.min_le_right _ _⟩, Int.min_le_right _ _⟩
    rw [e, beq_iff_eq.mp c]
    apply congrArg Str.mk
    apply congrArg List.toArray
    by_cases hb : i ≤ x.length
    · have h1 : (min i (x.length : Int)) = i := Int.min_eq_left hb
      rw [h1]
      by_cases hc : j ≤ x.length
      · have h2 : (min j (x.length : Int)) = j := Int.min_eq_left hc
        rw [h2, tnB hi h]
      · have h2 : (min j (x.length : Int)) = x.length := Int.min_eq_right (Int.le_of_not_le hc)
        rw [h2, List.take_of_length_le (by rw [List.length_drop, hl, tnB hi hb, Int.toNat_natCast]; exact Nat.le_refl _), List.take_of_length_le (by rw [List.length_drop, hl]; exact Nat.sub_le_sub_right ((Int.le_toNat hj).mpr (Int.le_of_not_le hc)) _)]
    · have hb' := Int.le_of_not_le hb
      rw [List.drop_eq_nil_of_le (show x.cps.toList.length ≤ (min i (x.length : Int)).toNat by rw [Int.min_eq_right hb', Int.toNat_natCast, hl]; exact Nat.le_refl _), List.drop_eq_nil_of_le (show x.cps.toList.length ≤ i.toNat by rw [hl]; exact (Int.le_toNat hi).mpr hb')]
      simp
  · have h' := Int.le_of_not_le h
    have e : Txt.slice x (some i) (some j) = Txt.slice x (some (min j x.length)) (some (min j x.length)) := by
      unfold Txt.slice
      rw [idx_none x.length hj h']
    have c := slice_closes (x := x) (i := min j x.length) (j := min j x.length) ⟨Int.le_min.mpr ⟨hj, z⟩, Int.le_refl _, Int.min_le_right _ _⟩
    rw [e, beq_iff_eq.mp c]
    apply congrArg Str.mk
    apply congrArg List.toArray
    rw [show (min j (x.length : Int) - min j (x.length : Int)).toNat = 0 from by rw [Int.sub_self]; rfl, show j.toNat - i.toNat = 0 from Nat.sub_eq_zero_of_le (Int.toNat_le_toNat h')]
    simp
theorem rem_nil {text : Str} {k : Int} (hk : (text.length : Int) ≤ k) : rem text k = [] := by
  unfold rem
  rw [List.drop_eq_nil_iff]
  have := len_list text
  omega
theorem rem_len {text : Str} {k : Int} (h0 : 0 ≤ k) (hk : k ≤ (text.length : Int)) : ((rem text k).length : Int) = text.length - k := by
  unfold rem
  rw [List.length_drop, len_list text, Int.ofNat_sub (tnE hk), Int.toNat_of_nonneg h0]
theorem rem_cons {text : Str} {k : Int} (h0 : 0 ≤ k) (hk : k < (text.length : Int)) : ∃ c, rem text k = c :: rem text (k + 1) ∧ Txt.slice text (some k) (some (k + 1)) = ⟨#[c]⟩ := by
  have hl := len_list text
  have hlt : k.toNat < text.cps.toList.length := by rw [hl]; exact tnL h0 hk
  refine ⟨text.cps.toList[k.toNat], ?_, ?_⟩
  · unfold rem
    rw [List.drop_eq_getElem_cons hlt, tnS h0]
  · rw [slice_eq h0 (by omega), List.drop_eq_getElem_cons hlt, show (k + 1).toNat - k.toNat = 1 from by rw [tnS h0, Nat.add_sub_cancel_left]]
    rfl
theorem slice_end {text : Str} {k : Int} (h0 : 0 ≤ k) (hk : (text.length : Int) ≤ k) : Txt.slice text (some k) (some (k + 1)) = Str.ofString "" := by
  have hl := len_list text
  rw [slice_eq h0 (by omega), List.drop_eq_nil_of_le (by omega), List.take_nil]
  rfl
theorem nl_cons (c : Nat) (l : List Nat) : nl (c :: l) = (if c = 10 then 1 else 0) + nl l := by
  unfold nl
  rw [List.count_cons]
  by_cases h : c = 10
  · simp [h]; omega
  · simp [h]
theorem nl_nil : nl [] = 0 := rfl
end Mine
end
section
set_option compiler.extract_closed false
open PySem PySem.W PyProof.Rows
set_option Elab.async false
namespace Mine
theorem ws_occ (c : Nat) : (Builtin.Str.occurrences (Str.ofString "\n\t\x0d ") ⟨#[c]⟩ 0 (Str.ofString "\n\t\x0d ").length 1).isEmpty = !ws c := by
  have h := StrLaws.found_one (Str.ofString "\n\t\x0d ") c
  have e : (Str.ofString "\n\t\x0d ").cps.toList = [10, 9, 13, 32] := by decide +kernel
  rw [e] at h
  have h2 : ws c = decide (c ∈ [10, 9, 13, 32]) := by
    unfold ws
    rw [Bool.eq_iff_iff]
    simp [or_assoc]
  rw [h2, ← h, Bool.not_not]
theorem one_eq (c d : Nat) (x : Str) (hx : x = ⟨#[d]⟩) : ((⟨#[c]⟩ : Str) == x) = decide (c = d) := by
  subst hx
  rw [Bool.eq_iff_iff, beq_iff_eq, decide_eq_true_eq]
  constructor
  · intro h; injection h with h; injection h with h; injection h with h
  · rintro rfl; rfl
theorem nl_sign : Str.ofString "\n" = ⟨#[10]⟩ := by decide +kernel
theorem quote_sign : Str.ofString "\"" = ⟨#[34]⟩ := by decide +kernel
theorem back_sign : Str.ofString "\\" = ⟨#[92]⟩ := by decide +kernel
theorem ln_step (ln : Int) (c : Nat) (r : List Nat) : (if ((⟨#[c]⟩ : Str) == Str.ofString "\n") = true then ln + 1 else ln) + nl r = ln + nl (c :: r) := by
  rw [one_eq c 10 _ nl_sign, nl_cons]
  by_cases h : c = 10 <;> simp [h] <;> omega
theorem str_app (x : Str) (c : Nat) : (x ++ (⟨#[c]⟩ : Str)).cps.toList = x.cps.toList ++ [c] := by
  rw [Str.cps_append]; simp
theorem str_app_nil (x : Str) : x ++ Str.ofString "" = x := by
  apply Str.ext'
  rw [Str.cps_append]
  rfl
theorem ln_nil (ln : Int) : (if (Str.ofString "" == Str.ofString "\n") = true then ln + 1 else ln) = ln := if_neg (by decide +kernel)
theorem app_len (x : Str) (c : Nat) : (x ++ (⟨#[c]⟩ : Str)).length = x.length + 1 := by rw [Str.length_append]; rfl
theorem lexB_ws {acc r : List Nat} {c : Nat} (h : ws c = true) : lexB acc (c :: r) = (acc, some r) := by
  unfold lexB; rw [if_pos h]
theorem lexB_plain {acc r : List Nat} {c : Nat} (h : ws c = false) (h2 : c ≠ 92) : lexB acc (c :: r) = lexB (acc ++ [c]) r := by
  rw [lexB.eq_def]; simp [h, h2]
theorem lexB_esc {acc r : List Nat} {d : Nat} : lexB acc (92 :: d :: r) = lexB (acc ++ [d]) r := by
  rw [lexB]; simp [ws]
theorem lexB_esc_nil {acc : List Nat} : lexB acc [92] = (acc, none) := by
  rw [lexB.eq_def]; simp [ws]
theorem lexB_nil {acc : List Nat} : lexB acc [] = (acc, none) := by
  rw [lexB]
theorem lexQ_end {acc r : List Nat} : lexQ acc (34 :: r) = (acc, some r) := by
  unfold lexQ; simp
theorem lexQ_plain {acc r : List Nat} {c : Nat} (h : c ≠ 34) (h2 : c ≠ 92) : lexQ acc (c :: r) = lexQ (acc ++ [c]) r := by
  rw [lexQ.eq_def]; simp [h, h2]
theorem lexQ_esc {acc r : List Nat} {d : Nat} : lexQ acc (92 :: d :: r) = lexQ (acc ++ [d]) r := by
  rw [lexQ]; simp
theorem lexQ_esc_nil {acc : List Nat} : lexQ acc [92] = (acc, none) := by
  rw [lexQ.eq_def]; simp
theorem lexQ_nil {acc : List Nat} : lexQ acc [] = (acc, none) := by
  rw [lexQ]
/-- one more sign behind a backslash: there, or the text's end -/
theorem esc_step (lx : List Nat → List Nat → List Nat × Option (List Nat)) (hesc : ∀ acc r d, lx acc (92 :: d :: r) = lx (acc ++ [d]) r) (hnil : ∀ acc, lx acc [92] = (acc, none)) (hend : ∀ acc, lx acc [] = (acc, none))
    {text : Str} {k : Int} (h0 : 0 ≤ k) (x : Str) (ln : Int) :
    lx (x ++ Txt.slice text (some k) (some (k + 1))).cps.toList (rem text (k + 1)) = lx x.cps.toList (92 :: rem text k) ∧
    (if (Txt.slice text (some k) (some (k + 1)) == Str.ofString "\n") = true then ln + 1 else ln) + nl (rem text (k + 1)) = ln + nl (rem text k) ∧ (x ++ Txt.slice text (some k) (some (k + 1))).length ≤ x.length + 1 := by
  rcases Int.lt_or_le k text.length with h | h
  · obtain ⟨c, hc, hs⟩ := rem_cons h0 h
    rw [hs, hc, str_app, hesc, ln_step, app_len]
    exact ⟨rfl, rfl, Nat.le_refl _⟩
  · rw [slice_end h0 h, rem_nil h, rem_nil (by omega), str_app_nil, hnil, hend, ln_nil]
    exact ⟨rfl, rfl, Nat.le_succ _⟩
end Mine
end
section
set_option compiler.extract_closed false
open PySem PySem.W PySem.Calls PyProof.Rows
set_option Elab.async false
set_option maxRecDepth 100000
set_option maxHeartbeats 1000000
namespace Mine
/-- a turn has come to its end -/
noncomputable def LessI (I : Nat → Shared → Prop) (n : Nat) (s : Shared) : Prop := ∃ m, m < n ∧ I m s
/-- a for over one's own iterator, by an invariant and a measure; nothing raises -/
theorem For_any {prog : Program} {w : World} {A : Around} {E : Value → Shared → Prop} {s : Shared} {env : Env} {Q : Flow → Shared → Prop} {x : Str} {px pos : Pos} {iter : Expr} {body : List Stmt} {it : Value} (I : Nat → Shared → Prop)
    (h : wpAny (model prog w) A (eval iter env) (fun xv s₁ => wpAny (model prog w) A (pyIter xv) (fun it' s₂ => it' = it ∧ ∃ n, I n s₂) (fun _ _ => False) s₁) (fun _ _ => False) s)
    (turn : ∀ n s, I n s → wpAny (model prog w) A (pyNext it) (fun r s₁ => match r with
      | none => Q .next s₁
      | some v => wpAny (model prog w) A (storeName env x v) (fun _ s₂ => wpAny (model prog w) A (execs body env) (fun f s₃ => match f with
          | .next | .cont => LessI I n s₃
          | .brk => Q .next s₃
          | .ret v => Q (.ret v) s₃) (fun _ _ => False) s₂) (fun _ _ => False) s₁) (fun _ _ => False) s)
    (hs : ∀ x, foldedSetIterable iter env x = pure x := by intro _; rfl) (ht : ∀ v, letOwnedTupleGo (.Name x px) it v = pure () := by intro _; rfl) :
    wpAny (model prog w) A (exec (.For (.Name x px) iter body [] pos) env) Q E s := by
  refine wpAny_noRaise (wpAny_For (wpAny_mono h (fun xv s₁ h₁ => wpAny_mono h₁ (fun it' s₂ h₂ => ?_) fun _ _ e => e) fun _ _ e => e) hs)
  obtain ⟨rfl, n, hI⟩ := h₂
  refine codeAny_forLoop I (fun n s hI => ?_) n hI ht
  have never : ∀ {α : Type} {t : Sem α} {P : α → Shared → Prop} {s : Shared} {E' : Value → Shared → Prop}, wpAny (model prog w) A t P (fun _ _ => False) s → wpAny (model prog w) A t P E' s := fun h => wpAny_noRaise h
  refine never (wpAny_mono (turn n s hI) (fun r s₁ h₁ => ?_) fun _ _ e => e)
  cases r with
  | none => exact wpAny_execs_nil h₁
  | some v =>
    refine wpAny_assign_Name (never (wpAny_mono h₁ (fun _ s₂ h₂ => never (wpAny_mono h₂ (fun f s₃ h₃ => ?_) fun _ _ e => e)) fun _ _ e => e))
    cases f <;> exact h₃
end Mine
end
section
set_option compiler.extract_closed false
open PySem PySem.W PySem.Calls PyProof.Rows
set_option Elab.async false
set_option maxRecDepth 100000
set_option maxHeartbeats 1000000
namespace Mine
/-- a while, by an invariant and a measure; nothing raises -/
theorem While_any {prog : Program} {w : World} {A : Around} {E : Value → Shared → Prop} {s : Shared} {env : Env} {Q : Flow → Shared → Prop} {pos : Pos} {test : Expr} {body : List Stmt} (I : Nat → Shared → Prop) {n : Nat} (hI : I n s)
    (turn : ∀ n s, I n s → wpAny (model prog w) A (isTrue test env (eval test env)) (fun b s₂ => if b = true then wpAny (model prog w) A (execs body env) (fun f s₃ => match f with
          | .next | .cont => LessI I n s₃
          | .brk => Q .next s₃
          | .ret v => Q (.ret v) s₃) (fun _ _ => False) s₂ else Q .next s₂) (fun _ _ => False) s) :
    wpAny (model prog w) A (exec (.While test body [] pos) env) Q E s := by
  refine wpAny_noRaise (wpAny_While (codeAny_whileLoop I (fun n s hI => ?_) n hI))
  have never : ∀ {α : Type} {t : Sem α} {P : α → Shared → Prop} {s : Shared} {E' : Value → Shared → Prop}, wpAny (model prog w) A t P (fun _ _ => False) s → wpAny (model prog w) A t P E' s := fun h => wpAny_noRaise h
  refine never (wpAny_mono (turn n s hI) (fun b s₁ h₁ => ?_) fun _ _ e => e)
  cases b with
  | false =>
    simp only [Bool.false_eq_true, if_false] at h₁ ⊢
    exact wpAny_execs_nil h₁
  | true =>
    simp only [if_true] at h₁ ⊢
    refine never (wpAny_mono h₁ (fun f s₃ h₃ => ?_) fun _ _ e => e)
    cases f <;> exact h₃
theorem setattr_fnU {prog : Program} {w : World} {A : Around} {E : Value → Shared → Prop} {s : Shared} {h₀ : Heap} {L f : Addr} {m : Str → Option Value} {fd : FuncData} {sl : Array (Option Value)} {v : Value} {news : List (Addr × Obj)} {g : Obj → List (Addr × Obj)} {Q : Unit → Shared → Prop} (F : Fr h₀ L s.heap m)
    (N : News h₀ L s.heap news) (U : UpdF f ⟨.type "function", none, .func fd, sl⟩ news g)
    (h : ∀ d h' tk, Fr h₀ L h' m → News h₀ L h' ((d, dictOf [⟨PyData.keyHash w.params "read", .str "read" tk, v⟩] 1) :: g ⟨.type "function", some d, .func fd, sl⟩) →
      (∀ p ∈ news, p.1 < d) → Q () { s with heap := h', toks := s.toks + 2 }) :
    wpAny (model prog w) A (setAttr (.ref f) "read" v) Q E s := by
  obtain ⟨pre, post, rfl, hg, a, b⟩ := U.split
  exact setattr_fn F N a b fun d h' tk F' N' l => h d h' tk F' (by rw [hg]; exact N') l
end Mine
end
section
set_option compiler.extract_closed false
open PySem PySem.W PySem.Calls PyProof.Rows
set_option Elab.async false
set_option maxRecDepth 100000
set_option maxHeartbeats 1000000
namespace Mine
/-! a def and a lambda whose code objects stand already, wherever the table lies -/
section
variable {M : Model} {A : Around} {E : Value → Shared → Prop} {s : Shared} {h₀ : Heap} {L a c P : Addr} {m mg mb : Str → Option Value} {cn : Str} {cs : Scope} {ccd : Value} {cl : List (Str × Addr)} {news : List (Addr × Obj)}
  {p : Program} {loose : List Str} {mean : ExcName → Option Value} {name qual : Str} {params : Arguments} {body : List Stmt} {bodyE : Expr} {scope : Scope} {ps : Array Value} {pos : Pos} {firstLine : Nat} {clos : List (Str × Addr)}
theorem builtins_at (F : Fr h₀ L s.heap m) (T : Top p loose mean mg mb h₀) (hP : s.heap.get? P = some (tabObj ps)) : s.heap.BuiltinsAt mg P := by
  obtain ⟨bm, ob, b1, b2, b3, b4, b5, b6⟩ := T.bmain
  refine ⟨bm, ob, b1, b2, fun q => ?_, fun q => ?_, F.keep _ _ b3, b4, b5, b6⟩
  · obtain ⟨o, es, ep, e, hd, _⟩ := T.g
    rw [q, e] at b3; cases b3; rw [hd] at b6; cases b6
  · have e := F.keep _ _ b3
    rw [q, hP] at e; cases e; cases b4
theorem made_back {h' : Heap} {o : Obj} {tk : Nat} {Q : Value → Shared → Prop} (F : Fr h₀ L s.heap m) (N : News h₀ L s.heap news) (hk : ∀ b o, s.heap.get? b = some o → h'.get? b = some o) (hsz : s.heap.objs.size ≤ h'.objs.size) (hof : o.isFreed = false)
    (h : ∀ f h' tk, Fr h₀ L h' m → News h₀ L h' ((f, o) :: news) → (∀ q ∈ news, q.1 < f) → Q (.ref f) { s with heap := h', toks := tk }) : Q (.ref h'.objs.size) { s with heap := h'.push o, toks := tk } := by
  have hLs : L < h'.objs.size := Nat.lt_of_lt_of_le F.ns.lt hsz
  have fresh : ∀ b, L < b → h₀.get? b = none := fun b hb => Heap.get?_none_of_le (Nat.le_trans F.above (Nat.le_of_lt hb))
  refine h h'.objs.size _ tk ⟨(F.ns.keeps hk).push _, fun b o e => Heap.get?_push_of_some _ (hk b o (F.keep b o e)), F.above⟩ (fun q hq => ?_) (fun q hq => Nat.lt_of_lt_of_le (Heap.lt_size (N q hq).1) hsz)
  rcases List.mem_cons.mp hq with rfl | hq
  · exact ⟨Heap.get?_push_size _ hof, Nat.ne_of_gt hLs, fresh _ hLs⟩
  · exact ⟨Heap.get?_push_of_some _ (hk _ _ (N q hq).1), (N q hq).2⟩
theorem nestHit_H {Q : Value → Shared → Prop} {c' : Addr} (F : Fr h₀ L s.heap m) (N : News h₀ L s.heap news) (T : Top p loose mean mg mb h₀) (C : CodeHd h₀ c P) (hcd : ccd = .ref c) (hP : s.heap.get? P = some (tabObj ps)) (ht : TriplesOk ps.toList) (hf : codeAmong pos ps.toList = some (.ref c'))
    (hcl : closureFor scope (envX cn cs L a ccd cl) = pure clos)
    (h : ∀ f ctv doc h' tk, Fr h₀ L h' m → News h₀ L h' ((f, fnMade name qual params body scope clos doc ((mg "__name__").getD .none) c' ctv) :: news) → (∀ q ∈ news, q.1 < f) → Q (.ref f) { s with heap := h', toks := tk }) :
    wpAny M A (makeFunction name qual params (.stmts body) scope (envX cn cs L a ccd cl) [] [] [] pos firstLine) Q E s :=
  makeFunction_hit (mg := mg) hcl rfl (T.g.keeps F.keep) hcd (C.keeps F.keep) hP ht hf (builtins_at F T hP) fun ctv doc h' tk hk hsz => made_back F N hk hsz rfl fun f h' tk => h f ctv doc h' tk
theorem klaHit_H {Q : Value → Shared → Prop} {c' : Addr} (F : Fr h₀ L s.heap m) (N : News h₀ L s.heap news) (T : Top p loose mean mg mb h₀) (C : CodeHd h₀ c P) (hcd : ccd = .ref c) (hP : s.heap.get? P = some (tabObj ps)) (ht : TriplesOk ps.toList) (hf : codeAmong pos ps.toList = some (.ref c'))
    (hcl : closureFor scope (envX cn cs L a ccd cl) = pure clos)
    (h : ∀ f ctv h' tk, Fr h₀ L h' m → News h₀ L h' ((f, kla_obj name qual params bodyE scope clos ((mg "__name__").getD .none) c' ctv) :: news) → (∀ q ∈ news, q.1 < f) → Q (.ref f) { s with heap := h', toks := tk }) :
    wpAny M A (makeFunction name qual params (.expr bodyE) scope (envX cn cs L a ccd cl) [] [] [] pos firstLine) Q E s :=
  kla_makeFunctionHit (mg := mg) hcl rfl (T.g.keeps F.keep) hcd (C.keeps F.keep) hP ht hf (builtins_at F T hP) fun ctv h' tk hk hsz => made_back F N hk hsz rfl fun f h' tk => h f ctv h' tk
end
end Mine
end
section
set_option compiler.extract_closed false
open PySem PySem.W PySem.Calls PyProof.Rows
set_option Elab.async false
set_option maxRecDepth 100000
set_option maxHeartbeats 1000000
namespace Mine
section
variable {ls V : List Value} {v a b : Value}
theorem pick_last (h : ls = V ++ [v]) : (slicePick ls.toArray (some (-1)) none none).toList = [v] := by
  subst h
  rw [kms_pick_eq]
  simp [kms_pick, kms_lo, kms_hi]
theorem pick_two (h : ls = V ++ [a, b]) : (slicePick ls.toArray (some (-2)) (some (-1)) none).toList = [a] := by
  subst h
  rw [kms_pick_eq]
  simp [kms_pick, kms_lo, kms_hi]
theorem pick_tail (h : ls = v :: V) : (slicePick ls.toArray (some 1) none none).toList = V := by
  subst h
  rw [kms_pick_eq]
  simp [kms_pick, kms_lo, kms_hi]
theorem pick_init (h : ls = V ++ [v]) : (slicePick ls.toArray none (some (-1)) none).toList = V := by
  subst h
  rw [kms_pick_eq]
  simp [kms_pick, kms_lo, kms_hi]
end
section
variable {prog : Program} {w : World} {A : Around} {E : Value → Shared → Prop} {s : Shared} {h₀ : Heap} {L D : Addr} {m : Str → Option Value} {news news' : List (Addr × Obj)} {ls V : List Value} {v : Value} {n : Nat} {t : Tok}
theorem last_get {Q : Value → Shared → Prop} (N : News h₀ L s.heap news) (hm : (D, listOf ls.toArray n) ∈ news) (h : ls = V ++ [v]) (hq : Q v s) : wpAny (model prog w) A (getItem (.ref D) (.int (-1) t)) Q E s := by
  subst h
  exact wpAny_getItem_list_neg (PySem.IsL.isList (n := n) (N _ hm).1) (by decide) (by simp; omega) (by decide) (by rw [show ((-1 : Int) + ((V ++ [v]).toArray.size : Nat)).toNat = V.length from by simp; omega]; simp) hq
theorem last_sub {value slice : PySem.Expr} {Q : Value → Shared → Prop} (N : News h₀ L s.heap news) (hm : (D, listOf ls.toArray n) ∈ news) (h : ls = V ++ [v]) (hq : Q v s)
    (hs : subscripted slice false (.ref D) (.int (-1) t) = operate [.ref D, .int (-1) t] (getItem (.ref D) (.int (-1) t)) := by with_unfolding_all rfl) : wpAny (model prog w) A (subscriptTail value slice (.ref D) (.int (-1) t)) Q E s :=
  have hL := PySem.IsL.isList (n := n) (N _ hm).1
  tail_any hL.typeIs slot_list_getitem.lookup (last_get N hm h hq) hs
theorem first_get {Q : Value → Shared → Prop} (N : News h₀ L s.heap news) (hm : (D, listOf ls.toArray n) ∈ news) (h : ls = v :: V) (hq : Q v s) : wpAny (model prog w) A (getItem (.ref D) (.int 0 t)) Q E s := by
  subst h
  exact wpAny_getItem_list (PySem.IsL.isList (n := n) (N _ hm).1) (by decide) (by decide) (by simp) hq
theorem first_sub {value slice : PySem.Expr} {Q : Value → Shared → Prop} (N : News h₀ L s.heap news) (hm : (D, listOf ls.toArray n) ∈ news) (h : ls = v :: V) (hq : Q v s)
    (hs : subscripted slice false (.ref D) (.int 0 t) = operate [.ref D, .int 0 t] (getItem (.ref D) (.int 0 t)) := by with_unfolding_all rfl) : wpAny (model prog w) A (subscriptTail value slice (.ref D) (.int 0 t)) Q E s :=
  have hL := PySem.IsL.isList (n := n) (N _ hm).1
  tail_any hL.typeIs slot_list_getitem.lookup (first_get N hm h hq) hs
end
/-- a list of texts that is not empty: its last and its first -/
theorem strs_ends {its : Array Value} {ws : List Str} (hS : StrsAre its.toList ws) (hne : ws ≠ []) :
    ∃ ls V x tx y ty V2 w0 w1, its = ls.toArray ∧ ls = V ++ [Value.str x tx] ∧ ls = Value.str y ty :: V2 ∧ StrsAre ls ws ∧ ws = w0 ++ [x] ∧ ws = y :: w1 ∧ StrsAre V2 w1 ∧ StrsAre V w0 := by
  obtain ⟨w0, x, rfl⟩ : ∃ w0 x, ws = w0 ++ [x] := ⟨ws.dropLast, ws.getLast hne, (List.dropLast_concat_getLast hne).symm⟩
  have hl := hS.length
  obtain ⟨V, v, hV⟩ : ∃ V v, its.toList = V ++ [v] := by
    have : its.toList ≠ [] := by intro q; rw [q] at hl; simp at hl
    exact ⟨_, _, (List.dropLast_concat_getLast this).symm⟩
  have hlV : V.length = w0.length := by rw [hV] at hl; simp at hl; exact hl
  have hV1 : StrsAre V w0 := by
    have := StrsAre.take' hS V.length
    rw [hV, List.take_left, hlV, List.take_left] at this
    exact this
  have hv : ∃ tx, v = .str x tx := by
    have := StrsAre.drop' hS V.length
    rw [hV, List.drop_left, hlV, List.drop_left] at this
    cases this with
    | cons _ t _ => exact ⟨t, rfl⟩
  obtain ⟨tx, rfl⟩ := hv
  obtain ⟨y, w1, hw⟩ : ∃ y w1, w0 ++ [x] = y :: w1 := by
    cases w0 with
    | nil => exact ⟨x, [], rfl⟩
    | cons y r => exact ⟨y, r ++ [x], rfl⟩
  have hS' := hS
  rw [hw] at hS'
  obtain ⟨ty, V2, hc, hV2⟩ := StrsAre.cons_inv hS'
  exact ⟨its.toList, V, x, tx, y, ty, V2, w0, w1, (Array.toArray_toList).symm, hV, hc, hS, rfl, hw, hV2, hV1⟩
/-- ... its last two -/
theorem strs_two {its : Array Value} {ws : List Str} (hS : StrsAre its.toList ws) (h2 : 2 ≤ ws.length) :
    ∃ ls V x tx y ty w0, its = ls.toArray ∧ ls = V ++ [Value.str x tx, Value.str y ty] ∧ ls = (V ++ [Value.str x tx]) ++ [Value.str y ty] ∧ ws = w0 ++ [x, y] := by
  obtain ⟨ls, V, y, ty, -, -, -, w0, -, e1, e2, -, -, e3, -, -, hV⟩ := strs_ends hS (by intro q; rw [q] at h2; simp at h2)
  subst e3
  obtain ⟨ls', V', x, tx, -, -, -, w0', -, f1, f2, -, -, f3, -⟩ := strs_ends (its := V.toArray) (ws := w0) (by simpa using hV) (by intro q; rw [q] at h2; simp at h2)
  have : V = ls' := by simpa using f1
  subst this
  refine ⟨ls, V', x, tx, y, ty, w0', e1, ?_, ?_, ?_⟩
  · rw [e2, f2]; simp
  · rw [e2, f2]
  · rw [f3]; simp
end Mine
end
section
set_option compiler.extract_closed false
open PySem PySem.W PySem.Calls PyProof.Rows
set_option Elab.async false
set_option maxRecDepth 100000
set_option maxHeartbeats 1000000
namespace Mine
/-- a comprehension's turns whose elements leave the ledger as it stands -/
theorem comp_pure {prog : Program} {w : World} {A : Around} {h₀ : Heap} {L : Addr} {m : Str → Option Value} {env : Env} {elt : Expr} {x : Str} {scope : Scope} {cl : List (Str × Addr)} {s : Shared} {S : List (Addr × Obj) → Prop} {P : Nat → Value → Prop} {Fin : List Value → List (Addr × Obj) → Prop} {news : List (Addr × Obj)} {n : Nat}
    (R : Nat → Value → Prop)
    (turn : ∀ i v I oI C oC D m₂ ys h tk (E' : Value → Shared → Prop), i < n → P i v → LCg.NsObj oC m₂ → m₂ x = some v → Fr h₀ L h m → News h₀ L h ((I, oI) :: (C, oC) :: (D, LCg.lst ys) :: news) → LCg.Off3 I C D news → ((@Ne Nat I C) ∧ (@Ne Nat I D) ∧ (@Ne Nat C D)) →
      wpAny (model prog w) A (eval elt (compEnvC scope cl C env)) (LCg.CompEnd h₀ L m { s with heap := h, toks := tk } I oI C oC D (LCg.lst ys) S (fun y news' => news' = news ∧ R i y)) E' { s with heap := h, toks := tk })
    (fin : ∀ ys, ys.length = n → (∀ i y, ys[i]? = some y → R i y) → Fin ys news) : LCg.CompRest prog w A h₀ L m env elt x scope cl s S P Fin n 0 [] news := by
  have key : ∀ (j i : Nat) (ys : List Value), i + j = n → ys.length = i → (∀ i y, ys[i]? = some y → R i y) → LCg.CompRest prog w A h₀ L m env elt x scope cl s S P Fin j i ys news := by
    intro j
    induction j with
    | zero =>
      intro i ys hi hl hy
      exact LCg.CompRest.zero (fin ys (by omega) hy)
    | succ j ih =>
      intro i ys hi hl hy
      refine LCg.CompRest.succ ?_
      intro v I oI C oC D m₂ h tk E' hv hC hx F N off ne
      refine wpAny_mono (turn i v I oI C oC D m₂ ys h tk E' (by omega) hv hC hx F N off ne) (fun y s₂ hq => ?_) fun _ _ e => e
      obtain ⟨h', tk', nw, e, F', N', off', hS, hn, hR⟩ := hq
      subst hn
      refine ⟨h', tk', nw, e, F', N', off', hS, ih (i + 1) _ (by omega) (by simp [hl]) ?_⟩
      intro i' y' hy'
      rcases Nat.lt_or_ge i' ys.length with h1 | h1
      · rw [List.getElem?_append_left h1] at hy'; exact hy i' y' hy'
      · rw [List.getElem?_append_right h1] at hy'
        have : i' - ys.length = 0 := by
          rcases Nat.eq_zero_or_pos (i' - ys.length) with h2 | h2
          · exact h2
          · rw [List.getElem?_eq_none (by simp; omega)] at hy'; cases hy'
        rw [this] at hy'
        simp at hy'
        subst hy'
        rw [show i' = i by omega]; exact hR
  exact key n 0 [] (by omega) rfl (fun i y h => by simp at h)
/-- texts, one by one -/
theorem strs_at {α : Type} {g : α → Str} : ∀ {ys : List Value} {l : List α}, ys.length = l.length → (∀ (i : Nat) y, ys[i]? = some y → ∃ a, l[i]? = some a ∧ ∃ t, y = Value.str (g a) t) → StrsAre ys (l.map g)
  | [], [], _, _ => .nil
  | y :: ys, a :: l, hl, h => by
    obtain ⟨a', ha, t, rfl⟩ := h 0 y rfl
    simp at ha
    subst ha
    exact .cons _ t (strs_at (by simpa using hl) fun i y hy => by simpa using h (i + 1) y (by simpa using hy))
theorem ints_at {α : Type} {g : α → Int} : ∀ {ys : List Value} {l : List α}, ys.length = l.length → (∀ (i : Nat) y, ys[i]? = some y → ∃ a, l[i]? = some a ∧ ∃ t, y = Value.int (g a) t) → IntsAre ys (l.map g)
  | [], [], _, _ => .nil
  | y :: ys, a :: l, hl, h => by
    obtain ⟨a', ha, t, rfl⟩ := h 0 y rfl
    simp at ha
    subst ha
    exact .cons _ t (ints_at (by simpa using hl) fun i y hy => by simpa using h (i + 1) y (by simpa using hy))
theorem news_dup {h₀ h : Heap} {L : Addr} {p : Addr × Obj} {news : List (Addr × Obj)} (N : News h₀ L h news) (hm : p ∈ news) : News h₀ L h (p :: news) := fun q hq => by
  rcases List.mem_cons.mp hq with rfl | hq
  · exact N _ hm
  · exact N _ hq
theorem sum_le_of {l : List Str} {b : Nat} : (∀ x ∈ l, x.length ≤ b) → (l.map (·.length)).sum ≤ l.length * b := by
  induction l with
  | nil => intro _; simp
  | cons a r ih =>
    intro h
    have h1 := h a (.head _)
    have h2 := ih fun x hx => h x (.tail _ hx)
    simp only [List.map_cons, List.sum_cons, List.length_cons, Nat.succ_mul]
    omega
/-- texts joined without anything between -/
theorem join_cps : ∀ xs : List Str, (Txt.join (Str.ofString "") xs).cps.toList = (xs.map (·.cps.toList)).flatten := by
  have key : ∀ xs : List Str, (Str.join (Str.ofString "") xs).cps.toList = (xs.map (·.cps.toList)).flatten := by
    intro xs
    induction xs with
    | nil => rfl
    | cons x r ih =>
      cases r with
      | nil => simp [Str.join]
      | cons y r =>
        rw [show Str.join (Str.ofString "") (x :: y :: r) = x ++ Str.ofString "" ++ Str.join (Str.ofString "") (y :: r) from rfl, Str.cps_append, Str.cps_append]
        simp only [Array.toList_append, ih, List.map_cons, List.flatten_cons]
        rw [show (Str.ofString "").cps.toList = [] from by decide +kernel, List.append_nil]
  intro xs
  rw [show Txt.join (Str.ofString "") xs = Str.join (Str.ofString "") xs from StrLaws.glued_eq_join _ _]
  exact key xs
theorem join_len (xs : List Str) : (Txt.join (Str.ofString "") xs).length = (xs.map (·.length)).sum := by
  have h := congrArg List.length (join_cps xs)
  rw [List.length_flatten, List.map_map] at h
  have e : (Txt.join (Str.ofString "") xs).length = (Txt.join (Str.ofString "") xs).cps.toList.length := by simp [Str.length]
  rw [e, h]
  congr 1
/-- two lists of the ledger, one behind the other -/
theorem lists_add {prog : Program} {w : World} {A : Around} {E : Value → Shared → Prop} {s : Shared} {h₀ : Heap} {L D1 D2 : Addr} {m : Str → Option Value} {news : List (Addr × Obj)} {ls1 ls2 : List Value} {n1 n2 : Nat} {Q : Value → Shared → Prop}
    (F : Fr h₀ L s.heap m) (N : News h₀ L s.heap news) (h1 : (D1, W.listOf ls1.toArray n1) ∈ news) (h2 : (D2, W.listOf ls2.toArray n2) ∈ news) (hz : ls1.length + ls2.length ≤ 100000)
    (h : ∀ d h', Fr h₀ L h' m → News h₀ L h' ((d, W.listOf (ls1 ++ ls2).toArray 0) :: news) → (∀ p ∈ news, p.1 < d) → Q (.ref d) { s with heap := h' }) :
    wpAny (model prog w) A (binaryOp .Add (.ref D1) (.ref D2)) Q E s :=
  add_lists (vs := ls1) (ws := ls2) (hsz := by simp only [PySem.sizeLine_eq]; omega) F N (PySem.IsL.isList (n := n1) (N _ h1).1) (PySem.IsL.isList (n := n2) (N _ h2).1) fun h' F' N' => h _ h' F' N' fun p hp => Heap.lt_size (N p hp).1
end Mine
end
section
set_option compiler.extract_closed false
open PySem PySem.W PyProof.Rows
set_option Elab.async false
namespace Mine
theorem lexT_nil : lexT [] = ([], none) := by rw [lexT.eq_def]
theorem lexT_ws {r : List Nat} {c : Nat} (h : ws c = true) : lexT (c :: r) = lexT r := by rw [lexT.eq_def]; simp [h]
theorem lexT_quote {r : List Nat} : lexT (34 :: r) = lexQ [] r := by rw [lexT.eq_def]; simp [ws]
theorem lexT_plain {r : List Nat} {c : Nat} (h : ws c = false) (h2 : c ≠ 34) (h3 : c ≠ 92) : lexT (c :: r) = lexB [c] r := by rw [lexT.eq_def]; simp [h, h2, h3]
theorem lexT_esc {text : Str} {k : Int} (h0 : 0 ≤ k) (ln : Int) :
    lexB (Str.ofString "" ++ Txt.slice text (some k) (some (k + 1))).cps.toList (rem text (k + 1)) = lexT (92 :: rem text k) ∧
    (if (Txt.slice text (some k) (some (k + 1)) == Str.ofString "\n") = true then ln + 1 else ln) + nl (rem text (k + 1)) = ln + nl (rem text k) ∧ (Str.ofString "" ++ Txt.slice text (some k) (some (k + 1))).length ≤ 1 := by
  obtain ⟨e1, e2, e3⟩ := esc_step lexB (fun _ _ _ => lexB_esc) (fun _ => lexB_esc_nil) (fun _ => lexB_nil) (text := text) h0 (Str.ofString "") ln
  refine ⟨e1.trans ?_, e2, e3⟩
  rw [lexT.eq_def]
  cases rem text k with
  | nil => simp [ws, lexB_esc_nil]; decide +kernel
  | cons d r => simp [ws, lexB_esc]; rfl
end Mine
end
section
set_option compiler.extract_closed false
open PySem PySem.W PyProof.Rows
set_option Elab.async false
namespace Mine
theorem lexB_lt : ∀ (n : Nat) (acc r : List Nat) (w r' : List Nat), r.length ≤ n → lexB acc r = (w, some r') → r'.length < r.length
  | 0, acc, r, w, r', hn, h => by
    have : r = [] := List.eq_nil_of_length_eq_zero (by omega)
    subst this
    rw [lexB_nil] at h; cases h
  | n + 1, acc, [], w, r', hn, h => by rw [lexB_nil] at h; cases h
  | n + 1, acc, c :: r, w, r', hn, h => by
    simp only [List.length_cons] at hn ⊢
    cases hw : ws c with
    | true => rw [lexB_ws hw] at h; cases h; omega
    | false =>
      by_cases hc : c = 92
      · subst hc
        cases r with
        | nil => rw [lexB_esc_nil] at h; cases h
        | cons d r =>
          rw [lexB_esc] at h
          have := lexB_lt n _ r w r' (by simp at hn; omega) h
          simp only [List.length_cons]; omega
      · rw [lexB_plain hw hc] at h
        have := lexB_lt n _ r w r' (by omega) h
        omega
theorem lexQ_lt : ∀ (n : Nat) (acc r : List Nat) (w r' : List Nat), r.length ≤ n → lexQ acc r = (w, some r') → r'.length < r.length
  | 0, acc, r, w, r', hn, h => by
    have : r = [] := List.eq_nil_of_length_eq_zero (by omega)
    subst this
    rw [lexQ_nil] at h; cases h
  | n + 1, acc, [], w, r', hn, h => by rw [lexQ_nil] at h; cases h
  | n + 1, acc, c :: r, w, r', hn, h => by
    simp only [List.length_cons] at hn ⊢
    by_cases hq : c = 34
    · subst hq; rw [lexQ_end] at h; cases h; omega
    · by_cases hc : c = 92
      · subst hc
        cases r with
        | nil => rw [lexQ_esc_nil] at h; cases h
        | cons d r =>
          rw [lexQ_esc] at h
          have := lexQ_lt n _ r w r' (by simp at hn; omega) h
          simp only [List.length_cons]; omega
      · rw [lexQ_plain hq hc] at h
        have := lexQ_lt n _ r w r' (by omega) h
        omega
theorem lexT_lt : ∀ (r w r' : List Nat), lexT r = (w, some r') → r'.length < r.length
  | [], w, r', h => by rw [lexT_nil] at h; cases h
  | c :: r, w, r', h => by
    simp only [List.length_cons]
    cases hw : ws c with
    | true =>
      rw [lexT_ws hw] at h
      have := lexT_lt r w r' h
      omega
    | false =>
      by_cases hq : c = 34
      · subst hq; rw [lexT_quote] at h
        have := lexQ_lt _ _ r w r' (Nat.le_refl _) h
        omega
      · by_cases hc : c = 92
        · subst hc
          rw [lexT.eq_def] at h
          cases r with
          | nil => simp [ws] at h
          | cons d r =>
            simp [ws] at h
            have := lexB_lt _ _ r w r' (Nat.le_refl _) h
            simp only [List.length_cons]; omega
        · rw [lexT_plain hw hq hc] at h
          have := lexB_lt _ _ r w r' (Nat.le_refl _) h
          omega
/-- what a lexer reads: the words and the places behind them -/
noncomputable def readW : Nat → Int → List Nat → List (List Nat × Int)
  | 0, _, _ => []
  | f + 1, len, r => match lexT r with
    | (w, some r') => (w, len - r'.length) :: readW f len r'
    | (w, none) => [(w, len)]
/-- enough turns are enough -/
theorem readW_more : ∀ (f g : Nat) (len : Int) (r : List Nat), r.length < f → r.length < g → readW f len r = readW g len r
  | 0, _, _, _, h, _ => absurd h (Nat.not_lt_zero _)
  | _ + 1, 0, _, _, _, h => absurd h (Nat.not_lt_zero _)
  | f + 1, g + 1, len, r, hf, hg => by
    unfold readW
    cases e : lexT r with
    | mk w o =>
      cases o with
      | none => rfl
      | some r' =>
        have := lexT_lt r w r' e
        simp only
        rw [readW_more f g len r' (by omega) (by omega)]
noncomputable def readAll (text : Str) : List (List Nat × Int) := readW (text.length + 1) text.length text.cps.toList
end Mine
end
section
set_option compiler.extract_closed false
open PySem PySem.W PyProof.Rows
set_option Elab.async false
namespace Mine
theorem readW_last : ∀ (f : Nat) (len : Int) (r : List Nat), r.length < f → ∃ P x, readW f len r = P ++ [(x, len)]
  | 0, _, _, h => absurd h (Nat.not_lt_zero _)
  | f + 1, len, r, h => by
    unfold readW
    cases e : lexT r with
    | mk w o =>
      cases o with
      | none => exact ⟨[], w, rfl⟩
      | some r' =>
        have := lexT_lt r w r' e
        obtain ⟨P, x, hP⟩ := readW_last f len r' (by omega)
        exact ⟨(w, len - r'.length) :: P, x, by simp only [hP]; rfl⟩
theorem readAll_last (text : Str) : ∃ P x, readAll text = P ++ [(x, (text.length : Int))] := readW_last _ _ _ (by rw [len_list]; exact Nat.lt_succ_self _)
/-- the words alone -/
noncomputable def wordsR : Nat → List Nat → List (List Nat)
  | 0, _ => []
  | f + 1, r => match lexT r with
    | (w, some r') => w :: wordsR f r'
    | (w, none) => [w]
theorem readW_words : ∀ (f : Nat) (len : Int) (r : List Nat), (readW f len r).map (·.1) = wordsR f r
  | 0, _, _ => rfl
  | f + 1, len, r => by
    unfold readW wordsR
    cases lexT r with
    | mk w o => cases o with
      | none => rfl
      | some r' => simp [readW_words f len r']
theorem lexB_len : ∀ (n : Nat) (acc r w : List Nat) (o : Option (List Nat)), r.length ≤ n → lexB acc r = (w, o) → w.length ≤ acc.length + r.length
  | 0, acc, r, w, o, hn, h => by
    have : r = [] := List.eq_nil_of_length_eq_zero (by omega)
    subst this
    rw [lexB_nil] at h; cases h; omega
  | n + 1, acc, [], w, o, hn, h => by rw [lexB_nil] at h; cases h; omega
  | n + 1, acc, c :: r, w, o, hn, h => by
    simp only [List.length_cons] at hn ⊢
    cases hw : ws c with
    | true => rw [lexB_ws hw] at h; cases h; omega
    | false =>
      by_cases hc : c = 92
      · subst hc
        cases r with
        | nil => rw [lexB_esc_nil] at h; cases h; omega
        | cons d r =>
          rw [lexB_esc] at h
          have := lexB_len n _ r w o (by simp at hn; omega) h
          simp only [List.length_cons, List.length_append, List.length_nil] at this ⊢; omega
      · rw [lexB_plain hw hc] at h
        have := lexB_len n _ r w o (by omega) h
        simp only [List.length_cons, List.length_append, List.length_nil] at this
        omega
theorem lexQ_len : ∀ (n : Nat) (acc r w : List Nat) (o : Option (List Nat)), r.length ≤ n → lexQ acc r = (w, o) → w.length ≤ acc.length + r.length
  | 0, acc, r, w, o, hn, h => by
    have : r = [] := List.eq_nil_of_length_eq_zero (by omega)
    subst this
    rw [lexQ_nil] at h; cases h; omega
  | n + 1, acc, [], w, o, hn, h => by rw [lexQ_nil] at h; cases h; omega
  | n + 1, acc, c :: r, w, o, hn, h => by
    simp only [List.length_cons] at hn ⊢
    by_cases hq : c = 34
    · subst hq; rw [lexQ_end] at h; cases h; omega
    · by_cases hc : c = 92
      · subst hc
        cases r with
        | nil => rw [lexQ_esc_nil] at h; cases h; omega
        | cons d r =>
          rw [lexQ_esc] at h
          have := lexQ_len n _ r w o (by simp at hn; omega) h
          simp only [List.length_cons, List.length_append, List.length_nil] at this ⊢; omega
      · rw [lexQ_plain hq hc] at h
        have := lexQ_len n _ r w o (by omega) h
        simp only [List.length_cons, List.length_append, List.length_nil] at this
        omega
theorem lexT_len : ∀ (r w : List Nat) (o : Option (List Nat)), lexT r = (w, o) → w.length ≤ r.length
  | [], w, o, h => by rw [lexT_nil] at h; cases h; simp
  | c :: r, w, o, h => by
    simp only [List.length_cons]
    cases hw : ws c with
    | true =>
      rw [lexT_ws hw] at h
      have := lexT_len r w o h
      omega
    | false =>
      by_cases hq : c = 34
      · subst hq; rw [lexT_quote] at h
        have := lexQ_len _ _ r w o (Nat.le_refl _) h
        simp at this; omega
      · by_cases hc : c = 92
        · subst hc
          rw [lexT.eq_def] at h
          cases r with
          | nil => simp [ws] at h; rw [h.1.symm]; simp
          | cons d r =>
            simp [ws] at h
            have := lexB_len _ _ r w o (Nat.le_refl _) h
            simp only [List.length_cons, List.length_nil] at this ⊢; omega
        · rw [lexT_plain hw hq hc] at h
          have := lexB_len _ _ r w o (Nat.le_refl _) h
          simp only [List.length_cons, List.length_nil] at this; omega
theorem readW_len : ∀ (f : Nat) (len : Int) (r : List Nat), ∀ p ∈ readW f len r, p.1.length ≤ r.length
  | 0, _, _, p, h => by cases h
  | f + 1, len, r, p, h => by
    unfold readW at h
    cases e : lexT r with
    | mk w o =>
      have hl := lexT_len r w o e
      rw [e] at h
      cases o with
      | none => rw [List.mem_singleton.mp h]; exact hl
      | some r' =>
        rcases List.mem_cons.mp h with rfl | h
        · exact hl
        · have := lexT_lt r w r' e
          have := readW_len f len r' p h
          omega
theorem pre_len {pre : List (Str × Int)} {text : Str} (h : pre.map (fun p => (p.1.cps.toList, p.2)) = readAll text) : ∀ x ∈ pre.map (·.1), x.length ≤ text.length := by
  intro x hx
  obtain ⟨p, hp, rfl⟩ := List.mem_map.mp hx
  have : (p.1.cps.toList, p.2) ∈ readAll text := h ▸ List.mem_map_of_mem hp
  have := readW_len _ _ _ _ this
  rw [len_list, len_list] at this
  exact this
end Mine
end
section
set_option compiler.extract_closed false
open PySem PySem.W PyProof.Rows
set_option Elab.async false
namespace Mine
/-! the reader as an automaton -/
inductive St where
  | o | b | be | q | qe
noncomputable def stp : St → List Nat → Nat → (St × List Nat) × List (List Nat)
  | .o, _, c => if ws c then ((.o, []), []) else if c = 34 then ((.q, []), []) else if c = 92 then ((.be, []), []) else ((.b, [c]), [])
  | .b, acc, c => if ws c then ((.o, []), [acc]) else if c = 92 then ((.be, acc), []) else ((.b, acc ++ [c]), [])
  | .be, acc, c => ((.b, acc ++ [c]), [])
  | .q, acc, c => if c = 34 then ((.o, []), [acc]) else if c = 92 then ((.qe, acc), []) else ((.q, acc ++ [c]), [])
  | .qe, acc, c => ((.q, acc ++ [c]), [])
noncomputable def run : St → List Nat → List Nat → List (List Nat) × St × List Nat
  | st, acc, [] => ([], st, acc)
  | st, acc, c :: r => ((stp st acc c).2 ++ (run (stp st acc c).1.1 (stp st acc c).1.2 r).1, (run (stp st acc c).1.1 (stp st acc c).1.2 r).2)
theorem run_nil (st : St) (acc : List Nat) : run st acc [] = ([], st, acc) := rfl
theorem run_cons (st : St) (acc : List Nat) (c : Nat) (r : List Nat) : run st acc (c :: r) = ((stp st acc c).2 ++ (run (stp st acc c).1.1 (stp st acc c).1.2 r).1, (run (stp st acc c).1.1 (stp st acc c).1.2 r).2) := rfl
theorem run_append : ∀ (p p' : List Nat) (st : St) (acc : List Nat), run st acc (p ++ p') = ((run st acc p).1 ++ (run (run st acc p).2.1 (run st acc p).2.2 p').1, (run (run st acc p).2.1 (run st acc p).2.2 p').2)
  | [], p', st, acc => by simp [run_nil]
  | c :: r, p', st, acc => by
    rw [List.cons_append, run_cons, run_append r p', run_cons]
    simp
theorem ws34 : ws 34 = false := by decide
theorem ws92 : ws 92 = false := by decide
theorem lexB_run : ∀ (n : Nat) (acc r : List Nat), r.length ≤ n → (∀ w r', lexB acc r = (w, some r') → run .b acc r = (w :: (run .o [] r').1, (run .o [] r').2)) ∧ (∀ w, lexB acc r = (w, none) → (run .b acc r).1 = [] ∧ (run .b acc r).2.2 = w)
  | 0, acc, r, hn => by
    have : r = [] := List.eq_nil_of_length_eq_zero (by omega)
    subst this
    rw [lexB_nil]
    exact ⟨fun w r' h => (by cases h), fun w h => by cases h; exact ⟨rfl, rfl⟩⟩
  | n + 1, acc, [], hn => by
    rw [lexB_nil]
    exact ⟨fun w r' h => (by cases h), fun w h => by cases h; exact ⟨rfl, rfl⟩⟩
  | n + 1, acc, c :: r, hn => by
    simp only [List.length_cons] at hn
    cases hw : ws c with
    | true =>
      rw [lexB_ws hw]
      refine ⟨fun w r' h => ?_, fun w h => by cases h⟩
      cases h
      rw [run_cons]
      simp [stp, hw]
    | false =>
      by_cases hc : c = 92
      · subst hc
        cases r with
        | nil =>
          rw [lexB_esc_nil]
          refine ⟨fun w r' h => (by cases h), fun w h => ?_⟩
          cases h
          simp [run, stp, ws92]
        | cons d r =>
          simp only [List.length_cons] at hn
          rw [lexB_esc]
          obtain ⟨h1, h2⟩ := lexB_run n (acc ++ [d]) r (by omega)
          have e : run .b acc (92 :: d :: r) = run .b (acc ++ [d]) r := by
            rw [run_cons]; simp only [stp, ws92]; rw [run_cons]; simp [stp]
          rw [e]
          exact ⟨h1, h2⟩
      · rw [lexB_plain hw hc]
        obtain ⟨h1, h2⟩ := lexB_run n (acc ++ [c]) r (by omega)
        have e : run .b acc (c :: r) = run .b (acc ++ [c]) r := by
          rw [run_cons]; simp [stp, hw, hc]
        rw [e]
        exact ⟨h1, h2⟩
theorem lexQ_run : ∀ (n : Nat) (acc r : List Nat), r.length ≤ n → (∀ w r', lexQ acc r = (w, some r') → run .q acc r = (w :: (run .o [] r').1, (run .o [] r').2)) ∧ (∀ w, lexQ acc r = (w, none) → (run .q acc r).1 = [] ∧ (run .q acc r).2.2 = w)
  | 0, acc, r, hn => by
    have : r = [] := List.eq_nil_of_length_eq_zero (by omega)
    subst this
    rw [lexQ_nil]
    exact ⟨fun w r' h => (by cases h), fun w h => by cases h; exact ⟨rfl, rfl⟩⟩
  | n + 1, acc, [], hn => by
    rw [lexQ_nil]
    exact ⟨fun w r' h => (by cases h), fun w h => by cases h; exact ⟨rfl, rfl⟩⟩
  | n + 1, acc, c :: r, hn => by
    simp only [List.length_cons] at hn
    by_cases hq : c = 34
    · subst hq
      rw [lexQ_end]
      refine ⟨fun w r' h => ?_, fun w h => by cases h⟩
      cases h
      rw [run_cons]
      simp [stp]
    · by_cases hc : c = 92
      · subst hc
        cases r with
        | nil =>
          rw [lexQ_esc_nil]
          refine ⟨fun w r' h => (by cases h), fun w h => ?_⟩
          cases h
          simp [run, stp]
        | cons d r =>
          simp only [List.length_cons] at hn
          rw [lexQ_esc]
          obtain ⟨h1, h2⟩ := lexQ_run n (acc ++ [d]) r (by omega)
          have e : run .q acc (92 :: d :: r) = run .q (acc ++ [d]) r := by
            rw [run_cons]; simp only [stp]; rw [if_neg hq, if_true, run_cons]; simp [stp]
          rw [e]
          exact ⟨h1, h2⟩
      · rw [lexQ_plain hq hc]
        obtain ⟨h1, h2⟩ := lexQ_run n (acc ++ [c]) r (by omega)
        have e : run .q acc (c :: r) = run .q (acc ++ [c]) r := by
          rw [run_cons]; simp [stp, hq, hc]
        rw [e]
        exact ⟨h1, h2⟩
theorem lexT_run : ∀ (r : List Nat), (∀ w r', lexT r = (w, some r') → run .o [] r = (w :: (run .o [] r').1, (run .o [] r').2)) ∧ (∀ w, lexT r = (w, none) → (run .o [] r).1 = [] ∧ (run .o [] r).2.2 = w)
  | [] => by
    rw [lexT_nil]
    exact ⟨fun w r' h => (by cases h), fun w h => by cases h; exact ⟨rfl, rfl⟩⟩
  | c :: r => by
    cases hw : ws c with
    | true =>
      rw [lexT_ws hw]
      have e : run .o [] (c :: r) = run .o [] r := by rw [run_cons]; simp [stp, hw]
      rw [e]
      exact lexT_run r
    | false =>
      by_cases hq : c = 34
      · subst hq
        rw [lexT_quote]
        have e : run .o [] (34 :: r) = run .q [] r := by rw [run_cons]; simp [stp, ws34]
        rw [e]
        exact lexQ_run _ _ r (Nat.le_refl _)
      · by_cases hc : c = 92
        · subst hc
          cases r with
          | nil =>
            rw [lexT.eq_def]
            simp [ws92, run, stp]
          | cons d r =>
            have e1 : lexT (92 :: d :: r) = lexB [d] r := by rw [lexT.eq_def]; simp [ws92]
            have e : run .o [] (92 :: d :: r) = run .b [d] r := by rw [run_cons]; simp only [stp, ws92]; rw [run_cons]; simp [stp]
            rw [e1, e]
            exact lexB_run _ _ r (Nat.le_refl _)
        · rw [lexT_plain hw hq hc]
          have e : run .o [] (c :: r) = run .b [c] r := by rw [run_cons]; simp [stp, hw, hq, hc]
          rw [e]
          exact lexB_run _ _ r (Nat.le_refl _)
/-- all words of a text: those that end, and the one that stays open -/
theorem wordsR_run : ∀ (f : Nat) (r : List Nat), r.length < f → wordsR f r = (run .o [] r).1 ++ [(run .o [] r).2.2]
  | 0, _, h => absurd h (Nat.not_lt_zero _)
  | f + 1, r, h => by
    unfold wordsR
    obtain ⟨h1, h2⟩ := lexT_run r
    cases e : lexT r with
    | mk w o =>
      cases o with
      | none =>
        obtain ⟨h3, h4⟩ := h2 w e
        rw [h3, h4]; rfl
      | some r' =>
        have hlt := lexT_lt r w r' e
        rw [h1 w r' e]
        simp only
        rw [wordsR_run f r' (by omega)]
        simp
/-- what holds of an open word -/
noncomputable def Fits (st : St) (acc : List Nat) : Prop := match st with
  | .o => acc = []
  | .b => acc ≠ []
  | _ => True
theorem stp_fits (st : St) (acc : List Nat) (c : Nat) : Fits (stp st acc c).1.1 (stp st acc c).1.2 := by
  cases st <;> simp only [stp] <;> (repeat' split) <;> simp [Fits]
theorem run_fits : ∀ (r : List Nat) (st : St) (acc : List Nat), Fits st acc → Fits (run st acc r).2.1 (run st acc r).2.2
  | [], _, _, h => h
  | c :: r, st, acc, _ => run_fits r _ _ (stp_fits st acc c)
/-- a text that brings a new reader into a state, and the word it opens -/
noncomputable def begS : St → List Nat
  | .o => []
  | .b => [120]
  | .be => [120, 92]
  | .q => [34]
  | .qe => [34, 92]
noncomputable def begA : St → List Nat
  | .b => [120]
  | .be => [120]
  | _ => []
theorem run_beg (st : St) (p : List Nat) : run .o [] (begS st ++ p) = run st (begA st) p := by
  cases st <;> simp [begS, begA, run_cons, stp, ws]
/-- the asking text: a backslash, a blank, a mark, a blank, z -/
noncomputable def askS : List Nat := [92, 32, 34, 32, 122]
noncomputable def askT : St → List Nat
  | .o => [32, 34]
  | .b => [32, 34]
  | .be => [92]
  | .q => [32]
  | .qe => [92, 32]
noncomputable def askZ : St → List Nat
  | .be => [32, 122]
  | _ => [122]
theorem run_ask (st : St) (acc : List Nat) (h : Fits st acc) : (run st acc askS).1 = [acc ++ askT st] ∧ (run st acc askS).2.2 = askZ st := by
  cases st <;> simp [askS, askT, askZ, run, stp, ws] <;> (simp [Fits] at h; try simp [h])
/-- the words read from a state on do not hang on the word that is open, but for their first one -/
theorem run_acc : ∀ (p : List Nat) (st : St) (a acc : List Nat), st ≠ .o → ∃ v V, (run st acc p).1 ++ [(run st acc p).2.2] = (acc ++ v) :: V ∧ (run st (a ++ acc) p).1 ++ [(run st (a ++ acc) p).2.2] = (a ++ (acc ++ v)) :: V ∧ (run st (a ++ acc) p).2.1 = (run st acc p).2.1
  | [], st, a, acc, h => ⟨[], [], by simp [run_nil], by simp [run_nil], rfl⟩
  | c :: r, st, a, acc, h => by
    have key : (∃ x, stp st acc c = (((stp st acc c).1.1, acc ++ x), []) ∧ stp st (a ++ acc) c = (((stp st acc c).1.1, a ++ (acc ++ x)), []) ∧ (stp st acc c).1.1 ≠ .o) ∨ (stp st acc c = ((.o, []), [acc]) ∧ stp st (a ++ acc) c = ((.o, []), [a ++ acc])) := by
      cases st with
      | o => exact absurd rfl h
      | b =>
        simp only [stp]
        split
        · exact .inr ⟨rfl, rfl⟩
        · split
          · exact .inl ⟨[], by simp, by simp, by simp⟩
          · exact .inl ⟨[c], by simp, by simp, by simp⟩
      | be => exact .inl ⟨[c], by simp [stp], by simp [stp], by simp [stp]⟩
      | q =>
        simp only [stp]
        split
        · exact .inr ⟨rfl, rfl⟩
        · split
          · exact .inl ⟨[], by simp, by simp, by simp⟩
          · exact .inl ⟨[c], by simp, by simp, by simp⟩
      | qe => exact .inl ⟨[c], by simp [stp], by simp [stp], by simp [stp]⟩
    rcases key with ⟨x, h1, h2, h3⟩ | ⟨h1, h2⟩
    · obtain ⟨v, V, e1, e2, e3⟩ := run_acc r (stp st acc c).1.1 a (acc ++ x) h3
      rw [run_cons, run_cons, h2]
      have h1' : (stp st acc c).1.2 = acc ++ x := by rw [h1]
      have h1'' : (stp st acc c).2 = [] := by rw [h1]
      rw [h1', h1'']
      refine ⟨x ++ v, V, ?_, ?_, e3⟩
      · simpa using e1
      · simpa using e2
    · rw [run_cons, run_cons, h1, h2]
      exact ⟨[], (run .o [] r).1 ++ [(run .o [] r).2.2], by simp, by simp, rfl⟩
end Mine
end
section
set_option compiler.extract_closed false
open PySem PySem.W PyProof.Rows
set_option Elab.async false
namespace Mine
open PySem.Builtin.Str in
theorem slice_none_hi {x : Str} {i : Int} : Txt.slice x (some i) none = Txt.slice x (some i) (some x.length) := by
  unfold Txt.slice
  have : strSliceIndices (some i) none 1 x.length = strSliceIndices (some i) (some (x.length : Int)) 1 x.length := by
    have a1 : ¬ ((x.length : Int) < 0) := by omega
    simp only [strSliceIndices, show (1 : Int) > 0 from by decide, if_true, a1, if_false]
    rw [show max (0 : Int) (min (x.length : Int) x.length) = x.length by omega]
  rw [this]
open PySem.Builtin.Str in
theorem slice_none_lo {x : Str} {j : Int} : Txt.slice x none (some j) = Txt.slice x (some 0) (some j) := by
  unfold Txt.slice
  have : strSliceIndices none (some j) 1 x.length = strSliceIndices (some 0) (some j) 1 x.length := by
    simp only [strSliceIndices, show (1 : Int) > 0 from by decide, if_true, show ¬ ((0 : Int) < 0) from by decide, if_false]
    rw [show max (0 : Int) (min 0 (x.length : Int)) = 0 by omega]
  rw [this]
theorem slice_from {x : Str} {i : Int} (hi : 0 ≤ i) : (Txt.slice x (some i) none).cps.toList = x.cps.toList.drop i.toNat := by
  rw [slice_none_hi, slice_eq hi (by omega)]
  have := len_list x
  simp only
  rw [List.take_of_length_le (by rw [List.length_drop]; omega)]
theorem slice_upto {x : Str} {j : Int} (hj : 0 ≤ j) : (Txt.slice x none (some j)).cps.toList = x.cps.toList.take j.toNat := by
  rw [slice_none_lo, slice_eq (by omega) hj]
  simp
theorem str_of {x y : Str} (h : x.cps.toList = y.cps.toList) : x = y := Str.ext' (by rw [← Array.toList_inj]; exact h)
/-- the words of one reading -/
theorem words_of {pre : List (Str × Int)} {text : Str} (h : pre.map (fun p => (p.1.cps.toList, p.2)) = readAll text) :
    (pre.map (·.1)).map (·.cps.toList) = (run .o [] text.cps.toList).1 ++ [(run .o [] text.cps.toList).2.2] := by
  have h1 := congrArg (List.map (·.1)) h
  unfold readAll at h1
  rw [readW_words, List.map_map, wordsR_run _ _ (by rw [len_list]; omega)] at h1
  rw [List.map_map]
  exact h1
theorem ask_cps : (Str.ofString "\\ \" z").cps.toList = askS := by decide +kernel
/-- how a part leaves a reader: what the asking adds -/
theorem ask_words {st0 : St} {bg pt : Str} {pre1 pre2 : List (Str × Int)} {x1 x2 y2 : Str} {w0 w2 : List Str} (hb : bg.cps.toList = begS st0)
    (h1 : pre1.map (fun p => (p.1.cps.toList, p.2)) = readAll (bg ++ pt)) (h2 : pre2.map (fun p => (p.1.cps.toList, p.2)) = readAll (bg ++ pt ++ Str.ofString "\\ \" z"))
    (e1 : pre1.map (·.1) = w0 ++ [x1]) (e2 : pre2.map (·.1) = w2 ++ [x2, y2]) :
    x1.cps.toList = (run st0 (begA st0) pt.cps.toList).2.2 ∧ (Txt.slice x2 (some (x1.length : Int)) none).cps.toList = askT (run st0 (begA st0) pt.cps.toList).2.1 ∧ y2.cps.toList = askZ (run st0 (begA st0) pt.cps.toList).2.1 := by
  have a1 := words_of h1
  have a2 := words_of h2
  simp only [Str.cps_append, Array.toList_append, hb, List.append_assoc] at a1 a2
  rw [run_beg] at a1 a2
  rw [ask_cps, run_append] at a2
  have hf : Fits (run st0 (begA st0) pt.cps.toList).2.1 (run st0 (begA st0) pt.cps.toList).2.2 := run_fits _ _ _ (by cases st0 <;> simp [Fits, begA])
  obtain ⟨q1, q2⟩ := run_ask _ _ hf
  simp only at a2
  rw [q1, q2, e2] at a2
  rw [e1] at a1
  simp only [List.map_append, List.map_cons, List.map_nil] at a1 a2
  have b1 := List.append_inj_right' a1 rfl
  have c1 : x1.cps.toList = (run st0 (begA st0) pt.cps.toList).2.2 := by simpa using b1
  rw [List.append_assoc] at a2
  have b2 := List.append_inj_right' a2 rfl
  have b3 : x2.cps.toList = (run st0 (begA st0) pt.cps.toList).2.2 ++ askT (run st0 (begA st0) pt.cps.toList).2.1 ∧ y2.cps.toList = askZ (run st0 (begA st0) pt.cps.toList).2.1 := by simpa using b2
  refine ⟨c1, ?_, b3.2⟩
  rw [slice_from (by omega), b3.1, ← c1]
  have := len_list x1
  rw [Int.toNat_natCast, ← this]
  simp
/-- the reading with the asking text tells two words at least -/
theorem ask_two {st0 : St} {bg pt : Str} (hb : bg.cps.toList = begS st0) : 2 ≤ (readAll (bg ++ pt ++ Str.ofString "\\ \" z")).length := by
  have h : ((readAll (bg ++ pt ++ Str.ofString "\\ \" z")).map (·.1)).length = (readAll (bg ++ pt ++ Str.ofString "\\ \" z")).length := by simp
  rw [← h]
  unfold readAll
  rw [readW_words, wordsR_run _ _ (by rw [len_list]; omega)]
  simp only [Str.cps_append, Array.toList_append, hb, List.append_assoc]
  rw [run_beg, ask_cps, run_append]
  have hf : Fits (run st0 (begA st0) pt.cps.toList).2.1 (run st0 (begA st0) pt.cps.toList).2.2 := run_fits _ _ _ (by cases st0 <;> simp [Fits, begA])
  obtain ⟨q1, q2⟩ := run_ask _ _ hf
  simp only
  rw [q1]
  simp
end Mine
end
section
namespace Mine
open PySem PySem.W PySem.Calls PyProof.Rows
set_option compiler.extract_closed false
local macro_rules | `(tactic| walk_at "m enterR") => `(tactic| (refine' Mine.code_defR (by k_asm) (by k_asm) (by k_asm) (by k_asm) (by k_asm) (by assumption) rfl rfl (by first | exact rfl | assumption) (by k_is) (by k_is) (by ktr_room) (by first | exact BindsTo.of_eq rfl | exact binds_K (by k_in) rfl (by k_is) rfl rfl rfl | exact kp_binds (by k_in) fun _ => rfl) (by exact locs rfl) ?_ (by exact rfl) (by exact rfl) (by exact rfl) (by decide); k_whole; intro g' L' h' FG' F' N' B' X' T' l1 lR lG; (try dsimp only); (try k_lift B'); (try k_fold)))
local macro_rules | `(tactic| walk_at "m enterCR") => `(tactic| (refine' Mine.code_defCR (by k_asm) (by k_asm) (by k_asm) (by k_asm) (by k_asm) (by assumption) rfl rfl (by first | exact rfl | assumption) (by k_is) (by k_is) (by ktr_room) (by first | exact BindsTo.of_eq rfl | exact binds_K (by k_in) rfl (by k_is) rfl rfl rfl) (by exact rfl) (by decide +kernel) ?_ (by exact rfl) (by exact rfl) (by exact rfl); k_whole; intro g' L' h' tk' cells' FG' F' N' Y' B' X' T' l1 lR lG; (try k_lt l1); k_cells Y'; (try simp only [List.cons_append, List.nil_append] at N'); (try dsimp only); (try k_lift B'); (try k_fold)))
local macro_rules | `(tactic| walk_at "conj") => `(tactic| first | with_reducible assumption | (apply Mine.cjL; (iterate 14 (try (first | with_reducible assumption | apply Mine.cjR))); done) | ((iterate 14 (try (first | with_reducible assumption | apply Mine.cjR))); done) | exact Nat.lt_succ_self _ | (apply Nat.lt_succ_of_lt; with_reducible assumption) | (refine' Nat.lt_succ_of_lt (Nat.lt_succ_of_lt ?_); with_reducible assumption) | (refine' Nat.lt_trans ?_ (by with_reducible assumption); walk_at "conj"))
local macro_rules | `(tactic| k_ne) => `(tactic| (refine neN ?_; (try dsimp only); first | exact Mine.Apart.ne (by assumption) | exact Mine.Apart.en (by assumption) | (k_whole; first | (refine' Nat.ne_of_lt ?_; walk_at "conj") | (refine' Nat.ne_of_gt ?_; walk_at "conj") | walk_at "conj" | (refine' Ne.symm ?_; walk_at "conj"))))
local macro_rules | `(tactic| ktr_room) => `(tactic| first | exact Mine.rm1 (by assumption) (by decide) | exact Mine.rm2 (by assumption) (by decide) | exact Mine.rm0 (by assumption))
local macro_rules | `(tactic| ktr_units) => `(tactic| first | exact Mine.rm1 (by assumption) (by decide) | exact Mine.rm2 (by assumption) (by decide) | exact Mine.rm0 (by assumption))
local macro_rules | `(tactic| k_all) => `(tactic| assumption)
local macro_rules | `(tactic| k_room) => `(tactic| ktr_room)
local macro_rules | `(tactic| ke_room) => `(tactic| ktr_units)
local macro_rules | `(tactic| walk_at "getItem ref int") => `(tactic| (k_here; k_dflt (refine' Mine.one_get (by k_asm) (by k_mem) ?_; k_whole)))
local macro_rules | `(tactic| walk_at "call builtin:list.append") => `(tactic| (k_here; (try dsimp only [List.cons_append, List.nil_append]); (with_reducible show wpAny _ _ (PySem.call (Value.builtin _) [Value.ref _, _]) _ _ _); k_dflt (refine' append_K (by k_asm) (by k_asm) (by k_upd) ?_ (by size_fits); k_whole); intro h' F' N'; (try k_sweep)))
local macro_rules | `(tactic| walk_at "setAttr ref") => `(tactic| (k_here; k_dflt (refine' Mine.setattr_fnU (by k_asm) (by k_asm) (by k_updF) ?_; k_whole); intro d' h' tk' F' N' l1; (try dsimp only at N'); (try k_lt l1)))
section
set_option compiler.extract_closed false
open PySem PySem.W PySem.Calls PyProof.Rows
set_option Elab.async false
set_option maxRecDepth 100000
set_option maxHeartbeats 8000000
set_option pp.deepTerms false
set_option pp.deepTerms.threshold 5
set_option pp.proofs false
set_option pp.maxSteps 5000
local macro_rules | `(tactic| walk_at "getMethod ref") => `(tactic| (k_here; k_dflt (refine' getMethod_fn (by exact News.get (by k_asm) (by k_mem)) (by exact News.get (by k_asm) (by k_mem)) (by k_handed) ?_; k_whole); (try dsimp only)))
local macro_rules | `(tactic| walk_at "call ref") => `(tactic| (k_here; (with_reducible show wpAny _ _ (PySem.call (Value.ref (Lx.rf _)) _) _ _ _); (refine wpAny_call ?_); k_dflt (refine' code_nest (by k_asm) (by k_asm) (by k_asm) (by k_asm) (by k_asm) rfl rfl rfl (by k_mem) (by exact Heap.CodeRec.keeps (by assumption) (Fr.keep (by k_asm))) (by ktr_room) (by exact BindsTo.of_eq rfl) (by exact locs rfl) ?_ (by exact rfl) (by exact rfl) (by exact rfl) (by decide); k_whole); (intro g' L' h' FG' F' N' B' X' T'); (conv in rdBody => whnf); (try dsimp only); (try k_fold)))
local macro_rules | `(tactic| walk_at "subscriptTail") => `(tactic| (k_here; (with_reducible show wpAny _ _ (subscriptTail _ _ (Value.ref _) (Value.int _ _)) _ _ _); k_dflt (refine' one_sub (by k_asm) (by k_mem) ?_ (by with_unfolding_all rfl); k_whole)))
local macro_rules | `(tactic| walk_at "setItem ref int") => `(tactic| (k_here; k_dflt (refine' one_set (by k_asm) (by k_asm) (by k_upd) ?_; k_whole); intro h' F' N'; (try k_sweep)))
theorem read_char {w : World} {p : Program} {loose : List Str} {mean : ExcName → Option Value} {mg mb : Str → Option Value} 
   {dp un : Nat} {gd : Option (List Code)} {cn : Str} {cs : Scope} {a : Addr} {ccd : Value} {cl : List (Str × Addr)} {outer : List Env} {A₀ : Around} {base h₀ : Heap} {L : Addr} {m : Str → Option Value} {s : Shared} {R : Result → Shared → Prop}
   {l : Lx} {text : Str} {tt : Tok} {ln k : Int} {tl tk : Tok} {rest : List (Addr × Obj)}
   (B : Below A₀ base outer h₀) (F : Fr h₀ L s.heap m) (X : (Mine.hd.heap_39 w.params).In h₀) (N : News h₀ L s.heap (lxNews w l ln tl k tk ++ rest)) (T : Top p loose mean mg mb h₀) (hk : cs.kind = .function)
   (_hC : CodeHd base 100 96) (hd : dp + 10 < recursionLimit) (_hu : un + 80 < cLine)
   (ok : LxOk l text tt) (hcode : s.heap.CodeRec (.ref l.rc) l.qual) (hsep : ∀ p ∈ rest, p.1 ∉ (lxNews w l ln tl k tk).map (·.1))
   (htx : text.length ≤ 1000) 
   (hR : ∀ h' tk' t1 t2 t3, Fr h₀ L h' m → News h₀ L h' (lxNews w l (if Txt.slice text (some k) (some (k + 1)) == "\n" then ln + 1 else ln) t1 (k + 1) t2 ++ rest) → (Txt.slice text (some k) (some (k + 1))).length ≤ text.length → R (.ok (.ret (.str (Txt.slice text (some k) (some (k + 1))) t3))) { s with heap := h', toks := tk' }) :
    codeAny (model PP w) (ktrTop dp un gd cn cs L a ccd cl outer) (.call (.ref 42) ⟨[.ref l.x], []⟩) R s := by
  have : (PySem.Challenge.rw_re0024_01, Mine.hd.heap_39) = (PySem.Challenge.rw_re0024_01, Mine.hd.heap_39) := by k_fill; rfl
  clear this
  have hnot := lx_code ok (fun p hp => (N p (List.mem_append_left _ hp)).1) hcode
  obtain ⟨hoa, hot, ⟨n1, n2, n3, n4, n5, n6, n7, n8⟩, ⟨n9, n10, n11, n12, n13, n14, n15⟩⟩ := ok
  w_on
  k_dflt (walk_at "m enterR")
  with_reducible rename (∀ (b : Addr) (o : Obj), b ∉ _ → _ → _) => lG
  have gcode := code_into hcode (fun o e => lG _ _ hnot e)
  k_steps
  all_goals (with_reducible rename News h₀ L _ _ => kN)
  all_goals (with_reducible rename Fr h₀ L _ _ => kF)
  all_goals intro NR _
  all_goals (show R (.ok (.ret (.str (Txt.slice text (some (k + 1 - 1)) (some (k + 1))) _))) _)
  · have hb : (Txt.slice text (some (k + 1 - 1)) (some (k + 1)) == Str.ofString "\n") = true := by assumption
    rw [Int.add_sub_cancel] at hb ⊢
    rw [if_pos hb] at hR
    exact hR _ _ _ _ _ kF (news_app kN NR) (PyProof.Txt.length_slice_le _ _ _)
  · have hb : (Txt.slice text (some (k + 1 - 1)) (some (k + 1)) == Str.ofString "\n") = false := by assumption
    rw [Int.add_sub_cancel] at hb ⊢
    rw [if_neg (by rw [hb]; decide)] at hR
    exact hR _ _ _ _ _ kF (news_app kN NR) (PyProof.Txt.length_slice_le _ _ _)
end
section
set_option compiler.extract_closed false
open PySem PySem.W PySem.Calls PyProof.Rows
set_option Elab.async false
set_option maxRecDepth 100000
noncomputable def clsBody : Stmt → List Stmt
  | .ClassDef _ _ _ b .. => b
  | _ => []
noncomputable def forBody : Stmt → List Stmt
  | .For _ _ b .. => b
  | _ => []
noncomputable def ifThen : Stmt → List Stmt
  | .If _ b .. => b
  | _ => []
noncomputable def ifElse : Stmt → List Stmt
  | .If _ _ b _ => b
  | _ => []
noncomputable def gtDef : Stmt := nth (clsBody (nth PP.main.body 2)) 2
noncomputable def gtScope : Scope := scopeOf gtDef
noncomputable def gtO : Stmt := nth (bodyOf gtDef) 3
noncomputable def gtQ : Stmt := nth (ifThen (nth (forBody gtO) 1)) 0
noncomputable def gtB : Stmt := nth (ifElse (nth (forBody gtO) 1)) 2
/-- get_token's names -/
noncomputable abbrev gtMap (mch : Option Value) (tok : Str) (t : Tok) (it x : Nat) : Str → Option Value := fun y =>
  if y = Str.ofString "ch" then mch else if y = Str.ofString "token" then some (.str tok t) else if y = Str.ofString "fiter" then some (.ref it) else if y = Str.ofString "self" then some (.ref x) else none
noncomputable abbrev gtRest (l : Lx) (it mo : Nat) (ci : Obj) : List (Addr × Obj) := [(it, ci), (mo, methodObj (.ref 42) (.ref l.x))]
noncomputable abbrev gtTop (dp un : Nat) (gd : Option (List Code)) (L : Addr) (outer : List Env) : Around := ktrTop dp un gd (Str.ofString "_netrclex.get_token") gtScope L 49 (.ref 48) [] outer
noncomputable abbrev gtEnv (L : Addr) : Env := envX (Str.ofString "_netrclex.get_token") gtScope L 49 (.ref 48) []
theorem Fr.congr {h₀ h : Heap} {L : Addr} {m m' : Str → Option Value} (F : Fr h₀ L h m) (e : ∀ y, m y = m' y) : Fr h₀ L h m' := (funext e : m = m') ▸ F
theorem ext_news {h₀ h h' : Heap} {L it : Addr} {m : Str → Option Value} {o o' : Obj} {a b : List (Addr × Obj)} (F : Fr h₀ L h m) (N : News h₀ L h (a ++ (it, o) :: b)) (hx : Heap.ExtBut it h h') (hit : h'.get? it = some o') (ne : ∀ p ∈ a ++ b, p.1 ≠ it) :
    Fr h₀ L h' m ∧ News h₀ L h' (a ++ (it, o') :: b) := by
  have n := N (it, o) (List.mem_append_right _ (.head _))
  refine ⟨⟨F.ns.extBut hx (Ne.symm n.2.1), fun b o e => hx b o (fun q => by rw [q, n.2.2] at e; cases e) (F.keep b o e), F.above⟩, fun p hp => ?_⟩
  rcases List.mem_append.mp hp with h1 | h1
  · have z := N p (List.mem_append_left _ h1)
    exact ⟨hx _ _ (ne p (List.mem_append_left _ h1)) z.1, z.2⟩
  · rcases List.mem_cons.mp h1 with rfl | h1
    · exact ⟨hit, n.2⟩
    · have z := N p (List.mem_append_right _ (.tail _ h1))
      exact ⟨hx _ _ (ne p (List.mem_append_right _ h1)) z.1, z.2⟩
/-- between two turns of one of get_token's loops -/
structure GtI (w : World) (l : Lx) (text : Str) (it mo : Nat) (ts : Tok) (h₀ : Heap) (L : Addr) (s₀ : Shared) (lx : List Nat → List Nat → List Nat × Option (List Nat)) (res : List Nat × Option (List Nat)) (C : Int) (n : Nat) (s : Shared) : Prop where
  ex : ∃ h tk k ln t1 t2 mch tok t, s = { s₀ with heap := h, toks := tk } ∧ Fr h₀ L h (gtMap mch tok t it l.x) ∧ News h₀ L h (lxNews w l ln t1 k t2 ++ gtRest l it mo (ciObj mo ts)) ∧
    0 ≤ k ∧ k ≤ text.length + 1 ∧ (tok.length : Int) ≤ k ∧ lx tok.cps.toList (rem text k) = res ∧ ln + nl (rem text k) = C ∧ n = (text.length + 2 - k).toNat
section
variable {w : World} {l : Lx} {text : Str} {it mo : Nat} {ts : Tok} {h₀ h : Heap} {L : Addr} {s₀ : Shared} {lx : List Nat → List Nat → List Nat × Option (List Nat)} {res : List Nat × Option (List Nat)} {C : Int} {n : Nat}
theorem gt_turn {tk : Nat} {k ln : Int} {t1 t2 : Tok} {mch : Option Value} {tok : Str} {t : Tok} {m : Str → Option Value} (F : Fr h₀ L h m) (em : ∀ y, m y = gtMap mch tok t it l.x y) (N : News h₀ L h (lxNews w l ln t1 k t2 ++ gtRest l it mo (ciObj mo ts)))
    (h0 : 0 ≤ k) (h1 : k ≤ text.length + 1) (h2 : (tok.length : Int) ≤ k) (h3 : lx tok.cps.toList (rem text k) = res) (h4 : ln + nl (rem text k) = C) (h5 : (text.length + 2 - k).toNat < n) :
    LessI (GtI w l text it mo ts h₀ L s₀ lx res C) n { s₀ with heap := h, toks := tk } := ⟨_, h5, ⟨h, tk, k, ln, t1, t2, mch, tok, t, rfl, Fr.congr F em, N, h0, h1, h2, h3, h4, rfl⟩⟩
theorem map_ch {v mch : Option Value} {tok : Str} {t : Tok} {x : Nat} (y : Str) : (if y = Str.ofString "ch" then v else gtMap mch tok t it x y) = gtMap v tok t it x y := by
  unfold gtMap
  by_cases h : y = Str.ofString "ch" <;> simp [h]
theorem map_tok {mch : Option Value} {tok tok' : Str} {t t' : Tok} {x : Nat} (y : Str) : (if y = Str.ofString "token" then some (.str tok' t') else gtMap mch tok t it x y) = gtMap mch tok' t' it x y := by
  unfold gtMap
  by_cases h : y = Str.ofString "token"
  · subst h
    have : Str.ofString "token" ≠ Str.ofString "ch" := by decide +kernel
    simp [this]
  · simp [h]
theorem ite_congr_else {α : Type} {c : Prop} [Decidable c] {a b b' : α} (h : b = b') : (if c then a else b) = (if c then a else b') := by rw [h]
end
end
section
open PySem PySem.W PySem.Calls PyProof.Rows
set_option compiler.extract_closed false
local macro_rules | `(tactic| walk_at "call ref") => `(tactic| (k_here; (with_reducible show wpAny _ _ (PySem.call (Value.ref 42) _) _ _ _); (refine wpAny_call ?_); k_dflt (refine' Mine.read_char (by k_asm) (by k_asm) (by k_asm) (by k_asm) (by k_asm) rfl (by assumption) (by ktr_room) (by ktr_units) (by assumption) (by exact Heap.CodeRec.keeps (by assumption) (Fr.keep (by k_asm))) (by assumption) (by assumption) ?_; k_whole); (intro h' tk' t1' t2' t3' F' N' hsl')))
section
set_option compiler.extract_closed false
open PySem PySem.W PySem.Calls PyProof.Rows
set_option Elab.async false
set_option maxRecDepth 100000
set_option maxHeartbeats 8000000
set_option linter.unusedVariables false
set_option pp.deepTerms false
set_option pp.deepTerms.threshold 5
set_option pp.proofs false
set_option pp.maxSteps 5000
theorem loopB {w : World} {p : Program} {loose : List Str} {mean : ExcName → Option Value} {mg mb : Str → Option Value} 
   {dp un : Nat} {gd : Option (List Code)} {outer : List Env} {A₀ : Around} {base h₀ : Heap} {L : Addr} {s : Shared} {Q : Flow → Shared → Prop} {E : Value → Shared → Prop}
   {l : Lx} {text : Str} {tt : Tok} {it mo n : Nat} {ts : Tok} {res : List Nat × Option (List Nat)} {C : Int} 
   (B : Below A₀ base outer h₀) (X : (Mine.hd.heap_39 w.params).In h₀) (T : Top p loose mean mg mb h₀)
   (hC : CodeHd base 100 96) (hd : dp + 12 < recursionLimit) (hu : un + 100 < cLine)
   (ok : LxOk l text tt) (hcode : h₀.CodeRec (.ref l.rc) l.qual) (hsep : ∀ p ∈ gtRest l it mo (ciObj mo ts), p.1 ∉ (lxNews w l 0 0 0 0).map (·.1)) (him : Apart it mo) (htx : text.length ≤ 1000)
   (hI : GtI w l text it mo ts h₀ L s lexB res C n s)
   (hret : ∀ h tk k ln t1 t2 mch tok t, Fr h₀ L h (gtMap mch tok t it l.x) → News h₀ L h (lxNews w l ln t1 k t2 ++ gtRest l it mo (ciObj mo ts)) → 0 ≤ k → k ≤ text.length → res = (tok.cps.toList, some (rem text k)) → ln + nl (rem text k) = C →
      Q (.ret (.str tok t)) { s with heap := h, toks := tk })
   (hend : ∀ h tk k ln t1 t2 mch tok t, Fr h₀ L h (gtMap mch tok t it l.x) → News h₀ L h (lxNews w l ln t1 k t2 ++ gtRest l it mo ciEnd) → (text.length : Int) < k → res = (tok.cps.toList, none) → ln = C →
      Q .next { s with heap := h, toks := tk }) :
    wpAny (model PP w) (gtTop dp un gd L outer) (exec gtB (gtEnv L)) Q E s := by
  have hfill : (PySem.Challenge.rw_re0024_01, Mine.hd.heap_39) = (PySem.Challenge.rw_re0024_01, Mine.hd.heap_39) := by k_fill; rfl
  clear hfill
  w_on
  conv in gtB => whnf
  refine For_any (it := .ref it) (GtI w l text it mo ts h₀ L s lexB res C) ?_ ?_
  · have hI' := hI
    obtain ⟨h, tk, k, ln, t1, t2, mch, tok, t, e, F, N, -⟩ := hI
    have eh : h = s.heap := (congrArg Shared.heap e).symm
    subst eh
    refine nameX_L F rfl ?_
    exact ci_self (N (it, ciObj mo ts) (List.mem_append_right _ (.head _))).1 rfl ⟨rfl, n, hI'⟩
  · rintro n s' ⟨h, tk, k, ln, t1, t2, mch, tok, t, rfl, F, N, h0, h1, h2, h3, h4, h5⟩
    have hf := (X.keeps F.keep) 42 _ (by k_dflt k_is)
    refine ci_step rfl (N (it, ciObj mo ts) (List.mem_append_right _ (.head _))).1 (N (mo, methodObj (.ref 42) (.ref l.x)) (List.mem_append_right _ (.tail _ (.head _)))).1 hf rfl ?_
    refine read_char (dp := dp) (un := un + 1) B F X N T rfl hC (by first | exact rm1 (by assumption) (by decide) | omega) (by first | exact rm2 (by assumption) (by decide) | omega) ok (hcode.keeps F.keep) hsep htx ?_
    intro h' tk' t1' t2' t3 F' N' hsl0
    refine ⟨_, _, rfl, (N' (it, ciObj mo ts) (List.mem_append_right _ (.head _))).1, (N' (mo, methodObj (.ref 42) (.ref l.x)) (List.mem_append_right _ (.tail _ (.head _)))).1, (X.keeps F'.keep) 42 _ (by k_dflt k_is), ?_, ?_⟩
    · intro hne
      have hk : k < text.length := by
        rcases Int.lt_or_le k text.length with h | h
        · exact h
        · exact absurd (slice_end h0 h) hne
      obtain ⟨c, hc, hsl⟩ := rem_cons h0 hk
      have hc4 := ln_step ln c (rem text (k + 1))
      rw [hsl] at N' ⊢
      rw [hc] at h3 h4
      dsimp only
      clear F N hne hsl0 hf
      k_steps
      · have hw : (Builtin.Str.occurrences (Str.ofString "\n\t\x0d ") ⟨#[c]⟩ 0 (Str.ofString "\n\t\x0d ").length 1).isEmpty = true := by assumption
        have he : ((⟨#[c]⟩ : Str) == Str.ofString "\\") = true := by assumption
        rw [one_eq c 92 _ back_sign, decide_eq_true_eq] at he
        subst he
        with_reducible rename Fr h₀ L _ _ => F1
        with_reducible rename News h₀ L _ _ => N1
        obtain ⟨e1, e2, e3⟩ := esc_step lexB (fun _ _ _ => lexB_esc) (fun _ => lexB_esc_nil) (fun _ => lexB_nil) (text := text) (k := k + 1) (by omega) tok (if ((⟨#[92]⟩ : Str) == Str.ofString "\n") = true then ln + 1 else ln)
        exact gt_turn F1 (fun y => (ite_congr_else ((ite_congr_else (map_ch y)).trans (map_ch y))).trans (map_tok y)) N1 (by omega) (by omega) (by omega) (e1.trans h3) (e2.trans (hc4.trans h4)) (by omega)
      · have hw : (Builtin.Str.occurrences (Str.ofString "\n\t\x0d ") ⟨#[c]⟩ 0 (Str.ofString "\n\t\x0d ").length 1).isEmpty = true := by assumption
        have he : ((⟨#[c]⟩ : Str) == Str.ofString "\\") = false := by assumption
        rw [one_eq c 92 _ back_sign, decide_eq_false_iff_not] at he
        rw [ws_occ, Bool.not_eq_true'] at hw
        with_reducible rename Fr h₀ L _ _ => F1
        with_reducible rename News h₀ L _ _ => N1
        rw [lexB_plain hw he, ← str_app] at h3
        exact gt_turn F1 (fun y => (ite_congr_else (map_ch y)).trans (map_tok y)) N1 (by omega) (by omega) (by rw [app_len]; omega) h3 (hc4.trans h4) (by omega)
      · have hw : (Builtin.Str.occurrences (Str.ofString "\n\t\x0d ") ⟨#[c]⟩ 0 (Str.ofString "\n\t\x0d ").length 1).isEmpty = false := by assumption
        rw [ws_occ, Bool.not_eq_false'] at hw
        with_reducible rename Fr h₀ L _ _ => F1
        with_reducible rename News h₀ L _ _ => N1
        rw [lexB_ws hw] at h3
        exact hret _ _ _ _ _ _ _ _ _ (Fr.congr F1 map_ch) N1 (by omega) (by omega) h3.symm (hc4.trans h4)
    · intro hc h'' hx hit
      have hk : (text.length : Int) ≤ k := by
        rcases Int.lt_or_le k text.length with h | h
        · obtain ⟨c, -, hsl⟩ := rem_cons h0 h
          rw [hsl] at hc
          exact absurd hc (by intro q; have := congrArg Str.length q; simp [Str.length] at this; exact absurd this (by decide +kernel))
        · exact h
      rw [rem_nil hk] at h3 h4
      rw [hc, ln_nil] at N'
      have ne : ∀ p ∈ lxNews w l ln t1' (k + 1) t2' ++ [(mo, methodObj (.ref 42) (.ref l.x))], p.1 ≠ it := fun p hp => by
        rcases List.mem_append.mp hp with hp | hp
        · exact fun q => hsep (it, ciObj mo ts) (.head _) (q ▸ List.mem_map_of_mem (f := (·.1)) hp)
        · rw [List.mem_singleton.mp hp]
          exact him.en
      obtain ⟨F2, N2⟩ := ext_news F' N' hx hit ne
      exact hend _ _ _ _ _ _ _ _ _ F2 N2 (by omega) (h3.symm.trans lexB_nil) (by rw [← h4, nl_nil]; omega)
end
section
set_option compiler.extract_closed false
open PySem PySem.W PySem.Calls PyProof.Rows
set_option Elab.async false
set_option maxRecDepth 100000
set_option maxHeartbeats 8000000
set_option linter.unusedVariables false
set_option pp.deepTerms false
set_option pp.deepTerms.threshold 5
set_option pp.proofs false
set_option pp.maxSteps 5000
theorem loopQ {w : World} {p : Program} {loose : List Str} {mean : ExcName → Option Value} {mg mb : Str → Option Value} 
   {dp un : Nat} {gd : Option (List Code)} {outer : List Env} {A₀ : Around} {base h₀ : Heap} {L : Addr} {s : Shared} {Q : Flow → Shared → Prop} {E : Value → Shared → Prop}
   {l : Lx} {text : Str} {tt : Tok} {it mo n : Nat} {ts : Tok} {res : List Nat × Option (List Nat)} {C : Int} 
   (B : Below A₀ base outer h₀) (X : (Mine.hd.heap_39 w.params).In h₀) (T : Top p loose mean mg mb h₀)
   (hC : CodeHd base 100 96) (hd : dp + 12 < recursionLimit) (hu : un + 100 < cLine)
   (ok : LxOk l text tt) (hcode : h₀.CodeRec (.ref l.rc) l.qual) (hsep : ∀ p ∈ gtRest l it mo (ciObj mo ts), p.1 ∉ (lxNews w l 0 0 0 0).map (·.1)) (him : Apart it mo) (htx : text.length ≤ 1000)
   (hI : GtI w l text it mo ts h₀ L s lexQ res C n s)
   (hret : ∀ h tk k ln t1 t2 mch tok t, Fr h₀ L h (gtMap mch tok t it l.x) → News h₀ L h (lxNews w l ln t1 k t2 ++ gtRest l it mo (ciObj mo ts)) → 0 ≤ k → k ≤ text.length → res = (tok.cps.toList, some (rem text k)) → ln + nl (rem text k) = C →
      Q (.ret (.str tok t)) { s with heap := h, toks := tk })
   (hend : ∀ h tk k ln t1 t2 mch tok t, Fr h₀ L h (gtMap mch tok t it l.x) → News h₀ L h (lxNews w l ln t1 k t2 ++ gtRest l it mo ciEnd) → (text.length : Int) < k → res = (tok.cps.toList, none) → ln = C →
      Q .next { s with heap := h, toks := tk }) :
    wpAny (model PP w) (gtTop dp un gd L outer) (exec gtQ (gtEnv L)) Q E s := by
  have hfill : (PySem.Challenge.rw_re0024_01, Mine.hd.heap_39) = (PySem.Challenge.rw_re0024_01, Mine.hd.heap_39) := by k_fill; rfl
  clear hfill
  w_on
  conv in gtQ => whnf
  refine For_any (it := .ref it) (GtI w l text it mo ts h₀ L s lexQ res C) ?_ ?_
  · have hI' := hI
    obtain ⟨h, tk, k, ln, t1, t2, mch, tok, t, e, F, N, -⟩ := hI
    have eh : h = s.heap := (congrArg Shared.heap e).symm
    subst eh
    refine nameX_L F rfl ?_
    exact ci_self (N (it, ciObj mo ts) (List.mem_append_right _ (.head _))).1 rfl ⟨rfl, n, hI'⟩
  · rintro n s' ⟨h, tk, k, ln, t1, t2, mch, tok, t, rfl, F, N, h0, h1, h2, h3, h4, h5⟩
    have hf := (X.keeps F.keep) 42 _ (by k_dflt k_is)
    refine ci_step rfl (N (it, ciObj mo ts) (List.mem_append_right _ (.head _))).1 (N (mo, methodObj (.ref 42) (.ref l.x)) (List.mem_append_right _ (.tail _ (.head _)))).1 hf rfl ?_
    refine read_char (dp := dp) (un := un + 1) B F X N T rfl hC (by first | exact rm1 (by assumption) (by decide) | omega) (by first | exact rm2 (by assumption) (by decide) | omega) ok (hcode.keeps F.keep) hsep htx ?_
    intro h' tk' t1' t2' t3 F' N' hsl0
    refine ⟨_, _, rfl, (N' (it, ciObj mo ts) (List.mem_append_right _ (.head _))).1, (N' (mo, methodObj (.ref 42) (.ref l.x)) (List.mem_append_right _ (.tail _ (.head _)))).1, (X.keeps F'.keep) 42 _ (by k_dflt k_is), ?_, ?_⟩
    · intro hne
      have hk : k < text.length := by
        rcases Int.lt_or_le k text.length with h | h
        · exact h
        · exact absurd (slice_end h0 h) hne
      obtain ⟨c, hc, hsl⟩ := rem_cons h0 hk
      have hc4 := ln_step ln c (rem text (k + 1))
      rw [hsl] at N' ⊢
      rw [hc] at h3 h4
      dsimp only
      clear F N hne hsl0 hf
      k_steps
      · have hw : ((⟨#[c]⟩ : Str) == Str.ofString "\"") = true := by assumption
        rw [one_eq c 34 _ quote_sign, decide_eq_true_eq] at hw
        subst hw
        with_reducible rename Fr h₀ L _ _ => F1
        with_reducible rename News h₀ L _ _ => N1
        rw [lexQ_end] at h3
        exact hret _ _ _ _ _ _ _ _ _ (Fr.congr F1 map_ch) N1 (by omega) (by omega) h3.symm (hc4.trans h4)
      · have he : ((⟨#[c]⟩ : Str) == Str.ofString "\\") = true := by assumption
        rw [one_eq c 92 _ back_sign, decide_eq_true_eq] at he
        subst he
        with_reducible rename Fr h₀ L _ _ => F1
        with_reducible rename News h₀ L _ _ => N1
        obtain ⟨e1, e2, e3⟩ := esc_step lexQ (fun _ _ _ => lexQ_esc) (fun _ => lexQ_esc_nil) (fun _ => lexQ_nil) (text := text) (k := k + 1) (by omega) tok (if ((⟨#[92]⟩ : Str) == Str.ofString "\n") = true then ln + 1 else ln)
        exact gt_turn F1 (fun y => (ite_congr_else ((ite_congr_else (map_ch y)).trans (map_ch y))).trans (map_tok y)) N1 (by omega) (by omega) (by omega) (e1.trans h3) (e2.trans (hc4.trans h4)) (by omega)
      · have hw : ((⟨#[c]⟩ : Str) == Str.ofString "\"") = false := by assumption
        have he : ((⟨#[c]⟩ : Str) == Str.ofString "\\") = false := by assumption
        rw [one_eq c 92 _ back_sign, decide_eq_false_iff_not] at he
        rw [one_eq c 34 _ quote_sign, decide_eq_false_iff_not] at hw
        with_reducible rename Fr h₀ L _ _ => F1
        with_reducible rename News h₀ L _ _ => N1
        rw [lexQ_plain hw he, ← str_app] at h3
        exact gt_turn F1 (fun y => (ite_congr_else (map_ch y)).trans (map_tok y)) N1 (by omega) (by omega) (by rw [app_len]; omega) h3 (hc4.trans h4) (by omega)
    · intro hc h'' hx hit
      have hk : (text.length : Int) ≤ k := by
        rcases Int.lt_or_le k text.length with h | h
        · obtain ⟨c, -, hsl⟩ := rem_cons h0 h
          rw [hsl] at hc
          exact absurd hc (by intro q; have := congrArg Str.length q; simp [Str.length] at this; exact absurd this (by decide +kernel))
        · exact h
      rw [rem_nil hk] at h3 h4
      rw [hc, ln_nil] at N'
      have ne : ∀ p ∈ lxNews w l ln t1' (k + 1) t2' ++ [(mo, methodObj (.ref 42) (.ref l.x))], p.1 ≠ it := fun p hp => by
        rcases List.mem_append.mp hp with hp | hp
        · exact fun q => hsep (it, ciObj mo ts) (.head _) (q ▸ List.mem_map_of_mem (f := (·.1)) hp)
        · rw [List.mem_singleton.mp hp]
          exact him.en
      obtain ⟨F2, N2⟩ := ext_news F' N' hx hit ne
      exact hend _ _ _ _ _ _ _ _ _ F2 N2 (by omega) (h3.symm.trans lexQ_nil) (by rw [← h4, nl_nil]; omega)
end
section
set_option compiler.extract_closed false
open PySem PySem.W PySem.Calls PyProof.Rows
set_option Elab.async false
set_option maxRecDepth 100000
set_option maxHeartbeats 8000000
set_option linter.unusedVariables false
set_option pp.deepTerms false
set_option pp.deepTerms.threshold 5
set_option pp.proofs false
set_option pp.maxSteps 5000
/-- between two turns of get_token's outer loop -/
inductive GtO (w : World) (l : Lx) (text : Str) (it mo : Nat) (ts : Tok) (h₀ : Heap) (L : Addr) (s₀ : Shared) (res : List Nat × Option (List Nat)) (C : Int) : Nat → Shared → Prop where
  | alive {h tk k ln t1 t2 mch t n} : Fr h₀ L h (gtMap mch (Str.ofString "") t it l.x) → News h₀ L h (lxNews w l ln t1 k t2 ++ gtRest l it mo (ciObj mo ts)) →
    0 ≤ k → k ≤ text.length → lexT (rem text k) = res → ln + nl (rem text k) = C → n = (text.length + 2 - k).toNat → GtO w l text it mo ts h₀ L s₀ res C n { s₀ with heap := h, toks := tk }
  | ended {h tk k ln t1 t2 mch tok t} : Fr h₀ L h (gtMap mch tok t it l.x) → News h₀ L h (lxNews w l ln t1 k t2 ++ gtRest l it mo ciEnd) →
    text.length < k → res = (tok.cps.toList, none) → ln = C → GtO w l text it mo ts h₀ L s₀ res C 0 { s₀ with heap := h, toks := tk }
theorem loopO {w : World} {p : Program} {loose : List Str} {mean : ExcName → Option Value} {mg mb : Str → Option Value} 
   {dp un : Nat} {gd : Option (List Code)} {outer : List Env} {A₀ : Around} {base h₀ : Heap} {L : Addr} {s : Shared} {Q : Flow → Shared → Prop} {E : Value → Shared → Prop}
   {l : Lx} {text : Str} {tt : Tok} {it mo : Nat} {ts : Tok} {res : List Nat × Option (List Nat)} {C : Int} {k ln : Int} {t1 t2 : Tok} {mch : Option Value} {t : Tok}
   (B : Below A₀ base outer h₀) (X : (Mine.hd.heap_39 w.params).In h₀) (T : Top p loose mean mg mb h₀)
   (hC : CodeHd base 100 96) (hd : dp + 12 < recursionLimit) (hu : un + 100 < cLine)
   (ok : LxOk l text tt) (hcode : h₀.CodeRec (.ref l.rc) l.qual) (hsep : ∀ p ∈ gtRest l it mo (ciObj mo ts), p.1 ∉ (lxNews w l 0 0 0 0).map (·.1)) (him : Apart it mo) (htx : text.length ≤ 1000)
   (F : Fr h₀ L s.heap (gtMap mch (Str.ofString "") t it l.x)) (N : News h₀ L s.heap (lxNews w l ln t1 k t2 ++ gtRest l it mo (ciObj mo ts))) (h0 : 0 ≤ k) (h1 : k ≤ text.length) (h3 : lexT (rem text k) = res) (h4 : ln + nl (rem text k) = C)
   (hret : ∀ h tk k ln t1 t2 mch tok t, Fr h₀ L h (gtMap mch tok t it l.x) → News h₀ L h (lxNews w l ln t1 k t2 ++ gtRest l it mo (ciObj mo ts)) → 0 ≤ k → k ≤ text.length → res = (tok.cps.toList, some (rem text k)) → ln + nl (rem text k) = C →
      Q (.ret (.str tok t)) { s with heap := h, toks := tk })
   (hend : ∀ h tk k ln t1 t2 mch tok t, Fr h₀ L h (gtMap mch tok t it l.x) → News h₀ L h (lxNews w l ln t1 k t2 ++ gtRest l it mo ciEnd) → (text.length : Int) < k → res = (tok.cps.toList, none) → ln = C →
      Q .next { s with heap := h, toks := tk }) :
    wpAny (model PP w) (gtTop dp un gd L outer) (exec gtO (gtEnv L)) Q E s := by
  have hfill : (PySem.Challenge.rw_re0024_01, Mine.hd.heap_39) = (PySem.Challenge.rw_re0024_01, Mine.hd.heap_39) := by k_fill; rfl
  clear hfill
  w_on
  conv in gtO => whnf
  refine For_any (it := .ref it) (GtO w l text it mo ts h₀ L s res C) ?_ ?_
  · refine nameX_L F rfl ?_
    exact ci_self (N (it, ciObj mo ts) (List.mem_append_right _ (.head _))).1 rfl ⟨rfl, _, GtO.alive F N h0 h1 h3 h4 rfl⟩
  · intro n s' hI
    have ne : ∀ {ln k : Int} {t1' t2' : Tok}, ∀ p ∈ lxNews w l ln t1' k t2' ++ [(mo, methodObj (.ref 42) (.ref l.x))], p.1 ≠ it := fun p hp => by
      rcases List.mem_append.mp hp with hp | hp
      · exact fun q => hsep (it, ciObj mo ts) (.head _) (q ▸ List.mem_map_of_mem (f := (·.1)) hp)
      · rw [List.mem_singleton.mp hp]
        exact him.en
    clear F N h0 h1 h3 h4 ln t1 t2 mch t k
    have e0 : (Str.ofString "").cps.toList = [] := by decide +kernel
    have e1 : (Str.ofString "").length = 0 := by decide +kernel
    cases hI with
    | ended F N h1 h2 h3 =>
      have n := N (it, ciEnd) (List.mem_append_right _ (.head _))
      refine ci_ended rfl n.1 fun h' hk => ?_
      exact hend _ _ _ _ _ _ _ _ _ ⟨F.ns.keeps hk, fun b o e => hk _ _ (F.keep b o e), F.above⟩ (fun p hp => ⟨hk _ _ (N p hp).1, (N p hp).2⟩) h1 h2 h3
    | @alive h tk k ln t1 t2 mch t n F N h0 h1 h3 h4 h5 =>
      have hf := (X.keeps F.keep) 42 _ (by k_dflt k_is)
      refine ci_step rfl (N (it, ciObj mo ts) (List.mem_append_right _ (.head _))).1 (N (mo, methodObj (.ref 42) (.ref l.x)) (List.mem_append_right _ (.tail _ (.head _)))).1 hf rfl ?_
      refine read_char (dp := dp) (un := un + 1) B F X N T rfl hC (by first | exact rm1 (by assumption) (by decide) | omega) (by first | exact rm2 (by assumption) (by decide) | omega) ok (hcode.keeps F.keep) hsep htx ?_
      intro h' tk' t1' t2' t3 F' N' hsl0
      refine ⟨_, _, rfl, (N' (it, ciObj mo ts) (List.mem_append_right _ (.head _))).1, (N' (mo, methodObj (.ref 42) (.ref l.x)) (List.mem_append_right _ (.tail _ (.head _)))).1, (X.keeps F'.keep) 42 _ (by k_dflt k_is), ?_, ?_⟩
      · intro hne
        have hk : k < text.length := by
          rcases Int.lt_or_le k text.length with h | h
          · exact h
          · exact absurd (slice_end h0 h) hne
        obtain ⟨c, hc, hsl⟩ := rem_cons h0 hk
        have hc4 := ln_step ln c (rem text (k + 1))
        rw [hsl] at N' ⊢
        rw [hc] at h3 h4
        dsimp only
        clear F N hne hsl0 hf
        repeat' ((fail_if_success (with_reducible show wpAny _ _ (exec (Stmt.For _ _ _ _ _) _) _ _ _)); (first | (k_unfold; (try dsimp only)) | (k_end; wrow_close) | walk1 | (dsimp only; walk1) | (leave1; walk_say "STEP leave1"; try dsimp only) | fail "no step"))
        all_goals (with_reducible rename Fr h₀ L _ _ => F1)
        all_goals (with_reducible rename News h₀ L _ _ => N1)
        · have hw : ((⟨#[c]⟩ : Str) == Str.ofString "\"") = true := by assumption
          rw [one_eq c 34 _ quote_sign, decide_eq_true_eq] at hw
          subst hw
          rw [lexT_quote] at h3
          refine loopQ (res := res) (C := C) (n := (text.length + 2 - (k + 1)).toNat) B X T hC hd hu ok hcode hsep him htx ⟨⟨_, _, k + 1, _, _, _, _, Str.ofString "", _, rfl, Fr.congr F1 map_ch, N1, by omega, by omega, by rw [e1]; omega, by rw [e0]; exact h3, hc4.trans h4, rfl⟩⟩ ?_ ?_
          · intro h tk k' ln' t1 t2 mch tok t F N a b c d
            exact hret _ _ _ _ _ _ _ _ _ F N a b c d
          · intro h tk k' ln' t1 t2 mch tok t F N a b c
            dsimp only
            k_steps
            exact ⟨0, by omega, GtO.ended F N a b c⟩
        · have he : ((⟨#[c]⟩ : Str) == Str.ofString "\\") = true := by assumption
          rw [one_eq c 92 _ back_sign, decide_eq_true_eq] at he
          subst he
          obtain ⟨e3, e4, e5⟩ := lexT_esc (text := text) (k := k + 1) (by omega) (if ((⟨#[92]⟩ : Str) == Str.ofString "\n") = true then ln + 1 else ln)
          refine loopB (res := res) (C := C) (n := (text.length + 2 - (k + 1 + 1)).toNat) B X T hC hd hu ok hcode hsep him htx ⟨⟨_, _, k + 1 + 1, _, _, _, _, Str.ofString "" ++ Txt.slice text (some (k + 1)) (some (k + 1 + 1)), _, rfl, Fr.congr F1 (fun y => (ite_congr_else ((ite_congr_else (map_ch y)).trans (map_ch y))).trans (map_tok y)), N1, by omega, by omega, by omega, e3.trans h3, e4.trans (hc4.trans h4), rfl⟩⟩ ?_ ?_
          · intro h tk k' ln' t1 t2 mch tok t F N a b c d
            exact hret _ _ _ _ _ _ _ _ _ F N a b c d
          · intro h tk k' ln' t1 t2 mch tok t F N a b c
            dsimp only
            k_steps
            exact ⟨0, by omega, GtO.ended F N a b c⟩
        · have hw : (Builtin.Str.occurrences (Str.ofString "\n\t\x0d ") ⟨#[c]⟩ 0 (Str.ofString "\n\t\x0d ").length 1).isEmpty = true := by assumption
          have hq : ((⟨#[c]⟩ : Str) == Str.ofString "\"") = false := by assumption
          have he : ((⟨#[c]⟩ : Str) == Str.ofString "\\") = false := by assumption
          rw [one_eq c 92 _ back_sign, decide_eq_false_iff_not] at he
          rw [one_eq c 34 _ quote_sign, decide_eq_false_iff_not] at hq
          rw [ws_occ, Bool.not_eq_true'] at hw
          rw [lexT_plain hw hq he] at h3
          refine loopB (res := res) (C := C) (n := (text.length + 2 - (k + 1)).toNat) B X T hC hd hu ok hcode hsep him htx ⟨⟨_, _, k + 1, _, _, _, _, Str.ofString "" ++ ⟨#[c]⟩, _, rfl, Fr.congr F1 (fun y => (ite_congr_else (map_ch y)).trans (map_tok y)), N1, by omega, by omega, by rw [app_len, e1]; omega, by rw [str_app, e0]; exact h3, hc4.trans h4, rfl⟩⟩ ?_ ?_
          · intro h tk k' ln' t1 t2 mch tok t F N a b c d
            exact hret _ _ _ _ _ _ _ _ _ F N a b c d
          · intro h tk k' ln' t1 t2 mch tok t F N a b c
            dsimp only
            k_steps
            exact ⟨0, by omega, GtO.ended F N a b c⟩
        · have hw : (Builtin.Str.occurrences (Str.ofString "\n\t\x0d ") ⟨#[c]⟩ 0 (Str.ofString "\n\t\x0d ").length 1).isEmpty = false := by assumption
          rw [ws_occ, Bool.not_eq_false'] at hw
          rw [lexT_ws hw] at h3
          exact ⟨_, by omega, GtO.alive (Fr.congr F1 map_ch) N1 (by omega) (by omega) h3 (hc4.trans h4) rfl⟩
      · intro hc h'' hx hit
        have hk : (text.length : Int) ≤ k := by
          rcases Int.lt_or_le k text.length with h | h
          · obtain ⟨c, -, hsl⟩ := rem_cons h0 h
            rw [hsl] at hc
            exact absurd hc (by intro q; have := congrArg Str.length q; simp [Str.length] at this; exact absurd this (by decide +kernel))
          · exact h
        rw [rem_nil hk] at h3 h4
        rw [hc, ln_nil] at N'
        obtain ⟨F2, N2⟩ := ext_news F' N' hx hit ne
        exact hend _ _ _ _ _ _ _ _ _ F2 N2 (by omega) (h3.symm.trans lexT_nil) (by rw [← h4, nl_nil]; omega)
end
end
section
set_option compiler.extract_closed false
open PySem PySem.W PySem.Calls PyProof.Rows
set_option Elab.async false
set_option maxRecDepth 100000
set_option maxHeartbeats 8000000
set_option linter.unusedVariables false
set_option pp.deepTerms false
set_option pp.deepTerms.threshold 5
set_option pp.proofs false
set_option pp.maxSteps 5000
local macro_rules | `(tactic| walk_at "call builtin:iter") => `(tactic| (k_here; (with_reducible show wpAny _ _ (PySem.call (Value.builtin "iter") [_, _]) _ _ _); k_dflt (refine' call_iter2 (by k_asm) (by k_asm) (by k_mem) ?_; k_whole); intro it' h' F' N' l2))
theorem gt_reorder {w : World} {l : Lx} {h₀ h : Heap} {L : Addr} {it mo : Nat} {ts tl tk : Tok} {ln k : Int} (N : News h₀ L h ((it, ciObj mo ts) :: (mo, methodObj (.ref 42) (.ref l.x)) :: lxNews w l ln tl k tk)) :
    News h₀ L h (lxNews w l ln tl k tk ++ gtRest l it mo (ciObj mo ts)) := fun p hp => N p (by
  rcases List.mem_append.mp hp with hp | hp
  · exact .tail _ (.tail _ hp)
  · rcases List.mem_cons.mp hp with rfl | hp
    · exact .head _
    · rw [List.mem_singleton.mp hp]; exact .tail _ (.head _))
theorem gt_map0 {h₀ h : Heap} {L : Addr} {it x : Nat} {tok : Str} {t : Tok} (F : Fr h₀ L h (fun y => if y = Str.ofString "fiter" then some (.ref it) else if y = Str.ofString "token" then some (.str tok t) else List.lookup y [(Str.ofString "self", Value.ref x)])) :
    Fr h₀ L h (gtMap none tok t it x) := Fr.congr F (fun y => by
  unfold gtMap
  by_cases h1 : y = Str.ofString "ch"
  · subst h1
    rfl
  · by_cases h2 : y = Str.ofString "fiter"
    · subst h2
      rfl
    · simp only [if_neg h1, if_neg h2]
      by_cases h3 : y = Str.ofString "token"
      · simp only [if_pos h3]
      · simp only [if_neg h3]
        by_cases h4 : y = Str.ofString "self"
        · subst h4; rfl
        · rw [if_neg h4, List.lookup_cons, beq_false_of_ne h4]; rfl)
theorem get_token {w : World} {p : Program} {loose : List Str} {mean : ExcName → Option Value} {mg mb : Str → Option Value} 
   {dp un : Nat} {gd : Option (List Code)} {cn : Str} {cs : Scope} {a : Addr} {ccd : Value} {cl : List (Str × Addr)} {outer : List Env} {A₀ : Around} {base h₀ : Heap} {L : Addr} {m : Str → Option Value} {s : Shared} {R : Result → Shared → Prop}
   {l : Lx} {text : Str} {tt : Tok} {ln k : Int} {tl tk : Tok} {rest : List (Addr × Obj)}
   (B : Below A₀ base outer h₀) (F : Fr h₀ L s.heap m) (X : (Mine.hd.heap_39 w.params).In h₀) (N : News h₀ L s.heap (lxNews w l ln tl k tk ++ rest)) (T : Top p loose mean mg mb h₀) (hk : cs.kind = .function)
   (hC : CodeHd base 100 96) (hd : dp + 20 < recursionLimit) (hu : un + 120 < cLine)
   (ok : LxOk l text tt) (hcode : s.heap.CodeRec (.ref l.rc) l.qual) (hsep : ∀ p ∈ rest, p.1 ∉ (lxNews w l ln tl k tk).map (·.1)) (htx : text.length ≤ 1000) (h0 : 0 ≤ k) (h1 : k ≤ text.length)
   (hR : ∀ h' tk' t1 t2 t3 k' ln' tok, Fr h₀ L h' m → News h₀ L h' (lxNews w l ln' t1 k' t2 ++ rest) → 
      ((lexT (rem text k) = (tok.cps.toList, some (rem text k')) ∧ 0 ≤ k' ∧ k' ≤ text.length ∧ ln' + nl (rem text k') = ln + nl (rem text k)) ∨ (lexT (rem text k) = (tok.cps.toList, none) ∧ (text.length : Int) < k' ∧ ln' = ln + nl (rem text k))) →
      R (.ok (.ret (.str tok t3))) { s with heap := h', toks := tk' }) :
    codeAny (model PP w) (ktrTop dp un gd cn cs L a ccd cl outer) (.call (.ref 49) ⟨[.ref l.x], []⟩) R s := by
  have hfill : (PySem.Challenge.rw_re0024_01, Mine.hd.heap_39) = (PySem.Challenge.rw_re0024_01, Mine.hd.heap_39) := by k_fill; rfl
  clear hfill
  w_on
  have hnot := lx_code ok (fun p hp => (N p (List.mem_append_left _ hp)).1) hcode
  k_dflt (walk_at "m enterR")
  with_reducible rename (∀ (b : Addr) (o : Obj), b ∉ _ → _ → _) => lG
  have gcode := code_into hcode (fun o e => lG _ _ hnot e)
  repeat' ((fail_if_success (with_reducible show wpAny _ _ (exec (Stmt.For _ _ _ _ _) _) _ _ _)); (first | (k_unfold; (try dsimp only)) | (k_end; wrow_close) | walk1 | (dsimp only; walk1) | (leave1; walk_say "STEP leave1"; try dsimp only) | fail "no step"))
  rename_i q' hq2 lq it' h1' l2 h' F1 N1
  have hlx : ∀ p ∈ (lxNews w l 0 0 0 0).map (·.1), p < q' := by
    simp only [lxNews, List.map_cons, List.map_nil, List.mem_cons, List.not_mem_nil, or_false]
    intro p hp
    rcases hp with rfl | rfl | rfl | rfl | rfl | rfl | rfl | rfl | rfl <;> (refine ltN ?_; first | walk_at "conj" | omega)
  have hqi : q' < it' := l2 (q', methodObj (.ref 42) (.ref l.x)) (.head _)
  have hs2 : ∀ ts, ∀ p ∈ gtRest l it' q' (ciObj q' ts), p.1 ∉ (lxNews w l 0 0 0 0).map (·.1) := by
    intro ts p hp hm
    have := hlx _ hm
    rcases List.mem_cons.mp hp with rfl | hp
    · exact absurd (Nat.lt_trans this hqi) (Nat.lt_irrefl _)
    · rcases List.mem_cons.mp hp with rfl | hp
      · exact absurd this (Nat.lt_irrefl _)
      · cases hp
  have N2 := gt_reorder N1
  have F2 := gt_map0 F1
  refine loopO (dp := dp + 1) (un := un + 3) (res := lexT (rem text k)) (C := ln + nl (rem text k)) (k := k) (ln := ln) (by k_asm) (by k_asm) (by k_asm) hC (by omega) (by omega) ok gcode (hs2 _) (Nat.ne_of_gt hqi) htx F2 N2 h0 h1 rfl rfl ?_ ?_
  · intro h tk k' ln' t1 t2 mch tok t F3 N3 a b c d
    dsimp only
    k_steps
    with_reducible rename Fr h₀ L _ _ => kF
    with_reducible rename News h₀ L _ _ => kN
    intro NR _
    exact hR _ _ _ _ _ _ _ _ kF (news_app (news_left kN) NR) (.inl ⟨c, a, b, d⟩)
  · intro h tk k' ln' t1 t2 mch tok t F3 N3 a b c
    dsimp only
    k_steps
    with_reducible rename Fr h₀ L _ _ => kF
    with_reducible rename News h₀ L _ _ => kN
    intro NR _
    exact hR _ _ _ _ _ _ _ _ kF (news_app (news_left kN) NR) (.inr ⟨b, a, c⟩)
end
section
set_option compiler.extract_closed false
open PySem PySem.W PySem.Calls PyProof.Rows
set_option Elab.async false
set_option maxRecDepth 100000
noncomputable def lrDef : Stmt := nth PP.main.body 9
noncomputable def lrScope : Scope := scopeOf lrDef
noncomputable def lrW : Stmt := nth (bodyOf lrDef) 7
noncomputable abbrev lrCl (l : Lx) : List (Str × Addr) := [(Str.ofString "asked", l.ca), (Str.ofString "text", l.ct)]
noncomputable abbrev lrTop (dp un : Nat) (gd : Option (List Code)) (L : Addr) (l : Lx) (outer : List Env) : Around := ktrTop dp un gd (Str.ofString "_law_read") lrScope L 101 (.ref 100) (lrCl l) outer
noncomputable abbrev lrEnv (L : Addr) (l : Lx) : Env := envX (Str.ofString "_law_read") lrScope L 101 (.ref 100) (lrCl l)
noncomputable abbrev lrMap (el wl x : Nat) (m : Str → Option Value) : Str → Option Value := fun y => if y = Str.ofString "ends" then some (.ref el) else if y = Str.ofString "words" then some (.ref wl) else if y = Str.ofString "lexer" then some (.ref x) else m y
noncomputable abbrev lrLists (wl el : Nat) (its jts : Array Value) (n1 n2 : Nat) : List (Addr × Obj) := [(wl, W.listOf its n1), (el, W.listOf jts n2)]
theorem apart9 {x a b c d e f g h i : Nat} (q : x ∉ [a, b, c, d, e, f, g, h, i]) : Apart x a ∧ Apart x b ∧ Apart x c ∧ Apart x d ∧ Apart x e ∧ Apart x f ∧ Apart x g ∧ Apart x h ∧ Apart x i := by
  simp only [List.mem_cons, List.not_mem_nil, or_false, not_or] at q
  exact q
theorem lists_sep {wl el : Nat} {tb : List (Addr × Obj)} {as : List Addr} (h : ∀ p ∈ lrLists wl el #[] #[] 0 0 ++ tb, p.1 ∉ as) (its jts : Array Value) (n1 n2 : Nat) : ∀ p ∈ lrLists wl el its jts n1 n2 ++ tb, p.1 ∉ as := by
  intro p hp
  rcases List.mem_cons.mp hp with rfl | hp
  · exact h (wl, W.listOf #[] 0) (.head _)
  · rcases List.mem_cons.mp hp with rfl | hp
    · exact h (el, W.listOf #[] 0) (.tail _ (.head _))
    · exact h p (.tail _ (.tail _ hp))
end
section
set_option compiler.extract_closed false
open PySem PySem.W PySem.Calls PyProof.Rows
set_option Elab.async false
set_option maxRecDepth 100000
set_option maxHeartbeats 8000000
set_option linter.unusedVariables false
set_option pp.deepTerms false
set_option pp.deepTerms.threshold 7
set_option pp.proofs false
set_option pp.maxSteps 8000
local macro_rules | `(tactic| walk_at "subscriptTail Name Constant ref int") => `(tactic| (k_here; (with_reducible show wpAny _ _ (subscriptTail _ _ (Value.ref _) (Value.int _ _)) _ _ _); k_dflt (refine' one_sub (by k_asm) (by k_mem) ?_ (by with_unfolding_all rfl); k_whole)))
local macro_rules | `(tactic| walk_at "call ref") => `(tactic| (k_here; (with_reducible show wpAny _ _ (PySem.call (Value.ref 49) _) _ _ _); (refine wpAny_call ?_); k_dflt (refine' get_token (by k_asm) (by k_asm) (by k_asm) (by k_asm) (by k_asm) rfl (by assumption) (by ktr_room) (by ktr_units) (by assumption) (by assumption) (by assumption) (by assumption) (by assumption) (by assumption) ?_; k_whole); (intro h' tk' t1' t2' t3' k' ln' tok' F' N' hgt)))
/-- between two turns of the reading loop -/
structure LrI (w : World) (l : Lx) (text : Str) (wl el : Nat) (tb : List (Addr × Obj)) (m : Str → Option Value) (h₀ : Heap) (L : Addr) (s₀ : Shared) (C : Int) (n : Nat) (s : Shared) : Prop where
  ex : ∃ h tk k ln t1 t2 its jts n1 n2, ∃ pre : List (Str × Int), s = { s₀ with heap := h, toks := tk } ∧ Fr h₀ L h (lrMap el wl l.x m) ∧ News h₀ L h (lxNews w l ln t1 k t2 ++ (lrLists wl el its jts n1 n2 ++ tb)) ∧ StrsAre its.toList (pre.map (·.1)) ∧ IntsAre jts.toList (pre.map (·.2)) ∧
    0 ≤ k ∧ its.size ≤ 1100 ∧ jts.size ≤ 1100 ∧ ((k ≤ text.length ∧ its.size + n ≤ 1002 ∧ jts.size + n ≤ 1002 ∧ (rem text k).length < n ∧ pre.map (fun p => (p.1.cps.toList, p.2)) ++ readW n text.length (rem text k) = readAll text ∧ ln + nl (rem text k) = C) ∨
      (text.length < k ∧ n = 0 ∧ pre.map (fun p => (p.1.cps.toList, p.2)) = readAll text ∧ ln = C))
theorem loopW {w : World} {p : Program} {loose : List Str} {mean : ExcName → Option Value} {mg mb : Str → Option Value} 
   {dp un : Nat} {gd : Option (List Code)} {outer : List Env} {A₀ : Around} {base h₀ : Heap} {L : Addr} {s : Shared} {Q : Flow → Shared → Prop} {E : Value → Shared → Prop}
   {l : Lx} {text : Str} {tt : Tok} {wl el n : Nat} {tb : List (Addr × Obj)} {m : Str → Option Value} {C : Int} 
   (B : Below A₀ base outer h₀) (X : (Mine.hd.heap_39 w.params).In h₀) (T : Top p loose mean mg mb h₀)
   (hC : CodeHd base 100 96) (hd : dp + 22 < recursionLimit) (hu : un + 130 < cLine)
   (ok : LxOk l text tt) (hcode : ∀ h : Heap, (∀ b o, h₀.get? b = some o → h.get? b = some o) → (∀ p ∈ tb, h.get? p.1 = some p.2) → h.CodeRec (.ref l.rc) l.qual) (hsep : ∀ p ∈ lrLists wl el #[] #[] 0 0 ++ tb, p.1 ∉ (lxNews w l 0 0 0 0).map (·.1)) (hwe : Apart wl el) (hwt : ∀ p ∈ tb, p.1 ≠ wl) (het : ∀ p ∈ tb, p.1 ≠ el) (htx : text.length ≤ 1000)
   (hI : LrI w l text wl el tb m h₀ L s C n s)
   (hend : ∀ h tk k ln t1 t2 its jts n1 n2, ∀ pre : List (Str × Int), Fr h₀ L h (lrMap el wl l.x m) → News h₀ L h (lxNews w l ln t1 k t2 ++ (lrLists wl el its jts n1 n2 ++ tb)) → StrsAre its.toList (pre.map (·.1)) → IntsAre jts.toList (pre.map (·.2)) → its.size ≤ 1100 → jts.size ≤ 1100 →
      pre.map (fun p => (p.1.cps.toList, p.2)) = readAll text → ln = C → Q .next { s with heap := h, toks := tk }) :
    wpAny (model PP w) (lrTop dp un gd L l outer) (exec lrW (lrEnv L l)) Q E s := by
  have hfill : (PySem.Challenge.rw_re0024_01, Mine.hd.heap_39) = (PySem.Challenge.rw_re0024_01, Mine.hd.heap_39) := by k_fill; rfl
  clear hfill
  w_on
  conv in lrW => whnf
  refine While_any (LrI w l text wl el tb m h₀ L s C) hI ?_
  clear hI n
  rintro n s' ⟨h, tk, k, ln, t1, t2, its, jts, n1, n2, pre, rfl, F, N, hS, hJ, h0, hz1, hz2, hcase⟩
  have ok' := ok
  obtain ⟨hoa, hot, -, -⟩ := ok'
  have hcd := hcode h F.keep (fun p hp => (N p (List.mem_append_right _ (List.mem_append_right _ hp))).1)
  have hsp := lists_sep hsep its jts n1 n2
  have W : Apart wl l.dx ∧ Apart wl l.al ∧ Apart wl l.x ∧ Apart wl l.pb ∧ Apart wl l.st ∧ Apart wl l.sd ∧ Apart wl l.rf ∧ Apart wl l.ca ∧ Apart wl l.ct := apart9 (hsep (wl, _) (.head _))
  have Z : Apart el l.dx ∧ Apart el l.al ∧ Apart el l.x ∧ Apart el l.pb ∧ Apart el l.st ∧ Apart el l.sd ∧ Apart el l.rf ∧ Apart el l.ca ∧ Apart el l.ct := apart9 (hsep (el, _) (.tail _ (.head _)))
  obtain ⟨w1, w2, w3, w4, w5, w6, w7, w8, w9⟩ := W
  obtain ⟨e1, e2, e3, e4, e5, e6, e7, e8, e9⟩ := Z
  k_steps
  · with_reducible rename News h₀ L _ _ => N1
    with_reducible rename Fr h₀ L _ _ => F1
    rename_i h3 tk3 t1' t2' t3' k' ln' tok' hgt h2 tk2 h1 tk1 h0'
    have N2 : ∃ v t t', v = (if k' ≤ text.length then k' else text.length) ∧ News h₀ L h0' (lxNews w l ln' t1' k' t2' ++ (lrLists wl el (its.push (.str tok' t')) (jts.push (.int v t)) (n1 + 1) (n2 + 1) ++ tb)) := by
      refine ⟨_, _, _, ?_, N1⟩
      split <;> split <;> omega
    obtain ⟨v, t, t', hv, N2⟩ := N2
    have hk : k ≤ text.length := by assumption
    rcases hcase with ⟨-, hz3, hz4, hf, htot, hC'⟩ | ⟨hk', -⟩
    · obtain ⟨n', rfl⟩ : ∃ n', n = n' + 1 := ⟨n - 1, by omega⟩
      have hS2 : StrsAre (its.push (.str tok' t')).toList ((pre ++ [(tok', v)]).map (·.1)) := by
        rw [Array.toList_push, List.map_append]
        exact StrsAre.append' hS (.cons _ _ .nil)
      have hJ2 : IntsAre (jts.push (.int v t)).toList ((pre ++ [(tok', v)]).map (·.2)) := by
        rw [Array.toList_push, List.map_append]
        exact IntsAre.append hJ (.cons _ _ .nil)
      have hs1 : (its.push (Value.str tok' t')).size = its.size + 1 := Array.size_push _
      have hs2 : (jts.push (Value.int v t)).size = jts.size + 1 := Array.size_push _
      rcases hgt with ⟨e, a1, a2, a3⟩ | ⟨e, a1, a3⟩
      · rw [if_pos a2] at hv
        have hv' := hv.symm
        subst hv'
        have hlt := lexT_lt _ _ _ e
        have hl := rem_len a1 a2
        refine ⟨n', Nat.lt_succ_self _, ⟨_, _, k', ln', _, _, _, _, _, _, pre ++ [(tok', k')], rfl, F1, N2, hS2, hJ2, a1, by omega, by omega, .inl ⟨a2, by omega, by omega, by omega, ?_, by omega⟩⟩⟩
        rw [← htot, List.map_append, List.append_assoc]
        congr 1
        rw [readW, e]
        simp only [List.map_cons, List.map_nil, List.cons_append, List.nil_append]
        rw [hl]
        congr 2
        omega
      · rw [if_neg (by omega)] at hv
        subst hv
        refine ⟨0, by omega, ⟨_, _, k', ln', _, _, _, _, _, _, pre ++ [(tok', (text.length : Int))], rfl, F1, N2, hS2, hJ2, by omega, by omega, by omega, .inr ⟨a1, rfl, ?_, by omega⟩⟩⟩
        rw [← htot, List.map_append]
        congr 1
        rw [readW, e]
        rfl
    · omega
  · have hk : ¬ k ≤ text.length := by assumption
    rcases hcase with ⟨hk', -⟩ | ⟨-, -, htot, hC'⟩
    · omega
    · exact hend _ _ _ _ _ _ _ _ _ _ pre F N hS hJ hz1 hz2 htot hC'
end
section
set_option compiler.extract_closed false
open PySem PySem.W PySem.Calls PyProof.Rows
set_option Elab.async false
set_option maxRecDepth 100000
set_option maxHeartbeats 8000000
set_option linter.unusedVariables false
set_option pp.deepTerms false
set_option pp.deepTerms.threshold 7
set_option pp.proofs false
set_option pp.maxSteps 8000
noncomputable def lrTailB : List Stmt := [lrW, nth (bodyOf lrDef) 8]
noncomputable abbrev tupOf (vs : List Value) : Obj := { cls := .type "tuple", data := .seq vs.toArray }
theorem lrTail {w : World} {p : Program} {loose : List Str} {mean : ExcName → Option Value} {mg mb : Str → Option Value} 
   {dp un : Nat} {gd : Option (List Code)} {outer : List Env} {A₀ : Around} {base h₀ : Heap} {L : Addr} {s : Shared} {Q : Flow → Shared → Prop} {E : Value → Shared → Prop}
   {l : Lx} {text : Str} {tt : Tok} {wl el : Nat} {tb : List (Addr × Obj)} {m : Str → Option Value} {t1 t2 : Tok}
   (B : Below A₀ base outer h₀) (X : (Mine.hd.heap_39 w.params).In h₀) (T : Top p loose mean mg mb h₀)
   (hC : CodeHd base 100 96) (hd : dp + 22 < recursionLimit) (hu : un + 130 < cLine)
   (ok : LxOk l text tt) (hcode : ∀ h : Heap, (∀ b o, h₀.get? b = some o → h.get? b = some o) → (∀ p ∈ tb, h.get? p.1 = some p.2) → h.CodeRec (.ref l.rc) l.qual) (hsep : ∀ p ∈ lrLists wl el #[] #[] 0 0 ++ tb, p.1 ∉ (lxNews w l 0 0 0 0).map (·.1)) (hwe : Apart wl el) (hwt : ∀ p ∈ tb, p.1 ≠ wl) (het : ∀ p ∈ tb, p.1 ≠ el) (htx : text.length ≤ 1000)
   (F : Fr h₀ L s.heap (lrMap el wl l.x m)) (N : News h₀ L s.heap (lxNews w l 1 t1 0 t2 ++ (lrLists wl el #[] #[] 0 0 ++ tb)))
   (hret : ∀ h tk tup its jts n1 n2 t, ∀ pre : List (Str × Int), Fr h₀ L h (lrMap el wl l.x m) → News h₀ L h ((tup, tupOf [.ref wl, .ref el, .int (1 + nl text.cps.toList) t]) :: (lrLists wl el its jts n1 n2 ++ tb)) → (∀ p ∈ lrLists wl el its jts n1 n2 ++ tb, p.1 < tup) →
      StrsAre its.toList (pre.map (·.1)) → IntsAre jts.toList (pre.map (·.2)) → its.size ≤ 1100 → jts.size ≤ 1100 →
      pre.map (fun p => (p.1.cps.toList, p.2)) = readAll text → Q (.ret (.ref tup)) { s with heap := h, toks := tk }) :
    wpAny (model PP w) (lrTop dp un gd L l outer) (execs lrTailB (lrEnv L l)) Q E s := by
  have hfill : (PySem.Challenge.rw_re0024_01, Mine.hd.heap_39) = (PySem.Challenge.rw_re0024_01, Mine.hd.heap_39) := by k_fill; rfl
  clear hfill
  w_on
  refine wpAny_noRaise ?_
  show wpAny (model PP w) (lrTop dp un gd L l outer) (execs [lrW, nth (bodyOf lrDef) 8] (lrEnv L l)) Q _ s
  conv in nth (bodyOf lrDef) 8 => whnf
  k_dflt (refine wpAny_execs_cons ?_)
  have hrem : rem text 0 = text.cps.toList := rfl
  have hll := len_list text
  refine loopW (C := 1 + nl text.cps.toList) (n := text.length + 1) B X T hC hd hu ok hcode hsep hwe hwt het htx
    ⟨⟨s.heap, s.toks, 0, 1, t1, t2, #[], #[], 0, 0, [], rfl, F, N, .nil, .nil, by omega, by simp, by simp, .inl ⟨by omega, by simp; omega, by simp; omega, by rw [hrem]; omega, by rw [hrem]; rfl, by rw [hrem]⟩⟩⟩ ?_
  intro h tk k ln t1 t2 its jts n1 n2 pre F1 N1 hS hJ z1 z2 hp hl
  dsimp only
  k_steps
  rename_i tup h' F2 N2 l1
  have hsub : ∀ p ∈ lrLists wl el its jts n1 n2 ++ tb, p ∈ lxNews w l ln t1 k t2 ++ (lrLists wl el its jts n1 n2 ++ tb) := fun p hp => List.mem_append_right _ hp
  subst hl
  refine hret _ _ tup its jts n1 n2 t1 pre F2 (fun p (hp : p ∈ (tup, tupOf [.ref wl, .ref el, .int (1 + nl text.cps.toList) t1]) :: (lrLists wl el its jts n1 n2 ++ tb)) => ?_) (fun p hp => l1 p (hsub p hp)) hS hJ z1 z2 hp
  rcases List.mem_cons.mp hp with rfl | hp
  · exact N2 _ (.head _)
  · exact N2 _ (.tail _ (hsub p hp))
end
section
set_option compiler.extract_closed false
open PySem PySem.W PySem.Calls PyProof.Rows
set_option Elab.async false
set_option maxRecDepth 100000
set_option maxHeartbeats 8000000
set_option linter.unusedVariables false
set_option pp.deepTerms false
set_option pp.deepTerms.threshold 7
set_option pp.proofs false
set_option pp.maxSteps 8000
noncomputable def lrQual : Str := qualnameIn (envOfC (Str.ofString "_law_read") lrScope 0 101 (.ref 100)) (Str.ofString "read") (Str.ofString "read")
/-- the table of the code objects that `_law_read` makes, filled -/
noncomputable abbrev tabTwo (a1 a2 : Nat) : Obj := tabObj #[rawInt 115, rawInt 4, .ref a1, rawInt 118, rawInt 13, .ref a2]
noncomputable abbrev lrOut (tup wl el : Nat) (text : Str) (t : Tok) (its jts : Array Value) (n1 n2 : Nat) : List (Addr × Obj) := (tup, tupOf [.ref wl, .ref el, .int (1 + nl text.cps.toList) t]) :: lrLists wl el its jts n1 n2
theorem lr_end1 {h₀ h : Heap} {L : Addr} {rest : List (Addr × Obj)} {tup wl el a1 n1 n2 : Nat} {text : Str} {t : Tok} {its jts : Array Value} {o1 tab : Obj}
    (kN : News h₀ L h ((tup, tupOf [.ref wl, .ref el, .int (1 + nl text.cps.toList) t]) :: (lrLists wl el its jts n1 n2 ++ [(96, tab), (a1, o1)]))) (NR : News h₀ L h rest) :
    News h₀ L h ([(96, tab), (a1, o1)] ++ (lrOut tup wl el text t its jts n1 n2 ++ rest)) := fun p hp => by
  rcases List.mem_append.mp hp with hp | hp
  · exact kN p (.tail _ (List.mem_append_right _ hp))
  · rcases List.mem_append.mp hp with hp | hp
    · rcases List.mem_cons.mp hp with rfl | hp
      · exact kN _ (.head _)
      · exact kN p (.tail _ (List.mem_append_left _ hp))
    · exact NR p hp
/-- the first call of `_law_read` -/
theorem law_read1 {w : World} {p : Program} {loose : List Str} {mean : ExcName → Option Value} {mg mb : Str → Option Value} 
   {dp un : Nat} {gd : Option (List Code)} {cn : Str} {cs : Scope} {a : Addr} {ccd : Value} {cl : List (Str × Addr)} {outer : List Env} {A₀ : Around} {base h₀ : Heap} {L : Addr} {m : Str → Option Value} {s : Shared} {R : Result → Shared → Prop}
   {text : Str} {tt : Tok} {rest : List (Addr × Obj)}
   (B : Below A₀ base outer h₀) (F : Fr h₀ L s.heap m) (X : (Mine.hd.heap_39 w.params).In h₀) (N : News h₀ L s.heap ([(96, tabObj #[])] ++ rest)) (T : Top p loose mean mg mb h₀) (hk : cs.kind = .function)
   (hC : CodeHd base 100 96) (hd : dp + 30 < recursionLimit) (hu : un + 150 < cLine)
   (hsep : ∀ p ∈ rest, p.1 ∉ ([(96, tabObj #[])] : List (Addr × Obj)).map (·.1)) (htx : text.length ≤ 1000)
   (hR : ∀ h' tk' tup wl el its jts n1 n2 t a1 a2 o1, ∀ pre : List (Str × Int), (∃ vs1 t1, o1.data = .fields vs1 ∧ vs1[1]? = some (.str lrQual t1)) → Fr h₀ L h' m → News h₀ L h' ([(96, tabTwo a1 a2), (a1, o1)] ++ (lrOut tup wl el text t its jts n1 n2 ++ rest)) →
      (∀ p ∈ rest, p.1 < a1) → 96 < a1 → a1 < wl → wl < el → el < tup →
      StrsAre its.toList (pre.map (·.1)) → IntsAre jts.toList (pre.map (·.2)) → its.size ≤ 1100 → jts.size ≤ 1100 → pre.map (fun p => (p.1.cps.toList, p.2)) = readAll text →
      R (.ok (.ret (.ref tup))) { s with heap := h', toks := tk' }) :
    codeAny (model PP w) (ktrTop dp un gd cn cs L a ccd cl outer) (.call (.ref 101) ⟨[.str text tt], []⟩) R s := by
  have hfill : (PySem.Challenge.rw_re0024_01, Mine.hd.heap_39) = (PySem.Challenge.rw_re0024_01, Mine.hd.heap_39) := by k_fill; rfl
  clear hfill
  w_on
  k_dflt (walk_at "m enterCR")
  refine wpAny_noRaise ?_
  repeat' ((fail_if_success (with_reducible show wpAny _ _ (execs (Stmt.While _ _ _ _ :: _) _) _ _ _)); (first | (k_unfold; (try dsimp only)) | (k_end; wrow_close) | walk1 | (dsimp only; walk1) | (leave1; walk_say "STEP leave1"; try dsimp only) | fail "no step"))
  with_reducible rename News _ _ _ [_, _, _, _, _, _, _, _, _, _, _, _, _, _] => N1
  with_reducible rename Fr _ _ _ (fun y => if y = Str.ofString "ends" then _ else _) => F1
  show wpAny _ _ (execs lrTailB _) _ _ _
  refine' lrTail (dp := dp + 1) (un := un + 3) (l := Lx.mk _ _ _ _ _ _ _ _ _ _ _ _ _ _ _ _ _ _ _ _ _ _ _ _) (tb := [(96, tabObj _), (_, _)]) (text := text) ?r1 ?r2 ?r3 ?r4 ?r5 ?r6 ?r7 ?rc ?r8 ?r9 ?r10 ?r11 ?r12 F1 (cb_drop N1 ?r13) ?r14
  case r13 => k_dflt ((iterate 12 (refine' List.forall_mem_cons.mpr ⟨?_, ?_⟩; k_mem)); (refine' List.forall_mem_cons.mpr ⟨?_, ?_⟩); ((iterate 9 (refine' List.Mem.tail _ ?_)); exact List.Mem.head _); exact List.forall_mem_nil _)
  case r1 => k_asm
  case r2 => k_asm
  case r3 => k_asm
  case r4 => assumption
  case r5 => omega
  case r6 => omega
  case r7 =>
    refine ⟨by assumption, by assumption, ?_, ?_⟩
    · refine ⟨?_, ?_, ?_, ?_, ?_, ?_, ?_, ?_⟩ <;> k_ne
    · refine ⟨?_, ?_, ?_, ?_, ?_, ?_, ?_⟩ <;> k_ne
  case rc =>
    intro h _ ht
    exact ⟨_, _, _, _, rfl, ht _ (.tail _ (.head _)), by assumption, by assumption⟩
  case r8 =>
    simp only [lrLists, lxNews, List.cons_append, List.nil_append, List.map_cons, List.map_nil, List.mem_cons, List.not_mem_nil, or_false]
    intro p hp hm
    rcases hp with rfl | rfl | rfl | rfl <;> rcases hm with e | e | e | e | e | e | e | e | e <;> exact absurd e (by k_ne)
  case r9 => k_ne
  case r10 =>
    refine List.forall_mem_cons.mpr ⟨?_, List.forall_mem_cons.mpr ⟨?_, List.forall_mem_nil _⟩⟩ <;> k_ne
  case r11 =>
    refine List.forall_mem_cons.mpr ⟨?_, List.forall_mem_cons.mpr ⟨?_, List.forall_mem_nil _⟩⟩ <;> k_ne
  case r12 => exact htx
  case r14 =>
    intro h tk tup its jts n1 n2 t pre F2 N2 l2 hS hJ z1 z2 hp
    dsimp only
    k_steps
    with_reducible rename Fr h₀ L _ _ => kF
    with_reducible rename News h₀ L _ _ => kN
    intro NR hg
    with_reducible rename (∀ (p : Addr × Obj), p ∈ rest → p.1 < _) => lR
    exact hR _ _ tup _ _ its jts n1 n2 t _ _ _ pre ⟨_, _, by assumption, by assumption⟩ kF (lr_end1 kN NR) (fun p hp => Nat.lt_trans (lR p hp) (by refine ltN ?_; (try dsimp only); first | walk_at "conj" | omega)) (by refine ltN ?_; (try dsimp only); first | walk_at "conj" | omega) (by refine ltN ?_; (try dsimp only); first | walk_at "conj" | omega) (by refine ltN ?_; first | walk_at "conj" | omega) (l2 _ (.tail _ (.head _))) hS hJ z1 z2 hp
end
section
set_option compiler.extract_closed false
open PySem PySem.W PySem.Calls PyProof.Rows
set_option Elab.async false
set_option maxRecDepth 100000
set_option maxHeartbeats 8000000
set_option linter.unusedVariables false
set_option pp.deepTerms false
set_option pp.deepTerms.threshold 7
set_option pp.proofs false
set_option pp.maxSteps 8000
local macro_rules | `(tactic| walk_at "exec FunctionDef") => `(tactic| (k_here; kn_here; k_dflt (refine' nestDef_K (by exact rfl) (by exact rfl) (by exact rfl) ?_); k_dflt (refine' nestHit_H (by k_asm) (by k_asm) (by k_asm) ?C ?cd ?P ?t ?n ?cl ?_; (case cd => exact rfl); (case C => kn_code); (case P => exact Fr.keep (by k_asm) _ _ (by assumption)); (case t => kn_triples); (case n => kn_hit); (case cl => exact rfl); k_whole); intro f' ct' dc' h' tk' F' N' l1; (try dsimp only at N'); (try k_lt l1)))
local macro_rules | `(tactic| walk_at "eval Lambda") => `(tactic| (k_here; kn_here; k_dflt (refine' kla_eval (by exact rfl) ?_); k_dflt (refine' klaHit_H (by k_asm) (by k_asm) (by k_asm) ?C ?cd ?P ?t ?n ?cl ?_; (case cd => exact rfl); (case C => kn_code); (case P => exact Fr.keep (by k_asm) _ _ (by assumption)); (case t => kn_triples); (case n => kn_hit); (case cl => exact rfl); k_whole); intro f' ct' h' tk' F' N' l1; (try dsimp only at N'); (try k_lt l1)))
theorem lr_end2 {h₀ h : Heap} {L : Addr} {rest : List (Addr × Obj)} {tup wl el n1 n2 : Nat} {text : Str} {t : Tok} {its jts : Array Value}
    (kN : News h₀ L h ((tup, tupOf [.ref wl, .ref el, .int (1 + nl text.cps.toList) t]) :: (lrLists wl el its jts n1 n2 ++ []))) (NR : News h₀ L h rest) :
    News h₀ L h (lrOut tup wl el text t its jts n1 n2 ++ rest) := fun p hp => by
  rcases List.mem_append.mp hp with hp | hp
  · rcases List.mem_cons.mp hp with rfl | hp
    · exact kN _ (.head _)
    · exact kN p (.tail _ (List.mem_append_left _ hp))
  · exact NR p hp
/-- a later call of `_law_read` -/
theorem law_read2 {w : World} {p : Program} {loose : List Str} {mean : ExcName → Option Value} {mg mb : Str → Option Value} 
   {dp un : Nat} {gd : Option (List Code)} {cn : Str} {cs : Scope} {a : Addr} {ccd : Value} {cl : List (Str × Addr)} {outer : List Env} {A₀ : Around} {base h₀ : Heap} {L : Addr} {m : Str → Option Value} {s : Shared} {R : Result → Shared → Prop}
   {text : Str} {tt : Tok} {rest : List (Addr × Obj)} {a1 a2 : Nat}
   (B : Below A₀ base outer h₀) (F : Fr h₀ L s.heap m) (X : (Mine.hd.heap_39 w.params).In h₀) (N : News h₀ L s.heap rest) (T : Top p loose mean mg mb h₀) (hk : cs.kind = .function)
   (hC : CodeHd base 100 96) (hd : dp + 30 < recursionLimit) (hu : un + 150 < cLine)
   (h96 : s.heap.get? 96 = some (tabTwo a1 a2)) (hcode : s.heap.CodeRec (.ref a1) lrQual) (htx : text.length ≤ 1000)
   (hR : ∀ h' tk' tup wl el its jts n1 n2 t, ∀ pre : List (Str × Int), Fr h₀ L h' m → News h₀ L h' (lrOut tup wl el text t its jts n1 n2 ++ rest) → (∀ p ∈ rest, p.1 < wl) → wl < el → el < tup →
      StrsAre its.toList (pre.map (·.1)) → IntsAre jts.toList (pre.map (·.2)) → its.size ≤ 1100 → jts.size ≤ 1100 → pre.map (fun p => (p.1.cps.toList, p.2)) = readAll text →
      R (.ok (.ret (.ref tup))) { s with heap := h', toks := tk' }) :
    codeAny (model PP w) (ktrTop dp un gd cn cs L a ccd cl outer) (.call (.ref 101) ⟨[.str text tt], []⟩) R s := by
  have hfill : (PySem.Challenge.rw_re0024_01, Mine.hd.heap_39) = (PySem.Challenge.rw_re0024_01, Mine.hd.heap_39) := by k_fill; rfl
  clear hfill
  w_on
  have hsep : ∀ p ∈ rest, p.1 ∉ ([] : List (Addr × Obj)).map (·.1) := fun _ _ h => nomatch h
  have N0 : News h₀ L s.heap ([] ++ rest) := N
  k_dflt (walk_at "m enterCR")
  with_reducible rename (∀ (b : Addr) (o : Obj), b ∉ _ → _ → _) => lG
  have g96 := lG 96 _ (fun h => nomatch h) h96
  have gcode := code_into hcode (fun o e => lG _ _ (fun h => nomatch h) e)
  refine wpAny_noRaise ?_
  repeat' ((fail_if_success (with_reducible show wpAny _ _ (execs (Stmt.While _ _ _ _ :: _) _) _ _ _)); (first | (k_unfold; (try dsimp only)) | (k_end; wrow_close) | walk1 | (dsimp only; walk1) | (leave1; walk_say "STEP leave1"; try dsimp only) | fail "no step"))
  with_reducible rename News _ _ _ [_, _, _, _, _, _, _, _, _, _, _] => N1
  with_reducible rename Fr _ _ _ (fun y => if y = Str.ofString "ends" then _ else _) => F1
  show wpAny _ _ (execs lrTailB _) _ _ _
  refine' lrTail (dp := dp + 1) (un := un + 3) (l := Lx.mk _ _ _ _ _ _ _ _ _ _ _ _ _ _ _ _ _ _ _ _ _ _ _ _) (tb := []) (text := text) ?r1 ?r2 ?r3 ?r4 ?r5 ?r6 ?r7 ?rc ?r8 ?r9 ?r10 ?r11 ?r12 F1 (cb_drop N1 ?r13) ?r14
  case r13 => k_dflt ((iterate 11 (refine' List.forall_mem_cons.mpr ⟨?_, ?_⟩; k_mem)); exact List.forall_mem_nil _)
  case r1 => k_asm
  case r2 => k_asm
  case r3 => k_asm
  case r4 => assumption
  case r5 => omega
  case r6 => omega
  case r7 =>
    refine ⟨by assumption, by assumption, ?_, ?_⟩
    · refine ⟨?_, ?_, ?_, ?_, ?_, ?_, ?_, ?_⟩ <;> k_ne
    · refine ⟨?_, ?_, ?_, ?_, ?_, ?_, ?_⟩ <;> k_ne
  case rc =>
    intro h hk _
    exact gcode.keeps hk
  case r8 =>
    simp only [lrLists, lxNews, List.cons_append, List.nil_append, List.map_cons, List.map_nil, List.mem_cons, List.not_mem_nil, or_false]
    intro p hp hm
    rcases hp with rfl | rfl <;> rcases hm with e | e | e | e | e | e | e | e | e <;> exact absurd e (by k_ne)
  case r9 => k_ne
  case r10 => exact List.forall_mem_nil _
  case r11 => exact List.forall_mem_nil _
  case r12 => exact htx
  case r14 =>
    intro h tk tup its jts n1 n2 t pre F2 N2 l2 hS hJ z1 z2 hp
    dsimp only
    k_steps
    with_reducible rename Fr h₀ L _ _ => kF
    with_reducible rename News h₀ L _ _ => kN
    intro NR hg
    with_reducible rename (∀ (p : Addr × Obj), p ∈ rest → p.1 < _) => lR
    exact hR _ _ tup _ _ its jts n1 n2 t pre kF (lr_end2 kN NR) (fun p hp => Nat.lt_trans (lR p hp) (by refine ltN ?_; (try dsimp only); first | walk_at "conj" | omega)) (by refine ltN ?_; first | walk_at "conj" | omega) (l2 _ (.tail _ (.head _))) hS hJ z1 z2 hp
end
section
set_option compiler.extract_closed false
open PySem PySem.W PySem.Calls PyProof.Rows
set_option Elab.async false
set_option maxRecDepth 100000
set_option maxHeartbeats 1000000
noncomputable abbrev riObj (x left : Int) : Obj := { cls := .type "range_iterator", dict := none, data := .fields #[rawInt x, rawInt left, rawInt 1], slots := #[] }
/-- between two turns of a for over a range -/
noncomputable def RgI (P : Int → (Str → Option Value) → List (Addr × Obj) → Prop) (it : Nat) (a b : Int) (h₀ : Heap) (L : Addr) (s₀ : Shared) (n : Nat) (s : Shared) : Prop :=
  ∃ k h tk m news, n = (b - k).toNat ∧ a ≤ k ∧ k ≤ b ∧ s = { s₀ with heap := h, toks := tk } ∧ Fr h₀ L h m ∧ News h₀ L h (news ++ [(it, riObj k (b - k))]) ∧ (∀ p ∈ news, p.1 ≠ it) ∧ P k m news
/-- the end of a turn -/
noncomputable def RgEnd (P : Int → (Str → Option Value) → List (Addr × Obj) → Prop) (it : Nat) (o : Obj) (k : Int) (h₀ : Heap) (L : Addr) (s₀ : Shared) (s : Shared) : Prop :=
  ∃ h tk m news, s = { s₀ with heap := h, toks := tk } ∧ Fr h₀ L h m ∧ News h₀ L h (news ++ [(it, o)]) ∧ (∀ p ∈ news, p.1 ≠ it) ∧ P k m news
theorem RgEnd.intro {P : Int → (Str → Option Value) → List (Addr × Obj) → Prop} {it : Nat} {o : Obj} {k : Int} {h₀ h : Heap} {L : Addr} {s₀ : Shared} {tk : Nat} {m : Str → Option Value} (news : List (Addr × Obj)) (F : Fr h₀ L h m) (N : News h₀ L h (news ++ [(it, o)])) (hn : ∀ p ∈ news, p.1 ≠ it) (hP : P k m news) :
    RgEnd P it o k h₀ L s₀ { s₀ with heap := h, toks := tk } := ⟨h, tk, m, news, rfl, F, N, hn, hP⟩
/-- the range has been made -/
noncomputable def RgSrc (P : Int → (Str → Option Value) → List (Addr × Obj) → Prop) (a b : Int) (h₀ : Heap) (L : Addr) (s : Shared) (xv : Value) (s₁ : Shared) : Prop :=
  ∃ r t u v h tk m news, xv = .ref r ∧ s₁ = { s with heap := h, toks := tk } ∧ IsRange h r a b 1 t u v ∧ Builtin.Range.small a b 1 = true ∧ Builtin.Range.rangeSize a b 1 = b - a ∧ Fr h₀ L h m ∧ News h₀ L h news ∧ P a m news
theorem range_small {a b : Int} (h0 : 0 ≤ a) (h1 : a ≤ b) (h2 : b < 1000000) : Builtin.Range.small a b 1 = true ∧ Builtin.Range.rangeSize a b 1 = b - a := by
  have hs : Builtin.Range.rangeSize a b 1 = b - a := by
    unfold Builtin.Range.rangeSize
    simp
    omega
  refine ⟨?_, hs⟩
  unfold Builtin.Range.small
  rw [hs]
  unfold Builtin.Range.rangeFitsLong
  simp
  omega
theorem RgSrc.intro {P : Int → (Str → Option Value) → List (Addr × Obj) → Prop} {a b : Int} {h₀ h : Heap} {L r : Addr} {s : Shared} {t u v : Tok} {tk : Nat} {m : Str → Option Value} {news : List (Addr × Obj)} (hr : IsRange h r a b 1 t u v) (h0 : 0 ≤ a) (h1 : a ≤ b) (h2 : b < 1000000) (F : Fr h₀ L h m) (N : News h₀ L h news) (hP : P a m news) :
    RgSrc P a b h₀ L s (.ref r) { s with heap := h, toks := tk } := ⟨r, t, u, v, h, tk, m, news, rfl, rfl, hr, (range_small h0 h1 h2).1, (range_small h0 h1 h2).2, F, N, hP⟩
theorem For_range {prog : Program} {w : World} {A : Around} {E : Value → Shared → Prop} {s : Shared} {env : Env} {Q : Flow → Shared → Prop} {x : Str} {px pos : Pos} {iter : Expr} {body : List Stmt} {h₀ : Heap} {L : Addr} {a b : Int}
    (P : Int → (Str → Option Value) → List (Addr × Obj) → Prop) (hLe : env.locals = L) (hh : A.handled = none) (hab : a ≤ b)
    (hk : env.kindOf x = some .local) (hp : (env.scope.kind == .class || (env.scope.kind == .module && env.locals != env.globals)) = false)
    (h : wpAny (model prog w) A (eval iter env) (RgSrc P a b h₀ L s) (fun _ _ => False) s)
    (turn : ∀ it o k t m news h tk, a ≤ k → k < b → P k m news → (∀ p ∈ news, p.1 ≠ it) → Fr h₀ L h (fun y => if y = x then some (.int k t) else m y) → News h₀ L h (news ++ [(it, o)]) →
      wpAny (model prog w) A (execs body env) (fun f s₃ => match f with
          | .next | .cont => RgEnd P it o (k + 1) h₀ L s s₃
          | .brk => Q .next s₃
          | .ret v => Q (.ret v) s₃) (fun _ _ => False) { s with heap := h, toks := tk })
    (done : ∀ m news h tk, P b m news → Fr h₀ L h m → News h₀ L h news → Q .next { s with heap := h, toks := tk })
    (hs : ∀ x, foldedSetIterable iter env x = pure x := by intro _; rfl) (ht : ∀ it v, letOwnedTupleGo (.Name x px) it v = pure () := by intro _ _; rfl) :
    wpAny (model prog w) A (exec (.For (.Name x px) iter body [] pos) env) Q E s := by
  subst hLe
  refine wpAny_noRaise (wpAny_For (wpAny_mono h (fun xv s₁ h₁ => ?_) fun _ _ e => e) hs)
  clear h
  obtain ⟨r, t, u, v, g, tk, m, news, rfl, rfl, hr, hsm, hsz, F, N, hP⟩ := h₁
  refine wpAny_pyIter_range hr hsm ?_
  have hL₀ : h₀.get? env.locals = none := Heap.get?_none_of_le F.above
  have never : ∀ {α : Type} {t : Sem α} {P : α → Shared → Prop} {s : Shared} {E' : Value → Shared → Prop}, wpAny (model prog w) A t P (fun _ _ => False) s → wpAny (model prog w) A t P E' s := fun h => wpAny_noRaise h
  refine codeAny_forLoop (RgI P g.objs.size a b h₀ env.locals s) (fun n s' hI => ?_) (b - a).toNat ⟨a, _, tk, m, news, rfl, Int.le_refl _, hab, rfl, F.push _, fun p hp => ?_, fun p hp => Nat.ne_of_lt (Heap.lt_size (N p hp).1), hP⟩ (ht _)
  · refine never ?_
    obtain ⟨k, h', tk', m', news', rfl, h1, h2, rfl, F', N', hoff, hP'⟩ := hI
    have nit := N' (g.objs.size, riObj k (b - k)) (List.mem_append_right _ (.head _))
    rcases Int.lt_or_le k b with hkb | hkb
    · refine wpAny_pyNext_range_item (show IsRangeIter h' g.objs.size k (b - k) 1 from nit.1) (by omega) fun h'' hit'' hsb => ?_
      have F'' : Fr h₀ env.locals h'' m' := F'.change hsb nit.2.1 nit.2.2
      have N'' : News h₀ env.locals h'' (news' ++ [(g.objs.size, riObj (k + 1) (b - k - 1))]) := fun p hp => by
        rcases List.mem_append.mp hp with hp | hp
        · have z := N' p (List.mem_append_left _ hp)
          exact ⟨hsb.extBut _ _ (hoff p hp) z.1, z.2⟩
        · rw [List.mem_singleton.mp hp]
          exact ⟨hit'', nit.2⟩
      refine wpAny_assign_Name (wpAny_storeName_local hk F''.ns (fun h₂ hn₂ hs₂ => ?_) hp)
      have F₂ : Fr h₀ env.locals h₂ (fun z => if z = x then some (.int k tk') else m' z) := ⟨hn₂, fun b o e => hs₂.extBut b o (fun q => by rw [q, hL₀] at e; cases e) (F''.keep b o e), F''.above⟩
      refine never (wpAny_mono (turn g.objs.size _ k tk' m' news' h₂ _ h1 hkb hP' hoff F₂ (fun p hp => ⟨hs₂.extBut _ _ (N'' p hp).2.1 (N'' p hp).1, (N'' p hp).2⟩)) (fun f s₃ h₃ => ?_) fun _ _ e => e)
      have back : RgEnd P g.objs.size (riObj (k + 1) (b - k - 1)) (k + 1) h₀ env.locals s s₃ → ∃ m, m < (b - k).toNat ∧ RgI P g.objs.size a b h₀ env.locals s m s₃ := by
        rintro ⟨h5, tk5, m5, news5, rfl, F5, N5, hoff5, hP5⟩
        refine ⟨(b - (k + 1)).toNat, by omega, k + 1, h5, tk5, m5, news5, rfl, by omega, by omega, rfl, F5, ?_, hoff5, hP5⟩
        rw [show b - (k + 1) = b - k - 1 by omega]
        exact N5
      cases f with
      | next => exact back h₃
      | cont => exact back h₃
      | brk => exact h₃
      | ret v => exact h₃
    · have hkb' : k = b := by omega
      subst hkb'
      refine wpAny_pyNext_range_end hh (show IsRangeIter h' g.objs.size k (k - k) 1 from nit.1) (by omega) fun h'' hx => wpAny_execs_nil ?_
      exact done m' news' h'' _ hP' ⟨F'.ns.extBut hx (Ne.symm nit.2.1), fun b o e => hx b o (fun q => by rw [q, nit.2.2] at e; cases e) (F'.keep b o e), F'.above⟩
        (fun p hp => ⟨hx _ _ (hoff p hp) (N' p (List.mem_append_left _ hp)).1, (N' p (List.mem_append_left _ hp)).2⟩)
  · rcases List.mem_append.mp hp with hp | hp
    · exact ⟨Heap.get?_push_of_some _ (N p hp).1, (N p hp).2⟩
    · rw [List.mem_singleton.mp hp]
      refine ⟨?_, Nat.ne_of_gt F.ns.lt, next_is_new F⟩
      rw [← hsz]
      exact Heap.get?_push_size _ rfl
/-- ... the target stored by the turn itself -/
theorem For_rangeC {prog : Program} {w : World} {A : Around} {E : Value → Shared → Prop} {s : Shared} {env : Env} {Q : Flow → Shared → Prop} {x : Str} {px pos : Pos} {iter : Expr} {body : List Stmt} {h₀ : Heap} {L : Addr} {a b : Int}
    (P : Int → (Str → Option Value) → List (Addr × Obj) → Prop) (hLe : env.locals = L) (hh : A.handled = none) (hab : a ≤ b)
    (h : wpAny (model prog w) A (eval iter env) (RgSrc P a b h₀ L s) (fun _ _ => False) s)
    (turn : ∀ it o k t m news h tk, a ≤ k → k < b → P k m news → (∀ p ∈ news, p.1 ≠ it) → Fr h₀ L h m → News h₀ L h (news ++ [(it, o)]) →
      wpAny (model prog w) A (storeName env x (.int k t)) (fun _ s₂ => wpAny (model prog w) A (execs body env) (fun f s₃ => match f with
          | .next | .cont => RgEnd P it o (k + 1) h₀ L s s₃
          | .brk => Q .next s₃
          | .ret v => Q (.ret v) s₃) (fun _ _ => False) s₂) (fun _ _ => False) { s with heap := h, toks := tk })
    (done : ∀ m news h tk, P b m news → Fr h₀ L h m → News h₀ L h news → Q .next { s with heap := h, toks := tk })
    (hs : ∀ x, foldedSetIterable iter env x = pure x := by intro _; rfl) (ht : ∀ it v, letOwnedTupleGo (.Name x px) it v = pure () := by intro _ _; rfl) :
    wpAny (model prog w) A (exec (.For (.Name x px) iter body [] pos) env) Q E s := by
  subst hLe
  refine wpAny_noRaise (wpAny_For (wpAny_mono h (fun xv s₁ h₁ => ?_) fun _ _ e => e) hs)
  clear h
  obtain ⟨r, t, u, v, g, tk, m, news, rfl, rfl, hr, hsm, hsz, F, N, hP⟩ := h₁
  refine wpAny_pyIter_range hr hsm ?_
  have hL₀ : h₀.get? env.locals = none := Heap.get?_none_of_le F.above
  have never : ∀ {α : Type} {t : Sem α} {P : α → Shared → Prop} {s : Shared} {E' : Value → Shared → Prop}, wpAny (model prog w) A t P (fun _ _ => False) s → wpAny (model prog w) A t P E' s := fun h => wpAny_noRaise h
  refine codeAny_forLoop (RgI P g.objs.size a b h₀ env.locals s) (fun n s' hI => ?_) (b - a).toNat ⟨a, _, tk, m, news, rfl, Int.le_refl _, hab, rfl, F.push _, fun p hp => ?_, fun p hp => Nat.ne_of_lt (Heap.lt_size (N p hp).1), hP⟩ (ht _)
  · refine never ?_
    obtain ⟨k, h', tk', m', news', rfl, h1, h2, rfl, F', N', hoff, hP'⟩ := hI
    have nit := N' (g.objs.size, riObj k (b - k)) (List.mem_append_right _ (.head _))
    rcases Int.lt_or_le k b with hkb | hkb
    · refine wpAny_pyNext_range_item (show IsRangeIter h' g.objs.size k (b - k) 1 from nit.1) (by omega) fun h'' hit'' hsb => ?_
      have F'' : Fr h₀ env.locals h'' m' := F'.change hsb nit.2.1 nit.2.2
      have N'' : News h₀ env.locals h'' (news' ++ [(g.objs.size, riObj (k + 1) (b - k - 1))]) := fun p hp => by
        rcases List.mem_append.mp hp with hp | hp
        · have z := N' p (List.mem_append_left _ hp)
          exact ⟨hsb.extBut _ _ (hoff p hp) z.1, z.2⟩
        · rw [List.mem_singleton.mp hp]
          exact ⟨hit'', nit.2⟩
      refine wpAny_assign_Name (never (wpAny_mono (turn g.objs.size _ k tk' m' news' h'' _ h1 hkb hP' hoff F'' N'') (fun _ s₂ h₂ => never (wpAny_mono h₂ (fun f s₃ h₃ => ?_) fun _ _ e => e)) fun _ _ e => e))
      have back : RgEnd P g.objs.size (riObj (k + 1) (b - k - 1)) (k + 1) h₀ env.locals s s₃ → ∃ m, m < (b - k).toNat ∧ RgI P g.objs.size a b h₀ env.locals s m s₃ := by
        rintro ⟨h5, tk5, m5, news5, rfl, F5, N5, hoff5, hP5⟩
        refine ⟨(b - (k + 1)).toNat, by omega, k + 1, h5, tk5, m5, news5, rfl, by omega, by omega, rfl, F5, ?_, hoff5, hP5⟩
        rw [show b - (k + 1) = b - k - 1 by omega]
        exact N5
      cases f with
      | next => exact back h₃
      | cont => exact back h₃
      | brk => exact h₃
      | ret v => exact h₃
    · have hkb' : k = b := by omega
      subst hkb'
      refine wpAny_pyNext_range_end hh (show IsRangeIter h' g.objs.size k (k - k) 1 from nit.1) (by omega) fun h'' hx => wpAny_execs_nil ?_
      exact done m' news' h'' _ hP' ⟨F'.ns.extBut hx (Ne.symm nit.2.1), fun b o e => hx b o (fun q => by rw [q, nit.2.2] at e; cases e) (F'.keep b o e), F'.above⟩
        (fun p hp => ⟨hx _ _ (hoff p hp) (N' p (List.mem_append_left _ hp)).1, (N' p (List.mem_append_left _ hp)).2⟩)
  · rcases List.mem_append.mp hp with hp | hp
    · exact ⟨Heap.get?_push_of_some _ (N p hp).1, (N p hp).2⟩
    · rw [List.mem_singleton.mp hp]
      refine ⟨?_, Nat.ne_of_gt F.ns.lt, next_is_new F⟩
      rw [← hsz]
      exact Heap.get?_push_size _ rfl
end
section
set_option compiler.extract_closed false
open PySem PySem.W PySem.Calls PyProof.Rows
set_option Elab.async false
set_option maxRecDepth 100000
set_option maxHeartbeats 1000000
/-- a small int -/
noncomputable def Sm (a : Int) : Prop := a.natAbs < 1073741824
theorem mul_sm {a b : Int} (h : Sm a) : IntMulOk a b := by
  unfold Sm at h
  exact IntMulOk.of_left (intBits_le_64 (by omega) (by omega))
section
variable {prog : Program} {w : World} {A : Around} {E : Value → Shared → Prop} {s : Shared} {h₀ : Heap} {L D : Addr} {m : Str → Option Value} {news : List (Addr × Obj)} {vs : List Value} {ns : List Int} {n : Nat} {t : Tok} {k : Int}
theorem ints_len {Q : Value → Shared → Prop} (N : News h₀ L s.heap news) (hm : (D, W.listOf vs.toArray n) ∈ news) (hi : IntsAre vs ns) (hz : ns.length < 100000) (h : Q (.int ns.length (s.toks + 1)) { s with toks := s.toks + 1 + 1 }) :
    wpAny (model prog w) A (call (.builtin "len") [.ref D]) Q E s := by
  have hl := hi.length
  refine Calls.call_len_list (PySem.IsL.isList (n := n) (N _ hm).1) (by simp; omega) ?_
  rw [show (vs.toArray.size : Int) = ns.length by simp [hl]]
  exact h
theorem ints_sub {value slice : PySem.Expr} {Q : Value → Shared → Prop} (N : News h₀ L s.heap news) (hm : (D, W.listOf vs.toArray n) ∈ news) (hi : IntsAre vs ns) (h0 : 0 ≤ k) (hk : k < ns.length) (hz : ns.length < 100000) (hq : ∀ t', Q (.int (ns.getD k.toNat 0) t') s)
    (hs' : subscripted slice false (.ref D) (.int k t) = operate [.ref D, .int k t] (getItem (.ref D) (.int k t)) := by with_unfolding_all rfl) : wpAny (model prog w) A (subscriptTail value slice (.ref D) (.int k t)) Q E s := by
  have hl := hi.length
  have hL := PySem.IsL.isList (n := n) (N _ hm).1
  have hlt : k.toNat < ns.length := by omega
  obtain ⟨t', ht⟩ := hi.get k.toNat (ns.getD k.toNat 0) (by rw [List.getD_eq_getElem?_getD, List.getElem?_eq_getElem hlt]; rfl)
  exact tail_any hL.typeIs slot_list_getitem.lookup (wpAny_getItem_list hL h0 (by omega) (by simpa using ht) (hq t')) hs'
theorem ints_neg_sub {value slice : PySem.Expr} {Q : Value → Shared → Prop} (N : News h₀ L s.heap news) (hm : (D, W.listOf vs.toArray n) ∈ news) (hi : IntsAre vs ns) (h0 : k < 0) (hk : 0 ≤ k + ns.length) (hz : ns.length < 100000) (hq : ∀ t', Q (.int (ns.getD (k + ns.length).toNat 0) t') s)
    (hs' : subscripted slice false (.ref D) (.int k t) = operate [.ref D, .int k t] (getItem (.ref D) (.int k t)) := by with_unfolding_all rfl) : wpAny (model prog w) A (subscriptTail value slice (.ref D) (.int k t)) Q E s := by
  have hl := hi.length
  have hL := PySem.IsL.isList (n := n) (N _ hm).1
  have hlt : (k + ns.length).toNat < ns.length := by omega
  obtain ⟨t', ht⟩ := hi.get (k + ns.length).toNat (ns.getD (k + ns.length).toNat 0) (by rw [List.getD_eq_getElem?_getD, List.getElem?_eq_getElem hlt]; rfl)
  exact tail_any hL.typeIs slot_list_getitem.lookup (wpAny_getItem_list_neg hL h0 (by simp; omega) (by omega) (by rw [show (k + (vs.toArray.size : Nat)).toNat = (k + ns.length).toNat by simp [hl]]; simpa using ht) (hq t')) hs'
theorem divmod_K {a b : Int} {t u : Tok} {Q : Value → Shared → Prop} (F : Fr h₀ L s.heap m) (N : News h₀ L s.heap news) (hb : b ≠ 0) (hs : b.natAbs < 1073741824)
    (h : ∀ d h' tk t' u', Fr h₀ L h' m → News h₀ L h' ((d, { cls := .type "tuple", data := .seq #[.int (a.fdiv b) t', .int (a.fmod b) u'] }) :: news) → (∀ p ∈ news, p.1 < d) → Q (.ref d) { s with toks := tk, heap := h' }) :
    wpAny (model prog w) A (call (.builtin "divmod") [.int a t, .int b u]) Q E s :=
  divmod_N F N hb (fun h' F' N' => h _ h' _ _ _ F' N' fun p hp => Heap.lt_size (N p hp).1) (Or.inl (PyProof.noPylong_small hs))
theorem ints_lenL {Q : Value → Shared → Prop} (hL : s.heap.IsList D vs.toArray) (hi : IntsAre vs ns) (hz : ns.length < 100000) (h : Q (.int ns.length (s.toks + 1)) { s with toks := s.toks + 1 + 1 }) :
    wpAny (model prog w) A (call (.builtin "len") [.ref D]) Q E s := by
  have hl := hi.length
  refine Calls.call_len_list hL (by simp; omega) ?_
  rw [show (vs.toArray.size : Int) = ns.length by simp [hl]]
  exact h
theorem ints_subL {value slice : PySem.Expr} {Q : Value → Shared → Prop} (hL : s.heap.IsList D vs.toArray) (hi : IntsAre vs ns) (h0 : 0 ≤ k) (hk : k < ns.length) (hz : ns.length < 100000) (hq : ∀ t', Q (.int (ns.getD k.toNat 0) t') s)
    (hs' : subscripted slice false (.ref D) (.int k t) = operate [.ref D, .int k t] (getItem (.ref D) (.int k t)) := by with_unfolding_all rfl) : wpAny (model prog w) A (subscriptTail value slice (.ref D) (.int k t)) Q E s := by
  have hl := hi.length
  have hlt : k.toNat < ns.length := by omega
  obtain ⟨t', ht⟩ := hi.get k.toNat (ns.getD k.toNat 0) (by rw [List.getD_eq_getElem?_getD, List.getElem?_eq_getElem hlt]; rfl)
  exact tail_any hL.typeIs slot_list_getitem.lookup (wpAny_getItem_list hL h0 (by omega) (by simpa using ht) (hq t')) hs'
end
end
section
set_option compiler.extract_closed false
open PySem PySem.W PySem.Calls PyProof.Rows
set_option Elab.async false
set_option maxRecDepth 100000
set_option maxHeartbeats 1000000
theorem execs_app {M : Model} {A : Around} {E : Value → Shared → Prop} {env : Env} {b : List Stmt} {Q : Flow → Shared → Prop} : ∀ {a : List Stmt} {s : Shared},
    wpAny M A (execs a env) (fun f s' => match f with | .next => wpAny M A (execs b env) Q E s' | f => Q f s') E s → wpAny M A (execs (a ++ b) env) Q E s := by
  intro a s h Γ p hΓ
  have key : ∀ (a : List Stmt) (p : Pos) (s : Shared), Sem.wp M Γ (execs a env) (fun f _ s' => match f with | .next => wpAny M A (execs b env) Q E s' | f => Q f s') (fun e _ s' => E e s') p s → Sem.wp M Γ (execs (a ++ b) env) (fun f _ s' => Q f s') (fun e _ s' => E e s') p s := by
    intro a
    induction a with
    | nil => intro p s h; exact h Γ p hΓ
    | cons st r ih =>
      intro p s h
      rw [execs_cons, Sem.wp_bind'] at h
      rw [List.cons_append, execs_cons, Sem.wp_bind']
      refine Sem.wp_mono M Γ _ (fun f p' s' h' => ?_) (fun _ _ _ h' => h') _ _ h
      cases f <;> first | exact ih p' s' h' | exact h'
  exact key a p s (h Γ p hΓ)
end
section
set_option compiler.extract_closed false
open PySem PySem.W PySem.Calls PyProof.Rows
set_option Elab.async false
set_option maxRecDepth 100000
set_option maxHeartbeats 8000000
set_option linter.unusedVariables false
set_option pp.deepTerms false
set_option pp.deepTerms.threshold 7
set_option pp.proofs false
set_option pp.maxSteps 3000
noncomputable abbrev qMap (mi mj md mt : Option Value) (r ld' : Int) (tr tl : Tok) (res D : Nat) (meth : Str) (tm : Tok) (n : Int) (tn : Tok) : Str → Option Value := fun y =>
  if y = Str.ofString "interpolated" then mt else if y = Str.ofString "delta" then md else if y = Str.ofString "j" then mj else if y = Str.ofString "i" then mi else
  if y = Str.ofString "result" then some (.ref res) else if y = Str.ofString "m" then some (.int r tr) else if y = Str.ofString "ld" then some (.int ld' tl) else if y = Str.ofString "data" then some (.ref D) else
  if y = Str.ofString "method" then some (.str meth tm) else if y = Str.ofString "n" then some (.int n tn) else none
noncomputable def fdivI (a b : Int) : UInt64 := Float64.ofFrac (decide (a < 0) != decide (b < 0)) a.natAbs b.natAbs
theorem div_sm {prog : Program} {w : World} {A : Around} {E : Value → Shared → Prop} {s : Shared} {t u : Tok} {Q : Value → Shared → Prop} {a b : Int} (hA : A.handled = none) (ha : a.natAbs < 1125899906842624) (hb : b ≠ 0)
    (h : Q (.float (fdivI a b) s.toks) { s with toks := s.toks + 1 }) : wpAny (model prog w) A (binaryOp .Div (.int a t) (.int b u)) Q E s :=
  PySem.Flt.div_ii_fits hA (Nat.lt_of_lt_of_le (show a.natAbs < 2 ^ 50 from ha) (Nat.pow_le_pow_right (by decide) (by decide))) (fun e => absurd e hb) fun _ _ => h
noncomputable def qDef : Stmt := nth PP.main.body 5
noncomputable def qScope : Scope := scopeOf qDef
noncomputable def qForI : Stmt := nth (ifThen (nth (bodyOf qDef) 4)) 2
noncomputable def qForE : Stmt := nth (ifThen (nth (bodyOf qDef) 5)) 2
noncomputable abbrev qTop (dp un : Nat) (gd : Option (List Code)) (L : Addr) (outer : List Env) : Around := ktrTop dp un gd (Str.ofString "quantiles") qScope L 84 (.ref 83) [] outer
noncomputable abbrev qEnv (L : Addr) : Env := envX (Str.ofString "quantiles") qScope L 84 (.ref 83) []
/-- the floats told so far -/
noncomputable def Cuts (fs : Array Value) (num : Int → Int) (n : Int) (k : Int) : Prop := (fs.size : Int) = k - 1 ∧ ∀ i : Nat, i < fs.size → ∃ t, fs[i]? = some (.float (fdivI (num (i + 1)) n) t)
theorem Cuts.nil {num : Int → Int} {n : Int} : Cuts #[] num n 1 := ⟨by simp, fun i h => by simp at h⟩
theorem Cuts.push {fs : Array Value} {num : Int → Int} {n k : Int} {t : Tok} (h : Cuts fs num n k) (x : Int) (hx : x = num k) : Cuts (fs.push (.float (fdivI x n) t)) num n (k + 1) := by
  obtain ⟨h1, h2⟩ := h
  refine ⟨by rw [Array.size_push]; omega, fun i hi => ?_⟩
  rw [Array.size_push] at hi
  by_cases e : i = fs.size
  · subst e
    refine ⟨t, ?_⟩
    rw [Array.getElem?_push_size, hx, show (fs.size : Int) + 1 = k by omega]
  · obtain ⟨t', ht⟩ := h2 i (by omega)
    exact ⟨t', by rw [Array.getElem?_push_lt (by omega)]; rw [← Array.getElem?_eq_getElem (by omega)]; exact ht⟩
noncomputable def numI (ns : List Int) (n i : Int) : Int :=
  ns.getD ((i * (ns.length - 1)).fdiv n).toNat 0 * (n - (i * (ns.length - 1)).fmod n) + ns.getD ((i * (ns.length - 1)).fdiv n + 1).toNat 0 * (i * (ns.length - 1)).fmod n
theorem frac_facts {k m n : Int} (h1 : 1 ≤ k) (h2 : k < n) (hm : 1 ≤ m) : 0 ≤ (k * m).fdiv n ∧ (k * m).fdiv n < m ∧ 0 ≤ (k * m).fmod n ∧ (k * m).fmod n < n ∧ k * m = n * (k * m).fdiv n + (k * m).fmod n := by
  have hn : 0 < n := by omega
  have h0 : 0 ≤ k * m := Int.mul_nonneg (by omega) (by omega)
  have hlt : k * m < m * n := by
    rw [Int.mul_comm m n]
    exact Int.mul_lt_mul_of_pos_right h2 (by omega)
  rw [Int.fdiv_eq_ediv_of_nonneg _ (by omega), Int.fmod_eq_emod_of_nonneg _ (by omega)]
  refine ⟨Int.ediv_nonneg h0 (by omega), Int.ediv_lt_of_lt_mul hn hlt, Int.emod_nonneg _ (by omega), Int.emod_lt_of_pos _ hn, ?_⟩
  rw [Int.mul_ediv_add_emod]
theorem num_small {a b x y : Int} (ha : a.natAbs ≤ 10000) (hb : b.natAbs ≤ 10000) (hx : 0 ≤ x) (hx7 : x ≤ 7) (hy : 0 ≤ y) (hy7 : y ≤ 7) : (a * x + b * y).natAbs < 1125899906842624 := by
  have h1 : (a * x).natAbs ≤ 10000 * 7 := by rw [Int.natAbs_mul]; exact Nat.mul_le_mul ha (by omega)
  have h2 : (b * y).natAbs ≤ 10000 * 7 := by rw [Int.natAbs_mul]; exact Nat.mul_le_mul hb (by omega)
  exact Nat.lt_of_le_of_lt (Nat.le_trans (Int.natAbs_add_le _ _) (Nat.add_le_add h1 h2)) (by decide)
theorem q_map4 {mi mj md mt mi' mj' md' mt' : Option Value} {r ld' : Int} {tr tl : Tok} {res D : Nat} {meth : Str} {tm : Tok} {n : Int} {tn : Tok} (y : Str) :
    (if y = Str.ofString "interpolated" then mt' else if y = Str.ofString "delta" then md' else if y = Str.ofString "j" then mj' else if y = Str.ofString "i" then mi' else qMap mi mj md mt r ld' tr tl res D meth tm n tn y) = qMap mi' mj' md' mt' r ld' tr tl res D meth tm n tn y := by
  unfold qMap
  by_cases h1 : y = Str.ofString "interpolated"
  · simp only [if_pos h1]
  by_cases h2 : y = Str.ofString "delta"
  · simp only [if_neg h1, if_pos h2]
  by_cases h3 : y = Str.ofString "j"
  · simp only [if_neg h1, if_neg h2, if_pos h3]
  by_cases h4 : y = Str.ofString "i"
  · simp only [if_neg h1, if_neg h2, if_neg h3, if_pos h4]
  simp only [if_neg h1, if_neg h2, if_neg h3, if_neg h4]
theorem num_smallE {ns : List Int} {i j : Nat} {x y : Int} (hb : ∀ i, (ns.getD i 0).natAbs ≤ 10000) (hx : -2000 ≤ x) (hx7 : x ≤ 2000) (hy : -2000 ≤ y) (hy7 : y ≤ 2000) : (ns.getD i 0 * x + ns.getD j 0 * y).natAbs < 1125899906842624 := by
  have h1 : (ns.getD i 0 * x).natAbs ≤ 10000 * 2000 := by rw [Int.natAbs_mul]; exact Nat.mul_le_mul (hb i) (by omega)
  have h2 : (ns.getD j 0 * y).natAbs ≤ 10000 * 2000 := by rw [Int.natAbs_mul]; exact Nat.mul_le_mul (hb j) (by omega)
  exact Nat.lt_of_le_of_lt (Nat.le_trans (Int.natAbs_add_le _ _) (Nat.add_le_add h1 h2)) (by decide)
noncomputable def clip (lo hi j : Int) : Int := if j < lo then lo else if j > hi then hi else j
noncomputable def numE (ns : List Int) (n i : Int) : Int :=
  let j := clip 1 (ns.length - 1) ((i * (ns.length + 1)).fdiv n)
  let d := i * (ns.length + 1) - j * n
  ns.getD (j - 1).toNat 0 * (n - d) + ns.getD j.toNat 0 * d
theorem q_map5 {mi mj md mt mi' mj' mj'' md' mt' : Option Value} {r ld' : Int} {tr tl : Tok} {res D : Nat} {meth : Str} {tm : Tok} {n : Int} {tn : Tok} (y : Str) :
    (if y = Str.ofString "interpolated" then mt' else if y = Str.ofString "delta" then md' else if y = Str.ofString "j" then mj' else if y = Str.ofString "j" then mj'' else if y = Str.ofString "i" then mi' else qMap mi mj md mt r ld' tr tl res D meth tm n tn y) = qMap mi' mj' md' mt' r ld' tr tl res D meth tm n tn y := by
  refine Eq.trans ?_ (q_map4 (mi := mi) (mj := mj) (md := md) (mt := mt) y)
  by_cases h3 : y = Str.ofString "j"
  · simp only [if_pos h3]
  · simp only [if_neg h3]
end
section
set_option compiler.extract_closed false
open PySem PySem.W PySem.Calls PyProof.Rows PySem.SeqAt
set_option Elab.async false
set_option maxRecDepth 100000
set_option maxHeartbeats 1000000
section
variable {A : Around} {s : Shared} {a b : Addr} {xs ys : Array Value}
theorem eqAt_refs (h : RcAt A s (.ref a) (.ref b) true) : EqAt A s (.ref a) (.ref b) true := by
  by_cases e : a = b
  · subst e; exact EqAt.same _
  · exact EqAt.of_refs e h
theorem all_true (n : Nat) : (List.range n).all (fun _ => true) = true := by simp
theorem strs_getE : ∀ {vs : List Value} {ws : List Str}, StrsAre vs ws → ∀ (j : Nat) v, vs[j]? = some v → ∃ x t, ws[j]? = some x ∧ v = Value.str x t
  | _, _, .nil, j, v, h => by simp at h
  | _, _, .cons x t r, 0, v, h => by simp at h; exact ⟨x, t, rfl, h.symm⟩
  | _, _, .cons x t r, j + 1, v, h => by
    obtain ⟨y, u, h1, h2⟩ := strs_getE r j v (by simpa using h)
    exact ⟨y, u, by simpa using h1, h2⟩
theorem arr_get {xs : Array Value} {j : Nat} (h : j < xs.size) : xs.toList[j]? = some xs[j] := by
  rw [List.getElem?_eq_getElem (by simpa using h)]; simp
theorem rcAt_strs {ws : List Str} (hl : s.heap.IsList a xs) (hb : s.heap.IsList b ys) (h1 : StrsAre xs.toList ws) (h2 : StrsAre ys.toList ws) (hu : A.units < cLine) : RcAt A s (.ref a) (.ref b) true := by
  have l1 := h1.length
  have l2 := h2.length
  have := RcAt.lists (e := fun _ => true) hl hb (by simp at l1 l2; omega) hu (fun j g1 g2 => by
    obtain ⟨x, t, e1, e2⟩ := strs_getE h1 j _ (arr_get g1)
    obtain ⟨y, u, f1, f2⟩ := strs_getE h2 j _ (arr_get g2)
    rw [e1] at f1
    cases f1
    rw [e2, f2]
    have := (eqGives_str x x t u).at A.in1 s
    simpa using this)
  rw [all_true] at this
  exact this
theorem rcAt_ints {ns : List Int} (hl : s.heap.IsList a xs) (hb : s.heap.IsList b ys) (h1 : IntsAre xs.toList ns) (h2 : IntsAre ys.toList ns) (hu : A.units < cLine) : RcAt A s (.ref a) (.ref b) true := by
  have l1 := h1.length
  have l2 := h2.length
  have := RcAt.lists (e := fun _ => true) hl hb (by simp at l1 l2; omega) hu (fun j g1 g2 => by
    obtain ⟨x, t, e2, e1⟩ := IntsAre.at h1 j _ (arr_get g1)
    obtain ⟨y, u, f2, f1⟩ := IntsAre.at h2 j _ (arr_get g2)
    rw [e1] at f1
    cases f1
    rw [e2, f2]
    have := EqAt.int_int (A := A.in1) (s := s) x t x u
    simpa using this)
  rw [all_true] at this
  exact this
end
theorem eqAt_fi {A : Around} {s : Shared} {x : UInt64} {n : Int} {t u : Tok} (h : Float64.cmpInt x n = some .eq) : EqAt A s (.float x t) (.int n u) true := fun prog w E Q hq => by
  unfold eqBool
  refine wpAny_holding ?_
  refine wpAny_ite_split (fun hab => ?_) (fun _ => ?_)
  · have := eq_of_beq hab
    cases this
  · refine wpAny_bind ?_
    exact (show wpAny (model prog w) A (compareOp .Eq (.float x t) (.int n u)) _ E s from eq_fi (by rw [h]; exact wpAny_truthy_bool hq))
section
variable {prog : Program} {w : World} {A : Around} {E : Value → Shared → Prop} {s : Shared} {a b : Addr} {Q : Value → Shared → Prop}
/-- floats and the ints that they are -/
theorem ne_floats {xs ys : Array Value} (hl : s.heap.IsList a xs) (hb : s.heap.IsList b ys) (hsz : xs.size = ys.size) (hu : A.units < cLine)
    (he : ∀ j, j < xs.size → ∃ x t n u, xs[j]? = some (.float x t) ∧ ys[j]? = some (.int n u) ∧ Float64.cmpInt x n = some .eq) (h : Q (.bool false) s) : wpAny (model prog w) A (compareOp .NotEq (.ref a) (.ref b)) Q E s := by
  refine cmp_ofNotEq ?_
  have := RcNeAt.lists (A := A) (e := fun _ => true) hl hb hsz hu (fun j g1 g2 => by
    obtain ⟨x, t, n, u, e1, e2, e3⟩ := he j g1
    rw [Array.getElem?_eq_getElem g1] at e1
    rw [Array.getElem?_eq_getElem g2] at e2
    rw [Option.some.inj e1, Option.some.inj e2]
    exact eqAt_fi e3)
  refine this prog w E Q ?_
  rw [all_true]
  exact h
/-- two tuples of a list of texts, a list of ints and an int -/
theorem ne_three {x1 x2 y1 y2 : Array Value} {p1 p2 q1 q2 : Addr} {k : Int} {t u : Tok} {ws : List Str} {ns : List Int} (ha : s.heap.get? a = some (tupOf [.ref p1, .ref p2, .int k t])) (hb : s.heap.get? b = some (tupOf [.ref q1, .ref q2, .int k u]))
    (h1 : s.heap.IsList p1 x1) (h2 : s.heap.IsList p2 x2) (g1 : s.heap.IsList q1 y1) (g2 : s.heap.IsList q2 y2) (a1 : StrsAre x1.toList ws) (a2 : IntsAre x2.toList ns) (b1 : StrsAre y1.toList ws) (b2 : IntsAre y2.toList ns) (hu : A.units + 5 < cLine) (h : Q (.bool false) s) :
    wpAny (model prog w) A (compareOp .NotEq (.ref a) (.ref b)) Q E s := by
  refine cmp_ofNotEq ?_
  have := RcNeAt.tuples (A := A) (s := s) (items := #[.ref p1, .ref p2, .int k t]) (items2 := #[.ref q1, .ref q2, .int k u]) (e := fun _ => true) ⟨_, ha, rfl, _, rfl⟩ ⟨_, hb, rfl, _, rfl⟩ (by omega) (fun j c1 c2 => by
    match j, c1, c2 with
    | 0, _, _ => exact eqAt_refs (rcAt_strs h1 g1 a1 b1 (by show A.units + 1 < cLine; omega))
    | 1, _, _ => exact eqAt_refs (rcAt_ints h2 g2 a2 b2 (by show A.units + 1 < cLine; omega))
    | 2, _, _ =>
      have := EqAt.int_int (A := A.in1) (s := s) k t k u
      simpa using this)
  refine this prog w E Q ?_
  rw [all_true]
  exact h
/-- two tuples of a list of texts and an int -/
theorem eq_two {x1 y1 : Array Value} {p1 q1 : Addr} {k : Int} {t u : Tok} {ws : List Str} (ha : s.heap.get? a = some (tupOf [.ref p1, .int k t])) (hb : s.heap.get? b = some (tupOf [.ref q1, .int k u]))
    (h1 : s.heap.IsList p1 x1) (g1 : s.heap.IsList q1 y1) (a1 : StrsAre x1.toList ws) (b1 : StrsAre y1.toList ws) (hu : A.units + 5 < cLine) (h : Q (.bool true) s) :
    wpAny (model prog w) A (compareOp .Eq (.ref a) (.ref b)) Q E s := by
  refine cmp_ofEq ?_
  have := RcAt.tuples (A := A) (s := s) (items := #[.ref p1, .int k t]) (items2 := #[.ref q1, .int k u]) (e := fun _ => true) ⟨_, ha, rfl, _, rfl⟩ ⟨_, hb, rfl, _, rfl⟩ (by omega) (fun j c1 c2 => by
    match j, c1, c2 with
    | 0, _, _ => exact eqAt_refs (rcAt_strs h1 g1 a1 b1 (by show A.units + 1 < cLine; omega))
    | 1, _, _ =>
      have := EqAt.int_int (A := A.in1) (s := s) k t k u
      simpa using this)
  refine this prog w E Q ?_
  rw [all_true]
  exact h
end
end
section
set_option compiler.extract_closed false
open PySem PySem.W PySem.Calls PyProof.Rows
set_option Elab.async false
set_option maxRecDepth 100000
set_option maxHeartbeats 1000000
/-- a comprehension whose test takes no element -/
theorem comp_none {prog : Program} {w : World} {A : Around} {h₀ : Heap} {L : Addr} {m : Str → Option Value} {env : Env} {ct elt : Expr} {x : Str} {scope : Scope} {cl : List (Str × Addr)} {s : Shared} {S : List (Addr × Obj) → Prop} {P : Nat → Value → Prop} {Fin : List Value → List (Addr × Obj) → Prop} {news : List (Addr × Obj)} {n : Nat}
    (turn : ∀ i v I oI C oC D m₂ h tk (E' : Value → Shared → Prop), i < n → P i v → LCg.NsObj oC m₂ → m₂ x = some v → Fr h₀ L h m → News h₀ L h ((I, oI) :: (C, oC) :: (D, LCg.lst []) :: news) → LCg.Off3 I C D news → ((@Ne Nat I C) ∧ (@Ne Nat I D) ∧ (@Ne Nat C D)) →
      wpAny (model prog w) A (isTrue ct (compEnvC scope cl C env) (eval ct (compEnvC scope cl C env))) (fun ok s' => ok = false ∧ LCg.CompEnd h₀ L m { s with heap := h, toks := tk } I oI C oC D (LCg.lst []) S (fun _ news' => news' = news) Value.none s') E' { s with heap := h, toks := tk })
    (fin : Fin [] news) : LCt.CompRestT prog w A h₀ L m env ct elt x scope cl s S P Fin n 0 [] news := by
  have key : ∀ (j i : Nat), i + j = n → LCt.CompRestT prog w A h₀ L m env ct elt x scope cl s S P Fin j i [] news := by
    intro j
    induction j with
    | zero =>
      intro i hi
      exact LCt.CompRestT.zero fin
    | succ j ih =>
      intro i hi
      refine LCt.CompRestT.succ ?_
      intro v I oI C oC D m₂ h tk E' hv hC hx F N off ne
      refine wpAny_mono (turn i v I oI C oC D m₂ h tk E' (by omega) hv hC hx F N off ne) (fun b s₂ hq => ?_) fun _ _ e => e
      obtain ⟨rfl, h', tk', nw, e, F', N', off', hS, hn⟩ := hq
      simp only [Bool.false_eq_true, if_false]
      subst hn
      exact ⟨h', tk', nw, e, F', N', off', hS, ih (i + 1) (by omega)⟩
  exact key n 0 (by omega)
theorem ne_nils {prog : Program} {w : World} {A : Around} {E : Value → Shared → Prop} {s : Shared} {a b : Addr} {Q : Value → Shared → Prop}
   (hl : s.heap.IsList a #[]) (hb : s.heap.IsList b #[]) (hu : A.units < cLine) (h : Q (.bool false) s) : wpAny (model prog w) A (compareOp .NotEq (.ref a) (.ref b)) Q E s :=
  ne_floats hl hb rfl hu (fun j hj => absurd hj (Nat.not_lt_zero _)) h
end
section
open PySem PySem.W PySem.Calls PyProof.Rows
set_option compiler.extract_closed false
local macro_rules | `(tactic| walk_at "subscriptTail Name UnaryOp ref int") => `(tactic| (k_here; (with_reducible show wpAny _ _ (subscriptTail _ _ (Value.ref _) (Value.int _ _)) _ _ _); k_dflt (refine' Mine.last_sub (by k_asm) (by k_mem) (by assumption) ?_ (by with_unfolding_all rfl); k_whole)))
local macro_rules | `(tactic| walk_at "subscriptTail Name Constant ref int") => `(tactic| (k_here; (with_reducible show wpAny _ _ (subscriptTail _ _ (Value.ref _) (Value.int _ _)) _ _ _); k_dflt (refine' Mine.first_sub (by k_asm) (by k_mem) (by assumption) ?_ (by with_unfolding_all rfl); k_whole)))
local macro_rules | `(tactic| walk_at "subscriptTail Name Slice ref ref") => `(tactic| (k_here; (with_reducible show wpAny _ _ (subscriptTail _ (PySem.Expr.Slice _ _ none _) (Value.ref _) (Value.ref _)) _ _ _); k_dflt (refine' kmk_slice_lit (by k_asm) (by k_asm) (by kmk_list) (by kmk_part) (by kmk_part) (by first | exact Mine.pick_tail (by assumption) | exact Mine.pick_two (by assumption) | exact Mine.pick_last (by assumption) | exact Mine.pick_init (by assumption)) ?_ (by with_unfolding_all rfl) (by kmk_pure) (by first | kmk_size | size_fits)); intro D' h' F' N' l1; (try k_lt l1); (try k_sweep)))
local macro_rules | `(tactic| walk_at "binaryOp Add ref ref") => `(tactic| (k_here; (with_reducible show wpAny _ _ (binaryOp _ (Value.ref _) (Value.ref _)) _ _ _); k_dflt (refine' Mine.lists_add (by k_asm) (by k_asm) (by k_mem) (by k_mem) (by simp only [List.length_append, List.length_cons, List.length_nil]; omega) ?_); intro D' h' F' N' l1; (try k_lt l1)))
section
set_option compiler.extract_closed false
open PySem PySem.W PySem.Calls PyProof.Rows
set_option Elab.async false
set_option maxRecDepth 100000
set_option maxHeartbeats 8000000
set_option linter.unusedVariables false
set_option pp.deepTerms false
set_option pp.deepTerms.threshold 7
set_option pp.proofs false
set_option pp.maxSteps 8000
noncomputable def lpDef : Stmt := nth PP.main.body 10
noncomputable def lpScope : Scope := scopeOf lpDef
noncomputable def lpIfB : List Stmt := ((bodyOf lpDef).drop 3).take 5
noncomputable abbrev lpMap (st : Option Value) (ad mo el : Nat) (ln : Value) (pt : Str) (tp : Tok) (bg : Str) (tb : Tok) : Str → Option Value := fun y =>
  if y = Str.ofString "stands" then st else if y = Str.ofString "added" then some (.ref ad) else if y = Str.ofString "more" then some (.ref mo) else if y = Str.ofString "lines" then some ln else if y = Str.ofString "ends" then some (.ref el) else
  if y = Str.ofString "part" then some (.str pt tp) else if y = Str.ofString "begin" then some (.str bg tb) else none
noncomputable abbrev lpCl (cw : Nat) : List (Str × Addr) := [(Str.ofString "words", cw)]
noncomputable abbrev lpTop (dp un : Nat) (gd : Option (List Code)) (L : Addr) (cw : Nat) (outer : List Env) : Around := ktrTop dp un gd (Str.ofString "_law_part") lpScope L 106 (.ref 105) (lpCl cw) outer
noncomputable abbrev lpEnv (L : Addr) (cw : Nat) : Env := envX (Str.ofString "_law_part") lpScope L 106 (.ref 105) (lpCl cw)
theorem lp_st1 {st st' : Option Value} {ad mo el : Nat} {ln : Value} {pt bg : Str} {tp tb : Tok} (y : Str) : (if y = Str.ofString "stands" then st' else lpMap st ad mo el ln pt tp bg tb y) = lpMap st' ad mo el ln pt tp bg tb y := by
  unfold lpMap
  by_cases h : y = Str.ofString "stands"
  · simp only [if_pos h]
  · simp only [if_neg h]
theorem lp_st2 {st st' st2 : Option Value} {ad mo el : Nat} {ln : Value} {pt bg : Str} {tp tb : Tok} (y : Str) : (if y = Str.ofString "stands" then st' else if y = Str.ofString "stands" then st2 else lpMap st ad mo el ln pt tp bg tb y) = lpMap st' ad mo el ln pt tp bg tb y := by
  unfold lpMap
  by_cases h : y = Str.ofString "stands"
  · simp only [if_pos h]
  · simp only [if_neg h]
theorem news_d3 {h₀ h : Heap} {L : Addr} {a b c : Addr × Obj} {r : List (Addr × Obj)} (N : News h₀ L h (a :: b :: c :: r)) : News h₀ L h r := fun p hp => N _ (.tail _ (.tail _ (.tail _ hp)))
theorem news_d4 {h₀ h : Heap} {L : Addr} {a b c d : Addr × Obj} {r : List (Addr × Obj)} (N : News h₀ L h (a :: b :: c :: d :: r)) : News h₀ L h r := fun p hp => N _ (.tail _ (.tail _ (.tail _ (.tail _ hp))))
/-- the four ifs: how the part leaves the reader -/
theorem lpIf {w : World} {p : Program} {loose : List Str} {mean : ExcName → Option Value} {mg mb : Str → Option Value} 
   {dp un : Nat} {gd : Option (List Code)} {outer : List Env} {A₀ : Around} {base h₀ : Heap} {L : Addr} {s : Shared} {Q : Flow → Shared → Prop} {E : Value → Shared → Prop}
   {ad mo el wl cw n1 n2 : Nat} {ow : Obj} {ls V : List Value} {x1 bg pt s1 s2 res : Str} {tx ta tb tbg tp : Tok} {ln : Value}
   (B : Below A₀ base outer h₀) (X : (Mine.hd.heap_39 w.params).In h₀) (T : Top p loose mean mg mb h₀)
   (hd : dp + 22 < recursionLimit) (hu : un + 130 < cLine)
   (F : Fr h₀ L s.heap (lpMap none ad mo el ln pt tp bg tbg)) (N : News h₀ L s.heap [(ad, W.listOf #[.str s1 ta, .str s2 tb] n1), (wl, W.listOf ls.toArray n2), (cw, ow)])
   (how : ow.data = .cell (some (.ref wl))) (e1 : ls = V ++ [.str x1 tx]) (hx : x1.length ≤ 605)
   (hcase : (s1 = Str.ofString " \"" ∧ s2 = Str.ofString "z" ∧ res = (if (x1 != Str.ofString "") = true then Str.ofString "x" else Str.ofString "")) ∨ (s1 = Str.ofString "\\" ∧ s2 = Str.ofString " z" ∧ res = Str.ofString "x\\") ∨
     (s1 = Str.ofString " " ∧ s2 = Str.ofString "z" ∧ res = Str.ofString "\"") ∨ (s1 = Str.ofString "\\ " ∧ s2 = Str.ofString "z" ∧ res = Str.ofString "\"\\"))
   (hend : ∀ h tk t, Fr h₀ L h (lpMap (some (.str res t)) ad mo el ln pt tp bg tbg) → News h₀ L h [(ad, W.listOf #[.str s1 ta, .str s2 tb] n1), (wl, W.listOf ls.toArray n2), (cw, ow)] → Q .next { s with heap := h, toks := tk }) :
    wpAny (model PP w) (lpTop dp un gd L cw outer) (execs lpIfB (lpEnv L cw)) Q E s := by
  have hfill : (PySem.Challenge.rw_re0024_01, Mine.hd.heap_39) = (PySem.Challenge.rw_re0024_01, Mine.hd.heap_39) := by k_fill; rfl
  clear hfill
  w_on
  refine wpAny_noRaise ?_
  conv in lpIfB => whnf
  rcases hcase with ⟨rfl, rfl, rfl⟩ | ⟨rfl, rfl, rfl⟩ | ⟨rfl, rfl, rfl⟩ | ⟨rfl, rfl, rfl⟩
  all_goals k_steps
  all_goals with_reducible rename News h₀ L _ _ => N1
  all_goals with_reducible rename Fr h₀ L _ _ => F1
  all_goals dsimp only
  all_goals refine wpAny_execs_nil ?_
  · have hb : (x1 != Str.ofString "") = true := by assumption
    rw [if_pos hb] at hend
    exact hend _ _ _ (Fr.congr F1 lp_st2) (news_d4 N1)
  · have hb : (x1 != Str.ofString "") = false := by assumption
    rw [if_neg (by rw [hb]; decide)] at hend
    exact hend _ _ _ (Fr.congr F1 lp_st1) (news_d3 N1)
  all_goals first | exact hend _ _ _ (Fr.congr F1 lp_st2) (news_d4 N1) | exact hend _ _ _ (Fr.congr F1 lp_st2) (news_d3 N1)
end
section
set_option compiler.extract_closed false
open PySem PySem.W PySem.Calls PyProof.Rows
set_option Elab.async false
set_option maxRecDepth 100000
set_option maxHeartbeats 8000000
set_option linter.unusedVariables false
set_option pp.deepTerms false
set_option pp.deepTerms.threshold 7
set_option pp.proofs false
set_option pp.maxSteps 8000
noncomputable def lpAddB : Stmt := nth (bodyOf lpDef) 2
noncomputable abbrev lpMap0 (mo el : Nat) (ln : Value) (pt : Str) (tp : Tok) (bg : Str) (tb : Tok) : Str → Option Value := fun y =>
  if y = Str.ofString "more" then some (.ref mo) else if y = Str.ofString "lines" then some ln else if y = Str.ofString "ends" then some (.ref el) else
  if y = Str.ofString "part" then some (.str pt tp) else if y = Str.ofString "begin" then some (.str bg tb) else none
theorem lp_added {ad mo el : Nat} {ln : Value} {pt bg : Str} {tp tb : Tok} (y : Str) : (if y = Str.ofString "added" then some (Value.ref ad) else lpMap0 mo el ln pt tp bg tb y) = lpMap none ad mo el ln pt tp bg tb y := by
  unfold lpMap lpMap0
  by_cases h : y = Str.ofString "stands"
  · subst h; rfl
  · simp only [if_neg h]
theorem news_s5 {h₀ h : Heap} {L : Addr} {a b c d e f g : Addr × Obj} (N : News h₀ L h [a, b, c, d, e, f, g]) : News h₀ L h [a, f, g] := fun p hp => N p (by
  rcases List.mem_cons.mp hp with rfl | hp
  · exact .head _
  · exact .tail _ (.tail _ (.tail _ (.tail _ (.tail _ hp)))))
local macro_rules | `(tactic| walk_at "conj") => `(tactic| first | (apply cjL; apply cjL; (iterate 5 (try (first | with_reducible assumption | apply cjR))); done) | (apply cjL; apply cjR; apply cjL; (iterate 5 (try (first | with_reducible assumption | apply cjR))); done) | (apply cjR; apply cjR; apply cjL; (iterate 5 (try (first | with_reducible assumption | apply cjR))); done))
theorem lpAdd {w : World} {p : Program} {loose : List Str} {mean : ExcName → Option Value} {mg mb : Str → Option Value} 
   {dp un : Nat} {gd : Option (List Code)} {outer : List Env} {A₀ : Around} {base h₀ : Heap} {L : Addr} {s : Shared} {Q : Flow → Shared → Prop} {E : Value → Shared → Prop}
   {mo el wl cw n1 n2 : Nat} {ow : Obj} {ls V ls2 V2 : List Value} {x1 x2 y2 bg pt : Str} {tx tx2 ty2 tbg tp : Tok} {ln : Value}
   (B : Below A₀ base outer h₀) (X : (Mine.hd.heap_39 w.params).In h₀) (T : Top p loose mean mg mb h₀)
   (hd : dp + 22 < recursionLimit) (hu : un + 130 < cLine)
   (F : Fr h₀ L s.heap (lpMap0 mo el ln pt tp bg tbg)) (N : News h₀ L s.heap [(mo, W.listOf ls2.toArray n1), (wl, W.listOf ls.toArray n2), (cw, ow)])
   (how : ow.data = .cell (some (.ref wl))) (e1 : ls = V ++ [.str x1 tx]) (e2 : ls2 = V2 ++ [.str x2 tx2, .str y2 ty2]) (e3 : ls2 = (V2 ++ [.str x2 tx2]) ++ [.str y2 ty2]) (hx : x1.length ≤ 605) (hx2 : x2.length ≤ 605) (hy2 : y2.length ≤ 605) (hz : ls.length ≤ 1100) (hz2 : ls2.length ≤ 1100)
   (hend : ∀ h tk ad ta n, Fr h₀ L h (lpMap none ad mo el ln pt tp bg tbg) → News h₀ L h [(ad, W.listOf #[.str (Txt.slice x2 (some (x1.length : Int)) none) ta, .str y2 ty2] n), (wl, W.listOf ls.toArray n2), (cw, ow)] → Q .next { s with heap := h, toks := tk }) :
    wpAny (model PP w) (lpTop dp un gd L cw outer) (exec lpAddB (lpEnv L cw)) Q E s := by
  have hfill : (PySem.Challenge.rw_re0024_01, Mine.hd.heap_39) = (PySem.Challenge.rw_re0024_01, Mine.hd.heap_39) := by k_fill; rfl
  clear hfill
  w_on
  refine wpAny_noRaise ?_
  conv in lpAddB => whnf
  k_steps
  with_reducible rename News h₀ L _ _ => N1
  with_reducible rename Fr h₀ L _ _ => F1
  exact hend _ _ _ _ _ (Fr.congr F1 lp_added) (news_s5 N1)
end
section
set_option compiler.extract_closed false
open PySem PySem.W PySem.Calls PyProof.Rows
set_option Elab.async false
set_option maxRecDepth 100000
set_option maxHeartbeats 8000000
set_option linter.unusedVariables false
set_option pp.deepTerms false
set_option pp.deepTerms.threshold 7
set_option pp.proofs false
set_option pp.maxSteps 8000
noncomputable def lpEndB : List Stmt := (bodyOf lpDef).drop 8
theorem news_p2 {h₀ h : Heap} {L : Addr} {a b : Addr × Obj} {r : List (Addr × Obj)} (N : News h₀ L h (a :: b :: r)) : News h₀ L h [a, b] := fun p hp => N p (by
  rcases List.mem_cons.mp hp with rfl | hp
  · exact .head _
  · rw [List.mem_singleton.mp hp]; exact .tail _ (.head _))
theorem lpEnd {w : World} {p : Program} {loose : List Str} {mean : ExcName → Option Value} {mg mb : Str → Option Value} 
   {dp un : Nat} {gd : Option (List Code)} {outer : List Env} {A₀ : Around} {base h₀ : Heap} {L : Addr} {s : Shared} {Q : Flow → Shared → Prop} {E : Value → Shared → Prop}
   {ad mo el wl cw n2 : Nat} {ow : Obj} {ls V2 : List Value} {y1 bg pt st : Str} {ty tbg tp ts tl : Tok} {ln : Int} {w1 : List Str}
   (B : Below A₀ base outer h₀) (X : (Mine.hd.heap_39 w.params).In h₀) (T : Top p loose mean mg mb h₀)
   (hd : dp + 22 < recursionLimit) (hu : un + 130 < cLine)
   (F : Fr h₀ L s.heap (lpMap (some (.str st ts)) ad mo el (.int ln tl) pt tp bg tbg)) (N : News h₀ L s.heap [(wl, W.listOf ls.toArray n2), (cw, ow)])
   (how : ow.data = .cell (some (.ref wl))) (hcw : Apart wl cw) (e2 : ls = .str y1 ty :: V2) (hS2 : StrsAre V2 w1) (hy : y1.length ≤ 605) (hz : ls.length ≤ 1100) (hz2 : V2.length ≤ 1100) (hbg : bg.length ≤ 5)
   (hret : ∀ h tk tup wl' ls' n, Fr h₀ L h (lpMap (some (.str st ts)) ad mo el (.int ln tl) pt tp bg tbg) → News h₀ L h [(tup, tupOf [.ref wl', .int ln tl, .str st ts]), (wl', W.listOf ls' n)] →
     (((Txt.slice bg none (some 1) == Str.ofString "x") = true ∧ ∃ t, ls'.toList = .str (Txt.slice y1 (some 1) none) t :: V2) ∨ ((Txt.slice bg none (some 1) == Str.ofString "x") = false ∧ ls'.toList = ls)) → Q (.ret (.ref tup)) { s with heap := h, toks := tk }) :
    wpAny (model PP w) (lpTop dp un gd L cw outer) (execs lpEndB (lpEnv L cw)) Q E s := by
  have hfill : (PySem.Challenge.rw_re0024_01, Mine.hd.heap_39) = (PySem.Challenge.rw_re0024_01, Mine.hd.heap_39) := by k_fill; rfl
  clear hfill
  w_on
  refine wpAny_noRaise ?_
  conv in lpEndB => whnf
  k_steps
  · with_reducible rename News h₀ L _ _ => N1
    with_reducible rename Fr h₀ L _ _ => F1
    exact hret _ _ _ _ _ _ F1 (news_p2 N1) (.inl ⟨by assumption, _, rfl⟩)
  · with_reducible rename News h₀ L _ _ => N1
    with_reducible rename Fr h₀ L _ _ => F1
    exact hret _ _ _ _ _ _ F1 (news_p2 N1) (.inr ⟨by assumption, rfl⟩)
end
section
set_option compiler.extract_closed false
open PySem PySem.W PySem.Calls PyProof.Rows
set_option Elab.async false
set_option maxRecDepth 100000
set_option maxHeartbeats 8000000
set_option linter.unusedVariables false
set_option pp.deepTerms false
set_option pp.deepTerms.threshold 7
set_option pp.proofs false
set_option pp.maxSteps 3000
theorem pre_ne {pre : List (Str × Int)} {text : Str} (h : pre.map (fun p => (p.1.cps.toList, p.2)) = readAll text) : pre.map (·.1) ≠ [] := by
  obtain ⟨P, x, e⟩ := readAll_last text
  intro q
  have : pre = [] := by simpa using q
  rw [this, e] at h
  simp at h
theorem pre_two {pre : List (Str × Int)} {text : Str} (h : pre.map (fun p => (p.1.cps.toList, p.2)) = readAll text) (h2 : 2 ≤ (readAll text).length) : 2 ≤ (pre.map (·.1)).length := by
  rw [← h] at h2
  simpa using h2
noncomputable def begStr (st : St) : Str := ⟨(begS st).toArray⟩
theorem beg_len (st : St) : (begStr st).length ≤ 2 := by cases st <;> decide
theorem beg_cps (st : St) : (begStr st).cps.toList = begS st := by cases st <;> rfl
/-- the words that a part tells -/
noncomputable def partW (st : St) (p : List Nat) : List (List Nat) := match (run st (begA st) p).1 ++ [(run st (begA st) p).2.2] with
  | [] => []
  | a :: r => a.drop (begA st).length :: r
theorem news_p24 {h₀ h : Heap} {L : Addr} {a b c d : Addr × Obj} (N : News h₀ L h [a, b, c, d]) : News h₀ L h [b, d] := fun p hp => N p (by
  rcases List.mem_cons.mp hp with rfl | hp
  · exact .tail _ (.head _)
  · rw [List.mem_singleton.mp hp]; exact .tail _ (.tail _ (.tail _ (.head _))))
theorem news_p245 {h₀ h : Heap} {L : Addr} {a b c d e : Addr × Obj} (N : News h₀ L h [a, b, c, d, e]) : News h₀ L h [b, d, e] := fun p hp => N p (by
  rcases List.mem_cons.mp hp with rfl | hp
  · exact .tail _ (.head _)
  · exact .tail _ (.tail _ (.tail _ hp)))
theorem news_tl {h₀ h : Heap} {L : Addr} {a : Addr × Obj} {r : List (Addr × Obj)} (N : News h₀ L h (a :: r)) : News h₀ L h r := fun p hp => N p (.tail _ hp)
theorem lp_map0 {h₀ h : Heap} {L mo el : Nat} {ln : Value} {pt bg : Str} {tp tb : Tok} {k : Str → Option NameKind} (hk1 : k (Str.ofString "begin") = some .local) (hk2 : k (Str.ofString "part") = some .local)
   (F : Fr h₀ L h (fun y => if y = Str.ofString "more" then some (Value.ref mo) else if y = Str.ofString "lines" then some ln else if y = Str.ofString "ends" then some (Value.ref el) else bindL k [(Str.ofString "begin", Value.str bg tb), (Str.ofString "part", Value.str pt tp)] (fun _ => none) y)) :
    Fr h₀ L h (lpMap0 mo el ln pt tp bg tb) := Fr.congr F (fun y => by
  unfold lpMap0
  simp only [bindL, hk1, hk2, if_true])
theorem law_part {w : World} {p : Program} {loose : List Str} {mean : ExcName → Option Value} {mg mb : Str → Option Value} 
   {dp un : Nat} {gd : Option (List Code)} {cn : Str} {cs : Scope} {a : Addr} {ccd : Value} {cl : List (Str × Addr)} {outer : List Env} {A₀ : Around} {base h₀ : Heap} {L : Addr} {m : Str → Option Value} {s : Shared} {R : Result → Shared → Prop}
   {pt : Str} {tb tp : Tok} {st0 : St} {rest : List (Addr × Obj)} {a1 a2 : Nat}
   (B : Below A₀ base outer h₀) (F : Fr h₀ L s.heap m) (X : (Mine.hd.heap_39 w.params).In h₀) (N : News h₀ L s.heap rest) (T : Top p loose mean mg mb h₀) (hk : cs.kind = .function)
   (hC : CodeHd base 100 96) (hd : dp + 40 < recursionLimit) (hu : un + 180 < cLine)
   (h96 : s.heap.get? 96 = some (tabTwo a1 a2)) (hcode : s.heap.CodeRec (.ref a1) lrQual) (hpt : pt.length ≤ 500)
   (hR : ∀ h' tk' tup wl its n t ts, ∀ ws' : List Str, Fr h₀ L h' m → News h₀ L h' ((tup, tupOf [.ref wl, .int (1 + nl pt.cps.toList) t, .str (begStr (run st0 (begA st0) pt.cps.toList).2.1) ts]) :: (wl, W.listOf its n) :: rest) →
      StrsAre its.toList ws' → ws'.map (·.cps.toList) = partW st0 pt.cps.toList → its.size ≤ 1101 → R (.ok (.ret (.ref tup))) { s with heap := h', toks := tk' }) :
    codeAny (model PP w) (ktrTop dp un gd cn cs L a ccd cl outer) (.call (.ref 106) ⟨[.str (begStr st0) tb, .str pt tp], []⟩) R s := by
  have hfill : (PySem.Challenge.rw_re0024_01, Mine.hd.heap_39) = (PySem.Challenge.rw_re0024_01, Mine.hd.heap_39) := by k_fill; rfl
  clear hfill
  w_on
  have hsep : ∀ p ∈ rest, p.1 ∉ ([] : List (Addr × Obj)).map (·.1) := fun _ _ h => nomatch h
  have N0 : News h₀ L s.heap ([] ++ rest) := N
  have hbg := beg_len st0
  generalize hbgE : begStr st0 = bg at *
  k_dflt (walk_at "m enterCR")
  with_reducible rename (∀ (b : Addr) (o : Obj), b ∉ _ → _ → _) => lG
  have g96 := lG 96 _ (fun h => nomatch h) h96
  have gcode := code_into hcode (fun o e => lG _ _ (fun h => nomatch h) e)
  refine wpAny_noRaise ?_
  have hlit : (Str.ofString "\\ \" z").length = 5 := by decide +kernel
  repeat' ((fail_if_success (with_reducible show wpAny _ _ (PySem.call (Value.ref 101) _) _ _ _)); (first | (k_unfold; (try dsimp only)) | (k_end; wrow_close) | walk1 | (dsimp only; walk1) | (leave1; walk_say "STEP leave1"; try dsimp only) | fail "no step"))
  refine wpAny_call ?_
  k_dflt (refine' law_read2 ?r1 ?r2 ?r3 ?r4 ?r5 ?r6 ?r7 ?r8 ?r9 ?r10 ?r11 ?r12 ?_)
  (case r1 => k_asm)
  (case r2 => k_asm)
  (case r3 => k_asm)
  (case r4 => k_asm)
  (case r5 => k_asm)
  (case r6 => rfl)
  (case r7 => assumption)
  (case r8 => ktr_room)
  (case r9 => ktr_units)
  (case r10 => exact Fr.keep (by k_asm) _ _ g96)
  (case r11 => exact gcode.keeps (Fr.keep (by k_asm)))
  (case r12 => (simp only [Str.length_append]; omega))
  k_whole
  intro h1 tk1 tup1 wl1 el1 its1 jts1 n11 n21 t1 pre1 F1 N1 lw1 le1 lt1 hS1 hJ1 z11 z21 hp1
  simp only [lrOut, lrLists, List.cons_append, List.nil_append] at N1
  (try k_lt lw1)
  obtain ⟨ls1, V1, x1, tx1, y1, ty1, V21, w01, w11, hv0, hv1, hv2, hv3, hv4, hv5, hv6, hv7⟩ := strs_ends hS1 (pre_ne hp1)
  subst hv0
  have hx1 : x1.length ≤ 605 := by
    have := pre_len hp1 x1 (by rw [hv4]; simp)
    rw [Str.length_append] at this; omega
  have hy1 : y1.length ≤ 605 := by
    have := pre_len hp1 y1 (by rw [hv5]; simp)
    rw [Str.length_append] at this; omega
  try dsimp only
  repeat' ((fail_if_success (with_reducible show wpAny _ _ (PySem.call (Value.ref 101) _) _ _ _)); (first | (k_unfold; (try dsimp only)) | (k_end; wrow_close) | walk1 | (dsimp only; walk1) | (leave1; walk_say "STEP leave1"; try dsimp only) | fail "no step"))
  with_reducible rename News _ _ _ [_, _, _, _] => N1
  with_reducible rename (Obj.data _ = Data.cell (some (Value.ref wl1))) => hcw
  with_reducible rename Fr _ _ _ (fun y => if y = Str.ofString "lines" then _ else _) => F1'
  have N1' := news_p24 N1
  refine wpAny_call ?_
  k_dflt (refine' law_read2 ?r1 F1' ?r3 N1' ?r5 ?r6 ?r7 ?r8 ?r9 ?r10 ?r11 ?r12 ?_)
  (case r1 => k_asm)
  (case r3 => k_asm)
  (case r5 => k_asm)
  (case r6 => rfl)
  (case r7 => assumption)
  (case r8 => ktr_room)
  (case r9 => ktr_units)
  (case r10 => exact Fr.keep F1' _ _ g96)
  (case r11 => exact gcode.keeps (Fr.keep F1'))
  (case r12 => (simp only [Str.length_append]; omega))
  k_whole
  clear F1' N1 N1'
  intro h2 tk2 tup2 wl2 el2 its2 jts2 n12 n22 t2 pre2 F2 N2 lw2 le2 lt2 hS2 hJ2 z12 z22 hp2
  simp only [lrOut, lrLists, List.cons_append, List.nil_append] at N2
  try dsimp only
  repeat' ((fail_if_success (with_reducible show wpAny _ _ (exec (Stmt.Assign [PySem.Expr.Name (Str.ofString "added") _] _ _) _) _ _ _)); (first | (k_unfold; (try dsimp only)) | (k_end; wrow_close) | walk1 | (dsimp only; walk1) | (leave1; walk_say "STEP leave1"; try dsimp only) | fail "no step"))
  with_reducible rename News _ _ _ [_, _, _, _, _] => N3
  with_reducible rename Fr _ _ _ (fun y => if y = Str.ofString "more" then _ else _) => F3
  have hbc : bg.cps.toList = begS st0 := by rw [← hbgE]; exact beg_cps st0
  obtain ⟨ls2, V2, x2, tx2, y2, ty2, w02, hu0, hu1, hu2, hu3⟩ := strs_two hS2 (pre_two hp2 (ask_two hbc))
  subst hu0
  have hx2 : x2.length ≤ 605 := by
    have := pre_len hp2 x2 (by rw [hu3]; simp)
    rw [Str.length_append, Str.length_append] at this; omega
  have hy2 : y2.length ≤ 605 := by
    have := pre_len hp2 y2 (by rw [hu3]; simp)
    rw [Str.length_append, Str.length_append] at this; omega
  obtain ⟨k1, k2, k3⟩ := ask_words hbc hp1 hp2 hv4 hu3
  have hw1 := words_of hp1
  have hv5' := hv5
  rw [hv5] at hw1
  simp only [Str.cps_append, Array.toList_append, hbc, run_beg, List.map_cons] at hw1
  have hnl : nl (bg ++ pt).cps.toList = nl pt.cps.toList := by
    rw [Str.cps_append, Array.toList_append, hbc]
    unfold nl
    rw [List.count_append]
    cases st0 <;> simp [begS]
  rw [hnl] at F3
  have hfit : Fits (run st0 (begA st0) pt.cps.toList).2.1 (run st0 (begA st0) pt.cps.toList).2.2 := run_fits _ _ _ (by cases st0 <;> simp [Fits, begA])
  have hz1 : ls1.length ≤ 1100 := by simpa using z11
  have hz2 : ls2.length ≤ 1100 := by simpa using z12
  show wpAny _ _ (exec lpAddB (lpEnv _ _)) _ _ _
  refine lpAdd (dp := dp + 1) (un := un + 3) (by k_asm) (by k_asm) (by k_asm) (by omega) (by omega) (lp_map0 rfl rfl F3) (news_p245 N3) hcw hv1 hu1 hu2 hx1 hx2 hy2 hz1 hz2 ?_
  clear F3 N3
  intro h4 tk4 ad ta n4 F4 N4
  dsimp only
  show wpAny _ _ (execs (lpIfB ++ lpEndB) (lpEnv _ _)) _ _ _
  refine execs_app ?_
  generalize hst1 : (run st0 (begA st0) pt.cps.toList).2.1 = st1 at *
  refine lpIf (dp := dp + 1) (un := un + 3) (res := begStr st1) (by k_asm) (by k_asm) (by k_asm) (by omega) (by omega) F4 N4 hcw hv1 hx1 ?_ ?_
  · have hx1' : (x1 != Str.ofString "") = true ↔ x1.cps.toList ≠ [] := by
      rw [bne_iff_ne]
      constructor
      · intro h h'; exact h (str_of (by rw [h']; rfl))
      · intro h h'; rw [h'] at h; exact h rfl
    cases st1 with
    | o =>
      refine .inl ⟨str_of (by rw [k2]; rfl), str_of (by rw [k3]; rfl), ?_⟩
      rw [if_neg (by rw [hx1', k1, hfit]; simp)]; rfl
    | b =>
      refine .inl ⟨str_of (by rw [k2]; rfl), str_of (by rw [k3]; rfl), ?_⟩
      rw [if_pos (hx1'.mpr (by rw [k1]; exact hfit))]; rfl
    | be => exact .inr (.inl ⟨str_of (by rw [k2]; rfl), str_of (by rw [k3]; rfl), rfl⟩)
    | q => exact .inr (.inr (.inl ⟨str_of (by rw [k2]; rfl), str_of (by rw [k3]; rfl), rfl⟩))
    | qe => exact .inr (.inr (.inr ⟨str_of (by rw [k2]; rfl), str_of (by rw [k3]; rfl), rfl⟩))
  clear F4 N4
  intro h5 tk5 t5 F5 N5
  dsimp only
  refine lpEnd (dp := dp + 1) (un := un + 3) (by k_asm) (by k_asm) (by k_asm) (by omega) (by omega) F5 (news_tl N5) hcw ?_ hv2 hv6 hy1 hz1 ?_ (by omega) ?_
  · exact Nat.ne_of_gt lw1
  · rw [hv2] at hz1; simp at hz1; omega
  clear F5 N5
  intro h6 tk6 tup6 wl6 ls6 n6 F6 N6 hc
  dsimp only
  k_steps
  with_reducible rename Fr h₀ L _ _ => kF
  with_reducible rename News h₀ L _ _ => kN
  intro NR _
  rcases hc with ⟨hx, t, e⟩ | ⟨hx, e⟩
  · have hA : (begA st0).length = 1 := by
      rw [← hbgE] at hx
      cases st0 <;> first | rfl | exact absurd hx (by decide +kernel)
    have hz6 := congrArg List.length e
    refine hR _ _ _ _ _ _ _ _ (Txt.slice y1 (some 1) none :: w11) kF (news_app kN NR) (by rw [e]; exact .cons _ t hv6) ?_ (by simp at hz6; rw [hv2] at hz1; simp at hz1; omega)
    · unfold partW
      rw [← hw1, hA]
      simp only [List.map_cons, slice_from (show (0 : Int) ≤ 1 by decide)]
      rfl
  · have hA : (begA st0).length = 0 := by
      rw [← hbgE] at hx
      cases st0 <;> first | rfl | exact absurd hx (by decide +kernel)
    have hz6 := congrArg List.length e
    refine hR _ _ _ _ _ _ _ _ (y1 :: w11) kF (news_app kN NR) (by rw [e]; exact hv5' ▸ hv3) ?_ (by simp at hz6; omega)
    · unfold partW
      rw [← hw1, hA]
      simp only [List.map_cons, List.drop_zero]
end
section
set_option compiler.extract_closed false
open PySem PySem.W PySem.Calls PyProof.Rows
set_option Elab.async false
set_option maxRecDepth 100000
/-- one part laid behind the others -/
noncomputable def glue (r : List (List Nat)) (acc : List Nat) : List (List Nat) → List (List Nat)
  | [] => r ++ [acc]
  | a :: V => r ++ (acc ++ a) :: V
theorem glue_run (T P : List Nat) :
    glue (run .o [] T).1 (run .o [] T).2.2 (partW (run .o [] T).2.1 P) = (run .o [] (T ++ P)).1 ++ [(run .o [] (T ++ P)).2.2] ∧
    (run (run .o [] T).2.1 (begA (run .o [] T).2.1) P).2.1 = (run .o [] (T ++ P)).2.1 := by
  have hf : Fits (run .o [] T).2.1 (run .o [] T).2.2 := run_fits _ _ _ rfl
  rw [run_append]
  generalize (run .o [] T).1 = r1 at *
  generalize (run .o [] T).2.1 = st at *
  generalize (run .o [] T).2.2 = acc at *
  simp only
  by_cases ho : st = .o
  · subst ho
    simp only [Fits] at hf
    subst hf
    unfold partW
    simp only [begA]
    cases e : (run .o [] P).1 ++ [(run .o [] P).2.2] with
    | nil => simp at e
    | cons a V =>
      refine ⟨?_, trivial⟩
      rw [List.append_assoc, e]
      simp [glue]
  · obtain ⟨v, V, e1, e2, e3⟩ := run_acc P st (begA st) [] ho
    obtain ⟨v', V', f1, f2, f3⟩ := run_acc P st acc [] ho
    rw [e1] at f1
    simp only [List.append_nil, List.nil_append] at e1 e2 e3 f1 f2 f3
    obtain ⟨rfl, rfl⟩ : v = v' ∧ V = V' := by simpa using f1
    refine ⟨?_, e3.trans f3.symm⟩
    unfold partW
    rw [e2]
    simp only [List.drop_left]
    rw [List.append_assoc, f2]
    simp [glue]
theorem nl_append (a b : List Nat) : nl (a ++ b) = nl a + nl b := by
  unfold nl; rw [List.count_append]; omega
/-- how long words are, and how many -/
theorem run_len : ∀ (p : List Nat) (st : St) (acc : List Nat), (∀ x ∈ (run st acc p).1 ++ [(run st acc p).2.2], x.length ≤ acc.length + p.length) ∧ (run st acc p).1.length ≤ p.length
  | [], st, acc => by simp [run_nil]
  | c :: r, st, acc => by
    obtain ⟨h1, h2⟩ := run_len r (stp st acc c).1.1 (stp st acc c).1.2
    have hs : (stp st acc c).1.2.length ≤ acc.length + 1 ∧ (stp st acc c).2.length ≤ 1 ∧ ∀ x ∈ (stp st acc c).2, x.length ≤ acc.length := by
      cases st <;> simp only [stp] <;> (repeat' split) <;> simp
    rw [run_cons]
    simp only [List.length_cons, List.length_append, List.append_assoc]
    refine ⟨fun x hx => ?_, by omega⟩
    rcases List.mem_append.mp hx with hx | hx
    · have := hs.2.2 x hx; omega
    · have := h1 x hx; omega
theorem partW_ne (st : St) (p : List Nat) : partW st p ≠ [] := by
  unfold partW
  cases e : (run st (begA st) p).1 ++ [(run st (begA st) p).2.2] with
  | nil => simp at e
  | cons a V => simp
theorem partW_len (st : St) (p : List Nat) : (∀ x ∈ partW st p, x.length ≤ 1 + p.length) ∧ (partW st p).length ≤ p.length + 1 := by
  obtain ⟨h1, h2⟩ := run_len p st (begA st)
  have hb : (begA st).length ≤ 1 := by cases st <;> simp [begA]
  unfold partW
  cases e : (run st (begA st) p).1 ++ [(run st (begA st) p).2.2] with
  | nil => simp
  | cons a V =>
    rw [e] at h1
    have hl := congrArg List.length e
    simp only [List.length_append, List.length_cons, List.length_nil] at hl
    refine ⟨fun x hx => ?_, by simp only [List.length_cons]; omega⟩
    rcases List.mem_cons.mp hx with rfl | hx
    · have := h1 a (.head _)
      rw [List.length_drop]; omega
    · have := h1 x (.tail _ hx)
      omega
noncomputable def glDef : Stmt := nth PP.main.body 11
noncomputable def glScope : Scope := scopeOf glDef
noncomputable def glFor : Stmt := nth (bodyOf glDef) 3
noncomputable abbrev glTop (dp un : Nat) (gd : Option (List Code)) (L : Addr) (outer : List Env) : Around := ktrTop dp un gd (Str.ofString "_law_glued") glScope L 113 (.ref 112) [] outer
noncomputable abbrev glEnv (L : Addr) : Env := envX (Str.ofString "_law_glued") glScope L 113 (.ref 112) []
noncomputable abbrev glMap (mk mw mc : Option Value) (rl : Nat) (ln : Int) (tl : Tok) (st : Str) (ts : Tok) (text : Str) (tt : Tok) (d : Nat) : Str → Option Value := fun y =>
  if y = Str.ofString "words" then mw else if y = Str.ofString "count" then mc else if y = Str.ofString "k" then mk else if y = Str.ofString "row" then some (.ref rl) else if y = Str.ofString "lines" then some (.int ln tl) else
  if y = Str.ofString "stands" then some (.str st ts) else if y = Str.ofString "places" then some (.ref d) else if y = Str.ofString "text" then some (.str text tt) else none
theorem gl_map {mk mw mc mk' mw' mc' : Option Value} {rl rl' : Nat} {ln ln' : Int} {tl tl' : Tok} {st st' : Str} {ts ts' : Tok} {text : Str} {tt : Tok} {d : Nat} (y : Str) :
    (if y = Str.ofString "lines" then some (Value.int ln' tl') else if y = Str.ofString "row" then some (Value.ref rl') else if y = Str.ofString "stands" then some (Value.str st' ts') else if y = Str.ofString "count" then mc' else if y = Str.ofString "words" then mw' else if y = Str.ofString "k" then mk' else glMap mk mw mc rl ln tl st ts text tt d y) = glMap mk' mw' mc' rl' ln' tl' st' ts' text tt d y := by
  unfold glMap
  by_cases h1 : y = Str.ofString "lines"
  · subst h1; rfl
  by_cases h2 : y = Str.ofString "row"
  · subst h2; rfl
  by_cases h3 : y = Str.ofString "stands"
  · subst h3; rfl
  by_cases h4 : y = Str.ofString "count"
  · subst h4; rfl
  by_cases h5 : y = Str.ofString "words"
  · subst h5; rfl
  by_cases h6 : y = Str.ofString "k"
  · subst h6; rfl
  simp only [if_neg h1, if_neg h2, if_neg h3, if_neg h4, if_neg h5, if_neg h6]
/-- between two parts -/
noncomputable def GlP (ns : List Int) (text : Str) (tt : Tok) (d : Nat) (k : Int) (m : Str → Option Value) (news : List (Addr × Obj)) : Prop :=
  ∃ TT, text.cps.toList.take (ns.getD k.toNat 0).toNat = TT ∧ ∃ mk mw mc rl its c tl ts ws, (∀ y, m y = glMap mk mw mc rl (1 + nl TT) tl (begStr (run .o [] TT).2.1) ts text tt d y) ∧ news = [(rl, W.listOf its c)] ∧ StrsAre its.toList ws ∧ ws.map (·.cps.toList) = (run .o [] TT).1 ++ [(run .o [] TT).2.2]
theorem GlP.turn {ns : List Int} {text : Str} {tt : Tok} {d : Nat} {k : Int} {m : Str → Option Value} {TT : List Nat} {mk mw mc : Option Value} {rl c : Nat} {its : Array Value} {tl ts : Tok} {ws : List Str} {ln : Int} {st : Str}
   (hTT : text.cps.toList.take (ns.getD k.toNat 0).toNat = TT) (em : ∀ y, m y = glMap mk mw mc rl ln tl st ts text tt d y) (e1 : ln = 1 + nl TT) (e2 : st = begStr (run .o [] TT).2.1) (hS : StrsAre its.toList ws) (hW : ws.map (·.cps.toList) = (run .o [] TT).1 ++ [(run .o [] TT).2.2]) :
   GlP ns text tt d k m [(rl, W.listOf its c)] := by
  subst e1 e2
  exact ⟨TT, hTT, mk, mw, mc, rl, its, c, tl, ts, ws, em, rfl, hS, hW⟩
end
section
open PySem PySem.W PySem.Calls PyProof.Rows
set_option compiler.extract_closed false
local macro_rules | `(tactic| walk_at "call builtin:len") => `(tactic| (k_here; (with_reducible show wpAny _ _ (PySem.call (Value.builtin "len") [Value.ref _]) _ _ _); k_dflt (refine' Mine.ints_lenL (by exact Heap.IsList.at (by assumption) (Fr.keep (by k_asm) _)) (by assumption) (by omega) ?_; k_whole)))
local macro_rules | `(tactic| walk_at "subscriptTail") => `(tactic| (k_here; (with_reducible show wpAny _ _ (subscriptTail _ _ (Value.ref _) (Value.int _ _)) _ _ _); k_dflt (refine' Mine.ints_subL (by exact Heap.IsList.at (by assumption) (Fr.keep (by k_asm) _)) (by assumption) (by first | assumption | omega) (by first | assumption | omega) (by omega) ?_ (by with_unfolding_all rfl); k_whole); intro t9))
section
set_option compiler.extract_closed false
open PySem PySem.W PySem.Calls PyProof.Rows
set_option Elab.async false
set_option maxRecDepth 100000
set_option maxHeartbeats 8000000
set_option linter.unusedVariables false
set_option pp.deepTerms false
set_option pp.deepTerms.threshold 7
set_option pp.proofs false
set_option pp.maxSteps 3000
theorem news_ends {h₀ h : Heap} {L : Addr} {a b c d e f g i j : Addr × Obj} (N : News h₀ L h [a, b, c, d, e, f, g, i, j]) : News h₀ L h ([a] ++ [j]) := fun p hp => N p (by
  rcases List.mem_cons.mp hp with rfl | hp
  · exact .head _
  · rw [List.mem_singleton.mp hp]
    exact .tail _ (.tail _ (.tail _ (.tail _ (.tail _ (.tail _ (.tail _ (.tail _ (.head _)))))))))
theorem pair_mono {ns : List Int} (h : ns.Pairwise (· ≤ ·)) {i j : Nat} (hij : i < j) (hj : j < ns.length) : ns.getD i 0 ≤ ns.getD j 0 := by
  rw [List.getD_eq_getElem?_getD, List.getD_eq_getElem?_getD, List.getElem?_eq_getElem hj, List.getElem?_eq_getElem (by omega)]
  exact List.pairwise_iff_getElem.mp h i j (by omega) hj hij
theorem glLoop {w : World} {p : Program} {loose : List Str} {mean : ExcName → Option Value} {mg mb : Str → Option Value} 
   {dp un : Nat} {gd : Option (List Code)} {outer : List Env} {A₀ : Around} {base h₀ : Heap} {L : Addr} {s : Shared} {Q : Flow → Shared → Prop} {E : Value → Shared → Prop}
   {vs : List Value} {ns : List Int} {d rl c a1 a2 : Nat} {text : Str} {tt tl ts te : Tok} 
   (B : Below A₀ base outer h₀) (X : (Mine.hd.heap_39 w.params).In h₀) (T : Top p loose mean mg mb h₀)
   (hC : CodeHd base 100 96) (hd : dp + 42 < recursionLimit) (hu : un + 190 < cLine) (hl : h₀.IsList d vs.toArray) (hi : IntsAre vs ns) (hz : ns.length < 70) (hz2 : 2 ≤ ns.length) (htx : text.length ≤ 500)
   (h96 : h₀.get? 96 = some (tabTwo a1 a2)) (hcode : h₀.CodeRec (.ref a1) lrQual) (hn0 : ns.getD 0 0 = 0) (hnl : ns.getD (ns.length - 1) 0 = text.length) (hns : ns.Pairwise (· ≤ ·))
   (F : Fr h₀ L s.heap (glMap none none none rl 1 tl (Str.ofString "") ts text tt d)) (N : News h₀ L s.heap [(rl, W.listOf #[.str (Str.ofString "") te] 0)])
   (hend : ∀ h tk mk mw mc rl its c st tl ts ws, Fr h₀ L h (glMap mk mw mc rl (1 + nl text.cps.toList) tl st ts text tt d) → News h₀ L h [(rl, W.listOf its c)] → StrsAre its.toList ws → ws.map (·.cps.toList) = (run .o [] text.cps.toList).1 ++ [(run .o [] text.cps.toList).2.2] → its.size ≤ 600 → Q .next { s with heap := h, toks := tk }) :
    wpAny (model PP w) (glTop dp un gd L outer) (exec glFor (glEnv L)) Q E s := by
  have hfill : (PySem.Challenge.rw_re0024_01, Mine.hd.heap_39) = (PySem.Challenge.rw_re0024_01, Mine.hd.heap_39) := by k_fill; rfl
  clear hfill
  w_on
  conv in glFor => whnf
  refine For_range (h₀ := h₀) (L := L) (a := 0) (b := (ns.length : Int) - 1) (GlP ns text tt d) rfl rfl (by omega) rfl rfl ?_ ?_ ?_
  · k_steps
    refine RgSrc.intro (by assumption) (by omega) (by omega) (by omega) (by assumption) (by assumption) ⟨[], by rw [show (0 : Int).toNat = 0 from rfl, hn0]; rfl, none, none, none, rl, _, _, tl, ts, [Str.ofString ""], fun y => rfl, rfl, .cons _ te .nil, rfl⟩
  · clear F N
    rintro it o k t m news h tk h1 h2 ⟨TT, hTT, mk, mw, mc, rl, its, c, tl, ts, ws, hm, rfl, hS, hW⟩ hoff F1 N1
    have F2 := Fr.congr F1 (m' := fun y => if y = Str.ofString "k" then some (.int k t) else glMap mk mw mc rl (1 + nl TT) tl (begStr (run .o [] TT).2.1) ts text tt d y) (fun y => by simp only [hm])
    clear F1
    simp only [List.cons_append, List.nil_append] at N1
    have hoff1 : Apart rl it := hoff (rl, _) (.head _)
    repeat' ((fail_if_success (with_reducible show wpAny _ _ (PySem.call (Value.ref 106) _) _ _ _)); (first | (k_unfold; (try dsimp only)) | (k_end; wrow_close) | walk1 | (dsimp only; walk1) | (leave1; walk_say "STEP leave1"; try dsimp only) | fail "no step"))
    have hk1 : (k + 1).toNat = k.toNat + 1 := tnS (by omega)
    have hp0 : 0 ≤ ns.getD k.toNat 0 := by
      rcases Nat.eq_zero_or_pos k.toNat with h0 | h0
      · rw [h0, hn0]; decide
      · have := pair_mono hns h0 (by omega); omega
    have hp1 : ns.getD k.toNat 0 ≤ ns.getD (k + 1).toNat 0 := by rw [hk1]; exact pair_mono hns (by omega) (by omega)
    have hp2 : ns.getD (k + 1).toNat 0 ≤ text.length := by
      rcases Nat.lt_or_ge (k + 1).toNat (ns.length - 1) with h0 | h0
      · have := pair_mono hns h0 (by omega); omega
      · rw [show (k + 1).toNat = ns.length - 1 by omega]; omega
    have hcut : text.cps.toList.take (ns.getD (k + 1).toNat 0).toNat = text.cps.toList.take (ns.getD k.toNat 0).toNat ++ (Txt.slice text (some (ns.getD k.toNat 0)) (some (ns.getD (k + 1).toNat 0))).cps.toList := by
      rw [slice_eq hp0 (by omega)]
      simp only
      rw [← List.take_add]
      congr 1; omega
    have hll := len_list text
    have hTl : (text.cps.toList.take (ns.getD k.toNat 0).toNat).length ≤ 500 := by rw [List.length_take]; omega
    have hPl := PyProof.Txt.length_slice_le text (some (ns.getD k.toNat 0)) (some (ns.getD (k + 1).toNat 0))
    obtain ⟨TT2, hTT2⟩ : ∃ TT2, text.cps.toList.take (ns.getD (k + 1).toNat 0).toNat = TT2 := ⟨_, rfl⟩
    rw [hTT] at hTl hcut
    rw [hTT2] at hcut
    generalize Txt.slice text (some (ns.getD k.toNat 0)) (some (ns.getD (k + 1).toNat 0)) = PT at *
    have hg := glue_run TT PT.cps.toList
    have hnl2 : nl TT2 = nl TT + nl PT.cps.toList := by rw [hcut, nl_append]
    rw [← hcut] at hg
    have hrl := run_len TT .o []
    refine wpAny_call ?_
    k_dflt (refine' law_part ?r1 ?r2 ?r3 ?r4 ?r5 ?r6 ?r7 ?r8 ?r9 ?r10 ?r11 ?r12 ?_)
    (case r1 => k_asm)
    (case r2 => k_asm)
    (case r3 => k_asm)
    (case r4 => k_asm)
    (case r5 => k_asm)
    (case r6 => rfl)
    (case r7 => assumption)
    (case r8 => ktr_room)
    (case r9 => ktr_units)
    (case r10 => exact Fr.keep (by k_asm) _ _ h96)
    (case r11 => exact hcode.keeps (Fr.keep (by k_asm)))
    (case r12 => omega)
    k_whole
    intro h5 tk5 tup5 wl5 its5 n5 t5 ts5 ws5 F5 N5 hS5 hW5 hz5
    have hne : ws ≠ [] := by intro q; rw [q] at hW; simp at hW
    have hne5 : ws5 ≠ [] := by intro q; rw [q] at hW5; exact partW_ne _ _ hW5.symm
    obtain ⟨ls, V, x, tx, yy, ty, VV, w0, w1, rfl, v1, v2, v3, v4, v5, v6, v7⟩ := strs_ends hS hne
    obtain ⟨ls5, VV5, xx5, ttx5, y5, ty5, V5, w05, w15, rfl, q1, q2, q3, q4, q5, q6, q7⟩ := strs_ends hS5 hne5
    have hpl := partW_len (run .o [] TT).2.1 PT.cps.toList
    have hPTl := len_list PT
    rw [← hW5, q5] at hpl
    rw [← hW, v4] at hrl
    have hx : x.length ≤ 500 := by
      have := hrl.1 x.cps.toList (by simp)
      rw [len_list] at this; simp at this; omega
    have hy5 : y5.length ≤ 505 := by
      have := hpl.1 y5.cps.toList (by simp)
      rw [len_list] at this; omega
    have hVl : V.length ≤ 501 := by
      have e1 := v7.length
      have e2 := congrArg List.length hW
      rw [v4] at e2
      simp at e2
      have := hrl.2
      omega
    have hV5l : V5.length ≤ 505 := by
      have e1 := q6.length
      have := hpl.2
      simp only [List.map_cons, List.length_cons, List.length_map] at this
      omega
    have hlsl : ls.length ≤ 600 := by rw [v1]; simp; omega
    have hls5l : ls5.length ≤ 600 := by rw [q2]; simp; omega
    clear hS hS5 q1 q3 q4 q7 v2 v3 v5 v6
    dsimp only
    k_steps
    with_reducible rename News h₀ L _ _ => N6
    with_reducible rename Fr h₀ L _ _ => F6
    with_reducible rename (_ < _ ∧ _ < _ ∧ _ < _ ∧ _ < _ ∧ _ < _ ∧ _ < _ ∧ _ < _ ∧ _ < _) => l6
    have hWn : (w0 ++ [x ++ y5] ++ w15).map (·.cps.toList) = (run .o [] TT2).1 ++ [(run .o [] TT2).2.2] := by
      rw [← hg.1, ← hW5, q5]
      rw [v4] at hW
      simp only [List.map_append, List.map_cons, List.map_nil] at hW ⊢
      have hW1 := List.append_inj_left' hW rfl
      have hW2 := List.append_inj_right' hW rfl
      have hW3 : x.cps.toList = (run .o [] TT).2.2 := by simpa using hW2
      rw [hW1, ← hW3, Str.cps_append]
      simp [glue]
    refine RgEnd.intro [(_, W.listOf (V ++ [Value.str (x ++ y5) _] ++ V5).toArray 0)] F6 (news_ends N6) (List.forall_mem_cons.mpr ⟨?_, List.forall_mem_nil _⟩) (GlP.turn hTT2 gl_map ?_ ?_ (StrsAre.append' (StrsAre.append' v7 (.cons _ _ .nil)) q6) hWn)
    · obtain ⟨z1, z2, z3, z4, z5, z6, z7, z8⟩ := l6
      exact Nat.ne_of_gt z8
    · rw [hnl2]; omega
    · rw [hg.2]
  · rintro m news h tk ⟨TT, hTT, mk, mw, mc, rl, its, c, tl, ts, ws, hm, rfl, hS, hW⟩ F1 N1
    rw [show ((ns.length : Int) - 1).toNat = ns.length - 1 by omega, hnl, Int.toNat_natCast, ← len_list, List.take_length] at hTT
    subst hTT
    have hlen := congrArg List.length hW
    have hr := (run_len text.cps.toList .o []).2
    have hll := len_list text
    have hsl := hS.length
    exact hend _ _ mk mw mc rl its c _ tl ts ws (Fr.congr F1 hm) N1 hS hW (by simp at hlen hsl; omega)
end
section
set_option compiler.extract_closed false
open PySem PySem.W PySem.Calls PyProof.Rows
set_option Elab.async false
set_option maxRecDepth 100000
set_option maxHeartbeats 8000000
set_option linter.unusedVariables false
set_option pp.deepTerms false
set_option pp.deepTerms.threshold 7
set_option pp.proofs false
set_option pp.maxSteps 3000
theorem gl_map0 {h₀ h : Heap} {L rl d : Nat} {ln : Int} {tl ts tt : Tok} {st text : Str} (F : Fr h₀ L h (fun y => if y = Str.ofString "stands" then some (.str st ts) else if y = Str.ofString "lines" then some (.int ln tl) else if y = Str.ofString "row" then some (.ref rl) else List.lookup y [(Str.ofString "places", Value.ref d), (Str.ofString "text", Value.str text tt)])) :
    Fr h₀ L h (glMap none none none rl ln tl st ts text tt d) := Fr.congr F (fun y => by
  unfold glMap
  by_cases a1 : y = Str.ofString "words"
  · subst a1; rfl
  by_cases a2 : y = Str.ofString "count"
  · subst a2; rfl
  by_cases a3 : y = Str.ofString "k"
  · subst a3; rfl
  by_cases a4 : y = Str.ofString "row"
  · subst a4; rfl
  by_cases a5 : y = Str.ofString "lines"
  · subst a5; rfl
  by_cases a6 : y = Str.ofString "stands"
  · subst a6; rfl
  simp only [if_neg a1, if_neg a2, if_neg a3, if_neg a4, if_neg a5, if_neg a6]
  by_cases a7 : y = Str.ofString "places"
  · subst a7; rfl
  by_cases a8 : y = Str.ofString "text"
  · subst a8; rfl
  simp only [if_neg a7, if_neg a8]
  rw [List.lookup_cons, beq_false_of_ne a7]
  simp only
  rw [List.lookup_cons, beq_false_of_ne a8]
  rfl)
theorem law_glued {w : World} {p : Program} {loose : List Str} {mean : ExcName → Option Value} {mg mb : Str → Option Value} 
   {dp un : Nat} {gd : Option (List Code)} {cn : Str} {cs : Scope} {a : Addr} {ccd : Value} {cl : List (Str × Addr)} {outer : List Env} {A₀ : Around} {base h₀ : Heap} {L : Addr} {m : Str → Option Value} {s : Shared} {R : Result → Shared → Prop}
   {d : Addr} {vs : List Value} {ns : List Int} {text : Str} {tt : Tok} {rest : List (Addr × Obj)} {a1 a2 : Nat}
   (B : Below A₀ base outer h₀) (F : Fr h₀ L s.heap m) (X : (Mine.hd.heap_39 w.params).In h₀) (N : News h₀ L s.heap rest) (T : Top p loose mean mg mb h₀) (hk : cs.kind = .function)
   (hC : CodeHd base 100 96) (hd : dp + 50 < recursionLimit) (hu : un + 220 < cLine) (hl : s.heap.IsList d vs.toArray) (hi : IntsAre vs ns) (hz : ns.length < 70) (hz2 : 2 ≤ ns.length) (htx : text.length ≤ 500)
   (h96 : s.heap.get? 96 = some (tabTwo a1 a2)) (hcode : s.heap.CodeRec (.ref a1) lrQual) (hn0 : ns.getD 0 0 = 0) (hnl : ns.getD (ns.length - 1) 0 = text.length) (hns : ns.Pairwise (· ≤ ·))
   (hR : ∀ h' tk' tup rl its c t ws, Fr h₀ L h' m → News h₀ L h' ((tup, tupOf [.ref rl, .int (1 + nl text.cps.toList) t]) :: (rl, W.listOf its c) :: rest) → StrsAre its.toList ws → ws.map (·.cps.toList) = (run .o [] text.cps.toList).1 ++ [(run .o [] text.cps.toList).2.2] → its.size ≤ 600 →
      R (.ok (.ret (.ref tup))) { s with heap := h', toks := tk' }) :
    codeAny (model PP w) (ktrTop dp un gd cn cs L a ccd cl outer) (.call (.ref 113) ⟨[.str text tt, .ref d], []⟩) R s := by
  have hfill : (PySem.Challenge.rw_re0024_01, Mine.hd.heap_39) = (PySem.Challenge.rw_re0024_01, Mine.hd.heap_39) := by k_fill; rfl
  clear hfill
  w_on
  have hsep : ∀ p ∈ rest, p.1 ∉ ([] : List (Addr × Obj)).map (·.1) := fun _ _ h => nomatch h
  have N0 : News h₀ L s.heap ([] ++ rest) := N
  k_dflt (walk_at "m enterR")
  with_reducible rename (∀ (b : Addr) (o : Obj), b ∉ _ → _ → _) => lG
  have hl2 := hl.at fun o e => lG d o (fun h => nomatch h) e
  have g96 := lG 96 _ (fun h => nomatch h) h96
  have gcode := code_into hcode (fun o e => lG _ _ (fun h => nomatch h) e)
  refine wpAny_noRaise ?_
  repeat' ((fail_if_success (with_reducible show wpAny _ _ (exec (Stmt.For _ _ _ _ _) _) _ _ _)); (first | (k_unfold; (try dsimp only)) | (k_end; wrow_close) | walk1 | (dsimp only; walk1) | (leave1; walk_say "STEP leave1"; try dsimp only) | fail "no step"))
  with_reducible rename News _ _ _ [_] => N1
  with_reducible rename Fr _ _ _ (fun y => if y = Str.ofString "stands" then _ else _) => F1
  show wpAny _ _ (exec glFor (glEnv _)) _ _ _
  refine glLoop (c := 0) (dp := dp + 1) (un := un + 3) (text := text) (ns := ns) (by k_asm) (by k_asm) (by k_asm) hC (by omega) (by omega) hl2 hi hz hz2 htx g96 gcode hn0 hnl hns (gl_map0 F1) N1 ?_
  clear F1 N1
  intro h3 tk3 mk mw mc rl its c st tl ts ws F1 N1 hS hW hz3
  dsimp only
  k_steps
  with_reducible rename Fr h₀ L _ _ => kF
  with_reducible rename News h₀ L _ _ => kN
  intro NR _
  exact hR _ _ _ _ _ _ _ ws kF (news_app kN NR) hS hW hz3
end
section
open PySem PySem.W PySem.Calls PyProof.Rows
set_option compiler.extract_closed false
local macro_rules | `(tactic| walk_at "binaryOp Mult int int") => `(tactic| (k_here; (with_reducible refine mul_int ?_ (Mine.mul_sm ?hsm)); (case hsm => first | assumption | exact (by assumption : ∀ i, Mine.Sm (List.getD _ i 0)) _ | (unfold Mine.Sm; omega))))
section
set_option compiler.extract_closed false
open PySem PySem.W PySem.Calls PyProof.Rows
set_option Elab.async false
set_option maxRecDepth 100000
set_option maxHeartbeats 8000000
set_option linter.unusedVariables false
set_option pp.deepTerms false
set_option pp.deepTerms.threshold 7
set_option pp.proofs false
set_option pp.maxSteps 3000
noncomputable def kcDef : Stmt := nth PP.main.body 12
noncomputable def kcScope : Scope := scopeOf kcDef
noncomputable def kcFor : Stmt := nth (bodyOf kcDef) 1
noncomputable abbrev kcCl (ck cw cn ci : Nat) : List (Str × Addr) := [(Str.ofString "k", ck), (Str.ofString "way", cw), (Str.ofString "n", cn), (Str.ofString "items", ci)]
noncomputable abbrev kcTop (dp un : Nat) (gd : Option (List Code)) (L : Addr) (cl : List (Str × Addr)) (outer : List Env) : Around := ktrTop dp un gd (Str.ofString "_law_cuts") kcScope L 118 (.ref 117) cl outer
noncomputable abbrev kcEnv (L : Addr) (cl : List (Str × Addr)) : Env := envX (Str.ofString "_law_cuts") kcScope L 118 (.ref 117) cl
noncomputable def wayAt (ns : List Int) (n : Int) (k : Nat) : List Int := (List.range n.toNat).map fun (st : Nat) => ns.getD k 0 * n + (ns.getD (k + 1) 0 - ns.getD k 0) * (st : Int)
noncomputable def wayOf (ns : List Int) (n : Int) : Nat → List Int
  | 0 => []
  | k + 1 => wayOf ns n k ++ wayAt ns n k
theorem wayAt_len {ns : List Int} {n : Int} {k : Nat} : (wayAt ns n k).length = n.toNat := by simp [wayAt]
theorem wayOf_len {ns : List Int} {n : Int} : ∀ k, (wayOf ns n k).length = k * n.toNat
  | 0 => by simp [wayOf]
  | k + 1 => by rw [wayOf, List.length_append, wayOf_len k, wayAt_len, Nat.succ_mul]
theorem news_skip2 {h₀ h : Heap} {L : Addr} {a b c : Addr × Obj} {r : List (Addr × Obj)} (N : News h₀ L h (a :: b :: c :: r)) : News h₀ L h (a :: r) := fun p hp => by
  rcases List.mem_cons.mp hp with rfl | hp
  · exact N _ (.head _)
  · exact N _ (.tail _ (.tail _ (.tail _ hp)))
theorem kcLoop {w : World} {p : Program} {loose : List Str} {mean : ExcName → Option Value} {mg mb : Str → Option Value} 
   {dp un : Nat} {gd : Option (List Code)} {outer : List Env} {A₀ : Around} {base h₀ : Heap} {L : Addr} {s : Shared} {Q : Flow → Shared → Prop} {E : Value → Shared → Prop}
   {vs : List Value} {ns : List Int} {n : Int} {tn : Tok} {d ck cw cn ci wa c : Nat} {ok ow on oi : Obj} {vk : Option Value} {m : Str → Option Value}
   (B : Below A₀ base outer h₀) (X : (Mine.hd.heap_39 w.params).In h₀) (T : Top p loose mean mg mb h₀)
   (hC : CodeHd base 100 96) (hd : dp + 22 < recursionLimit) (hu : un + 130 < cLine) (hl : h₀.IsList d vs.toArray) (hi : IntsAre vs ns) (hz : ns.length < 70) (hz2 : 2 ≤ ns.length) (hn : 2 ≤ n) (hn7 : n ≤ 7) (hb : ∀ i, (ns.getD i 0).natAbs ≤ 10000)
   (dk : ok.data = .cell vk) (dw : ow.data = .cell (some (.ref wa))) (dn : on.data = .cell (some (.int n tn))) (di : oi.data = .cell (some (.ref d)))
   (a1 : Apart ck cw) (a2 : Apart ck cn) (a3 : Apart ck ci) (a4 : Apart cw cn) (a5 : Apart cw ci) (b1 : Apart wa ck) (b2 : Apart wa cw)
   (F : Fr h₀ L s.heap m) (N : News h₀ L s.heap [(wa, W.listOf #[] 0), (ck, ok), (cw, ow), (cn, on), (ci, oi)])
   (hend : ∀ h tk wa ws c ok ow, Fr h₀ L h m → News h₀ L h [(wa, W.listOf ws c), (ck, ok), (cw, ow), (cn, on), (ci, oi)] → ow.data = .cell (some (.ref wa)) → IntsAre ws.toList (wayOf ns n (ns.length - 1)) → Q .next { s with heap := h, toks := tk }) :
    wpAny (model PP w) (kcTop dp un gd L (kcCl ck cw cn ci) outer) (exec kcFor (kcEnv L (kcCl ck cw cn ci))) Q E s := by
  have hfill : (PySem.Challenge.rw_re0024_01, Mine.hd.heap_39) = (PySem.Challenge.rw_re0024_01, Mine.hd.heap_39) := by k_fill; rfl
  clear hfill
  w_on
  conv in kcFor => whnf
  refine For_rangeC (h₀ := h₀) (L := L) (a := 0) (b := (ns.length : Int) - 1) (fun k m' news => m' = m ∧ ∃ wa ws c ok ow vk, news = [(wa, W.listOf ws c), (ck, ok), (cw, ow), (cn, on), (ci, oi)] ∧ ok.data = .cell vk ∧ ow.data = .cell (some (.ref wa)) ∧ Apart wa ck ∧ Apart wa cw ∧ IntsAre ws.toList (wayOf ns n k.toNat)) rfl rfl (by omega) ?_ ?_ ?_
  · k_steps
    exact RgSrc.intro (by assumption) (by omega) (by omega) (by omega) (by assumption) (by assumption) ⟨rfl, wa, #[], 0, ok, ow, vk, rfl, dk, dw, b1, b2, .nil⟩
  · clear F N dk dw ok ow vk wa b1 b2
    rintro it o k t m' news h tk h1 h2 ⟨rfl, wa, ws, c, ok, ow, vk, rfl, dk, dw, b1, b2, hW⟩ hoff F1 N1
    simp only [List.cons_append, List.nil_append] at N1
    have c1 : Apart wa it := hoff (wa, _) (.head _)
    have c2 : Apart ck it := hoff (ck, _) (.tail _ (.head _))
    have c3 : Apart cw it := hoff (cw, _) (.tail _ (.tail _ (.head _)))
    have c4 : Apart cn it := hoff (cn, _) (.tail _ (.tail _ (.tail _ (.head _))))
    have c5 : Apart ci it := hoff (ci, _) (.tail _ (.tail _ (.tail _ (.tail _ (.head _)))))
    have g1 : ∀ i, Sm (ns.getD i 0) := fun i => Nat.lt_of_le_of_lt (hb i) (by decide)
    repeat' ((fail_if_success (with_reducible show wpAny _ _ (eval (Expr.ListComp _ _ _ _) _) _ _ _)); (first | (k_unfold; (try dsimp only)) | (k_end; wrow_close) | walk1 | (dsimp only; walk1) | (leave1; walk_say "STEP leave1"; try dsimp only) | fail "no step"))
    with_reducible rename News h₀ L _ _ => N2
    with_reducible rename Fr h₀ L _ _ => F2
    with_reducible rename (Obj.data _ = Data.cell (some (Value.int k t))) => dk2
    have hk1 : (k + 1).toNat = k.toNat + 1 := tnS (by omega)
    have g2 : Sm (ns.getD (k + 1).toNat 0 - ns.getD k.toNat 0) := by
      have q1 := hb (k + 1).toNat
      have q2 := hb k.toNat
      unfold Sm; omega
    have hnn : Builtin.Range.rangeSize 0 n 1 = ((n.toNat : Nat) : Int) := by
      rw [(range_small (a := 0) (b := n) (by omega) (by omega) (by omega)).2]; omega
    k_dflt (refine LCg.ListComp_U (F₀ := F2) (by with_unfolding_all rfl) (by decide) (by rfl) (by decide) (by rfl) ?_)
    repeat' ((fail_if_success (with_unfolding_all show LCg.CompSrc _ _ _ _ _ _ _ _ _ _ _ _ _ _)); (first | (k_unfold; (try dsimp only)) | (k_end; wrow_close) | walk1 | (dsimp only; walk1) | (leave1; walk_say "STEP leave1"; try dsimp only) | fail "no step"))
    with_reducible rename News h₀ L _ _ => N2
    with_reducible rename Fr h₀ L _ _ => F2
    k_dflt (refine LCg.CompSrc.range rfl F2 N2 (by assumption) (range_small (by omega) (by omega) (by omega)).1 hnn (by simp only [PySem.sizeLine_eq]; omega) (fun g' => comp_pure (fun i y => ∃ t, y = Value.int (ns.getD k.toNat 0 * n + (ns.getD (k + 1).toNat 0 - ns.getD k.toNat 0) * (i : Int)) t) ?_ ?_))
    · rintro i v I oI C oC D m₂ ys h tk E' hi ⟨t, rfl⟩ hC hx F3 N3 off ne
      k_steps
      with_reducible rename Fr h₀ L h _ => F4
      exact LCg.CompEnd.intro (by assumption) N3 _ (fun p hp => hp) off trivial ⟨rfl, _, by rw [Int.zero_add]⟩
    · intro ys hl hy
      have hiy : IntsAre ys (wayAt ns n k.toNat) := ints_at (by simpa using hl) fun i y h => by
        have hlt : i < n.toNat := by
          rcases Nat.lt_or_ge i ys.length with h1 | h1
          · omega
          · rw [List.getElem?_eq_none h1] at h; cases h
        obtain ⟨t', e⟩ := hy i y h
        exact ⟨i, by simp [hlt], t', by rw [e, hk1]⟩
      have hwl : (wayOf ns n k.toNat).length ≤ 490 := by
        rw [wayOf_len]
        exact Nat.le_trans (Nat.mul_le_mul (show k.toNat ≤ 69 by omega) (show n.toNat ≤ 7 by omega)) (by decide)
      have hwa : (wayAt ns n k.toNat).length = n.toNat := wayAt_len
      k_steps
      with_reducible rename News h₀ L _ _ => N4
      with_reducible rename Fr h₀ L _ _ => F4
      with_reducible rename IntsAre _ (_ ++ _) => hI4
      with_reducible rename (_ < _ ∧ _ < _ ∧ _ < _ ∧ _ < _ ∧ _ < _ ∧ _ < _ ∧ _ < _) => l4
      obtain ⟨l41, l42, l43, l44, l45, l46, l47⟩ := l4
      exact RgEnd.intro [(_, W.listOf _ _), (ck, _), (cw, _), (cn, on), (ci, oi)] F4 (news_skip2 N4) (List.forall_mem_cons.mpr ⟨Nat.ne_of_gt l47, List.forall_mem_cons.mpr ⟨c2, List.forall_mem_cons.mpr ⟨c3, List.forall_mem_cons.mpr ⟨c4, List.forall_mem_cons.mpr ⟨c5, List.forall_mem_nil _⟩⟩⟩⟩⟩) ⟨rfl, _, _, _, _, _, _, rfl, dk2, by assumption, Nat.ne_of_gt l43, Nat.ne_of_gt l44, by rw [hk1]; exact hI4⟩
  · rintro m' news h tk ⟨rfl, wa, ws, c, ok, ow, vk, rfl, dk, dw, b1, b2, hW⟩ F1 N1
    rw [show ((ns.length : Int) - 1).toNat = ns.length - 1 by omega] at hW
    exact hend _ _ wa ws c ok ow F1 N1 dw hW
end
end
end
end
section
open PySem PySem.W PySem.Calls PyProof.Rows
set_option compiler.extract_closed false
local macro_rules | `(tactic| walk_at "binaryOp Mult int int") => `(tactic| (k_here; (with_reducible refine mul_int ?_ (Mine.mul_sm ?hsm)); (case hsm => first | assumption | exact (by assumption : ∀ i, Mine.Sm (List.getD _ i 0)) _ | (unfold Mine.Sm; omega))))
local macro_rules | `(tactic| walk_at "subscriptTail") => `(tactic| (k_here; (with_reducible show wpAny _ _ (subscriptTail _ _ (Value.ref _) (Value.int _ _)) _ _ _); k_dflt (refine' Mine.ints_sub (by k_asm) (by k_mem) (by assumption) (by first | assumption | omega) (by first | assumption | omega) (by omega) ?_ (by with_unfolding_all rfl); k_whole); intro t9))
section
open PySem PySem.W PySem.Calls PyProof.Rows
set_option compiler.extract_closed false
local macro_rules | `(tactic| walk_at "call builtin:len") => `(tactic| (k_here; (with_reducible show wpAny _ _ (PySem.call (Value.builtin "len") [Value.ref _]) _ _ _); k_dflt (refine' Mine.ints_lenL (by exact Heap.IsList.at (by assumption) (Fr.keep (by k_asm) _)) (by assumption) (by omega) ?_; k_whole)))
section
set_option compiler.extract_closed false
open PySem PySem.W PySem.Calls PyProof.Rows
set_option Elab.async false
set_option maxRecDepth 100000
set_option maxHeartbeats 8000000
set_option linter.unusedVariables false
set_option pp.deepTerms false
set_option pp.deepTerms.threshold 7
set_option pp.proofs false
set_option pp.maxSteps 3000
noncomputable def cutsOf (ns : List Int) (n : Int) : List Int := (List.range (n.toNat - 1)).map fun (i : Nat) => (wayOf ns n (ns.length - 1)).getD ((1 + (i : Int)) * (ns.length - 1)).toNat 0
--`(tactic| (k_here; (with_reducible show wpAny _ _ (subscriptTail _ _ (Value.ref _) (Value.int _ _)) _ _ _); k_dflt (refine' ints_subL ?k1 ?k4 ?k5 ?k6 ?k7 ?_ ?k3; (case k1 => exact Heap.IsList.at (by assumption) (Fr.keep (by k_asm) _)); (case k4 => assumption); (case k5 => first | assumption | omega); (case k6 => first | assumption | omega); (case k7 => omega); (case k3 => with_unfolding_all rfl); k_whole); intro t9))
theorem law_cuts {w : World} {p : Program} {loose : List Str} {mean : ExcName → Option Value} {mg mb : Str → Option Value} 
   {dp un : Nat} {gd : Option (List Code)} {cn : Str} {cs : Scope} {a : Addr} {ccd : Value} {cl : List (Str × Addr)} {outer : List Env} {A₀ : Around} {base h₀ : Heap} {L : Addr} {m : Str → Option Value} {s : Shared} {R : Result → Shared → Prop}
   {d : Addr} {vs : List Value} {ns : List Int} {n : Int} {tn : Tok} {rest : List (Addr × Obj)}
   (B : Below A₀ base outer h₀) (F : Fr h₀ L s.heap m) (X : (Mine.hd.heap_39 w.params).In h₀) (N : News h₀ L s.heap rest) (T : Top p loose mean mg mb h₀) (hk : cs.kind = .function)
   (hb : ∀ x ∈ ns, x.natAbs ≤ 10000) (hC : CodeHd base 100 96) (hd : dp + 30 < recursionLimit) (hu : un + 150 < cLine) (hl : s.heap.IsList d vs.toArray) (hi : IntsAre vs ns) (hz : vs.length < 70) (hz2 : 2 ≤ ns.length) (hn : 2 ≤ n) (hn7 : n ≤ 7)
   (hR : ∀ h' tk' res ys c, Fr h₀ L h' m → News h₀ L h' ((res, W.listOf ys c) :: rest) → IntsAre ys.toList (cutsOf ns n) → R (.ok (.ret (.ref res))) { s with heap := h', toks := tk' }) :
    codeAny (model PP w) (ktrTop dp un gd cn cs L a ccd cl outer) (.call (.ref 118) ⟨[.ref d, .int n tn], []⟩) R s := by
  have hfill : (PySem.Challenge.rw_re0024_01, Mine.hd.heap_39) = (PySem.Challenge.rw_re0024_01, Mine.hd.heap_39) := by k_fill; rfl
  clear hfill
  w_on
  have hsep : ∀ p ∈ rest, p.1 ∉ ([] : List (Addr × Obj)).map (·.1) := fun _ _ h => nomatch h
  have N0 : News h₀ L s.heap ([] ++ rest) := N
  k_dflt (walk_at "m enterCR")
  with_reducible rename (∀ (b : Addr) (o : Obj), b ∉ _ → _ → _) => lG
  have hlv := hi.length
  have hl2 := hl.at fun o e => lG d o (fun h => nomatch h) e
  refine wpAny_noRaise ?_
  repeat' ((fail_if_success (with_reducible show wpAny _ _ (exec (Stmt.For _ _ _ _ _) _) _ _ _)); (first | (k_unfold; (try dsimp only)) | (k_end; wrow_close) | walk1 | (dsimp only; walk1) | (leave1; walk_say "STEP leave1"; try dsimp only) | fail "no step"))
  with_reducible rename News _ _ _ [_, _, _, _, _] => N1
  with_reducible rename Fr _ _ _ (bindL _ _ _) => F1
  with_reducible rename (_ < _ ∧ _ < _ ∧ _ < _ ∧ _ < _) => l1
  obtain ⟨l11, l12, l13, l14⟩ := l1
  have hb9 : ∀ i, (ns.getD i 0).natAbs ≤ 10000 := by
    intro i
    rw [List.getD_eq_getElem?_getD]
    rcases Nat.lt_or_ge i ns.length with h | h
    · rw [List.getElem?_eq_getElem h]
      exact hb _ (List.getElem_mem h)
    · rw [List.getElem?_eq_none h]; decide
  with_reducible rename (Obj.data _ = Data.cell (bindC _ _ _ (Str.ofString "k"))) => dk1
  with_reducible rename (Obj.data _ = Data.cell (bindC _ _ _ (Str.ofString "n"))) => dn1
  with_reducible rename (Obj.data _ = Data.cell (bindC _ _ _ (Str.ofString "items"))) => di1
  with_reducible rename (Obj.data _ = Data.cell (some (Value.ref _))) => dw1
  show wpAny _ _ (exec kcFor (kcEnv _ (kcCl _ _ _ _))) _ _ _
  refine kcLoop (c := 0) (dp := dp + 1) (un := un + 3) (d := d) (tn := tn) (n := n) (by k_asm) (by k_asm) (by k_asm) hC (by omega) (by omega) hl2 hi (by omega) hz2 hn hn7 hb9 dk1 dw1 dn1 di1 (by unfold Apart; omega) (by unfold Apart; omega) (by unfold Apart; omega) (by unfold Apart; omega) (by unfold Apart; omega) (Nat.ne_of_gt l11) (Nat.ne_of_gt l12) F1 N1 ?_
  clear F1 N1 dw1
  intro h3 tk3 wa ws c ok ow F1 N1 dw hW
  dsimp only
  obtain ⟨l, rfl⟩ : ∃ l : List Value, ws = l.toArray := ⟨ws.toList, by simp⟩
  simp only at hW
  have hwl := wayOf_len (ns := ns) (n := n) (ns.length - 1)
  have hwn : (ns.length - 1) * n.toNat ≤ 490 := Nat.le_trans (Nat.mul_le_mul (show ns.length - 1 ≤ 69 by omega) (show n.toNat ≤ 7 by omega)) (by decide)
  have hnn : Builtin.Range.rangeSize 1 n 1 = ((n.toNat - 1 : Nat) : Int) := by
    rw [(range_small (a := 1) (b := n) (by omega) (by omega) (by omega)).2]; omega
  repeat' ((fail_if_success (with_reducible show wpAny _ _ (eval (Expr.ListComp _ _ _ _) _) _ _ _)); (first | (k_unfold; (try dsimp only)) | (k_end; wrow_close) | walk1 | (dsimp only; walk1) | (leave1; walk_say "STEP leave1"; try dsimp only) | fail "no step"))
  k_dflt (refine LCg.ListComp_U (F₀ := by k_asm) (by with_unfolding_all rfl) (by decide) (by rfl) (by decide) (by rfl) ?_)
  repeat' ((fail_if_success (with_unfolding_all show LCg.CompSrc _ _ _ _ _ _ _ _ _ _ _ _ _ _)); (first | (k_unfold; (try dsimp only)) | (k_end; wrow_close) | walk1 | (dsimp only; walk1) | (leave1; walk_say "STEP leave1"; try dsimp only) | fail "no step"))
  k_dflt (refine LCg.CompSrc.range rfl (by k_asm) (by k_asm) (by assumption) (range_small (by omega) (by omega) (by omega)).1 hnn (by simp only [PySem.sizeLine_eq]; omega) (fun g' => comp_pure (fun i y => ∃ t, y = Value.int ((wayOf ns n (ns.length - 1)).getD ((1 + (i : Int)) * (ns.length - 1)).toNat 0) t) ?_ ?_))
  · rintro i v I oI C oC D m₂ ys h tk E' hi' ⟨t, rfl⟩ hC hx F3 N3 off ne
    have q1 : 0 ≤ (1 + (i : Int)) * ((ns.length : Int) - 1) := Int.mul_nonneg (by omega) (by omega)
    have q2 : (1 + (i : Int)) * ((ns.length : Int) - 1) < ((wayOf ns n (ns.length - 1)).length : Int) := by
      rw [hwl]
      have h1 : (1 + (i : Int)) * ((ns.length : Int) - 1) < n * ((ns.length : Int) - 1) := Int.mul_lt_mul_of_pos_right (by omega) (by omega)
      have h2 : (((ns.length - 1) * n.toNat : Nat) : Int) = n * ((ns.length : Int) - 1) := by
        rw [Int.natCast_mul, Int.mul_comm, show ((n.toNat : Nat) : Int) = n by omega, show ((ns.length - 1 : Nat) : Int) = (ns.length : Int) - 1 by omega]
      omega
    k_steps
    exact LCg.CompEnd.intro (by k_asm) N3 _ (fun p hp => hp) off trivial ⟨rfl, _, rfl⟩
  · intro ys hl hy
    have hiy : IntsAre ys (cutsOf ns n) := ints_at (by simpa using hl) fun i y h => by
      have hlt : i < n.toNat - 1 := by
        rcases Nat.lt_or_ge i ys.length with h1 | h1
        · omega
        · rw [List.getElem?_eq_none h1] at h; cases h
      obtain ⟨t', e⟩ := hy i y h
      exact ⟨i, by simp [hlt], t', e⟩
    k_steps
    with_reducible rename Fr h₀ L _ _ => kF
    with_reducible rename News h₀ L _ _ => kN
    intro NR _
    exact hR _ _ _ ys.toArray _ kF (fun p hp => by
      rcases List.mem_cons.mp hp with rfl | hp
      · exact kN _ (.head _)
      · exact NR p hp) (by simpa using hiy)
end
end
section
open PySem PySem.W PySem.Calls PyProof.Rows
set_option compiler.extract_closed false
local macro_rules | `(tactic| walk_at "call builtin:len") => `(tactic| (k_here; (with_reducible show wpAny _ _ (PySem.call (Value.builtin "len") [Value.ref _]) _ _ _); k_dflt (refine' Mine.ints_len (by k_asm) (by k_mem) (by assumption) (by omega) ?_; k_whole)))
local macro_rules | `(tactic| walk_at "binaryOp Div int int") => `(tactic| (k_here; k_dflt (refine Mine.div_sm rfl ?hda ?hdb ?_); (case hda => first | assumption | exact Mine.num_smallE (by assumption) (by omega) (by omega) (by omega) (by omega)); (case hdb => omega)))
local macro_rules | `(tactic| walk_at "call builtin:divmod") => `(tactic| (k_here; k_dflt (refine' Mine.divmod_K (by k_asm) (by k_asm) (by omega) (by omega) ?_); intro d' h' tk' t1' t2' F' N' l1; (try k_lt l1)))
local macro_rules | `(tactic| walk_at "call builtin:sorted") => `(tactic| (k_here; (with_reducible show wpAny _ _ (PySem.call (Value.builtin _) [Value.ref _]) _ _ _); k_dflt (refine' sorted_N (by k_asm) (by k_asm) (by exact Heap.IsList.at (by assumption) (Fr.keep (by k_asm) _)) (by assumption) (by assumption) ?_; k_whole); intro h' vs9 ns9 e9 F' N' hi9 hp9 hw9; (change News _ _ h' ((_, W.listOf vs9.toArray e9) :: _) at N'); (have hle9 := hp9.length_eq); (have hlv9 := hi9.length)))
section
set_option compiler.extract_closed false
open PySem PySem.W PySem.Calls PyProof.Rows
set_option Elab.async false
set_option maxRecDepth 100000
set_option maxHeartbeats 8000000
set_option linter.unusedVariables false
set_option pp.deepTerms false
set_option pp.deepTerms.threshold 7
set_option pp.proofs false
set_option pp.maxSteps 3000
theorem qLoopI {w : World} {p : Program} {loose : List Str} {mean : ExcName → Option Value} {mg mb : Str → Option Value} 
   {dp un : Nat} {gd : Option (List Code)} {outer : List Env} {A₀ : Around} {base h₀ : Heap} {L : Addr} {s : Shared} {Q : Flow → Shared → Prop} {E : Value → Shared → Prop}
   {vs : List Value} {ns : List Int} {n : Int} {tr tl tm tn : Tok} {res D e : Nat} {meth : Str}
   (B : Below A₀ base outer h₀) (X : (Mine.hd.heap_39 w.params).In h₀) (T : Top p loose mean mg mb h₀)
   (hC : CodeHd base 100 96) (hd : dp + 22 < recursionLimit) (hu : un + 130 < cLine) (hi : IntsAre vs ns) (hz : ns.length < 64) (hz2 : 2 ≤ ns.length) (hn : 2 ≤ n) (hn7 : n ≤ 7) (hb : ∀ i, (ns.getD i 0).natAbs ≤ 10000) (hrD : Apart res D)
   (F : Fr h₀ L s.heap (qMap none none none none (ns.length - 1) ns.length tr tl res D meth tm n tn)) (N : News h₀ L s.heap [(res, W.listOf #[] 0), (D, W.listOf vs.toArray e)])
   (hend : ∀ h tk mi mj md mt fs c, Fr h₀ L h (qMap mi mj md mt (ns.length - 1) ns.length tr tl res D meth tm n tn) → News h₀ L h [(res, W.listOf fs c), (D, W.listOf vs.toArray e)] → Cuts fs (numI ns n) n n → Q .next { s with heap := h, toks := tk }) :
    wpAny (model PP w) (qTop dp un gd L outer) (exec qForI (qEnv L)) Q E s := by
  have hfill : (PySem.Challenge.rw_re0024_01, Mine.hd.heap_39) = (PySem.Challenge.rw_re0024_01, Mine.hd.heap_39) := by k_fill; rfl
  clear hfill
  w_on
  conv in qForI => whnf
  refine For_range (h₀ := h₀) (L := L) (a := 1) (b := n) (fun k m news => ∃ mi mj md mt fs c, (∀ y, m y = qMap mi mj md mt (ns.length - 1) ns.length tr tl res D meth tm n tn y) ∧ news = [(res, W.listOf fs c), (D, W.listOf vs.toArray e)] ∧ Cuts fs (numI ns n) n k) rfl rfl (by omega) rfl rfl ?_ ?_ ?_
  · k_steps
    exact RgSrc.intro (by assumption) (by omega) (by omega) (by omega) (by assumption) (by assumption) ⟨none, none, none, none, #[], 0, fun _ => rfl, rfl, Cuts.nil⟩
  · rintro it o k t m news h tk h1 h2 ⟨mi, mj, md, mt, fs, c, hm, rfl, hc⟩ hoff F1 N1
    have F2 := Fr.congr F1 (m' := fun y => if y = Str.ofString "i" then some (.int k t) else qMap mi mj md mt (ns.length - 1) ns.length tr tl res D meth tm n tn y) (fun y => by simp only [hm])
    clear F1 F N
    simp only [List.cons_append, List.nil_append] at N1
    have hoff1 : Apart res it := hoff (res, _) (.head _)
    have hoff2 : Apart D it := hoff (D, _) (.tail _ (.head _))
    obtain ⟨f1, f2, f3, f4, -⟩ := frac_facts (m := (ns.length : Int) - 1) h1 h2 (by omega)
    have g1 : Sm (ns.getD ((k * (ns.length - 1)).fdiv n).toNat 0) := Nat.lt_of_le_of_lt (hb _) (by decide)
    have g2 : Sm (ns.getD ((k * (ns.length - 1)).fdiv n + 1).toNat 0) := Nat.lt_of_le_of_lt (hb _) (by decide)
    have g3 := num_small (hb ((k * (ns.length - 1)).fdiv n).toNat) (hb ((k * (ns.length - 1)).fdiv n + 1).toNat) (x := n - (k * (ns.length - 1)).fmod n) (by omega) (by omega) f3 (by omega)
    have hfs := hc.1
    k_steps
    with_reducible rename News h₀ L _ _ => N2
    with_reducible rename Fr h₀ L _ _ => F3
    exact RgEnd.intro [(res, W.listOf _ _), (D, W.listOf vs.toArray e)] F3 (fun p hp => N2 p (.tail _ hp)) (List.forall_mem_cons.mpr ⟨hoff1, List.forall_mem_cons.mpr ⟨hoff2, List.forall_mem_nil _⟩⟩) ⟨_, _, _, _, _, _, q_map4, rfl, hc.push _ rfl⟩
  · rintro m news h tk ⟨mi, mj, md, mt, fs, c, hm, rfl, hc⟩ F1 N1
    exact hend _ _ mi mj md mt fs c (Fr.congr F1 hm) N1 hc
end
section
set_option compiler.extract_closed false
open PySem PySem.W PySem.Calls PyProof.Rows
set_option Elab.async false
set_option maxRecDepth 100000
set_option maxHeartbeats 8000000
set_option linter.unusedVariables false
set_option pp.deepTerms false
set_option pp.deepTerms.threshold 7
set_option pp.proofs false
set_option pp.maxSteps 3000
theorem qLoopE {w : World} {p : Program} {loose : List Str} {mean : ExcName → Option Value} {mg mb : Str → Option Value} 
   {dp un : Nat} {gd : Option (List Code)} {outer : List Env} {A₀ : Around} {base h₀ : Heap} {L : Addr} {s : Shared} {Q : Flow → Shared → Prop} {E : Value → Shared → Prop}
   {vs : List Value} {ns : List Int} {n : Int} {tr tl tm tn : Tok} {res D e : Nat} {meth : Str}
   (B : Below A₀ base outer h₀) (X : (Mine.hd.heap_39 w.params).In h₀) (T : Top p loose mean mg mb h₀)
   (hC : CodeHd base 100 96) (hd : dp + 22 < recursionLimit) (hu : un + 130 < cLine) (hi : IntsAre vs ns) (hz : ns.length < 64) (hz2 : 2 ≤ ns.length) (hn : 2 ≤ n) (hn7 : n ≤ 7) (hb : ∀ i, (ns.getD i 0).natAbs ≤ 10000) (hrD : Apart res D)
   (F : Fr h₀ L s.heap (qMap none none none none (ns.length + 1) ns.length tr tl res D meth tm n tn)) (N : News h₀ L s.heap [(res, W.listOf #[] 0), (D, W.listOf vs.toArray e)])
   (hend : ∀ h tk mi mj md mt fs c, Fr h₀ L h (qMap mi mj md mt (ns.length + 1) ns.length tr tl res D meth tm n tn) → News h₀ L h [(res, W.listOf fs c), (D, W.listOf vs.toArray e)] → Cuts fs (numE ns n) n n → Q .next { s with heap := h, toks := tk }) :
    wpAny (model PP w) (qTop dp un gd L outer) (exec qForE (qEnv L)) Q E s := by
  have hfill : (PySem.Challenge.rw_re0024_01, Mine.hd.heap_39) = (PySem.Challenge.rw_re0024_01, Mine.hd.heap_39) := by k_fill; rfl
  clear hfill
  w_on
  conv in qForE => whnf
  refine For_range (h₀ := h₀) (L := L) (a := 1) (b := n) (fun k m news => ∃ mi mj md mt fs c, (∀ y, m y = qMap mi mj md mt (ns.length + 1) ns.length tr tl res D meth tm n tn y) ∧ news = [(res, W.listOf fs c), (D, W.listOf vs.toArray e)] ∧ Cuts fs (numE ns n) n k) rfl rfl (by omega) rfl rfl ?_ ?_ ?_
  · k_steps
    exact RgSrc.intro (by assumption) (by omega) (by omega) (by omega) (by assumption) (by assumption) ⟨none, none, none, none, #[], 0, fun _ => rfl, rfl, Cuts.nil⟩
  · rintro it o k t m news h tk h1 h2 ⟨mi, mj, md, mt, fs, c, hm, rfl, hc⟩ hoff F1 N1
    have F2 := Fr.congr F1 (m' := fun y => if y = Str.ofString "i" then some (.int k t) else qMap mi mj md mt (ns.length + 1) ns.length tr tl res D meth tm n tn y) (fun y => by simp only [hm])
    clear F1 F N
    simp only [List.cons_append, List.nil_append] at N1
    have hoff1 : Apart res it := hoff (res, _) (.head _)
    have hoff2 : Apart D it := hoff (D, _) (.tail _ (.head _))
    obtain ⟨f1, f2, f3, f4, f5⟩ := frac_facts (m := (ns.length : Int) + 1) h1 h2 (by omega)
    have p1 : k * (ns.length + 1) ≤ 500 := Int.le_trans (Int.mul_le_mul (show k ≤ 6 by omega) (show (ns.length : Int) + 1 ≤ 64 by omega) (by omega) (by omega)) (by decide)
    have p1' : 0 ≤ k * (ns.length + 1) := Int.mul_nonneg (by omega) (by omega)
    have p2 : ((ns.length : Int) - 1) * n ≤ 500 := Int.le_trans (Int.mul_le_mul (show (ns.length : Int) - 1 ≤ 62 by omega) (show n ≤ 7 by omega) (by omega) (by omega)) (by decide)
    have p2' : 0 ≤ ((ns.length : Int) - 1) * n := Int.mul_nonneg (by omega) (by omega)
    have p3 : (k * (ns.length + 1)).fdiv n * n ≤ 500 := by rw [Int.mul_comm]; omega
    have p3' : 0 ≤ (k * (ns.length + 1)).fdiv n * n := Int.mul_nonneg f1 (by omega)
    have g1 : ∀ i, Sm (ns.getD i 0) := fun i => Nat.lt_of_le_of_lt (hb i) (by decide)
    have hfs := hc.1
    k_steps
    · with_reducible rename News h₀ L _ _ => N2
      with_reducible rename Fr h₀ L _ _ => F3
      have hA : (k * ((ns.length : Int) + 1)).fdiv n < 1 := by assumption
      exact RgEnd.intro [(res, W.listOf _ _), (D, W.listOf vs.toArray e)] F3 N2 (List.forall_mem_cons.mpr ⟨hoff1, List.forall_mem_cons.mpr ⟨hoff2, List.forall_mem_nil _⟩⟩) ⟨_, _, _, _, _, _, q_map5, rfl, hc.push _ (by simp only [numE, clip, if_pos hA])⟩
    · with_reducible rename News h₀ L _ _ => N2
      with_reducible rename Fr h₀ L _ _ => F3
      have hA : ¬ (k * ((ns.length : Int) + 1)).fdiv n < 1 := by assumption
      have hB : (ns.length : Int) - 1 < (k * ((ns.length : Int) + 1)).fdiv n := by assumption
      exact RgEnd.intro [(res, W.listOf _ _), (D, W.listOf vs.toArray e)] F3 N2 (List.forall_mem_cons.mpr ⟨hoff1, List.forall_mem_cons.mpr ⟨hoff2, List.forall_mem_nil _⟩⟩) ⟨_, _, _, _, _, _, q_map5, rfl, hc.push _ (by simp only [numE, clip, if_neg hA, gt_iff_lt, if_pos hB])⟩
    · with_reducible rename News h₀ L _ _ => N2
      with_reducible rename Fr h₀ L _ _ => F3
      have hA : ¬ (k * ((ns.length : Int) + 1)).fdiv n < 1 := by assumption
      have hB : ¬ (ns.length : Int) - 1 < (k * ((ns.length : Int) + 1)).fdiv n := by assumption
      exact RgEnd.intro [(res, W.listOf _ _), (D, W.listOf vs.toArray e)] F3 N2 (List.forall_mem_cons.mpr ⟨hoff1, List.forall_mem_cons.mpr ⟨hoff2, List.forall_mem_nil _⟩⟩) ⟨_, _, _, _, _, _, q_map5, rfl, hc.push _ (by simp only [numE, clip, if_neg hA, gt_iff_lt, if_neg hB])⟩
  · rintro m news h tk ⟨mi, mj, md, mt, fs, c, hm, rfl, hc⟩ F1 N1
    exact hend _ _ mi mj md mt fs c (Fr.congr F1 hm) N1 hc
end
section
set_option compiler.extract_closed false
open PySem PySem.W PySem.Calls PyProof.Rows
set_option Elab.async false
set_option maxRecDepth 100000
set_option maxHeartbeats 8000000
set_option linter.unusedVariables false
set_option pp.deepTerms false
set_option pp.deepTerms.threshold 7
set_option pp.proofs false
set_option pp.maxSteps 3000
theorem q_map0 {h₀ h : Heap} {L : Addr} {r ld' : Int} {tr tl : Tok} {res D d : Nat} {meth : Str} {tm : Tok} {n : Int} {tn : Tok} (F : Fr h₀ L h (fun y => if y = Str.ofString "result" then some (.ref res) else if y = Str.ofString "m" then some (.int r tr) else if y = Str.ofString "ld" then some (.int ld' tl) else if y = Str.ofString "data" then some (.ref D) else List.lookup y [(Str.ofString "method", Value.str meth tm), (Str.ofString "n", Value.int n tn), (Str.ofString "data", Value.ref d)])) :
    Fr h₀ L h (qMap none none none none r ld' tr tl res D meth tm n tn) := Fr.congr F (fun y => by
  unfold qMap
  by_cases a1 : y = Str.ofString "interpolated"
  · subst a1; rfl
  by_cases a2 : y = Str.ofString "delta"
  · subst a2; rfl
  by_cases a3 : y = Str.ofString "j"
  · subst a3; rfl
  by_cases a4 : y = Str.ofString "i"
  · subst a4; rfl
  by_cases h1 : y = Str.ofString "result"
  · subst h1; rfl
  by_cases h2 : y = Str.ofString "m"
  · subst h2; rfl
  by_cases h3 : y = Str.ofString "ld"
  · subst h3; rfl
  by_cases h4 : y = Str.ofString "data"
  · subst h4; rfl
  by_cases h5 : y = Str.ofString "method"
  · subst h5; rfl
  by_cases h6 : y = Str.ofString "n"
  · subst h6; rfl
  simp only [if_neg a1, if_neg a2, if_neg a3, if_neg a4, if_neg h1, if_neg h2, if_neg h3, if_neg h4, if_neg h5, if_neg h6]
  rw [List.lookup_cons, beq_false_of_ne h5]
  simp only
  rw [List.lookup_cons, beq_false_of_ne h6]
  simp only
  rw [List.lookup_cons, beq_false_of_ne h4]
  rfl)
theorem perm_bound {ns' ns : List Int} (hp9 : ns'.Perm ns) (hb : ∀ x ∈ ns, x.natAbs ≤ 10000) : ∀ i, (ns'.getD i 0).natAbs ≤ 10000 := by
  intro i
  rw [List.getD_eq_getElem?_getD]
  rcases Nat.lt_or_ge i ns'.length with h | h
  · rw [List.getElem?_eq_getElem h]
    exact hb _ (hp9.mem_iff.mp (List.getElem_mem h))
  · rw [List.getElem?_eq_none h]; decide
theorem quant_inc {w : World} {p : Program} {loose : List Str} {mean : ExcName → Option Value} {mg mb : Str → Option Value} 
   {dp un : Nat} {gd : Option (List Code)} {cn : Str} {cs : Scope} {a : Addr} {ccd : Value} {cl : List (Str × Addr)} {outer : List Env} {A₀ : Around} {base h₀ : Heap} {L : Addr} {m : Str → Option Value} {s : Shared} {R : Result → Shared → Prop}
   {d : Addr} {vs : List Value} {ns : List Int} {n : Int} {tn tm : Tok} {rest : List (Addr × Obj)}
   (B : Below A₀ base outer h₀) (F : Fr h₀ L s.heap m) (X : (Mine.hd.heap_39 w.params).In h₀) (N : News h₀ L s.heap rest) (T : Top p loose mean mg mb h₀) (hk : cs.kind = .function)
   (hb : ∀ x ∈ ns, x.natAbs ≤ 10000) (hC : CodeHd base 100 96) (hd : dp + 30 < recursionLimit) (hu : un + 150 < cLine) (hl : s.heap.IsList d vs.toArray) (hi : IntsAre vs ns) (hz : vs.length < 64) (hz2 : 2 ≤ ns.length) (hn : 2 ≤ n) (hn7 : n ≤ 7)
   (hR : ∀ h' tk' res fs c, ∀ ns' : List Int, Fr h₀ L h' m → News h₀ L h' ((res, W.listOf fs c) :: rest) → ns'.Perm ns → ns'.Pairwise (· ≤ ·) → Cuts fs (numI ns' n) n n → R (.ok (.ret (.ref res))) { s with heap := h', toks := tk' }) :
    codeAny (model PP w) (ktrTop dp un gd cn cs L a ccd cl outer) (.call (.ref 84) ⟨[.ref d], [("n", .int n tn), ("method", .str "inclusive" tm)]⟩) R s := by
  have hfill : (PySem.Challenge.rw_re0024_01, Mine.hd.heap_39) = (PySem.Challenge.rw_re0024_01, Mine.hd.heap_39) := by k_fill; rfl
  clear hfill
  w_on
  have hsep : ∀ p ∈ rest, p.1 ∉ ([] : List (Addr × Obj)).map (·.1) := fun _ _ h => nomatch h
  have N0 : News h₀ L s.heap ([] ++ rest) := N
  k_dflt (walk_at "m enterR")
  with_reducible rename (∀ (b : Addr) (o : Obj), b ∉ _ → _ → _) => lG
  have hlv := hi.length
  have hl2 := hl.at fun o e => lG d o (fun h => nomatch h) e
  refine wpAny_noRaise ?_
  repeat' ((fail_if_success (with_reducible show wpAny _ _ (exec (Stmt.For _ _ _ _ _) _) _ _ _)); (first | (k_unfold; (try dsimp only)) | (k_end; wrow_close) | walk1 | (dsimp only; walk1) | (leave1; walk_say "STEP leave1"; try dsimp only) | fail "no step"))
  with_reducible rename News _ _ _ [_, _] => N1
  with_reducible rename Fr _ _ _ (fun y => if y = Str.ofString "result" then _ else _) => F1
  with_reducible rename (_ < _) => l1
  with_reducible rename List.Perm _ ns => hp9
  with_reducible rename List.Pairwise _ _ => hw9
  with_reducible rename IntsAre _ _ => hi9
  have hle9 := hp9.length_eq
  have hb9 := perm_bound hp9 hb
  show wpAny _ _ (exec qForI (qEnv _)) _ _ _
  refine qLoopI (dp := dp + 1) (un := un + 3) (n := n) (by k_asm) (by k_asm) (by k_asm) hC (by omega) (by omega) hi9 (by omega) (by omega) hn hn7 hb9 (Nat.ne_of_gt l1) (q_map0 F1) N1 ?_
  clear F1 N1
  intro h3 tk3 mi mj md mt fs c F1 N1 hc
  dsimp only
  k_steps
  with_reducible rename Fr h₀ L _ _ => kF
  with_reducible rename News h₀ L _ _ => kN
  intro NR _
  exact hR _ _ _ _ _ _ kF (fun p hp => by
    rcases List.mem_cons.mp hp with rfl | hp
    · exact kN _ (.head _)
    · exact NR p hp) hp9 hw9 hc
end
section
set_option compiler.extract_closed false
open PySem PySem.W PySem.Calls PyProof.Rows
set_option Elab.async false
set_option maxRecDepth 100000
set_option maxHeartbeats 8000000
set_option linter.unusedVariables false
set_option pp.deepTerms false
set_option pp.deepTerms.threshold 7
set_option pp.proofs false
set_option pp.maxSteps 3000
theorem quant_exc {w : World} {p : Program} {loose : List Str} {mean : ExcName → Option Value} {mg mb : Str → Option Value} 
   {dp un : Nat} {gd : Option (List Code)} {cn : Str} {cs : Scope} {a : Addr} {ccd : Value} {cl : List (Str × Addr)} {outer : List Env} {A₀ : Around} {base h₀ : Heap} {L : Addr} {m : Str → Option Value} {s : Shared} {R : Result → Shared → Prop}
   {d : Addr} {vs : List Value} {ns : List Int} {n : Int} {tn : Tok} {rest : List (Addr × Obj)}
   (B : Below A₀ base outer h₀) (F : Fr h₀ L s.heap m) (X : (Mine.hd.heap_39 w.params).In h₀) (N : News h₀ L s.heap rest) (T : Top p loose mean mg mb h₀) (hk : cs.kind = .function)
   (hb : ∀ x ∈ ns, x.natAbs ≤ 10000) (hC : CodeHd base 100 96) (hd : dp + 30 < recursionLimit) (hu : un + 150 < cLine) (hl : s.heap.IsList d vs.toArray) (hi : IntsAre vs ns) (hz : vs.length < 64) (hz2 : 2 ≤ ns.length) (hn : 2 ≤ n) (hn7 : n ≤ 7)
   (hR : ∀ h' tk' res fs c, ∀ ns' : List Int, Fr h₀ L h' m → News h₀ L h' ((res, W.listOf fs c) :: rest) → ns'.Perm ns → ns'.Pairwise (· ≤ ·) → Cuts fs (numE ns' n) n n → R (.ok (.ret (.ref res))) { s with heap := h', toks := tk' }) :
    codeAny (model PP w) (ktrTop dp un gd cn cs L a ccd cl outer) (.call (.ref 84) ⟨[.ref d], [("n", .int n tn)] ⟩) R s := by
  have hfill : (PySem.Challenge.rw_re0024_01, Mine.hd.heap_39) = (PySem.Challenge.rw_re0024_01, Mine.hd.heap_39) := by k_fill; rfl
  clear hfill
  w_on
  have hsep : ∀ p ∈ rest, p.1 ∉ ([] : List (Addr × Obj)).map (·.1) := fun _ _ h => nomatch h
  have N0 : News h₀ L s.heap ([] ++ rest) := N
  k_dflt (walk_at "m enterR")
  with_reducible rename (∀ (b : Addr) (o : Obj), b ∉ _ → _ → _) => lG
  have hlv := hi.length
  have hl2 := hl.at fun o e => lG d o (fun h => nomatch h) e
  refine wpAny_noRaise ?_
  repeat' ((fail_if_success (with_reducible show wpAny _ _ (exec (Stmt.For _ _ _ _ _) _) _ _ _)); (first | (k_unfold; (try dsimp only)) | (k_end; wrow_close) | walk1 | (dsimp only; walk1) | (leave1; walk_say "STEP leave1"; try dsimp only) | fail "no step"))
  with_reducible rename News _ _ _ [_, _] => N1
  with_reducible rename Fr _ _ _ (fun y => if y = Str.ofString "result" then _ else _) => F1
  with_reducible rename (_ < _) => l1
  with_reducible rename List.Perm _ ns => hp9
  with_reducible rename List.Pairwise _ _ => hw9
  with_reducible rename IntsAre _ _ => hi9
  have hle9 := hp9.length_eq
  have hb9 := perm_bound hp9 hb
  show wpAny _ _ (exec qForE (qEnv _)) _ _ _
  refine qLoopE (dp := dp + 1) (un := un + 3) (n := n) (by k_asm) (by k_asm) (by k_asm) hC (by omega) (by omega) hi9 (by omega) (by omega) hn hn7 hb9 (Nat.ne_of_gt l1) (q_map0 F1) N1 ?_
  clear F1 N1
  intro h3 tk3 mi mj md mt fs c F1 N1 hc
  dsimp only
  k_steps
  with_reducible rename Fr h₀ L _ _ => kF
  with_reducible rename News h₀ L _ _ => kN
  intro NR _
  exact hR _ _ _ _ _ _ kF (fun p hp => by
    rcases List.mem_cons.mp hp with rfl | hp
    · exact kN _ (.head _)
    · exact NR p hp) hp9 hw9 hc
end
end
end
section
set_option compiler.extract_closed false
open PySem PySem.W PySem.Calls PyProof.Rows
set_option Elab.async false
set_option maxRecDepth 100000
/-! `_law_words`: the plain part of its first loop -/
noncomputable def whileBody : Stmt → List Stmt
  | .While _ b .. => b
  | _ => []
noncomputable def lwDef : Stmt := nth PP.main.body 8
noncomputable def lwScope : Scope := scopeOf lwDef
noncomputable def lwS : Stmt := nth (bodyOf lwDef) 2
noncomputable def lwL : Stmt := nth (bodyOf lwDef) 7
noncomputable abbrev lwTop (dp un : Nat) (gd : Option (List Code)) (L : Addr) (outer : List Env) : Around := ktrTop dp un gd (Str.ofString "_law_words") lwScope L 94 (.ref 93) [] outer
noncomputable abbrev lwEnv (L : Addr) : Env := envX (Str.ofString "_law_words") lwScope L 94 (.ref 93) []
/-- one sign: bare or escaped, the sign, the place behind it -/
structure Sg where
  bare : Bool
  sign : Str
  fin : Int
noncomputable def sgn : Int → List Nat → List Sg
  | _, [] => []
  | k, c :: r => if c = 92 then (match r with | [] => [⟨false, ⟨#[]⟩, k + 2⟩] | d :: r' => ⟨false, ⟨#[d]⟩, k + 2⟩ :: sgn (k + 2) r') else ⟨true, ⟨#[c]⟩, k + 1⟩ :: sgn (k + 1) r
/-- the tuples of the signs, as they stand on the ledger -/
inductive SgObjs : List Value → List (Addr × Obj) → List Sg → Prop where
  | nil : SgObjs [] [] []
  | cons (a : Addr) (t1 t2 : Tok) (g : Sg) {vs os gs} : SgObjs vs os gs → SgObjs (.ref a :: vs) ((a, tupOf [.bool g.bare, .str g.sign t1, .int g.fin t2]) :: os) (g :: gs)
theorem SgObjs.snoc {a : Addr} {t1 t2 : Tok} {g : Sg} : ∀ {vs os gs}, SgObjs vs os gs → SgObjs (vs ++ [.ref a]) (os ++ [(a, tupOf [.bool g.bare, .str g.sign t1, .int g.fin t2])]) (gs ++ [g])
  | _, _, _, .nil => .cons a t1 t2 g .nil
  | _, _, _, .cons b u1 u2 g' r => .cons b u1 u2 g' r.snoc
noncomputable abbrev lwMap (mb : Option Value) (k : Int) (t : Tok) (sg : Nat) (text : Str) (tt : Tok) : Str → Option Value := fun y =>
  if y = Str.ofString "bare" then mb else if y = Str.ofString "at" then some (.int k t) else if y = Str.ofString "signs" then some (.ref sg) else if y = Str.ofString "text" then some (.str text tt) else none
theorem sg_reorder {h₀ h : Heap} {L : Addr} {a t : Addr × Obj} {os : List (Addr × Obj)} (N : News h₀ L h (t :: a :: os)) : News h₀ L h (a :: (os ++ [t])) := fun p hp => N p (by
  rcases List.mem_cons.mp hp with rfl | hp
  · exact .tail _ (.head _)
  · rcases List.mem_append.mp hp with hp | hp
    · exact .tail _ (.tail _ hp)
    · rw [List.mem_singleton.mp hp]; exact .head _)
theorem rem_item {text : Str} {k : Int} (h0 : 0 ≤ k) (hk : k < (text.length : Int)) : ∃ c, rem text k = c :: rem text (k + 1) ∧ Txt.slice text (some k) (some (k + 1)) = ⟨#[c]⟩ ∧ Txt.item text k = ⟨#[c]⟩ := by
  obtain ⟨c, h1, h2⟩ := rem_cons h0 hk
  refine ⟨c, h1, h2, ?_⟩
  rw [item_meets ⟨h0, hk⟩]
  have hl := len_list text
  have hlt : k.toNat < text.cps.toList.length := by omega
  unfold rem at h1
  rw [List.drop_eq_getElem_cons hlt] at h1
  have := (List.cons.inj h1).1
  rw [← this, Array.getD_eq_getD_getElem?]
  simp at hlt ⊢
  simp [hlt]
theorem sgn_nil {k : Int} : sgn k [] = [] := by rw [sgn]
theorem sgn_bare {k : Int} {c : Nat} {r : List Nat} (h : c ≠ 92) : sgn k (c :: r) = ⟨true, ⟨#[c]⟩, k + 1⟩ :: sgn (k + 1) r := by rw [sgn.eq_def]; simp [h]
theorem sgn_esc {text : Str} {k : Int} (h0 : 0 ≤ k) : sgn k (92 :: rem text (k + 1)) = ⟨false, Txt.slice text (some (k + 1)) (some (k + 1 + 1)), k + 1 + 1⟩ :: sgn (k + 1 + 1) (rem text (k + 1 + 1)) := by
  rw [sgn.eq_def]
  simp only [if_true]
  rcases Int.lt_or_le (k + 1) text.length with h | h
  · obtain ⟨c, hc, hs⟩ := rem_cons (text := text) (k := k + 1) (by omega) h
    rw [hc, hs]
    simp only [show k + 2 = k + 1 + 1 from by omega]
  · rw [slice_end (by omega) h, rem_nil h, rem_nil (by omega), sgn_nil]
    simp only [show k + 2 = k + 1 + 1 from by omega]
    rfl
end
section
set_option compiler.extract_closed false
open PySem PySem.W PySem.Calls PyProof.Rows
set_option Elab.async false
set_option maxRecDepth 100000
set_option maxHeartbeats 8000000
set_option linter.unusedVariables false
set_option pp.deepTerms false
set_option pp.deepTerms.threshold 7
set_option pp.proofs false
set_option pp.maxSteps 3000
structure SgI (text : Str) (tt : Tok) (sg : Nat) (h₀ : Heap) (L : Addr) (s₀ : Shared) (n : Nat) (s : Shared) : Prop where
  ex : ∃ h tk k t mb its n1 os, ∃ pre : List Sg, s = { s₀ with heap := h, toks := tk } ∧ Fr h₀ L h (lwMap mb k t sg text tt) ∧ News h₀ L h ((sg, W.listOf its n1) :: os) ∧ SgObjs its.toList os pre ∧ (∀ p ∈ os, p.1 ≠ sg) ∧
    0 ≤ k ∧ k ≤ text.length + 1 ∧ (its.size : Int) ≤ k ∧ pre ++ sgn k (rem text k) = sgn 0 text.cps.toList ∧ n = (text.length + 2 - k).toNat
theorem sg_turn {text : Str} {tt : Tok} {sg : Nat} {h₀ h : Heap} {L : Addr} {s₀ : Shared} {n tk n1 : Nat} {k : Int} {t : Tok} {mb : Option Value} {its : Array Value} {os : List (Addr × Obj)} {pre : List Sg} {m : Str → Option Value}
   (F : Fr h₀ L h m) (em : ∀ y, m y = lwMap mb k t sg text tt y) (N : News h₀ L h ((sg, W.listOf its n1) :: os)) (hS : SgObjs its.toList os pre) (hne : ∀ p ∈ os, p.1 ≠ sg) (h0 : 0 ≤ k) (h1 : k ≤ text.length + 1) (h2 : (its.size : Int) ≤ k)
   (h3 : pre ++ sgn k (rem text k) = sgn 0 text.cps.toList) (h5 : (text.length + 2 - k).toNat < n) : LessI (SgI text tt sg h₀ L s₀) n { s₀ with heap := h, toks := tk } :=
  ⟨_, h5, ⟨h, tk, k, t, mb, its, n1, os, pre, rfl, Fr.congr F em, N, hS, hne, h0, h1, h2, h3, rfl⟩⟩
theorem sg_ne {os : List (Addr × Obj)} {sg D : Nat} {o : Obj} (hne : ∀ p ∈ os, p.1 ≠ sg) (h : sg < D) : ∀ p ∈ os ++ [(D, o)], p.1 ≠ sg := fun q hq => by
  rcases List.mem_append.mp hq with hq | hq
  · exact hne q hq
  · rw [List.mem_singleton.mp hq]; exact Nat.ne_of_gt h
theorem map_bare {k k' : Int} {t t' : Tok} {sg : Nat} {text : Str} {tt : Tok} {v mb : Option Value} (y : Str) : (if y = Str.ofString "at" then some (.int k' t') else if y = Str.ofString "bare" then v else lwMap mb k t sg text tt y) = lwMap v k' t' sg text tt y := by
  simp only [lwMap]
  by_cases h1 : y = Str.ofString "bare"
  · subst h1; rfl
  · by_cases h2 : y = Str.ofString "at"
    · subst h2; simp [h1]
    · simp [h1, h2]
theorem map_at {k k' : Int} {t t' : Tok} {sg : Nat} {text : Str} {tt : Tok} {mb : Option Value} (y : Str) : (if y = Str.ofString "at" then some (.int k' t') else lwMap mb k t sg text tt y) = lwMap mb k' t' sg text tt y := by
  simp only [lwMap]
  by_cases h1 : y = Str.ofString "bare"
  · subst h1; rfl
  · by_cases h2 : y = Str.ofString "at"
    · subst h2; simp [h1]
    · simp [h1, h2]
theorem loopS {w : World} {p : Program} {loose : List Str} {mean : ExcName → Option Value} {mg mb : Str → Option Value} 
   {dp un : Nat} {gd : Option (List Code)} {outer : List Env} {A₀ : Around} {base h₀ : Heap} {L : Addr} {s : Shared} {Q : Flow → Shared → Prop} {E : Value → Shared → Prop}
   {text : Str} {tt : Tok} {sg n : Nat}
   (B : Below A₀ base outer h₀) (X : (Mine.hd.heap_39 w.params).In h₀) (T : Top p loose mean mg mb h₀)
   (hC : CodeHd base 100 96) (hd : dp + 22 < recursionLimit) (hu : un + 130 < cLine) (htx : text.length ≤ 1000)
   (hI : SgI text tt sg h₀ L s n s)
   (hend : ∀ h tk k t mb its n1 os, Fr h₀ L h (lwMap mb k t sg text tt) → News h₀ L h ((sg, W.listOf its n1) :: os) → SgObjs its.toList os (sgn 0 text.cps.toList) → (∀ p ∈ os, p.1 ≠ sg) → its.size ≤ 1001 → Q .next { s with heap := h, toks := tk }) :
    wpAny (model PP w) (lwTop dp un gd L outer) (exec lwS (lwEnv L)) Q E s := by
  have hfill : (PySem.Challenge.rw_re0024_01, Mine.hd.heap_39) = (PySem.Challenge.rw_re0024_01, Mine.hd.heap_39) := by k_fill; rfl
  clear hfill
  w_on
  conv in lwS => whnf
  refine While_any (SgI text tt sg h₀ L s) hI ?_
  clear hI n
  rintro n s' ⟨h, tk, k, t, mb, its, n1, os, pre, rfl, F, N, hS, hne, h0, h1, h2, h3, h4⟩
  k_steps
  · obtain ⟨c, hc, hsl, hit⟩ := rem_item h0 (by assumption : k < text.length)
    with_reducible rename News h₀ L _ _ => N1
    with_reducible rename Fr h₀ L _ _ => F1
    have hb : (Txt.item text k != Str.ofString "\\") = true := by assumption
    rw [hb, hsl] at N1
    have hcc : c ≠ 92 := by
      rintro rfl
      rw [hit, ← back_sign] at hb
      simp at hb
    with_reducible rename (_ ∧ AllLt _ _) => l1
    exact sg_turn F1 map_bare (sg_reorder N1) (by rw [Array.toList_push]; exact hS.snoc (g := ⟨true, ⟨#[c]⟩, k + 1⟩)) (sg_ne hne l1.1) (by omega) (by omega) (by rw [Array.size_push]; omega) (by rw [← h3, hc, sgn_bare hcc]; simp) (by omega)
  · obtain ⟨c, hc, hsl, hit⟩ := rem_item h0 (by assumption : k < text.length)
    with_reducible rename News h₀ L _ _ => N1
    with_reducible rename Fr h₀ L _ _ => F1
    have hb : (Txt.item text k != Str.ofString "\\") = false := by assumption
    rw [hb] at N1
    have hcc : c = 92 := by
      rw [hit, bne_eq_false_iff_eq, back_sign] at hb
      injection hb with hb; injection hb with hb; injection hb
    subst hcc
    with_reducible rename (_ ∧ AllLt _ _) => l1
    exact sg_turn F1 (fun y => (ite_congr_else (map_bare y)).trans (map_at y)) (sg_reorder N1) (by rw [Array.toList_push]; exact hS.snoc (g := ⟨false, Txt.slice text (some (k + 1)) (some (k + 1 + 1)), k + 1 + 1⟩)) (sg_ne hne l1.1) (by omega) (by omega) (by rw [Array.size_push]; omega) (by rw [← h3, hc, sgn_esc h0]; simp) (by omega)
  · have hk : ¬ k < text.length := by assumption
    rw [rem_nil (by omega), sgn_nil, List.append_nil] at h3
    refine hend _ _ k t mb its n1 os (by assumption) (by assumption) (h3 ▸ hS) hne (by omega)
end
section
set_option compiler.extract_closed false
open PySem PySem.W PySem.Calls PyProof.Rows
set_option Elab.async false
set_option maxRecDepth 100000
set_option maxHeartbeats 8000000
set_option linter.unusedVariables false
set_option pp.deepTerms false
set_option pp.deepTerms.threshold 7
set_option pp.proofs false
set_option pp.maxSteps 3000
section
variable {prog : Program} {w : World} {A : Around} {E : Value → Shared → Prop} {s : Shared} {h₀ : Heap} {L D : Addr} {m : Str → Option Value} {news : List (Addr × Obj)} {its : Array Value} {v : Value} {n : Nat} {t : Tok} {k : Int}
theorem item_get {Q : Value → Shared → Prop} (N : News h₀ L s.heap news) (hm : (D, W.listOf its n) ∈ news) (h0 : 0 ≤ k) (hs : its.size ≤ 1100) (h : its[k.toNat]? = some v) (hq : Q v s) : wpAny (model prog w) A (getItem (.ref D) (.int k t)) Q E s := by
  have hlt : k.toNat < its.size := by
    rcases Nat.lt_or_ge k.toNat its.size with h1 | h1
    · exact h1
    · rw [Array.getElem?_eq_none h1] at h; cases h
  exact wpAny_getItem_list (PySem.IsL.isList (n := n) (N _ hm).1) h0 (by omega) h hq
theorem item_sub {value slice : PySem.Expr} {Q : Value → Shared → Prop} (N : News h₀ L s.heap news) (hm : (D, W.listOf its n) ∈ news) (h0 : 0 ≤ k) (hs : its.size ≤ 1100) (h : its[k.toNat]? = some v) (hq : Q v s)
    (hs' : subscripted slice false (.ref D) (.int k t) = operate [.ref D, .int k t] (getItem (.ref D) (.int k t)) := by with_unfolding_all rfl) : wpAny (model prog w) A (subscriptTail value slice (.ref D) (.int k t)) Q E s :=
  have hL := PySem.IsL.isList (n := n) (N _ hm).1
  tail_any hL.typeIs slot_list_getitem.lookup (item_get N hm h0 hs h hq) hs'
end
noncomputable def lwI : Stmt := nth (ifThen (nth (whileBody lwL) 1)) 3
/-- the names of the second loop -/
noncomputable abbrev lxMap (mb ms me mq mf mw ml : Option Value) (k : Int) (t : Tok) (wl el sg : Nat) (text : Str) (tt : Tok) : Str → Option Value := fun y =>
  if y = Str.ofString "word" then mw else if y = Str.ofString "first" then mf else if y = Str.ofString "quoted" then mq else
  if y = Str.ofString "end" then me else if y = Str.ofString "sign" then ms else if y = Str.ofString "last" then ml else if y = Str.ofString "ends" then some (.ref el) else
  if y = Str.ofString "words" then some (.ref wl) else lwMap mb k t sg text tt y
noncomputable def lwStop (q : Bool) (g : Sg) : Bool := g.bare && !(Builtin.Str.occurrences (if q then Str.ofString "\"" else Str.ofString " \t\x0d\n") g.sign 0 (if q then Str.ofString "\"" else Str.ofString " \t\x0d\n").length 1).isEmpty
theorem sgobj_at : ∀ {vs os gs} {i : Nat} {g : Sg}, SgObjs vs os gs → gs[i]? = some g → ∃ a t1 t2, vs[i]? = some (.ref a) ∧ (a, tupOf [.bool g.bare, .str g.sign t1, .int g.fin t2]) ∈ os
  | _, _, _, _, _, .nil, h => by simp at h
  | _, _, _, 0, _, .cons a t1 t2 g r, h => by simp at h; subst h; exact ⟨a, t1, t2, rfl, .head _⟩
  | _, _, _, i + 1, _, .cons a t1 t2 g r, h => by
    obtain ⟨a', u1, u2, h1, h2⟩ := sgobj_at r (by simpa using h)
    exact ⟨a', u1, u2, by simpa using h1, .tail _ h2⟩
theorem SgObjs.len : ∀ {vs os gs}, SgObjs vs os gs → vs.length = gs.length
  | _, _, _, .nil => rfl
  | _, _, _, .cons _ _ _ _ r => by simp [r.len]
theorem lx_at {mb ms me mq mf mw ml : Option Value} {k k' : Int} {t t' : Tok} {wl el sg : Nat} {text : Str} {tt : Tok} (y : Str) :
    (if y = Str.ofString "at" then some (.int k' t') else lxMap mb ms me mq mf mw ml k t wl el sg text tt y) = lxMap mb ms me mq mf mw ml k' t' wl el sg text tt y := by
  by_cases h : y = Str.ofString "at"
  · subst h; rfl
  · simp only [lxMap, lwMap, if_neg h]
structure SiI (S : List Sg) (q : Bool) (tq : Option Value) (m : Int → Tok → Str → Option Value) (news : List (Addr × Obj)) (f : Int) (h₀ : Heap) (L : Addr) (s₀ : Shared) (n : Nat) (s : Shared) : Prop where
  ex : ∃ h tk k t, s = { s₀ with heap := h, toks := tk } ∧ Fr h₀ L h (m k t) ∧ News h₀ L h news ∧
    f ≤ k ∧ k ≤ S.length ∧ (∀ j : Nat, f ≤ j → j < k → ∀ g, S[j]? = some g → lwStop q g = false) ∧ n = (S.length - k).toNat
theorem si_turn {S : List Sg} {q : Bool} {m : Int → Tok → Str → Option Value} {news news' : List (Addr × Obj)} {f : Int} {h₀ h : Heap} {L : Addr} {s₀ : Shared} {n tk : Nat} {k : Int} {t : Tok} {m' : Str → Option Value} {g : Sg}
   (F : Fr h₀ L h m') (em : ∀ y, m' y = m (k + 1) t y) (N : News h₀ L h news') (hn : ∀ p ∈ news, p ∈ news') (h0 : 0 ≤ k) (h1 : f ≤ k) (h2 : k < S.length) (h3 : ∀ j : Nat, f ≤ j → j < k → ∀ g, S[j]? = some g → lwStop q g = false) (hg : S[k.toNat]? = some g) (h4 : lwStop q g = false) (h5 : (S.length - k).toNat = n) :
   LessI (SiI S q none m news f h₀ L s₀) n { s₀ with heap := h, toks := tk } :=
  ⟨_, by omega, ⟨h, tk, k + 1, t, rfl, Fr.congr F em, fun p hp => N p (hn p hp), by omega, by omega, fun j a b g' hg' => by
    by_cases e : (j : Int) = k
    · have : j = k.toNat := by omega
      subst this
      rw [hg] at hg'; cases hg'; exact h4
    · exact h3 j a (by omega) g' hg', rfl⟩⟩
local macro_rules | `(tactic| walk_at "subscriptTail") => `(tactic| (k_here; (with_reducible show wpAny _ _ (subscriptTail _ _ (Value.ref _) (Value.int _ _)) _ _ _); k_dflt (refine' item_sub (by k_asm) (by k_mem) (by omega) (by assumption) (by assumption) ?_ (by with_unfolding_all rfl); k_whole)))
theorem loopI {w : World} {p : Program} {loose : List Str} {mean : ExcName → Option Value} {mg mb : Str → Option Value} 
   {dp un : Nat} {gd : Option (List Code)} {outer : List Env} {A₀ : Around} {base h₀ : Heap} {L : Addr} {s : Shared} {Q : Flow → Shared → Prop} {E : Value → Shared → Prop}
   {text : Str} {tt tf : Tok} {sg wl el n1 n2 n3 n : Nat} {its ws es : Array Value} {os : List (Addr × Obj)} {S : List Sg} {q : Bool} {b ms me mw ml : Option Value} {f : Int}
   (B : Below A₀ base outer h₀) (X : (Mine.hd.heap_39 w.params).In h₀) (T : Top p loose mean mg mb h₀)
   (hC : CodeHd base 100 96) (hd : dp + 22 < recursionLimit) (hu : un + 130 < cLine) (hf : 0 ≤ f) (hS : SgObjs its.toList os S) (hz : its.size ≤ 1100)
   (hI : SiI S q none (fun k t => lxMap b ms me (some (.bool q)) (some (.int f tf)) mw ml k t wl el sg text tt) ((sg, W.listOf its n1) :: (wl, W.listOf ws n2) :: (el, W.listOf es n3) :: os) f h₀ L s n s)
   (hend : ∀ h tk k t, Fr h₀ L h (lxMap b ms me (some (.bool q)) (some (.int f tf)) mw ml k t wl el sg text tt) → News h₀ L h ((sg, W.listOf its n1) :: (wl, W.listOf ws n2) :: (el, W.listOf es n3) :: os) → f ≤ k → k ≤ S.length →
     (∀ j : Nat, f ≤ j → j < k → ∀ g, S[j]? = some g → lwStop q g = false) → (∀ g, S[k.toNat]? = some g → lwStop q g = true) → Q .next { s with heap := h, toks := tk }) :
    wpAny (model PP w) (lwTop dp un gd L outer) (exec lwI (lwEnv L)) Q E s := by
  have hfill : (PySem.Challenge.rw_re0024_01, Mine.hd.heap_39) = (PySem.Challenge.rw_re0024_01, Mine.hd.heap_39) := by k_fill; rfl
  clear hfill
  w_on
  conv in lwI => whnf
  refine While_any (SiI S q none (fun k t => lxMap b ms me (some (.bool q)) (some (.int f tf)) mw ml k t wl el sg text tt) ((sg, W.listOf its n1) :: (wl, W.listOf ws n2) :: (el, W.listOf es n3) :: os) f h₀ L s) hI ?_
  clear hI n
  rintro n s' ⟨h, tk, k, t, rfl, F, N, h1, h2, h3, h4⟩
  have hlen : its.size = S.length := by rw [← hS.len]; simp
  by_cases hk : k < S.length
  · obtain ⟨g, hg⟩ : ∃ g, S[k.toNat]? = some g := ⟨S[k.toNat]'(by omega), by rw [List.getElem?_eq_getElem]⟩
    obtain ⟨a, u1, u2, ha, hm⟩ := sgobj_at hS hg
    have hit : its[k.toNat]? = some (.ref a) := by rw [← Array.getElem?_toList]; exact ha
    have N' : News h₀ L h ((a, tupOf [.bool g.bare, .str g.sign u1, .int g.fin u2]) :: (sg, W.listOf its n1) :: (wl, W.listOf ws n2) :: (el, W.listOf es n3) :: os) := fun p hp => by
      rcases List.mem_cons.mp hp with rfl | hp
      · exact N _ (.tail _ (.tail _ (.tail _ hm)))
      · exact N _ hp
    clear N
    have hk0 : 0 ≤ k := by omega
    have hsub : ∀ p ∈ (sg, W.listOf its n1) :: (wl, W.listOf ws n2) :: (el, W.listOf es n3) :: os, p ∈ (a, tupOf [.bool g.bare, .str g.sign u1, .int g.fin u2]) :: (sg, W.listOf its n1) :: (wl, W.listOf ws n2) :: (el, W.listOf es n3) :: os := fun p hp => .tail _ hp
    k_steps
    all_goals with_reducible rename News h₀ L _ _ => N1
    all_goals with_reducible rename Fr h₀ L _ _ => F1
    · exact si_turn F1 lx_at N1 hsub hk0 h1 hk h3 hg (by simp [lwStop, *]) h4.symm
    · exact hend _ _ k t F1 (fun p hp => N1 p (hsub p hp)) h1 h2 h3 (fun g' hg' => by rw [hg] at hg'; cases hg'; simp [lwStop, *])
    · exact si_turn F1 lx_at N1 hsub hk0 h1 hk h3 hg (by simp [lwStop, *]) h4.symm
    · exact hend _ _ k t F1 (fun p hp => N1 p (hsub p hp)) h1 h2 h3 (fun g' hg' => by rw [hg] at hg'; cases hg'; simp [lwStop, *])
    · exact si_turn F1 lx_at N1 hsub hk0 h1 hk h3 hg (by simp [lwStop, *]) h4.symm
  · k_steps
    exact hend _ _ k t F N h1 h2 h3 (fun g' hg' => by rw [List.getElem?_eq_none (by omega)] at hg'; cases hg')
end
section
set_option compiler.extract_closed false
open PySem PySem.W PySem.Calls PyProof.Rows
set_option Elab.async false
set_option maxRecDepth 100000
set_option maxHeartbeats 8000000
set_option linter.unusedVariables false
set_option pp.deepTerms false
set_option pp.deepTerms.threshold 7
set_option pp.proofs false
set_option pp.maxSteps 3000
theorem lx_word {mb ms me mq mf mw ml v : Option Value} {k : Int} {t : Tok} {wl el sg : Nat} {text : Str} {tt : Tok} (y : Str) :
    (if y = Str.ofString "word" then v else lxMap mb ms me mq mf mw ml k t wl el sg text tt y) = lxMap mb ms me mq mf v ml k t wl el sg text tt y := by
  by_cases h : y = Str.ofString "word"
  · subst h; rfl
  · simp only [lxMap, lwMap, if_neg h]
theorem pick_item {its : Array Value} {os : List (Addr × Obj)} {S : List Sg} {f k : Int} (hf : 0 ≤ f) (hfk : f ≤ k) (hk : k ≤ S.length) (hS : SgObjs its.toList os S) :
    (slicePick its (some f) (some k) none).size = (k - f).toNat ∧ ∀ (i : Nat) v, (slicePick its (some f) (some k) none)[i]? = some v → ∃ a t1 t2, ∃ g : Sg, v = .ref a ∧ (a, tupOf [.bool g.bare, .str g.sign t1, .int g.fin t2]) ∈ os ∧ ((S.drop f.toNat).take (k - f).toNat)[i]? = some g := by
  have hlen : its.size = S.length := by rw [← hS.len]; simp
  have e := slicePick_run its f.toNat k.toNat (by rw [hlen]; exact tnE hk) (Int.toNat_le_toNat hfk)
  rw [Int.toNat_of_nonneg hf, Int.toNat_of_nonneg (Int.le_trans hf hfk)] at e
  rw [e, ← tnB hf hfk]
  refine ⟨by simp; rw [tnB hf hfk, hlen]; exact Nat.min_eq_left (Nat.sub_le_sub_right (tnE hk) _), fun i v hv => ?_⟩
  have hi : i < (k - f).toNat := by
    rcases Nat.lt_or_ge i (k - f).toNat with h | h
    · exact h
    · rw [Array.getElem?_eq_none (by simp; omega)] at hv; cases hv
  rw [List.getElem?_toArray, List.getElem?_take_of_lt hi, List.getElem?_drop] at hv
  rw [List.getElem?_take_of_lt hi, List.getElem?_drop]
  obtain ⟨g, hg⟩ : ∃ g, S[f.toNat + i]? = some g := ⟨S[f.toNat + i]'(by omega), by rw [List.getElem?_eq_getElem]⟩
  obtain ⟨a, t1, t2, h1, h2⟩ := sgobj_at hS hg
  rw [h1] at hv
  exact ⟨a, t1, t2, g, (Option.some.inj hv).symm, h2, hg⟩
noncomputable def lwJ : Stmt := nth (ifThen (nth (whileBody lwL) 1)) 4
/-- the joining of one word -/
theorem lwJoin {w : World} {p : Program} {loose : List Str} {mean : ExcName → Option Value} {mg mb : Str → Option Value} 
   {dp un : Nat} {gd : Option (List Code)} {outer : List Env} {A₀ : Around} {base h₀ : Heap} {L : Addr} {s : Shared} {Q : Flow → Shared → Prop} {E : Value → Shared → Prop}
   {text : Str} {tt tf t : Tok} {sg wl el n1 n2 n3 : Nat} {its ws es : Array Value} {os : List (Addr × Obj)} {S : List Sg} {b ms me mw ml mq : Option Value} {f k : Int}
   (B : Below A₀ base outer h₀) (X : (Mine.hd.heap_39 w.params).In h₀) (T : Top p loose mean mg mb h₀)
   (hC : CodeHd base 100 96) (hd : dp + 22 < recursionLimit) (hu : un + 130 < cLine) (hf : 0 ≤ f) (hfk : f ≤ k) (hk : k ≤ S.length) (hS : SgObjs its.toList os S) (hz : its.size ≤ 1100) (hS1 : ∀ g ∈ S, g.sign.length ≤ 1)
   (F : Fr h₀ L s.heap (lxMap b ms me mq (some (.int f tf)) mw ml k t wl el sg text tt)) (N : News h₀ L s.heap ((sg, W.listOf its n1) :: (wl, W.listOf ws n2) :: (el, W.listOf es n3) :: os))
   (hend : ∀ h tk t', Fr h₀ L h (lxMap b ms me mq (some (.int f tf)) (some (.str (Txt.join (Str.ofString "") (((S.drop f.toNat).take (k - f).toNat).map (·.sign))) t')) ml k t wl el sg text tt) →
     News h₀ L h ((sg, W.listOf its n1) :: (wl, W.listOf ws n2) :: (el, W.listOf es n3) :: os) → Q .next { s with heap := h, toks := tk }) :
    wpAny (model PP w) (lwTop dp un gd L outer) (exec lwJ (lwEnv L)) Q E s := by
  have hfill : (PySem.Challenge.rw_re0024_01, Mine.hd.heap_39) = (PySem.Challenge.rw_re0024_01, Mine.hd.heap_39) := by k_fill; rfl
  clear hfill
  w_on
  refine wpAny_noRaise ?_
  conv in lwJ => whnf
  repeat' ((fail_if_success (with_reducible show wpAny _ _ (eval (Expr.ListComp _ _ _ _) _) _ _ _)); (first | (k_unfold; (try dsimp only)) | (k_end; wrow_close) | walk1 | (dsimp only; walk1) | (leave1; walk_say "STEP leave1"; try dsimp only) | fail "no step"))
  k_dflt (refine LCg.ListComp_U (F₀ := by k_asm) (by with_unfolding_all rfl) (by decide) (by rfl) (by decide) (by rfl) ?_)
  repeat' ((fail_if_success (with_unfolding_all show LCg.CompSrc _ _ _ _ _ _ _ _ _ _ _ _ _ _)); (first | (k_unfold; (try dsimp only)) | (k_end; wrow_close) | walk1 | (dsimp only; walk1) | (leave1; walk_say "STEP leave1"; try dsimp only) | fail "no step"))
  with_reducible rename News h₀ L _ _ => N1
  with_reducible rename Fr h₀ L _ _ => F1
  obtain ⟨hps, hpi⟩ := pick_item hf hfk hk hS
  have hlen : its.size = S.length := by rw [← hS.len]; simp
  generalize slicePick its (some f) (some k) none = sl at N1 hps hpi
  refine LCg.CompSrc.ledger rfl F1 N1 (.head _) (by rw [hps]; simp only [PySem.sizeLine_eq]; omega) (fun g' => comp_pure (fun i y => ∃ g, ((S.drop f.toNat).take (k - f).toNat)[i]? = some g ∧ ∃ t, y = Value.str g.sign t) ?_ ?_)
  · intro i v I oI C oC D m₂ ys h tk E' hi hv hC hx F2 N2 off ne
    obtain ⟨a, t1, t2, g, rfl, hm, hg⟩ := hpi i v hv
    have N3 := news_dup N2 (.tail _ (.tail _ (.tail _ (.tail _ (.tail _ (.tail _ (.tail _ hm)))))))
    clear N2 N1 N
    k_steps
    exact LCg.CompEnd.intro (by assumption) N3 _ (fun p hp => .tail _ hp) off (.inr ⟨_, .head _, rfl, _, rfl⟩) ⟨rfl, g, hg, _, rfl⟩
  · intro ys hl hy
    have hSy : StrsAre ys (((S.drop f.toNat).take (k - f).toNat).map (·.sign)) := strs_at (by rw [hl, hps]; simp; rw [tnB hf hfk]; exact (Nat.min_eq_left (Nat.sub_le_sub_right (tnE hk) _)).symm) hy
    k_steps
    with_reducible rename News h₀ L _ _ => N2
    with_reducible rename Fr h₀ L _ _ => F2
    k_dflt (refine join_listW (items := ys.toArray) (ys := ((S.drop f.toNat).take (k - f).toNat).map (·.sign)) ?j1 ?j2 ?j3 ?j4 ?_)
    case j1 => exact PySem.IsL.isList (N2 _ (.head _)).1
    case j2 => exact hSy
    case j3 => decide +kernel
    case j4 =>
      have h1 : ((((S.drop f.toNat).take (k - f).toNat).map (·.sign)).map (·.length)).sum ≤ _ := sum_le_of (b := 1) (by
        intro x hx
        obtain ⟨g, hg, rfl⟩ := List.mem_map.mp hx
        exact hS1 g (List.mem_of_mem_drop (List.mem_of_mem_take hg)))
      have h2 : (((S.drop f.toNat).take (k - f).toNat).map (·.sign)).length ≤ S.length := by simp; omega
      omega
    intro t' k'
    k_steps
    with_reducible rename News h₀ L _ _ => N3
    with_reducible rename Fr h₀ L _ _ => F3
    exact hend _ _ _ (Fr.congr F3 lx_word) (fun p hp => N3 p (.tail _ (.tail _ hp)))
end
section
open PySem PySem.W PySem.Calls PyProof.Rows
set_option compiler.extract_closed false
local macro_rules | `(tactic| walk_at "subscriptTail") => `(tactic| (k_here; (with_reducible show wpAny _ _ (subscriptTail _ _ (Value.ref _) (Value.int _ _)) _ _ _); k_dflt (refine' Mine.item_sub (by k_asm) (by k_mem) (by omega) (by assumption) (by assumption) ?_ (by with_unfolding_all rfl); k_whole)))
section
set_option compiler.extract_closed false
open PySem PySem.W PySem.Calls PyProof.Rows
set_option Elab.async false
set_option maxRecDepth 100000
set_option maxHeartbeats 8000000
set_option linter.unusedVariables false
set_option pp.deepTerms false
set_option pp.deepTerms.threshold 7
set_option pp.proofs false
set_option pp.maxSteps 3000
noncomputable def cat (l : List Sg) : Str := Txt.join (Str.ofString "") (l.map (·.sign))
noncomputable def lwRun : Nat → List Sg → List (Str × Int) × Str
  | 0, _ => ([], Str.ofString "")
  | _, [] => ([], Str.ofString "")
  | f + 1, g :: r => if lwStop false g then lwRun f r else
    let q := g.bare && (g.sign == Str.ofString "\"")
    let body := if q then r else g :: r
    match body.dropWhile (fun g => !lwStop q g) with
    | [] => ([], cat (body.takeWhile (fun g => !lwStop q g)))
    | e :: r' => ((cat (body.takeWhile (fun g => !lwStop q g)), e.fin) :: (lwRun f r').1, (lwRun f r').2)
theorem drop_lt {α : Type} {p : α → Bool} {l : List α} {e : α} {r : List α} (h : l.dropWhile p = e :: r) : r.length < l.length := by
  have h1 := congrArg List.length (List.takeWhile_append_dropWhile (p := p) (l := l))
  rw [h] at h1
  simp at h1
  omega
theorem lwRun_more : ∀ (f g : Nat) (l : List Sg), l.length ≤ f → l.length ≤ g → lwRun f l = lwRun g l
  | 0, 0, _, _, _ => rfl
  | 0, g + 1, l, h, _ => by
    have : l = [] := List.eq_nil_of_length_eq_zero (by omega)
    subst this; rfl
  | f + 1, 0, l, _, h => by
    have : l = [] := List.eq_nil_of_length_eq_zero (by omega)
    subst this; rfl
  | f + 1, g + 1, [], _, _ => rfl
  | f + 1, g + 1, a :: r, hf, hg => by
    simp only [List.length_cons] at hf hg
    simp only [lwRun]
    split
    · exact lwRun_more f g r (by omega) (by omega)
    · split
      · rfl
      · rename_i e r' h
        have h1 := drop_lt h
        have h2 : r'.length ≤ r.length := by
          split at h1
          · omega
          · simp at h1; omega
        rw [lwRun_more f g r' (by omega) (by omega)]
theorem while_at {α : Type} {p : α → Bool} : ∀ {l : List α} {n : Nat}, (∀ j < n, ∀ g, l[j]? = some g → p g = true) → (∀ g, l[n]? = some g → p g = false) → l.takeWhile p = l.take n ∧ l.dropWhile p = l.drop n
  | [], n, _, _ => by simp
  | a :: l, 0, _, h => by
    have := h a rfl
    simp [List.takeWhile, List.dropWhile, this]
  | a :: l, n + 1, h1, h2 => by
    have := h1 0 (by omega) a rfl
    have ⟨e1, e2⟩ := while_at (p := p) (l := l) (n := n) (fun j hj g hg => h1 (j + 1) (by omega) g (by simpa using hg)) (fun g hg => h2 g (by simpa using hg))
    simp [List.takeWhile, List.dropWhile, this, e1, e2]
structure LwI (S : List Sg) (text : Str) (tt : Tok) (sg wl el n1 : Nat) (its : Array Value) (os : List (Addr × Obj)) (h₀ : Heap) (L : Addr) (s₀ : Shared) (n : Nat) (s : Shared) : Prop where
  ex : ∃ h tk k t ws es n2 n3 last tl mb ms me mq mf mw, ∃ pre : List (Str × Int), s = { s₀ with heap := h, toks := tk } ∧ Fr h₀ L h (lxMap mb ms me mq mf mw (some (.str last tl)) k t wl el sg text tt) ∧
    News h₀ L h ((sg, W.listOf its n1) :: (wl, W.listOf ws n2) :: (el, W.listOf es n3) :: os) ∧ StrsAre ws.toList (pre.map (·.1)) ∧ IntsAre es.toList (pre.map (·.2)) ∧
    0 ≤ k ∧ (ws.size : Int) ≤ k ∧ (es.size : Int) ≤ k ∧ n = (S.length + 1 - k).toNat ∧
    ((k ≤ S.length ∧ last = Str.ofString "" ∧ pre ++ (lwRun n (S.drop k.toNat)).1 = (lwRun S.length S).1 ∧ (lwRun n (S.drop k.toNat)).2 = (lwRun S.length S).2) ∨
     (k = S.length + 1 ∧ pre = (lwRun S.length S).1 ∧ last = (lwRun S.length S).2))
noncomputable def lwB3 : List Stmt := (ifThen (nth (whileBody lwL) 1)).drop 3
theorem lx_last {mb ms me mq mf mw ml v : Option Value} {k : Int} {t : Tok} {wl el sg : Nat} {text : Str} {tt : Tok} (y : Str) :
    (if y = Str.ofString "last" then v else lxMap mb ms me mq mf mw ml k t wl el sg text tt y) = lxMap mb ms me mq mf mw v k t wl el sg text tt y := by
  by_cases h : y = Str.ofString "last"
  · subst h; rfl
  · simp only [lxMap, lwMap, if_neg h]
/-- one word, read to its end -/
theorem lwWord {w : World} {p : Program} {loose : List Str} {mean : ExcName → Option Value} {mg mb : Str → Option Value} 
   {dp un : Nat} {gd : Option (List Code)} {outer : List Env} {A₀ : Around} {base h₀ : Heap} {L : Addr} {s : Shared} {Q : Flow → Shared → Prop} {E : Value → Shared → Prop}
   {text : Str} {tt t tf : Tok} {sg wl el n1 n2 n3 : Nat} {its ws es : Array Value} {os : List (Addr × Obj)} {S : List Sg} {q : Bool} {f : Int} {b ms me mw ml : Option Value}
   (B : Below A₀ base outer h₀) (X : (Mine.hd.heap_39 w.params).In h₀) (T : Top p loose mean mg mb h₀)
   (hC : CodeHd base 100 96) (hd : dp + 22 < recursionLimit) (hu : un + 130 < cLine) (hS : SgObjs its.toList os S) (hz : its.size ≤ 1050) (hS1 : ∀ g ∈ S, g.sign.length ≤ 1)
   (hsw : Apart sg wl) (hse : Apart sg el) (hwe : Apart wl el) (how : ∀ p ∈ os, p.1 ≠ wl) (hoe : ∀ p ∈ os, p.1 ≠ el) (hws : ws.size ≤ 1050) (hes : es.size ≤ 1050)
   (hf : 0 ≤ f) (hfk : f ≤ S.length)
   (F : Fr h₀ L s.heap (lxMap b ms me (some (.bool q)) (some (.int f tf)) mw ml f t wl el sg text tt)) (N : News h₀ L s.heap ((sg, W.listOf its n1) :: (wl, W.listOf ws n2) :: (el, W.listOf es n3) :: os))
   (hend : ∀ h tk k t mw ml' ws' es' n2' n3', Fr h₀ L h (lxMap b ms me (some (.bool q)) (some (.int f tf)) mw ml' k t wl el sg text tt) → News h₀ L h ((sg, W.listOf its n1) :: (wl, W.listOf ws' n2') :: (el, W.listOf es' n3') :: os) → f ≤ k →
     ((∃ e t1 t2, ((S.drop f.toNat).dropWhile (fun g => !lwStop q g)) = e :: S.drop (k + 1).toNat ∧ k < S.length ∧ ws' = ws.push (.str (cat ((S.drop f.toNat).takeWhile (fun g => !lwStop q g))) t1) ∧ es' = es.push (.int e.fin t2) ∧ ml' = ml) ∨
      (((S.drop f.toNat).dropWhile (fun g => !lwStop q g)) = [] ∧ k = S.length ∧ ws' = ws ∧ es' = es ∧ ∃ t1, ml' = some (.str (cat ((S.drop f.toNat).takeWhile (fun g => !lwStop q g))) t1))) → Q .next { s with heap := h, toks := tk }) :
    wpAny (model PP w) (lwTop dp un gd L outer) (execs lwB3 (lwEnv L)) Q E s := by
  have hfill : (PySem.Challenge.rw_re0024_01, Mine.hd.heap_39) = (PySem.Challenge.rw_re0024_01, Mine.hd.heap_39) := by k_fill; rfl
  clear hfill
  w_on
  refine wpAny_noRaise ?_
  have hlen : its.size = S.length := by rw [← hS.len]; simp
  show wpAny _ _ (execs [lwI, lwJ, nth (ifThen (nth (whileBody lwL) 1)) 5] _) _ _ _
  conv in nth (ifThen (nth (whileBody lwL) 1)) 5 => whnf
  k_dflt (refine wpAny_execs_cons ?_)
  refine loopI (n := (S.length - f).toNat) B X T hC hd hu hf hS (by omega) ⟨⟨s.heap, s.toks, f, t, rfl, F, N, by omega, by omega, fun j a b => by omega, rfl⟩⟩ ?_
  clear F N
  intro h tk k t' F N h1 h2 h3 h4
  dsimp only
  k_dflt (refine wpAny_execs_cons ?_)
  refine lwJoin B X T hC hd hu hf h1 h2 hS (by omega) hS1 F N ?_
  clear F N
  intro h5 tk5 t5 F N
  dsimp only
  obtain ⟨e1, e2⟩ := while_at (p := fun g => !lwStop q g) (l := S.drop f.toNat) (n := (k - f).toNat) (fun j hj g hg => by
    rw [List.getElem?_drop] at hg
    have := h3 (f.toNat + j) (by omega) (by omega) g hg
    simp [this]) (fun g hg => by
    rw [List.getElem?_drop] at hg
    have := h4 g (by rw [(tnA hf h1).symm]; exact hg)
    simp [this])
  rw [← e1] at F
  rw [List.drop_drop, tnA hf h1] at e2
  by_cases hk : k < S.length
  · obtain ⟨g, hg⟩ : ∃ g, S[k.toNat]? = some g := ⟨S[k.toNat]'(by omega), by rw [List.getElem?_eq_getElem]⟩
    obtain ⟨a, u1, u2, ha, hm⟩ := sgobj_at hS hg
    have hit : its[k.toNat]? = some (.ref a) := by rw [← Array.getElem?_toList]; exact ha
    have N' := news_dup N (.tail _ (.tail _ (.tail _ hm)))
    have haw : Apart a wl := how _ hm
    have hae : Apart a el := hoe _ hm
    have hz' : its.size ≤ 1100 := by omega
    clear N
    have hd2 : S.drop k.toNat = g :: S.drop (k + 1).toNat := by
      rw [List.drop_eq_getElem_cons (l := S) (i := k.toNat) (by omega), show (k + 1).toNat = k.toNat + 1 from tnS (by omega)]
      congr 1
      rw [List.getElem?_eq_getElem (by omega)] at hg
      exact Option.some.inj hg
    rw [hd2] at e2
    k_steps
    with_reducible rename News h₀ L _ _ => N3
    with_reducible rename Fr h₀ L _ _ => F3
    exact hend _ _ k t' _ _ _ _ _ _ F3 (fun p hp => N3 p (.tail _ hp)) h1 (.inl ⟨g, _, _, e2, hk, rfl, rfl, rfl⟩)
  · rw [show S.drop k.toNat = [] from List.drop_eq_nil_of_le (by omega)] at e2
    k_steps
    with_reducible rename News h₀ L _ _ => N3
    with_reducible rename Fr h₀ L _ _ => F3
    exact hend _ _ k t' _ _ _ _ _ _ (Fr.congr F3 lx_last) N3 h1 (.inr ⟨e2, by omega, rfl, rfl, _, rfl⟩)
end
section
set_option compiler.extract_closed false
open PySem PySem.W PySem.Calls PyProof.Rows
set_option Elab.async false
set_option maxRecDepth 100000
set_option maxHeartbeats 8000000
set_option linter.unusedVariables false
set_option pp.deepTerms false
set_option pp.deepTerms.threshold 7
set_option pp.proofs false
set_option pp.maxSteps 3000
theorem lwRun_step {S : List Sg} {k f : Int} {g : Sg} {q : Bool} {n : Nat} (hn : 1 ≤ n) (hg : S.drop k.toNat = g :: S.drop (k + 1).toNat) (hs : lwStop false g = false) (hq : (g.bare && (g.sign == Str.ofString "\"")) = q) (hf : f = if q then k + 1 else k) :
    lwRun n (S.drop k.toNat) = match (S.drop f.toNat).dropWhile (fun g => !lwStop q g) with
      | [] => ([], cat ((S.drop f.toNat).takeWhile (fun g => !lwStop q g)))
      | e :: r' => ((cat ((S.drop f.toNat).takeWhile (fun g => !lwStop q g)), e.fin) :: (lwRun (n - 1) r').1, (lwRun (n - 1) r').2) := by
  obtain ⟨n', rfl⟩ : ∃ n', n = n' + 1 := ⟨n - 1, by omega⟩
  have e : S.drop f.toNat = if q then S.drop (k + 1).toNat else g :: S.drop (k + 1).toNat := by
    subst hf
    cases q
    · simp [hg]
    · simp
  rw [hg, e]
  subst hq
  simp only [lwRun, hs]
  rfl
section
variable {S : List Sg} {text : Str} {tt : Tok} {sg wl el n1 : Nat} {its : Array Value} {os : List (Addr × Obj)} {h₀ h : Heap} {L : Addr} {s₀ : Shared} {n tk : Nat} {k k' f : Int} {t tl : Tok} {ws es ws' es' : Array Value} {n2 n3 : Nat} {mb ms me mq mf mw ml' : Option Value} {pre : List (Str × Int)} {m : Str → Option Value} {q : Bool} {g : Sg} {last : Str}
theorem lw_turn (F : Fr h₀ L h m) (em : ∀ y, m y = lxMap mb ms me mq mf mw ml' (k' + 1) t wl el sg text tt y) (N : News h₀ L h ((sg, W.listOf its n1) :: (wl, W.listOf ws' n2) :: (el, W.listOf es' n3) :: os))
    (hws : StrsAre ws.toList (pre.map (·.1))) (hes : IntsAre es.toList (pre.map (·.2))) (h0 : 0 ≤ k) (h1 : (ws.size : Int) ≤ k) (h2 : (es.size : Int) ≤ k) (h3 : n = (S.length + 1 - k).toNat) (hk : k < S.length)
    (h4 : (k ≤ S.length ∧ last = Str.ofString "" ∧ pre ++ (lwRun n (S.drop k.toNat)).1 = (lwRun S.length S).1 ∧ (lwRun n (S.drop k.toNat)).2 = (lwRun S.length S).2) ∨ (k = S.length + 1 ∧ pre = (lwRun S.length S).1 ∧ last = (lwRun S.length S).2))
    (hg : S[k.toNat]? = some g) (hs : lwStop false g = false) (hq : (g.bare && (g.sign == Str.ofString "\"")) = q) (hf : f = if q then k + 1 else k) (hfk : f ≤ k')
    (hc : ((∃ e t1 t2, ((S.drop f.toNat).dropWhile (fun g => !lwStop q g)) = e :: S.drop (k' + 1).toNat ∧ k' < S.length ∧ ws' = ws.push (.str (cat ((S.drop f.toNat).takeWhile (fun g => !lwStop q g))) t1) ∧ es' = es.push (.int e.fin t2) ∧ ml' = some (.str last tl)) ∨
      (((S.drop f.toNat).dropWhile (fun g => !lwStop q g)) = [] ∧ k' = S.length ∧ ws' = ws ∧ es' = es ∧ ∃ t1, ml' = some (.str (cat ((S.drop f.toNat).takeWhile (fun g => !lwStop q g))) t1)))) :
    LessI (LwI S text tt sg wl el n1 its os h₀ L s₀) n { s₀ with heap := h, toks := tk } := by
  have hd2 : S.drop k.toNat = g :: S.drop (k + 1).toNat := by
    rw [List.drop_eq_getElem_cons (l := S) (i := k.toNat) (by omega), show (k + 1).toNat = k.toNat + 1 from tnS (by omega)]
    congr 1
    rw [List.getElem?_eq_getElem (by omega)] at hg
    exact Option.some.inj hg
  have hst := lwRun_step (n := n) (ms0 h3 (by omega)) hd2 hs hq hf
  have hkf : k ≤ k' := by
    subst hf
    split at hfk <;> omega
  obtain ⟨hl, h5, h6⟩ : last = Str.ofString "" ∧ pre ++ (lwRun n (S.drop k.toNat)).1 = (lwRun S.length S).1 ∧ (lwRun n (S.drop k.toNat)).2 = (lwRun S.length S).2 := by
    rcases h4 with ⟨-, h⟩ | ⟨h5, -⟩
    · exact h
    · omega
  rcases hc with ⟨e, t1, t2, he, hk', rfl, rfl, rfl⟩ | ⟨he, hk', rfl, rfl, t1, rfl⟩
  · rw [hst, he] at h5 h6
    dsimp only at h5 h6
    have hlt : ((S.length : Int) + 1 - (k' + 1)).toNat < n := ms1 h3 (by omega) (by omega)
    have hml : S.length - (k' + 1).toNat ≤ ((S.length : Int) + 1 - (k' + 1)).toNat := ms4 (by omega)
    have hm := lwRun_more (n - 1) (S.length + 1 - (k' + 1)).toNat (S.drop (k' + 1).toNat) (by rw [List.length_drop]; exact Nat.le_sub_one_of_lt (Nat.lt_of_le_of_lt hml hlt)) (by rw [List.length_drop]; exact hml)
    rw [hm] at h5 h6
    refine ⟨_, ?_, ⟨h, tk, k' + 1, t, _, _, _, _, last, tl, _, _, _, _, _, _, pre ++ [(cat ((S.drop f.toNat).takeWhile (fun g => !lwStop q g)), e.fin)], rfl, Fr.congr F em, N, ?_, ?_, by omega, ?_, ?_, rfl, .inl ⟨by omega, hl, ?_, h6⟩⟩⟩
    · exact hlt
    · rw [Array.toList_push, List.map_append]
      exact StrsAre.append' hws (.cons _ _ .nil)
    · rw [Array.toList_push, List.map_append]
      exact IntsAre.append hes (.cons _ _ .nil)
    · rw [Array.size_push]; omega
    · rw [Array.size_push]; omega
    · rw [List.append_assoc]; exact h5
  · rw [hst, he] at h5 h6
    dsimp only at h5 h6
    rw [List.append_nil] at h5
    subst hk'
    exact ⟨_, ms1 h3 (by omega) (by omega), ⟨h, tk, S.length + 1, t, _, _, _, _, _, t1, _, _, _, _, _, _, pre, rfl, Fr.congr F em, N, hws, hes, by omega, by omega, by omega, rfl, .inr ⟨rfl, h5, h6⟩⟩⟩
theorem lw_skip (F : Fr h₀ L h m) (em : ∀ y, m y = lxMap mb ms me mq mf mw (some (.str last tl)) (k + 1) t wl el sg text tt y) (N : News h₀ L h ((sg, W.listOf its n1) :: (wl, W.listOf ws n2) :: (el, W.listOf es n3) :: os))
    (hws : StrsAre ws.toList (pre.map (·.1))) (hes : IntsAre es.toList (pre.map (·.2))) (h0 : 0 ≤ k) (h1 : (ws.size : Int) ≤ k) (h2 : (es.size : Int) ≤ k) (h3 : n = (S.length + 1 - k).toNat) (hk : k < S.length)
    (h4 : (k ≤ S.length ∧ last = Str.ofString "" ∧ pre ++ (lwRun n (S.drop k.toNat)).1 = (lwRun S.length S).1 ∧ (lwRun n (S.drop k.toNat)).2 = (lwRun S.length S).2) ∨ (k = S.length + 1 ∧ pre = (lwRun S.length S).1 ∧ last = (lwRun S.length S).2))
    (hg : S[k.toNat]? = some g) (hs : lwStop false g = true) :
    LessI (LwI S text tt sg wl el n1 its os h₀ L s₀) n { s₀ with heap := h, toks := tk } := by
  have hd2 : S.drop k.toNat = g :: S.drop (k + 1).toNat := by
    rw [List.drop_eq_getElem_cons (l := S) (i := k.toNat) (by omega), show (k + 1).toNat = k.toNat + 1 from tnS (by omega)]
    congr 1
    rw [List.getElem?_eq_getElem (by omega)] at hg
    exact Option.some.inj hg
  obtain ⟨hl, h5, h6⟩ : last = Str.ofString "" ∧ pre ++ (lwRun n (S.drop k.toNat)).1 = (lwRun S.length S).1 ∧ (lwRun n (S.drop k.toNat)).2 = (lwRun S.length S).2 := by
    rcases h4 with ⟨-, h⟩ | ⟨h5, -⟩
    · exact h
    · omega
  obtain ⟨n', rfl⟩ : ∃ n', n = n' + 1 := ⟨n - 1, ms2 h3 (by omega)⟩
  rw [hd2] at h5 h6
  simp only [lwRun, hs, if_true] at h5 h6
  have hn : n' = (S.length + 1 - (k + 1)).toNat := ms5 h3
  rw [hn] at h5 h6
  exact ⟨_, ms1 h3 (by omega) (by omega), ⟨h, tk, k + 1, t, _, _, _, _, last, tl, _, _, _, _, _, _, pre, rfl, Fr.congr F em, N, hws, hes, by omega, by omega, by omega, rfl, .inl ⟨by omega, hl, h5, h6⟩⟩⟩
end
theorem lx_enter {mb ms me mq mf mw ml b s' e' q' f' : Option Value} {k k' : Int} {t t' : Tok} {wl el sg : Nat} {text : Str} {tt : Tok} (y : Str) :
    (if y = Str.ofString "at" then some (.int k' t') else if y = Str.ofString "first" then f' else if y = Str.ofString "quoted" then q' else if y = Str.ofString "end" then e' else if y = Str.ofString "sign" then s' else if y = Str.ofString "bare" then b else lxMap mb ms me mq mf mw ml k t wl el sg text tt y) = lxMap b s' e' q' f' mw ml k' t' wl el sg text tt y := by
  by_cases h1 : y = Str.ofString "at"
  · subst h1; rfl
  by_cases h2 : y = Str.ofString "first"
  · subst h2; rfl
  by_cases h3 : y = Str.ofString "quoted"
  · subst h3; rfl
  by_cases h4 : y = Str.ofString "end"
  · subst h4; rfl
  by_cases h5 : y = Str.ofString "sign"
  · subst h5; rfl
  by_cases h6 : y = Str.ofString "bare"
  · subst h6; rfl
  simp only [lxMap, lwMap, if_neg h1, if_neg h2, if_neg h3, if_neg h4, if_neg h5, if_neg h6]
theorem lx_enter0 {mb ms me mq mf mw ml b s' e' q' f' : Option Value} {k k' : Int} {t t' : Tok} {wl el sg : Nat} {text : Str} {tt : Tok} (y : Str) :
    (if y = Str.ofString "at" then some (.int k' t') else if y = Str.ofString "first" then f' else if y = Str.ofString "quoted" then q' else if y = Str.ofString "end" then e' else if y = Str.ofString "sign" then s' else if y = Str.ofString "bare" then b else lxMap mb ms me mq mf mw ml k t wl el sg text tt y) = lxMap b s' e' q' f' mw ml k' t' wl el sg text tt y := lx_enter y
theorem lx_skip {mb ms me mq mf mw ml b s' e' : Option Value} {k k' : Int} {t t' : Tok} {wl el sg : Nat} {text : Str} {tt : Tok} (y : Str) :
    (if y = Str.ofString "at" then some (.int k' t') else if y = Str.ofString "end" then e' else if y = Str.ofString "sign" then s' else if y = Str.ofString "bare" then b else lxMap mb ms me mq mf mw ml k t wl el sg text tt y) = lxMap b s' e' mq mf mw ml k' t' wl el sg text tt y := by
  by_cases h1 : y = Str.ofString "at"
  · subst h1; rfl
  by_cases h4 : y = Str.ofString "end"
  · subst h4; rfl
  by_cases h5 : y = Str.ofString "sign"
  · subst h5; rfl
  by_cases h6 : y = Str.ofString "bare"
  · subst h6; rfl
  simp only [lxMap, lwMap, if_neg h1, if_neg h4, if_neg h5, if_neg h6]
theorem loopL {w : World} {p : Program} {loose : List Str} {mean : ExcName → Option Value} {mg mb : Str → Option Value} 
   {dp un : Nat} {gd : Option (List Code)} {outer : List Env} {A₀ : Around} {base h₀ : Heap} {L : Addr} {s : Shared} {Q : Flow → Shared → Prop} {E : Value → Shared → Prop}
   {text : Str} {tt : Tok} {sg wl el n1 n : Nat} {its : Array Value} {os : List (Addr × Obj)} {S : List Sg}
   (B : Below A₀ base outer h₀) (X : (Mine.hd.heap_39 w.params).In h₀) (T : Top p loose mean mg mb h₀)
   (hC : CodeHd base 100 96) (hd : dp + 22 < recursionLimit) (hu : un + 130 < cLine) (hS : SgObjs its.toList os S) (hz : its.size ≤ 1050) (hS1 : ∀ g ∈ S, g.sign.length ≤ 1)
   (hsw : Apart sg wl) (hse : Apart sg el) (hwe : Apart wl el) (how : ∀ p ∈ os, p.1 ≠ wl) (hoe : ∀ p ∈ os, p.1 ≠ el)
   (hI : LwI S text tt sg wl el n1 its os h₀ L s n s)
   (hend : ∀ h tk k t ws es n2 n3 tl mb ms me mq mf mw, ∀ pre : List (Str × Int), Fr h₀ L h (lxMap mb ms me mq mf mw (some (.str (lwRun S.length S).2 tl)) k t wl el sg text tt) →
     News h₀ L h ((sg, W.listOf its n1) :: (wl, W.listOf ws n2) :: (el, W.listOf es n3) :: os) → StrsAre ws.toList ((lwRun S.length S).1.map (·.1)) → IntsAre es.toList ((lwRun S.length S).1.map (·.2)) → ws.size ≤ 1051 → es.size ≤ 1051 → Q .next { s with heap := h, toks := tk }) :
    wpAny (model PP w) (lwTop dp un gd L outer) (exec lwL (lwEnv L)) Q E s := by
  have hfill : (PySem.Challenge.rw_re0024_01, Mine.hd.heap_39) = (PySem.Challenge.rw_re0024_01, Mine.hd.heap_39) := by k_fill; rfl
  clear hfill
  w_on
  conv in lwL => whnf
  refine While_any (LwI S text tt sg wl el n1 its os h₀ L s) hI ?_
  clear hI n
  rintro n s' ⟨h, tk, k, t, ws, es, n2, n3, last, tl, mb, ms, me, mq, mf, mw, pre, rfl, F, N, hws, hes, h0, h1, h2, h3, h4⟩
  have hlen : its.size = S.length := by rw [← hS.len]; simp
  have hz' : its.size ≤ 1100 := by omega
  by_cases hk : k < S.length
  · obtain ⟨g, hg⟩ : ∃ g, S[k.toNat]? = some g := ⟨S[k.toNat]'(by omega), by rw [List.getElem?_eq_getElem]⟩
    obtain ⟨a, u1, u2, ha, hm⟩ := sgobj_at hS hg
    have hit : its[k.toNat]? = some (.ref a) := by rw [← Array.getElem?_toList]; exact ha
    have N' := news_dup N (.tail _ (.tail _ (.tail _ hm)))
    clear N
    repeat' ((fail_if_success (with_reducible show wpAny _ _ (execs (Stmt.While _ _ _ _ :: _) _) _ _ _)); (first | (k_unfold; (try dsimp only)) | (k_end; wrow_close) | walk1 | (dsimp only; walk1) | (leave1; walk_say "STEP leave1"; try dsimp only) | fail "no step"))
    · with_reducible rename News h₀ L _ _ => N1
      with_reducible rename Fr h₀ L _ _ => F1
      have hb : g.bare = true := by assumption
      have ho : (Builtin.Str.occurrences (Str.ofString " \t\x0d\n") g.sign 0 (Str.ofString " \t\x0d\n").length 1).isEmpty = true := by assumption
      have hqq : (g.sign == Str.ofString "\"") = true := by assumption
      rw [hqq] at F1
      dsimp only
      show wpAny _ _ (execs lwB3 (lwEnv L)) _ _ _
      refine lwWord (q := true) (f := k + 1) (b := some (.bool g.bare)) (ms := some (.str g.sign u1)) (me := some (.int g.fin u2)) (mw := mw) (ml := some (.str last tl)) B X T hC hd hu hS hz hS1 hsw hse hwe how hoe (by omega) (by omega) (by omega) (by omega) (Fr.congr F1 lx_enter) (fun p hp => N1 p (.tail _ hp)) ?_
      intro h9 tk9 k9 t9 mw9 ml9 ws9 es9 n29 n39 F9 N9 hfk hc
      dsimp only
      clear F1 N1
      k_steps
      with_reducible rename News h₀ L _ _ => N1
      with_reducible rename Fr h₀ L _ _ => F1
      exact lw_turn (q := true) (f := k + 1) F1 lx_at N1 hws hes h0 h1 h2 h3 hk h4 hg (by simp [lwStop, *]) (by simp [*]) rfl hfk hc
    · with_reducible rename News h₀ L _ _ => N1
      with_reducible rename Fr h₀ L _ _ => F1
      have hb : g.bare = true := by assumption
      have ho : (Builtin.Str.occurrences (Str.ofString " \t\x0d\n") g.sign 0 (Str.ofString " \t\x0d\n").length 1).isEmpty = true := by assumption
      have hqq : (g.sign == Str.ofString "\"") = false := by assumption
      rw [hqq] at F1
      dsimp only
      show wpAny _ _ (execs lwB3 (lwEnv L)) _ _ _
      refine lwWord (q := false) (f := k) (b := some (.bool g.bare)) (ms := some (.str g.sign u1)) (me := some (.int g.fin u2)) (mw := mw) (ml := some (.str last tl)) B X T hC hd hu hS hz hS1 hsw hse hwe how hoe (by omega) (by omega) (by omega) (by omega) (Fr.congr F1 lx_enter0) (fun p hp => N1 p (.tail _ hp)) ?_
      intro h9 tk9 k9 t9 mw9 ml9 ws9 es9 n29 n39 F9 N9 hfk hc
      dsimp only
      clear F1 N1
      k_steps
      with_reducible rename News h₀ L _ _ => N1
      with_reducible rename Fr h₀ L _ _ => F1
      exact lw_turn (q := false) (f := k) F1 lx_at N1 hws hes h0 h1 h2 h3 hk h4 hg (by simp [lwStop, *]) (by simp [*]) rfl hfk hc
    · with_reducible rename News h₀ L _ _ => N1
      with_reducible rename Fr h₀ L _ _ => F1
      have hb : g.bare = true := by assumption
      have ho : (Builtin.Str.occurrences (Str.ofString " \t\x0d\n") g.sign 0 (Str.ofString " \t\x0d\n").length 1).isEmpty = false := by assumption
      dsimp only
      exact lw_skip F1 lx_skip (fun p hp => N1 p (.tail _ hp)) hws hes h0 h1 h2 h3 hk h4 hg (by simp [lwStop, *])
    · with_reducible rename News h₀ L _ _ => N1
      with_reducible rename Fr h₀ L _ _ => F1
      have hb : g.bare = false := by assumption
      rw [hb] at F1
      dsimp only
      show wpAny _ _ (execs lwB3 (lwEnv L)) _ _ _
      refine lwWord (q := false) (f := k) (b := some (.bool false)) (ms := some (.str g.sign u1)) (me := some (.int g.fin u2)) (mw := mw) (ml := some (.str last tl)) B X T hC hd hu hS hz hS1 hsw hse hwe how hoe (by omega) (by omega) (by omega) (by omega) (Fr.congr F1 lx_enter0) (fun p hp => N1 p (.tail _ hp)) ?_
      intro h9 tk9 k9 t9 mw9 ml9 ws9 es9 n29 n39 F9 N9 hfk hc
      dsimp only
      clear F1 N1
      k_steps
      with_reducible rename News h₀ L _ _ => N1
      with_reducible rename Fr h₀ L _ _ => F1
      exact lw_turn (q := false) (f := k) F1 lx_at N1 hws hes h0 h1 h2 h3 hk h4 hg (by simp [lwStop, *]) (by simp [*]) rfl hfk hc
  · k_steps
    rcases h4 with ⟨h4, rfl, h5, h6⟩ | ⟨h4, h5, h6⟩
    · rw [show S.drop k.toNat = [] from List.drop_eq_nil_of_le (by omega), show n = 0 + 1 by omega] at h5 h6
      simp only [lwRun, List.append_nil] at h5 h6
      subst h5
      rw [h6] at F
      exact hend _ _ k t ws es n2 n3 tl mb ms me mq mf mw [] F N hws hes (by omega) (by omega)
    · subst h5 h6
      exact hend _ _ k t ws es n2 n3 tl mb ms me mq mf mw [] F N hws hes (by omega) (by omega)
end
end
section
set_option compiler.extract_closed false
open PySem PySem.W PySem.Calls PyProof.Rows
set_option Elab.async false
set_option maxRecDepth 100000
set_option maxHeartbeats 8000000
set_option linter.unusedVariables false
set_option pp.deepTerms false
set_option pp.deepTerms.threshold 7
set_option pp.proofs false
set_option pp.maxSteps 3000
theorem sgn_one : ∀ (n : Nat) (k : Int) (l : List Nat), l.length ≤ n → ∀ g ∈ sgn k l, g.sign.length ≤ 1
  | 0, k, l, hn, g, hg => by
    have : l = [] := List.eq_nil_of_length_eq_zero (by omega)
    subst this; rw [sgn_nil] at hg; cases hg
  | n + 1, k, [], hn, g, hg => by rw [sgn_nil] at hg; cases hg
  | n + 1, k, c :: r, hn, g, hg => by
    simp only [List.length_cons] at hn
    rw [sgn.eq_def] at hg
    simp only at hg
    split at hg
    · cases r with
      | nil => simp at hg; subst hg; exact Nat.zero_le 1
      | cons d r' =>
        simp only [List.length_cons] at hn
        rcases List.mem_cons.mp hg with rfl | hg
        · exact Nat.le_refl 1
        · exact sgn_one n _ r' (by omega) g hg
    · rcases List.mem_cons.mp hg with rfl | hg
      · exact Nat.le_refl 1
      · exact sgn_one n _ r (by omega) g hg
theorem lw_map0 {h₀ h : Heap} {L : Addr} {k : Int} {t : Tok} {sg : Nat} {text : Str} {tt : Tok} (F : Fr h₀ L h (fun y => if y = Str.ofString "at" then some (.int k t) else if y = Str.ofString "signs" then some (.ref sg) else List.lookup y [(Str.ofString "text", Value.str text tt)])) :
    Fr h₀ L h (lwMap none k t sg text tt) := Fr.congr F (fun y => by
  unfold lwMap
  by_cases h1 : y = Str.ofString "bare"
  · subst h1
    rfl
  · by_cases h2 : y = Str.ofString "at"
    · subst h2; rfl
    · by_cases h3 : y = Str.ofString "signs"
      · subst h3; rfl
      · simp only [if_neg h1, if_neg h2, if_neg h3]
        by_cases h4 : y = Str.ofString "text"
        · subst h4; rfl
        · rw [if_neg h4, List.lookup_cons, beq_false_of_ne h4]; rfl)
theorem lw_mapL {h₀ h : Heap} {L : Addr} {k k' : Int} {t t' tl : Tok} {sg wl el : Nat} {text : Str} {tt : Tok} {mb ml : Option Value} (F : Fr h₀ L h (fun y => if y = Str.ofString "at" then some (.int k' t') else if y = Str.ofString "last" then ml else if y = Str.ofString "ends" then some (.ref el) else if y = Str.ofString "words" then some (.ref wl) else lwMap mb k t sg text tt y)) :
    Fr h₀ L h (lxMap mb none none none none none ml k' t' wl el sg text tt) := Fr.congr F (fun y => by
  unfold lxMap
  by_cases h1 : y = Str.ofString "word"
  · subst h1; rfl
  by_cases h2 : y = Str.ofString "first"
  · subst h2; rfl
  by_cases h3 : y = Str.ofString "quoted"
  · subst h3; rfl
  by_cases h4 : y = Str.ofString "end"
  · subst h4; rfl
  by_cases h5 : y = Str.ofString "sign"
  · subst h5; rfl
  by_cases h6 : y = Str.ofString "last"
  · subst h6; rfl
  by_cases h7 : y = Str.ofString "ends"
  · subst h7; rfl
  by_cases h8 : y = Str.ofString "words"
  · subst h8; rfl
  simp only [if_neg h1, if_neg h2, if_neg h3, if_neg h4, if_neg h5, if_neg h6, if_neg h7, if_neg h8]
  by_cases h9 : y = Str.ofString "at"
  · subst h9; rfl
  · simp only [lwMap, if_neg h9])
theorem allLt_ne {d : Nat} : ∀ {os : List (Addr × Obj)}, AllLt d os → ∀ p ∈ os, p.1 ≠ d
  | [], _, _, h => nomatch h
  | q :: os, h, p, hp => by
    rcases List.mem_cons.mp hp with rfl | hp
    · exact Nat.ne_of_lt h.1
    · exact allLt_ne h.2 p hp
theorem news_rot3 {h₀ h : Heap} {L : Addr} {a b c : Addr × Obj} {os : List (Addr × Obj)} (N : News h₀ L h (a :: b :: c :: os)) : News h₀ L h (c :: b :: a :: os) := fun p hp => N p (by
  rcases List.mem_cons.mp hp with rfl | hp
  · exact .tail _ (.tail _ (.head _))
  · rcases List.mem_cons.mp hp with rfl | hp
    · exact .tail _ (.head _)
    · rcases List.mem_cons.mp hp with rfl | hp
      · exact .head _
      · exact .tail _ (.tail _ (.tail _ hp)))
theorem lw_pick {h₀ h : Heap} {L : Addr} {t a x b : Addr × Obj} {r rest : List (Addr × Obj)} (N : News h₀ L h (t :: a :: x :: b :: r)) (NR : News h₀ L h rest) : News h₀ L h (t :: b :: a :: rest) := fun p hp => by
  rcases List.mem_cons.mp hp with rfl | hp
  · exact N _ (.head _)
  · rcases List.mem_cons.mp hp with rfl | hp
    · exact N _ (.tail _ (.tail _ (.tail _ (.head _))))
    · rcases List.mem_cons.mp hp with rfl | hp
      · exact N _ (.tail _ (.head _))
      · exact NR p hp
/-- what `_law_words` tells -/
noncomputable def lwAll (text : Str) : List (Str × Int) × Str := lwRun (sgn 0 text.cps.toList).length (sgn 0 text.cps.toList)
theorem law_words {w : World} {p : Program} {loose : List Str} {mean : ExcName → Option Value} {mg mb : Str → Option Value} 
   {dp un : Nat} {gd : Option (List Code)} {cn : Str} {cs : Scope} {a : Addr} {ccd : Value} {cl : List (Str × Addr)} {outer : List Env} {A₀ : Around} {base h₀ : Heap} {L : Addr} {m : Str → Option Value} {s : Shared} {R : Result → Shared → Prop}
   {text : Str} {tt : Tok} {rest : List (Addr × Obj)}
   (B : Below A₀ base outer h₀) (F : Fr h₀ L s.heap m) (X : (Mine.hd.heap_39 w.params).In h₀) (N : News h₀ L s.heap rest) (T : Top p loose mean mg mb h₀) (hk : cs.kind = .function)
   (hC : CodeHd base 100 96) (hd : dp + 30 < recursionLimit) (hu : un + 150 < cLine) (htx : text.length ≤ 1000)
   (hR : ∀ h' tk' tup wl el ws es n1 n2, Fr h₀ L h' m → News h₀ L h' ((tup, tupOf [.ref wl, .ref el]) :: (wl, W.listOf ws n1) :: (el, W.listOf es n2) :: rest) →
      StrsAre ws.toList ((lwAll text).1.map (·.1) ++ [(lwAll text).2]) → IntsAre es.toList ((lwAll text).1.map (·.2) ++ [(text.length : Int)]) → ws.size ≤ 1100 → es.size ≤ 1100 →
      R (.ok (.ret (.ref tup))) { s with heap := h', toks := tk' }) :
    codeAny (model PP w) (ktrTop dp un gd cn cs L a ccd cl outer) (.call (.ref 94) ⟨[.str text tt], []⟩) R s := by
  have hfill : (PySem.Challenge.rw_re0024_01, Mine.hd.heap_39) = (PySem.Challenge.rw_re0024_01, Mine.hd.heap_39) := by k_fill; rfl
  clear hfill
  w_on
  have hsep : ∀ p ∈ rest, p.1 ∉ ([] : List (Addr × Obj)).map (·.1) := fun _ _ h => nomatch h
  have N0 : News h₀ L s.heap ([] ++ rest) := N
  k_dflt (walk_at "m enterR")
  refine wpAny_noRaise ?_
  repeat' ((fail_if_success (with_reducible show wpAny _ _ (exec (Stmt.While _ _ _ _) _) _ _ _)); (first | (k_unfold; (try dsimp only)) | (k_end; wrow_close) | walk1 | (dsimp only; walk1) | (leave1; walk_say "STEP leave1"; try dsimp only) | fail "no step"))
  with_reducible rename News _ _ _ [_] => N1
  with_reducible rename Fr _ _ _ (fun y => if y = Str.ofString "at" then _ else _) => F1
  show wpAny _ _ (exec lwS (lwEnv _)) _ _ _
  have hll := len_list text
  refine loopS (dp := dp + 1) (un := un + 3) (text := text) (tt := tt) (n := (text.length + 2 : Int).toNat) (by k_asm) (by k_asm) (by k_asm) hC (by omega) (by omega) htx ⟨⟨_, _, 0, _, none, #[], _, [], [], rfl, lw_map0 F1, N1, .nil, List.forall_mem_nil _, by omega, by omega, by simp, by rfl, by omega⟩⟩ ?_
  clear N1 F1
  intro h1 tk1 k1 t1 mb1 its n1 os F1 N1 hS hne hz
  dsimp only
  repeat' ((fail_if_success (with_reducible show wpAny _ _ (exec (Stmt.While _ _ _ _) _) _ _ _)); (first | (k_unfold; (try dsimp only)) | (k_end; wrow_close) | walk1 | (dsimp only; walk1) | (leave1; walk_say "STEP leave1"; try dsimp only) | fail "no step"))
  with_reducible rename News _ _ _ (_ :: _ :: _ :: os) => N1
  with_reducible rename Fr _ _ _ (fun y => if y = Str.ofString "at" then _ else _) => F1
  rename_i g2 L2 h02 FG2 B2 X2 T2 l02 lR2 lG2 sg _ _ _ _ wl _ l1 _ el _ l2 _ _ _
  have hlen : its.size = (sgn 0 text.cps.toList).length := by rw [← hS.len]; simp
  show wpAny _ _ (exec lwL (lwEnv _)) _ _ _
  refine loopL (dp := dp + 1) (un := un + 3) (S := sgn 0 text.cps.toList) (text := text) (tt := tt) (n := ((sgn 0 text.cps.toList).length + 1 - 0 : Int).toNat) (by k_asm) (by k_asm) (by k_asm) hC (by omega) (by omega) hS (by omega) (sgn_one _ _ _ (Nat.le_refl _)) (sg := sg) (wl := wl) (el := el) (Nat.ne_of_lt l1.1) (Nat.ne_of_lt l2.2.1) (Nat.ne_of_lt l2.1) (allLt_ne l1.2) (allLt_ne l2.2.2)
    ⟨⟨_, _, 0, _, #[], #[], _, _, Str.ofString "", _, _, none, none, none, none, none, [], rfl, lw_mapL (tl := 0) F1, news_rot3 N1, .nil, .nil, by omega, by simp, by simp, rfl, .inl ⟨by omega, rfl, ?_, ?_⟩⟩⟩ ?_
  · rw [List.nil_append]
    exact congrArg Prod.fst (lwRun_more _ _ _ (by simp) (by simp))
  · exact congrArg Prod.snd (lwRun_more _ _ _ (by simp) (by simp))
  clear F1 N1
  intro h3 tk3 k3 t3 ws es n2 n3 tl3 mb3 ms3 me3 mq3 mf3 mw3 pre3 F1 N1 hws hes hzw hze
  dsimp only
  k_steps
  with_reducible rename Fr h₀ L _ _ => kF
  with_reducible rename News h₀ L _ _ => kN
  intro NR _
  refine hR _ _ _ _ _ _ _ 0 0 kF (lw_pick kN NR) ?_ ?_ ?_ ?_
  · unfold lwAll
    with_reducible rename StrsAre _ _ => hws
    simpa using StrsAre.append' hws (.cons _ _ .nil)
  · unfold lwAll
    simpa using IntsAre.append hes (.cons _ _ .nil)
  · simp; omega
  · simp; omega
end
section
set_option compiler.extract_closed false
open PySem PySem.W PySem.Calls PyProof.Rows
set_option Elab.async false
set_option maxRecDepth 100000
set_option maxHeartbeats 8000000
set_option linter.unusedVariables false
set_option pp.deepTerms false
set_option pp.deepTerms.threshold 7
set_option pp.proofs false
set_option pp.maxSteps 3000
noncomputable def Short (v : Value) : Prop := ∃ x t, v = Value.str x t ∧ x.length ≤ 5
theorem shorts_nil : ∀ v ∈ ([] : List Value), Short v := fun _ h => nomatch h
theorem shorts_cons {x : Str} {t : Tok} {l : List Value} (h : x.length ≤ 5) (hl : ∀ v ∈ l, Short v) : ∀ v ∈ Value.str x t :: l, Short v := List.forall_mem_cons.mpr ⟨⟨x, t, rfl, h⟩, hl⟩
theorem menu_sub {prog : Program} {w : World} {A : Around} {E : Value → Shared → Prop} {s : Shared} {h₀ : Heap} {L D : Addr} {news : List (Addr × Obj)} {ls : List Value} {n : Nat} {t : Tok} {k : Int} {value slice : PySem.Expr} {Q : Value → Shared → Prop}
    (N : News h₀ L s.heap news) (hm : (D, W.listOf ls.toArray n) ∈ news) (hlen : ls.length = 16) (h0 : 0 ≤ k) (hk : k < 16) (hall : ∀ v ∈ ls, Short v) (hq : ∀ x t, x.length ≤ 5 → Q (.str x t) s)
    (hs' : subscripted slice false (.ref D) (.int k t) = operate [.ref D, .int k t] (getItem (.ref D) (.int k t)) := by with_unfolding_all rfl) : wpAny (model prog w) A (subscriptTail value slice (.ref D) (.int k t)) Q E s := by
  have hL := PySem.IsL.isList (n := n) (N _ hm).1
  have hlt : k.toNat < ls.length := by omega
  obtain ⟨x, t', e, hx⟩ := hall ls[k.toNat] (List.getElem_mem hlt)
  exact tail_any hL.typeIs slot_list_getitem.lookup (wpAny_getItem_list hL h0 (by omega) (by simp [hlt]; exact e) (hq x t' hx)) hs'
theorem shorts_strs : ∀ {ys : List Value}, (∀ (i : Nat) y, ys[i]? = some y → Short y) → ∃ xs, StrsAre ys xs ∧ ∀ x ∈ xs, x.length ≤ 5
  | [], _ => ⟨[], .nil, fun _ h => nomatch h⟩
  | y :: ys, h => by
    obtain ⟨x, t, rfl, hx⟩ := h 0 y rfl
    obtain ⟨xs, h1, h2⟩ := shorts_strs (ys := ys) fun i y hy => h (i + 1) y (by simpa using hy)
    exact ⟨x :: xs, .cons x t h1, List.forall_mem_cons.mpr ⟨hx, h2⟩⟩
local macro_rules | `(tactic| walk_at "subscriptTail") => `(tactic| (k_here; (with_reducible show wpAny _ _ (subscriptTail _ _ (Value.ref _) (Value.int _ _)) _ _ _); k_dflt (refine' menu_sub (by k_asm) (by k_mem) rfl (by l_fact) (by l_fact) (by (repeat (refine shorts_cons (by decide +kernel) ?_)); exact shorts_nil) ?_ (by with_unfolding_all rfl); k_whole); intro x9 t9 hx9))
theorem law_text {w : World} {p : Program} {loose : List Str} {mean : ExcName → Option Value} {mg mb : Str → Option Value} 
   {dp un : Nat} {gd : Option (List Code)} {cn : Str} {cs : Scope} {a : Addr} {ccd : Value} {cl : List (Str × Addr)} {outer : List Env} {A₀ : Around} {base h₀ : Heap} {L : Addr} {m : Str → Option Value} {s : Shared} {R : Result → Shared → Prop}
   {l : Addr} {vs : List Value} {ns : List Int} {rest : List (Addr × Obj)}
   (B : Below A₀ base outer h₀) (F : Fr h₀ L s.heap m) (X : (Mine.hd.heap_39 w.params).In h₀) (N : News h₀ L s.heap rest) (T : Top p loose mean mg mb h₀) (hk : cs.kind = .function)
   (hC : CodeHd base 100 96) (hd : dp + 30 < recursionLimit) (hu : un + 150 < cLine) (hl : h₀.IsList l vs.toArray) (hi : IntsAre vs ns) (hz : ns.length ≤ 100)
   (hR : ∀ h' tk' t, ∀ text : Str, Fr h₀ L h' m → News h₀ L h' rest → text.length ≤ 60 → R (.ok (.ret (.str text t))) { s with heap := h', toks := tk' }) :
    codeAny (model PP w) (ktrTop dp un gd cn cs L a ccd cl outer) (.call (.ref 89) ⟨[.ref l], []⟩) R s := by
  have hfill : (PySem.Challenge.rw_re0024_01, Mine.hd.heap_39) = (PySem.Challenge.rw_re0024_01, Mine.hd.heap_39) := by k_fill; rfl
  clear hfill
  w_on
  have hsep : ∀ p ∈ rest, p.1 ∉ ([] : List (Addr × Obj)).map (·.1) := fun _ _ h => nomatch h
  have N0 : News h₀ L s.heap ([] ++ rest) := N
  have hls : s.heap.IsList l vs.toArray := hl.at fun o e => F.keep l o e
  k_dflt (walk_at "m enterCR")
  with_reducible rename (∀ (b : Addr) (o : Obj), b ∉ _ → _ → _) => lG
  have hl2 := hls.at fun o e => lG l o (fun h => nomatch h) e
  refine wpAny_noRaise ?_
  repeat' ((fail_if_success (with_reducible show wpAny _ _ (eval (Expr.ListComp _ _ _ _) _) _ _ _)); (first | (k_unfold; (try dsimp only)) | (k_end; wrow_close) | walk1 | (dsimp only; walk1) | (leave1; walk_say "STEP leave1"; try dsimp only) | fail "no step"))
  k_dflt (refine LCg.ListComp_U (F₀ := by k_asm) (by with_unfolding_all rfl) (by decide) (by rfl) (by decide) (by rfl) ?_)
  repeat' ((fail_if_success (with_unfolding_all show LCg.CompSrc _ _ _ _ _ _ _ _ _ _ _ _ _ _)); (first | (k_unfold; (try dsimp only)) | (k_end; wrow_close) | walk1 | (dsimp only; walk1) | (leave1; walk_say "STEP leave1"; try dsimp only) | fail "no step"))
  with_reducible rename News _ _ _ _ => N1
  with_reducible rename Fr _ _ _ (bindL _ _ _) => F1
  with_reducible rename IntsAre _ (List.take 8 ns) => hI
  have hlw := hI.length
  k_dflt (refine LCg.CompSrc.ledger rfl F1 N1 (.head _) ?_ (fun g' => comp_pure (fun i y => Short y) ?_ ?_))
  · simp at hlw ⊢
    simp only [PySem.sizeLine_eq]; omega
  · intro i v I oI C oC D m₂ ys h tk E' hi hv hC hx F2 N2 off ne
    obtain ⟨k, t, e, hk⟩ := IntsAre.at hI i v (by simpa using hv)
    subst e
    k_steps
    exact LCg.CompEnd.intro F2 N2 _ (fun p hp => hp) off (.inr ⟨_, .head _, rfl, _, rfl⟩) ⟨rfl, _, _, rfl, by assumption⟩
  · intro ys hl hy
    obtain ⟨xs, hSx, hx8⟩ := shorts_strs hy
    have hxl := hSx.length
    have hlen8 : xs.length ≤ 8 := by simp at hlw hl hxl; omega
    have hsum := sum_le_of hx8
    have hj := join_len xs
    k_steps
    with_reducible rename News _ _ _ (_ :: _ :: _ :: _) => N2
    k_dflt (refine join_listW (items := ys.toArray) (ys := xs) ?j1 ?j2 ?j3 ?j4 ?_)
    case j1 => exact PySem.IsL.isList (N2 _ (.head _)).1
    case j2 => exact hSx
    case j3 => decide +kernel
    case j4 => omega
    intro t' k'
    have hlit : (Str.ofString " a\\ b \"c\\\" d\" e").length ≤ 20 := by decide +kernel
    k_steps
    with_reducible rename Fr h₀ L _ _ => kF
    intro NR _
    exact hR _ _ _ _ kF NR (by rw [Str.length_append]; omega)
end
section
set_option compiler.extract_closed false
open PySem PySem.W PySem.Calls PyProof.Rows
set_option Elab.async false
set_option maxRecDepth 100000
noncomputable def laDef : Stmt := nth PP.main.body 13
noncomputable def laScope : Scope := scopeOf laDef
noncomputable def laS1 : List Stmt := (bodyOf laDef).take 5
noncomputable def laS2 : List Stmt := (bodyOf laDef).drop 5
noncomputable abbrev laCl (cn cz : Nat) : List (Str × Addr) := [(Str.ofString "n", cn), (Str.ofString "size", cz)]
noncomputable abbrev laEnv (L fa : Nat) (cd : Value) (cn cz : Nat) : Env := envX (Str.ofString "law") laScope L fa cd (laCl cn cz)
noncomputable abbrev laTop (dp un : Nat) (gd : Option (List Code)) (L fa : Nat) (cd : Value) (cn cz : Nat) (outer : List Env) : Around := ktrTop dp un gd (Str.ofString "law") laScope L fa cd (laCl cn cz) outer
/-- the law's names behind the reading -/
noncomputable abbrev laMap (l : Nat) (text : Str) (tt : Tok) (wl el tl pl : Nat) (ln : Int) (ti : Tok) : Str → Option Value := fun y =>
  if y = Str.ofString "lines" then some (.int ln ti) else if y = Str.ofString "places" then some (.ref pl) else if y = Str.ofString "told" then some (.ref tl) else
  if y = Str.ofString "ends" then some (.ref el) else if y = Str.ofString "words" then some (.ref wl) else if y = Str.ofString "text" then some (.str text tt) else if y = Str.ofString "script" then some (.ref l) else none
end
section
set_option compiler.extract_closed false
open PySem PySem.W PyProof.Rows
set_option Elab.async false
/-! the law's own cutting into words tells what the lexer tells -/
theorem ws_occ2 (c : Nat) : (Builtin.Str.occurrences (Str.ofString " \t\x0d\n") ⟨#[c]⟩ 0 (Str.ofString " \t\x0d\n").length 1).isEmpty = !ws c := by
  have h := StrLaws.found_one (Str.ofString " \t\x0d\n") c
  have e : (Str.ofString " \t\x0d\n").cps.toList = [32, 9, 13, 10] := by decide +kernel
  rw [e] at h
  have h2 : ws c = decide (c ∈ [32, 9, 13, 10]) := by
    unfold ws
    rw [Bool.eq_iff_iff]
    simp
    constructor
    · rintro (((h | h) | h) | h) <;> simp [h]
    · rintro (h | h | h | h) <;> simp [h]
  rw [h2, ← h, Bool.not_not]
theorem quote_occ (c : Nat) : (Builtin.Str.occurrences (Str.ofString "\"") ⟨#[c]⟩ 0 (Str.ofString "\"").length 1).isEmpty = !decide (c = 34) := by
  have h := StrLaws.found_one (Str.ofString "\"") c
  have e : (Str.ofString "\"").cps.toList = [34] := by decide +kernel
  rw [e] at h
  have h2 : decide (c = 34) = decide (c ∈ [34]) := by
    rw [Bool.eq_iff_iff]; simp
  rw [h2, ← h, Bool.not_not]
theorem stop_bare (c : Nat) (k : Int) : lwStop false ⟨true, ⟨#[c]⟩, k⟩ = ws c := by
  simp only [lwStop, Bool.true_and]
  rw [if_neg (by decide), ws_occ2, Bool.not_not]
theorem stop_quote (c : Nat) (k : Int) : lwStop true ⟨true, ⟨#[c]⟩, k⟩ = decide (c = 34) := by
  simp only [lwStop, Bool.true_and, if_true]
  rw [quote_occ, Bool.not_not]
theorem stop_esc (q : Bool) (x : Str) (k : Int) : lwStop q ⟨false, x, k⟩ = false := rfl
noncomputable def chars (l : List Sg) : List Nat := (l.map (·.sign.cps.toList)).flatten
theorem cat_chars (l : List Sg) : (cat l).cps.toList = chars l := by
  unfold cat chars
  rw [join_cps, List.map_map]
  rfl
theorem chars_cons (g : Sg) (l : List Sg) : chars (g :: l) = g.sign.cps.toList ++ chars l := rfl
theorem sgn_e {k : Int} : sgn k [92] = [⟨false, ⟨#[]⟩, k + 2⟩] := by rw [sgn.eq_def]; simp
theorem sgn_d {k : Int} {d : Nat} {r : List Nat} : sgn k (92 :: d :: r) = ⟨false, ⟨#[d]⟩, k + 2⟩ :: sgn (k + 2) r := by rw [sgn.eq_def]; simp
/-- a word, read sign by sign -/
noncomputable def WordAt (lx : List Nat → List Nat → List Nat × Option (List Nat)) (q : Bool) (k : Int) (r acc : List Nat) : Prop :=
  ((sgn k r).dropWhile (fun g => !lwStop q g) = [] ∧ lx acc r = (acc ++ chars ((sgn k r).takeWhile (fun g => !lwStop q g)), none)) ∨
  (∃ e r', (sgn k r).dropWhile (fun g => !lwStop q g) = e :: sgn e.fin r' ∧ lx acc r = (acc ++ chars ((sgn k r).takeWhile (fun g => !lwStop q g)), some r') ∧ e.fin = k + r.length - r'.length)
theorem wordAt (lx : List Nat → List Nat → List Nat × Option (List Nat)) (q : Bool) (stop : Nat → Bool) (h0 : ∀ acc, lx acc [] = (acc, none)) (h1 : ∀ acc c r, stop c = true → lx acc (c :: r) = (acc, some r)) (hs : ∀ c k, lwStop q ⟨true, ⟨#[c]⟩, k⟩ = stop c) (h92 : stop 92 = false)
    (h2 : ∀ acc, lx acc [92] = (acc, none)) (h3 : ∀ acc d r, lx acc (92 :: d :: r) = lx (acc ++ [d]) r) (h4 : ∀ acc c r, stop c = false → c ≠ 92 → lx acc (c :: r) = lx (acc ++ [c]) r) :
    ∀ (n : Nat) (r acc : List Nat) (k : Int), r.length ≤ n → WordAt lx q k r acc
  | 0, r, acc, k, hn => by
    have : r = [] := List.eq_nil_of_length_eq_zero (by omega)
    subst this
    exact .inl ⟨by rw [sgn_nil]; rfl, by rw [h0, sgn_nil]; simp [chars]⟩
  | n + 1, [], acc, k, hn => .inl ⟨by rw [sgn_nil]; rfl, by rw [h0, sgn_nil]; simp [chars]⟩
  | n + 1, c :: r, acc, k, hn => by
    simp only [List.length_cons] at hn
    by_cases hc : c = 92
    · subst hc
      cases r with
      | nil =>
        refine .inl ⟨?_, ?_⟩
        · rw [sgn_e]; simp [List.dropWhile, stop_esc]
        · rw [h2, sgn_e]; simp [List.takeWhile, stop_esc, chars]
      | cons d r =>
        simp only [List.length_cons] at hn
        have hd : (sgn k (92 :: d :: r)).dropWhile (fun g => !lwStop q g) = (sgn (k + 2) r).dropWhile (fun g => !lwStop q g) := by rw [sgn_d]; simp [List.dropWhile, stop_esc]
        have ht : (sgn k (92 :: d :: r)).takeWhile (fun g => !lwStop q g) = ⟨false, ⟨#[d]⟩, k + 2⟩ :: (sgn (k + 2) r).takeWhile (fun g => !lwStop q g) := by rw [sgn_d]; simp [List.takeWhile, stop_esc]
        unfold WordAt
        rw [hd, ht, h3, chars_cons]
        rcases wordAt lx q stop h0 h1 hs h92 h2 h3 h4 n r (acc ++ [d]) (k + 2) (by omega) with ⟨a, b⟩ | ⟨e, r', a, b, f⟩
        · exact .inl ⟨a, by rw [b]; simp⟩
        · exact .inr ⟨e, r', a, by rw [b]; simp, by rw [f]; simp only [List.length_cons]; omega⟩
    · cases hst : stop c with
      | true =>
        refine .inr ⟨⟨true, ⟨#[c]⟩, k + 1⟩, r, ?_, ?_, ?_⟩
        · rw [sgn_bare hc]; simp [List.dropWhile, hs, hst]
        · rw [h1 _ _ _ hst, sgn_bare hc]; simp [List.takeWhile, hs, hst, chars]
        · simp only [List.length_cons]; omega
      | false =>
        have hd : (sgn k (c :: r)).dropWhile (fun g => !lwStop q g) = (sgn (k + 1) r).dropWhile (fun g => !lwStop q g) := by rw [sgn_bare hc]; simp [List.dropWhile, hs, hst]
        have ht : (sgn k (c :: r)).takeWhile (fun g => !lwStop q g) = ⟨true, ⟨#[c]⟩, k + 1⟩ :: (sgn (k + 1) r).takeWhile (fun g => !lwStop q g) := by rw [sgn_bare hc]; simp [List.takeWhile, hs, hst]
        unfold WordAt
        rw [hd, ht, h4 _ _ _ hst hc, chars_cons]
        rcases wordAt lx q stop h0 h1 hs h92 h2 h3 h4 n r (acc ++ [c]) (k + 1) (by omega) with ⟨a, b⟩ | ⟨e, r', a, b, f⟩
        · exact .inl ⟨a, by rw [b]; simp⟩
        · exact .inr ⟨e, r', a, by rw [b]; simp, by rw [f]; simp only [List.length_cons]; omega⟩
theorem wordB (r acc : List Nat) (k : Int) : WordAt lexB false k r acc :=
  wordAt lexB false ws (fun _ => lexB_nil) (fun _ _ _ h => lexB_ws h) stop_bare (by decide) (fun _ => lexB_esc_nil) (fun _ _ _ => lexB_esc) (fun _ _ _ h h' => lexB_plain h h') _ r acc k (Nat.le_refl _)
theorem wordQ (r acc : List Nat) (k : Int) : WordAt lexQ true k r acc :=
  wordAt lexQ true (fun c => decide (c = 34)) (fun _ => lexQ_nil) (fun _ c _ h => by have := of_decide_eq_true h; subst this; exact lexQ_end) stop_quote (by decide) (fun _ => lexQ_esc_nil) (fun _ _ _ => lexQ_esc) (fun _ c _ h h' => lexQ_plain (of_decide_eq_false h) h') _ r acc k (Nat.le_refl _)
theorem sgn_len : ∀ (n : Nat) (k : Int) (r : List Nat), r.length ≤ n → (sgn k r).length ≤ r.length
  | 0, k, r, hn => by
    have : r = [] := List.eq_nil_of_length_eq_zero (by omega)
    subst this; rw [sgn_nil]; exact Nat.le_refl _
  | n + 1, k, [], hn => by rw [sgn_nil]; exact Nat.le_refl _
  | n + 1, k, c :: r, hn => by
    simp only [List.length_cons] at hn ⊢
    by_cases hc : c = 92
    · subst hc
      cases r with
      | nil => rw [sgn_e]; simp
      | cons d r =>
        simp only [List.length_cons] at hn ⊢
        rw [sgn_d, List.length_cons]
        have := sgn_len n (k + 2) r (by omega)
        omega
    · rw [sgn_bare hc, List.length_cons]
      have := sgn_len n (k + 1) r (by omega)
      omega
noncomputable def told (x : List (Str × Int) × Str) (len : Int) : List (List Nat × Int) := x.1.map (fun p => (p.1.cps.toList, p.2)) ++ [(x.2.cps.toList, len)]
theorem lwRun_body {f : Nat} {g : Sg} {r : List Sg} (hs : lwStop false g = false) :
    lwRun (f + 1) (g :: r) = match (if (g.bare && (g.sign == Str.ofString "\"")) then r else g :: r).dropWhile (fun h => !lwStop (g.bare && (g.sign == Str.ofString "\"")) h) with
      | [] => ([], cat ((if (g.bare && (g.sign == Str.ofString "\"")) then r else g :: r).takeWhile (fun h => !lwStop (g.bare && (g.sign == Str.ofString "\"")) h)))
      | e :: r' => ((cat ((if (g.bare && (g.sign == Str.ofString "\"")) then r else g :: r).takeWhile (fun h => !lwStop (g.bare && (g.sign == Str.ofString "\"")) h)), e.fin) :: (lwRun f r').1, (lwRun f r').2) := by
  simp only [lwRun, hs]
  rfl
theorem read_more (f : Nat) (len : Int) (c : Nat) (r : List Nat) (hw : ws c = true) : readW (f + 1) len (c :: r) = readW (f + 1) len r := by
  unfold readW; rw [lexT_ws hw]
/-- both tell the same -/
theorem words_same : ∀ (n : Nat) (r : List Nat) (k len : Int) (f g : Nat), r.length ≤ n → k + r.length = len → (sgn k r).length ≤ f → r.length < g → told (lwRun f (sgn k r)) len = readW g len r
  | n, [], k, len, f, 0, hn, hk, hf, hg => absurd hg (Nat.not_lt_zero _)
  | n, c :: r, k, len, f, 0, hn, hk, hf, hg => absurd hg (Nat.not_lt_zero _)
  | n, [], k, len, f, g + 1, hn, hk, hf, hg => by
    rw [sgn_nil]
    have : lwRun f [] = ([], Str.ofString "") := by cases f <;> rfl
    rw [this]
    unfold readW
    rw [lexT_nil]
    rfl
  | 0, c :: r, k, len, f, g + 1, hn, hk, hf, hg => absurd hn (by simp)
  | n + 1, c :: r, k, len, f, g + 1, hn, hk, hf, hg => by
    simp only [List.length_cons] at hn hk hg
    -- one word more: what both do with it
    have fin : ∀ (lx : List Nat → List Nat → List Nat × Option (List Nat)) (q : Bool) (k' : Int) (r2 x : List Nat) (pre : List Sg) (f' : Nat), r2.length ≤ n → k' + r2.length = len → (sgn k' r2).length ≤ f' → chars pre = x → WordAt lx q k' r2 x → lexT (c :: r) = lx x r2 →
        told (match (sgn k' r2).dropWhile (fun h => !lwStop q h) with
          | [] => ([], cat (pre ++ (sgn k' r2).takeWhile (fun h => !lwStop q h)))
          | e :: r' => ((cat (pre ++ (sgn k' r2).takeWhile (fun h => !lwStop q h)), e.fin) :: (lwRun f' r').1, (lwRun f' r').2)) len = readW (g + 1) len (c :: r) := by
      intro lx q k' r2 x pre f' h1 h2 h3 hx hW hT
      unfold readW
      rw [hT]
      have hc : (cat (pre ++ (sgn k' r2).takeWhile (fun h => !lwStop q h))).cps.toList = x ++ chars ((sgn k' r2).takeWhile (fun h => !lwStop q h)) := by
        rw [cat_chars]; unfold chars at *; rw [List.map_append, List.flatten_append, hx]
      rcases hW with ⟨a, b⟩ | ⟨e, r', a, b, hf'⟩
      · rw [a, b]
        simp only [told, List.map_nil, List.nil_append, hc]
      · rw [a, b]
        have hlt2 := lexT_lt (c :: r) _ r' (hT.trans b)
        simp only [List.length_cons] at hlt2
        have hdl : (sgn e.fin r').length < (sgn k' r2).length := by
          have := drop_lt a; exact this
        have ih := words_same n r' e.fin len f' g (by omega) (by omega) (by omega) (by omega)
        simp only [told] at ih ⊢
        rw [← ih]
        simp only [List.map_cons, List.cons_append, hc]
        rw [show len - (r'.length : Int) = e.fin by omega]
    cases hw : ws c with
    | true =>
      have hc : c ≠ 92 := by rintro rfl; simp [ws] at hw
      rw [sgn_bare hc] at hf ⊢
      rw [read_more _ _ _ _ hw]
      simp only [List.length_cons] at hf
      obtain ⟨f', rfl⟩ : ∃ f', f = f' + 1 := ⟨f - 1, by omega⟩
      have e : lwRun (f' + 1) (⟨true, ⟨#[c]⟩, k + 1⟩ :: sgn (k + 1) r) = lwRun f' (sgn (k + 1) r) := by
        simp only [lwRun, stop_bare, hw, if_true]
      rw [e]
      exact words_same n r (k + 1) len f' (g + 1) (by omega) (by omega) (by omega) (by omega)
    | false =>
      by_cases hc : c = 92
      · subst hc
        cases r with
        | nil =>
          rw [sgn_e] at hf ⊢
          simp only [List.length_cons] at hf
          obtain ⟨f', rfl⟩ : ∃ f', f = f' + 1 := ⟨f - 1, by omega⟩
          unfold readW
          rw [show lexT [92] = ([], none) from by rw [lexT.eq_def]; simp [ws], lwRun_body (stop_esc _ _ _)]
          simp [List.dropWhile, List.takeWhile, stop_esc, told, cat_chars, chars]
        | cons d r =>
          rw [sgn_d] at hf ⊢
          simp only [List.length_cons] at hf hn hk
          obtain ⟨f', rfl⟩ : ∃ f', f = f' + 1 := ⟨f - 1, by omega⟩
          rw [lwRun_body (stop_esc _ _ _)]
          have := fin lexB false (k + 2) r [d] [⟨false, ⟨#[d]⟩, k + 2⟩] f' (by omega) (by omega) (by omega) rfl (wordB r [d] (k + 2)) (by rw [lexT.eq_def]; simp [ws])
          simpa [List.dropWhile, List.takeWhile, stop_esc] using this
      · rw [sgn_bare hc] at hf ⊢
        simp only [List.length_cons] at hf
        obtain ⟨f', rfl⟩ : ∃ f', f = f' + 1 := ⟨f - 1, by omega⟩
        have hs : lwStop false ⟨true, ⟨#[c]⟩, k + 1⟩ = false := by rw [stop_bare, hw]
        rw [lwRun_body hs]
        by_cases hq : c = 34
        · subst hq
          have hqs : ((true : Bool) && ((⟨#[34]⟩ : Str) == Str.ofString "\"")) = true := by rw [quote_sign]; rfl
          simp only [hqs, if_true]
          exact fin lexQ true (k + 1) r [] [] f' (by omega) (by omega) (by omega) rfl (wordQ r [] (k + 1)) lexT_quote
        · have hqs : ((true : Bool) && ((⟨#[c]⟩ : Str) == Str.ofString "\"")) = false := by rw [one_eq c 34 _ quote_sign]; simp [hq]
          simp only [hqs, Bool.false_eq_true, if_false]
          have := fin lexB false (k + 1) r [c] [⟨true, ⟨#[c]⟩, k + 1⟩] f' (by omega) (by omega) (by omega) rfl (wordB r [c] (k + 1)) (lexT_plain hw hq hc)
          simpa [List.dropWhile, List.takeWhile, hs] using this
theorem words_law (text : Str) : told (lwAll text) text.length = readAll text := by
  unfold lwAll readAll
  exact words_same _ _ 0 _ _ _ (Nat.le_refl _) (by rw [len_list]; omega) (Nat.le_refl _) (by rw [len_list]; omega)
end
section
set_option compiler.extract_closed false
open PySem PySem.W PySem.Calls PyProof.Rows PySem.Float64
set_option Elab.async false
set_option maxRecDepth 100000
/-! floats that are whole -/
noncomputable def Whole (x : UInt64) (q : Int) : Prop := ∃ a m e, decode x = .fin a m e ∧ val x = q * 2 ^ 1074
theorem whole_cmp {x : UInt64} {q : Int} (h : Whole x q) : cmpInt x q = some .eq := by
  obtain ⟨a, m, e, hd, hv⟩ := h
  rw [cmpInt_right hd, hv]
  simp
theorem V_of_small {W : Nat} (h : W < 2 ^ 53) : ∃ t, V t = W * 2 ^ 1074 := by
  by_cases h0 : W = 0
  · exact ⟨0, by rw [h0, Nat.zero_mul]; exact V_zero⟩
  · have hl : W.log2 < 53 := (Nat.log2_lt h0).mpr h
    have h1 : 2 ^ W.log2 ≤ W := Nat.log2_self_le h0
    have h2 : W < 2 ^ (W.log2 + 1) := Nat.lt_log2_self
    refine ⟨(1074 - (52 - W.log2)) * 2 ^ 52 + W * 2 ^ (52 - W.log2), ?_⟩
    have e1 : W.log2 + (52 - W.log2) = 52 := by omega
    have lo : 2 ^ 52 ≤ W * 2 ^ (52 - W.log2) := by
      calc 2 ^ 52 = 2 ^ W.log2 * 2 ^ (52 - W.log2) := by rw [← Nat.pow_add, e1]
        _ ≤ _ := Nat.mul_le_mul_right _ h1
    have hi : W * 2 ^ (52 - W.log2) ≤ 2 ^ 53 := by
      calc W * 2 ^ (52 - W.log2) ≤ 2 ^ (W.log2 + 1) * 2 ^ (52 - W.log2) := Nat.mul_le_mul_right _ (Nat.le_of_lt h2)
        _ = 2 ^ 53 := by rw [← Nat.pow_add]; congr 1; omega
    rw [V_at hi (.inl lo), Nat.mul_assoc, ← Nat.pow_add]
    congr 2; omega
theorem dist_zero {a b : Nat} (h : dist a b = 0) : a = b := Nat.le_antisymm (Nat.le_of_sub_eq_zero (Nat.eq_zero_of_add_eq_zero_right h)) (Nat.le_of_sub_eq_zero (Nat.eq_zero_of_add_eq_zero_left h))
theorem big_V : ∀ W : Nat, W < 2 ^ 53 → 2 * (W * 2 ^ 1074) < 1 * ((2 ^ 54 - 1) * 2 ^ 2045) := by
  intro W h
  have e : (2 : Nat) ^ 2045 = 2 ^ 971 * 2 ^ 1074 := by rw [← Nat.pow_add]
  rw [e, Nat.one_mul, ← Nat.mul_assoc, ← Nat.mul_assoc]
  refine Nat.mul_lt_mul_of_pos_right ?_ (Nat.two_pow_pos _)
  have h1 : (1 : Nat) ≤ 2 ^ 971 := Nat.one_le_two_pow
  calc 2 * W < 2 ^ 54 - 1 := by omega
    _ = (2 ^ 54 - 1) * 1 := by rw [Nat.mul_one]
    _ ≤ _ := Nat.mul_le_mul_left _ h1
theorem whole_frac {q d : Int} (hd : 0 < d) (hq : q.natAbs < 2 ^ 53) : Whole (fdivI (q * d) d) q := by
  have hneg : (decide (q * d < 0) != decide (d < 0)) = decide (q < 0) := by
    rw [show decide (d < 0) = false from decide_eq_false (by omega), Bool.bne_false]
    apply decide_eq_decide.mpr
    constructor
    · intro h
      rcases Int.lt_or_le q 0 with h1 | h1
      · exact h1
      · have := Int.mul_nonneg h1 (Int.le_of_lt hd); omega
    · intro h; exact Int.mul_neg_of_neg_of_pos h hd
  unfold fdivI
  rw [hneg, Int.natAbs_mul]
  obtain ⟨t, hr, ht, hov, hnear⟩ := ofFrac_right (neg := decide (q < 0)) (n := q.natAbs * d.natAbs) (d := d.natAbs) (W := q.natAbs * 2 ^ 1074) (D := 1) (by omega) (by rw [Nat.mul_one, Nat.mul_right_comm]) (by decide)
  have hlt : t < infMag := by
    rcases Nat.lt_or_ge t infMag with h | h
    · exact h
    · have := hov.mp (by omega)
      have := big_V _ hq
      omega
  obtain ⟨t', ht'⟩ := V_of_small hq
  have hz := (hnear hlt t').1
  rw [Nat.one_mul, Nat.one_mul, ht'] at hz
  have hd0 : dist (q.natAbs * 2 ^ 1074) (q.natAbs * 2 ^ 1074) = 0 := by unfold dist; omega
  rw [hd0] at hz
  have hV : V t = q.natAbs * 2 ^ 1074 := (dist_zero (Nat.le_zero.mp hz)).symm
  obtain ⟨m, e, hdec, hm⟩ := decode_pack (decide (q < 0)) hlt
  rw [hr]
  refine ⟨_, m, e, hdec, ?_⟩
  rw [val_pack _ hlt, hV]
  unfold PySem.Float64.sgn
  by_cases hq0 : q < 0
  · rw [if_pos (decide_eq_true hq0), Int.natCast_mul, ← Int.neg_mul]
    congr 1; omega
  · rw [if_neg (by rw [decide_eq_false hq0]; simp), Int.natCast_mul]
    congr 1; omega
/-! the cuts -/
theorem getD_app_l {l r : List Int} {i : Nat} (h : i < l.length) : (l ++ r).getD i 0 = l.getD i 0 := by
  rw [List.getD_eq_getElem?_getD, List.getElem?_append_left h, ← List.getD_eq_getElem?_getD]
theorem getD_app_r {l r : List Int} {i : Nat} (h : l.length ≤ i) : (l ++ r).getD i 0 = r.getD (i - l.length) 0 := by
  rw [List.getD_eq_getElem?_getD, List.getElem?_append_right h, ← List.getD_eq_getElem?_getD]
theorem wayAt_get {ns : List Int} {n : Int} {k st : Nat} (h : st < n.toNat) : (wayAt ns n k).getD st 0 = ns.getD k 0 * n + (ns.getD (k + 1) 0 - ns.getD k 0) * (st : Int) := by
  unfold wayAt
  rw [List.getD_eq_getElem?_getD, List.getElem?_map, List.getElem?_range h]
  rfl
theorem wayOf_get {ns : List Int} {n : Int} : ∀ (K j st : Nat), j < K → st < n.toNat → (wayOf ns n K).getD (j * n.toNat + st) 0 = ns.getD j 0 * n + (ns.getD (j + 1) 0 - ns.getD j 0) * (st : Int)
  | 0, j, st, h, _ => absurd h (Nat.not_lt_zero _)
  | K + 1, j, st, h, hs => by
    unfold wayOf
    by_cases hj : j < K
    · rw [getD_app_l (by
        rw [wayOf_len]
        calc j * n.toNat + st < j * n.toNat + n.toNat := by omega
          _ = (j + 1) * n.toNat := by rw [Nat.succ_mul]
          _ ≤ _ := Nat.mul_le_mul_right _ hj)]
      exact wayOf_get K j st hj hs
    · have : j = K := by omega
      subst this
      rw [getD_app_r (by rw [wayOf_len]; omega), wayOf_len, Nat.add_sub_cancel_left]
      exact wayAt_get hs
/-- the law's cut, told by its place -/
theorem cut_at {ns : List Int} {n k : Int} (h1 : 1 ≤ k) (h2 : k < n) (hl : 2 ≤ ns.length) :
    (wayOf ns n (ns.length - 1)).getD (k * (ns.length - 1)).toNat 0 =
      ns.getD ((k * (ns.length - 1)).fdiv n).toNat 0 * n + (ns.getD ((k * (ns.length - 1)).fdiv n + 1).toNat 0 - ns.getD ((k * (ns.length - 1)).fdiv n).toNat 0) * (k * (ns.length - 1)).fmod n := by
  obtain ⟨f1, f2, f3, f4, f5⟩ := frac_facts (m := (ns.length : Int) - 1) h1 h2 (by omega)
  generalize hj : (k * ((ns.length : Int) - 1)).fdiv n = j at *
  generalize hd : (k * ((ns.length : Int) - 1)).fmod n = d at *
  have e : (k * ((ns.length : Int) - 1)).toNat = j.toNat * n.toNat + d.toNat := by
    have h3 : ((j.toNat * n.toNat + d.toNat : Nat) : Int) = k * ((ns.length : Int) - 1) := by
      rw [f5, Int.natCast_add, Int.natCast_mul, Int.toNat_of_nonneg f1, Int.toNat_of_nonneg f3, Int.toNat_of_nonneg (by omega : 0 ≤ n), Int.mul_comm]
    rw [← h3, Int.toNat_natCast]
  rw [e, wayOf_get _ _ _ (by omega) (by omega), tnS f1, Int.toNat_of_nonneg f3]
theorem map_getD {items : List Int} {n : Int} (i : Nat) : (items.map (fun x => n * x)).getD i 0 = n * items.getD i 0 := by
  rw [List.getD_eq_getElem?_getD, List.getD_eq_getElem?_getD, List.getElem?_map]
  cases items[i]? <;> simp
theorem numI_cut {items : List Int} {n k : Int} (h1 : 1 ≤ k) (h2 : k < n) (hl : 2 ≤ items.length) :
    numI (items.map (fun x => n * x)) n k = (wayOf items n (items.length - 1)).getD (k * (items.length - 1)).toNat 0 * n := by
  rw [cut_at h1 h2 hl]
  unfold numI
  rw [map_getD, map_getD, List.length_map]
  generalize (k * ((items.length : Int) - 1)).fmod n = d
  generalize items.getD ((k * ((items.length : Int) - 1)).fdiv n).toNat 0 = a
  generalize items.getD ((k * ((items.length : Int) - 1)).fdiv n + 1).toNat 0 = b
  rw [Int.mul_comm (a * n + (b - a) * d) n, Int.mul_assoc, Int.mul_assoc, ← Int.mul_add]
  congr 1
  rw [Int.mul_sub, Int.sub_mul]
  omega
end
section
set_option compiler.extract_closed false
open PySem PySem.W PySem.Calls PyProof.Rows
set_option Elab.async false
set_option maxRecDepth 100000
theorem sorted_unique : ∀ {l r : List Int}, l.Perm r → l.Pairwise (· ≤ ·) → r.Pairwise (· ≤ ·) → l = r
  | [], r, h, _, _ => (List.Perm.nil_eq h)
  | a :: l, [], h, _, _ => absurd h.length_eq (by simp)
  | a :: l, b :: r, h, h1, h2 => by
    have hab : a = b := by
      have m1 : a ∈ b :: r := h.mem_iff.mp (.head _)
      have m2 : b ∈ a :: l := h.mem_iff.mpr (.head _)
      have c1 := List.pairwise_cons.mp h1
      have c2 := List.pairwise_cons.mp h2
      rcases List.mem_cons.mp m1 with e | e
      · exact e
      · rcases List.mem_cons.mp m2 with f | f
        · exact f.symm
        · exact Int.le_antisymm (c1.1 b f) (c2.1 a e)
    subst hab
    rw [sorted_unique (List.Perm.cons_inv h) (List.pairwise_cons.mp h1).2 (List.pairwise_cons.mp h2).2]
theorem pair_map {items : List Int} {n : Int} (hn : 0 ≤ n) (h : items.Pairwise (· ≤ ·)) : (items.map (fun x => n * x)).Pairwise (· ≤ ·) := by
  rw [List.pairwise_map]
  exact h.imp fun hab => Int.mul_le_mul_of_nonneg_left hab hn
noncomputable def wideOf (items : List Int) : List Int := [items.getD 0 0 * 2 - items.getD 1 0] ++ items ++ [items.getD (items.length - 1) 0 * 2 - items.getD (items.length - 2) 0]
theorem wide_len (items : List Int) : (wideOf items).length = items.length + 2 := by simp [wideOf]
theorem wide_0 (items : List Int) : (wideOf items).getD 0 0 = items.getD 0 0 * 2 - items.getD 1 0 := rfl
theorem wide_mid {items : List Int} {i : Nat} (h : i < items.length) : (wideOf items).getD (i + 1) 0 = items.getD i 0 := by
  unfold wideOf
  rw [List.append_assoc, List.cons_append, List.nil_append, List.getD_cons_succ, getD_app_l h]
theorem wide_last (items : List Int) : (wideOf items).getD (items.length + 1) 0 = items.getD (items.length - 1) 0 * 2 - items.getD (items.length - 2) 0 := by
  unfold wideOf
  rw [List.append_assoc, List.cons_append, List.nil_append, List.getD_cons_succ, getD_app_r (Nat.le_refl _), Nat.sub_self]
  rfl
theorem numE_cut {items : List Int} {n k : Int} (h1 : 1 ≤ k) (h2 : k < n) (hl : 2 ≤ items.length) :
    numE (items.map (fun x => n * x)) n k = (wayOf (wideOf items) n ((wideOf items).length - 1)).getD (k * ((wideOf items).length - 1)).toNat 0 * n := by
  rw [cut_at h1 h2 (by rw [wide_len]; omega)]
  unfold numE
  rw [List.length_map, wide_len, show (((items.length + 2 : Nat) : Int) - 1) = (items.length : Int) + 1 by omega]
  obtain ⟨f1, f2, f3, f4, f5⟩ := frac_facts (m := (items.length : Int) + 1) h1 h2 (by omega)
  generalize (k * ((items.length : Int) + 1)).fdiv n = j at *
  generalize (k * ((items.length : Int) + 1)).fmod n = d at *
  rw [f5]
  simp only [map_getD]
  by_cases hA : j < 1
  · have hj : j = 0 := by omega
    subst hj
    have hc : clip 1 ((items.length : Int) - 1) 0 = 1 := by unfold clip; rw [if_pos (by decide)]
    rw [hc, show (0 : Int).toNat = 0 from rfl, wide_0, show ((0 : Int) + 1).toNat = 0 + 1 from rfl, wide_mid (by omega), show ((1 : Int) - 1).toNat = 0 from rfl, show (1 : Int).toNat = 1 from rfl]
    generalize items.getD 0 0 = a
    generalize items.getD 1 0 = b
    rw [Int.mul_zero, Int.zero_add, Int.one_mul]
    have e1 : n * a * (n - (d - n)) = n * (a * (n - (d - n))) := Int.mul_assoc _ _ _
    have e2 : n * b * (d - n) = n * (b * (d - n)) := Int.mul_assoc _ _ _
    rw [e1, e2, ← Int.mul_add, Int.mul_comm _ n]
    congr 1
    simp only [Int.mul_sub, Int.sub_mul]
    have e3 : a * 2 * n = a * n + a * n := by rw [Int.mul_assoc, ← Int.mul_add]; congr 1; omega
    have e4 : a * 2 * d = a * d + a * d := by rw [Int.mul_assoc, ← Int.mul_add]; congr 1; omega
    omega
  · by_cases hB : j > (items.length : Int) - 1
    · have hj : j = items.length := by omega
      have hc : clip 1 ((items.length : Int) - 1) j = (items.length : Int) - 1 := by unfold clip; rw [if_neg hA, if_pos hB]
      rw [hc]
      subst hj
      have w1 : (wideOf items).getD ((items.length : Int).toNat) 0 = items.getD (items.length - 1) 0 := by
        rw [show ((items.length : Int)).toNat = (items.length - 1) + 1 by rw [Int.toNat_natCast]; omega]; exact wide_mid (by omega)
      have w2 : (wideOf items).getD ((items.length : Int) + 1).toNat 0 = items.getD (items.length - 1) 0 * 2 - items.getD (items.length - 2) 0 := by
        rw [show ((items.length : Int) + 1).toNat = items.length + 1 from rfl]; exact wide_last _
      rw [w1, w2, show ((items.length : Int) - 1 - 1).toNat = items.length - 2 by rw [Int.sub_sub]; exact Int.toNat_sub items.length 2, show ((items.length : Int) - 1).toNat = items.length - 1 from tn1]
      generalize items.getD (items.length - 1) 0 = a
      generalize items.getD (items.length - 2) 0 = b
      have e0 : n * (items.length : Int) + d - ((items.length : Int) - 1) * n = d + n := by
        rw [Int.sub_mul, Int.mul_comm n]; omega
      rw [e0]
      have e1 : n * b * (n - (d + n)) = n * (b * (n - (d + n))) := Int.mul_assoc _ _ _
      have e2 : n * a * (d + n) = n * (a * (d + n)) := Int.mul_assoc _ _ _
      rw [e1, e2, ← Int.mul_add, Int.mul_comm _ n]
      congr 1
      simp only [Int.mul_sub, Int.sub_mul, Int.mul_add]
      have e4 : a * 2 * d = a * d + a * d := by rw [Int.mul_assoc, ← Int.mul_add]; congr 1; omega
      omega
    · have hc : clip 1 ((items.length : Int) - 1) j = j := by unfold clip; rw [if_neg hA, if_neg hB]
      rw [hc]
      have w1 : (wideOf items).getD j.toNat 0 = items.getD (j - 1).toNat 0 := by
        rw [show j.toNat = (j - 1).toNat + 1 by rw [← tnA (by decide : (0 : Int) ≤ 1) (Int.not_lt.mp hA), Nat.add_comm]; rfl]; exact wide_mid (by omega)
      have w2 : (wideOf items).getD (j + 1).toNat 0 = items.getD j.toNat 0 := by
        rw [show (j + 1).toNat = j.toNat + 1 from tnS f1]; exact wide_mid (by omega)
      rw [w1, w2]
      generalize items.getD (j - 1).toNat 0 = a
      generalize items.getD j.toNat 0 = b
      have e0 : n * j + d - j * n = d := by rw [Int.mul_comm n]; omega
      rw [e0]
      have e1 : n * a * (n - d) = n * (a * (n - d)) := Int.mul_assoc _ _ _
      have e2 : n * b * d = n * (b * d) := Int.mul_assoc _ _ _
      rw [e1, e2, ← Int.mul_add, Int.mul_comm _ n]
      congr 1
      simp only [Int.mul_sub, Int.sub_mul]
      omega
end
section
open PySem PySem.W PySem.Calls PyProof.Rows
set_option compiler.extract_closed false
local macro_rules | `(tactic| walk_at "binaryOp Add ref ref") => `(tactic| (k_here; (with_reducible show wpAny _ _ (binaryOp _ (Value.ref _) (Value.ref _)) _ _ _); k_dflt (refine' Mine.lists_add (by k_asm) (by k_asm) (by k_mem) (by k_mem) (by simp only [List.length_append, List.length_cons, List.length_nil]; omega) ?_); intro D' h' F' N' l1; (try k_lt l1)))
local macro_rules | `(tactic| walk_at "binaryOp Mult int int") => `(tactic| (k_here; (with_reducible refine mul_int ?_ (Mine.mul_sm ?hsm)); (case hsm => first | assumption | exact (by assumption : ∀ i, Mine.Sm (List.getD _ i 0)) _ | (unfold Mine.Sm; omega))))
section
set_option compiler.extract_closed false
open PySem PySem.W PySem.Calls PyProof.Rows
set_option Elab.async false
set_option maxRecDepth 100000
set_option maxHeartbeats 8000000
set_option linter.unusedVariables false
set_option pp.deepTerms false
set_option pp.deepTerms.threshold 7
set_option pp.proofs false
set_option pp.maxSteps 3000
noncomputable def laIf : Stmt := nth (bodyOf laDef) 5
theorem same_words {pre : List (Str × Int)} {x : List (Str × Int) × Str} {len : Int} (h : pre.map (fun p => (p.1.cps.toList, p.2)) = told x len) : pre.map (·.1) = x.1.map (·.1) ++ [x.2] ∧ pre.map (·.2) = x.1.map (·.2) ++ [len] := by
  have e : told x len = (x.1 ++ [(x.2, len)]).map (fun p => (p.1.cps.toList, p.2)) := by simp [told]
  rw [e] at h
  have hp : pre = x.1 ++ [(x.2, len)] := by
    refine List.map_inj_right (fun a b hab => ?_) |>.mp h
    obtain ⟨h1, h2⟩ := Prod.mk.inj hab
    exact Prod.ext (str_of h1) h2
  rw [hp]
  simp
theorem cnt_nl : ∀ l : List Nat, cnt 10 l = nl l
  | [] => rfl
  | c :: r => by rw [nl_cons, ← cnt_nl r, cnt_cons]
theorem count_nl (text : Str) : Txt.count text (Str.ofString "\n") = nl text.cps.toList := by
  rw [nl_sign, count_cnt, cnt_nl]
local macro_rules | `(tactic| walk_at "compareOp NotEq ref ref") => `(tactic| (k_here; (with_reducible show wpAny _ _ (compareOp CmpOp.NotEq (Value.ref _) (Value.ref _)) _ _ _); (rw [count_nl] at *); k_dflt (refine' ne_three (by exact News.get (by k_asm) (by k_mem)) (by exact News.get (by k_asm) (by k_mem)) (by exact PySem.IsL.isList (News.get (by k_asm) (by k_mem))) (by exact PySem.IsL.isList (News.get (by k_asm) (by k_mem))) (by exact PySem.IsL.isList (News.get (by k_asm) (by k_mem))) (by exact PySem.IsL.isList (News.get (by k_asm) (by k_mem))) (by assumption) (by assumption) (by assumption) (by assumption) (by ktr_units) ?_; k_whole)))
theorem lawS2 {w : World} {p : Program} {loose : List Str} {mean : ExcName → Option Value} {mg mb : Str → Option Value} 
   {dp un : Nat} {gd : Option (List Code)} {outer : List Env} {A₀ : Around} {base h₀ : Heap} {L fa : Addr} {cd : Value} {s : Shared} {Q : Flow → Shared → Prop} {E : Value → Shared → Prop}
   {l cn cz wl el tl pl nw ne n1 n2 : Nat} {text : Str} {tt t : Tok} {wv ev its jts : Array Value} {WS : List Str} {IS : List Int} {rest : List (Addr × Obj)}
   (B : Below A₀ base outer h₀) (X : (Mine.hd.heap_39 w.params).In h₀) (T : Top p loose mean mg mb h₀)
   (hC : CodeHd base 100 96) (hd : dp + 60 < recursionLimit) (hu : un + 300 < cLine) (htx : text.length ≤ 60)
   (F : Fr h₀ L s.heap (laMap l text tt wl el tl pl (1 + nl text.cps.toList) t)) (N : News h₀ L s.heap ([(tl, W.listOf its n1), (pl, W.listOf jts n2), (wl, W.listOf wv nw), (el, W.listOf ev ne)] ++ rest))
   (h1 : StrsAre its.toList WS) (h2 : IntsAre jts.toList IS) (h3 : StrsAre wv.toList WS) (h4 : IntsAre ev.toList IS)
   (hend : ∀ h tk, Fr h₀ L h (laMap l text tt wl el tl pl (1 + nl text.cps.toList) t) → News h₀ L h ([(tl, W.listOf its n1), (pl, W.listOf jts n2), (wl, W.listOf wv nw), (el, W.listOf ev ne)] ++ rest) → Q .next { s with heap := h, toks := tk }) :
    wpAny (model PP w) (laTop dp un gd L fa cd cn cz outer) (exec laIf (laEnv L fa cd cn cz)) Q E s := by
  have hfill : (PySem.Challenge.rw_re0024_01, Mine.hd.heap_39) = (PySem.Challenge.rw_re0024_01, Mine.hd.heap_39) := by k_fill; rfl
  clear hfill
  w_on
  refine wpAny_noRaise ?_
  conv in laIf => whnf
  simp only [List.cons_append, List.nil_append] at N
  k_steps
  with_reducible rename News h₀ L _ _ => N1
  with_reducible rename Fr h₀ L _ _ => F1
  exact hend _ _ F1 (fun p hp => N1 p (.tail _ (.tail _ hp)))
end
section
open PySem PySem.W PySem.Calls PyProof.Rows
set_option compiler.extract_closed false
local macro_rules | `(tactic| walk_at "subscriptTail") => `(tactic| (k_here; (with_reducible show wpAny _ _ (subscriptTail _ _ (Value.ref _) (Value.int _ _)) _ _ _); k_dflt (first | (refine' Mine.ints_sub (by k_asm) (by k_mem) (by assumption) (by decide) (by omega) (by omega) ?_ (by with_unfolding_all rfl); k_whole) | (refine' Mine.ints_neg_sub (by k_asm) (by k_mem) (by assumption) (by decide) (by omega) (by omega) ?_ (by with_unfolding_all rfl); k_whole)); intro t9))
section
set_option compiler.extract_closed false
open PySem PySem.W PySem.Calls PyProof.Rows
set_option Elab.async false
set_option maxRecDepth 100000
set_option maxHeartbeats 8000000
set_option linter.unusedVariables false
set_option pp.deepTerms false
set_option pp.deepTerms.threshold 7
set_option pp.proofs false
set_option pp.maxSteps 3000
noncomputable def laItems : Stmt := nth (bodyOf laDef) 6
noncomputable def laWide : Stmt := nth (bodyOf laDef) 7
theorem s3_drop {h₀ h : Heap} {L : Addr} {a b c : Addr × Obj} {r : List (Addr × Obj)} (N : News h₀ L h (a :: b :: c :: r)) : News h₀ L h (a :: c :: r) := fun p hp => N p (by
  rcases List.mem_cons.mp hp with rfl | hp
  · exact .head _
  · exact .tail _ (.tail _ hp))
theorem s3_drop3 {h₀ h : Heap} {L : Addr} {a b c d e : Addr × Obj} {r : List (Addr × Obj)} (N : News h₀ L h (a :: b :: c :: d :: e :: r)) : News h₀ L h (a :: e :: r) := fun p hp => N p (by
  rcases List.mem_cons.mp hp with rfl | hp
  · exact .head _
  · exact .tail _ (.tail _ (.tail _ (.tail _ hp))))
theorem wide_ints {itv : List Value} {IT : List Int} {a b : Int} {t u : Tok} (h : IntsAre itv IT) (ha : a = IT.getD 0 0 * 2 - IT.getD 1 0) (hb : b = IT.getD (IT.length - 1) 0 * 2 - IT.getD (IT.length - 2) 0) : IntsAre ([Value.int a t] ++ itv ++ [Value.int b u]) (wideOf IT) := by
  subst ha hb
  exact IntsAre.append (IntsAre.append (.cons _ _ .nil) h) (.cons _ _ .nil)
theorem lawItems {w : World} {p : Program} {loose : List Str} {mean : ExcName → Option Value} {mg mb : Str → Option Value} 
   {dp un : Nat} {gd : Option (List Code)} {outer : List Env} {A₀ : Around} {base h₀ : Heap} {L fa : Addr} {cd : Value} {s : Shared} {Q : Flow → Shared → Prop} {E : Value → Shared → Prop}
   {l cn cz wl el tl pl ne : Nat} {text : Str} {tt t : Tok} {ln : Int} {evl : List Value} {IS : List Int} {rest : List (Addr × Obj)}
   (B : Below A₀ base outer h₀) (X : (Mine.hd.heap_39 w.params).In h₀) (T : Top p loose mean mg mb h₀)
   (hC : CodeHd base 100 96) (hd : dp + 60 < recursionLimit) (hu : un + 300 < cLine)
   (F : Fr h₀ L s.heap (laMap l text tt wl el tl pl ln t)) (N : News h₀ L s.heap ((el, W.listOf evl.toArray ne) :: rest))
   (h4 : IntsAre evl IS) (hz : IS.length ≤ 100)
   (hend : ∀ h tk it itv, Fr h₀ L h (fun y => if y = Str.ofString "items" then some (.ref it) else laMap l text tt wl el tl pl ln t y) → News h₀ L h ((it, W.listOf itv.toArray 0) :: (el, W.listOf evl.toArray ne) :: rest) → IntsAre itv (0 :: IS) → Q .next { s with heap := h, toks := tk }) :
    wpAny (model PP w) (laTop dp un gd L fa cd cn cz outer) (exec laItems (laEnv L fa cd cn cz)) Q E s := by
  have hfill : (PySem.Challenge.rw_re0024_01, Mine.hd.heap_39) = (PySem.Challenge.rw_re0024_01, Mine.hd.heap_39) := by k_fill; rfl
  clear hfill
  w_on
  refine wpAny_noRaise ?_
  have hev := h4.length
  conv in laItems => whnf
  k_steps
  with_reducible rename News h₀ L _ (_ :: _ :: _ :: rest) => N1
  with_reducible rename Fr h₀ L _ (fun y => if y = Str.ofString "items" then _ else _) => F1
  exact hend _ _ _ _ F1 (s3_drop N1) (.cons _ _ h4)
theorem lawWide {w : World} {p : Program} {loose : List Str} {mean : ExcName → Option Value} {mg mb : Str → Option Value} 
   {dp un : Nat} {gd : Option (List Code)} {outer : List Env} {A₀ : Around} {base h₀ : Heap} {L fa : Addr} {cd : Value} {s : Shared} {Q : Flow → Shared → Prop} {E : Value → Shared → Prop}
   {l cn cz wl el tl pl it : Nat} {text : Str} {tt t : Tok} {ln : Int} {itv : List Value} {IT : List Int} {rest : List (Addr × Obj)}
   (B : Below A₀ base outer h₀) (X : (Mine.hd.heap_39 w.params).In h₀) (T : Top p loose mean mg mb h₀)
   (hC : CodeHd base 100 96) (hd : dp + 60 < recursionLimit) (hu : un + 300 < cLine)
   (F : Fr h₀ L s.heap (fun y => if y = Str.ofString "items" then some (.ref it) else laMap l text tt wl el tl pl ln t y)) (N : News h₀ L s.heap ((it, W.listOf itv.toArray 0) :: rest))
   (hit : IntsAre itv IT) (hz : IT.length ≤ 101) (hz2 : 2 ≤ IT.length)
   (hend : ∀ h tk wd wdv, Fr h₀ L h (fun y => if y = Str.ofString "wide" then some (.ref wd) else if y = Str.ofString "items" then some (.ref it) else laMap l text tt wl el tl pl ln t y) → News h₀ L h ((wd, W.listOf wdv.toArray 0) :: (it, W.listOf itv.toArray 0) :: rest) → IntsAre wdv (wideOf IT) → Q .next { s with heap := h, toks := tk }) :
    wpAny (model PP w) (laTop dp un gd L fa cd cn cz outer) (exec laWide (laEnv L fa cd cn cz)) Q E s := by
  have hfill : (PySem.Challenge.rw_re0024_01, Mine.hd.heap_39) = (PySem.Challenge.rw_re0024_01, Mine.hd.heap_39) := by k_fill; rfl
  clear hfill
  w_on
  refine wpAny_noRaise ?_
  have hitl := hit.length
  conv in laWide => whnf
  k_steps
  with_reducible rename News h₀ L _ _ => N1
  with_reducible rename Fr h₀ L _ _ => F1
  exact hend _ _ _ _ F1 (s3_drop3 N1) (wide_ints hit rfl (by rw [show ((-1 : Int) + (IT.length : Int)).toNat = IT.length - 1 by omega, show ((-2 : Int) + (IT.length : Int)).toNat = IT.length - 2 by omega]))
end
section
set_option compiler.extract_closed false
open PySem PySem.W PySem.Calls PyProof.Rows
set_option Elab.async false
set_option maxRecDepth 100000
set_option maxHeartbeats 8000000
set_option linter.unusedVariables false
set_option pp.deepTerms false
set_option pp.deepTerms.threshold 7
set_option pp.proofs false
set_option pp.maxSteps 3000
noncomputable def laData : Stmt := nth (bodyOf laDef) 8
theorem lawData {w : World} {p : Program} {loose : List Str} {mean : ExcName → Option Value} {mg mb : Str → Option Value} 
   {dp un : Nat} {gd : Option (List Code)} {outer : List Env} {A₀ : Around} {base h₀ : Heap} {L fa : Addr} {cd : Value} {s : Shared} {Q : Flow → Shared → Prop} {E : Value → Shared → Prop}
   {l cn cz wl el tl pl it wd np tn : Nat} {text : Str} {tt t : Tok} {ln nn : Int} {plv : List Value} {PL : List Int} {on oz : Obj} {vz : Option Value} {rest : List (Addr × Obj)}
   (B : Below A₀ base outer h₀) (X : (Mine.hd.heap_39 w.params).In h₀) (T : Top p loose mean mg mb h₀)
   (hC : CodeHd base 100 96) (hd : dp + 60 < recursionLimit) (hu : un + 300 < cLine)
   (F : Fr h₀ L s.heap (fun y => if y = Str.ofString "wide" then some (.ref wd) else if y = Str.ofString "items" then some (.ref it) else laMap l text tt wl el tl pl ln t y)) (N : News h₀ L s.heap ((pl, W.listOf plv.toArray np) :: (cn, on) :: (cz, oz) :: rest))
   (hpl : IntsAre plv PL) (hz : PL.length ≤ 62) (dn : on.data = .cell (some (.int nn tn))) (dz : oz.data = .cell vz) (hn : 2 ≤ nn) (hn7 : nn ≤ 7)
   (hend : ∀ h tk dd dv, Fr h₀ L h (fun y => if y = Str.ofString "data" then some (.ref dd) else if y = Str.ofString "wide" then some (.ref wd) else if y = Str.ofString "items" then some (.ref it) else laMap l text tt wl el tl pl ln t y) →
     News h₀ L h ((dd, W.listOf dv.toArray 0) :: (pl, W.listOf plv.toArray np) :: (cn, on) :: (cz, oz) :: rest) → IntsAre dv ((0 :: PL).map (fun x => nn * x)).reverse → Q .next { s with heap := h, toks := tk }) :
    wpAny (model PP w) (laTop dp un gd L fa cd cn cz outer) (exec laData (laEnv L fa cd cn cz)) Q E s := by
  have hfill : (PySem.Challenge.rw_re0024_01, Mine.hd.heap_39) = (PySem.Challenge.rw_re0024_01, Mine.hd.heap_39) := by k_fill; rfl
  clear hfill
  w_on
  refine wpAny_noRaise ?_
  have hpll := hpl.length
  conv in laData => whnf
  repeat' ((fail_if_success (with_reducible show wpAny _ _ (eval (Expr.ListComp _ _ _ _) _) _ _ _)); (first | (k_unfold; (try dsimp only)) | (k_end; wrow_close) | walk1 | (dsimp only; walk1) | (leave1; walk_say "STEP leave1"; try dsimp only) | fail "no step"))
  k_dflt (refine LCg.ListComp_U (F₀ := by k_asm) (by with_unfolding_all rfl) (by decide) (by rfl) (by decide) (by rfl) ?_)
  repeat' ((fail_if_success (with_unfolding_all show LCg.CompSrc _ _ _ _ _ _ _ _ _ _ _ _ _ _)); (first | (k_unfold; (try dsimp only)) | (k_end; wrow_close) | walk1 | (dsimp only; walk1) | (leave1; walk_say "STEP leave1"; try dsimp only) | fail "no step"))
  with_reducible rename News h₀ L _ (_ :: _ :: _ :: _ :: _ :: rest) => N1
  with_reducible rename Fr h₀ L _ _ => F1
  k_dflt (refine LCg.CompSrc.ledger rfl F1 N1 (.head _) (by simp only [PySem.sizeLine_eq, List.size_toArray, List.length_append, List.length_cons, List.length_nil]; omega) (fun g' => comp_pure (fun i y => ∃ x, (0 :: PL)[i]? = some x ∧ ∃ t, y = Value.int (nn * x) t) ?_ ?_))
  · intro i v I oI C oC D m₂ ys h tk E' hi hv hC hx F3 N3 off ne
    obtain ⟨x, t9, hx9, rfl⟩ : ∃ x t, (0 :: PL)[i]? = some x ∧ v = Value.int x t := by
      cases i with
      | zero => simp at hv; exact ⟨0, _, rfl, hv.symm⟩
      | succ j =>
        obtain ⟨x, t, e1, e2⟩ := IntsAre.at hpl j v (by simpa using hv)
        exact ⟨x, t, by simpa using e2, e1⟩
    k_steps
    exact LCg.CompEnd.intro (by k_asm) N3 _ (fun p hp => hp) off (.inr ⟨_, .head _, rfl, _, rfl⟩) ⟨rfl, x, hx9, _, rfl⟩
  · intro ys hl hy
    have hiy : IntsAre ys ((0 :: PL).map (fun x => nn * x)) := ints_at (by simp at hl ⊢; omega) fun i y h => hy i y h
    have hyl := hiy.length
    simp only [List.length_map, List.length_cons] at hyl
    k_steps
    with_reducible rename News h₀ L _ _ => N5
    with_reducible rename Fr h₀ L _ _ => F5
    with_reducible rename IntsAre _ (List.reverse _) => hI5
    exact hend _ _ _ _ F5 (s3_drop3 N5) hI5
end
end
section
set_option compiler.extract_closed false
open PySem PySem.W PySem.Calls PyProof.Rows
set_option Elab.async false
set_option maxRecDepth 100000
set_option maxHeartbeats 8000000
set_option linter.unusedVariables false
set_option pp.deepTerms false
set_option pp.deepTerms.threshold 7
set_option pp.proofs false
set_option pp.maxSteps 3000
noncomputable def laQ : List Stmt := [nth (bodyOf laDef) 9, nth (bodyOf laDef) 10]
theorem lawQ {w : World} {p : Program} {loose : List Str} {mean : ExcName → Option Value} {mg mb : Str → Option Value} 
   {dp un : Nat} {gd : Option (List Code)} {outer : List Env} {A₀ : Around} {base h₀ : Heap} {L fa : Addr} {cd : Value} {s : Shared} {Q : Flow → Shared → Prop} {E : Value → Shared → Prop}
   {l cn cz wl el tl pl it wd dd tn : Nat} {text : Str} {tt t : Tok} {ln nn : Int} {dv : List Value} {DV : List Int} {on : Obj} {rest : List (Addr × Obj)}
   (B : Below A₀ base outer h₀) (X : (Mine.hd.heap_39 w.params).In h₀) (T : Top p loose mean mg mb h₀)
   (hC : CodeHd base 100 96) (hd : dp + 60 < recursionLimit) (hu : un + 300 < cLine)
   (F : Fr h₀ L s.heap (fun y => if y = Str.ofString "data" then some (.ref dd) else if y = Str.ofString "wide" then some (.ref wd) else if y = Str.ofString "items" then some (.ref it) else laMap l text tt wl el tl pl ln t y)) (N : News h₀ L s.heap ((dd, W.listOf dv.toArray 0) :: (cn, on) :: rest))
   (hdv : IntsAre dv DV) (hz : DV.length ≤ 63) (hz2 : 2 ≤ DV.length) (hb : ∀ x ∈ DV, x.natAbs ≤ 10000) (dn : on.data = .cell (some (.int nn tn))) (hn : 2 ≤ nn) (hn7 : nn ≤ 7)
   (hend : ∀ h tk inn out fi fo ci co, ∀ ns1 ns2 : List Int, Fr h₀ L h (fun y => if y = Str.ofString "outer" then some (.ref out) else if y = Str.ofString "inner" then some (.ref inn) else if y = Str.ofString "data" then some (.ref dd) else if y = Str.ofString "wide" then some (.ref wd) else if y = Str.ofString "items" then some (.ref it) else laMap l text tt wl el tl pl ln t y) →
     News h₀ L h ((out, W.listOf fo co) :: (inn, W.listOf fi ci) :: (dd, W.listOf dv.toArray 0) :: (cn, on) :: rest) → ns1.Perm DV → ns1.Pairwise (· ≤ ·) → ns2.Perm DV → ns2.Pairwise (· ≤ ·) → Cuts fi (numI ns1 nn) nn nn → Cuts fo (numE ns2 nn) nn nn → Q .next { s with heap := h, toks := tk }) :
    wpAny (model PP w) (laTop dp un gd L fa cd cn cz outer) (execs laQ (laEnv L fa cd cn cz)) Q E s := by
  have hfill : (PySem.Challenge.rw_re0024_01, Mine.hd.heap_39) = (PySem.Challenge.rw_re0024_01, Mine.hd.heap_39) := by k_fill; rfl
  clear hfill
  w_on
  refine wpAny_noRaise ?_
  have hdl := hdv.length
  show wpAny _ _ (execs [nth (bodyOf laDef) 9, nth (bodyOf laDef) 10] _) _ _ _
  conv in nth (bodyOf laDef) 9 => whnf
  conv in nth (bodyOf laDef) 10 => whnf
  repeat' ((fail_if_success (with_reducible show wpAny _ _ (PySem.call (Value.ref 84) _ _) _ _ _)); (first | (k_unfold; (try dsimp only)) | (k_end; wrow_close) | walk1 | (dsimp only; walk1) | (leave1; walk_say "STEP leave1"; try dsimp only) | fail "no step"))
  with_reducible rename News h₀ L _ _ => N1
  with_reducible rename Fr h₀ L _ _ => F1
  refine wpAny_call ?_
  k_dflt (refine' quant_inc (ns := DV) ?r1 F1 ?r3 N1 ?r5 ?r6 ?r7 ?r8 ?r9 ?r10 ?r11 ?r12 ?r13 ?r14 ?r15 ?r16 ?_)
  (case r1 => k_asm)
  (case r3 => k_asm)
  (case r5 => k_asm)
  (case r6 => rfl)
  (case r7 => assumption)
  (case r8 => assumption)
  (case r9 => ktr_room)
  (case r10 => ktr_units)
  (case r11 => exact PySem.IsL.isList (N1 _ (.head _)).1)
  (case r12 => assumption)
  (case r13 => omega)
  (case r14 => omega)
  (case r15 => assumption)
  (case r16 => assumption)
  k_whole
  try clear F1
  try clear N1
  intro h2 tk2 inn fi ci ns1 F2 N2 hp1 hw1 hc1
  dsimp only
  repeat' ((fail_if_success (with_reducible show wpAny _ _ (PySem.call (Value.ref 84) _ _) _ _ _)); (first | (k_unfold; (try dsimp only)) | (k_end; wrow_close) | walk1 | (dsimp only; walk1) | (leave1; walk_say "STEP leave1"; try dsimp only) | fail "no step"))
  with_reducible rename News h₀ L _ _ => N1
  with_reducible rename Fr h₀ L _ _ => F1
  refine wpAny_call ?_
  k_dflt (refine' quant_exc (ns := DV) ?r1 F1 ?r3 N1 ?r5 ?r6 ?r7 ?r8 ?r9 ?r10 ?r11 ?r12 ?r13 ?r14 ?r15 ?r16 ?_)
  (case r1 => k_asm)
  (case r3 => k_asm)
  (case r5 => k_asm)
  (case r6 => rfl)
  (case r7 => assumption)
  (case r8 => assumption)
  (case r9 => ktr_room)
  (case r10 => ktr_units)
  (case r11 => exact PySem.IsL.isList (N1 _ (.tail _ (.head _))).1)
  (case r12 => assumption)
  (case r13 => omega)
  (case r14 => omega)
  (case r15 => assumption)
  (case r16 => assumption)
  k_whole
  try clear F1
  try clear N1
  intro h3 tk3 out fo co ns2 F3 N3 hp2 hw2 hc2
  dsimp only
  k_steps
  with_reducible rename News h₀ L _ _ => N4
  with_reducible rename Fr h₀ L _ _ => F4
  exact hend _ _ inn out fi fo ci co ns1 ns2 F4 N4 hp1 hw1 hp2 hw2 hc1 hc2
end
section
set_option compiler.extract_closed false
open PySem PySem.W PySem.Calls PyProof.Rows
set_option Elab.async false
set_option maxRecDepth 100000
set_option maxHeartbeats 8000000
set_option linter.unusedVariables false
set_option pp.deepTerms false
set_option pp.deepTerms.threshold 7
set_option pp.proofs false
set_option pp.maxSteps 3000
noncomputable def laChk : Stmt := nth (bodyOf laDef) 11
theorem cut_small {ns : List Int} {n k : Int} (hb : ∀ x ∈ ns, x.natAbs ≤ 10000) (h1 : 1 ≤ k) (h2 : k < n) (hn7 : n ≤ 7) (hl : 2 ≤ ns.length) : ((wayOf ns n (ns.length - 1)).getD (k * (ns.length - 1)).toNat 0).natAbs < 2 ^ 53 := by
  rw [cut_at h1 h2 hl]
  obtain ⟨f1, f2, f3, f4, -⟩ := frac_facts (m := (ns.length : Int) - 1) h1 h2 (by omega)
  have hb' := perm_bound (List.Perm.refl ns) hb
  have q1 := hb' ((k * ((ns.length : Int) - 1)).fdiv n).toNat
  have q2 := hb' ((k * ((ns.length : Int) - 1)).fdiv n + 1).toNat
  generalize ns.getD ((k * ((ns.length : Int) - 1)).fdiv n).toNat 0 = a at *
  generalize ns.getD ((k * ((ns.length : Int) - 1)).fdiv n + 1).toNat 0 = b at *
  generalize (k * ((ns.length : Int) - 1)).fmod n = d at *
  have e1 : (a * n).natAbs ≤ 10000 * 7 := by rw [Int.natAbs_mul]; exact Nat.mul_le_mul q1 (by omega)
  have e2 : ((b - a) * d).natAbs ≤ 20000 * 7 := by rw [Int.natAbs_mul]; exact Nat.mul_le_mul (Nat.le_trans (Int.natAbs_sub_le b a) (Nat.add_le_add q2 q1)) (by omega)
  exact Nat.lt_of_le_of_lt (Nat.le_trans (Int.natAbs_add_le _ _) (Nat.add_le_add e1 e2)) (by decide)
theorem cuts_cmp {fi ys : Array Value} {num : Int → Int} {nn : Int} {IT : List Int} (hc : Cuts fi num nn nn) (hI : IntsAre ys.toList (cutsOf IT nn)) (hn : 2 ≤ nn) (hn7 : nn ≤ 7) (hl : 2 ≤ IT.length) (hb : ∀ x ∈ IT, x.natAbs ≤ 10000)
   (hnum : ∀ k, 1 ≤ k → k < nn → num k = (wayOf IT nn (IT.length - 1)).getD (k * (IT.length - 1)).toNat 0 * nn) :
   fi.size = ys.size ∧ ∀ j, j < fi.size → ∃ x t q u, fi[j]? = some (.float x t) ∧ ys[j]? = some (.int q u) ∧ Float64.cmpInt x q = some .eq := by
  have hyl := hI.length
  have hcl : (cutsOf IT nn).length = nn.toNat - 1 := by simp [cutsOf]
  have hys : ys.size = nn.toNat - 1 := by simp at hyl; omega
  refine ⟨by have := hc.1; omega, fun j hj => ?_⟩
  obtain ⟨t, ht⟩ := hc.2 j hj
  have hj2 : j < nn.toNat - 1 := by have := hc.1; omega
  obtain ⟨q, u, e1, e2⟩ := IntsAre.at hI j _ (arr_get (by omega : j < ys.size))
  have e3 : q = (wayOf IT nn (IT.length - 1)).getD ((1 + (j : Int)) * (IT.length - 1)).toNat 0 := by
    unfold cutsOf at e2
    rw [List.getElem?_map, List.getElem?_range hj2] at e2
    exact (Option.some.inj e2).symm
  refine ⟨_, t, q, u, ht, by rw [Array.getElem?_eq_getElem (by omega)]; rw [e1], ?_⟩
  have hk : num ((j : Int) + 1) = q * nn := by rw [hnum _ (by omega) (by omega), e3, Int.add_comm 1 (j : Int)]
  rw [hk]
  refine whole_cmp (whole_frac (by omega) ?_)
  rw [e3]
  exact cut_small hb (by omega) (by omega) hn7 hl
theorem lawChk {w : World} {p : Program} {loose : List Str} {mean : ExcName → Option Value} {mg mb : Str → Option Value} 
   {dp un : Nat} {gd : Option (List Code)} {outer : List Env} {A₀ : Around} {base h₀ : Heap} {L fa : Addr} {cd : Value} {s : Shared} {Q : Flow → Shared → Prop} {E : Value → Shared → Prop}
   {l cn cz wl el tl pl it wd dd tn inn out ci co : Nat} {text : Str} {tt t : Tok} {ln nn : Int} {itv wdv : List Value} {IT ns1 ns2 : List Int} {fi fo : Array Value} {on : Obj} {rest : List (Addr × Obj)}
   (B : Below A₀ base outer h₀) (X : (Mine.hd.heap_39 w.params).In h₀) (T : Top p loose mean mg mb h₀)
   (hC : CodeHd base 100 96) (hd : dp + 60 < recursionLimit) (hu : un + 300 < cLine)
   (F : Fr h₀ L s.heap (fun y => if y = Str.ofString "outer" then some (.ref out) else if y = Str.ofString "inner" then some (.ref inn) else if y = Str.ofString "data" then some (.ref dd) else if y = Str.ofString "wide" then some (.ref wd) else if y = Str.ofString "items" then some (.ref it) else laMap l text tt wl el tl pl ln t y)) (N : News h₀ L s.heap ((out, W.listOf fo co) :: (inn, W.listOf fi ci) :: (wd, W.listOf wdv.toArray 0) :: (it, W.listOf itv.toArray 0) :: (cn, on) :: rest))
   (hit : IntsAre itv IT) (hwd : IntsAre wdv (wideOf IT)) (hz : IT.length ≤ 63) (hz2 : 2 ≤ IT.length) (hb : ∀ x ∈ IT, x.natAbs ≤ 10000) (hbw : ∀ x ∈ wideOf IT, x.natAbs ≤ 10000) (dn : on.data = .cell (some (.int nn tn))) (hn : 2 ≤ nn) (hn7 : nn ≤ 7)
   (hc1 : Cuts fi (numI ns1 nn) nn nn) (hc2 : Cuts fo (numE ns2 nn) nn nn) (hs1 : ns1 = IT.map (fun x => nn * x)) (hs2 : ns2 = IT.map (fun x => nn * x))
   (hend : ∀ h tk, Fr h₀ L h (fun y => if y = Str.ofString "outer" then some (.ref out) else if y = Str.ofString "inner" then some (.ref inn) else if y = Str.ofString "data" then some (.ref dd) else if y = Str.ofString "wide" then some (.ref wd) else if y = Str.ofString "items" then some (.ref it) else laMap l text tt wl el tl pl ln t y) →
     News h₀ L h ((out, W.listOf fo co) :: (inn, W.listOf fi ci) :: (wd, W.listOf wdv.toArray 0) :: (it, W.listOf itv.toArray 0) :: (cn, on) :: rest) → Q .next { s with heap := h, toks := tk }) :
    wpAny (model PP w) (laTop dp un gd L fa cd cn cz outer) (exec laChk (laEnv L fa cd cn cz)) Q E s := by
  have hfill : (PySem.Challenge.rw_re0024_01, Mine.hd.heap_39) = (PySem.Challenge.rw_re0024_01, Mine.hd.heap_39) := by k_fill; rfl
  clear hfill
  w_on
  refine wpAny_noRaise ?_
  have hitl := hit.length
  have hwdl := hwd.length
  have hwl := wide_len IT
  conv in laChk => whnf
  repeat' ((fail_if_success (with_reducible show wpAny _ _ (PySem.call (Value.ref 118) _) _ _ _)); (first | (k_unfold; (try dsimp only)) | (k_end; wrow_close) | walk1 | (dsimp only; walk1) | (leave1; walk_say "STEP leave1"; try dsimp only) | fail "no step"))
  with_reducible rename News h₀ L _ _ => N1
  with_reducible rename Fr h₀ L _ _ => F1
  refine wpAny_call ?_
  k_dflt (refine' law_cuts (ns := IT) ?r1 F1 ?r3 N1 ?r5 ?r6 ?r7 ?r8 ?r9 ?r10 ?r11 ?r12 ?r13 ?r14 ?r15 ?r16 ?_)
  (case r1 => k_asm)
  (case r3 => k_asm)
  (case r5 => k_asm)
  (case r6 => rfl)
  (case r7 => assumption)
  (case r8 => assumption)
  (case r9 => ktr_room)
  (case r10 => ktr_units)
  (case r11 => exact PySem.IsL.isList (N1 _ (.tail _ (.tail _ (.tail _ (.head _))))).1)
  (case r12 => assumption)
  (case r13 => omega)
  (case r14 => omega)
  (case r15 => assumption)
  (case r16 => assumption)
  k_whole
  try clear F1
  try clear N1
  intro h2 tk2 r1 y1 k1 F2 N2 hI1
  dsimp only
  repeat' ((fail_if_success (with_reducible show wpAny _ _ (compareOp CmpOp.NotEq (Value.ref _) (Value.ref _)) _ _ _)); (first | (k_unfold; (try dsimp only)) | (k_end; wrow_close) | walk1 | (dsimp only; walk1) | (leave1; walk_say "STEP leave1"; try dsimp only) | fail "no step"))
  with_reducible rename News h₀ L _ _ => N1
  with_reducible rename Fr h₀ L _ _ => F1
  obtain ⟨z1, z2⟩ := cuts_cmp hc1 hI1 hn hn7 hz2 hb (fun k a b => by rw [hs1]; exact numI_cut a b hz2)
  k_dflt (refine ne_floats (PySem.IsL.isList (N1 _ (.tail _ (.tail _ (.head _)))).1) (PySem.IsL.isList (N1 _ (.head _)).1) z1 (by ktr_units) z2 ?_)
  have N1' := news_tl N1
  clear N1
  have N1 := N1'
  clear N1'
  repeat' ((fail_if_success (with_reducible show wpAny _ _ (PySem.call (Value.ref 118) _) _ _ _)); (first | (k_unfold; (try dsimp only)) | (k_end; wrow_close) | walk1 | (dsimp only; walk1) | (leave1; walk_say "STEP leave1"; try dsimp only) | fail "no step"))
  with_reducible rename News h₀ L _ _ => N1
  with_reducible rename Fr h₀ L _ _ => F1
  refine wpAny_call ?_
  k_dflt (refine' law_cuts (ns := wideOf IT) ?r1 F1 ?r3 N1 ?r5 ?r6 ?r7 ?r8 ?r9 ?r10 ?r11 ?r12 ?r13 ?r14 ?r15 ?r16 ?_)
  (case r1 => k_asm)
  (case r3 => k_asm)
  (case r5 => k_asm)
  (case r6 => rfl)
  (case r7 => assumption)
  (case r8 => assumption)
  (case r9 => ktr_room)
  (case r10 => ktr_units)
  (case r11 => exact PySem.IsL.isList (N1 _ (.tail _ (.tail _ (.head _)))).1)
  (case r12 => assumption)
  (case r13 => omega)
  (case r14 => omega)
  (case r15 => assumption)
  (case r16 => assumption)
  k_whole
  try clear F1
  try clear N1
  intro h3 tk3 r2 y2 k2 F3 N3 hI2
  dsimp only
  repeat' ((fail_if_success (with_reducible show wpAny _ _ (compareOp CmpOp.NotEq (Value.ref _) (Value.ref _)) _ _ _)); (first | (k_unfold; (try dsimp only)) | (k_end; wrow_close) | walk1 | (dsimp only; walk1) | (leave1; walk_say "STEP leave1"; try dsimp only) | fail "no step"))
  with_reducible rename News h₀ L _ _ => N1
  with_reducible rename Fr h₀ L _ _ => F1
  obtain ⟨z3, z4⟩ := cuts_cmp hc2 hI2 hn hn7 (by omega) hbw (fun k a b => by rw [hs2]; exact numE_cut a b hz2)
  k_dflt (refine ne_floats (PySem.IsL.isList (N1 _ (.tail _ (.head _))).1) (PySem.IsL.isList (N1 _ (.head _)).1) z3 (by ktr_units) z4 ?_)
  have N1' := news_tl N1
  clear N1
  have N1 := N1'
  clear N1'
  k_steps
  with_reducible rename News h₀ L _ _ => N4
  with_reducible rename Fr h₀ L _ _ => F4
  first
  | exact hend _ _ F4 N4
  | exact hend _ _ F4 (news_tl N4)
  | exact hend _ _ F4 (news_tl (news_tl N4))
end
section
set_option compiler.extract_closed false
open PySem PySem.W PySem.Calls PyProof.Rows
set_option Elab.async false
set_option maxRecDepth 100000
set_option maxHeartbeats 8000000
set_option linter.unusedVariables false
set_option pp.deepTerms false
set_option pp.deepTerms.threshold 7
set_option pp.proofs false
set_option pp.maxSteps 3000
noncomputable def laFlt : Stmt := nth (bodyOf laDef) 12
theorem lawFlt {w : World} {p : Program} {loose : List Str} {mean : ExcName → Option Value} {mg mb : Str → Option Value} 
   {dp un : Nat} {gd : Option (List Code)} {outer : List Env} {A₀ : Around} {base h₀ : Heap} {L fa : Addr} {cd : Value} {s : Shared} {Q : Flow → Shared → Prop} {E : Value → Shared → Prop}
   {l cn cz wl el tl pl it wd dd inn out ci co : Nat} {text : Str} {tt t : Tok} {ln : Int} {fi fo : List Value} {rest : List (Addr × Obj)}
   (B : Below A₀ base outer h₀) (X : (Mine.hd.heap_39 w.params).In h₀) (T : Top p loose mean mg mb h₀)
   (hC : CodeHd base 100 96) (hd : dp + 60 < recursionLimit) (hu : un + 300 < cLine)
   (F : Fr h₀ L s.heap (fun y => if y = Str.ofString "outer" then some (.ref out) else if y = Str.ofString "inner" then some (.ref inn) else if y = Str.ofString "data" then some (.ref dd) else if y = Str.ofString "wide" then some (.ref wd) else if y = Str.ofString "items" then some (.ref it) else laMap l text tt wl el tl pl ln t y)) (N : News h₀ L s.heap ((out, W.listOf fo.toArray co) :: (inn, W.listOf fi.toArray ci) :: rest))
   (hf1 : fi.length ≤ 10) (hf2 : fo.length ≤ 10) (hfl : ∀ v ∈ fi ++ fo, ∃ x t, v = .float x t)
   (hend : ∀ h tk, Fr h₀ L h (fun y => if y = Str.ofString "outer" then some (.ref out) else if y = Str.ofString "inner" then some (.ref inn) else if y = Str.ofString "data" then some (.ref dd) else if y = Str.ofString "wide" then some (.ref wd) else if y = Str.ofString "items" then some (.ref it) else laMap l text tt wl el tl pl ln t y) →
     News h₀ L h ((out, W.listOf fo.toArray co) :: (inn, W.listOf fi.toArray ci) :: rest) → Q .next { s with heap := h, toks := tk }) :
    wpAny (model PP w) (laTop dp un gd L fa cd cn cz outer) (exec laFlt (laEnv L fa cd cn cz)) Q E s := by
  have hfill : (PySem.Challenge.rw_re0024_01, Mine.hd.heap_39) = (PySem.Challenge.rw_re0024_01, Mine.hd.heap_39) := by k_fill; rfl
  clear hfill
  w_on
  refine wpAny_noRaise ?_
  conv in laFlt => whnf
  repeat' ((fail_if_success (with_reducible show wpAny _ _ (eval (Expr.ListComp _ _ _ _) _) _ _ _)); (first | (k_unfold; (try dsimp only)) | (k_end; wrow_close) | walk1 | (dsimp only; walk1) | (leave1; walk_say "STEP leave1"; try dsimp only) | fail "no step"))
  k_dflt (refine LCt.ListComp_T (F₀ := by k_asm) (by with_unfolding_all rfl) (by decide) (by rfl) (by decide) (by rfl) ?_)
  repeat' ((fail_if_success (with_unfolding_all show LCt.CompSrcT _ _ _ _ _ _ _ _ _ _ _ _ _ _ _)); (first | (k_unfold; (try dsimp only)) | (k_end; wrow_close) | walk1 | (dsimp only; walk1) | (leave1; walk_say "STEP leave1"; try dsimp only) | fail "no step"))
  with_reducible rename News h₀ L _ (_ :: _ :: _ :: rest) => N1
  with_reducible rename Fr h₀ L _ _ => F1
  k_dflt (refine LCt.CompSrcT.ledger rfl F1 N1 (.head _) (by simp only [PySem.sizeLine_eq, List.size_toArray, List.length_append]; omega) (fun g' => comp_none ?_ ?_))
  · intro i v I oI C oC D m₂ h tk E' hi hv hC hx F3 N3 off ne
    obtain ⟨x, t9, rfl⟩ : ∃ x t, v = Value.float x t := hfl v (List.mem_of_getElem? (by simpa using hv))
    k_steps
    exact LCg.CompEnd.intro (by k_asm) N3 _ (fun p hp => hp) off (.inr ⟨_, .head _, rfl, _, rfl⟩) rfl
  · k_steps
    with_reducible rename News h₀ L _ _ => N5
    with_reducible rename Fr h₀ L _ _ => F5
    exact hend _ _ F5 (news_tl (news_tl (news_tl N5)))
end
section
set_option compiler.extract_closed false
open PySem PySem.W PySem.Calls PyProof.Rows
set_option Elab.async false
set_option maxRecDepth 100000
set_option maxHeartbeats 8000000
set_option linter.unusedVariables false
set_option pp.deepTerms false
set_option pp.deepTerms.threshold 7
set_option pp.proofs false
set_option pp.maxSteps 3000
noncomputable def laMrk : Stmt := nth (bodyOf laDef) 13
theorem int_any {prog : Program} {w : World} {A : Around} {E : Value → Shared → Prop} {s : Shared} {x : UInt64} {u : Tok} {Q : Value → Shared → Prop} (hx : ∃ a m e, Float64.decode x = .fin a m e) (h : ∀ k t, Q (.int k t) { s with toks := s.toks + 1 }) : wpAny (model prog w) A (call (.type "int") [.float x u]) Q E s := by
  obtain ⟨a, m, e, hd⟩ := hx
  exact call_int_float hd (h _ _)
theorem ints_some {P : Int → Prop} : ∀ {ys : List Value}, (∀ y ∈ ys, ∃ k t, y = Value.int k t ∧ P k) → ∃ ns, IntsAre ys ns ∧ ∀ k ∈ ns, P k
  | [], _ => ⟨[], .nil, fun _ h => nomatch h⟩
  | y :: ys, h => by
    obtain ⟨k, t, rfl, hk⟩ := h y (.head _)
    obtain ⟨ns, h1, h2⟩ := ints_some (ys := ys) fun z hz => h z (.tail _ hz)
    exact ⟨k :: ns, .cons k t h1, fun z hz => by
      rcases List.mem_cons.mp hz with rfl | hz
      · exact hk
      · exact h2 z hz⟩
local macro_rules | `(tactic| walk_at "call type:int") => `(tactic| (k_here; (with_reducible show wpAny _ _ (PySem.call (Value.type "int") [Value.float _ _]) _ _ _); (with_reducible refine int_any (by assumption) ?_); intro k9 t9))
local macro_rules | `(tactic| walk_at "binaryOp FloorDiv int int") => `(tactic| (k_here; (with_reducible refine floordiv_int (by omega) ?_ (Or.inl (PyProof.noPylong_small (by omega))))))
theorem mrk_drop {h₀ h : Heap} {L : Addr} {a : Addr × Obj} {l r : List (Addr × Obj)} (N : News h₀ L h (a :: (l ++ r))) : News h₀ L h (a :: r) := fun p hp => N p (by
  rcases List.mem_cons.mp hp with rfl | hp
  · exact .head _
  · exact .tail _ (List.mem_append_right _ hp))
theorem lawMrk {w : World} {p : Program} {loose : List Str} {mean : ExcName → Option Value} {mg mb : Str → Option Value} 
   {dp un : Nat} {gd : Option (List Code)} {outer : List Env} {A₀ : Around} {base h₀ : Heap} {L fa : Addr} {cd : Value} {s : Shared} {Q : Flow → Shared → Prop} {E : Value → Shared → Prop}
   {l cn cz wl el tl pl it wd dd inn out ci co tn tz : Nat} {text : Str} {tt t : Tok} {ln nn sz : Int} {fi fo : List Value} {on oz : Obj} {rest : List (Addr × Obj)}
   (B : Below A₀ base outer h₀) (X : (Mine.hd.heap_39 w.params).In h₀) (T : Top p loose mean mg mb h₀)
   (hC : CodeHd base 100 96) (hd : dp + 60 < recursionLimit) (hu : un + 300 < cLine)
   (F : Fr h₀ L s.heap (fun y => if y = Str.ofString "outer" then some (.ref out) else if y = Str.ofString "inner" then some (.ref inn) else if y = Str.ofString "data" then some (.ref dd) else if y = Str.ofString "wide" then some (.ref wd) else if y = Str.ofString "items" then some (.ref it) else laMap l text tt wl el tl pl ln t y)) (N : News h₀ L s.heap ((out, W.listOf fo.toArray co) :: (inn, W.listOf fi.toArray ci) :: (cn, on) :: (cz, oz) :: rest))
   (dn : on.data = .cell (some (.int nn tn))) (dz : oz.data = .cell (some (.int sz tz))) (hn : 2 ≤ nn) (hn7 : nn ≤ 7) (hsz : 0 ≤ sz)
   (hf1 : fi.length ≤ 10) (hf2 : fo.length ≤ 10) (hfl : ∀ v ∈ fi ++ fo, ∃ x t, v = .float x t ∧ ∃ a m e, Float64.decode x = .fin a m e)
   (hend : ∀ h tk mk c, ∀ mv : List Value, ∀ MK : List Int, Fr h₀ L h (fun y => if y = Str.ofString "marks" then some (.ref mk) else if y = Str.ofString "outer" then some (.ref out) else if y = Str.ofString "inner" then some (.ref inn) else if y = Str.ofString "data" then some (.ref dd) else if y = Str.ofString "wide" then some (.ref wd) else if y = Str.ofString "items" then some (.ref it) else laMap l text tt wl el tl pl ln t y) →
     News h₀ L h ((mk, W.listOf mv.toArray c) :: rest) → IntsAre mv MK → MK.Pairwise (· ≤ ·) → 2 ≤ MK.length → MK.length ≤ 22 → 0 ∈ MK → sz ∈ MK → (∀ k ∈ MK, 0 ≤ k ∧ k ≤ sz) → Q .next { s with heap := h, toks := tk }) :
    wpAny (model PP w) (laTop dp un gd L fa cd cn cz outer) (exec laMrk (laEnv L fa cd cn cz)) Q E s := by
  have hfill : (PySem.Challenge.rw_re0024_01, Mine.hd.heap_39) = (PySem.Challenge.rw_re0024_01, Mine.hd.heap_39) := by k_fill; rfl
  clear hfill
  w_on
  refine wpAny_noRaise ?_
  conv in laMrk => whnf
  repeat' ((fail_if_success (with_reducible show wpAny _ _ (eval (Expr.ListComp _ _ _ _) _) _ _ _)); (first | (k_unfold; (try dsimp only)) | (k_end; wrow_close) | walk1 | (dsimp only; walk1) | (leave1; walk_say "STEP leave1"; try dsimp only) | fail "no step"))
  k_dflt (refine LCg.ListComp_U (F₀ := by k_asm) (by with_unfolding_all rfl) (by decide) (by rfl) (by decide) (by rfl) ?_)
  repeat' ((fail_if_success (with_unfolding_all show LCg.CompSrc _ _ _ _ _ _ _ _ _ _ _ _ _ _)); (first | (k_unfold; (try dsimp only)) | (k_end; wrow_close) | walk1 | (dsimp only; walk1) | (leave1; walk_say "STEP leave1"; try dsimp only) | fail "no step"))
  with_reducible rename News h₀ L _ (_ :: _ :: _ :: _ :: _ :: _ :: rest) => N1
  with_reducible rename Fr h₀ L _ _ => F1
  k_dflt (refine LCg.CompSrc.ledger rfl F1 N1 (.head _) (by simp only [PySem.sizeLine_eq, List.size_toArray, List.length_append]; omega) (fun g' => comp_pure (fun i y => ∃ k t, y = Value.int k t ∧ (0 ≤ k ∧ k ≤ sz)) ?_ ?_))
  · intro i v I oI C oC D m₂ ys h tk E' hi hv hC hx F3 N3 off ne
    obtain ⟨x, t9, rfl, hfin⟩ := hfl v (List.mem_of_getElem? (by simpa using hv))
    k_steps
    with_reducible rename News h₀ L _ _ => N4
    with_reducible rename Fr h₀ L _ _ => F4
    exact LCg.CompEnd.intro F4 N4 _ (fun p hp => hp) off (.inr ⟨_, .head _, rfl, _, rfl⟩) ⟨rfl, _, _, rfl, by omega⟩
  · intro ys hl hy
    obtain ⟨ns, hi9, hb9⟩ := ints_some (ys := ys) fun y h => by
      obtain ⟨i, hi⟩ := List.getElem?_of_mem h
      exact hy i y hi
    have hil := hi9.length
    have hl' : ys.length = fi.length + fo.length := by simpa using hl
    repeat' ((fail_if_success (with_reducible show wpAny _ _ (PySem.call (Value.builtin "sorted") _ _) _ _ _)); (first | (k_unfold; (try dsimp only)) | (k_end; wrow_close) | walk1 | (dsimp only; walk1) | (leave1; walk_say "STEP leave1"; try dsimp only) | fail "no step"))
    with_reducible rename News h₀ L _ (_ :: _ :: _ :: _ :: _ :: _ :: _ :: _ :: rest) => N5
    with_reducible rename Fr h₀ L _ _ => F5
    k_dflt (refine sorted_N F5 N5 (PySem.IsL.isList (N5 _ (.head _)).1) (.cons 0 _ (.cons sz _ hi9)) (by simp only [List.length_append, List.length_cons, List.length_nil]; omega) ?_)
    intro h6 mv MK e6 F6 N6 hi6 hp6 hs6
    (change News _ _ h6 ((_, W.listOf mv.toArray e6) :: _) at N6)
    have hlen := hp6.length_eq
    simp only [List.length_cons] at hlen
    k_steps
    with_reducible rename News h₀ L _ _ => N7
    with_reducible rename Fr h₀ L _ _ => F7
    refine hend _ _ _ _ mv MK F7 (mrk_drop (l := [_, _, _, _, _, _, _, _]) N7) hi6 hs6 (by omega) (by omega) (hp6.mem_iff.mpr (.head _)) (hp6.mem_iff.mpr (.tail _ (.head _))) (fun k hk => ?_)
    have hk' := hp6.mem_iff.mp hk
    rcases List.mem_cons.mp hk' with rfl | hk'
    · omega
    · rcases List.mem_cons.mp hk' with rfl | hk'
      · omega
      · exact hb9 k hk'
end
section
set_option compiler.extract_closed false
open PySem PySem.W PySem.Calls PyProof.Rows
set_option Elab.async false
set_option maxRecDepth 100000
set_option maxHeartbeats 8000000
set_option linter.unusedVariables false
set_option pp.deepTerms false
set_option pp.deepTerms.threshold 7
set_option pp.proofs false
set_option pp.maxSteps 3000
noncomputable def laRet : Stmt := nth (bodyOf laDef) 14
theorem sorted_first {l : List Int} (h : l.Pairwise (· ≤ ·)) (h0 : 0 ∈ l) (hb : ∀ k ∈ l, 0 ≤ k) : l.getD 0 0 = 0 := by
  cases l with
  | nil => cases h0
  | cons a r =>
    show a = 0
    have h1 := hb a (.head _)
    rcases List.mem_cons.mp h0 with h2 | h2
    · exact h2.symm
    · have := (List.pairwise_cons.mp h).1 0 h2
      omega
theorem sorted_last {l : List Int} {z : Int} (h : l.Pairwise (· ≤ ·)) (h0 : z ∈ l) (hb : ∀ k ∈ l, k ≤ z) : l.getD (l.length - 1) 0 = z := by
  obtain ⟨i, hi, e⟩ := List.getElem_of_mem h0
  have hl : l.length - 1 < l.length := by omega
  rw [List.getD_eq_getElem?_getD, List.getElem?_eq_getElem hl]
  show l[l.length - 1] = z
  have h2 := hb _ (List.getElem_mem hl)
  rcases Nat.lt_or_ge i (l.length - 1) with h3 | h3
  · have := List.pairwise_iff_getElem.mp h i (l.length - 1) hi hl h3
    omega
  · have : i = l.length - 1 := by omega
    subst this
    exact e
theorem cps_inj : ∀ {a b : List Str}, a.map (·.cps.toList) = b.map (·.cps.toList) → a = b
  | [], [], _ => rfl
  | [], _ :: _, h => by simp at h
  | _ :: _, [], h => by simp at h
  | x :: a, y :: b, h => by
    simp only [List.map_cons, List.cons.injEq] at h
    rw [str_of h.1, cps_inj h.2]
theorem lawRet {w : World} {p : Program} {loose : List Str} {mean : ExcName → Option Value} {mg mb : Str → Option Value} 
   {dp un : Nat} {gd : Option (List Code)} {outer : List Env} {A₀ : Around} {base h₀ : Heap} {L fa : Addr} {cd : Value} {s : Shared} {Q : Flow → Shared → Prop} {E : Value → Shared → Prop}
   {l cn cz wl el tl pl it wd dd inn out mk c nw a1 a2 : Nat} {text : Str} {tt t : Tok} {mv : List Value} {MK : List Int} {wv : Array Value} {WS : List Str} {o1 : Obj} {rest : List (Addr × Obj)}
   (B : Below A₀ base outer h₀) (X : (Mine.hd.heap_39 w.params).In h₀) (T : Top p loose mean mg mb h₀)
   (hC : CodeHd base 100 96) (hd : dp + 60 < recursionLimit) (hu : un + 300 < cLine)
   (F : Fr h₀ L s.heap (fun y => if y = Str.ofString "marks" then some (.ref mk) else if y = Str.ofString "outer" then some (.ref out) else if y = Str.ofString "inner" then some (.ref inn) else if y = Str.ofString "data" then some (.ref dd) else if y = Str.ofString "wide" then some (.ref wd) else if y = Str.ofString "items" then some (.ref it) else laMap l text tt wl el tl pl (1 + nl text.cps.toList) t y)) (N : News h₀ L s.heap ((mk, W.listOf mv.toArray c) :: (wl, W.listOf wv nw) :: (96, tabTwo a1 a2) :: (a1, o1) :: rest))
   (ho : ∃ vs1 t1, o1.data = .fields vs1 ∧ vs1[1]? = some (.str lrQual t1)) (htx : text.length ≤ 60)
   (hI : IntsAre mv MK) (hS : MK.Pairwise (· ≤ ·)) (hz : MK.length ≤ 22) (hz2 : 2 ≤ MK.length) (h0 : 0 ∈ MK) (hszm : (text.length : Int) ∈ MK) (hb : ∀ k ∈ MK, 0 ≤ k ∧ k ≤ text.length)
   (hW : StrsAre wv.toList WS) (hWS : WS.map (·.cps.toList) = (run .o [] text.cps.toList).1 ++ [(run .o [] text.cps.toList).2.2])
   (hend : ∀ h tk, (∃ m, Fr h₀ L h m) → News h₀ L h ((96, tabTwo a1 a2) :: (a1, o1) :: rest) → Q (.ret (.bool true)) { s with heap := h, toks := tk }) :
    wpAny (model PP w) (laTop dp un gd L fa cd cn cz outer) (exec laRet (laEnv L fa cd cn cz)) Q E s := by
  have hfill : (PySem.Challenge.rw_re0024_01, Mine.hd.heap_39) = (PySem.Challenge.rw_re0024_01, Mine.hd.heap_39) := by k_fill; rfl
  clear hfill
  w_on
  refine wpAny_noRaise ?_
  have hlen := hI.length
  conv in laRet => whnf
  repeat' ((fail_if_success (with_reducible show wpAny _ _ (PySem.call (Value.ref 113) _) _ _ _)); (first | (k_unfold; (try dsimp only)) | (k_end; wrow_close) | walk1 | (dsimp only; walk1) | (leave1; walk_say "STEP leave1"; try dsimp only) | fail "no step"))
  with_reducible rename News h₀ L _ _ => N1
  with_reducible rename Fr h₀ L _ _ => F1
  obtain ⟨vs1, t1, q1, q2⟩ := ho
  refine wpAny_call ?_
  k_dflt (refine' law_glued (ns := MK) ?r1 F1 ?r3 N1 ?r5 ?r6 ?r7 ?r8 ?r9 ?r10 ?r11 ?r12 ?r13 ?r14 ?r15 ?r16 ?r17 ?r18 ?r19 ?_)
  (case r1 => k_asm)
  (case r3 => k_asm)
  (case r5 => k_asm)
  (case r6 => rfl)
  (case r7 => assumption)
  (case r8 => ktr_room)
  (case r9 => ktr_units)
  (case r10 => exact PySem.IsL.isList (N1 _ (.head _)).1)
  (case r11 => assumption)
  (case r12 => omega)
  (case r13 => omega)
  (case r14 => omega)
  (case r15 => exact (N1 _ (.tail _ (.tail _ (.head _)))).1)
  (case r16 => exact ⟨_, _, _, _, rfl, (N1 _ (.tail _ (.tail _ (.tail _ (.head _))))).1, q1, q2⟩)
  (case r17 => exact sorted_first hS h0 fun k hk => (hb k hk).1)
  (case r18 => exact sorted_last hS hszm fun k hk => (hb k hk).2)
  (case r19 => assumption)
  k_whole
  try clear F1
  try clear N1
  intro h2 tk2 tup rl its c2 t2 ws F2 N2 hs2 hw2 hz3
  have hws : ws = WS := cps_inj (hw2.trans hWS.symm)
  subst hws
  dsimp only
  repeat' ((fail_if_success (with_reducible show wpAny _ _ (compareOp CmpOp.Eq (Value.ref _) (Value.ref _)) _ _ _)); (first | (k_unfold; (try dsimp only)) | (k_end; wrow_close) | walk1 | (dsimp only; walk1) | (leave1; walk_say "STEP leave1"; try dsimp only) | fail "no step"))
  with_reducible rename News h₀ L _ _ => N3
  with_reducible rename Fr h₀ L _ _ => F3
  k_dflt (refine' eq_two ?a ?b ?c1 ?c2 hs2 hW ?u ?_)
  (case a => exact News.get N3 (by k_mem))
  (case b => exact News.get N3 (by k_mem))
  (case c1 => exact PySem.IsL.isList (News.get N3 (by k_mem)))
  (case c2 => exact PySem.IsL.isList (News.get N3 (by k_mem)))
  (case u => ktr_units)
  k_whole
  k_steps
  with_reducible rename News h₀ L _ _ => N4
  with_reducible rename Fr h₀ L _ _ => F4
  exact hend _ _ ⟨_, F4⟩ (news_tl (news_tl (news_tl (news_tl (news_tl N4)))))
end
section
set_option compiler.extract_closed false
open PySem PySem.W PySem.Calls PyProof.Rows
set_option Elab.async false
set_option maxRecDepth 100000
set_option maxHeartbeats 8000000
set_option linter.unusedVariables false
set_option pp.deepTerms false
set_option pp.deepTerms.threshold 7
set_option pp.proofs false
set_option pp.maxSteps 3000
theorem s1_reorder {h₀ h : Heap} {L : Addr} {t a b c d e : Addr × Obj} (N : News h₀ L h [t, a, b, c, d, e]) : News h₀ L h ([e] ++ [a, b, c, d]) := fun p hp => N p (by
  rcases List.mem_cons.mp hp with rfl | hp
  · exact .tail _ (.tail _ (.tail _ (.tail _ (.tail _ (.head _)))))
  · refine .tail _ ?_
    rcases List.mem_cons.mp hp with rfl | hp
    · exact .head _
    · rcases List.mem_cons.mp hp with rfl | hp
      · exact .tail _ (.head _)
      · rcases List.mem_cons.mp hp with rfl | hp
        · exact .tail _ (.tail _ (.head _))
        · rw [List.mem_singleton.mp hp]; exact .tail _ (.tail _ (.tail _ (.head _))))
theorem s1_skip {h₀ h : Heap} {L : Addr} {a b c : Addr × Obj} {r : List (Addr × Obj)} (N : News h₀ L h (a :: b :: c :: r)) : News h₀ L h (a :: b :: r) := fun p hp => N p (by
  rcases List.mem_cons.mp hp with rfl | hp
  · exact .head _
  · rcases List.mem_cons.mp hp with rfl | hp
    · exact .tail _ (.head _)
    · exact .tail _ (.tail _ (.tail _ hp)))
theorem la_map {l : Nat} {text : Str} {tt : Tok} {wl el tl pl : Nat} {ln : Int} {ti : Tok} (y : Str) :
    (if y = Str.ofString "lines" then some (Value.int ln ti) else if y = Str.ofString "places" then some (Value.ref pl) else if y = Str.ofString "told" then some (Value.ref tl) else if y = Str.ofString "ends" then some (Value.ref el) else if y = Str.ofString "words" then some (Value.ref wl) else
     if y = Str.ofString "text" then some (Value.str text tt) else if y = Str.ofString "script" then some (Value.ref l) else none) = laMap l text tt wl el tl pl ln ti y := rfl
theorem lawS1 {w : World} {p : Program} {loose : List Str} {mean : ExcName → Option Value} {mg mb : Str → Option Value} 
   {dp un : Nat} {gd : Option (List Code)} {outer : List Env} {A₀ : Around} {base h₀ : Heap} {L fa : Addr} {cd : Value} {s : Shared} {Q : Flow → Shared → Prop} {E : Value → Shared → Prop}
   {l cn cz : Nat} {vs : List Value} {ns : List Int} {on oz : Obj} {vn vz : Option Value}
   (B : Below A₀ base outer h₀) (X : (Mine.hd.heap_39 w.params).In h₀) (T : Top p loose mean mg mb h₀)
   (hC : CodeHd base 100 96) (hd : dp + 60 < recursionLimit) (hu : un + 300 < cLine) (hl : h₀.IsList l vs.toArray) (hi : IntsAre vs ns) (hz : ns.length ≤ 63) (hlay : (PyData.list (List.map PyData.int ns)).layable0 = true)
   (dn : on.data = .cell vn) (dz : oz.data = .cell vz) (a1 : Apart cn cz) (a2 : 96 < cn) (a3 : 96 < cz)
   (F : Fr h₀ L s.heap (fun y => if y = Str.ofString "script" then some (.ref l) else none)) (N : News h₀ L s.heap [(cn, on), (cz, oz), (96, tabObj #[])])
   (hend : ∀ h tk tt text nn tn tz wl el wv ev nw ne tl pl its jts n1 n2 t a1 a2 o1 on oz, ∀ pre : List (Str × Int), text.length ≤ 60 → 2 ≤ nn → nn ≤ 7 → Fr h₀ L h (laMap l text tt wl el tl pl (1 + nl text.cps.toList) t) →
      News h₀ L h [(96, tabTwo a1 a2), (a1, o1), (tl, W.listOf its n1), (pl, W.listOf jts n2), (wl, W.listOf wv nw), (el, W.listOf ev ne), (cn, on), (cz, oz)] → (∃ vs1 t1, o1.data = .fields vs1 ∧ vs1[1]? = some (.str lrQual t1)) →
      on.data = .cell (some (.int nn tn)) → oz.data = .cell (some (.int text.length tz)) → StrsAre wv.toList ((lwAll text).1.map (·.1) ++ [(lwAll text).2]) → IntsAre ev.toList ((lwAll text).1.map (·.2) ++ [(text.length : Int)]) →
      StrsAre its.toList (pre.map (·.1)) → IntsAre jts.toList (pre.map (·.2)) → pre.map (fun p => (p.1.cps.toList, p.2)) = readAll text → Q .next { s with heap := h, toks := tk }) :
    wpAny (model PP w) (laTop dp un gd L fa cd cn cz outer) (execs laS1 (laEnv L fa cd cn cz)) Q E s := by
  have hfill : (PySem.Challenge.rw_re0024_01, Mine.hd.heap_39) = (PySem.Challenge.rw_re0024_01, Mine.hd.heap_39) := by k_fill; rfl
  clear hfill
  w_on
  refine wpAny_noRaise ?_
  conv in laS1 => whnf
  repeat' ((fail_if_success (with_reducible show wpAny _ _ (PySem.call (Value.ref 89) _) _ _ _)); (first | (k_unfold; (try dsimp only)) | (k_end; wrow_close) | walk1 | (dsimp only; walk1) | (leave1; walk_say "STEP leave1"; try dsimp only) | fail "no step"))
  refine wpAny_call ?_
  k_dflt (refine' law_text ?r1 ?r2 ?r3 ?r4 ?r5 ?r6 ?r7 ?r8 ?r9 hl hi ?r10 ?_)
  (case r1 => k_asm)
  (case r2 => k_asm)
  (case r3 => k_asm)
  (case r4 => k_asm)
  (case r5 => k_asm)
  (case r6 => rfl)
  (case r7 => assumption)
  (case r8 => ktr_room)
  (case r9 => ktr_units)
  (case r10 => omega)
  k_whole
  clear F N
  intro h1 tk1 tt text F1 N1 htx
  dsimp only
  repeat' ((fail_if_success (with_reducible show wpAny _ _ (PySem.call (Value.ref 94) _) _ _ _)); (first | (k_unfold; (try dsimp only)) | (k_end; wrow_close) | walk1 | (dsimp only; walk1) | (leave1; walk_say "STEP leave1"; try dsimp only) | fail "no step"))
  try clear F1
  try clear N1
  with_reducible rename News h₀ L _ [_, _, _, _] => N1
  with_reducible rename Fr h₀ L _ _ => F1
  with_reducible rename (Obj.data _ = Data.cell (some (Value.int (2 + _) _))) => dn2
  with_reducible rename (Obj.data _ = Data.cell (some (Value.int (text.length : Int) _))) => dz2
  have hn1 : 2 ≤ 2 + (List.take 8 ns).sum.fmod 6 ∧ 2 + (List.take 8 ns).sum.fmod 6 ≤ 7 := by
    rw [Int.fmod_eq_emod_of_nonneg _ (by decide)]; omega
  generalize 2 + (List.take 8 ns).sum.fmod 6 = nn at *
  have N2 := news_tl N1
  clear N1
  refine wpAny_call ?_
  k_dflt (refine' law_words ?r1 F1 ?r3 N2 ?r5 ?r6 ?r7 ?r8 ?r9 ?r10 ?_)
  (case r1 => k_asm)
  (case r3 => k_asm)
  (case r5 => k_asm)
  (case r6 => rfl)
  (case r7 => assumption)
  (case r8 => ktr_room)
  (case r9 => ktr_units)
  (case r10 => omega)
  k_whole
  clear F1 N2
  intro h2 tk2 tup2 wl el wv ev nw ne F2 N2 hSw hIe hzw hze
  dsimp only
  repeat' ((fail_if_success (with_reducible show wpAny _ _ (PySem.call (Value.ref 101) _) _ _ _)); (first | (k_unfold; (try dsimp only)) | (k_end; wrow_close) | walk1 | (dsimp only; walk1) | (leave1; walk_say "STEP leave1"; try dsimp only) | fail "no step"))
  with_reducible rename News h₀ L _ [_, _, _, _, _, _] => N3
  with_reducible rename Fr h₀ L _ (fun y => if y = Str.ofString "ends" then _ else _) => F3
  have N4 := s1_reorder N3
  refine wpAny_call ?_
  k_dflt (refine' law_read1 ?r1 F3 ?r3 N4 ?r5 ?r6 ?r7 ?r8 ?r9 ?rS ?r10 ?_)
  (case r1 => k_asm)
  (case r3 => k_asm)
  (case r5 => k_asm)
  (case r6 => rfl)
  (case r7 => assumption)
  (case r8 => ktr_room)
  (case r9 => ktr_units)
  (case r10 => omega)
  k_whole
  case rS =>
    have e0 := (N3 (96, tabObj #[]) (.tail _ (.tail _ (.tail _ (.tail _ (.tail _ (.head _))))))).1
    have e1 := (N3 (wl, W.listOf wv nw) (.tail _ (.head _))).1
    have e2 := (N3 (el, W.listOf ev ne) (.tail _ (.tail _ (.head _)))).1
    intro q hq hm
    have hm' : q.1 = 96 := List.mem_singleton.mp hm
    rcases List.mem_cons.mp hq with rfl | hq
    · rw [hm', e0] at e1; cases e1
    · rcases List.mem_cons.mp hq with rfl | hq
      · rw [hm', e0] at e2; cases e2
      · rcases List.mem_cons.mp hq with rfl | hq
        · exact absurd hm' (Nat.ne_of_gt a2)
        · rw [List.mem_singleton.mp hq] at hm'; exact absurd hm' (Nat.ne_of_gt a3)
  try clear F3
  try clear N3
  try clear N4
  intro h5 tk5 tup5 tl pl its jts n1 n2 t5 c1 c2 o1 pre5 ho1 F5 N5 _ _ _ _ _ hSt hIt hz1 hz2 hp5
  simp only [lrOut, lrLists, List.cons_append, List.nil_append] at N5
  dsimp only
  k_steps
  refine wpAny_execs_nil ?_
  with_reducible rename News h₀ L _ [_, _, _, _, _, _, _, _, _] => N6
  with_reducible rename Fr h₀ L _ (fun y => if y = Str.ofString "lines" then _ else _) => F6
  exact hend _ _ _ text nn _ _ wl el wv ev nw ne tl pl its jts n1 n2 _ c1 c2 o1 _ _ pre5 htx hn1.1 hn1.2 (Fr.congr F6 la_map) (s1_skip N6) ho1 dn2 dz2 hSw hIe hSt hIt hp5
end
section
set_option compiler.extract_closed false
open PySem PySem.W PySem.Calls PyProof.Rows
set_option Elab.async false
set_option maxRecDepth 100000
/-- the places of a reading: in order, within the text, not too many -/
theorem readW_facts : ∀ (f : Nat) (len k : Int) (r : List Nat), r.length < f → k + r.length = len → 0 ≤ k →
    (∀ p ∈ readW f len r, k ≤ p.2 ∧ p.2 ≤ len) ∧ ((readW f len r).map (·.2)).Pairwise (· ≤ ·) ∧ (readW f len r).length ≤ r.length + 1 ∧ 1 ≤ (readW f len r).length
  | 0, _, _, _, h, _, _ => absurd h (Nat.not_lt_zero _)
  | f + 1, len, k, r, hf, hk, h0 => by
    unfold readW
    cases e : lexT r with
    | mk w o =>
      cases o with
      | none =>
        simp only
        refine ⟨fun p hp => ?_, List.pairwise_singleton _ _, by simp, by simp⟩
        rw [List.mem_singleton.mp hp]
        simp only
        omega
      | some r' =>
        have hl := lexT_lt r w r' e
        obtain ⟨a1, a2, a3, a4⟩ := readW_facts f len (len - r'.length) r' (by omega) (by omega) (by omega)
        simp only
        refine ⟨fun p hp => ?_, ?_, by rw [List.length_cons]; omega, by rw [List.length_cons]; omega⟩
        · rcases List.mem_cons.mp hp with rfl | hp
          · simp only; omega
          · have := a1 p hp; omega
        · rw [List.map_cons, List.pairwise_cons]
          refine ⟨fun x hx => ?_, a2⟩
          obtain ⟨p, hp, rfl⟩ := List.mem_map.mp hx
          exact (a1 p hp).1
theorem places_facts {pre : List (Str × Int)} {text : Str} (hp : pre.map (fun p => (p.1.cps.toList, p.2)) = readAll text) :
    (∀ x ∈ (pre.map (fun p => p.2) : List Int), 0 ≤ x ∧ x ≤ (text.length : Int)) ∧ (pre.map (·.2)).Pairwise (· ≤ ·) ∧ (pre.map (·.2)).length ≤ text.length + 1 ∧ 1 ≤ (pre.map (·.2)).length := by
  obtain ⟨a1, a2, a3, a4⟩ := readW_facts (text.length + 1) text.length 0 text.cps.toList (by rw [len_list]; omega) (by rw [len_list]; omega) (by omega)
  have e : pre.map (·.2) = (readAll text).map (·.2) := by rw [← hp, List.map_map]; rfl
  rw [e, List.length_map]
  unfold readAll
  refine ⟨fun x hx => ?_, a2, by rw [len_list] at a3; exact a3, a4⟩
  obtain ⟨p, hp, hx2⟩ := List.mem_map.mp hx
  rw [← hx2]
  exact a1 p hp
theorem items_sorted {IS : List Int} (h : IS.Pairwise (· ≤ ·)) (h0 : ∀ x ∈ IS, 0 ≤ x) : (0 :: IS).Pairwise (· ≤ ·) := List.pairwise_cons.mpr ⟨h0, h⟩
theorem data_sorted {IT ns : List Int} {n : Int} (hn : 0 ≤ n) (hs : IT.Pairwise (· ≤ ·)) (hp : ns.Perm (IT.map (fun x => n * x)).reverse) (hs2 : ns.Pairwise (· ≤ ·)) : ns = IT.map (fun x => n * x) :=
  sorted_unique (hp.trans (List.reverse_perm _)) hs2 (pair_map hn hs)
theorem data_bound {IT : List Int} {n : Int} (hn : 0 ≤ n) (hn7 : n ≤ 7) (hb : ∀ x ∈ IT, 0 ≤ x ∧ x ≤ 60) : ∀ x ∈ (IT.map (fun x => n * x)).reverse, x.natAbs ≤ 10000 := by
  intro x hx
  rw [List.mem_reverse] at hx
  obtain ⟨y, hy, rfl⟩ := List.mem_map.mp hx
  obtain ⟨h1, h2⟩ := hb y hy
  have := Nat.mul_le_mul (show n.natAbs ≤ 7 by omega) (show y.natAbs ≤ 60 by omega)
  simp only [Int.natAbs_mul]
  omega
theorem items_bound {IT : List Int} (hb : ∀ x ∈ IT, 0 ≤ x ∧ x ≤ 60) : ∀ x ∈ IT, x.natAbs ≤ 10000 := fun x hx => by
  have := hb x hx; omega
theorem getD_bound {IT : List Int} (hb : ∀ x ∈ IT, 0 ≤ x ∧ x ≤ 60) (i : Nat) : 0 ≤ IT.getD i 0 ∧ IT.getD i 0 ≤ 60 := by
  rw [List.getD_eq_getElem?_getD]
  rcases Nat.lt_or_ge i IT.length with h | h
  · rw [List.getElem?_eq_getElem h]; exact hb _ (List.getElem_mem h)
  · rw [List.getElem?_eq_none h]; decide
theorem wide_bound {IT : List Int} (hb : ∀ x ∈ IT, 0 ≤ x ∧ x ≤ 60) : ∀ x ∈ wideOf IT, x.natAbs ≤ 10000 := by
  intro x hx
  have b1 := getD_bound hb 0
  have b2 := getD_bound hb 1
  have b3 := getD_bound hb (IT.length - 1)
  have b4 := getD_bound hb (IT.length - 2)
  unfold wideOf at hx
  rcases List.mem_append.mp hx with hx | hx
  · rcases List.mem_append.mp hx with hx | hx
    · rw [List.mem_singleton.mp hx]; omega
    · exact items_bound hb x hx
  · rw [List.mem_singleton.mp hx]; omega
end
section
set_option compiler.extract_closed false
open PySem PySem.W PySem.Calls PyProof.Rows
set_option Elab.async false
set_option maxRecDepth 100000
set_option maxHeartbeats 8000000
set_option linter.unusedVariables false
set_option pp.deepTerms false
set_option pp.deepTerms.threshold 7
set_option pp.proofs false
set_option pp.maxSteps 3000
theorem cuts_fin {fi : Array Value} {num : Int → Int} {nn : Int} {IT : List Int} (hc : Cuts fi num nn nn) (hn : 2 ≤ nn) (hn7 : nn ≤ 7) (hl : 2 ≤ IT.length) (hb : ∀ x ∈ IT, x.natAbs ≤ 10000)
   (hnum : ∀ k, 1 ≤ k → k < nn → num k = (wayOf IT nn (IT.length - 1)).getD (k * (IT.length - 1)).toNat 0 * nn) :
   ∀ v ∈ fi.toList, ∃ x t, v = Value.float x t ∧ ∃ a m e, Float64.decode x = .fin a m e := by
  intro v hv
  obtain ⟨i, hi, e⟩ := List.getElem_of_mem hv
  have hi' : i < fi.size := by simpa using hi
  obtain ⟨t, ht⟩ := hc.2 i hi'
  have h1 := hc.1
  rw [Array.getElem?_eq_getElem hi'] at ht
  have ev : v = .float (fdivI (num ((i : Int) + 1)) nn) t := by rw [← e]; simpa using ht
  rw [hnum _ (by omega) (by omega)] at ev
  obtain ⟨a, m, e, hd, -⟩ := whole_frac (d := nn) (by omega) (cut_small hb (k := (i : Int) + 1) (by omega) (by omega) hn7 hl)
  exact ⟨_, t, ev, a, m, e, hd⟩
theorem nsC {h₀ h : Heap} {L : Addr} {q : Addr × Obj} {l r : List (Addr × Obj)} (N : News h₀ L h l) (hm : q ∈ l) (M : News h₀ L h r) : News h₀ L h (q :: r) := fun p hp => by
  rcases List.mem_cons.mp hp with rfl | hp
  · exact N _ hm
  · exact M p hp
theorem nsN {h₀ h : Heap} {L : Addr} : News h₀ L h [] := fun p hp => nomatch hp
theorem laS2_eq : laS2 = laIf :: laItems :: laWide :: laData :: (laQ ++ [laChk, laFlt, laMrk, laRet]) := rfl
theorem lawBody {w : World} {p : Program} {loose : List Str} {mean : ExcName → Option Value} {mg mb : Str → Option Value} 
   {dp un : Nat} {gd : Option (List Code)} {outer : List Env} {A₀ : Around} {base h₀ : Heap} {L fa : Addr} {cd : Value} {s : Shared} {Q : Flow → Shared → Prop} {E : Value → Shared → Prop}
   {l cn cz : Nat} {vs : List Value} {ns : List Int} {on oz : Obj} {vn vz : Option Value}
   (B : Below A₀ base outer h₀) (X : (Mine.hd.heap_39 w.params).In h₀) (T : Top p loose mean mg mb h₀)
   (hC : CodeHd base 100 96) (hd : dp + 60 < recursionLimit) (hu : un + 300 < cLine) (hl : h₀.IsList l vs.toArray) (hi : IntsAre vs ns) (hz : ns.length ≤ 63) (hlay : (PyData.list (List.map PyData.int ns)).layable0 = true)
   (dn : on.data = .cell vn) (dz : oz.data = .cell vz) (a1 : Apart cn cz) (a2 : 96 < cn) (a3 : 96 < cz)
   (F : Fr h₀ L s.heap (fun y => if y = Str.ofString "script" then some (.ref l) else none)) (N : News h₀ L s.heap [(cn, on), (cz, oz), (96, tabObj #[])])
   (hend : ∀ h tk a1 a2 o1 m, Fr h₀ L h m → News h₀ L h [(96, tabTwo a1 a2), (a1, o1)] → Q (.ret (.bool true)) { s with heap := h, toks := tk }) :
    wpAny (model PP w) (laTop dp un gd L fa cd cn cz outer) (execs (laS1 ++ laS2) (laEnv L fa cd cn cz)) Q E s := by
  refine execs_app ?_
  refine lawS1 B X T hC hd hu hl hi hz hlay dn dz a1 a2 a3 F N ?_
  clear F N
  intro h tk tt text nn tn tz wl el wv ev nw ne tl pl its jts n1 n2 t b1 b2 o1 on oz pre htx hn hn7 F N ho dn dz hW hIe hS hI hp
  show wpAny _ _ (execs laS2 _) _ _ _
  have hq := same_words (hp.trans (words_law text).symm)
  rw [← hq.1] at hW
  rw [← hq.2] at hIe
  obtain ⟨g1, g2, g3, g4⟩ := places_facts hp
  have hWS := words_of hp
  clear hq
  obtain ⟨evl, rfl⟩ : ∃ l : List Value, ev = l.toArray := ⟨ev.toList, by simp⟩
  obtain ⟨jtl, rfl⟩ : ∃ l : List Value, jts = l.toArray := ⟨jts.toList, by simp⟩
  generalize (pre.map (fun p => p.1)) = WS at *
  generalize (pre.map (fun p => p.2)) = IS at *
  rw [laS2_eq]
  refine wpAny_execs_cons ?_
  refine lawS2 B X T hC hd hu htx F (rest := [(96, tabTwo b1 b2), (b1, o1), (cn, on), (cz, oz)]) (by simp only [List.cons_append, List.nil_append]; (repeat (refine nsC N (by k_mem) ?_)); exact nsN) hS hI hW hIe ?_
  clear F N
  intro h tk F N
  simp only [List.cons_append, List.nil_append] at N
  show wpAny _ _ (execs (laItems :: _) _) _ _ _
  refine wpAny_execs_cons ?_
  have hIe' : IntsAre evl IS := by simpa using hIe
  have hI' : IntsAre jtl IS := by simpa using hI
  have hsor := items_sorted g2 fun x hx => (g1 x hx).1
  have hb60 : ∀ x ∈ 0 :: IS, 0 ≤ x ∧ x ≤ 60 := fun x hx => by
    rcases List.mem_cons.mp hx with rfl | hx
    · omega
    · have := g1 x hx; omega
  have hlen1 : (0 :: IS).length = IS.length + 1 := List.length_cons
  refine lawItems B X T hC hd hu F (rest := [(pl, W.listOf jtl.toArray n2), (wl, W.listOf wv nw), (96, tabTwo b1 b2), (b1, o1), (cn, on), (cz, oz)]) (by (repeat (refine nsC N (by k_mem) ?_)); exact nsN) hIe' (by omega) ?_
  clear F N
  intro h tk it itv F N hit
  show wpAny _ _ (execs (laWide :: _) _) _ _ _
  refine wpAny_execs_cons ?_
  refine lawWide B X T hC hd hu F (rest := [(pl, W.listOf jtl.toArray n2), (wl, W.listOf wv nw), (96, tabTwo b1 b2), (b1, o1), (cn, on), (cz, oz)]) (by (repeat (refine nsC N (by k_mem) ?_)); exact nsN) hit (by omega) (by omega) ?_
  clear F N
  intro h tk wd wdv F N hwd
  show wpAny _ _ (execs (laData :: _) _) _ _ _
  refine wpAny_execs_cons ?_
  refine lawData B X T hC hd hu F (rest := [(wd, W.listOf wdv.toArray 0), (it, W.listOf itv.toArray 0), (wl, W.listOf wv nw), (96, tabTwo b1 b2), (b1, o1)]) (by (repeat (refine nsC N (by k_mem) ?_)); exact nsN) hI' (by omega) dn dz hn hn7 ?_
  clear F N
  intro h tk dd dv F N hdv
  show wpAny _ _ (execs (laQ ++ _) _) _ _ _
  refine execs_app ?_
  have hdl : (((0 :: IS).map (fun x => nn * x)).reverse).length = IS.length + 1 := by simp
  refine lawQ B X T hC hd hu F (rest := [(wd, W.listOf wdv.toArray 0), (it, W.listOf itv.toArray 0), (cz, oz), (wl, W.listOf wv nw), (96, tabTwo b1 b2), (b1, o1)]) (by (repeat (refine nsC N (by k_mem) ?_)); exact nsN) hdv (by omega) (by omega) (data_bound (by omega) hn7 hb60) dn hn hn7 ?_
  clear F N
  intro h tk inn out fi fo ci co ns1 ns2 F N hp1 hw1 hp2 hw2 hc1 hc2
  show wpAny _ _ (execs (laChk :: _) _) _ _ _
  refine wpAny_execs_cons ?_
  obtain ⟨fil, rfl⟩ : ∃ l : List Value, fi = l.toArray := ⟨fi.toList, by simp⟩
  obtain ⟨fol, rfl⟩ : ∃ l : List Value, fo = l.toArray := ⟨fo.toList, by simp⟩
  have hs1 := data_sorted (by omega) hsor hp1 hw1
  have hs2 := data_sorted (by omega) hsor hp2 hw2
  have hib := items_bound hb60
  have hwb := wide_bound hb60
  have hl2 : 2 ≤ (0 :: IS).length := by omega
  refine lawChk B X T hC hd hu F (rest := [(cz, oz), (wl, W.listOf wv nw), (96, tabTwo b1 b2), (b1, o1)]) (by (repeat (refine nsC N (by k_mem) ?_)); exact nsN) hit hwd (by omega) hl2 hib hwb dn hn hn7 hc1 hc2 hs1 hs2 ?_
  clear F N
  intro h tk F N
  show wpAny _ _ (execs (laFlt :: _) _) _ _ _
  refine wpAny_execs_cons ?_
  have hfi : fil.length ≤ 10 := by have := hc1.1; simp at this; omega
  have hfo : fol.length ≤ 10 := by have := hc2.1; simp at this; omega
  have hfl : ∀ v ∈ fil ++ fol, ∃ x t, v = Value.float x t ∧ ∃ a m e, Float64.decode x = .fin a m e := fun v hv => by
    rcases List.mem_append.mp hv with hv | hv
    · exact cuts_fin hc1 hn hn7 hl2 hib (fun k a b => by rw [hs1]; exact numI_cut a b hl2) v (by simpa using hv)
    · exact cuts_fin hc2 hn hn7 (by rw [wide_len]; omega) hwb (fun k a b => by rw [hs2]; exact numE_cut a b hl2) v (by simpa using hv)
  refine lawFlt B X T hC hd hu F (rest := [(cn, on), (cz, oz), (wl, W.listOf wv nw), (96, tabTwo b1 b2), (b1, o1)]) (by (repeat (refine nsC N (by k_mem) ?_)); exact nsN) hfi hfo (fun v hv => by obtain ⟨x, t, e, -⟩ := hfl v hv; exact ⟨x, t, e⟩) ?_
  clear F N
  intro h tk F N
  show wpAny _ _ (execs (laMrk :: _) _) _ _ _
  refine wpAny_execs_cons ?_
  refine lawMrk B X T hC hd hu F (rest := [(wl, W.listOf wv nw), (96, tabTwo b1 b2), (b1, o1)]) (by (repeat (refine nsC N (by k_mem) ?_)); exact nsN) dn dz hn hn7 (by omega) hfi hfo hfl ?_
  clear F N
  intro h tk mk c mv MK F N hmi hms hml2 hml h0 hsz hmb
  show wpAny _ _ (execs (laRet :: _) _) _ _ _
  refine wpAny_execs_cons ?_
  refine lawRet B X T hC hd hu F (rest := []) (by (repeat (refine nsC N (by k_mem) ?_)); exact nsN) ho htx hmi hms hml hml2 h0 hsz hmb hW hWS ?_
  clear F N
  intro h tk hF N
  obtain ⟨m, F⟩ := hF
  exact hend _ _ _ _ _ m F N
end
end
end Mine
end
section
set_option compiler.extract_closed false
open PySem PySem.W PySem.Calls PyProof.Rows
set_option Elab.async false
set_option maxRecDepth 100000
set_option maxHeartbeats 8000000
set_option pp.deepTerms false
set_option pp.deepTerms.threshold 7
set_option pp.proofs false
set_option pp.maxSteps 3000
namespace Mine
theorem law_all : PySem.Challenge.rw_re0024_01.Holds := hd (by
  k_go0
  all_goals try k_fold
  with_reducible rename News _ _ _ [_, _, _] => N0
  with_reducible rename Fr _ _ _ _ => F0
  with_reducible rename Below _ _ _ _ => B0
  with_reducible rename Top topProg _ _ _ _ _ => T0
  with_reducible rename Frag.In _ _ => X0
  with_reducible rename IntsAre _ _ => I0
  with_reducible rename (PyData.layable0 _ = true) => L0
  have l0 := lifted
  have c0 := codeHd
  k_dflt (refine' lawBody (dp := 1 + claimMargin + 1) (un := 7) (gd := some []) (outer := []) B0 X0 T0 c0 ?r5 ?r6 l0 I0 ?r9 L0 ?r11 ?r12 ?r13 ?r14 ?r15 (Fr.congr F0 ?rF) N0 ?rE)
  (case r5 => decide +kernel)
  (case r6 => decide +kernel)
  (case r9 => omega)
  (case r11 => assumption)
  (case r12 => assumption)
  (case r13 => exact Nat.ne_of_gt (Nat.lt_succ_self _))
  (case r14 => omega)
  (case r15 => omega)
  case rF =>
    intro y
    first
    | (show (if y = _ then (if true then _ else _) else _) = _; rfl)
    | rfl
    | (with_unfolding_all rfl)
    | (by_cases hy : y = Str.ofString "script"
       · subst hy; first | rfl | with_unfolding_all rfl
       · rw [if_neg hy]; simp [bindL, hy]; done)
  case rE =>
    clear F0 N0
    intro h tk a1 a2 o1 m F N
    dsimp only
    refine ⟨?_, GrownAt.of N (.head _), True.intro⟩
    first
    | wrow_close
    | (k_end; wrow_close))
end Mine
end
set_option maxRecDepth 100000 in
theorem PySem.Challenge.cw_re0024_01_holds : PySem.Challenge.rw_re0024_01.Holds :=
  Mine.law_all
