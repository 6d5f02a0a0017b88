import PyProof.Rows.All
import Wide.All
import OpenK.AllK
import Wide.FinOn
import Open.Tops
import PySem.Challenge.RW_nb0060_01
set_option Elab.async false
section
open PySem PySem.W PySem.W.X PyProof.Rows
set_option Elab.async false
set_option maxRecDepth 100000
set_option maxHeartbeats 8000000
namespace Mine
open_shared tp for PySem.Challenge.rw_nb0060_01.row.prog leaving 0
/-- the heap behind the top: every object by the name that open_shared gave it -/
noncomputable def heapK : Params → Frag := fun P => [
  (nat_lit 0, PySem.W.boot_o_0 P), (nat_lit 1, PySem.W.boot_o_1 P), (nat_lit 2, PySem.W.boot_o_2 P), (nat_lit 3, Mine.tp.o_5 P), (nat_lit 4, PySem.W.boot_o_4 P), (nat_lit 5, PySem.W.boot_o_5 P),
  (nat_lit 6, PySem.W.boot_o_6 P), (nat_lit 7, PySem.W.boot_o_7 P), (nat_lit 8, PySem.W.boot_o_8 P), (nat_lit 9, PySem.W.boot_o_9 P), (nat_lit 10, PySem.W.boot_o_10 P), (nat_lit 11, Mine.tp.o_1 P),
  (nat_lit 12, Mine.tp.o_6 P), (nat_lit 13, Mine.tp.o_3 P), (nat_lit 14, Mine.tp.o_4 P), (nat_lit 15, Mine.tp.o_7 P), (nat_lit 16, Mine.tp.o_8 P), (nat_lit 17, Mine.tp.o_9 P),
  (nat_lit 18, Mine.tp.o_10 P), (nat_lit 19, Mine.tp.o_11 P), (nat_lit 20, Mine.tp.o_12 P), (nat_lit 21, Mine.tp.o_13 P), (nat_lit 22, Mine.tp.o_14 P), (nat_lit 23, Mine.tp.o_15 P),
  (nat_lit 24, Mine.tp.o_16 P), (nat_lit 25, Mine.tp.o_17 P), (nat_lit 26, Mine.tp.o_18 P), (nat_lit 27, Mine.tp.o_19 P), (nat_lit 28, Mine.tp.o_20 P), (nat_lit 29, Mine.tp.o_21 P),
  (nat_lit 30, Mine.tp.o_22 P), (nat_lit 31, Mine.tp.o_23 P), (nat_lit 32, Mine.tp.o_24 P), (nat_lit 33, Mine.tp.o_25 P), (nat_lit 34, Mine.tp.o_26 P), (nat_lit 35, Mine.tp.o_27 P),
  (nat_lit 36, Mine.tp.o_28 P), (nat_lit 37, Mine.tp.o_29 P), (nat_lit 38, Mine.tp.o_30 P), (nat_lit 39, Mine.tp.o_31 P), (nat_lit 40, Mine.tp.o_32 P), (nat_lit 41, Mine.tp.o_33 P),
  (nat_lit 42, Mine.tp.o_34 P), (nat_lit 43, Mine.tp.o_35 P), (nat_lit 44, Mine.tp.o_36 P), (nat_lit 45, Mine.tp.o_37 P), (nat_lit 46, Mine.tp.o_38 P), (nat_lit 47, Mine.tp.o_39 P),
  (nat_lit 48, Mine.tp.o_40 P), (nat_lit 49, Mine.tp.o_41 P), (nat_lit 50, Mine.tp.o_42 P), (nat_lit 51, Mine.tp.o_43 P), (nat_lit 52, Mine.tp.o_44 P), (nat_lit 53, Mine.tp.o_45 P),
  (nat_lit 54, Mine.tp.o_46 P), (nat_lit 55, Mine.tp.o_47 P), (nat_lit 56, Mine.tp.o_48 P), (nat_lit 57, Mine.tp.o_49 P), (nat_lit 58, Mine.tp.o_50 P), (nat_lit 59, Mine.tp.o_51 P),
  (nat_lit 60, Mine.tp.o_52 P), (nat_lit 61, Mine.tp.o_53 P), (nat_lit 62, Mine.tp.o_54 P), (nat_lit 63, Mine.tp.o_55 P), (nat_lit 64, Mine.tp.o_56 P), (nat_lit 65, Mine.tp.o_57 P),
  (nat_lit 66, Mine.tp.o_58 P), (nat_lit 67, Mine.tp.o_59 P), (nat_lit 68, Mine.tp.o_60 P)]
local macro_rules | `(tactic| k_head) => `(tactic| o_head (kHook Mine.heapK [0, 1, 2, 3, 4, 5, 6, 7, 8, 9, 10, 11, 12, 13, 14, 15, 16, 17, 18, 19, 20, 21, 22, 23, 24, 25, 26, 27, 28, 29, 30, 31, 32, 33, 34, 35, 36, 37, 38, 39, 40, 41, 42, 43, 44, 45, 46, 47, 48, 49, 50, 51, 52, 53, 54, 55, 56, 57, 58, 59, 60, 61, 62, 63, 64, 65, 66, 67, 68] (fun _ => by kernel_rfl)))
open_top hd for PySem.Challenge.rw_nb0060_01
end Mine

end
section
open PySem PySem.W PySem.W.X PyProof.Rows
set_option Elab.async false
set_option maxRecDepth 100000
set_option maxHeartbeats 400000
namespace Mine
section
variable {α : Type} {M : Model} {A : Around} {Q : α → Shared → Prop} {E : Value → Shared → Prop} {s : Shared}
theorem ifT {c : Prop} [Decidable c] {a b : Sem α} (h : c) (k : wpAny M A a Q E s) : wpAny M A (if c then a else b) Q E s := by rw [if_pos h]; exact k
theorem ifF {c : Prop} [Decidable c] {a b : Sem α} (h : ¬ c) (k : wpAny M A b Q E s) : wpAny M A (if c then a else b) Q E s := by rw [if_neg h]; exact k
theorem eqP {t : Sem α} {r : α} (h : t = pure r) (k : Q r s) : wpAny M A t Q E s := by rw [h]; exact wpAny_pure k
end
theorem p1 : Builtin.extendedBase [.type "object"] = pure (.type "object") := by kernel_rfl
theorem p2 : Builtin.notOverATurnedClass [.type "object"] = pure () := by kernel_rfl
theorem p3 : isSubtype (.type "type") (.type "type") = pure true := by kernel_rfl
theorem p4 : typeOf (.type "object") = pure (.type "type") := by kernel_rfl
theorem p5 : isSubtype (.type "tuple") (.type "tuple") = pure true := by kernel_rfl
theorem p6 : isSubtype (.type "dict") (.type "dict") = pure true := by kernel_rfl
theorem p7 : typeLookup (.type "dict") (Str.ofString "__iter__") = pure (some (.builtin "dict.__iter__")) := by kernel_rfl
theorem p8 : Builtin.Slots.bestBase [.type "object"] = pure (.type "object") := by kernel_rfl
theorem p10 : Builtin.Slots.givesDict (.type "object") = pure false := by kernel_rfl
theorem p11 : Builtin.Slots.givesWeak (.type "object") = pure false := by kernel_rfl
theorem p12 : Builtin.Slots.varSize (.type "object") = pure false := by kernel_rfl
theorem p13 : Builtin.mroHook? (.type "type") = pure none := by kernel_rfl
theorem p14 : Builtin.linearize [.type "object"] mroOf = pure [.type "object"] := by kernel_rfl
theorem p15 : Bind.madeBy (.type "object") = pure (some "object.__new__") := by kernel_rfl
theorem p16 (a : Addr) : Builtin.noteSubclassOfBuiltin "object" a = pure () := by kernel_rfl
theorem p17 : classOwn (.type "object") (Str.ofString "__new__") = pure (some (.builtin "object.__new__")) := by kernel_rfl
theorem p18 : typeLookup (.type "function") (Str.ofString "__set_name__") = pure none := by kernel_rfl
theorem p19 : typeLookup (.type "str") (Str.ofString "__set_name__") = pure none := by kernel_rfl
theorem p20 : typeLookup (.type "int") (Str.ofString "__set_name__") = pure none := by kernel_rfl
theorem p21 : typeLookup (.type "list") (Str.ofString "__set_name__") = pure none := by kernel_rfl
theorem p22 : typeLookup (.type "tuple") (Str.ofString "__set_name__") = pure none := by kernel_rfl
theorem p23 : typeLookup (.type "NoneType") (Str.ofString "__set_name__") = pure none := by kernel_rfl
theorem p24 : typeLookup (.type "member_descriptor") (Str.ofString "__set_name__") = pure none := by kernel_rfl
theorem p25 : classOwn (.type "object") (Str.ofString "__init_subclass__") = pure (some (.builtin "object.__init_subclass__")) := by kernel_rfl
noncomputable def KK2 : Params → Frag := fun P => (Mine.heapK P).filter fun p => !(p.1 == 23)
theorem lookup_filter {P : Nat → Bool} : ∀ {l : List (Addr × Obj)} {a : Addr} {o : Obj}, (l.filter fun p => P p.1).lookup a = some o → l.lookup a = some o ∧ P a = true
  | [], _, _, h => by cases h
  | (b, x) :: l, a, o, h => by
    by_cases hb : P b = true
    · rw [List.filter_cons_of_pos (by simpa using hb), List.lookup_cons] at h
      rw [List.lookup_cons]
      cases e : a == b with
      | true => rw [e] at h; have : a = b := by simpa using e
                exact ⟨h, this ▸ hb⟩
      | false => rw [e] at h; exact lookup_filter h
    · rw [List.filter_cons_of_neg (by simpa using hb)] at h
      have ih := lookup_filter h
      refine ⟨?_, ih.2⟩
      rw [List.lookup_cons]
      cases e : a == b with
      | true => have : a = b := by simpa using e
                rw [this] at ih; exact absurd ih.2 hb
      | false => exact ih.1
noncomputable abbrev KK (w : World) : Frag := Mine.heapK w.params
theorem KK2.of {w : World} {h : Heap} (X : (KK w).In h) : (KK2 w.params).In h := fun a o e => X a o (lookup_filter (P := fun n => !(n == 23)) e).1
end Mine

end
section
open PySem PySem.W PySem.W.X PyProof.Rows
set_option Elab.async false
set_option maxRecDepth 100000
set_option maxHeartbeats 4000000
namespace Mine
abbrev prg : Program := PySem.Challenge.rw_nb0060_01.row.prog
abbrev S (x : String) : Str := Str.ofString x
section
variable {α : Type} {M : Model} {A : Around} {Q : α → Shared → Prop} {E : Value → Shared → Prop} {s : Shared}
theorem bF {c : Bool} {a b : Sem α} (h : c = false) (k : wpAny M A b Q E s) : wpAny M A (if c = true then a else b) Q E s := ifF (by rw [h]; decide) k
theorem bTr {c : Bool} {a b : Sem α} (h : c = true) (k : wpAny M A a Q E s) : wpAny M A (if c = true then a else b) Q E s := ifT h k
end
section
variable {α β : Type} {M : Model} {A : Around} {E : Value → Shared → Prop} {s : Shared}
theorem forC {Q : β → Shared → Prop} {x : α} {l : List α} {b : β} {f : α → β → Sem (ForInStep β)} (h : wpAny M A (f x b) (fun r s' => match r with | .done c => Q c s' | .yield c => wpAny M A (forIn l c f) Q E s') E s) : wpAny M A (forIn (x :: l) b f) Q E s := by
  rw [List.forIn_cons]
  refine wpAny_bind (wpAny_mono h (fun r s' h' => ?_) fun _ _ e => e)
  cases r with
  | done c => exact wpAny_pure h'
  | yield c => exact h'
theorem forN {Q : β → Shared → Prop} {b : β} {f : α → β → Sem (ForInStep β)} (h : Q b s) : wpAny M A (forIn ([] : List α) b f) Q E s := by
  rw [List.forIn_nil]; exact wpAny_pure h
theorem forA {Q : β → Shared → Prop} {l : List α} {b : β} {f : α → β → Sem (ForInStep β)} (h : wpAny M A (forIn l b f) Q E s) : wpAny M A (forIn l.toArray b f) Q E s := by
  rw [List.forIn_toArray]; exact h
end
def es0 (i0 i1 i2 i3 i4 i5 i6 i7 i8 i9 i10 i11 : Int) (t0 t1 t2 t3 t4 t5 t6 t7 t8 t9 t10 t11 tm tq tl : Tok) (m q : Str) (l : Int) (sl f0 f1 f2 f3 f4 f5 sa : Addr) : Array DictEntry :=
  #[⟨i0, .str (S "__module__") t0, .str m tm⟩, ⟨i1, .str (S "__qualname__") t1, .str q tq⟩, ⟨i2, .str (S "__firstlineno__") t2, .int l tl⟩, ⟨i3, .str (S "__slots__") t3, .ref sl⟩,
    ⟨i4, .str (S "__init__") t4, .ref f0⟩, ⟨i5, .str (S "__lt__") t5, .ref f1⟩, ⟨i6, .str (S "__gt__") t6, .ref f2⟩, ⟨i7, .str (S "__eq__") t7, .ref f3⟩, ⟨i8, .str (S "__le__") t8, .ref f4⟩, ⟨i9, .str (S "__ge__") t9, .ref f5⟩,
    ⟨i10, .str (S "__hash__") t10, .none⟩, ⟨i11, .str (S "__static_attributes__") t11, .ref sa⟩]
theorem p9 : Builtin.Slots.slotNamesOf (.type "object") = pure [] := by kernel_rfl

section
variable {α : Type} {prog : Program} {w : World} {A : Around} {E : Value → Shared → Prop} {s : Shared} {h₀ : Heap} {chg news : List (Addr × Obj)}
theorem alM {o : Obj} {Q : Addr → Shared → Prop} (D : Mem h₀ s.heap chg news) (hf : o.isFreed = false) (k : ∀ a h', Mem h₀ h' chg ((a, o) :: news) → Q a { s with heap := h' }) : wpAny (model prog w) A (alloc o) Q E s :=
  wpAny_alloc (k _ _ (D.alloc hf))
theorem newObjM {T : String} {data : Data} {Q : Value → Shared → Prop} (D : Mem h₀ s.heap chg news) (hf : (Obj.mk (.type T) none data #[]).isFreed = false) (hd : sizeOk data) (k : ∀ a h', Mem h₀ h' chg ((a, ⟨.type T, none, data, #[]⟩) :: news) → Q (.ref a) { s with heap := h' }) : wpAny (model prog w) A (newObj (.type T) data) Q E s :=
  wpAny_newObj_type (k _ _ (D.alloc hf)) hd
theorem upM {a : Addr} {q : Option Value} {f : Obj → Obj} {o : Obj} {Q : Unit → Shared → Prop} (D : Mem h₀ s.heap chg news) (i : Nat) (hi : news[i]? = some (a, o)) (hf : (f o).isFreed = false) (k : ∀ h', Mem h₀ h' chg (news.set i (a, f o)) → Q () { s with heap := h' }) :
    wpAny (model prog w) A (updatePart a q f) Q E s := wpAny_updatePart (D.at i a o hi) (k _ (D.update hi hf))
theorem upM0 {a : Addr} {f : Obj → Obj} {o : Obj} {Q : Unit → Shared → Prop} (D : Mem h₀ s.heap chg news) (i : Nat) (hi : news[i]? = some (a, o)) (hf : (f o).isFreed = false) (k : ∀ h', Mem h₀ h' chg (news.set i (a, f o)) → Q () { s with heap := h' }) :
    wpAny (model prog w) A (update a f) Q E s := wpAny_update (D.at i a o hi) (k _ (D.update hi hf))
theorem nsGetM {a : Addr} {name : Str} {o : Obj} {r : Option Value} {Q : Option Value → Shared → Prop} (D : Mem h₀ s.heap chg news) (i : Nat) (hi : news[i]? = some (a, o)) (hl : nsLook name o = pure r) (k : Q r s) : wpAny (model prog w) A (nsGet a name) Q E s :=
  wpAny_bind (wpAny_loadPart (D.at i a o hi) (eqP hl k))
theorem setSlotM {a : Addr} {j : Nat} {v : Option Value} {o : Obj} {Q : Unit → Shared → Prop} (D : Mem h₀ s.heap chg news) (i : Nat) (hi : news[i]? = some (a, o)) (hj : ¬ j ≥ sizeLine) (hf : ({ o with slots := (o.slots ++ Array.replicate (j + 1 - o.slots.size) none).setIfInBounds j v } : Obj).isFreed = false)
    (k : ∀ h', Mem h₀ h' chg (news.set i (a, { o with slots := (o.slots ++ Array.replicate (j + 1 - o.slots.size) none).setIfInBounds j v })) → Q () { s with heap := h' }) : wpAny (model prog w) A (setSlotAt a j v) Q E s := by
  unfold setSlotAt
  exact ifF hj (upM D i hi hf k)
theorem slotAtM {a : Addr} {j : Nat} {o : Obj} {Q : Option Value → Shared → Prop} (D : Mem h₀ s.heap chg news) (i : Nat) (hi : news[i]? = some (a, o)) (k : Q (o.slots[j]?).join s) : wpAny (model prog w) A (slotAt a j) Q E s :=
  wpAny_bind (wpAny_loadPart (D.at i a o hi) (wpAny_pure k))
theorem nsDelM {a : Addr} {name : Str} {o : Obj} {Q : Bool → Shared → Prop} (D : Mem h₀ s.heap chg news) (i : Nat) (hi : news[i]? = some (a, o)) (hl : nsHas name o = pure true) (hf : (Obj.dropName name o).isFreed = false) (k : ∀ h', Mem h₀ h' chg (news.set i (a, Obj.dropName name o)) → Q true { s with heap := h' }) :
    wpAny (model prog w) A (nsDel a name) Q E s :=
  wpAny_bind (wpAny_loadPart (D.at i a o hi) (wpAny_bind (eqP hl (ifT rfl (wpAny_bind (upM D i hi hf fun h' D' => wpAny_pure (k h' D')))))))
theorem updClsM {a : Addr} {f : ClassData → ClassData} {o : Obj} {c : ClassData} {Q : Unit → Shared → Prop} (D : Mem h₀ s.heap chg news) (i : Nat) (hi : news[i]? = some (a, o)) (ho : o.data = .cls c) (hp : (Data.cls (f c)).pastItsLine = none)
    (k : ∀ h', Mem h₀ h' chg (news.set i (a, { o with data := .cls (f c) })) → Q () { s with heap := h' }) : wpAny (model prog w) A (updateCls a f) Q E s := by
  obtain ⟨oc, od, dt, sl⟩ := o
  simp only at ho; subst ho
  unfold updateCls
  refine wpAny_bind (wpAny_load (D.at i a _ hi) (wpAny_bind (upM0 D i hi rfl fun h' D' => ?_)))
  have hget : h'.get? a = some ⟨oc, od, .cls (f c), sl⟩ := D'.at i a _ (by
    obtain ⟨hlt, _⟩ := List.getElem?_eq_some_iff.mp hi
    rw [List.getElem?_set_self hlt]; rfl)
  exact wpAny_lookBehind (o := ⟨oc, od, .cls (f c), sl⟩) hget hp (k h' D')
theorem nsSetM {a : Addr} {name : Str} {v : Value} {c : Value} {d : Option Addr} {es : Array DictEntry} {n : Nat} {sl : Array (Option Value)} {Q : Unit → Shared → Prop} (D : Mem h₀ s.heap chg news) (i : Nat) (hi : news[i]? = some (a, ⟨c, d, .dict es n, sl⟩)) (hk : ¬ aRefKeyMayBeTheName name es = true)
    (hf : ∀ hh tk, (Obj.putName name hh (.str name tk) v ⟨c, d, .dict es n, sl⟩).isFreed = false)
    (k : ∀ hh tk h', Mem h₀ h' chg (news.set i (a, Obj.putName name hh (.str name tk) v ⟨c, d, .dict es n, sl⟩)) → Q () { s with heap := h', toks := s.toks + 1 }) : wpAny (model prog w) A (nsSet a name v) Q E s := by
  unfold nsSet
  refine wpAny_bind (wpAny_bind (wpAny_askSetting (wpAny_pure ?_)))
  refine wpAny_bind (wpAny_mkText ?_)
  refine wpAny_bind (wpAny_loadPart (D.at i a _ hi) ?_)
  exact ifF hk (upM (s := { s with toks := s.toks + 1 }) D i hi (hf _ _) fun h' D' => k _ _ h' D')
theorem typeOfM {a : Addr} {o : Obj} {Q : Value → Shared → Prop} (D : Mem h₀ s.heap chg news) (i : Nat) (hi : news[i]? = some (a, o)) (k : Q o.cls s) : wpAny (model prog w) A (typeOf (.ref a)) Q E s := wpAny_typeOf_ref (D.at i a o hi) k
end

theorem classDataM {prog : Program} {w : World} {A : Around} {E : Value → Shared → Prop} {s : Shared} {h₀ : Heap} {chg news : List (Addr × Obj)} {a : Addr} {o : Obj} {cd : ClassData} {Q : ClassData → Shared → Prop} (D : Mem h₀ s.heap chg news) (i : Nat) (hi : news[i]? = some (a, o)) (hc : o.data = .cls cd) (k : Q cd s) :
    wpAny (model prog w) A (classData a) Q E s := by
  unfold classData
  refine wpAny_bind (wpAny_load (D.at i a o hi) ?_)
  rw [hc]; exact wpAny_pure k
theorem tl2M {prog : Program} {w : World} {A : Around} {E : Value → Shared → Prop} {s : Shared} {h₀ : Heap} {chg news : List (Addr × Obj)} {aC : Addr} {oC oN : Obj} {cd : ClassData} {name : Str} {v : Value} {Q : Option Value → Shared → Prop} (D : Mem h₀ s.heap chg news) (i j : Nat) (hi : news[i]? = some (aC, oC)) (hc : oC.data = .cls cd) (hm : cd.mro = [.ref aC, .type "object"])
    (hj : news[j]? = some (cd.ns, oN)) (hl : nsLook name oN = pure none) (ho : classOwn (.type "object") name = pure (some v)) (k : Q (some v) s) : wpAny (model prog w) A (typeLookup (.ref aC) name) Q E s := by
  rw [typeLookup_eq]
  refine wpAny_bind (wpAny_bind (classDataM D i hi hc (wpAny_pure ?_)))
  rw [hm, lookupAlong_cons]
  refine wpAny_bind (wpAny_bind (classDataM D i hi hc (nsGetM D j hj hl ?_)))
  show wpAny _ _ (lookupAlong [.type "object"] name) _ _ _
  rw [lookupAlong_cons]
  exact wpAny_bind (eqP ho (wpAny_pure k))
theorem nsSetVM {prog : Program} {w : World} {A : Around} {E : Value → Shared → Prop} {s : Shared} {h₀ : Heap} {chg news : List (Addr × Obj)} {a : Addr} {name : Str} {v : Value} {c : Value} {d : Option Addr} {es : Array DictEntry} {n : Nat} {sl : Array (Option Value)} {Q : Unit → Shared → Prop} (D : Mem h₀ s.heap chg news) (i : Nat) (hi : news[i]? = some (a, ⟨c, d, .dict es n, sl⟩)) (hz : es.size ≤ sizeLine) (hk : ¬ aRefKeyMayBeTheName name es = true)
    (hf : ∀ hh tk, (Obj.putName name hh (.str name tk) v ⟨c, d, .dict es n, sl⟩).isFreed = false)
    (k : ∀ hh tk h', Mem h₀ h' chg (news.set i (a, Obj.putName name hh (.str name tk) v ⟨c, d, .dict es n, sl⟩)) → Q () { s with heap := h', toks := s.toks + 1 }) : wpAny (model prog w) A (nsSetByValue a name v) Q E s := by
  unfold nsSetByValue
  refine wpAny_bind (wpAny_loadPart (D.at i a _ hi) ?_)
  refine ifF (by simp only [Bool.and_eq_true, decide_eq_true_eq, not_and]; intro h; omega) ?_
  exact nsSetM D i hi hk hf k
theorem spP {prog : Program} {w : World} {A : Around} {E : Value → Shared → Prop} {s : Shared} {v : Value} {T : String} {name : Str} {Q : Option Value → Shared → Prop} (ht : typeOf v = pure (.type T)) (hp : typeLookup (.type T) name = pure none) (k : Q none s) : wpAny (model prog w) A (specialOf v name) Q E s :=
  wpAny_bind (eqP ht (eqP hp k))
theorem spR {prog : Program} {w : World} {A : Around} {E : Value → Shared → Prop} {s : Shared} {a : Addr} {o : Obj} {T : String} {name : Str} {Q : Option Value → Shared → Prop} (ho : s.heap.get? a = some o) (hc : o.cls = .type T) (hp : typeLookup (.type T) name = pure none) (k : Q none s) : wpAny (model prog w) A (specialOf (.ref a) name) Q E s :=
  wpAny_bind (wpAny_typeOf_ref ho (by rw [hc]; exact eqP hp k))
theorem memEq {h₀ h : Heap} {chg n1 n2 : List (Addr × Obj)} (D : Mem h₀ h chg n1) (e : n1 = n2) : Mem h₀ h chg n2 := e ▸ D
def clsD (aN : Addr) (q : Str) (mro : List Value) (hasDict : Bool) (sn : List Str) : ClassData := { name := S "K", bases := [.type "object"], mro, ns := aN, qualname := q, hasDict, slotNames := sn }
def es1 (i0 i2 i3 i4 i5 i6 i7 i8 i9 i10 i11 : Int) (t0 t2 t3 t4 t5 t6 t7 t8 t9 t10 t11 tm tl : Tok) (m : Str) (l : Int) (sl f0 f1 f2 f3 f4 f5 sa : Addr) (more : List DictEntry) : Array DictEntry :=
  (⟨i0, .str (S "__module__") t0, .str m tm⟩ :: ⟨i2, .str (S "__firstlineno__") t2, .int l tl⟩ :: ⟨i3, .str (S "__slots__") t3, .ref sl⟩ ::
    ⟨i4, .str (S "__init__") t4, .ref f0⟩ :: ⟨i5, .str (S "__lt__") t5, .ref f1⟩ :: ⟨i6, .str (S "__gt__") t6, .ref f2⟩ :: ⟨i7, .str (S "__eq__") t7, .ref f3⟩ :: ⟨i8, .str (S "__le__") t8, .ref f4⟩ :: ⟨i9, .str (S "__ge__") t9, .ref f5⟩ ::
    ⟨i10, .str (S "__hash__") t10, .none⟩ :: ⟨i11, .str (S "__static_attributes__") t11, .ref sa⟩ :: more).toArray
theorem read_ok {w : World} {A : Around} {Q : Builtin.Slots.Plan → Shared → Prop} {E : Value → Shared → Prop} {s : Shared} {to : Tok} {h₀ : Heap} {chg news : List (Addr × Obj)}
  {i0 i1 i2 i3 i4 i5 i6 i7 i8 i9 i10 i11 : Int} {t0 t1 t2 t3 t4 t5 t6 t7 t8 t9 t10 t11 tm tq tl : Tok} {m q : Str} {l : Int} {sl f0 f1 f2 f3 f4 f5 sa : Addr} {ol : Option Addr} {nl : Nat} {ssl : Array (Option Value)}
  (D : Mem h₀ s.heap chg news) (hl : s.heap.get? sl = some ⟨.type "list", ol, .seq #[.str (S "obj") to] nl, ssl⟩)
  (hQ : ∀ aL h', Mem h₀ h' chg ((aL, seqObj "list" #[.str (S "obj") to] 1) :: news) → Q { names := [S "obj"], dict := false, weak := false, inherited := [] } { s with heap := h' })
   : wpAny (model prg w) A (Builtin.Slots.read (S "K") [.type "object"] (es0 i0 i1 i2 i3 i4 i5 i6 i7 i8 i9 i10 i11 t0 t1 t2 t3 t4 t5 t6 t7 t8 t9 t10 t11 tm tq tl m q l sl f0 f1 f2 f3 f4 f5 sa)) Q E s := by
  unfold Builtin.Slots.read
  refine wpAny_bind (eqP p8 ?_)
  refine wpAny_bind (eqP p9 ?_)
  refine wpAny_bind (eqP p10 ?_)
  refine wpAny_bind (eqP p11 ?_)
  refine wpAny_bind (eqP p12 ?_)
  have hf : (es0 i0 i1 i2 i3 i4 i5 i6 i7 i8 i9 i10 i11 t0 t1 t2 t3 t4 t5 t6 t7 t8 t9 t10 t11 tm tq tl m q l sl f0 f1 f2 f3 f4 f5 sa).find? (·.key.isStr (S "__slots__")) = some ⟨i3, .str (S "__slots__") t3, .ref sl⟩ := by kernel_rfl
  rw [hf]
  refine wpAny_bind (wpAny_rule ?_)
  refine wpAny_bind (wpAny_bind (wpAny_load hl (wpAny_pure ?_)))
  refine ifF (by decide) ?_
  refine wpAny_bind (collect_list (vs := [.str (S "obj") to]) ⟨_, hl, rfl, nl, rfl⟩ ?_)
  exact eqP (r := { names := [S "obj"], dict := false, weak := false, inherited := [] }) (by kernel_rfl) (hQ _ _ ((D.alloc rfl).update (i := 0) rfl rfl))
theorem new_ok {w : World} {A : Around} {Q : PySem.Fin → Shared → Prop} {E : Value → Shared → Prop} {s : Shared} {bT nsA : Addr} {tn : Tok} {nn : Nat} {nb : Nat} {to : Tok}
  {i0 i1 i2 i3 i4 i5 i6 i7 i8 i9 i10 i11 : Int} {t0 t1 t2 t3 t4 t5 t6 t7 t8 t9 t10 t11 tm tq tl : Tok} {m q : Str} {l : Int} {sl f0 f1 f2 f3 f4 f5 sa : Addr} {ob on ol : Option Addr} {sb sn ssl : Array (Option Value)} {nl : Nat}
  (hb : s.heap.get? bT = some ⟨.type "tuple", ob, .seq #[.type "object"] nb, sb⟩)
  (hn : s.heap.get? nsA = some ⟨.type "dict", on, .dict (es0 i0 i1 i2 i3 i4 i5 i6 i7 i8 i9 i10 i11 t0 t1 t2 t3 t4 t5 t6 t7 t8 t9 t10 t11 tm tq tl m q l sl f0 f1 f2 f3 f4 f5 sa) nn, sn⟩)
  (hl : s.heap.get? sl = some ⟨.type "list", ol, .seq #[.str (S "obj") to] nl, ssl⟩)
  (hs1 : (nsA == sysModules) = false)
  {o0 o1 o2 o3 o4 o5 oa : Obj} (e0 : s.heap.get? f0 = some o0) (e1 : s.heap.get? f1 = some o1) (e2 : s.heap.get? f2 = some o2) (e3 : s.heap.get? f3 = some o3) (e4 : s.heap.get? f4 = some o4) (e5 : s.heap.get? f5 = some o5) (ea : s.heap.get? sa = some oa)
  (c0 : o0.cls = .type "function") (c1 : o1.cls = .type "function") (c2 : o2.cls = .type "function") (c3 : o3.cls = .type "function") (c4 : o4.cls = .type "function") (c5 : o5.cls = .type "function") (ca : oa.cls = .type "tuple")
  (k : ∀ (aC aN aD aL : Addr) (h : Heap) (tk to1 to' td : Tok) (ho hd : Int),
    Mem s.heap h [] [(aD, ⟨.type "member_descriptor", none, .fields #[.str (S "obj") to1, .ref aC, .builtin "proto.slot", .builtin "proto.slot#set", rawInt 0], #[]⟩),
      (aC, ⟨.type "type", none, .cls (clsD aN q [.ref aC, .type "object"] false [S "obj"]), #[some (.ref bT), none, some (.str (S "K") tn), some (.str q tq), some (.builtin "object.__new__"), some (.bool false)]⟩),
      (aN, ⟨.type "dict", none, .dict (es1 i0 i2 i3 i4 i5 i6 i7 i8 i9 i10 i11 t0 t2 t3 t4 t5 t6 t7 t8 t9 t10 t11 tm tl m l sl f0 f1 f2 f3 f4 f5 sa [⟨ho, .str (S "obj") to', .ref aD⟩, ⟨hd, .str (S "__doc__") td, .none⟩]) 3, #[]⟩), (aL, seqObj "list" #[.str (S "obj") to] 1)] →
    wpAny (model prg w) A (call (.type "super") [.ref aC, .ref aC]) (fun sup s1 => wpAny (model prg w) A (getAttr sup (S "__init_subclass__")) (fun f s2 => wpAny (model prg w) A (call f [] []) (fun _ s3 => Q (.done (.ret (.ref aC))) s3) (fun _ _ => False) s2) (fun _ _ => False) s1) (fun _ _ => False) { s with heap := h, toks := tk })
   : wpAny (model prg w) A (Builtin.«type.__new__» ⟨[.type "type", .str (Str.ofString "K") tn, .ref bT, .ref nsA], []⟩) Q E s := by
  unfold Builtin.«type.__new__»
  refine wpAny_bind (wpAny_pure ?_)
  refine wpAny_bind (wpAny_isInstance (T := "tuple") ⟨_, hb, rfl⟩ p5 ?_)
  refine ifF (by decide) ?_
  refine wpAny_bind (wpAny_isInstance (T := "dict") ⟨_, hn, rfl⟩ p6 ?_)
  refine ifF (by decide) ?_
  refine wpAny_bind (wpAny_bind (wpAny_load hb (wpAny_pure ?_)))
  refine ifF (by decide) ?_
  refine wpAny_bind (forC (wpAny_bind (wpAny_pure (ifF (by decide) (wpAny_pure (forN ?_))))))
  refine wpAny_bind (forC (wpAny_bind (eqP p4 (wpAny_bind (eqP p3 (ifT rfl (wpAny_pure (forN ?_))))))))
  refine ifF (by decide) ?_
  refine wpAny_bind (eqP p2 ?_)
  refine wpAny_bind (eqP p1 ?_)
  refine ifF (by rw [hs1]; decide) ?_
  refine wpAny_bind (wpAny_dictEntries hn rfl ?_)
  refine wpAny_bind (wpAny_bind (wpAny_typeOf ⟨_, hn, rfl⟩ (eqP p7 ?_)))
  refine ifT rfl ?_
  refine wpAny_bind (wpAny_pure ?_)
  refine wpAny_bind (wpAny_holding (read_ok (Mem.start s.heap) hl fun aL h1 D1 => ?_))
  refine wpAny_bind (newObjM D1 rfl (by show (12 : Nat) ≤ _; decide) fun aN h2 D2 => ?_)
  refine bF (by kernel_rfl) ?_
  refine wpAny_bind (bF (by kernel_rfl) (wpAny_pure ?_))
  refine bF (by kernel_rfl) ?_
  refine wpAny_bind (nsGetM D2 0 rfl (r := some (.str q tq)) (by kernel_rfl) ?_)
  refine wpAny_bind (nsGetM D2 0 rfl (r := some (.str q tq)) (by kernel_rfl) ?_)
  refine wpAny_bind (wpAny_pure ?_)
  refine wpAny_bind (wpAny_pure ?_)
  refine wpAny_bind (nsGetM D2 0 rfl (r := none) (by kernel_rfl) ?_)
  refine wpAny_bind (alM D2 rfl fun aC h3 D3 => ?_)
  refine bTr (by kernel_rfl) ?_
  refine wpAny_bind (setSlotM D3 0 rfl (by decide) rfl fun h4 D4 => ?_)
  refine wpAny_bind (setSlotM D4 0 rfl (by decide) rfl fun h5 D5 => ?_)
  refine wpAny_bind (setSlotM D5 0 rfl (by decide) rfl fun h6 D6 => ?_)
  refine wpAny_bind (nsDelM D6 1 rfl (by kernel_rfl) rfl fun h7 D7 => ?_)
  refine wpAny_bind (nsGetM D7 1 rfl (r := none) (by kernel_rfl) ?_)
  refine wpAny_bind (forC (wpAny_bind (nsGetM D7 1 rfl (r := none) (by kernel_rfl) (wpAny_pure (forC (wpAny_bind (nsGetM D7 1 rfl (r := none) (by kernel_rfl) (wpAny_pure (forN ?_)))))))))
  refine wpAny_bind (nsGetM D7 1 rfl (r := none) (by kernel_rfl) ?_)
  refine wpAny_bind (nsGetM D7 1 rfl (r := none) (by kernel_rfl) ?_)
  refine wpAny_bind (eqP p13 ?_)
  refine wpAny_bind (eqP p14 ?_)
  refine wpAny_bind (wpAny_pure ?_)
  have D8 : Mem s.heap h7 [] [(aC, ⟨.type "type", none, .cls (clsD aN q [] true []), #[some (.ref bT), none, some (.str (S "K") tn), some (.str q tq)]⟩),
      (aN, ⟨.type "dict", none, .dict (es1 i0 i2 i3 i4 i5 i6 i7 i8 i9 i10 i11 t0 t2 t3 t4 t5 t6 t7 t8 t9 t10 t11 tm tl m l sl f0 f1 f2 f3 f4 f5 sa []) 1, #[]⟩), (aL, seqObj "list" #[.str (S "obj") to] 1)] := memEq D7 (by kernel_rfl)
  clear D7 D6 D5 D4 D3 D2 D1
  have hfl : List.filter (fun x => x != Value.ref aC) [Value.ref aC, Value.type "object"] = [Value.type "object"] := by simp
  refine wpAny_bind ?_
  rw [hfl]
  refine eqP (r := false) (by kernel_rfl) ?_
  refine wpAny_bind (updClsM D8 0 rfl rfl (by kernel_rfl) fun h8 D9 => ?_)
  refine wpAny_bind (eqP p15 ?_)
  refine wpAny_bind (setSlotM D9 0 rfl (by decide) rfl fun h9 D10 => ?_)
  have D11 : Mem s.heap h9 [] [(aC, ⟨.type "type", none, .cls (clsD aN q [.ref aC, .type "object"] true []), #[some (.ref bT), none, some (.str (S "K") tn), some (.str q tq), some (.builtin "object.__new__")]⟩),
      (aN, ⟨.type "dict", none, .dict (es1 i0 i2 i3 i4 i5 i6 i7 i8 i9 i10 i11 t0 t2 t3 t4 t5 t6 t7 t8 t9 t10 t11 tm tl m l sl f0 f1 f2 f3 f4 f5 sa []) 1, #[]⟩), (aL, seqObj "list" #[.str (S "obj") to] 1)] := memEq D10 (by kernel_rfl)
  clear D10 D9 D8
  refine wpAny_bind ?_
  unfold Bind.refreshMaker
  refine wpAny_bind (slotAtM D11 0 rfl ?_)
  refine bF (by kernel_rfl) ?_
  refine wpAny_bind (tl2M D11 0 1 rfl rfl rfl rfl (by kernel_rfl) p17 ?_)
  refine bF (by kernel_rfl) (wpAny_pure ?_)
  refine wpAny_bind ?_
  unfold Builtin.Slots.install
  refine wpAny_bind (forC (wpAny_bind (nsGetM D11 1 rfl (r := none) (by kernel_rfl) (bTr rfl (wpAny_bind (wpAny_mkStr ?_ (by decide +kernel)))))))
  refine wpAny_bind (newObjM (s := { s with heap := h9, toks := _ }) D11 rfl (by show (5 : Nat) ≤ _; decide) fun aD h10 D12 => ?_)
  clear D11
  refine wpAny_bind (nsSetVM D12 2 rfl (by show (11 : Nat) ≤ _; decide) (by rw [show aRefKeyMayBeTheName (S "obj") _ = false from by kernel_rfl]; decide) (fun _ _ => rfl) fun ho to' h11 D13 => wpAny_pure (forN ?_))
  refine wpAny_bind (forC (wpAny_bind (eqP p10 (bF rfl (wpAny_pure (forN ?_))))))
  refine ifF (by decide) ?_
  refine updClsM D13 1 rfl rfl (by kernel_rfl) fun h12 D14 => ?_
  refine wpAny_bind (eqP p11 ?_)
  refine wpAny_bind (setSlotM D14 1 rfl (by decide) rfl fun h13 D15 => ?_)
  refine bF rfl (bF rfl ?_)
  refine wpAny_bind (nsGetM D15 2 rfl (r := none) (by kernel_rfl) (bTr rfl ?_))
  have D16 : Mem s.heap h13 [] [(aD, ⟨.type "member_descriptor", none, .fields #[.str (S "obj") s.toks, .ref aC, .builtin "proto.slot", .builtin "proto.slot#set", rawInt 0], #[]⟩),
      (aC, ⟨.type "type", none, .cls (clsD aN q [.ref aC, .type "object"] false [S "obj"]), #[some (.ref bT), none, some (.str (S "K") tn), some (.str q tq), some (.builtin "object.__new__"), some (.bool false)]⟩),
      (aN, ⟨.type "dict", none, .dict (es1 i0 i2 i3 i4 i5 i6 i7 i8 i9 i10 i11 t0 t2 t3 t4 t5 t6 t7 t8 t9 t10 t11 tm tl m l sl f0 f1 f2 f3 f4 f5 sa [⟨ho, .str (S "obj") to', .ref aD⟩]) 2, #[]⟩), (aL, seqObj "list" #[.str (S "obj") to] 1)] := memEq D15 (by kernel_rfl)
  clear D15 D14 D13 D12
  refine wpAny_bind (nsSetM D16 2 rfl (by rw [show aRefKeyMayBeTheName (S "__doc__") _ = false from by kernel_rfl]; decide) (fun _ _ => rfl) fun hd td h14 D17 => ?_)
  have D18 : Mem s.heap h14 [] [(aD, ⟨.type "member_descriptor", none, .fields #[.str (S "obj") s.toks, .ref aC, .builtin "proto.slot", .builtin "proto.slot#set", rawInt 0], #[]⟩),
      (aC, ⟨.type "type", none, .cls (clsD aN q [.ref aC, .type "object"] false [S "obj"]), #[some (.ref bT), none, some (.str (S "K") tn), some (.str q tq), some (.builtin "object.__new__"), some (.bool false)]⟩),
      (aN, ⟨.type "dict", none, .dict (es1 i0 i2 i3 i4 i5 i6 i7 i8 i9 i10 i11 t0 t2 t3 t4 t5 t6 t7 t8 t9 t10 t11 tm tl m l sl f0 f1 f2 f3 f4 f5 sa [⟨ho, .str (S "obj") to', .ref aD⟩, ⟨hd, .str (S "__doc__") td, .none⟩]) 3, #[]⟩), (aL, seqObj "list" #[.str (S "obj") to] 1)] := memEq D17 (by kernel_rfl)
  clear D17 D16
  refine wpAny_bind (nsGetM D18 2 rfl (r := some (.ref f3)) (by kernel_rfl) (bTr rfl ?_))
  refine wpAny_bind (nsGetM D18 2 rfl (r := some .none) (by kernel_rfl) (bF rfl ?_))
  refine wpAny_bind (forC (wpAny_bind (eqP (p16 _) (wpAny_pure (forN ?_)))))
  refine wpAny_bind (wpAny_tryCatch (wpAny_holding ?_))
  refine wpAny_bind (wpAny_dictEntries (D18.at 2 _ _ rfl) rfl ?_)
  refine wpAny_bind (eqP (r := false) (by kernel_rfl) ?_)
  refine bF rfl ?_
  refine wpAny_bind (wpAny_dictEntries (D18.at 2 _ _ rfl) rfl ?_)
  refine wpAny_bind (forA ?_)
  refine forC (bF (by kernel_rfl) (wpAny_bind (spP (T := "str") rfl p19 (wpAny_pure ?_))))
  refine forC (bF (by kernel_rfl) (wpAny_bind (spP (T := "int") rfl p20 (wpAny_pure ?_))))
  refine forC (bF (by kernel_rfl) (wpAny_bind (spR (D18.old _ _ hl (by simp [away])) rfl p21 (wpAny_pure ?_))))
  refine forC (bF (by kernel_rfl) (wpAny_bind (spR (D18.old _ _ e0 (by simp [away])) c0 p18 (wpAny_pure ?_))))
  refine forC (bF (by kernel_rfl) (wpAny_bind (spR (D18.old _ _ e1 (by simp [away])) c1 p18 (wpAny_pure ?_))))
  refine forC (bF (by kernel_rfl) (wpAny_bind (spR (D18.old _ _ e2 (by simp [away])) c2 p18 (wpAny_pure ?_))))
  refine forC (bF (by kernel_rfl) (wpAny_bind (spR (D18.old _ _ e3 (by simp [away])) c3 p18 (wpAny_pure ?_))))
  refine forC (bF (by kernel_rfl) (wpAny_bind (spR (D18.old _ _ e4 (by simp [away])) c4 p18 (wpAny_pure ?_))))
  refine forC (bF (by kernel_rfl) (wpAny_bind (spR (D18.old _ _ e5 (by simp [away])) c5 p18 (wpAny_pure ?_))))
  refine forC (bF (by kernel_rfl) (wpAny_bind (spP (T := "NoneType") rfl p23 (wpAny_pure ?_))))
  refine forC (bF (by kernel_rfl) (wpAny_bind (spR (D18.old _ _ ea (by simp [away])) ca p22 (wpAny_pure ?_))))
  refine forC (bF (by kernel_rfl) (wpAny_bind (spR (D18.at 0 _ _ rfl) rfl p24 (wpAny_pure ?_))))
  refine forC (bF (by kernel_rfl) (wpAny_bind (spP (T := "NoneType") rfl p23 (wpAny_pure ?_))))
  refine forN ?_
  refine wpAny_bind (wpAny_mono (k aC aN aD aL h14 _ _ _ _ _ _ D18) (fun sup s1 h1' => ?_) fun _ _ x => x.elim)
  refine wpAny_bind (wpAny_holding (wpAny_mono h1' (fun f s2 h2' => ?_) fun _ _ x => x.elim))
  refine wpAny_bind (wpAny_mono h2' (fun _ s3 h3' => ?_) fun _ _ x => x.elim)
  exact wpAny_pure (wpAny_pure h3')
end Mine

end
section
open PySem PySem.W PySem.W.X PyProof.Rows
set_option Elab.async false
set_option maxRecDepth 100000
set_option maxHeartbeats 0
namespace Mine
abbrev A1 : Around := { handled := none, depth := 400, frames := none, guards := none, units := 1000 }
def superObj (aC : Addr) : Obj := ⟨.type "super", none, .fields #[.ref aC, .ref aC, .ref aC], #[]⟩
def PostA (s : Shared) (aC : Addr) (v : Value) (s' : Shared) : Prop := ∃ h' tk aS, v = .ref aS ∧ s' = ⟨h', s.gens, s.drawn, tk, s.os⟩ ∧ Mem s.heap h' [] [(aS, superObj aC)]
local macro_rules | `(tactic| x_close) => `(tactic| exact ⟨_, _, _, rfl, rfl, memEq (by assumption) (by kernel_rfl)⟩)
theorem super_ok : ∀ (w : World) (s : Shared) (KX : (KK2 w.params).In s.heap) (aC aN : Addr) (es : Array DictEntry) (n : Nat) (sl : Array (Option Value))
   (hC : s.heap.get? aC = some ⟨.type "type", none, .cls ⟨S "K", [.type "object"], [.ref aC, .type "object"], aN, Str.ofString "cmp_to_key.<locals>.K", false, [S "obj"], [], false, none, false⟩, sl⟩)
   (hN : s.heap.get? aN = some ⟨.type "dict", none, .dict es n, #[]⟩),
   wpAny (model PySem.Challenge.rw_nb0060_01.row.prog w) A1 (call (.type "super") [.ref aC, .ref aC]) (PostA s aC) (fun _ _ => False) s := by
  k_fill
  intro w s KX aC aN es n sl hC hN
  x_run

theorem weak {α : Type} {M : Model} {A A' : Around} {t : Sem α} {Q : α → Shared → Prop} {E : Value → Shared → Prop} {s : Shared} (h : wpAny M A' t Q E s) (hh : A.handled = A'.handled) (hd : A.depth ≤ A'.depth) (hf : A'.frames = none) (hg : A'.guards = none) (hu : A.units ≤ A'.units) : wpAny M A t Q E s :=
  fun Γ p hΓ => h Γ p ⟨hΓ.1.trans hh, Nat.le_trans hΓ.2.1 hd, (fun l e => by rw [hf] at e; cases e), (fun l e => by rw [hg] at e; cases e), Nat.le_trans hΓ.2.2.2.2 hu⟩
structure AOk (A : Around) (d u : Nat) : Prop where
  handled : A.handled = none
  depth : A.depth ≤ d
  units : A.units ≤ u
theorem AOk.in1 {A : Around} {d u : Nat} (h : AOk A d u) : AOk A.in1 d (u + 1) := ⟨h.1, h.2, Nat.succ_le_succ h.3⟩
theorem AOk.mono {A : Around} {d u d' u' : Nat} (h : AOk A d u) (hd : d ≤ d') (hu : u ≤ u') : AOk A d' u' := ⟨h.1, Nat.le_trans h.2 hd, Nat.le_trans h.3 hu⟩
theorem AOk.deeper {A : Around} {d u : Nat} {env : Env} (h : AOk A d u) : AOk (A.deeper env) (d + 1) (u + 3) := ⟨h.1, Nat.succ_le_succ h.2, Nat.add_le_add_right h.3 3⟩
theorem toA1 {α : Type} {M : Model} {A : Around} {t : Sem α} {Q : α → Shared → Prop} {E : Value → Shared → Prop} {s : Shared} (h : wpAny M A1 t Q E s) (hA : AOk A 400 1000) : wpAny M A t Q E s := weak h hA.1 hA.2 rfl rfl hA.3
def bmObj (aC : Addr) : Obj := ⟨.type "builtin_function_or_method", none, .fields #[.builtin "object.__init_subclass__", .ref aC], #[]⟩
def PostB (s : Shared) (aC : Addr) (v : Value) (s' : Shared) : Prop := ∃ h' tk aB, v = .ref aB ∧ s' = ⟨h', s.gens, s.drawn, tk, s.os⟩ ∧ Mem s.heap h' [] [(aB, bmObj aC)]
local macro_rules | `(tactic| x_close) => `(tactic| (show PostB _ _ _ _; exact ⟨_, _, _, rfl, rfl, memEq (by assumption) (by kernel_rfl)⟩))
theorem cdget_ok : ∀ (w : World) (s : Shared) (_ : (KK2 w.params).In s.heap) (aC aN : Addr) (es : Array DictEntry) (n : Nat) (sl : Array (Option Value))
   (_ : s.heap.get? aC = some ⟨.type "type", none, .cls ⟨S "K", [.type "object"], [.ref aC, .type "object"], aN, Str.ofString "cmp_to_key.<locals>.K", false, [S "obj"], [], false, none, false⟩, sl⟩)
   (_ : s.heap.get? aN = some ⟨.type "dict", none, .dict es n, #[]⟩),
   wpAny (model PySem.Challenge.rw_nb0060_01.row.prog w) A1 (call (.builtin "classmethod_descriptor.__get__") [.builtin "object.__init_subclass__", .none, .ref aC]) (PostB s aC) (fun _ _ => False) s := by
  k_fill
  intro w s KX aC aN es n sl hC hN
  x_run
def PostN (s : Shared) (v : Value) (s' : Shared) : Prop := ∃ h' tk, v = .none ∧ s' = ⟨h', s.gens, s.drawn, tk, s.os⟩ ∧ Mem s.heap h' [] []
local macro_rules | `(tactic| x_close) => `(tactic| (show PostN _ _ _; first | exact ⟨_, _, rfl, rfl, Mem.start _⟩ | exact ⟨_, _, rfl, rfl, by assumption⟩))
theorem initsub_ok : ∀ (w : World) (s : Shared) (_ : (KK2 w.params).In s.heap) (aC aN aB : Addr) (es : Array DictEntry) (n : Nat) (sl : Array (Option Value))
   (_ : s.heap.get? aC = some ⟨.type "type", none, .cls ⟨S "K", [.type "object"], [.ref aC, .type "object"], aN, Str.ofString "cmp_to_key.<locals>.K", false, [S "obj"], [], false, none, false⟩, sl⟩)
   (_ : s.heap.get? aN = some ⟨.type "dict", none, .dict es n, #[]⟩) (_ : s.heap.get? aB = some ⟨.type "builtin_function_or_method", none, .fields #[.builtin "object.__init_subclass__", .ref aC], #[]⟩),
   wpAny (model PySem.Challenge.rw_nb0060_01.row.prog w) A1 (call (.ref aB) []) (PostN s) (fun _ _ => False) s := by
  k_fill
  intro w s KX aC aN aB es n sl hC hN hB
  x_run
end Mine

end
section
open PySem PySem.W PySem.W.X PyProof.Rows
set_option Elab.async false
set_option maxRecDepth 100000
set_option maxHeartbeats 4000000
namespace Mine
theorem useW {α : Type} {M : Model} {A : Around} {t : Sem α} {Q Q' : α → Shared → Prop} {E : Value → Shared → Prop} {s : Shared} (h : wpAny M A t Q' (fun _ _ => False) s) (k : ∀ v s', Q' v s' → Q v s') : wpAny M A t Q E s := wpAny_mono h k (fun _ _ x => x.elim)
theorem q1 : typeLookup (.type "super") (S "__getattribute__") = pure (some (.builtin "super.__getattribute__")) := by kernel_rfl
theorem q2 : typeOf (.builtin "object.__init_subclass__") = pure (.type "classmethod_descriptor") := by kernel_rfl
theorem q3 : typeLookup (.type "classmethod_descriptor") (S "__get__") = pure (some (.builtin "classmethod_descriptor.__get__")) := by kernel_rfl
theorem q4 (a b : Value) : argsOk "super.__getattribute__" ⟨[a, b], []⟩ := by unfold argsOk; kernel_rfl
abbrev clsO (aC aN : Addr) (sl : Array (Option Value)) : Obj := ⟨.type "type", none, .cls ⟨S "K", [.type "object"], [.ref aC, .type "object"], aN, Str.ofString "cmp_to_key.<locals>.K", false, [S "obj"], [], false, none, false⟩, sl⟩
theorem ga_ok {w : World} {A : Around} {Q : Value → Shared → Prop} {E : Value → Shared → Prop} {s : Shared} {aS aC aN : Addr} {es : Array DictEntry} {n : Nat} {sl : Array (Option Value)}
   (hA : AOk A 390 900) (KX : (KK2 w.params).In s.heap) (hS : s.heap.get? aS = some (superObj aC)) (hC : s.heap.get? aC = some (clsO aC aN sl)) (hN : s.heap.get? aN = some ⟨.type "dict", none, .dict es n, #[]⟩)
   (k : ∀ h' tk aB, Mem s.heap h' [] [(aB, bmObj aC)] → Q (.ref aB) ⟨h', s.gens, s.drawn, tk, s.os⟩) : wpAny (model prg w) A (getAttr (.ref aS) (S "__init_subclass__")) Q E s := by
  unfold getAttr
  refine wpAny_bind (wpAny_mkText ?_)
  unfold getAttrBy
  refine wpAny_holding ?_
  refine wpAny_bind (wpAny_typeOf_ref hS ?_)
  refine wpAny_bind (eqP q1 ?_)
  refine bF rfl ?_
  unfold getAttrByItsOwn
  refine wpAny_bind (wpAny_pure ?_)
  refine wpAny_bind (wpAny_attempt (wpAny_holding ?_))
  unfold callGetattribute
  refine bF rfl ?_
  unfold boundAndCalled
  refine wpAny_bind (eqP (F.ks_slot_super_ga.bind _) ?_)
  refine wpAny_call_entry F.ks_slot_super_ga (T := "super") ⟨_, hS, rfl⟩ F.ks_entry_super_ga ?_ (q4 _ _)
  unfold Builtin.«super.__getattribute__»
  refine wpAny_bind (wpAny_pure ?_)
  refine bF rfl ?_
  refine wpAny_bind (wpAny_pure ?_)
  have fld : ∀ (i : Nat) (v : Value) (A : Around) (Q : Value → Shared → Prop) (E : Value → Shared → Prop) (s1 : Shared), s1.heap = s.heap → (#[Value.ref aC, .ref aC, .ref aC])[i]? = some v → Q v s1 → wpAny (model prg w) A (field (.ref aS) i) Q E s1 := by
    intro i v A Q E s1 hs1 hi hq
    unfold field
    refine wpAny_bind (wpAny_bind (wpAny_load (by rw [hs1]; exact hS) (wpAny_pure ?_)))
    show wpAny _ _ (match (#[Value.ref aC, .ref aC, .ref aC])[i]? with | some x => pure x | none => unsupported "internal:no-such-field") _ _ _
    rw [hi]; exact wpAny_pure hq
  refine wpAny_bind (fld 0 (.ref aC) _ _ _ _ rfl rfl ?_)
  refine wpAny_bind (fld 1 (.ref aC) _ _ _ _ rfl rfl ?_)
  refine wpAny_bind (fld 2 (.ref aC) _ _ _ _ rfl rfl ?_)
  refine bF (by kernel_rfl) ?_
  have lk : Looks (model prg w) s.heap (nsGet cStatics (S "thirdparty.any")) none := looks_nsIn KX (by kernel_rfl)
  refine wpAny_bind ?_
  unfold notOfAnOpaqueClass
  refine wpAny_bind ?_
  unfold opaqueClassAbove
  unfold anyOpaqueLoaded
  refine wpAny_bind (wpAny_bind (lk _ _ _ _ (fun _ _ e => e) (wpAny_pure ?_)))
  refine bTr rfl (wpAny_pure (wpAny_pure ?_))
  refine bF rfl ?_
  refine wpAny_bind (wpAny_bind ?_)
  unfold classData
  refine wpAny_bind (wpAny_load hC (wpAny_pure (wpAny_pure ?_)))
  have haf : List.drop 1 (List.dropWhile (fun x => x != Value.ref aC) [Value.ref aC, .type "object"]) = [.type "object"] := by simp
  refine wpAny_bind ?_
  rw [haf]
  refine forC (wpAny_bind (eqP p25 (wpAny_bind (eqP q2 (wpAny_bind (eqP q3 (wpAny_bind (wpAny_holding ?_))))))))
  rw [if_pos (by simp)]
  refine useW (toA1 (cdget_ok w { s with toks := s.toks + 1 } KX aC aN es n sl hC hN) (hA.in1.mono (by decide) (by decide))) (fun v s' hv => ?_)
  obtain ⟨h', tk, aB, rfl, rfl, D⟩ := hv
  refine wpAny_bind (wpAny_pure (wpAny_pure ?_))
  show wpAny _ _ (pure (PySem.Fin.done (Flow.ret (Value.ref aB)))) _ _ _
  refine wpAny_pure ?_
  exact ⟨.ref aB, rfl, wpAny_pure (k h' tk aB D)⟩


theorem in_mem {w : World} {h₀ h : Heap} {news : List (Addr × Obj)} (KX : (KK2 w.params).In h₀) (D : Mem h₀ h [] news) : (KK2 w.params).In h := fun a o e => D.old a o (KX a o e) (by simp [away])
theorem kp_mem {h₀ h : Heap} {news : List (Addr × Obj)} (D : Mem h₀ h [] news) : ∀ a o, h₀.get? a = some o → h.get? a = some o := fun a o e => D.old a o e (by simp [away])
/-- the hooks' tail: super, the hook, its call -/
theorem tail_ok {w : World} {A : Around} {Q : Shared → Prop} {s : Shared} {aC aN : Addr} {es : Array DictEntry} {n : Nat} {sl : Array (Option Value)}
   (hA : AOk A 390 900) (KX : (KK2 w.params).In s.heap) (hC : s.heap.get? aC = some (clsO aC aN sl)) (hN : s.heap.get? aN = some ⟨.type "dict", none, .dict es n, #[]⟩)
   (k : ∀ h' tk, (∀ a o, s.heap.get? a = some o → h'.get? a = some o) → Q ⟨h', s.gens, s.drawn, tk, s.os⟩) :
   wpAny (model prg w) A (call (.type "super") [.ref aC, .ref aC]) (fun sup s1 => wpAny (model prg w) A (getAttr sup (S "__init_subclass__")) (fun f s2 => wpAny (model prg w) A (call f [] []) (fun _ s3 => Q s3) (fun _ _ => False) s2) (fun _ _ => False) s1) (fun _ _ => False) s := by
  refine useW (toA1 (super_ok w s KX aC aN es n sl hC hN) (hA.mono (by decide) (by decide))) fun v s' hv => ?_
  obtain ⟨h1, tk1, aS, rfl, rfl, D1⟩ := hv
  refine ga_ok (s := ⟨h1, s.gens, s.drawn, tk1, s.os⟩) hA (in_mem KX D1) (D1.at 0 _ _ rfl) (kp_mem D1 _ _ hC) (kp_mem D1 _ _ hN) fun h2 tk2 aB D2 => ?_
  refine useW (toA1 (initsub_ok w ⟨h2, s.gens, s.drawn, tk2, s.os⟩ (in_mem (in_mem KX D1) D2) aC aN aB es n sl (kp_mem D2 _ _ (kp_mem D1 _ _ hC)) (kp_mem D2 _ _ (kp_mem D1 _ _ hN)) (D2.at 0 _ _ rfl)) (hA.mono (by decide) (by decide))) fun v s' hv => ?_
  obtain ⟨h3, tk3, rfl, rfl, D3⟩ := hv
  exact k h3 tk3 fun a o e => kp_mem D3 _ _ (kp_mem D2 _ _ (kp_mem D1 _ _ e))
end Mine

end
section
open PySem PySem.W PySem.W.X PyProof.Rows
set_option Elab.async false
set_option maxRecDepth 100000
set_option maxHeartbeats 4000000
namespace Mine
theorem r1 : Bind.madeBy (.type "type") = pure (some "type.__new__") := by kernel_rfl
theorem r2 (a b c : Value) : checkBuiltinCall "type.__new__" ⟨[.type "type", a, b, c], []⟩ = pure () := by kernel_rfl
theorem r3 : entryFor table "type.__new__" = some Builtin.«type.__new__» := entryFor_of_tree (by kernel_rfl)
theorem r4 : plainId "type.__new__" = true := by decide +kernel
theorem r5 : Slot "type" "__init__" "type.__init__" := .of (owner := "type") (n := "__init__") (by rw [typeLookup_type, builtinLookup_eq_fast]; kernel_rfl) (by decide +kernel) (by decide +kernel) (by decide +kernel)
  (by first | exact .inl (by decide +kernel) | exact .inr (by decide +kernel)) (by rw [isSubtype_type]; kernel_rfl)
theorem r6 : entryFor table "type.__init__" = some Builtin.«type.__init__» := entryFor_of_tree (by kernel_rfl)
theorem r7 (a b c d : Value) : argsOk "type.__init__" ⟨[a, b, c, d], []⟩ := by unfold argsOk; kernel_rfl
theorem r8 (a b c : Value) : checkTypeCall "type" ⟨[a, b, c], []⟩ = pure () := by kernel_rfl
theorem r9 : mroOf (.type "type") = pure [.type "type", .type "object"] := by kernel_rfl
theorem tcall_ok {w : World} {A : Around} {Q : Value → Shared → Prop} {E : Value → Shared → Prop} {s : Shared} {nV : Value} {bT nsA : Addr}
   (hnew : wpAny (model prg w) A.in1.in1 (Builtin.«type.__new__» ⟨[.type "type", nV, .ref bT, .ref nsA], []⟩) (fun fin s' => ∃ aC o, fin = .done (.ret (.ref aC)) ∧ s'.heap.get? aC = some o ∧ o.cls = .type "type" ∧ Q (.ref aC) s') (fun _ _ => False) s) :
   wpAny (model prg w) A (call (.type "type") [nV, .ref bT, .ref nsA]) Q E s := by
  refine wpAny_call (codeAny_of_tree ?_)
  show wpAny _ _ (callAny (.type "type") _) _ _ _
  refine wpAny_pure ⟨Code.quiet_builtin _ (by decide +kernel), codeAny_builtin F.entry_type_call ?_⟩
  rw [Around.under_plain (weight_type_call_type "type" _ []) rfl]
  unfold Builtin.«type.__call__»
  refine bTr (by kernel_rfl) ?_
  refine bF rfl (bF rfl ?_)
  refine bF (by kernel_rfl) ?_
  refine wpAny_bind (eqP (r8 _ _ _) ?_)
  refine wpAny_bind (eqP r9 (bF rfl ?_))
  refine wpAny_bind (eqP r1 ?_)
  refine wpAny_bind (wpAny_pure ?_)
  refine wpAny_bind (wpAny_holding (wpAny_call (codeAny_call_builtin r4 r3 (eqP (r2 _ _ _) ?_))))
  refine wpAny_mono hnew (fun fin s' h => ?_) (fun _ _ x => x.elim)
  obtain ⟨aC, o, rfl, ho, hc, hq⟩ := h
  show wpAny _ _ _ _ _ _
  refine wpAny_bind (wpAny_isInstance (T := "type") ⟨_, ho, hc⟩ p3 (bF rfl ?_))
  refine wpAny_bind (wpAny_holding ?_)
  unfold callSpecial?
  refine wpAny_bind (wpAny_bind (wpAny_typeOf ⟨_, ho, hc⟩ (eqP r5.lookup ?_)))
  refine wpAny_holding (wpAny_bind (eqP (r5.bind _) (wpAny_bind ?_)))
  refine wpAny_call_entry r5 (T := "type") ⟨_, ho, hc⟩ r6 ?_ (r7 _ _ _ _)
  refine eqP (r := .done (.ret .none)) (by kernel_rfl) ⟨_, rfl, ?_⟩
  refine wpAny_pure (bF (by kernel_rfl) (wpAny_pure hq))
end Mine

end
section
open PySem PySem.W PySem.W.X PyProof.Rows
set_option Elab.async false
set_option maxRecDepth 100000
set_option maxHeartbeats 4000000
namespace Mine
def Kx (X : List Addr) (h h' : Heap) : Prop := ∀ b o, b ∉ X → h.get? b = some o → h'.get? b = some o
theorem Kx.refl {X : List Addr} {h : Heap} : Kx X h h := fun _ _ _ e => e
theorem Kx.trans {X : List Addr} {h h' h'' : Heap} (x : Kx X h h') (y : Kx X h' h'') : Kx X h h'' := fun b o n e => y b o n (x b o n e)
theorem Kx.mono {X Y : List Addr} {h h' : Heap} (x : Kx X h h') (s : ∀ a ∈ X, a ∈ Y) : Kx Y h h' := fun b o n e => x b o (fun q => n (s b q)) e
theorem KK2.kx {w : World} {h h' : Heap} {Y : List Addr} (X : (KK2 w.params).In h) (x : Kx Y h h') (hY : ∀ a ∈ Y, a = 23 ∨ h.get? a = none ∨ (KK2 w.params).lookup a = none) : (KK2 w.params).In h' := fun a o e => x a o (fun q => by
  rcases hY a q with rfl | n | n
  · exact absurd (lookup_filter (P := fun n => !(n == 23)) e).2 (by decide)
  · rw [X a o e] at n; cases n
  · rw [e] at n; cases n) (X a o e)
theorem bf_look {w : World} {h : Heap} (X : (KK2 w.params).In h) : Looks (model prg w) h (builtinsFor 3 0) 0 := Looks.of_peek X (by kernel_rfl)

theorem nm_look {w : World} {h : Heap} (X : (KK2 w.params).In h) : ∃ v, Looks (model prg w) h (nsGet 3 (S "__name__")) (some v) := by
  have e : ((nsIn (KK2 w.params) 3 (S "__name__")).bind id).isSome = true := by kernel_rfl
  obtain ⟨v, hv⟩ := Option.isSome_iff_exists.mp e
  refine ⟨v, looks_nsIn X ?_⟩
  cases q : nsIn (KK2 w.params) 3 (S "__name__") with
  | none => rw [q] at hv; cases hv
  | some r => rw [q] at hv; exact congrArg some hv
section
variable {prog : Program} {w : World} {A : Around} {E : Value → Shared → Prop} {s : Shared}
theorem nsSetR {a : Addr} {name : Str} {v : Value} {c : Value} {d : Option Addr} {es : Array DictEntry} {n : Nat} {sl : Array (Option Value)} {Q : Unit → Shared → Prop} (hi : s.heap.get? a = some ⟨c, d, .dict es n, sl⟩) (hk : aRefKeyMayBeTheName name es = false)
    (hf : ∀ hh tk, (Obj.putName name hh (.str name tk) v ⟨c, d, .dict es n, sl⟩).isFreed = false)
    (k : ∀ hh tk h', Kx [a] s.heap h' → h'.get? a = some (Obj.putName name hh (.str name tk) v ⟨c, d, .dict es n, sl⟩) → Q () { s with heap := h', toks := s.toks + 1 }) : wpAny (model prog w) A (nsSet a name v) Q E s := by
  unfold nsSet
  refine wpAny_bind (wpAny_bind (wpAny_askSetting (wpAny_pure ?_)))
  refine wpAny_bind (wpAny_mkText ?_)
  refine wpAny_bind (wpAny_loadPart hi ?_)
  refine ifF (by rw [hk]; decide) (wpAny_updatePart (s := { s with toks := s.toks + 1 }) hi ?_)
  refine k _ _ _ (fun b o nb e => ?_) (Heap.get?_update_self _ hi (hf _ _))
  have nb' : b ≠ a := fun q => nb (by rw [q]; exact List.mem_singleton.mpr rfl)
  exact (Heap.get?_update_ne _ _ _ _ nb').trans e
theorem ntR {vs : List Value} {Q : Value → Shared → Prop} (k : ∀ a h', Kx [] s.heap h' → s.heap.get? a = none → h'.get? a = some ⟨.type "tuple", none, .seq vs.toArray 0, #[]⟩ → Q (.ref a) { s with heap := h' }) : wpAny (model prog w) A (newTextTuple vs) Q E s :=
  wpAny_newObjAsIs_type (k _ _ (fun b o _ e => Heap.get?_push_of_some _ e) (Heap.get?_none_of_le (Nat.le_refl _)) (Heap.get?_push_size _ rfl))
end
/-- a def of the class body, made -/
def FnAt (h : Heap) (f : Addr) (name qual : Str) (args : Arguments) (body : List Stmt) (scope : Scope) (cl : List (Str × Addr)) : Prop :=
  ∃ (ct pm : Value) (c : Addr) (oc : Obj) (vs : Array Value) (t : Tok), h.get? f = some ⟨.type "function", none, .func { name := name, qualname := qual, params := args, body := .stmts body, scope := scope, globals := 3, closure := cl, closureTuple := ct, code := .ref c, builtins := 0, defaults := .none, kwdefaults := .none, annotations := none, pyModule := pm, doc := .none }, #[]⟩ ∧
    h.get? c = some oc ∧ oc.cls = .type "code" ∧ oc.data = .fields vs ∧ vs[1]? = some (.str qual t)
/-- all that is no dict and no table stands -/
def Kt (h h' : Heap) : Prop := ∀ b o T, h.get? b = some o → o.cls = .type T → T ≠ "dict" → h'.get? b = some o
theorem Kt.trans {h h' h'' : Heap} (x : Kt h h') (y : Kt h' h'') : Kt h h'' := fun b o T e c n => y b o T (x b o T e c n) c n
theorem FnAt.kt {h h' : Heap} {f : Addr} {name qual : Str} {args : Arguments} {body : List Stmt} {scope : Scope} {cl : List (Str × Addr)} (x : FnAt h f name qual args body scope cl) (k : Kt h h') : FnAt h' f name qual args body scope cl := by
  obtain ⟨ct, pm, c, oc, vs, t, e1, e2, e3, e4, e5⟩ := x
  exact ⟨ct, pm, c, oc, vs, t, k _ _ _ e1 rfl (by decide), k _ _ _ e2 e3 (by decide), e3, e4, e5⟩
theorem Kt.of {h h' : Heap} {nsA tt : Addr} {on ot : Obj} (x : Kx [nsA, tt] h h') (hn : h.get? nsA = some on) (cn : on.cls = .type "dict") (ht : h.get? tt = some ot) (ct : ot.cls = .none) : Kt h h' := fun b o T e c n => x b o (fun q => by
  rcases List.mem_cons.mp q with rfl | q
  · rw [hn] at e; cases e; rw [cn] at c; cases c; exact n rfl
  · rw [List.mem_singleton.mp q, ht] at e; cases e; rw [ct] at c; cases c) e
theorem def_ok {w : World} {A : Around} {Q : Flow → Shared → Prop} {E : Value → Shared → Prop} {s : Shared} {name bind : Str} {args : Arguments} {body : List Stmt} {scope : Scope} {pos : Pos} {cenv : Env} {cc tt nsA : Addr} {ps : Array Value} {es : Array DictEntry} {n : Nat} {cl : List (Str × Addr)} {marked : Stmt} {named : Env → List (Str × Sem Value)}
   (hcode : cenv.code = .ref cc) (hloc : cenv.locals = nsA) (hglob : cenv.globals = 3) (hbu : cenv.builtins = 0) (hst : ∀ v, storeName cenv bind v = localSet cenv bind v) (hnm : named cenv = [])
   (hok : s.heap.IsCode cc tt ps) (htab : s.heap.TableAt cc tt ps) (hnf : codeAmong pos ps.toList = none) (hcl : closureFor scope cenv = pure cl) (hko : args.kwonlyargs = []) (hdoc : docOf body = none)
   (hns : s.heap.get? nsA = some ⟨.type "dict", none, .dict es n, #[]⟩) (hk : aRefKeyMayBeTheName bind es = false) (X : (KK2 w.params).In s.heap) (htt : (KK2 w.params).lookup tt = none) (hnK : (KK2 w.params).lookup nsA = none)
   (k : ∀ (f : Addr) (cd : Value) h' tk hh tk1, Kx [nsA, tt] s.heap h' → h'.IsCode cc tt (ps ++ #[rawInt pos.line, rawInt pos.col, cd]) → h'.TableAt cc tt (ps ++ #[rawInt pos.line, rawInt pos.col, cd]) → s.heap.get? f = none →
     FnAt h' f name (qualnameIn cenv name bind) args body scope cl → h'.get? nsA = some (Obj.putName bind hh (.str bind tk1) (.ref f) ⟨.type "dict", none, .dict es n, #[]⟩) → Q .next { s with heap := h', toks := tk }) :
   wpAny (model prg w) A (defStmt name bind args body scope pos cenv [] none [] [] ([], []) named marked) Q E s := by
  unfold defStmt
  refine bF rfl ?_
  refine wpAny_bind (wpAny_pure ?_)
  refine wpAny_bind (wpAny_standAt ?_)
  refine wpAny_bind (wpAny_holding ?_)
  refine wpAny_bind (wpAny_pure ?_)
  refine wpAny_bind (wpAny_holding (wpAny_pure ?_))
  refine wpAny_holding ?_
  rw [hnm]
  refine wpAny_bind (wpAny_pure ?_)
  unfold makeFunction
  rw [hko]
  refine bTr rfl (wpAny_bind (wpAny_pure ?_))
  refine bTr rfl (wpAny_bind (wpAny_pure ?_))
  refine bTr rfl (wpAny_bind (wpAny_pure ?_))
  refine wpAny_bind (eqP hcl ?_)
  have main : ∀ (ct : Value) (h1 : Heap), Kx [] s.heap h1 → wpAny (model prg w) A (do
      let __do_lift ← functionCode cenv pos pos.line name (qualnameIn cenv name bind) args scope (FuncBody.stmts body)
      let __do_lift_1 ← builtinsFor cenv.globals cenv.builtins
      let __do_lift_2 ← nsGet cenv.globals (Str.ofString "__name__")
      (match docOf body with | some s => mkText s | none => pure Value.none) >>= fun __do_lift_3 =>
      newObj (Value.type "function") (Data.func { name := name, qualname := qualnameIn cenv name bind, params := args, body := FuncBody.stmts body, scope := scope, globals := cenv.globals, closure := cl, defaults := .none, kwdefaults := .none, doc := __do_lift_3, pyModule := __do_lift_2.getD Value.none, annotations := none, code := __do_lift, closureTuple := ct, builtins := __do_lift_1 }))
      (fun f s' => wpAny (model prg w) A (do let f ← decorate [] f; standAt pos; bindName cenv bind f; pure .next) Q E s') E { s with heap := h1 } := by
    intro ct h1 k1
    have k1' : ∀ b o, s.heap.get? b = some o → h1.get? b = some o := fun b o e => k1 b o (by simp) e
    refine wpAny_bind (wpAny_functionCodeX (s := { s with heap := h1 }) hcode (hok.keeps k1') (htab.keeps k1') hnf fun c' h2 tk2 hx hs hs2 hc2 hr2 ht2 htn2 => ?_)
    have htn : tt ≠ nsA := fun q => by
      have e1 := htab.2
      rw [q, hns] at e1
      cases e1
    have X2 : (KK2 w.params).In h2 := fun a o e => hx a o (fun q => by rw [q] at e; rw [e] at htt; cases htt) (k1' a o (X a o e))
    rw [hglob, hbu]
    refine wpAny_bind (bf_look X2 _ _ _ _ (fun _ _ e => e) ?_)
    obtain ⟨vn, hvn⟩ := nm_look X2
    refine wpAny_bind (hvn _ _ _ _ (fun _ _ e => e) ?_)
    rw [hdoc]
    refine wpAny_bind (wpAny_pure ?_)
    refine wpAny_newObj_type ?_ trivial
    refine wpAny_bind (wpAny_pure ?_)
    refine wpAny_bind (wpAny_standAt ?_)
    refine wpAny_bind ?_
    unfold bindName
    refine wpAny_bind (wpAny_holding (wpAny_point ?_))
    rw [hst]
    have hns2 : h2.get? nsA = some ⟨.type "dict", none, .dict es n, #[]⟩ := hx _ _ (fun q => htn q.symm) (k1' _ _ hns)
    unfold localSet
    rw [hloc]
    refine wpAny_bind (wpAny_bind (wpAny_load (Heap.get?_push_of_some _ hns2) (bTr rfl ?_)))
    refine nsSetR (Heap.get?_push_of_some _ hns2) hk (fun hh tk => ?_) fun hh tk1 h3 k3 hn3 => ?_
    · rw [Obj.putName]
      split <;> rfl
    refine wpAny_point (wpAny_pure ?_)
    have hfn : h1.get? h2.objs.size = none := by
      cases q : h1.get? h2.objs.size with
      | none => rfl
      | some o =>
        by_cases hq : h2.objs.size = tt
        · exact absurd (Heap.lt_size ht2.2) (by rw [hq]; exact Nat.lt_irrefl _)
        · exact absurd (Heap.lt_size (hx _ _ hq q)) (Nat.lt_irrefl _)
    have hfs : s.heap.get? h2.objs.size = none := by
      cases q : s.heap.get? h2.objs.size with
      | none => rfl
      | some o => rw [k1' _ _ q] at hfn; cases hfn
    have k23 : ∀ b o, b ≠ nsA → h2.get? b = some o → h3.get? b = some o := fun b o nb e => k3 b o (by simpa using nb) (Heap.get?_push_of_some _ e)
    have hnf2 : nsA ≠ h2.objs.size := fun q => by rw [q] at hns; rw [hns] at hfs; cases hfs
    refine k h2.objs.size (.ref c') h3 _ hh tk1 (fun b o nb e => ?_) ?_ ?_ hfs ?_ hn3
    · simp only [List.mem_cons, List.not_mem_nil, or_false, not_or] at nb
      exact k23 b o nb.1 (hx b o nb.2 (k1' b o e))
    · obtain ⟨o, vs, file, tf, flags, tg, inF, text, ttk, op, e1, e2, e3, e4, e5, e6, e7, e8, e9, e10, e11⟩ := hc2
      have nd : ∀ b o, h2.get? b = some o → (∃ vs, o.data = .fields vs) → b ≠ nsA := fun b o e ⟨vs, hv⟩ q => by
        rw [q, hns2] at e; cases e; cases hv
      exact ⟨o, vs, file, tf, flags, tg, inF, text, ttk, op, k23 _ _ (nd _ _ e1 ⟨_, e2⟩) e1, e2, e3, e4, e5, e6, e7, k23 _ _ (nd _ _ e8 ⟨_, e9⟩) e8, e9, e10, e11⟩
    · obtain ⟨⟨o, vs, e1, e2, e3, e4⟩, e5⟩ := ht2
      have nd : ∀ b o, h2.get? b = some o → (∃ vs, o.data = .fields vs) → b ≠ nsA := fun b o e ⟨vs, hv⟩ q => by
        rw [q, hns2] at e; cases e; cases hv
      exact ⟨⟨o, vs, k23 _ _ (nd _ _ e1 ⟨_, e3⟩) e1, e2, e3, e4⟩, k23 _ _ (nd _ _ e5 ⟨_, rfl⟩) e5⟩
    · obtain ⟨c, o, vs, t, e1, e2, e3, e4⟩ := hr2
      cases e1
      obtain ⟨P', _, _, ⟨⟨o', vs', g1, g2, g3, g4⟩, _⟩⟩ := htn2
      have eo : o' = o := by
        have := g1.symm.trans e2
        exact Option.some.inj this
      subst eo
      have nd : c' ≠ nsA := fun q => by rw [q, hns2] at e2; cases e2; cases e3
      exact ⟨ct, vn, c', o', vs, t, k3 _ _ (by simpa using fun q => hnf2 q.symm) (Heap.get?_push_size _ rfl), k23 _ _ nd e2, g2, e3, e4⟩
  by_cases hc0 : cl.isEmpty = true
  · refine bTr hc0 (wpAny_bind (wpAny_pure ?_))
    exact main .none s.heap Kx.refl
  · refine ifF hc0 (wpAny_bind (ntR fun a h1 k1 _ _ => ?_))
    exact main (.ref a) h1 k1
end Mine

end
section
open PySem PySem.W PySem.W.X PyProof.Rows
set_option Elab.async false
set_option maxRecDepth 100000
set_option maxHeartbeats 4000000
set_option linter.unusedVariables false
namespace Mine
theorem putLive {name : Str} {hh : Int} {key v : Value} {c : Value} {d : Option Addr} {es : Array DictEntry} {n : Nat} {sl : Array (Option Value)} : (Obj.putName name hh key v ⟨c, d, .dict es n, sl⟩).isFreed = false := by
  rw [Obj.putName]
  split <;> rfl
theorem clsStore {w : World} {A : Around} {E : Value → Shared → Prop} {s : Shared} {cenv : Env} {x : Str} {v : Value} {nsA : Addr} {es : Array DictEntry} {n : Nat} {Q : Unit → Shared → Prop} (hst : ∀ v, storeName cenv x v = localSet cenv x v) (hloc : cenv.locals = nsA) (hns : s.heap.get? nsA = some ⟨.type "dict", none, .dict es n, #[]⟩) (hk : aRefKeyMayBeTheName x es = false)
    (k : ∀ hh tk1 h', Kx [nsA] s.heap h' → h'.get? nsA = some (Obj.putName x hh (.str x tk1) v ⟨.type "dict", none, .dict es n, #[]⟩) → Q () { s with heap := h', toks := s.toks + 1 }) : wpAny (model prg w) A (storeName cenv x v) Q E s := by
  rw [hst]
  unfold localSet
  rw [hloc]
  exact wpAny_bind (wpAny_load hns (bTr rfl (nsSetR hns hk (fun _ _ => putLive) k)))
structure DefS where
  name : Str
  args : Arguments
  body : List Stmt
  scope : Scope
  pos : Pos
abbrev DefS.st (d : DefS) : Stmt := .FunctionDef d.name d.args d.body [] none [] d.scope none d.name d.pos
structure DefOk (cenv : Env) (d : DefS) (cl : List (Str × Addr)) : Prop where
  dfl : defaultsOf d.args cenv = ([], [])
  ann : (match d.args with | ⟨po, a, va, ko, _, kwa, _⟩ => annotationsOf (a ++ po ++ va.toList ++ ko ++ kwa.toList) cenv) = []
  kwo : d.args.kwonlyargs = []
  doc : docOf d.body = none
  clo : closureFor d.scope cenv = pure cl
  sto : ∀ v, storeName cenv d.name v = localSet cenv d.name v
theorem defS_ok {w : World} {A : Around} {Q : Flow → Shared → Prop} {E : Value → Shared → Prop} {s : Shared} {d : DefS} {cenv : Env} {cc tt nsA : Addr} {ps : Array Value} {es : Array DictEntry} {n : Nat} {cl : List (Str × Addr)}
   (hcode : cenv.code = .ref cc) (hloc : cenv.locals = nsA) (hglob : cenv.globals = 3) (hbu : cenv.builtins = 0) (hd : DefOk cenv d cl)
   (hok : s.heap.IsCode cc tt ps) (htab : s.heap.TableAt cc tt ps) (hnf : codeAmong d.pos ps.toList = none)
   (hns : s.heap.get? nsA = some ⟨.type "dict", none, .dict es n, #[]⟩) (hk : aRefKeyMayBeTheName d.name es = false) (X : (KK2 w.params).In s.heap) (htt : (KK2 w.params).lookup tt = none) (hnK : (KK2 w.params).lookup nsA = none)
   (k : ∀ (f : Addr) (cd : Value) h' tk hh tk1, Kx [nsA, tt] s.heap h' → h'.IsCode cc tt (ps ++ #[rawInt d.pos.line, rawInt d.pos.col, cd]) → h'.TableAt cc tt (ps ++ #[rawInt d.pos.line, rawInt d.pos.col, cd]) → s.heap.get? f = none →
     FnAt h' f d.name (qualnameIn cenv d.name d.name) d.args d.body d.scope cl → h'.get? nsA = some (Obj.putName d.name hh (.str d.name tk1) (.ref f) ⟨.type "dict", none, .dict es n, #[]⟩) → Q .next { s with heap := h', toks := tk }) :
   wpAny (model prg w) A (exec d.st cenv) Q E s := by
  rw [arm_exec_FunctionDef]
  have e : (evalEach [] cenv) = [] := rfl
  rw [hd.dfl]
  refine def_ok hcode hloc hglob hbu hd.sto ?_ hok htab hnf hd.clo hd.kwo hd.doc hns hk X htt hnK k
  show (match d.args with | ⟨po, a, va, ko, _, kwa, _⟩ => annotationsOf (a ++ po ++ va.toList ++ ko ++ kwa.toList) cenv) ++ [] = []
  rw [hd.ann]; rfl
end Mine

end
section
open PySem PySem.W PySem.W.X PyProof.Rows
set_option Elab.async false
set_option maxRecDepth 100000
set_option maxHeartbeats 8000000
set_option linter.unusedVariables false
namespace Mine
theorem KK2.kx2 {w : World} {h h' : Heap} {a b : Addr} (X : (KK2 w.params).In h) (x : Kx [a, b] h h') (ha : (KK2 w.params).lookup a = none) (hb : (KK2 w.params).lookup b = none) : (KK2 w.params).In h' :=
  KK2.kx X x fun y hy => by
    rcases List.mem_cons.mp hy with rfl | hy
    · exact .inr (.inr ha)
    · rw [List.mem_singleton.mp hy]; exact .inr (.inr hb)
theorem code_kx {h h' : Heap} {c P n : Addr} {ps : Array Value} {on : Obj} (x : h.IsCode c P ps) (k : Kx [n] h h') (hn : h.get? n = some on) (hd : ∀ vs, on.data ≠ .fields vs) : h'.IsCode c P ps := by
  obtain ⟨o, vs, file, tf, flags, tg, inF, text, ttk, op, e1, e2, e3, e4, e5, e6, e7, e8, e9, e10, e11⟩ := x
  have nd : ∀ b o, h.get? b = some o → (∃ vs, o.data = .fields vs) → b ∉ [n] := fun b o e ⟨vs, hv⟩ q => by
    rw [List.mem_singleton.mp q, hn] at e; cases e; exact hd _ hv
  exact ⟨o, vs, file, tf, flags, tg, inF, text, ttk, op, k _ _ (nd _ _ e1 ⟨_, e2⟩) e1, e2, e3, e4, e5, e6, e7, k _ _ (nd _ _ e8 ⟨_, e9⟩) e8, e9, e10, e11⟩
theorem table_kx {h h' : Heap} {c P n : Addr} {ps : Array Value} {on : Obj} (x : h.TableAt c P ps) (k : Kx [n] h h') (hn : h.get? n = some on) (hd : ∀ vs, on.data ≠ .fields vs) : h'.TableAt c P ps := by
  obtain ⟨⟨o, vs, e1, e2, e3, e4⟩, e5⟩ := x
  have nd : ∀ b o, h.get? b = some o → (∃ vs, o.data = .fields vs) → b ∉ [n] := fun b o e ⟨vs, hv⟩ q => by
    rw [List.mem_singleton.mp q, hn] at e; cases e; exact hd _ hv
  exact ⟨⟨o, vs, k _ _ (nd _ _ e1 ⟨_, e3⟩) e1, e2, e3, e4⟩, k _ _ (nd _ _ e5 ⟨_, rfl⟩) e5⟩
theorem body_ok {w : World} {A : Around} {Q : Flow → Shared → Prop} {E : Value → Shared → Prop} {s : Shared} {cenv : Env} {cc tt nsA : Addr} {n : Nat} {i0 i1 i2 : Int} {t0 t1 t2 tq tl : Tok} {vm : Value} {q m : Str} {l : Int}
   {a0 a1 a2 a3 a4 a5 : Arguments} {b0 b1 b2 b3 b4 b5 : List Stmt} {c0 c1 c2 c3 c4 c5 : Scope} {q0 q1 q2 q3 q4 q5 pa1 pa2 pa3 pb1 pb2 pb3 pb4 pc1 pc2 pc3 : Pos} {ka kb kc : Nat} {l0 l1 l2 l3 l4 l5 : List (Str × Addr)}
   (hcode : cenv.code = .ref cc) (hloc : cenv.locals = nsA) (hglob : cenv.globals = 3) (hbu : cenv.builtins = 0)
   (hs0 : ∀ v, storeName cenv (S "__module__") v = localSet cenv (S "__module__") v) (hs1 : ∀ v, storeName cenv (S "__slots__") v = localSet cenv (S "__slots__") v) (hs2 : ∀ v, storeName cenv (S "__hash__") v = localSet cenv (S "__hash__") v)
   (d0 : DefOk cenv ⟨S "__init__", a0, b0, c0, q0⟩ l0)
   (d1 : DefOk cenv ⟨S "__lt__", a1, b1, c1, q1⟩ l1)
   (d2 : DefOk cenv ⟨S "__gt__", a2, b2, c2, q2⟩ l2)
   (d3 : DefOk cenv ⟨S "__eq__", a3, b3, c3, q3⟩ l3)
   (d4 : DefOk cenv ⟨S "__le__", a4, b4, c4, q4⟩ l4)
   (d5 : DefOk cenv ⟨S "__ge__", a5, b5, c5, q5⟩ l5)
   (hok : s.heap.IsCode cc tt #[]) (htab : s.heap.TableAt cc tt #[])
   (z1 : ∀ x0 : Value, codeAmong q1 [rawInt q0.line, rawInt q0.col, x0] = none)
   (z2 : ∀ x0 x1 : Value, codeAmong q2 [rawInt q0.line, rawInt q0.col, x0, rawInt q1.line, rawInt q1.col, x1] = none)
   (z3 : ∀ x0 x1 x2 : Value, codeAmong q3 [rawInt q0.line, rawInt q0.col, x0, rawInt q1.line, rawInt q1.col, x1, rawInt q2.line, rawInt q2.col, x2] = none)
   (z4 : ∀ x0 x1 x2 x3 : Value, codeAmong q4 [rawInt q0.line, rawInt q0.col, x0, rawInt q1.line, rawInt q1.col, x1, rawInt q2.line, rawInt q2.col, x2, rawInt q3.line, rawInt q3.col, x3] = none)
   (z5 : ∀ x0 x1 x2 x3 x4 : Value, codeAmong q5 [rawInt q0.line, rawInt q0.col, x0, rawInt q1.line, rawInt q1.col, x1, rawInt q2.line, rawInt q2.col, x2, rawInt q3.line, rawInt q3.col, x3, rawInt q4.line, rawInt q4.col, x4] = none)
   (hns : s.heap.get? nsA = some ⟨.type "dict", none, .dict #[⟨i0, .str (S "__module__") t0, vm⟩, ⟨i1, .str (S "__qualname__") t1, .str q tq⟩, ⟨i2, .str (S "__firstlineno__") t2, .int l tl⟩] n, #[]⟩) (X : (KK2 w.params).In s.heap) (htt : (KK2 w.params).lookup tt = none) (hnK : (KK2 w.params).lookup nsA = none)
   (k : ∀ h' tk sl to tm i3 t3 i4 t4 i5 t5 i6 t6 i7 t7 i8 t8 i9 t9 i10 t10 f0 f1 f2 f3 f4 f5, Kx [nsA, tt] s.heap h' →
     h'.get? nsA = some ⟨.type "dict", none, .dict #[⟨i0, .str (S "__module__") t0, .str m tm⟩, ⟨i1, .str (S "__qualname__") t1, .str q tq⟩, ⟨i2, .str (S "__firstlineno__") t2, .int l tl⟩, ⟨i3, .str (S "__slots__") t3, .ref sl⟩, ⟨i4, .str (S "__init__") t4, .ref f0⟩, ⟨i5, .str (S "__lt__") t5, .ref f1⟩, ⟨i6, .str (S "__gt__") t6, .ref f2⟩, ⟨i7, .str (S "__eq__") t7, .ref f3⟩, ⟨i8, .str (S "__le__") t8, .ref f4⟩, ⟨i9, .str (S "__ge__") t9, .ref f5⟩, ⟨i10, .str (S "__hash__") t10, .none⟩] (n + 8), #[]⟩ → h'.get? sl = some ⟨.type "list", none, .seq #[.str (S "obj") to] 0, #[]⟩ →
     FnAt h' f0 (S "__init__") (qualnameIn cenv (S "__init__") (S "__init__")) a0 b0 c0 l0 →
     FnAt h' f1 (S "__lt__") (qualnameIn cenv (S "__lt__") (S "__lt__")) a1 b1 c1 l1 →
     FnAt h' f2 (S "__gt__") (qualnameIn cenv (S "__gt__") (S "__gt__")) a2 b2 c2 l2 →
     FnAt h' f3 (S "__eq__") (qualnameIn cenv (S "__eq__") (S "__eq__")) a3 b3 c3 l3 →
     FnAt h' f4 (S "__le__") (qualnameIn cenv (S "__le__") (S "__le__")) a4 b4 c4 l4 →
     FnAt h' f5 (S "__ge__") (qualnameIn cenv (S "__ge__") (S "__ge__")) a5 b5 c5 l5 →
     Q .next { s with heap := h', toks := tk }) :
   wpAny (model prg w) A (execs [.Assign [.Name (S "__module__") pa1] (.Constant (.str m) ka pa2) pa3, .Assign [.Name (S "__slots__") pb1] (.List [.Constant (.str (S "obj")) kb pb2] pb3) pb4, .FunctionDef (S "__init__") a0 b0 [] none [] c0 none (S "__init__") q0, .FunctionDef (S "__lt__") a1 b1 [] none [] c1 none (S "__lt__") q1, .FunctionDef (S "__gt__") a2 b2 [] none [] c2 none (S "__gt__") q2, .FunctionDef (S "__eq__") a3 b3 [] none [] c3 none (S "__eq__") q3, .FunctionDef (S "__le__") a4 b4 [] none [] c4 none (S "__le__") q4, .FunctionDef (S "__ge__") a5 b5 [] none [] c5 none (S "__ge__") q5, .Assign [.Name (S "__hash__") pc1] (.Constant .none kc pc2) pc3] cenv) Q E s := by
  have nod : ∀ (es : Array DictEntry) (n : Nat) vs, (⟨.type "dict", none, .dict es n, #[]⟩ : Obj).data ≠ .fields vs := fun _ _ _ h => nomatch h
  refine wpAny_execs_cons (wpAny_Assign_Name (wpAny_Constant_str ?_))
  refine clsStore (s := { s with toks := s.toks + 1 }) hs0 hloc hns (by kernel_rfl) fun u0 u1 h1 k1 N1 => ?_
  have N1' : h1.get? nsA = some ⟨.type "dict", none, .dict #[⟨i0, .str (S "__module__") t0, .str m s.toks⟩, ⟨i1, .str (S "__qualname__") t1, .str q tq⟩, ⟨i2, .str (S "__firstlineno__") t2, .int l tl⟩] n, #[]⟩ := N1.trans (congrArg some (by kernel_rfl))
  clear N1
  have K1 : Kx [nsA, tt] s.heap h1 := k1.mono (by intro a ha; rw [List.mem_singleton.mp ha]; exact List.mem_cons.mpr (.inl rfl))
  have C1 := code_kx hok k1 hns (nod _ _)
  have T1 := table_kx htab k1 hns (nod _ _)
  refine wpAny_execs_cons (wpAny_Assign_Name (wpAny_List_spliced ?_))
  refine spliced_more (wpAny_Constant_str (spliced_none ⟨by show (1 : Nat) ≤ _; decide, ?_⟩))
  have kP : Kx [] h1 (h1.push ⟨.type "list", none, .seq #[.str (S "obj") (s.toks + 1 + 1)] 0, #[]⟩) := fun b o _ e => Heap.get?_push_of_some _ e
  have NP : (h1.push ⟨.type "list", none, .seq #[.str (S "obj") (s.toks + 1 + 1)] 0, #[]⟩).get? nsA = _ := Heap.get?_push_of_some _ N1'
  have LP : (h1.push ⟨.type "list", none, .seq #[.str (S "obj") (s.toks + 1 + 1)] 0, #[]⟩).get? h1.objs.size = some ⟨.type "list", none, .seq #[.str (S "obj") (s.toks + 1 + 1)] 0, #[]⟩ := Heap.get?_push_size _ rfl
  refine clsStore hs1 hloc NP (by kernel_rfl) fun i3 t3 h2 k2 N2 => ?_
  have N2' : h2.get? nsA = some ⟨.type "dict", none, .dict #[⟨i0, .str (S "__module__") t0, .str m s.toks⟩, ⟨i1, .str (S "__qualname__") t1, .str q tq⟩, ⟨i2, .str (S "__firstlineno__") t2, .int l tl⟩, ⟨i3, .str (S "__slots__") t3, .ref h1.objs.size⟩] (n + 1), #[]⟩ := N2.trans (congrArg some (by kernel_rfl))
  clear N2
  have K2 : Kx [nsA, tt] s.heap h2 := K1.trans ((kP.mono (by intro a ha; cases ha)).trans (k2.mono (by intro a ha; rw [List.mem_singleton.mp ha]; exact List.mem_cons.mpr (.inl rfl))))
  have C2 := code_kx (C1.keeps fun b o e => kP b o (by simp) e) k2 NP (nod _ _)
  have T2 := table_kx (T1.keeps fun b o e => kP b o (by simp) e) k2 NP (nod _ _)
  have X2 := KK2.kx2 X K2 hnK htt
  have L2 : h2.get? h1.objs.size = some ⟨.type "list", none, .seq #[.str (S "obj") (s.toks + 1 + 1)] 0, #[]⟩ := k2 _ _ (by
    intro ha
    rw [List.mem_singleton.mp ha, NP] at LP
    exact absurd (Value.type.inj (congrArg Obj.cls (Option.some.inj LP))) (by decide)) LP
  generalize h1.objs.size = sl at *
  clear C1 T1 NP LP kP N1'
  refine wpAny_execs_cons ?_
  refine defS_ok (d := ⟨S "__init__", a0, b0, c0, q0⟩) hcode hloc hglob hbu d0 C2 T2 rfl N2' (by kernel_rfl) X2 htt hnK fun f0 e0 h3 tk3 i4 t4 k3 C3 T3 w3 F0_3 N3 => ?_
  have N3' : h3.get? nsA = some ⟨.type "dict", none, .dict #[⟨i0, .str (S "__module__") t0, .str m s.toks⟩, ⟨i1, .str (S "__qualname__") t1, .str q tq⟩, ⟨i2, .str (S "__firstlineno__") t2, .int l tl⟩, ⟨i3, .str (S "__slots__") t3, .ref sl⟩, ⟨i4, .str (S "__init__") t4, .ref f0⟩] (n + 2), #[]⟩ := N3.trans (congrArg some (by kernel_rfl))
  clear N3
  have g3 : Kt h2 h3 := Kt.of k3 N2' rfl T2.2 rfl
  have K3 : Kx [nsA, tt] s.heap h3 := K2.trans k3
  have X3 := KK2.kx2 X K3 hnK htt
  have L3 := g3 _ _ _ L2 rfl (by decide)
  refine wpAny_execs_cons ?_
  refine defS_ok (d := ⟨S "__lt__", a1, b1, c1, q1⟩) hcode hloc hglob hbu d1 C3 T3 (z1 _) N3' (by kernel_rfl) X3 htt hnK fun f1 e1 h4 tk4 i5 t5 k4 C4 T4 w4 F1_4 N4 => ?_
  have N4' : h4.get? nsA = some ⟨.type "dict", none, .dict #[⟨i0, .str (S "__module__") t0, .str m s.toks⟩, ⟨i1, .str (S "__qualname__") t1, .str q tq⟩, ⟨i2, .str (S "__firstlineno__") t2, .int l tl⟩, ⟨i3, .str (S "__slots__") t3, .ref sl⟩, ⟨i4, .str (S "__init__") t4, .ref f0⟩, ⟨i5, .str (S "__lt__") t5, .ref f1⟩] (n + 3), #[]⟩ := N4.trans (congrArg some (by kernel_rfl))
  clear N4
  have g4 : Kt h3 h4 := Kt.of k4 N3' rfl T3.2 rfl
  have K4 : Kx [nsA, tt] s.heap h4 := K3.trans k4
  have X4 := KK2.kx2 X K4 hnK htt
  have L4 := g4 _ _ _ L3 rfl (by decide)
  have F0_4 := F0_3.kt g4
  refine wpAny_execs_cons ?_
  refine defS_ok (d := ⟨S "__gt__", a2, b2, c2, q2⟩) hcode hloc hglob hbu d2 C4 T4 (z2 _ _) N4' (by kernel_rfl) X4 htt hnK fun f2 e2 h5 tk5 i6 t6 k5 C5 T5 w5 F2_5 N5 => ?_
  have N5' : h5.get? nsA = some ⟨.type "dict", none, .dict #[⟨i0, .str (S "__module__") t0, .str m s.toks⟩, ⟨i1, .str (S "__qualname__") t1, .str q tq⟩, ⟨i2, .str (S "__firstlineno__") t2, .int l tl⟩, ⟨i3, .str (S "__slots__") t3, .ref sl⟩, ⟨i4, .str (S "__init__") t4, .ref f0⟩, ⟨i5, .str (S "__lt__") t5, .ref f1⟩, ⟨i6, .str (S "__gt__") t6, .ref f2⟩] (n + 4), #[]⟩ := N5.trans (congrArg some (by kernel_rfl))
  clear N5
  have g5 : Kt h4 h5 := Kt.of k5 N4' rfl T4.2 rfl
  have K5 : Kx [nsA, tt] s.heap h5 := K4.trans k5
  have X5 := KK2.kx2 X K5 hnK htt
  have L5 := g5 _ _ _ L4 rfl (by decide)
  have F0_5 := F0_4.kt g5
  have F1_5 := F1_4.kt g5
  refine wpAny_execs_cons ?_
  refine defS_ok (d := ⟨S "__eq__", a3, b3, c3, q3⟩) hcode hloc hglob hbu d3 C5 T5 (z3 _ _ _) N5' (by kernel_rfl) X5 htt hnK fun f3 e3 h6 tk6 i7 t7 k6 C6 T6 w6 F3_6 N6 => ?_
  have N6' : h6.get? nsA = some ⟨.type "dict", none, .dict #[⟨i0, .str (S "__module__") t0, .str m s.toks⟩, ⟨i1, .str (S "__qualname__") t1, .str q tq⟩, ⟨i2, .str (S "__firstlineno__") t2, .int l tl⟩, ⟨i3, .str (S "__slots__") t3, .ref sl⟩, ⟨i4, .str (S "__init__") t4, .ref f0⟩, ⟨i5, .str (S "__lt__") t5, .ref f1⟩, ⟨i6, .str (S "__gt__") t6, .ref f2⟩, ⟨i7, .str (S "__eq__") t7, .ref f3⟩] (n + 5), #[]⟩ := N6.trans (congrArg some (by kernel_rfl))
  clear N6
  have g6 : Kt h5 h6 := Kt.of k6 N5' rfl T5.2 rfl
  have K6 : Kx [nsA, tt] s.heap h6 := K5.trans k6
  have X6 := KK2.kx2 X K6 hnK htt
  have L6 := g6 _ _ _ L5 rfl (by decide)
  have F0_6 := F0_5.kt g6
  have F1_6 := F1_5.kt g6
  have F2_6 := F2_5.kt g6
  refine wpAny_execs_cons ?_
  refine defS_ok (d := ⟨S "__le__", a4, b4, c4, q4⟩) hcode hloc hglob hbu d4 C6 T6 (z4 _ _ _ _) N6' (by kernel_rfl) X6 htt hnK fun f4 e4 h7 tk7 i8 t8 k7 C7 T7 w7 F4_7 N7 => ?_
  have N7' : h7.get? nsA = some ⟨.type "dict", none, .dict #[⟨i0, .str (S "__module__") t0, .str m s.toks⟩, ⟨i1, .str (S "__qualname__") t1, .str q tq⟩, ⟨i2, .str (S "__firstlineno__") t2, .int l tl⟩, ⟨i3, .str (S "__slots__") t3, .ref sl⟩, ⟨i4, .str (S "__init__") t4, .ref f0⟩, ⟨i5, .str (S "__lt__") t5, .ref f1⟩, ⟨i6, .str (S "__gt__") t6, .ref f2⟩, ⟨i7, .str (S "__eq__") t7, .ref f3⟩, ⟨i8, .str (S "__le__") t8, .ref f4⟩] (n + 6), #[]⟩ := N7.trans (congrArg some (by kernel_rfl))
  clear N7
  have g7 : Kt h6 h7 := Kt.of k7 N6' rfl T6.2 rfl
  have K7 : Kx [nsA, tt] s.heap h7 := K6.trans k7
  have X7 := KK2.kx2 X K7 hnK htt
  have L7 := g7 _ _ _ L6 rfl (by decide)
  have F0_7 := F0_6.kt g7
  have F1_7 := F1_6.kt g7
  have F2_7 := F2_6.kt g7
  have F3_7 := F3_6.kt g7
  refine wpAny_execs_cons ?_
  refine defS_ok (d := ⟨S "__ge__", a5, b5, c5, q5⟩) hcode hloc hglob hbu d5 C7 T7 (z5 _ _ _ _ _) N7' (by kernel_rfl) X7 htt hnK fun f5 e5 h8 tk8 i9 t9 k8 C8 T8 w8 F5_8 N8 => ?_
  have N8' : h8.get? nsA = some ⟨.type "dict", none, .dict #[⟨i0, .str (S "__module__") t0, .str m s.toks⟩, ⟨i1, .str (S "__qualname__") t1, .str q tq⟩, ⟨i2, .str (S "__firstlineno__") t2, .int l tl⟩, ⟨i3, .str (S "__slots__") t3, .ref sl⟩, ⟨i4, .str (S "__init__") t4, .ref f0⟩, ⟨i5, .str (S "__lt__") t5, .ref f1⟩, ⟨i6, .str (S "__gt__") t6, .ref f2⟩, ⟨i7, .str (S "__eq__") t7, .ref f3⟩, ⟨i8, .str (S "__le__") t8, .ref f4⟩, ⟨i9, .str (S "__ge__") t9, .ref f5⟩] (n + 7), #[]⟩ := N8.trans (congrArg some (by kernel_rfl))
  clear N8
  have g8 : Kt h7 h8 := Kt.of k8 N7' rfl T7.2 rfl
  have K8 : Kx [nsA, tt] s.heap h8 := K7.trans k8
  have X8 := KK2.kx2 X K8 hnK htt
  have L8 := g8 _ _ _ L7 rfl (by decide)
  have F0_8 := F0_7.kt g8
  have F1_8 := F1_7.kt g8
  have F2_8 := F2_7.kt g8
  have F3_8 := F3_7.kt g8
  have F4_8 := F4_7.kt g8
  refine wpAny_execs_cons (wpAny_Assign_Name (wpAny_Constant_none ?_))
  refine clsStore hs2 hloc N8' (by kernel_rfl) fun i10 t10 h9 k9 N9 => ?_
  have N9' : h9.get? nsA = some ⟨.type "dict", none, .dict #[⟨i0, .str (S "__module__") t0, .str m s.toks⟩, ⟨i1, .str (S "__qualname__") t1, .str q tq⟩, ⟨i2, .str (S "__firstlineno__") t2, .int l tl⟩, ⟨i3, .str (S "__slots__") t3, .ref sl⟩, ⟨i4, .str (S "__init__") t4, .ref f0⟩, ⟨i5, .str (S "__lt__") t5, .ref f1⟩, ⟨i6, .str (S "__gt__") t6, .ref f2⟩, ⟨i7, .str (S "__eq__") t7, .ref f3⟩, ⟨i8, .str (S "__le__") t8, .ref f4⟩, ⟨i9, .str (S "__ge__") t9, .ref f5⟩, ⟨i10, .str (S "__hash__") t10, .none⟩] (n + 8), #[]⟩ := N9.trans (congrArg some (by kernel_rfl))
  have k9' : Kx [nsA, tt] h8 h9 := k9.mono (by intro a ha; rw [List.mem_singleton.mp ha]; exact List.mem_cons.mpr (.inl rfl))
  have g9 : Kt h8 h9 := Kt.of k9' N8' rfl T8.2 rfl
  exact wpAny_execs_nil (k h9 _ sl (s.toks + 1 + 1) s.toks i3 t3 i4 t4 i5 t5 i6 t6 i7 t7 i8 t8 i9 t9 i10 t10 f0 f1 f2 f3 f4 f5 (K8.trans k9') N9' (g9 _ _ _ L8 rfl (by decide)) (F0_8.kt g9) (F1_8.kt g9) (F2_8.kt g9) (F3_8.kt g9) (F4_8.kt g9) (F5_8.kt g9))
end Mine
end
section
open PySem PySem.W PySem.W.X PyProof.Rows
set_option Elab.async false
set_option maxRecDepth 100000
set_option maxHeartbeats 0
set_option linter.unusedVariables false
namespace Mine
def prepObj : Obj := ⟨.type "builtin_function_or_method", none, .fields #[.builtin "type.__prepare__", .type "type"], #[]⟩
def PostC (s : Shared) (v : Value) (s' : Shared) : Prop := ∃ h' tk aP, v = .ref aP ∧ s' = ⟨h', s.gens, s.drawn, tk, s.os⟩ ∧ Mem s.heap h' [] [(aP, prepObj)]
local macro_rules | `(tactic| x_close) => `(tactic| (show PostC _ _ _; exact ⟨_, _, _, rfl, rfl, memEq (by assumption) (by kernel_rfl)⟩))
theorem tga_ok : ∀ (w : World) (s : Shared) (_ : (KK2 w.params).In s.heap) (t : Tok), wpAny (model PySem.Challenge.rw_nb0060_01.row.prog w) A1 (call (.builtin "type.__getattribute__") [.type "type", .str (Str.ofString "__prepare__") t]) (PostC s) (fun _ _ => False) s := by
  k_fill
  intro w s KX t
  x_run
def PostD (s : Shared) (v : Value) (s' : Shared) : Prop := ∃ h' tk aN, v = .ref aN ∧ s' = ⟨h', s.gens, s.drawn, tk, s.os⟩ ∧ Mem s.heap h' [] [(aN, ⟨.type "dict", none, .dict #[] 0, #[]⟩)]
local macro_rules | `(tactic| x_close) => `(tactic| (show PostD _ _ _; exact ⟨_, _, _, rfl, rfl, memEq (by assumption) (by kernel_rfl)⟩))
theorem prep_ok : ∀ (w : World) (s : Shared) (_ : (KK2 w.params).In s.heap) (aP : Addr) (nV : Value) (bT : Addr) (_ : s.heap.get? aP = some ⟨.type "builtin_function_or_method", none, .fields #[.builtin "type.__prepare__", .type "type"], #[]⟩),
   wpAny (model PySem.Challenge.rw_nb0060_01.row.prog w) A1 (call (.ref aP) [nV, .ref bT]) (PostD s) (fun _ _ => False) s := by
  k_fill
  intro w s KX aP nV bT hP
  x_run
end Mine

end
section
open PySem PySem.W PySem.W.X PyProof.Rows
set_option Elab.async false
set_option maxRecDepth 100000
set_option maxHeartbeats 4000000
set_option linter.unusedVariables false
namespace Mine
theorem ccode_ok {w : World} {A : Around} {E : Value → Shared → Prop} {s : Shared} {env : Env} {c P : Addr} {ps : Array Value} {pos : Pos} {fl : Nat} {name qual : Str} {scope : Scope} {Q : Value → Shared → Prop}
    (hc : env.code = .ref c) (hok : s.heap.IsCode c P ps) (htab : s.heap.TableAt c P ps) (hnf : codeAmong pos ps.toList = none)
    (hQ : ∀ c' P' h' tk, Kx [P] s.heap h' → s.heap.get? c' = none → s.heap.get? P' = none → h'.IsCode c' P' #[] → h'.TableAt c' P' #[] → h'.TableAt c P (ps ++ #[rawInt pos.line, rawInt pos.col, .ref c']) → Q (.ref c') { s with heap := h', toks := tk }) :
    wpAny (model prg w) A (classCode env pos fl name qual scope) Q E s := by
  obtain ⟨o, vs, file, tf, flags, tg, inF, text, tt, op, ho, hd, h11, h2, h7, h9, h10, hop, hpd, htr, hne⟩ := id hok
  unfold classCode codeAt
  rw [hc]
  refine bF rfl ?_
  refine wpAny_bind (wpAny_fieldsOf ho hd ?_)
  rw [h11]
  refine wpAny_bind (wpAny_fieldsOf hop hpd ?_)
  rw [hnf, h2, h7, h9, h10]
  refine wpAny_bind (wpAny_newCodeX fun c' P' h' tk hk hc' hP' hcode' htab' hrec' => ?_)
  have hop' := hk _ _ hop
  refine wpAny_bind (wpAny_updateFieldsOfTheText hop' hpd ?_)
  have hnew : (Obj.mapFields (fun vs => if (codeAmong pos vs.toList).isSome = true then vs else vs ++ #[rawInt pos.line, rawInt pos.col, .ref c']) op).data = .fields (ps ++ #[rawInt pos.line, rawInt pos.col, .ref c']) := by
    rw [Obj.data_mapFields hpd, hnf]; rfl
  have hget := Heap.get?_update_self (h := h') (fun o => Obj.mapFields (fun vs => if (codeAmong pos vs.toList).isSome = true then vs else vs ++ #[rawInt pos.line, rawInt pos.col, .ref c']) o) hop' (Obj.isFreed_of_fields hnew)
  refine wpAny_bind (wpAny_fieldsOf hget hnew ?_)
  have hl : (ps ++ #[rawInt pos.line, rawInt pos.col, Value.ref c']).toList = ps.toList ++ [rawInt pos.line, rawInt pos.col, .ref c'] := by simp
  rw [hl, codeAmong_snoc _ htr hnf]
  have hcP : c' ≠ P := Nat.ne_of_gt (Nat.lt_of_lt_of_le (Heap.lt_size hop) hc')
  have hP'P : P' ≠ P := Nat.ne_of_gt (Nat.lt_of_lt_of_le (Heap.lt_size hop) hP')
  have sb : ∀ (f : Obj → Obj) b o', b ≠ P → h'.get? b = some o' → (h'.update P f).get? b = some o' := fun f b o' hb e => (Heap.get?_update_ne _ _ _ _ hb).trans e
  refine wpAny_pure (hQ c' P' _ _ (fun b o' hb e => sb _ b o' (by simpa using hb) (hk b o' e)) (Heap.get?_none_of_le hc') (Heap.get?_none_of_le hP') ?_ ?_ ?_)
  · exact hcode'.extBut (Heap.SameBut.update ..).extBut hcP hP'P
  · obtain ⟨⟨oc, vc, hoc, hcc, hdc, h11c⟩, htP⟩ := htab'
    exact ⟨⟨oc, vc, sb _ _ _ hcP hoc, hcc, hdc, h11c⟩, sb _ _ _ hP'P htP⟩
  · obtain ⟨⟨oc, vc, hoc, hcc, hdc, h11c⟩, htP⟩ := htab
    have e1 : op = { cls := .none, data := .fields ps } := Option.some.inj (hop.symm.trans htP)
    refine ⟨⟨oc, vc, sb _ _ _ hne (hk _ _ hoc), hcc, hdc, h11c⟩, ?_⟩
    rw [hget, e1]
    simp only [Obj.mapFields, hnf]
    rfl
theorem s1 : typeLookup (.type "type") (S "__getattribute__") = pure (some (.builtin "type.__getattribute__")) := by kernel_rfl
theorem s2 (v : Value) : bindSpecial (.builtin "type.__getattribute__") v = pure (.builtin "type.__getattribute__", [v]) := by kernel_rfl
theorem s3 : typeOf (.type "type") = pure (.type "type") := by kernel_rfl
theorem s4 : typeLookup (.type "dict") (S "__getitem__") = pure (some (.builtin "dict.__getitem__")) := by kernel_rfl
theorem fresh_ne {w : World} {h : Heap} {a : Addr} (X : (KK2 w.params).In h) (hn : h.get? a = none) (b : Addr) (hb : ((KK2 w.params).lookup b).isSome = true) : a ≠ b := fun q => by
  obtain ⟨o, ho⟩ := Option.isSome_iff_exists.mp hb
  rw [q, X b o ho] at hn; cases hn
theorem fresh_lk {w : World} {h : Heap} {a : Addr} (X : (KK2 w.params).In h) (hn : h.get? a = none) : (KK2 w.params).lookup a = none := by
  cases q : (KK2 w.params).lookup a with
  | none => rfl
  | some o => rw [X a o q] at hn; cases hn
/-- the class's prepared namespace -/
theorem prepare_ok {w : World} {A : Around} {Q : Option Value → Shared → Prop} {E : Value → Shared → Prop} {s : Shared} (hA : AOk A 390 900) (X : (KK2 w.params).In s.heap)
   (k : ∀ h' tk aP, Mem s.heap h' [] [(aP, prepObj)] → Q (some (.ref aP)) ⟨h', s.gens, s.drawn, tk, s.os⟩) : wpAny (model prg w) A (getAttr? (.type "type") (S "__prepare__")) Q E s := by
  unfold getAttr?
  refine wpAny_bind (wpAny_mkText ?_)
  unfold getAttrBy?
  refine wpAny_bind (wpAny_attempt ?_)
  unfold getAttrBy
  refine wpAny_holding ?_
  refine wpAny_bind (eqP s3 ?_)
  refine wpAny_bind (eqP s1 ?_)
  refine bF rfl ?_
  unfold getAttrByItsOwn
  refine wpAny_bind (wpAny_pure ?_)
  refine wpAny_bind (wpAny_attempt (wpAny_holding ?_))
  unfold callGetattribute
  refine bF rfl ?_
  unfold boundAndCalled
  refine wpAny_bind (eqP (s2 _) ?_)
  refine useW (toA1 (tga_ok w { s with toks := s.toks + 1 } X _) (hA.mono (by decide) (by decide))) fun v s' hv => ?_
  obtain ⟨h', tk, aP, rfl, rfl, D⟩ := hv
  exact wpAny_pure (wpAny_pure (k h' tk aP D))
end Mine

end
section
open PySem PySem.W PySem.W.X PyProof.Rows
set_option Elab.async false
set_option maxRecDepth 100000
set_option maxHeartbeats 4000000
set_option linter.unusedVariables false
namespace Mine
def cmpBody : List Stmt := match prg.main.body with
  | _ :: _ :: _ :: _ :: .FunctionDef _ _ b .. :: _ => b
  | _ => []
def clsScope : Scope := match cmpBody with
  | .ClassDef _ _ _ _ _ _ sc .. :: _ => sc
  | _ => default
def clsBody : List Stmt := match cmpBody with
  | .ClassDef _ _ _ b .. :: _ => b
  | _ => []
def clsPos : Pos := match cmpBody with
  | .ClassDef _ _ _ _ _ _ _ _ _ _ p :: _ => p
  | _ => default
theorem u1 : (clsScope.names.lookup (S "__class__") == some NameKind.cell) = false := by kernel_rfl
theorem u2 : (clsScope.names.lookup (S "__classdict__") == some NameKind.cell) = false := by kernel_rfl
theorem u3 (e : Env) (v : Value) (h : e.scope = clsScope) : storeName e (S "__module__") v = localSet e (S "__module__") v := by
  obtain ⟨sc, a, b, c, d, f, g, i, j⟩ := e
  cases h
  kernel_rfl
theorem u4 (e : Env) (v : Value) (h : e.scope = clsScope) : storeName e (S "__qualname__") v = localSet e (S "__qualname__") v := by
  obtain ⟨sc, a, b, c, d, f, g, i, j⟩ := e
  cases h
  kernel_rfl
theorem u5 (e : Env) (v : Value) (h : e.scope = clsScope) : storeName e (S "__firstlineno__") v = localSet e (S "__firstlineno__") v := by
  obtain ⟨sc, a, b, c, d, f, g, i, j⟩ := e
  cases h
  kernel_rfl
theorem u6 (e : Env) (v : Value) (h : e.scope = clsScope) : storeName e (S "__static_attributes__") v = localSet e (S "__static_attributes__") v := by
  obtain ⟨sc, a, b, c, d, f, g, i, j⟩ := e
  cases h
  kernel_rfl
theorem ln_ok {w : World} {A : Around} {Q : Value → Shared → Prop} {E : Value → Shared → Prop} {s : Shared} {e : Env} {a : Addr} {es : Array DictEntry} {n : Nat}
    (h1 : e.scope = clsScope) (h2 : e.locals = a) (h3 : e.globals = 3) (X : (KK2 w.params).In s.heap) (hns : s.heap.get? a = some ⟨.type "dict", none, .dict es n, #[]⟩) (hl : nsLook (S "__name__") ⟨.type "dict", none, .dict es n, #[]⟩ = pure none) (k : ∀ v, Q v s) :
    wpAny (model prg w) A (loadName e (S "__name__")) Q E s := by
  obtain ⟨sc, a', b, cl, qq, fu, cd, fr, bu⟩ := e
  replace h1 : sc = clsScope := h1
  replace h2 : a' = a := h2
  replace h3 : b = 3 := h3
  subst h1 h2 h3
  unfold loadName
  refine bF (by kernel_rfl) ?_
  have e1 : (Env.blockKind ⟨clsScope, a', 3, cl, qq, fu, cd, fr, bu⟩) = .class := by kernel_rfl
  have e2 : (Env.kindOf ⟨clsScope, a', 3, cl, qq, fu, cd, fr, bu⟩ (S "__name__")) = none := by kernel_rfl
  rw [e1, e2]
  refine bF (by kernel_rfl) ?_
  unfold localGet
  refine wpAny_bind (wpAny_bind (wpAny_load hns (bTr rfl ?_)))
  refine wpAny_bind (wpAny_loadPart hns (eqP hl ?_))
  show wpAny _ _ (loadGlobal _ _) _ _ _
  unfold loadGlobal
  obtain ⟨v, hv⟩ := nm_look X
  exact wpAny_bind (hv _ _ _ _ (fun _ _ e => e) (wpAny_pure (k v)))
theorem u8 (e : Env) (v : Value) (h : e.scope = clsScope) : storeName e (S "__slots__") v = localSet e (S "__slots__") v := by
  obtain ⟨sc, a, b, c, d, f, g, i, j⟩ := e
  cases h
  kernel_rfl
theorem u9 (e : Env) (v : Value) (h : e.scope = clsScope) : storeName e (S "__hash__") v = localSet e (S "__hash__") v := by
  obtain ⟨sc, a, b, c, d, f, g, i, j⟩ := e
  cases h
  kernel_rfl
theorem newTupR {prog : Program} {w : World} {A : Around} {E : Value → Shared → Prop} {s : Shared} {vs : List Value} {Q : Value → Shared → Prop} (hz : vs.length ≤ sizeLine) (k : ∀ a h', Kx [] s.heap h' → s.heap.get? a = none → h'.get? a = some ⟨.type "tuple", none, .seq vs.toArray 0, #[]⟩ → Q (.ref a) { s with heap := h' }) : wpAny (model prog w) A (newTuple vs) Q E s :=
  wpAny_newObj_type (k _ _ (fun b o _ e => Heap.get?_push_of_some _ e) (Heap.get?_none_of_le (Nat.le_refl _)) (Heap.get?_push_size _ rfl)) (by show vs.toArray.size ≤ sizeLine; rw [List.size_toArray]; exact hz)
theorem nolimit {w : World} {h : Heap} (X : (KK2 w.params).In h) : h.NoLimit := ⟨h.nsMap cStatics, .of_isNs (isNs_of_in X (by kernel_rfl)), nsMap_none_of_in X (by kernel_rfl) (by kernel_rfl)⟩
theorem KK2.k0 {w : World} {h h' : Heap} (X : (KK2 w.params).In h) (x : Kx [] h h') : (KK2 w.params).In h' := fun a o e => x a o (by simp) (X a o e)
theorem kx_mem {h₀ h : Heap} {news : List (Addr × Obj)} (D : Mem h₀ h [] news) : Kx [] h₀ h := fun a o _ e => kp_mem D a o e
theorem gk {h h' : Heap} (x : Kx [] h h') {a : Addr} {o : Obj} (e : h.get? a = some o) : h'.get? a = some o := x a o (by simp) e
/-- the class that cmp_to_key makes -/
def KCls (h : Heap) (aC : Addr) (a0 : Arguments) (b0 : List Stmt) (c0 : Scope) (l0 : List (Str × Addr)) (a1 : Arguments) (b1 : List Stmt) (c1 : Scope) (l1 : List (Str × Addr)) : Prop :=
  ∃ (aN aD sl f0 f1 f2 f3 f4 f5 sa bT : Addr) (i0 i2 i3 i4 i5 i6 i7 i8 i9 i10 i11 ho hd l : Int) (t0 t2 t3 t4 t5 t6 t7 t8 t9 t10 t11 tm tl to1 to' td tn tq : Tok) (m : Str),
    h.get? aC = some (clsO aC aN #[some (.ref bT), none, some (.str (S "K") tn), some (.str (S "cmp_to_key.<locals>.K") tq), some (.builtin "object.__new__"), some (.bool false)]) ∧
    h.get? aN = some ⟨.type "dict", none, .dict (es1 i0 i2 i3 i4 i5 i6 i7 i8 i9 i10 i11 t0 t2 t3 t4 t5 t6 t7 t8 t9 t10 t11 tm tl m l sl f0 f1 f2 f3 f4 f5 sa [⟨ho, .str (S "obj") to', .ref aD⟩, ⟨hd, .str (S "__doc__") td, .none⟩]) 3, #[]⟩ ∧
    h.get? aD = some ⟨.type "member_descriptor", none, .fields #[.str (S "obj") to1, .ref aC, .builtin "proto.slot", .builtin "proto.slot#set", rawInt 0], #[]⟩ ∧
    FnAt h f0 (S "__init__") (S "cmp_to_key.<locals>.K" ++ Str.ofString "." ++ S "__init__") a0 b0 c0 l0 ∧ FnAt h f1 (S "__lt__") (S "cmp_to_key.<locals>.K" ++ Str.ofString "." ++ S "__lt__") a1 b1 c1 l1
theorem FnAt.k0 {h h' : Heap} {f : Addr} {name qual : Str} {args : Arguments} {body : List Stmt} {scope : Scope} {cl : List (Str × Addr)} (x : FnAt h f name qual args body scope cl) (k : Kx [] h h') : FnAt h' f name qual args body scope cl := x.kt fun b o T e _ _ => gk k e
theorem bc_ok {w : World} {A : Around} {Q : Value → Shared → Prop} {E : Value → Shared → Prop} {s : Shared} {env : Env} {cell : Addr} {m : Str} {fl : Nat} {statics : List Str}
   {a0 a1 a2 a3 a4 a5 : Arguments} {b0 b1 b2 b3 b4 b5 : List Stmt} {c0 c1 c2 c3 c4 c5 : Scope} {q0 q1 q2 q3 q4 q5 pa1 pa2 pa3 pb1 pb2 pb3 pb4 pc1 pc2 pc3 : Pos} {ka kb kc : Nat} {l0 l1 l2 l3 l4 l5 : List (Str × Addr)}
   (hA : AOk A 380 800) (X : (KK2 w.params).In s.heap) (hC : s.heap.IsCode 27 23 #[]) (hT : s.heap.TableAt 27 23 #[]) (he1 : env.code = .ref 27) (he2 : env.globals = 3) (he3 : env.builtins = 0) (hcl : closureFor clsScope env = pure [(S "mycmp", cell)])
   (d0 : ∀ e : Env, e.scope = clsScope → e.cells = [(S "mycmp", cell)] → DefOk e ⟨S "__init__", a0, b0, c0, q0⟩ l0)
   (d1 : ∀ e : Env, e.scope = clsScope → e.cells = [(S "mycmp", cell)] → DefOk e ⟨S "__lt__", a1, b1, c1, q1⟩ l1)
   (d2 : ∀ e : Env, e.scope = clsScope → e.cells = [(S "mycmp", cell)] → DefOk e ⟨S "__gt__", a2, b2, c2, q2⟩ l2)
   (d3 : ∀ e : Env, e.scope = clsScope → e.cells = [(S "mycmp", cell)] → DefOk e ⟨S "__eq__", a3, b3, c3, q3⟩ l3)
   (d4 : ∀ e : Env, e.scope = clsScope → e.cells = [(S "mycmp", cell)] → DefOk e ⟨S "__le__", a4, b4, c4, q4⟩ l4)
   (d5 : ∀ e : Env, e.scope = clsScope → e.cells = [(S "mycmp", cell)] → DefOk e ⟨S "__ge__", a5, b5, c5, q5⟩ l5)
   (z1 : ∀ x0 : Value, codeAmong q1 [rawInt q0.line, rawInt q0.col, x0] = none)
   (z2 : ∀ x0 x1 : Value, codeAmong q2 [rawInt q0.line, rawInt q0.col, x0, rawInt q1.line, rawInt q1.col, x1] = none)
   (z3 : ∀ x0 x1 x2 : Value, codeAmong q3 [rawInt q0.line, rawInt q0.col, x0, rawInt q1.line, rawInt q1.col, x1, rawInt q2.line, rawInt q2.col, x2] = none)
   (z4 : ∀ x0 x1 x2 x3 : Value, codeAmong q4 [rawInt q0.line, rawInt q0.col, x0, rawInt q1.line, rawInt q1.col, x1, rawInt q2.line, rawInt q2.col, x2, rawInt q3.line, rawInt q3.col, x3] = none)
   (z5 : ∀ x0 x1 x2 x3 x4 : Value, codeAmong q5 [rawInt q0.line, rawInt q0.col, x0, rawInt q1.line, rawInt q1.col, x1, rawInt q2.line, rawInt q2.col, x2, rawInt q3.line, rawInt q3.col, x3, rawInt q4.line, rawInt q4.col, x4] = none)
   (k : ∀ h' tk aC, Kx [23] s.heap h' → (∃ v, h'.get? 23 = some (tableObj #[rawInt clsPos.line, rawInt clsPos.col, v])) → KCls h' aC a0 b0 c0 l0 a1 b1 c1 l1 → Q (.ref aC) { s with heap := h', toks := tk })
   : wpAny (model prg w) A (buildClass (S "K") (S "cmp_to_key.<locals>.K") [.type "object"] [] [.Assign [.Name (S "__module__") pa1] (.Constant (.str m) ka pa2) pa3, .Assign [.Name (S "__slots__") pb1] (.List [.Constant (.str (S "obj")) kb pb2] pb3) pb4, .FunctionDef (S "__init__") a0 b0 [] none [] c0 none (S "__init__") q0, .FunctionDef (S "__lt__") a1 b1 [] none [] c1 none (S "__lt__") q1, .FunctionDef (S "__gt__") a2 b2 [] none [] c2 none (S "__gt__") q2, .FunctionDef (S "__eq__") a3 b3 [] none [] c3 none (S "__eq__") q3, .FunctionDef (S "__le__") a4 b4 [] none [] c4 none (S "__le__") q4, .FunctionDef (S "__ge__") a5 b5 [] none [] c5 none (S "__ge__") q5, .Assign [.Name (S "__hash__") pc1] (.Constant .none kc pc2) pc3] clsScope statics fl env clsPos none) Q E s := by
  unfold buildClass
  refine wpAny_bind (newTupR (by decide) fun bT h1 k1 nb hb => ?_)
  refine wpAny_bind (forC (wpAny_bind (wpAny_pure (bTr rfl ?_))))
  refine ifF (by decide) (wpAny_pure (forN ?_))
  refine wpAny_bind (eqP p4 ?_)
  refine wpAny_bind (wpAny_pure (bTr rfl ?_))
  refine wpAny_bind (forC (wpAny_bind (eqP p4 (wpAny_bind (eqP p3 (bTr rfl (wpAny_pure (forN ?_))))))))
  refine wpAny_bind (wpAny_mkText ?_)
  refine bF rfl (wpAny_bind (wpAny_pure (wpAny_holding ?_)))
  have X1 := KK2.k0 X k1
  refine wpAny_bind (prepare_ok (s := { s with heap := h1, toks := s.toks + 1 }) (hA.mono (by decide) (by decide)) X1 fun h2 tk2 aP D2 => ?_)
  have k2 : Kx [] s.heap h2 := k1.trans (kx_mem D2)
  have X2 := KK2.k0 X k2
  refine wpAny_bind (useW (toA1 (prep_ok w ⟨h2, s.gens, s.drawn, tk2, s.os⟩ X2 aP (.str (S "K") s.toks) bT (D2.at 0 _ _ rfl)) (hA.mono (by decide) (by decide))) fun v s' hv => ?_)
  obtain ⟨h3, tk3, nsA, rfl, rfl, D3⟩ := hv
  have k3 : Kx [] s.heap h3 := k2.trans (kx_mem D3)
  have X3 := KK2.k0 X k3
  have N3 : h3.get? nsA = some ⟨.type "dict", none, .dict #[] 0, #[]⟩ := D3.at 0 _ _ rfl
  have hnf : h2.get? nsA = none := (D3.nw _ (.head _)).2
  have hnK : (KK2 w.params).lookup nsA = none := fresh_lk X2 hnf
  have hn1 : nsA ≠ 1 := fresh_ne X2 hnf 1 (by kernel_rfl)
  have hn23 : nsA ≠ 23 := fun q => by
    have e := gk k2 hT.2
    rw [← q, hnf] at e; cases e
  refine wpAny_bind (bF (by simpa [sysModules] using hn1) (wpAny_pure ?_))
  refine wpAny_bind (wpAny_bind (wpAny_typeOf_ref N3 (eqP s4 (bF rfl ?_))))
  refine wpAny_holding ?_
  refine bF u1 (wpAny_bind (wpAny_pure ?_))
  refine bF u2 (wpAny_bind (wpAny_pure ?_))
  refine wpAny_bind (ccode_ok (s := ⟨h3, s.gens, s.drawn, tk3, s.os⟩) he1 (hC.keeps fun b o e => gk k3 e) (hT.keeps fun b o e => gk k3 e) rfl fun cc tt h4 tk4 k4 fc ft C4 T4 T27 => ?_)
  have N4 := k4 _ _ (by simpa using hn23) N3
  have X4 : (KK2 w.params).In h4 := KK2.kx X3 k4 fun a ha => .inl (List.mem_singleton.mp ha)
  have htK : (KK2 w.params).lookup tt = none := fresh_lk X3 ft
  rw [he2, he3]
  refine wpAny_bind (bf_look X4 _ _ _ _ (fun _ _ e => e) ?_)
  refine wpAny_bind ?_
  unfold newBodyFrame
  obtain ⟨vn, hvn⟩ := nm_look X4
  refine wpAny_bind (hvn _ _ _ _ (fun _ _ e => e) ?_)
  refine wpAny_alloc ?_
  refine wpAny_bind (eqP hcl ?_)
  refine wpAny_holding ?_
  have k5 : Kx [] h4 (h4.push { cls := .type "frame", slots := #[some (.ref cc), some (.ref 3), some (.ref nsA), none, some ((some vn).getD .none), none, some (.ref 0)] }) := fun b o _ e => Heap.get?_push_of_some _ e
  generalize h4.push { cls := .type "frame", slots := #[some (.ref cc), some (.ref 3), some (.ref nsA), none, some ((some vn).getD .none), none, some (.ref 0)] } = h5 at k5 ⊢
  generalize hce : Env.mk clsScope _ _ _ _ _ _ _ _ = cenv
  have y1 : cenv.scope = clsScope := by rw [← hce]
  have y2 : cenv.locals = nsA := by rw [← hce]
  have y3 : cenv.globals = 3 := by rw [← hce]
  have y4 : cenv.builtins = 0 := by rw [← hce]
  have y5 : cenv.code = .ref cc := by rw [← hce]
  have y6 : cenv.cells = [(S "mycmp", cell)] := by rw [← hce]; rfl
  have y7 : cenv.qual = S "cmp_to_key.<locals>.K" ++ Str.ofString "." := by rw [← hce]
  clear hce
  have X5 := KK2.k0 X4 k5
  have N5 := gk k5 N4
  have C5 := C4.keeps fun b o e => gk k5 e
  have T5 := T4.keeps fun b o e => gk k5 e
  refine wpAny_bind (wpAny_enterFrame (nolimit X5) (Nat.lt_of_le_of_lt hA.2 (by decide)) ?_)
  refine wpAny_bind (wpAny_onRaise ?_)
  refine wpAny_bind (ln_ok y1 y2 y3 X5 N5 (by kernel_rfl) fun vm => ?_)
  refine wpAny_bind (clsStore (fun v => u3 cenv v y1) y2 N5 (by kernel_rfl) fun i0 t0 h6 k6 N6 => ?_)
  have N6' : h6.get? nsA = some ⟨.type "dict", none, .dict #[⟨i0, .str (S "__module__") t0, vm⟩] 1, #[]⟩ := N6.trans (congrArg some (by kernel_rfl))
  refine wpAny_bind (wpAny_mkText ?_)
  refine wpAny_bind (clsStore (fun v => u4 cenv v y1) y2 N6' (by kernel_rfl) fun i1 t1 h7 k7 N7 => ?_)
  have N7' : h7.get? nsA = some ⟨.type "dict", none, .dict #[⟨i0, .str (S "__module__") t0, vm⟩, ⟨i1, .str (S "__qualname__") t1, .str (S "cmp_to_key.<locals>.K") (tk4 + 1)⟩] 2, #[]⟩ := N7.trans (congrArg some (by kernel_rfl))
  refine wpAny_bind (wpAny_mkInt ?_)
  refine wpAny_bind (clsStore (fun v => u5 cenv v y1) y2 N7' (by kernel_rfl) fun i2 t2 h8 k8 N8 => wpAny_pure ?_)
  have N8' : h8.get? nsA = some ⟨.type "dict", none, .dict #[⟨i0, .str (S "__module__") t0, vm⟩, ⟨i1, .str (S "__qualname__") t1, .str (S "cmp_to_key.<locals>.K") (tk4 + 1)⟩, ⟨i2, .str (S "__firstlineno__") t2, .int fl (tk4 + 1 + 1 + 1)⟩] 3, #[]⟩ := N8.trans (congrArg some (by kernel_rfl))
  have nod : ∀ (es : Array DictEntry) (n : Nat) vs, (⟨.type "dict", none, .dict es n, #[]⟩ : Obj).data ≠ .fields vs := fun _ _ _ h => nomatch h
  have C8 := code_kx (code_kx (code_kx C5 k6 N5 (nod _ _)) k7 N6' (nod _ _)) k8 N7' (nod _ _)
  have T8 := table_kx (table_kx (table_kx T5 k6 N5 (nod _ _)) k7 N6' (nod _ _)) k8 N7' (nod _ _)
  have kk8 : Kx [nsA] h5 h8 := k6.trans (k7.trans k8)
  have X8 : (KK2 w.params).In h8 := KK2.kx X5 kk8 fun a ha => by rw [List.mem_singleton.mp ha]; exact .inr (.inr hnK)
  clear N6 N7 N8 N6' N7' k6 k7 k8
  refine wpAny_bind (wpAny_run (codeAny_of_tree ?_))
  show wpAny _ _ (do blockStart _ cenv; let f ← (execs _ cenv).onRaise («leaving» cenv); pure (PySem.Fin.done f)) _ _ _
  refine wpAny_bind ?_
  unfold blockStart
  refine bF (by kernel_rfl) ?_
  refine bF (by rw [interactive, y1]; kernel_rfl) ?_
  refine wpAny_pure ?_
  refine wpAny_bind (wpAny_onRaise ?_)
  refine body_ok y5 y2 y3 y4 (fun v => u3 cenv v y1) (fun v => u8 cenv v y1) (fun v => u9 cenv v y1) (d0 cenv y1 y6) (d1 cenv y1 y6) (d2 cenv y1 y6) (d3 cenv y1 y6) (d4 cenv y1 y6) (d5 cenv y1 y6) C8 T8 z1 z2 z3 z4 z5 N8' X8 htK hnK ?_
  intro h9 tk9 sl to tm i3 t3 i4 t4 i5 t5 i6 t6 i7 t7 i8 t8 i9 t9 i10 t10 f0 f1 f2 f3 f4 f5 k9 N9 L9 F0 F1 F2 F3 F4 F5
  refine wpAny_pure ?_
  show wpAny _ _ _ _ _ _
  refine wpAny_bind (wpAny_onRaise ?_)
  refine wpAny_bind (wpAny_mkStrs fun fs => ?_)
  refine wpAny_bind (ntR fun sa h10 k10 ns10 hsa => ?_)
  refine wpAny_bind (clsStore (fun v => u6 cenv v y1) y2 (gk k10 N9) (by kernel_rfl) fun i11 t11 h11 k11 N11 => wpAny_pure ?_)
  have N11' : h11.get? nsA = some ⟨.type "dict", none, .dict (es0 i0 i1 i2 i3 i4 i5 i6 i7 i8 i9 i10 i11 t0 t1 t2 t3 t4 t5 t6 t7 t8 t9 t10 t11 tm (tk4 + 1) (tk4 + 1 + 1 + 1) m (S "cmp_to_key.<locals>.K") fl sl f0 f1 f2 f3 f4 f5 sa) 12, #[]⟩ := N11.trans (congrArg some (by kernel_rfl))
  clear N11
  have g11 : ∀ b o T, h10.get? b = some o → o.cls = .type T → T ≠ "dict" → h11.get? b = some o := fun b o T e c nd => k11 b o (fun q => by
    rw [List.mem_singleton.mp q, gk k10 N9] at e; cases e; cases c; exact nd rfl) e
  have G : Kt h9 h11 := fun b o T e c nd => g11 b o T (gk k10 e) c nd
  have hb9 : h9.get? bT = some ⟨.type "tuple", none, .seq #[.type "object"] 0, #[]⟩ := by
    have e1 := hb
    have e3 := gk (kx_mem D3) (gk (kx_mem D2) e1)
    have e4 := k4 _ _ (by
      intro q
      rw [List.mem_singleton.mp q] at nb
      rw [hT.2] at nb; cases nb) e3
    have e5 := gk k5 e4
    have e8 := kk8 _ _ (by
      intro q
      rw [List.mem_singleton.mp q] at e5
      rw [N5] at e5
      exact absurd (Value.type.inj (congrArg Obj.cls (Option.some.inj e5))) (by decide)) e5
    refine k9 _ _ ?_ e8
    intro q
    rcases List.mem_cons.mp q with q | q
    · rw [q, N8'] at e8
      exact absurd (Value.type.inj (congrArg Obj.cls (Option.some.inj e8))) (by decide)
    · rw [List.mem_singleton.mp q, T8.2] at e8
      exact nomatch (congrArg Obj.cls (Option.some.inj e8))
  have X9 : (KK2 w.params).In h9 := KK2.kx2 X8 k9 hnK htK
  have X11 : (KK2 w.params).In h11 := KK2.kx (KK2.k0 X9 k10) k11 fun a ha => by rw [List.mem_singleton.mp ha]; exact .inr (.inr hnK)
  have hsl := G _ _ _ L9 rfl (by decide)
  have G0 := F0.kt G
  have G1 := F1.kt G
  obtain ⟨_, _, _, _, _, _, w0, _⟩ := F0.kt G
  obtain ⟨_, _, _, _, _, _, w1, _⟩ := F1.kt G
  obtain ⟨_, _, _, _, _, _, w2, _⟩ := F2.kt G
  obtain ⟨_, _, _, _, _, _, w3, _⟩ := F3.kt G
  obtain ⟨_, _, _, _, _, _, w4, _⟩ := F4.kt G
  obtain ⟨_, _, _, _, _, _, w5, _⟩ := F5.kt G
  have wa := g11 _ _ _ hsa rfl (by decide)
  refine wpAny_bind (tcall_ok ?_)
  refine new_ok (G _ _ _ hb9 rfl (by decide)) N11' hsl (by simpa [sysModules] using hn1) w0 w1 w2 w3 w4 w5 wa rfl rfl rfl rfl rfl rfl rfl ?_
  intro aC aN aD aL h12 tk12 to1 to' td ho hd D12
  have kD := kx_mem D12
  refine tail_ok (s := ⟨h12, s.gens, s.drawn, tk12, s.os⟩) (hA.in1.in1.mono (by decide) (by decide)) (KK2.k0 X11 kD) (D12.at 1 _ _ rfl) (D12.at 2 _ _ rfl) fun h13 tk13 k13 => ?_
  refine ⟨aC, _, rfl, k13 _ _ (D12.at 1 _ _ rfl), rfl, wpAny_pure ?_⟩
  have up : ∀ b o, b ≠ nsA → b ≠ tt → h5.get? b = some o → h13.get? b = some o := fun b o n1 n2 e =>
    k13 _ _ (gk kD (k11 _ _ (by simpa using n1) (gk k10 (k9 _ _ (by simp [n1, n2]) (kk8 _ _ (by simpa using n1) e)))))
  have n23 : (23 : Addr) ≠ tt := fun q => by
    have e := gk k3 hT.2
    rw [q] at e
    have ft' : h3.get? tt = none := ft
    rw [ft'] at e; cases e
  refine k h13 tk13 aC (fun b o nb' e => ?_) ⟨.ref cc, ?_⟩ ?_
  · have e3 := gk k3 e
    refine up b o (fun q => ?_) (fun q => ?_) (gk k5 (k4 b o nb' e3))
    · rw [q] at e; rw [gk k2 e] at hnf; cases hnf
    · have ft' : h3.get? tt = none := ft
      rw [q, ft'] at e3; cases e3
  · exact up 23 _ hn23.symm n23 (gk k5 T27.2)
  · have hq0 : qualnameIn cenv (S "__init__") (S "__init__") = S "cmp_to_key.<locals>.K" ++ Str.ofString "." ++ S "__init__" := by
      unfold qualnameIn Env.kindOf; rw [y1, y7]; kernel_rfl
    have hq1 : qualnameIn cenv (S "__lt__") (S "__lt__") = S "cmp_to_key.<locals>.K" ++ Str.ofString "." ++ S "__lt__" := by
      unfold qualnameIn Env.kindOf; rw [y1, y7]; kernel_rfl
    rw [hq0] at G0
    rw [hq1] at G1
    have kE : Kx [] h11 h13 := kD.trans fun b o _ e => k13 b o e
    exact ⟨aN, aD, sl, f0, f1, f2, f3, f4, f5, sa, bT, i0, i2, i3, i4, i5, i6, i7, i8, i9, i10, i11, ho, hd, fl, t0, t2, t3, t4, t5, t6, t7, t8, t9, t10, t11, tm, _, to1, to', td, _, _, m,
      k13 _ _ (D12.at 1 _ _ rfl), k13 _ _ (D12.at 2 _ _ rfl), k13 _ _ (D12.at 0 _ _ rfl), G0.k0 kE, G1.k0 kE⟩
end Mine

end
section
open PySem PySem.W PySem.W.X PyProof.Rows
set_option Elab.async false
set_option maxRecDepth 100000
set_option maxHeartbeats 4000000
set_option linter.unusedVariables false
namespace Mine
noncomputable def fnK (P : Params) (a : Addr) : FuncData := match (KK2 P).lookup a with | some ⟨_, _, .func fd, _⟩ => fd | _ => default
theorem f28 (P : Params) : (KK2 P).lookup 28 = some ⟨.type "function", none, .func (fnK P 28), #[]⟩ := by kernel_rfl
theorem f28b (P : Params) : (fnK P 28).body = .stmts cmpBody := by kernel_rfl
theorem f28c (P : Params) : (fnK P 28).closure = [] := by kernel_rfl
theorem f28d (P : Params) : (fnK P 28).code = .ref 27 := by kernel_rfl
theorem f28q (P : Params) : (fnK P 28).qualname = S "cmp_to_key" := by kernel_rfl
theorem f28g (P : Params) : (fnK P 28).globals = 3 := by kernel_rfl
theorem f28u (P : Params) : (fnK P 28).builtins = 0 := by kernel_rfl
theorem f28n (P : Params) : (fnK P 28).scope.names = [(S "mycmp", .cell), (S "K", .local), (S "object", .globalImplicit)] := by kernel_rfl
theorem f28k (P : Params) (v : Value) : bindArgs (fnK P 28) ⟨[v], []⟩ = pure [(S "mycmp", v)] := by kernel_rfl
def defAt (st : Stmt) : DefS := match st with
  | .FunctionDef n a b _ _ _ sc _ _ p => ⟨n, a, b, sc, p⟩
  | _ => ⟨Str.empty, ⟨[], [], none, [], [], none, []⟩, [], default, default⟩
def clsDef (i : Nat) : DefS := match clsBody[i]? with
  | some st => defAt st
  | none => ⟨Str.empty, ⟨[], [], none, [], [], none, []⟩, [], default, default⟩
theorem clsBody_eq : ∃ pa1 pa2 pa3 pb1 pb2 pb3 pb4 pc1 pc2 pc3 ka kb kc m, clsBody = [.Assign [.Name (S "__module__") pa1] (.Constant (.str m) ka pa2) pa3, .Assign [.Name (S "__slots__") pb1] (.List [.Constant (.str (S "obj")) kb pb2] pb3) pb4, .FunctionDef (S "__init__") (clsDef 2).args (clsDef 2).body [] none [] (clsDef 2).scope none (S "__init__") (clsDef 2).pos, .FunctionDef (S "__lt__") (clsDef 3).args (clsDef 3).body [] none [] (clsDef 3).scope none (S "__lt__") (clsDef 3).pos, .FunctionDef (S "__gt__") (clsDef 4).args (clsDef 4).body [] none [] (clsDef 4).scope none (S "__gt__") (clsDef 4).pos, .FunctionDef (S "__eq__") (clsDef 5).args (clsDef 5).body [] none [] (clsDef 5).scope none (S "__eq__") (clsDef 5).pos, .FunctionDef (S "__le__") (clsDef 6).args (clsDef 6).body [] none [] (clsDef 6).scope none (S "__le__") (clsDef 6).pos, .FunctionDef (S "__ge__") (clsDef 7).args (clsDef 7).body [] none [] (clsDef 7).scope none (S "__ge__") (clsDef 7).pos, .Assign [.Name (S "__hash__") pc1] (.Constant .none kc pc2) pc3] :=
  ⟨_, _, _, _, _, _, _, _, _, _, _, _, _, _, rfl⟩
theorem cmpBody_eq : ∃ p1 p2 p3 statics, cmpBody = [.ClassDef (S "K") [.Name (S "object") p1] [] clsBody [] [] clsScope none (S "K") statics clsPos, .Return (some (.Name (S "K") p2)) p3] := ⟨_, _, _, _, rfl⟩
theorem dok0 (cell : Addr) (e : Env) (h : e.scope = clsScope) (hc : e.cells = [(S "mycmp", cell)]) : DefOk e ⟨S "__init__", (clsDef 2).args, (clsDef 2).body, (clsDef 2).scope, (clsDef 2).pos⟩ [] := by
  obtain ⟨sc, a, b, c, d, f, g, ii, j⟩ := e
  replace h : sc = clsScope := h
  replace hc : c = [(S "mycmp", cell)] := hc
  subst h hc
  exact ⟨by kernel_rfl, by kernel_rfl, by kernel_rfl, by kernel_rfl, by kernel_rfl, fun v => by kernel_rfl⟩
theorem dok1 (cell : Addr) (e : Env) (h : e.scope = clsScope) (hc : e.cells = [(S "mycmp", cell)]) : DefOk e ⟨S "__lt__", (clsDef 3).args, (clsDef 3).body, (clsDef 3).scope, (clsDef 3).pos⟩ [(S "mycmp", cell)] := by
  obtain ⟨sc, a, b, c, d, f, g, ii, j⟩ := e
  replace h : sc = clsScope := h
  replace hc : c = [(S "mycmp", cell)] := hc
  subst h hc
  exact ⟨by kernel_rfl, by kernel_rfl, by kernel_rfl, by kernel_rfl, by kernel_rfl, fun v => by kernel_rfl⟩
theorem dok2 (cell : Addr) (e : Env) (h : e.scope = clsScope) (hc : e.cells = [(S "mycmp", cell)]) : DefOk e ⟨S "__gt__", (clsDef 4).args, (clsDef 4).body, (clsDef 4).scope, (clsDef 4).pos⟩ [(S "mycmp", cell)] := by
  obtain ⟨sc, a, b, c, d, f, g, ii, j⟩ := e
  replace h : sc = clsScope := h
  replace hc : c = [(S "mycmp", cell)] := hc
  subst h hc
  exact ⟨by kernel_rfl, by kernel_rfl, by kernel_rfl, by kernel_rfl, by kernel_rfl, fun v => by kernel_rfl⟩
theorem dok3 (cell : Addr) (e : Env) (h : e.scope = clsScope) (hc : e.cells = [(S "mycmp", cell)]) : DefOk e ⟨S "__eq__", (clsDef 5).args, (clsDef 5).body, (clsDef 5).scope, (clsDef 5).pos⟩ [(S "mycmp", cell)] := by
  obtain ⟨sc, a, b, c, d, f, g, ii, j⟩ := e
  replace h : sc = clsScope := h
  replace hc : c = [(S "mycmp", cell)] := hc
  subst h hc
  exact ⟨by kernel_rfl, by kernel_rfl, by kernel_rfl, by kernel_rfl, by kernel_rfl, fun v => by kernel_rfl⟩
theorem dok4 (cell : Addr) (e : Env) (h : e.scope = clsScope) (hc : e.cells = [(S "mycmp", cell)]) : DefOk e ⟨S "__le__", (clsDef 6).args, (clsDef 6).body, (clsDef 6).scope, (clsDef 6).pos⟩ [(S "mycmp", cell)] := by
  obtain ⟨sc, a, b, c, d, f, g, ii, j⟩ := e
  replace h : sc = clsScope := h
  replace hc : c = [(S "mycmp", cell)] := hc
  subst h hc
  exact ⟨by kernel_rfl, by kernel_rfl, by kernel_rfl, by kernel_rfl, by kernel_rfl, fun v => by kernel_rfl⟩
theorem dok5 (cell : Addr) (e : Env) (h : e.scope = clsScope) (hc : e.cells = [(S "mycmp", cell)]) : DefOk e ⟨S "__ge__", (clsDef 7).args, (clsDef 7).body, (clsDef 7).scope, (clsDef 7).pos⟩ [(S "mycmp", cell)] := by
  obtain ⟨sc, a, b, c, d, f, g, ii, j⟩ := e
  replace h : sc = clsScope := h
  replace hc : c = [(S "mycmp", cell)] := hc
  subst h hc
  exact ⟨by kernel_rfl, by kernel_rfl, by kernel_rfl, by kernel_rfl, by kernel_rfl, fun v => by kernel_rfl⟩
theorem zz1 (x0 : Value) : codeAmong (clsDef 3).pos [rawInt (clsDef 2).pos.line, rawInt (clsDef 2).pos.col, x0] = none := by kernel_rfl
theorem zz2 (x0 x1 : Value) : codeAmong (clsDef 4).pos [rawInt (clsDef 2).pos.line, rawInt (clsDef 2).pos.col, x0, rawInt (clsDef 3).pos.line, rawInt (clsDef 3).pos.col, x1] = none := by kernel_rfl
theorem zz3 (x0 x1 x2 : Value) : codeAmong (clsDef 5).pos [rawInt (clsDef 2).pos.line, rawInt (clsDef 2).pos.col, x0, rawInt (clsDef 3).pos.line, rawInt (clsDef 3).pos.col, x1, rawInt (clsDef 4).pos.line, rawInt (clsDef 4).pos.col, x2] = none := by kernel_rfl
theorem zz4 (x0 x1 x2 x3 : Value) : codeAmong (clsDef 6).pos [rawInt (clsDef 2).pos.line, rawInt (clsDef 2).pos.col, x0, rawInt (clsDef 3).pos.line, rawInt (clsDef 3).pos.col, x1, rawInt (clsDef 4).pos.line, rawInt (clsDef 4).pos.col, x2, rawInt (clsDef 5).pos.line, rawInt (clsDef 5).pos.col, x3] = none := by kernel_rfl
theorem zz5 (x0 x1 x2 x3 x4 : Value) : codeAmong (clsDef 7).pos [rawInt (clsDef 2).pos.line, rawInt (clsDef 2).pos.col, x0, rawInt (clsDef 3).pos.line, rawInt (clsDef 3).pos.col, x1, rawInt (clsDef 4).pos.line, rawInt (clsDef 4).pos.col, x2, rawInt (clsDef 5).pos.line, rawInt (clsDef 5).pos.col, x3, rawInt (clsDef 6).pos.line, rawInt (clsDef 6).pos.col, x4] = none := by kernel_rfl
end Mine

end
section
open PySem PySem.W PySem.W.X PyProof.Rows
set_option Elab.async false
set_option maxRecDepth 100000
set_option maxHeartbeats 4000000
set_option linter.unusedVariables false
namespace Mine
theorem v1 (P : Params) (e : Env) (v : Value) (cell : Addr) (h : e.scope = (fnK P 28).scope) (hc : e.cells = [(S "mycmp", cell)]) : storeName e (S "mycmp") v = cellSet cell (some v) := by
  obtain ⟨sc, a, b, c, d, f, g, i, j⟩ := e
  replace h : sc = (fnK P 28).scope := h
  replace hc : c = [(S "mycmp", cell)] := hc
  subst h hc
  kernel_rfl
theorem v2 (P : Params) (e : Env) (v : Value) (h : e.scope = (fnK P 28).scope) : storeName e (S "K") v = nsSet e.locals (S "K") v := by
  obtain ⟨sc, a, b, c, d, f, g, i, j⟩ := e
  replace h : sc = (fnK P 28).scope := h
  subst h
  kernel_rfl
theorem v3 (P : Params) (e : Env) (h : e.scope = (fnK P 28).scope) : loadName e (S "object") = loadGlobal e (S "object") := by
  obtain ⟨sc, a, b, c, d, f, g, i, j⟩ := e
  replace h : sc = (fnK P 28).scope := h
  subst h
  kernel_rfl
theorem v4 (P : Params) (e : Env) (cell : Addr) (h : e.scope = (fnK P 28).scope) (hc : e.cells = [(S "mycmp", cell)]) : closureFor clsScope e = pure [(S "mycmp", cell)] := by
  obtain ⟨sc, a, b, c, d, f, g, i, j⟩ := e
  replace h : sc = (fnK P 28).scope := h
  replace hc : c = [(S "mycmp", cell)] := hc
  subst h hc
  kernel_rfl
theorem v5 (P : Params) (e : Env) (h : e.scope = (fnK P 28).scope) (hq : e.qual = S "cmp_to_key" ++ Str.ofString ".<locals>.") : qualnameIn e (S "K") (S "K") = S "cmp_to_key.<locals>.K" := by
  obtain ⟨sc, a, b, c, d, f, g, i, j⟩ := e
  replace h : sc = (fnK P 28).scope := h
  replace hq : d = S "cmp_to_key" ++ Str.ofString ".<locals>." := hq
  subst h hq
  kernel_rfl
theorem v6 (P : Params) (e : Env) (h : e.scope = (fnK P 28).scope) : e.kindOf (S "K") = some .local := by
  obtain ⟨sc, a, b, c, d, f, g, i, j⟩ := e
  replace h : sc = (fnK P 28).scope := h
  subst h
  kernel_rfl
theorem v7 (P : Params) : (fnK P 28).scope.kind = .function := by kernel_rfl
theorem bg_look {w : World} {h : Heap} (X : (KK2 w.params).In h) : Looks (model prg w) h (nsGet 0 (S "__build_class__")) (some (.builtin "__build_class__")) := looks_nsIn X (by kernel_rfl)
theorem ob_look {w : World} {h : Heap} (X : (KK2 w.params).In h) : Looks (model prg w) h (nsGet 0 (S "object")) (some (.type "object")) := looks_nsIn X (by kernel_rfl)
theorem og_look {w : World} {h : Heap} (X : (KK2 w.params).In h) : Looks (model prg w) h (nsGet 3 (S "object")) none := looks_nsIn X (by kernel_rfl)
theorem KCls.kx {h h' : Heap} {aC L : Addr} {oL : Obj} {a0 : Arguments} {b0 : List Stmt} {c0 : Scope} {l0 : List (Str × Addr)} {a1 : Arguments} {b1 : List Stmt} {c1 : Scope} {l1 : List (Str × Addr)} (x : KCls h aC a0 b0 c0 l0 a1 b1 c1 l1) (k : ∀ b o T, h.get? b = some o → o.cls = .type T → T ≠ "frame" → h'.get? b = some o) : KCls h' aC a0 b0 c0 l0 a1 b1 c1 l1 := by
  obtain ⟨aN, aD, sl, f0, f1, f2, f3, f4, f5, sa, bT, i0, i2, i3, i4, i5, i6, i7, i8, i9, i10, i11, ho, hd, l, t0, t2, t3, t4, t5, t6, t7, t8, t9, t10, t11, tm, tl, to1, to', td, tn, tq, m, e1, e2, e3, e4, e5⟩ := x
  refine ⟨aN, aD, sl, f0, f1, f2, f3, f4, f5, sa, bT, i0, i2, i3, i4, i5, i6, i7, i8, i9, i10, i11, ho, hd, l, t0, t2, t3, t4, t5, t6, t7, t8, t9, t10, t11, tm, tl, to1, to', td, tn, tq, m, k _ _ _ e1 rfl (by decide), k _ _ _ e2 rfl (by decide), k _ _ _ e3 rfl (by decide), ?_, ?_⟩
  · obtain ⟨ct, pm, c, oc, vs, t, g1, g2, g3, g4, g5⟩ := e4
    exact ⟨ct, pm, c, oc, vs, t, k _ _ _ g1 rfl (by decide), k _ _ _ g2 g3 (by decide), g3, g4, g5⟩
  · obtain ⟨ct, pm, c, oc, vs, t, g1, g2, g3, g4, g5⟩ := e5
    exact ⟨ct, pm, c, oc, vs, t, k _ _ _ g1 rfl (by decide), k _ _ _ g2 g3 (by decide), g3, g4, g5⟩
theorem cmp_ok {w : World} {A : Around} {Q : Value → Shared → Prop} {E : Value → Shared → Prop} {s : Shared} {v : Value} (hA : AOk A 370 700) (X : (KK2 w.params).In s.heap) (hC : s.heap.IsCode 27 23 #[]) (hT : s.heap.TableAt 27 23 #[])
   (k : ∀ h' tk aC cell, Kx [23] s.heap h' → (∃ v, h'.get? 23 = some (tableObj #[rawInt clsPos.line, rawInt clsPos.col, v])) → KCls h' aC (clsDef 2).args (clsDef 2).body (clsDef 2).scope [] (clsDef 3).args (clsDef 3).body (clsDef 3).scope [(S "mycmp", cell)] →
     h'.get? cell = some ⟨.type "cell", none, .cell (some v), #[]⟩ → Q (.ref aC) { s with heap := h', toks := tk }) :
   wpAny (model prg w) A (call (.ref 28) [v]) Q E s := by
  refine wpAny_call (codeAny_call_function (Nat.lt_of_le_of_lt hA.2 (by decide)) (X 28 _ (f28 _)) rfl (by kernel_rfl) (by kernel_rfl) (f28b _) (by rw [f28d, f28q]; exact codeRec_of X (by kernel_rfl)) ?_)
  rw [f28k w.params v]
  refine wpAny_pure ?_
  rw [f28c, f28d, f28q, f28g, f28u]
  unfold newFunctionEnv
  refine wpAny_bind (alM (Mem.start s.heap) rfl fun L h1 D1 => ?_)
  rw [f28n]
  refine wpAny_bind (forC (bTr rfl (wpAny_bind (alM D1 rfl fun cell h2 D2 => wpAny_pure (forC (bF rfl (wpAny_pure (forC (bF rfl (wpAny_pure (forN ?_)))))))))))
  refine wpAny_bind (forC (wpAny_bind ?_))
  dsimp only
  generalize hce : Env.mk _ _ _ _ _ _ _ _ _ = env
  have y1 : env.scope = (fnK w.params 28).scope := by rw [← hce]
  have y2 : env.locals = L := by rw [← hce]
  have y3 : env.globals = 3 := by rw [← hce]
  have y4 : env.builtins = 0 := by rw [← hce]
  have y5 : env.code = .ref 27 := by rw [← hce]
  have y6 : env.cells = [(S "mycmp", cell)] := by rw [← hce]
  have y7 : env.qual = S "cmp_to_key" ++ Str.ofString ".<locals>." := by rw [← hce]
  clear hce
  rw [v1 w.params env v cell y1 y6]
  unfold cellSet
  refine wpAny_bind (wpAny_load (D2.at 0 _ _ rfl) (upM0 D2 0 rfl rfl fun h3 D3 => wpAny_pure ?_))
  have k3 : Kx [] s.heap h3 := kx_mem D3
  have X3 := KK2.k0 X k3
  refine forN (wpAny_pure ⟨nolimit X3, codeAny_func ?_⟩)
  obtain ⟨p1, p2, p3, statics, hbd⟩ := cmpBody_eq
  obtain ⟨pa1, pa2, pa3, pb1, pb2, pb3, pb4, pc1, pc2, pc3, ka, kb, kc, m, hcb⟩ := clsBody_eq
  rw [hbd]
  refine wpAny_execs_cons ?_
  rw [arm_exec_ClassDef]
  refine wpAny_bind (wpAny_pure ?_)
  refine wpAny_bind (wpAny_standAt ?_)
  refine wpAny_bind ?_
  unfold buildClassGuard
  rw [y4]
  refine wpAny_bind (bg_look X3 _ _ _ _ (fun _ _ e => e) (wpAny_pure ?_))
  refine wpAny_bind (wpAny_holding ?_)
  refine wpAny_bind ?_
  unfold evalArgs
  refine wpAny_bind (spliced_more (wpAny_Name ?_ (by kernel_rfl)))
  rw [v3 w.params env y1]
  unfold loadGlobal
  rw [y3, y4]
  refine wpAny_bind (og_look X3 _ _ _ _ (fun _ _ e => e) ?_)
  refine wpAny_bind (ob_look X3 _ _ _ _ (fun _ _ e => e) (wpAny_pure (spliced_none ?_)))
  refine wpAny_bind (wpAny_pure (wpAny_holding ?_))
  refine bTr rfl ?_
  refine wpAny_bind (wpAny_pure ?_)
  refine wpAny_bind (wpAny_pure (wpAny_pure ?_))
  refine wpAny_bind (wpAny_standAt (wpAny_holding ?_))
  rw [v5 w.params env y1 y7, hcb]
  have hCl : h3.get? cell = some ⟨.type "cell", none, .cell (some v), #[]⟩ := D3.at 0 _ _ rfl
  have hL : h3.get? L = some ⟨.type "frame", none, .dict #[] 0, #[]⟩ := D3.at 1 _ _ rfl
  have nL : s.heap.get? L = none := (D3.nw (L, _) (.tail _ (.head _))).2
  have nC : s.heap.get? cell = none := (D3.nw (cell, _) (.head _)).2
  have h23 : s.heap.get? 23 = _ := hT.2
  have L23 : L ≠ 23 := fun q => by rw [q, h23] at nL; cases nL
  have C23 : cell ≠ 23 := fun q => by rw [q, h23] at nC; cases nC
  refine bc_ok (s := { s with heap := h3 }) (hA.deeper.mono (by decide) (by decide)) X3 (hC.keeps fun b o e => gk k3 e) (hT.keeps fun b o e => gk k3 e) y5 y3 y4 (v4 w.params env cell y1 y6)
    (dok0 cell) (dok1 cell) (dok2 cell) (dok3 cell) (dok4 cell) (dok5 cell) zz1 zz2 zz3 zz4 zz5 ?_
  intro h4 tk4 aC k4 t4 c4
  refine wpAny_bind (wpAny_pure ?_)
  refine wpAny_bind (wpAny_standAt ?_)
  refine wpAny_bind ?_
  unfold bindName
  refine wpAny_bind (wpAny_holding (wpAny_point ?_))
  rw [v2 w.params env _ y1, y2]
  have hL4 := k4 _ _ (by simpa using L23) hL
  refine wpAny_bind (nsSetR hL4 (by kernel_rfl) (fun _ _ => putLive) fun hh tk1 h5 k5 N5 => ?_)
  refine wpAny_point (wpAny_pure ?_)
  show wpAny _ _ (execs _ env) _ _ _
  refine wpAny_execs_cons (wpAny_Return_some (wpAny_Name ?_ (by kernel_rfl)))
  have N5' : h5.get? L = some ⟨.type "frame", none, .dict #[⟨hh, .str (S "K") tk1, .ref aC⟩] 1, #[]⟩ := N5.trans (congrArg some (by kernel_rfl))
  have ns5 : h5.Ns env.locals (nsFind #[⟨hh, .str (S "K") tk1, .ref aC⟩]) := by
    rw [y2]
    exact ⟨_, _, _, N5', rfl, by intro e he; simp at he; subst he; exact ⟨_, _, rfl⟩, fun _ => rfl⟩
  refine wpAny_loadName_local (by rw [y1]; exact v7 _) (v6 w.params env y1) ns5 (show _ = some (.ref aC) by kernel_rfl) ?_
  have kf : ∀ b o T, h4.get? b = some o → o.cls = .type T → T ≠ "frame" → h5.get? b = some o := fun b o T e c n => k5 b o (fun q => by
    rw [List.mem_singleton.mp q, hL4] at e; cases e; cases c; exact n rfl) e
  have L4 : ∀ b o, s.heap.get? b = some o → b ≠ L := fun b o e q => by rw [q, nL] at e; cases e
  refine k h5 _ aC cell (fun b o nb e => k5 b o (by simpa using L4 b o e) (k4 b o nb (gk k3 e))) ?_ (c4.kx (L := L) (oL := ⟨.type "frame", none, .dict #[] 0, #[]⟩) kf) (kf _ _ _ (k4 _ _ (by simpa using C23) hCl) rfl (by decide))
  obtain ⟨u, hu⟩ := t4
  exact ⟨u, k5 _ _ (by simpa using L23.symm) hu⟩
end Mine

end
section
open PySem PySem.W PySem.W.X PyProof.Rows
set_option Elab.async false
set_option maxRecDepth 100000
set_option maxHeartbeats 0
set_option linter.unusedVariables false
namespace Mine
def instO (aC dx p : Addr) : Obj := ⟨.ref aC, some dx, .plain, #[some (.ref p)]⟩
def PostK (s : Shared) (aC p : Addr) (v : Value) (s' : Shared) : Prop := ∃ h' tk x dx news, v = .ref x ∧ s' = ⟨h', s.gens, s.drawn, tk, s.os⟩ ∧ Mem s.heap h' [] news ∧ news[1]? = some (x, instO aC dx p) ∧ news[2]? = some (dx, ⟨.type "dict", none, .dict #[] 0, #[]⟩)
local macro_rules | `(tactic| x_close) => `(tactic| (show PostK _ _ _ _ _; refine ⟨_, _, _, ?dx, ?news, rfl, rfl, ?hm, ?h1, ?h2⟩; (case hm => assumption); (case h2 => exact rfl); (case h1 => kernel_rfl)))
theorem kmake_ok : ∀ (w : World) (s : Shared) (_ : (KK2 w.params).In s.heap) (aC aN aD sl f0 f1 f2 f3 f4 f5 sa bT : Addr) (i0 i2 i3 i4 i5 i6 i7 i8 i9 i10 i11 ho hd l : Int) (t0 t2 t3 t4 t5 t6 t7 t8 t9 t10 t11 tm tl to1 to' td tn tq : Tok) (m : Str)
   (_ : s.heap.get? aC = some ⟨.type "type", none, .cls ⟨S "K", [.type "object"], [.ref aC, .type "object"], aN, Str.ofString "cmp_to_key.<locals>.K", false, [S "obj"], [], false, none, false⟩, #[some (.ref bT), none, some (.str (S "K") tn), some (.str (S "cmp_to_key.<locals>.K") tq), some (.builtin "object.__new__"), some (.bool false)]⟩)
   (_ : s.heap.get? aN = some ⟨.type "dict", none, .dict (es1 i0 i2 i3 i4 i5 i6 i7 i8 i9 i10 i11 t0 t2 t3 t4 t5 t6 t7 t8 t9 t10 t11 tm tl m l sl f0 f1 f2 f3 f4 f5 sa [⟨ho, .str (S "obj") to', .ref aD⟩, ⟨hd, .str (S "__doc__") td, .none⟩]) 3, #[]⟩)
   (_ : s.heap.get? aD = some ⟨.type "member_descriptor", none, .fields #[.str (S "obj") to1, .ref aC, .builtin "proto.slot", .builtin "proto.slot#set", rawInt 0], #[]⟩)
   (ct pm : Value) (c : Addr) (od : Option Addr) (os : Array (Option Value)) (v0 : Value) (t : Tok) (rest : List Value)
   (_ : s.heap.get? f0 = some ⟨.type "function", none, .func { name := S "__init__", qualname := S "cmp_to_key.<locals>.K" ++ Str.ofString "." ++ S "__init__", params := (clsDef 2).args, body := .stmts (clsDef 2).body, scope := (clsDef 2).scope, globals := 3, closure := [], closureTuple := ct, code := .ref c, builtins := 0, defaults := .none, kwdefaults := .none, annotations := none, pyModule := pm, doc := .none }, #[]⟩)
   (_ : s.heap.get? c = some ⟨.type "code", od, .fields ⟨v0 :: .str (S "cmp_to_key.<locals>.K" ++ Str.ofString "." ++ S "__init__") t :: rest⟩, os⟩) (p : Addr),
   wpAny (model PySem.Challenge.rw_nb0060_01.row.prog w) A1 (call (.ref aC) [.ref p]) (PostK s aC p) (fun _ _ => False) s := by
  k_fill
  intro w s KX aC aN aD sl f0 f1 f2 f3 f4 f5 sa bT i0 i2 i3 i4 i5 i6 i7 i8 i9 i10 i11 ho hd l t0 t2 t3 t4 t5 t6 t7 t8 t9 t10 t11 tm tl to1 to' td tn tq m hC hN hD ct pm c od os v0 t rest hF hc p
  x_run
end Mine

end
section
open PySem PySem.W PySem.W.X PyProof.Rows
set_option Elab.async false
set_option maxRecDepth 100000
set_option maxHeartbeats 0
set_option linter.unusedVariables false
namespace Mine
def PostG (s : Shared) (p : Addr) (v : Value) (s' : Shared) : Prop := ∃ h' tk news, v = .ref p ∧ s' = ⟨h', s.gens, s.drawn, tk, s.os⟩ ∧ Mem s.heap h' [] news
local macro_rules | `(tactic| x_close) => `(tactic| (show PostG _ _ _ _; first | exact ⟨_, _, _, rfl, rfl, by assumption⟩ | exact ⟨_, _, _, rfl, rfl, Mem.start _⟩))
theorem ghook_ok : ∀ (w : World) (s : Shared) (_ : (KK2 w.params).In s.heap) (aC aN aD sl f0 f1 f2 f3 f4 f5 sa bT : Addr) (i0 i2 i3 i4 i5 i6 i7 i8 i9 i10 i11 ho hd l : Int) (t0 t2 t3 t4 t5 t6 t7 t8 t9 t10 t11 tm tl to1 to' td tn tq : Tok) (m : Str)
   (_ : s.heap.get? aC = some ⟨.type "type", none, .cls ⟨S "K", [.type "object"], [.ref aC, .type "object"], aN, Str.ofString "cmp_to_key.<locals>.K", false, [S "obj"], [], false, none, false⟩, #[some (.ref bT), none, some (.str (S "K") tn), some (.str (S "cmp_to_key.<locals>.K") tq), some (.builtin "object.__new__"), some (.bool false)]⟩)
   (_ : s.heap.get? aN = some ⟨.type "dict", none, .dict (es1 i0 i2 i3 i4 i5 i6 i7 i8 i9 i10 i11 t0 t2 t3 t4 t5 t6 t7 t8 t9 t10 t11 tm tl m l sl f0 f1 f2 f3 f4 f5 sa [⟨ho, .str (S "obj") to', .ref aD⟩, ⟨hd, .str (S "__doc__") td, .none⟩]) 3, #[]⟩)
   (_ : s.heap.get? aD = some ⟨.type "member_descriptor", none, .fields #[.str (S "obj") to1, .ref aC, .builtin "proto.slot", .builtin "proto.slot#set", rawInt 0], #[]⟩)
   (x dx p : Addr) (t : Tok) (_ : s.heap.get? x = some ⟨.ref aC, some dx, .plain, #[some (.ref p)]⟩) (_ : s.heap.get? dx = some ⟨.type "dict", none, .dict #[] 0, #[]⟩),
   wpAny (model PySem.Challenge.rw_nb0060_01.row.prog w) A1 (runValue (.builtin "proto.getattr_hooked" ⟨[.ref x, .str (Str.ofString "obj") t], []⟩)) (PostG s p) (fun _ _ => False) s := by
  k_fill
  intro w s KX aC aN aD sl f0 f1 f2 f3 f4 f5 sa bT i0 i2 i3 i4 i5 i6 i7 i8 i9 i10 i11 ho hd l t0 t2 t3 t4 t5 t6 t7 t8 t9 t10 t11 tm tl to1 to' td tn tq m hC hN hD x dx p t hx hdx
  x_run
end Mine

end
section
open PySem PySem.W PySem.W.X PyProof.Rows
set_option Elab.async false
set_option maxRecDepth 100000
set_option maxHeartbeats 4000000
set_option linter.unusedVariables false
namespace Mine
/-- a def of the top, by its place in the text -/
def topDef (i : Nat) : DefS := match prg.main.body[i]? with
  | some st => defAt st
  | none => ⟨Str.empty, ⟨[], [], none, [], [], none, []⟩, [], default, default⟩
abbrev tenv (i : Nat) (a : Addr) (cd : Value) (L : Addr) : Env := envOf (topDef i).name (topDef i).scope L a cd
theorem callK {w : World} {A : Around} {Q : Value → Shared → Prop} {E : Value → Shared → Prop} {s : Shared} (i : Nat) (a : Addr) (cd : Value) {pm doc : Value} {args : List Value} {binds : List (Str × Value)} (X : (KK2 w.params).In s.heap) (hd : A.depth < recursionLimit)
    (hlk : (KK2 w.params).lookup a = some ⟨.type "function", none, .func (Calls.docDef (topDef i).name (topDef i).args (topDef i).body (topDef i).scope pm cd doc), #[]⟩) (hcd : codeIn (KK2 w.params) cd (topDef i).name = true)
    (hbind : bindArgs (Calls.docDef (topDef i).name (topDef i).args (topDef i).body (topDef i).scope pm cd doc) ⟨args, []⟩ = pure binds) (hloc : ∀ x ∈ binds, (topDef i).scope.names.lookup x.1 = some .local)
    (hsc : ((topDef i).scope.isCoroutine = false ∧ (topDef i).scope.isGenerator = false ∧ (topDef i).scope.kind = .function) ∧ ∀ x ∈ (topDef i).scope.names, x.2 ≠ .cell)
    (h : ∀ L h₁ tk, s.heap.get? L = none → Fr s.heap L h₁ (fun x => binds.reverse.lookup x) → (KK2 w.params).In h₁ →
      wpAny (model prg w) (A.deeper (tenv i a cd L)) (execs (topDef i).body (tenv i a cd L)) (fun f s' => Q (match f with | .ret v => v | _ => .none) s') (fun _ _ => False) { s with heap := h₁, toks := tk }) :
    wpAny (model prg w) A (call (.ref a) args) Q E s := by
  refine wpAny_call (call_plain_ret hd (X a _ hlk) rfl (nolimit X) (codeRec_of X hcd) hbind hloc (fun h₁ F => ?_) hsc.1.1 hsc.1.2.1 hsc.1.2.2 hsc.2)
  exact h _ h₁ _ (Heap.get?_none_of_le (Nat.le_refl _)) F fun a o e => F.keep a o (X a o e)
theorem ahead_lk (P : Params) : (KK2 P).lookup 51 = some ⟨.type "function", none, .func (Calls.docDef (topDef 9).name (topDef 9).args (topDef 9).body (topDef 9).scope (fnK P 51).pyModule (fnK P 51).code (fnK P 51).doc), #[]⟩ := by kernel_rfl
theorem ahead_cd (P : Params) : codeIn (KK2 P) (fnK P 51).code (topDef 9).name = true := by kernel_rfl
theorem ahead_bd (P : Params) (u v : Value) : bindArgs (Calls.docDef (topDef 9).name (topDef 9).args (topDef 9).body (topDef 9).scope (fnK P 51).pyModule (fnK P 51).code (fnK P 51).doc) ⟨[u, v], []⟩ = pure [(S "left", u), (S "right", v)] := by kernel_rfl
theorem ahead_body : ∃ p1 p2 p3 p4 p5 p6 p7 p8 p9 p10 k1 k2 k3, (topDef 9).body = [.Return (some (.BinOp (.Constant (.int 5) k1 p1) .Mult (.BinOp (.Subscript (.Name (S "left") p2) (.Constant (.int 0) k2 p3) p4) .Sub (.Subscript (.Name (S "right") p5) (.Constant (.int 0) k3 p6) p7) p8) p9)) p10] := ⟨_, _, _, _, _, _, _, _, _, _, _, _, _, rfl⟩
theorem ahead_ok {w : World} {A : Around} {Q : Value → Shared → Prop} {E : Value → Shared → Prop} {s : Shared} {p q : Addr} {vp vq : List Value} {n m : Int} {u1 u3 : Tok} (X : (KK2 w.params).In s.heap) (hA : AOk A 400 1000)
    (hp : IsTup s.heap p vp.toArray) (hp0 : vp[0]? = some (.int n u1)) (hq : IsTup s.heap q vq.toArray) (hq0 : vq[0]? = some (.int m u3)) (b1 : 0 ≤ n) (b2 : n ≤ 1000) (b3 : 0 ≤ m) (b4 : m ≤ 1000)
    (k : ∀ h' tk t, Kx [] s.heap h' → Q (.int (5 * (n - m)) t) { s with heap := h', toks := tk }) : wpAny (model prg w) A (call (.ref 51) [.ref p, .ref q]) Q E s := by
  refine callK 9 51 _ X (Nat.lt_of_le_of_lt hA.2 (by decide)) (ahead_lk _) (ahead_cd _) (ahead_bd _ _ _) (locs (by kernel_rfl)) (by decide +kernel) fun L h1 tk nL F X1 => ?_
  obtain ⟨p1, p2, p3, p4, p5, p6, p7, p8, p9, p10, k1, k2, k3, hb⟩ := ahead_body
  rw [hb]
  refine wpAny_execs_cons (wpAny_Return_some (wpAny_BinOp (wpAny_Constant_int ?_)))
  refine wpAny_BinOp (Subscript_ (ld F rfl (wpAny_Constant_int ?_)))
  have ix : ∀ (l : List Value) (v : Value), l[0]? = some v → seqIndex? 0 l.length = some 0 := fun l v e => by
    have : 0 < l.length := by
      obtain ⟨h, _⟩ := List.getElem?_eq_some_iff.mp e
      exact h
    unfold seqIndex?
    simp [this]
  refine item_tupleT (hp.keeps F.keep) (by decide) (by decide) (ix _ _ hp0) hp0 ?_
  refine Subscript_ (ld F rfl (wpAny_Constant_int ?_))
  refine item_tupleT (hq.keeps F.keep) (by decide) (by decide) (ix _ _ hq0) hq0 ?_
  refine PyProof.Rows.sub_int ?_
  refine P.mul_int (k _ _ _ fun b o _ e => F.keep b o e) (IntMulOk.of_left (by decide +kernel))
end Mine

end
section
open PySem PySem.W PySem.W.X PyProof.Rows
set_option Elab.async false
set_option maxRecDepth 100000
set_option maxHeartbeats 4000000
set_option linter.unusedVariables false
namespace Mine
/-- the class, with its own asts -/
abbrev KAt (h : Heap) (aC cell : Addr) : Prop := KCls h aC (clsDef 2).args (clsDef 2).body (clsDef 2).scope [] (clsDef 3).args (clsDef 3).body (clsDef 3).scope [(S "mycmp", cell)]
theorem KAt.k0 {h h' : Heap} {aC cell : Addr} (x : KAt h aC cell) (k : Kx [] h h') : KAt h' aC cell := x.kx (L := 0) (oL := default) fun b o T e _ _ => gk k e
theorem w1 : classOwn (.type "object") (S "__getattribute__") = pure (some (.builtin "object.__getattribute__")) := by kernel_rfl
theorem tlC {w : World} {A : Around} {E : Value → Shared → Prop} {s : Shared} {aC aN : Addr} {slots : Array (Option Value)} {oN : Obj} {name : Str} {v : Value} {Q : Option Value → Shared → Prop} (hC : s.heap.get? aC = some (clsO aC aN slots)) (hN : s.heap.get? aN = some oN)
    (hl : nsLook name oN = pure none) (ho : classOwn (.type "object") name = pure (some v)) (k : Q (some v) s) : wpAny (model prg w) A (typeLookup (.ref aC) name) Q E s := by
  rw [typeLookup_eq]
  have cd : ∀ (A : Around) (E : Value → Shared → Prop) (Q : ClassData → Shared → Prop), Q ⟨S "K", [.type "object"], [.ref aC, .type "object"], aN, Str.ofString "cmp_to_key.<locals>.K", false, [S "obj"], [], false, none, false⟩ s → wpAny (model prg w) A (classData aC) Q E s := fun A E Q hq => by
    unfold classData
    exact wpAny_bind (wpAny_load hC (wpAny_pure hq))
  refine wpAny_bind (wpAny_bind (cd _ _ _ (wpAny_pure ?_)))
  rw [lookupAlong_cons]
  refine wpAny_bind (wpAny_bind (cd _ _ _ (wpAny_bind (wpAny_loadPart hN (eqP hl ?_)))))
  show wpAny _ _ (lookupAlong [.type "object"] name) _ _ _
  rw [lookupAlong_cons]
  exact wpAny_bind (eqP ho (wpAny_pure k))
theorem tlC1 {w : World} {A : Around} {E : Value → Shared → Prop} {s : Shared} {aC aN : Addr} {slots : Array (Option Value)} {oN : Obj} {name : Str} {v : Value} {Q : Option Value → Shared → Prop} (hC : s.heap.get? aC = some (clsO aC aN slots)) (hN : s.heap.get? aN = some oN)
    (hl : nsLook name oN = pure (some v)) (k : Q (some v) s) : wpAny (model prg w) A (typeLookup (.ref aC) name) Q E s := by
  rw [typeLookup_eq]
  have cd : ∀ (A : Around) (E : Value → Shared → Prop) (Q : ClassData → Shared → Prop), Q ⟨S "K", [.type "object"], [.ref aC, .type "object"], aN, Str.ofString "cmp_to_key.<locals>.K", false, [S "obj"], [], false, none, false⟩ s → wpAny (model prg w) A (classData aC) Q E s := fun A E Q hq => by
    unfold classData
    exact wpAny_bind (wpAny_load hC (wpAny_pure hq))
  refine wpAny_bind (wpAny_bind (cd _ _ _ (wpAny_pure ?_)))
  rw [lookupAlong_cons]
  exact wpAny_bind (wpAny_bind (cd _ _ _ (wpAny_bind (wpAny_loadPart hN (eqP hl (wpAny_pure k))))))
theorem gobj_ok {w : World} {A : Around} {E : Value → Shared → Prop} {s : Shared} {aC cell x dx p : Addr} {Q : Value → Shared → Prop} (hA : AOk A 390 900) (X : (KK2 w.params).In s.heap) (K : KAt s.heap aC cell) (hx : s.heap.get? x = some (instO aC dx p)) (hdx : s.heap.get? dx = some ⟨.type "dict", none, .dict #[] 0, #[]⟩)
    (k : ∀ h' tk, Kx [] s.heap h' → Q (.ref p) { s with heap := h', toks := tk }) : wpAny (model prg w) A (getAttr (.ref x) (S "obj") true) Q E s := by
  obtain ⟨aN, aD, sl, f0, f1, f2, f3, f4, f5, sa, bT, i0, i2, i3, i4, i5, i6, i7, i8, i9, i10, i11, ho, hd, l, t0, t2, t3, t4, t5, t6, t7, t8, t9, t10, t11, tm, tl, to1, to', td, tn, tq, m, e1, e2, e3, e4, e5⟩ := K
  unfold getAttr
  refine wpAny_bind (wpAny_mkText ?_)
  unfold getAttrBy
  refine wpAny_holding ?_
  refine wpAny_bind (wpAny_typeOf_ref hx ?_)
  refine wpAny_bind (tlC (s := { s with toks := s.toks + 1 }) e1 e2 (by kernel_rfl) w1 ?_)
  refine bTr (by kernel_rfl) ?_
  unfold getAttrEveryday
  refine wpAny_bind (wpAny_onRaise (useW (toA1 (ghook_ok w { s with toks := s.toks + 1 } X aC aN aD sl f0 f1 f2 f3 f4 f5 sa bT i0 i2 i3 i4 i5 i6 i7 i8 i9 i10 i11 ho hd l t0 t2 t3 t4 t5 t6 t7 t8 t9 t10 t11 tm tl to1 to' td tn tq m e1 e2 e3 x dx p _ hx hdx) (hA.mono (by decide) (by decide))) fun v s' hv => ?_))
  obtain ⟨h', tk, news, rfl, rfl, D⟩ := hv
  exact wpAny_pure (k h' tk (kx_mem D))
end Mine

end
section
open PySem PySem.W PySem.W.X PyProof.Rows
set_option Elab.async false
set_option maxRecDepth 100000
set_option maxHeartbeats 4000000
set_option linter.unusedVariables false
namespace Mine
theorem ltBody : ∃ p1 p2 p3 p4 p5 p6 p7 p8 p9 k1, (clsDef 3).body = [.Return (some (.Compare (.Call (.Name (S "mycmp") p1) [.Attribute (.Name (S "self") p2) (S "obj") p3, .Attribute (.Name (S "other") p4) (S "obj") p5] [] p6) [.Lt] [.Constant (.int 0) k1 p7] p8)) p9] := ⟨_, _, _, _, _, _, _, _, _, _, rfl⟩
theorem ltNames : (clsDef 3).scope.names = [(S "self", .local), (S "other", .local), (S "mycmp", .free)] := by kernel_rfl
theorem ltBind (ct pm : Value) (c : Addr) (cl : List (Str × Addr)) (u v : Value) : bindArgs { name := S "__lt__", qualname := S "cmp_to_key.<locals>.K" ++ Str.ofString "." ++ S "__lt__", params := (clsDef 3).args, body := .stmts (clsDef 3).body, scope := (clsDef 3).scope, globals := 3, closure := cl, closureTuple := ct, code := .ref c, builtins := 0, defaults := .none, kwdefaults := .none, annotations := none, pyModule := pm, doc := .none } ⟨[u, v], []⟩ = pure [(S "self", u), (S "other", v)] := by kernel_rfl
theorem ltMy (e : Env) (cell : Addr) (h : e.scope = (clsDef 3).scope) (hc : e.cells = [(S "mycmp", cell)]) : loadName e (S "mycmp") = (do
    match ← cellGet cell with
    | some v => pure v
    | none => do rule "name.free.unbound"; raiseNameError (S "mycmp") s!"cannot access free variable '{(S "mycmp").toString}' where it is not associated with a value in enclosing scope") := by
  obtain ⟨sc, a, b, c, d, f, g, i, j⟩ := e
  replace h : sc = (clsDef 3).scope := h
  replace hc : c = [(S "mycmp", cell)] := hc
  subst h hc
  kernel_rfl
theorem keylt_ok {w : World} {A : Around} {E : Value → Shared → Prop} {s : Shared} {aC cell x dx p y dy q : Addr} {vp vq : List Value} {n m : Int} {u1 u3 : Tok} {Q : Bool → Shared → Prop} (hA : AOk A 380 800) (X : (KK2 w.params).In s.heap) (K : KAt s.heap aC cell) (hcell : s.heap.get? cell = some ⟨.type "cell", none, .cell (some (.ref 51)), #[]⟩)
    (hx : s.heap.get? x = some (instO aC dx p)) (hdx : s.heap.get? dx = some ⟨.type "dict", none, .dict #[] 0, #[]⟩) (hy : s.heap.get? y = some (instO aC dy q)) (hdy : s.heap.get? dy = some ⟨.type "dict", none, .dict #[] 0, #[]⟩)
    (hp : IsTup s.heap p vp.toArray) (hp0 : vp[0]? = some (.int n u1)) (hq : IsTup s.heap q vq.toArray) (hq0 : vq[0]? = some (.int m u3)) (b1 : 0 ≤ n) (b2 : n ≤ 1000) (b3 : 0 ≤ m) (b4 : m ≤ 1000)
    (k : ∀ h' tk, Kx [] s.heap h' → Q (decide (n < m)) { s with heap := h', toks := tk }) : wpAny (model prg w) A (keyLt' oneType' (.ref x) (.ref y)) Q E s := by
  have K0 := K
  obtain ⟨aN, aD, sl, f0, f1, f2, f3, f4, f5, sa, bT, i0, i2, i3, i4, i5, i6, i7, i8, i9, i10, i11, ho, hd, l, t0, t2, t3, t4, t5, t6, t7, t8, t9, t10, t11, tm, tl, to1, to', td, tn, tq, mm, e1, e2, e3, e4, e5⟩ := K
  obtain ⟨ct, pm, c, oc, vs, t, g1, g2, g3, g4, g5⟩ := e5
  rw [keyLt'_oneType, oneLt'_eq]
  refine bTr rfl ?_
  refine wpAny_bind (wpAny_cRoomFor (Nat.lt_of_le_of_lt hA.3 (by decide)) ?_)
  refine wpAny_bind ?_
  unfold callSpecialIfBound?
  refine wpAny_holding (wpAny_bind ?_)
  unfold bindSpecialIfBound?
  refine wpAny_bind (wpAny_bind (wpAny_typeOf_ref hx (tlC1 e1 e2 (v := .ref f1) (by kernel_rfl) ?_)))
  refine wpAny_bind (wpAny_askSetting ?_)
  have bnd : ∀ (E' : Value → Shared → Prop) (Q' : Option (Value × List Value) → Shared → Prop), Q' (some (.ref f1, [.ref x])) s → wpAny (model prg w) A (do return some (← bindSpecial (.ref f1) (.ref x))) Q' E' s := fun E' Q' hq' => by
    refine wpAny_bind ?_
    unfold bindSpecial
    exact wpAny_bind (wpAny_typeOf_ref g1 (bTr rfl (wpAny_pure (wpAny_pure hq'))))
  have main : wpAny (model prg w) A (call (.ref f1) [.ref x, .ref y]) (fun v s' => ∃ h' tk, v = .bool (decide (n < m)) ∧ s' = { s with heap := h', toks := tk } ∧ Kx [] s.heap h') (fun _ _ => False) s := by
    refine wpAny_call (codeAny_call_function (Nat.lt_of_le_of_lt hA.2 (by decide)) g1 rfl (by kernel_rfl) (by kernel_rfl) rfl ⟨c, oc, vs, t, rfl, g2, g4, g5⟩ ?_)
    refine eqP (ltBind _ _ _ _ _ _) ?_
    refine wpAny_newFunctionEnv (by rw [show (FuncData.scope _).names = _ from ltNames]; decide +kernel) (locs (by kernel_rfl)) (fun h1 hns hsb => ⟨?_, ?_⟩) (by kernel_rfl)
    · exact (nolimit X).fresh _ hsb
    · have F : Fr s.heap s.heap.objs.size h1 (fun x_1 => List.lookup x_1 [(S "self", Value.ref x), (S "other", Value.ref y)].reverse) := ⟨hns, fun b o e => hsb.extBut b o (Nat.ne_of_lt (Heap.lt_size e)) (Heap.get?_push_of_some _ e), Nat.le_refl _⟩
      refine codeAny_func ?_
      obtain ⟨p1, p2, p3, p4, p5, p6, p7, p8, p9, k1, hb⟩ := ltBody
      rw [hb]
      have ka : Kx [] s.heap h1 := fun b o _ e => F.keep b o e
      refine wpAny_execs_cons (wpAny_Return_some (wpAny_Compare1 (wpAny_Call_NameR (wpAny_Name ?_))))
      rw [ltMy _ cell rfl rfl]
      refine wpAny_bind (wpAny_cellGet ⟨_, gk ka hcell, rfl⟩ (wpAny_pure ?_))
      refine callWith_meth (h₀ := s.heap) rfl (X 51 _ (ahead_lk _)) ?_ (by kernel_rfl)
      refine spliced_more (Attribute_name (wpAny_Name (wpAny_loadName_local (by kernel_rfl) (by kernel_rfl) F.ns rfl ?_))) (by kernel_rfl)
      refine gobj_ok (A := A.deeper _) (hA.deeper.mono (by decide) (by decide)) (KK2.k0 X ka) (K0.k0 ka) (gk ka hx) (gk ka hdx) fun h2 tk2 kb => ?_
      refine spliced_more (Attribute_name (wpAny_Name (wpAny_loadName_local (by kernel_rfl) (by kernel_rfl) (F.ns.keeps fun b o e => gk kb e) rfl ?_))) (by kernel_rfl)
      have kab := ka.trans kb
      refine gobj_ok (A := A.deeper _) (hA.deeper.mono (by decide) (by decide)) (KK2.k0 X kab) (K0.k0 kab) (gk kab hy) (gk kab hdy) fun h3 tk3 kc => ?_
      refine spliced_none ?_
      have kabc := kab.trans kc
      refine ⟨fun b o e => gk kabc e, ?_⟩
      refine ahead_ok (KK2.k0 X kabc) (hA.deeper.mono (by decide) (by decide)) (hp.keeps fun b o e => gk kabc e) hp0 (hq.keeps fun b o e => gk kabc e) hq0 b1 b2 b3 b4 fun h4 tk4 t4 kd => ?_
      refine wpAny_Constant_int (PyProof.Rows.lt_int ?_)
      have hdn : decide (5 * (n - m) < 0) = decide (n < m) := by
        rw [decide_eq_decide]; omega
      rw [hdn]
      exact ⟨h4, _, rfl, rfl, kabc.trans kd⟩
  have fin : wpAny (model prg w) A (do let r ← call (.ref f1) ([.ref x] ++ [.ref y]); pure (some r)) (fun a s' =>
          wpAny (model prg w) A
            (match a with
            | some Value.notImplemented => do
              let __r ← rule "list.sort.lt-declined"
              (fun __r => do
                    let __do_lift ← richCompare CmpOp.Lt (Value.ref x) (Value.ref y)
                    truthOfDropped __do_lift)
                  __r
            | none => do
              let __r ← rule "list.sort.lt-declined"
              (fun __r => do
                    let __do_lift ← richCompare CmpOp.Lt (Value.ref x) (Value.ref y)
                    truthOfDropped __do_lift)
                  __r
            | some r => truthOfDropped r)
            Q E s') E s := by
    refine wpAny_bind (useW main fun v s' hv => ?_)
    obtain ⟨h', tk, rfl, rfl, kx⟩ := hv
    refine wpAny_pure ?_
    show wpAny _ _ (truthOfDropped (.bool (decide (n < m)))) _ _ _
    cases hd : decide (n < m)
    · exact eqP (r := false) rfl (hd ▸ k h' tk kx)
    · exact eqP (r := true) rfl (hd ▸ k h' tk kx)
  by_cases hf : (model prg w).w.params.followText "special-get-raises" = true
  · rw [if_pos hf]
    exact bnd _ _ fin
  · rw [if_neg hf]
    exact wpAny_tryCatch (bnd _ _ fin)
end Mine

end
section
open PySem PySem.W PySem.W.X PyProof.Rows
set_option Elab.async false
set_option maxRecDepth 100000
set_option maxHeartbeats 4000000
set_option linter.unusedVariables false
namespace Mine
/-- a sorting tree run with known keys, its questions within N -/
noncomputable def KOk {α : Type} (key : Nat → Int) (N : Nat) : KasT α → (α → Prop) → Prop
  | .ret a, P => P a
  | .ask i j k, P => i < N ∧ j < N ∧ KOk key N (k (decide (key i < key j))) P
theorem KOk.bind {α β : Type} {key : Nat → Int} {N : Nat} {f : α → KasT β} {P : β → Prop} : ∀ {t : KasT α}, KOk key N t (fun a => KOk key N (f a) P) → KOk key N (t.bind f) P
  | .ret _, h => h
  | .ask _ _ k, h => ⟨h.1, h.2.1, KOk.bind h.2.2⟩
theorem KOk.mono {α : Type} {key : Nat → Int} {N : Nat} {P P' : α → Prop} (hp : ∀ a, P a → P' a) : ∀ {t : KasT α}, KOk key N t P → KOk key N t P'
  | .ret _, h => hp _ h
  | .ask _ _ k, h => ⟨h.1, h.2.1, KOk.mono hp h.2.2⟩
/-- the tree's questions asked of a comparison that answers by the keys and keeps I -/
theorem KOk.wp {α : Type} {key : Nat → Int} {N : Nat} {cmp : Nat → Nat → (Bool → Shared → Prop) → Shared → Prop} {I : Shared → Prop} {P : α → Prop} {Q : α → Shared → Prop}
    (hc : ∀ i j C s, i < N → j < N → I s → (∀ s', I s' → C (decide (key i < key j)) s') → cmp i j C s) (hq : ∀ a s, P a → I s → Q a s) : ∀ {t : KasT α} {s : Shared}, KOk key N t P → I s → t.kasWp cmp Q s
  | .ret _, _, h, hs => hq _ _ h hs
  | .ask i j k, s, h, hs => hc i j _ s h.1 h.2.1 hs fun s' hs' => KOk.wp hc hq h.2.2 hs'
def lx (key : Nat → Int) (a b : Nat) : Prop := key a < key b ∨ key a = key b ∧ a < b
def Up (key : Nat → Int) (p : Array Nat) (n : Nat) : Prop := ∀ i j, i < j → j < n → lx key (p.getD i 0) (p.getD j 0)
def Dn (key : Nat → Int) (p : Array Nat) (n : Nat) : Prop := ∀ i j, i < j → j < n → lx key (p.getD j 0) (p.getD i 0)
structure St (N : Nat) (p : Array Nat) (n : Nat) : Prop where
  sz : p.size = N
  perm : p.Perm (List.toArray (List.range N))
  le : n ≤ N
  low : ∀ k, k < n → p.getD k 0 < n
  high : ∀ k, n ≤ k → k < N → p.getD k 0 = k
theorem gd_congr {p q : Array Nat} {i j : Nat} (h : p[i]? = q[j]?) : p.getD i 0 = q.getD j 0 := by
  rw [Array.getD_eq_getD_getElem?, Array.getD_eq_getD_getElem?, h]
theorem gd_rev {p : Array Nat} {i j : Nat} (hj : j ≤ p.size) (k : Nat) : (kas_rev p i j).getD k 0 = if i ≤ k ∧ k < j then p.getD (i + j - 1 - k) 0 else p.getD k 0 := by
  have e := getElem?_mirror_all (i := i) hj k
  by_cases h1 : i ≤ k ∧ k < j
  · rw [if_pos h1] at e ⊢; exact gd_congr e
  · rw [if_neg h1] at e ⊢; exact gd_congr e
theorem gd_bub {p : Array Nat} {src d : Nat} (hs : src < p.size) (hd : d ≤ src) (k : Nat) : (bubble p src d).getD k 0 = if k = src - d then p.getD src 0 else if src - d < k ∧ k ≤ src then p.getD (k - 1) 0 else p.getD k 0 := by
  have e := getElem?_bubble hs d hd k
  by_cases h1 : k = src - d
  · rw [if_pos h1] at e ⊢; exact gd_congr e
  · rw [if_neg h1] at e ⊢
    by_cases h2 : src - d < k ∧ k ≤ src
    · rw [if_pos h2] at e ⊢; exact gd_congr e
    · rw [if_neg h2] at e ⊢; exact gd_congr e
section
variable {key : Nat → Int} {N : Nat} {p : Array Nat}
theorem St.lt (S : St N p n) (k : Nat) (h : k < N) : p.getD k 0 < N := by
  by_cases q : k < n
  · exact Nat.lt_of_lt_of_le (S.low k q) S.le
  · rw [S.high k (by omega) h]; exact h
theorem St.more (S : St N p n) (h : n < N) : St N p (n + 1) := ⟨S.sz, S.perm, h, fun k hk => by
  by_cases q : k < n
  · exact Nat.lt_succ_of_lt (S.low k q)
  · have : k = n := by omega
    subst this
    rw [S.high k (Nat.le_refl _) h]; omega, fun k h1 h2 => S.high k (by omega) h2⟩
theorem St.upTo (S : St N p n) {m : Nat} (h : n ≤ m) (hm : m ≤ N) : St N p m := by
  induction m with
  | zero =>
    have : n = 0 := by omega
    subst this
    exact S
  | succ m ih =>
    by_cases q : n = m + 1
    · subst q; exact S
    · exact (ih (by omega) (by omega)).more (by omega)
theorem St.rev (S : St N p n) {i j : Nat} (hj : j ≤ n) : St N (kas_rev p i j) n := by
  have hsz : j ≤ p.size := by rw [S.sz]; exact Nat.le_trans hj S.le
  refine ⟨(kas_rev_size i j).trans S.sz, (mirror_perm _ _ _ _).trans S.perm, S.le, fun k hk => ?_, fun k h1 h2 => ?_⟩
  · rw [gd_rev hsz]
    split
    · exact S.low _ (by omega)
    · exact S.low _ hk
  · rw [gd_rev hsz, if_neg (by omega)]
    exact S.high k h1 h2
theorem asc_ok : ∀ (f n : Nat), n + f = N → 1 ≤ n → St N p n → Up key p n → KOk key N (kas_asc p f n) (fun m => n ≤ m ∧ St N p m ∧ Up key p m ∧ (m < N → key (p.getD m 0) < key (p.getD (m - 1) 0)))
  | 0, n, e, h1, S, U => ⟨Nat.le_refl _, S, U, fun h => by omega⟩
  | f + 1, n, e, h1, S, U => by
    refine ⟨S.lt _ (by omega), S.lt _ (by omega), ?_⟩
    by_cases hc : key (p.getD n 0) < key (p.getD (n - 1) 0)
    · rw [decide_eq_true hc]
      exact ⟨Nat.le_refl _, S, U, fun _ => hc⟩
    · rw [decide_eq_false hc]
      show KOk key N (kas_asc p f (n + 1)) _
      refine KOk.mono (fun m hm => ⟨by omega, hm.2⟩) (asc_ok f (n + 1) (by omega) (by omega) (S.more (by omega)) fun i j hij hj => ?_)
      by_cases q : j < n
      · exact U i j hij q
      · have : j = n := by omega
        subst this
        have g1 : p.getD j 0 = j := S.high j (Nat.le_refl _) (by omega)
        have g2 : p.getD i 0 < j := S.low i hij
        have g3 : key (p.getD i 0) ≤ key (p.getD (j - 1) 0) := by
          by_cases q2 : i = j - 1
          · rw [q2]; exact Int.le_refl _
          · rcases U i (j - 1) (by omega) (by omega) with z | z
            · omega
            · omega
        unfold lx
        rw [g1] at hc ⊢
        omega
/-- the descending run: block [a, n) of equal keys, untouched -/
structure Bl (key : Nat → Int) (N : Nat) (p : Array Nat) (a n q : Nat) : Prop where
  st : St N p a
  le : n ≤ N
  eq : a + q + 1 = n
  dn : Dn key p a
  gt : ∀ i, i < a → key (p.getD (n - 1) 0) < key (p.getD i 0)
  same : ∀ k, a ≤ k → k < n → key (p.getD k 0) = key (p.getD (n - 1) 0)
theorem Bl.turn (B : Bl key N p a n q) : St N (kas_rev p a n) n ∧ Dn key (kas_rev p a n) n ∧ key ((kas_rev p a n).getD (n - 1) 0) = key (p.getD (n - 1) 0) := by
  have hle := B.le
  have heq := B.eq
  have S := B.st.upTo (m := n) (by omega) hle
  have hsz : n ≤ p.size := by rw [S.sz]; exact hle
  refine ⟨S.rev (Nat.le_refl _), fun i j hij hj => ?_, ?_⟩
  · rw [gd_rev hsz, gd_rev hsz]
    by_cases h1 : a ≤ i
    · rw [if_pos (by omega), if_pos (by omega)]
      have e1 := B.same (a + n - 1 - j) (by omega) (by omega)
      have e2 := B.same (a + n - 1 - i) (by omega) (by omega)
      have g1 := B.st.high (a + n - 1 - j) (by omega) (by omega)
      have g2 := B.st.high (a + n - 1 - i) (by omega) (by omega)
      right
      refine ⟨e1.trans e2.symm, ?_⟩
      rw [g1, g2]; omega
    · by_cases h2 : a ≤ j
      · rw [if_pos (by omega), if_neg (by omega)]
        left
        rw [B.same (a + n - 1 - j) (by omega) (by omega)]
        exact B.gt i (by omega)
      · rw [if_neg (by omega), if_neg (by omega)]
        exact B.dn i j hij (by omega)
  · rw [gd_rev hsz, if_pos (by omega)]
    exact B.same _ (by omega) (by omega)
theorem rev_one (p : Array Nat) (n : Nat) (h : 1 ≤ n) : kas_rev p (n - 1) n = p := by
  have e : (n - (n - 1)) / 2 = 0 := by
    have : n - (n - 1) = 1 := by omega
    rw [this]
  unfold kas_rev
  rw [e]
  rfl
theorem Bl.next (B : Bl key N p a n q) (h : n < N) (hc : key (p.getD n 0) < key (p.getD (n - 1) 0)) : Bl key N (kas_rev p a n) n (n + 1) 0 := by
  obtain ⟨S, D, e⟩ := B.turn
  have heq := B.eq
  have hsz : n ≤ p.size := by rw [B.st.sz]; exact B.le
  have g : (kas_rev p a n).getD n 0 = p.getD n 0 := by rw [gd_rev hsz, if_neg (by omega)]
  refine ⟨S, h, by omega, D, fun i hi => ?_, fun k h1 h2 => ?_⟩
  · show key ((kas_rev p a n).getD n 0) < _
    rw [g]
    have : key ((kas_rev p a n).getD (n - 1) 0) ≤ key ((kas_rev p a n).getD i 0) := by
      by_cases z : i = n - 1
      · rw [z]; exact Int.le_refl _
      · rcases D i (n - 1) (by omega) (by omega) with y | y <;> omega
    omega
  · have : k = n := by omega
    subst this
    rfl
theorem desc_ok : ∀ (f : Nat) (p : Array Nat) (a n q : Nat), n + f = N → Bl key N p a n q → KOk key N (kas_desc f p n q) (fun r => ∃ a', Bl key N r.1 a' r.2.1 r.2.2 ∧ n ≤ r.2.1)
  | 0, p, a, n, q, e, B => ⟨a, B, Nat.le_refl _⟩
  | f + 1, p, a, n, q, e, B => by
    have heq := B.eq
    have S := B.st
    refine ⟨S.lt _ (by omega), S.lt _ (by omega), ?_⟩
    by_cases hc : key (p.getD n 0) < key (p.getD (n - 1) 0)
    · rw [decide_eq_true hc]
      show KOk key N (if q > 0 then kas_desc f (kas_rev p (n - (q + 1)) n) (n + 1) 0 else kas_desc f p (n + 1) 0) _
      have Bn := B.next (by omega) hc
      have ea : n - (q + 1) = a := by omega
      split
      · rw [ea]
        exact KOk.mono (fun r ⟨a', b, c⟩ => ⟨a', b, by omega⟩) (desc_ok f _ n (n + 1) 0 (by omega) Bn)
      · have eq0 : a = n - 1 := by omega
        rw [eq0, rev_one p n (by omega)] at Bn
        exact KOk.mono (fun r ⟨a', b, c⟩ => ⟨a', b, by omega⟩) (desc_ok f _ n (n + 1) 0 (by omega) Bn)
    · rw [decide_eq_false hc]
      refine (⟨S.lt _ (by omega), S.lt _ (by omega), ?_⟩ : KOk key N (KasT.ask (p.getD (n - 1) 0) (p.getD n 0) fun d => if d = true then KasT.ret (p, n, q) else kas_desc f p (n + 1) (q + 1)) _)
      by_cases hd : key (p.getD (n - 1) 0) < key (p.getD n 0)
      · rw [decide_eq_true hd]
        exact ⟨a, B, Nat.le_refl _⟩
      · rw [decide_eq_false hd]
        show KOk key N (kas_desc f p (n + 1) (q + 1)) _
        have ek : key (p.getD n 0) = key (p.getD (n - 1) 0) := by omega
        refine KOk.mono (fun r ⟨a', b, c⟩ => ⟨a', b, by omega⟩) (desc_ok f _ a (n + 1) (q + 1) (by omega) ⟨S, by omega, by omega, B.dn, fun i hi => ?_, fun k h1 h2 => ?_⟩)
        · show key (p.getD n 0) < _
          rw [ek]; exact B.gt i hi
        · show _ = key (p.getD n 0)
          rw [ek]
          by_cases z : k = n
          · rw [z]; exact ek
          · exact B.same k h1 (by omega)
def Half (key : Nat → Int) (N : Nat) (r : Nat × Array Nat) : Prop := 1 ≤ r.1 ∧ St N r.2 r.1 ∧ Up key r.2 r.1
theorem tail3_ok {n : Nat} (S : St N p n) (D : Dn key p n) (h1 : 1 ≤ n) : KOk key N (kas_tail3 n N p) (Half key N) := by
  have hsz : n ≤ p.size := by rw [S.sz]; exact S.le
  refine KOk.bind (KOk.mono (fun m hm => ?_) (asc_ok (p := kas_rev p 0 n) (N - n) n (by have := S.le; omega) h1 (S.rev (Nat.le_refl _)) fun i j hij hj => ?_))
  · exact ⟨Nat.le_trans h1 hm.1, hm.2.1, hm.2.2.1⟩
  · rw [gd_rev hsz, gd_rev hsz, if_pos (by omega), if_pos (by omega)]
    exact D _ _ (by omega) (by omega)
theorem descPart_ok {n : Nat} (S : St N p n) (D : Dn key p n) (h1 : 1 ≤ n) (hn : n < N) (hc : key (p.getD n 0) < key (p.getD (n - 1) 0)) : KOk key N (kas_descPart n N p) (Half key N) := by
  have B : Bl key N p n (n + 1) 0 := ⟨S, hn, by omega, D, fun i hi => by
    show key (p.getD n 0) < _
    have : key (p.getD (n - 1) 0) ≤ key (p.getD i 0) := by
      by_cases z : i = n - 1
      · rw [z]; exact Int.le_refl _
      · rcases D i (n - 1) (by omega) (by omega) with y | y <;> omega
    omega, fun k h1 h2 => by
      have : k = n := by omega
      subst this
      rfl⟩
  refine KOk.bind (KOk.mono (fun r hr => ?_) (desc_ok (N - (n + 1)) p n (n + 1) 0 (by omega) B))
  obtain ⟨a', B', hl⟩ := hr
  obtain ⟨S', D', _⟩ := B'.turn
  have heq := B'.eq
  have ea : r.2.1 - (r.2.2 + 1) = a' := by omega
  split
  · rw [ea]; exact tail3_ok S' D' (by omega)
  · have eq0 : a' = r.2.1 - 1 := by omega
    rw [eq0, rev_one _ _ (by omega)] at S' D'
    exact tail3_ok S' D' (by omega)
theorem count_ok (S : St N p 1) (hN : 1 ≤ N) : KOk key N (kas_count N p) (Half key N) := by
  refine KOk.bind (KOk.mono (fun m hm => ?_) (asc_ok (p := p) (N - 1) 1 (by omega) (Nat.le_refl _) S fun i j hij hj => by omega))
  obtain ⟨h1, Sm, U, hs⟩ := hm
  have hle := Sm.le
  have hsz : m ≤ p.size := by rw [Sm.sz]; exact hle
  split
  · exact ⟨h1, Sm, U⟩
  · rename_i hne
    have hlt : m < N := by
      have : m ≠ N := fun e => hne (by simp [e])
      omega
    split
    · refine ⟨Sm.lt _ (by omega), Sm.lt _ (by omega), ?_⟩
      by_cases hc : key (p.getD 0 0) < key (p.getD (m - 1) 0)
      · rw [decide_eq_true hc]
        exact ⟨h1, Sm, U⟩
      · rw [decide_eq_false hc]
        show KOk key N (kas_descPart m N (kas_rev p 0 m)) _
        have same : ∀ i, i < m → key (p.getD i 0) = key (p.getD 0 0) := fun i hi => by
          have y1 : key (p.getD 0 0) ≤ key (p.getD i 0) := by
            by_cases z : i = 0
            · rw [z]; exact Int.le_refl _
            · rcases U 0 i (by omega) hi with y | y <;> omega
          have y2 : key (p.getD i 0) ≤ key (p.getD (m - 1) 0) := by
            by_cases z : i = m - 1
            · rw [z]; exact Int.le_refl _
            · rcases U i (m - 1) (by omega) (by omega) with y | y <;> omega
          omega
        refine descPart_ok (Sm.rev (Nat.le_refl _)) (fun i j hij hj => ?_) h1 hlt ?_
        · rw [gd_rev hsz, gd_rev hsz, if_pos (by omega), if_pos (by omega)]
          exact U _ _ (by omega) (by omega)
        · have e1 : (kas_rev p 0 m).getD m 0 = p.getD m 0 := by rw [gd_rev hsz, if_neg (by omega)]
          have e2 : (kas_rev p 0 m).getD (m - 1) 0 = p.getD (0 + m - 1 - (m - 1)) 0 := by rw [gd_rev hsz, if_pos (by omega)]
          rw [e1, e2, same (0 + m - 1 - (m - 1)) (by omega), ← same (m - 1) (by omega)]
          exact hs hlt
    · have : m = 1 := by omega
      subst this
      exact descPart_ok Sm (fun i j hij hj => by omega) h1 hlt (hs hlt)
theorem place_ok {k : Nat} (S : St N p k) (U : Up key p k) (hk : k < N) : ∀ (f l r : Nat), l ≤ r → r ≤ k → r - l ≤ f → (∀ i, i < l → key (p.getD i 0) ≤ key (p.getD k 0)) → (∀ i, r ≤ i → i < k → key (p.getD k 0) < key (p.getD i 0)) →
    KOk key N (kas_place p k f l r) (fun l' => l' ≤ k ∧ (∀ i, i < l' → key (p.getD i 0) ≤ key (p.getD k 0)) ∧ (∀ i, l' ≤ i → i < k → key (p.getD k 0) < key (p.getD i 0)))
  | 0, l, r, hlr, hr, hf, h1, h2 => by
    have : l = r := by omega
    subst this
    exact ⟨hr, h1, h2⟩
  | f + 1, l, r, hlr, hr, hf, h1, h2 => by
    unfold kas_place
    split
    · have : l = r := by omega
      subst this
      exact ⟨hr, h1, h2⟩
    · rename_i hlt
      have mono : ∀ i j, i ≤ j → j < k → key (p.getD i 0) ≤ key (p.getD j 0) := fun i j hij hj => by
        by_cases z : i = j
        · rw [z]; exact Int.le_refl _
        · rcases U i j (by omega) hj with y | y <;> omega
      refine ⟨S.lt _ hk, S.lt _ (by omega), ?_⟩
      by_cases hc : key (p.getD k 0) < key (p.getD ((l + r) / 2) 0)
      · rw [decide_eq_true hc]
        refine place_ok S U hk f l ((l + r) / 2) (by omega) (by omega) (by omega) h1 fun i a b => ?_
        have := mono ((l + r) / 2) i a b
        omega
      · rw [decide_eq_false hc]
        refine place_ok S U hk f ((l + r) / 2 + 1) r (by omega) hr (by omega) (fun i a => ?_) h2
        have := mono i ((l + r) / 2) (by omega) (by omega)
        omega
theorem bin_ok : ∀ (f : Nat) (p : Array Nat) (k : Nat), k + f = N → St N p k → Up key p k → KOk key N (kas_bin f p k) (fun r => St N r N ∧ Up key r N)
  | 0, p, k, e, S, U => by
    have : k = N := by omega
    subst this
    exact ⟨S, U⟩
  | f + 1, p, k, e, S, U => by
    refine KOk.bind (KOk.mono (fun l hl => ?_) (place_ok S U (by omega) k 0 k (Nat.zero_le _) (Nat.le_refl _) (by omega) (fun i h => by omega) fun i h1 h2 => by omega))
    obtain ⟨h1, h2, h3⟩ := hl
    have hsz : k < p.size := by rw [S.sz]; omega
    have gk' : p.getD k 0 = k := S.high k (Nat.le_refl _) (by omega)
    have eb : ∀ i, (bubble p k (k - l)).getD i 0 = if i = l then k else if l < i ∧ i ≤ k then p.getD (i - 1) 0 else p.getD i 0 := fun i => by
      rw [gd_bub hsz (by omega), gk']
      have : k - (k - l) = l := by omega
      rw [this]
    refine bin_ok f _ (k + 1) (by omega) ⟨(bubble_size _ _ _).trans S.sz, (bubble_perm _ _ _).trans S.perm, by omega, fun i hi => ?_, fun i a b => ?_⟩ fun i j hij hj => ?_
    · rw [eb]
      split
      · omega
      · split
        · exact Nat.lt_succ_of_lt (S.low _ (by omega))
        · exact Nat.lt_succ_of_lt (S.low _ (by omega))
    · rw [eb, if_neg (by omega), if_neg (by omega)]
      exact S.high i (by omega) b
    · rw [eb, eb]
      rw [gk'] at h2 h3
      by_cases c1 : i = l
      · rw [if_pos c1, if_neg (by omega), if_pos (by omega)]
        left
        exact h3 (j - 1) (by omega) (by omega)
      · rw [if_neg c1]
        by_cases c2 : j = l
        · rw [if_pos c2, if_neg (by omega)]
          have a1 := h2 i (by omega)
          have a2 := S.low i (by omega)
          unfold lx
          omega
        · rw [if_neg c2]
          split <;> split
          · exact U _ _ (by omega) (by omega)
          · omega
          · exact U _ _ (by omega) (by omega)
          · exact U _ _ (by omega) (by omega)
/-- the sort answers the stable order -/
theorem sort_ok (hN : 1 ≤ N) : KOk key N (kas_sort N) (fun r => r.Perm (List.toArray (List.range N)) ∧ Up key r N) := by
  have S : St N (List.toArray (List.range N)) 1 := by
    have g : ∀ k, k < N → (List.toArray (List.range N)).getD k 0 = k := fun k hk => by
      simp [Array.getD, hk]
    refine ⟨by simp, Array.Perm.refl _, hN, fun k hk => ?_, fun k a b => g k b⟩
    rw [g k (by omega)]; exact hk
  refine KOk.bind (KOk.mono (fun r hr => ?_) (count_ok S hN))
  obtain ⟨h1, S', U⟩ := hr
  split
  · have e : max r.1 1 = r.1 := by omega
    rw [e]
    exact KOk.mono (fun q hq => ⟨hq.1.perm, hq.2⟩) (bin_ok (N - r.1) r.2 r.1 (by omega) S' U)
  · have : r.1 = N := by have := S'.le; omega
    rw [this] at U
    exact ⟨S'.perm, U⟩
end
end Mine

end
section
open PySem PySem.W PySem.W.X PyProof.Rows
set_option Elab.async false
set_option maxRecDepth 100000
set_option maxHeartbeats 4000000
set_option linter.unusedVariables false
namespace Mine
theorem kmk_ok {w : World} {A : Around} {E : Value → Shared → Prop} {s : Shared} {aC cell p : Addr} {Q : Value → Shared → Prop} (hA : AOk A 400 1000) (X : (KK2 w.params).In s.heap) (K : KAt s.heap aC cell)
    (k : ∀ h' tk x dx, Kx [] s.heap h' → h'.get? x = some (instO aC dx p) → h'.get? dx = some ⟨.type "dict", none, .dict #[] 0, #[]⟩ → Q (.ref x) { s with heap := h', toks := tk }) : wpAny (model prg w) A (call (.ref aC) [.ref p]) Q E s := by
  obtain ⟨aN, aD, sl, f0, f1, f2, f3, f4, f5, sa, bT, i0, i2, i3, i4, i5, i6, i7, i8, i9, i10, i11, ho, hd, l, t0, t2, t3, t4, t5, t6, t7, t8, t9, t10, t11, tm, tl, to1, to', td, tn, tq, mm, e1, e2, e3, e4, e5⟩ := K
  obtain ⟨ct, pm, c, oc, vs, t, g1, g2, g3, g4, g5⟩ := e4
  obtain ⟨cls, od, dat, os⟩ := oc
  have g3' : cls = .type "code" := g3
  have g4' : dat = .fields vs := g4
  subst g3' g4'
  obtain ⟨ls⟩ := vs
  obtain ⟨v0, rest, rfl⟩ : ∃ v0 rest, ls = v0 :: .str (S "cmp_to_key.<locals>.K" ++ Str.ofString "." ++ S "__init__") t :: rest := by
    match ls, g5 with
    | v0 :: v1 :: rest, g5 =>
      have : v1 = .str (S "cmp_to_key.<locals>.K" ++ Str.ofString "." ++ S "__init__") t := by simpa using g5
      exact ⟨v0, rest, by rw [this]⟩
    | [_], g5 => simp at g5
    | [], g5 => simp at g5
  refine useW (toA1 (kmake_ok w s X aC aN aD sl f0 f1 f2 f3 f4 f5 sa bT i0 i2 i3 i4 i5 i6 i7 i8 i9 i10 i11 ho hd l t0 t2 t3 t4 t5 t6 t7 t8 t9 t10 t11 tm tl to1 to' td tn tq mm e1 e2 e3 ct pm c od os v0 t rest g1 g2 p) hA) fun v s' hv => ?_
  obtain ⟨h', tk, x, dx, news, rfl, rfl, D, n1, n2⟩ := hv
  exact k h' tk x dx (kx_mem D) (D.nw _ (List.mem_of_getElem? n1)).1 (D.nw _ (List.mem_of_getElem? n2)).1
/-- what a key stands for: an object of class K over the tuple p -/
def InstAt' (h : Heap) (aC p : Addr) (v : Value) : Prop := ∃ x dx, v = .ref x ∧ h.get? x = some (instO aC dx p) ∧ h.get? dx = some ⟨.type "dict", none, .dict #[] 0, #[]⟩
theorem InstAt'.k0 {h h' : Heap} {aC p : Addr} {v : Value} (i : InstAt' h aC p v) (k : Kx [] h h') : InstAt' h' aC p v := by
  obtain ⟨x, dx, rfl, a, b⟩ := i
  exact ⟨x, dx, rfl, gk k a, gk k b⟩
theorem InstAt'.upd {h : Heap} {aC p l : Addr} {v : Value} {xs : Array Value} {n : Nat} {f : Obj → Obj} (i : InstAt' h aC p v) (hl : h.get? l = some (seqObj "list" xs n)) : InstAt' (h.update l f) aC p v := by
  obtain ⟨x, dx, rfl, a, b⟩ := i
  refine ⟨x, dx, rfl, ?_, ?_⟩
  · rw [Heap.get?_update_ne _ _ _ _ (fun e => ?_)]
    · exact a
    · rw [e, hl] at a; simp [seqObj, instO] at a
  · rw [Heap.get?_update_ne _ _ _ _ (fun e => ?_)]
    · exact b
    · rw [e, hl] at b; simp [seqObj] at b
theorem Kx.upd {h h' : Heap} {l : Addr} {f : Obj → Obj} (k : Kx [] h h') (hl : h.get? l = none) : Kx [] h (h'.update l f) := fun b o hb e => by
  rw [Heap.get?_update_ne _ _ _ _ (fun q => by rw [q, hl] at e; cases e)]
  exact k b o hb e
theorem Kx.push {h h' : Heap} {o : Obj} (k : Kx [] h h') : Kx [] h (h'.push o) := fun b o hb e => Heap.get?_push_of_some _ (k b o hb e)
/-- the base facts a sort keeps -/
structure SB (w : World) (aC cell : Addr) (h : Heap) : Prop where
  X : (KK2 w.params).In h
  K : KAt h aC cell
  C : h.get? cell = some ⟨.type "cell", none, .cell (some (.ref 51)), #[]⟩
theorem SB.k0 {w : World} {aC cell : Addr} {h h' : Heap} (b : SB w aC cell h) (k : Kx [] h h') : SB w aC cell h' := ⟨KK2.k0 b.X k, b.K.k0 k, gk k b.C⟩
/-- a part: a tuple whose first item is the number n -/
def Num (h : Heap) (p : Addr) (n : Int) : Prop := ∃ (vp : List Value) (t : Tok), IsTup h p vp.toArray ∧ vp[0]? = some (.int n t) ∧ 0 ≤ n ∧ n ≤ 1000
theorem Num.k0 {h h' : Heap} {p : Addr} {n : Int} (i : Num h p n) (k : Kx [] h h') : Num h' p n := by
  obtain ⟨vp, t, a, b⟩ := i
  exact ⟨vp, t, a.keeps fun b o e => gk k e, b⟩
section
variable {w : World} {A : Around} {E : Value → Shared → Prop} {s : Shared} {aC cell a kS : Addr} {ps : List Addr} {key : Nat → Int} {e1 : Nat} {h₀ : Heap}
theorem sk_end {keys : Array Value} {e : Nat} {P : PySem.Fin → Shared → Prop} (hA : AOk A 380 800) (B : SB w aC cell s.heap) (k0 : Kx [] h₀ s.heap) (hk0 : h₀.get? kS = none) (ha0 : h₀.get? a = none) (hka : kS ≠ a)
    (hk : s.heap.get? kS = some (seqObj "list" keys e)) (ha : s.heap.get? a = some (seqObj "list" #[] e1)) (hn : ∀ (i : Nat) (p : Addr), ps[i]? = some p → Num s.heap p (key i)) (hi : ∀ (i : Nat) (p : Addr), ps[i]? = some p → ∃ v, keys[i]? = some v ∧ InstAt' s.heap aC p v) (hsz : keys.size = ps.length)
    (h2 : 2 ≤ ps.length) (h64 : ps.length < 64)
    (h : ∀ h' tk (q : Array Nat) c, Kx [] h₀ h' → q.Perm (List.toArray (List.range ps.length)) → Up key q ps.length → h'.get? a = some (seqObj "list" (List.toArray (q.toList.map fun i => Value.ref (ps.getD i 0))) c) → P (.done (.ret .none)) { s with heap := h', toks := tk }) :
    wpAny (model prg w) A (ksk_end a false (List.toArray (ps.map Value.ref)) e1 (.ref kS) keys) P E s := by
  unfold ksk_end
  dsimp only
  have hs2 : ¬ (List.toArray (ps.map Value.ref)).size < 2 := by rw [List.size_toArray, List.length_map]; omega
  rw [if_neg (by simp), if_neg hs2, if_neg hs2]
  have look : ∀ v ∈ keys.toList, Looks (model prg w) s.heap (typeOf v) (.ref aC) := fun v hv => by
    obtain ⟨i, hlt, rfl⟩ := List.getElem_of_mem hv
    have hlt' : i < ps.length := by rw [← hsz]; simpa using hlt
    obtain ⟨v, hv, x, dx, rfl, g1, g2⟩ := hi i ps[i] (List.getElem?_eq_getElem hlt')
    have : keys.toList[i] = .ref x := by
      have e : keys.toList[i]? = some (.ref x) := by simpa using hv
      exact (List.getElem?_eq_some_iff.mp e).2
    rw [this]
    exact fun A Q E s' e hq => wpAny_typeOf_ref (e _ _ g1) hq
  have kd := kas_kind (M := model prg w) (A := A) (E := E) (s := s) (vs := keys.toList) (T := .ref aC) (Q := fun k s' => k = oneType' ∧ s' = s) (by rw [Array.length_toList, hsz]; exact h2) look rfl (by simp) ⟨rfl, rfl⟩
  rw [Array.toArray_toList] at kd
  refine wpAny_bind (wpAny_mono kd (fun kind s' hh => ?_) fun _ _ x => x)
  obtain ⟨rfl, rfl⟩ := hh
  have hzs : (keys.zip (List.toArray (ps.map Value.ref))).size = ps.length := by rw [Array.size_zip, hsz, List.size_toArray, List.length_map, Nat.min_self]
  have est : SortSt.mk' oneType' (keys.zip (List.toArray (ps.map Value.ref))) #[] 7 none = kas_st oneType' (keys.zip (List.toArray (ps.map Value.ref))) (List.toArray (List.range ps.length)) := by
    have e := kas_range (keys.zip (List.toArray (ps.map Value.ref)))
    rw [hzs] at e
    show SortSt.mk' oneType' _ #[] 7 none = SortSt.mk' oneType' ((List.toArray (List.range ps.length)).map (kas_item _)) #[] 7 none
    rw [e]
  have item : ∀ (i : Nat) (p : Addr), ps[i]? = some p → ∃ v, kas_item (keys.zip (List.toArray (ps.map Value.ref))) i = (v, .ref p) ∧ InstAt' s'.heap aC p v := fun i p hp => by
    obtain ⟨v, hv, hI⟩ := hi i p hp
    refine ⟨v, ?_, hI⟩
    unfold kas_item
    rw [Array.getD_eq_getD_getElem?]
    have : (keys.zip (List.toArray (ps.map Value.ref)))[i]? = some (v, .ref p) := by
      simp [Array.getElem?_zip_eq_some, hv, hp]
    rw [this]
    rfl
  have run := kas_runs (prog := prg) (w := w) (A := A) (κ := oneType') (it := keys.zip (List.toArray (ps.map Value.ref))) (E := E) (n := ps.length) (s := s')
    (Q := fun _ st' s'' => ∃ q : Array Nat, arrOf st' = q.map (kas_item (keys.zip (List.toArray (ps.map Value.ref)))) ∧ failedOf st' = none ∧ (q.Perm (List.toArray (List.range ps.length)) ∧ Up key q ps.length) ∧ ∃ h' tk, s'' = { s' with heap := h', toks := tk } ∧ Kx [] s'.heap h')
    h2 h64 (fun q st' s'' a1 a2 a3 a4 => ⟨q, a2, a3, a4⟩) (KOk.wp (key := key) (N := ps.length) (I := fun s'' => ∃ h' tk, s'' = { s' with heap := h', toks := tk } ∧ Kx [] s'.heap h') (P := fun q => q.Perm (List.toArray (List.range ps.length)) ∧ Up key q ps.length) ?ask (fun q s'' p1 p2 => ⟨p1, p2⟩) (sort_ok (by omega)) ⟨_, _, rfl, Kx.refl⟩)
  case ask =>
    intro i j C s'' hi' hj' hs hC
    obtain ⟨h', tk, rfl, kx⟩ := hs
    obtain ⟨v, ev, x, dx, rfl, g1, g2⟩ := item i ps[i] (List.getElem?_eq_getElem hi')
    obtain ⟨u, eu, y, dy, rfl, g3, g4⟩ := item j ps[j] (List.getElem?_eq_getElem hj')
    obtain ⟨vp, t1, n1, n2, n3, n4⟩ := hn i ps[i] (List.getElem?_eq_getElem hi')
    obtain ⟨vq, t2, m1, m2, m3, m4⟩ := hn j ps[j] (List.getElem?_eq_getElem hj')
    unfold kas_cmp
    rw [ev, eu]
    have B' := B.k0 kx
    refine keylt_ok (s := { s' with heap := h', toks := tk }) hA B'.X B'.K B'.C (gk kx g1) (gk kx g2) (gk kx g3) (gk kx g4) (n1.keeps fun b o e => gk kx e) n2 (m1.keeps fun b o e => gk kx e) m2 n3 n4 m3 m4 fun h3 tk3 kx3 => ?_
    exact hC _ ⟨h3, tk3, rfl, kx.trans kx3⟩
  rw [← est] at run
  refine wpAny_bind (wpAny_mono run ?_ fun _ _ e => e)
  rintro ⟨⟨⟩, st'⟩ s'' ⟨q, har, hf, ⟨hp, hu⟩, h', tk, rfl, kx⟩
  dsimp only
  have nk := gk kx hk
  have na := gk kx ha
  have hout : (arrOf st').map (·.2) = List.toArray (q.toList.map fun i => Value.ref (ps.getD i 0)) := by
    apply Array.toList_inj.mp
    rw [har, Array.map_map, Array.toList_map]
    refine List.map_congr_left fun i hi' => ?_
    have hlt : i < ps.length := by
      have := hp.mem_iff.mp (Array.mem_toList_iff.mp hi')
      simpa using this
    obtain ⟨v, ev, _⟩ := item i ps[i] (List.getElem?_eq_getElem hlt)
    show (kas_item _ i).2 = _
    rw [ev]
    simp [hlt]
  have hlen : (List.toArray (q.toList.map fun i => Value.ref (ps.getD i 0))).size = ps.length := by
    rw [List.size_toArray, List.length_map, Array.length_toList, hp.size_eq]; simp
  unfold ksk_tail
  dsimp only
  rw [hout]
  refine wpAny_bind (listUpdate_at nk rfl ?_ (by rw [hsz, sizeLine_eq]; omega) (Nat.zero_le _))
  have na1 : (h'.update kS (Obj.mapSeq fun _ => (#[] : Array Value))).get? a = some (seqObj "list" #[] e1) := by
    rw [Heap.get?_update_ne _ _ _ _ hka.symm]; exact na
  refine wpAny_bind (wpAny_letGo ?_)
  refine wpAny_bind (seqEpoch_at na1 rfl ?_)
  refine wpAny_bind (listUpdate_at na1 rfl ?_ (Nat.zero_le _) ?_)
  · rw [hf]
    simp only [bne_self_eq_false, Bool.false_eq_true, if_false]
    exact wpAny_pure (h _ _ q _ (((k0.trans kx).upd hk0).upd ha0) hp hu (get?_update_seq na1 fun _ => List.toArray (q.toList.map fun i => Value.ref (ps.getD i 0))))
  · simp only [Bool.false_eq_true, if_false]
    rw [hlen, sizeLine_eq]; omega
end
end Mine

end
section
open PySem PySem.W PySem.W.X PyProof.Rows
set_option Elab.async false
set_option maxRecDepth 100000
set_option maxHeartbeats 4000000
set_option linter.unusedVariables false
namespace Mine
section
variable {w : World} {A : Around} {E : Value → Shared → Prop} {s : Shared} {aC cell a kS : Addr} {ps : List Addr} {key : Nat → Int} {e1 : Nat} {h₀ : Heap}
theorem sk_rest {P : PySem.Fin → Shared → Prop} (hA : AOk A 380 800) (B : SB w aC cell h₀) (k0 : Kx [] h₀ s.heap) (hk0 : h₀.get? kS = none) (ha0 : h₀.get? a = none) (hka : kS ≠ a)
    (hk : s.heap.get? kS = some (seqObj "list" #[] 0)) (ha : s.heap.get? a = some (seqObj "list" #[] e1)) (hn : ∀ (i : Nat) (p : Addr), ps[i]? = some p → Num h₀ p (key i))
    (h2 : 2 ≤ ps.length) (h64 : ps.length < 64)
    (h : ∀ h' tk (q : Array Nat) c, Kx [] h₀ h' → q.Perm (List.toArray (List.range ps.length)) → Up key q ps.length → h'.get? a = some (seqObj "list" (List.toArray (q.toList.map fun i => Value.ref (ps.getD i 0))) c) → P (.done (.ret .none)) { s with heap := h', toks := tk }) :
    wpAny (model prg w) A (ksk_rest a (.ref aC) false (List.toArray (ps.map Value.ref)) e1 (.ref kS)) P E s := by
  unfold ksk_rest
  refine wpAny_bind (wpAny_rule ?_)
  rw [List.forIn_toArray]
  refine wpAny_bind (ksk_fold (fun i s' => ∃ h' tk kA e, s' = { s with heap := h', toks := tk } ∧ Kx [] h₀ h' ∧ h'.get? kS = some (seqObj "list" kA e) ∧ h'.get? a = some (seqObj "list" #[] e1) ∧ kA.size = i ∧ ∀ (j : Nat) (p : Addr), j < i → ps[j]? = some p → ∃ v, kA[j]? = some v ∧ InstAt' h' aC p v) (ps.map Value.ref) 0 s
    ⟨s.heap, s.toks, #[], 0, rfl, k0, hk, ha, rfl, fun j p hj => absurd hj (Nat.not_lt_zero j)⟩ ?step ?done)
  case step =>
    rintro j x s' hx ⟨h', tk, kA, e, rfl, kx, nk, na, hz, hI⟩
    simp only [Nat.zero_add] at hz hI ⊢
    obtain ⟨p, hp, rfl⟩ : ∃ p, ps[j]? = some p ∧ x = .ref p := by
      rw [List.getElem?_map] at hx
      cases q : ps[j]? with
      | none => rw [q] at hx; simp at hx
      | some p => rw [q] at hx; exact ⟨p, rfl, by simpa using hx.symm⟩
    have hj : j < ps.length := (List.getElem?_eq_some_iff.mp hp).1
    refine wpAny_bind (wpAny_attempt (kmk_ok (s := { s with heap := h', toks := tk }) (hA.mono (by decide) (by decide)) (B.k0 kx).X (B.k0 kx).K fun h3 tk3 x dx kx3 g1 g2 => ?_))
    dsimp only
    have nk3 := gk kx3 nk
    have na3 := gk kx3 na
    refine wpAny_bind (listUpdate_at nk3 rfl ?_ (by rw [hz, sizeLine_eq]; omega) (Nat.le_trans (Nat.le_of_eq (Array.size_push ..)) (by rw [sizeLine_eq]; omega)))
    refine wpAny_pure ⟨rfl, _, _, kA.push (.ref x), _, rfl, (kx.trans kx3).upd hk0, get?_update_seq nk3 (·.push (.ref x)), ?_, ?_, ?_⟩
    · rw [Heap.get?_update_ne _ _ _ _ hka.symm]; exact na3
    · rw [Array.size_push, hz]
    · intro i p' hi' hp'
      by_cases q : i < j
      · obtain ⟨v, hv, hIv⟩ := hI i p' q hp'
        refine ⟨v, ?_, (hIv.k0 kx3).upd nk3⟩
        rw [Array.getElem?_push, if_neg (by omega)]
        exact hv
      · have : i = j := by omega
        subst this
        rw [hp] at hp'
        cases hp'
        refine ⟨.ref x, ?_, InstAt'.upd ⟨x, dx, rfl, g1, g2⟩ nk3⟩
        rw [Array.getElem?_push, if_pos hz.symm]
  case done =>
    rintro s' ⟨h', tk, kA, e, rfl, kx, nk, na, hz, hI⟩
    simp only [Nat.zero_add, List.length_map] at hz hI
    refine wpAny_bind (listItems_at nk rfl ?_)
    exact sk_end (s := { s with heap := h', toks := tk }) (h₀ := h₀) hA (B.k0 kx) kx hk0 ha0 hka nk na (fun i p hp => (hn i p hp).k0 kx) (fun i p hp => hI i p (List.getElem?_eq_some_iff.mp hp).1 hp) hz h2 h64 h
theorem sk_tree {n : Nat} {P : PySem.Fin → Shared → Prop} (hA : AOk A 380 800) (B : SB w aC cell h₀) (k0 : Kx [] h₀ s.heap) (ha0 : h₀.get? a = none) (hz0 : h₀.objs.size ≤ s.heap.objs.size)
    (ha : s.heap.get? a = some (seqObj "list" (List.toArray (ps.map Value.ref)) n)) (hn : ∀ (i : Nat) (p : Addr), ps[i]? = some p → Num h₀ p (key i))
    (h2 : 2 ≤ ps.length) (h64 : ps.length < 64)
    (h : ∀ h' tk (q : Array Nat) c, Kx [] h₀ h' → q.Perm (List.toArray (List.range ps.length)) → Up key q ps.length → h'.get? a = some (seqObj "list" (List.toArray (q.toList.map fun i => Value.ref (ps.getD i 0))) c) → P (.done (.ret .none)) { s with heap := h', toks := tk }) :
    wpAny (model prg w) A (ksk_tree a (.ref aC) false) P E s := by
  have hlt : a < s.heap.objs.size := Heap.lt_size ha
  unfold ksk_tree
  refine wpAny_bind (listItems_at ha rfl ?_)
  refine wpAny_bind (listUpdate_at ha rfl ?_ (by rw [List.size_toArray, List.length_map, sizeLine_eq]; omega) (Nat.zero_le _))
  obtain ⟨e1, ha1⟩ : ∃ e1, (s.heap.update a (Obj.mapSeq fun _ => (#[] : Array Value))).get? a = some (seqObj "list" #[] e1) := ⟨_, get?_update_seq ha fun _ => #[]⟩
  refine wpAny_bind (seqEpoch_at ha1 rfl ?_)
  refine wpAny_bind (wpAny_newTuple ?_ (by show (ps.map Value.ref).length ≤ _; rw [List.length_map, sizeLine_eq]; omega))
  refine wpAny_bind (wpAny_newList ?_ (Nat.zero_le _))
  refine wpAny_holding ?_
  refine sk_rest (s := { s with heap := ((s.heap.update a (Obj.mapSeq fun _ => (#[] : Array Value))).push (seqObj "tuple" (List.toArray (ps.map Value.ref)) 0)).push (seqObj "list" #[] 0) }) (e1 := e1) (h₀ := h₀) hA B (((k0.upd ha0).push).push) ?_ ha0 ?_ ?_ ?_ hn h2 h64 h
  · exact Heap.get?_none_of_le (by simp [Heap.size_push, Heap.size_update]; omega)
  · refine Nat.ne_of_gt ?_
    rw [size_push', Heap.size_update]
    exact Nat.lt_succ_of_lt hlt
  · exact Heap.get?_push_size _ rfl
  · exact Heap.get?_push_of_some _ (Heap.get?_push_of_some _ ha1)
/-- sorted(pile, key=K) -/
theorem sorted_ok {l : Addr} {Q : Value → Shared → Prop} (hA : AOk A 380 700) (B : SB w aC cell s.heap) (hl : s.heap.IsList l (List.toArray (ps.map Value.ref))) (hn : ∀ (i : Nat) (p : Addr), ps[i]? = some p → Num s.heap p (key i))
    (h2 : 2 ≤ ps.length) (h64 : ps.length < 64)
    (h : ∀ D h' tk (q : Array Nat) c, Kx [] s.heap h' → s.heap.get? D = none → q.Perm (List.toArray (List.range ps.length)) → Up key q ps.length → h'.get? D = some (seqObj "list" (List.toArray (q.toList.map fun i => Value.ref (ps.getD i 0))) c) → Q (.ref D) { s with heap := h', toks := tk }) :
    wpAny (model prg w) A (call (.builtin "sorted") [.ref l] [(Str.ofString "key", .ref aC)]) Q E s := by
  refine call_function_entry_kw kind_sorted plain_sorted entry_sorted (ksk_s1 _ _) ?_
  unfold Builtin.«sorted»
  refine wpAny_bind (m := checkCount "sorted" 1 1 _) (wpAny_pure ?_)
  refine wpAny_bind (collect_list hl ?_ (by rw [List.length_map, sizeLine_eq]; omega))
  refine wpAny_bind (wpAny_newList ?_ (by rw [List.length_map, sizeLine_eq]; omega))
  have hsz : ((s.heap.push (seqObj "list" #[] 0)).update s.heap.objs.size (Obj.mapSeq (· ++ (ps.map Value.ref).toArray))).objs.size = s.heap.objs.size + 1 := by
    rw [Heap.size_update, size_push']
  have hoL : (((s.heap.push (seqObj "list" #[] 0)).update s.heap.objs.size (Obj.mapSeq (· ++ (ps.map Value.ref).toArray))).push (seqObj "list" (ps.map Value.ref).toArray 0)).get? (s.heap.objs.size + 1) = some (seqObj "list" (ps.map Value.ref).toArray 0) := by
    rw [← hsz]; exact Heap.get?_push_size _ rfl
  have n0 : s.heap.get? s.heap.objs.size = none := Heap.get?_none_of_le (Nat.le_refl _)
  have keep : Kx [] s.heap (((s.heap.push (seqObj "list" #[] 0)).update s.heap.objs.size (Obj.mapSeq (· ++ (ps.map Value.ref).toArray))).push (seqObj "list" (ps.map Value.ref).toArray 0)) := ((Kx.push Kx.refl).upd n0).push
  show wpAny _ _ _ _ _ { s with heap := ((s.heap.push (seqObj "list" #[] 0)).update s.heap.objs.size (Obj.mapSeq (· ++ (ps.map Value.ref).toArray))).push (seqObj "list" (ps.map Value.ref).toArray 0) }
  rw [hsz]
  refine wpAny_bind (wpAny_holding (wpAny_call_entry_kw slot_list_sort ⟨_, hoL, rfl⟩ entry_list_sort ?body (ksk_l1 _ _)))
  show wpAny (model prg w) A.in1.in1 (Builtin.«list.sort» ⟨[.ref (s.heap.objs.size + 1)], [(Str.ofString "key", .ref aC)]⟩) _ _ _
  rw [ksk_t1]
  have nD : s.heap.get? (s.heap.objs.size + 1) = none := Heap.get?_none_of_le (Nat.le_succ _)
  refine sk_tree (s := { s with heap := ((s.heap.push (seqObj "list" #[] 0)).update s.heap.objs.size (Obj.mapSeq (· ++ (ps.map Value.ref).toArray))).push (seqObj "list" (ps.map Value.ref).toArray 0) }) (h₀ := s.heap)
    (hA.in1.in1.mono (by decide) (by decide)) B keep nD (by simp [Heap.size_push, Heap.size_update]; omega) hoL hn h2 h64 fun h' tk q c a1 a2 a3 a4 => ⟨_, rfl, ?_⟩
  exact wpAny_pure ⟨_, rfl, h _ h' tk q c a1 nD a2 a3 a4⟩
end
end Mine

end
section
open PySem PySem.W PySem.W.X PyProof.Rows
set_option Elab.async false
set_option maxRecDepth 100000
set_option maxHeartbeats 4000000
set_option linter.unusedVariables false
namespace Mine
/-- a global's value as the fragment tells it -/
noncomputable def gV (P : Params) (ns : Addr) (x : Str) : Value := match nsIn (KK2 P) ns x with | some (some v) => v | _ => .none
section
variable {w : World} {A : Around} {E : Value → Shared → Prop} {s : Shared} {name : Str} {scope : Scope} {L a : Addr} {cd : Value} {Q : Value → Shared → Prop} {h₀ : Heap} {m : Str → Option Value}
theorem gname3 {x : Str} {pos : Pos} {v : Value} (F : Fr h₀ L s.heap m) (X₀ : (KK2 w.params).In h₀) (hv : nsIn (KK2 w.params) 3 x = some (some v)) (h : Q v s)
    (hk : scope.kind = .function := by rfl) (hx : (envOf name scope L a cd).kindOf x = some .globalImplicit := by rfl) (hd : (x == ("__debug__" : Str)) = false := by decide) :
    wpAny (model prg w) A (eval (.Name x pos) (envOf name scope L a cd)) Q E s := by
  have X : (KK2 w.params).In s.heap := fun a o e => F.keep a o (X₀ a o e)
  refine Calls.Name_function_global hk hx ?_ hd
  unfold loadGlobal
  exact wpAny_bind (looks_nsIn (M := model prg w) X hv _ _ _ _ (fun _ _ e => e) (wpAny_pure h))
theorem gname0 {x : Str} {pos : Pos} {v : Value} (F : Fr h₀ L s.heap m) (X₀ : (KK2 w.params).In h₀) (h3 : nsIn (KK2 w.params) 3 x = some none) (hv : nsIn (KK2 w.params) 0 x = some (some v)) (h : Q v s)
    (hk : scope.kind = .function := by rfl) (hx : (envOf name scope L a cd).kindOf x = some .globalImplicit := by rfl) (hd : (x == ("__debug__" : Str)) = false := by decide) :
    wpAny (model prg w) A (eval (.Name x pos) (envOf name scope L a cd)) Q E s := by
  have X : (KK2 w.params).In s.heap := fun a o e => F.keep a o (X₀ a o e)
  refine Calls.Name_function_global hk hx ?_ hd
  unfold loadGlobal
  exact wpAny_bind (looks_nsIn (M := model prg w) X h3 _ _ _ _ (fun _ _ e => e) (wpAny_bind (looks_nsIn (M := model prg w) X hv _ _ _ _ (fun _ _ e => e) (wpAny_pure h))))
end
def tokOf : Value → Tok | .str _ t => t | _ => 0
theorem g_tick (P : Params) : nsIn (KK2 P) 3 (S "TICK") = some (some (.str (S "'") (tokOf (gV P 3 (S "TICK"))))) := by kernel_rfl
theorem g_dec (P : Params) : nsIn (KK2 P) 3 (S "decode_rfc2231") = some (some (.ref 21)) := by kernel_rfl
theorem g_cmp (P : Params) : nsIn (KK2 P) 3 (S "cmp_to_key") = some (some (.ref 28)) := by kernel_rfl
theorem g_red (P : Params) : nsIn (KK2 P) 3 (S "reduce") = some (some (.ref 37)) := by kernel_rfl
theorem g_miss (P : Params) : nsIn (KK2 P) 3 (S "_initial_missing") = some (some (.ref 29)) := by kernel_rfl
theorem g_parts (P : Params) : nsIn (KK2 P) 3 (S "_law_parts") = some (some (.ref 44)) := by kernel_rfl
theorem g_ahead (P : Params) : nsIn (KK2 P) 3 (S "_law_ahead") = some (some (.ref 51)) := by kernel_rfl
theorem g_more (P : Params) : nsIn (KK2 P) 3 (S "_law_more") = some (some (.ref 58)) := by kernel_rfl
theorem g_rule (P : Params) : nsIn (KK2 P) 3 (S "_law_rule") = some (some (.ref 63)) := by kernel_rfl
theorem g_len3 (P : Params) : nsIn (KK2 P) 3 (S "len") = some none := by kernel_rfl
theorem g_len (P : Params) : nsIn (KK2 P) 0 (S "len") = some (some (.builtin "len")) := by kernel_rfl
theorem g_isi3 (P : Params) : nsIn (KK2 P) 3 (S "isinstance") = some none := by kernel_rfl
theorem g_isi (P : Params) : nsIn (KK2 P) 0 (S "isinstance") = some (some (.builtin "isinstance")) := by kernel_rfl
theorem g_list3 (P : Params) : nsIn (KK2 P) 3 (S "list") = some none := by kernel_rfl
theorem g_list (P : Params) : nsIn (KK2 P) 0 (S "list") = some (some (.type "list")) := by kernel_rfl
theorem g_range3 (P : Params) : nsIn (KK2 P) 3 (S "range") = some none := by kernel_rfl
theorem g_range (P : Params) : nsIn (KK2 P) 0 (S "range") = some (some (.type "range")) := by kernel_rfl
theorem g_sorted3 (P : Params) : nsIn (KK2 P) 3 (S "sorted") = some none := by kernel_rfl
theorem g_sorted (P : Params) : nsIn (KK2 P) 0 (S "sorted") = some (some (.builtin "sorted")) := by kernel_rfl
theorem g_iter3 (P : Params) : nsIn (KK2 P) 3 (S "iter") = some none := by kernel_rfl
theorem g_iter (P : Params) : nsIn (KK2 P) 0 (S "iter") = some (some (.builtin "iter")) := by kernel_rfl
end Mine

end
section
open PySem PySem.W PySem.W.X PyProof.Rows
set_option Elab.async false
set_option maxRecDepth 100000
set_option maxHeartbeats 4000000
set_option linter.unusedVariables false
namespace Mine
theorem dec_lk (P : Params) : (KK2 P).lookup 21 = some ⟨.type "function", none, .func (Calls.docDef (topDef 2).name (topDef 2).args (topDef 2).body (topDef 2).scope (fnK P 21).pyModule (fnK P 21).code (fnK P 21).doc), #[]⟩ := by kernel_rfl
theorem dec_cd (P : Params) : codeIn (KK2 P) (fnK P 21).code (topDef 2).name = true := by kernel_rfl
theorem dec_bd (P : Params) (v : Value) : bindArgs (Calls.docDef (topDef 2).name (topDef 2).args (topDef 2).body (topDef 2).scope (fnK P 21).pyModule (fnK P 21).code (fnK P 21).doc) ⟨[v], []⟩ = pure [(S "s", v)] := by kernel_rfl
local macro_rules | `(tactic| walk_at "eval Name") => `(tactic| (with_unfolding_all refine gname3 (by assumption) (by assumption) (by first | exact g_tick _ | exact g_dec _ | exact g_cmp _ | exact g_red _ | exact g_miss _ | exact g_parts _ | exact g_ahead _ | exact g_more _ | exact g_rule _) ?_))
local macro_rules | `(tactic| walk_at "eval Name") => `(tactic| (with_unfolding_all refine gname0 (by assumption) (by assumption) (by first | exact g_len3 _ | exact g_isi3 _ | exact g_list3 _ | exact g_range3 _ | exact g_sorted3 _ | exact g_iter3 _) (by first | exact g_len _ | exact g_isi _ | exact g_list _ | exact g_range _ | exact g_sorted _ | exact g_iter _) ?_))
abbrev spl (x : Str) : List Str := Txt.splitMax x (S "'") 2
/-- the answer for the text x at a -/
def Ans (h : Heap) (a : Addr) (x : Str) : Prop :=
  ((spl x).length ≤ 2 ∧ ∃ t, IsTup h a #[.none, .none, .str x t]) ∨ (2 < (spl x).length ∧ ∃ l : List (Str × Tok), l.map (·.1) = spl x ∧ h.IsList a (strValues l).toArray)
theorem splitMax_le (x : Str) : (spl x).length ≤ 3 := by
  unfold spl Txt.splitMax
  split
  · exact Nat.le_of_ble_eq_true rfl
  · split
    · exact Nat.le_of_ble_eq_true rfl
    · rw [length_partsBetween]
      have := StrLaws.occ_length_le x (S "'") 0 x.length (limitOf x 2)
      have e : limitOf x 2 = 2 := rfl
      omega
theorem spl_join (x : Str) : Str.join (S "'") (spl x) = x := by
  unfold spl Txt.splitMax
  split
  · rfl
  · split
    · rfl
    · obtain ⟨f, h⟩ := StrLaws.occ_chain x (S "'") (limitOf x 2)
      rw [StrLaws.partsBetween_eq, StrLaws.join_partsFrom x (S "'") _ 0 f h, StrLaws.sub_whole]
theorem Ans.k {h h' : Heap} {a : Addr} {x : Str} (i : Ans h a x) (k : ∀ o, h.get? a = some o → h'.get? a = some o) : Ans h' a x := by
  rcases i with ⟨n, t, q⟩ | ⟨n, l, e, q⟩
  · obtain ⟨o, ho, r⟩ := q
    exact .inl ⟨n, t, o, k o ho, r⟩
  · exact .inr ⟨n, l, e, q.at k⟩
theorem Fkx {h₀ h : Heap} {L : Addr} {m : Str → Option Value} (F : Fr h₀ L h m) : Kx [] h₀ h := fun b o _ e => F.keep b o e
theorem decode_ok {w : World} {A : Around} {Q : Value → Shared → Prop} {E : Value → Shared → Prop} {s : Shared} {x : Str} {t : Tok} (X : (KK2 w.params).In s.heap) (hA : AOk A 400 1000) (hx : x.length ≤ 1000)
    (k : ∀ h' tk a, Kx [] s.heap h' → s.heap.get? a = none → Ans h' a x → Q (.ref a) { s with heap := h', toks := tk }) : wpAny (model prg w) A (call (.ref 21) [.str x t]) Q E s := by
  refine callK 2 21 _ X (Nat.lt_of_le_of_lt hA.2 (by decide)) (dec_lk _) (dec_cd _) (dec_bd _ _) (locs (by kernel_rfl)) (by decide +kernel) fun L h1 tk nL F X1 => ?_
  have N : News s.heap L h1 [] := News.nil
  unfold tenv
  conv => arg 3; arg 1; whnf
  iterate 11 walk1
  have hty : ((S "'").length == 0) = false := by decide +kernel
  refine splitN2A F N hty (by decide) (fun l h2 tk2 el sl bl il F2 N2 => ?_) (by rw [sizeLine_eq]; omega)
  dsimp only at il N2 ⊢
  generalize h1.objs.size = D at *
  have ell : l.length ≤ 3 := by
    have e := congrArg List.length el
    rw [List.length_map] at e
    have : (Txt.splitMax x (S "'") 2).length ≤ 3 := splitMax_le x
    omega
  have evl : (strValues l).toArray.size = l.length := by simp [strValues]
  have esl : (spl x).length = l.length := by rw [show spl x = _ from el.symm, List.length_map]
  repeat' walk1
  · rename News _ _ _ _ => N3
    rename Fr _ _ _ _ => F3
    rename (l.length : Int) ≤ 2 => hl
    exact k _ _ _ (Fkx F3) (N3.fresh (.head _)) (.inl ⟨by omega, t, N3.isTup (.head _)⟩)
  · rename News _ _ _ _ => N3
    rename Fr _ _ _ _ => F3
    rename ¬ (l.length : Int) ≤ 2 => hl
    exact k _ _ _ (Fkx F3) (N3.fresh (.head _)) (.inr ⟨by omega, l, el, N3.isList (.head _)⟩)
end Mine

end
section
open PySem PySem.W PySem.W.X PyProof.Rows
set_option Elab.async false
set_option maxRecDepth 100000
set_option maxHeartbeats 4000000
set_option linter.unusedVariables false
namespace Mine
local macro_rules | `(tactic| walk_at "eval Name") => `(tactic| (with_unfolding_all refine gname3 (by assumption) (by assumption) (by first | exact g_tick _ | exact g_dec _ | exact g_cmp _ | exact g_red _ | exact g_miss _ | exact g_parts _ | exact g_ahead _ | exact g_more _ | exact g_rule _) ?_))
local macro_rules | `(tactic| walk_at "eval Name") => `(tactic| (with_unfolding_all refine gname0 (by assumption) (by assumption) (by first | exact g_len3 _ | exact g_isi3 _ | exact g_list3 _ | exact g_range3 _ | exact g_sorted3 _ | exact g_iter3 _) (by first | exact g_len _ | exact g_isi _ | exact g_list _ | exact g_range _ | exact g_sorted _ | exact g_iter _) ?_))
theorem last_item {w : World} {A : Around} {E : Value → Shared → Prop} {s : Shared} {value slice : PySem.Expr} {l : Addr} {pre : List Value} {v : Value} {u : Tok} {Q : Value → Shared → Prop} (hl : s.heap.IsList l (pre ++ [v]).toArray) (h : Q v s)
    (hs : subscripted slice false (.ref l) (.int (-1) u) = operate [.ref l, .int (-1) u] (getItem (.ref l) (.int (-1) u)) := by with_unfolding_all rfl) (hg : ∀ r, letTemporaryGo value (.ref l) r = pure () := by intro _; with_unfolding_all rfl) :
    wpAny (model prg w) A (subscriptTail value slice (.ref l) (.int (-1) u)) Q E s := by
  have hz : ((pre ++ [v]).toArray.size : Int) = pre.length + 1 := by simp
  have hx : (pre ++ [v]).toArray[((-1 : Int) + (pre ++ [v]).toArray.size).toNat]? = some v := by
    rw [hz]
    have : ((-1 : Int) + (pre.length + 1)).toNat = pre.length := by omega
    rw [this]; simp
  exact tail_any hl.typeIs slot_list_getitem.lookup (wpAny_getItem_list_neg hl (by decide) (by rw [hz]; omega) (by decide) hx h) hs
theorem Ans.obj {h : Heap} {a : Addr} {x : Str} (i : Ans h a x) : ∃ o, h.get? a = some o := by
  rcases i with ⟨_, _, o, ho, _⟩ | ⟨_, _, _, o, ho, _⟩
  · exact ⟨o, ho⟩
  · exact ⟨o, ho⟩
theorem Ans.same {h h' : Heap} {a : Addr} {x : Str} {o : Obj} (i : Ans h a x) (e : h.get? a = some o) (e' : h'.get? a = some o) : Ans h' a x :=
  i.k fun o' eo => by rw [e] at eo; cases eo; exact e'
theorem Ns_ne {h : Heap} {L b : Addr} {m : Str → Option Value} (n : h.Ns L m) (e : h.get? b = none) : b ≠ L := fun q => by
  obtain ⟨o, _, _, ho, _⟩ := n
  rw [q, ho] at e; cases e
theorem more_end {w : World} {A : Around} {Q : Value → Shared → Prop} {E : Value → Shared → Prop} {s : Shared} {h₀ : Heap} {l b L : Addr} {m : Str → Option Value} {vs : List Value} {z : Str} (F : Fr h₀ L s.heap m) (hl : h₀.IsList l vs.toArray) (hlen : vs.length ≤ 200) (nb : h₀.get? b = none) (bL : b ≠ L) (ib : Ans s.heap b z)
    (k : ∀ h' r, Kx [] h₀ h' → h₀.get? r = none → h'.IsList r (vs ++ [Value.ref b]).toArray → Ans h' b z → Q (.ref r) { s with heap := h' }) :
    wpAny (model prg w) A (newList [.ref b]) (fun v s₂ => wpAny (model prg w) A (binaryOp .Add (.ref l) v) Q E s₂) E s := by
  obtain ⟨o, ho⟩ := ib.obj
  have N : News h₀ L s.heap [(b, o)] := fun p hp => by
    rw [List.mem_singleton.mp hp]; exact ⟨ho, bL, nb⟩
  refine newList_N F N (fun h1 F1 N1 => ?_) (by show 1 ≤ _; rw [sizeLine_eq]; omega)
  have hl1 := hl.at fun o e => F1.keep l o e
  refine add_lists (s := { s with heap := h1 }) F1 N1 hl1 (N1.isList (.head _)) (fun h2 F2 N2 => ?_) (by rw [sizeLine_eq]; simp; omega)
  exact k h2 _ (Fkx F2) (N2.fresh (.head _)) (N2.isList (.head _)) (ib.same ho (N2 _ (.tail _ (.tail _ (.head _)))).1)
theorem more_lk (P : Params) : (KK2 P).lookup 58 = some ⟨.type "function", none, .func (Calls.docDef (topDef 10).name (topDef 10).args (topDef 10).body (topDef 10).scope (fnK P 58).pyModule (fnK P 58).code (fnK P 58).doc), #[]⟩ := by kernel_rfl
theorem more_cd (P : Params) : codeIn (KK2 P) (fnK P 58).code (topDef 10).name = true := by kernel_rfl
theorem more_bd (P : Params) (u v : Value) : bindArgs (Calls.docDef (topDef 10).name (topDef 10).args (topDef 10).body (topDef 10).scope (fnK P 58).pyModule (fnK P 58).code (fnK P 58).doc) ⟨[u, v], []⟩ = pure [(S "answers", u), (S "part", v)] := by kernel_rfl
theorem more_ok {w : World} {A : Around} {Q : Value → Shared → Prop} {E : Value → Shared → Prop} {s : Shared} {l a p : Addr} {pre : List Value} {x y : Str} {n : Value} {t : Tok} (X : (KK2 w.params).In s.heap) (hA : AOk A 390 900)
    (hl : s.heap.IsList l (pre ++ [Value.ref a]).toArray) (hlen : pre.length ≤ 100) (ha : Ans s.heap a x) (hp : IsTup s.heap p #[n, .str y t]) (hx : x.length + y.length ≤ 500)
    (k : ∀ h' tk r b, Kx [] s.heap h' → s.heap.get? r = none → h'.IsList r (pre ++ [Value.ref a] ++ [Value.ref b]).toArray → s.heap.get? b = none → Ans h' b (x ++ y) → Q (.ref r) { s with heap := h', toks := tk }) : wpAny (model prg w) A (call (.ref 58) [.ref l, .ref p]) Q E s := by
  refine callK 10 58 _ X (Nat.lt_of_le_of_lt hA.2 (by decide)) (more_lk _) (more_cd _) (more_bd _ _ _) (locs (by kernel_rfl)) (by decide +kernel) fun L h1 tk nL F X1 => ?_
  have N : News s.heap L h1 [] := News.nil
  unfold tenv
  conv => arg 3; arg 1; whnf
  iterate 7 walk1
  refine last_item (hl.at fun o e => F.keep _ o e) ?_
  iterate 12 walk1
  rename Fr _ _ _ _ => F2
  have hl2 := hl.at fun o e => F2.keep _ o e
  have hp2 := hp.keeps F2.keep
  rcases ha.k fun o e => F2.keep _ o e with ⟨n1, tx, q⟩ | ⟨n1, ls, el, q⟩
  · obtain ⟨o, ho, hc, r⟩ := id q
    refine IsiPair.tuple_list ho hc ?_
    iterate 12 walk1
    refine callWith_meth (h₀ := s.heap) rfl (X 21 _ (dec_lk _)) ?_
    iterate 5 walk1
    refine item_tupleT (l := [.none, .none, .str x tx]) q (by decide) (by decide) (j := 2) rfl rfl ?_
    iterate 3 walk1
    refine item_tupleT (l := [n, .str y t]) hp2 (by decide) (by decide) (j := 1) rfl rfl ?_
    refine add_str (fun t' tk' => ?_) (by rw [sizeLine_eq]; omega)
    walk1
    refine ⟨F2.keep, ?_⟩
    show wpAny _ _ (call (.ref 21) [.str (x ++ y) t']) _ _ _
    refine decode_ok (fun a o e => F2.keep a o (X a o e)) (hA.deeper.mono (by decide) (by decide)) (by rw [Str.length_append]; omega) fun h3 tk3 b k3 nb ib => ?_
    have F3 := F2.after fun b o e => gk k3 e
    have bL : b ≠ L := Ns_ne F2.ns nb
    have nb0 : s.heap.get? b = none := by
      cases q0 : s.heap.get? b with
      | none => rfl
      | some o0 => rw [F2.keep _ _ q0] at nb; cases nb
    walk1
    exact more_end (s := { s with heap := h3, toks := tk3 }) F3 hl (by simp; omega) nb0 bL ib fun h' r a1 a2 a3 a4 => k _ _ _ _ a1 a2 a3 nb0 a4
  · obtain ⟨o, ho, hc, r⟩ := id q
    refine IsiPair.list_list ho hc ?_
    iterate 11 walk1
    refine callWith_meth (h₀ := s.heap) rfl (X 21 _ (dec_lk _)) ?_
    iterate 9 walk1
    have sl : StrsAre (strValues ls).toArray.toList (spl x) := by
      rw [← el]; simpa using strsAre_of_values ls
    have ew : ((spl x).map (·.length)).sum + (spl x).length * (S "'").length ≤ 16777216 := by
      have e1 : (S "'").length = 1 := by decide +kernel
      have e2 := congrArg Str.length (spl_join x)
      cases hs : spl x with
      | nil => simp
      | cons a0 l0 =>
        rw [hs, len_join_cons, e1] at e2
        rw [e1, List.length_cons]
        omega
    refine join_list q sl ew (fun t' k0 => ?_)
    have ej : Txt.join (S "'") (spl x) = x := by
      show Builtin.Str.glued _ _ = _
      rw [StrLaws.glued_eq_join]; exact spl_join x
    rw [ej]
    iterate 3 walk1
    refine item_tupleT (l := [n, .str y t]) hp2 (by decide) (by decide) (j := 1) rfl rfl ?_
    refine add_str (fun t' tk' => ?_) (by rw [sizeLine_eq]; omega)
    walk1
    refine ⟨F2.keep, ?_⟩
    show wpAny _ _ (call (.ref 21) [.str (x ++ y) t']) _ _ _
    refine decode_ok (fun a o e => F2.keep a o (X a o e)) (hA.deeper.mono (by decide) (by decide)) (by rw [Str.length_append]; omega) fun h3 tk3 b k3 nb ib => ?_
    have F3 := F2.after fun b o e => gk k3 e
    have bL : b ≠ L := Ns_ne F2.ns nb
    have nb0 : s.heap.get? b = none := by
      cases q0 : s.heap.get? b with
      | none => rfl
      | some o0 => rw [F2.keep _ _ q0] at nb; cases nb
    walk1
    exact more_end (s := { s with heap := h3, toks := tk3 }) F3 hl (by simp; omega) nb0 bL ib fun h' r a1 a2 a3 a4 => k _ _ _ _ a1 a2 a3 nb0 a4
end Mine

end
section
open PySem PySem.W PySem.W.X PyProof.Rows
open PySem.Builtin PySem.Builtin.Str
set_option Elab.async false
set_option maxRecDepth 100000
set_option maxHeartbeats 1000000
set_option linter.unusedVariables false
namespace Mine
/-- the places of the apostrophes -/
def mk (x : Str) : List Nat := (List.range x.length).filter fun i => decide (x.cps[i]? = some 39)
theorem tick_is : S "'" = (⟨#[39]⟩ : Str) := by decide +kernel
theorem occ_run (x : Str) (lim : Nat) : ∀ (l : List Nat) (st : Array Nat × Nat), l.Pairwise (· < ·) → (∀ i ∈ l, st.2 ≤ i) → st.1.size ≤ lim →
    (forIn l st (StrLaws.occBody x ⟨#[39]⟩ x.length lim)).run.fst.toList = st.1.toList ++ (l.filter fun i => decide (x.cps[i]? = some 39)).take (lim - st.1.size)
  | [], st, _, _, _ => by simp
  | i :: r, st, hp, hf, hz => by
    have hp' := List.pairwise_cons.mp hp
    rw [List.forIn_cons]
    have hone := StrLaws.subAt_one x 39 i
    have hone' : x.cps.toList[i]? = x.cps[i]? := by simp
    rw [hone'] at hone
    have hfi := hf i (by simp)
    by_cases hc : x.cps[i]? = some 39
    · have h39 := hone.mpr hc
      by_cases hl : st.1.size < lim
      · have e : StrLaws.occBody x ⟨#[39]⟩ x.length lim i st = pure (ForInStep.yield (st.fst.push i, i + 1)) := by
          unfold StrLaws.occBody
          rw [if_pos ⟨⟨⟨hl, hfi⟩, h39.1⟩, h39.2⟩]
          rfl
        rw [e]
        show (forIn r (st.fst.push i, i + 1) (StrLaws.occBody x ⟨#[39]⟩ x.length lim)).run.fst.toList = _
        rw [occ_run x lim r _ hp'.2 (fun j hj => by have := hp'.1 j hj; simp only; omega) (by simp; omega), List.filter_cons_of_pos (by simpa using hc)]
        obtain ⟨d, hd⟩ : ∃ d, lim - st.1.size = d + 1 := ⟨lim - st.1.size - 1, by omega⟩
        have hd' : lim - (st.fst.push i).size = d := by simp; omega
        rw [hd, List.take_succ_cons, hd']
        simp
      · have e : StrLaws.occBody x ⟨#[39]⟩ x.length lim i st = pure (ForInStep.yield (st.fst, st.snd)) := by
          unfold StrLaws.occBody
          rw [if_neg (fun h => hl h.1.1.1)]
        rw [e]
        show (forIn r (st.fst, st.snd) (StrLaws.occBody x ⟨#[39]⟩ x.length lim)).run.fst.toList = _
        rw [occ_run x lim r _ hp'.2 (fun j hj => hf j (by simp [hj])) hz]
        have : lim - st.1.size = 0 := by omega
        simp [this]
    · have e : StrLaws.occBody x ⟨#[39]⟩ x.length lim i st = pure (ForInStep.yield (st.fst, st.snd)) := by
        unfold StrLaws.occBody
        rw [if_neg (fun h => hc (hone.mp ⟨h.1.2, h.2⟩))]
      rw [e]
      show (forIn r (st.fst, st.snd) (StrLaws.occBody x ⟨#[39]⟩ x.length lim)).run.fst.toList = _
      rw [occ_run x lim r _ hp'.2 (fun j hj => hf j (by simp [hj])) hz, List.filter_cons_of_neg (by simpa using hc)]
theorem occ_mk (x : Str) : occurrences x (S "'") 0 x.length 2 = (mk x).take 2 := by
  rw [tick_is, StrLaws.occ_eq, occ_run x 2 _ _ ?_ ?_ ?_]
  · have e1 : List.range' 0 (x.length + 1 - 0) = List.range x.length ++ [x.length] := by
      rw [Nat.sub_zero, ← List.range_eq_range', List.range_succ]
    rw [e1, List.filter_append]
    have e2 : [x.length].filter (fun i => decide (x.cps[i]? = some 39)) = [] := by
      have : x.cps[x.length]? = none := by simp [Str.length]
      simp [this]
    rw [e2]
    simp [mk]
  · rw [← List.range_eq_range']
    exact List.pairwise_lt_range
  · intro i _; exact Nat.zero_le _
  · simp
theorem mk_short {x : Str} (h : (mk x).length < 2) : (spl x).length ≤ 2 := by
  have e : limitOf x 2 = 2 := rfl
  unfold spl Txt.splitMax
  split
  · exact Nat.le_of_ble_eq_true rfl
  · split
    · exact Nat.le_of_ble_eq_true rfl
    · rw [length_partsBetween, e, occ_mk, List.length_take]
      omega
theorem slice_sub {x : Str} {a b : Nat} (hab : a ≤ b) (hb : b ≤ x.length) : Txt.slice x (some (a : Int)) (some (b : Int)) = strSub x a b := by
  apply Str.ext'
  apply Array.toList_inj.mp
  rw [StrLaws.strSub_toList]
  have := StrLaws.sliceText_nat x hab hb
  have e : Txt.slice x (some (a : Int)) (some (b : Int)) = StrLaws.sliceText x (some (a : Int)) (some (b : Int)) := rfl
  rw [e, this]
theorem mk_long {x : Str} {i0 i1 : Nat} {rest : List Nat} (h : mk x = i0 :: i1 :: rest) : spl x = [Txt.slice x none (some (i0 : Int)), Txt.slice x (some ((i0 : Int) + 1)) (some (i1 : Int)), Txt.slice x (some ((i1 : Int) + 1)) none] := by
  have hs : (mk x).Pairwise (· < ·) := List.Pairwise.filter _ List.pairwise_lt_range
  rw [h] at hs
  have h01 : i0 < i1 := (List.pairwise_cons.mp hs).1 i1 (by simp)
  have hb1 : i1 < x.length := by
    have m1 : i1 ∈ mk x := by rw [h]; simp
    simpa using (List.mem_filter.mp m1).1
  have e : limitOf x 2 = 2 := rfl
  have eocc : occurrences x (S "'") 0 x.length (limitOf x 2) = [i0, i1] := by rw [e, occ_mk, h]; rfl
  have elen : (S "'").length = 1 := by decide +kernel
  have ekind : Builtin.Str.strKind (S "'") = 1 := by decide +kernel
  have hk : 1 ≤ Builtin.Str.strKind x := by
    unfold Builtin.Str.strKind
    split
    · omega
    · split <;> omega
  have hcond : ¬ (decide (x.length < (S "'").length) || decide (Builtin.Str.strKind x < Builtin.Str.strKind (S "'"))) = true := by
    rw [elen, ekind]
    simp only [Bool.or_eq_true, decide_eq_true_eq]
    omega
  unfold spl Txt.splitMax
  rw [if_neg hcond, eocc]
  have hne : ¬ ([i0, i1] : List Nat).isEmpty = true := by simp
  rw [if_neg hne, StrLaws.partsBetween_eq, elen]
  show [strSub x 0 i0, strSub x (i0 + 1) i1, strSub x (i1 + 1) x.length] = _
  have a1 : Txt.slice x none (some (i0 : Int)) = strSub x 0 i0 := by
    rw [← slice_sub (x := x) (Nat.zero_le i0) (by omega)]
    show StrLaws.sliceText x none (some (i0 : Int)) = StrLaws.sliceText x (some ((0 : Nat) : Int)) (some (i0 : Int))
    unfold StrLaws.sliceText
    rw [StrLaws.sliceIdx_none_lo]
    rfl
  have a2 : Txt.slice x (some ((i0 : Int) + 1)) (some (i1 : Int)) = strSub x (i0 + 1) i1 := by
    rw [← slice_sub (x := x) (a := i0 + 1) (b := i1) (by omega) (by omega)]
    rfl
  have a3 : Txt.slice x (some ((i1 : Int) + 1)) none = strSub x (i1 + 1) x.length := by
    rw [← slice_sub (x := x) (a := i1 + 1) (b := x.length) (by omega) (by omega)]
    show StrLaws.sliceText x (some ((i1 : Int) + 1)) none = StrLaws.sliceText x (some ((i1 + 1 : Nat) : Int)) (some (x.length : Int))
    unfold StrLaws.sliceText
    rw [StrLaws.sliceIdx_none_hi]
    rfl
  rw [a1, a2, a3]
end Mine

end
section
open PySem PySem.W PySem.W.X PyProof.Rows
set_option Elab.async false
set_option maxRecDepth 100000
set_option maxHeartbeats 4000000
set_option linter.unusedVariables false
namespace Mine
local macro_rules | `(tactic| walk_at "eval Name") => `(tactic| (with_unfolding_all refine gname3 (by assumption) (by assumption) (by first | exact g_tick _ | exact g_dec _ | exact g_cmp _ | exact g_red _ | exact g_miss _ | exact g_parts _ | exact g_ahead _ | exact g_more _ | exact g_rule _) ?_))
local macro_rules | `(tactic| walk_at "eval Name") => `(tactic| (with_unfolding_all refine gname0 (by assumption) (by assumption) (by first | exact g_len3 _ | exact g_isi3 _ | exact g_list3 _ | exact g_range3 _ | exact g_sorted3 _ | exact g_iter3 _) (by first | exact g_len _ | exact g_isi _ | exact g_list _ | exact g_range _ | exact g_sorted _ | exact g_iter _) ?_))
section
variable {w : World} {A : Around} {E : Value → Shared → Prop} {s : Shared} {Q : Value → Shared → Prop} {env : Env}
theorem gnE0 {x : Str} {pos : Pos} {v : Value} (X : (KK2 w.params).In s.heap) (h3 : nsIn (KK2 w.params) 3 x = some none) (hv : nsIn (KK2 w.params) 0 x = some (some v)) (h : Q v s)
    (hk : env.scope.kind = .function := by rfl) (hx : env.kindOf x = some .globalImplicit := by rfl) (hg : env.globals = 3 := by rfl) (hb : env.builtins = 0 := by rfl) (hd : (x == ("__debug__" : Str)) = false := by decide) :
    wpAny (model prg w) A (eval (.Name x pos) env) Q E s := by
  refine Calls.Name_function_global hk hx ?_ hd
  unfold loadGlobal
  rw [hg, hb]
  exact wpAny_bind (looks_nsIn (M := model prg w) X h3 _ _ _ _ (fun _ _ e => e) (wpAny_bind (looks_nsIn (M := model prg w) X hv _ _ _ _ (fun _ _ e => e) (wpAny_pure h))))
theorem gnE3 {x : Str} {pos : Pos} {v : Value} (X : (KK2 w.params).In s.heap) (hv : nsIn (KK2 w.params) 3 x = some (some v)) (h : Q v s)
    (hk : env.scope.kind = .function := by rfl) (hx : env.kindOf x = some .globalImplicit := by rfl) (hg : env.globals = 3 := by rfl) (hd : (x == ("__debug__" : Str)) = false := by decide) :
    wpAny (model prg w) A (eval (.Name x pos) env) Q E s := by
  refine Calls.Name_function_global hk hx ?_ hd
  unfold loadGlobal
  rw [hg]
  exact wpAny_bind (looks_nsIn (M := model prg w) X hv _ _ _ _ (fun _ _ e => e) (wpAny_pure h))
end
abbrev tenvC (i : Nat) (a : Addr) (cd : Value) (L : Addr) : Env := envOfC (topDef i).name (topDef i).scope L a cd
theorem rule_lk (P : Params) : (KK2 P).lookup 63 = some ⟨.type "function", none, .func (Calls.docDef (topDef 11).name (topDef 11).args (topDef 11).body (topDef 11).scope (fnK P 63).pyModule (fnK P 63).code (fnK P 63).doc), #[]⟩ := by kernel_rfl
theorem rule_cd (P : Params) : codeIn (KK2 P) (fnK P 63).code (topDef 11).name = true := by kernel_rfl
theorem rule_bd (P : Params) (u : Value) : bindArgs (Calls.docDef (topDef 11).name (topDef 11).args (topDef 11).body (topDef 11).scope (fnK P 63).pyModule (fnK P 63).code (fnK P 63).doc) ⟨[u], []⟩ = pure [(S "text", u)] := by kernel_rfl
theorem rule_cells (L : Addr) : cellsFrom (L + 1) (topDef 11).scope.names [] = [(S "text", L + 1)] := by kernel_rfl
/-- the signs' places -/
def markP (x : Str) (v : Value) : Bool := match v with | .int i _ => decide (x.cps[i.toNat]? = some 39) | _ => false
theorem str_item {w : World} {A : Around} {E : Value → Shared → Prop} {s : Shared} {value slice : PySem.Expr} {x : Str} {t u : Tok} {i : Nat} {c : Nat} {Q : Value → Shared → Prop} (hi : i < 2 ^ 62) (hc : x.cps[i]? = some c)
    (h : Q (.str ⟨#[c]⟩ s.toks) { s with toks := s.toks + 1 })
    (hs : subscripted slice false (.str x t) (.int (i : Int) u) = operate [.str x t, .int (i : Int) u] (getItem (.str x t) (.int (i : Int) u)) := by with_unfolding_all rfl) :
    wpAny (model prg w) A (subscriptTail value slice (.str x t) (.int (i : Int) u)) Q E s := by
  have hlt : i < x.length := (Array.getElem?_eq_some_iff.mp hc).1
  refine tail_any (typeIs_str s x t) slot_str_getitem.lookup (PyProof.Rows.getItem_str (c := c) (by simp; omega) ?_ h) hs
  have e : seqIndex? (i : Int) x.length = some i := by
    unfold seqIndex?
    have : ¬ (i : Int) < 0 := by omega
    simp [this, hlt]
  rw [e]; exact hc
theorem rangeW {w : World} {A : Around} (hh : A.handled = none) (I : Addr) (n : Nat) :
    Walks prg w A I [I] [I] n (fun i v => i < n ∧ ∃ t, v = .int (i : Int) t) (fun i h => IsRangeIter h I (0 + (i : Nat) * 1) ((n : Int) - (i : Nat)) 1) :=
  let W := Walks.range (prog := prg) (w := w) hh I 0 1 n
  { W with item := fun i s Q E hi st hQ => W.item i s Q E hi st fun v h' tk ⟨t, e⟩ => hQ v h' tk ⟨hi, t, by rw [e]; congr 1; omega⟩ }
theorem rule_text {w : World} {A : Around} {E : Value → Shared → Prop} {s : Shared} {L c : Addr} {cd : Value} {pos : Pos} {v : Value} {Q : Value → Shared → Prop} (hc : L + 1 = c) (hv : ∃ o, s.heap.get? c = some o ∧ o.data = .cell (some v)) (h : Q v s) :
    wpAny (model prg w) A (eval (.Name (S "text") pos) (envOfC (topDef 11).name (topDef 11).scope L 63 cd)) Q E s := by
  subst hc
  exact wpAny_Name (wpAny_loadName_cell (by kernel_rfl) (by kernel_rfl) (c := L + 1) (by kernel_rfl) hv h) (by decide)
theorem marks_are {x : Str} {vs ys : List Value} (hlen : vs.length = x.length) (hP : ∀ (j : Nat) (v : Value), vs[j]? = some v → j < x.length ∧ ∃ t, v = .int (j : Int) t) (hF : Paired (fun v y => v = y) (vs.filter (markP x)) ys) :
    ∃ f : Nat → Tok, ys = (mk x).map fun (j : Nat) => Value.int (j : Int) (f j) := by
  have e1 : ∀ {a b : List Value}, Paired (fun v y => v = y) a b → a = b := by
    intro a b h
    induction h with
    | nil => rfl
    | cons h _ ih => rw [h, ih]
  refine ⟨fun j => match vs[j]? with | some (.int _ t) => t | _ => 0, ?_⟩
  rw [← e1 hF]
  have e2 : vs = (List.range x.length).map fun (j : Nat) => Value.int (j : Int) (match vs[j]? with | some (.int _ t) => t | _ => 0) := by
    apply List.ext_getElem?
    intro j
    by_cases hj : j < x.length
    · have hv := List.getElem?_eq_getElem (l := vs) (i := j) (by omega)
      obtain ⟨_, t, ht⟩ := hP j _ hv
      rw [List.getElem?_map, List.getElem?_range hj, hv, ht]
      simp [hv, ht]
    · rw [List.getElem?_eq_none (by omega), List.getElem?_eq_none (by simp; omega)]
  conv => lhs; rw [e2]
  rw [List.filter_map]
  rfl
theorem rule_ok {w : World} {A : Around} {Q : Value → Shared → Prop} {E : Value → Shared → Prop} {s : Shared} {x : Str} {t : Tok} (X : (KK2 w.params).In s.heap) (hA : AOk A 390 900) (hx : x.length ≤ 500)
    (k : ∀ h' tk b, Kx [] s.heap h' → s.heap.get? b = none → Ans h' b x → Q (.ref b) { s with heap := h', toks := tk }) : wpAny (model prg w) A (call (.ref 63) [.str x t]) Q E s := by
  refine wpAny_call (call_cells_ret (Nat.lt_of_le_of_lt hA.2 (by decide)) (X 63 _ (rule_lk _)) rfl (nolimit X) (codeRec_of X (rule_cd _)) (rule_bd _ _) ?kd (fun h1 tk F Cc => ?_) (by kernel_rfl) (by kernel_rfl) (by kernel_rfl))
  case kd =>
    intro y hy
    rw [List.mem_singleton.mp hy]
    exact .inr ⟨by kernel_rfl, by rw [rule_cells]; kernel_rfl⟩
  have hcell : h1.IsCell (s.heap.objs.size + 1) (some (.str x t)) := Cc.cell (S "text") _ (by rw [rule_cells]; kernel_rfl)
  have X1 : (KK2 w.params).In h1 := fun a o e => F.keep a o (X a o e)
  have nc : s.heap.get? (s.heap.objs.size + 1) = none := Heap.get?_none_of_le (Nat.le_succ _)
  have hcL : s.heap.objs.size + 1 ≠ s.heap.objs.size := Nat.succ_ne_self _
  have hhd : (A.deeper (tenvC 11 63 (fnK w.params 63).code s.heap.objs.size)).handled = none := hA.1
  generalize hL : s.heap.objs.size = L at *
  generalize hc : L + 1 = c at *
  have ecl : closureFor ⟨.function, [(S ".0", .local), (S "i", .local), (S "text", .free)], false, false, []⟩ (tenvC 11 63 (fnK w.params 63).code L) = pure [(S "text", c)] := by
    subst hc; kernel_rfl
  conv => arg 3; arg 1; whnf
  refine wpAny_execs_cons (wpAny_Assign_ListComp_free (markP x) (fun v y => v = y) (cl := [(S "text", c)]) (by with_unfolding_all rfl) ecl (by decide +kernel) rfl (by decide +kernel) (by decide +kernel) (by kernel_rfl) (by kernel_rfl) ?_)
  clear Cc
  obtain ⟨oc, hoc, hdc⟩ := id hcell
  have N : News s.heap L h1 [(c, oc)] := fun p hp => by
    rw [List.mem_singleton.mp hp]; exact ⟨hoc, hcL, nc⟩
  refine wpAny_Call_NameR (gnE0 X1 (g_range3 _) (g_range _) ?_)
  refine PySem.callWith_type (args := [(false, eval (.Call (.Name (S "len") _) [.Name (S "text") _] [] _) _)]) rfl (Calls.evalArgs_plain (Calls.spliced_cons ?_))
  refine wpAny_Call_NameR (gnE0 X1 (g_len3 _) (g_len _) ?_)
  iterate 2 walk1
  refine wpAny_Name (wpAny_loadName_cell (by kernel_rfl) (by kernel_rfl) (c := c) (by subst hc; kernel_rfl) hcell ?_) (by decide)
  walk1
  refine PyProof.Rows.len_str (by omega) ?_
  refine Calls.spliced_nil ?_
  refine call_range_1 ?_
  have hsm : Builtin.Range.small 0 (x.length : Int) 1 = true := small_one (by decide) (by decide) (by omega) (by omega)
  refine wpAny_pyIter_range (IsRange.new ..) hsm ?_
  have hrs : Builtin.Range.rangeSize 0 (x.length : Int) 1 = (x.length : Int) := by rw [rangeSize_one]; split <;> omega
  rw [hrs]
  dsimp only
  generalize hR : Heap.push h1 { cls := .type "range", data := .fields #[.int 0 _, .int (x.length : Int) _, .int 1 _] } = hR'
  have kR : Kx [] h1 hR' := by rw [← hR]; exact Kx.push Kx.refl
  have F2 := F.after fun b o e => gk kR e
  have hI0 : h1.objs.size ≤ hR'.objs.size := by rw [← hR, Heap.size_push]; omega
  have hLlt : L < hR'.objs.size := F2.ns.lt
  have kI : Kx [] hR' (hR'.push { cls := .type "range_iterator", data := .fields #[rawInt 0, rawInt (x.length : Int), rawInt 1] }) := Kx.push Kx.refl
  have hLI : L ∉ [hR'.objs.size] := fun q => Nat.ne_of_lt hLlt (List.mem_singleton.mp q)
  have ncI : c ≠ hR'.objs.size := Nat.ne_of_lt (Heap.lt_size (gk kR hoc))
  have up : ∀ (s₃ : Shared), (∀ b o, b ∉ [hR'.objs.size] → (hR'.push { cls := .type "range_iterator", data := .fields #[rawInt 0, rawInt (x.length : Int), rawInt 1] }).get? b = some o → s₃.heap.get? b = some o) → s₃.heap.IsCell c (some (.str x t)) := fun s₃ hk =>
    ⟨oc, hk c oc (fun q => ncI (List.mem_singleton.mp q)) (gk kI (gk kR hoc)), hdc⟩
  refine ⟨hR'.objs.size, [hR'.objs.size], [hR'.objs.size], x.length, _, _, _, rfl, rangeW hhd _ x.length, by rw [sizeLine_eq]; omega, ?st, ?fp, hLI, (F2.after fun b o e => gk kI e).ns, ⟨?tests, ?elt⟩, ?fin⟩
  case st =>
    show IsRangeIter _ _ (0 + ((0 : Nat) : Int) * 1) ((x.length : Int) - ((0 : Nat) : Int)) 1
    have e1 : (0 + ((0 : Nat) : Int) * 1) = 0 := by simp
    have e2 : ((x.length : Int) - ((0 : Nat) : Int)) = x.length := by simp
    rw [e1, e2]
    exact Heap.get?_push_size _ rfl
  case fp =>
    intro b hb
    rw [List.mem_singleton.mp hb]
    show _ < (hR'.push _).objs.size
    rw [Heap.size_push]; exact Nat.lt_succ_self _
  case tests =>
    rintro C i v s₃ m₃ E' hC ⟨hi, tv, rfl⟩ hns hm hk htk
    have hcx := Array.getElem?_eq_getElem (xs := x.cps) (i := i) hi
    refine wpAny_tests_one (wpAny_isTrue_Compare1 (Subscript_ (ldCellK (c := c) rfl (up s₃ hk) ?_ (by kernel_rfl) (by kernel_rfl))))
    refine ldVarK hns hm ?_ (by kernel_rfl) (by kernel_rfl)
    refine str_item (by omega) hcx ?_
    refine wpAny_Constant_str ?_
    refine PyProof.Rows.eq_str ?_
    refine eqP (r := _) rfl ⟨?_, _, _, rfl, fun _ _ e => e⟩
    show ((⟨#[x.cps[i]]⟩ : Str) == S "'") = decide (x.cps[((i : Nat) : Int).toNat]? = some 39)
    have e1 : ((i : Nat) : Int).toNat = i := by omega
    rw [e1, hcx, show S "'" = (⟨#[39]⟩ : Str) from by decide +kernel]
    by_cases h39 : x.cps[i] = 39
    · rw [h39]; decide
    · have a1 : ((⟨#[x.cps[i]]⟩ : Str) == ⟨#[39]⟩) = false := by
        rw [beq_eq_false_iff_ne]; intro e; injection e with e; simp at e; exact h39 e
      rw [a1, decide_eq_false (by simpa using h39)]
  case elt =>
    rintro C i v s₃ m₃ E' hC ⟨hi, tv, rfl⟩ hp hns hm hk htk
    refine ldVarK hns hm ?_ (by kernel_rfl) (by kernel_rfl)
    exact ⟨rfl, s₃.heap, s₃.toks, rfl, fun _ _ e => e⟩
  case fin =>
    intro D h4 tk4 ys vs hD hl4 hpl hlen hP hF hns4 hk4
    obtain ⟨f, hf⟩ := marks_are hlen hP hF
    have ey : ys = ((mk x).map fun (j : Nat) => Value.int (j : Int) (f j)).toArray := by rw [← hf]
    clear hf hF hP hlen
    subst ey
    have hD2 : hR'.get? D = none := by
      cases q : hR'.get? D with
      | none => rfl
      | some o => rw [gk kI q] at hD; cases hD
    have DL : D ≠ L := fun q => by
      obtain ⟨o, _, _, ho, _⟩ := F2.ns
      rw [q, ho] at hD2; cases hD2
    have sub4 : ∀ b o, b ≠ L → hR'.get? b = some o → h4.get? b = some o := fun b o nb e => hk4 b o nb (fun q => by
      rw [List.mem_singleton.mp q] at e
      exact absurd (Heap.lt_size e) (Nat.lt_irrefl _)) (gk kI e)
    have F4 : Fr s.heap L h4 _ := ⟨hns4, fun b o e => sub4 b o (fun q => by
      rw [q] at e; exact absurd (Heap.lt_size e) (Nat.not_lt.mpr (Nat.le_of_eq hL))) (F2.keep b o e), F.above⟩
    obtain ⟨oD, hoD, hcD, nD, hdD⟩ := id hl4
    have D0 : s.heap.get? D = none := by
      cases q : s.heap.get? D with
      | none => rfl
      | some o => rw [F2.keep _ _ q] at hD2; cases hD2
    have N4 : News s.heap L h4 [(D, oD), (c, oc)] := fun p hp => by
      rcases List.mem_cons.mp hp with rfl | hp
      · exact ⟨hoD, DL, D0⟩
      · rw [List.mem_singleton.mp hp]; exact ⟨sub4 _ _ hcL (gk kR hoc), hcL, nc⟩
    have X4 : (KK2 w.params).In h4 := fun a o e => F4.keep a o (X a o e)
    clear hl4 hpl hk4 hns4 hD sub4 N
    have hlM : (mk x).length ≤ 500 := Nat.le_trans (List.length_filter_le _ _) (by simpa using hx)
    have hlD : h4.IsList D ((mk x).map fun (j : Nat) => Value.int (j : Int) (f j)).toArray := ⟨oD, hoD, hcD, nD, hdD⟩
    iterate 3 walk1
    refine wpAny_Call_NameR (gnE0 X4 (g_len3 _) (g_len _) ?_)
    iterate 4 walk1
    refine len_list hlD (by simp; omega) ?_
    iterate 3 walk1
    have ez : ((mk x).map fun (j : Nat) => Value.int (j : Int) (f j)).toArray.size = (mk x).length := by simp
    rw [ez]
    by_cases hm2 : ((mk x).length : Int) < 2
    · rw [decide_eq_true hm2]
      iterate 10 walk1
      refine rule_text hc ⟨oc, N4.get (.tail _ (.head _)), hdc⟩ ?_
      walk1
      walk1
      rename News _ _ _ _ => N5
      rename Fr _ _ _ _ => F5
      exact k _ _ _ (Fkx F5) (N5.fresh (.head _)) (.inl ⟨mk_short (by omega), t, N5.isTup (.head _)⟩)
    · rw [decide_eq_false hm2]
      obtain ⟨i0, i1, rest, em⟩ : ∃ i0 i1 rest, mk x = i0 :: i1 :: rest := by
        match hmk : mk x with
        | [] => rw [hmk] at hm2; simp at hm2
        | [_] => rw [hmk] at hm2; simp at hm2
        | i0 :: i1 :: rest => exact ⟨i0, i1, rest, rfl⟩
      have hb0 : i0 < x.length ∧ i1 < x.length := by
        have m0 : i0 ∈ mk x := by rw [em]; simp
        have m1 : i1 ∈ mk x := by rw [em]; simp
        exact ⟨by simpa using (List.mem_filter.mp m0).1, by simpa using (List.mem_filter.mp m1).1⟩
      rw [em] at hlD
      iterate 8 walk1
      refine rule_text hc ⟨oc, N4.get (.tail _ (.head _)), hdc⟩ ?_
      iterate 6 walk1
      refine item_listL hlD (by decide) (by decide) rfl ?_
      iterate 2 walk1
      rename News _ _ _ _ => N5
      have hlD5 : Heap.IsList _ D _ := ⟨oD, N5.get (.head _), hcD, nD, hdD⟩
      rw [em] at hlD5
      iterate 2 walk1
      refine rule_text hc ⟨oc, N5.get (.tail _ (.head _)), hdc⟩ ?_
      iterate 6 walk1
      refine item_listL hlD5 (by decide) (by decide) rfl ?_
      iterate 6 walk1
      refine item_listL hlD5 (by decide) (by decide) rfl ?_
      iterate 2 walk1
      rename News _ _ _ _ => N6
      have hlD6 : Heap.IsList _ D _ := ⟨oD, N6.get (.head _), hcD, nD, hdD⟩
      rw [em] at hlD6
      iterate 2 walk1
      refine rule_text hc ⟨oc, N6.get (.tail _ (.head _)), hdc⟩ ?_
      iterate 6 walk1
      refine item_listL hlD6 (by decide) (by decide) rfl ?_
      iterate 7 walk1
      rename News _ _ _ _ => N7
      rename Fr _ _ _ _ => F7
      refine k _ _ _ (Fkx F7) (N7.fresh (.head _)) (.inr ⟨by rw [mk_long em]; exact Nat.lt_succ_self 2, [(_, _), (_, _), (_, _)], (mk_long em).symm, N7.isList (.head _)⟩)
end Mine

end
section
open PySem PySem.W PySem.W.X PyProof.Rows
set_option Elab.async false
set_option maxRecDepth 100000
set_option maxHeartbeats 4000000
set_option linter.unusedVariables false
namespace Mine
local macro_rules | `(tactic| walk_at "eval Name") => `(tactic| (with_unfolding_all refine gname3 (by assumption) (by assumption) (by first | exact g_tick _ | exact g_dec _ | exact g_cmp _ | exact g_red _ | exact g_miss _ | exact g_parts _ | exact g_ahead _ | exact g_more _ | exact g_rule _) ?_))
local macro_rules | `(tactic| walk_at "eval Name") => `(tactic| (with_unfolding_all refine gname0 (by assumption) (by assumption) (by first | exact g_len3 _ | exact g_isi3 _ | exact g_list3 _ | exact g_range3 _ | exact g_sorted3 _ | exact g_iter3 _) (by first | exact g_len _ | exact g_isi _ | exact g_list _ | exact g_range _ | exact g_sorted _ | exact g_iter _) ?_))
theorem red_lk (P : Params) : (KK2 P).lookup 37 = some ⟨.type "function", none, .func (fnK P 37), #[]⟩ := by kernel_rfl
theorem red_bd {w : World} {h : Heap} (X : (KK2 w.params).In h) (u v z : Value) : Looks (model prg w) h (bindArgs (fnK w.params 37) ⟨[u, v, z], []⟩) [(S "function", u), (S "sequence", v), (S "initial", z)] := Looks.of_peek X (by kernel_rfl)
theorem red_body (P : Params) : (fnK P 37).body = .stmts (topDef 6).body := by kernel_rfl
theorem red_cd (P : Params) : codeIn (KK2 P) (fnK P 37).code (fnK P 37).qualname = true := by kernel_rfl
theorem red_env (P : Params) (L : Addr) : callEnv (fnK P 37) L 37 = envOf (topDef 6).name (topDef 6).scope L 37 (fnK P 37).code := by kernel_rfl
theorem red_scope (P : Params) : (fnK P 37).scope = (topDef 6).scope := by kernel_rfl
theorem callR {w : World} {A : Around} {Q : Value → Shared → Prop} {E : Value → Shared → Prop} {s : Shared} {u v z : Value} (X : (KK2 w.params).In s.heap) (hd : A.depth < recursionLimit)
    (h : ∀ L h₁ tk, s.heap.get? L = none → Fr s.heap L h₁ (fun x => [(S "function", u), (S "sequence", v), (S "initial", z)].reverse.lookup x) → (KK2 w.params).In h₁ →
      wpAny (model prg w) (A.deeper (envOf (topDef 6).name (topDef 6).scope L 37 (fnK w.params 37).code)) (execs (topDef 6).body (envOf (topDef 6).name (topDef 6).scope L 37 (fnK w.params 37).code)) (fun f s' => Q (match f with | .ret v => v | _ => .none) s') (fun _ _ => False) { s with heap := h₁, toks := tk }) :
    wpAny (model prg w) A (call (.ref 37) [u, v, z]) Q E s := by
  refine wpAny_call (codeAny_call_function hd (X 37 _ (red_lk _)) rfl (by rw [red_scope]; kernel_rfl) (by rw [red_scope]; kernel_rfl) (red_body _) (codeRec_of X (red_cd _)) ?_)
  refine red_bd X _ _ _ _ _ _ _ (fun _ _ e => e) ?_
  refine wpAny_newFunctionEnv (by rw [red_scope]; decide +kernel) (by rw [red_scope]; exact locs (by kernel_rfl)) (fun h1 hns hsb => ⟨(nolimit X).fresh _ hsb, ?_⟩) (by rw [red_scope]; kernel_rfl)
  have F : Fr s.heap s.heap.objs.size h1 (fun x => [(S "function", u), (S "sequence", v), (S "initial", z)].reverse.lookup x) := ⟨hns, fun b o e => hsb.extBut b o (Nat.ne_of_lt (Heap.lt_size e)) (Heap.get?_push_of_some _ e), Nat.le_refl _⟩
  show codeAny _ _ (.func _ (callEnv (fnK w.params 37) s.heap.objs.size 37)) _ _
  rw [red_env]
  refine codeAny_func (wpAny_mono (h _ h1 _ (Heap.get?_none_of_le (Nat.le_refl _)) F fun a o e => F.keep a o (X a o e)) (fun f s' q => q) fun _ _ x => x.elim)
/-- texts laid behind one another -/
def cat (ys : List Str) : Str := ys.foldl (· ++ ·) (S "")
theorem cat_snoc (ys : List Str) (y : Str) : cat (ys ++ [y]) = cat ys ++ y := by simp [cat]
theorem cat_take {ys : List Str} {i : Nat} {y : Str} (h : ys[i]? = some y) : cat (ys.take (i + 1)) = cat (ys.take i) ++ y := by
  rw [List.take_add_one, h, ← cat_snoc]; rfl
/-- the parts as tuples of a number and a text -/
def PartAt (h : Heap) (p : Addr) (y : Str) : Prop := ∃ (n : Value) (t : Tok), IsTup h p #[n, .str y t]
theorem loopL {w : World} {A : Around} {s : Shared} {R : Result → Shared → Prop} {target : PySem.Expr} {body : List Stmt} {env : Env} {I q : Addr} {vs : List Value} (J : Nat → Shared → Prop) (hh : A.handled = none)
    (hit : ∀ i s', J i s' → s'.heap.IsListIter I q i ∧ s'.heap.IsList q vs.toArray)
    (turn : ∀ i s' v h5, i < vs.length → vs[i]? = some v → J i s' → h5.IsListIter I q (i + 1) → Heap.SameBut I s'.heap h5 →
      wpAny (model prg w) A (assign target env v) (fun _ s₂ => wpAny (model prg w) A (execs body env) (fun f s₃ => f = .next ∧ J (i + 1) s₃) (fun _ _ => False) s₂) (fun _ _ => False) { s' with heap := h5 })
    (done : ∀ s' h5, J vs.length s' → Heap.ExtBut I s'.heap h5 → R (.ok .next) { s' with heap := h5 }) (start : J 0 s) (ht : ∀ v, letOwnedTupleGo target (.ref I) v = pure () := by intro _; rfl) :
    codeAny (model prg w) A (.forLoop target (.ref I) body [] env) R s := by
  refine codeAny_forLoop (fun n s' => ∃ i, J i s' ∧ i ≤ vs.length ∧ n = vs.length + 1 - i) ?_ (vs.length + 1) ⟨0, start, Nat.zero_le _, rfl⟩ ht
  rintro n s' ⟨i, hJ, hi, rfl⟩
  obtain ⟨h1, h2⟩ := hit i s' hJ
  by_cases hlt : i < vs.length
  · have hv := List.getElem?_eq_getElem hlt
    refine wpAny_pyNext_list_item h1 h2 (x := vs[i]) (by simp [hlt]) fun h5 hit5 hs5 => ?_
    refine wpAny_mono (turn i s' _ h5 hlt hv hJ hit5 hs5) (fun _ s₂ h₂ => wpAny_mono h₂ (fun f s₃ h₃ => ?_) fun _ _ x => x.elim) fun _ _ x => x.elim
    obtain ⟨rfl, h₃⟩ := h₃
    exact ⟨vs.length + 1 - (i + 1), by omega, i + 1, h₃, hlt, rfl⟩
  · have e : i = vs.length := by omega
    subst e
    refine wpAny_pyNext_list_end hh h1 h2 (by simp) fun h5 he5 => wpAny_execs_nil ?_
    exact done s' h5 hJ he5
theorem iter_list {w : World} {A : Around} {E : Value → Shared → Prop} {s : Shared} {d : Addr} {vs : Array Value} {Q : Value → Shared → Prop} (hl : s.heap.IsList d vs)
    (h : Q (.ref s.heap.objs.size) { s with heap := s.heap.push { cls := .type "list_iterator", data := .fields #[.ref d, .int 0 0] } }) :
    wpAny (model prg w) A (call (.builtin "iter") [.ref d]) Q E s := by
  refine Calls.call_function_entry (by decide +kernel) (by decide +kernel) kdk_entry_iter (kdk_args_iter _) ?_
  unfold Builtin.«iter»
  refine wpAny_bind (m := someArgs "iter" 1 2 _) (wpAny_of_eq (a := [Value.ref d]) (by first | rfl | kernel_rfl!) ?_)
  show wpAny _ _ (pyIter (.ref d) >>= _) _ _ _
  refine wpAny_bind (wpAny_pyIter_list hl ?_)
  exact wpAny_pure ⟨_, rfl, h⟩
theorem reduce_ok {w : World} {A : Around} {Q : Value → Shared → Prop} {E : Value → Shared → Prop} {s : Shared} {l a q : Addr} {ps : List Addr} {ys : List Str} (X : (KK2 w.params).In s.heap) (hA : AOk A 380 800)
    (hl : s.heap.IsList l #[.ref a]) (ha : Ans s.heap a (S "")) (hl29 : l ≠ 29) (hq : s.heap.IsList q (ps.map Value.ref).toArray) (hlen : ys.length = ps.length) (h50 : ps.length ≤ 50) (hp : ∀ (i : Nat) (p : Addr) (y : Str), ps[i]? = some p → ys[i]? = some y → PartAt s.heap p y) (hy : ∀ i, (cat (ys.take i)).length ≤ 200) (hy1 : ∀ y ∈ ys, y.length ≤ 200)
    (k : ∀ h' tk r (as : List Addr), Kx [] s.heap h' → h'.IsList r (as.map Value.ref).toArray → as.length = ps.length + 1 → (∀ i b, as[i]? = some b → Ans h' b (cat (ys.take i))) → Q (.ref r) { s with heap := h', toks := tk }) :
    wpAny (model prg w) A (call (.ref 37) [.ref 58, .ref q, .ref l]) Q E s := by
  refine callR X (Nat.lt_of_le_of_lt hA.2 (by decide)) fun L h1 tk nL F X1 => ?_
  have N : News s.heap L h1 [] := News.nil
  have hhd : (A.deeper (envOf (topDef 6).name (topDef 6).scope L 37 (fnK w.params 37).code)).handled = none := hA.1
  conv => arg 3; arg 1; whnf
  iterate 8 walk1
  refine iter_list (hq.at fun o e => F.keep q o e) ?_
  dsimp only
  have F2 : Fr s.heap L (h1.push { cls := .type "list_iterator", data := .fields #[.ref q, .int 0 0] }) _ := F.push _
  have N2 : News s.heap L (h1.push { cls := .type "list_iterator", data := .fields #[.ref q, .int 0 0] }) [(h1.objs.size, _)] := N.push F _
  generalize h1.objs.size = I at *
  generalize h1.push _ = h2 at *
  iterate 7 walk1
  rename Fr _ _ _ _ => F3
  obtain ⟨ol, hol, hcl, _⟩ := id hl
  obtain ⟨o29, h29⟩ := Option.isSome_iff_exists.mp (show ((KK2 w.params).lookup 29).isSome = true by kernel_rfl)
  refine kto_is (F3.keep _ _ hol) (F3.keep _ _ (X 29 _ h29)) hl29 (by rw [hcl]; decide) ?_
  iterate 8 walk1
  refine wpAny_For ?_
  walk1
  rename News _ _ _ _ => N4
  rename Fr _ _ _ _ => F4
  have hit : Heap.IsListIter _ I q 0 := ⟨_, N4.get (.head _), rfl, rfl⟩
  have hIL : I ≠ L := N4.ne (.head _)
  have hI0 : s.heap.get? I = none := N4.fresh (.head _)
  have s0 : ∀ {b : Addr} {o : Obj}, s.heap.get? b = some o → b ≠ I ∧ b ≠ L := fun {b o} e => ⟨(fun q => by rw [q, hI0] at e; cases e), (fun q => by rw [q, nL] at e; cases e)⟩
  refine wpAny_pyIter_listiter hit ?_
  refine loopL (q := q) (vs := ps.map Value.ref) (fun i s' => ∃ (h' : Heap) (tk : Nat) (m' : Str → Option Value) (v : Addr) (as : List Addr), s' = { s with heap := h', toks := tk } ∧ Fr s.heap L h' m' ∧ m' (S "function") = some (.ref 58) ∧ m' (S "value") = some (.ref v) ∧ h'.IsListIter I q i ∧
      v ≠ I ∧ v ≠ L ∧ h'.IsList v (as.map Value.ref).toArray ∧ as.length = i + 1 ∧ (∀ j b, as[j]? = some b → Ans h' b (cat (ys.take j)) ∧ b ≠ I ∧ b ≠ L)) hhd ?hit ?turn ?done ?start
  case hit =>
    rintro i s' ⟨h', tk', m', v, as, rfl, F', mf, mv, hit', _⟩
    exact ⟨hit', hq.at fun o e => F'.keep _ o e⟩
  case start =>
    obtain ⟨oa, hoa⟩ := ha.obj
    refine ⟨_, _, _, l, [a], rfl, F4, rfl, rfl, hit, (s0 hol).1, (s0 hol).2, hl.at (fun o e => F4.keep _ o e), rfl, fun j b hb => ?_⟩
    cases j with
    | zero =>
      simp at hb; subst hb
      exact ⟨by simpa [cat] using ha.k fun o e => F4.keep _ o e, (s0 hoa).1, (s0 hoa).2⟩
    | succ j => simp at hb
  case done =>
    rintro s' h5 ⟨h', tk', m', v, as, rfl, F', mf, mv, hit', vI, vL, hv, hal, hall⟩ he
    have F5 : Fr s.heap L h5 m' := ⟨F'.ns.extBut he (Ne.symm hIL), fun b o e => he b o (s0 e).1 (F'.keep b o e), F'.above⟩
    refine wpAny_execs_cons (wpAny_Return_some (ld F5 mv ?_))
    refine k h5 _ v as (Fkx F5) (hv.extBut he vI) (by simpa using hal) fun i b hb => ?_
    obtain ⟨h1, h2, _⟩ := hall i b hb
    exact h1.k fun o e => he b o h2 e
  case turn =>
    rintro i s' vv h5 hlt hvv ⟨h', tk', m', v, as, rfl, F', mf, mv, hit', vI, vL, hv, hal, hall⟩ hit5 hs5
    have hlt' : i < ps.length := by simpa using hlt
    have hpi := List.getElem?_eq_getElem hlt'
    obtain rfl : vv = .ref ps[i] := by rw [List.getElem?_map, hpi] at hvv; simpa using hvv.symm
    have hyi := List.getElem?_eq_getElem (l := ys) (i := i) (by omega)
    have k5 : ∀ b o, b ≠ I → h'.get? b = some o → h5.get? b = some o := fun b o nb e => hs5.extBut b o nb e
    have F5 : Fr s.heap L h5 m' := ⟨F'.ns.sameBut hs5 (Ne.symm hIL), fun b o e => k5 b o (s0 e).1 (F'.keep b o e), F'.above⟩
    refine wpAny_assign_Name (wpAny_storeName_local (by kernel_rfl) F5.ns (fun h6 hn6 hs6 => ?_) (by kernel_rfl))
    have F6 : Fr s.heap L h6 _ := F5.set hn6 hs6
    have k6 : ∀ b o, b ≠ I → b ≠ L → h'.get? b = some o → h6.get? b = some o := fun b o n1 n2 e => hs6.extBut b o n2 (k5 b o n1 e)
    obtain ⟨pre, aL, eas⟩ : ∃ pre aL, as = pre ++ [aL] := by
      rcases List.eq_nil_or_concat as with e | ⟨pre, aL, e⟩
      · rw [e] at hal; simp at hal
      · exact ⟨pre, aL, by simpa using e⟩
    have hpl : pre.length = i := by rw [eas] at hal; simpa using hal
    obtain ⟨hA1, hA2, hA3⟩ := hall i aL (by rw [eas, ← hpl]; simp)
    refine wpAny_execs_cons ?_
    have N6 : News s.heap L h6 [] := News.nil
    walk1
    refine wpAny_Call_NameR (ld (v := .ref 58) F6 mf ?_)
    refine callWith_meth (h₀ := s.heap) rfl (X 58 _ (more_lk _)) ?_
    refine spliced_more (ld (v := .ref v) F6 mv ?_) (by kernel_rfl)
    refine spliced_more (ld (v := .ref ps[i]) F6 rfl ?_) (by kernel_rfl)
    refine spliced_none ⟨F6.keep, ?_⟩
    show wpAny _ _ (call (.ref 58) [.ref v, .ref ps[i]]) _ _ _
    obtain ⟨np, tp, hpt⟩ := hp i _ _ hpi hyi
    have hv6 : h6.IsList v (pre.map Value.ref ++ [Value.ref aL]).toArray := by
      have := hv.at fun o e => k6 v o vI vL e
      rw [eas] at this; simpa using this
    refine more_ok (s := { s with heap := h6, toks := tk' + 1 }) (x := cat (ys.take i)) (y := ys[i]) (fun a o e => F6.keep a o (X a o e)) (hA.deeper.mono (by decide) (by decide)) hv6 (by simp; omega) (hA1.k fun o e => k6 _ o hA2 hA3 e) (hpt.keeps F6.keep) ?_ fun h7 tk7 r b k7 nr hr nb ib => ?_
    · have e1 := hy i
      have e2 := hy1 _ (List.getElem_mem (l := ys) (n := i) (by omega))
      omega
    have F7 := F6.after fun b o e => gk k7 e
    refine wpAny_storeName_local (by kernel_rfl) F7.ns (fun h8 hn8 hs8 => ?_) (by kernel_rfl)
    have F8 : Fr s.heap L h8 _ := F7.set hn8 hs8
    have k8 : ∀ b o, b ≠ I → b ≠ L → h'.get? b = some o → h8.get? b = some o := fun b o n1 n2 e => hs8.extBut b o n2 (gk k7 (k6 b o n1 n2 e))
    have hit8 : h8.IsListIter I q (i + 1) := (hit5.extBut hs6.extBut hIL).at fun o e => hs8.extBut _ _ hIL (gk k7 e)
    have nI : ∀ {b : Addr}, h6.get? b = none → b ≠ I ∧ b ≠ L := fun {b} e => by
      refine ⟨fun q => ?_, Ns_ne F6.ns e⟩
      obtain ⟨o, ho, _⟩ := hit5.extBut hs6.extBut hIL
      rw [q, ho] at e; cases e
    refine wpAny_execs_nil ?_
    refine ⟨rfl, h8, _, _, r, as ++ [b], rfl, F8, ?_, ?_, hit8, (nI nr).1, (nI nr).2, ?_, by simp [hal], fun j c hc => ?_⟩
    · exact mf
    · rfl
    · have := hr.at fun o e => hs8.extBut r o (nI nr).2 e
      rw [eas]; simpa using this
    · by_cases hj : j < as.length
      · rw [List.getElem?_append_left hj] at hc
        obtain ⟨c1, c2, c3⟩ := hall j c hc
        exact ⟨c1.k fun o e => k8 c o c2 c3 e, c2, c3⟩
      · have ej : j = i + 1 := by
          have := (List.getElem?_eq_some_iff.mp hc).1
          simp at this; omega
        subst ej
        rw [List.getElem?_append_right (by omega)] at hc
        have : c = b := by simp [hal] at hc; exact hc.symm
        subst this
        rw [cat_take hyi]
        exact ⟨ib.k fun o e => hs8.extBut c o (nI nb).2 e, (nI nb).1, (nI nb).2⟩
end Mine

end
section
open PySem PySem.W PySem.W.X PyProof.Rows
set_option Elab.async false
set_option maxRecDepth 100000
set_option maxHeartbeats 600000
set_option linter.unusedVariables false
namespace Mine
abbrev Tri := Int × Str × Int
structure TriOk (i : Nat) (tr : List Tri) : Prop where
  ne : 1 ≤ tr.length
  two : 1 ≤ i → 2 ≤ tr.length
  le : tr.length ≤ i + 1
  nums : ∀ t ∈ tr, 0 ≤ t.1 ∧ t.1 ≤ 4 * (i : Int)
  up : tr.Pairwise fun a b => a.1 ≤ b.1
  size : (tr.map fun t => t.2.1.length).sum ≤ i + 1
  chars : ∀ t ∈ tr, PyData.strOk t.2.1 = true
theorem strOk_append {x y : Str} (hx : PyData.strOk x = true) (hy : PyData.strOk y = true) : PyData.strOk (x ++ y) = true := by
  unfold PyData.strOk at *
  rw [Str.cps_append, Array.all_append, hx, hy]; rfl
theorem TriOk.start {u : Str} {d : Int} (h : u.length ≤ 1) (hu : PyData.strOk u = true) : TriOk 0 [(0, u, d)] := by
  refine ⟨Nat.le_refl _, fun h => by omega, Nat.le_refl _, fun t ht => ?_, List.pairwise_singleton _ _, ?_, fun t ht => by rw [List.mem_singleton.mp ht]; exact hu⟩
  · rw [List.mem_singleton.mp ht]; exact ⟨Int.le_refl _, Int.le_refl _⟩
  · simpa using h
theorem TriOk.app {i : Nat} {pre : List Tri} {n p e d : Int} {y c : Str} (h : TriOk i (pre ++ [(n, y, p)])) (h0 : 0 ≤ e) (h4 : e ≤ 4) (hc : c.length = 1) (hk : PyData.strOk c = true) : TriOk (i + 1) (pre ++ [(n, y, p)] ++ [(n + e, c, d)]) := by
  have hn := h.nums (n, y, p) (by simp)
  refine ⟨by simp, fun _ => by simp, by have := h.le; simp at this ⊢; omega, fun t ht => ?_, ?_, ?_, fun t ht => ?_⟩
  rotate_right
  · rcases List.mem_append.mp ht with ht | ht
    · exact h.chars t ht
    · rw [List.mem_singleton.mp ht]; exact hk
  · rcases List.mem_append.mp ht with ht | ht
    · have := h.nums t ht
      omega
    · rw [List.mem_singleton.mp ht]
      simp only at hn ⊢
      omega
  · rw [List.pairwise_append]
    refine ⟨h.up, List.pairwise_singleton _ _, fun a ha b hb => ?_⟩
    rw [List.mem_singleton.mp hb]
    have hup := h.up
    rw [List.pairwise_append] at hup
    rcases List.mem_append.mp ha with ha | ha
    · have := hup.2.2 a ha (n, y, p) (by simp)
      simp only at this ⊢; omega
    · rw [List.mem_singleton.mp ha]; simp only; omega
  · have := h.size
    rw [List.map_append, List.sum_append]
    simp only [List.map_cons, List.map_nil, List.sum_cons, List.sum_nil, hc]
    omega
theorem TriOk.mod {i : Nat} {pre : List Tri} {n p : Int} {y c : Str} (h : TriOk i (pre ++ [(n, y, p)])) (hi : 1 ≤ i) (hc : c.length = 1) (hk : PyData.strOk c = true) : TriOk (i + 1) (pre ++ [(n, y ++ c, p)]) := by
  refine ⟨by simp, fun _ => by have := h.two hi; simpa using this, by have := h.le; simp at this ⊢; omega, fun t ht => ?_, ?_, ?_, fun t ht => ?_⟩
  rotate_right
  · rcases List.mem_append.mp ht with ht | ht
    · exact h.chars t (List.mem_append_left _ ht)
    · rw [List.mem_singleton.mp ht]
      exact strOk_append (h.chars (n, y, p) (by simp)) hk
  · have hm : ∃ t' ∈ pre ++ [(n, y, p)], t'.1 = t.1 := by
      rcases List.mem_append.mp ht with ht | ht
      · exact ⟨t, List.mem_append_left _ ht, rfl⟩
      · exact ⟨(n, y, p), by simp, by rw [List.mem_singleton.mp ht]⟩
    obtain ⟨t', h1, h2⟩ := hm
    have := h.nums t' h1
    rw [h2] at this; omega
  · have hup := h.up
    rw [List.pairwise_append] at hup ⊢
    refine ⟨hup.1, List.pairwise_singleton _ _, fun a ha b hb => ?_⟩
    rw [List.mem_singleton.mp hb]
    exact hup.2.2 a ha (n, y, p) (by simp)
  · have := h.size
    rw [List.map_append, List.sum_append] at this ⊢
    simp only [List.map_cons, List.map_nil, List.sum_cons, List.sum_nil, Str.length_append, hc] at this ⊢
    omega
abbrev Led := List (Addr × Obj)
def LM (nw : Led) (v : Addr) (vs : List Value) : Prop := ∃ n, (v, (⟨.type "list", none, .seq vs.toArray n, #[]⟩ : Obj)) ∈ nw
def TM (nw : Led) (a : Addr) (t : Tri) : Prop := ∃ t1 t2 t3 n, (a, (⟨.type "tuple", none, .seq #[.int t.1 t1, .str t.2.1 t2, .int t.2.2 t3] n, #[]⟩ : Obj)) ∈ nw
structure Tups (nw : Led) (as : List Addr) (tr : List Tri) : Prop where
  len : as.length = tr.length
  at' : ∀ (i : Nat) (a : Addr) (t : Tri), as[i]? = some a → tr[i]? = some t → TM nw a t
theorem LM.mono {nw nw' : Led} {v : Addr} {vs : List Value} (h : LM nw v vs) (s : ∀ p ∈ nw, p ∈ nw') : LM nw' v vs := by
  obtain ⟨n, m⟩ := h; exact ⟨n, s _ m⟩
theorem TM.mono {nw nw' : Led} {a : Addr} {t : Tri} (h : TM nw a t) (s : ∀ p ∈ nw, p ∈ nw') : TM nw' a t := by
  obtain ⟨t1, t2, t3, n, m⟩ := h; exact ⟨t1, t2, t3, n, s _ m⟩
theorem Tups.mono {nw nw' : Led} {as : List Addr} {tr : List Tri} (h : Tups nw as tr) (s : ∀ p ∈ nw, p ∈ nw') : Tups nw' as tr := ⟨h.len, fun i a t h1 h2 => (h.at' i a t h1 h2).mono s⟩
theorem Tups.app {nw : Led} {as : List Addr} {tr : List Tri} {a : Addr} {t : Tri} (h : Tups nw as tr) (ha : TM nw a t) : Tups nw (as ++ [a]) (tr ++ [t]) := by
  refine ⟨by simp [h.len], fun i b u h1 h2 => ?_⟩
  by_cases hi : i < as.length
  · rw [List.getElem?_append_left hi] at h1
    rw [List.getElem?_append_left (by rw [← h.len]; exact hi)] at h2
    exact h.at' i b u h1 h2
  · have : i = as.length := by
      have := (List.getElem?_eq_some_iff.mp h1).1
      simp at this; omega
    subst this
    rw [List.getElem?_append_right (Nat.le_refl _)] at h1
    rw [h.len, List.getElem?_append_right (Nat.le_refl _)] at h2
    simp at h1 h2
    subst h1 h2
    exact ha
theorem Tups.left {nw : Led} {as : List Addr} {tr : List Tri} {a : Addr} {t : Tri} (h : Tups nw (as ++ [a]) (tr ++ [t])) : Tups nw as tr ∧ TM nw a t := by
  have hl : as.length = tr.length := by have := h.len; simpa using this
  refine ⟨⟨hl, fun i b u h1 h2 => ?_⟩, ?_⟩
  · have l1 := (List.getElem?_eq_some_iff.mp h1).1
    have l2 := (List.getElem?_eq_some_iff.mp h2).1
    exact h.at' i b u (by rw [List.getElem?_append_left l1]; exact h1) (by rw [List.getElem?_append_left l2]; exact h2)
  · exact h.at' as.length a t (by simp) (by rw [hl]; simp)
theorem LM.isList {h₀ h : Heap} {L v : Addr} {nw : Led} {vs : List Value} (m : LM nw v vs) (N : News h₀ L h nw) : h.IsList v vs.toArray := by
  obtain ⟨n, m⟩ := m
  exact N.isList m
end Mine

end
section
open PySem PySem.W PySem.W.X PyProof.Rows
set_option Elab.async false
set_option maxRecDepth 100000
set_option maxHeartbeats 4000000
set_option linter.unusedVariables false
namespace Mine
local macro_rules | `(tactic| walk_at "eval Name") => `(tactic| (with_unfolding_all refine gname3 (by assumption) (by assumption) (by first | exact g_tick _ | exact g_dec _ | exact g_cmp _ | exact g_red _ | exact g_miss _ | exact g_parts _ | exact g_ahead _ | exact g_more _ | exact g_rule _) ?_))
local macro_rules | `(tactic| walk_at "eval Name") => `(tactic| (with_unfolding_all refine gname0 (by assumption) (by assumption) (by first | exact g_len3 _ | exact g_isi3 _ | exact g_list3 _ | exact g_range3 _ | exact g_sorted3 _ | exact g_iter3 _) (by first | exact g_len _ | exact g_isi _ | exact g_list _ | exact g_range _ | exact g_sorted _ | exact g_iter _) ?_))
theorem asg3 {w : World} {A : Around} {E : Value → Shared → Prop} {s : Shared} {env : Env} {a b c : Str} {pa pb pc tp : Pos} {kk : Nat} {T : Addr} {x y z : Value} {m : Str → Option Value} {Q : Unit → Shared → Prop} (hh : A.handled = none) (ht : s.heap.IsTuple T #[x, y, z])
    (ha : env.kindOf a = some .local) (hb : env.kindOf b = some .local) (hc : env.kindOf c = some .local) (hp : (env.scope.kind == .class || (env.scope.kind == .module && env.locals != env.globals)) = false) (hn : s.heap.Ns env.locals m)
    (h : ∀ (h' : Heap) (tk : Nat), h'.Ns env.locals (fun u => if u = c then some z else if u = b then some y else if u = a then some x else m u) → (∀ c o, c ≠ env.locals → s.heap.get? c = some o → h'.get? c = some o) → Q () { s with heap := h', toks := tk }) :
    wpAny (model prg w) A (assign (.Tuple [.Name a pa, .Name b pb, .Name c pc] kk tp) env (.ref T)) Q E s := by
  refine wpAny_assign_Tuple hh ht rfl rfl fun h₁ he₁ => ?_
  have hL : env.locals ≠ s.heap.objs.size := Nat.ne_of_lt hn.lt
  have hn₁ : h₁.Ns env.locals m := hn.at' fun o e => he₁ _ o hL e
  have up₁ : ∀ c o, s.heap.get? c = some o → h₁.get? c = some o := fun c o e => he₁ c o (Nat.ne_of_lt (Heap.lt_size e)) e
  show wpAny _ _ (assignInOrder [assign (.Name a pa) env, assign (.Name b pb) env, assign (.Name c pc) env] [x, y, z]) _ _ _
  refine assignInOrder_cons ?_
  refine wpAny_assign_Name (wpAny_storeName_local ha hn₁ (fun h₂ hn₂ hs₂ => ?_) hp)
  refine assignInOrder_cons ?_
  refine wpAny_assign_Name (wpAny_storeName_local hb hn₂ (fun h₃ hn₃ hs₃ => ?_) hp)
  refine assignInOrder_cons ?_
  refine wpAny_assign_Name (wpAny_storeName_local hc hn₃ (fun h₄ hn₄ hs₄ => ?_) hp)
  refine assignInOrder_nil ?_
  exact h h₄ _ hn₄ fun c o hc e => hs₄.extBut c o hc (hs₃.extBut c o hc (hs₂.extBut c o hc (up₁ c o e)))
theorem Fr.but {h₀ h h' : Heap} {L : Addr} {m m' : Str → Option Value} (F : Fr h₀ L h m) (hn : h'.Ns L m') (hk : ∀ c o, c ≠ L → h.get? c = some o → h'.get? c = some o) : Fr h₀ L h' m' :=
  ⟨hn, fun b o e => hk b o (Nat.ne_of_lt (Nat.lt_of_lt_of_le (Heap.lt_size e) F.above)) (F.keep b o e), F.above⟩
theorem News.but {h₀ h h' : Heap} {L : Addr} {nw : Led} (N : News h₀ L h nw) (hk : ∀ c o, c ≠ L → h.get? c = some o → h'.get? c = some o) : News h₀ L h' nw :=
  fun p hp => ⟨hk _ _ (N p hp).2.1 (N p hp).1, (N p hp).2⟩
def partTurn : List Stmt := match (topDef 8).body with
  | _ :: .For _ _ b _ _ :: _ => b
  | _ => []
theorem pturn {w : World} {A : Around} {Q : Flow → Shared → Prop} {E : Value → Shared → Prop} {s : Shared} {h₀ : Heap} {L v : Addr} {cd : Value} {m : Str → Option Value} {nw : Led} {as : List Addr} {tr : List Tri} {i : Nat} {n : Int} {t : Tok}
    (X : (KK2 w.params).In h₀) (hA : AOk A 390 900) (F : Fr h₀ L s.heap m) (N : News h₀ L s.heap nw) (mx : m (S "x") = some (.int n t)) (mp : m (S "parts") = some (.ref v)) (hv : LM nw v (as.map Value.ref)) (hT : Tups nw as tr) (ok : TriOk i tr) (hi : i ≤ 30) (h18 : i = 0 → n = 18)
    (k : ∀ h' tk m' nw' v' as' tr', Fr h₀ L h' m' → News h₀ L h' nw' → (∀ p ∈ nw, p ∈ nw') → m' (S "parts") = some (.ref v') → LM nw' v' (as'.map Value.ref) → Tups nw' as' tr' → TriOk (i + 1) tr' → Q .next { s with heap := h', toks := tk }) :
    wpAny (model prg w) A (execs partTurn (envOf (topDef 8).name (topDef 8).scope L 44 cd)) Q E s := by
  conv => arg 3; arg 1; whnf
  iterate 3 walk1
  refine ld (v := .int n t) F mx ?_
  have hd : 0 ≤ n.fmod 90 ∧ n.fmod 90 < 90 := by
    rw [Int.fmod_eq_emod_of_nonneg n (by decide)]; omega
  have h18' : i = 0 → n.fmod 90 = 18 := fun e => by rw [h18 e]; decide
  iterate 3 walk1
  generalize n.fmod 90 = d at *
  have h6 : 0 ≤ d.fmod 6 ∧ d.fmod 6 < 6 := by
    rw [Int.fmod_eq_emod_of_nonneg d (by decide)]; omega
  iterate 8 walk1
  have hlen6 : (Str.ofString "'a'%b\"").length = 6 := by decide +kernel
  refine item_str (by simp [fitsSsize]; omega) (by rw [hlen6]; omega) (by rw [hlen6]; omega) (fun hil => ?_)
  have hck : PyData.strOk (Txt.item (Str.ofString "'a'%b\"") (d.fmod 6)) = true := by
    have h6' : d.fmod 6 = 0 ∨ d.fmod 6 = 1 ∨ d.fmod 6 = 2 ∨ d.fmod 6 = 3 ∨ d.fmod 6 = 4 ∨ d.fmod 6 = 5 := by omega
    rcases h6' with e | e | e | e | e | e <;> rw [e] <;> decide +kernel
  generalize Txt.item (Str.ofString "'a'%b\"") (d.fmod 6) = c at *
  have hc1 : c.length = 1 := Nat.le_antisymm hil.2 hil.1
  iterate 4 walk1
  rename Fr _ _ _ _ => F2
  rename News _ _ _ _ => N2
  obtain ⟨as0, aL, eas⟩ : ∃ pre aL, as = pre ++ [aL] := by
    rcases List.eq_nil_or_concat as with e | ⟨pre, aL, e⟩
    · have h1 := hT.len
      have h2 := ok.ne
      rw [e] at h1; simp at h1; omega
    · exact ⟨pre, aL, by simpa using e⟩
  obtain ⟨tr0, ⟨nn, y, p⟩, etr⟩ : ∃ pre tL, tr = pre ++ [tL] := by
    rcases List.eq_nil_or_concat tr with e | ⟨pre, tL, e⟩
    · have h2 := ok.ne
      rw [e] at h2; simp at h2
    · exact ⟨pre, tL, by simpa using e⟩
  subst eas etr
  obtain ⟨hT0, t1, t2, t3, nt, hTL⟩ := hT.left
  have hlas : as0.length ≤ 40 := by
    have h1 := hT0.len
    have h2 := ok.le
    simp at h2; omega
  have hv2 := hv.isList N2
  simp only [List.map_append, List.map_cons, List.map_nil] at hv2
  refine ld (v := .ref v) F2 mp ?_
  iterate 3 walk1
  refine last_item hv2 ?_
  have hTL2 := N2.isTup hTL
  refine asg3 hA.1 hTL2 (by kernel_rfl) (by kernel_rfl) (by kernel_rfl) (by kernel_rfl) F2.ns fun h3 tk3 hn3 k3 => ?_
  have F3 := Mine.Fr.but F2 hn3 k3
  have N3 := Mine.News.but N2 k3
  clear F2 N2 hn3 k3 hTL2 hv2
  iterate 13 walk1
  walk1
  · iterate 4 walk1
    refine ld (v := .ref v) F3 mp ?_
    iterate 17 walk1
    rename (Addr : Type) => aT
    iterate 2 walk1
    rename News _ _ _ _ => N4
    rename Fr _ _ _ _ => F4
    have hv4 := (hv.mono (nw' := _ :: _ :: nw) fun p hp => .tail _ (.tail _ hp)).isList N4
    refine add_lists F4 N4 hv4 ⟨_, N4.get (.head _), rfl, _, rfl⟩ (fun h5 F5 N5 => ?_) (by simp only [List.length_map, List.length_append, List.length_cons, List.length_nil, sizeLine_eq]; omega)
    dsimp only at N5 ⊢
    clear F4 N4 hv4
    iterate 4 walk1
    rename News _ _ _ _ => N6
    rename Fr _ _ _ _ => F6
    have h18d : 0 ≤ d.fdiv 18 ∧ d.fdiv 18 ≤ 4 := by
      rw [Int.fdiv_eq_ediv_of_nonneg d (by decide)]; omega
    refine k _ _ _ _ _ (as0 ++ [aL] ++ [aT]) (tr0 ++ [(nn, y, p)] ++ [(nn + d.fdiv 18, c, d)]) F6 N6 (fun p hp => .tail _ (.tail _ (.tail _ hp))) rfl ⟨0, ?_⟩ ?_ (ok.app h18d.1 h18d.2 hc1 hck)
    · simp only [List.map_append, List.map_cons, List.map_nil]
      exact .head _
    · refine (hT.mono fun p hp => .tail _ (.tail _ (.tail _ hp))).app ⟨_, _, _, _, .tail _ (.tail _ (.head _))⟩
  · iterate 5 walk1
    refine ld (v := .ref v) F3 mp ?_
    iterate 7 walk1
    have hi1 : 1 ≤ i := by
      rcases Nat.eq_zero_or_pos i with e | e
      · rename _ ≠ _ => hne
        rw [h18' e] at hne
        exact absurd (by decide) hne
      · exact e
    have hv3 := hv.isList N3
    have epick : (slicePick ((as0 ++ [aL]).map Value.ref).toArray none (some (-1)) none).toList = as0.map Value.ref := by
      have := slicePick_butLast ((as0 ++ [aL]).map Value.ref).toArray 1 (Nat.le_refl _)
      rw [show (-1 : Int) = -((1 : Nat) : Int) from rfl, this]
      simp
    refine kmk_slice_lit F3 N3 hv3 .none (.int _ _) epick (fun D h4 F4 N4 l4 => ?_) (by with_unfolding_all rfl) (by intro _; with_unfolding_all rfl) (by simp only [List.size_toArray, List.length_map, List.length_append, List.length_cons, List.length_nil, sizeLine_eq]; omega)
    dsimp only
    clear F3 N3 hv3
    have hyl : y.length ≤ 31 := by
      have := ok.size
      simp only [List.map_append, List.sum_append, List.map_cons, List.map_nil, List.sum_cons, List.sum_nil] at this
      omega
    iterate 9 walk1
    refine add_str (fun t' tk' => ?_) (by show y.length + c.length ≤ _; rw [sizeLine_eq]; omega)
    iterate 4 walk1
    rename (Addr : Type) => aT
    iterate 2 walk1
    rename News _ _ _ _ => N5
    rename Fr _ _ _ _ => F5
    refine add_lists (vs := as0.map Value.ref) F5 N5 ⟨_, N5.get (.tail _ (.tail _ (.head _))), rfl, _, rfl⟩ ⟨_, N5.get (.head _), rfl, _, rfl⟩ (fun h6 F6 N6 => ?_) (by simp only [List.length_map, List.length_append, List.length_cons, List.length_nil, sizeLine_eq]; omega)
    dsimp only at N6 ⊢
    clear F5 N5
    iterate 4 walk1
    rename News _ _ _ _ => N7
    rename Fr _ _ _ _ => F7
    refine k _ _ _ _ _ (as0 ++ [aT]) (tr0 ++ [(nn, y ++ c, p)]) F7 N7 (fun p hp => .tail _ (.tail _ (.tail _ (.tail _ hp)))) rfl ⟨0, ?_⟩ ?_ (ok.mod hi1 hc1 hck)
    · simp only [List.map_append, List.map_cons, List.map_nil]
      exact .head _
    · refine (hT0.mono fun p hp => .tail _ (.tail _ (.tail _ (.tail _ hp)))).app ⟨_, _, _, _, .tail _ (.tail _ (.head _))⟩
end Mine

end
section
open PySem PySem.W PySem.W.X PyProof.Rows
set_option Elab.async false
set_option maxRecDepth 100000
set_option maxHeartbeats 4000000
set_option linter.unusedVariables false
namespace Mine
local macro_rules | `(tactic| walk_at "eval Name") => `(tactic| (with_unfolding_all refine gname3 (by assumption) (by assumption) (by first | exact g_tick _ | exact g_dec _ | exact g_cmp _ | exact g_red _ | exact g_miss _ | exact g_parts _ | exact g_ahead _ | exact g_more _ | exact g_rule _) ?_))
local macro_rules | `(tactic| walk_at "eval Name") => `(tactic| (with_unfolding_all refine gname0 (by assumption) (by assumption) (by first | exact g_len3 _ | exact g_isi3 _ | exact g_list3 _ | exact g_range3 _ | exact g_sorted3 _ | exact g_iter3 _) (by first | exact g_len _ | exact g_isi _ | exact g_list _ | exact g_range _ | exact g_sorted _ | exact g_iter _) ?_))
theorem LM.off {h₀ h : Heap} {L I v : Addr} {nw : Led} {vs : List Value} {oI : Obj} (m : LM nw v vs) (N : News h₀ L h nw) (hI : (I, oI) ∈ nw) (hc : oI.cls ≠ .type "list") : LM (nw.filter fun p => decide (p.1 ≠ I)) v vs := by
  obtain ⟨n, m⟩ := m
  refine ⟨n, List.mem_filter.mpr ⟨m, ?_⟩⟩
  rw [decide_eq_true_eq]
  intro e
  have h1 := (N _ m).1
  have h2 := (N _ hI).1
  simp only at h1 h2 e
  rw [e, h2] at h1; cases h1; exact hc rfl
theorem TM.off {h₀ h : Heap} {L I a : Addr} {nw : Led} {t : Tri} {oI : Obj} (m : TM nw a t) (N : News h₀ L h nw) (hI : (I, oI) ∈ nw) (hc : oI.cls ≠ .type "tuple") : TM (nw.filter fun p => decide (p.1 ≠ I)) a t := by
  obtain ⟨t1, t2, t3, n, m⟩ := m
  refine ⟨t1, t2, t3, n, List.mem_filter.mpr ⟨m, ?_⟩⟩
  rw [decide_eq_true_eq]
  intro e
  have h1 := (N _ m).1
  have h2 := (N _ hI).1
  simp only at h1 h2 e
  rw [e, h2] at h1; cases h1; exact hc rfl
theorem parts_loop {w : World} {A : Around} {E : Value → Shared → Prop} {R : Result → Shared → Prop} {s : Shared} {h₀ : Heap} {L q v0 : Addr} {cd : Value} {m : Str → Option Value} {nw : Led} {vs : List Value} {ns : List Int} {as0 : List Addr} {tr0 : List Tri} {px : Pos}
    (X : (KK2 w.params).In h₀) (hA : AOk A 390 900) (F : Fr h₀ L s.heap m) (N : News h₀ L s.heap nw) (hq : LM nw q vs) (hi : IntsAre vs ns) (hlen : ns.length ≤ 22) (h18 : ns[0]? = some 18)
    (mp : m (S "parts") = some (.ref v0)) (hv : LM nw v0 (as0.map Value.ref)) (hT : Tups nw as0 tr0) (ok : TriOk 0 tr0)
    (done : ∀ h' tk m' nw' v as tr, Fr h₀ L h' m' → News h₀ L h' nw' → m' (S "parts") = some (.ref v) → LM nw' v (as.map Value.ref) → Tups nw' as tr → TriOk ns.length tr → R (.ok .next) { s with heap := h', toks := tk }) :
    wpAny (model prg w) A (pyIter (.ref q)) (fun it s₂ => codeAny (model prg w) A (.forLoop (.Name (S "x") px) it partTurn [] (envOf (topDef 8).name (topDef 8).scope L 44 cd)) R s₂) E s := by
  have hvl : vs.length = ns.length := hi.length
  refine wpAny_pyIter_list (hq.isList N) ?_
  have F1 : Fr h₀ L (s.heap.push { cls := .type "list_iterator", data := .fields #[.ref q, .int 0 0] }) m := F.push _
  have N1 : News h₀ L (s.heap.push { cls := .type "list_iterator", data := .fields #[.ref q, .int 0 0] }) ((s.heap.objs.size, _) :: nw) := N.push F _
  have off : ∀ p ∈ nw, p.1 ≠ s.heap.objs.size := fun p hp => Nat.ne_of_lt (Heap.lt_size (N p hp).1)
  generalize s.heap.objs.size = I at *
  generalize s.heap.push _ = h1 at *
  have hIL : I ≠ L := N1.ne (.head _)
  have hI0 : h₀.get? I = none := N1.fresh (.head _)
  refine loopL (q := q) (vs := vs) (fun i s' => ∃ (h' : Heap) (tk : Nat) (m' : Str → Option Value) (nw' : Led) (v : Addr) (as : List Addr) (tr : List Tri), s' = { s with heap := h', toks := tk } ∧ Fr h₀ L h' m' ∧ News h₀ L h' nw' ∧ (∀ p ∈ nw', p.1 ≠ I) ∧ LM nw' q vs ∧
      h'.IsListIter I q i ∧ m' (S "parts") = some (.ref v) ∧ LM nw' v (as.map Value.ref) ∧ Tups nw' as tr ∧ TriOk i tr) hA.1 ?hit ?turn ?done ?start
  case hit =>
    rintro i s' ⟨h', tk', m', nw', v, as, tr, rfl, F', N', off', hq', hit', _⟩
    exact ⟨hit', hq'.isList N'⟩
  case start => exact ⟨h1, _, m, nw, v0, as0, tr0, rfl, F1, fun p hp => N1 p (.tail _ hp), off, hq, ⟨_, N1.get (.head _), rfl, rfl⟩, mp, hv, hT, ok⟩
  case done =>
    rintro s' h5 ⟨h', tk', m', nw', v, as, tr, rfl, F', N', off', hq', hit', mp', hv', hT', ok'⟩ he
    have s0 : ∀ {b : Addr} {o : Obj}, h₀.get? b = some o → b ≠ I := fun {b o} e q => by rw [q, hI0] at e; cases e
    have F5 : Fr h₀ L h5 m' := ⟨F'.ns.extBut he (Ne.symm hIL), fun b o e => he b o (s0 e) (F'.keep b o e), F'.above⟩
    have N5 : News h₀ L h5 nw' := fun p hp => ⟨he _ _ (off' p hp) (N' p hp).1, (N' p hp).2⟩
    rw [hvl] at ok'
    exact done h5 _ m' nw' v as tr F5 N5 mp' hv' hT' ok'
  case turn =>
    rintro i s' vv h5 hlt hvv ⟨h', tk', m', nw', v, as, tr, rfl, F', N', off', hq', hit', mp', hv', hT', ok'⟩ hit5 hs5
    have s0 : ∀ {b : Addr} {o : Obj}, h₀.get? b = some o → b ≠ I := fun {b o} e q => by rw [q, hI0] at e; cases e
    have F5 : Fr h₀ L h5 m' := ⟨F'.ns.sameBut hs5 (Ne.symm hIL), fun b o e => hs5.extBut b o (s0 e) (F'.keep b o e), F'.above⟩
    obtain ⟨oI, hoI, hcI, hdI⟩ := id hit5
    have N5 : News h₀ L h5 ((I, oI) :: nw') := fun p hp => by
      rcases List.mem_cons.mp hp with rfl | hp
      · exact ⟨hoI, hIL, hI0⟩
      · exact ⟨hs5.extBut _ _ (off' p hp) (N' p hp).1, (N' p hp).2⟩
    have hin : i < ns.length := by rw [← hvl]; exact hlt
    obtain ⟨t, ht⟩ := hi.get i ns[i] (List.getElem?_eq_getElem hin)
    obtain rfl : vv = .int ns[i] t := by rw [ht] at hvv; exact (Option.some.inj hvv).symm
    refine wpAny_assign_Name (wpAny_storeName_local (by kernel_rfl) F5.ns (fun h6 hn6 hs6 => ?_) (by kernel_rfl))
    have F6 : Fr h₀ L h6 _ := F5.set hn6 hs6
    have N6 := N5.set hs6
    refine pturn (s := { s with heap := h6, toks := tk' + 1 }) X hA F6 N6 (n := ns[i]) (t := t) rfl (v := v) mp' (hv'.mono fun p hp => .tail _ hp) (hT'.mono fun p hp => .tail _ hp) ok' (by omega) (fun e => ?_) fun h7 tk7 m7 nw7 v7 as7 tr7 F7 N7 sub7 mp7 hv7 hT7 ok7 => ?_
    · subst e
      rw [List.getElem?_eq_getElem hin] at h18
      exact Option.some.inj h18
    · have hI7 : (I, oI) ∈ nw7 := sub7 _ (.head _)
      have hcl : oI.cls ≠ .type "list" := by rw [hcI]; decide
      have hct : oI.cls ≠ .type "tuple" := by rw [hcI]; decide
      refine ⟨rfl, h7, tk7, m7, nw7.filter fun p => decide (p.1 ≠ I), v7, as7, tr7, rfl, F7, fun p hp => N7 p (List.mem_filter.mp hp).1, fun p hp => by simpa using (List.mem_filter.mp hp).2, (hq'.mono fun p hp => sub7 _ (.tail _ hp)).off N7 hI7 hcl, ⟨oI, N7.get hI7, hcI, hdI⟩, mp7, hv7.off N7 hI7 hcl, ⟨hT7.len, fun j b u h1 h2 => (hT7.at' j b u h1 h2).off N7 hI7 hct⟩, ok7⟩
theorem part_lk (P : Params) : (KK2 P).lookup 44 = some ⟨.type "function", none, .func (Calls.docDef (topDef 8).name (topDef 8).args (topDef 8).body (topDef 8).scope (fnK P 44).pyModule (fnK P 44).code (fnK P 44).doc), #[]⟩ := by kernel_rfl
theorem part_cd (P : Params) : codeIn (KK2 P) (fnK P 44).code (topDef 8).name = true := by kernel_rfl
theorem part_bd (P : Params) (u : Value) : bindArgs (Calls.docDef (topDef 8).name (topDef 8).args (topDef 8).body (topDef 8).scope (fnK P 44).pyModule (fnK P 44).code (fnK P 44).doc) ⟨[u], []⟩ = pure [(S "script", u)] := by kernel_rfl
theorem parts_ok {w : World} {A : Around} {Q : Value → Shared → Prop} {E : Value → Shared → Prop} {s : Shared} {l : Addr} {vs : List Value} {ns : List Int} (X : (KK2 w.params).In s.heap) (hA : AOk A 380 800) (hl : s.heap.IsList l vs.toArray) (hi : IntsAre vs ns) (hlen : ns.length ≤ 63)
    (k : ∀ h' tk r (as : List Addr) (tr : List Tri) (L : Addr) nw (i : Nat), 2 ≤ i → i ≤ 22 → Kx [] s.heap h' → News s.heap L h' nw → LM nw r (as.map Value.ref) → Tups nw as tr → TriOk i tr → Q (.ref r) { s with heap := h', toks := tk }) :
    wpAny (model prg w) A (call (.ref 44) [.ref l]) Q E s := by
  refine callK 8 44 _ X (Nat.lt_of_le_of_lt hA.2 (by decide)) (part_lk _) (part_cd _) (part_bd _ _) (locs (by kernel_rfl)) (by decide +kernel) fun L h1 tk nL F X1 => ?_
  have N : News s.heap L h1 [] := News.nil
  have hhd : (A.deeper (tenv 8 44 (fnK w.params 44).code L)).handled = none := hA.1
  have hAd : AOk (A.deeper (tenv 8 44 (fnK w.params 44).code L)) 390 900 := hA.deeper.mono (by decide) (by decide)
  have hvl : vs.length = ns.length := hi.length
  unfold tenv at hAd hhd ⊢
  conv => arg 3; arg 1; whnf
  have hl1 := hl.at fun o e => F.keep l o e
  have ez : vs.toArray.size = ns.length := by simp [hvl]
  iterate 19 walk1
  refine len_list hl1 (by rw [ez]; omega) ?_
  rw [ez]
  iterate 13 walk1
  refine wpAny_For ?_
  iterate 15 walk1
  rename Fr _ _ _ _ => F2
  have hl2 := hl.at fun o e => F2.keep l o e
  refine len_list hl2 (by rw [ez]; omega) ?_
  rw [ez]
  iterate 15 walk1
  rename Fr _ _ _ _ => F3
  rename News _ _ _ _ => N3
  rename IntsAre _ (List.take 20 ns) => hi20
  have h20 : (List.take 20 ns).length ≤ 20 := by rw [List.length_take]; omega
  have hl20 := hi20.length
  refine add_lists F3 N3 ⟨_, N3.get (.tail _ (.head _)), rfl, _, rfl⟩ ⟨_, N3.get (.head _), rfl, _, rfl⟩ (fun h4 F4 N4 => ?_) (by rw [sizeLine_eq, hl20]; show 2 + _ ≤ _; omega)
  dsimp only at N4 ⊢
  generalize Heap.objs _ = hobs at *
  generalize hobs.size = q at *
  have hmul : (Txt.mul (Str.ofString "u") (1 - ((ns.length : Nat) : Int).fmod 2)).length ≤ 1 := by
    rename 0 ≤ _ → _ => hN
    have e2 : 0 ≤ ((ns.length : Nat) : Int).fmod 2 ∧ ((ns.length : Nat) : Int).fmod 2 < 2 := by
      rw [Int.fmod_eq_emod_of_nonneg _ (by decide)]; omega
    have := hN (by omega)
    omega
  have hmulk : PyData.strOk (Txt.mul (Str.ofString "u") (1 - ((ns.length : Nat) : Int).fmod 2)) = true := by
    have e2 : ((ns.length : Nat) : Int).fmod 2 = 0 ∨ ((ns.length : Nat) : Int).fmod 2 = 1 := by
      rw [Int.fmod_eq_emod_of_nonneg _ (by decide)]; omega
    rcases e2 with e | e <;> rw [e] <;> decide +kernel
  refine parts_loop (as0 := [_]) (tr0 := [(0, Txt.mul (Str.ofString "u") (1 - ((ns.length : Nat) : Int).fmod 2), 0)]) (ns := [18, 19 - (((ns.length : Nat) : Int).fdiv 2).fmod 2] ++ List.take 20 ns) X hAd F4 N4 ⟨0, .head _⟩ (IntsAre.append (.cons _ _ (.cons _ _ .nil)) hi20) (by simp only [List.length_append, List.length_cons, List.length_nil]; omega) rfl rfl ⟨0, .tail _ (.tail _ (.tail _ (.head _)))⟩ ⟨rfl, fun i a t h1 h2 => ?ta⟩ (TriOk.start hmul hmulk) ?dn
  case ta =>
    cases i with
    | zero =>
      simp at h1 h2
      subst h1 h2
      exact ⟨_, _, _, _, .tail _ (.tail _ (.tail _ (.tail _ (.head _))))⟩
    | succ i => simp at h1
  case dn =>
    intro h5 tk5 m5 nw5 v as tr F5 N5 mp5 hv5 hT5 ok5
    dsimp only
    refine wpAny_execs_cons (wpAny_Return_some (ld (v := .ref v) F5 mp5 ?_))
    exact k h5 _ v as tr L nw5 _ (by simp only [List.length_append, List.length_cons, List.length_nil]; omega) (by simp only [List.length_append, List.length_cons, List.length_nil]; omega) (Fkx F5) N5 hv5 hT5 ok5
end Mine

end
section
open PySem PySem.W PySem.W.X PyProof.Rows
set_option Elab.async false
set_option maxRecDepth 100000
set_option maxHeartbeats 1000000
set_option linter.unusedVariables false
namespace Mine
local macro_rules | `(tactic| walk_at "eval Name") => `(tactic| (with_unfolding_all refine gname3 (by assumption) (by assumption) (by first | exact g_tick _ | exact g_dec _ | exact g_cmp _ | exact g_red _ | exact g_miss _ | exact g_parts _ | exact g_ahead _ | exact g_more _ | exact g_rule _) ?_))
local macro_rules | `(tactic| walk_at "eval Name") => `(tactic| (with_unfolding_all refine gname0 (by assumption) (by assumption) (by first | exact g_len3 _ | exact g_isi3 _ | exact g_list3 _ | exact g_range3 _ | exact g_sorted3 _ | exact g_iter3 _) (by first | exact g_len _ | exact g_isi _ | exact g_list _ | exact g_range _ | exact g_sorted _ | exact g_iter _) ?_))
theorem loopT {w : World} {A : Around} {s : Shared} {R : Result → Shared → Prop} {elts : List PySem.Expr} {x1 : Nat} {tp : Pos} {body : List Stmt} {env : Env} {I q : Addr} {ps : List Addr} (J : Nat → Shared → Prop) (hh : A.handled = none)
    (hit : ∀ i s', J i s' → s'.heap.IsListIter I q i ∧ s'.heap.IsList q (ps.map Value.ref).toArray)
    (turn : ∀ i s' p h5, i < ps.length → ps[i]? = some p → J i s' → h5.IsListIter I q (i + 1) → Heap.SameBut I s'.heap h5 →
      wpAny (model prg w) A (assign (.Tuple elts x1 tp) env (.ref p)) (fun _ s₂ => wpAny (model prg w) A (execs body env) (fun f s₃ => f = .next ∧ J (i + 1) s₃) (fun _ _ => False) s₂) (fun _ _ => False) { s' with heap := h5 })
    (done : ∀ s' h5, J ps.length s' → Heap.ExtBut I s'.heap h5 → R (.ok .next) { s' with heap := h5 }) (start : J 0 s) :
    codeAny (model prg w) A (.forLoop (.Tuple elts x1 tp) (.ref I) body [] env) R s := by
  refine codeAny_loop' rfl (fun n s' => ∃ i, J i s' ∧ i ≤ ps.length ∧ n = ps.length + 1 - i) (fun n s' hI => ?_) (ps.length + 1) ⟨0, start, Nat.zero_le _, rfl⟩
  obtain ⟨i, hJ, hi, rfl⟩ := hI
  obtain ⟨h1, h2⟩ := hit i s' hJ
  show wpAny _ _ ((forTurn (.Tuple elts x1 tp) (.ref I) body [] env).onRaise (fun x => do noteFrame x env; theTreesLotGoes x)) _ _ s'
  refine wpAny_noted ?_
  simp only [forTurn]
  by_cases hlt : i < ps.length
  · refine wpAny_bind (wpAny_standAt (wpAny_bind (wpAny_onRaise (wpAny_pyNext_list_item h1 h2 (x := .ref ps[i]) (by simp [hlt]) fun h5 hit5 hs5 => ?_))))
    refine wpAny_bind (wpAny_letOwnedTupleGo_listiter hit5 ?_)
    refine wpAny_bind (wpAny_mono (turn i s' _ h5 hlt (List.getElem?_eq_getElem hlt) hJ hit5 hs5) (fun _ s₂ h₂ => wpAny_bind (wpAny_mono h₂ (fun f s₃ h₃ => ?_) fun _ _ x => x.elim)) fun _ _ x => x.elim)
    obtain ⟨rfl, h₃⟩ := h₃
    exact wpAny_pure (.inl ⟨rfl, ps.length + 1 - (i + 1), by omega, i + 1, h₃, hlt, rfl⟩)
  · have e : i = ps.length := by omega
    subst e
    refine wpAny_bind (wpAny_standAt (wpAny_bind (wpAny_onRaise (wpAny_pyNext_list_end hh h1 h2 (by simp) fun h5 he5 => ?_))))
    exact wpAny_pure (.inr ⟨rfl, codeAny_block (wpAny_execs_nil (done s' h5 hJ he5))⟩)
theorem comp_ones {w : World} {A : Around} {E : Value → Shared → Prop} {s : Shared} {env : Env} {one other : Str} {pe p1 p2 tp pos : Pos} {kk : Nat} {iter : PySem.Expr} {scope : Scope} {Q : Value → Shared → Prop} {ax : Addr} {ps : List Addr} {vals : List Value}
    (hh : A.handled = none) (hl : s.heap.IsList ax (ps.map Value.ref).toArray) (hlen : ps.length ≤ 100) (hvl : vals.length = ps.length) (ht : ∀ (j : Nat) (p : Addr) (v : Value), ps[j]? = some p → vals[j]? = some v → ∃ u, s.heap.IsTuple p #[v, u])
    (hfree : ∀ y ∈ scope.names, y.2 ≠ .free) (hcell : ∀ y ∈ scope.names, y.2 ≠ .cell) (hkind : scope.kind = .function) (hnames : ∀ y ∈ scope.names, y.2 = .local → scope.names.lookup y.1 = some .local)
    (h1 : scope.names.lookup one = some .local) (h2 : scope.names.lookup other = some .local) (h12 : one ≠ other) (hdb : (one == ("__debug__" : Str)) = false)
    (hit0 : ∀ Q' : Value → Shared → Prop, Q' (.ref ax) s → wpAny (model prg w) A (eval iter env) Q' E s)
    (hQ : ∀ D h' tk, s.heap.get? D = none → h'.IsList D vals.toArray → (∀ b o, s.heap.get? b = some o → h'.get? b = some o) → Q (.ref D) { s with heap := h', toks := tk })
    (hs : ∀ x, foldedSetIterable iter env x = pure x := by intro _; rfl) :
    wpAny (model prg w) A (eval (.ListComp (.Name one pe) [⟨.Tuple [.Name one p1, .Name other p2] kk tp, iter, [], 0⟩] scope pos) env) Q E s := by
  refine wpAny_ListComp hfree hkind hnames (hit0 _ ?_) hs
  refine wpAny_pyIter_list hl (wpAny_newObj_type (hd := by size_fits) (wpAny_newFunctionEnv hcell (by intro y hy; simp at hy) (fun h₁ hns₁ hsb₁ => ?_) hkind))
  dsimp only at hns₁ hsb₁ ⊢
  obtain ⟨ol, hol, hol'⟩ := id hl
  have hax : ax < s.heap.objs.size := Heap.lt_size hol
  generalize hH1 : s.heap.push { cls := .type "list_iterator", data := .fields #[.ref ax, .int 0 0] } = H1 at hns₁ hsb₁ ⊢
  have hD : H1.objs.size = s.heap.objs.size + 1 := by rw [← hH1, Heap.size_push]
  generalize hH2 : H1.push { cls := .type "list", dict := none, data := .seq ([] : List Value).toArray } = H2 at hns₁ hsb₁ ⊢
  have hC : H2.objs.size = s.heap.objs.size + 2 := by rw [← hH2, Heap.size_push, hD]
  have hDI : H1.objs.size ≠ s.heap.objs.size := by rw [hD]; exact Nat.succ_ne_self _
  have hDC : H1.objs.size ≠ H2.objs.size := by rw [hD, hC]; exact Nat.ne_of_lt (Nat.lt_succ_self _)
  have hIC : s.heap.objs.size ≠ H2.objs.size := by rw [hC]; exact Nat.ne_of_lt (Nat.lt_succ_of_lt (Nat.lt_succ_self _))
  have below : ∀ b, b < s.heap.objs.size → b ≠ H2.objs.size ∧ b ≠ s.heap.objs.size ∧ b ≠ H1.objs.size := fun b hb =>
    ⟨by rw [hC]; exact Nat.ne_of_lt (Nat.lt_succ_of_lt (Nat.lt_succ_of_lt hb)), Nat.ne_of_lt hb, by rw [hD]; exact Nat.ne_of_lt (Nat.lt_succ_of_lt hb)⟩
  have old : ∀ b o, s.heap.get? b = some o → h₁.get? b = some o := fun b o e =>
    hsb₁.extBut b o (below b (Heap.lt_size e)).1 (Heap.get?_push_of_some _ (hH2 ▸ Heap.get?_push_of_some _ (hH1 ▸ Heap.get?_push_of_some _ e)))
  have hit : h₁.IsListIter s.heap.objs.size ax 0 :=
    ⟨_, hsb₁.extBut _ _ hIC (Heap.get?_push_of_some _ (hH2 ▸ Heap.get?_push_of_some _ (hH1 ▸ Heap.get?_push_size _ rfl))), rfl, rfl⟩
  have hacc : h₁.IsList H1.objs.size #[] := ⟨_, hsb₁.extBut _ _ hDC (Heap.get?_push_of_some _ (hH2 ▸ Heap.get?_push_size _ rfl)), rfl, _, rfl⟩
  have hnew : s.heap.get? H1.objs.size = none := Heap.get?_none_of_le (by rw [hD]; exact Nat.le_succ _)
  have axn := below ax hax
  generalize hCn : H2.objs.size = C at *
  generalize hDn : H1.objs.size = D at *
  generalize hIn : s.heap.objs.size = I at *
  have loop : ∀ s₂ : Shared, s₂ = { s with heap := h₁, toks := s.toks + ([] : List (Str × Value)).length } →
      codeAny (model prg w) A (.compLoop (.ListComp (.Name one pe) [⟨.Tuple [.Name one p1, .Name other p2] kk tp, iter, [], 0⟩] scope pos) 0 (.ref I) (.ref D) (compEnv scope C env))
        (fun r s' => ∃ m, s'.heap.Ns C m ∧ ∀ h', Heap.SameBut C s'.heap h' →
          match r with | .ok _ => Q (.ref D) { s' with heap := h' } | .error x => wpAny (model prg w) A (passOn "comprehension.variables-let-go" x (compEnv scope C env)) Q E { s' with heap := h' }) s₂ := by
    rintro s₂ rfl
    refine PyProof.Rows.LCp.codeAny_compLoop_pair
      (fun k s' => ∃ h' tk m' i, s' = { s with heap := h', toks := tk } ∧ h'.IsListIter I ax i ∧ h'.IsList D (vals.take i).toArray ∧ h'.Ns C m' ∧ i ≤ ps.length ∧ k = ps.length + 1 - i ∧
        ∀ b o, b ≠ C → b ≠ I → b ≠ D → h₁.get? b = some o → h'.get? b = some o) ?_ (ps.length + 1)
      ⟨h₁, _, _, 0, rfl, hit, by simpa using hacc, hns₁, Nat.zero_le _, rfl, fun _ _ _ _ _ e => e⟩
    rintro k s' ⟨H, tk, m', i, rfl, hit', hacc', hn', hi, rfl, hk⟩
    have hlH : H.IsList ax (ps.map Value.ref).toArray := hl.at fun o e => hk ax o axn.1 axn.2.1 axn.2.2 (old _ _ e)
    by_cases hlt : i < ps.length
    · have hpi := List.getElem?_eq_getElem hlt
      have hvi := List.getElem?_eq_getElem (l := vals) (i := i) (by omega)
      obtain ⟨u, o, ho, hot⟩ := ht i _ _ hpi hvi
      have hpb := below ps[i] (by rw [← hIn]; exact Heap.lt_size ho)
      refine wpAny_pyNext_list_item hit' hlH (x := .ref ps[i]) (by simp [hlt]) fun h₂ hit₂ hs₂ => ?_
      have htp : h₂.IsTuple ps[i] #[vals[i], u] := ⟨o, hs₂.extBut _ _ hpb.2.1 (hk _ _ hpb.1 hpb.2.1 hpb.2.2 (old _ _ ho)), hot⟩
      refine wpAny_letOwnedTupleGo_listiter hit₂ ?_
      refine kcp_assign (env := compEnv scope C env) hh htp h1 h2 (by simp [compEnv, hkind]) (hn'.sameBut hs₂ (Ne.symm hIC)) fun h₃ tk₃ hn₃ hk₃ => ?_
      refine wpAny_Name (wpAny_loadName_local (env := compEnv scope C env) hkind h1 hn₃ (show _ = some vals[i] by simp [h12]) ?_) hdb
      have hacc₃ : h₃.IsList D (vals.take i).toArray := hacc'.at fun o e => hk₃ _ _ hDC (hs₂.extBut _ _ hDI e)
      refine wpAny_list_append (hsz := by rw [sizeLine_eq]; simp; omega) hacc₃ fun h₄ hl₄ hs₄ => ?_
      refine ⟨ps.length + 1 - (i + 1), by omega, h₄, _, _, i + 1, rfl, ?_, ?_, hn₃.sameBut hs₄ (Ne.symm hDC), hlt, rfl, ?_⟩
      · exact (hit₂.at fun o e => hk₃ _ _ hIC e).extBut hs₄.extBut (Ne.symm hDI)
      · have e : (vals.take i).toArray.push vals[i] = (vals.take (i + 1)).toArray := by rw [List.take_add_one, hvi]; simp
        rw [← e]; exact hl₄
      · exact fun b o n1 n2 n3 e => hs₄.extBut b o n3 (hk₃ b o n1 (hs₂.extBut b o n2 (hk b o n1 n2 n3 e)))
    · have e : i = ps.length := by omega
      subst e
      refine wpAny_pyNext_list_end hh hit' hlH (by simp) fun h₂ he₂ => ?_
      refine ⟨m', hn'.extBut he₂ (Ne.symm hIC), fun h₃ hs₃ => ?_⟩
      refine hQ D h₃ _ hnew ?_ fun b o e => ?_
      · have := (hacc'.extBut he₂ hDI).extBut hs₃.extBut hDC
        rw [List.take_of_length_le (by omega)] at this
        exact this
      · have hb := below b (by rw [← hIn]; exact Heap.lt_size e)
        exact hs₃.extBut b o hb.1 (he₂ b o hb.2.1 (hk b o hb.1 hb.2.1 hb.2.2 (old b o e)))
  exact codeAny_compStart_list (loop _ rfl) (wpAny_pyIter_listiter hit (loop _ rfl))
end Mine

end
section
open PySem PySem.W PySem.W.X PyProof.Rows
set_option Elab.async false
set_option maxRecDepth 100000
set_option maxHeartbeats 4000000
set_option linter.unusedVariables false
namespace Mine
local macro_rules | `(tactic| walk_at "eval Name") => `(tactic| (with_unfolding_all refine gname3 (by assumption) (by assumption) (by first | exact g_tick _ | exact g_dec _ | exact g_cmp _ | exact g_red _ | exact g_miss _ | exact g_parts _ | exact g_ahead _ | exact g_more _ | exact g_rule _) ?_))
local macro_rules | `(tactic| walk_at "eval Name") => `(tactic| (with_unfolding_all refine gname0 (by assumption) (by assumption) (by first | exact g_len3 _ | exact g_isi3 _ | exact g_list3 _ | exact g_range3 _ | exact g_sorted3 _ | exact g_iter3 _) (by first | exact g_len _ | exact g_isi _ | exact g_list _ | exact g_range _ | exact g_sorted _ | exact g_iter _) ?_))
def lawTurn : List Stmt := match (topDef 12).body with
  | _ :: _ :: _ :: .For _ _ b _ _ :: _ => b
  | _ => []
theorem fits_i {k : Int} (h : 0 ≤ k ∧ k < 2 ^ 62) : Builtin.List.listFitsIndex k = true := by
  unfold Builtin.List.listFitsIndex
  simp only [Bool.and_eq_true, decide_eq_true_eq]
  omega
theorem ins_list {w : World} {A : Around} {E : Value → Shared → Prop} {s : Shared} {l : Addr} {vs : List Value} {n : Nat} {i : Nat} {u : Tok} {y : Value} {Q : Value → Shared → Prop} (hl : s.heap.get? l = some ⟨.type "list", none, .seq vs.toArray n, #[]⟩) (hi : i ≤ vs.length) (hv : vs.length ≤ 1000)
    (k : ∀ h' n', h'.get? l = some ⟨.type "list", none, .seq (vs.take i ++ y :: vs.drop i).toArray n', #[]⟩ → Heap.SameBut l s.heap h' → Q .none { s with heap := h' }) :
    wpAny (model prg w) A (call (.builtin "list.insert") [.ref l, .int (i : Int) u, y]) Q E s := by
  have hfit : ¬(!Builtin.List.listFitsIndex (i : Int)) = true := by
    have : Builtin.List.listFitsIndex (i : Int) = true := fits_i (by omega)
    simp [this]
  have hz : vs.toArray.size ≤ sizeLine := by show vs.length ≤ _; rw [sizeLine_eq]; omega
  have e1 : ¬ (i : Int) < 0 := by omega
  have e2 : min ((i : Nat) : Int).toNat vs.toArray.size = i := by simp; omega
  have e3 : ((vs.toArray.extract 0 i).push y ++ vs.toArray.extract i) = (vs.take i ++ y :: vs.drop i).toArray := by
    apply Array.toList_inj.mp
    simp [List.extract]
    exact List.take_of_length_le (by simp)
  generalize (i : Int) = xi at *
  have hM := PySem.AutoListH.list_insert_list_int_val_1 l vs.toArray n xi u y hfit hz
  refine call_meets PySem.F.slot_list_insert ⟨_, hl, rfl⟩ PySem.F.entry_list_insert (PySem.F.args_list_insert_3 _ _ _) hM ⟨hl, ?_⟩
  refine k _ (if ((List.take i vs ++ y :: List.drop i vs).toArray.size == vs.toArray.size) = true then n else n + 1) ?_ (Heap.SameBut.update ..)
  rw [Heap.get?_update_self _ hl rfl]
  simp only [Obj.mapSeq, e1, if_false, e2, e3]
theorem app_list {w : World} {A : Around} {E : Value → Shared → Prop} {s : Shared} {l : Addr} {vs : List Value} {n : Nat} {y : Value} {Q : Value → Shared → Prop} (hl : s.heap.get? l = some ⟨.type "list", none, .seq vs.toArray n, #[]⟩) (hv : vs.length ≤ 1000)
    (k : ∀ h' n', h'.get? l = some ⟨.type "list", none, .seq (vs ++ [y]).toArray n', #[]⟩ → Heap.SameBut l s.heap h' → Q .none { s with heap := h' }) :
    wpAny (model prg w) A (call (.builtin "list.append") [.ref l, y]) Q E s := by
  refine wpAny_call_entry slot_list_append ⟨_, hl, rfl⟩ entry_list_append ?_ (args_list_append _ _)
  show wpAny _ _ (updateSeq l (·.push y) >>= fun _ => ret .none) _ _ s
  refine wpAny_bind ?_
  refine wpAny_updateSeq hl rfl (hz := by rw [List.size_toArray, sizeLine_eq]; omega) (wpAny_pure ⟨.none, rfl, k _ (n + 1) ?_ (Heap.SameBut.update ..)⟩)
  rw [Heap.get?_update_self _ hl rfl]
  simp [Obj.mapSeq]
theorem vals_of {h : Heap} : ∀ {ps : List Addr} {ns : List Int}, ns.length = ps.length → (∀ (j : Nat) (p : Addr) (q : Int), ps[j]? = some p → ns[j]? = some q → ∃ t u, h.IsTuple p #[.int q t, u]) →
    ∃ vals : List Value, vals.length = ps.length ∧ IntsAre vals ns ∧ ∀ (j : Nat) (p : Addr) (v : Value), ps[j]? = some p → vals[j]? = some v → ∃ u, h.IsTuple p #[v, u]
  | [], [], _, _ => ⟨[], rfl, .nil, fun j p v h1 => by simp at h1⟩
  | p :: ps, q :: ns, hl, hh => by
    obtain ⟨t, u, h0⟩ := hh 0 p q rfl rfl
    obtain ⟨vals, a1, a2, a3⟩ := vals_of (ps := ps) (ns := ns) (by simpa using hl) fun j p q h1 h2 => hh (j + 1) p q (by simpa using h1) (by simpa using h2)
    refine ⟨.int q t :: vals, by simp [a1], .cons _ _ a2, fun j p' v h1 h2 => ?_⟩
    cases j with
    | zero => simp at h1 h2; subst h1 h2; exact ⟨u, h0⟩
    | succ j => exact a3 j p' v (by simpa using h1) (by simpa using h2)
  | [], _ :: _, hl, _ => by simp at hl
  | _ :: _, [], hl, _ => by simp at hl
def lawTail : List Stmt := match lawTurn with
  | _ :: r => r
  | _ => []
theorem ltail {w : World} {A : Around} {Q : Flow → Shared → Prop} {E : Value → Shared → Prop} {s : Shared} {h₀ : Heap} {L dA : Addr} {cd : Value} {m : Str → Option Value} {vs : List Value} {x y : Str} {t2 t4 : Tok} {e2 : Nat} {pv : Value}
    (X : (KK2 w.params).In h₀) (hA : AOk A 380 800) (F : Fr h₀ L s.heap m) (mc : m (S "piece") = some (.str y t2)) (mp : m (S "pile") = some pv) (mw : m (S "whole") = some (.str x t4)) (mdu : m (S "due") = some (.ref dA))
    (hd : s.heap.get? dA = some ⟨.type "list", none, .seq vs.toArray e2, #[]⟩) (dL : dA ≠ L) (hd0 : h₀.get? dA = none) (hvl : vs.length ≤ 60) (hx : x.length + y.length ≤ 300)
    (k : ∀ h' tk m' a t e2, Fr h₀ L h' m' → m' (S "pile") = some pv → m' (S "whole") = some (.str (x ++ y) t) → m' (S "due") = some (.ref dA) → (∀ b o, b ≠ L → b ≠ dA → s.heap.get? b = some o → h'.get? b = some o) →
      s.heap.get? a = none → h'.get? dA = some ⟨.type "list", none, .seq (vs ++ [Value.ref a]).toArray e2, #[]⟩ → Ans h' a (x ++ y) → Q .next { s with heap := h', toks := tk }) :
    wpAny (model prg w) A (execs lawTail (envOf (topDef 12).name (topDef 12).scope L 68 cd)) Q E s := by
  conv => arg 3; arg 1; whnf
  have N : News h₀ L s.heap [] := News.nil
  iterate 3 walk1
  refine ld (v := .str x t4) F mw ?_
  refine ld (v := .str y t2) F mc ?_
  refine add_str (fun t' tk' => ?_) (by rw [sizeLine_eq]; omega)
  refine wpAny_storeName_local (by kernel_rfl) F.ns (fun h1 hn1 hs1 => ?_) (by kernel_rfl)
  have F1 : Fr h₀ L h1 _ := F.set hn1 hs1
  have N1 : News h₀ L h1 [] := News.nil
  clear N F
  iterate 3 walk1
  refine ld (v := .ref dA) F1 mdu ?_
  have hd1 := hs1.extBut _ _ dL hd
  refine getMethod_list_of PySem.F.slot_list_append PySem.F.type_list_append ⟨_, hd1, rfl, _, rfl⟩ ⟨_, hd1, rfl⟩ ?_
  refine callWith_method1 (spliced_more ?_ (by kernel_rfl))
  refine wpAny_Call_NameR (gname3 F1 X (g_rule _) ?_)
  refine callWith_meth (h₀ := h₀) rfl (X 63 _ (rule_lk _)) (spliced_more (ld (v := .str (x ++ y) t') F1 rfl (spliced_none ?_)) (by kernel_rfl))
  refine ⟨F1.keep, ?_⟩
  show wpAny _ _ (call (.ref 63) [.str (x ++ y) t']) _ _ _
  refine rule_ok (fun a o e => F1.keep a o (X a o e)) (hA.mono (by decide) (by decide)) (by rw [Str.length_append]; omega) fun h2 tk2 a k2 na ia => ?_
  refine spliced_none ?_
  refine app_list (l := dA) (gk k2 hd1) (by omega) fun h3 e3 hd3 hs3 => ?_
  have aD : a ≠ dA := fun q => by rw [q, hd1] at na; cases na
  have na0 : s.heap.get? a = none := by
    cases q : s.heap.get? a with
    | none => rfl
    | some o =>
      by_cases q2 : a = L
      · obtain ⟨oL, _, _, hoL, _⟩ := F1.ns
        rw [q2, hoL] at na; cases na
      · rw [hs1.extBut _ _ q2 q] at na; cases na
  have F3 : Fr h₀ L h3 _ := ⟨(F1.after fun b o e => gk k2 e).ns.sameBut hs3 (Ne.symm dL), fun b o e => hs3.extBut b o (fun q => by rw [q, hd0] at e; cases e) (gk k2 (F1.keep b o e)), F1.above⟩
  show wpAny _ _ (execs [] _) _ _ _
  refine wpAny_execs_nil ?_
  exact k h3 _ _ a t' e3 F3 mp rfl mdu (fun b o n1 n2 e => hs3.extBut b o n2 (gk k2 (hs1.extBut b o n1 e))) na0 hd3 (ia.k fun o e => hs3.extBut a o aD e)
theorem lturn {w : World} {A : Around} {Q : Flow → Shared → Prop} {E : Value → Shared → Prop} {s : Shared} {h₀ : Heap} {L pA dA : Addr} {cd : Value} {m : Str → Option Value} {ps : List Addr} {ns : List Int} {vs : List Value} {n d : Int} {x y : Str} {t1 t2 t3 t4 : Tok} {e1 e2 : Nat}
    (X : (KK2 w.params).In h₀) (hA : AOk A 380 800) (F : Fr h₀ L s.heap m) (mn : m (S "number") = some (.int n t1)) (mc : m (S "piece") = some (.str y t2)) (md : m (S "drawn") = some (.int d t3)) (mp : m (S "pile") = some (.ref pA)) (mw : m (S "whole") = some (.str x t4)) (mdu : m (S "due") = some (.ref dA))
    (hp : s.heap.get? pA = some ⟨.type "list", none, .seq (ps.map Value.ref).toArray e1, #[]⟩) (hd : s.heap.get? dA = some ⟨.type "list", none, .seq vs.toArray e2, #[]⟩) (pL : pA ≠ L) (dL : dA ≠ L) (pd : pA ≠ dA) (hp0 : h₀.get? pA = none) (hd0 : h₀.get? dA = none) (hl : ps.length ≤ 50) (hvl : vs.length ≤ 60) (hnl : ns.length = ps.length)
    (hps : ∀ (j : Nat) (p : Addr) (q : Int), ps[j]? = some p → ns[j]? = some q → ∃ t u, s.heap.IsTuple p #[.int q t, u]) (hx : x.length + y.length ≤ 300)
    (k : ∀ h' tk m' p a (i : Nat) t t' t'' e1 e2, Fr h₀ L h' m' → m' (S "pile") = some (.ref pA) → m' (S "whole") = some (.str (x ++ y) t) → m' (S "due") = some (.ref dA) → (∀ b o, b ≠ L → b ≠ pA → b ≠ dA → s.heap.get? b = some o → h'.get? b = some o) →
      s.heap.get? p = none → s.heap.get? a = none → i ≤ ps.length → ((∃ q ∈ ns, q = n) → i = ps.length) → h'.get? pA = some ⟨.type "list", none, .seq ((ps.take i ++ p :: ps.drop i).map Value.ref).toArray e1, #[]⟩ → h'.get? dA = some ⟨.type "list", none, .seq (vs ++ [Value.ref a]).toArray e2, #[]⟩ →
      IsTup h' p #[.int n t', .str y t''] → Ans h' a (x ++ y) → Q .next { s with heap := h', toks := tk }) :
    wpAny (model prg w) A (execs lawTurn (envOf (topDef 12).name (topDef 12).scope L 68 cd)) Q E s := by
  conv => arg 3; arg 1; whnf
  have N : News h₀ L s.heap [] := News.nil
  iterate 3 walk1
  refine ld (v := .int n t1) F mn ?_
  obtain ⟨vals, va1, va2, va3⟩ := vals_of hnl hps
  refine comp_ones (vals := vals) (ps := ps) (ax := pA) hA.1 ⟨_, hp, rfl, _, rfl⟩ (by omega) va1 va3 (by decide +kernel) (by decide +kernel) rfl (by decide +kernel) (by decide +kernel) (by decide +kernel) (by decide +kernel) (by decide +kernel) (fun Q' q' => ld (v := .ref pA) F mp q') fun D h1 tk1 nD hD k1 => ?_
  refine in_list_ints hD va2 ?_
  have F1 := F.after k1
  have N1 : News h₀ L h1 [] := News.nil
  clear F N
  walk1
  have hp1 := k1 _ _ hp
  have hd1 := k1 _ _ hd
  have nT0 : s.heap.get? h1.objs.size = none := by
    cases q : s.heap.get? h1.objs.size with
    | none => rfl
    | some o => exact absurd (Heap.lt_size (k1 _ _ q)) (Nat.lt_irrefl _)
  have nTp : h1.objs.size ≠ pA := fun q => absurd (Heap.lt_size hp1) (q ▸ Nat.lt_irrefl _)
  have nTd : h1.objs.size ≠ dA := fun q => absurd (Heap.lt_size hd1) (q ▸ Nat.lt_irrefl _)
  have nTL : h1.objs.size ≠ L := Nat.ne_of_gt F1.ns.lt
  have fin : ∀ h3 tk3 (i : Nat) e3, Heap.SameBut pA (h1.push { cls := .type "tuple", data := .seq [Value.int n t1, Value.str y t2].toArray }) h3 → i ≤ ps.length → ((∃ q ∈ ns, q = n) → i = ps.length) →
      h3.get? pA = some ⟨.type "list", none, .seq ((ps.take i ++ h1.objs.size :: ps.drop i).map Value.ref).toArray e3, #[]⟩ → wpAny (model prg w) A (execs lawTail (envOf (topDef 12).name (topDef 12).scope L 68 cd)) Q E { s with heap := h3, toks := tk3 } := by
    intro h3 tk3 i e3 hs3 hi hieq hp3
    have F3 : Fr h₀ L h3 m := ⟨(F1.push _).ns.sameBut hs3 (Ne.symm pL), fun b o e => hs3.extBut b o (fun q => by rw [q, hp0] at e; cases e) ((F1.push _).keep b o e), F1.above⟩
    have hT3 : IsTup h3 h1.objs.size #[.int n t1, .str y t2] := ⟨_, hs3.extBut _ _ nTp (Heap.get?_push_size _ rfl), rfl, _, rfl⟩
    have k3 : ∀ b o, b ≠ pA → s.heap.get? b = some o → h3.get? b = some o := fun b o nb e => hs3.extBut b o nb (Heap.get?_push_of_some _ (k1 b o e))
    refine ltail (s := { s with heap := h3, toks := tk3 }) X hA F3 mc mp mw mdu (k3 _ _ (Ne.symm pd) hd) dL hd0 hvl hx fun h' tk m' a t e2 F' mp' mw' mdu' k' na hd' ia => ?_
    have na0 : s.heap.get? a = none := by
      cases q : s.heap.get? a with
      | none => rfl
      | some o =>
        by_cases q2 : a = pA
        · have na' : h3.get? a = none := na
          rw [q2, hp3] at na'; cases na'
        · have na' : h3.get? a = none := na
          rw [k3 _ _ q2 q] at na'; cases na'
    obtain ⟨oT, hoT, hrT⟩ := hT3
    exact k h' tk m' h1.objs.size a i t t1 t2 e3 e2 F' mp' mw' mdu' (fun b o n1 n2 n3 e => k' b o n1 n3 (k3 b o n2 e)) nT0 na0 hi hieq (k' _ _ pL pd hp3) hd' ⟨oT, k' _ _ nTL nTd hoT, hrT⟩ ia
  cases hin : (ns.any fun x => x == n) with
  | true =>
    iterate 4 walk1
    refine ld (v := .ref pA) F1 mp ?_
    refine getMethod_list_of PySem.F.slot_list_append PySem.F.type_list_append ⟨_, hp1, rfl, _, rfl⟩ ⟨_, hp1, rfl⟩ ?_
    refine callWith_method1 (spliced_more (Tuple_ (spliced_more (ld (v := .int n t1) F1 mn (spliced_more (ld (v := .str y t2) F1 mc (spliced_none ?_)) (by kernel_rfl))) (by kernel_rfl))) (by kernel_rfl))
    refine wpAny_newTuple (spliced_none ?_) (by show 2 ≤ _; rw [sizeLine_eq]; omega)
    refine app_list (l := pA) (Heap.get?_push_of_some _ hp1) (by simp; omega) fun h3 e3 hp3 hs3 => ?_
    show wpAny _ _ (execs [] _) _ _ _
    refine wpAny_execs_nil ?_
    show wpAny _ _ (execs lawTail _) _ _ _
    refine fin h3 _ ps.length e3 hs3 (Nat.le_refl _) (fun _ => rfl) ?_
    rw [hp3]; simp
  | false =>
    have hno : (∃ q ∈ ns, q = n) → False := by
      rintro ⟨q, h1', rfl⟩
      have : (ns.any fun x => x == q) = true := List.any_eq_true.mpr ⟨q, h1', by simp⟩
      rw [hin] at this; cases this
    iterate 4 walk1
    refine ld (v := .ref pA) F1 mp ?_
    refine getMethod_list_of PySem.F.slot_list_insert PySem.F.type_list_insert ⟨_, hp1, rfl, _, rfl⟩ ⟨_, hp1, rfl⟩ ?_
    refine callWith_method1 (spliced_more (wpAny_BinOp (ld (v := .int d t3) F1 md ?_)) (by kernel_rfl))
    refine wpAny_BinOp (wpAny_Call_NameR (gname0 F1 X (g_len3 _) (g_len _) ?_))
    iterate 2 walk1
    refine ld (v := .ref pA) F1 mp ?_
    walk1
    refine len_list (l := pA) ⟨_, hp1, rfl, _, rfl⟩ (by simp; omega) ?_
    have ez : ((ps.map Value.ref).toArray.size : Int) = ps.length := by simp
    rw [ez]
    iterate 3 walk1
    have hmod : 0 ≤ d.fmod ((ps.length : Int) + 1) ∧ d.fmod ((ps.length : Int) + 1) < (ps.length : Int) + 1 := by
      rw [Int.fmod_eq_emod_of_nonneg _ (by omega)]
      exact ⟨Int.emod_nonneg _ (by omega), Int.emod_lt_of_pos _ (by omega)⟩
    obtain ⟨i, hi⟩ : ∃ i : Nat, d.fmod ((ps.length : Int) + 1) = (i : Int) := ⟨_, (Int.toNat_of_nonneg hmod.1).symm⟩
    rw [hi] at hmod ⊢
    refine spliced_more (Tuple_ (spliced_more (ld (v := .int n t1) F1 mn (spliced_more (ld (v := .str y t2) F1 mc (spliced_none ?_)) (by kernel_rfl))) (by kernel_rfl))) (by kernel_rfl)
    refine wpAny_newTuple (spliced_none ?_) (by show 2 ≤ _; rw [sizeLine_eq]; omega)
    refine ins_list (l := pA) (Heap.get?_push_of_some _ hp1) (by simp; omega) (by simp; omega) fun h3 e3 hp3 hs3 => ?_
    show wpAny _ _ (execs [] _) _ _ _
    refine wpAny_execs_nil ?_
    show wpAny _ _ (execs lawTail _) _ _ _
    refine fin h3 _ i e3 hs3 (by omega) (fun q => (hno q).elim) ?_
    rw [hp3]; simp
end Mine

end
section
open PySem PySem.W PySem.W.X PyProof.Rows
set_option Elab.async false
set_option maxRecDepth 100000
set_option maxHeartbeats 1000000
set_option linter.unusedVariables false
namespace Mine
/-- the pile: the places of the parts so far, equal numbers in rising order -/
structure Pile (num : Nat → Int) (i : Nat) (pi : List Nat) : Prop where
  perm : pi.Perm (List.range i)
  eqs : ∀ (a b u v : Nat), a < b → pi[a]? = some u → pi[b]? = some v → num u = num v → u < v
theorem Pile.nil {num : Nat → Int} : Pile num 0 [] := ⟨List.Perm.refl _, fun a b u v _ h => by simp at h⟩
theorem get_ins {α : Type} (l : List α) (x : α) (k a : Nat) (hk : k ≤ l.length) : (l.take k ++ x :: l.drop k)[a]? = if a < k then l[a]? else if a = k then some x else l[a - 1]? := by
  by_cases h1 : a < k
  · rw [if_pos h1, List.getElem?_append_left (by simp; omega), List.getElem?_take, if_pos h1]
  · rw [if_neg h1, List.getElem?_append_right (by simp; omega)]
    have e : (l.take k).length = k := by simp; omega
    rw [e]
    by_cases h2 : a = k
    · subst h2; simp
    · rw [if_neg h2]
      obtain ⟨c, hc⟩ : ∃ c, a - k = c + 1 := ⟨a - k - 1, by omega⟩
      rw [hc, List.getElem?_cons_succ, List.getElem?_drop]
      congr 1; omega
theorem Pile.ins {num : Nat → Int} {i k : Nat} {pi : List Nat} (P : Pile num i pi) (hk : k ≤ pi.length) (h : (∃ u ∈ pi, num u = num i) → k = pi.length) : Pile num (i + 1) (pi.take k ++ i :: pi.drop k) := by
  have hmem : ∀ u ∈ pi, u < i := fun u hu => by simpa using (P.perm.mem_iff.mp hu)
  refine ⟨?_, fun a b u v hab ha hb e => ?_⟩
  · have h1 : (pi.take k ++ i :: pi.drop k).Perm (i :: pi) := by
      have := List.perm_middle (a := i) (l₁ := pi.take k) (l₂ := pi.drop k)
      rw [List.take_append_drop] at this
      exact this
    refine h1.trans ((P.perm.cons i).trans ?_)
    rw [List.range_succ]
    exact (List.perm_append_singleton i (List.range i)).symm
  · rw [get_ins _ _ _ _ hk] at ha hb
    by_cases a1 : a < k
    · rw [if_pos a1] at ha
      by_cases b1 : b < k
      · rw [if_pos b1] at hb; exact P.eqs a b u v hab ha hb e
      · rw [if_neg b1] at hb
        by_cases b2 : b = k
        · rw [if_pos b2] at hb
          cases hb
          exact hmem u (List.mem_of_getElem? ha)
        · rw [if_neg b2] at hb
          exact P.eqs a (b - 1) u v (by omega) ha hb e
    · rw [if_neg a1, ] at ha
      rw [if_neg (by omega), if_neg (by omega)] at hb
      by_cases a2 : a = k
      · rw [if_pos a2] at ha
        cases ha
        have := h ⟨v, List.mem_of_getElem? hb, e.symm⟩
        have hlt := (List.getElem?_eq_some_iff.mp hb).1
        omega
      · rw [if_neg a2] at ha
        exact P.eqs (a - 1) (b - 1) u v (by omega) ha hb e
theorem inc_id {N : Nat} {f : Nat → Nat} (hlt : ∀ t, t < N → f t < N) (hinc : ∀ t t', t < t' → t' < N → f t < f t') : ∀ t, t < N → f t = t := by
  have lo : ∀ t, t < N → t ≤ f t := by
    intro t
    induction t with
    | zero => intro _; exact Nat.zero_le _
    | succ t ih =>
      intro h
      have := hinc t (t + 1) (by omega) h
      have := ih (by omega)
      omega
  have hi : ∀ d t, t + d + 1 = N → f t ≤ t := by
    intro d
    induction d with
    | zero => intro t ht; have := hlt t (by omega); omega
    | succ d ih =>
      intro t ht
      have h1 := ih (t + 1) (by omega)
      have h2 := hinc t (t + 1) (by omega) (by omega)
      omega
  intro t ht
  have := lo t ht
  have := hi (N - t - 1) t (by omega)
  omega
theorem Pile.sorted {num : Nat → Int} {N : Nat} {pi : List Nat} (P : Pile num N pi) (mono : ∀ u v, u ≤ v → v < N → num u ≤ num v) {q : Array Nat} (hq : q.Perm (List.toArray (List.range N))) (hup : Up (fun j => num (pi.getD j 0)) q N) :
    ∀ t, t < N → pi.getD (q.getD t 0) 0 = t := by
  have hlen : pi.length = N := by rw [P.perm.length_eq]; simp
  have hqs : q.size = N := by rw [hq.size_eq]; simp
  have hq1 : ∀ t, t < N → q.getD t 0 < N := fun t ht => by
    have : q.getD t 0 ∈ q := by
      rw [Array.getD_eq_getD_getElem?, Array.getElem?_eq_getElem (by omega)]
      exact Array.getElem_mem _
    simpa using hq.mem_iff.mp this
  have hp1 : ∀ j, j < N → pi[j]? = some (pi.getD j 0) := fun j hj => by
    rw [List.getD_eq_getElem?_getD, List.getElem?_eq_getElem (by omega)]; rfl
  have hp2 : ∀ j, j < N → pi.getD j 0 < N := fun j hj => by
    have := P.perm.mem_iff.mp (List.mem_of_getElem? (hp1 j hj))
    simpa using this
  refine inc_id (fun t ht => hp2 _ (hq1 t ht)) fun t t' htt ht' => ?_
  rcases hup t t' htt ht' with h | ⟨h1, h2⟩
  · rcases Nat.lt_or_ge (pi.getD (q.getD t 0) 0) (pi.getD (q.getD t' 0) 0) with c | c
    · exact c
    · have := mono _ _ c (hp2 _ (hq1 t (by omega)))
      simp only at h
      omega
  · exact P.eqs _ _ _ _ h2 (hp1 _ (hq1 t (by omega))) (hp1 _ (hq1 t' ht')) h1
end Mine

end
section
open PySem PySem.W PySem.W.X PyProof.Rows
set_option Elab.async false
set_option maxRecDepth 100000
set_option maxHeartbeats 600000
set_option linter.unusedVariables false
namespace Mine
local macro_rules | `(tactic| walk_at "eval Name") => `(tactic| (with_unfolding_all refine gname3 (by assumption) (by assumption) (by first | exact g_tick _ | exact g_dec _ | exact g_cmp _ | exact g_red _ | exact g_miss _ | exact g_parts _ | exact g_ahead _ | exact g_more _ | exact g_rule _) ?_))
local macro_rules | `(tactic| walk_at "eval Name") => `(tactic| (with_unfolding_all refine gname0 (by assumption) (by assumption) (by first | exact g_len3 _ | exact g_isi3 _ | exact g_list3 _ | exact g_range3 _ | exact g_sorted3 _ | exact g_iter3 _) (by first | exact g_len _ | exact g_isi _ | exact g_list _ | exact g_range _ | exact g_sorted _ | exact g_iter _) ?_))
def numOf (tr : List Tri) (u : Nat) : Int := (tr.getD u (0, S "", 0)).1
def txtOf (tr : List Tri) : List Str := tr.map fun t => t.2.1
def PT (h : Heap) (tr : List Tri) (p : Addr) (u : Nat) : Prop := ∃ y t t', (txtOf tr)[u]? = some y ∧ IsTup h p #[.int (numOf tr u) t, .str y t']
structure LawAt (h₀ : Heap) (L pA dA : Addr) (tr : List Tri) (i : Nat) (h : Heap) (m : Str → Option Value) (ps : List Addr) (pi : List Nat) (as : List Addr) : Prop where
  F : Fr h₀ L h m
  mp : m (S "pile") = some (.ref pA)
  mw : ∃ t, m (S "whole") = some (.str (cat ((txtOf tr).take i)) t)
  md : m (S "due") = some (.ref dA)
  hp : ∃ e, h.get? pA = some ⟨.type "list", none, .seq (ps.map Value.ref).toArray e, #[]⟩
  hd : ∃ e, h.get? dA = some ⟨.type "list", none, .seq (as.map Value.ref).toArray e, #[]⟩
  pile : Pile (numOf tr) i pi
  pl : ps.length = i
  pt : ∀ (j : Nat) (p : Addr) (u : Nat), ps[j]? = some p → pi[j]? = some u → PT h tr p u
  al : as.length = i + 1
  aa : ∀ (j : Nat) (a : Addr), as[j]? = some a → Ans h a (cat ((txtOf tr).take j))
theorem tup_ne_list {h : Heap} {a b : Addr} {vs ws : Array Value} {e : Nat} (ht : IsTup h a vs) (hb : h.get? b = some ⟨.type "list", none, .seq ws e, #[]⟩) : a ≠ b := fun q => by
  obtain ⟨o, ho, hc, _⟩ := ht
  rw [q, hb] at ho; cases ho; simp at hc
theorem tup_ne_L {h : Heap} {a L : Addr} {vs : Array Value} {m : Str → Option Value} (ht : IsTup h a vs) (hn : h.Ns L m) : a ≠ L := fun q => by
  obtain ⟨o, ho, hc, n, hd⟩ := ht
  obtain ⟨o', es, ep, ho', hd', _⟩ := hn
  rw [q, ho'] at ho; cases ho; rw [hd'] at hd; cases hd
theorem cat_len {tr : List Tri} (n : Nat) (h : (tr.map fun t => t.2.1.length).sum ≤ n) : ∀ i, (cat ((txtOf tr).take i)).length ≤ n := by
  have e : ∀ (l : List Str), (cat l).length = (l.map (·.length)).sum := by
    intro l
    have g : ∀ (l : List Str) (x : Str), (l.foldl (· ++ ·) x).length = x.length + (l.map (·.length)).sum := by
      intro l
      induction l with
      | nil => intro x; simp
      | cons y l ih => intro x; rw [List.foldl_cons, ih, Str.length_append, List.map_cons, List.sum_cons]; omega
    rw [cat, g]
    have : (S "").length = 0 := by decide +kernel
    omega
  intro i
  rw [e]
  have h2 : (((txtOf tr).take i).map (·.length)).sum + (((txtOf tr).drop i).map (·.length)).sum = (tr.map fun t => t.2.1.length).sum := by
    rw [← List.sum_append, ← List.map_append, List.take_append_drop, txtOf, List.map_map]; rfl
  omega
theorem LawAt.tr' {h₀ h h' : Heap} {L pA dA : Addr} {tr : List Tri} {i : Nat} {m : Str → Option Value} {ps : List Addr} {pi : List Nat} {as : List Addr} (la : LawAt h₀ L pA dA tr i h m ps pi as)
    (k : ∀ b o, (b = L ∨ b = pA ∨ b = dA ∨ b ∈ ps ∨ b ∈ as ∨ ∃ o, h₀.get? b = some o) → h.get? b = some o → h'.get? b = some o) : LawAt h₀ L pA dA tr i h' m ps pi as := by
  refine ⟨⟨la.F.ns.at' fun o e => k _ _ (.inl rfl) e, fun b o e => k b o (.inr (.inr (.inr (.inr (.inr ⟨o, e⟩))))) (la.F.keep b o e), la.F.above⟩, la.mp, la.mw, la.md, ?_, ?_, la.pile, la.pl, fun j p u h1 h2 => ?_, la.al, fun j a h1 => ?_⟩
  · obtain ⟨e, h⟩ := la.hp; exact ⟨e, k _ _ (.inr (.inl rfl)) h⟩
  · obtain ⟨e, h⟩ := la.hd; exact ⟨e, k _ _ (.inr (.inr (.inl rfl))) h⟩
  · obtain ⟨y, t, t', hy, o, ho, hh⟩ := la.pt j p u h1 h2
    exact ⟨y, t, t', hy, o, k _ _ (.inr (.inr (.inr (.inl (List.mem_of_getElem? h1))))) ho, hh⟩
  · exact (la.aa j a h1).k fun o e => k _ _ (.inr (.inr (.inr (.inr (.inl (List.mem_of_getElem? h1)))))) e
theorem law_loop {w : World} {A : Around} {E : Value → Shared → Prop} {R : Result → Shared → Prop} {s : Shared} {h₀ : Heap} {L pA dA r : Addr} {cd : Value} {m : Str → Option Value} {tr : List Tri} {ts as0 : List Addr} {n : Nat} {p1 p2 p3 tp : Pos} {kk : Nat}
    (X : (KK2 w.params).In h₀) (hA : AOk A 370 700) (st : LawAt h₀ L pA dA tr 0 s.heap m [] [] as0) (ho0 : ∀ b ∈ as0, b ≠ L ∧ b ≠ pA ∧ b ≠ dA) (pd : pA ≠ dA) (pL : pA ≠ L) (dL : dA ≠ L) (hp0 : h₀.get? pA = none) (hd0 : h₀.get? dA = none)
    (hr : s.heap.IsList r (ts.map Value.ref).toArray) (rp : r ≠ pA) (rd : r ≠ dA) (rL : r ≠ L) (hts : ∀ (j : Nat) (a : Addr) (t : Tri), ts[j]? = some a → tr[j]? = some t → ∃ t1 t2 t3, IsTup s.heap a #[.int t.1 t1, .str t.2.1 t2, .int t.2.2 t3]) (hlt : ts.length = tr.length) (ok : TriOk n tr) (hn : n ≤ 22)
    (done : ∀ h' tk m' ps pi as, LawAt h₀ L pA dA tr tr.length h' m' ps pi as → R (.ok .next) { s with heap := h', toks := tk }) :
    wpAny (model prg w) A (pyIter (.ref r)) (fun it s₂ => codeAny (model prg w) A (.forLoop (.Tuple [.Name (S "number") p1, .Name (S "piece") p2, .Name (S "drawn") p3] kk tp) it lawTurn [] (envOf (topDef 12).name (topDef 12).scope L 68 cd)) R s₂) E s := by
  have hsz := cat_len (n + 1) ok.size
  have hle := ok.le
  refine wpAny_pyIter_list hr ?_
  have kI : Kx [] s.heap (s.heap.push { cls := .type "list_iterator", data := .fields #[.ref r, .int 0 0] }) := Kx.push Kx.refl
  have hoI : (s.heap.push { cls := .type "list_iterator", data := .fields #[.ref r, .int 0 0] }).get? s.heap.objs.size = some { cls := .type "list_iterator", data := .fields #[.ref r, .int 0 0] } := Heap.get?_push_size _ rfl
  have nI : s.heap.get? s.heap.objs.size = none := Heap.get?_none_of_le (Nat.le_refl _)
  generalize s.heap.objs.size = I at *
  generalize s.heap.push _ = h1 at *
  have hIL : I ≠ L := Ns_ne st.F.ns nI
  have hI0 : h₀.get? I = none := by
    cases q : h₀.get? I with
    | none => rfl
    | some o => rw [st.F.keep _ _ q] at nI; cases nI
  have hIp : I ≠ pA := fun q => by obtain ⟨e, h⟩ := st.hp; rw [q, h] at nI; cases nI
  have hId : I ≠ dA := fun q => by obtain ⟨e, h⟩ := st.hd; rw [q, h] at nI; cases nI
  have rI : r ≠ I := fun q => by obtain ⟨o, h, _⟩ := hr; rw [q] at h; rw [h] at nI; cases nI
  refine loopT (q := r) (ps := ts) (fun i s' => ∃ h' tk m' ps pi as, s' = { s with heap := h', toks := tk } ∧ LawAt h₀ L pA dA tr i h' m' ps pi as ∧ (∀ b ∈ ps, b ≠ I) ∧ (∀ b ∈ as, b ≠ I ∧ b ≠ L ∧ b ≠ pA ∧ b ≠ dA) ∧ h'.IsListIter I r i ∧ (∀ b o, b ≠ L → b ≠ pA → b ≠ dA → b ≠ I → h1.get? b = some o → h'.get? b = some o)) hA.1 ?hit ?turn ?done ?start
  case hit =>
    rintro i s' ⟨h', tk', m', ps, pi, as, rfl, la, o1, o2, hit', keep⟩
    exact ⟨hit', hr.at fun o e => keep r o rL rp rd rI (gk kI e)⟩
  case start =>
    refine ⟨h1, _, m, [], [], as0, rfl, st.tr' fun b o _ e => gk kI e, fun b hb => by simp at hb, fun b hb => ?_, ⟨_, hoI, rfl, rfl⟩, fun b o _ _ _ _ e => e⟩
    obtain ⟨o1, o2, o3⟩ := ho0 b hb
    refine ⟨fun q => ?_, o1, o2, o3⟩
    obtain ⟨j, hj, rfl⟩ := List.getElem_of_mem hb
    obtain ⟨o, ho⟩ := (st.aa j _ (List.getElem?_eq_getElem hj)).obj
    rw [q, nI] at ho; cases ho
  case done =>
    rintro s' h5 ⟨h', tk', m', ps, pi, as, rfl, la, o1, o2, hit', keep⟩ he
    rw [hlt] at la
    refine done h5 _ m' ps pi as (la.tr' fun b o hb e => he b o ?_ e)
    rcases hb with rfl | rfl | rfl | hb | hb | ⟨o', hb⟩
    · exact Ne.symm hIL
    · exact Ne.symm hIp
    · exact Ne.symm hId
    · exact o1 b hb
    · exact (o2 b hb).1
    · exact fun q => by rw [q, hI0] at hb; cases hb
  case turn =>
    rintro i s' p h5 hi hpi ⟨h', tk', m', ps, pi, as, rfl, la, o1, o2, hit', keep⟩ hit5 hs5
    have la5 : LawAt h₀ L pA dA tr i h5 m' ps pi as := la.tr' fun b o hb e => hs5.extBut b o (by
      rcases hb with rfl | rfl | rfl | hb | hb | ⟨o', hb⟩
      · exact Ne.symm hIL
      · exact Ne.symm hIp
      · exact Ne.symm hId
      · exact o1 b hb
      · exact (o2 b hb).1
      · exact fun q => by rw [q, hI0] at hb; cases hb) e
    have hitr : i < tr.length := by rw [← hlt]; exact hi
    have htri := List.getElem?_eq_getElem hitr
    obtain ⟨t1, t2, t3, ht⟩ := hts i p _ hpi htri
    obtain ⟨eP, hpo⟩ := st.hp
    obtain ⟨eD, hdo⟩ := st.hd
    have pP := tup_ne_list ht hpo
    have pD := tup_ne_list ht hdo
    have pLn := tup_ne_L ht st.F.ns
    have pIn : p ≠ I := fun q => by obtain ⟨o, ho, _⟩ := ht; rw [q] at ho; rw [ho] at nI; cases nI
    have ht5 : IsTup h5 p #[.int tr[i].1 t1, .str tr[i].2.1 t2, .int tr[i].2.2 t3] := by
      obtain ⟨o, ho, hh⟩ := ht
      exact ⟨o, hs5.extBut _ _ pIn (keep p o pLn pP pD pIn (gk kI ho)), hh⟩
    refine asg3 hA.1 ht5 (by kernel_rfl) (by kernel_rfl) (by kernel_rfl) (by kernel_rfl) la5.F.ns fun h6 tk6 hn6 k6 => ?_
    have F6 := Mine.Fr.but la5.F hn6 k6
    obtain ⟨e1, hp5⟩ := la5.hp
    obtain ⟨e2, hd5⟩ := la5.hd
    obtain ⟨tw, hmw⟩ := la5.mw
    have hpil : pi.length = i := by rw [la5.pile.perm.length_eq]; simp
    have hpl := la5.pl
    have hal := la5.al
    have hnum : numOf tr i = tr[i].1 := by unfold numOf; rw [List.getD_eq_getElem?_getD, htri]; rfl
    have htx : (txtOf tr)[i]? = some tr[i].2.1 := by unfold txtOf; rw [List.getElem?_map, htri]; rfl
    have hp6 := k6 _ _ pL hp5
    have hd6 := k6 _ _ dL hd5
    have hcat := cat_take htx
    have hcl := hsz (i + 1)
    rw [hcat, Str.length_append] at hcl
    obtain ⟨oI5, hoI5, hcI5, hdI5⟩ := id hit5
    have hoI6 := k6 _ _ hIL hoI5
    have hoL6 : ∃ o, h6.get? L = some o := by obtain ⟨o, _, _, ho, _⟩ := F6.ns; exact ⟨o, ho⟩
    have pt5 : ∀ (j : Nat) (p : Addr) (u : Nat), ps[j]? = some p → pi[j]? = some u → PT h5 tr p u ∧ p ≠ L ∧ p ≠ pA ∧ p ≠ dA := fun j p' u h1 h2 => by
      have h3 := la5.pt j p' u h1 h2
      obtain ⟨y, t, t', hy, hh⟩ := h3
      exact ⟨⟨y, t, t', hy, hh⟩, tup_ne_L hh la5.F.ns, tup_ne_list hh hp5, tup_ne_list hh hd5⟩
    refine lturn (s := { s with heap := h6, toks := tk6 }) (ps := ps) (ns := pi.map (numOf tr)) (vs := as.map Value.ref) (n := tr[i].1) (d := tr[i].2.2) (x := cat ((txtOf tr).take i)) (y := tr[i].2.1) X (hA.mono (by decide) (by decide)) F6 rfl rfl rfl la5.mp hmw la5.md hp6 hd6 pL dL pd hp0 hd0 (by omega) (by simp; omega) (by simp; omega) ?hps (by omega) ?k
    case hps =>
      intro j p' q h1 h2
      obtain ⟨u, hu, rfl⟩ : ∃ u, pi[j]? = some u ∧ q = numOf tr u := by
        rw [List.getElem?_map] at h2
        cases hq : pi[j]? with
        | none => rw [hq] at h2; simp at h2
        | some u => rw [hq] at h2; exact ⟨u, rfl, by simpa using h2.symm⟩
      obtain ⟨⟨y, t, t', hy, o, ho, hh⟩, c1, c2, c3⟩ := pt5 j p' u h1 hu
      exact ⟨t, _, o, k6 _ _ c1 ho, hh⟩
    case k =>
      intro h7 tk7 m7 p7 a7 ix t7 t7' t7'' e7 e7' F7 mp7 mw7 md7 k7 np7 na7 hix hixe hp7 hd7 hT7 ia7
      have np7' : h6.get? p7 = none := np7
      have na7' : h6.get? a7 = none := na7
      have ne6 : ∀ {b c : Addr} {o : Obj}, h6.get? b = none → h6.get? c = some o → b ≠ c := fun {b c o} e1 e2 q => by rw [q, e2] at e1; cases e1
      have K7 : ∀ b o, b ≠ L → b ≠ pA → b ≠ dA → h5.get? b = some o → h7.get? b = some o := fun b o n1 n2 n3 e => k7 b o n1 n2 n3 (k6 b o n1 e)
      refine ⟨rfl, h7, tk7, m7, ps.take ix ++ p7 :: ps.drop ix, pi.take ix ++ i :: pi.drop ix, as ++ [a7], rfl, ⟨F7, mp7, ⟨t7, by rw [hcat]; exact mw7⟩, md7, ⟨e7, hp7⟩, ⟨e7', ?hd⟩, ?pile, ?pl, ?pt, ?al, ?aa⟩, ?o1, ?o2, ⟨oI5, K7 _ _ hIL hIp hId hoI5, hcI5, hdI5⟩, ?keep⟩
      case hd => rw [hd7]; simp
      case pile =>
        refine la5.pile.ins (by omega) fun ⟨u, hu, he⟩ => ?_
        rw [hpil, ← hpl]
        refine hixe ⟨numOf tr u, List.mem_map.mpr ⟨u, hu, rfl⟩, ?_⟩
        rw [he, hnum]
      case pl => simp; omega
      case al => simp [hal]
      case pt =>
        intro j p' u h1 h2
        rw [get_ins _ _ _ _ hix] at h1
        rw [get_ins _ _ _ _ (by omega)] at h2
        have old : ∀ j, ps[j]? = some p' → pi[j]? = some u → PT h7 tr p' u := fun j g1 g2 => by
          obtain ⟨⟨y, t, t', hy, o, ho, hh⟩, c1, c2, c3⟩ := pt5 j p' u g1 g2
          exact ⟨y, t, t', hy, o, K7 _ _ c1 c2 c3 ho, hh⟩
        by_cases j1 : j < ix
        · rw [if_pos j1] at h1 h2; exact old j h1 h2
        · rw [if_neg j1] at h1 h2
          by_cases j2 : j = ix
          · rw [if_pos j2] at h1 h2
            cases h1; cases h2
            exact ⟨_, t7', t7'', htx, by rw [hnum]; exact hT7⟩
          · rw [if_neg j2] at h1 h2; exact old (j - 1) h1 h2
      case aa =>
        intro j a h1
        by_cases hj : j < as.length
        · rw [List.getElem?_append_left hj] at h1
          obtain ⟨c1, c2, c3, c4⟩ := o2 a (List.mem_of_getElem? h1)
          exact (la5.aa j a h1).k fun o e => K7 _ _ c2 c3 c4 e
        · have ej : j = i + 1 := by
            have := (List.getElem?_eq_some_iff.mp h1).1
            simp at this; omega
          rw [List.getElem?_append_right (by omega)] at h1
          have : a = a7 := by
            have e0 : j - as.length = 0 := by omega
            rw [e0] at h1; simpa using h1.symm
          subst this
          rw [ej, hcat]; exact ia7
      case o1 =>
        intro b hb
        rcases List.mem_append.mp hb with hb | hb
        · exact o1 b (List.mem_of_mem_take hb)
        · rcases List.mem_cons.mp hb with rfl | hb
          · exact ne6 np7' hoI6
          · exact o1 b (List.mem_of_mem_drop hb)
      case o2 =>
        intro b hb
        rcases List.mem_append.mp hb with hb | hb
        · exact o2 b hb
        · rw [List.mem_singleton.mp hb]
          obtain ⟨oL, hoL⟩ := hoL6
          exact ⟨ne6 na7' hoI6, ne6 na7' hoL, ne6 na7' hp6, ne6 na7' hd6⟩
      case keep => exact fun b o n1 n2 n3 n4 e => K7 b o n1 n2 n3 (hs5.extBut b o n4 (keep b o n1 n2 n3 n4 e))
end Mine

end
section
open PySem PySem.W PySem.W.X PyProof.Rows
set_option Elab.async false
set_option maxRecDepth 100000
set_option maxHeartbeats 600000
set_option linter.unusedVariables false
namespace Mine
local macro_rules | `(tactic| walk_at "eval Name") => `(tactic| (with_unfolding_all refine gname3 (by assumption) (by assumption) (by first | exact g_tick _ | exact g_dec _ | exact g_cmp _ | exact g_red _ | exact g_miss _ | exact g_parts _ | exact g_ahead _ | exact g_more _ | exact g_rule _) ?_))
local macro_rules | `(tactic| walk_at "eval Name") => `(tactic| (with_unfolding_all refine gname0 (by assumption) (by assumption) (by first | exact g_len3 _ | exact g_isi3 _ | exact g_list3 _ | exact g_range3 _ | exact g_sorted3 _ | exact g_iter3 _) (by first | exact g_len _ | exact g_isi _ | exact g_list _ | exact g_range _ | exact g_sorted _ | exact g_iter _) ?_))
/-- the answer's datum -/
def ansD (x : Str) : Dat := if (spl x).length ≤ 2 then .tuple [.none, .none, .str x] else .list ((spl x).map .str)
theorem strOk_join {y : Str} : ∀ {l : List Str}, PyData.strOk (Str.join y l) = true → ∀ p ∈ l, PyData.strOk p = true
  | [], _, p, hp => by simp at hp
  | [a], h, p, hp => by rw [List.mem_singleton.mp hp]; exact h
  | a :: b :: r, h, p, hp => by
    have h' : PyData.strOk (a ++ y ++ Str.join y (b :: r)) = true := h
    unfold PyData.strOk at h'
    rw [Str.cps_append, Str.cps_append, Array.all_append, Array.all_append, Bool.and_eq_true, Bool.and_eq_true] at h'
    rcases List.mem_cons.mp hp with rfl | hp
    · exact h'.1.1
    · exact strOk_join (l := b :: r) h'.2 p hp
theorem ansD_ok {x : Str} (h : PyData.strOk x = true) : kqdOk 8 (ansD x) = true := by
  unfold ansD
  split
  · simp [kqdOk, h]
  · simp only [kqdOk, List.all_map, List.all_eq_true]
    intro p hp
    exact strOk_join (y := S "'") (l := spl x) (by rw [spl_join]; exact h) p hp
theorem reads_strs {h : Heap} : ∀ (l : List (Str × Tok)), ReadsAll h (strValues l) (kqdPs ((l.map (·.1)).map Dat.str)) []
  | [] => .nil
  | (x, t) :: l => ReadsAll.cons (.str x t) (reads_strs l)
theorem Ans.reads {h : Heap} {a : Addr} {x : Str} (i : Ans h a x) : ∃ as, Reads h (.ref a) (kqdP (ansD x)) as := by
  rcases i with ⟨n, t, o, ho, hc, k, hd⟩ | ⟨n, l, el, o, ho, hc, k, hd⟩
  · rw [ansD, if_pos n]
    exact ⟨_, Reads.tuple ho hc hd (.cons .none (.cons .none (.cons (.str x t) .nil)))⟩
  · rw [ansD, if_neg (by omega)]
    refine ⟨_, Reads.list ho hc hd (as := []) ?_⟩
    rw [← el]
    simpa using reads_strs l
theorem reads_ans {h : Heap} : ∀ (as : List Addr) (xs : List Str), as.length = xs.length → (∀ (j : Nat) (a : Addr) (x : Str), as[j]? = some a → xs[j]? = some x → Ans h a x) → ∃ bs, ReadsAll h (as.map Value.ref) (kqdPs (xs.map ansD)) bs
  | [], [], _, _ => ⟨[], .nil⟩
  | a :: as, x :: xs, hl, hh => by
    obtain ⟨b1, r1⟩ := (hh 0 a x rfl rfl).reads
    obtain ⟨b2, r2⟩ := reads_ans as xs (by simpa using hl) fun j a x h1 h2 => hh (j + 1) a x (by simpa using h1) (by simpa using h2)
    exact ⟨_, .cons r1 r2⟩
  | [], _ :: _, hl, _ => by simp at hl
  | _ :: _, [], hl, _ => by simp at hl
theorem ans_eq {w : World} {A : Around} {E : Value → Shared → Prop} {s : Shared} {r d : Addr} {as bs : List Addr} {xs : List Str} {Q : Value → Shared → Prop} (hA : A.units ≤ 900) (hr : s.heap.IsList r (as.map Value.ref).toArray) (hd : s.heap.IsList d (bs.map Value.ref).toArray) (l1 : as.length = xs.length) (l2 : bs.length = xs.length)
    (h1 : ∀ (j : Nat) (a : Addr) (x : Str), as[j]? = some a → xs[j]? = some x → Ans s.heap a x) (h2 : ∀ (j : Nat) (a : Addr) (x : Str), bs[j]? = some a → xs[j]? = some x → Ans s.heap a x) (hk : ∀ x ∈ xs, PyData.strOk x = true) (h : Q (.bool true) s) :
    wpAny (model prg w) A (compareOp .Eq (.ref r) (.ref d)) Q E s := by
  have hok : kqdOk 9 (.list (xs.map ansD)) = true := by
    simp only [kqdOk, List.all_map, List.all_eq_true]
    intro x hx
    exact ansD_ok (hk x hx)
  obtain ⟨b1, r1⟩ := reads_ans as xs l1 h1
  obtain ⟨b2, r2⟩ := reads_ans bs xs l2 h2
  obtain ⟨o1, ho1, hc1, n1, hd1⟩ := hr
  obtain ⟨o2, ho2, hc2, n2, hd2⟩ := hd
  have lay := kqd_lay 9 (.list (xs.map ansD)) hok
  rw [kqdP] at lay
  have sh : SeqAt.shaped (.list (kqdPs (xs.map ansD))) = true := by
    unfold SeqAt.shaped; rw [lay.1, Bool.true_and]; exact decide_eq_true (Nat.le_trans lay.2 (by decide))
  refine eq_dataH (reads_list_at ho1 hc1 hd1 (by simpa using r1)) (reads_list_at ho2 hc2 hd2 (by simpa using r2)) sh sh (Nat.lt_of_le_of_lt (Nat.add_le_add_right hA 64) (by decide)) ?_
  have e : PyData.eqv (.list (kqdPs (xs.map ansD))) (.list (kqdPs (xs.map ansD))) = true := by
    have q := kqd_eqv 9 (.list (xs.map ansD)) (.list (xs.map ansD)) 9 hok hok
    rw [kqdP] at q
    exact q.mpr rfl
  rw [e]; exact h
end Mine

end
section
open PySem PySem.W PySem.W.X PyProof.Rows
set_option Elab.async false
set_option maxRecDepth 100000
set_option maxHeartbeats 4000000
set_option linter.unusedVariables false
namespace Mine
local macro_rules | `(tactic| walk_at "eval Name") => `(tactic| (with_unfolding_all refine gname3 (by assumption) (by assumption) (by first | exact g_tick _ | exact g_dec _ | exact g_cmp _ | exact g_red _ | exact g_miss _ | exact g_parts _ | exact g_ahead _ | exact g_more _ | exact g_rule _) ?_))
local macro_rules | `(tactic| walk_at "eval Name") => `(tactic| (with_unfolding_all refine gname0 (by assumption) (by assumption) (by first | exact g_len3 _ | exact g_isi3 _ | exact g_list3 _ | exact g_range3 _ | exact g_sorted3 _ | exact g_iter3 _) (by first | exact g_len _ | exact g_isi _ | exact g_list _ | exact g_range _ | exact g_sorted _ | exact g_iter _) ?_))
theorem le_sum : ∀ {l : List Nat} {x : Nat}, x ∈ l → x ≤ l.sum
  | y :: l, x, h => by
    rw [List.sum_cons]
    rcases List.mem_cons.mp h with rfl | h
    · omega
    · have := le_sum h
      omega
theorem strOk_cat {l : List Str} (h : ∀ y ∈ l, PyData.strOk y = true) : PyData.strOk (cat l) = true := by
  have g : ∀ (l : List Str) (x : Str), PyData.strOk x = true → (∀ y ∈ l, PyData.strOk y = true) → PyData.strOk (l.foldl (· ++ ·) x) = true := by
    intro l
    induction l with
    | nil => intro x hx _; exact hx
    | cons y l ih => intro x hx hl; exact ih _ (strOk_append hx (hl y (by simp))) fun z hz => hl z (by simp [hz])
  exact g l _ (by decide +kernel) h
theorem Ans.cls {h : Heap} {a : Addr} {x : Str} (i : Ans h a x) : ∃ o, h.get? a = some o ∧ o.cls ≠ .none ∧ ∀ es n, o.data ≠ .dict es n := by
  rcases i with ⟨_, _, o, ho, hc, k, hd⟩ | ⟨_, _, _, o, ho, hc, k, hd⟩
  · exact ⟨o, ho, by rw [hc]; decide, fun es n e => by rw [hd] at e; cases e⟩
  · exact ⟨o, ho, by rw [hc]; decide, fun es n e => by rw [hd] at e; cases e⟩
def lawEnd : List Stmt := match (topDef 12).body with
  | _ :: _ :: _ :: _ :: r => r
  | _ => []
theorem law_end {w : World} {A : Around} {Q : Value → Shared → Prop} {s : Shared} {h₀ : Heap} {L pA dA : Addr} {cd : Value} {m : Str → Option Value} {tr : List Tri} {ps as : List Addr} {pi : List Nat} {n : Nat} (X : (KK2 w.params).In h₀) (hA : AOk A 350 600) (hC : h₀.IsCode 27 23 #[]) (hT : h₀.TableAt 27 23 #[])
    (la : LawAt h₀ L pA dA tr tr.length s.heap m ps pi as) (ok : TriOk n tr) (hn2 : 2 ≤ n) (hn : n ≤ 22)
    (k : ∀ h' tk, Kx [23] h₀ h' → (∃ v, h'.get? 23 = some (tableObj #[rawInt clsPos.line, rawInt clsPos.col, v])) → Q (.bool true) { s with heap := h', toks := tk }) :
    wpAny (model prg w) A (execs lawEnd (envOf (topDef 12).name (topDef 12).scope L 68 cd)) (fun f s' => Q (match f with | .ret v => v | _ => .none) s') (fun _ _ => False) s := by
  have F := la.F
  have N : News h₀ L s.heap [] := News.nil
  conv => arg 3; arg 1; whnf
  iterate 4 walk1
  refine callWith_kw (spliced_more (ld (v := .ref pA) F la.mp (spliced_none ?_)) (by kernel_rfl))
  iterate 1 walk1
  have X1 : (KK2 w.params).In s.heap := fun a o e => F.keep a o (X a o e)
  refine wpAny_Call_NameR (gname3 F X (g_cmp _) ?_)
  refine callWith_meth (h₀ := h₀) rfl (X 28 _ (f28 _)) (spliced_more (gname3 F X (g_ahead _) (spliced_none ?_)) (by kernel_rfl))
  refine ⟨F.keep, ?_⟩
  show wpAny _ _ (call (.ref 28) [.ref 51]) _ _ _
  refine cmp_ok (hA.mono (by decide) (by decide)) X1 (hC.keeps F.keep) (hT.keeps F.keep) fun h4 tk4 aC cell k4 t4 c4 hcell => ?_
  have X4 : (KK2 w.params).In h4 := KK2.kx X1 k4 (fun a ha => .inl (List.mem_singleton.mp ha))
  -- a base that bears the grown table
  obtain ⟨v23, h23⟩ := t4
  have hb23 : h₀.get? 23 = _ := hT.2
  let hB : Heap := h₀.update 23 fun _ => tableObj #[rawInt clsPos.line, rawInt clsPos.col, v23]
  have hB23 : hB.get? 23 = some (tableObj #[rawInt clsPos.line, rawInt clsPos.col, v23]) := Heap.get?_update_self _ hb23 rfl
  have hBo : ∀ b, b ≠ 23 → hB.get? b = h₀.get? b := fun b nb => Heap.get?_update_ne _ _ _ _ nb
  have hBs : hB.objs.size = h₀.objs.size := Heap.size_update ..
  have L23 : L ≠ 23 := fun q => by
    have := F.above
    have h2 := Heap.lt_size hb23
    rw [q] at this
    exact absurd (Nat.lt_of_lt_of_le h2 this) (Nat.lt_irrefl _)
  have F4 : Fr hB L h4 m := ⟨F.ns.at' fun o e => k4 L o (by simpa using L23) e, fun b o e => by
    by_cases nb : b = 23
    · rw [nb, hB23] at e; cases e; rw [nb]; exact h23
    · rw [hBo b nb] at e; exact k4 b o (by simpa using nb) (F.keep b o e), by rw [hBs]; exact F.above⟩
  have XB : (KK2 w.params).In hB := fun a o e => by
    have na : a ≠ 23 := fun q => absurd (lookup_filter (P := fun n => !(n == 23)) e).2 (by rw [q]; decide)
    rw [hBo a na]; exact X a o e
  clear_value hB
  obtain ⟨eP, hp⟩ := la.hp
  obtain ⟨eD, hd⟩ := la.hd
  have n23 : ∀ {b : Addr} {o : Obj} , s.heap.get? b = some o → o.cls ≠ .none → b ≠ 23 := fun {b o} e hc q => by
    have h23s := F.keep _ _ hb23
    rw [q, h23s] at e; cases e; exact hc rfl
  have k4' : ∀ {b : Addr} {o : Obj}, s.heap.get? b = some o → o.cls ≠ .none → h4.get? b = some o := fun {b o} e hc => k4 b o (by simpa using n23 e hc) e
  refine evalAll_nil ?_
  show wpAny _ _ (call (.builtin "sorted") [.ref pA] [(Str.ofString "key", .ref aC)]) _ _ _
  have hlt : ps.length = tr.length := la.pl
  have hpil : pi.length = tr.length := by rw [la.pile.perm.length_eq]; simp
  have htwo := ok.two (by omega)
  have hle := ok.le
  have pt4 : ∀ (j : Nat) (p : Addr) (u : Nat), ps[j]? = some p → pi[j]? = some u → PT h4 tr p u := fun j p u h1 h2 => by
    obtain ⟨y, t, t', hy, o, ho, hc, hh⟩ := la.pt j p u h1 h2
    exact ⟨y, t, t', hy, o, k4' ho (by rw [hc]; decide), hc, hh⟩
  have hp4 := k4' hp (by simp)
  have hd4 := k4' hd (by simp)
  refine sorted_ok (s := { s with heap := h4, toks := tk4 }) (aC := aC) (cell := cell) (ps := ps) (key := fun j => numOf tr (pi.getD j 0)) (hA.mono (by decide) (by decide)) ⟨X4, c4, hcell⟩ ⟨_, hp4, rfl, _, rfl⟩ (fun j p hj => ?_) (by omega) (by omega) fun D h5 tk5 q c k5 nD hq hup hD => ?_
  · have hjl := (List.getElem?_eq_some_iff.mp hj).1
    have hu := List.getElem?_eq_getElem (l := pi) (i := j) (by omega)
    obtain ⟨y, t, t', hy, hh⟩ := pt4 j p _ hj hu
    have eg : pi.getD j 0 = pi[j] := by rw [List.getD_eq_getElem?_getD, hu]; rfl
    refine ⟨[.int (numOf tr pi[j]) t, .str y t'], t, hh, by rw [eg]; rfl, ?_⟩
    rw [eg]
    have hlt2 : pi[j] < tr.length := by
      have := la.pile.perm.mem_iff.mp (List.getElem_mem (l := pi) (n := j) (by omega))
      simpa using this
    have := ok.nums (tr[pi[j]]) (List.getElem_mem _)
    have e2 : numOf tr pi[j] = tr[pi[j]].1 := by unfold numOf; rw [List.getD_eq_getElem?_getD, List.getElem?_eq_getElem hlt2]; rfl
    rw [e2]; omega
  have mono : ∀ u v, u ≤ v → v < tr.length → numOf tr u ≤ numOf tr v := fun u v huv hv => by
    have e : ∀ u, (hu : u < tr.length) → numOf tr u = tr[u].1 := fun u hu => by unfold numOf; rw [List.getD_eq_getElem?_getD, List.getElem?_eq_getElem hu]; rfl
    rw [e u (by omega), e v hv]
    rcases Nat.lt_or_ge u v with c | c
    · exact List.pairwise_iff_getElem.mp ok.up u v (by omega) hv c
    · have : u = v := by omega
      subst this; exact Int.le_refl _
  rw [hlt] at hq hup
  have hord := la.pile.sorted mono hq hup
  have F5 := F4.after fun b o e => gk k5 e
  refine wpAny_storeName_local (by kernel_rfl) F5.ns (fun h6 hn6 hs6 => ?_) (by kernel_rfl)
  have F6 : Fr hB L h6 _ := F5.set hn6 hs6
  have DL : D ≠ L := Ns_ne F4.ns nD
  have hD6 := hs6.extBut _ _ DL hD
  have K6 : ∀ b o, b ≠ L → h4.get? b = some o → h6.get? b = some o := fun b o nb e => hs6.extBut b o nb (gk k5 e)
  dsimp only
  refine wpAny_execs_cons (wpAny_Return_some (wpAny_Compare1 (wpAny_Call_NameR (gname3 F6 XB (g_red _) ?_))))
  refine callWith_meth (h₀ := hB) rfl (XB 37 _ (red_lk _)) (spliced_more (gname3 F6 XB (g_more _) ?_) (by kernel_rfl))
  refine spliced_more (ld (v := .ref D) F6 rfl ?_) (by kernel_rfl)
  refine spliced_more (List_ (spliced_more (wpAny_Call_NameR (gname3 F6 XB (g_dec _) ?_)) (by kernel_rfl))) (by kernel_rfl)
  refine callWith_meth (h₀ := hB) rfl (XB 21 _ (dec_lk _)) (spliced_more (wpAny_Constant_str ?_) (by kernel_rfl))
  refine spliced_none ⟨F6.keep, ?_⟩
  show wpAny _ _ (call (.ref 21) [.str (S "") _]) _ _ _
  refine decode_ok (fun a o e => F6.keep a o (XB a o e)) (hA.mono (by decide) (by decide)) (by decide +kernel) fun h7 tk7 a k7 na ia => ?_
  refine spliced_none (wpAny_newList ?_ (by show 1 ≤ _; rw [sizeLine_eq]; omega))
  have F7 := F6.after fun b o e => gk k7 e
  have k8 : Kx [] h7 (h7.push { cls := .type "list", data := .seq [Value.ref a].toArray }) := Kx.push Kx.refl
  have F8 := F7.after fun b o e => gk k8 e
  have hl8 : (h7.push { cls := .type "list", data := .seq [Value.ref a].toArray }).IsList h7.objs.size #[.ref a] := ⟨_, Heap.get?_push_size _ rfl, rfl, _, rfl⟩
  have l29 : h7.objs.size ≠ 29 := fun q => by
    obtain ⟨o29, h29⟩ := Option.isSome_iff_exists.mp (show ((KK2 w.params).lookup 29).isSome = true by kernel_rfl)
    have := Heap.lt_size (F7.keep _ _ (XB 29 _ h29))
    rw [q] at this; exact absurd this (Nat.lt_irrefl _)
  dsimp only
  generalize h7.objs.size = lA at *
  generalize h7.push _ = h8 at *
  refine spliced_none ⟨F8.keep, ?_⟩
  show wpAny _ _ (call (.ref 37) [.ref 58, .ref D, .ref lA]) _ _ _
  have hqs : q.size = tr.length := by rw [hq.size_eq]; simp
  have hg : ∀ i, i < tr.length → q.getD i 0 < tr.length := fun i hi => by
    have : q.getD i 0 ∈ q := by
      rw [Array.getD_eq_getD_getElem?, Array.getElem?_eq_getElem (by omega)]
      exact Array.getElem_mem _
    simpa using hq.mem_iff.mp this
  have K8 : ∀ b o, b ≠ L → h4.get? b = some o → h8.get? b = some o := fun b o nb e => gk k8 (gk k7 (K6 b o nb e))
  have hsz := cat_len (n + 1) ok.size
  refine reduce_ok (s := { s with heap := h8, toks := tk7 }) (ps := q.toList.map fun i => ps.getD i 0) (ys := txtOf tr) (fun a o e => F8.keep a o (XB a o e)) (hA.mono (by decide) (by decide)) hl8 (ia.k fun o e => gk k8 e) l29 ?hq ?len (by simp [hqs]; omega) ?hp (fun i => by have := hsz i; omega) ?hy fun h9 tk9 r as' k9 hr9 hl9 ha9 => ?_
  case hq => exact ⟨_, gk k8 (gk k7 hD6), rfl, _, by simp [List.map_map]; rfl⟩
  case len => simp [txtOf, hqs]
  case hy =>
    intro y hy
    obtain ⟨t, ht, rfl⟩ := List.mem_map.mp hy
    have : t.2.1.length ≤ (tr.map fun t => t.2.1.length).sum := le_sum (List.mem_map.mpr ⟨t, ht, rfl⟩)
    have := ok.size
    omega
  case hp =>
    intro i p y h1 h2
    have hi : i < tr.length := by
      have := (List.getElem?_eq_some_iff.mp h2).1
      simpa [txtOf] using this
    have eq1 : q.toList[i]? = some (q.getD i 0) := by
      rw [Array.getD_eq_getD_getElem?, Array.getElem?_eq_getElem (by omega)]
      simp [hqs, hi]
    rw [List.getElem?_map, eq1] at h1
    have hgi := hg i hi
    have e1 : ps[q.getD i 0]? = some p := by
      have hps := List.getElem?_eq_getElem (l := ps) (i := q.getD i 0) (by omega)
      rw [hps]
      have : ps.getD (q.getD i 0) 0 = p := by simpa using h1
      rw [← this, List.getD_eq_getElem?_getD, hps]; rfl
    have e2 : pi[q.getD i 0]? = some i := by
      have hpx := List.getElem?_eq_getElem (l := pi) (i := q.getD i 0) (by omega)
      have := hord i hi
      rw [List.getD_eq_getElem?_getD, hpx] at this
      rw [hpx]; exact congrArg some this
    obtain ⟨y', t, t', hy', hh⟩ := pt4 _ p i e1 e2
    rw [hy'] at h2; cases h2
    have pL' : p ≠ L := tup_ne_L hh F4.ns
    obtain ⟨o, ho, hh⟩ := hh
    exact ⟨_, t', o, K8 _ _ pL' ho, hh⟩
  have F9 := F8.after fun b o e => gk k9 e
  refine ld (v := .ref dA) F9 la.md ?_
  have dL : dA ≠ L := fun q => by
    obtain ⟨o', es, ep, ho', hd', _⟩ := la.F.ns
    rw [q, ho'] at hd; cases hd; cases hd'
  have hd9 := gk k9 (K8 _ _ dL hd4)
  have hal := la.al
  simp only [List.length_map, Array.length_toList, hqs] at hl9
  refine ans_eq (xs := (List.range (tr.length + 1)).map fun i => cat ((txtOf tr).take i)) (Nat.le_trans hA.3 (by decide)) hr9 ⟨_, hd9, rfl, _, rfl⟩ (by simp [hl9]) (by simp [hal]) (fun j b x h1 h2 => ?_) (fun j b x h1 h2 => ?_) (fun x hx => ?_) ?_
  · have hx : x = cat ((txtOf tr).take j) := by
      rw [List.getElem?_map] at h2
      cases hr' : (List.range (tr.length + 1))[j]? with
      | none => rw [hr'] at h2; simp at h2
      | some v =>
        rw [hr'] at h2
        obtain ⟨hlt', rfl⟩ := List.getElem?_eq_some_iff.mp hr'
        simpa using h2.symm
    rw [hx]; exact ha9 j b h1
  · have hx : x = cat ((txtOf tr).take j) := by
      rw [List.getElem?_map] at h2
      cases hr' : (List.range (tr.length + 1))[j]? with
      | none => rw [hr'] at h2; simp at h2
      | some v =>
        rw [hr'] at h2
        obtain ⟨hlt', rfl⟩ := List.getElem?_eq_some_iff.mp hr'
        simpa using h2.symm
    rw [hx]
    have hA0 := la.aa j b h1
    obtain ⟨o, ho, hcn, hdn⟩ := hA0.cls
    have bL : b ≠ L := fun q => by
      obtain ⟨o', es, ep, ho', hd', _⟩ := la.F.ns
      rw [q, ho'] at ho; cases ho; exact hdn _ _ hd'
    exact hA0.same ho (gk k9 (K8 _ _ bL (k4' ho hcn)))
  · obtain ⟨v, _, rfl⟩ := List.mem_map.mp hx
    refine strOk_cat fun y hy => ?_
    obtain ⟨t, ht, rfl⟩ := List.mem_map.mp (List.mem_of_mem_take hy)
    exact ok.chars t ht
  · refine k h9 tk9 (fun b o nb e => ?_) ⟨v23, F9.keep _ _ hB23⟩
    have nb' : b ≠ 23 := by simpa using nb
    exact F9.keep b o (by rw [hBo b nb']; exact e)
end Mine

end
section
open PySem PySem.W PySem.W.X PyProof.Rows
set_option Elab.async false
set_option maxRecDepth 100000
set_option maxHeartbeats 4000000
set_option linter.unusedVariables false
namespace Mine
local macro_rules | `(tactic| walk_at "eval Name") => `(tactic| (with_unfolding_all refine gname3 (by assumption) (by assumption) (by first | exact g_tick _ | exact g_dec _ | exact g_cmp _ | exact g_red _ | exact g_miss _ | exact g_parts _ | exact g_ahead _ | exact g_more _ | exact g_rule _) ?_))
local macro_rules | `(tactic| walk_at "eval Name") => `(tactic| (with_unfolding_all refine gname0 (by assumption) (by assumption) (by first | exact g_len3 _ | exact g_isi3 _ | exact g_list3 _ | exact g_range3 _ | exact g_sorted3 _ | exact g_iter3 _) (by first | exact g_len _ | exact g_isi _ | exact g_list _ | exact g_range _ | exact g_sorted _ | exact g_iter _) ?_))
theorem law_lk (P : Params) : (KK2 P).lookup 68 = some ⟨.type "function", none, .func (Calls.docDef (topDef 12).name (topDef 12).args (topDef 12).body (topDef 12).scope (fnK P 68).pyModule (fnK P 68).code (fnK P 68).doc), #[]⟩ := by kernel_rfl
theorem law_cd (P : Params) : codeIn (KK2 P) (fnK P 68).code (topDef 12).name = true := by kernel_rfl
theorem law_bd (P : Params) (u : Value) : bindArgs (Calls.docDef (topDef 12).name (topDef 12).args (topDef 12).body (topDef 12).scope (fnK P 68).pyModule (fnK P 68).code (fnK P 68).doc) ⟨[u], []⟩ = pure [(S "script", u)] := by kernel_rfl
theorem law_ok {w : World} {A : Around} {Q : Value → Shared → Prop} {E : Value → Shared → Prop} {s : Shared} {l : Addr} {vs : List Value} {ns : List Int} (X : (KK2 w.params).In s.heap) (hA : AOk A 340 500) (hC : s.heap.IsCode 27 23 #[]) (hT : s.heap.TableAt 27 23 #[]) (hl : s.heap.IsList l vs.toArray) (hi : IntsAre vs ns) (hlen : ns.length ≤ 63)
    (k : ∀ h' tk, Kx [23] s.heap h' → (∃ v, h'.get? 23 = some (tableObj #[rawInt clsPos.line, rawInt clsPos.col, v])) → Q (.bool true) { s with heap := h', toks := tk }) :
    wpAny (model prg w) A (call (.ref 68) [.ref l]) Q E s := by
  refine callK 12 68 _ X (Nat.lt_of_le_of_lt hA.2 (by decide)) (law_lk _) (law_cd _) (law_bd _ _) (locs (by kernel_rfl)) (by decide +kernel) fun L h1 tk nL F X1 => ?_
  have N : News s.heap L h1 [] := News.nil
  have hAd : AOk (A.deeper (tenv 12 68 (fnK w.params 68).code L)) 350 600 := hA.deeper.mono (by decide) (by decide)
  unfold tenv at hAd ⊢
  conv => arg 3; arg 1; whnf
  iterate 5 walk1
  rename (Addr : Type) => pA
  iterate 19 walk1
  rename (Addr : Type) => a0
  iterate 2 walk1
  rename (Addr : Type) => dA
  iterate 3 walk1
  rename News _ _ _ _ => N2
  rename Fr _ _ _ _ => F2
  refine wpAny_For ?_
  refine wpAny_Call_NameR (gname3 F2 X (g_parts _) ?_)
  refine callWith_meth (h₀ := s.heap) rfl (X 44 _ (part_lk _)) (spliced_more (ld (v := .ref l) F2 rfl (spliced_none ?_)) (by kernel_rfl))
  refine ⟨F2.keep, ?_⟩
  show wpAny _ _ (call (.ref 44) [.ref l]) _ _ _
  have hl2 := hl.at fun o e => F2.keep l o e
  refine parts_ok (fun a o e => F2.keep a o (X a o e)) (hAd.mono (by decide) (by decide)) hl2 hi hlen fun h3 tk3 r ts tr L' nw n hn2 hn22 k3 N3 hr hts ok => ?_
  have hdA : Heap.get? _ dA = _ := N2.get (.head _)
  have ha0 : Heap.get? _ a0 = _ := N2.get (.tail _ (.head _))
  have hpA : Heap.get? _ pA = _ := N2.get (.tail _ (.tail _ (.head _)))
  have F3 := F2.after fun b o e => gk k3 e
  have pd : pA ≠ dA := fun q => by rw [q, hdA] at hpA; cases hpA
  have tA := N2.isTup (.tail _ (.head _))
  have ad : a0 ≠ dA := tup_ne_list tA hdA
  have ap : a0 ≠ pA := tup_ne_list tA hpA
  have pL : pA ≠ L := N2.ne (.tail _ (.tail _ (.head _)))
  have dL : dA ≠ L := N2.ne (.head _)
  have aL : a0 ≠ L := N2.ne (.tail _ (.head _))
  obtain ⟨nn, hmem⟩ := id hr
  have nr := (N3 _ hmem).2.2
  dsimp only at nr
  have st : LawAt s.heap L pA dA tr 0 h3 _ [] [] [a0] := ⟨F3, rfl, ⟨_, rfl⟩, rfl, ⟨0, gk k3 hpA⟩, ⟨0, gk k3 hdA⟩, Pile.nil, rfl, fun j p u h1 => by simp at h1, rfl, fun j a h1 => ?_⟩
  · refine law_loop (E := fun _ _ => False) X (hAd.mono (by decide) (by decide)) st (fun b hb => by rw [List.mem_singleton.mp hb]; exact ⟨aL, ap, ad⟩) pd pL dL (N2.fresh (.tail _ (.tail _ (.head _)))) (N2.fresh (.head _)) (hr.isList N3) (fun q => by rw [q] at nr; exact nomatch (nr.symm.trans hpA)) (fun q => by rw [q] at nr; exact nomatch (nr.symm.trans hdA)) (Ns_ne F2.ns nr) (fun j a t h1 h2 => ?_) hts.len ok hn22 fun h4 tk4 m4 ps pi as la => ?_
    · obtain ⟨t1, t2, t3, e, hm⟩ := hts.at' j a t h1 h2
      exact ⟨t1, t2, t3, N3.isTup hm⟩
    · exact law_end X hAd hC hT la ok hn2 hn22 k
  · cases j with
    | zero =>
      simp at h1; subst h1
      show Ans h3 _ (S "")
      exact .inl ⟨mk_short (by decide +kernel), _, ⟨_, gk k3 ha0, rfl, _, rfl⟩⟩
    | succ j => simp at h1
end Mine

end
section
open PySem PySem.W PySem.W.X PyProof.Rows
set_option Elab.async false
set_option maxRecDepth 100000
set_option maxHeartbeats 4000000
set_option linter.unusedVariables false
namespace Mine
noncomputable def o27 (P : Params) : Obj := match (Mine.heapK P).lookup 27 with | some o => o | none => default
noncomputable def f27 (P : Params) : Array Value := match (o27 P).data with | .fields vs => vs | _ => #[]
def sOf : Value → Str | .str x _ => x | _ => Str.empty
def iOf : Value → Int | .int x _ => x | _ => 0
def itOf : Value → Tok | .int _ t => t | _ => 0
def bOf : Value → Bool | .bool b => b | _ => false
theorem l27 (P : Params) : (Mine.heapK P).lookup 27 = some (o27 P) := by kernel_rfl
theorem l23 (P : Params) : (Mine.heapK P).lookup 23 = some ⟨.none, none, .fields #[], #[]⟩ := by kernel_rfl
theorem c27 (P : Params) : (o27 P).cls = .type "code" := by kernel_rfl
theorem d27 (P : Params) : (o27 P).data = .fields (f27 P) := by kernel_rfl
theorem e11 (P : Params) : (f27 P).getD 11 .none = .ref 23 := by kernel_rfl
theorem g11 (P : Params) : (f27 P)[11]? = some (.ref 23) := by kernel_rfl
theorem e18 (P : Params) : (f27 P).getD 18 .none = .str (sOf ((f27 P).getD 18 .none)) (tokOf ((f27 P).getD 18 .none)) := by kernel_rfl
theorem e7 (P : Params) : (f27 P).getD 7 .none = .int (iOf ((f27 P).getD 7 .none)) (itOf ((f27 P).getD 7 .none)) := by kernel_rfl
theorem e9 (P : Params) : (f27 P).getD 9 .none = .bool (bOf ((f27 P).getD 9 .none)) := by kernel_rfl
theorem e10 (P : Params) : (f27 P).getD 10 .none = .int (iOf ((f27 P).getD 10 .none)) (itOf ((f27 P).getD 10 .none)) := by kernel_rfl
theorem isC {w : World} {h : Heap} (X : (KK w).In h) : h.IsCode 27 23 #[] :=
  ⟨_, _, _, _, _, _, _, _, _, _, X 27 _ (l27 _), d27 _, e11 _, e18 _, e7 _, e9 _, e10 _, X 23 _ (l23 _), rfl, trivial, by decide⟩
theorem isT {w : World} {h : Heap} (X : (KK w).In h) : h.TableAt 27 23 #[] := ⟨⟨_, _, X 27 _ (l27 _), c27 _, d27 _, g11 _⟩, X 23 _ (l23 _)⟩
end Mine

end
section
open PySem PySem.W PySem.W.X PyProof.Rows
set_option Elab.async false
set_option maxRecDepth 100000
set_option maxHeartbeats 4000000
set_option linter.unusedVariables false
theorem PySem.Challenge.cw_nb0060_01_holds : PySem.Challenge.rw_nb0060_01.Holds := by
  refine Mine.hd ?_
  k_fill
  intro w s₀ s₁ mg mb G Y fa o pm cd doc dV kV ho hd hcd hD hmg hg args vals as hpre hlay hrd hwl hlo
  have KX := kIn_of Y
  refine Ground.open G ?_
  intro T B D TE TW
  wrow_args hpre hlay hrd hwl hlo
  x_fa T KX hmg
  rename IntsAre _ _ => hI
  rename Heap.IsList _ _ _ => hL
  rename ¬ _ < _ => hcond
  clear hd hcd hmg T B D TE TW G Y ho
  refine Mine.law_ok (Mine.KK2.of KX) ⟨rfl, by decide, by decide⟩ (Mine.isC KX) (Mine.isT KX) hL hI (by omega) fun h' tk k23 t23 => ?_
  refine ⟨.inl ⟨.bool true, .bool true, [], rfl, fun cls => ?_, .bool true, ?_, fun _ => ⟨.nil, fun a ha => nomatch ha⟩⟩, ⟨fun b o' e => ?_, fun b o' e => ?_⟩, rfl, ?_⟩
  · rfl
  · first | kernel_rfl | (with_unfolding_all rfl) | law_fin | wrow_close
  · by_cases nb : b = 23
    · subst nb
      obtain ⟨v, hv⟩ := t23
      have h23 := KX 23 _ (Mine.l23 _)
      rw [h23] at e; cases e
      exact .inr (.inl ⟨(Mine.isT KX).isCodeTable, rfl, #[], #[rawInt Mine.clsPos.line, rawInt Mine.clsPos.col, v], rfl, by simpa [tableObj] using hv⟩)
    · exact .inl (k23 b o' (by simpa using nb) e)
  · by_cases nb : b = 23
    · subst nb
      obtain ⟨v, hv⟩ := t23
      exact ⟨_, hv⟩
    · exact ⟨o', k23 b o' (by simpa using nb) e⟩
  · exact AllBare.of_eq hg

end
