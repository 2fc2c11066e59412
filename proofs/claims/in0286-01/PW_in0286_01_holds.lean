import PyProof.Rows.All
import KE.KNestM
import KE.KPar
import KE.KParD
import KE.KTypeName
import OpenK.AllK
import Wide.All
import Wide.FinOn
import Lean
import PySem.Challenge.RW_in0286_01
set_option Elab.async false
set_option maxRecDepth 100000
set_option linter.unusedVariables false
noncomputable section
namespace Mine
section
open PySem PySem.Calls PyProof.Rows PySem.W
open PySem.Builtin PySem.Builtin.Re

/-- no first sign of a match in the text -/
noncomputable def FirstNo (code : Array Nat) (c : Nat) : Prop := ∀ seen : Sre.Seen, ∃ seen', Sre.inSet code c code.size 5 true seen = .ok (false, seen')

theorem admitted_no {m : Sre.M} (h : ∀ c ∈ m.text.toList, FirstNo m.code c) (hlim : m.lim ≤ m.text.size) : ∀ (fuel s : Nat) (seen : Sre.Seen), ∃ seen', Sre.M.admitted m fuel s seen = .ok (none, seen')
  | 0, s, seen => ⟨seen, rfl⟩
  | fuel + 1, s, seen => by
    unfold Sre.M.admitted
    split
    · exact ⟨seen, rfl⟩
    · rename_i hs
      have hlt : s < m.text.size := by omega
      have hc : m.text.getD s 0 ∈ m.text.toList := by
        rw [Array.getD_eq_getD_getElem?, Array.getElem?_eq_getElem hlt, Option.getD_some]
        exact Array.mem_toList_iff.mpr (Array.getElem_mem hlt)
      obtain ⟨seen', e⟩ := h _ hc seen
      rw [e]
      exact admitted_no h hlim fuel (s + 1) seen'

theorem from_no {m : Sre.M} (h : ∀ c ∈ m.text.toList, FirstNo m.code c) (hlim : m.lim ≤ m.text.size) (hf : Sre.ops[m.code.getD 0 0]? = some .INFO) (h2 : m.code.getD 2 0 = 4) (s : Nat) (b : Bool) :
    ∃ seen, m.attemptFrom s b = ({ m with seen := seen } : Sre.M).say false := by
  have hs : m.hasFirstSet = true := by
    unfold Sre.M.hasFirstSet
    rw [hf, h2]; rfl
  unfold Sre.M.attemptFrom
  rw [hs]
  obtain ⟨seen', e⟩ := admitted_no h hlim (m.lim + 1 - s) s m.seen
  rw [e]
  exact ⟨seen', rfl⟩

theorem search_no {code text : Array Nat} {groups lim : Nat} {must : Bool} (hlim : lim ≤ text.size) (h : ∀ c ∈ text.toList, FirstNo code c) (hf : Sre.ops[code.getD 0 0]? = some .INFO) (h2 : code.getD 2 0 = 4) :
    ∃ m : Sre.M, Sre.forSearch code text groups 0 lim must = m ∧ m.answer = some false ∧ m.frames = [] ∧ m.outcome = none := by
  have key : ∀ m : Sre.M, m.text = text → m.code = code → m.lim = lim → m.frames = [] → m.outcome = none → (m.attemptFrom 0 true).answer = some false ∧ (m.attemptFrom 0 true).frames = [] ∧ (m.attemptFrom 0 true).outcome = none := by
    intro m e1 e2 e3 e4 e5
    obtain ⟨seen, e⟩ := from_no (m := m) (by rw [e1, e2]; exact h) (by rw [e1, e3]; exact hlim) (by rw [e2]; exact hf) (by rw [e2]; exact h2) 0 true
    rw [e]
    exact ⟨rfl, e4, e5⟩
  unfold Sre.forSearch
  dsimp only
  split
  · exact ⟨_, rfl, rfl, rfl, rfl⟩
  · exact ⟨_, rfl, key _ rfl rfl rfl rfl rfl⟩

section
variable {M : Model} {A : Around} {E : Value → Shared → Prop} {s : Shared}
theorem run_no {m : Sre.M} {Q : Option Sre.M → Shared → Prop} (h1 : m.answer = some false) (h2 : m.frames = []) (h3 : m.outcome = none) (q : Q none s) : wpAny M A (reRunToEnd m) Q E s := by
  unfold reRunToEnd
  have hst : m.step = { m with outcome := some .failed } := by
    unfold Sre.M.step
    rw [h3, h1, h2]
    rfl
  have hrun : m.runFor reTurnSteps = { m with outcome := some .failed } := by
    show m.runFor 4 = _
    unfold Sre.M.runFor
    rw [h3, hst]
    rfl
  have hdr : reDrive (2 ^ 64) m = pure { m with outcome := some .failed } := by
    rw [show (2 ^ 64 : Nat) = (2 ^ 64 - 1) + 1 from rfl]
    unfold reDrive
    rw [hrun]
    rfl
  rw [hdr]
  refine wpAny_bind (wpAny_pure ?_)
  refine wpAny_bind ?_
  have loop : ∀ (l : List Nat), wpAny M A (forIn l PUnit.unit fun i (_ : PUnit) => do
      if ({ m with outcome := some .failed } : Sre.M).seen.has i then rule (Sre.names.getD i "")
      pure (ForInStep.yield PUnit.unit)) (fun _ s' => wpAny M A (match (some Sre.Outcome.failed) with
      | some .matched => pure (some { m with outcome := some .failed })
      | some .failed => pure none
      | some (.stuck why) => unsupported s!"_sre:{why}"
      | none => unsupported "internal:sre:no-outcome") Q E s') E s := by
    intro l
    induction l with
    | nil => exact wpAny_pure (wpAny_pure q)
    | cons a r ih =>
      rw [List.forIn_cons]
      refine wpAny_bind ?_
      split
      · exact wpAny_bind (wpAny_rule (wpAny_pure ih))
      · exact wpAny_pure ih
  exact loop _
end

noncomputable def nameCode : Array Nat := #[14, 10, 4, 1, 1, 22, 0, 31, 16, 127, 0, 13, 7, 22, 0, 31, 16, 127, 0, 1]
noncomputable def valCode : Array Nat := #[14, 14, 4, 1, 1, 9, 4294966783, 0, 0, 2147483648, 0, 0, 0, 0, 0, 13, 11, 9, 4294966783, 0, 0, 2147483648, 0, 0, 0, 0, 0, 1]
noncomputable def twinCode : Array Nat := #[14, 14, 4, 1, 1, 9, 0, 64, 0, 1342177280, 0, 0, 0, 0, 0, 17, 0, 13, 11, 9, 0, 64, 0, 1342177280, 0, 0, 0, 0, 0, 17, 1, 1]

theorem first_name {c : Nat} (h1 : ¬ c ≤ 31) (h2 : c ≠ 127) : FirstNo nameCode c := by
  have e1 : (decide (0 ≤ c) && decide (c ≤ 31)) = false := by simp; omega
  have e2 : (c == 127) = false := beq_eq_false_iff_ne.mpr h2
  have s3 : ∀ seen : Sre.Seen, ∃ seen', Sre.inSet nameCode c 18 10 true seen = .ok (false, seen') := fun seen => ⟨_, rfl⟩
  have s2 : ∀ seen : Sre.Seen, ∃ seen', Sre.inSet nameCode c 19 8 true seen = .ok (false, seen') := fun seen => by
    show ∃ seen', (if (c == 127) = true then _ else Sre.inSet nameCode c 18 10 true _) = _
    rw [e2]
    exact s3 _
  intro seen
  show ∃ seen', (if (decide (0 ≤ c) && decide (c ≤ 31)) = true then _ else Sre.inSet nameCode c 19 8 true _) = _
  rw [e1]
  exact s2 _
theorem first_val {c : Nat} (h : (decide (c < 256) && (valCode.getD (5 + (1 + c / 32)) 0).testBit (c % 32)) = false) : FirstNo valCode c := by
  have s2 : ∀ seen : Sre.Seen, ∃ seen', Sre.inSet valCode c 27 14 true seen = .ok (false, seen') := fun seen => ⟨_, rfl⟩
  intro seen
  show ∃ seen', (if (decide (c < 256) && (valCode.getD (5 + (1 + c / 32)) 0).testBit (c % 32)) = true then _ else Sre.inSet valCode c 27 14 true _) = _
  rw [h]
  exact s2 _
theorem first_twin {c : Nat} (h : (decide (c < 256) && (twinCode.getD (5 + (1 + c / 32)) 0).testBit (c % 32)) = false) : FirstNo twinCode c := by
  have s2 : ∀ seen : Sre.Seen, ∃ seen', Sre.inSet twinCode c 31 14 true seen = .ok (false, seen') := fun seen => ⟨_, rfl⟩
  intro seen
  show ∃ seen', (if (decide (c < 256) && (twinCode.getD (5 + (1 + c / 32)) 0).testBit (c % 32)) = true then _ else Sre.inSet twinCode c 31 14 true _) = _
  rw [h]
  exact s2 _
theorem val_small : ∀ c : Fin 256, (c.val < 9 || (10 ≤ c.val && c.val < 32) || c.val == 127) = (valCode.getD (5 + (1 + c.val / 32)) 0).testBit (c.val % 32) := by decide +kernel
theorem twin_small : ∀ c : Fin 256, (c.val == 38 || c.val == 124 || c.val == 126) = (twinCode.getD (5 + (1 + c.val / 32)) 0).testBit (c.val % 32) := by decide +kernel
theorem val_bit {c : Nat} (h : (c < 9 || (10 ≤ c && c < 32) || c == 127) = false) : (decide (c < 256) && (valCode.getD (5 + (1 + c / 32)) 0).testBit (c % 32)) = false := by
  by_cases z : c < 256
  · have := val_small ⟨c, z⟩
    rw [h] at this
    rw [← this]; simp
  · simp [z]
theorem twin_bit {c : Nat} (h : (c == 38 || c == 124 || c == 126) = false) : (decide (c < 256) && (twinCode.getD (5 + (1 + c / 32)) 0).testBit (c % 32)) = false := by
  by_cases z : c < 256
  · have := twin_small ⟨c, z⟩
    rw [h] at this
    rw [← this]; simp
  · simp [z]

/-- a compiled pattern over texts -/
inductive IsPat (h : Heap) (p : Addr) (code : Array Nat) : Prop
  | mk {o : Obj} {vs : Array Value} {c : Addr} {oc : Obj} {its : Array Value} {n : Nat} {t₆ : Tok} (e1 : h.get? p = some o) (e2 : o.cls = .type "re.Pattern") (e3 : o.dict = none) (e4 : o.data = .fields vs) (e5 : vs.getD 6 .none = .int 0 t₆) (e6 : vs.getD 5 .none = .ref c)
    (e7 : h.get? c = some oc) (e8 : oc.data = .seq its n) (e9 : (its.map reRawOf).map (·.toNat) = code)
theorem IsPat.keeps {h h' : Heap} {p : Addr} {code : Array Nat} (x : IsPat h p code) (k : ∀ b o, h.get? b = some o → h'.get? b = some o) : IsPat h' p code := by
  cases x with
  | mk e1 e2 e3 e4 e5 e6 e7 e8 e9 => exact ⟨k _ _ e1, e2, e3, e4, e5, e6, k _ _ e7, e8, e9⟩
theorem IsPat.typeIs {s : Shared} {p : Addr} {code : Array Nat} (x : IsPat s.heap p code) : s.TypeIs (.ref p) "re.Pattern" := by
  cases x with
  | mk e1 e2 => exact ⟨_, e1, e2⟩

theorem plain_pat : PlainAttrs "re.Pattern" :=
  ⟨⟨"object.__getattribute__", by rw [typeLookup_type, builtinLookup_eq_fast]; kernel_rfl, by decide +kernel⟩, by rw [typeLookup_type, builtinLookup_eq_fast]; kernel_rfl⟩
theorem slot_search : Slot "re.Pattern" "search" "re.Pattern.search" :=
  .of (owner := "re.Pattern") (n := "search") (by rw [typeLookup_type, builtinLookup_eq_fast]; kernel_rfl) (by decide +kernel) (by decide +kernel) (by decide +kernel)
    (by first | exact .inl (by decide +kernel) | exact .inr (by decide +kernel)) (by rw [isSubtype_type]; kernel_rfl)
theorem type_search : typeOf (.builtin "re.Pattern.search") = pure (.type "method_descriptor") := by show builtinType _ = _; rw [builtinType_eq_fast]; kernel_rfl
theorem slot_sub : Slot "re.Pattern" "sub" "re.Pattern.sub" :=
  .of (owner := "re.Pattern") (n := "sub") (by rw [typeLookup_type, builtinLookup_eq_fast]; kernel_rfl) (by decide +kernel) (by decide +kernel) (by decide +kernel)
    (by first | exact .inl (by decide +kernel) | exact .inr (by decide +kernel)) (by rw [isSubtype_type]; kernel_rfl)
theorem type_sub : typeOf (.builtin "re.Pattern.sub") = pure (.type "method_descriptor") := by show builtinType _ = _; rw [builtinType_eq_fast]; kernel_rfl
theorem entry_search : entryFor table "re.Pattern.search" = some Builtin.«re.Pattern.search» := entryFor_of_tree (by kernel_rfl)
theorem entry_sub : entryFor table "re.Pattern.sub" = some Builtin.«re.Pattern.sub» := entryFor_of_tree (by kernel_rfl)
theorem entry_subloop : entryFor table "re.Pattern.sub.loop" = some Builtin.«re.Pattern.sub.loop» := entryFor_of_tree (by kernel_rfl)
theorem owner_pat : Manifest.owners.lookup (String.ofList ['n', 'r', 'e', 't', 't', 'a', 'P', '.', 'e', 'r'].reverse) = some Manifest.sig_re_Pattern := by kernel_rfl
theorem args_search (a b : Value) : argsOk "re.Pattern.search" ⟨[a, b], []⟩ := by
  unfold argsOk; rw [signature?_of (id := "re.Pattern.search") (n := ['h', 'c', 'r', 'a', 'e', 's']) (o := ['n', 'r', 'e', 't', 't', 'a', 'P', '.', 'e', 'r']) (by kernel_rfl) owner_pat]; kernel_rfl
theorem args_sub (a b c : Value) : argsOk "re.Pattern.sub" ⟨[a, b, c], []⟩ := by
  unfold argsOk; rw [signature?_of (id := "re.Pattern.sub") (n := ['b', 'u', 's']) (o := ['n', 'r', 'e', 't', 't', 'a', 'P', '.', 'e', 'r']) (by kernel_rfl) owner_pat]; kernel_rfl

theorem named_search (x : Str) (t : Tok) : reNamed "re.Pattern.search" "search" ["string", "pos", "endpos"] 1 [.str x t] [] = pure [some (.str x t), none, none] := by kernel_rfl
theorem named_sub (f : Value) (x : Str) (t : Tok) : reNamed "re.Pattern.sub" "sub" ["repl", "string", "count"] 2 [f, .str x t] [] = pure [some f, some (.str x t), none] := by kernel_rfl

section
variable {M : Model} {A : Around} {E : Value → Shared → Prop} {s : Shared}
theorem text_of {x : Str} {t : Tok} {Q : Array Nat × Nat → Shared → Prop} (q : Q (x.cps, 0) s) : wpAny M A (reTextOf (.str x t)) Q E s := by
  unfold reTextOf
  exact wpAny_pure q
theorem search_tree {p : Addr} {x : Str} {t : Tok} {code : Array Nat} {Q : Fin → Shared → Prop} (P : IsPat s.heap p code) (h : ∀ c ∈ x.cps.toList, FirstNo code c) (hf : Sre.ops[code.getD 0 0]? = some .INFO) (h2 : code.getD 2 0 = 4) (q : Q (.done (.ret .none)) s) :
    wpAny M A (Builtin.«re.Pattern.search» ⟨[.ref p, .str x t], []⟩) Q E s := by
  obtain @⟨o, vs, c, oc, its, n, t₆, e1, e2, e3, e4, e5, e6, e7, e8, e9⟩ := P
  unfold Builtin.«re.Pattern.search» reTarget
  dsimp only
  rw [named_search]
  refine wpAny_bind (wpAny_bind (wpAny_pure ?_))
  refine wpAny_bind (wpAny_pure (wpAny_bind (wpAny_pure (wpAny_bind (wpAny_fieldsOf e1 e4 (wpAny_bind (text_of ?_)))))))
  dsimp only
  rw [e5, e6]
  refine wpAny_bind (wpAny_pure (wpAny_bind ?_))
  unfold reRawItems
  refine wpAny_bind (wpAny_seqItems e7 e8 (wpAny_pure (wpAny_pure ?_)))
  dsimp only [Option.getD]
  rw [e9]
  unfold reAnswer
  obtain ⟨m, hm, a1, a2, a3⟩ := search_no (code := code) (text := x.cps) (groups := reRawNat (vs.getD 2 .none)) (lim := min (2 ^ 63 - 1 : Int).toNat x.cps.size) (must := false) (Nat.min_le_right _ _) h hf h2
  dsimp only
  rw [show min (0 : Int).toNat x.cps.size = 0 by simp, hm]
  exact wpAny_bind (run_no a1 a2 a3 (wpAny_pure q))
end
end

section
open PySem PySem.Calls PyProof.Rows PySem.W
open Sem (wp)
section
variable {prog : Program} {w : World} {A : Around} {E : Value → Shared → Prop} {h : Heap} {g : Array GenState} {d : Drawn} {t : Nat} {os : OsState} {a : Addr} {vs : List Value} {n : Nat}
theorem look_md_get : typeLookup (.type "method_descriptor") "__get__" = pure (some (.builtin "method_descriptor.__get__")) := by rw [typeLookup_type, builtinLookup_eq_fast]; kernel_rfl
theorem look_md_set : typeLookup (.type "method_descriptor") "__set__" = pure none := by rw [typeLookup_type, builtinLookup_eq_fast]; kernel_rfl
theorem look_md_del : typeLookup (.type "method_descriptor") "__delete__" = pure none := by rw [typeLookup_type, builtinLookup_eq_fast]; kernel_rfl
theorem slot_md : Slot "method_descriptor" "__get__" "method_descriptor.__get__" :=
  .of (owner := "method_descriptor") (n := "__get__") look_md_get (by decide +kernel) (by decide +kernel) (by decide +kernel)
    (by first | exact .inl (by decide +kernel) | exact .inr (by decide +kernel)) (by rw [isSubtype_type]; kernel_rfl)
theorem entry_md : entryFor table "method_descriptor.__get__" = some Builtin.«method_descriptor.__get__» := entryFor_of_tree (by kernel_rfl)
theorem args_md (a b c : Value) : argsOk "method_descriptor.__get__" ⟨[a, b, c], []⟩ := by unfold argsOk; kernel_rfl
theorem told_append : Manifest.toldItsClass.contains "list.append" = false := by decide +kernel
theorem append_entry {tk : Tok} {Q : Fin → Shared → Prop} (hx : h.get? a = some { cls := .type "list", dict := none, data := .seq vs.toArray n, slots := #[] }) (hq : Q (.done (.ret (.ref h.objs.size))) ⟨h.push { cls := .type "builtin_function_or_method", data := .fields #[.builtin "list.append", .ref a] }, g, d, t, os⟩) :
    wpAny (model prog w) A (Builtin.«object.__getattribute__» ⟨[.ref a, .str "append" tk], []⟩) Q E ⟨h, g, d, t, os⟩ := by
  have hT : (⟨h, g, d, t, os⟩ : Shared).TypeIs (.ref a) "list" := ⟨_, hx, rfl⟩
  have f4 := PySem.slot_list_append.lookup
  have f5 := PySem.F.type_list_append
  have f6 := look_md_get
  have f7 := look_md_set
  have f8 := look_md_del
  unfold Builtin.«object.__getattribute__»
  repeat (any_goals (first | assumption | wp_step))
  refine codeAny_call_builtin slot_md.plain entry_md (slot_md.check _ _ _ _ _ _ _ _ f5 (args_md _ _ _) ?_)
  unfold Builtin.«method_descriptor.__get__»
  refine wpAny_bind (wpAny_of_eq (a := (.builtin "list.append", some (.ref a), some (.type "list"))) (by kernel_rfl) ?_)
  dsimp only
  rw [told_append, if_neg Bool.false_ne_true]
  have hsub : isSubtype (.type "list") (.type "list") = pure true := by rw [isSubtype_type]; kernel_rfl
  refine wpAny_bind (wpAny_bind (wpAny_of_eq (a := (("append" : Str), .type "list")) (by kernel_rfl) ?_))
  repeat (any_goals (first | assumption | wp_step))
theorem append_attr {Q : Value → Shared → Prop} (hx : h.get? a = some { cls := .type "list", dict := none, data := .seq vs.toArray n, slots := #[] }) (hq : Q (.ref h.objs.size) ⟨h.push { cls := .type "builtin_function_or_method", data := .fields #[.builtin "list.append", .ref a] }, g, d, t + 1, os⟩) :
    wpAny (model prog w) A (getAttr (.ref a) "append" true) Q E ⟨h, g, d, t, os⟩ := by
  have hT : ∀ tk, (⟨h, g, d, tk, os⟩ : Shared).TypeIs (.ref a) "list" := fun _ => ⟨_, hx, rfl⟩
  have f2 := PySem.F.slot_list_getattribute.lookup
  have f3 := PySem.F.slot_list_getattribute.bind (.ref a)
  unfold getAttr getAttrBy
  repeat (any_goals (first | assumption | exact hT _ | wp_step))
  refine codeAny_call_builtin PySem.F.slot_list_getattribute.plain PySem.F.entry_list_ga (PySem.F.slot_list_getattribute.check _ _ _ _ _ _ _ _ (hT _) (PySem.F.args_list_getattribute_2 _ _) (append_entry hx ?_))
  exact wpAny_pure hq
end
end

section
open PySem PySem.Calls PyProof.Rows PySem.W Builtin Builtin.ObjectAttr

section
variable {prog : Program} {w : World} {A : Around} {E : Value → Shared → Prop} {s : Shared} {K : Frag} {C x dx : Addr} {name : Str} {v : Value}
/-- the first attribute of a new object -/
theorem set_first {Q : Unit → Shared → Prop} (X : K.In s.heap) (hx : s.heap.get? x = some (instObj C dx)) (hdx : s.heap.get? dx = some emptyDict)
    (hs : findIn K (.ref C) "__setattr__" = some (some (.builtin "object.__setattr__"))) (hp : plainOver K C = true) (ht : takerIn K C name = some none) (hh : hasDictIn K C = true)
    (h : ∀ h' hsh tk, Heap.SameBut dx s.heap h' → h'.get? dx = some (dictOf [⟨hsh, .str name tk, v⟩] 1) → Q () { s with heap := h', toks := s.toks + 1 + 1 }) :
    wpAny (model prog w) A (setAttr (.ref x) name v) Q E s := by
  have I : InstAt s.heap x (instObj C dx) C (some emptyDict) := ⟨hx, rfl, rfl, hdx⟩
  refine set_plain X I hs (osa_open (s := { s with toks := s.toks + 1 }) X I hp ht fun b => ?_)
  obtain ⟨cd, hc, hd'⟩ := any_some hh
  have e : Obj.putName name (PyData.keyHash w.params name) (.str name (s.toks + 1)) v emptyDict = dictOf [⟨PyData.keyHash w.params name, .str name (s.toks + 1), v⟩] 1 := by
    have := putName_dict name (PyData.keyHash w.params name) (.str name (s.toks + 1)) v [] 0
    exact this
  have hnew : (s.heap.update dx (Obj.putName name (PyData.keyHash w.params name) (.str name (s.toks + 1)) v)).get? dx = some (dictOf [⟨PyData.keyHash w.params name, .str name (s.toks + 1), v⟩] 1) := by
    rw [Heap.get?_update_self _ hdx (by rw [e]; rfl), e]
  refine wpAny_bind (wpAny_pure (wpAny_bind (wpAny_bind (wpAny_loadPart hx (wpAny_bind (Looks.here (s := { s with toks := s.toks + 1 }) (looks_clsIn X hc) ?_))))))
  rw [hd']
  refine wpAny_pure (a := some dx) (wpAny_bind (wpAny_pure (wpAny_bind ?_)))
  unfold nsSet
  refine wpAny_bind (wpAny_bind (wpAny_askSetting (wpAny_pure (wpAny_bind (wpAny_mkText (wpAny_bind (wpAny_loadPart hdx ?_)))))))
  dsimp only
  rw [aRefKeyMayBeTheName_at, show (!(#[] : Array DictEntry).any fun x => x.key.isStr name) = true from by simp, show ((#[] : Array DictEntry).any fun x => x.refKey) = false from by simp]
  refine wpAny_updatePart (s := { s with toks := s.toks + 1 + 1 }) hdx ?_
  refine wpAny_bind (wpAny_lookBehind (s := { s with toks := s.toks + 1 + 1, heap := s.heap.update dx (Obj.putName name (PyData.keyHash w.params name) (.str name (s.toks + 1)) v) }) hnew (pastItsLine_dict (by show 1 ≤ sizeLine + 1; omega)) ?_)
  exact wpAny_pure (h _ _ _ (Heap.SameBut.update ..) hnew)
end
end

section
open PySem PySem.Calls PyProof.Rows PySem.W
open PySem.Builtin PySem.Builtin.Re

theorem look_fn_call : typeLookup (.type "function") "__call__" = pure (some (.builtin "function.__call__")) := by rw [typeLookup_type, builtinLookup_eq_fast]; kernel_rfl
theorem str_not_ba : isSubtype (.type "str") (.type "bytearray") = pure false := by rw [isSubtype_type]; kernel_rfl
section
variable {M : Model} {A : Around} {E : Value → Shared → Prop} {s : Shared}
theorem whole_of {p : Addr} {x : Str} {t : Tok} {code : Array Nat} {Q : ReTarget → Shared → Prop} (P : IsPat s.heap p code) (q : ∀ g, Q { pattern := .ref p, string := .str x t, code := code, text := x.cps, kind := 0, groups := g, pos := 0, lim := x.cps.size } s) :
    wpAny M A (reWholeTarget (.ref p) (.str x t)) Q E s := by
  obtain @⟨o, vs, c, oc, its, n, t₆, e1, e2, e3, e4, e5, e6, e7, e8, e9⟩ := P
  unfold reWholeTarget
  refine wpAny_bind (wpAny_fieldsOf e1 e4 (wpAny_bind (text_of ?_)))
  dsimp only
  rw [e5, e6]
  refine wpAny_bind (wpAny_pure (wpAny_bind ?_))
  unfold reRawItems
  refine wpAny_bind (wpAny_seqItems e7 e8 (wpAny_pure (wpAny_pure ?_)))
  dsimp only [Option.getD]
  rw [e9]
  exact q _
theorem notHeld_str {id : String} {x : Str} {t : Tok} {Q : Unit → Shared → Prop} (q : Q () s) : wpAny M A (reNotHeld id (.str x t)) Q E s := by
  unfold reNotHeld
  refine wpAny_bind (wpAny_isInstance (typeIs_str _ _ _) str_not_ba ?_)
  exact wpAny_pure q
end

section
variable {prog : Program} {w : World} {A : Around} {E : Value → Shared → Prop} {s : Shared}
theorem sub_call {p f : Addr} {x : Str} {t : Tok} {code : Array Nat} {Q : Value → Shared → Prop} (P : IsPat s.heap p code) (hF : s.TypeIs (.ref f) "function") (hn : ∀ c ∈ x.cps.toList, FirstNo code c) (hf : Sre.ops[code.getD 0 0]? = some .INFO) (h2 : code.getD 2 0 = 4)
    (hx : x.length ≤ sizeLine) (q : ∀ h' tk t', (∀ b o, s.heap.get? b = some o → h'.get? b = some o) → Q (.str x t') { s with heap := h', toks := tk }) :
    wpAny (model prog w) A (call (.builtin "re.Pattern.sub") [.ref p, .ref f, .str x t]) Q E s := by
  refine wpAny_call (codeAny_call_builtin slot_sub.plain entry_sub (slot_sub.check _ _ _ _ _ _ _ _ P.typeIs (args_sub _ _ _) ?_))
  show wpAny _ _ (reSubstitute "re.Pattern.sub" "sub" false _) _ _ _
  unfold reSubstitute
  dsimp only
  rw [named_sub]
  refine wpAny_bind (wpAny_pure ?_)
  dsimp only
  refine wpAny_bind (wpAny_pure (wpAny_bind (wpAny_specialOf (name := Str.ofString "__call__") hF look_fn_call ?_)))
  refine wpAny_bind (wpAny_pure (wpAny_bind (wpAny_pure ?_)))
  dsimp only
  refine wpAny_bind (wpAny_holding (whole_of P fun g => ?_))
  refine wpAny_bind (notHeld_str ?_)
  refine wpAny_bind (wpAny_newList ?_ (by show 0 ≤ sizeLine; omega))
  have keep₁ : ∀ b o, s.heap.get? b = some o → (s.heap.push { cls := .type "list", data := .seq #[] }).get? b = some o := fun b o e => Heap.get?_push_of_some _ e
  have hl : (s.heap.push { cls := .type "list", data := .seq #[] }).get? s.heap.objs.size = some { cls := .type "list", data := .seq #[] } := Heap.get?_push_size _ rfl
  refine wpAny_pure ⟨Code.quiet_builtin _ (by decide +kernel), codeAny_builtin entry_subloop ?_⟩
  rw [Around.under_plainId (by decide +kernel) _]
  unfold Builtin.«re.Pattern.sub.loop»
  dsimp only [rawInt]
  refine wpAny_bind (whole_of (P.keeps keep₁) fun g => ?_)
  rw [if_neg (by decide)]
  obtain ⟨m, hm, a1, a2, a3⟩ := search_no (code := code) (text := x.cps) (groups := g) (lim := x.cps.size) (must := false) (Nat.le_refl _) hn hf h2
  refine wpAny_bind ?_
  rw [if_neg (by decide)]
  unfold reNextFound
  dsimp only
  rw [show (0 : Int).toNat = 0 from rfl, hm]
  refine run_no a1 a2 a3 ?_
  dsimp only
  have ext : (⟨x.cps.extract 0 x.cps.size⟩ : Str) = x := by rw [Array.extract_size]
  have emp : (⟨x.cps.extract 0 0⟩ : Str) = ⟨#[]⟩ := by rw [Array.extract_zero]
  by_cases hz : 0 < x.cps.size
  · rw [if_pos hz]
    refine wpAny_bind ?_
    unfold reSlice
    rw [if_pos (by rfl)]
    rw [ext]
    refine wpAny_mkStr ?_ hx
    refine wpAny_bind (wpAny_updateSeq hl rfl ?_)
    refine wpAny_bind ?_
    rw [if_pos (by rfl), emp]
    refine wpAny_mkStr ?_
    have hl₂ := Heap.get?_update_self (Obj.mapSeq (·.push (Value.str x s.toks))) hl rfl
    refine wpAny_bind (wpAny_seqItems hl₂ rfl ?_)
    rw [if_neg (by simp)]
    refine wpAny_bind ?_
    refine PySem.SC.join (l := [(x, s.toks)]) ⟨_, hl₂, rfl, _, rfl⟩ rfl ?_ fun t' k => ?_
    · unfold JoinOk Builtin.Str.tooLong
      rw [Bool.not_eq_true', decide_eq_false_iff_not]
      simp [Str.length] at hx ⊢
      omega
    rw [if_neg (by decide)]
    have e1 : Txt.join ⟨#[]⟩ ([(x, s.toks)].map (·.1)) = x := by
      rfl
    rw [e1]
    refine wpAny_pure (q _ k t' ?_)
    intro b o e
    exact (Heap.get?_update_ne _ _ _ _ (Nat.ne_of_lt (Heap.lt_size e))).trans (keep₁ _ _ e)
  · rw [if_neg hz]
    have e0 : x = ⟨#[]⟩ := by
      have : x.cps.size = 0 := by omega
      obtain ⟨c⟩ := x
      exact congrArg _ (Array.size_eq_zero_iff.mp this)
    refine wpAny_bind ?_
    unfold reSlice
    rw [if_pos (by rfl), emp, ← e0]
    refine wpAny_mkStr ?_ hx
    refine wpAny_bind (wpAny_seqItems hl rfl ?_)
    rw [if_pos (by rfl)]
    refine wpAny_bind (wpAny_pure ?_)
    rw [if_neg (by decide)]
    exact wpAny_pure (q _ _ _ keep₁)
end
end

section
open PySem

inductive Fid where
  | shorten | safeRepr | translate | escape | translateIn | joinParts | formatparam | drawn | pattern | meant | texts | bits | members | atoms | home | header | writing
  | hInit | hConv | hItems | hRepr | hStr | hAdd

inductive V where
  | none
  | bool (b : Bool)
  | int (i : Int)
  | str (l : List Nat)
  | tup (l : List V)
  | lst (l : List V)
  | dic (l : List (List Nat × V))
  | dit (l : List (List Nat × V))
  | rng (a b c : Int)
  | ref (k : Nat)
  | bm (k : Nat)
  | hdr
  | hl
  | pat (b : Bool)
  | raw (a : Nat)

/-- a frame's state: the names' values, its own lists, the table's rows -/
structure T where
  ls : List (Option V)
  objs : List (List V)
  hd : Option (List V)

inductive Fl where
  | nxt | brk | cont
  | ret (v : V)

noncomputable def big : Nat := 16777216
noncomputable def lit (s : Str) : List Nat := s.cps.toList

noncomputable def gt {α : Type} : List α → Nat → Option α
  | [], _ => none
  | a :: _, 0 => some a
  | _ :: r, n + 1 => gt r n
noncomputable def pt {α : Type} : List α → Nat → α → List α
  | [], _, _ => []
  | _ :: r, 0, v => v :: r
  | a :: r, n + 1, v => a :: pt r n v
noncomputable def pts : List (Option V) → List Nat → List V → List (Option V)
  | ls, i :: is, v :: vs => pts (pt ls i (some v)) is vs
  | ls, _, _ => ls

-- plain data: no object that may change
mutual
noncomputable def dataV : V → Bool
  | .none | .bool _ | .int _ | .str _ => true
  | .tup l | .lst l => dataVs l
  | _ => false
noncomputable def dataVs : List V → Bool
  | [] => true
  | v :: r => dataV v && dataVs r
end
-- values that mean the same in every frame
mutual
noncomputable def okV : V → Bool
  | .ref _ | .bm _ => false
  | .tup l | .lst l => okVs l
  | .dic _ | .dit _ => false
  | _ => true
noncomputable def okVs : List V → Bool
  | [] => true
  | v :: r => okV v && okVs r
end
noncomputable def frz : Nat → List (List V) → V → Option V
  | 0, _, _ => none
  | n + 1, os, v => if okV v then some v else match v with
    | .ref k => (gt os k).bind fun l => if okVs l then some (.lst l) else (l.mapM (frz n os)).map .lst
    | .tup l => (l.mapM (frz n os)).map .tup
    | _ => none

noncomputable def opt {α : Type} (o : Option α) (K : α → Prop) : Prop := match o with | some a => K a | none => False
noncomputable def br (c : Bool) (A B : Prop) : Prop := match c with | true => A | false => B
noncomputable def asInt (v : V) (K : Int → Prop) : Prop := match v with | .int i => K i | _ => False
noncomputable def asStr (v : V) (K : List Nat → Prop) : Prop := match v with | .str l => K l | _ => False
noncomputable def asChr (v : V) (K : Nat → Prop) : Prop := match v with | .str [c] => K c | _ => False
noncomputable def asBool (v : V) (K : Bool → Prop) : Prop := match v with | .bool b => K b | _ => False
noncomputable def asTup (v : V) (K : List V → Prop) : Prop := match v with | .tup l => K l | _ => False
noncomputable def asRef (v : V) (K : Nat → Prop) : Prop := match v with | .ref k => K k | _ => False
noncomputable def asHdr (v : V) (K : Prop) : Prop := match v with | .hdr => K | _ => False
noncomputable def asDic (v : V) (K : List (List Nat × V) → Prop) : Prop := match v with | .dic d => K d | _ => False
/-- a list's items -/
noncomputable def lstV (σ : T) : V → Option (List V)
  | .lst l => some l
  | .ref k => gt σ.objs k
  | .hl => σ.hd
  | _ => none
noncomputable def asLst (σ : T) (v : V) (K : List V → Prop) : Prop := opt (lstV σ v) K

theorem opt_i {α : Type} {o : Option α} {K : α → Prop} {a : α} (h : o = some a) (k : K a) : opt o K := by rw [h]; exact k
theorem opt_v {α : Type} {o : Option α} {K : α → Prop} (h : opt o K) : ∃ a, o = some a ∧ K a := by
  cases o with
  | none => exact h.elim
  | some a => exact ⟨a, rfl, h⟩
theorem br_i {c : Bool} {A B : Prop} (h1 : c = true → A) (h2 : c = false → B) : br c A B := by cases c; exact h2 rfl; exact h1 rfl
theorem br_d {p : Prop} [Decidable p] {A B : Prop} (h1 : p → A) (h2 : ¬p → B) : br (decide p) A B := br_i (fun h => h1 (of_decide_eq_true h)) fun h => h2 (of_decide_eq_false h)
theorem br_t {c : Bool} {A B : Prop} (h : c = true) (a : A) : br c A B := by rw [h]; exact a
theorem br_f {c : Bool} {A B : Prop} (h : c = false) (b : B) : br c A B := by rw [h]; exact b
theorem asInt_v {v : V} {K : Int → Prop} (h : asInt v K) : ∃ i, v = .int i ∧ K i := by cases v <;> first | exact h.elim | exact ⟨_, rfl, h⟩
theorem asStr_v {v : V} {K : List Nat → Prop} (h : asStr v K) : ∃ i, v = .str i ∧ K i := by cases v <;> first | exact h.elim | exact ⟨_, rfl, h⟩
theorem asChr_v {v : V} {K : Nat → Prop} (h : asChr v K) : ∃ c, v = .str [c] ∧ K c := by
  cases v with
  | str l => match l with
    | [c] => exact ⟨c, rfl, h⟩
    | [] => exact h.elim
    | _ :: _ :: _ => exact h.elim
  | _ => exact h.elim
theorem asBool_v {v : V} {K : Bool → Prop} (h : asBool v K) : ∃ i, v = .bool i ∧ K i := by cases v <;> first | exact h.elim | exact ⟨_, rfl, h⟩
theorem asTup_v {v : V} {K : List V → Prop} (h : asTup v K) : ∃ i, v = .tup i ∧ K i := by cases v <;> first | exact h.elim | exact ⟨_, rfl, h⟩
theorem asRef_v {v : V} {K : Nat → Prop} (h : asRef v K) : ∃ i, v = .ref i ∧ K i := by cases v <;> first | exact h.elim | exact ⟨_, rfl, h⟩
theorem asHdr_v {v : V} {K : Prop} (h : asHdr v K) : v = .hdr ∧ K := by cases v <;> first | exact h.elim | exact ⟨rfl, h⟩
theorem asDic_v {v : V} {K : List (List Nat × V) → Prop} (h : asDic v K) : ∃ i, v = .dic i ∧ K i := by cases v <;> first | exact h.elim | exact ⟨_, rfl, h⟩

theorem gt_pt {α : Type} {x y : α} : ∀ {l : List α} {i j : Nat}, gt (pt l i x) j = some y → (j = i ∧ y = x) ∨ (j ≠ i ∧ gt l j = some y)
  | [], _, _, h => by cases h
  | a :: l, 0, 0, h => .inl ⟨rfl, (Option.some.inj h).symm⟩
  | a :: l, 0, j + 1, h => .inr ⟨Nat.succ_ne_zero j, h⟩
  | a :: l, i + 1, 0, h => .inr ⟨(Nat.succ_ne_zero i).symm, h⟩
  | a :: l, i + 1, j + 1, h => (gt_pt (l := l) h).imp (fun q => ⟨congrArg _ q.1, q.2⟩) fun q => ⟨fun e => q.1 (Nat.succ.inj e), q.2⟩
theorem gt_ap {α : Type} {x y : α} : ∀ {l : List α} {j : Nat}, gt (l ++ [x]) j = some y → gt l j = some y ∨ (j = l.length ∧ y = x)
  | [], 0, h => .inr ⟨rfl, (Option.some.inj h).symm⟩
  | [], j + 1, h => by cases h
  | a :: l, 0, h => .inl h
  | a :: l, j + 1, h => (gt_ap (l := l) h).imp id fun q => ⟨congrArg _ q.1, q.2⟩
theorem pt_len {α : Type} {x : α} : ∀ {l : List α} {i : Nat}, (pt l i x).length = l.length
  | [], _ => rfl
  | a :: l, 0 => rfl
  | a :: l, i + 1 => congrArg Nat.succ (pt_len (l := l))
theorem gt_lt {α : Type} {y : α} : ∀ {l : List α} {j : Nat}, gt l j = some y → j < l.length
  | [], _, h => by cases h
  | a :: l, 0, h => Nat.succ_pos _
  | a :: l, j + 1, h => Nat.succ_lt_succ (gt_lt (l := l) h)
theorem gt_is {α : Type} : ∀ {l : List α} {j : Nat}, gt l j = l[j]?
  | [], _ => rfl
  | a :: l, 0 => rfl
  | a :: l, j + 1 => gt_is (l := l)

noncomputable abbrev PE := T → (V → T → Prop) → Prop
noncomputable abbrev PEs := T → (List V → T → Prop) → Prop
noncomputable abbrev PB := T → (Bool → T → Prop) → Prop
noncomputable abbrev PS := T → (Fl → T → Prop) → Prop
/-- what a call hands on -/
noncomputable def leaveC (Q : V → Option (List V) → Prop) : Fl → T → Prop
  | .ret v, σ => opt (frz 4 σ.objs v) fun r => Q r σ.hd
  | .nxt, σ => Q .none σ.hd
  | .brk, _ => False
  | .cont, _ => False
end

section
open PySem PySem.Calls PyProof.Rows PySem.W

/-- the world's part: the ground heap, addresses of the text's objects -/
structure GD where
  prog : Program
  w : World
  g : Heap
  os : OsState
  K : Frag
  fa : Fid → Addr
  hdrs : Addr
  pTwin : Addr
  pName : Addr
  pVal : Addr
  spec : Addr
  cc : Addr
  ct : Addr
  mg : Str → Option Value
  mb : Str → Option Value

/-- places: what stands for good, the frame's own lists, the table -/
structure Pl where
  fz : Addr → Option Obj
  ρ : List Addr
  tab : Option (Addr × Addr × Addr)
noncomputable def Pl.tabs (π : Pl) : List Addr := match π.tab with
  | some (_, _, l) => [l]
  | none => []
structure Pl.le (a b : Pl) : Prop where
  fz : ∀ x o, a.fz x = some o → b.fz x = some o
  ρ : a.ρ <+: b.ρ
  tab : a.tab = none ∨ b.tab = a.tab
theorem Pl.le.refl (π : Pl) : π.le π := ⟨fun _ _ e => e, List.prefix_rfl, .inr rfl⟩
theorem Pl.le.trans {a b c : Pl} (x : a.le b) (y : b.le c) : a.le c :=
  ⟨fun a o e => y.fz a o (x.fz a o e), x.ρ.trans y.ρ, x.tab.elim .inl fun q => y.tab.elim (fun z => .inl (q ▸ z)) fun z => .inr (z.trans q)⟩
/-- no lists of a frame's own -/
noncomputable def Pl.bare (π : Pl) : Pl := ⟨π.fz, [], π.tab⟩
noncomputable def Pl.with (π : Pl) (ρ : List Addr) : Pl := ⟨π.fz, ρ, π.tab⟩
noncomputable def Pl.add (π : Pl) (a : Addr) (o : Obj) : Pl := ⟨fun x => if x = a then some o else π.fz x, π.ρ, π.tab⟩

noncomputable abbrev lstObj (vs : List Value) (n : Nat) : Obj := { cls := .type "list", dict := none, data := .seq vs.toArray n, slots := #[] }
noncomputable abbrev tupObj (vs : List Value) (n : Nat) : Obj := { cls := .type "tuple", dict := none, data := .seq vs.toArray n, slots := #[] }
noncomputable abbrev rngObj (a b c : Int) (t u v : Tok) : Obj := { cls := .type "range", dict := none, data := .fields #[.int a t, .int b u, .int c v], slots := #[] }
noncomputable abbrev strV (l : List Nat) (t : Tok) : Value := .str ⟨l.toArray⟩ t

mutual
noncomputable def VRel (D : GD) (π : Pl) : V → Value → Prop
  | .none, v => v = .none
  | .bool b, v => v = .bool b
  | .int i, v => ∃ t, v = .int i t
  | .str l, v => ∃ t, v = strV l t
  | .tup l, v => ∃ a vs n, v = .ref a ∧ π.fz a = some (tupObj vs n) ∧ VRels D π l vs
  | .lst l, v => ∃ a vs n, v = .ref a ∧ π.fz a = some (lstObj vs n) ∧ VRels D π l vs
  | .dic d, v => ∃ a o kvs, v = .ref a ∧ (a == sysModules) = false ∧ π.fz a = some o ∧ o.IsDictOf (strKind D.prog D.w) kvs ∧ VRelD D π d kvs
  | .dit d, v => ∃ a da o kvs, v = .ref a ∧ π.fz a = some { cls := .type "dict_items", data := .fields #[.ref da] } ∧ π.fz da = some o ∧ o.IsDictOf (strKind D.prog D.w) kvs ∧ VRelD D π d kvs
  | .rng a b c, v => ∃ r t u x, v = .ref r ∧ π.fz r = some (rngObj a b c t u x) ∧ Builtin.Range.small a b c = true
  | .ref k, v => ∃ a, π.ρ[k]? = some a ∧ v = .ref a
  | .bm k, v => ∃ q a, π.ρ[k]? = some a ∧ v = .ref q ∧ π.fz q = some { cls := .type "builtin_function_or_method", data := .fields #[.builtin "list.append", .ref a] }
  | .hdr, v => ∃ x d l, π.tab = some (x, d, l) ∧ v = .ref x
  | .hl, v => ∃ x d l, π.tab = some (x, d, l) ∧ v = .ref l
  | .pat b, v => v = .ref (if b then D.pName else D.pVal)
  | .raw a, v => v = .ref a
noncomputable def VRels (D : GD) (π : Pl) : List V → List Value → Prop
  | [], vs => vs = []
  | a :: r, vs => ∃ v q, vs = v :: q ∧ VRel D π a v ∧ VRels D π r q
noncomputable def VRelD (D : GD) (π : Pl) : List (List Nat × V) → List (Str × Value) → Prop
  | [], kvs => kvs = []
  | (k, a) :: r, kvs => ∃ v q, kvs = (⟨k.toArray⟩, v) :: q ∧ VRel D π a v ∧ VRelD D π r q
end

section
variable {D : GD} {π π' : Pl} {h h' : Heap}
theorem pre_get {ρ ρ' : List Addr} {k : Nat} {a : Addr} (hp : ρ <+: ρ') (e : ρ[k]? = some a) : ρ'[k]? = some a := by
  obtain ⟨r, rfl⟩ := hp
  rw [List.getElem?_append_left (List.getElem?_eq_some_iff.mp e).1]; exact e

-- what goes from one frame's places to others': all of it, or what is closed
mutual
theorem VRel.move (hf : ∀ x o, π.fz x = some o → π'.fz x = some o) (ht : π.tab = none ∨ π'.tab = π.tab) : ∀ (V : V) (v : Value), (π.ρ <+: π'.ρ ∨ okV V = true) → VRel D π V v → VRel D π' V v
  | .none, v, _, x | .bool _, v, _, x | .int _, v, _, x | .str _, v, _, x | .pat _, v, _, x | .raw _, v, _, x => x
  | .tup l, v, q, x => by
    obtain ⟨a, vs, n, e, ho, r⟩ := x
    exact ⟨a, vs, n, e, hf _ _ ho, VRels.move hf ht l vs q r⟩
  | .lst l, v, q, x => by
    obtain ⟨a, vs, n, e, ho, r⟩ := x
    exact ⟨a, vs, n, e, hf _ _ ho, VRels.move hf ht l vs q r⟩
  | .dic d, v, q, x => by
    obtain ⟨a, o, kvs, e, hs, ho, hd, r⟩ := x
    exact ⟨a, o, kvs, e, hs, hf _ _ ho, hd, VRelD.move hf ht d kvs (q.resolve_right fun z => nomatch z) r⟩
  | .dit d, v, q, x => by
    obtain ⟨a, da, o, kvs, e, hv, ho, hd, r⟩ := x
    exact ⟨a, da, o, kvs, e, hf _ _ hv, hf _ _ ho, hd, VRelD.move hf ht d kvs (q.resolve_right fun z => nomatch z) r⟩
  | .rng a b c, v, q, x => by
    obtain ⟨r, t, u, y, e, ho, hz⟩ := x
    exact ⟨r, t, u, y, e, hf _ _ ho, hz⟩
  | .ref k, v, q, x => by
    obtain ⟨a, e, hv⟩ := x
    exact ⟨a, pre_get (q.resolve_right fun z => nomatch z) e, hv⟩
  | .bm k, v, q, x => by
    obtain ⟨b, a, e, hv, ho⟩ := x
    exact ⟨b, a, pre_get (q.resolve_right fun z => nomatch z) e, hv, hf _ _ ho⟩
  | .hdr, v, _, x => by
    obtain ⟨a, b, c, e, hv⟩ := x
    exact ⟨a, b, c, ht.elim (fun z => nomatch z.symm.trans e) fun z => z.trans e, hv⟩
  | .hl, v, _, x => by
    obtain ⟨a, b, c, e, hv⟩ := x
    exact ⟨a, b, c, ht.elim (fun z => nomatch z.symm.trans e) fun z => z.trans e, hv⟩
theorem VRels.move (hf : ∀ x o, π.fz x = some o → π'.fz x = some o) (ht : π.tab = none ∨ π'.tab = π.tab) : ∀ (l : List V) (vs : List Value), (π.ρ <+: π'.ρ ∨ okVs l = true) → VRels D π l vs → VRels D π' l vs
  | [], vs, _, x => x
  | a :: r, vs, k, ⟨v, q, e, ha, hr⟩ => ⟨v, q, e, VRel.move hf ht a v (k.imp id fun z => (Bool.and_eq_true_iff.mp z).1) ha, VRels.move hf ht r q (k.imp id fun z => (Bool.and_eq_true_iff.mp z).2) hr⟩
theorem VRelD.move (hf : ∀ x o, π.fz x = some o → π'.fz x = some o) (ht : π.tab = none ∨ π'.tab = π.tab) : ∀ (l : List (List Nat × V)) (vs : List (Str × Value)), π.ρ <+: π'.ρ → VRelD D π l vs → VRelD D π' l vs
  | [], vs, _, x => x
  | (k, a) :: r, vs, p, ⟨v, q, e, ha, hr⟩ => ⟨v, q, e, VRel.move hf ht a v (.inl p) ha, VRelD.move hf ht r q p hr⟩
end
theorem VRel.le {V : V} {v : Value} (x : VRel D π V v) (e : π.le π') : VRel D π' V v := VRel.move e.fz e.tab V v (.inl e.ρ) x
theorem VRels.le {V : List V} {v : List Value} (x : VRels D π V v) (e : π.le π') : VRels D π' V v := VRels.move e.fz e.tab V v (.inl e.ρ) x
theorem VRelD.le {V : List (List Nat × V)} {v : List (Str × Value)} (x : VRelD D π V v) (e : π.le π') : VRelD D π' V v := VRelD.move e.fz e.tab V v e.ρ x

theorem VRels.nil : VRels D π [] [] := rfl
theorem VRels.cons {a : V} {v : Value} {l : List V} {vs : List Value} (x : VRel D π a v) (y : VRels D π l vs) : VRels D π (a :: l) (v :: vs) := ⟨v, vs, rfl, x, y⟩
theorem VRels.one {a : V} {v : Value} (x : VRel D π a v) : VRels D π [a] [v] := .cons x .nil
theorem VRels.length : ∀ {l : List V} {vs : List Value}, VRels D π l vs → vs.length = l.length
  | [], _, x => congrArg List.length (x : _ = [])
  | _ :: _, _, ⟨_, _, e, _, r⟩ => (congrArg List.length e).trans (congrArg Nat.succ (VRels.length r))
theorem VRels.get : ∀ {l : List V} {vs : List Value} {i : Nat} {a : V}, VRels D π l vs → l[i]? = some a → ∃ v, vs[i]? = some v ∧ VRel D π a v
  | [], _, _, _, _, e => nomatch e
  | _ :: _, _, 0, _, ⟨v, _, q, hv, _⟩, e => ⟨v, q ▸ rfl, (Option.some.inj e) ▸ hv⟩
  | _ :: _, _, _ + 1, _, ⟨_, _, q, _, hr⟩, e => let ⟨u, hu, z⟩ := VRels.get hr e; ⟨u, q ▸ hu, z⟩
theorem VRels.append : ∀ {l r : List V} {vs us : List Value}, VRels D π l vs → VRels D π r us → VRels D π (l ++ r) (vs ++ us)
  | [], _, _, _, x, y => (x : _ = []) ▸ y
  | _ :: _, _, _, _, ⟨v, q, e, hv, hr⟩, y => ⟨v, _, e ▸ rfl, hv, VRels.append hr y⟩
theorem VRels.drop : ∀ {l : List V} {vs : List Value} (n : Nat), VRels D π l vs → VRels D π (l.drop n) (vs.drop n)
  | _, _, 0, x => x
  | [], _, _ + 1, x => (x : _ = []) ▸ rfl
  | _ :: _, _, n + 1, ⟨_, _, e, _, hr⟩ => e ▸ VRels.drop n hr
theorem VRels.take : ∀ {l : List V} {vs : List Value} (n : Nat), VRels D π l vs → VRels D π (l.take n) (vs.take n)
  | _, _, 0, x => rfl
  | [], _, _ + 1, x => (x : _ = []) ▸ rfl
  | _ :: _, _, n + 1, ⟨_, _, e, hv, hr⟩ => e ▸ .cons hv (VRels.take n hr)
theorem VRels.set : ∀ {l : List V} {vs : List Value} (i : Nat) {a : V} {v : Value}, VRels D π l vs → VRel D π a v → VRels D π (l.set i a) (vs.set i v)
  | [], _, _, _, _, x, _ => (x : _ = []) ▸ rfl
  | _ :: _, _, 0, _, _, ⟨_, _, e, _, hr⟩, y => e ▸ .cons y hr
  | _ :: _, _, n + 1, _, _, ⟨_, _, e, hv, hr⟩, y => e ▸ .cons hv (VRels.set n hr y)
theorem VRels.eraseIdx : ∀ {l : List V} {vs : List Value} (i : Nat), VRels D π l vs → VRels D π (l.eraseIdx i) (vs.eraseIdx i)
  | [], _, _, x => (x : _ = []) ▸ rfl
  | _ :: _, _, 0, ⟨_, _, e, _, hr⟩ => e ▸ hr
  | _ :: _, _, n + 1, ⟨_, _, e, hv, hr⟩ => e ▸ .cons hv (VRels.eraseIdx n hr)
theorem VRels.isEmpty {l : List V} {vs : List Value} (x : VRels D π l vs) : vs.toArray.isEmpty = l.isEmpty := by
  cases l with
  | nil => cases (x : vs = []); rfl
  | cons => obtain ⟨_, _, rfl, _⟩ := x; rfl
theorem VRels.two {a b : V} {vs : List Value} (x : VRels D π [a, b] vs) : ∃ v w, vs = [v, w] ∧ VRel D π a v ∧ VRel D π b w := by
  obtain ⟨v, _, rfl, hv, w, _, rfl, hw, rfl⟩ := x
  exact ⟨v, w, rfl, hv, hw⟩
theorem VRels.three {a b c : V} {vs : List Value} (x : VRels D π [a, b, c] vs) : ∃ v w u, vs = [v, w, u] ∧ VRel D π a v ∧ VRel D π b w ∧ VRel D π c u := by
  obtain ⟨v, _, rfl, hv, w, _, rfl, hw, u, _, rfl, hu, rfl⟩ := x
  exact ⟨v, w, u, rfl, hv, hw, hu⟩

theorem dataVs_app : ∀ {a b : List V}, dataVs a = true → dataVs b = true → dataVs (a ++ b) = true
  | [], _, _, h => h
  | _ :: _, _, h, g => let z := Bool.and_eq_true_iff.mp h; Bool.and_eq_true_iff.mpr ⟨z.1, dataVs_app z.2 g⟩
mutual
theorem ok_of_data : ∀ (V : V), dataV V = true → okV V = true
  | .none, _ | .bool _, _ | .int _, _ | .str _, _ => rfl
  | .tup l, h | .lst l, h => oks_of_data l h
  | .hdr, _ | .hl, _ | .pat _, _ | .raw _, _ | .rng _ _ _, _ => rfl
theorem oks_of_data : ∀ (l : List V), dataVs l = true → okVs l = true
  | [], _ => rfl
  | a :: r, h => let z := Bool.and_eq_true_iff.mp h; Bool.and_eq_true_iff.mpr ⟨ok_of_data a z.1, oks_of_data r z.2⟩
end

/-- the table, its rows -/
noncomputable def TabOk (D : GD) (π : Pl) (hd : Option (List V)) (h : Heap) : Prop := match hd with
  | none => π.tab = none
  | some l => ∃ x d η vs n hs tk k, π.tab = some (x, d, η) ∧ h.get? η = some (lstObj vs n) ∧ VRels D π l vs ∧ dataVs l = true ∧ π.fz x = some (instObj D.hdrs d) ∧ π.fz d = some (dictOf [⟨hs, .str "_headers" tk, .ref η⟩] k)
noncomputable def CtOk (D : GD) (h : Heap) : Prop := ∃ ps, h.get? D.ct = some (PySem.W.tabObj ps) ∧ TriplesOk ps.toList ∧ ∀ pos v, codeAmong pos ps.toList = some v → ∃ c', v = .ref c'

/-- the world outside of a frame: kp is what others hold -/
structure CRel (D : GD) (kp : Addr → Option Obj) (π : Pl) (hd : Option (List V)) (s : Shared) : Prop where
  hz : ∀ a o, π.fz a = some o → s.heap.get? a = some o
  hk : ∀ a o, kp a = some o → s.heap.get? a = some o
  dj : ∀ a o, kp a = some o → π.fz a = none
  gd : ∀ a o, D.g.get? a = some o → π.fz a = some o
  tab : TabOk D π hd s.heap
  ct : CtOk D s.heap
  sh : ∀ a, a = D.ct ∨ a ∈ π.tabs → π.fz a = none ∧ kp a = none
  gens : AllBare s.gens
  os : s.os = D.os
  tk : 0 < s.toks
variable {kp kp' : Addr → Option Obj} {hd hd' : Option (List V)} {s s' : Shared}
theorem CRel.g (R : CRel D kp π hd s) : ∀ b o, D.g.get? b = some o → s.heap.get? b = some o := fun b o e => R.hz b o (R.gd b o e)
theorem size_none (h : Heap) : h.get? h.objs.size = none := by
  cases q : h.get? h.objs.size with
  | none => rfl
  | some o => exact absurd (Heap.lt_size q) (Nat.lt_irrefl _)
theorem none_of {f : Addr → Option Obj} {a : Addr} (k : ∀ x o, f x = some o → h.get? x = some o) (e : h.get? a = none) : f a = none := by
  cases q : f a with
  | none => rfl
  | some o => rw [k a o q] at e; cases e
theorem CRel.tabList (R : CRel D kp π hd s) {c : Addr} (hc : c ∈ π.tabs) : ∃ vs n, s.heap.get? c = some (lstObj vs n) := by
  have q := R.tab
  unfold Pl.tabs at hc
  cases hd with
  | none => rw [show π.tab = none from q] at hc; cases hc
  | some l =>
    obtain ⟨x, d, η, vs, n, _, _, _, e1, e2, _⟩ := q
    rw [e1] at hc
    exact ⟨vs, n, List.mem_singleton.mp hc ▸ e2⟩
theorem CRel.shIn (R : CRel D kp π hd s) {a : Addr} (q : a = D.ct ∨ a ∈ π.tabs) : ∃ o, s.heap.get? a = some o := by
  rcases q with rfl | q
  · obtain ⟨ps, e, _⟩ := R.ct; exact ⟨_, e⟩
  · obtain ⟨vs, n, e⟩ := R.tabList q; exact ⟨_, e⟩
theorem TabOk.grow (x : TabOk D π hd h) (k : ∀ a o, a ∈ π.tabs → h.get? a = some o → h'.get? a = some o) (e : π.le π') (ht : π'.tab = π.tab) : TabOk D π' hd h' := by
  cases hd with
  | none => exact ht.trans x
  | some l =>
    obtain ⟨x, d, η, vs, n, hs, tk, k', e1, e2, e3, e4, e5, e6⟩ := x
    exact ⟨x, d, η, vs, n, hs, tk, k', ht.trans e1, k _ _ (by unfold Pl.tabs; rw [e1]; exact .head _) e2, e3.le e, e4, e.fz _ _ e5, e.fz _ _ e6⟩
/-- the heap grew: nothing known was changed -/
theorem CRel.grow (R : CRel D kp π hd s) (hk : ∀ a o, s.heap.get? a = some o → s'.heap.get? a = some o) (hg : AllBare s'.gens) (ho : s'.os = s.os) (ht : 0 < s'.toks) : CRel D kp π hd s' :=
  ⟨fun a o e => hk a o (R.hz a o e), fun a o e => hk a o (R.hk a o e), R.dj, R.gd, R.tab.grow (fun a o _ e => hk a o e) (.refl π) rfl, let ⟨ps, e, r⟩ := R.ct; ⟨ps, hk _ _ e, r⟩, R.sh, hg, ho.trans R.os, ht⟩
theorem Pl.add_le (π : Pl) {a : Addr} {o : Obj} (h : π.fz a = none) : π.le (π.add a o) :=
  ⟨fun x o' e => by show (if x = a then _ else _) = _; rw [if_neg (fun z => by rw [z, h] at e; cases e)]; exact e, List.prefix_rfl, .inr rfl⟩
theorem Pl.add_at {a : Addr} {o : Obj} : (π.add a o).fz a = some o := if_pos rfl
theorem Pl.add_ne {a x : Addr} {o : Obj} (h : x ≠ a) : (π.add a o).fz x = π.fz x := if_neg h
/-- an object that nobody holds stands for good -/
theorem CRel.freeze (R : CRel D kp π hd s) {a : Addr} {o : Obj} (ho : s.heap.get? a = some o) (h1 : π.fz a = none) (h2 : kp a = none) (h3 : a ≠ D.ct) (h4 : a ∉ π.tabs) : CRel D kp (π.add a o) hd s := by
  refine ⟨fun x o' e => ?_, R.hk, fun x o' e => ?_, fun x o' e => (π.add_le h1).fz x o' (R.gd x o' e), R.tab.grow (fun _ _ _ e => e) (π.add_le h1) rfl, R.ct, fun x q => ?_, R.gens, R.os, R.tk⟩
  · by_cases z : x = a
    · subst z
      rw [Pl.add_at] at e
      exact e ▸ ho
    · rw [Pl.add_ne z] at e
      exact R.hz x o' e
  · rw [Pl.add_ne fun z => by rw [z, h2] at e; cases e]
    exact R.dj x o' e
  · have : x ≠ a := fun z => q.elim (fun w => h3 (z.symm.trans w)) fun w => h4 (z ▸ w)
    rw [Pl.add_ne this]
    exact R.sh x q
end
end

section
open PySem PySem.Calls PyProof.Rows PySem.W

/-- the functions' names -/
noncomputable def fnm : Fid → Str
  | .shorten => "_shorten" | .safeRepr => "safe_repr" | .translate => "translate" | .escape => "escape" | .translateIn => "_translate" | .joinParts => "_join_translated_parts" | .formatparam => "_formatparam"
  | .drawn => "_law_drawn" | .pattern => "_law_pattern" | .meant => "_law_meant" | .texts => "_law_texts" | .bits => "_law_bits" | .members => "_law_members" | .atoms => "_law_atoms" | .home => "_law_home" | .header => "_law_header" | .writing => "_law_writing"
  | .hInit => "__init__" | .hConv => "_convert_string_type" | .hItems => "items" | .hRepr => "__repr__" | .hStr => "__str__" | .hAdd => "add_header"
noncomputable def isG : Fid → Bool
  | .hInit | .hConv | .hItems | .hRepr | .hStr | .hAdd => false
  | _ => true
noncomputable def bnames : List (Str × Value) := [("len", .builtin "len"), ("range", .type "range"), ("str", .type "str"), ("repr", .builtin "repr"), ("type", .type "type"), ("isinstance", .builtin "isinstance"), ("object", .type "object"), ("list", .type "list")]
/-- all that is asked of the ground heap for a walk -/
structure DOk (D : GD) : Prop where
  kin : D.K.In D.g
  lim : D.g.NoLimit
  booked : NoneBooked D.g
  sys : ∃ o, D.g.get? sysModules = some o
  globs : D.g.Ns mainGlobals D.mg
  bi : D.g.Ns builtinsNs D.mb
  code : CodeHd D.g D.cc D.ct
  bmain : ∃ bm ob, D.mg "__builtins__" = some (.ref bm) ∧ bm ≠ builtinsNs ∧ D.g.get? bm = some ob ∧ ob.cls = .type "module" ∧ ob.dict = some builtinsNs ∧ ob.data = .plain
  ctg : D.g.get? D.ct = none
  fns : ∀ f, ∃ o fd, D.g.get? (D.fa f) = some o ∧ o.data = .func fd
  gl : ∀ f, isG f = true → D.mg (fnm f) = some (.ref (D.fa f))
  bl : ∀ x v, bnames.lookup x = some v → D.mg x = none ∧ D.mb x = some v

structure AOk (A : Around) (n : Nat) : Prop where
  hh : A.handled = none
  dep : A.depth + n ≤ 900
  un : A.units + 20 * n ≤ 9000
  gd : A.guards = some []
  fr : ∃ l, A.frames = some l

noncomputable def isTr (sc : Scope) : Bool := sc.names.lookup ("QUESTION_MARK" : Str) == some .local
/-- what a walk of a body leans on: the world, calls left, the block, its names -/
structure Kx where
  D : GD
  n : Nat
  sc : Scope
  ns : List Str
  top : Bool
structure FrOk (κ : Kx) (env : Env) (A : Around) (mine : List Addr) : Prop where
  dok : DOk κ.D
  ao : AOk A κ.n
  kind : env.scope.kind = .function
  globals : env.globals = mainGlobals
  builtins : env.builtins = builtinsNs
  glob : ∀ x, κ.sc.names.lookup x = some .globalImplicit → env.kindOf x = some .globalImplicit
  loc : ∀ x, κ.sc.names.lookup x = some .local → env.kindOf x = some .local
  cell : ∀ x, κ.sc.names.lookup x = some .cell → env.kindOf x = some .cell ∧ ∃ c, env.cells.lookup x = some c ∧ c ∈ mine
  free : ∀ x, κ.sc.names.lookup x = some .free → (env.kindOf x = some .cell ∨ env.kindOf x = some .free) ∧ (x == "__classdict__") = false
  ns : ∀ x ∈ κ.ns, κ.sc.names.lookup x = some .local ∨ κ.sc.names.lookup x = some .cell ∨ κ.sc.names.lookup x = some .free
  ndb : ∀ x ∈ κ.ns, x ≠ "__debug__"
  top : κ.top = true → ∀ x ∈ κ.ns, κ.sc.names.lookup x ≠ some .free
  nd : κ.ns.Nodup
  apart : mine = [] ∨ env.cells.Pairwise fun a b => a.2 ≠ b.2
  code : isTr κ.sc = true → env.code = .ref κ.D.cc
/-- a frame at work -/
structure Fr (κ : Kx) where
  env : Env
  A : Around
  kp : Addr → Option Obj
  mine : List Addr
  ok : FrOk κ env A mine

noncomputable def noE : Value → Shared → Prop := fun _ _ => False
noncomputable abbrev Mo (κ : Kx) : Model := model κ.D.prog κ.D.w
noncomputable abbrev Ok {κ : Kx} (f : Fr κ) {α : Type} (t : Sem α) (R : α → Shared → Prop) (s : Shared) : Prop := wpAny (Mo κ) f.A t R noE s

noncomputable def Vars {κ : Kx} (f : Fr κ) (π : Pl) (ls : List (Option V)) (h : Heap) (mL : Str → Option Value) : Prop :=
  ∀ i x V, κ.ns[i]? = some x → gt ls i = some (some V) → ∃ v, VRel κ.D π V v ∧ ((κ.sc.names.lookup x = some .local ∧ mL x = some v) ∨ (κ.sc.names.lookup x ≠ some .local ∧ ∃ c, f.env.cells.lookup x = some c ∧ h.IsCell c (some v)))
noncomputable def ownF {κ : Kx} (f : Fr κ) (π : Pl) : List Addr := f.env.locals :: (f.mine ++ π.ρ)

structure Rel {κ : Kx} (f : Fr κ) (π : Pl) (σ : T) (s : Shared) : Prop where
  c : CRel κ.D f.kp π σ.hd s
  ns : ∃ mL, s.heap.Ns f.env.locals mL ∧ Vars f π σ.ls s.heap mL
  cl : ∀ c ∈ f.mine, ∃ v, s.heap.IsCell c v
  len : π.ρ.length = σ.objs.length
  ob : ∀ (k : Nat) l, gt σ.objs k = some l → ∃ a vs n, π.ρ[k]? = some a ∧ s.heap.get? a = some (lstObj vs n) ∧ VRels κ.D π l vs
  nd : π.ρ.Nodup
  ow : ∀ a ∈ ownF f π, π.fz a = none ∧ f.kp a = none ∧ a ≠ κ.D.ct ∧ a ∉ π.tabs

inductive Post {κ : Kx} (f : Fr κ) (π : Pl) (Q : V → T → Prop) (v : Value) (s : Shared) : Prop
  | mk (V : V) (σ : T) (π' : Pl) (q : Q V σ) (R : Rel f π' σ s) (x : VRel κ.D π' V v) (e : π.le π')
inductive PostL {κ : Kx} (f : Fr κ) (π : Pl) (Q : List V → T → Prop) (v : List Value) (s : Shared) : Prop
  | mk (V : List V) (σ : T) (π' : Pl) (q : Q V σ) (R : Rel f π' σ s) (x : VRels κ.D π' V v) (e : π.le π')
inductive PostB {κ : Kx} (f : Fr κ) (π : Pl) (Q : Bool → T → Prop) (b : Bool) (s : Shared) : Prop
  | mk (σ : T) (π' : Pl) (q : Q b σ) (R : Rel f π' σ s) (e : π.le π')
inductive PostU {κ : Kx} (f : Fr κ) (π : Pl) (Q : T → Prop) {α : Type} (u : α) (s : Shared) : Prop
  | mk (σ : T) (π' : Pl) (q : Q σ) (R : Rel f π' σ s) (e : π.le π')
noncomputable def FlRel (D : GD) (π : Pl) : Fl → Flow → Prop
  | .nxt, f => f = .next
  | .brk, f => f = .brk
  | .cont, f => f = .cont
  | .ret V, f => ∃ v, f = .ret v ∧ VRel D π V v
inductive PostF {κ : Kx} (f : Fr κ) (π : Pl) (Q : Fl → T → Prop) (b : Flow) (s : Shared) : Prop
  | mk (fl : Fl) (σ : T) (π' : Pl) (q : Q fl σ) (R : Rel f π' σ s) (x : FlRel κ.D π' fl b) (e : π.le π')

/-- what an expression, a test, a block means -/
structure SE (κ : Kx) (e : Expr) (P : PE) : Prop where
  run : ∀ (f : Fr κ) π σ s Q, Rel f π σ s → P σ Q → Ok f (eval e f.env) (Post f π Q) s
structure SB (κ : Kx) (e : Expr) (P : PB) : Prop where
  run : ∀ (f : Fr κ) π σ s Q, Rel f π σ s → P σ Q → Ok f (PySem.isTrue e f.env (eval e f.env)) (PostB f π Q) s
structure SS (κ : Kx) (e : Stmt) (P : PS) : Prop where
  run : ∀ (f : Fr κ) π σ s Q, Rel f π σ s → P σ Q → Ok f (exec e f.env) (PostF f π Q) s
structure SSs (κ : Kx) (e : List Stmt) (P : PS) : Prop where
  run : ∀ (f : Fr κ) π σ s Q, Rel f π σ s → P σ Q → Ok f (execs e f.env) (PostF f π Q) s
/-- a step that gives a value, and changes nothing that counts -/
inductive Calm {κ : Kx} (f : Fr κ) (π : Pl) (σ : T) (V : V) (v : Value) (s : Shared) : Prop
  | mk (π' : Pl) (R : Rel f π' σ s) (x : VRel κ.D π' V v) (e : π.le π')

section
variable {κ : Kx} {f : Fr κ} {π π' π₀ : Pl} {σ σ' : T} {s s' : Shared} {α : Type}
theorem Post.from {Q : V → T → Prop} {v : Value} (e : π₀.le π) : Post f π Q v s → Post f π₀ Q v s
  | ⟨V, σ, π', q, R, x, y⟩ => ⟨V, σ, π', q, R, x, e.trans y⟩
theorem PostL.from {Q : List V → T → Prop} {v : List Value} (e : π₀.le π) : PostL f π Q v s → PostL f π₀ Q v s
  | ⟨V, σ, π', q, R, x, y⟩ => ⟨V, σ, π', q, R, x, e.trans y⟩
theorem PostB.from {Q : Bool → T → Prop} {v : Bool} (e : π₀.le π) : PostB f π Q v s → PostB f π₀ Q v s
  | ⟨σ, π', q, R, y⟩ => ⟨σ, π', q, R, e.trans y⟩
theorem PostU.from {Q : T → Prop} {v : α} (e : π₀.le π) : PostU f π Q v s → PostU f π₀ Q v s
  | ⟨σ, π', q, R, y⟩ => ⟨σ, π', q, R, e.trans y⟩
theorem PostF.from {Q : Fl → T → Prop} {v : Flow} (e : π₀.le π) : PostF f π Q v s → PostF f π₀ Q v s
  | ⟨V, σ, π', q, R, x, y⟩ => ⟨V, σ, π', q, R, x, e.trans y⟩
theorem Post.here {Q : V → T → Prop} {V : V} {v : Value} (R : Rel f π σ s) (x : VRel κ.D π V v) (q : Q V σ) : Post f π Q v s := ⟨V, σ, π, q, R, x, .refl π⟩
theorem calm {A : Around} {M : Model} {t : Sem α} {R R' : α → Shared → Prop} {E : Value → Shared → Prop} (x : wpAny M A t R noE s) (h : ∀ a s, R a s → R' a s) : wpAny M A t R' E s := wpAny_mono x h fun _ _ e => e.elim
/-- one step, then the next -/
theorem thenV {t : Sem Value} {Q : V → T → Prop} {R : Value → Shared → Prop} (x : Ok f t (Post f π Q) s) (k : ∀ V v σ' π' s', Q V σ' → Rel f π' σ' s' → VRel κ.D π' V v → π.le π' → R v s') : Ok f t R s :=
  calm x fun v s' z => match z with | ⟨V, σ', π', q, r, xx, e⟩ => k V v σ' π' s' q r xx e
theorem thenL {t : Sem (List Value)} {Q : List V → T → Prop} {R : List Value → Shared → Prop} (x : Ok f t (PostL f π Q) s) (k : ∀ V v σ' π' s', Q V σ' → Rel f π' σ' s' → VRels κ.D π' V v → π.le π' → R v s') : Ok f t R s :=
  calm x fun v s' z => match z with | ⟨V, σ', π', q, r, xx, e⟩ => k V v σ' π' s' q r xx e
theorem thenB {t : Sem Bool} {Q : Bool → T → Prop} {R : Bool → Shared → Prop} (x : Ok f t (PostB f π Q) s) (k : ∀ b σ' π' s', Q b σ' → Rel f π' σ' s' → π.le π' → R b s') : Ok f t R s :=
  calm x fun v s' z => match z with | ⟨σ', π', q, r, e⟩ => k v σ' π' s' q r e
theorem thenU {t : Sem α} {Q : T → Prop} {R : α → Shared → Prop} (x : Ok f t (PostU f π Q) s) (k : ∀ u σ' π' s', Q σ' → Rel f π' σ' s' → π.le π' → R u s') : Ok f t R s :=
  calm x fun v s' z => match z with | ⟨σ', π', q, r, e⟩ => k v σ' π' s' q r e
theorem thenF {t : Sem Flow} {Q : Fl → T → Prop} {R : Flow → Shared → Prop} (x : Ok f t (PostF f π Q) s) (k : ∀ V v σ' π' s', Q V σ' → Rel f π' σ' s' → FlRel κ.D π' V v → π.le π' → R v s') : Ok f t R s :=
  calm x fun v s' z => match z with | ⟨V, σ', π', q, r, xx, e⟩ => k V v σ' π' s' q r xx e

theorem no_one {α : Type} {x : Option α} {P : Prop} (h : x = none) (e : ∃ o, x = some o) : P := e.elim fun o e => nomatch h.symm.trans e
theorem ow_loc : f.env.locals ∈ ownF f π := .head _
theorem ow_cell {c : Addr} (h : c ∈ f.mine) : c ∈ ownF f π := .tail _ (List.mem_append_left _ h)
theorem ow_obj {c : Addr} (h : c ∈ π.ρ) : c ∈ ownF f π := .tail _ (List.mem_append_right _ h)
theorem ow_cases {P : Addr → Prop} (h1 : P f.env.locals) (h2 : ∀ c ∈ f.mine, P c) (h3 : ∀ c ∈ π.ρ, P c) : ∀ a ∈ ownF f π, P a := fun a h =>
  (List.mem_cons.mp h).elim (fun e => e ▸ h1) fun h => (List.mem_append.mp h).elim (h2 a) (h3 a)
theorem Rel.objAt (R : Rel f π σ s) {a : Addr} (h : a ∈ π.ρ) : ∃ vs n, s.heap.get? a = some (lstObj vs n) := by
  obtain ⟨k, hk, rfl⟩ := List.getElem_of_mem h
  have hk' : k < σ.objs.length := R.len ▸ hk
  obtain ⟨a, vs, n, e1, e2, _⟩ := R.ob k _ ((gt_is).trans (List.getElem?_eq_getElem hk'))
  rw [List.getElem?_eq_getElem hk] at e1
  exact ⟨vs, n, Option.some.inj e1 ▸ e2⟩
theorem Rel.ownIn (R : Rel f π σ s) : ∀ a ∈ ownF f π, ∃ o, s.heap.get? a = some o :=
  ow_cases (let ⟨_, ⟨o, _, _, e, _⟩, _⟩ := R.ns; ⟨o, e⟩) (fun c hc => let ⟨_, o, e, _⟩ := R.cl c hc; ⟨o, e⟩) fun c hc => let ⟨_, _, e⟩ := R.objAt hc; ⟨_, e⟩
theorem cell_mem {x : Str} {c : Addr} {l : List (Str × Addr)} (h : l.lookup x = some c) : (x, c) ∈ l := mem_of_lookup h

theorem Vars.le {ls : List (Option V)} {h h' : Heap} {mL : Str → Option Value} (x : Vars f π ls h mL) (e : π.le π') (hc : ∀ c v, h.IsCell c v → h'.IsCell c v) : Vars f π' ls h' mL := fun i y V a b =>
  let ⟨v, r, q⟩ := x i y V a b; ⟨v, r.le e, q.imp id fun ⟨z, c, u, w⟩ => ⟨z, c, u, hc _ _ w⟩⟩
/-- the heap grew -/
theorem Rel.grow (R : Rel f π σ s) (hk : ∀ a o, s.heap.get? a = some o → s'.heap.get? a = some o) (hg : AllBare s'.gens) (ho : s'.os = s.os) (ht : 0 < s'.toks) : Rel f π σ s' :=
  ⟨R.c.grow hk hg ho ht, let ⟨mL, n, v⟩ := R.ns; ⟨mL, n.keeps hk, v.le (.refl π) fun _ _ z => z.keeps hk⟩, fun c hc => let ⟨v, z⟩ := R.cl c hc; ⟨v, z.keeps hk⟩, R.len,
    fun k l e => let ⟨a, vs, n, e1, e2, e3⟩ := R.ob k l e; ⟨a, vs, n, e1, hk _ _ e2, e3⟩, R.nd, R.ow⟩
theorem Rel.toks (R : Rel f π σ s) {tk : Nat} (ht : 0 < tk) : Rel f π σ { s with toks := tk } := R.grow (fun _ _ e => e) R.c.gens rfl ht
theorem Rel.heap (R : Rel f π σ s) {h' : Heap} (hk : ∀ a o, s.heap.get? a = some o → h'.get? a = some o) {tk : Nat} (ht : 0 < tk) : Rel f π σ { s with heap := h', toks := tk } := R.grow hk R.c.gens rfl ht
/-- an object that nobody holds stands for good -/
theorem Rel.freeze (R : Rel f π σ s) {a : Addr} {o : Obj} (ho : s.heap.get? a = some o) (h1 : π.fz a = none) (h2 : f.kp a = none) (h3 : a ≠ κ.D.ct) (h4 : a ∉ π.tabs) (h5 : a ∉ ownF f π) : Rel f (π.add a o) σ s ∧ π.le (π.add a o) := by
  have e := π.add_le (o := o) h1
  refine ⟨⟨R.c.freeze ho h1 h2 h3 h4, let ⟨mL, n, v⟩ := R.ns; ⟨mL, n, v.le e fun _ _ z => z⟩, R.cl, R.len, fun k l q => let ⟨a, vs, n, e1, e2, e3⟩ := R.ob k l q; ⟨a, vs, n, e1, e2, e3.le e⟩, R.nd, fun x q => ?_⟩, e⟩
  have : x ≠ a := fun z => h5 (z ▸ q)
  rw [Pl.add_ne this]
  exact R.ow x q
/-- what was not there is nobody's -/
theorem Rel.new (R : Rel f π σ s) {a : Addr} (h : s.heap.get? a = none) : π.fz a = none ∧ f.kp a = none ∧ a ≠ κ.D.ct ∧ a ∉ π.tabs ∧ a ∉ ownF f π :=
  ⟨none_of R.c.hz h, none_of R.c.hk h, fun z => no_one h (R.c.shIn (.inl z)), fun z => no_one h (R.c.shIn (.inr z)), fun z => no_one h (R.ownIn a z)⟩
/-- a new object that stands for good -/
theorem Rel.push (R : Rel f π σ s) (o : Obj) (hf : o.isFreed = false := by rfl) : Rel f (π.add s.heap.objs.size o) σ { s with heap := s.heap.push o } ∧ π.le (π.add s.heap.objs.size o) :=
  let ⟨a, b, c, d, e⟩ := R.new (size_none s.heap)
  (R.grow (s' := { s with heap := s.heap.push o }) (fun _ _ z => Heap.get?_push_of_some _ z) R.c.gens rfl R.c.tk).freeze (Heap.get?_push_size _ hf) a b c d e
theorem Post.tk {Q : V → T → Prop} {V : V} {v : Value} (R : Rel f π σ s) (x : VRel κ.D π V v) (q : Q V σ) {tk : Nat} (ht : 0 < tk) : Post f π Q v { s with toks := tk } := ⟨V, σ, π, q, R.toks ht, x, .refl π⟩
theorem Post.tup {Q : V → T → Prop} {l : List V} {vs : List Value} {n : Nat} (R : Rel f π σ s) (x : VRels κ.D π l vs) (q : Q (.tup l) σ) : Post f π Q (.ref s.heap.objs.size) { s with heap := s.heap.push (tupObj vs n) } :=
  let ⟨R', e⟩ := R.push (tupObj vs n); ⟨.tup l, σ, _, q, R', ⟨_, vs, n, rfl, Pl.add_at, x.le e⟩, e⟩
theorem Post.lst {Q : V → T → Prop} {l : List V} {vs : List Value} {n : Nat} (R : Rel f π σ s) (x : VRels κ.D π l vs) (q : Q (.lst l) σ) : Post f π Q (.ref s.heap.objs.size) { s with heap := s.heap.push (lstObj vs n) } :=
  let ⟨R', e⟩ := R.push (lstObj vs n); ⟨.lst l, σ, _, q, R', ⟨_, vs, n, rfl, Pl.add_at, x.le e⟩, e⟩

theorem ns_ne_list {h : Heap} {a b : Addr} {m : Str → Option Value} {vs : List Value} {n : Nat} (x : h.Ns a m) (y : h.get? b = some (lstObj vs n)) : b ≠ a := by
  rintro rfl
  obtain ⟨o, es, ep, e1, e2, _⟩ := x
  rw [y] at e1; cases e1; cases e2
theorem cell_ne_list {h : Heap} {a b : Addr} {v : Option Value} {vs : List Value} {n : Nat} (x : h.IsCell a v) (y : h.get? b = some (lstObj vs n)) : a ≠ b := by
  rintro rfl
  obtain ⟨o, e1, e2⟩ := x
  rw [y] at e1; cases e1; cases e2
theorem ns_ne_cell {h : Heap} {a b : Addr} {m : Str → Option Value} {v : Option Value} (x : h.Ns a m) (y : h.IsCell b v) : b ≠ a := by
  rintro rfl
  obtain ⟨o, es, ep, e1, e2, _⟩ := x
  obtain ⟨o', e3, e4⟩ := y
  rw [e3] at e1; cases e1; rw [e4] at e2; cases e2

/-- one thing of the frame's own is changed: what others hold stands -/
theorem CRel.at {D : GD} {kp : Addr → Option Obj} {hd : Option (List V)} (R : CRel D kp π hd s) {a : Addr} {h' : Heap} (h1 : π.fz a = none) (h2 : kp a = none) (h3 : a ≠ D.ct) (h4 : a ∉ π.tabs) (hs : Heap.ExtBut a s.heap h') {tk : Nat} (ht : 0 < tk) : CRel D kp π hd { s with heap := h', toks := tk } :=
  ⟨fun x o e => hs x o (fun z => by rw [z, h1] at e; cases e) (R.hz x o e), fun x o e => hs x o (fun z => by rw [z, h2] at e; cases e) (R.hk x o e), R.dj, R.gd, R.tab.grow (fun x o q e => hs x o (fun z => h4 (z ▸ q)) e) (.refl π) rfl,
    let ⟨ps, e, r⟩ := R.ct; ⟨ps, hs _ _ h3.symm e, r⟩, R.sh, R.gens, R.os, ht⟩
theorem ext_of {a : Addr} {h h' : Heap} (x : Heap.SameBut a h h') : Heap.ExtBut a h h' := fun b _ q e => (x.2 b q).trans e
theorem cell_at {a c : Addr} {v : Option Value} {h h' : Heap} (x : Heap.ExtBut a h h') (y : h.IsCell c v) (n : c ≠ a) : h'.IsCell c v := let ⟨o, e, d⟩ := y; ⟨o, x _ _ n e, d⟩

/-- a local is stored -/
theorem Rel.store (R : Rel f π σ s) {i : Nat} {x : Str} {V : V} {v : Value} {h' : Heap} {mL : Str → Option Value} (hi : κ.ns[i]? = some x) (hl : κ.sc.names.lookup x = some .local) (hv : VRel κ.D π V v) (hn : Vars f π σ.ls s.heap mL)
    (hn' : h'.Ns f.env.locals (fun y => if y = x then some v else mL y)) (h0 : s.heap.Ns f.env.locals mL) (hs : Heap.SameBut f.env.locals s.heap h') {tk : Nat} (ht : 0 < tk) : Rel f π ⟨pt σ.ls i (some V), σ.objs, σ.hd⟩ { s with heap := h', toks := tk } := by
  have ow := R.ow _ ow_loc
  have xs := ext_of hs
  have hc : ∀ c v, s.heap.IsCell c v → h'.IsCell c v := fun c v z => cell_at xs z (ns_ne_cell h0 z)
  refine ⟨R.c.at ow.1 ow.2.1 ow.2.2.1 ow.2.2.2 xs ht, ⟨_, hn', fun j y W a b => ?_⟩, fun c hc' => let ⟨v, z⟩ := R.cl c hc'; ⟨v, hc _ _ z⟩, R.len, fun k l e => let ⟨a, vs, n, e1, e2, e3⟩ := R.ob k l e; ⟨a, vs, n, e1, xs _ _ (ns_ne_list h0 e2) e2, e3⟩, R.nd, R.ow⟩
  rcases gt_pt b with ⟨rfl, q⟩ | ⟨hne, q⟩
  · cases q
    rw [hi] at a; cases a
    exact ⟨v, hv, .inl ⟨hl, if_pos rfl⟩⟩
  · obtain ⟨u, r, z⟩ := hn j y W a q
    refine ⟨u, r, z.imp (fun z => ⟨z.1, ?_⟩) fun ⟨z, c, e, w⟩ => ⟨z, c, e, hc _ _ w⟩⟩
    rw [if_neg]
    · exact z.2
    · rintro rfl
      exact hne ((List.getElem?_inj (List.getElem?_eq_some_iff.mp a).1 f.ok.nd).mp (a.trans hi.symm))
/-- a cell is stored -/
theorem Rel.storeCell (R : Rel f π σ s) {i : Nat} {x : Str} {V : V} {v : Value} {c : Addr} {h' : Heap} (hi : κ.ns[i]? = some x) (hl : κ.sc.names.lookup x = some .cell) (hc : f.env.cells.lookup x = some c) (hcm : c ∈ f.mine)
    (hv : VRel κ.D π V v) (hn' : h'.IsCell c (some v)) (hs : Heap.SameBut c s.heap h') {tk : Nat} (ht : 0 < tk) : Rel f π ⟨pt σ.ls i (some V), σ.objs, σ.hd⟩ { s with heap := h', toks := tk } := by
  have ow := R.ow _ (ow_cell hcm)
  have xs := ext_of hs
  obtain ⟨v₀, hc₀⟩ := R.cl c hcm
  obtain ⟨mL, h0, hn⟩ := R.ns
  refine ⟨R.c.at ow.1 ow.2.1 ow.2.2.1 ow.2.2.2 xs ht, ⟨mL, h0.sameBut hs (ns_ne_cell h0 hc₀).symm, fun j y W a b => ?_⟩, fun d hd => ?_, R.len, fun k l e => let ⟨a, vs, n, e1, e2, e3⟩ := R.ob k l e; ⟨a, vs, n, e1, xs _ _ (cell_ne_list hc₀ e2).symm e2, e3⟩, R.nd, R.ow⟩
  · rcases gt_pt b with ⟨rfl, q⟩ | ⟨hne, q⟩
    · cases q
      rw [hi] at a; cases a
      exact ⟨v, hv, .inr ⟨by rw [hl]; decide, c, hc, hn'⟩⟩
    · obtain ⟨u, r, z⟩ := hn j y W a q
      refine ⟨u, r, z.imp id fun ⟨z, d, e, w⟩ => ⟨z, d, e, cell_at xs w fun q => hne ?_⟩⟩
      have ap := f.ok.apart.resolve_left fun z => by rw [z] at hcm; cases hcm
      have := name_of_addr ap (q ▸ mem_of_lookup e) (mem_of_lookup hc)
      subst this
      exact (List.getElem?_inj (List.getElem?_eq_some_iff.mp a).1 f.ok.nd).mp (a.trans hi.symm)
  · by_cases q : d = c
    · exact ⟨_, q ▸ hn'⟩
    · obtain ⟨v, z⟩ := R.cl d hd
      exact ⟨v, cell_at xs z q⟩
/-- a list of the frame's own is changed -/
theorem Rel.setObj (R : Rel f π σ s) {k : Nat} {a : Addr} {l₀ l' : List V} {vs' : List Value} {n : Nat} {h' : Heap} (ha : π.ρ[k]? = some a) (hk : gt σ.objs k = some l₀) (hv : VRels κ.D π l' vs')
    (hn' : h'.get? a = some (lstObj vs' n)) (hs : Heap.SameBut a s.heap h') {tk : Nat} (ht : 0 < tk) : Rel f π ⟨σ.ls, pt σ.objs k l', σ.hd⟩ { s with heap := h', toks := tk } := by
  have ow := R.ow _ (ow_obj (List.mem_of_getElem? ha))
  have xs := ext_of hs
  obtain ⟨a', vs₀, n₀, ea', h₀, _⟩ := R.ob k l₀ hk
  obtain rfl : a' = a := Option.some.inj (ea'.symm.trans ha)
  obtain ⟨mL, h0, hn⟩ := R.ns
  refine ⟨R.c.at ow.1 ow.2.1 ow.2.2.1 ow.2.2.2 xs ht, ⟨mL, h0.sameBut hs (ns_ne_list h0 h₀).symm, hn.le (.refl π) fun c v z => cell_at xs z (cell_ne_list z h₀)⟩, fun d hd => let ⟨v, z⟩ := R.cl d hd; ⟨v, cell_at xs z (cell_ne_list z h₀)⟩, R.len.trans pt_len.symm, fun j l el => ?_, R.nd, R.ow⟩
  rcases gt_pt el with ⟨rfl, rfl⟩ | ⟨hne, q⟩
  · exact ⟨a', vs', n, ha, hn', hv⟩
  · obtain ⟨b, vs, m, e1, e2, e3⟩ := R.ob j l q
    refine ⟨b, vs, m, e1, xs _ _ (fun z => hne ?_) e2, e3⟩
    subst z
    exact (List.getElem?_inj (List.getElem?_eq_some_iff.mp e1).1 R.nd).mp (e1.trans ha.symm)
/-- a new list of the frame's own -/
theorem Rel.newObj (R : Rel f π σ s) {l : List V} {vs : List Value} {n : Nat} (hv : VRels κ.D π l vs) :
    Rel f (π.with (π.ρ ++ [s.heap.objs.size])) ⟨σ.ls, σ.objs ++ [l], σ.hd⟩ { s with heap := s.heap.push (lstObj vs n) } ∧ π.le (π.with (π.ρ ++ [s.heap.objs.size])) := by
  have hnone := size_none s.heap
  obtain ⟨n1, n2, n3, n4, n5⟩ := R.new hnone
  have e : π.le (π.with (π.ρ ++ [s.heap.objs.size])) := ⟨fun _ _ e => e, List.prefix_append _ _, .inr rfl⟩
  have R' := R.grow (s' := { s with heap := s.heap.push (lstObj vs n) }) (fun _ _ z => Heap.get?_push_of_some _ z) R.c.gens rfl R.c.tk
  refine ⟨⟨⟨R'.c.hz, R'.c.hk, R'.c.dj, R'.c.gd, R'.c.tab.grow (fun _ _ _ z => z) e rfl, R'.c.ct, R'.c.sh, R'.c.gens, R'.c.os, R'.c.tk⟩, let ⟨mL, n, v⟩ := R'.ns; ⟨mL, n, v.le e fun _ _ z => z⟩, R'.cl, ?_, fun j l' el => ?_, ?_, ?_⟩, e⟩
  · show (π.ρ ++ [_]).length = (σ.objs ++ [l]).length
    rw [List.length_append, List.length_append, R.len]; rfl
  · rcases gt_ap el with q | ⟨rfl, rfl⟩
    · obtain ⟨a, us, k, e1, e2, e3⟩ := R'.ob j l' q
      exact ⟨a, us, k, pre_get e.ρ e1, e2, e3.le e⟩
    · refine ⟨s.heap.objs.size, vs, n, ?_, Heap.get?_push_size _ rfl, hv.le e⟩
      show (π.ρ ++ [_])[_]? = _
      rw [← R.len, List.getElem?_append_right (Nat.le_refl _), Nat.sub_self]
      rfl
  · refine List.nodup_append.mpr ⟨R.nd, List.nodup_cons.mpr ⟨List.not_mem_nil, .nil⟩, fun a ha b hb q => ?_⟩
    obtain ⟨vs, m, w⟩ := R.objAt ha
    rw [q, List.mem_singleton.mp hb, hnone] at w; cases w
  · intro a ha
    rcases List.mem_cons.mp ha with q | ha
    · exact R.ow a (q ▸ ow_loc)
    rcases List.mem_append.mp ha with q | ha
    · exact R.ow a (ow_cell q)
    rcases List.mem_append.mp ha with q | ha
    · exact R.ow a (ow_obj q)
    · rw [List.mem_singleton.mp ha]
      exact ⟨n1, n2, n3, n4⟩
theorem tab_eta {D : GD} {hd : Option (List V)} {h : Heap} {l : List V} {x d η : Addr} (q : TabOk D π hd h) (hh : hd = some l) (ht : π.tab = some (x, d, η)) : ∃ vs n hs tk k, h.get? η = some (lstObj vs n) ∧ VRels D π l vs ∧ dataVs l = true ∧ π.fz x = some (instObj D.hdrs d) ∧ π.fz d = some (dictOf [⟨hs, .str "_headers" tk, .ref η⟩] k) := by
  subst hh
  obtain ⟨x', d', η', vs, n, hs, tk, k, e1, r⟩ := q
  cases ht.symm.trans e1
  exact ⟨vs, n, hs, tk, k, r⟩
/-- the table's list is changed -/
theorem Rel.setHd (R : Rel f π σ s) {x d η : Addr} {l₀ l' : List V} {vs' : List Value} {n : Nat} {h' : Heap} (hh : σ.hd = some l₀) (ht : π.tab = some (x, d, η)) (hv : VRels κ.D π l' vs') (hd' : dataVs l' = true)
    (hn' : h'.get? η = some (lstObj vs' n)) (hs : Heap.SameBut η s.heap h') {tk : Nat} (htk : 0 < tk) : Rel f π ⟨σ.ls, σ.objs, some l'⟩ { s with heap := h', toks := tk } := by
  obtain ⟨vs₀, n₀, hsh, tk₀, k₀, h₀, _, _, e8, e9⟩ := tab_eta R.c.tab hh ht
  have xs := ext_of hs
  have hm : η ∈ π.tabs := by unfold Pl.tabs; rw [ht]; exact .head _
  obtain ⟨n1, n2⟩ := R.c.sh η (.inr hm)
  obtain ⟨mL, h0, hn⟩ := R.ns
  refine ⟨⟨fun a o e => xs a o (fun z => by rw [z, n1] at e; cases e) (R.c.hz a o e), fun a o e => xs a o (fun z => by rw [z, n2] at e; cases e) (R.c.hk a o e), R.c.dj, R.c.gd, ⟨x, d, η, vs', n, _, _, _, ht, hn', hv, hd', e8, e9⟩,
    let ⟨ps, e, r⟩ := R.c.ct; ⟨ps, xs _ _ (fun z => by rw [z, h₀] at e; cases e) e, r⟩, R.c.sh, R.c.gens, R.c.os, htk⟩, ⟨mL, h0.sameBut hs (ns_ne_list h0 h₀).symm, hn.le (.refl π) fun c v z => cell_at xs z (cell_ne_list z h₀)⟩,
    fun d hd => let ⟨v, z⟩ := R.cl d hd; ⟨v, cell_at xs z (cell_ne_list z h₀)⟩, R.len, fun k l e => let ⟨a, vs, m, e1, e2, e3⟩ := R.ob k l e; ⟨a, vs, m, e1, xs _ _ (fun z => (R.ow a (ow_obj (List.mem_of_getElem? e1))).2.2.2 (z ▸ hm)) e2, e3⟩, R.nd, R.ow⟩
/-- the code table grew -/
theorem Rel.ctUp (R : Rel f π σ s) {h' : Heap} {ps : Array Value} (hx : Heap.ExtBut κ.D.ct s.heap h') (ht : h'.get? κ.D.ct = some (PySem.W.tabObj ps)) (hps : TriplesOk ps.toList) (hr : ∀ pos v, codeAmong pos ps.toList = some v → ∃ c', v = .ref c') {tk : Nat} (htk : 0 < tk) :
    Rel f π σ { s with heap := h', toks := tk } := by
  obtain ⟨n1, n2⟩ := R.c.sh _ (.inl rfl)
  obtain ⟨mL, ⟨o, es, ep, h0, r0⟩, hn⟩ := R.ns
  obtain ⟨ps₀, c0, _⟩ := R.c.ct
  have cl : ∀ c v, s.heap.IsCell c v → h'.IsCell c v := fun c v z => cell_at hx z fun q => by
    obtain ⟨o, e, d⟩ := z
    rw [q, c0] at e; cases e; cases d
  refine ⟨⟨fun a o e => hx a o (fun z => by rw [z, n1] at e; cases e) (R.c.hz a o e), fun a o e => hx a o (fun z => by rw [z, n2] at e; cases e) (R.c.hk a o e), R.c.dj, R.c.gd, R.c.tab.grow (fun a o q e => hx a o (fun z => ?_) e) (.refl π) rfl, ⟨ps, ht, hps, hr⟩, R.c.sh, R.c.gens, R.c.os, htk⟩,
    ⟨mL, ⟨o, es, ep, hx _ _ (R.ow _ ow_loc).2.2.1 h0, r0⟩, hn.le (.refl π) cl⟩, fun d hd => let ⟨v, z⟩ := R.cl d hd; ⟨v, cl _ _ z⟩, R.len, fun k l e => let ⟨a, vs, m, e1, e2, e3⟩ := R.ob k l e; ⟨a, vs, m, e1, hx _ _ (R.ow a (ow_obj (List.mem_of_getElem? e1))).2.2.1 e2, e3⟩, R.nd, R.ow⟩
  obtain ⟨vs, n, w⟩ := R.c.tabList q
  rw [z, c0] at w; cases w

/-- what else must stand: a loop's own things -/
noncomputable def Fr.keep (f : Fr κ) (a : Addr) (o : Obj) : Fr κ := ⟨f.env, f.A, fun x => if x = a then some o else f.kp x, f.mine, f.ok⟩
theorem kp_at {a : Addr} {o : Obj} : (f.keep a o).kp a = some o := if_pos rfl
theorem kp_ne {a x : Addr} {o : Obj} (h : x ≠ a) : (f.keep a o).kp x = f.kp x := if_neg h
theorem Rel.keep (R : Rel f π σ s) {a : Addr} {o : Obj} (ho : s.heap.get? a = some o) (h1 : π.fz a = none) (h3 : a ≠ κ.D.ct) (h4 : a ∉ π.tabs) (h5 : a ∉ ownF f π) : Rel (f.keep a o) π σ s := by
  refine ⟨⟨R.c.hz, fun x o' e => ?_, fun x o' e => ?_, R.c.gd, R.c.tab, R.c.ct, fun x q => ?_, R.c.gens, R.c.os, R.c.tk⟩, R.ns, R.cl, R.len, R.ob, R.nd, fun x q => ?_⟩
  · by_cases z : x = a
    · subst z
      rw [kp_at] at e
      exact e ▸ ho
    · rw [kp_ne z] at e
      exact R.c.hk x o' e
  · by_cases z : x = a
    · exact z ▸ h1
    · rw [kp_ne z] at e
      exact R.c.dj x o' e
  · have : x ≠ a := fun z => q.elim (fun w => h3 (z.symm.trans w)) fun w => h4 (z ▸ w)
    rw [kp_ne this]
    exact R.c.sh x q
  · have : x ≠ a := fun z => h5 (z ▸ q)
    rw [kp_ne this]
    exact R.ow x q
/-- and no longer: it may have been changed, f holds nothing there -/
theorem Rel.unkeep {a : Addr} {o : Obj} (R : Rel (f.keep a o) π σ s) (hf : f.kp a = none) (hc : ∀ v, o.data ≠ .cell v) {h' : Heap} (hs : Heap.ExtBut a s.heap h') {tk : Nat} (ht : 0 < tk) : Rel f π σ { s with heap := h', toks := tk } ∧ π.fz a = none ∧ a ≠ κ.D.ct ∧ a ∉ π.tabs ∧ a ∉ ownF f π := by
  have hz := R.c.dj a o kp_at
  have h3 : a ≠ κ.D.ct := fun z => nomatch (kp_at (f := f) (o := o)).symm.trans (R.c.sh a (.inl z)).2
  have h4 : a ∉ π.tabs := fun z => nomatch (kp_at (f := f) (o := o)).symm.trans (R.c.sh a (.inr z)).2
  have h5 : a ∉ ownF f π := fun z => nomatch (kp_at (f := f) (o := o)).symm.trans (R.ow a z).2.1
  have kn : ∀ x o', f.kp x = some o' → x ≠ a := fun x o' e z => by rw [z, hf] at e; cases e
  have hne : ∀ x o', s.heap.get? x = some o' → x ∈ ownF f π → h'.get? x = some o' := fun x o' e q => hs x o' (fun z => h5 (z ▸ q)) e
  obtain ⟨mL, ⟨ob, es, ep, h0, r0⟩, hn⟩ := R.ns
  refine ⟨⟨⟨fun x o' e => hs x o' (fun z => by rw [z, hz] at e; cases e) (R.c.hz x o' e), fun x o' e => hs x o' (kn x o' e) (R.c.hk x o' ((kp_ne (kn x o' e)).trans e)), fun x o' e => R.c.dj x o' ((kp_ne (kn x o' e)).trans e), R.c.gd, R.c.tab.grow (fun x o' q e => hs x o' (fun z => h4 (z ▸ q)) e) (.refl π) rfl,
      let ⟨ps, e, r⟩ := R.c.ct; ⟨ps, hs _ _ h3.symm e, r⟩, fun x q => ⟨(R.c.sh x q).1, ?_⟩, R.c.gens, R.c.os, ht⟩, ⟨mL, ⟨ob, es, ep, hne _ _ h0 ow_loc, r0⟩, ?_⟩, fun c hc => let ⟨v, o', e, d⟩ := R.cl c hc; ⟨v, o', hne _ _ e (ow_cell hc), d⟩, R.len,
    fun k l e => let ⟨b, vs, n, e1, e2, e3⟩ := R.ob k l e; ⟨b, vs, n, e1, hne _ _ e2 (ow_obj (List.mem_of_getElem? e1)), e3⟩, R.nd, fun x q => ?_⟩, hz, h3, h4, h5⟩
  · have : x ≠ a := fun z => q.elim (fun w => h3 (z.symm.trans w)) fun w => h4 (z ▸ w)
    exact (kp_ne this).symm.trans (R.c.sh x q).2
  · refine hn.le (.refl π) fun c v z => cell_at hs z fun q => ?_
    obtain ⟨o', e, d⟩ := z
    rw [q, R.c.hk a o kp_at] at e; cases e
    exact hc v d
  · have w := R.ow x q
    have n : x ≠ a := fun z => h5 (z ▸ q)
    exact ⟨w.1, (kp_ne n).symm.trans w.2.1, w.2.2⟩
end
end

section
open PySem PySem.Calls PyProof.Rows PySem.W

theorem big_is : big = sizeLine := by rw [sizeLine_eq]; rfl
theorem str_ext {x y : Str} (h : x.cps.toList = y.cps.toList) : x = y := by
  obtain ⟨a⟩ := x; obtain ⟨b⟩ := y
  exact congrArg Str.mk (Array.toList_inj.mp h)
theorem str_append (a b : List Nat) : (⟨a.toArray⟩ : Str) ++ ⟨b.toArray⟩ = ⟨(a ++ b).toArray⟩ := by
  show Str.mk (a.toArray ++ b.toArray) = _
  rw [List.append_toArray]
theorem str_len (a : List Nat) : (⟨a.toArray⟩ : Str).length = a.length := List.size_toArray
theorem big_fits {n : Nat} (h : n ≤ big) : (n : Int) < 2 ^ 63 := Int.lt_of_le_of_lt (Int.ofNat_le.mpr h) (by decide)
theorem beqE (l : List Nat) : (((l.length : Nat) : Int) != 0) = !l.isEmpty := by
  cases l with
  | nil => rfl
  | cons a r => exact bne_iff_ne.mpr (Int.ne_of_gt (Int.ofNat_lt.mpr (Nat.succ_pos _)))

section
variable {κ : Kx} {f : Fr κ} {π π' : Pl} {σ σ' : T} {s s' : Shared}

theorem load_slot (R : Rel f π σ s) {i : Nat} {x : Str} {V : V} (hi : κ.ns[i]? = some x) (h : gt σ.ls i = some (some V)) {A : Around} {E : Value → Shared → Prop} {Q : Value → Shared → Prop} (q : ∀ v, VRel κ.D π V v → Q v s) : wpAny (Mo κ) A (loadName f.env x) Q E s := by
  obtain ⟨mL, hn, hv⟩ := R.ns
  obtain ⟨v, r, z⟩ := hv i x V hi h
  rcases z with ⟨hk, e⟩ | ⟨hk, c, e, hc⟩
  · exact wpAny_loadName_local f.ok.kind (f.ok.loc x hk) hn e (q v r)
  · rcases (f.ok.ns x (List.mem_of_getElem? hi)).resolve_left hk with hk | hk
    · exact wpAny_loadName_cell f.ok.kind (f.ok.cell x hk).1 e hc (q v r)
    · obtain ⟨w | w, u⟩ := f.ok.free x hk
      · exact wpAny_loadName_cell f.ok.kind w e hc (q v r)
      · exact wpAny_loadName_free f.ok.kind w e hc (q v r) u
theorem load_glob (R : Rel f π σ s) {x : Str} {v : Value} (hk : κ.sc.names.lookup x = some .globalImplicit) (hv : κ.D.mg x = some v ∨ (κ.D.mg x = none ∧ κ.D.mb x = some v)) {A : Around} {E : Value → Shared → Prop} {Q : Value → Shared → Prop} (q : Q v s) : wpAny (Mo κ) A (loadName f.env x) Q E s := by
  rw [loadName_read f.ok.kind (f.ok.glob x hk)]
  have g1 : s.heap.Ns f.env.globals κ.D.mg := by rw [f.ok.globals]; exact f.ok.dok.globs.keeps R.c.g
  have g2 : s.heap.Ns f.env.builtins κ.D.mb := by rw [f.ok.builtins]; exact f.ok.dok.bi.keeps R.c.g
  rcases hv with hv | ⟨hm, hv⟩
  · exact PySem.Calls.loadGlobal_global g1 hv q
  · exact PySem.Calls.loadGlobal_builtin g1 hm g2 hv q

noncomputable def pVar (i : Nat) : PE := fun σ Q => opt (gt σ.ls i) fun o => opt o fun v => Q v σ
noncomputable def pLit (v : V) : PE := fun σ Q => Q v σ
theorem rVar {x : Str} {p : Pos} (i : Nat) (hi : κ.ns[i]? = some x) : SE κ (.Name x p) (pVar i) := .mk fun f π σ s Q R h => by
  obtain ⟨o, h1, h⟩ := opt_v h
  obtain ⟨v, rfl, q⟩ := opt_v h
  exact wpAny_Name (load_slot R hi h1 fun w x => .here R x q) (beq_eq_false_iff_ne.mpr (f.ok.ndb x (List.mem_of_getElem? hi)))
/-- a global constant -/
theorem rGlob {x : Str} {p : Pos} {V : V} (hk : κ.sc.names.lookup x = some .globalImplicit) (hd : x ≠ "__debug__") (hv : ∃ v, κ.D.mg x = some v ∧ ∀ π, VRel κ.D π V v) : SE κ (.Name x p) (pLit V) := .mk fun f π σ s Q R h => by
  obtain ⟨v, e, r⟩ := hv
  exact wpAny_Name (load_glob R hk (.inl e) (.here R (r π) h)) (beq_eq_false_iff_ne.mpr hd)
theorem rDebug {p : Pos} : SE κ (.Name "__debug__" p) (pLit (.bool true)) := .mk fun f π σ s Q R h => by
  show wpAny _ _ (do standAt p; if (("__debug__" : Str) == ("__debug__" : Str)) then debugConstant else loadName f.env "__debug__") _ _ _
  refine wpAny_bind (wpAny_standAt ?_)
  rw [if_pos (beq_self_eq_true _)]
  exact wpAny_bind (wpAny_rule (wpAny_pure (.here (V := .bool true) R rfl h)))
theorem rNone {k : Nat} {p : Pos} : SE κ (.Constant .none k p) (pLit .none) := .mk fun f π σ s Q R h => by
  rw [eval_Constant]; exact wpAny_pure (.here (V := .none) R rfl h)
theorem rBool {b : Bool} {k : Nat} {p : Pos} : SE κ (.Constant (.bool b) k p) (pLit (.bool b)) := .mk fun f π σ s Q R h => by
  rw [eval_Constant]; exact wpAny_pure (.here (V := .bool b) R rfl h)
theorem rInt {i : Int} {k : Nat} {p : Pos} : SE κ (.Constant (.int i) k p) (pLit (.int i)) := .mk fun f π σ s Q R h => by
  rw [eval_Constant]; exact wpAny_mkInt (.tk (V := .int i) R ⟨_, rfl⟩ h (Nat.succ_pos _))
theorem rStr {x : Str} {k : Nat} {p : Pos} (l : List Nat) (hl : lit x = l) : SE κ (.Constant (.str x) k p) (pLit (.str l)) := .mk fun f π σ s Q R h => by
  subst hl
  rw [eval_Constant]; exact wpAny_mkText (.tk (V := .str (lit x)) R ⟨_, rfl⟩ h (Nat.succ_pos _))

-- arithmetic
noncomputable def bin2 (a b : PE) (K : V → V → T → Prop) : T → Prop := fun σ => a σ fun x σ => b σ fun y σ => K x y σ
theorem rBin {l r : Expr} {op : Operator} {p : Pos} {a b : PE} {C : V → V → T → (V → T → Prop) → Prop} (hl : SE κ l a) (hr : SE κ r b)
    (hop : ∀ (f : Fr κ) π σ s V W v w Q, Rel f π σ s → VRel κ.D π V v → VRel κ.D π W w → C V W σ Q → Ok f (binaryOp op v w) (Post f π Q) s) : SE κ (.BinOp l op r p) (fun σ Q => bin2 a b (fun x y σ => C x y σ Q) σ) := .mk fun f π σ s Q R h =>
  wpAny_BinOp (thenV (hl.run f π σ s _ R h) fun V v σ₁ π₁ s₁ q R₁ x₁ e₁ => thenV (hr.run f π₁ σ₁ s₁ _ R₁ q) fun W w σ₂ π₂ s₂ q R₂ x₂ e₂ =>
    calm (hop f π₂ σ₂ s₂ V W v w Q R₂ (x₁.le e₂) x₂ q) fun _ _ => .from (e₁.trans e₂))
noncomputable def cAddI (x y : V) (σ : T) (Q : V → T → Prop) : Prop := asInt x fun i => asInt y fun j => Q (.int (i + j)) σ
noncomputable def cSubI (x y : V) (σ : T) (Q : V → T → Prop) : Prop := asInt x fun i => asInt y fun j => Q (.int (i - j)) σ
noncomputable def cMulI (x y : V) (σ : T) (Q : V → T → Prop) : Prop := asInt x fun i => asInt y fun j => (i.natAbs < 2 ^ 31 ∧ j.natAbs < 2 ^ 31) ∧ Q (.int (i * j)) σ
noncomputable def cDivI (x y : V) (σ : T) (Q : V → T → Prop) : Prop := asInt x fun i => asInt y fun j => (j ≠ 0 ∧ j.natAbs < 2 ^ 31) ∧ Q (.int (i.fdiv j)) σ
noncomputable def cModI (x y : V) (σ : T) (Q : V → T → Prop) : Prop := asInt x fun i => asInt y fun j => j ≠ 0 ∧ Q (.int (i.fmod j)) σ
noncomputable def cAddS (x y : V) (σ : T) (Q : V → T → Prop) : Prop := asStr x fun i => asStr y fun j => i.length + j.length ≤ big ∧ Q (.str (i ++ j)) σ
noncomputable def cAddL (x y : V) (σ : T) (Q : V → T → Prop) : Prop := asLst σ x fun i => asLst σ y fun j => (okVs i = true ∧ okVs j = true ∧ i.length + j.length ≤ big) ∧ Q (.lst (i ++ j)) σ
noncomputable def pAddI (a b : PE) : PE := fun σ Q => bin2 a b (fun x y σ => cAddI x y σ Q) σ
noncomputable def pSubI (a b : PE) : PE := fun σ Q => bin2 a b (fun x y σ => cSubI x y σ Q) σ
noncomputable def pMulI (a b : PE) : PE := fun σ Q => bin2 a b (fun x y σ => cMulI x y σ Q) σ
noncomputable def pDivI (a b : PE) : PE := fun σ Q => bin2 a b (fun x y σ => cDivI x y σ Q) σ
noncomputable def pModI (a b : PE) : PE := fun σ Q => bin2 a b (fun x y σ => cModI x y σ Q) σ
noncomputable def pAddS (a b : PE) : PE := fun σ Q => bin2 a b (fun x y σ => cAddS x y σ Q) σ
noncomputable def pAddL (a b : PE) : PE := fun σ Q => bin2 a b (fun x y σ => cAddL x y σ Q) σ
/-- two ints -/
theorem twoI {x y : V} {v w : Value} {K : Int → Int → Prop} (xa : VRel κ.D π x v) (xb : VRel κ.D π y w) (h : asInt x fun i => asInt y fun j => K i j) : ∃ i j t u, v = .int i t ∧ w = .int j u ∧ K i j := by
  obtain ⟨i, rfl, h₁⟩ := asInt_v h
  obtain ⟨j, rfl, h₂⟩ := asInt_v h₁
  obtain ⟨t, rfl⟩ := xa
  obtain ⟨u, rfl⟩ := xb
  exact ⟨i, j, t, u, rfl, rfl, h₂⟩
theorem twoS {x y : V} {v w : Value} {K : List Nat → List Nat → Prop} (xa : VRel κ.D π x v) (xb : VRel κ.D π y w) (h : asStr x fun i => asStr y fun j => K i j) : ∃ i j t u, v = strV i t ∧ w = strV j u ∧ K i j := by
  obtain ⟨i, rfl, h₁⟩ := asStr_v h
  obtain ⟨j, rfl, h₂⟩ := asStr_v h₁
  obtain ⟨t, rfl⟩ := xa
  obtain ⟨u, rfl⟩ := xb
  exact ⟨i, j, t, u, rfl, rfl, h₂⟩
theorem Post.int {Q : V → T → Prop} {i : Int} {t : Tok} (R : Rel f π σ s) (q : Q (.int i) σ) : Post f π Q (.int i t) s := .here (V := .int i) R ⟨t, rfl⟩ q
theorem Post.intT {Q : V → T → Prop} {i : Int} {t : Tok} (R : Rel f π σ s) (q : Q (.int i) σ) : Post f π Q (.int i t) { s with toks := s.toks + 1 } := .tk (V := .int i) R ⟨t, rfl⟩ q (Nat.succ_pos _)
theorem bits_le {a : Int} (h : a.natAbs < 2 ^ 31) : a.natAbs.log2 < 31 := by
  by_cases z : a.natAbs = 0
  · rw [z]; decide
  · exact (Nat.log2_lt z).mpr h
theorem div_ok {M : Model} {A : Around} {a b : Int} (h : b.natAbs < 2 ^ 31) : Builtin.divisionGoesByPylong a b = false ∨ PylongRoom M A s := by
  left
  unfold Builtin.divisionGoesByPylong
  have := bits_le h
  have h1 : ¬ ((if b == 0 then 0 else b.natAbs.log2 / 30 + 1) > 300) := by split <;> omega
  dsimp only
  rw [decide_eq_false h1, Bool.false_and]
theorem mul_ok {a b : Int} (h : a.natAbs < 2 ^ 31) (g : b.natAbs < 2 ^ 31) : IntMulOk a b := .of_left (intBits_le_64 (by omega) (by omega))
theorem rAddI {l r : Expr} {p : Pos} {a b : PE} (hl : SE κ l a) (hr : SE κ r b) : SE κ (.BinOp l .Add r p) (pAddI a b) := rBin hl hr fun f π σ s V W v w Q R xa xb h => by
  obtain ⟨i, j, t, u, rfl, rfl, q⟩ := twoI xa xb h
  exact add_int (.intT R q)
theorem rSubI {l r : Expr} {p : Pos} {a b : PE} (hl : SE κ l a) (hr : SE κ r b) : SE κ (.BinOp l .Sub r p) (pSubI a b) := rBin hl hr fun f π σ s V W v w Q R xa xb h => by
  obtain ⟨i, j, t, u, rfl, rfl, q⟩ := twoI xa xb h
  exact sub_int (.intT R q)
theorem rMulI {l r : Expr} {p : Pos} {a b : PE} (hl : SE κ l a) (hr : SE κ r b) : SE κ (.BinOp l .Mult r p) (pMulI a b) := rBin hl hr fun f π σ s V W v w Q R xa xb h => by
  obtain ⟨i, j, t, u, rfl, rfl, z, q⟩ := twoI xa xb h
  exact mul_int (.intT R q) (mul_ok z.1 z.2)
theorem rDivI {l r : Expr} {p : Pos} {a b : PE} (hl : SE κ l a) (hr : SE κ r b) : SE κ (.BinOp l .FloorDiv r p) (pDivI a b) := rBin hl hr fun f π σ s V W v w Q R xa xb h => by
  obtain ⟨i, j, t, u, rfl, rfl, z, q⟩ := twoI xa xb h
  exact floordiv_int z.1 (.intT R q) (div_ok z.2)
theorem rModI {l r : Expr} {p : Pos} {a b : PE} (hl : SE κ l a) (hr : SE κ r b) : SE κ (.BinOp l .Mod r p) (pModI a b) := rBin hl hr fun f π σ s V W v w Q R xa xb h => by
  obtain ⟨i, j, t, u, rfl, rfl, z, q⟩ := twoI xa xb h
  exact mod_int' z (.intT R q)
theorem rAddS {l r : Expr} {p : Pos} {a b : PE} (hl : SE κ l a) (hr : SE κ r b) : SE κ (.BinOp l .Add r p) (pAddS a b) := rBin hl hr fun f π σ s V W v w Q R xa xb h => by
  obtain ⟨i, j, t, u, rfl, rfl, z, q⟩ := twoS xa xb h
  refine wpAny_with_toks (n := 1) R.c.tk (add_str (fun t' tk htk => ?_) (by rw [str_len, str_len, ← big_is]; exact z))
  rw [str_append]
  exact .tk (V := .str (i ++ j)) R ⟨_, rfl⟩ q htk
/-- a list's object -/
theorem lst_at (R : Rel f π σ s) {V : V} {v : Value} {K : List Mine.V → Prop} (x : VRel κ.D π V v) (h : asLst σ V K) : ∃ l a vs n, v = .ref a ∧ s.heap.get? a = some (lstObj vs n) ∧ VRels κ.D π l vs ∧ K l := by
  obtain ⟨l, hl, h₁⟩ := opt_v h
  cases V with
  | lst l' =>
    cases hl
    obtain ⟨a, vs, n, e, ho, r⟩ := x
    exact ⟨_, a, vs, n, e, R.c.hz _ _ ho, r, h₁⟩
  | ref k =>
    obtain ⟨a, e, hv⟩ := x
    obtain ⟨a', vs, n, e1, e2, e3⟩ := R.ob k l hl
    exact ⟨l, a, vs, n, hv, Option.some.inj (e1.symm.trans e) ▸ e2, e3, h₁⟩
  | hl =>
    obtain ⟨b, c, a, e, hv⟩ := x
    obtain ⟨vs, n, _, _, _, e2, e3, _⟩ := tab_eta R.c.tab (show σ.hd = some l from hl) e
    exact ⟨l, a, vs, n, hv, e2, e3, h₁⟩
  | _ => cases hl
theorem rAddL {l r : Expr} {p : Pos} {a b : PE} (hl : SE κ l a) (hr : SE κ r b) : SE κ (.BinOp l .Add r p) (pAddL a b) := rBin hl hr fun f π σ s V W v w Q R xa xb h => by
  obtain ⟨i, x, vs, n, rfl, h1, r1, h⟩ := lst_at R xa h
  obtain ⟨j, y, us, k, rfl, h2, r2, z, q⟩ := lst_at R xb h
  refine PySem.P.add_list (items := vs.toArray) (items2 := us.toArray) h1 h2 ?_ (by rw [List.size_toArray, List.size_toArray, r1.length, r2.length, ← big_is]; exact z.2.2)
  rw [List.append_toArray]
  exact .lst (n := 0) R (r1.append r2) q
noncomputable def pNegI (a : PE) : PE := fun σ Q => a σ fun x σ => asInt x fun i => Q (.int (-i)) σ
theorem rNegI {l : Expr} {p : Pos} {a : PE} (hl : SE κ l a) : SE κ (.UnaryOp .USub l p) (pNegI a) := .mk fun f π σ s Q R h =>
  wpAny_UnaryOp (thenV (hl.run f π σ s _ R h) fun V v σ₁ π₁ s₁ q R₁ x₁ e₁ => by
    obtain ⟨i, rfl, q⟩ := asInt_v q
    obtain ⟨t, rfl⟩ := x₁
    exact neg_int (.from e₁ (.intT R₁ q)))

-- comparisons
/-- what a comparison of two values means -/
noncomputable def CmpOk (κ : Kx) (op : CmpOp) (C : V → V → T → (Bool → Prop) → Prop) : Prop := ∀ (f : Fr κ) π σ s V W v w (Q : Bool → Prop), Rel f π σ s → VRel κ.D π V v → VRel κ.D π W w → C V W σ Q → Ok f (compareOp op v w) (fun r s' => ∃ t tk, Q t ∧ r = .bool t ∧ s' = { s with toks := tk }) s
noncomputable def cmp2 (C : V → V → T → (Bool → Prop) → Prop) (a b : PE) : PB := fun σ Q => a σ fun x σ => b σ fun y σ => C x y σ fun t => Q t σ
theorem cmp_run {op : CmpOp} {C : V → V → T → (Bool → Prop) → Prop} {l r : Expr} {a b : PE} (hc : CmpOk κ op C) (hl : SE κ l a) (hr : SE κ r b) (R : Rel f π σ s) {Q : Bool → T → Prop} (h : cmp2 C a b σ Q) :
    Ok f (eval l f.env) (fun v s₁ => Ok f (eval r f.env) (fun w s₂ => Ok f (compareOp op v w) (fun z s₃ => ∃ t, z = .bool t ∧ PostB f π Q t s₃) s₂) s₁) s :=
  thenV (hl.run f π σ s _ R h) fun V v σ₁ π₁ s₁ q R₁ x₁ e₁ => thenV (hr.run f π₁ σ₁ s₁ _ R₁ q) fun W w σ₂ π₂ s₂ q R₂ x₂ e₂ =>
    wpAny_mono (wpAny_toks_of (n := 1) R₂.c.tk (hc f π₂ σ₂ s₂ V W v w _ R₂ (x₁.le e₂) x₂ q)) (fun z s' y => by
      obtain ⟨hl, t, tk, q, e1, rfl⟩ := y
      exact ⟨t, e1, σ₂, π₂, q, R₂.toks hl, e₁.trans e₂⟩) fun _ _ y => y.2
/-- in a test -/
theorem rCmp {op : CmpOp} {C : V → V → T → (Bool → Prop) → Prop} {l r : Expr} {p : Pos} {a b : PE} (hc : CmpOk κ op C) (hl : SE κ l a) (hr : SE κ r b) (hs : behindInMarks op r = false := by rfl) : SB κ (.Compare l [op] [r] p) (cmp2 C a b) := .mk fun f π σ s Q R h =>
  wpAny_isTrue_Compare1 (calm (cmp_run hc hl hr R h) fun v s₁ h₁ => calm h₁ fun w s₂ h₂ => calm h₂ fun z s₃ h₃ => by
    obtain ⟨t, rfl, z⟩ := h₃
    exact wpAny_truthy_bool z) hs
/-- as a value -/
noncomputable def pB (c : PB) : PE := fun σ Q => c σ fun t σ => Q (.bool t) σ
theorem rCmpV {op : CmpOp} {C : V → V → T → (Bool → Prop) → Prop} {l r : Expr} {p : Pos} {a b : PE} (hc : CmpOk κ op C) (hl : SE κ l a) (hr : SE κ r b) (hs : behindInMarks op r = false := by rfl) : SE κ (.Compare l [op] [r] p) (pB (cmp2 C a b)) := .mk fun f π σ s Q R h =>
  wpAny_Compare1 (calm (cmp_run hc hl hr R h) fun v s₁ h₁ => calm h₁ fun w s₂ h₂ => calm h₂ fun z s₃ h₃ => by
    obtain ⟨t, rfl, σ', π', q, R', e'⟩ := h₃
    exact ⟨_, σ', π', q, R', rfl, e'⟩) hs
noncomputable def kLt (x y : V) (σ : T) (Q : Bool → Prop) : Prop := asInt x fun i => asInt y fun j => Q (decide (i < j))
noncomputable def kGt (x y : V) (σ : T) (Q : Bool → Prop) : Prop := asInt x fun i => asInt y fun j => Q (decide (j < i))
noncomputable def kGe (x y : V) (σ : T) (Q : Bool → Prop) : Prop := asInt x fun i => asInt y fun j => Q (decide (j ≤ i))
noncomputable def kEqI (x y : V) (σ : T) (Q : Bool → Prop) : Prop := asInt x fun i => asInt y fun j => Q (decide (i = j))
noncomputable def kNeI (x y : V) (σ : T) (Q : Bool → Prop) : Prop := asInt x fun i => asInt y fun j => Q (!decide (i = j))
noncomputable def kGtS (x y : V) (σ : T) (Q : Bool → Prop) : Prop := asStr x fun i => asStr y fun j => Q (decide (j < i))
noncomputable def kEqS (x y : V) (σ : T) (Q : Bool → Prop) : Prop := asStr x fun i => asStr y fun j => Q (decide (i = j))
noncomputable def kNeS (x y : V) (σ : T) (Q : Bool → Prop) : Prop := asStr x fun i => asStr y fun j => Q (!decide (i = j))
noncomputable def kIn (x y : V) (σ : T) (Q : Bool → Prop) : Prop := asChr x fun i => asStr y fun j => Q (j.contains i)
noncomputable def kNotIn (x y : V) (σ : T) (Q : Bool → Prop) : Prop := asChr x fun i => asStr y fun j => Q (!j.contains i)
theorem kLt_ok : CmpOk κ .Lt kLt := fun f π σ s V W v w Q R xa xb h => by
  obtain ⟨i, j, t, u, rfl, rfl, q⟩ := twoI xa xb h
  exact lt_int ⟨_, _, q, rfl, rfl⟩
theorem kGt_ok : CmpOk κ .Gt kGt := fun f π σ s V W v w Q R xa xb h => by
  obtain ⟨i, j, t, u, rfl, rfl, q⟩ := twoI xa xb h
  exact gt_int ⟨_, _, q, rfl, rfl⟩
theorem kGe_ok : CmpOk κ .GtE kGe := fun f π σ s V W v w Q R xa xb h => by
  obtain ⟨i, j, t, u, rfl, rfl, q⟩ := twoI xa xb h
  exact ge_int ⟨_, _, q, rfl, rfl⟩
theorem kEqI_ok : CmpOk κ .Eq kEqI := fun f π σ s V W v w Q R xa xb h => by
  obtain ⟨i, j, t, u, rfl, rfl, q⟩ := twoI xa xb h
  exact eq_int ⟨_, _, q, by rw [Bool.beq_eq_decide_eq], rfl⟩
theorem kNeI_ok : CmpOk κ .NotEq kNeI := fun f π σ s V W v w Q R xa xb h => by
  obtain ⟨i, j, t, u, rfl, rfl, q⟩ := twoI xa xb h
  exact ne_int ⟨_, _, q, by rw [bne, Bool.beq_eq_decide_eq], rfl⟩
theorem decB {x y : List Nat} : ((⟨x.toArray⟩ : Str).cps.toList == (⟨y.toArray⟩ : Str).cps.toList) = decide (x = y) := by rw [Bool.beq_eq_decide_eq]
theorem kGtS_ok : CmpOk κ .Gt kGtS := fun f π σ s V W v w Q R xa xb h => by
  obtain ⟨i, j, t, u, rfl, rfl, q⟩ := twoS xa xb h
  exact PySem.P.gt_str ⟨_, _, q, rfl, rfl⟩
theorem kEqS_ok : CmpOk κ .Eq kEqS := fun f π σ s V W v w Q R xa xb h => by
  obtain ⟨i, j, t, u, rfl, rfl, q⟩ := twoS xa xb h
  exact PySem.P.eq_str ⟨_, _, q, by rw [decB], rfl⟩
theorem kNeS_ok : CmpOk κ .NotEq kNeS := fun f π σ s V W v w Q R xa xb h => by
  obtain ⟨i, j, t, u, rfl, rfl, q⟩ := twoS xa xb h
  exact PySem.P.ne_str ⟨_, _, q, by rw [bne, decB], rfl⟩
theorem found {x : List Nat} {c : Nat} : (!(Builtin.Str.occurrences ⟨x.toArray⟩ ⟨[c].toArray⟩ 0 (⟨x.toArray⟩ : Str).length 1).isEmpty) = x.contains c := by
  rw [Bool.eq_iff_iff, show ([c].toArray : Array Nat) = #[c] from rfl, StrLaws.found_one ⟨x.toArray⟩ c]
  exact decide_eq_true_iff.trans (List.contains_iff_mem (a := c) (as := x)).symm
theorem chr_str {x y : V} {v w : Value} {K : Nat → List Nat → Prop} (xa : VRel κ.D π x v) (xb : VRel κ.D π y w) (h : asChr x fun i => asStr y fun j => K i j) : ∃ i j t u, v = strV [i] t ∧ w = strV j u ∧ K i j := by
  obtain ⟨i, rfl, h₁⟩ := asChr_v h
  obtain ⟨j, rfl, h₂⟩ := asStr_v h₁
  obtain ⟨t, rfl⟩ := xa
  obtain ⟨u, rfl⟩ := xb
  exact ⟨i, j, t, u, rfl, rfl, h₂⟩
theorem kIn_ok : CmpOk κ .In kIn := fun f π σ s V W v w Q R xa xb h => by
  obtain ⟨i, j, t, u, rfl, rfl, q⟩ := chr_str xa xb h
  exact PySem.P.in_str ⟨_, _, q, by rw [found], rfl⟩
theorem kNotIn_ok : CmpOk κ .NotIn kNotIn := fun f π σ s V W v w Q R xa xb h => by
  obtain ⟨i, j, t, u, rfl, rfl, q⟩ := chr_str xa xb h
  exact PySem.P.notIn_str ⟨_, _, q, by rw [found], rfl⟩
noncomputable def strsOf : List V → Option (List (List Nat))
  | [] => some []
  | .str x :: r => (strsOf r).map (x :: ·)
  | _ => none
theorem strs_are : ∀ {l : List V} {vs : List Value} {ls : List (List Nat)}, VRels κ.D π l vs → strsOf l = some ls → StrsAre vs (ls.map fun x => (⟨x.toArray⟩ : Str))
  | [], _, _, x, e => by cases e; cases (x : _ = []); exact .nil
  | a :: r, vs, ls, ⟨v, q, e0, hv, hr⟩, e => by
    subst e0
    cases a with
    | str y =>
      obtain ⟨ls', e', rfl⟩ := Option.map_eq_some_iff.mp (show (strsOf r).map (y :: ·) = some ls from e)
      obtain ⟨t, rfl⟩ := hv
      exact .cons _ _ (strs_are hr e')
    | _ => cases e
/-- in a tuple of texts -/
noncomputable def kInT (x y : V) (σ : T) (Q : Bool → Prop) : Prop := asStr x fun i => asTup y fun l => opt (strsOf l) fun ls => Q (ls.contains i)
theorem any_eq {ls : List (List Nat)} {x : List Nat} : (ls.map fun x => (⟨x.toArray⟩ : Str)).any (· == (⟨x.toArray⟩ : Str)) = ls.contains x := by
  rw [Bool.eq_iff_iff]
  simp only [List.any_map, List.any_eq_true, Function.comp, beq_iff_eq, List.contains_iff_mem]
  constructor
  · rintro ⟨y, hy, e⟩
    injection e with e
    exact (List.toArray_inj e) ▸ hy
  · intro h
    exact ⟨x, h, rfl⟩
theorem kInT_ok : CmpOk κ .In kInT := fun f π σ s V W v w Q R xa xb h => by
  obtain ⟨i, rfl, h₁⟩ := asStr_v h
  obtain ⟨l, rfl, h₂⟩ := asTup_v h₁
  obtain ⟨ls, hl, q⟩ := opt_v h₂
  obtain ⟨t, rfl⟩ := xa
  obtain ⟨x, vs, n, rfl, ho, r⟩ := xb
  refine in_tuple_strs (items := vs.toArray) (ys := ls.map fun x => (⟨x.toArray⟩ : Str)) ⟨_, R.c.hz _ _ ho, rfl, _, rfl⟩ (strs_are r hl) ⟨_, _, q, ?_, rfl⟩
  rw [any_eq]
/-- is, for what we ask it -/
inductive IsV : V → V → Bool → Prop
  | nn : IsV .none .none true
  | rr (a) : IsV (.raw a) (.raw a) true
  | rs (a l) : IsV (.raw a) (.str l) false
  | sr (a l) : IsV (.str l) (.raw a) false
  | sn (l) : IsV (.str l) .none false
  | ln (l) : IsV (.lst l) .none false
noncomputable def kIs (x y : V) (σ : T) (Q : Bool → Prop) : Prop := ∃ t, IsV x y t ∧ Q t
noncomputable def kIsNot (x y : V) (σ : T) (Q : Bool → Prop) : Prop := ∃ t, IsV x y t ∧ Q (!t)
theorem isV_sound {A : Around} {V W : Mine.V} {v w : Value} {b : Bool} (P : Value → Prop) (x : VRel κ.D π V v) (y : VRel κ.D π W w) (e : IsV V W b) :
    (P (.bool b) → wpAny (Mo κ) A (compareOp .Is v w) (fun r s' => P r ∧ s' = s) noE s) ∧ (P (.bool (!b)) → wpAny (Mo κ) A (compareOp .IsNot v w) (fun r s' => P r ∧ s' = s) noE s) := by
  cases e with
  | nn => cases (show v = .none from x); cases (show w = .none from y); exact ⟨fun h => is_none_none ⟨h, rfl⟩, fun h => isnot_none_none ⟨h, rfl⟩⟩
  | rr a => cases (show v = .ref a from x); cases (show w = .ref a from y); exact ⟨fun h => wpAny_is_ref_self ⟨h, rfl⟩, fun h => wpAny_isNot_ref_self ⟨h, rfl⟩⟩
  | rs a l => cases (show v = .ref a from x); obtain ⟨t, rfl⟩ := y; exact ⟨fun h => wpAny_is_plain rfl ⟨h, rfl⟩, fun h => wpAny_isNot_plain rfl ⟨h, rfl⟩⟩
  | sr a l => obtain ⟨t, rfl⟩ := x; cases (show w = .ref a from y); exact ⟨fun h => wpAny_is_plain rfl ⟨h, rfl⟩, fun h => wpAny_isNot_plain rfl ⟨h, rfl⟩⟩
  | sn l => obtain ⟨t, rfl⟩ := x; cases (show w = .none from y); exact ⟨fun h => is_str_none ⟨h, rfl⟩, fun h => isnot_str_none ⟨h, rfl⟩⟩
  | ln l => obtain ⟨a, vs, n, rfl, _⟩ := x; cases (show w = .none from y); exact ⟨fun h => is_ref_none ⟨h, rfl⟩, fun h => isnot_ref_none ⟨h, rfl⟩⟩
theorem kIs_ok : CmpOk κ .Is kIs := fun f π σ s V W v w Q R xa xb ⟨t, h, q⟩ => calm ((isV_sound (fun r => ∃ t, Q t ∧ r = .bool t) xa xb h).1 ⟨t, q, rfl⟩) fun r s' ⟨⟨t, q, e⟩, e'⟩ => ⟨t, s.toks, q, e, e'⟩
theorem kIsNot_ok : CmpOk κ .IsNot kIsNot := fun f π σ s V W v w Q R xa xb ⟨t, h, q⟩ => calm ((isV_sound (fun r => ∃ t, Q t ∧ r = .bool t) xa xb h).2 ⟨_, q, rfl⟩) fun r s' ⟨⟨t, q, e⟩, e'⟩ => ⟨t, s.toks, q, e, e'⟩
-- == of data
mutual
noncomputable def toPy : V → PyData
  | .bool b => .bool b
  | .int i => .int i
  | .str l => .str ⟨l.toArray⟩
  | .tup l => .tuple (toPys l)
  | .lst l => .list (toPys l)
  | _ => .none
noncomputable def toPys : List V → List PyData
  | [] => []
  | v :: r => toPy v :: toPys r
end
noncomputable def eqV (a b : V) : Bool := PyData.eqv (toPy a) (toPy b)
noncomputable def eqOk (a b : V) : Prop := (dataV a = true ∧ dataV b = true) ∧ ((toPy a).canLay0 = true ∧ (toPy b).canLay0 = true) ∧ (toPy a).depth ≤ 60
mutual
theorem VRel.reads {D : GD} {h : Heap} (hk : ∀ a o, π.fz a = some o → h.get? a = some o) : ∀ (V : V) (v : Value), VRel D π V v → dataV V = true → ∃ as, Reads h v (toPy V) as
  | .none, v, x, _ => by cases (show v = .none from x); exact ⟨_, .none⟩
  | .bool b, v, x, _ => by cases (show v = .bool b from x); exact ⟨_, .bool b⟩
  | .int i, v, x, _ => by obtain ⟨t, rfl⟩ := x; exact ⟨_, .int i t⟩
  | .str l, v, x, _ => by obtain ⟨t, rfl⟩ := x; exact ⟨_, .str _ t⟩
  | .tup l, v, x, d => by
    obtain ⟨a, vs, n, rfl, ho, r⟩ := x
    obtain ⟨as, z⟩ := VRels.reads hk l vs r d
    exact ⟨_, .tuple (hk _ _ ho) rfl rfl z⟩
  | .lst l, v, x, d => by
    obtain ⟨a, vs, n, rfl, ho, r⟩ := x
    obtain ⟨as, z⟩ := VRels.reads hk l vs r d
    exact ⟨_, .list (hk _ _ ho) rfl rfl z⟩
  | .dic _, _, _, e | .dit _, _, _, e | .rng _ _ _, _, _, e | .ref _, _, _, e | .bm _, _, _, e | .hdr, _, _, e | .hl, _, _, e | .pat _, _, _, e | .raw _, _, _, e => by cases e
theorem VRels.reads {D : GD} {h : Heap} (hk : ∀ a o, π.fz a = some o → h.get? a = some o) : ∀ (l : List V) (vs : List Value), VRels D π l vs → dataVs l = true → ∃ as, ReadsAll h vs (toPys l) as
  | [], vs, x, _ => by cases (show vs = [] from x); exact ⟨_, .nil⟩
  | a :: r, vs, x, d => by
    obtain ⟨v, q, rfl, hv, hr⟩ := x
    obtain ⟨d1, d2⟩ := Bool.and_eq_true_iff.mp d
    obtain ⟨as, z⟩ := VRel.reads hk a v hv d1
    obtain ⟨bs, y⟩ := VRels.reads hk r q hr d2
    exact ⟨_, .cons z y⟩
end
theorem AOk.cline {A : Around} {n : Nat} (ao : AOk A n) : A.units + 64 < cLine := by
  have := ao.un
  have e : cLine = 9900 := rfl
  omega
noncomputable def kEqD (x y : V) (σ : T) (Q : Bool → Prop) : Prop := eqOk x y ∧ Q (eqV x y)
noncomputable def kNeD (x y : V) (σ : T) (Q : Bool → Prop) : Prop := eqOk x y ∧ Q (!eqV x y)
theorem eq_read (R : Rel f π σ s) {x y : V} {v w : Value} (ok : eqOk x y) (xa : VRel κ.D π x v) (xb : VRel κ.D π y w) : ∃ as bs, Reads s.heap v (toPy x) as ∧ Reads s.heap w (toPy y) bs ∧ f.A.units + min (toPy x).depth (toPy y).depth < cLine :=
  let ⟨as, ra⟩ := VRel.reads R.c.hz x v xa ok.1.1
  let ⟨bs, rb⟩ := VRel.reads R.c.hz y w xb ok.1.2
  ⟨as, bs, ra, rb, Nat.lt_of_le_of_lt (Nat.add_le_add_left (Nat.le_trans (Nat.min_le_left _ _) (Nat.le_trans ok.2.2 (by decide : 60 ≤ 64))) _) f.ok.ao.cline⟩
theorem kEqD_ok : CmpOk κ .Eq kEqD := fun f π σ s V W v w Q R xa xb h =>
  let ⟨as, bs, ra, rb, hu⟩ := eq_read R h.1 xa xb
  PySem.SeqAt.compareEq_reads ra rb h.1.2.1.1 h.1.2.1.2 hu ⟨_, _, h.2, rfl, rfl⟩
theorem kNeD_ok : CmpOk κ .NotEq kNeD := fun f π σ s V W v w Q R xa xb h =>
  let ⟨as, bs, ra, rb, hu⟩ := eq_read R h.1 xa xb
  PySem.SeqAt.compareNe_reads ra rb h.1.2.1.1 h.1.2.1.2 hu ⟨_, _, h.2, rfl, rfl⟩
end
end

section
open PySem PySem.Calls PyProof.Rows PySem.W

section
variable {κ : Kx} {f : Fr κ} {π π' : Pl} {σ σ' : T} {s s' : Shared}

-- truth
/-- only the counter moved -/
noncomputable def Tk (s s' : Shared) : Prop := ∃ tk, s' = { s with toks := tk } ∧ 0 < tk
/-- what a value's truth means -/
noncomputable def TruOk (κ : Kx) (C : V → T → (Bool → Prop) → Prop) : Prop := ∀ (f : Fr κ) π σ s V v (Q : Bool → Prop), Rel f π σ s → VRel κ.D π V v → C V σ Q → Ok f (truthy v) (fun b s' => Q b ∧ Tk s s') s
noncomputable def tru (C : V → T → (Bool → Prop) → Prop) (a : PE) : PB := fun σ Q => a σ fun x σ => C x σ fun t => Q t σ
theorem tru_run {C : V → T → (Bool → Prop) → Prop} {e : Expr} {a : PE} (hC : TruOk κ C) (he : SE κ e a) (R : Rel f π σ s) {Q : Bool → T → Prop} (h : tru C a σ Q) : Ok f (eval e f.env) (fun v s₁ => Ok f (truthy v) (PostB f π Q) s₁) s :=
  thenV (he.run f π σ s _ R h) fun V v σ₁ π₁ s₁ q R₁ x₁ e₁ => calm (hC f π₁ σ₁ s₁ V v _ R₁ x₁ q) fun b s' ⟨q, tk, e, ht⟩ => e ▸ ⟨σ₁, π₁, q, R₁.toks ht, e₁⟩
/-- a value as a test -/
theorem rTru {C : V → T → (Bool → Prop) → Prop} {e : Expr} {a : PE} (hC : TruOk κ C) (he : SE κ e a) (hf : ∀ env : Env, PySem.isTrue e env (eval e env) = (do let v ← eval e env; standAt e.pos; holding [v] (truthy v)) := by intro; rfl) : SB κ e (tru C a) := .mk fun f π σ s Q R h =>
  wpAny_isTrue_value (tru_run hC he R h) (hf _)
noncomputable def uBool (x : V) (σ : T) (Q : Bool → Prop) : Prop := asBool x Q
noncomputable def uInt (x : V) (σ : T) (Q : Bool → Prop) : Prop := asInt x fun i => Q (decide (i ≠ 0))
noncomputable def uStr (x : V) (σ : T) (Q : Bool → Prop) : Prop := asStr x fun l => l.length ≤ big ∧ Q (!l.isEmpty)
noncomputable def uLst (x : V) (σ : T) (Q : Bool → Prop) : Prop := asLst σ x fun l => l.length ≤ big ∧ Q (!l.isEmpty)
noncomputable def uNone (x : V) (σ : T) (Q : Bool → Prop) : Prop := x = .none ∧ Q false
theorem uBool_ok : TruOk κ uBool := fun f π σ s V v Q R x h => by
  obtain ⟨b, rfl, q⟩ := asBool_v h
  cases (show v = .bool b from x)
  exact wpAny_truthy_bool ⟨q, s.toks, rfl, R.c.tk⟩
theorem uNone_ok : TruOk κ uNone := fun f π σ s V v Q R x ⟨e, q⟩ => by
  subst e
  cases (show v = .none from x)
  exact truthy_none ⟨q, s.toks, rfl, R.c.tk⟩
theorem uInt_ok : TruOk κ uInt := fun f π σ s V v Q R x h => by
  obtain ⟨i, rfl, q⟩ := asInt_v h
  obtain ⟨t, rfl⟩ := x
  refine truthy_int ⟨?_, s.toks, rfl, R.c.tk⟩
  rw [show (i != 0) = decide (i ≠ 0) from Bool.eq_iff_iff.mpr (bne_iff_ne.trans decide_eq_true_iff.symm)]
  exact q
theorem uStr_ok : TruOk κ uStr := fun f π σ s V v Q R x h => by
  obtain ⟨l, rfl, z, q⟩ := asStr_v h
  obtain ⟨t, rfl⟩ := x
  refine PySem.P.truthy_str (by rw [str_len]; have := big_fits z; omega) ⟨?_, _, rfl, Nat.succ_pos _⟩
  rw [str_len, beqE]; exact q
theorem uLst_ok : TruOk κ uLst := fun f π σ s V v Q R x h => by
  obtain ⟨l, b, vs, n, rfl, ho, r, z, q⟩ := lst_at R x h
  refine wpAny_truthy_list (items := vs.toArray) ⟨_, ho, rfl, _, rfl⟩ (big_fits (by rw [List.size_toArray, r.length]; exact z)) ⟨?_, _, rfl, Nat.succ_pos _⟩
  rw [r.isEmpty]; exact q

-- tests
noncomputable def tNot (c : PB) : PB := fun σ Q => c σ fun b σ => Q (!b) σ
theorem rNot {e : Expr} {p : Pos} {c : PB} (hc : SB κ e c) : SB κ (.UnaryOp .Not e p) (tNot c) := .mk fun f π σ s Q R h =>
  wpAny_isTrue_Not (thenB (hc.run f π σ s _ R h) fun b σ₁ π₁ s₁ q R₁ e₁ => ⟨σ₁, π₁, q, R₁, e₁⟩)
/-- a chain of tests -/
noncomputable def SBs (κ : Kx) (op : BoolOp) (es : List Expr) (P : PB) : Prop := ∀ (f : Fr κ) π σ s Q, Rel f π σ s → P σ Q → Ok f (allTrue op es f.env) (PostB f π Q) s
noncomputable def tAnd (a b : PB) : PB := fun σ Q => a σ fun t σ => br t (b σ Q) (Q false σ)
noncomputable def tOr (a b : PB) : PB := fun σ Q => a σ fun t σ => br t (Q true σ) (b σ Q)
/-- the first is true: the second is not asked -/
noncomputable def tOrT (a : PB) : PB := fun σ Q => a σ fun t σ => t = true ∧ Q true σ
theorem allTrue_cons {M : Model} {A : Around} {op : BoolOp} {e : Expr} {r : List Expr} {env : Env} {Q : Bool → Shared → Prop} (h : wpAny M A (PySem.isTrue e env (eval e env)) (fun b s₁ => wpAny M A (match op, b with | .And, false => pure false | .Or, true => pure true | _, _ => allTrue op r env) Q noE s₁) noE s) : wpAny M A (allTrue op (e :: r) env) Q noE s := by
  show wpAny M A (do match op, ← PySem.isTrue e env (eval e env) with | .And, false => pure false | .Or, true => pure true | _, _ => allTrue op r env) _ _ s
  exact wpAny_bind h
theorem rAnd {x y : Expr} {p : Pos} {a b : PB} (ha : SB κ x a) (hb : SB κ y b) : SB κ (.BoolOp .And [x, y] p) (tAnd a b) := .mk fun f π σ s Q R h =>
  wpAny_isTrue_BoolOp (allTrue_cons (thenB (ha.run f π σ s _ R h) fun t σ₁ π₁ s₁ q R₁ e₁ => by
    cases t
    · exact wpAny_pure ⟨σ₁, π₁, q, R₁, e₁⟩
    · refine allTrue_cons (thenB (hb.run f π₁ σ₁ s₁ _ R₁ q) fun t σ₂ π₂ s₂ q R₂ e₂ => ?_)
      cases t <;> exact wpAny_pure ⟨σ₂, π₂, q, R₂, e₁.trans e₂⟩))
theorem rOr {x y : Expr} {p : Pos} {a b : PB} (ha : SB κ x a) (hb : SB κ y b) : SB κ (.BoolOp .Or [x, y] p) (tOr a b) := .mk fun f π σ s Q R h =>
  wpAny_isTrue_BoolOp (allTrue_cons (thenB (ha.run f π σ s _ R h) fun t σ₁ π₁ s₁ q R₁ e₁ => by
    cases t
    · refine allTrue_cons (thenB (hb.run f π₁ σ₁ s₁ _ R₁ q) fun t σ₂ π₂ s₂ q R₂ e₂ => ?_)
      cases t <;> exact wpAny_pure ⟨σ₂, π₂, q, R₂, e₁.trans e₂⟩
    · exact wpAny_pure ⟨σ₁, π₁, q, R₁, e₁⟩))
theorem rOrT {x : Expr} {r : List Expr} {p : Pos} {a : PB} (ha : SB κ x a) : SB κ (.BoolOp .Or (x :: r) p) (tOrT a) := .mk fun f π σ s Q R h =>
  wpAny_isTrue_BoolOp (allTrue_cons (thenB (ha.run f π σ s _ R h) fun t σ₁ π₁ s₁ q R₁ e₁ => by
    cases q.1
    exact wpAny_pure ⟨σ₁, π₁, q.2, R₁, e₁⟩))
/-- not, as a value -/
noncomputable def pNot (C : V → T → (Bool → Prop) → Prop) (a : PE) : PE := fun σ Q => a σ fun x σ => C x σ fun t => Q (.bool !t) σ
theorem rNotV {C : V → T → (Bool → Prop) → Prop} {e : Expr} {p : Pos} {a : PE} (hC : TruOk κ C) (he : SE κ e a) : SE κ (.UnaryOp .Not e p) (pNot C a) := .mk fun f π σ s Q R h =>
  wpAny_UnaryOp (thenV (he.run f π σ s _ R h) fun V v σ₁ π₁ s₁ q R₁ x₁ e₁ => not_of (calm (hC f π₁ σ₁ s₁ V v _ R₁ x₁ q) fun b s' ⟨q, tk, e, ht⟩ => e ▸ ⟨_, σ₁, π₁, q, R₁.toks ht, rfl, e₁⟩))
/-- and, as a value, the first a bool -/
noncomputable def pAnd (a b : PE) : PE := fun σ Q => a σ fun x σ => asBool x fun t => br t (b σ Q) (Q (.bool false) σ)
theorem rAndV {x y : Expr} {p : Pos} {a b : PE} (ha : SE κ x a) (hb : SE κ y b) : SE κ (.BoolOp .And [x, y] p) (pAnd a b) := .mk fun f π σ s Q R h => by
  show wpAny _ _ (do
    let v ← eval x f.env
    standAt p
    let t ← holding [v] (truthy v)
    match BoolOp.And, t with
    | .And, false | .Or, true => pure v
    | _, _ => boolOp p .And [eval y f.env]) _ _ s
  refine wpAny_bind (thenV (ha.run f π σ s _ R h) fun V v σ₁ π₁ s₁ q R₁ x₁ e₁ => wpAny_bind (wpAny_standAt (wpAny_bind (wpAny_holding ?_))))
  obtain ⟨t, rfl, q⟩ := asBool_v q
  cases (show v = .bool t from x₁)
  refine wpAny_truthy_bool ?_
  cases t
  · exact wpAny_pure ⟨_, σ₁, π₁, q, R₁, x₁, e₁⟩
  · exact calm (hb.run f π₁ σ₁ s₁ _ R₁ q) fun _ _ => .from e₁
noncomputable def pIfE (c : PB) (a b : PE) : PE := fun σ Q => c σ fun t σ => br t (a σ Q) (b σ Q)
theorem rIfE {c x y : Expr} {p : Pos} {t : PB} {a b : PE} (hc : SB κ c t) (ha : SE κ x a) (hb : SE κ y b) : SE κ (.IfExp c x y p) (pIfE t a b) := .mk fun f π σ s Q R h =>
  wpAny_IfExp (thenB (hc.run f π σ s _ R h) fun t σ₁ π₁ s₁ q R₁ e₁ => by
    cases t
    · exact calm (hb.run f π₁ σ₁ s₁ _ R₁ q) fun _ _ => .from e₁
    · exact calm (ha.run f π₁ σ₁ s₁ _ R₁ q) fun _ _ => .from e₁)

-- tuples, lists
/-- what a row of expressions means -/
structure SEs (κ : Kx) (es : List Expr) (P : PEs) : Prop where
  run : ∀ (f : Fr κ) π σ s Q pos, Rel f π σ s → P σ Q → Ok f (spliced (backTo pos (starEach es f.env))) (PostL f π (fun l σ => l.length = es.length ∧ Q l σ)) s
noncomputable def pNil : PEs := fun σ Q => Q [] σ
noncomputable def pCons (a : PE) (r : PEs) : PEs := fun σ Q => a σ fun v σ => r σ fun vs σ => Q (v :: vs) σ
theorem rNil : SEs κ [] pNil := .mk fun f π σ s Q pos R h => PySem.Calls.spliced_nil ⟨[], σ, π, ⟨rfl, h⟩, R, .nil, .refl π⟩
theorem rCons {e : Expr} {r : List Expr} {a : PE} {b : PEs} (ha : SE κ e a) (hb : SEs κ r b) (he : ∀ env : Env, starEach (e :: r) env = (false, eval e env) :: starEach r env := by intro; rfl) : SEs κ (e :: r) (pCons a b) := .mk fun f π σ s Q pos R h => by
  rw [he]
  exact PySem.Calls.spliced_cons (thenV (ha.run f π σ s _ R h) fun V v σ₁ π₁ s₁ q R₁ x₁ e₁ => thenL (hb.run f π₁ σ₁ s₁ _ pos R₁ q) fun l vs σ₂ π₂ s₂ q R₂ x₂ e₂ => ⟨V :: l, σ₂, π₂, ⟨congrArg Nat.succ q.1, q.2⟩, R₂, .cons (x₁.le e₂) x₂, e₁.trans e₂⟩)
noncomputable def pTup (a : PEs) : PE := fun σ Q => a σ fun l σ => Q (.tup l) σ
theorem few {n : Nat} (h : n ≤ 64) : n ≤ sizeLine := by rw [← big_is]; exact Nat.le_trans h (by decide)
theorem rTup {es : List Expr} {k : Nat} {p : Pos} {a : PEs} (ha : SEs κ es a) (hn : es.length ≤ 64 := by exact Nat.le_of_ble_eq_true rfl) : SE κ (.Tuple es k p) (pTup a) := .mk fun f π σ s Q R h =>
  wpAny_Tuple (thenL (ha.run f π σ s _ _ R h) fun l vs σ₁ π₁ s₁ q R₁ x₁ e₁ => ⟨by rw [x₁.length, q.1]; exact few hn, .from e₁ (.tup (n := 0) R₁ x₁ q.2)⟩)
/-- a list that nobody changes -/
noncomputable def pLst (a : PEs) : PE := fun σ Q => a σ fun l σ => Q (.lst l) σ
theorem rLst {es : List Expr} {p : Pos} {a : PEs} (ha : SEs κ es a) (hn : es.length ≤ 64 := by exact Nat.le_of_ble_eq_true rfl) : SE κ (.List es p) (pLst a) := .mk fun f π σ s Q R h =>
  wpAny_List (thenL (ha.run f π σ s _ p R h) fun l vs σ₁ π₁ s₁ q R₁ x₁ e₁ => ⟨by rw [x₁.length, q.1]; exact few hn, .from e₁ (.lst (n := 0) R₁ x₁ q.2)⟩)
/-- a list of the frame's own -/
noncomputable def pNew (a : PEs) : PE := fun σ Q => a σ fun l σ => Q (.ref σ.objs.length) ⟨σ.ls, σ.objs ++ [l], σ.hd⟩
theorem rNew {es : List Expr} {p : Pos} {a : PEs} (ha : SEs κ es a) (hn : es.length ≤ 64 := by exact Nat.le_of_ble_eq_true rfl) : SE κ (.List es p) (pNew a) := .mk fun f π σ s Q R h =>
  wpAny_List (thenL (ha.run f π σ s _ p R h) fun l vs σ₁ π₁ s₁ q R₁ x₁ e₁ => ⟨by rw [x₁.length, q.1]; exact few hn, by
    obtain ⟨R₂, e₂⟩ := R₁.newObj (n := 0) x₁
    refine ⟨.ref σ₁.objs.length, _, _, q.2, R₂, ⟨_, ?_, rfl⟩, e₁.trans e₂⟩
    show (π₁.ρ ++ [_])[_]? = _
    rw [← R₁.len, List.getElem?_append_right (Nat.le_refl _), Nat.sub_self]
    rfl⟩)

-- len
theorem size_is {vs : List Value} {l : List V} (r : VRels κ.D π l vs) : vs.toArray.size = l.length := by rw [List.size_toArray, r.length]

-- items
/-- what value[index] means -/
noncomputable def ItmOk (κ : Kx) (C : V → Int → T → (V → Prop) → Prop) : Prop := ∀ (f : Fr κ) π σ s V v (k : Int) t (Q : Mine.V → Prop) (value slice : Expr), Rel f π σ s → VRel κ.D π V v → C V k σ Q → (∀ o i, subscripted slice false o i = operate [o, i] (getItem o i)) →
  Ok f (subscriptTail value slice v (.int k t)) (fun r s' => (∃ W, Q W ∧ VRel κ.D π W r) ∧ Tk s s') s
noncomputable def pItm (C : V → Int → T → (V → Prop) → Prop) (a i : PE) : PE := fun σ Q => a σ fun x σ => i σ fun y σ => asInt y fun k => (-(2 ^ 62) < k ∧ k < 2 ^ 62) ∧ C x k σ fun w => Q w σ
theorem rItm {C : V → Int → T → (V → Prop) → Prop} {v i : Expr} {p : Pos} {a b : PE} (hC : ItmOk κ fun x k σ Q => (-(2 ^ 62) < k ∧ k < 2 ^ 62) ∧ C x k σ Q) (ha : SE κ v a) (hb : SE κ i b) (hs : ∀ o j, subscripted i false o j = operate [o, j] (getItem o j) := by intros; rfl) : SE κ (.Subscript v i p) (pItm C a b) := .mk fun f π σ s Q R h =>
  Subscript_ (thenV (ha.run f π σ s _ R h) fun V v σ₁ π₁ s₁ q R₁ x₁ e₁ => thenV (hb.run f π₁ σ₁ s₁ _ R₁ q) fun W w σ₂ π₂ s₂ q R₂ x₂ e₂ => by
    obtain ⟨k, rfl, q⟩ := asInt_v q
    obtain ⟨t, rfl⟩ := x₂
    refine calm (hC f π₂ σ₂ s₂ V v k t _ _ _ R₂ (x₁.le e₂) q hs) fun r s' z => ?_
    obtain ⟨⟨W, q, x⟩, tk, rfl, ht⟩ := z
    exact ⟨W, σ₂, π₂, q, R₂.toks ht, x, e₁.trans e₂⟩)
theorem seqIndex_is {k : Int} {n j : Nat} (h : seqIndex? k n = some j) : (0 ≤ k ∧ j = k.toNat) ∨ (k < 0 ∧ -(n : Int) ≤ k ∧ j = (k + n).toNat) := by
  unfold seqIndex? at h
  by_cases k0 : k < 0
  · simp only [k0, if_true] at h
    split at h
    · rename_i hc
      simp only [Bool.and_eq_true, decide_eq_true_eq] at hc
      exact .inr ⟨k0, by omega, (Option.some.inj h).symm⟩
    · cases h
  · simp only [k0, if_false] at h
    split at h
    · exact .inl ⟨by omega, (Option.some.inj h).symm⟩
    · cases h
/-- the place that an index means -/
noncomputable def ix {α : Type} (l : List α) (k : Int) (K : α → Prop) : Prop := opt ((seqIndex? k l.length).bind (l[·]?)) K
theorem ix_v {α : Type} {l : List α} {k : Int} {K : α → Prop} (h : ix l k K) : ∃ j a, seqIndex? k l.length = some j ∧ l[j]? = some a ∧ K a := by
  obtain ⟨a, h, q⟩ := opt_v h
  obtain ⟨j, hj, e⟩ := Option.bind_eq_some_iff.mp h
  exact ⟨j, a, hj, e, q⟩
noncomputable def iStr (x : V) (k : Int) (σ : T) (Q : V → Prop) : Prop := asStr x fun l => ix l k fun c => Q (.str [c])
noncomputable def iLst (x : V) (k : Int) (σ : T) (Q : V → Prop) : Prop := asLst σ x fun l => ix l k Q
noncomputable def iTup (x : V) (k : Int) (σ : T) (Q : V → Prop) : Prop := asTup x fun l => ix l k Q
theorem fits62 {k : Int} (h : -(2 ^ 62) < k ∧ k < 2 ^ 62) : -(2 ^ 63) ≤ k ∧ k < 2 ^ 63 := by omega
theorem iStr_ok : ItmOk κ fun x k σ Q => (-(2 ^ 62) < k ∧ k < 2 ^ 62) ∧ iStr x k σ Q := fun f π σ s V v k t Q value slice R x ⟨hk, h⟩ hs => by
  obtain ⟨l, rfl, h⟩ := asStr_v h
  obtain ⟨j, c, hj, hc, q⟩ := ix_v h
  obtain ⟨t, rfl⟩ := x
  have hk' := fits62 hk
  refine tail_any (typeIs_str _ _ _) PySem.F.slot_str_getitem.lookup (PySem.P.getItem_str (c := c) ?_ ?_ ⟨⟨.str [c], q, _, rfl⟩, _, rfl, Nat.succ_pos _⟩) (hs _ _)
  · rw [Bool.or_eq_false_iff]
    exact ⟨decide_eq_false (Int.not_lt.mpr hk'.1), decide_eq_false (Int.not_le.mpr hk'.2)⟩
  · rw [str_len, hj]
    exact (List.getElem?_toArray ..).trans hc
theorem iLst_ok : ItmOk κ fun x k σ Q => (-(2 ^ 62) < k ∧ k < 2 ^ 62) ∧ iLst x k σ Q := fun f π σ s V v k t Q value slice R x ⟨hk, h⟩ hs => by
  obtain ⟨l, b, vs, n, rfl, ho, rs, h⟩ := lst_at R x h
  obtain ⟨j, a, hj, ha, q⟩ := ix_v h
  obtain ⟨u, hu, xu⟩ := rs.get ha
  have hL : s.heap.IsList b vs.toArray := ⟨_, ho, rfl, _, rfl⟩
  have hk' := fits62 hk
  refine tail_any hL.typeIs PySem.slot_list_getitem.lookup ?_ (hs _ _)
  have fin : (∃ W, Q W ∧ VRel κ.D π W u) ∧ Tk s s := ⟨⟨a, q, xu⟩, s.toks, rfl, R.c.tk⟩
  have hu' := (List.getElem?_toArray ..).trans hu
  rcases seqIndex_is hj with ⟨h0, rfl⟩ | ⟨h0, h1, rfl⟩
  · exact wpAny_getItem_list hL h0 hk'.2 hu' fin
  · exact wpAny_getItem_list_neg hL h0 (by rw [size_is rs]; exact h1) hk'.1 (by rw [size_is rs]; exact hu') fin
theorem iTup_ok : ItmOk κ fun x k σ Q => (-(2 ^ 62) < k ∧ k < 2 ^ 62) ∧ iTup x k σ Q := fun f π σ s V v k t Q value slice R x ⟨hk, h⟩ hs => by
  obtain ⟨l, rfl, h⟩ := asTup_v h
  obtain ⟨j, a, hj, ha, q⟩ := ix_v h
  obtain ⟨b, vs, n, rfl, ho, rs⟩ := x
  obtain ⟨u, hu, xu⟩ := rs.get ha
  have hk' := fits62 hk
  have hL : IsTup s.heap b vs.toArray := ⟨_, R.c.hz _ _ ho, rfl, _, rfl⟩
  exact tail_any hL.typeIs PyProof.Rows.slot_tuple_getitem.lookup (getItem_tuple hL hk'.1 hk'.2 (j := j) (by rw [size_is rs]; exact hj) ((List.getElem?_toArray ..).trans hu) ⟨⟨a, q, xu⟩, s.toks, rfl, R.c.tk⟩) (hs _ _)
end
end

section
open PySem PySem.Calls PyProof.Rows PySem.W

section
variable {κ : Kx} {f : Fr κ} {π π' : Pl} {σ σ' : T} {s s' : Shared}

-- slices
noncomputable def clip (n : Nat) (i : Int) : Nat := (max 0 (min (if i < 0 then i + n else i) n)).toNat
noncomputable def cutL {α : Type} (l : List α) (lo hi : Option Int) : List α := (l.drop (lo.elim 0 (clip l.length))).take (hi.elim l.length (clip l.length) - lo.elim 0 (clip l.length))
/-- a slice's bound: an int, or none -/
noncomputable def PartOk (v : Value) (p : Option Int) : Prop := ∃ q : Option (Int × Tok), v = partValue q ∧ q.map (·.1) = p
theorem PartOk.is {v : Value} {p : Option Int} (h : PartOk v p) : IsPart v p := by
  obtain ⟨q, rfl, rfl⟩ := h
  cases q with
  | none => exact .none
  | some q => exact .int ..
noncomputable abbrev PO := T → (Option Int → T → Prop) → Prop
inductive PostO {κ : Kx} (f : Fr κ) (π : Pl) (Q : Option Int → T → Prop) (v : Value) (s : Shared) : Prop
  | mk (p : Option Int) (σ : T) (π' : Pl) (q : Q p σ) (R : Rel f π' σ s) (x : PartOk v p) (e : π.le π')
structure SO (κ : Kx) (e : Option Expr) (P : PO) : Prop where
  run : ∀ (f : Fr κ) π σ s Q, Rel f π σ s → P σ Q → Ok f (evalPart e f.env) (PostO f π Q) s
noncomputable def oNo : PO := fun σ Q => Q none σ
noncomputable def oE (a : PE) : PO := fun σ Q => a σ fun v σ => asInt v fun i => Q (some i) σ
theorem rNo : SO κ none oNo := .mk fun f π σ s Q R h => wpAny_pure ⟨none, σ, π, h, R, ⟨none, rfl, rfl⟩, .refl π⟩
theorem rSome {e : Expr} {a : PE} (he : SE κ e a) : SO κ (some e) (oE a) := .mk fun f π σ s Q R h => by
  refine thenV (he.run f π σ s _ R h) fun V v σ₁ π₁ s₁ q R₁ x₁ e₁ => ?_
  obtain ⟨i, rfl, q⟩ := asInt_v q
  obtain ⟨t, rfl⟩ := x₁
  exact ⟨some i, σ₁, π₁, q, R₁, ⟨some (i, t), rfl, rfl⟩, e₁⟩
theorem thenO {t : Sem Value} {Q : Option Int → T → Prop} {R : Value → Shared → Prop} (x : Ok f t (PostO f π Q) s) (k : ∀ p v σ' π' s', Q p σ' → Rel f π' σ' s' → PartOk v p → π.le π' → R v s') : Ok f t R s :=
  calm x fun v s' z => match z with | ⟨p, σ', π', q, r, xx, e⟩ => k p v σ' π' s' q r xx e
theorem clip_is (n : Nat) (i : Int) : clip n i = clipAt n i := rfl
theorem strSlice_plain (lo hi : Option Int) (n : Nat) : Builtin.Str.strSliceIndices lo hi 1 n = (List.range (hi.elim n (clipAt n) - lo.elim 0 (clipAt n))).map (lo.elim 0 (clipAt n) + ·) := by
  have e := sliceBounds_plain lo hi n
  rw [← sliceRange_one (lo.elim 0 (clipAt n)) (hi.elim n (clipAt n))]
  have := congrArg (fun p => sliceRange p.1 p.2.1 p.2.2) e
  rw [← this]
  rfl
theorem clipAt_le (n : Nat) (i : Int) : clipAt n i ≤ n := by
  have := clipAt_cast n i
  omega
theorem picked_is (x : Str) (lo hi : Option Int) : (Builtin.Str.strSliceIndices lo hi 1 x.length).filterMap (x.cps[·]?) = cutL x.cps.toList lo hi := by
  rw [strSlice_plain, pick_run]
  rfl
theorem cut_whole (x : Str) (lo hi : Option Int) (h : (Builtin.Str.strSliceIndices lo hi 1 x.length).length = x.length) : cutL x.cps.toList lo hi = x.cps.toList := by
  rw [strSlice_plain, List.length_map, List.length_range] at h
  have hb : hi.elim x.length (clipAt x.length) ≤ x.length := by cases hi <;> simp only [Option.elim, clipAt_le, Nat.le_refl]
  unfold cutL
  show (x.cps.toList.drop (lo.elim 0 (clipAt x.length))).take (hi.elim x.length (clipAt x.length) - lo.elim 0 (clipAt x.length)) = _
  have hx : x.cps.toList.length = x.length := rfl
  by_cases z : x.length = 0
  · have : x.cps.toList = [] := List.length_eq_zero_iff.mp z
    rw [this, List.drop_nil, List.take_nil]
  · rw [show lo.elim 0 (clipAt x.length) = 0 by omega, show hi.elim x.length (clipAt x.length) = x.length by omega]
    exact List.take_of_length_le (Nat.le_refl _)
theorem cut_len {α : Type} {l : List α} {a b : Option Int} : (cutL l a b).length ≤ l.length := by
  unfold cutL
  rw [List.length_take, List.length_drop]
  exact Nat.le_trans (Nat.min_le_right _ _) (Nat.sub_le _ _)

noncomputable def sliceObj (a b : Value) : Obj := { cls := .type "slice", data := .fields #[a, b, .none] }
/-- what value[lo:hi] means -/
noncomputable def SlcOk (κ : Kx) (C : V → Option Int → Option Int → T → (V → Prop) → Prop) : Prop := ∀ (f : Fr κ) π σ s V v pl pu (vl vu : Value) (Q : Mine.V → T → Prop) (value : Expr) (lo hi : Option Expr) (p : Pos), Rel f π σ s → VRel κ.D π V v → PartOk vl pl → PartOk vu pu → C V pl pu σ (fun w => Q w σ) →
  Ok f (subscriptTail value (.Slice lo hi none p) v (.ref s.heap.objs.size)) (Post f π Q) { s with heap := s.heap.push (sliceObj vl vu) }
noncomputable def pSlc (C : V → Option Int → Option Int → T → (V → Prop) → Prop) (a : PE) (lo hi : PO) : PE := fun σ Q => a σ fun x σ => lo σ fun l σ => hi σ fun u σ => C x l u σ fun w => Q w σ
theorem rSlc {C : V → Option Int → Option Int → T → (V → Prop) → Prop} {v : Expr} {lo hi : Option Expr} {p q : Pos} {a : PE} {b c : PO} (hC : SlcOk κ C) (ha : SE κ v a) (hb : SO κ lo b) (hc : SO κ hi c) : SE κ (.Subscript v (.Slice lo hi none q) p) (pSlc C a b c) := .mk fun f π σ s Q R h =>
  Subscript_ (thenV (ha.run f π σ s _ R h) fun V v σ₁ π₁ s₁ q R₁ x₁ e₁ => wpAny_Slice (thenO (hb.run f π₁ σ₁ s₁ _ R₁ q) fun pl vl σ₂ π₂ s₂ q R₂ x₂ e₂ => thenO (hc.run f π₂ σ₂ s₂ _ R₂ q) fun pu vu σ₃ π₃ s₃ q R₃ x₃ e₃ => wpAny_evalPart_none
    (calm (hC f π₃ σ₃ s₃ V v pl pu vl vu Q _ _ _ _ R₃ (x₁.le (e₂.trans e₃)) x₂ x₃ q) fun _ _ => .from (e₁.trans (e₂.trans e₃)))))
theorem slice_op {lo hi : Option Expr} {p : Pos} (o i : Value) : subscripted (.Slice lo hi none p) false o i = operate [i, o] (getItem o i) := by with_unfolding_all rfl
noncomputable def sLst (x : V) (lo hi : Option Int) (σ : T) (Q : V → Prop) : Prop := asLst σ x fun l => (okVs l = true ∧ l.length ≤ big) ∧ Q (.lst (cutL l lo hi))
noncomputable def sStr (x : V) (lo hi : Option Int) (σ : T) (Q : V → Prop) : Prop := asStr x fun l => l.length ≤ big ∧ Q (.str (cutL l lo hi))
theorem sLst_ok : SlcOk κ sLst := fun f π σ s V v pl pu vl vu Q value lo hi p R x xl xu h => by
  obtain ⟨l, b, vs, n, rfl, ho, rs, ⟨_, hlen⟩, q⟩ := lst_at R x h
  obtain ⟨R₁, e₁⟩ := R.push (sliceObj vl vu)
  have hL : s.heap.IsList b vs.toArray := ⟨_, ho, rfl, _, rfl⟩
  refine tail_any (hL.push _).typeIs PySem.slot_list_getitem.lookup (wpAny_getItem_list_slice (hL.push _) (Heap.IsSliceOf.new ..) xl.is xu.is .none (by decide) ?_ (by rw [size_is rs, ← big_is]; exact hlen)) (slice_op _ _)
  rw [slicePick_plain, size_is rs]
  exact .from e₁ (.lst (n := 0) R₁ (((rs.le e₁).drop (pl.elim 0 (clipAt l.length))).take (pu.elim l.length (clipAt l.length) - pl.elim 0 (clipAt l.length))) q)
theorem sStr_ok : SlcOk κ sStr := fun f π σ s V v pl pu vl vu Q value lo hi p R x xl xu h => by
  obtain ⟨l, rfl, hlen, q⟩ := asStr_v h
  obtain ⟨t, rfl⟩ := x
  obtain ⟨ql, rfl, rfl⟩ := xl
  obtain ⟨qu, rfl, rfl⟩ := xu
  obtain ⟨R₁, e₁⟩ := R.push (sliceObj (partValue ql) (partValue qu))
  refine tail_any (typeIs_str _ _ _) PySem.F.slot_str_getitem.lookup (wpAny_getItem_str_slice (l := ql) (u := qu) (st := none) ⟨_, Heap.get?_push_size _ rfl, rfl, rfl⟩ rfl ?_) (slice_op _ _)
  unfold sliceMade
  split
  · rename_i hc
    have e3 : cutL l (ql.map (·.1)) (qu.map (·.1)) = l := cut_whole ⟨l.toArray⟩ _ _ (eq_of_beq (Bool.and_eq_true_iff.mp hc).2)
    rw [e3] at q
    exact ⟨.str l, σ, _, q, R₁, ⟨_, rfl⟩, e₁⟩
  · rw [show (slicePicked ⟨l.toArray⟩ ql qu none).filterMap ((⟨l.toArray⟩ : Str).cps[·]?) = cutL l (ql.map (·.1)) (qu.map (·.1)) from picked_is ⟨l.toArray⟩ _ _]
    refine ⟨?_, .from e₁ (.tk (V := .str _) R₁ ⟨_, rfl⟩ q (Nat.succ_pos _))⟩
    rw [str_len, ← big_is]
    exact Nat.le_trans cut_len hlen

-- f-strings
/-- the parts' text -/
noncomputable abbrev PJ := List Nat → T → (List Nat → T → Prop) → Prop
structure SJ (κ : Kx) (es : List Expr) (P : PJ) : Prop where
  run : ∀ (f : Fr κ) π σ s Q acc, Rel f π σ s → acc.length ≤ big → P acc σ Q → Ok f (joinParts ⟨acc.toArray⟩ (evalEach es f.env)) (Post f π (fun v σ => asStr v fun l => Q l σ)) s
noncomputable def jNil : PJ := fun acc σ Q => Q acc σ
noncomputable def jLit (l : List Nat) (r : PJ) : PJ := fun acc σ Q => acc.length + l.length ≤ big ∧ r (acc ++ l) σ Q
noncomputable def jVal (a : PE) (r : PJ) : PJ := fun acc σ Q => a σ fun v σ => asStr v fun l => acc.length + l.length ≤ big ∧ r (acc ++ l) σ Q
theorem rJNil : SJ κ [] jNil := .mk fun f π σ s Q acc R hb h => joinParts_nil (.tk (V := .str acc) R ⟨_, rfl⟩ h (Nat.succ_pos _)) (by rw [str_len, ← big_is]; exact hb)
/-- one part -/
theorem part_ok {es : List Expr} {e : Expr} {r : PJ} {acc : List Nat} {Q : List Nat → T → Prop} (hr : SJ κ es r) (he : Ok f (eval e f.env) (Post f π (fun v σ => asStr v fun l => acc.length + l.length ≤ big ∧ r (acc ++ l) σ Q)) s) : Ok f (joinParts ⟨acc.toArray⟩ (evalEach (e :: es) f.env)) (Post f π (fun v σ => asStr v fun l => Q l σ)) s := by
  refine joinParts_cons (thenV he fun V v σ₁ π₁ s₁ q R₁ x₁ e₁ => ?_)
  obtain ⟨l, rfl, q⟩ := asStr_v q
  obtain ⟨t, rfl⟩ := x₁
  dsimp only
  rw [str_append]
  exact ⟨by rw [str_len, List.length_append, ← big_is]; exact q.1, calm (hr.run f π₁ σ₁ s₁ Q _ R₁ (by rw [List.length_append]; exact q.1) q.2) fun _ _ => .from e₁⟩
theorem rJLit {x : Str} {k : Nat} {p : Pos} {es : List Expr} {r : PJ} (l : List Nat) (hl : lit x = l) (hr : SJ κ es r) : SJ κ (.Constant (.str x) k p :: es) (jLit l r) := .mk fun f π σ s Q acc R hb h => by
  subst hl
  exact part_ok hr (by rw [eval_Constant]; exact wpAny_mkText (.tk (V := .str (lit x)) R ⟨_, rfl⟩ h (Nat.succ_pos _)))
theorem field_ok {acc l : List Nat} {t : Tok} {r : PJ} {Q : List Nat → T → Prop} (R : Rel f π σ s) (q : acc.length + l.length ≤ big ∧ r (acc ++ l) σ Q) : Ok f (formatField (strV l t) Str.empty) (Post f π (fun v σ => asStr v fun l => acc.length + l.length ≤ big ∧ r (acc ++ l) σ Q)) s :=
  wpAny_with_toks (n := 1) R.c.tk (formatField_str (fun t' tk htk => .tk (V := .str l) R ⟨_, rfl⟩ q htk) (by rw [str_len, ← big_is]; omega))
theorem rJVal {e : Expr} {p : Pos} {es : List Expr} {a : PE} {r : PJ} (ha : SE κ e a) (hr : SJ κ es r) : SJ κ (.FormattedValue e (-1) none p :: es) (jVal a r) := .mk fun f π σ s Q acc R hb h =>
  part_ok hr (FormattedValue_plain (thenV (ha.run f π σ s _ R h) fun V v σ₁ π₁ s₁ q R₁ x₁ e₁ => by
    obtain ⟨l, rfl, q⟩ := asStr_v q
    obtain ⟨t, rfl⟩ := x₁
    exact calm (field_ok R₁ q) fun _ _ => .from e₁))
theorem rJValS {e : Expr} {p : Pos} {es : List Expr} {a : PE} {r : PJ} (ha : SE κ e a) (hr : SJ κ es r) : SJ κ (.FormattedValue e 115 none p :: es) (jVal a r) := .mk fun f π σ s Q acc R hb h =>
  part_ok hr (wpAny_FormattedValue_s (thenV (ha.run f π σ s _ R h) fun V v σ₁ π₁ s₁ q R₁ x₁ e₁ => by
    obtain ⟨l, rfl, q⟩ := asStr_v q
    obtain ⟨t, rfl⟩ := x₁
    refine wpAny_with_toks (n := 1) R₁.c.tk (PySem.SB.convS_str (fun t' k htk => ?_) (by rw [str_len, ← big_is]; omega))
    exact calm (field_ok (R₁.toks htk) q) fun _ _ => .from e₁))
noncomputable def pJoin (j : PJ) : PE := fun σ Q => j [] σ fun l σ => Q (.str l) σ
theorem rJoin {a b : Expr} {r : List Expr} {p : Pos} {j : PJ} (hj : SJ κ (a :: b :: r) j) : SE κ (.JoinedStr (a :: b :: r) p) (pJoin j) := .mk fun f π σ s Q R h =>
  thenV (hj.run f π σ s _ [] R (Nat.zero_le _) h) fun V v σ₁ π₁ s₁ q R₁ x₁ e₁ => by
    obtain ⟨l, rfl, q⟩ := asStr_v q
    exact ⟨.str l, σ₁, π₁, q, R₁, x₁, e₁⟩

-- statements
noncomputable def pSkip : PS := fun σ Q => Q .nxt σ
noncomputable def pSeq (a b : PS) : PS := fun σ Q => a σ fun fl σ => match fl with
  | .nxt => b σ Q
  | .brk => Q .brk σ
  | .cont => Q .cont σ
  | .ret v => Q (.ret v) σ
theorem rSkip : SSs κ [] pSkip := .mk fun f π σ s Q R h => wpAny_execs_nil ⟨.nxt, σ, π, h, R, rfl, .refl π⟩
theorem rSeq {e : Stmt} {r : List Stmt} {a b : PS} (ha : SS κ e a) (hb : SSs κ r b) : SSs κ (e :: r) (pSeq a b) := .mk fun f π σ s Q R h =>
  wpAny_execs_cons (thenF (ha.run f π σ s _ R h) fun fl w σ₁ π₁ s₁ q R₁ x₁ e₁ => by
    cases fl with
    | nxt => cases (show w = .next from x₁); exact calm (hb.run f π₁ σ₁ s₁ _ R₁ q) fun _ _ => .from e₁
    | brk => cases (show w = .brk from x₁); exact ⟨.brk, σ₁, π₁, q, R₁, rfl, e₁⟩
    | cont => cases (show w = .cont from x₁); exact ⟨.cont, σ₁, π₁, q, R₁, rfl, e₁⟩
    | ret V => obtain ⟨v, rfl, xv⟩ := x₁; exact ⟨.ret V, σ₁, π₁, q, R₁, ⟨v, rfl, xv⟩, e₁⟩)
/-- the last of a block -/
theorem rLast {e : Stmt} {a : PS} (ha : SS κ e a) : SSs κ [e] a := .mk fun f π σ s Q R h =>
  wpAny_execs_cons (thenF (ha.run f π σ s _ R h) fun fl w σ₁ π₁ s₁ q R₁ x₁ e₁ => by
    cases fl with
    | nxt => cases (show w = .next from x₁); exact wpAny_execs_nil ⟨.nxt, σ₁, π₁, q, R₁, rfl, e₁⟩
    | brk => cases (show w = .brk from x₁); exact ⟨.brk, σ₁, π₁, q, R₁, rfl, e₁⟩
    | cont => cases (show w = .cont from x₁); exact ⟨.cont, σ₁, π₁, q, R₁, rfl, e₁⟩
    | ret V => obtain ⟨v, rfl, xv⟩ := x₁; exact ⟨.ret V, σ₁, π₁, q, R₁, ⟨v, rfl, xv⟩, e₁⟩)
noncomputable def pIf (c : PB) (a b : PS) : PS := fun σ Q => c σ fun t σ => br t (a σ Q) (b σ Q)
/-- the test is known: the other block is not asked -/
noncomputable def pIfT (c : PB) (a : PS) : PS := fun σ Q => c σ fun t σ => t = true ∧ a σ Q
noncomputable def pIfF (c : PB) (a : PS) : PS := fun σ Q => c σ fun t σ => t = false ∧ a σ Q
theorem rIf {t : Expr} {x y : List Stmt} {p : Pos} {c : PB} {a b : PS} (hc : SB κ t c) (ha : SSs κ x a) (hb : SSs κ y b) : SS κ (.If t x y p) (pIf c a b) := .mk fun f π σ s Q R h =>
  wpAny_If (thenB (hc.run f π σ s _ R h) fun t σ₁ π₁ s₁ q R₁ e₁ => by
    cases t
    · exact calm (hb.run f π₁ σ₁ s₁ _ R₁ q) fun _ _ => .from e₁
    · exact calm (ha.run f π₁ σ₁ s₁ _ R₁ q) fun _ _ => .from e₁)
theorem rIfT {t : Expr} {x y : List Stmt} {p : Pos} {c : PB} {a : PS} (hc : SB κ t c) (ha : SSs κ x a) : SS κ (.If t x y p) (pIfT c a) := .mk fun f π σ s Q R h =>
  wpAny_If (thenB (hc.run f π σ s _ R h) fun t σ₁ π₁ s₁ q R₁ e₁ => by
    cases q.1
    exact calm (ha.run f π₁ σ₁ s₁ _ R₁ q.2) fun _ _ => .from e₁)
theorem rIfF {t : Expr} {x y : List Stmt} {p : Pos} {c : PB} {a : PS} (hc : SB κ t c) (ha : SSs κ y a) : SS κ (.If t x y p) (pIfF c a) := .mk fun f π σ s Q R h =>
  wpAny_If (thenB (hc.run f π σ s _ R h) fun t σ₁ π₁ s₁ q R₁ e₁ => by
    cases q.1
    exact calm (ha.run f π₁ σ₁ s₁ _ R₁ q.2) fun _ _ => .from e₁)
noncomputable def pRet (a : PE) : PS := fun σ Q => a σ fun v σ => Q (.ret v) σ
theorem rRet {e : Expr} {p : Pos} {a : PE} (ha : SE κ e a) : SS κ (.Return (some e) p) (pRet a) := .mk fun f π σ s Q R h => by
  rw [exec_Return_some]
  exact wpAny_bind (wpAny_standAt (wpAny_bind (thenV (ha.run f π σ s _ R h) fun V v σ₁ π₁ s₁ q R₁ x₁ e₁ => wpAny_pure ⟨.ret V, σ₁, π₁, q, R₁, ⟨v, rfl, x₁⟩, e₁⟩)))
noncomputable def pBrk : PS := fun σ Q => Q .brk σ
theorem rBrk {p : Pos} : SS κ (.Break p) pBrk := .mk fun f π σ s Q R h => wpAny_Break ⟨.brk, σ, π, h, R, rfl, .refl π⟩
noncomputable def pAssert (c : PB) : PS := fun σ Q => c σ fun t σ => t = true ∧ Q .nxt σ
theorem rAssert {t : Expr} {m : Option Expr} {p : Pos} {c : PB} (hc : SB κ t c) : SS κ (.Assert t m p) (pAssert c) := .mk fun f π σ s Q R h =>
  wpAny_Assert_holds (thenB (hc.run f π σ s _ R h) fun t σ₁ π₁ s₁ q R₁ e₁ => ⟨q.1, .nxt, σ₁, π₁, q.2, R₁, rfl, e₁⟩)
theorem rTry {b : List Stmt} {h₀ : ExceptHandler} {hs : List ExceptHandler} {p : Pos} {a : PS} (ha : SSs κ b a) : SS κ (.Try b (h₀ :: hs) [] [] p) a := .mk fun f π σ s Q R h =>
  wpAny_Try_except (wpAny_mono (ha.run f π σ s _ R h) (fun w s₁ z => by
    cases w with
    | next => exact wpAny_execs_nil z
    | _ => exact z) fun _ _ e => e.elim)
/-- an expression that gives none -/
noncomputable def pEx (a : PE) : PS := fun σ Q => a σ fun v σ => v = .none ∧ Q .nxt σ
theorem no_swap {e : Expr} {t : Option Expr} {k : Nat} {env : Env} (h : ∀ env : Env, swapsWith e t k env = pure false) : swapsWith e t k env = pure false := h env
theorem rEx {e : Expr} {p : Pos} {a : PE} (ha : SE κ e a) (hs : ∀ (t : Option Expr) (k : Nat) (env : Env), swapsWith e t k env = pure false := by intros; rfl) : SS κ (.Expr e p) (pEx a) := .mk fun f π σ s Q R h =>
  wpAny_Expr (thenV (ha.run f π σ s _ R h) fun V v σ₁ π₁ s₁ q R₁ x₁ e₁ => by
    obtain ⟨rfl, q⟩ := q
    cases (show v = .none from x₁)
    exact ⟨.nxt, σ₁, π₁, q, R₁, rfl, e₁⟩) (by unfold interactive; rw [f.ok.kind]; rfl) (hs _ _ _)

-- names are stored
theorem store_ok (R : Rel f π σ s) {i : Nat} {x : Str} {V : V} {v : Value} (hi : κ.ns[i]? = some x) (hl : κ.sc.names.lookup x ≠ some .free) (hv : VRel κ.D π V v) {Q : T → Prop} (q : Q ⟨pt σ.ls i (some V), σ.objs, σ.hd⟩) : Ok f (storeName f.env x v) (PostU f π Q) s := by
  obtain ⟨mL, hn, hx⟩ := R.ns
  rcases f.ok.ns x (List.mem_of_getElem? hi) with hk | hk | hk
  · exact wpAny_storeName_local (f.ok.loc x hk) hn (fun h' hn' hs => ⟨_, π, q, R.store hi hk hv hx hn' hn hs (Nat.succ_pos _), .refl π⟩) (by rw [f.ok.kind]; rfl)
  · obtain ⟨hk', c, hc, hcm⟩ := f.ok.cell x hk
    obtain ⟨v₀, h₀⟩ := R.cl c hcm
    exact wpAny_storeName_cell f.ok.kind hk' hc h₀ fun h' hn' hs => ⟨_, π, q, R.storeCell hi hk hc hcm hv hn' hs R.c.tk, .refl π⟩
  · exact absurd hk hl
/-- what storing a value means -/
noncomputable abbrev PA := V → T → (T → Prop) → Prop
structure SA (κ : Kx) (t : Expr) (P : PA) : Prop where
  run : ∀ (f : Fr κ) π σ s V v Q, Rel f π σ s → VRel κ.D π V v → P V σ Q → Ok f (assign t f.env v) (PostU f π Q) s
noncomputable def aVar (i : Nat) : PA := fun v σ Q => Q ⟨pt σ.ls i (some v), σ.objs, σ.hd⟩
theorem rAVar' {x : Str} {p : Pos} (i : Nat) (hi : κ.ns[i]? = some x) (hl : κ.sc.names.lookup x ≠ some .free) : SA κ (.Name x p) (aVar i) := .mk fun f π σ s V v Q R x h => wpAny_assign_Name (store_ok R hi hl x h)
theorem rAVar {x : Str} {p : Pos} (i : Nat) (hi : κ.ns[i]? = some x) (ht : κ.top = true := by rfl) : SA κ (.Name x p) (aVar i) := .mk fun f π σ s V v Q R x h => wpAny_assign_Name (store_ok R hi (f.ok.top ht _ (List.mem_of_getElem? hi)) x h)
/-- names in a row -/
theorem store_list (ht : κ.top = true) : ∀ {ns : List Str} {is : List Nat} {l : List V} {vs : List Value} {σ : T} {s : Shared} {π : Pl} {Q : T → Prop}, Rel f π σ s → VRels κ.D π l vs → is.map (κ.ns[·]?) = ns.map some → Q ⟨pts σ.ls is l, σ.objs, σ.hd⟩ → ns.length = l.length →
    Ok f (assignInOrder (ns.map fun n => bindName f.env n) vs) (PostU f π Q) s
  | [], [], [], vs, σ, s, π, Q, R, x, hi, q, _ => by cases vs <;> exact wpAny_pure ⟨σ, π, q, R, .refl π⟩
  | x :: ns, i :: is, V :: l, vs, σ, s, π, Q, R, xs, hi, q, hl => by
    obtain ⟨v, us, rfl, hv, hr⟩ := xs
    have h0 : κ.ns[i]? = some x := (List.cons.inj hi).1
    refine wpAny_assignInOrder_more (wpAny_bindName (thenU (store_ok (Q := fun σ' => σ' = ⟨pt σ.ls i (some V), σ.objs, σ.hd⟩) R h0 (f.ok.top ht x (List.mem_of_getElem? h0)) hv rfl) fun u σ₁ π₁ s₁ q₁ R₁ e₁ => ?_))
    subst q₁
    exact calm (store_list ht R₁ (hr.le e₁) (List.cons.inj hi).2 q (Nat.succ.inj hl)) fun _ _ => .from e₁
  | [], _ :: _, _, _, _, _, _, _, _, _, hi, _, _ => nomatch hi
  | _ :: _, [], _, _, _, _, _, _, _, _, hi, _, _ => nomatch hi
  | [], [], _ :: _, _, _, _, _, _, _, _, _, _, hl => nomatch hl
  | _ :: _, _ :: _, [], _, _, _, _, _, _, _, _, _, hl => nomatch hl
end
end

section
open PySem PySem.Calls PyProof.Rows PySem.W

noncomputable def nameIds : List Expr → Option (List Str)
  | [] => some []
  | .Name x _ :: r => (nameIds r).map (x :: ·)
  | _ => none
theorem pt_swap {α : Type} {a b : α} : ∀ {l : List α} {i j : Nat}, i ≠ j → pt (pt l i a) j b = pt (pt l j b) i a
  | [], _, _, _ => rfl
  | _ :: _, 0, 0, h => absurd rfl h
  | _ :: _, 0, _ + 1, _ | _ :: _, _ + 1, 0, _ => rfl
  | c :: l, i + 1, j + 1, h => congrArg (c :: ·) (pt_swap (l := l) fun e => h (congrArg _ e))
theorem pts_pt {V : V} {i : Nat} : ∀ {is : List Nat} {l : List Mine.V} {ls : List (Option Mine.V)}, i ∉ is → pts (pt ls i (some V)) is l = pt (pts ls is l) i (some V)
  | [], _, _, _ => by simp only [pts]
  | _ :: _, [], _, _ => rfl
  | j :: is, v :: l, ls, h => by
    show pts (pt (pt ls i _) j _) is l = pt (pts (pt ls j _) is l) i _
    rw [pt_swap (fun e : i = j => h (by rw [e]; exact .head _)), pts_pt fun q => h (.tail _ q)]
theorem pts_app : ∀ {is js : List Nat} {l m : List V} {ls : List (Option V)}, is.length = l.length → pts ls (is ++ js) (l ++ m) = pts (pts ls is l) js m
  | [], _, [], _, _, _ => rfl
  | i :: is, _, v :: l, _, ls, h => pts_app (is := is) (l := l) (Nat.succ.inj h)
  | [], _, _ :: _, _, _, h => nomatch h
  | _ :: _, _, [], _, _, h => nomatch h
theorem pts_rev : ∀ {is : List Nat} {l : List V} {ls : List (Option V)}, is.Nodup → is.length = l.length → pts ls is.reverse l.reverse = pts ls is l
  | [], [], _, _, _ => rfl
  | i :: is, v :: l, ls, h, e => by
    have h' := List.nodup_cons.mp h
    rw [List.reverse_cons, List.reverse_cons, pts_app (by rw [List.length_reverse, List.length_reverse]; exact Nat.succ.inj e), pts_rev h'.2 (Nat.succ.inj e)]
    exact (pts_pt h'.1).symm
  | [], _ :: _, _, _, h => nomatch h
  | _ :: _, [], _, _, h => nomatch h
theorem nameIds_len : ∀ {ts : List Expr} {ns : List Str}, nameIds ts = some ns → ns.length = ts.length
  | [], ns, h => by cases h; rfl
  | t :: ts, ns, h => by
    cases t with
    | Name x p =>
      obtain ⟨ns', h', rfl⟩ := Option.map_eq_some_iff.mp (show (nameIds ts).map (x :: ·) = some ns from h)
      exact congrArg Nat.succ (nameIds_len h')
    | _ => cases h
theorem nameIds_sub (c : Str → Pos → Bool) : ∀ {ts : List Expr} {ns : List Str}, nameIds ts = some ns → (ts.filterMap fun t => match t with | .Name id pos => if c id pos then some id else none | _ => none).Sublist ns
  | [], ns, h => by cases h; exact .slnil
  | t :: ts, ns, h => by
    cases t with
    | Name x p =>
      obtain ⟨ns', h', rfl⟩ := Option.map_eq_some_iff.mp (show (nameIds ts).map (x :: ·) = some ns from h)
      have ih := nameIds_sub c h'
      rw [List.filterMap_cons]
      dsimp only
      split
      · exact ih.cons _
      · rename_i e
        split at e
        · cases e; exact ih.cons_cons _
        · cases e
    | _ => cases h
theorem swapped_is {ts vs : List Expr} {ns : List Str} {k k' : Nat} {p p' : Pos} {env : Env} (hn : nameIds ts = some ns) (hc : (vs.all (foldedForSure 8) || !vs.all (constantsAlone 8)) = true) :
    swappedStores [.Tuple ts k p] (.Tuple vs k' p') env = pure none ∨ swappedStores [.Tuple ts k p] (.Tuple vs k' p') env = pure (some ns) := by
  unfold swappedStores
  dsimp only
  split
  · exact .inl rfl
  · split
    · exact .inl rfl
    · split
      · exact .inl rfl
      · rename_i hl
        split
        · exact .inl rfl
        · split
          · rename_i h1 h2
            rw [Bool.eq_false_iff.mpr h1, h2] at hc
            cases hc
          · refine .inr (congrArg (fun l => (pure (some l) : Sem (Option (List Str)))) ?_)
            refine (nameIds_sub (fun id pos => env.kindOf id == some .local && pos.line == (ts.head?.map (·.pos.line)).getD 0) hn).eq_of_length ?_
            rw [nameIds_len hn]
            have hl' := Bool.eq_false_iff.mpr hl
            rw [Bool.or_eq_false_iff] at hl'
            exact eq_of_beq (Bool.not_eq_false' .. |>.mp hl'.1)

section
variable {κ : Kx} {f : Fr κ} {π π' : Pl} {σ σ' : T} {s s' : Shared}
theorem VRels.rev : ∀ {l : List V} {vs : List Value}, VRels κ.D π l vs → VRels κ.D π l.reverse vs.reverse
  | [], vs, x => by cases (show vs = [] from x); exact .nil
  | a :: l, vs, x => by
    obtain ⟨v, q, rfl, hv, hr⟩ := x
    rw [List.reverse_cons, List.reverse_cons]
    exact (VRels.rev hr).append (.one hv)

theorem PostU.fin {α : Type} {Q : Fl → T → Prop} {u : α} : PostU f π (fun σ => Q .nxt σ) u s → PostF f π Q .next s
  | ⟨σ, π', q, R, e⟩ => ⟨.nxt, σ, π', q, R, rfl, e⟩
theorem assign_plain {M : Model} {A : Around} {E : Value → Shared → Prop} {env : Env} {ts : List Expr} {e : Expr} {p : Pos} {Q : Flow → Shared → Prop} (h1 : swapsWithSole ts e p.line env = pure false) (h2 : swappedStores ts e env = pure none)
    (h : wpAny M A (eval e env) (fun v s₁ => wpAny M A (assignAll v ((assignEach ts env).map (·.2))) (fun _ => Q .next) E s₁) E s) : wpAny M A (exec (.Assign ts e p) env) Q E s := by
  rw [arm_exec_Assign]
  refine wpAny_bind (wpAny_standAt ?_)
  rw [h1]
  refine wpAny_bind (wpAny_pure ?_)
  rw [if_neg (by decide)]
  refine wpAny_bind (wpAny_mono h (fun v s₁ h₁ => ?_) fun _ _ x => x)
  rw [h2]
  refine wpAny_bind (wpAny_pure ?_)
  show wpAny M A (do assignAll v ((assignEach ts env).map (·.2)); pure .next) Q E s₁
  exact wpAny_bind (wpAny_mono h₁ (fun _ _ x => wpAny_pure x) fun _ _ x => x)

noncomputable def pAsg (a : PE) (P : PA) : PS := fun σ Q => a σ fun v σ => P v σ fun σ => Q .nxt σ
theorem rAsg {t e : Expr} {p : Pos} {a : PE} {P : PA} (he : SE κ e a) (ht : SA κ t P) (h1 : ∀ (l : Nat) (env : Env), swapsWithSole [t] e l env = pure false := by intros; rfl) (h2 : ∀ env : Env, swappedStores [t] e env = pure none := by intros; rfl)
    (h3 : ∀ env : Env, (assignEach [t] env).map (·.2) = [assign t env] := by intros; rfl) : SS κ (.Assign [t] e p) (pAsg a P) := .mk fun f π σ s Q R h =>
  assign_plain (h1 _ _) (h2 _) (thenV (he.run f π σ s _ R h) fun V v σ₁ π₁ s₁ q R₁ x₁ e₁ => by
    rw [h3]
    show Ok f (assign t f.env v) _ s₁
    exact calm (ht.run f π₁ σ₁ s₁ V v _ R₁ x₁ q) fun _ _ z => .from e₁ z.fin)
/-- two names at once -/
noncomputable def pAsg2 (a : PE) (P P' : PA) : PS := fun σ Q => a σ fun v σ => P v σ fun σ => P' v σ fun σ => Q .nxt σ
theorem rAsg2 {t t' e : Expr} {p : Pos} {a : PE} {P P' : PA} (he : SE κ e a) (ht : SA κ t P) (ht' : SA κ t' P') (h1 : ∀ (l : Nat) (env : Env), swapsWithSole [t, t'] e l env = pure false := by intros; rfl) (h2 : ∀ env : Env, swappedStores [t, t'] e env = pure none := by intros; rfl)
    (h3 : ∀ env : Env, (assignEach [t, t'] env).map (·.2) = [assign t env, assign t' env] := by intros; rfl) : SS κ (.Assign [t, t'] e p) (pAsg2 a P P') := .mk fun f π σ s Q R h =>
  assign_plain (h1 _ _) (h2 _) (thenV (he.run f π σ s _ R h) fun V v σ₁ π₁ s₁ q R₁ x₁ e₁ => by
    rw [h3]
    show Ok f (do holding [v] (assign t f.env v); assign t' f.env v) _ s₁
    exact wpAny_bind (wpAny_holding (thenU (ht.run f π₁ σ₁ s₁ V v _ R₁ x₁ q) fun u σ₂ π₂ s₂ q R₂ e₂ => calm (ht'.run f π₂ σ₂ s₂ V v _ R₂ (x₁.le e₂) q) fun _ _ z => .from (e₁.trans e₂) z.fin)))

-- a tuple to names
theorem names_len {env : Env} : ∀ {ts : List Expr} {ns : List Str}, nameIds ts = some ns → (assignEach ts env).length = ts.length ∧ (assignEach ts env).findIdx? (·.1) = none
  | [], _, _ => ⟨rfl, rfl⟩
  | t :: ts, ns, h => by
    cases t with
    | Name x p =>
      obtain ⟨ns', h', rfl⟩ := Option.map_eq_some_iff.mp (show (nameIds ts).map (x :: ·) = some ns from h)
      obtain ⟨a, b⟩ := names_len (env := env) h'
      refine ⟨congrArg Nat.succ a, ?_⟩
      show List.findIdx? (·.1) ((false, assign (.Name x p) env) :: assignEach ts env) = none
      rw [List.findIdx?_cons, b]; rfl
    | _ => cases h
theorem names_go : ∀ {ts : List Expr} {ns : List Str} {is : List Nat} {l : List V} {vs : List Value} {σ : T} {s : Shared} {π : Pl} {Q : T → Prop}, (∀ x ∈ ns, κ.sc.names.lookup x ≠ some .free) → nameIds ts = some ns → Rel f π σ s → VRels κ.D π l vs → is.map (κ.ns[·]?) = ns.map some → Q ⟨pts σ.ls is l, σ.objs, σ.hd⟩ → ns.length = l.length →
    Ok f (assignInOrder ((assignEach ts f.env).map (·.2)) vs) (PostU f π Q) s
  | [], ns, is, l, vs, σ, s, π, Q, hf, hn, R, x, hi, q, hl => by
    cases hn
    cases l with
    | cons => cases hl
    | nil =>
      cases is with
      | cons => cases hi
      | nil => cases vs <;> exact wpAny_pure ⟨σ, π, q, R, .refl π⟩
  | t :: ts, ns, is, l, vs, σ, s, π, Q, hf, hn, R, xs, hi, q, hl => by
    cases t with
    | Name x p =>
      obtain ⟨ns', h', rfl⟩ := Option.map_eq_some_iff.mp (show (nameIds ts).map (x :: ·) = some ns from hn)
      cases l with
      | nil => cases hl
      | cons V l =>
        cases is with
        | nil => cases hi
        | cons i is =>
          obtain ⟨v, us, rfl, hv, hr⟩ := xs
          have h0 : κ.ns[i]? = some x := (List.cons.inj hi).1
          refine wpAny_assignInOrder_more (wpAny_assign_Name (thenU (store_ok (Q := fun σ' => σ' = ⟨pt σ.ls i (some V), σ.objs, σ.hd⟩) R h0 (hf x (.head _)) hv rfl) fun u σ₁ π₁ s₁ q₁ R₁ e₁ => ?_))
          subst q₁
          exact calm (names_go (fun x hx => hf x (.tail _ hx)) h' R₁ (hr.le e₁) (List.cons.inj hi).2 q (Nat.succ.inj hl)) fun _ _ => .from e₁
    | _ => cases hn
noncomputable def aTup (is : List Nat) : PA := fun v σ Q => asTup v fun l => is.length = l.length ∧ Q ⟨pts σ.ls is l, σ.objs, σ.hd⟩
theorem tup_go {ts : List Expr} {ns : List Str} {k : Nat} {p : Pos} {is : List Nat} (hi : is.map (κ.ns[·]?) = ns.map some) (hn : nameIds ts = some ns) (hf : ∀ x ∈ ns, κ.sc.names.lookup x ≠ some .free) {V : V} {v : Value} {Q : T → Prop} (R : Rel f π σ s) (x : VRel κ.D π V v) (h : aTup is V σ Q) : Ok f (assign (.Tuple ts k p) f.env v) (PostU f π Q) s := by
  obtain ⟨l, rfl, hl, q⟩ := asTup_v h
  obtain ⟨a, vs, m, rfl, ho, hr⟩ := x
  have hl' : ns.length = l.length := by
    have e := congrArg List.length hi
    rw [List.length_map, List.length_map] at e
    exact e.symm.trans hl
  obtain ⟨n1, n2⟩ := names_len (env := f.env) hn
  refine wpAny_assign_Tuple (items := vs.toArray) f.ok.ao.hh ⟨_, R.c.hz _ _ ho, rfl, _, rfl⟩ (by rw [n1, ← nameIds_len hn, hl', size_is hr]) n2 fun h' he => ?_
  exact names_go hf hn (R.heap (fun b o e => he b o (Nat.ne_of_lt (Heap.lt_size e)) e) R.c.tk) hr hi q hl'
theorem rATup' {ts : List Expr} {ns : List Str} {k : Nat} {p : Pos} (is : List Nat) (hn : nameIds ts = some ns) (hi : is.map (κ.ns[·]?) = ns.map some) (hf : ns.all (fun x => κ.sc.names.lookup x != some .free) = true) : SA κ (.Tuple ts k p) (aTup is) := .mk fun f π σ s V v Q R x h =>
  tup_go hi hn (fun x hx => bne_iff_ne.mp (List.all_eq_true.mp hf x hx)) R x h
theorem rATup {ts : List Expr} {ns : List Str} {k : Nat} {p : Pos} (is : List Nat) (hi : is.map (κ.ns[·]?) = ns.map some) (hn : nameIds ts = some ns := by rfl) (ht : κ.top = true := by rfl) : SA κ (.Tuple ts k p) (aTup is) := .mk fun f π σ s V v Q R x h =>
  tup_go hi hn (fun x hx => f.ok.top ht x (by
    have : some x ∈ is.map (κ.ns[·]?) := hi ▸ List.mem_map_of_mem hx
    obtain ⟨i, _, e⟩ := List.mem_map.mp this
    exact List.mem_of_getElem? e)) R x h
/-- names = values -/
noncomputable def pAsgT (a : PE) (is : List Nat) : PS := fun σ Q => a σ fun v σ => asTup v fun l => is.length = l.length ∧ Q .nxt ⟨pts σ.ls is l, σ.objs, σ.hd⟩
theorem rAsgT {ts vs : List Expr} {ns : List Str} {k k' : Nat} {p q r : Pos} {a : PE} (is : List Nat) (hi : is.map (κ.ns[·]?) = ns.map some) (he : SE κ (.Tuple vs k' q) a) (hd : is.Nodup := by decide +kernel) (hn : nameIds ts = some ns := by rfl) (ht : κ.top = true := by rfl)
    (hc : (vs.all (foldedForSure 8) || !vs.all (constantsAlone 8)) = true := by rfl) : SS κ (.Assign [.Tuple ts k p] (.Tuple vs k' q) r) (pAsgT a is) := .mk fun f π σ s Q R h => by
  rcases swapped_is (k := k) (k' := k') (p := p) (p' := q) (env := f.env) hn hc with e2 | e2
  · exact assign_plain rfl e2 (thenV (he.run f π σ s _ R h) fun V v σ₁ π₁ s₁ q R₁ x₁ e₁ => by
      show Ok f (assign (.Tuple ts k p) f.env v) _ s₁
      exact calm ((rATup is hi hn ht).run f π₁ σ₁ s₁ V v _ R₁ x₁ q) fun _ _ z => .from e₁ z.fin)
  · refine Assign_Tuple_swapped (names := ns) (thenV (he.run f π σ s _ R h) fun V v σ₁ π₁ s₁ q R₁ x₁ e₁ => ?_) rfl e2
    obtain ⟨l, rfl, hl, q⟩ := asTup_v q
    obtain ⟨a, us, m, rfl, ho, hr⟩ := x₁
    have hl' : ns.length = l.length := by
      have e := congrArg List.length hi
      rw [List.length_map, List.length_map] at e
      exact e.symm.trans hl
    rw [hl', ← size_is hr]
    refine wpAny_unpackItems_tuple f.ok.ao.hh ⟨_, R₁.c.hz _ _ ho, rfl, _, rfl⟩ fun h' he => ?_
    rw [show us.toArray.toList = us from rfl]
    exact calm (store_list ht (is := is.reverse) (l := l.reverse) (Q := fun σ => Q .nxt σ) (R₁.heap (fun b o e => he b o (Nat.ne_of_lt (Heap.lt_size e)) e) R₁.c.tk) hr.rev (by rw [List.map_reverse, List.map_reverse, hi]) (by rw [pts_rev hd hl]; exact q)
      (by rw [List.length_reverse, List.length_reverse]; exact hl')) fun _ _ z => .from e₁ z.fin

-- += on a name
/-- what value += value means -/
noncomputable def AugOk (κ : Kx) (op : Operator) (C : V → V → T → (V → Prop) → Prop) : Prop := ∀ (f : Fr κ) π σ s V W v w (Q : Mine.V → Prop), Rel f π σ s → VRel κ.D π V v → VRel κ.D π W w → C V W σ Q → Ok f (inplaceOp op v w) (fun r s' => (∃ U, Q U ∧ VRel κ.D π U r) ∧ Tk s s') s
noncomputable def pAug (C : V → V → T → (V → Prop) → Prop) (i : Nat) (a : PE) : PS := fun σ Q => opt (gt σ.ls i) fun o => opt o fun x => a σ fun y σ => C x y σ fun v => Q .nxt ⟨pt σ.ls i (some v), σ.objs, σ.hd⟩
theorem rAug {C : V → V → T → (V → Prop) → Prop} {op : Operator} {x : Str} {e : Expr} {p q : Pos} {a : PE} (hC : AugOk κ op C) (i : Nat) (hi : κ.ns[i]? = some x) (he : SE κ e a) (ht : κ.top = true := by rfl) : SS κ (.AugAssign (.Name x p) op e q) (pAug C i a) := .mk fun f π σ s Q R h => by
  obtain ⟨o, h1, h⟩ := opt_v h
  obtain ⟨X, rfl, h⟩ := opt_v h
  exact wpAny_AugAssign_Name (load_slot R hi h1 fun v xv => thenV (he.run f π σ s _ R h) fun W w σ₁ π₁ s₁ q R₁ x₁ e₁ => calm (hC f π₁ σ₁ s₁ X W v w _ R₁ (xv.le e₁) x₁ q) fun r s₂ ⟨⟨U, q, xu⟩, tk, es, htk⟩ => by
    subst es
    exact calm (store_ok (Q := fun σ => Q .nxt σ) (R₁.toks htk) hi (f.ok.top ht _ (List.mem_of_getElem? hi)) xu q) fun _ _ z => .from e₁ z.fin)
noncomputable def gAddI (x y : V) (σ : T) (Q : V → Prop) : Prop := asInt x fun i => asInt y fun j => Q (.int (i + j))
noncomputable def gAddS (x y : V) (σ : T) (Q : V → Prop) : Prop := asStr x fun i => asStr y fun j => i.length + j.length ≤ big ∧ Q (.str (i ++ j))
theorem gAddI_ok : AugOk κ .Add gAddI := fun f π σ s V W v w Q R xa xb h => by
  obtain ⟨i, j, t, u, rfl, rfl, q⟩ := twoI xa xb h
  exact wpAny_iadd_int ⟨⟨_, q, _, rfl⟩, _, rfl, Nat.succ_pos _⟩
theorem gAddS_ok : AugOk κ .Add gAddS := fun f π σ s V W v w Q R xa xb h => by
  obtain ⟨i, j, t, u, rfl, rfl, z, q⟩ := twoS xa xb h
  refine wpAny_with_toks (n := 1) R.c.tk (SBL.iadd (fun t' tk _ htk => ?_) (by rw [str_len, str_len, ← big_is]; exact z))
  rw [str_append]
  exact ⟨⟨_, q, _, rfl⟩, _, rfl, htk⟩
end
end

section
open PySem PySem.Calls PyProof.Rows PySem.W

noncomputable def rngList (a b c : Int) : List V := (List.range (Builtin.Range.rangeSize a b c).toNat).map fun (k : Nat) => .int (a + k * c)
noncomputable def iterV (td : Bool) : V → Option (List V)
  | .lst l => some l
  | .str l => some (l.map fun c => .str [c])
  | .rng a b c => some (rngList a b c)
  | .dit d => if td then some (d.map fun p => .tup [.str p.1, p.2]) else none
  | _ => none
noncomputable def forGo (turn : V → PS) : List V → PS
  | [], σ, Q => Q .nxt σ
  | v :: r, σ, Q => turn v σ fun fl σ => match fl with
    | .nxt => forGo turn r σ Q
    | .cont => forGo turn r σ Q
    | .brk => Q .nxt σ
    | .ret v => Q (.ret v) σ
noncomputable def itKinds : List String := ["list_iterator", "tuple_iterator", "str_ascii_iterator", "str_iterator", "range_iterator"]
noncomputable def isTupE : Expr → Bool
  | .Tuple _ _ _ => true
  | _ => false

/-- where a source stands -/
structure Srcs (D : GD) (hq : Option (List V)) (I : Addr) (π : Pl) (o : Obj) (s : Shared) : Prop where
  hz : ∀ a o, π.fz a = some o → s.heap.get? a = some o
  tab : ∀ l, hq = some l → TabOk D π (some l) s.heap
  tk : 0 < s.toks
  at' : s.heap.get? I = some o
  fr : π.fz I = none
  ts : I ∉ π.tabs
/-- an item: known before, or a new tuple -/
noncomputable def Got (D : GD) (π : Pl) (h h' : Heap) (V : V) (v : Value) : Prop := VRel D π V v ∨ ∃ a l vs n, V = .tup l ∧ v = .ref a ∧ h.get? a = none ∧ h'.get? a = some (tupObj vs n) ∧ VRels D π l vs
noncomputable def Moves (I : Addr) (s s' : Shared) : Prop := ∃ h' tk, s' = { s with heap := h', toks := tk } ∧ 0 < tk ∧ Heap.ExtBut I s.heap h'
/-- an iterator, by what it gives -/
noncomputable def ItOk (D : GD) (A : Around) (t : Expr) (hq : Option (List V)) (I : Addr) (π : Pl) : List V → Obj → Prop
  | [], o => ∀ π' s, π.le π' → Srcs D hq I π' o s → wpAny (model D.prog D.w) A (pyNext (.ref I)) (fun r s' => r = none ∧ Moves I s s') noE s
  | V :: r, o => ∀ π' s, π.le π' → Srcs D hq I π' o s → wpAny (model D.prog D.w) A (pyNext (.ref I)) (fun u s' => ∃ v, u = some v ∧ wpAny (model D.prog D.w) A (letOwnedTupleGo t (.ref I) v) (fun _ s'' => Moves I s s'' ∧ Got D π' s.heap s''.heap V v ∧ ∃ o', s''.heap.get? I = some o' ∧ (∀ v, o'.data ≠ .cell v) ∧ ItOk D A t hq I π r o') noE s') noE s

section
variable {κ : Kx} {f : Fr κ} {π π₀ π' : Pl} {σ σ' : T} {s s' : Shared} {A : Around} {t : Expr} {hq : Option (List V)} {I : Addr} {o : Obj} {V : V} {r all : List Mine.V}
theorem Rel.srcs (R : Rel (f.keep I o) π σ s) (hh : ∀ l, hq = some l → σ.hd = some l) : Srcs κ.D hq I π o s :=
  ⟨R.c.hz, fun l e => hh l e ▸ R.c.tab, R.c.tk, R.c.hk I o kp_at, R.c.dj I o kp_at, fun q => nomatch (kp_at (f := f) (o := o)).symm.trans (R.c.sh I (.inr q)).2⟩
theorem turn_ok (R : Rel (f.keep I o) π σ s) (hf : f.kp I = none) (hc : ∀ v, o.data ≠ .cell v) (it : ItOk κ.D f.A t hq I π₀ (V :: r) o) (e₀ : π₀.le π) (hh : ∀ l, hq = some l → σ.hd = some l) :
    Ok f (pyNext (.ref I)) (fun u s' => ∃ v, u = some v ∧ Ok f (letOwnedTupleGo t (.ref I) v) (fun _ s'' => ∃ o' π', Rel (f.keep I o') π' σ s'' ∧ VRel κ.D π' V v ∧ π.le π' ∧ (∀ v, o'.data ≠ .cell v) ∧ ItOk κ.D f.A t hq I π₀ r o') s') s :=
  calm (it π s e₀ (R.srcs hh)) fun u s' ⟨v, e, z⟩ => ⟨v, e, calm z fun _ s'' ⟨⟨h', tk, es, htk, hx⟩, g, o', ho', hc', it'⟩ => by
    subst es
    obtain ⟨R₁, a1, a2, a3, a4⟩ := R.unkeep hf hc hx htk
    have R₂ := R₁.keep ho' a1 a2 a3 a4
    rcases g with g | ⟨a, l, vs, n, rfl, rfl, b1, b2, b3⟩
    · exact ⟨o', π, R₂, g, .refl π, hc', it'⟩
    · obtain ⟨c1, c2, c3, c4, c5⟩ := R.new b1
      have ne : a ≠ I := fun z => by
        subst z
        cases (kp_at (f := f) (o := o)).symm.trans c2
      obtain ⟨R₃, e₃⟩ := R₂.freeze b2 c1 ((kp_ne ne).trans ((kp_ne ne).symm.trans c2)) c3 c4 c5
      exact ⟨o', _, R₃, ⟨a, vs, n, rfl, Pl.add_at, b3.le e₃⟩, e₃, hc', it'⟩⟩
theorem end_ok (R : Rel (f.keep I o) π σ s) (hf : f.kp I = none) (hc : ∀ v, o.data ≠ .cell v) (it : ItOk κ.D f.A t hq I π₀ [] o) (e₀ : π₀.le π) (hh : ∀ l, hq = some l → σ.hd = some l) : Ok f (pyNext (.ref I)) (fun u s' => u = none ∧ Rel f π σ s') s :=
  calm (it π s e₀ (R.srcs hh)) fun u s' ⟨e, h', tk, es, htk, hx⟩ => ⟨e, es ▸ (R.unkeep hf hc hx htk).1⟩

theorem ownTuple_go {M : Model} {E : Value → Shared → Prop} {v : Value} {Q : Unit → Shared → Prop} {T : String} (ho : s.heap.get? I = some o) (hT : o.cls = .type T) (hc : itKinds.contains T = true) (q : Q () s) : wpAny M A (letOwnedTupleGo t (.ref I) v) Q E s := by
  have no : (["enumerate", "zip", "dict_itemiterator", "dict_reverseitemiterator", "odict_iterator", "itertools.zip_longest", "itertools.pairwise"].contains T) = false := by
    have hm : T ∈ itKinds := List.contains_iff_mem.mp hc
    exact (by decide : ∀ T ∈ itKinds, (["enumerate", "zip", "dict_itemiterator", "dict_reverseitemiterator", "odict_iterator", "itertools.zip_longest", "itertools.pairwise"].contains T) = false) T hm
  have go : wpAny M A (letOwnedTupleGo (.Tuple [] default default) (.ref I) v) Q E s := by
    unfold letOwnedTupleGo
    cases v with
    | ref a =>
      refine wpAny_bind (wpAny_load ho ?_)
      rw [hT]
      split
      · rename_i n vs e1 e2
        cases Value.type.inj e1
        rw [no, Bool.false_and]
        exact wpAny_pure q
      · exact wpAny_pure q
    | _ => exact wpAny_pure q
  cases t <;> first | exact go | exact wpAny_pure q

/-- what the library's walks give -/
theorem ItOk.of (K : Nat → Obj → Prop) (hK : ∀ i o, K i o → (∀ v, o.data ≠ .cell v) ∧ ∃ T, o.cls = .type T ∧ itKinds.contains T = true)
    (W : ∀ π' s o i, π.le π' → Srcs κ.D hq I π' o s → K i o → ∃ fp P, ∃ St : Nat → Heap → Prop, Walks κ.D.prog κ.D.w A I fp [I] all.length P St ∧ St i s.heap ∧ (∀ i h, St i h → ∃ o', h.get? I = some o' ∧ K i o') ∧ ∀ i V u, all[i]? = some V → P i u → VRel κ.D π' V u) :
    ∀ (r : List Mine.V) (i : Nat) (o : Obj), all.drop i = r → i ≤ all.length → K i o → ItOk κ.D A t hq I π r o
  | [], i, o, e, hi, k => fun π' s le S => by
    obtain ⟨fp, P, St, W, st, _⟩ := W π' s o i le S k
    have hi' : i = all.length := Nat.le_antisymm hi (List.drop_eq_nil_iff.mp e)
    exact wpAny_with_toks (n := 1) S.tk (W.done s _ _ (hi' ▸ st) fun h' tk hk htk => ⟨rfl, h', tk, rfl, htk, fun b o hb e => hk b o (fun z => hb (List.mem_singleton.mp z)) e⟩)
  | V :: r, i, o, e, hi, k => fun π' s le S => by
    obtain ⟨fp, P, St, W', st, hs, hv⟩ := W π' s o i le S k
    have hlt : i < all.length := Nat.lt_of_not_le fun h => by rw [List.drop_eq_nil_iff.mpr h] at e; cases e
    have hx : all[i]? = some V := by rw [← List.head?_drop, e]; rfl
    refine wpAny_with_toks (n := 1) S.tk (W'.item i s _ _ hlt st fun v h' tk hp st' hk htk => ⟨v, rfl, ?_⟩)
    obtain ⟨o', ho', k'⟩ := hs _ _ st'
    obtain ⟨c1, T, c2, c3⟩ := hK _ _ k'
    refine ownTuple_go (s := { s with heap := h', toks := tk }) ho' c2 c3 ⟨⟨h', tk, rfl, htk, fun b o hb e => hk b o (fun z => hb (List.mem_singleton.mp z)) e⟩, .inl (hv i V v hx hp), o', ho', c1, ItOk.of K hK W r (i + 1) o' ?_ hlt k'⟩
    rw [← List.tail_drop, e]; rfl

noncomputable def LiK (ax : Addr) (i : Nat) (o : Obj) : Prop := o.cls = .type "list_iterator" ∧ o.data = .fields #[.ref ax, .int i 0]
theorem nocell {vs : Array Value} (h : o.data = .fields vs) : ∀ v, o.data ≠ .cell v := fun v e => nomatch h.symm.trans e
/-- a list: frozen, or the table's -/
theorem ItOk.lst (hh : A.handled = none) {ax : Addr} (hx : ∀ π' s o, π.le π' → Srcs κ.D hq I π' o s → ∃ vs n, s.heap.get? ax = some (lstObj vs n) ∧ VRels κ.D π' all vs ∧ ax ≠ I) (r : List Mine.V) (i : Nat) (o : Obj) (e : all.drop i = r) (hi : i ≤ all.length) (k : LiK ax i o) : ItOk κ.D A t hq I π r o := by
  refine ItOk.of (LiK ax) (fun i o k => ⟨nocell k.2, _, k.1, by decide⟩) (fun π' s o i le S k => ?_) r i o e hi k
  obtain ⟨vs, n, h1, h2, h3⟩ := hx π' s o le S
  have W := Walks.list (prog := κ.D.prog) (w := κ.D.w) hh I ax h3 vs.toArray
  rw [size_is h2] at W
  refine ⟨_, _, _, W, ⟨⟨_, S.at', k⟩, ⟨_, h1, rfl, _, rfl⟩⟩, fun i h st => let ⟨o', ho', z⟩ := st.1; ⟨o', ho', z⟩, fun i V u ha hp => ?_⟩
  obtain ⟨u', hu, xu⟩ := h2.get ha
  have e : some u' = some u := hu.symm.trans ((List.getElem?_toArray ..).symm.trans hp)
  exact Option.some.inj e ▸ xu
noncomputable def StK (x : Str) (t : Tok) (i : Nat) (o : Obj) : Prop := o.cls = .type (strIterType x) ∧ o.data = .fields #[.str x t, .int i 0]
theorem ItOk.str (hh : A.handled = none) {l : List Nat} {t' : Tok} (r : List Mine.V) (i : Nat) (o : Obj) (e : (l.map fun c => Mine.V.str [c]).drop i = r) (hi : i ≤ l.length) (k : StK ⟨l.toArray⟩ t' i o) : ItOk κ.D A t hq I π r o := by
  refine ItOk.of (all := l.map fun c => Mine.V.str [c]) (StK ⟨l.toArray⟩ t') (fun i o k => ⟨nocell k.2, _, k.1, ?_⟩) (fun π' s o i le S k => ?_) r i o e (by rw [List.length_map]; exact hi) k
  · unfold strIterType; split <;> decide
  have W : Walks κ.D.prog κ.D.w A I [I] [I] (⟨l.toArray⟩ : Str).cps.size (SignAt ⟨l.toArray⟩) fun i h => h.IsStrIter I (strIterType ⟨l.toArray⟩) ⟨l.toArray⟩ t' i := by
    unfold strIterType
    split
    · exact Walks.strAscii hh I _ t'
    · exact Walks.strWide hh I _ t'
  rw [show (⟨l.toArray⟩ : Str).cps.size = (l.map fun c => Mine.V.str [c]).length by rw [List.length_map]; exact List.size_toArray] at W
  refine ⟨_, _, _, W, ⟨_, S.at', k⟩, fun i h st => st, fun i V u ha hp => ?_⟩
  obtain ⟨c, t'', hc, rfl⟩ := hp
  rw [List.getElem?_map] at ha
  obtain ⟨c', hc', rfl⟩ := Option.map_eq_some_iff.mp ha
  have e : some c = some c' := hc.symm.trans ((List.getElem?_toArray ..).trans hc')
  exact Option.some.inj e ▸ ⟨t'', rfl⟩
noncomputable def RgK (a c : Int) (n i : Nat) (o : Obj) : Prop := o = { cls := .type "range_iterator", dict := none, data := .fields #[rawInt (a + (i : Nat) * c), rawInt ((n : Int) - (i : Nat)), rawInt c], slots := #[] }
theorem rng_len {a b c : Int} : (rngList a b c).length = (Builtin.Range.rangeSize a b c).toNat := by unfold rngList; rw [List.length_map, List.length_range]
theorem ItOk.rng (hh : A.handled = none) {a b c : Int} (r : List Mine.V) (i : Nat) (o : Obj) (e : (rngList a b c).drop i = r) (hi : i ≤ (rngList a b c).length) (k : RgK a c (rngList a b c).length i o) : ItOk κ.D A t hq I π r o := by
  refine ItOk.of (all := rngList a b c) (RgK a c (rngList a b c).length) (fun i o k => by cases k; exact ⟨nocell rfl, _, rfl, by decide⟩) (fun π' s o i le S k => ?_) r i o e hi k
  refine ⟨_, _, _, Walks.range (prog := κ.D.prog) (w := κ.D.w) hh I a c _, (show s.heap.get? I = some _ from k ▸ S.at'), fun i h st => ⟨_, st, rfl⟩, fun i V u ha hp => ?_⟩
  obtain ⟨t', rfl⟩ := hp
  unfold rngList at ha
  rw [List.getElem?_map] at ha
  obtain ⟨y, hy, rfl⟩ := Option.map_eq_some_iff.mp ha
  rw [List.getElem?_range (by have := (List.getElem?_eq_some_iff.mp hy).1; rwa [List.length_range] at this)] at hy
  cases hy
  exact ⟨_, rfl⟩
theorem VRelD.get {D : GD} : ∀ {d : List (List Nat × Mine.V)} {kvs : List (Str × Value)} {i : Nat} {p : List Nat × Mine.V}, VRelD D π d kvs → d[i]? = some p → ∃ v, kvs[i]? = some (⟨p.1.toArray⟩, v) ∧ VRel D π p.2 v
  | [], kvs, i, p, x, e => by cases e
  | (k, a) :: r, kvs, 0, p, ⟨v, q, e', hv, hr⟩, e => by cases e; exact ⟨v, e' ▸ rfl, hv⟩
  | (k, a) :: r, kvs, i + 1, p, ⟨v, q, e', hv, hr⟩, e => let ⟨u, hu, z⟩ := VRelD.get (i := i) hr e; ⟨u, e' ▸ hu, z⟩
theorem VRelD.length {D : GD} : ∀ {d : List (List Nat × Mine.V)} {kvs : List (Str × Value)}, VRelD D π d kvs → kvs.length = d.length
  | [], kvs, x => congrArg List.length (show kvs = [] from x)
  | (k, a) :: r, kvs, ⟨v, q, e', hv, hr⟩ => by rw [e']; exact congrArg Nat.succ (VRelD.length hr)
theorem isStr_inv {x : Str} {v : Value} (h : Value.isStrOf x v = true) : ∃ t, v = .str x t := by
  cases v with
  | str y t => exact ⟨t, by rw [show y = x from eq_of_beq h]⟩
  | _ => cases h
noncomputable def DiK (da : Addr) (n ep i : Nat) (o : Obj) : Prop := ∃ ok ov, o = { cls := .type "dict_itemiterator", dict := none, data := .fields #[.none, .bool false, .ref da, .int i 0, .int n 0, .int ep 0, ok, ov], slots := #[] }
theorem ItOk.dit (hh : A.handled = none) {es : List Expr} {k : Nat} {p : Pos} {da : Addr} {kvs : List (Str × Value)} {ep : Nat} {d : List (List Nat × Mine.V)} {od : Obj} (hd : π.fz da = some od) (hda : ∀ h : Heap, h.get? da = some od → h.DictAt (strKind κ.D.prog κ.D.w) da kvs ep) (hr : VRelD κ.D π d kvs) :
    ∀ (r : List Mine.V) (i : Nat) (o : Obj), (d.map fun p => Mine.V.tup [.str p.1, p.2]).drop i = r → i ≤ d.length → DiK da kvs.length ep i o → ItOk κ.D A (.Tuple es k p) hq I π r o
  | [], i, o, e, hi, ⟨ok, ov, k⟩ => fun π' s le S => by
    have hi' : d.length ≤ i := by have := List.drop_eq_nil_iff.mp e; rwa [List.length_map] at this
    exact wpAny_pyNext_items_end hh (k ▸ S.at') (hda _ (S.hz _ _ (le.fz _ _ hd))) (List.getElem?_eq_none_iff.mpr (hr.length ▸ hi')) fun h' he => ⟨rfl, h', s.toks, rfl, S.tk, he⟩
  | V :: r, i, o, e, hi, ⟨ok, ov, k⟩ => fun π' s le S => by
    have hx : (d.map fun p => Mine.V.tup [.str p.1, p.2])[i]? = some V := by rw [← List.head?_drop, e]; rfl
    rw [List.getElem?_map] at hx
    obtain ⟨p, hp, rfl⟩ := Option.map_eq_some_iff.mp hx
    obtain ⟨u, hu, xu⟩ := hr.get hp
    have hlt : i < d.length := (List.getElem?_eq_some_iff.mp hp).1
    refine wpAny_pyNext_items_item (k ▸ S.at') (hda _ (S.hz _ _ (le.fz _ _ hd))) hu fun key h' hkey hout ht hz hk => ⟨_, rfl, ?_⟩
    refine wpAny_letOwnedTupleGo_items hout fun h'' hit hs' => ?_
    obtain ⟨tk, rfl⟩ := isStr_inv hkey
    have ne : s.heap.objs.size ≠ I := fun z => by have := S.at'; rw [← z, size_none] at this; cases this
    refine ⟨⟨h'', s.toks, rfl, S.tk, fun b o hb e => (hs'.2 b hb).trans (hk b o hb e)⟩, .inr ⟨_, _, _, 0, rfl, rfl, size_none _, (hs'.2 _ ne).trans ht, .cons (a := .str _) ⟨tk, rfl⟩ (.one (xu.le le))⟩, _, hit, nocell rfl, ItOk.dit hh hd hda hr r (i + 1) _ ?_ hlt ⟨_, _, rfl⟩⟩
    rw [← List.tail_drop, e]; rfl
end
end

section
open PySem PySem.Calls PyProof.Rows PySem.W

section
variable {κ : Kx} {f : Fr κ} {π π₀ π' : Pl} {σ σ' : T} {s s' : Shared} {A : Around} {t : Expr} {hq : Option (List V)} {I : Addr} {o : Obj} {V : V} {r all : List Mine.V}

/-- a new thing of a loop -/
theorem Rel.pushKeep (R : Rel f π σ s) (o : Obj) (ho : o.isFreed = false := by rfl) : Rel (f.keep s.heap.objs.size o) π σ { s with heap := s.heap.push o } ∧ f.kp s.heap.objs.size = none :=
  let ⟨a, b, c, d, e⟩ := R.new (size_none s.heap)
  ⟨(R.grow (s' := { s with heap := s.heap.push o }) (fun _ _ z => Heap.get?_push_of_some _ z) R.c.gens rfl R.c.tk).keep (Heap.get?_push_size _ ho) a c d e, b⟩
/-- what stands for good: a heap's dict -/
theorem dict_at {D : GD} {kvs : List (Str × Value)} {o : Obj} (h : o.IsDictOf (strKind D.prog D.w) kvs) : ∃ ep, ∀ (h : Heap) (a : Addr), h.get? a = some o → h.DictAt (strKind D.prog D.w) a kvs ep := by
  obtain ⟨es, ep, h1, h2, h3⟩ := h
  exact ⟨ep, fun h a e => ⟨o, es, e, h1, h2, h3⟩⟩
theorem rng_start (a b c : Int) : RgK a c (rngList a b c).length 0 { cls := .type "range_iterator", data := .fields #[rawInt a, rawInt (Builtin.Range.rangeSize a b c), rawInt c] } := by
  unfold RgK
  rw [rng_len, show a + ((0 : Nat) : Int) * c = a by rw [Int.natCast_zero, Int.zero_mul, Int.add_zero], show ((Builtin.Range.rangeSize a b c).toNat : Int) - ((0 : Nat) : Int) = Builtin.Range.rangeSize a b c from ?_]
  rw [Int.natCast_zero, Int.sub_zero]
  refine Int.toNat_of_nonneg ?_
  unfold Builtin.Range.rangeSize
  split
  · split
    · exact Int.add_nonneg (Int.ediv_nonneg (by omega) (by omega)) (by decide)
    · decide
  · split
    · exact Int.add_nonneg (Int.ediv_nonneg (by omega) (by omega)) (by decide)
    · decide
theorem start_ok (R : Rel f π σ s) {v : Value} (x : VRel κ.D π V v) (h : iterV (isTupE t) V = some all) :
    Ok f (pyIter v) (fun it s' => ∃ I o, it = .ref I ∧ f.kp I = none ∧ (∀ v, o.data ≠ .cell v) ∧ Rel (f.keep I o) π σ s' ∧ ItOk κ.D f.A t none I π all o) s := by
  have hh := f.ok.ao.hh
  have fin : ∀ (T : String) (fs : Array Value), ItOk κ.D f.A t none s.heap.objs.size π all { cls := .type T, data := .fields fs } → ∃ I o, (Value.ref s.heap.objs.size) = .ref I ∧ f.kp I = none ∧ (∀ v, o.data ≠ .cell v) ∧ Rel (f.keep I o) π σ { s with heap := s.heap.push { cls := .type T, data := .fields fs } } ∧ ItOk κ.D f.A t none I π all o := fun T fs it =>
    let ⟨R', k⟩ := R.pushKeep { cls := .type T, data := .fields fs }
    ⟨_, _, rfl, k, nocell rfl, R', it⟩
  cases V with
  | lst l =>
    cases h
    obtain ⟨a, vs, n, rfl, ho, rs⟩ := x
    refine wpAny_pyIter_list (items := vs.toArray) ⟨_, R.c.hz _ _ ho, rfl, _, rfl⟩ (fin _ _ (ItOk.lst (ax := a) hh (fun π' s' o le S => ⟨vs, n, S.hz _ _ (le.fz _ _ ho), rs.le le, ?_⟩) _ 0 _ rfl (Nat.zero_le _) ⟨rfl, rfl⟩))
    rintro rfl
    exact nomatch (le.fz _ _ ho).symm.trans S.fr
  | str l =>
    cases h
    obtain ⟨t', rfl⟩ := x
    exact wpAny_pyIter_strU (fin _ _ (ItOk.str hh _ 0 _ rfl (Nat.zero_le _) ⟨rfl, rfl⟩))
  | rng a b c =>
    cases h
    obtain ⟨r, t', u, y, rfl, ho, hz⟩ := x
    exact wpAny_pyIter_range (R.c.hz _ _ ho) hz (fin _ _ (ItOk.rng (a := a) (b := b) (c := c) hh _ 0 _ rfl (Nat.zero_le _) (rng_start a b c)))
  | dit d =>
    obtain ⟨a, da, od, kvs, rfl, ha, hd, hk, r⟩ := x
    obtain ⟨ep, hda⟩ := dict_at hk
    cases t with
    | Tuple es k p =>
      cases (show some (d.map fun p => Mine.V.tup [.str p.1, p.2]) = some all from h)
      exact wpAny_pyIter_items (knd := strKind κ.D.prog κ.D.w) (kvs := kvs) (ep := ep) ⟨_, R.c.hz _ _ ha, rfl, rfl⟩ (hda _ _ (R.c.hz _ _ hd)) (fin _ _ (ItOk.dit hh hd (fun h => hda h da) r _ 0 _ rfl (Nat.zero_le _) ⟨_, _, rfl⟩))
    | _ => cases h
  | _ => cases h

/-- a loop -/
theorem for_sound {Q : Fl → T → Prop} {b : List Stmt} (turn : Mine.V → PS) (ht : ∀ (f' : Fr κ), f'.env = f.env → f'.A = f.A → ∀ π σ s V v K, Rel f' π σ s → VRel κ.D π V v → turn V σ K → Ok f' (assign t f.env v) (fun _ s₂ => Ok f' (execs b f.env) (PostF f' π K) s₂) s)
    (hf : f.kp I = none) (hc : ∀ v, o.data ≠ .cell v) (R : Rel (f.keep I o) π σ s) (it : ItOk κ.D f.A t none I π all o) (h : forGo turn all σ Q) :
    codeAny (Mo κ) f.A (.forLoop t (.ref I) b [] f.env) (fun r s' => match r with | .ok fl => PostF f π Q fl s' | .error e => noE e s') s := by
  refine codeAny_forLoop_any (fun k s₁ => ∃ r o₁ σ₁ π₁, k = r.length ∧ (∀ v, o₁.data ≠ .cell v) ∧ Rel (f.keep I o₁) π₁ σ₁ s₁ ∧ ItOk κ.D f.A t none I π r o₁ ∧ forGo turn r σ₁ Q ∧ π.le π₁) ?_ all.length ⟨all, o, σ, π, rfl, hc, R, it, h, .refl π⟩
  rintro k s₁ ⟨r, o₁, σ₁, π₁, rfl, hc₁, R₁, it₁, go, e₁⟩
  cases r with
  | nil => exact wpAny_mono (end_ok R₁ hf hc₁ it₁ e₁ fun _ e => nomatch e) (fun u s₂ ⟨e, R₂⟩ => by cases e; exact wpAny_execs_nil ⟨.nxt, σ₁, π₁, go, R₂, rfl, e₁⟩) fun _ _ e => e.elim
  | cons W r =>
    refine wpAny_mono (turn_ok R₁ hf hc₁ it₁ e₁ fun _ e => nomatch e) (fun u s₂ ⟨v, e, z⟩ => ?_) fun _ _ e => e.elim
    cases e
    refine wpAny_mono z (fun _ s₃ ⟨o₃, π₃, R₃, x₃, e₃, hc₃, it₃⟩ => ?_) fun _ _ e => e.elim
    refine wpAny_mono (ht (f.keep I o₃) rfl rfl _ _ _ _ _ _ R₃ x₃ go) (fun _ s₄ z => wpAny_mono z (fun fl s₅ ⟨F, σ₅, π₅, q, R₅, xf, e₅⟩ => ?_) fun _ _ e => e.elim) fun _ _ e => e.elim
    have le := e₁.trans (e₃.trans e₅)
    have out : Rel f π₅ σ₅ s₅ := (Rel.unkeep (f := f) R₅ hf hc₃ (h' := s₅.heap) (fun _ _ _ e => e) R₅.c.tk).1
    cases F with
    | nxt => cases (show fl = .next from xf); exact ⟨r.length, Nat.lt_succ_self _, r, o₃, σ₅, π₅, rfl, hc₃, R₅, it₃, q, le⟩
    | cont => cases (show fl = .cont from xf); exact ⟨r.length, Nat.lt_succ_self _, r, o₃, σ₅, π₅, rfl, hc₃, R₅, it₃, q, le⟩
    | brk => cases (show fl = .brk from xf); exact ⟨.nxt, σ₅, π₅, q, out, rfl, le⟩
    | ret V => obtain ⟨v, rfl, xv⟩ := xf; exact ⟨.ret V, σ₅, π₅, q, out, ⟨v, rfl, xv⟩, le⟩
noncomputable def pFor (td : Bool) (a : PE) (P : PA) (b : PS) : PS := fun σ Q => a σ fun x σ => opt (iterV td x) fun l => forGo (fun v σ Q => P v σ fun σ => b σ Q) l σ Q
theorem rFor {t e : Expr} {td : Bool} {b : List Stmt} {p : Pos} {a : PE} {P : PA} {B : PS} (he : SE κ e a) (ht : SA κ t P) (hb : SSs κ b B) (htd : isTupE t = td := by rfl) (hs : ∀ (env : Env) x, foldedSetIterable e env x = pure x := by intros; rfl) : SS κ (.For t e b [] p) (pFor td a P B) := .mk fun f π σ s Q R h =>
  wpAny_For (thenV (he.run f π σ s _ R h) fun V v σ₁ π₁ s₁ q R₁ x₁ e₁ => by
    obtain ⟨l, hl, go⟩ := opt_v q
    refine calm (start_ok (t := t) R₁ x₁ (htd ▸ hl)) fun it s₂ ⟨I, o, e, hf, hc, R₂, hit⟩ => ?_
    subst e
    refine codeAny_mono (for_sound _ (fun f' hE hA π σ s V v K R x q => ?_) hf hc R₂ hit go) fun r s' z => ?_
    · rw [← hE]
      exact thenU (ht.run f' π σ s V v _ R x q) fun _ σ₃ π₃ s₃ q R₃ e₃ => calm (hb.run f' π₃ σ₃ s₃ _ R₃ q) fun _ _ => .from e₃
    · cases r with
      | ok f => exact .from e₁ z
      | error e => exact z.elim) (hs _)

noncomputable def whileGo (c : PB) (b : PS) : Nat → PS
  | 0, _, _ => False
  | k + 1, σ, Q => c σ fun t σ => br t (b σ fun fl σ => match fl with
    | .nxt => whileGo c b k σ Q
    | .cont => whileGo c b k σ Q
    | .brk => Q .nxt σ
    | .ret v => Q (.ret v) σ) (Q .nxt σ)
noncomputable def pWhile (c : PB) (b : PS) : PS := fun σ Q => ∃ k, whileGo c b k σ Q
theorem rWhile {t : Expr} {b : List Stmt} {p : Pos} {c : PB} {B : PS} (hc : SB κ t c) (hb : SSs κ b B) : SS κ (.While t b [] p) (pWhile c B) := .mk fun f π σ s Q R ⟨k, h⟩ => by
  refine wpAny_While (codeAny_mono (codeAny_whileLoop (R := fun r s' => match r with | .ok fl => PostF f π Q fl s' | .error e => noE e s') (fun k s₁ => ∃ σ₁ π₁, Rel f π₁ σ₁ s₁ ∧ whileGo c B k σ₁ Q ∧ π.le π₁) ?_ k ⟨σ, π, R, h, .refl π⟩) fun r s' z => ?_)
  · rintro k s₁ ⟨σ₁, π₁, R₁, go, e₁⟩
    cases k with
    | zero => exact go.elim
    | succ k =>
      refine wpAny_mono (hc.run f π₁ σ₁ s₁ _ R₁ go) (fun t s₂ ⟨σ₂, π₂, q, R₂, e₂⟩ => ?_) fun _ _ e => e.elim
      cases t with
      | false => exact wpAny_execs_nil ⟨.nxt, σ₂, π₂, q, R₂, rfl, e₁.trans e₂⟩
      | true =>
        refine wpAny_mono (hb.run f π₂ σ₂ s₂ _ R₂ q) (fun fl s₃ ⟨F, σ₃, π₃, q, R₃, xf, e₃⟩ => ?_) fun _ _ e => e.elim
        have le := e₁.trans (e₂.trans e₃)
        cases F with
        | nxt => cases (show fl = .next from xf); exact ⟨k, Nat.lt_succ_self _, σ₃, π₃, R₃, q, le⟩
        | cont => cases (show fl = .cont from xf); exact ⟨k, Nat.lt_succ_self _, σ₃, π₃, R₃, q, le⟩
        | brk => cases (show fl = .brk from xf); exact ⟨.nxt, σ₃, π₃, q, R₃, rfl, le⟩
        | ret V => obtain ⟨v, rfl, xv⟩ := xf; exact ⟨.ret V, σ₃, π₃, q, R₃, ⟨v, rfl, xv⟩, le⟩
  · cases r with
    | ok f => exact z
    | error e => exact z.elim
end
end

section
open PySem PySem.Calls PyProof.Rows PySem.W

/-- what a call gives -/
inductive CPost (D : GD) (kp : Addr → Option Obj) (π : Pl) (Q : V → Option (List V) → Prop) (v : Value) (s : Shared) : Prop
  | mk (V : V) (hd : Option (List Mine.V)) (π' : Pl) (q : Q V hd) (R : CRel D kp π' hd s) (x : VRel D π' V v) (e : π.le π') (r : π'.ρ = [])
/-- a function's call, with room for n calls -/
noncomputable def CallOk (D : GD) (n : Nat) (f : Fid) (Vs : List V) (ks : List (Str × V)) (hd : Option (List V)) (Q : V → Option (List V) → Prop) : Prop :=
  (okVs Vs = true ∧ okVs (ks.map (·.2)) = true) ∧ ∀ A kp π s vs kvs, AOk A n → π.ρ = [] → CRel D kp π hd s → VRels D π Vs vs → VRels D π (ks.map (·.2)) kvs →
    codeAny (model D.prog D.w) A (.call (.ref (D.fa f)) ⟨vs, (ks.map (·.1)).zip kvs⟩) (fun r s' => match r with | .ok (.ret v) => CPost D kp π Q v s' | .ok _ => False | .error _ => False) s

/-- what is known of a function: its code, its names (parameters ahead), how it binds -/
structure FnOk (D : GD) (a : Addr) (sc : Scope) (body : List Stmt) (bd : List V → List (Str × V) → Option (List (Str × V))) : Prop where
  ex : ∃ o fd, D.g.get? a = some o ∧ o.data = .func fd ∧ fd.scope = sc ∧ fd.body = .stmts body ∧ fd.globals = mainGlobals ∧ fd.builtins = builtinsNs ∧ fd.closure = [] ∧ D.g.CodeRec fd.code fd.qualname ∧ (isTr sc = true → fd.code = .ref D.cc) ∧
    ∀ {kp π hd s A} args kws vs ks bs (Q : List (Str × Value) → Shared → Prop), CRel D kp π hd { s with toks := s.toks + 1 } → VRels D π args vs → VRels D π (kws.map (·.2)) ks → bd args kws = some bs →
      (∀ binds s' π', CRel D kp π' hd { s' with toks := s'.toks + 1 } → π.le π' → π'.ρ = π.ρ → binds.map (·.1) = bs.map (·.1) → VRels D π' (bs.map (·.2)) (binds.map (·.2)) → Q binds s') →
      wpAny (model D.prog D.w) A (bindArgs fd ⟨vs, (kws.map (·.1)).zip ks⟩) Q noE s
/-- what is to be seen of a block -/
noncomputable def scOk (sc : Scope) (ns : List Str) : Bool :=
  !sc.isCoroutine && !sc.isGenerator && decide (sc.kind = .function) && sc.names.all (fun y => decide (y.2 ≠ .free)) && decide (sc.names.map (·.1)).Nodup && ns.all (fun x => (sc.names.lookup x == some .local || sc.names.lookup x == some .cell) && decide (x ≠ "__debug__")) && decide ns.Nodup

theorem AOk.deeper {A : Around} {n : Nat} (ao : AOk A (n + 1)) (env : Env) : AOk (A.deeper env) n :=
  ⟨ao.hh, by have := ao.dep; show A.depth + 1 + n ≤ 900; omega, by have := ao.un; show A.units + 3 + 20 * n ≤ 9000; omega, ao.gd, by obtain ⟨l, h⟩ := ao.fr; exact ⟨env :: l, by show A.frames.map _ = _; rw [h]; rfl⟩⟩
theorem AOk.down {A : Around} {m n : Nat} (ao : AOk A n) (h : m ≤ n) : AOk A m := ⟨ao.hh, by have := ao.dep; omega, by have := ao.un; omega, ao.gd, ao.fr⟩
theorem CallOk.up {D : GD} {m n : Nat} {f : Fid} {Vs : List V} {ks : List (Str × V)} {hd : Option (List V)} {Q : V → Option (List V) → Prop} (h : CallOk D m f Vs ks hd Q) (le : m ≤ n) : CallOk D n f Vs ks hd Q :=
  ⟨h.1, fun A kp π s vs kvs ao => h.2 A kp π s vs kvs (ao.down le)⟩

theorem cellsFrom_mono {x : Str} : ∀ (names : List (Str × NameKind)) (n : Nat) (acc : List (Str × Addr)), (∃ c, (x, c) ∈ acc) → ∃ c, (x, c) ∈ cellsFrom n names acc
  | [], n, acc, h => h
  | (y, k) :: r, n, acc, h => by
    unfold cellsFrom
    split
    · exact cellsFrom_mono r _ _ (let ⟨c, h⟩ := h; ⟨c, .tail _ h⟩)
    · exact cellsFrom_mono r _ _ h
theorem cellsFrom_has {x : Str} : ∀ (names : List (Str × NameKind)) (n : Nat) (acc : List (Str × Addr)), (x, NameKind.cell) ∈ names → ∃ c, (x, c) ∈ cellsFrom n names acc
  | [], n, acc, h => by cases h
  | (y, k) :: r, n, acc, h => by
    unfold cellsFrom
    rcases List.mem_cons.mp h with e | h
    · cases e
      rw [if_pos (by decide)]
      exact cellsFrom_mono r _ _ ⟨_, .head _⟩
    · split
      · exact cellsFrom_has r _ _ h
      · exact cellsFrom_has r _ _ h
theorem cellsFrom_names : ∀ (names : List (Str × NameKind)) (n : Nat) (acc : List (Str × Addr)), (names.map (·.1)).Nodup → (acc.map (·.1)).Nodup → (∀ x ∈ names.map (·.1), x ∉ acc.map (·.1)) → ((cellsFrom n names acc).map (·.1)).Nodup
  | [], n, acc, _, h, _ => h
  | (y, k) :: r, n, acc, hn, h, hd => by
    obtain ⟨h1, h2⟩ := List.nodup_cons.mp hn
    unfold cellsFrom
    split
    · refine cellsFrom_names r _ _ h2 (List.nodup_cons.mpr ⟨hd y (.head _), h⟩) fun x hx q => ?_
      rcases List.mem_cons.mp q with e | q
      · have e' : x = y := e
        exact h1 (e' ▸ hx)
      · exact hd x (.tail _ hx) q
    · exact cellsFrom_names r _ _ h2 h fun x hx => hd x (.tail _ hx)
theorem lookup_of_mem {α : Type} : ∀ {l : List (Str × α)} {n : Str} {c : α}, (l.map (·.1)).Nodup → (n, c) ∈ l → l.lookup n = some c
  | (k, v) :: r, n, c, hn, h => by
    obtain ⟨h1, h2⟩ := List.nodup_cons.mp hn
    rw [List.lookup_cons]
    rcases List.mem_cons.mp h with e | h3
    · cases e; rw [beq_self_eq_true]
    · cases hb : n == k with
      | true =>
        have hz : n ∈ r.map (·.1) := List.mem_map.mpr ⟨(n, c), h3, rfl⟩
        rw [eq_of_beq hb] at hz
        exact absurd hz h1
      | false => exact lookup_of_mem h2 h3
theorem lookup_some_of {α : Type} {x : Str} : ∀ {l : List (Str × α)}, (∃ c, (x, c) ∈ l) → ∃ c, l.lookup x = some c
  | (k, v) :: r, ⟨c, h⟩ => by
    rw [List.lookup_cons]
    cases hb : x == k with
    | true => exact ⟨v, rfl⟩
    | false =>
      rcases List.mem_cons.mp h with e | h
      · cases e
        rw [beq_self_eq_true] at hb
        cases hb
      · exact lookup_some_of ⟨c, h⟩
theorem bindL_miss {kindOf : Str → Option NameKind} {x : Str} : ∀ (b : List (Str × Value)) (m : Str → Option Value), x ∉ b.map (·.1) → bindL kindOf b m x = m x
  | [], m, _ => rfl
  | (n, v) :: r, m, h => by
    have h1 : ¬ x = n := fun q => h (q ▸ .head _)
    unfold bindL
    rw [bindL_miss r _ fun q => h (.tail _ q)]
    split
    · exact if_neg h1
    · rfl
theorem bindC_miss {kindOf : Str → Option NameKind} {x : Str} : ∀ (b : List (Str × Value)) (m : Str → Option Value), x ∉ b.map (·.1) → bindC kindOf b m x = m x
  | [], m, _ => rfl
  | (n, v) :: r, m, h => by
    have h1 : ¬ x = n := fun q => h (q ▸ .head _)
    unfold bindC
    rw [bindC_miss r _ fun q => h (.tail _ q)]
    split
    · rfl
    · exact if_neg h1

section
variable {D : GD} {κ : Kx} {f : Fr κ} {π π₀ π' : Pl} {σ σ' : T} {s s' s₂ : Shared} {A : Around} {kp : Addr → Option Obj} {hd hd' : Option (List V)} {n : Nat}

/-- a name's value, as it was bound -/
theorem bind_look {kindOf : Str → Option NameKind} {x : Str} {V : V} : ∀ (bs : List (Str × Mine.V)) (b : List (Str × Value)) (m cm : Str → Option Value), b.map (·.1) = bs.map (·.1) → (bs.map (·.1)).Nodup → VRels D π (bs.map (·.2)) (b.map (·.2)) → ∀ i : Nat, bs[i]? = some (x, V) →
    ∃ v, VRel D π V v ∧ (kindOf x = some .local → bindL kindOf b m x = some v) ∧ (kindOf x = some .cell → bindC kindOf b cm x = some v)
  | [], b, m, cm, _, _, _, i, e => by cases e
  | (y, W) :: bs, [], m, cm, he, _, _, i, _ => by cases he
  | (y, W) :: bs, (z, w) :: b, m, cm, he, hn, hv, i, e => by
    obtain rfl : z = y := (List.cons.inj he).1
    have he' : b.map (·.1) = bs.map (·.1) := (List.cons.inj he).2
    obtain ⟨hn1, hn2⟩ := List.nodup_cons.mp hn
    obtain ⟨v, q, eq, hw, hr⟩ := hv
    cases eq
    cases i with
    | zero =>
      cases e
      have hz : x ∉ b.map (·.1) := he' ▸ hn1
      refine ⟨w, hw, fun hk => ?_, fun hk => ?_⟩
      · unfold bindL
        rw [bindL_miss b _ hz, if_pos hk]
        exact if_pos rfl
      · unfold bindC
        rw [bindC_miss b _ hz, if_neg (by rw [hk]; decide)]
        exact if_pos rfl
    | succ i =>
      unfold bindL bindC
      exact bind_look bs b _ _ he' hn2 hr i e

/-- a frame's things stand still while another works -/
noncomputable def Fr.held (f : Fr κ) (π : Pl) (h : Heap) (a : Addr) : Option Obj := open Classical in if π.fz a = none ∧ (a ∈ ownF f π ∨ ∃ v, h.IsCell a v) then h.get? a else f.kp a
theorem held_own {h : Heap} {a : Addr} (h1 : π.fz a = none) (h2 : a ∈ ownF f π ∨ ∃ v, h.IsCell a v) : f.held π h a = h.get? a := if_pos ⟨h1, h2⟩
theorem held_kp (R : Rel f π σ s) {a : Addr} {o : Obj} (e : f.kp a = some o) : f.held π s.heap a = some o := by
  unfold Fr.held
  split
  · exact R.c.hk a o e
  · exact e
theorem held_heap (R : Rel f π σ s) {a : Addr} {o : Obj} (e : f.held π s.heap a = some o) : s.heap.get? a = some o ∧ π.fz a = none := by
  unfold Fr.held at e
  split at e
  · rename_i h; exact ⟨e, h.1⟩
  · exact ⟨R.c.hk a o e, R.c.dj a o e⟩
theorem kp_held (R : Rel f π σ s) {a : Addr} (e : f.held π s.heap a = none) : f.kp a = none := by
  cases q : f.kp a with
  | none => rfl
  | some o => rw [held_kp R q] at e; cases e
theorem TabOk.move (hf : ∀ x o, π.fz x = some o → π'.fz x = some o) (ht : π'.tab = π.tab) {h : Heap} (x : TabOk D π hd h) : TabOk D π' hd h := by
  cases hd with
  | none => exact ht.trans x
  | some l =>
    obtain ⟨x, d, η, vs, n, hs, tk, k, e1, e2, e3, e4, e5, e6⟩ := x
    exact ⟨x, d, η, vs, n, hs, tk, k, ht.trans e1, e2, VRels.move hf (.inr ht) _ _ (.inr (oks_of_data _ e4)) e3, e4, hf _ _ e5, hf _ _ e6⟩
theorem tabs_eq (ht : π'.tab = π.tab) : π'.tabs = π.tabs := by unfold Pl.tabs; rw [ht]
/-- the world as a callee finds it -/
theorem Rel.out (R : Rel f π σ s) : CRel κ.D (f.held π s.heap) π.bare σ.hd s := by
  refine ⟨R.c.hz, fun a o e => (held_heap R e).1, fun a o e => (held_heap R e).2, R.c.gd, R.c.tab.move (π := π) (π' := π.bare) (fun _ _ e => e) rfl, R.c.ct, fun a q => ⟨(R.c.sh a q).1, ?_⟩, R.c.gens, R.c.os, R.c.tk⟩
  unfold Fr.held
  rw [if_neg]
  · exact (R.c.sh a q).2
  · rintro ⟨_, h | ⟨v, o, e, d⟩⟩
    · exact q.elim (R.ow a h).2.2.1 (R.ow a h).2.2.2
    · rcases q with rfl | q
      · obtain ⟨ps, e', _⟩ := R.c.ct
        rw [e'] at e; cases e; cases d
      · obtain ⟨vs, n, e'⟩ := R.c.tabList q
        rw [e'] at e; cases e; cases d
/-- and back -/
theorem Rel.back (R : Rel f π σ s) (C : CRel κ.D (f.held π s.heap) π' hd' s') (e : π.bare.le π') : Rel f (π'.with π.ρ) ⟨σ.ls, σ.objs, hd'⟩ s' ∧ π.le (π'.with π.ρ) := by
  have le : π.le (π'.with π.ρ) := ⟨e.fz, List.prefix_rfl, e.tab⟩
  have own : ∀ a o, (a ∈ ownF f π ∨ ∃ v, s.heap.IsCell a v) → s.heap.get? a = some o → s'.heap.get? a = some o := fun a o q z => by
    cases w : π.fz a with
    | none => exact C.hk a o ((held_own w q).trans z)
    | some o' => rw [R.c.hz a o' w] at z; cases z; exact C.hz a _ (e.fz _ _ w)
  refine ⟨⟨⟨C.hz, fun a o q => C.hk a o (held_kp R q), fun a o q => C.dj a o (held_kp R q), C.gd, C.tab.move (π := π') (π' := π'.with π.ρ) (fun _ _ e => e) rfl, C.ct, fun a q => ⟨(C.sh a q).1, kp_held R (C.sh a q).2⟩, C.gens, C.os, C.tk⟩, ?_, ?_, R.len, ?_, R.nd, ?_⟩, le⟩
  · obtain ⟨mL, ⟨o, es, ep, h0, r0⟩, hn⟩ := R.ns
    exact ⟨mL, ⟨o, es, ep, own _ _ (.inl ow_loc) h0, r0⟩, hn.le le fun c v ⟨o, z, d⟩ => ⟨o, own c o (.inr ⟨v, o, z, d⟩) z, d⟩⟩
  · intro c hc
    obtain ⟨v, o, z, d⟩ := R.cl c hc
    exact ⟨v, o, own c o (.inl (ow_cell hc)) z, d⟩
  · intro k l q
    obtain ⟨a, vs, n, e1, e2, e3⟩ := R.ob k l q
    exact ⟨a, vs, n, e1, own _ _ (.inl (ow_obj (List.mem_of_getElem? e1))) e2, e3.le le⟩
  · intro a ha
    obtain ⟨w1, w2, w3, w4⟩ := R.ow a ha
    obtain ⟨o, ho⟩ := R.ownIn a ha
    have hk : f.held π s.heap a = some o := (held_own w1 (.inl ha)).trans ho
    refine ⟨C.dj a o hk, w2, w3, fun q => ?_⟩
    rw [(C.sh a (.inr q)).2] at hk; cases hk

/-- what goes out of a frame -/
theorem frz_sound (R : Rel f π σ s) (hz : ∀ a o, π.fz a = some o → π'.fz a = some o) (ht : π'.tab = π.tab) (hρ : ∀ a ∈ π.ρ, π'.fz a = s.heap.get? a) : ∀ (k : Nat) (W r : Mine.V) (v : Value), frz k σ.objs W = some r → VRel κ.D π W v → VRel κ.D π' r v
  | 0, W, r, v, e, _ => by cases e
  | k + 1, W, r, v, e, x => by
    have ih := frz_sound R hz ht hρ k
    have all : ∀ (l r : List Mine.V) (vs : List Value), l.mapM (frz k σ.objs) = some r → VRels κ.D π l vs → VRels κ.D π' r vs := by
      intro l
      induction l with
      | nil =>
        intro r vs e x
        cases (show some [] = some r from e)
        exact x
      | cons a l ihl =>
        intro r vs e x
        rw [List.mapM_cons] at e
        obtain ⟨b, hb, e⟩ := Option.bind_eq_some_iff.mp e
        obtain ⟨r', hr', e⟩ := Option.bind_eq_some_iff.mp e
        cases e
        obtain ⟨u, q, rfl, hu, hq⟩ := x
        exact .cons (ih a b u hb hu) (ihl r' q hr' hq)
    unfold frz at e
    split at e
    · rename_i o
      cases e
      exact VRel.move hz (.inr ht) W v (.inr o) x
    · split at e
      · obtain ⟨l, hl, e⟩ := Option.bind_eq_some_iff.mp e
        obtain ⟨a, ha, rfl⟩ := x
        obtain ⟨a', vs, m, e1, e2, e3⟩ := R.ob _ l hl
        obtain rfl : a' = a := Option.some.inj (e1.symm.trans ha)
        have z := (hρ a' (List.mem_of_getElem? ha)).trans e2
        split at e
        · rename_i o
          cases e
          exact ⟨a', vs, m, rfl, z, VRels.move hz (.inr ht) l vs (.inr o) e3⟩
        · obtain ⟨l', hl', rfl⟩ := Option.map_eq_some_iff.mp e
          exact ⟨a', vs, m, rfl, z, all l l' vs hl' e3⟩
      · obtain ⟨l', hl', rfl⟩ := Option.map_eq_some_iff.mp e
        obtain ⟨a, vs, m, rfl, ho, hr⟩ := x
        exact ⟨a, vs, m, rfl, hz _ _ ho, all _ l' vs hl' hr⟩
      · cases e
/-- a frame is left -/
theorem leave_ok (R : Rel f π σ s) {Q : Mine.V → Option (List Mine.V) → Prop} {W : Mine.V} {v : Value} (x : VRel κ.D π W v) (h : opt (frz 4 σ.objs W) fun r => Q r σ.hd) : CPost κ.D f.kp π.bare Q v s := by
  obtain ⟨r, hr, q⟩ := opt_v h
  let π' : Pl := ⟨fun a => open Classical in if a ∈ π.ρ then s.heap.get? a else π.fz a, [], π.tab⟩
  have at1 : ∀ a ∈ π.ρ, π'.fz a = s.heap.get? a := fun a h => if_pos h
  have at2 : ∀ a, a ∉ π.ρ → π'.fz a = π.fz a := fun a h => if_neg h
  have hz : ∀ a o, π.fz a = some o → π'.fz a = some o := fun a o e => by
    rw [at2]
    · exact e
    · exact fun q => nomatch e.symm.trans (R.ow a (ow_obj q)).1
  have not : ∀ a, (∃ o, f.kp a = some o) ∨ a = κ.D.ct ∨ a ∈ π.tabs → a ∉ π.ρ := fun a q z => by
    obtain ⟨w1, w2, w3, w4⟩ := R.ow a (ow_obj z)
    exact q.elim (fun ⟨o, e⟩ => nomatch e.symm.trans w2) fun q => q.elim w3 w4
  refine ⟨r, σ.hd, π', q, ⟨fun a o e => ?_, R.c.hk, fun a o e => (at2 a (not a (.inl ⟨o, e⟩))).trans (R.c.dj a o e), fun a o e => hz a o (R.c.gd a o e), R.c.tab.move hz rfl, R.c.ct, fun a q => ⟨(at2 a (not a (.inr q))).trans (R.c.sh a q).1, (R.c.sh a q).2⟩, R.c.gens, R.c.os, R.c.tk⟩,
    frz_sound R hz rfl at1 4 W r v hr x, ⟨hz, List.prefix_rfl, .inr rfl⟩, rfl⟩
  by_cases z : a ∈ π.ρ
  · exact (at1 a z).symm.trans e
  · exact R.c.hz a o ((at2 a z).symm.trans e)

/-- a function's frame begins -/
theorem fn_enter0 {fid : Addr} {sc : Scope} {ns : List Str} {body : List Stmt} {bd : List Mine.V → List (Str × Mine.V) → Option (List (Str × Mine.V))} (dok : DOk D) (hF : FnOk D fid sc body bd) (hsc : scOk sc ns = true)
    {Vs : List Mine.V} {ks : List (Str × Mine.V)} {bs : List (Str × Mine.V)} {ls : List (Option Mine.V)} (hb : bd Vs ks = some bs) (hn : bs.map (·.1) <+: ns) (hls : ∀ i V, gt ls i = some (some V) → (bs.map (·.2))[i]? = some V)
    {vs kvs : List Value} {RR : Result → Shared → Prop} (ao : AOk A (n + 1)) (hρ : π.ρ = []) {m : Nat} (hm : m ≤ s.toks) (C : CRel D kp π hd { s with toks := s.toks + 1 }) (x : VRels D π Vs vs) (xk : VRels D π (ks.map (·.2)) kvs)
    (go : ∀ (f : Fr ⟨D, n, sc, ns, true⟩) π₂ s₃, m ≤ s₃.toks → f.kp = kp → Rel f π₂ ⟨ls, [], hd⟩ { s₃ with toks := s₃.toks + 1 } → π.le π₂ → wpAny (model D.prog D.w) f.A (execs body f.env) (fun fl s₄ => RR (.ok (.ret (match fl with | .ret v => v | _ => .none))) s₄) noE s₃) :
    codeAny (model D.prog D.w) A (.call (.ref fid) ⟨vs, (ks.map (·.1)).zip kvs⟩) RR s := by
  obtain ⟨o, fd, hK, hdata, hs, hbody, hglob, hbi, hclo, hcode, htr, hbind⟩ := hF.ex
  subst hs
  simp only [scOk, Bool.and_eq_true, Bool.not_eq_true', decide_eq_true_eq, List.all_eq_true, Bool.or_eq_true, beq_iff_eq] at hsc
  obtain ⟨⟨⟨⟨⟨⟨hco, hgen⟩, hkind⟩, hfree⟩, hnames⟩, hloc⟩, hnd⟩ := hsc
  have hroom : A.depth < recursionLimit := by
    have := ao.dep
    have e : recursionLimit = 1000 := rfl
    omega
  refine codeAny_call_function hroom (C.g _ _ hK) hdata hco hgen hbody (hcode.keeps C.g) (wpAny_with_toks hm (wpAny_mono (hbind Vs ks vs kvs bs _ C x xk hb fun binds s₂ π₂ C₂ e₂ hρ₂ hnm hvr => fun hm₂ => ?_) (fun _ _ z => z) fun _ _ e => e.elim))
  rw [hclo]
  have hbn : ∀ y ∈ binds.map (·.1), y ∈ ns := fun y hy => hn.subset (hnm ▸ hy)
  have hcell : ∀ y, fd.scope.names.lookup y = some .cell → ∃ c, (cellsFrom (s₂.heap.objs.size + 1) fd.scope.names []).lookup y = some c := fun y e => lookup_some_of (cellsFrom_has fd.scope.names (s₂.heap.objs.size + 1) [] (mem_of_lookup e))
  refine wpAny_with_toks (n := m) hm₂ (wpAny_newFunctionEnv_cells hkind (fun y hy => (hloc y.1 (hbn _ (List.mem_map_of_mem hy))).1.imp id fun e => ⟨e, by obtain ⟨c, hc⟩ := hcell _ e; rw [hc]; rfl⟩) fun env henv s₃ X ht₃ => ?_)
  obtain ⟨⟨⟨h₁, tk, rfl⟩, hns, keep, fresh⟩, cell, apart, above⟩ := X
  have hkindOf : ∀ y, env.kindOf y = fd.scope.names.lookup y := fun y => by rw [henv]; rfl
  have hcn : (env.cells.map (·.1)).Nodup := by rw [henv]; exact cellsFrom_names fd.scope.names _ [] hnames .nil fun _ _ q => by cases q
  have hcells : ∀ y, fd.scope.names.lookup y = some .cell → ∃ c, env.cells.lookup y = some c ∧ c ∈ env.cells.map (·.2) := fun y e => by
    obtain ⟨c, hc⟩ := hcell y e
    have hc' : env.cells.lookup y = some c := by rw [henv]; exact hc
    exact ⟨c, hc', List.mem_map.mpr ⟨_, mem_of_lookup hc', rfl⟩⟩
  have nofree : ∀ y, fd.scope.names.lookup y ≠ some .free := fun y e => hfree _ (mem_of_lookup e) rfl
  have fok : FrOk ⟨D, n, fd.scope, ns, true⟩ env (A.deeper env) (env.cells.map (·.2)) :=
    ⟨dok, ao.deeper env, by rw [henv]; exact hkind, by rw [henv]; exact hglob, by rw [henv]; exact hbi, fun y e => (hkindOf y).trans e, fun y e => (hkindOf y).trans e, fun y e => ⟨(hkindOf y).trans e, hcells y e⟩, fun y e => absurd e (nofree y),
      fun y hy => (hloc y hy).1.imp id .inl, fun y hy => (hloc y hy).2, fun _ y _ => nofree y, hnd, .inr apart, fun z => by rw [henv]; exact htr z⟩
  let f : Fr ⟨D, n, fd.scope, ns, true⟩ := ⟨env, A.deeper env, kp, env.cells.map (·.2), fok⟩
  have big : ∀ a, s₂.heap.objs.size ≤ a → s₂.heap.get? a = none := fun a ha => by
    cases q : s₂.heap.get? a with
    | none => rfl
    | some o => exact absurd (Heap.lt_size q) (Nat.not_lt.mpr ha)
  have fin : ∀ a, s₂.heap.objs.size ≤ a → π₂.fz a = none ∧ kp a = none ∧ a ≠ D.ct ∧ a ∉ π₂.tabs := fun a ha =>
    have h := big a ha
    ⟨none_of C₂.hz h, none_of C₂.hk h, fun z => no_one h (C₂.shIn (.inl z)), fun z => no_one h (C₂.shIn (.inr z))⟩
  have hρ' : π₂.ρ = [] := hρ₂.trans hρ
  have R : Rel f π₂ ⟨ls, [], hd⟩ { s₂ with heap := h₁, toks := tk + 1 } := by
    refine ⟨C₂.grow (s' := { s₂ with heap := h₁, toks := tk + 1 }) keep C₂.gens rfl (Nat.succ_pos _), ⟨_, hns, fun i y V a b => ?_⟩, fun c q => ?_, by rw [hρ']; rfl, fun k l e => (by cases e), by rw [hρ']; exact .nil, ow_cases (f := f) (fin _ fresh) (fun c q => ?_) fun c q => by rw [hρ'] at q; cases q⟩
    · have hV := hls i V b
      obtain ⟨p, hp, rfl⟩ := Option.map_eq_some_iff.mp ((List.getElem?_map ..).symm.trans hV)
      have hy : y = p.1 := by
        obtain ⟨r, hr⟩ := hn
        have : ns[i]? = some p.1 := by
          rw [← hr, List.getElem?_append_left (by rw [List.length_map]; exact (List.getElem?_eq_some_iff.mp hp).1), List.getElem?_map, hp]; rfl
        exact Option.some.inj (a.symm.trans this)
      subst hy
      have hbnd : (bs.map (·.1)).Nodup := hn.sublist.nodup hnd
      obtain ⟨v, xv, b1, b2⟩ := bind_look (kindOf := env.kindOf) bs binds (fun _ => none) (fun _ => none) hnm hbnd hvr i (show bs[i]? = some (p.1, p.2) from hp)
      refine ⟨v, xv, ?_⟩
      rcases (hloc p.1 (List.mem_of_getElem? a)).1 with e | e
      · exact .inl ⟨e, b1 ((hkindOf _).trans e)⟩
      · obtain ⟨c, hc, _⟩ := hcells _ e
        exact .inr ⟨by show fd.scope.names.lookup _ ≠ _; rw [e]; decide, c, hc, b2 ((hkindOf _).trans e) ▸ cell _ _ hc⟩
    · obtain ⟨p, hp, rfl⟩ := List.mem_map.mp q
      exact ⟨_, cell p.1 p.2 (lookup_of_mem hcn hp)⟩
    · obtain ⟨p, hp, rfl⟩ := List.mem_map.mp q
      exact fin _ (Nat.le_trans fresh (Nat.le_of_lt (above p.1 p.2 hp)))
  exact ⟨dok.lim.keeps fun b o e => keep b o (C₂.g b o e), codeAny_func (wpAny_mono (go f π₂ _ ht₃ rfl R e₂) (fun fl s₄ z => z) fun _ _ e => e.elim)⟩
theorem fn_enter {fid : Addr} {sc : Scope} {ns : List Str} {body : List Stmt} {bd : List Mine.V → List (Str × Mine.V) → Option (List (Str × Mine.V))} (dok : DOk D) (hF : FnOk D fid sc body bd) (hsc : scOk sc ns = true)
    {Vs : List Mine.V} {ks : List (Str × Mine.V)} {bs : List (Str × Mine.V)} {ls : List (Option Mine.V)} (hb : bd Vs ks = some bs) (hn : bs.map (·.1) <+: ns) (hls : ∀ i V, gt ls i = some (some V) → (bs.map (·.2))[i]? = some V)
    {vs kvs : List Value} {RR : Result → Shared → Prop} (ao : AOk A (n + 1)) (hρ : π.ρ = []) (C : CRel D kp π hd s) (x : VRels D π Vs vs) (xk : VRels D π (ks.map (·.2)) kvs)
    (go : ∀ (f : Fr ⟨D, n, sc, ns, true⟩) π₂ s₃, f.kp = kp → Rel f π₂ ⟨ls, [], hd⟩ s₃ → π.le π₂ → wpAny (model D.prog D.w) f.A (execs body f.env) (fun fl s₄ => RR (.ok (.ret (match fl with | .ret v => v | _ => .none))) s₄) noE s₃) :
    codeAny (model D.prog D.w) A (.call (.ref fid) ⟨vs, (ks.map (·.1)).zip kvs⟩) RR s :=
  fn_enter0 dok hF hsc hb hn hls ao hρ (m := 1) C.tk (C.grow (fun _ _ e => e) C.gens rfl (Nat.succ_pos _)) x xk fun f π₂ s₃ hm hkp R le => go f π₂ s₃ hkp (R.toks hm) le
theorem fn_ok {fid : Fid} {sc : Scope} {ns : List Str} {body : List Stmt} {bd : List Mine.V → List (Str × Mine.V) → Option (List (Str × Mine.V))} {B : PS} (dok : DOk D) (hF : FnOk D (D.fa fid) sc body bd) (hsc : scOk sc ns = true)
    (hB : SSs ⟨D, n, sc, ns, true⟩ body B) {Vs : List Mine.V} {ks : List (Str × Mine.V)} {bs : List (Str × Mine.V)} {ls : List (Option Mine.V)} {Q : Mine.V → Option (List Mine.V) → Prop} (ho : okVs Vs = true ∧ okVs (ks.map (·.2)) = true) (hb : bd Vs ks = some bs) (hn : bs.map (·.1) <+: ns)
    (hls : ∀ i V, gt ls i = some (some V) → (bs.map (·.2))[i]? = some V) (h : B ⟨ls, [], hd⟩ (leaveC Q)) : CallOk D (n + 1) fid Vs ks hd Q := by
  refine ⟨ho, fun A kp π s vs kvs ao hρ C x xk => fn_enter dok hF hsc hb hn hls ao hρ C x xk fun f π₂ s₃ hkp R e₂ => wpAny_mono (hB.run f π₂ _ _ _ R h) (fun fl s₄ ⟨F, σ₄, π₄, q, R₄, xf, e₄⟩ => ?_) fun _ _ e => e.elim⟩
  subst hkp
  have le : π.le π₄.bare := let z := e₂.trans e₄; ⟨z.fz, by rw [hρ]; exact List.nil_prefix, z.tab⟩
  have out : ∀ {W v}, CPost D f.kp π₄.bare Q v s₄ → W = v → CPost D f.kp π Q W s₄ := fun {W v} z e => e ▸ match z with | ⟨V, hd, π', q, C, x, e, r⟩ => ⟨V, hd, π', q, C, x, le.trans e, r⟩
  cases F with
  | nxt =>
    cases (show fl = .next from xf)
    exact out (leave_ok R₄ (W := .none) (v := .none) rfl q) rfl
  | brk => exact q.elim
  | cont => exact q.elim
  | ret W =>
    obtain ⟨v, rfl, xv⟩ := xf
    exact out (leave_ok R₄ xv q) rfl
end
end

section
open PySem PySem.Calls PyProof.Rows PySem.W

noncomputable def plainArgs : List Expr → Bool
  | [] => true
  | .Starred _ _ :: _ => false
  | _ :: r => plainArgs r
noncomputable def plainKws : List Keyword → Bool
  | [] => true
  | ⟨some _, _, _⟩ :: r => plainKws r
  | _ => false
noncomputable def KeepOk (M : Model) (f : Value) (h : Heap) : Prop := ∃ k, (k = Keeper.frame ∨ k = Keeper.machine ∨ k = Keeper.boundFrame) ∧ Looks M h (keeperOf f) k
noncomputable abbrev PKs := T → (List (Str × V) → T → Prop) → Prop
structure SKs (κ : Kx) (ks : List Keyword) (P : PKs) : Prop where
  run : ∀ (f : Fr κ) π σ s Q pos, Rel f π σ s → P σ Q → Ok f (evalAll ((backToKw pos (keywordEach ks f.env)).map (·.2))) (PostL f π fun l σ => ∃ r, r.map (·.2) = l ∧ r.map (·.1) = (backToKw pos (keywordEach ks f.env)).filterMap (·.1) ∧ Q r σ) s
noncomputable def kNil : PKs := fun σ Q => Q [] σ
noncomputable def kCons (x : Str) (a : PE) (r : PKs) : PKs := fun σ Q => a σ fun v σ => r σ fun vs σ => Q ((x, v) :: vs) σ

section
variable {κ : Kx} {f : Fr κ} {π π' : Pl} {σ σ' : T} {s s' : Shared} {M : Model} {A : Around} {E : Value → Shared → Prop} {env : Env} {pos : Pos} {fv : Value} {first : List Value}
theorem rKNil : SKs κ [] kNil := .mk fun f π σ s Q pos R h => wpAny_evalAll_nil ⟨[], σ, π, ⟨[], rfl, rfl, h⟩, R, .nil, .refl π⟩
theorem rKCons {x : Str} {e : Expr} {p : Pos} {r : List Keyword} {a : PE} {b : PKs} (ha : SE κ e a) (hb : SKs κ r b) : SKs κ (⟨some x, e, p⟩ :: r) (kCons x a b) := .mk fun f π σ s Q pos R h => by
  show Ok f (evalAll ((do let v ← eval e f.env; standAt pos; pure v) :: (backToKw pos (keywordEach r f.env)).map (·.2))) _ s
  refine wpAny_evalAll_cons (wpAny_bind (thenV (ha.run f π σ s _ R h) fun V v σ₁ π₁ s₁ q R₁ x₁ e₁ => wpAny_bind (wpAny_standAt (wpAny_pure ?_))))
  refine thenL (hb.run f π₁ σ₁ s₁ _ pos R₁ q) fun l vs σ₂ π₂ s₂ q R₂ x₂ e₂ => ?_
  obtain ⟨w, rfl, hn, q⟩ := q
  exact ⟨V :: w.map (·.2), σ₂, π₂, ⟨(x, V) :: w, rfl, congrArg (x :: ·) hn, q⟩, R₂, .cons (x₁.le e₂) x₂, e₁.trans e₂⟩
theorem star_plain : ∀ {args : List Expr}, plainArgs args = true → (backTo pos (starEach args env)).any (·.1) = false ∧ (backTo pos (starEach args env)).all (!·.1) = true
  | [], _ => ⟨rfl, rfl⟩
  | e :: r, h => by
    have he : starEach (e :: r) env = (false, eval e env) :: starEach r env ∧ plainArgs r = true := by cases e <;> first | exact ⟨rfl, h⟩ | cases h
    obtain ⟨a, b⟩ := star_plain he.2
    rw [he.1]
    exact ⟨(Bool.false_or _).trans a, (Bool.true_and _).trans b⟩
theorem kw_plain : ∀ {kws : List Keyword}, plainKws kws = true → (backToKw pos (keywordEach kws env)).all (·.1.isSome) = true ∧ (backToKw pos (keywordEach kws env)).any (·.1.isNone) = false
  | [], _ => ⟨rfl, rfl⟩
  | ⟨some x, e, p⟩ :: r, h => let ⟨a, b⟩ := kw_plain (kws := r) h; ⟨(Bool.true_and _).trans a, (Bool.false_or _).trans b⟩
  | ⟨none, _, _⟩ :: _, h => nomatch h
theorem callWith_gen {Q : Value → Shared → Prop} {args : List Expr} {kws : List Keyword} (ha : plainArgs args = true) (hk : plainKws kws = true)
    (h : wpAny M A (spliced (backTo pos (starEach args env))) (fun vs s₁ => wpAny M A (evalAll ((backToKw pos (keywordEach kws env)).map (·.2)))
      (fun ks s₂ => KeepOk M fv s₂.heap ∧ wpAny M A (call fv (first ++ vs) (((backToKw pos (keywordEach kws env)).filterMap (·.1)).zip ks)) Q E s₂) E s₁) E s) :
    wpAny M A (callWith pos fv first (backTo pos (starEach args env)) (backToKw pos (keywordEach kws env))) Q E s := by
  have hp : ((backTo pos (starEach args env)).any (·.1) || (backToKw pos (keywordEach kws env)).any (·.1.isNone)) = false := by rw [(star_plain ha).1, (kw_plain hk).2]; rfl
  refine callWith_of (P := KeepOk M fv) hp (fun h x => x) ?_
  cases args with
  | nil => exact evalArgs_kw2_nil (kw_plain hk).1 fun Γ p hΓ => (h Γ p hΓ) Γ p hΓ
  | cons e r =>
    have he : starEach (e :: r) env = (false, eval e env) :: starEach r env := by cases e <;> first | rfl | cases ha
    exact evalArgs_kw2 (kw_plain hk).1 h he
theorem keep_builtin {id : String} {h : Heap} : KeepOk M (.builtin id) h := ⟨.machine, .inr (.inl rfl), Looks.of_pure rfl⟩
theorem keep_type {id : String} {h : Heap} : KeepOk M (.type id) h := ⟨.machine, .inr (.inl rfl), Looks.of_pure rfl⟩
theorem keep_fn (R : Rel f π σ s) (g : Fid) : KeepOk M (.ref (κ.D.fa g)) s.heap := by
  obtain ⟨o, fd, hK, hd⟩ := f.ok.dok.fns g
  obtain ⟨c, di, da, sl⟩ := o
  subst hd
  exact ⟨.frame, .inl rfl, (Looks.ld (part := none) (R.c.g _ _ hK)).andThen .now⟩

/-- what calling a value means -/
noncomputable def CalOk (κ : Kx) (fv : Value) (C : List V → List (Str × V) → T → (V → T → Prop) → Prop) : Prop := ∀ (f : Fr κ) π σ s Vs ks vs kvs Q, Rel f π σ s → VRels κ.D π Vs vs → VRels κ.D π (ks.map (·.2)) kvs → C Vs ks σ Q →
  KeepOk (Mo κ) fv s.heap ∧ Ok f (call fv vs ((ks.map (·.1)).zip kvs)) (Post f π Q) s
/-- the arguments, then the call -/
theorem args_ok {args : List Expr} {kws : List Keyword} {as : PEs} {ks : PKs} {K : List V → List (Str × V) → T → Prop} {Q : V → T → Prop} (ha : SEs κ args as) (hk : SKs κ kws ks) (pa : plainArgs args = true) (pk : plainKws kws = true) (R : Rel f π σ s) (h : as σ fun vs σ => ks σ fun kv σ => K vs kv σ)
    (fin : ∀ Vs ks vs kvs σ₂ π₂ s₂, K Vs ks σ₂ → Rel f π₂ σ₂ s₂ → VRels κ.D π₂ Vs vs → VRels κ.D π₂ (ks.map (·.2)) kvs → π.le π₂ → KeepOk (Mo κ) fv s₂.heap ∧ Ok f (call fv (first ++ vs) ((ks.map (·.1)).zip kvs)) (Post f π₂ Q) s₂) :
    Ok f (callWith pos fv first (backTo pos (starEach args f.env)) (backToKw pos (keywordEach kws f.env))) (Post f π Q) s := by
  refine callWith_gen pa pk (thenL (ha.run f π σ s _ pos R h) fun Vs vs σ₁ π₁ s₁ q R₁ x₁ e₁ => thenL (hk.run f π₁ σ₁ s₁ _ pos R₁ q.2) fun l kvs σ₂ π₂ s₂ q R₂ x₂ e₂ => ?_)
  obtain ⟨r, rfl, hn, q⟩ := q
  obtain ⟨k, w⟩ := fin _ _ _ _ _ _ _ q R₂ (x₁.le e₂) x₂ (e₁.trans e₂)
  rw [← hn]
  exact ⟨k, calm w fun _ _ => .from (e₁.trans e₂)⟩
noncomputable def pCall (C : List V → List (Str × V) → T → (V → T → Prop) → Prop) (as : PEs) (ks : PKs) : PE := fun σ Q => as σ fun vs σ => ks σ fun kv σ => C vs kv σ Q
/-- a name that stands for a value is called -/
theorem rCall {x : Str} {p : Pos} {args : List Expr} {kws : List Keyword} {as : PEs} {ks : PKs} {C : List V → List (Str × V) → T → (V → T → Prop) → Prop} (hC : CalOk κ fv C) (hk : κ.sc.names.lookup x = some .globalImplicit) (hd : x ≠ "__debug__") (hv : DOk κ.D → κ.D.mg x = some fv ∨ (κ.D.mg x = none ∧ κ.D.mb x = some fv))
    (ha : SEs κ args as) (hks : SKs κ kws ks) (pa : plainArgs args = true := by rfl) (pk : plainKws kws = true := by rfl) : SE κ (.Call (.Name x p) args kws pos) (pCall C as ks) := .mk fun f π σ s Q R h => by
  show Ok f (do callWith pos (← eval (.Name x p) f.env) [] (backTo pos (starEach args f.env)) (backToKw pos (keywordEach kws f.env))) _ s
  exact wpAny_bind (wpAny_Name (load_glob R hk (hv f.ok.dok) (args_ok ha hks pa pk R h fun Vs ks vs kvs σ₂ π₂ s₂ q R₂ x₂ xk e₂ => hC f π₂ σ₂ s₂ Vs ks vs kvs Q R₂ x₂ xk q)) (beq_eq_false_iff_ne.mpr hd))
/-- a function of the text -/
noncomputable def cFn (D : GD) (h : Nat) (g : Fid) (Vs : List V) (ks : List (Str × V)) (σ : T) (Q : V → T → Prop) : Prop := CallOk D h g Vs ks σ.hd fun v hd => Q v ⟨σ.ls, σ.objs, hd⟩
theorem fn_run {h : Nat} {g : Fid} {Vs : List V} {ks : List (Str × V)} {vs kvs : List Value} {Q : V → Option (List V) → Prop} (R : Rel f π σ s) (hn : h ≤ κ.n) (x : VRels κ.D π Vs vs) (xk : VRels κ.D π (ks.map (·.2)) kvs) (q : CallOk κ.D h g Vs ks σ.hd Q) :
    codeAny (Mo κ) f.A (.call (.ref (κ.D.fa g)) ⟨vs, (ks.map (·.1)).zip kvs⟩) (fun r s' => match r with | .ok (.ret v) => Post f π (fun v σ' => σ'.ls = σ.ls ∧ σ'.objs = σ.objs ∧ Q v σ'.hd) v s' | .ok _ => False | .error _ => False) s := by
  refine codeAny_mono (q.2 f.A (f.held π s.heap) π.bare s vs kvs (f.ok.ao.down hn) rfl R.out (VRels.move (π := π) (π' := π.bare) (fun _ _ e => e) (.inr rfl) _ _ (.inr q.1.1) x) (VRels.move (π := π) (π' := π.bare) (fun _ _ e => e) (.inr rfl) _ _ (.inr q.1.2) xk)) fun r s' z => ?_
  cases r with
  | error e => exact z.elim
  | ok fl =>
    cases fl with
    | ret v =>
      obtain ⟨V, hd, π', q, C, xv, e, hr⟩ := z
      obtain ⟨R', e'⟩ := R.back C e
      exact ⟨V, ⟨σ.ls, σ.objs, hd⟩, _, ⟨rfl, rfl, q⟩, R', VRel.move (π := π') (π' := π'.with π.ρ) (fun _ _ e => e) (.inr rfl) V v (.inl (by rw [hr]; exact List.nil_prefix)) xv, e'⟩
    | _ => exact z.elim
theorem Post.ofFn {Q : V → T → Prop} {v : Value} : Post f π (fun v σ' => σ'.ls = σ.ls ∧ σ'.objs = σ.objs ∧ Q v ⟨σ.ls, σ.objs, σ'.hd⟩) v s → Post f π Q v s
  | ⟨V, ⟨ls, objs, hd⟩, π', ⟨h1, h2, q⟩, R, x, e⟩ => by
    dsimp only at h1 h2 q
    subst h1; subst h2
    exact ⟨V, _, π', q, R, x, e⟩
theorem fn_call {h : Nat} {g : Fid} {Vs : List V} {ks : List (Str × V)} {vs kvs : List Value} {Q : V → T → Prop} (R : Rel f π σ s) (hn : h ≤ κ.n) (x : VRels κ.D π Vs vs) (xk : VRels κ.D π (ks.map (·.2)) kvs) (q : cFn κ.D h g Vs ks σ Q) : Ok f (call (.ref (κ.D.fa g)) vs ((ks.map (·.1)).zip kvs)) (Post f π Q) s :=
  wpAny_call (codeAny_mono (fn_run R hn x xk q) fun r s' z => by
    cases r with
    | ok fl => cases fl <;> first | exact z.ofFn | exact z.elim
    | error e => exact z.elim)
theorem cFn_ok {h : Nat} {g : Fid} (hn : h ≤ κ.n) : CalOk κ (.ref (κ.D.fa g)) (cFn κ.D h g) := fun f π σ s Vs ks vs kvs Q R x xk q => ⟨keep_fn R g, fn_call R hn x xk q⟩
theorem rFn {h : Nat} {g : Fid} {x : Str} {p : Pos} {args : List Expr} {kws : List Keyword} {as : PEs} {ks : PKs} (hn : h ≤ κ.n) (hg : isG g = true) (hx : fnm g = x) (hk : κ.sc.names.lookup x = some .globalImplicit) (hd : x ≠ "__debug__") (ha : SEs κ args as) (hks : SKs κ kws ks)
    (pa : plainArgs args = true := by rfl) (pk : plainKws kws = true := by rfl) : SE κ (.Call (.Name x p) args kws pos) (pCall (cFn κ.D h g) as ks) :=
  rCall (cFn_ok hn) hk hd (fun d => .inl (hx ▸ d.gl g hg)) ha hks pa pk
/-- a builtin's name is called: typed by its arguments -/
theorem rBlt {C : List V → List (Str × V) → T → (V → T → Prop) → Prop} {x : Str} {p : Pos} {args : List Expr} {kws : List Keyword} {as : PEs} {ks : PKs} (hC : CalOk κ fv C) (hx : bnames.lookup x = some fv) (hk : κ.sc.names.lookup x = some .globalImplicit) (hd : x ≠ "__debug__") (ha : SEs κ args as) (hks : SKs κ kws ks)
    (pa : plainArgs args = true := by rfl) (pk : plainKws kws = true := by rfl) : SE κ (.Call (.Name x p) args kws pos) (pCall C as ks) :=
  rCall hC hk hd (fun d => .inr (d.bl x fv hx)) ha hks pa pk
end
end

section
open PySem PySem.Calls PyProof.Rows PySem.W
noncomputable def repl (a : Nat) (b : List Nat) (l : List Nat) : List Nat := l.flatMap fun c => if c = a then b else [c]
noncomputable def find1 (c : Nat) (l : List Nat) (lo hi : Nat) : Int := match ((l.take hi).drop lo).findIdx? (· == c) with
  | some i => (i : Int) + lo
  | none => -1
noncomputable def joinL (sep : List Nat) : List (List Nat) → List Nat
  | [] => []
  | [x] => x
  | x :: r => x ++ sep ++ joinL sep r
noncomputable def isPre : List Nat → List Nat → Bool
  | [], _ => true
  | _ :: _, [] => false
  | a :: x, b :: y => a == b && isPre x y
noncomputable def rpart (sep : List Nat) : List Nat → Option (List Nat × List Nat)
  | [] => none
  | c :: r => match rpart sep r with
    | some (a, b) => some (c :: a, b)
    | none => if isPre sep (c :: r) then some ([], (c :: r).drop sep.length) else none
noncomputable def splitGo (sep : List Nat) : Nat → List Nat → List Nat → List (List Nat)
  | 0, acc, _ => [acc.reverse]
  | _ + 1, acc, [] => [acc.reverse]
  | n + 1, acc, c :: r => if isPre sep (c :: r) then acc.reverse :: splitGo sep n [] ((c :: r).drop sep.length) else splitGo sep n (c :: acc) r
noncomputable def splitL (sep x : List Nat) : List (List Nat) := splitGo sep (x.length + 1) [] x

noncomputable def decL (i : Int) : List Nat := lit (Str.ofString (toString i))
noncomputable def reprL (l : List Nat) : List Nat := (PySem.reprText ⟨l.toArray⟩).cps.toList

noncomputable def barName (c : Nat) : Bool := c < 32 || c == 127
noncomputable def barVal (c : Nat) : Bool := c < 9 || (10 ≤ c && c < 32) || c == 127
noncomputable def special (c : Nat) : Bool := (lit "()[]{}?*+-|^$\\.&~# \t\n\r\x0b\x0c").contains c

noncomputable def barsTwin (l : List Nat) : Bool := l.any fun c => c == 38 || c == 124 || c == 126




theorem join_L (sep : Str) : ∀ ps : List Str, (Str.join sep ps).cps.toList = joinL sep.cps.toList (ps.map (·.cps.toList))
  | [] => rfl
  | [x] => rfl
  | x :: y :: r => by
    have ih := join_L sep (y :: r)
    show ((x ++ sep ++ Str.join sep (y :: r)).cps).toList = x.cps.toList ++ sep.cps.toList ++ joinL sep.cps.toList ((y :: r).map (·.cps.toList))
    rw [← ih]
    simp [Str.cps_append]

theorem repl_free {c : Nat} {z : List Nat} : ∀ {l : List Nat}, c ∉ l → repl c z l = l
  | [], _ => rfl
  | a :: l, h => by
    have h1 : ¬ a = c := fun q => h (q ▸ .head _)
    have h2 : c ∉ l := fun q => h (.tail _ q)
    have ih := repl_free (z := z) h2
    unfold repl at ih ⊢
    rw [List.flatMap_cons, ih, if_neg h1]
    rfl
theorem repl_append {c : Nat} {z a b : List Nat} : repl c z (a ++ b) = repl c z a ++ repl c z b := by unfold repl; rw [List.flatMap_append]
theorem repl_join {c : Nat} {z : List Nat} : ∀ {ps : List (List Nat)}, (∀ p ∈ ps, c ∉ p) → repl c z (joinL [c] ps) = joinL z ps
  | [], _ => rfl
  | [x], h => repl_free (h x (.head _))
  | x :: y :: r, h => by
    show repl c z (x ++ [c] ++ joinL [c] (y :: r)) = x ++ z ++ joinL z (y :: r)
    rw [repl_append, repl_append, repl_free (h x (.head _)), repl_join fun p hp => h p (.tail _ hp)]
    unfold repl
    simp
theorem replace_is (l : List Nat) (c : Nat) (z : Str) : (Txt.replace ⟨l.toArray⟩ ⟨#[c]⟩ z).cps.toList = repl c z.cps.toList l := by
  rw [StrLaws.replace_one, join_L]
  have h1 := StrLaws.join_split ⟨l.toArray⟩ ⟨#[c]⟩
  have h2 : l = joinL [c] ((Txt.split ⟨l.toArray⟩ ⟨#[c]⟩).map (·.cps.toList)) := by
    have := congrArg (fun s : Str => s.cps.toList) h1
    rw [join_L] at this
    simpa using this.symm
  conv => rhs; rw [h2]
  rw [repl_join]
  intro p hp
  obtain ⟨q, hq, rfl⟩ := List.mem_map.mp hp
  exact StrLaws.split_free _ c q hq





section
open PySem.StrLaws Builtin.Str
theorem occ_from (x y : Str) (lo hi limit : Nat) (hl : 1 ≤ limit) :
    (occurrences x y lo hi limit = [] ∧ ∀ i, lo ≤ i → ¬ At x y hi i) ∨
    ∃ i r, occurrences x y lo hi limit = i :: r ∧ lo ≤ i ∧ At x y hi i ∧ ∀ k, lo ≤ k → k < i → ¬ At x y hi k := by
  rw [occ_eq]
  rcases occ_first x y hi limit hl (List.range' lo (hi + 1 - lo)) lo (fun i hi => by have := List.mem_range'_1.mp hi; omega) with ⟨h0, hn⟩ | ⟨pre, a, post, e, h0, ha, hn⟩
  · refine .inl ⟨by rw [h0], fun i hlo hi => ?_⟩
    exact hn i (by have := hi.1; rw [List.mem_range'_1]; omega) hi
  · have hs := range'_split_from e
    refine .inr ⟨a, ((forIn (List.range' lo (hi + 1 - lo)) ((#[] : Array Nat), lo) (occBody x y hi limit)).run.fst.toList).tail, ?_, hs.1, ha, fun k hk0 hk => hn k (hs.2 k hk0 hk)⟩
    generalize (forIn (List.range' lo (hi + 1 - lo)) ((#[] : Array Nat), lo) (occBody x y hi limit)).run.fst = arr at h0
    have h1 : arr.toList[0]? = some a := by simpa using h0
    cases hL : arr.toList with
    | nil => rw [hL] at h1; cases h1
    | cons b t => rw [hL] at h1; simp at h1; rw [h1]; rfl

theorem at_one (l : List Nat) (c hi i : Nat) (hh : hi ≤ l.length) : At ⟨l.toArray⟩ ⟨#[c]⟩ hi i ↔ i < hi ∧ l[i]? = some c := by
  have h := subAt_one ⟨l.toArray⟩ c i
  have e1 : (⟨#[c]⟩ : Str).length = 1 := rfl
  have e2 : (⟨l.toArray⟩ : Str).length = l.length := str_len l
  have e3 : (⟨l.toArray⟩ : Str).cps.toList = l := by simp
  rw [e1, e2, e3] at h
  show (i + (⟨#[c]⟩ : Str).length ≤ hi ∧ _) ↔ _
  rw [e1]
  constructor
  · rintro ⟨a, b⟩
    exact ⟨by omega, h.mp ⟨by omega, b⟩⟩
  · rintro ⟨a, b⟩
    exact ⟨by omega, (h.mpr b).2⟩

theorem find_is (l : List Nat) (c lo hi : Nat) (hh : hi ≤ l.length) : (match occurrences ⟨l.toArray⟩ ⟨#[c]⟩ lo hi 1 with | k :: _ => (k : Int) | [] => -1) = find1 c l lo hi := by
  unfold find1
  have get : ∀ j, ((l.take hi).drop lo)[j]? = if lo + j < hi then l[lo + j]? else none := fun j => by
    rw [List.getElem?_drop, List.getElem?_take]
  rcases occ_from ⟨l.toArray⟩ ⟨#[c]⟩ lo hi 1 (Nat.le_refl 1) with ⟨e, hn⟩ | ⟨i, r, e, h1, h2, h3⟩
  · rw [e]
    have : ((l.take hi).drop lo).findIdx? (· == c) = none := by
      rw [List.findIdx?_eq_none_iff]
      intro x hx
      obtain ⟨j, hj⟩ := List.mem_iff_getElem?.mp hx
      rw [get] at hj
      split at hj
      · rename_i hlt
        have no := hn (lo + j) (by omega)
        rw [at_one l c hi _ hh] at no
        cases hb : x == c with
        | false => rfl
        | true =>
          have hxc := eq_of_beq hb
          subst hxc
          exact absurd (And.intro hlt hj) no
      · cases hj
    rw [this]
  · rw [e]
    rw [at_one l c hi _ hh] at h2
    have : ((l.take hi).drop lo).findIdx? (· == c) = some (i - lo) := by
      rw [List.findIdx?_eq_some_iff_getElem]
      have hlen : i - lo < ((l.take hi).drop lo).length := by
        rw [List.length_drop, List.length_take]
        omega
      refine ⟨hlen, ?_, fun j hj => ?_⟩
      · have g := get (i - lo)
        rw [show lo + (i - lo) = i by omega, if_pos h2.1, h2.2, List.getElem?_eq_getElem hlen] at g
        rw [Option.some.inj g]
        simp
      · have hl2 : j < ((l.take hi).drop lo).length := by omega
        have g := get j
        rw [if_pos (by omega), List.getElem?_eq_getElem hl2] at g
        have := h3 (lo + j) (by omega) (by omega)
        rw [at_one l c hi _ hh] at this
        intro hb
        have hb' := eq_of_beq hb
        exact this ⟨by omega, by rw [← g, hb']⟩
    rw [this]
    show ((i : Nat) : Int) = ((i - lo : Nat) : Int) + (lo : Int)
    omega

theorem from_is {n : Nat} {i : Int} (h : 0 ≤ i) : fromIndex n i = i.toNat := by
  unfold fromIndex
  rw [if_neg (by omega)]
  congr 1
  omega

theorem gives_find2 (x y : Str) (i j : Int) (t u v w : Tok) : Gives (Builtin.«str.find» ⟨[.str x t, .str y u, .int i v, .int j w], []⟩) (.int (match occurrences x y (fromIndex x.length i) (min (fromIndex x.length j) x.length) 1 with | k :: _ => (k : Int) | [] => -1)) := by
  show Gives (match occurrences x y (fromIndex x.length i) (min (fromIndex x.length j) x.length) 1 with | k :: _ => retInt k | [] => (do rule "str.find.not-found"; retInt (-1))) _
  cases occurrences x y (fromIndex x.length i) (min (fromIndex x.length j) x.length) 1 with
  | nil => exact .rule (.of_eq rfl)
  | cons k _ => exact .of_eq rfl





theorem strsAre_values : ∀ {vs : List Value} {ys : List Str}, StrsAre vs ys → ∃ l : List (Str × Tok), vs = strValues l ∧ l.map (·.1) = ys
  | _, _, .nil => ⟨[], rfl, rfl⟩
  | _, _, .cons x t h => by
    obtain ⟨l, e1, e2⟩ := strsAre_values h
    exact ⟨(x, t) :: l, by rw [e1]; rfl, by rw [← e2]; rfl⟩
theorem fold_sum (k : Nat) : ∀ (l : List Str) (a : Nat), l.foldl (· + ·.length + k) a = a + (l.map fun x => x.length + k).sum
  | [], a => by simp
  | x :: r, a => by
    rw [List.foldl_cons, fold_sum k r]
    simp only [List.map_cons, List.sum_cons]
    omega
theorem join_ok {sep : List Nat} {ls : List (List Nat)} (h : (ls.map fun y => y.length + sep.length).sum ≤ big) : JoinOk ⟨sep.toArray⟩ (ls.map fun x => (⟨x.toArray⟩ : Str)) = true := by
  unfold JoinOk tooLong
  rw [Bool.not_eq_true', decide_eq_false_iff_not, List.foldl_toArray, fold_sum, str_len]
  rw [show (List.map (fun x => x.length + sep.length) (List.map (fun x => (⟨x.toArray⟩ : Str)) ls)) = ls.map fun y => y.length + sep.length by
    rw [List.map_map]
    apply List.map_congr_left
    intro y _
    simp [str_len]]
  rw [big_is] at h
  omega
theorem join_text {sep : List Nat} {ls : List (List Nat)} : Txt.join ⟨sep.toArray⟩ (ls.map fun x => (⟨x.toArray⟩ : Str)) = ⟨(joinL sep ls).toArray⟩ := by
  refine str_ext ?_
  unfold Txt.join
  rw [glued_eq_join, join_L]
  simp [Function.comp_def]





theorem isPre_iff : ∀ {x l : List Nat}, isPre x l = true ↔ l.take x.length = x
  | [], l => by simp [isPre]
  | a :: x, [] => by simp [isPre]
  | a :: x, b :: l => by
    have ih := @isPre_iff x l
    simp only [isPre, Bool.and_eq_true, beq_iff_eq, List.length_cons, List.take_succ_cons, List.cons.injEq]
    rw [ih]
    exact ⟨fun ⟨p, q⟩ => ⟨p.symm, q⟩, fun ⟨p, q⟩ => ⟨p.symm, q⟩⟩
theorem rpart_spec {sep : List Nat} (hs : sep ≠ []) : ∀ l : List Nat, (rpart sep l = none ∧ ∀ i, ¬ isPre sep (l.drop i) = true) ∨
    ∃ i, rpart sep l = some (l.take i, l.drop (i + sep.length)) ∧ isPre sep (l.drop i) = true ∧ ∀ k, i < k → ¬ isPre sep (l.drop k) = true
  | [] => .inl ⟨rfl, fun i h => by
      rw [isPre_iff] at h
      simp at h
      exact hs h⟩
  | c :: r => by
    rcases rpart_spec hs r with ⟨e, hn⟩ | ⟨i, e, h1, h2⟩
    · by_cases hp : isPre sep (c :: r) = true
      · refine .inr ⟨0, ?_, hp, fun k hk => ?_⟩
        · unfold rpart
          rw [e]
          simp [hp]
        · obtain ⟨j, rfl⟩ : ∃ j, k = j + 1 := ⟨k - 1, by omega⟩
          exact hn j
      · refine .inl ⟨?_, fun i => ?_⟩
        · unfold rpart
          rw [e]
          simp [hp]
        · cases i with
          | zero => exact hp
          | succ j => exact hn j
    · refine .inr ⟨i + 1, ?_, h1, fun k hk => ?_⟩
      · unfold rpart
        rw [e]
        simp only [List.take_succ_cons]
        rw [show i + 1 + sep.length = (i + sep.length) + 1 by omega, List.drop_succ_cons]
      · obtain ⟨j, rfl⟩ : ∃ j, k = j + 1 := ⟨k - 1, by omega⟩
        exact h2 j (by omega)
theorem at_pre {l sep : List Nat} (hs : sep ≠ []) {i : Nat} : At ⟨l.toArray⟩ ⟨sep.toArray⟩ (⟨l.toArray⟩ : Str).length i ↔ isPre sep (l.drop i) = true := by
  show (i + (⟨sep.toArray⟩ : Str).length ≤ (⟨l.toArray⟩ : Str).length ∧ subAt ⟨l.toArray⟩ ⟨sep.toArray⟩ i = true) ↔ _
  rw [subAt_eq, str_len, str_len, isPre_iff]
  simp only [beq_iff_eq]
  constructor
  · exact fun h => h.2
  · intro h
    refine ⟨?_, h⟩
    have := congrArg List.length h
    rw [List.length_take, List.length_drop] at this
    have : sep.length ≠ 0 := fun q => hs (List.length_eq_zero_iff.mp q)
    omega





theorem sub_list (l : List Nat) (a b : Nat) : (strSub ⟨l.toArray⟩ a b).cps.toList = (l.drop a).take (b - a) := by
  rw [strSub_toList]
theorem split_go {l sep : List Nat} (hs : sep ≠ []) : ∀ (n a : Nat) (acc : List Nat) (cuts : List Nat) (f : Nat), l.length < n + a → a ≤ l.length → ChainG ⟨l.toArray⟩ ⟨sep.toArray⟩ (⟨l.toArray⟩ : Str).length a cuts f →
    (∀ k, f ≤ k → ¬ At ⟨l.toArray⟩ ⟨sep.toArray⟩ (⟨l.toArray⟩ : Str).length k) →
    ∃ p r, (partsFrom ⟨l.toArray⟩ (⟨sep.toArray⟩ : Str).length a cuts).map (·.cps.toList) = p :: r ∧ splitGo sep n acc (l.drop a) = (acc.reverse ++ p) :: r := by
  intro n
  induction n with
  | zero => intro a acc cuts f h ha _ _; omega
  | succ n ih =>
    intro a acc cuts f h ha hc hn
    have hw : 1 ≤ sep.length := by
      have : sep.length ≠ 0 := fun q => hs (List.length_eq_zero_iff.mp q)
      omega
    have hw' : (⟨sep.toArray⟩ : Str).length = sep.length := str_len sep
    have hL : (⟨l.toArray⟩ : Str).length = l.length := str_len l
    cases hd : l.drop a with
    | nil =>
      have hal : a = l.length := by
        have := congrArg List.length hd
        rw [List.length_drop, List.length_nil] at this
        omega
      cases cuts with
      | nil =>
        refine ⟨[], [], ?_, ?_⟩
        · show [(strSub _ a _).cps.toList] = _
          rw [sub_list, hd]; simp
        · unfold splitGo; simp
      | cons d r =>
        have h1 := hc.1
        have h2 := hc.2.1.1
        rw [hw', hL] at h2
        omega
    | cons c0 r0 =>
      have hr0 : r0 = l.drop (a + 1) := by
        rw [← List.drop_drop, hd]; rfl
      have hlt : a < l.length := by
        have := congrArg List.length hd
        rw [List.length_drop, List.length_cons] at this
        omega
      unfold splitGo
      by_cases hp : isPre sep (c0 :: r0) = true
      · rw [if_pos hp]
        have hat : At ⟨l.toArray⟩ ⟨sep.toArray⟩ (⟨l.toArray⟩ : Str).length a := (at_pre hs).mpr (by rw [hd]; exact hp)
        cases cuts with
        | nil => exact absurd hat (hn a (Nat.le_of_eq hc))
        | cons d r =>
          have hda : d = a := by
            have h1 := hc.1
            by_cases z : a < d
            · exact absurd hat (hc.2.2.1 a (Nat.le_refl _) z)
            · omega
          subst hda
          have hle : d + sep.length ≤ l.length := by
            have := hat.1
            rw [hw', hL] at this
            exact this
          have hc' := hc.2.2.2
          rw [hw'] at hc'
          obtain ⟨p, q, e1, e2⟩ := ih (d + sep.length) [] r f (by omega) hle hc' hn
          refine ⟨[], p :: q, ?_, ?_⟩
          · show (strSub _ d d).cps.toList :: (partsFrom _ _ (d + (⟨sep.toArray⟩ : Str).length) r).map _ = _
            rw [hw', sub_list, ← hw', hw', ← e1, hw']
            simp
          · rw [← hd, List.drop_drop, e2]
            simp
      · rw [if_neg hp]
        have hat : ¬ At ⟨l.toArray⟩ ⟨sep.toArray⟩ (⟨l.toArray⟩ : Str).length a := fun q => hp (by rw [← hd]; exact (at_pre hs).mp q)
        cases cuts with
        | nil =>
          have hfa : f = a := hc
          obtain ⟨p, q, e1, e2⟩ := ih (a + 1) (c0 :: acc) [] (a + 1) (by omega) (by omega) rfl fun k hk => hn k (by omega)
          have e1' : [(strSub ⟨l.toArray⟩ (a + 1) (⟨l.toArray⟩ : Str).length).cps.toList] = p :: q := e1
          rw [sub_list, hL] at e1'
          injection e1' with e3 e4
          refine ⟨c0 :: p, [], ?_, ?_⟩
          · show [(strSub _ a _).cps.toList] = _
            rw [sub_list, hd, ← e3, hL, ← hr0]
            rw [show l.length - a = (l.length - (a + 1)) + 1 by omega, List.take_succ_cons]
          · rw [hr0, e2, ← e4]
            simp
        | cons d r =>
          have h1 := hc.1
          have hda : a ≠ d := fun z => hat (z ▸ hc.2.1)
          obtain ⟨p, q, e1, e2⟩ := ih (a + 1) (c0 :: acc) (d :: r) f (by omega) (by omega) ⟨by omega, hc.2.1, fun k h1 h2 => hc.2.2.1 k (by omega) h2, hc.2.2.2⟩ hn
          have e1' : (strSub ⟨l.toArray⟩ (a + 1) d).cps.toList :: (partsFrom _ _ (d + (⟨sep.toArray⟩ : Str).length) r).map _ = p :: q := e1
          rw [sub_list] at e1'
          injection e1' with e3 e4
          refine ⟨c0 :: p, q, ?_, ?_⟩
          · show (strSub _ a d).cps.toList :: (partsFrom _ _ (d + (⟨sep.toArray⟩ : Str).length) r).map _ = _
            rw [sub_list, hd, e4, ← e3, ← hr0]
            rw [show d - a = (d - (a + 1)) + 1 by omega, List.take_succ_cons]
          · rw [hr0, e2]
            simp

theorem split_none {l sep : List Nat} (hs : sep ≠ []) (hn : ∀ k, ¬ At ⟨l.toArray⟩ ⟨sep.toArray⟩ (⟨l.toArray⟩ : Str).length k) : splitL sep l = [l] := by
  obtain ⟨p, r, e1, e2⟩ := split_go hs (l.length + 1) 0 [] [] 0 (by omega) (Nat.zero_le _) rfl fun k _ => hn k
  unfold splitL
  have e1' : [(strSub ⟨l.toArray⟩ 0 (⟨l.toArray⟩ : Str).length).cps.toList] = p :: r := e1
  rw [sub_list, str_len] at e1'
  simp at e1'
  rw [List.drop_zero] at e2
  rw [e2, ← e1'.1, e1'.2]
  simp
theorem split_some {l sep : List Nat} (hs : sep ≠ []) : (Builtin.Str.partsBetween ⟨l.toArray⟩ (Builtin.Str.occurrences ⟨l.toArray⟩ ⟨sep.toArray⟩ 0 (⟨l.toArray⟩ : Str).length ((⟨l.toArray⟩ : Str).length + 1)) (⟨sep.toArray⟩ : Str).length).map (·.cps.toList) = splitL sep l := by
  have hw : 1 ≤ (⟨sep.toArray⟩ : Str).length := by
    rw [str_len]
    have : sep.length ≠ 0 := fun q => hs (List.length_eq_zero_iff.mp q)
    omega
  obtain ⟨f, hc, hn⟩ := occ_tight ⟨l.toArray⟩ ⟨sep.toArray⟩ hw
  rw [partsBetween_eq]
  obtain ⟨p, r, e1, e2⟩ := split_go hs (l.length + 1) 0 [] _ f (by omega) (Nat.zero_le _) hc hn
  rw [e1]
  unfold splitL
  rw [List.drop_zero] at e2
  rw [e2]
  simp
theorem kind_mono {l sep : List Nat} (hs : sep ≠ []) {k : Nat} (h : At ⟨l.toArray⟩ ⟨sep.toArray⟩ (⟨l.toArray⟩ : Str).length k) : Builtin.Str.strKind ⟨sep.toArray⟩ ≤ Builtin.Str.strKind ⟨l.toArray⟩ := by
  have hp := isPre_iff.mp ((at_pre hs).mp h)
  have sub : ∀ c ∈ sep, c ∈ l := fun c hc => by
    rw [← hp] at hc
    exact List.mem_of_mem_drop (List.mem_of_mem_take hc)
  have all : ∀ B : Nat, (l.toArray).all (· < B) = true → (sep.toArray).all (· < B) = true := fun B hB => by
    rw [List.all_toArray, List.all_eq_true] at hB ⊢
    exact fun c hc => hB c (sub c hc)
  unfold Builtin.Str.strKind
  dsimp only
  by_cases a1 : (l.toArray).all (· < 256) = true
  · rw [if_pos a1, if_pos (all 256 a1)]
    exact Nat.le_refl _
  · rw [if_neg a1]
    by_cases a2 : (l.toArray).all (· < 65536) = true
    · rw [if_pos a2]
      by_cases b1 : (sep.toArray).all (· < 256) = true
      · rw [if_pos b1]; decide
      · rw [if_neg b1, if_pos (all 65536 a2)]
        exact Nat.le_refl _
    · rw [if_neg a2]
      by_cases b1 : (sep.toArray).all (· < 256) = true
      · rw [if_pos b1]; decide
      · rw [if_neg b1]
        by_cases b2 : (sep.toArray).all (· < 65536) = true
        · rw [if_pos b2]; decide
        · rw [if_neg b2]; exact Nat.le_refl _
theorem splitGo_len2 (sep : List Nat) (hs : sep ≠ []) : ∀ (n : Nat) (acc l : List Nat), (splitGo sep n acc l).length ≤ l.length + 1
  | 0, _, _ => by unfold splitGo; simp
  | n + 1, acc, [] => by unfold splitGo; simp
  | n + 1, acc, c :: r => by
    unfold splitGo
    split
    · rename_i hp
      cases sep with
      | nil => exact absurd rfl hs
      | cons a b =>
        have := splitGo_len2 (a :: b) hs n [] ((c :: r).drop (a :: b).length)
        simp only [List.length_cons, List.drop_succ_cons, List.length_drop] at this ⊢; omega
    · have := splitGo_len2 sep hs n (c :: acc) r
      simp only [List.length_cons]; omega



end
section
open PySem.Builtin PySem.Builtin.Str
section
variable {M : Model} {A : Around} {E : Value → Shared → Prop} {s : Shared}
theorem translate_tree {c : Nat} {t : Tok} {d : Value} {Q : Fin → Shared → Prop} (hc : c < 128)
  (h : wpAny M A (tableLookup d c) (fun m s₁ => m = .keep ∧ Q (.done (.ret (.str ⟨#[c]⟩ s₁.toks))) { s₁ with toks := s₁.toks + 1 } ∨ ∃ a b, m = .text ⟨#[a, b]⟩ ∧ wpAny M A (tableLookup d c) (fun m s₂ => ∃ a b, m = .text ⟨#[a, b]⟩ ∧ Q (.done (.ret (.str ⟨#[a, b]⟩ s₂.toks))) { s₂ with toks := s₂.toks + 1 }) E s₁) E s) :
   wpAny M A (Builtin.«str.translate» ⟨[.str ⟨#[c]⟩ t, d], []⟩) Q E s := by
  have e1 : strOneArg "translate" ⟨[.str ⟨#[c]⟩ t, d], []⟩ = pure (.str ⟨#[c]⟩ t, ⟨#[c]⟩, d) := by kernel_rfl
  unfold Builtin.«str.translate»
  rw [e1]
  refine wpAny_bind (wpAny_pure ?_)
  dsimp only
  rw [if_neg (by exact Bool.false_ne_true)]
  have e0 : tooLong 0 = false := by decide
  have hall : (#[c].all fun x => decide (x < 128)) = true := by simp [hc]
  simp only [← Array.forIn_toList, List.forIn_cons, List.forIn_nil, e0, hall, Bool.false_eq_true, if_false, if_true, List.lookup, pure_bind, bind_assoc]
  refine wpAny_bind (wpAny_mono h (fun m s₁ z => ?_) fun _ _ e => e)
  rcases z with ⟨rfl, q⟩ | ⟨a, b, rfl, q⟩
  · simp only [pure_bind]
    rw [if_neg (by decide)]
    exact wpAny_bind (wpAny_mkStr (wpAny_pure q) (by show 1 ≤ sizeLine; decide))
  · have e2 : ((⟨#[a, b]⟩ : Str).length == 1 && #[a, b].all fun x => decide (x < 128)) = false := rfl
    simp only [e2, Bool.false_eq_true, if_false]
    refine wpAny_bind (wpAny_bind (wpAny_rule (wpAny_bind (wpAny_mono q (fun m s₂ z => ?_) fun _ _ e => e))))
    obtain ⟨a', b', rfl, q⟩ := z
    refine wpAny_pure ?_
    simp only [pure_bind]
    rw [if_neg (by show ¬ (tooLong (0 + 2) = true); decide)]
    exact wpAny_bind (wpAny_mkStr (wpAny_pure q) (by show 2 ≤ sizeLine; decide))
end

end
end

section
open PySem PySem.Calls PyProof.Rows PySem.W

theorem mro_obj : mroOf (.type "object") = pure [.type "object"] := by rw [mroOf_type]; kernel_rfl
theorem lookup_obj_new : typeLookup (.type "object") "__new__" = pure (some (.builtin "object.__new__")) := by rw [typeLookup_type, builtinLookup_eq_fast]; kernel_rfl
theorem slot_obj_init : Slot "object" "__init__" "object.__init__" :=
  .of (owner := "object") (n := "__init__") (by rw [typeLookup_type, builtinLookup_eq_fast]; kernel_rfl) (by decide +kernel) (by decide +kernel) (by decide +kernel)
    (by first | exact .inl (by decide +kernel) | exact .inr (by decide +kernel)) (by rw [isSubtype_type]; kernel_rfl)
theorem called_obj : TypeCalled "object" "object.__new__" "object.__init__" :=
  ⟨by decide +kernel, by decide +kernel, ⟨_, _, mro_obj⟩, madeBy_type mro_obj lookup_obj_new (by decide +kernel), by decide +kernel, by rw [isSubtype_type]; kernel_rfl, slot_obj_init⟩
theorem typeCall_obj : checkTypeCall "object" ⟨[], []⟩ = pure () := by kernel_rfl
theorem newCall_obj : checkBuiltinCall "object.__new__" ⟨[.type "object"], []⟩ = pure () := by kernel_rfl
theorem obj_init1 (a : Value) : argsOk "object.__init__" ⟨[a], []⟩ := by
  unfold argsOk; rw [signature?_of (id := "object.__init__") (n := ['_', '_', 't', 'i', 'n', 'i', '_', '_']) (o := ['t', 'c', 'e', 'j', 'b', 'o']) (by kernel_rfl) PySem.F.owner_object]; kernel_rfl
theorem obj_new_tree : Builtin.«object.__new__» ⟨[.type "object"], []⟩ = (do let v ← newObj (.type "object") .plain none; ret v) := by kernel_rfl
theorem call_obj {prog : Program} {w : World} {A : Around} {E : Value → Shared → Prop} {s : Shared} {Q : Value → Shared → Prop} (h : Q (.ref s.heap.objs.size) { s with heap := s.heap.push { cls := .type "object", data := .plain } }) :
    wpAny (model prog w) A (call (.type "object") []) Q E s := by
  refine callType_meets (S := fun _ R s => R (.ok (.ret (.ref s.heap.objs.size))) { s with heap := s.heap.push { cls := .type "object", data := .plain } }) (Q₁ := fun obj s₁ => s₁.TypeIs obj "object" ∧ Q obj s₁) called_obj typeCall_obj newCall_obj PySem.F.entry_object_new PySem.F.entry_object_init
    (Meets.of_wp fun prog w A R s h => ?_) ⟨⟨_, Heap.get?_push_size _ rfl, rfl⟩, h⟩ fun obj s₁ hq => ⟨hq.1, obj_init1 _, fun _ R s => R (.ok (.ret .none)) s, Meets.of_wp fun prog w A R s h => wpAny_pure ⟨_, rfl, h⟩, rfl, hq.2⟩
  rw [obj_new_tree]
  exact wpAny_bind (wpAny_newObj_type (wpAny_pure ⟨_, rfl, h⟩))

section
variable {κ : Kx} {f : Fr κ} {π π' : Pl} {σ σ' : T} {s s' : Shared}
noncomputable def one (Vs : List V) (ks : List (Str × V)) (K : V → Prop) : Prop := match Vs, ks with | [a], [] => K a | _, _ => False
theorem one_v {Vs : List V} {ks : List (Str × V)} {K : V → Prop} (h : one Vs ks K) : ∃ a, Vs = [a] ∧ ks = [] ∧ K a := by
  match Vs, ks with
  | [a], [] => exact ⟨a, rfl, rfl, h⟩
/-- a call with one value -/
noncomputable def Cal1 (κ : Kx) (fv : Value) (C : V → T → (V → T → Prop) → Prop) : Prop := ∀ (f : Fr κ) π σ s V v Q, Rel f π σ s → VRel κ.D π V v → C V σ Q → Ok f (call fv [v]) (Post f π Q) s
theorem Cal1.ok {fv : Value} {C : V → T → (V → T → Prop) → Prop} (h : Cal1 κ fv C) (hk : ∀ h : Heap, KeepOk (Mo κ) fv h) : CalOk κ fv fun Vs ks σ Q => one Vs ks fun a => C a σ Q := fun f π σ s Vs ks vs kvs Q R x xk q => by
  obtain ⟨a, rfl, rfl, q⟩ := one_v q
  obtain ⟨v, _, rfl, xv, rfl⟩ := x
  exact ⟨hk _, h f π σ s a v Q R xv q⟩
noncomputable def bLenS (x : V) (σ : T) (Q : V → T → Prop) : Prop := asStr x fun l => l.length ≤ big ∧ Q (.int l.length) σ
noncomputable def bLenL (x : V) (σ : T) (Q : V → T → Prop) : Prop := asLst σ x fun l => l.length ≤ big ∧ Q (.int l.length) σ
noncomputable def bRng1 (x : V) (σ : T) (Q : V → T → Prop) : Prop := asInt x fun b => (-(2 ^ 62) < b ∧ b < 2 ^ 62) ∧ Q (.rng 0 b 1) σ
noncomputable def bStrI (x : V) (σ : T) (Q : V → T → Prop) : Prop := asInt x fun i => (0 ≤ i ∧ i < 2 ^ 62) ∧ Q (.str (decL i)) σ
theorem bLenS_ok : Cal1 κ (.builtin "len") bLenS := fun f π σ s V v Q R x h => by
  obtain ⟨l, rfl, hl, q⟩ := asStr_v h
  obtain ⟨t, rfl⟩ := x
  refine PySem.P.len_str (by rw [str_len]; have := big_fits hl; omega) ?_
  rw [str_len]
  exact .tk (V := .int _) R ⟨_, rfl⟩ q (Nat.succ_pos _)
theorem bLenL_ok : Cal1 κ (.builtin "len") bLenL := fun f π σ s V v Q R x h => by
  obtain ⟨l, b, vs, n, rfl, ho, r, hl, q⟩ := lst_at R x h
  refine len_list (items := vs.toArray) ⟨_, ho, rfl, _, rfl⟩ (by rw [size_is r]; exact big_fits hl) ?_
  rw [size_is r]
  exact .tk (V := .int _) R ⟨_, rfl⟩ q (Nat.succ_pos _)
theorem small_of {a b c : Int} (ha : -(2 ^ 62) < a ∧ a < 2 ^ 62) (hb : -(2 ^ 62) < b ∧ b < 2 ^ 62) (hc : c = 1 ∨ c = -1) : Builtin.Range.small a b c = true := by
  unfold Builtin.Range.small Builtin.Range.rangeFitsLong Builtin.Range.rangeSize
  rcases hc with rfl | rfl
  · simp
    split <;> omega
  · simp
    split <;> omega
theorem Rel.rng (R : Rel f π σ s) {a b c : Int} {t u v : Tok} {tk : Nat} {Q : V → T → Prop} (hs : Builtin.Range.small a b c = true) (ht : 0 < tk) (q : Q (.rng a b c) σ) : Post f π Q (.ref s.heap.objs.size) { s with heap := s.heap.push (rngObj a b c t u v), toks := tk } :=
  let ⟨R', e⟩ := R.push (rngObj a b c t u v); ⟨.rng a b c, σ, _, q, R'.toks ht, ⟨_, t, u, v, rfl, Pl.add_at, hs⟩, e⟩
theorem bRng1_ok : Cal1 κ (.type "range") bRng1 := fun f π σ s V v Q R x h => by
  obtain ⟨b, rfl, hb, q⟩ := asInt_v h
  obtain ⟨t, rfl⟩ := x
  exact call_range_1 (R.rng (small_of (by decide) hb (.inl rfl)) (Nat.succ_pos _) q)
theorem bStrI_ok : Cal1 κ (.type "str") bStrI := fun f π σ s V v Q R x h => by
  obtain ⟨i, rfl, hi, q⟩ := asInt_v h
  obtain ⟨t, rfl⟩ := x
  refine PySem.P.str_of_int ?_ ?_
  · have : i.natAbs < 2 ^ 62 := by omega
    by_cases z : i.natAbs = 0
    · rw [z]; decide
    · exact Nat.lt_trans ((Nat.log2_lt z).mpr this) (by decide)
  · exact .tk (V := .str (decL i)) R ⟨_, rfl⟩ q (Nat.succ_pos _)
/-- range(a, b, -1) -/
noncomputable def three (Vs : List V) (ks : List (Str × V)) (K : V → V → V → Prop) : Prop := match Vs, ks with | [a, b, c], [] => K a b c | _, _ => False
theorem three_v {Vs : List V} {ks : List (Str × V)} {K : V → V → V → Prop} (h : three Vs ks K) : ∃ a b c, Vs = [a, b, c] ∧ ks = [] ∧ K a b c := by
  match Vs, ks with
  | [a, b, c], [] => exact ⟨a, b, c, rfl, rfl, h⟩
noncomputable def bRng3 (Vs : List V) (ks : List (Str × V)) (σ : T) (Q : V → T → Prop) : Prop := three Vs ks fun x y z => asInt x fun a => asInt y fun b => (z = .int (-1) ∧ (-(2 ^ 62) < a ∧ a < 2 ^ 62) ∧ (-(2 ^ 62) < b ∧ b < 2 ^ 62)) ∧ Q (.rng a b (-1)) σ
theorem bRng3_ok : CalOk κ (.type "range") bRng3 := fun f π σ s Vs ks vs kvs Q R x xk h => by
  obtain ⟨X, Y, Z, rfl, rfl, h⟩ := three_v h
  obtain ⟨v, w, u, rfl, xv, xw, xu⟩ := x.three
  obtain ⟨a, rfl, h₁⟩ := asInt_v h
  obtain ⟨b, rfl, ⟨rfl, ha, hb⟩, q⟩ := asInt_v h₁
  obtain ⟨t, rfl⟩ := xv
  obtain ⟨t', rfl⟩ := xw
  obtain ⟨t'', rfl⟩ := xu
  cases (show kvs = [] from xk)
  exact ⟨keep_type, call_range_3 (by decide) (R.rng (small_of ha hb (.inr rfl)) R.c.tk q) (div_ok (M := Mo κ) (by decide))⟩
/-- object() -/
noncomputable def bObj (Vs : List V) (ks : List (Str × V)) (σ : T) (Q : V → T → Prop) : Prop := (Vs = [] ∧ ks = []) ∧ ∀ a, Q (.raw a) σ
theorem bObj_ok : CalOk κ (.type "object") bObj := fun f π σ s Vs ks vs kvs Q R x xk ⟨⟨e1, e2⟩, q⟩ => by
  subst e1; subst e2
  cases (show vs = [] from x)
  cases (show kvs = [] from xk)
  obtain ⟨R', e⟩ := R.push { cls := .type "object", data := .plain }
  exact ⟨keep_type, call_obj ⟨.raw s.heap.objs.size, σ, _, q _, R', rfl, e⟩⟩

-- tests on types
theorem spliced_one {M : Model} {A : Around} {E : Value → Shared → Prop} {env : Env} {pos : Pos} {e : Expr} {r : List Expr} {Q : List Value → Shared → Prop} (he : starEach (e :: r) env = (false, eval e env) :: starEach r env)
    (h : wpAny M A (eval e env) (fun v s₁ => wpAny M A (spliced (backTo pos (starEach r env))) (fun vs s₂ => Q (v :: vs) s₂) E s₁) E s) : wpAny M A (spliced (backTo pos (starEach (e :: r) env))) Q E s := by
  rw [he]
  exact PySem.Calls.spliced_cons h
theorem is_ty {A : Around} {M : Model} {E : Value → Shared → Prop} {t : String} {Q : Value → Shared → Prop} (q : Q (.bool true) s) : wpAny M A (compareOp .Is (.type t) (.type t)) Q E s := by
  refine wpAny_is_plain rfl ?_
  rw [beq_self_eq_true]
  exact q
theorem call1 {fv : Value} {x : Str} {p pos : Pos} {e : Expr} {C : Value → Shared → Prop} (hk : ∀ h : Heap, KeepOk (Mo κ) fv h) (hx : bnames.lookup x = some fv) (hg : κ.sc.names.lookup x = some .globalImplicit) (hd : x ≠ "__debug__") (R : Rel f π σ s) (he : ∀ env : Env, starEach [e] env = [(false, eval e env)])
    (h : Ok f (eval e f.env) (fun v s₁ => Ok f (call fv [v]) C s₁) s) : Ok f (eval (.Call (.Name x p) [e] [] pos) f.env) C s := by
  show Ok f (do callWith pos (← eval (.Name x p) f.env) [] (backTo pos (starEach [e] f.env)) (backToKw pos (keywordEach [] f.env))) _ s
  refine wpAny_bind (wpAny_Name (load_glob R hg (.inr (f.ok.dok.bl x fv hx)) (callWith_gen ?_ rfl (spliced_one (he _) (calm h fun v s₁ z => PySem.Calls.spliced_nil (wpAny_evalAll_nil ⟨hk _, z⟩))))) (beq_eq_false_iff_ne.mpr hd))
  have := he f.env
  cases e <;> first | rfl | cases this
/-- type(x) is str -/
noncomputable def tIsStr (a : PE) : PB := fun σ Q => a σ fun v σ => asStr v fun _ => Q true σ
theorem rIsStr {e : Expr} {p q r t : Pos} {a : PE} (ha : SE κ e a) (g1 : κ.sc.names.lookup ("type" : Str) = some .globalImplicit) (g2 : κ.sc.names.lookup ("str" : Str) = some .globalImplicit) (he : ∀ env : Env, starEach [e] env = [(false, eval e env)] := by intros; rfl) :
    SB κ (.Compare (.Call (.Name "type" p) [e] [] q) [.Is] [.Name "str" r] t) (tIsStr a) := .mk fun f π σ s Q R h => by
  refine wpAny_isTrue_Compare1 (call1 (fun _ => keep_type) rfl g1 (by decide) R he (thenV (ha.run f π σ s _ R h) fun V v σ₁ π₁ s₁ q R₁ x₁ e₁ => ?_)) rfl
  obtain ⟨l, rfl, q⟩ := asStr_v q
  obtain ⟨t, rfl⟩ := x₁
  refine call_type_of (typeIs_str _ _ _) (by decide) (wpAny_Name (load_glob R₁ g2 (.inr (f.ok.dok.bl _ (.type "str") rfl)) ?_) (by decide))
  exact is_ty (wpAny_truthy_bool ⟨σ₁, π₁, q, R₁, e₁⟩)
/-- isinstance(x, str) -/
noncomputable def tIsiStr (a : PE) : PB := tIsStr a
theorem rIsiStr {e : Expr} {p r t : Pos} {a : PE} (ha : SE κ e a) (g1 : κ.sc.names.lookup ("isinstance" : Str) = some .globalImplicit) (g2 : κ.sc.names.lookup ("str" : Str) = some .globalImplicit) (he : ∀ (env : Env) r, starEach (e :: r) env = (false, eval e env) :: starEach r env := by intros; rfl) (hp : plainArgs [e, .Name "str" r] = true := by rfl)
    (hf : ∀ env : Env, PySem.isTrue (.Call (.Name "isinstance" p) [e, .Name "str" r] [] t) env (eval (.Call (.Name "isinstance" p) [e, .Name "str" r] [] t) env) = (do let v ← eval (.Call (.Name "isinstance" p) [e, .Name "str" r] [] t) env; standAt t; holding [v] (truthy v)) := by intro; rfl) :
    SB κ (.Call (.Name "isinstance" p) [e, .Name "str" r] [] t) (tIsStr a) := .mk fun f π σ s Q R h => by
  refine wpAny_isTrue_value ?_ (hf _)
  show Ok f (do callWith t (← eval (.Name "isinstance" p) f.env) [] (backTo t (starEach [e, .Name "str" r] f.env)) (backToKw t (keywordEach [] f.env))) _ s
  refine wpAny_bind (wpAny_Name (load_glob R g1 (.inr (f.ok.dok.bl _ (.builtin "isinstance") rfl)) (callWith_gen hp rfl (spliced_one (he _ _) ?_))) (by decide))
  refine thenV (ha.run f π σ s _ R h) fun V v σ₁ π₁ s₁ q R₁ x₁ e₁ => spliced_one rfl (wpAny_Name (load_glob R₁ g2 (.inr (f.ok.dok.bl _ (.type "str") rfl)) (PySem.Calls.spliced_nil (wpAny_evalAll_nil ⟨keep_builtin, ?_⟩))) (by decide))
  obtain ⟨l, rfl, q⟩ := asStr_v q
  obtain ⟨t, rfl⟩ := x₁
  exact PySem.IsiPair.str_str (wpAny_truthy_bool ⟨σ₁, π₁, q, R₁, e₁⟩)
end
end

section
open PySem PySem.Calls PyProof.Rows PySem.W

section
variable {κ : Kx} {f : Fr κ} {π π' : Pl} {σ σ' : T} {s s' : Shared} {env : Env}
noncomputable def bareCall : Expr → Bool
  | .Call f args kws _ => match f with
    | .Name _ _ => args.isEmpty && kws.isEmpty
    | _ => false
  | _ => false
theorem attr_base {o : Expr} {x : Str} (h : bareCall o = false) (env : Env) : attributeBase o x env (eval o env) = eval o env := by
  generalize eval o env = whole
  cases o with
  | Call f args kws p =>
    cases f with
    | Name id q =>
      cases args with
      | nil =>
        cases kws with
        | nil => cases h
        | cons a b => rfl
      | cons a b => rfl
    | _ => rfl
  | _ => rfl
/-- a call's look: plain arguments, on one line with its dot -/
noncomputable def metOk (args : List Expr) (kws : List Keyword) (apos pos : Pos) : Bool := plainArgs args && plainKws kws && apos.endLine == pos.line && decide (args.length + kws.length < 28)
theorem eval_method {o : Expr} {x : Str} {apos pos : Pos} {args : List Expr} {kws : List Keyword} (hb : attributeBase o x env (eval o env) = eval o env) (hc : metOk args kws apos pos = true) :
    ∃ pl : Sem Bool, eval (.Call (.Attribute o x apos) args kws pos) env = (do
      let ov ← eval o env
      standAt apos.atName
      let (f, first) ← holding [ov] (getMethod ov x pl)
      callWith pos f first (backTo pos (starEach args env)) (backToKw pos (keywordEach kws env))) := by
  refine ⟨(do return (← importBound o env).getD true), ?_⟩
  have e : eval (.Call (.Attribute o x apos) args kws pos) env = (do
    let ov ← attributeBase o x env (eval o env)
    standAt apos.atName
    methodCall o x apos pos env ov (args.length + kws.length) (backTo pos (starEach args env)) (backToKw pos (keywordEach kws env))) := rfl
  rw [e, hb]
  unfold metOk at hc
  rw [Bool.and_eq_true, Bool.and_eq_true, Bool.and_eq_true] at hc
  obtain ⟨⟨⟨ha, hk⟩, hl⟩, hn⟩ := hc
  have hform : methodCallForm (args.length + kws.length) (backTo pos (starEach args env)) (backToKw pos (keywordEach kws env)) = true := by
    unfold methodCallForm
    rw [(star_plain ha).2, (kw_plain hk).1]
    have hn' := of_decide_eq_true hn
    simp only [Bool.true_and, decide_eq_true_eq]
    split <;> omega
  congr 1
  funext ov
  unfold methodCall
  rw [hform]
  unfold calleeOf methodCallPos
  rw [if_pos rfl, hl]
  rfl
/-- a method of a value: what is found on it, what its call means -/
noncomputable def MetOk (κ : Kx) (x : Str) (N : V → Prop → Prop) (K : V → List V → List (Str × V) → T → (V → T → Prop) → Prop) : Prop :=
  ∀ (f : Fr κ) π σ s V v pl P, Rel f π σ s → VRel κ.D π V v → N V P → P ∧ ∃ fv first, (∀ Q : Value × List Value → Shared → Prop, Q (fv, first) s → Ok f (getMethod v x pl) Q s) ∧
    ∀ π₂ σ₂ s₂ Vs ks vs kvs Q, Rel f π₂ σ₂ s₂ → VRel κ.D π₂ V v → VRels κ.D π₂ Vs vs → VRels κ.D π₂ (ks.map (·.2)) kvs → K V Vs ks σ₂ Q → KeepOk (Mo κ) fv s₂.heap ∧ Ok f (call fv (first ++ vs) ((ks.map (·.1)).zip kvs)) (Post f π₂ Q) s₂
noncomputable def pMet (N : V → Prop → Prop) (K : V → List V → List (Str × V) → T → (V → T → Prop) → Prop) (a : PE) (as : PEs) (ks : PKs) : PE := fun σ Q => a σ fun v σ => N v (as σ fun vs σ => ks σ fun kv σ => K v vs kv σ Q)
theorem rMet {N : V → Prop → Prop} {K : V → List V → List (Str × V) → T → (V → T → Prop) → Prop} {o : Expr} {x : Str} {apos pos : Pos} {args : List Expr} {kws : List Keyword} {a : PE} {as : PEs} {ks : PKs} (hm : MetOk κ x N K) (ha : SE κ o a) (has : SEs κ args as) (hks : SKs κ kws ks)
    (hb : ∀ env, attributeBase o x env (eval o env) = eval o env := by exact attr_base rfl) (hc : metOk args kws apos pos = true := by rfl) : SE κ (.Call (.Attribute o x apos) args kws pos) (pMet N K a as ks) := .mk fun f π σ s Q R h => by
  obtain ⟨pl, e⟩ := eval_method (env := f.env) (hb _) hc
  rw [e]
  unfold metOk at hc
  rw [Bool.and_eq_true, Bool.and_eq_true, Bool.and_eq_true] at hc
  refine wpAny_bind (thenV (ha.run f π σ s _ R h) fun V v σ₁ π₁ s₁ q R₁ x₁ e₁ => wpAny_bind (wpAny_standAt (wpAny_bind (wpAny_holding ?_))))
  obtain ⟨q, fv, first, hg, hc'⟩ := hm f π₁ σ₁ s₁ V v pl _ R₁ x₁ q
  exact hg _ (calm (args_ok has hks hc.1.1.1 hc.1.1.2 R₁ q fun Vs ks vs kvs σ₂ π₂ s₂ q R₂ x₂ xk e₂ => hc' π₂ σ₂ s₂ Vs ks vs kvs Q R₂ (x₁.le e₂) x₂ xk q) fun _ _ => .from e₁)

noncomputable def two (Vs : List V) (ks : List (Str × V)) (K : V → V → Prop) : Prop := match Vs, ks with | [a, b], [] => K a b | _, _ => False
theorem two_v {Vs : List V} {ks : List (Str × V)} {K : V → V → Prop} (h : two Vs ks K) : ∃ a b, Vs = [a, b] ∧ ks = [] ∧ K a b := by
  match Vs, ks with
  | [a, b], [] => exact ⟨a, b, rfl, rfl, h⟩
noncomputable def nil0 (Vs : List V) (ks : List (Str × V)) (K : Prop) : Prop := match Vs, ks with | [], [] => K | _, _ => False
theorem nil_v {Vs : List V} {ks : List (Str × V)} {K : Prop} (h : nil0 Vs ks K) : Vs = [] ∧ ks = [] ∧ K := by
  match Vs, ks with
  | [], [] => exact ⟨rfl, rfl, h⟩

-- methods of texts
noncomputable def nStr (v : V) (P : Prop) : Prop := asStr v fun _ => P
/-- a text's method -/
theorem met_str {x : Str} {id : String} {K : V → List V → List (Str × V) → T → (V → T → Prop) → Prop} (slot : Slot "str" x id) (ty : typeOf (.builtin id) = pure (.type "method_descriptor"))
    (run : ∀ (f : Fr κ) π σ s l t Vs ks vs kvs Q, Rel f π σ s → VRels κ.D π Vs vs → VRels κ.D π (ks.map (·.2)) kvs → K (.str l) Vs ks σ Q → Ok f (call (.builtin id) (strV l t :: vs) ((ks.map (·.1)).zip kvs)) (Post f π Q) s) : MetOk κ x nStr K := fun f π σ s V v pl P R xv h => by
  obtain ⟨l, rfl, p⟩ := asStr_v h
  obtain ⟨t, rfl⟩ := xv
  exact ⟨p, .builtin id, [strV l t], fun Q q => PySem.GM.of (strV l t) (typeIs_str _ _ _) slot ty PySem.GM.noRef q, fun π₂ σ₂ s₂ Vs ks vs kvs Q R₂ _ x xk q => ⟨keep_builtin, run f π₂ σ₂ s₂ l t Vs ks vs kvs Q R₂ x xk q⟩⟩
noncomputable def mFind (v : V) (Vs : List V) (ks : List (Str × V)) (σ : T) (Q : V → T → Prop) : Prop := asStr v fun l => two Vs ks fun x y => asChr x fun c => asInt y fun lo => (0 ≤ lo ∧ lo < 2 ^ 62) ∧ Q (.int (find1 c l lo.toNat l.length)) σ
noncomputable def mFind3 (v : V) (Vs : List V) (ks : List (Str × V)) (σ : T) (Q : V → T → Prop) : Prop := asStr v fun l => three Vs ks fun x y z => asChr x fun c => asInt y fun lo => asInt z fun hi => (0 ≤ lo ∧ lo < 2 ^ 62 ∧ 0 ≤ hi ∧ hi ≤ l.length) ∧ Q (.int (find1 c l lo.toNat hi.toNat)) σ
theorem mFind_ok : MetOk κ "find" nStr mFind := met_str PySem.F.slot_str_find PySem.F.type_str_find fun f π σ s l t Vs ks vs kvs Q R x xk h => by
  obtain ⟨X, Y, rfl, rfl, h⟩ := two_v h
  obtain ⟨v, w, rfl, xv, xw⟩ := x.two
  obtain ⟨c, rfl, h₁⟩ := asChr_v h
  obtain ⟨lo, rfl, h0, q⟩ := asInt_v h₁
  obtain ⟨u, rfl⟩ := xv
  obtain ⟨u', rfl⟩ := xw
  cases (show kvs = [] from xk)
  refine call_gives PySem.F.slot_str_find (typeIs_str _ _ _) PySem.F.entry_str_find (PySem.F.args_str_find_3 _ _ _) (gives_str_find_from _ _ _ _ _ _) ?_
  rw [from_is h0.1, str_len, show (⟨[c].toArray⟩ : Str) = ⟨#[c]⟩ from rfl]
  exact Eq.mpr (congrArg (fun z => (Made.int z).post _ s) (find_is l c _ _ (Nat.le_refl _))) (Post.intT R q)
theorem mFind3_ok : MetOk κ "find" nStr mFind3 := met_str PySem.F.slot_str_find PySem.F.type_str_find fun f π σ s l t Vs ks vs kvs Q R x xk h => by
  obtain ⟨X, Y, Z, rfl, rfl, h⟩ := three_v h
  obtain ⟨v, w, z, rfl, xv, xw, xz⟩ := x.three
  obtain ⟨c, rfl, h₁⟩ := asChr_v h
  obtain ⟨lo, rfl, h₂⟩ := asInt_v h₁
  obtain ⟨hi, rfl, ⟨h0, _, h3, h4⟩, q⟩ := asInt_v h₂
  obtain ⟨u, rfl⟩ := xv
  obtain ⟨u', rfl⟩ := xw
  obtain ⟨u'', rfl⟩ := xz
  cases (show kvs = [] from xk)
  refine call_gives PySem.F.slot_str_find (typeIs_str _ _ _) PySem.F.entry_str_find (PySem.F.args_str_find_4 _ _ _ _) (gives_find2 _ _ _ _ _ _ _ _) ?_
  rw [from_is h0, from_is h3, str_len, Nat.min_eq_left (by omega), show (⟨[c].toArray⟩ : Str) = ⟨#[c]⟩ from rfl]
  exact Eq.mpr (congrArg (fun z => (Made.int z).post _ s) (find_is l c _ _ (by omega))) (Post.intT R q)
noncomputable def mJoin (v : V) (Vs : List V) (ks : List (Str × V)) (σ : T) (Q : V → T → Prop) : Prop := asStr v fun sep => one Vs ks fun x => asLst σ x fun l => opt (strsOf l) fun ls => (ls.map fun y => y.length + sep.length).sum ≤ big ∧ Q (.str (joinL sep ls)) σ
theorem mJoin_ok : MetOk κ "join" nStr mJoin := met_str PySem.F.slot_str_join PySem.F.type_str_join fun f π σ s sep t Vs ks vs kvs Q R x xk h => by
  obtain ⟨X, rfl, rfl, h⟩ := one_v h
  obtain ⟨v, _, rfl, xv, rfl⟩ := x
  obtain ⟨l, a, vs, m, rfl, ho, r, h⟩ := lst_at R xv h
  obtain ⟨ls, hl, hs, q⟩ := opt_v h
  obtain ⟨w, rfl, hw⟩ := strsAre_values (strs_are r hl)
  cases (show kvs = [] from xk)
  refine wpAny_with_toks (n := 1) R.c.tk (PySem.SC.join (l := w) ⟨_, ho, rfl, _, rfl⟩ hw (join_ok hs) fun t' k hk => ?_)
  rw [join_text]
  exact .tk (V := .str _) R ⟨_, rfl⟩ q hk
noncomputable def rpartV (sep l : List Nat) : V := match rpart sep l with
  | some (a, b) => .tup [.str a, .str sep, .str b]
  | none => .tup [.str [], .str [], .str l]
noncomputable def mRpart (v : V) (Vs : List V) (ks : List (Str × V)) (σ : T) (Q : V → T → Prop) : Prop := asStr v fun l => one Vs ks fun x => asStr x fun sep => (sep ≠ [] ∧ l.length ≤ big) ∧ Q (rpartV sep l) σ
noncomputable def mSplit (v : V) (Vs : List V) (ks : List (Str × V)) (σ : T) (Q : V → T → Prop) : Prop := asStr v fun l => one Vs ks fun x => asStr x fun sep => (sep ≠ [] ∧ l.length < big) ∧ Q (.lst ((splitL sep l).map .str)) σ
end
end

section
open PySem PySem.Calls PyProof.Rows PySem.W PySem.StrLaws Builtin.Str

section
variable {κ : Kx} {f : Fr κ} {π π' : Pl} {σ σ' : T} {s s' : Shared} {env : Env}
theorem mRpart_ok : MetOk κ "rpartition" nStr mRpart := met_str PySem.F.slot_str_rpartition PySem.F.type_str_rpartition fun f π σ s l t Vs ks vs kvs Q R x xk h => by
  obtain ⟨X, rfl, rfl, h₁⟩ := one_v h
  obtain ⟨v, _, rfl, xv, rfl⟩ := x
  obtain ⟨sep, rfl, ⟨hs, hb⟩, q⟩ := asStr_v h₁
  obtain ⟨u, rfl⟩ := xv
  cases (show kvs = [] from xk)
  refine wpAny_call_entry PySem.F.slot_str_rpartition (typeIs_str _ _ _) PySem.F.entry_str_rpartition ?_ (PySem.F.args_str_rpartition_2 _ _)
  obtain ⟨raising, e⟩ := rpartition_tree ⟨l.toArray⟩ ⟨sep.toArray⟩ t u
  rw [e, show ((⟨sep.toArray⟩ : Str).length == 0) = false from by
    rw [str_len]
    exact beq_eq_false_iff_ne.mpr fun z => hs (List.length_eq_zero_iff.mp z), if_neg Bool.false_ne_true]
  have fin : ∀ (a b c : List Nat) (tk : Nat) (t₁ t₂ t₃ : Tok), 0 < tk → Q (.tup [.str a, .str b, .str c]) σ → Post f π Q (.ref s.heap.objs.size) { s with heap := s.heap.push (tupObj [strV a t₁, strV b t₂, strV c t₃] 0), toks := tk } := fun a b c tk t₁ t₂ t₃ htk q =>
    .tup (n := 0) (l := [.str a, .str b, .str c]) (R.toks htk) (.cons (a := .str a) ⟨_, rfl⟩ (.cons (a := .str b) ⟨_, rfl⟩ (.one (a := .str c) ⟨_, rfl⟩))) q
  unfold rpartV at q
  rcases last_spec ⟨l.toArray⟩ ⟨sep.toArray⟩ with ⟨hn, hno⟩ | ⟨i, hi, hat, hmax⟩
  · rw [hn]
    have hr : rpart sep l = none := by
      rcases rpart_spec hs l with ⟨e, _⟩ | ⟨j, _, h1, _⟩
      · exact e
      · exact absurd ((at_pre hs).mpr h1) (hno j)
    rw [hr] at q
    refine wpAny_bind (wpAny_rule (wpAny_bind (wpAny_mkStr (wpAny_bind (wpAny_newObj_type (wpAny_pure ⟨_, rfl, ?_⟩))) (by decide))))
    exact fin [] [] l _ _ _ _ (Nat.succ_pos _) q
  · rw [hi]
    have hr : rpart sep l = some (l.take i, l.drop (i + sep.length)) := by
      rcases rpart_spec hs l with ⟨_, hno⟩ | ⟨j, e, h1, h2⟩
      · exact absurd ((at_pre hs).mp hat) (hno i)
      · have : i = j := by
          rcases Nat.lt_trichotomy i j with h | h | h
          · exact absurd ((at_pre hs).mpr h1) (hmax j h)
          · exact h
          · exact absurd ((at_pre hs).mp hat) (h2 i h)
        rw [this]; exact e
    rw [hr] at q
    have e1 : strSub ⟨l.toArray⟩ 0 i = ⟨(l.take i).toArray⟩ := str_ext (by rw [strSub_toList]; exact congrArg _ (List.drop_zero ..))
    have e2 : strSub ⟨l.toArray⟩ (i + (⟨sep.toArray⟩ : Str).length) (⟨l.toArray⟩ : Str).length = ⟨(l.drop (i + sep.length)).toArray⟩ := str_ext (by
      rw [strSub_toList, str_len, str_len]
      exact List.take_of_length_le (by rw [List.length_drop]; exact Nat.le_refl _))
    dsimp only
    rw [e1, e2]
    refine wpAny_bind (wpAny_mkStr (wpAny_bind (wpAny_mkStr (wpAny_bind (wpAny_newObj_type (wpAny_pure ⟨_, rfl, ?_⟩))) ?_)) ?_)
    · exact fin (l.take i) sep (l.drop (i + sep.length)) _ _ _ _ (Nat.succ_pos _) q
    · rw [str_len, List.length_drop, ← big_is]; omega
    · rw [str_len, List.length_take, ← big_is]; omega
theorem strs_rel {D : GD} : ∀ (tk : Nat) (xs : List Str), VRels D π ((xs.map (·.cps.toList)).map .str) (strsFrom tk xs)
  | _, [] => .nil
  | tk, x :: r => .cons (a := .str _) ⟨tk, rfl⟩ (strs_rel (tk + 1) r)
theorem mSplit_ok : MetOk κ "split" nStr mSplit := met_str PySem.F.slot_str_split PySem.F.type_str_split fun f π σ s l t Vs ks vs kvs Q R x xk h => by
  obtain ⟨X, rfl, rfl, h₁⟩ := one_v h
  obtain ⟨v, _, rfl, xv, rfl⟩ := x
  obtain ⟨sep, rfl, ⟨hs, hb⟩, q⟩ := asStr_v h₁
  obtain ⟨u, rfl⟩ := xv
  cases (show kvs = [] from xk)
  have hsz : (⟨l.toArray⟩ : Str).length ≤ sizeLine := by rw [str_len, ← big_is]; exact Nat.le_of_lt hb
  have one : (∀ k, ¬ At ⟨l.toArray⟩ ⟨sep.toArray⟩ (⟨l.toArray⟩ : Str).length k) → Post f π Q (.ref s.heap.objs.size) { s with heap := s.heap.push { cls := .type "list", data := .seq [strV l t].toArray } } := fun hn => by
    rw [split_none hs hn] at q
    exact .lst (n := 0) (l := [.str l]) R (.one (a := .str l) ⟨_, rfl⟩) q
  cases h1 : (decide ((⟨l.toArray⟩ : Str).length < (⟨sep.toArray⟩ : Str).length) || decide (Builtin.Str.strKind ⟨l.toArray⟩ < Builtin.Str.strKind ⟨sep.toArray⟩))
  · have hy : ((⟨sep.toArray⟩ : Str).length == 0) = false := by
      rw [str_len]
      exact beq_eq_false_iff_ne.mpr fun z => hs (List.length_eq_zero_iff.mp z)
    cases hf : (Builtin.Str.occurrences ⟨l.toArray⟩ ⟨sep.toArray⟩ 0 (⟨l.toArray⟩ : Str).length ((⟨l.toArray⟩ : Str).length + 1)).isEmpty
    · have hsp := split_some (l := l) hs
      have hlen : (Builtin.Str.partsBetween ⟨l.toArray⟩ (Builtin.Str.occurrences ⟨l.toArray⟩ ⟨sep.toArray⟩ 0 (⟨l.toArray⟩ : Str).length ((⟨l.toArray⟩ : Str).length + 1)) (⟨sep.toArray⟩ : Str).length).length ≤ sizeLine := by
        have := congrArg List.length hsp
        rw [List.length_map] at this
        rw [this, ← big_is]
        exact Nat.le_trans (splitGo_len2 sep hs (l.length + 1) [] l) hb
      refine call_meets PySem.F.slot_str_split (typeIs_str _ _ _) PySem.F.entry_str_split (PySem.F.args_str_split_2 _ _) (meets_str_split_sep _ _ t u h1 hy hf hsz hlen) ?_
      generalize Builtin.Str.partsBetween ⟨l.toArray⟩ (Builtin.Str.occurrences ⟨l.toArray⟩ ⟨sep.toArray⟩ 0 (⟨l.toArray⟩ : Str).length ((⟨l.toArray⟩ : Str).length + 1)) (⟨sep.toArray⟩ : Str).length = ps at hsp
      rw [← hsp] at q
      exact .lst (n := 0) (R.toks (tk := s.toks + ps.length) (Nat.lt_of_lt_of_le R.c.tk (Nat.le_add_right _ _))) (strs_rel s.toks ps) q
    · refine call_meets PySem.F.slot_str_split (typeIs_str _ _ _) PySem.F.entry_str_split (PySem.F.args_str_split_2 _ _) (meets_str_split_not_found _ _ t u h1 hy hf) (one fun k hk => ?_)
      rcases occ_head ⟨l.toArray⟩ ⟨sep.toArray⟩ ((⟨l.toArray⟩ : Str).length + 1) (Nat.succ_pos _) with ⟨_, hn⟩ | ⟨i, r, e, _⟩
      · exact hn k hk
      · rw [e] at hf; cases hf
  · refine call_meets PySem.F.slot_str_split (typeIs_str _ _ _) PySem.F.entry_str_split (PySem.F.args_str_split_2 _ _) (meets_str_split_cannot_occur _ _ t u h1) (one fun k hk => ?_)
    rcases Bool.or_eq_true_iff.mp h1 with z | z
    · exact absurd (Nat.le_trans (Nat.le_add_left _ _) hk.1) (Nat.not_le.mpr (of_decide_eq_true z))
    · exact absurd (kind_mono hs hk) (Nat.not_le.mpr (of_decide_eq_true z))

/-- the table of special signs -/
structure SpecOk (D : GD) : Prop where
  ex : ∃ kvs, D.g.DictOf (intKind D.prog D.w) D.spec kvs ∧ ∀ c : Nat, c < 128 → (special c = true → ∃ t, valueAt kvs (c : Int) = some (.str ⟨#[92, c]⟩ t)) ∧ (special c = false → valueAt kvs (c : Int) = none)
  sys : (D.spec == sysModules) = false
theorem sub_KeyLookup : isSubtype (.type "KeyError") (.type "LookupError") = pure true := by rw [isSubtype_type]; kernel_rfl
theorem DictOf.atI {h h' : Heap} {prog : Program} {w : World} {d : Addr} {kvs : List (Int × Value)} (x : h.DictOf (intKind prog w) d kvs) (e : ∀ b o, h.get? b = some o → h'.get? b = some o) : h'.DictOf (intKind prog w) d kvs :=
  let ⟨o, es, ep, ho, r⟩ := x; ⟨o, es, ep, e _ o ho, r⟩
section
open PySem.Builtin
theorem look_special {D : GD} {A : Around} (P : SpecOk D) {c : Nat} (hc : c < 128) (hs : special c = true) {E : Value → Shared → Prop} {Q : Mapped → Shared → Prop} (hk : ∀ b o, D.g.get? b = some o → s.heap.get? b = some o)
    (q : ∀ tk, s.toks ≤ tk → Q (.text ⟨#[92, c]⟩) { s with toks := tk }) : wpAny (model D.prog D.w) A (tableLookup (.ref D.spec) c) Q E s := by
  obtain ⟨kvs, hd, hv⟩ := P.ex
  obtain ⟨t, ht⟩ := (hv c hc).1 hs
  have hd' := DictOf.atI hd hk
  unfold tableLookup
  refine wpAny_bind (wpAny_attempt (wpAny_bind (wpAny_mkInt (wpAny_getItem_of (knd := intKind D.prog D.w) (k := (c : Int)) (intKind_is _ _ _ _) hd'.mapOf ht ?_))))
  dsimp only
  exact wpAny_bind (wpAny_pure (wpAny_bind (wpAny_pure (wpAny_pure (q _ (Nat.le_add_right _ 2))))))
theorem look_plain {D : GD} {A : Around} (P : SpecOk D) (hh : A.handled = none) {c : Nat} (hc : c < 128) (hs : special c = false) {E : Value → Shared → Prop} {Q : Mapped → Shared → Prop} (hk : ∀ b o, D.g.get? b = some o → s.heap.get? b = some o)
    (q : ∀ h' tk, s.toks ≤ tk → (∀ b o, s.heap.get? b = some o → h'.get? b = some o) → Q .keep { s with heap := h', toks := tk }) : wpAny (model D.prog D.w) A (tableLookup (.ref D.spec) c) Q E s := by
  obtain ⟨kvs, hd, hv⟩ := P.ex
  have ht := (hv c hc).2 hs
  have hd' := DictOf.atI hd hk
  unfold tableLookup
  refine wpAny_bind (wpAny_attempt (wpAny_bind (wpAny_mkInt (wpAny_getItem_missing_of (knd := intKind D.prog D.w) (k := (c : Int)) (intKind_is _ _ _ _) P.sys hh hd'.mapOf ht fun h' e hx => ?_))))
  dsimp only
  obtain ⟨ob, t, he, hcl, _⟩ := hx.there
  refine wpAny_bind (wpAny_isInstance (T := "KeyError") (b := true) ⟨ob, he, hcl⟩ sub_KeyLookup ?_)
  exact wpAny_bind (wpAny_rule (wpAny_pure (q _ _ (by omega) hx.keeps)))
end
noncomputable def mTrans (D : GD) (v : V) (Vs : List V) (ks : List (Str × V)) (σ : T) (Q : V → T → Prop) : Prop := asChr v fun c => one Vs ks fun x => (x = .raw D.spec ∧ c < 128) ∧ Q (.str (if special c then [92, c] else [c])) σ
theorem mTrans_ok (P : SpecOk κ.D) : MetOk κ "translate" nStr (mTrans κ.D) := met_str PySem.F.slot_str_translate PySem.F.type_str_translate fun f π σ s l t Vs ks vs kvs Q R x xk h => by
  obtain ⟨c, e, h⟩ := asChr_v h
  cases e
  obtain ⟨X, rfl, rfl, ⟨rfl, hc⟩, q⟩ := one_v h
  obtain ⟨v, _, rfl, xv, rfl⟩ := x
  cases (show v = .ref κ.D.spec from xv)
  cases (show kvs = [] from xk)
  refine wpAny_call_entry PySem.F.slot_str_translate (typeIs_str _ _ _) PySem.F.entry_str_translate ?_ (PySem.F.args_str_translate_2 _ _)
  refine translate_tree (t := t) (d := .ref κ.D.spec) hc ?_
  cases hs : special c with
  | true =>
    rw [hs] at q
    exact look_special P hc hs R.c.g fun tk htk => .inr ⟨92, c, rfl, look_special P hc hs R.c.g fun tk' htk' => ⟨92, c, rfl, _, rfl, .tk (V := .str [92, c]) R ⟨_, rfl⟩ q (Nat.succ_pos _)⟩⟩
  | false =>
    rw [hs] at q
    exact look_plain (A := f.A.in1) P f.ok.ao.hh hc hs R.c.g fun h' tk htk hk => .inl ⟨rfl, _, rfl, .here (V := .str [c]) (R.heap hk (Nat.succ_pos _)) ⟨_, rfl⟩ q⟩

-- dicts
noncomputable def nDic (v : V) (P : Prop) : Prop := asDic v fun _ => P
theorem look_dic {D : GD} {k : List Nat} : ∀ {d : List (List Nat × V)} {kvs : List (Str × Value)}, VRelD D π d kvs →
    (d.lookup k = none ∧ valueAt kvs ⟨k.toArray⟩ = none) ∨ ∃ V v, d.lookup k = some V ∧ valueAt kvs ⟨k.toArray⟩ = some v ∧ VRel D π V v
  | [], kvs, x => by cases (show kvs = [] from x); exact .inl ⟨rfl, rfl⟩
  | (y, a) :: r, kvs, ⟨v, q, e0, hv, hr⟩ => by
    subst e0
    unfold valueAt
    rw [List.lookup_cons]
    by_cases e : k = y
    · subst e
      refine .inr ⟨a, v, by rw [beq_self_eq_true], ?_, hv⟩
      rw [List.find?_cons_of_pos (p := fun kv : Str × Value => decide (kv.1 = ⟨k.toArray⟩)) (decide_eq_true rfl)]
      rfl
    · rw [show (k == y) = false from beq_eq_false_iff_ne.mpr e, List.find?_cons_of_neg (fun z => e (by
        have := of_decide_eq_true z
        injection this with this
        exact (List.toArray_inj this).symm))]
      exact look_dic (k := k) hr
theorem met_dic {x : Str} {id : String} {K : V → List V → List (Str × V) → T → (V → T → Prop) → Prop} (slot : Slot "dict" x id) (ty : typeOf (.builtin id) = pure (.type "method_descriptor"))
    (run : ∀ (f : Fr κ) π σ s d a o kvs' Vs ks vs kvs Q, Rel f π σ s → (a == sysModules) = false → π.fz a = some o → o.IsDictOf (strKind κ.D.prog κ.D.w) kvs' → VRelD κ.D π d kvs' → VRels κ.D π Vs vs → VRels κ.D π (ks.map (·.2)) kvs → K (.dic d) Vs ks σ Q → Ok f (call (.builtin id) (.ref a :: vs) ((ks.map (·.1)).zip kvs)) (Post f π Q) s) : MetOk κ x nDic K := fun f π σ s V v pl P R xv h => by
  obtain ⟨d, rfl, p⟩ := asDic_v h
  have xv' := xv
  obtain ⟨a, o, kvs', rfl, hs, ho, hd, r⟩ := xv
  have hd' : s.heap.DictOf (strKind κ.D.prog κ.D.w) a kvs' := by
    obtain ⟨es, ep, z⟩ := hd
    exact ⟨o, es, ep, R.c.hz _ _ ho, z⟩
  refine ⟨p, .builtin id, [.ref a], fun Q q => getMethod_builtin hd'.typeIs PySem.F.plainAttrs_dict slot ty hd'.mapOf.noDict q, fun π₂ σ₂ s₂ Vs ks vs kvs Q R₂ x₂ x xk q => ⟨keep_builtin, ?_⟩⟩
  obtain ⟨a₂, o₂, kvs₂, e, hs₂, ho₂, hd₂, r₂⟩ := x₂
  cases e
  exact run f π₂ σ₂ s₂ d a o₂ kvs₂ Vs ks vs kvs Q R₂ hs₂ ho₂ hd₂ r₂ x xk q
noncomputable def mGet (v : V) (Vs : List V) (ks : List (Str × V)) (σ : T) (Q : V → T → Prop) : Prop := asDic v fun d => two Vs ks fun y x => asStr y fun k => Q ((d.lookup k).getD x) σ
theorem mGet_ok : MetOk κ "get" nDic mGet := met_dic PySem.F.slot_dict_get PySem.F.type_dict_get fun f π σ s d a o kvs' Vs ks vs kvs Q R hs ho hd r x xk h => by
  obtain ⟨Y, X, rfl, rfl, h⟩ := two_v h
  obtain ⟨w, v, rfl, xw, xv⟩ := x.two
  obtain ⟨k, rfl, q⟩ := asStr_v h
  obtain ⟨t, rfl⟩ := xw
  cases (show kvs = [] from xk)
  have hd' : s.heap.DictOf (strKind κ.D.prog κ.D.w) a kvs' := by
    obtain ⟨es, ep, z⟩ := hd
    exact ⟨o, es, ep, R.c.hz _ _ ho, z⟩
  refine call_meetsIn PySem.F.slot_dict_get hd'.typeIs PySem.F.entry_dict_get (PySem.F.args_dict_get_3 _ _ _) (meets_dict_get_default (PySem.strKind κ.D.prog κ.D.w) a (k := ⟨k.toArray⟩) (strKind_is _ _ _ _) hs v) ⟨_, hd'.mapOf, ?_⟩
  show Post f π Q ((valueAt kvs' ⟨k.toArray⟩).getD v) { s with toks := s.toks + 1 }
  rcases look_dic (k := k) r with ⟨h1, h2⟩ | ⟨V, v', h1, h2, h3⟩
  · rw [h2]
    rw [h1] at q
    exact .tk R xv q (Nat.succ_pos _)
  · rw [h2]
    rw [h1] at q
    exact .tk R h3 q (Nat.succ_pos _)
noncomputable def mItems (v : V) (Vs : List V) (ks : List (Str × V)) (σ : T) (Q : V → T → Prop) : Prop := asDic v fun d => nil0 Vs ks (Q (.dit d) σ)
theorem mItems_ok : MetOk κ "items" nDic mItems := met_dic PySem.F.slot_dict_items PySem.F.type_dict_items fun f π σ s d a o kvs' Vs ks vs kvs Q R hs ho hd r x xk h => by
  obtain ⟨rfl, rfl, q⟩ := nil_v h
  cases (show vs = [] from x)
  cases (show kvs = [] from xk)
  have hd' : s.heap.DictOf (strKind κ.D.prog κ.D.w) a kvs' := by
    obtain ⟨es, ep, z⟩ := hd
    exact ⟨o, es, ep, R.c.hz _ _ ho, z⟩
  refine call_meetsIn PySem.F.slot_dict_items hd'.typeIs PySem.F.entry_dict_items (PySem.F.args_dict_items_1 _) (meets_dict_items (PySem.strKind κ.D.prog κ.D.w) a hs) ⟨⟨kvs', hd'⟩, ?_⟩
  obtain ⟨R', e⟩ := R.push { cls := .type "dict_items", data := .fields #[.ref a] }
  exact ⟨.dit d, σ, _, q, R', ⟨_, a, o, kvs', rfl, Pl.add_at, e.fz _ _ ho, hd, r.le e⟩, e⟩
end
end

section
open PySem PySem.Calls PyProof.Rows PySem.W

section
variable {κ : Kx} {f : Fr κ} {π π' : Pl} {σ σ' : T} {s s' : Shared} {env : Env}
-- append
noncomputable def nRef (v : V) (P : Prop) : Prop := asRef v fun _ => P
theorem ref_at (R : Rel f π σ s) {k : Nat} {v : Value} (x : VRel κ.D π (.ref k) v) : ∃ a vs n, π.ρ[k]? = some a ∧ v = .ref a ∧ s.heap.get? a = some (lstObj vs n) := by
  obtain ⟨a, e, rfl⟩ := x
  obtain ⟨vs, n, ho⟩ := R.objAt (List.mem_of_getElem? e)
  exact ⟨a, vs, n, e, rfl, ho⟩
theorem append_at {h : Heap} {a : Addr} {vx : Value} {vs : List Value} {m : Nat} (e2 : h.get? a = some (lstObj vs m)) : (h.update a (Obj.mapSeq (·.push vx))).get? a = some (lstObj (vs ++ [vx]) (m + 1)) := by
  rw [Heap.get?_update_self _ e2 (by rw [Obj.mapSeq_push_plain]; rfl), Obj.mapSeq_push_plain, List.push_toArray]
noncomputable def apd (σ : T) (k : Nat) (x : V) (Q : V → T → Prop) : Prop := opt (gt σ.objs k) fun l => l.length < big ∧ Q .none ⟨σ.ls, pt σ.objs k (l ++ [x]), σ.hd⟩
theorem apd_ok (R : Rel f π σ s) {k : Nat} {a : Addr} {vx : Value} {X : V} {Q : V → T → Prop} (ha : π.ρ[k]? = some a) (xx : VRel κ.D π X vx) (h : apd σ k X Q) :
    ∃ vs n, s.heap.get? a = some (lstObj vs n) ∧ vs.length < sizeLine ∧ ∀ h' m, h'.get? a = some (lstObj (vs ++ [vx]) m) → Heap.SameBut a s.heap h' → Post f π Q .none { s with heap := h' } := by
  obtain ⟨l, hl, hb, q⟩ := opt_v h
  obtain ⟨a', vs, n, e1, e2, e3⟩ := R.ob k l hl
  obtain rfl : a' = a := Option.some.inj (e1.symm.trans ha)
  exact ⟨vs, n, e2, by rw [e3.length, ← big_is]; exact hb, fun h' m hn hs => ⟨.none, _, π, q, R.setObj ha hl (e3.append (.one xx)) hn hs R.c.tk, rfl, .refl π⟩⟩
noncomputable def mApp (v : V) (Vs : List V) (ks : List (Str × V)) (σ : T) (Q : V → T → Prop) : Prop := asRef v fun k => one Vs ks fun x => apd σ k x Q
theorem mApp_ok : MetOk κ "append" nRef mApp := fun f π σ s V v pl P R xv h => by
  obtain ⟨k, rfl, p⟩ := asRef_v h
  obtain ⟨a, vs, n, ha, rfl, ho⟩ := ref_at R xv
  refine ⟨p, .builtin "list.append", [.ref a], fun Q q => PySem.Calls.getMethod_list_append ho rfl rfl q, fun π₂ σ₂ s₂ Vs ks us kvs Q R₂ x₂ x xk q => ⟨keep_builtin, ?_⟩⟩
  obtain ⟨X, rfl, rfl, q⟩ := one_v q
  obtain ⟨w, _, rfl, xw, rfl⟩ := x
  cases (show kvs = [] from xk)
  obtain ⟨a', e, e'⟩ := x₂
  cases e'
  obtain ⟨vs', m, h1, h2, h3⟩ := apd_ok R₂ e xw q
  refine wpAny_list_append_plain (items := vs'.toArray) (hsz := by rw [List.size_toArray]; exact Nat.le_of_lt h2) ⟨m, h1⟩ fun h' hl' hs => ?_
  obtain ⟨m', hl'⟩ := hl'
  exact h3 h' m' (by rw [hl', List.push_toArray]) hs
noncomputable def nHl (v : V) (P : Prop) : Prop := match v with | .hl => P | _ => False
noncomputable def mAppH (v : V) (Vs : List V) (ks : List (Str × V)) (σ : T) (Q : V → T → Prop) : Prop := one Vs ks fun x => opt σ.hd fun l => (l.length < big ∧ dataV x = true) ∧ Q .none ⟨σ.ls, σ.objs, some (l ++ [x])⟩
theorem mAppH_ok : MetOk κ "append" nHl mAppH := fun f π σ s V v pl P R xv h => by
  obtain ⟨rfl, p⟩ : V = .hl ∧ P := by cases V <;> first | exact h.elim | exact ⟨rfl, h⟩
  obtain ⟨x₀, d₀, η, et, rfl⟩ := xv
  obtain ⟨vs, n, ho⟩ := R.c.tabList (c := η) (by unfold Pl.tabs; rw [et]; exact .head _)
  refine ⟨p, .builtin "list.append", [.ref η], fun Q q => PySem.Calls.getMethod_list_append ho rfl rfl q, fun π₂ σ₂ s₂ Vs ks us kvs Q R₂ x₂ x xk q => ⟨keep_builtin, ?_⟩⟩
  obtain ⟨X, rfl, rfl, q⟩ := one_v q
  obtain ⟨w, _, rfl, xw, rfl⟩ := x
  cases (show kvs = [] from xk)
  obtain ⟨x₁, d₁, η', et', e'⟩ := x₂
  cases e'
  obtain ⟨l, hl, ⟨hb, hx⟩, q⟩ := opt_v q
  obtain ⟨vs', m, _, _, _, h1, h2, h3, _⟩ := tab_eta R₂.c.tab hl et'
  refine wpAny_list_append_plain (items := vs'.toArray) (hsz := by rw [List.size_toArray, h2.length, ← big_is]; exact Nat.le_of_lt hb) ⟨m, h1⟩ fun h' hl' hs => ?_
  obtain ⟨m', hl'⟩ := hl'
  exact ⟨.none, _, π₂, q, R₂.setHd hl et' (h2.append (.one xw)) (dataVs_app h3 (Bool.and_eq_true_iff.mpr ⟨hx, rfl⟩)) (by rw [hl', List.push_toArray]) hs R₂.c.tk, rfl, .refl π₂⟩

-- a bound append
theorem bound_args (a v : Value) : (match Manifest.signature? "list.append" with | some sig => Bind.checkArgs "list.append" { sig with full := s!"{Bind.lastOf "list"}.{Bind.lastOf "list.append"}" } ⟨[a, v], []⟩ | none => pure ()) = pure () := by
  rw [signature?_of (id := "list.append") (n := ['d', 'n', 'e', 'p', 'p', 'a']) (o := ['t', 's', 'i', 'l']) (by kernel_rfl) PySem.F.owner_list]; kernel_rfl
theorem isSub_list_module : isSubtype (.type "list") (.type "module") = pure false := by rw [isSubtype_type]; kernel_rfl
theorem check_bound {M : Model} {A : Around} {E : Value → Shared → Prop} {s : Shared} {a : Addr} {v : Value} {vs : List Value} {m : Nat} {Q : Unit → Shared → Prop} (ho : s.heap.get? a = some (lstObj vs m)) (q : Q () s) : wpAny M A (checkBoundCall "list.append" ⟨[.ref a, v], []⟩) Q E s := by
  have hk : builtinKind "list.append" = some .method := by decide +kernel
  have hT : s.TypeIs (.ref a) "list" := ⟨_, ho, rfl⟩
  have hb := bound_args (.ref a) v
  unfold checkBoundCall
  cases hsig : Manifest.signature? "list.append" with
  | none => exact wpAny_pure q
  | some sig =>
    rw [hsig] at hb
    dsimp only at hb
    simp only [hk]
    rw [if_neg (by decide)]
    refine wpAny_bind (wpAny_isInstance hT isSub_list_module ?_)
    rw [if_neg (by decide +kernel)]
    refine wpAny_bind ?_
    unfold isType
    refine wpAny_bind (wpAny_load ho ?_)
    refine wpAny_pure ?_
    rw [if_neg (by exact Bool.false_ne_true)]
    refine wpAny_bind (wpAny_typeOf hT ?_)
    show wpAny M A (Bind.checkArgs "list.append" { sig with full := s!"{Bind.lastOf "list"}.{Bind.lastOf "list.append"}" } ⟨[.ref a, v], []⟩) Q E s
    rw [hb]
    exact wpAny_pure q
theorem builtin_code {prog : Program} {w : World} {A : Around} {R : Result → Shared → Prop} {s : Shared} {id : String} {args : Args} {b : Builtin} (hb : entryFor table id = some b)
    (h : wpAny (model prog w) (A.under (.builtin id args)) (b args) (fun fin s' => match fin with | .done f => R (.ok f) s' | .again c' => c'.quiet = true ∧ codeAny (model prog w) A c' R s') (fun e s' => R (.error e) s') s) : codeAny (model prog w) A (.builtin id args) R s := by
  refine codeAny_of_tree ?_
  show wpAny _ _ (match entryFor table id with | some b => b args | none => unsupported ((withoutEnding? id "#data").getD id)) _ _ s
  rw [hb]
  exact h
theorem append_code {prog : Program} {w : World} {A : Around} {R : Result → Shared → Prop} {s : Shared} {a : Addr} {vx : Value} {vs : List Value} {m : Nat} (e2 : s.heap.get? a = some (lstObj vs m)) (hs : vs.length < sizeLine) (q : R (.ok (.ret .none)) { s with heap := s.heap.update a (Obj.mapSeq (·.push vx)) }) :
    codeAny (model prog w) A (.builtin "list.append" ⟨[.ref a, vx], []⟩) R s := by
  refine builtin_code PySem.entry_list_append ?_
  show wpAny _ _ (updateSeq a (·.push vx) >>= fun _ => ret .none) _ _ s
  exact wpAny_bind (wpAny_updateSeq e2 rfl (wpAny_pure q) (by rw [List.size_toArray]; exact Nat.le_of_lt hs) (by rw [Array.size_push, List.size_toArray]; exact Nat.le_succ_of_le hs))
theorem keep_bm {M : Model} {h : Heap} {q a : Addr} (ho : h.get? q = some { cls := .type "builtin_function_or_method", data := .fields #[.builtin "list.append", .ref a] }) : KeepOk M (.ref q) h := by
  refine ⟨.machine, .inr (.inl rfl), (Looks.ld (part := none) ho).andThen ?_⟩
  exact .now
noncomputable def asBm (v : V) (K : Nat → Prop) : Prop := match v with | .bm k => K k | _ => False
theorem asBm_v {v : V} {K : Nat → Prop} (h : asBm v K) : ∃ k, v = .bm k ∧ K k := by cases v <;> first | exact h.elim | exact ⟨_, rfl, h⟩
/-- add(x) -/
noncomputable def pAdd (a b : PE) : PE := fun σ Q => a σ fun v σ => asBm v fun k => b σ fun x σ => apd σ k x Q
theorem rAdd {x : Str} {p pos : Pos} {e : Expr} {a b : PE} (ha : SE κ (.Name x p) a) (hb : SE κ e b) (he : ∀ env : Env, starEach [e] env = [(false, eval e env)] := by intros; rfl) : SE κ (.Call (.Name x p) [e] [] pos) (pAdd a b) := .mk fun f π σ s Q R h => by
  show Ok f (do callWith pos (← eval (.Name x p) f.env) [] (backTo pos (starEach [e] f.env)) (backToKw pos (keywordEach [] f.env))) _ s
  refine wpAny_bind (thenV (ha.run f π σ s _ R h) fun V v σ₁ π₁ s₁ q R₁ x₁ e₁ => ?_)
  obtain ⟨k, rfl, q⟩ := asBm_v q
  have pa : plainArgs [e] = true := by
    have := he f.env
    cases e <;> first | rfl | cases this
  refine callWith_gen pa rfl (spliced_one (he _) (thenV (hb.run f π₁ σ₁ s₁ _ R₁ q) fun W w σ₂ π₂ s₂ q R₂ x₂ e₂ => PySem.Calls.spliced_nil (wpAny_evalAll_nil ?_)))
  obtain ⟨qa, a, e3, rfl, ho⟩ := x₁.le e₂
  have ho' := R₂.c.hz _ _ ho
  obtain ⟨vs, m, h1, h2, h3⟩ := apd_ok R₂ e3 x₂ q
  refine ⟨keep_bm ho', wpAny_call (codeAny_of_tree ?_)⟩
  show wpAny _ f.A.in1 (callAny (.ref qa) ⟨[w], []⟩) _ _ s₂
  simp only [callAny]
  refine wpAny_bind (wpAny_load ho' ?_)
  dsimp only
  rw [if_pos (by decide)]
  refine wpAny_bind (check_bound h1 (wpAny_pure ⟨plainId_quiet PySem.slot_list_append.plain _, append_code (vx := w) h1 h2 (.from (e₁.trans e₂) (h3 _ _ (append_at h1) (Heap.SameBut.update ..)))⟩))

-- attributes
/-- what value.name means -/
noncomputable def AttOk (κ : Kx) (x : Str) (C : V → T → (V → T → Prop) → Prop) : Prop := ∀ (f : Fr κ) π σ s V v Q, Rel f π σ s → VRel κ.D π V v → C V σ Q → Ok f (getAttr v x true) (Post f π Q) s
noncomputable def pAtt (C : V → T → (V → T → Prop) → Prop) (a : PE) : PE := fun σ Q => a σ fun v σ => C v σ Q
theorem rAtt {x : Str} {o : Expr} {p : Pos} {C : V → T → (V → T → Prop) → Prop} {a : PE} (hC : AttOk κ x C) (ha : SE κ o a) (hb : ∀ env, attributeBase o x env (eval o env) = eval o env := by exact attr_base rfl) : SE κ (.Attribute o x p) (pAtt C a) := .mk fun f π σ s Q R h => by
  rw [arm_eval_Attribute, hb]
  exact wpAny_bind (thenV (ha.run f π σ s _ R h) fun V v σ₁ π₁ s₁ q R₁ x₁ e₁ => wpAny_bind (wpAny_standAt (wpAny_bind (wpAny_holding (calm (hC f π₁ σ₁ s₁ V v Q R₁ x₁ q) fun v s' z => wpAny_bind (wpAny_letTemporaryGo (wpAny_pure (.from e₁ z))))))))
/-- items.append -/
noncomputable def aApp (v : V) (σ : T) (Q : V → T → Prop) : Prop := asRef v fun k => Q (.bm k) σ
theorem aApp_ok : AttOk κ "append" aApp := fun f π σ s V v Q R x h => by
  obtain ⟨k, rfl, q⟩ := asRef_v h
  obtain ⟨a, vs, n, ha, rfl, ho⟩ := ref_at R x
  obtain ⟨R', e⟩ := R.push { cls := .type "builtin_function_or_method", data := .fields #[.builtin "list.append", .ref a] }
  exact append_attr (vs := vs) (n := n) ho ⟨.bm k, σ, _, q, R'.toks (Nat.succ_pos _), ⟨_, a, ha, rfl, Pl.add_at⟩, e⟩
end
end

section
open PySem PySem.Calls PyProof.Rows PySem.W Builtin Builtin.ObjectAttr Builtin.Getset_descriptor

section
variable {prog : Program} {w : World} {A : Around} {E : Value → Shared → Prop} {s : Shared} {K : Frag} {R : Result → Shared → Prop} {C : Addr}
theorem cname_get {tp v : Value} {d : Option Addr} {dt : Data} {sl : Array (Option Value)} (X : K.In s.heap) (hC : K.lookup C = some ⟨.type "type", d, dt, sl⟩) (hs : sl[2]? = some (some v)) (h : R (.ok (.ret v)) s) :
    codeAny (model prog w) A (.call (.builtin "getset_descriptor.__get__") ⟨[.builtin "type.__name__", .ref C, tp], []⟩) R s := by
  have ho := X _ _ hC
  obtain ⟨hh, g, dr, t, os⟩ := s
  have L0 : Looks (model prog w) hh (typeOf (.ref C)) (.type "type") := (Looks.ld (part := none) ho).andThen .now
  have L1 : Looks (model prog w) hh (isSubtype (.type "type") (.type "type")) true := Looks.of_pure (by rw [isSubtype_type]; kernel_rfl)
  refine codeAny_call_builtin KF.slot_gs.plain KF.entry_gs (KF.slot_gs.check _ _ _ _ _ _ _ _ ktyn_type (KF.args_gs _ _ _) ?_)
  unfold Builtin.«getset_descriptor.__get__» descrGet
  rw [dga_obj]
  refine wpAny_bind (wpAny_pure ?_)
  unfold descrGetter descrCheckInstance descrNameAndClass isInstance
  simp only [ktyn_owner]
  repeat lk
  refine ⟨Code.quiet_builtin _ (by decide +kernel), codeAny_builtin ktyn_entry ?_⟩
  unfold Builtin.«type.__name__»
  dsimp only
  unfold keptObject slotAt
  dsimp only
  refine wpAny_bind (wpAny_bind (wpAny_loadPart ho (wpAny_pure ?_)))
  dsimp only
  rw [hs]
  exact wpAny_pure h
end

/-- the table's class -/
structure HdrOk (D : GD) : Prop where
  ga : findIn D.K (.ref D.hdrs) "__getattribute__" = some (some (.builtin "object.__getattribute__"))
  gat : findIn D.K (.ref D.hdrs) "__getattr__" = some none
  hd : hasDictIn D.K D.hdrs = true
  own : ∃ attr, findIn D.K (.ref D.hdrs) "_headers" = some attr ∧ noGet D.K attr = true
  cls : findIn D.K (.ref D.hdrs) "__class__" = some (some (.builtin "object.__class__"))
  clsG : specialIn D.K (.builtin "object.__class__") "__get__" = some (some (.builtin "getset_descriptor.__get__"))
  clsT : takesIn D.K (.builtin "object.__class__") = some true
  mro : mroIn D.K D.hdrs (.type "object") = some true
  reads : readsIn D.K D.hdrs (.type "type") = true
  nm : findCls D.K (.ref D.hdrs) (.type "type") "__name__" = some (.get (.builtin "getset_descriptor.__get__") (.builtin "type.__name__") (.ref D.hdrs) (.type "type"))
  nmv : ∃ d dt sl t, D.K.lookup D.hdrs = some ⟨.type "type", d, dt, sl⟩ ∧ sl[2]? = some (some (.str "Headers" t))
  meth : ∀ g, g = .hAdd ∨ g = .hConv ∨ g = .hItems → findIn D.K (.ref D.hdrs) (fnm g) = some (some (.ref (D.fa g))) ∧ typeIn D.K (.ref (D.fa g)) = some (.type "function")
  reprF : findIn D.K (.ref D.hdrs) "__repr__" = some (some (.ref (D.fa .hRepr))) ∧ isFn D.K (.ref (D.fa .hRepr)) = true
  strF : findIn D.K (.ref D.hdrs) "__str__" = some (some (.ref (D.fa .hStr))) ∧ isFn D.K (.ref (D.fa .hStr)) = true
/-- the patterns' objects -/
structure PatOk (D : GD) : Prop where
  name : IsPat D.g D.pName nameCode
  val : IsPat D.g D.pVal valCode
  twin : IsPat D.g D.pTwin twinCode

section
variable {κ : Kx} {f : Fr κ} {π π' : Pl} {σ σ' : T} {s s' : Shared} {env : Env}
theorem tab_inst (R : Rel f π σ s) {a b c : Addr} (et : π.tab = some (a, b, c)) : ∃ hs tk k, InstAt s.heap a (instObj κ.D.hdrs b) κ.D.hdrs (some (dictOf [⟨hs, .str "_headers" tk, .ref c⟩] k)) := by
  have q := R.c.tab
  cases hh : σ.hd with
  | none =>
    rw [hh] at q
    exact nomatch et.symm.trans q
  | some l =>
    obtain ⟨vs, n, hs, tk, k, h1, _, _, h4, h5⟩ := tab_eta q hh et
    have h4 := R.c.hz _ _ h4
    exact ⟨hs, tk, k, h4, rfl, rfl, R.c.hz _ _ h5⟩
theorem Rel.X (R : Rel f π σ s) : κ.D.K.In s.heap := fun b o e => R.c.g _ _ (f.ok.dok.kin b o e)
noncomputable def aHl (v : V) (σ : T) (Q : V → T → Prop) : Prop := asHdr v (Q .hl σ)
theorem aHl_ok (H : HdrOk κ.D) : AttOk κ "_headers" aHl := fun f π σ s V v Q R x h => by
  obtain ⟨rfl, q⟩ := asHdr_v h
  obtain ⟨x₀, d₀, η, et, rfl⟩ := x
  obtain ⟨hs, tk, k, I⟩ := tab_inst R et
  obtain ⟨attr, h1, h2⟩ := H.own
  exact get_value R.X I H.ga (findObj_own H.hd h1 h2 (v := .ref η) rfl) rfl (.tk (V := .hl) R ⟨_, _, _, et, rfl⟩ q (Nat.succ_pos _))
/-- table.__class__.__name__ -/
noncomputable def pCls (a : PE) : PE := fun σ Q => a σ fun v σ => asHdr v (Q (.str (lit "Headers")) σ)
theorem rCls (H : HdrOk κ.D) {o : Expr} {p q : Pos} {a : PE} (ha : SE κ o a) (hb : ∀ env, attributeBase o "__class__" env (eval o env) = eval o env := by exact attr_base rfl) : SE κ (.Attribute (.Attribute o "__class__" q) "__name__" p) (pCls a) := .mk fun f π σ s Q R h => by
  rw [arm_eval_Attribute, show attributeBase (.Attribute o "__class__" q) "__name__" f.env (eval (.Attribute o "__class__" q) f.env) = eval (.Attribute o "__class__" q) f.env from rfl, arm_eval_Attribute, hb]
  refine wpAny_bind (wpAny_bind (thenV (ha.run f π σ s _ R h) fun V v σ₁ π₁ s₁ q R₁ x₁ e₁ => wpAny_bind (wpAny_standAt (wpAny_bind (wpAny_holding ?_)))))
  obtain ⟨rfl, q⟩ := asHdr_v q
  obtain ⟨x₀, d₀, η, et, rfl⟩ := x₁
  obtain ⟨hs, tk, k, I⟩ := tab_inst R₁ et
  have R₂ := R₁.toks (Nat.succ_pos s₁.toks)
  refine get_bind R₁.X I H.ga (findObj_data (by obtain ⟨cd, hc, _⟩ := any_some H.hd; exact Option.isSome_iff_exists.mpr ⟨cd, hc⟩) H.cls H.clsG H.clsT) H.gat
    (wpAny_call (class_get (s := { s₁ with toks := s₁.toks + 1 }) (ox := instObj κ.D.hdrs d₀) (od := some _) R₁.X I H.mro (handed_on rfl (wpAny_bind (wpAny_letTemporaryGo (wpAny_pure (wpAny_bind (wpAny_standAt (wpAny_bind (wpAny_holding ?_))))))))))
  obtain ⟨d, dt, sl, t, e1, e2⟩ := H.nmv
  refine cls_bind R₂.X H.reads H.nm (wpAny_call (cname_get (s := { s₁ with toks := s₁.toks + 1 + 1 }) (R₂.toks (Nat.succ_pos _)).X e1 e2 (handed_on rfl (wpAny_bind (wpAny_letTemporaryGo (wpAny_pure ?_))))))
  exact .from e₁ (.here (V := .str (lit "Headers")) (R₂.toks (Nat.succ_pos _)) ⟨_, rfl⟩ q)

-- the table's methods
noncomputable def nHdr (v : V) (P : Prop) : Prop := asHdr v P
noncomputable def mH (D : GD) (h : Nat) (g : Fid) (v : V) (Vs : List V) (ks : List (Str × V)) (σ : T) (Q : V → T → Prop) : Prop := cFn D h g (.hdr :: Vs) ks σ Q
theorem mH_ok (H : HdrOk κ.D) {h : Nat} {g : Fid} (hg : g = .hAdd ∨ g = .hConv ∨ g = .hItems) (hn : h ≤ κ.n) : MetOk κ (fnm g) nHdr (mH κ.D h g) := fun f π σ s V v pl P R xv hp => by
  obtain ⟨rfl, p⟩ := asHdr_v hp
  obtain ⟨a, b, c, et, rfl⟩ := xv
  obtain ⟨hs, tk, k, I⟩ := tab_inst R et
  obtain ⟨h1, h2⟩ := H.meth g hg
  have hk : (Value.str "_headers" tk).isStr (fnm g) = false := by
    have z : ∀ g, g = Fid.hAdd ∨ g = .hConv ∨ g = .hItems → (Value.str "_headers" 0).isStr (fnm g) = false := by rintro _ (rfl | rfl | rfl) <;> decide +kernel
    exact z g hg
  refine ⟨p, .ref (κ.D.fa g), [.ref a], fun Q q => method_fn R.X I H.ga H.gat h1 h2 ?_ q, fun π₂ σ₂ s₂ Vs ks vs kvs Q R₂ x₂ x xk q => ⟨keep_fn R₂ g, fn_call R₂ hn (.cons x₂ x) xk q⟩⟩
  unfold shadowIn lookIn
  dsimp only
  rw [List.find?_cons_of_neg (by rw [hk]; exact Bool.false_ne_true)]
  rfl

-- search, without a match
noncomputable def nPat (v : V) (P : Prop) : Prop := match v with | .pat _ => P | _ => False
noncomputable def mSearch (v : V) (Vs : List V) (ks : List (Str × V)) (σ : T) (Q : V → T → Prop) : Prop := match v with | .pat b => one Vs ks fun x => asStr x fun l => l.any (if b then barName else barVal) = false ∧ Q .none σ | _ => False
theorem pat_at {D : GD} (P : PatOk D) (b : Bool) : ∃ code, IsPat D.g (if b then D.pName else D.pVal) code ∧ Sre.ops[code.getD 0 0]? = some .INFO ∧ code.getD 2 0 = 4 ∧ ∀ c, (if b then barName else barVal) c = false → FirstNo code c := by
  cases b
  · exact ⟨valCode, P.val, rfl, rfl, fun c h => first_val (val_bit h)⟩
  · refine ⟨nameCode, P.name, rfl, rfl, fun c h => ?_⟩
    have h : (decide (c < 32) || c == 127) = false := h
    rw [Bool.or_eq_false_iff] at h
    exact first_name (fun z => of_decide_eq_false h.1 (Nat.lt_succ_of_le z)) (beq_eq_false_iff_ne.mp h.2)
theorem mSearch_ok (P : PatOk κ.D) : MetOk κ "search" nPat mSearch := fun f π σ s V v pl K R xv hp => by
  cases V with
  | pat b =>
    cases (show v = _ from xv)
    obtain ⟨code, ip, c1, c2, c3⟩ := pat_at P b
    have ip₁ := ip.keeps R.c.g
    refine ⟨hp, .builtin "re.Pattern.search", [_], fun Q q => getMethod_builtin ip₁.typeIs plain_pat slot_search type_search (fun a e => ?_) q, fun π₂ σ₂ s₂ Vs ks vs kvs Q R₂ x₂ x xk q => ⟨keep_builtin, ?_⟩⟩
    · obtain @⟨o, vs, c, oc, its, n, t, ho, hc, hd, _, _, _, _, _, _⟩ := ip₁
      exact ⟨o, Value.ref.inj e ▸ ho, hd⟩
    · obtain ⟨X, rfl, rfl, q⟩ := one_v q
      obtain ⟨w, _, rfl, xw, rfl⟩ := x
      cases (show kvs = [] from xk)
      obtain ⟨l, rfl, hl, q⟩ := asStr_v q
      obtain ⟨t', rfl⟩ := xw
      have ip₂ := ip.keeps R₂.c.g
      exact wpAny_call_entry slot_search ip₂.typeIs entry_search (search_tree ip₂ (fun c hc => c3 c (Bool.eq_false_iff.mpr (List.any_eq_false.mp hl c hc))) c1 c2 ⟨_, rfl, .here (V := .none) R₂ rfl q⟩) (args_search _ _)
  | _ => exact hp.elim

-- repr, str of the table
theorem repr_own {D : GD} {A : Around} {x : Addr} {od : Option Obj} {ox : Obj} {g : Addr} {E : Value → Shared → Prop} {Q : Value → Shared → Prop} (hu : A.units + 1 < cLine) (X : D.K.In s.heap) (I : InstAt s.heap x ox D.hdrs od) (hs : findIn D.K (.ref D.hdrs) "__repr__" = some (some (.ref g))) (hf : isFn D.K (.ref g) = true)
    (h : wpAny (model D.prog D.w) A.in1 (call (.ref g) [.ref x]) (StrBack Q) E s) : wpAny (model D.prog D.w) A (call (.builtin "repr") [.ref x]) Q E s := by
  refine Calls.call_function_entry PySem.F.kind_repr PySem.F.plain_repr PySem.F.entry_repr (PySem.F.args_repr1 _) ?_
  unfold Builtin.«repr»
  refine wpAny_bind (m := oneArg "repr" _) (wpAny_pure (wpAny_bind (wpAny_cRoomFor hu (wpAny_bind (wpAny_bind (I.type.here ((looks_findIn X hs).here ?_)))))))
  show wpAny _ _ (if (some (Value.ref g)).isNone = true then _ else _) _ _ _
  rw [if_neg (by exact Bool.false_ne_true)]
  refine wpAny_bind (m := callSpecialIfBound? (.ref x) (Str.ofString "__repr__") _) (ifBound_K X I hs hf (wpAny_mono h (fun r s' hr => ?_) fun _ _ y => y))
  cases r <;> first | exact hr.elim | skip
  refine wpAny_bind (wpAny_isInstance (typeIs_str _ _ _) isSubtype_str_str ?_)
  first
    | exact wpAny_pure ⟨_, rfl, hr⟩
    | (simp only [if_true]; exact wpAny_pure ⟨_, rfl, hr⟩)
theorem AOk.in1 {A : Around} {n : Nat} (ao : AOk A (n + 1)) : AOk A.in1 n := ⟨ao.hh, by have := ao.dep; show A.depth + n ≤ 900; omega, by have := ao.un; show A.units + 1 + 20 * n ≤ 9000; omega, ao.gd, ao.fr⟩
/-- a call from within a builtin -/
theorem fn_in {A : Around} {h : Nat} {g : Fid} {Vs : List V} {vs : List Value} {Q : V → T → Prop} (R : Rel f π σ s) (ao : AOk A h) (x : VRels κ.D π Vs vs) (q : cFn κ.D h g Vs [] σ Q) : wpAny (Mo κ) A (call (.ref (κ.D.fa g)) vs) (Post f π Q) noE s := by
  refine wpAny_call (codeAny_mono (q.2 A (f.held π s.heap) π.bare s vs [] ao rfl R.out (VRels.move (π := π) (π' := π.bare) (fun _ _ e => e) (.inr rfl) _ _ (.inr q.1.1) x) .nil) fun r s' z => ?_)
  cases r with
  | error e => exact z.elim
  | ok fl =>
    cases fl with
    | ret v =>
      obtain ⟨V, hd, π', q, C, xv, e, hr⟩ := z
      obtain ⟨R', e'⟩ := R.back C e
      exact ⟨V, ⟨σ.ls, σ.objs, hd⟩, _, q, R', VRel.move (π := π') (π' := π'.with π.ρ) (fun _ _ e => e) (.inr rfl) V v (.inl (by rw [hr]; exact List.nil_prefix)) xv, e'⟩
    | _ => exact z.elim
theorem Post.back {Q : V → T → Prop} {v : Value} : Post f π (fun v σ => asStr v fun l => Q (.str l) σ) v s → StrBack (Post f π Q) v s
  | ⟨V, σ', π', q, R, x, e⟩ => by
    obtain ⟨l, rfl, q⟩ := asStr_v q
    obtain ⟨t, rfl⟩ := x
    exact ⟨.str l, σ', π', q, R, ⟨t, rfl⟩, e⟩
noncomputable def bRepr (D : GD) (h : Nat) (x : V) (σ : T) (Q : V → T → Prop) : Prop := asHdr x (cFn D h .hRepr [.hdr] [] σ fun v σ => asStr v fun l => Q (.str l) σ)
noncomputable def bStrH (D : GD) (h : Nat) (x : V) (σ : T) (Q : V → T → Prop) : Prop := asHdr x (cFn D h .hStr [.hdr] [] σ fun v σ => asStr v fun l => Q (.str l) σ)
theorem bRepr_ok (H : HdrOk κ.D) {h : Nat} (hn : h + 1 ≤ κ.n) : Cal1 κ (.builtin "repr") (bRepr κ.D h) := fun f π σ s V v Q R x hp => by
  obtain ⟨rfl, q⟩ := asHdr_v hp
  have x' := x
  obtain ⟨a, b, c, et, rfl⟩ := x
  obtain ⟨hs, tk, k, I⟩ := tab_inst R et
  have un := f.ok.ao.cline
  exact repr_own (by omega) R.X I H.reprF.1 H.reprF.2 (calm (fn_in R (f.ok.ao.down hn).in1 (.one x') q) fun v s' z => z.back)
theorem bStrH_ok (H : HdrOk κ.D) {h : Nat} (hn : h + 2 ≤ κ.n) : Cal1 κ (.type "str") (bStrH κ.D h) := fun f π σ s V v Q R x hp => by
  obtain ⟨rfl, q⟩ := asHdr_v hp
  have x' := x
  obtain ⟨a, b, c, et, rfl⟩ := x
  obtain ⟨hs, tk, k, I⟩ := tab_inst R et
  have un := f.ok.ao.cline
  exact kso_call (by show f.A.units + 1 + 1 < cLine; omega) R.X I H.strF.1 H.strF.2 (calm (fn_in R (f.ok.ao.down hn).in1.in1 (.one x') q) fun v s' z => z.back)
end
end

section
open PySem PySem.Calls PyProof.Rows PySem.W
section
open PySem.Builtin PySem.Builtin.Str
set_option maxHeartbeats 4000000 in
theorem fmt_a {b : Addr} {x y : Str} {t t₁ t₂ : Tok} (hx : x.length ≤ 1000000) (hy : y.length ≤ 1000000) :
    Meets (Builtin.«str.__mod__» ⟨[.str ⟨#[37, 115, 58, 32, 37, 115]⟩ t, .ref b], []⟩) (fun _ R s => IsTup s.heap b #[.str x t₁, .str y t₂] ∧ ∀ t' k, R (.ok (.ret (.str (x ++ ⟨#[58, 32]⟩ ++ y) t'))) { s with toks := k }) := by
  kpt_run
set_option maxHeartbeats 4000000 in
theorem fmt_c {b : Addr} {x y : Str} {i : Int} {t t₁ t₂ t₃ : Tok} (hx : x.length ≤ 1000000) (hy : y.length ≤ 1000000) (h0 : 0 ≤ i) (h1 : i < 10 ^ 10) :
    Meets (Builtin.«str.__mod__» ⟨[.str ⟨#[37, 115, 91, 37, 100, 32, 99, 104, 97, 114, 115, 93, 37, 115]⟩ t, .ref b], []⟩) (fun _ R s => IsTup s.heap b #[.str x t₁, .int i t₂, .str y t₃] ∧ ∀ t' k, R (.ok (.ret (.str (x ++ ⟨#[91]⟩ ++ Str.ofString (toString i) ++ ⟨#[32, 99, 104, 97, 114, 115, 93]⟩ ++ y) t'))) { s with toks := k }) := by
  kpt_run
end
end

section
open PySem PySem.Calls PyProof.Rows PySem.W

noncomputable def strKeys : List (Option Expr) → Option (List (List Nat))
  | [] => some []
  | some (.Constant (.str s) _ _) :: r => (strKeys r).map (lit s :: ·)
  | _ => none
noncomputable def pairsE (env : Env) (p : Pos) : List (Option Expr) → List Expr → List (Sem Value × Sem Value)
  | some k :: ks, v :: vs => (eval k env, do let x ← eval v env; standAt p; pure x) :: pairsE env p ks vs
  | _, _ => []
section
variable {κ : Kx} {f : Fr κ} {π π' : Pl} {σ σ' : T} {s s' : Shared} {env : Env}
/-- rows of a dict that is spelled out -/
noncomputable def SDs (κ : Kx) (ks : List (Option Expr)) (vs : List Expr) (ls : List (List Nat)) (P : PEs) : Prop :=
  (∀ (env : Env) (p : Pos), (evalEachOpt ks env).zip ((evalEach vs env).map fun v => do let x ← v; standAt p; pure x) = (pairsE env p ks vs).map fun q => (some q.1, q.2)) ∧ (∀ (env : Env) (p : Pos), (pairsE env p ks vs).length = ls.length) ∧
  ∀ (f : Fr κ) π σ s Q p, Rel f π σ s → P σ Q → Ok f (evalPairs (pairsE f.env p ks vs)) (fun kv s' => ∃ l us σ' π', Q l σ' ∧ Rel f π' σ' s' ∧ VRels κ.D π' l us ∧ π.le π' ∧ l.length = ls.length ∧ Carries (PySem.strKind κ.D.prog κ.D.w) kv ((ls.map fun x => (⟨x.toArray⟩ : Str)).zip us)) s
theorem rDNil : SDs κ [] [] [] pNil := ⟨fun _ _ => rfl, fun _ _ => rfl, fun f π σ s Q p R h => evalPairs_nil ⟨[], [], σ, π, h, R, .nil, .refl π, rfl, trivial⟩⟩
theorem rDCons {x : Str} {k : Nat} {p : Pos} {v : Expr} {ks : List (Option Expr)} {vs : List Expr} {ls : List (List Nat)} {a : PE} {b : PEs} (l : List Nat) (hl : lit x = l) (ha : SE κ v a) (hb : SDs κ ks vs ls b) : SDs κ (some (.Constant (.str x) k p) :: ks) (v :: vs) (l :: ls) (pCons a b) := by
  refine ⟨fun env q => congrArg _ (hb.1 env q), fun env q => congrArg Nat.succ (hb.2.1 env q), fun f π σ s Q pos R h => ?_⟩
  refine evalPairs_cons ?_
  rw [eval_Constant]
  refine wpAny_mkText (wpAny_bind (thenV (ha.run f π σ _ _ (R.toks (Nat.succ_pos s.toks)) h) fun V w σ₁ π₁ s₁ q R₁ x₁ e₁ => wpAny_bind (wpAny_standAt (wpAny_pure ?_))))
  refine calm (hb.2.2 f π₁ σ₁ s₁ _ pos R₁ q) fun kv s₂ ⟨r, us, σ₂, π₂, q, R₂, x₂, e₂, hlen, hc⟩ => ⟨V :: r, w :: us, σ₂, π₂, q, R₂, .cons (x₁.le e₂) x₂, e₁.trans e₂, congrArg Nat.succ hlen, ?_, rfl, hc⟩
  show (PySem.strKind κ.D.prog κ.D.w).is ⟨l.toArray⟩ (.str x s.toks) = true
  rw [← hl, show (⟨(lit x).toArray⟩ : Str) = x from str_ext rfl]
  exact strKind_is _ _ _ _
theorem relD_zip {D : GD} : ∀ {ls : List (List Nat)} {l : List V} {us : List Value}, l.length = ls.length → VRels D π l us → VRelD D π (ls.zip l) ((ls.map fun x => (⟨x.toArray⟩ : Str)).zip us)
  | [], l, us, e, x => rfl
  | y :: ls, [], us, e, x => by cases e
  | y :: ls, a :: l, us, e, ⟨v, q, e0, hv, hr⟩ => e0 ▸ ⟨v, _, rfl, hv, relD_zip (Nat.succ.inj e) hr⟩
/-- a dict that is spelled out -/
noncomputable def pDic (ls : List (List Nat)) (as : PEs) : PE := fun σ Q => as σ fun vs σ => Q (.dic (ls.zip vs)) σ
theorem rDic {ks : List (Option Expr)} {vs : List Expr} {p : Pos} (ls : List (List Nat)) {as : PEs} (hd : SDs κ ks vs ls as) (hne : ls ≠ [] := by exact List.cons_ne_nil _ _) (hn : ls.length ≤ 8 := by decide +kernel) (hnd : ls.Nodup := by decide +kernel) : SE κ (.Dict ks vs p) (pDic ls as) := .mk fun f π σ s Q R h => by
  obtain ⟨R₀, hkp⟩ := R.pushKeep { cls := .type "dict", data := .dict #[] }
  have hB := size_none s.heap
  have hs : (s.heap.objs.size == sysModules) = false := by
    obtain ⟨o, ho⟩ := f.ok.dok.sys
    refine beq_eq_false_iff_ne.mpr fun q => ?_
    have := R.c.g _ _ ho
    rw [← q, hB] at this; cases this
  refine wpAny_Dict_pairs (knd := PySem.strKind κ.D.prog κ.D.w) (hd.1 _ _) (fun q => hne (List.length_eq_zero_iff.mp (by rw [← hd.2.1 f.env p, q]; rfl))) (by rw [hd.2.1]; omega) ?_
  refine calm (hd.2.2 (f.keep s.heap.objs.size _) π σ _ _ p R₀ h) fun kv s₁ ⟨l, us, σ₁, π₁, q, R₁, x₁, e₁, hl, hc⟩ => ?_
  refine ⟨_, hc, ⟨_, #[], _, R₁.c.hk _ _ kp_at, ⟨rfl, rfl, rfl⟩, rfl, (fun e he => (Array.not_mem_empty e he).elim), Pairs.nil, List.nodup_nil⟩, fun h' hd' hsb => ?_⟩
  have hkeys : (((ls.map fun x => (⟨x.toArray⟩ : Str)).zip us).map (·.1)) = ls.map fun x => (⟨x.toArray⟩ : Str) := by
    rw [List.map_fst_zip]
    rw [List.length_map, x₁.length, hl]
    exact Nat.le_refl _
  have hnd' : (((ls.map fun x => (⟨x.toArray⟩ : Str)).zip us).map (·.1)).Nodup := by
    rw [hkeys]
    refine List.Pairwise.map _ (fun a b hab q => hab ?_) hnd
    injection q with q
    exact List.toArray_inj q
  rw [merged_nil_of_nodup _ hnd'] at hd'
  obtain ⟨R₂, z1, z2, z3, z4⟩ := Rel.unkeep (f := f) R₁ hkp (nocellD rfl) (ext_of hsb) (tk := s₁.toks + 0) R₁.c.tk
  obtain ⟨o', es, ep, ho', hz⟩ := hd'
  obtain ⟨R₃, e₃⟩ := R₂.freeze (a := s.heap.objs.size) (o := o') ho' z1 hkp z2 z3 z4
  refine ⟨.dic (ls.zip l), σ₁, _, q, ?_, ⟨_, o', _, rfl, hs, Pl.add_at, ⟨es, ep, hz⟩, (relD_zip hl x₁).le e₃⟩, e₁.trans e₃⟩
  exact R₃.toks (Nat.lt_of_lt_of_le R₁.c.tk (by omega))
where nocellD {o : Obj} {es : Array DictEntry} {ep : Nat} (h : o.data = .dict es ep) : ∀ v, o.data ≠ .cell v := fun v e => nomatch h.symm.trans e

/-- x.replace(c, z), spelled out -/
noncomputable def pRep (c : Nat) (z : List Nat) (a : PE) : PE := fun σ Q => a σ fun v σ => asStr v fun l => l.length + (l.length + 1) * z.length ≤ big ∧ Q (.str (repl c z l)) σ
theorem rRep {o : Expr} {x y : Str} {k₁ k₂ : Nat} {p₁ p₂ apos pos : Pos} {a : PE} (c : Nat) (z : List Nat) (hx : lit x = [c]) (hz : lit y = z) (ha : SE κ o a) (hb : ∀ env, attributeBase o "replace" env (eval o env) = eval o env := by exact attr_base rfl)
    (hc : metOk [.Constant (.str x) k₁ p₁, .Constant (.str y) k₂ p₂] [] apos pos = true := by rfl) : SE κ (.Call (.Attribute o "replace" apos) [.Constant (.str x) k₁ p₁, .Constant (.str y) k₂ p₂] [] pos) (pRep c z a) := .mk fun f π σ s Q R h => by
  subst hz
  obtain ⟨pl, e⟩ := eval_method (env := f.env) (hb _) hc
  rw [e]
  refine wpAny_bind (thenV (ha.run f π σ s _ R h) fun V v σ₁ π₁ s₁ q R₁ x₁ e₁ => wpAny_bind (wpAny_standAt (wpAny_bind (wpAny_holding ?_))))
  obtain ⟨l, rfl, hlen, q⟩ := asStr_v q
  obtain ⟨t, rfl⟩ := x₁
  refine PySem.GM.replace (callWith_gen rfl rfl (spliced_one rfl ?_))
  rw [eval_Constant]
  refine wpAny_mkText (spliced_one rfl ?_)
  rw [eval_Constant]
  refine wpAny_mkText (PySem.Calls.spliced_nil (wpAny_evalAll_nil ⟨keep_builtin, ?_⟩))
  show wpAny _ f.A (call (.builtin "str.replace") [strV l t, .str x s₁.toks, .str y (s₁.toks + 1)]) _ _ _
  have hb' : NoneBooked s₁.heap := by
    obtain ⟨mc, hn, he⟩ := f.ok.dok.booked
    exact ⟨mc, hn.keeps R₁.c.g, he⟩
  have e2 : Txt.replace ⟨l.toArray⟩ x y = ⟨(repl c (lit y) l).toArray⟩ := str_ext (by rw [show x = ⟨#[c]⟩ from str_ext hx, replace_is]; rfl)
  refine wpAny_with_toks (n := 1) (Nat.succ_pos _) (PySem.SC.replaceA (Nat.ne_of_gt R₁.c.tk) (Nat.succ_ne_zero _) (Nat.ne_of_lt (Nat.lt_succ_self _)) ?_ (fun t' k hk => ?_) hb')
  · rw [str_len]; exact hlen
  · rw [e2]
    exact .from e₁ (.tk (V := .str _) R₁ ⟨_, rfl⟩ q hk)
end
end

section
open PySem PySem.Calls PyProof.Rows PySem.W

noncomputable def clOf (env : Env) : List (Str × NameKind) → List (Str × Addr) → List (Str × Addr)
  | [], cs => cs
  | (n, k) :: r, cs => clOf env r (if k == .free then (n, (env.cells.lookup n).getD 0) :: cs else cs)
theorem clos_go {env : Env} : ∀ (names : List (Str × NameKind)) (cs : List (Str × Addr)), (∀ y ∈ names, y.2 = .free → ∃ c, env.cells.lookup y.1 = some c) →
    (forIn names cs fun x r => (match x with | (name, kind) => if (kind == NameKind.free) = true then do let c ← cellOf env name; pure (ForInStep.yield ((name, c) :: r)) else pure (ForInStep.yield r) : Sem _)) = pure (clOf env names cs)
  | [], cs, _ => rfl
  | (n, k) :: r, cs, hy => by
    have ih := clos_go r (env := env)
    rw [List.forIn_cons]
    unfold clOf
    cases hk : (k == NameKind.free) with
    | false =>
      simp only [hk, Bool.false_eq_true, if_false, pure_bind]
      exact ih cs fun y h => hy y (.tail _ h)
    | true =>
      obtain ⟨c, hc⟩ := hy (n, k) (.head _) (eq_of_beq hk)
      have e : cellOf env n = pure c := by unfold cellOf; rw [hc]
      simp only [hk, if_true, e, pure_bind, hc, Option.getD_some]
      exact ih _ fun y h => hy y (.tail _ h)
theorem clos_eq {env : Env} {scope : Scope} (h : ∀ y ∈ scope.names, y.2 = .free → ∃ c, env.cells.lookup y.1 = some c) : closureFor scope env = pure (clOf env scope.names []) := by
  unfold closureFor
  have := clos_go scope.names [] h
  simp only [this]
  rfl
theorem clOf_mem {env : Env} : ∀ (names : List (Str × NameKind)) (cs : List (Str × Addr)), (∀ y ∈ names, y.2 = .free → ∃ c, env.cells.lookup y.1 = some c) → (∀ p ∈ cs, env.cells.lookup p.1 = some p.2) → ∀ p ∈ clOf env names cs, env.cells.lookup p.1 = some p.2
  | [], cs, _, h => h
  | (n, k) :: r, cs, hy, h => by
    unfold clOf
    refine clOf_mem r _ (fun y q => hy y (.tail _ q)) ?_
    split
    · rename_i hk
      intro p hp
      rcases List.mem_cons.mp hp with rfl | hp
      · obtain ⟨c, hc⟩ := hy (n, k) (.head _) (eq_of_beq hk)
        rw [hc]; rfl
      · exact h p hp
    · exact h
theorem clOf_keeps {env : Env} {x : Str} : ∀ (names : List (Str × NameKind)) (cs : List (Str × Addr)), (∃ c, (x, c) ∈ cs) → ∃ c, (x, c) ∈ clOf env names cs
  | [], cs, h => h
  | (n, k) :: r, cs, ⟨c, h⟩ => by
    unfold clOf
    refine clOf_keeps r _ ?_
    split
    · exact ⟨c, .tail _ h⟩
    · exact ⟨c, h⟩
theorem clOf_has {env : Env} {x : Str} : ∀ (names : List (Str × NameKind)) (cs : List (Str × Addr)), (x, NameKind.free) ∈ names → ∃ c, (x, c) ∈ clOf env names cs
  | [], cs, h => by cases h
  | (n, k) :: r, cs, h => by
    unfold clOf
    rcases List.mem_cons.mp h with e | h
    · cases e
      exact clOf_keeps r _ ⟨_, by rw [if_pos (by decide)]; exact .head _⟩
    · exact clOf_has r _ h
/-- the loop of a comprehension, any target -/
theorem comp_loop {prog : Program} {w : World} {A : Around} {R : Result → Shared → Prop} {s : Shared} {elt target iter : Expr} {ifs : List Expr} {scope : Scope} {pos : Pos} {it acc : Value} {env : Env} (I : Nat → Shared → Prop)
    (turn : ∀ n s, I n s → wpAny (model prog w) A (pyNext it) (fun r s₁ => match r with
      | none => R (.ok .next) s₁
      | some v => wpAny (model prog w) A (letOwnedTupleGo target it v) (fun _ s₁' => wpAny (model prog w) A (assign target env v) (fun _ s₂ =>
          wpAny (model prog w) A (forIn ifs true fun c r => if r = true then do let ok ← isTrue c env (eval c env); pure (ForInStep.yield ok) else pure (ForInStep.yield r)) (fun ok s₃ =>
            if ok = true then wpAny (model prog w) A (eval elt env) (fun x s₄ =>
              wpAny (model prog w) A (call (.builtin "list.append") [acc, x]) (fun _ s₅ => ∃ m, m < n ∧ I m s₅) noE s₄) noE s₃
            else ∃ m, m < n ∧ I m s₃) noE s₂) noE s₁') noE s₁) noE s)
    (n : Nat) (h : I n s) : codeAny (model prog w) A (.compLoop (.ListComp elt [⟨target, iter, ifs, 0⟩] scope pos) 0 it acc env) R s := by
  refine codeAny_loop rfl I (fun n s hI => ?_) n h
  show wpAny _ A ((compTurn (.ListComp elt [⟨target, iter, ifs, 0⟩] scope pos) 0 it acc env).onRaise (fun x => do noteFrame x env; theTreesLotGoes x)) _ _ s
  refine wpAny_noted ?_
  rw [compTurn_list]
  refine wpAny_bind (wpAny_standAt (wpAny_bind (wpAny_mono (turn n s hI) (fun r s₁ h₁ => ?_) fun _ _ h' => h'.elim)))
  cases r with
  | none => exact wpAny_pure h₁
  | some v =>
    refine wpAny_bind (wpAny_mono h₁ (fun _ s₁' h₁' => ?_) fun _ _ h' => h'.elim)
    refine wpAny_bind (wpAny_mono h₁' (fun _ s₂ h₂ => wpAny_bind (wpAny_mono h₂ (fun ok s₃ h₃ => ?_) fun _ _ h' => h'.elim)) fun _ _ h' => h'.elim)
    cases ok with
    | false => exact wpAny_pure ⟨rfl, h₃⟩
    | true =>
      exact wpAny_bind (wpAny_bind (wpAny_mono h₃ (fun x s₄ h₄ => wpAny_bind (wpAny_mono h₄ (fun _ s₅ h₅ => wpAny_pure (wpAny_pure ⟨rfl, h₅⟩)) fun _ _ h' => h'.elim)) fun _ _ h' => h'.elim))


/-- what is to be seen of a comprehension's block; js: where its names come from -/
noncomputable def compOk (sc csc : Scope) (ns nsi : List Str) (js : List (Option Nat)) : Bool :=
  decide (csc.kind = .function) && !isTr csc && csc.names.all (fun y => decide (y.2 ≠ .cell) && (decide (y.2 ≠ .local) || csc.names.lookup y.1 == some .local) && decide (y.1 ≠ "__classdict__") && (decide (y.2 ≠ .free) || sc.names.lookup y.1 == some .cell)) &&
  nsi.all (fun x => (csc.names.lookup x == some .local || csc.names.lookup x == some .free) && decide (x ≠ "__debug__")) && decide nsi.Nodup && (nsi.zip js).all (fun p => match p.2 with | none => true | some j => csc.names.lookup p.1 == some .free && ns[j]? == some p.1)
noncomputable def inn (ls : List (Option V)) : Option Nat → Option V
  | none => none
  | some j => (gt ls j).getD none
structure CompIs (sc csc : Scope) (ns nsi : List Str) (js : List (Option Nat)) : Prop where
  kind : csc.kind = .function
  tr : isTr csc = false
  cell : ∀ y ∈ csc.names, y.2 ≠ .cell
  loc : ∀ y ∈ csc.names, y.2 = .local → csc.names.lookup y.1 = some .local
  dict : ∀ y ∈ csc.names, (y.1 == "__classdict__") = false
  free : ∀ y ∈ csc.names, y.2 = .free → sc.names.lookup y.1 = some .cell
  nms : ∀ x ∈ nsi, csc.names.lookup x = some .local ∨ csc.names.lookup x = some .free
  ndb : ∀ x ∈ nsi, x ≠ "__debug__"
  nd : nsi.Nodup
  src : ∀ (i : Nat) (x : Str) (j : Nat), nsi[i]? = some x → js[i]? = some (some j) → csc.names.lookup x = some .free ∧ ns[j]? = some x
theorem CompIs.of {sc csc : Scope} {ns nsi : List Str} {js : List (Option Nat)} (h : compOk sc csc ns nsi js = true) : CompIs sc csc ns nsi js := by
  simp only [compOk, Bool.and_eq_true, Bool.not_eq_true', decide_eq_true_eq, List.all_eq_true, Bool.or_eq_true, beq_iff_eq] at h
  obtain ⟨⟨⟨⟨⟨h1, h2⟩, h3⟩, h4⟩, h5⟩, h6⟩ := h
  refine ⟨h1, h2, fun y hy => (h3 y hy).1.1.1, fun y hy e => (h3 y hy).1.1.2.resolve_left (fun z => z e), fun y hy => beq_eq_false_iff_ne.mpr (h3 y hy).1.2, fun y hy e => (h3 y hy).2.resolve_left (fun z => z e), fun x hx => (h4 x hx).1, fun x hx => (h4 x hx).2, h5, fun i x j e1 e2 => ?_⟩
  have hm : (x, some j) ∈ nsi.zip js := List.mem_of_getElem? (i := i) (by rw [List.getElem?_zip_eq_some]; exact ⟨e1, e2⟩)
  have := h6 _ hm
  dsimp only at this
  rw [Bool.and_eq_true, beq_iff_eq, beq_iff_eq] at this
  exact this

section
variable {κ : Kx} {f : Fr κ} {π π' : Pl} {σ σ' : T} {s s' : Shared} {csc : Scope} {nsi : List Str} {js : List (Option Nat)} {C : Addr}
theorem lookup_map_kind {f : Str → NameKind → NameKind} : ∀ {l : List (Str × NameKind)} {x : Str}, (l.map fun (n, k) => (n, f n k)).lookup x = (l.lookup x).map (f x)
  | [], x => rfl
  | (n, k) :: r, x => by
    have ih := lookup_map_kind (f := f) (l := r) (x := x)
    rw [List.map_cons, List.lookup_cons, List.lookup_cons]
    cases hx : x == n with
    | true => rw [eq_of_beq hx]; rfl
    | false => exact ih
theorem kind_comp {x : Str} {cl : List (Str × Addr)} {env : Env} : (compEnvC csc cl C env).kindOf x = (csc.names.lookup x).map fun k => if (k == .free && env.scope.kind == .function && env.kindOf x == some .cell) then .cell else k := by
  show (relabel csc env).names.lookup x = _
  unfold relabel
  rw [← lookup_map_kind (f := fun n k => if (k == .free && env.scope.kind == .function && env.kindOf n == some .cell) then .cell else k)]
  congr 1
  apply List.map_congr_left
  rintro ⟨n, k⟩ _
  dsimp only
  split <;> rfl
/-- what an inner frame must leave alone -/
noncomputable def Fr.outer (f : Fr κ) (π : Pl) (h : Heap) (a : Addr) : Option Obj := open Classical in if π.fz a = none ∧ (a = f.env.locals ∨ ∃ v, h.IsCell a v) then h.get? a else f.kp a
theorem outer_at {h : Heap} {a : Addr} (h1 : π.fz a = none) (h2 : a = f.env.locals ∨ ∃ v, h.IsCell a v) : f.outer π h a = h.get? a := if_pos ⟨h1, h2⟩
theorem outer_kp (R : Rel f π σ s) {a : Addr} {o : Obj} (e : f.kp a = some o) : f.outer π s.heap a = some o := by
  unfold Fr.outer
  split
  · exact R.c.hk a o e
  · exact e
theorem outer_heap (R : Rel f π σ s) {a : Addr} {o : Obj} (e : f.outer π s.heap a = some o) : s.heap.get? a = some o ∧ π.fz a = none := by
  unfold Fr.outer at e
  split at e
  · rename_i h; exact ⟨e, h.1⟩
  · exact ⟨R.c.hk a o e, R.c.dj a o e⟩
theorem kp_outer (R : Rel f π σ s) {a : Addr} (e : f.outer π s.heap a = none) : f.kp a = none := by
  cases q : f.kp a with
  | none => rfl
  | some o => rw [outer_kp R q] at e; cases e
theorem outer_none (R : Rel f π σ s) {a : Addr} (h1 : a ≠ f.env.locals) (h2 : ∀ v, ¬ s.heap.IsCell a v) : f.outer π s.heap a = f.kp a := if_neg fun z => z.2.elim h1 fun ⟨v, w⟩ => h2 v w
/-- an inner frame -/
noncomputable def Fr.inner (f : Fr κ) (π : Pl) (h : Heap) {csc : Scope} {nsi : List Str} (C : Addr) (ok : FrOk ⟨κ.D, κ.n, csc, nsi, false⟩ (compEnvC csc (clOf f.env csc.names []) C f.env) f.A []) : Fr ⟨κ.D, κ.n, csc, nsi, false⟩ := ⟨compEnvC csc (clOf f.env csc.names []) C f.env, f.A, f.outer π h, [], ok⟩
theorem inner_free (f : Fr κ) (I : CompIs κ.sc csc κ.ns nsi js) : ∀ y ∈ csc.names, y.2 = .free → ∃ c, f.env.cells.lookup y.1 = some c := fun y hy e => let ⟨_, c, hc, _⟩ := f.ok.cell y.1 (I.free y hy e); ⟨c, hc⟩
theorem inner_ok (f : Fr κ) (I : CompIs κ.sc csc κ.ns nsi js) (C : Addr) : FrOk ⟨κ.D, κ.n, csc, nsi, false⟩ (compEnvC csc (clOf f.env csc.names []) C f.env) f.A [] := by
  refine ⟨f.ok.dok, f.ok.ao, I.kind, f.ok.globals, f.ok.builtins, fun x hx => ?_, fun x hx => ?_, fun x hx => absurd rfl (I.cell _ (mem_of_lookup hx)), fun x hx => ⟨?_, I.dict _ (mem_of_lookup hx)⟩, fun x hx => (I.nms x hx).imp id .inr, I.ndb, fun z => absurd z Bool.false_ne_true, I.nd, .inl rfl, fun z => absurd (I.tr.symm.trans z) Bool.false_ne_true⟩
  · rw [kind_comp, show csc.names.lookup x = some .globalImplicit from hx]; rfl
  · rw [kind_comp, show csc.names.lookup x = some .local from hx]; rfl
  · rw [kind_comp, show csc.names.lookup x = some .free from hx]
    dsimp only [Option.map]
    split
    · exact .inl rfl
    · exact .inr rfl
/-- it begins -/
theorem Rel.into (R : Rel f π σ s) (I : CompIs κ.sc csc κ.ns nsi js) (hk : ∀ b o, s.heap.get? b = some o → s'.heap.get? b = some o) (hC : s.heap.get? C = none) (hn : s'.heap.Ns C fun _ => none) (hg : AllBare s'.gens) (ho : s'.os = s.os) (ht : 0 < s'.toks) :
    Rel (f.inner π s.heap C (inner_ok f I C)) π ⟨js.map (inn σ.ls), σ.objs, σ.hd⟩ s' := by
  obtain ⟨n1, n2, n3, n4, n5⟩ := R.new hC
  have Rc : CRel κ.D (f.outer π s.heap) π σ.hd s := ⟨R.c.hz, fun a o e => (outer_heap R e).1, fun a o e => (outer_heap R e).2, R.c.gd, R.c.tab, R.c.ct, fun a q => ⟨(R.c.sh a q).1, by
    rw [outer_none R]
    · exact (R.c.sh a q).2
    · rintro rfl
      exact q.elim (R.ow _ ow_loc).2.2.1 (R.ow _ ow_loc).2.2.2
    · rintro v ⟨o, e, d⟩
      rcases q with rfl | q
      · obtain ⟨ps, e', _⟩ := R.c.ct
        rw [e'] at e; cases e; cases d
      · obtain ⟨vs, n, e'⟩ := R.c.tabList q
        rw [e'] at e; cases e; cases d⟩, R.c.gens, R.c.os, R.c.tk⟩
  have hfree := inner_free f I
  refine ⟨Rc.grow hk hg ho ht, ⟨_, hn, fun i x V a b => ?_⟩, fun c hc => (by cases hc), R.len, fun k l e => let ⟨a, vs, n, e1, e2, e3⟩ := R.ob k l e; ⟨a, vs, n, e1, hk _ _ e2, e3⟩, R.nd, fun a ha => ?_⟩
  · have hj : ∃ j, js[i]? = some (some j) ∧ gt σ.ls j = some (some V) := by
      rw [gt_is] at b
      rw [List.getElem?_map] at b
      obtain ⟨j, hj, e⟩ := Option.map_eq_some_iff.mp b
      cases j with
      | none => cases e
      | some j =>
        refine ⟨j, hj, ?_⟩
        have e : (gt σ.ls j).getD none = some V := e
        cases q : gt σ.ls j with
        | none => rw [q] at e; cases e
        | some w => rw [q] at e; exact congrArg some e
    obtain ⟨j, hj, hV⟩ := hj
    obtain ⟨hf, hx⟩ := I.src i x j a hj
    obtain ⟨mL, _, hv⟩ := R.ns
    obtain ⟨v, r, z⟩ := hv j x V hx hV
    refine ⟨v, r, .inr ⟨by show csc.names.lookup x ≠ _; rw [hf]; decide, ?_⟩⟩
    have hc' := I.free _ (mem_of_lookup hf) rfl
    rcases z with ⟨hl, _⟩ | ⟨_, d, ed, hd⟩
    · rw [hc'] at hl; cases hl
    · obtain ⟨c', h'⟩ := lookup_some_of (clOf_has (env := f.env) csc.names [] (mem_of_lookup hf))
      have := clOf_mem csc.names [] hfree (fun p hp => by cases hp) _ (mem_of_lookup h')
      rw [ed] at this
      cases this
      exact ⟨c', h', hd.keeps hk⟩
  · rcases List.mem_cons.mp ha with rfl | ha
    · refine ⟨n1, ?_, n3, n4⟩
      show f.outer π s.heap a = none
      rw [outer_none R (fun z => n5 (by rw [z]; exact ow_loc)) (fun v ⟨o, e, _⟩ => nomatch hC.symm.trans e)]
      exact n2
    · have ha : a ∈ π.ρ := ha
      obtain ⟨w1, w2, w3, w4⟩ := R.ow a (ow_obj ha)
      refine ⟨w1, ?_, w3, w4⟩
      obtain ⟨vs, n, e⟩ := R.objAt ha
      show f.outer π s.heap a = none
      rw [outer_none R (fun z => ?_) (fun v ⟨o, e', d⟩ => by rw [e] at e'; cases e'; cases d)]
      · exact w2
      · obtain ⟨mL, hn, _⟩ := R.ns
        exact ns_ne_list hn e z
/-- and ends -/
theorem Rel.outOf (R : Rel f π σ s) (I : CompIs κ.sc csc κ.ns nsi js) (Rc : Rel (f.inner π s.heap C (inner_ok f I C)) π' σ' s') (e : π.le π') : Rel f π' ⟨σ.ls, σ'.objs, σ'.hd⟩ s' := by
  have own : ∀ a o, (a = f.env.locals ∨ ∃ v, s.heap.IsCell a v) → s.heap.get? a = some o → s'.heap.get? a = some o := fun a o q z => by
    cases w : π.fz a with
    | none => exact Rc.c.hk a o ((outer_at w q).trans z)
    | some o' => rw [R.c.hz a o' w] at z; cases z; exact Rc.c.hz a _ (e.fz _ _ w)
  obtain ⟨mL, ⟨o, es, ep, h0, r0⟩, hn⟩ := R.ns
  have kc : ∀ c v, s.heap.IsCell c v → s'.heap.IsCell c v := fun c v ⟨o, z, d⟩ => ⟨o, own c o (.inr ⟨v, o, z, d⟩) z, d⟩
  refine ⟨⟨Rc.c.hz, fun a o q => Rc.c.hk a o (outer_kp R q), fun a o q => Rc.c.dj a o (outer_kp R q), Rc.c.gd, Rc.c.tab, Rc.c.ct, fun a q => ⟨(Rc.c.sh a q).1, kp_outer R (Rc.c.sh a q).2⟩, Rc.c.gens, Rc.c.os, Rc.c.tk⟩,
    ⟨mL, ⟨o, es, ep, own _ _ (.inl rfl) h0, r0⟩, hn.le e kc⟩, fun c hc => let ⟨v, z⟩ := R.cl c hc; ⟨v, kc c v z⟩, Rc.len, Rc.ob, Rc.nd, fun a ha => ?_⟩
  have mine : ∀ o, (a = f.env.locals ∨ ∃ v, s.heap.IsCell a v) → a ∈ ownF f π → s.heap.get? a = some o → π'.fz a = none ∧ f.kp a = none ∧ a ≠ κ.D.ct ∧ a ∉ π'.tabs := fun o q m z => by
    obtain ⟨w1, w2, w3, w4⟩ := R.ow a m
    have hk : f.outer π s.heap a = some o := (outer_at w1 q).trans z
    exact ⟨Rc.c.dj a o hk, w2, w3, fun y => nomatch hk.symm.trans (Rc.c.sh a (.inr y)).2⟩
  rcases List.mem_cons.mp ha with rfl | ha
  · exact mine o (.inl rfl) ow_loc h0
  rcases List.mem_append.mp ha with ha | ha
  · obtain ⟨v, o, z, d⟩ := R.cl a ha
    exact mine o (.inr ⟨v, o, z, d⟩) (ow_cell ha) z
  · obtain ⟨w1, w2, w3, w4⟩ := Rc.ow a (ow_obj ha)
    exact ⟨w1, kp_outer R w2, w3, w4⟩
end
end

section
open PySem PySem.Calls PyProof.Rows PySem.W

/-- what a comprehension walks: the table's rows, or a list, a range -/
noncomputable def srcC : Bool → T → V → Option (List V)
  | true, σ, .hl => σ.hd
  | false, _, .lst l => some l
  | false, _, .rng a b c => some (rngList a b c)
  | _, _, _ => none
noncomputable def andHd (h : Bool) (all : List V) (σ : T) (P : Prop) : Prop := match h with
  | true => σ.hd = some all ∧ P
  | false => P
theorem andHd_v {h : Bool} {all : List V} {σ : T} {P : Prop} (x : andHd h all σ P) : (h = true → σ.hd = some all) ∧ P := by
  cases h with
  | true => exact ⟨fun _ => x.1, x.2⟩
  | false => exact ⟨fun z => absurd z Bool.false_ne_true, x⟩
noncomputable abbrev PLC := V → T → (Option V → T → Prop) → Prop
noncomputable def compGo (h : Bool) (all : List V) (turn : PLC) : List V → List V → T → (List V → T → Prop) → Prop
  | [], acc, σ, Q => andHd h all σ (Q acc σ)
  | v :: r, acc, σ, Q => andHd h all σ (turn v σ fun o σ => match o with
    | none => compGo h all turn r acc σ Q
    | some x => acc.length < big ∧ compGo h all turn r (acc ++ [x]) σ Q)

section
variable {κ : Kx} {f : Fr κ} {π π' : Pl} {σ σ' : T} {s s' : Shared} {csc : Scope} {nsi : List Str} {js : List (Option Nat)} {C : Addr} {all : List V} {t : Expr} {hb : Bool}
theorem startC_ok (R : Rel f π σ s) {V : V} {v : Value} (x : VRel κ.D π V v) (h : srcC hb σ V = some all) :
    Ok f (pyIter v) (fun it s' => ∃ o, it = .ref s.heap.objs.size ∧ s' = { s with heap := s.heap.push o } ∧ o.isFreed = false ∧ (∀ v, o.data ≠ .cell v) ∧ ItOk κ.D f.A t (if hb then some all else none) s.heap.objs.size π all o ∧
      ∀ (s₂ : Shared) (Q : Value → Shared → Prop) (E : Value → Shared → Prop), s₂.heap.get? s.heap.objs.size = some o → Q (.ref s.heap.objs.size) s₂ → wpAny (Mo κ) f.A (pyIter (.ref s.heap.objs.size)) Q E s₂) s := by
  have hh := f.ok.ao.hh
  have lst : ∀ (a : Addr) (vs : List Value), s.heap.IsList a vs.toArray → (∀ π' s' o, π.le π' → Srcs κ.D (if hb then some all else none) s.heap.objs.size π' o s' → ∃ vs n, s'.heap.get? a = some (lstObj vs n) ∧ VRels κ.D π' all vs ∧ a ≠ s.heap.objs.size) → Ok f (pyIter (.ref a)) (fun it s' => ∃ o, it = .ref s.heap.objs.size ∧ s' = { s with heap := s.heap.push o } ∧ o.isFreed = false ∧ (∀ v, o.data ≠ .cell v) ∧ ItOk κ.D f.A t (if hb then some all else none) s.heap.objs.size π all o ∧
      ∀ (s₂ : Shared) (Q : Value → Shared → Prop) (E : Value → Shared → Prop), s₂.heap.get? s.heap.objs.size = some o → Q (.ref s.heap.objs.size) s₂ → wpAny (Mo κ) f.A (pyIter (.ref s.heap.objs.size)) Q E s₂) s := fun a vs hl hx =>
    wpAny_pyIter_list hl ⟨_, rfl, rfl, rfl, nocell rfl, ItOk.lst (ax := a) hh hx _ 0 _ rfl (Nat.zero_le _) ⟨rfl, rfl⟩, fun s₂ Q E e q => wpAny_pyIter_listiter ⟨_, e, rfl, rfl⟩ q⟩
  cases hb with
  | false =>
    cases V with
    | lst l =>
      cases h
      obtain ⟨a, vs, n, rfl, ho, rs⟩ := x
      refine lst a vs ⟨_, R.c.hz _ _ ho, rfl, _, rfl⟩ fun π' s' o le S => ⟨vs, n, S.hz _ _ (le.fz _ _ ho), rs.le le, ?_⟩
      rintro rfl
      exact nomatch (le.fz _ _ ho).symm.trans S.fr
    | rng a b c =>
      cases h
      obtain ⟨r, t', u, y, rfl, ho, hz⟩ := x
      refine wpAny_pyIter_range (R.c.hz _ _ ho) hz ⟨_, rfl, rfl, rfl, nocell rfl, ItOk.rng (a := a) (b := b) (c := c) hh _ 0 _ rfl (Nat.zero_le _) (rng_start ..), fun s₂ Q E e q => ?_⟩
      rw [rng_start a b c] at e
      exact wpAny_pyIter_rangeiter e q
    | _ => cases h
  | true =>
    cases V with
    | hl =>
      obtain ⟨x₀, d₀, η, et, rfl⟩ := x
      have hh' : σ.hd = some all := h
      obtain ⟨vs, n, _, _, _, h1, h2, _⟩ := tab_eta R.c.tab hh' et
      refine lst η vs ⟨_, h1, rfl, _, rfl⟩ fun π' s' o le S => ?_
      have et' : π'.tab = some (x₀, d₀, η) := le.tab.elim (fun z => nomatch z.symm.trans et) fun z => z.trans et
      obtain ⟨vs', n', _, _, _, h1', h2', _⟩ := tab_eta (S.tab all rfl) rfl et'
      refine ⟨vs', n', h1', h2', ?_⟩
      rintro rfl
      exact S.ts (by unfold Pl.tabs; rw [et']; exact .head _)
    | _ => cases h

/-- one turn: the item is stored, the tests are asked, the value is made -/
structure SLC (κ : Kx) (elt t : Expr) (ifs : List Expr) (P : PLC) : Prop where
  run : ∀ (f : Fr κ) π σ s V v K, Rel f π σ s → VRel κ.D π V v → P V σ K →
  Ok f (assign t f.env v) (fun _ s₂ => Ok f (forIn ifs true fun c r => if r = true then do let ok ← PySem.isTrue c f.env (eval c f.env); pure (ForInStep.yield ok) else pure (ForInStep.yield r)) (fun ok s₃ =>
    if ok = true then Ok f (eval elt f.env) (Post f π fun x σ => K (some x) σ) s₃ else PostU f π (K none) () s₃) s₂) s
noncomputable def lc0 (P : PA) (a : PE) : PLC := fun v σ K => P v σ fun σ => a σ fun x σ => K (some x) σ
noncomputable def lc1 (P : PA) (c : PB) (a : PE) : PLC := fun v σ K => P v σ fun σ => c σ fun t σ => br t (a σ fun x σ => K (some x) σ) (K none σ)
theorem rLc0 {elt t : Expr} {P : PA} {a : PE} (ht : SA κ t P) (ha : SE κ elt a) : SLC κ elt t [] (lc0 P a) := .mk fun f π σ s V v K R x h =>
  thenU (ht.run f π σ s V v _ R x h) fun u σ₁ π₁ s₁ q R₁ e₁ => by
    refine wpAny_pure ?_
    rw [if_pos rfl]
    exact calm (ha.run f π₁ σ₁ s₁ _ R₁ q) fun _ _ => .from e₁
theorem rLc1 {elt t c : Expr} {P : PA} {b : PB} {a : PE} (ht : SA κ t P) (hc : SB κ c b) (ha : SE κ elt a) : SLC κ elt t [c] (lc1 P b a) := .mk fun f π σ s V v K R x h =>
  thenU (ht.run f π σ s V v _ R x h) fun u σ₁ π₁ s₁ q R₁ e₁ => by
    rw [List.forIn_cons, if_pos rfl, bind_assoc]
    refine wpAny_bind (thenB (hc.run f π₁ σ₁ s₁ _ R₁ q) fun t σ₂ π₂ s₂ q R₂ e₂ => ?_)
    rw [pure_bind]
    refine wpAny_pure ?_
    cases t
    · rw [if_neg (by decide)]
      exact ⟨σ₂, π₂, q, R₂, e₁.trans e₂⟩
    · rw [if_pos rfl]
      exact calm (ha.run f π₂ σ₂ s₂ _ R₂ q) fun _ _ => .from (e₁.trans e₂)

/-- a comprehension: what it hands on, its block still in sight -/
theorem comp_core {elt it : Expr} {ifs : List Expr} {p pos : Pos} {use : Option (Value → Sem Unit)} {PX : Value → Shared → Prop} {a : PE} {turn : PLC} {Q : V → T → Prop} (hit : SE κ it a) (hlc : SLC ⟨κ.D, κ.n, csc, nsi, false⟩ elt t ifs turn) (hco : compOk κ.sc csc κ.ns nsi js = true)
    (hset : ∀ (env : Env) x, foldedSetIterable it env x = pure x) (R : Rel f π σ s)
    (h : a σ fun v σ₁ => opt (srcC hb σ₁ v) fun l => compGo hb l turn l [] ⟨js.map (inn σ₁.ls), σ₁.objs, σ₁.hd⟩ fun acc σ₂ => Q (.lst acc) ⟨σ₁.ls, σ₂.objs, σ₂.hd⟩)
    (K : ∀ C oC Dv s' V π' σ', Q V σ' → Rel (f.keep C oC) π' σ' s' → VRel κ.D π' V (.ref Dv) → π.le π' → f.kp C = none → (∀ v, oC.data ≠ .cell v) → (∀ h : Heap, h.get? C = some oC → ∃ m, h.Ns C m) → compPost (Mo κ) f.A noE use PX (.ref Dv) C (.ok .next) s') :
    Ok f (comprehension (.ListComp elt [⟨t, it, ifs, 0⟩] csc p) csc f.env pos (newList []) false (eval it f.env) use) PX s := by
  have I := CompIs.of hco
  have hfree := inner_free f I
  refine wpAny_comprehension_free rfl (hset _) (clos_eq hfree) I.kind I.loc (thenV (hit.run f π σ s _ R h) fun iv va σ₁ π₁ s₁ q R₁ x₁ e₁ => ?_)
  obtain ⟨l, hl, go⟩ := opt_v q
  refine calm (startC_ok (t := t) R₁ x₁ hl) fun itv s₂ ⟨oI, e2, es, hfrI, hcI, hIt, hself⟩ => ?_
  subst e2; subst es
  refine wpAny_newObj_type (wpAny_newFunctionEnv (fun y hy => I.cell y hy) (fun y hy => by cases hy) (fun h₄ hns hsb => ?_) I.kind)
  dsimp only at hns hsb ⊢
  have hI₁ := size_none s₁.heap
  generalize hII : s₁.heap.objs.size = A₁ at *
  have up₁ : ∀ b o, s₁.heap.get? b = some o → (s₁.heap.push oI).get? b = some o := fun b o e => Heap.get?_push_of_some _ e
  have at₁ : (s₁.heap.push oI).get? A₁ = some oI := hII ▸ Heap.get?_push_size _ hfrI
  generalize s₁.heap.push oI = h₂ at *
  have hD₂ := size_none h₂
  generalize hDD : h₂.objs.size = Dv at *
  have up₂ : ∀ b o, h₂.get? b = some o → (h₂.push (lstObj [] 0)).get? b = some o := fun b o e => Heap.get?_push_of_some _ e
  have at₂ : (h₂.push (lstObj [] 0)).get? Dv = some (lstObj [] 0) := hDD ▸ Heap.get?_push_size _ rfl
  change Heap.Ns h₄ (h₂.push (lstObj [] 0)).objs.size _ at hns
  change Heap.SameBut (h₂.push (lstObj [] 0)).objs.size _ h₄ at hsb
  have hC₃ := size_none (h₂.push (lstObj [] 0))
  generalize h₂.push (lstObj [] 0) = h₃ at *
  generalize hCC : h₃.objs.size = C at *
  have up₃ : ∀ b o, h₃.get? b = some o → h₄.get? b = some o := fun b o e => by
    have hb : b ≠ C := fun q => by rw [q, hC₃] at e; cases e
    rw [hsb.2 b hb]
    exact Heap.get?_push_of_some _ e
  have below : ∀ {h h' : Heap} {a : Addr}, (∀ b o, h.get? b = some o → h'.get? b = some o) → h'.get? a = none → h.get? a = none := fun {h h' a} k e => by
    cases q : h.get? a with
    | none => rfl
    | some o => rw [k a o q] at e; cases e
  have hD₁ := below up₁ hD₂
  have hC₁ := below up₁ (below up₂ hC₃)
  have nID : A₁ ≠ Dv := fun q => by rw [q, hD₂] at at₁; cases at₁
  have nIC : A₁ ≠ C := fun q => by have := up₂ _ _ at₁; rw [q, hC₃] at this; cases this
  have nDC : Dv ≠ C := fun q => by rw [q, hC₃] at at₂; cases at₂
  have all₁ : ∀ b o, s₁.heap.get? b = some o → h₄.get? b = some o := fun b o e => up₃ b o (up₂ b o (up₁ b o e))
  let G : Fr ⟨κ.D, κ.n, csc, nsi, false⟩ := f.inner π₁ s₁.heap C (inner_ok f I C)
  have R₄ : Rel G π₁ ⟨js.map (inn σ₁.ls), σ₁.objs, σ₁.hd⟩ { s₁ with heap := h₄, toks := s₁.toks + 0 } := R₁.into I all₁ hC₁ hns R₁.c.gens rfl R₁.c.tk
  have out : ∀ {a}, s₁.heap.get? a = none → G.kp a = none := fun {a} e => (outer_none R₁ (fun z => no_one e (by rw [z]; exact R₁.ownIn _ ow_loc)) fun v ⟨o, w, _⟩ => nomatch e.symm.trans w).trans (R₁.new e).2.1
  have own : ∀ {a}, s₁.heap.get? a = none → a ≠ C → a ∉ ownF G π₁ := fun {a} e n z => (List.mem_cons.mp z).elim n fun z => (R₁.new e).2.2.2.2 (ow_obj z)
  obtain ⟨d1, d2, d3, d4, d5⟩ := R₁.new hD₁
  obtain ⟨i1, i2, i3, i4, i5⟩ := R₁.new hI₁
  obtain ⟨c1, c2, c3, c4, c5⟩ := R₁.new hC₁
  have R₅ : Rel (G.keep Dv (lstObj [] 0)) π₁ ⟨js.map (inn σ₁.ls), σ₁.objs, σ₁.hd⟩ _ := R₄.keep (up₃ _ _ at₂) d1 d3 d4 (own hD₁ nDC)
  have R₆ := R₅.keep (up₃ _ _ (up₂ _ _ at₁)) i1 i3 i4 (own hI₁ nIC)
  have kI : ∀ {o}, (G.keep Dv o).kp A₁ = none := (kp_ne nID).trans (out hI₁)
  have kD : G.kp Dv = none := out hD₁
  have hdOf : ∀ {r acc σ Q}, compGo hb l turn r acc σ Q → ∀ l', (if hb then some l else none) = some l' → σ.hd = some l' := fun {r acc σ Q} g l' e => by
    cases hb with
    | false => cases e
    | true => cases e; cases r <;> exact (andHd_v g).1 rfl
  have loop : codeAny (Mo κ) f.A (.compLoop (.ListComp elt [⟨t, it, ifs, 0⟩] csc p) 0 (.ref A₁) (.ref Dv) G.env) (compPost (Mo κ) f.A noE use PX (.ref Dv) C) { s₁ with heap := h₄, toks := s₁.toks + 0 } := by
    refine comp_loop (fun k s => ∃ r acc o vs m σ π, k = r.length ∧ (∀ v, o.data ≠ .cell v) ∧ Rel ((G.keep Dv (lstObj vs m)).keep A₁ o) π σ s ∧ ItOk κ.D f.A t (if hb then some l else none) A₁ π₁ r o ∧ VRels κ.D π acc vs ∧
      compGo hb l turn r acc σ (fun acc σ₂ => Q (.lst acc) ⟨σ₁.ls, σ₂.objs, σ₂.hd⟩) ∧ π₁.le π) ?_ l.length ⟨l, [], oI, [], 0, _, π₁, rfl, hcI, R₆, hIt, .nil, go, .refl π₁⟩
    rintro k s ⟨r, acc, o, vs, m, σ₅, π₅, rfl, hc₅, R₇, it₅, xa, go, le⟩
    cases r with
    | nil =>
      refine wpAny_mono (end_ok (f := G.keep Dv (lstObj vs m)) R₇ kI hc₅ it₅ le (hdOf go)) (fun u s₂ ⟨e, R₈⟩ => ?_) fun _ _ e => e.elim
      cases e
      have atD := R₈.c.hk Dv _ kp_at
      obtain ⟨R₉, z1, z2, z3, z4⟩ := Rel.unkeep (f := G) R₈ kD (fun v e => nomatch e) (h' := s₂.heap) (fun _ _ _ e => e) R₈.c.tk
      obtain ⟨y1, y2, y3, y4⟩ := R₉.ow C ow_loc
      obtain ⟨mC, ⟨oC, es, ep, hCo, hCd, hCr⟩, _⟩ := R₉.ns
      have hCo : s₂.heap.get? C = some oC := hCo
      have Ro := R₁.outOf I R₉ le
      have outF : ∀ {a}, a ∉ ownF f π₁ → a ∉ π₅.ρ → a ∉ ownF f π₅ := fun {a} n n' z => (List.mem_cons.mp z).elim (fun z => n (z ▸ ow_loc)) fun z => (List.mem_append.mp z).elim (fun z => n (ow_cell z)) n'
      obtain ⟨Rf, ef⟩ := Ro.freeze atD z1 d2 z2 z3 (outF d5 fun z => z4 (ow_obj z))
      have Cρ : C ∉ π₅.ρ := fun z => by
        obtain ⟨vs', m', e⟩ := R₉.objAt z
        rw [hCo] at e; cases e; cases hCd
      have Rk := Rf.keep (a := C) hCo ((Pl.add_ne nDC.symm).trans y1) y3 y4 (outF c5 Cρ)
      exact K C oC Dv s₂ (.lst acc) _ _ (andHd_v go).2 Rk ⟨Dv, vs, m, rfl, Pl.add_at, xa.le ef⟩ (e₁.trans (le.trans ef)) c2 (fun v e => nomatch hCd.symm.trans e) fun h e => ⟨mC, oC, es, ep, e, hCd, hCr⟩
    | cons W r =>
      refine wpAny_mono (turn_ok (f := G.keep Dv (lstObj vs m)) R₇ kI hc₅ it₅ le (hdOf go)) (fun u s₂ ⟨v, e, z⟩ => ?_) fun _ _ e => e.elim
      cases e
      refine wpAny_mono z (fun _ s₃ ⟨o₃, π₃, R₃, x₃, e₃, hc₃, it₃⟩ => ?_) fun _ _ e => e.elim
      refine wpAny_mono (hlc.run _ _ _ _ _ _ _ R₃ x₃ (andHd_v go).2) (fun _ s₄ z => wpAny_mono z (fun ok s₅ z => ?_) fun _ _ e => e.elim) fun _ _ e => e.elim
      cases ok with
      | false =>
        rw [if_neg (by decide)] at z ⊢
        obtain ⟨σ₈, π₈, q, R₈, e₈⟩ := z
        exact ⟨r.length, Nat.lt_succ_self _, r, acc, o₃, vs, m, σ₈, π₈, rfl, hc₃, R₈, it₃, xa.le (e₃.trans e₈), q, le.trans (e₃.trans e₈)⟩
      | true =>
        rw [if_pos rfl] at z ⊢
        refine calm z fun y s₆ ⟨Y, σ₈, π₈, q, R₈, xy, e₈⟩ => ?_
        have atD : s₆.heap.get? Dv = some (lstObj vs m) := R₈.c.hk Dv _ ((kp_ne nID.symm).trans kp_at)
        have atI : s₆.heap.get? A₁ = some o₃ := R₈.c.hk A₁ _ kp_at
        have xa' := xa.le (e₃.trans e₈)
        refine wpAny_list_append_plain (items := vs.toArray) (hsz := by rw [size_is xa', ← big_is]; exact Nat.le_of_lt q.1) ⟨m, atD⟩ fun h' hl' hs => ?_
        obtain ⟨m', hl'⟩ := hl'
        rw [List.push_toArray] at hl'
        obtain ⟨R₉, w1, w2, w3, w4⟩ := Rel.unkeep (f := G.keep Dv (lstObj vs m)) R₈ kI hc₃ (h' := s₆.heap) (fun _ _ _ e => e) R₈.c.tk
        obtain ⟨R₁₀, z1, z2, z3, z4⟩ := Rel.unkeep (f := G) R₉ kD (fun v e => nomatch e) (ext_of hs) R₈.c.tk
        have R₁₁ := R₁₀.keep (a := Dv) (o := lstObj (vs ++ [y]) m') hl' z1 z2 z3 z4
        have R₁₂ := R₁₁.keep (a := A₁) (o := o₃) ((hs.2 A₁ nID).trans atI) w1 w2 w3 w4
        exact ⟨r.length, Nat.lt_succ_self _, r, acc ++ [Y], o₃, vs ++ [y], m', σ₈, π₈, rfl, hc₃, R₁₂, it₃, xa'.append (.one xy), q.2, le.trans (e₃.trans e₈)⟩
  exact codeAny_compStart_list loop (hself _ _ _ (up₃ _ _ (up₂ _ _ at₁)) loop)
end
end

section
open PySem PySem.Calls PyProof.Rows PySem.W

section
variable {κ : Kx} {f : Fr κ} {π π' : Pl} {σ σ' : T} {s s' : Shared} {csc : Scope} {nsi : List Str} {t elt it : Expr} {ifs : List Expr} {p : Pos} {a : PE} {turn : PLC}
/-- [elt for t in it if ...] -/
noncomputable def pComp (hb : Bool) (js : List (Option Nat)) (a : PE) (turn : PLC) : PE := fun σ Q => a σ fun v σ₁ => opt (srcC hb σ₁ v) fun l => compGo hb l turn l [] ⟨js.map (inn σ₁.ls), σ₁.objs, σ₁.hd⟩ fun acc σ₂ => Q (.lst acc) ⟨σ₁.ls, σ₂.objs, σ₂.hd⟩
theorem rComp (hb : Bool) (js : List (Option Nat)) (nsi : List Str) (hco : compOk κ.sc csc κ.ns nsi js = true) (hit : SE κ it a) (hlc : SLC ⟨κ.D, κ.n, csc, nsi, false⟩ elt t ifs turn) (hset : ∀ (env : Env) x, foldedSetIterable it env x = pure x := by intros; rfl) :
    SE κ (.ListComp elt [⟨t, it, ifs, 0⟩] csc p) (pComp hb js a turn) := .mk fun f π σ s Q R h => by
  rw [eval_ListComp]
  refine comp_core (use := none) (Q := Q) hit hlc hco hset R h fun C oC Dv s' V π' σ' q R' x' e' hf hc hns => ?_
  obtain ⟨m, hm⟩ := hns _ (R'.c.hk C oC kp_at)
  exact ⟨m, hm, fun h' hs => ⟨V, σ', π', q, (Rel.unkeep (f := f) R' hf hc (ext_of hs) R'.c.tk).1, x', e'⟩⟩
/-- name = [elt for t in it if ...] -/
theorem rAsgC {x : Str} {q r : Pos} {P : PA} (hb : Bool) (js : List (Option Nat)) (nsi : List Str) (hco : compOk κ.sc csc κ.ns nsi js = true) (hit : SE κ it a) (hlc : SLC ⟨κ.D, κ.n, csc, nsi, false⟩ elt t ifs turn) (hP : SA κ (.Name x q) P) (hset : ∀ (env : Env) x, foldedSetIterable it env x = pure x := by intros; rfl) :
    SS κ (.Assign [.Name x q] (.ListComp elt [⟨t, it, ifs, 0⟩] csc p) r) (pAsg (pComp hb js a turn) P) := .mk fun f π σ s Q R h => by
  have cases2 : swapsWith (.ListComp elt [⟨t, it, ifs, 0⟩] csc p) (some (.Name x q)) r.line f.env = pure true ∨ swapsWith (.ListComp elt [⟨t, it, ifs, 0⟩] csc p) (some (.Name x q)) r.line f.env = pure false := by
    show (pure _ : Sem Bool) = _ ∨ (pure _ : Sem Bool) = _
    generalize (f.env.blockKind == .function && f.env.kindOf x == some .local && q.line == (Expr.ListComp elt [⟨t, it, ifs, 0⟩] csc p).pos.line && !(csc.names.any fun (n, k) => n == x && (k == .local || k == .cell))) = z
    cases z
    · exact .inr rfl
    · exact .inl rfl
  rcases cases2 with e1 | e1
  · rw [arm_exec_Assign]
    refine wpAny_bind (wpAny_standAt ?_)
    rw [show swapsWithSole [.Name x q] (.ListComp elt [⟨t, it, ifs, 0⟩] csc p) r.line f.env = pure true from e1]
    refine wpAny_bind (wpAny_pure ?_)
    rw [if_pos rfl, arm_evalThenUse_ListComp]
    dsimp only
    have core : Ok f (comprehension (.ListComp elt [⟨t, it, ifs, 0⟩] csc p) csc f.env (firstIterPos [⟨t, it, ifs, 0⟩] p) (newList []) false (eval it f.env) (some fun v => assignAll v ((assignEach [.Name x q] f.env).map (·.2)))) (fun _ s' => PostU f π (fun σ => Q .nxt σ) () s') s := by
      refine comp_core (Q := fun V σ₁ => P V σ₁ fun σ => Q .nxt σ) hit hlc hco hset R h fun C oC Dv s' V π' σ' q R' x' e' hf hc hns => ?_
      show Ok (f.keep C oC) (assign (.Name x _) f.env (.ref Dv)) _ s'
      refine thenU (f := f.keep C oC) (hP.run (f.keep C oC) π' σ' s' V _ _ R' x' q) fun u σ₁ π₁ s₁ q R₁ e₁ => ?_
      obtain ⟨m, hm⟩ := hns _ (R₁.c.hk C oC kp_at)
      exact ⟨m, hm, fun h' hs => ⟨σ₁, π₁, q, (Rel.unkeep (f := f) R₁ hf hc (ext_of hs) R₁.c.tk).1, e'.trans e₁⟩⟩
    exact wpAny_bind (wpAny_bind (calm core fun _ s' z => wpAny_pure (wpAny_pure z.fin)))
  · exact assign_plain e1 rfl (thenV ((rComp hb js nsi hco hit hlc hset).run f π σ s _ R h) fun V v σ₁ π₁ s₁ q R₁ x₁ e₁ => by
      show Ok f (assign (.Name x _) f.env v) _ s₁
      exact calm (hP.run f π₁ σ₁ s₁ V v _ R₁ x₁ q) fun _ _ z => .from e₁ z.fin)

-- items of a list of the frame's own
/-- chunks[k] = value -/
noncomputable def aSub (a b : PE) : PA := fun V σ Q => a σ fun x σ => asRef x fun k => b σ fun y σ => asInt y fun j => opt (gt σ.objs k) fun l => (0 ≤ j ∧ j.toNat < l.length ∧ l.length ≤ big) ∧ Q ⟨σ.ls, pt σ.objs k (l.set j.toNat V), σ.hd⟩
theorem lst_set (vs : List Value) (n : Nat) (j : Nat) (v : Value) : ∃ n', Obj.mapSeq (·.setIfInBounds j v) (lstObj vs n) = lstObj (vs.set j v) n' :=
  ⟨match (Obj.mapSeq (·.setIfInBounds j v) (lstObj vs n)).data with | .seq _ m => m | _ => 0, by simp [Obj.mapSeq]⟩
theorem setItem_exact {A : Around} {E : Value → Shared → Prop} {prog : Program} {w : World} {l : Addr} {vs : List Value} {m : Nat} {k : Int} {t : Tok} {v : Value} {Q : Unit → Shared → Prop} (ho : s.heap.get? l = some (lstObj vs m)) (h0 : 0 ≤ k) (hj : k.toNat < vs.length) (hs : vs.length ≤ sizeLine)
    (hQ : ∀ h' m', h'.get? l = some (lstObj (vs.set k.toNat v) m') → Heap.SameBut l s.heap h' → Q () { s with heap := h' }) : wpAny (model prog w) A (setItem (.ref l) (.int k t) v) Q E s := by
  have hl : s.heap.IsList l vs.toArray := ⟨_, ho, rfl, _, rfl⟩
  have hfit : k < 2 ^ 63 := by
    have : sizeLine < 2 ^ 63 := by rw [sizeLine_eq]; omega
    omega
  unfold setItem
  try with_reducible refine wpAny_holding ?_
  first | refine wpAny_bind (wpAny_pure ?_) | skip
  refine wpAny_bind (wpAny_sequenceKey hl.typeIs (by decide) ?_)
  refine wpAny_bind (wpAny_callSpecial?_slot (name := Str.ofString "__setitem__") hl.typeIs PySem.slot_list_setitem
    (wpAny_call_entry PySem.slot_list_setitem hl.typeIs PySem.entry_list_setitem ?_ (PySem.args_list_setitem _ _ _)))
  show wpAny _ _ (Builtin.List.listSubscript? (.int k t) >>= _) _ _ s
  refine wpAny_bind (wpAny_listSubscript_int (fitsIndex_of h0 hfit) ?_)
  clear hfit
  obtain ⟨j, rfl⟩ := Int.eq_ofNat_of_zero_le h0
  have hj' : j < vs.length := hj
  obtain ⟨m', hm⟩ := lst_set vs m j v
  have hx' : vs.toArray[j]? = some vs[j] := (List.getElem?_toArray ..).trans (List.getElem?_eq_getElem hj')
  show wpAny _ _ ((seqItemAt l j >>= fun r => pure (r.map (j, ·))) >>= _) _ _ s
  refine wpAny_bind (wpAny_bind (wpAny_seqItemAt ho rfl (wpAny_pure ?_)))
  rw [hx']
  show wpAny _ _ (setSeqItemAt l j v >>= _) _ _ s
  have hfin : (s.heap.update l (Obj.mapSeq (·.setIfInBounds j v))).get? l = some (lstObj (vs.set j v) m') := by
    rw [Heap.get?_update_self _ ho (by rw [hm]; rfl), hm]
  refine wpAny_bind (wpAny_setSeqItemAt ho rfl ?_)
  first
    | exact wpAny_bind (wpAny_pure (wpAny_pure ⟨.none, rfl, wpAny_pure (hQ _ _ hfin (Heap.SameBut.update ..))⟩))
    | exact wpAny_pure ⟨.none, rfl, wpAny_pure (hQ _ _ hfin (Heap.SameBut.update ..))⟩
theorem delItem_exact {A : Around} {E : Value → Shared → Prop} {prog : Program} {w : World} {l : Addr} {vs : List Value} {m : Nat} {j : Nat} {t : Tok} {Q : Unit → Shared → Prop} (ho : s.heap.get? l = some (lstObj vs m)) (hj : j < vs.length) (hs : vs.length ≤ sizeLine)
    (hQ : ∀ h' m', h'.get? l = some (lstObj (vs.eraseIdx j) m') → Heap.SameBut l s.heap h' → Q () { s with heap := h' }) : wpAny (model prog w) A (delItem (.ref l) (.int j t)) Q E s := by
  have hsz : sizeLine < 2 ^ 63 := by rw [sizeLine_eq]; omega
  refine delItem_at (its := vs.toArray) (n := m) ho (fitsIndex_of (by omega) (by omega)) (seqIndex_of (k := (j : Int)) (by omega) (by rw [List.size_toArray]; omega)) (fun h' hs' e => ?_) hs
  refine hQ h' (m + 1) ?_ hs'
  rw [e]
  simp
theorem rASub {o i : Expr} {p : Pos} {a b : PE} (ha : SE κ o a) (hb : SE κ i b) : SA κ (.Subscript o i p) (aSub a b) := .mk fun f π σ s V v Q R x h => by
  rw [arm_assign_Subscript]
  refine wpAny_bind (wpAny_holding (thenV (ha.run f π σ s _ R h) fun A va σ₁ π₁ s₁ q R₁ x₁ e₁ => ?_))
  obtain ⟨k, rfl, q⟩ := asRef_v q
  refine wpAny_bind (wpAny_holding (thenV (hb.run f π₁ σ₁ s₁ _ R₁ q) fun B vb σ₂ π₂ s₂ q R₂ x₂ e₂ => wpAny_bind (wpAny_standAt (wpAny_bind (wpAny_holding ?_)))))
  obtain ⟨j, rfl, q⟩ := asInt_v q
  obtain ⟨l, hl, ⟨j0, j1, j2⟩, q⟩ := opt_v q
  obtain ⟨t, rfl⟩ := x₂
  obtain ⟨a', ea, rfl⟩ := x₁.le e₂
  obtain ⟨a, vs, m, hA, ho, hr⟩ := R₂.ob k l hl
  obtain rfl : a = a' := Option.some.inj (hA.symm.trans ea)
  exact setItem_exact ho j0 (by rw [hr.length]; exact j1) (by rw [hr.length, ← big_is]; exact j2) fun h' m' hn hs => wpAny_release ⟨_, π₂, q, R₂.setObj ea hl (hr.set j.toNat (x.le (e₁.trans e₂))) hn hs R₂.c.tk, e₁.trans e₂⟩
/-- del chunks[k] -/
noncomputable def pDel (a b : PE) : PS := fun σ Q => a σ fun x σ => asRef x fun k => b σ fun y σ => asInt y fun j => opt (gt σ.objs k) fun l => (0 ≤ j ∧ j.toNat < l.length ∧ l.length ≤ big) ∧ Q .nxt ⟨σ.ls, pt σ.objs k (l.eraseIdx j.toNat), σ.hd⟩
theorem rDel {o i : Expr} {p q : Pos} {a b : PE} (ha : SE κ o a) (hb : SE κ i b) : SS κ (.Delete [.Subscript o i p] q) (pDel a b) := .mk fun f π σ s Q R h =>
  wpAny_Delete (wpAny_deleteEach_cons (wpAny_delete_Subscript (thenV (ha.run f π σ s _ R h) fun A va σ₁ π₁ s₁ q R₁ x₁ e₁ => by
    obtain ⟨k, rfl, q⟩ := asRef_v q
    refine thenV (hb.run f π₁ σ₁ s₁ _ R₁ q) fun B vb σ₂ π₂ s₂ q R₂ x₂ e₂ => ?_
    obtain ⟨j, rfl, q⟩ := asInt_v q
    obtain ⟨l, hl, ⟨j0, j1, j2⟩, q⟩ := opt_v q
    obtain ⟨t, rfl⟩ := x₂
    obtain ⟨a', ea, rfl⟩ := x₁.le e₂
    obtain ⟨a, vs, m, hA, ho, hr⟩ := R₂.ob k l hl
    obtain rfl : a = a' := Option.some.inj (hA.symm.trans ea)
    obtain ⟨j', rfl⟩ := Int.eq_ofNat_of_zero_le j0
    exact delItem_exact ho (by rw [hr.length]; exact j1) (by rw [hr.length, ← big_is]; exact j2) fun h' m' hn hs => wpAny_deleteEach_nil ⟨.nxt, _, π₂, q, R₂.setObj ea hl (hr.eraseIdx j') hn hs R₂.c.tk, rfl, e₁.trans e₂⟩)))
end
end

section
open PySem PySem.Calls PyProof.Rows PySem.W

theorem among_ref {c' : Addr} {a b : Int} {pos : Pos} {v : Value} : ∀ (l : List Value), TriplesOk l → codeAmong pos (l ++ [rawInt a, rawInt b, .ref c']) = some v → codeAmong pos l = some v ∨ v = .ref c' := by
  intro l ht e
  fun_induction TriplesOk l with
  | case1 =>
    simp only [List.nil_append, rawInt, codeAmong] at e
    split at e
    · cases e; exact .inr rfl
    · cases e
  | case2 a' t b' u x rest ih =>
    simp only [List.cons_append, codeAmong] at e ⊢
    split at e
    · rename_i hc
      rw [if_pos hc]; exact .inl e
    · rename_i hc
      rw [if_neg hc]
      exact ih ht e
  | case3 l h1 h2 => exact ht.elim
theorem refs_snoc {ps : Array Value} {a b : Int} {c' : Addr} (p2 : TriplesOk ps.toList) (p3 : ∀ pos v, codeAmong pos ps.toList = some v → ∃ c', v = .ref c') : TriplesOk (ps ++ #[rawInt a, rawInt b, .ref c']).toList ∧ ∀ pos v, codeAmong pos (ps ++ #[rawInt a, rawInt b, .ref c']).toList = some v → ∃ c', v = .ref c' := by
  rw [Array.toList_append]
  exact ⟨TriplesOk_snoc _ _ _ _ p2, fun pos v hv => (among_ref _ p2 hv).elim (p3 pos v) fun z => ⟨_, z⟩⟩

section
variable {κ : Kx} {f : Fr κ} {π π' : Pl} {σ σ' : T} {s s' : Shared}
theorem Rel.code (R : Rel f π σ s) : CodeHd s.heap κ.D.cc κ.D.ct := f.ok.dok.code.keeps R.c.g
theorem ct_globs {D : GD} (d : DOk D) : mainGlobals ≠ D.ct := fun z => by
  obtain ⟨o, es, ep, e, _⟩ := d.globs
  rw [z, d.ctg] at e; cases e
/-- a lambda that closes over nothing -/
theorem lam_ok {a : Arguments} {b : Expr} {csc : Scope} {q : Pos} (hl : isTr κ.sc = true) (h4 : csc.names.all (fun y => decide (y.2 ≠ .free)) = true) (hdef : ∀ env, defaultsOf a env = ([], [])) (R : Rel f π σ s) {Q : Value → Shared → Prop}
    (k : ∀ g π' s', Rel f π' σ s' → π.le π' → (∃ o, π'.fz g = some o ∧ o.cls = .type "function") → Q (.ref g) s') : Ok f (eval (.Lambda a b csc q) f.env) Q s := by
  obtain ⟨ps, p1, p2, p3⟩ := R.c.ct
  have dok := f.ok.dok
  have hb : s.heap.BuiltinsAt κ.D.mg κ.D.ct := by
    obtain ⟨bm, ob, b1, b2, b3, b4, b5, b6⟩ := dok.bmain
    refine ⟨bm, ob, b1, b2, fun z => ?_, fun z => ?_, R.c.g _ _ b3, b4, b5, b6⟩
    · obtain ⟨o, es, ep, e, hd, _⟩ := dok.globs
      rw [z, e] at b3; cases b3; rw [hd] at b6; cases b6
    · rw [z, dok.ctg] at b3; cases b3
  have hfree : closureFor csc f.env = pure [] := closureFor_none (fun x hx => of_decide_eq_true (List.all_eq_true.mp h4 _ hx))
  refine kla_eval (hdef _) (wpAny_with_toks (n := 1) R.c.tk ?_)
  have fin : ∀ {s' : Shared} (o : Obj), o.isFreed = false → o.cls = .type "function" → Rel f π σ s' → Q (.ref s'.heap.objs.size) { s' with heap := s'.heap.push o } := fun {s'} o ho hc R' =>
    let ⟨R'', e⟩ := R'.push o ho; k _ _ _ R'' e ⟨o, Pl.add_at, hc⟩
  cases hc : codeAmong q ps.toList with
  | none => exact kla_makeFunction (mg := κ.D.mg) hfree f.ok.globals (dok.globs.keeps R.c.g) (f.ok.code hl) R.code p1 p2 hc (ct_globs dok) hb fun c' ctv h' tk hx hge hlt hrec htb htk => fin (s' := { s with heap := h', toks := tk }) _ rfl rfl (R.ctUp hx htb (refs_snoc p2 p3).1 (refs_snoc p2 p3).2 htk)
  | some v =>
    obtain ⟨c', rfl⟩ := p3 _ _ hc
    exact kla_makeFunctionHit (mg := κ.D.mg) hfree f.ok.globals (dok.globs.keeps R.c.g) (f.ok.code hl) R.code p1 p2 hc hb fun ctv h' tk hk hsz htk => fin (s' := { s with heap := h', toks := tk }) _ rfl rfl (R.heap hk htk)
/-- pattern.sub(lambda ..., text): no match -/
noncomputable def pSub (D : GD) (a b : PE) : PE := fun σ Q => a σ fun x σ => x = .raw D.pTwin ∧ b σ fun y σ => asStr y fun l => (l.length ≤ big ∧ barsTwin l = false) ∧ Q (.str l) σ
theorem rSub (P : PatOk κ.D) {o e : Expr} {a : Arguments} {b : Expr} {csc : Scope} {q apos pos : Pos} {A B : PE} (ha : SE κ o A) (he : SE κ e B) (hl : isTr κ.sc = true) (h4 : csc.names.all (fun y => decide (y.2 ≠ .free)) = true := by rfl) (hdef : ∀ env, defaultsOf a env = ([], []) := by intros; rfl)
    (hs : ∀ env : Env, starEach [e] env = [(false, eval e env)] := by intros; rfl)
    (hb : ∀ env, attributeBase o "sub" env (eval o env) = eval o env := by exact attr_base rfl) (hc : metOk [.Lambda a b csc q, e] [] apos pos = true := by rfl) : SE κ (.Call (.Attribute o "sub" apos) [.Lambda a b csc q, e] [] pos) (pSub κ.D A B) := .mk fun f π σ s Q R h => by
  obtain ⟨plm, hev⟩ := eval_method (env := f.env) (hb _) hc
  rw [hev]
  unfold metOk at hc
  rw [Bool.and_eq_true, Bool.and_eq_true, Bool.and_eq_true] at hc
  refine wpAny_bind (thenV (ha.run f π σ s _ R h) fun v va σ₁ π₁ s₁ q₁ R₁ x₁ e₁ => wpAny_bind (wpAny_standAt (wpAny_bind (wpAny_holding ?_))))
  obtain ⟨rfl, q₁⟩ := q₁
  cases (show va = .ref κ.D.pTwin from x₁)
  have ip := P.twin.keeps R₁.c.g
  refine getMethod_builtin (v := .ref κ.D.pTwin) ip.typeIs plain_pat slot_sub type_sub (fun a e => ?_) (callWith_gen hc.1.1.1 rfl (spliced_one rfl (lam_ok hl h4 hdef R₁ fun g π₂ s₂ R₂ e₂ hg => ?_)))
  · obtain @⟨o, vs, c, oc, its, n, t, ho, hc, hd, _, _, _, _, _, _⟩ := ip
    exact ⟨o, Value.ref.inj e ▸ ho, hd⟩
  refine spliced_one (hs _) (thenV (he.run f π₂ σ₁ s₂ _ R₂ q₁) fun v va σ₃ π₃ s₃ q₃ R₃ x₃ e₃ => PySem.Calls.spliced_nil (wpAny_evalAll_nil ⟨keep_builtin, ?_⟩))
  obtain ⟨l, rfl, ⟨hbig, hbars⟩, qq⟩ := asStr_v q₃
  obtain ⟨t, rfl⟩ := x₃
  obtain ⟨of, hof, hoc⟩ := hg
  show wpAny _ f.A (call (.builtin "re.Pattern.sub") [.ref κ.D.pTwin, .ref g, strV l t]) _ _ _
  refine wpAny_with_toks (n := 1) R₃.c.tk (sub_call (P.twin.keeps R₃.c.g) ⟨of, R₃.c.hz _ _ (e₃.fz _ _ hof), hoc⟩ (fun c hc => first_twin (twin_bit ?_)) rfl rfl ?_ fun h' tk t' hk htk => ?_)
  · exact Bool.eq_false_iff.mpr (List.any_eq_false.mp hbars c hc)
  · rw [str_len, ← big_is]; exact hbig
  · exact .from (e₁.trans (e₂.trans e₃)) (.here (V := .str l) (R₃.heap hk htk) ⟨_, rfl⟩ qq)
end
end

section
open PySem PySem.Calls PyProof.Rows PySem.W PySem.StrLaws Builtin.Str

theorem occ_none {l : List Nat} {c : Nat} (h : c ∉ l) (n : Nat) (hn : 1 ≤ n) : occurrences ⟨l.toArray⟩ ⟨#[c]⟩ 0 (⟨l.toArray⟩ : Str).length n = [] := by
  rcases occ_from ⟨l.toArray⟩ ⟨#[c]⟩ 0 (⟨l.toArray⟩ : Str).length n hn with ⟨h0, _⟩ | ⟨i, r, _, _, h1, _⟩
  · exact h0
  · rw [at_one l c _ i (by rw [str_len]; exact Nat.le_refl _)] at h1
    exact absurd (List.mem_of_getElem? h1.2) h
section
variable {prog : Program} {w : World} {A : Around} {E : Value → Shared → Prop} {s : Shared} {env : Env}
theorem rep_same {o : Expr} {a b : Str} {k₁ k₂ : Nat} {p₁ p₂ apos pos : Pos} {l : List Nat} {c : Nat} {Q : Value → Shared → Prop} (hb : attributeBase o "replace" env (eval o env) = eval o env) (hap : metOk [.Constant (.str a) k₁ p₁, .Constant (.str b) k₂ p₂] [] apos pos = true) (ha : lit a = [c]) (hc : c ∉ l)
    (hev : wpAny (model prog w) A (eval o env) (fun v s' => (∃ t, v = strV l t) ∧ Keeps s s' ∧ NoneBooked s'.heap) E s) (q : ∀ t s', Keeps s s' → NoneBooked s'.heap → Q (strV l t) s') :
    wpAny (model prog w) A (eval (.Call (.Attribute o "replace" apos) [.Constant (.str a) k₁ p₁, .Constant (.str b) k₂ p₂] [] pos) env) Q E s := by
  obtain ⟨plm, hv⟩ := eval_method (env := env) hb hap
  rw [hv]
  refine wpAny_bind (wpAny_mono hev (fun v s₁ ⟨⟨t, hvt⟩, hk, hnb⟩ => wpAny_bind (wpAny_standAt (wpAny_bind (wpAny_holding ?_)))) fun _ _ e => e)
  subst hvt
  refine PySem.GM.replace (callWith_gen rfl rfl (spliced_one rfl ?_))
  rw [eval_Constant]
  refine wpAny_mkText (spliced_one rfl ?_)
  rw [eval_Constant]
  refine wpAny_mkText (PySem.Calls.spliced_nil (wpAny_evalAll_nil ⟨keep_builtin, ?_⟩))
  show wpAny _ A (call (.builtin "str.replace") [strV l t, .str a s₁.toks, .str b (s₁.toks + 1)]) _ _ _
  have he : ((occurrences ⟨l.toArray⟩ a 0 (⟨l.toArray⟩ : Str).length ((⟨l.toArray⟩ : Str).length + 1)).isEmpty || (a.length == 0 && b.length == 0)) = true := by
    rw [show a = ⟨#[c]⟩ from str_ext ha, occ_none hc _ (Nat.le_add_left _ _)]; rfl
  refine call_givesAt F.slot_str_replace (typeIs_str _ _ _) F.entry_str_replace (F.args_str_replace_3 _ _ _) (gives_str_replace2 ⟨l.toArray⟩ a b t s₁.toks (s₁.toks + 1) fun hf => ?_) hnb ?_
  · rw [he] at hf; cases hf
  · rw [if_pos he]
    refine q t _ ?_ hnb
    obtain ⟨h', tk, rfl, hk'⟩ := hk
    exact ⟨h', tk + 1 + 1, rfl, hk'⟩
end
theorem nth_str : ∀ {vs : List Value} {ls : List (List Nat)}, StrsAre vs (ls.map fun x => (⟨x.toArray⟩ : Str)) → vs.length = ls.length ∧ ∀ (i : Nat) v, vs[i]? = some v → ∃ l t, ls[i]? = some l ∧ v = strV l t
  | vs, [], h => by
    cases h
    exact ⟨rfl, fun i v h => by cases h⟩
  | vs, l :: r, h => by
    rw [List.map_cons] at h
    cases h with
    | cons x t h =>
    obtain ⟨h1, h2⟩ := nth_str h
    refine ⟨congrArg Nat.succ h1, fun i v hv => ?_⟩
    cases i with
    | zero => cases hv; exact ⟨l, t, rfl, rfl⟩
    | succ i => exact h2 i v hv
theorem passing_all (n : Nat) : passing (fun _ => true) n 0 = List.range n := by
  unfold passing
  simp

section
variable {κ : Kx} {f : Fr κ} {π π' : Pl} {σ σ' : T} {s s' : Shared} {M : Model} {A : Around} {E : Value → Shared → Prop}
/-- the code object of a generator expression, made or found -/
theorem gcode_ok (ht : isTr κ.sc = true) (R : Rel f π σ s) {csc : Scope} {pos : Pos} {q : Str} {Q : Value → Shared → Prop}
    (k : ∀ code ps s', Heap.ExtBut κ.D.ct s.heap s'.heap → s'.heap.get? κ.D.ct = some (tabObj ps) → TriplesOk ps.toList → (∀ pos v, codeAmong pos ps.toList = some v → ∃ c', v = .ref c') → s.heap.objs.size ≤ s'.heap.objs.size → s'.gens = s.gens → s'.os = s.os → Q code s') :
    wpAny M A (genexprCode f.env pos q csc) Q E s := by
  obtain ⟨ps, p1, p2, p3⟩ := R.c.ct
  have C := R.code
  cases hc : codeAmong pos ps.toList with
  | none =>
    refine wpAny_genexprCodeX (f.ok.code ht) (C.code p1 p2) (C.tab p1) hc fun c' h' tk hx hge hlt _ _ htb _ => ?_
    exact k _ _ _ hx htb.2 (refs_snoc p2 p3).1 (refs_snoc p2 p3).2 (Nat.le_trans hge (Nat.le_of_lt hlt)) rfl rfl
  | some v => exact wpAny_genexprCode_hit (f.ok.code ht) (C.code p1 p2) hc (k _ ps s (fun _ _ _ e => e) p1 p2 p3 (Nat.le_refl _) rfl rfl)
/-- sep.join((y.replace(..).replace(..) for y in it)): nothing is replaced -/
noncomputable def pGen (p q : Nat) (a b : PE) : PE := fun σ Q => a σ fun v σ => asStr v fun sep => b σ fun x σ => asLst σ x fun l => opt (strsOf l) fun ls =>
  ((ls.all fun l => !l.contains p && !l.contains q) = true ∧ (ls.map fun y => y.length + sep.length).sum ≤ big ∧ ls.length ≤ big) ∧ Q (.str (joinL sep ls)) σ
noncomputable def genOk (sc csc : Scope) (y : Str) : Bool := isTr sc && decide (csc.kind = .function) && !csc.isCoroutine && csc.names.all (fun y => decide (y.2 ≠ .cell) && decide (y.2 ≠ .free)) && csc.names.lookup (".0" : Str) == some .local && csc.names.lookup y == some .local && decide (y ≠ "__debug__")
theorem rGen {o it : Expr} {y a₁ b₁ c₁ d₁ : Str} {k₁ k₂ k₃ k₄ : Nat} {p₁ p₂ p₃ p₄ pn py apos apos' apos₂ pos pos' pos₂ gpos : Pos} {csc : Scope} {A B : PE} (p q : Nat) (hA : SE κ o A) (hB : SE κ it B) (hg : genOk κ.sc csc y = true) (l1 : lit c₁ = [p]) (l2 : lit a₁ = [q])
    (hb : ∀ env, attributeBase o "join" env (eval o env) = eval o env := by exact attr_base rfl) (hfold : ∀ env x, genFold it env x = pure x := by intros; rfl) (hc : apos.endLine == pos.line := by rfl) (ap1 : apos₂.endLine == pos₂.line := by rfl) (ap2 : apos'.endLine == pos'.line := by rfl) :
    SE κ (.Call (.Attribute o "join" apos) [.GeneratorExp (.Call (.Attribute (.Call (.Attribute (.Name y pn) "replace" apos') [.Constant (.str c₁) k₃ p₃, .Constant (.str d₁) k₄ p₄] [] pos') "replace" apos₂) [.Constant (.str a₁) k₁ p₁, .Constant (.str b₁) k₂ p₂] [] pos₂) [⟨.Name y py, it, [], 0⟩] csc gpos] [] pos) (pGen p q A B) := .mk fun f π σ s Q R h => by
  simp only [genOk, Bool.and_eq_true, Bool.not_eq_true', decide_eq_true_eq, List.all_eq_true, beq_iff_eq] at hg
  obtain ⟨⟨⟨⟨⟨⟨g1, g6⟩, g7⟩, g8⟩, g9⟩, g10⟩, hdb⟩ := hg
  obtain ⟨plm, hev⟩ := eval_method (env := f.env) (args := [.GeneratorExp _ _ csc gpos]) (kws := []) (hb _) (by unfold metOk; rw [hc]; rfl)
  rw [hev]
  refine wpAny_with_toks (n := 1) R.c.tk (wpAny_mono (E := noE) (Q := fun v s' => 1 ≤ s'.toks → Post f π Q v s') ?_ (fun _ _ x => x) fun _ _ x _ => x)
  refine wpAny_bind (thenV (hA.run f π σ s _ R h) fun v va σ₁ π₁ s₁ q₁ R₁ x₁ e₁ => wpAny_bind (wpAny_standAt (wpAny_bind (wpAny_holding ?_))))
  obtain ⟨sep, rfl, q₁⟩ := asStr_v q₁
  obtain ⟨ts, rfl⟩ := x₁
  refine PySem.GM.join (callWith_gen rfl rfl (spliced_one rfl ?_))
  have hfree : closureFor csc f.env = pure [] := closureFor_none fun x hx => (g8 _ hx).2
  have dok := f.ok.dok
  have hroom : f.A.depth < recursionLimit := by have := f.ok.ao.dep; simp only [recursionLimit]; omega
  refine wpAny_GeneratorExp_walksQ f.ok.ao.hh g7 hfree (fun y hy => (g8 y hy).1) g9 g10 g6 hroom ?_ (hfold _)
  refine thenV (hB.run f π₁ σ₁ s₁ _ R₁ q₁) fun iv vi σ₂ π₂ s₂ q₂ R₂ x₂ e₂ => ?_
  obtain ⟨lv, al, vs, m, rfl, ho, r, q₂⟩ := lst_at R₂ x₂ q₂
  obtain ⟨ls, h2, ⟨hall, hsum, hlen⟩, qq⟩ := opt_v q₂
  have hS := strs_are r h2
  obtain ⟨n1, n2⟩ := nth_str hS
  have hl : s₂.heap.IsList al vs.toArray := ⟨_, ho, rfl, _, rfl⟩
  have hlt : al < s₂.heap.objs.size := Heap.lt_size ho
  refine wpAny_pyIter_list hl ?_
  have hup : ∀ b o, s₂.heap.get? b = some o → (s₂.heap.push { cls := .type "list_iterator", data := .fields #[.ref al, .int 0 0] }).get? b = some o := fun b o e => Heap.get?_push_of_some _ e
  have R₃ : Rel f π₂ σ₂ { s₂ with heap := s₂.heap.push { cls := .type "list_iterator", data := .fields #[.ref al, .int 0 0] } } := R₂.heap hup R₂.c.tk
  have hit : (s₂.heap.push { cls := .type "list_iterator", data := .fields #[.ref al, .int 0 0] }).IsListIter s₂.heap.objs.size al 0 := ⟨_, Heap.get?_push_size _ rfl, rfl, rfl⟩
  refine ⟨dok.lim.keeps R₃.c.g, gcode_ok g1 R₃ fun code ps s₄ hx₄ t1 t2 t3 hsz hgs hos => ?_⟩
  have hct : ∀ b o, κ.D.g.get? b = some o → s₄.heap.get? b = some o := fun b o e => hx₄ b o (fun z => by rw [z, dok.ctg] at e; cases e) (R₃.c.g b o e)
  obtain ⟨bm, ob, b1, b2, b3, b4, b5, b6⟩ := dok.bmain
  rw [f.ok.globals]
  refine wpAny_builtinsFor (dok.globs.keeps hct) b1 b2 (hct _ _ b3) b4 b5 b6 ?_
  obtain ⟨ps₀, ct₀, _⟩ := R₂.c.ct
  have hI : s₂.heap.objs.size ≠ κ.D.ct := fun z => by rw [← z, size_none] at ct₀; cases ct₀
  have hal : al ≠ κ.D.ct := fun z => by rw [← z, ho] at ct₀; cases ct₀
  have hst : s₄.heap.IsListIter s₂.heap.objs.size al 0 ∧ s₄.heap.IsList al vs.toArray := ⟨hit.at fun o e => hx₄ _ o hI e, (hl.push _).at fun o e => hx₄ _ o hal e⟩
  have hsz₂ : s₂.heap.objs.size < s₄.heap.objs.size := by
    have h' : (s₂.heap.push { cls := .type "list_iterator", data := .fields #[.ref al, .int 0 0] }).objs.size ≤ s₄.heap.objs.size := hsz
    rw [Heap.size_push] at h'
    exact h'
  have hcs : ∃ o, s₂.heap.get? cStatics = some o := by
    obtain ⟨mc, ⟨o, es, ep, e, _⟩, _⟩ := dok.booked
    exact ⟨o, R₂.c.g _ _ e⟩
  have hcw : cStatics ∉ [s₂.heap.objs.size] := fun hm => by
    obtain ⟨o, e⟩ := hcs
    rw [List.mem_singleton.mp hm, size_none] at e; cases e
  refine ⟨s₂.heap.objs.size, [s₂.heap.objs.size, al], [s₂.heap.objs.size], vs.toArray.size, _, _, fun _ => true, fun i y => ∃ l t, ls[i]? = some l ∧ y = strV l t, rfl,
    (fun A' hA => Walks.list hA _ _ (Nat.ne_of_lt hlt) vs.toArray), hst, ?_, dok.lim.keeps hct, hcw, ?_, ?_⟩
  · intro b hb
    rcases List.mem_cons.mp hb with rfl | hb
    · exact hsz₂
    · exact List.mem_singleton.mp hb ▸ Nat.lt_trans hlt hsz₂
  · intro href hhref
    refine ⟨fun A' E' i v s₅ m₂ hh hP hn hm₂ hk => ?_, fun A' E' i v s₅ m₂ hh hP _ hn hm₂ hk => ?_⟩
    · exact wpAny_pure ⟨rfl, s₅.heap, s₅.toks, rfl, fun _ _ e => e⟩
    · have hP' : vs[i]? = some v := (List.getElem?_toArray ..).symm.trans hP
      obtain ⟨l, t, hl', rfl⟩ := n2 i v hP'
      have hfr : (!l.contains p && !l.contains q) = true := List.all_eq_true.mp hall l (List.mem_of_getElem? hl')
      simp only [Bool.and_eq_true, Bool.not_eq_true', List.contains_eq_mem, decide_eq_false_iff_not] at hfr
      have hnb : NoneBooked s₅.heap := by
        obtain ⟨mc, hn', he⟩ := dok.booked
        refine ⟨mc, (hn'.keeps hct).at' fun o e => hk cStatics (List.mem_range.mpr (Heap.lt_size e)) hcw o (hhref _ o e), he⟩
      have hname : wpAny (Mo κ) A' (eval (.Name y pn) (genEnv csc [] s₄.heap.objs.size code builtinsNs f.env)) (fun v s' => (∃ t, v = strV l t) ∧ Keeps s₅ s' ∧ NoneBooked s'.heap) E' s₅ :=
        wpAny_Name (wpAny_loadName_local g6 g10 hn hm₂ ⟨⟨t, rfl⟩, ⟨s₅.heap, s₅.toks, rfl, fun _ _ e => e⟩, hnb⟩) (beq_eq_false_iff_ne.mpr hdb)
      exact rep_same (c := q) rfl (by unfold metOk; rw [ap1]; rfl) l2 hfr.2 (rep_same (c := p) rfl (by unfold metOk; rw [ap2]; rfl) l1 hfr.1 hname fun t s' hk' hnb' => ⟨⟨t, rfl⟩, hk', hnb'⟩) fun t s' hk' _ => ⟨⟨l, t, hl', rfl⟩, hk'⟩
  · intro ag h₅ tk gs hgb hag hsz₅ hk₅ W hat
    refine PySem.Calls.spliced_nil (wpAny_evalAll_nil ⟨keep_builtin, ?_⟩)
    show wpAny _ f.A (call (.builtin "str.join") [strV sep ts, .ref ag]) _ _ _
    rw [passing_all] at W
    refine SC.joinGen W.in4_2 (fun i s' st => st.1.typeIs) hat ?_ List.mem_cons_self (fun j v hv => ?_) (fun s' lt hm hacc => ?_) ?_
    · intro b hb
      show b < h₅.objs.size
      rw [hsz₅]
      rcases List.mem_cons.mp hb with rfl | hb
      · exact Nat.lt_succ_self _
      · rcases List.mem_cons.mp hb with rfl | hb
        · exact Nat.lt_succ_of_lt hag
        · exact Nat.lt_succ_of_lt (Nat.lt_trans (List.mem_range.mp hb) hag)
    · obtain ⟨i, _, l, t, _, e⟩ := hv
      exact ⟨_, t, e⟩
    · have hlt : lt.map (·.1) = ls.map fun x => (⟨x.toArray⟩ : Str) := by
        have hz : lt.length = ls.length := by
          have := hacc.1
          simp [strValues] at this
          omega
        apply List.ext_getElem?
        intro j
        by_cases hj : j < lt.length
        · obtain ⟨i, hi, l, t, hl', e⟩ := hacc.2 j (.str lt[j].1 lt[j].2) (by simp [strValues, List.getElem?_eq_getElem hj])
          have hi' : i = j := by
            obtain ⟨hi1, hi2⟩ := List.getElem?_eq_some_iff.mp hi
            simpa using hi2.symm
          subst hi'
          have e' : lt[i].1 = ⟨l.toArray⟩ := congrArg (fun v => match v with | Value.str x _ => x | _ => ⟨#[]⟩) e
          rw [List.getElem?_map, List.getElem?_map, List.getElem?_eq_getElem hj, hl']
          exact congrArg some e'
        · rw [List.getElem?_eq_none (by rw [List.length_map]; exact Nat.not_lt.mp hj), List.getElem?_eq_none (by rw [List.length_map, ← hz]; exact Nat.not_lt.mp hj)]
      rw [hlt]
      refine ⟨join_ok hsum, fun t' k => ?_⟩
      intro htk
      rw [join_text]
      have hkeep : Heap.ExtBut κ.D.ct s₂.heap s'.heap := fun b o hb e => by
        have hbl := Heap.lt_size e
        refine hm.heap b o ?_ (hk₅ b o (hx₄ b o hb (Heap.get?_push_of_some _ e)))
        intro hmem
        rcases List.mem_cons.mp hmem with z | z
        · rw [z] at hbl; exact Nat.lt_asymm hbl hsz₂
        · rw [List.mem_singleton.mp z] at hbl; exact Nat.lt_irrefl _ hbl
      have hct' : s'.heap.get? κ.D.ct = some (tabObj ps) := by
        refine hm.heap _ _ ?_ (hk₅ _ _ t1)
        intro hmem
        have hbl := Heap.lt_size t1
        rcases List.mem_cons.mp hmem with z | z
        · rw [z] at hbl; exact Nat.lt_irrefl _ hbl
        · exact hI (List.mem_singleton.mp z).symm
      have R₅ := R₂.ctUp hkeep hct' t2 t3 htk
      have gb : AllBare s'.gens := by
        refine AllBare.movedS (AllBare.push ?_ hgb) hm
        rw [hgs]; exact R₃.c.gens
      exact .from (e₁.trans e₂) (.here (V := .str (joinL sep ls)) (R₅.grow (s' := { s' with toks := k }) (fun _ _ e => e) gb (by
        show s'.os = s₂.os
        rw [hm.os]; exact hos) htk) ⟨_, rfl⟩ qq)
    · rw [List.length_range, List.size_toArray, n1, ← big_is]
      exact hlen
end
end

section
open PySem PySem.Calls PyProof.Rows PySem.W

/-- repr of a table's rows -/
noncomputable def reprRow : V → Option (List Nat)
  | .tup [.str a, .str b] => some ([40] ++ reprL a ++ [44, 32] ++ reprL b ++ [41])
  | _ => none
noncomputable def reprRows : List V → Option (List (List Nat))
  | [] => some []
  | a :: r => (reprRow a).bind fun x => (reprRows r).map (x :: ·)
theorem reprRow_v {v : V} {x : List Nat} (h : reprRow v = some x) : ∃ a b, v = .tup [.str a, .str b] ∧ x = [40] ++ reprL a ++ [44, 32] ++ reprL b ++ [41] := by
  unfold reprRow at h
  split at h
  · cases h; exact ⟨_, _, rfl, rfl⟩
  · cases h
theorem str_app (a b : Str) : (a ++ b).cps.toList = a.cps.toList ++ b.cps.toList := by rw [Str.cps_append, Array.toList_append]
theorem row_shown (x y : List Nat) : (PyData.shown (toPy (.tup [.str x, .str y]))).cps.toList = [40] ++ reprL x ++ [44, 32] ++ reprL y ++ [41] := by
  rw [show toPy (.tup [.str x, .str y]) = .tuple [.str ⟨x.toArray⟩, .str ⟨y.toArray⟩] from rfl, PyData.shown_tuple, PyData.shownAll_cons, PyData.shownAll_cons, PyData.shownAll_nil, PyData.shown_str, PyData.shown_str]
  show (Str.cps (("(" : Str) ++ (reprText ⟨x.toArray⟩ ++ (", " : Str) ++ reprText ⟨y.toArray⟩) ++ (")" : Str))).toList = _
  simp only [Str.cps_append, Array.toList_append]
  unfold reprL
  simp only [List.append_assoc]
  rfl
theorem rows_shown : ∀ {l : List V} {rs : List (List Nat)}, reprRows l = some rs → (PyData.shownAll (toPys l)).map (·.cps.toList) = rs ∧ PyData.showableAll (toPys l) = true ∧ PyData.hasDictAll (toPys l) = false ∧ PyData.depthAll (toPys l) ≤ 1
  | [], rs, h => by cases h; exact ⟨rfl, rfl, rfl, Nat.zero_le _⟩
  | a :: l, rs, h => by
    obtain ⟨b, hb, h⟩ := Option.bind_eq_some_iff.mp (show (reprRow a).bind (fun x => (reprRows l).map (x :: ·)) = some rs from h)
    obtain ⟨r', hr', rfl⟩ := Option.map_eq_some_iff.mp h
    obtain ⟨e1, e2, e3, e4⟩ := rows_shown hr'
    obtain ⟨x, y, rfl, rfl⟩ := reprRow_v hb
    refine ⟨?_, e2, e3, ?_⟩
    · show (PyData.shownAll (toPy (.tup [.str x, .str y]) :: toPys l)).map _ = _
      rw [PyData.shownAll_cons, List.map_cons, e1, row_shown]
    · exact Nat.max_le.mpr ⟨Nat.le_refl 1, e4⟩

section
variable {κ : Kx} {f : Fr κ} {π π' : Pl} {σ σ' : T} {s s' : Shared} {E : Value → Shared → Prop}
theorem repr_hl (R : Rel f π σ s) {l : List V} {vx : Value} {rs : List (List Nat)} {Q : Value → Shared → Prop} (x : VRel κ.D π .hl vx) (hl : σ.hd = some l) (hz : reprRows l = some rs) (hlen : (joinL [44, 32] rs).length ≤ 900000)
    (q : ∀ h' u tk, (∀ b o, s.heap.get? b = some o → h'.get? b = some o) → Q (strV ([91] ++ joinL [44, 32] rs ++ [93]) u) { s with heap := h', toks := tk }) : wpAny (Mo κ) f.A (pyReprObj vx) Q E s := by
  obtain ⟨e1, e2, e3, e4⟩ := rows_shown hz
  obtain ⟨x₀, d₀, η, et, rfl⟩ := x
  obtain ⟨us, m', _, _, _, f2, f3, f4, _⟩ := tab_eta R.c.tab hl et
  obtain ⟨as, rd⟩ := VRels.reads R.c.hz l us f3 f4
  have ht' : (PyData.list (toPys l)).shown = ⟨([91] ++ joinL [44, 32] rs ++ [93]).toArray⟩ := by
    refine str_ext ?_
    rw [PyData.shown_list, ← listText_eq_join, listText_eq_join, str_app, str_app, join_L, e1]
    rfl
  have rdl : Reads s.heap (.ref η) (.list (toPys l)) (η :: as) := .list f2 rfl rfl rd
  have un := f.ok.ao.cline
  refine pyReprObj_of_reads rdl e2 (fun hx => ?_) f.ok.ao.gd (by simp only [PyData.depth]; omega) (fun _ _ e => e) (fun h' u tk hk => ?_) ?_
  · have : (PyData.list (toPys l)).hasDict = PyData.hasDictAll (toPys l) := rfl
    rw [this, e3] at hx; cases hx
  · rw [ht']; exact q h' u tk hk
  · rw [ht', str_len, ← big_is, List.length_append, List.length_append]
    unfold big
    simp only [List.length_cons, List.length_nil]
    omega
/-- a part {table's rows!r} -/
noncomputable def jRepr (a : PE) (r : PJ) : PJ := fun acc σ Q => a σ fun v σ => v = .hl ∧ opt σ.hd fun l => opt (reprRows l) fun rs => ((joinL [44, 32] rs).length ≤ 900000 ∧ acc.length ≤ 1000000) ∧ r (acc ++ ([91] ++ joinL [44, 32] rs ++ [93])) σ Q
theorem rJRepr {e : Expr} {p : Pos} {es : List Expr} {a : PE} {r : PJ} (ha : SE κ e a) (hr : SJ κ es r) : SJ κ (.FormattedValue e 114 none p :: es) (jRepr a r) := .mk fun f π σ s Q acc R hb h =>
  part_ok hr (wpAny_FormattedValue_repr (thenV (ha.run f π σ s _ R h) fun V v σ₁ π₁ s₁ q R₁ x₁ e₁ => by
    obtain ⟨rfl, q⟩ := q
    obtain ⟨l, hl, q⟩ := opt_v q
    obtain ⟨rs, hrs, ⟨hz, hacc⟩, q⟩ := opt_v q
    refine wpAny_with_toks (n := 1) R₁.c.tk (repr_hl R₁ x₁ hl hrs hz fun h' u tk hk htk => ?_)
    exact calm (field_ok (R₁.heap hk htk) ⟨by simp only [List.length_append, List.length_cons, List.length_nil]; unfold big; omega, q⟩) fun _ _ => .from e₁))

-- % formats
theorem mod_tup {A : Around} {b : Addr} {its : Array Value} {X T : Str} {t : Tok} {Q : Value → Shared → Prop} (ht : IsTup s.heap b its)
    (hm : Meets (Builtin.«str.__mod__» ⟨[.str X t, .ref b], []⟩) (fun _ R s => IsTup s.heap b its ∧ ∀ t' k, R (.ok (.ret (.str T t'))) { s with toks := k }))
    (h : ∀ t' k, 1 ≤ k → Q (.str T t') { s with toks := k }) (hk : 0 < s.toks) : wpAny (Mo κ) A (binaryOp .Mod (.str X t) (.ref b)) Q noE s := by
  have hT : s.TypeIs (.ref b) "tuple" := by
    obtain ⟨o, ho, hc, _⟩ := ht
    exact ⟨o, ho, hc⟩
  refine wpAny_with_toks (n := 1) hk ?_
  exact KPt.bin_left (T := "str") (U := "tuple") (op := .Mod) (by decide) (typeIs_str s X t) hT PySem.F.fills_str_mod KPt.fills_tuple PySem.F.slot_str_mod
    (call_meets PySem.F.slot_str_mod (typeIs_str s X t) PySem.F.entry_str_mod (PySem.F.args_str_mod_2 _ _) hm ⟨ht, fun t' k => ⟨(fun e => nomatch e), fun hk => h t' k hk⟩⟩)
theorem Post.text {Q : V → T → Prop} {l : List Nat} {T : Str} {t : Tok} {k : Nat} (R : Rel f π σ s) (hk : 0 < k) (hT : T.cps.toList = l) (q : Q (.str l) σ) : Post f π Q (.str T t) { s with toks := k } := by
  subst hT
  exact .tk (V := .str _) R ⟨t, rfl⟩ q hk
/-- '%s: %s' % (x, y) -/
noncomputable def cFmtA (x y : V) (σ : T) (Q : V → T → Prop) : Prop := x = .str (lit "%s: %s") ∧ asTup y fun l => two l [] fun a b => asStr a fun a => asStr b fun b => (a.length ≤ 1000000 ∧ b.length ≤ 1000000) ∧ Q (.str (a ++ [58, 32] ++ b)) σ
/-- '%s[%d chars]%s' % (x, i, y) -/
noncomputable def cFmtC (x y : V) (σ : T) (Q : V → T → Prop) : Prop := x = .str (lit "%s[%d chars]%s") ∧ asTup y fun l => three l [] fun a i b => asStr a fun a => asInt i fun i => asStr b fun b => ((a.length ≤ 1000000 ∧ b.length ≤ 1000000) ∧ 0 ≤ i ∧ i < 10 ^ 10) ∧ Q (.str (a ++ [91] ++ decL i ++ lit " chars]" ++ b)) σ
noncomputable def pFmtA (a b : PE) : PE := fun σ Q => bin2 a b (fun x y σ => cFmtA x y σ Q) σ
noncomputable def pFmtC (a b : PE) : PE := fun σ Q => bin2 a b (fun x y σ => cFmtC x y σ Q) σ
theorem rFmtA {l r : Expr} {p : Pos} {a b : PE} (hl : SE κ l a) (hr : SE κ r b) : SE κ (.BinOp l .Mod r p) (pFmtA a b) := rBin hl hr fun f π σ s V W v w Q R xa xb h => by
  obtain ⟨rfl, h₁⟩ := h
  obtain ⟨l, rfl, h₂⟩ := asTup_v h₁
  obtain ⟨X, Y, rfl, _, h₃⟩ := two_v h₂
  obtain ⟨x, rfl, h₄⟩ := asStr_v h₃
  obtain ⟨y, rfl, ⟨hx, hy⟩, q⟩ := asStr_v h₄
  obtain ⟨t, rfl⟩ := xa
  obtain ⟨ad, vs, m, rfl, ho, rs⟩ := xb
  obtain ⟨v, w, rfl, xv, xw⟩ := rs.two
  obtain ⟨t₁, rfl⟩ := xv
  obtain ⟨t₂, rfl⟩ := xw
  rw [show strV (lit "%s: %s") t = .str ⟨#[37, 115, 58, 32, 37, 115]⟩ t from congrArg (fun z => Value.str ⟨z⟩ t) (by decide +kernel)]
  refine mod_tup ⟨_, R.c.hz _ _ ho, rfl, m, rfl⟩ (fmt_a (by rw [str_len]; exact hx) (by rw [str_len]; exact hy)) (fun t' k hk => .text R hk ?_ q) R.c.tk
  rw [str_app, str_app]
theorem rFmtC {l r : Expr} {p : Pos} {a b : PE} (hl : SE κ l a) (hr : SE κ r b) : SE κ (.BinOp l .Mod r p) (pFmtC a b) := rBin hl hr fun f π σ s V W v w Q R xa xb h => by
  obtain ⟨rfl, h₁⟩ := h
  obtain ⟨l, rfl, h₂⟩ := asTup_v h₁
  obtain ⟨X, Y, Z, rfl, _, h₃⟩ := three_v h₂
  obtain ⟨x, rfl, h₄⟩ := asStr_v h₃
  obtain ⟨i, rfl, h₅⟩ := asInt_v h₄
  obtain ⟨y, rfl, ⟨⟨hx, hy⟩, h0, h1⟩, q⟩ := asStr_v h₅
  obtain ⟨t, rfl⟩ := xa
  obtain ⟨ad, vs, m, rfl, ho, rs⟩ := xb
  obtain ⟨v, w, u, rfl, xv, xw, xu⟩ := rs.three
  obtain ⟨t₁, rfl⟩ := xv
  obtain ⟨t₂, rfl⟩ := xw
  obtain ⟨t₃, rfl⟩ := xu
  rw [show strV (lit "%s[%d chars]%s") t = .str ⟨#[37, 115, 91, 37, 100, 32, 99, 104, 97, 114, 115, 93, 37, 115]⟩ t from congrArg (fun z => Value.str ⟨z⟩ t) (by decide +kernel)]
  refine mod_tup ⟨_, R.c.hz _ _ ho, rfl, m, rfl⟩ (fmt_c (by rw [str_len]; exact hx) (by rw [str_len]; exact hy) h0 h1) (fun t' k hk => .text R hk ?_ q) R.c.tk
  rw [str_app, str_app, str_app, str_app, show lit " chars]" = [32, 99, 104, 97, 114, 115, 93] by decide +kernel]
  rfl
end
end

section
open PySem PySem.Calls PyProof.Rows PySem.W

noncomputable def bodyAt (i : Nat) : List Stmt := match PySem.Challenge.pw_in0286_01.main.body[i]? with
  | some (.FunctionDef _ _ b _ _ _ _ _ _ _) => b
  | _ => []
noncomputable def scopeAt (i : Nat) : Scope := match PySem.Challenge.pw_in0286_01.main.body[i]? with
  | some (.FunctionDef _ _ _ _ _ _ sc _ _ _) => sc
  | _ => default
noncomputable def clsBody : List Stmt := match PySem.Challenge.pw_in0286_01.main.body[(21 : Nat)]? with
  | some (.ClassDef _ _ _ b _ _ _ _ _ _ _) => b
  | _ => []
noncomputable def hBodyAt (i : Nat) : List Stmt := match clsBody[i]? with
  | some (.FunctionDef _ _ b _ _ _ _ _ _ _) => b
  | _ => []
noncomputable def hScopeAt (i : Nat) : Scope := match clsBody[i]? with
  | some (.FunctionDef _ _ _ _ _ _ sc _ _ _) => sc
  | _ => default

section
variable {κ : Kx} {f : Fr κ} {π π' : Pl} {σ σ' : T} {s s' : Shared} {E : Value → Shared → Prop}
/-- type(x) is not list, of a list -/
noncomputable def tNoLst (a : PE) : PB := fun σ Q => a σ fun v σ => asRef v fun _ => Q false σ
theorem rNoLst {e : Expr} {p q r t : Pos} {a : PE} (ha : SE κ e a) (g1 : κ.sc.names.lookup ("type" : Str) = some .globalImplicit) (g2 : κ.sc.names.lookup ("list" : Str) = some .globalImplicit) (he : ∀ env : Env, starEach [e] env = [(false, eval e env)] := by intros; rfl) :
    SB κ (.Compare (.Call (.Name "type" p) [e] [] q) [.IsNot] [.Name "list" r] t) (tNoLst a) := .mk fun f π σ s Q R h => by
  refine wpAny_isTrue_Compare1 (call1 (fun _ => keep_type) rfl g1 (by decide) R he (thenV (ha.run f π σ s _ R h) fun V v σ₁ π₁ s₁ q R₁ x₁ e₁ => ?_)) rfl
  obtain ⟨k, rfl, q⟩ := asRef_v q
  obtain ⟨b, vs, n, hb, rfl, ho⟩ := ref_at R₁ x₁
  have hT : s₁.TypeIs (.ref b) "list" := ⟨_, ho, rfl⟩
  refine call_type_of hT (by decide) (wpAny_Name (load_glob R₁ g2 (.inr (f.ok.dok.bl _ (.type "list") rfl)) ?_) (by decide))
  refine wpAny_isNot_plain rfl ?_
  rw [beq_self_eq_true]
  exact wpAny_truthy_bool ⟨σ₁, π₁, q, R₁, e₁⟩
/-- a loop over an empty list of the frame's own -/
noncomputable def pForE (a : PE) : PS := fun σ Q => a σ fun v σ => asRef v fun k => gt σ.objs k = some [] ∧ Q .nxt σ
theorem rForE {t e : Expr} {b : List Stmt} {p : Pos} {a : PE} (he : SE κ e a) (hs : ∀ (env : Env) x, foldedSetIterable e env x = pure x := by intros; rfl) : SS κ (.For t e b [] p) (pForE a) := .mk fun f π σ s Q R h =>
  wpAny_For (thenV (he.run f π σ s _ R h) fun V v σ₁ π₁ s₁ q R₁ x₁ e₁ => by
    obtain ⟨k, rfl, hk, q⟩ := asRef_v q
    obtain ⟨a', e', rfl⟩ := x₁
    obtain ⟨a, vs, n, h1, h2, h3⟩ := R₁.ob k [] hk
    obtain rfl : a = a' := Option.some.inj (h1.symm.trans e')
    cases (show vs = [] from h3)
    refine wpAny_pyIter_list (items := #[]) ⟨_, h2, rfl, _, rfl⟩ ?_
    obtain ⟨R₂, hf⟩ := R₁.pushKeep { cls := .type "list_iterator", data := .fields #[.ref a, .int 0 0] }
    have hne : a ≠ s₁.heap.objs.size := fun z => by rw [z, size_none] at h2; cases h2
    refine codeAny_forLoop_any (R := fun r s' => match r with | .ok fl => PostF f π Q fl s' | .error e => cameBackBy (Mo κ) f.A f.env noE e s') (fun _ s' => s' = { s₁ with heap := s₁.heap.push { cls := .type "list_iterator", data := .fields #[.ref a, .int 0 0] } }) ?_ 0 rfl
    intro n' s' es
    subst es
    refine wpAny_with_toks (n := 1) R₁.c.tk ((Walks.list (prog := κ.D.prog) (w := κ.D.w) f.ok.ao.hh _ a hne #[]).done _ _ _ ⟨⟨_, Heap.get?_push_size _ rfl, rfl, rfl⟩, ⟨_, Heap.get?_push_of_some _ h2, rfl, _, rfl⟩⟩ fun h' tk hk' htk => ?_)
    have R₃ := (Rel.unkeep (f := f) R₂ hf (nocell rfl) (h' := h') (fun b o hb e => hk' b o (fun z => hb (List.mem_singleton.mp z)) e) htk).1
    exact wpAny_execs_nil ⟨.nxt, σ₁, π₁, q, R₃, rfl, e₁⟩) (hs _)
end

/-- what the table's making asks -/
structure MakeOk (D : GD) : Prop where
  makes : makesIn D.K D.hdrs = true
  init : findIn D.K (.ref D.hdrs) "__init__" = some (some (.ref (D.fa .hInit)))
  initT : typeIn D.K (.ref (D.fa .hInit)) = some (.type "function")
  setA : findIn D.K (.ref D.hdrs) "__setattr__" = some (some (.builtin "object.__setattr__"))
  over : plainOver D.K D.hdrs = true
  taker : takerIn D.K D.hdrs "_headers" = some none

noncomputable def initS (i : Nat) : Stmt := (hBodyAt 0).getD i (.Pass default)
theorem init_body : hBodyAt 0 = [initS 0, initS 1, initS 2, initS 3] := rfl
noncomputable def nsI : List Str := ["self", "headers", "k", "v"]
theorem init_two : ∃ p q r t, initS 2 = .Assign [.Attribute (.Name "self" p) "_headers" q] (.Name "headers" r) t := ⟨_, _, _, _, rfl⟩
section
variable {D : GD} {n : Nat}
noncomputable abbrev κI (D : GD) (n : Nat) : Kx := ⟨D, n, hScopeAt 0, nsI, true⟩
theorem init0 : SS (κI D n) (initS 0) (pAsg (pIfE (cmp2 kIsNot (pVar 1) (pLit .none)) (pVar 1) (pNew pNil)) (aVar 1)) :=
  rAsg (rIfE (rCmp kIsNot_ok (rVar 1 rfl) rNone) (rVar 1 rfl) (rNew rNil)) (rAVar 1 rfl)
theorem gI1 : (hScopeAt 0).names.lookup ("type" : Str) = some .globalImplicit := by decide +kernel
theorem gI2 : (hScopeAt 0).names.lookup ("list" : Str) = some .globalImplicit := by decide +kernel
theorem init1 : SS (κI D n) (initS 1) (pIfF (tNoLst (pVar 1)) pSkip) := rIfF (rNoLst (rVar 1 rfl) gI1 gI2) rSkip
theorem init3 : SS (κI D n) (initS 3) (pIfT (tru uBool (pLit (.bool true))) (pForE (pVar 1))) := rIfT (rTru uBool_ok rBool) (rLast (rForE (rVar 1 rfl)))

theorem CRel.keepNew {kp : Addr → Option Obj} {π : Pl} {hd : Option (List V)} {s s' : Shared} (C : CRel D kp π hd s) {a : Addr} {o : Obj} (hn : s.heap.get? a = none) (ho : s'.heap.get? a = some o) (hk : ∀ b o, s.heap.get? b = some o → s'.heap.get? b = some o) (hg : AllBare s'.gens) (hos : s'.os = s.os) (ht : 0 < s'.toks) :
    CRel D (fun x => if x = a then some o else kp x) π hd s' := by
  have C' := C.grow hk hg hos ht
  refine ⟨C'.hz, fun x o' e => ?_, fun x o' e => ?_, C'.gd, C'.tab, C'.ct, fun x q => ⟨(C'.sh x q).1, ?_⟩, C'.gens, C'.os, C'.tk⟩
  · by_cases z : x = a
    · rw [if_pos z] at e; cases e; rw [z]; exact ho
    · rw [if_neg z] at e; exact C'.hk x o' e
  · by_cases z : x = a
    · rw [z]; exact none_of C.hz hn
    · rw [if_neg z] at e; exact C'.dj x o' e
  · show (if x = a then some o else kp x) = none
    rw [if_neg]
    · exact (C'.sh x q).2
    · rintro rfl
      exact no_one hn (C.shIn q)
/-- Headers() -/
noncomputable def bNew (Vs : List V) (ks : List (Str × V)) (σ : T) (Q : V → T → Prop) : Prop := nil0 Vs ks (σ.hd = none ∧ Q .hdr ⟨σ.ls, σ.objs, some []⟩)
noncomputable def bdI : List V → List (Str × V) → Option (List (Str × V))
  | [a], [] => some [("self", a), ("headers", .none)]
  | _, _ => none
end
section
variable {κ : Kx} {f : Fr κ} {π π' : Pl} {σ σ' : T} {s s' : Shared} {E : Value → Shared → Prop}
theorem hdr_new (H : HdrOk κ.D) (MK : MakeOk κ.D) (hF : FnOk κ.D (κ.D.fa .hInit) (hScopeAt 0) (hBodyAt 0) bdI) (hsc : scOk (hScopeAt 0) nsI = true) (h2 : 2 ≤ κ.n) (R : Rel f π σ s) (hh : σ.hd = none) {Q : V → T → Prop} (q : Q .hdr ⟨σ.ls, σ.objs, some []⟩) : Ok f (call (.ref κ.D.hdrs) []) (Post f π Q) s := by
  have X := R.X
  have gt0 : π.tab = none := by
    have z := R.c.tab
    rw [hh] at z
    exact z
  have hdxn := size_none s.heap
  generalize hdx : s.heap.objs.size = dx at hdxn
  have key : ∀ s₂ : Shared, s₂ = { s with heap := (s.heap.push emptyDict).push (instObj κ.D.hdrs dx) } → codeAny (Mo κ) (f.A.under (.builtin "type.__call__" ⟨[.ref κ.D.hdrs], []⟩)) (.call (.ref (κ.D.fa .hInit)) ⟨[.ref (dx + 1)], []⟩) (InitBack (dx + 1) fun r s' => match r with | .ok (.ret v) => Post f π Q v s' | .ok _ => False | .error e => noE e s') s₂ := by
    intro s₂ e₂
    have hk₁ : ∀ b o, s.heap.get? b = some o → (s.heap.push emptyDict).get? b = some o := fun b o e => Heap.get?_push_of_some _ e
    have hk₂ : ∀ b o, (s.heap.push emptyDict).get? b = some o → s₂.heap.get? b = some o := fun b o e => by rw [e₂]; exact Heap.get?_push_of_some _ e
    have hd₁ : (s.heap.push emptyDict).get? dx = some emptyDict := hdx ▸ Heap.get?_push_size _ rfl
    have hsz : (s.heap.push emptyDict).objs.size = dx + 1 := by rw [Heap.size_push, hdx]
    have hx₁ : (s.heap.push emptyDict).get? (dx + 1) = none := hsz ▸ size_none _
    have hx₂ : s₂.heap.get? (dx + 1) = some (instObj κ.D.hdrs dx) := by
      rw [e₂, ← hsz]
      exact Heap.get?_push_size _ rfl
    have hd₂ := hk₂ _ _ hd₁
    have hxn : s.heap.get? (dx + 1) = none := by
      cases z : s.heap.get? (dx + 1) with
      | none => rfl
      | some o => rw [hk₁ _ _ z] at hx₁; cases hx₁
    have ao₁ : AOk (f.A.under (.builtin "type.__call__" ⟨[.ref κ.D.hdrs], []⟩)) 1 := by
      have ao := f.ok.ao.down h2
      refine ⟨ao.hh, ?_, ?_, ao.gd, ao.fr⟩
      · have := ao.dep; show f.A.depth + 1 + 1 ≤ 900; omega
      · have := ao.un; show f.A.units + 1 + 20 * 1 ≤ 9000; omega
    let kp₀ : Addr → Option Obj := fun x => if x = dx + 1 then some (instObj κ.D.hdrs dx) else f.held π s.heap x
    have C₁ : CRel κ.D (f.held π s.heap) π.bare σ.hd { s with heap := s.heap.push emptyDict } := R.out.grow hk₁ R.c.gens rfl R.c.tk
    have C₂ : CRel κ.D kp₀ π.bare σ.hd s₂ := C₁.keepNew hx₁ hx₂ hk₂ (by rw [e₂]; exact R.c.gens) (by rw [e₂]) (by rw [e₂]; exact R.c.tk)
    have dxc : dx ≠ κ.D.ct := fun z => no_one hdxn (R.c.shIn (.inl z))
    have ndx : dx ≠ dx + 1 := Nat.ne_of_lt (Nat.lt_succ_self dx)
    have kd : kp₀ dx = none := by
      show (if dx = dx + 1 then _ else f.held π s.heap dx) = none
      rw [if_neg ndx]
      exact none_of R.out.hk hdxn
    have C₃ : CRel κ.D (fun x => if x = dx then some emptyDict else kp₀ x) π.bare σ.hd s₂ := by
      refine ⟨C₂.hz, fun x o' e => ?_, fun x o' e => ?_, C₂.gd, C₂.tab, C₂.ct, fun x q => ⟨(C₂.sh x q).1, ?_⟩, C₂.gens, C₂.os, C₂.tk⟩
      · by_cases z : x = dx
        · rw [if_pos z] at e; cases e; rw [z]; exact hd₂
        · rw [if_neg z] at e; exact C₂.hk x o' e
      · by_cases z : x = dx
        · rw [z]; exact none_of R.c.hz hdxn
        · rw [if_neg z] at e; exact C₂.dj x o' e
      · show (if x = dx then some emptyDict else kp₀ x) = none
        rw [if_neg]
        · exact (C₂.sh x q).2
        · rintro rfl
          exact q.elim dxc fun q => by rw [show π.bare.tabs = [] from by unfold Pl.tabs; rw [show π.bare.tab = none from gt0]] at q; cases q
    refine fn_enter (n := 0) (bs := [("self", .raw (dx + 1)), ("headers", .none)]) (ls := [some (.raw (dx + 1)), some .none, none, none]) (Vs := [.raw (dx + 1)]) (ks := []) (kvs := []) f.ok.dok hF hsc rfl ⟨_, rfl⟩ (fun i V e => ?_) ao₁ rfl C₃ (.one rfl) .nil fun g π₂ s₃ hkp R₃ le₂ => ?_
    · match i, e with
      | 0, e => exact Option.some.inj e
      | 1, e => exact Option.some.inj e
      | 2, e => exact nomatch Option.some.inj e
      | 3, e => exact nomatch Option.some.inj e
    obtain ⟨env, A', kpg, mine, ok⟩ := g
    dsimp only at hkp
    subst hkp
    let f₀ : Fr (κI κ.D 0) := ⟨env, A', kp₀, mine, ok⟩
    let σI : T := ⟨[some (.raw (dx + 1)), some (.ref 0), none, none], [[]], σ.hd⟩
    have R₃ : Rel (f₀.keep dx emptyDict) π₂ ⟨[some (.raw (dx + 1)), some .none, none, none], [], σ.hd⟩ s₃ := R₃
    rw [init_body]
    refine wpAny_execs_cons (thenF (f := f₀.keep dx emptyDict) (init0.run _ π₂ _ s₃ (fun fl σ' => fl = .nxt ∧ σ' = σI) R₃ ⟨true, .nn, rfl, rfl⟩) fun fl w σ₁ π₄ s₄ q₁ R₄ x₁ le₄ => ?_)
    obtain ⟨rfl, rfl⟩ := q₁
    cases (show w = .next from x₁)
    refine wpAny_execs_cons (thenF (f := f₀.keep dx emptyDict) (init1.run _ π₄ _ s₄ (fun fl σ' => fl = .nxt ∧ σ' = σI) R₄ ⟨rfl, rfl, rfl⟩) fun fl w σ₁ π₅ s₅ q₁ R₅ x₁ le₅ => ?_)
    obtain ⟨rfl, rfl⟩ := q₁
    cases (show w = .next from x₁)
    obtain ⟨p1, p2, p3, p4, est⟩ := init_two
    rw [est]
    refine wpAny_execs_cons (plainObj_wpAny_Assign_Attribute (thenV (f := f₀.keep dx emptyDict) ((rVar (κ := κI κ.D 0) 1 rfl).run _ π₅ σI s₅ (fun V σ' => V = .ref 0 ∧ σ' = σI) R₅ ⟨rfl, rfl⟩) fun V v σ₃ π₆ s₆ q₃ R₆ x₃ le₆ => ?_) (by rfl))
    obtain ⟨rfl, rfl⟩ := q₃
    refine thenV (f := f₀.keep dx emptyDict) ((rVar (κ := κI κ.D 0) 0 rfl).run _ π₆ σI s₆ (fun V σ' => V = .raw (dx + 1) ∧ σ' = σI) R₆ ⟨rfl, rfl⟩) fun V ov σ₄ π₇ s₇ q₄ R₇ x₄ le₇ => ?_
    obtain ⟨rfl, rfl⟩ := q₄
    obtain ⟨η, hη, rfl⟩ := x₃.le le₇
    cases (show ov = .ref (dx + 1) from x₄)
    have hx₇ : s₇.heap.get? (dx + 1) = some (instObj κ.D.hdrs dx) := R₇.c.hk _ _ ((kp_ne ndx.symm).trans (if_pos rfl))
    have hd₇ : s₇.heap.get? dx = some emptyDict := R₇.c.hk _ _ kp_at
    refine set_first R₇.X hx₇ hd₇ MK.setA MK.over MK.taker H.hd fun h' hsh tk hsb hnew => ?_
    obtain ⟨R₈, z1, z2, z3, z4⟩ := Rel.unkeep (f := f₀) R₇ kd (fun v e => nomatch e) (ext_of hsb) (Nat.succ_pos (s₇.toks + 1))
    have R₉ := R₈.keep (a := dx) (o := dictOf [⟨hsh, .str "_headers" tk, .ref η⟩] 1) hnew z1 z2 z3 z4
    refine wpAny_execs_cons (thenF (f := f₀.keep dx (dictOf [⟨hsh, .str "_headers" tk, .ref η⟩] 1)) (init3.run _ π₇ _ _ (fun fl σ' => fl = .nxt ∧ σ' = σI) R₉ ⟨rfl, rfl, rfl, rfl⟩) fun fl w σ₅ πA sA q₅ RA x₅ leA => ?_)
    obtain ⟨rfl, rfl⟩ := q₅
    cases (show w = .next from x₅)
    refine wpAny_execs_nil ⟨rfl, ?_⟩
    have atd := RA.c.hk dx _ kp_at
    obtain ⟨RB, y1, y2, y3, y4⟩ := Rel.unkeep (f := f₀) RA kd (fun v e => nomatch e) (h' := sA.heap) (fun _ _ _ e => e) RA.c.tk
    have atx : sA.heap.get? (dx + 1) = some (instObj κ.D.hdrs dx) := RB.c.hk _ _ (if_pos rfl)
    have x1 : πA.fz (dx + 1) = none := RB.c.dj (dx + 1) _ (if_pos rfl)
    have hηA : πA.ρ[0]? = some η := pre_get leA.ρ hη
    obtain ⟨η', us, m, f1, f2, f3⟩ := RB.ob 0 [] rfl
    rw [hηA] at f1; cases f1
    cases (show us = [] from f3)
    obtain ⟨w1, w2, w3, w4⟩ := RB.ow η (ow_obj (List.mem_of_getElem? hηA))
    have ηd : η ≠ dx := fun z => by
      rw [z, atd] at f2
      exact absurd (Value.type.inj (congrArg Obj.cls (Option.some.inj f2))) (by decide)
    have ηx : η ≠ dx + 1 := fun z => by
      rw [z, atx] at f2
      cases f2
    have heldn : ∀ {a}, a ≠ dx + 1 → kp₀ a = f.held π s.heap a := fun {a} h => if_neg h
    have held1 : ∀ a o, f.held π s.heap a = some o → a ≠ dx ∧ a ≠ dx + 1 := fun a o e => ⟨fun z => (by rw [z, none_of R.out.hk hdxn] at e; cases e), fun z => (by rw [z, none_of R.out.hk hxn] at e; cases e)⟩
    let π₉ : Pl := ⟨fun a => if a = dx then some (dictOf [⟨hsh, .str "_headers" tk, .ref η⟩] 1) else if a = dx + 1 then some (instObj κ.D.hdrs dx) else πA.fz a, [], some (dx + 1, dx, η)⟩
    have at1 : ∀ {a}, a ≠ dx → a ≠ dx + 1 → π₉.fz a = πA.fz a := fun {a} h1 h2 => (if_neg h1).trans (if_neg h2)
    have up : ∀ a o, πA.fz a = some o → π₉.fz a = some o := fun a o e => (at1 (fun z => by rw [z, y1] at e; cases e) fun z => by rw [z, x1] at e; cases e).trans e
    have C : CRel κ.D (f.held π s.heap) π₉ (some []) sA := by
      refine ⟨fun a o e => ?_, fun a o e => RB.c.hk a o ((heldn (held1 a o e).2).trans e), fun a o e => (at1 (held1 a o e).1 (held1 a o e).2).trans (RB.c.dj a o ((heldn (held1 a o e).2).trans e)), fun a o e => up a o (RB.c.gd a o e),
        ⟨dx + 1, dx, η, [], m, hsh, tk, 1, rfl, f2, rfl, rfl, (if_neg ndx.symm).trans (if_pos rfl), if_pos rfl⟩, RB.c.ct, fun a q => ?_, RB.c.gens, RB.c.os, RB.c.tk⟩
      · by_cases z : a = dx
        · rw [show π₉.fz a = _ from if_pos z] at e
          cases e
          rw [z]; exact atd
        · by_cases z' : a = dx + 1
          · rw [show π₉.fz a = _ from (if_neg z).trans (if_pos z')] at e
            cases e
            rw [z']; exact atx
          · rw [at1 z z'] at e
            exact RB.c.hz a o e
      · rcases q with rfl | q
        · have := RB.c.sh κ.D.ct (.inl rfl)
          have hx : κ.D.ct ≠ dx + 1 := fun z => no_one hxn (by rw [← z]; exact R.c.shIn (.inl rfl))
          exact ⟨(at1 dxc.symm hx).trans this.1, (heldn hx).symm.trans this.2⟩
        · obtain rfl : a = η := List.mem_singleton.mp q
          exact ⟨(at1 ηd ηx).trans w1, (heldn ηx).symm.trans w2⟩
    have le : π.bare.le π₉ := by
      have := (((((le₂.trans le₄).trans le₅).trans le₆).trans le₇).trans leA).fz
      exact ⟨fun a o e => up a o (this a o e), List.nil_prefix, .inl gt0⟩
    obtain ⟨Rf, ef⟩ := R.back C le
    exact ⟨.hdr, _, _, q, Rf, ⟨_, _, _, rfl, rfl⟩, ef⟩
  obtain ⟨hh', g, d, t, os⟩ := s
  refine wpAny_call (make_core (makes_of X MK.makes) (looks_findIn X MK.init) (fun self => bind_fn X self MK.initT) (.inl rfl) ?_)
  have := key _ rfl
  rw [← hdx] at this
  exact this
theorem keep_hdrs (R : Rel f π σ s) (hk : keepIn κ.D.K (.ref κ.D.hdrs) = true) : KeepOk (Mo κ) (.ref κ.D.hdrs) s.heap := keeps_K hk s.heap R.X
theorem bNew_ok (H : HdrOk κ.D) (MK : MakeOk κ.D) (hF : FnOk κ.D (κ.D.fa .hInit) (hScopeAt 0) (hBodyAt 0) bdI) (hk : keepIn κ.D.K (.ref κ.D.hdrs) = true) (h2 : 2 ≤ κ.n) : CalOk κ (.ref κ.D.hdrs) bNew := fun f π σ s Vs ks vs kvs Q R x xk h => by
  obtain ⟨rfl, rfl, hh, q⟩ := nil_v h
  cases (show vs = [] from x)
  cases (show kvs = [] from xk)
  exact ⟨keep_hdrs R hk, hdr_new H MK hF (by decide +kernel) h2 R hh q⟩
end
end

section
open PySem PySem.Calls PyProof.Rows PySem.W

noncomputable def fbody : Fid → List Stmt
  | .shorten => bodyAt 5 | .safeRepr => bodyAt 6 | .translate => bodyAt 9 | .escape => bodyAt 12 | .translateIn => bodyAt 14 | .joinParts => bodyAt 15
  | .formatparam => bodyAt 20 | .drawn => bodyAt 23 | .pattern => bodyAt 24 | .meant => bodyAt 25 | .texts => bodyAt 26 | .bits => bodyAt 27 | .members => bodyAt 28
  | .atoms => bodyAt 29 | .home => bodyAt 30 | .header => bodyAt 31 | .writing => bodyAt 32
  | .hInit => hBodyAt 0 | .hConv => hBodyAt 1 | .hItems => hBodyAt 11 | .hRepr => hBodyAt 12 | .hStr => hBodyAt 13 | .hAdd => hBodyAt 16
noncomputable def fscope : Fid → Scope
  | .shorten => scopeAt 5 | .safeRepr => scopeAt 6 | .translate => scopeAt 9 | .escape => scopeAt 12 | .translateIn => scopeAt 14 | .joinParts => scopeAt 15
  | .formatparam => scopeAt 20 | .drawn => scopeAt 23 | .pattern => scopeAt 24 | .meant => scopeAt 25 | .texts => scopeAt 26 | .bits => scopeAt 27 | .members => scopeAt 28
  | .atoms => scopeAt 29 | .home => scopeAt 30 | .header => scopeAt 31 | .writing => scopeAt 32
  | .hInit => hScopeAt 0 | .hConv => hScopeAt 1 | .hItems => hScopeAt 11 | .hRepr => hScopeAt 12 | .hStr => hScopeAt 13 | .hAdd => hScopeAt 16
/-- names of the first so many, others by default -/
noncomputable def bd1 (x : Str) : List V → List (Str × V) → Option (List (Str × V))
  | [a], [] => some [(x, a)]
  | _, _ => none
noncomputable def bd2 (x y : Str) : List V → List (Str × V) → Option (List (Str × V))
  | [a, b], [] => some [(x, a), (y, b)]
  | _, _ => none
noncomputable def bd3 (x y z : Str) : List V → List (Str × V) → Option (List (Str × V))
  | [a, b, c], [] => some [(x, a), (y, b), (z, c)]
  | _, _ => none
noncomputable def bdSafe : List V → List (Str × V) → Option (List (Str × V))
  | [a], [] => some [("obj", a), ("short", .bool false)]
  | [a, b], [] => some [("obj", a), ("short", b)]
  | _, _ => none
noncomputable def bdForm : List V → List (Str × V) → Option (List (Str × V))
  | [a, b], [] => some [("param", a), ("value", b), ("quote", .int 1)]
  | _, _ => none
noncomputable def bdConv : List V → List (Str × V) → Option (List (Str × V))
  | [a, b], [(k, c)] => if k = "name" then some [("self", a), ("value", b), ("name", c)] else none
  | _, _ => none
noncomputable def bdAdd : List V → List (Str × V) → Option (List (Str × V))
  | [a, b, c], [(k, x)] => if k = "p_0" then some [("self", a), ("_name", b), ("_value", c), ("_params", .dic [(lit k, x)])] else none
  | [a, b, c], [(k, x), (l, y)] => if k = "p_0" ∧ l = "q_" then some [("self", a), ("_name", b), ("_value", c), ("_params", .dic [(lit k, x), (lit l, y)])] else none
  | _, _ => none
noncomputable def fbd : Fid → List V → List (Str × V) → Option (List (Str × V))
  | .shorten => bd3 "s" "prefixlen" "suffixlen" | .safeRepr => bdSafe | .translate => bd1 "pat" | .escape => bd1 "pattern" | .translateIn => bd3 "pat" "STAR" "QUESTION_MARK" | .joinParts => bd2 "inp" "STAR"
  | .formatparam => bdForm | .drawn => bd1 "n" | .pattern => bd1 "items" | .meant => bd1 "items" | .texts => bd1 "writing" | .bits => bd1 "value" | .members => bd1 "inside"
  | .atoms => bd1 "run" | .home => bd1 "regex" | .header => bd3 "drawn" "name" "value" | .writing => bd2 "table" "drawn"
  | .hInit => bdI | .hConv => bdConv | .hItems => bd1 "self" | .hRepr => bd1 "self" | .hStr => bd1 "self" | .hAdd => bdAdd
/-- what the world must be -/
structure Footing (D : GD) : Prop where
  dok : DOk D
  hdr : HdrOk D
  make : MakeOk D
  pat : PatOk D
  spec : SpecOk D
  keep : keepIn D.K (.ref D.hdrs) = true
  fn : ∀ f, FnOk D (D.fa f) (fscope f) (fbody f) (fbd f)
  k80 : ∃ v, D.mg "_MAX_LENGTH" = some v ∧ ∀ π, VRel D π (.int 80) v
  k12 : ∃ v, D.mg "_PLACEHOLDER_LEN" = some v ∧ ∀ π, VRel D π (.int 12) v
  gTwin : ∃ v, D.mg "_twin_re_1" = some v ∧ ∀ π, VRel D π (.raw D.pTwin) v
  gName : ∃ v, D.mg "_name_disallowed_re" = some v ∧ ∀ π, VRel D π (.pat true) v
  gVal : ∃ v, D.mg "_value_disallowed_re" = some v ∧ ∀ π, VRel D π (.pat false) v
  gSpec : ∃ v, D.mg "_special_chars_map" = some v ∧ ∀ π, VRel D π (.raw D.spec) v
  gHdrs : D.mg "Headers" = some (.ref D.hdrs)

section
variable {κ : Kx} {f : Fr κ} {π π' : Pl} {σ σ' : T} {s s' : Shared}
/-- the statement always returns: what is behind is not asked -/
noncomputable def pStop (a : PS) : PS := fun σ Q => a σ fun fl σ => match fl with
  | .ret v => Q (.ret v) σ
  | _ => False
theorem rStop {e : Stmt} {r : List Stmt} {a : PS} (ha : SS κ e a) : SSs κ (e :: r) (pStop a) := .mk fun f π σ s Q R h =>
  wpAny_execs_cons (thenF (ha.run f π σ s _ R h) fun fl w σ₁ π₁ s₁ q R₁ x₁ e₁ => by
    cases fl with
    | ret V => obtain ⟨v, rfl, xv⟩ := x₁; exact ⟨.ret V, σ₁, π₁, q, R₁, ⟨v, rfl, xv⟩, e₁⟩
    | _ => exact q.elim)
end
end

section
open PySem PySem.Calls PyProof.Rows PySem.W
variable {D : GD}
noncomputable def pb_shorten : PS := pSeq (pAsg (pSubI (pSubI (pCall (fun Vs ks σ Q => one Vs ks fun a => bLenS a σ Q) (pCons (pVar 0) (pNil)) (kNil)) (pVar 1)) (pVar 2)) (aVar 3)) (pSeq (pIf (cmp2 kGt (pVar 3) (pLit (.int 12))) (pAsg (pFmtC (pLit (.str [37, 115, 91, 37, 100, 32, 99, 104, 97, 114, 115, 93, 37, 115])) (pTup (pCons (pSlc sStr (pVar 0) (oNo) (oE (pVar 1))) (pCons (pVar 3) (pCons (pSlc sStr (pVar 0) (oE (pSubI (pCall (fun Vs ks σ Q => one Vs ks fun a => bLenS a σ Q) (pCons (pVar 0) (pNil)) (kNil)) (pVar 2))) (oNo)) (pNil)))))) (aVar 0)) (pSkip)) (pRet (pVar 0)))
set_option maxHeartbeats 4000000 in
theorem b_shorten (F : Footing D) : SSs ⟨D, 0, scopeAt 5, ["s", "prefixlen", "suffixlen", "skip"], true⟩ (bodyAt 5) (pb_shorten) := by
  conv => arg 2; whnf
  exact rSeq (rAsg (rSubI (rSubI (rBlt (bLenS_ok.ok fun _ => keep_builtin) rfl (by dsimp only; decide +kernel) (by decide +kernel) (rCons (rVar 0 rfl) (rNil)) rKNil) (rVar 1 rfl)) (rVar 2 rfl)) (rAVar 3 rfl)) (rSeq (rIf (rCmp kGt_ok (rVar 3 rfl) (rGlob (by dsimp only; decide +kernel) (by decide +kernel) F.k12)) (rLast (rAsg (rFmtC (rStr [37, 115, 91, 37, 100, 32, 99, 104, 97, 114, 115, 93, 37, 115] (by decide +kernel)) (rTup (rCons (rSlc sStr_ok (rVar 0 rfl) (rNo) (rSome (rVar 1 rfl))) (rCons (rVar 3 rfl) (rCons (rSlc sStr_ok (rVar 0 rfl) (rSome (rSubI (rBlt (bLenS_ok.ok fun _ => keep_builtin) rfl (by dsimp only; decide +kernel) (by decide +kernel) (rCons (rVar 0 rfl) (rNil)) rKNil) (rVar 2 rfl))) (rNo)) (rNil)))))) (rAVar 0 rfl))) (rSkip)) (rLast (rRet (rVar 0 rfl))))
noncomputable def pb_safeRepr (D : GD) : PS := pSeq (pAsg (pCall (fun Vs ks σ Q => one Vs ks fun a => bRepr D 1 a σ Q) (pCons (pVar 0) (pNil)) (kNil)) (aVar 2)) (pSeq (pIf (tOr (tNot (tru uBool (pVar 1))) (cmp2 kLt (pCall (fun Vs ks σ Q => one Vs ks fun a => bLenS a σ Q) (pCons (pVar 2) (pNil)) (kNil)) (pLit (.int 80)))) (pRet (pVar 2)) (pSkip)) (pRet (pAddS (pSlc sStr (pVar 2) (oNo) (oE (pLit (.int 80)))) (pLit (.str [32, 91, 116, 114, 117, 110, 99, 97, 116, 101, 100, 93, 46, 46, 46])))))
set_option maxHeartbeats 4000000 in
theorem b_safeRepr (F : Footing D) : SSs ⟨D, 2, scopeAt 6, ["obj", "short", "result"], true⟩ (bodyAt 6) (pb_safeRepr D) := by
  conv => arg 2; whnf
  exact rSeq (rTry (rLast (rAsg (rBlt ((bRepr_ok F.hdr (Nat.le_of_ble_eq_true rfl)).ok fun _ => keep_builtin) rfl (by dsimp only; decide +kernel) (by decide +kernel) (rCons (rVar 0 rfl) (rNil)) rKNil) (rAVar 2 rfl)))) (rSeq (rIf (rOr (rNot (rTru uBool_ok (rVar 1 rfl))) (rCmp kLt_ok (rBlt (bLenS_ok.ok fun _ => keep_builtin) rfl (by dsimp only; decide +kernel) (by decide +kernel) (rCons (rVar 2 rfl) (rNil)) rKNil) (rGlob (by dsimp only; decide +kernel) (by decide +kernel) F.k80))) (rLast (rRet (rVar 2 rfl))) (rSkip)) (rLast (rRet (rAddS (rSlc sStr_ok (rVar 2 rfl) (rNo) (rSome (rGlob (by dsimp only; decide +kernel) (by decide +kernel) F.k80))) (rStr [32, 91, 116, 114, 117, 110, 99, 97, 116, 101, 100, 93, 46, 46, 46] (by decide +kernel))))))
noncomputable def pb_translate (D : GD) : PS := pSeq (pAsg (pCall bObj (pNil) (kNil)) (aVar 1)) (pSeq (pAsg (pCall (cFn D 2 .translateIn) (pCons (pVar 0) (pCons (pVar 1) (pCons (pLit (.str [46])) (pNil)))) (kNil)) (aVar 2)) (pRet (pCall (cFn D 1 .joinParts) (pCons (pVar 2) (pCons (pVar 1) (pNil))) (kNil))))
set_option maxHeartbeats 4000000 in
theorem b_translate (F : Footing D) : SSs ⟨D, 2, scopeAt 9, ["pat", "STAR", "parts"], true⟩ (bodyAt 9) (pb_translate D) := by
  conv => arg 2; whnf
  exact rSeq (rAsg (rBlt bObj_ok rfl (by dsimp only; decide +kernel) (by decide +kernel) (rNil) rKNil) (rAVar 1 rfl)) (rSeq (rAsg (rFn (h := 2) (g := .translateIn) (Nat.le_of_ble_eq_true rfl) rfl rfl (by dsimp only; decide +kernel) (by decide +kernel) (rCons (rVar 0 rfl) (rCons (rVar 1 rfl) (rCons (rStr [46] (by decide +kernel)) (rNil)))) (rKNil)) (rAVar 2 rfl)) (rLast (rRet (rFn (h := 1) (g := .joinParts) (Nat.le_of_ble_eq_true rfl) rfl rfl (by dsimp only; decide +kernel) (by decide +kernel) (rCons (rVar 2 rfl) (rCons (rVar 1 rfl) (rNil))) (rKNil)))))
noncomputable def pb_escape (D : GD) : PS := pIfT (tIsiStr (pVar 0)) (pRet (pMet nStr (mTrans D) (pVar 0) (pCons (pLit (.raw D.spec)) (pNil)) (kNil)))
set_option maxHeartbeats 4000000 in
theorem b_escape (F : Footing D) : SSs ⟨D, 0, scopeAt 12, ["pattern"], true⟩ (bodyAt 12) (pb_escape D) := by
  conv => arg 2; whnf
  exact rLast (rIfT (rIsiStr (rVar 0 rfl) (by dsimp only; decide +kernel) (by dsimp only; decide +kernel)) (rLast (rRet (rMet (mTrans_ok F.spec) (rVar 0 rfl) (rCons (rGlob (by dsimp only; decide +kernel) (by decide +kernel) F.gSpec) (rNil)) rKNil))))
noncomputable def pb_joinParts : PS := pSeq (pAsg (pNew (pNil)) (aVar 2)) (pSeq (pAsg (pAtt aApp (pVar 2)) (aVar 3)) (pSeq (pAsgT (pTup (pCons (pLit (.int 0)) (pCons (pCall (fun Vs ks σ Q => one Vs ks fun a => bLenL a σ Q) (pCons (pVar 0) (pNil)) (kNil)) (pNil)))) [4, 5]) (pSeq (pWhile (tAnd (cmp2 kLt (pVar 4) (pVar 5)) (cmp2 kIsNot (pItm iLst (pVar 0) (pVar 4)) (pVar 1))) (pSeq (pEx (pAdd (pVar 3) (pItm iLst (pVar 0) (pVar 4)))) (pAug gAddI 4 (pLit (.int 1))))) (pSeq (pWhile (cmp2 kLt (pVar 4) (pVar 5)) (pSeq (pAssert (cmp2 kIs (pItm iLst (pVar 0) (pVar 4)) (pVar 1))) (pSeq (pAug gAddI 4 (pLit (.int 1))) (pSeq (pIf (cmp2 kEqI (pVar 4) (pVar 5)) (pSeq (pEx (pAdd (pVar 3) (pLit (.str [46, 42])))) (pBrk)) (pSkip)) (pSeq (pAssert (cmp2 kIsNot (pItm iLst (pVar 0) (pVar 4)) (pVar 1))) (pSeq (pAsg (pNew (pNil)) (aVar 6)) (pSeq (pWhile (tAnd (cmp2 kLt (pVar 4) (pVar 5)) (cmp2 kIsNot (pItm iLst (pVar 0) (pVar 4)) (pVar 1))) (pSeq (pEx (pMet nRef mApp (pVar 6) (pCons (pItm iLst (pVar 0) (pVar 4)) (pNil)) (kNil))) (pAug gAddI 4 (pLit (.int 1))))) (pSeq (pAsg (pMet nStr mJoin (pLit (.str [])) (pCons (pVar 6) (pNil)) (kNil)) (aVar 6)) (pIf (cmp2 kEqI (pVar 4) (pVar 5)) (pSeq (pEx (pAdd (pVar 3) (pLit (.str [46, 42])))) (pEx (pAdd (pVar 3) (pVar 6)))) (pEx (pAdd (pVar 3) (pJoin (jLit [40, 63, 62, 46, 42, 63] (jVal (pVar 6) (jLit [41] (jNil)))))))))))))))) (pSeq (pAssert (cmp2 kEqI (pVar 4) (pVar 5))) (pSeq (pAsg (pMet nStr mJoin (pLit (.str [])) (pCons (pVar 2) (pNil)) (kNil)) (aVar 2)) (pRet (pJoin (jLit [40, 63, 115, 58] (jVal (pVar 2) (jLit [41, 92, 90] (jNil))))))))))))
set_option maxHeartbeats 4000000 in
theorem b_joinParts (F : Footing D) : SSs ⟨D, 0, scopeAt 15, ["inp", "STAR", "res", "add", "i", "n", "fixed"], true⟩ (bodyAt 15) (pb_joinParts) := by
  conv => arg 2; whnf
  exact rSeq (rAsg (rNew (rNil)) (rAVar 2 rfl)) (rSeq (rAsg (rAtt aApp_ok (rVar 2 rfl)) (rAVar 3 rfl)) (rSeq (rAsgT [4, 5] rfl (rTup (rCons (rInt) (rCons (rBlt (bLenL_ok.ok fun _ => keep_builtin) rfl (by dsimp only; decide +kernel) (by decide +kernel) (rCons (rVar 0 rfl) (rNil)) rKNil) (rNil))))) (rSeq (rWhile (rAnd (rCmp kLt_ok (rVar 4 rfl) (rVar 5 rfl)) (rCmp kIsNot_ok (rItm iLst_ok (rVar 0 rfl) (rVar 4 rfl)) (rVar 1 rfl))) (rSeq (rEx (rAdd (rVar 3 rfl) (rItm iLst_ok (rVar 0 rfl) (rVar 4 rfl)))) (rLast (rAug gAddI_ok 4 rfl (rInt))))) (rSeq (rWhile (rCmp kLt_ok (rVar 4 rfl) (rVar 5 rfl)) (rSeq (rAssert (rCmp kIs_ok (rItm iLst_ok (rVar 0 rfl) (rVar 4 rfl)) (rVar 1 rfl))) (rSeq (rAug gAddI_ok 4 rfl (rInt)) (rSeq (rIf (rCmp kEqI_ok (rVar 4 rfl) (rVar 5 rfl)) (rSeq (rEx (rAdd (rVar 3 rfl) (rStr [46, 42] (by decide +kernel)))) (rLast (rBrk))) (rSkip)) (rSeq (rAssert (rCmp kIsNot_ok (rItm iLst_ok (rVar 0 rfl) (rVar 4 rfl)) (rVar 1 rfl))) (rSeq (rAsg (rNew (rNil)) (rAVar 6 rfl)) (rSeq (rWhile (rAnd (rCmp kLt_ok (rVar 4 rfl) (rVar 5 rfl)) (rCmp kIsNot_ok (rItm iLst_ok (rVar 0 rfl) (rVar 4 rfl)) (rVar 1 rfl))) (rSeq (rEx (rMet mApp_ok (rVar 6 rfl) (rCons (rItm iLst_ok (rVar 0 rfl) (rVar 4 rfl)) (rNil)) rKNil)) (rLast (rAug gAddI_ok 4 rfl (rInt))))) (rSeq (rAsg (rMet mJoin_ok (rStr [] (by decide +kernel)) (rCons (rVar 6 rfl) (rNil)) rKNil) (rAVar 6 rfl)) (rLast (rIf (rCmp kEqI_ok (rVar 4 rfl) (rVar 5 rfl)) (rSeq (rEx (rAdd (rVar 3 rfl) (rStr [46, 42] (by decide +kernel)))) (rLast (rEx (rAdd (rVar 3 rfl) (rVar 6 rfl))))) (rLast (rEx (rAdd (rVar 3 rfl) (rJoin (rJLit [40, 63, 62, 46, 42, 63] (by decide +kernel) (rJVal (rVar 6 rfl) (rJLit [41] (by decide +kernel) (rJNil)))))))))))))))))) (rSeq (rAssert (rCmp kEqI_ok (rVar 4 rfl) (rVar 5 rfl))) (rSeq (rAsg (rMet mJoin_ok (rStr [] (by decide +kernel)) (rCons (rVar 2 rfl) (rNil)) rKNil) (rAVar 2 rfl)) (rLast (rRet (rJoin (rJLit [40, 63, 115, 58] (by decide +kernel) (rJVal (rVar 2 rfl) (rJLit [41, 92, 90] (by decide +kernel) (rJNil)))))))))))))
noncomputable def pb_formatparam : PS := pIf (tAnd (cmp2 kIsNot (pVar 1) (pLit .none)) (cmp2 kGt (pCall (fun Vs ks σ Q => one Vs ks fun a => bLenS a σ Q) (pCons (pVar 1) (pNil)) (kNil)) (pLit (.int 0)))) (pIfT (tOrT (tru uInt (pVar 2))) (pSeq (pAsg (pRep 34 [92, 34] (pRep 92 [92, 92] (pVar 1))) (aVar 1)) (pRet (pJoin (jVal (pVar 0) (jLit [61, 34] (jVal (pVar 1) (jLit [34] (jNil))))))))) (pRet (pVar 0))
set_option maxHeartbeats 4000000 in
theorem b_formatparam (F : Footing D) : SSs ⟨D, 0, scopeAt 20, ["param", "value", "quote"], true⟩ (bodyAt 20) (pb_formatparam) := by
  conv => arg 2; whnf
  exact rLast (rIf (rAnd (rCmp kIsNot_ok (rVar 1 rfl) (rNone)) (rCmp kGt_ok (rBlt (bLenS_ok.ok fun _ => keep_builtin) rfl (by dsimp only; decide +kernel) (by decide +kernel) (rCons (rVar 1 rfl) (rNil)) rKNil) (rInt))) (rLast (rIfT (rOrT (rTru uInt_ok (rVar 2 rfl))) (rSeq (rAsg (rRep 34 [92, 34] (by decide +kernel) (by decide +kernel) (rRep 92 [92, 92] (by decide +kernel) (by decide +kernel) (rVar 1 rfl))) (rAVar 1 rfl)) (rLast (rRet (rJoin (rJValS (rVar 0 rfl) (rJLit [61, 34] (by decide +kernel) (rJValS (rVar 1 rfl) (rJLit [34] (by decide +kernel) (rJNil))))))))))) (rLast (rRet (rVar 0 rfl))))
end

section
open PySem PySem.Calls PyProof.Rows PySem.W
variable {D : GD}
noncomputable def pb_translateIn (D : GD) : PS := pSeq (pAsg (pNew (pNil)) (aVar 3)) (pSeq (pAsg (pAtt aApp (pVar 3)) (aVar 4)) (pSeq (pAsgT (pTup (pCons (pLit (.int 0)) (pCons (pCall (fun Vs ks σ Q => one Vs ks fun a => bLenS a σ Q) (pCons (pVar 0) (pNil)) (kNil)) (pNil)))) [5, 6]) (pSeq (pWhile (cmp2 kLt (pVar 5) (pVar 6)) (pSeq (pAsg (pItm iStr (pVar 0) (pVar 5)) (aVar 7)) (pSeq (pAsg (pAddI (pVar 5) (pLit (.int 1))) (aVar 5)) (pIf (cmp2 kEqS (pVar 7) (pLit (.str [42]))) (pIf (tOr (tNot (tru uLst (pVar 3))) (cmp2 kIsNot (pItm iLst (pVar 3) (pNegI (pLit (.int 1)))) (pVar 1))) (pEx (pAdd (pVar 4) (pVar 1))) (pSkip)) (pIf (cmp2 kEqS (pVar 7) (pLit (.str [63]))) (pEx (pAdd (pVar 4) (pVar 2))) (pIf (cmp2 kEqS (pVar 7) (pLit (.str [91]))) (pSeq (pAsg (pVar 5) (aVar 8)) (pSeq (pIf (tAnd (cmp2 kLt (pVar 8) (pVar 6)) (cmp2 kEqS (pItm iStr (pVar 0) (pVar 8)) (pLit (.str [33])))) (pAsg (pAddI (pVar 8) (pLit (.int 1))) (aVar 8)) (pSkip)) (pSeq (pIf (tAnd (cmp2 kLt (pVar 8) (pVar 6)) (cmp2 kEqS (pItm iStr (pVar 0) (pVar 8)) (pLit (.str [93])))) (pAsg (pAddI (pVar 8) (pLit (.int 1))) (aVar 8)) (pSkip)) (pSeq (pWhile (tAnd (cmp2 kLt (pVar 8) (pVar 6)) (cmp2 kNeS (pItm iStr (pVar 0) (pVar 8)) (pLit (.str [93])))) (pAsg (pAddI (pVar 8) (pLit (.int 1))) (aVar 8))) (pIf (cmp2 kGe (pVar 8) (pVar 6)) (pEx (pAdd (pVar 4) (pLit (.str [92, 91])))) (pSeq (pAsg (pSlc sStr (pVar 0) (oE (pVar 5)) (oE (pVar 8))) (aVar 9)) (pSeq (pIf (cmp2 kNotIn (pLit (.str [45])) (pVar 9)) (pAsg (pRep 92 [92, 92] (pVar 9)) (aVar 9)) (pSeq (pAsg (pNew (pNil)) (aVar 10)) (pSeq (pAsg (pIfE (cmp2 kEqS (pItm iStr (pVar 0) (pVar 5)) (pLit (.str [33]))) (pAddI (pVar 5) (pLit (.int 2))) (pAddI (pVar 5) (pLit (.int 1)))) (aVar 11)) (pSeq (pWhile (tru uBool (pLit (.bool true))) (pSeq (pAsg (pMet nStr mFind3 (pVar 0) (pCons (pLit (.str [45])) (pCons (pVar 11) (pCons (pVar 8) (pNil)))) (kNil)) (aVar 11)) (pSeq (pIf (cmp2 kLt (pVar 11) (pLit (.int 0))) (pBrk) (pSkip)) (pSeq (pEx (pMet nRef mApp (pVar 10) (pCons (pSlc sStr (pVar 0) (oE (pVar 5)) (oE (pVar 11))) (pNil)) (kNil))) (pSeq (pAsg (pAddI (pVar 11) (pLit (.int 1))) (aVar 5)) (pAsg (pAddI (pVar 11) (pLit (.int 3))) (aVar 11))))))) (pSeq (pAsg (pSlc sStr (pVar 0) (oE (pVar 5)) (oE (pVar 8))) (aVar 12)) (pSeq (pIfT (tru uStr (pVar 12)) (pEx (pMet nRef mApp (pVar 10) (pCons (pVar 12) (pNil)) (kNil)))) (pSeq (pFor false (pCall bRng3 (pCons (pSubI (pCall (fun Vs ks σ Q => one Vs ks fun a => bLenL a σ Q) (pCons (pVar 10) (pNil)) (kNil)) (pLit (.int 1))) (pCons (pLit (.int 0)) (pCons (pNegI (pLit (.int 1))) (pNil)))) (kNil)) (aVar 11) (pIf (cmp2 kGtS (pItm iStr (pItm iLst (pVar 10) (pSubI (pVar 11) (pLit (.int 1)))) (pNegI (pLit (.int 1)))) (pItm iStr (pItm iLst (pVar 10) (pVar 11)) (pLit (.int 0)))) (pSeq (pAsg (pAddS (pSlc sStr (pItm iLst (pVar 10) (pSubI (pVar 11) (pLit (.int 1)))) (oNo) (oE (pNegI (pLit (.int 1))))) (pSlc sStr (pItm iLst (pVar 10) (pVar 11)) (oE (pLit (.int 1))) (oNo))) (aSub (pVar 10) (pSubI (pVar 11) (pLit (.int 1))))) (pDel (pVar 10) (pVar 11))) (pSkip))) (pAsg (pGen 92 45 (pLit (.str [45])) (pVar 10)) (aVar 9))))))))) (pSeq (pAsg (pSub D (pLit (.raw D.pTwin)) (pVar 9)) (aVar 9)) (pSeq (pAsg (pAddI (pVar 8) (pLit (.int 1))) (aVar 5)) (pIf (tNot (tru uStr (pVar 9))) (pEx (pAdd (pVar 4) (pLit (.str [40, 63, 33, 41])))) (pIf (cmp2 kEqS (pVar 9) (pLit (.str [33]))) (pEx (pAdd (pVar 4) (pLit (.str [46])))) (pSeq (pIf (cmp2 kEqS (pItm iStr (pVar 9) (pLit (.int 0))) (pLit (.str [33]))) (pAsg (pAddS (pLit (.str [94])) (pSlc sStr (pVar 9) (oE (pLit (.int 1))) (oNo))) (aVar 9)) (pIf (cmp2 kInT (pItm iStr (pVar 9) (pLit (.int 0))) (pTup (pCons (pLit (.str [94])) (pCons (pLit (.str [91])) (pNil))))) (pAsg (pAddS (pLit (.str [92])) (pVar 9)) (aVar 9)) (pSkip))) (pEx (pAdd (pVar 4) (pJoin (jLit [91] (jVal (pVar 9) (jLit [93] (jNil))))))))))))))))))) (pEx (pAdd (pVar 4) (pCall (cFn D 1 .escape) (pCons (pVar 7) (pNil)) (kNil)))))))))) (pSeq (pAssert (cmp2 kEqI (pVar 5) (pVar 6))) (pRet (pVar 3))))))
set_option maxHeartbeats 4000000 in
theorem b_translateIn (F : Footing D) : SSs ⟨D, 1, scopeAt 14, ["pat", "STAR", "QUESTION_MARK", "res", "add", "i", "n", "c", "j", "stuff", "chunks", "k", "chunk"], true⟩ (bodyAt 14) (pb_translateIn D) := by
  conv => arg 2; whnf
  exact rSeq (rAsg (rNew (rNil)) (rAVar 3 rfl)) (rSeq (rAsg (rAtt aApp_ok (rVar 3 rfl)) (rAVar 4 rfl)) (rSeq (rAsgT [5, 6] rfl (rTup (rCons (rInt) (rCons (rBlt (bLenS_ok.ok fun _ => keep_builtin) rfl (by dsimp only; decide +kernel) (by decide +kernel) (rCons (rVar 0 rfl) (rNil)) rKNil) (rNil))))) (rSeq (rWhile (rCmp kLt_ok (rVar 5 rfl) (rVar 6 rfl)) (rSeq (rAsg (rItm iStr_ok (rVar 0 rfl) (rVar 5 rfl)) (rAVar 7 rfl)) (rSeq (rAsg (rAddI (rVar 5 rfl) (rInt)) (rAVar 5 rfl)) (rLast (rIf (rCmp kEqS_ok (rVar 7 rfl) (rStr [42] (by decide +kernel))) (rLast (rIf (rOr (rNot (rTru uLst_ok (rVar 3 rfl))) (rCmp kIsNot_ok (rItm iLst_ok (rVar 3 rfl) (rNegI (rInt))) (rVar 1 rfl))) (rLast (rEx (rAdd (rVar 4 rfl) (rVar 1 rfl)))) (rSkip))) (rLast (rIf (rCmp kEqS_ok (rVar 7 rfl) (rStr [63] (by decide +kernel))) (rLast (rEx (rAdd (rVar 4 rfl) (rVar 2 rfl)))) (rLast (rIf (rCmp kEqS_ok (rVar 7 rfl) (rStr [91] (by decide +kernel))) (rSeq (rAsg (rVar 5 rfl) (rAVar 8 rfl)) (rSeq (rIf (rAnd (rCmp kLt_ok (rVar 8 rfl) (rVar 6 rfl)) (rCmp kEqS_ok (rItm iStr_ok (rVar 0 rfl) (rVar 8 rfl)) (rStr [33] (by decide +kernel)))) (rLast (rAsg (rAddI (rVar 8 rfl) (rInt)) (rAVar 8 rfl))) (rSkip)) (rSeq (rIf (rAnd (rCmp kLt_ok (rVar 8 rfl) (rVar 6 rfl)) (rCmp kEqS_ok (rItm iStr_ok (rVar 0 rfl) (rVar 8 rfl)) (rStr [93] (by decide +kernel)))) (rLast (rAsg (rAddI (rVar 8 rfl) (rInt)) (rAVar 8 rfl))) (rSkip)) (rSeq (rWhile (rAnd (rCmp kLt_ok (rVar 8 rfl) (rVar 6 rfl)) (rCmp kNeS_ok (rItm iStr_ok (rVar 0 rfl) (rVar 8 rfl)) (rStr [93] (by decide +kernel)))) (rLast (rAsg (rAddI (rVar 8 rfl) (rInt)) (rAVar 8 rfl)))) (rLast (rIf (rCmp kGe_ok (rVar 8 rfl) (rVar 6 rfl)) (rLast (rEx (rAdd (rVar 4 rfl) (rStr [92, 91] (by decide +kernel))))) (rSeq (rAsg (rSlc sStr_ok (rVar 0 rfl) (rSome (rVar 5 rfl)) (rSome (rVar 8 rfl))) (rAVar 9 rfl)) (rSeq (rIf (rCmp kNotIn_ok (rStr [45] (by decide +kernel)) (rVar 9 rfl)) (rLast (rAsg (rRep 92 [92, 92] (by decide +kernel) (by decide +kernel) (rVar 9 rfl)) (rAVar 9 rfl))) (rSeq (rAsg (rNew (rNil)) (rAVar 10 rfl)) (rSeq (rAsg (rIfE (rCmp kEqS_ok (rItm iStr_ok (rVar 0 rfl) (rVar 5 rfl)) (rStr [33] (by decide +kernel))) (rAddI (rVar 5 rfl) (rInt)) (rAddI (rVar 5 rfl) (rInt))) (rAVar 11 rfl)) (rSeq (rWhile (rTru uBool_ok (rBool)) (rSeq (rAsg (rMet mFind3_ok (rVar 0 rfl) (rCons (rStr [45] (by decide +kernel)) (rCons (rVar 11 rfl) (rCons (rVar 8 rfl) (rNil)))) rKNil) (rAVar 11 rfl)) (rSeq (rIf (rCmp kLt_ok (rVar 11 rfl) (rInt)) (rLast (rBrk)) (rSkip)) (rSeq (rEx (rMet mApp_ok (rVar 10 rfl) (rCons (rSlc sStr_ok (rVar 0 rfl) (rSome (rVar 5 rfl)) (rSome (rVar 11 rfl))) (rNil)) rKNil)) (rSeq (rAsg (rAddI (rVar 11 rfl) (rInt)) (rAVar 5 rfl)) (rLast (rAsg (rAddI (rVar 11 rfl) (rInt)) (rAVar 11 rfl)))))))) (rSeq (rAsg (rSlc sStr_ok (rVar 0 rfl) (rSome (rVar 5 rfl)) (rSome (rVar 8 rfl))) (rAVar 12 rfl)) (rSeq (rIfT (rTru uStr_ok (rVar 12 rfl)) (rLast (rEx (rMet mApp_ok (rVar 10 rfl) (rCons (rVar 12 rfl) (rNil)) rKNil)))) (rSeq (rFor (rBlt bRng3_ok rfl (by dsimp only; decide +kernel) (by decide +kernel) (rCons (rSubI (rBlt (bLenL_ok.ok fun _ => keep_builtin) rfl (by dsimp only; decide +kernel) (by decide +kernel) (rCons (rVar 10 rfl) (rNil)) rKNil) (rInt)) (rCons (rInt) (rCons (rNegI (rInt)) (rNil)))) rKNil) (rAVar 11 rfl) (rLast (rIf (rCmp kGtS_ok (rItm iStr_ok (rItm iLst_ok (rVar 10 rfl) (rSubI (rVar 11 rfl) (rInt))) (rNegI (rInt))) (rItm iStr_ok (rItm iLst_ok (rVar 10 rfl) (rVar 11 rfl)) (rInt))) (rSeq (rAsg (rAddS (rSlc sStr_ok (rItm iLst_ok (rVar 10 rfl) (rSubI (rVar 11 rfl) (rInt))) (rNo) (rSome (rNegI (rInt)))) (rSlc sStr_ok (rItm iLst_ok (rVar 10 rfl) (rVar 11 rfl)) (rSome (rInt)) (rNo))) (rASub (rVar 10 rfl) (rSubI (rVar 11 rfl) (rInt)))) (rLast (rDel (rVar 10 rfl) (rVar 11 rfl)))) (rSkip)))) (rLast (rAsg (rGen 92 45 (rStr [45] (by decide +kernel)) (rVar 10 rfl) (by dsimp only; decide +kernel) (by decide +kernel) (by decide +kernel)) (rAVar 9 rfl)))))))))) (rSeq (rAsg (rSub F.pat (rGlob (by dsimp only; decide +kernel) (by decide +kernel) F.gTwin) (rVar 9 rfl) (by dsimp only; decide +kernel)) (rAVar 9 rfl)) (rSeq (rAsg (rAddI (rVar 8 rfl) (rInt)) (rAVar 5 rfl)) (rLast (rIf (rNot (rTru uStr_ok (rVar 9 rfl))) (rLast (rEx (rAdd (rVar 4 rfl) (rStr [40, 63, 33, 41] (by decide +kernel))))) (rLast (rIf (rCmp kEqS_ok (rVar 9 rfl) (rStr [33] (by decide +kernel))) (rLast (rEx (rAdd (rVar 4 rfl) (rStr [46] (by decide +kernel))))) (rSeq (rIf (rCmp kEqS_ok (rItm iStr_ok (rVar 9 rfl) (rInt)) (rStr [33] (by decide +kernel))) (rLast (rAsg (rAddS (rStr [94] (by decide +kernel)) (rSlc sStr_ok (rVar 9 rfl) (rSome (rInt)) (rNo))) (rAVar 9 rfl))) (rLast (rIf (rCmp kInT_ok (rItm iStr_ok (rVar 9 rfl) (rInt)) (rTup (rCons (rStr [94] (by decide +kernel)) (rCons (rStr [91] (by decide +kernel)) (rNil))))) (rLast (rAsg (rAddS (rStr [92] (by decide +kernel)) (rVar 9 rfl)) (rAVar 9 rfl))) (rSkip)))) (rLast (rEx (rAdd (rVar 4 rfl) (rJoin (rJLit [91] (by decide +kernel) (rJVal (rVar 9 rfl) (rJLit [93] (by decide +kernel) (rJNil))))))))))))))))))))))) (rLast (rEx (rAdd (rVar 4 rfl) (rFn (h := 1) (g := .escape) (Nat.le_of_ble_eq_true rfl) rfl rfl (by dsimp only; decide +kernel) (by decide +kernel) (rCons (rVar 7 rfl) (rNil)) (rKNil)))))))))))))) (rSeq (rAssert (rCmp kEqI_ok (rVar 5 rfl) (rVar 6 rfl))) (rLast (rRet (rVar 3 rfl)))))))
end

section
open PySem PySem.Calls PyProof.Rows PySem.W
variable {D : GD}
noncomputable def pb_drawn : PS := pSeq (pAsg (pLit (.str [97, 39, 34, 92, 63, 42, 91, 93, 46, 59, 9, 45])) (aVar 1)) (pSeq (pAsgT (pTup (pCons (pNew (pNil)) (pCons (pDivI (pVar 0) (pLit (.int 128))) (pNil)))) [2, 3]) (pSeq (pFor false (pCall (fun Vs ks σ Q => one Vs ks fun a => bRng1 a σ Q) (pCons (pAddI (pModI (pDivI (pVar 0) (pLit (.int 32))) (pLit (.int 4))) (pLit (.int 1))) (pNil)) (kNil)) (aVar 4) (pSeq (pEx (pMet nRef mApp (pVar 2) (pCons (pItm iStr (pVar 1) (pModI (pVar 3) (pLit (.int 12)))) (pNil)) (kNil))) (pAsg (pDivI (pVar 3) (pLit (.int 12))) (aVar 3)))) (pSeq (pAsg (pItm iLst (pLst (pCons (pLit .none) (pCons (pLit (.str [])) (pCons (pLit (.str [111, 39, 92])) (pCons (pLit (.str [9])) (pNil)))))) (pModI (pDivI (pVar 0) (pLit (.int 4))) (pLit (.int 4)))) (aVar 5)) (pRet (pTup (pCons (pItm iLst (pLst (pCons (pLit (.str [105, 116, 39, 115])) (pCons (pLit (.str [97, 34, 98])) (pCons (pLit (.str [99])) (pCons (pLit (.str [100, 92, 39, 34])) (pNil)))))) (pModI (pVar 0) (pLit (.int 4)))) (pCons (pVar 5) (pCons (pB (cmp2 kEqI (pModI (pDivI (pVar 0) (pLit (.int 16))) (pLit (.int 2))) (pLit (.int 1)))) (pCons (pVar 2) (pNil))))))))))
set_option maxHeartbeats 4000000 in
theorem b_drawn (F : Footing D) : SSs ⟨D, 0, scopeAt 23, ["n", "figures", "items", "q", "k", "own"], true⟩ (bodyAt 23) (pb_drawn) := by
  conv => arg 2; whnf
  exact rSeq (rAsg (rStr [97, 39, 34, 92, 63, 42, 91, 93, 46, 59, 9, 45] (by decide +kernel)) (rAVar 1 rfl)) (rSeq (rAsgT [2, 3] rfl (rTup (rCons (rNew (rNil)) (rCons (rDivI (rVar 0 rfl) (rInt)) (rNil))))) (rSeq (rFor (rBlt (bRng1_ok.ok fun _ => keep_type) rfl (by dsimp only; decide +kernel) (by decide +kernel) (rCons (rAddI (rModI (rDivI (rVar 0 rfl) (rInt)) (rInt)) (rInt)) (rNil)) rKNil) (rAVar 4 rfl) (rSeq (rEx (rMet mApp_ok (rVar 2 rfl) (rCons (rItm iStr_ok (rVar 1 rfl) (rModI (rVar 3 rfl) (rInt))) (rNil)) rKNil)) (rLast (rAsg (rDivI (rVar 3 rfl) (rInt)) (rAVar 3 rfl))))) (rSeq (rAsg (rItm iLst_ok (rLst (rCons (rNone) (rCons (rStr [] (by decide +kernel)) (rCons (rStr [111, 39, 92] (by decide +kernel)) (rCons (rStr [9] (by decide +kernel)) (rNil)))))) (rModI (rDivI (rVar 0 rfl) (rInt)) (rInt))) (rAVar 5 rfl)) (rLast (rRet (rTup (rCons (rItm iLst_ok (rLst (rCons (rStr [105, 116, 39, 115] (by decide +kernel)) (rCons (rStr [97, 34, 98] (by decide +kernel)) (rCons (rStr [99] (by decide +kernel)) (rCons (rStr [100, 92, 39, 34] (by decide +kernel)) (rNil)))))) (rModI (rVar 0 rfl) (rInt))) (rCons (rVar 5 rfl) (rCons (rCmpV kEqI_ok (rModI (rDivI (rVar 0 rfl) (rInt)) (rInt)) (rInt)) (rCons (rVar 2 rfl) (rNil)))))))))))
noncomputable def pb_pattern : PS := pSeq (pAsg (pDic [[91], [93], [45]] (pCons (pLit (.str [91, 34, 92, 93])) (pCons (pLit (.str [91, 33, 39, 45, 41, 93])) (pCons (pLit (.str [91, 122, 45, 97, 93])) (pNil))))) (aVar 1)) (pRet (pMet nStr mJoin (pLit (.str [])) (pCons (pComp false [none, some 1] (pVar 0) (lc0 (aVar 0) (pMet nDic mGet (pVar 1) (pCons (pVar 0) (pCons (pVar 0) (pNil))) (kNil)))) (pNil)) (kNil)))
set_option maxHeartbeats 4000000 in
theorem b_pattern (F : Footing D) : SSs ⟨D, 0, scopeAt 24, ["items", "spelled"], true⟩ (bodyAt 24) (pb_pattern) := by
  conv => arg 2; whnf
  exact rSeq (rAsg (rDic [[91], [93], [45]] (rDCons [91] (by decide +kernel) (rStr [91, 34, 92, 93] (by decide +kernel)) (rDCons [93] (by decide +kernel) (rStr [91, 33, 39, 45, 41, 93] (by decide +kernel)) (rDCons [45] (by decide +kernel) (rStr [91, 122, 45, 97, 93] (by decide +kernel)) (rDNil))))) (rAVar 1 rfl)) (rLast (rRet (rMet mJoin_ok (rStr [] (by decide +kernel)) (rCons (rComp false [none, some 1] ["item", "spelled"] (by dsimp only; decide +kernel) (rVar 0 rfl) (rLc0 (rAVar' 0 rfl (by dsimp only; decide +kernel)) (rMet mGet_ok (rVar 1 rfl) (rCons (rVar 0 rfl) (rCons (rVar 0 rfl) (rNil))) rKNil))) (rNil)) rKNil)))
noncomputable def pb_meant : PS := pSeq (pAsg (pDic [[63], [45], [91], [93]] (pCons (pTup (pCons (pLit (.bool true)) (pCons (pLst (pNil)) (pNil)))) (pCons (pTup (pCons (pLit (.bool false)) (pCons (pLst (pNil)) (pNil)))) (pCons (pTup (pCons (pLit (.bool false)) (pCons (pLst (pCons (pTup (pCons (pLit (.str [34])) (pCons (pLit (.str [34])) (pNil)))) (pCons (pTup (pCons (pLit (.str [92])) (pCons (pLit (.str [92])) (pNil)))) (pNil)))) (pNil)))) (pCons (pTup (pCons (pLit (.bool true)) (pCons (pLst (pCons (pTup (pCons (pLit (.str [39])) (pCons (pLit (.str [41])) (pNil)))) (pNil))) (pNil)))) (pNil)))))) (aVar 1)) (pSeq (pAsg (pNew (pCons (pNew (pNil)) (pNil))) (aVar 2)) (pSeq (pFor false (pVar 0) (aVar 3) (pIf (cmp2 kNeS (pVar 3) (pLit (.str [42]))) (pEx (pMet nRef mApp (pItm iLst (pVar 2) (pNegI (pLit (.int 1)))) (pCons (pMet nDic mGet (pVar 1) (pCons (pVar 3) (pCons (pTup (pCons (pLit (.bool false)) (pCons (pLst (pCons (pTup (pCons (pVar 3) (pCons (pVar 3) (pNil)))) (pNil))) (pNil)))) (pNil))) (kNil)) (pNil)) (kNil))) (pIf (tOr (cmp2 kEqI (pCall (fun Vs ks σ Q => one Vs ks fun a => bLenL a σ Q) (pCons (pVar 2) (pNil)) (kNil)) (pLit (.int 1))) (tru uLst (pItm iLst (pVar 2) (pNegI (pLit (.int 1)))))) (pEx (pMet nRef mApp (pVar 2) (pCons (pNew (pNil)) (pNil)) (kNil))) (pSkip)))) (pRet (pVar 2))))
set_option maxHeartbeats 4000000 in
theorem b_meant (F : Footing D) : SSs ⟨D, 0, scopeAt 25, ["items", "meant", "runs", "item"], true⟩ (bodyAt 25) (pb_meant) := by
  conv => arg 2; whnf
  exact rSeq (rAsg (rDic [[63], [45], [91], [93]] (rDCons [63] (by decide +kernel) (rTup (rCons (rBool) (rCons (rLst (rNil)) (rNil)))) (rDCons [45] (by decide +kernel) (rTup (rCons (rBool) (rCons (rLst (rNil)) (rNil)))) (rDCons [91] (by decide +kernel) (rTup (rCons (rBool) (rCons (rLst (rCons (rTup (rCons (rStr [34] (by decide +kernel)) (rCons (rStr [34] (by decide +kernel)) (rNil)))) (rCons (rTup (rCons (rStr [92] (by decide +kernel)) (rCons (rStr [92] (by decide +kernel)) (rNil)))) (rNil)))) (rNil)))) (rDCons [93] (by decide +kernel) (rTup (rCons (rBool) (rCons (rLst (rCons (rTup (rCons (rStr [39] (by decide +kernel)) (rCons (rStr [41] (by decide +kernel)) (rNil)))) (rNil))) (rNil)))) (rDNil)))))) (rAVar 1 rfl)) (rSeq (rAsg (rNew (rCons (rNew (rNil)) (rNil))) (rAVar 2 rfl)) (rSeq (rFor (rVar 0 rfl) (rAVar 3 rfl) (rLast (rIf (rCmp kNeS_ok (rVar 3 rfl) (rStr [42] (by decide +kernel))) (rLast (rEx (rMet mApp_ok (rItm iLst_ok (rVar 2 rfl) (rNegI (rInt))) (rCons (rMet mGet_ok (rVar 1 rfl) (rCons (rVar 3 rfl) (rCons (rTup (rCons (rBool) (rCons (rLst (rCons (rTup (rCons (rVar 3 rfl) (rCons (rVar 3 rfl) (rNil)))) (rNil))) (rNil)))) (rNil))) rKNil) (rNil)) rKNil))) (rLast (rIf (rOr (rCmp kEqI_ok (rBlt (bLenL_ok.ok fun _ => keep_builtin) rfl (by dsimp only; decide +kernel) (by decide +kernel) (rCons (rVar 2 rfl) (rNil)) rKNil) (rInt)) (rTru uLst_ok (rItm iLst_ok (rVar 2 rfl) (rNegI (rInt))))) (rLast (rEx (rMet mApp_ok (rVar 2 rfl) (rCons (rNew (rNil)) (rNil)) rKNil))) (rSkip)))))) (rLast (rRet (rVar 2 rfl)))))
noncomputable def pb_texts : PS := pSeq (pAsgT (pTup (pCons (pNew (pNil)) (pCons (pLit (.str [])) (pCons (pLit (.str [])) (pCons (pLit (.str [])) (pCons (pLit (.bool false)) (pNil))))))) [1, 2, 3, 4, 5]) (pSeq (pFor false (pVar 0) (aVar 6) (pIf (cmp2 kEqS (pVar 3) (pLit (.str []))) (pIf (cmp2 kIn (pVar 6) (pLit (.str [39, 34]))) (pAsgT (pTup (pCons (pVar 6) (pCons (pLit (.str [])) (pNil)))) [3, 4]) (pAug gAddS 2 (pVar 6))) (pIf (tru uBool (pVar 5)) (pSeq (pAug gAddS 4 (pMet nDic mGet (pDic [[92], [39], [116]] (pCons (pLit (.str [92])) (pCons (pLit (.str [39])) (pCons (pLit (.str [9])) (pNil))))) (pCons (pVar 6) (pCons (pLit (.str [10])) (pNil))) (kNil))) (pAsg (pLit (.bool false)) (aVar 5))) (pIf (cmp2 kEqS (pVar 6) (pLit (.str [92]))) (pAsg (pLit (.bool true)) (aVar 5)) (pIf (cmp2 kEqS (pVar 6) (pVar 3)) (pSeq (pEx (pMet nRef mApp (pVar 1) (pCons (pTup (pCons (pVar 3) (pCons (pVar 4) (pNil)))) (pNil)) (kNil))) (pAsgT (pTup (pCons (pLit (.str [])) (pCons (pAddS (pVar 2) (pLit (.str [46]))) (pNil)))) [3, 2])) (pAug gAddS 4 (pVar 6))))))) (pRet (pTup (pCons (pVar 1) (pCons (pVar 2) (pNil))))))
set_option maxHeartbeats 4000000 in
theorem b_texts (F : Footing D) : SSs ⟨D, 0, scopeAt 26, ["writing", "texts", "glue", "quote", "text", "held", "sign"], true⟩ (bodyAt 26) (pb_texts) := by
  conv => arg 2; whnf
  exact rSeq (rAsgT [1, 2, 3, 4, 5] rfl (rTup (rCons (rNew (rNil)) (rCons (rStr [] (by decide +kernel)) (rCons (rStr [] (by decide +kernel)) (rCons (rStr [] (by decide +kernel)) (rCons (rBool) (rNil)))))))) (rSeq (rFor (rVar 0 rfl) (rAVar 6 rfl) (rLast (rIf (rCmp kEqS_ok (rVar 3 rfl) (rStr [] (by decide +kernel))) (rLast (rIf (rCmp kIn_ok (rVar 6 rfl) (rStr [39, 34] (by decide +kernel))) (rLast (rAsgT [3, 4] rfl (rTup (rCons (rVar 6 rfl) (rCons (rStr [] (by decide +kernel)) (rNil)))))) (rLast (rAug gAddS_ok 2 rfl (rVar 6 rfl))))) (rLast (rIf (rTru uBool_ok (rVar 5 rfl)) (rSeq (rAug gAddS_ok 4 rfl (rMet mGet_ok (rDic [[92], [39], [116]] (rDCons [92] (by decide +kernel) (rStr [92] (by decide +kernel)) (rDCons [39] (by decide +kernel) (rStr [39] (by decide +kernel)) (rDCons [116] (by decide +kernel) (rStr [9] (by decide +kernel)) (rDNil))))) (rCons (rVar 6 rfl) (rCons (rStr [10] (by decide +kernel)) (rNil))) rKNil)) (rLast (rAsg (rBool) (rAVar 5 rfl)))) (rLast (rIf (rCmp kEqS_ok (rVar 6 rfl) (rStr [92] (by decide +kernel))) (rLast (rAsg (rBool) (rAVar 5 rfl))) (rLast (rIf (rCmp kEqS_ok (rVar 6 rfl) (rVar 3 rfl)) (rSeq (rEx (rMet mApp_ok (rVar 1 rfl) (rCons (rTup (rCons (rVar 3 rfl) (rCons (rVar 4 rfl) (rNil)))) (rNil)) rKNil)) (rLast (rAsgT [3, 2] rfl (rTup (rCons (rStr [] (by decide +kernel)) (rCons (rAddS (rVar 2 rfl) (rStr [46] (by decide +kernel))) (rNil))))))) (rLast (rAug gAddS_ok 4 rfl (rVar 6 rfl)))))))))))) (rLast (rRet (rTup (rCons (rVar 1 rfl) (rCons (rVar 2 rfl) (rNil)))))))
noncomputable def pb_bits : PS := pSeq (pAsgT (pTup (pCons (pNew (pNil)) (pCons (pLit (.str [])) (pCons (pLit (.bool false)) (pCons (pLit (.bool false)) (pNil)))))) [1, 2, 3, 4]) (pSeq (pFor false (pVar 0) (aVar 5) (pIf (tru uBool (pVar 4)) (pAsgT (pTup (pCons (pAddS (pVar 2) (pIfE (cmp2 kIn (pVar 5) (pLit (.str [34, 92]))) (pVar 5) (pLit (.str [13])))) (pCons (pLit (.bool false)) (pNil)))) [2, 4]) (pIf (tAnd (tru uBool (pVar 3)) (cmp2 kEqS (pVar 5) (pLit (.str [92])))) (pAsg (pLit (.bool true)) (aVar 4)) (pIf (cmp2 kEqS (pVar 5) (pLit (.str [34]))) (pAsgT (pTup (pCons (pAddS (pVar 2) (pLit (.str [10]))) (pCons (pNot uBool (pVar 3)) (pNil)))) [2, 3]) (pIf (tAnd (cmp2 kEqS (pVar 5) (pLit (.str [59]))) (tNot (tru uBool (pVar 3)))) (pSeq (pEx (pMet nRef mApp (pVar 1) (pCons (pVar 2) (pNil)) (kNil))) (pAsg (pLit (.str [])) (aVar 2))) (pAug gAddS 2 (pVar 5))))))) (pRet (pAddL (pVar 1) (pLst (pCons (pVar 2) (pNil))))))
set_option maxHeartbeats 4000000 in
theorem b_bits (F : Footing D) : SSs ⟨D, 0, scopeAt 27, ["value", "bits", "bit", "marked", "held", "sign"], true⟩ (bodyAt 27) (pb_bits) := by
  conv => arg 2; whnf
  exact rSeq (rAsgT [1, 2, 3, 4] rfl (rTup (rCons (rNew (rNil)) (rCons (rStr [] (by decide +kernel)) (rCons (rBool) (rCons (rBool) (rNil))))))) (rSeq (rFor (rVar 0 rfl) (rAVar 5 rfl) (rLast (rIf (rTru uBool_ok (rVar 4 rfl)) (rLast (rAsgT [2, 4] rfl (rTup (rCons (rAddS (rVar 2 rfl) (rIfE (rCmp kIn_ok (rVar 5 rfl) (rStr [34, 92] (by decide +kernel))) (rVar 5 rfl) (rStr [13] (by decide +kernel)))) (rCons (rBool) (rNil)))))) (rLast (rIf (rAnd (rTru uBool_ok (rVar 3 rfl)) (rCmp kEqS_ok (rVar 5 rfl) (rStr [92] (by decide +kernel)))) (rLast (rAsg (rBool) (rAVar 4 rfl))) (rLast (rIf (rCmp kEqS_ok (rVar 5 rfl) (rStr [34] (by decide +kernel))) (rLast (rAsgT [2, 3] rfl (rTup (rCons (rAddS (rVar 2 rfl) (rStr [10] (by decide +kernel))) (rCons (rNotV uBool_ok (rVar 3 rfl)) (rNil)))))) (rLast (rIf (rAnd (rCmp kEqS_ok (rVar 5 rfl) (rStr [59] (by decide +kernel))) (rNot (rTru uBool_ok (rVar 3 rfl)))) (rSeq (rEx (rMet mApp_ok (rVar 1 rfl) (rCons (rVar 2 rfl) (rNil)) rKNil)) (rLast (rAsg (rStr [] (by decide +kernel)) (rAVar 2 rfl)))) (rLast (rAug gAddS_ok 2 rfl (rVar 5 rfl)))))))))))) (rLast (rRet (rAddL (rVar 1 rfl) (rLst (rCons (rVar 2 rfl) (rNil)))))))
noncomputable def pb_members : PS := pSeq (pAsgT (pTup (pCons (pNew (pNil)) (pCons (pLit (.int 0)) (pNil)))) [1, 2]) (pSeq (pWhile (cmp2 kLt (pVar 2) (pCall (fun Vs ks σ Q => one Vs ks fun a => bLenS a σ Q) (pCons (pVar 0) (pNil)) (kNil))) (pSeq (pIf (cmp2 kEqS (pItm iStr (pVar 0) (pVar 2)) (pLit (.str [92]))) (pAug gAddI 2 (pLit (.int 1))) (pSkip)) (pSeq (pAsg2 (pSlc sStr (pVar 0) (oE (pVar 2)) (oE (pAddI (pVar 2) (pLit (.int 1))))) (aVar 3) (aVar 4)) (pSeq (pAug gAddI 2 (pLit (.int 1))) (pSeq (pIf (cmp2 kEqS (pSlc sStr (pVar 0) (oE (pVar 2)) (oE (pAddI (pVar 2) (pLit (.int 1))))) (pLit (.str [45]))) (pSeq (pAsg (pSlc sStr (pVar 0) (oE (pAddI (pVar 2) (pLit (.int 1)))) (oE (pAddI (pVar 2) (pLit (.int 2))))) (aVar 4)) (pAug gAddI 2 (pLit (.int 2)))) (pSkip)) (pEx (pMet nRef mApp (pVar 1) (pCons (pTup (pCons (pVar 3) (pCons (pVar 4) (pNil)))) (pNil)) (kNil)))))))) (pRet (pVar 1)))
set_option maxHeartbeats 4000000 in
theorem b_members (F : Footing D) : SSs ⟨D, 0, scopeAt 28, ["inside", "spans", "at", "low", "high"], true⟩ (bodyAt 28) (pb_members) := by
  conv => arg 2; whnf
  exact rSeq (rAsgT [1, 2] rfl (rTup (rCons (rNew (rNil)) (rCons (rInt) (rNil))))) (rSeq (rWhile (rCmp kLt_ok (rVar 2 rfl) (rBlt (bLenS_ok.ok fun _ => keep_builtin) rfl (by dsimp only; decide +kernel) (by decide +kernel) (rCons (rVar 0 rfl) (rNil)) rKNil)) (rSeq (rIf (rCmp kEqS_ok (rItm iStr_ok (rVar 0 rfl) (rVar 2 rfl)) (rStr [92] (by decide +kernel))) (rLast (rAug gAddI_ok 2 rfl (rInt))) (rSkip)) (rSeq (rAsg2 (rSlc sStr_ok (rVar 0 rfl) (rSome (rVar 2 rfl)) (rSome (rAddI (rVar 2 rfl) (rInt)))) (rAVar 3 rfl) (rAVar 4 rfl)) (rSeq (rAug gAddI_ok 2 rfl (rInt)) (rSeq (rIf (rCmp kEqS_ok (rSlc sStr_ok (rVar 0 rfl) (rSome (rVar 2 rfl)) (rSome (rAddI (rVar 2 rfl) (rInt)))) (rStr [45] (by decide +kernel))) (rSeq (rAsg (rSlc sStr_ok (rVar 0 rfl) (rSome (rAddI (rVar 2 rfl) (rInt))) (rSome (rAddI (rVar 2 rfl) (rInt)))) (rAVar 4 rfl)) (rLast (rAug gAddI_ok 2 rfl (rInt)))) (rSkip)) (rLast (rEx (rMet mApp_ok (rVar 1 rfl) (rCons (rTup (rCons (rVar 3 rfl) (rCons (rVar 4 rfl) (rNil)))) (rNil)) rKNil)))))))) (rLast (rRet (rVar 1 rfl))))
noncomputable def pb_atoms (D : GD) : PS := pSeq (pAsgT (pTup (pCons (pNew (pNil)) (pCons (pLit (.int 0)) (pNil)))) [1, 2]) (pSeq (pWhile (cmp2 kLt (pVar 2) (pCall (fun Vs ks σ Q => one Vs ks fun a => bLenS a σ Q) (pCons (pVar 0) (pNil)) (kNil))) (pSeq (pAsg (pVar 2) (aVar 3)) (pSeq (pIf (cmp2 kEqS (pItm iStr (pVar 0) (pVar 2)) (pLit (.str [91]))) (pSeq (pAsg (pMet nStr mFind (pVar 0) (pCons (pLit (.str [93])) (pCons (pAddI (pVar 2) (pLit (.int 2))) (pNil))) (kNil)) (aVar 3)) (pSeq (pIf (cmp2 kLt (pVar 3) (pLit (.int 0))) (pRet (pLit .none)) (pSkip)) (pSeq (pAsg (pB (cmp2 kEqS (pItm iStr (pVar 0) (pAddI (pVar 2) (pLit (.int 1)))) (pLit (.str [94])))) (aVar 4)) (pEx (pMet nRef mApp (pVar 1) (pCons (pTup (pCons (pVar 4) (pCons (pCall (cFn D 1 .members) (pCons (pSlc sStr (pVar 0) (oE (pIfE (tru uBool (pVar 4)) (pAddI (pVar 2) (pLit (.int 2))) (pAddI (pVar 2) (pLit (.int 1))))) (oE (pVar 3))) (pNil)) (kNil)) (pNil)))) (pNil)) (kNil)))))) (pIf (cmp2 kEqS (pSlc sStr (pVar 0) (oE (pVar 2)) (oE (pAddI (pVar 2) (pLit (.int 4))))) (pLit (.str [40, 63, 33, 41]))) (pSeq (pAsg (pAddI (pVar 2) (pLit (.int 3))) (aVar 3)) (pEx (pMet nRef mApp (pVar 1) (pCons (pTup (pCons (pLit (.bool false)) (pCons (pLst (pNil)) (pNil)))) (pNil)) (kNil)))) (pIf (cmp2 kEqS (pItm iStr (pVar 0) (pVar 2)) (pLit (.str [46]))) (pEx (pMet nRef mApp (pVar 1) (pCons (pTup (pCons (pLit (.bool true)) (pCons (pLst (pNil)) (pNil)))) (pNil)) (kNil))) (pIf (cmp2 kIn (pItm iStr (pVar 0) (pVar 2)) (pLit (.str [40, 41, 42, 43, 63, 123, 125, 124, 94, 36]))) (pRet (pLit .none)) (pSeq (pAsg (pIfE (cmp2 kEqS (pItm iStr (pVar 0) (pVar 2)) (pLit (.str [92]))) (pAddI (pVar 2) (pLit (.int 1))) (pVar 2)) (aVar 3)) (pEx (pMet nRef mApp (pVar 1) (pCons (pTup (pCons (pLit (.bool false)) (pCons (pLst (pCons (pTup (pCons (pSlc sStr (pVar 0) (oE (pVar 3)) (oE (pAddI (pVar 3) (pLit (.int 1))))) (pCons (pSlc sStr (pVar 0) (oE (pVar 3)) (oE (pAddI (pVar 3) (pLit (.int 1))))) (pNil)))) (pNil))) (pNil)))) (pNil)) (kNil)))))))) (pAsg (pAddI (pVar 3) (pLit (.int 1))) (aVar 2))))) (pRet (pVar 1)))
set_option maxHeartbeats 4000000 in
theorem b_atoms (F : Footing D) : SSs ⟨D, 1, scopeAt 29, ["run", "atoms", "at", "to", "barred"], true⟩ (bodyAt 29) (pb_atoms D) := by
  conv => arg 2; whnf
  exact rSeq (rAsgT [1, 2] rfl (rTup (rCons (rNew (rNil)) (rCons (rInt) (rNil))))) (rSeq (rWhile (rCmp kLt_ok (rVar 2 rfl) (rBlt (bLenS_ok.ok fun _ => keep_builtin) rfl (by dsimp only; decide +kernel) (by decide +kernel) (rCons (rVar 0 rfl) (rNil)) rKNil)) (rSeq (rAsg (rVar 2 rfl) (rAVar 3 rfl)) (rSeq (rIf (rCmp kEqS_ok (rItm iStr_ok (rVar 0 rfl) (rVar 2 rfl)) (rStr [91] (by decide +kernel))) (rSeq (rAsg (rMet mFind_ok (rVar 0 rfl) (rCons (rStr [93] (by decide +kernel)) (rCons (rAddI (rVar 2 rfl) (rInt)) (rNil))) rKNil) (rAVar 3 rfl)) (rSeq (rIf (rCmp kLt_ok (rVar 3 rfl) (rInt)) (rLast (rRet (rNone))) (rSkip)) (rSeq (rAsg (rCmpV kEqS_ok (rItm iStr_ok (rVar 0 rfl) (rAddI (rVar 2 rfl) (rInt))) (rStr [94] (by decide +kernel))) (rAVar 4 rfl)) (rLast (rEx (rMet mApp_ok (rVar 1 rfl) (rCons (rTup (rCons (rVar 4 rfl) (rCons (rFn (h := 1) (g := .members) (Nat.le_of_ble_eq_true rfl) rfl rfl (by dsimp only; decide +kernel) (by decide +kernel) (rCons (rSlc sStr_ok (rVar 0 rfl) (rSome (rIfE (rTru uBool_ok (rVar 4 rfl)) (rAddI (rVar 2 rfl) (rInt)) (rAddI (rVar 2 rfl) (rInt)))) (rSome (rVar 3 rfl))) (rNil)) (rKNil)) (rNil)))) (rNil)) rKNil)))))) (rLast (rIf (rCmp kEqS_ok (rSlc sStr_ok (rVar 0 rfl) (rSome (rVar 2 rfl)) (rSome (rAddI (rVar 2 rfl) (rInt)))) (rStr [40, 63, 33, 41] (by decide +kernel))) (rSeq (rAsg (rAddI (rVar 2 rfl) (rInt)) (rAVar 3 rfl)) (rLast (rEx (rMet mApp_ok (rVar 1 rfl) (rCons (rTup (rCons (rBool) (rCons (rLst (rNil)) (rNil)))) (rNil)) rKNil)))) (rLast (rIf (rCmp kEqS_ok (rItm iStr_ok (rVar 0 rfl) (rVar 2 rfl)) (rStr [46] (by decide +kernel))) (rLast (rEx (rMet mApp_ok (rVar 1 rfl) (rCons (rTup (rCons (rBool) (rCons (rLst (rNil)) (rNil)))) (rNil)) rKNil))) (rLast (rIf (rCmp kIn_ok (rItm iStr_ok (rVar 0 rfl) (rVar 2 rfl)) (rStr [40, 41, 42, 43, 63, 123, 125, 124, 94, 36] (by decide +kernel))) (rLast (rRet (rNone))) (rSeq (rAsg (rIfE (rCmp kEqS_ok (rItm iStr_ok (rVar 0 rfl) (rVar 2 rfl)) (rStr [92] (by decide +kernel))) (rAddI (rVar 2 rfl) (rInt)) (rVar 2 rfl)) (rAVar 3 rfl)) (rLast (rEx (rMet mApp_ok (rVar 1 rfl) (rCons (rTup (rCons (rBool) (rCons (rLst (rCons (rTup (rCons (rSlc sStr_ok (rVar 0 rfl) (rSome (rVar 3 rfl)) (rSome (rAddI (rVar 3 rfl) (rInt)))) (rCons (rSlc sStr_ok (rVar 0 rfl) (rSome (rVar 3 rfl)) (rSome (rAddI (rVar 3 rfl) (rInt)))) (rNil)))) (rNil))) (rNil)))) (rNil)) rKNil))))))))))) (rLast (rAsg (rAddI (rVar 3 rfl) (rInt)) (rAVar 2 rfl)))))) (rLast (rRet (rVar 1 rfl))))
noncomputable def pb_home (D : GD) : PS := pSeq (pIf (tOr (cmp2 kNeS (pSlc sStr (pVar 0) (oNo) (oE (pLit (.int 4)))) (pLit (.str [40, 63, 115, 58]))) (cmp2 kNeS (pSlc sStr (pVar 0) (oE (pNegI (pLit (.int 3)))) (oNo)) (pLit (.str [41, 92, 90])))) (pRet (pLit .none)) (pSkip)) (pSeq (pAsg (pMet nStr mRpart (pSlc sStr (pVar 0) (oE (pLit (.int 4))) (oE (pNegI (pLit (.int 3))))) (pCons (pLit (.str [46, 42])) (pNil)) (kNil)) (aTup [1, 2, 3])) (pSeq (pIf (cmp2 kEqS (pVar 2) (pLit (.str []))) (pRet (pLst (pCons (pCall (cFn D 2 .atoms) (pCons (pVar 3) (pNil)) (kNil)) (pNil)))) (pSkip)) (pSeq (pAsg (pMet nStr mSplit (pVar 1) (pCons (pLit (.str [40, 63, 62, 46, 42, 63])) (pNil)) (kNil)) (aVar 4)) (pSeq (pIf (tru uLst (pComp false [none] (pSlc sLst (pVar 4) (oE (pLit (.int 1))) (oNo)) (lc1 (aVar 0) (cmp2 kNeS (pSlc sStr (pVar 0) (oE (pNegI (pLit (.int 1)))) (oNo)) (pLit (.str [41]))) (pVar 0)))) (pRet (pLit .none)) (pSkip)) (pRet (pComp false [none] (pAddL (pAddL (pSlc sLst (pVar 4) (oNo) (oE (pLit (.int 1)))) (pComp false [none] (pSlc sLst (pVar 4) (oE (pLit (.int 1))) (oNo)) (lc0 (aVar 0) (pSlc sStr (pVar 0) (oNo) (oE (pNegI (pLit (.int 1)))))))) (pLst (pCons (pVar 3) (pNil)))) (lc0 (aVar 0) (pCall (cFn D 2 .atoms) (pCons (pVar 0) (pNil)) (kNil)))))))))
set_option maxHeartbeats 4000000 in
theorem b_home (F : Footing D) : SSs ⟨D, 2, scopeAt 30, ["regex", "ahead", "star", "last", "groups"], true⟩ (bodyAt 30) (pb_home D) := by
  conv => arg 2; whnf
  exact rSeq (rIf (rOr (rCmp kNeS_ok (rSlc sStr_ok (rVar 0 rfl) (rNo) (rSome (rInt))) (rStr [40, 63, 115, 58] (by decide +kernel))) (rCmp kNeS_ok (rSlc sStr_ok (rVar 0 rfl) (rSome (rNegI (rInt))) (rNo)) (rStr [41, 92, 90] (by decide +kernel)))) (rLast (rRet (rNone))) (rSkip)) (rSeq (rAsg (rMet mRpart_ok (rSlc sStr_ok (rVar 0 rfl) (rSome (rInt)) (rSome (rNegI (rInt)))) (rCons (rStr [46, 42] (by decide +kernel)) (rNil)) rKNil) (rATup [1, 2, 3] rfl)) (rSeq (rIf (rCmp kEqS_ok (rVar 2 rfl) (rStr [] (by decide +kernel))) (rLast (rRet (rLst (rCons (rFn (h := 2) (g := .atoms) (Nat.le_of_ble_eq_true rfl) rfl rfl (by dsimp only; decide +kernel) (by decide +kernel) (rCons (rVar 3 rfl) (rNil)) (rKNil)) (rNil))))) (rSkip)) (rSeq (rAsg (rMet mSplit_ok (rVar 1 rfl) (rCons (rStr [40, 63, 62, 46, 42, 63] (by decide +kernel)) (rNil)) rKNil) (rAVar 4 rfl)) (rSeq (rIf (rTru uLst_ok (rComp false [none] ["group"] (by dsimp only; decide +kernel) (rSlc sLst_ok (rVar 4 rfl) (rSome (rInt)) (rNo)) (rLc1 (rAVar' 0 rfl (by dsimp only; decide +kernel)) (rCmp kNeS_ok (rSlc sStr_ok (rVar 0 rfl) (rSome (rNegI (rInt))) (rNo)) (rStr [41] (by decide +kernel))) (rVar 0 rfl)))) (rLast (rRet (rNone))) (rSkip)) (rLast (rRet (rComp false [none] ["run"] (by dsimp only; decide +kernel) (rAddL (rAddL (rSlc sLst_ok (rVar 4 rfl) (rNo) (rSome (rInt))) (rComp false [none] ["group"] (by dsimp only; decide +kernel) (rSlc sLst_ok (rVar 4 rfl) (rSome (rInt)) (rNo)) (rLc0 (rAVar' 0 rfl (by dsimp only; decide +kernel)) (rSlc sStr_ok (rVar 0 rfl) (rNo) (rSome (rNegI (rInt))))))) (rLst (rCons (rVar 3 rfl) (rNil)))) (rLc0 (rAVar' 0 rfl (by dsimp only; decide +kernel)) (rFn (h := 2) (g := .atoms) (Nat.le_of_ble_eq_true rfl) rfl rfl (by dsimp only; decide +kernel) (by decide +kernel) (rCons (rVar 0 rfl) (rNil)) (rKNil))))))))))
end

section
open PySem PySem.Calls PyProof.Rows PySem.W
variable {D : GD}
noncomputable def pb_header (D : GD) : PS := pSeq (pAsg (pVar 0) (aTup [3, 4, 5, 6])) (pSeq (pAsg (pCall (cFn D 1 .bits) (pCons (pVar 2) (pNil)) (kNil)) (aVar 7)) (pSeq (pAsg (pIfE (cmp2 kIs (pVar 4) (pLit .none)) (pLit (.int 0)) (pLit (.int 1))) (aVar 8)) (pSeq (pIf (tOr (cmp2 kNeS (pVar 1) (pVar 3)) (cmp2 kNeI (pCall (fun Vs ks σ Q => one Vs ks fun a => bLenL a σ Q) (pCons (pVar 7) (pNil)) (kNil)) (pAddI (pVar 8) (pIfE (tru uBool (pVar 5)) (pLit (.int 2)) (pLit (.int 1)))))) (pRet (pLit (.bool false))) (pSkip)) (pSeq (pAsg (pMet nStr mSplit (pItm iLst (pVar 7) (pVar 8)) (pCons (pLit (.str [10])) (pNil)) (kNil)) (aVar 9)) (pSeq (pIf (tOr (cmp2 kNeI (pCall (fun Vs ks σ Q => one Vs ks fun a => bLenL a σ Q) (pCons (pVar 9) (pNil)) (kNil)) (pLit (.int 3))) (cmp2 kNeD (pCall (cFn D 3 .home) (pCons (pItm iLst (pVar 9) (pLit (.int 1))) (pNil)) (kNil)) (pCall (cFn D 1 .meant) (pCons (pVar 6) (pNil)) (kNil)))) (pRet (pLit (.bool false))) (pSkip)) (pSeq (pAsg (pAddL (pAddL (pIfE (cmp2 kIs (pVar 4) (pLit .none)) (pLst (pNil)) (pLst (pCons (pVar 4) (pNil)))) (pLst (pCons (pAddS (pAddS (pLit (.str [112, 45, 48, 61, 10])) (pItm iLst (pVar 9) (pLit (.int 1)))) (pLit (.str [10]))) (pNil)))) (pIfE (tru uBool (pVar 5)) (pLst (pCons (pLit (.str [113, 45])) (pNil))) (pLst (pNil)))) (aVar 10)) (pRet (pB (cmp2 kEqD (pVar 7) (pAddL (pSlc sLst (pVar 10) (oNo) (oE (pLit (.int 1)))) (pComp false [none] (pSlc sLst (pVar 10) (oE (pLit (.int 1))) (oNo)) (lc0 (aVar 0) (pAddS (pLit (.str [32])) (pVar 0))))))))))))))
set_option maxHeartbeats 4000000 in
theorem b_header (F : Footing D) : SSs ⟨D, 3, scopeAt 31, ["drawn", "name", "value", "told", "own", "bare", "items", "bits", "at", "inside", "due"], true⟩ (bodyAt 31) (pb_header D) := by
  conv => arg 2; whnf
  exact rSeq (rAsg (rVar 0 rfl) (rATup [3, 4, 5, 6] rfl)) (rSeq (rAsg (rFn (h := 1) (g := .bits) (Nat.le_of_ble_eq_true rfl) rfl rfl (by dsimp only; decide +kernel) (by decide +kernel) (rCons (rVar 2 rfl) (rNil)) (rKNil)) (rAVar 7 rfl)) (rSeq (rAsg (rIfE (rCmp kIs_ok (rVar 4 rfl) (rNone)) (rInt) (rInt)) (rAVar 8 rfl)) (rSeq (rIf (rOr (rCmp kNeS_ok (rVar 1 rfl) (rVar 3 rfl)) (rCmp kNeI_ok (rBlt (bLenL_ok.ok fun _ => keep_builtin) rfl (by dsimp only; decide +kernel) (by decide +kernel) (rCons (rVar 7 rfl) (rNil)) rKNil) (rAddI (rVar 8 rfl) (rIfE (rTru uBool_ok (rVar 5 rfl)) (rInt) (rInt))))) (rLast (rRet (rBool))) (rSkip)) (rSeq (rAsg (rMet mSplit_ok (rItm iLst_ok (rVar 7 rfl) (rVar 8 rfl)) (rCons (rStr [10] (by decide +kernel)) (rNil)) rKNil) (rAVar 9 rfl)) (rSeq (rIf (rOr (rCmp kNeI_ok (rBlt (bLenL_ok.ok fun _ => keep_builtin) rfl (by dsimp only; decide +kernel) (by decide +kernel) (rCons (rVar 9 rfl) (rNil)) rKNil) (rInt)) (rCmp kNeD_ok (rFn (h := 3) (g := .home) (Nat.le_of_ble_eq_true rfl) rfl rfl (by dsimp only; decide +kernel) (by decide +kernel) (rCons (rItm iLst_ok (rVar 9 rfl) (rInt)) (rNil)) (rKNil)) (rFn (h := 1) (g := .meant) (Nat.le_of_ble_eq_true rfl) rfl rfl (by dsimp only; decide +kernel) (by decide +kernel) (rCons (rVar 6 rfl) (rNil)) (rKNil)))) (rLast (rRet (rBool))) (rSkip)) (rSeq (rAsg (rAddL (rAddL (rIfE (rCmp kIs_ok (rVar 4 rfl) (rNone)) (rLst (rNil)) (rLst (rCons (rVar 4 rfl) (rNil)))) (rLst (rCons (rAddS (rAddS (rStr [112, 45, 48, 61, 10] (by decide +kernel)) (rItm iLst_ok (rVar 9 rfl) (rInt))) (rStr [10] (by decide +kernel))) (rNil)))) (rIfE (rTru uBool_ok (rVar 5 rfl)) (rLst (rCons (rStr [113, 45] (by decide +kernel)) (rNil))) (rLst (rNil)))) (rAVar 10 rfl)) (rLast (rRet (rCmpV kEqD_ok (rVar 7 rfl) (rAddL (rSlc sLst_ok (rVar 10 rfl) (rNo) (rSome (rInt))) (rComp false [none] ["part"] (by dsimp only; decide +kernel) (rSlc sLst_ok (rVar 10 rfl) (rSome (rInt)) (rNo)) (rLc0 (rAVar' 0 rfl (by dsimp only; decide +kernel)) (rAddS (rStr [32] (by decide +kernel)) (rVar 0 rfl))))))))))))))
noncomputable def pb_writing (D : GD) : PS := pSeq (pAsg (pCall (cFn D 3 .safeRepr) (pCons (pVar 0) (pNil)) (kNil)) (aVar 2)) (pSeq (pAsg (pCall (cFn D 1 .texts) (pCons (pVar 2) (pNil)) (kNil)) (aTup [3, 4])) (pSeq (pIf (cmp2 kNeS (pVar 4) (pAddS (pAddS (pLit (.str [72, 101, 97, 100, 101, 114, 115, 40, 91])) (pMet nStr mJoin (pLit (.str [44, 32])) (pCons (pComp false [none] (pVar 1) (lc0 (aVar 0) (pLit (.str [40, 46, 44, 32, 46, 41])))) (pNil)) (kNil))) (pLit (.str [93, 41])))) (pRet (pLit (.bool false))) (pSkip)) (pSeq (pFor true (pVar 3) (aTup [5, 6]) (pIf (cmp2 kNeS (pVar 5) (pIfE (tAnd (cmp2 kIn (pLit (.str [39])) (pVar 6)) (cmp2 kNotIn (pLit (.str [34])) (pVar 6))) (pLit (.str [34])) (pLit (.str [39])))) (pRet (pLit (.bool false))) (pSkip))) (pSeq (pAsg (pComp false [none, some 3] (pCall (fun Vs ks σ Q => one Vs ks fun a => bRng1 a σ Q) (pCons (pCall (fun Vs ks σ Q => one Vs ks fun a => bLenL a σ Q) (pCons (pVar 1) (pNil)) (kNil)) (pNil)) (kNil)) (lc0 (aVar 0) (pTup (pCons (pItm iTup (pItm iLst (pVar 1) (pMulI (pLit (.int 2)) (pVar 0))) (pLit (.int 1))) (pCons (pItm iTup (pItm iLst (pVar 1) (pAddI (pMulI (pLit (.int 2)) (pVar 0)) (pLit (.int 1)))) (pLit (.int 1))) (pNil)))))) (aVar 8)) (pSeq (pAsg (pAddS (pMet nStr mJoin (pLit (.str [])) (pCons (pComp false [none, none] (pVar 8) (lc0 (aTup [0, 1]) (pAddS (pAddS (pAddS (pVar 0) (pLit (.str [58, 32]))) (pVar 1)) (pLit (.str [13, 10]))))) (pNil)) (kNil)) (pLit (.str [13, 10]))) (aVar 9)) (pSeq (pIf (tOr (cmp2 kNeD (pMet nHdr (mH D 1 .hItems) (pVar 0) (pNil) (kNil)) (pVar 8)) (cmp2 kNeS (pCall (fun Vs ks σ Q => one Vs ks fun a => bStrH D 1 a σ Q) (pCons (pVar 0) (pNil)) (kNil)) (pVar 9))) (pRet (pLit (.bool false))) (pSkip)) (pSeq (pFor false (pCall (fun Vs ks σ Q => one Vs ks fun a => bRng1 a σ Q) (pCons (pCall (fun Vs ks σ Q => one Vs ks fun a => bLenL a σ Q) (pCons (pVar 1) (pNil)) (kNil)) (pNil)) (kNil)) (aVar 7) (pIf (tNot (tru uBool (pCall (cFn D 4 .header) (pCons (pItm iLst (pVar 1) (pVar 7)) (pCons (pItm iTup (pItm iLst (pVar 8) (pVar 7)) (pLit (.int 0))) (pCons (pItm iTup (pItm iLst (pVar 8) (pVar 7)) (pLit (.int 1))) (pNil)))) (kNil)))) (pRet (pLit (.bool false))) (pSkip))) (pSeq (pAsg (pIfE (cmp2 kLt (pCall (fun Vs ks σ Q => one Vs ks fun a => bLenS a σ Q) (pCons (pVar 2) (pNil)) (kNil)) (pLit (.int 80))) (pVar 2) (pAddS (pSlc sStr (pVar 2) (oNo) (oE (pLit (.int 80)))) (pLit (.str [32, 91, 116, 114, 117, 110, 99, 97, 116, 101, 100, 93, 46, 46, 46])))) (aVar 10)) (pSeq (pAsg (pAddS (pAddS (pLit (.str [72, 101, 97, 100, 101, 114, 115, 40, 91, 91])) (pCall (fun Vs ks σ Q => one Vs ks fun a => bStrI a σ Q) (pCons (pSubI (pCall (fun Vs ks σ Q => one Vs ks fun a => bLenS a σ Q) (pCons (pVar 2) (pNil)) (kNil)) (pLit (.int 11))) (pNil)) (kNil))) (pLit (.str [32, 99, 104, 97, 114, 115, 93, 93, 41]))) (aVar 11)) (pSeq (pAsg (pCall (fun Vs ks σ Q => one Vs ks fun a => bLenS a σ Q) (pCons (pVar 2) (pNil)) (kNil)) (aVar 12)) (pSeq (pIf (tOr (cmp2 kNeS (pCall (cFn D 1 .shorten) (pCons (pVar 2) (pCons (pSubI (pVar 12) (pLit (.int 14))) (pCons (pLit (.int 2)) (pNil)))) (kNil)) (pVar 2)) (cmp2 kNeS (pCall (cFn D 1 .shorten) (pCons (pVar 2) (pCons (pSubI (pVar 12) (pLit (.int 15))) (pCons (pLit (.int 2)) (pNil)))) (kNil)) (pAddS (pSlc sStr (pVar 2) (oNo) (oE (pSubI (pVar 12) (pLit (.int 15))))) (pLit (.str [91, 49, 51, 32, 99, 104, 97, 114, 115, 93, 93, 41]))))) (pRet (pLit (.bool false))) (pSkip)) (pRet (pAnd (pB (cmp2 kEqS (pCall (cFn D 3 .safeRepr) (pCons (pVar 0) (pCons (pLit (.bool true)) (pNil))) (kNil)) (pVar 10))) (pB (cmp2 kEqS (pCall (cFn D 1 .shorten) (pCons (pVar 2) (pCons (pLit (.int 9)) (pCons (pLit (.int 2)) (pNil)))) (kNil)) (pVar 11))))))))))))))))
set_option maxHeartbeats 4000000 in
theorem b_writing (F : Footing D) : SSs ⟨D, 4, scopeAt 32, ["table", "drawn", "writing", "texts", "glue", "quote", "text", "k", "pairs", "line", "short", "between", "many"], true⟩ (bodyAt 32) (pb_writing D) := by
  conv => arg 2; whnf
  exact rSeq (rAsg (rFn (h := 3) (g := .safeRepr) (Nat.le_of_ble_eq_true rfl) rfl rfl (by dsimp only; decide +kernel) (by decide +kernel) (rCons (rVar 0 rfl) (rNil)) (rKNil)) (rAVar 2 rfl)) (rSeq (rAsg (rFn (h := 1) (g := .texts) (Nat.le_of_ble_eq_true rfl) rfl rfl (by dsimp only; decide +kernel) (by decide +kernel) (rCons (rVar 2 rfl) (rNil)) (rKNil)) (rATup [3, 4] rfl)) (rSeq (rIf (rCmp kNeS_ok (rVar 4 rfl) (rAddS (rAddS (rStr [72, 101, 97, 100, 101, 114, 115, 40, 91] (by decide +kernel)) (rMet mJoin_ok (rStr [44, 32] (by decide +kernel)) (rCons (rComp false [none] ["one"] (by dsimp only; decide +kernel) (rVar 1 rfl) (rLc0 (rAVar' 0 rfl (by dsimp only; decide +kernel)) (rStr [40, 46, 44, 32, 46, 41] (by decide +kernel)))) (rNil)) rKNil)) (rStr [93, 41] (by decide +kernel)))) (rLast (rRet (rBool))) (rSkip)) (rSeq (rFor (rVar 3 rfl) (rATup [5, 6] rfl) (rLast (rIf (rCmp kNeS_ok (rVar 5 rfl) (rIfE (rAnd (rCmp kIn_ok (rStr [39] (by decide +kernel)) (rVar 6 rfl)) (rCmp kNotIn_ok (rStr [34] (by decide +kernel)) (rVar 6 rfl))) (rStr [34] (by decide +kernel)) (rStr [39] (by decide +kernel)))) (rLast (rRet (rBool))) (rSkip)))) (rSeq (rAsgC false [none, some 3] ["k", "texts"] (by dsimp only; decide +kernel) (rBlt (bRng1_ok.ok fun _ => keep_type) rfl (by dsimp only; decide +kernel) (by decide +kernel) (rCons (rBlt (bLenL_ok.ok fun _ => keep_builtin) rfl (by dsimp only; decide +kernel) (by decide +kernel) (rCons (rVar 1 rfl) (rNil)) rKNil) (rNil)) rKNil) (rLc0 (rAVar' 0 rfl (by dsimp only; decide +kernel)) (rTup (rCons (rItm iTup_ok (rItm iLst_ok (rVar 1 rfl) (rMulI (rInt) (rVar 0 rfl))) (rInt)) (rCons (rItm iTup_ok (rItm iLst_ok (rVar 1 rfl) (rAddI (rMulI (rInt) (rVar 0 rfl)) (rInt))) (rInt)) (rNil))))) (rAVar 8 rfl)) (rSeq (rAsg (rAddS (rMet mJoin_ok (rStr [] (by decide +kernel)) (rCons (rComp false [none, none] ["name", "value"] (by dsimp only; decide +kernel) (rVar 8 rfl) (rLc0 (rATup' [0, 1] rfl rfl (by dsimp only; decide +kernel)) (rAddS (rAddS (rAddS (rVar 0 rfl) (rStr [58, 32] (by decide +kernel))) (rVar 1 rfl)) (rStr [13, 10] (by decide +kernel))))) (rNil)) rKNil) (rStr [13, 10] (by decide +kernel))) (rAVar 9 rfl)) (rSeq (rIf (rOr (rCmp kNeD_ok (rMet (mH_ok F.hdr (h := 1) (g := .hItems) (.inr (.inr rfl)) (Nat.le_of_ble_eq_true rfl)) (rVar 0 rfl) (rNil) (rKNil)) (rVar 8 rfl)) (rCmp kNeS_ok (rBlt ((bStrH_ok F.hdr (Nat.le_of_ble_eq_true rfl)).ok fun _ => keep_type) rfl (by dsimp only; decide +kernel) (by decide +kernel) (rCons (rVar 0 rfl) (rNil)) rKNil) (rVar 9 rfl))) (rLast (rRet (rBool))) (rSkip)) (rSeq (rFor (rBlt (bRng1_ok.ok fun _ => keep_type) rfl (by dsimp only; decide +kernel) (by decide +kernel) (rCons (rBlt (bLenL_ok.ok fun _ => keep_builtin) rfl (by dsimp only; decide +kernel) (by decide +kernel) (rCons (rVar 1 rfl) (rNil)) rKNil) (rNil)) rKNil) (rAVar 7 rfl) (rLast (rIf (rNot (rTru uBool_ok (rFn (h := 4) (g := .header) (Nat.le_of_ble_eq_true rfl) rfl rfl (by dsimp only; decide +kernel) (by decide +kernel) (rCons (rItm iLst_ok (rVar 1 rfl) (rVar 7 rfl)) (rCons (rItm iTup_ok (rItm iLst_ok (rVar 8 rfl) (rVar 7 rfl)) (rInt)) (rCons (rItm iTup_ok (rItm iLst_ok (rVar 8 rfl) (rVar 7 rfl)) (rInt)) (rNil)))) (rKNil)))) (rLast (rRet (rBool))) (rSkip)))) (rSeq (rAsg (rIfE (rCmp kLt_ok (rBlt (bLenS_ok.ok fun _ => keep_builtin) rfl (by dsimp only; decide +kernel) (by decide +kernel) (rCons (rVar 2 rfl) (rNil)) rKNil) (rInt)) (rVar 2 rfl) (rAddS (rSlc sStr_ok (rVar 2 rfl) (rNo) (rSome (rInt))) (rStr [32, 91, 116, 114, 117, 110, 99, 97, 116, 101, 100, 93, 46, 46, 46] (by decide +kernel)))) (rAVar 10 rfl)) (rSeq (rAsg (rAddS (rAddS (rStr [72, 101, 97, 100, 101, 114, 115, 40, 91, 91] (by decide +kernel)) (rBlt (bStrI_ok.ok fun _ => keep_type) rfl (by dsimp only; decide +kernel) (by decide +kernel) (rCons (rSubI (rBlt (bLenS_ok.ok fun _ => keep_builtin) rfl (by dsimp only; decide +kernel) (by decide +kernel) (rCons (rVar 2 rfl) (rNil)) rKNil) (rInt)) (rNil)) rKNil)) (rStr [32, 99, 104, 97, 114, 115, 93, 93, 41] (by decide +kernel))) (rAVar 11 rfl)) (rSeq (rAsg (rBlt (bLenS_ok.ok fun _ => keep_builtin) rfl (by dsimp only; decide +kernel) (by decide +kernel) (rCons (rVar 2 rfl) (rNil)) rKNil) (rAVar 12 rfl)) (rSeq (rIf (rOr (rCmp kNeS_ok (rFn (h := 1) (g := .shorten) (Nat.le_of_ble_eq_true rfl) rfl rfl (by dsimp only; decide +kernel) (by decide +kernel) (rCons (rVar 2 rfl) (rCons (rSubI (rVar 12 rfl) (rInt)) (rCons (rInt) (rNil)))) (rKNil)) (rVar 2 rfl)) (rCmp kNeS_ok (rFn (h := 1) (g := .shorten) (Nat.le_of_ble_eq_true rfl) rfl rfl (by dsimp only; decide +kernel) (by decide +kernel) (rCons (rVar 2 rfl) (rCons (rSubI (rVar 12 rfl) (rInt)) (rCons (rInt) (rNil)))) (rKNil)) (rAddS (rSlc sStr_ok (rVar 2 rfl) (rNo) (rSome (rSubI (rVar 12 rfl) (rInt)))) (rStr [91, 49, 51, 32, 99, 104, 97, 114, 115, 93, 93, 41] (by decide +kernel))))) (rLast (rRet (rBool))) (rSkip)) (rLast (rRet (rAndV (rCmpV kEqS_ok (rFn (h := 3) (g := .safeRepr) (Nat.le_of_ble_eq_true rfl) rfl rfl (by dsimp only; decide +kernel) (by decide +kernel) (rCons (rVar 0 rfl) (rCons (rBool) (rNil))) (rKNil)) (rVar 10 rfl)) (rCmpV kEqS_ok (rFn (h := 1) (g := .shorten) (Nat.le_of_ble_eq_true rfl) rfl rfl (by dsimp only; decide +kernel) (by decide +kernel) (rCons (rVar 2 rfl) (rCons (rInt) (rCons (rInt) (rNil)))) (rKNil)) (rVar 11 rfl))))))))))))))))
noncomputable def pb_law (D : GD) : PS := pSeq (pAsg (pComp false [none, some 1] (pCall (fun Vs ks σ Q => one Vs ks fun a => bRng1 a σ Q) (pCons (pCall (fun Vs ks σ Q => one Vs ks fun a => bLenL a σ Q) (pCons (pVar 1) (pNil)) (kNil)) (pNil)) (kNil)) (lc0 (aVar 0) (pCall (cFn D 1 .drawn) (pCons (pAddI (pItm iLst (pVar 1) (pVar 0)) (pItm iLst (pLst (pCons (pLit (.int 266235)) (pCons (pLit (.int 2536676)) (pCons (pLit (.int 1205117)) (pNil))))) (pVar 0))) (pNil)) (kNil)))) (aVar 2)) (pSeq (pAsg (pCall bNew (pNil) (kNil)) (aVar 3)) (pSeq (pFor true (pVar 2) (aTup [4, 5, 6, 7]) (pSeq (pAsg (pCall (cFn D 3 .translate) (pCons (pCall (cFn D 1 .pattern) (pCons (pVar 7) (pNil)) (kNil)) (pNil)) (kNil)) (aVar 8)) (pIf (tru uBool (pVar 6)) (pEx (pMet nHdr (mH D 2 .hAdd) (pVar 3) (pCons (pVar 4) (pCons (pVar 5) (pNil))) (kCons "p_0" (pVar 8) (kCons "q_" (pLit .none) (kNil))))) (pEx (pMet nHdr (mH D 2 .hAdd) (pVar 3) (pCons (pVar 4) (pCons (pVar 5) (pNil))) (kCons "p_0" (pVar 8) (kNil))))))) (pRet (pCall (cFn D 5 .writing) (pCons (pVar 3) (pCons (pVar 2) (pNil))) (kNil)))))
set_option maxHeartbeats 4000000 in
theorem b_law (F : Footing D) : SSs ⟨D, 5, scopeAt 33, ["script", "numbers", "drawn", "table", "name", "own", "bare", "items", "expression"], true⟩ (List.tail (bodyAt 33)) (pb_law D) := by
  conv => arg 2; whnf
  exact rSeq (rAsgC false [none, some 1] ["k", "numbers"] (by dsimp only; decide +kernel) (rBlt (bRng1_ok.ok fun _ => keep_type) rfl (by dsimp only; decide +kernel) (by decide +kernel) (rCons (rBlt (bLenL_ok.ok fun _ => keep_builtin) rfl (by dsimp only; decide +kernel) (by decide +kernel) (rCons (rVar 1 rfl) (rNil)) rKNil) (rNil)) rKNil) (rLc0 (rAVar' 0 rfl (by dsimp only; decide +kernel)) (rFn (h := 1) (g := .drawn) (Nat.le_of_ble_eq_true rfl) rfl rfl (by dsimp only; decide +kernel) (by decide +kernel) (rCons (rAddI (rItm iLst_ok (rVar 1 rfl) (rVar 0 rfl)) (rItm iLst_ok (rLst (rCons (rInt) (rCons (rInt) (rCons (rInt) (rNil))))) (rVar 0 rfl))) (rNil)) (rKNil))) (rAVar 2 rfl)) (rSeq (rAsg (rCall (bNew_ok F.hdr F.make (F.fn .hInit) F.keep (Nat.le_of_ble_eq_true rfl)) (by dsimp only; decide +kernel) (by decide +kernel) (fun _ => .inl F.gHdrs) (rNil) rKNil) (rAVar 3 rfl)) (rSeq (rFor (rVar 2 rfl) (rATup [4, 5, 6, 7] rfl) (rSeq (rAsg (rFn (h := 3) (g := .translate) (Nat.le_of_ble_eq_true rfl) rfl rfl (by dsimp only; decide +kernel) (by decide +kernel) (rCons (rFn (h := 1) (g := .pattern) (Nat.le_of_ble_eq_true rfl) rfl rfl (by dsimp only; decide +kernel) (by decide +kernel) (rCons (rVar 7 rfl) (rNil)) (rKNil)) (rNil)) (rKNil)) (rAVar 8 rfl)) (rLast (rIf (rTru uBool_ok (rVar 6 rfl)) (rLast (rEx (rMet (mH_ok F.hdr (h := 2) (g := .hAdd) (.inl rfl) (Nat.le_of_ble_eq_true rfl)) (rVar 3 rfl) (rCons (rVar 4 rfl) (rCons (rVar 5 rfl) (rNil))) (rKCons (rVar 8 rfl) (rKCons (rNone) (rKNil)))))) (rLast (rEx (rMet (mH_ok F.hdr (h := 2) (g := .hAdd) (.inl rfl) (Nat.le_of_ble_eq_true rfl)) (rVar 3 rfl) (rCons (rVar 4 rfl) (rCons (rVar 5 rfl) (rNil))) (rKCons (rVar 8 rfl) (rKNil))))))))) (rLast (rRet (rFn (h := 5) (g := .writing) (Nat.le_of_ble_eq_true rfl) rfl rfl (by dsimp only; decide +kernel) (by decide +kernel) (rCons (rVar 3 rfl) (rCons (rVar 2 rfl) (rNil))) (rKNil))))))
end

section
open PySem PySem.Calls PyProof.Rows PySem.W
variable {D : GD}
noncomputable def pb_hConv : PS := pStop (pIfT (tIsStr (pVar 1)) (pSeq (pAsg (pIfE (tru uBool (pVar 2)) (pLit (.pat true)) (pLit (.pat false))) (aVar 3)) (pSeq (pIfF (tru uNone (pMet nPat mSearch (pVar 3) (pCons (pVar 1) (pNil)) (kNil))) (pSkip)) (pRet (pVar 1)))))
set_option maxHeartbeats 4000000 in
theorem b_hConv (F : Footing D) : SSs ⟨D, 0, hScopeAt 1, ["self", "value", "name", "regex"], true⟩ (hBodyAt 1) (pb_hConv) := by
  conv => arg 2; whnf
  exact rStop (rIfT (rIsStr (rVar 1 rfl) (by dsimp only; decide +kernel) (by dsimp only; decide +kernel)) (rSeq (rAsg (rIfE (rTru uBool_ok (rVar 2 rfl)) (rGlob (by dsimp only; decide +kernel) (by decide +kernel) F.gName) (rGlob (by dsimp only; decide +kernel) (by decide +kernel) F.gVal)) (rAVar 3 rfl)) (rSeq (rIfF (rTru uNone_ok (rMet (mSearch_ok F.pat) (rVar 3 rfl) (rCons (rVar 1 rfl) (rNil)) rKNil)) (rSkip)) (rLast (rRet (rVar 1 rfl))))))
noncomputable def pb_hItems : PS := pRet (pSlc sLst (pAtt aHl (pVar 0)) (oNo) (oNo))
set_option maxHeartbeats 4000000 in
theorem b_hItems (F : Footing D) : SSs ⟨D, 0, hScopeAt 11, ["self"], true⟩ (hBodyAt 11) (pb_hItems) := by
  conv => arg 2; whnf
  exact rLast (rRet (rSlc sLst_ok (rAtt (aHl_ok F.hdr) (rVar 0 rfl)) (rNo) (rNo)))
noncomputable def pb_hRepr : PS := pRet (pJoin (jVal (pCls (pVar 0)) (jLit [40] (jRepr (pAtt aHl (pVar 0)) (jLit [41] (jNil))))))
set_option maxHeartbeats 4000000 in
theorem b_hRepr (F : Footing D) : SSs ⟨D, 0, hScopeAt 12, ["self"], true⟩ (hBodyAt 12) (pb_hRepr) := by
  conv => arg 2; whnf
  exact rLast (rRet (rJoin (rJValS (rCls F.hdr (rVar 0 rfl)) (rJLit [40] (by decide +kernel) (rJRepr (rAtt (aHl_ok F.hdr) (rVar 0 rfl)) (rJLit [41] (by decide +kernel) (rJNil)))))))
noncomputable def pb_hStr : PS := pRet (pMet nStr mJoin (pLit (.str [13, 10])) (pCons (pAddL (pComp true [none] (pAtt aHl (pVar 0)) (lc0 (aVar 0) (pFmtA (pLit (.str [37, 115, 58, 32, 37, 115])) (pVar 0)))) (pLst (pCons (pLit (.str [])) (pCons (pLit (.str [])) (pNil))))) (pNil)) (kNil))
set_option maxHeartbeats 4000000 in
theorem b_hStr (F : Footing D) : SSs ⟨D, 0, hScopeAt 13, ["self"], true⟩ (hBodyAt 13) (pb_hStr) := by
  conv => arg 2; whnf
  exact rLast (rRet (rMet mJoin_ok (rStr [13, 10] (by decide +kernel)) (rCons (rAddL (rComp true [none] ["kv"] (by dsimp only; decide +kernel) (rAtt (aHl_ok F.hdr) (rVar 0 rfl)) (rLc0 (rAVar' 0 rfl (by dsimp only; decide +kernel)) (rFmtA (rStr [37, 115, 58, 32, 37, 115] (by decide +kernel)) (rVar 0 rfl)))) (rLst (rCons (rStr [] (by decide +kernel)) (rCons (rStr [] (by decide +kernel)) (rNil))))) (rNil)) rKNil))
noncomputable def pb_hAdd (D : GD) : PS := pSeq (pAsg (pNew (pNil)) (aVar 4)) (pSeq (pIf (cmp2 kIsNot (pVar 2) (pLit .none)) (pSeq (pAsg (pMet nHdr (mH D 1 .hConv) (pVar 0) (pCons (pVar 2) (pNil)) (kCons "name" (pLit (.bool false)) (kNil))) (aVar 2)) (pEx (pMet nRef mApp (pVar 4) (pCons (pVar 2) (pNil)) (kNil)))) (pSkip)) (pSeq (pFor true (pMet nDic mItems (pVar 3) (pNil) (kNil)) (aTup [5, 6]) (pSeq (pAsg (pMet nHdr (mH D 1 .hConv) (pVar 0) (pCons (pVar 5) (pNil)) (kCons "name" (pLit (.bool true)) (kNil))) (aVar 5)) (pIf (cmp2 kIs (pVar 6) (pLit .none)) (pEx (pMet nRef mApp (pVar 4) (pCons (pRep 95 [45] (pVar 5)) (pNil)) (kNil))) (pSeq (pAsg (pMet nHdr (mH D 1 .hConv) (pVar 0) (pCons (pVar 6) (pNil)) (kCons "name" (pLit (.bool false)) (kNil))) (aVar 6)) (pEx (pMet nRef mApp (pVar 4) (pCons (pCall (cFn D 1 .formatparam) (pCons (pRep 95 [45] (pVar 5)) (pCons (pVar 6) (pNil))) (kNil)) (pNil)) (kNil))))))) (pEx (pMet nHl mAppH (pAtt aHl (pVar 0)) (pCons (pTup (pCons (pMet nHdr (mH D 1 .hConv) (pVar 0) (pCons (pVar 1) (pNil)) (kCons "name" (pLit (.bool true)) (kNil))) (pCons (pMet nStr mJoin (pLit (.str [59, 32])) (pCons (pVar 4) (pNil)) (kNil)) (pNil)))) (pNil)) (kNil)))))
set_option maxHeartbeats 4000000 in
theorem b_hAdd (F : Footing D) : SSs ⟨D, 1, hScopeAt 16, ["self", "_name", "_value", "_params", "parts", "k", "v"], true⟩ (hBodyAt 16) (pb_hAdd D) := by
  conv => arg 2; whnf
  exact rSeq (rAsg (rNew (rNil)) (rAVar 4 rfl)) (rSeq (rIf (rCmp kIsNot_ok (rVar 2 rfl) (rNone)) (rSeq (rAsg (rMet (mH_ok F.hdr (h := 1) (g := .hConv) (.inr (.inl rfl)) (Nat.le_of_ble_eq_true rfl)) (rVar 0 rfl) (rCons (rVar 2 rfl) (rNil)) (rKCons (rBool) (rKNil))) (rAVar 2 rfl)) (rLast (rEx (rMet mApp_ok (rVar 4 rfl) (rCons (rVar 2 rfl) (rNil)) rKNil)))) (rSkip)) (rSeq (rFor (rMet mItems_ok (rVar 3 rfl) (rNil) rKNil) (rATup [5, 6] rfl) (rSeq (rAsg (rMet (mH_ok F.hdr (h := 1) (g := .hConv) (.inr (.inl rfl)) (Nat.le_of_ble_eq_true rfl)) (rVar 0 rfl) (rCons (rVar 5 rfl) (rNil)) (rKCons (rBool) (rKNil))) (rAVar 5 rfl)) (rLast (rIf (rCmp kIs_ok (rVar 6 rfl) (rNone)) (rLast (rEx (rMet mApp_ok (rVar 4 rfl) (rCons (rRep 95 [45] (by decide +kernel) (by decide +kernel) (rVar 5 rfl)) (rNil)) rKNil))) (rSeq (rAsg (rMet (mH_ok F.hdr (h := 1) (g := .hConv) (.inr (.inl rfl)) (Nat.le_of_ble_eq_true rfl)) (rVar 0 rfl) (rCons (rVar 6 rfl) (rNil)) (rKCons (rBool) (rKNil))) (rAVar 6 rfl)) (rLast (rEx (rMet mApp_ok (rVar 4 rfl) (rCons (rFn (h := 1) (g := .formatparam) (Nat.le_of_ble_eq_true rfl) rfl rfl (by dsimp only; decide +kernel) (by decide +kernel) (rCons (rRep 95 [45] (by decide +kernel) (by decide +kernel) (rVar 5 rfl)) (rCons (rVar 6 rfl) (rNil))) (rKNil)) (rNil)) rKNil)))))))) (rLast (rEx (rMet mAppH_ok (rAtt (aHl_ok F.hdr) (rVar 0 rfl)) (rCons (rTup (rCons (rMet (mH_ok F.hdr (h := 1) (g := .hConv) (.inr (.inl rfl)) (Nat.le_of_ble_eq_true rfl)) (rVar 0 rfl) (rCons (rVar 1 rfl) (rNil)) (rKCons (rBool) (rKNil))) (rCons (rMet mJoin_ok (rStr [59, 32] (by decide +kernel)) (rCons (rVar 4 rfl) (rNil)) rKNil) (rNil)))) (rNil)) rKNil)))))
end

section
open PySem PySem.Calls PyProof.Rows PySem.W
variable {D : GD}

noncomputable def mkls (vs : List V) (k : Nat) : List (Option V) := vs.map some ++ List.replicate k none

theorem mk_ok : ∀ {vs : List V} {k i : Nat} {V : V}, gt (mkls vs k) i = some (some V) → vs[i]? = some V
  | [], 0, i, V, e => by cases i <;> cases e
  | [], k + 1, 0, V, e => by cases e
  | [], k + 1, i + 1, V, e => mk_ok (vs := []) (k := k) (i := i) e
  | v :: vs, k, 0, V, e => Option.some.inj e
  | v :: vs, k, i + 1, V, e => mk_ok (vs := vs) (k := k) (i := i) e
/-- a function is run -/
theorem run {N : Nat} (f : Fid) {ns : List Str} {B : PS} (F : Footing D) (hB : SSs ⟨D, N, fscope f, ns, true⟩ (fbody f) B) (hsc : scOk (fscope f) ns = true) {Vs : List V} {ks bs : List (Str × V)} {hd : Option (List V)} {Q : V → Option (List V) → Prop} (k : Nat)
    (hb : fbd f Vs ks = some bs) (hn : bs.map (·.1) <+: ns) (ho : okVs Vs = true ∧ okVs (ks.map (·.2)) = true) (h : B ⟨mkls (bs.map (·.2)) k, [], hd⟩ (leaveC Q)) : CallOk D (N + 1) f Vs ks hd Q :=
  fn_ok F.dok (F.fn f) hsc hB ho hb hn (fun i V e => mk_ok e) h

theorem frz_ok {n : Nat} {os : List (List V)} {v : V} (h : okV v = true) : frz (n + 1) os v = some v := by
  unfold frz
  rw [if_pos h]
theorem frz_ref {n k : Nat} {os : List (List V)} {l : List V} (h : gt os k = some l) (ho : okVs l = true) : frz (n + 1) os (.ref k) = some (.lst l) := by
  unfold frz
  rw [if_neg (by exact Bool.false_ne_true)]
  dsimp only
  rw [h]
  dsimp only [Option.bind]
  rw [if_pos ho]
theorem frz_tup {n : Nat} {os : List (List V)} {l r : List V} (h : okVs l = false) (e : l.mapM (frz n os) = some r) : frz (n + 1) os (.tup l) = some (.tup r) := by
  unfold frz
  rw [if_neg (by rw [show okV (.tup l) = okVs l from rfl, h]; exact Bool.false_ne_true)]
  dsimp only
  rw [e]
  rfl
theorem okVs_map {α : Type} {g : α → V} (h : ∀ a, okV (g a) = true) : ∀ l : List α, okVs (l.map g) = true
  | [] => rfl
  | a :: l => Bool.and_eq_true_iff.mpr ⟨h a, okVs_map h l⟩
/-- a loop as a fold: st shows the state by what was folded and by the loop's name -/
theorem forGo_fold {α β : Type} {turn : V → PS} {Q : Fl → T → Prop} (g : α → V) (st : β → Option V → T) (step : β → α → β) (P : β → List α → Prop)
    (hs : ∀ b c a r, P b (a :: r) → P (step b a) r ∧ ∀ K : Fl → T → Prop, K .nxt (st (step b a) (some (g a))) → turn (g a) (st b c) K) : ∀ (l : List α) (b : β) (c : Option V), P b l → (∀ b' c', P b' [] → b' = l.foldl step b → Q .nxt (st b' c')) → forGo turn (l.map g) (st b c) Q
  | [], b, c, p, q => q b c p rfl
  | a :: l, b, c, p, q => (hs b c a l p).2 _ (forGo_fold g st step P hs l (step b a) (some (g a)) (hs b c a l p).1 fun b' c' p' e => q b' c' p' e)
/-- a comprehension as a map -/
theorem compGo_map {α : Type} {turn : PLC} {all : List V} {hb : Bool} (g h : α → V) (st : Option V → T) {Q : List V → T → Prop} (ok : ∀ c P, P → andHd hb all (st c) P) :
    ∀ (l : List α) (acc : List V) (c : Option V), (∀ a ∈ l, ∀ c (K : Option V → T → Prop), K (some (h a)) (st (some (g a))) → turn (g a) (st c) K) → acc.length + l.length ≤ big → (∀ c', Q (acc ++ l.map h) (st c')) → compGo hb all turn (l.map g) acc (st c) Q
  | [], acc, c, _, _, q => by
    have := q c
    rw [List.map_nil, List.append_nil] at this
    exact ok c _ this
  | a :: l, acc, c, hs, hl, q => ok c _ (hs a (.head _) c _ ⟨Nat.lt_of_lt_of_le (Nat.lt_add_of_pos_right (Nat.succ_pos _)) hl, compGo_map g h st ok l (acc ++ [h a]) _ (fun b hb => hs b (.tail _ hb)) (by rw [List.length_append]; exact Nat.le_trans (Nat.le_of_eq (Nat.succ_add_eq_add_succ _ _)) hl) fun c' => by rw [List.append_assoc]; exact q c'⟩)
theorem c_hItems (F : Footing D) {l : List V} {Q : V → Option (List V) → Prop} (hl : l.length ≤ big) (ho : okVs l = true) (q : Q (.lst l) (some l)) : CallOk D 1 .hItems [.hdr] [] (some l) Q := by
  refine run .hItems F (b_hItems F) (by decide +kernel) 0 rfl ⟨_, rfl⟩ ⟨rfl, rfl⟩ ?_
  unfold pb_hItems
  dsimp only [List.map, mkls, List.replicate, List.cons_append, List.nil_append, pRet, pSlc, pAtt, pVar, opt, gt, leaveC, sLst, asLst, lstV, oNo, aHl, asHdr]
  refine ⟨⟨ho, hl⟩, ?_⟩
  rw [show cutL l none none = l from List.take_of_length_le (Nat.le_refl _), frz_ok (show okV (.lst l) = true from ho)]
  exact q
theorem c_shorten1 (F : Footing D) {x : List Nat} {p q : Int} {hd : Option (List V)} {Q : V → Option (List V) → Prop} (hx : x.length ≤ big) (h : ¬ (12 : Int) < x.length - p - q) (k : Q (.str x) hd) : CallOk D 1 .shorten [.str x, .int p, .int q] [] hd Q := by
  refine run .shorten F (b_shorten F) (by decide +kernel) 1 rfl ⟨_, rfl⟩ ⟨rfl, rfl⟩ ?_
  unfold pb_shorten
  dsimp only [bLenS, asStr, one, List.map, mkls, List.replicate, List.cons_append, List.nil_append, pSeq, pAsg, pSubI, bin2, pCall, pCons, pVar, opt, gt, pIf, cmp2, pRet, leaveC, pFmtC, pLit, pTup, pSlc, aVar, cFmtC, asInt, three, asTup, pNil, sStr, oNo, oE, cSubI, kNil, pSkip, kGt, pt]
  refine ⟨hx, br_d (fun z => absurd z h) fun _ => ?_⟩
  rw [frz_ok rfl]
  exact k
theorem c_escape (F : Footing D) {c : Nat} {hd : Option (List V)} {Q : V → Option (List V) → Prop} (hc : c < 128) (q : Q (.str (if special c then [92, c] else [c])) hd) : CallOk D 1 .escape [.str [c]] [] hd Q := by
  refine run .escape F (b_escape F) (by decide +kernel) 0 rfl ⟨_, rfl⟩ ⟨rfl, rfl⟩ ?_
  unfold pb_escape
  dsimp only [tIsiStr, List.map, mkls, List.replicate, List.cons_append, List.nil_append, pIfT, tIsStr, pVar, opt, gt, pRet, pMet, leaveC, mTrans, asChr, one, kNil, pCons, pLit, pNil, nStr, asStr]
  refine ⟨rfl, ⟨rfl, hc⟩, ?_⟩
  rw [frz_ok rfl]
  exact q
end

section
open PySem PySem.Calls PyProof.Rows PySem.W
variable {D : GD}

structure TS where
  texts : List (List Nat × List Nat)
  glue : List Nat
  quote : List Nat
  text : List Nat
  held : Bool
noncomputable def unesc (c : Nat) : List Nat := if c = 92 then [92] else if c = 39 then [39] else if c = 116 then [9] else [10]
noncomputable def stepT (t : TS) (c : Nat) : TS :=
  if t.quote = [] then (if c = 39 ∨ c = 34 then { t with quote := [c], text := [] } else { t with glue := t.glue ++ [c] })
  else if t.held then { t with text := t.text ++ unesc c, held := false }
  else if c = 92 then { t with held := true }
  else if [c] = t.quote then { t with texts := t.texts ++ [(t.quote, t.text)], quote := [], glue := t.glue ++ [46] }
  else { t with text := t.text ++ [c] }
noncomputable def pairV (p : List Nat × List Nat) : V := .tup [.str p.1, .str p.2]
theorem unesc_get (c : Nat) : ((List.lookup [c] [([92], V.str [92]), ([39], V.str [39]), ([116], V.str [9])]).getD (.str [10])) = .str (unesc c) := by
  unfold unesc
  by_cases h1 : c = 92
  · subst h1; rfl
  by_cases h2 : c = 39
  · subst h2; rfl
  by_cases h3 : c = 116
  · subst h3; rfl
  have n1 : ([c] == [92]) = false := by simpa using h1
  have n2 : ([c] == [39]) = false := by simpa using h2
  have n3 : ([c] == [116]) = false := by simpa using h3
  simp only [List.lookup, n1, n2, n3, if_neg h1, if_neg h2, if_neg h3]
  rfl
noncomputable def stT (w : V) (hd : Option (List V)) (t : TS) (c : Option V) : T := ⟨[some w, some (.ref 0), some (.str t.glue), some (.str t.quote), some (.str t.text), some (.bool t.held), c], [t.texts.map pairV], hd⟩
theorem unesc_len (c : Nat) : (unesc c).length = 1 := by
  unfold unesc
  split
  · rfl
  split
  · rfl
  split <;> rfl
noncomputable def TI (N : Nat) (t : TS) (r : List Nat) : Prop := t.glue.length + r.length ≤ N ∧ t.text.length + r.length ≤ N ∧ t.texts.length + r.length ≤ N
theorem c_texts (F : Footing D) {x : List Nat} {hd : Option (List V)} {Q : V → Option (List V) → Prop} (hx : x.length ≤ 1000000) (q : Q (.tup [.lst ((x.foldl stepT ⟨[], [], [], [], false⟩).texts.map pairV), .str (x.foldl stepT ⟨[], [], [], [], false⟩).glue]) hd) : CallOk D 1 .texts [.str x] [] hd Q := by
  refine run .texts F (b_texts F) (by decide +kernel) 6 rfl ⟨_, rfl⟩ ⟨rfl, rfl⟩ ?_
  unfold pb_texts
  dsimp only [List.map, mkls, List.replicate, List.cons_append, List.nil_append, pSeq, pAsgT, pTup, pCons, pNew, pNil, pLit, asTup, List.length_cons, List.length_nil, pFor, pVar, opt, iterV, pIf, cmp2, pts, pAug, gAddS, asStr, kIn, asChr, tru, pAsg, aVar, pMet, pDic, nDic, asDic, List.zip, List.zipWith, mGet, two, kNil, pEx, pAddS, bin2, cAddS, mApp, asRef, apd, one, nRef, kEqS, uBool, asBool, pRet, leaveC, pt, gt]
  refine ⟨rfl, ?_⟩
  refine forGo_fold (fun c => .str [c]) (stT (.str x) hd) stepT (TI 1000000) ?_ x ⟨[], [], [], [], false⟩ none ⟨by dsimp only [List.length_nil]; omega, by dsimp only [List.length_nil]; omega, by dsimp only [List.length_nil]; omega⟩ ?_
  · rintro ⟨texts, glue, quote, text, held⟩ v c r ⟨h1, h2, h3⟩
    dsimp only [List.length_cons] at h1 h2 h3
    have b1 : glue.length < big := Nat.lt_of_lt_of_le (show glue.length < 1000001 by omega) (by decide)
    have b2 : text.length < big := Nat.lt_of_lt_of_le (show text.length < 1000001 by omega) (by decide)
    have b3 : texts.length < big := Nat.lt_of_lt_of_le (show texts.length < 1000001 by omega) (by decide)
    refine ⟨?_, fun K h => ?_⟩
    · unfold stepT TI
      dsimp only
      split
      · split
        · dsimp only [List.length_nil]; omega
        · dsimp only; rw [List.length_append]; dsimp only [List.length_cons, List.length_nil]; omega
      · split
        · dsimp only; rw [List.length_append, unesc_len]; omega
        · split
          · dsimp only; omega
          · split
            · dsimp only; rw [List.length_append, List.length_append]; dsimp only [List.length_cons, List.length_nil]; omega
            · dsimp only; rw [List.length_append]; dsimp only [List.length_cons, List.length_nil]; omega
    · dsimp only [stT]
      dsimp only [pt, gt, List.length_cons, List.length_nil]
      dsimp only [stepT, stT] at h
      refine br_d (fun hq => ?_) fun hq => ?_
      · rw [if_pos hq] at h
        refine br_i (fun hs => ?_) fun hs => ?_
        · rw [if_pos (by simpa using hs)] at h
          exact ⟨rfl, h⟩
        · rw [if_neg (by simpa using hs)] at h
          exact ⟨b1, h⟩
      · rw [if_neg hq] at h
        cases held with
        | true =>
          rw [if_pos rfl] at h
          dsimp only [br]
          rw [unesc_get]
          exact ⟨by rw [unesc_len]; exact b2, h⟩
        | false =>
          rw [if_neg Bool.false_ne_true] at h
          refine br_d (fun h9 => ?_) fun h9 => ?_
          · rw [if_pos (List.cons.inj h9).1] at h
            exact h
          · rw [if_neg (show ¬ c = 92 from fun z => h9 (by rw [z]))] at h
            refine br_d (fun hc => ?_) fun hc => ?_
            · rw [if_pos hc] at h
              rw [List.length_map]
              dsimp only at h
              rw [List.map_append] at h
              exact ⟨b3, rfl, b1, rfl, h⟩
            · rw [if_neg hc] at h
              exact ⟨b2, h⟩
  · rintro t c h e
    rw [← e] at q
    dsimp only []
    dsimp only [stT]
    dsimp only [gt]
    rw [frz_tup (n := 3) (r := [.lst (t.texts.map pairV), .str t.glue]) rfl]
    · exact q
    · rw [List.mapM_cons, List.mapM_cons, List.mapM_nil, frz_ref (n := 2) (os := [t.texts.map pairV]) (k := 0) rfl (okVs_map (fun _ => rfl) _), frz_ok (n := 2) (v := .str t.glue) rfl]
      rfl
end

section
open PySem PySem.Calls PyProof.Rows PySem.W
variable {D : GD}


theorem repl_len {c : Nat} {z : List Nat} (hz : z.length = 2) : ∀ l : List Nat, (repl c z l).length ≤ 2 * l.length
  | [] => Nat.le_refl _
  | a :: l => by
    have ih := repl_len (c := c) hz l
    unfold repl at ih ⊢
    rw [List.flatMap_cons, List.length_append, List.length_cons]
    split
    · rw [hz]; omega
    · dsimp only [List.length_cons, List.length_nil]; omega
theorem c_shorten2 (F : Footing D) {x : List Nat} {p q : Int} {hd : Option (List V)} {Q : V → Option (List V) → Prop} (hx : x.length ≤ 1000000) (h : (12 : Int) < x.length - p - q) (hb : (x.length : Int) - p - q < 10 ^ 10) (k : Q (.str (cutL x none (some p) ++ [91] ++ decL (x.length - p - q) ++ lit " chars]" ++ cutL x (some (x.length - q)) none)) hd) : CallOk D 1 .shorten [.str x, .int p, .int q] [] hd Q := by
  refine run .shorten F (b_shorten F) (by decide +kernel) 1 rfl ⟨_, rfl⟩ ⟨rfl, rfl⟩ ?_
  unfold pb_shorten
  dsimp only [bLenS, asStr, one, List.map, mkls, List.replicate, List.cons_append, List.nil_append, pSeq, pAsg, pSubI, bin2, pCall, pCons, pVar, opt, gt, pIf, cmp2, pRet, leaveC, pFmtC, pLit, pTup, pSlc, aVar, cFmtC, asInt, three, asTup, pNil, sStr, oNo, oE, cSubI, kNil, pSkip, kGt, pt]
  have hB : x.length ≤ big := Nat.le_trans hx (by decide)
  refine ⟨hB, br_d (fun _ => ⟨hB, hB, hB, congrArg V.str (by decide +kernel), ⟨⟨Nat.le_trans cut_len hx, Nat.le_trans cut_len hx⟩, by omega, hb⟩, ?_⟩) fun z => absurd h z⟩
  rw [frz_ok rfl]
  exact k
theorem c_hConv (F : Footing D) {l : List Nat} {b : Bool} {hd : Option (List V)} {Q : V → Option (List V) → Prop} (h : l.any (if b then barName else barVal) = false) (q : Q (.str l) hd) : CallOk D 1 .hConv [.hdr, .str l] [("name", .bool b)] hd Q := by
  refine run .hConv F (b_hConv F) (by decide +kernel) 1 (bs := [("self", .hdr), ("value", .str l), ("name", .bool b)]) (by unfold fbd bdConv; exact if_pos rfl) ⟨["regex"], rfl⟩ ⟨rfl, rfl⟩ ?_
  unfold pb_hConv
  dsimp only [List.map, mkls, List.replicate, List.cons_append, List.nil_append, pStop, pIfT, tIsStr, pVar, opt, gt, leaveC, pSeq, pAsg, pIfE, tru, pIfF, pMet, pRet, pSkip, uNone, mSearch, asStr, one, kNil, pCons, pNil, nPat, aVar, pLit, uBool, asBool, pt]
  have k : opt (frz 4 [] (.str l)) fun r => Q r hd := by rw [frz_ok rfl]; exact q
  cases b
  · exact ⟨rfl, h, rfl, rfl, k⟩
  · exact ⟨rfl, h, rfl, rfl, k⟩
theorem c_formatparam (F : Footing D) {x v : List Nat} {hd : Option (List V)} {Q : V → Option (List V) → Prop} (hx : x.length ≤ 1000) (hv : v.length ≤ 100000) (hn : v ≠ []) (q : Q (.str (x ++ [61, 34] ++ repl 34 [92, 34] (repl 92 [92, 92] v) ++ [34])) hd) : CallOk D 1 .formatparam [.str x, .str v] [] hd Q := by
  refine run .formatparam F (b_formatparam F) (by decide +kernel) 0 rfl ⟨_, rfl⟩ ⟨rfl, rfl⟩ ?_
  unfold pb_formatparam
  dsimp only [bLenS, asStr, one, List.map, mkls, List.replicate, List.cons_append, List.nil_append, pIf, tAnd, cmp2, pVar, opt, gt, pIfT, tOrT, tru, pSeq, pAsg, pRep, List.length_cons, List.length_nil, pRet, pJoin, jVal, leaveC, jLit, jNil, aVar, uInt, asInt, pCall, pCons, kGt, pLit, kNil, pNil, kIsNot, pt]
  have r1 := repl_len (c := 92) (z := [92, 92]) rfl v
  have r2 := repl_len (c := 34) (z := [92, 34]) rfl (repl 92 [92, 92] v)
  have hB : (1000000 : Nat) ≤ big := by decide
  refine ⟨false, .sn v, ?_⟩
  show v.length ≤ big ∧ br (decide ((0 : Int) < v.length)) _ _
  refine ⟨by omega, br_t (decide_eq_true (Int.ofNat_lt.mpr (List.length_pos_iff.mpr hn))) ⟨rfl, rfl, by omega, by omega, by omega, by omega, ?_, ?_, ?_⟩⟩
  · rw [List.length_append]; dsimp only [List.length_cons, List.length_nil]; omega
  · rw [List.length_append, List.length_append]; dsimp only [List.length_cons, List.length_nil]; omega
  · rw [frz_ok rfl]
    exact q
end

section
open PySem PySem.Calls PyProof.Rows PySem.W
variable {D : GD}



theorem c_hRepr (F : Footing D) {l : List V} {rs : List (List Nat)} {Q : V → Option (List V) → Prop} (h : reprRows l = some rs) (hl : (joinL [44, 32] rs).length ≤ 900000) (q : Q (.str (lit "Headers" ++ [40] ++ ([91] ++ joinL [44, 32] rs ++ [93]) ++ [41])) (some l)) : CallOk D 1 .hRepr [.hdr] [] (some l) Q := by
  refine run .hRepr F (b_hRepr F) (by decide +kernel) 0 rfl ⟨_, rfl⟩ ⟨rfl, rfl⟩ ?_
  unfold pb_hRepr
  dsimp only [List.map, mkls, List.replicate, List.cons_append, List.nil_append, pRet, pJoin, jVal, pCls, pVar, opt, gt, List.length_nil, leaveC, jLit, List.length_cons, jRepr, pAtt, jNil, aHl, asHdr, asStr]
  rw [h]
  dsimp only
  have e : (lit (Str.ofString "Headers")).length = 7 := by decide +kernel
  have hB : (1000000 : Nat) ≤ big := by decide
  refine ⟨by omega, by omega, rfl, ⟨hl, ?_⟩, ?_, ?_⟩
  · rw [List.length_append, e]; decide
  · simp only [List.length_append, List.length_cons, List.length_nil, e]
    omega
  · rw [frz_ok rfl]
    exact q
theorem c_hStr (F : Footing D) {α : Type} {r : List α} {g k : α → List Nat} {Q : V → Option (List V) → Prop} (hb : ∀ a ∈ r, (g a).length ≤ 1000000 ∧ (k a).length ≤ 1000000) (hn : r.length ≤ 1000) (hs : ((r.map fun a => (g a ++ [58, 32] ++ k a).length + 2).sum) ≤ 1000000)
    (q : Q (.str (joinL [13, 10] (r.map (fun a => g a ++ [58, 32] ++ k a) ++ [[], []]))) (some (r.map fun a => .tup [.str (g a), .str (k a)]))) : CallOk D 1 .hStr [.hdr] [] (some (r.map fun a => .tup [.str (g a), .str (k a)])) Q := by
  refine run .hStr F (b_hStr F) (by decide +kernel) 0 rfl ⟨_, rfl⟩ ⟨rfl, rfl⟩ ?_
  unfold pb_hStr
  dsimp only [List.map, mkls, List.replicate, List.cons_append, List.nil_append, pRet, pMet, pLit, nStr, asStr, pCons, pAddL, bin2, pComp, pAtt, pVar, opt, gt, srcC, inn, leaveC, mJoin, one, List.length_cons, List.length_nil, asLst, lstV, kNil, pNil, cAddL, pLst, aHl, asHdr]
  have hB : (1000000 : Nat) ≤ big := by decide
  refine compGo_map (hb := true) (fun a => .tup [.str (g a), .str (k a)]) (fun a => .str (g a ++ [58, 32] ++ k a)) (fun c => ⟨[c], [], some (r.map fun a => .tup [.str (g a), .str (k a)])⟩) (fun _ _ p => ⟨rfl, p⟩) r [] none (fun a ha c K hK => ?_) (by dsimp only [List.length_nil]; omega) fun c => ?_
  · dsimp only [lc0, aVar, pFmtA, bin2, pLit, pVar, opt, pt, gt, cFmtA, asStr, two, asTup]
    exact ⟨congrArg V.str (by decide +kernel), hb a ha, hK⟩
  · dsimp only [List.nil_append]
    have e : ∀ l : List α, strsOf ((l.map fun a => V.str (g a ++ [58, 32] ++ k a)) ++ [V.str [], V.str []]) = some (l.map (fun a => g a ++ [58, 32] ++ k a) ++ [[], []]) := by
      intro l
      induction l with
      | nil => rfl
      | cons a l ih =>
        show (strsOf ((l.map fun a => V.str (g a ++ [58, 32] ++ k a)) ++ [V.str [], V.str []])).map _ = _
        rw [ih]
        rfl
    refine ⟨⟨okVs_map (fun _ => rfl) r, rfl, by rw [List.length_map]; omega⟩, ?_⟩
    rw [e]
    dsimp only
    rw [frz_ok rfl]
    refine ⟨?_, q⟩
    rw [List.map_append, List.sum_append, List.map_map]
    refine Nat.le_trans (Nat.add_le_add hs (Nat.le_refl _)) ?_
    decide
end

section
open PySem PySem.Calls PyProof.Rows PySem.W
variable {D : GD}




theorem trunc_lit : lit (Str.ofString " [truncated]...") = [32, 91, 116, 114, 117, 110, 99, 97, 116, 101, 100, 93, 46, 46, 46] := by decide +kernel
theorem clip_nat (n k : Nat) : clip n (k : Int) = min k n := by
  unfold clip
  rw [if_neg (Int.not_lt.mpr (Int.natCast_nonneg k)), Int.max_eq_right (Int.le_min.mpr ⟨Int.natCast_nonneg k, Int.natCast_nonneg n⟩)]
  rcases Nat.le_total k n with h | h
  · rw [Int.min_eq_left (Int.ofNat_le.mpr h), Nat.min_eq_left h, Int.toNat_natCast]
  · rw [Int.min_eq_right (Int.ofNat_le.mpr h), Nat.min_eq_right h, Int.toNat_natCast]
theorem cut_pre {α : Type} (l : List α) (k : Nat) : cutL l none (some (k : Int)) = l.take k := by
  show (l.drop 0).take (clip l.length (k : Int) - 0) = _
  rw [clip_nat, List.drop_zero, Nat.sub_zero]
  rcases Nat.le_total k l.length with h | h
  · rw [Nat.min_eq_left h]
  · rw [Nat.min_eq_right h, List.take_length, List.take_of_length_le h]
/-- repr of the table, as a text -/
noncomputable def reprT (rs : List (List Nat)) : List Nat := lit "Headers" ++ [40] ++ ([91] ++ joinL [44, 32] rs ++ [93]) ++ [41]
theorem reprT_len (rs : List (List Nat)) : (reprT rs).length = (joinL [44, 32] rs).length + 11 := by
  have e : (lit (Str.ofString "Headers")).length = 7 := by decide +kernel
  unfold reprT
  simp only [List.length_append, List.length_cons, List.length_nil, e]
  omega
theorem c_safe0 (F : Footing D) {l : List V} {rs : List (List Nat)} {Q : V → Option (List V) → Prop} (h : reprRows l = some rs) (hl : (joinL [44, 32] rs).length ≤ 900000) (q : Q (.str (reprT rs)) (some l)) : CallOk D 3 .safeRepr [.hdr] [] (some l) Q := by
  refine run .safeRepr F (b_safeRepr F) (by decide +kernel) 1 rfl ⟨_, rfl⟩ ⟨rfl, rfl⟩ ?_
  unfold pb_safeRepr
  dsimp only [bRepr, asHdr, asStr, cFn, one, bLenS, List.map, mkls, List.replicate, List.cons_append, List.nil_append, pSeq, pAsg, pCall, pCons, pVar, opt, gt, pIf, tOr, tNot, tru, pRet, pAddS, bin2, pSlc, leaveC, cAddS, pLit, List.length_cons, List.length_nil, sStr, oE, asInt, oNo, pSkip, cmp2, kLt, kNil, pNil, uBool, asBool, aVar, pt]
  refine c_hRepr F h hl ?_
  change Q (.str (reprT rs)) (some l) at q
  have k : opt (frz 4 [] (.str (reprT rs))) fun r => Q r (some l) := by rw [frz_ok rfl]; exact q
  exact k
theorem c_safe1 (F : Footing D) {l : List V} {rs : List (List Nat)} {Q : V → Option (List V) → Prop} (h : reprRows l = some rs) (hl : (joinL [44, 32] rs).length ≤ 900000) (q : Q (.str (if (reprT rs).length < 80 then reprT rs else (reprT rs).take 80 ++ lit " [truncated]...")) (some l)) : CallOk D 3 .safeRepr [.hdr, .bool true] [] (some l) Q := by
  refine run .safeRepr F (b_safeRepr F) (by decide +kernel) 1 rfl ⟨_, rfl⟩ ⟨rfl, rfl⟩ ?_
  unfold pb_safeRepr
  dsimp only [bRepr, asHdr, asStr, cFn, one, bLenS, List.map, mkls, List.replicate, List.cons_append, List.nil_append, pSeq, pAsg, pCall, pCons, pVar, opt, gt, pIf, tOr, tNot, tru, pRet, pAddS, bin2, pSlc, leaveC, cAddS, pLit, List.length_cons, List.length_nil, sStr, oE, asInt, oNo, pSkip, cmp2, kLt, kNil, pNil, uBool, asBool, aVar, pt]
  refine c_hRepr F h hl ?_
  have hw : (reprT rs).length ≤ 1000000 := by rw [reprT_len]; omega
  have hB : (1000000 : Nat) ≤ big := by decide
  unfold reprT at q hw
  generalize lit (Str.ofString "Headers") ++ [40] ++ ([91] ++ joinL [44, 32] rs ++ [93]) ++ [41] = w at q hw ⊢
  dsimp only []
  refine ⟨Nat.le_trans hw hB, br_d (fun z => ?_) fun z => ?_⟩
  · rw [if_pos (by omega)] at q
    rw [frz_ok rfl]
    exact q
  · rw [if_neg (by omega), trunc_lit] at q
    rw [show cutL w none (some 80) = w.take 80 from cut_pre w 80]
    refine ⟨Nat.le_trans hw hB, ?_, ?_⟩
    · have := List.length_take_le 80 w
      omega
    · rw [frz_ok rfl]
      exact q
end

section
open PySem PySem.Calls PyProof.Rows PySem.W
variable {D : GD}




noncomputable def spell (c : Nat) : List Nat := if c = 91 then [91, 34, 92, 93] else if c = 93 then [91, 33, 39, 45, 41, 93] else if c = 45 then [91, 122, 45, 97, 93] else [c]
noncomputable def spells : List (List Nat × V) := [([91], .str [91, 34, 92, 93]), ([93], .str [91, 33, 39, 45, 41, 93]), ([45], .str [91, 122, 45, 97, 93])]
theorem spell_get (c : Nat) : (List.lookup [c] spells).getD (.str [c]) = .str (spell c) := by
  unfold spell spells
  by_cases h1 : c = 91
  · subst h1; rfl
  by_cases h2 : c = 93
  · subst h2; rfl
  by_cases h3 : c = 45
  · subst h3; rfl
  have n1 : ([c] == [91]) = false := by simpa using h1
  have n2 : ([c] == [93]) = false := by simpa using h2
  have n3 : ([c] == [45]) = false := by simpa using h3
  simp only [List.lookup, n1, n2, n3, if_neg h1, if_neg h2, if_neg h3]
  rfl
theorem strs_map {α : Type} {g : α → List Nat} : ∀ l : List α, strsOf (l.map fun a => V.str (g a)) = some (l.map g)
  | [] => rfl
  | a :: l => by
    show (strsOf (l.map fun a => V.str (g a))).map _ = _
    rw [strs_map l]
    rfl
theorem c_pattern (F : Footing D) {is : List Nat} {hd : Option (List V)} {Q : V → Option (List V) → Prop} (hl : is.length ≤ 1000) (hs : ((is.map spell).map fun y => y.length + 0).sum ≤ big) (q : Q (.str (joinL [] (is.map spell))) hd) : CallOk D 1 .pattern [.lst (is.map fun c => .str [c])] [] hd Q := by
  refine run .pattern F (b_pattern F) (by decide +kernel) 1 rfl ⟨_, rfl⟩ ⟨Bool.and_eq_true_iff.mpr ⟨okVs_map (g := fun c => V.str [c]) (fun _ => rfl) is, rfl⟩, rfl⟩ ?_
  unfold pb_pattern
  dsimp only [List.map, mkls, List.replicate, List.cons_append, List.nil_append, pSeq, pAsg, pDic, pCons, pLit, pNil, aVar, pRet, pMet, nStr, asStr, pComp, pVar, opt, List.zip, List.zipWith, pt, gt, srcC, inn, leaveC, mJoin, one, List.length_nil, asLst, lstV, kNil]
  have hB : (1000 : Nat) ≤ big := by decide
  refine compGo_map (hb := false) (fun c => .str [c]) (fun c => .str (spell c)) (fun c => ⟨[c, some (.dic spells)], [], hd⟩) (fun _ _ p => p) is [] none (fun a ha c K hK => ?_) (by dsimp only [List.length_nil]; omega) fun c => ?_
  · dsimp only [lc0, aVar, pMet, pVar, opt, pt, gt, mGet, asDic, asStr, two, kNil, pCons, pNil, nDic]
    rw [spell_get]
    exact hK
  · dsimp only [List.nil_append]
    rw [strs_map]
    dsimp only
    refine ⟨hs, ?_⟩
    rw [frz_ok rfl]
    exact q
end

section
open PySem PySem.Calls PyProof.Rows PySem.W
variable {D : GD}




structure BS where
  bits : List (List Nat)
  bit : List Nat
  marked : Bool
  held : Bool
noncomputable def stepB (t : BS) (c : Nat) : BS :=
  if t.held then { t with bit := t.bit ++ (if c = 34 ∨ c = 92 then [c] else [13]), held := false }
  else if t.marked ∧ c = 92 then { t with held := true }
  else if c = 34 then { t with bit := t.bit ++ [10], marked := !t.marked }
  else if c = 59 ∧ t.marked = false then { t with bits := t.bits ++ [t.bit], bit := [] }
  else { t with bit := t.bit ++ [c] }
noncomputable def stB (w : V) (hd : Option (List V)) (t : BS) (c : Option V) : T := ⟨[some w, some (.ref 0), some (.str t.bit), some (.bool t.marked), some (.bool t.held), c], [t.bits.map .str], hd⟩
noncomputable def BI (N : Nat) (t : BS) (r : List Nat) : Prop := t.bit.length + r.length ≤ N ∧ t.bits.length + r.length ≤ N
theorem okVs_app : ∀ {a b : List V}, okVs a = true → okVs b = true → okVs (a ++ b) = true
  | [], _, _, h => h
  | _ :: _, _, h, g => let z := Bool.and_eq_true_iff.mp h; Bool.and_eq_true_iff.mpr ⟨z.1, okVs_app z.2 g⟩
theorem c_bits (F : Footing D) {x : List Nat} {hd : Option (List V)} {Q : V → Option (List V) → Prop} (hx : x.length ≤ 1000000) (q : ∀ t, t = x.foldl stepB ⟨[], [], false, false⟩ → Q (.lst ((t.bits ++ [t.bit]).map .str)) hd) : CallOk D 1 .bits [.str x] [] hd Q := by
  refine run .bits F (b_bits F) (by decide +kernel) 5 rfl ⟨_, rfl⟩ ⟨rfl, rfl⟩ ?_
  unfold pb_bits
  dsimp only [List.map, mkls, List.replicate, List.cons_append, List.nil_append, pSeq, pAsgT, pTup, pCons, pNew, pNil, pLit, asTup, List.length_cons, List.length_nil, pFor, pVar, opt, iterV, pIf, tru, pAddS, bin2, pts, cAddS, asStr, pIfE, cmp2, kIn, asChr, tAnd, pAsg, aVar, pNot, uBool, asBool, pEx, pMet, mApp, asRef, apd, one, kNil, nRef, pAug, gAddS, tNot, kEqS, pRet, pAddL, leaveC, cAddL, asLst, lstV, pLst, pt, gt]
  refine ⟨rfl, ?_⟩
  refine forGo_fold (fun c => .str [c]) (stB (.str x) hd) stepB (BI 1000000) ?_ x ⟨[], [], false, false⟩ none ⟨by dsimp only [List.length_nil]; omega, by dsimp only [List.length_nil]; omega⟩ ?_
  · rintro ⟨bits, bit, marked, held⟩ v c r ⟨h1, h2⟩
    dsimp only [List.length_cons] at h1 h2
    have b1 : bit.length < big := Nat.lt_of_lt_of_le (show bit.length < 1000001 by omega) (by decide)
    have b2 : bits.length < big := Nat.lt_of_lt_of_le (show bits.length < 1000001 by omega) (by decide)
    refine ⟨?_, fun K h => ?_⟩
    · unfold stepB BI
      dsimp only
      split
      · dsimp only; rw [List.length_append]; split <;> (dsimp only [List.length_cons, List.length_nil]; omega)
      · split
        · dsimp only; omega
        · split
          · dsimp only; rw [List.length_append]; dsimp only [List.length_cons, List.length_nil]; omega
          · split
            · dsimp only; rw [List.length_append]; dsimp only [List.length_cons, List.length_nil]; omega
            · dsimp only; rw [List.length_append]; dsimp only [List.length_cons, List.length_nil]; omega
    · dsimp only [stB]
      dsimp only [pt, gt, List.length_cons, List.length_nil]
      dsimp only [stepB, stB] at h
      cases held with
      | true =>
        rw [if_pos rfl] at h
        refine br_t rfl (br_i (fun hs => ?_) fun hs => ?_)
        · rw [if_pos (by simpa using hs)] at h
          exact ⟨b1, rfl, h⟩
        · rw [if_neg (by simpa using hs)] at h
          exact ⟨b1, rfl, h⟩
      | false =>
        rw [if_neg Bool.false_ne_true] at h
        refine br_f rfl ?_
        by_cases hm : marked = true ∧ c = 92
        · rw [if_pos hm] at h
          obtain ⟨rfl, rfl⟩ := hm
          exact br_t rfl (br_t rfl h)
        · rw [if_neg hm] at h
          refine br_i (fun e => br_d (fun z => absurd ⟨e, (List.cons.inj z).1⟩ hm) fun _ => ?_) fun e => ?_
          all_goals
            refine br_d (fun z => ?_) fun z => ?_
            · rw [if_pos (List.cons.inj z).1] at h
              exact ⟨b1, rfl, h⟩
            · rw [if_neg (fun y => z (by rw [y]))] at h
              by_cases hs : c = 59 ∧ marked = false
              · rw [if_pos hs] at h
                obtain ⟨rfl, rfl⟩ := hs
                rw [List.length_map]
                dsimp only at h
                rw [List.map_append] at h
                exact ⟨b2, rfl, h⟩
              · rw [if_neg hs] at h
                refine br_d (fun z' => br_i (fun e' => absurd ⟨(List.cons.inj z').1, by simpa using e'⟩ hs) fun _ => ⟨b1, h⟩) fun _ => ⟨b1, h⟩
  · rintro t c h e
    dsimp only []
    dsimp only [stB]
    dsimp only [gt]
    have q := q t e
    rw [List.map_append] at q
    have ho : okVs (t.bits.map V.str) = true := okVs_map (g := V.str) (fun _ => rfl) _
    have hB : (1000001 : Nat) ≤ big := by decide
    refine ⟨⟨ho, rfl, by have := h.2; rw [List.length_map]; dsimp only [List.length_nil] at this; omega⟩, ?_⟩
    rw [frz_ok (show okV (.lst (t.bits.map V.str ++ [V.str t.bit])) = true from okVs_app ho rfl)]
    exact q
end

section
open PySem PySem.Calls PyProof.Rows PySem.W
variable {D : GD}
theorem seq_nat {k : Int} {n : Nat} (h : 0 ≤ k ∧ k < n) : seqIndex? k n = some k.toNat := by
  unfold seqIndex?
  have h0 : ¬ k < 0 := Int.not_lt.mpr h.1
  simp only [h0, if_false]
  rw [if_pos (Bool.and_eq_true_iff.mpr ⟨decide_eq_true h.1, decide_eq_true h.2⟩)]
theorem ix_at {α : Type} {l : List α} {k : Int} {a : α} {K : α → Prop} (hk : 0 ≤ k) (h : l[k.toNat]? = some a) (q : K a) : ix l k K := by
  unfold ix
  rw [seq_nat ⟨hk, by have := (List.getElem?_eq_some_iff.mp h).1; omega⟩, Option.bind_some, h]
  exact q
theorem ix_mem {α : Type} {l : List α} {k : Int} {K : α → Prop} (hk : 0 ≤ k ∧ k < l.length) (q : ∀ a ∈ l, K a) : ix l k K :=
  have h : k.toNat < l.length := by omega
  ix_at hk.1 (List.getElem?_eq_getElem h) (q _ (List.getElem_mem h))
theorem forGo_inv {turn : V → PS} {Q : Fl → T → Prop} {N : Nat} (I : Nat → T → Prop) (ht : ∀ v n σ K, n < N → I n σ → (∀ σ', I (n + 1) σ' → K .nxt σ') → turn v σ K) : ∀ (l : List V) (n : Nat) (σ : T), n + l.length ≤ N → I n σ → (∀ σ, I (n + l.length) σ → Q .nxt σ) → forGo turn l σ Q
  | [], n, σ, _, h, q => q σ h
  | v :: l, n, σ, hn, h, q => ht v n σ _ (Nat.lt_of_lt_of_le (Nat.lt_add_of_pos_right (Nat.succ_pos _)) hn) h fun σ' h' =>
    forGo_inv I ht l (n + 1) σ' (Nat.le_trans (Nat.le_of_eq (Nat.succ_add_eq_add_succ n l.length)) hn) h' fun σ z => q σ (Nat.succ_add_eq_add_succ n l.length ▸ z)

noncomputable def figs : List Nat := [97, 39, 34, 92, 63, 42, 91, 93, 46, 59, 9, 45]
/-- what a header may be -/
structure Drawn where
  name : List Nat
  own : Option (List Nat)
  bare : Bool
  items : List Nat
noncomputable def nameList : List (List Nat) := [[105, 116, 39, 115], [97, 34, 98], [99], [100, 92, 39, 34]]
noncomputable def ownList : List (Option (List Nat)) := [none, some [], some [111, 39, 92], some [9]]
structure Drawn.Ok (d : Drawn) : Prop where
  name : d.name ∈ nameList
  own : d.own ∈ ownList
  items : ∀ c ∈ d.items, c ∈ figs
  few : d.items.length ≤ 4
  some : d.items ≠ []
noncomputable def ownV : Option (List Nat) → V
  | none => .none
  | some l => .str l
noncomputable def itemsV (l : List Nat) : List V := l.map fun c => .str [c]
noncomputable def Drawn.v (d : Drawn) : V := .tup [.str d.name, ownV d.own, .bool d.bare, .lst (itemsV d.items)]
theorem ok_items (l : List Nat) : okVs (itemsV l) = true := okVs_map (g := fun c => V.str [c]) (fun _ => rfl) l
theorem ok_own (o : Option (List Nat)) : okV (ownV o) = true := by cases o <;> rfl
theorem fmod_in (x y : Int) (h : 0 < y) : 0 ≤ x.fmod y ∧ x.fmod y < y := ⟨Int.fmod_nonneg_of_pos x h, Int.fmod_lt_of_pos x h⟩
theorem c_drawn (F : Footing D) {x : Int} {hd : Option (List V)} {Q : V → Option (List V) → Prop} (q : ∀ d : Drawn, d.Ok → Q d.v hd) : CallOk D 1 .drawn [.int x] [] hd Q := by
  refine run .drawn F (b_drawn F) (by decide +kernel) 5 rfl ⟨_, rfl⟩ ⟨rfl, rfl⟩ ?_
  unfold pb_drawn
  dsimp only [bRng1, asInt, one, List.map, mkls, List.replicate, List.cons_append, List.nil_append, pSeq, pAsg, pLit, aVar, pAsgT, pTup, pCons, pNew, pNil, pDivI, bin2, pVar, opt, pt, gt, List.length_cons, List.length_nil, pFor, pCall, pAddI, pModI, iterV, pEx, pMet, cDivI, mApp, asRef, apd, kNil, pItm, iStr, asStr, cModI, nRef, pLst, pRet, leaveC, pB, cmp2, kEqI, iLst, asLst, lstV, cAddI, asTup, pts]
  have h4 := fmod_in (x.fdiv 32) 4 (by decide)
  have h5 := fmod_in (x.fdiv 4) 4 (by decide)
  have h6 := fmod_in x 4 (by decide)
  generalize (x.fdiv 32).fmod 4 = a at h4 ⊢
  have hl : (rngList 0 (a + 1) 1).length = a.toNat + 1 := by
    rw [rng_len]
    obtain rfl | rfl | rfl | rfl : a = 0 ∨ a = 1 ∨ a = 2 ∨ a = 3 := by omega
    all_goals rfl
  have hB : (4 : Nat) < big := by decide
  refine ⟨⟨by decide, by decide⟩, rfl, ⟨by decide, by decide⟩, by decide, ⟨by omega, by omega⟩, ?_⟩
  refine forGo_inv (N := 4) (fun n σ => ∃ is c y, (∀ c ∈ is, c ∈ figs) ∧ is.length = n ∧ σ = ⟨[some (.int x), some (.str figs), some (.ref 0), some (.int y), c, none], [itemsV is], hd⟩) ?_ _ 0 _ (by rw [hl]; omega) ⟨[], _, _, (fun c h => nomatch h), rfl, rfl⟩ ?_
  · rintro v n σ K hn ⟨is, c, y, h1, h2, rfl⟩ hK
    dsimp only [pt, gt]
    have h7 := fmod_in y 12 (by decide)
    refine ⟨by decide, ⟨by omega, by omega⟩, ix_mem (l := figs) h7 fun z hz => ⟨by unfold itemsV; rw [List.length_map]; omega, rfl, ⟨by decide, by decide⟩, hK _ ⟨is ++ [z], some v, y.fdiv 12, fun c hc => (List.mem_append.mp hc).elim (h1 c) fun e => List.mem_singleton.mp e ▸ hz, ?_, ?_⟩⟩⟩
    · rw [List.length_append, h2]; rfl
    · unfold itemsV; rw [List.map_append]; rfl
  · rintro σ ⟨is, c, y, h1, h2, rfl⟩
    rw [hl] at h2
    have k1 : is.length ≤ 4 := by omega
    have k2 : is ≠ [] := fun z => by rw [z, Nat.zero_add] at h2; exact absurd h2.symm (Nat.succ_ne_zero _)
    dsimp only [gt, pt]
    refine ⟨⟨by decide, by decide⟩, by decide, ⟨by omega, by omega⟩, ?_⟩
    refine ix_mem (l := ownList.map ownV) h5 fun o ho => ?_
    obtain ⟨o, ho', rfl⟩ := List.mem_map.mp ho
    refine ⟨by decide, ⟨by omega, by omega⟩, ix_mem (l := nameList.map V.str) h6 fun nm hn => ?_⟩
    obtain ⟨nm, hn', rfl⟩ := List.mem_map.mp hn
    refine ⟨⟨by decide, by decide⟩, by decide, ?_⟩
    rw [frz_tup (n := 3) (r := [.str nm, ownV o, .bool (decide (((x.fdiv 16).fmod 2) = 1)), .lst (itemsV is)])]
    · exact q ⟨nm, o, _, is⟩ ⟨hn', ho', h1, k1, k2⟩
    · unfold okVs okVs okVs okVs; rw [ok_own]; rfl
    · rw [List.mapM_cons, List.mapM_cons, List.mapM_cons, List.mapM_cons, List.mapM_nil, frz_ref (n := 2) (os := [itemsV is]) (k := 0) rfl (ok_items is), frz_ok (n := 2) (v := ownV o) (ok_own o), frz_ok (n := 2) (v := .str nm) rfl, frz_ok (n := 2) (v := .bool _) rfl]
      rfl

end

section
open PySem PySem.Calls PyProof.Rows PySem.W
variable {D : GD}
noncomputable abbrev Runs := List (List Nat) × List Nat
noncomputable def stepR (r : Runs) (c : Nat) : Runs := if c = 42 then (if r.1 = [] ∨ r.2 ≠ [] then (r.1 ++ [r.2], []) else r) else (r.1, r.2 ++ [c])
noncomputable def runsR (is : List Nat) : Runs := is.foldl stepR ([], [])
/-- the runs between the stars -/
noncomputable def runsL (is : List Nat) : List (List Nat) := (runsR is).1 ++ [(runsR is).2]
noncomputable def meantD : List (List Nat × V) := [([63], .tup [.bool true, .lst []]), ([45], .tup [.bool false, .lst []]), ([91], .tup [.bool false, .lst [.tup [.str [34], .str [34]], .tup [.str [92], .str [92]]]]), ([93], .tup [.bool true, .lst [.tup [.str [39], .str [41]]]])]
noncomputable def atomV (c : Nat) : V := (meantD.lookup [c]).getD (.tup [.bool false, .lst [.tup [.str [c], .str [c]]]])
noncomputable def runV (r : List Nat) : V := .lst (r.map atomV)
noncomputable def meantV (is : List Nat) : V := .lst ((runsL is).map runV)
theorem ok_get {k : List Nat} {x : V} (hx : okV x = true) : ∀ d : List (List Nat × V), d.all (fun p => okV p.2) = true → okV ((d.lookup k).getD x) = true
  | [], _ => hx
  | (a, v) :: d, h => by
    have h := Bool.and_eq_true_iff.mp h
    rw [List.lookup_cons]
    cases k == a
    · exact ok_get hx d h.2
    · exact h.1
theorem ok_run (r : List Nat) : okVs (r.map atomV) = true := okVs_map (fun c => ok_get rfl meantD rfl) r
/-- the outer list: the run by the number m lies at m + 1, but the first at 0 -/
noncomputable def refsM : Nat → List V
  | 0 => [.ref 0]
  | m + 1 => refsM m ++ [.ref (m + 2)]
noncomputable def objsM : List (List Nat) → List (List V)
  | [] => []
  | r :: rs => r.map atomV :: refsM rs.length :: rs.map (List.map atomV)
theorem refs_len : ∀ m, (refsM m).length = m + 1
  | 0 => rfl
  | m + 1 => by unfold refsM; rw [List.length_append, refs_len m]; rfl
theorem refs_no : ∀ m, okVs (refsM m) = false
  | 0 => rfl
  | m + 1 => by
    have : ∀ (l : List V) a, okVs l = false → okVs (l ++ [a]) = false := fun l a => by
      induction l with
      | nil => intro h; cases h
      | cons b l ih =>
        intro h
        show (okV b && okVs (l ++ [a])) = false
        cases hb : okV b
        · rfl
        · exact ih (by have h : (okV b && okVs l) = false := h; rw [hb] at h; exact h)
    exact this _ _ (refs_no m)
theorem gt_snoc {α : Type} {z : α} : ∀ l : List α, gt (l ++ [z]) l.length = some z
  | [] => rfl
  | _ :: l => gt_snoc l
theorem pt_snoc {α : Type} {z w : α} : ∀ l : List α, pt (l ++ [z]) l.length w = l ++ [w]
  | [] => rfl
  | a :: l => congrArg (a :: ·) (pt_snoc l)
theorem ix_last {α : Type} {l : List α} {a : α} {K : α → Prop} (q : K a) : ix (l ++ [a]) (-1) K := by
  unfold ix
  have e : seqIndex? (-1) (l ++ [a]).length = some l.length := by
    rw [List.length_append]
    unfold seqIndex?
    simp only [show ((-1 : Int) < 0) from by decide, if_true]
    rw [if_pos (by rw [Bool.and_eq_true, decide_eq_true_eq, decide_eq_true_eq]; dsimp only [List.length_cons, List.length_nil]; omega)]
    congr 1
    dsimp only [List.length_cons, List.length_nil]
    omega
  rw [e, Option.bind_some, ← gt_is, gt_snoc]
  exact q
theorem frz_refs {n : Nat} {r : List Nat} {R : List V} {rs : List (List Nat)} : ∀ m, m ≤ rs.length → (refsM m).mapM (frz (n + 1) (r.map atomV :: R :: rs.map (List.map atomV))) = some (runV r :: (rs.take m).map runV)
  | 0, _ => by
    unfold refsM
    rw [List.mapM_cons, List.mapM_nil, frz_ref (k := 0) rfl (ok_run r)]
    rfl
  | m + 1, h => by
    have e : gt (r.map atomV :: R :: rs.map (List.map atomV)) (m + 2) = some (rs[m].map atomV) := by
      show gt (rs.map (List.map atomV)) m = _
      rw [gt_is, List.getElem?_map, List.getElem?_eq_getElem h]
      rfl
    unfold refsM
    rw [List.mapM_append, frz_refs m (Nat.le_of_lt h), List.mapM_cons, List.mapM_nil, frz_ref e (ok_run _), List.take_succ_eq_append_getElem h, List.map_append]
    rfl
theorem frz_runs {rs : List (List Nat)} (h : rs ≠ []) : frz 4 (objsM rs) (.ref 1) = some (.lst (rs.map runV)) := by
  cases rs with
  | nil => exact absurd rfl h
  | cons r rs =>
    unfold frz
    rw [if_neg (by exact Bool.false_ne_true)]
    show ((if okVs (refsM rs.length) then some (V.lst (refsM rs.length)) else _) : Option V) = _
    rw [if_neg (by rw [refs_no]; exact Bool.false_ne_true)]
    have e := frz_refs (n := 2) (r := r) (R := refsM rs.length) (rs := rs) _ (Nat.le_refl _)
    rw [List.take_length] at e
    exact congrArg (Option.map V.lst) e
noncomputable def stM (is : List Nat) (hd : Option (List V)) (r : Runs) (c : Option V) : T := ⟨[some (.lst (itemsV is)), some (.dic meantD), some (.ref 1), c], objsM (r.1 ++ [r.2]), hd⟩
theorem c_meant (F : Footing D) {is : List Nat} {hd : Option (List V)} {Q : V → Option (List V) → Prop} (hl : is.length ≤ 1000) (q : Q (meantV is) hd) : CallOk D 1 .meant [.lst (itemsV is)] [] hd Q := by
  refine run .meant F (b_meant F) (by decide +kernel) 3 rfl ⟨_, rfl⟩ ⟨Bool.and_eq_true_iff.mpr ⟨ok_items is, rfl⟩, rfl⟩ ?_
  unfold pb_meant
  dsimp only [bLenL, asLst, opt, lstV, one, List.map, mkls, List.replicate, List.cons_append, List.nil_append, pSeq, pAsg, pDic, pCons, pTup, pLit, pLst, pNil, aVar, pNew, pFor, pVar, List.zip, List.zipWith, pt, List.length_nil, List.length_cons, gt, iterV, pIf, cmp2, pEx, pMet, pItm, mApp, asRef, apd, kNil, mGet, asDic, asStr, two, nDic, nRef, iLst, asInt, pNegI, tOr, pCall, pSkip, tru, uLst, kEqI, kNeS, pRet, leaveC]
  refine forGo_fold (fun c => .str [c]) (stM is hd) stepR (fun r l => r.1.length + l.length ≤ 1000 ∧ r.2.length + l.length ≤ 1000) ?_ is ([], []) none ⟨by rw [List.length_nil]; omega, by rw [List.length_nil]; omega⟩ ?_
  · rintro ⟨cl, cur⟩ v c l ⟨h1, h2⟩
    dsimp only [List.length_cons] at h1 h2
    have hB : (1000 : Nat) < big := by decide
    refine ⟨?_, fun K h => ?_⟩
    · unfold stepR
      split
      · split
        · dsimp only; rw [List.length_append, List.length_nil]; dsimp only [List.length_cons, List.length_nil]; omega
        · dsimp only; omega
      · dsimp only; rw [List.length_append]; dsimp only [List.length_cons, List.length_nil]; omega
    · have t1 : c ≠ 42 → stepR (cl, cur) c = (cl, cur ++ [c]) := fun z => if_neg z
      have n1 : c ≠ 42 → (!decide ([c] = [42])) = true := fun z => by rw [decide_eq_false fun e => z (List.cons.inj e).1]; rfl
      cases cl with
      | nil =>
        rw [show stM is hd ([], cur) v = ⟨[some (.lst (itemsV is)), some (.dic meantD), some (.ref 1), v], [cur.map atomV, [.ref 0]], hd⟩ from rfl]
        dsimp only [pt, gt, List.cons_append, List.nil_append, List.length_cons, List.length_nil]
        by_cases hc : c = 42
        · subst hc
          rw [show stepR ([], cur) 42 = ([cur], []) from rfl] at h
          refine br_f rfl ⟨by decide, br_t rfl ⟨by decide, rfl, h⟩⟩
        · rw [t1 hc, show stM is hd ([], cur ++ [c]) (some (.str [c])) = ⟨_, [(cur ++ [c]).map atomV, _], _⟩ from rfl, List.map_append] at h
          refine br_t (n1 hc) ⟨⟨by decide, by decide⟩, ix_last (l := []) ⟨?_, rfl, h⟩⟩
          rw [List.length_map]; omega
      | cons a cl =>
        have e : ∀ cl cur v, stM is hd (a :: cl, cur) v = ⟨[some (.lst (itemsV is)), some (.dic meantD), some (.ref 1), v], a.map atomV :: (refsM cl.length ++ [.ref (cl.length + 2)]) :: (cl.map (List.map atomV) ++ [cur.map atomV]), hd⟩ := fun cl cur v => by
          unfold stM
          dsimp only [List.cons_append, objsM]
          rw [List.length_append, List.map_append]
          rfl
        have g : ∀ x y, gt (x :: y :: (cl.map (List.map atomV) ++ [cur.map atomV])) (cl.length + 2) = some (cur.map atomV) := fun x y => by
          have := gt_snoc (z := cur.map atomV) (cl.map (List.map atomV))
          rw [List.length_map] at this
          exact this
        rw [e]
        dsimp only [pt, gt, List.cons_append, List.length_cons]
        have hr : (refsM cl.length ++ [V.ref (cl.length + 2)]).length = cl.length + 2 := by rw [List.length_append, refs_len]; rfl
        by_cases hc : c = 42
        · subst hc
          refine br_f rfl ⟨by rw [hr]; dsimp only [List.length_cons] at h1; omega, br_f (decide_eq_false (by rw [hr]; omega)) ⟨⟨by decide, by decide⟩, ix_last ?_⟩⟩
          dsimp only
          rw [g]
          refine ⟨by rw [List.length_map]; omega, ?_⟩
          cases cur with
          | nil =>
            rw [show stepR (a :: cl, []) 42 = (a :: cl, []) from rfl, e] at h
            exact br_f rfl h
          | cons b cur =>
            rw [show stepR (a :: cl, b :: cur) 42 = (a :: (cl ++ [b :: cur]), []) from rfl, e, List.map_append, List.length_append] at h
            refine br_t rfl ⟨by rw [hr]; dsimp only [List.length_cons] at h1; omega, rfl, ?_⟩
            rw [List.length_append, List.length_map]
            exact h
        · rw [t1 hc, e, List.map_append] at h
          refine br_t (n1 hc) ⟨⟨by decide, by decide⟩, ix_last ?_⟩
          dsimp only
          rw [g]
          refine ⟨by rw [List.length_map]; omega, rfl, ?_⟩
          have p := pt_snoc (z := cur.map atomV) (w := cur.map atomV ++ List.map atomV [c]) (cl.map (List.map atomV))
          rw [List.length_map] at p
          rw [← p] at h
          exact h
  · rintro r c _ rfl
    dsimp only []
    dsimp only [stM]
    dsimp only [gt]
    rw [frz_runs (List.append_ne_nil_of_right_ne_nil _ (List.cons_ne_nil _ _))]
    exact q

end

section
open PySem PySem.Calls PyProof.Rows PySem.W
variable {D : GD}
/-- what follows a statement -/
noncomputable def seqK (b : PS) (Q : Fl → T → Prop) : Fl → T → Prop := fun fl σ => match fl with
  | .nxt => b σ Q
  | .brk => Q .brk σ
  | .cont => Q .cont σ
  | .ret v => Q (.ret v) σ
theorem seq_g {a b : PS} {σ : T} {Q : Fl → T → Prop} (h : ∀ B, B = b → a σ (seqK B Q)) : pSeq a b σ Q := h b rfl
theorem seq_n {a b : PS} {σ : T} {Q : Fl → T → Prop} (h : ∀ B, B = b → a σ (seqK B Q)) : seqK (pSeq a b) Q .nxt σ := h b rfl
noncomputable def loopK (c : PB) (b : PS) (k : Nat) (Q : Fl → T → Prop) : Fl → T → Prop := fun fl σ => match fl with
  | .nxt => whileGo c b k σ Q
  | .cont => whileGo c b k σ Q
  | .brk => Q .nxt σ
  | .ret v => Q (.ret v) σ
theorem while_t {c : PB} {b : PS} {k : Nat} {σ : T} {Q : Fl → T → Prop} (h : c σ fun t σ => br t (b σ (loopK c b k Q)) (Q .nxt σ)) : whileGo c b (k + 1) σ Q := h
theorem while_n {c : PB} {b : PS} {k : Nat} {σ : T} {Q : Fl → T → Prop} (h : c σ fun t σ => br t (b σ (loopK c b k Q)) (Q .nxt σ)) : loopK c b (k + 1) Q .nxt σ := h
/-- a while over the items of a list: S says the state when the rest is l -/
theorem while_list {α : Type} {c : PB} {b : PS} {Q : Fl → T → Prop} (S : List α → T → Prop) (h0 : ∀ σ K, S [] σ → K false σ → c σ K) (hs : ∀ a r σ K (K' : Fl → T → Prop), S (a :: r) σ → (∀ σ, S r σ → K .nxt σ) → c σ fun t σ => br t (b σ K) (K' .nxt σ)) :
    ∀ (l : List α) (σ : T), S l σ → (∀ σ, S [] σ → Q .nxt σ) → whileGo c b (l.length + 1) σ Q
  | [], σ, s, q => h0 σ _ s (q σ s)
  | a :: l, σ, s, q => hs a l σ (loopK c b (l.length + 1) Q) Q s fun σ s => while_list S h0 hs l σ s q
/-- a piece of a text -/
theorem cut_at {α : Type} {l m : List α} {p : Nat} (h : l.drop p = m) (k : Nat) : cutL l (some (p : Int)) (some ((p : Int) + (k : Int))) = m.take k := by
  subst h
  show (l.drop (clip l.length (p : Int))).take (clip l.length ((p + k : Nat) : Int) - clip l.length (p : Int)) = _
  rw [clip_nat, clip_nat]
  rcases Nat.le_total p l.length with h | h
  · rw [Nat.min_eq_left h]
    rcases Nat.le_total (p + k) l.length with h' | h'
    · rw [Nat.min_eq_left h', Nat.add_sub_cancel_left]
    · rw [Nat.min_eq_right h', List.take_of_length_le (Nat.le_of_eq List.length_drop), List.take_of_length_le (Nat.le_trans (Nat.le_of_eq List.length_drop) (Nat.sub_le_iff_le_add'.mpr h'))]
  · rw [Nat.min_eq_right h, List.drop_length, List.drop_of_length_le h, List.take_nil, List.take_nil]
theorem ix_drop {α : Type} {l m : List α} {p : Nat} {a : α} {K : α → Prop} (h : l.drop p = a :: m) (q : K a) : ix l (p : Int) K :=
  ix_at (Int.natCast_nonneg p) (by show l[p]? = _; have := congrArg (·[0]?) h; rw [List.getElem?_drop] at this; exact this) q
theorem drop_le {α : Type} {l m : List α} {p : Nat} {a : α} (h : l.drop p = a :: m) : p < l.length :=
  Nat.lt_of_not_le fun z => nomatch (List.drop_of_length_le z).symm.trans h
theorem c_members1 (F : Footing D) {hd : Option (List V)} {Q : V → Option (List V) → Prop} (q : Q (.lst [.tup [.str [34], .str [34]], .tup [.str [92], .str [92]]]) hd) : CallOk D 1 .members [.str [34, 92, 92]] [] hd Q := by
  refine run .members F (b_members F) (by decide +kernel) 4 rfl ⟨_, rfl⟩ ⟨rfl, rfl⟩ ?_
  unfold pb_members
  refine seq_g fun R hR => ?_
  dsimp only [List.map, mkls, List.replicate, List.cons_append, List.nil_append, pAsgT, pTup, pCons, pNew, pNil, pLit, asTup, List.length_cons, List.length_nil, pts, pt]
  refine ⟨rfl, ?_⟩
  subst hR
  refine seq_n fun R hR => ⟨3, ?_⟩
  refine while_t ?_
  have hB : (3 : Nat) ≤ big ∧ (3 : Nat) < big := by decide
  generalize hL : loopK _ _ 2 _ = L
  dsimp only [bLenS, asStr, one, pSeq, pIf, cmp2, pItm, pVar, opt, pAsg2, pSlc, pAug, pEx, pMet, mApp, asRef, apd, kNil, pCons, pTup, pNil, nRef, pAsg, gAddI, asInt, pLit, aVar, sStr, oE, pAddI, bin2, cAddI, pSkip, kEqS, iStr, gt, kLt, pCall, pt, List.length_nil, List.nil_append, List.length_cons]
  refine ⟨hB.1, br_t (by decide) ⟨by decide, ix_drop (p := 0) rfl (br_f rfl ⟨hB.1, hB.1, br_f rfl ⟨by decide, rfl, ?_⟩⟩)⟩⟩
  subst hL
  refine while_n ?_
  generalize hL : loopK _ _ 1 _ = L
  dsimp only [bLenS, asStr, one, pSeq, pIf, cmp2, pItm, pVar, opt, pAsg2, pSlc, pAug, pEx, pMet, mApp, asRef, apd, kNil, pCons, pTup, pNil, nRef, pAsg, gAddI, asInt, pLit, aVar, sStr, oE, pAddI, bin2, cAddI, pSkip, kEqS, iStr, gt, kLt, pCall, pt, List.length_cons, List.length_nil, List.cons_append, List.nil_append]
  refine ⟨hB.1, br_t (by decide) ⟨by decide, ix_drop (p := 1) rfl (br_t rfl ⟨hB.1, hB.1, br_f rfl ⟨by decide, rfl, ?_⟩⟩)⟩⟩
  subst hL
  refine while_n ?_
  dsimp only [bLenS, asStr, one, pSeq, pIf, cmp2, pItm, pVar, opt, pAsg2, pSlc, pAug, pEx, pMet, mApp, asRef, apd, kNil, pCons, pTup, pNil, nRef, pAsg, gAddI, asInt, pLit, aVar, sStr, oE, pAddI, bin2, cAddI, pSkip, kEqS, iStr, gt, kLt, pCall, pt, List.length_cons, List.length_nil, List.cons_append, List.nil_append]
  refine ⟨hB.1, br_f (by decide) ?_⟩
  subst hR
  exact q
theorem c_members2 (F : Footing D) {hd : Option (List V)} {Q : V → Option (List V) → Prop} (q : Q (.lst [.tup [.str [39], .str [41]]]) hd) : CallOk D 1 .members [.str [39, 45, 41]] [] hd Q := by
  refine run .members F (b_members F) (by decide +kernel) 4 rfl ⟨_, rfl⟩ ⟨rfl, rfl⟩ ?_
  unfold pb_members
  refine seq_g fun R hR => ?_
  dsimp only [List.map, mkls, List.replicate, List.cons_append, List.nil_append, pAsgT, pTup, pCons, pNew, pNil, pLit, asTup, List.length_cons, List.length_nil, pts, pt]
  refine ⟨rfl, ?_⟩
  subst hR
  refine seq_n fun R hR => ⟨2, ?_⟩
  refine while_t ?_
  have hB : (3 : Nat) ≤ big ∧ (3 : Nat) < big := by decide
  generalize hL : loopK _ _ 1 _ = L
  dsimp only [bLenS, asStr, one, pSeq, pIf, cmp2, pItm, pVar, opt, pAsg2, pSlc, pAug, pEx, pMet, mApp, asRef, apd, kNil, pCons, pTup, pNil, nRef, pAsg, gAddI, asInt, pLit, aVar, sStr, oE, pAddI, bin2, cAddI, pSkip, kEqS, iStr, gt, kLt, pCall, pt, List.length_nil, List.nil_append, List.length_cons]
  refine ⟨hB.1, br_t (by decide) ⟨by decide, ix_drop (p := 0) rfl (br_f rfl ⟨hB.1, hB.1, br_t rfl ⟨hB.1, by decide, rfl, ?_⟩⟩)⟩⟩
  subst hL
  refine while_n ?_
  dsimp only [bLenS, asStr, one, pSeq, pIf, cmp2, pItm, pVar, opt, pAsg2, pSlc, pAug, pEx, pMet, mApp, asRef, apd, kNil, pCons, pTup, pNil, nRef, pAsg, gAddI, asInt, pLit, aVar, sStr, oE, pAddI, bin2, cAddI, pSkip, kEqS, iStr, gt, kLt, pCall, pt, List.length_cons, List.length_nil, List.cons_append, List.nil_append]
  refine ⟨hB.1, br_f (by decide) ?_⟩
  subst hR
  exact q

end

section
open PySem PySem.Calls PyProof.Rows PySem.W
variable {D : GD}
/-- what an item becomes -/
noncomputable def txt (c : Nat) : List Nat := if c = 63 then [46] else if c = 91 then [91, 34, 92, 92, 93] else if c = 93 then [91, 94, 39, 45, 41, 93] else if c = 45 then [40, 63, 33, 41] else if special c then [92, c] else [c]
/-- a run's text -/
noncomputable def runT (r : List Nat) : List Nat := (r.map txt).flatten
theorem runT_cons (c : Nat) (r : List Nat) : runT (c :: r) = txt c ++ runT r := rfl
theorem runT_app (a b : List Nat) : runT (a ++ b) = runT a ++ runT b := by unfold runT; rw [List.map_append, List.flatten_append]
theorem txt_pos (c : Nat) : 0 < (txt c).length := by
  unfold txt
  split
  · exact Nat.succ_pos _
  split
  · exact Nat.succ_pos _
  split
  · exact Nat.succ_pos _
  split
  · exact Nat.succ_pos _
  split <;> exact Nat.succ_pos _
theorem runT_ge : ∀ r : List Nat, r.length ≤ (runT r).length
  | [] => Nat.le_refl _
  | c :: r => by
    rw [runT_cons, List.length_append, List.length_cons, Nat.add_comm]
    exact Nat.add_le_add (txt_pos c) (runT_ge r)
theorem find_at {c hi p k : Nat} {l m : List Nat} (h : (l.take hi).drop p = m) (e : m.findIdx? (· == c) = some k) : find1 c l p hi = (k : Int) + p := by
  unfold find1
  rw [h, e]
theorem txt_other {c : Nat} (hc : c ∈ figs) (h : c ≠ 42 ∧ c ≠ 63 ∧ c ≠ 91 ∧ c ≠ 93 ∧ c ≠ 45) : [40, 41, 42, 43, 63, 123, 125, 124, 94, 36].contains c = false ∧ atomV c = .tup [.bool false, .lst [.tup [.str [c], .str [c]]]] ∧ ((txt c = [92, c]) ∨ (c ≠ 46 ∧ c ≠ 92 ∧ txt c = [c])) := by
  unfold figs at hc
  simp only [List.mem_cons, List.not_mem_nil, or_false] at hc
  rcases hc with rfl | rfl | rfl | rfl | rfl | rfl | rfl | rfl | rfl | rfl | rfl | rfl
  all_goals first
    | exact ⟨rfl, rfl, .inl (by decide +kernel)⟩
    | exact ⟨rfl, rfl, .inr ⟨by decide, by decide, by decide +kernel⟩⟩
    | exact absurd h (by decide)
theorem c_atoms (F : Footing D) {is : List Nat} {hd : Option (List V)} {Q : V → Option (List V) → Prop} (hi : ∀ c ∈ is, c ∈ figs ∧ c ≠ 42) (hl : (runT is).length ≤ 1000) (q : Q (runV is) hd) : CallOk D 2 .atoms [.str (runT is)] [] hd Q := by
  refine run .atoms F (b_atoms F) (by decide +kernel) 4 rfl ⟨_, rfl⟩ ⟨rfl, rfl⟩ ?_
  unfold pb_atoms
  refine seq_g fun R hR => ?_
  dsimp only [List.map, mkls, List.replicate, List.cons_append, List.nil_append, pAsgT, pTup, pCons, pNew, pNil, pLit, asTup, List.length_cons, List.length_nil, pts, pt]
  refine ⟨rfl, ?_⟩
  subst hR
  have hB : (1000 : Nat) < big := by decide
  refine seq_n fun R hR => ⟨is.length + 1, ?_⟩
  refine while_list (α := Nat) (fun l σ => ∃ d t u, is = d ++ l ∧ σ = ⟨[some (.str (runT is)), some (.ref 0), some (.int (runT d).length), t, u], [d.map atomV], hd⟩) ?_ ?_ is _ ⟨[], none, none, rfl, rfl⟩ ?_
  · rintro σ K ⟨d, t, u, rfl, rfl⟩ h
    rw [List.append_nil] at h ⊢
    dsimp only [bLenS, asStr, one, cmp2, pVar, opt, gt, kLt, asInt, pCall, pCons, kNil, pNil]
    rw [List.append_nil] at hl
    exact ⟨Nat.le_of_lt (Nat.lt_of_le_of_lt hl hB), (decide_eq_false (Int.lt_irrefl _)) ▸ h⟩
  · rintro c r σ K K' ⟨d, t, u, rfl, rfl⟩ h
    have hX : (runT (d ++ c :: r)).drop (runT d).length = txt c ++ runT r := by rw [runT_app, List.drop_left, runT_cons]
    have h' : ∀ t u, K .nxt ⟨[some (.str (runT (d ++ c :: r))), some (.ref 0), some (.int ((runT d).length + (txt c).length : Nat)), t, u], [d.map atomV ++ [atomV c]], hd⟩ := fun t u => h _ ⟨d ++ [c], t, u, by rw [List.append_assoc]; rfl, by rw [runT_app d [c], List.length_append, List.map_append, show runT [c] = txt c from List.append_nil _]; rfl⟩
    have hc := hi c (List.mem_append_right _ (.head _))
    have hdl : (d.map atomV).length ≤ 1000 := by
      rw [List.length_map]
      exact Nat.le_trans (List.length_append ▸ Nat.le_add_right _ _) (Nat.le_trans (runT_ge (d ++ c :: r)) hl)
    clear h hi q
    generalize runT (d ++ c :: r) = X at hX hl h' ⊢
    generalize d.map atomV = as at h' hdl ⊢
    have hp : (runT d).length < X.length := Nat.lt_of_not_le fun z => by
      have := congrArg List.length ((List.drop_of_length_le z).symm.trans hX)
      rw [List.length_append] at this
      exact absurd (txt_pos c) (Nat.not_lt.mpr (Nat.le_trans (Nat.le_add_right _ _) (Nat.le_of_eq this.symm)))
    generalize (runT d).length = p at hX hp h' ⊢
    dsimp only [bLenS, asStr, one, pSeq, pAsg, pVar, opt, pIf, cmp2, pItm, pAddI, bin2, aVar, cAddI, asInt, pLit, pMet, pB, pEx, mApp, asRef, apd, kNil, pCons, pTup, pNil, pCall, pSlc, cFn, sStr, oE, pIfE, tru, uBool, asBool, nRef, kEqS, iStr, pRet, pSkip, kLt, mFind, asChr, two, nStr, pLst, kIn, gt, pt]
    have hXb : X.length ≤ big := Nat.le_of_lt (Nat.lt_of_le_of_lt hl hB)
    have hab := Nat.lt_of_le_of_lt hdl hB
    have b0 : -2 ^ 62 < (p : Int) ∧ (p : Int) < 2 ^ 62 := by omega
    refine ⟨hXb, br_t (decide_eq_true (Int.ofNat_lt.mpr hp)) ⟨b0, ?_⟩⟩
    by_cases c1 : c = 63
    · subst c1
      exact ix_drop hX (br_f rfl ⟨hXb, br_f (decide_eq_false fun z => absurd ((cut_at hX 4).symm.trans z) (by exact nofun)) ⟨b0, ix_drop hX (br_t rfl ⟨hab, rfl, h' _ _⟩)⟩⟩)
    by_cases c2 : c = 45
    · subst c2
      exact ix_drop hX (br_f rfl ⟨hXb, br_t (decide_eq_true (cut_at hX 4)) ⟨hab, rfl, h' _ _⟩⟩)
    have hk : ∀ k, X.drop (p + k) = (txt c ++ runT r).drop k := fun k => by rw [← hX, List.drop_drop]
    by_cases c3 : c = 91
    · subst c3
      have fd : find1 93 X ((p : Int) + 2).toNat X.length = ((p + 1 : Nat) : Int) + ((3 : Nat) : Int) := (find_at (k := 2) ((congrArg (List.drop (p + 2)) List.take_length).trans (hk 2)) rfl).trans (by omega)
      rw [fd]
      refine ix_drop hX (br_t rfl ⟨⟨by omega, by omega⟩, br_f (decide_eq_false (by omega)) ⟨⟨by omega, by omega⟩, ix_drop (p := p + 1) (hk 1) (br_f rfl ⟨hXb, ?_⟩)⟩⟩)
      rw [show cutL X (some ((p : Int) + 1)) _ = [34, 92, 92] from cut_at (p := p + 1) (hk 1) 3]
      exact c_members1 F ⟨hab, rfl, h' _ _⟩
    by_cases c4 : c = 93
    · subst c4
      have fd : find1 93 X ((p : Int) + 2).toNat X.length = ((p + 2 : Nat) : Int) + ((3 : Nat) : Int) := (find_at (k := 3) ((congrArg (List.drop (p + 2)) List.take_length).trans (hk 2)) rfl).trans (by omega)
      rw [fd]
      refine ix_drop hX (br_t rfl ⟨⟨by omega, by omega⟩, br_f (decide_eq_false (by omega)) ⟨⟨by omega, by omega⟩, ix_drop (p := p + 1) (hk 1) (br_t rfl ⟨hXb, ?_⟩)⟩⟩)
      rw [show cutL X (some ((p : Int) + 2)) _ = [39, 45, 41] from cut_at (p := p + 2) (hk 2) 3]
      exact c_members2 F ⟨hab, rfl, h' _ _⟩
    obtain ⟨k1, k2, k3⟩ := txt_other hc.1 ⟨hc.2, c1, c3, c4, c2⟩
    rw [k2] at h'
    rcases k3 with k3 | ⟨k4, k5, k3⟩
    · rw [k3] at hX hk h'
      refine ix_drop hX (br_f rfl ⟨hXb, br_f (decide_eq_false fun z => absurd ((cut_at hX 4).symm.trans z) (by exact nofun)) ⟨b0, ix_drop hX (br_f rfl ⟨b0, ix_drop hX (br_f rfl ⟨b0, ix_drop hX (br_t rfl ⟨hXb, hXb, hab, rfl, ?_⟩)⟩)⟩)⟩⟩)
      rw [show cutL X (some ((p : Int) + 1)) (some ((p : Int) + 1 + 1)) = [c] from cut_at (p := p + 1) (hk 1) 1]
      exact h' _ _
    · rw [k3] at hX hk h'
      have ne : ∀ {a}, c ≠ a → decide ([c] = [a]) = false := fun h => decide_eq_false fun z => h (List.cons.inj z).1
      refine ix_drop hX (br_f (ne c3) ⟨hXb, br_f (decide_eq_false fun z => ?_) ⟨b0, ix_drop hX (br_f (ne k4) ⟨b0, ix_drop hX (br_f k1 ⟨b0, ix_drop hX (br_f (ne k5) ⟨hXb, hXb, hab, rfl, ?_⟩)⟩)⟩)⟩⟩)
      · have := (List.cons.inj ((cut_at hX 4).symm.trans z)).1
        rw [this] at k1
        cases k1
      · rw [show cutL X (some (p : Int)) (some ((p : Int) + 1)) = [c] from cut_at hX 1]
        exact h' _ _
  · rintro σ ⟨d, t, u, rfl, rfl⟩
    subst hR
    rw [List.append_nil] at q
    refine show opt (frz 4 [d.map atomV] (.ref 0)) _ from ?_
    rw [frz_ref rfl (ok_run d)]
    exact q

end

section
open PySem PySem.Calls PyProof.Rows PySem.W
variable {D : GD}
theorem ix_lastm {α : Type} {l r : List α} {x : α} {K : α → Prop} (h : l = r ++ [x]) (q : K x) : ix l (-1) K := h ▸ ix_last q
theorem seq_e {b : PS} {σ : T} {Q : Fl → T → Prop} (h : b σ Q) : seqK b Q .nxt σ := h
theorem pif_f {c : PB} {a b : PS} {σ : T} {Q : Fl → T → Prop} (h : ∀ A B, B = b → pIf c A B σ Q) : pIf c a b σ Q := h a b rfl
theorem pif_t {c : PB} {a b : PS} {σ : T} {Q : Fl → T → Prop} (h : ∀ A B, A = a → pIf c A B σ Q) : pIf c a b σ Q := h a b rfl
theorem ne_d {a b : Nat} (h : a ≠ b) : decide ([a] = [b]) = false := decide_eq_false fun z => h (List.cons.inj z).1
theorem drop_more {α : Type} {l m r : List α} {p : Nat} (h : l.drop p = m ++ r) : l.drop (p + m.length) = r := by
  rw [← List.drop_drop, h, List.drop_left]
theorem fit62 {p : Nat} (h : p ≤ 2000) : -2 ^ 62 < (p : Int) ∧ (p : Int) < 2 ^ 62 := by omega
/-- on to the bracket's end -/
theorem tr_scan {X m r : List Nat} {q : Nat} {v1 v2 v3 v4 v5 v7 v9 v10 v11 v12 : Option V} {os : List (List V)} {hd : Option (List V)} {Q : Fl → T → Prop} (hX : X.drop q = m ++ 93 :: r) (hm : 93 ∉ m) (hl : X.length ≤ 1000)
    (h : Q .nxt ⟨[some (.str X), v1, v2, v3, v4, v5, some (.int X.length), v7, some (.int (q + m.length : Nat)), v9, v10, v11, v12], os, hd⟩) :
    pWhile (tAnd (cmp2 kLt (pVar 8) (pVar 6)) (cmp2 kNeS (pItm iStr (pVar 0) (pVar 8)) (pLit (.str [93])))) (pAsg (pAddI (pVar 8) (pLit (.int 1))) (aVar 8)) ⟨[some (.str X), v1, v2, v3, v4, v5, some (.int X.length), v7, some (.int q), v9, v10, v11, v12], os, hd⟩ Q := by
  refine ⟨m.length + 1, while_list (α := Nat) (fun l σ => ∃ d, m = d ++ l ∧ σ = ⟨[some (.str X), v1, v2, v3, v4, v5, some (.int X.length), v7, some (.int (q + d.length : Nat)), v9, v10, v11, v12], os, hd⟩) ?_ ?_ m _ ⟨[], rfl, rfl⟩ ?_⟩
  · rintro σ K ⟨d, rfl, rfl⟩ k
    rw [List.append_nil] at hX
    have hd := drop_more hX
    have hp := drop_le hd
    dsimp only [tAnd, cmp2, pVar, opt, gt, pItm, kNeS, asStr, pLit, iStr, asInt, kLt]
    exact br_t (decide_eq_true (Int.ofNat_lt.mpr hp)) ⟨fit62 (by omega), ix_drop hd k⟩
  · rintro a l σ K K' ⟨d, rfl, rfl⟩ k
    rw [List.append_assoc] at hX
    have hd := drop_more hX
    have hp := drop_le hd
    dsimp only [pAsg, pAddI, bin2, pVar, opt, aVar, cAddI, asInt, pLit, tAnd, cmp2, gt, pItm, kNeS, asStr, iStr, kLt, pt]
    refine br_t (decide_eq_true (Int.ofNat_lt.mpr hp)) ⟨fit62 (by omega), ix_drop hd ?_⟩
    rw [ne_d (a := a) (b := 93) fun z => hm (z ▸ List.mem_append_right _ (.head _))]
    refine br_t rfl (k _ ⟨d ++ [a], by rw [List.append_assoc]; rfl, ?_⟩)
    rw [List.length_append]
    rfl
  · rintro σ ⟨d, rfl, rfl⟩
    rw [List.append_nil] at h
    exact h
theorem find_none {c hi p : Nat} {l m : List Nat} (h : (l.take hi).drop p = m) (e : m.findIdx? (· == c) = none) : find1 c l p hi = -1 := by
  unfold find1
  rw [h, e]
theorem mid_at {α : Type} {l m : List α} {p : Nat} (h : l.drop p = m) (j k : Nat) : (l.take (p + j)).drop (p + k) = (m.drop k).take (j - k) := by
  rw [List.drop_take, ← List.drop_drop, h, Nat.add_sub_add_left]
theorem for_g {td : Bool} {a : PE} {P : PA} {b : PS} {σ : T} {Q : Fl → T → Prop} (h : ∀ B, B = b → a σ fun x σ => opt (iterV td x) fun l => forGo (fun v σ Q => P v σ fun σ => B σ Q) l σ Q) : pFor td a P b σ Q := h b rfl
noncomputable def loop1 (Q : Fl → T → Prop) : Fl → T → Prop := fun fl σ => match fl with
  | .nxt => Q .nxt σ
  | .cont => Q .nxt σ
  | .brk => Q .nxt σ
  | .ret v => Q (.ret v) σ
theorem loop_e {b : PS} {σ : T} {Q : Fl → T → Prop} (h : b σ Q) : loop1 (seqK b Q) .nxt σ := h
theorem skip_e {σ : T} {Q : Fl → T → Prop} (h : Q .nxt σ) : pSkip σ Q := h
theorem for_one {turn : V → PS} {l : List V} {v : V} {σ : T} {Q : Fl → T → Prop} (e : l = [v]) (h : turn v σ (loop1 Q)) : forGo turn l σ Q := e ▸ h
/-- one hyphen is found, and no more -/
theorem tr_find {X u : List Nat} {i j k k1 : Nat} {v1 v2 v3 v4 v6 v7 v9 v12 : Option V} {ps : List V} {os : List (List V)} {hd : Option (List V)} {Q : Fl → T → Prop} (hl : X.length ≤ 1000) (hj : j ≤ X.length) (hk : k ≤ 2000 ∧ k1 ≤ 2000)
    (f1 : find1 45 X k j = (k1 : Nat)) (f2 : find1 45 X (k1 + 3) j = -1) (hu : cutL X (some (i : Int)) (some (k1 : Int)) = u)
    (h : Q .nxt ⟨[some (.str X), v1, v2, v3, v4, some (.int (k1 + 1 : Nat)), v6, v7, some (.int j), v9, some (.ref (os.length + 1)), some (.int (-1)), v12], ps :: (os ++ [[.str u]]), hd⟩) :
    pWhile (tru uBool (pLit (.bool true))) (pSeq (pAsg (pMet nStr mFind3 (pVar 0) (pCons (pLit (.str [45])) (pCons (pVar 11) (pCons (pVar 8) pNil))) kNil) (aVar 11)) (pSeq (pIf (cmp2 kLt (pVar 11) (pLit (.int 0))) pBrk pSkip) (pSeq (pEx (pMet nRef mApp (pVar 10) (pCons (pSlc sStr (pVar 0) (oE (pVar 5)) (oE (pVar 11))) pNil) kNil)) (pSeq (pAsg (pAddI (pVar 11) (pLit (.int 1))) (aVar 5)) (pAsg (pAddI (pVar 11) (pLit (.int 3))) (aVar 11))))))
      ⟨[some (.str X), v1, v2, v3, v4, some (.int i), v6, v7, some (.int j), v9, some (.ref (os.length + 1)), some (.int k), v12], ps :: (os ++ [[]]), hd⟩ Q := by
  have hB : (1000 : Nat) < big := by decide
  refine ⟨2, while_t ?_⟩
  generalize hL : loopK _ _ 1 Q = L
  dsimp only [pSeq, pAsg, pMet, pVar, opt, pIf, cmp2, pEx, pAddI, bin2, aVar, cAddI, asInt, pLit, mApp, asRef, apd, one, kNil, pCons, pSlc, pNil, sStr, asStr, oE, nRef, pBrk, pSkip, kLt, mFind3, asChr, three, nStr, tru, uBool, asBool, gt, pt]
  rw [show find1 45 X (k : Int).toNat (j : Int).toNat = (k1 : Int) from f1, hu]
  refine br_t rfl ⟨⟨by omega, by omega, by omega, by omega⟩, br_f (decide_eq_false (by omega)) ⟨Nat.le_of_lt (Nat.lt_of_le_of_lt hl hB), ?_⟩⟩
  rw [gt_snoc os]
  dsimp only
  rw [pt_snoc os]
  refine ⟨by decide, rfl, ?_⟩
  subst hL
  refine while_n ?_
  dsimp only [List.nil_append, pSeq, pAsg, pMet, pVar, opt, pIf, cmp2, pEx, pAddI, bin2, aVar, cAddI, asInt, pLit, mApp, asRef, apd, one, kNil, pCons, pSlc, pNil, sStr, asStr, oE, nRef, pBrk, pSkip, kLt, mFind3, asChr, three, nStr, tru, uBool, asBool, gt, pt]
  refine br_t rfl ⟨⟨by omega, by omega, by omega, by omega⟩, ?_⟩
  rw [show find1 45 X ((k1 : Int) + 3).toNat (j : Int).toNat = -1 from f2]
  exact br_t rfl h
/-- the parts: an item's text, or a star -/
noncomputable def addP (ps : List (Option Nat)) (c : Nat) : List (Option Nat) := if c = 42 then (if ps.getLast? = some none then ps else ps ++ [none]) else ps ++ [some c]
noncomputable def partV (a : Addr) : Option Nat → V
  | none => .raw a
  | some c => .str (txt c)
noncomputable def patT (is : List Nat) : List Nat := (is.map spell).flatten
theorem patT_app (a b : List Nat) : patT (a ++ b) = patT a ++ patT b := by unfold patT; rw [List.map_append, List.flatten_append]
theorem spell_pos (c : Nat) : 0 < (spell c).length := by
  unfold spell
  split
  · exact Nat.succ_pos _
  split
  · exact Nat.succ_pos _
  split <;> exact Nat.succ_pos _
theorem patT_ge : ∀ r : List Nat, r.length ≤ (patT r).length
  | [] => Nat.le_refl _
  | c :: r => by
    rw [show patT (c :: r) = spell c ++ patT r from rfl, List.length_append, List.length_cons, Nat.add_comm]
    exact Nat.add_le_add (spell_pos c) (patT_ge r)
theorem fig_lt {c : Nat} (h : c ∈ figs) : c < 128 := (by decide +kernel : ∀ c ∈ figs, c < 128) c h
theorem addP_len : ∀ (is : List Nat) (ps : List (Option Nat)), (is.foldl addP ps).length ≤ ps.length + is.length
  | [], _ => Nat.le_refl _
  | c :: is, ps => Nat.le_trans (addP_len is _) (by
    have : (addP ps c).length ≤ ps.length + 1 := by
      unfold addP
      split
      · split
        · exact Nat.le_succ _
        · rw [List.length_append]; exact Nat.le_refl _
      · rw [List.length_append]; exact Nat.le_refl _
    rw [List.length_cons]
    omega)
theorem c_translateIn (F : Footing D) {is : List Nat} {a : Addr} {hd : Option (List V)} {Q : V → Option (List V) → Prop} (hi : ∀ c ∈ is, c ∈ figs) (hl : (patT is).length ≤ 1000) (q : Q (.lst ((is.foldl addP []).map (partV a))) hd) : CallOk D 2 .translateIn [.str (patT is), .raw a, .str [46]] [] hd Q := by
  refine run .translateIn F (b_translateIn F) (by decide +kernel) 10 rfl ⟨_, rfl⟩ ⟨rfl, rfl⟩ ?_
  unfold pb_translateIn
  refine seq_g fun R hR => ?_
  dsimp only [List.map, mkls, List.replicate, List.cons_append, List.nil_append, pAsg, pNew, pNil, aVar, List.length_nil, pt]
  subst hR
  refine seq_n fun R hR => ?_
  dsimp only [pAsg, pAtt, pVar, opt, gt, aVar, aApp, asRef, pt]
  subst hR
  refine seq_n fun R hR => ?_
  dsimp only [bLenS, asStr, one, pAsgT, pTup, pCons, pLit, pCall, pVar, opt, gt, List.length_cons, List.length_nil, asTup, pts, pNil, kNil, pt]
  have hB : (1000 : Nat) < big := by decide
  have hXb : (patT is).length ≤ big := Nat.le_of_lt (Nat.lt_of_le_of_lt hl hB)
  refine ⟨hXb, rfl, ?_⟩
  subst hR
  refine seq_n fun R hR => ⟨is.length + 1, ?_⟩
  refine while_list (α := Nat) (fun l σ => ∃ d os v7 v8 v9 v10 v11 v12, is = d ++ l ∧ σ = ⟨[some (.str (patT is)), some (.raw a), some (.str [46]), some (.ref 0), some (.bm 0), some (.int (patT d).length), some (.int (patT is).length), v7, v8, v9, v10, v11, v12], (d.foldl addP []).map (partV a) :: os, hd⟩) ?_ ?_ is _ ⟨[], [], none, none, none, none, none, none, rfl, rfl⟩ ?_
  · rintro σ K ⟨d, os, v7, v8, v9, v10, v11, v12, rfl, rfl⟩ h
    rw [List.append_nil] at h ⊢
    dsimp only [cmp2, pVar, opt, gt, kLt, asInt]
    exact (decide_eq_false (Int.lt_irrefl _)) ▸ h
  · rintro c r σ K K' ⟨d, os, v7, v8, v9, v10, v11, v12, rfl, rfl⟩ h
    have hX : (patT (d ++ c :: r)).drop (patT d).length = spell c ++ patT r := by rw [patT_app, List.drop_left]; rfl
    have h' : ∀ os v7 v8 v9 v10 v11 v12, K .nxt ⟨[some (.str (patT (d ++ c :: r))), some (.raw a), some (.str [46]), some (.ref 0), some (.bm 0), some (.int ((patT d).length + (spell c).length : Nat)), some (.int (patT (d ++ c :: r)).length), v7, v8, v9, v10, v11, v12], (addP (d.foldl addP []) c).map (partV a) :: os, hd⟩ := fun os v7 v8 v9 v10 v11 v12 => h _ ⟨d ++ [c], os, v7, v8, v9, v10, v11, v12, by rw [List.append_assoc]; rfl, by rw [patT_app d [c], List.length_append, List.foldl_append, show patT [c] = spell c from List.append_nil _]; rfl⟩
    have hc := hi c (List.mem_append_right _ (.head _))
    have hps : (d.foldl addP []).length ≤ 1000 := Nat.le_trans (addP_len d []) (by
      rw [List.length_nil, Nat.zero_add]
      exact Nat.le_trans (List.length_append ▸ Nat.le_add_right _ _) (Nat.le_trans (patT_ge (d ++ c :: r)) hl))
    clear h hi q hR R
    generalize patT (d ++ c :: r) = X at hX hl hXb h' ⊢
    generalize d.foldl addP [] = ps at h' hps ⊢
    obtain ⟨y, m, hs⟩ : ∃ y m, spell c = y :: m := List.exists_cons_of_length_pos (spell_pos c)
    have hX0 := hX
    rw [hs] at hX0
    have hp := drop_le hX0
    generalize (patT d).length = p at hX hX0 hp h' ⊢
    generalize hb : pSeq _ _ = B
    dsimp only [cmp2, pVar, opt, gt, kLt, asInt]
    refine br_t (decide_eq_true (Int.ofNat_lt.mpr hp)) ?_
    subst hb
    refine seq_g fun R hR => ?_
    dsimp only [pAsg, pItm, pVar, opt, gt, aVar, iStr, asStr, asInt, pt]
    have b0 := fit62 (p := p) (by omega)
    have hab : (ps.map (partV a)).length < big := by rw [List.length_map]; exact Nat.lt_of_le_of_lt hps hB
    refine ⟨b0, ix_drop hX0 ?_⟩
    subst hR
    refine seq_n fun R hR => ?_
    dsimp only [pAsg, pAddI, bin2, pVar, opt, gt, aVar, cAddI, asInt, pLit, pt]
    subst hR
    refine seq_e ?_
    have fin : ∀ w os v7 v8 v9 v10 v11 v12, c ≠ 42 → txt c = w → K .nxt ⟨[some (.str X), some (.raw a), some (.str [46]), some (.ref 0), some (.bm 0), some (.int (p + (spell c).length : Nat)), some (.int X.length), v7, v8, v9, v10, v11, v12], (ps.map (partV a) ++ [.str w]) :: os, hd⟩ := fun w os v7 v8 v9 v10 v11 v12 h1 h2 => by
      have := h' os v7 v8 v9 v10 v11 v12
      rw [show addP ps c = ps ++ [some c] from if_neg h1, List.map_append] at this
      rw [← h2]
      exact this
    by_cases c1 : c = 42
    · subst c1
      obtain ⟨rfl, rfl⟩ := List.cons.inj hs
      refine pif_t fun A B hA => ?_
      dsimp only [pIf, cmp2, pVar, opt, gt, kEqS, asStr, pLit]
      refine br_t rfl ?_
      subst hA
      dsimp only [pIf, tOr, tNot, tru, pVar, opt, gt, pEx, pAdd, apd, asBm, pSkip, cmp2, pItm, kIsNot, iLst, asLst, lstV, asInt, pNegI, pLit, uLst, pt]
      refine ⟨Nat.le_of_lt hab, ?_⟩
      have h' := h' os (some (.str [42])) v8 v9 v10 v11 v12
      rcases List.eq_nil_or_concat ps with rfl | ⟨qs, o, e⟩
      · exact br_t rfl (br_t rfl ⟨hab, rfl, h'⟩)
      · have eg : ps.getLast? = some o := by rw [e, List.concat_eq_append, List.getLast?_concat]
        unfold addP at h'
        rw [if_pos rfl, eg] at h'
        refine br_f (by rw [e]; cases qs <;> rfl) ⟨⟨by decide, by decide⟩, ix_lastm (r := qs.map (partV a)) (x := partV a o) (by rw [e, List.concat_eq_append, List.map_append]; rfl) ?_⟩
        cases o with
        | none => exact ⟨true, .rr a, br_f rfl h'⟩
        | some c =>
          rw [if_neg (by exact nofun), List.map_append] at h'
          exact ⟨false, .sr a _, br_t rfl ⟨hab, rfl, h'⟩⟩
    by_cases c2 : c = 63
    · subst c2
      obtain ⟨rfl, rfl⟩ := List.cons.inj hs
      refine pif_f fun A B hB => ?_
      dsimp only [pIf, cmp2, pVar, opt, gt, kEqS, asStr, pLit]
      refine br_f rfl ?_
      subst hB
      refine pif_t fun A B hA => ?_
      dsimp only [pIf, cmp2, pVar, opt, gt, kEqS, asStr, pLit]
      refine br_t rfl ?_
      subst hA
      dsimp only [pEx, pAdd, pVar, opt, gt, apd, asBm, pt]
      exact ⟨hab, rfl, fin _ _ _ _ _ _ _ _ (by decide) rfl⟩
    have hk : ∀ k, X.drop (p + k) = (spell c ++ patT r).drop k := fun k => by rw [← hX, List.drop_drop]
    have hlen : p + (spell c).length ≤ X.length := by
      have := congrArg List.length hX
      rw [List.length_drop, List.length_append] at this
      omega
    have hlt : ∀ k : Nat, k < (spell c).length → decide (((p + k : Nat) : Int) < X.length) = true := fun k h => decide_eq_true (by omega)
    have hge : ∀ k : Nat, k < (spell c).length → decide ((X.length : Int) ≤ ((p + k : Nat) : Int)) = false := fun k h => decide_eq_false (by omega)
    by_cases c3 : c = 91
    · subst c3
      obtain ⟨rfl, rfl⟩ := List.cons.inj hs
      refine pif_f fun A B hB => ?_
      dsimp only [pIf, cmp2, pVar, opt, gt, kEqS, asStr, pLit]
      refine br_f rfl ?_
      subst hB
      refine pif_f fun A B hB => ?_
      dsimp only [pIf, cmp2, pVar, opt, gt, kEqS, asStr, pLit]
      refine br_f rfl ?_
      subst hB
      refine pif_t fun A B hA => ?_
      dsimp only [pIf, cmp2, pVar, opt, gt, kEqS, asStr, pLit]
      refine br_t rfl ?_
      subst hA
      refine seq_g fun R hR => ?_
      dsimp only [pAsg, pVar, opt, gt, aVar, pt]
      subst hR
      refine seq_n fun R hR => ?_
      dsimp only [pIf, tAnd, cmp2, pVar, opt, gt, pAsg, pAddI, bin2, aVar, cAddI, asInt, pLit, pSkip, pItm, kEqS, asStr, iStr, kLt, pt]
      refine br_t (hlt 1 (by decide)) ⟨fit62 (p := p + 1) (by omega), ix_drop (p := p + 1) (hk 1) (br_f rfl ?_)⟩
      subst hR
      refine seq_n fun R hR => ?_
      dsimp only [pIf, tAnd, cmp2, pVar, opt, gt, pAsg, pAddI, bin2, aVar, cAddI, asInt, pLit, pSkip, pItm, kEqS, asStr, iStr, kLt, pt]
      refine br_t (hlt 1 (by decide)) ⟨fit62 (p := p + 1) (by omega), ix_drop (p := p + 1) (hk 1) (br_f rfl ?_)⟩
      subst hR
      refine seq_n fun R hR => ?_
      refine tr_scan (q := p + 1) (m := [34, 92]) (hk 1) (by decide) hl ?_
      subst hR
      refine seq_e (pif_f fun A B hB => ?_)
      dsimp only [List.length_cons, List.length_nil, pIf, cmp2, pVar, opt, gt, kGe, asInt]
      refine br_f (hge 3 (by decide)) ?_
      subst hB
      refine seq_g fun R hR => ?_
      dsimp only [pAsg, pSlc, pVar, opt, gt, aVar, sStr, asStr, oE, asInt, pt]
      refine ⟨hXb, ?_⟩
      rw [show cutL X (some ((p : Int) + 1)) (some ((p + 1 + (0 + 1 + 1) : Nat) : Int)) = [34, 92] from cut_at (p := p + 1) (hk 1) 2]
      subst hR
      refine seq_n fun R hR => pif_t fun A B hA => ?_
      dsimp only [pIf, cmp2, pLit, pVar, opt, gt, kNotIn, asChr, asStr]
      refine br_t rfl ?_
      subst hA
      dsimp only [pAsg, pRep, pVar, opt, gt, List.length_cons, List.length_nil, aVar, asStr, pt]
      refine ⟨by decide, ?_⟩
      subst hR
      refine seq_n fun R hR => ?_
      dsimp only [pAsg, pSub, pLit, aVar, asStr, pVar, opt, gt, pt]
      refine ⟨rfl, ⟨by decide, rfl⟩, ?_⟩
      subst hR
      refine seq_n fun R hR => ?_
      dsimp only [pAsg, pAddI, bin2, pVar, opt, gt, aVar, cAddI, asInt, pLit, pt]
      subst hR
      refine seq_e (pif_f fun A B hB => ?_)
      dsimp only [pIf, tNot, tru, pVar, opt, gt, uStr, asStr]
      refine ⟨by decide, br_f rfl ?_⟩
      subst hB
      refine pif_f fun A B hB => ?_
      dsimp only [pIf, cmp2, pVar, opt, gt, kEqS, asStr, pLit]
      refine br_f rfl ?_
      subst hB
      refine seq_g fun R hR => pif_f fun A B hB => ?_
      dsimp only [pIf, cmp2, pItm, pVar, opt, gt, kEqS, asStr, pLit, iStr, asInt]
      refine ⟨⟨by decide, by decide⟩, ix_drop (p := 0) rfl (br_f rfl ?_)⟩
      subst hB
      refine pif_f fun A B hB => ?_
      dsimp only [pIf, cmp2, pItm, pVar, opt, gt, kInT, asStr, asTup, pTup, pCons, pLit, pNil, strsOf, Option.map, iStr, asInt]
      refine ⟨⟨by decide, by decide⟩, ix_drop (p := 0) rfl (br_f rfl ?_)⟩
      subst hB
      dsimp only [pSkip]
      subst hR
      refine seq_e ?_
      dsimp only [pEx, pAdd, pVar, opt, gt, apd, pJoin, jLit, List.length_nil, List.length_cons, List.nil_append, jVal, List.cons_append, jNil, asStr, asBm, pt]
      exact ⟨by decide, by decide, by decide, hab, rfl, fin _ _ _ _ _ _ _ _ (by decide) rfl⟩
    by_cases c4 : c = 93
    · subst c4
      obtain ⟨rfl, rfl⟩ := List.cons.inj hs
      refine pif_f fun A B hB => ?_
      dsimp only [pIf, cmp2, pVar, opt, gt, kEqS, asStr, pLit]
      refine br_f rfl ?_
      subst hB
      refine pif_f fun A B hB => ?_
      dsimp only [pIf, cmp2, pVar, opt, gt, kEqS, asStr, pLit]
      refine br_f rfl ?_
      subst hB
      refine pif_t fun A B hA => ?_
      dsimp only [pIf, cmp2, pVar, opt, gt, kEqS, asStr, pLit]
      refine br_t rfl ?_
      subst hA
      refine seq_g fun R hR => ?_
      dsimp only [pAsg, pVar, opt, gt, aVar, pt]
      subst hR
      refine seq_n fun R hR => ?_
      dsimp only [pIf, tAnd, cmp2, pVar, opt, gt, pAsg, pAddI, bin2, aVar, cAddI, asInt, pLit, pSkip, pItm, kEqS, asStr, iStr, kLt, pt]
      refine br_t (hlt 1 (by decide)) ⟨fit62 (p := p + 1) (by omega), ix_drop (p := p + 1) (hk 1) (br_t rfl ?_)⟩
      subst hR
      refine seq_n fun R hR => ?_
      dsimp only [pIf, tAnd, cmp2, pVar, opt, gt, pAsg, pAddI, bin2, aVar, cAddI, asInt, pLit, pSkip, pItm, kEqS, asStr, iStr, kLt, pt]
      refine br_t (hlt 2 (by decide)) ⟨fit62 (p := p + 2) (by omega), ix_drop (p := p + 2) (hk 2) (br_f rfl ?_)⟩
      subst hR
      refine seq_n fun R hR => ?_
      refine tr_scan (q := p + 2) (m := [39, 45, 41]) (hk 2) (by decide) hl ?_
      subst hR
      refine seq_e (pif_f fun A B hB => ?_)
      dsimp only [List.length_cons, List.length_nil, pIf, cmp2, pVar, opt, gt, kGe, asInt]
      refine br_f (hge 5 (by decide)) ?_
      subst hB
      refine seq_g fun R hR => ?_
      dsimp only [pAsg, pSlc, pVar, opt, gt, aVar, sStr, asStr, oE, asInt, pt]
      refine ⟨hXb, ?_⟩
      rw [show cutL X (some ((p : Int) + 1)) (some ((p + 2 + (0 + 1 + 1 + 1) : Nat) : Int)) = [33, 39, 45, 41] from cut_at (p := p + 1) (hk 1) 4]
      subst hR
      refine seq_n fun R hR => pif_f fun A B hB => ?_
      dsimp only [pIf, cmp2, pLit, pVar, opt, gt, kNotIn, asChr, asStr]
      refine br_f rfl ?_
      subst hB
      refine seq_g fun S hS => ?_
      dsimp only [pAsg, pNew, pNil, aVar, List.cons_append, List.length_cons, pt]
      subst hS
      refine seq_n fun S hS => ?_
      dsimp only [pAsg, pIfE, cmp2, pItm, pVar, opt, gt, aVar, pAddI, bin2, cAddI, asInt, pLit, kEqS, asStr, iStr, pt]
      refine ⟨fit62 (p := p + 1) (by omega), ix_drop (p := p + 1) (hk 1) (br_t rfl ?_)⟩
      subst hS
      refine seq_n fun S hS => ?_
      refine tr_find (i := p + 1) (j := p + 5) (k := p + 3) (k1 := p + 3) (u := [33, 39]) hl (by exact Nat.le_trans (Nat.le_succ _) hlen) ⟨by omega, by omega⟩ ?_ ?_ ?_ ?_
      · exact (find_at (k := 0) (mid_at hX 5 3) rfl).trans (Int.zero_add _)
      · exact find_none (mid_at hX 5 (3 + 3)) rfl
      · exact cut_at (p := p + 1) (hk 1) 2
      subst hS
      refine seq_n fun S hS => ?_
      dsimp only [pAsg, pSlc, pVar, opt, gt, aVar, sStr, asStr, oE, asInt, pt]
      rw [show cutL X (some ((p + 3 + 1 : Nat) : Int)) (some ((p + 5 : Nat) : Int)) = [41] from cut_at (p := p + (3 + 1)) (hk (3 + 1)) 1]
      refine ⟨hXb, ?_⟩
      subst hS
      refine seq_n fun S hS => ?_
      dsimp only [pIfT, tru, pVar, opt, gt, pEx, pMet, mApp, asRef, apd, one, kNil, pCons, pNil, nRef, uStr, asStr, pt, List.length_cons, List.length_nil]
      rw [gt_snoc os]
      dsimp only
      rw [pt_snoc os]
      refine ⟨by decide, rfl, by decide, rfl, ?_⟩
      subst hS
      refine seq_n fun S hS => for_g fun B hB => ?_
      dsimp only [bLenL, asLst, opt, lstV, one, List.cons_append, List.nil_append, iterV, aVar, pCall, pCons, pSubI, bin2, pVar, gt, bRng3, three, asInt, kNil, pLit, pNegI, pNil, cSubI]
      rw [gt_snoc os]
      dsimp only
      refine ⟨by decide, ⟨rfl, ⟨by decide, by decide⟩, by decide, by decide⟩, for_one (v := .int 1) rfl ?_⟩
      subst hB
      refine pif_f fun A B hB => ?_
      dsimp only [pt, pIf, cmp2, pItm, pVar, opt, gt, kGtS, asStr, iStr, asInt, pLit, iLst, asLst, lstV, pNegI, pSubI, bin2, cSubI]
      rw [gt_snoc os]
      dsimp only
      refine ⟨⟨by decide, by decide⟩, ix_drop (p := 0) rfl ⟨⟨by decide, by decide⟩, ix_last (l := [33]) ⟨⟨by decide, by decide⟩, ix_drop (p := 1) rfl ⟨⟨by decide, by decide⟩, ix_drop (p := 0) rfl (br_f (by decide) ?_)⟩⟩⟩⟩
      subst hB
      subst hS
      refine skip_e (loop_e ?_)
      dsimp only [pAsg, pGen, pLit, asStr, pVar, opt, gt, List.length_cons, List.length_nil, aVar, asLst, lstV, pt]
      rw [gt_snoc os]
      dsimp only
      refine ⟨⟨rfl, by decide, by decide⟩, ?_⟩
      subst hR
      refine seq_n fun R hR => ?_
      dsimp only [pAsg, pSub, pLit, aVar, asStr, pVar, opt, gt, pt]
      refine ⟨rfl, ⟨by decide, rfl⟩, ?_⟩
      subst hR
      refine seq_n fun R hR => ?_
      dsimp only [pAsg, pAddI, bin2, pVar, opt, gt, aVar, cAddI, asInt, pLit, pt]
      subst hR
      refine seq_e (pif_f fun A B hB => ?_)
      dsimp only [pIf, tNot, tru, pVar, opt, gt, uStr, asStr]
      refine ⟨by decide, br_f rfl ?_⟩
      subst hB
      refine pif_f fun A B hB => ?_
      dsimp only [pIf, cmp2, pVar, opt, gt, kEqS, asStr, pLit]
      refine br_f rfl ?_
      subst hB
      refine seq_g fun R hR => pif_t fun A B hA => ?_
      dsimp only [pIf, cmp2, pItm, pVar, opt, gt, kEqS, asStr, pLit, iStr, asInt]
      refine ⟨⟨by decide, by decide⟩, ix_drop (p := 0) rfl (br_t rfl ?_)⟩
      subst hA
      dsimp only [pAsg, pAddS, bin2, pLit, pSlc, pVar, opt, gt, aVar, cAddS, asStr, List.length_cons, List.length_nil, List.cons_append, List.nil_append, sStr, oNo, oE, asInt, pt]
      refine ⟨by decide, by decide, ?_⟩
      subst hR
      refine seq_e ?_
      dsimp only [pEx, pAdd, pVar, opt, gt, apd, pJoin, jLit, List.length_nil, List.length_cons, List.nil_append, jVal, List.cons_append, jNil, asStr, asBm, pt]
      exact ⟨by decide, by decide, by decide, hab, rfl, fin _ _ _ _ _ _ _ _ (by decide) rfl⟩
    by_cases c5 : c = 45
    · subst c5
      obtain ⟨rfl, rfl⟩ := List.cons.inj hs
      refine pif_f fun A B hB => ?_
      dsimp only [pIf, cmp2, pVar, opt, gt, kEqS, asStr, pLit]
      refine br_f rfl ?_
      subst hB
      refine pif_f fun A B hB => ?_
      dsimp only [pIf, cmp2, pVar, opt, gt, kEqS, asStr, pLit]
      refine br_f rfl ?_
      subst hB
      refine pif_t fun A B hA => ?_
      dsimp only [pIf, cmp2, pVar, opt, gt, kEqS, asStr, pLit]
      refine br_t rfl ?_
      subst hA
      refine seq_g fun R hR => ?_
      dsimp only [pAsg, pVar, opt, gt, aVar, pt]
      subst hR
      refine seq_n fun R hR => ?_
      dsimp only [pIf, tAnd, cmp2, pVar, opt, gt, pAsg, pAddI, bin2, aVar, cAddI, asInt, pLit, pSkip, pItm, kEqS, asStr, iStr, kLt, pt]
      refine br_t (hlt 1 (by decide)) ⟨fit62 (p := p + 1) (by omega), ix_drop (p := p + 1) (hk 1) (br_f rfl ?_)⟩
      subst hR
      refine seq_n fun R hR => ?_
      dsimp only [pIf, tAnd, cmp2, pVar, opt, gt, pAsg, pAddI, bin2, aVar, cAddI, asInt, pLit, pSkip, pItm, kEqS, asStr, iStr, kLt, pt]
      refine br_t (hlt 1 (by decide)) ⟨fit62 (p := p + 1) (by omega), ix_drop (p := p + 1) (hk 1) (br_f rfl ?_)⟩
      subst hR
      refine seq_n fun R hR => ?_
      refine tr_scan (q := p + 1) (m := [122, 45, 97]) (hk 1) (by decide) hl ?_
      subst hR
      refine seq_e (pif_f fun A B hB => ?_)
      dsimp only [List.length_cons, List.length_nil, pIf, cmp2, pVar, opt, gt, kGe, asInt]
      refine br_f (hge 4 (by decide)) ?_
      subst hB
      refine seq_g fun R hR => ?_
      dsimp only [pAsg, pSlc, pVar, opt, gt, aVar, sStr, asStr, oE, asInt, pt]
      refine ⟨hXb, ?_⟩
      rw [show cutL X (some ((p : Int) + 1)) (some ((p + 1 + (0 + 1 + 1 + 1) : Nat) : Int)) = [122, 45, 97] from cut_at (p := p + 1) (hk 1) 3]
      subst hR
      refine seq_n fun R hR => pif_f fun A B hB => ?_
      dsimp only [pIf, cmp2, pLit, pVar, opt, gt, kNotIn, asChr, asStr]
      refine br_f rfl ?_
      subst hB
      refine seq_g fun S hS => ?_
      dsimp only [pAsg, pNew, pNil, aVar, List.cons_append, List.length_cons, pt]
      subst hS
      refine seq_n fun S hS => ?_
      dsimp only [pAsg, pIfE, cmp2, pItm, pVar, opt, gt, aVar, pAddI, bin2, cAddI, asInt, pLit, kEqS, asStr, iStr, pt]
      refine ⟨fit62 (p := p + 1) (by omega), ix_drop (p := p + 1) (hk 1) (br_f rfl ?_)⟩
      subst hS
      refine seq_n fun S hS => ?_
      refine tr_find (i := p + 1) (j := p + 4) (k := p + 2) (k1 := p + 2) (u := [122]) hl (by exact Nat.le_trans (Nat.le_succ _) hlen) ⟨by omega, by omega⟩ ?_ ?_ ?_ ?_
      · exact (find_at (k := 0) (mid_at hX 4 2) rfl).trans (Int.zero_add _)
      · exact find_none (mid_at hX 4 (2 + 3)) rfl
      · exact cut_at (p := p + 1) (hk 1) 1
      subst hS
      refine seq_n fun S hS => ?_
      dsimp only [pAsg, pSlc, pVar, opt, gt, aVar, sStr, asStr, oE, asInt, pt]
      rw [show cutL X (some ((p + 2 + 1 : Nat) : Int)) (some ((p + 4 : Nat) : Int)) = [97] from cut_at (p := p + (2 + 1)) (hk (2 + 1)) 1]
      refine ⟨hXb, ?_⟩
      subst hS
      refine seq_n fun S hS => ?_
      dsimp only [pIfT, tru, pVar, opt, gt, pEx, pMet, mApp, asRef, apd, one, kNil, pCons, pNil, nRef, uStr, asStr, pt, List.length_cons, List.length_nil]
      rw [gt_snoc os]
      dsimp only
      rw [pt_snoc os]
      refine ⟨by decide, rfl, by decide, rfl, ?_⟩
      subst hS
      refine seq_n fun S hS => for_g fun B hB => ?_
      dsimp only [bLenL, asLst, opt, lstV, one, List.cons_append, List.nil_append, iterV, aVar, pCall, pCons, pSubI, bin2, pVar, gt, bRng3, three, asInt, kNil, pLit, pNegI, pNil, cSubI]
      rw [gt_snoc os]
      dsimp only
      refine ⟨by decide, ⟨rfl, ⟨by decide, by decide⟩, by decide, by decide⟩, for_one (v := .int 1) rfl ?_⟩
      subst hB
      refine pif_t fun A B hA => ?_
      dsimp only [pt, pIf, cmp2, pItm, pVar, opt, gt, kGtS, asStr, iStr, asInt, pLit, iLst, asLst, lstV, pNegI, pSubI, bin2, cSubI]
      rw [gt_snoc os]
      dsimp only
      refine ⟨⟨by decide, by decide⟩, ix_drop (p := 0) rfl ⟨⟨by decide, by decide⟩, ix_last (l := []) ⟨⟨by decide, by decide⟩, ix_drop (p := 1) rfl ⟨⟨by decide, by decide⟩, ix_drop (p := 0) rfl (br_t (by decide) ?_)⟩⟩⟩⟩
      subst hA
      refine seq_g fun R₂ hR₂ => ?_
      dsimp only [pAsg, pAddS, bin2, pSlc, pItm, pVar, opt, gt, aSub, asInt, pSubI, cSubI, pLit, asRef, cAddS, asStr, sStr, oNo, oE, iLst, asLst, lstV, pNegI, pt]
      rw [gt_snoc os]
      dsimp only
      refine ⟨⟨by decide, by decide⟩, ix_drop (p := 0) rfl ⟨by decide, ⟨by decide, by decide⟩, ix_drop (p := 1) rfl ⟨by decide, by decide, ⟨by decide, by decide, by decide⟩, ?_⟩⟩⟩
      rw [pt_snoc os]
      subst hR₂
      refine seq_e ?_
      dsimp only [pDel, pVar, opt, gt, asInt, asRef, pt]
      rw [gt_snoc os]
      dsimp only
      rw [pt_snoc os]
      refine ⟨⟨by decide, by decide, by decide⟩, ?_⟩
      subst hS
      refine loop_e ?_
      dsimp only [pAsg, pGen, pLit, asStr, pVar, opt, gt, List.length_cons, List.length_nil, aVar, asLst, lstV, pt]
      rw [gt_snoc os]
      dsimp only
      refine ⟨⟨rfl, by decide, by decide⟩, ?_⟩
      subst hR
      refine seq_n fun R hR => ?_
      dsimp only [pAsg, pSub, pLit, aVar, asStr, pVar, opt, gt, pt]
      refine ⟨rfl, ⟨by decide, rfl⟩, ?_⟩
      subst hR
      refine seq_n fun R hR => ?_
      dsimp only [pAsg, pAddI, bin2, pVar, opt, gt, aVar, cAddI, asInt, pLit, pt]
      subst hR
      refine seq_e (pif_t fun A B hA => ?_)
      dsimp only [pIf, tNot, tru, pVar, opt, gt, uStr, asStr]
      refine ⟨by decide, br_t rfl ?_⟩
      subst hA
      dsimp only [pEx, pAdd, pVar, opt, gt, apd, pLit, asBm, pt]
      exact ⟨hab, rfl, fin _ _ _ _ _ _ _ _ (by decide) rfl⟩
    obtain ⟨rfl, rfl⟩ := List.cons.inj ((show [c] = spell c from by unfold spell; rw [if_neg c3, if_neg c4, if_neg c5]).trans hs)
    refine pif_f fun A B hB => ?_
    dsimp only [pIf, cmp2, pVar, opt, gt, kEqS, asStr, pLit]
    refine br_f (ne_d c1) ?_
    subst hB
    refine pif_f fun A B hB => ?_
    dsimp only [pIf, cmp2, pVar, opt, gt, kEqS, asStr, pLit]
    refine br_f (ne_d c2) ?_
    subst hB
    refine pif_f fun A B hB => ?_
    dsimp only [pIf, cmp2, pVar, opt, gt, kEqS, asStr, pLit]
    refine br_f (ne_d c3) ?_
    subst hB
    dsimp only [pEx, pAdd, pVar, opt, gt, apd, pCall, pCons, cFn, kNil, pNil, asBm, pt]
    refine c_escape F (fig_lt hc) ⟨hab, rfl, ?_⟩
    have := fin _ os (some (.str [c])) v8 v9 v10 v11 v12 c1 rfl
    rw [hs] at this
    rw [show txt c = _ from by unfold txt; rw [if_neg c2, if_neg c3, if_neg c4, if_neg c5]] at this
    exact this
  · rintro σ ⟨d, os, v7, v8, v9, v10, v11, v12, rfl, rfl⟩
    subst hR
    rw [List.append_nil] at q ⊢
    refine seq_n fun R hR => ?_
    dsimp only [pAssert, cmp2, pVar, opt, gt, kEqI, asInt]
    refine ⟨decide_eq_true rfl, ?_⟩
    subst hR
    refine show opt (frz 4 (_ :: os) (.ref 0)) _ from ?_
    rw [frz_ref rfl (okVs_map (fun o => by cases o <;> rfl) _)]
    exact q

end

section
open PySem PySem.Calls PyProof.Rows PySem.W
variable {D : GD}
noncomputable def fV (c : Nat) : V := .str (txt c)
noncomputable def tailV (a : Addr) : List (List Nat) → List V
  | [] => []
  | r :: rs => .raw a :: (r.map fV ++ tailV a rs)
noncomputable def tailT : List (List Nat) → List Nat
  | [] => []
  | [r] => [46, 42] ++ runT r
  | r :: r' :: rs => [40, 63, 62, 46, 42, 63] ++ runT r ++ [41] ++ tailT (r' :: rs)
/-- what is behind a run is nothing, or a star -/
theorem join_flat : ∀ l : List (List Nat), joinL [] l = l.flatten
  | [] => rfl
  | [a] => (List.append_nil a).symm
  | a :: b :: l => by
    have := join_flat (b :: l)
    unfold joinL
    rw [this, List.append_nil]
    rfl
theorem sum_flat (l : List (List Nat)) : (l.map fun y => y.length + 0).sum = l.flatten.length := List.length_flatten.symm
theorem txt_le (c : Nat) : (txt c).length ≤ 6 := by
  unfold txt
  split
  · decide
  split
  · decide
  split
  · decide
  split
  · decide
  split
  · exact (by decide : 2 ≤ 6)
  · exact (by decide : 1 ≤ 6)
theorem runT_le : ∀ r : List Nat, (runT r).length ≤ 6 * r.length
  | [] => Nat.le_refl _
  | c :: r => by
    have := runT_le r
    have := txt_le c
    rw [runT_cons, List.length_append, List.length_cons]
    omega
theorem jp_end {P : List V} {a : Addr} {i : Nat} {rs : List (List Nat)} {K : Bool → Prop} (hP : P.drop i = tailV a rs) (hl : P.length ≤ 1000) (h : K false) :
    br (decide ((i : Int) < P.length)) ((-2 ^ 62 < (i : Int) ∧ (i : Int) < 2 ^ 62) ∧ ix P i fun w => ∃ t, IsV w (.raw a) t ∧ K (!t)) (K false) := by
  cases rs with
  | nil => exact br_f (decide_eq_false fun z => absurd (List.drop_eq_nil_iff.mp hP) (Nat.not_le.mpr (Int.ofNat_lt.mp z))) h
  | cons r rs =>
    have := drop_le hP
    exact br_t (decide_eq_true (Int.ofNat_lt.mpr this)) ⟨fit62 (by omega), ix_drop hP ⟨true, .rr a, h⟩⟩
theorem jp_fix {P : List V} {a : Addr} {i : Nat} {r : List Nat} {rs : List (List Nat)} {v2 v3 : Option V} {ts : List V} {os : List (List V)} {hd : Option (List V)} {Q : Fl → T → Prop} (hP : P.drop i = r.map fV ++ tailV a rs) (hl : P.length ≤ 1000)
    (h : Q .nxt ⟨[some (.lst P), some (.raw a), v2, v3, some (.int (i + r.length : Nat)), some (.int P.length), some (.ref (os.length + 1))], ts :: (os ++ [r.map fV]), hd⟩) :
    pWhile (tAnd (cmp2 kLt (pVar 4) (pVar 5)) (cmp2 kIsNot (pItm iLst (pVar 0) (pVar 4)) (pVar 1))) (pSeq (pEx (pMet nRef mApp (pVar 6) (pCons (pItm iLst (pVar 0) (pVar 4)) (pNil)) (kNil))) (pAug gAddI 4 (pLit (.int 1))))
      ⟨[some (.lst P), some (.raw a), v2, v3, some (.int i), some (.int P.length), some (.ref (os.length + 1))], ts :: (os ++ [[]]), hd⟩ Q := by
  have hB : (1000 : Nat) < big := by decide
  refine ⟨r.length + 1, while_list (α := Nat) (fun l σ => ∃ d, r = d ++ l ∧ σ = ⟨[some (.lst P), some (.raw a), v2, v3, some (.int (i + d.length : Nat)), some (.int P.length), some (.ref (os.length + 1))], ts :: (os ++ [d.map fV]), hd⟩) ?_ ?_ r _ ⟨[], rfl, rfl⟩ ?_⟩
  · rintro σ K ⟨d, rfl, rfl⟩ k
    rw [List.append_nil] at hP
    have hd := drop_more hP
    rw [List.length_map] at hd
    dsimp only [tAnd, cmp2, pVar, opt, gt, pItm, kIsNot, iLst, asLst, lstV, asInt, kLt]
    exact jp_end (K := fun b => K b _) hd hl k
  · rintro c l σ K K' ⟨d, rfl, rfl⟩ k
    rw [List.map_append, List.append_assoc] at hP
    have hd := drop_more hP
    rw [List.length_map] at hd
    have hp := drop_le hd
    have k := k _ ⟨d ++ [c], by rw [List.append_assoc]; rfl, rfl⟩
    rw [List.map_append, List.length_append] at k
    generalize hb : pSeq _ _ = B
    dsimp only [tAnd, cmp2, pVar, opt, gt, pItm, kIsNot, iLst, asLst, lstV, asInt, kLt]
    refine br_t (decide_eq_true (Int.ofNat_lt.mpr hp)) ⟨fit62 (by omega), ix_drop hd ⟨false, .sr a _, br_t rfl ?_⟩⟩
    subst hb
    dsimp only [pSeq, pEx, pMet, pVar, opt, gt, pAug, gAddI, asInt, pLit, mApp, asRef, apd, one, kNil, pCons, pItm, pNil, iLst, asLst, lstV, nRef, pt]
    refine ⟨fit62 (by omega), ix_drop hd ?_⟩
    rw [gt_snoc os]
    dsimp only
    rw [pt_snoc os]
    refine ⟨?_, rfl, k⟩
    rw [List.length_map]
    exact Nat.lt_of_le_of_lt (Nat.le_trans (Nat.le_add_left _ _) (Nat.le_trans (Nat.le_of_lt hp) hl)) hB
  · rintro σ ⟨d, rfl, rfl⟩
    rw [List.append_nil] at h
    exact h
/-- the runs behind the stars -/
theorem jp_runs {P : List V} {a : Addr} {hd : Option (List V)} {Q : Fl → T → Prop} (hl : P.length ≤ 1000) : ∀ (rs : List (List Nat)) (i : Nat) (ts : List (List Nat)) (os : List (List V)) (v6 : Option V), P.drop i = tailV a rs → i ≤ P.length → (∀ x ∈ rs.dropLast, x ≠ []) → ts.length + 2 * rs.length ≤ 1000 →
    (∀ (ts' : List (List Nat)) os v6, ts'.flatten = ts.flatten ++ tailT rs → ts'.length ≤ ts.length + 2 * rs.length → Q .nxt ⟨[some (.lst P), some (.raw a), some (.ref 0), some (.bm 0), some (.int P.length), some (.int P.length), v6], ts'.map .str :: os, hd⟩) →
    whileGo (cmp2 kLt (pVar 4) (pVar 5)) (pSeq (pAssert (cmp2 kIs (pItm iLst (pVar 0) (pVar 4)) (pVar 1))) (pSeq (pAug gAddI 4 (pLit (.int 1))) (pSeq (pIf (cmp2 kEqI (pVar 4) (pVar 5)) (pSeq (pEx (pAdd (pVar 3) (pLit (.str [46, 42])))) (pBrk)) (pSkip)) (pSeq (pAssert (cmp2 kIsNot (pItm iLst (pVar 0) (pVar 4)) (pVar 1))) (pSeq (pAsg (pNew (pNil)) (aVar 6)) (pSeq (pWhile (tAnd (cmp2 kLt (pVar 4) (pVar 5)) (cmp2 kIsNot (pItm iLst (pVar 0) (pVar 4)) (pVar 1))) (pSeq (pEx (pMet nRef mApp (pVar 6) (pCons (pItm iLst (pVar 0) (pVar 4)) (pNil)) (kNil))) (pAug gAddI 4 (pLit (.int 1))))) (pSeq (pAsg (pMet nStr mJoin (pLit (.str [])) (pCons (pVar 6) (pNil)) (kNil)) (aVar 6)) (pIf (cmp2 kEqI (pVar 4) (pVar 5)) (pSeq (pEx (pAdd (pVar 3) (pLit (.str [46, 42])))) (pEx (pAdd (pVar 3) (pVar 6)))) (pEx (pAdd (pVar 3) (pJoin (jLit [40, 63, 62, 46, 42, 63] (jVal (pVar 6) (jLit [41] (jNil)))))))))))))))
      (rs.length + 1) ⟨[some (.lst P), some (.raw a), some (.ref 0), some (.bm 0), some (.int i), some (.int P.length), v6], ts.map .str :: os, hd⟩ Q
  | [], i, ts, os, v6, hP, hi, hg, hn, q => by
    have e : i = P.length := Nat.le_antisymm hi (List.drop_eq_nil_iff.mp hP)
    refine while_t ?_
    generalize pSeq _ _ = B
    dsimp only [List.length_nil, cmp2, pVar, opt, gt, kLt, asInt]
    refine br_f (decide_eq_false (by omega)) ?_
    have q := q ts os v6 (List.append_nil _).symm (Nat.le_add_right _ _)
    rw [e]
    exact q
  | r :: rs, i, ts, os, v6, hP, hi, hg, hn, q => by
    have hp := drop_le hP
    have h1 : P.drop (i + 1) = r.map fV ++ tailV a rs := by rw [← List.drop_drop, hP]; rfl
    have hB : (1000000 : Nat) < big := by decide
    dsimp only [List.length_cons] at hn
    have ht : ∀ x : List (List Nat), x.length ≤ 1000 → (x.map V.str).length < big := fun x h => by rw [List.length_map]; omega
    refine while_t ?_
    generalize hL : loopK _ _ (rs.length + 1) Q = L
    generalize hb : pSeq _ _ = B
    dsimp only [cmp2, pVar, opt, gt, kLt, asInt]
    refine br_t (decide_eq_true (Int.ofNat_lt.mpr hp)) ?_
    subst hb
    refine seq_g fun R hR => ?_
    dsimp only [pAssert, cmp2, pItm, pVar, opt, gt, kIs, iLst, asLst, lstV, asInt]
    refine ⟨fit62 (by omega), ix_drop hP ⟨true, .rr a, rfl, ?_⟩⟩
    subst hR
    refine seq_n fun R hR => ?_
    dsimp only [pAug, opt, gt, gAddI, asInt, pLit, pt]
    subst hR
    cases r with
    | nil =>
      cases rs with
      | cons r' rs => exact absurd rfl (hg [] (.head _))
      | nil =>
        have e : i + 1 = P.length := Nat.le_antisymm hp (List.drop_eq_nil_iff.mp h1)
        refine seq_n fun R hR => pif_t fun A B hA => ?_
        dsimp only [pIf, cmp2, pVar, opt, gt, kEqI, asInt]
        refine br_t (decide_eq_true (by omega)) ?_
        subst hA
        dsimp only [pSeq, pEx, pAdd, pVar, opt, gt, pBrk, apd, pLit, asBm, pt]
        refine ⟨ht ts (by omega), rfl, ?_⟩
        subst hL
        have q := q (ts ++ [[46, 42]]) os v6 (by rw [List.flatten_append]; rfl) (by rw [List.length_append]; exact Nat.add_le_add_left (by decide) _)
        rw [List.map_append] at q
        rw [show (i : Int) + 1 = P.length from by omega]
        exact q
    | cons c r =>
      have hp1 := drop_le h1
      refine seq_n fun R hR => pif_f fun A B hB' => ?_
      dsimp only [pIf, cmp2, pVar, opt, gt, kEqI, asInt]
      refine br_f (decide_eq_false (by omega)) ?_
      subst hB'
      subst hR
      refine skip_e (seq_n fun R hR => ?_)
      dsimp only [pAssert, cmp2, pItm, pVar, opt, gt, kIsNot, iLst, asLst, lstV, asInt]
      refine ⟨fit62 (p := i + 1) (by omega), ix_drop (p := i + 1) h1 ⟨false, .sr a _, rfl, ?_⟩⟩
      subst hR
      refine seq_n fun R hR => ?_
      dsimp only [pAsg, pNew, pNil, aVar, List.cons_append, List.length_cons, pt]
      rw [show ∀ x : List (List V), x ++ [[]] = x ++ [[]] from fun _ => rfl]
      subst hR
      refine seq_n fun R hR => ?_
      refine jp_fix (i := i + 1) h1 hl ?_
      subst hR
      refine seq_n fun R hR => ?_
      dsimp only [List.length_cons, List.map, pAsg, pMet, pLit, nStr, asStr, pCons, pVar, opt, gt, aVar, mJoin, one, List.length_nil, asLst, lstV, kNil, pNil, pt]
      rw [gt_snoc os]
      have hr : r.length + 1 ≤ 1000 := by
        have := congrArg List.length h1
        rw [List.length_drop, List.length_append, List.length_map, List.length_cons] at this
        omega
      have h6 := runT_le (c :: r)
      rw [List.length_cons] at h6
      dsimp only
      rw [show strsOf (fV c :: r.map fV) = some ((c :: r).map txt) from strs_map (c :: r)]
      dsimp only
      rw [sum_flat, join_flat]
      refine ⟨by change (runT (c :: r)).length ≤ big; omega, ?_⟩
      have h2 := drop_more h1
      rw [List.length_map, List.length_cons] at h2
      subst hR
      change seqK _ _ _ ⟨[_, _, _, _, _, _, some (.str (runT (c :: r)))], _, _⟩
      generalize hw : runT (c :: r) = w at h6 ⊢
      have hi2 : i + 1 + (r.length + 1) ≤ P.length := by
        have := congrArg List.length h1
        rw [List.length_drop, List.length_append, List.length_map, List.length_cons] at this
        omega
      refine seq_e ?_
      cases rs with
      | nil =>
        have e : i + 1 + (r.length + 1) = P.length := Nat.le_antisymm hi2 (List.drop_eq_nil_iff.mp h2)
        refine pif_t fun A B hA => ?_
        dsimp only [pIf, cmp2, pVar, opt, gt, kEqI, asInt]
        refine br_t (decide_eq_true (by omega)) ?_
        subst hA
        dsimp only [pSeq, pEx, pAdd, pVar, opt, gt, apd, asBm, pLit, pt]
        refine ⟨ht ts (by omega), rfl, ?_, rfl, ?_⟩
        · rw [List.length_append, List.length_map]
          dsimp only [List.length_cons, List.length_nil]
          omega
        · subst hL
          have := jp_runs hl [] _ (ts ++ [[46, 42], w]) (os ++ [(c :: r).map fV]) (some (.str w)) h2 hi2 (fun _ h => nomatch h) (by rw [List.length_append]; dsimp only [List.length_cons, List.length_nil] at hn ⊢; omega) fun ts' os v6 h3 h4 => q ts' os v6 (by rw [h3, List.flatten_append, ← hw]; show _ ++ ([46, 42] ++ (runT (c :: r) ++ [])) ++ [] = _; rw [List.append_nil, List.append_nil]; rfl) (by rw [List.length_append] at h4; exact h4)
          rw [List.map_append] at this
          rw [List.append_assoc]
          exact this
      | cons r' rs =>
        have := drop_le h2
        refine pif_f fun A B hB' => ?_
        dsimp only [pIf, cmp2, pVar, opt, gt, kEqI, asInt]
        refine br_f (decide_eq_false (by omega)) ?_
        subst hB'
        dsimp only [pEx, pAdd, pVar, opt, gt, apd, pJoin, jLit, List.length_nil, List.length_cons, List.nil_append, jVal, List.cons_append, jNil, asStr, asBm, pt]
        refine ⟨by decide, by omega, by omega, ht ts (by omega), rfl, ?_⟩
        subst hL
        have := jp_runs hl (r' :: rs) _ (ts ++ [[40, 63, 62, 46, 42, 63] ++ w ++ [41]]) (os ++ [(c :: r).map fV]) (some (.str w)) h2 hi2 (fun x h => hg x (.tail _ h)) (by rw [List.length_append]; dsimp only [List.length_cons, List.length_nil] at hn ⊢; omega) fun ts' os v6 h3 h4 => q ts' os v6 (by rw [h3, List.flatten_append, ← hw, List.append_assoc, List.flatten_singleton]; rfl) (by rw [List.length_append] at h4; dsimp only [List.length_cons, List.length_nil] at h4 ⊢; omega)
        rw [List.map_append] at this
        exact this
theorem ok_tail (a : Addr) : ∀ rs : List (List Nat), okVs (tailV a rs) = true
  | [] => rfl
  | r :: rs => okVs_app (okVs_map (fun _ => rfl) r) (ok_tail a rs)
theorem tail_len (a : Addr) : ∀ rs : List (List Nat), rs.length ≤ (tailV a rs).length
  | [] => Nat.le_refl _
  | r :: rs => by
    have := tail_len a rs
    show rs.length + 1 ≤ (r.map fV ++ tailV a rs).length + 1
    rw [List.length_append]
    omega
theorem tailT_le (a : Addr) : ∀ rs : List (List Nat), (tailT rs).length ≤ 7 * (tailV a rs).length
  | [] => Nat.le_refl _
  | [r] => by
    have := runT_le r
    show ([46, 42] ++ runT r).length ≤ 7 * ((r.map fV ++ []).length + 1)
    rw [List.length_append, List.length_append, List.length_map]
    dsimp only [List.length_cons, List.length_nil]
    omega
  | r :: r' :: rs => by
    have := runT_le r
    have := tailT_le a (r' :: rs)
    show ([40, 63, 62, 46, 42, 63] ++ runT r ++ [41] ++ tailT (r' :: rs)).length ≤ 7 * ((r.map fV ++ tailV a (r' :: rs)).length + 1)
    rw [List.length_append, List.length_append, List.length_append, List.length_append, List.length_map]
    dsimp only [List.length_cons, List.length_nil]
    omega
theorem c_joinParts (F : Footing D) {a : Addr} {r : List Nat} {rs : List (List Nat)} {hd : Option (List V)} {Q : V → Option (List V) → Prop} (hl : (r.map fV ++ tailV a rs).length ≤ 400) (hg : ∀ x ∈ rs.dropLast, x ≠ []) (q : Q (.str ([40, 63, 115, 58] ++ (runT r ++ tailT rs) ++ [41, 92, 90])) hd) : CallOk D 1 .joinParts [.lst (r.map fV ++ tailV a rs), .raw a] [] hd Q := by
  have ho : okVs (r.map fV ++ tailV a rs) = true := okVs_app (okVs_map (fun _ => rfl) r) (ok_tail a rs)
  refine run .joinParts F (b_joinParts F) (by decide +kernel) 5 rfl ⟨_, rfl⟩ ⟨Bool.and_eq_true_iff.mpr ⟨ho, rfl⟩, rfl⟩ ?_
  have hB : (400 : Nat) < big := by decide
  unfold pb_joinParts
  refine seq_g fun R hR => ?_
  dsimp only [List.map, mkls, List.replicate, List.cons_append, List.nil_append, pAsg, pNew, pNil, aVar, List.length_nil, pt]
  subst hR
  refine seq_n fun R hR => ?_
  dsimp only [pAsg, pAtt, pVar, opt, gt, aVar, aApp, asRef, pt]
  subst hR
  refine seq_n fun R hR => ?_
  dsimp only [bLenL, asLst, opt, lstV, one, pAsgT, pTup, pCons, pLit, pCall, pVar, gt, List.length_cons, List.length_nil, asTup, pts, pNil, kNil, pt]
  generalize hP : r.map fV ++ tailV a rs = P at hl ⊢
  have hP : P.drop 0 = r.map fV ++ tailV a rs := hP.symm
  refine ⟨Nat.le_of_lt (Nat.lt_of_le_of_lt hl hB), rfl, ?_⟩
  subst hR
  refine seq_n fun R hR => ⟨r.length + 1, ?_⟩
  refine while_list (α := Nat) (fun l σ => ∃ d, r = d ++ l ∧ σ = ⟨[some (.lst P), some (.raw a), some (.ref 0), some (.bm 0), some (.int (0 + d.length : Nat)), some (.int P.length), none], [d.map fV], hd⟩) ?_ ?_ r _ ⟨[], rfl, rfl⟩ ?_
  · rintro σ K ⟨d, rfl, rfl⟩ k
    rw [List.append_nil] at hP
    have hd := drop_more hP
    rw [List.length_map] at hd
    dsimp only [tAnd, cmp2, pVar, opt, gt, pItm, kIsNot, iLst, asLst, lstV, asInt, kLt]
    exact jp_end (K := fun b => K b _) hd (Nat.le_trans hl (by decide)) k
  · rintro c l σ K K' ⟨d, rfl, rfl⟩ k
    rw [List.map_append, List.append_assoc] at hP
    have hd := drop_more hP
    rw [List.length_map] at hd
    have hp := drop_le hd
    have k := k _ ⟨d ++ [c], by rw [List.append_assoc]; rfl, rfl⟩
    rw [List.map_append, List.length_append] at k
    generalize hb : pSeq _ _ = B
    dsimp only [tAnd, cmp2, pVar, opt, gt, pItm, kIsNot, iLst, asLst, lstV, asInt, kLt]
    refine br_t (decide_eq_true (Int.ofNat_lt.mpr hp)) ⟨fit62 (by omega), ix_drop hd ⟨false, .sr a _, br_t rfl ?_⟩⟩
    subst hb
    dsimp only [pSeq, pEx, pAdd, pVar, opt, gt, pAug, gAddI, asInt, pLit, apd, pItm, iLst, asLst, lstV, asBm, pt]
    refine ⟨fit62 (by omega), ix_drop hd ⟨?_, rfl, k⟩⟩
    rw [List.length_map]
    omega
  · rintro σ ⟨d, rfl, rfl⟩
    rw [List.append_nil] at q hP
    have h0 := drop_more hP
    rw [List.length_map] at h0
    have hd : d.length + (tailV a rs).length = P.length := by
      have := congrArg List.length hP
      rw [List.length_append, List.length_map] at this
      exact this.symm
    have hr := tail_len a rs
    subst hR
    refine seq_n fun R hR => ⟨rs.length + 1, ?_⟩
    have e : (d.map fV) = (d.map txt).map V.str := (List.map_map ..).symm
    rw [e]
    refine jp_runs (by omega) rs _ (d.map txt) [] none h0 (by omega) hg (by rw [List.length_map]; omega) fun ts os v6 h1 h2 => ?_
    have h3 : ts.flatten.length ≤ 100000 := by
      have := runT_le d
      have := tailT_le a rs
      rw [h1, List.length_append, ← show runT d = (d.map txt).flatten from rfl]
      omega
    rw [show (d.map txt).flatten = runT d from rfl] at h1
    have hB' : (100007 : Nat) ≤ big := by decide
    subst hR
    refine seq_n fun R hR => ?_
    dsimp only [pAssert, cmp2, pVar, opt, gt, kEqI, asInt]
    refine ⟨decide_eq_true rfl, ?_⟩
    subst hR
    refine seq_n fun R hR => ?_
    dsimp only [pAsg, pMet, pLit, nStr, asStr, pCons, pVar, opt, gt, aVar, mJoin, one, List.length_nil, asLst, lstV, kNil, pNil, pt]
    rw [(strs_map (g := fun x => x) ts).trans (congrArg some (List.map_id' ts))]
    dsimp only
    rw [sum_flat, join_flat, h1]
    rw [h1] at h3
    refine ⟨by omega, ?_⟩
    subst hR
    refine seq_e ?_
    dsimp only [pRet, pJoin, jLit, List.length_nil, List.length_cons, List.nil_append, leaveC, opt, jVal, pVar, gt, List.cons_append, jNil, asStr]
    refine ⟨by decide, by omega, by omega, ?_⟩
    rw [frz_ok rfl]
    exact q

end

section
open PySem PySem.Calls PyProof.Rows PySem.W
variable {D : GD}
noncomputable def partsR (r : Runs) : List (Option Nat) := r.1.flatMap (fun x => x.map some ++ [none]) ++ r.2.map some
theorem parts_snoc (cl : List (List Nat)) (x : List Nat) : partsR (cl ++ [x], []) = partsR (cl, x) ++ [none] := by
  unfold partsR
  rw [List.flatMap_append, List.append_assoc]
  rw [show (List.flatMap (fun x => x.map some ++ [none]) [x] : List (Option Nat)) = x.map some ++ [none] from List.append_nil _, List.map_nil, List.append_nil]
  exact (List.append_assoc ..).symm
theorem step_part (r : Runs) (c : Nat) : addP (partsR r) c = partsR (stepR r c) := by
  obtain ⟨cl, cur⟩ := r
  unfold addP
  by_cases hc : c = 42
  · subst hc
    rw [if_pos rfl]
    rcases List.eq_nil_or_concat cur with rfl | ⟨d, x, rfl⟩
    · rcases List.eq_nil_or_concat cl with rfl | ⟨e, y, rfl⟩
      · rfl
      · rw [List.concat_eq_append, show stepR (e ++ [y], []) 42 = (e ++ [y], []) from (if_pos rfl).trans <| if_neg fun z => z.elim (fun q => nomatch (List.append_eq_nil_iff.mp q).2) fun q => q rfl, parts_snoc, if_pos List.getLast?_concat]
    · rw [List.concat_eq_append, show stepR (cl, d ++ [x]) 42 = (cl ++ [d ++ [x]], []) from (if_pos rfl).trans <| if_pos (.inr (List.append_ne_nil_of_right_ne_nil _ (List.cons_ne_nil _ _))), parts_snoc, if_neg]
      unfold partsR
      rw [List.map_append, ← List.append_assoc, show List.map some [x] = [some x] from rfl, List.getLast?_concat]
      exact nofun
  · rw [if_neg hc, show stepR (cl, cur) c = (cl, cur ++ [c]) from if_neg hc]
    unfold partsR
    rw [List.map_append, ← List.append_assoc]
    rfl
theorem fold_part : ∀ (is : List Nat) (r : Runs), is.foldl addP (partsR r) = partsR (is.foldl stepR r)
  | [], r => rfl
  | c :: is, r => by rw [List.foldl_cons, List.foldl_cons, step_part, fold_part is]
theorem tail_of (a : Addr) : ∀ (cl : List (List Nat)) (cur : List Nat), tailV a (cl ++ [cur]) = .raw a :: (partsR (cl, cur)).map (partV a)
  | [], cur => by
    show V.raw a :: (cur.map fV ++ []) = V.raw a :: (cur.map some).map (partV a)
    rw [List.append_nil, List.map_map]
    rfl
  | r :: cl, cur => by
    show V.raw a :: (r.map fV ++ tailV a (cl ++ [cur])) = V.raw a :: List.map (partV a) ((r.map some ++ [none]) ++ cl.flatMap (fun x => x.map some ++ [none]) ++ cur.map some)
    rw [tail_of a cl cur, List.append_assoc, List.map_append, List.map_append, List.map_map, List.append_assoc]
    rfl
theorem good_step (r : Runs) (c : Nat) (h : ∀ x ∈ r.1.tail, x ≠ []) : ∀ x ∈ (stepR r c).1.tail, x ≠ [] := by
  obtain ⟨cl, cur⟩ := r
  unfold stepR
  split
  · split
    · rename_i h1
      cases cl with
      | nil => exact fun x hx => nomatch hx
      | cons a cl => exact fun x hx => (List.mem_append.mp hx).elim (h x) fun z => List.mem_singleton.mp z ▸ h1.resolve_left (List.cons_ne_nil _ _)
    · exact h
  · exact h
theorem good_fold : ∀ (is : List Nat) (r : Runs), (∀ x ∈ r.1.tail, x ≠ []) → ∀ x ∈ (is.foldl stepR r).1.tail, x ≠ []
  | [], r, h => h
  | c :: is, r, h => good_fold is _ (good_step r c h)
/-- the expression of runs -/
noncomputable def regexOf : List (List Nat) → List Nat
  | [] => []
  | r :: rs => [40, 63, 115, 58] ++ (runT r ++ tailT rs) ++ [41, 92, 90]
theorem runs_cons (is : List Nat) (a : Addr) : ∃ r rs, runsL is = r :: rs ∧ (is.foldl addP []).map (partV a) = r.map fV ++ tailV a rs ∧ ∀ x ∈ rs.dropLast, x ≠ [] := by
  have h := fold_part is ([], [])
  have g := good_fold is ([], []) fun x hx => nomatch hx
  change is.foldl addP [] = partsR (runsR is) at h
  change ∀ x ∈ (runsR is).1.tail, x ≠ [] at g
  rw [h]
  unfold runsL
  generalize runsR is = R at g
  obtain ⟨cl, cur⟩ := R
  cases cl with
  | nil => exact ⟨cur, [], rfl, (List.map_map ..).trans (List.append_nil _).symm, fun x hx => nomatch hx⟩
  | cons r cl => exact ⟨r, cl ++ [cur], rfl, (List.cons.inj (tail_of a (r :: cl) cur)).2.symm, by rw [List.dropLast_concat]; exact g⟩
theorem spell_le (c : Nat) : (spell c).length ≤ 6 := by
  unfold spell
  split
  · decide
  split
  · decide
  split
  · decide
  · exact (by decide : 1 ≤ 6)
theorem patT_le : ∀ r : List Nat, (patT r).length ≤ 6 * r.length
  | [] => Nat.le_refl _
  | c :: r => by
    rw [show patT (c :: r) = spell c ++ patT r from rfl, List.length_append, List.length_cons, Nat.mul_succ, Nat.add_comm]
    exact Nat.add_le_add (patT_le r) (spell_le c)
theorem c_translate (F : Footing D) {is : List Nat} {hd : Option (List V)} {Q : V → Option (List V) → Prop} (hi : ∀ c ∈ is, c ∈ figs) (hl : is.length ≤ 100) (q : Q (.str (regexOf (runsL is))) hd) : CallOk D 3 .translate [.str (patT is)] [] hd Q := by
  refine run .translate F (b_translate F) (by decide +kernel) 2 rfl ⟨_, rfl⟩ ⟨rfl, rfl⟩ ?_
  unfold pb_translate
  dsimp only [List.map, mkls, List.replicate, List.cons_append, List.nil_append, pSeq, pAsg, pCall, pNil, kNil, bObj, pCons, pVar, opt, pRet, leaveC, cFn, aVar, pLit, pt, gt]
  refine ⟨⟨rfl, rfl⟩, fun a => c_translateIn F hi (Nat.le_trans (patT_le is) (by omega)) ?_⟩
  obtain ⟨r, rs, h1, h2, h3⟩ := runs_cons is a
  have h4 := addP_len is []
  rw [h2]
  refine c_joinParts F (by rw [← h2, List.length_map]; rw [List.length_nil] at h4; omega) h3 ?_
  rw [h1] at q
  rw [frz_ok rfl]
  exact q

end

section
open PySem PySem.Calls PyProof.Rows PySem.W
variable {D : GD}
theorem isPre_get : ∀ {p l : List Nat} {i c : Nat}, isPre p l = true → p[i]? = some c → l[i]? = some c
  | a :: p, b :: l, 0, c, h, e => (beq_iff_eq.mp (Bool.and_eq_true_iff.mp h).1) ▸ e
  | a :: p, b :: l, i + 1, c, h, e => isPre_get (p := p) (l := l) (Bool.and_eq_true_iff.mp h).2 e
  | a :: p, [], _, _, h, _ => nomatch h
theorem pre_not {p l : List Nat} (i c : Nat) (e : p[i]? = some c) (h : l[i]? ≠ some c) : isPre p l = false := Bool.eq_false_iff.mpr fun z => h (isPre_get z e)
theorem get_not {l : List Nat} {i c : Nat} (h : c ∉ l) : l[i]? ≠ some c := fun z => h (List.mem_of_getElem? z)
theorem rpart_none : ∀ {l : List Nat}, 42 ∉ l → rpart [46, 42] l = none
  | [], _ => rfl
  | c :: r, h => by
    unfold rpart
    rw [rpart_none fun z => h (.tail _ z)]
    dsimp only
    rw [pre_not 1 42 rfl (get_not h)]
    rfl
theorem rpart_mid {l : List Nat} (h : 42 ∉ l) : ∀ x : List Nat, rpart [46, 42] (x ++ ([46, 42] ++ l)) = some (x, l)
  | [] => by
    have h2 : rpart [46, 42] (42 :: l) = none := by
      unfold rpart
      rw [rpart_none h]
      rfl
    show rpart [46, 42] (46 :: 42 :: l) = _
    unfold rpart
    rw [h2]
    rfl
  | c :: x => by
    show rpart [46, 42] (c :: (x ++ ([46, 42] ++ l))) = _
    unfold rpart
    rw [rpart_mid h x]
noncomputable abbrev sepG : List Nat := [40, 63, 62, 46, 42, 63]
theorem split_last : ∀ (x : List Nat) (n : Nat) (acc : List Nat), 62 ∉ x → splitGo sepG n acc x = [acc.reverse ++ x] ∨ n ≤ x.length
  | x, 0, acc, _ => .inr (Nat.zero_le _)
  | [], n + 1, acc, _ => .inl (congrArg (· :: []) (List.append_nil _).symm)
  | c :: x, n + 1, acc, h => (split_last x n (c :: acc) fun z => h (.tail _ z)).imp (fun e => by
      unfold splitGo
      rw [if_neg (Bool.eq_false_iff.mp (pre_not 2 62 rfl (get_not h))), e, List.reverse_cons, List.append_assoc]
      rfl) Nat.succ_le_succ
theorem split_mid : ∀ (x y : List Nat) (n : Nat) (acc : List Nat), 62 ∉ x → (x ++ (sepG ++ y)).length < n → ∃ m, y.length < m ∧ splitGo sepG n acc (x ++ (sepG ++ y)) = (acc.reverse ++ x) :: splitGo sepG m [] y
  | [], y, n + 1, acc, _, hn => ⟨n, Nat.lt_of_lt_of_le (Nat.lt_add_of_pos_right (n := y.length) (by decide : 0 < 6)) (Nat.le_of_lt_succ hn), by
    show splitGo sepG (n + 1) acc (40 :: ([63, 62, 46, 42, 63] ++ y)) = _
    rw [splitGo, if_pos (by rfl), List.append_nil]
    rfl⟩
  | c :: x, y, n + 1, acc, h, hn => by
    obtain ⟨m, h1, h2⟩ := split_mid x y n (c :: acc) (fun z => h (.tail _ z)) (Nat.lt_of_succ_lt_succ hn)
    refine ⟨m, h1, ?_⟩
    rw [List.cons_append, splitGo, if_neg (Bool.eq_false_iff.mp (pre_not 2 62 rfl ?_)), h2, List.reverse_cons, List.append_assoc]
    · rfl
    · match x, h with
      | [], _ => exact fun z => nomatch z
      | [a], _ => exact fun z => nomatch z
      | a :: b :: x, h => exact fun z => h (Option.some.inj z ▸ .tail _ (.tail _ (.head _)))
noncomputable def groupT (r : List Nat) : List Nat := runT r ++ [41]
theorem split_groups : ∀ (q : List (List Nat)) (x : List Nat) (n : Nat), 62 ∉ x → (∀ r ∈ q, 62 ∉ runT r) → (x ++ q.flatMap (fun r => sepG ++ groupT r)).length < n →
    splitGo sepG n [] (x ++ q.flatMap (fun r => sepG ++ groupT r)) = x :: q.map groupT
  | [], x, n, hx, _, hn => by
    rw [List.flatMap_nil, List.append_nil] at hn ⊢
    exact (split_last x n [] hx).resolve_right (Nat.not_le.mpr hn)
  | r :: q, x, n, hx, hq, hn => by
    rw [List.flatMap_cons, List.append_assoc] at hn ⊢
    obtain ⟨m, h1, h2⟩ := split_mid x (groupT r ++ q.flatMap (fun r => sepG ++ groupT r)) n [] hx hn
    rw [h2, split_groups q (groupT r) m (fun hm => (List.mem_append.mp hm).elim (hq r (.head _)) fun z => absurd (List.mem_singleton.mp z) (by decide)) (fun r hr => hq r (.tail _ hr)) h1]
    rfl
theorem tail_groups : ∀ (q : List (List Nat)) (l : List Nat), tailT (q ++ [l]) = q.flatMap (fun r => sepG ++ groupT r) ++ ([46, 42] ++ runT l)
  | [], l => rfl
  | [r], l => by
    show sepG ++ runT r ++ [41] ++ ([46, 42] ++ runT l) = (sepG ++ (runT r ++ [41]) ++ []) ++ _
    rw [List.append_nil, List.append_assoc sepG]
  | r :: r' :: q, l => by
    have ih := tail_groups (r' :: q) l
    show sepG ++ runT r ++ [41] ++ tailT (r' :: q ++ [l]) = (sepG ++ (runT r ++ [41]) ++ (r' :: q).flatMap _) ++ _
    rw [ih, List.append_assoc sepG, List.append_assoc (sepG ++ (runT r ++ [41]))]
theorem txt_signs : ∀ c ∈ figs, c ≠ 42 → 42 ∉ txt c ∧ 62 ∉ txt c := by decide +kernel
theorem runT_signs {r : List Nat} (h : ∀ c ∈ r, c ∈ figs ∧ c ≠ 42) : 42 ∉ runT r ∧ 62 ∉ runT r := by
  have k : ∀ x ∈ runT r, ∃ c ∈ r, x ∈ txt c := fun x hm => by
    obtain ⟨l, hl, hm⟩ := List.mem_flatten.mp hm
    obtain ⟨c, hc, rfl⟩ := List.mem_map.mp hl
    exact ⟨c, hc, hm⟩
  exact ⟨fun hm => let ⟨c, hc, m⟩ := k _ hm; (txt_signs c (h c hc).1 (h c hc).2).1 m, fun hm => let ⟨c, hc, m⟩ := k _ hm; (txt_signs c (h c hc).1 (h c hc).2).2 m⟩
theorem clip_neg {n k : Nat} (h : 0 < k) (hk : k ≤ n) : clip n (-(k : Int)) = n - k := by
  have e : clip n (-(k : Int)) = clip n ((n - k : Nat) : Int) := by
    unfold clip
    rw [if_pos (Int.neg_neg_of_pos (Int.natCast_pos.mpr h)), if_neg (Int.not_lt.mpr (Int.natCast_nonneg _)), Int.ofNat_sub hk, Int.add_comm]
    rfl
  rw [e, clip_nat, Nat.min_eq_left (Nat.sub_le n k)]
theorem cut_suf {α : Type} (a b : List α) (hb : 0 < b.length) : cutL (a ++ b) (some (-(b.length : Int))) none = b := by
  show ((a ++ b).drop (clip (a ++ b).length (-(b.length : Int)))).take ((a ++ b).length - clip (a ++ b).length (-(b.length : Int))) = b
  rw [clip_neg hb (List.length_append ▸ Nat.le_add_left _ _), List.length_append, Nat.add_sub_cancel, List.drop_left, Nat.add_sub_cancel_left, List.take_length]
theorem cut_in {α : Type} (a b c : List α) (hc : 0 < c.length) : cutL (a ++ (b ++ c)) (some (a.length : Int)) (some (-(c.length : Int))) = b := by
  show ((a ++ (b ++ c)).drop (clip (a ++ (b ++ c)).length (a.length : Int))).take (clip (a ++ (b ++ c)).length (-(c.length : Int)) - clip (a ++ (b ++ c)).length (a.length : Int)) = b
  rw [clip_nat, List.length_append, List.length_append, clip_neg hc (Nat.le_trans (Nat.le_add_left _ _) (Nat.le_add_left _ _)), Nat.min_eq_left (Nat.le_add_right _ _), List.drop_left, ← Nat.add_assoc, Nat.add_sub_cancel, Nat.add_sub_cancel_left, List.take_left]
theorem cut_tail {α : Type} (a : α) (b : List α) : cutL (a :: b) (some 1) none = b := by
  show ((a :: b).drop (clip (a :: b).length ((1 : Nat) : Int))).take ((a :: b).length - clip (a :: b).length ((1 : Nat) : Int)) = b
  rw [clip_nat, Nat.min_eq_left (show 1 ≤ (a :: b).length from Nat.succ_le_succ (Nat.zero_le _))]
  exact List.take_length

end

section
open PySem PySem.Calls PyProof.Rows PySem.W
variable {D : GD}
/-- a comprehension as a map, over given things -/
theorem compGo_mem {α : Type} {turn : PLC} {all : List V} (g h : α → V) (st : Option V → T) {Q : List V → T → Prop} (l : List α) (acc : List V) (c : Option V) (hs : ∀ a ∈ l, ∀ c (K : Option V → T → Prop), K (some (h a)) (st (some (g a))) → turn (g a) (st c) K) (hl : acc.length + l.length ≤ big) (q : ∀ c', Q (acc ++ l.map h) (st c')) : compGo false all turn (l.map g) acc (st c) Q :=
  compGo_map (hb := false) g h st (fun _ _ p => p) l acc c hs hl q
/-- a comprehension that leaves all out -/
theorem compGo_drop {α : Type} {turn : PLC} {all : List V} (g : α → V) (st : Option V → T) {Q : List V → T → Prop} (acc : List V) : ∀ (l : List α) (c : Option V), (∀ a ∈ l, ∀ c (K : Option V → T → Prop), K none (st (some (g a))) → turn (g a) (st c) K) → (∀ c', Q acc (st c')) → compGo false all turn (l.map g) acc (st c) Q
  | [], c, _, q => q c
  | a :: l, c, hs, q => hs a (.head _) c _ (compGo_drop g st acc l _ (fun b hb => hs b (.tail _ hb)) q)
theorem ok_runs (rs : List (List Nat)) : okV (.lst (rs.map runV)) = true := okVs_map (g := runV) (fun r => ok_run r) rs
theorem c_home (F : Footing D) {rs : List (List Nat)} {hd : Option (List V)} {Q : V → Option (List V) → Prop} (hne : rs ≠ []) (hi : ∀ r ∈ rs, (∀ c ∈ r, c ∈ figs ∧ c ≠ 42) ∧ (runT r).length ≤ 1000) (hn : rs.length ≤ 1000) (hb : (regexOf rs).length ≤ 100000) (q : Q (.lst (rs.map runV)) hd) : CallOk D 3 .home [.str (regexOf rs)] [] hd Q := by
  obtain ⟨r0, rest, rfl⟩ := List.exists_cons_of_ne_nil hne
  refine run .home F (b_home F) (by decide +kernel) 4 rfl ⟨_, rfl⟩ ⟨rfl, rfl⟩ ?_
  have hB : (100000 : Nat) < big := by decide
  unfold pb_home
  generalize hX : runT r0 ++ tailT rest = X
  have hreg : regexOf (r0 :: rest) = [40, 63, 115, 58] ++ (X ++ [41, 92, 90]) := by rw [← hX]; exact List.append_assoc ..
  generalize regexOf (r0 :: rest) = reg at hb hreg ⊢
  have c1 : cutL reg none (some 4) = [40, 63, 115, 58] := (cut_pre reg 4).trans (by rw [hreg]; rfl)
  have c2 : cutL reg (some (-3)) none = [41, 92, 90] := by rw [hreg, ← List.append_assoc]; exact cut_suf _ [41, 92, 90] (by decide)
  have c3 : cutL reg (some 4) (some (-3)) = X := by rw [hreg]; exact cut_in [40, 63, 115, 58] X [41, 92, 90] (by decide)
  have hr : reg.length ≤ big := Nat.le_of_lt (Nat.lt_of_le_of_lt hb hB)
  have hXb : X.length < big := by
    rw [hreg, List.length_append, List.length_append] at hb
    exact Nat.lt_of_le_of_lt (Nat.le_trans (Nat.le_trans (Nat.le_add_right _ _) (Nat.le_add_left _ _)) hb) hB
  refine seq_g fun R hR => pif_f fun A B hB' => ?_
  dsimp only [List.map, mkls, List.replicate, List.cons_append, List.nil_append, pIf, tOr, cmp2, pSlc, pVar, opt, gt, kNeS, asStr, pLit, sStr, oNo, oE, pNegI, asInt]
  rw [c1, c2]
  refine ⟨hr, br_f rfl ⟨hr, br_f rfl ?_⟩⟩
  subst hB'
  subst hR
  refine skip_e (seq_n fun R hR => ?_)
  dsimp only [pAsg, pMet, pSlc, pVar, opt, gt, aTup, asTup, List.length_cons, List.length_nil, mRpart, asStr, one, kNil, pCons, pLit, pNil, nStr, sStr, oE, pNegI, asInt]
  rw [c3]
  subst hX
  refine ⟨hr, ⟨by exact nofun, Nat.le_of_lt hXb⟩, ?_⟩
  unfold rpartV
  cases rest with
  | nil =>
    have e : runT r0 ++ tailT [] = runT r0 := List.append_nil _
    rw [e, rpart_none (runT_signs (hi r0 (.head _)).1).1]
    refine ⟨rfl, ?_⟩
    subst hR
    refine seq_n fun R hR => pif_t fun A B hA => ?_
    dsimp only [pts, pt, pIf, cmp2, pVar, opt, gt, kEqS, asStr, pLit]
    refine br_t rfl ?_
    subst hA
    dsimp only [pRet, pLst, pCons, pCall, pVar, opt, gt, pNil, cFn, kNil]
    refine c_atoms F (hi r0 (.head _)).1 (hi r0 (.head _)).2 ?_
    subst hR
    show opt (frz 4 [] (.lst ([r0].map runV))) _
    rw [frz_ok (ok_runs [r0])]
    exact q
  | cons r1 rest =>
    obtain ⟨q', l, hq⟩ : ∃ q l, r1 :: rest = q ++ [l] := ⟨_, _, (List.dropLast_concat_getLast (List.cons_ne_nil r1 rest)).symm⟩
    rw [hq] at hi hn q hXb ⊢
    rw [tail_groups, ← List.append_assoc] at hXb ⊢
    have hl := hi l (.tail _ (List.mem_append_right _ (.head _)))
    have hg : ∀ r ∈ q', (∀ c ∈ r, c ∈ figs ∧ c ≠ 42) ∧ (runT r).length ≤ 1000 := fun r hr => hi r (.tail _ (List.mem_append_left _ hr))
    have hs : splitL [40, 63, 62, 46, 42, 63] (runT r0 ++ q'.flatMap fun r => sepG ++ groupT r) = runT r0 :: q'.map groupT := split_groups q' (runT r0) _ (runT_signs (hi r0 (.head _)).1).2 (fun r hr => (runT_signs (hg r hr).1).2) (Nat.lt_succ_self _)
    generalize runT r0 ++ (q'.flatMap fun r => sepG ++ groupT r) = W at hXb hs ⊢
    rw [rpart_mid (runT_signs hl.1).1]
    refine ⟨rfl, ?_⟩
    subst hR
    refine seq_n fun R hR => pif_f fun A B hB' => ?_
    dsimp only [pts, pt, pIf, cmp2, pVar, opt, gt, kEqS, asStr, pLit]
    refine br_f rfl ?_
    subst hB'
    subst hR
    refine skip_e (seq_n fun R hR => ?_)
    dsimp only [pAsg, pMet, pVar, opt, gt, aVar, mSplit, asStr, one, kNil, pCons, pLit, pNil, nStr, pt]
    rw [hs, List.map_cons, List.map_map]
    refine ⟨⟨by exact nofun, by rw [List.length_append] at hXb; exact Nat.lt_of_le_of_lt (Nat.le_add_right _ _) hXb⟩, ?_⟩
    have hn' : q'.length + 2 ≤ 1000 := by rw [List.length_cons, List.length_append] at hn; exact hn
    have ho : okVs (V.str (runT r0) :: q'.map (V.str ∘ groupT)) = true := okVs_map (g := V.str ∘ groupT) (fun _ => rfl) q'
    have hb2 : (V.str (runT r0) :: q'.map (V.str ∘ groupT)).length ≤ big := by rw [List.length_cons, List.length_map]; omega
    have hgb : ∀ r ∈ q', (groupT r).length ≤ big := fun r hr => by
      have := (hg r hr).2
      unfold groupT
      rw [List.length_append]
      exact Nat.le_trans (Nat.add_le_add_right this _) (by decide)
    subst hR
    refine seq_n fun R hR => pif_f fun A B hB' => ?_
    dsimp only [pIf, tru, pComp, pSlc, pVar, opt, gt, srcC, List.map, inn, uLst, asLst, lstV, sLst, oNo, oE, pLit, asInt, List.length_cons]
    rw [cut_tail]
    refine ⟨⟨ho, hb2⟩, compGo_drop (V.str ∘ groupT) (fun c => ⟨[c], [], hd⟩) [] q' none (fun r hr c K hK => ?_) fun c => ⟨Nat.zero_le _, br_f rfl ?_⟩⟩
    · dsimp only [lc1, aVar, cmp2, pSlc, pVar, opt, pt, gt, kNeS, asStr, pLit, sStr, oNo, oE, pNegI, asInt]
      refine ⟨hgb r hr, ?_⟩
      rw [show cutL (groupT r) (some (-1)) none = [41] from cut_suf (runT r) [41] (by decide)]
      exact br_f rfl hK
    subst hB'
    subst hR
    refine skip_e (seq_e ?_)
    dsimp only [pRet, pComp, pAddL, bin2, pSlc, pVar, opt, gt, srcC, List.map, inn, leaveC, cAddL, asLst, lstV, pLst, pCons, List.length_cons, pNil, List.length_nil, sLst, oNo, oE, pLit, asInt]
    rw [cut_tail, show cutL (V.str (runT r0) :: q'.map (V.str ∘ groupT)) none (some 1) = [V.str (runT r0)] from cut_pre _ 1]
    have h1 : okVs (q'.map (V.str ∘ runT)) = true := okVs_map (g := V.str ∘ runT) (fun _ => rfl) q'
    refine ⟨⟨ho, hb2⟩, ⟨ho, hb2⟩, compGo_mem (V.str ∘ groupT) (V.str ∘ runT) (fun c => ⟨[c], [], hd⟩) q' [] none (fun r hr c K hK => ?_) (by rw [List.length_nil]; omega) fun c => ⟨⟨rfl, h1, ?_⟩, ⟨h1, rfl, ?_⟩, ?_⟩⟩
    · dsimp only [lc0, aVar, pSlc, pVar, opt, pt, gt, sStr, asStr, oE, pNegI, pLit, asInt, oNo]
      refine ⟨hgb r hr, ?_⟩
      rw [show cutL (groupT r) none (some (-1)) = runT r from cut_in [] (runT r) [41] (by decide)]
      exact hK
    · rw [List.nil_append, List.length_map]
      exact Nat.le_trans (Nat.le_of_eq (Nat.add_comm 1 _)) (by omega)
    · rw [List.nil_append, List.length_append, List.length_map]
      exact Nat.le_trans (Nat.le_of_eq (Nat.add_comm (1 + q'.length) 1)) (by omega)
    · rw [show [V.str (runT r0)] ++ ([] ++ q'.map (V.str ∘ runT)) ++ [V.str (runT l)] = (r0 :: (q' ++ [l])).map (V.str ∘ runT) from congrArg (V.str (runT r0) :: ·) (List.map_append (f := V.str ∘ runT) (l₁ := q') (l₂ := [l])).symm]
      refine compGo_mem (V.str ∘ runT) runV (fun c => ⟨[c], [], hd⟩) (r0 :: (q' ++ [l])) [] none (fun r hr c K hK => ?_) (by rw [List.length_nil]; omega) fun c => ?_
      · dsimp only [lc0, aVar, pCall, pCons, pVar, opt, pt, gt, cFn, kNil, pNil]
        exact c_atoms F (hi r hr).1 (hi r hr).2 hK
      · rw [List.nil_append, frz_ok (ok_runs (r0 :: (q' ++ [l])))]
        exact q

end

section
open PySem PySem.Calls PyProof.Rows PySem.W
variable {D : GD}
/-- small data, not deep -/
noncomputable def Nice (n : Nat) (v : V) : Prop := dataV v = true ∧ (toPy v).canLay0 = true ∧ (toPy v).depth ≤ n
theorem nice_all {n : Nat} : ∀ {l : List V}, (∀ v ∈ l, Nice n v) → dataVs l = true ∧ PyData.canLayAll0 (toPys l) = true ∧ PyData.depthAll (toPys l) ≤ n
  | [], _ => ⟨rfl, rfl, Nat.zero_le _⟩
  | a :: r, h =>
    let ⟨h1, h2, h3⟩ := nice_all fun v hv => h v (.tail _ hv)
    let ⟨g1, g2, g3⟩ := h a (.head _)
    ⟨Bool.and_eq_true_iff.mpr ⟨g1, h1⟩, Bool.and_eq_true_iff.mpr ⟨g2, h2⟩, Nat.max_le.mpr ⟨g3, h3⟩⟩
theorem nice_lst {n : Nat} {l : List V} (h : ∀ v ∈ l, Nice n v) : Nice (n + 1) (.lst l) :=
  let ⟨h1, h2, h3⟩ := nice_all h
  ⟨h1, h2, show PyData.depthAll (toPys l) + 1 ≤ n + 1 from Nat.succ_le_succ h3⟩
theorem nice_tup {n : Nat} {l : List V} (h : ∀ v ∈ l, Nice n v) : Nice (n + 1) (.tup l) :=
  let ⟨h1, h2, h3⟩ := nice_all h
  ⟨h1, h2, show PyData.depthAll (toPys l) + 1 ≤ n + 1 from Nat.succ_le_succ h3⟩
theorem nice_str {n : Nat} {l : List Nat} (h : ∀ c ∈ l, c < 128) : Nice n (.str l) := by
  refine ⟨rfl, ?_, Nat.zero_le _⟩
  show PyData.strOk ⟨l.toArray⟩ = true
  unfold PyData.strOk
  rw [List.all_toArray, List.all_eq_true]
  exact fun c hc => decide_eq_true (Nat.lt_trans (h c hc) (by decide))
theorem nice_strs {n : Nat} {l : List (List Nat)} (h : ∀ x ∈ l, ∀ c ∈ x, c < 128) : Nice (n + 1) (.lst (l.map .str)) := nice_lst fun v hv => by
  obtain ⟨x, hx, rfl⟩ := List.mem_map.mp hv
  exact nice_str (h x hx)
theorem eq_self {v : V} (h : Nice 20 v) : eqOk v v ∧ eqV v v = true :=
  ⟨⟨⟨h.1, h.1⟩, ⟨h.2.1, h.2.1⟩, Nat.le_trans h.2.2 (by decide)⟩, PySem.SeqAt.eqv_refl _ h.2.1⟩
theorem nice_atoms : ∀ c ∈ figs, dataV (atomV c) = true ∧ (toPy (atomV c)).canLay0 = true ∧ (toPy (atomV c)).depth ≤ 9 := by decide +kernel
theorem nice_runs {rs : List (List Nat)} (h : ∀ r ∈ rs, ∀ c ∈ r, c ∈ figs) : Nice 11 (.lst (rs.map runV)) := nice_lst fun v hv => by
  obtain ⟨r, hr, rfl⟩ := List.mem_map.mp hv
  refine nice_lst fun v hv => ?_
  obtain ⟨c, hc, rfl⟩ := List.mem_map.mp hv
  exact nice_atoms c (h r hr c hc)
/-- the runs of few items -/
noncomputable def goodR (k : Nat) (r : Runs) : Prop := (∀ x ∈ r.1 ++ [r.2], ∀ c ∈ x, c ∈ figs ∧ c ≠ 42) ∧ (r.1 ++ [r.2]).flatten.length + r.1.length ≤ k
theorem good_one {k : Nat} {r : Runs} {c : Nat} (hc : c ∈ figs) (h : goodR k r) : goodR (k + 1) (stepR r c) := by
  obtain ⟨cl, cur⟩ := r
  obtain ⟨h1, h2⟩ := h
  dsimp only at h1 h2
  unfold stepR
  split
  · split
    · refine ⟨fun x hx => (List.mem_append.mp hx).elim (h1 x) fun z => List.mem_singleton.mp z ▸ fun _ h => (nomatch h), ?_⟩
      dsimp only
      rw [List.flatten_append, List.length_append, show (cl ++ [cur]).length = cl.length + 1 from List.length_append]
      exact Nat.succ_le_succ h2
    · exact ⟨h1, Nat.le_succ_of_le h2⟩
  · rename_i h42
    refine ⟨fun x hx => (List.mem_append.mp hx).elim (fun z => h1 x (List.mem_append_left _ z)) fun z => List.mem_singleton.mp z ▸ fun d hd => (List.mem_append.mp hd).elim (h1 cur (List.mem_append_right _ (.head _)) d) fun z => List.mem_singleton.mp z ▸ ⟨hc, h42⟩, ?_⟩
    dsimp only
    rw [List.flatten_append, List.length_append, List.flatten_singleton] at h2 ⊢
    rw [List.length_append]
    dsimp only [List.length_cons, List.length_nil]
    omega
theorem good_many : ∀ (is : List Nat) (k : Nat) (r : Runs), (∀ c ∈ is, c ∈ figs) → goodR k r → goodR (k + is.length) (is.foldl stepR r)
  | [], k, r, _, h => h
  | c :: is, k, r, hi, h => by
    have := good_many is (k + 1) (stepR r c) (fun d hd => hi d (.tail _ hd)) (good_one (hi c (.head _)) h)
    rw [Nat.succ_add_eq_add_succ] at this
    exact this
theorem tailT_len : ∀ rs : List (List Nat), (tailT rs).length ≤ 6 * rs.flatten.length + 7 * rs.length
  | [] => Nat.le_refl _
  | [r] => by
    have := runT_le r
    rw [List.flatten_singleton]
    show (runT r).length + 2 ≤ _ + 7
    omega
  | r :: r' :: rs => by
    have h1 := runT_le r
    have h2 := tailT_len (r' :: rs)
    show (sepG ++ runT r ++ [41] ++ tailT (r' :: rs)).length ≤ 6 * (r ++ (r' :: rs).flatten).length + 7 * ((r' :: rs).length + 1)
    rw [List.length_append, List.length_append, List.length_append, List.length_append]
    dsimp only [List.length_cons, List.length_nil] at h2 ⊢
    omega
structure RunsOk (is : List Nat) : Prop where
  signs : ∀ r ∈ runsL is, (∀ c ∈ r, c ∈ figs ∧ c ≠ 42) ∧ (runT r).length ≤ 1000
  few : (runsL is).length ≤ 1000
  expr : (regexOf (runsL is)).length ≤ 200
theorem runs_ok {is : List Nat} (hi : ∀ c ∈ is, c ∈ figs) (hl : is.length ≤ 4) : RunsOk is := by
  obtain ⟨g1, g2⟩ := good_many is 0 ([], []) hi ⟨fun x hx => List.mem_singleton.mp hx ▸ fun _ h => (nomatch h), Nat.le_refl _⟩
  rw [show is.foldl stepR ([], []) = runsR is from rfl] at g1 g2
  have hlen : (runsL is).length = (runsR is).1.length + 1 := List.length_append
  rw [show (runsR is).1 ++ [(runsR is).2] = runsL is from rfl] at g1 g2
  generalize (runsR is).1.length = n at g2 hlen
  refine ⟨fun r hr => ⟨g1 r hr, ?_⟩, by omega, ?_⟩
  · have h1 := runT_le r
    have : r.length ≤ (runsL is).flatten.length := (List.sublist_flatten_of_mem hr).length_le
    omega
  · cases hq : runsL is with
    | nil => exact Nat.zero_le _
    | cons r0 rest =>
      rw [hq] at g2 hlen
      have h1 := runT_le r0
      have h2 := tailT_len rest
      show ([40, 63, 115, 58] ++ (runT r0 ++ tailT rest) ++ [41, 92, 90]).length ≤ _
      rw [List.flatten_cons, List.length_append] at g2
      rw [List.length_append, List.length_append, List.length_append]
      dsimp only [List.length_cons, List.length_nil] at hlen ⊢
      omega

end

section
open PySem PySem.Calls PyProof.Rows PySem.W
variable {D : GD}
noncomputable def escC (c : Nat) : List Nat := if c = 92 then [92, 92] else if c = 34 then [92, 34] else [c]
theorem repl_esc : ∀ e : List Nat, repl 34 [92, 34] (repl 92 [92, 92] e) = e.flatMap escC
  | [] => rfl
  | c :: e => by
    have ih := repl_esc e
    unfold repl at ih ⊢
    rw [List.flatMap_cons, List.flatMap_append, ih, List.flatMap_cons]
    congr 1
    unfold escC
    by_cases hc : c = 92
    · rw [if_pos hc, if_pos hc]; rfl
    · rw [if_neg hc, if_neg hc]
      show (if c = 34 then [92, 34] else [c]) ++ [] = _
      rw [List.append_nil]
noncomputable abbrev B0 (bs : List (List Nat)) (b : List Nat) (m : Bool) : BS := ⟨bs, b, m, false⟩
theorem bits_esc (bs : List (List Nat)) : ∀ (e b : List Nat), (e.flatMap escC).foldl stepB (B0 bs b true) = B0 bs (b ++ e) true
  | [], b => by rw [List.append_nil]; rfl
  | c :: e, b => by
    rw [List.flatMap_cons, List.foldl_append]
    have h : (escC c).foldl stepB (B0 bs b true) = B0 bs (b ++ [c]) true := by
      unfold escC
      by_cases h1 : c = 92
      · subst h1; rfl
      · rw [if_neg h1]
        by_cases h2 : c = 34
        · subst h2; rfl
        · rw [if_neg h2]
          show stepB (B0 bs b true) c = _
          unfold stepB
          dsimp only
          rw [if_neg Bool.false_ne_true, if_neg (fun z => h1 z.2), if_neg h2, if_neg (fun z => Bool.false_ne_true z.2.symm)]
    rw [h, bits_esc bs e, List.append_assoc]
    rfl
/-- the parts that are due, and as they stand in the value -/
noncomputable def parL (e : List Nat) : List Nat := [112, 45, 48, 61, 10] ++ e ++ [10]
noncomputable def ownL : Option (List Nat) → List (List Nat)
  | none => []
  | some o => [o]
noncomputable def bareL (b : Bool) : List (List Nat) := if b then [[113, 45]] else []
noncomputable def dueT (own : Option (List Nat)) (bare : Bool) (e : List Nat) : List (List Nat) := ownL own ++ [parL e] ++ bareL bare
noncomputable def bitsOf (own : Option (List Nat)) (bare : Bool) (e : List Nat) : List (List Nat) := match dueT own bare e with
  | [] => []
  | d :: ds => d :: ds.map (32 :: ·)
noncomputable def valueOf (own : Option (List Nat)) (bare : Bool) (e : List Nat) : List Nat := joinL [59, 32] (ownL own ++ [[112, 45, 48] ++ [61, 34] ++ e.flatMap escC ++ [34]] ++ bareL bare)
noncomputable def ownT : Option (List Nat) → List Nat
  | none => []
  | some o => o ++ [59, 32]
theorem value_is (own : Option (List Nat)) (bare : Bool) (e : List Nat) : valueOf own bare e = ownT own ++ [112, 45, 48, 61, 34] ++ (e.flatMap escC ++ (if bare then [34, 59, 32, 113, 45] else [34])) := by
  unfold valueOf
  cases own <;> cases bare
  · rfl
  · exact (List.append_assoc ..).trans (List.append_assoc ..)
  · rename_i o
    show (o ++ [59, 32]) ++ ([112, 45, 48, 61, 34] ++ e.flatMap escC ++ [34]) = (o ++ [59, 32]) ++ [112, 45, 48, 61, 34] ++ (e.flatMap escC ++ [34])
    rw [List.append_assoc (o ++ [59, 32]), List.append_assoc [112, 45, 48, 61, 34]]
  · rename_i o
    show (o ++ [59, 32]) ++ (([112, 45, 48, 61, 34] ++ e.flatMap escC ++ [34]) ++ [59, 32] ++ [113, 45]) = (o ++ [59, 32]) ++ [112, 45, 48, 61, 34] ++ (e.flatMap escC ++ ([34] ++ ([59, 32] ++ [113, 45])))
    rw [List.append_assoc (o ++ [59, 32]), List.append_assoc [112, 45, 48, 61, 34], List.append_assoc, List.append_assoc, List.append_assoc, List.append_assoc, List.append_assoc]
theorem value_bits {own : Option (List Nat)} (ho : own ∈ ownList) (bare : Bool) (e : List Nat) :
    ((valueOf own bare e).foldl stepB (B0 [] [] false)).bits ++ [((valueOf own bare e).foldl stepB (B0 [] [] false)).bit] = bitsOf own bare e := by
  rw [value_is, List.foldl_append, List.foldl_append (l' := ite _ _ _)]
  unfold ownList at ho
  simp only [List.mem_cons, List.not_mem_nil, or_false] at ho
  rcases ho with rfl | rfl | rfl | rfl
  all_goals
    refine (congrArg (a₂ := B0 _ _ true) (fun t : BS => (List.foldl stepB (List.foldl stepB t (e.flatMap escC)) (if bare then [34, 59, 32, 113, 45] else [34])).bits ++ [(List.foldl stepB (List.foldl stepB t (e.flatMap escC)) (if bare then [34, 59, 32, 113, 45] else [34])).bit]) rfl).trans ?_
    rw [bits_esc]
    cases bare <;> rfl
theorem splitn_last : ∀ (x : List Nat) (n : Nat) (acc : List Nat), 10 ∉ x → splitGo [10] n acc x = [acc.reverse ++ x] ∨ n ≤ x.length
  | x, 0, acc, _ => .inr (Nat.zero_le _)
  | [], n + 1, acc, _ => .inl (congrArg (· :: []) (List.append_nil _).symm)
  | c :: x, n + 1, acc, h => (splitn_last x n (c :: acc) fun z => h (.tail _ z)).imp (fun e => by
      unfold splitGo
      rw [if_neg (Bool.eq_false_iff.mp (pre_not 0 10 rfl (get_not h))), e, List.reverse_cons, List.append_assoc]
      rfl) Nat.succ_le_succ
theorem splitn_mid : ∀ (x y : List Nat) (n : Nat) (acc : List Nat), 10 ∉ x → (x ++ (10 :: y)).length < n → ∃ m, y.length < m ∧ splitGo [10] n acc (x ++ (10 :: y)) = (acc.reverse ++ x) :: splitGo [10] m [] y
  | [], y, n + 1, acc, _, hn => ⟨n, Nat.lt_of_succ_lt_succ hn, by
    show splitGo [10] (n + 1) acc (10 :: y) = _
    rw [splitGo, if_pos (by rfl), List.append_nil]
    rfl⟩
  | c :: x, y, n + 1, acc, h, hn => by
    obtain ⟨m, h1, h2⟩ := splitn_mid x y n (c :: acc) (fun z => h (.tail _ z)) (Nat.lt_of_succ_lt_succ hn)
    refine ⟨m, h1, ?_⟩
    rw [List.cons_append, splitGo, if_neg (Bool.eq_false_iff.mp (pre_not (l := c :: (x ++ 10 :: y)) 0 10 rfl fun z => h ((Option.some.inj z : c = 10) ▸ .head _))), h2, List.reverse_cons, List.append_assoc]
    rfl
theorem split_three {a e : List Nat} (ha : 10 ∉ a) (he : 10 ∉ e) : splitL [10] (a ++ 10 :: (e ++ [10])) = [a, e, []] := by
  unfold splitL
  obtain ⟨m, h1, h2⟩ := splitn_mid a (e ++ [10]) _ [] ha (Nat.lt_succ_self _)
  obtain ⟨m', h3, h4⟩ := splitn_mid e [] m [] he h1
  rw [h2, h4, (splitn_last [] m' [] (fun h => nomatch h)).resolve_right (Nat.not_le.mpr h3)]
  rfl
/-- a sign that may stand in an expression -/
noncomputable def exprSign (c : Nat) : Bool := decide (c < 127) && !barVal c && c != 10
theorem txt_expr : ∀ c ∈ figs, ∀ x ∈ txt c, exprSign x = true := by decide +kernel
theorem runT_expr {r : List Nat} (h : ∀ c ∈ r, c ∈ figs) : ∀ x ∈ runT r, exprSign x = true := fun x hx => by
  obtain ⟨l, hl, hm⟩ := List.mem_flatten.mp hx
  obtain ⟨c, hc, rfl⟩ := List.mem_map.mp hl
  exact txt_expr c (h c hc) x hm
theorem app_all {p : Nat → Prop} {a b : List Nat} (ha : ∀ x ∈ a, p x) (hb : ∀ x ∈ b, p x) : ∀ x ∈ a ++ b, p x := fun x hx => (List.mem_append.mp hx).elim (ha x) (hb x)
theorem tailT_expr : ∀ {rs : List (List Nat)}, (∀ r ∈ rs, ∀ c ∈ r, c ∈ figs) → ∀ x ∈ tailT rs, exprSign x = true
  | [], _ => fun x hx => nomatch hx
  | [r], h => app_all (by decide) (runT_expr (h r (.head _)))
  | r :: r' :: rs, h => app_all (app_all (app_all (by decide) (runT_expr (h r (.head _)))) (by decide)) (tailT_expr (rs := r' :: rs) fun q hq => h q (.tail _ hq))
theorem regex_expr : ∀ {rs : List (List Nat)}, (∀ r ∈ rs, ∀ c ∈ r, c ∈ figs) → ∀ x ∈ regexOf rs, exprSign x = true
  | [], _ => fun x hx => nomatch hx
  | r :: rs, h => app_all (app_all (by decide) (app_all (runT_expr (h r (.head _))) (tailT_expr fun q hq => h q (.tail _ hq)))) (by decide)

end

section
open PySem PySem.Calls PyProof.Rows PySem.W
variable {D : GD}
/-- the expression of the items -/
noncomputable def exprOf (is : List Nat) : List Nat := regexOf (runsL is)
noncomputable def atI : Option (List Nat) → Int
  | none => 0
  | some _ => 1
theorem is_own (o : Option (List Nat)) : ∃ t, IsV (ownV o) .none t ∧ t = o.isNone := by
  cases o with
  | none => exact ⟨true, .nn, rfl⟩
  | some o => exact ⟨false, .sn o, rfl⟩
theorem drawn_ok (d : Drawn) : okV d.v = true := by
  show (true && (okV (ownV d.own) && (true && (okVs (itemsV d.items) && true)))) = true
  rw [ok_own, ok_items]
  rfl
theorem esc_len : ∀ e : List Nat, (e.flatMap escC).length ≤ 2 * e.length
  | [] => Nat.le_refl _
  | c :: e => by
    rw [List.flatMap_cons, List.length_append, List.length_cons, Nat.mul_succ, Nat.add_comm]
    refine Nat.add_le_add (esc_len e) ?_
    unfold escC
    split
    · exact Nat.le_refl _
    split
    · exact Nat.le_refl _
    · exact Nat.le_succ _
theorem value_len {own : Option (List Nat)} (ho : own ∈ ownList) (bare : Bool) (e : List Nat) : (valueOf own bare e).length ≤ 2 * e.length + 15 := by
  have h := esc_len e
  have h1 : ∀ o ∈ ownList, (ownT o).length ≤ 5 := by decide
  have h1 := h1 own ho
  have h2 : (if bare then [34, 59, 32, 113, 45] else [34] : List Nat).length ≤ 5 := by cases bare <;> decide
  rw [value_is, List.length_append, List.length_append, List.length_append]
  dsimp only [List.length_cons, List.length_nil]
  omega
theorem due_small {own : Option (List Nat)} (ho : own ∈ ownList) (bare : Bool) {e : List Nat} (h1 : e.length ≤ 200) (h2 : ∀ c ∈ e, c < 128) : ∀ x ∈ dueT own bare e, x.length ≤ 300 ∧ ∀ c ∈ x, c < 128 := fun x hx => by
  rcases List.mem_append.mp hx with hx | hx
  · rcases List.mem_append.mp hx with hx | hx
    · exact (by decide : ∀ o ∈ ownList, ∀ x ∈ ownL o, x.length ≤ 300 ∧ ∀ c ∈ x, c < 128) own ho x hx
    · rw [List.mem_singleton.mp hx]
      refine ⟨?_, app_all (app_all (by decide) h2) (by decide)⟩
      unfold parL
      rw [List.length_append, List.length_append]
      dsimp only [List.length_cons, List.length_nil]
      omega
  · exact (by decide : ∀ b, ∀ x ∈ bareL b, x.length ≤ 300 ∧ ∀ c ∈ x, c < 128) bare x hx
theorem ne_self {n : Nat} (hn : n ≤ 60) {v : V} (h : Nice n v) {σ : T} {Q : Bool → Prop} (q : Q false) : kNeD v v σ Q :=
  ⟨⟨⟨h.1, h.1⟩, ⟨h.2.1, h.2.1⟩, Nat.le_trans h.2.2 hn⟩, (show (!eqV v v) = false from congrArg (!·) (PySem.SeqAt.eqv_refl _ h.2.1 : eqV v v = true)).symm ▸ q⟩
theorem eq_self' {n : Nat} (hn : n ≤ 60) {v : V} (h : Nice n v) {σ : T} {Q : Bool → Prop} (q : Q true) : kEqD v v σ Q :=
  ⟨⟨⟨h.1, h.1⟩, ⟨h.2.1, h.2.1⟩, Nat.le_trans h.2.2 hn⟩, (show eqV v v = true from PySem.SeqAt.eqv_refl _ h.2.1).symm ▸ q⟩
theorem c_header (F : Footing D) {d : Drawn} (ok : d.Ok) {hd : Option (List V)} {Q : V → Option (List V) → Prop} (q : Q (.bool true) hd) : CallOk D 4 .header [d.v, .str d.name, .str (valueOf d.own d.bare (exprOf d.items))] [] hd Q := by
  obtain ⟨name, own, bare, items⟩ := d
  refine run .header F (b_header F) (by decide +kernel) 8 rfl ⟨_, rfl⟩ ⟨Bool.and_eq_true_iff.mpr ⟨drawn_ok _, rfl⟩, rfl⟩ ?_
  have RO : RunsOk items := runs_ok ok.items ok.few
  have hX : (exprOf items).length ≤ 200 := RO.expr
  have hX10 : 10 ∉ exprOf items := fun z => absurd (regex_expr (fun r hr c hc => ((RO.signs r hr).1 c hc).1) 10 z) (by decide)
  have hX128 : ∀ c ∈ exprOf items, c < 128 := fun c hc => Nat.lt_trans (of_decide_eq_true (Bool.and_eq_true_iff.mp (Bool.and_eq_true_iff.mp (regex_expr (fun r hr c hc => ((RO.signs r hr).1 c hc).1) c hc)).1).1) (by decide)
  have hho : ∀ {Q : V → Option (List V) → Prop}, Q (.lst ((runsL items).map runV)) hd → CallOk D 3 .home [.str (exprOf items)] [] hd Q := fun h => c_home F (by unfold runsL; exact List.append_ne_nil_of_right_ne_nil _ (List.cons_ne_nil _ _)) RO.signs RO.few (Nat.le_trans hX (by decide)) h
  unfold pb_header Drawn.v
  dsimp only
  have hown : own ∈ ownList := ok.own
  generalize exprOf items = X at hX hX10 hX128 hho ⊢
  have hbits := value_bits hown bare X
  refine seq_g fun R hR => ?_
  dsimp only [List.map, mkls, List.replicate, List.cons_append, List.nil_append, pAsg, pVar, opt, gt, aTup, asTup, List.length_cons, List.length_nil, pts, pt]
  refine ⟨rfl, ?_⟩
  subst hR
  refine seq_n fun R hR => ?_
  dsimp only [pAsg, pCall, pCons, pVar, opt, gt, aVar, cFn, kNil, pNil, pt]
  refine c_bits F (Nat.le_trans (value_len hown bare X) (by omega)) fun t ht => ?_
  rw [← ht] at hbits
  rw [hbits]
  subst hR
  refine seq_n fun R hR => ?_
  have h1 : seqK R (leaveC Q) .nxt ⟨[some (.tup [.str name, ownV own, .bool bare, .lst (itemsV items)]), some (.str name), some (.str (valueOf own bare X)), some (.str name), some (ownV own), some (.bool bare), some (.lst (itemsV items)), some (.lst ((bitsOf own bare X).map .str)), some (.int (atI own)), none, none], [], hd⟩ := by
    have hl : bare = true → ((bitsOf own bare X).map V.str).length = atI own + 2 := fun h => by subst h; cases own <;> rfl
    have hl' : bare = false → ((bitsOf own bare X).map V.str).length = atI own + 1 := fun h => by subst h; cases own <;> rfl
    have hx : ∃ a, 10 ∉ a ∧ a.length ≤ 5 ∧ ((bitsOf own bare X).map V.str)[(atI own).toNat]? = some (.str (a ++ 10 :: (X ++ [10]))) := by
      cases own with
      | none => exact ⟨[112, 45, 48, 61], by decide, by decide, by cases bare <;> rfl⟩
      | some o => exact ⟨[32, 112, 45, 48, 61], by decide, by decide, by cases bare <;> rfl⟩
    have ha : 0 ≤ atI own ∧ atI own ≤ 1 := by cases own <;> exact ⟨by show (0 : Int) ≤ _; unfold atI; dsimp only; decide, by unfold atI; dsimp only; decide⟩
    obtain ⟨a, h10, ha5, hx⟩ := hx
    have h2 : ((bitsOf own bare X).map V.str).length ≤ big := by
      have hB : (4 : Nat) ≤ big := by decide
      cases bare
      · have := hl' rfl; omega
      · have := hl rfl; omega
    have hB : (1000 : Nat) < big := by decide
    subst hR
    refine seq_n fun R hR => pif_f fun A B hB' => ?_
    dsimp only [bLenL, asLst, opt, lstV, one, pIf, tOr, cmp2, pVar, gt, pCall, pCons, kNeI, asInt, pAddI, bin2, cAddI, pIfE, tru, pLit, uBool, asBool, kNil, pNil, kNeS, asStr]
    subst hB'
    have h3 : seqK R (leaveC Q) .nxt ⟨[some (.tup [.str name, ownV own, .bool bare, .lst (itemsV items)]), some (.str name), some (.str (valueOf own bare X)), some (.str name), some (ownV own), some (.bool bare), some (.lst (itemsV items)), some (.lst ((bitsOf own bare X).map .str)), some (.int (atI own)), none, none], [], hd⟩ := by
      subst hR
      refine seq_n fun R hR => ?_
      dsimp only [pAsg, pMet, pItm, pVar, opt, gt, aVar, mSplit, asStr, one, kNil, pCons, pLit, pNil, nStr, iLst, asLst, lstV, asInt, pt]
      refine ⟨⟨by omega, by omega⟩, ix_at ha.1 hx ?_⟩
      dsimp only
      rw [split_three h10 hX10]
      refine ⟨⟨by exact nofun, ?_⟩, ?_⟩
      · rw [List.length_append, List.length_cons, List.length_append, List.length_singleton]; omega
      subst hR
      refine seq_n fun R hR => pif_f fun A B hB' => ?_
      dsimp only [bLenL, asLst, opt, lstV, one, List.map, pIf, tOr, cmp2, pCall, pCons, pVar, gt, pItm, cFn, kNil, pNil, iLst, asInt, pLit, kNeI, List.length_cons, List.length_nil]
      refine ⟨by decide, br_f rfl ⟨⟨by decide, by decide⟩, ix_drop (p := 1) rfl ?_⟩⟩
      refine hho (c_meant F (Nat.le_trans ok.few (by decide)) ?_)
      refine ne_self (by decide) (nice_runs (rs := runsL items) fun r hr c hc => ((RO.signs r hr).1 c hc).1) (br_f rfl ?_)
      subst hB'
      subst hR
      refine skip_e (seq_n fun R hR => ?_)
      have h4 : seqK R (leaveC Q) .nxt ⟨[some (.tup [.str name, ownV own, .bool bare, .lst (itemsV items)]), some (.str name), some (.str (valueOf own bare X)), some (.str name), some (ownV own), some (.bool bare), some (.lst (itemsV items)), some (.lst ((bitsOf own bare X).map .str)), some (.int (atI own)), some (.lst [.str a, .str X, .str []]), some (.lst ((dueT own bare X).map .str))], [], hd⟩ := by
        subst hR
        refine seq_e ?_
        dsimp only [pRet, pB, cmp2, pVar, opt, gt, leaveC, pAddL, bin2, pSlc, cAddL, asLst, lstV, pComp, srcC, List.map, inn, sLst, oNo, oE, pLit, asInt]
        have hds := due_small hown bare hX hX128
        have hlen : (dueT own bare X).length ≤ 3 := by cases own <;> cases bare <;> exact Nat.le_of_ble_eq_true rfl
        obtain ⟨d, ds, hd2⟩ : ∃ d ds, dueT own bare X = d :: ds := by cases own <;> exact ⟨_, _, rfl⟩
        have hbo : bitsOf own bare X = d :: ds.map (32 :: ·) := by unfold bitsOf; rw [hd2]
        have ho : okVs ((dueT own bare X).map V.str) = true := okVs_map (g := V.str) (fun _ => rfl) _
        have hlb : ((dueT own bare X).map V.str).length ≤ big := by rw [List.length_map]; omega
        have ho2 : okVs (ds.map fun x => V.str (32 :: x)) = true := okVs_map (g := fun x => V.str (32 :: x)) (fun _ => rfl) ds
        refine ⟨⟨ho, hlb⟩, ⟨ho, hlb⟩, ?_⟩
        rw [hd2] at hds hlen ⊢
        rw [List.length_cons] at hlen
        rw [List.map_cons, cut_tail, show cutL (V.str d :: ds.map V.str) none (some 1) = [V.str d] from cut_pre _ 1]
        refine compGo_mem V.str (fun x => V.str (32 :: x)) (fun c => ⟨[c], [], hd⟩) ds [] none (fun x hx c K hK => ?_) (by rw [List.length_nil]; omega) fun c => ⟨⟨rfl, ho2, ?_⟩, ?_⟩
        · dsimp only [lc0, aVar, pAddS, bin2, pLit, pVar, opt, pt, gt, cAddS, asStr, List.length_cons, List.length_nil, List.cons_append, List.nil_append]
          exact ⟨by have := (hds x (.tail _ hx)).1; omega, hK⟩
        · rw [List.nil_append, List.length_map]
          exact Nat.le_trans (Nat.le_of_eq (Nat.add_comm 1 _)) (by omega)
        · have e : [V.str d] ++ ([] ++ ds.map fun x => V.str (32 :: x)) = (bitsOf own bare X).map V.str := by
            rw [hbo, List.map_cons, List.map_map]
            rfl
          rw [e]
          refine eq_self' (n := 1) (by decide) (nice_strs fun x hx => ?_) ?_
          · rw [hbo] at hx
            rcases List.mem_cons.mp hx with rfl | hx
            · exact (hds _ (.head _)).2
            · obtain ⟨y, hy, rfl⟩ := List.mem_map.mp hx
              exact fun c hc => (List.mem_cons.mp hc).elim (fun z => z ▸ by decide) ((hds y (.tail _ hy)).2 c)
          · rw [frz_ok rfl]
            exact q
      dsimp only [pAsg, pAddL, bin2, pIfE, cmp2, pVar, opt, gt, aVar, cAddL, asLst, lstV, tru, pLst, pCons, pLit, pNil, List.length_cons, List.length_nil, uBool, asBool, pAddS, pItm, cAddS, asStr, List.cons_append, List.nil_append, iLst, asInt, kIs, pt]
      cases own with
      | none => exact ⟨true, .nn, br_t rfl ⟨⟨by decide, by decide⟩, ix_drop (p := 1) rfl ⟨by omega, by omega, ⟨rfl, rfl, by decide⟩, br_i (fun h => ⟨⟨rfl, rfl, by decide⟩, by subst h; exact h4⟩) fun h => ⟨⟨rfl, rfl, by decide⟩, by subst h; exact h4⟩⟩⟩⟩
      | some o => exact ⟨false, .sn o, br_f rfl ⟨⟨by decide, by decide⟩, ix_drop (p := 1) rfl ⟨by omega, by omega, ⟨rfl, rfl, by decide⟩, br_i (fun h => ⟨⟨rfl, rfl, by decide⟩, by subst h; exact h4⟩) fun h => ⟨⟨rfl, rfl, by decide⟩, by subst h; exact h4⟩⟩⟩⟩
    exact br_f (by rw [decide_eq_true rfl]; rfl) ⟨h2, br_i (fun h => br_f (by rw [decide_eq_true (hl h)]; rfl) h3) fun h => br_f (by rw [decide_eq_true (hl' h)]; rfl) h3⟩
  dsimp only [pAsg, pIfE, cmp2, pVar, opt, gt, aVar, pLit, kIs, pt]
  cases own with
  | none => exact ⟨true, .nn, br_t rfl h1⟩
  | some o => exact ⟨false, .sn o, br_f rfl h1⟩

end

section
open PySem PySem.Calls PyProof.Rows PySem.W
variable {D : GD}
noncomputable def forK (turn : V → PS) (r : List V) (Q : Fl → T → Prop) : Fl → T → Prop := fun fl σ => match fl with
  | .nxt => forGo turn r σ Q
  | .cont => forGo turn r σ Q
  | .brk => Q .nxt σ
  | .ret v => Q (.ret v) σ
theorem for_c {turn : V → PS} {r : List V} {v : V} {σ : T} {Q : Fl → T → Prop} (h : turn v σ (forK turn r Q)) : forGo turn (v :: r) σ Q := h
theorem fork_n {turn : V → PS} {r : List V} {σ : T} {Q : Fl → T → Prop} (h : forGo turn r σ Q) : forK turn r Q .nxt σ := h
noncomputable def bareK (b : Bool) : List (Str × V) := if b then [("q_", .none)] else []
noncomputable def bareD (b : Bool) : List (List Nat × V) := if b then [([113, 95], .none)] else []
theorem c_hAdd (F : Footing D) {name : List Nat} {own : Option (List Nat)} {bare : Bool} {e : List Nat} {l : List V} {Q : V → Option (List V) → Prop} (hn : name ∈ nameList) (ho : own ∈ ownList) (he : ∀ c ∈ e, exprSign c = true) (he1 : e.length ≤ 1000) (he2 : e ≠ []) (hl : l.length ≤ 1000) (q : Q .none (some (l ++ [.tup [.str name, .str (valueOf own bare e)]]))) :
    CallOk D 2 .hAdd [.hdr, .str name, ownV own] (("p_0", .str e) :: bareK bare) (some l) Q := by
  have hp0 : lit (Str.ofString "p_0") = [112, 95, 48] := by decide +kernel
  have hB : (10000 : Nat) < big := by decide
  refine run .hAdd F (b_hAdd F) (by decide +kernel) 3 (bs := [("self", .hdr), ("_name", .str name), ("_value", ownV own), ("_params", .dic (([112, 95, 48], .str e) :: bareD bare))]) ?_ ⟨["parts", "k", "v"], rfl⟩ ⟨?_, by cases bare <;> rfl⟩ ?_
  · have hq : lit (Str.ofString "q_") = [113, 95] := by decide +kernel
    unfold fbd bdAdd
    cases bare
    · exact (if_pos rfl).trans (by rw [hp0]; rfl)
    · exact (if_pos ⟨rfl, rfl⟩).trans (by rw [hp0, hq]; rfl)
  · show (true && (true && (okV (ownV own) && true))) = true
    rw [ok_own]
    rfl
  unfold pb_hAdd
  refine seq_g fun R hR => ?_
  dsimp only [List.map, mkls, List.replicate, List.cons_append, List.nil_append, pAsg, pNew, pNil, aVar, List.length_nil, pt]
  subst hR
  refine seq_n fun R hR => ?_
  have h1 : seqK R (leaveC Q) .nxt ⟨[some .hdr, some (.str name), some (ownV own), some (.dic (([112, 95, 48], .str e) :: bareD bare)), some (.ref 0), none, none], [(ownL own).map .str], some l⟩ := by
    subst hR
    refine seq_n fun R hR => for_g fun B hB' => ?_
    dsimp only [iterV, aTup, asTup, List.length_cons, List.length_nil, opt, pMet, pVar, gt, mItems, asDic, nil0, kNil, pNil, nDic, List.map]
    have h2 : ∀ v5 v6, seqK R (leaveC Q) .nxt ⟨[some .hdr, some (.str name), some (ownV own), some (.dic (([112, 95, 48], .str e) :: bareD bare)), some (.ref 0), v5, v6], [(ownL own ++ [[112, 45, 48] ++ [61, 34] ++ repl 34 [92, 34] (repl 92 [92, 92] e) ++ [34]] ++ bareL bare).map .str], some l⟩ := by
      intro v5 v6
      subst hR
      refine seq_e ?_
      dsimp only [List.cons_append, List.nil_append, pEx, pMet, pAtt, pVar, opt, gt, leaveC, mAppH, one, kNil, pCons, pTup, pNil, pLit, nStr, asStr, mJoin, List.length_cons, List.length_nil, asLst, lstV, mH, cFn, kCons, nHdr, asHdr, nHl, aHl]
      refine c_hConv F ((by decide +kernel : ∀ n ∈ nameList, n.any barName = false) name hn) ?_
      rw [(strs_map (g := fun x => x) _).trans (congrArg some (List.map_id' _))]
      dsimp only
      have h3 := esc_len e
      have h4 := (by decide : ∀ o ∈ ownList, ((ownL o).map fun y => y.length + 2).sum ≤ 5) own ho
      have h5 := (by decide : ∀ b, ((bareL b).map fun y => y.length + 2).sum ≤ 5) bare
      rw [repl_esc]
      refine ⟨?_, ⟨Nat.lt_of_le_of_lt hl (Nat.lt_trans (by decide) hB), rfl⟩, rfl, q⟩
      rw [List.map_append, List.map_append, List.sum_append, List.sum_append]
      have h6 : ([112, 45, 48, 61, 34] ++ e.flatMap escC ++ [34]).length = (e.flatMap escC).length + 6 := by
        rw [List.length_append, List.length_append]
        exact congrArg Nat.succ (Nat.add_comm 5 _)
      show ((ownL own).map fun y => y.length + 2).sum + (([112, 45, 48, 61, 34] ++ e.flatMap escC ++ [34]).length + 2 + 0) + ((bareL bare).map fun y => y.length + 2).sum ≤ big
      rw [h6]
      omega
    refine for_c ⟨rfl, ?_⟩
    generalize hL : forK _ _ _ = L
    dsimp only [pts, pt]
    rw [hB']
    refine seq_g fun S hS => ?_
    dsimp only [pAsg, pMet, pVar, opt, gt, aVar, mH, cFn, kCons, pLit, kNil, pCons, pNil, nHdr, asHdr, pt]
    refine c_hConv F rfl ?_
    subst hS
    refine seq_e (pif_f fun A C hC => ?_)
    dsimp only [pIf, cmp2, pVar, opt, gt, kIs, pLit]
    refine ⟨false, .sn e, br_f rfl ?_⟩
    subst hC
    refine seq_g fun S hS => ?_
    dsimp only [pAsg, pMet, pVar, opt, gt, aVar, mH, cFn, kCons, pLit, kNil, pCons, pNil, nHdr, asHdr, pt]
    have hv : e.any barVal = false := by
      rw [List.any_eq_false]
      exact fun c hc z => nomatch ((Bool.not_eq_true' _).mp (Bool.and_eq_true_iff.mp (Bool.and_eq_true_iff.mp (he c hc)).1).2).symm.trans z
    refine c_hConv F hv ?_
    subst hS
    refine seq_e ?_
    dsimp only [pEx, pMet, pVar, opt, gt, mApp, asRef, apd, one, kNil, pCons, pCall, pRep, List.length_cons, List.length_nil, pNil, cFn, asStr, nRef, pt]
    refine ⟨by decide, c_formatparam F (x := [112, 45, 48]) (by decide) (Nat.le_trans he1 (by decide)) he2 ⟨?_, rfl, ?_⟩⟩
    · rw [List.length_map]
      exact Nat.lt_of_le_of_lt ((by decide : ∀ o ∈ ownList, (ownL o).length ≤ 1) own ho) (by decide)
    subst hL
    cases bare with
    | false =>
      have h2 := h2 (some (.str [112, 95, 48])) (some (.str e))
      rw [show bareL false = [] from rfl, List.append_nil, List.map_append] at h2
      exact h2
    | true =>
      refine fork_n (for_one rfl ⟨rfl, ?_⟩)
      subst hB'
      refine seq_g fun S hS => ?_
      dsimp only [List.cons_append, List.nil_append, pts, pt, pAsg, pMet, pVar, opt, gt, aVar, mH, cFn, kCons, pLit, kNil, pCons, pNil, nHdr, asHdr]
      refine c_hConv F rfl ?_
      subst hS
      refine seq_e (pif_t fun A C hA => ?_)
      dsimp only [pIf, cmp2, pVar, opt, gt, kIs, pLit]
      refine ⟨true, .nn, br_t rfl ?_⟩
      subst hA
      dsimp only [pEx, pMet, pVar, opt, gt, mApp, asRef, apd, one, kNil, pCons, pRep, List.length_cons, List.length_nil, pNil, asStr, nRef, pt]
      have h2 := h2 (some (.str [113, 95])) (some .none)
      rw [show bareL true = [[113, 45]] from rfl, List.map_append, List.map_append] at h2
      refine ⟨by decide, ?_, rfl, h2⟩
      rw [List.length_append, List.length_map]
      exact Nat.lt_of_le_of_lt (Nat.add_le_add_right ((by decide : ∀ o ∈ ownList, (ownL o).length ≤ 1) own ho) _) (show 2 < big from by decide)
  dsimp only [pIf, cmp2, pVar, opt, gt, pSeq, pAsg, pMet, pEx, mApp, asRef, apd, one, kNil, pCons, pNil, nRef, aVar, mH, cFn, kCons, pLit, nHdr, asHdr, pSkip, kIsNot, pt, List.length_nil, List.nil_append]
  cases own with
  | none => exact ⟨true, .nn, br_f rfl h1⟩
  | some o => exact ⟨false, .sn o, br_t rfl (c_hConv F ((by decide +kernel : ∀ o ∈ ownList, (o.getD []).any barVal = false) (some o) ho) ⟨by decide, rfl, h1⟩)⟩

end

section
open PySem PySem.Calls PyProof.Rows PySem.W
variable {D : GD}
/-- signs of the rows -/
noncomputable def rowSign (c : Nat) : Bool := decide (c < 127) && (decide (32 ≤ c) || c == 9)
noncomputable def wrC (q c : Nat) : List Nat := if c = q ∨ c = 92 then [92, c] else if c = 9 then [92, 116] else [c]
noncomputable def quoteOf (l : List Nat) : Nat := if l.contains 39 && !l.contains 34 then 34 else 39
noncomputable def wr (l : List Nat) : List Nat := quoteOf l :: (l.flatMap (wrC (quoteOf l)) ++ [quoteOf l])
theorem quote_cases (l : List Nat) : quoteOf l = 34 ∧ 34 ∉ l ∨ quoteOf l = 39 := by
  unfold quoteOf
  split
  · rename_i h
    exact .inl ⟨rfl, fun z => nomatch ((Bool.not_eq_true' _).mp (Bool.and_eq_true_iff.mp h).2).symm.trans (List.contains_iff_mem.mpr z)⟩
  · exact .inr rfl
theorem reprC_eq : ∀ c < 127, rowSign c = true → PySem.Builtin.Str.reprChar 34 c = wrC 34 c ∧ PySem.Builtin.Str.reprChar 39 c = wrC 39 c := by decide +kernel
theorem repr_fold (q : Nat) : ∀ (l : List Nat) (acc : Array Nat), (l.foldl (fun out c => out ++ (PySem.Builtin.Str.reprChar q c).toArray) acc).toList = acc.toList ++ l.flatMap (PySem.Builtin.Str.reprChar q)
  | [], acc => (List.append_nil _).symm
  | c :: r, acc => by
    rw [List.foldl_cons, repr_fold q r, List.flatMap_cons, Array.toList_append, List.append_assoc]
theorem repr_wr {l : List Nat} (h : ∀ c ∈ l, rowSign c = true) : reprL l = wr l := by
  have hq : reprQuote ⟨l.toArray⟩ = quoteOf l := by
    unfold reprQuote quoteOf
    simp
  unfold reprL reprText wr
  rw [hq]
  show (Array.push (l.toArray.foldl (fun out c => out ++ (PySem.Builtin.Str.reprChar (quoteOf l) c).toArray) #[quoteOf l]) (quoteOf l)).toList = _
  rw [Array.toList_push, ← Array.foldl_toList, repr_fold]
  have : l.flatMap (PySem.Builtin.Str.reprChar (quoteOf l)) = l.flatMap (wrC (quoteOf l)) := by
    rw [List.flatMap_def, List.flatMap_def]
    refine congrArg List.flatten (List.map_congr_left fun c hc => ?_)
    obtain ⟨e1, e2⟩ := reprC_eq c (of_decide_eq_true (Bool.and_eq_true_iff.mp (h c hc)).1) (h c hc)
    rcases quote_cases l with ⟨e, _⟩ | e
    · rw [e]; exact e1
    · rw [e]; exact e2
  rw [this]
  rfl
section
variable {ts : List (List Nat × List Nat)} {g x : List Nat} {q c : Nat}
theorem step_glue (h : c ≠ 39 ∧ c ≠ 34) : stepT ⟨ts, g, [], x, false⟩ c = ⟨ts, g ++ [c], [], x, false⟩ := by
  unfold stepT
  rw [if_pos rfl, if_neg fun z => z.elim h.1 h.2]
theorem step_open (h : c = 39 ∨ c = 34) : stepT ⟨ts, g, [], x, false⟩ c = ⟨ts, g, [c], [], false⟩ := by
  unfold stepT
  rw [if_pos rfl, if_pos h]
theorem step_bar : stepT ⟨ts, g, [q], x, false⟩ 92 = ⟨ts, g, [q], x, true⟩ := rfl
theorem step_held : stepT ⟨ts, g, [q], x, true⟩ c = ⟨ts, g, [q], x ++ unesc c, false⟩ := rfl
theorem step_in (h1 : c ≠ q) (h2 : c ≠ 92) : stepT ⟨ts, g, [q], x, false⟩ c = ⟨ts, g, [q], x ++ [c], false⟩ := by
  unfold stepT
  rw [if_neg (List.cons_ne_nil q []), if_neg Bool.false_ne_true, if_neg h2, if_neg fun z => h1 (List.cons.inj z).1]
theorem step_close (h2 : q ≠ 92) : stepT ⟨ts, g, [q], x, false⟩ q = ⟨ts ++ [([q], x)], g ++ [46], [], x, false⟩ := by
  unfold stepT
  rw [if_neg (List.cons_ne_nil q []), if_neg Bool.false_ne_true, if_neg h2, if_pos rfl]
end
theorem texts_in (ts : List (List Nat × List Nat)) (g : List Nat) (q : Nat) : ∀ (l x : List Nat), (q = 34 ∧ 34 ∉ l ∨ q = 39) → (l.flatMap (wrC q)).foldl stepT ⟨ts, g, [q], x, false⟩ = ⟨ts, g, [q], x ++ l, false⟩
  | [], x, _ => by rw [List.append_nil]; rfl
  | c :: l, x, hq => by
    rw [List.flatMap_cons, List.foldl_append]
    have hh : (wrC q c).foldl stepT ⟨ts, g, [q], x, false⟩ = ⟨ts, g, [q], x ++ [c], false⟩ := by
      unfold wrC
      by_cases h1 : c = q ∨ c = 92
      · rw [if_pos h1]
        have hu : unesc c = [c] := by
          rcases h1 with h1 | rfl
          · rcases hq with ⟨e, h34⟩ | e
            · exact absurd (h1.trans e ▸ .head _ : 34 ∈ c :: l) h34
            · rw [h1, e]; rfl
          · rfl
        rw [List.foldl_cons, List.foldl_cons, List.foldl_nil, step_bar, step_held, hu]
      · rw [if_neg h1]
        by_cases h9 : c = 9
        · subst h9
          rfl
        · rw [if_neg h9]
          exact step_in (fun z => h1 (.inl z)) fun z => h1 (.inr z)
    rw [hh, texts_in ts g q l _ (hq.imp (fun z => ⟨z.1, fun h => z.2 (.tail _ h)⟩) id), List.append_assoc]
    rfl
theorem texts_one (ts : List (List Nat × List Nat)) (g x l : List Nat) : (wr l).foldl stepT ⟨ts, g, [], x, false⟩ = ⟨ts ++ [([quoteOf l], l)], g ++ [46], [], l, false⟩ := by
  unfold wr
  have hq := quote_cases l
  rw [List.foldl_cons, List.foldl_append, step_open (hq.elim (fun z => .inr z.1) .inl), texts_in ts g _ l [] hq]
  exact step_close fun z => hq.elim (fun y => nomatch y.1.symm.trans z) fun y => nomatch y.symm.trans z
theorem texts_glue (ts : List (List Nat × List Nat)) (x : List Nat) : ∀ (s g : List Nat), (∀ c ∈ s, c ≠ 39 ∧ c ≠ 34) → s.foldl stepT ⟨ts, g, [], x, false⟩ = ⟨ts, g ++ s, [], x, false⟩
  | [], g, _ => by rw [List.append_nil]; rfl
  | c :: s, g, h => by
    rw [List.foldl_cons, step_glue (h c (.head _)), texts_glue ts x s _ (fun d hd => h d (.tail _ hd)), List.append_assoc]
    rfl
noncomputable abbrev Rws := List (List Nat × List Nat)
/-- rows of signs that are written so -/
noncomputable def rowsOk (r : Rws) : Prop := ∀ p ∈ r, (∀ c ∈ p.1, rowSign c = true) ∧ (∀ c ∈ p.2, rowSign c = true)
noncomputable def wrRow (p : List Nat × List Nat) : List Nat := [40] ++ wr p.1 ++ [44, 32] ++ wr p.2 ++ [41]
noncomputable def told (p : List Nat × List Nat) : List (List Nat × List Nat) := [([quoteOf p.1], p.1), ([quoteOf p.2], p.2)]
noncomputable abbrev dotRow : List Nat := [40, 46, 44, 32, 46, 41]
theorem texts_row (ts : List (List Nat × List Nat)) (g x : List Nat) (p : List Nat × List Nat) : (wrRow p).foldl stepT ⟨ts, g, [], x, false⟩ = ⟨ts ++ told p, g ++ dotRow, [], p.2, false⟩ := by
  unfold wrRow
  rw [List.foldl_append, List.foldl_append, List.foldl_append, List.foldl_append, texts_glue _ _ [40] _ (by decide), texts_one, texts_glue _ _ [44, 32] _ (by decide), texts_one, texts_glue _ _ [41] _ (by decide), List.append_assoc ts, List.append_assoc g, List.append_assoc g, List.append_assoc g, List.append_assoc g]
  rfl
theorem texts_rows : ∀ (r : Rws) (ts : List (List Nat × List Nat)) (g x : List Nat), ∃ x', (joinL [44, 32] (r.map wrRow)).foldl stepT ⟨ts, g, [], x, false⟩ = ⟨ts ++ r.flatMap told, g ++ joinL [44, 32] (r.map fun _ => dotRow), [], x', false⟩
  | [], ts, g, x => ⟨x, by rw [List.flatMap_nil, List.append_nil, List.map_nil, List.map_nil]; show TS.mk _ _ _ _ _ = ⟨_, g ++ [], _, _, _⟩; rw [List.append_nil]⟩
  | [p], ts, g, x => ⟨p.2, by rw [List.map_singleton, List.map_singleton, List.flatMap_singleton]; exact texts_row ts g x p⟩
  | p :: p' :: r, ts, g, x => by
    obtain ⟨x', e⟩ := texts_rows (p' :: r) (ts ++ told p) (g ++ dotRow ++ [44, 32]) p.2
    refine ⟨x', ?_⟩
    have e1 : joinL [44, 32] ((p :: p' :: r).map wrRow) = wrRow p ++ [44, 32] ++ joinL [44, 32] ((p' :: r).map wrRow) := rfl
    have e2 : joinL [44, 32] ((p :: p' :: r).map fun _ => dotRow) = dotRow ++ [44, 32] ++ joinL [44, 32] ((p' :: r).map fun _ => dotRow) := rfl
    rw [e1, e2, List.foldl_append, List.foldl_append, texts_row, texts_glue _ _ [44, 32] _ (by decide), e, List.append_assoc ts, List.append_assoc g, List.append_assoc g]
    rfl
theorem repr_rows : ∀ {r : Rws}, rowsOk r → reprRows (r.map pairV) = some (r.map wrRow)
  | [], _ => rfl
  | p :: r, h => by
    show (some ([40] ++ reprL p.1 ++ [44, 32] ++ reprL p.2 ++ [41])).bind (fun x => (reprRows (r.map pairV)).map (x :: ·)) = _
    rw [repr_rows fun q hq => h q (.tail _ hq), repr_wr (h p (.head _)).1, repr_wr (h p (.head _)).2]
    rfl
theorem repr_form (rs : List (List Nat)) : reprT rs = [72, 101, 97, 100, 101, 114, 115, 40, 91] ++ joinL [44, 32] rs ++ [93, 41] := by
  unfold reprT
  rw [show lit "Headers" = [72, 101, 97, 100, 101, 114, 115] by decide +kernel]
  exact List.append_assoc ([72, 101, 97, 100, 101, 114, 115, 40, 91] ++ joinL [44, 32] rs) [93] [41]
theorem texts_all (r : Rws) : ((reprT (r.map wrRow)).foldl stepT ⟨[], [], [], [], false⟩).texts = r.flatMap told ∧ ((reprT (r.map wrRow)).foldl stepT ⟨[], [], [], [], false⟩).glue = [72, 101, 97, 100, 101, 114, 115, 40, 91] ++ joinL [44, 32] (r.map fun _ => dotRow) ++ [93, 41] := by
  obtain ⟨x', e⟩ := texts_rows r [] [72, 101, 97, 100, 101, 114, 115, 40, 91] []
  rw [repr_form, List.foldl_append, List.foldl_append, texts_glue _ _ [72, 101, 97, 100, 101, 114, 115, 40, 91] _ (by decide), List.nil_append, e, texts_glue _ _ [93, 41] _ (by decide)]
  exact ⟨rfl, rfl⟩
theorem told_at : ∀ (r : Rws) (k : Nat) (p : List Nat × List Nat), r[k]? = some p → (r.flatMap told)[2 * k]? = some ([quoteOf p.1], p.1) ∧ (r.flatMap told)[2 * k + 1]? = some ([quoteOf p.2], p.2)
  | a :: r, 0, p, h => by
    cases Option.some.inj h
    exact ⟨rfl, rfl⟩
  | a :: r, k + 1, p, h => told_at r k p h
theorem told_quote {r : Rws} : ∀ t ∈ r.flatMap told, t.1 = [quoteOf t.2] := fun t h => by
  obtain ⟨p, _, hp⟩ := List.mem_flatMap.mp h
  rcases List.mem_cons.mp hp with rfl | hp
  · rfl
  · rw [List.mem_singleton.mp hp]
/-- str of the table, two ways -/
noncomputable def lineRow (p : List Nat × List Nat) : List Nat := p.1 ++ [58, 32] ++ p.2 ++ [13, 10]
theorem rows_text : ∀ r : Rws, joinL [13, 10] (r.map (fun p => p.1 ++ [58, 32] ++ p.2) ++ [[], []]) = (r.map lineRow).flatten ++ [13, 10]
  | [] => rfl
  | p :: r => by
    have ih := rows_text r
    obtain ⟨a, b, e⟩ : ∃ a b, r.map (fun p : List Nat × List Nat => p.1 ++ [58, 32] ++ p.2) ++ [[], []] = a :: b := by cases r <;> exact ⟨_, _, rfl⟩
    rw [e] at ih
    rw [List.map_cons, List.map_cons, List.flatten_cons, List.append_assoc (lineRow p), ← ih, List.cons_append, e]
    rfl
theorem wr_len (l : List Nat) : (wr l).length ≤ 2 * l.length + 2 := by
  have h : ∀ (q : Nat) (x : List Nat), (x.flatMap (wrC q)).length ≤ 2 * x.length := by
    intro q x
    induction x with
    | nil => exact Nat.le_refl _
    | cons c x ih =>
      rw [List.flatMap_cons, List.length_append, List.length_cons, Nat.mul_succ, Nat.add_comm]
      refine Nat.add_le_add ih ?_
      unfold wrC
      split
      · exact Nat.le_refl 2
      split
      · exact Nat.le_refl 2
      · exact Nat.le_succ 1
  show (l.flatMap (wrC (quoteOf l)) ++ [quoteOf l]).length + 1 ≤ _
  rw [List.length_append]
  exact Nat.succ_le_succ (Nat.succ_le_succ (h _ l))
theorem join_le (s : List Nat) (M : Nat) : ∀ l : List (List Nat), (∀ x ∈ l, x.length ≤ M) → (joinL s l).length ≤ l.length * (M + s.length)
  | [], _ => Nat.zero_le _
  | [x], h => by
    rw [List.length_singleton, Nat.one_mul]
    exact Nat.le_trans (h x (.head _)) (Nat.le_add_right _ _)
  | x :: y :: r, h => by
    show (x ++ s ++ joinL s (y :: r)).length ≤ _
    rw [List.length_append, List.length_append, List.length_cons, Nat.succ_mul, Nat.add_comm]
    exact Nat.add_le_add (join_le s M (y :: r) fun z hz => h z (.tail _ hz)) (Nat.add_le_add_right (h x (.head _)) _)
theorem join_ge (s : List Nat) (x : List Nat) : ∀ l : List (List Nat), x.length ≤ (joinL s (x :: l)).length
  | [] => Nat.le_refl _
  | y :: l => by
    show _ ≤ (x ++ s ++ joinL s (y :: l)).length
    rw [List.length_append, List.length_append]
    exact Nat.le_trans (Nat.le_add_right _ _) (Nat.le_add_right _ _)
theorem wr_ge (l : List Nat) : l.length + 2 ≤ (wr l).length := by
  have h : ∀ (q : Nat) (x : List Nat), x.length ≤ (x.flatMap (wrC q)).length := by
    intro q x
    induction x with
    | nil => exact Nat.le_refl _
    | cons c x ih =>
      rw [List.flatMap_cons, List.length_append, List.length_cons, Nat.add_comm]
      refine Nat.add_le_add ?_ ih
      unfold wrC
      split
      · exact Nat.le_succ 1
      split
      · exact Nat.le_succ 1
      · exact Nat.le_refl 1
  show _ ≤ (l.flatMap (wrC (quoteOf l)) ++ [quoteOf l]).length + 1
  rw [List.length_append]
  exact Nat.succ_le_succ (Nat.succ_le_succ (h _ l))
theorem wrRow_len (p : List Nat × List Nat) : (wrRow p).length = (wr p.1).length + (wr p.2).length + 4 := by
  unfold wrRow
  rw [List.length_append, List.length_append, List.length_append, List.length_append]
  dsimp only [List.length_cons, List.length_nil]
  omega
noncomputable def rowOf (d : Drawn) : List Nat × List Nat := (d.name, valueOf d.own d.bare (exprOf d.items))
theorem sign_row : ∀ c < 127, exprSign c = true → ∀ d ∈ escC c, rowSign d = true := by decide +kernel
/-- what is to be known of a row -/
theorem row_ok {d : Drawn} (ok : d.Ok) : ((∀ c ∈ (rowOf d).1, rowSign c = true) ∧ (∀ c ∈ (rowOf d).2, rowSign c = true)) ∧ (rowOf d).1.length ≤ 10 ∧ (rowOf d).2.length ≤ 1000 ∧ 6 ≤ (rowOf d).2.length := by
  have RO := runs_ok ok.items ok.few
  have hx := regex_expr fun r hr c hc => ((RO.signs r hr).1 c hc).1
  have hl := value_len ok.own d.bare (exprOf d.items)
  have h1 : (exprOf d.items).length ≤ 200 := RO.expr
  change ∀ x ∈ exprOf d.items, exprSign x = true at hx
  refine ⟨⟨(by decide +kernel : ∀ n ∈ nameList, ∀ c ∈ n, rowSign c = true) _ ok.name, ?_⟩, (by decide : ∀ n ∈ nameList, n.length ≤ 10) _ ok.name, ?_, ?_⟩
  · show ∀ c ∈ valueOf d.own d.bare (exprOf d.items), _
    rw [value_is]
    refine app_all (app_all ((by decide +kernel : ∀ o ∈ ownList, ∀ c ∈ ownT o, rowSign c = true) _ ok.own) (by decide +kernel)) (app_all (fun c hc => ?_) ((by decide +kernel : ∀ b : Bool, ∀ c ∈ (if b then [34, 59, 32, 113, 45] else [34] : List Nat), rowSign c = true) d.bare))
    obtain ⟨x, hx1, hx2⟩ := List.mem_flatMap.mp hc
    exact sign_row x (of_decide_eq_true (Bool.and_eq_true_iff.mp (Bool.and_eq_true_iff.mp (hx x hx1)).1).1) (hx x hx1) c hx2
  · exact Nat.le_trans hl (by omega)
  · show 6 ≤ (valueOf d.own d.bare (exprOf d.items)).length
    rw [value_is, List.length_append, List.length_append, List.length_append]
    have := (by decide : ∀ b : Bool, 1 ≤ (if b then [34, 59, 32, 113, 45] else [34] : List Nat).length) d.bare
    dsimp only [List.length_cons, List.length_nil]
    omega

end

section
open PySem PySem.Calls PyProof.Rows PySem.W
variable {D : GD}
theorem forGo_all {turn : V → PS} {Q : Fl → T → Prop} (I : T → Prop) : ∀ (l : List V) (σ : T), (∀ v ∈ l, ∀ σ K, I σ → (∀ σ', I σ' → K .nxt σ') → turn v σ K) → I σ → (∀ σ, I σ → Q .nxt σ) → forGo turn l σ Q
  | [], σ, _, h, q => q σ h
  | v :: l, σ, ht, h, q => ht v (.head _) σ _ h fun σ' h' => forGo_all I l σ' (fun w hw => ht w (.tail _ hw)) h' q
theorem compGo_inv {α : Type} {turn : PLC} {all : List V} (g h : α → V) (I : T → Prop) {Q : List V → T → Prop} : ∀ (l : List α) (acc : List V) (σ : T), (∀ a ∈ l, ∀ σ (K : Option V → T → Prop), I σ → (∀ σ', I σ' → K (some (h a)) σ') → turn (g a) σ K) → acc.length + l.length ≤ big → I σ → (∀ σ', I σ' → Q (acc ++ l.map h) σ') → compGo false all turn (l.map g) acc σ Q
  | [], acc, σ, _, _, i, q => by
    have := q σ i
    rw [List.map_nil, List.append_nil] at this
    exact this
  | a :: l, acc, σ, hs, hl, i, q => hs a (.head _) σ _ i fun σ' i' => ⟨Nat.lt_of_lt_of_le (Nat.lt_add_of_pos_right (Nat.succ_pos _)) hl, compGo_inv g h I l (acc ++ [h a]) σ' (fun b hb => hs b (.tail _ hb)) (by rw [List.length_append]; exact Nat.le_trans (Nat.le_of_eq (Nat.succ_add_eq_add_succ _ _)) hl) i' fun σ'' z => by rw [List.append_assoc]; exact q σ'' z⟩
theorem range_rows {α : Type} (z : α) : ∀ r : List α, (List.range r.length).map (fun k => r.getD k z) = r
  | [] => rfl
  | a :: r => by
    rw [List.length_cons, List.range_succ_eq_map, List.map_cons, List.map_map]
    exact congrArg (a :: ·) (range_rows z r)
theorem sum_le {α : Type} {f : α → Nat} {M : Nat} : ∀ l : List α, (∀ a ∈ l, f a ≤ M) → (l.map f).sum ≤ l.length * M
  | [], _ => Nat.zero_le _
  | a :: l, h => by
    rw [List.map_cons, List.sum_cons, List.length_cons, Nat.succ_mul, Nat.add_comm]
    exact Nat.add_le_add (sum_le l fun b hb => h b (.tail _ hb)) (h a (.head _))
theorem dec_len {i : Int} (h : 0 ≤ i) (h' : i < 10000000000) : (decL i).length ≤ 34 := by
  obtain ⟨k, rfl⟩ := Int.eq_ofNat_of_zero_le h
  have h1 : (Nat.repr k).length ≤ 34 := nat_repr_length_le (by decide) (by omega)
  unfold decL lit
  rw [show toString (k : Int) = Nat.repr k from rfl, Str.ofString_eq_toList]
  show (List.map Char.toNat (Nat.repr k).toList).length ≤ 34
  rw [List.length_map, String.length_toList]
  exact h1
theorem cut_end {α : Type} (a b : List α) : cutL (a ++ b) (some (((a ++ b).length : Int) - b.length)) none = b := by
  rw [List.length_append, show ((a.length + b.length : Nat) : Int) - b.length = (a.length : Nat) from by omega]
  show ((a ++ b).drop (clip (a ++ b).length (a.length : Int))).take ((a ++ b).length - clip (a ++ b).length (a.length : Int)) = b
  rw [clip_nat, Nat.min_eq_left (List.length_append ▸ Nat.le_add_right _ _), List.drop_left, List.length_append, Nat.add_sub_cancel_left, List.take_length]
theorem rng3 : ∀ {n : Nat}, n ≤ 3 → rngList 0 (n : Int) 1 = (List.range n).map fun k => V.int (k : Nat)
  | 0, _ | 1, _ | 2, _ | 3, _ => rfl
theorem c_writing (F : Footing D) {ds : List Drawn} (ok : ∀ d ∈ ds, d.Ok) (hn : ds.length ≤ 3) (hne : ds ≠ []) {Q : V → Option (List V) → Prop} (q : Q (.bool true) (some ((ds.map rowOf).map pairV))) : CallOk D 5 .writing [.hdr, .lst (ds.map Drawn.v)] [] (some ((ds.map rowOf).map pairV)) Q := by
  have hro : rowsOk (ds.map rowOf) := fun p hp => by obtain ⟨d, hd, rfl⟩ := List.mem_map.mp hp; exact (row_ok (ok d hd)).1
  have hrb : ∀ p ∈ ds.map rowOf, p.1.length ≤ 10 ∧ p.2.length ≤ 1000 ∧ 6 ≤ p.2.length := fun p hp => by obtain ⟨d, hd, rfl⟩ := List.mem_map.mp hp; exact (row_ok (ok d hd)).2
  have hrl : (ds.map rowOf).length ≤ 3 := by rw [List.length_map]; exact hn
  have hw24 : 13 ≤ (joinL [44, 32] ((ds.map rowOf).map wrRow)).length := by
    obtain ⟨d, ds', rfl⟩ := List.exists_cons_of_ne_nil hne
    refine Nat.le_trans ?_ (join_ge [44, 32] (wrRow (rowOf d)) _)
    rw [wrRow_len]
    have := wr_ge (rowOf d).1
    have := wr_ge (rowOf d).2
    have := (row_ok (ok d (.head _))).2.2.2
    omega
  have hwM : ∀ x ∈ (ds.map rowOf).map wrRow, x.length ≤ 3000 := fun x hx => by
    obtain ⟨p, hp, rfl⟩ := List.mem_map.mp hx
    rw [wrRow_len]
    have := wr_len p.1
    have := wr_len p.2
    have := hrb p hp
    omega
  have hB : (1000000 : Nat) < big := by decide
  generalize hr : ds.map rowOf = r at hro hrb hrl hw24 hwM q ⊢
  refine run .writing F (b_writing F) (by decide +kernel) 11 rfl ⟨_, rfl⟩ ⟨Bool.and_eq_true_iff.mpr ⟨rfl, Bool.and_eq_true_iff.mpr ⟨okVs_map (g := Drawn.v) drawn_ok ds, rfl⟩⟩, rfl⟩ ?_
  have hj : (joinL [44, 32] (r.map wrRow)).length ≤ 900000 := Nat.le_trans (join_le _ _ _ hwM) (by rw [List.length_map]; exact Nat.le_trans (Nat.mul_le_mul_right _ hrl) (by decide))
  have hw := reprT_len (r.map wrRow)
  have htx := texts_all r
  have hrr := repr_rows hro
  have hdr : (r.map fun _ => dotRow) = ds.map fun _ => dotRow := by rw [← hr, List.map_map]; rfl
  have hG : ((r.map fun _ => dotRow).map fun y => y.length + 2).sum ≤ 24 ∧ (joinL [44, 32] (r.map fun _ => dotRow)).length ≤ 24 := by
    have h1 : ∀ x ∈ r.map (fun _ => dotRow), x.length ≤ 6 := fun x hx => by obtain ⟨p, _, rfl⟩ := List.mem_map.mp hx; exact Nat.le_refl 6
    have h2 : (r.map fun _ => dotRow).length * 8 ≤ 24 := by rw [List.length_map]; exact Nat.mul_le_mul_right 8 hrl
    exact ⟨Nat.le_trans (sum_le (M := 8) _ fun x hx => Nat.add_le_add_right (h1 x hx) 2) h2, Nat.le_trans (join_le _ 6 _ h1) h2⟩
  unfold pb_writing
  refine seq_g fun R hR => ?_
  dsimp only [List.map, mkls, List.replicate, List.cons_append, List.nil_append, pAsg, pCall, pCons, pVar, opt, gt, aVar, cFn, kNil, pNil, pt]
  refine c_safe0 F hrr hj ?_
  have hwf := repr_form (r.map wrRow)
  generalize hwr : reprT (r.map wrRow) = w at htx hw hwf ⊢
  subst hR
  refine seq_n fun R hR => ?_
  dsimp only [pAsg, pCall, pCons, pVar, opt, gt, aTup, asTup, List.length_cons, List.length_nil, cFn, kNil, pNil]
  refine c_texts F (by omega) ?_
  rw [htx.1, htx.2]
  refine ⟨rfl, ?_⟩
  subst hR
  refine seq_n fun R hR => pif_f fun A B hB' => ?_
  dsimp only [List.cons_append, List.nil_append, pts, pt, pIf, cmp2, pVar, opt, gt, kNeS, asStr, pAddS, bin2, pLit, pMet, nStr, pCons, pComp, srcC, List.map, inn, cAddS, List.length_cons, List.length_nil, mJoin, one, asLst, lstV, kNil, pNil]
  refine compGo_mem Drawn.v (fun _ => .str dotRow) (fun c => ⟨[c], [], some (r.map pairV)⟩) ds [] none (fun d hd c K hK => ?_) (by rw [List.length_nil]; omega) fun c => ?_
  · dsimp only [lc0, aVar, pLit, pt]
    exact hK
  dsimp only [List.nil_append]
  rw [strs_map, ← hdr]
  refine ⟨Nat.le_trans hG.1 (by omega), Nat.le_trans (Nat.add_le_add_left hG.2 9) (by omega), Nat.le_trans (Nat.add_le_add_right hG.2 11) (by omega), br_f (by rw [decide_eq_true rfl]; rfl) ?_⟩
  subst hB'
  subst hR
  refine skip_e (seq_n fun R hR => for_g fun B hB' => ?_)
  dsimp only [iterV, aTup, asTup, List.length_cons, List.length_nil, opt, pVar, gt]
  refine forGo_all (fun σ => ∃ v5 v6, σ = ⟨[some .hdr, some (.lst (ds.map Drawn.v)), some (.str w), some (.lst ((r.flatMap told).map pairV)), some (.str (72 :: 101 :: 97 :: 100 :: 101 :: 114 :: 115 :: 40 :: 91 :: (joinL [44, 32] (r.map fun x => dotRow) ++ [93, 41]))), v5, v6, none, none, none, none, none, none], [], some (r.map pairV)⟩) _ _ ?_ ⟨none, none, rfl⟩ ?_
  · rintro v hv σ K ⟨v5, v6, rfl⟩ hK
    obtain ⟨t, ht, rfl⟩ := List.mem_map.mp hv
    refine ⟨rfl, ?_⟩
    subst hB'
    refine pif_f fun A B hB' => ?_
    dsimp only [pts, pt, pIf, cmp2, pVar, opt, gt, kNeS, asStr, pIfE, tAnd, pLit, kNotIn, asChr, kIn]
    subst hB'
    have h := hK _ ⟨some (.str t.1), some (.str t.2), rfl⟩
    rw [told_quote t ht] at h ⊢
    unfold quoteOf at h ⊢
    cases h1 : t.2.contains 39
    · rw [h1] at h
      exact br_f rfl (br_f rfl h)
    · cases h2 : t.2.contains 34
      · rw [h1, h2] at h
        exact br_t rfl (br_t rfl (br_f rfl h))
      · rw [h1, h2] at h
        exact br_t rfl (br_f rfl (br_f rfl h))
  rintro σ ⟨v5, v6, rfl⟩
  subst hR
  refine seq_n fun R hR => ?_
  dsimp only [bRng1, asInt, one, bLenL, asLst, opt, lstV, pAsg, pComp, pCall, pCons, pVar, gt, srcC, List.map, inn, aVar, kNil, pNil, pt]
  rw [List.length_map, rng3 hn]
  refine ⟨by omega, ⟨by omega, by omega⟩, compGo_mem (fun k : Nat => .int k) (fun k => pairV (r.getD k ([], []))) (fun c => ⟨[c, some (.lst ((r.flatMap told).map pairV))], [], some (r.map pairV)⟩) (List.range ds.length) [] none (fun k hk c K hK => ?_) (by rw [List.length_range, List.length_nil]; omega) fun c => ?_⟩
  · have hk : k < r.length := by rw [← hr, List.length_map]; exact List.mem_range.mp hk
    obtain ⟨h1, h2⟩ := told_at r k r[k] (List.getElem?_eq_getElem hk)
    rw [List.getD_eq_getElem?_getD, List.getElem?_eq_getElem hk] at hK
    dsimp only [lc0, aVar, pTup, pCons, pItm, pVar, opt, pt, gt, pNil, iTup, asTup, asInt, pLit, iLst, asLst, lstV, pAddI, bin2, pMulI, cAddI, cMulI]
    refine ⟨⟨by decide, by omega⟩, ⟨by omega, by omega⟩, ix_at (by omega) (show ((r.flatMap told).map pairV)[2 * k]? = some (pairV ([quoteOf r[k].1], r[k].1)) by rw [List.getElem?_map, h1]; rfl) ⟨⟨by decide, by decide⟩, ix_drop (p := 1) rfl ⟨⟨by decide, by omega⟩, ⟨by omega, by omega⟩, ix_at (by omega) (show ((r.flatMap told).map pairV)[2 * k + 1]? = some (pairV ([quoteOf r[k].2], r[k].2)) by rw [List.getElem?_map, h2]; rfl) ⟨⟨by decide, by decide⟩, ix_drop (p := 1) rfl hK⟩⟩⟩⟩
  dsimp only [List.nil_append]
  rw [show (List.range ds.length).map (fun k => pairV (r.getD k ([], []))) = r.map pairV from by
    have := congrArg (List.map pairV) (range_rows ([], []) r)
    rw [List.map_map, ← hr, List.length_map, hr] at this
    exact this]
  subst hR
  refine seq_n fun R hR => ?_
  dsimp only [pAsg, pAddS, bin2, pMet, pLit, nStr, asStr, pCons, pComp, pVar, opt, gt, srcC, List.map, inn, aVar, cAddS, List.length_cons, List.length_nil, mJoin, one, asLst, lstV, kNil, pNil, pt]
  refine compGo_inv pairV (fun p => .str (lineRow p)) (fun σ => ∃ a b, σ = ⟨[a, b], [], some (r.map pairV)⟩) r [] _ (fun p hp σ K ⟨a, b, e⟩ hK => ?_) (by rw [List.length_nil]; omega) ⟨none, none, rfl⟩ fun σ ⟨a, b, e⟩ => ?_
  · subst e
    dsimp only [lc0, aTup, asTup, List.length_cons, List.length_nil, pAddS, bin2, pVar, opt, cAddS, asStr, pLit]
    have h := hrb p hp
    refine ⟨rfl, ?_, ?_, ?_, hK _ ⟨_, _, rfl⟩⟩
    · omega
    · rw [List.length_append]
      dsimp only [List.length_cons, List.length_nil]
      omega
    · rw [List.length_append, List.length_append]
      dsimp only [List.length_cons, List.length_nil]
      omega
  subst e
  rw [List.nil_append, strs_map]
  dsimp only []
  rw [sum_flat, join_flat]
  have hlf : ((r.map lineRow).flatten).length ≤ 3 * 1020 := by
    rw [List.length_flatten, List.map_map]
    exact Nat.le_trans (sum_le (M := 1020) r fun p hp => by
      have h := hrb p hp
      show (p.1 ++ [58, 32] ++ p.2 ++ [13, 10]).length ≤ _
      rw [List.length_append, List.length_append, List.length_append]
      dsimp only [List.length_cons, List.length_nil]
      omega) (Nat.mul_le_mul_right _ hrl)
  refine ⟨by omega, by omega, ?_⟩
  subst hR
  refine seq_n fun R hR => pif_f fun A B hB' => ?_
  dsimp only [bStrH, asHdr, asStr, cFn, one, pIf, tOr, cmp2, pMet, pVar, opt, gt, pCall, pCons, kNeS, kNil, pNil, mH, nHdr]
  refine c_hItems F (by rw [List.length_map]; omega) (okVs_map (g := pairV) (fun _ => rfl) r) (ne_self (n := 2) (by decide) (nice_lst fun v hv => ?_) (br_f rfl (c_hStr F (r := r) (g := Prod.fst) (k := Prod.snd) (fun p hp => ?_) (by omega) ?_ ?_)))
  · obtain ⟨p, hp, rfl⟩ := List.mem_map.mp hv
    have k : ∀ {l : List Nat}, (∀ c ∈ l, rowSign c = true) → Nice 0 (.str l) := fun h => nice_str fun c hc => Nat.lt_trans (of_decide_eq_true (Bool.and_eq_true_iff.mp (h c hc)).1) (by decide)
    refine nice_tup fun v hv => ?_
    rcases List.mem_cons.mp hv with rfl | hv
    · exact k (hro p hp).1
    · rw [List.mem_singleton.mp hv]
      exact k (hro p hp).2
  · exact ⟨Nat.le_trans (hrb p hp).1 (by decide), Nat.le_trans (hrb p hp).2.1 (by decide)⟩
  · refine Nat.le_trans (sum_le (M := 1020) r fun p hp => ?_) (Nat.le_trans (Nat.mul_le_mul_right _ hrl) (by decide))
    have h := hrb p hp
    rw [List.length_append, List.length_append]
    dsimp only [List.length_cons, List.length_nil]
    omega
  dsimp only
  rw [rows_text]
  refine br_f (by rw [decide_eq_true rfl]; rfl) ?_
  subst hB'
  subst hR
  refine skip_e (seq_n fun R hR => for_g fun B hB' => ?_)
  dsimp only [bRng1, asInt, one, bLenL, asLst, opt, lstV, iterV, aVar, pCall, pCons, pVar, gt, kNil, pNil]
  rw [List.length_map, rng3 hn]
  refine ⟨by omega, ⟨by omega, by omega⟩, forGo_all (fun σ => ∃ v7, σ = ⟨[some .hdr, some (.lst (ds.map Drawn.v)), some (.str w), some (.lst ((r.flatMap told).map pairV)), some (.str (72 :: 101 :: 97 :: 100 :: 101 :: 114 :: 115 :: 40 :: 91 :: (joinL [44, 32] (r.map fun x => dotRow) ++ [93, 41]))), v5, v6, v7, some (.lst (r.map pairV)), some (.str ((r.map lineRow).flatten ++ [13, 10])), none, none, none], [], some (r.map pairV)⟩) _ _ ?_ ⟨none, rfl⟩ ?_⟩
  · rintro v hv σ K ⟨v7, rfl⟩ hK
    obtain ⟨k, hk, rfl⟩ := List.mem_map.mp hv
    have hk := List.mem_range.mp hk
    subst hB'
    refine pif_f fun A B hB' => ?_
    dsimp only [pt, pIf, tNot, tru, pCall, pCons, pItm, pVar, opt, gt, uBool, asBool, cFn, kNil, pNil, iTup, asTup, asInt, pLit, iLst, asLst, lstV]
    refine ⟨⟨by omega, by omega⟩, ix_at (by omega) (show (ds.map Drawn.v)[k]? = some ds[k].v by rw [List.getElem?_map, List.getElem?_eq_getElem hk]; rfl) ⟨⟨by omega, by omega⟩, ix_at (by omega) (show (r.map pairV)[k]? = some (pairV (rowOf ds[k])) by rw [← hr, List.getElem?_map, List.getElem?_map, List.getElem?_eq_getElem hk]; rfl) ⟨⟨by decide, by decide⟩, ix_drop (p := 0) rfl ⟨⟨by omega, by omega⟩, ix_at (by omega) (show (r.map pairV)[k]? = some (pairV (rowOf ds[k])) by rw [← hr, List.getElem?_map, List.getElem?_map, List.getElem?_eq_getElem hk]; rfl) ⟨⟨by decide, by decide⟩, ix_drop (p := 1) rfl (c_header F (ok _ (List.getElem_mem hk)) (br_f rfl ?_))⟩⟩⟩⟩⟩
    subst hB'
    exact hK _ ⟨_, rfl⟩
  rintro σ ⟨v7, rfl⟩
  subst hR
  refine seq_n fun R hR => ?_
  have h5 : ∀ S, S = (if w.length < 80 then w else w.take 80 ++ lit " [truncated]...") → seqK R (leaveC Q) .nxt ⟨[some .hdr, some (.lst (ds.map Drawn.v)), some (.str w), some (.lst ((r.flatMap told).map pairV)), some (.str (72 :: 101 :: 97 :: 100 :: 101 :: 114 :: 115 :: 40 :: 91 :: (joinL [44, 32] (r.map fun x => dotRow) ++ [93, 41]))), v5, v6, v7, some (.lst (r.map pairV)), some (.str ((r.map lineRow).flatten ++ [13, 10])), some (.str S), none, none], [], some (r.map pairV)⟩ := by
    intro S hS
    subst hR
    refine seq_n fun R hR => ?_
    dsimp only [bStrI, asInt, one, bLenS, asStr, pAsg, pAddS, bin2, pLit, pCall, pCons, pSubI, pVar, opt, gt, aVar, cAddS, List.length_cons, List.length_nil, List.cons_append, List.nil_append, kNil, pNil, cSubI, pt]
    have hdec := dec_len (i := (w.length : Int) - 11) (by omega) (by omega)
    have hchars : lit " chars]" = [32, 99, 104, 97, 114, 115, 93] := by decide +kernel
    refine ⟨by omega, ⟨by omega, by omega⟩, by omega, by omega, ?_⟩
    subst hR
    refine seq_n fun R hR => ?_
    dsimp only [bLenS, asStr, one, pAsg, pCall, pCons, pVar, opt, gt, aVar, kNil, pNil, pt]
    refine ⟨by omega, ?_⟩
    subst hR
    have hend : cutL w (some ((w.length : Int) - 2)) none = [93, 41] := by rw [hwf]; exact cut_end _ [93, 41]
    refine seq_n fun R hR => pif_f fun A B hB' => ?_
    dsimp only [pIf, tOr, cmp2, pCall, pCons, pVar, opt, gt, kNeS, asStr, pAddS, bin2, pSlc, cAddS, pLit, List.length_cons, List.length_nil, sStr, oE, pSubI, asInt, cSubI, oNo, cFn, kNil, pNil]
    refine c_shorten1 F (by omega) (by omega) (br_f (by rw [decide_eq_true rfl]; rfl) (c_shorten2 F (by omega) (by omega) (by omega) ⟨by omega, ?_, br_f ?_ ?_⟩))
    · have := cut_len (l := w) (a := none) (b := some ((w.length : Int) - 15))
      omega
    · rw [hend, hchars, show (w.length : Int) - ((w.length : Int) - 15) - 2 = 13 from by omega, show decL 13 = [49, 51] by decide +kernel, List.append_assoc, List.append_assoc, List.append_assoc]
      exact congrArg (!·) (decide_eq_true rfl)
    subst hB'
    subst hR
    refine skip_e (seq_e ?_)
    dsimp only [pRet, pAnd, pB, cmp2, pCall, pCons, pVar, opt, gt, leaveC, kEqS, asStr, cFn, kNil, pLit, pNil, asBool]
    refine c_safe1 F hrr hj ?_
    rw [hwr, ← hS]
    refine br_t (decide_eq_true rfl) (c_shorten2 F (by omega) (by omega) (by omega) ?_)
    rw [hend, hchars, show cutL w none (some 9) = [72, 101, 97, 100, 101, 114, 115, 40, 91] from (cut_pre w 9).trans (by rw [hwf]; rfl), show (w.length : Int) - 9 - 2 = w.length - 11 from by omega]
    dsimp only
    rw [frz_ok rfl, List.append_assoc, List.append_assoc, List.append_assoc]
    exact Eq.mpr (congrArg (fun b => Q (.bool b) (some (r.map pairV))) (decide_eq_true rfl)) q
  dsimp only [bLenS, asStr, one, pAsg, pIfE, cmp2, pCall, pCons, pVar, opt, gt, aVar, pAddS, bin2, pSlc, cAddS, pLit, List.length_cons, List.length_nil, sStr, oE, asInt, oNo, kLt, kNil, pNil, pt]
  refine ⟨by omega, br_d (fun h => h5 w (if_pos (Int.ofNat_lt.mp h)).symm) fun h => ?_⟩
  rw [show cutL w none (some 80) = w.take 80 from cut_pre w 80]
  refine ⟨by omega, ?_, ?_⟩
  · have := List.length_take_le 80 w
    omega
  · have h5 := h5 _ (if_neg fun z => h (Int.ofNat_lt.mpr z)).symm
    rw [trunc_lit] at h5
    exact h5

end

section
open PySem PySem.Calls PyProof.Rows PySem.W
variable {D : GD}
/-- a comprehension over given things that draws -/
theorem compGo_draw {turn : PLC} {all : List V} (st : Option V → T) {Q : List V → T → Prop} : ∀ (l : List V) (ds : List Drawn) (c : Option V), (∀ v ∈ l, ∀ c (K : Option V → T → Prop), (∀ d : Drawn, d.Ok → K (some d.v) (st (some v))) → turn v (st c) K) → (∀ d ∈ ds, d.Ok) → ds.length + l.length ≤ 1000 →
    (∀ ds' : List Drawn, (∀ d ∈ ds', d.Ok) → ds'.length = ds.length + l.length → ∀ c', Q (ds'.map Drawn.v) (st c')) → compGo false all turn l (ds.map Drawn.v) (st c) Q
  | [], ds, c, _, hd, _, q => q ds hd rfl c
  | v :: l, ds, c, ht, hd, hl, q => ht v (.head _) c _ fun d hok => by
    have := compGo_draw (turn := turn) (all := all) st (Q := Q) l (ds ++ [d]) (some v) (fun w hw => ht w (.tail _ hw)) (fun x hx => (List.mem_append.mp hx).elim (hd x) fun z => List.mem_singleton.mp z ▸ hok) (by rw [List.length_append]; exact Nat.le_trans (Nat.le_of_eq (Nat.succ_add_eq_add_succ _ _)) hl) fun ds' h1 h2 => q ds' h1 (by rw [h2, List.length_append]; exact Nat.succ_add_eq_add_succ _ _)
    rw [List.map_append] at this
    refine ⟨?_, this⟩
    rw [List.length_map]
    exact Nat.lt_of_lt_of_le (Nat.lt_add_of_pos_right (n := ds.length) (Nat.succ_pos l.length)) (Nat.le_trans hl (by decide))
theorem forGo_list {α : Type} {turn : V → PS} {Q : Fl → T → Prop} (g : α → V) (S : List α → T → Prop) (hs : ∀ a r σ (K : Fl → T → Prop), S (a :: r) σ → (∀ σ', S r σ' → K .nxt σ') → turn (g a) σ K) : ∀ (l : List α) (σ : T), S l σ → (∀ σ, S [] σ → Q .nxt σ) → forGo turn (l.map g) σ Q
  | [], σ, s, q => q σ s
  | a :: l, σ, s, q => hs a l σ _ s fun σ' s' => forGo_list g S hs l σ' s' q
theorem c_law (F : Footing D) {a : Addr} {ns : List Int} (h0 : ns ≠ []) (h3 : ns.length ≤ 3) {Q : V → Option (List V) → Prop} (q : ∀ hd, Q (.bool true) hd) : pb_law D ⟨[some (.raw a), some (.lst (ns.map .int)), none, none, none, none, none, none, none], [], none⟩ (leaveC Q) := by
  have hB : (1000 : Nat) < big := by decide
  unfold pb_law
  refine seq_g fun R hR => ?_
  dsimp only [bRng1, asInt, one, bLenL, asLst, opt, lstV, pAsg, pComp, pCall, pCons, pVar, gt, srcC, List.map, inn, aVar, kNil, pNil, pt]
  rw [List.length_map, rng3 h3]
  refine ⟨by omega, ⟨by omega, by omega⟩, compGo_draw (fun c => ⟨[c, some (.lst (ns.map .int))], [], none⟩) _ [] none (fun v hv c K hK => ?_) (fun d hd => nomatch hd) (by rw [List.length_map, List.length_range, List.length_nil]; omega) fun ds ok hl c => ?_⟩
  · obtain ⟨k, hk, rfl⟩ := List.mem_map.mp hv
    have hk := List.mem_range.mp hk
    dsimp only [lc0, aVar, pCall, pCons, pAddI, bin2, pItm, pVar, opt, pt, gt, cFn, kNil, pNil, cAddI, asInt, pLst, pLit, iLst, asLst, lstV]
    refine ⟨⟨by omega, by omega⟩, ix_mem (by rw [List.length_map]; omega) fun x hx => ?_⟩
    obtain ⟨x, _, rfl⟩ := List.mem_map.mp hx
    refine ⟨⟨by omega, by omega⟩, ix_mem (l := [266235, 2536676, 1205117].map V.int) (by rw [List.length_map]; dsimp only [List.length_cons, List.length_nil]; omega) fun y hy => ?_⟩
    obtain ⟨y, _, rfl⟩ := List.mem_map.mp hy
    exact c_drawn F hK
  rw [List.length_map, List.length_range, List.length_nil, Nat.zero_add] at hl
  subst hR
  refine seq_n fun R hR => ?_
  dsimp only [pAsg, pCall, pNil, kNil, bNew, nil0, aVar, pt]
  refine ⟨rfl, ?_⟩
  subst hR
  refine seq_n fun R hR => for_g fun B hB' => ?_
  dsimp only [iterV, aTup, asTup, List.length_cons, List.length_nil, opt, pVar, gt]
  refine forGo_list Drawn.v (fun l σ => ∃ done v4 v5 v6 v7 v8, ds = done ++ l ∧ σ = ⟨[some (.raw a), some (.lst (ns.map .int)), some (.lst (ds.map Drawn.v)), some .hdr, v4, v5, v6, v7, v8], [], some ((done.map rowOf).map pairV)⟩) ?_ ds _ ⟨[], none, none, none, none, none, rfl, rfl⟩ ?_
  · rintro d l σ K ⟨done, v4, v5, v6, v7, v8, e, rfl⟩ hK
    have hd := ok d (e ▸ List.mem_append_right _ (.head _))
    have hdl : (done.map rowOf).length ≤ 3 := by
      rw [e, List.length_append] at hl
      rw [List.length_map]
      omega
    have hK := fun v8 => hK _ ⟨done ++ [d], some (.str d.name), some (ownV d.own), some (.bool d.bare), some (.lst (itemsV d.items)), v8, by rw [List.append_assoc]; exact e, rfl⟩
    rw [List.map_append, List.map_append] at hK
    have RO := runs_ok hd.items hd.few
    subst hB'
    refine ⟨rfl, ?_⟩
    refine seq_g fun S hS => ?_
    dsimp only [pts, pt, pAsg, pCall, pCons, pVar, opt, gt, aVar, cFn, kNil, pNil]
    have hp := patT_le d.items
    have hf := hd.few
    refine c_pattern F (Nat.le_trans hf (by decide)) (by rw [sum_flat]; exact Nat.le_trans hp (by omega)) ?_
    rw [join_flat]
    refine c_translate F hd.items (Nat.le_trans hf (by decide)) ?_
    subst hS
    refine seq_e ?_
    have hadd := c_hAdd F (D := D) (name := d.name) (own := d.own) (bare := d.bare) (e := exprOf d.items) (l := (done.map rowOf).map pairV) (Q := fun v hd => v = .none ∧ K .nxt ⟨[some (.raw a), some (.lst (ns.map .int)), some (.lst (ds.map Drawn.v)), some .hdr, some (.str d.name), some (ownV d.own), some (.bool d.bare), some (.lst (itemsV d.items)), some (.str (exprOf d.items))], [], hd⟩) hd.name hd.own (regex_expr fun r hr c hc => ((RO.signs r hr).1 c hc).1) (Nat.le_trans RO.expr (by decide)) ?_ (by rw [List.length_map]; omega) ⟨rfl, hK _⟩
    · dsimp only [pIf, tru, pVar, opt, gt, pEx, pMet, mH, cFn, kCons, pLit, kNil, pCons, pNil, nHdr, asHdr, uBool, asBool]
      refine br_i (fun h => ?_) fun h => ?_
      · rw [show bareK d.bare = [(("q_" : Str), V.none)] from by rw [h]; rfl] at hadd
        exact hadd
      · rw [show bareK d.bare = [] from by rw [h]; rfl] at hadd
        exact hadd
    · intro z
      have hr : runsL d.items ≠ [] := by unfold runsL; exact List.append_ne_nil_of_right_ne_nil _ (List.cons_ne_nil _ _)
      obtain ⟨r, rs, hr⟩ := List.exists_cons_of_ne_nil hr
      unfold exprOf at z
      rw [hr] at z
      exact nomatch (List.append_eq_nil_iff.mp z).2
  · rintro σ ⟨done, v4, v5, v6, v7, v8, e, rfl⟩
    rw [List.append_nil] at e
    subst e
    subst hR
    refine seq_e ?_
    dsimp only [pRet, pCall, pCons, pVar, opt, gt, leaveC, cFn, kNil, pNil]
    refine c_writing F ok (by omega) (fun z => h0 (List.length_eq_zero_iff.mp (by rw [← hl, z]; rfl))) ?_
    rw [frz_ok rfl]
    exact q _

end

section
open PySem PySem.Calls PyProof.Rows PySem.W
noncomputable def paramsAt (i : Nat) : Arguments := match PySem.Challenge.pw_in0286_01.main.body[i]? with
  | some (.FunctionDef _ a _ _ _ _ _ _ _ _) => a
  | _ => default
noncomputable def hParamsAt (i : Nat) : Arguments := match clsBody[i]? with
  | some (.FunctionDef _ a _ _ _ _ _ _ _ _) => a
  | _ => default
noncomputable def E (P : Params) (x : Str) (t : Tok) (v : Value) : DictEntry := ⟨PyData.keyHash P x, .str x t, v⟩
noncomputable def fD (nm qn : Str) (a : Arguments) (b : List Stmt) (sc : Scope) (d k md cd : Value) : FuncData := ⟨nm, qn, a, .stmts b, sc, mainGlobals, [], d, k, .none, md, none, cd, .none, 0⟩
noncomputable def fO (nm qn : Str) (a : Arguments) (b : List Stmt) (sc : Scope) (d k md cd : Value) : Obj := ⟨.type "function", none, .func (fD nm qn a b sc d k md cd), #[]⟩
noncomputable def cF (nm qn : Str) (a : Arguments) (b : List Stmt) (sc : Scope) : Obj := ⟨.none, none, .func ⟨nm, qn, a, .stmts b, sc, 0, [], .none, .none, .none, .none, none, .none, .none, 0⟩, #[]⟩
noncomputable def cO (nm : Str) (t1 : Tok) (qn : Str) (t2 t3 : Tok) (line ac kwc fl : Int) (r1 : Addr) (b : Bool) (mt : Int) (tab : Addr) (x1 x2 x3 : Value) (t4 l2 : Int) (t5 : Tok) : Obj :=
  ⟨.type "code", none, .fields #[.str nm t1, .str qn t2, .str "/claim/cut.py" t3, .int line 0, .int ac 0, .int 0 0, .int kwc 0, .int fl 0, .ref r1, .bool b, .int mt 0, .ref tab, .none, x1, x2, x3, .int t4 0, .int l2 0, .str "/claim/cut.py" t5], #[]⟩
noncomputable def o0 (P : Params) : Obj := PySem.W.boot_o_0 P
noncomputable def o1 (P : Params) : Obj := ⟨.type "dict", none, .dict #[E P "builtins" 162 (.ref 4), E P "__main__" 163 (.ref 5), E P "_sre" 244 (.ref 12)] 3, #[]⟩
noncomputable def o3 (P : Params) : Obj := ⟨.type "dict", none, .dict #[E P "__name__" 165 (.str "__main__" 164), E P "__doc__" 166 (.none), E P "__package__" 167 (.none), E P "__loader__" 168 (.builtin "__main__.__loader__#opaque"), E P "__spec__" 169 (.none), E P "__annotations__" 170 (.ref 6), E P "__builtins__" 171 (.ref 4), E P "__file__" 173 (.str "/claim/cut.py" 172), E P "__cached__" 174 (.none), E P "_sre" 275 (.ref 12)] 10, #[]⟩
noncomputable def o7 (P : Params) : Obj := ⟨.type "tuple", none, .seq #[] 0, #[]⟩
noncomputable def o15 (P : Params) : Obj := ⟨.type "tuple", none, .seq #[] 0, #[]⟩
noncomputable def o23 (P : Params) : Obj := ⟨.type "tuple", none, .seq #[.str "_cached" 219, .str "_set_fileattr" 220, .str "_uninitialized_submodules" 221, .str "loader" 222, .str "loader_state" 223, .str "name" 224, .str "origin" 225, .str "submodule_search_locations" 226] 0, #[]⟩
noncomputable def o11 (P : Params) : Obj := ⟨.type "dict", none, .dict #[E P "__name__" 247 (.str "_sre" 246), E P "__doc__" 248 (.none), E P "__package__" 250 (.str "" 249), E P "__loader__" 251 (.ref 14), E P "__spec__" 252 (.ref 26), E P "compile" 253 (.builtin "_sre.compile"), E P "template" 254 (.builtin "_sre.template"), E P "getcodesize" 255 (.builtin "_sre.getcodesize"), E P "ascii_iscased" 256 (.builtin "_sre.ascii_iscased"), E P "unicode_iscased" 257 (.builtin "_sre.unicode_iscased"), E P "ascii_tolower" 258 (.builtin "_sre.ascii_tolower"), E P "unicode_tolower" 259 (.builtin "_sre.unicode_tolower"), E P "MAGIC" 261 (.int 20230612 260), E P "CODESIZE" 263 (.int 4 262), E P "MAXREPEAT" 265 (.int 4294967295 264), E P "MAXGROUPS" 267 (.int 1073741823 266), E P "copyright" 269 (.str " SRE 2.2.2 Copyright (c) 1997-2002 by Secret Labs AB " 268)] 17, #[]⟩
noncomputable def o19 (P : Params) : Obj := ⟨.type "list", none, .seq #[] 0, #[]⟩
noncomputable def o27 (P : Params) : Obj := ⟨.none, none, .seq #[.int 11 0, .str ⟨#[6, 247, 8, 95, 95, 110, 97, 109, 101, 95, 95, 6, 246, 4, 95, 115, 114, 101, 6, 248, 7, 95, 95, 100, 111, 99, 95, 95, 0, 6, 250, 11, 95, 95, 112, 97, 99, 107, 97, 103, 101, 95, 95, 6, 249, 0, 6, 251, 10, 95, 95, 108, 111, 97, 100, 101, 114, 95, 95, 4, 0, 0, 14, 6, 252, 8, 95, 95, 115, 112, 101, 99, 95, 95, 4, 0, 0, 26, 6, 253, 7, 99, 111, 109, 112, 105, 108, 101, 9, 12, 95, 115, 114, 101, 46, 99, 111, 109, 112, 105, 108, 101, 6, 254, 8, 116, 101, 109, 112, 108, 97, 116, 101, 9, 13, 95, 115, 114, 101, 46, 116, 101, 109, 112, 108, 97, 116, 101, 6, 255, 11, 103, 101, 116, 99, 111, 100, 101, 115, 105, 122, 101, 9, 16, 95, 115, 114, 101, 46, 103, 101, 116, 99, 111, 100, 101, 115, 105, 122, 101, 6, 256, 13, 97, 115, 99, 105, 105, 95, 105, 115, 99, 97, 115, 101, 100, 9, 18, 95, 115, 114, 101, 46, 97, 115, 99, 105, 105, 95, 105, 115, 99, 97, 115, 101, 100, 6, 257, 15, 117, 110, 105, 99, 111, 100, 101, 95, 105, 115, 99, 97, 115, 101, 100, 9, 20, 95, 115, 114, 101, 46, 117, 110, 105, 99, 111, 100, 101, 95, 105, 115, 99, 97, 115, 101, 100, 6, 258, 13, 97, 115, 99, 105, 105, 95, 116, 111, 108, 111, 119, 101, 114, 9, 18, 95, 115, 114, 101, 46, 97, 115, 99, 105, 105, 95, 116, 111, 108, 111, 119, 101, 114, 6, 259, 15, 117, 110, 105, 99, 111, 100, 101, 95, 116, 111, 108, 111, 119, 101, 114, 9, 20, 95, 115, 114, 101, 46, 117, 110, 105, 99, 111, 100, 101, 95, 116, 111, 108, 111, 119, 101, 114, 6, 261, 5, 77, 65, 71, 73, 67, 4, 260, 0, 20230612, 6, 263, 8, 67, 79, 68, 69, 83, 73, 90, 69, 4, 262, 0, 4, 6, 265, 9, 77, 65, 88, 82, 69, 80, 69, 65, 84, 4, 264, 0, 4294967295, 6, 267, 9, 77, 65, 88, 71, 82, 79, 85, 80, 83, 4, 266, 0, 1073741823, 6, 269, 9, 99, 111, 112, 121, 114, 105, 103, 104, 116, 6, 268, 53, 32, 83, 82, 69, 32, 50, 46, 50, 46, 50, 32, 67, 111, 112, 121, 114, 105, 103, 104, 116, 32, 40, 99, 41, 32, 49, 57, 57, 55, 45, 50, 48, 48, 50, 32, 98, 121, 32, 83, 101, 99, 114, 101, 116, 32, 76, 97, 98, 115, 32, 65, 66, 32]⟩ 0, .bool true, .bool false, .str "_sre" 271] 0, #[]⟩
noncomputable def o5 (P : Params) : Obj := ⟨.type "module", some 3, .plain, #[]⟩
noncomputable def o9 (P : Params) : Obj := cO "<module>" 176 "<module>" 177 178 1 0 0 0 7 false 175 8 (.none) (.none) (.none) 179 1 180
noncomputable def o17 (P : Params) : Obj := ⟨.type "getset_descriptor", none, .fields #[.str "__weakref__" 203, .ref 14, .builtin "ExceptionGroup.__weakref__", .none], #[]⟩
noncomputable def o25 (P : Params) : Obj := ⟨.type "getset_descriptor", none, .fields #[.str "__weakref__" 239, .ref 22, .builtin "ExceptionGroup.__weakref__", .none], #[]⟩
noncomputable def o13 (P : Params) : Obj := ⟨.type "dict", none, .dict #[E P "__module__" 189 (.str "_frozen_importlib" 186), E P "__firstlineno__" 190 (.int 971 187), E P "__doc__" 191 (.builtin "_frozen_importlib.BuiltinImporter.__doc__:str#opaque"), E P "_ORIGIN" 192 (.str "built-in" 188), E P "find_spec" 193 (.builtin "_frozen_importlib.BuiltinImporter.find_spec#opaque"), E P "create_module" 194 (.builtin "_frozen_importlib.BuiltinImporter.create_module#opaque"), E P "exec_module" 195 (.builtin "_frozen_importlib.BuiltinImporter.exec_module#opaque"), E P "get_code" 196 (.builtin "_frozen_importlib.BuiltinImporter.get_code#opaque"), E P "get_source" 197 (.builtin "_frozen_importlib.BuiltinImporter.get_source#opaque"), E P "is_package" 198 (.builtin "_frozen_importlib.BuiltinImporter.is_package#opaque"), E P "load_module" 199 (.builtin "_frozen_importlib.BuiltinImporter.load_module#opaque"), E P "__static_attributes__" 200 (.ref 15), E P "__dict__" 202 (.ref 16), E P "__weakref__" 204 (.ref 17)] 14, #[]⟩
noncomputable def o21 (P : Params) : Obj := ⟨.type "dict", none, .dict #[E P "__module__" 227 (.str "_frozen_importlib" 217), E P "__firstlineno__" 228 (.int 562 218), E P "__doc__" 229 (.builtin "_frozen_importlib.ModuleSpec.__doc__:str#opaque"), E P "__init__" 230 (.builtin "_frozen_importlib.ModuleSpec.__init__#opaque"), E P "__repr__" 231 (.builtin "_frozen_importlib.ModuleSpec.__repr__#opaque"), E P "__eq__" 232 (.builtin "_frozen_importlib.ModuleSpec.__eq__#opaque"), E P "cached" 233 (.builtin "_frozen_importlib.ModuleSpec.cached#opaque"), E P "parent" 234 (.builtin "_frozen_importlib.ModuleSpec.parent#opaque"), E P "has_location" 235 (.builtin "_frozen_importlib.ModuleSpec.has_location#opaque"), E P "__static_attributes__" 236 (.ref 23), E P "__dict__" 238 (.ref 24), E P "__weakref__" 240 (.ref 25), E P "__hash__" 241 (.none)] 13, #[]⟩
noncomputable def o2 (P : Params) : Obj := ⟨.none, none, .dict #[E P "\x69mport.loaded._sre" 183 (.bool true), E P "class._frozen_importlib.BuiltinImporter" 185 (.ref 14), E P "watched.\x69mport" 206 (.ref 18), E P "class._frozen_importlib.ModuleSpec" 216 (.ref 22), E P "sys.modules.booked-epoch" 245 (.int 3 0), E P "\x69mport.later-laid._sre" 270 (.bool true), E P "watched.library" 272 (.ref 27), E P "watched.library-objects" 0 (.str "\x0c" 0), E P "watched.library-deep._sre" 273 (.str "\x04\x00\x00\x0b\x04\x00\x00\x0b\x04\x00\x00\x03\x04\x00\x00\x0b\x08\x04dict\x02" 0)] 9, #[]⟩
noncomputable def o4 (P : Params) : Obj := ⟨.type "module", some 0, .plain, #[]⟩
noncomputable def o8 (P : Params) : Obj := ⟨.none, none, .fields #[], #[]⟩
noncomputable def o16 (P : Params) : Obj := ⟨.type "getset_descriptor", none, .fields #[.str "__dict__" 201, .ref 14, .builtin "function.__dict__", .builtin "function.__dict__#set"], #[]⟩
noncomputable def o24 (P : Params) : Obj := ⟨.type "getset_descriptor", none, .fields #[.str "__dict__" 237, .ref 22, .builtin "function.__dict__", .builtin "function.__dict__#set"], #[]⟩
noncomputable def o12 (P : Params) : Obj := ⟨.type "module", some 11, .plain, #[]⟩
noncomputable def o20 (P : Params) : Obj := ⟨.type "dict", none, .dict #[E P "name" 208 (.str "_sre" 207), E P "loader" 209 (.ref 14), E P "origin" 210 (.str "built-in" 184), E P "loader_state" 211 (.none), E P "submodule_search_locations" 212 (.none), E P "_uninitialized_submodules" 213 (.ref 19), E P "_set_fileattr" 214 (.bool false), E P "_cached" 215 (.none), E P "_initializing" 243 (.bool false)] 9, #[]⟩
noncomputable def o6 (P : Params) : Obj := ⟨.type "dict", none, .dict #[] 0, #[]⟩
noncomputable def o10 (P : Params) : Obj := ⟨.type "frame", none, .plain, #[some (.ref 9), some (.ref 3), some (.ref 3), none, some (.str "__main__" 164), none, some (.ref 0)]⟩
noncomputable def o18 (P : Params) : Obj := ⟨.none, none, .seq #[.int 13 0, .str "\x06\u00bd\n__module__\x06\u00ba\x11_frozen_importlib\x06\u00be\x0f__firstlineno__\x04\u00bb\x00\u03cb\x06\u00bf\x07__doc__\t4_frozen_importlib.BuiltinImporter.__doc__:str#opaque\x06\u00c0\x07_ORIGIN\x06\u00bc\x08built-in\x06\u00c1\tfind_spec\t2_frozen_importlib.BuiltinImporter.find_spec#opaque\x06\u00c2\x0dcreate_module\t6_frozen_importlib.BuiltinImporter.create_module#opaque\x06\u00c3\x0bexec_module\t4_frozen_importlib.BuiltinImporter.exec_module#opaque\x06\u00c4\x08get_code\t1_frozen_importlib.BuiltinImporter.get_code#opaque\x06\u00c5\nget_source\t3_frozen_importlib.BuiltinImporter.get_source#opaque\x06\u00c6\nis_package\t3_frozen_importlib.BuiltinImporter.is_package#opaque\x06\u00c7\x0bload_module\t4_frozen_importlib.BuiltinImporter.load_module#opaque\x06\u00c8\x15__static_attributes__\x04\x00\x00\x0f\x06\u00ca\x08__dict__\x04\x00\x00\x10\x06\u00cc\x0b__weakref__\x04\x00\x00\x11" 0, .bool true, .bool true, .str "" 205, .int 21 0, .str "\x06\u00e3\n__module__\x06\u00d9\x11_frozen_importlib\x06\u00e4\x0f__firstlineno__\x04\u00da\x00\u0232\x06\u00e5\x07__doc__\t/_frozen_importlib.ModuleSpec.__doc__:str#opaque\x06\u00e6\x08__init__\t,_frozen_importlib.ModuleSpec.__init__#opaque\x06\u00e7\x08__repr__\t,_frozen_importlib.ModuleSpec.__repr__#opaque\x06\u00e8\x06__eq__\t*_frozen_importlib.ModuleSpec.__eq__#opaque\x06\u00e9\x06cached\t*_frozen_importlib.ModuleSpec.cached#opaque\x06\u00ea\x06parent\t*_frozen_importlib.ModuleSpec.parent#opaque\x06\u00eb\x0chas_location\t0_frozen_importlib.ModuleSpec.has_location#opaque\x06\u00ec\x15__static_attributes__\x04\x00\x00\x17\x06\u00ee\x08__dict__\x04\x00\x00\x18\x06\u00f0\x0b__weakref__\x04\x00\x00\x19\x06\u00f1\x08__hash__\x00" 0, .bool true, .bool true, .str "" 242] 1, #[]⟩
noncomputable def o26 (P : Params) : Obj := ⟨.ref 22, some 20, .plain, #[]⟩
noncomputable def o14 (P : Params) : Obj := ⟨.type "type", none, .cls ⟨"BuiltinImporter", [.type "object"], [.ref 14, .type "object"], 13, "BuiltinImporter", true, [], [], false, none, false⟩, #[]⟩
noncomputable def o22 (P : Params) : Obj := ⟨.type "type", none, .cls ⟨"ModuleSpec", [.type "object"], [.ref 22, .type "object"], 21, "ModuleSpec", true, [], [], false, none, false⟩, #[]⟩
noncomputable def o11_1 (P : Params) : Obj := ⟨.type "dict", none, .dict #[E P "__name__" 247 (.str "_sre" 246), E P "__doc__" 248 (.none), E P "__package__" 250 (.str "" 249), E P "__loader__" 251 (.builtin "off-the-table:_sre.__loader__:shared#opaque"), E P "__spec__" 252 (.builtin "off-the-table:_sre.__spec__:shared#opaque"), E P "compile" 253 (.builtin "_sre.compile"), E P "template" 254 (.builtin "off-the-table:_sre.template:shared#opaque"), E P "getcodesize" 255 (.builtin "off-the-table:_sre.getcodesize:shared#opaque"), E P "ascii_iscased" 256 (.builtin "off-the-table:_sre.ascii_iscased:shared#opaque"), E P "unicode_iscased" 257 (.builtin "off-the-table:_sre.unicode_iscased:shared#opaque"), E P "ascii_tolower" 258 (.builtin "off-the-table:_sre.ascii_tolower:shared#opaque"), E P "unicode_tolower" 259 (.builtin "off-the-table:_sre.unicode_tolower:shared#opaque"), E P "MAGIC" 261 (.int 20230612 260), E P "CODESIZE" 263 (.int 4 262), E P "MAXREPEAT" 265 (.int 4294967295 264), E P "MAXGROUPS" 267 (.int 1073741823 266), E P "copyright" 269 (.str " SRE 2.2.2 Copyright (c) 1997-2002 by Secret Labs AB " 268)] 17, #[]⟩
noncomputable def o31 (P : Params) : Obj := ⟨.type "frame", none, .plain, #[some (.ref 30), some (.ref 3), some (.ref 3), none, some (.str "__main__" 164), none, some (.ref 0)]⟩
noncomputable def o29 (P : Params) : Obj := ⟨.none, none, .fields #[], #[]⟩
noncomputable def o28 (P : Params) : Obj := ⟨.type "tuple", none, .seq #[] 0, #[]⟩
noncomputable def o30 (P : Params) : Obj := cO "<module>" 277 "<module>" 278 279 1 0 0 0 28 false 276 29 (.none) (.none) (.none) 280 1 281
noncomputable def o3_1 (P : Params) : Obj := ⟨.type "dict", none, .dict #[E P "__name__" 165 (.str "re" 363), E P "__doc__" 166 (.none), E P "__package__" 167 (.none), E P "__loader__" 168 (.builtin "__main__.__loader__#opaque"), E P "__spec__" 169 (.none), E P "__annotations__" 170 (.ref 6), E P "__builtins__" 171 (.ref 4), E P "__file__" 173 (.str "/claim/cut.py" 172), E P "__cached__" 174 (.none), E P "_sre" 275 (.ref 12), E P "_wall" 288 (.ref 38), E P "_MAX_LENGTH" 292 (.int 80 291), E P "_PLACEHOLDER_LEN" 294 (.int 12 293), E P "_shorten" 304 (.ref 45), E P "safe_repr" 313 (.ref 53), E P "_twin_re_1" 353 (.ref 58), E P "translate" 362 (.ref 65)] 17, #[]⟩
noncomputable def o63 (P : Params) : Obj := cF "translate" "translate" (paramsAt 9) (bodyAt 9) (scopeAt 9)
noncomputable def o47 (P : Params) : Obj := ⟨.type "tuple", none, .seq #[] 0, #[]⟩
noncomputable def o39 (P : Params) : Obj := ⟨.type "tuple", none, .seq #[] 0, #[]⟩
noncomputable def o55 (P : Params) : Obj := ⟨.type "dict", none, .dict #[] 0, #[]⟩
noncomputable def o35 (P : Params) : Obj := ⟨.type "tuple", none, .seq #[] 0, #[]⟩
noncomputable def o51 (P : Params) : Obj := cF "safe_repr" "safe_repr" (paramsAt 6) (bodyAt 6) (scopeAt 6)
noncomputable def o43 (P : Params) : Obj := cF "_shorten" "_shorten" (paramsAt 5) (bodyAt 5) (scopeAt 5)
noncomputable def o59 (P : Params) : Obj := ⟨.type "tuple", none, .seq #[] 0, #[]⟩
noncomputable def o33 (P : Params) : Obj := ⟨.none, none, .fields #[], #[]⟩
noncomputable def o65 (P : Params) : Obj := fO "translate" "translate" (paramsAt 9) (bodyAt 9) (scopeAt 9) (.none) (.none) (.str "cpy313.fnmatch" 314) (.ref 64)
noncomputable def o49 (P : Params) : Obj := ⟨.type "tuple", none, .seq #[.str "obj" 308, .str "short" 309, .str "result" 310] 0, #[]⟩
noncomputable def o41 (P : Params) : Obj := ⟨.type "tuple", none, .seq #[.str "s" 298, .str "prefixlen" 299, .str "suffixlen" 300, .str "skip" 301] 0, #[]⟩
noncomputable def o57 (P : Params) : Obj := ⟨.type "tuple", none, .seq #[.int 14 0, .int 14 0, .int 4 0, .int 1 0, .int 1 0, .int 9 0, .int 0 0, .int 64 0, .int 0 0, .int 1342177280 0, .int 0 0, .int 0 0, .int 0 0, .int 0 0, .int 0 0, .int 17 0, .int 0 0, .int 13 0, .int 11 0, .int 9 0, .int 0 0, .int 64 0, .int 0 0, .int 1342177280 0, .int 0 0, .int 0 0, .int 0 0, .int 0 0, .int 0 0, .int 17 0, .int 1 0, .int 1 0] 0, #[]⟩
noncomputable def o37 (P : Params) : Obj := cO "_wall" 282 "_wall" 283 284 2 1 0 3 32 true 276 33 (.ref 34) (.ref 35) (.ref 36) 286 2 287
noncomputable def o53 (P : Params) : Obj := fO "safe_repr" "safe_repr" (paramsAt 6) (bodyAt 6) (scopeAt 6) (.ref 46) (.none) (.str "cpy313.unittest.util" 289) (.ref 52)
noncomputable def o29_1 (P : Params) : Obj := ⟨.none, none, .fields #[.int 2 0, .int 0 0, .ref 37, .int 8 0, .int 0 0, .ref 44, .int 13 0, .int 0 0, .ref 52, .int 23 0, .int 0 0, .ref 64], #[]⟩
noncomputable def o45 (P : Params) : Obj := fO "_shorten" "_shorten" (paramsAt 5) (bodyAt 5) (scopeAt 5) (.none) (.none) (.str "cpy313.unittest.util" 289) (.ref 44)
noncomputable def o61 (P : Params) : Obj := ⟨.type "tuple", none, .seq #[.str "pat" 357, .str "STAR" 358, .str "parts" 359] 0, #[]⟩
noncomputable def o32 (P : Params) : Obj := ⟨.type "tuple", none, .seq #[] 0, #[]⟩
noncomputable def o64 (P : Params) : Obj := cO "translate" 354 "translate" 355 356 23 1 0 3 59 true 276 60 (.ref 61) (.ref 62) (.ref 63) 360 23 361
noncomputable def o48 (P : Params) : Obj := ⟨.none, none, .fields #[], #[]⟩
noncomputable def o40 (P : Params) : Obj := ⟨.none, none, .fields #[], #[]⟩
noncomputable def o56 (P : Params) : Obj := ⟨.type "tuple", none, .seq #[.none, .none] 0, #[]⟩
noncomputable def o36 (P : Params) : Obj := cF "_wall" "_wall" (paramsAt 1) (bodyAt 1) (scopeAt 1)
noncomputable def o52 (P : Params) : Obj := cO "safe_repr" 305 "safe_repr" 306 307 13 2 0 3 47 true 276 48 (.ref 49) (.ref 50) (.ref 51) 311 13 312
noncomputable def o44 (P : Params) : Obj := cO "_shorten" 295 "_shorten" 296 297 8 3 0 3 39 true 276 40 (.ref 41) (.ref 42) (.ref 43) 302 8 303
noncomputable def o60 (P : Params) : Obj := ⟨.none, none, .fields #[], #[]⟩
noncomputable def o34 (P : Params) : Obj := ⟨.type "tuple", none, .seq #[.str "k" 285] 0, #[]⟩
noncomputable def o50 (P : Params) : Obj := ⟨.type "tuple", none, .seq #[] 0, #[]⟩
noncomputable def o42 (P : Params) : Obj := ⟨.type "tuple", none, .seq #[] 0, #[]⟩
noncomputable def o58 (P : Params) : Obj := ⟨.type "re.Pattern", none, .fields #[.str "([&~|])" 317, .int 32 352, .int 1 0, .none, .none, .ref 57, .int 0 0], #[]⟩
noncomputable def o38 (P : Params) : Obj := fO "_wall" "_wall" (paramsAt 1) (bodyAt 1) (scopeAt 1) (.none) (.none) (.str "__main__" 164) (.ref 37)
noncomputable def o54 (P : Params) : Obj := ⟨.type "list", none, .seq #[.int 14 319, .int 14 320, .int 4 321, .int 1 322, .int 1 323, .int 9 324, .int 0 325, .int 64 326, .int 0 327, .int 1342177280 328, .int 0 329, .int 0 330, .int 0 331, .int 0 332, .int 0 333, .int 17 334, .int 0 335, .int 13 336, .int 11 337, .int 9 338, .int 0 339, .int 64 340, .int 0 341, .int 1342177280 342, .int 0 343, .int 0 344, .int 0 345, .int 0 346, .int 0 347, .int 17 348, .int 1 349, .int 1 350] 0, #[]⟩
noncomputable def o46 (P : Params) : Obj := ⟨.type "tuple", none, .seq #[.bool false] 0, #[]⟩
noncomputable def o62 (P : Params) : Obj := ⟨.type "tuple", none, .seq #[] 0, #[]⟩
noncomputable def o3_2 (P : Params) : Obj := ⟨.type "dict", none, .dict #[E P "__name__" 165 (.str "re" 363), E P "__doc__" 166 (.none), E P "__package__" 167 (.none), E P "__loader__" 168 (.builtin "__main__.__loader__#opaque"), E P "__spec__" 169 (.none), E P "__annotations__" 170 (.ref 6), E P "__builtins__" 171 (.ref 4), E P "__file__" 173 (.str "/claim/cut.py" 172), E P "__cached__" 174 (.none), E P "_sre" 275 (.ref 12), E P "_wall" 288 (.ref 38), E P "_MAX_LENGTH" 292 (.int 80 291), E P "_PLACEHOLDER_LEN" 294 (.int 12 293), E P "_shorten" 304 (.ref 45), E P "safe_repr" 313 (.ref 53), E P "_twin_re_1" 353 (.ref 58), E P "translate" 362 (.ref 65), E P "_special_chars_map" 510 (.ref 67)] 18, #[]⟩
noncomputable def o67 (P : Params) : Obj := ⟨.type "dict", none, .dict #[⟨40, .int 40 366,  (.str "\\(" 370)⟩, ⟨41, .int 41 372,  (.str "\\)" 376)⟩, ⟨91, .int 91 378,  (.str "\\[" 382)⟩, ⟨93, .int 93 384,  (.str "\\]" 388)⟩, ⟨123, .int 123 390,  (.str "\\{" 394)⟩, ⟨125, .int 125 396,  (.str "\\}" 400)⟩, ⟨63, .int 63 402,  (.str "\\?" 406)⟩, ⟨42, .int 42 408,  (.str "\\*" 412)⟩, ⟨43, .int 43 414,  (.str "\\+" 418)⟩, ⟨45, .int 45 420,  (.str "\\-" 424)⟩, ⟨124, .int 124 426,  (.str "\\|" 430)⟩, ⟨94, .int 94 432,  (.str "\\^" 436)⟩, ⟨36, .int 36 438,  (.str "\\$" 442)⟩, ⟨92, .int 92 444,  (.str "\\\\" 448)⟩, ⟨46, .int 46 450,  (.str "\\." 454)⟩, ⟨38, .int 38 456,  (.str "\\&" 460)⟩, ⟨126, .int 126 462,  (.str "\\~" 466)⟩, ⟨35, .int 35 468,  (.str "\\#" 472)⟩, ⟨32, .int 32 474,  (.str "\\ " 478)⟩, ⟨9, .int 9 480,  (.str "\\\t" 484)⟩, ⟨10, .int 10 486,  (.str "\\\n" 490)⟩, ⟨13, .int 13 492,  (.str "\\\x0d" 496)⟩, ⟨11, .int 11 498,  (.str "\\\x0b" 502)⟩, ⟨12, .int 12 504,  (.str "\\\x0c" 508)⟩] 24, #[]⟩
noncomputable def o69 (P : Params) : Obj := ⟨.type "tuple", none, .seq #[] 0, #[]⟩
noncomputable def o68 (P : Params) : Obj := ⟨.type "dict", none, .dict #[] 2, #[]⟩
noncomputable def o66 (P : Params) : Obj := ⟨.type "bytes_iterator", none, .fields #[.none, .int 24 0], #[]⟩
noncomputable def o70 (P : Params) : Obj := ⟨.type "StopIteration", none, .fields #[.ref 69, .none, .none, .none, .bool false, .none], #[]⟩
noncomputable def o3_3 (P : Params) : Obj := ⟨.type "dict", none, .dict #[E P "__name__" 165 (.str "law_in0286_01" 817), E P "__doc__" 166 (.none), E P "__package__" 167 (.none), E P "__loader__" 168 (.builtin "__main__.__loader__#opaque"), E P "__spec__" 169 (.none), E P "__annotations__" 170 (.ref 6), E P "__builtins__" 171 (.ref 4), E P "__file__" 173 (.str "/claim/cut.py" 172), E P "__cached__" 174 (.none), E P "_sre" 275 (.ref 12), E P "_wall" 288 (.ref 38), E P "_MAX_LENGTH" 292 (.int 80 291), E P "_PLACEHOLDER_LEN" 294 (.int 12 293), E P "_shorten" 304 (.ref 45), E P "safe_repr" 313 (.ref 53), E P "_twin_re_1" 353 (.ref 58), E P "translate" 362 (.ref 65), E P "_special_chars_map" 510 (.ref 67), E P "escape" 517 (.ref 77), E P "_translate" 538 (.ref 84), E P "_join_translated_parts" 551 (.ref 91), E P "tspecials" 587 (.ref 96), E P "_name_disallowed_re" 613 (.ref 101), E P "_value_disallowed_re" 647 (.ref 106), E P "_formatparam" 657 (.ref 114), E P "Headers" 816 (.ref 237), E P "_law_drawn" 830 (.ref 248), E P "_law_pattern" 836 (.ref 253), E P "_law_meant" 846 (.ref 260), E P "_law_texts" 859 (.ref 267), E P "_law_bits" 871 (.ref 274), E P "_law_members" 882 (.ref 281), E P "_law_atoms" 893 (.ref 288), E P "_law_home" 899 (.ref 293), E P "_law_header" 905 (.ref 298), E P "_law_writing" 911 (.ref 303), E P "law" 917 (.ref 308)] 37, #[]⟩
noncomputable def o76 (P : Params) : Obj := cO "escape" 511 "escape" 512 513 29 1 0 3 71 true 276 72 (.ref 73) (.ref 74) (.ref 75) 515 29 516
noncomputable def o77 (P : Params) : Obj := fO "escape" "escape" (paramsAt 12) (bodyAt 12) (scopeAt 12) (.none) (.none) (.str "re" 363) (.ref 76)
noncomputable def o83 (P : Params) : Obj := cO "_translate" 520 "_translate" 521 522 36 3 0 3 78 true 276 79 (.ref 80) (.ref 81) (.ref 82) 536 36 537
noncomputable def o84 (P : Params) : Obj := fO "_translate" "_translate" (paramsAt 14) (bodyAt 14) (scopeAt 14) (.none) (.none) (.str "cpy313.fnmatch" 518) (.ref 83)
noncomputable def o90 (P : Params) : Obj := cO "_join_translated_parts" 539 "_join_translated_parts" 540 541 98 2 0 3 85 true 276 86 (.ref 87) (.ref 88) (.ref 89) 549 98 550
noncomputable def o91 (P : Params) : Obj := fO "_join_translated_parts" "_join_translated_parts" (paramsAt 15) (bodyAt 15) (scopeAt 15) (.none) (.none) (.str "cpy313.fnmatch" 518) (.ref 90)
noncomputable def o100 (P : Params) : Obj := ⟨.type "tuple", none, .seq #[.int 14 0, .int 10 0, .int 4 0, .int 1 0, .int 1 0, .int 22 0, .int 0 0, .int 31 0, .int 16 0, .int 127 0, .int 0 0, .int 13 0, .int 7 0, .int 22 0, .int 0 0, .int 31 0, .int 16 0, .int 127 0, .int 0 0, .int 1 0] 0, #[]⟩
noncomputable def o101 (P : Params) : Obj := ⟨.type "re.Pattern", none, .fields #[.str "[\\x00-\\x1F\\x7F]" 589, .int 32 612, .int 0 0, .none, .none, .ref 100, .int 0 0], #[]⟩
noncomputable def o105 (P : Params) : Obj := ⟨.type "tuple", none, .seq #[.int 14 0, .int 14 0, .int 4 0, .int 1 0, .int 1 0, .int 9 0, .int 4294966783 0, .int 0 0, .int 0 0, .int 2147483648 0, .int 0 0, .int 0 0, .int 0 0, .int 0 0, .int 0 0, .int 13 0, .int 11 0, .int 9 0, .int 4294966783 0, .int 0 0, .int 0 0, .int 2147483648 0, .int 0 0, .int 0 0, .int 0 0, .int 0 0, .int 0 0, .int 1 0] 0, #[]⟩
noncomputable def o106 (P : Params) : Obj := ⟨.type "re.Pattern", none, .fields #[.str "[\\x00-\\x08\\x0A-\\x1F\\x7F]" 615, .int 32 646, .int 0 0, .none, .none, .ref 105, .int 0 0], #[]⟩
noncomputable def o107 (P : Params) : Obj := ⟨.type "tuple", none, .seq #[.none, .int 1 648] 0, #[]⟩
noncomputable def o113 (P : Params) : Obj := cO "_formatparam" 649 "_formatparam" 650 651 129 3 0 3 108 true 276 109 (.ref 110) (.ref 111) (.ref 112) 655 129 656
noncomputable def o114 (P : Params) : Obj := fO "_formatparam" "_formatparam" (paramsAt 20) (bodyAt 20) (scopeAt 20) (.ref 107) (.none) (.str "cpy313.wsgiref.headers" 552) (.ref 113)
noncomputable def o122 (P : Params) : Obj := ⟨.type "tuple", none, .seq #[.none] 0, #[]⟩
noncomputable def o128 (P : Params) : Obj := cO "__init__" 670 "Headers.__init__" 671 672 140 2 0 3 123 true 276 124 (.ref 125) (.ref 126) (.ref 127) 677 140 678
noncomputable def o129 (P : Params) : Obj := fO "__init__" "Headers.__init__" (hParamsAt 0) (hBodyAt 0) (hScopeAt 0) (.ref 122) (.none) (.str "cpy313.wsgiref.headers" 552) (.ref 128)
noncomputable def o135 (P : Params) : Obj := cO "_convert_string_type" 680 "Headers._convert_string_type" 681 682 150 2 1 3 130 true 276 131 (.ref 132) (.ref 133) (.ref 134) 687 150 688
noncomputable def o136 (P : Params) : Obj := fO "_convert_string_type" "Headers._convert_string_type" (hParamsAt 1) (hBodyAt 1) (hScopeAt 1) (.none) (.none) (.str "cpy313.wsgiref.headers" 552) (.ref 135)
noncomputable def o200 (P : Params) : Obj := cO "items" 759 "Headers.items" 760 761 191 1 0 3 195 true 276 196 (.ref 197) (.ref 198) (.ref 199) 763 191 764
noncomputable def o201 (P : Params) : Obj := fO "items" "Headers.items" (hParamsAt 11) (hBodyAt 11) (hScopeAt 11) (.none) (.none) (.str "cpy313.wsgiref.headers" 552) (.ref 200)
noncomputable def o207 (P : Params) : Obj := cO "__repr__" 766 "Headers.__repr__" 767 768 194 1 0 3 202 true 276 203 (.ref 204) (.ref 205) (.ref 206) 770 194 771
noncomputable def o208 (P : Params) : Obj := fO "__repr__" "Headers.__repr__" (hParamsAt 12) (hBodyAt 12) (hScopeAt 12) (.none) (.none) (.str "cpy313.wsgiref.headers" 552) (.ref 207)
noncomputable def o212 (P : Params) : Obj := cO "__str__" 773 "Headers.__str__" 774 775 197 1 0 3 209 true 276 210 (.none) (.none) (.ref 211) 776 197 777
noncomputable def o213 (P : Params) : Obj := fO "__str__" "Headers.__str__" (hParamsAt 13) (hBodyAt 13) (hScopeAt 13) (.none) (.none) (.str "cpy313.wsgiref.headers" 552) (.ref 212)
noncomputable def o233 (P : Params) : Obj := cO "add_header" 795 "Headers.add_header" 796 797 206 3 0 11 228 true 276 229 (.ref 230) (.ref 231) (.ref 232) 805 206 806
noncomputable def o234 (P : Params) : Obj := fO "add_header" "Headers.add_header" (hParamsAt 16) (hBodyAt 16) (hScopeAt 16) (.none) (.none) (.str "cpy313.wsgiref.headers" 552) (.ref 233)
noncomputable def o236 (P : Params) : Obj := ⟨.type "dict", none, .dict #[E P "__module__" 665 (.str "cpy313.wsgiref.headers" 552), E P "__firstlineno__" 669 (.int 138 668), E P "__init__" 679 (.ref 129), E P "_convert_string_type" 689 (.ref 136), E P "__len__" 696 (.ref 143), E P "__setitem__" 705 (.ref 150), E P "__delitem__" 711 (.ref 155), E P "__getitem__" 719 (.ref 162), E P "__contains__" 727 (.ref 169), E P "get_all" 735 (.ref 176), E P "get" 746 (.ref 184), E P "keys" 752 (.ref 189), E P "values" 758 (.ref 194), E P "items" 765 (.ref 201), E P "__repr__" 772 (.ref 208), E P "__str__" 778 (.ref 213), E P "__bytes__" 785 (.ref 220), E P "setdefault" 794 (.ref 227), E P "add_header" 807 (.ref 234), E P "__static_attributes__" 809 (.ref 235), E P "__dict__" 811 (.ref 238), E P "__weakref__" 813 (.ref 239), E P "__doc__" 814 (.none)] 4, #[]⟩
noncomputable def o237 (P : Params) : Obj := ⟨.type "type", none, .cls ⟨"Headers", [.type "object"], [.ref 237, .type "object"], 236, "Headers", true, [], [], false, none, false⟩, #[none, none, some (.str "Headers" 658), some (.str "Headers" 666), some (.builtin "object.__new__"), some (.bool true)]⟩
noncomputable def o247 (P : Params) : Obj := cO "_law_drawn" 819 "_law_drawn" 820 821 220 1 0 3 242 true 276 243 (.ref 244) (.ref 245) (.ref 246) 828 220 829
noncomputable def o248 (P : Params) : Obj := fO "_law_drawn" "_law_drawn" (paramsAt 23) (bodyAt 23) (scopeAt 23) (.none) (.none) (.str "law_in0286_01" 817) (.ref 247)
noncomputable def o252 (P : Params) : Obj := cO "_law_pattern" 831 "_law_pattern" 832 833 228 1 0 3 249 true 276 250 (.none) (.none) (.ref 251) 834 228 835
noncomputable def o253 (P : Params) : Obj := fO "_law_pattern" "_law_pattern" (paramsAt 24) (bodyAt 24) (scopeAt 24) (.none) (.none) (.str "law_in0286_01" 817) (.ref 252)
noncomputable def o259 (P : Params) : Obj := cO "_law_meant" 837 "_law_meant" 838 839 231 1 0 3 254 true 276 255 (.ref 256) (.ref 257) (.ref 258) 844 231 845
noncomputable def o260 (P : Params) : Obj := fO "_law_meant" "_law_meant" (paramsAt 25) (bodyAt 25) (scopeAt 25) (.none) (.none) (.str "law_in0286_01" 817) (.ref 259)
noncomputable def o266 (P : Params) : Obj := cO "_law_texts" 847 "_law_texts" 848 849 240 1 0 3 261 true 276 262 (.ref 263) (.ref 264) (.ref 265) 857 240 858
noncomputable def o267 (P : Params) : Obj := fO "_law_texts" "_law_texts" (paramsAt 26) (bodyAt 26) (scopeAt 26) (.none) (.none) (.str "law_in0286_01" 817) (.ref 266)
noncomputable def o273 (P : Params) : Obj := cO "_law_bits" 860 "_law_bits" 861 862 259 1 0 3 268 true 276 269 (.ref 270) (.ref 271) (.ref 272) 869 259 870
noncomputable def o274 (P : Params) : Obj := fO "_law_bits" "_law_bits" (paramsAt 27) (bodyAt 27) (scopeAt 27) (.none) (.none) (.str "law_in0286_01" 817) (.ref 273)
noncomputable def o280 (P : Params) : Obj := cO "_law_members" 872 "_law_members" 873 874 274 1 0 3 275 true 276 276 (.ref 277) (.ref 278) (.ref 279) 880 274 881
noncomputable def o281 (P : Params) : Obj := fO "_law_members" "_law_members" (paramsAt 28) (bodyAt 28) (scopeAt 28) (.none) (.none) (.str "law_in0286_01" 817) (.ref 280)
noncomputable def o287 (P : Params) : Obj := cO "_law_atoms" 883 "_law_atoms" 884 885 286 1 0 3 282 true 276 283 (.ref 284) (.ref 285) (.ref 286) 891 286 892
noncomputable def o288 (P : Params) : Obj := fO "_law_atoms" "_law_atoms" (paramsAt 29) (bodyAt 29) (scopeAt 29) (.none) (.none) (.str "law_in0286_01" 817) (.ref 287)
noncomputable def o292 (P : Params) : Obj := cO "_law_home" 894 "_law_home" 895 896 308 1 0 3 289 true 276 290 (.none) (.none) (.ref 291) 897 308 898
noncomputable def o293 (P : Params) : Obj := fO "_law_home" "_law_home" (paramsAt 30) (bodyAt 30) (scopeAt 30) (.none) (.none) (.str "law_in0286_01" 817) (.ref 292)
noncomputable def o297 (P : Params) : Obj := cO "_law_header" 900 "_law_header" 901 902 318 3 0 3 294 true 276 295 (.none) (.none) (.ref 296) 903 318 904
noncomputable def o298 (P : Params) : Obj := fO "_law_header" "_law_header" (paramsAt 31) (bodyAt 31) (scopeAt 31) (.none) (.none) (.str "law_in0286_01" 817) (.ref 297)
noncomputable def o302 (P : Params) : Obj := cO "_law_writing" 906 "_law_writing" 907 908 329 2 0 3 299 true 276 300 (.none) (.none) (.ref 301) 909 329 910
noncomputable def o303 (P : Params) : Obj := fO "_law_writing" "_law_writing" (paramsAt 32) (bodyAt 32) (scopeAt 32) (.none) (.none) (.str "law_in0286_01" 817) (.ref 302)
noncomputable def o307 (P : Params) : Obj := cO "law" 912 "law" 913 914 350 1 0 3 304 true 276 305 (.none) (.none) (.ref 306) 915 350 916
noncomputable def o308 (P : Params) : Obj := fO "law" "law" (paramsAt 33) (bodyAt 33) (scopeAt 33) (.none) (.none) (.str "law_in0286_01" 817) (.ref 307)
noncomputable def tr_open (P : Params) : BT := .node (o0 P) (.node (o1 P) (.node (o3 P) (.node (o7 P) (.node (o15 P) (.nil) (.nil)) (.node (o23 P) (.nil) (.nil))) (.node (o11 P) (.node (o19 P) (.nil) (.nil)) (.node (o27 P) (.nil) (.nil)))) (.node (o5 P) (.node (o9 P) (.node (o17 P) (.nil) (.nil)) (.node (o25 P) (.nil) (.nil))) (.node (o13 P) (.node (o21 P) (.nil) (.nil)) (.nil)))) (.node (o2 P) (.node (o4 P) (.node (o8 P) (.node (o16 P) (.nil) (.nil)) (.node (o24 P) (.nil) (.nil))) (.node (o12 P) (.node (o20 P) (.nil) (.nil)) (.nil))) (.node (o6 P) (.node (o10 P) (.node (o18 P) (.nil) (.nil)) (.node (o26 P) (.nil) (.nil))) (.node (o14 P) (.node (o22 P) (.nil) (.nil)) (.nil))))
noncomputable def st_open (w : World) (os : OsState) : SharedT := ⟨tr_open w.params, 28, {}, #[], {}, 276, os⟩
noncomputable def tr_S0 (P : Params) : BT := .node (o0 P) (.node (o1 P) (.node (o3 P) (.node (o7 P) (.node (o15 P) (.nil) (.nil)) (.node (o23 P) (.nil) (.nil))) (.node (o11_1 P) (.node (o19 P) (.nil) (.nil)) (.node (o27 P) (.nil) (.nil)))) (.node (o5 P) (.node (o9 P) (.node (o17 P) (.nil) (.nil)) (.node (o25 P) (.nil) (.nil))) (.node (o13 P) (.node (o21 P) (.nil) (.nil)) (.nil)))) (.node (o2 P) (.node (o4 P) (.node (o8 P) (.node (o16 P) (.nil) (.nil)) (.node (o24 P) (.nil) (.nil))) (.node (o12 P) (.node (o20 P) (.nil) (.nil)) (.nil))) (.node (o6 P) (.node (o10 P) (.node (o18 P) (.nil) (.nil)) (.node (o26 P) (.nil) (.nil))) (.node (o14 P) (.node (o22 P) (.nil) (.nil)) (.nil))))
noncomputable def st_S0 (w : World) (os : OsState) : SharedT := ⟨tr_S0 w.params, 28, {}, #[], {}, 276, os⟩
noncomputable def tr_block (P : Params) : BT := .node (o0 P) (.node (o1 P) (.node (o3 P) (.node (o7 P) (.node (o15 P) (.node (o31 P) (.nil) (.nil)) (.nil)) (.node (o23 P) (.nil) (.nil))) (.node (o11_1 P) (.node (o19 P) (.nil) (.nil)) (.node (o27 P) (.nil) (.nil)))) (.node (o5 P) (.node (o9 P) (.node (o17 P) (.nil) (.nil)) (.node (o25 P) (.nil) (.nil))) (.node (o13 P) (.node (o21 P) (.nil) (.nil)) (.node (o29 P) (.nil) (.nil))))) (.node (o2 P) (.node (o4 P) (.node (o8 P) (.node (o16 P) (.nil) (.nil)) (.node (o24 P) (.nil) (.nil))) (.node (o12 P) (.node (o20 P) (.nil) (.nil)) (.node (o28 P) (.nil) (.nil)))) (.node (o6 P) (.node (o10 P) (.node (o18 P) (.nil) (.nil)) (.node (o26 P) (.nil) (.nil))) (.node (o14 P) (.node (o22 P) (.nil) (.nil)) (.node (o30 P) (.nil) (.nil)))))
noncomputable def st_block (w : World) (os : OsState) : SharedT := ⟨tr_block w.params, 32, {}, #[], {}, 282, os⟩
noncomputable def tr_SA (P : Params) : BT := .node (o0 P) (.node (o1 P) (.node (o3_1 P) (.node (o7 P) (.node (o15 P) (.node (o31 P) (.node (o63 P) (.nil) (.nil)) (.nil)) (.node (o47 P) (.nil) (.nil))) (.node (o23 P) (.node (o39 P) (.nil) (.nil)) (.node (o55 P) (.nil) (.nil)))) (.node (o11_1 P) (.node (o19 P) (.node (o35 P) (.nil) (.nil)) (.node (o51 P) (.nil) (.nil))) (.node (o27 P) (.node (o43 P) (.nil) (.nil)) (.node (o59 P) (.nil) (.nil))))) (.node (o5 P) (.node (o9 P) (.node (o17 P) (.node (o33 P) (.node (o65 P) (.nil) (.nil)) (.nil)) (.node (o49 P) (.nil) (.nil))) (.node (o25 P) (.node (o41 P) (.nil) (.nil)) (.node (o57 P) (.nil) (.nil)))) (.node (o13 P) (.node (o21 P) (.node (o37 P) (.nil) (.nil)) (.node (o53 P) (.nil) (.nil))) (.node (o29_1 P) (.node (o45 P) (.nil) (.nil)) (.node (o61 P) (.nil) (.nil)))))) (.node (o2 P) (.node (o4 P) (.node (o8 P) (.node (o16 P) (.node (o32 P) (.node (o64 P) (.nil) (.nil)) (.nil)) (.node (o48 P) (.nil) (.nil))) (.node (o24 P) (.node (o40 P) (.nil) (.nil)) (.node (o56 P) (.nil) (.nil)))) (.node (o12 P) (.node (o20 P) (.node (o36 P) (.nil) (.nil)) (.node (o52 P) (.nil) (.nil))) (.node (o28 P) (.node (o44 P) (.nil) (.nil)) (.node (o60 P) (.nil) (.nil))))) (.node (o6 P) (.node (o10 P) (.node (o18 P) (.node (o34 P) (.nil) (.nil)) (.node (o50 P) (.nil) (.nil))) (.node (o26 P) (.node (o42 P) (.nil) (.nil)) (.node (o58 P) (.nil) (.nil)))) (.node (o14 P) (.node (o22 P) (.node (o38 P) (.nil) (.nil)) (.node (o54 P) (.nil) (.nil))) (.node (o30 P) (.node (o46 P) (.nil) (.nil)) (.node (o62 P) (.nil) (.nil))))))
noncomputable def st_SA (w : World) (os : OsState) : SharedT := ⟨tr_SA w.params, 66, {}, #[], {}, 365, os⟩
noncomputable def tr_SB (P : Params) : BT := .node (o0 P) (.node (o1 P) (.node (o3_2 P) (.node (o7 P) (.node (o15 P) (.node (o31 P) (.node (o63 P) (.nil) (.nil)) (.nil)) (.node (o47 P) (.nil) (.nil))) (.node (o23 P) (.node (o39 P) (.nil) (.nil)) (.node (o55 P) (.nil) (.nil)))) (.node (o11_1 P) (.node (o19 P) (.node (o35 P) (.node (o67 P) (.nil) (.nil)) (.nil)) (.node (o51 P) (.nil) (.nil))) (.node (o27 P) (.node (o43 P) (.nil) (.nil)) (.node (o59 P) (.nil) (.nil))))) (.node (o5 P) (.node (o9 P) (.node (o17 P) (.node (o33 P) (.node (o65 P) (.nil) (.nil)) (.nil)) (.node (o49 P) (.nil) (.nil))) (.node (o25 P) (.node (o41 P) (.nil) (.nil)) (.node (o57 P) (.nil) (.nil)))) (.node (o13 P) (.node (o21 P) (.node (o37 P) (.node (o69 P) (.nil) (.nil)) (.nil)) (.node (o53 P) (.nil) (.nil))) (.node (o29_1 P) (.node (o45 P) (.nil) (.nil)) (.node (o61 P) (.nil) (.nil)))))) (.node (o2 P) (.node (o4 P) (.node (o8 P) (.node (o16 P) (.node (o32 P) (.node (o64 P) (.nil) (.nil)) (.nil)) (.node (o48 P) (.nil) (.nil))) (.node (o24 P) (.node (o40 P) (.nil) (.nil)) (.node (o56 P) (.nil) (.nil)))) (.node (o12 P) (.node (o20 P) (.node (o36 P) (.node (o68 P) (.nil) (.nil)) (.nil)) (.node (o52 P) (.nil) (.nil))) (.node (o28 P) (.node (o44 P) (.nil) (.nil)) (.node (o60 P) (.nil) (.nil))))) (.node (o6 P) (.node (o10 P) (.node (o18 P) (.node (o34 P) (.node (o66 P) (.nil) (.nil)) (.nil)) (.node (o50 P) (.nil) (.nil))) (.node (o26 P) (.node (o42 P) (.nil) (.nil)) (.node (o58 P) (.nil) (.nil)))) (.node (o14 P) (.node (o22 P) (.node (o38 P) (.node (o70 P) (.nil) (.nil)) (.nil)) (.node (o54 P) (.nil) (.nil))) (.node (o30 P) (.node (o46 P) (.nil) (.nil)) (.node (o62 P) (.nil) (.nil))))))
noncomputable def st_SB (w : World) (os : OsState) : SharedT := ⟨tr_SB w.params, 71, {}, #[], {}, 511, os⟩
noncomputable def K (P : Params) : Frag := [(1, o1 P), (2, o2 P), (3, o3_3 P), (44, o44 P), (45, o45 P), (46, o46 P), (52, o52 P), (53, o53 P), (57, o57 P), (58, o58 P), (64, o64 P), (65, o65 P), (67, o67 P), (76, o76 P), (77, o77 P), (83, o83 P), (84, o84 P), (90, o90 P), (91, o91 P), (100, o100 P), (101, o101 P), (105, o105 P), (106, o106 P), (107, o107 P), (113, o113 P), (114, o114 P), (122, o122 P), (128, o128 P), (129, o129 P), (135, o135 P), (136, o136 P), (200, o200 P), (201, o201 P), (207, o207 P), (208, o208 P), (212, o212 P), (213, o213 P), (233, o233 P), (234, o234 P), (236, o236 P), (237, o237 P), (247, o247 P), (248, o248 P), (252, o252 P), (253, o253 P), (259, o259 P), (260, o260 P), (266, o266 P), (267, o267 P), (273, o273 P), (274, o274 P), (280, o280 P), (281, o281 P), (287, o287 P), (288, o288 P), (292, o292 P), (293, o293 P), (297, o297 P), (298, o298 P), (302, o302 P), (303, o303 P), (307, o307 P), (308, o308 P)]
noncomputable def Kas : List Addr := [1, 2, 3, 44, 45, 46, 52, 53, 57, 58, 64, 65, 67, 76, 77, 83, 84, 90, 91, 100, 101, 105, 106, 107, 113, 114, 122, 128, 129, 135, 136, 200, 201, 207, 208, 212, 213, 233, 234, 236, 237, 247, 248, 252, 253, 259, 260, 266, 267, 273, 274, 280, 281, 287, 288, 292, 293, 297, 298, 302, 303, 307, 308]
noncomputable def fa : Fid → Addr
  | .shorten => 45
  | .safeRepr => 53
  | .translate => 65
  | .escape => 77
  | .translateIn => 84
  | .joinParts => 91
  | .formatparam => 114
  | .drawn => 248
  | .pattern => 253
  | .meant => 260
  | .texts => 267
  | .bits => 274
  | .members => 281
  | .atoms => 288
  | .home => 293
  | .header => 298
  | .writing => 303
  | .hInit => 129
  | .hConv => 136
  | .hItems => 201
  | .hRepr => 208
  | .hStr => 213
  | .hAdd => 234
end

section
open PySem PySem.Calls PyProof.Rows PySem.W
noncomputable abbrev pw : Program := PySem.Challenge.pw_in0286_01
noncomputable abbrev p0 : Pos := ⟨0, 0, 0, 0⟩
noncomputable abbrev an0 : Option Value := some (.ref 6)
noncomputable def env0 : Env := { scope := pw.main.scope, locals := mainNs, globals := mainNs, cells := [], code := .ref 30, frame := some 31 }
noncomputable def bodyL : List Stmt := behindTheImports pw
noncomputable def code0 : Code := .body (behindTheImports pw) env0
theorem seg_A (w : World) (os : OsState) : segRunT treeTable pw w 28 an0 1 300 (st_block w os) (piecesOf (bodyL.take 10) env0 code0 p0 [topFrame p0]) = some (.next, st_SA w os, code0, ⟨27, 0, 27, 8⟩) := by
  rw [PySem.W.Fast.te10110043849684766642, PySem.W.Fast.te14364793385576792824]
  kernel_rfl
theorem seg_B (w : World) (os : OsState) (a b : Bool) : segRunT treeTable pw ((w.withFollow "special-get-raises" a).withFollow "comprehension-iter-twice" b) 28 an0 1 1300 (st_SA w os) (piecesOf ((bodyL.drop 10).take 1) env0 code0 ⟨27, 0, 27, 8⟩ [topFrame p0]) = some (.next, st_SB w os, code0, ⟨28, 0, 28, 18⟩) := by
  rw [PySem.W.Fast.te10110043849684766642, PySem.W.Fast.te14364793385576792824]
  cases a <;> cases b <;> kernel_rfl
end

section
open PySem PySem.Calls PyProof.Rows PySem.W
noncomputable def H0 (P : Params) : Heap := absHeap (tr_S0 P) 28 {}
theorem open_go (w : World) (os : OsState) : (impGoT treeTable (opening pw) w 798 ⟨.nil, 0, {}, #[], {}, 1, os⟩ (start (opening pw)).2).map (fun r => (r.1, r.2.atExitBegin)) = some (st_open w os, some []) := by
  rw [PySem.W.Fast.te14789777615569096658, PySem.W.Fast.te14364793385576792824]
  kernel_rfl
theorem fence_go (w : World) : (fun os => (fenceModules? pw ⟨absHeap (tr_open w.params) 28 {}, #[], {}, 276, os⟩).map (fun s => (s.heap, s.gens, s.drawn, s.toks))) = fun _ => some (H0 w.params, #[], {}, 276) := by
  rw [PySem.W.Fast.te14289696077712309145]
  kernel_rfl
theorem open_ends (w : World) : importEnds treeTable (opening pw) w 799 (start (opening pw)).1 (start (opening pw)).2 = some ⟨absHeap (tr_open w.params) 28 {}, #[], {}, 276, (start (opening pw)).1.os⟩ := by
  obtain ⟨⟨S, t⟩, h, e⟩ := Option.map_eq_some_iff.mp (open_go w (start (opening pw)).1.os)
  obtain ⟨rfl, ht⟩ := Prod.mk.inj e
  have h := impGo_of h
  have e0 : (⟨.nil, 0, {}, #[], {}, 1, (start (opening pw)).1.os⟩ : SharedT).abs = (start (opening pw)).1 := by kernel_rfl
  rw [e0] at h
  refine imp_go (n := 798) (N := 1) h ?_
  unfold importEnds
  dsimp only at ht ⊢
  rw [ht]
  rfl
theorem opened (w : World) : (fencedOpening treeTable pw w 8000).map (fun s => (s.heap, s.gens, s.drawn, s.toks)) = some (H0 w.params, #[], {}, 276) :=
  open_cut (He := fun P => absHeap (tr_open P) 28 {}) (ge := #[]) (de := {}) (ke := 276) open_ends (rfl : Nat.ble 799 8000 = true) fence_go w
theorem pre_go (w : World) (os : OsState) : topGo treeTable pw w 28 an0 12 ⟨H0 w.params, #[], {}, 276, os⟩ (topStub pw) = some ((st_block w os).abs, ⟨denote treeTable code0, code0, p0, [topFrame p0]⟩) := by
  rw [PySem.W.Fast.te15667345088766844465, PySem.W.Fast.te14364793385576792824, PySem.W.Fast.te11892475500146522536]
  kernel_rfl
theorem block_go (w : World) (os : OsState) : segRunT treeTable pw w 28 an0 1 5 (st_block w os) (blockOf (behindTheImports pw) env0 code0 p0 [topFrame p0]) = some (.next, st_block w os, code0, p0) := by
  rw [PySem.W.Fast.te10110043849684766642, PySem.W.Fast.te14364793385576792824]
  kernel_rfl
end

section
open PySem PySem.Calls PyProof.Rows PySem.W
noncomputable def qv : Program := { pw with main := { pw.main with body := pw.main.body.take 1 ++ pw.main.body.drop 33 } }
noncomputable def loose : List PySem.Str := ["_wall", "_MAX_LENGTH", "_PLACEHOLDER_LEN", "_shorten", "safe_repr", "_twin_re_1", "translate", "_special_chars_map", "escape", "_translate", "_join_translated_parts", "tspecials", "_name_disallowed_re", "_value_disallowed_re", "_formatparam", "Headers", "_law_drawn", "_law_pattern", "_law_meant", "_law_texts", "_law_bits", "_law_members", "_law_atoms", "_law_home", "_law_header", "_law_writing"].map Str.ofString
noncomputable abbrev rw0 := OpenLaw.row PySem.Challenge.rw_in0286_01
noncomputable def Xt (s : Shared) : Bool := xlAt qv [] s && recOk (RowW.records (OpenRow.toRowW (OpenLaw.row PySem.Challenge.rw_in0286_01))) s
noncomputable def HK : Hook := kmHook K Kas (fun _ => rfl) [79]
noncomputable def impS := importedModules pw.main.body
theorem seg_C (w : World) (os : OsState) : (segRunT treeTable pw w 28 an0 1 1500 (st_SB w os) (piecesOf (bodyL.drop 11) env0 code0 ⟨28, 0, 28, 18⟩ [topFrame p0])).map (fun r => (r.1, r.2.2.1, r.2.2.2,
    (staticsOk (importedModules pw.main.body) (H0 w.params) r.2.1.abs.heap && namesBound pw r.2.1.abs.heap && gensDone r.2.1.abs && laidKept (H0 w.params) r.2.1.abs.heap),
    openSeen qv loose (importedModules pw.main.body) Xt true r.2.1.abs, Hook.obs HK r.2.1.abs)) = some (.next, code0, ⟨350, 0, 360, 37⟩, true, openGood qv loose, Hook.val HK w) := by
  rw [PySem.W.Fast.te10110043849684766642, PySem.W.Fast.te14364793385576792824, PySem.W.Fast.te4187177175401517315]
  kernel_rfl
end

section
open PySem PySem.Calls PyProof.Rows PySem.W
theorem fin_go (w : World) (S : Shared) : topRun treeTable pw w 28 an0 2 S ⟨doneF .next, code0, ⟨350, 0, 360, 37⟩, [topFrame p0]⟩ = some S := by kernel_rfl
theorem body_cut : behindTheImports pw = bodyL.take 10 ++ ((bodyL.drop 10).take 1 ++ (bodyL.drop 11 ++ [])) := by
  rw [List.append_nil, show bodyL.drop 11 = (bodyL.drop 10).drop 1 by rw [List.drop_drop], List.take_append_drop, List.take_append_drop]; rfl
theorem H0_size (w : World) : ((H0 w.params).isNs mainGlobals && (#[] : Array GenState).size == 0, (H0 w.params).objs.size, (H0 w.params).nsMap mainGlobals "__annotations__") = (true, 28, an0) := by kernel_rfl
theorem left : LeftO pw qv loose Xt (Hook.obs HK) (Hook.val HK) 8000 := fun w => by
  obtain ⟨⟨h, gs, d, k, os⟩, e, e'⟩ := Option.map_eq_some_iff.mp (opened w)
  obtain ⟨rfl, e'⟩ := Prod.mk.inj e'
  obtain ⟨rfl, e'⟩ := Prod.mk.inj e'
  obtain ⟨rfl, rfl⟩ := Prod.mk.inj e'
  obtain ⟨z1, z3⟩ := Prod.mk.inj (H0_size w)
  obtain ⟨z2, z3⟩ := Prod.mk.inj z3
  obtain ⟨⟨f, S, c, p⟩, hC, eC⟩ := Option.map_eq_some_iff.mp (seg_C w os)
  obtain ⟨rfl, eC⟩ := Prod.mk.inj eC
  obtain ⟨rfl, eC⟩ := Prod.mk.inj eC
  obtain ⟨rfl, eC⟩ := Prod.mk.inj eC
  obtain ⟨l1, eC⟩ := Prod.mk.inj eC
  obtain ⟨l2, l3⟩ := Prod.mk.inj eC
  have B := seg_B w os (w.params.followText "special-get-raises") (w.params.followText "comprehension-iter-twice")
  rw [World.withFollow_self w "special-get-raises", World.withFollow_self w "comprehension-iter-twice"] at B
  have r1 := piece_app (rest := []) (segRun_of hC) (piece_nil (fin_go w S.abs))
  have r2 := piece_app (segRun_of B) r1
  have r3 := piece_app (segRun_of (seg_A w os)) r2
  rw [← body_cut] at r3
  have r := topRun_mono 4881 _ _ _ _ (go_top (pre_go w os) (piece_block (segRun_of (block_go w os)) r3))
  have t : topFrom treeTable pw w 8000 ⟨H0 w.params, #[], {}, 276, os⟩ = some S.abs := by
    unfold topFrom
    dsimp only
    rw [z1, z2, z3]
    refine (congrArg (fun x => Option.bind x _) (r : topRun treeTable pw w 28 an0 8000 _ _ = _)).trans ?_
    show (match staticsOk (importedModules pw.main.body) (H0 w.params) S.abs.heap && namesBound pw S.abs.heap && gensDone S.abs && laidKept (H0 w.params) S.abs.heap with | true => _ | false => _) = _
    rw [l1]
  unfold openEnds
  rw [e]
  show (topFrom treeTable pw w 8000 _).map _ = _
  rw [t]
  exact congrArg some (Prod.ext l2 l3)
end

section
open PySem PySem.Calls PyProof.Rows PySem.W
noncomputable abbrev lw : OpenLaw := PySem.Challenge.rw_in0286_01
theorem ok0 : sreFenced pw.main = true := by rw [PySem.W.Fast.te11788848310118352699]; kernel_rfl
theorem ok1 : ((moduleNames pw.main.body).isEmpty || lookedIntoSs (moduleNames pw.main.body) pw.main.body) = true := by rw [PySem.W.Fast.te12862048085361865435]; kernel_rfl
theorem ok2 : namesResolve pw = true := by rw [PySem.W.Fast.te8377067652309620493]; kernel_rfl
theorem ok4s : (!(importedModules pw.main.body).all cThrough.contains) = false := by kernel_rfl
theorem ok4b : (["vars", "dir", "locals"] : List PySem.Str).filter (readsOut pw pw.main.body) = [] := by rw [PySem.W.Fast.te13343964577679436407]; kernel_rfl
theorem ok4 : noRoadLSs { strict := !(importedModules pw.main.body).all cThrough.contains, foot := none, bare := (["vars", "dir", "locals"] : List PySem.Str).filter (readsOut pw pw.main.body) } pw.main.body = true := by rw [ok4s, ok4b, PySem.W.Fast.te8326940854005059898]; kernel_rfl
theorem ok5 : namesMeet pw pw.main.body (fun _ n => attrL n) = true := by rw [PySem.W.Fast.te17119622794617984870]; kernel_rfl
theorem okL : looksOpen pw = true := by
  unfold looksOpen
  exact look_both (look_both (look_both (look_both (look_both ok0 ok1) ok2) (by kernel_rfl)) ok4) ok5
theorem okR : lw.row.wellSaid = true := by
  unfold OpenRow.wellSaid OpenRow.partSaid
  exact look_both (look_both (look_both (look_both (look_both (look_both (look_both (look_both (look_both (look_both (look_both (look_both (look_both (look_both (look_both (okL) (by kernel_rfl)) (by kernel_rfl)) (by kernel_rfl)) (by kernel_rfl)) (by kernel_rfl)) (by kernel_rfl)) (by kernel_rfl)) (by kernel_rfl)) (by kernel_rfl)) (by kernel_rfl)) (by kernel_rfl)) (by kernel_rfl)) (by kernel_rfl)) (by kernel_rfl)) (by kernel_rfl)
theorem ok26 : noRoadLSs { strict := true, foot := some lw.bound', writes := lw.writes, may := lw.may } lw.footing = true := by rw [PySem.W.Fast.te8326940854005059898]; kernel_rfl
theorem ok30 : lw.bound'.all (fun n => !builtinNamed n || lw.about == [n] || !lw.reads n) = true := by rw [PySem.W.Fast.te6984425678791042302]; kernel_rfl
theorem ok37 : namesMeet lw.prog lw.above (fun _ n => !lw.own.contains n) = true := by rw [PySem.W.Fast.te17119622794617984870]; kernel_rfl
theorem okw : OpenLaw.wellSaid PySem.Challenge.rw_in0286_01 = true := by
  unfold OpenLaw.wellSaid
  exact look_both (look_both (look_both (look_both (look_both (look_both (look_both (look_both (look_both (look_both (look_both (look_both (look_both (look_both (look_both (look_both (look_both (look_both (okR) (by kernel_rfl)) (by kernel_rfl)) (by kernel_rfl)) (by kernel_rfl)) (by kernel_rfl)) ok26) (by kernel_rfl)) (by kernel_rfl)) (by kernel_rfl)) ok30) (by kernel_rfl)) (by kernel_rfl)) (by kernel_rfl)) (by kernel_rfl)) (by kernel_rfl)) (by kernel_rfl)) ok37) (by kernel_rfl)
end

section
open PySem PySem.Calls PyProof.Rows PySem.W
/-- binding without a step that is seen -/
noncomputable def Binds (D : GD) (fd : FuncData) (bd : List V → List (Str × V) → Option (List (Str × V))) : Prop := ∀ (π : Pl) args kws vs ks bs, VRels D π args vs → VRels D π (kws.map (·.2)) ks → bd args kws = some bs →
  ∃ binds, (∀ S, peek D.K S (bindArgs fd ⟨vs, (kws.map (·.1)).zip ks⟩) = some binds) ∧ binds.map (·.1) = bs.map (·.1) ∧ VRels D π (bs.map (·.2)) (binds.map (·.2))
section
variable {D : GD} {fd : FuncData} {bd : List V → List (Str × V) → Option (List (Str × V))}
theorem fn_of {a : Addr} {nm qn : Str} {par : Arguments} {b : List Stmt} {sc : Scope} {d md cd : Value} (kin : D.K.In D.g) (e : D.K.lookup a = some (fO nm qn par b sc d .none md cd)) (hc : codeIn D.K cd qn = true) (htr : isTr sc = true → cd = .ref D.cc)
    (hb : Binds D (fD nm qn par b sc d .none md cd) bd) : FnOk D a sc b bd :=
  ⟨_, _, kin _ _ e, rfl, rfl, rfl, rfl, rfl, rfl, codeRec_of kin hc, htr, fun {kp π hd s A} args kws vs ks bs Q C x xk e q =>
    let ⟨binds, p, hn, hv⟩ := hb π args kws vs ks bs x xk e
    (Looks.of_peek (M := model D.prog D.w) (h := s.heap) (kin.keeps C.g) (p _)).here (s := s) (q binds s π C (.refl π) rfl hn hv)⟩
theorem binds1 {x : Str} (p : ∀ S v, peek D.K S (bindArgs fd ⟨[v], []⟩) = some [(x, v)]) : Binds D fd (bd1 x) := fun π args kws vs ks bs h hk e => by
  match args, kws, e with
  | [a], [], e =>
    cases e
    obtain ⟨v, q, rfl, hv, hq⟩ := h
    cases (hq : q = [])
    cases (hk : ks = [])
    exact ⟨_, fun S => p S v, rfl, .one hv⟩
theorem binds2 {x y : Str} (p : ∀ S v u, peek D.K S (bindArgs fd ⟨[v, u], []⟩) = some [(x, v), (y, u)]) : Binds D fd (bd2 x y) := fun π args kws vs ks bs h hk e => by
  match args, kws, e with
  | [a, b], [], e =>
    cases e
    obtain ⟨v, u, rfl, hv, hu⟩ := VRels.two h
    cases (hk : ks = [])
    exact ⟨_, fun S => p S v u, rfl, .cons hv (.one hu)⟩
theorem binds3 {x y z : Str} (p : ∀ S v u t, peek D.K S (bindArgs fd ⟨[v, u, t], []⟩) = some [(x, v), (y, u), (z, t)]) : Binds D fd (bd3 x y z) := fun π args kws vs ks bs h hk e => by
  match args, kws, e with
  | [a, b, c], [], e =>
    cases e
    obtain ⟨v, u, t, rfl, hv, hu, ht⟩ := VRels.three h
    cases (hk : ks = [])
    exact ⟨_, fun S => p S v u t, rfl, .cons hv (.cons hu (.one ht))⟩
theorem bindsI (p : ∀ S v, peek D.K S (bindArgs fd ⟨[v], []⟩) = some ([("self", v), ("headers", .none)] : List (Str × Value))) : Binds D fd bdI := fun π args kws vs ks bs h hk e => by
  match args, kws, e with
  | [a], [], e =>
    cases e
    obtain ⟨v, q, rfl, hv, hq⟩ := h
    cases (hq : q = [])
    cases (hk : ks = [])
    exact ⟨_, fun S => p S v, rfl, .cons hv (.one rfl)⟩
theorem bindsSafe (p : ∀ S v, peek D.K S (bindArgs fd ⟨[v], []⟩) = some ([("obj", v), ("short", .bool false)] : List (Str × Value))) (p2 : ∀ S v u, peek D.K S (bindArgs fd ⟨[v, u], []⟩) = some ([("obj", v), ("short", u)] : List (Str × Value))) : Binds D fd bdSafe := fun π args kws vs ks bs h hk e => by
  match args, kws, e with
  | [a], [], e =>
    cases e
    obtain ⟨v, q, rfl, hv, hq⟩ := h
    cases (hq : q = [])
    cases (hk : ks = [])
    exact ⟨_, fun S => p S v, rfl, .cons hv (.one rfl)⟩
  | [a, b], [], e =>
    cases e
    obtain ⟨v, u, rfl, hv, hu⟩ := VRels.two h
    cases (hk : ks = [])
    exact ⟨_, fun S => p2 S v u, rfl, .cons hv (.one hu)⟩
theorem bindsForm {t : Tok} (p : ∀ S v u, peek D.K S (bindArgs fd ⟨[v, u], []⟩) = some ([("param", v), ("value", u), ("quote", .int 1 t)] : List (Str × Value))) : Binds D fd bdForm := fun π args kws vs ks bs h hk e => by
  match args, kws, e with
  | [a, b], [], e =>
    cases e
    obtain ⟨v, u, rfl, hv, hu⟩ := VRels.two h
    cases (hk : ks = [])
    exact ⟨_, fun S => p S v u, rfl, .cons hv (.cons hu (.one ⟨t, rfl⟩))⟩
theorem bindsConv (p : ∀ S v u t, peek D.K S (bindArgs fd ⟨[v, u], [("name", t)]⟩) = some ([("self", v), ("value", u), ("name", t)] : List (Str × Value))) : Binds D fd bdConv := fun π args kws vs ks bs h hk e => by
  match args, kws, e with
  | [a, b], [(k, c)], e =>
    have e : (if k = "name" then some ([("self", a), ("value", b), ("name", c)] : List (Str × V)) else none) = some bs := e
    by_cases hk' : k = "name"
    · subst hk'
      rw [if_pos rfl] at e
      cases e
      obtain ⟨v, u, rfl, hv, hu⟩ := VRels.two h
      obtain ⟨t, q, rfl, ht, hq⟩ := hk
      cases (hq : q = [])
      exact ⟨_, fun S => p S v u t, rfl, .cons hv (.cons hu (.one ht))⟩
    · rw [if_neg hk'] at e
      cases e
end
/-- a name is put into a dict -/
theorem ns_put {prog : Program} {w : World} {A : Around} {E : Value → Shared → Prop} {s : Shared} {d : Addr} {es : List DictEntry} {n : Nat} {k : Str} {v : Value} {Q : Unit → Shared → Prop} (ho : s.heap.get? d = some (dictOf es n))
    (hs : es.any (·.key.isStr k) = false) (hr : es.any (·.refKey) = false)
    (q : ∀ h', h'.get? d = some (dictOf (es ++ [⟨PyData.keyHash w.params k, .str k s.toks, v⟩]) (n + 1)) → Heap.SameBut d s.heap h' → Q () { s with heap := h', toks := s.toks + 1 }) : wpAny (model prog w) A (nsSet d k v) Q E s := by
  have e : Obj.putName k (PyData.keyHash w.params k) (.str k s.toks) v (dictOf es n) = dictOf (es ++ [⟨PyData.keyHash w.params k, .str k s.toks, v⟩]) (n + 1) := by
    rw [putName_dict, putL_new fun e he => Bool.eq_false_iff.mpr fun z => by rw [List.any_eq_true.mpr ⟨e, he, z⟩] at hs; cases hs]
    unfold putN
    rw [hs]
    rfl
  have c : aRefKeyMayBeTheName k es.toArray = false := by
    rw [aRefKeyMayBeTheName_at, ← Array.any_toList, ← Array.any_toList]
    show (!es.any (·.key.isStr k) && es.any (·.refKey)) = false
    rw [hr, Bool.and_false]
  unfold nsSet
  refine wpAny_bind (wpAny_bind (wpAny_askSetting (wpAny_pure (wpAny_bind (wpAny_mkText (wpAny_bind (wpAny_loadPart ho ?_)))))))
  dsimp only
  rw [c]
  exact wpAny_updatePart ho (q _ ((Heap.get?_update_self _ ho ((congrArg Obj.isFreed e).trans rfl)).trans (congrArg some e)) (Heap.SameBut.update _ _ _))
/-- to the first object that is made -/
theorem of_peekA {α : Type} {K : Frag} {M : Model} {A : Around} {E : Value → Shared → Prop} {Q : α → Shared → Prop} {s : Shared} {o : Obj} (X : K.In s.heap) : ∀ (t : Sem α) (g : Addr → Sem α), peekA K ⟨M.prog, M.w.params⟩ t = some (o, g) →
    wpAny M A (g s.heap.objs.size) Q E { s with heap := s.heap.push o } → wpAny M A t Q E s := by
  intro t
  induction t with
  | rule _ k ih => intro g e q Γ p hΓ; exact ih () g e q Γ p hΓ
  | point _ k ih => intro g e q Γ p hΓ; exact ih () g e q Γ p hΓ
  | ask k ih => intro g e q Γ p hΓ; exact ih _ g e q Γ p hΓ
  | load a _ k ih =>
    intro g e q Γ p hΓ
    simp only [peekA] at e
    split at e
    · rename_i ob ho; exact ⟨ob, X _ _ ho, ih ob g e q Γ p hΓ⟩
    · cases e
  | alloc ob k _ =>
    intro g e q
    obtain ⟨rfl, rfl⟩ := Prod.mk.inj (Option.some.inj (show some (ob, k) = some (o, g) from e))
    exact wpAny_bind (M := M) (wpAny_alloc q)
  | _ => intro g e; cases e
section
variable {D : GD} {kp : Addr → Option Obj} {π : Pl} {hd : Option (List V)} {s : Shared}
theorem relD_lit : ∀ {ex : List (Str × Value)} {l : List V}, VRels D π l (ex.map (·.2)) → VRelD D π ((ex.map fun p => lit p.1).zip l) ex
  | [], l, x => by rw [List.map_nil, List.zip_nil_left]; rfl
  | p :: ex, [], x => nomatch (show _ :: _ = [] from x)
  | p :: ex, a :: l, ⟨v, q, e, hv, hq⟩ => by
    cases e
    exact ⟨p.2, ex, by rw [show (⟨(lit p.1).toArray⟩ : Str) = p.1 from str_ext rfl], hv, relD_lit hq⟩
/-- a dict of names is made -/
theorem kw_done (hs : ∃ o, D.g.get? sysModules = some o) (C : CRel D kp π hd s) {h' : Heap} {ex : List (Str × Value)} {l : List V} {t tk : Tok} {n : Nat} (hx : VRels D π l (ex.map (·.2))) (hn : (ex.map (·.1)).Nodup)
    (ho : h'.get? s.heap.objs.size = some (dictOf (kwEs D.w.params t ex) n)) (hb : Heap.SameBut s.heap.objs.size (s.heap.push (dictOf [] 0)) h') (ht : 0 < tk) :
    ∃ π', CRel D kp π' hd { s with heap := h', toks := tk } ∧ π.le π' ∧ π'.ρ = π.ρ ∧ VRel D π' (.dic ((ex.map fun p => lit p.1).zip l)) (.ref s.heap.objs.size) := by
  have hz := size_none s.heap
  have keep : ∀ a o, s.heap.get? a = some o → h'.get? a = some o := fun a o e => (hb.2 a (Nat.ne_of_lt (Heap.lt_size e))).trans (Heap.get?_push_of_some _ e)
  have h1 := none_of C.hz hz
  have le := Pl.add_le π (o := dictOf (kwEs D.w.params t ex) n) h1
  refine ⟨_, (C.grow (s' := { s with heap := h', toks := tk }) keep C.gens rfl ht).freeze ho h1 (none_of C.hk hz) (fun z => no_one hz (C.shIn (.inl z))) fun z => no_one hz (C.shIn (.inr z)), le, rfl,
    _, _, ex, rfl, ?_, Pl.add_at, kp_isDict t n hn, ?_⟩
  · obtain ⟨o, ho⟩ := hs
    refine beq_eq_false_iff_ne.mpr fun q => ?_
    have := C.g _ _ ho
    rw [← q, hz] at this
    cases this
  · exact relD_lit (hx.le le)
end
end

section
open PySem PySem.Calls PyProof.Rows PySem.W
noncomputable def gAdd (v u t : Value) (ex : List (Str × Value)) (d : Addr) : Sem (List (Str × Value)) :=
  forIn ex PUnit.unit (fun x _ => (nsSet d x.1 x.2 >>= fun _ => pure (ForInStep.yield PUnit.unit))) >>= fun _ => pure (([("self", v), ("_name", u), ("_value", t)] : List (Str × Value)) ++ ([("_params", .ref d)] : List (Str × Value)))
section
variable {D : GD}
theorem fn_add {a : Addr} {nm qn : Str} {par : Arguments} {b : List Stmt} {sc : Scope} {d md cd : Value} (kin : D.K.In D.g) (hs : ∃ o, D.g.get? sysModules = some o) (e : D.K.lookup a = some (fO nm qn par b sc d .none md cd)) (hc : codeIn D.K cd qn = true) (htr : isTr sc = true → cd = .ref D.cc)
    (p1 : ∀ S v u t y, peekA D.K S (bindArgs (fD nm qn par b sc d .none md cd) ⟨[v, u, t], [("p_0", y)]⟩) = some (dictOf [] 0, gAdd v u t [("p_0", y)]))
    (p2 : ∀ S v u t y z, peekA D.K S (bindArgs (fD nm qn par b sc d .none md cd) ⟨[v, u, t], [("p_0", y), ("q_", z)]⟩) = some (dictOf [] 0, gAdd v u t [("p_0", y), ("q_", z)])) : FnOk D a sc b bdAdd := by
  refine ⟨_, _, kin _ _ e, rfl, rfl, rfl, rfl, rfl, rfl, codeRec_of kin hc, htr, fun {kp π hd s A} args kws vs ks bs Q C hx xk e q => ?_⟩
  have new : (s.heap.push (dictOf [] 0)).get? s.heap.objs.size = some (dictOf [] 0) := Heap.get?_push_size _ rfl
  have end_ : ∀ {v u t : Value} {a b c : V} {ex : List (Str × Value)} {l : List V} {h' : Heap} {tk : Tok} {n : Nat}, VRels D π [a, b, c] [v, u, t] → VRels D π l (ex.map (·.2)) → (ex.map (·.1)).Nodup → h'.get? s.heap.objs.size = some (dictOf (kwEs D.w.params s.toks ex) n) →
      Heap.SameBut s.heap.objs.size (s.heap.push (dictOf [] 0)) h' → bs = ([("self", a), ("_name", b), ("_value", c), ("_params", .dic ((ex.map fun p => lit p.1).zip l))] : List (Str × V)) →
      Q (([("self", v), ("_name", u), ("_value", t)] : List (Str × Value)) ++ ([("_params", .ref s.heap.objs.size)] : List (Str × Value))) { s with heap := h', toks := tk } := fun {v u t a b c ex l h' tk n} xs xl hn ho hb hbs => by
    obtain ⟨π', C', le, hρ, xd⟩ := kw_done hs C (tk := tk + 1) xl hn ho hb (Nat.succ_pos _)
    refine q _ _ π' C' le hρ (by rw [hbs]; rfl) ?_
    rw [hbs]
    exact (xs.le le).append (.one xd)
  match args, kws, e with
  | [a, b, c], [(k, x)], e =>
    have e : (if k = "p_0" then some ([("self", a), ("_name", b), ("_value", c), ("_params", .dic [(lit k, x)])] : List (Str × V)) else none) = some bs := e
    by_cases hk : k = "p_0"
    · subst hk
      rw [if_pos rfl] at e
      obtain ⟨v, u, t, rfl, _⟩ := VRels.three hx
      obtain ⟨y, r, rfl, hy, hr⟩ := xk
      cases (hr : r = [])
      refine of_peekA (M := model D.prog D.w) (s := s) (kin.keeps C.g) _ _ (p1 _ v u t y) ?_
      unfold gAdd
      rw [List.forIn_cons]
      refine wpAny_bind (wpAny_bind (wpAny_bind (ns_put (es := []) new rfl rfl fun h1 g1 b1 => wpAny_pure ?_)))
      show wpAny _ _ (forIn [] PUnit.unit _) _ _ _
      rw [List.forIn_nil]
      exact wpAny_pure (wpAny_pure (end_ (ex := [("p_0", y)]) hx (.one hy) (by show ([Str.ofString "p_0"] : List Str).Nodup; decide +kernel) g1 b1 (Option.some.inj e).symm))
    · rw [if_neg hk] at e
      cases e
  | [a, b, c], [(k, x), (l, z)], e =>
    have e : (if k = "p_0" ∧ l = "q_" then some ([("self", a), ("_name", b), ("_value", c), ("_params", .dic [(lit k, x), (lit l, z)])] : List (Str × V)) else none) = some bs := e
    by_cases hk : k = "p_0" ∧ l = "q_"
    · obtain ⟨rfl, rfl⟩ := hk
      rw [if_pos ⟨rfl, rfl⟩] at e
      obtain ⟨v, u, t, rfl, _⟩ := VRels.three hx
      obtain ⟨y, y', rfl, hy, hy'⟩ := VRels.two xk
      refine of_peekA (M := model D.prog D.w) (s := s) (kin.keeps C.g) _ _ (p2 _ v u t y y') ?_
      unfold gAdd
      rw [List.forIn_cons]
      refine wpAny_bind (wpAny_bind (wpAny_bind (ns_put (es := []) new rfl rfl fun h1 g1 b1 => wpAny_pure ?_)))
      show wpAny _ _ (forIn (_ :: []) PUnit.unit _) _ _ _
      rw [List.forIn_cons]
      refine wpAny_bind (wpAny_bind (ns_put (s := { s with heap := h1, toks := s.toks + 1 }) g1 (by kernel_rfl) rfl fun h2 g2 b2 => wpAny_pure ?_))
      show wpAny _ _ (forIn [] PUnit.unit _) _ _ _
      rw [List.forIn_nil]
      exact wpAny_pure (wpAny_pure (end_ (ex := [("p_0", y), ("q_", y')]) hx (.cons hy (.one hy')) (by show ([Str.ofString "p_0", Str.ofString "q_"] : List Str).Nodup; decide +kernel) g2 ⟨b2.1.trans b1.1, fun b n => (b2.2 b n).trans (b1.2 b n)⟩ (Option.some.inj e).symm))
    · rw [if_neg hk] at e
      cases e
end
theorem ns_none {K : Frag} {h : Heap} {a : Addr} {m : Str → Option Value} {n : Str} (X : K.In h) (G : h.Ns a m) (e : nsIn K a n = some none) : m n = none := by
  obtain ⟨o, es, ep, ho, hd, _, hf⟩ := G
  unfold nsIn at e
  split at e
  · rename_i q
    cases (X _ _ q).symm.trans ho
    cases hd
    split at e
    · cases e
    · rename_i he
      rw [← hf]
      unfold nsFind findBy
      rw [← Array.find?_toList, he]
      rfl
  · cases e
noncomputable def entI (e : DictEntry) : Option (Int × Value) := match e.key with
  | .int i _ => if e.hash = hashInt i then some (i, e.val) else none
  | _ => none
theorem dict_ints {prog : Program} {w : World} : ∀ {es : List DictEntry} {kvs : List (Int × Value)}, es.mapM entI = some kvs → (∀ e ∈ es, ∃ k, (intKind prog w).is k e.key = true ∧ e.hash = (intKind prog w).hash k) ∧ Pairs (intKind prog w) es kvs
  | [], kvs, e => by cases (show some [] = some kvs from e); exact ⟨(fun _ h => nomatch h), Pairs.nil⟩
  | ⟨hh, key, val⟩ :: es, kvs, e => by
    rw [List.mapM_cons] at e
    obtain ⟨b, hb, e⟩ := Option.bind_eq_some_iff.mp e
    obtain ⟨r, hr, e⟩ := Option.bind_eq_some_iff.mp e
    cases e
    obtain ⟨i1, i2⟩ := dict_ints hr
    unfold entI at hb
    split at hb
    · rename_i i t hk
      have hk : key = .int i t := hk
      subst hk
      by_cases hz : hh = hashInt i
      · rw [if_pos hz] at hb
        cases hb
        refine ⟨fun e he => ?_, Pairs.cons (intKind_is _ _ _ _) rfl i2⟩
        rcases List.mem_cons.mp he with rfl | he
        · exact ⟨i, intKind_is _ _ _ _, hz⟩
        · exact i1 e he
      · rw [if_neg hz] at hb; cases hb
    · cases hb
noncomputable def mkD (w : World) (g : Heap) (os : OsState) (mg mb : Str → Option Value) : GD := ⟨pw, w, g, os, K w.params, fa, 237, 58, 101, 106, 67, 83, 79, mg, mb⟩
section
variable {w : World} {g : Heap} {os : OsState} {mg mb : Str → Option Value}
theorem fns_ok (X : (K w.params).In g) : ∀ f, FnOk (mkD w g os mg mb) (fa f) (fscope f) (fbody f) (fbd f)
  | .shorten => fn_of X (show (K w.params).lookup 45 = some (o45 w.params) from by kernel_rfl) (by kernel_rfl) (by intro h; first | rfl | exact absurd h (by decide +kernel)) (binds3 fun S v u t => by kernel_rfl)
  | .safeRepr => fn_of X (show (K w.params).lookup 53 = some (o53 w.params) from by kernel_rfl) (by kernel_rfl) (by intro h; first | rfl | exact absurd h (by decide +kernel)) (bindsSafe (fun S v => by kernel_rfl) fun S v u => by kernel_rfl)
  | .translate => fn_of X (show (K w.params).lookup 65 = some (o65 w.params) from by kernel_rfl) (by kernel_rfl) (by intro h; first | rfl | exact absurd h (by decide +kernel)) (binds1 fun S v => by kernel_rfl)
  | .escape => fn_of X (show (K w.params).lookup 77 = some (o77 w.params) from by kernel_rfl) (by kernel_rfl) (by intro h; first | rfl | exact absurd h (by decide +kernel)) (binds1 fun S v => by kernel_rfl)
  | .translateIn => fn_of X (show (K w.params).lookup 84 = some (o84 w.params) from by kernel_rfl) (by kernel_rfl) (by intro h; first | rfl | exact absurd h (by decide +kernel)) (binds3 fun S v u t => by kernel_rfl)
  | .joinParts => fn_of X (show (K w.params).lookup 91 = some (o91 w.params) from by kernel_rfl) (by kernel_rfl) (by intro h; first | rfl | exact absurd h (by decide +kernel)) (binds2 fun S v u => by kernel_rfl)
  | .formatparam => fn_of X (show (K w.params).lookup 114 = some (o114 w.params) from by kernel_rfl) (by kernel_rfl) (by intro h; first | rfl | exact absurd h (by decide +kernel)) (bindsForm (t := 648) fun S v u => by kernel_rfl)
  | .drawn => fn_of X (show (K w.params).lookup 248 = some (o248 w.params) from by kernel_rfl) (by kernel_rfl) (by intro h; first | rfl | exact absurd h (by decide +kernel)) (binds1 fun S v => by kernel_rfl)
  | .pattern => fn_of X (show (K w.params).lookup 253 = some (o253 w.params) from by kernel_rfl) (by kernel_rfl) (by intro h; first | rfl | exact absurd h (by decide +kernel)) (binds1 fun S v => by kernel_rfl)
  | .meant => fn_of X (show (K w.params).lookup 260 = some (o260 w.params) from by kernel_rfl) (by kernel_rfl) (by intro h; first | rfl | exact absurd h (by decide +kernel)) (binds1 fun S v => by kernel_rfl)
  | .texts => fn_of X (show (K w.params).lookup 267 = some (o267 w.params) from by kernel_rfl) (by kernel_rfl) (by intro h; first | rfl | exact absurd h (by decide +kernel)) (binds1 fun S v => by kernel_rfl)
  | .bits => fn_of X (show (K w.params).lookup 274 = some (o274 w.params) from by kernel_rfl) (by kernel_rfl) (by intro h; first | rfl | exact absurd h (by decide +kernel)) (binds1 fun S v => by kernel_rfl)
  | .members => fn_of X (show (K w.params).lookup 281 = some (o281 w.params) from by kernel_rfl) (by kernel_rfl) (by intro h; first | rfl | exact absurd h (by decide +kernel)) (binds1 fun S v => by kernel_rfl)
  | .atoms => fn_of X (show (K w.params).lookup 288 = some (o288 w.params) from by kernel_rfl) (by kernel_rfl) (by intro h; first | rfl | exact absurd h (by decide +kernel)) (binds1 fun S v => by kernel_rfl)
  | .home => fn_of X (show (K w.params).lookup 293 = some (o293 w.params) from by kernel_rfl) (by kernel_rfl) (by intro h; first | rfl | exact absurd h (by decide +kernel)) (binds1 fun S v => by kernel_rfl)
  | .header => fn_of X (show (K w.params).lookup 298 = some (o298 w.params) from by kernel_rfl) (by kernel_rfl) (by intro h; first | rfl | exact absurd h (by decide +kernel)) (binds3 fun S v u t => by kernel_rfl)
  | .writing => fn_of X (show (K w.params).lookup 303 = some (o303 w.params) from by kernel_rfl) (by kernel_rfl) (by intro h; first | rfl | exact absurd h (by decide +kernel)) (binds2 fun S v u => by kernel_rfl)
  | .hInit => fn_of X (show (K w.params).lookup 129 = some (o129 w.params) from by kernel_rfl) (by kernel_rfl) (by intro h; first | rfl | exact absurd h (by decide +kernel)) (bindsI fun S v => by kernel_rfl)
  | .hConv => fn_of X (show (K w.params).lookup 136 = some (o136 w.params) from by kernel_rfl) (by kernel_rfl) (by intro h; first | rfl | exact absurd h (by decide +kernel)) (bindsConv fun S v u t => by kernel_rfl)
  | .hItems => fn_of X (show (K w.params).lookup 201 = some (o201 w.params) from by kernel_rfl) (by kernel_rfl) (by intro h; first | rfl | exact absurd h (by decide +kernel)) (binds1 fun S v => by kernel_rfl)
  | .hRepr => fn_of X (show (K w.params).lookup 208 = some (o208 w.params) from by kernel_rfl) (by kernel_rfl) (by intro h; first | rfl | exact absurd h (by decide +kernel)) (binds1 fun S v => by kernel_rfl)
  | .hStr => fn_of X (show (K w.params).lookup 213 = some (o213 w.params) from by kernel_rfl) (by kernel_rfl) (by intro h; first | rfl | exact absurd h (by decide +kernel)) (binds1 fun S v => by kernel_rfl)
  | .hAdd => fn_add X ⟨_, X 1 (o1 w.params) (by kernel_rfl)⟩ (show (K w.params).lookup 234 = some (o234 w.params) from by kernel_rfl) (by kernel_rfl) (by intro h; first | rfl | exact absurd h (by decide +kernel)) (fun S v u t y => by kernel_rfl) fun S v u t y z => by kernel_rfl
end
end

section
open PySem PySem.Calls PyProof.Rows PySem.W
section
variable {w : World} {g : Heap} {os : OsState} {mg mb : Str → Option Value} {p : Program} {L : List Str} {mean : ExcName → Option Value}
theorem dok_ok (X : (K w.params).In g) (T : Top p L mean mg mb g) (hc : CodeHd g 83 79) (hct : g.get? 79 = none) : DOk (mkD w g os mg mb) where
  kin := X
  lim := T.nolimit
  booked := let ⟨mc, h, _⟩ := T.nodigits; ⟨mc, h, ns_none X h (by kernel_rfl)⟩
  sys := ⟨_, X 1 (o1 w.params) (by kernel_rfl)⟩
  globs := T.g
  bi := T.b
  code := hc
  bmain := T.bmain
  ctg := hct
  fns := fun f => let ⟨o, fd, h, e, _⟩ := (fns_ok (os := os) (mg := mg) (mb := mb) X f).ex; ⟨o, fd, h, e⟩
  gl := fun f h => mg_of X T.g (by cases f <;> first | (cases h; done) | kernel_rfl)
  bl := fun x v h => by
    have z : bnames.all (fun p => (nsIn (K w.params) mainGlobals p.1 == some none) && (p.1 != "__name__") && (bootBuiltins p.1 == some p.2)) = true := by kernel_rfl
    obtain ⟨y, y3⟩ := Bool.and_eq_true_iff.mp (List.all_eq_true.mp z _ (mem_of_lookup h))
    obtain ⟨y1, y2⟩ := Bool.and_eq_true_iff.mp y
    exact ⟨ns_none X T.g (eq_of_beq y1), (T.builtins x (bne_iff_ne.mp y2)).trans (eq_of_beq y3)⟩
theorem hdr_ok : HdrOk (mkD w g os mg mb) where
  ga := by kernel_rfl
  gat := by kernel_rfl
  hd := by kernel_rfl
  own := ⟨none, by kernel_rfl, by kernel_rfl⟩
  cls := by kernel_rfl
  clsG := by kernel_rfl
  clsT := by kernel_rfl
  mro := by kernel_rfl
  reads := by kernel_rfl
  nm := by kernel_rfl
  nmv := ⟨_, _, _, _, show (K w.params).lookup 237 = some (o237 w.params) from by kernel_rfl, by with_unfolding_all rfl⟩
  meth := fun g h => by rcases h with rfl | rfl | rfl <;> exact ⟨by kernel_rfl, by kernel_rfl⟩
  reprF := ⟨by kernel_rfl, by kernel_rfl⟩
  strF := ⟨by kernel_rfl, by kernel_rfl⟩
theorem make_ok : MakeOk (mkD w g os mg mb) where
  makes := by kernel_rfl
  init := by kernel_rfl
  initT := by kernel_rfl
  setA := by kernel_rfl
  over := by kernel_rfl
  taker := by kernel_rfl
theorem pat_ok (X : (K w.params).In g) : PatOk (mkD w g os mg mb) where
  name := ⟨X 101 (o101 w.params) (by kernel_rfl), rfl, rfl, rfl, rfl, rfl, X 100 (o100 w.params) (by kernel_rfl), rfl, by kernel_rfl⟩
  val := ⟨X 106 (o106 w.params) (by kernel_rfl), rfl, rfl, rfl, rfl, rfl, X 105 (o105 w.params) (by kernel_rfl), rfl, by kernel_rfl⟩
  twin := ⟨X 58 (o58 w.params) (by kernel_rfl), rfl, rfl, rfl, rfl, rfl, X 57 (o57 w.params) (by kernel_rfl), rfl, by kernel_rfl⟩
noncomputable def es67 (P : Params) : Array DictEntry := match (o67 P).data with
  | .dict es _ => es
  | _ => #[]
noncomputable def kv67 (P : Params) : List (Int × Value) := ((es67 P).toList.mapM entI).getD []
noncomputable def spec67 (l : List (Int × Value)) : Bool := (List.range 128).all fun c => match valueAt l (c : Int) with
  | some (.str x _) => special c && x == ⟨#[92, c]⟩
  | some _ => false
  | none => !special c
theorem spec_ok (X : (K w.params).In g) : SpecOk (mkD w g os mg mb) where
  ex := by
    have e : (es67 w.params).toList.mapM entI = some (kv67 w.params) := by kernel_rfl
    have z : spec67 (kv67 w.params) = true := by kernel_rfl
    have n : decide (((kv67 w.params).map (·.1)).Nodup) = true := by kernel_rfl
    obtain ⟨a, b⟩ := dict_ints (prog := pw) (w := w) e
    refine ⟨kv67 w.params, ⟨o67 w.params, es67 w.params, _, X 67 (o67 w.params) (by kernel_rfl), ⟨rfl, rfl, rfl⟩, rfl, fun e he => a e (Array.mem_toList_iff.mpr he), b, of_decide_eq_true n⟩, fun c hc => ?_⟩
    have y := List.all_eq_true.mp z c (List.mem_range.mpr hc)
    refine ⟨fun hs => ?_, fun hs => ?_⟩
    · split at y
      · rename_i x t h
        rw [h, eq_of_beq (Bool.and_eq_true_iff.mp y).2]
        exact ⟨_, rfl⟩
      · cases y
      · rw [hs] at y; cases y
    · split at y
      · rename_i x t h
        rw [hs] at y; cases y
      · cases y
      · assumption
  sys := by kernel_rfl
theorem foot (X : (K w.params).In g) (T : Top p L mean mg mb g) (hc : CodeHd g 83 79) (hct : g.get? 79 = none) : Footing (mkD w g os mg mb) where
  dok := dok_ok X T hc hct
  hdr := hdr_ok
  make := make_ok
  pat := pat_ok X
  spec := spec_ok X
  keep := by kernel_rfl
  fn := fns_ok X
  k80 := ⟨.int 80 291, mg_of X T.g (by kernel_rfl), fun _ => ⟨291, rfl⟩⟩
  k12 := ⟨.int 12 293, mg_of X T.g (by kernel_rfl), fun _ => ⟨293, rfl⟩⟩
  gTwin := ⟨.ref 58, mg_of X T.g (by kernel_rfl), fun _ => rfl⟩
  gName := ⟨.ref 101, mg_of X T.g (by kernel_rfl), fun _ => rfl⟩
  gVal := ⟨.ref 106, mg_of X T.g (by kernel_rfl), fun _ => rfl⟩
  gSpec := ⟨.ref 67, mg_of X T.g (by kernel_rfl), fun _ => rfl⟩
  gHdrs := mg_of X T.g (by kernel_rfl)
end
end

section
open PySem PySem.Calls PyProof.Rows PySem.W
section
variable {κ : Kx} {f : Fr κ} {π : Pl} {σ : T} {s : Shared} {a : Addr} {vs : List Value} {l : List V}
/-- the script, or else a list: no text was made before -/
theorem or_ok (R : Rel f π σ { s with toks := s.toks + 1 }) (h1 : κ.ns[0]? = some ("script" : Str)) (hl : κ.sc.names.lookup ("script" : Str) = some .local) (h2 : gt σ.ls 0 = some (some (.raw a))) (hL : κ.D.g.IsList a vs.toArray) (hn : vs.length ≤ big)
    {e2 : Expr} {p1 p : Pos} {b : PE} (hb : SE κ e2 b) {Q : V → T → Prop} (q1 : vs ≠ [] → Q (.raw a) σ) (q2 : vs = [] → b σ Q) : Ok f (eval (.BoolOp .Or [.Name "script" p1, e2] p) f.env) (Post f π Q) s := by
  show wpAny _ _ (do
    let v ← eval (.Name "script" p1) f.env
    standAt p
    let t ← holding [v] (truthy v)
    match BoolOp.Or, t with
    | .And, false | .Or, true => pure v
    | _, _ => boolOp p .Or [eval e2 f.env]) _ _ s
  obtain ⟨mL, hns, hva⟩ := R.ns
  obtain ⟨v, xv, hv⟩ := hva 0 "script" (.raw a) h1 h2
  cases (show v = .ref a from xv)
  have hm : mL "script" = some (.ref a) := hv.elim (·.2) fun z => absurd hl z.1
  refine wpAny_bind (wpAny_Name (wpAny_loadName_local f.ok.kind (f.ok.loc _ hl) hns hm ?_) (beq_eq_false_iff_ne.mpr (by decide +kernel)))
  refine wpAny_bind (wpAny_standAt (wpAny_bind (wpAny_holding ?_)))
  have hL' : s.heap.IsList a vs.toArray := let ⟨o, e, r⟩ := hL; ⟨o, R.c.g _ _ e, r⟩
  refine wpAny_truthy_list hL' (big_fits (by rw [List.size_toArray]; exact hn)) ?_
  cases vs with
  | nil => exact calm (hb.run f π σ _ _ (R.toks (tk := s.toks + 1 + 1) (Nat.succ_pos _)) (q2 rfl)) fun _ _ z => z
  | cons v vs => exact wpAny_pure ⟨.raw a, σ, π, q1 (fun z => nomatch z), R.toks (tk := s.toks + 1 + 1) (Nat.succ_pos _), rfl, .refl π⟩
noncomputable def sOr (a : Addr) (l : List V) (x : V) (lo hi : Option Int) (σ : T) (Q : V → Prop) : Prop := (x = .raw a ∧ Q (.lst (cutL l lo hi))) ∨ sLst x lo hi σ Q
theorem sOr_ok (hL : κ.D.g.IsList a vs.toArray) (rs : ∀ π, VRels κ.D π l vs) (hn : l.length ≤ big) : SlcOk κ (sOr a l) := fun f π σ s V v pl pu vl vu Q value lo hi p R x xl xu h => by
  rcases h with ⟨rfl, q⟩ | h
  · cases (show v = .ref a from x)
    obtain ⟨R₁, e₁⟩ := R.push (sliceObj vl vu)
    have hL' : s.heap.IsList a vs.toArray := let ⟨o, e, r⟩ := hL; ⟨o, R.c.g _ _ e, r⟩
    refine tail_any (hL'.push _).typeIs PySem.slot_list_getitem.lookup (wpAny_getItem_list_slice (hL'.push _) (Heap.IsSliceOf.new ..) xl.is xu.is .none (by decide) ?_ (by rw [size_is (rs π), ← big_is]; exact hn)) (slice_op _ _)
    rw [slicePick_plain, size_is (rs π)]
    exact .from e₁ (.lst (n := 0) R₁ (((rs _).drop (pl.elim 0 (clipAt l.length))).take (pu.elim l.length (clipAt l.length) - pl.elim 0 (clipAt l.length))) q)
  · exact sLst_ok f π σ s V v pl pu vl vu Q value lo hi p R x xl xu h
end
theorem ints_rel {D : GD} : ∀ {vs : List Value} {ns : List Int}, IntsAre vs ns → ∀ π, VRels D π (ns.map .int) vs
  | _, _, .nil, π => rfl
  | _, _, .cons n t h, π => .cons ⟨t, rfl⟩ (ints_rel h π)
noncomputable abbrev κL (D : GD) : Kx := ⟨D, 5, scopeAt 33, ["script", "numbers", "drawn", "table", "name", "own", "bare", "items", "expression"], true⟩
noncomputable abbrev pL (a b : Nat) : Pos := ⟨351, a, 351, b⟩
theorem law_first : bodyAt 33 = .Assign [.Name "numbers" (pL 4 11)] (.Subscript (.BoolOp .Or [.Name "script" (pL 15 21), .List [.Constant (.int 133) 0 (pL 26 29), .Constant (.int 4) 0 (pL 31 32)] (pL 25 33)] (pL 15 33)) (.Slice none (some (.Constant (.int 3) 0 (pL 36 37))) none (pL 35 37)) (pL 14 38)) (pL 4 38) :: List.tail (bodyAt 33) := by kernel_rfl
section
variable {D : GD} {a : Addr} {vs : List Value} {ns : List Int} {π : Pl} {s : Shared}
theorem law_body (F : Footing D) {f : Fr (κL D)} (R : Rel f π ⟨[some (.raw a), none, none, none, none, none, none, none, none], [], none⟩ { s with toks := s.toks + 1 }) (hL : D.g.IsList a vs.toArray) (hI : IntsAre vs ns) (hn : ns.length ≤ 63) {Q : Fl → T → Prop}
    (q : ∀ ms : List Int, ms ≠ [] → ms.length ≤ 3 → pb_law D ⟨[some (.raw a), some (.lst (ms.map .int)), none, none, none, none, none, none, none], [], none⟩ Q) : Ok f (execs (bodyAt 33) f.env) (PostF f π Q) s := by
  have rs := ints_rel (D := D) hI
  have hv : vs.length = ns.length := (rs π).length.trans (List.length_map ..)
  have hb : (63 : Nat) ≤ big := by decide
  have cut : ∀ ms : List Int, ms ≠ [] → (fun w => ∃ ms : List Int, w = V.lst (ms.map .int) ∧ ms ≠ [] ∧ ms.length ≤ 3) (V.lst (cutL (ms.map .int) none (some 3))) := fun ms h => by
    refine ⟨ms.take 3, ?_, fun z => ?_, by rw [List.length_take]; exact Nat.min_le_left _ _⟩
    · rw [show cutL (ms.map V.int) none (some 3) = (ms.map V.int).take 3 from cut_pre _ 3, List.map_take]
    · cases ms with
      | nil => exact h rfl
      | cons x r => cases z
  rw [law_first]
  refine wpAny_execs_cons (thenF (π := π) (Q := fun fl σ' => fl = .nxt ∧ pb_law D σ' Q) ?_ fun fl w σ₁ π₁ s₁ q₁ R₁ x₁ e₁ => ?_)
  · refine assign_plain rfl rfl (thenV (π := π) (Q := fun V σ' => σ' = ⟨[some (.raw a), none, none, none, none, none, none, none, none], [], none⟩ ∧ ∃ ms : List Int, V = .lst (ms.map .int) ∧ ms ≠ [] ∧ ms.length ≤ 3) ?_ fun V v σ₁ π₁ s₁ q₁ R₁ x₁ e₁ => ?_)
    · refine Subscript_ (thenV (π := π) (or_ok (Q := fun V σ' => σ' = ⟨[some (.raw a), none, none, none, none, none, none, none, none], [], none⟩ ∧ sOr a (ns.map .int) V none (some 3) σ' fun w => ∃ ms : List Int, w = Mine.V.lst (ms.map .int) ∧ ms ≠ [] ∧ ms.length ≤ 3) R rfl (by show List.lookup (Str.ofString "script") (scopeAt 33).names = _; decide +kernel) rfl hL (by omega)
        (rLst (rCons rInt (rCons rInt rNil))) (fun h => ⟨rfl, .inl ⟨rfl, cut ns fun z => h (List.length_eq_zero_iff.mp (by rw [hv, z]; rfl))⟩⟩) fun _ => ⟨rfl, .inr ⟨⟨rfl, by show 2 ≤ big; decide⟩, cut [133, 4] (List.cons_ne_nil _ _)⟩⟩)
        fun V v σ₁ π₁ s₁ q₁ R₁ x₁ e₁ => wpAny_Slice (thenO (rNo.run f π₁ σ₁ s₁ (fun p σ' => p = none ∧ σ' = σ₁) R₁ ⟨rfl, rfl⟩) fun pl vl σ₂ π₂ s₂ q₂ R₂ x₂ e₂ => thenO ((rSome rInt).run f π₂ σ₂ s₂ (fun p σ' => p = some 3 ∧ σ' = σ₂) R₂ ⟨rfl, rfl⟩) fun pu vu σ₃ π₃ s₃ q₃ R₃ x₃ e₃ => wpAny_evalPart_none
          (calm (sOr_ok hL rs (by rw [List.length_map]; omega) f π₃ σ₃ s₃ V v pl pu vl vu _ _ _ _ _ R₃ (x₁.le (e₂.trans e₃)) x₂ x₃ ?_) fun _ _ => .from (e₁.trans (e₂.trans e₃)))))
      obtain ⟨rfl, rfl⟩ := q₂
      obtain ⟨rfl, rfl⟩ := q₃
      obtain ⟨rfl, q₁⟩ := q₁
      rcases q₁ with z | z
      · exact .inl ⟨z.1, rfl, z.2⟩
      · obtain ⟨l, hl, z, y⟩ := opt_v z
        exact .inr (opt_i hl ⟨z, rfl, y⟩)
    · obtain ⟨rfl, ms, rfl, h1, h2⟩ := q₁
      exact calm ((rAVar (κ := κL D) 1 rfl).run f π₁ _ s₁ _ v (fun σ' => Fl.nxt = .nxt ∧ pb_law D σ' Q) R₁ x₁ ⟨rfl, q ms h1 h2⟩) fun _ _ z => .from e₁ z.fin
  · obtain ⟨rfl, q₁⟩ := q₁
    cases (show w = .next from x₁)
    exact calm ((b_law F).run f π₁ σ₁ s₁ _ R₁ q₁) fun _ _ => .from e₁
theorem law_call (F : Footing D) (hK : FnOk D 308 (scopeAt 33) (bodyAt 33) (bd1 "script")) (hL : D.g.IsList a vs.toArray) (hI : IntsAre vs ns) (hn : ns.length ≤ 63) {kp : Addr → Option Obj} {A : Around} (ao : AOk A 6) (hρ : π.ρ = []) (C : CRel D kp π none { s with toks := s.toks + 1 }) :
    codeAny (model D.prog D.w) A (.call (.ref 308) ⟨[.ref a], []⟩) (fun r s' => r = .ok (.ret (.bool true)) ∧ ∃ π' hd, CRel D kp π' hd s') s := by
  refine fn_enter0 (n := 5) (ns := ["script", "numbers", "drawn", "table", "name", "own", "bare", "items", "expression"]) F.dok hK (by decide +kernel) (Vs := [.raw a]) (ks := []) (bs := [("script", .raw a)]) (ls := [some (.raw a), none, none, none, none, none, none, none, none]) rfl ⟨_, rfl⟩ (fun i V e => mk_ok (vs := [.raw a]) (k := 8) (i := i) e) ao hρ (m := 0) (Nat.zero_le _) C (.one rfl) .nil fun f π₂ s₃ _ hkp R le => ?_
  refine calm (law_body F R hL hI hn fun ms h1 h2 => c_law F h1 h2 (Q := fun V _ => V = .bool true) fun hd => rfl) fun fl s₄ ⟨F', σ₄, π₄, q, R₄, xf, e₄⟩ => ?_
  subst hkp
  cases F' with
  | nxt =>
    obtain ⟨r, hr, e⟩ := opt_v (show opt (frz 4 σ₄.objs .none) (fun r => r = .bool true) from q)
    rw [frz_ok rfl] at hr
    cases hr
    cases e
  | brk => exact q.elim
  | cont => exact q.elim
  | ret W =>
    obtain ⟨v, rfl, xv⟩ := xf
    obtain ⟨V, hd, π', q', C', x', e', r'⟩ := leave_ok (Q := fun V _ => V = .bool true) R₄ xv q
    subst q'
    cases (show v = .bool true from x')
    exact ⟨rfl, π', hd, C'⟩
end
theorem law_end {w : World} {s₁ : Shared} {fa : Addr} {a : Addr} {vs : List Value} {ns : List Int} {p : Program} {L : List Str} {mean : ExcName → Option Value} {mg mb : Str → Option Value} (KX : (K w.params).In s₁.heap) (T : Top p L mean mg mb s₁.heap) (hT : s₁.heap.get? 79 = some (tabObj #[]))
    (hfa : mg "law" = some (.ref fa)) (hL : s₁.heap.IsList a vs.toArray) (hI : IntsAre vs ns) (hn : ¬ (63 : Int) < ns.length) (hg : s₁.gens = #[]) :
    codeAny (model pw w) callerA (.call (.ref fa) ⟨[.ref a], []⟩) (fun r s' => r = .ok (.ret (.bool true)) ∧ OldK s₁.heap s'.heap ∧ s'.os = s₁.os ∧ AllBare s'.gens) s₁ := by
  have hc0 : CodeHd s₁.heap 83 79 := codeHd_of_K KX (by kernel_rfl)
  have hT9 : TabsAt ([(83, 79)] : List (Addr × Addr)) s₁.heap := List.forall_mem_cons.mpr ⟨⟨hc0, hT⟩, fun _ h => nomatch h⟩
  have X' := ghost_K hT9 KX (by kernel_rfl)
  have T' := ghost_top hT9 T
  have hct : (ghostOf s₁.heap [(83, 79)]).get? 79 = none := hideAll_none _ (.head _)
  have F := foot (os := s₁.os) X' T' (ghost_code hT9).1 hct
  have e308 := mg_of KX T.g (by kernel_rfl : nsIn (K w.params) mainGlobals "law" = some (some (.ref 308)))
  obtain rfl : 308 = fa := by injection Option.some.inj (e308.symm.trans hfa)
  have hK : FnOk (mkD w (ghostOf s₁.heap [(83, 79)]) s₁.os mg mb) 308 (scopeAt 33) (bodyAt 33) (bd1 "script") := fn_of X' (show (K w.params).lookup 308 = some (o308 w.params) from by kernel_rfl) (by kernel_rfl) (by intro h; exact absurd h (by decide +kernel)) (binds1 fun S v => by kernel_rfl)
  have C : CRel (mkD w (ghostOf s₁.heap [(83, 79)]) s₁.os mg mb) (fun _ => none) ⟨(ghostOf s₁.heap [(83, 79)]).get?, [], none⟩ none { s₁ with toks := s₁.toks + 1 } :=
    ⟨fun a o e => of_hideAll _ e, (fun _ _ e => nomatch e), (fun _ _ e => nomatch e), fun _ _ e => e, rfl, ⟨#[], hT, True.intro, fun pos v e => nomatch e⟩, fun a q => ⟨q.elim (fun z => z ▸ hct) (fun z => nomatch z), rfl⟩, .of_eq hg, rfl, Nat.succ_pos _⟩
  refine codeAny_mono (law_call F hK (ghost_list hT9 hL) hI (by omega) ⟨rfl, by decide, by decide, rfl, ⟨_, rfl⟩⟩ rfl C) fun r s' ⟨e, π', hd, C'⟩ => ⟨e, ⟨fun b o h => ?_, fun b o h => ?_⟩, C'.os, C'.gens⟩
  · by_cases hb : b = 79
    · subst hb
      obtain ⟨ps, hP, _⟩ := C'.ct
      obtain rfl := Option.some.inj (h.symm.trans hT)
      exact .inr (.inl ⟨(hc0.tab hT).isCodeTable, rfl, #[], ps, rfl, by rw [Array.empty_append]; exact hP⟩)
    · exact .inl (C'.g b o (ghost_ne h fun z => hb (List.mem_singleton.mp z)))
  · by_cases hb : b = 79
    · subst hb
      obtain ⟨ps, hP, _⟩ := C'.ct
      exact ⟨_, hP⟩
    · exact ⟨o, C'.g b o (ghost_ne h fun z => hb (List.mem_singleton.mp z))⟩
end

set_option maxHeartbeats 4000000
section
open PySem PySem.Calls PyProof.Rows PySem.W
theorem main : PySem.Challenge.rw_in0286_01.Holds := by
  w_on
  refine holds_law okw fun said => ?_
  refine holds_open (q := qv) (loose := loose) (Xt := Xt) (XP := XL qv []) (Yf := Hook.obs HK) (Ya := Hook.val HK) (YP := Hook.says HK) (N := 8000) left (Hook.of HK) (Hook.keeps HK) (fun s e => xl_of s (Bool.and_eq_true_iff.mp e).1) XL.keeps (by rfl) (by rfl) (by rfl) (fun s e => recFacts_of (Bool.and_eq_true_iff.mp e).2) (by rfl) (by first | assumption | decide +kernel) (by decide +kernel) ⟨rfl, rfl, rfl, rfl, rfl, by decide +kernel⟩ ?hw ?hc
  case hw => w_witness2
  case hc =>
    intro w s₀ s₁ mg mb G Y fa o pm cd doc dV kV ho hd hcd hD hmg hg args vals as hpre hlay hrd hwl hlo
    have KX := km_in_of Y
    km_tabs Y
    have X := (Ground.X G).1
    have V := (Ground.X G).2
    refine Ground.open G ?_
    intro T B D TE TW
    clear D
    wrow_args hpre hlay hrd hwl hlo
    refine enter_call ?_
    w_top on
    refine codeAny_mono (law_end KX T (hT8 79 (by k_mem)) hmg (by assumption) (by assumption) (by assumption) hg) fun r s' ⟨e, o, os, g⟩ => ?_
    subst e
    exact ⟨.inl ⟨.bool true, .bool true, [], rfl, fun _ => rfl, .bool true, by kernel_rfl, fun h => ⟨.nil, fun _ h => nomatch h⟩⟩, o, os, g⟩
end

end Mine
theorem PySem.Challenge.cw_in0286_01_holds : PySem.Challenge.rw_in0286_01.Holds :=
  Mine.main
