import PyProof.Rows.All
import Wide.All
import OpenK.AllK
import Wide.FinOn
import PySem.Challenge.RW_bc6014_01
open PySem PySem.W PyProof.Rows
set_option Elab.async false
set_option maxRecDepth 100000
/-! Top1 -/
namespace Mine
set_option maxRecDepth 100000 in
set_option maxHeartbeats 8000000 in
open_top hd for PySem.Challenge.rw_bc6014_01
end Mine
/-! Pmd1 -/
open PySem PySem.W PyProof.Rows PySem.Calls
namespace Mine

/-- an object of the dict subclass: its own attribute dict, its entries -/
abbrev pmdO (dx : Addr) (es : Array DictEntry) (ep : Nat) : Obj := { cls := .ref 166, dict := some dx, data := .dict es ep }

structure Ents (w : World) (es : Array DictEntry) (kvs : List (Str × Value)) : Prop where
  keys : ∀ e ∈ es, ∃ k, Value.isStrOf k e.key = true ∧ e.hash = hashStr w k
  pairs : ∀ prog, Pairs (strKind prog w) es.toList kvs
  nodup : (kvs.map (·.1)).Nodup

section
variable {prog : Program} {w : World} {A : Around} {E : Value → Shared → Prop} {s : Shared} {x dx : Addr} {es : Array DictEntry} {ep : Nat} {kvs : List (Str × Value)} {k : Str} {t : Tok} {v : Value}

theorem Ents.keysOf (H : Ents w es kvs) : KeysOf (strKind prog w) es := H.keys
theorem Ents.nil : Ents w #[] [] := ⟨fun _ h => by simp at h, fun _ => Pairs.nil, List.nodup_nil⟩
theorem Ents.find (H : Ents w es kvs) (k : Str) : findBy (strKind prog w).is es k = valueAt kvs k := by
  rw [← (H.pairs prog).find k]
  obtain ⟨l⟩ := es
  simp [findBy]
theorem Ents.size (H : Ents w es kvs) : es.size = kvs.length := by
  have := (H.pairs default).length
  simpa using this

theorem pm_dictGet {o : Obj} {Q : Option Value → Shared → Prop} (ho : s.heap.get? x = some o) (hd : o.data = .dict es ep) (H : Ents w es kvs) (h : Q (valueAt kvs k) { s with toks := s.toks + 1 }) :
    wpAny (model prog w) A (dictGet x (.str k t)) Q E s := by
  have hkey : (strKind prog w).is k (.str k t) = true := strKind_is _ _ _ _
  rw [← H.find (prog := prog) k, findBy_of_findIdx?] at h
  unfold dictGet
  try with_reducible refine wpAny_holding ?_
  refine wpAny_bind ((strKind prog w).pyHash hkey (wpAny_bind (wpAny_dictFind_of (s := { s with toks := s.toks + 1 }) hkey ho hd H.keysOf ?_)))
  split at h
  · rename_i i hi
    rw [hi]
    exact wpAny_bind (wpAny_dictEntries (s := { s with toks := s.toks + 1 }) ho hd (wpAny_pure h))
  · rename_i hi
    rw [hi]
    exact wpAny_pure h

theorem pm_dictSet {Q : Unit → Shared → Prop} (ho : s.heap.get? x = some (pmdO dx es ep)) (H : Ents w es kvs) (hsz : kvs.length ≤ sizeLine)
    (h : ∀ es' ep' h', h'.get? x = some (pmdO dx es' ep') → Heap.SameBut x s.heap h' → Ents w es' (stored kvs k v) → Q () { s with heap := h', toks := s.toks + 1 }) :
    wpAny (model prog w) A (dictSet x (.str k t) v) Q E s := by
  have hkey : (strKind prog w).is k (.str k t) = true := strKind_is _ _ _ _
  have hes : es.size ≤ sizeLine := by rw [H.size]; exact hsz
  have hidx : ∀ prog, (es.findIdx? fun e => (strKind prog w).is k e.key) = kvs.findIdx? fun kv => decide (kv.1 = k) := fun prog => by
    rw [← (H.pairs prog).findIdx k]; obtain ⟨l⟩ := es; simp
  unfold dictSet
  try with_reducible refine wpAny_holding ?_
  refine wpAny_bind ((strKind prog w).pyHash hkey ?_)
  unfold dictSetHashed
  try with_reducible refine wpAny_holding ?_
  refine wpAny_bind (wpAny_dictFind_of (s := { s with toks := s.toks + 1 }) hkey ho rfl H.keysOf ?_)
  cases hi : es.findIdx? fun e => (strKind prog w).is k e.key with
  | some i =>
    have hi' : (kvs.findIdx? fun kv => decide (kv.1 = k)) = some i := (hidx prog).symm.trans hi
    refine wpAny_bind (wpAny_rule (wpAny_bind (wpAny_updateDict (s := { s with toks := s.toks + 1 }) ho rfl (wpAny_point (h _ ep _ (Heap.get?_update_self _ ho rfl) (Heap.SameBut.update ..) ⟨?_, ?_, ?_⟩)))))
    · exact KeysOf.modify (knd := strKind prog w) H.keysOf i v
    · intro prog'
      have hl : (es.toList.findIdx? fun e => (strKind prog' w).is k e.key) = some i := by
        rw [← hi', ← hidx prog']; obtain ⟨l⟩ := es; simp
      rw [stored, if_pos (any_of_findIdx_some hi')]
      have := (H.pairs prog').modify H.nodup hl v
      obtain ⟨l⟩ := es
      simpa using this
    · rw [stored, if_pos (any_of_findIdx_some hi'), keys_map_store]; exact H.nodup
  | none =>
    have hi' : (kvs.findIdx? fun kv => decide (kv.1 = k)) = none := (hidx prog).symm.trans hi
    have hnot : k ∉ kvs.map (·.1) := not_mem_of_findIdx_none hi'
    have hany : ¬ (kvs.any fun kv => decide (kv.1 = k)) = true := by
      rw [List.any_eq_true]; rintro ⟨kv, hkv, he⟩
      exact hnot (List.mem_map.mpr ⟨kv, hkv, of_decide_eq_true he⟩)
    refine wpAny_bind (wpAny_rule (wpAny_updateDictKeys (hz := hes) (s := { s with toks := s.toks + 1 }) ho rfl (h _ (ep + 1) _ (Heap.get?_update_self _ ho rfl) (Heap.SameBut.update ..) ⟨?_, ?_, ?_⟩)))
    · exact KeysOf.push (knd := strKind prog w) H.keysOf hkey _
    · intro prog'
      rw [stored, if_neg hany]
      have := (H.pairs prog').append (strKind_is prog' w k t) ((strKind prog w).hash k) v
      obtain ⟨l⟩ := es
      simpa using this
    · rw [stored, if_neg hany, List.map_append, List.nodup_append]
      refine ⟨H.nodup, by simp, ?_⟩
      intro a ha b hb
      simp only [List.map_cons, List.map_nil, List.mem_singleton] at hb
      subst hb
      exact fun e => hnot (e ▸ ha)
end
end Mine
/-! Pmd2 -/
namespace Mine

section
variable {prog : Program} {w : World} {A : Around} {E : Value → Shared → Prop} {s : Shared} {K : Frag} {x dx C L : Addr} {es : Array DictEntry} {ep : Nat} {kvs : List (Str × Value)} {k : Str} {t : Tok} {v : Value} {h₀ : Heap} {m : Str → Option Value} {news : List (Addr × Obj)} {od : Obj} {u : Obj → List (Addr × Obj)}

theorem pm_inst {h : Heap} (N : News h₀ L h news) (h1 : (x, pmdO dx es ep) ∈ news) (h2 : (dx, od) ∈ news) : InstAt h x (pmdO dx es ep) 166 (some od) :=
  ⟨(N _ h1).1, rfl, rfl, (N _ h2).1⟩

theorem check_method {M : Model} {i owner n : String} {self : Value} {rest : List Value} {kw : List (Str × Value)} {Q : Unit → Shared → Prop}
    (hk : builtinKind i = some .method) (hs : splitId i = some (owner, n)) (hi : Looks M s.heap (isInstance self (.type owner)) true) (ha : argsOk i ⟨self :: rest, kw⟩) (q : Q () s) :
    wpAny M A (checkBuiltinCall i ⟨self :: rest, kw⟩) Q E s := by
  simp only [checkBuiltinCall, hk, hs]
  refine wpAny_bind (hi.here ?_)
  simp only [Bool.not_true, Bool.false_eq_true, if_false]
  cases hsig : Manifest.signature? i with
  | none => exact wpAny_pure q
  | some sig =>
    simp only [argsOk, hsig] at ha
    have h2 : Bind.checkArgs i sig ⟨self :: rest, kw⟩ = pure () := ha
    show wpAny M A (Bind.checkArgs i sig ⟨self :: rest, kw⟩) Q E s
    rw [h2]; exact wpAny_pure q

theorem k_contains : builtinKind "dict.__contains__" = some .method := by decide +kernel
theorem sp_contains : splitId "dict.__contains__" = some ("dict", "__contains__") := by decide +kernel
theorem k_len : builtinKind "dict.__len__" = some .slot := by decide +kernel
theorem sp_len : splitId "dict.__len__" = some ("dict", "__len__") := by decide +kernel

theorem pm_isDict (X : K.In s.heap) (I : InstAt s.heap x (pmdO dx es ep) C (some od)) (hm : mroIn K C (.type "dict") = some true) : Looks (model prog w) s.heap (isInstance (.ref x) (.type "dict")) true :=
  I.type.andThen (looks_mroIn X hm)

/-- `key in self` -/
theorem pm_contains {Q : Bool → Shared → Prop} (X₀ : K.In h₀) (F : Fr h₀ L s.heap m) (I : InstAt s.heap x (pmdO dx es ep) C (some od)) (hm : mroIn K C (.type "dict") = some true)
    (hc : findIn K (.ref C) "__contains__" = some (some (.builtin "dict.__contains__"))) (lo : (x == sysModules) = false) (H : Ents w es kvs)
    (h : Q (valueAt kvs k).isSome { s with toks := s.toks + 1 }) : wpAny (model prog w) A (contains (.ref x) (.str k t)) Q E s := by
  have X := X₀.keeps F.keep
  have sp : Looks (model prog w) s.heap (specialOf (.ref x) "__contains__") (some (.builtin "dict.__contains__")) := I.type.andThen (looks_findIn X hc)
  unfold contains
  refine wpAny_holding ?_
  rw [show stdlibNamesSay? (.ref x) (.str k t) = none from rfl]
  dsimp only
  refine wpAny_bind (sp.here ?_)
  rw [if_neg (by decide +kernel)]
  unfold callSpecialUnlessNone?
  refine wpAny_bind (wpAny_bind (sp.here (wpAny_holding (wpAny_bind (wpAny_of_eq (slot_dict_contains.bind _) ?_)))))
  dsimp only
  rw [if_neg (by decide +kernel)]
  refine wpAny_bind ?_
  show wpAny _ _ (call (.builtin "dict.__contains__") [.ref x, .str k t]) _ _ _
  refine wpAny_call ?_
  refine codeAny_call_builtin slot_dict_contains.plain entry_dict_contains ?_
  have hi := pm_isDict (prog := prog) (w := w) X I hm
  refine @check_method A.in1 _ s (model prog w) "dict.__contains__" "dict" "__contains__" (.ref x) [.str k t] [] _ k_contains sp_contains hi (args_dict_contains _ _) ?_
  show wpAny _ _ (dictGet x (.str k t) >>= _) _ _ _
  refine wpAny_bind (pm_dictGet I.at_ rfl H ?_)
  have fin : Q (valueAt kvs k).isSome { s with toks := s.toks + 1 } := h
  cases hv : valueAt kvs k with
  | some v =>
    rw [hv] at fin
    exact wpAny_pure (wpAny_pure (wpAny_truthy_bool fin))
  | none =>
    rw [hv] at fin
    refine wpAny_bind (wpAny_pendingKey_other lo ?_)
    exact wpAny_pure (wpAny_pure (wpAny_truthy_bool fin))
end
end Mine
/-! Pmd3 -/
namespace Mine

section
variable {prog : Program} {w : World} {A : Around} {E : Value → Shared → Prop} {s : Shared} {K : Frag} {x dx C L : Addr} {es : Array DictEntry} {ep : Nat} {kvs : List (Str × Value)} {k : Str} {t : Tok} {v : Value} {h₀ : Heap} {m : Str → Option Value} {news : List (Addr × Obj)} {od : Obj} {u : Obj → List (Addr × Obj)}

theorem pm_in {Q : Value → Shared → Prop} (X₀ : K.In h₀) (F : Fr h₀ L s.heap m) (I : InstAt s.heap x (pmdO dx es ep) C (some od)) (hm : mroIn K C (.type "dict") = some true)
    (hc : findIn K (.ref C) "__contains__" = some (some (.builtin "dict.__contains__"))) (lo : (x == sysModules) = false) (H : Ents w es kvs)
    (h : Q (.bool (valueAt kvs k).isSome) { s with toks := s.toks + 1 }) : wpAny (model prog w) A (compareOp .In (.str k t) (.ref x)) Q E s :=
  wpAny_bind (pm_contains X₀ F I hm hc lo H (wpAny_pure h))
theorem pm_notin {Q : Value → Shared → Prop} (X₀ : K.In h₀) (F : Fr h₀ L s.heap m) (I : InstAt s.heap x (pmdO dx es ep) C (some od)) (hm : mroIn K C (.type "dict") = some true)
    (hc : findIn K (.ref C) "__contains__" = some (some (.builtin "dict.__contains__"))) (lo : (x == sysModules) = false) (H : Ents w es kvs)
    (h : Q (.bool (!(valueAt kvs k).isSome)) { s with toks := s.toks + 1 }) : wpAny (model prog w) A (compareOp .NotIn (.str k t) (.ref x)) Q E s :=
  wpAny_bind (pm_contains X₀ F I hm hc lo H (wpAny_pure h))

theorem pm_notOrdered {name : String} {rest : List Value} {Q : Unit → Shared → Prop} (X : K.In s.heap) (I : InstAt s.heap x (pmdO dx es ep) C (some od)) (ho : mroIn K C (.type "collections.OrderedDict") = some false) (h : Q () s) :
    wpAny (model prog w) A (Builtin.Dict.notOrdered name ⟨.ref x :: rest, []⟩) Q E s := by
  unfold Builtin.Dict.notOrdered
  split
  · refine wpAny_bind (I.type.here ?_)
    split
    · have hno : Looks (model prog w) s.heap (isInstance (.ref x) (.type "collections.OrderedDict")) false := I.type.andThen (looks_mroIn X ho)
      refine wpAny_bind (hno.here ?_)
      exact wpAny_pure h
    · exact wpAny_pure h
  · exact wpAny_pure h

/-- `len(self)` -/
theorem pm_len {Q : Value → Shared → Prop} (X₀ : K.In h₀) (F : Fr h₀ L s.heap m) (I : InstAt s.heap x (pmdO dx es ep) C (some od)) (hm : mroIn K C (.type "dict") = some true) (ho : mroIn K C (.type "collections.OrderedDict") = some false)
    (hc : findIn K (.ref C) "__len__" = some (some (.builtin "dict.__len__"))) (lo : (x == sysModules) = false) (H : Ents w es kvs) (hz : kvs.length ≤ 16384)
    (h : Q (.int kvs.length (s.toks + 1)) { s with toks := s.toks + 1 + 1 }) : wpAny (model prog w) A (call (.builtin "len") [.ref x]) Q E s := by
  have X := X₀.keeps F.keep
  have sp : Looks (model prog w) s.heap (specialOf (.ref x) "__len__") (some (.builtin "dict.__len__")) := I.type.andThen (looks_findIn X hc)
  have hi := pm_isDict (prog := prog) (w := w) X I hm
  refine Calls.call_function_entry kind_len plain_len entry_len (args_len1 _) ?_
  unfold Builtin.«len»
  refine wpAny_bind (m := oneArg "len" _) (wpAny_pure ?_)
  refine wpAny_bind ?_
  unfold callSpecial?
  refine wpAny_bind (sp.here ?_)
  refine wpAny_holding (wpAny_bind (wpAny_of_eq (_root_.PySem.F.slot_dict_len.bind _) ?_))
  refine wpAny_bind ?_
  show wpAny _ _ (call (.builtin "dict.__len__") [.ref x]) _ _ _
  refine wpAny_call ?_
  refine codeAny_call_builtin _root_.PySem.F.slot_dict_len.plain _root_.PySem.F.entry_dict_len ?_
  refine @check_slot (model prog w) _ _ s "dict.__len__" "dict" "__len__" (.ref x) [] [] _ k_len sp_len hi (_root_.PySem.F.args_dict_len_1 _) ?_
  show wpAny _ _ (dictSize x >>= _) _ _ _
  unfold dictSize
  refine wpAny_bind (wpAny_bind (wpAny_dictEntries I.at_ rfl (wpAny_pure ?_)))
  show wpAny _ _ (Builtin.Dict.pendingCount x >>= _) _ _ _
  refine wpAny_bind (wpAny_pendingCount_other lo ?_)
  rw [show ((es.size : Int) + ((0 : Nat) : Int)) = (kvs.length : Int) from by rw [H.size]; simp]
  refine wpAny_bind (wpAny_mkInt (wpAny_pure ?_))
  refine wpAny_pure ?_
  show wpAny _ _ _ _ _ { s with toks := s.toks + 1 }
  refine wpAny_bind (wpAny_holding (wpAny_pure ?_))
  refine wpAny_bind (wpAny_letGo ?_)
  show wpAny _ _ (if ((kvs.length : Nat) : Int) < 0 then _ else _) _ _ _
  rw [if_neg (by omega)]
  show wpAny _ _ (if ((kvs.length : Nat) : Int) ≥ 2 ^ 63 then _ else _) _ _ _
  rw [if_neg (by omega)]
  exact wpAny_bind (wpAny_mkInt (wpAny_pure ⟨_, rfl, h⟩))
end
end Mine
/-! Pmd4 -/
namespace Mine

theorem ty_setitem : typeOf (.builtin "dict.__setitem__") = pure (.type "wrapper_descriptor") := by show builtinType _ = _; rw [builtinType_eq_fast]; kernel_rfl
theorem ty_getitem : typeOf (.builtin "dict.__getitem__") = pure (.type "method_descriptor") := by show builtinType _ = _; rw [builtinType_eq_fast]; kernel_rfl
theorem slot_wd_get : Slot "wrapper_descriptor" "__get__" "wrapper_descriptor.__get__" := .of (owner := "wrapper_descriptor") (n := "__get__") (by rw [typeLookup_type, builtinLookup_eq_fast]; kernel_rfl) (by decide +kernel) (by decide +kernel) (by decide +kernel)
  (by first | exact .inl (by decide +kernel) | exact .inr (by decide +kernel)) (by rw [isSubtype_type]; kernel_rfl)
theorem entry_wd_get : entryFor table "wrapper_descriptor.__get__" = some Builtin.«wrapper_descriptor.__get__» := entryFor_of_tree (by kernel_rfl)
theorem args_wd_get (a b c : Value) : argsOk "wrapper_descriptor.__get__" ⟨[a, b, c], []⟩ := by unfold argsOk; kernel_rfl
theorem slot_md_get : Slot "method_descriptor" "__get__" "method_descriptor.__get__" := .of (owner := "method_descriptor") (n := "__get__") (by rw [typeLookup_type, builtinLookup_eq_fast]; kernel_rfl) (by decide +kernel) (by decide +kernel) (by decide +kernel)
  (by first | exact .inl (by decide +kernel) | exact .inr (by decide +kernel)) (by rw [isSubtype_type]; kernel_rfl)
theorem entry_md_get : entryFor table "method_descriptor.__get__" = some Builtin.«method_descriptor.__get__» := entryFor_of_tree (by kernel_rfl)
theorem args_md_get (a b c : Value) : argsOk "method_descriptor.__get__" ⟨[a, b, c], []⟩ := by unfold argsOk; kernel_rfl
theorem cut_setitem : ".".intercalate ("dict.__setitem__".cutAt '.').dropLast = "dict" := by decide +kernel
theorem cut_getitem : ".".intercalate ("dict.__getitem__".cutAt '.').dropLast = "dict" := by decide +kernel
theorem told_getitem : Manifest.toldItsClass.contains "dict.__getitem__" = false := by decide +kernel

section
variable {prog : Program} {w : World} {A : Around} {E : Value → Shared → Prop} {x C : Addr} {h : Heap} {g : Array GenState} {d : Drawn} {tk : Nat} {os : OsState}

abbrev boundO (T : String) (id : String) (x : Addr) : Obj := { cls := .type T, data := .fields #[.builtin id, .ref x] }

theorem wd_get {Q : Value → Shared → Prop} (hi : Looks (model prog w) h (isInstance (.ref x) (.type "dict")) true)
    (hq : Q (.ref h.objs.size) ⟨h.push (boundO "method-wrapper" "dict.__setitem__" x), g, d, tk, os⟩) :
    wpAny (model prog w) A (call (.builtin "wrapper_descriptor.__get__") [.builtin "dict.__setitem__", .ref x, .ref C]) Q E ⟨h, g, d, tk, os⟩ := by
  refine wpAny_call_entry slot_wd_get ty_setitem entry_wd_get ?_ (args_wd_get _ _ _)
  unfold Builtin.«wrapper_descriptor.__get__»
  repeat (first | (rw [cut_setitem]) | (with_reducible refine Looks.at hi ?_) | (refine ⟨_, rfl, ?_⟩) | (unfold newFields; with_reducible refine wpAny_newObj_type ?_ (by size_fits)) | wp_step | dsimp only)
  all_goals exact hq

theorem md_get {Q : Value → Shared → Prop} (hi : Looks (model prog w) h (isInstance (.ref x) (.type "dict")) true)
    (hq : Q (.ref h.objs.size) ⟨h.push (boundO "builtin_function_or_method" "dict.__getitem__" x), g, d, tk, os⟩) :
    wpAny (model prog w) A (call (.builtin "method_descriptor.__get__") [.builtin "dict.__getitem__", .ref x, .ref C]) Q E ⟨h, g, d, tk, os⟩ := by
  refine wpAny_call_entry slot_md_get ty_getitem entry_md_get ?_ (args_md_get _ _ _)
  unfold Builtin.«method_descriptor.__get__»
  repeat (first | (rw [cut_getitem]) | (rw [told_getitem]) | (with_reducible refine Looks.at hi ?_) | (refine ⟨_, rfl, ?_⟩) | (unfold newFields; with_reducible refine wpAny_newObj_type ?_ (by size_fits)) | wp_step | dsimp only)
  all_goals exact hq
end
end Mine
/-! Pmd5 -/
namespace Mine

section
variable {prog : Program} {w : World} {A : Around} {E : Value → Shared → Prop} {so D x C : Addr} {h : Heap} {g : Array GenState} {d : Drawn} {tk : Nat} {os : OsState} {id gid T Dsc : String} {l₀ l : List Value} {K : Frag} {name : Str}

theorem pm_super_ga {t : Tok} {Q : Fin → Shared → Prop}
    (hso : h.get? so = some { cls := .type "super", dict := none, data := .fields #[.ref D, .ref x, .ref C], slots := #[] }) (hno : Looks (model prog w) h (opaqueClassAbove (.ref C)) none)
    (hC : Looks (model prog w) h (mroOf (.ref C)) l₀) (hl : (l₀.dropWhile (· != .ref D)).drop 1 = l) (X : K.In h)
    (hf : alongIn K name l = some (some (.builtin id))) (hty : typeOf (.builtin id) = pure (.type Dsc)) (hlk : typeLookup (.type Dsc) "__get__" = pure (some (.builtin gid)))
    (hcall : ∀ (A : Around) (Q : Value → Shared → Prop) (E : Value → Shared → Prop), Q (.ref h.objs.size) ⟨h.push (boundO T id x), g, d, tk, os⟩ → wpAny (model prog w) A (call (.builtin gid) [.builtin id, .ref x, .ref C]) Q E ⟨h, g, d, tk, os⟩)
    (hxC : x ≠ C) (hn : (name == ("__class__" : Str)) = false)
    (hq : Q (.done (.ret (.ref h.objs.size))) ⟨h.push (boundO T id x), g, d, tk, os⟩) :
    wpAny (model prog w) A (Builtin.«super.__getattribute__» ⟨[.ref so, .str name t], []⟩) Q E ⟨h, g, d, tk, os⟩ := by
  have hne : (Value.ref x == Value.ref C) = false := by simp [hxC]
  have hdt : ({ cls := .type "super", dict := none, data := .fields #[.ref D, .ref x, .ref C], slots := #[] } : Obj).data = .fields #[.ref D, .ref x, .ref C] := rfl
  have f0 : (#[.ref D, .ref x, .ref C] : Array Value)[0]? = some (.ref D) := rfl
  have f1 : (#[.ref D, .ref x, .ref C] : Array Value)[1]? = some (.ref x) := rfl
  have f2 : (#[.ref D, .ref x, .ref C] : Array Value)[2]? = some (.ref C) := rfl
  unfold Builtin.«super.__getattribute__»
  repeat (first
    | (with_reducible refine wpAny_field hso hdt f0 ?_) | (with_reducible refine wpAny_field hso hdt f1 ?_) | (with_reducible refine wpAny_field hso hdt f2 ?_)
    | (with_reducible refine ks_wpAny_notOpaque hno ?_)
    | (with_reducible refine Looks.at hC ?_; rw [hl])
    | (refine ks_forIn_along X (fun _ _ => rfl) rfl ?_ hf)
    | (with_reducible refine wpAny_of_eq hty ?_)
    | (with_reducible refine wpAny_of_eq hlk ?_)
    | (with_reducible refine hcall _ _ _ ?_)
    | (simp only [hn, hne, Bool.or_false, Bool.false_eq_true, if_false])
    | wp_step
    | dsimp only)
  all_goals exact hq

theorem pm_getMethod_super {pl : Sem Bool} {Q : Value × List Value → Shared → Prop}
    (hso : h.get? so = some { cls := .type "super", dict := none, data := .fields #[.ref D, .ref x, .ref C], slots := #[] }) (hno : Looks (model prog w) h (opaqueClassAbove (.ref C)) none)
    (hC : Looks (model prog w) h (mroOf (.ref C)) l₀) (hl : (l₀.dropWhile (· != .ref D)).drop 1 = l) (X : K.In h)
    (hf : alongIn K name l = some (some (.builtin id))) (hty : typeOf (.builtin id) = pure (.type Dsc)) (hlk : typeLookup (.type Dsc) "__get__" = pure (some (.builtin gid)))
    (hcall : ∀ (A : Around) (tk : Nat) (Q : Value → Shared → Prop) (E : Value → Shared → Prop), Q (.ref h.objs.size) ⟨h.push (boundO T id x), g, d, tk, os⟩ → wpAny (model prog w) A (call (.builtin gid) [.builtin id, .ref x, .ref C]) Q E ⟨h, g, d, tk, os⟩)
    (hxC : x ≠ C) (hn : (name == ("__class__" : Str)) = false)
    (hq : Q (.ref h.objs.size, []) ⟨h.push (boundO T id x), g, d, tk + 1, os⟩) :
    wpAny (model prog w) A (getMethod (.ref so) name pl) Q E ⟨h, g, d, tk, os⟩ := by
  have hlk' := _root_.PySem.F.ks_slot_super_ga.lookup
  have hcan := _root_.PySem.F.ks_canon_super_ga
  have hT : ∀ t', (⟨h, g, d, t', os⟩ : Shared).TypeIs (.ref so) "super" := fun _ => ⟨_, hso, rfl⟩
  unfold getMethod
  refine wpAny_bind (wpAny_specialOf (hT _) hlk' ?_)
  show wpAny _ _ (if (Manifest.canonical "super.__getattribute__" != "object.__getattribute__") = true then _ else _) _ _ _
  rw [if_pos hcan]
  unfold getAttr getAttrBy
  refine wpAny_bind (wpAny_bind (wpAny_mkText (wpAny_holding (wpAny_bind (wpAny_typeOf (hT _) (wpAny_bind (wpAny_of_eq hlk' ?_)))))))
  show wpAny _ _ (getAttrByItsOwn (.ref so) (.str name tk) (.type "super") (.builtin "super.__getattribute__") true false) _ _ _
  unfold getAttrByItsOwn hookBefore callGetattribute boundAndCalled
  refine wpAny_bind (wpAny_of_eq (show (if onTheHeap (.type "super") then typeLookup (.type "super") "__getattr__" else pure none) = pure none from rfl) ?_)
  refine wpAny_bind (wpAny_attempt (wpAny_holding ?_))
  show wpAny _ _ (bindSpecial (.builtin "super.__getattribute__") (.ref so) >>= _) _ _ _
  refine wpAny_bind (wpAny_of_eq (_root_.PySem.F.ks_slot_super_ga.bind _) ?_)
  refine wpAny_mono (Q := fun v s' => v = .ref h.objs.size ∧ s' = ⟨h.push (boundO T id x), g, d, tk + 1, os⟩) (E := fun _ _ => False)
    (wpAny_call_entry _root_.PySem.F.ks_slot_super_ga (hT _) _root_.PySem.F.ks_entry_super_ga (pm_super_ga hso hno hC hl X hf hty hlk (fun A Q E => hcall A _ Q E) hxC hn ⟨_, rfl, rfl, rfl⟩) (_root_.PySem.F.ks_gaArgs_super _ _)) (fun v s' hv => ?_) fun _ _ z => z.elim
  obtain ⟨rfl, rfl⟩ := hv
  exact wpAny_pure (wpAny_pure hq)
end
end Mine
/-! Pmd6 -/
namespace Mine

theorem k_setitem : builtinKind "dict.__setitem__" = some .slot := by decide +kernel
theorem k_getitem : builtinKind "dict.__getitem__" = some .method := by decide +kernel
theorem pl_setitem : plainId "dict.__setitem__" = true := by decide +kernel
theorem pl_getitem : plainId "dict.__getitem__" = true := by decide +kernel
theorem va_getitem : Manifest.varargsMethods.contains "dict.__getitem__" = false := by decide +kernel
theorem ca_setitem (sig : Manifest.Signature) (h : Manifest.signature? "dict.__setitem__" = some sig) (a b c : Value) : Bind.checkArgs "dict.__setitem__" sig ⟨[a, b, c], []⟩ = pure () := by
  have := args_dict_setitem a b c
  simp only [argsOk, h] at this
  exact this

def BndP (q : Addr) (T id : String) (x : Addr) (h : Heap) : Prop := h.get? q = some (boundO T id x)

section
variable {M : Model} {A : Around} {E : Value → Shared → Prop} {s : Shared} {h₀ : Heap} {L q x : Addr} {m : Str → Option Value} {news : List (Addr × Obj)} {T id : String} {first : List Value} {env : Env} {pos : Pos} {Q : Value → Shared → Prop}

theorem keeps_B (hT : T = "builtin_function_or_method" ∨ T = "method-wrapper") (h : Heap) (X : BndP q T id x h) : ∃ k, (k = Keeper.frame ∨ k = Keeper.machine ∨ k = Keeper.boundFrame) ∧ Looks M h (keeperOf (.ref q)) k := by
  refine ⟨.machine, .inr (.inl rfl), (Looks.ld (part := none) X).andThen ?_⟩
  rcases hT with rfl | rfl <;> exact Looks.of_pure (by kernel_rfl)

theorem bndP {h : Heap} (N : News h₀ L h news) (hq : (q, boundO T id x) ∈ news) : BndP q T id x h := (N _ hq).1

theorem callWith_B {e : Expr} {rest : List Expr} (N : News h₀ L s.heap news) (hq : (q, boundO T id x) ∈ news) (hT : T = "builtin_function_or_method" ∨ T = "method-wrapper")
    (h : wpAny M A (spliced (backTo pos (starEach (e :: rest) env))) (fun vs s₁ => BndP q T id x s₁.heap ∧ wpAny M A (call (.ref q) (first ++ vs)) Q E s₁) E s)
    (he : starEach (e :: rest) env = (false, eval e env) :: starEach rest env := by rfl) (hplain : (backTo pos (starEach rest env)).any (·.1) = false := by rfl) :
    wpAny M A (callWith pos (.ref q) first (backTo pos (starEach (e :: rest) env)) []) Q E s := by
  have _ := N; have _ := hq
  rw [he] at h ⊢
  exact callWith_of (by show ((false || (backTo pos (starEach rest env)).any (·.1)) || false) = false; rw [hplain]; rfl) (keeps_B hT) (evalArgs_plain h)
end

section
variable {prog : Program} {w : World} {A : Around} {E : Value → Shared → Prop} {s : Shared} {K : Frag} {x dx C L q : Addr} {es : Array DictEntry} {ep : Nat} {kvs : List (Str × Value)} {k : Str} {t : Tok} {v : Value} {h₀ : Heap} {m : Str → Option Value} {news : List (Addr × Obj)} {od : Obj} {u : Obj → List (Addr × Obj)}

/-- the bound `dict.__setitem__` called -/
theorem pm_call_set {Q : Value → Shared → Prop} (X₀ : K.In h₀) (F : Fr h₀ L s.heap m) (N : News h₀ L s.heap news) (hq : (q, boundO "method-wrapper" "dict.__setitem__" x) ∈ news) (hx : (x, pmdO dx es ep) ∈ news) (hdx : (dx, od) ∈ news)
    (U : UpdF x (pmdO dx es ep) news u) (ho : mroIn K 166 (.type "collections.OrderedDict") = some false) (H : Ents w es kvs) (hsz : kvs.length ≤ sizeLine)
    (h : ∀ es' ep' h', Fr h₀ L h' m → News h₀ L h' (u (pmdO dx es' ep')) → Ents w es' (stored kvs k v) → Q .none { s with heap := h', toks := s.toks + 1 }) :
    wpAny (model prog w) A (call (.ref q) [.str k t, v]) Q E s := by
  have X := X₀.keeps F.keep
  have _ := hx
  obtain ⟨pre, post, rfl, hg, a, b⟩ := U.split
  have hm := N (x, pmdO dx es ep) (List.mem_append_right _ (.head _))
  have I : InstAt s.heap x (pmdO dx es ep) 166 (some od) := pm_inst N (List.mem_append_right _ (.head _)) hdx
  refine wpAny_call (codeAny_of_tree ?_)
  show wpAny _ _ (callAny (.ref q) _) _ _ _
  unfold callAny
  refine wpAny_bind (wpAny_load (N _ hq).1 ?_)
  show wpAny _ _ (checkBoundCall "dict.__setitem__" ⟨[.ref x, .str k t, v], []⟩ >>= fun _ => again (.builtin "dict.__setitem__" ⟨[.ref x, .str k t, v], []⟩)) _ _ _
  refine wpAny_bind (wpAny_of_eq (a := ()) ?_ ?_)
  · unfold checkBoundCall
    cases hsig : Manifest.signature? "dict.__setitem__" with
    | none => rfl
    | some sig =>
      simp only [k_setitem]
      exact ca_setitem sig hsig _ _ _
  refine wpAny_pure ⟨plainId_quiet pl_setitem _, codeAny_builtin entry_dict_setitem ?_⟩
  rw [Around.under_plainId pl_setitem _]
  show wpAny _ _ (Builtin.Dict.notOrdered "__setitem__" ⟨[.ref x, .str k t, v], []⟩ >>= _) _ _ _
  refine wpAny_bind (pm_notOrdered X I ho ?_)
  show wpAny _ _ (dictSet x (.str k t) v >>= _) _ _ _
  refine wpAny_bind (pm_dictSet hm.1 H hsz fun es' ep' h' ho' hs' H' => ?_)
  exact wpAny_pure (h es' ep' h' (F.change hs' hm.2.1 hm.2.2) (hg (pmdO dx es' ep') ▸ N.setIn a b hs' ho') H')
end
end Mine
/-! Pmd7 -/
namespace Mine

theorem ca_getitem_all (a b : Value) : (match Manifest.signature? "dict.__getitem__" with | some sig => Bind.checkArgs "dict.__getitem__" { sig with full := s!"{"ParserMetaDict"}.{Bind.lastOf "dict.__getitem__"}" } ⟨[a, b], []⟩ | none => pure ()) = pure () := by kernel_rfl
theorem ca_getitem (sig : Manifest.Signature) (h : Manifest.signature? "dict.__getitem__" = some sig) (a b : Value) : Bind.checkArgs "dict.__getitem__" { sig with full := s!"{"ParserMetaDict"}.{Bind.lastOf "dict.__getitem__"}" } ⟨[a, b], []⟩ = pure () := by
  have := ca_getitem_all a b
  rw [h] at this
  exact this

def namedIn (K : Frag) : Bool := (clsIn K 166).any fun cd => cd.qualname.toString == "ParserMetaDict"
section
variable {prog : Program} {w : World} {A : Around} {E : Value → Shared → Prop} {s : Shared} {K : Frag} {x dx C L q : Addr} {es : Array DictEntry} {ep : Nat} {kvs : List (Str × Value)} {k : Str} {t : Tok} {v : Value} {h₀ : Heap} {m : Str → Option Value} {news : List (Addr × Obj)} {od : Obj} {u : Obj → List (Addr × Obj)}

theorem pm_checkGet {Q : Unit → Shared → Prop} (X : K.In s.heap) (I : InstAt s.heap x (pmdO dx es ep) 166 (some od)) (hcd : namedIn K = true) (hmod : mroIn K 166 (.type "module") = some false)
    (hty : typeIn K (.ref 166) = some (.type "type")) (h : Q () s) : wpAny (model prog w) A (checkBoundCall "dict.__getitem__" ⟨[.ref x, .str k t], []⟩) Q E s := by
  obtain ⟨cd, hcd, hqn⟩ := any_some hcd
  have hqn : cd.qualname.toString = "ParserMetaDict" := by simpa using hqn
  obtain ⟨hh, g, d, tk, os⟩ := s
  have hnm : Looks (model prog w) hh (isInstance (.ref x) (.type "module")) false := I.type.andThen (looks_mroIn X hmod)
  have hT : Looks (model prog w) hh (typeOf (.ref x)) (.ref 166) := I.type
  have hC : Looks (model prog w) hh (classData 166) cd := looks_clsIn X hcd
  have hCT : Looks (model prog w) hh (typeOf (.ref 166)) (.type "type") := looks_typeIn X hty
  have hnc : ∀ c, (pmdO dx es ep).data ≠ .cls c := fun c e => by cases e
  unfold checkBoundCall
  cases hsig : Manifest.signature? "dict.__getitem__" with
  | none => exact wpAny_pure h
  | some sig =>
    simp only [k_getitem]
    rw [if_neg (by decide)]
    refine wpAny_bind (Looks.at hnm ?_)
    simp only [va_getitem, Bool.or_self, Bool.false_eq_true, if_false]
    refine wpAny_bind (ks_wpAny_isType_inst I.at_ hnc ?_)
    rw [if_neg (by decide)]
    refine wpAny_bind (Looks.at hT ?_)
    dsimp only
    refine wpAny_bind (Looks.at hC ?_)
    refine wpAny_bind (Looks.at hCT ?_)
    rw [if_pos (by decide)]
    rw [hqn]
    exact wpAny_of_eq (ca_getitem sig hsig _ _) h

theorem pm_enterGet {R : Result → Shared → Prop} (X : K.In s.heap) (I : InstAt s.heap x (pmdO dx es ep) 166 (some od)) (hq : s.heap.get? q = some (boundO "builtin_function_or_method" "dict.__getitem__" x)) (hcd : namedIn K = true) (hmod : mroIn K 166 (.type "module") = some false)
    (hty : typeIn K (.ref 166) = some (.type "type")) (H : Ents w es kvs)
    (h : wpAny (model prog w) A.in1 (match valueAt kvs k with | some v => ret v | none => (do match ← Builtin.Dict.missed x (.str k t) with
        | some v => ret v
        | none => do
          if (← typeOf (.ref x)) != .type "dict" then
            if let some r ← callSpecial? (.ref x) "__missing__" [.str k t] then rule "dict.__getitem__.missing-hook"; return ← ret r
          rule "dict.__getitem__.keyerror"
          raiseNew (← newExc (.type "KeyError") [.str k t]))) (fun fin s' => match fin with | .done f => R (.ok f) s' | .again c' => c'.quiet = true ∧ codeAny (model prog w) A c' R s') (fun e s' => R (.error e) s') { s with toks := s.toks + 1 }) :
    codeAny (model prog w) A (.call (.ref q) ⟨[.str k t], []⟩) R s := by
  refine codeAny_of_tree ?_
  show wpAny _ _ (callAny (.ref q) _) _ _ _
  unfold callAny
  refine wpAny_bind (wpAny_load hq ?_)
  show wpAny _ _ (checkBoundCall "dict.__getitem__" ⟨[.ref x, .str k t], []⟩ >>= fun _ => again (.builtin "dict.__getitem__" ⟨[.ref x, .str k t], []⟩)) _ _ _
  refine wpAny_bind (pm_checkGet X I hcd hmod hty ?_)
  refine wpAny_pure ⟨plainId_quiet pl_getitem _, codeAny_builtin entry_dict_getitem ?_⟩
  rw [Around.under_plainId pl_getitem _]
  show wpAny _ _ (dictGet x (.str k t) >>= _) _ _ _
  refine wpAny_bind (pm_dictGet I.at_ rfl H ?_)
  cases hv : valueAt kvs k with
  | some v => rw [hv] at h; exact h
  | none => rw [hv] at h; exact h

/-- the bound `dict.__getitem__` called, the key there -/
theorem pm_call_get {Q : Value → Shared → Prop} (X₀ : K.In h₀) (F : Fr h₀ L s.heap m) (N : News h₀ L s.heap news) (hq : (q, boundO "builtin_function_or_method" "dict.__getitem__" x) ∈ news) (hx : (x, pmdO dx es ep) ∈ news) (hdx : (dx, od) ∈ news)
    (hcd : namedIn K = true) (hmod : mroIn K 166 (.type "module") = some false) (hty : typeIn K (.ref 166) = some (.type "type")) (H : Ents w es kvs) (hv : valueAt kvs k = some v)
    (h : Q v { s with toks := s.toks + 1 }) : wpAny (model prog w) A (call (.ref q) [.str k t]) Q E s := by
  refine wpAny_call (pm_enterGet (K := K) (kvs := kvs) (X₀.keeps F.keep) (pm_inst N hx hdx) (N _ hq).1 hcd hmod hty H ?_)
  rw [hv]
  exact wpAny_pure h

/-- the bound `dict.__getitem__` called, the key not there -/
theorem pm_call_get_none {Q : Value → Shared → Prop} (hh : A.handled = none) (X₀ : K.In h₀) (F : Fr h₀ L s.heap m) (N : News h₀ L s.heap news) (hq : (q, boundO "builtin_function_or_method" "dict.__getitem__" x) ∈ news) (hx : (x, pmdO dx es ep) ∈ news) (hdx : (dx, od) ∈ news)
    (hcd : namedIn K = true) (hmod : mroIn K 166 (.type "module") = some false) (hty : typeIn K (.ref 166) = some (.type "type")) (hmis : findIn K (.ref 166) "__missing__" = some none) (lo : (x == sysModules) = false) (H : Ents w es kvs) (hv : valueAt kvs k = none)
    (h : ∀ h' e, Heap.NewExc s.heap h' e "KeyError" → E (.ref e) { s with heap := h', toks := s.toks + 1 }) : wpAny (model prog w) A (call (.ref q) [.str k t]) Q E s := by
  have X := X₀.keeps F.keep
  have I : InstAt s.heap x (pmdO dx es ep) 166 (some od) := pm_inst N hx hdx
  refine wpAny_call (pm_enterGet (K := K) (kvs := kvs) X I (N _ hq).1 hcd hmod hty H ?_)
  rw [hv]
  dsimp only
  refine wpAny_bind (wpAny_missed_other lo ?_)
  have hT : Looks (model prog w) s.heap (typeOf (.ref x)) (.ref 166) := I.type
  have hS : Looks (model prog w) s.heap (specialOf (.ref x) "__missing__") none := I.type.andThen (looks_findIn X hmis)
  refine wpAny_bind (Looks.at hT ?_)
  rw [if_pos (by decide)]
  unfold callSpecial?
  refine wpAny_bind (wpAny_bind (Looks.at hS (wpAny_pure ?_)))
  exact wpAny_bind (wpAny_rule (wpAny_raise_newExc (A := A.in1) plainExc_KeyError hh h))
end
end Mine
/-! Pmd8 -/
namespace Mine

theorem dn_kind : builtinKind "dict.__new__" = some .builtinFn := by decide +kernel
theorem dn_split : splitId "dict.__new__" = some ("dict", "__new__") := by decide +kernel
theorem dn_quiet : "dict.__new__".startsWith "lifetime." = false := by decide +kernel
theorem dn_plain : plainId "dict.__new__" = true := by decide +kernel
theorem dn_entry : entryFor table "dict.__new__" = some Builtin.«dict.__new__» := entryFor_of_tree (by kernel_rfl)
theorem dn_args : (match Manifest.signature? "dict.__new__" with | some sig => Bind.checkArgs "dict.__new__" sig ⟨[.ref 166], []⟩ | none => pure ()) = pure () := by kernel_rfl
theorem di_kind : builtinKind "dict.__init__" = some .slot := by decide +kernel
theorem di_split : splitId "dict.__init__" = some ("dict", "__init__") := by decide +kernel
theorem di_plain : plainId "dict.__init__" = true := by decide +kernel
theorem di_entry : entryFor table "dict.__init__" = some Builtin.«dict.__init__» := entryFor_of_tree (by kernel_rfl)
theorem di_args (a : Value) : argsOk "dict.__init__" ⟨[a], []⟩ := by unfold argsOk; kernel_rfl
theorem di_bind (self : Value) : bindSpecial (.builtin "dict.__init__") self = pure (.builtin "dict.__init__", [self]) :=
  (Slot.of (T := "dict") (name := "__init__") (owner := "dict") (n := "__init__") (by rw [typeLookup_type, builtinLookup_eq_fast]; kernel_rfl) (by decide +kernel) (by decide +kernel) (by decide +kernel)
    (.inl (by decide +kernel)) (by rw [isSubtype_type]; kernel_rfl)).bind self

def pmClsOk (K : Frag) : Bool := match K.lookup 166 with
  | some ⟨_, _, .cls cd, sl⟩ => !cd.abstract && !cd.hasDel && (sl.toList[4]?).join == some (.builtin "dict.__new__") && cd.mro == [.ref 166, .type "dict", .type "object"] &&
      specialIn K (.ref 166) "__call__" == some (some (.builtin "type.__call__")) && instIn K (.ref 166) (.type "type") == some true && findIn K (.ref 166) "__init__" == some (some (.builtin "dict.__init__"))
  | _ => false

section
variable {prog : Program} {w : World} {A : Around} {K : Frag} {R : Result → Shared → Prop} {h : Heap} {g : Array GenState} {d : Drawn} {t : Nat} {os : OsState}

structure PmCls (M : Model) (h : Heap) : Prop where
  obj : ∃ oc od cd sl, h.get? 166 = some ⟨oc, od, .cls cd, sl⟩ ∧ cd.abstract = false ∧ cd.hasDel = false ∧ cd.mro = [.ref 166, .type "dict", .type "object"]
  mro : Looks M h (mroOf (.ref 166)) [.ref 166, .type "dict", .type "object"]
  made : Looks M h (Bind.madeBy (.ref 166)) (some "dict.__new__")
  base : Looks M h (Bind.staticBase (.ref 166)) (.ref 166)
  self : Looks M h (isSubtype (.ref 166) (.ref 166)) true
  dict : Looks M h (isSubtype (.ref 166) (.type "dict")) true
  ordered : Looks M h (isSubtype (.ref 166) (.type "collections.OrderedDict")) false
  call : Looks M h (specialOf (.ref 166) "__call__") (some (.builtin "type.__call__"))
  typ : Looks M h (isInstance (.ref 166) (.type "type")) true
  init : Looks M h (typeLookup (.ref 166) "__init__") (some (.builtin "dict.__init__"))

theorem pmCls_of {M : Model} (X : K.In h) (e : pmClsOk K = true) : PmCls M h := by
  unfold pmClsOk at e
  split at e
  · rename_i oc od cd sl ho
    simp only [Bool.and_eq_true, Bool.not_eq_true', beq_iff_eq] at e
    obtain ⟨⟨⟨⟨⟨⟨e1, e2⟩, e3⟩, e4⟩, e5⟩, e6⟩, e7⟩ := e
    have hc : clsIn K 166 = some cd := by unfold clsIn; rw [ho]
    have hm : Looks M h (mroOf (.ref 166)) cd.mro := (looks_clsIn X hc).andThen .now
    rw [e4] at hm
    have sub : ∀ b r, ([Value.ref 166, .type "dict", .type "object"] : List Value).contains b = r → Looks M h (isSubtype (.ref 166) b) r := fun b r q => looks_mroIn X (by
      unfold mroIn; rw [hc, Option.bind_some, e4, if_neg (by decide), q])
    have made : Looks M h (Bind.madeBy (.ref 166)) (some "dict.__new__") := by
      intro A Q E s k q
      unfold Bind.madeBy
      refine wpAny_bind (hm A _ E s k ?_)
      rw [List.forIn_cons]
      refine wpAny_bind (wpAny_bind (wpAny_bind (wpAny_bind (wpAny_loadPart (k _ _ (X _ _ ho)) (wpAny_pure ?_)))))
      dsimp only
      rw [← Array.getElem?_toList, e3]
      exact wpAny_pure (wpAny_pure (wpAny_pure q))
    refine ⟨⟨oc, od, cd, sl, X _ _ ho, e1, e2, e4⟩, hm, made, ?_, sub _ _ (by decide +kernel), sub _ _ (by decide +kernel), sub _ _ (by decide +kernel), looks_specialIn X e5, looks_instIn X e6, looks_findIn X e7⟩
    intro A Q E s k q
    unfold Bind.staticBase
    refine wpAny_bind (hm A _ E s k ?_)
    rw [List.forIn_cons]
    exact wpAny_bind (wpAny_bind (wpAny_bind (made A _ E s k (wpAny_pure (wpAny_pure (wpAny_pure q))))))
  · cases e

theorem pm_new (Y : PmCls (model prog w) h) (hq : R (.ok (.ret (.ref (h.objs.size + 1)))) ⟨(h.push emptyDict).push (pmdO h.objs.size #[] 0), g, d, t, os⟩) :
    codeAny (model prog w) A (.call (.builtin "dict.__new__") ⟨[.ref 166], []⟩) R ⟨h, g, d, t, os⟩ := by
  obtain ⟨⟨oc, od, cd, sl, hC, e1, e2, e4⟩, hm, made, base, self, dict, ord, call, typ, init⟩ := Y
  refine codeAny_call_builtin dn_plain dn_entry ?_
  have hmade : Looks (model prog w) h (Bind.madeBy (.ref 166)) (some "dict.__new__") := made
  have here : wpAny (model prog w) A.in1 (checkBuiltinCall "dict.__new__" ⟨[.ref 166], []⟩) (fun _ s => s = ⟨h, g, d, t, os⟩) (fun _ _ => False) ⟨h, g, d, t, os⟩ := by
    unfold checkBuiltinCall
    simp only [dn_kind, dn_split]
    repeat (first | (rw [if_neg (by decide +kernel)]) | (rw [if_pos (by decide +kernel)]) | lk)
  refine wpAny_mono here (fun _ s' e => ?_) (fun _ _ e => e.elim)
  subst e
  unfold Builtin.«dict.__new__»
  repeat lk
  refine nd_load (Heap.get?_push_of_some _ (Heap.get?_push_of_some _ hC)) ?_
  refine nd_pure ?_
  show wpAny _ _ (pure cd.hasDel) _ _ _
  refine wpAny_pure ?_
  rw [e2, if_neg (by decide)]
  refine wpAny_pure (wpAny_pure ?_)
  show R _ _
  rw [Heap.size_push]
  exact hq

/-- `ParserMetaDict()` -/
theorem pm_make_code (Y : PmCls (model prog w) h) (hq : R (.ok (.ret (.ref (h.objs.size + 1)))) ⟨(h.push emptyDict).push (pmdO h.objs.size #[] 0), g, d, t, os⟩) :
    codeAny (model prog w) A (.call (.ref 166) ⟨[], []⟩) R ⟨h, g, d, t, os⟩ := by
  have Y' := Y
  obtain ⟨⟨oc, od, cd, sl, hC, e1, e2, e4⟩, hm, made, base, self, dict, ord, call, typ, init⟩ := Y
  refine codeAny_of_tree ?_
  show wpAny _ _ (callAny (.ref 166) _) _ _ _
  refine nd_load hC ?_
  show wpAny _ _ (callAny.viaDunder (.ref 166) _) _ _ _
  unfold callAny.viaDunder
  refine wpAny_bind (call.at ?_)
  dsimp only
  rw [tc_bind]
  refine wpAny_bind (wpAny_pure (wpAny_bind (wpAny_pure ?_)))
  refine wpAny_pure (a := Fin.again (.call (.builtin "type.__call__") ⟨[.ref 166], []⟩)) (And.intro rfl ?_)
  refine codeAny_call_builtin_at (Code.quiet_builtin _ (by decide +kernel)) entry_typeCall (check_slot tc_kind tc_split typ (tc_args _ _ _) ?_)
  unfold Builtin.«type.__call__»
  repeat (first | (rw [if_neg (by decide +kernel)]) | with_reducible refine wpAny_call ?_ | lk)
  refine pm_new Y' ?_
  have k : ∀ b o, h.get? b = some o → ((h.push emptyDict).push (pmdO h.objs.size #[] 0)).get? b = some o := fun b o e => Heap.get?_push_of_some _ (Heap.get?_push_of_some _ e)
  have hx : ((h.push emptyDict).push (pmdO h.objs.size #[] 0)).get? (h.objs.size + 1) = some (pmdO h.objs.size #[] 0) := by heap_get
  have t1 : Looks (model prog w) ((h.push emptyDict).push (pmdO h.objs.size #[] 0)) (typeOf (.ref (h.objs.size + 1))) (.ref 166) := (Looks.ld hx).andThen .now
  have s1 := self.keeps k
  have i1 := init.keeps k
  have d1 := dict.keeps k
  have o1 := ord.keeps k
  have hi : Looks (model prog w) ((h.push emptyDict).push (pmdO h.objs.size #[] 0)) (isInstance (.ref (h.objs.size + 1)) (.type "dict")) true := t1.andThen d1
  unfold isInstance callSpecial? specialOf
  repeat (first | (rw [di_bind]) | with_reducible refine wpAny_call ?_ | lk)
  refine codeAny_call_builtin di_plain di_entry ?_
  refine @check_slot (model prog w) _ _ _ "dict.__init__" "dict" "__init__" (.ref (h.objs.size + 1)) [] [] _ di_kind di_split hi (di_args _) ?_
  unfold Builtin.«dict.__init__»
  unfold isInstance at hi
  repeat (first | (rw [if_neg (by decide +kernel)]) | (rw [if_pos (by decide +kernel)]) | lk)
  exact hq
end

section
variable {prog : Program} {w : World} {A : Around} {E : Value → Shared → Prop} {s : Shared} {K : Frag} {x dx C L q so : Addr} {es : Array DictEntry} {ep : Nat} {h₀ : Heap} {m : Str → Option Value} {news : List (Addr × Obj)} {od : Obj}

theorem pm_make {Q : Value → Shared → Prop} (F : Fr h₀ L s.heap m) (X₀ : K.In h₀) (N : News h₀ L s.heap news) (hbig : h₀.NoLimit) (ok : pmClsOk K = true)
    (h : ∀ x dx h', Fr h₀ L h' m → News h₀ L h' ((x, pmdO dx #[] 0) :: (dx, emptyDict) :: news) → (∀ p ∈ news, p.1 < dx) → dx < x → (x == sysModules) = false → Q (.ref x) { s with heap := h' }) :
    wpAny (model prog w) A (call (.ref 166) [] []) Q E s := by
  obtain ⟨hh, g, d, t, os⟩ := s
  refine wpAny_call (pm_make_code (pmCls_of (X₀.keeps F.keep) ok) ?_)
  have F' := F.push emptyDict
  have N' := (N.push F emptyDict).push F' (pmdO hh.objs.size #[] 0)
  rw [Heap.size_push] at N'
  have hs := F'.notModules (modules_low hbig)
  rw [Heap.size_push] at hs
  exact h _ hh.objs.size _ (F'.push _) N' (fun p hp => Heap.lt_size (N p hp).1) (Nat.lt_succ_self _) hs

theorem pm_method_set {pl : Sem Bool} {Q : Value × List Value → Shared → Prop} (F : Fr h₀ L s.heap m) (X₀ : K.In h₀) (N : News h₀ L s.heap news) (hso : (so, ks_superObj 166 x 166) ∈ news) (hx : (x, pmdO dx es ep) ∈ news) (hdx : (dx, od) ∈ news)
    (ho : nsIn K cStatics "thirdparty.any" = some none) (ok : pmClsOk K = true) (hm : alongIn K "__setitem__" [.type "dict", .type "object"] = some (some (.builtin "dict.__setitem__")))
    (h : ∀ q h', Fr h₀ L h' m → News h₀ L h' ((q, boundO "method-wrapper" "dict.__setitem__" x) :: news) → (∀ p ∈ news, p.1 < q) → Q (.ref q, []) { s with heap := h', toks := s.toks + 1 }) :
    wpAny (model prog w) A (getMethod (.ref so) "__setitem__" pl) Q E s := by
  have X : K.In s.heap := X₀.keeps F.keep
  have I : InstAt s.heap x (pmdO dx es ep) 166 (some od) := pm_inst N hx hdx
  obtain ⟨hh, g, d, t, os⟩ := s
  have Y := pmCls_of (M := model prog w) X ok
  have hxC : x ≠ 166 := by
    rintro rfl
    obtain ⟨oc, od', cd, sl, hC, _⟩ := Y.obj
    have := I.at_
    rw [hC] at this
    cases this
  refine pm_getMethod_super (T := "method-wrapper") (gid := "wrapper_descriptor.__get__") (Dsc := "wrapper_descriptor") (N _ hso).1 (looks_opaque X ho) Y.mro (l := [.type "dict", .type "object"]) (by decide +kernel) X hm ty_setitem slot_wd_get.lookup
    (fun A tk Q E hq => wd_get (I.type.andThen Y.dict) hq) hxC (by decide) ?_
  obtain ⟨F', N', l'⟩ := ks_newsPush (s := ⟨hh, g, d, t, os⟩) (o := boundO "method-wrapper" "dict.__setitem__" x) F N rfl (Heap.get?_push_at rfl rfl) (fun b o e => Heap.get?_push_of_some _ e)
  exact h _ _ F' N' l'

theorem pm_method_get {pl : Sem Bool} {Q : Value × List Value → Shared → Prop} (F : Fr h₀ L s.heap m) (X₀ : K.In h₀) (N : News h₀ L s.heap news) (hso : (so, ks_superObj 166 x 166) ∈ news) (hx : (x, pmdO dx es ep) ∈ news) (hdx : (dx, od) ∈ news)
    (ho : nsIn K cStatics "thirdparty.any" = some none) (ok : pmClsOk K = true) (hm : alongIn K "__getitem__" [.type "dict", .type "object"] = some (some (.builtin "dict.__getitem__")))
    (h : ∀ q h', Fr h₀ L h' m → News h₀ L h' ((q, boundO "builtin_function_or_method" "dict.__getitem__" x) :: news) → (∀ p ∈ news, p.1 < q) → Q (.ref q, []) { s with heap := h', toks := s.toks + 1 }) :
    wpAny (model prog w) A (getMethod (.ref so) "__getitem__" pl) Q E s := by
  have X : K.In s.heap := X₀.keeps F.keep
  have I : InstAt s.heap x (pmdO dx es ep) 166 (some od) := pm_inst N hx hdx
  obtain ⟨hh, g, d, t, os⟩ := s
  have Y := pmCls_of (M := model prog w) X ok
  have hxC : x ≠ 166 := by
    rintro rfl
    obtain ⟨oc, od', cd, sl, hC, _⟩ := Y.obj
    have := I.at_
    rw [hC] at this
    cases this
  refine pm_getMethod_super (T := "builtin_function_or_method") (gid := "method_descriptor.__get__") (Dsc := "method_descriptor") (N _ hso).1 (looks_opaque X ho) Y.mro (l := [.type "dict", .type "object"]) (by decide +kernel) X hm ty_getitem slot_md_get.lookup
    (fun A tk Q E hq => md_get (I.type.andThen Y.dict) hq) hxC (by decide) ?_
  obtain ⟨F', N', l'⟩ := ks_newsPush (s := ⟨hh, g, d, t, os⟩) (o := boundO "builtin_function_or_method" "dict.__getitem__" x) F N rfl (Heap.get?_push_at rfl rfl) (fun b o e => Heap.get?_push_of_some _ e)
  exact h _ _ F' N' l'
end
end Mine
/-! Rules -/
namespace Mine
noncomputable abbrev VW : Program := Mine.hd.view_39
noncomputable abbrev LO : List Str := looseW Mine.hd.view_39 [Str.ofString "_name_aliases"]

section
variable {prog : Program} {w : World} {A : Around} {E : Value → Shared → Prop} {s : Shared} {K : Frag} {h₀ : Heap} {L x dx : Addr} {m : Str → Option Value} {news : List (Addr × Obj)} {od : Obj} {es : Array DictEntry} {ep : Nat} {kvs : List (Str × Value)} {k : Str} {t : Tok} {v : Value} {Q : Value → Shared → Prop}
theorem pm_notin_some (X₀ : K.In h₀) (F : Fr h₀ L s.heap m) (N : News h₀ L s.heap news) (hx : (x, pmdO dx es ep) ∈ news) (hdx : (dx, od) ∈ news) (hm : mroIn K 166 (.type "dict") = some true)
    (hc : findIn K (.ref 166) "__contains__" = some (some (.builtin "dict.__contains__"))) (lo : (x == sysModules) = false) (H : Ents w es kvs) (hv : valueAt kvs k = some v)
    (h : Q (.bool false) { s with toks := s.toks + 1 }) : wpAny (model prog w) A (compareOp .NotIn (.str k t) (.ref x)) Q E s :=
  pm_notin X₀ F (pm_inst N hx hdx) hm hc lo H (by rw [hv]; exact h)
theorem pm_notin_none (X₀ : K.In h₀) (F : Fr h₀ L s.heap m) (N : News h₀ L s.heap news) (hx : (x, pmdO dx es ep) ∈ news) (hdx : (dx, od) ∈ news) (hm : mroIn K 166 (.type "dict") = some true)
    (hc : findIn K (.ref 166) "__contains__" = some (some (.builtin "dict.__contains__"))) (lo : (x == sysModules) = false) (H : Ents w es kvs) (hv : valueAt kvs k = none)
    (h : Q (.bool true) { s with toks := s.toks + 1 }) : wpAny (model prog w) A (compareOp .NotIn (.str k t) (.ref x)) Q E s :=
  pm_notin X₀ F (pm_inst N hx hdx) hm hc lo H (by rw [hv]; exact h)
theorem pm_in_some (X₀ : K.In h₀) (F : Fr h₀ L s.heap m) (N : News h₀ L s.heap news) (hx : (x, pmdO dx es ep) ∈ news) (hdx : (dx, od) ∈ news) (hm : mroIn K 166 (.type "dict") = some true)
    (hc : findIn K (.ref 166) "__contains__" = some (some (.builtin "dict.__contains__"))) (lo : (x == sysModules) = false) (H : Ents w es kvs) (hv : valueAt kvs k = some v)
    (h : Q (.bool true) { s with toks := s.toks + 1 }) : wpAny (model prog w) A (compareOp .In (.str k t) (.ref x)) Q E s :=
  pm_in X₀ F (pm_inst N hx hdx) hm hc lo H (by rw [hv]; exact h)
theorem pm_in_none (X₀ : K.In h₀) (F : Fr h₀ L s.heap m) (N : News h₀ L s.heap news) (hx : (x, pmdO dx es ep) ∈ news) (hdx : (dx, od) ∈ news) (hm : mroIn K 166 (.type "dict") = some true)
    (hc : findIn K (.ref 166) "__contains__" = some (some (.builtin "dict.__contains__"))) (lo : (x == sysModules) = false) (H : Ents w es kvs) (hv : valueAt kvs k = none)
    (h : Q (.bool false) { s with toks := s.toks + 1 }) : wpAny (model prog w) A (compareOp .In (.str k t) (.ref x)) Q E s :=
  pm_in X₀ F (pm_inst N hx hdx) hm hc lo H (by rw [hv]; exact h)
end
end Mine
/-! HasAttr -/
namespace Mine
namespace HA
theorem kind_callable : builtinKind "callable" = none := by decide +kernel
theorem plain_callable : plainId "callable" = true := by decide +kernel
theorem entry_callable : entryFor table "callable" = some Builtin.«callable» := entryFor_of_tree (by kernel_rfl)
theorem args_callable (a : Value) : argsOk "callable" ⟨[a], []⟩ := by unfold argsOk; kernel_rfl
theorem kind_hasattr : builtinKind "hasattr" = none := by decide +kernel
theorem plain_hasattr : plainId "hasattr" = true := by decide +kernel
theorem entry_hasattr : entryFor table "hasattr" = some Builtin.«hasattr» := entryFor_of_tree (by kernel_rfl)
theorem args_hasattr (a b : Value) : argsOk "hasattr" ⟨[a, b], []⟩ := by unfold argsOk; kernel_rfl
theorem args_getattr3 (a b c : Value) : argsOk "getattr" ⟨[a, b, c], []⟩ := by unfold argsOk; kernel_rfl
theorem int_rules : typeLookup (.type "int") "rules" = pure none := am_miss_of_fast (by kernel_rfl)
theorem fn_rules : typeLookup (.type "function") "rules" = pure none := am_miss_of_fast (by kernel_rfl)
theorem int_call : typeLookup (.type "int") "__call__" = pure none := am_miss_of_fast (by kernel_rfl)
theorem fn_module : isSubtype (.type "function") (.type "module") = pure false := by rw [isSubtype_type]; kernel_rfl
theorem fn_getattr : typeLookup (.type "function") "__getattr__" = pure none := am_miss_of_fast (by kernel_rfl)
theorem slot_fn_ga : Slot "function" "__getattribute__" "object.__getattribute__" := .of (owner := "object") (n := "__getattribute__") (by rw [typeLookup_type, builtinLookup_eq_fast]; kernel_rfl) (by decide +kernel) (by decide +kernel) (by decide +kernel)
  (.inl (by decide +kernel)) (by rw [isSubtype_type]; kernel_rfl)
end HA

section
variable {prog : Program} {w : World} {A : Around} {E : Value → Shared → Prop} {s : Shared} {K : Frag} {h₀ : Heap} {L x C : Addr} {m : Str → Option Value} {ox od : Obj} {v : Value} {t : Tok} {Q : Value → Shared → Prop} {name : Str}

theorem callable_of {r : Option Value} (L : Looks (model prog w) s.heap (specialOf v "__call__") r) (h : Q (.bool r.isSome) s) : wpAny (model prog w) A (call (.builtin "callable") [v]) Q E s := by
  refine Calls.call_function_entry HA.kind_callable HA.plain_callable HA.entry_callable (HA.args_callable _) ?_
  unfold Builtin.«callable»
  refine wpAny_bind (wpAny_of_eq (a := v) (by first | rfl | kernel_rfl) ?_)
  exact wpAny_bind (L.here (wpAny_pure ⟨_, rfl, h⟩))

theorem ha_int_by {n : Int} {u : Tok} {Q : Option Value → Shared → Prop} (hA : A.handled = none) (h : ∀ h' tk, (∀ b o, s.heap.get? b = some o → h'.get? b = some o) → Q none { s with heap := h', toks := tk }) :
    wpAny (model prog w) A (getAttrBy? (.int n u) (.str "rules" t)) Q E s := by
  obtain ⟨hp, g, d, tk, os⟩ := s
  have hT : ∀ s' : Shared, s'.TypeIs (.int n u) "int" := fun _ => rfl
  have f1 := sub_AttributeError
  have f3 := PySem.F.slot_int_getattribute.lookup
  have f4 := PySem.F.slot_int_getattribute.bind (.int n u)
  have f5 := am_int_getattr_none
  unfold getAttrBy? getAttrBy
  repeat (any_goals (first | assumption | ((with_reducible show wpAny _ _ (call (Value.builtin "int.__getattribute__") _ _) _ _ _); refine call_meets PySem.F.slot_int_getattribute (hT _) am_entry_int_getattribute (PySem.F.args_int_getattribute_2 _ _) (meets_getattribute_miss_int n u "rules" _ HA.int_rules (by size_fits)) ⟨hA, fun h' tk' e hx => ?_⟩) | wp_step))
  obtain ⟨t', u', he⟩ := hx.there
  show wpAny _ _ (getattributeRaised _ _ _ _ _ _ _) _ _ _
  unfold getattributeRaised
  repeat (any_goals (first | assumption | wp_step))
  exact h _ _ hx.keeps

theorem ha_int {n : Int} {u : Tok} (hA : A.handled = none) (h : ∀ h' tk, (∀ b o, s.heap.get? b = some o → h'.get? b = some o) → Q (.bool false) { s with heap := h', toks := tk }) :
    wpAny (model prog w) A (call (.builtin "hasattr") [.int n u, .str "rules" t]) Q E s := by
  refine Calls.call_function_entry HA.kind_hasattr HA.plain_hasattr HA.entry_hasattr (HA.args_hasattr _ _) ?_
  have f1 := HA.int_rules
  unfold Builtin.«hasattr»
  refine wpAny_bind (wpAny_of_eq (a := [.int n u, .str "rules" t]) (by first | rfl | kernel_rfl) ?_)
  dsimp only
  refine wpAny_bind (wpAny_of_eq (a := ()) (by first | rfl | kernel_rfl) ?_)
  rw [if_neg (by intro e; exact nomatch (beq_iff_eq.mp e))]
  refine wpAny_bind (wpAny_of_eq (a := .type "int") rfl ?_)
  dsimp only
  refine wpAny_bind (wpAny_of_eq (a := some ("rules" : Str)) rfl ?_)
  dsimp only
  refine wpAny_bind (wpAny_of_eq f1 ?_)
  dsimp only
  refine wpAny_bind (wpAny_of_eq (a := 0) rfl ?_)
  rw [if_neg (by decide)]
  refine wpAny_bind (ha_int_by hA fun h' tk hk => ?_)
  rw [if_neg (by decide)]
  exact wpAny_pure ⟨_, rfl, h h' tk hk⟩

theorem meets_fn_miss (a : Addr) (fd : FuncData) (sl : Array (Option Value)) (u : Tok) :
    Meets (Builtin.«object.__getattribute__» ⟨[.ref a, .str "rules" u], []⟩) (fun A R s => s.heap.get? a = some { cls := .type "function", dict := none, data := .func fd, slots := sl } ∧ raisesAttr (.ref a) "rules" A R s) :=
  Meets.of_wp fun prog w A R s hs => by
    obtain ⟨hp, g, d, tk, os⟩ := s
    obtain ⟨hx, hs⟩ := hs
    have hT : (⟨hp, g, d, tk, os⟩ : Shared).TypeIs (.ref a) "function" := ⟨_, hx, rfl⟩
    have hm := HA.fn_rules
    unfold Builtin.«object.__getattribute__»
    repeat (any_goals (first | assumption | wp_step))
    exact wpAny_raiseAttrError hs.1 hs.2 (attrMsg_fits (by decide +kernel) (by size_fits))

theorem ha_fn_by {a : Addr} {fd : FuncData} {sl : Array (Option Value)} {Q : Option Value → Shared → Prop} (hx : s.heap.get? a = some { cls := .type "function", dict := none, data := .func fd, slots := sl }) (hA : A.handled = none)
    (h : ∀ h' tk, (∀ b o, s.heap.get? b = some o → h'.get? b = some o) → Q none { s with heap := h', toks := tk }) :
    wpAny (model prog w) A (getAttrBy? (.ref a) (.str "rules" t)) Q E s := by
  obtain ⟨hp, g, d, tk, os⟩ := s
  have hT : ∀ tk', (⟨hp, g, d, tk', os⟩ : Shared).TypeIs (.ref a) "function" := fun _ => ⟨_, hx, rfl⟩
  have f1 := sub_AttributeError
  have f3 := HA.slot_fn_ga.lookup
  have f4 := HA.slot_fn_ga.bind (.ref a)
  have f5 := HA.fn_getattr
  unfold getAttrBy? getAttrBy
  repeat (any_goals (first | assumption | exact hT _ | ((with_reducible show wpAny _ _ (call (Value.builtin "object.__getattribute__") _ _) _ _ _); refine call_meets HA.slot_fn_ga (hT _) PySem.F.entry_object_getattribute (PySem.F.args_object_getattribute_2 _ _) (meets_fn_miss a fd sl _) ⟨hx, hA, fun h' tk' e hx' => ?_⟩) | wp_step))
  obtain ⟨t', u', he⟩ := hx'.there
  show wpAny _ _ (getattributeRaised _ _ _ _ _ _ _) _ _ _
  unfold getattributeRaised
  repeat (any_goals (first | assumption | wp_step))
  exact h _ _ hx'.keeps

theorem ha_fn {a : Addr} {fd : FuncData} {sl : Array (Option Value)} (hx : s.heap.get? a = some { cls := .type "function", dict := none, data := .func fd, slots := sl }) (hA : A.handled = none)
    (h : ∀ h' tk, (∀ b o, s.heap.get? b = some o → h'.get? b = some o) → Q (.bool false) { s with heap := h', toks := tk }) :
    wpAny (model prog w) A (call (.builtin "hasattr") [.ref a, .str "rules" t]) Q E s := by
  refine Calls.call_function_entry HA.kind_hasattr HA.plain_hasattr HA.entry_hasattr (HA.args_hasattr _ _) ?_
  have f1 := HA.fn_rules
  have hT : Looks (model prog w) s.heap (typeOf (.ref a)) (.type "function") := (Looks.ld hx).andThen .now
  have hM : Looks (model prog w) s.heap (isInstance (.ref a) (.type "module")) false := hT.andThen (Looks.of_pure HA.fn_module)
  unfold Builtin.«hasattr»
  refine wpAny_bind (wpAny_of_eq (a := [.ref a, .str "rules" t]) (by first | rfl | kernel_rfl) ?_)
  dsimp only
  refine wpAny_bind (wpAny_of_eq (a := ()) (by first | rfl | kernel_rfl) ?_)
  rw [if_neg (by intro e; exact nomatch (beq_iff_eq.mp e))]
  refine wpAny_bind (hT.here ?_)
  dsimp only
  refine wpAny_bind (wpAny_of_eq (a := some ("rules" : Str)) rfl ?_)
  dsimp only
  refine wpAny_bind (wpAny_of_eq f1 ?_)
  dsimp only
  refine wpAny_bind (wpAny_bind (wpAny_of_eq (a := some ("rules" : Str)) rfl ?_))
  dsimp only
  refine wpAny_bind (hM.here ?_)
  rw [if_pos (by decide)]
  refine wpAny_pure ?_
  rw [if_neg (by decide)]
  refine wpAny_bind (ha_fn_by hx hA fun h' tk hk => ?_)
  rw [if_neg (by decide)]
  exact wpAny_pure ⟨_, rfl, h h' tk hk⟩

theorem ha_inst_by {Q : Option Value → Shared → Prop} (X : K.In s.heap) (I : InstAt s.heap x ox C (some od)) (hga : findIn K (.ref C) "__getattribute__" = some (some (.builtin "object.__getattribute__")))
    (hf : findObj K C (some od) name = some (.value v)) (hh : handedIn v = true) (h : Q (some v) s) : wpAny (model prog w) A (getAttrBy? (.ref x) (.str name t)) Q E s := by
  obtain ⟨hh', g, d, tk, os⟩ := s
  have L0 := I.type (M := model prog w)
  have L1 := looks_findIn (M := model prog w) X hga
  have L2 := looks_find (M := model prog w) X I hf
  unfold getAttrBy? getAttrBy
  refine wpAny_bind (wpAny_attempt ?_)
  refine wpAny_holding (wpAny_bind (L0.at (wpAny_bind (L1.at ?_))))
  show wpAny _ _ (getAttrEveryday _ _ _) _ _ _
  refine wpAny_bind (wpAny_onRaise (wpAny_runValue (codeAny_builtin PySem.F.plainObj_entry_getattr_hooked ?_)))
  refine wpAny_bind (wpAny_pure (wpAny_bind (L0.at (wpAny_bind (L2.at ?_)))))
  refine wpAny_pure ?_
  show wpAny _ _ (handedOut v) _ _ _
  rw [handedOut_of hh]
  exact wpAny_pure (wpAny_pure h)

theorem ha_inst (X₀ : K.In h₀) (F : Fr h₀ L s.heap m) (I : InstAt s.heap x ox C (some od)) (hg : plainGet K C name = true) (hm : mroIn K C (.type "module") = some false)
    (hf : findObj K C (some od) name = some (.value v)) (hh : handedIn v = true) (h : Q (.bool true) s) : wpAny (model prog w) A (call (.builtin "hasattr") [.ref x, .str name t]) Q E s := by
  have X := X₀.keeps F.keep
  refine Calls.call_function_entry HA.kind_hasattr HA.plain_hasattr HA.entry_hasattr (HA.args_hasattr _ _) ?_
  have hT : Looks (model prog w) s.heap (typeOf (.ref x)) (.ref C) := I.type
  have hM : Looks (model prog w) s.heap (isInstance (.ref x) (.type "module")) false := hT.andThen (looks_mroIn X hm)
  unfold Builtin.«hasattr»
  refine wpAny_bind (wpAny_of_eq (a := [.ref x, .str name t]) (by first | rfl | kernel_rfl) ?_)
  dsimp only
  refine wpAny_bind (wpAny_of_eq (a := ()) (by first | rfl | kernel_rfl) ?_)
  rw [if_neg (by intro e; exact nomatch (beq_iff_eq.mp e))]
  refine wpAny_bind (hT.here ?_)
  dsimp only
  refine wpAny_bind (wpAny_bind (wpAny_of_eq (a := some name) rfl ?_))
  dsimp only
  refine wpAny_bind (hM.here ?_)
  rw [if_pos (by decide)]
  refine wpAny_pure ?_
  rw [if_neg (by decide)]
  refine wpAny_bind (ha_inst_by X I (plainGet_of hg).1 hf hh ?_)
  rw [if_neg (by simp)]
  exact wpAny_pure ⟨_, rfl, h⟩

theorem getattr3_inst {dflt : Value} (X₀ : K.In h₀) (F : Fr h₀ L s.heap m) (I : InstAt s.heap x ox C (some od)) (hg : plainGet K C name = true) (hm : mroIn K C (.type "module") = some false) (hn : (name != ("get_source" : Str)) = true)
    (hf : findObj K C (some od) name = some (.value v)) (hh : handedIn v = true) (h : Q v s) : wpAny (model prog w) A (call (.builtin "getattr") [.ref x, .str name t, dflt]) Q E s := by
  have X := X₀.keeps F.keep
  refine Calls.call_function_entry KB.kind_getattr KB.plain_getattr KB.entry_getattr (HA.args_getattr3 _ _ _) ?_
  have hT : Looks (model prog w) s.heap (typeOf (.ref x)) (.ref C) := I.type
  have hM : Looks (model prog w) s.heap (isInstance (.ref x) (.type "module")) false := hT.andThen (looks_mroIn X hm)
  unfold Builtin.«getattr»
  refine wpAny_bind (wpAny_of_eq (a := [.ref x, .str name t, dflt]) (by first | rfl | kernel_rfl) ?_)
  dsimp only
  refine wpAny_bind (wpAny_of_eq (a := ()) (by first | rfl | kernel_rfl) ?_)
  refine wpAny_bind ?_
  show wpAny _ _ (if (name != ("get_source" : Str)) = true then pure none else _) _ _ _
  rw [if_pos hn]
  refine wpAny_pure ?_
  dsimp only
  refine wpAny_bind (wpAny_bind (wpAny_of_eq (a := some name) rfl ?_))
  dsimp only
  refine wpAny_bind (hM.here ?_)
  rw [if_pos (by decide)]
  refine wpAny_pure ?_
  rw [if_neg (by decide)]
  refine wpAny_bind (ha_inst_by X I (plainGet_of hg).1 hf hh ?_)
  exact wpAny_pure ⟨_, rfl, h⟩
end
end Mine
/-! HasAttrK -/
namespace Mine
section
variable {prog : Program} {w : World} {A : Around} {E : Value → Shared → Prop} {s : Shared} {K : Frag} {h₀ : Heap} {L x C dx a : Addr} {m : Str → Option Value} {ox od : Obj} {v : Value} {t : Tok} {Q : Value → Shared → Prop} {name : Str} {news : List (Addr × Obj)} {es : List DictEntry} {n : Nat}
theorem callable_int {i : Int} {ti : Tok} (h : Q (.bool false) s) : wpAny (model prog w) A (call (.builtin "callable") [.int i ti]) Q E s :=
  callable_of (r := none) (Looks.of_pure HA.int_call) h
theorem callable_K {f : Value} {r : Value} (X₀ : K.In h₀) (F : Fr h₀ L s.heap m) (e : specialIn K f "__call__" = some (some r)) (h : Q (.bool true) s) : wpAny (model prog w) A (call (.builtin "callable") [f]) Q E s :=
  callable_of (r := some r) (looks_specialIn (X₀.keeps F.keep) e) h
theorem callable_inst {r : Value} (X₀ : K.In h₀) (F : Fr h₀ L s.heap m) (I : InstAt s.heap x ox C (some od)) (e : findIn K (.ref C) "__call__" = some (some r)) (h : Q (.bool true) s) : wpAny (model prog w) A (call (.builtin "callable") [.ref x]) Q E s :=
  callable_of (r := some r) (I.type.andThen (looks_findIn (X₀.keeps F.keep) e)) h
theorem ha_intK {i : Int} {ti : Tok} (hA : A.handled = none) (F : Fr h₀ L s.heap m) (N : News h₀ L s.heap news) (h : ∀ h' tk, Fr h₀ L h' m → News h₀ L h' news → Q (.bool false) { s with heap := h', toks := tk }) :
    wpAny (model prog w) A (call (.builtin "hasattr") [.int i ti, .str "rules" t]) Q E s := ha_int hA fun h' tk k => h h' tk (F.keeps k) (News.grown N k)
theorem ha_fnK {fd : FuncData} {sl : Array (Option Value)} (hA : A.handled = none) (X₀ : K.In h₀) (F : Fr h₀ L s.heap m) (N : News h₀ L s.heap news) (e : K.lookup a = some { cls := .type "function", dict := none, data := .func fd, slots := sl })
    (h : ∀ h' tk, Fr h₀ L h' m → News h₀ L h' news → Q (.bool false) { s with heap := h', toks := tk }) :
    wpAny (model prog w) A (call (.builtin "hasattr") [.ref a, .str "rules" t]) Q E s := ha_fn ((X₀.keeps F.keep) _ _ e) hA fun h' tk k => h h' tk (F.keeps k) (News.grown N k)
theorem ha_instK {attr : Option Value} (X₀ : K.In h₀) (F : Fr h₀ L s.heap m) (I : InstAt s.heap x ox C (some (dictOf es n))) (hg : plainGet K C name = true) (hm : mroIn K C (.type "module") = some false) (hh : hasDictIn K C = true)
    (ha : findIn K (.ref C) name = some attr) (hn : noGet K attr = true) (hl : getL name es = some (some v)) (hv : handedIn v = true) (h : Q (.bool true) s) : wpAny (model prog w) A (call (.builtin "hasattr") [.ref x, .str name t]) Q E s :=
  ha_inst X₀ F I hg hm (findObj_own hh ha hn (by show lookIn name (dictOf es n) = _; rw [lookIn_dict, hl])) hv h
theorem getattr3_K {attr : Option Value} {dflt : Value} (X₀ : K.In h₀) (F : Fr h₀ L s.heap m) (I : InstAt s.heap x ox C (some (dictOf es n))) (hg : plainGet K C name = true) (hm : mroIn K C (.type "module") = some false) (hh : hasDictIn K C = true) (hs : (name != ("get_source" : Str)) = true)
    (ha : findIn K (.ref C) name = some attr) (hn : noGet K attr = true) (hl : getL name es = some (some v)) (hv : handedIn v = true) (h : Q v s) : wpAny (model prog w) A (call (.builtin "getattr") [.ref x, .str name t, dflt]) Q E s :=
  getattr3_inst X₀ F I hg hm hs (findObj_own hh ha hn (by show lookIn name (dictOf es n) = _; rw [lookIn_dict, hl])) hv h
end
end Mine
/-! Defs -/
namespace Mine
/-- the attribute dict of a RuleFunction -/
abbrev rfEs (P : Params) (t1 t2 t3 t4 t5 : Tok) (nm ru li nx : Value) : List DictEntry :=
  [⟨PyData.keyHash P "name", .str "name" t1, nm⟩, ⟨PyData.keyHash P "rules", .str "rules" t2, ru⟩, ⟨PyData.keyHash P "lineno", .str "lineno" t3, li⟩,
   ⟨PyData.keyHash P "func", .str "func" t4, .none⟩, ⟨PyData.keyHash P "next_func", .str "next_func" t5, nx⟩]
end Mine
/-! ZipR -/
namespace Mine
section
variable {prog : Program} {w : World} {A : Around} {E : Value → Shared → Prop} {s : Shared}
theorem nextOf_range {it : Addr} {x left step : Int} {Q : Value → Shared → Prop} (hit : IsRangeIter s.heap it x left step) (hleft : 0 < left)
    (hQ : ∀ h', IsRangeIter h' it (x + step) (left - 1) step → Heap.SameBut it s.heap h' → Q (.int x s.toks) { s with heap := h', toks := s.toks + 1 }) :
    wpAny (model prog w) A (Builtin.SmallTypes.nextOf (.ref it)) Q E s := by
  have hT : s.TypeIs (.ref it) "range_iterator" := ⟨_, hit, rfl⟩
  unfold Builtin.SmallTypes.nextOf
  refine wpAny_bind (wpAny_callSpecial?_slot (name := Str.ofString "__next__") hT F.slot_range_iterator_next
    (call_meets F.slot_range_iterator_next hT F.entry_range_iterator_next (F.args_range_iterator_next_1 _) (AutoRange.range_iterator___next___range_iterator_1 it x left step (by omega)) ⟨hit, ?_⟩))
  exact wpAny_pure (hQ _ (Heap.get?_update_self _ (Heap.get?_update_self _ hit rfl) rfl) ((Heap.SameBut.update ..).trans (Heap.SameBut.update ..)))

/-- a zip of a list of one item and of a falling range, between two turns -/
structure ZSt (I l1 : Nat) (x : Value) (y0 : Int) (i : Nat) (h : Heap) : Prop where
  z : IsZip h (I + 4) (I + 2) (I + 3) .none
  ti : IsPair h (I + 2) (.ref I) (.ref (I + 1))
  to : ∃ a b, IsPair h (I + 3) a b
  i1 : h.IsListIter I l1 i
  l1 : h.IsList l1 #[x]
  i2 : ∃ y lf, IsRangeIter h (I + 1) y lf (-1) ∧ (i = 0 → y = y0 ∧ 0 < lf)

theorem zr_item {I l1 : Nat} {x : Value} {y0 : Int} {Q : Value → Shared → Prop} (hl : l1 < I) (S : ZSt I l1 x y0 0 s.heap)
    (hQ : ∀ h' (T : Addr) t tk, IsZip h' (I + 4) (I + 2) (I + 3) (rawInt T) → IsPair h' (I + 2) (.ref I) (.ref (I + 1)) → (∃ a b, IsPair h' (I + 3) a b) → h'.IsListIter I l1 1 → h'.IsList l1 #[x] → (∃ y lf, IsRangeIter h' (I + 1) y lf (-1)) →
      IsPair h' T x (.int y0 t) → @LT.lt Nat _ (I + 4) T → (∀ c o, c ≠ I + 4 → c ≠ I + 3 → c ≠ I → c ≠ I + 1 → s.heap.get? c = some o → h'.get? c = some o) → Q (.ref T) { s with heap := h', toks := tk }) :
    wpAny (model prog w) A (Builtin.«zip.__next__» ⟨[.ref (I + 4)], []⟩) (fun fin s' => ∃ v, fin = .done (.ret v) ∧ Q v s') E s := by
  obtain ⟨hz, hTI, ⟨a, b, hTO⟩, h1, hl1, ⟨y, lf, h2, hy⟩⟩ := S
  obtain ⟨rfl, hlf⟩ := hy rfl
  have n1 : (I : Nat) ≠ I + 4 := by omega
  have n2 : (I + 1 : Nat) ≠ I + 4 := by omega
  have n3 : (I + 3 : Nat) ≠ I + 4 := by omega
  have n4 : (I + 3 : Nat) ≠ I := by omega
  have n5 : (I + 3 : Nat) ≠ I + 1 := by omega
  have n6 : (I + 1 : Nat) ≠ I := by omega
  have n7 : (I + 2 : Nat) ≠ I + 4 := by omega
  have n8 : (I + 2 : Nat) ≠ I + 3 := by omega
  have n9 : (I + 2 : Nat) ≠ I := by omega
  have n10 : (I + 2 : Nat) ≠ I + 1 := by omega
  have m1 : (l1 : Nat) ≠ I + 4 := by omega
  have m2 : (l1 : Nat) ≠ I + 3 := by omega
  have m3 : (l1 : Nat) ≠ I := by omega
  have m4 : (l1 : Nat) ≠ I + 1 := by omega
  show wpAny _ _ (field (.ref (I + 4)) 2 >>= _) _ _ _
  refine wpAny_bind (wpAny_field hz rfl (x := .bool false) rfl ?_)
  show wpAny _ _ (field (.ref (I + 4)) 3 >>= _) _ _ _
  refine wpAny_bind (wpAny_field hz rfl (x := .ref (I + 2)) rfl ?_)
  refine wpAny_bind (wpAny_seqItems hTI rfl ?_)
  show wpAny _ _ (Builtin.SmallTypes.ownedTupleIsFree (.ref (I + 4)) >>= _) _ _ _
  refine wpAny_bind ?_
  unfold Builtin.SmallTypes.ownedTupleIsFree
  refine wpAny_bind (wpAny_field hz rfl (x := .none) rfl (wpAny_pure ?_))
  simp only [if_true]
  refine wpAny_bind (wpAny_rule ?_)
  refine wpAny_bind (wpAny_field hz rfl (x := .ref (I + 3)) rfl ?_)
  refine wpAny_bind (wpAny_setField_rec hz (by simp) fun h₁ hz₁ hs₁ => ?_)
  replace hz₁ : IsZip h₁ (I + 4) (I + 2) (I + 3) .ellipsis := hz₁
  refine wpAny_bind ?_
  simp only [List.zipIdx_cons, List.zipIdx_nil, List.forIn_cons, List.forIn_nil]
  refine wpAny_bind (wpAny_bind (wpAny_onRaise ?_))
  show wpAny _ _ (Builtin.SmallTypes.nextOf (.ref I) >>= _) _ _ _
  refine wpAny_bind (wpAny_nextOf_list_item (x := x) (h1.extBut hs₁.extBut n1) (hl1.extBut hs₁.extBut m1) rfl fun h₂ h1₂ hs₂ => wpAny_pure ?_)
  have hTO₂ : IsPair h₂ (I + 3) a b := hs₂.extBut _ _ n4 (hs₁.extBut _ _ n3 hTO)
  refine wpAny_bind (wpAny_seqItems hTO₂ rfl ?_)
  refine wpAny_bind (wpAny_updateSeq_pair hTO₂ fun h₃ hTO₃ hs₃ => ?_)
  replace hTO₃ : IsPair h₃ (I + 3) x b := hTO₃
  refine wpAny_bind (wpAny_letGo (wpAny_pure ?_))
  refine wpAny_bind (wpAny_bind (wpAny_onRaise ?_))
  show wpAny _ _ (Builtin.SmallTypes.nextOf (.ref (I + 1)) >>= _) _ _ _
  have h2₃ : IsRangeIter h₃ (I + 1) y lf (-1) := hs₃.extBut _ _ n5.symm (hs₂.extBut _ _ n6 (hs₁.extBut _ _ n2 h2))
  refine wpAny_bind (nextOf_range h2₃ hlf fun h₄ h2₄ hs₄ => wpAny_pure ?_)
  have hTO₄ : IsPair h₄ (I + 3) x b := hs₄.extBut _ _ n5 hTO₃
  refine wpAny_bind (wpAny_seqItems hTO₄ rfl ?_)
  refine wpAny_bind (wpAny_updateSeq_pair hTO₄ fun h₅ hTO₅ hs₅ => ?_)
  replace hTO₅ : IsPair h₅ (I + 3) x (.int y s.toks) := hTO₅
  refine wpAny_bind (wpAny_letGo (wpAny_pure (wpAny_pure ?_)))
  refine wpAny_bind (wpAny_seqItems hTO₅ rfl ?_)
  refine wpAny_bind (wpAny_newTuple ?_)
  have hk₅ : ∀ c o, c ≠ I + 4 → c ≠ I + 3 → c ≠ I → c ≠ I + 1 → s.heap.get? c = some o → h₅.get? c = some o := fun c o c1 c2 c3 c4 e =>
    hs₅.extBut _ _ c2 (hs₄.extBut _ _ c4 (hs₃.extBut _ _ c2 (hs₂.extBut _ _ c3 (hs₁.extBut _ _ c1 e))))
  have hz₅ : IsZip h₅ (I + 4) (I + 2) (I + 3) .ellipsis := hs₅.extBut _ _ n3.symm (hs₄.extBut _ _ n2.symm (hs₃.extBut _ _ n3.symm (hs₂.extBut _ _ n1.symm hz₁)))
  have h1₅ : h₅.IsListIter I l1 1 := ((h1₂.extBut hs₃.extBut n4.symm).extBut hs₄.extBut n6.symm).extBut hs₅.extBut n4.symm
  have h2₅ : IsRangeIter h₅ (I + 1) (y + -1) (lf - 1) (-1) := hs₅.extBut _ _ n5.symm h2₄
  have hzlt : (I + 4 : Nat) < h₅.objs.size := Heap.lt_size hz₅
  show wpAny _ _ (Builtin.SmallTypes.ownedTupleHandOut (.ref (I + 4)) (.ref h₅.objs.size) >>= _) _ _ _
  refine wpAny_bind ?_
  unfold Builtin.SmallTypes.ownedTupleHandOut
  have hz₆ : IsZip (h₅.push { cls := .type "tuple", data := .seq #[x, .int y s.toks] }) (I + 4) (I + 2) (I + 3) .ellipsis := Heap.get?_push_of_some _ hz₅
  refine wpAny_bind (wpAny_setField_rec hz₆ (by simp) fun h₇ hz₇ hs₇ => ?_)
  replace hz₇ : IsZip h₇ (I + 4) (I + 2) (I + 3) (rawInt h₅.objs.size) := hz₇
  refine wpAny_setField_rec hz₇ (by simp) fun h₈ hz₈ hs₈ => ?_
  replace hz₈ : IsZip h₈ (I + 4) (I + 2) (I + 3) (rawInt h₅.objs.size) := hz₈
  have up : ∀ c o, c ≠ I + 4 → h₅.get? c = some o → h₈.get? c = some o := fun c o c1 e => hs₈.extBut _ _ c1 (hs₇.extBut _ _ c1 (Heap.get?_push_of_some _ e))
  have hT₈ : IsPair h₈ h₅.objs.size x (.int y s.toks) := hs₈.extBut _ _ (Nat.ne_of_gt hzlt) (hs₇.extBut _ _ (Nat.ne_of_gt hzlt) (Heap.get?_push_size _ rfl))
  refine wpAny_pure ⟨_, rfl, ?_⟩
  exact hQ h₈ h₅.objs.size s.toks _ hz₈ (up _ _ n7 (hk₅ _ _ n7 n8 n9 n10 hTI)) ⟨_, _, up _ _ n3 hTO₅⟩ (h1₅.at fun o e => up _ o n1 e) (hl1.at fun o e => up _ o m1 (hk₅ _ o m1 m2 m3 m4 e)) ⟨_, _, up _ _ n2 h2₅⟩ hT₈ hzlt
    fun c o c1 c2 c3 c4 e => up c o c1 (hk₅ c o c1 c2 c3 c4 e)

theorem zr_end {I l1 : Nat} {x : Value} {y0 : Int} {Q : Fin → Shared → Prop} (hh : A.handled = none) (hl : l1 < I) (S : ZSt I l1 x y0 1 s.heap)
    (hE : ∀ h' e, (∀ c o, c ≠ I + 4 → c ≠ I + 3 → c ≠ I → c ≠ I + 1 → s.heap.get? c = some o → h'.get? c = some o) → (∃ o, h'.get? e = some o ∧ o.cls = .type "StopIteration") → E (.ref e) { s with heap := h' }) :
    wpAny (model prog w) A (Builtin.«zip.__next__» ⟨[.ref (I + 4)], []⟩) Q E s := by
  obtain ⟨hz, hTI, ⟨a, b, hTO⟩, h1, hl1, _⟩ := S
  have n1 : (I : Nat) ≠ I + 4 := by omega
  have m1 : (l1 : Nat) ≠ I + 4 := by omega
  show wpAny _ _ (field (.ref (I + 4)) 2 >>= _) _ _ _
  refine wpAny_bind (wpAny_field hz rfl (x := .bool false) rfl ?_)
  show wpAny _ _ (field (.ref (I + 4)) 3 >>= _) _ _ _
  refine wpAny_bind (wpAny_field hz rfl (x := .ref (I + 2)) rfl ?_)
  refine wpAny_bind (wpAny_seqItems hTI rfl ?_)
  show wpAny _ _ (Builtin.SmallTypes.ownedTupleIsFree (.ref (I + 4)) >>= _) _ _ _
  refine wpAny_bind ?_
  unfold Builtin.SmallTypes.ownedTupleIsFree
  refine wpAny_bind (wpAny_field hz rfl (x := .none) rfl (wpAny_pure ?_))
  simp only [if_true]
  refine wpAny_bind (wpAny_rule ?_)
  refine wpAny_bind (wpAny_field hz rfl (x := .ref (I + 3)) rfl ?_)
  refine wpAny_bind (wpAny_setField_rec hz (by simp) fun h₁ hz₁ hs₁ => ?_)
  replace hz₁ : IsZip h₁ (I + 4) (I + 2) (I + 3) .ellipsis := hz₁
  refine wpAny_bind ?_
  simp only [List.zipIdx_cons, List.zipIdx_nil, List.forIn_cons, List.forIn_nil]
  refine wpAny_bind (wpAny_bind (wpAny_onRaise ?_))
  show wpAny _ _ (Builtin.SmallTypes.nextOf (.ref I) >>= _) _ _ _
  refine wpAny_bind (wpAny_nextOf_list_end hh (h1.extBut hs₁.extBut n1) (hl1.extBut hs₁.extBut m1) rfl fun h₂ e hs₂ he => ?_)
  obtain ⟨oe, hoe, hce⟩ := he
  have hz₂ : IsZip h₂ (I + 4) (I + 2) (I + 3) .ellipsis := hs₂ _ _ n1.symm hz₁
  have hez : e ≠ I + 4 := fun x => by rw [x, hz₂] at hoe; cases hoe; simp at hce
  refine wpAny_setField_rec hz₂ (by simp) fun h₃ _ hs₃ => hE h₃ e (fun c o c1 _ c3 _ x => hs₃.extBut _ _ c1 (hs₂ _ _ c3 (hs₁.extBut _ _ c1 x))) ⟨oe, hs₃.extBut _ _ hez hoe, hce⟩

theorem zr_turns {elts : List Expr} {k : Nat} {pos : Pos} {I l1 : Nat} {x : Value} {y0 : Int} (hh : A.handled = none) (hl : l1 < I) :
    KTurns prog w A (.Tuple elts k pos) (I + 4) [I + 4, I + 2, I + 3, I, I + 1, l1] [I + 4, I + 3, I, I + 1] 1 (fun _ v h => ∃ T t, v = .ref T ∧ IsPair h T x (.int y0 t) ∧ @LT.lt Nat _ (I + 4) T)
      (fun i v h => i = 0 ∧ ∃ T t, v = .ref T ∧ IsPair h T x (.int y0 t) ∧ @LT.lt Nat _ (I + 4) T ∧ IsZip h (I + 4) (I + 2) (I + 3) (rawInt T) ∧ IsPair h (I + 2) (.ref I) (.ref (I + 1)) ∧ (∃ a b, IsPair h (I + 3) a b) ∧ h.IsListIter I l1 1 ∧ h.IsList l1 #[x] ∧ ∃ y lf, IsRangeIter h (I + 1) y lf (-1))
      (fun i h => ZSt I l1 x y0 i h) where
  sub := fun c hc => by simp at hc ⊢; rcases hc with rfl | rfl | rfl | rfl <;> simp
  frame := fun i h h' S hk => by
    obtain ⟨hz, hTI, ⟨a, b, hTO⟩, h1, hl1, ⟨y, lf, h2, hy⟩⟩ := S
    exact ⟨hk _ (by simp) _ hz, hk _ (by simp) _ hTI, ⟨a, b, hk _ (by simp) _ hTO⟩, h1.at fun o e => hk _ (by simp) o e, hl1.at fun o e => hk _ (by simp) o e, ⟨y, lf, hk _ (by simp) _ h2, hy⟩⟩
  item := fun i s Q E hi S hQ => by
    obtain rfl : i = 0 := by omega
    have hT : s.TypeIs (.ref (I + 4)) "zip" := ⟨_, S.z, rfl⟩
    unfold pyNext
    refine wpAny_bind (wpAny_attempt (wpAny_callSpecial?_slot (name := Str.ofString "__next__") hT F.slot_zip_next
      (wpAny_call_entry F.slot_zip_next hT F.entry_zip_next
        (zr_item hl S fun h' T t tk a1 a2 a3 a4 a5 a6 a7 a8 hk => wpAny_pure (hQ (.ref T) h' tk ⟨rfl, T, t, rfl, a7, a8, a1, a2, a3, a4, a5, a6⟩ fun c o hc e => hk c o (fun x => hc (by simp [x])) (fun x => hc (by simp [x])) (fun x => hc (by simp [x])) (fun x => hc (by simp [x])) e)) (F.args_zip_next_1 _))))
  go := fun i v s Q E hm hQ => by
    obtain ⟨rfl, T, t, rfl, a7, a8, a1, a2, ⟨a, b, a3⟩, a4, a5, ⟨y, lf, a6⟩⟩ := hm
    have e1 : (I + 2 : Nat) ≠ I + 4 := by omega
    have e2 : (I + 3 : Nat) ≠ I + 4 := by omega
    have e3 : (I : Nat) ≠ I + 4 := by omega
    have e4 : (l1 : Nat) ≠ I + 4 := by omega
    have e5 : (I + 1 : Nat) ≠ I + 4 := by omega
    have e6 : @Ne Nat T (I + 4) := Nat.ne_of_gt a8
    refine wpAny_letOwnedTupleGo_zip a1 fun h' hz' hs' => hQ h' ⟨T, t, rfl, hs'.extBut _ _ e6 a7, a8⟩
      ⟨hz', hs'.extBut _ _ e1 a2, ⟨a, b, hs'.extBut _ _ e2 a3⟩, a4.extBut hs'.extBut e3, a5.extBut hs'.extBut e4, ⟨y, lf, hs'.extBut _ _ e5 a6, fun q => absurd q (by decide)⟩⟩ fun c o hc e => hs'.extBut _ _ (fun x => hc (by simp [x])) e
  done := fun s Q E S hQ => by
    have hT : s.TypeIs (.ref (I + 4)) "zip" := ⟨_, S.z, rfl⟩
    unfold pyNext
    refine wpAny_bind (wpAny_attempt (wpAny_callSpecial?_slot (name := Str.ofString "__next__") hT F.slot_zip_next
      (wpAny_call_entry F.slot_zip_next hT F.entry_zip_next (zr_end hh hl S fun h' e hk he => ?_) (F.args_zip_next_1 _))))
    obtain ⟨o, ho, hc⟩ := he
    refine wpAny_bind (wpAny_isInstance (T := "StopIteration") (b := true) ⟨o, ho, hc⟩ isSubtype_stop ?_)
    exact wpAny_pure (hQ _ _ fun c o hc e => hk c o (fun x => hc (by simp [x])) (fun x => hc (by simp [x])) (fun x => hc (by simp [x])) (fun x => hc (by simp [x])) e)
end
end Mine
/-! ZipR2 -/
namespace Mine
abbrev zrH1 (h : Heap) (l1 : Addr) : Heap := h.push { cls := .type "list_iterator", data := .fields #[.ref l1, .int 0 0] }
abbrev zrH2 (h : Heap) (l1 : Addr) (a b c : Int) : Heap := (zrH1 h l1).push { cls := .type "range_iterator", data := .fields #[rawInt a, rawInt (Builtin.Range.rangeSize a b c), rawInt c] }
abbrev zrH3 (h : Heap) (l1 : Addr) (a b c : Int) : Heap := (zrH2 h l1 a b c).push { cls := .type "tuple", data := .seq #[.ref h.objs.size, .ref (zrH1 h l1).objs.size] }
abbrev zrH4 (h : Heap) (l1 : Addr) (a b c : Int) : Heap := (zrH3 h l1 a b c).push { cls := .type "tuple", data := .seq #[.none, .none] }
abbrev zrH5 (h : Heap) (l1 : Addr) (a b c : Int) : Heap := (zrH4 h l1 a b c).push { cls := .type "zip", data := .fields #[.none, .bool false, .bool false, .ref (zrH2 h l1 a b c).objs.size, .ref (zrH3 h l1 a b c).objs.size] }
theorem zr_new (l1 r : Addr) (xs : Array Value) (a b c : Int) (t u v : Tok) (hsm : Builtin.Range.small a b c = true) :
    Meets (Builtin.«zip.__new__» ⟨[.type "zip", .ref l1, .ref r], []⟩) (fun _ R s => s.heap.IsList l1 xs ∧ IsRange s.heap r a b c t u v ∧
      R (.ok (.ret (.ref (zrH4 s.heap l1 a b c).objs.size))) { s with heap := zrH5 s.heap l1 a b c }) :=
  .of_wp fun prog w A R s h => by
    obtain ⟨hp, g, d, tk, os⟩ := s; obtain ⟨hl1, hr, h⟩ := h
    have hsub := sub_zip
    have hL1 : Heap.IsList (Shared.heap ⟨hp, g, d, tk, os⟩) l1 xs := hl1
    have hR2 : IsRange (Shared.heap ⟨hp.push { cls := .type "list_iterator", data := .fields #[.ref l1, .int 0 0] }, g, d, tk, os⟩) r a b c t u v := Heap.get?_push_of_some _ hr
    wp_walk using wpAny_pyIter_list hL1, wpAny_pyIter_range hR2 hsm
    exact ⟨_, rfl, h⟩
section
variable {prog : Program} {w : World} {A : Around} {E : Value → Shared → Prop} {s : Shared}
theorem zr_call {l1 r : Addr} {x : Value} {a b : Int} {t u v : Tok} {Q : Value → Shared → Prop} (hl1 : s.heap.IsList l1 #[x]) (hr : IsRange s.heap r a b (-1) t u v) (hsm : Builtin.Range.small a b (-1) = true) (hpos : 0 < Builtin.Range.rangeSize a b (-1))
    (h : ∀ h', ZSt s.heap.objs.size l1 x a 0 h' → (∀ c o, s.heap.get? c = some o → h'.get? c = some o) → Q (.ref (s.heap.objs.size + 4)) { s with heap := h' }) :
    wpAny (model prog w) A (call (.type "zip") [.ref l1, .ref r]) Q E s := by
  refine callType_new F.called_zip (by decide) (F.typeCall_zip_2 _ _) (F.newCall_zip_2 _ _) (fun obj => F.args_object_init_3 obj _ _) F.entry_zip_new
    (zr_new l1 r #[x] a b (-1) t u v hsm) ⟨hl1, hr, ?_⟩
  have z1 : (zrH1 s.heap l1).objs.size = s.heap.objs.size + 1 := Heap.size_push ..
  have z2 : (zrH2 s.heap l1 a b (-1)).objs.size = s.heap.objs.size + 2 := by rw [Heap.size_push, z1]
  have z3 : (zrH3 s.heap l1 a b (-1)).objs.size = s.heap.objs.size + 3 := by rw [Heap.size_push, z2]
  have z4 : (zrH4 s.heap l1 a b (-1)).objs.size = s.heap.objs.size + 4 := by rw [Heap.size_push, z3]
  have g5 : (zrH5 s.heap l1 a b (-1)).get? (zrH4 s.heap l1 a b (-1)).objs.size = some _ := Heap.get?_push_size _ rfl
  have g4 : (zrH5 s.heap l1 a b (-1)).get? (zrH3 s.heap l1 a b (-1)).objs.size = some _ := Heap.get?_push_of_some _ (Heap.get?_push_size _ rfl)
  have g3 : (zrH5 s.heap l1 a b (-1)).get? (zrH2 s.heap l1 a b (-1)).objs.size = some _ := Heap.get?_push_of_some _ (Heap.get?_push_of_some _ (Heap.get?_push_size _ rfl))
  have g2 : (zrH5 s.heap l1 a b (-1)).get? (zrH1 s.heap l1).objs.size = some _ := Heap.get?_push_of_some _ (Heap.get?_push_of_some _ (Heap.get?_push_of_some _ (Heap.get?_push_size _ rfl)))
  have g1 : (zrH5 s.heap l1 a b (-1)).get? s.heap.objs.size = some _ := Heap.get?_push_of_some _ (Heap.get?_push_of_some _ (Heap.get?_push_of_some _ (Heap.get?_push_of_some _ (Heap.get?_push_size _ rfl))))
  have up : ∀ c o, s.heap.get? c = some o → (zrH5 s.heap l1 a b (-1)).get? c = some o := fun c o x =>
    Heap.get?_push_of_some _ (Heap.get?_push_of_some _ (Heap.get?_push_of_some _ (Heap.get?_push_of_some _ (Heap.get?_push_of_some _ x))))
  show _ ∧ _
  rw [z2, z3, z4] at g5
  rw [z1, z2] at g3
  rw [z3] at g4
  rw [z1] at g2
  rw [z4]
  exact ⟨⟨_, g5, rfl⟩, h _ ⟨g5, g3, ⟨_, _, g4⟩, ⟨_, g1, rfl, rfl⟩, hl1.at fun o e => up _ o e, ⟨_, _, g2, fun _ => ⟨rfl, hpos⟩⟩⟩ up⟩

/-- what the one turn leaves -/
def OnceEnd (h₀ : Heap) (L : Addr) (s : Shared) (own : List (Addr × Obj)) (need : Addr × Obj) (Q : Flow → Shared → Prop) (f : Flow) (s₄ : Shared) : Prop :=
  f = .next ∧ ∃ h' tk' m' news', s₄ = { s with heap := h', toks := tk' } ∧ Fr h₀ L h' m' ∧ News h₀ L h' (news' ++ own) ∧ need ∈ news' ∧ (∀ p ∈ news', ∀ q ∈ own, @Ne Nat p.1 q.1) ∧
    ∀ h tk, Fr h₀ L h m' → News h₀ L h news' → Q .next { s with heap := h, toks := tk }

theorem zr_for {env : Env} {h₀ : Heap} {elts : List Expr} {k : Nat} {pos : Pos} {body : List Stmt} {l1 r : Addr} {lo1 : Obj} {x : Value} {n1 : Nat} {a b : Int} {t u v : Tok} {m₀ : Str → Option Value} {news : List (Addr × Obj)} {Q : Flow → Shared → Prop}
    (hh : A.handled = none) (F : Fr h₀ env.locals s.heap m₀) (N : News h₀ env.locals s.heap news) (hm1 : (l1, lo1) ∈ news) (hc1 : lo1.cls = .type "list") (hd1 : lo1.data = .seq #[x] n1) (hr : IsRange s.heap r a b (-1) t u v) (hsm : Builtin.Range.small a b (-1) = true) (hpos : 0 < Builtin.Range.rangeSize a b (-1))
    (turn : ∀ (T : Addr) t' oz oti oto oi1 oi2 own h tk, own = [(s.heap.objs.size + 4, oz), (s.heap.objs.size + 2, oti), (s.heap.objs.size + 3, oto), (s.heap.objs.size, oi1), (s.heap.objs.size + 1, oi2)] → (∀ p ∈ news, @LT.lt Nat _ p.1 s.heap.objs.size) → @LT.lt Nat _ (s.heap.objs.size + 4) T →
      Fr h₀ env.locals h m₀ → News h₀ env.locals h ((T, ({ cls := .type "tuple", data := .seq #[x, .int a t'] } : Obj)) :: (news ++ own)) →
      wpAny (model prog w) A (assign (.Tuple elts k pos) env (.ref T)) (fun _ s₃ => wpAny (model prog w) A (execs body env) (OnceEnd h₀ env.locals { s with heap := h, toks := tk } own (l1, lo1) Q) E s₃) E { s with heap := h, toks := tk }) :
    wpAny (model prog w) A (call (.type "zip") [.ref l1, .ref r]) (fun xv s₁ => wpAny (model prog w) A (pyIter xv) (fun it s₂ => TurnsAt prog w A h₀ env (.Tuple elts k pos) body Q E it s₂) E s₁) E s := by
  have hax1 := N _ hm1
  have hl1 : s.heap.IsList l1 #[x] := ⟨lo1, hax1.1, hc1, n1, hd1⟩
  have hlt : @LT.lt Nat _ l1 s.heap.objs.size := Heap.lt_size hax1.1
  have hLs : @LT.lt Nat _ env.locals s.heap.objs.size := F.ns.lt
  refine zr_call hl1 hr hsm hpos fun h' S hk => ?_
  refine wpAny_pyIter_zip S.z ?_
  refine ⟨s.heap.objs.size + 4, _, _, 1, _, _, _, m₀, news, fun i m₁ n₁ => if i = 0 then m₁ = m₀ ∧ n₁ = news else ∀ h tk, Fr h₀ env.locals h m₁ → News h₀ env.locals h n₁ → Q .next { s with heap := h, toks := tk }, rfl, zr_turns (x := x) (y0 := a) hh hlt, ?_, ?_, ?_, S, F.keeps hk, N.grown hk, ⟨rfl, rfl⟩, ?_, ?_⟩
  · intro hI
    have hb : (env.locals : Nat) = s.heap.objs.size + 4 ∨ (env.locals : Nat) = s.heap.objs.size + 2 ∨ (env.locals : Nat) = s.heap.objs.size + 3 ∨ (env.locals : Nat) = s.heap.objs.size ∨ (env.locals : Nat) = s.heap.objs.size + 1 ∨ env.locals = l1 := by simpa using hI
    rcases hb with e | e | e | e | e | e
    · exact absurd hLs (by rw [e]; omega)
    · exact absurd hLs (by rw [e]; omega)
    · exact absurd hLs (by rw [e]; omega)
    · exact absurd hLs (by rw [e]; omega)
    · exact absurd hLs (by rw [e]; omega)
    · exact hax1.2.1 e.symm
  · intro c hc
    have hb : c = s.heap.objs.size + 4 ∨ c = s.heap.objs.size + 3 ∨ c = s.heap.objs.size ∨ c = s.heap.objs.size + 1 := by simpa using hc
    rcases hb with rfl | rfl | rfl | rfl
    · exact ktu_new F (Nat.le_add_right _ _)
    · exact ktu_new F (Nat.le_add_right _ _)
    · exact ktu_new F (Nat.le_refl _)
    · exact ktu_new F (Nat.le_add_right _ _)
  · intro p hp hc
    have hb : (p.1 : Nat) = s.heap.objs.size + 4 ∨ (p.1 : Nat) = s.heap.objs.size + 3 ∨ (p.1 : Nat) = s.heap.objs.size ∨ (p.1 : Nat) = s.heap.objs.size + 1 := by simpa using hc
    have hlp : @LT.lt Nat _ p.1 s.heap.objs.size := Heap.lt_size (N p hp).1
    rcases hb with e | e | e | e <;> exact absurd hlp (by rw [e]; omega)
  · rintro i v m₁ news₁ h₁ tk₁ own hi ⟨T, t', rfl, hT, hTI⟩ hJ hoff hown hget hall S₁ F₁ N₁
    obtain rfl : i = 0 := by omega
    obtain ⟨rfl, rfl⟩ : m₁ = m₀ ∧ news₁ = news := hJ
    obtain ⟨sz, sti, ⟨_, _, sto⟩, ⟨o1, s1, _⟩, sl, ⟨_, _, s2, _⟩⟩ := S₁
    have mem : ∀ c o, c ∈ [s.heap.objs.size + 4, s.heap.objs.size + 2, s.heap.objs.size + 3, s.heap.objs.size, s.heap.objs.size + 1] → h₀.get? c = none → h₁.get? c = some o → (c, o) ∈ own := fun c o hc hn ho => hall c (by simp at hc ⊢; rcases hc with e | e | e | e | e <;> simp [e]) hn o ho
    have N₂ : News h₀ env.locals h₁ ((T, ({ cls := .type "tuple", data := .seq #[x, .int a t'] } : Obj)) :: (news₁ ++ [(s.heap.objs.size + 4, _), (s.heap.objs.size + 2, _), (s.heap.objs.size + 3, _), (s.heap.objs.size, _), (s.heap.objs.size + 1, _)])) := fun p hp => by
      rcases List.mem_cons.mp hp with rfl | hp
      · exact ⟨hT, fun e => absurd hLs (by rw [← e]; show ¬ @LT.lt Nat _ T _; omega), ktu_new F (by show @LE.le Nat _ _ T; omega)⟩
      rcases List.mem_append.mp hp with hp | hp
      · exact N₁ p (List.mem_append_right _ hp)
      refine N₁ p (List.mem_append_left _ ?_)
      rcases List.mem_cons.mp hp with rfl | hp
      · exact mem _ _ (by simp) (ktu_new F (Nat.le_add_right _ _)) sz
      rcases List.mem_cons.mp hp with rfl | hp
      · exact mem _ _ (by simp) (ktu_new F (Nat.le_add_right _ _)) sti
      rcases List.mem_cons.mp hp with rfl | hp
      · exact mem _ _ (by simp) (ktu_new F (Nat.le_add_right _ _)) sto
      rcases List.mem_cons.mp hp with rfl | hp
      · exact mem _ _ (by simp) (ktu_new F (Nat.le_refl _)) s1
      rw [List.mem_singleton.mp hp]
      exact mem _ _ (by simp) (ktu_new F (Nat.le_add_right _ _)) s2
    refine wpAny_mono (turn T t' _ _ _ _ _ _ h₁ tk₁ rfl (fun p hp => Heap.lt_size (N p hp).1) hTI F₁ N₂) (fun _ s₃ h₃ => wpAny_mono h₃ (fun f s₄ h₄ => ?_) fun _ _ e => e) fun _ _ e => e
    obtain ⟨rfl, h', tk', m', news', rfl, F', N', hn, hne, fin⟩ := h₄
    refine .next ?_
    have key : ∀ (c : Addr) (oc o : Obj), h₁.get? c = some oc → h₁.get? c = some o → oc = o := fun c oc o e1 e2 => Option.some.inj (e1.symm.trans e2)
    refine ⟨rfl, h', tk', m', news', rfl, F', fun p hp => ?_, fun p hp hc => ?_, ?_⟩
    · rcases List.mem_append.mp hp with hp | hp
      · have hf := hown p hp
        have hg := hget p hp
        obtain ⟨c, o⟩ := p
        dsimp only at hf hg
        have hb : c = s.heap.objs.size + 4 ∨ c = s.heap.objs.size + 2 ∨ c = s.heap.objs.size + 3 ∨ c = s.heap.objs.size ∨ c = s.heap.objs.size + 1 ∨ c = l1 := by simpa using hf
        rcases hb with rfl | rfl | rfl | rfl | rfl | rfl
        · rw [key _ _ _ hg sz]
          exact N' _ (List.mem_append_right _ (.head _))
        · rw [key _ _ _ hg sti]
          exact N' _ (List.mem_append_right _ (.tail _ (.head _)))
        · rw [key _ _ _ hg sto]
          exact N' _ (List.mem_append_right _ (.tail _ (.tail _ (.head _))))
        · rw [key _ _ _ hg s1]
          exact N' _ (List.mem_append_right _ (.tail _ (.tail _ (.tail _ (.head _)))))
        · rw [key _ _ _ hg s2]
          exact N' _ (List.mem_append_right _ (.tail _ (.tail _ (.tail _ (.tail _ (.head _))))))
        · rw [key _ _ _ hg (N₁ _ (List.mem_append_right _ hm1)).1]
          exact N' _ (List.mem_append_left _ hn)
      · exact N' _ (List.mem_append_left _ hp)
    · have hb : p.1 = s.heap.objs.size + 4 ∨ p.1 = s.heap.objs.size + 3 ∨ p.1 = s.heap.objs.size ∨ p.1 = s.heap.objs.size + 1 := by simpa using hc
      rcases hb with e | e | e | e
      · exact hne p hp _ (.head _) e
      · exact hne p hp _ (.tail _ (.tail _ (.head _))) e
      · exact hne p hp _ (.tail _ (.tail _ (.tail _ (.head _)))) e
      · exact hne p hp _ (.tail _ (.tail _ (.tail _ (.tail _ (.head _))))) e
    · show (if 0 + 1 = 0 then _ else _)
      rw [if_neg (by decide)]
      exact fin
  · intro h'' tk'' m' news' F' N' _ hJ
    rw [if_neg (by decide)] at hJ
    exact hJ _ _ F' N'
end
section
variable {prog : Program} {w : World} {A : Around} {E : Value → Shared → Prop} {s : Shared}
/-- what the one turn leaves, where one object of the ledger was changed -/
def OnceD (h₀ : Heap) (L : Addr) (s : Shared) (R rest : List (Addr × Obj)) (D : Addr) (Q : Flow → Shared → Prop) (f : Flow) (s₄ : Shared) : Prop :=
  f = .next ∧ ∃ h' tk' m' oD' new', s₄ = { s with heap := h', toks := tk' } ∧ Fr h₀ L h' m' ∧ News h₀ L h' (new' ++ (D, oD') :: R) ∧ (∀ p ∈ new', ∀ q ∈ R, @Ne Nat p.1 q.1) ∧
    ∀ h tk, Fr h₀ L h m' → News h₀ L h (new' ++ (D, oD') :: rest) → Q .next { s with heap := h, toks := tk }

theorem zr_forD {env : Env} {h₀ : Heap} {elts : List Expr} {k : Nat} {pos : Pos} {body : List Stmt} {l1 r D : Addr} {lo1 oD : Obj} {x : Value} {n1 : Nat} {a b : Int} {t u v : Tok} {m₀ : Str → Option Value} {rest : List (Addr × Obj)} {Q : Flow → Shared → Prop}
    (hh : A.handled = none) (F : Fr h₀ env.locals s.heap m₀) (N : News h₀ env.locals s.heap ((D, oD) :: rest)) (hm1 : (l1, lo1) ∈ rest) (hc1 : lo1.cls = .type "list") (hd1 : lo1.data = .seq #[x] n1) (hr : IsRange s.heap r a b (-1) t u v) (hsm : Builtin.Range.small a b (-1) = true) (hpos : 0 < Builtin.Range.rangeSize a b (-1))
    (off : ∀ p ∈ rest, @Ne Nat p.1 D)
    (turn : ∀ (T : Addr) (t' : Tok) (R : List (Addr × Obj)) h tk, (∀ p ∈ rest, p ∈ R) → (∀ p ∈ R, @Ne Nat p.1 D) → (∀ p ∈ R, @LT.lt Nat _ p.1 T) → @LT.lt Nat _ D T →
      Fr h₀ env.locals h m₀ → News h₀ env.locals h ((T, ({ cls := .type "tuple", data := .seq #[x, .int a t'] } : Obj)) :: (D, oD) :: R) →
      wpAny (model prog w) A (assign (.Tuple elts k pos) env (.ref T)) (fun _ s₃ => wpAny (model prog w) A (execs body env) (OnceD h₀ env.locals { s with heap := h, toks := tk } R rest D Q) E s₃) E { s with heap := h, toks := tk }) :
    wpAny (model prog w) A (call (.type "zip") [.ref l1, .ref r]) (fun xv s₁ => wpAny (model prog w) A (pyIter xv) (fun it s₂ => TurnsAt prog w A h₀ env (.Tuple elts k pos) body Q E it s₂) E s₁) E s := by
  refine zr_for hh F N (.tail _ hm1) hc1 hd1 hr hsm hpos fun T t' oz oti oto oi1 oi2 own h tk eo lo lT F' N' => ?_
  have low : ∀ p ∈ own, @LE.le Nat _ s.heap.objs.size p.1 ∧ @LT.lt Nat _ p.1 T := by
    intro p hp
    rw [eo] at hp
    simp only [List.mem_cons, List.not_mem_nil, or_false] at hp
    rcases hp with rfl | rfl | rfl | rfl | rfl <;> (dsimp only; omega)
  have lD : @LT.lt Nat _ D s.heap.objs.size := lo _ (.head _)
  refine wpAny_mono (turn T t' (rest ++ own) h tk (fun p hp => List.mem_append_left _ hp) (fun p hp => ?_) (fun p hp => ?_) (by omega) F' N') (fun _ s₃ h₃ => wpAny_mono h₃ (fun f s₄ h₄ => ?_) fun _ _ e => e) fun _ _ e => e
  · rcases List.mem_append.mp hp with hp | hp
    · exact off p hp
    · have := (low p hp).1
      omega
  · rcases List.mem_append.mp hp with hp | hp
    · have : @LT.lt Nat _ p.1 s.heap.objs.size := lo _ (.tail _ hp)
      omega
    · exact (low p hp).2
  · obtain ⟨rfl, h', tk', m', oD', new', rfl, F₄, N₄, ne, fin⟩ := h₄
    refine ⟨rfl, h', tk', m', new' ++ (D, oD') :: rest, rfl, F₄, fun p hp => N₄ p ?_, List.mem_append_right _ (.tail _ hm1), fun p hp q hq => ?_, fin⟩
    · rcases List.mem_append.mp hp with hp | hp
      · rcases List.mem_append.mp hp with hp | hp
        · exact List.mem_append_left _ hp
        · rcases List.mem_cons.mp hp with rfl | hp
          · exact List.mem_append_right _ (.head _)
          · exact List.mem_append_right _ (.tail _ (List.mem_append_left _ hp))
      · exact List.mem_append_right _ (.tail _ (List.mem_append_right _ hp))
    · have lq := (low q hq).1
      rcases List.mem_append.mp hp with hp | hp
      · exact ne p hp q (List.mem_append_right _ hq)
      · rcases List.mem_cons.mp hp with rfl | hp
        · dsimp only
          omega
        · have : @LT.lt Nat _ p.1 s.heap.objs.size := lo _ (.tail _ hp)
          omega
end
end Mine
/-! CollDefs -/
namespace Mine
/-- the text of the n-th rule -/
def xN (n : Nat) : Str := Str.ofString "x" ++ Str.ofString (toString (n : Int))
/-- a chain of defs in a ledger: the numbers of the rules, the last def first -/
def Chain (P : Params) (news : List (Addr × Obj)) : Value → List Nat → Prop
  | v, [] => v = .none
  | v, n :: ns => ∃ f d rl t1 t2 t3 t4 t5 nm tn tl tx c nx, v = .ref f ∧ (f, instObj 53 d) ∈ news ∧ (d, dictOf (rfEs P t1 t2 t3 t4 t5 (.str nm tn) (.ref rl) (.int (10 + (n : Int)) tl) nx) 5) ∈ news ∧
      (rl, W.listOf #[.str (xN n) tx] c) ∈ news ∧ nm.length ≤ 8 ∧ n < 62 ∧ Chain P news nx ns
theorem m_form {m : Str → Option Value} {a : Str} {v : Option Value} (h : m a = v) : m = fun y => if y = a then v else m y := by
  funext y
  by_cases e : y = a
  · rw [if_pos e, e, h]
  · rw [if_neg e]

theorem Chain.sub {P : Params} {ns ns' : List (Addr × Obj)} (q : ∀ p ∈ ns, p ∈ ns') : ∀ {v : Value} {l : List Nat}, Chain P ns v l → Chain P ns' v l
  | _, [], c => c
  | _, _ :: _, ⟨f, d, rl, t1, t2, t3, t4, t5, nm, tn, tl, tx, c, nx, e, a1, a2, a3, a4, a5, a6⟩ => ⟨f, d, rl, t1, t2, t3, t4, t5, nm, tn, tl, tx, c, nx, e, q _ a1, q _ a2, q _ a3, a4, a5, Chain.sub q a6⟩
/-- the row that one rule gives -/
def RowItem (news : List (Addr × Obj)) (v : Value) (n : Nat) : Prop :=
  ∃ tp sy f t1 ln tl nm tn tx c, v = .ref tp ∧ (tp, ({ cls := .type "tuple", data := .seq #[.ref f, .str "" t1, .int ln tl, .str nm tn, .ref sy] } : Obj)) ∈ news ∧ (sy, W.listOf #[.str (xN n) tx] c) ∈ news
theorem RowItem.sub {ns ns' : List (Addr × Obj)} (q : ∀ p ∈ ns, p ∈ ns') {v : Value} {n : Nat} : RowItem ns v n → RowItem ns' v n
  | ⟨tp, sy, f, t1, ln, tl, nm, tn, tx, c, e, a1, a2⟩ => ⟨tp, sy, f, t1, ln, tl, nm, tn, tx, c, e, q _ a1, q _ a2⟩
def RowItems (news : List (Addr × Obj)) : List Value → List Nat → Prop
  | [], [] => True
  | v :: vs, n :: ns => RowItem news v n ∧ RowItems news vs ns
  | _, _ => False
theorem RowItems.sub {ns ns' : List (Addr × Obj)} (q : ∀ p ∈ ns, p ∈ ns') : ∀ {vs : List Value} {l : List Nat}, RowItems ns vs l → RowItems ns' vs l
  | [], [], _ => trivial
  | _ :: _, _ :: _, h => ⟨h.1.sub q, RowItems.sub q h.2⟩
  | [], _ :: _, h => h.elim
  | _ :: _, [], h => h.elim
theorem RowItems.snoc {news : List (Addr × Obj)} : ∀ {vs : List Value} {l : List Nat} {v : Value} {n : Nat}, RowItems news vs l → RowItem news v n → RowItems news (vs ++ [v]) (l ++ [n])
  | [], [], _, _, _, r => ⟨r, trivial⟩
  | _ :: _, _ :: _, _, _, h, r => ⟨h.1, RowItems.snoc h.2 r⟩
  | [], _ :: _, _, _, h, _ => h.elim
  | _ :: _, [], _, _, h, _ => h.elim
theorem zr_small {n : Nat} (h : n < 62) : Builtin.Range.small (10 + (n : Int) + 1 - 1) 0 (-1) = true ∧ 0 < Builtin.Range.rangeSize (10 + (n : Int) + 1 - 1) 0 (-1) := by
  have : ∀ n : Fin 62, Builtin.Range.small (10 + (n.val : Int) + 1 - 1) 0 (-1) = true ∧ 0 < Builtin.Range.rangeSize (10 + (n.val : Int) + 1 - 1) 0 (-1) := by decide +kernel
  exact this ⟨n, h⟩
/-- what holds ahead of each turn of the collecting loop -/
def CollJ (P : Params) (ns : List Nat) (news : List (Addr × Obj)) (D : Addr) (k : Nat) (m : Str → Option Value) (news₁ : List (Addr × Obj)) : Prop :=
  ∃ v don todo items c rest, ns = don ++ todo ∧ k = todo.length ∧ m "func" = some v ∧ m "grammar" = some (.ref D) ∧ news₁ = (D, W.listOf items c) :: rest ∧ Chain P rest v todo ∧ (∀ p ∈ news, p ∈ rest) ∧
    RowItems rest items.toList don ∧ (∀ p ∈ rest, @Ne Nat p.1 D)

end Mine
/-! SplitX -/
namespace Mine
theorem words_x {n : Nat} (h : n < 62) : Txt.words (xN n) = [xN n] := by
  have : ∀ n : Fin 62, Txt.words (xN n.val) = [xN n.val] := by decide +kernel
  exact this ⟨n, h⟩
theorem len_x {n : Nat} (h : n < 62) : (xN n).length ≤ 3 := by
  have : ∀ n : Fin 62, (xN n.val).length ≤ 3 := by decide +kernel
  exact this ⟨n, h⟩
theorem brace_x {n : Nat} (h : n < 62) : (xN n == "{") = false ∧ (xN n == "[") = false := by
  have : ∀ n : Fin 62, (xN n.val == "{") = false ∧ (xN n.val == "[") = false := by decide +kernel
  exact this ⟨n, h⟩
section
variable {prog : Program} {w : World} {A : Around} {E : Value → Shared → Prop} {s : Shared} {h₀ : Heap} {L : Addr} {m : Str → Option Value} {news : List (Addr × Obj)} {Q : Value → Shared → Prop}
theorem split_x {n : Nat} {t : Tok} (hn : n < 62) (hF : Fr h₀ L s.heap m) (hN : News h₀ L s.heap news)
    (h : ∀ D t' h' k, Fr h₀ L h' m → News h₀ L h' ((D, W.listOf #[.str (xN n) t'] 0) :: news) → (∀ p ∈ news, p.1 < D) → Q (.ref D) { s with heap := h', toks := k }) :
    wpAny (model prog w) A (call (.builtin "str.split") [.str (xN n) t]) Q E s := by
  refine KSpl.split0 hF hN (fun D l h' k e a F N l1 => ?_) (Nat.le_trans (Nat.add_le_add_right (len_x hn) 2) (by decide))
  rw [words_x hn] at e
  obtain ⟨q, rfl⟩ : ∃ q, l = [q] := by
    cases l with
    | nil => cases e
    | cons q r =>
      cases r with
      | nil => exact ⟨q, rfl⟩
      | cons q' r => exact absurd (congrArg List.length e) (by simp)
  obtain ⟨q1, q2⟩ := q
  have e' : q1 = xN n := by simpa using e
  subst e'
  exact h D q2 h' k F N l1
theorem in_one {D : Addr} {X y : Str} {t u : Tok} {c : Nat} (hN : News h₀ L s.heap news) (hp : (D, W.listOf #[.str X t] c) ∈ news) (hne : (X == y) = false) (h : Q (.bool false) s) : wpAny (model prog w) A (compareOp .In (.str y u) (.ref D)) Q E s := by
  refine in_list_strs (vs := [.str X t]) (ys := [X]) ⟨_, (hN _ hp).1, rfl, c, rfl⟩ ?_ ?_
  · exact strsAre_of_values [(X, t)]
  · show Q (.bool ((X == y) || false)) s
    rw [hne]
    exact h
end
section
variable {prog : Program} {w : World} {A : Around} {E : Value → Shared → Prop} {s : Shared} {env : Env}
/-- a loop whose test says no at once -/
theorem while_no {test : Expr} {body : List Stmt} {pos : Pos} {Q : Flow → Shared → Prop} (h : wpAny (model prog w) A (isTrue test env (eval test env)) (fun b s₂ => b = false ∧ Q .next s₂) E s)
    (hE : PassesOwn (model prog w) A env E := by passes_own) : wpAny (model prog w) A (exec (.While test body [] pos) env) Q E s := by
  refine wpAny_While (codeAny_whileLoop (fun _ s' => s' = s) ?_ 0 rfl)
  rintro n s' rfl
  refine wpAny_mono h (fun b s₂ h₂ => ?_) hE
  obtain ⟨rfl, h₂⟩ := h₂
  exact wpAny_execs_nil h₂
end
theorem size62 {n : Nat} (h : n ≤ 61) : n ≤ sizeLine := Nat.le_trans h (by decide)
theorem size62b {its : Array Value} {x : Value} (h : its.size ≤ 61) : (its.push x).size ≤ sizeLine := by rw [Array.size_push]; exact Nat.le_trans (Nat.succ_le_succ h) (by decide)
theorem RowItems.length {news : List (Addr × Obj)} : ∀ {vs : List Value} {l : List Nat}, RowItems news vs l → vs.length = l.length
  | [], [], _ => rfl
  | _ :: _, _ :: _, h => by rw [List.length_cons, List.length_cons, RowItems.length h.2]
  | [], _ :: _, h => h.elim
  | _ :: _, [], h => h.elim
theorem ext1 {its : Array Value} {x : Value} (h : its.size ≤ 61) : ¬(!(its.push x).isEmpty && Builtin.List.listTooLong ((its.push x).size + (#[] : Array Value).size)) = true := by
  have : Builtin.List.listTooLong ((its.push x).size + (#[] : Array Value).size) = false := by
    have h2 : (its.push x).size + (#[] : Array Value).size ≤ sizeLine := size62b h
    unfold Builtin.List.listTooLong
    exact decide_eq_false (Nat.not_lt.mpr h2)
  rw [this, Bool.and_false]
  decide
theorem ext2 {its : Array Value} {x : Value} (h : its.size ≤ 61) : (its.push x).toList.length ≤ sizeLine := by rw [Array.length_toList]; exact size62b h
theorem ext3 {its : Array Value} {x : Value} (h : its.size ≤ 61) : (its.push x).size + (#[] : Array Value).size ≤ sizeLine + 1 := Nat.le_succ_of_le (size62b h)
theorem onceD_of {h₀ h' : Heap} {L D : Addr} {s : Shared} {R rest new : List (Addr × Obj)} {oD' : Obj} {Q : Flow → Shared → Prop} {m' : Str → Option Value} {tk' : Nat} {all : List (Addr × Obj)} (F : Fr h₀ L h' m') (N : News h₀ L h' all) (e : all = new ++ (D, oD') :: R)
    (ne : ∀ p ∈ new, ∀ q ∈ R, @Ne Nat p.1 q.1) (k : ∀ h tk, Fr h₀ L h m' → News h₀ L h (new ++ (D, oD') :: rest) → Q .next { s with heap := h, toks := tk }) : OnceD h₀ L s R rest D Q .next { s with heap := h', toks := tk' } :=
  ⟨rfl, h', tk', m', oD', new, rfl, F, by rw [← e]; exact N, ne, k⟩
theorem news_perm {h₀ h : Heap} {L : Addr} {d : Addr × Obj} {new rest all : List (Addr × Obj)} (N : News h₀ L h all) (e : all = new ++ d :: rest) : News h₀ L h (d :: (new ++ rest)) := fun p hp => N p (by
  rw [e]
  rcases List.mem_cons.mp hp with rfl | hp
  · exact List.mem_append_right _ (.head _)
  rcases List.mem_append.mp hp with hp | hp
  · exact List.mem_append_left _ hp
  · exact List.mem_append_right _ (.tail _ hp))
end Mine
/-! Pow -/
namespace Mine
theorem abs_lt_of_bits {x : Int} {K : Nat} (h : Builtin.Int.intBits x ≤ K) : x.natAbs < 2 ^ K := by
  unfold Builtin.Int.intBits at h
  split at h
  · rename_i e
    rw [beq_iff_eq.mp e]
    exact Nat.two_pow_pos K
  · exact Nat.lt_of_lt_of_le Nat.lt_log2_self (Nat.pow_le_pow_right (by decide) h)
theorem abs_lin {x : Int} {K : Nat} (h : x.natAbs < 2 ^ K) : (x * 2654435761 + 1013904223).natAbs < 2 ^ (K + 34) := by
  rw [Nat.pow_add]
  have h1 : (x * 2654435761 + 1013904223).natAbs ≤ (x * 2654435761).natAbs + (1013904223 : Int).natAbs := Int.natAbs_add_le _ _
  rw [Int.natAbs_mul] at h1
  have h2 : (2654435761 : Int).natAbs = 2654435761 := rfl
  have h3 : (1013904223 : Int).natAbs = 1013904223 := rfl
  rw [h2, h3] at h1
  have h4 : (2 : Nat) ^ 34 = 17179869184 := by decide
  rw [h4]
  omega
theorem pow_big {x : Int} (h : Builtin.Int.intBits x ≤ 1048576) : (Builtin.Int.intBits (x * 2654435761 + 1013904223) : Int) * 3 ≤ 2 ^ 27 := by
  have := intBits_le (abs_lin (abs_lt_of_bits h))
  have e : (2 : Int) ^ 27 = 134217728 := by decide
  rw [e]
  omega
theorem pow_script {ns : List Int} {k : Int} (hL : (PyData.list (ns.map PyData.int)).layable0 = true) (hk : k ∈ List.take 50 ns) : (Builtin.Int.intBits (k * 2654435761 + 1013904223) : Int) * 3 ≤ 2 ^ 27 :=
  pow_big (intBits_le_of_item (List.mem_of_mem_take hk) hL)
theorem pow_range {k : Int} (h0 : 0 ≤ k) (h1 : k ≤ 12) : (Builtin.Int.intBits (k * 2654435761 + 1013904223) : Int) * 3 ≤ 2 ^ 27 :=
  pow_big (intBits_le (Nat.lt_of_lt_of_le (m := 2 ^ 64) (by have e : (2:Nat)^64 = 18446744073709551616 := by decide
                                                            rw [e]; omega) (Nat.pow_le_pow_right (by decide) (by decide))))
end Mine
/-! LoopL -/
namespace Mine
/-- what a turn of a loop over a list of the ledger leaves -/
def TurnEnd (h₀ : Heap) (L : Addr) (s : Shared) (own : List (Addr × Obj)) (J' : (Str → Option Value) → List (Addr × Obj) → Prop) (Q : Flow → Shared → Prop) (f : Flow) (s₄ : Shared) : Prop :=
  match f with
  | .ret v => Q (.ret v) s₄
  | .brk => Q .next s₄
  | _ => ∃ h' tk' m' news', s₄ = { s with heap := h', toks := tk' } ∧ Fr h₀ L h' m' ∧ News h₀ L h' (news' ++ own) ∧ (∀ p ∈ news', ∀ q ∈ own, @Ne Nat p.1 q.1) ∧ J' m' news'
section
variable {prog : Program} {w : World} {A : Around} {E : Value → Shared → Prop} {s : Shared}
theorem for_enter {env : Env} {h₀ : Heap} {m : Str → Option Value} {Q : Flow → Shared → Prop} {x : Str} {px pos : Pos} {iter : Expr} {body : List Stmt} (_F : Fr h₀ env.locals s.heap m) (hx : env.kindOf x = some .local)
    (hp : (env.scope.kind == .class || (env.scope.kind == .module && env.locals != env.globals)) = false)
    (h : wpAny (model prog w) A (eval iter env) (fun xv s₁ => wpAny (model prog w) A (pyIter xv) (fun it s₂ => LoopAtV prog w A h₀ env x body Q E it s₂) E s₁) E s)
    (hs : ∀ x, foldedSetIterable iter env x = pure x := by intro _; rfl) (hE : PassesOwn (model prog w) A env E := by passes_own) :
    wpAny (model prog w) A (exec (.For (.Name x px) iter body [] pos) env) Q E s := For_invV h₀ hx hp h hs hE
theorem for_ledger {env : Env} {h₀ : Heap} {x : Str} {body : List Stmt} {l : Addr} {lo : Obj} {xs : List Value} {n1 : Nat} {m₀ : Str → Option Value} {news : List (Addr × Obj)} {Q : Flow → Shared → Prop} (J : Nat → (Str → Option Value) → List (Addr × Obj) → Prop)
    (hh : A.handled = none) (F : Fr h₀ env.locals s.heap m₀) (N : News h₀ env.locals s.heap ((l, lo) :: news)) (hc : lo.cls = .type "list") (hd : lo.data = .seq xs.toArray n1) (hne : ∀ p ∈ news, @Ne Nat p.1 l) (h0 : J 0 m₀ news)
    (turn : ∀ i v m₁ news₁ h tk own, xs[i]? = some v → J i m₁ news₁ → (∀ p ∈ news₁, ∀ q ∈ own, @Ne Nat p.1 q.1) → Fr h₀ env.locals h (fun y => if y = x then some v else m₁ y) → News h₀ env.locals h (news₁ ++ own) →
      wpAny (model prog w) A (execs body env) (TurnEnd h₀ env.locals { s with heap := h, toks := tk } own (J (i + 1)) Q) E { s with heap := h, toks := tk })
    (done : ∀ m₁ news₁ h tk, J xs.length m₁ news₁ → Fr h₀ env.locals h m₁ → News h₀ env.locals h news₁ → Q .next { s with heap := h, toks := tk }) :
    wpAny (model prog w) A (pyIter (.ref l)) (fun it s₂ => LoopAtV prog w A h₀ env x body Q E it s₂) E s := by
  have hax := N _ (.head _)
  have hl : s.heap.IsList l xs.toArray := ⟨lo, hax.1, hc, n1, hd⟩
  have hlt : @LT.lt Nat _ l s.heap.objs.size := Heap.lt_size hax.1
  have hLs : @LT.lt Nat _ env.locals s.heap.objs.size := F.ns.lt
  have hlI : @Ne Nat l s.heap.objs.size := Nat.ne_of_lt hlt
  have up : ∀ (o : Obj) b o', s.heap.get? b = some o' → (s.heap.push o).get? b = some o' := fun o b o' e => Heap.get?_push_of_some _ e
  refine wpAny_pyIter_list hl ?_
  have W := Walks.list (prog := prog) (w := w) hh s.heap.objs.size l hlI xs.toArray
  have hsz : xs.toArray.size = xs.length := by simp
  rw [hsz] at W
  refine ⟨_, _, _, xs.length, _, _, m₀, news, fun i m₁ n₁ => J i m₁ n₁ ∧ ∀ p ∈ n₁, @Ne Nat p.1 l, rfl, W, ?_, ?_, ?_, ⟨⟨_, Heap.get?_push_size _ rfl, rfl, rfl⟩, hl.at fun o e => up _ _ o e⟩, F.push _, (fun p hp => ⟨up _ _ _ (N p (.tail _ hp)).1, (N p (.tail _ hp)).2⟩), ⟨h0, hne⟩, ?_, ?_⟩
  · intro hm
    rcases List.mem_cons.mp hm with e | hm
    · exact absurd hLs (by rw [e]; omega)
    · exact hax.2.1 (List.mem_singleton.mp hm).symm
  · intro b hb
    rw [List.mem_singleton.mp hb]
    exact next_is_new F
  · intro p hp hI
    have : @LT.lt Nat _ p.1 s.heap.objs.size := Heap.lt_size (N p (.tail _ hp)).1
    exact absurd this (by rw [List.mem_singleton.mp hI]; omega)
  · rintro i v m₁ news₁ s₁ own ⟨hh', tk', rfl⟩ hin hP ⟨hJ, hnl⟩ hoff hown hget hall hst F₁ N₁
    have hP' : xs[i]? = some v := by simpa using hP
    obtain ⟨ol, hlo⟩ : ∃ o, (l, o) ∈ own := by
      obtain ⟨o, ho, _⟩ := hst.2
      exact ⟨o, hall l (.tail _ (.head _)) hax.2.2 o ho⟩
    have sep : ∀ p ∈ news₁, ∀ q ∈ own, @Ne Nat p.1 q.1 := by
      intro p hp q hq e
      rcases List.mem_cons.mp (hown q hq) with h1 | h1
      · exact hoff p hp (by rw [e, h1]; exact .head _)
      · exact hnl p hp (by rw [e]; exact List.mem_singleton.mp h1)
    have N₂ : News h₀ env.locals hh' (news₁ ++ own) := fun p hp => N₁ p ((List.mem_append.mp hp).elim (fun h => List.mem_append.mpr (.inr h)) fun h => List.mem_append.mpr (.inl h))
    obtain ⟨oI, hI⟩ : ∃ o, (s.heap.objs.size, o) ∈ own := by
      obtain ⟨o, ho, _⟩ := hst.1
      exact ⟨o, hall s.heap.objs.size (.head _) (next_is_new F) o ho⟩
    refine wpAny_mono (turn i v m₁ news₁ hh' tk' own hP' hJ sep F₁ N₂) (fun f s₂ p => ?_) fun _ _ e => e
    have fin : (∃ h' tk' m' news', s₂ = { s with heap := h', toks := tk' } ∧ Fr h₀ env.locals h' m' ∧ News h₀ env.locals h' (news' ++ own) ∧ (∀ p ∈ news', ∀ q ∈ own, @Ne Nat p.1 q.1) ∧ J (i + 1) m' news') →
        LoopStepU h₀ env.locals [s.heap.objs.size] own (fun m₁ n₁ => J (i + 1) m₁ n₁ ∧ ∀ p ∈ n₁, @Ne Nat p.1 l) { s with heap := hh', toks := tk' } .next s₂ := by
      rintro ⟨h', tk, m', news', e, F', N', ne, hJ'⟩
      refine ⟨rfl, h', tk, m', news', e, F', fun p hp => N' p ((List.mem_append.mp hp).elim (fun h => List.mem_append.mpr (.inr h)) fun h => List.mem_append.mpr (.inl h)), fun p hp hq => ?_, hJ', fun p hp => ne p hp _ hlo⟩
      exact ne p hp _ hI (List.mem_singleton.mp hq)
    cases f with
    | ret v => exact .ret p
    | brk => exact .brk p
    | next => exact .next (fin p)
    | cont => exact .cont (fin p)
  · intro h' tk m' news' F' N' _ hJ
    exact done m' news' h' tk hJ.1 F' N'
end
end Mine
/-! Plain -/
namespace Mine
section
variable {kvs : List (Str × Value)} {k k' : Str} {v u : Value}
theorem va_cons (p : Str × Value) (r : List (Str × Value)) : valueAt (p :: r) k = if p.1 = k then some p.2 else valueAt r k := by
  unfold valueAt
  rw [List.find?_cons]
  by_cases e : p.1 = k
  · simp [e]
  · simp [e]
theorem va_append : ∀ {kvs r : List (Str × Value)}, valueAt (kvs ++ r) k = (valueAt kvs k).or (valueAt r k)
  | [], _ => rfl
  | p :: kvs, r => by
    rw [List.cons_append, va_cons, va_cons]
    split
    · rfl
    · exact va_append
theorem va_map : ∀ {kvs : List (Str × Value)}, valueAt (kvs.map fun kv => if kv.1 = k then (kv.1, v) else kv) k' = if k' = k then (valueAt kvs k').map fun _ => v else valueAt kvs k'
  | [] => by split <;> rfl
  | p :: kvs => by
    rw [List.map_cons, va_cons, va_cons, va_map]
    by_cases e1 : p.1 = k
    · by_cases e2 : k' = k
      · simp [e1, e2]
      · have : ¬ (k = k') := fun e => e2 e.symm
        simp [e1, e2, this]
    · by_cases e2 : k' = k
      · subst e2
        simp [e1]
      · simp [e1, e2]
theorem va_any : kvs.any (fun kv => kv.1 = k) = (valueAt kvs k).isSome := (valueAt_isSome_eq_any kvs k).symm
theorem va_stored : valueAt (stored kvs k v) k' = if k' = k then some v else valueAt kvs k' := by
  unfold stored
  rw [va_any]
  cases h : valueAt kvs k with
  | none =>
    simp only [Option.isSome_none, Bool.false_eq_true, if_false]
    rw [va_append, va_cons]
    by_cases e : k' = k
    · subst e
      rw [h]
      simp
    · have : ¬ (k = k') := fun q => e q.symm
      simp only [this, if_false, e]
      cases valueAt kvs k' <;> rfl
  | some u =>
    simp only [Option.isSome_some, if_true]
    rw [va_map]
    by_cases e : k' = k
    · subst e
      rw [h]
      simp
    · simp [e]
theorem va_without : ∀ {kvs : List (Str × Value)}, valueAt (without kvs k) k' = if k' = k then none else valueAt kvs k'
  | [] => by split <;> rfl
  | p :: r => by
    have ih : valueAt (without r k) k' = if k' = k then none else valueAt r k' := va_without
    unfold without at ih ⊢
    rw [List.filter_cons, va_cons]
    by_cases e : p.1 = k
    · rw [if_neg (by simp [e]), ih]
      by_cases e2 : k' = k
      · simp [e2]
      · have : ¬ (p.1 = k') := fun q => e2 (q.symm.trans e)
        simp [e2, this]
    · rw [if_pos (by simp [e]), va_cons, ih]
      by_cases e2 : k' = k
      · have : ¬ (p.1 = k') := fun q => e (q.trans e2)
        simp [e2, e]
      · simp [e2]
theorem len_sub {α : Type} [DecidableEq α] : ∀ {l m : List α}, l.Nodup → (∀ x ∈ l, x ∈ m) → l.length ≤ m.length
  | [], _, _, _ => Nat.zero_le _
  | a :: l, m, h, q => by
    rw [List.nodup_cons] at h
    have h1 := len_sub (m := m.erase a) h.2 fun x hx => (List.mem_erase_of_ne (fun e => h.1 (by rw [← e]; exact hx))).mpr (q x (.tail _ hx))
    have h2 := List.length_erase_of_mem (q a (.head _))
    have h3 := List.length_pos_of_mem (q a (.head _))
    rw [List.length_cons]
    omega
theorem va_mem : ∀ {kvs : List (Str × Value)}, k ∈ kvs.map (·.1) → ∃ v, valueAt kvs k = some v
  | p :: r, h => by
    rw [va_cons]
    by_cases e : p.1 = k
    · exact ⟨p.2, by rw [if_pos e]⟩
    · rw [List.map_cons] at h
      rcases List.mem_cons.mp h with h | h
      · exact absurd h.symm e
      · rw [if_neg e]
        exact va_mem h
theorem len8 (ks : List Str) (hn : (kvs.map (·.1)).Nodup) (h : ∀ k v, valueAt kvs k = some v → k ∈ ks) : kvs.length ≤ ks.length := by
  have := len_sub hn fun x hx => by
    obtain ⟨v, e⟩ := va_mem hx
    exact h x v e
  rwa [List.length_map] at this
theorem va_of_mem (hn : (kvs.map (·.1)).Nodup) {p : Str × Value} (hp : p ∈ kvs) : valueAt kvs p.1 = some p.2 := by
  obtain ⟨i, hi⟩ := List.getElem?_of_mem hp
  exact valueAt_of_get hn hi
end
end Mine
/-! RaiseX -/
namespace Mine
section
variable {M : Model} {A : Around} {E : Value → Shared → Prop} {s' : Shared} {base g h : Heap} {outer : List Env} {L e : Addr} {m : Str → Option Value} {env : Env} {Q : Unit → Shared → Prop} {news : List (Addr × Obj)}
/-- a ground below which the activations' own dicts are hidden: for any activation, one with cells too -/
theorem groundB (K : Below A base outer g) (F : Fr g L h m) (hf : env.frame = some L) (hk : env.scope.kind = .function) (N : News g L h news) :
    ∃ B, base.StaysIn B ∧ B.StaysIn h ∧ (∀ b, h.get? b = none → B.get? b = none) ∧ h.FunFrames B (env :: outer) ∧ (∀ b o, g.get? b = some o → b ∉ outer.filterMap (·.frame) → B.get? b = some o) ∧
      ∀ q ∈ news, B.get? q.1 = some q.2 ∧ g.get? q.1 = none ∧ base.get? q.1 = none := by
  have KK := pushX K F hf hk
  let fs := (env :: outer).filterMap (·.frame)
  have inFs : ∀ b ∈ fs, b = L ∨ b ∈ outer.filterMap (·.frame) := fun b hb => by
    have : b ∈ (env :: outer).filterMap (·.frame) := hb
    rw [List.filterMap_cons, hf] at this
    exact List.mem_cons.mp this
  refine ⟨hideAll h fs, fun b o q => hideAll_get _ (KK.stays b o q) fun hm => ?_, fun b o q => of_hideAll _ q, fun b hb => ?_, funFrames_hide KK.frames fun v hv b hb => List.mem_filterMap.mpr ⟨v, hv, hb⟩,
    fun b o q nm => hideAll_get _ (F.keep b o q) fun hm => ?_, fun q hq => ⟨hideAll_get _ (N q hq).1 fun hm => ?_, (N q hq).2.2, fresh_of_stays K.stays (N q hq).2.2⟩⟩
  · rw [(KK.frames.mem hm).1] at q
    cases q
  · cases q : (hideAll h fs).get? b with
    | none => rfl
    | some o =>
      have := of_hideAll _ q
      rw [hb] at this
      cases this
  · rcases inFs _ hm with z | z
    · rw [z, kts_self F] at q
      cases q
    · exact nm z
  · rcases inFs _ hm with z | z
    · exact (N q hq).2.1 z
    · obtain ⟨o, ho, _⟩ := (K.frames.mem z).2
      rw [(N q hq).2.2] at ho
      cases ho

/-- an exception made in an activation with cells leaves it -/
theorem leave_madeX {cls : Value} {vs : List Value} (K : Below A base outer g) (hx : Heap.MadeExcOf h s'.heap e cls vs) (F : Fr g L h m) (N : News g L h news) (hf : env.frame = some L) (hk : env.scope.kind = .function)
    (hQ : ∀ h' t, RaisedS base g outer e cls t vs news h' → g.UpToSlots h' → Q () { s' with heap := h' }) : wpAny M (A.deeper env) (leaving env (.ref e)) Q E s' := by
  obtain ⟨B, b1, b2, _, b4, b5, b6⟩ := groundB K F hf hk N
  exact wpAny_leaves_madeW (pushX K F hf hk).stack hf b2 b4 hx fun h' t x1 x2 x3 x4 =>
    hQ h' t ⟨⟨B, b1, b5, b6, x1, x3⟩, x2⟩ (((Heap.UpToSlots.of_keeps F.keep).trans (Heap.UpToSlots.of_keeps hx.keeps)).trans x4)

theorem leave_newX {cls : String} (K : Below A base outer g) (hx : Heap.NewExc h s'.heap e cls) (F : Fr g L h m) (N : News g L h news) (hf : env.frame = some L) (hk : env.scope.kind = .function)
    (hQ : ∀ h', RaisedSN base g outer e (.type cls) news h' → g.UpToSlots h' → Q () { s' with heap := h' }) : wpAny M (A.deeper env) (leaving env (.ref e)) Q E s' := by
  obtain ⟨B, b1, b2, b3, b4, b5, b6⟩ := groundB K F hf hk N
  obtain ⟨ob, tp, he, hcls, hd⟩ := hx.there
  refine wpAny_leaving_firstW (a0 := tp) (pushX K F hf hk).stack (b4.of_keeps fun b o hb _ => ⟨o, hx.keeps b o hb, rfl⟩) hf he (fun b o hb => hx.keeps b o (b2 b o hb)) (b3 _ hx.new) hd rfl rfl fun h' hL => ?_
  obtain ⟨k1, ⟨_, _, k2⟩, k3, k4⟩ := hL
  exact hQ h' ⟨B, tp, b1, b5, b6, k1, b3 _ hx.new, k2, by rw [← hcls]; exact k3⟩ (((Heap.UpToSlots.of_keeps F.keep).trans (Heap.UpToSlots.of_keeps hx.keeps)).trans k4)
end

section
variable {prog : Program} {w : World} {A : Around} {E : Value → Shared → Prop} {s : Shared} {cn : Str} {cs : Scope} {L a : Addr} {ccd : Value} {cl : List (Str × Addr)} {h₀ : Heap} {m mg mb : Str → Option Value} {KF : Frag} {p : Program} {loose : List Str}
  {x : Str} {C : Addr} {np cpos pos : Pos} {Q : Flow → Shared → Prop} {e₀ : Expr} {bmB : List Value} {newId B initId : String}
/-- `raise C(e)` of an own exception class, in an activation with cells -/
theorem raiseX_own (F : Fr h₀ L s.heap m) (X : KF.In h₀) (T : TopRead p loose mg mb h₀) (e : nsIn KF mainGlobals x = some (some (.ref C))) (q : excIn KF C bmB newId = true) (FB : ExcBaseFacts B newId initId bmB) (hh : A.handled = none)
    (h : wpAny (model prog w) A (eval e₀ (envX cn cs L a ccd cl)) (fun v s₂ => (∃ g, Fr h₀ L s₂.heap g) ∧ ∀ h' e, Heap.MadeExcOf s₂.heap h' e (.ref C) [v] → E (.ref e) { s₂ with heap := h' }) E s)
    (he : starEach [e₀] (envX cn cs L a ccd cl) = [(false, eval e₀ (envX cn cs L a ccd cl))] := by rfl)
    (hk : cs.kind = .function := by rfl) (hx : (envX cn cs L a ccd cl).kindOf x = some .globalImplicit := by rfl) (hd : (x == ("__debug__" : Str)) = false := by decide) :
    wpAny (model prog w) A (exec (.Raise (some (.Call (.Name x np) [e₀] [] cpos)) none pos) (envX cn cs L a ccd cl)) Q E s := by
  obtain ⟨tl, N, nm, qn, bs, hdct, sn, sub, ab, col, dd, k0, k1, k2, k3, k5, mN, hC, hN, hni, TL⟩ := (own_of_in X T e q).obj
  refine wpAny_Raise_call_subT (C := C) (nm := nm) (q := qn) (N := N) (bs := bs) (bm := tl) (hdct := hdct) (sn := sn) (sub := sub) (ab := ab) (col := col) (dd := dd) (k0 := k0) (k1 := k1) (k2 := k2) (k3 := k3) (k5 := k5)
    FB (mN := mN) (TL.hasType FB.hasBase) hh (by rw [he]; rfl) hni (nameX_K F X T e ⟨rfl, ?_⟩ hk hx hd)
  rw [he]
  refine Calls.evalArgs_plain ?_
  refine Calls.spliced_cons (wpAny_mono h (fun v s₂ h₂ => Calls.spliced_nil ?_) fun _ _ y => y)
  obtain ⟨⟨_, F₂⟩, h₃⟩ := h₂
  exact ⟨rfl, Nat.succ_le_of_lt (by decide), F₂.keep _ _ hC, hN.keeps F₂.keep, TL.keeps F₂.keep, h₃⟩
end
end Mine
/-! CompNone -/
namespace Mine
/-- a value that is itself: an object, or an int made by running code -/
def Solid (v : Value) : Prop := (∃ a, v = .ref a) ∨ ∃ i t, v = .int i t ∧ (t == 0) = false
section
variable {M : Model} {A : Around} {E : Value → Shared → Prop} {s : Shared}
theorem isSame_int_self {i : Int} {t : Tok} {R : Bool → Shared → Prop} (ht : (t == 0) = false) (h : R true s) : wpAny M A (isSame (.int i t) (.int i t)) R E s := by
  show wpAny M A (if (i == i && smallInt i) = true then isSame.cachedInt t t else isSame.created (i == i) t t) R E s
  have c1 : isSame.cachedInt t t = (do rule "is.small-int-cache"; pure true) := by unfold isSame.cachedInt; rw [ht]; rfl
  have c2 : isSame.created (i == i) t t = pure true := by
    unfold isSame.created
    rw [ht, beq_self_eq_true t]
    rfl
  rw [c1, c2]
  split
  · exact wpAny_bind (wpAny_rule (wpAny_pure h))
  · exact wpAny_pure h
theorem solid_is {v : Value} {Q : Value → Shared → Prop} (S : Solid v) (h : Q (.bool true) s) : wpAny M A (compareOp .Is v v) Q E s := by
  rcases S with ⟨a, rfl⟩ | ⟨i, t, rfl, ht⟩
  · exact wpAny_is_ref_self h
  · show wpAny M A (do return .bool (← isSame (.int i t) (.int i t))) Q E s
    exact wpAny_bind (isSame_int_self ht (wpAny_pure h))
theorem solid_isNot {v : Value} {Q : Value → Shared → Prop} (S : Solid v) (h : Q (.bool false) s) : wpAny M A (compareOp .IsNot v v) Q E s := by
  rcases S with ⟨a, rfl⟩ | ⟨i, t, rfl, ht⟩
  · exact wpAny_isNot_ref_self h
  · show wpAny M A (do return .bool (!(← isSame (.int i t) (.int i t)))) Q E s
    exact wpAny_bind (isSame_int_self ht (wpAny_pure h))
end
theorem le_size {n : Nat} (h : n ≤ 8) : n ≤ sizeLine := Nat.le_trans h (by decide)
theorem le_len {n : Nat} (h : n ≤ 8) : n ≤ 16777216 := Nat.le_trans h (by decide)
theorem le_len2 {n : Nat} (h : n ≤ 8) : n ≤ 16384 := Nat.le_trans h (by decide)
theorem ne_int_self {prog : Program} {w : World} {A : Around} {E : Value → Shared → Prop} {s : Shared} {Q : Value → Shared → Prop} {a : Int} {t u : Tok} (h : Q (.bool false) s) : wpAny (model prog w) A (compareOp .NotEq (.int a t) (.int a u)) Q E s :=
  PyProof.Rows.ne_int (by rw [bne_self_eq_false]; exact h)
section
open LCg LCt
variable {prog : Program} {w : World} {A : Around} {E : Value → Shared → Prop} {s : Shared} {h₀ : Heap} {L : Addr} {m : Str → Option Value} {env : Env} {K : Type} [DecidableEq K] {knd : KeyKind prog w K}
/-- one turn's test says no and leaves the ledger as it was -/
def SaysNo (h₀ : Heap) (L : Addr) (m : Str → Option Value) (s₁ : Shared) (news : List (Addr × Obj)) (ok : Bool) (s' : Shared) : Prop :=
  ok = false ∧ ∃ h' tk', s' = { s₁ with heap := h', toks := tk' } ∧ Fr h₀ L h' m ∧ News h₀ L h' news
/-- the iterable is a dict of the ledger, and no key of it is taken -/
def NoneSrc (prog : Program) (w : World) (A : Around) (h₀ : Heap) (L : Addr) (m : Str → Option Value) (env : Env) {K : Type} [DecidableEq K] (knd : KeyKind prog w K) (ct : Expr) (x : Str) (scope : Scope) (cl : List (Str × Addr)) (Q : Value → Shared → Prop) (xv : Value) (s₁ : Shared) : Prop :=
  ∃ md om news kvs, xv = .ref md ∧ A.handled = none ∧ Fr h₀ L s₁.heap m ∧ News h₀ L s₁.heap news ∧ (md, om) ∈ news ∧ om.IsDictOf knd kvs ∧ (md == sysModules) = false ∧ kvs.length ≤ sizeLine ∧
    (∀ (i : Nat) k y v I oI C oC D m₂ h tk (E' : Value → Shared → Prop), kvs[i]? = some (k, y) → knd.is k v = true → NsObj oC m₂ → m₂ x = some v → Fr h₀ L h m → News h₀ L h ((I, oI) :: (C, oC) :: (D, lst []) :: news) → Off3 I C D news →
      wpAny (model prog w) A (isTrue ct (compEnvC scope cl C env) (eval ct (compEnvC scope cl C env))) (SaysNo h₀ L m { s₁ with heap := h, toks := tk } ((I, oI) :: (C, oC) :: (D, lst []) :: news)) E' { s₁ with heap := h, toks := tk }) ∧
    ∀ D h tk, Fr h₀ L h m → News h₀ L h ((D, lst []) :: news) → Off1 D news → Q (.ref D) { s₁ with heap := h, toks := tk }

theorem none_rest {ct elt : Expr} {x : Str} {scope : Scope} {cl : List (Str × Addr)} {kvs : List (K × Value)} {md : Addr} {om : Obj} {news : List (Addr × Obj)} {s₁ : Shared} (hm : (md, om) ∈ news)
    (step : ∀ (i : Nat) k y v I oI C oC D m₂ h tk (E' : Value → Shared → Prop), kvs[i]? = some (k, y) → knd.is k v = true → NsObj oC m₂ → m₂ x = some v → Fr h₀ L h m → News h₀ L h ((I, oI) :: (C, oC) :: (D, lst []) :: news) → Off3 I C D news →
      wpAny (model prog w) A (isTrue ct (compEnvC scope cl C env) (eval ct (compEnvC scope cl C env))) (SaysNo h₀ L m { s₁ with heap := h, toks := tk } ((I, oI) :: (C, oC) :: (D, lst []) :: news)) E' { s₁ with heap := h, toks := tk }) :
    ∀ n i, CompRestT prog w A h₀ L m env ct elt x scope cl s₁ (fun nw => (md, om) ∈ nw) (fun i v => ∃ k x, kvs[i]? = some (k, x) ∧ knd.is k v = true) (fun ys nw => ys = [] ∧ nw = news) n i [] news
  | 0, _ => CompRestT.zero ⟨rfl, rfl⟩
  | n + 1, i => CompRestT.succ fun v I oI C oC D m₂ h tk E' P1 P2 P3 P4 P5 P6 _ => by
    obtain ⟨k, y, e1, e2⟩ := P1
    refine wpAny_mono (step i k y v I oI C oC D m₂ h tk E' e1 e2 P2 P3 P4 P5 P6) (fun ok s' hs => ?_) fun _ _ e => e
    obtain ⟨rfl, h', tk', rfl, F', N'⟩ := hs
    rw [if_neg (by decide)]
    exact ⟨h', tk', news, rfl, F', N', P6, hm, none_rest hm step n (i + 1)⟩

theorem comp_none {ct elt iter : Expr} {x : Str} {px : Pos} {scope : Scope} {cl : List (Str × Addr)} {pos : Pos} {Q : Value → Shared → Prop} (_F₀ : Fr h₀ L s.heap m)
    (hclos : closureFor scope env = pure cl) (hcell : ∀ y ∈ scope.names, y.2 ≠ .cell) (hkind : scope.kind = .function)
    (hnames : ∀ y ∈ scope.names, y.2 = .local → scope.names.lookup y.1 = some .local) (hx : scope.names.lookup x = some .local)
    (h : wpAny (model prog w) A (eval iter env) (NoneSrc prog w A h₀ L m env knd ct x scope cl Q) E s)
    (hs : ∀ x, foldedSetIterable iter env x = pure x := by intro _; rfl) :
    wpAny (model prog w) A (eval (.ListComp elt [⟨.Name x px, iter, [ct], 0⟩] scope pos) env) Q E s := by
  rw [eval_ListComp]
  refine wpAny_comprehension_free (use := none) rfl hs hclos hkind hnames (wpAny_mono h (fun xv s₁ h₁ => ?_) fun _ _ e => e)
  obtain ⟨md, om, news, kvs, rfl, hh, F, N, hm, hd, lo, hsz, step, fin⟩ := h₁
  obtain ⟨ep, ha⟩ := KdkAt.of hd
  have hat : s₁.heap.DictAt knd md kvs ep := ha.dictAt (N _ hm).1
  have up : ∀ (o : Obj) b o', s₁.heap.get? b = some o' → (s₁.heap.push o).get? b = some o' := fun o b o' e => Heap.get?_push_of_some _ e
  refine wpAny_pyIter_dict lo hat ?_
  refine block_T (S := fun nw => (md, om) ∈ nw) (news := news) (Fin := fun ys nw => ys = [] ∧ nw = news) (Walks.dictKeys (knd := knd) hh s₁.heap.objs.size md (Nat.ne_of_lt hat.lt_size) kvs ep) hsz (fun i h st => by obtain ⟨o, e, _⟩ := st.1; exact ⟨o, e⟩)
    (fun i h h' o nw st e e' k N' hS => ⟨st.1.at fun o' q => by rw [e] at q; cases q; exact e', ha.dictAt (N' _ hS).1⟩) hcell hkind hx ⟨⟨_, Heap.get?_push_size _ rfl, rfl, rfl⟩, hat.push _⟩ (fun b hb => ?_)
    (F.keeps (up _)) (N.grown (up _)) (Nat.ne_of_lt F.ns.lt) (next_is_new F) (fun p hp => Nat.ne_of_lt (Heap.lt_size (N p hp).1)) hm (none_rest (s₁ := { s₁ with heap := s₁.heap.push _ }) hm (fun i k y v I oI C oC D m₂ h tk E' a1 a2 a3 a4 a5 a6 a7 => step i k y v I oI C oC D m₂ h tk E' a1 a2 a3 a4 a5 a6 a7) _ _) ?_
  · show b < (s₁.heap.push _).objs.size
    rw [Heap.size_push]
    rcases List.mem_cons.mp hb with rfl | hb
    · exact Nat.lt_succ_self _
    · rw [List.mem_singleton.mp hb]; exact Nat.lt_succ_of_lt hat.lt_size
  · rintro D C h tk m' ys news' F' N' o1 hn hC₀ hD₀ hCL hDL hCD offC ⟨rfl, rfl⟩
    refine ⟨m', hn, fun h'' hs'' => fin D h'' tk (F'.change hs'' hCL hC₀) (fun p hp => ?_) o1⟩
    refine ⟨hs''.extBut _ _ ?_ (N' p hp).1, (N' p hp).2⟩
    rcases List.mem_cons.mp hp with rfl | hp
    · exact Ne.symm hCD
    · exact offC p hp
end
end Mine
/-! LawDefs -/
namespace Mine
def keys8 : List Str := ["a", "Bc", "D", "_E", "F1", "g_H", "I_J", "K"]
section
variable {prog : Program} {w : World} {A : Around} {E : Value → Shared → Prop} {s : Shared} {h₀ : Heap} {L : Addr} {news : List (Addr × Obj)}
/-- an item of a list of the ledger, at a known place -/
theorem item_led {value slice : PySem.Expr} {l : Addr} {items : Array Value} {c : Nat} {k : Int} {u : Tok} {x : Value} {Q : Value → Shared → Prop} (N : News h₀ L s.heap news) (hm : (l, W.listOf items c) ∈ news)
    (h0 : 0 ≤ k) (hfit : k < 2 ^ 63) (hx : items[k.toNat]? = some x) (h : Q x s)
    (hs : subscripted slice false (.ref l) (.int k u) = operate [.ref l, .int k u] (getItem (.ref l) (.int k u)) := by with_unfolding_all rfl) :
    wpAny (model prog w) A (subscriptTail value slice (.ref l) (.int k u)) Q E s :=
  have hl : s.heap.IsList l items := ⟨_, (N _ hm).1, rfl, c, rfl⟩
  tail_any hl.typeIs slot_list_getitem.lookup (wpAny_getItem_list hl h0 hfit hx h) hs
/-- one of the eight keys, whichever it is -/
theorem item_key {value slice : PySem.Expr} {l : Addr} {t0 t1 t2 t3 t4 t5 t6 t7 : Tok} {c : Nat} {k : Int} {u : Tok} {Q : Value → Shared → Prop} (N : News h₀ L s.heap news)
    (hm : (l, W.listOf #[.str "a" t0, .str "Bc" t1, .str "D" t2, .str "_E" t3, .str "F1" t4, .str "g_H" t5, .str "I_J" t6, .str "K" t7] c) ∈ news)
    (h0 : 0 ≤ k) (h8 : k < 8) (h : ∀ x t, x ∈ keys8 → Q (.str x t) s)
    (hs : subscripted slice false (.ref l) (.int k u) = operate [.ref l, .int k u] (getItem (.ref l) (.int k u)) := by with_unfolding_all rfl) :
    wpAny (model prog w) A (subscriptTail value slice (.ref l) (.int k u)) Q E s := by
  have e : k.toNat = 0 ∨ k.toNat = 1 ∨ k.toNat = 2 ∨ k.toNat = 3 ∨ k.toNat = 4 ∨ k.toNat = 5 ∨ k.toNat = 6 ∨ k.toNat = 7 := by omega
  have hf : k < 2 ^ 63 := by
    have : (2 : Int) ^ 63 = 9223372036854775808 := by decide
    omega
  rcases e with e | e | e | e | e | e | e | e
  · exact item_led N hm h0 hf (by rw [e]; rfl) (h _ _ (by decide)) hs
  · exact item_led N hm h0 hf (by rw [e]; rfl) (h _ _ (by decide)) hs
  · exact item_led N hm h0 hf (by rw [e]; rfl) (h _ _ (by decide)) hs
  · exact item_led N hm h0 hf (by rw [e]; rfl) (h _ _ (by decide)) hs
  · exact item_led N hm h0 hf (by rw [e]; rfl) (h _ _ (by decide)) hs
  · exact item_led N hm h0 hf (by rw [e]; rfl) (h _ _ (by decide)) hs
  · exact item_led N hm h0 hf (by rw [e]; rfl) (h _ _ (by decide)) hs
  · exact item_led N hm h0 hf (by rw [e]; rfl) (h _ _ (by decide)) hs
end

/-- what may stand under a key beside a def -/
def ThingOk (v : Value) : Prop := v = .ref 191 ∨ ∃ i t, v = .int i t ∧ (t == 0) = false
/-- the model's rows of one key -/
def RowLists (news : List (Addr × Obj)) : List Value → List Nat → Prop
  | [], [] => True
  | v :: vs, n :: ns => (∃ a c t, v = .ref a ∧ (a, W.listOf #[.str (xN n) t] c) ∈ news) ∧ RowLists news vs ns
  | _, _ => False
def RowsAre (news : List (Addr × Obj)) (rl : Addr) (ns : List Nat) : Prop := ∃ items c, (rl, W.listOf items c) ∈ news ∧ RowLists news items.toList ns
/-- a def that was put, and the next that is due -/
def DefOk (P : Params) (news : List (Addr × Obj)) (v u : Value) : Prop :=
  ∃ f d t1 t2 t3 t4 t5 nm rl li, v = .ref f ∧ (f, instObj 53 d) ∈ news ∧ (d, dictOf (rfEs P t1 t2 t3 t4 t5 nm (.ref rl) li u) 5) ∈ news ∧ (u = .none ∨ ∃ a, u = .ref a)
def DefsOk (P : Params) (news : List (Addr × Obj)) : List Value → List Value → Prop
  | [], [] => True
  | v :: vs, u :: us => DefOk P news v u ∧ DefsOk P news vs us
  | _, _ => False
/-- what stands under one key -/
def UnderKey (P : Params) (news : List (Addr × Obj)) (v : Value) (r : Option Value) (b : Nat) : Prop :=
  (r = none ∧ ThingOk v) ∨ ∃ rl n ns, r = some (.ref rl) ∧ Chain P news v (n :: ns) ∧ RowsAre news rl (n :: ns) ∧ (n :: ns).length ≤ b
structure LawOk (w : World) (i : Nat) (x dx md df nx rw : Addr) (es : Array DictEntry) (kvs : List (Str × Value)) (om orw : Obj) (rws : List (Str × Value)) (defs nexts : Array Value) (rest : List (Addr × Obj)) : Prop where
  ents : Ents w es kvs
  model : om.IsDictOf (PySem.strKind PySem.Challenge.rw_bc6014_01.row.prog w) kvs
  rows : orw.IsDictOf (PySem.strKind PySem.Challenge.rw_bc6014_01.row.prog w) rws
  kin : ∀ k v, valueAt kvs k = some v → k ∈ keys8
  rsub : ∀ k, valueAt kvs k = none → valueAt rws k = none
  under : ∀ k v, valueAt kvs k = some v → UnderKey w.params rest v (valueAt rws k) i
  lox : (x == sysModules) = false
  lom : (md == sysModules) = false
  lor : (rw == sysModules) = false
  a1 : @Ne Nat dx x
  a2 : @Ne Nat md x ∧ @Ne Nat md dx
  a3 : @Ne Nat df x ∧ @Ne Nat df dx ∧ @Ne Nat df md
  a4 : @Ne Nat nx x ∧ @Ne Nat nx dx ∧ @Ne Nat nx md ∧ @Ne Nat nx df
  a5 : @Ne Nat rw x ∧ @Ne Nat rw dx ∧ @Ne Nat rw md ∧ @Ne Nat rw df ∧ @Ne Nat rw nx
  off : ∀ p ∈ rest, @Ne Nat p.1 x ∧ @Ne Nat p.1 dx ∧ @Ne Nat p.1 md ∧ @Ne Nat p.1 df ∧ @Ne Nat p.1 nx ∧ @Ne Nat p.1 rw
  dlen : defs.size ≤ i
  nlen : nexts.size = defs.size
  dok : DefsOk w.params rest defs.toList nexts.toList
def LawJ (w : World) (i : Nat) (m : Str → Option Value) (news : List (Addr × Obj)) : Prop :=
  ∃ x dx md df nx rw es ep kvs od om orw rws defs cd nexts cn rest,
    m "attributes" = some (.ref x) ∧ m "model" = some (.ref md) ∧ m "defs" = some (.ref df) ∧ m "nexts" = some (.ref nx) ∧ m "rows" = some (.ref rw) ∧
    news = (x, pmdO dx es ep) :: (dx, od) :: (md, om) :: (df, W.listOf defs cd) :: (nx, W.listOf nexts cn) :: (rw, orw) :: rest ∧ LawOk w i x dx md df nx rw es kvs om orw rws defs nexts rest
theorem news_first {h₀ h : Heap} {L : Addr} {a b c d e f g : Addr × Obj} {r : List (Addr × Obj)} (N : News h₀ L h (a :: b :: c :: d :: e :: f :: g :: r)) : News h₀ L h (g :: e :: f :: d :: c :: b :: a :: r) := fun p hp => N p (by
  simp only [List.mem_cons] at hp ⊢
  rcases hp with h | h | h | h | h | h | h | h <;> simp [h])
theorem law_start {w : World} {x dx md df nx rw : Addr} {om orw od : Obj} {rest : List (Addr × Obj)} {m : Str → Option Value} (e1 : m "attributes" = some (.ref x)) (e2 : m "model" = some (.ref md)) (e3 : m "defs" = some (.ref df)) (e4 : m "nexts" = some (.ref nx)) (e5 : m "rows" = some (.ref rw))
    (hm : om.IsDictOf (PySem.strKind PySem.Challenge.rw_bc6014_01.row.prog w) []) (hr : orw.IsDictOf (PySem.strKind PySem.Challenge.rw_bc6014_01.row.prog w) []) (lox : (x == sysModules) = false) (lom : (md == sysModules) = false) (lor : (rw == sysModules) = false)
    (a1 : @Ne Nat dx x) (a2 : @Ne Nat md x ∧ @Ne Nat md dx) (a3 : @Ne Nat df x ∧ @Ne Nat df dx ∧ @Ne Nat df md) (a4 : @Ne Nat nx x ∧ @Ne Nat nx dx ∧ @Ne Nat nx md ∧ @Ne Nat nx df) (a5 : @Ne Nat rw x ∧ @Ne Nat rw dx ∧ @Ne Nat rw md ∧ @Ne Nat rw df ∧ @Ne Nat rw nx)
    (off : ∀ p ∈ rest, @Ne Nat p.1 x ∧ @Ne Nat p.1 dx ∧ @Ne Nat p.1 md ∧ @Ne Nat p.1 df ∧ @Ne Nat p.1 nx ∧ @Ne Nat p.1 rw) (he : Ents w #[] []) :
    LawJ w 0 m ((x, pmdO dx #[] 0) :: (dx, od) :: (md, om) :: (df, W.listOf #[] 0) :: (nx, W.listOf #[] 0) :: (rw, orw) :: rest) :=
  ⟨x, dx, md, df, nx, rw, #[], 0, [], od, om, orw, [], #[], 0, #[], 0, rest, e1, e2, e3, e4, e5, rfl, he, hm, hr, (fun k v e => by cases e), (fun k e => rfl), (fun k v e => by cases e), lox, lom, lor, a1, a2, a3, a4, a5, off, Nat.le_refl _, rfl, trivial⟩
theorem mform5 {m : Str → Option Value} {v1 v2 v3 v4 v5 : Value} (e1 : m "attributes" = some v1) (e2 : m "model" = some v2) (e3 : m "defs" = some v3) (e4 : m "nexts" = some v4) (e5 : m "rows" = some v5) :
    m = fun (y : Str) => if y = "attributes" then some v1 else if y = "model" then some v2 else if y = "defs" then some v3 else if y = "nexts" then some v4 else if y = "rows" then some v5 else m y := by
  funext y
  by_cases q1 : y = "attributes"
  · rw [if_pos q1, q1, e1]
  rw [if_neg q1]
  by_cases q2 : y = "model"
  · rw [if_pos q2, q2, e2]
  rw [if_neg q2]
  by_cases q3 : y = "defs"
  · rw [if_pos q3, q3, e3]
  rw [if_neg q3]
  by_cases q4 : y = "nexts"
  · rw [if_pos q4, q4, e4]
  rw [if_neg q4]
  by_cases q5 : y = "rows"
  · rw [if_pos q5, q5, e5]
  rw [if_neg q5]
end Mine
/-! LawBody -/
namespace Mine
/-- the def of the law, read off the program -/
noncomputable def lawStmts : List Stmt := match PySem.Challenge.rw_bc6014_01.row.prog.main.body.getLast? with
  | some (.FunctionDef _ _ b _ _ _ _ _ _ _) => b
  | _ => []
noncomputable def lawScope : Scope := match PySem.Challenge.rw_bc6014_01.row.prog.main.body.getLast? with
  | some (.FunctionDef _ _ _ _ _ _ sc _ _ _) => sc
  | _ => { kind := .function, names := [], isGenerator := false, isCoroutine := false, more := [] }
noncomputable def lawBody : List Stmt := match lawStmts.drop 7 with
  | .For _ _ b _ _ :: _ => b
  | _ => []
theorem fm0 (a : Int) : 0 ≤ a.fmod 8 := by
  rw [Int.fmod_eq_emod_of_nonneg _ (by decide)]
  omega
theorem fm8 (a : Int) : a.fmod 8 < 8 := by
  rw [Int.fmod_eq_emod_of_nonneg _ (by decide)]
  omega
end Mine
/-! SetNew -/
namespace Mine
local macro_rules | `(tactic| k_mem) => `(tactic| focus ((repeat (first | exact List.Mem.head _ | assumption | refine List.mem_cons_of_mem _ ?_)); done))
local macro_rules | `(tactic| k_room) => `(tactic| first | assumption | ((try dsimp only [Around.deeper, ktrTop, Around.mark, callerA]); omega) | ktr_room)
local macro_rules | `(tactic| ks_enter) => `(tactic| (refine' ks_code_super ?k1 ?k2 ?k3 ?k4 ?k5 ?kA ?kF ?kK ?k6 ?k7 ?k8 ?k9 ?kB ?_ ?c1 ?c2 ?c3 ?c4; (case kA => exact rfl); (case kF => exact rfl); (case kK => first | exact rfl | assumption); (case k1 => k_asm); (case k2 => k_asm); (case k3 => k_asm); (case k4 => k_asm); (case k5 => k_asm); (case k6 => k_is); (case k7 => k_is); (case k8 => k_room); (case k9 => exact BindsTo.of_eq rfl); (case kB => exact locs rfl); (case c1 => decide); (case c2 => exact rfl); (case c3 => exact rfl); (case c4 => exact rfl); intro g' L' h' FG' F' N' B' X' T' l1; (try k_lt l1); (try dsimp only); (try k_lift B')))
local macro_rules | `(tactic| k_units) => `(tactic| first | assumption | ((try dsimp only [Around.deeper, ktrTop, Around.mark, callerA]); have hcL9 := cLine_is; omega) | ktr_units)
local macro_rules | `(tactic| k_all) => `(tactic| assumption)
local macro_rules | `(tactic| k_inst) => `(tactic| (refine' pm_inst ?N ?h1 ?h2; (case N => k_asm); (case h1 => k_mem); (case h2 => k_mem)))
local macro_rules | `(tactic| walk_at "compareOp NotIn str ref") => `(tactic| (k_here; k_dflt (refine' pm_notin_some ?X ?F ?N ?h1 ?h2 ?hm ?hc ?lo ?H ?hv ?_; (case X => k_asm); (case F => k_asm); (case N => k_asm); (case h1 => k_mem); (case h2 => k_mem); (case hm => k_is); (case hc => k_is); (case lo => k_asm); (case H => k_asm); (case hv => k_asm))))
local macro_rules | `(tactic| walk_at "compareOp NotIn str ref") => `(tactic| (k_here; k_dflt (refine' pm_notin_none ?X ?F ?N ?h1 ?h2 ?hm ?hc ?lo ?H ?hv ?_; (case X => k_asm); (case F => k_asm); (case N => k_asm); (case h1 => k_mem); (case h2 => k_mem); (case hm => k_is); (case hc => k_is); (case lo => k_asm); (case H => k_asm); (case hv => k_asm))))
local macro_rules | `(tactic| walk_at "compareOp In str ref") => `(tactic| (k_here; k_dflt (refine' pm_in_some ?X ?F ?N ?h1 ?h2 ?hm ?hc ?lo ?H ?hv ?_; (case X => k_asm); (case F => k_asm); (case N => k_asm); (case h1 => k_mem); (case h2 => k_mem); (case hm => k_is); (case hc => k_is); (case lo => k_asm); (case H => k_asm); (case hv => k_asm))))
local macro_rules | `(tactic| walk_at "compareOp In str ref") => `(tactic| (k_here; k_dflt (refine' pm_in_none ?X ?F ?N ?h1 ?h2 ?hm ?hc ?lo ?H ?hv ?_; (case X => k_asm); (case F => k_asm); (case N => k_asm); (case h1 => k_mem); (case h2 => k_mem); (case hm => k_is); (case hc => k_is); (case lo => k_asm); (case H => k_asm); (case hv => k_asm))))
local macro_rules | `(tactic| walk_at "getMethod ref") => `(tactic| (k_here; (with_reducible show wpAny _ _ (getMethod _ (Str.ofString "__getitem__") _) _ _ _); k_dflt (refine' pm_method_get ?F ?X ?N ?h1 ?h2 ?h3 ?ho ?ok ?hm ?_; (case F => k_asm); (case X => k_asm); (case N => k_asm); (case h1 => k_mem); (case h2 => k_mem); (case h3 => k_mem); (case ho => k_is); (case ok => kernel_rfl); (case hm => kernel_rfl); intro q' h' F' N' l1; (try k_lt l1))))
local macro_rules | `(tactic| walk_at "getMethod ref") => `(tactic| (k_here; (with_reducible show wpAny _ _ (getMethod _ (Str.ofString "__setitem__") _) _ _ _); k_dflt (refine' pm_method_set ?F ?X ?N ?h1 ?h2 ?h3 ?ho ?ok ?hm ?_; (case F => k_asm); (case X => k_asm); (case N => k_asm); (case h1 => k_mem); (case h2 => k_mem); (case h3 => k_mem); (case ho => k_is); (case ok => kernel_rfl); (case hm => kernel_rfl); intro q' h' F' N' l1; (try k_lt l1))))
local macro_rules | `(tactic| walk_at "callWith ref") => `(tactic| (k_here; k_dflt (refine' callWith_B ?N ?hq ?hT ?_; (case N => k_asm); (case hq => k_mem); (case hT => first | exact .inl rfl | exact .inr rfl); k_whole)))
local macro_rules | `(tactic| walk_at "And") => `(tactic| ((with_reducible show BndP _ _ _ _ _ ∧ _); refine ⟨bndP (by k_asm) (by k_mem), ?_⟩; try dsimp only [List.nil_append, List.cons_append]))
local macro_rules | `(tactic| walk_at "call ref") => `(tactic| (k_here; (with_reducible show wpAny _ _ (call _ [Value.str _ _]) _ _ _); k_dflt (refine' pm_call_get ?X ?F ?N ?hq ?hx ?hdx ?hcd ?hmod ?hty ?H ?hv ?_; (case X => k_asm); (case F => k_asm); (case N => k_asm); (case hq => k_mem); (case hx => k_mem); (case hdx => k_mem); (case hcd => kernel_rfl); (case hmod => k_is); (case hty => k_is); (case H => k_asm); (case hv => k_asm))))
local macro_rules | `(tactic| walk_at "call ref") => `(tactic| (k_here; (with_reducible show wpAny _ _ (call _ [Value.str _ _, _]) _ _ _); k_dflt (refine' pm_call_set ?X ?F ?N ?hq ?hx ?hdx ?U ?ho ?H ?hsz ?_; (case X => k_asm); (case F => k_asm); (case N => k_asm); (case hq => k_mem); (case hx => k_mem); (case hdx => k_mem); (case U => k_updF); (case ho => k_is); (case H => k_asm); (case hsz => k_asm); intro es' ep' h' F' N' H'; (try dsimp only at N'))))
local macro_rules | `(tactic| walk_at "wpAt") => `(tactic| (ks_step "eval Call"; with_unfolding_all refine ks_wpAt_MethodCall ?_))
local macro_rules | `(tactic| walk_at "BndP") => `(tactic| (k_dflt (refine' bndP ?N ?hq; (case N => k_asm); (case hq => k_mem))))
local macro_rules | `(tactic| walk_at "wpAt") => `(tactic| (dsimp only; ks_step "execs cons"; refine ks_wpAt_execs_cons ?_))
local macro_rules | `(tactic| walk_at "wpAt") => `(tactic| (ks_step "exec Expr"; with_unfolding_all refine ks_wpAt_Expr_any ?_))
local macro_rules | `(tactic| walk_at "call builtin:callable") => `(tactic| (k_here; k_dflt (first
  | ((with_reducible show wpAny _ _ (call _ [Value.int _ _]) _ _ _); refine callable_int ?_)
  | (refine' callable_K ?X ?F ?e ?_; (case X => k_asm); (case F => k_asm); (case e => k_is))
  | (refine' callable_inst ?X ?F ?I ?e ?_; (case X => k_asm); (case F => k_asm); (case I => k_inst); (case e => k_is)))))
local macro_rules | `(tactic| walk_at "call builtin:hasattr") => `(tactic| (k_here; k_dflt (first
  | ((with_reducible show wpAny _ _ (call _ [Value.int _ _, _]) _ _ _); refine ha_intK (by exact rfl) (by k_asm) (by k_asm) ?_; intro h' tk' F' N')
  | (refine' ha_fnK ?hA ?X ?F ?N ?e ?_; (case hA => exact rfl); (case X => k_asm); (case F => k_asm); (case N => k_asm); (case e => k_is); intro h' tk' F' N')
  | (refine' ha_instK ?X ?F ?I ?hg ?hm ?hh ?ha ?hn ?hl ?hv ?_; (case X => k_asm); (case F => k_asm); (case I => k_inst); (case hg => k_is); (case hm => k_is); (case hh => k_is); (case ha => k_is); (case hn => k_is); (case hl => k_get); (case hv => k_handed)))))
local macro_rules | `(tactic| walk_at "call builtin:getattr") => `(tactic| (k_here; k_dflt (refine' getattr3_K ?X ?F ?I ?hg ?hm ?hh ?hs ?ha ?hn ?hl ?hv ?_; (case X => k_asm); (case F => k_asm); (case I => k_inst); (case hg => k_is); (case hm => k_is); (case hh => k_is); (case hs => decide +kernel); (case ha => k_is); (case hn => k_is); (case hl => k_get); (case hv => k_handed))))
set_option maxHeartbeats 8000000 in
theorem set_new {w : World} {p : Program} {loose : List Str} {mean : ExcName → Option Value} {mg mb : Str → Option Value} {dp un : Nat} {gd : Option (List Code)} {cn : Str} {cs : Scope} {a : Addr} {ccd : Value} {cl : List (Str × Addr)} {outer : List Env} {A₀ : Around} {base h₀ : Heap} {L : Addr} {m : Str → Option Value} {s : Shared}
    {x dx : Addr} {es : Array DictEntry} {ep : Nat} {kvs : List (Str × Value)} {k : Str} {t : Tok} {od : Obj} {rest : List (Addr × Obj)} {Q E : Value → Shared → Prop} {v : Value}
    (B : Below A₀ base outer h₀) (F : Fr h₀ L s.heap m) (X : (Mine.hd.heap_39 w.params).In h₀) (N : News h₀ L s.heap ((x, pmdO dx es ep) :: (dx, od) :: rest)) (T : Top p loose mean mg mb h₀) (hk : cs.kind = .function) (hd : dp + 20 < recursionLimit) (hu : un + 80 < cLine)
    (hne : @Ne Nat dx x) (hr : ∀ p ∈ rest, p.1 ≠ x) (lo : (x == sysModules) = false) (H : Ents w es kvs) (hz : kvs.length ≤ sizeLine)
    (hv : valueAt kvs k = none)
    (ret : ∀ es' ep' h' tk, Fr h₀ L h' m → News h₀ L h' ((x, pmdO dx es' ep') :: (dx, od) :: rest) → Ents w es' (stored kvs k v) → Q .none { s with heap := h', toks := tk }) :
    wpAny (model PySem.Challenge.rw_bc6014_01.row.prog w) (ktrTop dp un gd cn cs L a ccd cl outer) (call (.ref 155) [.ref x, .str k t, v]) Q E s := by
  w_top off; revert X; k_fill; intro X
  refine wpAny_call ?_
  k_dflt ks_enter
  k_steps
  rename (News h₀ L _ (_ :: _)) => N9
  exact ret _ _ _ _ (by assumption) (fun p hp => N9 p (.tail _ (.tail _ hp))) (by assumption)

end Mine
/-! SetInt -/
namespace Mine
local macro_rules | `(tactic| k_mem) => `(tactic| focus ((repeat (first | exact List.Mem.head _ | assumption | refine List.mem_cons_of_mem _ ?_)); done))
local macro_rules | `(tactic| k_room) => `(tactic| first | assumption | ((try dsimp only [Around.deeper, ktrTop, Around.mark, callerA]); omega) | ktr_room)
local macro_rules | `(tactic| ks_enter) => `(tactic| (refine' ks_code_super ?k1 ?k2 ?k3 ?k4 ?k5 ?kA ?kF ?kK ?k6 ?k7 ?k8 ?k9 ?kB ?_ ?c1 ?c2 ?c3 ?c4; (case kA => exact rfl); (case kF => exact rfl); (case kK => first | exact rfl | assumption); (case k1 => k_asm); (case k2 => k_asm); (case k3 => k_asm); (case k4 => k_asm); (case k5 => k_asm); (case k6 => k_is); (case k7 => k_is); (case k8 => k_room); (case k9 => exact BindsTo.of_eq rfl); (case kB => exact locs rfl); (case c1 => decide); (case c2 => exact rfl); (case c3 => exact rfl); (case c4 => exact rfl); intro g' L' h' FG' F' N' B' X' T' l1; (try k_lt l1); (try dsimp only); (try k_lift B')))
local macro_rules | `(tactic| k_units) => `(tactic| first | assumption | ((try dsimp only [Around.deeper, ktrTop, Around.mark, callerA]); have hcL9 := cLine_is; omega) | ktr_units)
local macro_rules | `(tactic| k_all) => `(tactic| assumption)
local macro_rules | `(tactic| k_inst) => `(tactic| (refine' pm_inst ?N ?h1 ?h2; (case N => k_asm); (case h1 => k_mem); (case h2 => k_mem)))
local macro_rules | `(tactic| walk_at "compareOp NotIn str ref") => `(tactic| (k_here; k_dflt (refine' pm_notin_some ?X ?F ?N ?h1 ?h2 ?hm ?hc ?lo ?H ?hv ?_; (case X => k_asm); (case F => k_asm); (case N => k_asm); (case h1 => k_mem); (case h2 => k_mem); (case hm => k_is); (case hc => k_is); (case lo => k_asm); (case H => k_asm); (case hv => k_asm))))
local macro_rules | `(tactic| walk_at "compareOp NotIn str ref") => `(tactic| (k_here; k_dflt (refine' pm_notin_none ?X ?F ?N ?h1 ?h2 ?hm ?hc ?lo ?H ?hv ?_; (case X => k_asm); (case F => k_asm); (case N => k_asm); (case h1 => k_mem); (case h2 => k_mem); (case hm => k_is); (case hc => k_is); (case lo => k_asm); (case H => k_asm); (case hv => k_asm))))
local macro_rules | `(tactic| walk_at "compareOp In str ref") => `(tactic| (k_here; k_dflt (refine' pm_in_some ?X ?F ?N ?h1 ?h2 ?hm ?hc ?lo ?H ?hv ?_; (case X => k_asm); (case F => k_asm); (case N => k_asm); (case h1 => k_mem); (case h2 => k_mem); (case hm => k_is); (case hc => k_is); (case lo => k_asm); (case H => k_asm); (case hv => k_asm))))
local macro_rules | `(tactic| walk_at "compareOp In str ref") => `(tactic| (k_here; k_dflt (refine' pm_in_none ?X ?F ?N ?h1 ?h2 ?hm ?hc ?lo ?H ?hv ?_; (case X => k_asm); (case F => k_asm); (case N => k_asm); (case h1 => k_mem); (case h2 => k_mem); (case hm => k_is); (case hc => k_is); (case lo => k_asm); (case H => k_asm); (case hv => k_asm))))
local macro_rules | `(tactic| walk_at "getMethod ref") => `(tactic| (k_here; (with_reducible show wpAny _ _ (getMethod _ (Str.ofString "__getitem__") _) _ _ _); k_dflt (refine' pm_method_get ?F ?X ?N ?h1 ?h2 ?h3 ?ho ?ok ?hm ?_; (case F => k_asm); (case X => k_asm); (case N => k_asm); (case h1 => k_mem); (case h2 => k_mem); (case h3 => k_mem); (case ho => k_is); (case ok => kernel_rfl); (case hm => kernel_rfl); intro q' h' F' N' l1; (try k_lt l1))))
local macro_rules | `(tactic| walk_at "getMethod ref") => `(tactic| (k_here; (with_reducible show wpAny _ _ (getMethod _ (Str.ofString "__setitem__") _) _ _ _); k_dflt (refine' pm_method_set ?F ?X ?N ?h1 ?h2 ?h3 ?ho ?ok ?hm ?_; (case F => k_asm); (case X => k_asm); (case N => k_asm); (case h1 => k_mem); (case h2 => k_mem); (case h3 => k_mem); (case ho => k_is); (case ok => kernel_rfl); (case hm => kernel_rfl); intro q' h' F' N' l1; (try k_lt l1))))
local macro_rules | `(tactic| walk_at "callWith ref") => `(tactic| (k_here; k_dflt (refine' callWith_B ?N ?hq ?hT ?_; (case N => k_asm); (case hq => k_mem); (case hT => first | exact .inl rfl | exact .inr rfl); k_whole)))
local macro_rules | `(tactic| walk_at "And") => `(tactic| ((with_reducible show BndP _ _ _ _ _ ∧ _); refine ⟨bndP (by k_asm) (by k_mem), ?_⟩; try dsimp only [List.nil_append, List.cons_append]))
local macro_rules | `(tactic| walk_at "call ref") => `(tactic| (k_here; (with_reducible show wpAny _ _ (call _ [Value.str _ _]) _ _ _); k_dflt (refine' pm_call_get ?X ?F ?N ?hq ?hx ?hdx ?hcd ?hmod ?hty ?H ?hv ?_; (case X => k_asm); (case F => k_asm); (case N => k_asm); (case hq => k_mem); (case hx => k_mem); (case hdx => k_mem); (case hcd => kernel_rfl); (case hmod => k_is); (case hty => k_is); (case H => k_asm); (case hv => k_asm))))
local macro_rules | `(tactic| walk_at "call ref") => `(tactic| (k_here; (with_reducible show wpAny _ _ (call _ [Value.str _ _, _]) _ _ _); k_dflt (refine' pm_call_set ?X ?F ?N ?hq ?hx ?hdx ?U ?ho ?H ?hsz ?_; (case X => k_asm); (case F => k_asm); (case N => k_asm); (case hq => k_mem); (case hx => k_mem); (case hdx => k_mem); (case U => k_updF); (case ho => k_is); (case H => k_asm); (case hsz => k_asm); intro es' ep' h' F' N' H'; (try dsimp only at N'))))
local macro_rules | `(tactic| walk_at "wpAt") => `(tactic| (ks_step "eval Call"; with_unfolding_all refine ks_wpAt_MethodCall ?_))
local macro_rules | `(tactic| walk_at "BndP") => `(tactic| (k_dflt (refine' bndP ?N ?hq; (case N => k_asm); (case hq => k_mem))))
local macro_rules | `(tactic| walk_at "wpAt") => `(tactic| (dsimp only; ks_step "execs cons"; refine ks_wpAt_execs_cons ?_))
local macro_rules | `(tactic| walk_at "wpAt") => `(tactic| (ks_step "exec Expr"; with_unfolding_all refine ks_wpAt_Expr_any ?_))
local macro_rules | `(tactic| walk_at "call builtin:callable") => `(tactic| (k_here; k_dflt (first
  | ((with_reducible show wpAny _ _ (call _ [Value.int _ _]) _ _ _); refine callable_int ?_)
  | (refine' callable_K ?X ?F ?e ?_; (case X => k_asm); (case F => k_asm); (case e => k_is))
  | (refine' callable_inst ?X ?F ?I ?e ?_; (case X => k_asm); (case F => k_asm); (case I => k_inst); (case e => k_is)))))
local macro_rules | `(tactic| walk_at "call builtin:hasattr") => `(tactic| (k_here; k_dflt (first
  | ((with_reducible show wpAny _ _ (call _ [Value.int _ _, _]) _ _ _); refine ha_intK (by exact rfl) (by k_asm) (by k_asm) ?_; intro h' tk' F' N')
  | (refine' ha_fnK ?hA ?X ?F ?N ?e ?_; (case hA => exact rfl); (case X => k_asm); (case F => k_asm); (case N => k_asm); (case e => k_is); intro h' tk' F' N')
  | (refine' ha_instK ?X ?F ?I ?hg ?hm ?hh ?ha ?hn ?hl ?hv ?_; (case X => k_asm); (case F => k_asm); (case I => k_inst); (case hg => k_is); (case hm => k_is); (case hh => k_is); (case ha => k_is); (case hn => k_is); (case hl => k_get); (case hv => k_handed)))))
local macro_rules | `(tactic| walk_at "call builtin:getattr") => `(tactic| (k_here; k_dflt (refine' getattr3_K ?X ?F ?I ?hg ?hm ?hh ?hs ?ha ?hn ?hl ?hv ?_; (case X => k_asm); (case F => k_asm); (case I => k_inst); (case hg => k_is); (case hm => k_is); (case hh => k_is); (case hs => decide +kernel); (case ha => k_is); (case hn => k_is); (case hl => k_get); (case hv => k_handed))))
set_option maxHeartbeats 8000000 in
theorem set_int {w : World} {p : Program} {loose : List Str} {mean : ExcName → Option Value} {mg mb : Str → Option Value} {dp un : Nat} {gd : Option (List Code)} {cn : Str} {cs : Scope} {a : Addr} {ccd : Value} {cl : List (Str × Addr)} {outer : List Env} {A₀ : Around} {base h₀ : Heap} {L : Addr} {m : Str → Option Value} {s : Shared}
    {x dx : Addr} {es : Array DictEntry} {ep : Nat} {kvs : List (Str × Value)} {k : Str} {t : Tok} {od : Obj} {rest : List (Addr × Obj)} {Q E : Value → Shared → Prop} {v₀ : Value} {i : Int} {ti : Tok}
    (B : Below A₀ base outer h₀) (F : Fr h₀ L s.heap m) (X : (Mine.hd.heap_39 w.params).In h₀) (N : News h₀ L s.heap ((x, pmdO dx es ep) :: (dx, od) :: rest)) (T : Top p loose mean mg mb h₀) (hk : cs.kind = .function) (hd : dp + 20 < recursionLimit) (hu : un + 80 < cLine)
    (hne : @Ne Nat dx x) (hr : ∀ p ∈ rest, p.1 ≠ x) (lo : (x == sysModules) = false) (H : Ents w es kvs) (hz : kvs.length ≤ sizeLine)
    (hv : valueAt kvs k = some v₀)
    (ret : ∀ es' ep' h' tk, Fr h₀ L h' m → News h₀ L h' ((x, pmdO dx es' ep') :: (dx, od) :: rest) → Ents w es' (stored kvs k (.int i ti)) → Q .none { s with heap := h', toks := tk }) :
    wpAny (model PySem.Challenge.rw_bc6014_01.row.prog w) (ktrTop dp un gd cn cs L a ccd cl outer) (call (.ref 155) [.ref x, .str k t, (.int i ti)]) Q E s := by
  w_top off; revert X; k_fill; intro X
  refine wpAny_call ?_
  k_dflt ks_enter
  k_steps
  rename (News h₀ L _ (_ :: _)) => N9
  exact ret _ _ _ _ (by assumption) (fun p hp => N9 p (.tail _ (.tail _ hp))) (by assumption)

end Mine
/-! SetFn -/
namespace Mine
local macro_rules | `(tactic| k_mem) => `(tactic| focus ((repeat (first | exact List.Mem.head _ | assumption | refine List.mem_cons_of_mem _ ?_)); done))
local macro_rules | `(tactic| k_room) => `(tactic| first | assumption | ((try dsimp only [Around.deeper, ktrTop, Around.mark, callerA]); omega) | ktr_room)
local macro_rules | `(tactic| ks_enter) => `(tactic| (refine' ks_code_super ?k1 ?k2 ?k3 ?k4 ?k5 ?kA ?kF ?kK ?k6 ?k7 ?k8 ?k9 ?kB ?_ ?c1 ?c2 ?c3 ?c4; (case kA => exact rfl); (case kF => exact rfl); (case kK => first | exact rfl | assumption); (case k1 => k_asm); (case k2 => k_asm); (case k3 => k_asm); (case k4 => k_asm); (case k5 => k_asm); (case k6 => k_is); (case k7 => k_is); (case k8 => k_room); (case k9 => exact BindsTo.of_eq rfl); (case kB => exact locs rfl); (case c1 => decide); (case c2 => exact rfl); (case c3 => exact rfl); (case c4 => exact rfl); intro g' L' h' FG' F' N' B' X' T' l1; (try k_lt l1); (try dsimp only); (try k_lift B')))
local macro_rules | `(tactic| k_units) => `(tactic| first | assumption | ((try dsimp only [Around.deeper, ktrTop, Around.mark, callerA]); have hcL9 := cLine_is; omega) | ktr_units)
local macro_rules | `(tactic| k_all) => `(tactic| assumption)
local macro_rules | `(tactic| k_inst) => `(tactic| (refine' pm_inst ?N ?h1 ?h2; (case N => k_asm); (case h1 => k_mem); (case h2 => k_mem)))
local macro_rules | `(tactic| walk_at "compareOp NotIn str ref") => `(tactic| (k_here; k_dflt (refine' pm_notin_some ?X ?F ?N ?h1 ?h2 ?hm ?hc ?lo ?H ?hv ?_; (case X => k_asm); (case F => k_asm); (case N => k_asm); (case h1 => k_mem); (case h2 => k_mem); (case hm => k_is); (case hc => k_is); (case lo => k_asm); (case H => k_asm); (case hv => k_asm))))
local macro_rules | `(tactic| walk_at "compareOp NotIn str ref") => `(tactic| (k_here; k_dflt (refine' pm_notin_none ?X ?F ?N ?h1 ?h2 ?hm ?hc ?lo ?H ?hv ?_; (case X => k_asm); (case F => k_asm); (case N => k_asm); (case h1 => k_mem); (case h2 => k_mem); (case hm => k_is); (case hc => k_is); (case lo => k_asm); (case H => k_asm); (case hv => k_asm))))
local macro_rules | `(tactic| walk_at "compareOp In str ref") => `(tactic| (k_here; k_dflt (refine' pm_in_some ?X ?F ?N ?h1 ?h2 ?hm ?hc ?lo ?H ?hv ?_; (case X => k_asm); (case F => k_asm); (case N => k_asm); (case h1 => k_mem); (case h2 => k_mem); (case hm => k_is); (case hc => k_is); (case lo => k_asm); (case H => k_asm); (case hv => k_asm))))
local macro_rules | `(tactic| walk_at "compareOp In str ref") => `(tactic| (k_here; k_dflt (refine' pm_in_none ?X ?F ?N ?h1 ?h2 ?hm ?hc ?lo ?H ?hv ?_; (case X => k_asm); (case F => k_asm); (case N => k_asm); (case h1 => k_mem); (case h2 => k_mem); (case hm => k_is); (case hc => k_is); (case lo => k_asm); (case H => k_asm); (case hv => k_asm))))
local macro_rules | `(tactic| walk_at "getMethod ref") => `(tactic| (k_here; (with_reducible show wpAny _ _ (getMethod _ (Str.ofString "__getitem__") _) _ _ _); k_dflt (refine' pm_method_get ?F ?X ?N ?h1 ?h2 ?h3 ?ho ?ok ?hm ?_; (case F => k_asm); (case X => k_asm); (case N => k_asm); (case h1 => k_mem); (case h2 => k_mem); (case h3 => k_mem); (case ho => k_is); (case ok => kernel_rfl); (case hm => kernel_rfl); intro q' h' F' N' l1; (try k_lt l1))))
local macro_rules | `(tactic| walk_at "getMethod ref") => `(tactic| (k_here; (with_reducible show wpAny _ _ (getMethod _ (Str.ofString "__setitem__") _) _ _ _); k_dflt (refine' pm_method_set ?F ?X ?N ?h1 ?h2 ?h3 ?ho ?ok ?hm ?_; (case F => k_asm); (case X => k_asm); (case N => k_asm); (case h1 => k_mem); (case h2 => k_mem); (case h3 => k_mem); (case ho => k_is); (case ok => kernel_rfl); (case hm => kernel_rfl); intro q' h' F' N' l1; (try k_lt l1))))
local macro_rules | `(tactic| walk_at "callWith ref") => `(tactic| (k_here; k_dflt (refine' callWith_B ?N ?hq ?hT ?_; (case N => k_asm); (case hq => k_mem); (case hT => first | exact .inl rfl | exact .inr rfl); k_whole)))
local macro_rules | `(tactic| walk_at "And") => `(tactic| ((with_reducible show BndP _ _ _ _ _ ∧ _); refine ⟨bndP (by k_asm) (by k_mem), ?_⟩; try dsimp only [List.nil_append, List.cons_append]))
local macro_rules | `(tactic| walk_at "call ref") => `(tactic| (k_here; (with_reducible show wpAny _ _ (call _ [Value.str _ _]) _ _ _); k_dflt (refine' pm_call_get ?X ?F ?N ?hq ?hx ?hdx ?hcd ?hmod ?hty ?H ?hv ?_; (case X => k_asm); (case F => k_asm); (case N => k_asm); (case hq => k_mem); (case hx => k_mem); (case hdx => k_mem); (case hcd => kernel_rfl); (case hmod => k_is); (case hty => k_is); (case H => k_asm); (case hv => k_asm))))
local macro_rules | `(tactic| walk_at "call ref") => `(tactic| (k_here; (with_reducible show wpAny _ _ (call _ [Value.str _ _, _]) _ _ _); k_dflt (refine' pm_call_set ?X ?F ?N ?hq ?hx ?hdx ?U ?ho ?H ?hsz ?_; (case X => k_asm); (case F => k_asm); (case N => k_asm); (case hq => k_mem); (case hx => k_mem); (case hdx => k_mem); (case U => k_updF); (case ho => k_is); (case H => k_asm); (case hsz => k_asm); intro es' ep' h' F' N' H'; (try dsimp only at N'))))
local macro_rules | `(tactic| walk_at "wpAt") => `(tactic| (ks_step "eval Call"; with_unfolding_all refine ks_wpAt_MethodCall ?_))
local macro_rules | `(tactic| walk_at "BndP") => `(tactic| (k_dflt (refine' bndP ?N ?hq; (case N => k_asm); (case hq => k_mem))))
local macro_rules | `(tactic| walk_at "wpAt") => `(tactic| (dsimp only; ks_step "execs cons"; refine ks_wpAt_execs_cons ?_))
local macro_rules | `(tactic| walk_at "wpAt") => `(tactic| (ks_step "exec Expr"; with_unfolding_all refine ks_wpAt_Expr_any ?_))
local macro_rules | `(tactic| walk_at "call builtin:callable") => `(tactic| (k_here; k_dflt (first
  | ((with_reducible show wpAny _ _ (call _ [Value.int _ _]) _ _ _); refine callable_int ?_)
  | (refine' callable_K ?X ?F ?e ?_; (case X => k_asm); (case F => k_asm); (case e => k_is))
  | (refine' callable_inst ?X ?F ?I ?e ?_; (case X => k_asm); (case F => k_asm); (case I => k_inst); (case e => k_is)))))
local macro_rules | `(tactic| walk_at "call builtin:hasattr") => `(tactic| (k_here; k_dflt (first
  | ((with_reducible show wpAny _ _ (call _ [Value.int _ _, _]) _ _ _); refine ha_intK (by exact rfl) (by k_asm) (by k_asm) ?_; intro h' tk' F' N')
  | (refine' ha_fnK ?hA ?X ?F ?N ?e ?_; (case hA => exact rfl); (case X => k_asm); (case F => k_asm); (case N => k_asm); (case e => k_is); intro h' tk' F' N')
  | (refine' ha_instK ?X ?F ?I ?hg ?hm ?hh ?ha ?hn ?hl ?hv ?_; (case X => k_asm); (case F => k_asm); (case I => k_inst); (case hg => k_is); (case hm => k_is); (case hh => k_is); (case ha => k_is); (case hn => k_is); (case hl => k_get); (case hv => k_handed)))))
local macro_rules | `(tactic| walk_at "call builtin:getattr") => `(tactic| (k_here; k_dflt (refine' getattr3_K ?X ?F ?I ?hg ?hm ?hh ?hs ?ha ?hn ?hl ?hv ?_; (case X => k_asm); (case F => k_asm); (case I => k_inst); (case hg => k_is); (case hm => k_is); (case hh => k_is); (case hs => decide +kernel); (case ha => k_is); (case hn => k_is); (case hl => k_get); (case hv => k_handed))))
set_option maxHeartbeats 8000000 in
theorem set_fn {w : World} {p : Program} {loose : List Str} {mean : ExcName → Option Value} {mg mb : Str → Option Value} {dp un : Nat} {gd : Option (List Code)} {cn : Str} {cs : Scope} {a : Addr} {ccd : Value} {cl : List (Str × Addr)} {outer : List Env} {A₀ : Around} {base h₀ : Heap} {L : Addr} {m : Str → Option Value} {s : Shared}
    {x dx : Addr} {es : Array DictEntry} {ep : Nat} {kvs : List (Str × Value)} {k : Str} {t : Tok} {od : Obj} {rest : List (Addr × Obj)} {Q E : Value → Shared → Prop} {v₀ : Value}
    (B : Below A₀ base outer h₀) (F : Fr h₀ L s.heap m) (X : (Mine.hd.heap_39 w.params).In h₀) (N : News h₀ L s.heap ((x, pmdO dx es ep) :: (dx, od) :: rest)) (T : Top p loose mean mg mb h₀) (hk : cs.kind = .function) (hd : dp + 20 < recursionLimit) (hu : un + 80 < cLine)
    (hne : @Ne Nat dx x) (hr : ∀ p ∈ rest, p.1 ≠ x) (lo : (x == sysModules) = false) (H : Ents w es kvs) (hz : kvs.length ≤ sizeLine)
    (hv : valueAt kvs k = some v₀)
    (ret : ∀ es' ep' h' tk, Fr h₀ L h' m → News h₀ L h' ((x, pmdO dx es' ep') :: (dx, od) :: rest) → Ents w es' (stored kvs k (.ref 191)) → Q .none { s with heap := h', toks := tk }) :
    wpAny (model PySem.Challenge.rw_bc6014_01.row.prog w) (ktrTop dp un gd cn cs L a ccd cl outer) (call (.ref 155) [.ref x, .str k t, (.ref 191)]) Q E s := by
  w_top off; revert X; k_fill; intro X
  refine wpAny_call ?_
  k_dflt ks_enter
  k_steps
  rename (News h₀ L _ (_ :: _)) => N9
  exact ret _ _ _ _ (by assumption) (fun p hp => N9 p (.tail _ (.tail _ hp))) (by assumption)

end Mine
/-! SetDef -/
namespace Mine
local macro_rules | `(tactic| k_mem) => `(tactic| focus ((repeat (first | exact List.Mem.head _ | assumption | refine List.mem_cons_of_mem _ ?_)); done))
local macro_rules | `(tactic| k_room) => `(tactic| first | assumption | ((try dsimp only [Around.deeper, ktrTop, Around.mark, callerA]); omega) | ktr_room)
local macro_rules | `(tactic| ks_enter) => `(tactic| (refine' ks_code_super ?k1 ?k2 ?k3 ?k4 ?k5 ?kA ?kF ?kK ?k6 ?k7 ?k8 ?k9 ?kB ?_ ?c1 ?c2 ?c3 ?c4; (case kA => exact rfl); (case kF => exact rfl); (case kK => first | exact rfl | assumption); (case k1 => k_asm); (case k2 => k_asm); (case k3 => k_asm); (case k4 => k_asm); (case k5 => k_asm); (case k6 => k_is); (case k7 => k_is); (case k8 => k_room); (case k9 => exact BindsTo.of_eq rfl); (case kB => exact locs rfl); (case c1 => decide); (case c2 => exact rfl); (case c3 => exact rfl); (case c4 => exact rfl); intro g' L' h' FG' F' N' B' X' T' l1; (try k_lt l1); (try dsimp only); (try k_lift B')))
local macro_rules | `(tactic| k_units) => `(tactic| first | assumption | ((try dsimp only [Around.deeper, ktrTop, Around.mark, callerA]); have hcL9 := cLine_is; omega) | ktr_units)
local macro_rules | `(tactic| k_all) => `(tactic| assumption)
local macro_rules | `(tactic| k_inst) => `(tactic| (refine' pm_inst ?N ?h1 ?h2; (case N => k_asm); (case h1 => k_mem); (case h2 => k_mem)))
local macro_rules | `(tactic| walk_at "compareOp NotIn str ref") => `(tactic| (k_here; k_dflt (refine' pm_notin_some ?X ?F ?N ?h1 ?h2 ?hm ?hc ?lo ?H ?hv ?_; (case X => k_asm); (case F => k_asm); (case N => k_asm); (case h1 => k_mem); (case h2 => k_mem); (case hm => k_is); (case hc => k_is); (case lo => k_asm); (case H => k_asm); (case hv => k_asm))))
local macro_rules | `(tactic| walk_at "compareOp NotIn str ref") => `(tactic| (k_here; k_dflt (refine' pm_notin_none ?X ?F ?N ?h1 ?h2 ?hm ?hc ?lo ?H ?hv ?_; (case X => k_asm); (case F => k_asm); (case N => k_asm); (case h1 => k_mem); (case h2 => k_mem); (case hm => k_is); (case hc => k_is); (case lo => k_asm); (case H => k_asm); (case hv => k_asm))))
local macro_rules | `(tactic| walk_at "compareOp In str ref") => `(tactic| (k_here; k_dflt (refine' pm_in_some ?X ?F ?N ?h1 ?h2 ?hm ?hc ?lo ?H ?hv ?_; (case X => k_asm); (case F => k_asm); (case N => k_asm); (case h1 => k_mem); (case h2 => k_mem); (case hm => k_is); (case hc => k_is); (case lo => k_asm); (case H => k_asm); (case hv => k_asm))))
local macro_rules | `(tactic| walk_at "compareOp In str ref") => `(tactic| (k_here; k_dflt (refine' pm_in_none ?X ?F ?N ?h1 ?h2 ?hm ?hc ?lo ?H ?hv ?_; (case X => k_asm); (case F => k_asm); (case N => k_asm); (case h1 => k_mem); (case h2 => k_mem); (case hm => k_is); (case hc => k_is); (case lo => k_asm); (case H => k_asm); (case hv => k_asm))))
local macro_rules | `(tactic| walk_at "getMethod ref") => `(tactic| (k_here; (with_reducible show wpAny _ _ (getMethod _ (Str.ofString "__getitem__") _) _ _ _); k_dflt (refine' pm_method_get ?F ?X ?N ?h1 ?h2 ?h3 ?ho ?ok ?hm ?_; (case F => k_asm); (case X => k_asm); (case N => k_asm); (case h1 => k_mem); (case h2 => k_mem); (case h3 => k_mem); (case ho => k_is); (case ok => kernel_rfl); (case hm => kernel_rfl); intro q' h' F' N' l1; (try k_lt l1))))
local macro_rules | `(tactic| walk_at "getMethod ref") => `(tactic| (k_here; (with_reducible show wpAny _ _ (getMethod _ (Str.ofString "__setitem__") _) _ _ _); k_dflt (refine' pm_method_set ?F ?X ?N ?h1 ?h2 ?h3 ?ho ?ok ?hm ?_; (case F => k_asm); (case X => k_asm); (case N => k_asm); (case h1 => k_mem); (case h2 => k_mem); (case h3 => k_mem); (case ho => k_is); (case ok => kernel_rfl); (case hm => kernel_rfl); intro q' h' F' N' l1; (try k_lt l1))))
local macro_rules | `(tactic| walk_at "callWith ref") => `(tactic| (k_here; k_dflt (refine' callWith_B ?N ?hq ?hT ?_; (case N => k_asm); (case hq => k_mem); (case hT => first | exact .inl rfl | exact .inr rfl); k_whole)))
local macro_rules | `(tactic| walk_at "And") => `(tactic| ((with_reducible show BndP _ _ _ _ _ ∧ _); refine ⟨bndP (by k_asm) (by k_mem), ?_⟩; try dsimp only [List.nil_append, List.cons_append]))
local macro_rules | `(tactic| walk_at "call ref") => `(tactic| (k_here; (with_reducible show wpAny _ _ (call _ [Value.str _ _]) _ _ _); k_dflt (refine' pm_call_get ?X ?F ?N ?hq ?hx ?hdx ?hcd ?hmod ?hty ?H ?hv ?_; (case X => k_asm); (case F => k_asm); (case N => k_asm); (case hq => k_mem); (case hx => k_mem); (case hdx => k_mem); (case hcd => kernel_rfl); (case hmod => k_is); (case hty => k_is); (case H => k_asm); (case hv => k_asm))))
local macro_rules | `(tactic| walk_at "call ref") => `(tactic| (k_here; (with_reducible show wpAny _ _ (call _ [Value.str _ _, _]) _ _ _); k_dflt (refine' pm_call_set ?X ?F ?N ?hq ?hx ?hdx ?U ?ho ?H ?hsz ?_; (case X => k_asm); (case F => k_asm); (case N => k_asm); (case hq => k_mem); (case hx => k_mem); (case hdx => k_mem); (case U => k_updF); (case ho => k_is); (case H => k_asm); (case hsz => k_asm); intro es' ep' h' F' N' H'; (try dsimp only at N'))))
local macro_rules | `(tactic| walk_at "wpAt") => `(tactic| (ks_step "eval Call"; with_unfolding_all refine ks_wpAt_MethodCall ?_))
local macro_rules | `(tactic| walk_at "BndP") => `(tactic| (k_dflt (refine' bndP ?N ?hq; (case N => k_asm); (case hq => k_mem))))
local macro_rules | `(tactic| walk_at "wpAt") => `(tactic| (dsimp only; ks_step "execs cons"; refine ks_wpAt_execs_cons ?_))
local macro_rules | `(tactic| walk_at "wpAt") => `(tactic| (ks_step "exec Expr"; with_unfolding_all refine ks_wpAt_Expr_any ?_))
local macro_rules | `(tactic| walk_at "call builtin:callable") => `(tactic| (k_here; k_dflt (first
  | ((with_reducible show wpAny _ _ (call _ [Value.int _ _]) _ _ _); refine callable_int ?_)
  | (refine' callable_K ?X ?F ?e ?_; (case X => k_asm); (case F => k_asm); (case e => k_is))
  | (refine' callable_inst ?X ?F ?I ?e ?_; (case X => k_asm); (case F => k_asm); (case I => k_inst); (case e => k_is)))))
local macro_rules | `(tactic| walk_at "call builtin:hasattr") => `(tactic| (k_here; k_dflt (first
  | ((with_reducible show wpAny _ _ (call _ [Value.int _ _, _]) _ _ _); refine ha_intK (by exact rfl) (by k_asm) (by k_asm) ?_; intro h' tk' F' N')
  | (refine' ha_fnK ?hA ?X ?F ?N ?e ?_; (case hA => exact rfl); (case X => k_asm); (case F => k_asm); (case N => k_asm); (case e => k_is); intro h' tk' F' N')
  | (refine' ha_instK ?X ?F ?I ?hg ?hm ?hh ?ha ?hn ?hl ?hv ?_; (case X => k_asm); (case F => k_asm); (case I => k_inst); (case hg => k_is); (case hm => k_is); (case hh => k_is); (case ha => k_is); (case hn => k_is); (case hl => k_get); (case hv => k_handed)))))
local macro_rules | `(tactic| walk_at "call builtin:getattr") => `(tactic| (k_here; k_dflt (refine' getattr3_K ?X ?F ?I ?hg ?hm ?hh ?hs ?ha ?hn ?hl ?hv ?_; (case X => k_asm); (case F => k_asm); (case I => k_inst); (case hg => k_is); (case hm => k_is); (case hh => k_is); (case hs => decide +kernel); (case ha => k_is); (case hn => k_is); (case hl => k_get); (case hv => k_handed))))
set_option maxHeartbeats 8000000 in
theorem set_def {w : World} {p : Program} {loose : List Str} {mean : ExcName → Option Value} {mg mb : Str → Option Value} {dp un : Nat} {gd : Option (List Code)} {cn : Str} {cs : Scope} {a : Addr} {ccd : Value} {cl : List (Str × Addr)} {outer : List Env} {A₀ : Around} {base h₀ : Heap} {L : Addr} {m : Str → Option Value} {s : Shared}
    {x dx : Addr} {es : Array DictEntry} {ep : Nat} {kvs : List (Str × Value)} {k : Str} {t : Tok} {od : Obj} {rest : List (Addr × Obj)} {Q E : Value → Shared → Prop} {mk dm d0 x0 : Addr} {t1 t2 t3 t4 t5 u1 u2 u3 u4 u5 : Tok} {rl rl0 : Addr} {nm li nx nm0 li0 nx0 : Value}
    (B : Below A₀ base outer h₀) (F : Fr h₀ L s.heap m) (X : (Mine.hd.heap_39 w.params).In h₀) (N : News h₀ L s.heap ((x, pmdO dx es ep) :: (dx, od) :: (mk, instObj 53 dm) :: (dm, dictOf (rfEs w.params t1 t2 t3 t4 t5 nm (.ref rl) li nx) 5) :: rest)) (T : Top p loose mean mg mb h₀) (hk : cs.kind = .function) (hd : dp + 20 < recursionLimit) (hu : un + 80 < cLine)
    (hne : @Ne Nat dx x) (hr : ∀ p ∈ rest, p.1 ≠ x) (lo : (x == sysModules) = false) (H : Ents w es kvs) (hz : kvs.length ≤ sizeLine)
    (hv : valueAt kvs k = some (.ref d0)) (h0 : (d0, instObj 53 x0) ∈ rest) (h1 : (x0, dictOf (rfEs w.params u1 u2 u3 u4 u5 nm0 (.ref rl0) li0 nx0) 5) ∈ rest)
    (hm1 : @Ne Nat mk x) (hm2 : @Ne Nat dm x) (hm3 : @Ne Nat dm dx) (hm4 : @Ne Nat dm mk) (hr2 : ∀ p ∈ rest, p.1 ≠ dm)
    (ret : ∀ es' ep' h' tk, Fr h₀ L h' m → News h₀ L h' ((x, pmdO dx es' ep') :: (dx, od) :: (mk, instObj 53 dm) :: (dm, dictOf (rfEs w.params t1 t2 t3 t4 t5 nm (.ref rl) li (.ref d0)) 5) :: rest) → Ents w es' (stored kvs k (.ref mk)) → Q .none { s with heap := h', toks := tk }) :
    wpAny (model PySem.Challenge.rw_bc6014_01.row.prog w) (ktrTop dp un gd cn cs L a ccd cl outer) (call (.ref 155) [.ref x, .str k t, (.ref mk)]) Q E s := by
  w_top off; revert X; k_fill; intro X
  refine wpAny_call ?_
  k_dflt ks_enter
  k_steps
  rename (News h₀ L _ (_ :: _)) => N9
  exact ret _ _ _ _ (by assumption) (fun p hp => N9 p (.tail _ (.tail _ (.tail _ (.tail _ hp))))) (by assumption)

end Mine
/-! GetSome -/
namespace Mine
local macro_rules | `(tactic| k_mem) => `(tactic| focus ((repeat (first | exact List.Mem.head _ | assumption | refine List.mem_cons_of_mem _ ?_)); done))
local macro_rules | `(tactic| k_room) => `(tactic| first | assumption | ((try dsimp only [Around.deeper, ktrTop, Around.mark, callerA]); omega) | ktr_room)
local macro_rules | `(tactic| ks_enter) => `(tactic| (refine' ks_code_super ?k1 ?k2 ?k3 ?k4 ?k5 ?kA ?kF ?kK ?k6 ?k7 ?k8 ?k9 ?kB ?_ ?c1 ?c2 ?c3 ?c4; (case kA => exact rfl); (case kF => exact rfl); (case kK => first | exact rfl | assumption); (case k1 => k_asm); (case k2 => k_asm); (case k3 => k_asm); (case k4 => k_asm); (case k5 => k_asm); (case k6 => k_is); (case k7 => k_is); (case k8 => k_room); (case k9 => exact BindsTo.of_eq rfl); (case kB => exact locs rfl); (case c1 => decide); (case c2 => exact rfl); (case c3 => exact rfl); (case c4 => exact rfl); intro g' L' h' FG' F' N' B' X' T' l1; (try k_lt l1); (try dsimp only); (try k_lift B')))
local macro_rules | `(tactic| k_units) => `(tactic| first | assumption | ((try dsimp only [Around.deeper, ktrTop, Around.mark, callerA]); have hcL9 := cLine_is; omega) | ktr_units)
local macro_rules | `(tactic| k_all) => `(tactic| assumption)
local macro_rules | `(tactic| k_inst) => `(tactic| (refine' pm_inst ?N ?h1 ?h2; (case N => k_asm); (case h1 => k_mem); (case h2 => k_mem)))
local macro_rules | `(tactic| walk_at "compareOp NotIn str ref") => `(tactic| (k_here; k_dflt (refine' pm_notin_some ?X ?F ?N ?h1 ?h2 ?hm ?hc ?lo ?H ?hv ?_; (case X => k_asm); (case F => k_asm); (case N => k_asm); (case h1 => k_mem); (case h2 => k_mem); (case hm => k_is); (case hc => k_is); (case lo => k_asm); (case H => k_asm); (case hv => k_asm))))
local macro_rules | `(tactic| walk_at "compareOp NotIn str ref") => `(tactic| (k_here; k_dflt (refine' pm_notin_none ?X ?F ?N ?h1 ?h2 ?hm ?hc ?lo ?H ?hv ?_; (case X => k_asm); (case F => k_asm); (case N => k_asm); (case h1 => k_mem); (case h2 => k_mem); (case hm => k_is); (case hc => k_is); (case lo => k_asm); (case H => k_asm); (case hv => k_asm))))
local macro_rules | `(tactic| walk_at "compareOp In str ref") => `(tactic| (k_here; k_dflt (refine' pm_in_some ?X ?F ?N ?h1 ?h2 ?hm ?hc ?lo ?H ?hv ?_; (case X => k_asm); (case F => k_asm); (case N => k_asm); (case h1 => k_mem); (case h2 => k_mem); (case hm => k_is); (case hc => k_is); (case lo => k_asm); (case H => k_asm); (case hv => k_asm))))
local macro_rules | `(tactic| walk_at "compareOp In str ref") => `(tactic| (k_here; k_dflt (refine' pm_in_none ?X ?F ?N ?h1 ?h2 ?hm ?hc ?lo ?H ?hv ?_; (case X => k_asm); (case F => k_asm); (case N => k_asm); (case h1 => k_mem); (case h2 => k_mem); (case hm => k_is); (case hc => k_is); (case lo => k_asm); (case H => k_asm); (case hv => k_asm))))
local macro_rules | `(tactic| walk_at "getMethod ref") => `(tactic| (k_here; (with_reducible show wpAny _ _ (getMethod _ (Str.ofString "__getitem__") _) _ _ _); k_dflt (refine' pm_method_get ?F ?X ?N ?h1 ?h2 ?h3 ?ho ?ok ?hm ?_; (case F => k_asm); (case X => k_asm); (case N => k_asm); (case h1 => k_mem); (case h2 => k_mem); (case h3 => k_mem); (case ho => k_is); (case ok => kernel_rfl); (case hm => kernel_rfl); intro q' h' F' N' l1; (try k_lt l1))))
local macro_rules | `(tactic| walk_at "getMethod ref") => `(tactic| (k_here; (with_reducible show wpAny _ _ (getMethod _ (Str.ofString "__setitem__") _) _ _ _); k_dflt (refine' pm_method_set ?F ?X ?N ?h1 ?h2 ?h3 ?ho ?ok ?hm ?_; (case F => k_asm); (case X => k_asm); (case N => k_asm); (case h1 => k_mem); (case h2 => k_mem); (case h3 => k_mem); (case ho => k_is); (case ok => kernel_rfl); (case hm => kernel_rfl); intro q' h' F' N' l1; (try k_lt l1))))
local macro_rules | `(tactic| walk_at "callWith ref") => `(tactic| (k_here; k_dflt (refine' callWith_B ?N ?hq ?hT ?_; (case N => k_asm); (case hq => k_mem); (case hT => first | exact .inl rfl | exact .inr rfl); k_whole)))
local macro_rules | `(tactic| walk_at "And") => `(tactic| ((with_reducible show BndP _ _ _ _ _ ∧ _); refine ⟨bndP (by k_asm) (by k_mem), ?_⟩; try dsimp only [List.nil_append, List.cons_append]))
local macro_rules | `(tactic| walk_at "call ref") => `(tactic| (k_here; (with_reducible show wpAny _ _ (call _ [Value.str _ _]) _ _ _); k_dflt (refine' pm_call_get ?X ?F ?N ?hq ?hx ?hdx ?hcd ?hmod ?hty ?H ?hv ?_; (case X => k_asm); (case F => k_asm); (case N => k_asm); (case hq => k_mem); (case hx => k_mem); (case hdx => k_mem); (case hcd => kernel_rfl); (case hmod => k_is); (case hty => k_is); (case H => k_asm); (case hv => k_asm))))
local macro_rules | `(tactic| walk_at "call ref") => `(tactic| (k_here; (with_reducible show wpAny _ _ (call _ [Value.str _ _, _]) _ _ _); k_dflt (refine' pm_call_set ?X ?F ?N ?hq ?hx ?hdx ?U ?ho ?H ?hsz ?_; (case X => k_asm); (case F => k_asm); (case N => k_asm); (case hq => k_mem); (case hx => k_mem); (case hdx => k_mem); (case U => k_updF); (case ho => k_is); (case H => k_asm); (case hsz => k_asm); intro es' ep' h' F' N' H'; (try dsimp only at N'))))
local macro_rules | `(tactic| walk_at "wpAt") => `(tactic| (ks_step "eval Call"; with_unfolding_all refine ks_wpAt_MethodCall ?_))
local macro_rules | `(tactic| walk_at "BndP") => `(tactic| (k_dflt (refine' bndP ?N ?hq; (case N => k_asm); (case hq => k_mem))))
local macro_rules | `(tactic| walk_at "wpAt") => `(tactic| (dsimp only; ks_step "execs cons"; refine ks_wpAt_execs_cons ?_))
local macro_rules | `(tactic| walk_at "wpAt") => `(tactic| (ks_step "exec Expr"; with_unfolding_all refine ks_wpAt_Expr_any ?_))
local macro_rules | `(tactic| walk_at "call builtin:callable") => `(tactic| (k_here; k_dflt (first
  | ((with_reducible show wpAny _ _ (call _ [Value.int _ _]) _ _ _); refine callable_int ?_)
  | (refine' callable_K ?X ?F ?e ?_; (case X => k_asm); (case F => k_asm); (case e => k_is))
  | (refine' callable_inst ?X ?F ?I ?e ?_; (case X => k_asm); (case F => k_asm); (case I => k_inst); (case e => k_is)))))
local macro_rules | `(tactic| walk_at "call builtin:hasattr") => `(tactic| (k_here; k_dflt (first
  | ((with_reducible show wpAny _ _ (call _ [Value.int _ _, _]) _ _ _); refine ha_intK (by exact rfl) (by k_asm) (by k_asm) ?_; intro h' tk' F' N')
  | (refine' ha_fnK ?hA ?X ?F ?N ?e ?_; (case hA => exact rfl); (case X => k_asm); (case F => k_asm); (case N => k_asm); (case e => k_is); intro h' tk' F' N')
  | (refine' ha_instK ?X ?F ?I ?hg ?hm ?hh ?ha ?hn ?hl ?hv ?_; (case X => k_asm); (case F => k_asm); (case I => k_inst); (case hg => k_is); (case hm => k_is); (case hh => k_is); (case ha => k_is); (case hn => k_is); (case hl => k_get); (case hv => k_handed)))))
local macro_rules | `(tactic| walk_at "call builtin:getattr") => `(tactic| (k_here; k_dflt (refine' getattr3_K ?X ?F ?I ?hg ?hm ?hh ?hs ?ha ?hn ?hl ?hv ?_; (case X => k_asm); (case F => k_asm); (case I => k_inst); (case hg => k_is); (case hm => k_is); (case hh => k_is); (case hs => decide +kernel); (case ha => k_is); (case hn => k_is); (case hl => k_get); (case hv => k_handed))))
set_option maxHeartbeats 8000000 in
theorem get_some {w : World} {p : Program} {loose : List Str} {mean : ExcName → Option Value} {mg mb : Str → Option Value} {dp un : Nat} {gd : Option (List Code)} {cn : Str} {cs : Scope} {a : Addr} {ccd : Value} {cl : List (Str × Addr)} {outer : List Env} {A₀ : Around} {base h₀ : Heap} {L : Addr} {m : Str → Option Value} {news : List (Addr × Obj)} {s : Shared}
    {x dx : Addr} {es : Array DictEntry} {ep : Nat} {kvs : List (Str × Value)} {k : Str} {t : Tok} {v : Value} {od : Obj} {Q E : Value → Shared → Prop}
    (B : Below A₀ base outer h₀) (F : Fr h₀ L s.heap m) (X : (Mine.hd.heap_39 w.params).In h₀) (N : News h₀ L s.heap news) (T : Top p loose mean mg mb h₀) (hk : cs.kind = .function) (hd : dp + 20 < recursionLimit) (hu : un + 80 < cLine)
    (hx : (x, pmdO dx es ep) ∈ news) (hdx : (dx, od) ∈ news) (lo : (x == sysModules) = false) (H : Ents w es kvs) (hv : valueAt kvs k = some v)
    (ret : ∀ h' tk, Fr h₀ L h' m → News h₀ L h' news → Q v { s with heap := h', toks := tk }) :
    wpAny (model PySem.Challenge.rw_bc6014_01.row.prog w) (ktrTop dp un gd cn cs L a ccd cl outer) (call (.ref 163) [.ref x, .str k t]) Q E s := by
  w_top off; revert X; k_fill; intro X
  refine wpAny_call ?_
  k_dflt ks_enter
  k_steps
  rename (News h₀ L _ (_ :: _)) => N9
  exact ret _ _ (by assumption) (fun p hp => N9 p (.tail _ (.tail _ hp)))
end Mine
/-! GetSelf -/
namespace Mine
local macro_rules | `(tactic| k_mem) => `(tactic| focus ((repeat (first | exact List.Mem.head _ | assumption | refine List.mem_cons_of_mem _ ?_)); done))
local macro_rules | `(tactic| k_room) => `(tactic| first | assumption | ((try dsimp only [Around.deeper, ktrTop, Around.mark, callerA]); omega) | ktr_room)
local macro_rules | `(tactic| ks_enter) => `(tactic| (refine' ks_code_super ?k1 ?k2 ?k3 ?k4 ?k5 ?kA ?kF ?kK ?k6 ?k7 ?k8 ?k9 ?kB ?_ ?c1 ?c2 ?c3 ?c4; (case kA => exact rfl); (case kF => exact rfl); (case kK => first | exact rfl | assumption); (case k1 => k_asm); (case k2 => k_asm); (case k3 => k_asm); (case k4 => k_asm); (case k5 => k_asm); (case k6 => k_is); (case k7 => k_is); (case k8 => k_room); (case k9 => exact BindsTo.of_eq rfl); (case kB => exact locs rfl); (case c1 => decide); (case c2 => exact rfl); (case c3 => exact rfl); (case c4 => exact rfl); intro g' L' h' FG' F' N' B' X' T' l1; (try k_lt l1); (try dsimp only); (try k_lift B')))
local macro_rules | `(tactic| k_units) => `(tactic| first | assumption | ((try dsimp only [Around.deeper, ktrTop, Around.mark, callerA]); have hcL9 := cLine_is; omega) | ktr_units)
local macro_rules | `(tactic| k_all) => `(tactic| assumption)
local macro_rules | `(tactic| k_inst) => `(tactic| (refine' pm_inst ?N ?h1 ?h2; (case N => k_asm); (case h1 => k_mem); (case h2 => k_mem)))
local macro_rules | `(tactic| walk_at "compareOp NotIn str ref") => `(tactic| (k_here; k_dflt (refine' pm_notin_some ?X ?F ?N ?h1 ?h2 ?hm ?hc ?lo ?H ?hv ?_; (case X => k_asm); (case F => k_asm); (case N => k_asm); (case h1 => k_mem); (case h2 => k_mem); (case hm => k_is); (case hc => k_is); (case lo => k_asm); (case H => k_asm); (case hv => k_asm))))
local macro_rules | `(tactic| walk_at "compareOp NotIn str ref") => `(tactic| (k_here; k_dflt (refine' pm_notin_none ?X ?F ?N ?h1 ?h2 ?hm ?hc ?lo ?H ?hv ?_; (case X => k_asm); (case F => k_asm); (case N => k_asm); (case h1 => k_mem); (case h2 => k_mem); (case hm => k_is); (case hc => k_is); (case lo => k_asm); (case H => k_asm); (case hv => k_asm))))
local macro_rules | `(tactic| walk_at "compareOp In str ref") => `(tactic| (k_here; k_dflt (refine' pm_in_some ?X ?F ?N ?h1 ?h2 ?hm ?hc ?lo ?H ?hv ?_; (case X => k_asm); (case F => k_asm); (case N => k_asm); (case h1 => k_mem); (case h2 => k_mem); (case hm => k_is); (case hc => k_is); (case lo => k_asm); (case H => k_asm); (case hv => k_asm))))
local macro_rules | `(tactic| walk_at "compareOp In str ref") => `(tactic| (k_here; k_dflt (refine' pm_in_none ?X ?F ?N ?h1 ?h2 ?hm ?hc ?lo ?H ?hv ?_; (case X => k_asm); (case F => k_asm); (case N => k_asm); (case h1 => k_mem); (case h2 => k_mem); (case hm => k_is); (case hc => k_is); (case lo => k_asm); (case H => k_asm); (case hv => k_asm))))
local macro_rules | `(tactic| walk_at "getMethod ref") => `(tactic| (k_here; (with_reducible show wpAny _ _ (getMethod _ (Str.ofString "__getitem__") _) _ _ _); k_dflt (refine' pm_method_get ?F ?X ?N ?h1 ?h2 ?h3 ?ho ?ok ?hm ?_; (case F => k_asm); (case X => k_asm); (case N => k_asm); (case h1 => k_mem); (case h2 => k_mem); (case h3 => k_mem); (case ho => k_is); (case ok => kernel_rfl); (case hm => kernel_rfl); intro q' h' F' N' l1; (try k_lt l1))))
local macro_rules | `(tactic| walk_at "getMethod ref") => `(tactic| (k_here; (with_reducible show wpAny _ _ (getMethod _ (Str.ofString "__setitem__") _) _ _ _); k_dflt (refine' pm_method_set ?F ?X ?N ?h1 ?h2 ?h3 ?ho ?ok ?hm ?_; (case F => k_asm); (case X => k_asm); (case N => k_asm); (case h1 => k_mem); (case h2 => k_mem); (case h3 => k_mem); (case ho => k_is); (case ok => kernel_rfl); (case hm => kernel_rfl); intro q' h' F' N' l1; (try k_lt l1))))
local macro_rules | `(tactic| walk_at "callWith ref") => `(tactic| (k_here; k_dflt (refine' callWith_B ?N ?hq ?hT ?_; (case N => k_asm); (case hq => k_mem); (case hT => first | exact .inl rfl | exact .inr rfl); k_whole)))
local macro_rules | `(tactic| walk_at "And") => `(tactic| ((with_reducible show BndP _ _ _ _ _ ∧ _); refine ⟨bndP (by k_asm) (by k_mem), ?_⟩; try dsimp only [List.nil_append, List.cons_append]))
local macro_rules | `(tactic| walk_at "call ref") => `(tactic| (k_here; (with_reducible show wpAny _ _ (call _ [Value.str _ _]) _ _ _); k_dflt (refine' pm_call_get ?X ?F ?N ?hq ?hx ?hdx ?hcd ?hmod ?hty ?H ?hv ?_; (case X => k_asm); (case F => k_asm); (case N => k_asm); (case hq => k_mem); (case hx => k_mem); (case hdx => k_mem); (case hcd => kernel_rfl); (case hmod => k_is); (case hty => k_is); (case H => k_asm); (case hv => k_asm))))
local macro_rules | `(tactic| walk_at "call ref") => `(tactic| (k_here; (with_reducible show wpAny _ _ (call _ [Value.str _ _, _]) _ _ _); k_dflt (refine' pm_call_set ?X ?F ?N ?hq ?hx ?hdx ?U ?ho ?H ?hsz ?_; (case X => k_asm); (case F => k_asm); (case N => k_asm); (case hq => k_mem); (case hx => k_mem); (case hdx => k_mem); (case U => k_updF); (case ho => k_is); (case H => k_asm); (case hsz => k_asm); intro es' ep' h' F' N' H'; (try dsimp only at N'))))
local macro_rules | `(tactic| walk_at "wpAt") => `(tactic| (ks_step "eval Call"; with_unfolding_all refine ks_wpAt_MethodCall ?_))
local macro_rules | `(tactic| walk_at "BndP") => `(tactic| (k_dflt (refine' bndP ?N ?hq; (case N => k_asm); (case hq => k_mem))))
local macro_rules | `(tactic| walk_at "wpAt") => `(tactic| (dsimp only; ks_step "execs cons"; refine ks_wpAt_execs_cons ?_))
local macro_rules | `(tactic| walk_at "wpAt") => `(tactic| (ks_step "exec Expr"; with_unfolding_all refine ks_wpAt_Expr_any ?_))
local macro_rules | `(tactic| walk_at "call builtin:callable") => `(tactic| (k_here; k_dflt (first
  | ((with_reducible show wpAny _ _ (call _ [Value.int _ _]) _ _ _); refine callable_int ?_)
  | (refine' callable_K ?X ?F ?e ?_; (case X => k_asm); (case F => k_asm); (case e => k_is))
  | (refine' callable_inst ?X ?F ?I ?e ?_; (case X => k_asm); (case F => k_asm); (case I => k_inst); (case e => k_is)))))
local macro_rules | `(tactic| walk_at "call builtin:hasattr") => `(tactic| (k_here; k_dflt (first
  | ((with_reducible show wpAny _ _ (call _ [Value.int _ _, _]) _ _ _); refine ha_intK (by exact rfl) (by k_asm) (by k_asm) ?_; intro h' tk' F' N')
  | (refine' ha_fnK ?hA ?X ?F ?N ?e ?_; (case hA => exact rfl); (case X => k_asm); (case F => k_asm); (case N => k_asm); (case e => k_is); intro h' tk' F' N')
  | (refine' ha_instK ?X ?F ?I ?hg ?hm ?hh ?ha ?hn ?hl ?hv ?_; (case X => k_asm); (case F => k_asm); (case I => k_inst); (case hg => k_is); (case hm => k_is); (case hh => k_is); (case ha => k_is); (case hn => k_is); (case hl => k_get); (case hv => k_handed)))))
local macro_rules | `(tactic| walk_at "call builtin:getattr") => `(tactic| (k_here; k_dflt (refine' getattr3_K ?X ?F ?I ?hg ?hm ?hh ?hs ?ha ?hn ?hl ?hv ?_; (case X => k_asm); (case F => k_asm); (case I => k_inst); (case hg => k_is); (case hm => k_is); (case hh => k_is); (case hs => decide +kernel); (case ha => k_is); (case hn => k_is); (case hl => k_get); (case hv => k_handed))))
set_option maxHeartbeats 8000000 in
theorem get_self {w : World} {p : Program} {loose : List Str} {mean : ExcName → Option Value} {mg mb : Str → Option Value} {dp un : Nat} {gd : Option (List Code)} {cn : Str} {cs : Scope} {a : Addr} {ccd : Value} {cl : List (Str × Addr)} {outer : List Env} {A₀ : Around} {base h₀ : Heap} {L : Addr} {m : Str → Option Value} {s : Shared}
    {x dx : Addr} {es : Array DictEntry} {ep : Nat} {kvs : List (Str × Value)} {k : Str} {t : Tok} {od : Obj} {news : List (Addr × Obj)} {Q E : Value → Shared → Prop}
    (B : Below A₀ base outer h₀) (F : Fr h₀ L s.heap m) (X : (Mine.hd.heap_39 w.params).In h₀) (N : News h₀ L s.heap news) (T : Top p loose mean mg mb h₀) (hk : cs.kind = .function) (hd : dp + 20 < recursionLimit) (hu : un + 80 < cLine)
    (hx : (x, pmdO dx es ep) ∈ news) (hdx : (dx, od) ∈ news) (lo : (x == sysModules) = false) (H : Ents w es kvs) 
    (hv : valueAt kvs k = none) (hkl : k.length ≤ 8) (hs1 : Txt.isupper k = true) (hs2 : (Txt.slice k none (some 1) != "_") = true)
    (ret : ∀ h' tk t', Fr h₀ L h' m → News h₀ L h' news → Q (.str (Txt.upper k) t') { s with heap := h', toks := tk }) :
    wpAny (model PySem.Challenge.rw_bc6014_01.row.prog w) (ktrTop dp un gd cn cs L a ccd cl outer) (call (.ref 163) [.ref x, .str k t]) Q E s := by
  w_top off; revert X; k_fill; intro X
  refine wpAny_call ?_
  k_dflt ks_enter
  k_steps
  · exact ret _ _ _ (by assumption) (by assumption)
end Mine
/-! BadLen -/
namespace Mine
theorem bad_len {k : Str} (h : k.length ≤ 8) : (Str.empty ++ Str.ofString "Redefinition of " ++ k ++ Str.ofString ". Perhaps an earlier " ++ k ++ Str.ofString " is missing @_").length ≤ sizeLine := by
  have e1 : (Str.empty ++ Str.ofString "Redefinition of ").length ≤ 100 := by decide +kernel
  have e2 : (Str.ofString ". Perhaps an earlier ").length ≤ 100 := by decide +kernel
  have e3 : (Str.ofString " is missing @_").length ≤ 100 := by decide +kernel
  rw [PySem.Str.length_append, PySem.Str.length_append, PySem.Str.length_append, PySem.Str.length_append]
  exact Nat.le_trans (m := 1000) (by omega) (by decide)
end Mine
/-! SetBad -/
namespace Mine
local macro_rules | `(tactic| k_mem) => `(tactic| focus ((repeat (first | exact List.Mem.head _ | assumption | refine List.mem_cons_of_mem _ ?_)); done))
local macro_rules | `(tactic| k_room) => `(tactic| first | assumption | ((try dsimp only [Around.deeper, ktrTop, Around.mark, callerA]); omega) | ktr_room)
local macro_rules | `(tactic| ks_enter) => `(tactic| (refine' ks_code_super ?k1 ?k2 ?k3 ?k4 ?k5 ?kA ?kF ?kK ?k6 ?k7 ?k8 ?k9 ?kB ?_ ?c1 ?c2 ?c3 ?c4; (case kA => exact rfl); (case kF => exact rfl); (case kK => first | exact rfl | assumption); (case k1 => k_asm); (case k2 => k_asm); (case k3 => k_asm); (case k4 => k_asm); (case k5 => k_asm); (case k6 => k_is); (case k7 => k_is); (case k8 => k_room); (case k9 => exact BindsTo.of_eq rfl); (case kB => exact locs rfl); (case c1 => decide); (case c2 => exact rfl); (case c3 => exact rfl); (case c4 => exact rfl); intro g' L' h' FG' F' N' B' X' T' l1; (try k_lt l1); (try dsimp only); (try k_lift B')))
local macro_rules | `(tactic| k_units) => `(tactic| first | assumption | ((try dsimp only [Around.deeper, ktrTop, Around.mark, callerA]); have hcL9 := cLine_is; omega) | ktr_units)
local macro_rules | `(tactic| k_all) => `(tactic| assumption)
local macro_rules | `(tactic| k_inst) => `(tactic| (refine' pm_inst ?N ?h1 ?h2; (case N => k_asm); (case h1 => k_mem); (case h2 => k_mem)))
local macro_rules | `(tactic| walk_at "compareOp NotIn str ref") => `(tactic| (k_here; k_dflt (refine' pm_notin_some ?X ?F ?N ?h1 ?h2 ?hm ?hc ?lo ?H ?hv ?_; (case X => k_asm); (case F => k_asm); (case N => k_asm); (case h1 => k_mem); (case h2 => k_mem); (case hm => k_is); (case hc => k_is); (case lo => k_asm); (case H => k_asm); (case hv => k_asm))))
local macro_rules | `(tactic| walk_at "compareOp NotIn str ref") => `(tactic| (k_here; k_dflt (refine' pm_notin_none ?X ?F ?N ?h1 ?h2 ?hm ?hc ?lo ?H ?hv ?_; (case X => k_asm); (case F => k_asm); (case N => k_asm); (case h1 => k_mem); (case h2 => k_mem); (case hm => k_is); (case hc => k_is); (case lo => k_asm); (case H => k_asm); (case hv => k_asm))))
local macro_rules | `(tactic| walk_at "compareOp In str ref") => `(tactic| (k_here; k_dflt (refine' pm_in_some ?X ?F ?N ?h1 ?h2 ?hm ?hc ?lo ?H ?hv ?_; (case X => k_asm); (case F => k_asm); (case N => k_asm); (case h1 => k_mem); (case h2 => k_mem); (case hm => k_is); (case hc => k_is); (case lo => k_asm); (case H => k_asm); (case hv => k_asm))))
local macro_rules | `(tactic| walk_at "compareOp In str ref") => `(tactic| (k_here; k_dflt (refine' pm_in_none ?X ?F ?N ?h1 ?h2 ?hm ?hc ?lo ?H ?hv ?_; (case X => k_asm); (case F => k_asm); (case N => k_asm); (case h1 => k_mem); (case h2 => k_mem); (case hm => k_is); (case hc => k_is); (case lo => k_asm); (case H => k_asm); (case hv => k_asm))))
local macro_rules | `(tactic| walk_at "getMethod ref") => `(tactic| (k_here; (with_reducible show wpAny _ _ (getMethod _ (Str.ofString "__getitem__") _) _ _ _); k_dflt (refine' pm_method_get ?F ?X ?N ?h1 ?h2 ?h3 ?ho ?ok ?hm ?_; (case F => k_asm); (case X => k_asm); (case N => k_asm); (case h1 => k_mem); (case h2 => k_mem); (case h3 => k_mem); (case ho => k_is); (case ok => kernel_rfl); (case hm => kernel_rfl); intro q' h' F' N' l1; (try k_lt l1))))
local macro_rules | `(tactic| walk_at "getMethod ref") => `(tactic| (k_here; (with_reducible show wpAny _ _ (getMethod _ (Str.ofString "__setitem__") _) _ _ _); k_dflt (refine' pm_method_set ?F ?X ?N ?h1 ?h2 ?h3 ?ho ?ok ?hm ?_; (case F => k_asm); (case X => k_asm); (case N => k_asm); (case h1 => k_mem); (case h2 => k_mem); (case h3 => k_mem); (case ho => k_is); (case ok => kernel_rfl); (case hm => kernel_rfl); intro q' h' F' N' l1; (try k_lt l1))))
local macro_rules | `(tactic| walk_at "callWith ref") => `(tactic| (k_here; k_dflt (refine' callWith_B ?N ?hq ?hT ?_; (case N => k_asm); (case hq => k_mem); (case hT => first | exact .inl rfl | exact .inr rfl); k_whole)))
local macro_rules | `(tactic| walk_at "And") => `(tactic| ((with_reducible show BndP _ _ _ _ _ ∧ _); refine ⟨bndP (by k_asm) (by k_mem), ?_⟩; try dsimp only [List.nil_append, List.cons_append]))
local macro_rules | `(tactic| walk_at "call ref") => `(tactic| (k_here; (with_reducible show wpAny _ _ (call _ [Value.str _ _]) _ _ _); k_dflt (refine' pm_call_get ?X ?F ?N ?hq ?hx ?hdx ?hcd ?hmod ?hty ?H ?hv ?_; (case X => k_asm); (case F => k_asm); (case N => k_asm); (case hq => k_mem); (case hx => k_mem); (case hdx => k_mem); (case hcd => kernel_rfl); (case hmod => k_is); (case hty => k_is); (case H => k_asm); (case hv => k_asm))))
local macro_rules | `(tactic| walk_at "call ref") => `(tactic| (k_here; (with_reducible show wpAny _ _ (call _ [Value.str _ _, _]) _ _ _); k_dflt (refine' pm_call_set ?X ?F ?N ?hq ?hx ?hdx ?U ?ho ?H ?hsz ?_; (case X => k_asm); (case F => k_asm); (case N => k_asm); (case hq => k_mem); (case hx => k_mem); (case hdx => k_mem); (case U => k_updF); (case ho => k_is); (case H => k_asm); (case hsz => k_asm); intro es' ep' h' F' N' H'; (try dsimp only at N'))))
local macro_rules | `(tactic| walk_at "wpAt") => `(tactic| (ks_step "eval Call"; with_unfolding_all refine ks_wpAt_MethodCall ?_))
local macro_rules | `(tactic| walk_at "BndP") => `(tactic| (k_dflt (refine' bndP ?N ?hq; (case N => k_asm); (case hq => k_mem))))
local macro_rules | `(tactic| walk_at "wpAt") => `(tactic| (dsimp only; ks_step "execs cons"; refine ks_wpAt_execs_cons ?_))
local macro_rules | `(tactic| walk_at "wpAt") => `(tactic| (ks_step "exec Expr"; with_unfolding_all refine ks_wpAt_Expr_any ?_))
local macro_rules | `(tactic| walk_at "call builtin:callable") => `(tactic| (k_here; k_dflt (first
  | ((with_reducible show wpAny _ _ (call _ [Value.int _ _]) _ _ _); refine callable_int ?_)
  | (refine' callable_K ?X ?F ?e ?_; (case X => k_asm); (case F => k_asm); (case e => k_is))
  | (refine' callable_inst ?X ?F ?I ?e ?_; (case X => k_asm); (case F => k_asm); (case I => k_inst); (case e => k_is)))))
local macro_rules | `(tactic| walk_at "call builtin:hasattr") => `(tactic| (k_here; k_dflt (first
  | ((with_reducible show wpAny _ _ (call _ [Value.int _ _, _]) _ _ _); refine ha_intK (by exact rfl) (by k_asm) (by k_asm) ?_; intro h' tk' F' N')
  | (refine' ha_fnK ?hA ?X ?F ?N ?e ?_; (case hA => exact rfl); (case X => k_asm); (case F => k_asm); (case N => k_asm); (case e => k_is); intro h' tk' F' N')
  | (refine' ha_instK ?X ?F ?I ?hg ?hm ?hh ?ha ?hn ?hl ?hv ?_; (case X => k_asm); (case F => k_asm); (case I => k_inst); (case hg => k_is); (case hm => k_is); (case hh => k_is); (case ha => k_is); (case hn => k_is); (case hl => k_get); (case hv => k_handed)))))
local macro_rules | `(tactic| walk_at "call builtin:getattr") => `(tactic| (k_here; k_dflt (refine' getattr3_K ?X ?F ?I ?hg ?hm ?hh ?hs ?ha ?hn ?hl ?hv ?_; (case X => k_asm); (case F => k_asm); (case I => k_inst); (case hg => k_is); (case hm => k_is); (case hh => k_is); (case hs => decide +kernel); (case ha => k_is); (case hn => k_is); (case hl => k_get); (case hv => k_handed))))
local macro_rules | `(tactic| walk_at "exec Raise some none") => `(tactic| (k_here; (with_reducible show wpAny _ _ (exec (Stmt.Raise (some (Expr.Call (Expr.Name _ _) [_] [] _)) none _) _) _ _ _); k_dflt (refine' raiseX_own ?F ?X ?T ?e ?q PySem.F.excBase_Exception ?h ?_ ?b ?c ?d ?f; (case F => k_asm); (case X => k_asm); (case T => exact topRead_of (by k_asm)); (case e => k_is); (case q => k_exc); (case h => first | rfl | assumption); (case b => rfl); (case c => first | rfl | assumption); (case d => rfl); (case f => decide); k_whole)))
local macro_rules | `(tactic| walk_at "And") => `(tactic| (refine ⟨⟨_, by assumption⟩, ?_⟩; (try dsimp only); intro h' e' M'))
local macro_rules | `(tactic| walk_at "leaving ref") => `(tactic| (k_here; k_dflt (refine' leave_madeX ?k1 ?k0 ?k2 ?k3 rfl ?k4 ?_; (case k0 => assumption); (case k1 => assumption); (case k2 => assumption); (case k3 => k_asm); (case k4 => first | rfl | assumption); intro h' t' R' U')))
local macro_rules | `(tactic| walk_at "call ref") => `(tactic| (k_here; (with_reducible show wpAny _ _ (call _ [Value.str _ _]) _ _ _); k_dflt (refine' pm_call_get_none ?hh ?X ?F ?N ?hq ?hx ?hdx ?hcd ?hmod ?hty ?hmis ?lo ?H ?hv ?_; (case hh => first | rfl | assumption); (case X => k_asm); (case F => k_asm); (case N => k_asm); (case hq => k_mem); (case hx => k_mem); (case hdx => k_mem); (case hcd => kernel_rfl); (case hmod => k_is); (case hty => k_is); (case hmis => k_is); (case lo => k_asm); (case H => k_asm); (case hv => k_asm); intro h' e' M')))
local macro_rules | `(tactic| walk_at "leaving ref") => `(tactic| (k_here; k_dflt (refine' leave_newX ?k1 ?k0 ?k2 ?k3 rfl ?k4 ?_; (case k0 => assumption); (case k1 => assumption); (case k2 => assumption); (case k3 => k_asm); (case k4 => first | rfl | assumption); intro h' R' U')))
local macro_rules | `(tactic| kc_enter) => `(tactic| (refine' code_defC ?k1 ?k2 ?k3 ?k4 ?k5 ?kA ?kF ?kK ?k6 ?k7 ?k8 ?k9 ?kB ?kD ?_ ?c2 ?c3 ?c4; (case kA => exact rfl); (case kF => exact rfl); (case kK => first | exact rfl | assumption); (case k1 => k_asm); (case k2 => k_asm); (case k3 => k_asm); (case k4 => k_asm); (case k5 => k_asm); (case k6 => k_is); (case k7 => k_is); (case k8 => k_room); (case k9 => exact BindsTo.of_eq rfl); (case kB => exact rfl); (case kD => decide +kernel); (case c2 => exact rfl); (case c3 => exact rfl); (case c4 => exact rfl); intro g' L' h' tk' cells' FG' F' N' Y' B' X' T' l1; (try k_lt l1); k_cells Y'; (try simp only [List.cons_append, List.nil_append] at N'); (try dsimp only); (try k_lift B')))
local macro_rules | `(tactic| walk_at "call builtin:len") => `(tactic| (k_here; k_dflt (refine' pm_len ?X ?F ?I ?hm ?ho ?hc ?lo ?H ?hz ?_; (case X => k_asm); (case F => k_asm); (case I => k_inst); (case hm => k_is); (case ho => k_is); (case hc => k_is); (case lo => k_asm); (case H => k_asm); (case hz => first | assumption | omega))))
local macro_rules | `(tactic| walk_at "compareOp IsNot ref ref") => `(tactic| ((with_reducible show wpAny _ _ (compareOp .IsNot _ _) _ _ _); refine solid_isNot (.inl ⟨_, rfl⟩) ?_))
local macro_rules | `(tactic| walk_at "compareOp IsNot int int") => `(tactic| (refine solid_isNot (.inr ⟨_, _, rfl, by assumption⟩) ?_))
local macro_rules | `(tactic| walk_at "compareOp Is ref ref") => `(tactic| (refine solid_is (.inl ⟨_, rfl⟩) ?_))
local macro_rules | `(tactic| walk_at "compareOp Is int int") => `(tactic| (refine solid_is (.inr ⟨_, _, rfl, by assumption⟩) ?_))
local macro_rules | `(tactic| walk_at "eval ListComp") => `(tactic| (k_here; k_dflt (refine' comp_none (knd := strKind _ _) ?F ?c ?h1 ?h2 ?h3 ?h4 ?_; (case F => k_asm); (case c => exact rfl); (case h1 => decide); (case h2 => exact rfl); (case h3 => decide); (case h4 => exact rfl))))
local macro_rules | `(tactic| walk_at "compareOp NotEq int int") => `(tactic| with_reducible refine ne_int_self ?_)
local macro_rules | `(tactic| walk_at "joinParts") => `(tactic| (k_here; (first | (with_reducible refine joinParts_nilE ?_) | (with_reducible show wpAny _ _ (joinParts _ []) _ _ _)); (with_reducible refine joinParts_nil (hsz := ?hsz) ?_); (case hsz => exact bad_len (by assumption))))
theorem raisedS_sub {base G : Heap} {l : List Env} {e t : Addr} {cls : Value} {vs : List Value} {ns ns' : List (Addr × Obj)} {h : Heap} (R : RaisedS base G l e cls t vs ns h) (q : ∀ p ∈ ns', p ∈ ns) : RaisedS base G l e cls t vs ns' h := by
  obtain ⟨⟨B, b1, b2, b3, b4⟩, b5⟩ := R
  exact ⟨⟨B, b1, b2, fun p hp => b3 p (q p hp), b4⟩, b5⟩
set_option maxHeartbeats 8000000 in
theorem set_bad {w : World} {p : Program} {loose : List Str} {mean : ExcName → Option Value} {mg mb : Str → Option Value} {dp un : Nat} {gd : Option (List Code)} {cn : Str} {cs : Scope} {a : Addr} {ccd : Value} {cl : List (Str × Addr)} {outer : List Env} {A₀ : Around} {base h₀ : Heap} {L : Addr} {m : Str → Option Value} {s : Shared}
    {x dx : Addr} {es : Array DictEntry} {ep : Nat} {kvs : List (Str × Value)} {k : Str} {t : Tok} {od : Obj} {rest : List (Addr × Obj)} {Q E : Value → Shared → Prop} {mk dm : Addr} {t1 t2 t3 t4 t5 ti0 : Tok} {i0 : Int} {rl : Addr} {nm li nx : Value}
    (B : Below A₀ base outer h₀) (F : Fr h₀ L s.heap m) (X : (Mine.hd.heap_39 w.params).In h₀) (N : News h₀ L s.heap ((x, pmdO dx es ep) :: (dx, od) :: (mk, instObj 53 dm) :: (dm, dictOf (rfEs w.params t1 t2 t3 t4 t5 nm (.ref rl) li nx) 5) :: rest)) (T : Top p loose mean mg mb h₀) (hk : cs.kind = .function) (hd : dp + 20 < recursionLimit) (hu : un + 80 < cLine)
    (hne : @Ne Nat dx x) (hr : ∀ p ∈ rest, p.1 ≠ x) (lo : (x == sysModules) = false) (H : Ents w es kvs) (hz : kvs.length ≤ sizeLine)
    (hv : valueAt kvs k = some (.int i0 ti0)) (hkl : k.length ≤ 8)
    (hm1 : @Ne Nat mk x) (hm2 : @Ne Nat dm x) (hm3 : @Ne Nat dm dx) (hm4 : @Ne Nat dm mk) (hr2 : ∀ p ∈ rest, p.1 ≠ dm)
    (raise : ∀ e tt g h' tk ts, Fr h₀ L g m → g.UpToSlots h' → RaisedS base g (envX cn cs L a ccd cl :: outer) e (.ref 80) tt [.str (Str.empty ++ "Redefinition of " ++ k ++ ". Perhaps an earlier " ++ k ++ " is missing @_") ts] ((x, pmdO dx es ep) :: (dx, od) :: rest) h' → E (.ref e) { s with heap := h', toks := tk }) :
    wpAny (model PySem.Challenge.rw_bc6014_01.row.prog w) (ktrTop dp un gd cn cs L a ccd cl outer) (call (.ref 155) [.ref x, .str k t, (.ref mk)]) Q E s := by
  w_top off; revert X; k_fill; intro X
  refine wpAny_call ?_
  k_dflt ks_enter
  k_steps
  rename (RaisedS _ _ _ _ _ _ _ _ _) => R9
  exact raise _ _ _ _ _ _ (by assumption) (by assumption) (raisedS_sub R9 fun p hp => by
    rcases List.mem_cons.mp hp with rfl | hp
    · exact .tail _ (.tail _ (.head _))
    · rcases List.mem_cons.mp hp with rfl | hp
      · exact .tail _ (.tail _ (.tail _ (.head _)))
      · exact .tail _ (.tail _ (.tail _ (.tail _ (.tail _ (.tail _ hp))))))
end Mine
/-! SetBad2 -/
namespace Mine
local macro_rules | `(tactic| k_mem) => `(tactic| focus ((repeat (first | exact List.Mem.head _ | assumption | refine List.mem_cons_of_mem _ ?_)); done))
local macro_rules | `(tactic| k_room) => `(tactic| first | assumption | ((try dsimp only [Around.deeper, ktrTop, Around.mark, callerA]); omega) | ktr_room)
local macro_rules | `(tactic| ks_enter) => `(tactic| (refine' ks_code_super ?k1 ?k2 ?k3 ?k4 ?k5 ?kA ?kF ?kK ?k6 ?k7 ?k8 ?k9 ?kB ?_ ?c1 ?c2 ?c3 ?c4; (case kA => exact rfl); (case kF => exact rfl); (case kK => first | exact rfl | assumption); (case k1 => k_asm); (case k2 => k_asm); (case k3 => k_asm); (case k4 => k_asm); (case k5 => k_asm); (case k6 => k_is); (case k7 => k_is); (case k8 => k_room); (case k9 => exact BindsTo.of_eq rfl); (case kB => exact locs rfl); (case c1 => decide); (case c2 => exact rfl); (case c3 => exact rfl); (case c4 => exact rfl); intro g' L' h' FG' F' N' B' X' T' l1; (try k_lt l1); (try dsimp only); (try k_lift B')))
local macro_rules | `(tactic| k_units) => `(tactic| first | assumption | ((try dsimp only [Around.deeper, ktrTop, Around.mark, callerA]); have hcL9 := cLine_is; omega) | ktr_units)
local macro_rules | `(tactic| k_all) => `(tactic| assumption)
local macro_rules | `(tactic| k_inst) => `(tactic| (refine' pm_inst ?N ?h1 ?h2; (case N => k_asm); (case h1 => k_mem); (case h2 => k_mem)))
local macro_rules | `(tactic| walk_at "compareOp NotIn str ref") => `(tactic| (k_here; k_dflt (refine' pm_notin_some ?X ?F ?N ?h1 ?h2 ?hm ?hc ?lo ?H ?hv ?_; (case X => k_asm); (case F => k_asm); (case N => k_asm); (case h1 => k_mem); (case h2 => k_mem); (case hm => k_is); (case hc => k_is); (case lo => k_asm); (case H => k_asm); (case hv => k_asm))))
local macro_rules | `(tactic| walk_at "compareOp NotIn str ref") => `(tactic| (k_here; k_dflt (refine' pm_notin_none ?X ?F ?N ?h1 ?h2 ?hm ?hc ?lo ?H ?hv ?_; (case X => k_asm); (case F => k_asm); (case N => k_asm); (case h1 => k_mem); (case h2 => k_mem); (case hm => k_is); (case hc => k_is); (case lo => k_asm); (case H => k_asm); (case hv => k_asm))))
local macro_rules | `(tactic| walk_at "compareOp In str ref") => `(tactic| (k_here; k_dflt (refine' pm_in_some ?X ?F ?N ?h1 ?h2 ?hm ?hc ?lo ?H ?hv ?_; (case X => k_asm); (case F => k_asm); (case N => k_asm); (case h1 => k_mem); (case h2 => k_mem); (case hm => k_is); (case hc => k_is); (case lo => k_asm); (case H => k_asm); (case hv => k_asm))))
local macro_rules | `(tactic| walk_at "compareOp In str ref") => `(tactic| (k_here; k_dflt (refine' pm_in_none ?X ?F ?N ?h1 ?h2 ?hm ?hc ?lo ?H ?hv ?_; (case X => k_asm); (case F => k_asm); (case N => k_asm); (case h1 => k_mem); (case h2 => k_mem); (case hm => k_is); (case hc => k_is); (case lo => k_asm); (case H => k_asm); (case hv => k_asm))))
local macro_rules | `(tactic| walk_at "getMethod ref") => `(tactic| (k_here; (with_reducible show wpAny _ _ (getMethod _ (Str.ofString "__getitem__") _) _ _ _); k_dflt (refine' pm_method_get ?F ?X ?N ?h1 ?h2 ?h3 ?ho ?ok ?hm ?_; (case F => k_asm); (case X => k_asm); (case N => k_asm); (case h1 => k_mem); (case h2 => k_mem); (case h3 => k_mem); (case ho => k_is); (case ok => kernel_rfl); (case hm => kernel_rfl); intro q' h' F' N' l1; (try k_lt l1))))
local macro_rules | `(tactic| walk_at "getMethod ref") => `(tactic| (k_here; (with_reducible show wpAny _ _ (getMethod _ (Str.ofString "__setitem__") _) _ _ _); k_dflt (refine' pm_method_set ?F ?X ?N ?h1 ?h2 ?h3 ?ho ?ok ?hm ?_; (case F => k_asm); (case X => k_asm); (case N => k_asm); (case h1 => k_mem); (case h2 => k_mem); (case h3 => k_mem); (case ho => k_is); (case ok => kernel_rfl); (case hm => kernel_rfl); intro q' h' F' N' l1; (try k_lt l1))))
local macro_rules | `(tactic| walk_at "callWith ref") => `(tactic| (k_here; k_dflt (refine' callWith_B ?N ?hq ?hT ?_; (case N => k_asm); (case hq => k_mem); (case hT => first | exact .inl rfl | exact .inr rfl); k_whole)))
local macro_rules | `(tactic| walk_at "And") => `(tactic| ((with_reducible show BndP _ _ _ _ _ ∧ _); refine ⟨bndP (by k_asm) (by k_mem), ?_⟩; try dsimp only [List.nil_append, List.cons_append]))
local macro_rules | `(tactic| walk_at "call ref") => `(tactic| (k_here; (with_reducible show wpAny _ _ (call _ [Value.str _ _]) _ _ _); k_dflt (refine' pm_call_get ?X ?F ?N ?hq ?hx ?hdx ?hcd ?hmod ?hty ?H ?hv ?_; (case X => k_asm); (case F => k_asm); (case N => k_asm); (case hq => k_mem); (case hx => k_mem); (case hdx => k_mem); (case hcd => kernel_rfl); (case hmod => k_is); (case hty => k_is); (case H => k_asm); (case hv => k_asm))))
local macro_rules | `(tactic| walk_at "call ref") => `(tactic| (k_here; (with_reducible show wpAny _ _ (call _ [Value.str _ _, _]) _ _ _); k_dflt (refine' pm_call_set ?X ?F ?N ?hq ?hx ?hdx ?U ?ho ?H ?hsz ?_; (case X => k_asm); (case F => k_asm); (case N => k_asm); (case hq => k_mem); (case hx => k_mem); (case hdx => k_mem); (case U => k_updF); (case ho => k_is); (case H => k_asm); (case hsz => k_asm); intro es' ep' h' F' N' H'; (try dsimp only at N'))))
local macro_rules | `(tactic| walk_at "wpAt") => `(tactic| (ks_step "eval Call"; with_unfolding_all refine ks_wpAt_MethodCall ?_))
local macro_rules | `(tactic| walk_at "BndP") => `(tactic| (k_dflt (refine' bndP ?N ?hq; (case N => k_asm); (case hq => k_mem))))
local macro_rules | `(tactic| walk_at "wpAt") => `(tactic| (dsimp only; ks_step "execs cons"; refine ks_wpAt_execs_cons ?_))
local macro_rules | `(tactic| walk_at "wpAt") => `(tactic| (ks_step "exec Expr"; with_unfolding_all refine ks_wpAt_Expr_any ?_))
local macro_rules | `(tactic| walk_at "call builtin:callable") => `(tactic| (k_here; k_dflt (first
  | ((with_reducible show wpAny _ _ (call _ [Value.int _ _]) _ _ _); refine callable_int ?_)
  | (refine' callable_K ?X ?F ?e ?_; (case X => k_asm); (case F => k_asm); (case e => k_is))
  | (refine' callable_inst ?X ?F ?I ?e ?_; (case X => k_asm); (case F => k_asm); (case I => k_inst); (case e => k_is)))))
local macro_rules | `(tactic| walk_at "call builtin:hasattr") => `(tactic| (k_here; k_dflt (first
  | ((with_reducible show wpAny _ _ (call _ [Value.int _ _, _]) _ _ _); refine ha_intK (by exact rfl) (by k_asm) (by k_asm) ?_; intro h' tk' F' N')
  | (refine' ha_fnK ?hA ?X ?F ?N ?e ?_; (case hA => exact rfl); (case X => k_asm); (case F => k_asm); (case N => k_asm); (case e => k_is); intro h' tk' F' N')
  | (refine' ha_instK ?X ?F ?I ?hg ?hm ?hh ?ha ?hn ?hl ?hv ?_; (case X => k_asm); (case F => k_asm); (case I => k_inst); (case hg => k_is); (case hm => k_is); (case hh => k_is); (case ha => k_is); (case hn => k_is); (case hl => k_get); (case hv => k_handed)))))
local macro_rules | `(tactic| walk_at "call builtin:getattr") => `(tactic| (k_here; k_dflt (refine' getattr3_K ?X ?F ?I ?hg ?hm ?hh ?hs ?ha ?hn ?hl ?hv ?_; (case X => k_asm); (case F => k_asm); (case I => k_inst); (case hg => k_is); (case hm => k_is); (case hh => k_is); (case hs => decide +kernel); (case ha => k_is); (case hn => k_is); (case hl => k_get); (case hv => k_handed))))
local macro_rules | `(tactic| walk_at "exec Raise some none") => `(tactic| (k_here; (with_reducible show wpAny _ _ (exec (Stmt.Raise (some (Expr.Call (Expr.Name _ _) [_] [] _)) none _) _) _ _ _); k_dflt (refine' raiseX_own ?F ?X ?T ?e ?q PySem.F.excBase_Exception ?h ?_ ?b ?c ?d ?f; (case F => k_asm); (case X => k_asm); (case T => exact topRead_of (by k_asm)); (case e => k_is); (case q => k_exc); (case h => first | rfl | assumption); (case b => rfl); (case c => first | rfl | assumption); (case d => rfl); (case f => decide); k_whole)))
local macro_rules | `(tactic| walk_at "And") => `(tactic| (refine ⟨⟨_, by assumption⟩, ?_⟩; (try dsimp only); intro h' e' M'))
local macro_rules | `(tactic| walk_at "leaving ref") => `(tactic| (k_here; k_dflt (refine' leave_madeX ?k1 ?k0 ?k2 ?k3 rfl ?k4 ?_; (case k0 => assumption); (case k1 => assumption); (case k2 => assumption); (case k3 => k_asm); (case k4 => first | rfl | assumption); intro h' t' R' U')))
local macro_rules | `(tactic| walk_at "call ref") => `(tactic| (k_here; (with_reducible show wpAny _ _ (call _ [Value.str _ _]) _ _ _); k_dflt (refine' pm_call_get_none ?hh ?X ?F ?N ?hq ?hx ?hdx ?hcd ?hmod ?hty ?hmis ?lo ?H ?hv ?_; (case hh => first | rfl | assumption); (case X => k_asm); (case F => k_asm); (case N => k_asm); (case hq => k_mem); (case hx => k_mem); (case hdx => k_mem); (case hcd => kernel_rfl); (case hmod => k_is); (case hty => k_is); (case hmis => k_is); (case lo => k_asm); (case H => k_asm); (case hv => k_asm); intro h' e' M')))
local macro_rules | `(tactic| walk_at "leaving ref") => `(tactic| (k_here; k_dflt (refine' leave_newX ?k1 ?k0 ?k2 ?k3 rfl ?k4 ?_; (case k0 => assumption); (case k1 => assumption); (case k2 => assumption); (case k3 => k_asm); (case k4 => first | rfl | assumption); intro h' R' U')))
local macro_rules | `(tactic| kc_enter) => `(tactic| (refine' code_defC ?k1 ?k2 ?k3 ?k4 ?k5 ?kA ?kF ?kK ?k6 ?k7 ?k8 ?k9 ?kB ?kD ?_ ?c2 ?c3 ?c4; (case kA => exact rfl); (case kF => exact rfl); (case kK => first | exact rfl | assumption); (case k1 => k_asm); (case k2 => k_asm); (case k3 => k_asm); (case k4 => k_asm); (case k5 => k_asm); (case k6 => k_is); (case k7 => k_is); (case k8 => k_room); (case k9 => exact BindsTo.of_eq rfl); (case kB => exact rfl); (case kD => decide +kernel); (case c2 => exact rfl); (case c3 => exact rfl); (case c4 => exact rfl); intro g' L' h' tk' cells' FG' F' N' Y' B' X' T' l1; (try k_lt l1); k_cells Y'; (try simp only [List.cons_append, List.nil_append] at N'); (try dsimp only); (try k_lift B')))
local macro_rules | `(tactic| walk_at "call builtin:len") => `(tactic| (k_here; k_dflt (refine' pm_len ?X ?F ?I ?hm ?ho ?hc ?lo ?H ?hz ?_; (case X => k_asm); (case F => k_asm); (case I => k_inst); (case hm => k_is); (case ho => k_is); (case hc => k_is); (case lo => k_asm); (case H => k_asm); (case hz => first | assumption | omega))))
local macro_rules | `(tactic| walk_at "compareOp IsNot ref ref") => `(tactic| ((with_reducible show wpAny _ _ (compareOp .IsNot _ _) _ _ _); refine solid_isNot (.inl ⟨_, rfl⟩) ?_))
local macro_rules | `(tactic| walk_at "compareOp IsNot int int") => `(tactic| (refine solid_isNot (.inr ⟨_, _, rfl, by assumption⟩) ?_))
local macro_rules | `(tactic| walk_at "compareOp Is ref ref") => `(tactic| (refine solid_is (.inl ⟨_, rfl⟩) ?_))
local macro_rules | `(tactic| walk_at "compareOp Is int int") => `(tactic| (refine solid_is (.inr ⟨_, _, rfl, by assumption⟩) ?_))
local macro_rules | `(tactic| walk_at "eval ListComp") => `(tactic| (k_here; k_dflt (refine' comp_none (knd := strKind _ _) ?F ?c ?h1 ?h2 ?h3 ?h4 ?_; (case F => k_asm); (case c => exact rfl); (case h1 => decide); (case h2 => exact rfl); (case h3 => decide); (case h4 => exact rfl))))
local macro_rules | `(tactic| walk_at "compareOp NotEq int int") => `(tactic| with_reducible refine ne_int_self ?_)
local macro_rules | `(tactic| walk_at "joinParts") => `(tactic| (k_here; (first | (with_reducible refine joinParts_nilE ?_) | (with_reducible show wpAny _ _ (joinParts _ []) _ _ _)); (with_reducible refine joinParts_nil (hsz := ?hsz) ?_); (case hsz => exact bad_len (by assumption))))
set_option maxHeartbeats 8000000 in
theorem set_bad2 {w : World} {p : Program} {loose : List Str} {mean : ExcName → Option Value} {mg mb : Str → Option Value} {dp un : Nat} {gd : Option (List Code)} {cn : Str} {cs : Scope} {a : Addr} {ccd : Value} {cl : List (Str × Addr)} {outer : List Env} {A₀ : Around} {base h₀ : Heap} {L : Addr} {m : Str → Option Value} {s : Shared}
    {x dx : Addr} {es : Array DictEntry} {ep : Nat} {kvs : List (Str × Value)} {k : Str} {t : Tok} {od : Obj} {rest : List (Addr × Obj)} {Q E : Value → Shared → Prop} {mk dm : Addr} {t1 t2 t3 t4 t5 : Tok} {rl : Addr} {nm li nx : Value}
    (B : Below A₀ base outer h₀) (F : Fr h₀ L s.heap m) (X : (Mine.hd.heap_39 w.params).In h₀) (N : News h₀ L s.heap ((x, pmdO dx es ep) :: (dx, od) :: (mk, instObj 53 dm) :: (dm, dictOf (rfEs w.params t1 t2 t3 t4 t5 nm (.ref rl) li nx) 5) :: rest)) (T : Top p loose mean mg mb h₀) (hk : cs.kind = .function) (hd : dp + 20 < recursionLimit) (hu : un + 80 < cLine)
    (hne : @Ne Nat dx x) (hr : ∀ p ∈ rest, p.1 ≠ x) (lo : (x == sysModules) = false) (H : Ents w es kvs) (hz : kvs.length ≤ sizeLine)
    (hv : valueAt kvs k = some (.ref 191)) (hkl : k.length ≤ 8)
    (hm1 : @Ne Nat mk x) (hm2 : @Ne Nat dm x) (hm3 : @Ne Nat dm dx) (hm4 : @Ne Nat dm mk) (hr2 : ∀ p ∈ rest, p.1 ≠ dm)
    (raise : ∀ e tt g h' tk ts, Fr h₀ L g m → g.UpToSlots h' → RaisedS base g (envX cn cs L a ccd cl :: outer) e (.ref 80) tt [.str (Str.empty ++ "Redefinition of " ++ k ++ ". Perhaps an earlier " ++ k ++ " is missing @_") ts] ((x, pmdO dx es ep) :: (dx, od) :: rest) h' → E (.ref e) { s with heap := h', toks := tk }) :
    wpAny (model PySem.Challenge.rw_bc6014_01.row.prog w) (ktrTop dp un gd cn cs L a ccd cl outer) (call (.ref 155) [.ref x, .str k t, (.ref mk)]) Q E s := by
  w_top off; revert X; k_fill; intro X
  refine wpAny_call ?_
  k_dflt ks_enter
  k_steps
  rename (RaisedS _ _ _ _ _ _ _ _ _) => R9
  exact raise _ _ _ _ _ _ (by assumption) (by assumption) (raisedS_sub R9 fun p hp => by
    rcases List.mem_cons.mp hp with rfl | hp
    · exact .tail _ (.tail _ (.head _))
    · rcases List.mem_cons.mp hp with rfl | hp
      · exact .tail _ (.tail _ (.tail _ (.head _)))
      · exact .tail _ (.tail _ (.tail _ (.tail _ (.tail _ (.tail _ hp))))))
end Mine
/-! GetKeyErr -/
namespace Mine
local macro_rules | `(tactic| k_mem) => `(tactic| focus ((repeat (first | exact List.Mem.head _ | assumption | refine List.mem_cons_of_mem _ ?_)); done))
local macro_rules | `(tactic| k_room) => `(tactic| first | assumption | ((try dsimp only [Around.deeper, ktrTop, Around.mark, callerA]); omega) | ktr_room)
local macro_rules | `(tactic| ks_enter) => `(tactic| (refine' ks_code_super ?k1 ?k2 ?k3 ?k4 ?k5 ?kA ?kF ?kK ?k6 ?k7 ?k8 ?k9 ?kB ?_ ?c1 ?c2 ?c3 ?c4; (case kA => exact rfl); (case kF => exact rfl); (case kK => first | exact rfl | assumption); (case k1 => k_asm); (case k2 => k_asm); (case k3 => k_asm); (case k4 => k_asm); (case k5 => k_asm); (case k6 => k_is); (case k7 => k_is); (case k8 => k_room); (case k9 => exact BindsTo.of_eq rfl); (case kB => exact locs rfl); (case c1 => decide); (case c2 => exact rfl); (case c3 => exact rfl); (case c4 => exact rfl); intro g' L' h' FG' F' N' B' X' T' l1; (try k_lt l1); (try dsimp only); (try k_lift B')))
local macro_rules | `(tactic| k_units) => `(tactic| first | assumption | ((try dsimp only [Around.deeper, ktrTop, Around.mark, callerA]); have hcL9 := cLine_is; omega) | ktr_units)
local macro_rules | `(tactic| k_all) => `(tactic| assumption)
local macro_rules | `(tactic| k_inst) => `(tactic| (refine' pm_inst ?N ?h1 ?h2; (case N => k_asm); (case h1 => k_mem); (case h2 => k_mem)))
local macro_rules | `(tactic| walk_at "compareOp NotIn str ref") => `(tactic| (k_here; k_dflt (refine' pm_notin_some ?X ?F ?N ?h1 ?h2 ?hm ?hc ?lo ?H ?hv ?_; (case X => k_asm); (case F => k_asm); (case N => k_asm); (case h1 => k_mem); (case h2 => k_mem); (case hm => k_is); (case hc => k_is); (case lo => k_asm); (case H => k_asm); (case hv => k_asm))))
local macro_rules | `(tactic| walk_at "compareOp NotIn str ref") => `(tactic| (k_here; k_dflt (refine' pm_notin_none ?X ?F ?N ?h1 ?h2 ?hm ?hc ?lo ?H ?hv ?_; (case X => k_asm); (case F => k_asm); (case N => k_asm); (case h1 => k_mem); (case h2 => k_mem); (case hm => k_is); (case hc => k_is); (case lo => k_asm); (case H => k_asm); (case hv => k_asm))))
local macro_rules | `(tactic| walk_at "compareOp In str ref") => `(tactic| (k_here; k_dflt (refine' pm_in_some ?X ?F ?N ?h1 ?h2 ?hm ?hc ?lo ?H ?hv ?_; (case X => k_asm); (case F => k_asm); (case N => k_asm); (case h1 => k_mem); (case h2 => k_mem); (case hm => k_is); (case hc => k_is); (case lo => k_asm); (case H => k_asm); (case hv => k_asm))))
local macro_rules | `(tactic| walk_at "compareOp In str ref") => `(tactic| (k_here; k_dflt (refine' pm_in_none ?X ?F ?N ?h1 ?h2 ?hm ?hc ?lo ?H ?hv ?_; (case X => k_asm); (case F => k_asm); (case N => k_asm); (case h1 => k_mem); (case h2 => k_mem); (case hm => k_is); (case hc => k_is); (case lo => k_asm); (case H => k_asm); (case hv => k_asm))))
local macro_rules | `(tactic| walk_at "getMethod ref") => `(tactic| (k_here; (with_reducible show wpAny _ _ (getMethod _ (Str.ofString "__getitem__") _) _ _ _); k_dflt (refine' pm_method_get ?F ?X ?N ?h1 ?h2 ?h3 ?ho ?ok ?hm ?_; (case F => k_asm); (case X => k_asm); (case N => k_asm); (case h1 => k_mem); (case h2 => k_mem); (case h3 => k_mem); (case ho => k_is); (case ok => kernel_rfl); (case hm => kernel_rfl); intro q' h' F' N' l1; (try k_lt l1))))
local macro_rules | `(tactic| walk_at "getMethod ref") => `(tactic| (k_here; (with_reducible show wpAny _ _ (getMethod _ (Str.ofString "__setitem__") _) _ _ _); k_dflt (refine' pm_method_set ?F ?X ?N ?h1 ?h2 ?h3 ?ho ?ok ?hm ?_; (case F => k_asm); (case X => k_asm); (case N => k_asm); (case h1 => k_mem); (case h2 => k_mem); (case h3 => k_mem); (case ho => k_is); (case ok => kernel_rfl); (case hm => kernel_rfl); intro q' h' F' N' l1; (try k_lt l1))))
local macro_rules | `(tactic| walk_at "callWith ref") => `(tactic| (k_here; k_dflt (refine' callWith_B ?N ?hq ?hT ?_; (case N => k_asm); (case hq => k_mem); (case hT => first | exact .inl rfl | exact .inr rfl); k_whole)))
local macro_rules | `(tactic| walk_at "And") => `(tactic| ((with_reducible show BndP _ _ _ _ _ ∧ _); refine ⟨bndP (by k_asm) (by k_mem), ?_⟩; try dsimp only [List.nil_append, List.cons_append]))
local macro_rules | `(tactic| walk_at "call ref") => `(tactic| (k_here; (with_reducible show wpAny _ _ (call _ [Value.str _ _]) _ _ _); k_dflt (refine' pm_call_get ?X ?F ?N ?hq ?hx ?hdx ?hcd ?hmod ?hty ?H ?hv ?_; (case X => k_asm); (case F => k_asm); (case N => k_asm); (case hq => k_mem); (case hx => k_mem); (case hdx => k_mem); (case hcd => kernel_rfl); (case hmod => k_is); (case hty => k_is); (case H => k_asm); (case hv => k_asm))))
local macro_rules | `(tactic| walk_at "call ref") => `(tactic| (k_here; (with_reducible show wpAny _ _ (call _ [Value.str _ _, _]) _ _ _); k_dflt (refine' pm_call_set ?X ?F ?N ?hq ?hx ?hdx ?U ?ho ?H ?hsz ?_; (case X => k_asm); (case F => k_asm); (case N => k_asm); (case hq => k_mem); (case hx => k_mem); (case hdx => k_mem); (case U => k_updF); (case ho => k_is); (case H => k_asm); (case hsz => k_asm); intro es' ep' h' F' N' H'; (try dsimp only at N'))))
local macro_rules | `(tactic| walk_at "wpAt") => `(tactic| (ks_step "eval Call"; with_unfolding_all refine ks_wpAt_MethodCall ?_))
local macro_rules | `(tactic| walk_at "BndP") => `(tactic| (k_dflt (refine' bndP ?N ?hq; (case N => k_asm); (case hq => k_mem))))
local macro_rules | `(tactic| walk_at "wpAt") => `(tactic| (dsimp only; ks_step "execs cons"; refine ks_wpAt_execs_cons ?_))
local macro_rules | `(tactic| walk_at "wpAt") => `(tactic| (ks_step "exec Expr"; with_unfolding_all refine ks_wpAt_Expr_any ?_))
local macro_rules | `(tactic| walk_at "call builtin:callable") => `(tactic| (k_here; k_dflt (first
  | ((with_reducible show wpAny _ _ (call _ [Value.int _ _]) _ _ _); refine callable_int ?_)
  | (refine' callable_K ?X ?F ?e ?_; (case X => k_asm); (case F => k_asm); (case e => k_is))
  | (refine' callable_inst ?X ?F ?I ?e ?_; (case X => k_asm); (case F => k_asm); (case I => k_inst); (case e => k_is)))))
local macro_rules | `(tactic| walk_at "call builtin:hasattr") => `(tactic| (k_here; k_dflt (first
  | ((with_reducible show wpAny _ _ (call _ [Value.int _ _, _]) _ _ _); refine ha_intK (by exact rfl) (by k_asm) (by k_asm) ?_; intro h' tk' F' N')
  | (refine' ha_fnK ?hA ?X ?F ?N ?e ?_; (case hA => exact rfl); (case X => k_asm); (case F => k_asm); (case N => k_asm); (case e => k_is); intro h' tk' F' N')
  | (refine' ha_instK ?X ?F ?I ?hg ?hm ?hh ?ha ?hn ?hl ?hv ?_; (case X => k_asm); (case F => k_asm); (case I => k_inst); (case hg => k_is); (case hm => k_is); (case hh => k_is); (case ha => k_is); (case hn => k_is); (case hl => k_get); (case hv => k_handed)))))
local macro_rules | `(tactic| walk_at "call builtin:getattr") => `(tactic| (k_here; k_dflt (refine' getattr3_K ?X ?F ?I ?hg ?hm ?hh ?hs ?ha ?hn ?hl ?hv ?_; (case X => k_asm); (case F => k_asm); (case I => k_inst); (case hg => k_is); (case hm => k_is); (case hh => k_is); (case hs => decide +kernel); (case ha => k_is); (case hn => k_is); (case hl => k_get); (case hv => k_handed))))
local macro_rules | `(tactic| walk_at "exec Raise some none") => `(tactic| (k_here; (with_reducible show wpAny _ _ (exec (Stmt.Raise (some (Expr.Call (Expr.Name _ _) [_] [] _)) none _) _) _ _ _); k_dflt (refine' raiseX_own ?F ?X ?T ?e ?q PySem.F.excBase_Exception ?h ?_ ?b ?c ?d ?f; (case F => k_asm); (case X => k_asm); (case T => exact topRead_of (by k_asm)); (case e => k_is); (case q => k_exc); (case h => first | rfl | assumption); (case b => rfl); (case c => first | rfl | assumption); (case d => rfl); (case f => decide); k_whole)))
local macro_rules | `(tactic| walk_at "And") => `(tactic| (refine ⟨⟨_, by assumption⟩, ?_⟩; (try dsimp only); intro h' e' M'))
local macro_rules | `(tactic| walk_at "leaving ref") => `(tactic| (k_here; k_dflt (refine' leave_madeX ?k1 ?k0 ?k2 ?k3 rfl ?k4 ?_; (case k0 => assumption); (case k1 => assumption); (case k2 => assumption); (case k3 => k_asm); (case k4 => first | rfl | assumption); intro h' t' R' U')))
local macro_rules | `(tactic| walk_at "call ref") => `(tactic| (k_here; (with_reducible show wpAny _ _ (call _ [Value.str _ _]) _ _ _); k_dflt (refine' pm_call_get_none ?hh ?X ?F ?N ?hq ?hx ?hdx ?hcd ?hmod ?hty ?hmis ?lo ?H ?hv ?_; (case hh => first | rfl | assumption); (case X => k_asm); (case F => k_asm); (case N => k_asm); (case hq => k_mem); (case hx => k_mem); (case hdx => k_mem); (case hcd => kernel_rfl); (case hmod => k_is); (case hty => k_is); (case hmis => k_is); (case lo => k_asm); (case H => k_asm); (case hv => k_asm); intro h' e' M')))
local macro_rules | `(tactic| walk_at "leaving ref") => `(tactic| (k_here; k_dflt (refine' leave_newX ?k1 ?k0 ?k2 ?k3 rfl ?k4 ?_; (case k0 => assumption); (case k1 => assumption); (case k2 => assumption); (case k3 => k_asm); (case k4 => first | rfl | assumption); intro h' R' U')))
local macro_rules | `(tactic| kc_enter) => `(tactic| (refine' code_defC ?k1 ?k2 ?k3 ?k4 ?k5 ?kA ?kF ?kK ?k6 ?k7 ?k8 ?k9 ?kB ?kD ?_ ?c2 ?c3 ?c4; (case kA => exact rfl); (case kF => exact rfl); (case kK => first | exact rfl | assumption); (case k1 => k_asm); (case k2 => k_asm); (case k3 => k_asm); (case k4 => k_asm); (case k5 => k_asm); (case k6 => k_is); (case k7 => k_is); (case k8 => k_room); (case k9 => exact BindsTo.of_eq rfl); (case kB => exact rfl); (case kD => decide +kernel); (case c2 => exact rfl); (case c3 => exact rfl); (case c4 => exact rfl); intro g' L' h' tk' cells' FG' F' N' Y' B' X' T' l1; (try k_lt l1); k_cells Y'; (try simp only [List.cons_append, List.nil_append] at N'); (try dsimp only); (try k_lift B')))
local macro_rules | `(tactic| walk_at "call builtin:len") => `(tactic| (k_here; k_dflt (refine' pm_len ?X ?F ?I ?hm ?ho ?hc ?lo ?H ?hz ?_; (case X => k_asm); (case F => k_asm); (case I => k_inst); (case hm => k_is); (case ho => k_is); (case hc => k_is); (case lo => k_asm); (case H => k_asm); (case hz => first | assumption | omega))))
local macro_rules | `(tactic| walk_at "compareOp IsNot ref ref") => `(tactic| ((with_reducible show wpAny _ _ (compareOp .IsNot _ _) _ _ _); refine solid_isNot (.inl ⟨_, rfl⟩) ?_))
local macro_rules | `(tactic| walk_at "compareOp IsNot int int") => `(tactic| (refine solid_isNot (.inr ⟨_, _, rfl, by assumption⟩) ?_))
local macro_rules | `(tactic| walk_at "compareOp Is ref ref") => `(tactic| (refine solid_is (.inl ⟨_, rfl⟩) ?_))
local macro_rules | `(tactic| walk_at "compareOp Is int int") => `(tactic| (refine solid_is (.inr ⟨_, _, rfl, by assumption⟩) ?_))
local macro_rules | `(tactic| walk_at "eval ListComp") => `(tactic| (k_here; k_dflt (refine' comp_none (knd := strKind _ _) ?F ?c ?h1 ?h2 ?h3 ?h4 ?_; (case F => k_asm); (case c => exact rfl); (case h1 => decide); (case h2 => exact rfl); (case h3 => decide); (case h4 => exact rfl))))
local macro_rules | `(tactic| walk_at "compareOp NotEq int int") => `(tactic| with_reducible refine ne_int_self ?_)
theorem raisedSN_sub {base G : Heap} {l : List Env} {e : Addr} {cls : Value} {ns ns' : List (Addr × Obj)} {h : Heap} (R : RaisedSN base G l e cls ns h) (q : ∀ p ∈ ns', p ∈ ns) : RaisedSN base G l e cls ns' h := by
  obtain ⟨B, a0, b1, b2, b3, b4⟩ := R
  exact ⟨B, a0, b1, b2, fun p hp => b3 p (q p hp), b4⟩
set_option maxHeartbeats 8000000 in
theorem get_keyerr {w : World} {p : Program} {loose : List Str} {mean : ExcName → Option Value} {mg mb : Str → Option Value} {dp un : Nat} {gd : Option (List Code)} {cn : Str} {cs : Scope} {a : Addr} {ccd : Value} {cl : List (Str × Addr)} {outer : List Env} {A₀ : Around} {base h₀ : Heap} {L : Addr} {m : Str → Option Value} {s : Shared}
    {x dx : Addr} {es : Array DictEntry} {ep : Nat} {kvs : List (Str × Value)} {k : Str} {t : Tok} {od : Obj} {news : List (Addr × Obj)} {Q E : Value → Shared → Prop}
    (B : Below A₀ base outer h₀) (F : Fr h₀ L s.heap m) (X : (Mine.hd.heap_39 w.params).In h₀) (N : News h₀ L s.heap news) (T : Top p loose mean mg mb h₀) (hk : cs.kind = .function) (hd : dp + 20 < recursionLimit) (hu : un + 80 < cLine)
    (hx : (x, pmdO dx es ep) ∈ news) (hdx : (dx, od) ∈ news) (lo : (x == sysModules) = false) (H : Ents w es kvs) 
    (hv : valueAt kvs k = none) (hkl : k.length ≤ 8) (hs : (Txt.isupper k && (Txt.slice k none (some 1) != "_")) = false)
    (raise : ∀ e g h' tk, Fr h₀ L g m → g.UpToSlots h' → RaisedSN base g (envX cn cs L a ccd cl :: outer) e (.type "KeyError") news h' → E (.ref e) { s with heap := h', toks := tk }) :
    wpAny (model PySem.Challenge.rw_bc6014_01.row.prog w) (ktrTop dp un gd cn cs L a ccd cl outer) (call (.ref 163) [.ref x, .str k t]) Q E s := by
  w_top off; revert X; k_fill; intro X
  refine wpAny_call ?_
  k_dflt ks_enter
  k_steps
  · rename (Txt.isupper k = true) => u1
    rename ((Txt.slice k none (some 1) != ("_" : Str)) = true) => u2
    rw [u1, u2] at hs
    cases hs
  all_goals
    rename (RaisedSN _ _ _ _ _ _ _) => R9
    exact raise _ _ _ _ (by assumption) (by assumption) (raisedSN_sub R9 fun p hp => .tail _ (.tail _ hp))
end Mine
/-! MkRule -/
namespace Mine
local macro_rules | `(tactic| k_mem) => `(tactic| focus ((repeat (first | exact List.Mem.head _ | assumption | refine List.mem_cons_of_mem _ ?_)); done))
local macro_rules | `(tactic| k_room) => `(tactic| first | assumption | ((try dsimp only [Around.deeper, ktrTop, Around.mark, callerA]); omega) | ktr_room)
local macro_rules | `(tactic| ks_enter) => `(tactic| (refine' ks_code_super ?k1 ?k2 ?k3 ?k4 ?k5 ?kA ?kF ?kK ?k6 ?k7 ?k8 ?k9 ?kB ?_ ?c1 ?c2 ?c3 ?c4; (case kA => exact rfl); (case kF => exact rfl); (case kK => first | exact rfl | assumption); (case k1 => k_asm); (case k2 => k_asm); (case k3 => k_asm); (case k4 => k_asm); (case k5 => k_asm); (case k6 => k_is); (case k7 => k_is); (case k8 => k_room); (case k9 => exact BindsTo.of_eq rfl); (case kB => exact locs rfl); (case c1 => decide); (case c2 => exact rfl); (case c3 => exact rfl); (case c4 => exact rfl); intro g' L' h' FG' F' N' B' X' T' l1; (try k_lt l1); (try dsimp only); (try k_lift B')))
local macro_rules | `(tactic| k_units) => `(tactic| first | assumption | ((try dsimp only [Around.deeper, ktrTop, Around.mark, callerA]); have hcL9 := cLine_is; omega) | ktr_units)
local macro_rules | `(tactic| k_all) => `(tactic| assumption)
local macro_rules | `(tactic| k_inst) => `(tactic| (refine' pm_inst ?N ?h1 ?h2; (case N => k_asm); (case h1 => k_mem); (case h2 => k_mem)))
local macro_rules | `(tactic| walk_at "compareOp NotIn str ref") => `(tactic| (k_here; k_dflt (refine' pm_notin_some ?X ?F ?N ?h1 ?h2 ?hm ?hc ?lo ?H ?hv ?_; (case X => k_asm); (case F => k_asm); (case N => k_asm); (case h1 => k_mem); (case h2 => k_mem); (case hm => k_is); (case hc => k_is); (case lo => k_asm); (case H => k_asm); (case hv => k_asm))))
local macro_rules | `(tactic| walk_at "compareOp NotIn str ref") => `(tactic| (k_here; k_dflt (refine' pm_notin_none ?X ?F ?N ?h1 ?h2 ?hm ?hc ?lo ?H ?hv ?_; (case X => k_asm); (case F => k_asm); (case N => k_asm); (case h1 => k_mem); (case h2 => k_mem); (case hm => k_is); (case hc => k_is); (case lo => k_asm); (case H => k_asm); (case hv => k_asm))))
local macro_rules | `(tactic| walk_at "compareOp In str ref") => `(tactic| (k_here; k_dflt (refine' pm_in_some ?X ?F ?N ?h1 ?h2 ?hm ?hc ?lo ?H ?hv ?_; (case X => k_asm); (case F => k_asm); (case N => k_asm); (case h1 => k_mem); (case h2 => k_mem); (case hm => k_is); (case hc => k_is); (case lo => k_asm); (case H => k_asm); (case hv => k_asm))))
local macro_rules | `(tactic| walk_at "compareOp In str ref") => `(tactic| (k_here; k_dflt (refine' pm_in_none ?X ?F ?N ?h1 ?h2 ?hm ?hc ?lo ?H ?hv ?_; (case X => k_asm); (case F => k_asm); (case N => k_asm); (case h1 => k_mem); (case h2 => k_mem); (case hm => k_is); (case hc => k_is); (case lo => k_asm); (case H => k_asm); (case hv => k_asm))))
local macro_rules | `(tactic| walk_at "getMethod ref") => `(tactic| (k_here; (with_reducible show wpAny _ _ (getMethod _ (Str.ofString "__getitem__") _) _ _ _); k_dflt (refine' pm_method_get ?F ?X ?N ?h1 ?h2 ?h3 ?ho ?ok ?hm ?_; (case F => k_asm); (case X => k_asm); (case N => k_asm); (case h1 => k_mem); (case h2 => k_mem); (case h3 => k_mem); (case ho => k_is); (case ok => kernel_rfl); (case hm => kernel_rfl); intro q' h' F' N' l1; (try k_lt l1))))
local macro_rules | `(tactic| walk_at "getMethod ref") => `(tactic| (k_here; (with_reducible show wpAny _ _ (getMethod _ (Str.ofString "__setitem__") _) _ _ _); k_dflt (refine' pm_method_set ?F ?X ?N ?h1 ?h2 ?h3 ?ho ?ok ?hm ?_; (case F => k_asm); (case X => k_asm); (case N => k_asm); (case h1 => k_mem); (case h2 => k_mem); (case h3 => k_mem); (case ho => k_is); (case ok => kernel_rfl); (case hm => kernel_rfl); intro q' h' F' N' l1; (try k_lt l1))))
local macro_rules | `(tactic| walk_at "callWith ref") => `(tactic| (k_here; k_dflt (refine' callWith_B ?N ?hq ?hT ?_; (case N => k_asm); (case hq => k_mem); (case hT => first | exact .inl rfl | exact .inr rfl); k_whole)))
local macro_rules | `(tactic| walk_at "And") => `(tactic| ((with_reducible show BndP _ _ _ _ _ ∧ _); refine ⟨bndP (by k_asm) (by k_mem), ?_⟩; try dsimp only [List.nil_append, List.cons_append]))
local macro_rules | `(tactic| walk_at "call ref") => `(tactic| (k_here; (with_reducible show wpAny _ _ (call _ [Value.str _ _]) _ _ _); k_dflt (refine' pm_call_get ?X ?F ?N ?hq ?hx ?hdx ?hcd ?hmod ?hty ?H ?hv ?_; (case X => k_asm); (case F => k_asm); (case N => k_asm); (case hq => k_mem); (case hx => k_mem); (case hdx => k_mem); (case hcd => kernel_rfl); (case hmod => k_is); (case hty => k_is); (case H => k_asm); (case hv => k_asm))))
local macro_rules | `(tactic| walk_at "call ref") => `(tactic| (k_here; (with_reducible show wpAny _ _ (call _ [Value.str _ _, _]) _ _ _); k_dflt (refine' pm_call_set ?X ?F ?N ?hq ?hx ?hdx ?U ?ho ?H ?hsz ?_; (case X => k_asm); (case F => k_asm); (case N => k_asm); (case hq => k_mem); (case hx => k_mem); (case hdx => k_mem); (case U => k_updF); (case ho => k_is); (case H => k_asm); (case hsz => k_asm); intro es' ep' h' F' N' H'; (try dsimp only at N'))))
local macro_rules | `(tactic| walk_at "wpAt") => `(tactic| (ks_step "eval Call"; with_unfolding_all refine ks_wpAt_MethodCall ?_))
local macro_rules | `(tactic| walk_at "BndP") => `(tactic| (k_dflt (refine' bndP ?N ?hq; (case N => k_asm); (case hq => k_mem))))
local macro_rules | `(tactic| walk_at "wpAt") => `(tactic| (dsimp only; ks_step "execs cons"; refine ks_wpAt_execs_cons ?_))
local macro_rules | `(tactic| walk_at "wpAt") => `(tactic| (ks_step "exec Expr"; with_unfolding_all refine ks_wpAt_Expr_any ?_))
local macro_rules | `(tactic| walk_at "call builtin:callable") => `(tactic| (k_here; k_dflt (first
  | ((with_reducible show wpAny _ _ (call _ [Value.int _ _]) _ _ _); refine callable_int ?_)
  | (refine' callable_K ?X ?F ?e ?_; (case X => k_asm); (case F => k_asm); (case e => k_is))
  | (refine' callable_inst ?X ?F ?I ?e ?_; (case X => k_asm); (case F => k_asm); (case I => k_inst); (case e => k_is)))))
local macro_rules | `(tactic| walk_at "call builtin:hasattr") => `(tactic| (k_here; k_dflt (first
  | ((with_reducible show wpAny _ _ (call _ [Value.int _ _, _]) _ _ _); refine ha_intK (by exact rfl) (by k_asm) (by k_asm) ?_; intro h' tk' F' N')
  | (refine' ha_fnK ?hA ?X ?F ?N ?e ?_; (case hA => exact rfl); (case X => k_asm); (case F => k_asm); (case N => k_asm); (case e => k_is); intro h' tk' F' N')
  | (refine' ha_instK ?X ?F ?I ?hg ?hm ?hh ?ha ?hn ?hl ?hv ?_; (case X => k_asm); (case F => k_asm); (case I => k_inst); (case hg => k_is); (case hm => k_is); (case hh => k_is); (case ha => k_is); (case hn => k_is); (case hl => k_get); (case hv => k_handed)))))
local macro_rules | `(tactic| walk_at "call builtin:getattr") => `(tactic| (k_here; k_dflt (refine' getattr3_K ?X ?F ?I ?hg ?hm ?hh ?hs ?ha ?hn ?hl ?hv ?_; (case X => k_asm); (case F => k_asm); (case I => k_inst); (case hg => k_is); (case hm => k_is); (case hh => k_is); (case hs => decide +kernel); (case ha => k_is); (case hn => k_is); (case hl => k_get); (case hv => k_handed))))
theorem news_mk {h₀ h : Heap} {L : Addr} {T R F D : Addr × Obj} {rest : List (Addr × Obj)} (N : News h₀ L h (T :: R :: F :: D :: rest)) : News h₀ L h (F :: D :: R :: rest) := fun p hp => by
  rcases List.mem_cons.mp hp with rfl | hp
  · exact N _ (.tail _ (.tail _ (.head _)))
  rcases List.mem_cons.mp hp with rfl | hp
  · exact N _ (.tail _ (.tail _ (.tail _ (.head _))))
  rcases List.mem_cons.mp hp with rfl | hp
  · exact N _ (.tail _ (.head _))
  · exact N _ (.tail _ (.tail _ (.tail _ (.tail _ hp))))
set_option maxHeartbeats 8000000 in
theorem mk_rule {w : World} {p : Program} {loose : List Str} {mean : ExcName → Option Value} {mg mb : Str → Option Value} {dp un : Nat} {gd : Option (List Code)} {cn : Str} {cs : Scope} {a : Addr} {ccd : Value} {cl : List (Str × Addr)} {outer : List Env} {A₀ : Around} {base h₀ : Heap} {L : Addr} {m : Str → Option Value} {s : Shared}
    {ls : Addr} {k xs : Str} {t tx ti : Tok} {i : Int} {c : Nat} {rest : List (Addr × Obj)} {Q E : Value → Shared → Prop}
    (B : Below A₀ base outer h₀) (F : Fr h₀ L s.heap m) (X : (Mine.hd.heap_39 w.params).In h₀) (N : News h₀ L s.heap ((ls, W.listOf #[.str xs tx] c) :: rest)) (T : Top p loose mean mg mb h₀) (hk : cs.kind = .function) (hd : dp + 20 < recursionLimit) (hu : un + 80 < cLine)
    (ret : ∀ f d rl t1 t2 t3 t4 t5 h' tk, Fr h₀ L h' m → News h₀ L h' ((f, instObj 53 d) :: (d, dictOf (rfEs w.params t1 t2 t3 t4 t5 (.str k t) (.ref rl) (.int i ti) .none) 5) :: (rl, W.listOf #[.str xs tx] 0) :: (ls, W.listOf #[.str xs tx] c) :: rest) →
      (∀ p ∈ (ls, W.listOf #[.str xs tx] c) :: rest, p.1 < d) → @LT.lt Nat _ d f → @LT.lt Nat _ f rl → Q (.ref f) { s with heap := h', toks := tk }) :
    wpAny (model PySem.Challenge.rw_bc6014_01.row.prog w) (ktrTop dp un gd cn cs L a ccd cl outer) (call (.ref 53) [.str k t, .ref ls, .int i ti]) Q E s := by
  w_top off; revert X; k_fill; intro X
  k_dflt (refine' call_cls ?k1 ?k2 ?k3 ?k4 ?k5 ?k6 ?_; (case k1 => k_asm); (case k2 => k_asm); (case k3 => k_asm); (case k4 => k_is); (case k5 => k_is); (case k6 => k_is); intro x' d' h' F' N' l1 l2; have l1o := l1; (try k_lt l1); (try k_lt2 l2); (refine' code_def ?k1 ?k2 ?k3 ?k4 ?k5 ?kA ?kF ?kK ?k6 ?k7 ?k8 ?k9 ?kB ?_ ?c2 ?c3 ?c4 ?c5; (case kA => exact rfl); (case kF => exact rfl); (case kK => assumption); (case k1 => k_asm); (case k2 => k_asm); (case k3 => k_asm); (case k4 => k_asm); (case k5 => k_asm); (case k6 => k_is); (case k7 => k_is); (case k8 => k_room); (case k9 => exact binds_K (by k_in) rfl (by k_is) rfl rfl rfl); (case c5 => decide); (case kB => exact locs rfl); (case c2 => exact rfl); (case c3 => exact rfl); (case c4 => exact rfl); intro g' L' h' FG' F' N' B' X' T'; (try dsimp only); (try k_lift B')))
  k_steps
  rename (News h₀ L _ (_ :: _)) => N9
  dsimp only at N9
  exact ret x' d' _ _ _ _ _ _ _ _ (by assumption) (news_mk N9) l1o l2 (by omega)
end Mine
/-! Same -/
namespace Mine
local macro_rules | `(tactic| k_mem) => `(tactic| focus ((repeat (first | exact List.Mem.head _ | assumption | refine List.mem_cons_of_mem _ ?_)); done))
local macro_rules | `(tactic| k_room) => `(tactic| first | assumption | ((try dsimp only [Around.deeper, ktrTop, Around.mark, callerA]); omega) | ktr_room)
local macro_rules | `(tactic| ks_enter) => `(tactic| (refine' ks_code_super ?k1 ?k2 ?k3 ?k4 ?k5 ?kA ?kF ?kK ?k6 ?k7 ?k8 ?k9 ?kB ?_ ?c1 ?c2 ?c3 ?c4; (case kA => exact rfl); (case kF => exact rfl); (case kK => first | exact rfl | assumption); (case k1 => k_asm); (case k2 => k_asm); (case k3 => k_asm); (case k4 => k_asm); (case k5 => k_asm); (case k6 => k_is); (case k7 => k_is); (case k8 => k_room); (case k9 => exact BindsTo.of_eq rfl); (case kB => exact locs rfl); (case c1 => decide); (case c2 => exact rfl); (case c3 => exact rfl); (case c4 => exact rfl); intro g' L' h' FG' F' N' B' X' T' l1; (try k_lt l1); (try dsimp only); (try k_lift B')))
local macro_rules | `(tactic| k_units) => `(tactic| first | assumption | ((try dsimp only [Around.deeper, ktrTop, Around.mark, callerA]); have hcL9 := cLine_is; omega) | ktr_units)
local macro_rules | `(tactic| k_all) => `(tactic| assumption)
local macro_rules | `(tactic| k_inst) => `(tactic| (refine' pm_inst ?N ?h1 ?h2; (case N => k_asm); (case h1 => k_mem); (case h2 => k_mem)))
local macro_rules | `(tactic| walk_at "compareOp NotIn str ref") => `(tactic| (k_here; k_dflt (refine' pm_notin_some ?X ?F ?N ?h1 ?h2 ?hm ?hc ?lo ?H ?hv ?_; (case X => k_asm); (case F => k_asm); (case N => k_asm); (case h1 => k_mem); (case h2 => k_mem); (case hm => k_is); (case hc => k_is); (case lo => k_asm); (case H => k_asm); (case hv => k_asm))))
local macro_rules | `(tactic| walk_at "compareOp NotIn str ref") => `(tactic| (k_here; k_dflt (refine' pm_notin_none ?X ?F ?N ?h1 ?h2 ?hm ?hc ?lo ?H ?hv ?_; (case X => k_asm); (case F => k_asm); (case N => k_asm); (case h1 => k_mem); (case h2 => k_mem); (case hm => k_is); (case hc => k_is); (case lo => k_asm); (case H => k_asm); (case hv => k_asm))))
local macro_rules | `(tactic| walk_at "compareOp In str ref") => `(tactic| (k_here; k_dflt (refine' pm_in_some ?X ?F ?N ?h1 ?h2 ?hm ?hc ?lo ?H ?hv ?_; (case X => k_asm); (case F => k_asm); (case N => k_asm); (case h1 => k_mem); (case h2 => k_mem); (case hm => k_is); (case hc => k_is); (case lo => k_asm); (case H => k_asm); (case hv => k_asm))))
local macro_rules | `(tactic| walk_at "compareOp In str ref") => `(tactic| (k_here; k_dflt (refine' pm_in_none ?X ?F ?N ?h1 ?h2 ?hm ?hc ?lo ?H ?hv ?_; (case X => k_asm); (case F => k_asm); (case N => k_asm); (case h1 => k_mem); (case h2 => k_mem); (case hm => k_is); (case hc => k_is); (case lo => k_asm); (case H => k_asm); (case hv => k_asm))))
local macro_rules | `(tactic| walk_at "getMethod ref") => `(tactic| (k_here; (with_reducible show wpAny _ _ (getMethod _ (Str.ofString "__getitem__") _) _ _ _); k_dflt (refine' pm_method_get ?F ?X ?N ?h1 ?h2 ?h3 ?ho ?ok ?hm ?_; (case F => k_asm); (case X => k_asm); (case N => k_asm); (case h1 => k_mem); (case h2 => k_mem); (case h3 => k_mem); (case ho => k_is); (case ok => kernel_rfl); (case hm => kernel_rfl); intro q' h' F' N' l1; (try k_lt l1))))
local macro_rules | `(tactic| walk_at "getMethod ref") => `(tactic| (k_here; (with_reducible show wpAny _ _ (getMethod _ (Str.ofString "__setitem__") _) _ _ _); k_dflt (refine' pm_method_set ?F ?X ?N ?h1 ?h2 ?h3 ?ho ?ok ?hm ?_; (case F => k_asm); (case X => k_asm); (case N => k_asm); (case h1 => k_mem); (case h2 => k_mem); (case h3 => k_mem); (case ho => k_is); (case ok => kernel_rfl); (case hm => kernel_rfl); intro q' h' F' N' l1; (try k_lt l1))))
local macro_rules | `(tactic| walk_at "callWith ref") => `(tactic| (k_here; k_dflt (refine' callWith_B ?N ?hq ?hT ?_; (case N => k_asm); (case hq => k_mem); (case hT => first | exact .inl rfl | exact .inr rfl); k_whole)))
local macro_rules | `(tactic| walk_at "And") => `(tactic| ((with_reducible show BndP _ _ _ _ _ ∧ _); refine ⟨bndP (by k_asm) (by k_mem), ?_⟩; try dsimp only [List.nil_append, List.cons_append]))
local macro_rules | `(tactic| walk_at "call ref") => `(tactic| (k_here; (with_reducible show wpAny _ _ (call _ [Value.str _ _]) _ _ _); k_dflt (refine' pm_call_get ?X ?F ?N ?hq ?hx ?hdx ?hcd ?hmod ?hty ?H ?hv ?_; (case X => k_asm); (case F => k_asm); (case N => k_asm); (case hq => k_mem); (case hx => k_mem); (case hdx => k_mem); (case hcd => kernel_rfl); (case hmod => k_is); (case hty => k_is); (case H => k_asm); (case hv => k_asm))))
local macro_rules | `(tactic| walk_at "call ref") => `(tactic| (k_here; (with_reducible show wpAny _ _ (call _ [Value.str _ _, _]) _ _ _); k_dflt (refine' pm_call_set ?X ?F ?N ?hq ?hx ?hdx ?U ?ho ?H ?hsz ?_; (case X => k_asm); (case F => k_asm); (case N => k_asm); (case hq => k_mem); (case hx => k_mem); (case hdx => k_mem); (case U => k_updF); (case ho => k_is); (case H => k_asm); (case hsz => k_asm); intro es' ep' h' F' N' H'; (try dsimp only at N'))))
local macro_rules | `(tactic| walk_at "wpAt") => `(tactic| (ks_step "eval Call"; with_unfolding_all refine ks_wpAt_MethodCall ?_))
local macro_rules | `(tactic| walk_at "BndP") => `(tactic| (k_dflt (refine' bndP ?N ?hq; (case N => k_asm); (case hq => k_mem))))
local macro_rules | `(tactic| walk_at "wpAt") => `(tactic| (dsimp only; ks_step "execs cons"; refine ks_wpAt_execs_cons ?_))
local macro_rules | `(tactic| walk_at "wpAt") => `(tactic| (ks_step "exec Expr"; with_unfolding_all refine ks_wpAt_Expr_any ?_))
local macro_rules | `(tactic| walk_at "call builtin:callable") => `(tactic| (k_here; k_dflt (first
  | ((with_reducible show wpAny _ _ (call _ [Value.int _ _]) _ _ _); refine callable_int ?_)
  | (refine' callable_K ?X ?F ?e ?_; (case X => k_asm); (case F => k_asm); (case e => k_is))
  | (refine' callable_inst ?X ?F ?I ?e ?_; (case X => k_asm); (case F => k_asm); (case I => k_inst); (case e => k_is)))))
local macro_rules | `(tactic| walk_at "call builtin:hasattr") => `(tactic| (k_here; k_dflt (first
  | ((with_reducible show wpAny _ _ (call _ [Value.int _ _, _]) _ _ _); refine ha_intK (by exact rfl) (by k_asm) (by k_asm) ?_; intro h' tk' F' N')
  | (refine' ha_fnK ?hA ?X ?F ?N ?e ?_; (case hA => exact rfl); (case X => k_asm); (case F => k_asm); (case N => k_asm); (case e => k_is); intro h' tk' F' N')
  | (refine' ha_instK ?X ?F ?I ?hg ?hm ?hh ?ha ?hn ?hl ?hv ?_; (case X => k_asm); (case F => k_asm); (case I => k_inst); (case hg => k_is); (case hm => k_is); (case hh => k_is); (case ha => k_is); (case hn => k_is); (case hl => k_get); (case hv => k_handed)))))
local macro_rules | `(tactic| walk_at "call builtin:getattr") => `(tactic| (k_here; k_dflt (refine' getattr3_K ?X ?F ?I ?hg ?hm ?hh ?hs ?ha ?hn ?hl ?hv ?_; (case X => k_asm); (case F => k_asm); (case I => k_inst); (case hg => k_is); (case hm => k_is); (case hh => k_is); (case hs => decide +kernel); (case ha => k_is); (case hn => k_is); (case hl => k_get); (case hv => k_handed))))
local macro_rules | `(tactic| walk_at "exec Raise some none") => `(tactic| (k_here; (with_reducible show wpAny _ _ (exec (Stmt.Raise (some (Expr.Call (Expr.Name _ _) [_] [] _)) none _) _) _ _ _); k_dflt (refine' raiseX_own ?F ?X ?T ?e ?q PySem.F.excBase_Exception ?h ?_ ?b ?c ?d ?f; (case F => k_asm); (case X => k_asm); (case T => exact topRead_of (by k_asm)); (case e => k_is); (case q => k_exc); (case h => first | rfl | assumption); (case b => rfl); (case c => first | rfl | assumption); (case d => rfl); (case f => decide); k_whole)))
local macro_rules | `(tactic| walk_at "And") => `(tactic| (refine ⟨⟨_, by assumption⟩, ?_⟩; (try dsimp only); intro h' e' M'))
local macro_rules | `(tactic| walk_at "leaving ref") => `(tactic| (k_here; k_dflt (refine' leave_madeX ?k1 ?k0 ?k2 ?k3 rfl ?k4 ?_; (case k0 => assumption); (case k1 => assumption); (case k2 => assumption); (case k3 => k_asm); (case k4 => first | rfl | assumption); intro h' t' R' U')))
local macro_rules | `(tactic| walk_at "call ref") => `(tactic| (k_here; (with_reducible show wpAny _ _ (call _ [Value.str _ _]) _ _ _); k_dflt (refine' pm_call_get_none ?hh ?X ?F ?N ?hq ?hx ?hdx ?hcd ?hmod ?hty ?hmis ?lo ?H ?hv ?_; (case hh => first | rfl | assumption); (case X => k_asm); (case F => k_asm); (case N => k_asm); (case hq => k_mem); (case hx => k_mem); (case hdx => k_mem); (case hcd => kernel_rfl); (case hmod => k_is); (case hty => k_is); (case hmis => k_is); (case lo => k_asm); (case H => k_asm); (case hv => k_asm); intro h' e' M')))
local macro_rules | `(tactic| walk_at "leaving ref") => `(tactic| (k_here; k_dflt (refine' leave_newX ?k1 ?k0 ?k2 ?k3 rfl ?k4 ?_; (case k0 => assumption); (case k1 => assumption); (case k2 => assumption); (case k3 => k_asm); (case k4 => first | rfl | assumption); intro h' R' U')))
local macro_rules | `(tactic| kc_enter) => `(tactic| (refine' code_defC ?k1 ?k2 ?k3 ?k4 ?k5 ?kA ?kF ?kK ?k6 ?k7 ?k8 ?k9 ?kB ?kD ?_ ?c2 ?c3 ?c4; (case kA => exact rfl); (case kF => exact rfl); (case kK => first | exact rfl | assumption); (case k1 => k_asm); (case k2 => k_asm); (case k3 => k_asm); (case k4 => k_asm); (case k5 => k_asm); (case k6 => k_is); (case k7 => k_is); (case k8 => k_room); (case k9 => exact BindsTo.of_eq rfl); (case kB => exact rfl); (case kD => decide +kernel); (case c2 => exact rfl); (case c3 => exact rfl); (case c4 => exact rfl); intro g' L' h' tk' cells' FG' F' N' Y' B' X' T' l1; (try k_lt l1); k_cells Y'; (try simp only [List.cons_append, List.nil_append] at N'); (try dsimp only); (try k_lift B')))
local macro_rules | `(tactic| walk_at "call builtin:len") => `(tactic| (k_here; k_dflt (refine' pm_len ?X ?F ?I ?hm ?ho ?hc ?lo ?H ?hz ?_; (case X => k_asm); (case F => k_asm); (case I => k_inst); (case hm => k_is); (case ho => k_is); (case hc => k_is); (case lo => k_asm); (case H => k_asm); (case hz => first | assumption | omega))))
local macro_rules | `(tactic| walk_at "compareOp IsNot ref ref") => `(tactic| ((with_reducible show wpAny _ _ (compareOp .IsNot _ _) _ _ _); refine solid_isNot (.inl ⟨_, rfl⟩) ?_))
local macro_rules | `(tactic| walk_at "compareOp IsNot int int") => `(tactic| (refine solid_isNot (.inr ⟨_, _, rfl, by assumption⟩) ?_))
local macro_rules | `(tactic| walk_at "compareOp Is ref ref") => `(tactic| (refine solid_is (.inl ⟨_, rfl⟩) ?_))
local macro_rules | `(tactic| walk_at "compareOp Is int int") => `(tactic| (refine solid_is (.inr ⟨_, _, rfl, by assumption⟩) ?_))
local macro_rules | `(tactic| walk_at "eval ListComp") => `(tactic| (k_here; k_dflt (refine' comp_none (knd := strKind _ _) ?F ?c ?h1 ?h2 ?h3 ?h4 ?_; (case F => k_asm); (case c => exact rfl); (case h1 => decide); (case h2 => exact rfl); (case h3 => decide); (case h4 => exact rfl))))
local macro_rules | `(tactic| walk_at "compareOp NotEq int int") => `(tactic| with_reducible refine ne_int_self ?_)
local macro_rules | `(tactic| walk_at "call builtin:len") => `(tactic| (k_here; k_dflt (refine' kda_len (knd := PySem.strKind _ _) ?N ?hp ?hd ?lo ?hz ?_; (case N => k_asm); (case hp => k_mem); (case hd => k_asm); (case lo => k_asm); (case hz => exact le_len (by assumption)))))
local macro_rules | `(tactic| walk_at "compareOp In str ref") => `(tactic| (k_here; k_dflt (refine' kda_in (knd := PySem.strKind _ _) ?N ?hp ?hd ?lo (strKind_is _ _ _ _) true ?hb ?_; (case N => k_asm); (case hp => k_mem); (case hd => k_asm); (case lo => k_asm); (case hb => exact (congrArg Option.isSome (by with_reducible assumption : valueAt _ _ = some _)).trans rfl))))
local macro_rules | `(tactic| walk_at "compareOp In str ref") => `(tactic| (k_here; k_dflt (refine' kda_in (knd := PySem.strKind _ _) ?N ?hp ?hd ?lo (strKind_is _ _ _ _) false ?hb ?_; (case N => k_asm); (case hp => k_mem); (case hd => k_asm); (case lo => k_asm); (case hb => exact (congrArg Option.isSome (by with_reducible assumption : valueAt _ _ = none)).trans rfl))))
local macro_rules | `(tactic| walk_at "compareOp NotIn str ref") => `(tactic| (k_here; k_dflt (refine' kdg_notin (knd := PySem.strKind _ _) ?N ?hp ?hd ?lo (strKind_is _ _ _ _) true ?hb ?_; (case N => k_asm); (case hp => k_mem); (case hd => k_asm); (case lo => k_asm); (case hb => exact (congrArg Option.isSome (by with_reducible assumption : valueAt _ _ = some _)).trans rfl))))
local macro_rules | `(tactic| walk_at "compareOp NotIn str ref") => `(tactic| (k_here; k_dflt (refine' kdg_notin (knd := PySem.strKind _ _) ?N ?hp ?hd ?lo (strKind_is _ _ _ _) false ?hb ?_; (case N => k_asm); (case hp => k_mem); (case hd => k_asm); (case lo => k_asm); (case hb => exact (congrArg Option.isSome (by with_reducible assumption : valueAt _ _ = none)).trans rfl))))
local macro_rules | `(tactic| walk_at "subscriptTail") => `(tactic| (k_here; (with_reducible show wpAny _ _ (subscriptTail _ _ (Value.ref _) (Value.str _ _)) _ _ _); k_dflt (refine' kda_item (knd := PySem.strKind _ _) ?N ?hp ?hd (strKind_is _ _ _ _) ?hl ?_; (case N => k_asm); (case hp => k_mem); (case hd => k_asm); (case hl => k_asm))))
local macro_rules | `(tactic| walk_at "setItem ref str") => `(tactic| (k_here; k_dflt (refine' kda_set (knd := PySem.strKind _ _) ?F ?N ?U ?d (strKind_is _ _ _ _) ?z ?_; (case F => k_asm); (case N => k_asm); (case U => k_updF); (case d => k_asm); (case z => exact le_size (by assumption))); intro h' o' F' N' hd'; (try dsimp only at N')))
local macro_rules | `(tactic| walk_at "call builtin:dict.pop") => `(tactic| (k_here; k_dflt (refine' kob_pop (knd := PySem.strKind _ _) (more := []) ?F ?N ?U ?d (strKind_is _ _ _ _) (.inl rfl) (by rfl) (PySem.F.args_dict_pop_2 _ _) ?l ?z ?_; (case F => k_asm); (case N => k_asm); (case U => k_updF); (case d => k_asm); (case l => k_asm); (case z => exact le_size (by assumption))); intro h' o' F' N' hd'; (try dsimp only at N')))
local macro_rules | `(tactic| walk_at "call ref") => `(tactic| (k_here; (with_reducible show wpAny _ _ (call (Value.ref 163) [Value.ref _, Value.str _ _]) _ _ _); k_dflt (refine' get_some ?B ?F ?X ?N ?T ?hk ?hd ?hu ?hx ?hdx ?lo ?H ?hv ?_; (case B => k_asm); (case F => k_asm); (case X => k_asm); (case N => k_asm); (case T => k_asm); (case hk => first | rfl | assumption); (case hd => k_room); (case hu => k_units); (case hx => k_mem); (case hdx => k_mem); (case lo => k_asm); (case H => k_asm); (case hv => k_asm); intro h' tk' F' N')))
local macro_rules | `(tactic| walk_at "call ref") => `(tactic| (k_here; (with_reducible show wpAny _ _ (call (Value.ref 163) [Value.ref _, Value.str _ _]) _ _ _); k_dflt (refine' get_self ?B ?F ?X ?N ?T ?hk ?hd ?hu ?hx ?hdx ?lo ?H ?hv ?hl ?h1 ?h2 ?_; (case B => k_asm); (case F => k_asm); (case X => k_asm); (case N => k_asm); (case T => k_asm); (case hk => first | rfl | assumption); (case hd => k_room); (case hu => k_units); (case hx => k_mem); (case hdx => k_mem); (case lo => k_asm); (case H => k_asm); (case hv => k_asm); (case hl => decide); (case h1 => decide +kernel); (case h2 => decide +kernel); intro h' tk' t' F' N')))
local macro_rules | `(tactic| walk_at "call ref") => `(tactic| (k_here; (with_reducible show wpAny _ _ (call (Value.ref 163) [Value.ref _, Value.str _ _]) _ _ _); k_dflt (refine' get_keyerr ?B ?F ?X ?N ?T ?hk ?hd ?hu ?hx ?hdx ?lo ?H ?hv ?hl ?h1 ?_; (case B => k_asm); (case F => k_asm); (case X => k_asm); (case N => k_asm); (case T => k_asm); (case hk => first | rfl | assumption); (case hd => k_room); (case hu => k_units); (case hx => k_mem); (case hdx => k_mem); (case lo => k_asm); (case H => k_asm); (case hv => k_asm); (case hl => decide); (case h1 => decide +kernel); intro e' g' h' tk' F' U' R')))
local macro_rules | `(tactic| walk_at "noteFrame ref") => `(tactic| (k_here; k_dflt (refine' caught_SN0 (T' := "KeyError") ?R ?F ?K ?U ?XB ?TB ?D ?T0 ?ex PyProof.Rows.Boot.«KeyError» ?hn kr_isExc_KeyError kr_notTuple_KeyError ?hs ?_; (case R => assumption); (case F => assumption); (case K => assumption); (case U => assumption); (case XB => assumption); (case TB => assumption); (case D => assumption); (case T0 => first | assumption | exact KtsTurn.refl); (case hs => kts_sub); (case ex => k_is); (case hn => decide)); intro h' g' T' F' N' K' X' P' D'))
set_option maxHeartbeats 8000000 in
theorem law_same {w : World} {p : Program} {loose : List Str} {mean : ExcName → Option Value} {mg mb : Str → Option Value} {dp un : Nat} {gd : Option (List Code)} {cn : Str} {cs : Scope} {a : Addr} {ccd : Value} {cl : List (Str × Addr)} {outer : List Env} {A₀ : Around} {base h₀ : Heap} {L : Addr} {m : Str → Option Value} {s : Shared}
    {x dx md : Addr} {es : Array DictEntry} {ep : Nat} {kvs : List (Str × Value)} {od om : Obj} {rest : List (Addr × Obj)} {Q E : Value → Shared → Prop}
    (B : Below A₀ base outer h₀) (F : Fr h₀ L s.heap m) (X : (Mine.hd.heap_39 w.params).In h₀) (N : News h₀ L s.heap ((x, pmdO dx es ep) :: (dx, od) :: (md, om) :: rest)) (T : Top p loose mean mg mb h₀) (hk : cs.kind = .function) (hd : dp + 30 < recursionLimit) (hu : un + 100 < cLine)
    (lo : (x == sysModules) = false) (lo2 : (md == sysModules) = false) (H : Ents w es kvs) (hm : om.IsDictOf (strKind PySem.Challenge.rw_bc6014_01.row.prog w) kvs) (hz : kvs.length ≤ 8) (hs : ∀ p ∈ kvs, Solid p.2)
    (ret : ∀ h' tk, Fr h₀ L h' m → News h₀ L h' ((x, pmdO dx es ep) :: (dx, od) :: (md, om) :: rest) → Q (.bool true) { s with heap := h', toks := tk }) :
    wpAny (model PySem.Challenge.rw_bc6014_01.row.prog w) (ktrTop dp un gd cn cs L a ccd cl outer) (call (.ref 196) [.ref x, .ref md]) Q E s := by
  w_top off; revert X; k_fill; intro X
  refine wpAny_call ?_
  k_dflt kc_enter
  k_steps
  rename (Fr _ _ _ _) => F9
  rename (News _ _ _ (_ :: _)) => N9
  refine ⟨_, _, _, kvs, rfl, rfl, F9, N9, .tail _ (.tail _ (.tail _ (.tail _ (.head _)))), hm, lo2, le_size hz, fun i k y v I oI C oC D m₂ h tk E' e1 e2 e3 e4 F N e5 => ?_, fun D h tk F N O => ?_⟩
  · obtain ⟨t, rfl⟩ := Value.isStrOf_shape e2
    have hv : valueAt kvs k = some y := valueAt_of_get (keysNodup_of_isDictOf hm) e1
    have sy : Solid y := hs _ (List.mem_of_getElem? e1)
    rcases sy with ⟨b, rfl⟩ | ⟨j, u, rfl, hu0⟩
    · k_steps
      exact ⟨rfl, _, _, rfl, by assumption, by assumption⟩
    · k_steps
      exact ⟨rfl, _, _, rfl, by assumption, by assumption⟩
  · dsimp only
    k_steps
    rename (News h₀ L _ (_ :: _)) => N8
    exact ret _ _ (by assumption) (fun p hp => N8 p (.tail _ (.tail _ (.tail _ hp))))
end Mine
/-! ReadSome -/
namespace Mine
local macro_rules | `(tactic| k_mem) => `(tactic| focus ((repeat (first | exact List.Mem.head _ | assumption | refine List.mem_cons_of_mem _ ?_)); done))
local macro_rules | `(tactic| k_room) => `(tactic| first | assumption | ((try dsimp only [Around.deeper, ktrTop, Around.mark, callerA]); omega) | ktr_room)
local macro_rules | `(tactic| ks_enter) => `(tactic| (refine' ks_code_super ?k1 ?k2 ?k3 ?k4 ?k5 ?kA ?kF ?kK ?k6 ?k7 ?k8 ?k9 ?kB ?_ ?c1 ?c2 ?c3 ?c4; (case kA => exact rfl); (case kF => exact rfl); (case kK => first | exact rfl | assumption); (case k1 => k_asm); (case k2 => k_asm); (case k3 => k_asm); (case k4 => k_asm); (case k5 => k_asm); (case k6 => k_is); (case k7 => k_is); (case k8 => k_room); (case k9 => exact BindsTo.of_eq rfl); (case kB => exact locs rfl); (case c1 => decide); (case c2 => exact rfl); (case c3 => exact rfl); (case c4 => exact rfl); intro g' L' h' FG' F' N' B' X' T' l1; (try k_lt l1); (try dsimp only); (try k_lift B')))
local macro_rules | `(tactic| k_units) => `(tactic| first | assumption | ((try dsimp only [Around.deeper, ktrTop, Around.mark, callerA]); have hcL9 := cLine_is; omega) | ktr_units)
local macro_rules | `(tactic| k_all) => `(tactic| assumption)
local macro_rules | `(tactic| k_inst) => `(tactic| (refine' pm_inst ?N ?h1 ?h2; (case N => k_asm); (case h1 => k_mem); (case h2 => k_mem)))
local macro_rules | `(tactic| walk_at "compareOp NotIn str ref") => `(tactic| (k_here; k_dflt (refine' pm_notin_some ?X ?F ?N ?h1 ?h2 ?hm ?hc ?lo ?H ?hv ?_; (case X => k_asm); (case F => k_asm); (case N => k_asm); (case h1 => k_mem); (case h2 => k_mem); (case hm => k_is); (case hc => k_is); (case lo => k_asm); (case H => k_asm); (case hv => k_asm))))
local macro_rules | `(tactic| walk_at "compareOp NotIn str ref") => `(tactic| (k_here; k_dflt (refine' pm_notin_none ?X ?F ?N ?h1 ?h2 ?hm ?hc ?lo ?H ?hv ?_; (case X => k_asm); (case F => k_asm); (case N => k_asm); (case h1 => k_mem); (case h2 => k_mem); (case hm => k_is); (case hc => k_is); (case lo => k_asm); (case H => k_asm); (case hv => k_asm))))
local macro_rules | `(tactic| walk_at "compareOp In str ref") => `(tactic| (k_here; k_dflt (refine' pm_in_some ?X ?F ?N ?h1 ?h2 ?hm ?hc ?lo ?H ?hv ?_; (case X => k_asm); (case F => k_asm); (case N => k_asm); (case h1 => k_mem); (case h2 => k_mem); (case hm => k_is); (case hc => k_is); (case lo => k_asm); (case H => k_asm); (case hv => k_asm))))
local macro_rules | `(tactic| walk_at "compareOp In str ref") => `(tactic| (k_here; k_dflt (refine' pm_in_none ?X ?F ?N ?h1 ?h2 ?hm ?hc ?lo ?H ?hv ?_; (case X => k_asm); (case F => k_asm); (case N => k_asm); (case h1 => k_mem); (case h2 => k_mem); (case hm => k_is); (case hc => k_is); (case lo => k_asm); (case H => k_asm); (case hv => k_asm))))
local macro_rules | `(tactic| walk_at "getMethod ref") => `(tactic| (k_here; (with_reducible show wpAny _ _ (getMethod _ (Str.ofString "__getitem__") _) _ _ _); k_dflt (refine' pm_method_get ?F ?X ?N ?h1 ?h2 ?h3 ?ho ?ok ?hm ?_; (case F => k_asm); (case X => k_asm); (case N => k_asm); (case h1 => k_mem); (case h2 => k_mem); (case h3 => k_mem); (case ho => k_is); (case ok => kernel_rfl); (case hm => kernel_rfl); intro q' h' F' N' l1; (try k_lt l1))))
local macro_rules | `(tactic| walk_at "getMethod ref") => `(tactic| (k_here; (with_reducible show wpAny _ _ (getMethod _ (Str.ofString "__setitem__") _) _ _ _); k_dflt (refine' pm_method_set ?F ?X ?N ?h1 ?h2 ?h3 ?ho ?ok ?hm ?_; (case F => k_asm); (case X => k_asm); (case N => k_asm); (case h1 => k_mem); (case h2 => k_mem); (case h3 => k_mem); (case ho => k_is); (case ok => kernel_rfl); (case hm => kernel_rfl); intro q' h' F' N' l1; (try k_lt l1))))
local macro_rules | `(tactic| walk_at "callWith ref") => `(tactic| (k_here; k_dflt (refine' callWith_B ?N ?hq ?hT ?_; (case N => k_asm); (case hq => k_mem); (case hT => first | exact .inl rfl | exact .inr rfl); k_whole)))
local macro_rules | `(tactic| walk_at "And") => `(tactic| ((with_reducible show BndP _ _ _ _ _ ∧ _); refine ⟨bndP (by k_asm) (by k_mem), ?_⟩; try dsimp only [List.nil_append, List.cons_append]))
local macro_rules | `(tactic| walk_at "call ref") => `(tactic| (k_here; (with_reducible show wpAny _ _ (call _ [Value.str _ _]) _ _ _); k_dflt (refine' pm_call_get ?X ?F ?N ?hq ?hx ?hdx ?hcd ?hmod ?hty ?H ?hv ?_; (case X => k_asm); (case F => k_asm); (case N => k_asm); (case hq => k_mem); (case hx => k_mem); (case hdx => k_mem); (case hcd => kernel_rfl); (case hmod => k_is); (case hty => k_is); (case H => k_asm); (case hv => k_asm))))
local macro_rules | `(tactic| walk_at "call ref") => `(tactic| (k_here; (with_reducible show wpAny _ _ (call _ [Value.str _ _, _]) _ _ _); k_dflt (refine' pm_call_set ?X ?F ?N ?hq ?hx ?hdx ?U ?ho ?H ?hsz ?_; (case X => k_asm); (case F => k_asm); (case N => k_asm); (case hq => k_mem); (case hx => k_mem); (case hdx => k_mem); (case U => k_updF); (case ho => k_is); (case H => k_asm); (case hsz => k_asm); intro es' ep' h' F' N' H'; (try dsimp only at N'))))
local macro_rules | `(tactic| walk_at "wpAt") => `(tactic| (ks_step "eval Call"; with_unfolding_all refine ks_wpAt_MethodCall ?_))
local macro_rules | `(tactic| walk_at "BndP") => `(tactic| (k_dflt (refine' bndP ?N ?hq; (case N => k_asm); (case hq => k_mem))))
local macro_rules | `(tactic| walk_at "wpAt") => `(tactic| (dsimp only; ks_step "execs cons"; refine ks_wpAt_execs_cons ?_))
local macro_rules | `(tactic| walk_at "wpAt") => `(tactic| (ks_step "exec Expr"; with_unfolding_all refine ks_wpAt_Expr_any ?_))
local macro_rules | `(tactic| walk_at "call builtin:callable") => `(tactic| (k_here; k_dflt (first
  | ((with_reducible show wpAny _ _ (call _ [Value.int _ _]) _ _ _); refine callable_int ?_)
  | (refine' callable_K ?X ?F ?e ?_; (case X => k_asm); (case F => k_asm); (case e => k_is))
  | (refine' callable_inst ?X ?F ?I ?e ?_; (case X => k_asm); (case F => k_asm); (case I => k_inst); (case e => k_is)))))
local macro_rules | `(tactic| walk_at "call builtin:hasattr") => `(tactic| (k_here; k_dflt (first
  | ((with_reducible show wpAny _ _ (call _ [Value.int _ _, _]) _ _ _); refine ha_intK (by exact rfl) (by k_asm) (by k_asm) ?_; intro h' tk' F' N')
  | (refine' ha_fnK ?hA ?X ?F ?N ?e ?_; (case hA => exact rfl); (case X => k_asm); (case F => k_asm); (case N => k_asm); (case e => k_is); intro h' tk' F' N')
  | (refine' ha_instK ?X ?F ?I ?hg ?hm ?hh ?ha ?hn ?hl ?hv ?_; (case X => k_asm); (case F => k_asm); (case I => k_inst); (case hg => k_is); (case hm => k_is); (case hh => k_is); (case ha => k_is); (case hn => k_is); (case hl => k_get); (case hv => k_handed)))))
local macro_rules | `(tactic| walk_at "call builtin:getattr") => `(tactic| (k_here; k_dflt (refine' getattr3_K ?X ?F ?I ?hg ?hm ?hh ?hs ?ha ?hn ?hl ?hv ?_; (case X => k_asm); (case F => k_asm); (case I => k_inst); (case hg => k_is); (case hm => k_is); (case hh => k_is); (case hs => decide +kernel); (case ha => k_is); (case hn => k_is); (case hl => k_get); (case hv => k_handed))))
local macro_rules | `(tactic| walk_at "exec Raise some none") => `(tactic| (k_here; (with_reducible show wpAny _ _ (exec (Stmt.Raise (some (Expr.Call (Expr.Name _ _) [_] [] _)) none _) _) _ _ _); k_dflt (refine' raiseX_own ?F ?X ?T ?e ?q PySem.F.excBase_Exception ?h ?_ ?b ?c ?d ?f; (case F => k_asm); (case X => k_asm); (case T => exact topRead_of (by k_asm)); (case e => k_is); (case q => k_exc); (case h => first | rfl | assumption); (case b => rfl); (case c => first | rfl | assumption); (case d => rfl); (case f => decide); k_whole)))
local macro_rules | `(tactic| walk_at "And") => `(tactic| (refine ⟨⟨_, by assumption⟩, ?_⟩; (try dsimp only); intro h' e' M'))
local macro_rules | `(tactic| walk_at "leaving ref") => `(tactic| (k_here; k_dflt (refine' leave_madeX ?k1 ?k0 ?k2 ?k3 rfl ?k4 ?_; (case k0 => assumption); (case k1 => assumption); (case k2 => assumption); (case k3 => k_asm); (case k4 => first | rfl | assumption); intro h' t' R' U')))
local macro_rules | `(tactic| walk_at "call ref") => `(tactic| (k_here; (with_reducible show wpAny _ _ (call _ [Value.str _ _]) _ _ _); k_dflt (refine' pm_call_get_none ?hh ?X ?F ?N ?hq ?hx ?hdx ?hcd ?hmod ?hty ?hmis ?lo ?H ?hv ?_; (case hh => first | rfl | assumption); (case X => k_asm); (case F => k_asm); (case N => k_asm); (case hq => k_mem); (case hx => k_mem); (case hdx => k_mem); (case hcd => kernel_rfl); (case hmod => k_is); (case hty => k_is); (case hmis => k_is); (case lo => k_asm); (case H => k_asm); (case hv => k_asm); intro h' e' M')))
local macro_rules | `(tactic| walk_at "leaving ref") => `(tactic| (k_here; k_dflt (refine' leave_newX ?k1 ?k0 ?k2 ?k3 rfl ?k4 ?_; (case k0 => assumption); (case k1 => assumption); (case k2 => assumption); (case k3 => k_asm); (case k4 => first | rfl | assumption); intro h' R' U')))
local macro_rules | `(tactic| kc_enter) => `(tactic| (refine' code_defC ?k1 ?k2 ?k3 ?k4 ?k5 ?kA ?kF ?kK ?k6 ?k7 ?k8 ?k9 ?kB ?kD ?_ ?c2 ?c3 ?c4; (case kA => exact rfl); (case kF => exact rfl); (case kK => first | exact rfl | assumption); (case k1 => k_asm); (case k2 => k_asm); (case k3 => k_asm); (case k4 => k_asm); (case k5 => k_asm); (case k6 => k_is); (case k7 => k_is); (case k8 => k_room); (case k9 => exact BindsTo.of_eq rfl); (case kB => exact rfl); (case kD => decide +kernel); (case c2 => exact rfl); (case c3 => exact rfl); (case c4 => exact rfl); intro g' L' h' tk' cells' FG' F' N' Y' B' X' T' l1; (try k_lt l1); k_cells Y'; (try simp only [List.cons_append, List.nil_append] at N'); (try dsimp only); (try k_lift B')))
local macro_rules | `(tactic| walk_at "call builtin:len") => `(tactic| (k_here; k_dflt (refine' pm_len ?X ?F ?I ?hm ?ho ?hc ?lo ?H ?hz ?_; (case X => k_asm); (case F => k_asm); (case I => k_inst); (case hm => k_is); (case ho => k_is); (case hc => k_is); (case lo => k_asm); (case H => k_asm); (case hz => first | assumption | omega))))
local macro_rules | `(tactic| walk_at "compareOp IsNot ref ref") => `(tactic| ((with_reducible show wpAny _ _ (compareOp .IsNot _ _) _ _ _); refine solid_isNot (.inl ⟨_, rfl⟩) ?_))
local macro_rules | `(tactic| walk_at "compareOp IsNot int int") => `(tactic| (refine solid_isNot (.inr ⟨_, _, rfl, by assumption⟩) ?_))
local macro_rules | `(tactic| walk_at "compareOp Is ref ref") => `(tactic| (refine solid_is (.inl ⟨_, rfl⟩) ?_))
local macro_rules | `(tactic| walk_at "compareOp Is int int") => `(tactic| (refine solid_is (.inr ⟨_, _, rfl, by assumption⟩) ?_))
local macro_rules | `(tactic| walk_at "eval ListComp") => `(tactic| (k_here; k_dflt (refine' comp_none (knd := strKind _ _) ?F ?c ?h1 ?h2 ?h3 ?h4 ?_; (case F => k_asm); (case c => exact rfl); (case h1 => decide); (case h2 => exact rfl); (case h3 => decide); (case h4 => exact rfl))))
local macro_rules | `(tactic| walk_at "compareOp NotEq int int") => `(tactic| with_reducible refine ne_int_self ?_)
local macro_rules | `(tactic| walk_at "call builtin:len") => `(tactic| (k_here; k_dflt (refine' kda_len (knd := PySem.strKind _ _) ?N ?hp ?hd ?lo ?hz ?_; (case N => k_asm); (case hp => k_mem); (case hd => k_asm); (case lo => k_asm); (case hz => exact le_len (by assumption)))))
local macro_rules | `(tactic| walk_at "compareOp In str ref") => `(tactic| (k_here; k_dflt (refine' kda_in (knd := PySem.strKind _ _) ?N ?hp ?hd ?lo (strKind_is _ _ _ _) true ?hb ?_; (case N => k_asm); (case hp => k_mem); (case hd => k_asm); (case lo => k_asm); (case hb => exact (congrArg Option.isSome (by with_reducible assumption : valueAt _ _ = some _)).trans rfl))))
local macro_rules | `(tactic| walk_at "compareOp In str ref") => `(tactic| (k_here; k_dflt (refine' kda_in (knd := PySem.strKind _ _) ?N ?hp ?hd ?lo (strKind_is _ _ _ _) false ?hb ?_; (case N => k_asm); (case hp => k_mem); (case hd => k_asm); (case lo => k_asm); (case hb => exact (congrArg Option.isSome (by with_reducible assumption : valueAt _ _ = none)).trans rfl))))
local macro_rules | `(tactic| walk_at "compareOp NotIn str ref") => `(tactic| (k_here; k_dflt (refine' kdg_notin (knd := PySem.strKind _ _) ?N ?hp ?hd ?lo (strKind_is _ _ _ _) true ?hb ?_; (case N => k_asm); (case hp => k_mem); (case hd => k_asm); (case lo => k_asm); (case hb => exact (congrArg Option.isSome (by with_reducible assumption : valueAt _ _ = some _)).trans rfl))))
local macro_rules | `(tactic| walk_at "compareOp NotIn str ref") => `(tactic| (k_here; k_dflt (refine' kdg_notin (knd := PySem.strKind _ _) ?N ?hp ?hd ?lo (strKind_is _ _ _ _) false ?hb ?_; (case N => k_asm); (case hp => k_mem); (case hd => k_asm); (case lo => k_asm); (case hb => exact (congrArg Option.isSome (by with_reducible assumption : valueAt _ _ = none)).trans rfl))))
local macro_rules | `(tactic| walk_at "subscriptTail") => `(tactic| (k_here; (with_reducible show wpAny _ _ (subscriptTail _ _ (Value.ref _) (Value.str _ _)) _ _ _); k_dflt (refine' kda_item (knd := PySem.strKind _ _) ?N ?hp ?hd (strKind_is _ _ _ _) ?hl ?_; (case N => k_asm); (case hp => k_mem); (case hd => k_asm); (case hl => k_asm))))
local macro_rules | `(tactic| walk_at "setItem ref str") => `(tactic| (k_here; k_dflt (refine' kda_set (knd := PySem.strKind _ _) ?F ?N ?U ?d (strKind_is _ _ _ _) ?z ?_; (case F => k_asm); (case N => k_asm); (case U => k_updF); (case d => k_asm); (case z => exact le_size (by assumption))); intro h' o' F' N' hd'; (try dsimp only at N')))
local macro_rules | `(tactic| walk_at "call builtin:dict.pop") => `(tactic| (k_here; k_dflt (refine' kob_pop (knd := PySem.strKind _ _) (more := []) ?F ?N ?U ?d (strKind_is _ _ _ _) (.inl rfl) (by rfl) (PySem.F.args_dict_pop_2 _ _) ?l ?z ?_; (case F => k_asm); (case N => k_asm); (case U => k_updF); (case d => k_asm); (case l => k_asm); (case z => exact le_size (by assumption))); intro h' o' F' N' hd'; (try dsimp only at N')))
local macro_rules | `(tactic| walk_at "call ref") => `(tactic| (k_here; (with_reducible show wpAny _ _ (call (Value.ref 163) [Value.ref _, Value.str _ _]) _ _ _); k_dflt (refine' get_some ?B ?F ?X ?N ?T ?hk ?hd ?hu ?hx ?hdx ?lo ?H ?hv ?_; (case B => k_asm); (case F => k_asm); (case X => k_asm); (case N => k_asm); (case T => k_asm); (case hk => first | rfl | assumption); (case hd => k_room); (case hu => k_units); (case hx => k_mem); (case hdx => k_mem); (case lo => k_asm); (case H => k_asm); (case hv => k_asm); intro h' tk' F' N')))
local macro_rules | `(tactic| walk_at "call ref") => `(tactic| (k_here; (with_reducible show wpAny _ _ (call (Value.ref 163) [Value.ref _, Value.str _ _]) _ _ _); k_dflt (refine' get_self ?B ?F ?X ?N ?T ?hk ?hd ?hu ?hx ?hdx ?lo ?H ?hv ?hl ?h1 ?h2 ?_; (case B => k_asm); (case F => k_asm); (case X => k_asm); (case N => k_asm); (case T => k_asm); (case hk => first | rfl | assumption); (case hd => k_room); (case hu => k_units); (case hx => k_mem); (case hdx => k_mem); (case lo => k_asm); (case H => k_asm); (case hv => k_asm); (case hl => decide); (case h1 => decide +kernel); (case h2 => decide +kernel); intro h' tk' t' F' N')))
local macro_rules | `(tactic| walk_at "call ref") => `(tactic| (k_here; (with_reducible show wpAny _ _ (call (Value.ref 163) [Value.ref _, Value.str _ _]) _ _ _); k_dflt (refine' get_keyerr ?B ?F ?X ?N ?T ?hk ?hd ?hu ?hx ?hdx ?lo ?H ?hv ?hl ?h1 ?_; (case B => k_asm); (case F => k_asm); (case X => k_asm); (case N => k_asm); (case T => k_asm); (case hk => first | rfl | assumption); (case hd => k_room); (case hu => k_units); (case hx => k_mem); (case hdx => k_mem); (case lo => k_asm); (case H => k_asm); (case hv => k_asm); (case hl => decide); (case h1 => decide +kernel); intro e' g' h' tk' F' U' R')))
local macro_rules | `(tactic| walk_at "noteFrame ref") => `(tactic| (k_here; k_dflt (refine' caught_SN0 (T' := "KeyError") ?R ?F ?K ?U ?XB ?TB ?D ?T0 ?ex PyProof.Rows.Boot.«KeyError» ?hn kr_isExc_KeyError kr_notTuple_KeyError ?hs ?_; (case R => assumption); (case F => assumption); (case K => assumption); (case U => assumption); (case XB => assumption); (case TB => assumption); (case D => assumption); (case T0 => first | assumption | exact KtsTurn.refl); (case hs => kts_sub); (case ex => k_is); (case hn => decide)); intro h' g' T' F' N' K' X' P' D'))
set_option maxHeartbeats 8000000 in
theorem read_some {w : World} {p : Program} {loose : List Str} {mean : ExcName → Option Value} {mg mb : Str → Option Value} {dp un : Nat} {gd : Option (List Code)} {cn : Str} {cs : Scope} {a : Addr} {ccd : Value} {A₀ : Around} {h₀ : Heap} {L : Addr} {m : Str → Option Value} {s : Shared}
    {x dx md : Addr} {es : Array DictEntry} {ep : Nat} {kvs : List (Str × Value)} {k : Str} {t : Tok} {od om : Obj} {rest : List (Addr × Obj)} {Q E : Value → Shared → Prop}
    (B : Below A₀ h₀ [] h₀) (F : Fr h₀ L s.heap m) (X : (Mine.hd.heap_39 w.params).In h₀) (N : News h₀ L s.heap ((x, pmdO dx es ep) :: (dx, od) :: (md, om) :: rest)) (T : Top p loose mean mg mb h₀) (hk : cs.kind = .function) (hd : dp + 30 < recursionLimit) (hu : un + 100 < cLine)
    (lo : (x == sysModules) = false) (lo2 : (md == sysModules) = false) (H : Ents w es kvs) (hm : om.IsDictOf (PySem.strKind PySem.Challenge.rw_bc6014_01.row.prog w) kvs)
    {v : Value} (hv : valueAt kvs k = some v) (hs : Solid v)
    (ret : ∀ h' tk, Fr h₀ L h' m → News h₀ L h' ((x, pmdO dx es ep) :: (dx, od) :: (md, om) :: rest) → Q (.bool true) { s with heap := h', toks := tk }) :
    wpAny (model PySem.Challenge.rw_bc6014_01.row.prog w) (ktrTop dp un gd cn cs L a ccd [] []) (call (.ref 203) [.ref x, .ref md, .str k t]) Q E s := by
  w_top off; revert X; k_fill; intro X
  rcases hs with ⟨b, rfl⟩ | ⟨j, u, rfl, hu0⟩
  all_goals
    refine wpAny_call ?_
    k_dflt ktr_enter
    k_steps
    rename (News h₀ L _ (_ :: _)) => N9
    exact ret _ _ (by assumption) (by assumption)
end Mine
/-! ReadSelf -/
namespace Mine
local macro_rules | `(tactic| k_mem) => `(tactic| focus ((repeat (first | exact List.Mem.head _ | assumption | refine List.mem_cons_of_mem _ ?_)); done))
local macro_rules | `(tactic| k_room) => `(tactic| first | assumption | ((try dsimp only [Around.deeper, ktrTop, Around.mark, callerA]); omega) | ktr_room)
local macro_rules | `(tactic| ks_enter) => `(tactic| (refine' ks_code_super ?k1 ?k2 ?k3 ?k4 ?k5 ?kA ?kF ?kK ?k6 ?k7 ?k8 ?k9 ?kB ?_ ?c1 ?c2 ?c3 ?c4; (case kA => exact rfl); (case kF => exact rfl); (case kK => first | exact rfl | assumption); (case k1 => k_asm); (case k2 => k_asm); (case k3 => k_asm); (case k4 => k_asm); (case k5 => k_asm); (case k6 => k_is); (case k7 => k_is); (case k8 => k_room); (case k9 => exact BindsTo.of_eq rfl); (case kB => exact locs rfl); (case c1 => decide); (case c2 => exact rfl); (case c3 => exact rfl); (case c4 => exact rfl); intro g' L' h' FG' F' N' B' X' T' l1; (try k_lt l1); (try dsimp only); (try k_lift B')))
local macro_rules | `(tactic| k_units) => `(tactic| first | assumption | ((try dsimp only [Around.deeper, ktrTop, Around.mark, callerA]); have hcL9 := cLine_is; omega) | ktr_units)
local macro_rules | `(tactic| k_all) => `(tactic| assumption)
local macro_rules | `(tactic| k_inst) => `(tactic| (refine' pm_inst ?N ?h1 ?h2; (case N => k_asm); (case h1 => k_mem); (case h2 => k_mem)))
local macro_rules | `(tactic| walk_at "compareOp NotIn str ref") => `(tactic| (k_here; k_dflt (refine' pm_notin_some ?X ?F ?N ?h1 ?h2 ?hm ?hc ?lo ?H ?hv ?_; (case X => k_asm); (case F => k_asm); (case N => k_asm); (case h1 => k_mem); (case h2 => k_mem); (case hm => k_is); (case hc => k_is); (case lo => k_asm); (case H => k_asm); (case hv => k_asm))))
local macro_rules | `(tactic| walk_at "compareOp NotIn str ref") => `(tactic| (k_here; k_dflt (refine' pm_notin_none ?X ?F ?N ?h1 ?h2 ?hm ?hc ?lo ?H ?hv ?_; (case X => k_asm); (case F => k_asm); (case N => k_asm); (case h1 => k_mem); (case h2 => k_mem); (case hm => k_is); (case hc => k_is); (case lo => k_asm); (case H => k_asm); (case hv => k_asm))))
local macro_rules | `(tactic| walk_at "compareOp In str ref") => `(tactic| (k_here; k_dflt (refine' pm_in_some ?X ?F ?N ?h1 ?h2 ?hm ?hc ?lo ?H ?hv ?_; (case X => k_asm); (case F => k_asm); (case N => k_asm); (case h1 => k_mem); (case h2 => k_mem); (case hm => k_is); (case hc => k_is); (case lo => k_asm); (case H => k_asm); (case hv => k_asm))))
local macro_rules | `(tactic| walk_at "compareOp In str ref") => `(tactic| (k_here; k_dflt (refine' pm_in_none ?X ?F ?N ?h1 ?h2 ?hm ?hc ?lo ?H ?hv ?_; (case X => k_asm); (case F => k_asm); (case N => k_asm); (case h1 => k_mem); (case h2 => k_mem); (case hm => k_is); (case hc => k_is); (case lo => k_asm); (case H => k_asm); (case hv => k_asm))))
local macro_rules | `(tactic| walk_at "getMethod ref") => `(tactic| (k_here; (with_reducible show wpAny _ _ (getMethod _ (Str.ofString "__getitem__") _) _ _ _); k_dflt (refine' pm_method_get ?F ?X ?N ?h1 ?h2 ?h3 ?ho ?ok ?hm ?_; (case F => k_asm); (case X => k_asm); (case N => k_asm); (case h1 => k_mem); (case h2 => k_mem); (case h3 => k_mem); (case ho => k_is); (case ok => kernel_rfl); (case hm => kernel_rfl); intro q' h' F' N' l1; (try k_lt l1))))
local macro_rules | `(tactic| walk_at "getMethod ref") => `(tactic| (k_here; (with_reducible show wpAny _ _ (getMethod _ (Str.ofString "__setitem__") _) _ _ _); k_dflt (refine' pm_method_set ?F ?X ?N ?h1 ?h2 ?h3 ?ho ?ok ?hm ?_; (case F => k_asm); (case X => k_asm); (case N => k_asm); (case h1 => k_mem); (case h2 => k_mem); (case h3 => k_mem); (case ho => k_is); (case ok => kernel_rfl); (case hm => kernel_rfl); intro q' h' F' N' l1; (try k_lt l1))))
local macro_rules | `(tactic| walk_at "callWith ref") => `(tactic| (k_here; k_dflt (refine' callWith_B ?N ?hq ?hT ?_; (case N => k_asm); (case hq => k_mem); (case hT => first | exact .inl rfl | exact .inr rfl); k_whole)))
local macro_rules | `(tactic| walk_at "And") => `(tactic| ((with_reducible show BndP _ _ _ _ _ ∧ _); refine ⟨bndP (by k_asm) (by k_mem), ?_⟩; try dsimp only [List.nil_append, List.cons_append]))
local macro_rules | `(tactic| walk_at "call ref") => `(tactic| (k_here; (with_reducible show wpAny _ _ (call _ [Value.str _ _]) _ _ _); k_dflt (refine' pm_call_get ?X ?F ?N ?hq ?hx ?hdx ?hcd ?hmod ?hty ?H ?hv ?_; (case X => k_asm); (case F => k_asm); (case N => k_asm); (case hq => k_mem); (case hx => k_mem); (case hdx => k_mem); (case hcd => kernel_rfl); (case hmod => k_is); (case hty => k_is); (case H => k_asm); (case hv => k_asm))))
local macro_rules | `(tactic| walk_at "call ref") => `(tactic| (k_here; (with_reducible show wpAny _ _ (call _ [Value.str _ _, _]) _ _ _); k_dflt (refine' pm_call_set ?X ?F ?N ?hq ?hx ?hdx ?U ?ho ?H ?hsz ?_; (case X => k_asm); (case F => k_asm); (case N => k_asm); (case hq => k_mem); (case hx => k_mem); (case hdx => k_mem); (case U => k_updF); (case ho => k_is); (case H => k_asm); (case hsz => k_asm); intro es' ep' h' F' N' H'; (try dsimp only at N'))))
local macro_rules | `(tactic| walk_at "wpAt") => `(tactic| (ks_step "eval Call"; with_unfolding_all refine ks_wpAt_MethodCall ?_))
local macro_rules | `(tactic| walk_at "BndP") => `(tactic| (k_dflt (refine' bndP ?N ?hq; (case N => k_asm); (case hq => k_mem))))
local macro_rules | `(tactic| walk_at "wpAt") => `(tactic| (dsimp only; ks_step "execs cons"; refine ks_wpAt_execs_cons ?_))
local macro_rules | `(tactic| walk_at "wpAt") => `(tactic| (ks_step "exec Expr"; with_unfolding_all refine ks_wpAt_Expr_any ?_))
local macro_rules | `(tactic| walk_at "call builtin:callable") => `(tactic| (k_here; k_dflt (first
  | ((with_reducible show wpAny _ _ (call _ [Value.int _ _]) _ _ _); refine callable_int ?_)
  | (refine' callable_K ?X ?F ?e ?_; (case X => k_asm); (case F => k_asm); (case e => k_is))
  | (refine' callable_inst ?X ?F ?I ?e ?_; (case X => k_asm); (case F => k_asm); (case I => k_inst); (case e => k_is)))))
local macro_rules | `(tactic| walk_at "call builtin:hasattr") => `(tactic| (k_here; k_dflt (first
  | ((with_reducible show wpAny _ _ (call _ [Value.int _ _, _]) _ _ _); refine ha_intK (by exact rfl) (by k_asm) (by k_asm) ?_; intro h' tk' F' N')
  | (refine' ha_fnK ?hA ?X ?F ?N ?e ?_; (case hA => exact rfl); (case X => k_asm); (case F => k_asm); (case N => k_asm); (case e => k_is); intro h' tk' F' N')
  | (refine' ha_instK ?X ?F ?I ?hg ?hm ?hh ?ha ?hn ?hl ?hv ?_; (case X => k_asm); (case F => k_asm); (case I => k_inst); (case hg => k_is); (case hm => k_is); (case hh => k_is); (case ha => k_is); (case hn => k_is); (case hl => k_get); (case hv => k_handed)))))
local macro_rules | `(tactic| walk_at "call builtin:getattr") => `(tactic| (k_here; k_dflt (refine' getattr3_K ?X ?F ?I ?hg ?hm ?hh ?hs ?ha ?hn ?hl ?hv ?_; (case X => k_asm); (case F => k_asm); (case I => k_inst); (case hg => k_is); (case hm => k_is); (case hh => k_is); (case hs => decide +kernel); (case ha => k_is); (case hn => k_is); (case hl => k_get); (case hv => k_handed))))
local macro_rules | `(tactic| walk_at "exec Raise some none") => `(tactic| (k_here; (with_reducible show wpAny _ _ (exec (Stmt.Raise (some (Expr.Call (Expr.Name _ _) [_] [] _)) none _) _) _ _ _); k_dflt (refine' raiseX_own ?F ?X ?T ?e ?q PySem.F.excBase_Exception ?h ?_ ?b ?c ?d ?f; (case F => k_asm); (case X => k_asm); (case T => exact topRead_of (by k_asm)); (case e => k_is); (case q => k_exc); (case h => first | rfl | assumption); (case b => rfl); (case c => first | rfl | assumption); (case d => rfl); (case f => decide); k_whole)))
local macro_rules | `(tactic| walk_at "And") => `(tactic| (refine ⟨⟨_, by assumption⟩, ?_⟩; (try dsimp only); intro h' e' M'))
local macro_rules | `(tactic| walk_at "leaving ref") => `(tactic| (k_here; k_dflt (refine' leave_madeX ?k1 ?k0 ?k2 ?k3 rfl ?k4 ?_; (case k0 => assumption); (case k1 => assumption); (case k2 => assumption); (case k3 => k_asm); (case k4 => first | rfl | assumption); intro h' t' R' U')))
local macro_rules | `(tactic| walk_at "call ref") => `(tactic| (k_here; (with_reducible show wpAny _ _ (call _ [Value.str _ _]) _ _ _); k_dflt (refine' pm_call_get_none ?hh ?X ?F ?N ?hq ?hx ?hdx ?hcd ?hmod ?hty ?hmis ?lo ?H ?hv ?_; (case hh => first | rfl | assumption); (case X => k_asm); (case F => k_asm); (case N => k_asm); (case hq => k_mem); (case hx => k_mem); (case hdx => k_mem); (case hcd => kernel_rfl); (case hmod => k_is); (case hty => k_is); (case hmis => k_is); (case lo => k_asm); (case H => k_asm); (case hv => k_asm); intro h' e' M')))
local macro_rules | `(tactic| walk_at "leaving ref") => `(tactic| (k_here; k_dflt (refine' leave_newX ?k1 ?k0 ?k2 ?k3 rfl ?k4 ?_; (case k0 => assumption); (case k1 => assumption); (case k2 => assumption); (case k3 => k_asm); (case k4 => first | rfl | assumption); intro h' R' U')))
local macro_rules | `(tactic| kc_enter) => `(tactic| (refine' code_defC ?k1 ?k2 ?k3 ?k4 ?k5 ?kA ?kF ?kK ?k6 ?k7 ?k8 ?k9 ?kB ?kD ?_ ?c2 ?c3 ?c4; (case kA => exact rfl); (case kF => exact rfl); (case kK => first | exact rfl | assumption); (case k1 => k_asm); (case k2 => k_asm); (case k3 => k_asm); (case k4 => k_asm); (case k5 => k_asm); (case k6 => k_is); (case k7 => k_is); (case k8 => k_room); (case k9 => exact BindsTo.of_eq rfl); (case kB => exact rfl); (case kD => decide +kernel); (case c2 => exact rfl); (case c3 => exact rfl); (case c4 => exact rfl); intro g' L' h' tk' cells' FG' F' N' Y' B' X' T' l1; (try k_lt l1); k_cells Y'; (try simp only [List.cons_append, List.nil_append] at N'); (try dsimp only); (try k_lift B')))
local macro_rules | `(tactic| walk_at "call builtin:len") => `(tactic| (k_here; k_dflt (refine' pm_len ?X ?F ?I ?hm ?ho ?hc ?lo ?H ?hz ?_; (case X => k_asm); (case F => k_asm); (case I => k_inst); (case hm => k_is); (case ho => k_is); (case hc => k_is); (case lo => k_asm); (case H => k_asm); (case hz => first | assumption | omega))))
local macro_rules | `(tactic| walk_at "compareOp IsNot ref ref") => `(tactic| ((with_reducible show wpAny _ _ (compareOp .IsNot _ _) _ _ _); refine solid_isNot (.inl ⟨_, rfl⟩) ?_))
local macro_rules | `(tactic| walk_at "compareOp IsNot int int") => `(tactic| (refine solid_isNot (.inr ⟨_, _, rfl, by assumption⟩) ?_))
local macro_rules | `(tactic| walk_at "compareOp Is ref ref") => `(tactic| (refine solid_is (.inl ⟨_, rfl⟩) ?_))
local macro_rules | `(tactic| walk_at "compareOp Is int int") => `(tactic| (refine solid_is (.inr ⟨_, _, rfl, by assumption⟩) ?_))
local macro_rules | `(tactic| walk_at "eval ListComp") => `(tactic| (k_here; k_dflt (refine' comp_none (knd := strKind _ _) ?F ?c ?h1 ?h2 ?h3 ?h4 ?_; (case F => k_asm); (case c => exact rfl); (case h1 => decide); (case h2 => exact rfl); (case h3 => decide); (case h4 => exact rfl))))
local macro_rules | `(tactic| walk_at "compareOp NotEq int int") => `(tactic| with_reducible refine ne_int_self ?_)
local macro_rules | `(tactic| walk_at "call builtin:len") => `(tactic| (k_here; k_dflt (refine' kda_len (knd := PySem.strKind _ _) ?N ?hp ?hd ?lo ?hz ?_; (case N => k_asm); (case hp => k_mem); (case hd => k_asm); (case lo => k_asm); (case hz => exact le_len (by assumption)))))
local macro_rules | `(tactic| walk_at "compareOp In str ref") => `(tactic| (k_here; k_dflt (refine' kda_in (knd := PySem.strKind _ _) ?N ?hp ?hd ?lo (strKind_is _ _ _ _) true ?hb ?_; (case N => k_asm); (case hp => k_mem); (case hd => k_asm); (case lo => k_asm); (case hb => exact (congrArg Option.isSome (by with_reducible assumption : valueAt _ _ = some _)).trans rfl))))
local macro_rules | `(tactic| walk_at "compareOp In str ref") => `(tactic| (k_here; k_dflt (refine' kda_in (knd := PySem.strKind _ _) ?N ?hp ?hd ?lo (strKind_is _ _ _ _) false ?hb ?_; (case N => k_asm); (case hp => k_mem); (case hd => k_asm); (case lo => k_asm); (case hb => exact (congrArg Option.isSome (by with_reducible assumption : valueAt _ _ = none)).trans rfl))))
local macro_rules | `(tactic| walk_at "compareOp NotIn str ref") => `(tactic| (k_here; k_dflt (refine' kdg_notin (knd := PySem.strKind _ _) ?N ?hp ?hd ?lo (strKind_is _ _ _ _) true ?hb ?_; (case N => k_asm); (case hp => k_mem); (case hd => k_asm); (case lo => k_asm); (case hb => exact (congrArg Option.isSome (by with_reducible assumption : valueAt _ _ = some _)).trans rfl))))
local macro_rules | `(tactic| walk_at "compareOp NotIn str ref") => `(tactic| (k_here; k_dflt (refine' kdg_notin (knd := PySem.strKind _ _) ?N ?hp ?hd ?lo (strKind_is _ _ _ _) false ?hb ?_; (case N => k_asm); (case hp => k_mem); (case hd => k_asm); (case lo => k_asm); (case hb => exact (congrArg Option.isSome (by with_reducible assumption : valueAt _ _ = none)).trans rfl))))
local macro_rules | `(tactic| walk_at "subscriptTail") => `(tactic| (k_here; (with_reducible show wpAny _ _ (subscriptTail _ _ (Value.ref _) (Value.str _ _)) _ _ _); k_dflt (refine' kda_item (knd := PySem.strKind _ _) ?N ?hp ?hd (strKind_is _ _ _ _) ?hl ?_; (case N => k_asm); (case hp => k_mem); (case hd => k_asm); (case hl => k_asm))))
local macro_rules | `(tactic| walk_at "setItem ref str") => `(tactic| (k_here; k_dflt (refine' kda_set (knd := PySem.strKind _ _) ?F ?N ?U ?d (strKind_is _ _ _ _) ?z ?_; (case F => k_asm); (case N => k_asm); (case U => k_updF); (case d => k_asm); (case z => exact le_size (by assumption))); intro h' o' F' N' hd'; (try dsimp only at N')))
local macro_rules | `(tactic| walk_at "call builtin:dict.pop") => `(tactic| (k_here; k_dflt (refine' kob_pop (knd := PySem.strKind _ _) (more := []) ?F ?N ?U ?d (strKind_is _ _ _ _) (.inl rfl) (by rfl) (PySem.F.args_dict_pop_2 _ _) ?l ?z ?_; (case F => k_asm); (case N => k_asm); (case U => k_updF); (case d => k_asm); (case l => k_asm); (case z => exact le_size (by assumption))); intro h' o' F' N' hd'; (try dsimp only at N')))
local macro_rules | `(tactic| walk_at "call ref") => `(tactic| (k_here; (with_reducible show wpAny _ _ (call (Value.ref 163) [Value.ref _, Value.str _ _]) _ _ _); k_dflt (refine' get_some ?B ?F ?X ?N ?T ?hk ?hd ?hu ?hx ?hdx ?lo ?H ?hv ?_; (case B => k_asm); (case F => k_asm); (case X => k_asm); (case N => k_asm); (case T => k_asm); (case hk => first | rfl | assumption); (case hd => k_room); (case hu => k_units); (case hx => k_mem); (case hdx => k_mem); (case lo => k_asm); (case H => k_asm); (case hv => k_asm); intro h' tk' F' N')))
local macro_rules | `(tactic| walk_at "call ref") => `(tactic| (k_here; (with_reducible show wpAny _ _ (call (Value.ref 163) [Value.ref _, Value.str _ _]) _ _ _); k_dflt (refine' get_self ?B ?F ?X ?N ?T ?hk ?hd ?hu ?hx ?hdx ?lo ?H ?hv ?hl ?h1 ?h2 ?_; (case B => k_asm); (case F => k_asm); (case X => k_asm); (case N => k_asm); (case T => k_asm); (case hk => first | rfl | assumption); (case hd => k_room); (case hu => k_units); (case hx => k_mem); (case hdx => k_mem); (case lo => k_asm); (case H => k_asm); (case hv => k_asm); (case hl => decide); (case h1 => decide +kernel); (case h2 => decide +kernel); intro h' tk' t' F' N')))
local macro_rules | `(tactic| walk_at "call ref") => `(tactic| (k_here; (with_reducible show wpAny _ _ (call (Value.ref 163) [Value.ref _, Value.str _ _]) _ _ _); k_dflt (refine' get_keyerr ?B ?F ?X ?N ?T ?hk ?hd ?hu ?hx ?hdx ?lo ?H ?hv ?hl ?h1 ?_; (case B => k_asm); (case F => k_asm); (case X => k_asm); (case N => k_asm); (case T => k_asm); (case hk => first | rfl | assumption); (case hd => k_room); (case hu => k_units); (case hx => k_mem); (case hdx => k_mem); (case lo => k_asm); (case H => k_asm); (case hv => k_asm); (case hl => decide); (case h1 => decide +kernel); intro e' g' h' tk' F' U' R')))
local macro_rules | `(tactic| walk_at "noteFrame ref") => `(tactic| (k_here; k_dflt (refine' caught_SN0 (T' := "KeyError") ?R ?F ?K ?U ?XB ?TB ?D ?T0 ?ex PyProof.Rows.Boot.«KeyError» ?hn kr_isExc_KeyError kr_notTuple_KeyError ?hs ?_; (case R => assumption); (case F => assumption); (case K => assumption); (case U => assumption); (case XB => assumption); (case TB => assumption); (case D => assumption); (case T0 => first | assumption | exact KtsTurn.refl); (case hs => kts_sub); (case ex => k_is); (case hn => decide)); intro h' g' T' F' N' K' X' P' D'))
set_option maxHeartbeats 8000000 in
theorem read_self {w : World} {p : Program} {loose : List Str} {mean : ExcName → Option Value} {mg mb : Str → Option Value} {dp un : Nat} {gd : Option (List Code)} {cn : Str} {cs : Scope} {a : Addr} {ccd : Value} {A₀ : Around} {h₀ : Heap} {L : Addr} {m : Str → Option Value} {s : Shared}
    {x dx md : Addr} {es : Array DictEntry} {ep : Nat} {kvs : List (Str × Value)} {k : Str} {t : Tok} {od om : Obj} {rest : List (Addr × Obj)} {Q E : Value → Shared → Prop}
    (B : Below A₀ h₀ [] h₀) (F : Fr h₀ L s.heap m) (X : (Mine.hd.heap_39 w.params).In h₀) (N : News h₀ L s.heap ((x, pmdO dx es ep) :: (dx, od) :: (md, om) :: rest)) (T : Top p loose mean mg mb h₀) (hk : cs.kind = .function) (hd : dp + 30 < recursionLimit) (hu : un + 100 < cLine)
    (lo : (x == sysModules) = false) (lo2 : (md == sysModules) = false) (H : Ents w es kvs) (hm : om.IsDictOf (PySem.strKind PySem.Challenge.rw_bc6014_01.row.prog w) kvs)
    (hv : valueAt kvs k = none) (hk4 : k = "D" ∨ k = "F1" ∨ k = "I_J" ∨ k = "K")
    (ret : ∀ h' tk, Fr h₀ L h' m → News h₀ L h' ((x, pmdO dx es ep) :: (dx, od) :: (md, om) :: rest) → Q (.bool true) { s with heap := h', toks := tk }) :
    wpAny (model PySem.Challenge.rw_bc6014_01.row.prog w) (ktrTop dp un gd cn cs L a ccd [] []) (call (.ref 203) [.ref x, .ref md, .str k t]) Q E s := by
  w_top off; revert X; k_fill; intro X
  rcases hk4 with rfl | rfl | rfl | rfl
  all_goals
    refine wpAny_call ?_
    k_dflt ktr_enter
    k_steps
    rename (News h₀ L _ (_ :: _)) => N9
    exact ret _ _ (by assumption) (fun p hp => N9 p (.tail _ hp))
end Mine
/-! ReadErr -/
namespace Mine
local macro_rules | `(tactic| k_mem) => `(tactic| focus ((repeat (first | exact List.Mem.head _ | assumption | refine List.mem_cons_of_mem _ ?_)); done))
local macro_rules | `(tactic| k_room) => `(tactic| first | assumption | ((try dsimp only [Around.deeper, ktrTop, Around.mark, callerA]); omega) | ktr_room)
local macro_rules | `(tactic| ks_enter) => `(tactic| (refine' ks_code_super ?k1 ?k2 ?k3 ?k4 ?k5 ?kA ?kF ?kK ?k6 ?k7 ?k8 ?k9 ?kB ?_ ?c1 ?c2 ?c3 ?c4; (case kA => exact rfl); (case kF => exact rfl); (case kK => first | exact rfl | assumption); (case k1 => k_asm); (case k2 => k_asm); (case k3 => k_asm); (case k4 => k_asm); (case k5 => k_asm); (case k6 => k_is); (case k7 => k_is); (case k8 => k_room); (case k9 => exact BindsTo.of_eq rfl); (case kB => exact locs rfl); (case c1 => decide); (case c2 => exact rfl); (case c3 => exact rfl); (case c4 => exact rfl); intro g' L' h' FG' F' N' B' X' T' l1; (try k_lt l1); (try dsimp only); (try k_lift B')))
local macro_rules | `(tactic| k_units) => `(tactic| first | assumption | ((try dsimp only [Around.deeper, ktrTop, Around.mark, callerA]); have hcL9 := cLine_is; omega) | ktr_units)
local macro_rules | `(tactic| k_all) => `(tactic| assumption)
local macro_rules | `(tactic| k_inst) => `(tactic| (refine' pm_inst ?N ?h1 ?h2; (case N => k_asm); (case h1 => k_mem); (case h2 => k_mem)))
local macro_rules | `(tactic| walk_at "compareOp NotIn str ref") => `(tactic| (k_here; k_dflt (refine' pm_notin_some ?X ?F ?N ?h1 ?h2 ?hm ?hc ?lo ?H ?hv ?_; (case X => k_asm); (case F => k_asm); (case N => k_asm); (case h1 => k_mem); (case h2 => k_mem); (case hm => k_is); (case hc => k_is); (case lo => k_asm); (case H => k_asm); (case hv => k_asm))))
local macro_rules | `(tactic| walk_at "compareOp NotIn str ref") => `(tactic| (k_here; k_dflt (refine' pm_notin_none ?X ?F ?N ?h1 ?h2 ?hm ?hc ?lo ?H ?hv ?_; (case X => k_asm); (case F => k_asm); (case N => k_asm); (case h1 => k_mem); (case h2 => k_mem); (case hm => k_is); (case hc => k_is); (case lo => k_asm); (case H => k_asm); (case hv => k_asm))))
local macro_rules | `(tactic| walk_at "compareOp In str ref") => `(tactic| (k_here; k_dflt (refine' pm_in_some ?X ?F ?N ?h1 ?h2 ?hm ?hc ?lo ?H ?hv ?_; (case X => k_asm); (case F => k_asm); (case N => k_asm); (case h1 => k_mem); (case h2 => k_mem); (case hm => k_is); (case hc => k_is); (case lo => k_asm); (case H => k_asm); (case hv => k_asm))))
local macro_rules | `(tactic| walk_at "compareOp In str ref") => `(tactic| (k_here; k_dflt (refine' pm_in_none ?X ?F ?N ?h1 ?h2 ?hm ?hc ?lo ?H ?hv ?_; (case X => k_asm); (case F => k_asm); (case N => k_asm); (case h1 => k_mem); (case h2 => k_mem); (case hm => k_is); (case hc => k_is); (case lo => k_asm); (case H => k_asm); (case hv => k_asm))))
local macro_rules | `(tactic| walk_at "getMethod ref") => `(tactic| (k_here; (with_reducible show wpAny _ _ (getMethod _ (Str.ofString "__getitem__") _) _ _ _); k_dflt (refine' pm_method_get ?F ?X ?N ?h1 ?h2 ?h3 ?ho ?ok ?hm ?_; (case F => k_asm); (case X => k_asm); (case N => k_asm); (case h1 => k_mem); (case h2 => k_mem); (case h3 => k_mem); (case ho => k_is); (case ok => kernel_rfl); (case hm => kernel_rfl); intro q' h' F' N' l1; (try k_lt l1))))
local macro_rules | `(tactic| walk_at "getMethod ref") => `(tactic| (k_here; (with_reducible show wpAny _ _ (getMethod _ (Str.ofString "__setitem__") _) _ _ _); k_dflt (refine' pm_method_set ?F ?X ?N ?h1 ?h2 ?h3 ?ho ?ok ?hm ?_; (case F => k_asm); (case X => k_asm); (case N => k_asm); (case h1 => k_mem); (case h2 => k_mem); (case h3 => k_mem); (case ho => k_is); (case ok => kernel_rfl); (case hm => kernel_rfl); intro q' h' F' N' l1; (try k_lt l1))))
local macro_rules | `(tactic| walk_at "callWith ref") => `(tactic| (k_here; k_dflt (refine' callWith_B ?N ?hq ?hT ?_; (case N => k_asm); (case hq => k_mem); (case hT => first | exact .inl rfl | exact .inr rfl); k_whole)))
local macro_rules | `(tactic| walk_at "And") => `(tactic| ((with_reducible show BndP _ _ _ _ _ ∧ _); refine ⟨bndP (by k_asm) (by k_mem), ?_⟩; try dsimp only [List.nil_append, List.cons_append]))
local macro_rules | `(tactic| walk_at "call ref") => `(tactic| (k_here; (with_reducible show wpAny _ _ (call _ [Value.str _ _]) _ _ _); k_dflt (refine' pm_call_get ?X ?F ?N ?hq ?hx ?hdx ?hcd ?hmod ?hty ?H ?hv ?_; (case X => k_asm); (case F => k_asm); (case N => k_asm); (case hq => k_mem); (case hx => k_mem); (case hdx => k_mem); (case hcd => kernel_rfl); (case hmod => k_is); (case hty => k_is); (case H => k_asm); (case hv => k_asm))))
local macro_rules | `(tactic| walk_at "call ref") => `(tactic| (k_here; (with_reducible show wpAny _ _ (call _ [Value.str _ _, _]) _ _ _); k_dflt (refine' pm_call_set ?X ?F ?N ?hq ?hx ?hdx ?U ?ho ?H ?hsz ?_; (case X => k_asm); (case F => k_asm); (case N => k_asm); (case hq => k_mem); (case hx => k_mem); (case hdx => k_mem); (case U => k_updF); (case ho => k_is); (case H => k_asm); (case hsz => k_asm); intro es' ep' h' F' N' H'; (try dsimp only at N'))))
local macro_rules | `(tactic| walk_at "wpAt") => `(tactic| (ks_step "eval Call"; with_unfolding_all refine ks_wpAt_MethodCall ?_))
local macro_rules | `(tactic| walk_at "BndP") => `(tactic| (k_dflt (refine' bndP ?N ?hq; (case N => k_asm); (case hq => k_mem))))
local macro_rules | `(tactic| walk_at "wpAt") => `(tactic| (dsimp only; ks_step "execs cons"; refine ks_wpAt_execs_cons ?_))
local macro_rules | `(tactic| walk_at "wpAt") => `(tactic| (ks_step "exec Expr"; with_unfolding_all refine ks_wpAt_Expr_any ?_))
local macro_rules | `(tactic| walk_at "call builtin:callable") => `(tactic| (k_here; k_dflt (first
  | ((with_reducible show wpAny _ _ (call _ [Value.int _ _]) _ _ _); refine callable_int ?_)
  | (refine' callable_K ?X ?F ?e ?_; (case X => k_asm); (case F => k_asm); (case e => k_is))
  | (refine' callable_inst ?X ?F ?I ?e ?_; (case X => k_asm); (case F => k_asm); (case I => k_inst); (case e => k_is)))))
local macro_rules | `(tactic| walk_at "call builtin:hasattr") => `(tactic| (k_here; k_dflt (first
  | ((with_reducible show wpAny _ _ (call _ [Value.int _ _, _]) _ _ _); refine ha_intK (by exact rfl) (by k_asm) (by k_asm) ?_; intro h' tk' F' N')
  | (refine' ha_fnK ?hA ?X ?F ?N ?e ?_; (case hA => exact rfl); (case X => k_asm); (case F => k_asm); (case N => k_asm); (case e => k_is); intro h' tk' F' N')
  | (refine' ha_instK ?X ?F ?I ?hg ?hm ?hh ?ha ?hn ?hl ?hv ?_; (case X => k_asm); (case F => k_asm); (case I => k_inst); (case hg => k_is); (case hm => k_is); (case hh => k_is); (case ha => k_is); (case hn => k_is); (case hl => k_get); (case hv => k_handed)))))
local macro_rules | `(tactic| walk_at "call builtin:getattr") => `(tactic| (k_here; k_dflt (refine' getattr3_K ?X ?F ?I ?hg ?hm ?hh ?hs ?ha ?hn ?hl ?hv ?_; (case X => k_asm); (case F => k_asm); (case I => k_inst); (case hg => k_is); (case hm => k_is); (case hh => k_is); (case hs => decide +kernel); (case ha => k_is); (case hn => k_is); (case hl => k_get); (case hv => k_handed))))
local macro_rules | `(tactic| walk_at "exec Raise some none") => `(tactic| (k_here; (with_reducible show wpAny _ _ (exec (Stmt.Raise (some (Expr.Call (Expr.Name _ _) [_] [] _)) none _) _) _ _ _); k_dflt (refine' raiseX_own ?F ?X ?T ?e ?q PySem.F.excBase_Exception ?h ?_ ?b ?c ?d ?f; (case F => k_asm); (case X => k_asm); (case T => exact topRead_of (by k_asm)); (case e => k_is); (case q => k_exc); (case h => first | rfl | assumption); (case b => rfl); (case c => first | rfl | assumption); (case d => rfl); (case f => decide); k_whole)))
local macro_rules | `(tactic| walk_at "And") => `(tactic| (refine ⟨⟨_, by assumption⟩, ?_⟩; (try dsimp only); intro h' e' M'))
local macro_rules | `(tactic| walk_at "leaving ref") => `(tactic| (k_here; k_dflt (refine' leave_madeX ?k1 ?k0 ?k2 ?k3 rfl ?k4 ?_; (case k0 => assumption); (case k1 => assumption); (case k2 => assumption); (case k3 => k_asm); (case k4 => first | rfl | assumption); intro h' t' R' U')))
local macro_rules | `(tactic| walk_at "call ref") => `(tactic| (k_here; (with_reducible show wpAny _ _ (call _ [Value.str _ _]) _ _ _); k_dflt (refine' pm_call_get_none ?hh ?X ?F ?N ?hq ?hx ?hdx ?hcd ?hmod ?hty ?hmis ?lo ?H ?hv ?_; (case hh => first | rfl | assumption); (case X => k_asm); (case F => k_asm); (case N => k_asm); (case hq => k_mem); (case hx => k_mem); (case hdx => k_mem); (case hcd => kernel_rfl); (case hmod => k_is); (case hty => k_is); (case hmis => k_is); (case lo => k_asm); (case H => k_asm); (case hv => k_asm); intro h' e' M')))
local macro_rules | `(tactic| walk_at "leaving ref") => `(tactic| (k_here; k_dflt (refine' leave_newX ?k1 ?k0 ?k2 ?k3 rfl ?k4 ?_; (case k0 => assumption); (case k1 => assumption); (case k2 => assumption); (case k3 => k_asm); (case k4 => first | rfl | assumption); intro h' R' U')))
local macro_rules | `(tactic| kc_enter) => `(tactic| (refine' code_defC ?k1 ?k2 ?k3 ?k4 ?k5 ?kA ?kF ?kK ?k6 ?k7 ?k8 ?k9 ?kB ?kD ?_ ?c2 ?c3 ?c4; (case kA => exact rfl); (case kF => exact rfl); (case kK => first | exact rfl | assumption); (case k1 => k_asm); (case k2 => k_asm); (case k3 => k_asm); (case k4 => k_asm); (case k5 => k_asm); (case k6 => k_is); (case k7 => k_is); (case k8 => k_room); (case k9 => exact BindsTo.of_eq rfl); (case kB => exact rfl); (case kD => decide +kernel); (case c2 => exact rfl); (case c3 => exact rfl); (case c4 => exact rfl); intro g' L' h' tk' cells' FG' F' N' Y' B' X' T' l1; (try k_lt l1); k_cells Y'; (try simp only [List.cons_append, List.nil_append] at N'); (try dsimp only); (try k_lift B')))
local macro_rules | `(tactic| walk_at "call builtin:len") => `(tactic| (k_here; k_dflt (refine' pm_len ?X ?F ?I ?hm ?ho ?hc ?lo ?H ?hz ?_; (case X => k_asm); (case F => k_asm); (case I => k_inst); (case hm => k_is); (case ho => k_is); (case hc => k_is); (case lo => k_asm); (case H => k_asm); (case hz => first | assumption | omega))))
local macro_rules | `(tactic| walk_at "compareOp IsNot ref ref") => `(tactic| ((with_reducible show wpAny _ _ (compareOp .IsNot _ _) _ _ _); refine solid_isNot (.inl ⟨_, rfl⟩) ?_))
local macro_rules | `(tactic| walk_at "compareOp IsNot int int") => `(tactic| (refine solid_isNot (.inr ⟨_, _, rfl, by assumption⟩) ?_))
local macro_rules | `(tactic| walk_at "compareOp Is ref ref") => `(tactic| (refine solid_is (.inl ⟨_, rfl⟩) ?_))
local macro_rules | `(tactic| walk_at "compareOp Is int int") => `(tactic| (refine solid_is (.inr ⟨_, _, rfl, by assumption⟩) ?_))
local macro_rules | `(tactic| walk_at "eval ListComp") => `(tactic| (k_here; k_dflt (refine' comp_none (knd := strKind _ _) ?F ?c ?h1 ?h2 ?h3 ?h4 ?_; (case F => k_asm); (case c => exact rfl); (case h1 => decide); (case h2 => exact rfl); (case h3 => decide); (case h4 => exact rfl))))
local macro_rules | `(tactic| walk_at "compareOp NotEq int int") => `(tactic| with_reducible refine ne_int_self ?_)
local macro_rules | `(tactic| walk_at "call builtin:len") => `(tactic| (k_here; k_dflt (refine' kda_len (knd := PySem.strKind _ _) ?N ?hp ?hd ?lo ?hz ?_; (case N => k_asm); (case hp => k_mem); (case hd => k_asm); (case lo => k_asm); (case hz => exact le_len (by assumption)))))
local macro_rules | `(tactic| walk_at "compareOp In str ref") => `(tactic| (k_here; k_dflt (refine' kda_in (knd := PySem.strKind _ _) ?N ?hp ?hd ?lo (strKind_is _ _ _ _) true ?hb ?_; (case N => k_asm); (case hp => k_mem); (case hd => k_asm); (case lo => k_asm); (case hb => exact (congrArg Option.isSome (by with_reducible assumption : valueAt _ _ = some _)).trans rfl))))
local macro_rules | `(tactic| walk_at "compareOp In str ref") => `(tactic| (k_here; k_dflt (refine' kda_in (knd := PySem.strKind _ _) ?N ?hp ?hd ?lo (strKind_is _ _ _ _) false ?hb ?_; (case N => k_asm); (case hp => k_mem); (case hd => k_asm); (case lo => k_asm); (case hb => exact (congrArg Option.isSome (by with_reducible assumption : valueAt _ _ = none)).trans rfl))))
local macro_rules | `(tactic| walk_at "compareOp NotIn str ref") => `(tactic| (k_here; k_dflt (refine' kdg_notin (knd := PySem.strKind _ _) ?N ?hp ?hd ?lo (strKind_is _ _ _ _) true ?hb ?_; (case N => k_asm); (case hp => k_mem); (case hd => k_asm); (case lo => k_asm); (case hb => exact (congrArg Option.isSome (by with_reducible assumption : valueAt _ _ = some _)).trans rfl))))
local macro_rules | `(tactic| walk_at "compareOp NotIn str ref") => `(tactic| (k_here; k_dflt (refine' kdg_notin (knd := PySem.strKind _ _) ?N ?hp ?hd ?lo (strKind_is _ _ _ _) false ?hb ?_; (case N => k_asm); (case hp => k_mem); (case hd => k_asm); (case lo => k_asm); (case hb => exact (congrArg Option.isSome (by with_reducible assumption : valueAt _ _ = none)).trans rfl))))
local macro_rules | `(tactic| walk_at "subscriptTail") => `(tactic| (k_here; (with_reducible show wpAny _ _ (subscriptTail _ _ (Value.ref _) (Value.str _ _)) _ _ _); k_dflt (refine' kda_item (knd := PySem.strKind _ _) ?N ?hp ?hd (strKind_is _ _ _ _) ?hl ?_; (case N => k_asm); (case hp => k_mem); (case hd => k_asm); (case hl => k_asm))))
local macro_rules | `(tactic| walk_at "setItem ref str") => `(tactic| (k_here; k_dflt (refine' kda_set (knd := PySem.strKind _ _) ?F ?N ?U ?d (strKind_is _ _ _ _) ?z ?_; (case F => k_asm); (case N => k_asm); (case U => k_updF); (case d => k_asm); (case z => exact le_size (by assumption))); intro h' o' F' N' hd'; (try dsimp only at N')))
local macro_rules | `(tactic| walk_at "call builtin:dict.pop") => `(tactic| (k_here; k_dflt (refine' kob_pop (knd := PySem.strKind _ _) (more := []) ?F ?N ?U ?d (strKind_is _ _ _ _) (.inl rfl) (by rfl) (PySem.F.args_dict_pop_2 _ _) ?l ?z ?_; (case F => k_asm); (case N => k_asm); (case U => k_updF); (case d => k_asm); (case l => k_asm); (case z => exact le_size (by assumption))); intro h' o' F' N' hd'; (try dsimp only at N')))
local macro_rules | `(tactic| walk_at "call ref") => `(tactic| (k_here; (with_reducible show wpAny _ _ (call (Value.ref 163) [Value.ref _, Value.str _ _]) _ _ _); k_dflt (refine' get_some ?B ?F ?X ?N ?T ?hk ?hd ?hu ?hx ?hdx ?lo ?H ?hv ?_; (case B => k_asm); (case F => k_asm); (case X => k_asm); (case N => k_asm); (case T => k_asm); (case hk => first | rfl | assumption); (case hd => k_room); (case hu => k_units); (case hx => k_mem); (case hdx => k_mem); (case lo => k_asm); (case H => k_asm); (case hv => k_asm); intro h' tk' F' N')))
local macro_rules | `(tactic| walk_at "call ref") => `(tactic| (k_here; (with_reducible show wpAny _ _ (call (Value.ref 163) [Value.ref _, Value.str _ _]) _ _ _); k_dflt (refine' get_self ?B ?F ?X ?N ?T ?hk ?hd ?hu ?hx ?hdx ?lo ?H ?hv ?hl ?h1 ?h2 ?_; (case B => k_asm); (case F => k_asm); (case X => k_asm); (case N => k_asm); (case T => k_asm); (case hk => first | rfl | assumption); (case hd => k_room); (case hu => k_units); (case hx => k_mem); (case hdx => k_mem); (case lo => k_asm); (case H => k_asm); (case hv => k_asm); (case hl => decide); (case h1 => decide +kernel); (case h2 => decide +kernel); intro h' tk' t' F' N')))
local macro_rules | `(tactic| walk_at "call ref") => `(tactic| (k_here; (with_reducible show wpAny _ _ (call (Value.ref 163) [Value.ref _, Value.str _ _]) _ _ _); k_dflt (refine' get_keyerr ?B ?F ?X ?N ?T ?hk ?hd ?hu ?hx ?hdx ?lo ?H ?hv ?hl ?h1 ?_; (case B => k_asm); (case F => k_asm); (case X => k_asm); (case N => k_asm); (case T => k_asm); (case hk => first | rfl | assumption); (case hd => k_room); (case hu => k_units); (case hx => k_mem); (case hdx => k_mem); (case lo => k_asm); (case H => k_asm); (case hv => k_asm); (case hl => decide); (case h1 => decide +kernel); intro e' g' h' tk' F' U' R')))
local macro_rules | `(tactic| walk_at "noteFrame ref") => `(tactic| (k_here; k_dflt (refine' caught_SN0 (T' := "KeyError") ?R ?F ?K ?U ?XB ?TB ?D ?T0 ?ex PyProof.Rows.Boot.«KeyError» ?hn kr_isExc_KeyError kr_notTuple_KeyError ?hs ?_; (case R => assumption); (case F => assumption); (case K => assumption); (case U => assumption); (case XB => assumption); (case TB => assumption); (case D => assumption); (case T0 => first | assumption | exact KtsTurn.refl); (case hs => kts_sub); (case ex => k_is); (case hn => decide)); intro h' g' T' F' N' K' X' P' D'))
set_option maxHeartbeats 8000000 in
theorem read_err {w : World} {p : Program} {loose : List Str} {mean : ExcName → Option Value} {mg mb : Str → Option Value} {dp un : Nat} {gd : Option (List Code)} {cn : Str} {cs : Scope} {a : Addr} {ccd : Value} {A₀ : Around} {h₀ : Heap} {L : Addr} {m : Str → Option Value} {s : Shared}
    {x dx md : Addr} {es : Array DictEntry} {ep : Nat} {kvs : List (Str × Value)} {k : Str} {t : Tok} {od om : Obj} {rest : List (Addr × Obj)} {Q E : Value → Shared → Prop}
    (B : Below A₀ h₀ [] h₀) (F : Fr h₀ L s.heap m) (X : (Mine.hd.heap_39 w.params).In h₀) (N : News h₀ L s.heap ((x, pmdO dx es ep) :: (dx, od) :: (md, om) :: rest)) (T : Top p loose mean mg mb h₀) (hk : cs.kind = .function) (hd : dp + 30 < recursionLimit) (hu : un + 100 < cLine)
    (lo : (x == sysModules) = false) (lo2 : (md == sysModules) = false) (H : Ents w es kvs) (hm : om.IsDictOf (PySem.strKind PySem.Challenge.rw_bc6014_01.row.prog w) kvs)
    (hv : valueAt kvs k = none) (hk4 : k = "a" ∨ k = "Bc" ∨ k = "_E" ∨ k = "g_H")
    (ret : ∀ h' tk, Fr h₀ L h' m → News h₀ L h' ((x, pmdO dx es ep) :: (dx, od) :: (md, om) :: rest) → Q (.bool true) { s with heap := h', toks := tk }) :
    wpAny (model PySem.Challenge.rw_bc6014_01.row.prog w) (ktrTop dp un gd cn cs L a ccd [] []) (call (.ref 203) [.ref x, .ref md, .str k t]) Q E s := by
  w_top off; revert X; k_fill; intro X
  rcases hk4 with rfl | rfl | rfl | rfl
  all_goals
    refine wpAny_call ?_
    k_dflt (refine' code_defS0 ?k1 ?k2 ?k3 ?k4 ?k5 ?kA ?k6 ?k7 ?k8 ?k9 ?kB ?_ ?cK ?c2 ?c3 ?c4 ?c5; (case kA => exact rfl); (case k2 => k_asm); (case k1 => k_asm); (case k3 => k_asm); (case k4 => k_asm); (case k5 => k_asm); (case k6 => k_is); (case k7 => k_is); (case k8 => k_room); (case k9 => exact BindsTo.of_eq rfl); (case kB => exact locs rfl); (case cK => assumption); (case c2 => exact rfl); (case c3 => exact rfl); (case c4 => exact rfl); (case c5 => decide); intro g' L' h' FG' F' N' B' X' T' D')
    k_steps
    rename (News h₀ L _ (_ :: _)) => N9
    exact ret _ _ (by assumption) (fun p hp => N9 p (.tail _ hp))
end Mine
/-! LawEnd -/
namespace Mine
theorem UnderKey.up {P : Params} {news : List (Addr × Obj)} {v : Value} {r : Option Value} {b b' : Nat} (h : UnderKey P news v r b) (l : b ≤ b') : UnderKey P news v r b' := by
  rcases h with h | ⟨rl, n, ns, e, c, q, z⟩
  · exact .inl h
  · exact .inr ⟨rl, n, ns, e, c, q, Nat.le_trans z l⟩
theorem LawOk.next {w : World} {i : Nat} {x dx md df nx rw : Addr} {es : Array DictEntry} {kvs : List (Str × Value)} {om orw : Obj} {rws : List (Str × Value)} {defs nexts : Array Value} {rest : List (Addr × Obj)}
    (ok : LawOk w i x dx md df nx rw es kvs om orw rws defs nexts rest) : LawOk w (i + 1) x dx md df nx rw es kvs om orw rws defs nexts rest :=
  { ok with under := fun k v e => (ok.under k v e).up (Nat.le_succ i), dlen := Nat.le_succ_of_le ok.dlen }
theorem UnderKey.solid {P : Params} {news : List (Addr × Obj)} {v : Value} {r : Option Value} {b : Nat} (h : UnderKey P news v r b) : Solid v := by
  rcases h with ⟨_, rfl | ⟨i, t, rfl, ht⟩⟩ | ⟨rl, n, ns, _, c, _⟩
  · exact .inl ⟨_, rfl⟩
  · exact .inr ⟨i, t, rfl, ht⟩
  · obtain ⟨f, _, _, _, _, _, _, _, _, _, _, _, _, _, e, _⟩ := c
    exact .inl ⟨f, e⟩
section
variable {w : World} {i : Nat} {x dx md df nx rw : Addr} {es : Array DictEntry} {kvs : List (Str × Value)} {om orw : Obj} {rws : List (Str × Value)} {defs nexts : Array Value} {rest : List (Addr × Obj)}
theorem LawOk.solid (ok : LawOk w i x dx md df nx rw es kvs om orw rws defs nexts rest) : ∀ p ∈ kvs, Solid p.2 := fun p hp => (ok.under p.1 p.2 (va_of_mem (keysNodup_of_isDictOf ok.model) hp)).solid
theorem LawOk.klen (ok : LawOk w i x dx md df nx rw es kvs om orw rws defs nexts rest) : kvs.length ≤ 8 := len8 keys8 (keysNodup_of_isDictOf ok.model) ok.kin
theorem LawOk.rkin (ok : LawOk w i x dx md df nx rw es kvs om orw rws defs nexts rest) : ∀ k v, valueAt rws k = some v → k ∈ keys8 := fun k v e => by
  cases h : valueAt kvs k with
  | none =>
    rw [ok.rsub k h] at e
    cases e
  | some u => exact ok.kin k u h
theorem LawOk.rlen (ok : LawOk w i x dx md df nx rw es kvs om orw rws defs nexts rest) : rws.length ≤ 8 := len8 keys8 (keysNodup_of_isDictOf ok.rows) ok.rkin
/-- a turn that leaves the ledger's own objects in order -/
theorem turn_end {h₀ h' : Heap} {L : Addr} {s : Shared} {own all : List (Addr × Obj)} {Q : Flow → Shared → Prop} {m' : Str → Option Value} {tk : Nat} {ep : Nat} {od : Obj} {cd' cn : Nat}
    (F' : Fr h₀ L h' m') (N' : News h₀ L h' all) (e1 : m' "attributes" = some (.ref x)) (e2 : m' "model" = some (.ref md)) (e3 : m' "defs" = some (.ref df)) (e4 : m' "nexts" = some (.ref nx)) (e5 : m' "rows" = some (.ref rw))
    (sub : ∀ p ∈ ((x, pmdO dx es ep) :: (dx, od) :: (md, om) :: (df, W.listOf defs cd') :: (nx, W.listOf nexts cn) :: (rw, orw) :: rest) ++ own, p ∈ all)
    (sep : ∀ p ∈ (x, pmdO dx es ep) :: (dx, od) :: (md, om) :: (df, W.listOf defs cd') :: (nx, W.listOf nexts cn) :: (rw, orw) :: rest, ∀ q ∈ own, @Ne Nat p.1 q.1)
    (ok : LawOk w (i + 1) x dx md df nx rw es kvs om orw rws defs nexts rest) : TurnEnd h₀ L s own (LawJ w (i + 1)) Q .next { s with heap := h', toks := tk } :=
  ⟨h', tk, m', _, rfl, F', fun p hp => N' p (sub p hp), sep, x, dx, md, df, nx, rw, es, ep, kvs, od, om, orw, rws, defs, cd', nexts, cn, rest, e1, e2, e3, e4, e5, rfl, ok⟩
end
end Mine
/-! LawThing -/
namespace Mine
theorem LawOk.thing {w : World} {i : Nat} {x dx md df nx rw : Addr} {es es' : Array DictEntry} {kvs : List (Str × Value)} {om orw om' orw' : Obj} {rws rws' : List (Str × Value)} {defs nexts : Array Value} {rest : List (Addr × Obj)} {k : Str} {v : Value}
    (ok : LawOk w i x dx md df nx rw es kvs om orw rws defs nexts rest) (hk8 : k ∈ keys8) (hv : ThingOk v) (H' : Ents w es' (stored kvs k v)) (hm : om'.IsDictOf (PySem.strKind PySem.Challenge.rw_bc6014_01.row.prog w) (stored kvs k v))
    (hr : orw'.IsDictOf (PySem.strKind PySem.Challenge.rw_bc6014_01.row.prog w) rws') (hw : ∀ k', valueAt rws' k' = if k' = k then none else valueAt rws k') :
    LawOk w (i + 1) x dx md df nx rw es' (stored kvs k v) om' orw' rws' defs nexts rest :=
  { ents := H', model := hm, rows := hr, lox := ok.lox, lom := ok.lom, lor := ok.lor, a1 := ok.a1, a2 := ok.a2, a3 := ok.a3, a4 := ok.a4, a5 := ok.a5, off := ok.off, dlen := Nat.le_succ_of_le ok.dlen, nlen := ok.nlen, dok := ok.dok
    kin := fun k' u e => by
      rw [va_stored] at e
      by_cases q : k' = k
      · rw [q]
        exact hk8
      · rw [if_neg q] at e
        exact ok.kin k' u e
    rsub := fun k' e => by
      rw [va_stored] at e
      rw [hw]
      by_cases q : k' = k
      · rw [if_pos q]
      · rw [if_neg q] at e ⊢
        exact ok.rsub k' e
    under := fun k' u e => by
      rw [va_stored] at e
      rw [hw]
      by_cases q : k' = k
      · rw [if_pos q] at e ⊢
        cases e
        exact .inl ⟨rfl, hv⟩
      · rw [if_neg q] at e ⊢
        exact (ok.under k' u e).up (Nat.le_succ i) }
theorem set_thing {w : World} {p : Program} {loose : List Str} {mean : ExcName → Option Value} {mg mb : Str → Option Value} {dp un : Nat} {gd : Option (List Code)} {cn : Str} {cs : Scope} {a : Addr} {ccd : Value} {cl : List (Str × Addr)} {outer : List Env} {A₀ : Around} {base h₀ : Heap} {L : Addr} {m : Str → Option Value} {s : Shared}
    {x dx : Addr} {es : Array DictEntry} {ep : Nat} {kvs : List (Str × Value)} {k : Str} {t : Tok} {od : Obj} {rest : List (Addr × Obj)} {Q E : Value → Shared → Prop} {v : Value}
    (B : Below A₀ base outer h₀) (F : Fr h₀ L s.heap m) (X : (Mine.hd.heap_39 w.params).In h₀) (N : News h₀ L s.heap ((x, pmdO dx es ep) :: (dx, od) :: rest)) (T : Top p loose mean mg mb h₀) (hk : cs.kind = .function) (hd : dp + 20 < recursionLimit) (hu : un + 80 < cLine)
    (hne : @Ne Nat dx x) (hr : ∀ p ∈ rest, p.1 ≠ x) (lo : (x == sysModules) = false) (H : Ents w es kvs) (hz : kvs.length ≤ sizeLine) (hv : ThingOk v)
    (ret : ∀ es' ep' h' tk, Fr h₀ L h' m → News h₀ L h' ((x, pmdO dx es' ep') :: (dx, od) :: rest) → Ents w es' (stored kvs k v) → Q .none { s with heap := h', toks := tk }) :
    wpAny (model PySem.Challenge.rw_bc6014_01.row.prog w) (ktrTop dp un gd cn cs L a ccd cl outer) (call (.ref 155) [.ref x, .str k t, v]) Q E s := by
  cases h : valueAt kvs k with
  | none => exact set_new B F X N T hk hd hu hne hr lo H hz h ret
  | some u =>
    rcases hv with rfl | ⟨j, tj, rfl, _⟩
    · exact set_fn B F X N T hk hd hu hne hr lo H hz h ret
    · exact set_int B F X N T hk hd hu hne hr lo H hz h ret
theorem tok_ne (n : Nat) : ((n + 1 : Nat) == 0) = false := by simp
theorem len_led {prog : Program} {w : World} {A : Around} {E : Value → Shared → Prop} {s : Shared} {h₀ : Heap} {L : Addr} {news : List (Addr × Obj)} {l : Addr} {items : Array Value} {c : Nat} {Q : Value → Shared → Prop} (N : News h₀ L s.heap news) (hm : (l, W.listOf items c) ∈ news) (hz : items.size ≤ 62)
    (h : Q (.int items.size (s.toks + 1)) { s with toks := s.toks + 1 + 1 }) : wpAny (model prog w) A (call (.builtin "len") [.ref l]) Q E s :=
  Calls.call_len_list ⟨_, (N _ hm).1, rfl, c, rfl⟩ (by have e : (2 : Int) ^ 63 = 9223372036854775808 := by decide
                                                       rw [e]; omega) h
theorem sep_any {x dx md df nx rw : Addr} {a1 a2 a3 a4 a5 a6 : Obj} {rest own : List (Addr × Obj)} (sep : ∀ p ∈ (x, a1) :: (dx, a2) :: (md, a3) :: (df, a4) :: (nx, a5) :: (rw, a6) :: rest, ∀ q ∈ own, @Ne Nat p.1 q.1) (b1 b2 b3 b4 b5 b6 : Obj) :
    ∀ p ∈ (x, b1) :: (dx, b2) :: (md, b3) :: (df, b4) :: (nx, b5) :: (rw, b6) :: rest, ∀ q ∈ own, @Ne Nat p.1 q.1 := by
  intro p hp q hq
  rcases List.mem_cons.mp hp with rfl | hp
  · exact sep (x, a1) (.head _) q hq
  rcases List.mem_cons.mp hp with rfl | hp
  · exact sep (dx, a2) (.tail _ (.head _)) q hq
  rcases List.mem_cons.mp hp with rfl | hp
  · exact sep (md, a3) (.tail _ (.tail _ (.head _))) q hq
  rcases List.mem_cons.mp hp with rfl | hp
  · exact sep (df, a4) (.tail _ (.tail _ (.tail _ (.head _)))) q hq
  rcases List.mem_cons.mp hp with rfl | hp
  · exact sep (nx, a5) (.tail _ (.tail _ (.tail _ (.tail _ (.head _))))) q hq
  rcases List.mem_cons.mp hp with rfl | hp
  · exact sep (rw, a6) (.tail _ (.tail _ (.tail _ (.tail _ (.tail _ (.head _)))))) q hq
  · exact sep p (.tail _ (.tail _ (.tail _ (.tail _ (.tail _ (.tail _ hp)))))) q hq
theorem va_same {rws : List (Str × Value)} {k : Str} (h : valueAt rws k = none) (k' : Str) : valueAt rws k' = if k' = k then none else valueAt rws k' := by
  by_cases q : k' = k
  · rw [if_pos q, q]
    exact h
  · rw [if_neg q]
theorem news_mv {h₀ h : Heap} {L : Addr} {a b c e x y : Addr × Obj} {r : List (Addr × Obj)} (N : News h₀ L h (a :: b :: c :: e :: x :: y :: r)) : News h₀ L h (x :: y :: a :: b :: c :: r) := fun p hp => N p (by
  simp only [List.mem_cons] at hp ⊢
  rcases hp with h | h | h | h | h | h <;> simp [h])
end Mine
/-! LawPut -/
namespace Mine
theorem RowLists.sub {ns ns' : List (Addr × Obj)} (q : ∀ p ∈ ns, p ∈ ns') : ∀ {vs : List Value} {l : List Nat}, RowLists ns vs l → RowLists ns' vs l
  | [], [], _ => trivial
  | _ :: _, _ :: _, ⟨⟨a, c, t, e, h⟩, r⟩ => ⟨⟨a, c, t, e, q _ h⟩, RowLists.sub q r⟩
  | [], _ :: _, h => h.elim
  | _ :: _, [], h => h.elim
theorem RowsAre.sub {ns ns' : List (Addr × Obj)} (q : ∀ p ∈ ns, p ∈ ns') {rl : Addr} {l : List Nat} : RowsAre ns rl l → RowsAre ns' rl l
  | ⟨items, c, h, r⟩ => ⟨items, c, q _ h, r.sub q⟩
theorem DefOk.sub {P : Params} {ns ns' : List (Addr × Obj)} (q : ∀ p ∈ ns, p ∈ ns') {v u : Value} : DefOk P ns v u → DefOk P ns' v u
  | ⟨f, d, t1, t2, t3, t4, t5, nm, rl, li, e, a1, a2, h⟩ => ⟨f, d, t1, t2, t3, t4, t5, nm, rl, li, e, q _ a1, q _ a2, h⟩
theorem DefsOk.sub {P : Params} {ns ns' : List (Addr × Obj)} (q : ∀ p ∈ ns, p ∈ ns') : ∀ {vs us : List Value}, DefsOk P ns vs us → DefsOk P ns' vs us
  | [], [], _ => trivial
  | _ :: _, _ :: _, h => ⟨h.1.sub q, DefsOk.sub q h.2⟩
  | [], _ :: _, h => h.elim
  | _ :: _, [], h => h.elim
theorem DefsOk.snoc {P : Params} {ns : List (Addr × Obj)} : ∀ {vs us : List Value} {v u : Value}, DefsOk P ns vs us → DefOk P ns v u → DefsOk P ns (vs ++ [v]) (us ++ [u])
  | [], [], _, _, _, r => ⟨r, trivial⟩
  | _ :: _, _ :: _, _, _, h, r => ⟨h.1, DefsOk.snoc h.2 r⟩
  | [], _ :: _, _, _, h, _ => h.elim
  | _ :: _, [], _, _, h, _ => h.elim
theorem UnderKey.sub {P : Params} {ns ns' : List (Addr × Obj)} (q : ∀ p ∈ ns, p ∈ ns') {v : Value} {r : Option Value} {b : Nat} : UnderKey P ns v r b → UnderKey P ns' v r b
  | .inl h => .inl h
  | .inr ⟨rl, n, l, e, c, a, z⟩ => .inr ⟨rl, n, l, e, c.sub q, a.sub q, z⟩
theorem keys8_len {k : Str} (h : k ∈ keys8) : k.length ≤ 8 := by
  have : ∀ k ∈ keys8, k.length ≤ 8 := by decide
  exact this k h
theorem LawOk.put {w : World} {i : Nat} {x dx md df nx rw f sl : Addr} {es es' : Array DictEntry} {kvs : List (Str × Value)} {om orw om' orw' : Obj} {rws : List (Str × Value)} {defs nexts : Array Value} {rest rest' : List (Addr × Obj)} {k : Str} {u : Value} {n : Nat} {ns : List Nat}
    (ok : LawOk w i x dx md df nx rw es kvs om orw rws defs nexts rest) (hk8 : k ∈ keys8) (H' : Ents w es' (stored kvs k (.ref f))) (hm : om'.IsDictOf (PySem.strKind PySem.Challenge.rw_bc6014_01.row.prog w) (stored kvs k (.ref f)))
    (hr : orw'.IsDictOf (PySem.strKind PySem.Challenge.rw_bc6014_01.row.prog w) (stored rws k (.ref sl))) (C : Chain w.params rest' (.ref f) (n :: ns)) (R : RowsAre rest' sl (n :: ns)) (hl : ns.length ≤ i) (D : DefOk w.params rest' (.ref f) u)
    (sub : ∀ p ∈ rest, p ∈ rest') (off : ∀ p ∈ rest', @Ne Nat p.1 x ∧ @Ne Nat p.1 dx ∧ @Ne Nat p.1 md ∧ @Ne Nat p.1 df ∧ @Ne Nat p.1 nx ∧ @Ne Nat p.1 rw) :
    LawOk w (i + 1) x dx md df nx rw es' (stored kvs k (.ref f)) om' orw' (stored rws k (.ref sl)) (defs.push (.ref f)) (nexts.push u) rest' :=
  { ents := H', model := hm, rows := hr, lox := ok.lox, lom := ok.lom, lor := ok.lor, a1 := ok.a1, a2 := ok.a2, a3 := ok.a3, a4 := ok.a4, a5 := ok.a5, off := off
    dlen := by rw [Array.size_push]; exact Nat.succ_le_succ ok.dlen
    nlen := by rw [Array.size_push, Array.size_push, ok.nlen]
    dok := by rw [Array.toList_push, Array.toList_push]; exact (ok.dok.sub sub).snoc D
    kin := fun k' v e => by
      rw [va_stored] at e
      by_cases q : k' = k
      · rw [q]; exact hk8
      · rw [if_neg q] at e
        exact ok.kin k' v e
    rsub := fun k' e => by
      rw [va_stored] at e ⊢
      by_cases q : k' = k
      · rw [if_pos q] at e
        cases e
      · rw [if_neg q] at e ⊢
        exact ok.rsub k' e
    under := fun k' v e => by
      rw [va_stored] at e ⊢
      by_cases q : k' = k
      · rw [if_pos q] at e ⊢
        cases e
        exact .inr ⟨sl, n, ns, rfl, C, R, Nat.succ_le_succ hl⟩
      · rw [if_neg q] at e ⊢
        exact ((ok.under k' v e).sub sub).up (Nat.le_succ i) }
end Mine
/-! LawMid -/
namespace Mine
/-- a fact put aside, that no line of the walk looks into -/
structure Kept (p : Prop) : Prop where
  out : p
/-- the statements behind the making of a def -/
noncomputable def lawInner : List Stmt := match lawBody.drop 1 with
  | .If _ b _ _ :: _ => b.drop 1
  | _ => []
/-- behind them: the law's word at the next turn -/
def TurnMid (w : World) (i : Nat) (h₀ : Heap) (L : Addr) (s : Shared) (own : List (Addr × Obj)) (x dx md df nx rw : Addr) (f : Flow) (s' : Shared) : Prop :=
  f = .next ∧ ∃ h' tk m' es ep kvs od om orw rws defs cd' nexts cn rest, s' = { s with heap := h', toks := tk } ∧ Fr h₀ L h' m' ∧
    m' "attributes" = some (.ref x) ∧ m' "model" = some (.ref md) ∧ m' "defs" = some (.ref df) ∧ m' "nexts" = some (.ref nx) ∧ m' "rows" = some (.ref rw) ∧
    News h₀ L h' ((x, pmdO dx es ep) :: (dx, od) :: (md, om) :: (df, W.listOf defs cd') :: (nx, W.listOf nexts cn) :: (rw, orw) :: (rest ++ own)) ∧ (∀ p ∈ rest, ∀ q ∈ own, @Ne Nat p.1 q.1) ∧ LawOk w (i + 1) x dx md df nx rw es kvs om orw rws defs nexts rest
theorem news_x3 {h₀ h : Heap} {L : Addr} {a b c x y : Addr × Obj} {r : List (Addr × Obj)} (N : News h₀ L h (a :: b :: c :: x :: y :: r)) : News h₀ L h (x :: y :: a :: b :: c :: r) := fun p hp => N p (by
  simp only [List.mem_cons] at hp ⊢
  rcases hp with h | h | h | h | h | h <;> simp [h])
theorem news_drop3 {h₀ h : Heap} {L : Addr} {a b c e : Addr × Obj} {r : List (Addr × Obj)} (N : News h₀ L h (a :: b :: c :: e :: r)) : News h₀ L h (a :: b :: c :: r) := fun p hp => N p (by
  simp only [List.mem_cons] at hp ⊢
  rcases hp with h | h | h | h <;> simp [h])
theorem sep_rest {x dx md df nx rw : Addr} {a1 a2 a3 a4 a5 a6 : Obj} {rest rest' own : List (Addr × Obj)} (sep : ∀ p ∈ (x, a1) :: (dx, a2) :: (md, a3) :: (df, a4) :: (nx, a5) :: (rw, a6) :: rest, ∀ q ∈ own, @Ne Nat p.1 q.1) (b1 b2 b3 b4 b5 b6 : Obj) (h : ∀ p ∈ rest', ∀ q ∈ own, @Ne Nat p.1 q.1) :
    ∀ p ∈ (x, b1) :: (dx, b2) :: (md, b3) :: (df, b4) :: (nx, b5) :: (rw, b6) :: rest', ∀ q ∈ own, @Ne Nat p.1 q.1 := by
  intro p hp q hq
  rcases List.mem_cons.mp hp with rfl | hp
  · exact sep (x, a1) (.head _) q hq
  rcases List.mem_cons.mp hp with rfl | hp
  · exact sep (dx, a2) (.tail _ (.head _)) q hq
  rcases List.mem_cons.mp hp with rfl | hp
  · exact sep (md, a3) (.tail _ (.tail _ (.head _))) q hq
  rcases List.mem_cons.mp hp with rfl | hp
  · exact sep (df, a4) (.tail _ (.tail _ (.tail _ (.head _)))) q hq
  rcases List.mem_cons.mp hp with rfl | hp
  · exact sep (nx, a5) (.tail _ (.tail _ (.tail _ (.tail _ (.head _))))) q hq
  rcases List.mem_cons.mp hp with rfl | hp
  · exact sep (rw, a6) (.tail _ (.tail _ (.tail _ (.tail _ (.tail _ (.head _)))))) q hq
  · exact h p hp q hq
end Mine
/-! DeedDef -/
namespace Mine
local macro_rules | `(tactic| k_mem) => `(tactic| focus ((repeat (first | exact List.Mem.head _ | assumption | refine List.mem_cons_of_mem _ ?_)); done))
local macro_rules | `(tactic| k_room) => `(tactic| first | assumption | ((try dsimp only [Around.deeper, ktrTop, Around.mark, callerA]); omega) | ktr_room)
local macro_rules | `(tactic| ks_enter) => `(tactic| (refine' ks_code_super ?k1 ?k2 ?k3 ?k4 ?k5 ?kA ?kF ?kK ?k6 ?k7 ?k8 ?k9 ?kB ?_ ?c1 ?c2 ?c3 ?c4; (case kA => exact rfl); (case kF => exact rfl); (case kK => first | exact rfl | assumption); (case k1 => k_asm); (case k2 => k_asm); (case k3 => k_asm); (case k4 => k_asm); (case k5 => k_asm); (case k6 => k_is); (case k7 => k_is); (case k8 => k_room); (case k9 => exact BindsTo.of_eq rfl); (case kB => exact locs rfl); (case c1 => decide); (case c2 => exact rfl); (case c3 => exact rfl); (case c4 => exact rfl); intro g' L' h' FG' F' N' B' X' T' l1; (try k_lt l1); (try dsimp only); (try k_lift B')))
local macro_rules | `(tactic| k_units) => `(tactic| first | assumption | ((try dsimp only [Around.deeper, ktrTop, Around.mark, callerA]); have hcL9 := cLine_is; omega) | ktr_units)
local macro_rules | `(tactic| k_all) => `(tactic| assumption)
local macro_rules | `(tactic| k_inst) => `(tactic| (refine' pm_inst ?N ?h1 ?h2; (case N => k_asm); (case h1 => k_mem); (case h2 => k_mem)))
local macro_rules | `(tactic| walk_at "compareOp NotIn str ref") => `(tactic| (k_here; k_dflt (refine' pm_notin_some ?X ?F ?N ?h1 ?h2 ?hm ?hc ?lo ?H ?hv ?_; (case X => k_asm); (case F => k_asm); (case N => k_asm); (case h1 => k_mem); (case h2 => k_mem); (case hm => k_is); (case hc => k_is); (case lo => k_asm); (case H => k_asm); (case hv => k_asm))))
local macro_rules | `(tactic| walk_at "compareOp NotIn str ref") => `(tactic| (k_here; k_dflt (refine' pm_notin_none ?X ?F ?N ?h1 ?h2 ?hm ?hc ?lo ?H ?hv ?_; (case X => k_asm); (case F => k_asm); (case N => k_asm); (case h1 => k_mem); (case h2 => k_mem); (case hm => k_is); (case hc => k_is); (case lo => k_asm); (case H => k_asm); (case hv => k_asm))))
local macro_rules | `(tactic| walk_at "compareOp In str ref") => `(tactic| (k_here; k_dflt (refine' pm_in_some ?X ?F ?N ?h1 ?h2 ?hm ?hc ?lo ?H ?hv ?_; (case X => k_asm); (case F => k_asm); (case N => k_asm); (case h1 => k_mem); (case h2 => k_mem); (case hm => k_is); (case hc => k_is); (case lo => k_asm); (case H => k_asm); (case hv => k_asm))))
local macro_rules | `(tactic| walk_at "compareOp In str ref") => `(tactic| (k_here; k_dflt (refine' pm_in_none ?X ?F ?N ?h1 ?h2 ?hm ?hc ?lo ?H ?hv ?_; (case X => k_asm); (case F => k_asm); (case N => k_asm); (case h1 => k_mem); (case h2 => k_mem); (case hm => k_is); (case hc => k_is); (case lo => k_asm); (case H => k_asm); (case hv => k_asm))))
local macro_rules | `(tactic| walk_at "getMethod ref") => `(tactic| (k_here; (with_reducible show wpAny _ _ (getMethod _ (Str.ofString "__getitem__") _) _ _ _); k_dflt (refine' pm_method_get ?F ?X ?N ?h1 ?h2 ?h3 ?ho ?ok ?hm ?_; (case F => k_asm); (case X => k_asm); (case N => k_asm); (case h1 => k_mem); (case h2 => k_mem); (case h3 => k_mem); (case ho => k_is); (case ok => kernel_rfl); (case hm => kernel_rfl); intro q' h' F' N' l1; (try k_lt l1))))
local macro_rules | `(tactic| walk_at "getMethod ref") => `(tactic| (k_here; (with_reducible show wpAny _ _ (getMethod _ (Str.ofString "__setitem__") _) _ _ _); k_dflt (refine' pm_method_set ?F ?X ?N ?h1 ?h2 ?h3 ?ho ?ok ?hm ?_; (case F => k_asm); (case X => k_asm); (case N => k_asm); (case h1 => k_mem); (case h2 => k_mem); (case h3 => k_mem); (case ho => k_is); (case ok => kernel_rfl); (case hm => kernel_rfl); intro q' h' F' N' l1; (try k_lt l1))))
local macro_rules | `(tactic| walk_at "callWith ref") => `(tactic| (k_here; k_dflt (refine' callWith_B ?N ?hq ?hT ?_; (case N => k_asm); (case hq => k_mem); (case hT => first | exact .inl rfl | exact .inr rfl); k_whole)))
local macro_rules | `(tactic| walk_at "And") => `(tactic| ((with_reducible show BndP _ _ _ _ _ ∧ _); refine ⟨bndP (by k_asm) (by k_mem), ?_⟩; try dsimp only [List.nil_append, List.cons_append]))
local macro_rules | `(tactic| walk_at "call ref") => `(tactic| (k_here; (with_reducible show wpAny _ _ (call _ [Value.str _ _]) _ _ _); k_dflt (refine' pm_call_get ?X ?F ?N ?hq ?hx ?hdx ?hcd ?hmod ?hty ?H ?hv ?_; (case X => k_asm); (case F => k_asm); (case N => k_asm); (case hq => k_mem); (case hx => k_mem); (case hdx => k_mem); (case hcd => kernel_rfl); (case hmod => k_is); (case hty => k_is); (case H => k_asm); (case hv => k_asm))))
local macro_rules | `(tactic| walk_at "call ref") => `(tactic| (k_here; (with_reducible show wpAny _ _ (call _ [Value.str _ _, _]) _ _ _); k_dflt (refine' pm_call_set ?X ?F ?N ?hq ?hx ?hdx ?U ?ho ?H ?hsz ?_; (case X => k_asm); (case F => k_asm); (case N => k_asm); (case hq => k_mem); (case hx => k_mem); (case hdx => k_mem); (case U => k_updF); (case ho => k_is); (case H => k_asm); (case hsz => k_asm); intro es' ep' h' F' N' H'; (try dsimp only at N'))))
local macro_rules | `(tactic| walk_at "wpAt") => `(tactic| (ks_step "eval Call"; with_unfolding_all refine ks_wpAt_MethodCall ?_))
local macro_rules | `(tactic| walk_at "BndP") => `(tactic| (k_dflt (refine' bndP ?N ?hq; (case N => k_asm); (case hq => k_mem))))
local macro_rules | `(tactic| walk_at "wpAt") => `(tactic| (dsimp only; ks_step "execs cons"; refine ks_wpAt_execs_cons ?_))
local macro_rules | `(tactic| walk_at "wpAt") => `(tactic| (ks_step "exec Expr"; with_unfolding_all refine ks_wpAt_Expr_any ?_))
local macro_rules | `(tactic| walk_at "call builtin:callable") => `(tactic| (k_here; k_dflt (first
  | ((with_reducible show wpAny _ _ (call _ [Value.int _ _]) _ _ _); refine callable_int ?_)
  | (refine' callable_K ?X ?F ?e ?_; (case X => k_asm); (case F => k_asm); (case e => k_is))
  | (refine' callable_inst ?X ?F ?I ?e ?_; (case X => k_asm); (case F => k_asm); (case I => k_inst); (case e => k_is)))))
local macro_rules | `(tactic| walk_at "call builtin:hasattr") => `(tactic| (k_here; k_dflt (first
  | ((with_reducible show wpAny _ _ (call _ [Value.int _ _, _]) _ _ _); refine ha_intK (by exact rfl) (by k_asm) (by k_asm) ?_; intro h' tk' F' N')
  | (refine' ha_fnK ?hA ?X ?F ?N ?e ?_; (case hA => exact rfl); (case X => k_asm); (case F => k_asm); (case N => k_asm); (case e => k_is); intro h' tk' F' N')
  | (refine' ha_instK ?X ?F ?I ?hg ?hm ?hh ?ha ?hn ?hl ?hv ?_; (case X => k_asm); (case F => k_asm); (case I => k_inst); (case hg => k_is); (case hm => k_is); (case hh => k_is); (case ha => k_is); (case hn => k_is); (case hl => k_get); (case hv => k_handed)))))
local macro_rules | `(tactic| walk_at "call builtin:getattr") => `(tactic| (k_here; k_dflt (refine' getattr3_K ?X ?F ?I ?hg ?hm ?hh ?hs ?ha ?hn ?hl ?hv ?_; (case X => k_asm); (case F => k_asm); (case I => k_inst); (case hg => k_is); (case hm => k_is); (case hh => k_is); (case hs => decide +kernel); (case ha => k_is); (case hn => k_is); (case hl => k_get); (case hv => k_handed))))
local macro_rules | `(tactic| walk_at "call builtin:len") => `(tactic| (k_here; k_dflt (refine' kda_len (knd := PySem.strKind _ _) ?N ?hp ?hd ?lo ?hz ?_; (case N => k_asm); (case hp => k_mem); (case hd => k_asm); (case lo => k_asm); (case hz => exact le_len (by assumption)))))
local macro_rules | `(tactic| walk_at "compareOp In str ref") => `(tactic| (k_here; k_dflt (refine' kda_in (knd := PySem.strKind _ _) ?N ?hp ?hd ?lo (strKind_is _ _ _ _) true ?hb ?_; (case N => k_asm); (case hp => k_mem); (case hd => k_asm); (case lo => k_asm); (case hb => exact (congrArg Option.isSome (by with_reducible assumption : valueAt _ _ = some _)).trans rfl))))
local macro_rules | `(tactic| walk_at "compareOp In str ref") => `(tactic| (k_here; k_dflt (refine' kda_in (knd := PySem.strKind _ _) ?N ?hp ?hd ?lo (strKind_is _ _ _ _) false ?hb ?_; (case N => k_asm); (case hp => k_mem); (case hd => k_asm); (case lo => k_asm); (case hb => exact (congrArg Option.isSome (by with_reducible assumption : valueAt _ _ = none)).trans rfl))))
local macro_rules | `(tactic| walk_at "compareOp NotIn str ref") => `(tactic| (k_here; k_dflt (refine' kdg_notin (knd := PySem.strKind _ _) ?N ?hp ?hd ?lo (strKind_is _ _ _ _) true ?hb ?_; (case N => k_asm); (case hp => k_mem); (case hd => k_asm); (case lo => k_asm); (case hb => exact (congrArg Option.isSome (by with_reducible assumption : valueAt _ _ = some _)).trans rfl))))
local macro_rules | `(tactic| walk_at "compareOp NotIn str ref") => `(tactic| (k_here; k_dflt (refine' kdg_notin (knd := PySem.strKind _ _) ?N ?hp ?hd ?lo (strKind_is _ _ _ _) false ?hb ?_; (case N => k_asm); (case hp => k_mem); (case hd => k_asm); (case lo => k_asm); (case hb => exact (congrArg Option.isSome (by with_reducible assumption : valueAt _ _ = none)).trans rfl))))
local macro_rules | `(tactic| walk_at "subscriptTail") => `(tactic| (k_here; (with_reducible show wpAny _ _ (subscriptTail _ _ (Value.ref _) (Value.str _ _)) _ _ _); k_dflt (refine' kda_item (knd := PySem.strKind _ _) ?N ?hp ?hd (strKind_is _ _ _ _) ?hl ?_; (case N => k_asm); (case hp => k_mem); (case hd => k_asm); (case hl => k_asm))))
local macro_rules | `(tactic| walk_at "setItem ref str") => `(tactic| (k_here; k_dflt (refine' kda_set (knd := PySem.strKind _ _) ?F ?N ?U ?d (strKind_is _ _ _ _) ?z ?_; (case F => k_asm); (case N => k_asm); (case U => k_updF); (case d => k_asm); (case z => exact le_size (by assumption))); intro h' o' F' N' hd'; (try dsimp only at N')))
local macro_rules | `(tactic| walk_at "call builtin:dict.pop") => `(tactic| (k_here; k_dflt (refine' kob_pop (knd := PySem.strKind _ _) (more := []) ?F ?N ?U ?d (strKind_is _ _ _ _) (.inl rfl) (by rfl) (PySem.F.args_dict_pop_2 _ _) ?l ?z ?_; (case F => k_asm); (case N => k_asm); (case U => k_updF); (case d => k_asm); (case l => k_asm); (case z => exact le_size (by assumption))); intro h' o' F' N' hd'; (try dsimp only at N')))
local macro_rules | `(tactic| walk_at "subscriptTail") => `(tactic| (k_here; (with_reducible show wpAny _ _ (subscriptTail _ _ (Value.ref _) (Value.int _ _)) _ _ _); k_dflt (refine' item_key ?N ?hm ?h0 ?h8 ?_ ?hs; (case N => k_asm); (case hm => k_mem); (case h0 => exact fm0 _); (case h8 => exact fm8 _); (case hs => with_unfolding_all rfl)); intro k' t' hk8'; (try dsimp only)))
local macro_rules | `(tactic| k_room) => `(tactic| first | assumption | decide | ((try dsimp only [Around.deeper, ktrTop, Around.mark, callerA]); omega) | ktr_room)
local macro_rules | `(tactic| k_units) => `(tactic| first | assumption | ((try dsimp only [Around.deeper, ktrTop, Around.mark, callerA]); have hcL9 := cLine_is; omega) | ktr_units)
local macro_rules | `(tactic| walk_at "call builtin:len") => `(tactic| (k_here; k_dflt (refine' len_led ?N ?hm ?hz ?_; (case N => k_asm); (case hm => k_mem); (case hz => assumption)); (try dsimp only)))
set_option maxHeartbeats 16000000 in
theorem deed_def {w : World} {p : Program} {loose : List Str} {mean : ExcName → Option Value} {mg mb : Str → Option Value} {fa : Addr} {cd : Value} {h₀ : Heap} {L : Addr} {m₁ : Str → Option Value} {s : Shared} {i : Nat} {n kd : Int} {t tkd tk8 : Tok} {k : Str} {own R rest : List (Addr × Obj)} {Q : Flow → Shared → Prop} {Q1 : Value → Unit → Shared → Prop} {E1 : Value → Shared → Prop}
    {x dx md df nx rw : Addr} {es : Array DictEntry} {ep : Nat} {kvs : List (Str × Value)} {od om orw : Obj} {rws : List (Str × Value)} {defs : Array Value} {cd' : Nat} {nexts : Array Value} {cn : Nat}
    (B : Below callerA h₀ [] h₀) (F : Fr h₀ L s.heap (fun y => if y = "kind" then some (.int kd tkd) else if y = "key" then some (.str k tk8) else if y = "number" then some (.int n t) else if y = "attributes" then some (.ref x) else if y = "model" then some (.ref md) else if y = "defs" then some (.ref df) else if y = "nexts" then some (.ref nx) else if y = "rows" then some (.ref rw) else m₁ y))
    (X : (Mine.hd.heap_39 w.params).In h₀) (N : News h₀ L s.heap ((x, pmdO dx es ep) :: (dx, od) :: (md, om) :: (df, W.listOf defs cd') :: (nx, W.listOf nexts cn) :: (rw, orw) :: R)) (T : Top p loose mean mg mb h₀)
    (hR : R = rest ++ own) (ok : LawOk w i x dx md df nx rw es kvs om orw rws defs nexts rest) (off : ∀ p ∈ R, @Ne Nat p.1 x ∧ @Ne Nat p.1 dx ∧ @Ne Nat p.1 md ∧ @Ne Nat p.1 df ∧ @Ne Nat p.1 nx ∧ @Ne Nat p.1 rw) (sep : ∀ p ∈ (x, pmdO dx es ep) :: (dx, od) :: (md, om) :: (df, W.listOf defs cd') :: (nx, W.listOf nexts cn) :: (rw, orw) :: rest, ∀ q ∈ own, @Ne Nat p.1 q.1) (hi : i < 62) (hk8 : k ∈ keys8) (hkd : kd < 3) (hkd0 : 0 ≤ kd)
    (inner : ∀ f d rl t1 t2 t3 t4 t5 tl tr h' tk, Fr h₀ L h' (fun y => if y = "made" then some (.ref f) else if y = "kind" then some (.int kd tkd) else if y = "key" then some (.str k tk8) else if y = "number" then some (.int n t) else if y = "attributes" then some (.ref x) else if y = "model" then some (.ref md) else if y = "defs" then some (.ref df) else if y = "nexts" then some (.ref nx) else if y = "rows" then some (.ref rw) else m₁ y) →
      News h₀ L h' ((f, instObj 53 d) :: (d, dictOf (rfEs w.params t1 t2 t3 t4 t5 (.str k tk8) (.ref rl) (.int (10 + (defs.size : Int)) tl) .none) 5) :: (rl, W.listOf #[.str (xN defs.size) tr] 0) :: (x, pmdO dx es ep) :: (dx, od) :: (md, om) :: (df, W.listOf defs cd') :: (nx, W.listOf nexts cn) :: (rw, orw) :: R) → (∀ p ∈ (x, pmdO dx es ep) :: (dx, od) :: (md, om) :: (df, W.listOf defs cd') :: (nx, W.listOf nexts cn) :: (rw, orw) :: R, p.1 < d) → @LT.lt Nat _ d f → @LT.lt Nat _ f rl →
      wpAny (model PySem.Challenge.rw_bc6014_01.row.prog w) (callerA.deeper (envOf "law" lawScope L fa cd)) (execs lawInner (envOf "law" lawScope L fa cd)) (TurnMid w i h₀ L s own x dx md df nx rw) (fun e s' => wpAny (model PySem.Challenge.rw_bc6014_01.row.prog w) (callerA.deeper (envOf "law" lawScope L fa cd)) (leaving (envOf "law" lawScope L fa cd) e) (fun u s'' => Q1 e u s'') E1 s') { s with heap := h', toks := tk }) :
    wpAny (model PySem.Challenge.rw_bc6014_01.row.prog w) (callerA.deeper (envOf "law" lawScope L fa cd)) (execs (lawBody.drop 1) (envOf "law" lawScope L fa cd)) (TurnEnd h₀ L s own (LawJ w (i + 1)) Q)
      (fun e s' => wpAny (model PySem.Challenge.rw_bc6014_01.row.prog w) (callerA.deeper (envOf "law" lawScope L fa cd)) (leaving (envOf "law" lawScope L fa cd) e) (fun u s'' => Q1 e u s'') E1 s') s := by
  conv in (lawBody.drop 1) => whnf
  conv in (occs := *) lawScope => all_goals whnf
  conv at inner in lawInner => whnf
  conv at inner in (occs := *) lawScope => all_goals whnf
  w_top off; revert X; k_fill; intro X
  have dz : defs.size ≤ 62 := Nat.le_trans ok.dlen (Nat.le_of_lt hi)
  repeat' ((fail_if_success (with_reducible show wpAny _ _ (call (Value.ref _) _) _ _ _)); first | (k_unfold; (try dsimp only)) | walk1 | (dsimp only; walk1))
  rename (Fr _ _ _ _) => F9
  rename (News _ _ _ _) => N9
  refine mk_rule B F9 X N9 T rfl (by k_room) (by k_units) (fun f d rl t1 t2 t3 t4 t5 h' tk F' N' l1 l2 l3 => ?_)
  clear F9 N9
  repeat' ((fail_if_success (with_reducible show wpAny _ _ (execs [Stmt.If _ _ _ _] _) _ _ _)); first | (k_unfold; (try dsimp only)) | walk1 | (dsimp only; walk1))
  rename (Fr _ _ _ _) => F9
  rename (News _ _ _ _) => N9
  refine wpAny_mono (inner f d rl t1 t2 t3 t4 t5 _ _ _ _ F9 (news_drop3 N9) (fun p hp => l1 p (.tail _ hp)) l2 l3) (fun fl s'' hm => ?_) (fun _ _ e => e)
  clear inner F9 N9
  obtain ⟨rfl, h2, tk2, m2, es, ep, kvs, od, om, orw, rws, defs, cd', nexts, cn, rest2, rfl, F2, e1, e2, e3, e4, e5, N2, sep2, ok2⟩ := hm
  rw [mform5 e1 e2 e3 e4 e5] at F2
  generalize hR2 : rest2 ++ own = R2 at N2
  dsimp only
  repeat' ((fail_if_success (with_reducible show wpAny _ _ (call (Value.ref _) _) _ _ _)); first | (k_unfold; (try dsimp only)) | walk1 | (dsimp only; walk1))
  rename (Fr _ _ _ _) => F8
  rename (News _ _ _ _) => N8
  refine law_same B F8 X N8 T rfl (by k_room) (by k_units) ok2.lox ok2.lom ok2.ents ok2.model ok2.klen ok2.solid (fun h' tk F' N' => ?_)
  clear F8 N8
  repeat' ((fail_if_success (with_reducible show wpAny _ _ (call (Value.ref _) _) _ _ _)); first | (k_unfold; (try dsimp only)) | walk1 | (dsimp only; walk1))
  rename (Fr _ _ _ _) => F7
  rename (News _ _ _ _) => N7
  exact turn_end F7 N7 rfl rfl rfl rfl rfl (fun p hp => by rw [← hR2]; exact hp) (sep_rest sep _ _ _ _ _ _ sep2) ok2
end Mine
/-! MidPut -/
namespace Mine
theorem xN_push (a : Array Value) (v : Value) : Str.ofString "x" ++ Str.ofString (toString (((a.push v).size : Int) - 1)) = xN a.size := by
  rw [Array.size_push]
  have e : (((a.size + 1 : Nat) : Int) - 1) = (a.size : Int) := by omega
  rw [e]
  rfl
theorem mid_put {w : World} {i : Nat} {h₀ h' : Heap} {L : Addr} {s : Shared} {own R rest : List (Addr × Obj)} {m' : Str → Option Value} {tk : Nat} {x dx md df nx rw f d rl il sl : Addr} {es es' : Array DictEntry} {ep ep' : Nat} {kvs rws : List (Str × Value)} {od od' om om' orw orw' : Obj} {defs nexts items : Array Value} {cd' cn cd'' cn'' c c2 c3 : Nat}
    {t1 t2 t3 t4 t5 tl tr tk8 t' : Tok} {k : Str} {u : Value} {ns : List Nat} {its : List Value}
    (ok : LawOk w i x dx md df nx rw es kvs om orw rws defs nexts rest) (hk8 : k ∈ keys8) (sep : ∀ p ∈ (x, pmdO dx es ep) :: (dx, od) :: (md, om) :: (df, W.listOf defs cd') :: (nx, W.listOf nexts cn) :: (rw, orw) :: rest, ∀ q ∈ own, @Ne Nat p.1 q.1) (hi : i < 62) (hR : R = rest ++ own)
    (l1 : ∀ p ∈ (x, pmdO dx es ep) :: (dx, od) :: (md, om) :: (df, W.listOf defs cd') :: (nx, W.listOf nexts cn) :: (rw, orw) :: R, p.1 < d) (l2 : @LT.lt Nat _ d f) (l3 : @LT.lt Nat _ f rl) (l4 : @LT.lt Nat _ d il) (l5 : @LT.lt Nat _ d sl)
    (F : Fr h₀ L h' m') (N : News h₀ L h' ((x, pmdO dx es' ep') :: (dx, od') :: (md, om') :: (df, W.listOf (defs.push (.ref f)) cd'') :: (nx, W.listOf (nexts.push u) cn'') :: (rw, orw') :: (sl, W.listOf items c) :: (il, W.listOf #[.str (xN defs.size) t'] c2) :: (f, instObj 53 d) ::
      (d, dictOf (rfEs w.params t1 t2 t3 t4 t5 (.str k tk8) (.ref rl) (.int (10 + (defs.size : Int)) tl) u) 5) :: (rl, W.listOf #[.str (xN defs.size) tr] c3) :: R)) (e1 : m' "attributes" = some (.ref x)) (e2 : m' "model" = some (.ref md)) (e3 : m' "defs" = some (.ref df)) (e4 : m' "nexts" = some (.ref nx)) (e5 : m' "rows" = some (.ref rw))
    (H' : Ents w es' (stored kvs k (.ref f))) (hm : om'.IsDictOf (PySem.strKind PySem.Challenge.rw_bc6014_01.row.prog w) (stored kvs k (.ref f))) (hr : orw'.IsDictOf (PySem.strKind PySem.Challenge.rw_bc6014_01.row.prog w) (stored rws k (.ref sl)))
    (hu : u = .none ∨ ∃ a, u = .ref a) (hC : Chain w.params rest u ns) (hI : items.toList = .ref il :: its) (hRL : RowLists rest its ns) (hns : ns.length ≤ i) :
    TurnMid w i h₀ L s own x dx md df nx rw .next { s with heap := h', toks := tk } := by
  have bx : @LT.lt Nat _ x d := l1 _ (.head _)
  have bdx : @LT.lt Nat _ dx d := l1 _ (.tail _ (.head _))
  have bmd : @LT.lt Nat _ md d := l1 _ (.tail _ (.tail _ (.head _)))
  have bdf : @LT.lt Nat _ df d := l1 _ (.tail _ (.tail _ (.tail _ (.head _))))
  have bnx : @LT.lt Nat _ nx d := l1 _ (.tail _ (.tail _ (.tail _ (.tail _ (.head _)))))
  have brw : @LT.lt Nat _ rw d := l1 _ (.tail _ (.tail _ (.tail _ (.tail _ (.tail _ (.head _))))))
  have bR : ∀ p ∈ R, @LT.lt Nat _ p.1 d := fun p hp => l1 _ (.tail _ (.tail _ (.tail _ (.tail _ (.tail _ (.tail _ hp))))))
  let new : List (Addr × Obj) := [(sl, W.listOf items c), (il, W.listOf #[.str (xN defs.size) t'] c2), (f, instObj 53 d),
    (d, dictOf (rfEs w.params t1 t2 t3 t4 t5 (.str k tk8) (.ref rl) (.int (10 + (defs.size : Int)) tl) u) 5), (rl, W.listOf #[.str (xN defs.size) tr] c3)]
  have bn : ∀ p ∈ new, @LE.le Nat _ d p.1 := by
    intro p hp
    simp only [new, List.mem_cons, List.not_mem_nil, or_false] at hp
    rcases hp with rfl | rfl | rfl | rfl | rfl <;> (dsimp only; omega)
  have qs : ∀ p ∈ rest, p ∈ new ++ rest := fun p hp => List.mem_append_right _ hp
  refine ⟨rfl, h', tk, m', es', ep', stored kvs k (.ref f), od', om', orw', stored rws k (.ref sl), defs.push (.ref f), cd'', nexts.push u, cn'', new ++ rest, rfl, F, e1, e2, e3, e4, e5, by rw [hR] at N; exact N, ?_, ?_⟩
  · intro p hp q hq
    have hb : @LT.lt Nat _ q.1 d := bR q (by rw [hR]; exact List.mem_append_right _ hq)
    rcases List.mem_append.mp hp with hp | hp
    · have := bn p hp
      omega
    · exact sep p (.tail _ (.tail _ (.tail _ (.tail _ (.tail _ (.tail _ hp)))))) q hq
  · refine ok.put hk8 H' hm hr (n := defs.size) (ns := ns) ?_ ?_ hns ?_ qs ?_
    · exact ⟨f, d, rl, t1, t2, t3, t4, t5, k, tk8, tl, tr, c3, u, rfl, .tail _ (.tail _ (.head _)), .tail _ (.tail _ (.tail _ (.head _))), .tail _ (.tail _ (.tail _ (.tail _ (.head _)))), keys8_len hk8, Nat.lt_of_le_of_lt ok.dlen hi, hC.sub qs⟩
    · refine ⟨items, c, .head _, ?_⟩
      rw [hI]
      exact ⟨⟨il, c2, t', rfl, .tail _ (.head _)⟩, hRL.sub qs⟩
    · exact ⟨f, d, t1, t2, t3, t4, t5, .str k tk8, rl, .int (10 + (defs.size : Int)) tl, rfl, .tail _ (.tail _ (.head _)), .tail _ (.tail _ (.tail _ (.head _))), hu⟩
    · intro p hp
      rcases List.mem_append.mp hp with hp | hp
      · have := bn p hp
        refine ⟨?_, ?_, ?_, ?_, ?_, ?_⟩ <;> omega
      · exact ok.off p hp
theorem news_new {h₀ h : Heap} {L : Addr} {sl a b il x dx f d rl md df nx rw : Addr × Obj} {r : List (Addr × Obj)} (N : News h₀ L h (sl :: a :: b :: il :: x :: dx :: f :: d :: rl :: md :: df :: nx :: rw :: r)) :
    News h₀ L h (x :: dx :: md :: df :: nx :: rw :: sl :: il :: f :: d :: rl :: r) := fun p hp => N p (by
  simp only [List.mem_cons] at hp ⊢
  rcases hp with h | h | h | h | h | h | h | h | h | h | h | h <;> simp [h])
theorem news_over {h₀ h : Heap} {L : Addr} {sl b il x dx f d rl md df nx rw : Addr × Obj} {r : List (Addr × Obj)} (N : News h₀ L h (sl :: b :: il :: x :: dx :: f :: d :: rl :: md :: df :: nx :: rw :: r)) :
    News h₀ L h (x :: dx :: md :: df :: nx :: rw :: sl :: il :: f :: d :: rl :: r) := fun p hp => N p (by
  simp only [List.mem_cons] at hp ⊢
  rcases hp with h | h | h | h | h | h | h | h | h | h | h | h <;> simp [h])
theorem RowLists.length {news : List (Addr × Obj)} : ∀ {vs : List Value} {l : List Nat}, RowLists news vs l → vs.length = l.length
  | [], [], _ => rfl
  | _ :: _, _ :: _, h => by rw [List.length_cons, List.length_cons, RowLists.length h.2]
  | [], _ :: _, h => h.elim
  | _ :: _, [], h => h.elim
theorem cat_led {prog : Program} {w : World} {A : Around} {E : Value → Shared → Prop} {s : Shared} {h₀ : Heap} {L a b : Addr} {m : Str → Option Value} {news : List (Addr × Obj)} {its its2 : Array Value} {c1 c2 : Nat} {Q : Value → Shared → Prop}
    (F : Fr h₀ L s.heap m) (N : News h₀ L s.heap news) (ha : (a, W.listOf its c1) ∈ news) (hb : (b, W.listOf its2 c2) ∈ news) (hz : its.size + its2.size ≤ sizeLine)
    (h : ∀ D h', Fr h₀ L h' m → News h₀ L h' ((D, W.listOf (its ++ its2) 0) :: news) → (∀ p ∈ news, p.1 < D) → Q (.ref D) { s with heap := h' }) :
    wpAny (model prog w) A (binaryOp .Add (.ref a) (.ref b)) Q E s := by
  refine kmk_add_lit F N ⟨_, (N _ ha).1, rfl, c1, rfl⟩ ⟨_, (N _ hb).1, rfl, c2, rfl⟩ (zs := its.toList ++ its2.toList) rfl (fun D h' F' N' l => ?_) (by simpa using hz)
  refine h D h' F' ?_ l
  have e : (its.toList ++ its2.toList).toArray = its ++ its2 := by
    rw [← Array.toList_append]
  rw [e] at N'
  exact N'
theorem cat_room {v : Value} {its : Array Value} (h : its.size ≤ 62) : (#[v] : Array Value).size + its.size ≤ sizeLine := Nat.le_trans (Nat.add_le_add_left h 1) (by decide)
theorem set_badT {w : World} {p : Program} {loose : List Str} {mean : ExcName → Option Value} {mg mb : Str → Option Value} {dp un : Nat} {gd : Option (List Code)} {cn : Str} {cs : Scope} {a : Addr} {ccd : Value} {cl : List (Str × Addr)} {outer : List Env} {A₀ : Around} {base h₀ : Heap} {L : Addr} {m : Str → Option Value} {s : Shared}
    {x dx : Addr} {es : Array DictEntry} {ep : Nat} {kvs : List (Str × Value)} {k : Str} {t : Tok} {od : Obj} {rest : List (Addr × Obj)} {Q E : Value → Shared → Prop} {mk dm : Addr} {t1 t2 t3 t4 t5 : Tok} {rl : Addr} {nm li nx : Value}
    (B : Below A₀ base outer h₀) (F : Fr h₀ L s.heap m) (X : (Mine.hd.heap_39 w.params).In h₀) (N : News h₀ L s.heap ((x, pmdO dx es ep) :: (dx, od) :: (mk, instObj 53 dm) :: (dm, dictOf (rfEs w.params t1 t2 t3 t4 t5 nm (.ref rl) li nx) 5) :: rest)) (T : Top p loose mean mg mb h₀) (hk : cs.kind = .function) (hd : dp + 20 < recursionLimit) (hu : un + 80 < cLine)
    (hne : @Ne Nat dx x) (hr : ∀ p ∈ rest, p.1 ≠ x) (lo : (x == sysModules) = false) (H : Ents w es kvs) (hz : kvs.length ≤ sizeLine)
    {v : Value} (hth : ThingOk v) (hv : valueAt kvs k = some v) (hkl : k.length ≤ 8)
    (hm1 : @Ne Nat mk x) (hm2 : @Ne Nat dm x) (hm3 : @Ne Nat dm dx) (hm4 : @Ne Nat dm mk) (hr2 : ∀ p ∈ rest, p.1 ≠ dm)
    (raise : ∀ e tt g h' tk ts, Fr h₀ L g m → g.UpToSlots h' → RaisedS base g (envX cn cs L a ccd cl :: outer) e (.ref 80) tt [.str (Str.empty ++ "Redefinition of " ++ k ++ ". Perhaps an earlier " ++ k ++ " is missing @_") ts] ((x, pmdO dx es ep) :: (dx, od) :: rest) h' → E (.ref e) { s with heap := h', toks := tk }) :
    wpAny (model PySem.Challenge.rw_bc6014_01.row.prog w) (ktrTop dp un gd cn cs L a ccd cl outer) (call (.ref 155) [.ref x, .str k t, (.ref mk)]) Q E s := by
  rcases hth with rfl | ⟨i0, ti0, rfl, _⟩
  · exact set_bad2 B F X N T hk hd hu hne hr lo H hz hv hkl hm1 hm2 hm3 hm4 hr2 raise
  · exact set_bad B F X N T hk hd hu hne hr lo H hz hv hkl hm1 hm2 hm3 hm4 hr2 raise
theorem bad_text (k : Str) : (Str.empty ++ Str.ofString "Redefinition of " ++ k ++ Str.ofString ". Perhaps an earlier " ++ k ++ Str.ofString " is missing @_" != Str.ofString "Redefinition of " ++ k ++ Str.ofString ". Perhaps an earlier " ++ k ++ Str.ofString " is missing @_") = false := by
  rw [show Str.empty ++ Str.ofString "Redefinition of " = Str.ofString "Redefinition of " from by decide +kernel]
  exact bne_self_eq_false _
theorem mid_bad {w : World} {i : Nat} {h₀ h' : Heap} {L : Addr} {s : Shared} {own R rest : List (Addr × Obj)} {m' : Str → Option Value} {tk : Nat} {x dx md df nx rw : Addr} {es : Array DictEntry} {ep : Nat} {kvs rws : List (Str × Value)} {od om orw : Obj} {defs nexts : Array Value} {cd' cn : Nat} {y : Addr × Obj}
    (ok : LawOk w i x dx md df nx rw es kvs om orw rws defs nexts rest) (sep : ∀ p ∈ (x, pmdO dx es ep) :: (dx, od) :: (md, om) :: (df, W.listOf defs cd') :: (nx, W.listOf nexts cn) :: (rw, orw) :: rest, ∀ q ∈ own, @Ne Nat p.1 q.1) (hR : R = rest ++ own)
    (F : Fr h₀ L h' m') (N : News h₀ L h' ((x, pmdO dx es ep) :: (dx, od) :: y :: (md, om) :: (df, W.listOf defs cd') :: (nx, W.listOf nexts cn) :: (rw, orw) :: R))
    (e1 : m' "attributes" = some (.ref x)) (e2 : m' "model" = some (.ref md)) (e3 : m' "defs" = some (.ref df)) (e4 : m' "nexts" = some (.ref nx)) (e5 : m' "rows" = some (.ref rw)) :
    TurnMid w i h₀ L s own x dx md df nx rw .next { s with heap := h', toks := tk } :=
  ⟨rfl, h', tk, m', es, ep, kvs, od, om, orw, rws, defs, cd', nexts, cn, rest, rfl, F, e1, e2, e3, e4, e5, fun p hp => N p (by
    rw [hR]
    simp only [List.mem_cons] at hp ⊢
    rcases hp with h | h | h | h | h | h | h <;> simp only [h, true_or, or_true]), fun p hp => sep p (.tail _ (.tail _ (.tail _ (.tail _ (.tail _ (.tail _ hp)))))), ok.next⟩
end Mine
/-! InnNew -/
namespace Mine
local macro_rules | `(tactic| k_mem) => `(tactic| focus ((repeat (first | exact List.Mem.head _ | assumption | refine List.mem_cons_of_mem _ ?_)); done))
local macro_rules | `(tactic| k_room) => `(tactic| first | assumption | ((try dsimp only [Around.deeper, ktrTop, Around.mark, callerA]); omega) | ktr_room)
local macro_rules | `(tactic| ks_enter) => `(tactic| (refine' ks_code_super ?k1 ?k2 ?k3 ?k4 ?k5 ?kA ?kF ?kK ?k6 ?k7 ?k8 ?k9 ?kB ?_ ?c1 ?c2 ?c3 ?c4; (case kA => exact rfl); (case kF => exact rfl); (case kK => first | exact rfl | assumption); (case k1 => k_asm); (case k2 => k_asm); (case k3 => k_asm); (case k4 => k_asm); (case k5 => k_asm); (case k6 => k_is); (case k7 => k_is); (case k8 => k_room); (case k9 => exact BindsTo.of_eq rfl); (case kB => exact locs rfl); (case c1 => decide); (case c2 => exact rfl); (case c3 => exact rfl); (case c4 => exact rfl); intro g' L' h' FG' F' N' B' X' T' l1; (try k_lt l1); (try dsimp only); (try k_lift B')))
local macro_rules | `(tactic| k_units) => `(tactic| first | assumption | ((try dsimp only [Around.deeper, ktrTop, Around.mark, callerA]); have hcL9 := cLine_is; omega) | ktr_units)
local macro_rules | `(tactic| k_all) => `(tactic| assumption)
local macro_rules | `(tactic| k_inst) => `(tactic| (refine' pm_inst ?N ?h1 ?h2; (case N => k_asm); (case h1 => k_mem); (case h2 => k_mem)))
local macro_rules | `(tactic| walk_at "compareOp NotIn str ref") => `(tactic| (k_here; k_dflt (refine' pm_notin_some ?X ?F ?N ?h1 ?h2 ?hm ?hc ?lo ?H ?hv ?_; (case X => k_asm); (case F => k_asm); (case N => k_asm); (case h1 => k_mem); (case h2 => k_mem); (case hm => k_is); (case hc => k_is); (case lo => k_asm); (case H => k_asm); (case hv => k_asm))))
local macro_rules | `(tactic| walk_at "compareOp NotIn str ref") => `(tactic| (k_here; k_dflt (refine' pm_notin_none ?X ?F ?N ?h1 ?h2 ?hm ?hc ?lo ?H ?hv ?_; (case X => k_asm); (case F => k_asm); (case N => k_asm); (case h1 => k_mem); (case h2 => k_mem); (case hm => k_is); (case hc => k_is); (case lo => k_asm); (case H => k_asm); (case hv => k_asm))))
local macro_rules | `(tactic| walk_at "compareOp In str ref") => `(tactic| (k_here; k_dflt (refine' pm_in_some ?X ?F ?N ?h1 ?h2 ?hm ?hc ?lo ?H ?hv ?_; (case X => k_asm); (case F => k_asm); (case N => k_asm); (case h1 => k_mem); (case h2 => k_mem); (case hm => k_is); (case hc => k_is); (case lo => k_asm); (case H => k_asm); (case hv => k_asm))))
local macro_rules | `(tactic| walk_at "compareOp In str ref") => `(tactic| (k_here; k_dflt (refine' pm_in_none ?X ?F ?N ?h1 ?h2 ?hm ?hc ?lo ?H ?hv ?_; (case X => k_asm); (case F => k_asm); (case N => k_asm); (case h1 => k_mem); (case h2 => k_mem); (case hm => k_is); (case hc => k_is); (case lo => k_asm); (case H => k_asm); (case hv => k_asm))))
local macro_rules | `(tactic| walk_at "getMethod ref") => `(tactic| (k_here; (with_reducible show wpAny _ _ (getMethod _ (Str.ofString "__getitem__") _) _ _ _); k_dflt (refine' pm_method_get ?F ?X ?N ?h1 ?h2 ?h3 ?ho ?ok ?hm ?_; (case F => k_asm); (case X => k_asm); (case N => k_asm); (case h1 => k_mem); (case h2 => k_mem); (case h3 => k_mem); (case ho => k_is); (case ok => kernel_rfl); (case hm => kernel_rfl); intro q' h' F' N' l1; (try k_lt l1))))
local macro_rules | `(tactic| walk_at "getMethod ref") => `(tactic| (k_here; (with_reducible show wpAny _ _ (getMethod _ (Str.ofString "__setitem__") _) _ _ _); k_dflt (refine' pm_method_set ?F ?X ?N ?h1 ?h2 ?h3 ?ho ?ok ?hm ?_; (case F => k_asm); (case X => k_asm); (case N => k_asm); (case h1 => k_mem); (case h2 => k_mem); (case h3 => k_mem); (case ho => k_is); (case ok => kernel_rfl); (case hm => kernel_rfl); intro q' h' F' N' l1; (try k_lt l1))))
local macro_rules | `(tactic| walk_at "callWith ref") => `(tactic| (k_here; k_dflt (refine' callWith_B ?N ?hq ?hT ?_; (case N => k_asm); (case hq => k_mem); (case hT => first | exact .inl rfl | exact .inr rfl); k_whole)))
local macro_rules | `(tactic| walk_at "And") => `(tactic| ((with_reducible show BndP _ _ _ _ _ ∧ _); refine ⟨bndP (by k_asm) (by k_mem), ?_⟩; try dsimp only [List.nil_append, List.cons_append]))
local macro_rules | `(tactic| walk_at "call ref") => `(tactic| (k_here; (with_reducible show wpAny _ _ (call _ [Value.str _ _]) _ _ _); k_dflt (refine' pm_call_get ?X ?F ?N ?hq ?hx ?hdx ?hcd ?hmod ?hty ?H ?hv ?_; (case X => k_asm); (case F => k_asm); (case N => k_asm); (case hq => k_mem); (case hx => k_mem); (case hdx => k_mem); (case hcd => kernel_rfl); (case hmod => k_is); (case hty => k_is); (case H => k_asm); (case hv => k_asm))))
local macro_rules | `(tactic| walk_at "call ref") => `(tactic| (k_here; (with_reducible show wpAny _ _ (call _ [Value.str _ _, _]) _ _ _); k_dflt (refine' pm_call_set ?X ?F ?N ?hq ?hx ?hdx ?U ?ho ?H ?hsz ?_; (case X => k_asm); (case F => k_asm); (case N => k_asm); (case hq => k_mem); (case hx => k_mem); (case hdx => k_mem); (case U => k_updF); (case ho => k_is); (case H => k_asm); (case hsz => k_asm); intro es' ep' h' F' N' H'; (try dsimp only at N'))))
local macro_rules | `(tactic| walk_at "wpAt") => `(tactic| (ks_step "eval Call"; with_unfolding_all refine ks_wpAt_MethodCall ?_))
local macro_rules | `(tactic| walk_at "BndP") => `(tactic| (k_dflt (refine' bndP ?N ?hq; (case N => k_asm); (case hq => k_mem))))
local macro_rules | `(tactic| walk_at "wpAt") => `(tactic| (dsimp only; ks_step "execs cons"; refine ks_wpAt_execs_cons ?_))
local macro_rules | `(tactic| walk_at "wpAt") => `(tactic| (ks_step "exec Expr"; with_unfolding_all refine ks_wpAt_Expr_any ?_))
local macro_rules | `(tactic| walk_at "call builtin:callable") => `(tactic| (k_here; k_dflt (first
  | ((with_reducible show wpAny _ _ (call _ [Value.int _ _]) _ _ _); refine callable_int ?_)
  | (refine' callable_K ?X ?F ?e ?_; (case X => k_asm); (case F => k_asm); (case e => k_is))
  | (refine' callable_inst ?X ?F ?I ?e ?_; (case X => k_asm); (case F => k_asm); (case I => k_inst); (case e => k_is)))))
local macro_rules | `(tactic| walk_at "call builtin:hasattr") => `(tactic| (k_here; k_dflt (first
  | ((with_reducible show wpAny _ _ (call _ [Value.int _ _, _]) _ _ _); refine ha_intK (by exact rfl) (by k_asm) (by k_asm) ?_; intro h' tk' F' N')
  | (refine' ha_fnK ?hA ?X ?F ?N ?e ?_; (case hA => exact rfl); (case X => k_asm); (case F => k_asm); (case N => k_asm); (case e => k_is); intro h' tk' F' N')
  | (refine' ha_instK ?X ?F ?I ?hg ?hm ?hh ?ha ?hn ?hl ?hv ?_; (case X => k_asm); (case F => k_asm); (case I => k_inst); (case hg => k_is); (case hm => k_is); (case hh => k_is); (case ha => k_is); (case hn => k_is); (case hl => k_get); (case hv => k_handed)))))
local macro_rules | `(tactic| walk_at "call builtin:getattr") => `(tactic| (k_here; k_dflt (refine' getattr3_K ?X ?F ?I ?hg ?hm ?hh ?hs ?ha ?hn ?hl ?hv ?_; (case X => k_asm); (case F => k_asm); (case I => k_inst); (case hg => k_is); (case hm => k_is); (case hh => k_is); (case hs => decide +kernel); (case ha => k_is); (case hn => k_is); (case hl => k_get); (case hv => k_handed))))
local macro_rules | `(tactic| walk_at "call builtin:len") => `(tactic| (k_here; k_dflt (refine' kda_len (knd := PySem.strKind _ _) ?N ?hp ?hd ?lo ?hz ?_; (case N => k_asm); (case hp => k_mem); (case hd => k_asm); (case lo => k_asm); (case hz => exact le_len (by assumption)))))
local macro_rules | `(tactic| walk_at "compareOp In str ref") => `(tactic| (k_here; k_dflt (refine' kda_in (knd := PySem.strKind _ _) ?N ?hp ?hd ?lo (strKind_is _ _ _ _) true ?hb ?_; (case N => k_asm); (case hp => k_mem); (case hd => k_asm); (case lo => k_asm); (case hb => exact (congrArg Option.isSome (by with_reducible assumption : valueAt _ _ = some _)).trans rfl))))
local macro_rules | `(tactic| walk_at "compareOp In str ref") => `(tactic| (k_here; k_dflt (refine' kda_in (knd := PySem.strKind _ _) ?N ?hp ?hd ?lo (strKind_is _ _ _ _) false ?hb ?_; (case N => k_asm); (case hp => k_mem); (case hd => k_asm); (case lo => k_asm); (case hb => exact (congrArg Option.isSome (by with_reducible assumption : valueAt _ _ = none)).trans rfl))))
local macro_rules | `(tactic| walk_at "compareOp NotIn str ref") => `(tactic| (k_here; k_dflt (refine' kdg_notin (knd := PySem.strKind _ _) ?N ?hp ?hd ?lo (strKind_is _ _ _ _) true ?hb ?_; (case N => k_asm); (case hp => k_mem); (case hd => k_asm); (case lo => k_asm); (case hb => exact (congrArg Option.isSome (by with_reducible assumption : valueAt _ _ = some _)).trans rfl))))
local macro_rules | `(tactic| walk_at "compareOp NotIn str ref") => `(tactic| (k_here; k_dflt (refine' kdg_notin (knd := PySem.strKind _ _) ?N ?hp ?hd ?lo (strKind_is _ _ _ _) false ?hb ?_; (case N => k_asm); (case hp => k_mem); (case hd => k_asm); (case lo => k_asm); (case hb => exact (congrArg Option.isSome (by with_reducible assumption : valueAt _ _ = none)).trans rfl))))
local macro_rules | `(tactic| walk_at "subscriptTail") => `(tactic| (k_here; (with_reducible show wpAny _ _ (subscriptTail _ _ (Value.ref _) (Value.str _ _)) _ _ _); k_dflt (refine' kda_item (knd := PySem.strKind _ _) ?N ?hp ?hd (strKind_is _ _ _ _) ?hl ?_; (case N => k_asm); (case hp => k_mem); (case hd => k_asm); (case hl => k_asm))))
local macro_rules | `(tactic| walk_at "setItem ref str") => `(tactic| (k_here; k_dflt (refine' kda_set (knd := PySem.strKind _ _) ?F ?N ?U ?d (strKind_is _ _ _ _) ?z ?_; (case F => k_asm); (case N => k_asm); (case U => k_updF); (case d => k_asm); (case z => exact le_size (by assumption))); intro h' o' F' N' hd'; (try dsimp only at N')))
local macro_rules | `(tactic| walk_at "call builtin:dict.pop") => `(tactic| (k_here; k_dflt (refine' kob_pop (knd := PySem.strKind _ _) (more := []) ?F ?N ?U ?d (strKind_is _ _ _ _) (.inl rfl) (by rfl) (PySem.F.args_dict_pop_2 _ _) ?l ?z ?_; (case F => k_asm); (case N => k_asm); (case U => k_updF); (case d => k_asm); (case l => k_asm); (case z => exact le_size (by assumption))); intro h' o' F' N' hd'; (try dsimp only at N')))
local macro_rules | `(tactic| walk_at "subscriptTail") => `(tactic| (k_here; (with_reducible show wpAny _ _ (subscriptTail _ _ (Value.ref _) (Value.int _ _)) _ _ _); k_dflt (refine' item_key ?N ?hm ?h0 ?h8 ?_ ?hs; (case N => k_asm); (case hm => k_mem); (case h0 => exact fm0 _); (case h8 => exact fm8 _); (case hs => with_unfolding_all rfl)); intro k' t' hk8'; (try dsimp only)))
local macro_rules | `(tactic| k_room) => `(tactic| first | assumption | decide | ((try dsimp only [Around.deeper, ktrTop, Around.mark, callerA]); omega) | ktr_room)
local macro_rules | `(tactic| k_units) => `(tactic| first | assumption | ((try dsimp only [Around.deeper, ktrTop, Around.mark, callerA]); have hcL9 := cLine_is; omega) | ktr_units)
local macro_rules | `(tactic| walk_at "call builtin:len") => `(tactic| (k_here; k_dflt (refine' len_led ?N ?hm ?hz ?_; (case N => k_asm); (case hm => k_mem); (case hz => assumption)); (try dsimp only)))
set_option maxHeartbeats 16000000 in
theorem inn_new {w : World} {p : Program} {loose : List Str} {mean : ExcName → Option Value} {mg mb : Str → Option Value} {fa : Addr} {cd : Value} {h₀ : Heap} {L : Addr} {m₁ : Str → Option Value} {s : Shared} {i : Nat} {n kd : Int} {t tkd tk8 : Tok} {k : Str} {own R rest : List (Addr × Obj)} {Q1 : Value → Unit → Shared → Prop} {E1 : Value → Shared → Prop}
    {x dx md df nx rw : Addr} {es : Array DictEntry} {ep : Nat} {kvs : List (Str × Value)} {od om orw : Obj} {rws : List (Str × Value)} {defs : Array Value} {cd' : Nat} {nexts : Array Value} {cn : Nat}
    {f d rl : Addr} {t1 t2 t3 t4 t5 tl tr : Tok}
    (B : Below callerA h₀ [] h₀) (F : Fr h₀ L s.heap (fun y => if y = "made" then some (.ref f) else if y = "kind" then some (.int kd tkd) else if y = "key" then some (.str k tk8) else if y = "number" then some (.int n t) else if y = "attributes" then some (.ref x) else if y = "model" then some (.ref md) else if y = "defs" then some (.ref df) else if y = "nexts" then some (.ref nx) else if y = "rows" then some (.ref rw) else m₁ y))
    (X : (Mine.hd.heap_39 w.params).In h₀) (N : News h₀ L s.heap ((f, instObj 53 d) :: (d, dictOf (rfEs w.params t1 t2 t3 t4 t5 (.str k tk8) (.ref rl) (.int (10 + (defs.size : Int)) tl) .none) 5) :: (rl, W.listOf #[.str (xN defs.size) tr] 0) :: (x, pmdO dx es ep) :: (dx, od) :: (md, om) :: (df, W.listOf defs cd') :: (nx, W.listOf nexts cn) :: (rw, orw) :: R)) (T : Top p loose mean mg mb h₀)
    (hR : R = rest ++ own) (ok : LawOk w i x dx md df nx rw es kvs om orw rws defs nexts rest) (off : ∀ p ∈ R, @Ne Nat p.1 x ∧ @Ne Nat p.1 dx ∧ @Ne Nat p.1 md ∧ @Ne Nat p.1 df ∧ @Ne Nat p.1 nx ∧ @Ne Nat p.1 rw) (sep : ∀ p ∈ (x, pmdO dx es ep) :: (dx, od) :: (md, om) :: (df, W.listOf defs cd') :: (nx, W.listOf nexts cn) :: (rw, orw) :: rest, ∀ q ∈ own, @Ne Nat p.1 q.1) (hi : i < 62) (hk8 : k ∈ keys8) (hkd : kd < 3) (hkd0 : 0 ≤ kd) (l1 : ∀ p ∈ (x, pmdO dx es ep) :: (dx, od) :: (md, om) :: (df, W.listOf defs cd') :: (nx, W.listOf nexts cn) :: (rw, orw) :: R, p.1 < d) (l2 : @LT.lt Nat _ d f) (l3 : @LT.lt Nat _ f rl) (hkv : valueAt kvs k = none) :
    wpAny (model PySem.Challenge.rw_bc6014_01.row.prog w) (callerA.deeper (envOf "law" lawScope L fa cd)) (execs lawInner (envOf "law" lawScope L fa cd)) (TurnMid w i h₀ L s own x dx md df nx rw)
      (fun e s' => wpAny (model PySem.Challenge.rw_bc6014_01.row.prog w) (callerA.deeper (envOf "law" lawScope L fa cd)) (leaving (envOf "law" lawScope L fa cd) e) (fun u s'' => Q1 e u s'') E1 s') s := by
  conv in lawInner => whnf
  conv in (occs := *) lawScope => all_goals whnf
  w_top off; revert X; k_fill; intro X
  have l1o := l1
  (try k_lt l1)
  obtain ⟨c1, c2⟩ := ok.a2
  obtain ⟨c3, c4, c5⟩ := ok.a3
  obtain ⟨c6, c7, c8, c9⟩ := ok.a4
  obtain ⟨c10, c11, c12, c13, c14⟩ := ok.a5
  have c0 := ok.a1
  have o1 : ∀ p ∈ R, p.1 ≠ x := fun p hp => (off p hp).1
  have o2 : ∀ p ∈ R, p.1 ≠ dx := fun p hp => (off p hp).2.1
  have o3 : ∀ p ∈ R, p.1 ≠ md := fun p hp => (off p hp).2.2.1
  have o4 : ∀ p ∈ R, p.1 ≠ df := fun p hp => (off p hp).2.2.2.1
  have o5 : ∀ p ∈ R, p.1 ≠ nx := fun p hp => (off p hp).2.2.2.2.1
  have o6 : ∀ p ∈ R, p.1 ≠ rw := fun p hp => (off p hp).2.2.2.2.2
  have kl := ok.klen
  have rlen := ok.rlen
  have im := ok.model
  have ir := ok.rows
  have lm := ok.lom
  have lr := ok.lor
  have dz : defs.size ≤ 62 := Nat.le_trans ok.dlen (Nat.le_of_lt hi)
  have nz : nexts.size ≤ 62 := by rw [ok.nlen]; exact dz
  have hkr : valueAt rws k = none := ok.rsub k hkv
  have dz1 : (defs.push (Value.ref f)).size ≤ 62 := by rw [Array.size_push]; exact Nat.lt_of_le_of_lt ok.dlen hi
  repeat' ((fail_if_success (with_reducible show wpAny _ _ (call (Value.ref _) _) _ _ _)); first | (k_unfold; (try dsimp only)) | walk1 | (dsimp only; walk1))
  rename (Fr _ _ _ _) => F9
  rename (News _ _ _ _) => N9
  refine set_new B F9 X (news_x3 N9) T rfl (by k_room) (by k_units) c0 ?ho ok.lox ok.ents (le_size kl) hkv (fun es' ep' h' tk F' N' H' => ?_)
  case ho =>
    intro p hp
    simp only [List.mem_cons] at hp
    rcases hp with h | h | h | h | h | h | h | h
    · rw [h]; exact (show @Ne Nat f x by omega)
    · rw [h]; exact (show @Ne Nat d x by omega)
    · rw [h]; exact (show @Ne Nat _ x by omega)
    · rw [h]; exact c1
    · rw [h]; exact c3
    · rw [h]; exact c6
    · rw [h]; exact c10
    · exact o1 p h
  clear F9 N9
  repeat' ((fail_if_success (with_reducible show wpAny _ _ (call (Value.ref _) _) _ _ _)); first | (k_unfold; (try dsimp only)) | walk1 | (dsimp only; walk1))
  rename (Fr _ _ _ _) => F7
  rename (News _ _ _ _) => N7
  rename (Obj.IsDictOf _ _ (stored kvs _ _)) => hm7
  rename (Obj.IsDictOf _ _ (stored rws _ _)) => hr7
  rw [xN_push] at N7
  refine mid_put ok hk8 sep hi hR l1o l2 l3 ?_ ?_ F7 (news_new N7) rfl rfl rfl rfl rfl H' hm7 hr7 (.inl rfl) (ns := []) (its := []) rfl rfl trivial (Nat.zero_le _)
  · omega
  · omega
end Mine
/-! InnOver -/
namespace Mine
local macro_rules | `(tactic| k_mem) => `(tactic| focus ((repeat (first | exact List.Mem.head _ | assumption | refine List.mem_cons_of_mem _ ?_)); done))
local macro_rules | `(tactic| k_room) => `(tactic| first | assumption | ((try dsimp only [Around.deeper, ktrTop, Around.mark, callerA]); omega) | ktr_room)
local macro_rules | `(tactic| ks_enter) => `(tactic| (refine' ks_code_super ?k1 ?k2 ?k3 ?k4 ?k5 ?kA ?kF ?kK ?k6 ?k7 ?k8 ?k9 ?kB ?_ ?c1 ?c2 ?c3 ?c4; (case kA => exact rfl); (case kF => exact rfl); (case kK => first | exact rfl | assumption); (case k1 => k_asm); (case k2 => k_asm); (case k3 => k_asm); (case k4 => k_asm); (case k5 => k_asm); (case k6 => k_is); (case k7 => k_is); (case k8 => k_room); (case k9 => exact BindsTo.of_eq rfl); (case kB => exact locs rfl); (case c1 => decide); (case c2 => exact rfl); (case c3 => exact rfl); (case c4 => exact rfl); intro g' L' h' FG' F' N' B' X' T' l1; (try k_lt l1); (try dsimp only); (try k_lift B')))
local macro_rules | `(tactic| k_units) => `(tactic| first | assumption | ((try dsimp only [Around.deeper, ktrTop, Around.mark, callerA]); have hcL9 := cLine_is; omega) | ktr_units)
local macro_rules | `(tactic| k_all) => `(tactic| assumption)
local macro_rules | `(tactic| k_inst) => `(tactic| (refine' pm_inst ?N ?h1 ?h2; (case N => k_asm); (case h1 => k_mem); (case h2 => k_mem)))
local macro_rules | `(tactic| walk_at "compareOp NotIn str ref") => `(tactic| (k_here; k_dflt (refine' pm_notin_some ?X ?F ?N ?h1 ?h2 ?hm ?hc ?lo ?H ?hv ?_; (case X => k_asm); (case F => k_asm); (case N => k_asm); (case h1 => k_mem); (case h2 => k_mem); (case hm => k_is); (case hc => k_is); (case lo => k_asm); (case H => k_asm); (case hv => k_asm))))
local macro_rules | `(tactic| walk_at "compareOp NotIn str ref") => `(tactic| (k_here; k_dflt (refine' pm_notin_none ?X ?F ?N ?h1 ?h2 ?hm ?hc ?lo ?H ?hv ?_; (case X => k_asm); (case F => k_asm); (case N => k_asm); (case h1 => k_mem); (case h2 => k_mem); (case hm => k_is); (case hc => k_is); (case lo => k_asm); (case H => k_asm); (case hv => k_asm))))
local macro_rules | `(tactic| walk_at "compareOp In str ref") => `(tactic| (k_here; k_dflt (refine' pm_in_some ?X ?F ?N ?h1 ?h2 ?hm ?hc ?lo ?H ?hv ?_; (case X => k_asm); (case F => k_asm); (case N => k_asm); (case h1 => k_mem); (case h2 => k_mem); (case hm => k_is); (case hc => k_is); (case lo => k_asm); (case H => k_asm); (case hv => k_asm))))
local macro_rules | `(tactic| walk_at "compareOp In str ref") => `(tactic| (k_here; k_dflt (refine' pm_in_none ?X ?F ?N ?h1 ?h2 ?hm ?hc ?lo ?H ?hv ?_; (case X => k_asm); (case F => k_asm); (case N => k_asm); (case h1 => k_mem); (case h2 => k_mem); (case hm => k_is); (case hc => k_is); (case lo => k_asm); (case H => k_asm); (case hv => k_asm))))
local macro_rules | `(tactic| walk_at "getMethod ref") => `(tactic| (k_here; (with_reducible show wpAny _ _ (getMethod _ (Str.ofString "__getitem__") _) _ _ _); k_dflt (refine' pm_method_get ?F ?X ?N ?h1 ?h2 ?h3 ?ho ?ok ?hm ?_; (case F => k_asm); (case X => k_asm); (case N => k_asm); (case h1 => k_mem); (case h2 => k_mem); (case h3 => k_mem); (case ho => k_is); (case ok => kernel_rfl); (case hm => kernel_rfl); intro q' h' F' N' l1; (try k_lt l1))))
local macro_rules | `(tactic| walk_at "getMethod ref") => `(tactic| (k_here; (with_reducible show wpAny _ _ (getMethod _ (Str.ofString "__setitem__") _) _ _ _); k_dflt (refine' pm_method_set ?F ?X ?N ?h1 ?h2 ?h3 ?ho ?ok ?hm ?_; (case F => k_asm); (case X => k_asm); (case N => k_asm); (case h1 => k_mem); (case h2 => k_mem); (case h3 => k_mem); (case ho => k_is); (case ok => kernel_rfl); (case hm => kernel_rfl); intro q' h' F' N' l1; (try k_lt l1))))
local macro_rules | `(tactic| walk_at "callWith ref") => `(tactic| (k_here; k_dflt (refine' callWith_B ?N ?hq ?hT ?_; (case N => k_asm); (case hq => k_mem); (case hT => first | exact .inl rfl | exact .inr rfl); k_whole)))
local macro_rules | `(tactic| walk_at "And") => `(tactic| ((with_reducible show BndP _ _ _ _ _ ∧ _); refine ⟨bndP (by k_asm) (by k_mem), ?_⟩; try dsimp only [List.nil_append, List.cons_append]))
local macro_rules | `(tactic| walk_at "call ref") => `(tactic| (k_here; (with_reducible show wpAny _ _ (call _ [Value.str _ _]) _ _ _); k_dflt (refine' pm_call_get ?X ?F ?N ?hq ?hx ?hdx ?hcd ?hmod ?hty ?H ?hv ?_; (case X => k_asm); (case F => k_asm); (case N => k_asm); (case hq => k_mem); (case hx => k_mem); (case hdx => k_mem); (case hcd => kernel_rfl); (case hmod => k_is); (case hty => k_is); (case H => k_asm); (case hv => k_asm))))
local macro_rules | `(tactic| walk_at "call ref") => `(tactic| (k_here; (with_reducible show wpAny _ _ (call _ [Value.str _ _, _]) _ _ _); k_dflt (refine' pm_call_set ?X ?F ?N ?hq ?hx ?hdx ?U ?ho ?H ?hsz ?_; (case X => k_asm); (case F => k_asm); (case N => k_asm); (case hq => k_mem); (case hx => k_mem); (case hdx => k_mem); (case U => k_updF); (case ho => k_is); (case H => k_asm); (case hsz => k_asm); intro es' ep' h' F' N' H'; (try dsimp only at N'))))
local macro_rules | `(tactic| walk_at "wpAt") => `(tactic| (ks_step "eval Call"; with_unfolding_all refine ks_wpAt_MethodCall ?_))
local macro_rules | `(tactic| walk_at "BndP") => `(tactic| (k_dflt (refine' bndP ?N ?hq; (case N => k_asm); (case hq => k_mem))))
local macro_rules | `(tactic| walk_at "wpAt") => `(tactic| (dsimp only; ks_step "execs cons"; refine ks_wpAt_execs_cons ?_))
local macro_rules | `(tactic| walk_at "wpAt") => `(tactic| (ks_step "exec Expr"; with_unfolding_all refine ks_wpAt_Expr_any ?_))
local macro_rules | `(tactic| walk_at "call builtin:callable") => `(tactic| (k_here; k_dflt (first
  | ((with_reducible show wpAny _ _ (call _ [Value.int _ _]) _ _ _); refine callable_int ?_)
  | (refine' callable_K ?X ?F ?e ?_; (case X => k_asm); (case F => k_asm); (case e => k_is))
  | (refine' callable_inst ?X ?F ?I ?e ?_; (case X => k_asm); (case F => k_asm); (case I => k_inst); (case e => k_is)))))
local macro_rules | `(tactic| walk_at "call builtin:hasattr") => `(tactic| (k_here; k_dflt (first
  | ((with_reducible show wpAny _ _ (call _ [Value.int _ _, _]) _ _ _); refine ha_intK (by exact rfl) (by k_asm) (by k_asm) ?_; intro h' tk' F' N')
  | (refine' ha_fnK ?hA ?X ?F ?N ?e ?_; (case hA => exact rfl); (case X => k_asm); (case F => k_asm); (case N => k_asm); (case e => k_is); intro h' tk' F' N')
  | (refine' ha_instK ?X ?F ?I ?hg ?hm ?hh ?ha ?hn ?hl ?hv ?_; (case X => k_asm); (case F => k_asm); (case I => k_inst); (case hg => k_is); (case hm => k_is); (case hh => k_is); (case ha => k_is); (case hn => k_is); (case hl => k_get); (case hv => k_handed)))))
local macro_rules | `(tactic| walk_at "call builtin:getattr") => `(tactic| (k_here; k_dflt (refine' getattr3_K ?X ?F ?I ?hg ?hm ?hh ?hs ?ha ?hn ?hl ?hv ?_; (case X => k_asm); (case F => k_asm); (case I => k_inst); (case hg => k_is); (case hm => k_is); (case hh => k_is); (case hs => decide +kernel); (case ha => k_is); (case hn => k_is); (case hl => k_get); (case hv => k_handed))))
local macro_rules | `(tactic| walk_at "call builtin:len") => `(tactic| (k_here; k_dflt (refine' kda_len (knd := PySem.strKind _ _) ?N ?hp ?hd ?lo ?hz ?_; (case N => k_asm); (case hp => k_mem); (case hd => k_asm); (case lo => k_asm); (case hz => exact le_len (by assumption)))))
local macro_rules | `(tactic| walk_at "compareOp In str ref") => `(tactic| (k_here; k_dflt (refine' kda_in (knd := PySem.strKind _ _) ?N ?hp ?hd ?lo (strKind_is _ _ _ _) true ?hb ?_; (case N => k_asm); (case hp => k_mem); (case hd => k_asm); (case lo => k_asm); (case hb => exact (congrArg Option.isSome (by with_reducible assumption : valueAt _ _ = some _)).trans rfl))))
local macro_rules | `(tactic| walk_at "compareOp In str ref") => `(tactic| (k_here; k_dflt (refine' kda_in (knd := PySem.strKind _ _) ?N ?hp ?hd ?lo (strKind_is _ _ _ _) false ?hb ?_; (case N => k_asm); (case hp => k_mem); (case hd => k_asm); (case lo => k_asm); (case hb => exact (congrArg Option.isSome (by with_reducible assumption : valueAt _ _ = none)).trans rfl))))
local macro_rules | `(tactic| walk_at "compareOp NotIn str ref") => `(tactic| (k_here; k_dflt (refine' kdg_notin (knd := PySem.strKind _ _) ?N ?hp ?hd ?lo (strKind_is _ _ _ _) true ?hb ?_; (case N => k_asm); (case hp => k_mem); (case hd => k_asm); (case lo => k_asm); (case hb => exact (congrArg Option.isSome (by with_reducible assumption : valueAt _ _ = some _)).trans rfl))))
local macro_rules | `(tactic| walk_at "compareOp NotIn str ref") => `(tactic| (k_here; k_dflt (refine' kdg_notin (knd := PySem.strKind _ _) ?N ?hp ?hd ?lo (strKind_is _ _ _ _) false ?hb ?_; (case N => k_asm); (case hp => k_mem); (case hd => k_asm); (case lo => k_asm); (case hb => exact (congrArg Option.isSome (by with_reducible assumption : valueAt _ _ = none)).trans rfl))))
local macro_rules | `(tactic| walk_at "subscriptTail") => `(tactic| (k_here; (with_reducible show wpAny _ _ (subscriptTail _ _ (Value.ref _) (Value.str _ _)) _ _ _); k_dflt (refine' kda_item (knd := PySem.strKind _ _) ?N ?hp ?hd (strKind_is _ _ _ _) ?hl ?_; (case N => k_asm); (case hp => k_mem); (case hd => k_asm); (case hl => k_asm))))
local macro_rules | `(tactic| walk_at "setItem ref str") => `(tactic| (k_here; k_dflt (refine' kda_set (knd := PySem.strKind _ _) ?F ?N ?U ?d (strKind_is _ _ _ _) ?z ?_; (case F => k_asm); (case N => k_asm); (case U => k_updF); (case d => k_asm); (case z => exact le_size (by assumption))); intro h' o' F' N' hd'; (try dsimp only at N')))
local macro_rules | `(tactic| walk_at "call builtin:dict.pop") => `(tactic| (k_here; k_dflt (refine' kob_pop (knd := PySem.strKind _ _) (more := []) ?F ?N ?U ?d (strKind_is _ _ _ _) (.inl rfl) (by rfl) (PySem.F.args_dict_pop_2 _ _) ?l ?z ?_; (case F => k_asm); (case N => k_asm); (case U => k_updF); (case d => k_asm); (case l => k_asm); (case z => exact le_size (by assumption))); intro h' o' F' N' hd'; (try dsimp only at N')))
local macro_rules | `(tactic| walk_at "subscriptTail") => `(tactic| (k_here; (with_reducible show wpAny _ _ (subscriptTail _ _ (Value.ref _) (Value.int _ _)) _ _ _); k_dflt (refine' item_key ?N ?hm ?h0 ?h8 ?_ ?hs; (case N => k_asm); (case hm => k_mem); (case h0 => exact fm0 _); (case h8 => exact fm8 _); (case hs => with_unfolding_all rfl)); intro k' t' hk8'; (try dsimp only)))
local macro_rules | `(tactic| k_room) => `(tactic| first | assumption | decide | ((try dsimp only [Around.deeper, ktrTop, Around.mark, callerA]); omega) | ktr_room)
local macro_rules | `(tactic| k_units) => `(tactic| first | assumption | ((try dsimp only [Around.deeper, ktrTop, Around.mark, callerA]); have hcL9 := cLine_is; omega) | ktr_units)
local macro_rules | `(tactic| walk_at "call builtin:len") => `(tactic| (k_here; k_dflt (refine' len_led ?N ?hm ?hz ?_; (case N => k_asm); (case hm => k_mem); (case hz => assumption)); (try dsimp only)))
local macro_rules | `(tactic| walk_at "binaryOp Add ref ref") => `(tactic| (k_here; (with_reducible show wpAny _ _ (binaryOp _ (Value.ref _) (Value.ref _)) _ _ _); k_dflt (refine' cat_led ?F ?N ?a ?b ?z ?_; (case F => k_asm); (case N => k_asm); (case a => k_mem); (case b => k_mem); (case z => exact cat_room (by assumption))); intro D' h' F' N' l1; (try k_lt l1)))
set_option maxHeartbeats 16000000 in
theorem inn_over {w : World} {p : Program} {loose : List Str} {mean : ExcName → Option Value} {mg mb : Str → Option Value} {fa : Addr} {cd : Value} {h₀ : Heap} {L : Addr} {m₁ : Str → Option Value} {s : Shared} {i : Nat} {n kd : Int} {t tkd tk8 : Tok} {k : Str} {own R rest : List (Addr × Obj)} {Q1 : Value → Unit → Shared → Prop} {E1 : Value → Shared → Prop}
    {x dx md df nx rw : Addr} {es : Array DictEntry} {ep : Nat} {kvs : List (Str × Value)} {od om orw : Obj} {rws : List (Str × Value)} {defs : Array Value} {cd' : Nat} {nexts : Array Value} {cn : Nat}
    {f d rl : Addr} {t1 t2 t3 t4 t5 tl tr : Tok}
    (B : Below callerA h₀ [] h₀) (F : Fr h₀ L s.heap (fun y => if y = "made" then some (.ref f) else if y = "kind" then some (.int kd tkd) else if y = "key" then some (.str k tk8) else if y = "number" then some (.int n t) else if y = "attributes" then some (.ref x) else if y = "model" then some (.ref md) else if y = "defs" then some (.ref df) else if y = "nexts" then some (.ref nx) else if y = "rows" then some (.ref rw) else m₁ y))
    (X : (Mine.hd.heap_39 w.params).In h₀) (N : News h₀ L s.heap ((f, instObj 53 d) :: (d, dictOf (rfEs w.params t1 t2 t3 t4 t5 (.str k tk8) (.ref rl) (.int (10 + (defs.size : Int)) tl) .none) 5) :: (rl, W.listOf #[.str (xN defs.size) tr] 0) :: (x, pmdO dx es ep) :: (dx, od) :: (md, om) :: (df, W.listOf defs cd') :: (nx, W.listOf nexts cn) :: (rw, orw) :: R)) (T : Top p loose mean mg mb h₀)
    (hR : R = rest ++ own) (ok : LawOk w i x dx md df nx rw es kvs om orw rws defs nexts rest) (off : ∀ p ∈ R, @Ne Nat p.1 x ∧ @Ne Nat p.1 dx ∧ @Ne Nat p.1 md ∧ @Ne Nat p.1 df ∧ @Ne Nat p.1 nx ∧ @Ne Nat p.1 rw) (sep : ∀ p ∈ (x, pmdO dx es ep) :: (dx, od) :: (md, om) :: (df, W.listOf defs cd') :: (nx, W.listOf nexts cn) :: (rw, orw) :: rest, ∀ q ∈ own, @Ne Nat p.1 q.1) (hi : i < 62) (hk8 : k ∈ keys8) (hkd : kd < 3) (hkd0 : 0 ≤ kd) (l1 : ∀ p ∈ (x, pmdO dx es ep) :: (dx, od) :: (md, om) :: (df, W.listOf defs cd') :: (nx, W.listOf nexts cn) :: (rw, orw) :: R, p.1 < d) (l2 : @LT.lt Nat _ d f) (l3 : @LT.lt Nat _ f rl) {v : Value} {q : Nat} {qs : List Nat} {rs : Addr} (hkv : valueAt kvs k = some v) (hkr : valueAt rws k = some (.ref rs)) (hC : Chain w.params rest v (q :: qs)) (hRA : RowsAre rest rs (q :: qs)) (hlq : (q :: qs).length ≤ i) :
    wpAny (model PySem.Challenge.rw_bc6014_01.row.prog w) (callerA.deeper (envOf "law" lawScope L fa cd)) (execs lawInner (envOf "law" lawScope L fa cd)) (TurnMid w i h₀ L s own x dx md df nx rw)
      (fun e s' => wpAny (model PySem.Challenge.rw_bc6014_01.row.prog w) (callerA.deeper (envOf "law" lawScope L fa cd)) (leaving (envOf "law" lawScope L fa cd) e) (fun u s'' => Q1 e u s'') E1 s') s := by
  conv in lawInner => whnf
  conv in (occs := *) lawScope => all_goals whnf
  w_top off; revert X; k_fill; intro X
  have l1o := l1
  (try k_lt l1)
  obtain ⟨c1, c2⟩ := ok.a2
  obtain ⟨c3, c4, c5⟩ := ok.a3
  obtain ⟨c6, c7, c8, c9⟩ := ok.a4
  obtain ⟨c10, c11, c12, c13, c14⟩ := ok.a5
  have c0 := ok.a1
  have o1 : ∀ p ∈ R, p.1 ≠ x := fun p hp => (off p hp).1
  have o2 : ∀ p ∈ R, p.1 ≠ dx := fun p hp => (off p hp).2.1
  have o3 : ∀ p ∈ R, p.1 ≠ md := fun p hp => (off p hp).2.2.1
  have o4 : ∀ p ∈ R, p.1 ≠ df := fun p hp => (off p hp).2.2.2.1
  have o5 : ∀ p ∈ R, p.1 ≠ nx := fun p hp => (off p hp).2.2.2.2.1
  have o6 : ∀ p ∈ R, p.1 ≠ rw := fun p hp => (off p hp).2.2.2.2.2
  have kl := ok.klen
  have rlen := ok.rlen
  have im := ok.model
  have ir := ok.rows
  have lm := ok.lom
  have lr := ok.lor
  have dz : defs.size ≤ 62 := Nat.le_trans ok.dlen (Nat.le_of_lt hi)
  have nz : nexts.size ≤ 62 := by rw [ok.nlen]; exact dz
  have dz1 : (defs.push (Value.ref f)).size ≤ 62 := by rw [Array.size_push]; exact Nat.lt_of_le_of_lt ok.dlen hi
  repeat' ((fail_if_success (with_reducible show wpAny _ _ (call (Value.ref _) _) _ _ _)); first | (k_unfold; (try dsimp only)) | walk1 | (dsimp only; walk1))
  rename (Fr _ _ _ _) => F9
  rename (News _ _ _ _) => N9
  have hC' := hC
  obtain ⟨f0, d0, rl0, u1, u2, u3, u4, u5, nm0, tn0, tl0, tx0, c0', nx0, rfl, a1, a2, a3, a4, a5, a6⟩ := hC'
  have inR : ∀ p ∈ rest, p ∈ R := fun p hp => by rw [hR]; exact List.mem_append_left _ hp
  have b1 := inR _ a1
  have b2 := inR _ a2
  refine set_def B F9 X (news_x3 N9) T rfl (by k_room) (by k_units) c0 ?ho ok.lox ok.ents (le_size kl) hkv (.tail _ (.tail _ (.tail _ (.tail _ (.tail _ b1))))) (.tail _ (.tail _ (.tail _ (.tail _ (.tail _ b2))))) ?h1 ?h2 ?h3 ?h4 ?ho2 (fun es' ep' h' tk F' N' H' => ?_)
  case h1 => exact (show @Ne Nat f x by omega)
  case h2 => exact (show @Ne Nat d x by omega)
  case h3 => exact (show @Ne Nat d dx by omega)
  case h4 => exact (show @Ne Nat d f by omega)
  case ho =>
    intro p hp
    simp only [List.mem_cons] at hp
    rcases hp with h | h | h | h | h | h
    · rw [h]; exact (show @Ne Nat _ x by omega)
    · rw [h]; exact c1
    · rw [h]; exact c3
    · rw [h]; exact c6
    · rw [h]; exact c10
    · exact o1 p h
  case ho2 =>
    intro p hp
    rcases List.mem_cons.mp hp with h | hp
    · rw [h]; exact (show @Ne Nat _ d by omega)
    · have := l1o p (.tail _ (.tail _ hp))
      exact Nat.ne_of_lt this
  clear F9 N9
  obtain ⟨items, c, hrs, hRL⟩ := hRA
  have hrs := inR _ hrs
  have kept : Kept (Chain w.params rest (.ref f0) (q :: qs) ∧ RowLists rest items.toList (q :: qs)) := ⟨hC, hRL⟩
  clear hC hRL a1 a2 a3 a4 a5 a6 b1 b2 inR
  have hit : items.size ≤ 62 := by
    have e := kept.out.2.length
    rw [Array.length_toList] at e
    rw [e]
    exact Nat.le_trans hlq (Nat.le_of_lt hi)
  repeat' ((fail_if_success (with_reducible show wpAny _ _ (call (Value.ref _) _) _ _ _)); first | (k_unfold; (try dsimp only)) | walk1 | (dsimp only; walk1))
  rename (Fr _ _ _ _) => F7
  rename (News _ _ _ _) => N7
  rename (Obj.IsDictOf _ _ (stored kvs _ _)) => hm7
  rename (Obj.IsDictOf _ _ (stored rws _ _)) => hr7
  rw [xN_push] at N7
  obtain ⟨hC, hRL⟩ := kept.out
  refine mid_put ok hk8 sep hi hR l1o l2 l3 ?_ ?_ F7 (news_over N7) rfl rfl rfl rfl rfl H' hm7 hr7 (.inr ⟨_, rfl⟩) hC (by rw [Array.toList_append]; rfl) hRL hlq
  · omega
  · omega
end Mine
/-! OwnStr -/
namespace Mine
theorem bs_kind : builtinKind "BaseException.__str__" = some .slot := by decide +kernel
theorem bs_split : splitId "BaseException.__str__" = some ("BaseException", "__str__") := by decide +kernel
theorem bs_plain : plainId "BaseException.__str__" = true := by decide +kernel
section
variable {prog : Program} {w : World} {A : Around} {E : Value → Shared → Prop} {s : Shared} {K : Frag} {e t C : Addr} {o : Obj} {ws : Array Value} {x : Str} {u : Tok} {Q : Value → Shared → Prop}
open Builtin Builtin.Str Builtin.BaseException in
theorem own_strOf (hu : A.units < cLine) (X : K.In s.heap) (ho : s.heap.get? e = some o) (hc : o.cls = .ref C) (hd : o.data = .fields ws) (h0 : ws[0]? = some (.ref t)) (ht : s.heap.TupAt t [.str x u])
    (hs : findIn K (.ref C) "__str__" = some (some (.builtin "BaseException.__str__"))) (hb : mroIn K C (.type "BaseException") = some true) (h : Q (.str x u) s) : wpAny (model prog w) A (PySem.Builtin.Str.strOf (.ref e)) Q E s := by
  obtain ⟨oc, od, oda, osl⟩ := o
  dsimp only at hc hd
  subst hc hd
  have ty : Looks (model prog w) s.heap (typeOf (.ref e)) (.ref C) := (Looks.ld ho).andThen .now
  have sp : Looks (model prog w) s.heap (specialOf (.ref e) "__str__") (some (.builtin "BaseException.__str__")) := ty.andThen (looks_findIn X hs)
  have hi : Looks (model prog w) s.heap (isInstance (.ref e) (.type "BaseException")) true := ty.andThen (looks_mroIn X hb)
  unfold PySem.Builtin.Str.strOf
  rw [show isExactStr (.ref e) = false from rfl]
  refine wpAny_bind (m := cRoomFor _ _) (wpAny_cRoomFor hu ?_)
  refine wpAny_bind (m := callSpecial? (.ref e) (Str.ofString "__str__")) ?_
  unfold callSpecial?
  refine wpAny_bind (sp.here ?_)
  refine wpAny_holding (wpAny_bind (wpAny_of_eq (PySem.F.excStr_Exception.str.bind _) ?_))
  refine wpAny_bind ?_
  show wpAny _ _ (call (.builtin "BaseException.__str__") [.ref e]) _ _ _
  refine wpAny_call ?_
  refine codeAny_call_builtin bs_plain F.entry_bexc_str ?_
  refine @check_slot (model prog w) _ _ s "BaseException.__str__" "BaseException" "__str__" (.ref e) [] [] _ bs_kind bs_split hi (F.args_bexc_str _) ?_
  unfold Builtin.«BaseException.__str__»
  have args : ∀ {M : Model} {A : Around} {E : Value → Shared → Prop} {Q : Value × List Value → Shared → Prop}, Q (.ref t, [.str x u]) s → wpAny M A (bexcArgs (.ref e)) Q E s := by
    intro M A E Q hq
    obtain ⟨ot, k, hto, _, htd⟩ := ht
    unfold bexcArgs
    refine wpAny_bind (wpAny_field ho rfl h0 (wpAny_bind (wpAny_seqItems hto htd ?_)))
    exact wpAny_pure hq
  repeat (first | with_reducible refine args ?_ | wp_step)
  exact h
open Builtin Builtin.Str in
theorem own_str (hu : A.units + 2 < cLine) (X : K.In s.heap) (ho : s.heap.get? e = some o) (hc : o.cls = .ref C) (hd : o.data = .fields ws) (h0 : ws[0]? = some (.ref t)) (ht : s.heap.TupAt t [.str x u])
    (hs : findIn K (.ref C) "__str__" = some (some (.builtin "BaseException.__str__"))) (hb : mroIn K C (.type "BaseException") = some true) (h : Q (.str x u) s) : wpAny (model prog w) A (call (.type "str") [.ref e]) Q E s := by
  refine callType_codes (T := "str") (Bi := Builtin.«object.__init__») (Q₁ := fun r s₁ => ∃ y u, r = .str y u ∧ Q r s₁) PySem.F.called_str (PySem.F.typeCall_str_1 _) PySem.F.entry_object_init ?_ ?_
  · refine codeAny_of_tree ?_
    show wpAny _ A.in1.in1 (do checkBuiltinCall "str.__new__" ⟨[.type "str", .ref e], []⟩; again (.builtin "str.__new__" ⟨[.type "str", .ref e], []⟩)) _ _ s
    refine wpAny_bind (wpAny_of_eq (PySem.F.newCall_str_1 _) (wpAny_pure ⟨plainId_quiet (by decide +kernel) _, codeAny_builtin PySem.F.entry_str_new ?_⟩))
    rw [Around.under_plainId (by decide +kernel) _]
    rw [str_new_tree]
    refine wpAny_bind (wpAny_pure ?_)
    refine wpAny_bind (wpAny_of_eq isSubtype_str_str ?_)
    exact wpAny_bind (own_strOf hu X ho hc hd h0 ht hs hb (wpAny_pure ⟨_, _, rfl, h⟩))
  · rintro obj s₁ ⟨y, u, rfl, hq⟩
    exact ⟨typeIs_str _ _ _, PySem.F.args_object_init_2 _ _, object_init_meets PySem.F.called_str.init.lookup PySem.F.called_str.made (by decide) prog w A.in1 _ s₁ ⟨typeIs_str _ _ _, rfl, hq⟩⟩
/-- `str(wrong)` of an own exception with one text, caught -/
theorem own_got {h₀ : Heap} {L : Addr} {m : Str → Option Value} {news : List (Addr × Obj)} (hu : A.units + 2 < cLine) (X₀ : K.In h₀) (F : Fr h₀ L s.heap m) (N : News h₀ L s.heap news) (G : Got news e t (.ref C) [.str x u])
    (hs : findIn K (.ref C) "__str__" = some (some (.builtin "BaseException.__str__"))) (hb : mroIn K C (.type "BaseException") = some true) (h : Q (.str x u) s) : wpAny (model prog w) A (call (.type "str") [.ref e]) Q E s := by
  obtain ⟨oe, ot, ws, nt, h1, h2, hc, hd, h0, htc, htd⟩ := G
  exact own_str hu (X₀.keeps F.keep) (N _ h1).1 hc hd h0 ⟨ot, nt, (N _ h2).1, htc, htd⟩ hs hb h
end
end Mine
/-! InnBad -/
namespace Mine
local macro_rules | `(tactic| walk_at "none at all") => `(tactic| fail "none")
local macro_rules | `(tactic| k_mem) => `(tactic| focus ((repeat (first | exact List.Mem.head _ | assumption | refine List.mem_cons_of_mem _ ?_)); done))
local macro_rules | `(tactic| k_room) => `(tactic| first | assumption | ((try dsimp only [Around.deeper, ktrTop, Around.mark, callerA]); omega) | ktr_room)
local macro_rules | `(tactic| ks_enter) => `(tactic| (refine' ks_code_super ?k1 ?k2 ?k3 ?k4 ?k5 ?kA ?kF ?kK ?k6 ?k7 ?k8 ?k9 ?kB ?_ ?c1 ?c2 ?c3 ?c4; (case kA => exact rfl); (case kF => exact rfl); (case kK => first | exact rfl | assumption); (case k1 => k_asm); (case k2 => k_asm); (case k3 => k_asm); (case k4 => k_asm); (case k5 => k_asm); (case k6 => k_is); (case k7 => k_is); (case k8 => k_room); (case k9 => exact BindsTo.of_eq rfl); (case kB => exact locs rfl); (case c1 => decide); (case c2 => exact rfl); (case c3 => exact rfl); (case c4 => exact rfl); intro g' L' h' FG' F' N' B' X' T' l1; (try k_lt l1); (try dsimp only); (try k_lift B')))
local macro_rules | `(tactic| k_units) => `(tactic| first | assumption | ((try dsimp only [Around.deeper, ktrTop, Around.mark, callerA]); have hcL9 := cLine_is; omega) | ktr_units)
local macro_rules | `(tactic| k_all) => `(tactic| assumption)
local macro_rules | `(tactic| k_inst) => `(tactic| (refine' pm_inst ?N ?h1 ?h2; (case N => k_asm); (case h1 => k_mem); (case h2 => k_mem)))
local macro_rules | `(tactic| walk_at "compareOp NotIn str ref") => `(tactic| (k_here; k_dflt (refine' pm_notin_some ?X ?F ?N ?h1 ?h2 ?hm ?hc ?lo ?H ?hv ?_; (case X => k_asm); (case F => k_asm); (case N => k_asm); (case h1 => k_mem); (case h2 => k_mem); (case hm => k_is); (case hc => k_is); (case lo => k_asm); (case H => k_asm); (case hv => k_asm))))
local macro_rules | `(tactic| walk_at "compareOp NotIn str ref") => `(tactic| (k_here; k_dflt (refine' pm_notin_none ?X ?F ?N ?h1 ?h2 ?hm ?hc ?lo ?H ?hv ?_; (case X => k_asm); (case F => k_asm); (case N => k_asm); (case h1 => k_mem); (case h2 => k_mem); (case hm => k_is); (case hc => k_is); (case lo => k_asm); (case H => k_asm); (case hv => k_asm))))
local macro_rules | `(tactic| walk_at "compareOp In str ref") => `(tactic| (k_here; k_dflt (refine' pm_in_some ?X ?F ?N ?h1 ?h2 ?hm ?hc ?lo ?H ?hv ?_; (case X => k_asm); (case F => k_asm); (case N => k_asm); (case h1 => k_mem); (case h2 => k_mem); (case hm => k_is); (case hc => k_is); (case lo => k_asm); (case H => k_asm); (case hv => k_asm))))
local macro_rules | `(tactic| walk_at "compareOp In str ref") => `(tactic| (k_here; k_dflt (refine' pm_in_none ?X ?F ?N ?h1 ?h2 ?hm ?hc ?lo ?H ?hv ?_; (case X => k_asm); (case F => k_asm); (case N => k_asm); (case h1 => k_mem); (case h2 => k_mem); (case hm => k_is); (case hc => k_is); (case lo => k_asm); (case H => k_asm); (case hv => k_asm))))
local macro_rules | `(tactic| walk_at "getMethod ref") => `(tactic| (k_here; (with_reducible show wpAny _ _ (getMethod _ (Str.ofString "__getitem__") _) _ _ _); k_dflt (refine' pm_method_get ?F ?X ?N ?h1 ?h2 ?h3 ?ho ?ok ?hm ?_; (case F => k_asm); (case X => k_asm); (case N => k_asm); (case h1 => k_mem); (case h2 => k_mem); (case h3 => k_mem); (case ho => k_is); (case ok => kernel_rfl); (case hm => kernel_rfl); intro q' h' F' N' l1; (try k_lt l1))))
local macro_rules | `(tactic| walk_at "getMethod ref") => `(tactic| (k_here; (with_reducible show wpAny _ _ (getMethod _ (Str.ofString "__setitem__") _) _ _ _); k_dflt (refine' pm_method_set ?F ?X ?N ?h1 ?h2 ?h3 ?ho ?ok ?hm ?_; (case F => k_asm); (case X => k_asm); (case N => k_asm); (case h1 => k_mem); (case h2 => k_mem); (case h3 => k_mem); (case ho => k_is); (case ok => kernel_rfl); (case hm => kernel_rfl); intro q' h' F' N' l1; (try k_lt l1))))
local macro_rules | `(tactic| walk_at "callWith ref") => `(tactic| (k_here; k_dflt (refine' callWith_B ?N ?hq ?hT ?_; (case N => k_asm); (case hq => k_mem); (case hT => first | exact .inl rfl | exact .inr rfl); k_whole)))
local macro_rules | `(tactic| walk_at "And") => `(tactic| ((with_reducible show BndP _ _ _ _ _ ∧ _); refine ⟨bndP (by k_asm) (by k_mem), ?_⟩; try dsimp only [List.nil_append, List.cons_append]))
local macro_rules | `(tactic| walk_at "call ref") => `(tactic| (k_here; (with_reducible show wpAny _ _ (call _ [Value.str _ _]) _ _ _); k_dflt (refine' pm_call_get ?X ?F ?N ?hq ?hx ?hdx ?hcd ?hmod ?hty ?H ?hv ?_; (case X => k_asm); (case F => k_asm); (case N => k_asm); (case hq => k_mem); (case hx => k_mem); (case hdx => k_mem); (case hcd => kernel_rfl); (case hmod => k_is); (case hty => k_is); (case H => k_asm); (case hv => k_asm))))
local macro_rules | `(tactic| walk_at "call ref") => `(tactic| (k_here; (with_reducible show wpAny _ _ (call _ [Value.str _ _, _]) _ _ _); k_dflt (refine' pm_call_set ?X ?F ?N ?hq ?hx ?hdx ?U ?ho ?H ?hsz ?_; (case X => k_asm); (case F => k_asm); (case N => k_asm); (case hq => k_mem); (case hx => k_mem); (case hdx => k_mem); (case U => k_updF); (case ho => k_is); (case H => k_asm); (case hsz => k_asm); intro es' ep' h' F' N' H'; (try dsimp only at N'))))
local macro_rules | `(tactic| walk_at "wpAt") => `(tactic| (ks_step "eval Call"; with_unfolding_all refine ks_wpAt_MethodCall ?_))
local macro_rules | `(tactic| walk_at "BndP") => `(tactic| (k_dflt (refine' bndP ?N ?hq; (case N => k_asm); (case hq => k_mem))))
local macro_rules | `(tactic| walk_at "wpAt") => `(tactic| (dsimp only; ks_step "execs cons"; refine ks_wpAt_execs_cons ?_))
local macro_rules | `(tactic| walk_at "wpAt") => `(tactic| (ks_step "exec Expr"; with_unfolding_all refine ks_wpAt_Expr_any ?_))
local macro_rules | `(tactic| walk_at "call builtin:callable") => `(tactic| (k_here; k_dflt (first
  | ((with_reducible show wpAny _ _ (call _ [Value.int _ _]) _ _ _); refine callable_int ?_)
  | (refine' callable_K ?X ?F ?e ?_; (case X => k_asm); (case F => k_asm); (case e => k_is))
  | (refine' callable_inst ?X ?F ?I ?e ?_; (case X => k_asm); (case F => k_asm); (case I => k_inst); (case e => k_is)))))
local macro_rules | `(tactic| walk_at "call builtin:hasattr") => `(tactic| (k_here; k_dflt (first
  | ((with_reducible show wpAny _ _ (call _ [Value.int _ _, _]) _ _ _); refine ha_intK (by exact rfl) (by k_asm) (by k_asm) ?_; intro h' tk' F' N')
  | (refine' ha_fnK ?hA ?X ?F ?N ?e ?_; (case hA => exact rfl); (case X => k_asm); (case F => k_asm); (case N => k_asm); (case e => k_is); intro h' tk' F' N')
  | (refine' ha_instK ?X ?F ?I ?hg ?hm ?hh ?ha ?hn ?hl ?hv ?_; (case X => k_asm); (case F => k_asm); (case I => k_inst); (case hg => k_is); (case hm => k_is); (case hh => k_is); (case ha => k_is); (case hn => k_is); (case hl => k_get); (case hv => k_handed)))))
local macro_rules | `(tactic| walk_at "call builtin:getattr") => `(tactic| (k_here; k_dflt (refine' getattr3_K ?X ?F ?I ?hg ?hm ?hh ?hs ?ha ?hn ?hl ?hv ?_; (case X => k_asm); (case F => k_asm); (case I => k_inst); (case hg => k_is); (case hm => k_is); (case hh => k_is); (case hs => decide +kernel); (case ha => k_is); (case hn => k_is); (case hl => k_get); (case hv => k_handed))))
local macro_rules | `(tactic| walk_at "call builtin:len") => `(tactic| (k_here; k_dflt (refine' kda_len (knd := PySem.strKind _ _) ?N ?hp ?hd ?lo ?hz ?_; (case N => k_asm); (case hp => k_mem); (case hd => k_asm); (case lo => k_asm); (case hz => exact le_len (by assumption)))))
local macro_rules | `(tactic| walk_at "compareOp In str ref") => `(tactic| (k_here; k_dflt (refine' kda_in (knd := PySem.strKind _ _) ?N ?hp ?hd ?lo (strKind_is _ _ _ _) true ?hb ?_; (case N => k_asm); (case hp => k_mem); (case hd => k_asm); (case lo => k_asm); (case hb => exact (congrArg Option.isSome (by with_reducible assumption : valueAt _ _ = some _)).trans rfl))))
local macro_rules | `(tactic| walk_at "compareOp In str ref") => `(tactic| (k_here; k_dflt (refine' kda_in (knd := PySem.strKind _ _) ?N ?hp ?hd ?lo (strKind_is _ _ _ _) false ?hb ?_; (case N => k_asm); (case hp => k_mem); (case hd => k_asm); (case lo => k_asm); (case hb => exact (congrArg Option.isSome (by with_reducible assumption : valueAt _ _ = none)).trans rfl))))
local macro_rules | `(tactic| walk_at "compareOp NotIn str ref") => `(tactic| (k_here; k_dflt (refine' kdg_notin (knd := PySem.strKind _ _) ?N ?hp ?hd ?lo (strKind_is _ _ _ _) true ?hb ?_; (case N => k_asm); (case hp => k_mem); (case hd => k_asm); (case lo => k_asm); (case hb => exact (congrArg Option.isSome (by with_reducible assumption : valueAt _ _ = some _)).trans rfl))))
local macro_rules | `(tactic| walk_at "compareOp NotIn str ref") => `(tactic| (k_here; k_dflt (refine' kdg_notin (knd := PySem.strKind _ _) ?N ?hp ?hd ?lo (strKind_is _ _ _ _) false ?hb ?_; (case N => k_asm); (case hp => k_mem); (case hd => k_asm); (case lo => k_asm); (case hb => exact (congrArg Option.isSome (by with_reducible assumption : valueAt _ _ = none)).trans rfl))))
local macro_rules | `(tactic| walk_at "subscriptTail") => `(tactic| (k_here; (with_reducible show wpAny _ _ (subscriptTail _ _ (Value.ref _) (Value.str _ _)) _ _ _); k_dflt (refine' kda_item (knd := PySem.strKind _ _) ?N ?hp ?hd (strKind_is _ _ _ _) ?hl ?_; (case N => k_asm); (case hp => k_mem); (case hd => k_asm); (case hl => k_asm))))
local macro_rules | `(tactic| walk_at "setItem ref str") => `(tactic| (k_here; k_dflt (refine' kda_set (knd := PySem.strKind _ _) ?F ?N ?U ?d (strKind_is _ _ _ _) ?z ?_; (case F => k_asm); (case N => k_asm); (case U => k_updF); (case d => k_asm); (case z => exact le_size (by assumption))); intro h' o' F' N' hd'; (try dsimp only at N')))
local macro_rules | `(tactic| walk_at "call builtin:dict.pop") => `(tactic| (k_here; k_dflt (refine' kob_pop (knd := PySem.strKind _ _) (more := []) ?F ?N ?U ?d (strKind_is _ _ _ _) (.inl rfl) (by rfl) (PySem.F.args_dict_pop_2 _ _) ?l ?z ?_; (case F => k_asm); (case N => k_asm); (case U => k_updF); (case d => k_asm); (case l => k_asm); (case z => exact le_size (by assumption))); intro h' o' F' N' hd'; (try dsimp only at N')))
local macro_rules | `(tactic| walk_at "subscriptTail") => `(tactic| (k_here; (with_reducible show wpAny _ _ (subscriptTail _ _ (Value.ref _) (Value.int _ _)) _ _ _); k_dflt (refine' item_key ?N ?hm ?h0 ?h8 ?_ ?hs; (case N => k_asm); (case hm => k_mem); (case h0 => exact fm0 _); (case h8 => exact fm8 _); (case hs => with_unfolding_all rfl)); intro k' t' hk8'; (try dsimp only)))
local macro_rules | `(tactic| k_room) => `(tactic| first | assumption | decide | ((try dsimp only [Around.deeper, ktrTop, Around.mark, callerA]); omega) | ktr_room)
local macro_rules | `(tactic| k_units) => `(tactic| first | assumption | ((try dsimp only [Around.deeper, ktrTop, Around.mark, callerA]); have hcL9 := cLine_is; omega) | ktr_units)
local macro_rules | `(tactic| walk_at "call builtin:len") => `(tactic| (k_here; k_dflt (refine' len_led ?N ?hm ?hz ?_; (case N => k_asm); (case hm => k_mem); (case hz => assumption)); (try dsimp only)))
local macro_rules | `(tactic| walk_at "call type:str") => `(tactic| (k_here; (with_reducible show wpAny _ _ (call (Value.type "str") [Value.ref _]) _ _ _); k_dflt (refine' own_got ?u ?X ?F ?N ?G ?s ?b ?_; (case G => assumption); (case u => k_units); (case X => k_asm); (case F => k_asm); (case N => assumption); (case s => k_is); (case b => k_is))))
set_option maxHeartbeats 16000000 in
theorem inn_bad {w : World} {p : Program} {loose : List Str} {mean : ExcName → Option Value} {mg mb : Str → Option Value} {fa : Addr} {cd : Value} {h₀ : Heap} {L : Addr} {m₁ : Str → Option Value} {s : Shared} {i : Nat} {n kd : Int} {t tkd tk8 : Tok} {k : Str} {own R rest : List (Addr × Obj)} {Q1 : Value → Unit → Shared → Prop} {E1 : Value → Shared → Prop}
    {x dx md df nx rw : Addr} {es : Array DictEntry} {ep : Nat} {kvs : List (Str × Value)} {od om orw : Obj} {rws : List (Str × Value)} {defs : Array Value} {cd' : Nat} {nexts : Array Value} {cn : Nat}
    {f d rl : Addr} {t1 t2 t3 t4 t5 tl tr : Tok}
    (B : Below callerA h₀ [] h₀) (F : Fr h₀ L s.heap (fun y => if y = "made" then some (.ref f) else if y = "kind" then some (.int kd tkd) else if y = "key" then some (.str k tk8) else if y = "number" then some (.int n t) else if y = "attributes" then some (.ref x) else if y = "model" then some (.ref md) else if y = "defs" then some (.ref df) else if y = "nexts" then some (.ref nx) else if y = "rows" then some (.ref rw) else m₁ y))
    (X : (Mine.hd.heap_39 w.params).In h₀) (N : News h₀ L s.heap ((f, instObj 53 d) :: (d, dictOf (rfEs w.params t1 t2 t3 t4 t5 (.str k tk8) (.ref rl) (.int (10 + (defs.size : Int)) tl) .none) 5) :: (rl, W.listOf #[.str (xN defs.size) tr] 0) :: (x, pmdO dx es ep) :: (dx, od) :: (md, om) :: (df, W.listOf defs cd') :: (nx, W.listOf nexts cn) :: (rw, orw) :: R)) (T : Top p loose mean mg mb h₀)
    (hR : R = rest ++ own) (ok : LawOk w i x dx md df nx rw es kvs om orw rws defs nexts rest) (off : ∀ p ∈ R, @Ne Nat p.1 x ∧ @Ne Nat p.1 dx ∧ @Ne Nat p.1 md ∧ @Ne Nat p.1 df ∧ @Ne Nat p.1 nx ∧ @Ne Nat p.1 rw) (sep : ∀ p ∈ (x, pmdO dx es ep) :: (dx, od) :: (md, om) :: (df, W.listOf defs cd') :: (nx, W.listOf nexts cn) :: (rw, orw) :: rest, ∀ q ∈ own, @Ne Nat p.1 q.1) (hi : i < 62) (hk8 : k ∈ keys8) (hkd : kd < 3) (hkd0 : 0 ≤ kd) (l1 : ∀ p ∈ (x, pmdO dx es ep) :: (dx, od) :: (md, om) :: (df, W.listOf defs cd') :: (nx, W.listOf nexts cn) :: (rw, orw) :: R, p.1 < d) (l2 : @LT.lt Nat _ d f) (l3 : @LT.lt Nat _ f rl) {v : Value} (hkv : valueAt kvs k = some v) (hkr : valueAt rws k = none) (hth : ThingOk v) :
    wpAny (model PySem.Challenge.rw_bc6014_01.row.prog w) (callerA.deeper (envOf "law" lawScope L fa cd)) (execs lawInner (envOf "law" lawScope L fa cd)) (TurnMid w i h₀ L s own x dx md df nx rw)
      (fun e s' => wpAny (model PySem.Challenge.rw_bc6014_01.row.prog w) (callerA.deeper (envOf "law" lawScope L fa cd)) (leaving (envOf "law" lawScope L fa cd) e) (fun u s'' => Q1 e u s'') E1 s') s := by
  conv in lawInner => whnf
  conv in (occs := *) lawScope => all_goals whnf
  w_top off; revert X; k_fill; intro X
  have l1o := l1
  (try k_lt l1)
  obtain ⟨c1, c2⟩ := ok.a2
  obtain ⟨c3, c4, c5⟩ := ok.a3
  obtain ⟨c6, c7, c8, c9⟩ := ok.a4
  obtain ⟨c10, c11, c12, c13, c14⟩ := ok.a5
  have c0 := ok.a1
  have o1 : ∀ p ∈ R, p.1 ≠ x := fun p hp => (off p hp).1
  have o2 : ∀ p ∈ R, p.1 ≠ dx := fun p hp => (off p hp).2.1
  have o3 : ∀ p ∈ R, p.1 ≠ md := fun p hp => (off p hp).2.2.1
  have o4 : ∀ p ∈ R, p.1 ≠ df := fun p hp => (off p hp).2.2.2.1
  have o5 : ∀ p ∈ R, p.1 ≠ nx := fun p hp => (off p hp).2.2.2.2.1
  have o6 : ∀ p ∈ R, p.1 ≠ rw := fun p hp => (off p hp).2.2.2.2.2
  have kl := ok.klen
  have rlen := ok.rlen
  have im := ok.model
  have ir := ok.rows
  have lm := ok.lom
  have lr := ok.lor
  have dz : defs.size ≤ 62 := Nat.le_trans ok.dlen (Nat.le_of_lt hi)
  have nz : nexts.size ≤ 62 := by rw [ok.nlen]; exact dz
  repeat' ((fail_if_success (with_reducible show wpAny _ _ (call (Value.ref _) _) _ _ _)); first | (k_unfold; (try dsimp only)) | walk1 | (dsimp only; walk1))
  rename (Fr _ _ _ _) => F9
  rename (News _ _ _ _) => N9
  have ho : ∀ p ∈ (rl, W.listOf #[Value.str (xN defs.size) tr] 0) :: (md, om) :: (df, W.listOf defs cd') :: (nx, W.listOf nexts cn) :: (rw, orw) :: R, p.1 ≠ x := by
    intro p hp
    simp only [List.mem_cons] at hp
    rcases hp with h | h | h | h | h | h
    · rw [h]; exact (show @Ne Nat _ x by omega)
    · rw [h]; exact c1
    · rw [h]; exact c3
    · rw [h]; exact c6
    · rw [h]; exact c10
    · exact o1 p h
  have ho2 : ∀ p ∈ (rl, W.listOf #[Value.str (xN defs.size) tr] 0) :: (md, om) :: (df, W.listOf defs cd') :: (nx, W.listOf nexts cn) :: (rw, orw) :: R, p.1 ≠ d := by
    intro p hp
    rcases List.mem_cons.mp hp with h | hp
    · rw [h]; exact (show @Ne Nat _ d by omega)
    · have := l1o p (.tail _ (.tail _ hp))
      exact Nat.ne_of_lt this
  have h1 : @Ne Nat f x := by omega
  have h2 : @Ne Nat d x := by omega
  have h3 : @Ne Nat d dx := by omega
  have h4 : @Ne Nat d f := by omega
  refine set_badT B F9 X (news_x3 N9) T rfl (by k_room) (by k_units) c0 ho ok.lox ok.ents (le_size kl) hth hkv (keys8_len hk8) h1 h2 h3 h4 ho2 (fun e tt g h' tk ts FG U R9 => ?_)
  have hkl : k.length ≤ 8 := keys8_len hk8
  have RK := R9.toK
  clear R9 F9 N9 ho ho2
  repeat' ((fail_if_success (with_reducible show ite (_ = true) _ _)); first | (k_unfold; (try dsimp only)) | walk1 | (dsimp only; walk1))
  rw [bad_text k]
  repeat' (first | (k_unfold; (try dsimp only)) | walk1 | (dsimp only; walk1))
  rename (Fr _ _ _ _) => F7
  rename (News _ _ _ (_ :: _ :: _ :: _ :: _ :: _ :: _)) => N7
  exact mid_bad ok sep hR F7 N7 rfl rfl rfl rfl rfl
end Mine
/-! DeedThing -/
namespace Mine
local macro_rules | `(tactic| k_mem) => `(tactic| focus ((repeat (first | exact List.Mem.head _ | assumption | refine List.mem_cons_of_mem _ ?_)); done))
local macro_rules | `(tactic| k_room) => `(tactic| first | assumption | ((try dsimp only [Around.deeper, ktrTop, Around.mark, callerA]); omega) | ktr_room)
local macro_rules | `(tactic| ks_enter) => `(tactic| (refine' ks_code_super ?k1 ?k2 ?k3 ?k4 ?k5 ?kA ?kF ?kK ?k6 ?k7 ?k8 ?k9 ?kB ?_ ?c1 ?c2 ?c3 ?c4; (case kA => exact rfl); (case kF => exact rfl); (case kK => first | exact rfl | assumption); (case k1 => k_asm); (case k2 => k_asm); (case k3 => k_asm); (case k4 => k_asm); (case k5 => k_asm); (case k6 => k_is); (case k7 => k_is); (case k8 => k_room); (case k9 => exact BindsTo.of_eq rfl); (case kB => exact locs rfl); (case c1 => decide); (case c2 => exact rfl); (case c3 => exact rfl); (case c4 => exact rfl); intro g' L' h' FG' F' N' B' X' T' l1; (try k_lt l1); (try dsimp only); (try k_lift B')))
local macro_rules | `(tactic| k_units) => `(tactic| first | assumption | ((try dsimp only [Around.deeper, ktrTop, Around.mark, callerA]); have hcL9 := cLine_is; omega) | ktr_units)
local macro_rules | `(tactic| k_all) => `(tactic| assumption)
local macro_rules | `(tactic| k_inst) => `(tactic| (refine' pm_inst ?N ?h1 ?h2; (case N => k_asm); (case h1 => k_mem); (case h2 => k_mem)))
local macro_rules | `(tactic| walk_at "compareOp NotIn str ref") => `(tactic| (k_here; k_dflt (refine' pm_notin_some ?X ?F ?N ?h1 ?h2 ?hm ?hc ?lo ?H ?hv ?_; (case X => k_asm); (case F => k_asm); (case N => k_asm); (case h1 => k_mem); (case h2 => k_mem); (case hm => k_is); (case hc => k_is); (case lo => k_asm); (case H => k_asm); (case hv => k_asm))))
local macro_rules | `(tactic| walk_at "compareOp NotIn str ref") => `(tactic| (k_here; k_dflt (refine' pm_notin_none ?X ?F ?N ?h1 ?h2 ?hm ?hc ?lo ?H ?hv ?_; (case X => k_asm); (case F => k_asm); (case N => k_asm); (case h1 => k_mem); (case h2 => k_mem); (case hm => k_is); (case hc => k_is); (case lo => k_asm); (case H => k_asm); (case hv => k_asm))))
local macro_rules | `(tactic| walk_at "compareOp In str ref") => `(tactic| (k_here; k_dflt (refine' pm_in_some ?X ?F ?N ?h1 ?h2 ?hm ?hc ?lo ?H ?hv ?_; (case X => k_asm); (case F => k_asm); (case N => k_asm); (case h1 => k_mem); (case h2 => k_mem); (case hm => k_is); (case hc => k_is); (case lo => k_asm); (case H => k_asm); (case hv => k_asm))))
local macro_rules | `(tactic| walk_at "compareOp In str ref") => `(tactic| (k_here; k_dflt (refine' pm_in_none ?X ?F ?N ?h1 ?h2 ?hm ?hc ?lo ?H ?hv ?_; (case X => k_asm); (case F => k_asm); (case N => k_asm); (case h1 => k_mem); (case h2 => k_mem); (case hm => k_is); (case hc => k_is); (case lo => k_asm); (case H => k_asm); (case hv => k_asm))))
local macro_rules | `(tactic| walk_at "getMethod ref") => `(tactic| (k_here; (with_reducible show wpAny _ _ (getMethod _ (Str.ofString "__getitem__") _) _ _ _); k_dflt (refine' pm_method_get ?F ?X ?N ?h1 ?h2 ?h3 ?ho ?ok ?hm ?_; (case F => k_asm); (case X => k_asm); (case N => k_asm); (case h1 => k_mem); (case h2 => k_mem); (case h3 => k_mem); (case ho => k_is); (case ok => kernel_rfl); (case hm => kernel_rfl); intro q' h' F' N' l1; (try k_lt l1))))
local macro_rules | `(tactic| walk_at "getMethod ref") => `(tactic| (k_here; (with_reducible show wpAny _ _ (getMethod _ (Str.ofString "__setitem__") _) _ _ _); k_dflt (refine' pm_method_set ?F ?X ?N ?h1 ?h2 ?h3 ?ho ?ok ?hm ?_; (case F => k_asm); (case X => k_asm); (case N => k_asm); (case h1 => k_mem); (case h2 => k_mem); (case h3 => k_mem); (case ho => k_is); (case ok => kernel_rfl); (case hm => kernel_rfl); intro q' h' F' N' l1; (try k_lt l1))))
local macro_rules | `(tactic| walk_at "callWith ref") => `(tactic| (k_here; k_dflt (refine' callWith_B ?N ?hq ?hT ?_; (case N => k_asm); (case hq => k_mem); (case hT => first | exact .inl rfl | exact .inr rfl); k_whole)))
local macro_rules | `(tactic| walk_at "And") => `(tactic| ((with_reducible show BndP _ _ _ _ _ ∧ _); refine ⟨bndP (by k_asm) (by k_mem), ?_⟩; try dsimp only [List.nil_append, List.cons_append]))
local macro_rules | `(tactic| walk_at "call ref") => `(tactic| (k_here; (with_reducible show wpAny _ _ (call _ [Value.str _ _]) _ _ _); k_dflt (refine' pm_call_get ?X ?F ?N ?hq ?hx ?hdx ?hcd ?hmod ?hty ?H ?hv ?_; (case X => k_asm); (case F => k_asm); (case N => k_asm); (case hq => k_mem); (case hx => k_mem); (case hdx => k_mem); (case hcd => kernel_rfl); (case hmod => k_is); (case hty => k_is); (case H => k_asm); (case hv => k_asm))))
local macro_rules | `(tactic| walk_at "call ref") => `(tactic| (k_here; (with_reducible show wpAny _ _ (call _ [Value.str _ _, _]) _ _ _); k_dflt (refine' pm_call_set ?X ?F ?N ?hq ?hx ?hdx ?U ?ho ?H ?hsz ?_; (case X => k_asm); (case F => k_asm); (case N => k_asm); (case hq => k_mem); (case hx => k_mem); (case hdx => k_mem); (case U => k_updF); (case ho => k_is); (case H => k_asm); (case hsz => k_asm); intro es' ep' h' F' N' H'; (try dsimp only at N'))))
local macro_rules | `(tactic| walk_at "wpAt") => `(tactic| (ks_step "eval Call"; with_unfolding_all refine ks_wpAt_MethodCall ?_))
local macro_rules | `(tactic| walk_at "BndP") => `(tactic| (k_dflt (refine' bndP ?N ?hq; (case N => k_asm); (case hq => k_mem))))
local macro_rules | `(tactic| walk_at "wpAt") => `(tactic| (dsimp only; ks_step "execs cons"; refine ks_wpAt_execs_cons ?_))
local macro_rules | `(tactic| walk_at "wpAt") => `(tactic| (ks_step "exec Expr"; with_unfolding_all refine ks_wpAt_Expr_any ?_))
local macro_rules | `(tactic| walk_at "call builtin:callable") => `(tactic| (k_here; k_dflt (first
  | ((with_reducible show wpAny _ _ (call _ [Value.int _ _]) _ _ _); refine callable_int ?_)
  | (refine' callable_K ?X ?F ?e ?_; (case X => k_asm); (case F => k_asm); (case e => k_is))
  | (refine' callable_inst ?X ?F ?I ?e ?_; (case X => k_asm); (case F => k_asm); (case I => k_inst); (case e => k_is)))))
local macro_rules | `(tactic| walk_at "call builtin:hasattr") => `(tactic| (k_here; k_dflt (first
  | ((with_reducible show wpAny _ _ (call _ [Value.int _ _, _]) _ _ _); refine ha_intK (by exact rfl) (by k_asm) (by k_asm) ?_; intro h' tk' F' N')
  | (refine' ha_fnK ?hA ?X ?F ?N ?e ?_; (case hA => exact rfl); (case X => k_asm); (case F => k_asm); (case N => k_asm); (case e => k_is); intro h' tk' F' N')
  | (refine' ha_instK ?X ?F ?I ?hg ?hm ?hh ?ha ?hn ?hl ?hv ?_; (case X => k_asm); (case F => k_asm); (case I => k_inst); (case hg => k_is); (case hm => k_is); (case hh => k_is); (case ha => k_is); (case hn => k_is); (case hl => k_get); (case hv => k_handed)))))
local macro_rules | `(tactic| walk_at "call builtin:getattr") => `(tactic| (k_here; k_dflt (refine' getattr3_K ?X ?F ?I ?hg ?hm ?hh ?hs ?ha ?hn ?hl ?hv ?_; (case X => k_asm); (case F => k_asm); (case I => k_inst); (case hg => k_is); (case hm => k_is); (case hh => k_is); (case hs => decide +kernel); (case ha => k_is); (case hn => k_is); (case hl => k_get); (case hv => k_handed))))
local macro_rules | `(tactic| walk_at "call builtin:len") => `(tactic| (k_here; k_dflt (refine' kda_len (knd := PySem.strKind _ _) ?N ?hp ?hd ?lo ?hz ?_; (case N => k_asm); (case hp => k_mem); (case hd => k_asm); (case lo => k_asm); (case hz => exact le_len (by assumption)))))
local macro_rules | `(tactic| walk_at "compareOp In str ref") => `(tactic| (k_here; k_dflt (refine' kda_in (knd := PySem.strKind _ _) ?N ?hp ?hd ?lo (strKind_is _ _ _ _) true ?hb ?_; (case N => k_asm); (case hp => k_mem); (case hd => k_asm); (case lo => k_asm); (case hb => exact (congrArg Option.isSome (by with_reducible assumption : valueAt _ _ = some _)).trans rfl))))
local macro_rules | `(tactic| walk_at "compareOp In str ref") => `(tactic| (k_here; k_dflt (refine' kda_in (knd := PySem.strKind _ _) ?N ?hp ?hd ?lo (strKind_is _ _ _ _) false ?hb ?_; (case N => k_asm); (case hp => k_mem); (case hd => k_asm); (case lo => k_asm); (case hb => exact (congrArg Option.isSome (by with_reducible assumption : valueAt _ _ = none)).trans rfl))))
local macro_rules | `(tactic| walk_at "compareOp NotIn str ref") => `(tactic| (k_here; k_dflt (refine' kdg_notin (knd := PySem.strKind _ _) ?N ?hp ?hd ?lo (strKind_is _ _ _ _) true ?hb ?_; (case N => k_asm); (case hp => k_mem); (case hd => k_asm); (case lo => k_asm); (case hb => exact (congrArg Option.isSome (by with_reducible assumption : valueAt _ _ = some _)).trans rfl))))
local macro_rules | `(tactic| walk_at "compareOp NotIn str ref") => `(tactic| (k_here; k_dflt (refine' kdg_notin (knd := PySem.strKind _ _) ?N ?hp ?hd ?lo (strKind_is _ _ _ _) false ?hb ?_; (case N => k_asm); (case hp => k_mem); (case hd => k_asm); (case lo => k_asm); (case hb => exact (congrArg Option.isSome (by with_reducible assumption : valueAt _ _ = none)).trans rfl))))
local macro_rules | `(tactic| walk_at "subscriptTail") => `(tactic| (k_here; (with_reducible show wpAny _ _ (subscriptTail _ _ (Value.ref _) (Value.str _ _)) _ _ _); k_dflt (refine' kda_item (knd := PySem.strKind _ _) ?N ?hp ?hd (strKind_is _ _ _ _) ?hl ?_; (case N => k_asm); (case hp => k_mem); (case hd => k_asm); (case hl => k_asm))))
local macro_rules | `(tactic| walk_at "setItem ref str") => `(tactic| (k_here; k_dflt (refine' kda_set (knd := PySem.strKind _ _) ?F ?N ?U ?d (strKind_is _ _ _ _) ?z ?_; (case F => k_asm); (case N => k_asm); (case U => k_updF); (case d => k_asm); (case z => exact le_size (by assumption))); intro h' o' F' N' hd'; (try dsimp only at N')))
local macro_rules | `(tactic| walk_at "call builtin:dict.pop") => `(tactic| (k_here; k_dflt (refine' kob_pop (knd := PySem.strKind _ _) (more := []) ?F ?N ?U ?d (strKind_is _ _ _ _) (.inl rfl) (by rfl) (PySem.F.args_dict_pop_2 _ _) ?l ?z ?_; (case F => k_asm); (case N => k_asm); (case U => k_updF); (case d => k_asm); (case l => k_asm); (case z => exact le_size (by assumption))); intro h' o' F' N' hd'; (try dsimp only at N')))
local macro_rules | `(tactic| walk_at "subscriptTail") => `(tactic| (k_here; (with_reducible show wpAny _ _ (subscriptTail _ _ (Value.ref _) (Value.int _ _)) _ _ _); k_dflt (refine' item_key ?N ?hm ?h0 ?h8 ?_ ?hs; (case N => k_asm); (case hm => k_mem); (case h0 => exact fm0 _); (case h8 => exact fm8 _); (case hs => with_unfolding_all rfl)); intro k' t' hk8'; (try dsimp only)))
local macro_rules | `(tactic| k_room) => `(tactic| first | assumption | decide | ((try dsimp only [Around.deeper, ktrTop, Around.mark, callerA]); omega) | ktr_room)
local macro_rules | `(tactic| k_units) => `(tactic| first | assumption | ((try dsimp only [Around.deeper, ktrTop, Around.mark, callerA]); have hcL9 := cLine_is; omega) | ktr_units)
local macro_rules | `(tactic| walk_at "call builtin:len") => `(tactic| (k_here; k_dflt (refine' len_led ?N ?hm ?hz ?_; (case N => k_asm); (case hm => k_mem); (case hz => assumption)); (try dsimp only)))
set_option maxHeartbeats 16000000 in
theorem deed_thing {w : World} {p : Program} {loose : List Str} {mean : ExcName → Option Value} {mg mb : Str → Option Value} {fa : Addr} {cd : Value} {h₀ : Heap} {L : Addr} {m₁ : Str → Option Value} {s : Shared} {i : Nat} {n kd : Int} {t tkd tk8 : Tok} {k : Str} {own R rest : List (Addr × Obj)} {Q : Flow → Shared → Prop} {Q1 : Value → Unit → Shared → Prop} {E1 : Value → Shared → Prop}
    {x dx md df nx rw : Addr} {es : Array DictEntry} {ep : Nat} {kvs : List (Str × Value)} {od om orw : Obj} {rws : List (Str × Value)} {defs : Array Value} {cd' : Nat} {nexts : Array Value} {cn : Nat}
    (B : Below callerA h₀ [] h₀) (F : Fr h₀ L s.heap (fun y => if y = "kind" then some (.int kd tkd) else if y = "key" then some (.str k tk8) else if y = "number" then some (.int n t) else if y = "attributes" then some (.ref x) else if y = "model" then some (.ref md) else if y = "defs" then some (.ref df) else if y = "nexts" then some (.ref nx) else if y = "rows" then some (.ref rw) else m₁ y))
    (X : (Mine.hd.heap_39 w.params).In h₀) (N : News h₀ L s.heap ((x, pmdO dx es ep) :: (dx, od) :: (md, om) :: (df, W.listOf defs cd') :: (nx, W.listOf nexts cn) :: (rw, orw) :: R)) (T : Top p loose mean mg mb h₀)
    (hR : R = rest ++ own) (ok : LawOk w i x dx md df nx rw es kvs om orw rws defs nexts rest) (off : ∀ p ∈ R, @Ne Nat p.1 x ∧ @Ne Nat p.1 dx ∧ @Ne Nat p.1 md ∧ @Ne Nat p.1 df ∧ @Ne Nat p.1 nx ∧ @Ne Nat p.1 rw) (sep : ∀ p ∈ (x, pmdO dx es ep) :: (dx, od) :: (md, om) :: (df, W.listOf defs cd') :: (nx, W.listOf nexts cn) :: (rw, orw) :: rest, ∀ q ∈ own, @Ne Nat p.1 q.1) (hi : i < 62) (hk8 : k ∈ keys8) (hkd : kd = 3 ∨ kd = 4) :
    wpAny (model PySem.Challenge.rw_bc6014_01.row.prog w) (callerA.deeper (envOf "law" lawScope L fa cd)) (execs (lawBody.drop 1) (envOf "law" lawScope L fa cd)) (TurnEnd h₀ L s own (LawJ w (i + 1)) Q)
      (fun e s' => wpAny (model PySem.Challenge.rw_bc6014_01.row.prog w) (callerA.deeper (envOf "law" lawScope L fa cd)) (leaving (envOf "law" lawScope L fa cd) e) (fun u s'' => Q1 e u s'') E1 s') s := by
  conv in (lawBody.drop 1) => whnf
  conv in (occs := *) lawScope => all_goals whnf
  w_top off; revert X; k_fill; intro X
  obtain ⟨c1, c2⟩ := ok.a2
  obtain ⟨c3, c4, c5⟩ := ok.a3
  obtain ⟨c6, c7, c8, c9⟩ := ok.a4
  obtain ⟨c10, c11, c12, c13, c14⟩ := ok.a5
  have c0 := ok.a1
  have o1 : ∀ p ∈ R, p.1 ≠ x := fun p hp => (off p hp).1
  have o2 : ∀ p ∈ R, p.1 ≠ dx := fun p hp => (off p hp).2.1
  have o3 : ∀ p ∈ R, p.1 ≠ md := fun p hp => (off p hp).2.2.1
  have o4 : ∀ p ∈ R, p.1 ≠ df := fun p hp => (off p hp).2.2.2.1
  have o5 : ∀ p ∈ R, p.1 ≠ nx := fun p hp => (off p hp).2.2.2.2.1
  have o6 : ∀ p ∈ R, p.1 ≠ rw := fun p hp => (off p hp).2.2.2.2.2
  have kl := ok.klen
  have rl := ok.rlen
  have im := ok.model
  have ir := ok.rows
  have lm := ok.lom
  have lr := ok.lor
  have dz : defs.size ≤ 62 := Nat.le_trans ok.dlen (Nat.le_of_lt hi)
  have hrc : valueAt rws k = none ∨ ∃ rv, valueAt rws k = some rv := by
    cases valueAt rws k with
    | none => exact .inl rfl
    | some rv => exact .inr ⟨rv, rfl⟩
  rcases hkd with rfl | rfl
  all_goals
    repeat' ((fail_if_success (with_reducible show wpAny _ _ (call (Value.ref _) _) _ _ _)); first | (k_unfold; (try dsimp only)) | walk1 | (dsimp only; walk1))
    rename (Fr _ _ _ _) => F9
    rename (News _ _ _ _) => N9
    refine set_thing B F9 X N9 T rfl (by k_room) (by k_units) c0 ?ho ok.lox ok.ents (le_size kl) (by first | exact .inl rfl | exact .inr ⟨_, _, rfl, tok_ne _⟩) (fun es' ep' h' tk F' N' H' => ?_)
    case ho =>
      intro p hp
      simp only [List.mem_cons] at hp
      rcases hp with h | h | h | h | h
      · rw [h]; exact c1
      · rw [h]; exact c3
      · rw [h]; exact c6
      · rw [h]; exact c10
      · exact o1 p h
    clear F9 N9
    rcases hrc with hrn | ⟨rv, hrs⟩
    case' inl =>
      have hw : ∀ k', valueAt rws k' = if k' = k then none else valueAt rws k' := va_same hrn
    case' inr =>
      have hw : ∀ k', valueAt (without rws k) k' = if k' = k then none else valueAt rws k' := fun k' => va_without
    all_goals
      repeat' ((fail_if_success (with_reducible show wpAny _ _ (call (Value.ref _) _) _ _ _)); first | (k_unfold; (try dsimp only)) | walk1 | (dsimp only; walk1))
      rename (Fr _ _ _ _) => F8
      rename (News _ _ _ _) => N8
      have ok' := ok.thing hk8 (by first | exact .inl rfl | exact .inr ⟨_, _, rfl, tok_ne _⟩) H' (by assumption) (by assumption) hw
      refine law_same B F8 X N8 T rfl (by k_room) (by k_units) ok'.lox ok'.lom ok'.ents ok'.model ok'.klen ok'.solid (fun h' tk F' N' => ?_)
      clear F8 N8
      repeat' ((fail_if_success (with_reducible show wpAny _ _ (call (Value.ref _) _) _ _ _)); first | (k_unfold; (try dsimp only)) | walk1 | (dsimp only; walk1))
      rename (Fr _ _ _ _) => F7
      rename (News _ _ _ _) => N7
      exact turn_end F7 N7 rfl rfl rfl rfl rfl (fun p hp => by rw [hR]; exact hp) (sep_any sep _ _ _ _ _ _) ok'
end Mine
/-! DeedRead -/
namespace Mine
local macro_rules | `(tactic| k_mem) => `(tactic| focus ((repeat (first | exact List.Mem.head _ | assumption | refine List.mem_cons_of_mem _ ?_)); done))
local macro_rules | `(tactic| k_room) => `(tactic| first | assumption | ((try dsimp only [Around.deeper, ktrTop, Around.mark, callerA]); omega) | ktr_room)
local macro_rules | `(tactic| ks_enter) => `(tactic| (refine' ks_code_super ?k1 ?k2 ?k3 ?k4 ?k5 ?kA ?kF ?kK ?k6 ?k7 ?k8 ?k9 ?kB ?_ ?c1 ?c2 ?c3 ?c4; (case kA => exact rfl); (case kF => exact rfl); (case kK => first | exact rfl | assumption); (case k1 => k_asm); (case k2 => k_asm); (case k3 => k_asm); (case k4 => k_asm); (case k5 => k_asm); (case k6 => k_is); (case k7 => k_is); (case k8 => k_room); (case k9 => exact BindsTo.of_eq rfl); (case kB => exact locs rfl); (case c1 => decide); (case c2 => exact rfl); (case c3 => exact rfl); (case c4 => exact rfl); intro g' L' h' FG' F' N' B' X' T' l1; (try k_lt l1); (try dsimp only); (try k_lift B')))
local macro_rules | `(tactic| k_units) => `(tactic| first | assumption | ((try dsimp only [Around.deeper, ktrTop, Around.mark, callerA]); have hcL9 := cLine_is; omega) | ktr_units)
local macro_rules | `(tactic| k_all) => `(tactic| assumption)
local macro_rules | `(tactic| k_inst) => `(tactic| (refine' pm_inst ?N ?h1 ?h2; (case N => k_asm); (case h1 => k_mem); (case h2 => k_mem)))
local macro_rules | `(tactic| walk_at "compareOp NotIn str ref") => `(tactic| (k_here; k_dflt (refine' pm_notin_some ?X ?F ?N ?h1 ?h2 ?hm ?hc ?lo ?H ?hv ?_; (case X => k_asm); (case F => k_asm); (case N => k_asm); (case h1 => k_mem); (case h2 => k_mem); (case hm => k_is); (case hc => k_is); (case lo => k_asm); (case H => k_asm); (case hv => k_asm))))
local macro_rules | `(tactic| walk_at "compareOp NotIn str ref") => `(tactic| (k_here; k_dflt (refine' pm_notin_none ?X ?F ?N ?h1 ?h2 ?hm ?hc ?lo ?H ?hv ?_; (case X => k_asm); (case F => k_asm); (case N => k_asm); (case h1 => k_mem); (case h2 => k_mem); (case hm => k_is); (case hc => k_is); (case lo => k_asm); (case H => k_asm); (case hv => k_asm))))
local macro_rules | `(tactic| walk_at "compareOp In str ref") => `(tactic| (k_here; k_dflt (refine' pm_in_some ?X ?F ?N ?h1 ?h2 ?hm ?hc ?lo ?H ?hv ?_; (case X => k_asm); (case F => k_asm); (case N => k_asm); (case h1 => k_mem); (case h2 => k_mem); (case hm => k_is); (case hc => k_is); (case lo => k_asm); (case H => k_asm); (case hv => k_asm))))
local macro_rules | `(tactic| walk_at "compareOp In str ref") => `(tactic| (k_here; k_dflt (refine' pm_in_none ?X ?F ?N ?h1 ?h2 ?hm ?hc ?lo ?H ?hv ?_; (case X => k_asm); (case F => k_asm); (case N => k_asm); (case h1 => k_mem); (case h2 => k_mem); (case hm => k_is); (case hc => k_is); (case lo => k_asm); (case H => k_asm); (case hv => k_asm))))
local macro_rules | `(tactic| walk_at "getMethod ref") => `(tactic| (k_here; (with_reducible show wpAny _ _ (getMethod _ (Str.ofString "__getitem__") _) _ _ _); k_dflt (refine' pm_method_get ?F ?X ?N ?h1 ?h2 ?h3 ?ho ?ok ?hm ?_; (case F => k_asm); (case X => k_asm); (case N => k_asm); (case h1 => k_mem); (case h2 => k_mem); (case h3 => k_mem); (case ho => k_is); (case ok => kernel_rfl); (case hm => kernel_rfl); intro q' h' F' N' l1; (try k_lt l1))))
local macro_rules | `(tactic| walk_at "getMethod ref") => `(tactic| (k_here; (with_reducible show wpAny _ _ (getMethod _ (Str.ofString "__setitem__") _) _ _ _); k_dflt (refine' pm_method_set ?F ?X ?N ?h1 ?h2 ?h3 ?ho ?ok ?hm ?_; (case F => k_asm); (case X => k_asm); (case N => k_asm); (case h1 => k_mem); (case h2 => k_mem); (case h3 => k_mem); (case ho => k_is); (case ok => kernel_rfl); (case hm => kernel_rfl); intro q' h' F' N' l1; (try k_lt l1))))
local macro_rules | `(tactic| walk_at "callWith ref") => `(tactic| (k_here; k_dflt (refine' callWith_B ?N ?hq ?hT ?_; (case N => k_asm); (case hq => k_mem); (case hT => first | exact .inl rfl | exact .inr rfl); k_whole)))
local macro_rules | `(tactic| walk_at "And") => `(tactic| ((with_reducible show BndP _ _ _ _ _ ∧ _); refine ⟨bndP (by k_asm) (by k_mem), ?_⟩; try dsimp only [List.nil_append, List.cons_append]))
local macro_rules | `(tactic| walk_at "call ref") => `(tactic| (k_here; (with_reducible show wpAny _ _ (call _ [Value.str _ _]) _ _ _); k_dflt (refine' pm_call_get ?X ?F ?N ?hq ?hx ?hdx ?hcd ?hmod ?hty ?H ?hv ?_; (case X => k_asm); (case F => k_asm); (case N => k_asm); (case hq => k_mem); (case hx => k_mem); (case hdx => k_mem); (case hcd => kernel_rfl); (case hmod => k_is); (case hty => k_is); (case H => k_asm); (case hv => k_asm))))
local macro_rules | `(tactic| walk_at "call ref") => `(tactic| (k_here; (with_reducible show wpAny _ _ (call _ [Value.str _ _, _]) _ _ _); k_dflt (refine' pm_call_set ?X ?F ?N ?hq ?hx ?hdx ?U ?ho ?H ?hsz ?_; (case X => k_asm); (case F => k_asm); (case N => k_asm); (case hq => k_mem); (case hx => k_mem); (case hdx => k_mem); (case U => k_updF); (case ho => k_is); (case H => k_asm); (case hsz => k_asm); intro es' ep' h' F' N' H'; (try dsimp only at N'))))
local macro_rules | `(tactic| walk_at "wpAt") => `(tactic| (ks_step "eval Call"; with_unfolding_all refine ks_wpAt_MethodCall ?_))
local macro_rules | `(tactic| walk_at "BndP") => `(tactic| (k_dflt (refine' bndP ?N ?hq; (case N => k_asm); (case hq => k_mem))))
local macro_rules | `(tactic| walk_at "wpAt") => `(tactic| (dsimp only; ks_step "execs cons"; refine ks_wpAt_execs_cons ?_))
local macro_rules | `(tactic| walk_at "wpAt") => `(tactic| (ks_step "exec Expr"; with_unfolding_all refine ks_wpAt_Expr_any ?_))
local macro_rules | `(tactic| walk_at "call builtin:callable") => `(tactic| (k_here; k_dflt (first
  | ((with_reducible show wpAny _ _ (call _ [Value.int _ _]) _ _ _); refine callable_int ?_)
  | (refine' callable_K ?X ?F ?e ?_; (case X => k_asm); (case F => k_asm); (case e => k_is))
  | (refine' callable_inst ?X ?F ?I ?e ?_; (case X => k_asm); (case F => k_asm); (case I => k_inst); (case e => k_is)))))
local macro_rules | `(tactic| walk_at "call builtin:hasattr") => `(tactic| (k_here; k_dflt (first
  | ((with_reducible show wpAny _ _ (call _ [Value.int _ _, _]) _ _ _); refine ha_intK (by exact rfl) (by k_asm) (by k_asm) ?_; intro h' tk' F' N')
  | (refine' ha_fnK ?hA ?X ?F ?N ?e ?_; (case hA => exact rfl); (case X => k_asm); (case F => k_asm); (case N => k_asm); (case e => k_is); intro h' tk' F' N')
  | (refine' ha_instK ?X ?F ?I ?hg ?hm ?hh ?ha ?hn ?hl ?hv ?_; (case X => k_asm); (case F => k_asm); (case I => k_inst); (case hg => k_is); (case hm => k_is); (case hh => k_is); (case ha => k_is); (case hn => k_is); (case hl => k_get); (case hv => k_handed)))))
local macro_rules | `(tactic| walk_at "call builtin:getattr") => `(tactic| (k_here; k_dflt (refine' getattr3_K ?X ?F ?I ?hg ?hm ?hh ?hs ?ha ?hn ?hl ?hv ?_; (case X => k_asm); (case F => k_asm); (case I => k_inst); (case hg => k_is); (case hm => k_is); (case hh => k_is); (case hs => decide +kernel); (case ha => k_is); (case hn => k_is); (case hl => k_get); (case hv => k_handed))))
local macro_rules | `(tactic| walk_at "subscriptTail") => `(tactic| (k_here; (with_reducible show wpAny _ _ (subscriptTail _ _ (Value.ref _) (Value.int _ _)) _ _ _); k_dflt (refine' item_key ?N ?hm ?h0 ?h8 ?_ ?hs; (case N => k_asm); (case hm => k_mem); (case h0 => exact fm0 _); (case h8 => exact fm8 _); (case hs => with_unfolding_all rfl)); intro k' t' hk8'; (try dsimp only)))
local macro_rules | `(tactic| k_room) => `(tactic| first | assumption | decide | ((try dsimp only [Around.deeper, ktrTop, Around.mark, callerA]); omega) | ktr_room)
local macro_rules | `(tactic| k_units) => `(tactic| first | assumption | ((try dsimp only [Around.deeper, ktrTop, Around.mark, callerA]); have hcL9 := cLine_is; omega) | ktr_units)
set_option maxHeartbeats 16000000 in
theorem deed_read {w : World} {p : Program} {loose : List Str} {mean : ExcName → Option Value} {mg mb : Str → Option Value} {fa : Addr} {cd : Value} {h₀ : Heap} {L : Addr} {m₁ : Str → Option Value} {s : Shared} {i : Nat} {n kd : Int} {t tkd tk8 : Tok} {k : Str} {own R rest : List (Addr × Obj)} {Q : Flow → Shared → Prop} {Q1 : Value → Unit → Shared → Prop} {E1 : Value → Shared → Prop}
    {x dx md df nx rw : Addr} {es : Array DictEntry} {ep : Nat} {kvs : List (Str × Value)} {od om orw : Obj} {rws : List (Str × Value)} {defs : Array Value} {cd' : Nat} {nexts : Array Value} {cn : Nat}
    (B : Below callerA h₀ [] h₀) (F : Fr h₀ L s.heap (fun y => if y = "kind" then some (.int kd tkd) else if y = "key" then some (.str k tk8) else if y = "number" then some (.int n t) else if y = "attributes" then some (.ref x) else if y = "model" then some (.ref md) else if y = "defs" then some (.ref df) else if y = "nexts" then some (.ref nx) else if y = "rows" then some (.ref rw) else m₁ y))
    (X : (Mine.hd.heap_39 w.params).In h₀) (N : News h₀ L s.heap ((x, pmdO dx es ep) :: (dx, od) :: (md, om) :: (df, W.listOf defs cd') :: (nx, W.listOf nexts cn) :: (rw, orw) :: R)) (T : Top p loose mean mg mb h₀)
    (hR : R = rest ++ own) (ok : LawOk w i x dx md df nx rw es kvs om orw rws defs nexts rest) (off : ∀ p ∈ R, @Ne Nat p.1 x ∧ @Ne Nat p.1 dx ∧ @Ne Nat p.1 md ∧ @Ne Nat p.1 df ∧ @Ne Nat p.1 nx ∧ @Ne Nat p.1 rw) (sep : ∀ p ∈ (x, pmdO dx es ep) :: (dx, od) :: (md, om) :: (df, W.listOf defs cd') :: (nx, W.listOf nexts cn) :: (rw, orw) :: rest, ∀ q ∈ own, @Ne Nat p.1 q.1) (hi : i < 62) (hk8 : k ∈ keys8) (hkd : 5 ≤ kd) :
    wpAny (model PySem.Challenge.rw_bc6014_01.row.prog w) (callerA.deeper (envOf "law" lawScope L fa cd)) (execs (lawBody.drop 1) (envOf "law" lawScope L fa cd)) (TurnEnd h₀ L s own (LawJ w (i + 1)) Q)
      (fun e s' => wpAny (model PySem.Challenge.rw_bc6014_01.row.prog w) (callerA.deeper (envOf "law" lawScope L fa cd)) (leaving (envOf "law" lawScope L fa cd) e) (fun u s'' => Q1 e u s'') E1 s') s := by
  conv in (lawBody.drop 1) => whnf
  conv in (occs := *) lawScope => all_goals whnf
  w_top off; revert X; k_fill; intro X
  repeat' ((fail_if_success (with_reducible show wpAny _ _ (call (Value.ref _) _) _ _ _)); first | (k_unfold; (try dsimp only)) | walk1 | (dsimp only; walk1))
  rename (Fr _ _ _ _) => F9
  rename (News _ _ _ _) => N9
  have hcase : (∃ v, valueAt kvs k = some v) ∨ (valueAt kvs k = none ∧ ((k = "D" ∨ k = "F1" ∨ k = "I_J" ∨ k = "K") ∨ (k = "a" ∨ k = "Bc" ∨ k = "_E" ∨ k = "g_H"))) := by
    cases hv : valueAt kvs k with
    | some v => exact .inl ⟨v, rfl⟩
    | none =>
      refine .inr ⟨rfl, ?_⟩
      simp only [keys8, List.mem_cons, List.not_mem_nil, or_false] at hk8
      rcases hk8 with h | h | h | h | h | h | h | h <;> simp [h]
  rcases hcase with ⟨v, hv⟩ | ⟨hv, h4 | h4⟩
  · refine read_some B F9 X N9 T rfl (by k_room) (by k_units) ok.lox ok.lom ok.ents ok.model hv (ok.under _ _ hv).solid (fun h' tk F' N' => ?_)
    clear F9 N9
    repeat' ((fail_if_success (with_reducible show wpAny _ _ (call (Value.ref _) _) _ _ _)); first | (k_unfold; (try dsimp only)) | walk1 | (dsimp only; walk1))
    rename (Fr _ _ _ _) => F8
    rename (News _ _ _ _) => N8
    refine law_same B F8 X N8 T rfl (by k_room) (by k_units) ok.lox ok.lom ok.ents ok.model ok.klen ok.solid (fun h' tk F' N' => ?_)
    clear F8 N8
    repeat' ((fail_if_success (with_reducible show wpAny _ _ (call (Value.ref _) _) _ _ _)); first | (k_unfold; (try dsimp only)) | walk1 | (dsimp only; walk1))
    rename (Fr _ _ _ _) => F7
    rename (News _ _ _ _) => N7
    exact turn_end F7 N7 rfl rfl rfl rfl rfl (fun p hp => by rw [hR]; exact hp) sep ok.next
  · refine read_self B F9 X N9 T rfl (by k_room) (by k_units) ok.lox ok.lom ok.ents ok.model hv h4 (fun h' tk F' N' => ?_)
    clear F9 N9
    repeat' ((fail_if_success (with_reducible show wpAny _ _ (call (Value.ref _) _) _ _ _)); first | (k_unfold; (try dsimp only)) | walk1 | (dsimp only; walk1))
    rename (Fr _ _ _ _) => F8
    rename (News _ _ _ _) => N8
    refine law_same B F8 X N8 T rfl (by k_room) (by k_units) ok.lox ok.lom ok.ents ok.model ok.klen ok.solid (fun h' tk F' N' => ?_)
    clear F8 N8
    repeat' ((fail_if_success (with_reducible show wpAny _ _ (call (Value.ref _) _) _ _ _)); first | (k_unfold; (try dsimp only)) | walk1 | (dsimp only; walk1))
    rename (Fr _ _ _ _) => F7
    rename (News _ _ _ _) => N7
    exact turn_end F7 N7 rfl rfl rfl rfl rfl (fun p hp => by rw [hR]; exact hp) sep ok.next
  · refine read_err B F9 X N9 T rfl (by k_room) (by k_units) ok.lox ok.lom ok.ents ok.model hv h4 (fun h' tk F' N' => ?_)
    clear F9 N9
    repeat' ((fail_if_success (with_reducible show wpAny _ _ (call (Value.ref _) _) _ _ _)); first | (k_unfold; (try dsimp only)) | walk1 | (dsimp only; walk1))
    rename (Fr _ _ _ _) => F8
    rename (News _ _ _ _) => N8
    refine law_same B F8 X N8 T rfl (by k_room) (by k_units) ok.lox ok.lom ok.ents ok.model ok.klen ok.solid (fun h' tk F' N' => ?_)
    clear F8 N8
    repeat' ((fail_if_success (with_reducible show wpAny _ _ (call (Value.ref _) _) _ _ _)); first | (k_unfold; (try dsimp only)) | walk1 | (dsimp only; walk1))
    rename (Fr _ _ _ _) => F7
    rename (News _ _ _ _) => N7
    exact turn_end F7 N7 rfl rfl rfl rfl rfl (fun p hp => by rw [hR]; exact hp) sep ok.next
end Mine
/-! Turn -/
namespace Mine
local macro_rules | `(tactic| k_mem) => `(tactic| focus ((repeat (first | exact List.Mem.head _ | assumption | refine List.mem_cons_of_mem _ ?_)); done))
local macro_rules | `(tactic| k_room) => `(tactic| first | assumption | ((try dsimp only [Around.deeper, ktrTop, Around.mark, callerA]); omega) | ktr_room)
local macro_rules | `(tactic| ks_enter) => `(tactic| (refine' ks_code_super ?k1 ?k2 ?k3 ?k4 ?k5 ?kA ?kF ?kK ?k6 ?k7 ?k8 ?k9 ?kB ?_ ?c1 ?c2 ?c3 ?c4; (case kA => exact rfl); (case kF => exact rfl); (case kK => first | exact rfl | assumption); (case k1 => k_asm); (case k2 => k_asm); (case k3 => k_asm); (case k4 => k_asm); (case k5 => k_asm); (case k6 => k_is); (case k7 => k_is); (case k8 => k_room); (case k9 => exact BindsTo.of_eq rfl); (case kB => exact locs rfl); (case c1 => decide); (case c2 => exact rfl); (case c3 => exact rfl); (case c4 => exact rfl); intro g' L' h' FG' F' N' B' X' T' l1; (try k_lt l1); (try dsimp only); (try k_lift B')))
local macro_rules | `(tactic| k_units) => `(tactic| first | assumption | ((try dsimp only [Around.deeper, ktrTop, Around.mark, callerA]); have hcL9 := cLine_is; omega) | ktr_units)
local macro_rules | `(tactic| k_all) => `(tactic| assumption)
local macro_rules | `(tactic| k_inst) => `(tactic| (refine' pm_inst ?N ?h1 ?h2; (case N => k_asm); (case h1 => k_mem); (case h2 => k_mem)))
local macro_rules | `(tactic| walk_at "compareOp NotIn str ref") => `(tactic| (k_here; k_dflt (refine' pm_notin_some ?X ?F ?N ?h1 ?h2 ?hm ?hc ?lo ?H ?hv ?_; (case X => k_asm); (case F => k_asm); (case N => k_asm); (case h1 => k_mem); (case h2 => k_mem); (case hm => k_is); (case hc => k_is); (case lo => k_asm); (case H => k_asm); (case hv => k_asm))))
local macro_rules | `(tactic| walk_at "compareOp NotIn str ref") => `(tactic| (k_here; k_dflt (refine' pm_notin_none ?X ?F ?N ?h1 ?h2 ?hm ?hc ?lo ?H ?hv ?_; (case X => k_asm); (case F => k_asm); (case N => k_asm); (case h1 => k_mem); (case h2 => k_mem); (case hm => k_is); (case hc => k_is); (case lo => k_asm); (case H => k_asm); (case hv => k_asm))))
local macro_rules | `(tactic| walk_at "compareOp In str ref") => `(tactic| (k_here; k_dflt (refine' pm_in_some ?X ?F ?N ?h1 ?h2 ?hm ?hc ?lo ?H ?hv ?_; (case X => k_asm); (case F => k_asm); (case N => k_asm); (case h1 => k_mem); (case h2 => k_mem); (case hm => k_is); (case hc => k_is); (case lo => k_asm); (case H => k_asm); (case hv => k_asm))))
local macro_rules | `(tactic| walk_at "compareOp In str ref") => `(tactic| (k_here; k_dflt (refine' pm_in_none ?X ?F ?N ?h1 ?h2 ?hm ?hc ?lo ?H ?hv ?_; (case X => k_asm); (case F => k_asm); (case N => k_asm); (case h1 => k_mem); (case h2 => k_mem); (case hm => k_is); (case hc => k_is); (case lo => k_asm); (case H => k_asm); (case hv => k_asm))))
local macro_rules | `(tactic| walk_at "getMethod ref") => `(tactic| (k_here; (with_reducible show wpAny _ _ (getMethod _ (Str.ofString "__getitem__") _) _ _ _); k_dflt (refine' pm_method_get ?F ?X ?N ?h1 ?h2 ?h3 ?ho ?ok ?hm ?_; (case F => k_asm); (case X => k_asm); (case N => k_asm); (case h1 => k_mem); (case h2 => k_mem); (case h3 => k_mem); (case ho => k_is); (case ok => kernel_rfl); (case hm => kernel_rfl); intro q' h' F' N' l1; (try k_lt l1))))
local macro_rules | `(tactic| walk_at "getMethod ref") => `(tactic| (k_here; (with_reducible show wpAny _ _ (getMethod _ (Str.ofString "__setitem__") _) _ _ _); k_dflt (refine' pm_method_set ?F ?X ?N ?h1 ?h2 ?h3 ?ho ?ok ?hm ?_; (case F => k_asm); (case X => k_asm); (case N => k_asm); (case h1 => k_mem); (case h2 => k_mem); (case h3 => k_mem); (case ho => k_is); (case ok => kernel_rfl); (case hm => kernel_rfl); intro q' h' F' N' l1; (try k_lt l1))))
local macro_rules | `(tactic| walk_at "callWith ref") => `(tactic| (k_here; k_dflt (refine' callWith_B ?N ?hq ?hT ?_; (case N => k_asm); (case hq => k_mem); (case hT => first | exact .inl rfl | exact .inr rfl); k_whole)))
local macro_rules | `(tactic| walk_at "And") => `(tactic| ((with_reducible show BndP _ _ _ _ _ ∧ _); refine ⟨bndP (by k_asm) (by k_mem), ?_⟩; try dsimp only [List.nil_append, List.cons_append]))
local macro_rules | `(tactic| walk_at "call ref") => `(tactic| (k_here; (with_reducible show wpAny _ _ (call _ [Value.str _ _]) _ _ _); k_dflt (refine' pm_call_get ?X ?F ?N ?hq ?hx ?hdx ?hcd ?hmod ?hty ?H ?hv ?_; (case X => k_asm); (case F => k_asm); (case N => k_asm); (case hq => k_mem); (case hx => k_mem); (case hdx => k_mem); (case hcd => kernel_rfl); (case hmod => k_is); (case hty => k_is); (case H => k_asm); (case hv => k_asm))))
local macro_rules | `(tactic| walk_at "call ref") => `(tactic| (k_here; (with_reducible show wpAny _ _ (call _ [Value.str _ _, _]) _ _ _); k_dflt (refine' pm_call_set ?X ?F ?N ?hq ?hx ?hdx ?U ?ho ?H ?hsz ?_; (case X => k_asm); (case F => k_asm); (case N => k_asm); (case hq => k_mem); (case hx => k_mem); (case hdx => k_mem); (case U => k_updF); (case ho => k_is); (case H => k_asm); (case hsz => k_asm); intro es' ep' h' F' N' H'; (try dsimp only at N'))))
local macro_rules | `(tactic| walk_at "wpAt") => `(tactic| (ks_step "eval Call"; with_unfolding_all refine ks_wpAt_MethodCall ?_))
local macro_rules | `(tactic| walk_at "BndP") => `(tactic| (k_dflt (refine' bndP ?N ?hq; (case N => k_asm); (case hq => k_mem))))
local macro_rules | `(tactic| walk_at "wpAt") => `(tactic| (dsimp only; ks_step "execs cons"; refine ks_wpAt_execs_cons ?_))
local macro_rules | `(tactic| walk_at "wpAt") => `(tactic| (ks_step "exec Expr"; with_unfolding_all refine ks_wpAt_Expr_any ?_))
local macro_rules | `(tactic| walk_at "call builtin:callable") => `(tactic| (k_here; k_dflt (first
  | ((with_reducible show wpAny _ _ (call _ [Value.int _ _]) _ _ _); refine callable_int ?_)
  | (refine' callable_K ?X ?F ?e ?_; (case X => k_asm); (case F => k_asm); (case e => k_is))
  | (refine' callable_inst ?X ?F ?I ?e ?_; (case X => k_asm); (case F => k_asm); (case I => k_inst); (case e => k_is)))))
local macro_rules | `(tactic| walk_at "call builtin:hasattr") => `(tactic| (k_here; k_dflt (first
  | ((with_reducible show wpAny _ _ (call _ [Value.int _ _, _]) _ _ _); refine ha_intK (by exact rfl) (by k_asm) (by k_asm) ?_; intro h' tk' F' N')
  | (refine' ha_fnK ?hA ?X ?F ?N ?e ?_; (case hA => exact rfl); (case X => k_asm); (case F => k_asm); (case N => k_asm); (case e => k_is); intro h' tk' F' N')
  | (refine' ha_instK ?X ?F ?I ?hg ?hm ?hh ?ha ?hn ?hl ?hv ?_; (case X => k_asm); (case F => k_asm); (case I => k_inst); (case hg => k_is); (case hm => k_is); (case hh => k_is); (case ha => k_is); (case hn => k_is); (case hl => k_get); (case hv => k_handed)))))
local macro_rules | `(tactic| walk_at "call builtin:getattr") => `(tactic| (k_here; k_dflt (refine' getattr3_K ?X ?F ?I ?hg ?hm ?hh ?hs ?ha ?hn ?hl ?hv ?_; (case X => k_asm); (case F => k_asm); (case I => k_inst); (case hg => k_is); (case hm => k_is); (case hh => k_is); (case hs => decide +kernel); (case ha => k_is); (case hn => k_is); (case hl => k_get); (case hv => k_handed))))
local macro_rules | `(tactic| walk_at "subscriptTail") => `(tactic| (k_here; (with_reducible show wpAny _ _ (subscriptTail _ _ (Value.ref _) (Value.int _ _)) _ _ _); k_dflt (refine' item_key ?N ?hm ?h0 ?h8 ?_ ?hs; (case N => k_asm); (case hm => k_mem); (case h0 => exact fm0 _); (case h8 => exact fm8 _); (case hs => with_unfolding_all rfl)); intro k' t' hk8'; (try dsimp only)))
local macro_rules | `(tactic| k_room) => `(tactic| first | assumption | decide | ((try dsimp only [Around.deeper, ktrTop, Around.mark, callerA]); omega) | ktr_room)
local macro_rules | `(tactic| k_units) => `(tactic| first | assumption | ((try dsimp only [Around.deeper, ktrTop, Around.mark, callerA]); have hcL9 := cLine_is; omega) | ktr_units)
theorem off_of {w : World} {i : Nat} {x dx md df nx rw : Addr} {es : Array DictEntry} {ep : Nat} {kvs : List (Str × Value)} {od om orw : Obj} {rws : List (Str × Value)} {defs nexts : Array Value} {cd' cn : Nat} {rest own R : List (Addr × Obj)}
    (ok : LawOk w i x dx md df nx rw es kvs om orw rws defs nexts rest) (sep : ∀ p ∈ (x, pmdO dx es ep) :: (dx, od) :: (md, om) :: (df, W.listOf defs cd') :: (nx, W.listOf nexts cn) :: (rw, orw) :: rest, ∀ q ∈ own, @Ne Nat p.1 q.1) (hR : R = rest ++ own) :
    ∀ p ∈ R, @Ne Nat p.1 x ∧ @Ne Nat p.1 dx ∧ @Ne Nat p.1 md ∧ @Ne Nat p.1 df ∧ @Ne Nat p.1 nx ∧ @Ne Nat p.1 rw := by
  intro p hp
  rw [hR] at hp
  rcases List.mem_append.mp hp with hp | hp
  · exact ok.off p hp
  · exact ⟨(sep _ (.head _) p hp).symm, (sep _ (.tail _ (.head _)) p hp).symm, (sep _ (.tail _ (.tail _ (.head _))) p hp).symm, (sep _ (.tail _ (.tail _ (.tail _ (.head _)))) p hp).symm,
      (sep _ (.tail _ (.tail _ (.tail _ (.tail _ (.head _))))) p hp).symm, (sep _ (.tail _ (.tail _ (.tail _ (.tail _ (.tail _ (.head _)))))) p hp).symm⟩
theorem news_drop2 {h₀ h : Heap} {L : Addr} {a b : Addr × Obj} {r : List (Addr × Obj)} (N : News h₀ L h (a :: b :: r)) : News h₀ L h r := fun p hp => N p (.tail _ (.tail _ hp))
set_option maxHeartbeats 16000000 in
theorem law_turn {w : World} {p : Program} {loose : List Str} {mean : ExcName → Option Value} {mg mb : Str → Option Value} {fa : Addr} {cd : Value} {h₀ : Heap} {L : Addr} {m₁ : Str → Option Value} {s : Shared} {i : Nat} {n : Int} {t : Tok} {news₁ own : List (Addr × Obj)} {Q : Flow → Shared → Prop} {Q1 : Value → Unit → Shared → Prop} {E1 : Value → Shared → Prop}
    (B : Below callerA h₀ [] h₀) (F : Fr h₀ L s.heap (fun y => if y = "number" then some (.int n t) else m₁ y)) (X : (Mine.hd.heap_39 w.params).In h₀) (N : News h₀ L s.heap (news₁ ++ own)) (T : Top p loose mean mg mb h₀)
    (J : LawJ w i m₁ news₁) (sep : ∀ p ∈ news₁, ∀ q ∈ own, @Ne Nat p.1 q.1) (hi : i < 62) :
    wpAny (model PySem.Challenge.rw_bc6014_01.row.prog w) (callerA.deeper (envOf "law" lawScope L fa cd)) (execs lawBody (envOf "law" lawScope L fa cd)) (TurnEnd h₀ L s own (LawJ w (i + 1)) Q)
      (fun e s' => wpAny (model PySem.Challenge.rw_bc6014_01.row.prog w) (callerA.deeper (envOf "law" lawScope L fa cd)) (leaving (envOf "law" lawScope L fa cd) e) (fun u s'' => Q1 e u s'') E1 s') s := by
  conv in lawBody => whnf
  conv in (occs := *) lawScope => all_goals whnf
  have X' := X
  w_top off; revert X; k_fill; intro X
  obtain ⟨x, dx, md, df, nx, rw, es, ep, kvs, od, om, orw, rws, defs, cd', nexts, cn, rest, e1, e2, e3, e4, e5, rfl, ok⟩ := J
  rw [mform5 e1 e2 e3 e4 e5] at F
  simp only [List.cons_append] at N
  generalize hR : rest ++ own = R at N
  have off := off_of ok sep hR.symm
  repeat' ((fail_if_success (with_reducible show wpAny _ _ (execs (Stmt.If _ _ _ _ :: _) _) _ _ _)); first | (k_unfold; (try dsimp only)) | walk1 | (dsimp only; walk1))
  rename (Fr _ _ _ _) => F9
  rename (News _ _ _ _) => N9
  rename (_ ∈ keys8) => hk8
  rcases (by have h0 := fm0 n; have h8 := fm8 n; omega : Int.fmod n 8 < 3 ∧ 0 ≤ Int.fmod n 8 ∨ (Int.fmod n 8 = 3 ∨ Int.fmod n 8 = 4) ∨ 5 ≤ Int.fmod n 8) with ⟨hk, hk0⟩ | hk | hk
  · refine deed_def B F9 X' (news_drop2 N9) T hR.symm ok off sep hi hk8 hk hk0 (fun f d rl t1 t2 t3 t4 t5 tl tr h' tk F' N' l1 l2 l3 => ?_)
    cases hv : valueAt kvs _ with
    | none => exact inn_new B F' X' N' T hR.symm ok off sep hi hk8 hk hk0 l1 l2 l3 hv
    | some v =>
      rcases ok.under _ _ hv with ⟨hr, hth⟩ | ⟨rs, q, qs, hr, hC, hRA, hl⟩
      · exact inn_bad B F' X' N' T hR.symm ok off sep hi hk8 hk hk0 l1 l2 l3 hv hr hth
      · exact inn_over B F' X' N' T hR.symm ok off sep hi hk8 hk hk0 l1 l2 l3 hv hr hC hRA hl
  · exact deed_thing B F9 X' (news_drop2 N9) T hR.symm ok off sep hi hk8 hk
  · exact deed_read B F9 X' (news_drop2 N9) T hR.symm ok off sep hi hk8 hk
end Mine
/-! LoopR -/
namespace Mine
section
variable {prog : Program} {w : World} {A : Around} {E : Value → Shared → Prop} {s : Shared}
/-- a loop over range(n) -/
theorem for_range {env : Env} {h₀ : Heap} {x : Str} {body : List Stmt} {r : Addr} {n : Nat} {tu tv tw : Tok} {m₀ : Str → Option Value} {news : List (Addr × Obj)} {Q : Flow → Shared → Prop} (J : Nat → (Str → Option Value) → List (Addr × Obj) → Prop)
    (hh : A.handled = none) (F : Fr h₀ env.locals s.heap m₀) (N : News h₀ env.locals s.heap news) (hr : IsRange s.heap r 0 (n : Int) 1 tu tv tw) (hsm : n ≤ 62) (h0 : J 0 m₀ news)
    (turn : ∀ i t m₁ news₁ h tk own, i < n → J i m₁ news₁ → (∀ p ∈ news₁, ∀ q ∈ own, @Ne Nat p.1 q.1) → Fr h₀ env.locals h (fun y => if y = x then some (.int (i : Int) t) else m₁ y) → News h₀ env.locals h (news₁ ++ own) →
      wpAny (model prog w) A (execs body env) (TurnEnd h₀ env.locals { s with heap := h, toks := tk } own (J (i + 1)) Q) E { s with heap := h, toks := tk })
    (done : ∀ m₁ news₁ h tk, J n m₁ news₁ → Fr h₀ env.locals h m₁ → News h₀ env.locals h news₁ → Q .next { s with heap := h, toks := tk }) :
    wpAny (model prog w) A (pyIter (.ref r)) (fun it s₂ => LoopAtV prog w A h₀ env x body Q E it s₂) E s := by
  have hLs : @LT.lt Nat _ env.locals s.heap.objs.size := F.ns.lt
  have up : ∀ (o : Obj) b o', s.heap.get? b = some o' → (s.heap.push o).get? b = some o' := fun o b o' e => Heap.get?_push_of_some _ e
  have small : ∀ n : Fin 63, Builtin.Range.small 0 (n.val : Int) 1 = true ∧ Builtin.Range.rangeSize 0 (n.val : Int) 1 = (n.val : Int) := by decide +kernel
  obtain ⟨sm, sz⟩ := small ⟨n, Nat.lt_succ_of_le hsm⟩
  dsimp only at sm sz
  refine wpAny_pyIter_range hr sm ?_
  rw [sz]
  have W := LCg.range_walks (prog := prog) (w := w) (A := A) (I := s.heap.objs.size) hh 0 n
  have off0 : ∀ p ∈ news, @Ne Nat p.1 s.heap.objs.size := fun p hp => Nat.ne_of_lt (Heap.lt_size (N p hp).1)
  refine ⟨_, _, _, n, _, _, m₀, news, J, rfl, W, ?_, ?_, ?_, ?_, F.push _, (fun p hp => ⟨up _ _ _ (N p hp).1, (N p hp).2⟩), h0, ?_, ?_⟩
  · intro hm
    exact absurd hLs (by rw [List.mem_singleton.mp hm]; omega)
  · intro b hb
    rw [List.mem_singleton.mp hb]
    exact next_is_new F
  · intro p hp hI
    exact off0 p hp (List.mem_singleton.mp hI)
  · show IsRangeIter _ _ _ _ _
    rw [show (0 : Int) + ((0 : Nat) : Int) * 1 = 0 from rfl, show (n : Int) - ((0 : Nat) : Int) = (n : Int) from by simp]
    exact Heap.get?_push_size _ rfl
  · rintro i v m₁ news₁ s₁ own ⟨hh', tk', rfl⟩ hin ⟨t, rfl⟩ hJ hoff hown hget hall hst F₁ N₁
    rw [show (0 : Int) + (i : Int) = (i : Int) from by simp] at F₁
    have sep : ∀ p ∈ news₁, ∀ q ∈ own, @Ne Nat p.1 q.1 := by
      intro p hp q hq e
      exact hoff p hp (by rw [e]; exact hown q hq)
    have N₂ : News h₀ env.locals hh' (news₁ ++ own) := fun p hp => N₁ p ((List.mem_append.mp hp).elim (fun h => List.mem_append.mpr (.inr h)) fun h => List.mem_append.mpr (.inl h))
    obtain ⟨oI, hI⟩ : ∃ o, (s.heap.objs.size, o) ∈ own := ⟨_, hall s.heap.objs.size (.head _) (next_is_new F) _ hst⟩
    refine wpAny_mono (turn i t m₁ news₁ hh' tk' own hin hJ sep F₁ N₂) (fun f s₂ p => ?_) fun _ _ e => e
    have fin : (∃ h' tk' m' news', s₂ = { s with heap := h', toks := tk' } ∧ Fr h₀ env.locals h' m' ∧ News h₀ env.locals h' (news' ++ own) ∧ (∀ p ∈ news', ∀ q ∈ own, @Ne Nat p.1 q.1) ∧ J (i + 1) m' news') →
        LoopStepU h₀ env.locals [s.heap.objs.size] own (J (i + 1)) { s with heap := hh', toks := tk' } .next s₂ := by
      rintro ⟨h', tk, m', news', e, F', N', ne, hJ'⟩
      refine ⟨rfl, h', tk, m', news', e, F', fun p hp => N' p ((List.mem_append.mp hp).elim (fun h => List.mem_append.mpr (.inr h)) fun h => List.mem_append.mpr (.inl h)), fun p hp hq => ?_, hJ'⟩
      exact ne p hp _ hI (List.mem_singleton.mp hq)
    cases f with
    | ret v => exact .ret p
    | brk => exact .brk p
    | next => exact .next (fin p)
    | cont => exact .cont (fin p)
  · intro h' tk m' news' F' N' _ hJ
    exact done m' news' h' tk hJ F' N'
/-- a loop over the keys of a dict of the ledger, which no turn changes -/
theorem for_dict {K : Type} [DecidableEq K] {knd : KeyKind prog w K} {env : Env} {h₀ : Heap} {x : Str} {body : List Stmt} {l : Addr} {lo : Obj} {kvs : List (K × Value)} {m₀ : Str → Option Value} {news : List (Addr × Obj)} {Q : Flow → Shared → Prop} (J : Nat → (Str → Option Value) → List (Addr × Obj) → Prop)
    (hh : A.handled = none) (F : Fr h₀ env.locals s.heap m₀) (N : News h₀ env.locals s.heap ((l, lo) :: news)) (hd : lo.IsDictOf knd kvs) (low : (l == sysModules) = false) (hne : ∀ p ∈ news, @Ne Nat p.1 l) (h0 : J 0 m₀ news)
    (turn : ∀ i k u v m₁ news₁ h tk own od, kvs[i]? = some (k, u) → knd.is k v = true → J i m₁ news₁ → (l, od) ∈ own → od.IsDictOf knd kvs → (∀ p ∈ news₁, ∀ q ∈ own, @Ne Nat p.1 q.1) → Fr h₀ env.locals h (fun y => if y = x then some v else m₁ y) → News h₀ env.locals h (news₁ ++ own) →
      wpAny (model prog w) A (execs body env) (TurnEnd h₀ env.locals { s with heap := h, toks := tk } own (J (i + 1)) Q) E { s with heap := h, toks := tk })
    (done : ∀ m₁ news₁ h tk, J kvs.length m₁ news₁ → Fr h₀ env.locals h m₁ → News h₀ env.locals h news₁ → Q .next { s with heap := h, toks := tk }) :
    wpAny (model prog w) A (pyIter (.ref l)) (fun it s₂ => LoopAtV prog w A h₀ env x body Q E it s₂) E s := by
  have hax := N _ (.head _)
  obtain ⟨ep, ha⟩ := KdkAt.of hd
  have hat : s.heap.DictAt knd l kvs ep := ha.dictAt hax.1
  have hlt : @LT.lt Nat _ l s.heap.objs.size := Heap.lt_size hax.1
  have hLs : @LT.lt Nat _ env.locals s.heap.objs.size := F.ns.lt
  have hlI : @Ne Nat l s.heap.objs.size := Nat.ne_of_lt hlt
  have up : ∀ (o : Obj) b o', s.heap.get? b = some o' → (s.heap.push o).get? b = some o' := fun o b o' e => Heap.get?_push_of_some _ e
  refine wpAny_pyIter_dict low hat ?_
  have W := Walks.dictKeys (prog := prog) (w := w) (knd := knd) hh s.heap.objs.size l hlI kvs ep
  refine ⟨_, _, _, kvs.length, _, _, m₀, news, fun i m₁ n₁ => J i m₁ n₁ ∧ ∀ p ∈ n₁, @Ne Nat p.1 l, rfl, W, ?_, ?_, ?_, ⟨⟨_, Heap.get?_push_size _ rfl, rfl, rfl⟩, hat.push _⟩, F.push _, (fun p hp => ⟨up _ _ _ (N p (.tail _ hp)).1, (N p (.tail _ hp)).2⟩), ⟨h0, hne⟩, ?_, ?_⟩
  · intro hm
    rcases List.mem_cons.mp hm with e | hm
    · exact absurd hLs (by rw [e]; omega)
    · exact hax.2.1 (List.mem_singleton.mp hm).symm
  · intro b hb
    rw [List.mem_singleton.mp hb]
    exact next_is_new F
  · intro p hp hI
    have : @LT.lt Nat _ p.1 s.heap.objs.size := Heap.lt_size (N p (.tail _ hp)).1
    exact absurd this (by rw [List.mem_singleton.mp hI]; omega)
  · rintro i v m₁ news₁ s₁ own ⟨hh', tk', rfl⟩ hin ⟨k, u, hP, hkv⟩ ⟨hJ, hnl⟩ hoff hown hget hall hst F₁ N₁
    obtain ⟨ol, hlo, hold⟩ : ∃ o, (l, o) ∈ own ∧ o.IsDictOf knd kvs := by
      obtain ⟨o, es, ho, r⟩ := hst.2
      exact ⟨o, hall l (.tail _ (.head _)) hax.2.2 o ho, ⟨es, ep, r⟩⟩
    have sep : ∀ p ∈ news₁, ∀ q ∈ own, @Ne Nat p.1 q.1 := by
      intro p hp q hq e
      rcases List.mem_cons.mp (hown q hq) with h1 | h1
      · exact hoff p hp (by rw [e, h1]; exact .head _)
      · exact hnl p hp (by rw [e]; exact List.mem_singleton.mp h1)
    have N₂ : News h₀ env.locals hh' (news₁ ++ own) := fun p hp => N₁ p ((List.mem_append.mp hp).elim (fun h => List.mem_append.mpr (.inr h)) fun h => List.mem_append.mpr (.inl h))
    obtain ⟨oI, hI⟩ : ∃ o, (s.heap.objs.size, o) ∈ own := by
      obtain ⟨o, ho, _⟩ := hst.1
      exact ⟨o, hall s.heap.objs.size (.head _) (next_is_new F) o ho⟩
    refine wpAny_mono (turn i k u v m₁ news₁ hh' tk' own ol hP hkv hJ hlo hold sep F₁ N₂) (fun f s₂ p => ?_) fun _ _ e => e
    have fin : (∃ h' tk' m' news', s₂ = { s with heap := h', toks := tk' } ∧ Fr h₀ env.locals h' m' ∧ News h₀ env.locals h' (news' ++ own) ∧ (∀ p ∈ news', ∀ q ∈ own, @Ne Nat p.1 q.1) ∧ J (i + 1) m' news') →
        LoopStepU h₀ env.locals [s.heap.objs.size] own (fun m₁ n₁ => J (i + 1) m₁ n₁ ∧ ∀ p ∈ n₁, @Ne Nat p.1 l) { s with heap := hh', toks := tk' } .next s₂ := by
      rintro ⟨h', tk, m', news', e, F', N', ne, hJ'⟩
      refine ⟨rfl, h', tk, m', news', e, F', fun p hp => N' p ((List.mem_append.mp hp).elim (fun h => List.mem_append.mpr (.inr h)) fun h => List.mem_append.mpr (.inl h)), fun p hp hq => ?_, hJ', fun p hp => ne p hp _ hlo⟩
      exact ne p hp _ hI (List.mem_singleton.mp hq)
    cases f with
    | ret v => exact .ret p
    | brk => exact .brk p
    | next => exact .next (fin p)
    | cont => exact .cont (fin p)
  · intro h' tk m' news' F' N' _ hJ
    exact done m' news' h' tk hJ.1 F' N'
end
end Mine
/-! TailDefs -/
namespace Mine
/-- the law's statements behind the main loop -/
noncomputable def lawTail : List Stmt := lawStmts.drop 8
theorem DefsOk.at {P : Params} {ns : List (Addr × Obj)} : ∀ {vs us : List Value} {i : Nat}, DefsOk P ns vs us → i < vs.length → ∃ v u, vs[i]? = some v ∧ us[i]? = some u ∧ DefOk P ns v u
  | v :: _, u :: _, 0, h, _ => ⟨v, u, rfl, rfl, h.1⟩
  | _ :: vs, _ :: us, i + 1, h, hi => by
    obtain ⟨v, u, a, b, c⟩ := DefsOk.at (i := i) h.2 (by simpa using hi)
    exact ⟨v, u, by simpa using a, by simpa using b, c⟩
  | [], _, _, _, hi => absurd hi (Nat.not_lt_zero _)
  | _ :: _, [], _, h, _ => h.elim
def rowDat (n : Nat) : Dat := .list [.str (xN n)]
theorem rowDat_ok {n : Nat} (h : n < 62) : kqdOk 8 (rowDat n) = true := by
  have : ∀ n : Fin 62, kqdOk 8 (rowDat n.val) = true := by decide +kernel
  exact this ⟨n, h⟩
theorem Chain.small {P : Params} {news : List (Addr × Obj)} : ∀ {v : Value} {l : List Nat}, Chain P news v l → ∀ n ∈ l, n < 62
  | _, [], _, n, h => by cases h
  | _, m :: l, ⟨_, _, _, _, _, _, _, _, _, _, _, _, _, _, _, _, _, _, _, a5, a6⟩, n, h => by
    rcases List.mem_cons.mp h with rfl | h
    · exact a5
    · exact Chain.small a6 n h
theorem Chain.ref {P : Params} {news : List (Addr × Obj)} {v : Value} {n : Nat} {l : List Nat} (h : Chain P news v (n :: l)) : ∃ f, v = .ref f := by
  obtain ⟨f, _, _, _, _, _, _, _, _, _, _, _, _, _, e, _⟩ := h
  exact ⟨f, e⟩
theorem RowLists.dat {news : List (Addr × Obj)} : ∀ {vs : List Value} {l : List Nat}, RowLists news vs l → DatAll news vs (l.map rowDat)
  | [], [], _ => .nil
  | _ :: _, _ :: _, ⟨⟨a, c, t, e, h⟩, r⟩ => by
    rw [e]
    exact .cons (.list (vs := [.str _ t]) h (.cons (.str _ _) .nil)) (RowLists.dat r)
  | [], _ :: _, h => h.elim
  | _ :: _, [], h => h.elim
/-- what the fifth places of the rows are -/
theorem RowItems.out {news : List (Addr × Obj)} : ∀ {vs : List Value} {l : List Nat}, RowItems news vs l → ∃ out : List Value, out.length = vs.length ∧ DatAll news out (l.map rowDat) ∧
    ∀ (i : Nat) v, vs[i]? = some v → ∃ tp sy f t1 ln tl nm tn, v = .ref tp ∧ (tp, ({ cls := .type "tuple", data := .seq #[.ref f, .str "" t1, .int ln tl, .str nm tn, .ref sy] } : Obj)) ∈ news ∧ out[i]? = some (.ref sy)
  | [], [], _ => ⟨[], rfl, .nil, fun i v h => by simp at h⟩
  | v :: vs, n :: l, h => by
    obtain ⟨out, e1, e2, e3⟩ := RowItems.out h.2
    obtain ⟨tp, sy, f, t1, ln, tl, nm, tn, tx, c, e, a1, a2⟩ := h.1
    refine ⟨.ref sy :: out, by simp [e1], .cons (.list (vs := [.str _ tx]) a2 (.cons (.str _ _) .nil)) e2, fun i v' hv => ?_⟩
    cases i with
    | zero =>
      have : v = v' := by simpa using hv
      subst this
      exact ⟨tp, sy, f, t1, ln, tl, nm, tn, e, a1, rfl⟩
    | succ i =>
      obtain ⟨tp', sy', f', t1', ln', tl', nm', tn', q1, q2, q3⟩ := e3 i v' (by simpa using hv)
      exact ⟨tp', sy', f', t1', ln', tl', nm', tn', q1, q2, by simpa using q3⟩
  | [], _ :: _, h => h.elim
  | _ :: _, [], h => h.elim
section
variable {prog : Program} {w : World} {A : Around} {h₀ : Heap} {L : Addr} {m : Str → Option Value} {env : Env} {elt : Expr} {x : Str} {scope : Scope} {cl : List (Str × Addr)} {s : Shared} {S : List (Addr × Obj) → Prop} {Fin : List Value → List (Addr × Obj) → Prop} {news : List (Addr × Obj)}
/-- a comprehension over a list of the ledger, whose items' values are known -/
theorem comp_out {its : Array Value} {out : List Value} (hlen : out.length = its.size)
    (turn : ∀ (i : Nat) v I oI C oC D m₂ ys h tk (E' : Value → Shared → Prop), its[i]? = some v → LCg.NsObj oC m₂ → m₂ x = some v → Fr h₀ L h m → News h₀ L h ((I, oI) :: (C, oC) :: (D, LCg.lst ys) :: news) → LCg.Off3 I C D news → ((@Ne Nat I C) ∧ (@Ne Nat I D) ∧ (@Ne Nat C D)) →
      wpAny (model prog w) A (eval elt (compEnvC scope cl C env)) (LCg.CompEnd h₀ L m { s with heap := h, toks := tk } I oI C oC D (LCg.lst ys) S (fun y news' => news' = news ∧ out[i]? = some y)) E' { s with heap := h, toks := tk })
    (fin : Fin out news) : LCg.CompRest prog w A h₀ L m env elt x scope cl s S (fun i v => its[i]? = some v) Fin its.size 0 [] news := by
  have key : ∀ (j i : Nat) (ys : List Value), i + j = its.size → ys = out.take i → LCg.CompRest prog w A h₀ L m env elt x scope cl s S (fun i v => its[i]? = some v) Fin j i ys news := by
    intro j
    induction j with
    | zero =>
      intro i ys hi hy
      have e : i = out.length := by omega
      rw [e, List.take_length] at hy
      rw [hy]
      exact LCg.CompRest.zero fin
    | succ j ih =>
      intro i ys hi hy
      refine LCg.CompRest.succ ?_
      intro v I oI C oC D m₂ h tk E' hv hC hx F N off ne
      refine wpAny_mono (turn i v I oI C oC D m₂ ys h tk E' hv hC hx F N off ne) (fun y s₂ hq => ?_) fun _ _ e => e
      obtain ⟨h', tk', nw, e, F', N', off', hS, rfl, hy'⟩ := hq
      refine ⟨h', tk', _, e, F', N', off', hS, ih (i + 1) _ (by omega) ?_⟩
      rw [hy, List.take_add_one, hy']
      rfl
  exact key its.size 0 [] (by omega) (by rw [List.take_zero])
end
theorem fit62 {j : Nat} (h : j < 62) : (j : Int) < 2 ^ 63 := by
  have e : (2 : Int) ^ 63 = 9223372036854775808 := by decide
  rw [e]
  omega
theorem kqd_ne_same {prog : Program} {w : World} {A : Around} {E : Value → Shared → Prop} {s : Shared} {h₀ : Heap} {L a b : Addr} {news n₁ n₂ : List (Addr × Obj)} {oa ob : Obj} {xs ys : List Value} {ka kb : Nat} {ds : List Dat} {Q : Value → Shared → Prop}
    (N : News h₀ L s.heap news) (ma : (a, oa) ∈ news) (ca : oa.cls = .type "list") (da : oa.data = .seq xs.toArray ka) (Da : DatAll n₁ xs ds) (sa : ∀ p ∈ n₁, p ∈ news)
    (mb : (b, ob) ∈ news) (cb : ob.cls = .type "list") (db : ob.data = .seq ys.toArray kb) (Db : DatAll n₂ ys ds) (sb : ∀ p ∈ n₂, p ∈ news)
    (ha : ∀ d ∈ ds, kqdOk 8 d = true) (hu : A.units + 64 < cLine) (h : Q (.bool false) s) : wpAny (model prog w) A (compareOp .NotEq (.ref a) (.ref b)) Q E s := by
  classical
  refine kqd_ne N ma ca da Da sa mb cb db Db sb ha ha hu ?_
  rw [decide_eq_true rfl]
  exact h
end Mine
/-! Tail1 -/
namespace Mine
local macro_rules | `(tactic| k_mem) => `(tactic| focus ((repeat (first | exact List.Mem.head _ | assumption | refine List.mem_cons_of_mem _ ?_)); done))
local macro_rules | `(tactic| k_room) => `(tactic| first | assumption | ((try dsimp only [Around.deeper, ktrTop, Around.mark, callerA]); omega) | ktr_room)
local macro_rules | `(tactic| ks_enter) => `(tactic| (refine' ks_code_super ?k1 ?k2 ?k3 ?k4 ?k5 ?kA ?kF ?kK ?k6 ?k7 ?k8 ?k9 ?kB ?_ ?c1 ?c2 ?c3 ?c4; (case kA => exact rfl); (case kF => exact rfl); (case kK => first | exact rfl | assumption); (case k1 => k_asm); (case k2 => k_asm); (case k3 => k_asm); (case k4 => k_asm); (case k5 => k_asm); (case k6 => k_is); (case k7 => k_is); (case k8 => k_room); (case k9 => exact BindsTo.of_eq rfl); (case kB => exact locs rfl); (case c1 => decide); (case c2 => exact rfl); (case c3 => exact rfl); (case c4 => exact rfl); intro g' L' h' FG' F' N' B' X' T' l1; (try k_lt l1); (try dsimp only); (try k_lift B')))
local macro_rules | `(tactic| k_units) => `(tactic| first | assumption | ((try dsimp only [Around.deeper, ktrTop, Around.mark, callerA]); have hcL9 := cLine_is; omega) | ktr_units)
local macro_rules | `(tactic| k_all) => `(tactic| assumption)
local macro_rules | `(tactic| k_inst) => `(tactic| (refine' pm_inst ?N ?h1 ?h2; (case N => k_asm); (case h1 => k_mem); (case h2 => k_mem)))
local macro_rules | `(tactic| walk_at "compareOp NotIn str ref") => `(tactic| (k_here; k_dflt (refine' pm_notin_some ?X ?F ?N ?h1 ?h2 ?hm ?hc ?lo ?H ?hv ?_; (case X => k_asm); (case F => k_asm); (case N => k_asm); (case h1 => k_mem); (case h2 => k_mem); (case hm => k_is); (case hc => k_is); (case lo => k_asm); (case H => k_asm); (case hv => k_asm))))
local macro_rules | `(tactic| walk_at "compareOp NotIn str ref") => `(tactic| (k_here; k_dflt (refine' pm_notin_none ?X ?F ?N ?h1 ?h2 ?hm ?hc ?lo ?H ?hv ?_; (case X => k_asm); (case F => k_asm); (case N => k_asm); (case h1 => k_mem); (case h2 => k_mem); (case hm => k_is); (case hc => k_is); (case lo => k_asm); (case H => k_asm); (case hv => k_asm))))
local macro_rules | `(tactic| walk_at "compareOp In str ref") => `(tactic| (k_here; k_dflt (refine' pm_in_some ?X ?F ?N ?h1 ?h2 ?hm ?hc ?lo ?H ?hv ?_; (case X => k_asm); (case F => k_asm); (case N => k_asm); (case h1 => k_mem); (case h2 => k_mem); (case hm => k_is); (case hc => k_is); (case lo => k_asm); (case H => k_asm); (case hv => k_asm))))
local macro_rules | `(tactic| walk_at "compareOp In str ref") => `(tactic| (k_here; k_dflt (refine' pm_in_none ?X ?F ?N ?h1 ?h2 ?hm ?hc ?lo ?H ?hv ?_; (case X => k_asm); (case F => k_asm); (case N => k_asm); (case h1 => k_mem); (case h2 => k_mem); (case hm => k_is); (case hc => k_is); (case lo => k_asm); (case H => k_asm); (case hv => k_asm))))
local macro_rules | `(tactic| walk_at "getMethod ref") => `(tactic| (k_here; (with_reducible show wpAny _ _ (getMethod _ (Str.ofString "__getitem__") _) _ _ _); k_dflt (refine' pm_method_get ?F ?X ?N ?h1 ?h2 ?h3 ?ho ?ok ?hm ?_; (case F => k_asm); (case X => k_asm); (case N => k_asm); (case h1 => k_mem); (case h2 => k_mem); (case h3 => k_mem); (case ho => k_is); (case ok => kernel_rfl); (case hm => kernel_rfl); intro q' h' F' N' l1; (try k_lt l1))))
local macro_rules | `(tactic| walk_at "getMethod ref") => `(tactic| (k_here; (with_reducible show wpAny _ _ (getMethod _ (Str.ofString "__setitem__") _) _ _ _); k_dflt (refine' pm_method_set ?F ?X ?N ?h1 ?h2 ?h3 ?ho ?ok ?hm ?_; (case F => k_asm); (case X => k_asm); (case N => k_asm); (case h1 => k_mem); (case h2 => k_mem); (case h3 => k_mem); (case ho => k_is); (case ok => kernel_rfl); (case hm => kernel_rfl); intro q' h' F' N' l1; (try k_lt l1))))
local macro_rules | `(tactic| walk_at "callWith ref") => `(tactic| (k_here; k_dflt (refine' callWith_B ?N ?hq ?hT ?_; (case N => k_asm); (case hq => k_mem); (case hT => first | exact .inl rfl | exact .inr rfl); k_whole)))
local macro_rules | `(tactic| walk_at "And") => `(tactic| ((with_reducible show BndP _ _ _ _ _ ∧ _); refine ⟨bndP (by k_asm) (by k_mem), ?_⟩; try dsimp only [List.nil_append, List.cons_append]))
local macro_rules | `(tactic| walk_at "call ref") => `(tactic| (k_here; (with_reducible show wpAny _ _ (call _ [Value.str _ _]) _ _ _); k_dflt (refine' pm_call_get ?X ?F ?N ?hq ?hx ?hdx ?hcd ?hmod ?hty ?H ?hv ?_; (case X => k_asm); (case F => k_asm); (case N => k_asm); (case hq => k_mem); (case hx => k_mem); (case hdx => k_mem); (case hcd => kernel_rfl); (case hmod => k_is); (case hty => k_is); (case H => k_asm); (case hv => k_asm))))
local macro_rules | `(tactic| walk_at "call ref") => `(tactic| (k_here; (with_reducible show wpAny _ _ (call _ [Value.str _ _, _]) _ _ _); k_dflt (refine' pm_call_set ?X ?F ?N ?hq ?hx ?hdx ?U ?ho ?H ?hsz ?_; (case X => k_asm); (case F => k_asm); (case N => k_asm); (case hq => k_mem); (case hx => k_mem); (case hdx => k_mem); (case U => k_updF); (case ho => k_is); (case H => k_asm); (case hsz => k_asm); intro es' ep' h' F' N' H'; (try dsimp only at N'))))
local macro_rules | `(tactic| walk_at "wpAt") => `(tactic| (ks_step "eval Call"; with_unfolding_all refine ks_wpAt_MethodCall ?_))
local macro_rules | `(tactic| walk_at "BndP") => `(tactic| (k_dflt (refine' bndP ?N ?hq; (case N => k_asm); (case hq => k_mem))))
local macro_rules | `(tactic| walk_at "wpAt") => `(tactic| (dsimp only; ks_step "execs cons"; refine ks_wpAt_execs_cons ?_))
local macro_rules | `(tactic| walk_at "wpAt") => `(tactic| (ks_step "exec Expr"; with_unfolding_all refine ks_wpAt_Expr_any ?_))
local macro_rules | `(tactic| walk_at "call builtin:callable") => `(tactic| (k_here; k_dflt (first
  | ((with_reducible show wpAny _ _ (call _ [Value.int _ _]) _ _ _); refine callable_int ?_)
  | (refine' callable_K ?X ?F ?e ?_; (case X => k_asm); (case F => k_asm); (case e => k_is))
  | (refine' callable_inst ?X ?F ?I ?e ?_; (case X => k_asm); (case F => k_asm); (case I => k_inst); (case e => k_is)))))
local macro_rules | `(tactic| walk_at "call builtin:hasattr") => `(tactic| (k_here; k_dflt (first
  | ((with_reducible show wpAny _ _ (call _ [Value.int _ _, _]) _ _ _); refine ha_intK (by exact rfl) (by k_asm) (by k_asm) ?_; intro h' tk' F' N')
  | (refine' ha_fnK ?hA ?X ?F ?N ?e ?_; (case hA => exact rfl); (case X => k_asm); (case F => k_asm); (case N => k_asm); (case e => k_is); intro h' tk' F' N')
  | (refine' ha_instK ?X ?F ?I ?hg ?hm ?hh ?ha ?hn ?hl ?hv ?_; (case X => k_asm); (case F => k_asm); (case I => k_inst); (case hg => k_is); (case hm => k_is); (case hh => k_is); (case ha => k_is); (case hn => k_is); (case hl => k_get); (case hv => k_handed)))))
local macro_rules | `(tactic| walk_at "call builtin:getattr") => `(tactic| (k_here; k_dflt (refine' getattr3_K ?X ?F ?I ?hg ?hm ?hh ?hs ?ha ?hn ?hl ?hv ?_; (case X => k_asm); (case F => k_asm); (case I => k_inst); (case hg => k_is); (case hm => k_is); (case hh => k_is); (case hs => decide +kernel); (case ha => k_is); (case hn => k_is); (case hl => k_get); (case hv => k_handed))))
local macro_rules | `(tactic| walk_at "call builtin:len") => `(tactic| (k_here; k_dflt (refine' kda_len (knd := PySem.strKind _ _) ?N ?hp ?hd ?lo ?hz ?_; (case N => k_asm); (case hp => k_mem); (case hd => k_asm); (case lo => k_asm); (case hz => exact le_len (by assumption)))))
local macro_rules | `(tactic| walk_at "compareOp In str ref") => `(tactic| (k_here; k_dflt (refine' kda_in (knd := PySem.strKind _ _) ?N ?hp ?hd ?lo (strKind_is _ _ _ _) true ?hb ?_; (case N => k_asm); (case hp => k_mem); (case hd => k_asm); (case lo => k_asm); (case hb => exact (congrArg Option.isSome (by with_reducible assumption : valueAt _ _ = some _)).trans rfl))))
local macro_rules | `(tactic| walk_at "compareOp In str ref") => `(tactic| (k_here; k_dflt (refine' kda_in (knd := PySem.strKind _ _) ?N ?hp ?hd ?lo (strKind_is _ _ _ _) false ?hb ?_; (case N => k_asm); (case hp => k_mem); (case hd => k_asm); (case lo => k_asm); (case hb => exact (congrArg Option.isSome (by with_reducible assumption : valueAt _ _ = none)).trans rfl))))
local macro_rules | `(tactic| walk_at "compareOp NotIn str ref") => `(tactic| (k_here; k_dflt (refine' kdg_notin (knd := PySem.strKind _ _) ?N ?hp ?hd ?lo (strKind_is _ _ _ _) true ?hb ?_; (case N => k_asm); (case hp => k_mem); (case hd => k_asm); (case lo => k_asm); (case hb => exact (congrArg Option.isSome (by with_reducible assumption : valueAt _ _ = some _)).trans rfl))))
local macro_rules | `(tactic| walk_at "compareOp NotIn str ref") => `(tactic| (k_here; k_dflt (refine' kdg_notin (knd := PySem.strKind _ _) ?N ?hp ?hd ?lo (strKind_is _ _ _ _) false ?hb ?_; (case N => k_asm); (case hp => k_mem); (case hd => k_asm); (case lo => k_asm); (case hb => exact (congrArg Option.isSome (by with_reducible assumption : valueAt _ _ = none)).trans rfl))))
local macro_rules | `(tactic| walk_at "subscriptTail") => `(tactic| (k_here; (with_reducible show wpAny _ _ (subscriptTail _ _ (Value.ref _) (Value.str _ _)) _ _ _); k_dflt (refine' kda_item (knd := PySem.strKind _ _) ?N ?hp ?hd (strKind_is _ _ _ _) ?hl ?_; (case N => k_asm); (case hp => k_mem); (case hd => k_asm); (case hl => k_asm))))
local macro_rules | `(tactic| walk_at "setItem ref str") => `(tactic| (k_here; k_dflt (refine' kda_set (knd := PySem.strKind _ _) ?F ?N ?U ?d (strKind_is _ _ _ _) ?z ?_; (case F => k_asm); (case N => k_asm); (case U => k_updF); (case d => k_asm); (case z => exact le_size (by assumption))); intro h' o' F' N' hd'; (try dsimp only at N')))
local macro_rules | `(tactic| walk_at "call builtin:dict.pop") => `(tactic| (k_here; k_dflt (refine' kob_pop (knd := PySem.strKind _ _) (more := []) ?F ?N ?U ?d (strKind_is _ _ _ _) (.inl rfl) (by rfl) (PySem.F.args_dict_pop_2 _ _) ?l ?z ?_; (case F => k_asm); (case N => k_asm); (case U => k_updF); (case d => k_asm); (case l => k_asm); (case z => exact le_size (by assumption))); intro h' o' F' N' hd'; (try dsimp only at N')))
local macro_rules | `(tactic| walk_at "subscriptTail") => `(tactic| (k_here; (with_reducible show wpAny _ _ (subscriptTail _ _ (Value.ref _) (Value.int _ _)) _ _ _); k_dflt (refine' item_led ?N ?hm ?h0 ?hf ?hx ?_ ?hs; (case N => k_asm); (case hm => k_mem); (case h0 => omega); (case hf => exact fit62 (by assumption)); (case hx => assumption); (case hs => with_unfolding_all rfl))))
local macro_rules | `(tactic| walk_at "compareOp IsNot ref ref") => `(tactic| ((with_reducible show wpAny _ _ (compareOp .IsNot _ _) _ _ _); refine solid_isNot (.inl ⟨_, rfl⟩) ?_))
/-- the names that the loops behind the main one read -/
def NamesAre (x md df nx rw : Addr) (m : Str → Option Value) : Prop :=
  m "attributes" = some (.ref x) ∧ m "model" = some (.ref md) ∧ m "defs" = some (.ref df) ∧ m "nexts" = some (.ref nx) ∧ m "rows" = some (.ref rw)
noncomputable def tailBody1 : List Stmt := match lawTail with
  | .For _ _ b _ _ :: _ => b
  | _ => []
noncomputable def tailBody2 : List Stmt := match lawTail.drop 1 with
  | .For _ _ b _ _ :: _ => b
  | _ => []
set_option maxHeartbeats 16000000 in
theorem tail1_turn {w : World} {p : Program} {loose : List Str} {mean : ExcName → Option Value} {mg mb : Str → Option Value} {fa : Addr} {cd : Value} {h₀ : Heap} {L : Addr} {m₁ : Str → Option Value} {s : Shared} {Q : Flow → Shared → Prop} {Q1 : Value → Unit → Shared → Prop} {E1 : Value → Shared → Prop}
    {x dx md df nx rw : Addr} {es : Array DictEntry} {ep : Nat} {kvs : List (Str × Value)} {od om orw : Obj} {rws : List (Str × Value)} {defs : Array Value} {cd' : Nat} {nexts : Array Value} {cn : Nat} {R : List (Addr × Obj)} {own : List (Addr × Obj)} {j : Nat} {t : Tok} {f d : Addr} {t1 t2 t3 t4 t5 : Tok} {rl : Addr} {nm li u : Value}
    (B : Below callerA h₀ [] h₀) (F : Fr h₀ L s.heap (fun y => if y = "k" then some (.int (j : Int) t) else m₁ y)) (hm : NamesAre x md df nx rw m₁)
    (X : (Mine.hd.heap_39 w.params).In h₀) (N : News h₀ L s.heap (((x, pmdO dx es ep) :: (dx, od) :: (md, om) :: (df, W.listOf defs cd') :: (nx, W.listOf nexts cn) :: (rw, orw) :: R) ++ own)) (T : Top p loose mean mg mb h₀) (sep : ∀ p ∈ (x, pmdO dx es ep) :: (dx, od) :: (md, om) :: (df, W.listOf defs cd') :: (nx, W.listOf nexts cn) :: (rw, orw) :: R, ∀ q ∈ own, @Ne Nat p.1 q.1)
    (hj : j < 62) (hdef : defs[j]? = some (.ref f)) (hnext : nexts[j]? = some u) (hf : (f, instObj 53 d) ∈ R) (hd : (d, dictOf (rfEs w.params t1 t2 t3 t4 t5 nm (.ref rl) li u) 5) ∈ R) (hu : u = .none ∨ ∃ a, u = .ref a) :
    wpAny (model PySem.Challenge.rw_bc6014_01.row.prog w) (callerA.deeper (envOf "law" lawScope L fa cd)) (execs tailBody1 (envOf "law" lawScope L fa cd)) (TurnEnd h₀ L s own (fun m n => NamesAre x md df nx rw m ∧ n = (x, pmdO dx es ep) :: (dx, od) :: (md, om) :: (df, W.listOf defs cd') :: (nx, W.listOf nexts cn) :: (rw, orw) :: R) Q)
      (fun e s' => wpAny (model PySem.Challenge.rw_bc6014_01.row.prog w) (callerA.deeper (envOf "law" lawScope L fa cd)) (leaving (envOf "law" lawScope L fa cd) e) (fun u s'' => Q1 e u s'') E1 s') s := by
  conv in tailBody1 => whnf
  conv in (occs := *) lawScope => all_goals whnf
  w_top off; revert X; k_fill; intro X
  obtain ⟨e1, e2, e3, e4, e5⟩ := hm
  rw [mform5 e1 e2 e3 e4 e5] at F
  simp only [List.cons_append] at N
  have hf' : (f, instObj 53 d) ∈ R ++ own := List.mem_append_left _ hf
  have hd' : (d, dictOf (rfEs w.params t1 t2 t3 t4 t5 nm (.ref rl) li u) 5) ∈ R ++ own := List.mem_append_left _ hd
  generalize hR2 : R ++ own = R2 at N hf' hd'
  have hdef' : defs[((j : Int)).toNat]? = some (.ref f) := by rw [Int.toNat_natCast]; exact hdef
  have hnext' : nexts[((j : Int)).toNat]? = some u := by rw [Int.toNat_natCast]; exact hnext
  clear hf hd hdef hnext
  rcases hu with rfl | ⟨b, rfl⟩
  all_goals
    repeat' (first | (k_unfold; (try dsimp only)) | walk1 | (dsimp only; walk1))
    rename (Fr _ _ _ _) => F7
    rename (News _ _ _ _) => N7
    exact ⟨_, _, _, _, rfl, F7, fun p hp => N7 p (by rw [← hR2]; exact hp), sep, ⟨rfl, rfl, rfl, rfl, rfl⟩, rfl⟩
end Mine
/-! Collect -/
namespace Mine
local macro_rules | `(tactic| walk_at "none at all") => `(tactic| fail "none")
local macro_rules | `(tactic| k_mem) => `(tactic| focus ((repeat (first | exact List.Mem.head _ | assumption | refine List.mem_cons_of_mem _ ?_)); done))
local macro_rules | `(tactic| k_room) => `(tactic| first | assumption | ((try dsimp only [Around.deeper, ktrTop, Around.mark, callerA]); omega) | ktr_room)
local macro_rules | `(tactic| ks_enter) => `(tactic| (refine' ks_code_super ?k1 ?k2 ?k3 ?k4 ?k5 ?kA ?kF ?kK ?k6 ?k7 ?k8 ?k9 ?kB ?_ ?c1 ?c2 ?c3 ?c4; (case kA => exact rfl); (case kF => exact rfl); (case kK => first | exact rfl | assumption); (case k1 => k_asm); (case k2 => k_asm); (case k3 => k_asm); (case k4 => k_asm); (case k5 => k_asm); (case k6 => k_is); (case k7 => k_is); (case k8 => k_room); (case k9 => exact BindsTo.of_eq rfl); (case kB => exact locs rfl); (case c1 => decide); (case c2 => exact rfl); (case c3 => exact rfl); (case c4 => exact rfl); intro g' L' h' FG' F' N' B' X' T' l1; (try k_lt l1); (try dsimp only); (try k_lift B')))
local macro_rules | `(tactic| k_units) => `(tactic| first | assumption | ((try dsimp only [Around.deeper, ktrTop, Around.mark, callerA]); have hcL9 := cLine_is; omega) | ktr_units)
local macro_rules | `(tactic| k_all) => `(tactic| assumption)
local macro_rules | `(tactic| k_inst) => `(tactic| (refine' pm_inst ?N ?h1 ?h2; (case N => k_asm); (case h1 => k_mem); (case h2 => k_mem)))
local macro_rules | `(tactic| walk_at "compareOp NotIn str ref") => `(tactic| (k_here; k_dflt (refine' pm_notin_some ?X ?F ?N ?h1 ?h2 ?hm ?hc ?lo ?H ?hv ?_; (case X => k_asm); (case F => k_asm); (case N => k_asm); (case h1 => k_mem); (case h2 => k_mem); (case hm => k_is); (case hc => k_is); (case lo => k_asm); (case H => k_asm); (case hv => k_asm))))
local macro_rules | `(tactic| walk_at "compareOp NotIn str ref") => `(tactic| (k_here; k_dflt (refine' pm_notin_none ?X ?F ?N ?h1 ?h2 ?hm ?hc ?lo ?H ?hv ?_; (case X => k_asm); (case F => k_asm); (case N => k_asm); (case h1 => k_mem); (case h2 => k_mem); (case hm => k_is); (case hc => k_is); (case lo => k_asm); (case H => k_asm); (case hv => k_asm))))
local macro_rules | `(tactic| walk_at "compareOp In str ref") => `(tactic| (k_here; k_dflt (refine' pm_in_some ?X ?F ?N ?h1 ?h2 ?hm ?hc ?lo ?H ?hv ?_; (case X => k_asm); (case F => k_asm); (case N => k_asm); (case h1 => k_mem); (case h2 => k_mem); (case hm => k_is); (case hc => k_is); (case lo => k_asm); (case H => k_asm); (case hv => k_asm))))
local macro_rules | `(tactic| walk_at "compareOp In str ref") => `(tactic| (k_here; k_dflt (refine' pm_in_none ?X ?F ?N ?h1 ?h2 ?hm ?hc ?lo ?H ?hv ?_; (case X => k_asm); (case F => k_asm); (case N => k_asm); (case h1 => k_mem); (case h2 => k_mem); (case hm => k_is); (case hc => k_is); (case lo => k_asm); (case H => k_asm); (case hv => k_asm))))
local macro_rules | `(tactic| walk_at "getMethod ref") => `(tactic| (k_here; (with_reducible show wpAny _ _ (getMethod _ (Str.ofString "__getitem__") _) _ _ _); k_dflt (refine' pm_method_get ?F ?X ?N ?h1 ?h2 ?h3 ?ho ?ok ?hm ?_; (case F => k_asm); (case X => k_asm); (case N => k_asm); (case h1 => k_mem); (case h2 => k_mem); (case h3 => k_mem); (case ho => k_is); (case ok => kernel_rfl); (case hm => kernel_rfl); intro q' h' F' N' l1; (try k_lt l1))))
local macro_rules | `(tactic| walk_at "getMethod ref") => `(tactic| (k_here; (with_reducible show wpAny _ _ (getMethod _ (Str.ofString "__setitem__") _) _ _ _); k_dflt (refine' pm_method_set ?F ?X ?N ?h1 ?h2 ?h3 ?ho ?ok ?hm ?_; (case F => k_asm); (case X => k_asm); (case N => k_asm); (case h1 => k_mem); (case h2 => k_mem); (case h3 => k_mem); (case ho => k_is); (case ok => kernel_rfl); (case hm => kernel_rfl); intro q' h' F' N' l1; (try k_lt l1))))
local macro_rules | `(tactic| walk_at "callWith ref") => `(tactic| (k_here; k_dflt (refine' callWith_B ?N ?hq ?hT ?_; (case N => k_asm); (case hq => k_mem); (case hT => first | exact .inl rfl | exact .inr rfl); k_whole)))
local macro_rules | `(tactic| walk_at "And") => `(tactic| ((with_reducible show BndP _ _ _ _ _ ∧ _); refine ⟨bndP (by k_asm) (by k_mem), ?_⟩; try dsimp only [List.nil_append, List.cons_append]))
local macro_rules | `(tactic| walk_at "call ref") => `(tactic| (k_here; (with_reducible show wpAny _ _ (call _ [Value.str _ _]) _ _ _); k_dflt (refine' pm_call_get ?X ?F ?N ?hq ?hx ?hdx ?hcd ?hmod ?hty ?H ?hv ?_; (case X => k_asm); (case F => k_asm); (case N => k_asm); (case hq => k_mem); (case hx => k_mem); (case hdx => k_mem); (case hcd => kernel_rfl); (case hmod => k_is); (case hty => k_is); (case H => k_asm); (case hv => k_asm))))
local macro_rules | `(tactic| walk_at "call ref") => `(tactic| (k_here; (with_reducible show wpAny _ _ (call _ [Value.str _ _, _]) _ _ _); k_dflt (refine' pm_call_set ?X ?F ?N ?hq ?hx ?hdx ?U ?ho ?H ?hsz ?_; (case X => k_asm); (case F => k_asm); (case N => k_asm); (case hq => k_mem); (case hx => k_mem); (case hdx => k_mem); (case U => k_updF); (case ho => k_is); (case H => k_asm); (case hsz => k_asm); intro es' ep' h' F' N' H'; (try dsimp only at N'))))
local macro_rules | `(tactic| walk_at "wpAt") => `(tactic| (ks_step "eval Call"; with_unfolding_all refine ks_wpAt_MethodCall ?_))
local macro_rules | `(tactic| walk_at "BndP") => `(tactic| (k_dflt (refine' bndP ?N ?hq; (case N => k_asm); (case hq => k_mem))))
local macro_rules | `(tactic| walk_at "wpAt") => `(tactic| (dsimp only; ks_step "execs cons"; refine ks_wpAt_execs_cons ?_))
local macro_rules | `(tactic| walk_at "wpAt") => `(tactic| (ks_step "exec Expr"; with_unfolding_all refine ks_wpAt_Expr_any ?_))
local macro_rules | `(tactic| walk_at "call builtin:callable") => `(tactic| (k_here; k_dflt (first
  | ((with_reducible show wpAny _ _ (call _ [Value.int _ _]) _ _ _); refine callable_int ?_)
  | (refine' callable_K ?X ?F ?e ?_; (case X => k_asm); (case F => k_asm); (case e => k_is))
  | (refine' callable_inst ?X ?F ?I ?e ?_; (case X => k_asm); (case F => k_asm); (case I => k_inst); (case e => k_is)))))
local macro_rules | `(tactic| walk_at "call builtin:hasattr") => `(tactic| (k_here; k_dflt (first
  | ((with_reducible show wpAny _ _ (call _ [Value.int _ _, _]) _ _ _); refine ha_intK (by exact rfl) (by k_asm) (by k_asm) ?_; intro h' tk' F' N')
  | (refine' ha_fnK ?hA ?X ?F ?N ?e ?_; (case hA => exact rfl); (case X => k_asm); (case F => k_asm); (case N => k_asm); (case e => k_is); intro h' tk' F' N')
  | (refine' ha_instK ?X ?F ?I ?hg ?hm ?hh ?ha ?hn ?hl ?hv ?_; (case X => k_asm); (case F => k_asm); (case I => k_inst); (case hg => k_is); (case hm => k_is); (case hh => k_is); (case ha => k_is); (case hn => k_is); (case hl => k_get); (case hv => k_handed)))))
local macro_rules | `(tactic| walk_at "call builtin:getattr") => `(tactic| (k_here; k_dflt (refine' getattr3_K ?X ?F ?I ?hg ?hm ?hh ?hs ?ha ?hn ?hl ?hv ?_; (case X => k_asm); (case F => k_asm); (case I => k_inst); (case hg => k_is); (case hm => k_is); (case hh => k_is); (case hs => decide +kernel); (case ha => k_is); (case hn => k_is); (case hl => k_get); (case hv => k_handed))))
local macro_rules | `(tactic| walk_at "exec For Tuple Call cons nil") => `(tactic| (k_here; k_dflt (refine' For_turns ?F ?_ ?hs ?hE; (case F => k_asm); (case hs => intro _; rfl); (case hE => passes_own))))
local macro_rules | `(tactic| walk_at "call type:zip") => `(tactic| (k_here; k_dflt (refine' zr_forD ?hh ?F ?N ?hm ?hc ?hd ?hr ?hsm ?hpos ?off ?_; (case hh => first | rfl | assumption); (case F => k_asm); (case N => k_asm); (case hm => k_mem); (case hc => rfl); (case hd => rfl); (case hr => first | assumption | exact Heap.get?_push_size _ rfl); (case hsm => exact (zr_small (by assumption)).1); (case hpos => exact (zr_small (by assumption)).2); (case off => assumption))))
local macro_rules | `(tactic| walk_at "call builtin:str.split") => `(tactic| (k_here; k_dflt (refine' split_x ?n ?F ?N ?_; (case n => assumption); (case F => k_asm); (case N => k_asm)); intro D' t' h' tk' F' N' l1; (try k_lt l1)))
local macro_rules | `(tactic| walk_at "compareOp In str ref") => `(tactic| (k_here; k_dflt (refine' in_one ?N ?hp ?hne ?_; (case N => k_asm); (case hp => k_mem); (case hne => first | exact (brace_x (by assumption)).1 | exact (brace_x (by assumption)).2))))
local macro_rules | `(tactic| walk_at "exec While") => `(tactic| (k_here; (with_reducible show wpAny _ _ (exec (Stmt.While (Expr.BoolOp _ _ _) _ _ _) _) _ _ _); k_dflt (refine' while_no ?_ ?hE; (case hE => passes_own))))
local macro_rules | `(tactic| walk_at "And") => `(tactic| ((with_reducible show (_ : Bool) = false ∧ _); refine ⟨rfl, ?_⟩; try dsimp only))
local macro_rules | `(tactic| walk_at "call builtin:list.append") => `(tactic| (k_here; k_dflt (refine' append_K ?k1 ?k2 ?k3 ?_ ?z; (case k1 => k_asm); (case k2 => k_asm); (case k3 => k_upd); (case z => exact size62 (by assumption))); intro h' F' N'))
local macro_rules | `(tactic| walk_at "call builtin:list.extend") => `(tactic| (k_here; k_dflt (refine' kxn_extend ?F ?N ?b ?e ?U ?d ?z ?y ?_; (case F => k_asm); (case N => k_asm); (case b => k_mem); (case e => exact rfl); (case U => k_upd); (case d => exact ext1 (by assumption)); (case z => exact ext2 (by assumption)); (case y => exact ext3 (by assumption))); intro h' F' N'; (try dsimp only at N')))
local macro_rules | `(tactic| walk_at "OnceD") => `(tactic| fail "OnceD")
local macro_rules | `(tactic| walk_at "WhileStep") => `(tactic| fail "WhileStep")
set_option maxHeartbeats 8000000 in
theorem collect {w : World} {p : Program} {loose : List Str} {mean : ExcName → Option Value} {mg mb : Str → Option Value} {dp un : Nat} {gd : Option (List Code)} {cn : Str} {cs : Scope} {a : Addr} {ccd : Value} {cl : List (Str × Addr)} {outer : List Env} {A₀ : Around} {base h₀ : Heap} {L : Addr} {m : Str → Option Value} {s : Shared}
    {v : Value} {ns : List Nat} {news : List (Addr × Obj)} {Q E : Value → Shared → Prop}
    (B : Below A₀ base outer h₀) (F : Fr h₀ L s.heap m) (X : (Mine.hd.heap_39 w.params).In h₀) (N : News h₀ L s.heap news) (T : Top p loose mean mg mb h₀) (hk : cs.kind = .function) (hd : dp + 20 < recursionLimit) (hu : un + 80 < cLine)
    (C : Chain w.params news v ns) (hlen : ns.length ≤ 62)
    (ret : ∀ D items c rest h' tk, Fr h₀ L h' m → News h₀ L h' ((D, W.listOf items c) :: rest) → (∀ p ∈ news, p ∈ rest) → RowItems rest items.toList ns → (∀ p ∈ rest, @Ne Nat p.1 D) → Q (.ref D) { s with heap := h', toks := tk }) :
    wpAny (model PySem.Challenge.rw_bc6014_01.row.prog w) (ktrTop dp un gd cn cs L a ccd cl outer) (call (.ref 89) [v]) Q E s := by
  w_top off; revert X; k_fill; intro X
  refine wpAny_call ?_
  k_dflt ktr_enter
  repeat' ((fail_if_success (with_reducible show wpAny _ _ (exec (Stmt.While _ _ _ _) _) _ _ _)); first | (k_unfold; (try dsimp only)) | walk1 | (dsimp only; walk1))
  rename (News _ _ _ _) => N9
  rename (Fr _ _ _ _) => F9
  rename (∀ p ∈ news, p.1 < _) => l9
  refine While_inv (CollJ w.params ns news _) F9 N9 ⟨v, [], ns, #[], 0, news, rfl, rfl, rfl, rfl, rfl, C, fun _ hp => hp, trivial, fun p hp => Nat.ne_of_lt (l9 p hp)⟩ ?_
  rintro k m₁ news₁ h₁ tk₁ F₁ N₁ ⟨v, don, todo, items, c, rest, e1, e2, e3, e4, rfl, C₁, sub, R₁, off⟩
  rw [m_form e3, m_form e4] at F₁
  cases todo with
  | nil =>
    obtain rfl : v = .none := C₁
    k_steps
    rename (News h₀ L _ (_ :: _)) => N8
    rw [List.append_nil] at e1
    subst e1
    exact ret _ items _ _ _ _ (by assumption) N8 sub R₁ off
  | cons n todo =>
    obtain ⟨f, d, rl, t1, t2, t3, t4, t5, nm, tn, tl, tx, c, nx, rfl, a1, a2, a3, a4, a5, a6⟩ := C₁
    repeat' ((fail_if_success (with_reducible show ∀ (T : Addr) (t' : Tok) (R : List (Addr × Obj)), _)); first | (k_unfold; (try dsimp only)) | walk1 | (dsimp only; walk1))
    intro T t' R h₂ tk₂ sub' offD lR lD F₂ N₂
    have b1 := sub' _ a1
    have b2 := sub' _ a2
    have b3 := sub' _ a3
    have hsz : items.size ≤ 61 := by
      have e5 := R₁.length
      rw [Array.length_toList] at e5
      rw [e1, List.length_append, List.length_cons] at hlen
      omega
    iterate 124 try (first | (k_unfold; (try dsimp only)) | walk1 | (dsimp only; walk1))
    rename (News _ _ _ (_ :: _ :: _ :: _ :: _ :: _ :: _ :: _ :: _ :: _)) => N₃
    refine onceD_of (new := [_, _, _, _, _, _, _, _]) (by assumption) N₃ rfl (fun p hp q hq => ?_) (fun h tk F₄ N₄ => ?_)
    · have lq := lR q hq
      simp only [List.mem_cons, List.not_mem_nil, or_false] at hp
      rcases hp with rfl | rfl | rfl | rfl | rfl | rfl | rfl | rfl <;> (dsimp only; omega)
    · dsimp only at N₄ ⊢
      simp only [List.cons_append, List.nil_append] at N₄
      have hnx : nx = .none ∨ ∃ f2, nx = .ref f2 := by
        cases todo with
        | nil => exact .inl a6
        | cons n2 todo =>
          obtain ⟨f2, _, _, _, _, _, _, _, _, _, _, _, _, _, e, _⟩ := a6
          exact .inr ⟨f2, e⟩
      rcases hnx with rfl | ⟨f2, rfl⟩
      all_goals
        repeat' ((fail_if_success (with_reducible show WhileStep _ _ _ _ _ _ _)); first | (k_unfold; (try dsimp only)) | walk1 | (dsimp only; walk1))
        rename (News _ _ _ (_ :: _ :: _ :: _ :: _ :: _ :: _ :: _ :: _ :: _)) => N₅
        refine WhileStep.intro (n' := todo.length) (by assumption) (news_perm (new := [_, _, _, _, _, _, _, _]) N₅ rfl) (by rw [e2]; exact Nat.lt_succ_self _)
          ⟨_, don ++ [n], todo, _, _, _, by rw [e1, List.append_assoc]; rfl, rfl, rfl, rfl, rfl, a6.sub fun p hp => List.mem_append_right _ hp, fun p hp => List.mem_append_right _ (sub p hp), ?_, ?_⟩
        · rw [Array.toList_push]
          exact (R₁.sub fun p hp => List.mem_append_right _ hp).snoc ⟨_, _, _, _, _, _, _, _, _, _, rfl, .head _, .tail _ (.tail _ (.tail _ (.tail _ (.tail _ (.tail _ (.head _))))))⟩
        · intro p hp
          rcases List.mem_append.mp hp with hp | hp
          · simp only [List.mem_cons, List.not_mem_nil, or_false] at hp
            rcases hp with rfl | rfl | rfl | rfl | rfl | rfl | rfl | rfl <;> (dsimp only; omega)
          · exact off p hp
end Mine
/-! Tail2 -/
namespace Mine
local macro_rules | `(tactic| k_mem) => `(tactic| focus ((repeat (first | exact List.Mem.head _ | assumption | refine List.mem_cons_of_mem _ ?_)); done))
local macro_rules | `(tactic| k_room) => `(tactic| first | assumption | ((try dsimp only [Around.deeper, ktrTop, Around.mark, callerA]); omega) | ktr_room)
local macro_rules | `(tactic| ks_enter) => `(tactic| (refine' ks_code_super ?k1 ?k2 ?k3 ?k4 ?k5 ?kA ?kF ?kK ?k6 ?k7 ?k8 ?k9 ?kB ?_ ?c1 ?c2 ?c3 ?c4; (case kA => exact rfl); (case kF => exact rfl); (case kK => first | exact rfl | assumption); (case k1 => k_asm); (case k2 => k_asm); (case k3 => k_asm); (case k4 => k_asm); (case k5 => k_asm); (case k6 => k_is); (case k7 => k_is); (case k8 => k_room); (case k9 => exact BindsTo.of_eq rfl); (case kB => exact locs rfl); (case c1 => decide); (case c2 => exact rfl); (case c3 => exact rfl); (case c4 => exact rfl); intro g' L' h' FG' F' N' B' X' T' l1; (try k_lt l1); (try dsimp only); (try k_lift B')))
local macro_rules | `(tactic| k_units) => `(tactic| first | assumption | ((try dsimp only [Around.deeper, ktrTop, Around.mark, callerA]); have hcL9 := cLine_is; omega) | ktr_units)
local macro_rules | `(tactic| k_all) => `(tactic| assumption)
local macro_rules | `(tactic| k_inst) => `(tactic| (refine' pm_inst ?N ?h1 ?h2; (case N => k_asm); (case h1 => k_mem); (case h2 => k_mem)))
local macro_rules | `(tactic| walk_at "compareOp NotIn str ref") => `(tactic| (k_here; k_dflt (refine' pm_notin_some ?X ?F ?N ?h1 ?h2 ?hm ?hc ?lo ?H ?hv ?_; (case X => k_asm); (case F => k_asm); (case N => k_asm); (case h1 => k_mem); (case h2 => k_mem); (case hm => k_is); (case hc => k_is); (case lo => k_asm); (case H => k_asm); (case hv => k_asm))))
local macro_rules | `(tactic| walk_at "compareOp NotIn str ref") => `(tactic| (k_here; k_dflt (refine' pm_notin_none ?X ?F ?N ?h1 ?h2 ?hm ?hc ?lo ?H ?hv ?_; (case X => k_asm); (case F => k_asm); (case N => k_asm); (case h1 => k_mem); (case h2 => k_mem); (case hm => k_is); (case hc => k_is); (case lo => k_asm); (case H => k_asm); (case hv => k_asm))))
local macro_rules | `(tactic| walk_at "compareOp In str ref") => `(tactic| (k_here; k_dflt (refine' pm_in_some ?X ?F ?N ?h1 ?h2 ?hm ?hc ?lo ?H ?hv ?_; (case X => k_asm); (case F => k_asm); (case N => k_asm); (case h1 => k_mem); (case h2 => k_mem); (case hm => k_is); (case hc => k_is); (case lo => k_asm); (case H => k_asm); (case hv => k_asm))))
local macro_rules | `(tactic| walk_at "compareOp In str ref") => `(tactic| (k_here; k_dflt (refine' pm_in_none ?X ?F ?N ?h1 ?h2 ?hm ?hc ?lo ?H ?hv ?_; (case X => k_asm); (case F => k_asm); (case N => k_asm); (case h1 => k_mem); (case h2 => k_mem); (case hm => k_is); (case hc => k_is); (case lo => k_asm); (case H => k_asm); (case hv => k_asm))))
local macro_rules | `(tactic| walk_at "getMethod ref") => `(tactic| (k_here; (with_reducible show wpAny _ _ (getMethod _ (Str.ofString "__getitem__") _) _ _ _); k_dflt (refine' pm_method_get ?F ?X ?N ?h1 ?h2 ?h3 ?ho ?ok ?hm ?_; (case F => k_asm); (case X => k_asm); (case N => k_asm); (case h1 => k_mem); (case h2 => k_mem); (case h3 => k_mem); (case ho => k_is); (case ok => kernel_rfl); (case hm => kernel_rfl); intro q' h' F' N' l1; (try k_lt l1))))
local macro_rules | `(tactic| walk_at "getMethod ref") => `(tactic| (k_here; (with_reducible show wpAny _ _ (getMethod _ (Str.ofString "__setitem__") _) _ _ _); k_dflt (refine' pm_method_set ?F ?X ?N ?h1 ?h2 ?h3 ?ho ?ok ?hm ?_; (case F => k_asm); (case X => k_asm); (case N => k_asm); (case h1 => k_mem); (case h2 => k_mem); (case h3 => k_mem); (case ho => k_is); (case ok => kernel_rfl); (case hm => kernel_rfl); intro q' h' F' N' l1; (try k_lt l1))))
local macro_rules | `(tactic| walk_at "callWith ref") => `(tactic| (k_here; k_dflt (refine' callWith_B ?N ?hq ?hT ?_; (case N => k_asm); (case hq => k_mem); (case hT => first | exact .inl rfl | exact .inr rfl); k_whole)))
local macro_rules | `(tactic| walk_at "And") => `(tactic| ((with_reducible show BndP _ _ _ _ _ ∧ _); refine ⟨bndP (by k_asm) (by k_mem), ?_⟩; try dsimp only [List.nil_append, List.cons_append]))
local macro_rules | `(tactic| walk_at "call ref") => `(tactic| (k_here; (with_reducible show wpAny _ _ (call _ [Value.str _ _]) _ _ _); k_dflt (refine' pm_call_get ?X ?F ?N ?hq ?hx ?hdx ?hcd ?hmod ?hty ?H ?hv ?_; (case X => k_asm); (case F => k_asm); (case N => k_asm); (case hq => k_mem); (case hx => k_mem); (case hdx => k_mem); (case hcd => kernel_rfl); (case hmod => k_is); (case hty => k_is); (case H => k_asm); (case hv => k_asm))))
local macro_rules | `(tactic| walk_at "call ref") => `(tactic| (k_here; (with_reducible show wpAny _ _ (call _ [Value.str _ _, _]) _ _ _); k_dflt (refine' pm_call_set ?X ?F ?N ?hq ?hx ?hdx ?U ?ho ?H ?hsz ?_; (case X => k_asm); (case F => k_asm); (case N => k_asm); (case hq => k_mem); (case hx => k_mem); (case hdx => k_mem); (case U => k_updF); (case ho => k_is); (case H => k_asm); (case hsz => k_asm); intro es' ep' h' F' N' H'; (try dsimp only at N'))))
local macro_rules | `(tactic| walk_at "wpAt") => `(tactic| (ks_step "eval Call"; with_unfolding_all refine ks_wpAt_MethodCall ?_))
local macro_rules | `(tactic| walk_at "BndP") => `(tactic| (k_dflt (refine' bndP ?N ?hq; (case N => k_asm); (case hq => k_mem))))
local macro_rules | `(tactic| walk_at "wpAt") => `(tactic| (dsimp only; ks_step "execs cons"; refine ks_wpAt_execs_cons ?_))
local macro_rules | `(tactic| walk_at "wpAt") => `(tactic| (ks_step "exec Expr"; with_unfolding_all refine ks_wpAt_Expr_any ?_))
local macro_rules | `(tactic| walk_at "call builtin:callable") => `(tactic| (k_here; k_dflt (first
  | ((with_reducible show wpAny _ _ (call _ [Value.int _ _]) _ _ _); refine callable_int ?_)
  | (refine' callable_K ?X ?F ?e ?_; (case X => k_asm); (case F => k_asm); (case e => k_is))
  | (refine' callable_inst ?X ?F ?I ?e ?_; (case X => k_asm); (case F => k_asm); (case I => k_inst); (case e => k_is)))))
local macro_rules | `(tactic| walk_at "call builtin:hasattr") => `(tactic| (k_here; k_dflt (first
  | ((with_reducible show wpAny _ _ (call _ [Value.int _ _, _]) _ _ _); refine ha_intK (by exact rfl) (by k_asm) (by k_asm) ?_; intro h' tk' F' N')
  | (refine' ha_fnK ?hA ?X ?F ?N ?e ?_; (case hA => exact rfl); (case X => k_asm); (case F => k_asm); (case N => k_asm); (case e => k_is); intro h' tk' F' N')
  | (refine' ha_instK ?X ?F ?I ?hg ?hm ?hh ?ha ?hn ?hl ?hv ?_; (case X => k_asm); (case F => k_asm); (case I => k_inst); (case hg => k_is); (case hm => k_is); (case hh => k_is); (case ha => k_is); (case hn => k_is); (case hl => k_get); (case hv => k_handed)))))
local macro_rules | `(tactic| walk_at "call builtin:getattr") => `(tactic| (k_here; k_dflt (refine' getattr3_K ?X ?F ?I ?hg ?hm ?hh ?hs ?ha ?hn ?hl ?hv ?_; (case X => k_asm); (case F => k_asm); (case I => k_inst); (case hg => k_is); (case hm => k_is); (case hh => k_is); (case hs => decide +kernel); (case ha => k_is); (case hn => k_is); (case hl => k_get); (case hv => k_handed))))
local macro_rules | `(tactic| walk_at "call builtin:len") => `(tactic| (k_here; k_dflt (refine' kda_len (knd := PySem.strKind _ _) ?N ?hp ?hd ?lo ?hz ?_; (case N => k_asm); (case hp => k_mem); (case hd => k_asm); (case lo => k_asm); (case hz => exact le_len (by assumption)))))
local macro_rules | `(tactic| walk_at "compareOp In str ref") => `(tactic| (k_here; k_dflt (refine' kda_in (knd := PySem.strKind _ _) ?N ?hp ?hd ?lo (strKind_is _ _ _ _) true ?hb ?_; (case N => k_asm); (case hp => k_mem); (case hd => k_asm); (case lo => k_asm); (case hb => exact (congrArg Option.isSome (by with_reducible assumption : valueAt _ _ = some _)).trans rfl))))
local macro_rules | `(tactic| walk_at "compareOp In str ref") => `(tactic| (k_here; k_dflt (refine' kda_in (knd := PySem.strKind _ _) ?N ?hp ?hd ?lo (strKind_is _ _ _ _) false ?hb ?_; (case N => k_asm); (case hp => k_mem); (case hd => k_asm); (case lo => k_asm); (case hb => exact (congrArg Option.isSome (by with_reducible assumption : valueAt _ _ = none)).trans rfl))))
local macro_rules | `(tactic| walk_at "compareOp NotIn str ref") => `(tactic| (k_here; k_dflt (refine' kdg_notin (knd := PySem.strKind _ _) ?N ?hp ?hd ?lo (strKind_is _ _ _ _) true ?hb ?_; (case N => k_asm); (case hp => k_mem); (case hd => k_asm); (case lo => k_asm); (case hb => exact (congrArg Option.isSome (by with_reducible assumption : valueAt _ _ = some _)).trans rfl))))
local macro_rules | `(tactic| walk_at "compareOp NotIn str ref") => `(tactic| (k_here; k_dflt (refine' kdg_notin (knd := PySem.strKind _ _) ?N ?hp ?hd ?lo (strKind_is _ _ _ _) false ?hb ?_; (case N => k_asm); (case hp => k_mem); (case hd => k_asm); (case lo => k_asm); (case hb => exact (congrArg Option.isSome (by with_reducible assumption : valueAt _ _ = none)).trans rfl))))
local macro_rules | `(tactic| walk_at "subscriptTail") => `(tactic| (k_here; (with_reducible show wpAny _ _ (subscriptTail _ _ (Value.ref _) (Value.str _ _)) _ _ _); k_dflt (refine' kda_item (knd := PySem.strKind _ _) ?N ?hp ?hd (strKind_is _ _ _ _) ?hl ?_; (case N => k_asm); (case hp => k_mem); (case hd => k_asm); (case hl => k_asm))))
local macro_rules | `(tactic| walk_at "setItem ref str") => `(tactic| (k_here; k_dflt (refine' kda_set (knd := PySem.strKind _ _) ?F ?N ?U ?d (strKind_is _ _ _ _) ?z ?_; (case F => k_asm); (case N => k_asm); (case U => k_updF); (case d => k_asm); (case z => exact le_size (by assumption))); intro h' o' F' N' hd'; (try dsimp only at N')))
local macro_rules | `(tactic| walk_at "call builtin:dict.pop") => `(tactic| (k_here; k_dflt (refine' kob_pop (knd := PySem.strKind _ _) (more := []) ?F ?N ?U ?d (strKind_is _ _ _ _) (.inl rfl) (by rfl) (PySem.F.args_dict_pop_2 _ _) ?l ?z ?_; (case F => k_asm); (case N => k_asm); (case U => k_updF); (case d => k_asm); (case l => k_asm); (case z => exact le_size (by assumption))); intro h' o' F' N' hd'; (try dsimp only at N')))
local macro_rules | `(tactic| k_room) => `(tactic| first | assumption | decide | ((try dsimp only [Around.deeper, ktrTop, Around.mark, callerA]); omega) | ktr_room)
local macro_rules | `(tactic| k_units) => `(tactic| first | assumption | ((try dsimp only [Around.deeper, ktrTop, Around.mark, callerA]); have hcL9 := cLine_is; omega) | ktr_units)
set_option maxHeartbeats 16000000 in
theorem tail2_turn {w : World} {p : Program} {loose : List Str} {mean : ExcName → Option Value} {mg mb : Str → Option Value} {fa : Addr} {cd : Value} {h₀ : Heap} {L : Addr} {m₁ : Str → Option Value} {s : Shared} {Q : Flow → Shared → Prop} {Q1 : Value → Unit → Shared → Prop} {E1 : Value → Shared → Prop}
    {x dx md df nx rw : Addr} {es : Array DictEntry} {ep : Nat} {kvs : List (Str × Value)} {od om orw : Obj} {rws : List (Str × Value)} {defs : Array Value} {cd' : Nat} {nexts : Array Value} {cn : Nat} {R : List (Addr × Obj)} {own : List (Addr × Obj)} {k : Str} {t : Tok} {od' : Obj} {n : Nat} {ns : List Nat} {f rl : Addr} {items : Array Value} {c : Nat}
    (B : Below callerA h₀ [] h₀) (F : Fr h₀ L s.heap (fun y => if y = "key" then some (.str k t) else m₁ y)) (hm : NamesAre x md df nx rw m₁)
    (X : (Mine.hd.heap_39 w.params).In h₀) (N : News h₀ L s.heap (((x, pmdO dx es ep) :: (dx, od) :: (md, om) :: (df, W.listOf defs cd') :: (nx, W.listOf nexts cn) :: R) ++ own)) (T : Top p loose mean mg mb h₀) (sep : ∀ p ∈ (x, pmdO dx es ep) :: (dx, od) :: (md, om) :: (df, W.listOf defs cd') :: (nx, W.listOf nexts cn) :: R, ∀ q ∈ own, @Ne Nat p.1 q.1)
    (hod : (rw, od') ∈ own) (hdo : od'.IsDictOf (PySem.strKind PySem.Challenge.rw_bc6014_01.row.prog w) rws) (H : Ents w es kvs) (lox : (x == sysModules) = false) (lor : (rw == sysModules) = false)
    (hkv : valueAt kvs k = some (.ref f)) (hkr : valueAt rws k = some (.ref rl)) (hC : Chain w.params R (.ref f) (n :: ns)) (hrl : (rl, W.listOf items c) ∈ R) (hRL : RowLists R items.toList (n :: ns)) (hl : (n :: ns).length ≤ 62) :
    wpAny (model PySem.Challenge.rw_bc6014_01.row.prog w) (callerA.deeper (envOf "law" lawScope L fa cd)) (execs tailBody2 (envOf "law" lawScope L fa cd)) (TurnEnd h₀ L s own (fun m n => NamesAre x md df nx rw m ∧ n = (x, pmdO dx es ep) :: (dx, od) :: (md, om) :: (df, W.listOf defs cd') :: (nx, W.listOf nexts cn) :: R) Q)
      (fun e s' => wpAny (model PySem.Challenge.rw_bc6014_01.row.prog w) (callerA.deeper (envOf "law" lawScope L fa cd)) (leaving (envOf "law" lawScope L fa cd) e) (fun u s'' => Q1 e u s'') E1 s') s := by
  conv in tailBody2 => whnf
  conv in (occs := *) lawScope => all_goals whnf
  w_top off; revert X; k_fill; intro X
  obtain ⟨e1, e2, e3, e4, e5⟩ := hm
  rw [mform5 e1 e2 e3 e4 e5] at F
  dsimp only at F
  simp only [List.cons_append] at N
  have kept : Kept (Chain w.params R (.ref f) (n :: ns) ∧ RowLists R items.toList (n :: ns)) := ⟨hC, hRL⟩
  have hod' : (rw, od') ∈ R ++ own := List.mem_append_right _ hod
  have hrl' : (rl, W.listOf items c) ∈ R ++ own := List.mem_append_left _ hrl
  have inR : Kept (∀ p ∈ R, p ∈ R ++ own) := ⟨fun p hp => List.mem_append_left _ hp⟩
  clear hC hRL hrl
  generalize hR2 : R ++ own = R2 at N hod' hrl' inR
  repeat' ((fail_if_success (with_reducible show wpAny _ _ (eval (Expr.ListComp _ _ _ _) _) _ _ _)); first | (k_unfold; (try dsimp only)) | walk1 | (dsimp only; walk1))
  rename (Fr _ _ _ _) => F9
  refine LCg.ListComp_U F9 (by exact rfl) (by decide) (by exact rfl) (by decide) (by exact rfl) ?_
  repeat' ((fail_if_success (with_reducible show wpAny _ _ (call (Value.ref _) _) _ _ _)); first | (k_unfold; (try dsimp only)) | walk1 | (dsimp only; walk1))
  rename (Fr _ _ _ _) => F9
  rename (News _ _ _ _) => N9
  refine get_some B F9 X N9 T rfl (by k_room) (by k_units) (.head _) (.tail _ (.head _)) lox H hkv (fun h' tk F' N' => ?_)
  clear F9 N9
  repeat' ((fail_if_success (with_reducible show wpAny _ _ (call (Value.ref _) _) _ _ _)); first | (k_unfold; (try dsimp only)) | walk1 | (dsimp only; walk1))
  rename (Fr _ _ _ _) => F9
  rename (News _ _ _ _) => N9
  have hC2 : Chain w.params ((x, pmdO dx es ep) :: (dx, od) :: (md, om) :: (df, W.listOf defs cd') :: (nx, W.listOf nexts cn) :: R2) (.ref f) (n :: ns) := kept.out.1.sub fun p hp => .tail _ (.tail _ (.tail _ (.tail _ (.tail _ (inR.out p hp)))))
  refine collect B F9 X N9 T rfl (by k_room) (by k_units) hC2 hl (fun D its c2 rest h' tk F' N' sub RI neD => ?_)
  clear F9 N9 hC2
  have hsz : its.size ≤ sizeLine := by
    have e := RI.length
    rw [Array.length_toList] at e
    rw [e]
    exact Nat.le_trans hl (by decide)
  have hok : ∀ d ∈ (n :: ns).map rowDat, kqdOk 8 d = true := by
    intro d hd
    obtain ⟨j, hj, rfl⟩ := List.mem_map.mp hd
    exact rowDat_ok (kept.out.1.small j hj)
  obtain ⟨out, ol, oD, oI⟩ := RI.out
  have s1 : (rw, od') ∈ rest := sub _ (.tail _ (.tail _ (.tail _ (.tail _ (.tail _ hod')))))
  have s2 : (rl, W.listOf items c) ∈ rest := sub _ (.tail _ (.tail _ (.tail _ (.tail _ (.tail _ hrl')))))
  have sR : Kept (∀ p ∈ R, p ∈ rest) := ⟨fun p hp => sub _ (.tail _ (.tail _ (.tail _ (.tail _ (.tail _ (inR.out p hp))))))⟩
  have keptD : Kept (DatAll rest out ((n :: ns).map rowDat)) := ⟨oD⟩
  have keptI := Kept.mk oI
  have keptS := Kept.mk sub
  clear RI oD oI inR sub hod hod' hrl'
  refine LCg.CompSrc.ledger rfl F' N' (.head _) hsz (fun g => comp_out (by rw [ol, Array.length_toList]) ?turn ?fin)
  case turn =>
    intro i v I oI' C oC Dc m₂ ys h tk E' hv hNs hx F N off ne
    obtain ⟨tp, sy, f', t1, ln, tl, nm, tn, rfl, ht, ho⟩ := keptI.out i v (by simpa using hv)
    repeat' (first | (k_unfold; (try dsimp only)) | walk1 | (dsimp only; walk1))
    exact LCg.CompEnd.intro (by assumption) (by assumption) _ (fun p hp => hp) off (.inr ⟨_, .head _, rfl, _, rfl⟩) ⟨rfl, ho⟩
  case fin =>
    intro D2 h tk F N off
    clear F' N'
    repeat' ((fail_if_success (with_reducible show wpAny _ _ (compareOp _ _ _) _ _ _)); first | (k_unfold; (try dsimp only)) | walk1 | (dsimp only; walk1))
    rename (Fr _ _ _ _) => F9
    rename (News _ _ _ _) => N9
    refine kqd_ne_same N9 (.head _) rfl rfl keptD.out (fun p hp => .tail _ (.tail _ hp)) (.tail _ (.tail _ s2)) rfl rfl kept.out.2.dat (fun p hp => .tail _ (.tail _ (sR.out p hp))) hok (by k_units) ?_
    repeat' (first | (k_unfold; (try dsimp only)) | walk1 | (dsimp only; walk1))
    rename (Fr _ _ _ _) => F7
    rename (News _ _ _ _) => N7
    exact ⟨_, _, _, _, rfl, F7, fun p hp => N7 p (.tail _ (.tail _ (keptS.out p (by rw [← hR2]; exact hp)))), sep, ⟨rfl, rfl, rfl, rfl, rfl⟩, rfl⟩
end Mine
/-! Tail -/
namespace Mine
local macro_rules | `(tactic| k_mem) => `(tactic| focus ((repeat (first | exact List.Mem.head _ | assumption | refine List.mem_cons_of_mem _ ?_)); done))
local macro_rules | `(tactic| k_room) => `(tactic| first | assumption | ((try dsimp only [Around.deeper, ktrTop, Around.mark, callerA]); omega) | ktr_room)
local macro_rules | `(tactic| ks_enter) => `(tactic| (refine' ks_code_super ?k1 ?k2 ?k3 ?k4 ?k5 ?kA ?kF ?kK ?k6 ?k7 ?k8 ?k9 ?kB ?_ ?c1 ?c2 ?c3 ?c4; (case kA => exact rfl); (case kF => exact rfl); (case kK => first | exact rfl | assumption); (case k1 => k_asm); (case k2 => k_asm); (case k3 => k_asm); (case k4 => k_asm); (case k5 => k_asm); (case k6 => k_is); (case k7 => k_is); (case k8 => k_room); (case k9 => exact BindsTo.of_eq rfl); (case kB => exact locs rfl); (case c1 => decide); (case c2 => exact rfl); (case c3 => exact rfl); (case c4 => exact rfl); intro g' L' h' FG' F' N' B' X' T' l1; (try k_lt l1); (try dsimp only); (try k_lift B')))
local macro_rules | `(tactic| k_units) => `(tactic| first | assumption | ((try dsimp only [Around.deeper, ktrTop, Around.mark, callerA]); have hcL9 := cLine_is; omega) | ktr_units)
local macro_rules | `(tactic| k_all) => `(tactic| assumption)
local macro_rules | `(tactic| k_inst) => `(tactic| (refine' pm_inst ?N ?h1 ?h2; (case N => k_asm); (case h1 => k_mem); (case h2 => k_mem)))
local macro_rules | `(tactic| walk_at "compareOp NotIn str ref") => `(tactic| (k_here; k_dflt (refine' pm_notin_some ?X ?F ?N ?h1 ?h2 ?hm ?hc ?lo ?H ?hv ?_; (case X => k_asm); (case F => k_asm); (case N => k_asm); (case h1 => k_mem); (case h2 => k_mem); (case hm => k_is); (case hc => k_is); (case lo => k_asm); (case H => k_asm); (case hv => k_asm))))
local macro_rules | `(tactic| walk_at "compareOp NotIn str ref") => `(tactic| (k_here; k_dflt (refine' pm_notin_none ?X ?F ?N ?h1 ?h2 ?hm ?hc ?lo ?H ?hv ?_; (case X => k_asm); (case F => k_asm); (case N => k_asm); (case h1 => k_mem); (case h2 => k_mem); (case hm => k_is); (case hc => k_is); (case lo => k_asm); (case H => k_asm); (case hv => k_asm))))
local macro_rules | `(tactic| walk_at "compareOp In str ref") => `(tactic| (k_here; k_dflt (refine' pm_in_some ?X ?F ?N ?h1 ?h2 ?hm ?hc ?lo ?H ?hv ?_; (case X => k_asm); (case F => k_asm); (case N => k_asm); (case h1 => k_mem); (case h2 => k_mem); (case hm => k_is); (case hc => k_is); (case lo => k_asm); (case H => k_asm); (case hv => k_asm))))
local macro_rules | `(tactic| walk_at "compareOp In str ref") => `(tactic| (k_here; k_dflt (refine' pm_in_none ?X ?F ?N ?h1 ?h2 ?hm ?hc ?lo ?H ?hv ?_; (case X => k_asm); (case F => k_asm); (case N => k_asm); (case h1 => k_mem); (case h2 => k_mem); (case hm => k_is); (case hc => k_is); (case lo => k_asm); (case H => k_asm); (case hv => k_asm))))
local macro_rules | `(tactic| walk_at "getMethod ref") => `(tactic| (k_here; (with_reducible show wpAny _ _ (getMethod _ (Str.ofString "__getitem__") _) _ _ _); k_dflt (refine' pm_method_get ?F ?X ?N ?h1 ?h2 ?h3 ?ho ?ok ?hm ?_; (case F => k_asm); (case X => k_asm); (case N => k_asm); (case h1 => k_mem); (case h2 => k_mem); (case h3 => k_mem); (case ho => k_is); (case ok => kernel_rfl); (case hm => kernel_rfl); intro q' h' F' N' l1; (try k_lt l1))))
local macro_rules | `(tactic| walk_at "getMethod ref") => `(tactic| (k_here; (with_reducible show wpAny _ _ (getMethod _ (Str.ofString "__setitem__") _) _ _ _); k_dflt (refine' pm_method_set ?F ?X ?N ?h1 ?h2 ?h3 ?ho ?ok ?hm ?_; (case F => k_asm); (case X => k_asm); (case N => k_asm); (case h1 => k_mem); (case h2 => k_mem); (case h3 => k_mem); (case ho => k_is); (case ok => kernel_rfl); (case hm => kernel_rfl); intro q' h' F' N' l1; (try k_lt l1))))
local macro_rules | `(tactic| walk_at "callWith ref") => `(tactic| (k_here; k_dflt (refine' callWith_B ?N ?hq ?hT ?_; (case N => k_asm); (case hq => k_mem); (case hT => first | exact .inl rfl | exact .inr rfl); k_whole)))
local macro_rules | `(tactic| walk_at "And") => `(tactic| ((with_reducible show BndP _ _ _ _ _ ∧ _); refine ⟨bndP (by k_asm) (by k_mem), ?_⟩; try dsimp only [List.nil_append, List.cons_append]))
local macro_rules | `(tactic| walk_at "call ref") => `(tactic| (k_here; (with_reducible show wpAny _ _ (call _ [Value.str _ _]) _ _ _); k_dflt (refine' pm_call_get ?X ?F ?N ?hq ?hx ?hdx ?hcd ?hmod ?hty ?H ?hv ?_; (case X => k_asm); (case F => k_asm); (case N => k_asm); (case hq => k_mem); (case hx => k_mem); (case hdx => k_mem); (case hcd => kernel_rfl); (case hmod => k_is); (case hty => k_is); (case H => k_asm); (case hv => k_asm))))
local macro_rules | `(tactic| walk_at "call ref") => `(tactic| (k_here; (with_reducible show wpAny _ _ (call _ [Value.str _ _, _]) _ _ _); k_dflt (refine' pm_call_set ?X ?F ?N ?hq ?hx ?hdx ?U ?ho ?H ?hsz ?_; (case X => k_asm); (case F => k_asm); (case N => k_asm); (case hq => k_mem); (case hx => k_mem); (case hdx => k_mem); (case U => k_updF); (case ho => k_is); (case H => k_asm); (case hsz => k_asm); intro es' ep' h' F' N' H'; (try dsimp only at N'))))
local macro_rules | `(tactic| walk_at "wpAt") => `(tactic| (ks_step "eval Call"; with_unfolding_all refine ks_wpAt_MethodCall ?_))
local macro_rules | `(tactic| walk_at "BndP") => `(tactic| (k_dflt (refine' bndP ?N ?hq; (case N => k_asm); (case hq => k_mem))))
local macro_rules | `(tactic| walk_at "wpAt") => `(tactic| (dsimp only; ks_step "execs cons"; refine ks_wpAt_execs_cons ?_))
local macro_rules | `(tactic| walk_at "wpAt") => `(tactic| (ks_step "exec Expr"; with_unfolding_all refine ks_wpAt_Expr_any ?_))
local macro_rules | `(tactic| walk_at "call builtin:callable") => `(tactic| (k_here; k_dflt (first
  | ((with_reducible show wpAny _ _ (call _ [Value.int _ _]) _ _ _); refine callable_int ?_)
  | (refine' callable_K ?X ?F ?e ?_; (case X => k_asm); (case F => k_asm); (case e => k_is))
  | (refine' callable_inst ?X ?F ?I ?e ?_; (case X => k_asm); (case F => k_asm); (case I => k_inst); (case e => k_is)))))
local macro_rules | `(tactic| walk_at "call builtin:hasattr") => `(tactic| (k_here; k_dflt (first
  | ((with_reducible show wpAny _ _ (call _ [Value.int _ _, _]) _ _ _); refine ha_intK (by exact rfl) (by k_asm) (by k_asm) ?_; intro h' tk' F' N')
  | (refine' ha_fnK ?hA ?X ?F ?N ?e ?_; (case hA => exact rfl); (case X => k_asm); (case F => k_asm); (case N => k_asm); (case e => k_is); intro h' tk' F' N')
  | (refine' ha_instK ?X ?F ?I ?hg ?hm ?hh ?ha ?hn ?hl ?hv ?_; (case X => k_asm); (case F => k_asm); (case I => k_inst); (case hg => k_is); (case hm => k_is); (case hh => k_is); (case ha => k_is); (case hn => k_is); (case hl => k_get); (case hv => k_handed)))))
local macro_rules | `(tactic| walk_at "call builtin:getattr") => `(tactic| (k_here; k_dflt (refine' getattr3_K ?X ?F ?I ?hg ?hm ?hh ?hs ?ha ?hn ?hl ?hv ?_; (case X => k_asm); (case F => k_asm); (case I => k_inst); (case hg => k_is); (case hm => k_is); (case hh => k_is); (case hs => decide +kernel); (case ha => k_is); (case hn => k_is); (case hl => k_get); (case hv => k_handed))))
local macro_rules | `(tactic| walk_at "call builtin:len") => `(tactic| (k_here; k_dflt (refine' kda_len (knd := PySem.strKind _ _) ?N ?hp ?hd ?lo ?hz ?_; (case N => k_asm); (case hp => k_mem); (case hd => k_asm); (case lo => k_asm); (case hz => exact le_len (by assumption)))))
local macro_rules | `(tactic| walk_at "compareOp In str ref") => `(tactic| (k_here; k_dflt (refine' kda_in (knd := PySem.strKind _ _) ?N ?hp ?hd ?lo (strKind_is _ _ _ _) true ?hb ?_; (case N => k_asm); (case hp => k_mem); (case hd => k_asm); (case lo => k_asm); (case hb => exact (congrArg Option.isSome (by with_reducible assumption : valueAt _ _ = some _)).trans rfl))))
local macro_rules | `(tactic| walk_at "compareOp In str ref") => `(tactic| (k_here; k_dflt (refine' kda_in (knd := PySem.strKind _ _) ?N ?hp ?hd ?lo (strKind_is _ _ _ _) false ?hb ?_; (case N => k_asm); (case hp => k_mem); (case hd => k_asm); (case lo => k_asm); (case hb => exact (congrArg Option.isSome (by with_reducible assumption : valueAt _ _ = none)).trans rfl))))
local macro_rules | `(tactic| walk_at "compareOp NotIn str ref") => `(tactic| (k_here; k_dflt (refine' kdg_notin (knd := PySem.strKind _ _) ?N ?hp ?hd ?lo (strKind_is _ _ _ _) true ?hb ?_; (case N => k_asm); (case hp => k_mem); (case hd => k_asm); (case lo => k_asm); (case hb => exact (congrArg Option.isSome (by with_reducible assumption : valueAt _ _ = some _)).trans rfl))))
local macro_rules | `(tactic| walk_at "compareOp NotIn str ref") => `(tactic| (k_here; k_dflt (refine' kdg_notin (knd := PySem.strKind _ _) ?N ?hp ?hd ?lo (strKind_is _ _ _ _) false ?hb ?_; (case N => k_asm); (case hp => k_mem); (case hd => k_asm); (case lo => k_asm); (case hb => exact (congrArg Option.isSome (by with_reducible assumption : valueAt _ _ = none)).trans rfl))))
local macro_rules | `(tactic| walk_at "subscriptTail") => `(tactic| (k_here; (with_reducible show wpAny _ _ (subscriptTail _ _ (Value.ref _) (Value.str _ _)) _ _ _); k_dflt (refine' kda_item (knd := PySem.strKind _ _) ?N ?hp ?hd (strKind_is _ _ _ _) ?hl ?_; (case N => k_asm); (case hp => k_mem); (case hd => k_asm); (case hl => k_asm))))
local macro_rules | `(tactic| walk_at "setItem ref str") => `(tactic| (k_here; k_dflt (refine' kda_set (knd := PySem.strKind _ _) ?F ?N ?U ?d (strKind_is _ _ _ _) ?z ?_; (case F => k_asm); (case N => k_asm); (case U => k_updF); (case d => k_asm); (case z => exact le_size (by assumption))); intro h' o' F' N' hd'; (try dsimp only at N')))
local macro_rules | `(tactic| walk_at "call builtin:dict.pop") => `(tactic| (k_here; k_dflt (refine' kob_pop (knd := PySem.strKind _ _) (more := []) ?F ?N ?U ?d (strKind_is _ _ _ _) (.inl rfl) (by rfl) (PySem.F.args_dict_pop_2 _ _) ?l ?z ?_; (case F => k_asm); (case N => k_asm); (case U => k_updF); (case d => k_asm); (case l => k_asm); (case z => exact le_size (by assumption))); intro h' o' F' N' hd'; (try dsimp only at N')))
local macro_rules | `(tactic| k_room) => `(tactic| first | assumption | decide | ((try dsimp only [Around.deeper, ktrTop, Around.mark, callerA]); omega) | ktr_room)
local macro_rules | `(tactic| k_units) => `(tactic| first | assumption | ((try dsimp only [Around.deeper, ktrTop, Around.mark, callerA]); have hcL9 := cLine_is; omega) | ktr_units)
local macro_rules | `(tactic| walk_at "call builtin:len") => `(tactic| (k_here; k_dflt (refine' len_led ?N ?hm ?hz ?_; (case N => k_asm); (case hm => k_mem); (case hz => assumption)); (try dsimp only)))
theorem news_last {h₀ h : Heap} {L : Addr} {a b c d e f : Addr × Obj} {r : List (Addr × Obj)} (N : News h₀ L h (a :: b :: c :: d :: e :: f :: r)) : News h₀ L h (f :: a :: b :: c :: d :: e :: r) := fun p hp => N p (by
  simp only [List.mem_cons] at hp ⊢
  rcases hp with h | h | h | h | h | h | h <;> simp [h])
set_option maxHeartbeats 16000000 in
theorem law_tail {w : World} {p : Program} {loose : List Str} {mean : ExcName → Option Value} {mg mb : Str → Option Value} {fa : Addr} {cd : Value} {h₀ : Heap} {L : Addr} {m₁ : Str → Option Value} {s : Shared} {Q : Flow → Shared → Prop} {Q1 : Value → Shared → Prop} {E1 : Value → Shared → Prop} {i : Nat} {news₁ fix : List (Addr × Obj)}
    (B : Below callerA h₀ [] h₀) (F : Fr h₀ L s.heap m₁) (X : (Mine.hd.heap_39 w.params).In h₀) (N : News h₀ L s.heap (news₁ ++ fix)) (T : Top p loose mean mg mb h₀) (J : LawJ w i m₁ news₁) (sep : ∀ p ∈ news₁, ∀ q ∈ fix, @Ne Nat p.1 q.1) (hi : i ≤ 62)
    (hQ : ∀ m' news' h' tk, Fr h₀ L h' m' → News h₀ L h' news' → (∀ p ∈ fix, p ∈ news') → Q (.ret (.bool true)) { s with heap := h', toks := tk }) :
    wpAny (model PySem.Challenge.rw_bc6014_01.row.prog w) (callerA.deeper (envOf "law" lawScope L fa cd)) (execs lawTail (envOf "law" lawScope L fa cd)) Q
      (fun e s' => wpAny (model PySem.Challenge.rw_bc6014_01.row.prog w) (callerA.deeper (envOf "law" lawScope L fa cd)) (leaving (envOf "law" lawScope L fa cd) e) (fun u s'' => Q1 e s'') E1 s') s := by
  conv in lawTail => whnf
  conv in (occs := *) lawScope => all_goals whnf
  have X' := X
  w_top off; revert X; k_fill; intro X
  obtain ⟨x, dx, md, df, nx, rw, es, ep, kvs, od, om, orw, rws, defs, cd', nexts, cn, rest, e1, e2, e3, e4, e5, rfl, ok⟩ := J
  have hm : NamesAre x md df nx rw m₁ := ⟨e1, e2, e3, e4, e5⟩
  rw [mform5 e1 e2 e3 e4 e5] at F
  simp only [List.cons_append] at N
  have hR : Kept (rest ++ fix = rest ++ fix) := ⟨rfl⟩
  have off := Kept.mk (off_of ok sep rfl)
  have inR : Kept (∀ p ∈ rest, p ∈ rest ++ fix) := ⟨fun p hp => List.mem_append_left _ hp⟩
  have inF : Kept (∀ p ∈ fix, p ∈ rest ++ fix) := ⟨fun p hp => List.mem_append_right _ hp⟩
  generalize rest ++ fix = R at N off inR inF
  have dz : defs.size ≤ 62 := Nat.le_trans ok.dlen hi
  have kok := Kept.mk ok
  have khQ := Kept.mk hQ
  clear ok hQ sep hR
  repeat' ((fail_if_success (with_reducible show wpAny _ _ (exec (Stmt.For _ _ _ _ _) _) _ _ _)); first | (k_unfold; (try dsimp only)) | walk1 | (dsimp only; walk1))
  rename (Fr _ _ _ _) => F9
  refine for_enter F9 (by rfl) (by rfl) ?_
  repeat' ((fail_if_success (with_reducible show wpAny _ _ (pyIter _) _ _ _)); first | (k_unfold; (try dsimp only)) | walk1 | (dsimp only; walk1))
  rename (Fr _ _ _ _) => F9
  rename (News _ _ _ _) => N9
  refine for_range (n := defs.size) (fun _ m n => NamesAre x md df nx rw m ∧ n = (x, pmdO dx es ep) :: (dx, od) :: (md, om) :: (df, W.listOf defs cd') :: (nx, W.listOf nexts cn) :: (rw, orw) :: R) rfl F9 N9 (by assumption) dz ⟨⟨rfl, rfl, rfl, rfl, rfl⟩, rfl⟩ ?turn1 ?done1
  case turn1 =>
    rintro j t m₂ news₂ h tk own hj ⟨hn, rfl⟩ sep2 F2 N2
    obtain ⟨v, u, hv, hu, f, d, t1, t2, t3, t4, t5, nm, rl, li, rfl, a1, a2, hu2⟩ := kok.out.dok.at (i := j) (by simpa using hj)
    exact tail1_turn (kvs := kvs) (rws := rws) B F2 hn X' N2 T sep2 (Nat.lt_of_lt_of_le hj dz) (by simpa using hv) (by simpa using hu) (inR.out _ a1) (inR.out _ a2) hu2
  case done1 =>
    rintro m₂ news₂ h tk ⟨hn, rfl⟩ F2 N2
    clear F9 N9
    obtain ⟨b1, b2, b3, b4, b5⟩ := hn
    rw [mform5 b1 b2 b3 b4 b5] at F2
    dsimp only
    repeat' ((fail_if_success (with_reducible show wpAny _ _ (exec (Stmt.For _ _ _ _ _) _) _ _ _)); first | (k_unfold; (try dsimp only)) | walk1 | (dsimp only; walk1))
    rename (Fr _ _ _ _) => F9
    refine for_enter F9 (by rfl) (by rfl) ?_
    repeat' ((fail_if_success (with_reducible show wpAny _ _ (pyIter _) _ _ _)); first | (k_unfold; (try dsimp only)) | walk1 | (dsimp only; walk1))
    rename (Fr _ _ _ _) => F9
    rename (News _ _ _ _) => N9
    refine for_dict (knd := PySem.strKind PySem.Challenge.rw_bc6014_01.row.prog w) (fun _ m n => NamesAre x md df nx rw m ∧ n = (x, pmdO dx es ep) :: (dx, od) :: (md, om) :: (df, W.listOf defs cd') :: (nx, W.listOf nexts cn) :: R) rfl F9 (news_last N9) kok.out.rows kok.out.lor ?hne ⟨⟨rfl, rfl, rfl, rfl, rfl⟩, rfl⟩ ?turn2 ?done2
    case hne =>
      obtain ⟨c1, c2, c3, c4, c5⟩ := kok.out.a5
      intro p hp
      simp only [List.mem_cons] at hp
      rcases hp with h | h | h | h | h | h
      · rw [h]; exact Ne.symm c1
      · rw [h]; exact Ne.symm c2
      · rw [h]; exact Ne.symm c3
      · rw [h]; exact Ne.symm c4
      · rw [h]; exact Ne.symm c5
      · exact (off.out p h).2.2.2.2.2
    case turn2 =>
      rintro j k u v m₃ news₃ h tk own od' hget his ⟨hn, rfl⟩ hod hdo sep2 F3 N3
      have ok := kok.out
      obtain ⟨t, rfl⟩ := Value.isStrOf_shape his
      have hkr : valueAt rws k = some u := valueAt_of_get (keysNodup_of_isDictOf ok.rows) hget
      cases hkv : valueAt kvs k with
      | none =>
        rw [ok.rsub k hkv] at hkr
        cases hkr
      | some v =>
        rcases ok.under k v hkv with ⟨e, _⟩ | ⟨rl, n, ns, e, C, ⟨items, c, hrl, hRL⟩, hb⟩
        · rw [e] at hkr
          cases hkr
        · rw [e] at hkr
          obtain rfl := Option.some.inj hkr
          obtain ⟨f, rfl⟩ := C.ref
          exact tail2_turn (orw := orw) B F3 hn X' N3 T sep2 hod hdo ok.ents ok.lox ok.lor hkv e (C.sub inR.out) (inR.out _ hrl) (hRL.sub inR.out) (Nat.le_trans hb hi)
    case done2 =>
      rintro m₃ news₃ h tk ⟨hn, rfl⟩ F3 N3
      clear F9 N9
      dsimp only
      repeat' ((fail_if_success (with_reducible show Q (Flow.ret _) _)); first | (k_unfold; (try dsimp only)) | walk1 | (dsimp only; walk1))
      exact khQ.out _ _ _ _ F3 N3 fun p hp => .tail _ (.tail _ (.tail _ (.tail _ (.tail _ (inF.out p hp)))))
end Mine
/-! LoopF -/
namespace Mine
section
variable {prog : Program} {w : World} {A : Around} {E : Value → Shared → Prop} {s : Shared}
/-- a loop over a list of the ledger, beside objects that no turn's word speaks of -/
theorem for_ledgerF {env : Env} {h₀ : Heap} {x : Str} {body : List Stmt} {l : Addr} {lo : Obj} {xs : List Value} {n1 : Nat} {m₀ : Str → Option Value} {news fix : List (Addr × Obj)} {Q : Flow → Shared → Prop} (J : Nat → (Str → Option Value) → List (Addr × Obj) → Prop)
    (hh : A.handled = none) (F : Fr h₀ env.locals s.heap m₀) (N : News h₀ env.locals s.heap ((l, lo) :: (news ++ fix))) (hc : lo.cls = .type "list") (hd : lo.data = .seq xs.toArray n1) (hne : ∀ p ∈ news ++ fix, @Ne Nat p.1 l) (hs : ∀ p ∈ news, ∀ q ∈ fix, @Ne Nat p.1 q.1) (h0 : J 0 m₀ news)
    (turn : ∀ i v m₁ news₁ h tk own, xs[i]? = some v → J i m₁ news₁ → (∀ p ∈ news₁, ∀ q ∈ own, @Ne Nat p.1 q.1) → Fr h₀ env.locals h (fun y => if y = x then some v else m₁ y) → News h₀ env.locals h (news₁ ++ own) →
      wpAny (model prog w) A (execs body env) (TurnEnd h₀ env.locals { s with heap := h, toks := tk } own (J (i + 1)) Q) E { s with heap := h, toks := tk })
    (done : ∀ m₁ news₁ h tk, J xs.length m₁ news₁ → (∀ p ∈ news₁, ∀ q ∈ fix, @Ne Nat p.1 q.1) → Fr h₀ env.locals h m₁ → News h₀ env.locals h (news₁ ++ fix) → Q .next { s with heap := h, toks := tk }) :
    wpAny (model prog w) A (pyIter (.ref l)) (fun it s₂ => LoopAtV prog w A h₀ env x body Q E it s₂) E s := by
  refine for_ledger (fun i m n => ∃ n1, n = n1 ++ fix ∧ J i m n1 ∧ ∀ p ∈ n1, ∀ q ∈ fix, @Ne Nat p.1 q.1) hh F N hc hd hne ⟨news, rfl, h0, hs⟩ ?_ ?_
  · rintro i v m₁ news₁ h tk own hv ⟨n1, rfl, hJ, hs1⟩ sep F₁ N₁
    rw [List.append_assoc] at N₁
    refine wpAny_mono (turn i v m₁ n1 h tk (fix ++ own) hv hJ (fun p hp q hq => ?_) F₁ N₁) (fun f s₄ hT => ?_) fun _ _ e => e
    · rcases List.mem_append.mp hq with hq | hq
      · exact hs1 p hp q hq
      · exact sep p (List.mem_append_left _ hp) q hq
    · have fin : (∃ h' tk' m' news', s₄ = { s with heap := h', toks := tk' } ∧ Fr h₀ env.locals h' m' ∧ News h₀ env.locals h' (news' ++ (fix ++ own)) ∧ (∀ p ∈ news', ∀ q ∈ fix ++ own, @Ne Nat p.1 q.1) ∧ J (i + 1) m' news') →
          ∃ h' tk' m' news', s₄ = { s with heap := h', toks := tk' } ∧ Fr h₀ env.locals h' m' ∧ News h₀ env.locals h' (news' ++ own) ∧ (∀ p ∈ news', ∀ q ∈ own, @Ne Nat p.1 q.1) ∧ ∃ n1, news' = n1 ++ fix ∧ J (i + 1) m' n1 ∧ ∀ p ∈ n1, ∀ q ∈ fix, @Ne Nat p.1 q.1 := by
        rintro ⟨h', tk', m', news', e, F', N', ne, hJ'⟩
        rw [← List.append_assoc] at N'
        refine ⟨h', tk', m', news' ++ fix, e, F', N', fun p hp q hq => ?_, news', rfl, hJ', fun p hp q hq => ne p hp q (List.mem_append_left _ hq)⟩
        rcases List.mem_append.mp hp with hp | hp
        · exact ne p hp q (List.mem_append_right _ hq)
        · exact sep p (List.mem_append_right _ hp) q hq
      cases f with
      | ret v => exact hT
      | brk => exact hT
      | next => exact fin hT
      | cont => exact fin hT
  · rintro m₁ news₁ h tk ⟨n1, rfl, hJ, hs1⟩ F₁ N₁
    exact done m₁ n1 h tk hJ hs1 F₁ N₁
end
end Mine
/-! Law3 -/
namespace Mine
local macro_rules | `(tactic| walk_at "call ref") => `(tactic| (k_here; (show wpAny _ _ (call (Value.ref 166) []) _ _ _); k_dflt (refine' pm_make ?F ?X ?N ?hb ?ok ?_; (case F => k_asm); (case X => k_asm); (case N => k_asm); (case hb => exact Top.nolimit (by k_asm)); (case ok => kernel_rfl)); intro x' dx' h' F' N' l1 l2 lo'; (try k_lt l1); (try k_lt2 l2)))
local macro_rules | `(tactic| walk_at "binaryOp Pow int int") => `(tactic| (refine' pow_int ?a ?b ?_; (case a => decide); (case b => first | exact pow_script (by assumption) (by assumption) | exact pow_range (by omega) (by omega))))
theorem turn_int {vs : List Value} {f g : Int → Int} {ns : List Int} {i : Nat} {v : Value} (I : IntsAre vs (List.map f (List.take 50 ns) ++ List.map g (rangeKs 0 (12 - 0 : Int).toNat))) (hv : vs[i]? = some v) : ∃ n t, v = .int n t ∧ i < 62 := by
  obtain ⟨k, t, e, hk⟩ := IntsAre.at I i v hv
  refine ⟨k, t, e, ?_⟩
  have hl := (List.getElem?_eq_some_iff.mp hk).1
  rw [List.length_append, List.length_map, List.length_map, rangeKs_length, List.length_take] at hl
  have h12 : (12 - 0 : Int).toNat = 12 := rfl
  rw [h12] at hl
  omega
theorem turn_len {vs : List Value} {f g : Int → Int} {ns : List Int} (I : IntsAre vs (List.map f (List.take 50 ns) ++ List.map g (rangeKs 0 (12 - 0 : Int).toNat))) : vs.length ≤ 62 := by
  have hl := I.length
  rw [List.length_append, List.length_map, List.length_map, rangeKs_length, List.length_take] at hl
  have h12 : (12 - 0 : Int).toNat = 12 := rfl
  rw [h12] at hl
  omega
section
variable {prog : Program} {w : World} {A : Around} {E : Value → Shared → Prop} {s : Shared}
theorem for_ledger6 {env : Env} {h₀ : Heap} {x : Str} {body : List Stmt} {l : Addr} {lo : Obj} {xs : List Value} {n1 : Nat} {m₀ : Str → Option Value} {a b c d e f : Addr × Obj} {fix : List (Addr × Obj)} {Q : Flow → Shared → Prop} (J : Nat → (Str → Option Value) → List (Addr × Obj) → Prop)
    (hh : A.handled = none) (F : Fr h₀ env.locals s.heap m₀) (N : News h₀ env.locals s.heap ((l, lo) :: a :: b :: c :: d :: e :: f :: fix)) (hc : lo.cls = .type "list") (hd : lo.data = .seq xs.toArray n1) (hne : ∀ p ∈ a :: b :: c :: d :: e :: f :: fix, @Ne Nat p.1 l) (hs : ∀ p ∈ [a, b, c, d, e, f], ∀ q ∈ fix, @Ne Nat p.1 q.1) (h0 : J 0 m₀ [a, b, c, d, e, f])
    (turn : ∀ i v m₁ news₁ h tk own, xs[i]? = some v → J i m₁ news₁ → (∀ p ∈ news₁, ∀ q ∈ own, @Ne Nat p.1 q.1) → Fr h₀ env.locals h (fun y => if y = x then some v else m₁ y) → News h₀ env.locals h (news₁ ++ own) →
      wpAny (model prog w) A (execs body env) (TurnEnd h₀ env.locals { s with heap := h, toks := tk } own (J (i + 1)) Q) E { s with heap := h, toks := tk })
    (done : ∀ m₁ news₁ h tk, J xs.length m₁ news₁ → (∀ p ∈ news₁, ∀ q ∈ fix, @Ne Nat p.1 q.1) → Fr h₀ env.locals h m₁ → News h₀ env.locals h (news₁ ++ fix) → Q .next { s with heap := h, toks := tk }) :
    wpAny (model prog w) A (pyIter (.ref l)) (fun it s₂ => LoopAtV prog w A h₀ env x body Q E it s₂) E s :=
  for_ledgerF (news := [a, b, c, d, e, f]) J hh F N hc hd hne hs h0 turn done
end
set_option maxHeartbeats 16000000 in
theorem law3 : PySem.Challenge.rw_bc6014_01.Holds := hd (by
  w_strict (
    k_go0
    all_goals try k_fold
    repeat' ((fail_if_success (with_reducible show wpAny _ _ (exec (Stmt.For _ _ _ _ _) _) _ _ _)); first | (k_unfold; (try dsimp only)) | walk1 | (dsimp only; walk1))
    rename (News _ _ _ (_ :: _ :: _ :: _ :: _ :: _ :: _)) => N9
    rename (Fr _ _ _ _) => F9
    refine for_enter F9 (by rfl) (by rfl) ?_
    repeat' ((fail_if_success (with_reducible show wpAny _ _ (pyIter _) _ _ _)); first | (k_unfold; (try dsimp only)) | walk1 | (dsimp only; walk1))
    rename (IntsAre _ (_ ++ _)) => I9
    rename World => w9
    refine for_ledger6 (LawJ w9) rfl F9 (news_first N9) rfl rfl ?hne ?hs ?h0 ?turn ?done
    case hne =>
      intro p hp
      simp only [List.mem_cons, List.not_mem_nil, or_false] at hp
      rcases hp with h | h | h | h | h | h | h | h | h | h | h | h <;> (rw [h]; dsimp only; omega)
    case hs =>
      intro p hp q hq
      simp only [List.mem_cons, List.not_mem_nil, or_false] at hp hq
      rcases hp with h | h | h | h | h | h <;> rcases hq with h' | h' | h' | h' | h' | h' <;> (rw [h, h']; dsimp only; omega)
    case h0 =>
      refine law_start rfl rfl rfl rfl rfl (by assumption) (by assumption) (by assumption) (by assumption) (by assumption) ?_ ?_ ?_ ?_ ?_ ?_ Ents.nil
      · omega
      · omega
      · omega
      · omega
      · omega
      · intro p hp
        cases hp
    case turn =>
      intro i v m₁ news₁ h tk own hv J sep F N
      obtain ⟨n, t, rfl, hi⟩ := turn_int I9 hv
      exact law_turn (by assumption) F (by assumption) N (by assumption) J sep hi
    case done =>
      intro m₁ news₁ h tk J hs F N
      clear N9 F9
      dsimp only
      refine law_tail (by assumption) F (by assumption) N (by assumption) J hs (turn_len I9) (fun m' news' h' tk' F' N' sub => ?_)
      have b1 := sub (127, tabObj #[]) (.tail _ (.tail _ (.tail _ (.head _))))
      have b2 := sub (120, tabObj #[]) (.tail _ (.tail _ (.tail _ (.tail _ (.head _)))))
      have b3 := sub (134, tabObj #[]) (.tail _ (.tail _ (.tail _ (.tail _ (.tail _ (.head _))))))
      k_steps))
end Mine
theorem PySem.Challenge.cw_bc6014_01_holds : PySem.Challenge.rw_bc6014_01.Holds := by
  exact Mine.law3
