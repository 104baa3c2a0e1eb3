import PyProof.Rows.All
import Wide.All
import OpenK.AllK
import Wide.FinOn
import PySem.Challenge.RW_ij0160_01
open PySem PySem.W PyProof.Rows
set_option Elab.async false
set_option rowWalk.seconds 0
set_option linter.unusedVariables false
local macro_rules | `(tactic| walk_at $s:str) => do let t := Lean.Syntax.mkStrLit ("m " ++ s.getString); `(tactic| k_extra $t)
section
open PySem PySem.W PyProof.Rows
set_option maxRecDepth 100000
set_option maxHeartbeats 8000000
namespace Mine
theorem kw_LTop_0 : True := by
  k_with_none
  trivial
local macro_rules | `(tactic| o_head $_) => `(tactic| contradiction)
/-- says nothing and is used nowhere: its tactic lays, on the way, the definition hd.heap_1 of the heap that the text's top leaves -/
theorem hd (hF : False) : PySem.Challenge.rw_ij0160_01.Holds := by
  refine holds_law hF.elim fun said => ?_
  k_head
end Mine
end
section
open PySem PySem.W PyProof.Rows
set_option maxRecDepth 100000
set_option maxHeartbeats 40000000
namespace Mine
theorem kw_LH1_0 : True := by
  k_with_none
  trivial
/-- the head at once, behind the start that the library has run: from there on the text's own top runs in one step of the kernel -/
theorem left_boot {p q : Program} {loose : List Str} {Xt : Shared → Bool} {α : Type} {Yf : Shared → α} {Ya : World → α} {N : Nat} {g0 : Bool} (e : opening p = plainProg p.main.scope.names) (hN : Nat.ble 600 N = true) (f : ∀ s, fenceModules? p s = some s)
    (h : ∀ (w : World) (os : OsState), (topFrom treeTable p w N ⟨boot_heap w.params, Array.mk [], boot_drawn, boot_toks, os⟩).map (fun s => (openSeen q loose (importedModules p.main.body) Xt g0 s, Yf s)) = some (openGood q loose, Ya w)) : LeftO p q loose Xt Yf Ya N g0 := fun w => by
  obtain ⟨⟨h', gs, d, k, os⟩, e1, e2⟩ := Option.map_eq_some_iff.mp (boot_open e hN f w)
  simp only [Prod.mk.injEq] at e2
  obtain ⟨rfl, rfl, rfl, rfl⟩ := e2
  unfold openEnds
  rw [e1]
  exact h w os
/-- the statements of the text whose names the head holds to be as they are written -/
noncomputable def vw : Program := { PySem.Challenge.pw_ij0160_01 with main := { PySem.Challenge.pw_ij0160_01.main with body := [0, 2, 5, 6, 7, 9, 11, 12, 13, 14, 15, 16, 17].filterMap fun i => PySem.Challenge.pw_ij0160_01.main.body[i]? } }
noncomputable abbrev hk : Hook := kmHook Mine.hd.heap_1 [2, 3, 15, 17, 18, 20, 21, 22, 25, 30, 31, 32, 34, 35, 37, 38, 39, 41, 42, 44, 45, 46, 47, 49, 50, 52, 53, 54, 56, 57, 59, 60, 61, 63, 64, 66, 67, 68, 70, 71, 73, 74, 75, 76, 78, 79, 81, 82, 83, 85, 86, 88, 89, 90, 91, 93, 94, 96, 97, 98, 99, 100, 101, 102, 105, 107, 108, 110, 111, 112, 114, 115, 117, 118, 119, 121, 122, 124, 125, 126, 128, 129, 131, 132, 133, 135, 136, 138, 139, 140, 142, 143, 145, 146, 147, 149, 150, 152, 153, 154, 156, 157, 159, 160, 161, 164, 165, 166, 169, 170] (fun _ => by kernel_rfl) [62, 69, 141]
theorem head_said (h : PySem.Challenge.rw_ij0160_01.row.wellSaid = true → PySem.Challenge.rw_ij0160_01.row.Holds) : PySem.Challenge.rw_ij0160_01.Holds := by
  o_law
  exact h (by assumption)
theorem head_left : LeftO PySem.Challenge.rw_ij0160_01.row.prog vw [Str.ofString "_Accumulator"]
    (fun s => xlAt vw [] s && recOk PySem.Challenge.rw_ij0160_01.row.records s) hk.obs hk.val 1890 := by
  refine left_boot (by kernel_rfl) rfl (fun s => by kernel_rfl) fun w os => ?_
  unfold topFrom
  rw [PySem.W.Fast.te14082659384304107361, PySem.W.Fast.te4187177175401517315]
  kernel_rfl
end Mine
end
section
open PySem PySem.W PyProof.Rows PySem.Calls
set_option maxRecDepth 100000
set_option maxHeartbeats 8000000
namespace Mine
theorem kw_LG1_0 : True := by
  k_with_none
  trivial
noncomputable def lawFd (P : Params) : Option FuncData := ((Mine.hd.heap_1 P).lookup 170).bind fun o => match o.data with | .func fd => some fd | _ => none
noncomputable def lawBody (P : Params) : List Stmt := match lawFd P with
  | some fd => (match fd.body with | .stmts b => b | _ => [])
  | none => []
noncomputable def forBody : List Stmt → List Stmt
  | .For _ _ b _ _ :: _ => b
  | _ :: r => forBody r
  | [] => []
noncomputable def lawScope (P : Params) : Option Scope := (lawFd P).map (·.scope)
end Mine
end
section
open PySem PySem.W PyProof.Rows PySem.Calls PySem.Builtin PySem.Builtin.List
set_option maxRecDepth 100000
namespace Mine
theorem kw_LB1_0 : True := by
  k_with_none
  trivial

section
variable {prog : Program} {w : World} {A : Around} {E : Value → Shared → Prop} {s : Shared} {K : Frag} {x C : Addr} {ox : Obj} {od : Option Obj} {name : Str}

/-- a method looked up on an object of a class with list's own __getattribute__ -/
theorem lmeth {pl : Sem Bool} {Q : Value × List Value → Shared → Prop} {f : Value} {tf : String} (X : K.In s.heap) (I : InstAt s.heap x ox C od)
    (hga : findIn K (.ref C) "__getattribute__" = some (some (.builtin "list.__getattribute__"))) (hk : findIn K (.ref C) "__getattr__" = some none)
    (hf : findIn K (.ref C) name = some (some f)) (ht : typeIn K f = some (.type tf)) (htf : (Value.type tf != .type "function" && Value.type tf != .type "method_descriptor" && Value.type tf != .type "wrapper_descriptor") = false)
    (hs : shadowIn od name = some false) (h : Q (f, [.ref x]) s) :
    wpAny (model prog w) A (getMethod (.ref x) name pl) Q E s := by
  have hcan : (Manifest.canonical "list.__getattribute__" != "object.__getattribute__") = false := by decide +kernel
  unfold getMethod specialOf
  refine wpAny_bind (wpAny_bind (I.type.here ((looks_findIn X hga).here ?_)))
  dsimp only
  rw [hcan, if_neg (by decide)]
  refine wpAny_bind (wpAny_bind (I.type.here ((looks_findIn X hk).here ?_)))
  refine wpAny_bind (wpAny_bind (I.type.here ((looks_findIn X hf).here (wpAny_bind ((looks_typeIn X ht).here ?_)))))
  rw [htf, if_neg (by decide)]
  refine wpAny_bind (wpAny_loadPart I.at_ ?_)
  have hd := I.dict
  cases e : ox.dict with
  | none => exact wpAny_bind (wpAny_rule (wpAny_pure h))
  | some dx =>
    cases od with
    | none => rw [e] at hd; exact hd.elim
    | some o =>
      rw [e] at hd
      obtain ⟨r, a, b⟩ := Option.map_eq_some_iff.mp hs
      refine wpAny_bind (wpAny_bind (wpAny_loadPart hd ?_))
      rw [nsLook_of a]
      refine wpAny_pure ?_
      rw [b]
      exact wpAny_bind (wpAny_rule (wpAny_pure h))


/-- the object of a list's subclass -/
abbrev accO (C d : Addr) (items : Array Value) (n : Nat) : Obj := { cls := .ref C, dict := some d, data := .seq items n }

theorem isi_list (X : K.In s.heap) (I : InstAt s.heap x ox C od) (hl : subIn K (.ref C) (.type "list") = some true) {M : Model} : Looks M s.heap (isInstance (.ref x) (.type "list")) true :=
  I.type.andThen (looks_subIn X hl)

theorem check_meth {M : Model} {i owner n : String} {self : Value} {rest : List Value} {kw : List (Str × Value)} {Q : Unit → Shared → Prop}
    (hk : builtinKind i = some .method) (hs : splitId i = some (owner, n)) (hi : Looks M s.heap (isInstance self (.type owner)) true) (ha : argsOk i ⟨self :: rest, kw⟩) (q : Q () s) :
    wpAny M A (checkBuiltinCall i ⟨self :: rest, kw⟩) Q E s := by
  simp only [checkBuiltinCall, hk, hs]
  refine wpAny_bind (hi.here ?_)
  simp only [Bool.not_true, Bool.false_eq_true, if_false]
  cases hsig : Manifest.signature? i with
  | none => exact wpAny_pure q
  | some sig =>
    simp only [argsOk, hsig] at ha
    have h2 : Bind.checkArgs i sig ⟨self :: rest, kw⟩ = pure () := ha
    show wpAny M A (Bind.checkArgs i sig ⟨self :: rest, kw⟩) Q E s
    rw [h2]; exact wpAny_pure q

/-- a built-in of list's, called upon an object of a subclass -/
theorem lcall {id n : String} {b : Builtin} {rest : List Value} {Q : Value → Shared → Prop} (hq : plainId id = true) (hb : entryFor table id = some b)
    (hk : builtinKind id = some .slot ∨ builtinKind id = some .method) (hs : splitId id = some ("list", n)) (ha : argsOk id ⟨.ref x :: rest, []⟩)
    (hi : Looks (model prog w) s.heap (isInstance (.ref x) (.type "list")) true)
    (hc : wpAny (model prog w) A.in1 (b ⟨.ref x :: rest, []⟩) (fun fin s' => ∃ v, fin = .done (.ret v) ∧ Q v s') E s) :
    wpAny (model prog w) A (call (.builtin id) (.ref x :: rest)) Q E s := by
  refine wpAny_call (codeAny_call_builtin hq hb ?_)
  have hc' : wpAny (model prog w) A.in1 (b ⟨.ref x :: rest, []⟩) (fun fin s' => match fin with
      | .done f => (match (.ok f : Result) with | .ok (.ret v) => Q v s' | .ok _ => False | .error e => E e s')
      | .again c' => c'.quiet = true ∧ codeAny (model prog w) A c' (fun r s' => match r with | .ok (.ret v) => Q v s' | .ok _ => False | .error e => E e s') s') (fun e s' => E e s') s :=
    wpAny_mono hc (fun fin s' h' => by obtain ⟨v, rfl, hv⟩ := h'; exact hv) fun _ _ h' => h'
  rcases hk with hk | hk
  · exact check_slot hk hs hi ha hc'
  · exact check_meth hk hs hi ha hc'

theorem lspecial {id : String} {args : List Value} {Q : Option Value → Shared → Prop} (X : K.In s.heap) (I : InstAt s.heap x ox C od)
    (hs : findIn K (.ref C) name = some (some (.builtin id))) (hb : ∀ self, bindSpecial (.builtin id) self = pure (.builtin id, [self]))
    (h : wpAny (model prog w) A (call (.builtin id) (.ref x :: args)) (fun v => Q (some v)) E s) : wpAny (model prog w) A (callSpecial? (.ref x) name args) Q E s := by
  unfold callSpecial? specialOf
  refine wpAny_bind (wpAny_bind (I.type.here ((looks_findIn X hs).here (wpAny_holding ?_))))
  rw [hb]
  exact wpAny_bind (wpAny_pure (wpAny_bind (wpAny_mono h (fun _ _ z => wpAny_pure z) fun _ _ z => z)))

theorem entry_list_append' : entryFor table "list.append" = some Builtin.«list.append» := entryFor_of_tree (by kernel_rfl)
theorem args_list_append' (a b : Value) : argsOk "list.append" ⟨[a, b], []⟩ := by unfold argsOk; kernel_rfl

variable {h₀ : Heap} {L d : Addr} {m : Str → Option Value} {news news' : List (Addr × Obj)} {items : Array Value} {n : Nat}

/-- list.append upon an object of a subclass -/
theorem lappend {v : Value} {Q : Value → Shared → Prop} (F : Fr h₀ L s.heap m) (X₀ : K.In h₀) (N : News h₀ L s.heap news) (I : InstAt s.heap x (accO C d items n) C od)
    (hl : subIn K (.ref C) (.type "list") = some true) (U : Upd x (accO C d items n) (accO C d (items.push v) (n + 1)) news news') (hz : items.size < 1000000)
    (h : ∀ h', Fr h₀ L h' m → News h₀ L h' news' → Q .none { s with heap := h' }) :
    wpAny (model prog w) A (call (.builtin "list.append") [.ref x, v]) Q E s := by
  have X := X₀.keeps F.keep
  refine lcall (n := "append") (by decide +kernel) entry_list_append' (.inr (by decide +kernel)) (by decide +kernel) (args_list_append' _ _) (isi_list X I hl) ?_
  obtain ⟨pre, post, rfl, rfl, a, b⟩ := U.split
  have e : Obj.mapSeq (·.push v) (accO C d items n) = accO C d (items.push v) (n + 1) := by
    simp only [Obj.mapSeq, Array.size_push]
    rw [if_neg (by simp)]
  obtain ⟨U1, U2⟩ := news_upd F N a b e rfl
  refine wpAny_bind (m := selfAndOne "list.append" _) (wpAny_bind (wpAny_pure (wpAny_pure ?_)))
  refine wpAny_bind (m := listUpdate (.ref x) _) (wpAny_updateSeq I.at_ rfl (wpAny_pure ⟨_, rfl, h _ U1 U2⟩) (by rw [sizeLine_eq]; omega) (by rw [sizeLine_eq]; simp; omega))


theorem lseqKey {i : Value} {nm : Str} {Q : Value → Shared → Prop} (X : K.In s.heap) (I : InstAt s.heap x ox C od) (hq : noSeq K C = true) (h : Q i s) : wpAny (model prog w) A (sequenceKey (.ref x) i nm) Q E s := by
  unfold sequenceKey
  refine wpAny_bind (I.type.here ?_)
  refine wpAny_bind ((anyM_none X hq).here ?_)
  rw [if_pos (show (!false) = true from rfl)]
  exact wpAny_pure h

theorem lgetItem {i : Value} {Q : Value → Shared → Prop} (X : K.In s.heap) (I : InstAt s.heap x ox C od) (hq : noSeq K C = true)
    (hs : findIn K (.ref C) "__getitem__" = some (some (.builtin "list.__getitem__"))) (hl : subIn K (.ref C) (.type "list") = some true)
    (h : wpAny (model prog w) A.in1 (Builtin.«list.__getitem__» ⟨[.ref x, i], []⟩) (fun fin s' => ∃ v, fin = .done (.ret v) ∧ Q v s') E s) :
    wpAny (model prog w) A (getItem (.ref x) i) Q E s := by
  unfold getItem
  refine wpAny_holding (wpAny_bind (lseqKey X I hq ?_))
  refine wpAny_bind (lspecial X I hs slot_list_getitem.bind ?_)
  refine lcall (n := "__getitem__") slot_list_getitem.plain entry_list_getitem (.inr (by decide +kernel)) (by decide +kernel) (args_list_getitem _ _) (isi_list X I hl) ?_
  exact wpAny_mono h (fun fin s' ⟨v, e, q⟩ => ⟨v, e, wpAny_pure q⟩) fun _ _ e => e

theorem ltail {value slice : Expr} {i : Value} {ops : List Value} {Q : Value → Shared → Prop} (X : K.In s.heap) (I : InstAt s.heap x ox C od)
    (hs : findIn K (.ref C) "__getitem__" = some (some (.builtin "list.__getitem__"))) (hg : wpAny (model prog w) A (getItem (.ref x) i) Q E s)
    (hsl : subscripted slice false (.ref x) i = operate ops (getItem (.ref x) i)) : wpAny (model prog w) A (subscriptTail value slice (.ref x) i) Q E s := by
  unfold subscriptTail getitemInPython specialOf
  refine wpAny_bind (wpAny_bind (wpAny_bind (I.type.here ((looks_findIn X hs).here ?_))))
  refine wpAny_pure ?_
  have fin : wpAny (model prog w) A (subscripted slice false (.ref x) i) (fun r s₃ => wpAny (model prog w) A (letTemporaryGo value (.ref x) r >>= fun _ => pure r) Q E s₃) E s := by
    rw [hsl]
    exact wpAny_operating (wpAny_mono hg (fun r s₃ h₃ => wpAny_bind (wpAny_letTemporaryGo (wpAny_pure h₃))) fun _ _ x => x)
  first | exact wpAny_bind fin | exact fin

theorem lgetInt {k : Int} {t : Tok} {v : Value} {Q : Value → Shared → Prop} (X : K.In s.heap) (I : InstAt s.heap x (accO C d items n) C od) (hq : noSeq K C = true)
    (hs : findIn K (.ref C) "__getitem__" = some (some (.builtin "list.__getitem__"))) (hl : subIn K (.ref C) (.type "list") = some true)
    (h0 : 0 ≤ k) (hfit : k < 2 ^ 63) (hx : items[k.toNat]? = some v) (h : Q v s) : wpAny (model prog w) A (getItem (.ref x) (.int k t)) Q E s := by
  refine lgetItem X I hq hs hl ?_
  show wpAny _ _ (Builtin.List.listSubscript? (.int k t) >>= _) _ _ s
  refine wpAny_bind (wpAny_listSubscript_int (fitsIndex_of h0 hfit) ?_)
  clear hfit
  obtain ⟨j, rfl⟩ := Int.eq_ofNat_of_zero_le h0
  have hx' : items[j]? = some v := hx
  show wpAny _ _ ((seqItemAt x j >>= fun r => pure (r.map (j, ·))) >>= _) _ _ s
  refine wpAny_bind (wpAny_bind (wpAny_seqItemAt I.at_ rfl (wpAny_pure ?_)))
  rw [hx']
  exact wpAny_pure ⟨v, rfl, h⟩

theorem lgetSlice {sl : Addr} {vl vu vs : Value} {lo hi st : Option Int} {Q : Value → Shared → Prop} (X : K.In s.heap) (I : InstAt s.heap x (accO C d items n) C od) (hq : noSeq K C = true)
    (hs : findIn K (.ref C) "__getitem__" = some (some (.builtin "list.__getitem__"))) (hl : subIn K (.ref C) (.type "list") = some true)
    (hsl : s.heap.IsSliceOf sl vl vu vs) (pl : IsPart vl lo) (pu : IsPart vu hi) (ps : IsPart vs st) (h0 : st ≠ some 0) (hsz : items.size ≤ sizeLine)
    (h : Q (.ref s.heap.objs.size) { s with heap := s.heap.push { cls := .type "list", data := .seq (slicePick items lo hi st) } }) :
    wpAny (model prog w) A (getItem (.ref x) (.ref sl)) Q E s := by
  obtain ⟨os, hos, hcs, hds⟩ := id hsl
  have hTs : s.TypeIs (.ref sl) "slice" := ⟨os, hos, hcs⟩
  refine lgetItem X I hq hs hl ?_
  show wpAny _ _ (Builtin.List.listSubscript? (.ref sl) >>= _) _ _ s
  refine wpAny_bind ?_
  unfold Builtin.List.listSubscript?
  refine wpAny_bind (wpAny_specialOf hTs slice_no_index ?_)
  simp only [Option.isNone_none, if_true]
  refine wpAny_pure ?_
  show wpAny _ _ (typeOf (.ref sl) >>= _) _ _ s
  refine wpAny_bind (wpAny_typeOf hTs ?_)
  rw [if_neg (by decide)]
  rw [listSliceParts_eq]
  have hstep : ¬ ((rawPart st == rawInt 0) = true) := by
    cases st with
    | none => exact Bool.false_ne_true
    | some c =>
      intro hh
      have : c = 0 := by simpa [rawPart, rawInt] using hh
      exact h0 (by rw [this])
  refine wpAny_bind (wpAny_bind (wpAny_field hos hds (x := vs) rfl (wpAny_bind (wpAny_listPart ps ?_))))
  rw [if_neg hstep]
  refine wpAny_bind (wpAny_field hos hds (x := vl) rfl (wpAny_bind (wpAny_listPart pl ?_)))
  refine wpAny_bind (wpAny_field hos hds (x := vu) rfl (wpAny_bind (wpAny_listPart pu (wpAny_pure ?_))))
  refine wpAny_bind (m := Builtin.List.listItems (.ref x)) ?_
  unfold Builtin.List.listItems
  refine wpAny_bind (wpAny_seqItems I.at_ rfl (wpAny_pure ?_))
  refine wpAny_bind (wpAny_of_eq (sliceIndices_raw lo hi st items.size h0) ?_)
  exact wpAny_bind (wpAny_newObj_type (wpAny_pure ⟨_, rfl, h⟩) (Nat.le_trans (slicePick_size_le items lo hi st) hsz))


theorem entry_list_setitem' : entryFor table "list.__setitem__" = some Builtin.«list.__setitem__» := entryFor_of_tree (by kernel_rfl)
theorem args_list_setitem' (a b c : Value) : argsOk "list.__setitem__" ⟨[a, b, c], []⟩ := by unfold argsOk; kernel_rfl
theorem plain_list_setitem : plainId "list.__setitem__" = true := by decide +kernel
theorem bind_list_setitem (self : Value) : bindSpecial (.builtin "list.__setitem__") self = pure (.builtin "list.__setitem__", [self]) := by
  have h : builtinKind "list.__setitem__" = some .slot := by decide +kernel
  have hop : withoutEnding? "list.__setitem__" "#opaque" = none := by decide +kernel
  have hdat : withoutEnding? "list.__setitem__" "#data" = none := by decide +kernel
  have hk : builtinKind "list.__setitem__" = builtinKind "list.__setitem__" := rfl
  simp only [bindSpecial, typeOf, builtinType, hop, hdat, h]; rfl

/-- what a slice store leaves, for a slice by ones -/
def setPick (items new : Array Value) (lo hi : Option Int) : Array Value :=
  items.extract 0 (sliceBounds lo hi none items.size).1.toNat ++ new ++ items.extract (max (sliceBounds lo hi none items.size).1 (sliceBounds lo hi none items.size).2.1).toNat items.size

theorem lsetSlice {sl lv : Addr} {vl vu : Value} {lo hi : Option Int} {new : Array Value} {Q : Unit → Shared → Prop} {news'' : Nat → List (Addr × Obj)} (F : Fr h₀ L s.heap m) (X₀ : K.In h₀) (N : News h₀ L s.heap news)
    (I : InstAt s.heap x (accO C d items n) C od) (hq : noSeq K C = true)
    (hs : findIn K (.ref C) "__setitem__" = some (some (.builtin "list.__setitem__"))) (hl : subIn K (.ref C) (.type "list") = some true)
    (hsl : s.heap.IsSliceOf sl vl vu .none) (pl : IsPart vl lo) (pu : IsPart vu hi) (hv : s.heap.IsList lv new) (hxv : x ≠ lv) (hz : items.size + new.size ≤ 1000000)
    (U : ∀ n', Upd x (accO C d items n) (accO C d (setPick items new lo hi) n') news (news'' n'))
    (h : ∀ h' n', Fr h₀ L h' m → News h₀ L h' (news'' n') → Q () { s with heap := h' }) :
    wpAny (model prog w) A (setItem (.ref x) (.ref sl) (.ref lv)) Q E s := by
  have X := X₀.keeps F.keep
  have hz' : sizeLine = 2 ^ 24 := rfl
  obtain ⟨os, hos, hcs, hds⟩ := id hsl
  have hTs : s.TypeIs (.ref sl) "slice" := ⟨os, hos, hcs⟩
  obtain ⟨ov, hov, hcv, nv, hdv⟩ := id hv
  have hTv : s.TypeIs (.ref lv) "list" := ⟨ov, hov, hcv⟩
  have hpick : (setPick items new lo hi).size ≤ 2000000 := by
    unfold setPick; simp only [Array.size_append, Array.size_extract]; omega
  unfold setItem
  refine wpAny_holding (wpAny_bind (lseqKey X I hq ?_))
  refine wpAny_bind (lspecial X I hs bind_list_setitem ?_)
  refine lcall (n := "__setitem__") plain_list_setitem entry_list_setitem' (.inl (by decide +kernel)) (by decide +kernel) (args_list_setitem' _ _ _) (isi_list X I hl) ?_
  show wpAny _ _ (Builtin.List.listSubscript? (.ref sl) >>= _) _ _ s
  refine wpAny_bind ?_
  unfold Builtin.List.listSubscript?
  refine wpAny_bind (wpAny_specialOf hTs slice_no_index ?_)
  simp only [Option.isNone_none, if_true]
  refine wpAny_pure ?_
  show wpAny _ _ (typeOf (.ref sl) >>= _) _ _ s
  refine wpAny_bind (wpAny_typeOf hTs ?_)
  rw [if_neg (by decide)]
  rw [listSliceParts_eq]
  refine wpAny_bind (wpAny_bind (wpAny_field hos hds (x := .none) rfl (wpAny_bind (wpAny_listPart (k := none) .none ?_))))
  rw [if_neg (show ¬ ((rawPart none == rawInt 0) = true) from Bool.false_ne_true)]
  refine wpAny_bind (wpAny_field hos hds (x := vl) rfl (wpAny_bind (wpAny_listPart pl ?_)))
  refine wpAny_bind (wpAny_field hos hds (x := vu) rfl (wpAny_bind (wpAny_listPart pu (wpAny_pure ?_))))
  have hsr : Builtin.List.listSameRef (.ref x) (.ref lv) = false := beq_false_of_ne hxv
  rw [hsr, if_neg (by decide)]
  refine wpAny_bind (m := Builtin.List.listAllItems (.ref lv) _) ?_
  unfold Builtin.List.listAllItems
  refine wpAny_bind (wpAny_typeOf hTv ?_)
  rw [if_pos (by decide)]
  refine wpAny_bind (wpAny_seqItems hov hdv (wpAny_pure ?_))
  refine wpAny_bind (m := Builtin.List.listItems (.ref x)) ?_
  unfold Builtin.List.listItems
  refine wpAny_bind (wpAny_seqItems I.at_ rfl (wpAny_pure ?_))
  refine wpAny_bind (wpAny_of_eq (sliceIndices_raw lo hi none items.size (by simp)) ?_)
  have hstep : (sliceBounds lo hi none items.size).2.2 = 1 := rfl
  obtain ⟨pre, post, e1, e2, a, b⟩ := (U 0).split
  have hm : ∃ n', Obj.mapSeq (fun xs => xs.extract 0 (sliceBounds lo hi none items.size).1.toNat ++ new ++ xs.extract (max (sliceBounds lo hi none items.size).1 (sliceBounds lo hi none items.size).2.1).toNat xs.size) (accO C d items n) = accO C d (setPick items new lo hi) n' :=
    ⟨_, rfl⟩
  obtain ⟨n', hm⟩ := hm
  obtain ⟨pre, post, rfl, e2, a, b⟩ := (U n').split
  obtain ⟨U1, U2⟩ := news_upd F N a b hm rfl
  show wpAny _ _ (if ((sliceBounds lo hi none items.size).2.2 == 1) = true then _ else _) _ _ s
  rw [hstep, if_pos (by decide)]
  refine wpAny_bind (wpAny_rule ?_)
  rw [if_neg (show ¬ (Builtin.List.listTooLong (items.size + new.size) = true) from by unfold Builtin.List.listTooLong; simp; omega)]
  refine wpAny_bind (m := Builtin.List.listUpdate (.ref x) _) (wpAny_updateSeq I.at_ rfl ?_ (by omega) (by show (setPick items new lo hi).size ≤ _; omega))
  refine wpAny_bind (wpAny_letGo ?_)
  refine wpAny_pure ⟨_, rfl, wpAny_pure ?_⟩
  refine h _ n' U1 ?_
  rw [e2]
  exact U2

end
end Mine
end
section
open PySem PySem.W PyProof.Rows PySem.Calls PySem.Builtin PySem.Builtin.List PySem.Builtin.ObjectAttr
set_option maxRecDepth 100000
namespace Mine
theorem kw_LB2_0 : True := by
  k_with_none
  trivial
section
variable {prog : Program} {w : World} {A : Around} {E : Value → Shared → Prop} {s : Shared} {K : Frag} {x C : Addr} {ox : Obj} {od : Option Obj} {name : Str}
variable {h₀ : Heap} {L d : Addr} {m : Str → Option Value} {news news' : List (Addr × Obj)} {items : Array Value} {n : Nat}

/-- an attribute that stands in the object's own dict -/
theorem lget {v : Value} {expr : Bool} {Q : Value → Shared → Prop} (X : K.In s.heap) (I : InstAt s.heap x ox C od)
    (hga : findIn K (.ref C) "__getattribute__" = some (some (.builtin "list.__getattribute__"))) (hk : findIn K (.ref C) "__getattr__" = some none)
    (hl : subIn K (.ref C) (.type "list") = some true)
    (hf : findObj K C od name = some (.value v)) (hh : handedIn v = true) (h : Q v { s with toks := s.toks + 1 }) : wpAny (model prog w) A (getAttr (.ref x) name expr) Q E s := by
  obtain ⟨hh', g, dr, t, os⟩ := s
  have L0 := I.type (M := model prog w)
  have L1 := looks_findIn (M := model prog w) X hga
  have L2 := looks_findIn (M := model prog w) X hk
  have L3 := looks_find (M := model prog w) X I hf
  unfold getAttr getAttrBy
  refine wpAny_bind (wpAny_mkText (wpAny_holding (wpAny_bind (L0.at (wpAny_bind (L1.at ?_))))))
  show wpAny _ _ (getAttrByItsOwn _ _ _ _ _ _) _ _ _
  unfold getAttrByItsOwn
  refine wpAny_bind (m := hookBefore (.ref C)) (L2.at ?_)
  refine wpAny_bind (wpAny_attempt ?_)
  refine wpAny_holding ?_
  unfold callGetattribute
  rw [show (expr && onTheHeap (.builtin "list.__getattribute__")) = false from by cases expr <;> rfl]
  show wpAny _ _ (boundAndCalled _ _ _) _ _ _
  unfold boundAndCalled
  rw [PySem.F.slot_list_getattribute.bind]
  refine wpAny_bind (wpAny_pure ?_)
  refine lcall (n := "__getattribute__") PySem.F.slot_list_getattribute.plain PySem.F.entry_list_ga (.inl (by decide +kernel)) (by decide +kernel) (PySem.F.args_list_getattribute_2 _ _) (isi_list (s := ⟨hh', g, dr, t + 1, os⟩) X I hl) ?_
  refine wpAny_bind (wpAny_pure (wpAny_bind (wpAny_pure (wpAny_bind (L0.at (wpAny_bind (L3.at ?_)))))))
  refine wpAny_pure ⟨v, rfl, ?_⟩
  show wpAny _ _ (handedOut v) _ _ _
  rw [handedOut_of hh]; exact wpAny_pure h

theorem lset {v : Value} {Q : Unit → Shared → Prop} {es es' : List DictEntry} {k k' : Nat} {dx : Addr} (F : Fr h₀ L s.heap m) (X₀ : K.In h₀) (N : News h₀ L s.heap news)
    (I : InstAt s.heap x ox C (some (dictOf es k))) (hd : ox.dict = some dx) (hs : findIn K (.ref C) "__setattr__" = some (some (.builtin "object.__setattr__")))
    (hm : (clsIn K C).any (fun cd => cd.mro == [.ref C, .type "list", .type "object"] && cd.hasDict) = true) (ht : takerIn K C name = some none)
    (hl : (getL name es).isSome = true)
    (e : (putL name (PyData.keyHash w.params name) (.str name (s.toks + 1)) v es, putN name es k) = (es', k')) (U : Upd dx (dictOf es k) (dictOf es' k') news news') (hz : es'.length ≤ 1000)
    (h : ∀ h', Fr h₀ L h' m → News h₀ L h' news' → Q () { s with heap := h', toks := s.toks + 2 }) : wpAny (model prog w) A (setAttr (.ref x) name v) Q E s := by
  have X := X₀.keeps F.keep
  refine set_plain X I hs ?_
  obtain ⟨hh, g, dr, t, os⟩ := s
  dsimp only at F N I X U e h ⊢
  have SF := PySem.F.store_object
  obtain ⟨cd, hc, ho⟩ := any_some hm
  simp only [Bool.and_eq_true, beq_iff_eq] at ho
  obtain ⟨hmro, hdict⟩ := ho
  have sub : Looks (model prog w) hh (isInstance (.ref x) (.type "object")) true := I.type.andThen (looks_mroIn X (by unfold mroIn; rw [hc, Option.bind_some, hmro]; rfl))
  refine codeAny_call_builtin SF.slot.plain SF.entry (@check_slot (model prog w) _ _ ⟨hh, g, dr, t + 1, os⟩ "object.__setattr__" "object" "__setattr__" (.ref x) [.str name t, v] [] _ SF.kind SF.split sub (SF.args (.ref x) (.str name t) v) ?_)
  obtain ⟨attr, ha, hr⟩ := Option.bind_eq_some_iff.mp ht
  have L0 := I.type (M := model prog w)
  have L1 := looks_findIn (M := model prog w) X ha
  have hmr : Looks (model prog w) hh (mroOf (.ref C)) cd.mro := (looks_clsIn X hc).andThen .now
  have L3 : Looks (model prog w) hh (storeTaker? attr) none := by
    cases attr with
    | none => exact .now
    | some a =>
      obtain ⟨b, hb, hr'⟩ := Option.map_eq_some_iff.mp hr
      refine (looks_takesIn X hb).andThen ?_
      cases b with
      | false => exact .now
      | true => cases hr'
  rw [osa_eq, refuse_eq]
  refine wpAny_bind (wpAny_bind (L0.at (wpAny_bind (hmr.at ?_))))
  rw [hmro, refuseLoop_ref]
  rw [show refuseLoop (.ref x) "__setattr__" [.type "list", .type "object"] = pure () from by kernel_rfl]
  refine wpAny_pure (wpAny_bind (L0.at (wpAny_bind (L1.at (wpAny_bind (L3.at ?_))))))
  dsimp only
  obtain ⟨pre, post, rfl, rfl, a, b⟩ := U.split
  obtain ⟨e1, e2⟩ := Prod.mk.inj e
  have hput : Obj.putName name (PyData.keyHash w.params name) (.str name (t + 1)) v (dictOf es k) = dictOf es' k' := by rw [putName_dict, e1, e2]
  obtain ⟨U1, U2⟩ := news_upd (f := Obj.putName name (PyData.keyHash w.params name) (.str name (t + 1)) v) F N a b hput rfl
  have D := (N (dx, dictOf es k) (by simp)).1
  have D' := (U2 (dx, dictOf es' k') (by simp)).1
  obtain ⟨hx, hcl, hn, -⟩ := I
  obtain ⟨oc, odi, oda, osl⟩ := ox
  dsimp only at hcl hd
  subst hcl hd
  refine wpAny_bind (wpAny_pure (wpAny_bind (wpAny_bind (wpAny_loadPart hx (wpAny_bind ((looks_clsIn (M := model prog w) X hc).at ?_))))))
  rw [hdict]
  refine wpAny_pure (a := some dx) (wpAny_bind (wpAny_pure (wpAny_bind ?_)))
  unfold nsSet
  refine wpAny_bind (wpAny_bind (wpAny_askSetting (wpAny_pure (wpAny_bind (wpAny_mkText (wpAny_bind (wpAny_loadPart D ?_)))))))
  have c : (!es.toArray.any (·.key.isStr name) && es.toArray.any (·.refKey)) = false := by
    rw [← Array.any_toList, ← Array.any_toList]
    unfold getL at hl
    split at hl
    · rename_i en he
      rw [List.any_eq_true.mpr ⟨en, List.mem_of_find?_eq_some he, List.find?_some he⟩]; rfl
    · split at hl
      · cases hl
      · rename_i z; rw [Bool.not_eq_true] at z; rw [z, Bool.and_false]
  dsimp only
  rw [aRefKeyMayBeTheName_at, c]
  refine wpAny_updatePart D ?_
  refine wpAny_bind (wpAny_lookBehind D' (pastItsLine_dict (by rw [List.size_toArray, sizeLine_eq]; omega)) ?_)
  exact wpAny_pure (h _ U1 U2)
end
end Mine
end
section
open PySem PySem.W PyProof.Rows PySem.Calls PySem.Builtin PySem.Builtin.List PySem.Builtin.ObjectAttr
set_option maxRecDepth 100000
namespace Mine
theorem kw_LB3_0 : True := by
  k_with_none
  trivial
section
variable {prog : Program} {w : World} {A : Around} {E : Value → Shared → Prop} {s : Shared} {K : Frag} {x C : Addr} {ox : Obj} {od : Option Obj} {name : Str}
variable {h₀ : Heap} {L d : Addr} {m : Str → Option Value} {news news' : List (Addr × Obj)} {items : Array Value} {n : Nat} {R : Result → Shared → Prop}

def lmakesIn (K : Frag) (C : Addr) : Bool := match K.lookup C with
  | some ⟨_, _, .cls cd, sl⟩ => !cd.abstract && !cd.hasDel && (sl.toList[4]?).join == some (.builtin "list.__new__") && cd.mro == [.ref C, .type "list", .type "object"] &&
      specialIn K (.ref C) "__call__" == some (some (.builtin "type.__call__")) && instIn K (.ref C) (.type "type") == some true
  | _ => false
structure LMakes (M : Model) (h : Heap) (C : Addr) : Prop where
  obj : ∃ oc od cd sl, h.get? C = some ⟨oc, od, .cls cd, sl⟩ ∧ cd.abstract = false ∧ cd.hasDel = false ∧ cd.mro = [.ref C, .type "list", .type "object"]
  made : Looks M h (Bind.madeBy (.ref C)) (some "list.__new__")
  base : Looks M h (Bind.staticBase (.ref C)) (.ref C)
  self : Looks M h (isSubtype (.ref C) (.ref C)) true
  top : Looks M h (isSubtype (.ref C) (.type "list")) true
  call : Looks M h (specialOf (.ref C) "__call__") (some (.builtin "type.__call__"))
  typ : Looks M h (isInstance (.ref C) (.type "type")) true
theorem lmakes_of {M : Model} {h : Heap} (X : K.In h) (e : lmakesIn K C = true) : LMakes M h C := by
  unfold lmakesIn at e
  split at e
  · rename_i oc od cd sl ho
    simp only [Bool.and_eq_true, Bool.not_eq_true', beq_iff_eq] at e
    obtain ⟨⟨⟨⟨⟨e1, e2⟩, e3⟩, e4⟩, e7⟩, e8⟩ := e
    have hc : clsIn K C = some cd := by unfold clsIn; rw [ho]
    have hm : Looks M h (mroOf (.ref C)) cd.mro := (looks_clsIn X hc).andThen .now
    have made : Looks M h (Bind.madeBy (.ref C)) (some "list.__new__") := by
      intro A Q E s k q
      unfold Bind.madeBy
      refine wpAny_bind (hm A _ E s k ?_)
      rw [e4, List.forIn_cons]
      refine wpAny_bind (wpAny_bind (wpAny_bind (wpAny_bind (wpAny_loadPart (k _ _ (X _ _ ho)) (wpAny_pure ?_)))))
      dsimp only
      rw [← Array.getElem?_toList, e3]
      exact wpAny_pure (wpAny_pure (wpAny_pure q))
    refine ⟨⟨oc, od, cd, sl, X _ _ ho, e1, e2, e4⟩, made, ?_, looks_mroIn X ?_, looks_mroIn X ?_, looks_specialIn X e7, looks_instIn X e8⟩
    · intro A Q E s k q
      unfold Bind.staticBase
      refine wpAny_bind (hm A _ E s k ?_)
      rw [e4, List.forIn_cons]
      exact wpAny_bind (wpAny_bind (wpAny_bind (made A _ E s k (wpAny_pure (wpAny_pure (wpAny_pure q))))))
    · unfold mroIn; rw [hc, Option.bind_some, e4]; simp
    · unfold mroIn; rw [hc, Option.bind_some, e4]; simp
  · cases e

theorem lnew_split : splitId "list.__new__" = some ("list", "__new__") := by decide +kernel
theorem lnew_kind : builtinKind "list.__new__" = some .builtinFn := by decide +kernel
theorem lnew_args (C : Addr) (v : Value) (sig : Manifest.Signature) (e : Manifest.signature? "list.__new__" = some sig) : Bind.checkArgs "list.__new__" sig ⟨[.ref C, v], []⟩ = pure () := by
  have h : (match Manifest.signature? "list.__new__" with | some sig => Bind.checkArgs "list.__new__" sig ⟨[.ref C, v], []⟩ | none => pure ()) = pure () := by kernel_rfl
  rw [e] at h
  exact h
theorem lcheck_new {h : Heap} {g dr t os} {v : Value} {Q : Unit → Shared → Prop} (Y : LMakes (model prog w) h C) (q : Q () ⟨h, g, dr, t, os⟩) :
    wpAny (model prog w) A (checkBuiltinCall "list.__new__" ⟨[.ref C, v], []⟩) Q E ⟨h, g, dr, t, os⟩ := by
  obtain ⟨⟨oc, od, cd, sl, hC, e1, e2, e4⟩, made, base, self, top, call, typ⟩ := Y
  simp only [checkBuiltinCall, lnew_kind, lnew_split]
  rw [if_pos (by decide)]
  have ty : Looks (model prog w) h (isType (.ref C)) true := by
    intro A Q E s k q
    unfold isType
    refine wpAny_bind (wpAny_loadPart (k _ _ hC) ?_)
    exact wpAny_pure q
  refine wpAny_bind (ty.at ?_)
  rw [if_neg (by decide)]
  refine wpAny_bind (top.at ?_)
  rw [if_neg (by decide)]
  refine wpAny_bind (base.at (wpAny_bind (made.at ?_)))
  dsimp only
  rw [if_neg (by simp)]
  cases hsig : Manifest.signature? "list.__new__" with
  | none => exact wpAny_pure q
  | some sig =>
    show wpAny _ A (Bind.checkArgs "list.__new__" sig ⟨[.ref C, v], []⟩) Q E _
    rw [lnew_args C v sig hsig]
    exact wpAny_pure q

theorem lnew_code {h : Heap} {g dr t os} {v : Value} (Y : LMakes (model prog w) h C)
    (hq : R (.ok (.ret (.ref (h.objs.size + 1)))) ⟨(h.push emptyDict).push (accO C h.objs.size #[] 0), g, dr, t, os⟩) :
    codeAny (model prog w) A (.call (.builtin "list.__new__") ⟨[.ref C, v], []⟩) R ⟨h, g, dr, t, os⟩ := by
  refine codeAny_call_builtin_code (plainId_quiet PySem.F.plain_list_new _) ?_
  refine lcheck_new Y ?_
  obtain ⟨⟨oc, od, cd, sl, hC, e1, e2, e4⟩, made, base, self, top, call, typ⟩ := Y
  refine codeAny_builtin_stack PySem.F.entry_list_new rfl fun p st => ?_
  rw [Around.under_plainId PySem.F.plain_list_new _]
  have ty : Looks (model prog w) h (isType (.ref C)) true := by
    intro A Q E s k q
    unfold isType
    refine wpAny_bind (wpAny_loadPart (k _ _ hC) ?_)
    exact wpAny_pure q
  dsimp only
  rw [owner_list_new]
  refine wpAny_bind (ty.at ?_)
  rw [if_neg (by decide)]
  refine wpAny_bind (top.at ?_)
  rw [if_neg (by decide)]
  refine wpAny_bind (wpAny_pure ?_)
  rw [show typeHasDict (.ref C) = true from rfl, if_neg (by decide)]
  refine wpAny_bind (m := newDict) (wpAny_newObj_type ?_ (by show (0 : Nat) ≤ _; omega))
  dsimp only
  refine wpAny_bind (m := newObj _ _ _) ?_
  unfold newObj
  dsimp only
  rw [if_neg (by rw [sizeLine_eq]; simp)]
  unfold newObjAsIs classHasDel
  refine wpAny_bind (wpAny_alloc (wpAny_bind (wpAny_bind (wpAny_load (Heap.get?_push_of_some _ (Heap.get?_push_of_some _ hC)) (wpAny_pure ?_)))))
  rw [e2]
  refine wpAny_pure (wpAny_pure ?_)
  show R _ _
  rw [Heap.size_push]
  exact hq

theorem lmake_core {h : Heap} {g dr t os} {v : Value} {init : Value} (Y : LMakes (model prog w) h C) (hi : Looks (model prog w) h (typeLookup (.ref C) "__init__") (some init))
    (hb : ∀ self, Looks (model prog w) h (bindSpecial init self) (init, [self]))
    (hq : codeAny (model prog w) (A.under (.builtin "type.__call__" ⟨[.ref C, v], []⟩)) (.call init ⟨[.ref (h.objs.size + 1), v], []⟩) (InitBack (h.objs.size + 1) R) ⟨(h.push emptyDict).push (accO C h.objs.size #[] 0), g, dr, t, os⟩) :
    codeAny (model prog w) A (.call (.ref C) ⟨[v], []⟩) R ⟨h, g, dr, t, os⟩ := by
  have Y' := Y
  obtain ⟨⟨oc, od, cd, sl, hC, e1, e2, e4⟩, made, base, self, top, call, typ⟩ := Y
  refine codeAny_of_tree ?_
  show wpAny _ _ (callAny (.ref C) _) _ _ _
  refine nd_load hC ?_
  show wpAny _ _ (callAny.viaDunder (.ref C) _) _ _ _
  unfold callAny.viaDunder
  refine wpAny_bind (call.at ?_)
  dsimp only
  rw [tc_bind]
  refine wpAny_bind (wpAny_pure (wpAny_bind (wpAny_pure ?_)))
  refine wpAny_pure (a := Fin.again (.call (.builtin "type.__call__") ⟨[.ref C, v], []⟩)) (And.intro rfl ?_)
  refine codeAny_call_builtin_at (Code.quiet_builtin _ (by decide +kernel)) entry_typeCall (check_slot tc_kind tc_split typ (tc_args _ _ _) ?_)
  unfold Builtin.«type.__call__»
  have hm : Looks (model prog w) h (mroOf (.ref C)) cd.mro := ((Looks.ld (part := none) hC).andThen .now).andThen .now
  have e5 : cd.mro.isEmpty = false := by rw [e4]; rfl
  repeat (first | simp only [e5, Bool.false_eq_true, if_false] | with_reducible refine wpAny_call ?_ | lk)
  refine lnew_code Y' ?_
  have k : ∀ b o, h.get? b = some o → ((h.push emptyDict).push (accO C h.objs.size #[] 0)).get? b = some o := fun b o e => Heap.get?_push_of_some _ (Heap.get?_push_of_some _ e)
  have hx : ((h.push emptyDict).push (accO C h.objs.size #[] 0)).get? (h.objs.size + 1) = some (accO C h.objs.size #[] 0) := by heap_get
  have t1 : Looks (model prog w) ((h.push emptyDict).push (accO C h.objs.size #[] 0)) (typeOf (.ref (h.objs.size + 1))) (.ref C) := (Looks.ld hx).andThen .now
  have s1 := self.keeps k
  have i1 := hi.keeps k
  have b1 := (hb (.ref (h.objs.size + 1))).keeps k
  unfold isInstance callSpecial? specialOf
  repeat (first | with_reducible refine wpAny_call ?_ | lk)
  refine codeAny_mono hq fun r s' z => ?_
  rcases r with e | (v | _ | _ | _) <;> first | exact z | exact z.elim | skip
  obtain ⟨rfl, z⟩ := z
  exact wpAny_pure (wpAny_pure z)

theorem lmake {v : Value} {fI : Addr} (F : Fr h₀ L s.heap m) (N : News h₀ L s.heap news) (X₀ : K.In h₀) (hm : lmakesIn K C = true)
    (hi : findIn K (.ref C) "__init__" = some (some (.ref fI))) (hf : typeIn K (.ref fI) = some (.type "function"))
    (h : ∀ x dx h', Fr h₀ L h' m → News h₀ L h' ((x, accO C dx #[] 0) :: (dx, emptyDict) :: news) → (∀ p ∈ news, p.1 < dx) → dx < x →
      codeAny (model prog w) (A.under (.builtin "type.__call__" ⟨[.ref C, v], []⟩)) (.call (.ref fI) ⟨[.ref x, v], []⟩) (InitBack x R) { s with heap := h' }) :
    codeAny (model prog w) A (.call (.ref C) ⟨[v], []⟩) R s := by
  obtain ⟨hh, g, d, t, os⟩ := s
  have X := X₀.keeps F.keep
  refine lmake_core (lmakes_of X hm) (looks_findIn X hi) (fun self => bind_fn X self hf) (h _ hh.objs.size _ ((F.push _).push _) ?_ (fun p hp => Heap.lt_size (N p hp).1) (Nat.lt_succ_self _))
  have := (N.push F emptyDict).push (F.push _) (accO C hh.objs.size #[] 0)
  rwa [Heap.size_push] at this
end
end Mine
end
section
open PySem PySem.W PyProof.Rows PySem.Calls PySem.Builtin PySem.Builtin.List PySem.Builtin.ObjectAttr
set_option maxRecDepth 100000
namespace Mine
theorem kw_LB4_0 : True := by
  k_with_none
  trivial
/-- a list of any class -/
def Sq (h : Heap) (a : Addr) (items : Array Value) : Prop := ∃ o n, h.get? a = some o ∧ o.data = .seq items n
theorem Sq.at {h h' : Heap} {a : Addr} {items : Array Value} (x : Sq h a items) (k : ∀ o, h.get? a = some o → h'.get? a = some o) : Sq h' a items :=
  let ⟨o, n, e, d⟩ := x; ⟨o, n, k o e, d⟩
section
variable {prog : Program} {w : World} {A : Around} {E : Value → Shared → Prop} {s : Shared} {K : Frag} {x C : Addr} {ox : Obj} {od : Option Obj} {name : Str}

theorem sq_next {it l : Addr} {i : Nat} {items : Array Value} {v : Value} {Q : Option Value → Shared → Prop} (hit : s.heap.IsListIter it l i) (hl : Sq s.heap l items) (hx : items[i]? = some v)
    (hQ : ∀ h', h'.IsListIter it l (i + 1) → Heap.SameBut it s.heap h' → Q (some v) { s with heap := h' }) : wpAny (model prog w) A (pyNext (.ref it)) Q E s := by
  obtain ⟨o, ho, hc, hd⟩ := id hit
  obtain ⟨ol, nl, hol, hdl⟩ := hl
  unfold pyNext
  refine wpAny_bind (wpAny_attempt (wpAny_callSpecial?_slot (name := Str.ofString "__next__") hit.typeIs slot_listiter_next (wpAny_call_entry slot_listiter_next hit.typeIs entry_listiter_next ?_ (args_listiter_next _))))
  show wpAny _ _ (field (.ref it) 0 >>= _) _ _ s
  refine wpAny_bind (wpAny_field ho hd (x := .ref l) rfl ?_)
  refine wpAny_bind (m := field (.ref it) 1) (wpAny_field ho hd (x := .int i 0) rfl ?_)
  refine wpAny_bind (m := seqItems? (.ref l)) (wpAny_seqItems hol hdl ?_)
  simp only [Int.toNat_natCast, hx]
  refine wpAny_bind (wpAny_setField ho hd (by simp) (wpAny_pure ⟨v, rfl, wpAny_pure (hQ _ ?_ (Heap.SameBut.update ..))⟩))
  exact ⟨_, Heap.get?_update_self _ ho (Obj.isFreed_of_fields (Obj.data_mapFields hd _)), (Obj.cls_mapFields ..).trans hc, by rw [Obj.data_mapFields hd]; simp [rawInt]⟩

theorem sq_end {it l : Addr} {i : Nat} {items : Array Value} {Q : Option Value → Shared → Prop} (hh : A.handled = none) (hit : s.heap.IsListIter it l i) (hl : Sq s.heap l items) (hx : items[i]? = none)
    (hQ : ∀ h', Heap.ExtBut it s.heap h' → Q none { s with heap := h' }) : wpAny (model prog w) A (pyNext (.ref it)) Q E s := by
  obtain ⟨o, ho, hc, hd⟩ := id hit
  obtain ⟨ol, nl, hol, hdl⟩ := hl
  unfold pyNext
  refine wpAny_bind (wpAny_attempt (wpAny_callSpecial?_slot (name := Str.ofString "__next__") hit.typeIs slot_listiter_next (wpAny_call_entry slot_listiter_next hit.typeIs entry_listiter_next ?_ (args_listiter_next _))))
  show wpAny _ _ (field (.ref it) 0 >>= _) _ _ s
  refine wpAny_bind (wpAny_field ho hd (x := .ref l) rfl ?_)
  refine wpAny_bind (m := field (.ref it) 1) (wpAny_field ho hd (x := .int i 0) rfl ?_)
  refine wpAny_bind (m := seqItems? (.ref l)) (wpAny_seqItems hol hdl ?_)
  simp only [Int.toNat_natCast, hx]
  refine wpAny_bind (wpAny_rule (wpAny_bind (wpAny_setField ho hd (by simp) ?_)))
  refine wpAny_bind (m := newExc (.type "StopIteration") []) ?_
  simp only [newExc, newTuple]
  refine wpAny_bind (wpAny_newObj_type ?_ (by size_fits))
  refine wpAny_bind (m := firstArgMember _ _) (wpAny_of_eq (a := Value.none) (by first | rfl | (simp only [firstArgMember]; rfl)) ?_)
  refine wpAny_newObj_type ?_ (by size_fits)
  simp only [raiseNew]
  refine wpAny_bind (wpAny_handled ?_)
  rw [show A.in1.handled = none from hh]
  refine wpAny_bind (wpAny_pure (wpAny_throw ?_))
  refine wpAny_bind (wpAny_isInstance (T := "StopIteration") (b := true) ⟨_, Heap.get?_push_size _ rfl, rfl⟩ isSubtype_stop ?_)
  exact wpAny_pure (hQ _ (((Heap.SameBut.update ..).extBut.push _).push _))

/-- iter() of an object of a list's subclass -/
theorem sq_iter {Q : Value → Shared → Prop} (X : K.In s.heap) (I : InstAt s.heap x ox C od) (hs : findIn K (.ref C) "__iter__" = some (some (.builtin "list.__iter__")))
    (hl : subIn K (.ref C) (.type "list") = some true)
    (hQ : Q (.ref s.heap.objs.size) { s with heap := s.heap.push { cls := .type "list_iterator", data := .fields #[.ref x, .int 0 0] } }) :
    wpAny (model prog w) A (pyIter (.ref x)) Q E s := by
  have L0 := I.type (M := model prog w)
  have L1 := looks_findIn (M := model prog w) X hs
  unfold pyIter specialOf
  refine wpAny_bind (wpAny_bind (L0.here (L1.here ?_)))
  dsimp only
  refine wpAny_bind ?_
  unfold callSpecialIfBoundUnlessNone? bindSpecialIfBound? specialOf
  refine wpAny_holding (wpAny_bind (wpAny_bind (wpAny_bind (L0.here (L1.here ?_)))))
  dsimp only
  refine wpAny_bind (wpAny_askSetting ?_)
  rw [slot_list_iter.bind]
  have fin : wpAny (model prog w) A (call (.builtin "list.__iter__") [.ref x]) (fun it s' => it = .ref s.heap.objs.size ∧ s' = { s with heap := s.heap.push { cls := .type "list_iterator", data := .fields #[.ref x, .int 0 0] } }) E s := by
    refine lcall (n := "__iter__") slot_list_iter.plain entry_list_iter (.inl (by decide +kernel)) (by decide +kernel) (args_list_iter _) (isi_list X I hl) ?_
    show wpAny _ _ (do ret (← newFields "list_iterator" [.ref x, rawInt 0])) _ _ s
    exact wpAny_bind (wpAny_newObj_type (wpAny_pure ⟨_, rfl, rfl, rfl⟩))
  have last : wpAny (model prog w) A (specialOf (.ref s.heap.objs.size) "__next__" >>= fun r => match r with
          | none => do rule "iter.non-iterator"; raiseError "TypeError" s!"iter() returned non-iterator of type '{← PySem.typeNameOf (.ref s.heap.objs.size)}'"
          | some _ => pure (.ref s.heap.objs.size)) Q E { s with heap := s.heap.push { cls := .type "list_iterator", data := .fields #[.ref x, .int 0 0] } } :=
    wpAny_bind (wpAny_specialOf (T := "list_iterator") ⟨_, Heap.get?_push_size _ rfl, rfl⟩ slot_listiter_next.lookup (wpAny_pure hQ))
  have mid : wpAny (model prog w) A (call (.builtin "list.__iter__") [.ref x]) (fun it s' => wpAny (model prog w) A (specialOf it "__next__" >>= fun r => match r with
          | none => do rule "iter.non-iterator"; raiseError "TypeError" s!"iter() returned non-iterator of type '{← PySem.typeNameOf it}'"
          | some _ => pure it) Q E s') E s := wpAny_mono fin (fun it s' z => by obtain ⟨rfl, rfl⟩ := z; exact last) fun _ _ z => z
  have fin2 : wpAny (model prog w) A (call (.builtin "list.__iter__") [.ref x]) (fun it s' => wpAny (model prog w) A (pure (some it) : Sem (Option Value)) (fun r s'' => wpAny (model prog w) A
        (match r with
        | some it => specialOf it "__next__" >>= fun r => match r with
          | none => do rule "iter.non-iterator"; raiseError "TypeError" s!"iter() returned non-iterator of type '{← PySem.typeNameOf it}'"
          | some _ => pure it
        | none => unsupported "none") Q E s'') E s') E s := wpAny_mono mid (fun it s' z => wpAny_pure z) fun _ _ z => z
  dsimp only
  split
  · refine wpAny_bind (wpAny_pure (wpAny_pure ?_))
    dsimp only
    rw [if_neg (by decide)]
    exact wpAny_bind (wpAny_mono mid (fun it s' z => wpAny_pure z) fun _ _ z => z)
  · refine wpAny_tryCatch (wpAny_bind (wpAny_pure (wpAny_pure ?_)))
    dsimp only
    rw [if_neg (by decide)]
    exact wpAny_bind (wpAny_mono mid (fun it s' z => wpAny_pure z) fun _ _ z => z)

/-- the walk over pairs that lie in a list of any class -/
theorem sq_pairs (hh : A.handled = none) (I ax : Addr) (hne : ax ≠ I) (items : Array Value) (Ts : Nat → Addr) (vals : Nat → Array Value)
    (hit : ∀ j, j < items.size → items[j]? = some (.ref (Ts j))) (hTI : ∀ j, j < items.size → Ts j ≠ I) :
    WalksU prog w A I (I :: ax :: (List.range items.size).map Ts) [I] items.size (fun j v => j < items.size ∧ v = vals j)
      (fun j h => h.IsListIter I ax j ∧ Sq h ax items ∧ ∀ k, k < items.size → h.IsTuple (Ts k) (vals k))
      (fun j T h => (j < items.size ∧ T = Ts j) ∧ h.IsListIter I ax (j + 1) ∧ Sq h ax items ∧ ∀ k, k < items.size → h.IsTuple (Ts k) (vals k)) where
  sub := fun b hb => by simp at hb; simp [hb]
  frame := fun _ _ _ st hk => ⟨st.1.at fun o e => hk I (by simp) o e, st.2.1.at fun o e => hk ax (by simp) o e,
    fun k hk' => (st.2.2 k hk').at fun o e => hk (Ts k) (List.mem_cons_of_mem _ (List.mem_cons_of_mem _ (List.mem_map.mpr ⟨k, List.mem_range.mpr hk', rfl⟩))) o e⟩
  item := fun i s Q E hi st hQ => by
    refine sq_next st.1 st.2.1 (v := .ref (Ts i)) (hit i hi) fun h' hit' hs' => ?_
    have tup : ∀ k, k < items.size → h'.IsTuple (Ts k) (vals k) := fun k hk' => (st.2.2 k hk').extBut hs'.extBut (hTI k hk')
    exact hQ (Ts i) (vals i) h' s.toks ⟨hi, rfl⟩ (tup i hi) ⟨⟨hi, rfl⟩, hit', st.2.1.at fun o e => hs'.extBut _ o hne e, tup⟩ fun b o hb e => hs'.extBut b o (fun h => hb (by simp [h])) e
  go := fun _ _ _ _ _ s Q _ hm hQ => wpAny_letOwnedTupleGo_listiter hm.2.1 (hQ s.heap hm.2 fun _ _ _ e => e)
  apart := fun j T _ hm hmem => by
    rcases List.mem_cons.mp hmem with e | e
    · exact hTI j hm.1.1 (hm.1.2 ▸ e)
    · cases e
  done := fun s Q E st hQ => sq_end hh st.1 st.2.1 (by simp) fun h' he' => hQ h' s.toks fun b o hb e => he' b o (fun h => hb (by simp [h])) e
  self := fun _ _ _ _ st hQ => wpAny_pyIter_listiter st.1 hQ
end
end Mine
end
section
open PySem PySem.W PyProof.Rows PySem.Calls PySem.Builtin PySem.Builtin.List PySem.Builtin.ObjectAttr
set_option maxRecDepth 100000
namespace Mine
theorem kw_LB5_0 : True := by
  k_with_none
  trivial
theorem args_sum2 (a b : Value) : argsOk "sum" ⟨[a, b], []⟩ := by unfold argsOk; kernel_rfl
/-- the walker, one place later -/
theorem WalksS.late {prog : Program} {w : World} {A : Around} {I : Addr} {fp wr : List Addr} {G : Array GenState → Array GenState → Prop} {n : Nat} {P : Nat → Value → Prop} {St : Nat → Shared → Prop}
    (W : WalksS prog w A I fp wr G n P St) : WalksS prog w A I fp wr G (n + 1) (fun i v => ∃ j, i = j + 1 ∧ P j v) (fun i s => ∃ j, i = j + 1 ∧ St j s) where
  sub := W.sub
  grefl := W.grefl
  gtrans := W.gtrans
  frame := fun i s h' tk ⟨j, e, st⟩ ht hk => ⟨j, e, W.frame j s h' tk st ht hk⟩
  item := fun i s Q E hi ⟨j, e, st⟩ hQ => W.item j s Q E (by omega) st fun v s' hp st' hm => hQ v s' ⟨j, e, hp⟩ ⟨j + 1, by omega, st'⟩ hm
  done := fun s Q E ⟨j, e, st⟩ hQ => W.done s Q E (by have : n = j := by omega
                                                      rw [this]; exact st) hQ
  self := fun i s Q E ⟨j, e, st⟩ hQ => W.self j s Q E st hQ
def shiftVal (z : Int) (val : Nat → Int) : Nat → Int
  | 0 => z
  | i + 1 => val i
theorem preSum_shift (z : Int) (val : Nat → Int) : ∀ n, preSum (shiftVal z val) (n + 1) = z + preSum val n
  | 0 => by simp [preSum, shiftVal]
  | n + 1 => by rw [preSum, preSum_shift z val n, preSum]; simp only [shiftVal]; omega
section
variable {prog : Program} {w : World} {A : Around} {E : Value → Shared → Prop} {s : Shared}
theorem call_sum_start {x : Value} {z : Int} {tz : Tok} {Q : Value → Shared → Prop} (hz : InLong z)
    (h : wpAny (model prog w) A.in1 (pyIter x) (fun it s₂ => ∃ I fp wr G n P St val, it = .ref I ∧ WalksS prog w A.in1 I fp wr G n P St ∧ St 0 s₂ ∧ (∀ b ∈ fp, b < s₂.heap.objs.size) ∧
      (∀ i v, P i v → ∃ t, v = .int (val i) t) ∧ (∀ j, j < n → InLong (val j) ∧ InLong (z + preSum val (j + 1))) ∧
      ∀ s' t', Moved wr G s₂ s' → Q (.int (z + preSum val n) t') s') E s) :
    wpAny (model prog w) A (call (.builtin "sum") [x, .int z tz]) Q E s := by
  refine call_function_tree F.kind_sum F.plain_sum F.entry_sum (args_sum2 _ _) ?_
  unfold Builtin.«sum»
  simp only [List.length_cons, List.length_nil]
  rw [if_neg (by decide)]
  refine wpAny_bind (wpAny_of_eq (show Builtin.Builtins.bindParams "sum" ["start"] 0 ⟨[.int z tz], []⟩ = pure [some (.int z tz)] from rfl) ?_)
  refine wpAny_bind (wpAny_mono h (fun it s₂ h₂ => ?_) fun _ _ e => e)
  obtain ⟨I, fp, wr, G, n, P, St, val, rfl, W, hst, hfp, hval, hfit, hQ⟩ := h₂
  have hfl : (decide (-(2 ^ 63 : Int) ≤ z) && decide (z < 2 ^ 63)) = true := by
    obtain ⟨a, b⟩ := hz
    simp; omega
  dsimp only
  split
  case isFalse hno => exact absurd hfl hno
  refine wpAny_bind (wpAny_rule (wpAny_bind (wpAny_mkInt (wpAny_bind (wpAny_pure ?_)))))
  dsimp only
  simp only [List.forIn_cons, List.forIn_nil]
  refine wpAny_bind (wpAny_bind (wpAny_bind (wpAny_isInstance (T := "int") (b := false) (typeIs_int _ _ _) PySem.sub_int_str ?_)))
  simp only [Bool.false_eq_true, if_false]
  refine wpAny_pure (wpAny_bind (wpAny_bind (wpAny_isInstance (T := "int") (b := false) (typeIs_int _ _ _) PySem.sub_int_bytes ?_)))
  simp only [Bool.false_eq_true, if_false]
  refine wpAny_pure (wpAny_bind (wpAny_bind (wpAny_isInstance (T := "int") (b := false) (typeIs_int _ _ _) PySem.sub_int_bytearray ?_)))
  simp only [Bool.false_eq_true, if_false]
  refine wpAny_pure (wpAny_pure ?_)
  refine wpAny_bind (wpAny_newObj_type ?_)
  have hSf : s₂.heap.objs.size ∉ fp := fun hm => Nat.lt_irrefl _ (hfp _ hm)
  have e1 : preSum (shiftVal z val) 1 = z := by simp [preSum, shiftVal]
  refine wpAny_pure ⟨plainId_quiet F.plain_sum_loop _, codeAny_sum_loopS (WalksS.late W) (shiftVal z val) (fun i v ⟨j, e, hp⟩ => ?_) (fun j hj => ?_) s₂.heap.objs.size hSf n 1 _ s₂.toks 0 (by omega) (by omega)
    ⟨0, rfl, W.frame 0 s₂ _ _ hst (by first | exact Nat.le_refl _ | exact Nat.le_succ _ | omega) fun b _ o e => Heap.get?_push_of_some _ e⟩ (by rw [e1]; exact Heap.get?_push_size _ rfl) fun s' t' hm => ?_⟩
  · subst e; exact hval j v hp
  · cases j with
    | zero => rw [e1]; exact ⟨hz, hz⟩
    | succ j => rw [preSum_shift]; exact hfit j (by omega)
  · rw [preSum_shift]
    exact hQ s' t' (hm.drop_new (by first | exact Nat.le_refl _ | exact Nat.le_succ _ | omega))
end
end Mine
end
section
open PySem PySem.W PyProof.Rows PySem.Calls PySem.Builtin PySem.Builtin.List PySem.Builtin.ObjectAttr
set_option maxRecDepth 100000
namespace Mine
theorem kw_LB6_0 : True := by
  k_with_none
  trivial
section
variable {prog : Program} {w : World} {A : Around} {E : Value → Shared → Prop} {s : Shared}

theorem gxCode {M : Model} {env : Env} {c P : Addr} {ps : Array Value} {pos : Pos} {qualname : Str} {scope : Scope} {Q : Value → Shared → Prop} (hc : env.code = .ref c) (C : CodeHd s.heap c P)
    (hP : s.heap.get? P = some (tabObj ps)) (ht : TriplesOk ps.toList)
    (hQ : ∀ code h' tk ps', Heap.ExtBut P s.heap h' → s.heap.objs.size ≤ h'.objs.size → h'.get? P = some (tabObj ps') → TriplesOk ps'.toList → Q code { s with heap := h', toks := tk }) :
    wpAny M A (genexprCode env pos qualname scope) Q E s := by
  obtain ⟨o, vs, file, tf, flags, tg, inF, text, tt, op, ho, hd, h11, h2, h7, h9, h10, hop, hpd, htr, hne⟩ := C.code hP ht
  have e0 : op = tabObj ps := by rw [hP] at hop; exact (Option.some.inj hop).symm
  unfold genexprCode codeAt
  rw [hc, if_neg (show ¬ ((Value.ref c == Value.none) = true) from Bool.false_ne_true)]
  refine wpAny_bind (wpAny_fieldsOf ho hd ?_)
  rw [h11]
  refine wpAny_bind (wpAny_fieldsOf hop hpd ?_)
  cases hnf : codeAmong pos ps.toList with
  | some cv => exact wpAny_pure (hQ cv s.heap s.toks ps (Heap.ExtBut.refl _ _) (Nat.le_refl _) hP ht)
  | none =>
    rw [h2, h7, h9, h10]
    refine wpAny_bind (wpAny_newCode fun c' P' h' tk hk hc' hP' hcode' hrec' => ?_)
    have hop' := hk _ _ hop
    refine wpAny_bind (wpAny_updateFieldsOfTheText hop' hpd ?_)
    have hnew : (Obj.mapFields (fun vs => if (codeAmong pos vs.toList).isSome = true then vs else vs ++ #[rawInt pos.line, rawInt pos.col, .ref c']) op).data =
        .fields (ps ++ #[rawInt pos.line, rawInt pos.col, .ref c']) := by
      rw [Obj.data_mapFields hpd, hnf]; rfl
    have hobj : Obj.mapFields (fun vs => if (codeAmong pos vs.toList).isSome = true then vs else vs ++ #[rawInt pos.line, rawInt pos.col, .ref c']) op = tabObj (ps ++ #[rawInt pos.line, rawInt pos.col, .ref c']) := by
      rw [e0]; show tabObj (if (codeAmong pos ps.toList).isSome = true then ps else ps ++ #[rawInt pos.line, rawInt pos.col, .ref c']) = _; rw [hnf]; rfl
    have hget := Heap.get?_update_self (h := h') (fun o => Obj.mapFields (fun vs => if (codeAmong pos vs.toList).isSome = true then vs else
      vs ++ #[rawInt pos.line, rawInt pos.col, .ref c']) o) hop' (Obj.isFreed_of_fields hnew)
    refine wpAny_bind (wpAny_fieldsOf hget hnew ?_)
    have hl : (ps ++ #[rawInt pos.line, rawInt pos.col, Value.ref c']).toList = ps.toList ++ [rawInt pos.line, rawInt pos.col, .ref c'] := by simp
    rw [hl, codeAmong_snoc _ htr hnf]
    refine wpAny_pure (hQ _ _ _ (ps ++ #[rawInt pos.line, rawInt pos.col, .ref c']) (fun b o' hb e => ((Heap.SameBut.update ..).extBut b o' hb (hk b o' e))) ?_ ?_ (by rw [hl]; exact TriplesOk_snoc _ _ _ _ htr))
    · rw [Heap.size_update]; obtain ⟨_, _, _, _, _, _, _, _, _, _, hcc, _⟩ := hcode'; exact Nat.le_of_lt (Nat.lt_of_le_of_lt hc' (Heap.lt_size hcc))
    · rw [hget, hobj]

/-- evaluating a generator expression over the pairs of a list of a subclass, no test: from a state that keeps a base -/
theorem gen_pairs {K : Frag} {p : Program} {loose : List Str} {mean : ExcName → Option Value} {mg mb : Str → Option Value} {h₀ : Heap} {acc C c P : Addr} {ox : Obj} {od : Option Obj} {ps : Array Value} {items : Array Value} {Ts : Nat → Addr} {vals : Nat → Value × Value} {F : Nat → Value → Prop}
    {env : Env} {elt iter : Expr} {xa xb : Str} {pa pb pt : Pos} {kt : Nat} {scope : Scope} {pos : Pos} {Q : Value → Shared → Prop}
    (hk₀ : ∀ b o, h₀.get? b = some o → s.heap.get? b = some o) (X : K.In h₀) (T : Top p loose mean mg mb h₀) (hPf : h₀.get? P = none) (Cd : CodeHd h₀ c P) (hP : s.heap.get? P = some (tabObj ps)) (htr : TriplesOk ps.toList)
    (I : InstAt s.heap acc ox C od) (hsq : ∃ n, ox.data = .seq items n) (hacP : acc ≠ P)
    (hit : ∀ j, j < items.size → items[j]? = some (.ref (Ts j))) (htup : ∀ j, j < items.size → s.heap.IsTuple (Ts j) #[(vals j).1, (vals j).2])
    (hni : findIn K (.ref C) "__iter__" = some (some (.builtin "list.__iter__"))) (hnl : subIn K (.ref C) (.type "list") = some true)
    (hh : A.handled = none) (hco : scope.isCoroutine = false) (hclos : closureFor scope env = pure []) (hcell : ∀ y ∈ scope.names, y.2 ≠ .cell) (h0 : scope.names.lookup (".0" : Str) = some NameKind.local)
    (hxa : scope.names.lookup xa = some .local) (hxb : scope.names.lookup xb = some .local) (hab : xa ≠ xb) (hkind : scope.kind = .function) (hroom : A.depth < recursionLimit)
    (hcode : env.code = .ref c) (hgl : env.globals = mainGlobals)
    (hiter : ∀ Q : Value → Shared → Prop, Q (.ref acc) s → wpAny (model prog w) A (eval iter env) Q E s)
    (helt : ∀ (A' : Around) (E' : Value → Shared → Prop) (i : Nat) (code : Value) (C' : Addr) (s₂ : Shared) (m₂ : Str → Option Value), A'.handled = none → i < items.size → (∀ b o, h₀.get? b = some o → s₂.heap.get? b = some o) →
      s₂.heap.Ns C' m₂ → m₂ xa = some (vals i).1 → m₂ xb = some (vals i).2 →
      wpAny (model prog w) A' (eval elt (genEnv scope [] C' code builtinsNs env)) (fun y s₃ => F i y ∧ Keeps s₂ s₃) E' s₂)
    (hQ : ∀ a (s₅ : Shared) ps' fp wr g St, (∀ b o, b ≠ P → s.heap.get? b = some o → s₅.heap.get? b = some o) → s₅.heap.get? P = some (tabObj ps') → TriplesOk ps'.toList → s₅.os = s.os → s₅.drawn = s.drawn → (AllBare s.gens → AllBare s₅.gens) →
      WalksS prog w A.in4 a fp wr (GenOnlyQ g) items.size (fun j y => j < items.size ∧ F j y) St → St 0 s₅ → (∀ i s', St i s' → s'.TypeIs (.ref a) "generator") → a ∈ fp → (∀ b ∈ fp, b < s₅.heap.objs.size) → (∀ b ∈ wr, s.heap.objs.size ≤ b) → Q (.ref a) s₅)
    (hs : ∀ x, genFold iter env x = pure x) :
    wpAny (model prog w) A (eval (.GeneratorExp elt [⟨.Tuple [.Name xa pa, .Name xb pb] kt pt, iter, [], 0⟩] scope pos) env) Q E s := by
  have hIlt : ∀ {a : Addr} {o : Obj}, s.heap.get? a = some o → a < s.heap.objs.size := fun e => Heap.lt_size e
  refine wpAny_GeneratorExp_walksQT hh hco hclos hcell h0 hxa hxb hab hkind hroom (hiter _ ?_) hs
  refine sq_iter (X.keeps hk₀) I hni hnl ?_
  have k1 : ∀ b o, s.heap.get? b = some o → (s.heap.push { cls := .type "list_iterator", data := .fields #[.ref acc, .int 0 0] }).get? b = some o := fun b o e => Heap.get?_push_of_some _ e
  refine ⟨(T.nolimit.keeps hk₀).push _, ?_⟩
  refine gxCode (c := c) (P := P) (ps := ps) hcode ((Cd.keeps hk₀).keeps k1) (k1 _ _ hP) htr fun code h₃ tk₃ ps' hx hsz hP₃ htr' => ?_
  obtain ⟨bm, ob, b1, b2, b3, b4, b5, b6⟩ := T.bmain
  have k3 : ∀ b o, b ≠ P → s.heap.get? b = some o → h₃.get? b = some o := fun b o hb e => hx b o hb (k1 _ _ e)
  have hne : ∀ {b : Addr} {o : Obj}, h₀.get? b = some o → b ≠ P := fun e q => by rw [q, hPf] at e; cases e
  have k03 : ∀ b o, h₀.get? b = some o → h₃.get? b = some o := fun b o e => k3 b o (hne e) (hk₀ _ _ e)
  refine wpAny_builtinsFor (hgl ▸ T.g.keeps k03) b1 b2 (k03 _ _ b3) b4 b5 b6 ?_
  have hPlt : P < s.heap.objs.size := hIlt hP
  have haccI : acc ≠ s.heap.objs.size := Nat.ne_of_lt (hIlt I.at_)
  have hTP : ∀ j, j < items.size → Ts j ≠ P := fun j hj q => by
    obtain ⟨o, e, hc, _⟩ := htup j hj
    rw [q, hP] at e; cases e; cases hc
  have hTlt : ∀ j, j < items.size → Ts j < s.heap.objs.size := fun j hj => by obtain ⟨_, e, _⟩ := htup j hj; exact hIlt e
  have hsz1 : (s.heap.push { cls := .type "list_iterator", data := .fields #[.ref acc, .int 0 0] }).objs.size = s.heap.objs.size + 1 := Heap.size_push ..
  have hIget : h₃.get? s.heap.objs.size = some { cls := .type "list_iterator", data := .fields #[.ref acc, .int 0 0] } := hx _ _ (Nat.ne_of_gt hPlt) (Heap.get?_push_size _ rfl)
  have hsz3 : s.heap.objs.size < h₃.objs.size := Heap.lt_size hIget
  have hclt : cStatics < s.heap.objs.size := by
    obtain ⟨_, hn, _⟩ := T.nolimit.keeps hk₀
    exact hn.lt
  refine ⟨s.heap.objs.size, s.heap.objs.size :: acc :: (List.range items.size).map Ts, [s.heap.objs.size], items.size, _, _, _, fun _ => true, F, rfl,
    (fun A' hA' => sq_pairs hA' s.heap.objs.size acc haccI items Ts (fun j => #[(vals j).1, (vals j).2]) hit fun j hj => Nat.ne_of_lt (hTlt j hj)), (fun i vs hv => ⟨_, _, hv.2⟩), ?_, ?_, T.nolimit.keeps k03, ?_, ?_, ?_⟩
  · refine ⟨⟨_, hIget, rfl, rfl⟩, ?_, fun j hj => ?_⟩
    · obtain ⟨n, hn⟩ := hsq
      exact ⟨ox, n, k3 _ _ hacP I.at_, hn⟩
    · obtain ⟨o, e, r⟩ := htup j hj
      exact ⟨o, k3 _ _ (hTP j hj) e, r⟩
  · intro b hb
    rcases List.mem_cons.mp hb with rfl | hb
    · exact hsz3
    · rcases List.mem_cons.mp hb with rfl | hb
      · exact Nat.lt_trans (hIlt I.at_) hsz3
      · obtain ⟨j, hj, rfl⟩ := List.mem_map.mp hb
        exact Nat.lt_trans (hTlt j (List.mem_range.mp hj)) hsz3
  · intro hm
    exact absurd hclt (by rw [List.mem_singleton.mp hm]; exact Nat.lt_irrefl _)
  · intro href hkr
    have base : ∀ (s₂ : Shared), (∀ b ∈ List.range h₃.objs.size, b ∉ [s.heap.objs.size] → ∀ o, href.get? b = some o → s₂.heap.get? b = some o) → ∀ b o, h₀.get? b = some o → s₂.heap.get? b = some o := by
      intro s₂ hk b o e
      have e3 := k03 b o e
      exact hk b (List.mem_range.mpr (Heap.lt_size e3)) (fun hm => absurd (hIlt (hk₀ _ _ e)) (by rw [List.mem_singleton.mp hm]; exact Nat.lt_irrefl _)) o (hkr _ _ e3)
    refine ⟨fun A' E' i va vb s₂ m₂ hA hv hn ha hb hk => ?_, fun A' E' i va vb s₂ m₂ hA hv _ hn ha hb hk => ?_⟩
    · exact wpAny_pure ⟨rfl, ⟨s₂.heap, s₂.toks, rfl, fun _ _ e => e⟩⟩
    · obtain ⟨hi, e⟩ := hv
      have e1 : va = (vals i).1 ∧ vb = (vals i).2 := by simpa using congrArg Array.toList e
      obtain ⟨rfl, rfl⟩ := e1
      exact helt A' E' i code _ s₂ m₂ hA hi (base s₂ hk) hn ha hb
  · intro a h₅ tk gs hgs ha hsz5 hk5 W G
    have hp : passing (fun _ => true) items.size 0 = List.range items.size := by simp [passing]
    rw [hp, List.length_range] at W
    have W' : WalksS prog w A.in4 a (a :: h₃.objs.size :: List.range h₃.objs.size) (h₃.objs.size :: [s.heap.objs.size]) (GenOnlyQ s.gens.size) items.size (fun j y => j < items.size ∧ F j y)
        (GenAt prog w A.in4 a s.gens.size h₃.objs.size (List.range h₃.objs.size) [s.heap.objs.size] (fun _ => true) items.size F) :=
      ⟨W.sub, W.grefl, W.gtrans, W.frame, fun i s Q E hi st hQ => W.item i s Q E hi st fun v s' hv st' hm => hQ v s' (by
        obtain ⟨j, hj, hF⟩ := hv
        have : i = j := by
          rw [List.getElem?_range hi] at hj
          exact Option.some.inj hj
        subst this
        exact ⟨hi, hF⟩) st' hm, W.done, W.self⟩
    refine hQ a _ ps' _ _ _ _ (fun b o hb e => hk5 _ _ (k3 _ _ hb e)) (hk5 _ _ hP₃) htr' rfl rfl (fun g => g.push hgs) W' G ?_ (.head _) ?_ ?_
    · intro i s' st; exact st.1.typeIs
    · intro b hb
      show b < h₅.objs.size
      rw [hsz5]
      have ha' : h₃.objs.size < a := ha
      rcases List.mem_cons.mp hb with rfl | hb
      · exact Nat.lt_succ_self _
      · rcases List.mem_cons.mp hb with rfl | hb
        · exact Nat.lt_succ_of_lt ha'
        · exact Nat.lt_succ_of_lt (Nat.lt_trans (List.mem_range.mp hb) ha')
    · intro b hb
      rcases List.mem_cons.mp hb with rfl | hb
      · exact Nat.le_of_lt hsz3
      · rw [List.mem_singleton.mp hb]; exact Nat.le_refl _
end
end Mine
end
section
open PySem PySem.W PyProof.Rows PySem.Calls PySem.Builtin PySem.Builtin.List PySem.Builtin.ObjectAttr
set_option maxRecDepth 100000
namespace Mine
theorem kw_LB7_0 : True := by
  k_with_none
  trivial
section
variable {prog : Program} {w : World} {A : Around} {E : Value → Shared → Prop} {s : Shared} {p : Program} {loose : List Str} {mean : ExcName → Option Value} {mg mb : Str → Option Value} {h₀ : Heap} {env : Env}

theorem nm_builtin {M : Model} {x : Str} {pos : Pos} {v : Value} {Q : Value → Shared → Prop} (hk₀ : ∀ b o, h₀.get? b = some o → s.heap.get? b = some o) (T : Top p loose mean mg mb h₀) (hm : mg x = none) (hv : bootBuiltins x = some v) (h : Q v s)
    (hn : x ≠ "__name__") (hgl : env.globals = mainGlobals) (hbl : env.builtins = builtinsNs) (hk : env.scope.kind = .function) (hx : env.kindOf x = some .globalImplicit) (hd : (x == ("__debug__" : Str)) = false) :
    wpAny M A (eval (.Name x pos) env) Q E s :=
  Name_function_global hk hx (loadGlobal_builtin (show s.heap.Ns env.globals mg from hgl ▸ T.g.keeps hk₀) hm (hbl ▸ T.b.keeps hk₀) ((T.builtins x hn).trans hv) h) hd
theorem nm_global {M : Model} {x : Str} {pos : Pos} {v : Value} {Q : Value → Shared → Prop} (hk₀ : ∀ b o, h₀.get? b = some o → s.heap.get? b = some o) (T : Top p loose mean mg mb h₀) (hm : mg x = some v) (h : Q v s)
    (hgl : env.globals = mainGlobals) (hk : env.scope.kind = .function) (hx : env.kindOf x = some .globalImplicit) (hd : (x == ("__debug__" : Str)) = false) :
    wpAny M A (eval (.Name x pos) env) Q E s :=
  Name_function_global hk hx (loadGlobal_global (show s.heap.Ns env.globals mg from hgl ▸ T.g.keeps hk₀) hm h) hd
theorem nm_local {M : Model} {x : Str} {pos : Pos} {v : Value} {m : Str → Option Value} {Q : Value → Shared → Prop} (hn : s.heap.Ns env.locals m) (hv : m x = some v) (h : Q v s)
    (hk : env.scope.kind = .function) (hx : env.kindOf x = some .local) (hd : (x == ("__debug__" : Str)) = false) : wpAny M A (eval (.Name x pos) env) Q E s :=
  wpAny_Name (wpAny_loadName_local hk hx hn hv h) hd

/-- len(x) of a text that a local holds -/
theorem ev_len {x : Str} {p1 p2 p3 : Pos} {y : Str} {t : Tok} {m : Str → Option Value} {Q : Value → Shared → Prop} (hk₀ : ∀ b o, h₀.get? b = some o → s.heap.get? b = some o) (T : Top p loose mean mg mb h₀) (hm : mg "len" = none)
    (hgl : env.globals = mainGlobals) (hbl : env.builtins = builtinsNs) (hk : env.scope.kind = .function) (hx : env.kindOf "len" = some .globalImplicit) (hx2 : env.kindOf x = some .local) (hd : (x == ("__debug__" : Str)) = false)
    (hn : s.heap.Ns env.locals m) (hv : m x = some (.str y t)) (hsz : y.length ≤ 1000000) (h : ∀ t', Q (.int y.length t') { s with toks := s.toks + 1 + 1 }) :
    wpAny (model prog w) A (eval (.Call (.Name "len" p1) [.Name x p2] [] p3) env) Q E s := by
  refine Call_ (nm_builtin hk₀ T hm PyProof.Rows.Boot.«len» ?_ (by decide) hgl hbl hk hx (by decide))
  refine callWith_builtin1 (args_cons (nm_local hn hv ?_ hk hx2 hd))
  refine args_nil ?_
  exact PySem.P.len_str (by omega) (h _)

/-- len(fws) + len(part) in a generator's frame -/
theorem elt_len {code : Value} {scope : Scope} {C : Addr} {p1 p2 p3 p4 p5 p6 p7 : Pos} {f g : Str} {tf tg : Tok} {m : Str → Option Value} (hk₀ : ∀ b o, h₀.get? b = some o → s.heap.get? b = some o) (T : Top p loose mean mg mb h₀) (hm : mg "len" = none)
    (hgl : env.globals = mainGlobals) (hk : scope.kind = .function) (hx : scope.names.lookup (Str.ofString "len") = some .globalImplicit) (hx1 : scope.names.lookup (Str.ofString "fws") = some .local) (hx2 : scope.names.lookup (Str.ofString "part") = some .local)
    (hn : s.heap.Ns C m) (hv1 : m "fws" = some (.str f tf)) (hv2 : m "part" = some (.str g tg)) (hs1 : f.length ≤ 1000000) (hs2 : g.length ≤ 1000000) :
    wpAny (model prog w) A (eval (.BinOp (.Call (.Name "len" p1) [.Name "fws" p2] [] p3) .Add (.Call (.Name "len" p4) [.Name "part" p5] [] p6) p7) (genEnv scope [] C code builtinsNs env))
      (fun y s₃ => (∃ t, y = .int ((f.length : Int) + g.length) t) ∧ Keeps s s₃) E s := by
  have kx : ∀ {x : Str} {k : NameKind}, scope.names.lookup x = some k → (genEnv scope [] C code builtinsNs env).kindOf x = some k := fun h => h
  refine wpAny_BinOp (ev_len hk₀ T hm hgl rfl hk (kx hx) (kx hx1) (by decide) hn hv1 hs1 fun t1 => ?_)
  refine ev_len (s := ⟨s.heap, s.gens, s.drawn, s.toks + 1 + 1, s.os⟩) hk₀ T hm hgl rfl hk (kx hx) (kx hx2) (by decide) hn hv2 hs2 fun t2 => ?_
  exact PySem.wpAny_add_int ⟨⟨_, rfl⟩, s.heap, _, rfl, fun _ _ e => e⟩

/-- EMPTYSTRING.join((fws, part)) in a generator's frame -/
theorem elt_str {code : Value} {scope : Scope} {C : Addr} {p1 p3 p4 p5 : Pos} {kt : Nat} {f g : Str} {te tf tg : Tok} {m : Str → Option Value} (hk₀ : ∀ b o, h₀.get? b = some o → s.heap.get? b = some o) (T : Top p loose mean mg mb h₀) (hm : mg "EMPTYSTRING" = some (.str "" te))
    (hgl : env.globals = mainGlobals) (hk : scope.kind = .function) (hx : scope.names.lookup (Str.ofString "EMPTYSTRING") = some .globalImplicit) (hx1 : scope.names.lookup (Str.ofString "fws") = some .local) (hx2 : scope.names.lookup (Str.ofString "part") = some .local)
    (hn : s.heap.Ns C m) (hv1 : m "fws" = some (.str f tf)) (hv2 : m "part" = some (.str g tg)) (hs1 : f.length ≤ 1000000) (hs2 : g.length ≤ 1000000) :
    wpAny (model prog w) A (eval (.Call (.Attribute (.Name "EMPTYSTRING" p1) "join" ⟨27, 33, 27, 49⟩) [.Tuple [.Name "fws" p3, .Name "part" p4] kt p5] [] ⟨27, 33, 27, 62⟩) (genEnv scope [] C code builtinsNs env))
      (fun y s₃ => (∃ t, y = .str (Txt.join "" [f, g]) t) ∧ Keeps s s₃) E s := by
  have kx : ∀ {x : Str} {k : NameKind}, scope.names.lookup x = some k → (genEnv scope [] C code builtinsNs env).kindOf x = some k := fun h => h
  refine' MethodCall_ ?hm ?he
  case he => exact rfl
  refine nm_global (env := genEnv scope [] C code builtinsNs env) hk₀ T hm ?_ hgl hk (kx hx) (by decide)
  refine GM.join ?_
  have he : starEach [.Tuple [.Name "fws" p3, .Name "part" p4] kt p5] (genEnv scope [] C code builtinsNs env) = (false, eval (.Tuple [.Name "fws" p3, .Name "part" p4] kt p5) (genEnv scope [] C code builtinsNs env)) :: starEach [] (genEnv scope [] C code builtinsNs env) := by rfl
  refine callWith_builtin (by rfl) ?_
  rw [show backTo ⟨27, 33, 27, 62⟩ (starEach [.Tuple [.Name "fws" p3, .Name "part" p4] kt p5] (genEnv scope [] C code builtinsNs env)) = (false, eval (.Tuple [.Name "fws" p3, .Name "part" p4] kt p5) (genEnv scope [] C code builtinsNs env)) :: [] from by rw [he]; rfl]
  refine evalArgs_plain (spliced_cons ?_)
  refine Tuple_ ?_
  refine args_cons (nm_local hn hv1 ?_ hk (kx hx1) (by decide))
  refine args_cons (nm_local hn hv2 ?_ hk (kx hx2) (by decide))
  refine args_nil ?_
  refine wpAny_newObj_type ?_ (by show (2 : Nat) ≤ sizeLine; rw [sizeLine_eq]; omega)
  refine spliced_nil ?_
  refine join_tuple (ys := [f, g]) ⟨_, Heap.get?_push_size _ rfl, rfl, 0, rfl⟩ ?_ ?_ fun t' k => ?_
  · exact .cons _ _ (.cons _ _ .nil)
  · have e0 : (Str.ofString "").length = 0 := by decide
    simp [e0]; omega
  · exact ⟨⟨_, rfl⟩, _, _, rfl, fun b o e => Heap.get?_push_of_some _ e⟩
end
end Mine
end
section
open PySem PySem.W PyProof.Rows PySem.Calls
set_option maxRecDepth 100000
set_option maxHeartbeats 8000000
namespace Mine
section
variable {h₀ : Heap} {L x C : Addr}
theorem acc_inst {h : Heap} {news : List (Addr × Obj)} {d : Addr} {items : Array Value} {n k : Nat} {es : List DictEntry} (N : News h₀ L h news) (h1 : (x, accO C d items n) ∈ news) (h2 : (d, dictOf es k) ∈ news) :
    InstAt h x (accO C d items n) C (some (dictOf es k)) := ⟨N.get h1, rfl, rfl, N.get h2⟩
section
variable {prog : Program} {w : World} {A : Around} {E : Value → Shared → Prop} {s : Shared} {K : Frag} {ox : Obj} {name : Str} {m : Str → Option Value} {es : List DictEntry} {k : Nat}
theorem kget {attr : Option Value} {v : Value} {expr : Bool} {Q : Value → Shared → Prop} (F : Fr h₀ L s.heap m) (X₀ : K.In h₀) (I : InstAt s.heap x ox C (some (dictOf es k)))
    (hga : findIn K (.ref C) "__getattribute__" = some (some (.builtin "list.__getattribute__"))) (hk : findIn K (.ref C) "__getattr__" = some none)
    (hl : subIn K (.ref C) (.type "list") = some true) (hh : hasDictIn K C = true) (ha : findIn K (.ref C) name = some attr) (hn : noGet K attr = true) (hg : getL name es = some (some v)) (hv : handedIn v = true)
    (h : Q v { s with toks := s.toks + 1 }) : wpAny (model prog w) A (getAttr (.ref x) name expr) Q E s :=
  lget (X₀.keeps F.keep) I hga hk hl (findObj_own hh ha hn hg) hv h
theorem kmeth {pl : Sem Bool} {Q : Value × List Value → Shared → Prop} {f : Value} {tf : String} (F : Fr h₀ L s.heap m) (X₀ : K.In h₀) (I : InstAt s.heap x ox C (some (dictOf es k)))
    (hga : findIn K (.ref C) "__getattribute__" = some (some (.builtin "list.__getattribute__"))) (hk : findIn K (.ref C) "__getattr__" = some none)
    (hf : findIn K (.ref C) name = some (some f)) (ht : typeIn K f = some (.type tf)) (htf : (Value.type tf != .type "function" && Value.type tf != .type "method_descriptor" && Value.type tf != .type "wrapper_descriptor") = false)
    (hs : shadowIn (some (dictOf es k)) name = some false) (h : Q (f, [.ref x]) s) :
    wpAny (model prog w) A (getMethod (.ref x) name pl) Q E s := lmeth (X₀.keeps F.keep) I hga hk hf ht htf hs h
end
theorem fr_but {h h' : Heap} {P : Addr} {m : Str → Option Value} (F : Fr h₀ L h m) (hP : h₀.get? P = none) (hPL : P ≠ L) (hx : ∀ b o, b ≠ P → h.get? b = some o → h'.get? b = some o) : Fr h₀ L h' m :=
  ⟨F.ns.at fun o e => hx L o (Ne.symm hPL) e, fun b o e => hx b o (fun q => by rw [q, hP] at e; cases e) (F.keep b o e), F.above⟩
end
/-- a contract of a call: from any state that bears the ledger -/
def Tl (w : World) (K : Frag) (p : Program) (loose : List Str) (mean : ExcName → Option Value) (mg mb : Str → Option Value) (nd nu : Nat) (c : Sem Value) (led : List (Addr × Obj)) (Post : Value → List (Addr × Obj) → Prop) : Prop :=
  ∀ (dp un : Nat) (gd : Option (List Code)) (cn : Str) (cs : Scope) (a : Addr) (ccd : Value) (cl : List (Str × Addr)) (outer : List Env) (A₀ : Around) (base h₀ : Heap) (L : Addr) (m : Str → Option Value) (s : Shared)
    (Q E : Value → Shared → Prop),
    Below A₀ base outer h₀ → Fr h₀ L s.heap m → K.In h₀ → News h₀ L s.heap led → Top p loose mean mg mb h₀ → cs.kind = .function → dp + nd < recursionLimit → un + nu < cLine →
    (∀ r led' h' gs' tk', Fr h₀ L h' m → News h₀ L h' led' → Post r led' → (AllBare s.gens → AllBare gs') → Q r ⟨h', gs', s.drawn, tk', s.os⟩) →
    wpAny (model PySem.Challenge.rw_ij0160_01.row.prog w) (ktrTop dp un gd cn cs L a ccd cl outer) c Q E s

abbrev szD (w : World) (tk0 : Tok) (z : Int) (tk : Tok) : Obj := dictOf [⟨PyData.keyHash w.params (Str.ofString "_initial_size"), .str (Str.ofString "_initial_size") tk0, .int z tk⟩] 1
abbrev tupO (vs : List Value) : Obj := { cls := .type "tuple", data := .seq vs.toArray }

/-- the pairs lie, each a tuple of the ledger -/
def Parts (led : List (Addr × Obj)) (items : Array Value) (ps : List (Str × Str)) : Prop :=
  items.size = ps.length ∧ ∀ (j : Nat) (f g : Str), ps[j]? = some (f, g) → ∃ (t : Addr) (tf tg : Tok), items[j]? = some (Value.ref t) ∧ (t, tupO [.str f tf, .str g tg]) ∈ led
def Small (ps : List (Str × Str)) : Prop := ps.length ≤ 1000 ∧ ∀ q ∈ ps, q.1.length ≤ 1000 ∧ q.2.length ≤ 1000
def lenP (ps : List (Str × Str)) : Int := (ps.map fun q => (q.1.length : Int) + q.2.length).sum

theorem kw_LC1_1 : True := by
  k_with_none
  k_with "m getAttr ref" => (k_here; k_dflt (refine' kget ?k1ρ ?k2ρ ?k3ρ ?k4ρ ?k5ρ ?k6ρ ?k7ρ ?k8ρ ?k9ρ ?k10ρ ?k11ρ ?_; (case k1ρ => k_asm); (case k2ρ => k_asm); (case k3ρ => exact acc_inst (by k_asm) (by k_mem) (by k_mem)); (case k4ρ => k_is); (case k5ρ => k_is); (case k6ρ => k_is); (case k7ρ => k_is); (case k8ρ => k_is); (case k9ρ => k_is); (case k10ρ => k_get); (case k11ρ => exact rfl); k_whole))
  trivial
theorem preSum_lenP (ps : List (Str × Str)) : ∀ k, preSum (fun j => ((ps.getD j ("", "")).1.length : Int) + (ps.getD j ("", "")).2.length) k = lenP (ps.take k)
  | 0 => rfl
  | k + 1 => by
    rw [preSum, preSum_lenP ps k]
    unfold lenP
    by_cases h : k < ps.length
    · rw [List.take_add_one, List.map_append, List.sum_append, List.getElem?_eq_getElem h, List.getD_eq_getElem?_getD, List.getElem?_eq_getElem h]
      simp
    · rw [List.take_of_length_le (by omega), List.take_of_length_le (by omega), List.getD_eq_getElem?_getD, List.getElem?_eq_none (by omega)]
      have e0 : (Str.ofString "").length = 0 := by decide
      simp [e0]
theorem lenP_bound : ∀ (ps : List (Str × Str)), (∀ q ∈ ps, q.1.length ≤ 1000 ∧ q.2.length ≤ 1000) → 0 ≤ lenP ps ∧ lenP ps ≤ 2000 * ps.length
  | [], _ => by simp [lenP]
  | q :: r, h => by
    have h1 := h q (.head _)
    have h2 := lenP_bound r fun x hx => h x (.tail _ hx)
    have e : lenP (q :: r) = ((q.1.length : Int) + q.2.length) + lenP r := by simp [lenP]
    rw [e, List.length_cons]
    omega
theorem lenFits {ps : List (Str × Str)} (hs : Small ps) (z : Int) (hz : 0 ≤ z ∧ z < 1000) (j : Nat) (hj : j < ps.length) :
    InLong (((ps.getD j ("", "")).1.length : Int) + (ps.getD j ("", "")).2.length) ∧ InLong (z + preSum (fun j => ((ps.getD j ("", "")).1.length : Int) + (ps.getD j ("", "")).2.length) (j + 1)) := by
  rw [preSum_lenP]
  have hgi : ps.getD j ("", "") ∈ ps := by rw [List.getD_eq_getElem?_getD, List.getElem?_eq_getElem hj]; exact List.getElem_mem hj
  have h1 := hs.2 _ hgi
  have h2 := lenP_bound (ps.take (j + 1)) fun x hx => hs.2 x (List.mem_of_mem_take hx)
  have h3 : (ps.take (j + 1)).length ≤ 1000 := Nat.le_trans (by rw [List.length_take]; omega) hs.1
  unfold InLong
  omega
theorem Parts.fns {led : List (Addr × Obj)} {items : Array Value} {ps : List (Str × Str)} (hp : Parts led items ps) :
    ∃ (Ts : Nat → Addr) (tf tg : Nat → Tok), ∀ j, j < items.size → items[j]? = some (.ref (Ts j)) ∧ (Ts j, tupO [.str (ps.getD j ("", "")).1 (tf j), .str (ps.getD j ("", "")).2 (tg j)]) ∈ led := by
  have h : ∀ j : Nat, ∃ q : Addr × Tok × Tok, j < items.size → items[j]? = some (.ref q.1) ∧ (q.1, tupO [.str (ps.getD j ("", "")).1 q.2.1, .str (ps.getD j ("", "")).2 q.2.2]) ∈ led := by
    intro j
    by_cases hj : j < items.size
    · have hj' : j < ps.length := hp.1 ▸ hj
      obtain ⟨t, tf, tg, h1, h2⟩ := hp.2 j ps[j].1 ps[j].2 (by simp [hj'])
      refine ⟨(t, tf, tg), fun _ => ⟨h1, ?_⟩⟩
      rw [List.getD_eq_getElem?_getD, List.getElem?_eq_getElem hj']
      exact h2
    · exact ⟨(0, 0, 0), fun h => absurd h hj⟩
  obtain ⟨f, hf⟩ := Classical.skolem.mp h
  exact ⟨fun j => (f j).1, fun j => (f j).2.1, fun j => (f j).2.2, hf⟩

theorem len_ok (w : World) (p : Program) (loose : List Str) (mean : ExcName → Option Value) (mg mb : Str → Option Value) (acc d : Addr) (items : Array Value) (n : Nat) (tk0 tkz : Tok) (z : Int) (ps : List (Str × Str)) (tb : Array Value) (rest : List (Addr × Obj))
    (ho : OwnOff rest [acc, d, 62]) (hne : d ≠ acc) (hnt : acc ≠ 62 ∧ d ≠ 62) (hz : 0 ≤ z ∧ z < 1000) (hp : Parts rest items ps) (hs : Small ps) (htr : TriplesOk tb.toList) :
    Tl w (Mine.hd.heap_1 w.params) p loose mean mg mb 20 100 (call (.ref 67) [.ref acc]) ((acc, accO 100 d items n) :: (d, szD w tk0 z tkz) :: (62, tabObj tb) :: rest)
      (fun r led => ∃ t tb', r = .int (z + lenP ps) t ∧ TriplesOk tb'.toList ∧ led = (acc, accO 100 d items n) :: (d, szD w tk0 z tkz) :: (62, tabObj tb') :: rest) := by
  unfold Tl
  k_fill
  intro dp un gd cn cs a ccd cl outer A₀ base h₀ L m s Q E B F X N T hk hdp hu hret
  refine wpAny_call ?_
  k_dflt ktr_enter
  k_steps
  rename_i g1 L1 h1 FG F1 N1 B1 X1 T1
  obtain ⟨Ts, tf, tg, hTs⟩ := hp.fns
  have hlen : nsIn (Mine.hd.heap_1 w.params) mainGlobals (PySem.Str.ofString "len") = some none := by k_is
  have hmg : mg (PySem.Str.ofString "len") = none := ns_none_of X1 T1.g hlen
  have hcd : codeHdIn (Mine.hd.heap_1 w.params) 66 62 = true := by kernel_rfl
  have hI : InstAt h1 acc (accO 100 d items n) 100 (some (szD w tk0 z tkz)) := acc_inst N1 (by k_mem) (by k_mem)
  refine gen_pairs (K := Mine.hd.heap_1 w.params) (h₀ := g1) (acc := acc) (C := 100) (c := 66) (P := 62) (ps := tb) (items := items) (Ts := Ts) (vals := fun j => (.str (ps.getD j ("", "")).1 (tf j), .str (ps.getD j ("", "")).2 (tg j)))
    (F := fun j v => ∃ t, v = .int (((ps.getD j ("", "")).1.length : Int) + (ps.getD j ("", "")).2.length) t) (mg := mg)
    F1.keep X1 T1 (N1 _ (.tail _ (.tail _ (.head _)))).2.2 (codeHd_of_K X1 hcd) (N1.get (by k_mem)) htr hI ⟨n, rfl⟩ hnt.1 (fun j hj => (hTs j hj).1) ?tup ?k1 ?k2 rfl rfl rfl ?cell ?nm0 ?nma ?nmb ?ab rfl ?room rfl rfl ?iter ?elt ?q ?hs
  case tup =>
    intro j hj
    exact ⟨_, N1.get (.tail _ (.tail _ (.tail _ (hTs j hj).2))), rfl, 0, rfl⟩
  case k1 => k_is
  case k2 => k_is
  case cell => decide
  case nm0 => rfl
  case nma => rfl
  case nmb => rfl
  case ab => decide
  case room => show dp + 1 < recursionLimit; omega
  case iter =>
    intro Q' hQ'
    exact ld F1 rfl hQ'
  case hs => intro x; rfl
  case elt =>
    intro A' E' i code C' s₂ m₂ hA hi hk2 hn2 ha2 hb2
    have hi' : i < ps.length := hp.1 ▸ hi
    have hgi : ps.getD i ("", "") ∈ ps := by rw [List.getD_eq_getElem?_getD, List.getElem?_eq_getElem hi']; exact List.getElem_mem hi'
    have hsi := hs.2 _ hgi
    exact elt_len hk2 T1 hmg rfl rfl rfl rfl rfl hn2 ha2 hb2 (by omega) (by omega)
  case q =>
    intro ga s₅ tb' fp wr gg St hx5 hP5 htr5 hos5 hdr5 hgb W5 hst5 hty5 hin5 hfp5 hwr5
    have F5 := fr_but F1 (N1 _ (.tail _ (.tail _ (.head _)))).2.2 (N1 _ (.tail _ (.tail _ (.head _)))).2.1 hx5
    have N5 : News g1 L1 s₅.heap ((acc, accO 100 d items n) :: (d, szD w tk0 z tkz) :: (62, tabObj tb') :: rest) := by
      intro q hq
      have hP2 := (N1 _ (.tail _ (.tail _ (.head _)))).2
      rcases List.mem_cons.mp hq with rfl | hq
      · exact ⟨hx5 _ _ hnt.1 (N1 _ (.head _)).1, (N1 _ (.head _)).2⟩
      rcases List.mem_cons.mp hq with rfl | hq
      · exact ⟨hx5 _ _ hnt.2 (N1 _ (.tail _ (.head _))).1, (N1 _ (.tail _ (.head _))).2⟩
      rcases List.mem_cons.mp hq with rfl | hq
      · exact ⟨hP5, hP2⟩
      · have := N1 q (.tail _ (.tail _ (.tail _ hq)))
        exact ⟨hx5 _ _ (ho q hq 62 (by simp)) this.1, this.2⟩
    obtain ⟨h5, gs5, dr5, tk5, os5⟩ := s₅
    dsimp only at F5 N5 hx5 hP5 hos5 hdr5 hgb hst5 hfp5
    subst hos5 hdr5
    have hL1 : L1 < h1.objs.size := F1.ns.lt
    have hN1 : ∀ q ∈ ((acc, accO 100 d items n) :: (d, szD w tk0 z tkz) :: (62, tabObj tb') :: rest : List (Addr × Obj)), q.1 < h1.objs.size := by
      intro q hq
      rcases List.mem_cons.mp hq with rfl | hq
      · exact Heap.lt_size (N1 _ (.head _)).1
      rcases List.mem_cons.mp hq with rfl | hq
      · exact Heap.lt_size (N1 _ (.tail _ (.head _))).1
      rcases List.mem_cons.mp hq with rfl | hq
      · exact Heap.lt_size (N1 _ (.tail _ (.tail _ (.head _)))).1
      · exact Heap.lt_size (N1 q (.tail _ (.tail _ (.tail _ hq)))).1
    clear hx5 hP5 F1 N1
    k_steps
    have W6 := W5.in4_1
    have hfit := fun j (hj : j < items.size) => lenFits hs z hz j (hp.1 ▸ hj)
    refine call_sum_start (by unfold InLong; omega) (W6.self 0 _ _ _ (W6.frame 0 _ h5 (tk5 + 1) hst5 (Nat.le_succ _) fun _ _ _ e => e) ⟨ga, fp, wr, _, _, _, _, fun j => ((ps.getD j ("", "")).1.length : Int) + (ps.getD j ("", "")).2.length, rfl, W6, W6.frame 0 _ h5 (tk5 + 1) hst5 (Nat.le_succ _) fun _ _ _ e => e, hfp5,
      fun i v hv => hv.2, hfit, fun s' t' hm => ?_⟩)
    rw [hp.1, preSum_lenP, List.take_length]
    have F6 := F5.moved hm fun b hb => Nat.lt_of_lt_of_le hL1 (hwr5 b hb)
    have N6 : News g1 L1 s'.heap ((acc, accO 100 d items n) :: (d, szD w tk0 z tkz) :: (62, tabObj tb') :: rest) := fun q hq =>
      ⟨hm.heap _ _ (fun hmem => Nat.lt_irrefl _ (Nat.lt_of_lt_of_le (hN1 q hq) (hwr5 _ hmem))) (N5 q hq).1, (N5 q hq).2⟩
    have G6 := fun g => AllBare.movedS (hgb g) hm
    have o6 := hm.os
    have d6 := hm.drawn
    obtain ⟨h6, gs6, dr6, tk6, os6⟩ := s'
    dsimp only at F6 N6 G6 o6 d6
    subst o6 d6
    clear hm F5 N5
    k_steps
    exact hret _ _ _ _ _ (by k_asm) (by k_asm) ⟨_, tb', rfl, htr5, rfl⟩ G6
end Mine
end
section
open PySem PySem.W PyProof.Rows PySem.Calls
set_option maxRecDepth 100000
set_option maxHeartbeats 8000000
namespace Mine
theorem kw_LC2_0 : True := by
  k_with_none
  trivial
def textP (ps : List (Str × Str)) : Str := Txt.join "" (ps.map fun q => Txt.join "" [q.1, q.2])
theorem join_pair_len (f g : Str) : (Txt.join "" [f, g]).length = f.length + g.length := by
  show (f ++ (Str.ofString "") ++ g).length = _
  rw [Str.length_append, Str.length_append]
  have e0 : (Str.ofString "").length = 0 := by decide
  omega
theorem range_map_getD {α β : Type} (g : α → β) (d : α) (ps : List α) : (List.range ps.length).map (fun j => g (ps.getD j d)) = ps.map g := by
  apply List.ext_getElem?
  intro j
  by_cases h : j < ps.length
  · simp [h, List.getD_eq_getElem?_getD]
  · simp [h]

theorem sum_pair_len : ∀ (ps : List (Str × Str)), (∀ q ∈ ps, q.1.length ≤ 1000 ∧ q.2.length ≤ 1000) → ((ps.map ((fun x => Str.length x) ∘ fun q => Txt.join "" [q.1, q.2])).sum) ≤ 2000 * ps.length
  | [], _ => by simp
  | q :: r, h => by
    have h1 := h q (.head _)
    have h2 := sum_pair_len r fun x hx => h x (.tail _ hx)
    rw [List.map_cons, List.sum_cons, List.length_cons]
    show (Txt.join "" [q.1, q.2]).length + _ ≤ _
    rw [join_pair_len]
    omega
theorem str_ok (w : World) (p : Program) (loose : List Str) (mean : ExcName → Option Value) (mg mb : Str → Option Value) (acc d : Addr) (items : Array Value) (n : Nat) (od : Obj) (ps : List (Str × Str)) (tb : Array Value) (rest : List (Addr × Obj))
    (es : List DictEntry) (k : Nat) (hod : od = dictOf es k) (ho : OwnOff rest [acc, d, 69]) (hnt : acc ≠ 69 ∧ d ≠ 69) (hp : Parts rest items ps) (hs : Small ps) (htr : TriplesOk tb.toList) :
    Tl w (Mine.hd.heap_1 w.params) p loose mean mg mb 20 100 (call (.ref 74) [.ref acc]) ((acc, accO 100 d items n) :: (d, od) :: (69, tabObj tb) :: rest)
      (fun r led => ∃ t tb', r = .str (textP ps) t ∧ TriplesOk tb'.toList ∧ led = (acc, accO 100 d items n) :: (d, od) :: (69, tabObj tb') :: rest) := by
  subst hod
  unfold Tl
  k_fill
  intro dp un gd cn cs a ccd cl outer A₀ base h₀ L m s Q E B F X N T hk hdp hu hret
  refine wpAny_call ?_
  k_dflt ktr_enter
  k_steps
  rename_i g1 L1 h1 FG F1 N1 B1 X1 T1
  obtain ⟨Ts, tf, tg, hTs⟩ := hp.fns
  have hlen : nsIn (Mine.hd.heap_1 w.params) mainGlobals (PySem.Str.ofString "EMPTYSTRING") = some (some (.str (PySem.Str.ofString "") 196)) := by k_is
  have hmg := mg_of X1 T1.g hlen
  have hcd : codeHdIn (Mine.hd.heap_1 w.params) 73 69 = true := by kernel_rfl
  have hI : InstAt h1 acc (accO 100 d items n) 100 (some (dictOf es k)) := acc_inst N1 (by k_mem) (by k_mem)
  refine gen_pairs (K := Mine.hd.heap_1 w.params) (h₀ := g1) (acc := acc) (C := 100) (c := 73) (P := 69) (ps := tb) (items := items) (Ts := Ts) (vals := fun j => (.str (ps.getD j ("", "")).1 (tf j), .str (ps.getD j ("", "")).2 (tg j)))
    (F := fun j v => ∃ t, v = .str (Txt.join "" [(ps.getD j ("", "")).1, (ps.getD j ("", "")).2]) t) (mg := mg)
    F1.keep X1 T1 (N1 _ (.tail _ (.tail _ (.head _)))).2.2 (codeHd_of_K X1 hcd) (N1.get (by k_mem)) htr hI ⟨n, rfl⟩ hnt.1 (fun j hj => (hTs j hj).1) ?tup ?k1 ?k2 rfl rfl rfl ?cell ?nm0 ?nma ?nmb ?ab rfl ?room rfl rfl ?iter ?elt ?q ?hs
  case tup =>
    intro j hj
    exact ⟨_, N1.get (.tail _ (.tail _ (.tail _ (hTs j hj).2))), rfl, 0, rfl⟩
  case k1 => k_is
  case k2 => k_is
  case cell => decide
  case nm0 => rfl
  case nma => rfl
  case nmb => rfl
  case ab => decide
  case room => show dp + 1 < recursionLimit; omega
  case iter =>
    intro Q' hQ'
    exact ld F1 rfl hQ'
  case hs => intro x; rfl
  case elt =>
    intro A' E' i code C' s₂ m₂ hA hi hk2 hn2 ha2 hb2
    have hi' : i < ps.length := hp.1 ▸ hi
    have hgi : ps.getD i ("", "") ∈ ps := by rw [List.getD_eq_getElem?_getD, List.getElem?_eq_getElem hi']; exact List.getElem_mem hi'
    have hsi := hs.2 _ hgi
    exact elt_str hk2 T1 hmg rfl rfl rfl rfl rfl hn2 ha2 hb2 (by omega) (by omega)
  case q =>
    intro ga s₅ tb' fp wr gg St hx5 hP5 htr5 hos5 hdr5 hgb W5 hst5 hty5 hin5 hfp5 hwr5
    have F5 := fr_but F1 (N1 _ (.tail _ (.tail _ (.head _)))).2.2 (N1 _ (.tail _ (.tail _ (.head _)))).2.1 hx5
    have N5 : News g1 L1 s₅.heap ((acc, accO 100 d items n) :: (d, dictOf es k) :: (69, tabObj tb') :: rest) := by
      intro q hq
      have hP2 := (N1 _ (.tail _ (.tail _ (.head _)))).2
      rcases List.mem_cons.mp hq with rfl | hq
      · exact ⟨hx5 _ _ hnt.1 (N1 _ (.head _)).1, (N1 _ (.head _)).2⟩
      rcases List.mem_cons.mp hq with rfl | hq
      · exact ⟨hx5 _ _ hnt.2 (N1 _ (.tail _ (.head _))).1, (N1 _ (.tail _ (.head _))).2⟩
      rcases List.mem_cons.mp hq with rfl | hq
      · exact ⟨hP5, hP2⟩
      · have := N1 q (.tail _ (.tail _ (.tail _ hq)))
        exact ⟨hx5 _ _ (ho q hq 69 (by simp)) this.1, this.2⟩
    obtain ⟨h5, gs5, dr5, tk5, os5⟩ := s₅
    dsimp only at F5 N5 hx5 hP5 hos5 hdr5 hgb hst5 hfp5
    subst hos5 hdr5
    have hL1 : L1 < h1.objs.size := F1.ns.lt
    have hN1 : ∀ q ∈ ((acc, accO 100 d items n) :: (d, dictOf es k) :: (69, tabObj tb') :: rest : List (Addr × Obj)), q.1 < h1.objs.size := by
      intro q hq
      rcases List.mem_cons.mp hq with rfl | hq
      · exact Heap.lt_size (N1 _ (.head _)).1
      rcases List.mem_cons.mp hq with rfl | hq
      · exact Heap.lt_size (N1 _ (.tail _ (.head _))).1
      rcases List.mem_cons.mp hq with rfl | hq
      · exact Heap.lt_size (N1 _ (.tail _ (.tail _ (.head _)))).1
      · exact Heap.lt_size (N1 q (.tail _ (.tail _ (.tail _ hq)))).1
    clear hx5 hP5 F1 N1
    k_steps
    have W6 := W5.in4_2
    refine SC.joinGen W6 hty5 (W6.frame 0 _ h5 tk5 hst5 (Nat.le_refl _) fun _ _ _ e => e) hfp5 hin5 (fun i v hv => ?_) (fun s' lt hm hacc => ?_) (by have := hp.1; have := hs.1; rw [sizeLine_eq]; omega)
    · obtain ⟨_, u, e⟩ := hv
      exact ⟨_, u, e⟩
    have hl : lt.map (·.1) = ps.map fun q => Txt.join "" [q.1, q.2] := by
      rw [← range_map_getD (fun q : Str × Str => Txt.join "" [q.1, q.2]) ("", "") ps, ← hp.1]
      apply List.ext_getElem?
      intro j
      have hsz : lt.length = items.size := by simpa [strValues] using hacc.1
      by_cases hj : j < items.size
      · have hj' : j < lt.length := hsz ▸ hj
        obtain ⟨_, u, hv⟩ := hacc.2 j (.str lt[j].1 lt[j].2) (by simp [strValues, List.getElem?_eq_getElem hj'])
        injection hv with h1 _
        simp [List.getElem?_eq_getElem hj', hj, h1]
      · rw [List.getElem?_eq_none (by simpa [hsz] using Nat.le_of_not_lt hj), List.getElem?_eq_none (by simpa using Nat.le_of_not_lt hj)]
    have F6 := F5.moved hm fun b hb => Nat.lt_of_lt_of_le hL1 (hwr5 b hb)
    have N6 : News g1 L1 s'.heap ((acc, accO 100 d items n) :: (d, dictOf es k) :: (69, tabObj tb') :: rest) := fun q hq =>
      ⟨hm.heap _ _ (fun hmem => Nat.lt_irrefl _ (Nat.lt_of_lt_of_le (hN1 q hq) (hwr5 _ hmem))) (N5 q hq).1, (N5 q hq).2⟩
    have G6 := fun g => AllBare.movedS (hgb g) hm
    have o6 := hm.os
    have d6 := hm.drawn
    obtain ⟨h6, gs6, dr6, tk6, os6⟩ := s'
    dsimp only at F6 N6 G6 o6 d6
    subst o6 d6
    clear hm F5 N5
    rw [hl]
    refine ⟨?_, fun t' k' => ?_⟩
    · refine joinOk_of ?_
      have e0 : (Str.ofString "").length = 0 := by decide
      have := sum_pair_len ps hs.2
      have h1 := hs.1
      rw [e0, Nat.mul_zero, List.map_map]
      have h2 : ((ps.map ((fun x => Str.length x) ∘ fun q => Txt.join "" [q.1, q.2])).sum) ≤ 2000 * ps.length := this
      omega
    · dsimp only
      k_steps
      exact hret _ _ _ _ _ (by k_asm) (by k_asm) ⟨_, tb', rfl, htr5, rfl⟩ G6
end Mine
end
section
open PySem PySem.W PyProof.Rows PySem.Calls
set_option maxRecDepth 100000
set_option maxHeartbeats 8000000
namespace Mine
theorem kw_LC3_0 : True := by
  k_with_none
  trivial
abbrev grp (w : World) (acc d : Addr) (items : Array Value) (n : Nat) (tk0 : Tok) (z : Int) (tkz : Tok) (t1 t2 : Array Value) : List (Addr × Obj) :=
  [(acc, accO 100 d items n), (d, szD w tk0 z tkz), (62, tabObj t1), (69, tabObj t2)]
structure AccSt (acc d : Addr) (items : Array Value) (z : Int) (t1 t2 : Array Value) (ps : List (Str × Str)) (rest : List (Addr × Obj)) : Prop where
  hp : Parts rest items ps
  hs : Small ps
  hz : 0 ≤ z ∧ z < 1000
  tr1 : TriplesOk t1.toList
  tr2 : TriplesOk t2.toList
  ne : @Ne Nat d acc ∧ @Ne Nat acc 62 ∧ @Ne Nat acc 69 ∧ @Ne Nat d 62 ∧ @Ne Nat d 69
  o1 : ∀ p ∈ rest, p.1 ≠ acc
  o2 : ∀ p ∈ rest, p.1 ≠ d
  o3 : ∀ p ∈ rest, p.1 ≠ 62
  o4 : ∀ p ∈ rest, p.1 ≠ 69
theorem ownOff_cons {p : Addr × Obj} {r : List (Addr × Obj)} {l : List Addr} (h : OwnOff r l) (hp : ∀ b ∈ l, p.1 ≠ b) : OwnOff (p :: r) l := fun q hq b hb => by
  rcases List.mem_cons.mp hq with rfl | hq
  · exact hp b hb
  · exact h q hq b hb
theorem Parts.mono {led led' : List (Addr × Obj)} {items : Array Value} {ps : List (Str × Str)} (h : Parts led items ps) (hs : ∀ q ∈ led, q ∈ led') : Parts led' items ps :=
  ⟨h.1, fun j f g e => let ⟨t, tf, tg, a, b⟩ := h.2 j f g e; ⟨t, tf, tg, a, hs _ b⟩⟩

section
variable {w : World} {p : Program} {loose : List Str} {mean : ExcName → Option Value} {mg mb : Str → Option Value} {acc d : Addr} {items : Array Value} {n : Nat} {tk0 tkz : Tok} {z : Int} {ps : List (Str × Str)} {t1 t2 : Array Value} {rest : List (Addr × Obj)}

theorem Tl.perm {K : Frag} {nd nu : Nat} {c : Sem Value} {led led₂ : List (Addr × Obj)} {Post Post₂ : Value → List (Addr × Obj) → Prop} (x : Tl w K p loose mean mg mb nd nu c led Post) (hs : ∀ q ∈ led, q ∈ led₂)
    (hp : ∀ r l, Post r l → ∃ l₂, (∀ q ∈ l₂, q ∈ l) ∧ Post₂ r l₂) : Tl w K p loose mean mg mb nd nu c led₂ Post₂ := by
  intro dp un gd cn cs a ccd cl outer A₀ base h₀ L m s Q E B F X N T hk hdp hu hret
  refine x dp un gd cn cs a ccd cl outer A₀ base h₀ L m s Q E B F X (fun q hq => N q (hs q hq)) T hk hdp hu fun r led' h' gs' tk' F' N' hP G => ?_
  obtain ⟨l₂, h1, h2⟩ := hp r led' hP
  exact hret r l₂ h' gs' tk' F' (fun q hq => N' q (h1 q hq)) h2 G

theorem len_acc (S : AccSt acc d items z t1 t2 ps rest) : Tl w (Mine.hd.heap_1 w.params) p loose mean mg mb 20 100 (call (.ref 67) [.ref acc]) (grp w acc d items n tk0 z tkz t1 t2 ++ rest)
    (fun r led => ∃ t t1', r = .int (z + lenP ps) t ∧ led = grp w acc d items n tk0 z tkz t1' t2 ++ rest ∧ AccSt acc d items z t1' t2 ps rest) := by
  refine Tl.perm (len_ok w p loose mean mg mb acc d items n tk0 tkz z ps t1 ((69, tabObj t2) :: rest) ?_ S.ne.1 ⟨S.ne.2.1, S.ne.2.2.2.1⟩ S.hz (S.hp.mono fun q hq => .tail _ hq) S.hs S.tr1) (fun q hq => hq) ?_
  · refine ownOff_cons (fun q hq b hb => ?_) ?_
    · simp only [List.mem_cons, List.not_mem_nil, or_false] at hb
      rcases hb with rfl | rfl | rfl
      · exact S.o1 q hq
      · exact S.o2 q hq
      · exact S.o3 q hq
    · intro b hb
      simp only [List.mem_cons, List.not_mem_nil, or_false] at hb
      have := S.ne
      rcases hb with rfl | rfl | rfl
      · exact Ne.symm this.2.2.1
      · exact Ne.symm this.2.2.2.2
      · show (69 : Nat) ≠ 62; decide
  · rintro r l ⟨t, tb', rfl, htr, rfl⟩
    exact ⟨_, fun q hq => hq, t, tb', rfl, rfl, { S with tr1 := htr }⟩

theorem str_acc (S : AccSt acc d items z t1 t2 ps rest) : Tl w (Mine.hd.heap_1 w.params) p loose mean mg mb 20 100 (call (.ref 74) [.ref acc]) (grp w acc d items n tk0 z tkz t1 t2 ++ rest)
    (fun r led => ∃ t t2', r = .str (textP ps) t ∧ led = grp w acc d items n tk0 z tkz t1 t2' ++ rest ∧ AccSt acc d items z t1 t2' ps rest) := by
  refine Tl.perm (str_ok w p loose mean mg mb acc d items n (szD w tk0 z tkz) ps t2 ((62, tabObj t1) :: rest) _ 1 rfl ?_ ⟨S.ne.2.2.1, S.ne.2.2.2.2⟩ (S.hp.mono fun q hq => .tail _ hq) S.hs S.tr2) (fun q hq => ?_) ?_
  · refine ownOff_cons (fun q hq b hb => ?_) ?_
    · simp only [List.mem_cons, List.not_mem_nil, or_false] at hb
      rcases hb with rfl | rfl | rfl
      · exact S.o1 q hq
      · exact S.o2 q hq
      · exact S.o4 q hq
    · intro b hb
      simp only [List.mem_cons, List.not_mem_nil, or_false] at hb
      have := S.ne
      rcases hb with rfl | rfl | rfl
      · exact Ne.symm this.2.1
      · exact Ne.symm this.2.2.2.1
      · show (62 : Nat) ≠ 69; decide
  · simp only [grp, List.cons_append, List.nil_append, List.mem_cons] at hq ⊢
    rcases hq with h | h | h | h | h <;> simp [h]
  · rintro r l ⟨t, tb', rfl, htr, rfl⟩
    refine ⟨grp w acc d items n tk0 z tkz t1 tb' ++ rest, fun q hq => ?_, t, tb', rfl, rfl, { S with tr2 := htr }⟩
    simp only [grp, List.cons_append, List.nil_append, List.mem_cons] at hq ⊢
    rcases hq with h | h | h | h | h <;> simp [h]
end
end Mine
end
section
open PySem PySem.W PyProof.Rows PySem.Calls
set_option maxRecDepth 100000
set_option maxHeartbeats 8000000
namespace Mine
theorem kw_LC4_1 : True := by
  k_with_none
  k_with "m getAttr ref" => (k_here; k_dflt (refine' kget ?k1ρ ?k2ρ ?k3ρ ?k4ρ ?k5ρ ?k6ρ ?k7ρ ?k8ρ ?k9ρ ?k10ρ ?k11ρ ?_; (case k1ρ => k_asm); (case k2ρ => k_asm); (case k3ρ => exact acc_inst (by k_asm) (by k_mem) (by k_mem)); (case k4ρ => k_is); (case k5ρ => k_is); (case k6ρ => k_is); (case k7ρ => k_is); (case k8ρ => k_is); (case k9ρ => k_is); (case k10ρ => k_get); (case k11ρ => exact rfl); k_whole))
  k_with "m getMethod ref" => (k_here; k_dflt (refine' kmeth ?k1ρ ?k2ρ ?k3ρ ?k4ρ ?k5ρ ?k6ρ ?k7ρ ?k8ρ ?k9ρ ?_; (case k1ρ => k_asm); (case k2ρ => k_asm); (case k3ρ => exact acc_inst (by k_asm) (by k_mem) (by k_mem)); (case k4ρ => k_is); (case k5ρ => k_is); (case k6ρ => k_is); (case k7ρ => k_is); (case k8ρ => exact rfl); (case k9ρ => exact rfl); k_whole))
  k_with "m call builtin:list.append" => (k_here; (with_reducible show wpAny _ _ (call (Value.builtin _) [Value.ref _, _]) _ _ _); k_dflt (refine' lappend ?k1ρ ?k2ρ ?k3ρ ?k4ρ ?k5ρ ?k6ρ ?k7ρ ?_; (case k1ρ => k_asm); (case k2ρ => k_asm); (case k3ρ => k_asm); (case k4ρ => exact acc_inst (by k_asm) (by k_mem) (by k_mem)); (case k5ρ => k_is); (case k6ρ => k_upd); (case k7ρ => omega); k_whole); intro h'ρ F'ρ N'ρ; (try k_sweep))
  trivial
section
variable {w : World} {p : Program} {loose : List Str} {mean : ExcName → Option Value} {mg mb : Str → Option Value} {acc d : Addr} {items : Array Value} {n : Nat} {tk0 tkz : Tok} {z : Int} {ps : List (Str × Str)} {t1 t2 : Array Value} {rest : List (Addr × Obj)}

theorem allLt_get {b : Addr} {l : List (Addr × Obj)} (h : AllLt b l) : ∀ q ∈ l, q.1 < b := by
  induction l with
  | nil => intro q hq; cases hq
  | cons x r ih =>
    intro q hq
    obtain ⟨h1, h2⟩ := h
    rcases List.mem_cons.mp hq with e | e
    · rw [e]; exact h1
    · exact ih h2 q e
theorem AccSt.own (S : AccSt acc d items z t1 t2 ps rest) : OwnOff rest [acc, d, 62, 69] := fun q hq b hb => by
  simp only [List.mem_cons, List.not_mem_nil, or_false] at hb
  rcases hb with rfl | rfl | rfl | rfl
  · exact S.o1 q hq
  · exact S.o2 q hq
  · exact S.o3 q hq
  · exact S.o4 q hq

theorem push_acc {f g : Str} {tf tg : Tok} (S : AccSt acc d items z t1 t2 ps rest) (hl : ps.length < 1000) (hf : f.length ≤ 1000) (hg : g.length ≤ 1000) :
    Tl w (Mine.hd.heap_1 w.params) p loose mean mg mb 20 100 (call (.ref 45) [.ref acc, .str f tf, .str g tg]) (grp w acc d items n tk0 z tkz t1 t2 ++ rest)
      (fun r led => r = .none ∧ ∃ t, (∀ q ∈ grp w acc d items n tk0 z tkz t1 t2 ++ rest, q.1 < t) ∧ led = grp w acc d (items.push (.ref t)) (n + 1) tk0 z tkz t1 t2 ++ (t, tupO [.str f tf, .str g tg]) :: rest ∧
        AccSt acc d (items.push (.ref t)) z t1 t2 (ps ++ [(f, g)]) ((t, tupO [.str f tf, .str g tg]) :: rest)) := by
  have ho := S.own
  have hne := S.ne
  have hz : items.size < 1000000 := by have := S.hp.1; omega
  have fin : ∀ t : Nat, @LT.lt Nat _ acc t → @LT.lt Nat _ d t → @LT.lt Nat _ 62 t → @LT.lt Nat _ 69 t → AllLt t rest →
      AccSt acc d (items.push (.ref t)) z t1 t2 (ps ++ [(f, g)]) ((t, tupO [.str f tf, .str g tg]) :: rest) := by
    intro t ha hd' h1 h2 hr
    have hr' := allLt_get hr
    refine { S with hp := ?_, hs := ?_, o1 := ?_, o2 := ?_, o3 := ?_, o4 := ?_ }
    · refine ⟨by simp [S.hp.1], fun j f' g' e => ?_⟩
      by_cases hj : j < ps.length
      · rw [List.getElem?_append_left hj] at e
        obtain ⟨t', tf', tg', e1, e2⟩ := S.hp.2 j f' g' e
        refine ⟨t', tf', tg', ?_, .tail _ e2⟩
        rw [Array.getElem?_push, if_neg (by have := S.hp.1; omega)]
        exact e1
      · have hj' : j = ps.length := by
          rw [List.getElem?_append_right (by omega)] at e
          have := (List.getElem?_eq_some_iff.mp e).1
          simp at this; omega
        subst hj'
        rw [List.getElem?_append_right (Nat.le_refl _), Nat.sub_self] at e
        have e' : (f', g') = (f, g) := (Option.some.inj e).symm
        cases e'
        refine ⟨t, tf, tg, ?_, .head _⟩
        rw [Array.getElem?_push, if_pos S.hp.1.symm]
    · refine ⟨by simp; omega, fun q hq => ?_⟩
      rcases List.mem_append.mp hq with hq | hq
      · exact S.hs.2 q hq
      · rw [List.mem_singleton.mp hq]; exact ⟨hf, hg⟩
    · exact fun q hq => (List.mem_cons.mp hq).elim (fun e => e ▸ Nat.ne_of_gt ha) (S.o1 q)
    · exact fun q hq => (List.mem_cons.mp hq).elim (fun e => e ▸ Nat.ne_of_gt hd') (S.o2 q)
    · exact fun q hq => (List.mem_cons.mp hq).elim (fun e => e ▸ Nat.ne_of_gt h1) (S.o3 q)
    · exact fun q hq => (List.mem_cons.mp hq).elim (fun e => e ▸ Nat.ne_of_gt h2) (S.o4 q)
  have fin2 : ∀ t : Nat, @LT.lt Nat _ acc t → @LT.lt Nat _ d t → @LT.lt Nat _ 62 t → @LT.lt Nat _ 69 t → AllLt t rest → ∀ q ∈ grp w acc d items n tk0 z tkz t1 t2 ++ rest, q.1 < t := by
    intro t ha hd' h1 h2 hr q hq
    have hr' := allLt_get hr
    simp only [grp, List.cons_append, List.nil_append, List.mem_cons] at hq
    rcases hq with h | h | h | h | h
    · rw [h]; exact ha
    · rw [h]; exact hd'
    · rw [h]; exact h1
    · rw [h]; exact h2
    · exact hr' q h
  unfold Tl
  k_fill
  intro dp un gd cn cs a ccd cl outer A₀ base h₀ L m s Q E B F X N T hk hdp hu hret
  simp only [grp, List.cons_append, List.nil_append] at N
  refine wpAny_call ?_
  clear S
  have hret' : ∀ (t : Nat) h' tk', @LT.lt Nat _ acc t → @LT.lt Nat _ d t → @LT.lt Nat _ 62 t → @LT.lt Nat _ 69 t → AllLt t rest → Fr h₀ L h' m → News h₀ L h' ((t, tupO [.str f tf, .str g tg]) :: (acc, accO 100 d (items.push (.ref t)) (n + 1)) :: (d, szD w tk0 z tkz) :: (62, tabObj t1) :: (69, tabObj t2) :: rest) → Q .none ⟨h', s.gens, s.drawn, tk', s.os⟩ := by
    intro t h' tk' ha hd' h1 h2 hr F' N'
    refine hret _ (grp w acc d (items.push (.ref t)) (n + 1) tk0 z tkz t1 t2 ++ (t, tupO [.str f tf, .str g tg]) :: rest) _ _ _ F' (fun q hq => N' q ?_) ⟨rfl, t, fin2 t ha hd' h1 h2 hr, rfl, fin t ha hd' h1 h2 hr⟩ id
    simp only [grp, List.cons_append, List.nil_append, List.mem_cons] at hq ⊢
    rcases hq with h | h | h | h | h | h <;> simp [h]
  clear hret fin fin2
  k_dflt ktr_enter
  k_steps
  rename (_ ∧ _ ∧ _ ∧ _ ∧ AllLt _ _) => l1
  exact hret' _ _ _ l1.1 l1.2.1 l1.2.2.1 l1.2.2.2.1 l1.2.2.2.2 (by k_asm) (by k_asm)
end
end Mine
end
section
open PySem PySem.W PyProof.Rows PySem.Calls PySem.Builtin PySem.Builtin.List PySem.Builtin.ObjectAttr
set_option maxRecDepth 100000
namespace Mine
theorem kw_LB8_0 : True := by
  k_with_none
  trivial
theorem slot_wd_get : Slot "wrapper_descriptor" "__get__" "wrapper_descriptor.__get__" := .of (owner := "wrapper_descriptor") (n := "__get__") (by rw [typeLookup_type, builtinLookup_eq_fast]; kernel_rfl) (by decide +kernel) (by decide +kernel) (by decide +kernel)
    (by first | exact .inl (by decide +kernel) | exact .inr (by decide +kernel)) (by rw [isSubtype_type]; kernel_rfl)
theorem entry_wd_get : entryFor table "wrapper_descriptor.__get__" = some Builtin.«wrapper_descriptor.__get__» := entryFor_of_tree (by kernel_rfl)
theorem args_wd_get (a b c : Value) : argsOk "wrapper_descriptor.__get__" ⟨[a, b, c], []⟩ := by unfold argsOk; kernel_rfl
section
variable {prog : Program} {w : World} {M : Model} {A : Around} {E : Value → Shared → Prop} {h : Heap} {g : Array GenState} {d : Drawn} {t : Nat} {os : OsState}

theorem wd_get_len {x C : Addr} {Q : Fin → Shared → Prop} (hi : Looks M h (isInstance (.ref x) (.type "list")) true)
    (hq : Q (.done (.ret (.ref h.objs.size))) ⟨h.push { cls := .type "method-wrapper", data := .fields #[.builtin "list.__len__", .ref x] }, g, d, t, os⟩) :
    wpAny M A (Builtin.«wrapper_descriptor.__get__» ⟨[.builtin "list.__len__", .ref x, .ref C], []⟩) Q E ⟨h, g, d, t, os⟩ := by
  unfold Builtin.«wrapper_descriptor.__get__»
  refine wpAny_bind ?_
  refine wpAny_pure ?_
  dsimp only
  refine wpAny_bind ?_
  refine wpAny_bind (wpAny_of_eq (a := (Str.ofString "__len__", Value.type "list")) (by kernel_rfl) ?_)
  dsimp only
  refine wpAny_bind (hi.at ?_)
  rw [if_neg (by decide)]
  refine wpAny_pure ?_
  exact wpAny_bind (wpAny_newObj_type (wpAny_pure hq))
theorem wd_get_init {x C : Addr} {Q : Fin → Shared → Prop} (hi : Looks M h (isInstance (.ref x) (.type "list")) true)
    (hq : Q (.done (.ret (.ref h.objs.size))) ⟨h.push { cls := .type "method-wrapper", data := .fields #[.builtin "list.__init__", .ref x] }, g, d, t, os⟩) :
    wpAny M A (Builtin.«wrapper_descriptor.__get__» ⟨[.builtin "list.__init__", .ref x, .ref C], []⟩) Q E ⟨h, g, d, t, os⟩ := by
  unfold Builtin.«wrapper_descriptor.__get__»
  refine wpAny_bind ?_
  refine wpAny_pure ?_
  dsimp only
  refine wpAny_bind ?_
  refine wpAny_bind (wpAny_of_eq (a := (Str.ofString "__init__", Value.type "list")) (by kernel_rfl) ?_)
  dsimp only
  refine wpAny_bind (hi.at ?_)
  rw [if_neg (by decide)]
  refine wpAny_pure ?_
  exact wpAny_bind (wpAny_newObj_type (wpAny_pure hq))

/-- what wd_get says of one descriptor -/
abbrev WdGet (id : String) : Prop := ∀ (M : Model) (A : Around) (E : Value → Shared → Prop) (h : Heap) (g : Array GenState) (d : Drawn) (t : Nat) (os : OsState) (x C : Addr) (Q : Fin → Shared → Prop), Looks M h (isInstance (.ref x) (.type "list")) true →
    Q (.done (.ret (.ref h.objs.size))) ⟨h.push { cls := .type "method-wrapper", data := .fields #[.builtin id, .ref x] }, g, d, t, os⟩ →
    wpAny M A (Builtin.«wrapper_descriptor.__get__» ⟨[.builtin id, .ref x, .ref C], []⟩) Q E ⟨h, g, d, t, os⟩
theorem WdGet.len : WdGet "list.__len__" := fun _ _ _ _ _ _ _ _ _ _ _ hi hq => wd_get_len hi hq
theorem WdGet.init : WdGet "list.__init__" := fun _ _ _ _ _ _ _ _ _ _ _ hi hq => wd_get_init hi hq

theorem lsuper_ga {so D x C : Addr} {l₀ l : List Value} {K : Frag} {name : Str} {tk : Tok} {id : String} {Q : Fin → Shared → Prop} (W : WdGet id) (hty : typeOf (.builtin id) = pure (.type "wrapper_descriptor"))
    (hTw : ∀ s : Shared, s.TypeIs (.builtin id) "wrapper_descriptor")
    (hso : h.get? so = some { cls := .type "super", dict := none, data := .fields #[.ref D, .ref x, .ref C], slots := #[] }) (hno : Looks (model prog w) h (opaqueClassAbove (.ref C)) none)
    (hC : Looks (model prog w) h (mroOf (.ref C)) l₀) (hl : (l₀.dropWhile (· != .ref D)).drop 1 = l) (X : K.In h)
    (hf : alongIn K name l = some (some (.builtin id))) (hxC : x ≠ C) (hn : (name == ("__class__" : Str)) = false) (hi : Looks (model prog w) h (isInstance (.ref x) (.type "list")) true)
    (hq : Q (.done (.ret (.ref h.objs.size))) ⟨h.push { cls := .type "method-wrapper", data := .fields #[.builtin id, .ref x] }, g, d, t, os⟩) :
    wpAny (model prog w) A (Builtin.«super.__getattribute__» ⟨[.ref so, .str name tk], []⟩) Q E ⟨h, g, d, t, os⟩ := by
  have hlk := slot_wd_get.lookup
  have hne : (Value.ref x == Value.ref C) = false := by simp [hxC]
  have hdt : ({ cls := .type "super", dict := none, data := .fields #[.ref D, .ref x, .ref C], slots := #[] } : Obj).data = .fields #[.ref D, .ref x, .ref C] := rfl
  have f0 : (#[.ref D, .ref x, .ref C] : Array Value)[0]? = some (.ref D) := rfl
  have f1 : (#[.ref D, .ref x, .ref C] : Array Value)[1]? = some (.ref x) := rfl
  have f2 : (#[.ref D, .ref x, .ref C] : Array Value)[2]? = some (.ref C) := rfl
  unfold Builtin.«super.__getattribute__»
  repeat (first
    | (with_reducible refine wpAny_field hso hdt f0 ?_) | (with_reducible refine wpAny_field hso hdt f1 ?_) | (with_reducible refine wpAny_field hso hdt f2 ?_)
    | (with_reducible refine ks_wpAny_notOpaque hno ?_)
    | (with_reducible refine Looks.at hC ?_; rw [hl])
    | (refine ks_forIn_along X (fun _ _ => rfl) rfl ?_ hf)
    | (with_reducible refine wpAny_of_eq hty ?_)
    | (with_reducible refine wpAny_call_entry slot_wd_get (hTw _) entry_wd_get ?_ (args_wd_get _ _ _))
    | (with_reducible refine W _ _ _ _ _ _ _ _ _ _ _ hi ?_)
    | (with_reducible refine ⟨_, rfl, ?_⟩)
    | (simp only [hn, hne, Bool.or_false, Bool.false_eq_true, if_false])
    | wp_step
    | dsimp only)
  all_goals exact hq

theorem lsuper_method {so D x C : Addr} {l₀ l : List Value} {K : Frag} {name : Str} {id : String} {pl : Sem Bool} {Q : Value × List Value → Shared → Prop} (W : WdGet id) (hty : typeOf (.builtin id) = pure (.type "wrapper_descriptor"))
    (hTw : ∀ s : Shared, s.TypeIs (.builtin id) "wrapper_descriptor")
    (hso : h.get? so = some { cls := .type "super", dict := none, data := .fields #[.ref D, .ref x, .ref C], slots := #[] }) (hno : Looks (model prog w) h (opaqueClassAbove (.ref C)) none)
    (hC : Looks (model prog w) h (mroOf (.ref C)) l₀) (hl : (l₀.dropWhile (· != .ref D)).drop 1 = l) (X : K.In h)
    (hf : alongIn K name l = some (some (.builtin id))) (hxC : x ≠ C) (hn : (name == ("__class__" : Str)) = false) (hi : Looks (model prog w) h (isInstance (.ref x) (.type "list")) true)
    (hq : Q (.ref h.objs.size, []) ⟨h.push { cls := .type "method-wrapper", data := .fields #[.builtin id, .ref x] }, g, d, t + 1, os⟩) :
    wpAny (model prog w) A (getMethod (.ref so) name pl) Q E ⟨h, g, d, t, os⟩ := by
  have hlk := F.ks_slot_super_ga.lookup
  have hcan := F.ks_canon_super_ga
  have hT : ∀ t', (⟨h, g, d, t', os⟩ : Shared).TypeIs (.ref so) "super" := fun _ => ⟨_, hso, rfl⟩
  unfold getMethod
  refine wpAny_bind (wpAny_specialOf (hT _) hlk ?_)
  show wpAny _ _ (if (Manifest.canonical "super.__getattribute__" != "object.__getattribute__") = true then _ else _) _ _ _
  rw [if_pos hcan]
  unfold getAttr getAttrBy
  refine wpAny_bind (wpAny_bind (wpAny_mkText (wpAny_holding (wpAny_bind (wpAny_typeOf (hT _) (wpAny_bind (wpAny_of_eq hlk ?_)))))))
  show wpAny _ _ (getAttrByItsOwn (.ref so) (.str name t) (.type "super") (.builtin "super.__getattribute__") true false) _ _ _
  unfold getAttrByItsOwn hookBefore callGetattribute boundAndCalled
  refine wpAny_bind (wpAny_of_eq (show (if onTheHeap (.type "super") then typeLookup (.type "super") "__getattr__" else pure none) = pure none from rfl) ?_)
  refine wpAny_bind (wpAny_attempt (wpAny_holding ?_))
  show wpAny _ _ (bindSpecial (.builtin "super.__getattribute__") (.ref so) >>= _) _ _ _
  refine wpAny_bind (wpAny_of_eq (F.ks_slot_super_ga.bind _) ?_)
  refine wpAny_mono (Q := fun v s' => v = .ref h.objs.size ∧ s' = ⟨h.push { cls := .type "method-wrapper", data := .fields #[.builtin id, .ref x] }, g, d, t + 1, os⟩) (E := fun _ _ => False)
    (wpAny_call_entry F.ks_slot_super_ga (hT _) F.ks_entry_super_ga (lsuper_ga W hty hTw hso hno hC hl X hf hxC hn hi ⟨_, rfl, rfl, rfl⟩) (F.ks_gaArgs_super _ _)) (fun v s' hv => ?_) fun _ _ z => z.elim
  obtain ⟨rfl, rfl⟩ := hv
  exact wpAny_pure (wpAny_pure hq)

abbrev mwObj (id : String) (x : Addr) : Obj := { cls := .type "method-wrapper", data := .fields #[.builtin id, .ref x] }
theorem keeps_mw {q x : Addr} {id : String} (h : Heap) (X : h.get? q = some (mwObj id x)) : ∃ k, (k = Keeper.frame ∨ k = Keeper.machine ∨ k = Keeper.boundFrame) ∧ Looks M h (keeperOf (.ref q)) k :=
  ⟨.machine, .inr (.inl rfl), (Looks.ld (part := none) X).andThen .now⟩
theorem callWith_mw {s : Shared} {env : Env} {pos : Pos} {q x : Addr} {id : String} {first : List Value} {Q : Value → Shared → Prop} (X : s.heap.get? q = some (mwObj id x)) (hq : wpAny M A (call (.ref q) (first ++ [])) Q E s) :
    wpAny M A (callWith pos (.ref q) first (backTo pos (starEach [] env)) []) Q E s :=
  callWith_of rfl (keeps_mw) (evalArgs_nil3 ⟨X, hq⟩)
theorem entry_llen : entryFor table "list.__len__" = some Builtin.«list.__len__» := entryFor_of_tree (by kernel_rfl)
theorem entry_linit : entryFor table "list.__init__" = some Builtin.«list.__init__» := entryFor_of_tree (by kernel_rfl)
theorem bound_llen (x : Addr) : checkBoundCall "list.__len__" ⟨[.ref x], []⟩ = pure () := by kernel_rfl
theorem bound_linit (x : Addr) : checkBoundCall "list.__init__" ⟨[.ref x], []⟩ = pure () := by kernel_rfl
theorem call_mw_len {q x : Addr} {items : Array Value} {ox : Obj} {n : Nat} {Q : Value → Shared → Prop} (X : h.get? q = some (mwObj "list.__len__" x)) (hx : h.get? x = some ox) (hd : ox.data = .seq items n)
    (hq : Q (.int items.size t) ⟨h, g, d, t + 1, os⟩) : wpAny (model prog w) A (call (.ref q) []) Q E ⟨h, g, d, t, os⟩ := by
  refine wpAny_call (codeAny_of_tree ?_)
  show wpAny _ _ (callAny (.ref q) _) _ _ _
  refine nd_load X ?_
  show wpAny _ _ (checkBoundCall "list.__len__" ⟨[.ref x], []⟩ >>= fun _ => again (.builtin "list.__len__" ⟨[.ref x], []⟩)) _ _ _
  refine wpAny_bind (wpAny_of_eq (bound_llen x) ?_)
  refine wpAny_pure ⟨plainId_quiet (by decide +kernel) _, codeAny_builtin entry_llen ?_⟩
  unfold Builtin.«list.__len__»
  refine wpAny_bind (wpAny_pure ?_)
  refine wpAny_bind (m := seqSize x) ?_
  unfold seqSize
  refine wpAny_bind (wpAny_loadPart hx ?_)
  rw [hd]
  refine wpAny_pure ?_
  exact wpAny_bind (wpAny_mkInt (wpAny_pure hq))
theorem call_mw_init {q x : Addr} {ox : Obj} {n : Nat} {Q : Value → Shared → Prop} (X : h.get? q = some (mwObj "list.__init__" x)) (hx : h.get? x = some ox) (hd : ox.data = .seq #[] n)
    (hq : Q .none ⟨h.update x (Obj.mapSeq fun _ => #[]), g, d, t, os⟩) : wpAny (model prog w) A (call (.ref q) []) Q E ⟨h, g, d, t, os⟩ := by
  refine wpAny_call (codeAny_of_tree ?_)
  show wpAny _ _ (callAny (.ref q) _) _ _ _
  refine nd_load X ?_
  show wpAny _ _ (checkBoundCall "list.__init__" ⟨[.ref x], []⟩ >>= fun _ => again (.builtin "list.__init__" ⟨[.ref x], []⟩)) _ _ _
  refine wpAny_bind (wpAny_of_eq (bound_linit x) ?_)
  refine wpAny_pure ⟨plainId_quiet (by decide +kernel) _, codeAny_builtin entry_linit ?_⟩
  unfold Builtin.«list.__init__»
  dsimp only
  refine wpAny_bind (m := listItems (.ref x)) ?_
  unfold listItems
  refine wpAny_bind (wpAny_seqItems hx hd (wpAny_pure ?_))
  refine wpAny_bind (m := listUpdate (.ref x) _) (wpAny_updateSeq hx hd ?_ (by simp) (by simp))
  refine wpAny_bind (wpAny_letGo (wpAny_pure hq))
end
end Mine
end
section
open PySem PySem.W PyProof.Rows PySem.Calls
set_option maxRecDepth 100000
set_option maxHeartbeats 8000000
namespace Mine
theorem kw_LC5_1 : True := by
  k_with_none
  k_with "m getAttr ref" => (k_here; k_dflt (refine' kget ?k1ρ ?k2ρ ?k3ρ ?k4ρ ?k5ρ ?k6ρ ?k7ρ ?k8ρ ?k9ρ ?k10ρ ?k11ρ ?_; (case k1ρ => k_asm); (case k2ρ => k_asm); (case k3ρ => exact acc_inst (by k_asm) (by k_mem) (by k_mem)); (case k4ρ => k_is); (case k5ρ => k_is); (case k6ρ => k_is); (case k7ρ => k_is); (case k8ρ => k_is); (case k9ρ => k_is); (case k10ρ => k_get); (case k11ρ => exact rfl); k_whole))
  k_with "m getMethod ref" => (k_here; k_dflt (refine' kmeth ?k1ρ ?k2ρ ?k3ρ ?k4ρ ?k5ρ ?k6ρ ?k7ρ ?k8ρ ?k9ρ ?_; (case k1ρ => k_asm); (case k2ρ => k_asm); (case k3ρ => exact acc_inst (by k_asm) (by k_mem) (by k_mem)); (case k4ρ => k_is); (case k5ρ => k_is); (case k6ρ => k_is); (case k7ρ => k_is); (case k8ρ => exact rfl); (case k9ρ => exact rfl); k_whole))
  k_with "m call builtin:list.append" => (k_here; (with_reducible show wpAny _ _ (call (Value.builtin _) [Value.ref _, _]) _ _ _); k_dflt (refine' lappend ?k1ρ ?k2ρ ?k3ρ ?k4ρ ?k5ρ ?k6ρ ?k7ρ ?_; (case k1ρ => k_asm); (case k2ρ => k_asm); (case k3ρ => k_asm); (case k4ρ => exact acc_inst (by k_asm) (by k_mem) (by k_mem)); (case k5ρ => k_is); (case k6ρ => k_upd); (case k7ρ => omega); k_whole); intro h'ρ F'ρ N'ρ; (try k_sweep))
  trivial

theorem kw_LC5_2 : True := by
  k_with "m mine super" => (refine' ks_code_super ?k1ρ ?k2ρ ?k3ρ ?k4ρ ?k5ρ ?kAρ ?kFρ ?kKρ ?k6ρ ?k7ρ ?k8ρ ?k9ρ ?kBρ ?_ ?c1ρ ?c2ρ ?c3ρ ?c4ρ; (case kAρ => exact rfl); (case kFρ => exact rfl); (case kKρ => assumption); (case k1ρ => k_asm); (case k2ρ => k_asm); (case k3ρ => k_asm); (case k4ρ => k_asm); (case k5ρ => k_asm); (case k6ρ => k_is); (case k7ρ => k_is); (case k8ρ => ktr_room); (case k9ρ => first | exact BindsTo.of_eq rfl | exact binds_K (by k_in) rfl (by k_is) rfl rfl rfl); (case kBρ => exact locs rfl); (case c1ρ => decide); (case c2ρ => exact rfl); (case c3ρ => exact rfl); (case c4ρ => exact rfl); intro g'ρ L'ρ h'ρ FG'ρ F'ρ N'ρ B'ρ X'ρ T'ρ l1ρ; (try k_lt l1ρ); (try dsimp only))
  trivial

section
variable {prog : Program} {w : World} {A : Around} {E : Value → Shared → Prop} {s : Shared} {K : Frag} {x C D so : Addr} {ox : Obj} {od : Option Obj} {name : Str} {h₀ : Heap} {L : Addr} {m : Str → Option Value} {news : List (Addr × Obj)}
theorem klsuper {id : String} {pl : Sem Bool} {Q : Value × List Value → Shared → Prop} (F : Fr h₀ L s.heap m) (X₀ : K.In h₀) (N : News h₀ L s.heap news) (hso : (so, ks_superObj D x C) ∈ news) (I : InstAt s.heap x ox C od)
    (ho : nsIn K cStatics "thirdparty.any" = some none) (hm : ks_superIn K C D name = some (some (.builtin id))) (hsub : subIn K (.ref C) (.type "list") = some true) (hn : (name == ("__class__" : Str)) = false)
    (W : WdGet id) (hty : typeOf (.builtin id) = pure (.type "wrapper_descriptor")) (hTw : ∀ s : Shared, s.TypeIs (.builtin id) "wrapper_descriptor")
    (h : ∀ q h', Fr h₀ L h' m → News h₀ L h' ((q, mwObj id x) :: news) → (∀ p ∈ news, p.1 < q) → Q (.ref q, []) { s with heap := h', toks := s.toks + 1 }) : wpAny (model prog w) A (getMethod (.ref so) name pl) Q E s := by
  have X : K.In s.heap := X₀.keeps F.keep
  obtain ⟨hh, g, d, t, os⟩ := s
  cases hc : clsIn K C with
  | none => unfold ks_superIn at hm; rw [hc] at hm; cases hm
  | some cd =>
    unfold ks_superIn at hm
    rw [hc] at hm
    refine lsuper_method W hty hTw (N _ hso).1 (looks_opaque X ho) (l₀ := cd.mro) ?_ rfl X hm (ks_ne X I hc) hn (isi_list (s := ⟨hh, g, d, t, os⟩) X I hsub) ?_
    · exact fun A Q E s k q => wpAny_bind ((looks_clsIn X hc) A _ E s k (wpAny_pure q))
    · obtain ⟨F', N', l'⟩ := ks_newsPush (s := ⟨hh, g, d, t, os⟩) (o := mwObj id x) F N rfl (Heap.get?_push_at rfl rfl) (fun b o e => Heap.get?_push_of_some _ e)
      exact h _ _ F' N' l'
theorem ty_llen : typeOf (.builtin "list.__len__") = pure (.type "wrapper_descriptor") := by show builtinType _ = _; rw [builtinType_eq_fast]; kernel_rfl
theorem ty_linit : typeOf (.builtin "list.__init__") = pure (.type "wrapper_descriptor") := by show builtinType _ = _; rw [builtinType_eq_fast]; kernel_rfl
theorem tw_llen (s : Shared) : s.TypeIs (.builtin "list.__len__") "wrapper_descriptor" := ty_llen
theorem tw_linit (s : Shared) : s.TypeIs (.builtin "list.__init__") "wrapper_descriptor" := ty_linit
end
theorem kw_LC5_3 : True := by
  k_with "m wpAt" => (k_here; k_dflt (refine ks_node (by k_asm) (by k_asm) (by k_asm) (by k_asm) (by k_is) (by rfl) (by rfl) (acc_inst (by k_asm) (by k_mem) (by k_mem)) (by k_is) (by rfl) (by first | rfl | decide +kernel) (by k_is) (by k_is) (by k_is) (by k_is) (by decide) (by rfl) (by rfl) (by rfl) (by rfl) (by decide +kernel) (by first | boot_by_name | rfl | kernel_rfl) ?_; intro so'ρ h'ρ F'ρ N'ρ l1ρ; (try k_lt l1ρ)))
  k_with "m getMethod ref" => (k_here; k_dflt (refine' klsuper ?k1ρ ?k2ρ ?k3ρ ?k4ρ ?k5ρ ?k6ρ ?k7ρ ?k7bρ ?k8ρ ?k9ρ ?k10ρ ?k11ρ ?_; (case k1ρ => k_asm); (case k2ρ => k_asm); (case k3ρ => k_asm); (case k4ρ => k_mem); (case k5ρ => exact acc_inst (by k_asm) (by k_mem) (by k_mem)); (case k6ρ => k_is); (case k7ρ => ks_is); (case k7bρ => k_is); (case k8ρ => decide); (case k9ρ => first | exact WdGet.len | exact WdGet.init); (case k10ρ => first | exact ty_llen | exact ty_linit); (case k11ρ => first | exact tw_llen | exact tw_linit)); intro q'ρ h'ρ F'ρ N'ρ l1ρ; (try k_lt l1ρ))
  k_with "m callWith ref" => (k_here; k_dflt (refine callWith_mw (News.get (by k_asm) (by k_mem)) ?_); (try dsimp only [List.nil_append, List.cons_append]))
  k_with "m call ref" => (k_here; (with_reducible show wpAny _ _ (call (Value.ref _) []) _ _ _); k_dflt (refine call_mw_len (News.get (by k_asm) (by k_mem)) (News.get (by k_asm) (by k_mem)) rfl ?_))
  trivial
section
variable {w : World} {p : Program} {loose : List Str} {mean : ExcName → Option Value} {mg mb : Str → Option Value} {acc d : Addr} {items : Array Value} {n : Nat} {tk0 tkz : Tok} {z : Int} {ps : List (Str × Str)} {t1 t2 : Array Value} {rest : List (Addr × Obj)}


theorem count_acc (S : AccSt acc d items z t1 t2 ps rest) :
    Tl w (Mine.hd.heap_1 w.params) p loose mean mg mb 20 100 (call (.ref 97) [.ref acc]) (grp w acc d items n tk0 z tkz t1 t2 ++ rest)
      (fun r led => ∃ t, r = .int items.size t ∧ led = grp w acc d items n tk0 z tkz t1 t2 ++ rest) := by
  have ho := S.own
  have hne := S.ne
  have hz : items.size < 1000000 := by have := S.hp.1; have := S.hs.1; omega
  unfold Tl
  k_fill
  intro dp un gd cn cs a ccd cl outer A₀ base h₀ L m s Q E B F X N T hk hdp hu hret
  simp only [grp, List.cons_append, List.nil_append] at N
  have hret' : ∀ t h' tk', Fr h₀ L h' m → News h₀ L h' ((acc, accO 100 d items n) :: (d, szD w tk0 z tkz) :: (62, tabObj t1) :: (69, tabObj t2) :: rest) → Q (.int items.size t) ⟨h', s.gens, s.drawn, tk', s.os⟩ := fun t h' tk' F' N' => hret _ _ h' s.gens tk' F' N' ⟨t, rfl, rfl⟩ id
  refine wpAny_call ?_
  clear S hret
  k_dflt (walk_at "mine super")
  k_steps
  exact hret' _ _ _ (by k_asm) (fun q hq => by first | exact (by k_asm : News _ _ _ _) q (.tail _ (.tail _ hq)))
end
end Mine
end
section
open PySem PySem.W PyProof.Rows PySem.Calls
set_option maxRecDepth 100000
set_option maxHeartbeats 8000000
namespace Mine

section
variable {prog : Program} {w : World} {A : Around} {E : Value → Shared → Prop} {K : Frag} {x C d : Addr} {h₀ hh : Heap} {L : Addr} {m : Str → Option Value} {news : List (Addr × Obj)} {items : Array Value} {n k : Nat} {es : List DictEntry} {gs : Array GenState} {dr : Drawn} {tk : Nat} {os : OsState}
theorem kslice {value slice : Expr} {ops : List Value} {sl : Addr} {vl vu : Value} {lo hi : Option Int} {Q : Value → Shared → Prop} (F : Fr h₀ L hh m) (X₀ : K.In h₀) (N : News h₀ L hh news) (h1 : (x, accO C d items n) ∈ news) (h2 : (d, dictOf es k) ∈ news)
    (hq : noSeq K C = true) (hs : findIn K (.ref C) "__getitem__" = some (some (.builtin "list.__getitem__"))) (hl : subIn K (.ref C) (.type "list") = some true)
    (hsa : sl = hh.objs.size) (hsl : subscripted slice false (.ref x) (.ref sl) = operate ops (getItem (.ref x) (.ref sl))) (pl : IsPart vl lo) (pu : IsPart vu hi) (hsz : items.size ≤ sizeLine)
    (h : ∀ l h', Fr h₀ L h' m → News h₀ L h' ((l, listOf (slicePick items lo hi none) 0) :: news) → (∀ p ∈ news, p.1 < l) → Q (.ref l) ⟨h', gs, dr, tk, os⟩) :
    wpAny (model prog w) A (subscriptTail value slice (.ref x) (.ref sl)) Q E ⟨hh.push { cls := .type "slice", data := .fields #[vl, vu, .none] }, gs, dr, tk, os⟩ := by
  subst hsa
  have F1 := F.push { cls := .type "slice", data := .fields #[vl, vu, .none] }
  have N1 := N.pushKeep { cls := .type "slice", data := .fields #[vl, vu, .none] }
  have I := acc_inst N1 h1 h2
  have X := X₀.keeps F1.keep
  refine ltail (s := ⟨_, gs, dr, tk, os⟩) X I hs (lgetSlice (s := ⟨_, gs, dr, tk, os⟩) X I hq hs hl (Heap.IsSliceOf.new ..) pl pu .none (by simp) hsz ?_) hsl
  obtain ⟨F', N', l'⟩ := ks_newsPush (s := ⟨hh.push { cls := .type "slice", data := .fields #[vl, vu, .none] }, gs, dr, tk, os⟩) (o := listOf (slicePick items lo hi none) 0) F1 N1 rfl (Heap.get?_push_at rfl rfl) (fun b o e => Heap.get?_push_of_some _ e)
  exact h _ _ F' N' l'
theorem ksets {sl lv : Addr} {vl vu : Value} {lo hi : Option Int} {new : Array Value} {nn : Nat} {Q : Unit → Shared → Prop} {news'' : Nat → List (Addr × Obj)} (F : Fr h₀ L hh m) (X₀ : K.In h₀) (N : News h₀ L hh news) (h1 : (x, accO C d items n) ∈ news) (h2 : (d, dictOf es k) ∈ news)
    (hq : noSeq K C = true) (hs : findIn K (.ref C) "__setitem__" = some (some (.builtin "list.__setitem__"))) (hl : subIn K (.ref C) (.type "list") = some true)
    (hsa : sl = hh.objs.size) (pl : IsPart vl lo) (pu : IsPart vu hi) (h3 : (lv, listOf new nn) ∈ news) (hxv : @Ne Nat x lv) (hz : items.size + new.size ≤ 1000000)
    (U : ∀ n', Upd x (accO C d items n) (accO C d (setPick items new lo hi) n') news (news'' n'))
    (h : ∀ h' n', Fr h₀ L h' m → News h₀ L h' (news'' n') → Q () ⟨h', gs, dr, tk, os⟩) :
    wpAny (model prog w) A (setItem (.ref x) (.ref sl) (.ref lv)) Q E ⟨hh.push { cls := .type "slice", data := .fields #[vl, vu, .none] }, gs, dr, tk, os⟩ := by
  subst hsa
  have F1 := F.push { cls := .type "slice", data := .fields #[vl, vu, .none] }
  have N1 := N.pushKeep { cls := .type "slice", data := .fields #[vl, vu, .none] }
  exact lsetSlice (s := ⟨_, gs, dr, tk, os⟩) F1 X₀ N1 (acc_inst N1 h1 h2) hq hs hl (Heap.IsSliceOf.new ..) pl pu ⟨_, N1.get h3, rfl, _, rfl⟩ hxv hz U h
theorem putz (w : World) (tk0 tk tk' : Tok) (z z' : Int) (tkz : Tok) : (putL (Str.ofString "_initial_size") (PyData.keyHash w.params (Str.ofString "_initial_size")) (.str (Str.ofString "_initial_size") tk) (.int z' tk') [⟨PyData.keyHash w.params (Str.ofString "_initial_size"), .str (Str.ofString "_initial_size") tk0, .int z tkz⟩],
    putN (Str.ofString "_initial_size") [⟨PyData.keyHash w.params (Str.ofString "_initial_size"), .str (Str.ofString "_initial_size") tk0, .int z tkz⟩] 1) = ([⟨PyData.keyHash w.params (Str.ofString "_initial_size"), .str (Str.ofString "_initial_size") tk0, .int z' tk'⟩], 1) := rfl
theorem kset0 {w : World} {tk0 tkz tk' : Tok} {z z' : Int} {news' : List (Addr × Obj)} {s : Shared} {Q : Unit → Shared → Prop} (F : Fr h₀ L s.heap m) (X₀ : K.In h₀) (N : News h₀ L s.heap news)
    (h1 : (x, accO C d items n) ∈ news) (h2 : (d, szD w tk0 z tkz) ∈ news) (hs : findIn K (.ref C) "__setattr__" = some (some (.builtin "object.__setattr__")))
    (hm : (clsIn K C).any (fun cd => cd.mro == [.ref C, .type "list", .type "object"] && cd.hasDict) = true) (ht : takerIn K C (Str.ofString "_initial_size") = some none)
    (U : Upd d (szD w tk0 z tkz) (szD w tk0 z' tk') news news')
    (h : ∀ h', Fr h₀ L h' m → News h₀ L h' news' → Q () { s with heap := h', toks := s.toks + 2 }) : wpAny (model prog w) A (setAttr (.ref x) (Str.ofString "_initial_size") (.int z' tk')) Q E s :=
  lset F X₀ N (acc_inst N h1 h2) rfl hs hm ht rfl (putz w tk0 _ tk' z z' tkz) U (by simp) h
end
theorem kw_LC6_1 : True := by
  k_with_none
  k_with "m getAttr ref" => (k_here; k_dflt (refine' kget ?k1ρ ?k2ρ ?k3ρ ?k4ρ ?k5ρ ?k6ρ ?k7ρ ?k8ρ ?k9ρ ?k10ρ ?k11ρ ?_; (case k1ρ => k_asm); (case k2ρ => k_asm); (case k3ρ => exact acc_inst (by k_asm) (by k_mem) (by k_mem)); (case k4ρ => k_is); (case k5ρ => k_is); (case k6ρ => k_is); (case k7ρ => k_is); (case k8ρ => k_is); (case k9ρ => k_is); (case k10ρ => k_get); (case k11ρ => exact rfl); k_whole))
  k_with "m getMethod ref" => (k_here; k_dflt (refine' kmeth ?k1ρ ?k2ρ ?k3ρ ?k4ρ ?k5ρ ?k6ρ ?k7ρ ?k8ρ ?k9ρ ?_; (case k1ρ => k_asm); (case k2ρ => k_asm); (case k3ρ => exact acc_inst (by k_asm) (by k_mem) (by k_mem)); (case k4ρ => k_is); (case k5ρ => k_is); (case k6ρ => k_is); (case k7ρ => k_is); (case k8ρ => exact rfl); (case k9ρ => exact rfl); k_whole))
  k_with "m call builtin:list.append" => (k_here; (with_reducible show wpAny _ _ (call (Value.builtin _) [Value.ref _, _]) _ _ _); k_dflt (refine' lappend ?k1ρ ?k2ρ ?k3ρ ?k4ρ ?k5ρ ?k6ρ ?k7ρ ?_; (case k1ρ => k_asm); (case k2ρ => k_asm); (case k3ρ => k_asm); (case k4ρ => exact acc_inst (by k_asm) (by k_mem) (by k_mem)); (case k5ρ => k_is); (case k6ρ => k_upd); (case k7ρ => omega); k_whole); intro h'ρ F'ρ N'ρ; (try k_sweep))
  trivial

theorem kw_LC6_2 : True := by
  k_with "m mine super" => (refine' ks_code_super ?k1ρ ?k2ρ ?k3ρ ?k4ρ ?k5ρ ?kAρ ?kFρ ?kKρ ?k6ρ ?k7ρ ?k8ρ ?k9ρ ?kBρ ?_ ?c1ρ ?c2ρ ?c3ρ ?c4ρ; (case kAρ => exact rfl); (case kFρ => exact rfl); (case kKρ => assumption); (case k1ρ => k_asm); (case k2ρ => k_asm); (case k3ρ => k_asm); (case k4ρ => k_asm); (case k5ρ => k_asm); (case k6ρ => k_is); (case k7ρ => k_is); (case k8ρ => ktr_room); (case k9ρ => first | exact BindsTo.of_eq rfl | exact binds_K (by k_in) rfl (by k_is) rfl rfl rfl); (case kBρ => exact locs rfl); (case c1ρ => decide); (case c2ρ => exact rfl); (case c3ρ => exact rfl); (case c4ρ => exact rfl); intro g'ρ L'ρ h'ρ FG'ρ F'ρ N'ρ B'ρ X'ρ T'ρ l1ρ; (try k_lt l1ρ); (try dsimp only))
  trivial

theorem kw_LC6_3 : True := by
  k_with "m wpAt" => (k_here; k_dflt (refine ks_node (by k_asm) (by k_asm) (by k_asm) (by k_asm) (by k_is) (by rfl) (by rfl) (acc_inst (by k_asm) (by k_mem) (by k_mem)) (by k_is) (by rfl) (by first | rfl | decide +kernel) (by k_is) (by k_is) (by k_is) (by k_is) (by decide) (by rfl) (by rfl) (by rfl) (by rfl) (by decide +kernel) (by first | boot_by_name | rfl | kernel_rfl) ?_; intro so'ρ h'ρ F'ρ N'ρ l1ρ; (try k_lt l1ρ)))
  k_with "m getMethod ref" => (k_here; k_dflt (refine' klsuper ?k1ρ ?k2ρ ?k3ρ ?k4ρ ?k5ρ ?k6ρ ?k7ρ ?k7bρ ?k8ρ ?k9ρ ?k10ρ ?k11ρ ?_; (case k1ρ => k_asm); (case k2ρ => k_asm); (case k3ρ => k_asm); (case k4ρ => k_mem); (case k5ρ => exact acc_inst (by k_asm) (by k_mem) (by k_mem)); (case k6ρ => k_is); (case k7ρ => ks_is); (case k7bρ => k_is); (case k8ρ => decide); (case k9ρ => first | exact WdGet.len | exact WdGet.init); (case k10ρ => first | exact ty_llen | exact ty_linit); (case k11ρ => first | exact tw_llen | exact tw_linit)); intro q'ρ h'ρ F'ρ N'ρ l1ρ; (try k_lt l1ρ))
  k_with "m callWith ref" => (k_here; k_dflt (refine callWith_mw (News.get (by k_asm) (by k_mem)) ?_); (try dsimp only [List.nil_append, List.cons_append]))
  k_with "m call ref" => (k_here; (with_reducible show wpAny _ _ (call (Value.ref _) []) _ _ _); k_dflt (refine call_mw_len (News.get (by k_asm) (by k_mem)) (News.get (by k_asm) (by k_mem)) rfl ?_))
  k_with "m mine enter" => (refine' code_def ?k1ρ ?k2ρ ?k3ρ ?k4ρ ?k5ρ ?kAρ ?kFρ ?kKρ ?k6ρ ?k7ρ ?k8ρ ?k9ρ ?kBρ ?_ ?c2ρ ?c3ρ ?c4ρ ?c5ρ; (case kAρ => exact rfl); (case kFρ => exact rfl); (case kKρ => assumption); (case k1ρ => k_asm); (case k2ρ => k_asm); (case k3ρ => k_asm); (case k4ρ => k_asm); (case k5ρ => k_asm); (case k6ρ => k_is); (case k7ρ => k_is); (case k8ρ => ktr_room); (case k9ρ => first | exact BindsTo.of_eq rfl | exact binds_K (by k_in) rfl (by k_is) rfl rfl rfl); (case c5ρ => decide); (case kBρ => exact locs rfl); (case c2ρ => exact rfl); (case c3ρ => exact rfl); (case c4ρ => exact rfl); k_whole; intro g'ρ L'ρ h'ρ FG'ρ F'ρ N'ρ B'ρ X'ρ T'ρ; (try dsimp only); (try k_fold))
  trivial

theorem kw_LC6_4 : True := by
  k_with "m subscriptTail" => (k_here; (with_reducible show wpAny _ _ (subscriptTail _ _ (Value.ref _) (Value.ref _)) _ _ _); dsimp only; k_dflt (refine' kslice ?k1ρ ?k2ρ ?k3ρ ?k4ρ ?k5ρ ?k6ρ ?k7ρ ?k8ρ ?k9ρ ?k10ρ ?k11ρ ?k12ρ ?k13ρ ?_; (case k1ρ => k_asm); (case k2ρ => k_asm); (case k3ρ => k_asm); (case k4ρ => k_mem); (case k5ρ => k_mem); (case k6ρ => k_is); (case k7ρ => k_is); (case k8ρ => k_is); (case k9ρ => rfl); (case k10ρ => exact rfl); (case k11ρ => first | exact IsPart.none | exact IsPart.int _ _); (case k12ρ => first | exact IsPart.none | exact IsPart.int _ _); (case k13ρ => (rw [sizeLine_eq]; omega)); k_whole); intro l'ρ h'ρ F'ρ N'ρ l1ρ; (try k_lt l1ρ))
  k_with "m setItem ref ref" => (k_here; dsimp only; k_dflt (refine' ksets ?k1ρ ?k2ρ ?k3ρ ?k4ρ ?k5ρ ?k6ρ ?k7ρ ?k8ρ ?k9ρ ?k10ρ ?k11ρ ?k12ρ ?k13ρ ?k14ρ ?k15ρ ?_; (case k1ρ => k_asm); (case k2ρ => k_asm); (case k3ρ => k_asm); (case k4ρ => k_mem); (case k5ρ => k_mem); (case k6ρ => k_is); (case k7ρ => k_is); (case k8ρ => k_is); (case k9ρ => rfl); (case k10ρ => first | exact IsPart.none | exact IsPart.int _ _); (case k11ρ => first | exact IsPart.none | exact IsPart.int _ _); (case k12ρ => k_mem); (case k13ρ => k_ne); (case k14ρ => (first | omega | (simp; omega))); (case k15ρ => intro n'ρ; k_upd); k_whole); intro h'ρ n'ρ F'ρ N'ρ)
  k_with "m setItem ref" => walk_at "setItem ref ref"
  k_with "m setAttr ref" => (k_here; k_dflt (refine' kset0 ?k1ρ ?k2ρ ?k3ρ ?k4ρ ?k5ρ ?k6ρ ?k7ρ ?k8ρ ?k9ρ ?_; (case k1ρ => k_asm); (case k2ρ => k_asm); (case k3ρ => k_asm); (case k4ρ => k_mem); (case k5ρ => k_mem); (case k6ρ => k_is); (case k7ρ => kernel_rfl); (case k8ρ => k_is); (case k9ρ => k_upd); k_whole); intro h'ρ F'ρ N'ρ; (try k_sweep))
  trivial
section
variable {w : World} {p : Program} {loose : List Str} {mean : ExcName → Option Value} {mg mb : Str → Option Value} {acc d : Addr} {items : Array Value} {n : Nat} {tk0 tkz : Tok} {z : Int} {ps : List (Str × Str)} {t1 t2 : Array Value} {rest : List (Addr × Obj)}


theorem setPick_cut (items : Array Value) (k : Nat) : setPick items #[] (some (k : Int)) none = (items.toList.take k).toArray := by
  unfold setPick
  rw [sliceBounds_plain]
  simp only [Option.elim, clipAt_nat]
  have e1 : ((min k items.size : Nat) : Int).toNat = min k items.size := by omega
  have e2 : (max ((min k items.size : Nat) : Int) (items.size : Int)).toNat = items.size := by omega
  rw [e1, e2]
  apply Array.ext'
  simp
theorem setPick_all (items new : Array Value) : setPick items new none none = new := by
  unfold setPick
  rw [sliceBounds_plain]
  simp only [Option.elim]
  have e2 : (max ((0 : Nat) : Int) (items.size : Int)).toNat = items.size := by omega
  rw [e2]
  apply Array.ext'
  simp
theorem Parts.take {led : List (Addr × Obj)} {items : Array Value} {ps : List (Str × Str)} (h : Parts led items ps) (k : Nat) : Parts led (items.toList.take k).toArray (ps.take k) := by
  refine ⟨by simp [h.1], fun j f g e => ?_⟩
  rw [List.getElem?_take] at e
  split at e
  · rename_i hj
    obtain ⟨t, tf, tg, e1, e2⟩ := h.2 j f g e
    refine ⟨t, tf, tg, ?_, e2⟩
    rw [List.getElem?_toArray, List.getElem?_take, if_pos hj, Array.getElem?_toList]
    exact e1
  · cases e
theorem Parts.drop {led : List (Addr × Obj)} {items : Array Value} {ps : List (Str × Str)} (h : Parts led items ps) (k : Nat) : Parts led (items.toList.drop k).toArray (ps.drop k) := by
  refine ⟨by simp [h.1], fun j f g e => ?_⟩
  rw [List.getElem?_drop] at e
  obtain ⟨t, tf, tg, e1, e2⟩ := h.2 _ f g e
  refine ⟨t, tf, tg, ?_, e2⟩
  rw [List.getElem?_toArray, List.getElem?_drop, Array.getElem?_toList]
  exact e1
theorem Small.take {ps : List (Str × Str)} (h : Small ps) (k : Nat) : Small (ps.take k) := ⟨by have := h.1; simp; omega, fun q hq => h.2 q (List.mem_of_mem_take hq)⟩
theorem Small.drop {ps : List (Str × Str)} (h : Small ps) (k : Nat) : Small (ps.drop k) := ⟨by have := h.1; simp; omega, fun q hq => h.2 q (List.mem_of_mem_drop hq)⟩

theorem pop_acc {k : Nat} {tk : Tok} (S : AccSt acc d items z t1 t2 ps rest) :
    Tl w (Mine.hd.heap_1 w.params) p loose mean mg mb 20 100 (call (.ref 53) [.ref acc, .int k tk]) (grp w acc d items n tk0 z tkz t1 t2 ++ rest)
      (fun r led => ∃ l n', r = .ref l ∧ (∀ q ∈ grp w acc d items n tk0 z tkz t1 t2 ++ rest, q.1 < l) ∧ led = grp w acc d (items.toList.take k).toArray n' tk0 z tkz t1 t2 ++ (l, listOf (items.toList.drop k).toArray 0) :: rest ∧
        AccSt acc d (items.toList.take k).toArray z t1 t2 (ps.take k) ((l, listOf (items.toList.drop k).toArray 0) :: rest)) := by
  have ho := S.own
  have hne := S.ne
  have hz : items.size ≤ 1000 := by have := S.hp.1; have := S.hs.1; omega
  have fin : ∀ t : Nat, @LT.lt Nat _ acc t → @LT.lt Nat _ d t → @LT.lt Nat _ 62 t → @LT.lt Nat _ 69 t → AllLt t rest → ∀ o,
      AccSt acc d (items.toList.take k).toArray z t1 t2 (ps.take k) ((t, o) :: rest) := by
    intro t ha hd' h1 h2 hr o
    have hr' := allLt_get hr
    refine { S with hp := (S.hp.take k).mono fun q hq => .tail _ hq, hs := S.hs.take k, o1 := ?_, o2 := ?_, o3 := ?_, o4 := ?_ }
    · exact fun q hq => (List.mem_cons.mp hq).elim (fun e => e ▸ Nat.ne_of_gt ha) (S.o1 q)
    · exact fun q hq => (List.mem_cons.mp hq).elim (fun e => e ▸ Nat.ne_of_gt hd') (S.o2 q)
    · exact fun q hq => (List.mem_cons.mp hq).elim (fun e => e ▸ Nat.ne_of_gt h1) (S.o3 q)
    · exact fun q hq => (List.mem_cons.mp hq).elim (fun e => e ▸ Nat.ne_of_gt h2) (S.o4 q)
  have fin2 : ∀ t : Nat, @LT.lt Nat _ acc t → @LT.lt Nat _ d t → @LT.lt Nat _ 62 t → @LT.lt Nat _ 69 t → AllLt t rest → ∀ q ∈ grp w acc d items n tk0 z tkz t1 t2 ++ rest, q.1 < t := by
    intro t ha hd' h1 h2 hr q hq
    have hr' := allLt_get hr
    simp only [grp, List.cons_append, List.nil_append, List.mem_cons] at hq
    rcases hq with h | h | h | h | h
    · rw [h]; exact ha
    · rw [h]; exact hd'
    · rw [h]; exact h1
    · rw [h]; exact h2
    · exact hr' q h
  unfold Tl
  k_fill
  intro dp un gd cn cs a ccd cl outer A₀ base h₀ L m s Q E B F X N T hk hdp hu hret
  simp only [grp, List.cons_append, List.nil_append] at N
  refine wpAny_call ?_
  clear S
  have hret' : ∀ (t t' : Nat) h' n' o tk', @LT.lt Nat _ acc t → @LT.lt Nat _ d t → @LT.lt Nat _ 62 t → @LT.lt Nat _ 69 t → AllLt t rest → Fr h₀ L h' m → News h₀ L h' ((t', o) :: (t, listOf (slicePick items (some (k : Int)) none none) 0) :: (acc, accO 100 d (setPick items #[] (some (k : Int)) none) n') :: (d, szD w tk0 z tkz) :: (62, tabObj t1) :: (69, tabObj t2) :: rest) → Q (.ref t) ⟨h', s.gens, s.drawn, tk', s.os⟩ := by
    intro t t' h' n' o tk' ha hd' h1 h2 hr F' N'
    rw [slicePick_from', setPick_cut] at N'
    refine hret _ (grp w acc d (items.toList.take k).toArray n' tk0 z tkz t1 t2 ++ (t, listOf (items.toList.drop k).toArray 0) :: rest) _ _ _ F' (fun q hq => N' q ?_) ⟨t, n', rfl, fin2 t ha hd' h1 h2 hr, rfl, fin t ha hd' h1 h2 hr _⟩ id
    simp only [grp, List.cons_append, List.nil_append, List.mem_cons] at hq ⊢
    rcases hq with h | h | h | h | h | h <;> simp [h]
  clear hret fin fin2
  k_dflt (walk_at "mine enter")
  k_steps
  rename (@LT.lt Nat _ acc _ ∧ _ ∧ _ ∧ _ ∧ AllLt _ _) => l1
  exact hret' _ _ _ _ _ _ l1.1 l1.2.1 l1.2.2.1 l1.2.2.2.1 l1.2.2.2.2 (by k_asm) (by k_asm)

theorem reset_acc {lv : Addr} {new : Array Value} {nn : Nat} {psn : List (Str × Str)} (S : AccSt acc d items z t1 t2 ps rest) (hln : @Ne Nat acc lv ∧ @Ne Nat d lv ∧ @Ne Nat 62 lv ∧ @Ne Nat 69 lv) (hpn : Parts rest new psn) (hsn : Small psn) :
    Tl w (Mine.hd.heap_1 w.params) p loose mean mg mb 20 100 (call (.ref 82) [.ref acc, .ref lv]) (grp w acc d items n tk0 z tkz t1 t2 ++ (lv, listOf new nn) :: rest)
      (fun r led => r = .none ∧ ∃ n' tkz', led = grp w acc d new n' tk0 0 tkz' t1 t2 ++ rest ∧ AccSt acc d new 0 t1 t2 psn rest) := by
  have ho := S.own
  have hne := S.ne
  have hz : items.size ≤ 1000 := by have := S.hp.1; have := S.hs.1; omega
  have hnz : new.size ≤ 1000 := by have := hpn.1; have := hsn.1; omega
  have fin : AccSt acc d new 0 t1 t2 psn rest := { S with hp := hpn, hs := hsn, hz := by omega }
  unfold Tl
  k_fill
  intro dp un gd cn cs a ccd cl outer A₀ base h₀ L m s Q E B F X N T hk hdp hu hret
  simp only [grp, List.cons_append, List.nil_append] at N
  refine wpAny_call ?_
  clear S
  have hret' : ∀ h' n' tkz' tk', Fr h₀ L h' m → News h₀ L h' ((acc, accO 100 d (setPick items new none none) n') :: (d, szD w tk0 0 tkz') :: (62, tabObj t1) :: (69, tabObj t2) :: (lv, listOf new nn) :: rest) → Q .none ⟨h', s.gens, s.drawn, tk', s.os⟩ := by
    intro h' n' tkz' tk' F' N'
    rw [setPick_all] at N'
    refine hret _ (grp w acc d new n' tk0 0 tkz' t1 t2 ++ rest) _ _ _ F' (fun q hq => N' q ?_) ⟨rfl, n', tkz', rfl, fin⟩ id
    simp only [grp, List.cons_append, List.nil_append, List.mem_cons] at hq ⊢
    rcases hq with h | h | h | h | h <;> simp [h]
  clear hret fin
  k_dflt (walk_at "mine enter")
  k_steps
  exact hret' _ _ _ _ (by k_asm) (by k_asm)
end
end Mine
end
section
open PySem PySem.W PyProof.Rows PySem.Calls
set_option maxRecDepth 100000
set_option maxHeartbeats 8000000
namespace Mine
theorem kw_LC7_0 : True := by
  k_with_none
  trivial
section
variable {prog : Program} {w : World} {A : Around} {E : Value → Shared → Prop} {s : Shared} {K : Frag} {x C L f : Addr} {h₀ : Heap} {m : Str → Option Value} {ox : Obj} {od : Option Obj}
theorem len_body {Q : Value → Shared → Prop} (F : Fr h₀ L s.heap m) (X₀ : K.In h₀) (I : InstAt s.heap x ox C od) (hs : findIn K (.ref C) "__len__" = some (some (.ref f))) (hf : isFn K (.ref f) = true)
    (h : wpAny (model prog w) A (call (.ref f) [.ref x]) (W.LenBack Q) E s) : wpAny (model prog w) A (Builtin.«len» ⟨[.ref x], []⟩) (fun fin s' => ∃ v, fin = .done (.ret v) ∧ Q v s') E s := by
  unfold Builtin.«len»
  refine wpAny_bind (m := oneArg "len" _) (wpAny_pure ?_)
  refine wpAny_bind (m := callSpecial? (.ref x) (Str.ofString "__len__")) (special_fn (X₀.keeps F.keep) I hs (beq_iff_eq.mp hf) (wpAny_mono h (fun r s' hr => ?_) fun _ _ y => y))
  cases r <;> first | exact hr.elim | skip
  rename_i n u
  obtain ⟨⟨h0, h1⟩, hq⟩ := hr
  refine wpAny_bind (wpAny_holding (wpAny_pure ?_))
  refine wpAny_bind (wpAny_letGo ?_)
  show wpAny _ _ (if n < 0 then _ else _) _ _ _
  rw [if_neg (by omega)]
  show wpAny _ _ (if n ≥ 2 ^ 63 then _ else _) _ _ _
  rw [if_neg (by omega)]
  exact wpAny_bind (wpAny_mkInt (wpAny_pure ⟨_, rfl, hq⟩))
def TrueBack (Q : Bool → Shared → Prop) (v : Value) (s' : Shared) : Prop := match v with
  | .int n _ => (0 ≤ n ∧ n < 2 ^ 63) ∧ Q (n != 0) { s' with toks := s'.toks + 1 }
  | _ => False
theorem truthy_len {Q : Bool → Shared → Prop} (F : Fr h₀ L s.heap m) (X₀ : K.In h₀) (I : InstAt s.heap x ox C od) (hb : findIn K (.ref C) "__bool__" = some none) (hs : findIn K (.ref C) "__len__" = some (some (.ref f))) (hf : isFn K (.ref f) = true)
    (h : wpAny (model prog w) A.in1 (call (.ref f) [.ref x]) (TrueBack Q) E s) : wpAny (model prog w) A (truthy (.ref x)) Q E s := by
  have X := X₀.keeps F.keep
  have key : wpAny (model prog w) A (runValue (.builtin "len" ⟨[.ref x], []⟩)) (fun r s' => ∃ n u, r = .int n u ∧ Q (n != 0) s') E s := by
    refine wpAny_runValue (codeAny_builtin entry_len ?_)
    rw [Around.under_plainId plain_len _]
    refine wpAny_mono (len_body F X₀ I hs hf (Q := fun r s' => ∃ n u, r = .int n u ∧ Q (n != 0) s') (wpAny_mono h (fun r s' hr => ?_) fun _ _ y => y)) (fun fin s' h' => by obtain ⟨r, rfl, hq⟩ := h'; exact hq) fun _ _ e => e
    cases r <;> first | exact hr.elim | exact ⟨hr.1, _, _, rfl, hr.2⟩
  unfold truthy
  refine wpAny_bind (m := callSpecial? (.ref x) (Str.ofString "__bool__")) (wpAny_bind (wpAny_bind (I.type.here ((looks_findIn X hb).here (wpAny_pure ?_)))))
  refine wpAny_bind (wpAny_bind (I.type.here ((looks_findIn X hs).here ?_)))
  rw [if_neg (by simp)]
  exact wpAny_bind (wpAny_mono key (fun r s' h' => by obtain ⟨n, u, rfl, hq⟩ := h'; exact wpAny_pure hq) fun _ _ e => e)
theorem kstr {Q : Value → Shared → Prop} (hu : A.in1.in1.units < cLine) (F : Fr h₀ L s.heap m) (X₀ : K.In h₀) (I : InstAt s.heap x ox C od) (hs : findIn K (.ref C) "__str__" = some (some (.ref f))) (hf : isFn K (.ref f) = true)
    (h : wpAny (model prog w) A.in1.in1 (call (.ref f) [.ref x]) (W.StrBack Q) E s) : wpAny (model prog w) A (call (.type "str") [.ref x]) Q E s := kso_call hu (X₀.keeps F.keep) I hs hf h
end
/-- an entry taken out of a ledger -/
inductive Rm (x : Addr × Obj) : List (Addr × Obj) → List (Addr × Obj) → Prop
  | head {l} : Rm x (x :: l) l
  | tail {y l l'} : Rm x l l' → Rm x (y :: l) (y :: l')
theorem Rm.sub {x : Addr × Obj} {l l' : List (Addr × Obj)} (h : Rm x l l') : ∀ q ∈ x :: l', q ∈ l := by
  induction h with
  | head => exact fun q hq => hq
  | tail h ih =>
    intro q hq
    rcases List.mem_cons.mp hq with e | hq
    · exact .tail _ (ih q (e ▸ .head _))
    · rcases List.mem_cons.mp hq with e | hq
      · exact e ▸ .head _
      · exact .tail _ (ih q (.tail _ hq))
theorem sub_cons {x : Addr × Obj} {l c : List (Addr × Obj)} (h : x ∈ c) (t : ∀ q ∈ l, q ∈ c) : ∀ q ∈ x :: l, q ∈ c := fun q hq => (List.mem_cons.mp hq).elim (fun e => e ▸ h) (t q)
theorem sub_drop {y : Addr × Obj} {l c : List (Addr × Obj)} (t : ∀ q ∈ l, q ∈ c) : ∀ q ∈ l, q ∈ y :: c := fun q hq => .tail _ (t q hq)
section
variable {w : World} {p : Program} {loose : List Str} {mean : ExcName → Option Value} {mg mb : Str → Option Value} {acc d : Addr} {items : Array Value} {n : Nat} {tk0 tkz : Tok} {z : Int} {ps : List (Str × Str)} {t1 t2 : Array Value} {rest : List (Addr × Obj)}
theorem AccSt.cons {a : Addr} {o : Obj} (S : AccSt acc d items z t1 t2 ps rest) (h1 : @Ne Nat a acc) (h2 : @Ne Nat a d) (h3 : @Ne Nat a 62) (h4 : @Ne Nat a 69) : AccSt acc d items z t1 t2 ps ((a, o) :: rest) :=
  { S with
    hp := S.hp.mono fun q hq => .tail _ hq
    o1 := fun q hq => (List.mem_cons.mp hq).elim (fun e => e ▸ h1) (S.o1 q)
    o2 := fun q hq => (List.mem_cons.mp hq).elim (fun e => e ▸ h2) (S.o2 q)
    o3 := fun q hq => (List.mem_cons.mp hq).elim (fun e => e ▸ h3) (S.o3 q)
    o4 := fun q hq => (List.mem_cons.mp hq).elim (fun e => e ▸ h4) (S.o4 q) }
theorem tl_go {K : Frag} {nd nu : Nat} {c : Sem Value} {Post : Value → List (Addr × Obj) → Prop} {cur c1 c2 c3 : List (Addr × Obj)} {dp un : Nat} {gd : Option (List Code)} {cn : Str} {cs : Scope} {a : Addr} {ccd : Value} {cl : List (Str × Addr)} {outer : List Env} {A₀ : Around} {base h₀ : Heap} {L : Addr} {m : Str → Option Value} {s : Shared} {Q E : Value → Shared → Prop}
    (B : Below A₀ base outer h₀) (F : Fr h₀ L s.heap m) (X : K.In h₀) (N : News h₀ L s.heap cur) (T : Top p loose mean mg mb h₀) (r1 : Rm (acc, accO 100 d items n) cur c1) (r2 : Rm (d, szD w tk0 z tkz) c1 c2) (r3 : Rm (62, tabObj t1) c2 c3) (r4 : Rm (69, tabObj t2) c3 rest)
    (x : Tl w K p loose mean mg mb nd nu c (grp w acc d items n tk0 z tkz t1 t2 ++ rest) Post) (hk : cs.kind = .function) (hd : dp + nd < recursionLimit) (hu : un + nu < cLine)
    (ret : ∀ r led' h' gs' tk', Fr h₀ L h' m → News h₀ L h' led' → Post r led' → (AllBare s.gens → AllBare gs') → Q r ⟨h', gs', s.drawn, tk', s.os⟩) :
    wpAny (model PySem.Challenge.rw_ij0160_01.row.prog w) (ktrTop dp un gd cn cs L a ccd cl outer) c Q E s :=
  x _ _ _ _ _ _ _ _ _ _ _ _ _ _ _ _ _ B F X (fun q hq => N q (r1.sub q ((List.mem_cons.mp hq).elim (fun e => e ▸ .head _) fun hq => .tail _ (r2.sub q ((List.mem_cons.mp hq).elim (fun e => e ▸ .head _) fun hq => .tail _ (r3.sub q ((List.mem_cons.mp hq).elim (fun e => e ▸ .head _) fun hq => .tail _ (r4.sub q hq)))))))) T hk hd hu ret
end
end Mine
end
section
open PySem PySem.W PyProof.Rows PySem.Calls
set_option maxRecDepth 100000
set_option maxHeartbeats 8000000
namespace Mine
theorem kw_LC8_1 : True := by
  k_with_none
  k_with "m getAttr ref" => (k_here; k_dflt (refine' kget ?k1ρ ?k2ρ ?k3ρ ?k4ρ ?k5ρ ?k6ρ ?k7ρ ?k8ρ ?k9ρ ?k10ρ ?k11ρ ?_; (case k1ρ => k_asm); (case k2ρ => k_asm); (case k3ρ => exact acc_inst (by k_asm) (by k_mem) (by k_mem)); (case k4ρ => k_is); (case k5ρ => k_is); (case k6ρ => k_is); (case k7ρ => k_is); (case k8ρ => k_is); (case k9ρ => k_is); (case k10ρ => k_get); (case k11ρ => exact rfl); k_whole))
  k_with "m getMethod ref" => (k_here; k_dflt (refine' kmeth ?k1ρ ?k2ρ ?k3ρ ?k4ρ ?k5ρ ?k6ρ ?k7ρ ?k8ρ ?k9ρ ?_; (case k1ρ => k_asm); (case k2ρ => k_asm); (case k3ρ => exact acc_inst (by k_asm) (by k_mem) (by k_mem)); (case k4ρ => k_is); (case k5ρ => k_is); (case k6ρ => k_is); (case k7ρ => k_is); (case k8ρ => exact rfl); (case k9ρ => exact rfl); k_whole))
  k_with "m call builtin:list.append" => (k_here; (with_reducible show wpAny _ _ (call (Value.builtin _) [Value.ref _, _]) _ _ _); k_dflt (refine' lappend ?k1ρ ?k2ρ ?k3ρ ?k4ρ ?k5ρ ?k6ρ ?k7ρ ?_; (case k1ρ => k_asm); (case k2ρ => k_asm); (case k3ρ => k_asm); (case k4ρ => exact acc_inst (by k_asm) (by k_mem) (by k_mem)); (case k5ρ => k_is); (case k6ρ => k_upd); (case k7ρ => omega); k_whole); intro h'ρ F'ρ N'ρ; (try k_sweep))
  k_with "m mine super" => (refine' ks_code_super ?k1ρ ?k2ρ ?k3ρ ?k4ρ ?k5ρ ?kAρ ?kFρ ?kKρ ?k6ρ ?k7ρ ?k8ρ ?k9ρ ?kBρ ?_ ?c1ρ ?c2ρ ?c3ρ ?c4ρ; (case kAρ => exact rfl); (case kFρ => exact rfl); (case kKρ => assumption); (case k1ρ => k_asm); (case k2ρ => k_asm); (case k3ρ => k_asm); (case k4ρ => k_asm); (case k5ρ => k_asm); (case k6ρ => k_is); (case k7ρ => k_is); (case k8ρ => ktr_room); (case k9ρ => first | exact BindsTo.of_eq rfl | exact binds_K (by k_in) rfl (by k_is) rfl rfl rfl); (case kBρ => exact locs rfl); (case c1ρ => decide); (case c2ρ => exact rfl); (case c3ρ => exact rfl); (case c4ρ => exact rfl); intro g'ρ L'ρ h'ρ FG'ρ F'ρ N'ρ B'ρ X'ρ T'ρ l1ρ; (try k_lt l1ρ); (try dsimp only))
  k_with "m wpAt" => (k_here; k_dflt (refine ks_node (by k_asm) (by k_asm) (by k_asm) (by k_asm) (by k_is) (by rfl) (by rfl) (acc_inst (by k_asm) (by k_mem) (by k_mem)) (by k_is) (by rfl) (by first | rfl | decide +kernel) (by k_is) (by k_is) (by k_is) (by k_is) (by decide) (by rfl) (by rfl) (by rfl) (by rfl) (by decide +kernel) (by first | boot_by_name | rfl | kernel_rfl) ?_; intro so'ρ h'ρ F'ρ N'ρ l1ρ; (try k_lt l1ρ)))
  k_with "m getMethod ref" => (k_here; k_dflt (refine' klsuper ?k1ρ ?k2ρ ?k3ρ ?k4ρ ?k5ρ ?k6ρ ?k7ρ ?k7bρ ?k8ρ ?k9ρ ?k10ρ ?k11ρ ?_; (case k1ρ => k_asm); (case k2ρ => k_asm); (case k3ρ => k_asm); (case k4ρ => k_mem); (case k5ρ => exact acc_inst (by k_asm) (by k_mem) (by k_mem)); (case k6ρ => k_is); (case k7ρ => ks_is); (case k7bρ => k_is); (case k8ρ => decide); (case k9ρ => first | exact WdGet.len | exact WdGet.init); (case k10ρ => first | exact ty_llen | exact ty_linit); (case k11ρ => first | exact tw_llen | exact tw_linit)); intro q'ρ h'ρ F'ρ N'ρ l1ρ; (try k_lt l1ρ))
  k_with "m callWith ref" => (k_here; k_dflt (refine callWith_mw (News.get (by k_asm) (by k_mem)) ?_); (try dsimp only [List.nil_append, List.cons_append]))
  k_with "m call ref" => (k_here; (with_reducible show wpAny _ _ (call (Value.ref _) []) _ _ _); k_dflt (refine call_mw_len (News.get (by k_asm) (by k_mem)) (News.get (by k_asm) (by k_mem)) rfl ?_))
  k_with "m mine enter" => (refine' code_def ?k1ρ ?k2ρ ?k3ρ ?k4ρ ?k5ρ ?kAρ ?kFρ ?kKρ ?k6ρ ?k7ρ ?k8ρ ?k9ρ ?kBρ ?_ ?c2ρ ?c3ρ ?c4ρ ?c5ρ; (case kAρ => exact rfl); (case kFρ => exact rfl); (case kKρ => assumption); (case k1ρ => k_asm); (case k2ρ => k_asm); (case k3ρ => k_asm); (case k4ρ => k_asm); (case k5ρ => k_asm); (case k6ρ => k_is); (case k7ρ => k_is); (case k8ρ => ktr_room); (case k9ρ => first | exact BindsTo.of_eq rfl | exact binds_K (by k_in) rfl (by k_is) rfl rfl rfl); (case c5ρ => decide); (case kBρ => exact locs rfl); (case c2ρ => exact rfl); (case c3ρ => exact rfl); (case c4ρ => exact rfl); k_whole; intro g'ρ L'ρ h'ρ FG'ρ F'ρ N'ρ B'ρ X'ρ T'ρ; (try dsimp only); (try k_fold))
  k_with "m subscriptTail" => (k_here; (with_reducible show wpAny _ _ (subscriptTail _ _ (Value.ref _) (Value.ref _)) _ _ _); dsimp only; k_dflt (refine' kslice ?k1ρ ?k2ρ ?k3ρ ?k4ρ ?k5ρ ?k6ρ ?k7ρ ?k8ρ ?k9ρ ?k10ρ ?k11ρ ?k12ρ ?k13ρ ?_; (case k1ρ => k_asm); (case k2ρ => k_asm); (case k3ρ => k_asm); (case k4ρ => k_mem); (case k5ρ => k_mem); (case k6ρ => k_is); (case k7ρ => k_is); (case k8ρ => k_is); (case k9ρ => rfl); (case k10ρ => exact rfl); (case k11ρ => first | exact IsPart.none | exact IsPart.int _ _); (case k12ρ => first | exact IsPart.none | exact IsPart.int _ _); (case k13ρ => (rw [sizeLine_eq]; omega)); k_whole); intro l'ρ h'ρ F'ρ N'ρ l1ρ; (try k_lt l1ρ))
  k_with "m setItem ref ref" => (k_here; dsimp only; k_dflt (refine' ksets ?k1ρ ?k2ρ ?k3ρ ?k4ρ ?k5ρ ?k6ρ ?k7ρ ?k8ρ ?k9ρ ?k10ρ ?k11ρ ?k12ρ ?k13ρ ?k14ρ ?k15ρ ?_; (case k1ρ => k_asm); (case k2ρ => k_asm); (case k3ρ => k_asm); (case k4ρ => k_mem); (case k5ρ => k_mem); (case k6ρ => k_is); (case k7ρ => k_is); (case k8ρ => k_is); (case k9ρ => rfl); (case k10ρ => first | exact IsPart.none | exact IsPart.int _ _); (case k11ρ => first | exact IsPart.none | exact IsPart.int _ _); (case k12ρ => k_mem); (case k13ρ => k_ne); (case k14ρ => (first | omega | (simp; omega))); (case k15ρ => intro n'ρ; k_upd); k_whole); intro h'ρ n'ρ F'ρ N'ρ)
  k_with "m setItem ref" => walk_at "setItem ref ref"
  k_with "m setAttr ref" => (k_here; k_dflt (refine' kset0 ?k1ρ ?k2ρ ?k3ρ ?k4ρ ?k5ρ ?k6ρ ?k7ρ ?k8ρ ?k9ρ ?_; (case k1ρ => k_asm); (case k2ρ => k_asm); (case k3ρ => k_asm); (case k4ρ => k_mem); (case k5ρ => k_mem); (case k6ρ => k_is); (case k7ρ => kernel_rfl); (case k8ρ => k_is); (case k9ρ => k_upd); k_whole); intro h'ρ F'ρ N'ρ; (try k_sweep))
  k_with "m truthy ref" => (k_here; k_dflt (refine' truthy_len ?k1ρ ?k2ρ ?k3ρ ?k4ρ ?k5ρ ?k6ρ ?_; (case k1ρ => k_asm); (case k2ρ => k_asm); (case k3ρ => exact acc_inst (by k_asm) (by k_mem) (by k_mem)); (case k4ρ => k_is); (case k5ρ => k_is); (case k6ρ => k_is); k_whole))
  k_with "m call type:str" => (k_here; (with_reducible show wpAny _ _ (call (Value.type "str") [Value.ref _]) _ _ _); k_dflt (refine' kstr ?k1ρ ?k2ρ ?k2bρ ?k3ρ ?k4ρ ?k5ρ ?_; (case k1ρ => ktr_units); (case k2ρ => k_asm); (case k2bρ => k_asm); (case k3ρ => exact acc_inst (by k_asm) (by k_mem) (by k_mem)); (case k4ρ => k_is); (case k5ρ => k_is); k_whole))
  k_with "m rm" => first | with_reducible exact Rm.head | (refine Rm.tail ?_; walk_at "rm")
  k_with "m acc st" => first | assumption | (refine AccSt.cons ?_ (by k_ne) (by k_ne) (by k_ne) (by k_ne); walk_at "acc st")
  k_with "m acc len" => (refine' tl_go ?k1ρ ?k2ρ ?k3ρ ?k4ρ ?k5ρ ?r1ρ ?r2ρ ?r3ρ ?r4ρ (len_acc ?kSρ) ?kkρ ?kdρ ?kuρ ?_; (case k1ρ => k_asm); (case k2ρ => k_asm); (case k3ρ => k_asm); (case k4ρ => k_asm); (case k5ρ => k_asm); (case r1ρ => walk_at "rm"); (case r2ρ => walk_at "rm"); (case r3ρ => walk_at "rm"); (case r4ρ => walk_at "rm"); (case kSρ => walk_at "acc st"); (case kkρ => first | exact rfl | assumption); (case kdρ => ktr_room); (case kuρ => ktr_units); intro r9ρ led9ρ h9ρ gs9ρ tk9ρ F9ρ N9ρ P9ρ G9ρ; obtain ⟨t9ρ, u9ρ, e9ρ, e9'ρ, S9ρ⟩ := P9ρ; subst e9ρ; subst e9'ρ; simp only [grp, List.cons_append, List.nil_append] at N9ρ)
  k_with "m acc str" => (refine' tl_go ?k1ρ ?k2ρ ?k3ρ ?k4ρ ?k5ρ ?r1ρ ?r2ρ ?r3ρ ?r4ρ (str_acc ?kSρ) ?kkρ ?kdρ ?kuρ ?_; (case k1ρ => k_asm); (case k2ρ => k_asm); (case k3ρ => k_asm); (case k4ρ => k_asm); (case k5ρ => k_asm); (case r1ρ => walk_at "rm"); (case r2ρ => walk_at "rm"); (case r3ρ => walk_at "rm"); (case r4ρ => walk_at "rm"); (case kSρ => walk_at "acc st"); (case kkρ => first | exact rfl | assumption); (case kdρ => ktr_room); (case kuρ => ktr_units); intro r9ρ led9ρ h9ρ gs9ρ tk9ρ F9ρ N9ρ P9ρ G9ρ; obtain ⟨t9ρ, u9ρ, e9ρ, e9'ρ, S9ρ⟩ := P9ρ; subst e9ρ; subst e9'ρ; simp only [grp, List.cons_append, List.nil_append] at N9ρ)
  trivial
section
variable {w : World} {p : Program} {loose : List Str} {mean : ExcName → Option Value} {mg mb : Str → Option Value} {acc d : Addr} {items : Array Value} {n : Nat} {tk0 tkz : Tok} {z : Int} {ps : List (Str × Str)} {t1 t2 : Array Value} {rest : List (Addr × Obj)}
theorem ws_acc (S : AccSt acc d items z t1 t2 ps rest) :
    Tl w (Mine.hd.heap_1 w.params) p loose mean mg mb 60 400 (call (.ref 89) [.ref acc]) (grp w acc d items n tk0 z tkz t1 t2 ++ rest)
      (fun r led => ∃ t1' t2', r = .bool (z == 0 && (lenP ps == 0 || Txt.isspace (textP ps))) ∧ led = grp w acc d items n tk0 z tkz t1' t2' ++ rest ∧ AccSt acc d items z t1' t2' ps rest) := by
  have hne := S.ne
  have hlb := lenP_bound ps S.hs.2
  have hsz := S.hz
  have hps := S.hs.1
  unfold Tl
  k_fill
  intro dp un gd cn cs a ccd cl outer A₀ base h₀ L m s Q E B F X N T hk hdp hu hret
  simp only [grp, List.cons_append, List.nil_append] at N
  have hret' : ∀ b t1' t2' h' gs' tk', AccSt acc d items z t1' t2' ps rest → Fr h₀ L h' m → News h₀ L h' ((acc, accO 100 d items n) :: (d, szD w tk0 z tkz) :: (62, tabObj t1') :: (69, tabObj t2') :: rest) → (AllBare s.gens → AllBare gs') →
      b = (z == 0 && (lenP ps == 0 || Txt.isspace (textP ps))) → Q (.bool b) ⟨h', gs', s.drawn, tk', s.os⟩ := by
    intro b t1' t2' h' gs' tk' S' F' N' G' e
    exact hret _ _ h' gs' tk' F' N' ⟨t1', t2', by rw [e], rfl, S'⟩ G'
  clear hret
  refine wpAny_call ?_
  have ho := S.own
  k_dflt (walk_at "mine enter")
  k_steps
  · rename_i hz0
    k_dflt (walk_at "acc len")
    rename (AllBare s.gens → AllBare _) => G1
    rename AccSt _ _ _ _ _ _ _ _ => S1
    refine ⟨⟨by omega, by omega⟩, ?_⟩
    k_steps
    · k_dflt (walk_at "acc str")
      rename (AllBare _ → AllBare _) => G2
      rename AccSt _ _ _ _ _ _ _ _ => S2
      dsimp only [W.StrBack]
      k_steps
      refine hret' _ _ _ _ _ _ S2 (by k_asm) (by k_asm) (fun g => G2 (G1 g)) ?_
      have h0 : z = 0 := by assumption
      have h1 : z + lenP ps ≠ 0 := by assumption
      have h2 : lenP ps ≠ 0 := by omega
      simp [h0, h2]
    · refine hret' _ _ _ _ _ _ S1 (by k_asm) (by k_asm) G1 ?_
      have h0 : z = 0 := by assumption
      have h1 : z + lenP ps = 0 := by assumption
      have h2 : lenP ps = 0 := by omega
      simp [h0, h2]
  · refine hret' _ _ _ _ _ _ S (by k_asm) (by k_asm) id ?_
    have h0 : z ≠ 0 := by assumption
    simp [h0]
end

end Mine
end
section
open PySem PySem.W PyProof.Rows PySem.Calls PySem.Builtin PySem.Builtin.List PySem.Builtin.ObjectAttr
set_option maxRecDepth 100000
set_option maxHeartbeats 8000000
namespace Mine
theorem kw_LC9_0 : True := by
  k_with_none
  trivial
section
variable {prog : Program} {w : World} {A : Around} {E : Value → Shared → Prop} {s : Shared} {K : Frag} {x C : Addr} {ox : Obj} {od : Option Obj} {name : Str}
variable {h₀ : Heap} {L d : Addr} {m : Str → Option Value} {news news' : List (Addr × Obj)} {items : Array Value} {n : Nat}
theorem lset_new {v : Value} {Q : Unit → Shared → Prop} {es es' : List DictEntry} {k k' : Nat} {dx : Addr} (F : Fr h₀ L s.heap m) (X₀ : K.In h₀) (N : News h₀ L s.heap news)
    (I : InstAt s.heap x ox C (some (dictOf es k))) (hd : ox.dict = some dx) (hs : findIn K (.ref C) "__setattr__" = some (some (.builtin "object.__setattr__")))
    (hm : (clsIn K C).any (fun cd => cd.mro == [.ref C, .type "list", .type "object"] && cd.hasDict) = true) (ht : takerIn K C name = some none)
    (c : (!es.toArray.any (·.key.isStr name) && es.toArray.any (·.refKey)) = false)
    (e : (putL name (PyData.keyHash w.params name) (.str name (s.toks + 1)) v es, putN name es k) = (es', k')) (U : Upd dx (dictOf es k) (dictOf es' k') news news') (hz : es'.length ≤ 1000)
    (h : ∀ h', Fr h₀ L h' m → News h₀ L h' news' → Q () { s with heap := h', toks := s.toks + 2 }) : wpAny (model prog w) A (setAttr (.ref x) name v) Q E s := by
  have X := X₀.keeps F.keep
  refine set_plain X I hs ?_
  obtain ⟨hh, g, dr, t, os⟩ := s
  dsimp only at F N I X U e h ⊢
  have SF := PySem.F.store_object
  obtain ⟨cd, hc, ho⟩ := any_some hm
  simp only [Bool.and_eq_true, beq_iff_eq] at ho
  obtain ⟨hmro, hdict⟩ := ho
  have sub : Looks (model prog w) hh (isInstance (.ref x) (.type "object")) true := I.type.andThen (looks_mroIn X (by unfold mroIn; rw [hc, Option.bind_some, hmro]; rfl))
  refine codeAny_call_builtin SF.slot.plain SF.entry (@check_slot (model prog w) _ _ ⟨hh, g, dr, t + 1, os⟩ "object.__setattr__" "object" "__setattr__" (.ref x) [.str name t, v] [] _ SF.kind SF.split sub (SF.args (.ref x) (.str name t) v) ?_)
  obtain ⟨attr, ha, hr⟩ := Option.bind_eq_some_iff.mp ht
  have L0 := I.type (M := model prog w)
  have L1 := looks_findIn (M := model prog w) X ha
  have hmr : Looks (model prog w) hh (mroOf (.ref C)) cd.mro := (looks_clsIn X hc).andThen .now
  have L3 : Looks (model prog w) hh (storeTaker? attr) none := by
    cases attr with
    | none => exact .now
    | some a =>
      obtain ⟨b, hb, hr'⟩ := Option.map_eq_some_iff.mp hr
      refine (looks_takesIn X hb).andThen ?_
      cases b with
      | false => exact .now
      | true => cases hr'
  rw [osa_eq, refuse_eq]
  refine wpAny_bind (wpAny_bind (L0.at (wpAny_bind (hmr.at ?_))))
  rw [hmro, refuseLoop_ref]
  rw [show refuseLoop (.ref x) "__setattr__" [.type "list", .type "object"] = pure () from by kernel_rfl]
  refine wpAny_pure (wpAny_bind (L0.at (wpAny_bind (L1.at (wpAny_bind (L3.at ?_))))))
  dsimp only
  obtain ⟨pre, post, rfl, rfl, a, b⟩ := U.split
  obtain ⟨e1, e2⟩ := Prod.mk.inj e
  have hput : Obj.putName name (PyData.keyHash w.params name) (.str name (t + 1)) v (dictOf es k) = dictOf es' k' := by rw [putName_dict, e1, e2]
  obtain ⟨U1, U2⟩ := news_upd (f := Obj.putName name (PyData.keyHash w.params name) (.str name (t + 1)) v) F N a b hput rfl
  have D := (N (dx, dictOf es k) (by simp)).1
  have D' := (U2 (dx, dictOf es' k') (by simp)).1
  obtain ⟨hx, hcl, hn, -⟩ := I
  obtain ⟨oc, odi, oda, osl⟩ := ox
  dsimp only at hcl hd
  subst hcl hd
  refine wpAny_bind (wpAny_pure (wpAny_bind (wpAny_bind (wpAny_loadPart hx (wpAny_bind ((looks_clsIn (M := model prog w) X hc).at ?_))))))
  rw [hdict]
  refine wpAny_pure (a := some dx) (wpAny_bind (wpAny_pure (wpAny_bind ?_)))
  unfold nsSet
  refine wpAny_bind (wpAny_bind (wpAny_askSetting (wpAny_pure (wpAny_bind (wpAny_mkText (wpAny_bind (wpAny_loadPart D ?_)))))))
  dsimp only
  rw [aRefKeyMayBeTheName_at, c]
  refine wpAny_updatePart D ?_
  refine wpAny_bind (wpAny_lookBehind D' (pastItsLine_dict (by rw [List.size_toArray, sizeLine_eq]; omega)) ?_)
  exact wpAny_pure (h _ U1 U2)

theorem putz0 (w : World) (tk tk' : Tok) (z' : Int) : (putL (Str.ofString "_initial_size") (PyData.keyHash w.params (Str.ofString "_initial_size")) (.str (Str.ofString "_initial_size") tk) (.int z' tk') [], putN (Str.ofString "_initial_size") [] 0) = ([⟨PyData.keyHash w.params (Str.ofString "_initial_size"), .str (Str.ofString "_initial_size") tk, .int z' tk'⟩], 1) := rfl
theorem kset1 {tk' : Tok} {z' : Int} {Q : Unit → Shared → Prop} (F : Fr h₀ L s.heap m) (X₀ : K.In h₀) (N : News h₀ L s.heap news)
    (h1 : (x, accO C d items n) ∈ news) (h2 : (d, emptyDict) ∈ news) (hs : findIn K (.ref C) "__setattr__" = some (some (.builtin "object.__setattr__")))
    (hm : (clsIn K C).any (fun cd => cd.mro == [.ref C, .type "list", .type "object"] && cd.hasDict) = true) (ht : takerIn K C (Str.ofString "_initial_size") = some none)
    (U : Upd d emptyDict (dictOf [⟨PyData.keyHash w.params (Str.ofString "_initial_size"), .str (Str.ofString "_initial_size") (s.toks + 1), .int z' tk'⟩] 1) news news')
    (h : ∀ h', Fr h₀ L h' m → News h₀ L h' news' → Q () { s with heap := h', toks := s.toks + 2 }) : wpAny (model prog w) A (setAttr (.ref x) (Str.ofString "_initial_size") (.int z' tk')) Q E s :=
  lset_new (es := []) (k := 0) F X₀ N (acc_inst N h1 h2) rfl hs hm ht (by simp) (putz0 w _ tk' z') U (by simp) h
end
end Mine
end
section
open PySem PySem.W PyProof.Rows PySem.Calls
set_option maxRecDepth 100000
set_option maxHeartbeats 8000000
namespace Mine
theorem kw_LC10_1 : True := by
  k_with_none
  k_with "m getAttr ref" => (k_here; k_dflt (refine' kget ?k1ρ ?k2ρ ?k3ρ ?k4ρ ?k5ρ ?k6ρ ?k7ρ ?k8ρ ?k9ρ ?k10ρ ?k11ρ ?_; (case k1ρ => k_asm); (case k2ρ => k_asm); (case k3ρ => exact acc_inst (by k_asm) (by k_mem) (by k_mem)); (case k4ρ => k_is); (case k5ρ => k_is); (case k6ρ => k_is); (case k7ρ => k_is); (case k8ρ => k_is); (case k9ρ => k_is); (case k10ρ => k_get); (case k11ρ => exact rfl); k_whole))
  k_with "m getMethod ref" => (k_here; k_dflt (refine' kmeth ?k1ρ ?k2ρ ?k3ρ ?k4ρ ?k5ρ ?k6ρ ?k7ρ ?k8ρ ?k9ρ ?_; (case k1ρ => k_asm); (case k2ρ => k_asm); (case k3ρ => exact acc_inst (by k_asm) (by k_mem) (by k_mem)); (case k4ρ => k_is); (case k5ρ => k_is); (case k6ρ => k_is); (case k7ρ => k_is); (case k8ρ => exact rfl); (case k9ρ => exact rfl); k_whole))
  k_with "m call builtin:list.append" => (k_here; (with_reducible show wpAny _ _ (call (Value.builtin _) [Value.ref _, _]) _ _ _); k_dflt (refine' lappend ?k1ρ ?k2ρ ?k3ρ ?k4ρ ?k5ρ ?k6ρ ?k7ρ ?_; (case k1ρ => k_asm); (case k2ρ => k_asm); (case k3ρ => k_asm); (case k4ρ => exact acc_inst (by k_asm) (by k_mem) (by k_mem)); (case k5ρ => k_is); (case k6ρ => k_upd); (case k7ρ => omega); k_whole); intro h'ρ F'ρ N'ρ; (try k_sweep))
  k_with "m mine super" => (refine' ks_code_super ?k1ρ ?k2ρ ?k3ρ ?k4ρ ?k5ρ ?kAρ ?kFρ ?kKρ ?k6ρ ?k7ρ ?k8ρ ?k9ρ ?kBρ ?_ ?c1ρ ?c2ρ ?c3ρ ?c4ρ; (case kAρ => exact rfl); (case kFρ => exact rfl); (case kKρ => assumption); (case k1ρ => k_asm); (case k2ρ => k_asm); (case k3ρ => k_asm); (case k4ρ => k_asm); (case k5ρ => k_asm); (case k6ρ => k_is); (case k7ρ => k_is); (case k8ρ => ktr_room); (case k9ρ => first | exact BindsTo.of_eq rfl | exact binds_K (by k_in) rfl (by k_is) rfl rfl rfl); (case kBρ => exact locs rfl); (case c1ρ => decide); (case c2ρ => exact rfl); (case c3ρ => exact rfl); (case c4ρ => exact rfl); intro g'ρ L'ρ h'ρ FG'ρ F'ρ N'ρ B'ρ X'ρ T'ρ l1ρ; (try k_lt l1ρ); (try dsimp only))
  k_with "m wpAt" => (k_here; k_dflt (refine ks_node (by k_asm) (by k_asm) (by k_asm) (by k_asm) (by k_is) (by rfl) (by rfl) (acc_inst (by k_asm) (by k_mem) (by k_mem)) (by k_is) (by rfl) (by first | rfl | decide +kernel) (by k_is) (by k_is) (by k_is) (by k_is) (by decide) (by rfl) (by rfl) (by rfl) (by rfl) (by decide +kernel) (by first | boot_by_name | rfl | kernel_rfl) ?_; intro so'ρ h'ρ F'ρ N'ρ l1ρ; (try k_lt l1ρ)))
  k_with "m getMethod ref" => (k_here; k_dflt (refine' klsuper ?k1ρ ?k2ρ ?k3ρ ?k4ρ ?k5ρ ?k6ρ ?k7ρ ?k7bρ ?k8ρ ?k9ρ ?k10ρ ?k11ρ ?_; (case k1ρ => k_asm); (case k2ρ => k_asm); (case k3ρ => k_asm); (case k4ρ => k_mem); (case k5ρ => exact acc_inst (by k_asm) (by k_mem) (by k_mem)); (case k6ρ => k_is); (case k7ρ => ks_is); (case k7bρ => k_is); (case k8ρ => decide); (case k9ρ => first | exact WdGet.len | exact WdGet.init); (case k10ρ => first | exact ty_llen | exact ty_linit); (case k11ρ => first | exact tw_llen | exact tw_linit)); intro q'ρ h'ρ F'ρ N'ρ l1ρ; (try k_lt l1ρ))
  k_with "m callWith ref" => (k_here; k_dflt (refine callWith_mw (News.get (by k_asm) (by k_mem)) ?_); (try dsimp only [List.nil_append, List.cons_append]))
  k_with "m call ref" => (k_here; (with_reducible show wpAny _ _ (call (Value.ref _) []) _ _ _); k_dflt (refine call_mw_len (News.get (by k_asm) (by k_mem)) (News.get (by k_asm) (by k_mem)) rfl ?_))
  k_with "m mine enter" => (refine' code_def ?k1ρ ?k2ρ ?k3ρ ?k4ρ ?k5ρ ?kAρ ?kFρ ?kKρ ?k6ρ ?k7ρ ?k8ρ ?k9ρ ?kBρ ?_ ?c2ρ ?c3ρ ?c4ρ ?c5ρ; (case kAρ => exact rfl); (case kFρ => exact rfl); (case kKρ => assumption); (case k1ρ => k_asm); (case k2ρ => k_asm); (case k3ρ => k_asm); (case k4ρ => k_asm); (case k5ρ => k_asm); (case k6ρ => k_is); (case k7ρ => k_is); (case k8ρ => ktr_room); (case k9ρ => first | exact BindsTo.of_eq rfl | exact binds_K (by k_in) rfl (by k_is) rfl rfl rfl); (case c5ρ => decide); (case kBρ => exact locs rfl); (case c2ρ => exact rfl); (case c3ρ => exact rfl); (case c4ρ => exact rfl); k_whole; intro g'ρ L'ρ h'ρ FG'ρ F'ρ N'ρ B'ρ X'ρ T'ρ; (try dsimp only); (try k_fold))
  k_with "m subscriptTail" => (k_here; (with_reducible show wpAny _ _ (subscriptTail _ _ (Value.ref _) (Value.ref _)) _ _ _); dsimp only; k_dflt (refine' kslice ?k1ρ ?k2ρ ?k3ρ ?k4ρ ?k5ρ ?k6ρ ?k7ρ ?k8ρ ?k9ρ ?k10ρ ?k11ρ ?k12ρ ?k13ρ ?_; (case k1ρ => k_asm); (case k2ρ => k_asm); (case k3ρ => k_asm); (case k4ρ => k_mem); (case k5ρ => k_mem); (case k6ρ => k_is); (case k7ρ => k_is); (case k8ρ => k_is); (case k9ρ => rfl); (case k10ρ => exact rfl); (case k11ρ => first | exact IsPart.none | exact IsPart.int _ _); (case k12ρ => first | exact IsPart.none | exact IsPart.int _ _); (case k13ρ => (rw [sizeLine_eq]; omega)); k_whole); intro l'ρ h'ρ F'ρ N'ρ l1ρ; (try k_lt l1ρ))
  k_with "m setItem ref ref" => (k_here; dsimp only; k_dflt (refine' ksets ?k1ρ ?k2ρ ?k3ρ ?k4ρ ?k5ρ ?k6ρ ?k7ρ ?k8ρ ?k9ρ ?k10ρ ?k11ρ ?k12ρ ?k13ρ ?k14ρ ?k15ρ ?_; (case k1ρ => k_asm); (case k2ρ => k_asm); (case k3ρ => k_asm); (case k4ρ => k_mem); (case k5ρ => k_mem); (case k6ρ => k_is); (case k7ρ => k_is); (case k8ρ => k_is); (case k9ρ => rfl); (case k10ρ => first | exact IsPart.none | exact IsPart.int _ _); (case k11ρ => first | exact IsPart.none | exact IsPart.int _ _); (case k12ρ => k_mem); (case k13ρ => k_ne); (case k14ρ => (first | omega | (simp; omega))); (case k15ρ => intro n'ρ; k_upd); k_whole); intro h'ρ n'ρ F'ρ N'ρ)
  k_with "m setItem ref" => walk_at "setItem ref ref"
  trivial
section
variable {prog : Program} {w : World} {A : Around} {E : Value → Shared → Prop} {s : Shared} {K : Frag} {x C q : Addr} {h₀ : Heap} {L d : Addr} {m : Str → Option Value} {news : List (Addr × Obj)} {n : Nat}
theorem kcall_init {Q : Value → Shared → Prop} {news'' : Nat → List (Addr × Obj)} (F : Fr h₀ L s.heap m) (N : News h₀ L s.heap news) (hq : (q, mwObj "list.__init__" x) ∈ news) (hx : (x, accO C d #[] n) ∈ news)
    (U : ∀ n', Upd x (accO C d #[] n) (accO C d #[] n') news (news'' n'))
    (h : ∀ h' n', Fr h₀ L h' m → News h₀ L h' (news'' n') → Q .none { s with heap := h' }) : wpAny (model prog w) A (call (.ref q) []) Q E s := by
  obtain ⟨hh, g, dr, t, os⟩ := s
  have hm : ∃ n', Obj.mapSeq (fun _ => #[]) (accO C d #[] n) = accO C d #[] n' := ⟨_, rfl⟩
  obtain ⟨n', hm⟩ := hm
  obtain ⟨pre, post, rfl, e2, a, b⟩ := (U n').split
  obtain ⟨U1, U2⟩ := news_upd F N a b hm rfl
  refine call_mw_init (N _ hq).1 (N _ hx).1 rfl (h _ n' U1 ?_)
  rw [e2]
  exact U2
end
theorem kw_LC10_2 : True := by
  k_with "m call ref" => (k_here; (with_reducible show wpAny _ _ (call (Value.ref _) []) _ _ _); k_dflt (refine' kcall_init ?k1ρ ?k2ρ ?k3ρ ?k4ρ ?k5ρ ?_; (case k1ρ => k_asm); (case k2ρ => k_asm); (case k3ρ => k_mem); (case k4ρ => k_mem); (case k5ρ => intro n'ρ; k_upd); k_whole); intro h'ρ n'ρ F'ρ N'ρ; (try k_sweep))
  trivial
section
variable {w : World} {p : Program} {loose : List Str} {mean : ExcName → Option Value} {mg mb : Str → Option Value} {t1 t2 : Array Value} {rest : List (Addr × Obj)}
theorem mk_acc {z : Int} {tk : Tok} (hz : 0 ≤ z ∧ z < 1000) (tr1 : TriplesOk t1.toList) (tr2 : TriplesOk t2.toList) (ho : OwnOff rest [62, 69]) :
    Tl w (Mine.hd.heap_1 w.params) p loose mean mg mb 20 100 (call (.ref 100) [.int z tk]) ((62, tabObj t1) :: (69, tabObj t2) :: rest)
      (fun r led => ∃ acc d n tk0, r = .ref acc ∧ led = grp w acc d #[] n tk0 z tk t1 t2 ++ rest ∧ AccSt acc d #[] z t1 t2 [] rest ∧ (∀ q ∈ (62, tabObj t1) :: (69, tabObj t2) :: rest, q.1 < d) ∧ d < acc) := by
  have fin : ∀ (x dx : Nat), @LT.lt Nat _ dx x → @LT.lt Nat _ 62 dx → @LT.lt Nat _ 69 dx → AllLt dx rest → AccSt x dx #[] z t1 t2 [] rest ∧ (∀ q ∈ (62, tabObj t1) :: (69, tabObj t2) :: rest, q.1 < dx) := by
    intro x dx h1 h2 h3 hr
    have hr' := allLt_get hr
    refine ⟨⟨⟨rfl, fun j f g e => by simp at e⟩, ⟨by simp, fun q hq => by cases hq⟩, hz, tr1, tr2, ⟨?_, ?_, ?_, ?_, ?_⟩, ?_, ?_, ?_, ?_⟩, ?_⟩
    · omega
    · omega
    · omega
    · omega
    · omega
    · exact fun q hq => Nat.ne_of_lt (Nat.lt_trans (hr' q hq) h1)
    · exact fun q hq => Nat.ne_of_lt (hr' q hq)
    · exact fun q hq => ho q hq 62 (by simp)
    · exact fun q hq => ho q hq 69 (by simp)
    · intro q hq
      rcases List.mem_cons.mp hq with rfl | hq
      · exact h2
      · rcases List.mem_cons.mp hq with rfl | hq
        · exact h3
        · exact hr' q hq
  unfold Tl
  k_fill
  intro dp un gd cn cs a ccd cl outer A₀ base h₀ L m s Q E B F X N T hk hdp hu hret
  refine wpAny_call ?_
  have hret' : ∀ (x dx : Nat) h' n' tk0 tk', @LT.lt Nat _ dx x → @LT.lt Nat _ 62 dx → @LT.lt Nat _ 69 dx → AllLt dx rest → Fr h₀ L h' m → News h₀ L h' ((x, accO 100 dx #[] n') :: (dx, szD w tk0 z tk) :: (62, tabObj t1) :: (69, tabObj t2) :: rest) → Q (.ref x) ⟨h', s.gens, s.drawn, tk', s.os⟩ := by
    intro x dx h' n' tk0 tk' h1 h2 h3 hr F' N'
    exact hret _ (grp w x dx #[] n' tk0 z tk t1 t2 ++ rest) _ _ _ F' N' ⟨x, dx, n', tk0, rfl, rfl, (fin x dx h1 h2 h3 hr).1, (fin x dx h1 h2 h3 hr).2, h1⟩ id
  clear hret fin
  refine' lmake ?k1 ?k2 ?k3 ?k4 ?k5 ?k6 ?_
  (case k1 => k_asm); (case k2 => k_asm); (case k3 => k_asm); (case k4 => kernel_rfl); (case k5 => k_is); (case k6 => k_is)
  intro x' dx' h' F' N' l1 l2
  have l3 := fun p hp => Nat.lt_trans (l1 p hp) l2
  k_lt l3
  k_lt l1
  have l2' : @LT.lt Nat _ dx' x' := l2
  k_dflt (walk_at "mine super")
  k_steps
  dsimp only
  refine' kset1 ?k1 ?k2 ?k3 ?k4 ?k5 ?k6 ?k7 ?k8 ?k9 ?_
  (case k1 => k_asm); (case k2 => k_asm); (case k3 => k_asm); (case k4 => k_mem); (case k5 => k_mem); (case k6 => k_is); (case k7 => kernel_rfl); (case k8 => k_is); (case k9 => k_upd)
  intro h' F' N'
  dsimp only
  ks_step "execs cons"
  refine ks_wpAt_execs_cons ?_
  ks_step "exec Expr"
  refine ks_wpAt_Expr_any ?_
  ks_step "eval Call"
  refine ks_wpAt_MethodCall ?_
  k_steps
  rename (_ ∧ _ ∧ AllLt dx' _) => l1
  exact hret' _ _ _ _ _ _ l2' l1.1 l1.2.1 l1.2.2 (by k_asm) (fun q hq => by first | exact (by k_asm : News _ _ _ _) q (.tail _ (.tail _ hq)))
end

end Mine
end
section
open PySem PySem.W PyProof.Rows PySem.Calls PySem.Builtin PySem.Builtin.ObjectAttr
set_option maxRecDepth 100000
set_option maxHeartbeats 8000000
namespace Mine
theorem kw_LC11_0 : True := by
  k_with_none
  trivial
theorem fn_setattr : typeLookup (.type "function") (Str.ofString "__setattr__") = pure (some (.builtin "object.__setattr__")) := by rw [typeLookup_type, builtinLookup_eq_fast]; kernel_rfl
theorem fn_read : typeLookup (.type "function") (Str.ofString "read") = pure none := by rw [typeLookup_type, builtinLookup_eq_fast]; kernel_rfl
theorem fn_ga : typeLookup (.type "function") (Str.ofString "__getattribute__") = pure (some (.builtin "object.__getattribute__")) := by rw [typeLookup_type, builtinLookup_eq_fast]; kernel_rfl
theorem fn_gat : typeLookup (.type "function") (Str.ofString "__getattr__") = pure none := by rw [typeLookup_type, builtinLookup_eq_fast]; kernel_rfl
theorem fn_obj : isSubtype (.type "function") (.type "object") = pure true := by first | kernel_rfl | rfl
theorem fn_mro : mroOf (.type "function") = pure [.type "function", .type "object"] := by first | kernel_rfl | rfl
abbrev fnO (dd : Option Addr) (fd : FuncData) (sl : Array (Option Value)) : Obj := { cls := .type "function", dict := dd, data := .func fd, slots := sl }
section
variable {prog : Program} {w : World} {A : Around} {E : Value → Shared → Prop} {s : Shared} {h₀ : Heap} {L f : Addr} {m : Str → Option Value} {news : List (Addr × Obj)} {news' : Addr → List (Addr × Obj)} {fd : FuncData} {sl : Array (Option Value)}
theorem lset_fn {v : Value} {Q : Unit → Shared → Prop} (F : Fr h₀ L s.heap m) (N : News h₀ L s.heap news) (U : ∀ d, Upd f (fnO none fd sl) (fnO (some d) fd sl) news (news' d))
    (h : ∀ d h' tk0, Fr h₀ L h' m → News h₀ L h' ((d, dictOf [⟨PyData.keyHash w.params (Str.ofString "read"), .str (Str.ofString "read") tk0, v⟩] 1) :: news' d) → (∀ p ∈ news, p.1 < d) → Q () { s with heap := h', toks := s.toks + 2 }) :
    wpAny (model prog w) A (setAttr (.ref f) (Str.ofString "read") v) Q E s := by
  obtain ⟨hh, g, dr, t, os⟩ := s
  have hf : (f, fnO none fd sl) ∈ news := by
    obtain ⟨pre, post, e1, _⟩ := (U 0).split
    rw [e1]; simp
  have T : ∀ tk, Shared.TypeIs ⟨hh, g, dr, tk, os⟩ (.ref f) "function" := fun tk => ⟨_, (N _ hf).1, rfl⟩
  unfold setAttr
  refine wpAny_bind (wpAny_mkText ?_)
  refine wpAny_bind (m := callSpecial? (.ref f) _ _) ?_
  unfold callSpecial?
  refine wpAny_bind (m := specialOf _ _) (wpAny_specialOf (s := ⟨hh, g, dr, t + 1, os⟩) (T _) fn_setattr ?_)
  refine wpAny_holding ?_
  rw [PySem.F.store_object.slot.bind]
  have SF := PySem.F.store_object
  have sub : Looks (model prog w) hh (isInstance (.ref f) (.type "object")) true := fun A Q E s hk q => by
    refine wpAny_isInstance (T := "function") ⟨_, hk _ _ (N _ hf).1, rfl⟩ fn_obj q
  refine wpAny_bind (wpAny_pure (wpAny_bind (wpAny_call (codeAny_mono (R := fun r s' => match r with | .ok (.ret _) => Q () s' | .ok _ => False | .error e => E e s') ?_ fun r s' z => ?_))))
  · refine codeAny_call_builtin SF.slot.plain SF.entry (@check_slot (model prog w) _ _ ⟨hh, g, dr, t + 1, os⟩ "object.__setattr__" "object" "__setattr__" (.ref f) [.str (Str.ofString "read") t, v] [] _ SF.kind SF.split sub (SF.args (.ref f) (.str (Str.ofString "read") t) v) ?_)
    show wpAny _ _ (Builtin.«object.__setattr__» ⟨[.ref f, .str (Str.ofString "read") t, v], []⟩) _ _ _
    rw [osa_eq, refuse_eq]
    refine wpAny_bind (wpAny_bind (wpAny_typeOf (T _) (wpAny_bind (wpAny_of_eq fn_mro ?_))))
    rw [show refuseLoop (.ref f) "__setattr__" [.type "function", .type "object"] = pure () from by kernel_rfl]
    refine wpAny_pure (wpAny_bind (wpAny_typeOf (T _) (wpAny_bind (wpAny_of_eq fn_read (wpAny_bind (m := storeTaker? none) (wpAny_pure ?_))))))
    dsimp only
    have F1 := F.push emptyDict
    obtain ⟨F1, N1, l1⟩ := ks_newsPush (s := ⟨hh, g, dr, t + 1, os⟩) (o := emptyDict) F N rfl (Heap.get?_push_at rfl rfl) (fun b o e => Heap.get?_push_of_some _ e)
    have hne : hh.objs.size ≠ f := Nat.ne_of_gt (l1 _ hf)
    obtain ⟨pre, post, e1, e2, a, b⟩ := (Upd.tail (p := (hh.objs.size, emptyDict)) hne (U hh.objs.size)).split
    have N1' := N1
    rw [e1] at N1'
    obtain ⟨F2, N2⟩ := news_upd (f := fun o => { o with dict := some hh.objs.size }) F1 N1' a b rfl rfl
    rw [← e2] at N2
    have hput : Obj.putName (Str.ofString "read") (PyData.keyHash w.params (Str.ofString "read")) (.str (Str.ofString "read") (t + 1)) v emptyDict = dictOf [⟨PyData.keyHash w.params (Str.ofString "read"), .str (Str.ofString "read") (t + 1), v⟩] 1 := by
      exact putName_dict (Str.ofString "read") (PyData.keyHash w.params (Str.ofString "read")) (.str (Str.ofString "read") (t + 1)) v [] 0
    have hpost : ∀ p ∈ news' hh.objs.size, p.1 ≠ hh.objs.size := by
      obtain ⟨pre', post', f1, f2, _, _⟩ := (U hh.objs.size).split
      intro p hp
      rw [f2] at hp
      rcases List.mem_append.mp hp with hp | hp
      · exact Nat.ne_of_lt (l1 p (by rw [f1]; exact List.mem_append_left _ hp))
      · rcases List.mem_cons.mp hp with rfl | hp
        · exact Nat.ne_of_lt (l1 (f, fnO none fd sl) hf)
        · exact Nat.ne_of_lt (l1 p (by rw [f1]; exact List.mem_append_right _ (.tail _ hp)))
    obtain ⟨F3, N3⟩ := news_upd (pre := []) (post := news' hh.objs.size) (f := Obj.putName (Str.ofString "read") (PyData.keyHash w.params (Str.ofString "read")) (.str (Str.ofString "read") (t + 1)) v) F2 N2 (fun _ h => nomatch h) hpost hput rfl
    have D := (N2 _ (.head _)).1
    have D' := (N3 _ (.head _)).1
    refine wpAny_bind (m := ownStreamTells _ _) (wpAny_pure ?_)
    have hnext : wpAny (model prog w) A.in1 (instanceDict f true) (fun r s' => r = some hh.objs.size ∧ s' = ⟨(hh.push emptyDict).update f (fun o => { o with dict := some hh.objs.size }), g, dr, t + 1, os⟩) E ⟨hh, g, dr, t + 1, os⟩ := by
      unfold instanceDict
      refine wpAny_bind (wpAny_loadPart (N _ hf).1 ?_)
      dsimp only
      rw [show (!true || !typeHasDict (Value.type "function")) = false from by decide +kernel]
      rw [if_neg Bool.false_ne_true]
      refine wpAny_bind (wpAny_alloc ?_)
      refine wpAny_bind (wpAny_update (o := fnO none fd sl) (Heap.get?_push_of_some _ (N _ hf).1) ?_)
      unfold dictMade
      dsimp only
      rw [show finalisedInACycleAlone "function" = false from by decide +kernel]
      exact wpAny_pure ⟨rfl, rfl⟩
    rw [if_neg (show ¬ ((Value.type "function" == Value.type "module") = true) from by decide)]
    refine wpAny_bind (m := instanceDict f true) (wpAny_mono hnext (fun r s' hr => ?_) fun _ _ y => y)
    obtain ⟨rfl, rfl⟩ := hr
    dsimp only
    refine wpAny_bind (wpAny_pure (wpAny_bind ?_))
    unfold nsSet
    refine wpAny_bind (wpAny_bind (wpAny_askSetting (wpAny_pure (wpAny_bind (wpAny_mkText (wpAny_bind (wpAny_loadPart D ?_)))))))
    dsimp only
    have c : (!(#[] : Array DictEntry).any (·.key.isStr (Str.ofString "read")) && (#[] : Array DictEntry).any (·.refKey)) = false := by simp
    rw [aRefKeyMayBeTheName_at, c]
    refine wpAny_updatePart D ?_
    refine wpAny_bind (wpAny_lookBehind D' (pastItsLine_dict (by rw [List.size_toArray, sizeLine_eq]; simp)) ?_)
    exact wpAny_pure (h _ _ _ F3 N3 l1)
  · rcases r with e | (v | _ | _ | _) <;> first | exact z | exact wpAny_pure (wpAny_pure z)
end
end Mine
end
section
open PySem PySem.W PyProof.Rows PySem.Calls PySem.Builtin PySem.Builtin.ObjectAttr
set_option maxRecDepth 100000
set_option maxHeartbeats 8000000
namespace Mine
theorem kw_LC12_0 : True := by
  k_with_none
  trivial
section
variable {prog : Program} {w : World} {A : Around} {E : Value → Shared → Prop} {s : Shared} {h₀ : Heap} {L f d : Addr} {m : Str → Option Value} {news : List (Addr × Obj)} {fd : FuncData} {sl : Array (Option Value)}
theorem lmeth_fn {pl : Sem Bool} {v : Value} {tk0 : Tok} {Q : Value × List Value → Shared → Prop} (N : News h₀ L s.heap news) (hf : (f, fnO (some d) fd sl) ∈ news) (hd : (d, dictOf [⟨PyData.keyHash w.params (Str.ofString "read"), .str (Str.ofString "read") tk0, v⟩] 1) ∈ news)
    (hv : handedIn v = true) (h : Q (v, []) { s with toks := s.toks + 1 }) : wpAny (model prog w) A (getMethod (.ref f) (Str.ofString "read") pl) Q E s := by
  have hcan : (Manifest.canonical "object.__getattribute__" != "object.__getattribute__") = false := by decide +kernel
  obtain ⟨hh, g, dr, t, os⟩ := s
  have T : ∀ tk, Shared.TypeIs ⟨hh, g, dr, tk, os⟩ (.ref f) "function" := fun tk => ⟨_, (N _ hf).1, rfl⟩
  have L0 : Looks (model prog w) hh (typeOf (.ref f)) (.type "function") := fun A Q E s hk q => wpAny_typeOf ⟨_, hk _ _ (N _ hf).1, rfl⟩ q
  have L3 : Looks (model prog w) hh (find (.ref f) (.type "function") (Str.ofString "read")) (.value v) := by
    intro A Q E s k q
    unfold find
    refine wpAny_bind (wpAny_of_eq fn_read (wpAny_bind (m := getOf none) (wpAny_pure (wpAny_bind (m := dataDescriptor? none none) (wpAny_pure ?_)))))
    dsimp only
    unfold ownThenClass inOwnDict ObjectAttr.ownDict
    refine wpAny_bind (wpAny_bind (wpAny_bind (wpAny_loadPart (k _ _ (N _ hf).1) ?_)))
    dsimp only
    unfold instanceDict
    refine wpAny_bind (wpAny_loadPart (k _ _ (N _ hf).1) ?_)
    dsimp only
    refine wpAny_pure ?_
    unfold inDict
    dsimp only
    refine wpAny_bind (wpAny_loadPart (k _ _ (N _ hd).1) ?_)
    have e : lookIn (Str.ofString "read") (dictOf [⟨PyData.keyHash w.params (Str.ofString "read"), .str (Str.ofString "read") tk0, v⟩] 1) = some (some v) := rfl
    rw [nsLook_of e]
    refine wpAny_pure ?_
    dsimp only
    exact wpAny_bind (wpAny_rule (wpAny_pure q))
  unfold getMethod
  refine wpAny_bind (m := specialOf _ _) (wpAny_specialOf (T _) fn_ga ?_)
  dsimp only
  rw [hcan, if_neg (by decide)]
  refine wpAny_bind (m := specialOf _ _) (wpAny_specialOf (T _) fn_gat ?_)
  rw [if_neg (by decide)]
  refine wpAny_bind (m := specialOf _ _) (wpAny_specialOf (T _) fn_read ?_)
  dsimp only
  refine wpAny_bind (m := getAttr _ _ _) ?_
  unfold getAttr getAttrBy
  refine wpAny_bind (wpAny_mkText (wpAny_holding (wpAny_bind (L0.at (wpAny_bind (wpAny_of_eq fn_ga ?_))))))
  show wpAny _ _ (getAttrByItsOwn _ _ _ _ _ _) _ _ _
  unfold getAttrByItsOwn
  refine wpAny_bind (m := hookBefore (.type "function")) (wpAny_pure ?_)
  refine wpAny_bind (wpAny_attempt ?_)
  refine wpAny_holding ?_
  unfold callGetattribute
  rw [show (false && onTheHeap (.builtin "object.__getattribute__")) = false from rfl]
  show wpAny _ _ (boundAndCalled _ _ _) _ _ _
  unfold boundAndCalled
  rw [PySem.F.slot_object_getattribute.bind]
  refine wpAny_bind (wpAny_pure ?_)
  have sub : Looks (model prog w) hh (isInstance (.ref f) (.type "object")) true := fun A Q E s hk q => by
    refine wpAny_isInstance (T := "function") ⟨_, hk _ _ (N _ hf).1, rfl⟩ fn_obj q
  have hg : builtinKind "object.__getattribute__" = some .slot := by decide +kernel
  have hsp : splitId "object.__getattribute__" = some ("object", "__getattribute__") := by decide +kernel
  refine wpAny_call (codeAny_call_builtin PySem.F.slot_object_getattribute.plain PySem.F.entry_object_getattribute (@check_slot (model prog w) _ _ ⟨hh, g, dr, t + 1, os⟩ "object.__getattribute__" "object" "__getattribute__" (.ref f) [.str (Str.ofString "read") t] [] _ hg hsp sub (PySem.F.args_object_getattribute_2 _ _) ?_))
  show wpAny _ _ (Builtin.«object.__getattribute__» ⟨[.ref f, .str (Str.ofString "read") t], []⟩) _ _ _
  unfold Builtin.«object.__getattribute__»
  refine wpAny_bind (m := slotArgs _ _ _) (wpAny_pure ?_)
  dsimp only
  refine wpAny_bind (m := attrName _) (wpAny_pure (wpAny_bind (L0.at (wpAny_bind (L3.at ?_)))))
  dsimp only
  refine wpAny_pure ?_
  dsimp only
  show wpAny _ _ (handedOut v) _ _ _
  rw [handedOut_of hv]
  exact wpAny_pure (wpAny_pure h)
end
end Mine
end
section
open PySem PySem.W PyProof.Rows PySem.Calls
set_option maxRecDepth 100000
namespace Mine
theorem kw_LP1_0 : True := by
  k_with_none
  trivial
def octs (s : Str) : List Nat := s.cps.toList
theorem octs_len (s : Str) : (octs s).length = s.length := by simp [octs, Str.length]
theorem octs_append (a b : Str) : octs (a ++ b) = octs a ++ octs b := by
  show (a.cps ++ b.cps).toList = _
  simp [octs]
theorem octs_empty : octs (Str.ofString "") = [] := by decide
theorem octs_inj {a b : Str} (h : octs a = octs b) : a = b := by
  cases a; cases b
  simp [octs] at h
  simp [h]
theorem fold_octs : ∀ (l : List Str) (a : Array Nat), (l.foldl (fun acc p => acc ++ (Str.ofString "").cps ++ p.cps) a).toList = a.toList ++ (l.map octs).flatten
  | [], a => by simp
  | x :: r, a => by
    have e : (Str.ofString "").cps.toList = [] := by decide
    rw [List.foldl_cons, fold_octs r]
    simp [octs, e]
theorem octs_join (l : List Str) : octs (Txt.join "" l) = (l.map octs).flatten := by
  show ((l.drop 1).foldl (fun acc p => acc ++ (Str.ofString "").cps ++ p.cps) (l.headD Str.empty).cps).toList = _
  rw [fold_octs]
  cases l with
  | nil => rfl
  | cons x r => rfl
theorem octs_textP (ps : List (Str × Str)) : octs (textP ps) = (ps.map fun q => octs q.1 ++ octs q.2).flatten := by
  unfold textP
  rw [octs_join, List.map_map]
  congr 1
  apply List.map_congr_left
  intro q _
  show octs (Txt.join "" [q.1, q.2]) = _
  rw [octs_join]; simp
theorem lenP_octs (ps : List (Str × Str)) : lenP ps = ((octs (textP ps)).length : Int) := by
  rw [octs_textP]
  induction ps with
  | nil => rfl
  | cons q r ih =>
    have e : lenP (q :: r) = ((q.1.length : Int) + q.2.length) + lenP r := by simp [lenP]
    rw [e, ih]
    simp [octs_len]
    omega
theorem textP_len (ps : List (Str × Str)) : ((textP ps).length : Int) = lenP ps := by rw [lenP_octs, octs_len]
theorem octs_take_drop (ps : List (Str × Str)) (p : Nat) : octs (textP ps) = octs (textP (ps.take p)) ++ octs (textP (ps.drop p)) := by
  rw [octs_textP, octs_textP, octs_textP, ← List.flatten_append, ← List.map_append, List.take_append_drop]
/-- what stands at the head -/
theorem head_eq {ps : List (Str × Str)} {p k : Nat} (h : p = ps.length ∨ (k : Int) ≤ lenP (ps.take p)) : (octs (textP (ps.take p))).take k = (octs (textP ps)).take k := by
  rw [octs_take_drop ps p]
  rcases h with rfl | h
  · rw [List.take_of_length_le (Nat.le_refl _), List.drop_of_length_le (Nat.le_refl _)]
    show _ = ((octs (textP ps) ++ octs (textP [])).take k)
    have : octs (textP []) = [] := rfl
    rw [this, List.append_nil]
  · rw [lenP_octs] at h
    rw [List.take_append_of_le_length (by omega)]
theorem tail_eq {ps : List (Str × Str)} {p k : Nat} (h : p = ps.length ∨ (k : Int) ≤ lenP (ps.take p)) : (octs (textP (ps.take p))).drop k ++ octs (textP (ps.drop p)) = (octs (textP ps)).drop k := by
  rw [octs_take_drop ps p]
  rcases h with rfl | h
  · rw [List.take_of_length_le (Nat.le_refl _), List.drop_of_length_le (Nat.le_refl _)]
    have : octs (textP []) = [] := rfl
    rw [this, List.append_nil, List.append_nil]
  · rw [lenP_octs] at h
    rw [List.drop_append_of_le_length (by omega)]
theorem octs_cons (f g : Str) (ps : List (Str × Str)) : octs (textP ((f, g) :: ps)) = octs f ++ octs g ++ octs (textP ps) := by
  rw [octs_textP, octs_textP]; simp
theorem octs_snoc (f g : Str) (ps : List (Str × Str)) : octs (textP (ps ++ [(f, g)])) = octs (textP ps) ++ (octs f ++ octs g) := by
  rw [octs_textP, octs_textP]; simp
theorem lenP_cons (q : Str × Str) (r : List (Str × Str)) : lenP (q :: r) = ((q.1.length : Int) + q.2.length) + lenP r := by simp [lenP]
theorem lenP_snoc (q : Str × Str) (r : List (Str × Str)) : lenP (r ++ [q]) = lenP r + ((q.1.length : Int) + q.2.length) := by simp [lenP]
theorem lenP_step {ps : List (Str × Str)} {p : Nat} (h : p < ps.length) : lenP (ps.take (p + 1)) = lenP (ps.take p) + (((ps.getD p ("", "")).1.length : Int) + (ps.getD p ("", "")).2.length) := by
  rw [List.take_add_one, List.getD_eq_getElem?_getD, List.getElem?_eq_getElem h]
  exact lenP_snoc _ _
end Mine
end
section
open PySem PySem.W PyProof.Rows PySem.Calls
set_option maxRecDepth 100000
namespace Mine
theorem kw_LP2_0 : True := by
  k_with_none
  trivial
theorem octs_upto (x : Str) (k : Nat) : octs (Txt.slice x none (some (k : Int))) = (octs x).take k := by
  have h := beq_iff_eq.mp (slice_to_min_closes (x := x) (n := (k : Int)) (by omega) rfl)
  rw [h]
  unfold octs
  have el : x.length = x.cps.toList.length := by simp [Str.length]
  simp only [Int.toNat_zero, List.drop_zero, Int.sub_zero]
  split
  · rename_i hh
    rw [List.take_of_length_le (by omega), List.take_of_length_le (by omega)]
  · simp
theorem octs_from (x : Str) (k : Nat) (h : k ≤ x.length) : octs (Txt.slice x (some (k : Int)) none) = (octs x).drop k := by
  rw [slice_from_eq (x := x) (i := (k : Int)) (b := x.length) (by omega) (by omega) rfl]
  unfold octs
  have el : x.length = x.cps.toList.length := by simp [Str.length]
  simp only [Int.toNat_natCast]
  rw [List.take_of_length_le]
  rw [List.length_drop]
  omega
theorem len_upto (x : Str) (k : Nat) : (Txt.slice x none (some (k : Int))).length = min k x.length := by
  rw [← octs_len, octs_upto, List.length_take, octs_len]
theorem len_from (x : Str) (k : Nat) (h : k ≤ x.length) : (Txt.slice x (some (k : Int)) none).length = x.length - k := by
  rw [← octs_len, octs_from x k h, List.length_drop, octs_len]
theorem Parts.cons {led : List (Addr × Obj)} {its : List Value} {ps : List (Str × Str)} {D : Addr} {f g : Str} {tf tg : Tok} (h : Parts led its.toArray ps) (hm : (D, tupO [.str f tf, .str g tg]) ∈ led) :
    Parts led (Value.ref D :: its).toArray ((f, g) :: ps) := by
  refine ⟨by have := h.1; simp at this; simp [this], fun j f' g' e => ?_⟩
  cases j with
  | zero =>
    have e' : (f, g) = (f', g') := by simpa using e
    cases e'
    exact ⟨D, tf, tg, by simp, hm⟩
  | succ j =>
    obtain ⟨t, a, b, h1, h2⟩ := h.2 j f' g' (by simpa using e)
    exact ⟨t, a, b, by simpa using h1, h2⟩
theorem lenP_take_le (ps : List (Str × Str)) (p : Nat) : lenP (ps.take p) ≤ lenP ps := by
  rw [lenP_octs, lenP_octs, octs_take_drop ps p]
  simp
  omega
theorem lenP_nil : lenP [] = 0 := rfl
end Mine
end
section
open PySem PySem.W PyProof.Rows PySem.Calls
set_option maxRecDepth 100000
set_option maxHeartbeats 8000000
namespace Mine
theorem kw_LC13_0 : True := by
  k_with_none
  trivial
section
variable {prog : Program} {w : World} {A : Around} {E : Value → Shared → Prop} {s : Shared} {env : Env} {test : PySem.Expr} {body orelse : List Stmt} {Q : Flow → Shared → Prop}
def LoopPost (J : Nat → Shared → Prop) (Q : Flow → Shared → Prop) (j : Nat) (f : Flow) (s' : Shared) : Prop := match f with
  | .next => ∃ j', j' < j ∧ J j' s'
  | .cont => ∃ j', j' < j ∧ J j' s'
  | .brk => Q .next s'
  | .ret v => Q (.ret v) s'
theorem whl_ind {J : Nat → Shared → Prop} {X : Shared → Prop} {pos : Pos} (hE : PassesOwn (model prog w) A env E)
    (step : ∀ j s, J j s → wpAny (model prog w) A (isTrue test env (eval test env)) (fun b s₂ => if b = true then wpAny (model prog w) A (execs body env) (LoopPost J Q j) E s₂ else X s₂) E s)
    (fin : ∀ s₂, X s₂ → wpAny (model prog w) A (execs orelse env) Q E s₂)
    (j : Nat) (hj : J j s) : wpAny (model prog w) A (exec (.While test body orelse pos) env) Q E s := by
  refine whl_start 0 ?_
  have key : ∀ n j, j ≤ n → ∀ s, J j s → WhlRest prog w A E env test body orelse Q 0 s := by
    intro n
    induction n with
    | zero =>
      intro j hj s hJ
      refine whl_turn (k := 0) hE (wpAny_mono (step j s hJ) (fun b s₂ h₂ => ?_) fun _ _ e => e)
      unfold WhlIf
      split at h₂
      · rename_i hb
        rw [if_pos hb]
        refine wpAny_mono h₂ (fun f s₃ h₃ => ?_) fun _ _ e => e
        cases f with
        | next => obtain ⟨j', h1, _⟩ := h₃; omega
        | cont => obtain ⟨j', h1, _⟩ := h₃; omega
        | brk => exact h₃
        | ret v => exact h₃
      · rename_i hb
        rw [if_neg hb]; exact fin _ h₂
    | succ n ih =>
      intro j hj s hJ
      refine whl_turn (k := 0) hE (wpAny_mono (step j s hJ) (fun b s₂ h₂ => ?_) fun _ _ e => e)
      unfold WhlIf
      split at h₂
      · rename_i hb
        rw [if_pos hb]
        refine wpAny_mono h₂ (fun f s₃ h₃ => ?_) fun _ _ e => e
        cases f with
        | next => obtain ⟨j', h1, h2⟩ := h₃; exact ih j' (by omega) _ h2
        | cont => obtain ⟨j', h1, h2⟩ := h₃; exact ih j' (by omega) _ h2
        | brk => exact h₃
        | ret v => exact h₃
      · rename_i hb
        rw [if_neg hb]; exact fin _ h₂
  exact key j j (Nat.le_refl _) s hj
end
section
variable {prog : Program} {w : World} {A : Around} {E : Value → Shared → Prop} {K : Frag} {x C d : Addr} {h₀ : Heap} {s : Shared} {L : Addr} {m : Str → Option Value} {news : List (Addr × Obj)} {items : Array Value} {n k : Nat} {es : List DictEntry}
theorem kitem {value slice : Expr} {ops : List Value} {i : Int} {t : Tok} {v : Value} {Q : Value → Shared → Prop} (F : Fr h₀ L s.heap m) (X₀ : K.In h₀) (N : News h₀ L s.heap news) (h1 : (x, accO C d items n) ∈ news) (h2 : (d, dictOf es k) ∈ news)
    (hq : noSeq K C = true) (hs : findIn K (.ref C) "__getitem__" = some (some (.builtin "list.__getitem__"))) (hl : subIn K (.ref C) (.type "list") = some true)
    (hsl : subscripted slice false (.ref x) (.int i t) = operate ops (getItem (.ref x) (.int i t))) (h0 : 0 ≤ i) (hfit : i < 2 ^ 63) (hx : items[i.toNat]? = some v) (h : Q v s) :
    wpAny (model prog w) A (subscriptTail value slice (.ref x) (.int i t)) Q E s :=
  ltail (X₀.keeps F.keep) (acc_inst N h1 h2) hs (lgetInt (X₀.keeps F.keep) (acc_inst N h1 h2) hq hs hl h0 hfit hx h) hsl
end
theorem Fr.cast {h₀ h : Heap} {L : Addr} {m m' : Str → Option Value} (F : Fr h₀ L h m) (e : ∀ y, m y = m' y) : Fr h₀ L h m' := by
  have : m = m' := funext e
  exact this ▸ F
section
variable {w : World} {p : Program} {loose : List Str} {mean : ExcName → Option Value} {mg mb : Str → Option Value} {acc d : Addr} {items : Array Value} {n : Nat} {tk0 tkz : Tok} {z : Int} {ps : List (Str × Str)} {t1 t2 : Array Value} {rest : List (Addr × Obj)}
theorem tl_go5 {K : Frag} {nd nu : Nat} {e : Addr × Obj} {c : Sem Value} {Post : Value → List (Addr × Obj) → Prop} {cur c1 c2 c3 c4 : List (Addr × Obj)} {dp un : Nat} {gd : Option (List Code)} {cn : Str} {cs : Scope} {a : Addr} {ccd : Value} {cl : List (Str × Addr)} {outer : List Env} {A₀ : Around} {base h₀ : Heap} {L : Addr} {m : Str → Option Value} {s : Shared} {Q E : Value → Shared → Prop}
    (B : Below A₀ base outer h₀) (F : Fr h₀ L s.heap m) (X : K.In h₀) (N : News h₀ L s.heap cur) (T : Top p loose mean mg mb h₀) (r1 : Rm (acc, accO 100 d items n) cur c1) (r2 : Rm (d, szD w tk0 z tkz) c1 c2) (r3 : Rm (62, tabObj t1) c2 c3) (r4 : Rm (69, tabObj t2) c3 c4) (r5 : Rm e c4 rest)
    (x : Tl w K p loose mean mg mb nd nu c (grp w acc d items n tk0 z tkz t1 t2 ++ e :: rest) Post) (hk : cs.kind = .function) (hd : dp + nd < recursionLimit) (hu : un + nu < cLine)
    (ret : ∀ r led' h' gs' tk', Fr h₀ L h' m → News h₀ L h' led' → Post r led' → (AllBare s.gens → AllBare gs') → Q r ⟨h', gs', s.drawn, tk', s.os⟩) :
    wpAny (model PySem.Challenge.rw_ij0160_01.row.prog w) (ktrTop dp un gd cn cs L a ccd cl outer) c Q E s :=
  tl_go B F X (fun q hq => N q (r1.sub q ((List.mem_cons.mp hq).elim (fun e => e ▸ .head _) fun hq => .tail _ (r2.sub q ((List.mem_cons.mp hq).elim (fun e => e ▸ .head _) fun hq => .tail _ (r3.sub q ((List.mem_cons.mp hq).elim (fun e => e ▸ .head _) fun hq => .tail _ (r4.sub q ((List.mem_cons.mp hq).elim (fun e => e ▸ .head _) fun hq => .tail _ (r5.sub q hq)))))))))) T .head .head .head .head x hk hd hu ret
end
theorem lname {M : Model} {A : Around} {E : Value → Shared → Prop} {s : Shared} {env : Env} {x : Str} {v : Value} {h₀ : Heap} {L : Addr} {m : Str → Option Value} {Q : Value → Shared → Prop} (F : Fr h₀ L s.heap m) (hL : env.locals = L) (hv : m x = some v) (hk : env.scope.kind = .function) (hx : env.kindOf x = some .local) (h : Q v s) :
    wpAny M A (loadName env x) Q E s := wpAny_loadName_local hk hx (hL ▸ F.ns) hv h
end Mine
end
section
open PySem PySem.W PyProof.Rows PySem.Calls
set_option maxRecDepth 100000
set_option maxHeartbeats 8000000
namespace Mine
theorem kw_LC14_0 : True := by
  k_with_none
  trivial
section
variable {prog : Program} {w : World} {A : Around} {E : Value → Shared → Prop} {s : Shared} {h₀ : Heap} {L : Addr} {m : Str → Option Value} {env : Env} {p : Program} {loose : List Str} {mean : ExcName → Option Value} {mg mb : Str → Option Value}
def StrSrc (prog : Program) (w : World) (A : Around) (h₀ : Heap) (L : Addr) (m : Str → Option Value) (env : Env) (elt : Expr) (x : Str) (scope : Scope) (cl : List (Str × Addr)) (Q : Value → Shared → Prop) (xv : Value) (s₁ : Shared) : Prop :=
  ∃ y t news, xv = .str y t ∧ A.handled = none ∧ Fr h₀ L s₁.heap m ∧ News h₀ L s₁.heap news ∧ y.length ≤ sizeLine ∧
    ∀ s₂ : Shared, (∃ h, s₂ = { s₁ with heap := h }) → LCg.CompRest prog w A h₀ L m env elt x scope cl s₂ (fun _ => True) (SignAt y) (LCg.FinE h₀ L m s₂ Q) y.length 0 [] news
theorem lcomp_str {elt iter : Expr} {x : Str} {px : Pos} {scope : Scope} {cl : List (Str × Addr)} {pos : Pos} {Q : Value → Shared → Prop} (_F₀ : Fr h₀ L s.heap m)
    (hclos : closureFor scope env = pure cl) (hcell : ∀ y ∈ scope.names, y.2 ≠ .cell) (hkind : scope.kind = .function)
    (hnames : ∀ y ∈ scope.names, y.2 = .local → scope.names.lookup y.1 = some .local) (hx : scope.names.lookup x = some .local)
    (h : wpAny (model prog w) A (eval iter env) (StrSrc prog w A h₀ L m env elt x scope cl Q) E s)
    (hs : ∀ x, foldedSetIterable iter env x = pure x := by intro _; rfl) :
    wpAny (model prog w) A (eval (.ListComp elt [⟨.Name x px, iter, [], 0⟩] scope pos) env) Q E s := by
  rw [eval_ListComp]
  refine wpAny_comprehension_free (use := none) rfl hs hclos hkind hnames (wpAny_mono h (fun xv s₁ h₁ => ?_) fun _ _ e => e)
  obtain ⟨y, t, news, rfl, hh, F, N, hsz, R⟩ := h₁
  cases ha : y.cps.all (· < 128)
  · refine wpAny_pyIter_wide ha ?_
    refine LCg.block_U (Walks.strWide hh _ y t) hsz (fun i h st => by obtain ⟨o, e, _⟩ := st; exact ⟨o, e⟩) (fun i h h' o nw st e e' _ _ _ => by obtain ⟨o', q, r⟩ := st; rw [e] at q; cases q; exact ⟨o, e', r⟩) hcell hkind hx ⟨_, Heap.get?_push_size _ rfl, rfl, rfl⟩ (fun b hb => ?_)
      (F.keeps fun _ _ e => Heap.get?_push_of_some _ e) (N.grown fun _ _ e => Heap.get?_push_of_some _ e) (Nat.ne_of_lt F.ns.lt) (next_is_new F) (fun p hp => Nat.ne_of_lt (Heap.lt_size (N p hp).1)) trivial (R _ ⟨_, rfl⟩) ?_
    · rw [List.mem_singleton.mp hb]
      show s₁.heap.objs.size < (s₁.heap.push _).objs.size
      rw [Heap.size_push]; exact Nat.lt_succ_self _
    · intro D C h tk m' ys news' F' N' o1 hn hC₀ hD₀ hCL hDL hCD offC fin
      refine ⟨m', hn, fun h'' hs'' => fin D h'' tk (F'.change hs'' hCL hC₀) (fun p hp => ?_) o1⟩
      refine ⟨hs''.extBut _ _ ?_ (N' p hp).1, (N' p hp).2⟩
      rcases List.mem_cons.mp hp with rfl | hp
      · exact Ne.symm hCD
      · exact offC p hp
  · refine wpAny_pyIter_ascii ha ?_
    refine LCg.block_U (Walks.strAscii hh _ y t) hsz (fun i h st => by obtain ⟨o, e, _⟩ := st; exact ⟨o, e⟩) (fun i h h' o nw st e e' _ _ _ => by obtain ⟨o', q, r⟩ := st; rw [e] at q; cases q; exact ⟨o, e', r⟩) hcell hkind hx ⟨_, Heap.get?_push_size _ rfl, rfl, rfl⟩ (fun b hb => ?_)
      (F.keeps fun _ _ e => Heap.get?_push_of_some _ e) (N.grown fun _ _ e => Heap.get?_push_of_some _ e) (Nat.ne_of_lt F.ns.lt) (next_is_new F) (fun p hp => Nat.ne_of_lt (Heap.lt_size (N p hp).1)) trivial (R _ ⟨_, rfl⟩) ?_
    · rw [List.mem_singleton.mp hb]
      show s₁.heap.objs.size < (s₁.heap.push _).objs.size
      rw [Heap.size_push]; exact Nat.lt_succ_self _
    · intro D C h tk m' ys news' F' N' o1 hn hC₀ hD₀ hCL hDL hCD offC fin
      refine ⟨m', hn, fun h'' hs'' => fin D h'' tk (F'.change hs'' hCL hC₀) (fun p hp => ?_) o1⟩
      refine ⟨hs''.extBut _ _ ?_ (N' p hp).1, (N' p hp).2⟩
      rcases List.mem_cons.mp hp with rfl | hp
      · exact Ne.symm hCD
      · exact offC p hp

theorem ord_rest {p1 p2 p3 : Pos} {x : Str} {scope : Scope} {cl : List (Str × Addr)} {Fin : List Value → List (Addr × Obj) → Prop} {news : List (Addr × Obj)} {y : Str} (T : Top p loose mean mg mb h₀) (hm : mg "ord" = none)
    (hgl : env.globals = mainGlobals) (hbl : env.builtins = builtinsNs) (hk : (relabel scope env).kind = .function) (hxo : ∀ C, (compEnvC scope cl C env).kindOf "ord" = some .globalImplicit) (hxs : ∀ C, (compEnvC scope cl C env).kindOf x = some .local) (hd : (x == ("__debug__" : Str)) = false)
    (fin : ∀ ys, IntsAre ys ((octs y).map Int.ofNat) → Fin ys news) :
    LCg.CompRest prog w A h₀ L m env (.Call (.Name "ord" p1) [.Name x p2] [] p3) x scope cl s (fun _ => True) (SignAt y) Fin y.length 0 [] news := by
  have key : ∀ (j i : Nat) (ys : List Value), i + j = y.length → IntsAre ys (((octs y).take i).map Int.ofNat) → LCg.CompRest prog w A h₀ L m env (.Call (.Name "ord" p1) [.Name x p2] [] p3) x scope cl s (fun _ => True) (SignAt y) Fin j i ys news := by
    intro j
    induction j with
    | zero =>
      intro i ys hi hy
      rw [List.take_of_length_le (by rw [octs_len]; omega)] at hy
      exact LCg.CompRest.zero (fin ys hy)
    | succ j ih =>
      intro i ys hi hy
      refine LCg.CompRest.succ ?_
      intro v I oI C oC D m₂ h tk E' hv hC hx F N off ne
      obtain ⟨c, u, hc, rfl⟩ := hv
      have hn : h.Ns C m₂ := hC.ns (N (C, oC) (.tail _ (.head _))).1
      refine Call_ (nm_builtin (s := { s with heap := h, toks := tk }) F.keep T hm PyProof.Rows.Boot.«ord» ?_ (by decide) hgl hbl hk (hxo C) (by decide))
      refine callWith_builtin1 (args_cons (nm_local (s := { s with heap := h, toks := tk }) hn hx ?_ hk (hxs C) hd))
      refine args_nil ?_
      refine PySem.P.ord_of_char ?_
      refine ⟨h, tk + 1, news, rfl, F, N, off, trivial, ih (i + 1) _ (by omega) ?_⟩
      rw [List.take_add_one, show (octs y)[i]? = some c from by rw [← hc]; simp [octs]]
      simpa using intsAre_append hy (.cons (c : Int) tk .nil)
  exact key y.length 0 [] (by omega) (by simp only [List.take_zero, List.map_nil]; exact .nil)
end
end Mine
end
section
open PySem PySem.W PyProof.Rows PySem.Calls
set_option maxRecDepth 100000
set_option maxHeartbeats 80000000
namespace Mine
theorem kw_LC15_1 : True := by
  k_with_none
  k_with "m getAttr ref" => (k_here; k_dflt (refine' kget ?k1ρ ?k2ρ ?k3ρ ?k4ρ ?k5ρ ?k6ρ ?k7ρ ?k8ρ ?k9ρ ?k10ρ ?k11ρ ?_; (case k1ρ => k_asm); (case k2ρ => k_asm); (case k3ρ => exact acc_inst (by k_asm) (by k_mem) (by k_mem)); (case k4ρ => k_is); (case k5ρ => k_is); (case k6ρ => k_is); (case k7ρ => k_is); (case k8ρ => k_is); (case k9ρ => k_is); (case k10ρ => k_get); (case k11ρ => exact rfl); k_whole))
  k_with "m getMethod ref" => (k_here; k_dflt (refine' kmeth ?k1ρ ?k2ρ ?k3ρ ?k4ρ ?k5ρ ?k6ρ ?k7ρ ?k8ρ ?k9ρ ?_; (case k1ρ => k_asm); (case k2ρ => k_asm); (case k3ρ => exact acc_inst (by k_asm) (by k_mem) (by k_mem)); (case k4ρ => k_is); (case k5ρ => k_is); (case k6ρ => k_is); (case k7ρ => k_is); (case k8ρ => exact rfl); (case k9ρ => exact rfl); k_whole))
  k_with "m call builtin:list.append" => (k_here; (with_reducible show wpAny _ _ (call (Value.builtin _) [Value.ref _, _]) _ _ _); k_dflt (refine' lappend ?k1ρ ?k2ρ ?k3ρ ?k4ρ ?k5ρ ?k6ρ ?k7ρ ?_; (case k1ρ => k_asm); (case k2ρ => k_asm); (case k3ρ => k_asm); (case k4ρ => exact acc_inst (by k_asm) (by k_mem) (by k_mem)); (case k5ρ => k_is); (case k6ρ => k_upd); (case k7ρ => omega); k_whole); intro h'ρ F'ρ N'ρ; (try k_sweep))
  k_with "m mine super" => (refine' ks_code_super ?k1ρ ?k2ρ ?k3ρ ?k4ρ ?k5ρ ?kAρ ?kFρ ?kKρ ?k6ρ ?k7ρ ?k8ρ ?k9ρ ?kBρ ?_ ?c1ρ ?c2ρ ?c3ρ ?c4ρ; (case kAρ => exact rfl); (case kFρ => exact rfl); (case kKρ => assumption); (case k1ρ => k_asm); (case k2ρ => k_asm); (case k3ρ => k_asm); (case k4ρ => k_asm); (case k5ρ => k_asm); (case k6ρ => k_is); (case k7ρ => k_is); (case k8ρ => ktr_room); (case k9ρ => first | exact BindsTo.of_eq rfl | exact binds_K (by k_in) rfl (by k_is) rfl rfl rfl); (case kBρ => exact locs rfl); (case c1ρ => decide); (case c2ρ => exact rfl); (case c3ρ => exact rfl); (case c4ρ => exact rfl); intro g'ρ L'ρ h'ρ FG'ρ F'ρ N'ρ B'ρ X'ρ T'ρ l1ρ; (try k_lt l1ρ); (try dsimp only))
  k_with "m wpAt" => (k_here; k_dflt (refine ks_node (by k_asm) (by k_asm) (by k_asm) (by k_asm) (by k_is) (by rfl) (by rfl) (acc_inst (by k_asm) (by k_mem) (by k_mem)) (by k_is) (by rfl) (by first | rfl | decide +kernel) (by k_is) (by k_is) (by k_is) (by k_is) (by decide) (by rfl) (by rfl) (by rfl) (by rfl) (by decide +kernel) (by first | boot_by_name | rfl | kernel_rfl) ?_; intro so'ρ h'ρ F'ρ N'ρ l1ρ; (try k_lt l1ρ)))
  k_with "m getMethod ref" => (k_here; k_dflt (refine' klsuper ?k1ρ ?k2ρ ?k3ρ ?k4ρ ?k5ρ ?k6ρ ?k7ρ ?k7bρ ?k8ρ ?k9ρ ?k10ρ ?k11ρ ?_; (case k1ρ => k_asm); (case k2ρ => k_asm); (case k3ρ => k_asm); (case k4ρ => k_mem); (case k5ρ => exact acc_inst (by k_asm) (by k_mem) (by k_mem)); (case k6ρ => k_is); (case k7ρ => ks_is); (case k7bρ => k_is); (case k8ρ => decide); (case k9ρ => first | exact WdGet.len | exact WdGet.init); (case k10ρ => first | exact ty_llen | exact ty_linit); (case k11ρ => first | exact tw_llen | exact tw_linit)); intro q'ρ h'ρ F'ρ N'ρ l1ρ; (try k_lt l1ρ))
  k_with "m callWith ref" => (k_here; k_dflt (refine callWith_mw (News.get (by k_asm) (by k_mem)) ?_); (try dsimp only [List.nil_append, List.cons_append]))
  k_with "m call ref" => (k_here; (with_reducible show wpAny _ _ (call (Value.ref _) []) _ _ _); k_dflt (refine call_mw_len (News.get (by k_asm) (by k_mem)) (News.get (by k_asm) (by k_mem)) rfl ?_))
  k_with "m mine enter" => (refine' code_def ?k1ρ ?k2ρ ?k3ρ ?k4ρ ?k5ρ ?kAρ ?kFρ ?kKρ ?k6ρ ?k7ρ ?k8ρ ?k9ρ ?kBρ ?_ ?c2ρ ?c3ρ ?c4ρ ?c5ρ; (case kAρ => exact rfl); (case kFρ => exact rfl); (case kKρ => assumption); (case k1ρ => k_asm); (case k2ρ => k_asm); (case k3ρ => k_asm); (case k4ρ => k_asm); (case k5ρ => k_asm); (case k6ρ => k_is); (case k7ρ => k_is); (case k8ρ => ktr_room); (case k9ρ => first | exact BindsTo.of_eq rfl | exact binds_K (by k_in) rfl (by k_is) rfl rfl rfl); (case c5ρ => decide); (case kBρ => exact locs rfl); (case c2ρ => exact rfl); (case c3ρ => exact rfl); (case c4ρ => exact rfl); k_whole; intro g'ρ L'ρ h'ρ FG'ρ F'ρ N'ρ B'ρ X'ρ T'ρ; (try dsimp only); (try k_fold))
  k_with "m subscriptTail" => (k_here; (with_reducible show wpAny _ _ (subscriptTail _ _ (Value.ref _) (Value.ref _)) _ _ _); dsimp only; k_dflt (refine' kslice ?k1ρ ?k2ρ ?k3ρ ?k4ρ ?k5ρ ?k6ρ ?k7ρ ?k8ρ ?k9ρ ?k10ρ ?k11ρ ?k12ρ ?k13ρ ?_; (case k1ρ => k_asm); (case k2ρ => k_asm); (case k3ρ => k_asm); (case k4ρ => k_mem); (case k5ρ => k_mem); (case k6ρ => k_is); (case k7ρ => k_is); (case k8ρ => k_is); (case k9ρ => rfl); (case k10ρ => exact rfl); (case k11ρ => first | exact IsPart.none | exact IsPart.int _ _); (case k12ρ => first | exact IsPart.none | exact IsPart.int _ _); (case k13ρ => (rw [sizeLine_eq]; omega)); k_whole); intro l'ρ h'ρ F'ρ N'ρ l1ρ; (try k_lt l1ρ))
  k_with "m setItem ref ref" => (k_here; dsimp only; k_dflt (refine' ksets ?k1ρ ?k2ρ ?k3ρ ?k4ρ ?k5ρ ?k6ρ ?k7ρ ?k8ρ ?k9ρ ?k10ρ ?k11ρ ?k12ρ ?k13ρ ?k14ρ ?k15ρ ?_; (case k1ρ => k_asm); (case k2ρ => k_asm); (case k3ρ => k_asm); (case k4ρ => k_mem); (case k5ρ => k_mem); (case k6ρ => k_is); (case k7ρ => k_is); (case k8ρ => k_is); (case k9ρ => rfl); (case k10ρ => first | exact IsPart.none | exact IsPart.int _ _); (case k11ρ => first | exact IsPart.none | exact IsPart.int _ _); (case k12ρ => k_mem); (case k13ρ => k_ne); (case k14ρ => (first | omega | (simp; omega))); (case k15ρ => intro n'ρ; k_upd); k_whole); intro h'ρ n'ρ F'ρ N'ρ)
  k_with "m setItem ref" => walk_at "setItem ref ref"
  trivial
local macro_rules | `(tactic| kn_code) => `(tactic| exact CodeHd.keeps (by assumption) (Fr.keep (by assumption)))
theorem kw_LC15_2 : True := by
  k_with "m mine enterC" => (refine' code_defC ?k1ρ ?k2ρ ?k3ρ ?k4ρ ?k5ρ ?kAρ ?kFρ ?kKρ ?k6ρ ?k7ρ ?k8ρ ?k9ρ ?kBρ ?kDρ ?_ ?c2ρ ?c3ρ ?c4ρ; (case kAρ => exact rfl); (case kFρ => exact rfl); (case kKρ => assumption); (case k1ρ => k_asm); (case k2ρ => k_asm); (case k3ρ => k_asm); (case k4ρ => k_asm); (case k5ρ => k_asm); (case k6ρ => k_is); (case k7ρ => k_is); (case k8ρ => ktr_room); (case k9ρ => first | exact BindsTo.of_eq rfl | exact binds_K (by k_in) rfl (by k_is) rfl rfl rfl); (case kBρ => exact rfl); (case kDρ => decide +kernel); (case c2ρ => exact rfl); (case c3ρ => exact rfl); (case c4ρ => exact rfl); k_whole; intro g9 La h9 tk9 cells'ρ FG9 F9 N9 Y'ρ B9 X9 T9 l4; (try k_lt l4); k_cells Y'ρ; (try simp only [List.cons_append, List.nil_append] at N9); (try dsimp only); (try k_lift B9); (try k_fold))
  trivial
theorem AccSt.cons4 {acc d a : Addr} {items : Array Value} {z : Int} {t1 t2 : Array Value} {ps : List (Str × Str)} {rest : List (Addr × Obj)} {o : Obj} (S : AccSt acc d items z t1 t2 ps rest) (h : @Ne Nat a acc ∧ @Ne Nat a d ∧ @Ne Nat a 62 ∧ @Ne Nat a 69) : AccSt acc d items z t1 t2 ps ((a, o) :: rest) := S.cons h.1 h.2.1 h.2.2.1 h.2.2.2
theorem AccSt.re {acc d : Addr} {items : Array Value} {z : Int} {t1 t2 : Array Value} {ps : List (Str × Str)} {rest rest' : List (Addr × Obj)} (S : AccSt acc d items z t1 t2 ps rest') (hsub : ∀ q ∈ rest, q ∈ rest') (hp : Parts rest items ps) : AccSt acc d items z t1 t2 ps rest :=
  { S with hp := hp, o1 := fun q hq => S.o1 q (hsub q hq), o2 := fun q hq => S.o2 q (hsub q hq), o3 := fun q hq => S.o3 q (hsub q hq), o4 := fun q hq => S.o4 q (hsub q hq) }
def ReadPost (w : World) (acc d : Addr) (items : Array Value) (ps : List (Str × Str)) (k : Nat) (tk0 : Tok) (rd c La : Addr) (ro oc oca : Obj) (rest : List (Addr × Obj)) (r : Value) (led : List (Addr × Obj)) : Prop :=
  ∃ t itn n' tz t1' t2' psn new, r = .bytes (byteArr (((octs (textP ps)).take k).map Int.ofNat)) t ∧ led = grp w acc d itn n' tk0 0 tz t1' t2' ++ (new ++ (rd, ro) :: (c, oc) :: (La + 1, oca) :: rest) ∧
    AccSt acc d itn 0 t1' t2' psn (new ++ (rd, ro) :: (c, oc) :: (La + 1, oca) :: rest) ∧ (∀ T, Parts T items ps → Parts (new ++ T) itn psn) ∧ octs (textP psn) = (octs (textP ps)).drop k ∧ psn.length ≤ ps.length ∧
    (∀ q ∈ new, @LT.lt Nat _ acc q.1 ∧ @LT.lt Nat _ d q.1 ∧ @LT.lt Nat _ 62 q.1 ∧ @LT.lt Nat _ 69 q.1 ∧ @LT.lt Nat _ rd q.1 ∧ @LT.lt Nat _ c q.1 ∧ @LT.lt Nat _ (La + 1) q.1 ∧ AllLt q.1 rest)
abbrev strm (w : World) (o : Addr → Value → Value → Addr → Obj) (sd st rd c La : Addr) (doc ctv : Value) (tk0 : Tok) (fd : FuncData) (sl : Array (Option Value)) (oc oca : Obj) : List (Addr × Obj) :=
  [(sd, dictOf [⟨PyData.keyHash w.params (Str.ofString "read"), .str (Str.ofString "read") tk0, .ref rd⟩] 1), (st, fnO (some sd) fd sl), (rd, o c doc ctv La), (c, oc), (La + 1, oca)]
structure StrmSt (acc sd st rd c La : Addr) (oc oca : Obj) (vs : Array Value) (t : Tok) : Prop where
  d1 : oc.data = .fields vs
  d2 : vs[1]? = some (.str (Str.ofString "_law_stream.<locals>.read") t)
  d3 : oca.data = .cell (some (.ref acc))
  lt : @LT.lt Nat _ (La + 1) c ∧ @LT.lt Nat _ c rd ∧ @LT.lt Nat _ rd st ∧ @LT.lt Nat _ st sd
theorem allLt_mono {b c : Addr} {l : List (Addr × Obj)} (h : AllLt b l) (hbc : @LT.lt Nat _ b c) : AllLt c l := by
  induction l with
  | nil => trivial
  | cons x r ih => exact ⟨Nat.lt_trans h.1 hbc, ih h.2⟩
theorem kw_LC15_3 : True := by
  k_with "m truthy ref" => (k_here; k_dflt (refine' truthy_len ?k1ρ ?k2ρ ?k3ρ ?k4ρ ?k5ρ ?k6ρ ?_; (case k1ρ => k_asm); (case k2ρ => k_asm); (case k3ρ => exact acc_inst (by k_asm) (by k_mem) (by k_mem)); (case k4ρ => k_is); (case k5ρ => k_is); (case k6ρ => k_is); k_whole))
  k_with "m call type:str" => (k_here; (with_reducible show wpAny _ _ (call (Value.type "str") [Value.ref _]) _ _ _); k_dflt (refine' kstr ?k1ρ ?k2ρ ?k2bρ ?k3ρ ?k4ρ ?k5ρ ?_; (case k1ρ => ktr_units); (case k2ρ => k_asm); (case k2bρ => k_asm); (case k3ρ => exact acc_inst (by k_asm) (by k_mem) (by k_mem)); (case k4ρ => k_is); (case k5ρ => k_is); k_whole))
  k_with "m rm" => first | with_reducible exact Rm.head | exact Rm.tail (by walk_at "rm")
  k_with "m acc st" => first | assumption | exact AccSt.cons4 (by walk_at "acc st") (by with_reducible assumption) | exact AccSt.cons (by walk_at "acc st") (by first | omega | k_ne) (by first | omega | k_ne) (by first | omega | k_ne) (by first | omega | k_ne)
  k_with "m acc len" => (refine' tl_go ?k1ρ ?k2ρ ?k3ρ ?k4ρ ?k5ρ ?r1ρ ?r2ρ ?r3ρ ?r4ρ (len_acc ?kSρ) ?kkρ ?kdρ ?kuρ ?_; (case k1ρ => k_asm); (case k2ρ => k_asm); (case k3ρ => k_asm); (case k4ρ => k_asm); (case k5ρ => k_asm); (case r1ρ => walk_at "rm"); (case r2ρ => walk_at "rm"); (case r3ρ => walk_at "rm"); (case r4ρ => walk_at "rm"); (case kSρ => walk_at "acc st"); (case kkρ => first | exact rfl | assumption); (case kdρ => ktr_room); (case kuρ => ktr_units); intro r9ρ led9ρ h9ρ gs9ρ tk9ρ F9ρ N9ρ P9ρ G9ρ; obtain ⟨t9ρ, u9ρ, e9ρ, e9'ρ, S9ρ⟩ := P9ρ; subst e9ρ; subst e9'ρ; simp only [grp, List.cons_append, List.nil_append] at N9ρ)
  k_with "m acc str" => (refine' tl_go ?k1ρ ?k2ρ ?k3ρ ?k4ρ ?k5ρ ?r1ρ ?r2ρ ?r3ρ ?r4ρ (str_acc ?kSρ) ?kkρ ?kdρ ?kuρ ?_; (case k1ρ => k_asm); (case k2ρ => k_asm); (case k3ρ => k_asm); (case k4ρ => k_asm); (case k5ρ => k_asm); (case r1ρ => walk_at "rm"); (case r2ρ => walk_at "rm"); (case r3ρ => walk_at "rm"); (case r4ρ => walk_at "rm"); (case kSρ => walk_at "acc st"); (case kkρ => first | exact rfl | assumption); (case kdρ => ktr_room); (case kuρ => ktr_units); intro r9ρ led9ρ h9ρ gs9ρ tk9ρ F9ρ N9ρ P9ρ G9ρ; obtain ⟨t9ρ, u9ρ, e9ρ, e9'ρ, S9ρ⟩ := P9ρ; subst e9ρ; subst e9'ρ; simp only [grp, List.cons_append, List.nil_append] at N9ρ)
  k_with "m mine nest" => (refine' code_nest ?k1ρ ?k2ρ ?k3ρ ?k4ρ ?k5ρ ?kAρ ?kFρ ?kKρ ?k6ρ ?k7ρ ?k8ρ ?k9ρ ?kBρ ?_ ?c2ρ ?c3ρ ?c4ρ ?c5ρ; (case kAρ => exact rfl); (case kFρ => exact rfl); (case kKρ => assumption); (case k1ρ => k_asm); (case k2ρ => k_asm); (case k3ρ => k_asm); (case k4ρ => k_asm); (case k5ρ => k_asm); (case k6ρ => k_mem); (case k7ρ => exact codeRec_news (by k_asm) (by k_mem) (by assumption) (by assumption)); (case k8ρ => ktr_room); (case k9ρ => exact BindsTo.of_eq rfl); (case c5ρ => decide); (case kBρ => exact locs rfl); (case c2ρ => exact rfl); (case c3ρ => exact rfl); (case c4ρ => exact rfl); k_whole; intro g1 L1 h1 FG F1 N1 B1 X1 T1; (try dsimp only); (try k_lift B1); (try k_fold))
  k_with "m call ref" => (k_here; (try dsimp only [List.nil_append, List.cons_append]); (with_reducible show wpAny _ _ (call (Value.ref 97) [Value.ref _]) _ _ _); k_dflt (refine' tl_go ?k1ρ ?k2ρ ?k3ρ ?k4ρ ?k5ρ ?r1ρ ?r2ρ ?r3ρ ?r4ρ (count_acc ?kSρ) ?kkρ ?kdρ ?kuρ ?_; (case k1ρ => k_asm); (case k2ρ => k_asm); (case k3ρ => k_asm); (case k4ρ => k_asm); (case k5ρ => k_asm); (case r1ρ => walk_at "rm"); (case r2ρ => walk_at "rm"); (case r3ρ => walk_at "rm"); (case r4ρ => walk_at "rm"); (case kSρ => walk_at "acc st"); (case kkρ => first | exact rfl | assumption); (case kdρ => ktr_room); (case kuρ => ktr_units); intro r9ρ led9ρ h9ρ gs9ρ tk9ρ F9ρ N9ρ P9ρ G9ρ; obtain ⟨t9ρ, e9ρ, e9'ρ⟩ := P9ρ; subst e9ρ; subst e9'ρ; simp only [grp, List.cons_append, List.nil_append] at N9ρ; (try dsimp only); (try k_sweep)))
  k_with "m call ref" => (k_here; (try dsimp only [List.nil_append, List.cons_append]); (with_reducible show wpAny _ _ (call (Value.ref 67) [Value.ref _]) _ _ _); k_dflt (refine' tl_go ?k1ρ ?k2ρ ?k3ρ ?k4ρ ?k5ρ ?r1ρ ?r2ρ ?r3ρ ?r4ρ (len_acc ?kSρ) ?kkρ ?kdρ ?kuρ ?_; (case k1ρ => k_asm); (case k2ρ => k_asm); (case k3ρ => k_asm); (case k4ρ => k_asm); (case k5ρ => k_asm); (case r1ρ => walk_at "rm"); (case r2ρ => walk_at "rm"); (case r3ρ => walk_at "rm"); (case r4ρ => walk_at "rm"); (case kSρ => walk_at "acc st"); (case kkρ => first | exact rfl | assumption); (case kdρ => ktr_room); (case kuρ => ktr_units); intro r9ρ led9ρ h9ρ gs9ρ tk9ρ F9ρ N9ρ P9ρ G9ρ; obtain ⟨t9ρ, u9ρ, e9ρ, e9'ρ, S9ρ⟩ := P9ρ; subst e9ρ; subst e9'ρ; simp only [grp, List.cons_append, List.nil_append] at N9ρ; (try dsimp only); (try k_sweep)))
  k_with "m call ref" => (k_here; (try dsimp only [List.nil_append, List.cons_append]); (with_reducible show wpAny _ _ (call (Value.ref 74) [Value.ref _]) _ _ _); k_dflt (refine' tl_go ?k1ρ ?k2ρ ?k3ρ ?k4ρ ?k5ρ ?r1ρ ?r2ρ ?r3ρ ?r4ρ (str_acc ?kSρ) ?kkρ ?kdρ ?kuρ ?_; (case k1ρ => k_asm); (case k2ρ => k_asm); (case k3ρ => k_asm); (case k4ρ => k_asm); (case k5ρ => k_asm); (case r1ρ => walk_at "rm"); (case r2ρ => walk_at "rm"); (case r3ρ => walk_at "rm"); (case r4ρ => walk_at "rm"); (case kSρ => walk_at "acc st"); (case kkρ => first | exact rfl | assumption); (case kdρ => ktr_room); (case kuρ => ktr_units); intro r9ρ led9ρ h9ρ gs9ρ tk9ρ F9ρ N9ρ P9ρ G9ρ; obtain ⟨t9ρ, u9ρ, e9ρ, e9'ρ, S9ρ⟩ := P9ρ; subst e9ρ; subst e9'ρ; simp only [grp, List.cons_append, List.nil_append] at N9ρ; (try dsimp only); (try k_sweep)))
  k_with "m call ref" => (k_here; (try dsimp only [List.nil_append, List.cons_append]); (with_reducible show wpAny _ _ (call (Value.ref 53) [Value.ref _, Value.int _ _]) _ _ _); k_dflt (refine' tl_go ?k1ρ ?k2ρ ?k3ρ ?k4ρ ?k5ρ ?r1ρ ?r2ρ ?r3ρ ?r4ρ (pop_acc ?kSρ) ?kkρ ?kdρ ?kuρ ?_; (case k1ρ => k_asm); (case k2ρ => k_asm); (case k3ρ => k_asm); (case k4ρ => k_asm); (case k5ρ => k_asm); (case r1ρ => walk_at "rm"); (case r2ρ => walk_at "rm"); (case r3ρ => walk_at "rm"); (case r4ρ => walk_at "rm"); (case kSρ => walk_at "acc st"); (case kkρ => first | exact rfl | assumption); (case kdρ => ktr_room); (case kuρ => ktr_units); intro r9ρ led9ρ h9ρ gs9ρ tk9ρ F9ρ N9ρ P9ρ G9ρ; obtain ⟨l9ρ, n9ρ, e9ρ, l9'ρ, e9'ρ, S9ρ⟩ := P9ρ; subst e9ρ; subst e9'ρ; simp only [grp, List.cons_append, List.nil_append] at l9'ρ; (try k_lt l9'ρ); simp only [grp, List.cons_append, List.nil_append] at N9ρ; (try dsimp only); (try k_sweep)))
  k_with "m subscriptTail" => (k_here; (with_reducible show wpAny _ _ (subscriptTail _ _ (Value.ref _) (Value.int _ _)) _ _ _); dsimp only; k_dflt (refine' kitem ?k1ρ ?k2ρ ?k3ρ ?k4ρ ?k5ρ ?k6ρ ?k7ρ ?k8ρ ?k9ρ ?k10ρ ?k11ρ ?k12ρ ?_; (case k1ρ => k_asm); (case k2ρ => k_asm); (case k3ρ => k_asm); (case k4ρ => k_mem); (case k5ρ => k_mem); (case k6ρ => k_is); (case k7ρ => k_is); (case k8ρ => k_is); (case k9ρ => exact rfl); (case k10ρ => omega); (case k11ρ => omega); (case k12ρ => assumption); k_whole))
  k_with "m rest mem" => first | assumption | exact List.Mem.tail _ (by walk_at "rest mem")
  k_with "m assign Tuple" => (k_here; (with_reducible show wpAny _ _ (assign (Expr.Tuple _ _ _) _ (Value.ref _)) _ _ _); k_dflt (refine' unpackN_ ?Fρ ?Nρ ?Tρ ?k1ρ ?k2ρ ?k3ρ ?_; (case Fρ => k_asm); (case Nρ => k_asm); (case Tρ => refine News.isTup (by k_asm) (by walk_at "rest mem")); (case k1ρ => exact rfl); (case k2ρ => exact rfl); (case k3ρ => exact rfl); k_whole); intro h'ρ F'ρ N'ρ; (try k_sweep))
  k_with "m call builtin:len" => (k_here; (with_reducible show wpAny _ _ (call (Value.builtin "len") [Value.str _ _]) _ _ _); k_dflt (refine' PySem.P.len_str ?k1ρ ?_; (case k1ρ => omega); k_whole))
  k_with "m binaryOp Add ref ref" => (k_here; (with_reducible show wpAny _ _ (binaryOp _ (Value.ref _) (Value.ref _)) _ _ _); k_dflt (refine' kmk_add_lit ?Fρ ?Nρ ?aρ ?bρ ?eρ ?_ ?zρ; (case Fρ => k_asm); (case Nρ => k_asm); (case aρ => exact News.isList (by k_asm) (by k_mem)); (case bρ => exact News.isList (by k_asm) (by k_mem)); (case eρ => exact rfl); (case zρ => (rw [sizeLine_eq]; simp; omega))); intro D'ρ h'ρ F'ρ N'ρ l1ρ; (try k_lt l1ρ); (try k_sweep))
  k_with "m loadName" => (k_here; k_dflt (refine' lname ?Fρ ?hLρ ?vρ ?hkρ ?hxρ ?_; (case Fρ => k_asm); (case hLρ => exact rfl); (case vρ => exact rfl); (case hkρ => exact rfl); (case hxρ => exact rfl); k_whole))
  k_with "m frcast" => (intro yρ; by_cases hy1 : yρ = Str.ofString "place"; (subst hy1; exact rfl); by_cases hy2 : yρ = Str.ofString "held"; (subst hy2; exact rfl); by_cases hy3 : yρ = Str.ofString "head"; (subst hy3; exact rfl); by_cases hy4 : yρ = Str.ofString "part"; (subst hy4; exact rfl); by_cases hy5 : yρ = Str.ofString "count"; (subst hy5; exact rfl); simp only [if_neg hy1, if_neg hy2, if_neg hy3, if_neg hy4, if_neg hy5])
  k_with "m bare" => (intro gρ; solve_by_elim)
  k_with "m sub" => first | exact fun q hq => hq | exact sub_drop (by walk_at "sub")
  k_with "m acc reset" => ((try dsimp only [List.nil_append, List.cons_append]); refine' tl_go5 ?k1ρ ?k2ρ ?k3ρ ?k4ρ ?k5ρ ?r1ρ ?r2ρ ?r3ρ ?r4ρ ?r5ρ (reset_acc ?kSρ ?hlnρ ?hpρ ?hsρ) ?kkρ ?kdρ ?kuρ ?_; (case k1ρ => k_asm); (case k2ρ => k_asm); (case k3ρ => k_asm); (case k4ρ => k_asm); (case k5ρ => k_asm); (case r1ρ => walk_at "rm"); (case r2ρ => walk_at "rm"); (case r3ρ => walk_at "rm"); (case r4ρ => walk_at "rm"); (case r5ρ => walk_at "rm"); (case kSρ => walk_at "acc st"); (case hlnρ => (refine ⟨?_, ?_, ?_, ?_⟩ <;> (first | omega | k_ne))); (case kkρ => first | exact rfl | assumption); (case kdρ => ktr_room); (case kuρ => ktr_units))
  k_with "m eval ListComp" => (k_here; (with_reducible show wpAny _ _ (eval (Expr.ListComp (Expr.Call _ _ _ _) _ _ _) _) _ _ _); k_dflt (refine' lcomp_str ?F0ρ ?hcρ ?hcellρ ?hkρ ?hnρ ?hxρ ?_ ?hsρ; (case F0ρ => k_asm); (case hcρ => with_unfolding_all rfl); (case hcellρ => decide); (case hkρ => with_unfolding_all rfl); (case hnρ => decide); (case hxρ => with_unfolding_all rfl); (case hsρ => (intro _; rfl))))
  k_with "m call type:bytes" => (k_here; (with_reducible show wpAny _ _ (call (Value.type "bytes") [Value.ref _]) _ _ _); k_dflt (refine' KBa.make_K ?Fρ ?Nρ ?hhρ ?hlρ ?hiρ ?hrρ ?hnρ ?_; (case Fρ => k_asm); (case Nρ => k_asm); (case hhρ => exact rfl); (case hlρ => exact News.isList (by k_asm) (by k_mem)); (case hiρ => assumption); (case hrρ => assumption); (case hnρ => (simp only [List.length_map, octs_len]; omega))); intro h9ρ t9ρ k9ρ F9ρ N9ρ hin9ρ)
  k_with "m subs" => first | walk_at "sub" | exact sub_cons (by k_mem) (by walk_at "subs")
  trivial
def Hold (P : Prop) : Prop := P
def Stop (P : Prop) : Prop := P
theorem kw_LC15_4 : True := by
  k_with "m exec" => ((with_reducible show wpAny _ _ (exec (Stmt.While _ _ _ _) _) _ _ _); change Stop _)
  k_with "m exec While" => (change Stop (wpAny _ _ _ _ _ _))
  k_with "m exec While BoolOp" => (change Stop (wpAny _ _ _ _ _ _))
  trivial
section
variable {w : World} {p : Program} {loose : List Str} {mean : ExcName → Option Value} {mg mb : Str → Option Value}
theorem news_skip {h₀ h : Heap} {L : Addr} {a b c : Addr × Obj} {l : List (Addr × Obj)} (N : News h₀ L h (a :: b :: c :: l)) : News h₀ L h (a :: b :: l) := fun q hq => by
  rcases List.mem_cons.mp hq with rfl | hq
  · exact N _ (.head _)
  · rcases List.mem_cons.mp hq with rfl | hq
    · exact N _ (.tail _ (.head _))
    · exact N q (.tail _ (.tail _ (.tail _ hq)))
theorem stream_ex : ∃ (o : Addr → Value → Value → Addr → Obj),
    (∀ {acc : Addr} {rest : List (Addr × Obj)}, OwnOff rest [141] → Tl w (Mine.hd.heap_1 w.params) p loose mean mg mb 20 100 (call (.ref 146) [.ref acc]) ((141, tabObj #[]) :: rest)
      (fun r led => ∃ sd st rd c La doc ctv tk0 fd sl oc oca vs t t3, r = .ref st ∧ led = strm w o sd st rd c La doc ctv tk0 fd sl oc oca ++ (141, tabObj t3) :: rest ∧ StrmSt acc sd st rd c La oc oca vs t ∧ (∀ q ∈ (141, tabObj t3) :: rest, q.1 < La))) ∧
    (∀ {acc d : Addr} {items : Array Value} {n : Nat} {tk0 tkz : Tok} {z : Int} {ps : List (Str × Str)} {t1 t2 : Array Value} {rest : List (Addr × Obj)} {sd st rd c La : Addr} {doc ctv : Value} {oc oca : Obj} {vs : Array Value} {t tk : Tok} {k : Nat} {ro : Obj}, ro = o c doc ctv La → AccSt acc d items z t1 t2 ps rest → StrmSt acc sd st rd c La oc oca vs t →
      (@Ne Nat rd acc ∧ @Ne Nat rd d ∧ @Ne Nat rd 62 ∧ @Ne Nat rd 69) → (@Ne Nat c acc ∧ @Ne Nat c d ∧ @Ne Nat c 62 ∧ @Ne Nat c 69) → (@Ne Nat (La + 1) acc ∧ @Ne Nat (La + 1) d ∧ @Ne Nat (La + 1) 62 ∧ @Ne Nat (La + 1) 69) → k ≤ 1000 → lenP ps ≤ 1000 → (∀ o ∈ octs (textP ps), o < 256) →
      Tl w (Mine.hd.heap_1 w.params) p loose mean mg mb 100 1000 (call (.ref rd) [.int k tk]) (grp w acc d items n tk0 z tkz t1 t2 ++ (rd, ro) :: (c, oc) :: (La + 1, oca) :: rest) (ReadPost w acc d items ps k tk0 rd c La ro oc oca rest)) ∧ (∀ (c : Addr) (doc ctv : Value) (La : Addr), ∃ fd, (o c doc ctv La).data = .func fd) := by
  refine' ⟨_, ?walk, ?read, ?fn⟩
  case walk =>
    intro acc rest ho
    unfold Tl
    k_fill
    intro dp un gd cn cs a ccd cl outer A₀ base h₀ L m s Q E B F X N T hk hdp hu hret
    refine wpAny_call ?_
    have hC : CodeHd h₀ 145 141 := codeHd_of_K X (by kernel_rfl)
    k_dflt (walk_at "mine enterC")
    rename_i oca d3
    clear hC
    k_steps
    have hC : CodeHd h₀ 145 141 := codeHd_of_K X (by kernel_rfl)
    k_dflt (refine' nestDef_K ?d0 ?k0 ?a0 ?_; (case d0 => exact rfl); (case k0 => exact rfl); (case a0 => exact rfl))
    k_dflt (refine' nest_K ?F ?N ?T ?C ?cd ?U ?t ?n ?cl ?_; (case F => k_asm); (case N => k_asm); (case T => k_asm); (case cd => exact rfl); (case C => kn_code); (case U => k_updF); (case t => kn_triples); (case n => kn_among); (case cl => exact rfl); k_whole)
    intro f1 c1 oc1 vs1 t1 ct1 dc1 h1 tk1 F1 N1 d1 d2 l1 l2
    try dsimp only at N1
    k_lt l1
    k_lt2 l2
    k_steps
    dsimp only
    rename (@LT.lt Nat _ _ _ ∧ _ ∧ _ ∧ _ ∧ AllLt _ _) => l5
    rename (@LT.lt Nat _ _ _) => l6
    have l7 := allLt_mono l5.2.2.2.2 l6
    refine' lset_fn ?k1 ?k2 ?k3 ?_
    (case k1 => k_asm)
    (case k2 => k_asm)
    (case k3 => intro d; k_upd)
    intro d' h' tk0' F' N' l8
    k_lt l8
    k_steps
    have l2' : @LT.lt Nat _ c1 f1 := l2
    have l6' := l6
    have hfin : ∀ (st sd cl : Nat), (@LT.lt Nat _ (La + 1) c1 ∧ @LT.lt Nat _ c1 f1 ∧ @LT.lt Nat _ f1 st ∧ @LT.lt Nat _ st sd) → StrmSt acc sd st f1 c1 La oc1 oca vs1 t1 := fun st sd cl h => ⟨d1, d2, d3, h⟩
    refine hret _ (strm w _ _ _ f1 c1 La dc1 ct1 _ _ _ _ _ ++ (141, tabObj _) :: rest) _ _ _ (by k_asm) (by first | exact news_skip (by k_asm)) ⟨_, _, _, _, _, _, _, _, _, _, _, _, _, _, _, rfl, rfl, hfin _ _ 0 ?_, ?_⟩ id
    · skip
      omega
    intro q hq
    rcases List.mem_cons.mp hq with rfl | hq
    · exact l4.1
    · exact allLt_get l4.2 q hq
  case fn => exact fun _ _ _ _ => ⟨_, rfl⟩
  case read =>
    intro acc d items n tk0 tkz z ps t1 t2 rest sd st rd c La doc ctv oc oca vs t tk k ro hro S D n1 n2 n3 hk0 hLP hoct
    obtain ⟨d1, d2, d3, lt⟩ := D
    have hne := S.ne
    have ho := S.own
    unfold Tl
    k_fill
    intro dp un gd cn cs a ccd cl outer A₀ base h₀ L m s Q E B F X N T hk hdp hu hret
    simp only [grp, List.cons_append, List.nil_append] at N
    refine wpAny_call ?_
    have hC : CodeHd h₀ 145 141 := codeHd_of_K X (by kernel_rfl)
    have hmem0 : ∀ o', ro = o' → (rd, o') ∈ (acc, accO 100 d items n) :: (d, szD w tk0 z tkz) :: (62, tabObj t1) :: (69, tabObj t2) :: (rd, ro) :: (c, oc) :: (La + 1, oca) :: rest := by
      intro o' e
      rw [← e]
      exact .tail _ (.tail _ (.tail _ (.tail _ (.head _))))
    have hmem := hmem0 _ hro
    clear hmem0 hro
    k_dflt (walk_at "mine nest")
    clear hmem

    obtain ⟨Ts, tf, tg, hTs⟩ := S.hp.fns
    have hsz := S.hp.1
    have hps := S.hs.1
    k_steps
    unfold Stop
    refine whl_ind (J := fun j s' => Hold (∃ (p : Nat) (held : Int) (u1 u2 : Tok) (hv pv : Option Value), p + j = items.size ∧ held = lenP (ps.take p) ∧ (∀ i, i < p → lenP (ps.take i) < k) ∧
      Fr g1 L1 s'.heap (fun y => if y = Str.ofString "place" then some (.int p u1) else if y = Str.ofString "held" then some (.int held u2) else if y = Str.ofString "head" then hv else if y = Str.ofString "part" then pv else if y = Str.ofString "count" then some (.int k tk) else none) ∧
      News g1 L1 s'.heap ((acc, accO 100 d items n) :: (d, szD w tk0 z tkz) :: (62, tabObj t1) :: (69, tabObj t2) :: (rd, ro) :: (c, oc) :: (La + 1, oca) :: rest) ∧ (AllBare s.gens → AllBare s'.gens) ∧ s'.drawn = s.drawn ∧ s'.os = s.os))
      (X := fun s' => Hold (∃ (p : Nat) (held : Int) (u1 u2 : Tok) (hv pv : Option Value), p ≤ items.size ∧ (p = items.size ∨ k ≤ lenP (ps.take p)) ∧ (∀ i, i < p → lenP (ps.take i) < k) ∧
      Fr g1 L1 s'.heap (fun y => if y = Str.ofString "place" then some (.int p u1) else if y = Str.ofString "held" then some (.int held u2) else if y = Str.ofString "head" then hv else if y = Str.ofString "part" then pv else if y = Str.ofString "count" then some (.int k tk) else none) ∧
      News g1 L1 s'.heap ((acc, accO 100 d items n) :: (d, szD w tk0 z tkz) :: (62, tabObj t1) :: (69, tabObj t2) :: (rd, ro) :: (c, oc) :: (La + 1, oca) :: rest) ∧ (AllBare s.gens → AllBare s'.gens) ∧ s'.drawn = s.drawn ∧ s'.os = s.os)) ?hE ?step ?fin items.size ?init
    case hE => with_unfolding_all passes_own
    case init =>
      refine' ⟨0, 0, _, _, none, none, by omega, rfl, fun i hi => absurd hi (Nat.not_lt_zero _), Fr.cast (by k_asm) ?_, by k_asm, id, rfl, rfl⟩
      rotate_left 2
      intro y
      by_cases hy1 : y = Str.ofString "place"
      · subst hy1; exact rfl
      by_cases hy2 : y = Str.ofString "held"
      · subst hy2; exact rfl
      by_cases hy3 : y = Str.ofString "head"
      · subst hy3; exact rfl
      by_cases hy4 : y = Str.ofString "part"
      · subst hy4; exact rfl
      by_cases hy5 : y = Str.ofString "count"
      · subst hy5; exact rfl
      rw [if_neg hy1, if_neg hy2, if_neg hy2, if_neg hy1, if_neg hy3, if_neg hy4, if_neg hy5]
      show List.lookup y [(Str.ofString "count", Value.int (↑k) tk)] = none
      have hb : (y == Str.ofString "count") = false := by simpa using hy5
      simp only [List.lookup, hb]
    case step =>
      intro j s' ⟨pp, held, u1, u2, hv, pv, hj, hheld, hlt, F2, N2, G2, e1, e2⟩
      obtain ⟨h2, gs2, dr2, tk2, os2⟩ := s'
      dsimp only at F2 N2 G2 e1 e2
      subst e1 e2
      by_cases hp : pp < items.size
      · have hit := (hTs pp hp).1
        have hme := (hTs pp hp).2
        have hgi : ps.getD pp ("", "") ∈ ps := by rw [List.getD_eq_getElem?_getD, List.getElem?_eq_getElem (by omega)]; exact List.getElem_mem (by omega)
        have hq := S.hs.2 _ hgi
        have hls := lenP_step (ps := ps) (p := pp) (by omega)
        have hlb := lenP_bound (ps.take pp) fun q hq => S.hs.2 q (List.mem_of_mem_take hq)
        have htl : (ps.take pp).length ≤ 1000 := by rw [List.length_take]; omega
        k_steps
        · dsimp only [LoopPost]
          refine ⟨items.size - (pp + 1), by omega, ?_⟩
          unfold Hold
          refine' ⟨pp + 1, _, _, _, _, _, by omega, ?hh, ?hi, Fr.cast (by k_asm) ?fc, by k_asm, by walk_at "bare", rfl, rfl⟩
          rotate_left 5
          case fc => walk_at "frcast"
          case hh => rw [hheld, hls]
          case hi =>
            intro i hi
            by_cases e : i = pp
            · subst e; omega
            · exact hlt i (by omega)
        all_goals (unfold Hold; refine ⟨pp, held, u1, u2, hv, pv, by omega, by omega, hlt, by k_asm, by k_asm, by walk_at "bare", rfl, rfl⟩)
      · k_steps
        all_goals (unfold Hold; refine ⟨pp, held, u1, u2, hv, pv, by omega, by omega, hlt, by k_asm, by k_asm, by walk_at "bare", rfl, rfl⟩)
    case fin =>
      intro s' ⟨pp, held, u1, u2, hv, pv, hj, hheld, hlt, F2, N2, G2, e1, e2⟩
      obtain ⟨h2, gs2, dr2, tk2, os2⟩ := s'
      dsimp only at F2 N2 G2 e1 e2
      subst e1 e2
      have hlb := lenP_bound (ps.take pp) fun q hq => S.hs.2 q (List.mem_of_mem_take hq)
      have htl : (ps.take pp).length ≤ 1000 := by rw [List.length_take]; omega
      have hal := textP_len (ps.take pp)
      k_steps
      dsimp only [W.StrBack]
      have hlt2 := lenP_take_le ps pp
      have hsl := len_upto (textP (ps.take pp)) k
      have hord : nsIn (Mine.hd.heap_1 w.params) mainGlobals (PySem.Str.ofString "ord") = some none := by k_is
      have hmo : mg (PySem.Str.ofString "ord") = none := ns_none_of X1 T1.g hord
      have hpe : pp = ps.length ∨ (k : Int) ≤ lenP (ps.take pp) := by omega
      have hIn : KBa.In ((octs (Txt.slice (textP (ps.take pp)) none (some (k : Int)))).map Int.ofNat) := by
        intro n hn
        rw [octs_upto, head_eq hpe] at hn
        obtain ⟨o, ho, rfl⟩ := List.mem_map.mp hn
        have := hoct o (List.mem_of_mem_take ho)
        show 0 ≤ (o : Int) ∧ (o : Int) < 256
        omega
      k_steps
      · have hpp : 1 ≤ pp := by
          cases pp with
          | zero => exfalso; have hz0 : (textP (List.take 0 ps)).length = 0 := rfl; omega
          | succ n => omega
        k_dflt (refine' tl_go5 ?k1 ?k2 ?k3 ?k4 ?k5 ?r1 ?r2 ?r3 ?r4 ?r5 (reset_acc (psn := (Str.ofString "", Txt.slice (textP (ps.take pp)) (some (k : Int)) none) :: ps.drop pp) ?kS ?hln ?hp ?hs) ?kk ?kd ?ku ?_)
        (case k1 => k_asm); (case k2 => k_asm); (case k3 => k_asm); (case k4 => k_asm); (case k5 => k_asm)
        (case r1 => walk_at "rm")
        (case r2 => walk_at "rm")
        (case r3 => walk_at "rm")
        (case r4 => walk_at "rm")
        (case r5 => walk_at "rm")
        (case kS => walk_at "acc st")
        (case hln => (refine ⟨?_, ?_, ?_, ?_⟩ <;> (first | omega | k_ne)))
        (case kk => first | exact rfl | assumption)
        (case kd => ktr_room)
        (case ku => ktr_units)
        case hp => exact Parts.cons ((S.hp.drop pp).mono (by walk_at "sub")) (by k_mem)
        case hs =>
          have hlf := len_from (textP (ps.take pp)) k (by omega)
          refine ⟨?_, fun q hq => ?_⟩
          · simp only [List.length_cons, List.length_drop]; omega
          · rcases List.mem_cons.mp hq with rfl | hq
            · have h0e : (Str.ofString "").length = 0 := by decide
              show (Str.ofString "").length ≤ 1000 ∧ (Txt.slice (textP (ps.take pp)) (some (k : Int)) none).length ≤ 1000
              omega
            · exact S.hs.2 q (List.mem_of_mem_drop hq)
        intro r9 led9 h9 gs9 tk9 F9 N9 P9 G9
        obtain ⟨e9, n9, tz9, e9', S9⟩ := P9
        subst e9; subst e9'
        simp only [grp, List.cons_append, List.nil_append] at N9
        k_steps
        k_dflt (refine ⟨_, _, _, rfl, rfl, by k_asm, by k_asm, ?_, ?_⟩)
        · rw [sizeLine_eq]; omega
        rintro _ ⟨g9, rfl⟩
        refine' ord_rest ?z1 ?z2 ?z3 ?z4 ?z5 ?z6 ?z7 ?z8 ?_
        (case z1 => k_asm)
        (case z2 => exact hmo)
        (case z3 => exact rfl)
        (case z4 => exact rfl)
        (case z5 => exact rfl)
        (case z6 => intro _; rfl)
        (case z7 => intro _; rfl)
        (case z8 => decide)
        intro ys9 hi9 D9 h9 tk9 F9 N9 o9
        dsimp only
        k_steps
        rename (@LT.lt Nat _ acc _ ∧ _) => lD
        rw [octs_upto, head_eq hpe]
        refine hret _ (grp w acc d _ _ tk0 0 _ _ _ ++ ([(_, tupO [.str (Str.ofString "") _, .str (Txt.slice (textP (ps.take pp)) (some (k : Int)) none) _])] ++ (rd, ro) :: (c, oc) :: (La + 1, oca) :: rest)) _ _ _ (by k_asm) (fun q hq => (by k_asm : News _ _ _ _) q ((by simp only [grp, List.cons_append, List.nil_append]; walk_at "subs" : ∀ q ∈ _, q ∈ _) q hq))
          ⟨_, _, _, _, _, _, _, _, rfl, rfl, S9.re (by walk_at "subs") ?p1, ?p2, ?p3, ?p4, ?p5⟩ (by walk_at "bare")
        case p1 => exact Parts.cons ((S.hp.drop pp).mono (by walk_at "sub")) (.head _)
        case p2 => exact fun T hT => Parts.cons ((hT.drop pp).mono fun q hq => .tail _ hq) (.head _)
        case p3 =>
          rw [octs_cons, octs_empty, octs_from _ _ (by omega), List.nil_append]
          exact tail_eq hpe
        case p4 => simp only [List.length_cons, List.length_drop]; omega
        case p5 =>
          intro q hq
          rw [List.mem_singleton.mp hq]
          exact ⟨lD.1, lD.2.1, lD.2.2.1, lD.2.2.2.1, lD.2.2.2.2.2.1, lD.2.2.2.2.2.2.1, lD.2.2.2.2.2.2.2.1, lD.2.2.2.2.2.2.2.2⟩
      · rename AccSt _ _ _ _ _ _ _ _ => SS
        k_dflt (refine' tl_go5 ?k1 ?k2 ?k3 ?k4 ?k5 ?r1 ?r2 ?r3 ?r4 ?r5 (reset_acc (psn := ps.drop pp) ?kS ?hln ?hp ?hs) ?kk ?kd ?ku ?_)
        (case k1 => k_asm); (case k2 => k_asm); (case k3 => k_asm); (case k4 => k_asm); (case k5 => k_asm)
        (case r1 => walk_at "rm")
        (case r2 => walk_at "rm")
        (case r3 => walk_at "rm")
        (case r4 => walk_at "rm")
        (case r5 => walk_at "rm")
        (case kS => exact SS.re (by walk_at "subs") ((S.hp.take pp).mono (by walk_at "sub")))
        (case hln => (refine ⟨?_, ?_, ?_, ?_⟩ <;> (first | omega | k_ne)))
        (case kk => first | exact rfl | assumption)
        (case kd => ktr_room)
        (case ku => ktr_units)
        case hp => exact (S.hp.drop pp).mono (by walk_at "sub")
        case hs => exact S.hs.drop pp
        intro r9 led9 h9 gs9 tk9 F9 N9 P9 G9
        obtain ⟨e9, n9, tz9, e9', S9⟩ := P9
        subst e9; subst e9'
        simp only [grp, List.cons_append, List.nil_append] at N9
        k_steps
        k_dflt (refine ⟨_, _, _, rfl, rfl, by k_asm, by k_asm, ?_, ?_⟩)
        · rw [sizeLine_eq]; omega
        rintro _ ⟨g9, rfl⟩
        refine' ord_rest ?y1 ?y2 ?y3 ?y4 ?y5 ?y6 ?y7 ?y8 ?_
        (case y1 => k_asm)
        (case y2 => exact hmo)
        (case y3 => exact rfl)
        (case y4 => exact rfl)
        (case y5 => exact rfl)
        (case y6 => intro _; rfl)
        (case y7 => intro _; rfl)
        (case y8 => decide)
        intro ys9 hi9 D9 h9 tk9 F9 N9 o9
        dsimp only
        k_steps
        rw [octs_upto, head_eq hpe]
        refine hret _ (grp w acc d _ _ tk0 0 _ _ _ ++ ([] ++ (rd, ro) :: (c, oc) :: (La + 1, oca) :: rest)) _ _ _ (by k_asm) (fun q hq => (by k_asm : News _ _ _ _) q ((by simp only [grp, List.cons_append, List.nil_append]; walk_at "subs" : ∀ q ∈ _, q ∈ _) q hq))
          ⟨_, _, _, _, _, _, _, _, rfl, rfl, S9.re (by walk_at "subs") ?q1, ?q2, ?q3, ?q4, ?q5⟩ (by walk_at "bare")
        case q1 => exact (S.hp.drop pp).mono (by walk_at "sub")
        case q2 => exact fun T hT => hT.drop pp
        case q3 =>
          have ht := tail_eq hpe
          rw [List.drop_of_length_le (by rw [octs_len]; omega), List.nil_append] at ht
          exact ht
        case q4 => simp only [List.length_drop]; omega
        case q5 => exact fun q hq => nomatch hq
end

end Mine
end
section
open PySem PySem.W PyProof.Rows PySem.Calls
set_option maxRecDepth 100000
set_option maxHeartbeats 8000000
namespace Mine
theorem kw_LC16_0 : True := by
  k_with_none
  trivial
section
variable {w : World} {p : Program} {loose : List Str} {mean : ExcName → Option Value} {mg mb : Str → Option Value} {rest : List (Addr × Obj)}
/-- use of a contract whose ledger begins with one entry -/
theorem tl_one {K : Frag} {nd nu : Nat} {e1 : Addr × Obj} {c : Sem Value} {Post : Value → List (Addr × Obj) → Prop} {cur : List (Addr × Obj)} {dp un : Nat} {gd : Option (List Code)} {cn : Str} {cs : Scope} {a : Addr} {ccd : Value} {cl : List (Str × Addr)} {outer : List Env} {A₀ : Around} {base h₀ : Heap} {L : Addr} {m : Str → Option Value} {s : Shared} {Q E : Value → Shared → Prop}
    (B : Below A₀ base outer h₀) (F : Fr h₀ L s.heap m) (X : K.In h₀) (N : News h₀ L s.heap cur) (T : Top p loose mean mg mb h₀) (r1 : Rm e1 cur rest)
    (x : Tl w K p loose mean mg mb nd nu c (e1 :: rest) Post) (hk : cs.kind = .function) (hd : dp + nd < recursionLimit) (hu : un + nu < cLine)
    (ret : ∀ r led' h' gs' tk', Fr h₀ L h' m → News h₀ L h' led' → Post r led' → (AllBare s.gens → AllBare gs') → Q r ⟨h', gs', s.drawn, tk', s.os⟩) :
    wpAny (model PySem.Challenge.rw_ij0160_01.row.prog w) (ktrTop dp un gd cn cs L a ccd cl outer) c Q E s :=
  x _ _ _ _ _ _ _ _ _ _ _ _ _ _ _ _ _ B F X (fun q hq => N q (r1.sub q hq)) T hk hd hu ret
/-- use of a contract whose ledger begins with two entries -/
theorem tl_two {K : Frag} {nd nu : Nat} {e1 e2 : Addr × Obj} {c : Sem Value} {Post : Value → List (Addr × Obj) → Prop} {cur c1 : List (Addr × Obj)} {dp un : Nat} {gd : Option (List Code)} {cn : Str} {cs : Scope} {a : Addr} {ccd : Value} {cl : List (Str × Addr)} {outer : List Env} {A₀ : Around} {base h₀ : Heap} {L : Addr} {m : Str → Option Value} {s : Shared} {Q E : Value → Shared → Prop}
    (B : Below A₀ base outer h₀) (F : Fr h₀ L s.heap m) (X : K.In h₀) (N : News h₀ L s.heap cur) (T : Top p loose mean mg mb h₀) (r1 : Rm e1 cur c1) (r2 : Rm e2 c1 rest)
    (x : Tl w K p loose mean mg mb nd nu c (e1 :: e2 :: rest) Post) (hk : cs.kind = .function) (hd : dp + nd < recursionLimit) (hu : un + nu < cLine)
    (ret : ∀ r led' h' gs' tk', Fr h₀ L h' m → News h₀ L h' led' → Post r led' → (AllBare s.gens → AllBare gs') → Q r ⟨h', gs', s.drawn, tk', s.os⟩) :
    wpAny (model PySem.Challenge.rw_ij0160_01.row.prog w) (ktrTop dp un gd cn cs L a ccd cl outer) c Q E s :=
  x _ _ _ _ _ _ _ _ _ _ _ _ _ _ _ _ _ B F X (fun q hq => N q (r1.sub q ((List.mem_cons.mp hq).elim (fun e => e ▸ .head _) fun hq => .tail _ (r2.sub q hq)))) T hk hd hu ret
end
end Mine
end
section
open PySem PySem.W PyProof.Rows PySem.Calls PySem.Builtin
set_option maxRecDepth 100000
set_option maxHeartbeats 4000000
namespace Mine
theorem kw_LD1_0 : True := by
  k_with_none
  trivial
section
variable {M : Model} {A : Around} {E : Value → Shared → Prop} {s : Shared}
theorem run_latin (id : String) (b : Array UInt8) (hb : b.size ≤ 100000) {Q : Array Nat × Nat → Shared → Prop} (h : Q ((b.toList.map (·.toNat)).toArray, b.size) s) :
    wpAny M A (_codecs.runDecoder id _codecs.latin1Decoder none true b 0 []) Q E s := by
  unfold _codecs.runDecoder
  dsimp only
  refine wpAny_bind ?_
  rw [KPc.range_list]
  have key : ∀ (f : Nat → Nat × Array Nat × _codecs.Faults → Sem (ForInStep (Nat × Array Nat × _codecs.Faults))) (st : _codecs.Faults) (R : Nat × Array Nat × _codecs.Faults → Shared → Prop),
      (∀ i p out Q', p < b.size → out.size ≤ 100000 → (Q' (.yield (p + 1, out ++ #[(b.getD p 0).toNat], st)) s) → wpAny M A (f i (p, out, st)) Q' E s) →
      R (b.size, (b.toList.map (·.toNat)).toArray, st) s →
      ∀ k i p, p + k = b.size → wpAny M A (forIn (List.range' i k 1) (p, ((b.toList.take p).map (·.toNat)).toArray, st) f) R E s := by
    intro f st R hf hR k
    induction k with
    | zero =>
      intro i p hp
      have hp' : p = b.size := by omega
      subst hp'
      rw [List.take_of_length_le (by simp)]
      exact wpAny_pure hR
    | succ k ih =>
      intro i p hp
      have hlt : p < b.size := by omega
      rw [List.range'_succ]
      refine KPc.turn (hf i p _ _ hlt (by simp; omega) ?_)
      have e : ((b.toList.take p).map (·.toNat)).toArray ++ #[(b.getD p 0).toNat] = ((b.toList.take (p + 1)).map (·.toNat)).toArray := by
        rw [List.take_add_one, List.map_append]
        simp [hlt]
      dsimp only
      rw [e]
      exact ih (i + 1) (p + 1) (by omega)
  have e0 : (#[] : Array Nat) = ((b.toList.take 0).map (·.toNat)).toArray := by simp
  rw [e0]
  refine key _ _ _ ?_ ?_ b.size 0 0 (by omega)
  · intro i p out Q' hp ho hq
    dsimp only
    rw [if_neg (by rw [sizeLine_eq]; omega), if_neg (by omega)]
    exact wpAny_pure hq
  · dsimp only
    exact wpAny_pure h
theorem road_latin {id : String} {b : Array UInt8} : _codecs.decodeRoad id b (PySem.Str.ofString "latin-1") none [] = (_codecs.runDecoder id _codecs.latin1Decoder none true b 0 [] >>= fun r => mkStr ⟨r.1⟩) := by kernel_rfl
theorem args_dec2 (a b : Value) : argsOk "bytes.decode" ⟨[a, b], []⟩ := by unfold argsOk; kernel_rfl
theorem meets_text2 {b : Array UInt8} {t t1 t2 : Tok} {d : PySem.Str} (hb : b.size ≤ 100000) :
    Meets («_codecs.decode.text» ⟨[.bytes b t, .str (PySem.Str.ofString "latin-1") t1, .none, .str d t2], []⟩) (fun _ R s => R (.ok (.ret (.str ⟨(b.toList.map (·.toNat)).toArray⟩ s.toks))) { s with toks := s.toks + 1 }) := by
  refine .of_wp fun prog w A R s hS => ?_
  show wpAny _ _ (Bytes.bytesLike _ (.bytes b t) >>= fun r => _) _ _ s
  refine wpAny_bind (wpAny_of_eq KBd.like_eq ?_)
  refine wpAny_bind (wpAny_of_eq KBd.held_eq ?_)
  show wpAny _ _ (_codecs.decodeRoad _ b (PySem.Str.ofString "latin-1") none [] >>= fun v => _) _ _ s
  rw [road_latin]
  refine wpAny_bind (wpAny_bind (run_latin _ b hb ?_))
  refine wpAny_mkStr (wpAny_pure ⟨_, rfl, hS⟩) ?_
  show (b.toList.map (·.toNat)).toArray.size ≤ _
  rw [sizeLine_eq]; simp; omega
theorem dec_entry {c : UInt8} {cs : List UInt8} {t u : Tok} : «bytes.decode» ⟨[.bytes (c :: cs).toArray t, .str (PySem.Str.ofString "latin-1") u], []⟩ = (mkStr (PySem.Str.ofString "utf-8") >>= fun _ => mkStr (PySem.Str.ofString "latin-1") >>= fun e => mkStr (PySem.Str.ofString "bytes.decode") >>= fun d =>
    call (.builtin "_codecs.decode.text") [.bytes (c :: cs).toArray t, e, .none, d] >>= fun v => ret v) := by kernel_rfl
theorem dec_entry0 {t u : Tok} : «bytes.decode» ⟨[.bytes #[] t, .str (PySem.Str.ofString "latin-1") u], []⟩ = (rule "bytes.decode.empty" >>= fun _ => retStr PySem.Str.empty) := by kernel_rfl
theorem meets_dec {b : Array UInt8} {t u : Tok} (hb : b.size ≤ 100000) :
    Meets («bytes.decode» ⟨[.bytes b t, .str (PySem.Str.ofString "latin-1") u], []⟩) (fun _ R s => ∀ t' k, R (.ok (.ret (.str ⟨(b.toList.map (·.toNat)).toArray⟩ t'))) { s with toks := k }) := by
  refine .of_wp fun prog w A R s hS => ?_
  have e : b = b.toList.toArray := by simp
  cases hl : b.toList with
  | nil =>
    rw [hl] at e
    subst e
    rw [dec_entry0]
    refine wpAny_bind (wpAny_rule ?_)
    unfold retStr
    exact wpAny_bind (wpAny_mkStr (wpAny_pure ⟨_, rfl, hS _ _⟩) (by decide))
  | cons c cs =>
    rw [hl] at e
    subst e
    rw [dec_entry]
    refine wpAny_bind (wpAny_mkStr ?_ (by decide))
    refine wpAny_bind (wpAny_mkStr ?_ (by decide))
    refine wpAny_bind (wpAny_mkStr ?_ (by decide))
    exact wpAny_bind (call_function_meets KBd.kind_text KBd.plain_text KBd.entry_text (KBd.args_text _ _ _ _) (meets_text2 hb) (wpAny_pure ⟨_, rfl, hS _ _⟩))
end
section
variable {prog : Program} {w : World} {A : Around} {E : Value → Shared → Prop} {s : Shared}
theorem call_dec {b : Array UInt8} {t u : Tok} {Q : Value → Shared → Prop} (hb : b.size ≤ 100000) (h : ∀ t' k, Q (.str ⟨(b.toList.map (·.toNat)).toArray⟩ t') { s with toks := k }) :
    wpAny (model prog w) A (call (.builtin "bytes.decode") [.bytes b t, .str (PySem.Str.ofString "latin-1") u]) Q E s :=
  call_meets FB.slot_bytes_decode (typeIs_bytes _ _ _) FB.entry_bytes_decode (args_dec2 _ _) (meets_dec hb) h
end
end Mine
end
section
open PySem PySem.W PyProof.Rows PySem.Calls
set_option maxRecDepth 100000
set_option maxHeartbeats 8000000
namespace Mine
theorem kw_LD2_0 : True := by
  k_with_none
  trivial
def leNat (l : List Nat) : Nat := l.foldr (fun d a => a * 256 + d) 0
/-- the number of the octets, the last one the greatest, signed -/
def sVal (l : List Nat) : Int := (leNat l : Int) - if l.getLast?.any (fun x => decide (128 ≤ x)) then (256 : Int) ^ l.length else 0
theorem leNat_lt : ∀ (l : List Nat), (∀ x ∈ l, x < 256) → leNat l < 256 ^ l.length
  | [], _ => by decide
  | x :: r, h => by
    have h1 := leNat_lt r fun y hy => h y (.tail _ hy)
    have h2 := h x (.head _)
    show leNat r * 256 + x < 256 ^ (r.length + 1)
    rw [Nat.pow_succ]
    omega
section
variable {M : Model} {A : Around} {E : Value → Shared → Prop} {s : Shared}
theorem fold_le (l : List UInt8) : l.reverse.foldl (fun (acc : Nat) (b : UInt8) => acc * 256 + b.toNat) 0 = leNat (l.map (·.toNat)) := by
  rw [List.foldl_reverse]
  unfold leNat
  rw [List.foldr_map]
theorem grown_any {n : Int} {k : Nat} {Q : Value → Shared → Prop} (hk : k < 100000) (hn : n.natAbs < 2 ^ k) (h : Q (.int n s.toks) { s with toks := s.toks + 1 }) : wpAny M A (mkIntGrown n) Q E s := by
  unfold mkIntGrown
  have hl : ¬ (n.natAbs.log2 ≥ bitsLine) := by
    have hb : bitsLine = 134217728 := by first | rfl | decide
    by_cases hz : n.natAbs = 0
    · rw [hz, hb]; decide
    · have h1 := (Nat.log2_lt hz).mpr hn
      omega
  rw [if_neg hl]
  exact wpAny_mkInt h
theorem tree_signed {b : Array UInt8} {t u : Tok} {P : Fin → Shared → Prop} (hl : b.size ≤ 1000) (h : P (.done (.ret (.int (sVal (b.toList.map (·.toNat))) s.toks))) { s with toks := s.toks + 1 }) :
    wpAny M A (Builtin.«int.from_bytes» ⟨[.type "int", .bytes b t], [(PySem.Str.ofString "byteorder", .str (PySem.Str.ofString "little") u), (PySem.Str.ofString "signed", .bool true)]⟩) P E s := by
  unfold Builtin.«int.from_bytes»
  refine wpAny_bind (wpAny_of_eq (a := true) KFB.type_int ?_)
  refine KFB.if_not rfl ?_
  refine wpAny_bind (wpAny_of_eq (a := true) F.conv_sub_int ?_)
  refine KFB.if_not rfl ?_
  refine wpAny_bind (wpAny_of_eq (a := [some (.bytes b t), some (.str (PySem.Str.ofString "little") u), some (.bool true)]) (by kernel_rfl) ?_)
  refine wpAny_bind (wpAny_of_eq (a := PySem.Str.ofString "little") (by kernel_rfl) ?_)
  refine wpAny_bind (wpAny_of_eq (a := true) (by kernel_rfl) ?_)
  refine wpAny_bind (wpAny_of_eq (a := true) (by kernel_rfl) ?_)
  refine wpAny_bind (wpAny_of_eq (a := b) rfl ?_)
  have hlen : (b.toList.map (·.toNat)).length = b.size := by simp
  have hlt := leNat_lt (b.toList.map (·.toNat)) (fun x hx => by
    obtain ⟨y, _, rfl⟩ := List.mem_map.mp hx
    exact y.toNat_lt)
  rw [hlen] at hlt
  have e1 : (b.toList.reverse.foldl (fun (acc : Int) (b : UInt8) => acc * 256 + (b.toNat : Int)) ((0 : Nat) : Int)) = (leNat (b.toList.map (·.toNat)) : Int) := by
    rw [KFB.foldI_eq, fold_le]
  have e2 : (b.toList.reverse.head?.any (fun x => decide (x ≥ 128))) = (b.toList.map (·.toNat)).getLast?.any (fun x => decide (128 ≤ x)) := by
    rw [List.head?_reverse, List.getLast?_map]
    cases b.toList.getLast? with
    | none => rfl
    | some c => exact decide_eq_decide.mpr (by show (128 : UInt8) ≤ c ↔ 128 ≤ c.toNat; exact UInt8.le_iff_toNat_le)
  show wpAny _ _ (mkIntGrown (if (true && b.toList.reverse.head?.any (fun x => decide (x ≥ 128))) = true then (b.toList.reverse.foldl (fun (acc : Int) (b : UInt8) => acc * 256 + (b.toNat : Int)) ((0 : Nat) : Int)) - 256 ^ b.toList.reverse.length else (b.toList.reverse.foldl (fun (acc : Int) (b : UInt8) => acc * 256 + (b.toNat : Int)) ((0 : Nat) : Int))) >>= fun v => _) _ _ _
  rw [e1, e2, Bool.true_and, List.length_reverse, Array.length_toList]
  have e3 : (if (b.toList.map (·.toNat)).getLast?.any (fun x => decide (128 ≤ x)) = true then (leNat (b.toList.map (·.toNat)) : Int) - 256 ^ b.size else (leNat (b.toList.map (·.toNat)) : Int)) = sVal (b.toList.map (·.toNat)) := by
    unfold sVal
    rw [hlen]
    split <;> simp_all
  have e4 : (sVal (b.toList.map (·.toNat))).natAbs < 2 ^ (8 * b.size + 1) := by
    have e5 : (2 : Nat) ^ (8 * b.size + 1) = 2 * 256 ^ b.size := by rw [Nat.pow_succ, Nat.pow_mul, Nat.mul_comm]
    have e6 : ((256 : Int) ^ b.size) = ((256 ^ b.size : Nat) : Int) := by push_cast; rfl
    rw [e5]
    unfold sVal
    rw [hlen, e6]
    split <;> omega
  rw [e3]
  refine wpAny_bind (grown_any (k := 8 * b.size + 1) (by omega) e4 ?_)
  refine KFB.if_so (by decide +kernel) ?_
  exact wpAny_bind (wpAny_pure (wpAny_pure h))
theorem check_kw {b : Array UInt8} {t u : Tok} : checkBoundCall "int.from_bytes" ⟨[.type "int", .bytes b t], [(PySem.Str.ofString "byteorder", .str (PySem.Str.ofString "little") u), (PySem.Str.ofString "signed", .bool true)]⟩ = pure () := by first | kernel_rfl | rfl
end
section
variable {prog : Program} {w : World} {A : Around} {E : Value → Shared → Prop} {s : Shared}
theorem call_signed {x : Addr} {b : Array UInt8} {t u : Tok} {Q : Value → Shared → Prop} (ho : KFB.StandsAt x s.heap) (hl : b.size ≤ 1000)
    (h : Q (.int (sVal (b.toList.map (·.toNat))) s.toks) { s with toks := s.toks + 1 }) : wpAny (model prog w) A (call (.ref x) [.bytes b t] [(PySem.Str.ofString "byteorder", .str (PySem.Str.ofString "little") u), (PySem.Str.ofString "signed", .bool true)]) Q E s := by
  refine wpAny_call (codeAny_of_tree ?_)
  show wpAny _ A.in1 (callAny (.ref x) ⟨[.bytes b t], [(PySem.Str.ofString "byteorder", .str (PySem.Str.ofString "little") u), (PySem.Str.ofString "signed", .bool true)]⟩) _ _ s
  simp only [callAny]
  refine wpAny_bind (wpAny_load ho ?_)
  simp only [KFB.bound, show (Value.type "builtin_function_or_method" == Value.type "method" || Value.type "builtin_function_or_method" == Value.type "builtin_function_or_method" || Value.type "builtin_function_or_method" == Value.type "method-wrapper") = true by decide, if_true]
  refine KFB.if_so (by decide) ?_
  refine wpAny_bind (wpAny_of_eq (a := ()) check_kw ?_)
  refine wpAny_bind (wpAny_pure (wpAny_pure ?_))
  exact ⟨KFB.quiet_fb, codeAny_builtin KFB.entry_fb (tree_signed hl h)⟩
theorem callWith_signed {u : Addr} {pos p1 p2 p3 p4 p5 : Pos} {y : Str} {env : Env} {b : Array UInt8} {t : Tok} {h₀ : Heap} {L : Addr} {m : Str → Option Value} {Q : Value → Shared → Prop} (F : Fr h₀ L s.heap m) (hL : env.locals = L) (hv : m y = some (.bytes b t)) (hk : env.scope.kind = .function) (hx : env.kindOf y = some .local) (hy : (y == ("__debug__" : Str)) = false)
    (ho : KFB.StandsAt u s.heap) (hl : b.size ≤ 1000) (h : ∀ t' k, Q (.int (sVal (b.toList.map (·.toNat))) t') { s with toks := k }) :
    wpAny (model prog w) A (callWith pos (.ref u) [] (backTo pos (starEach [Expr.Name y p1] env)) (backToKw pos (keywordEach [⟨some (PySem.Str.ofString "byteorder"), .Constant (.str (PySem.Str.ofString "little")) 0 p2, p3⟩, ⟨some (PySem.Str.ofString "signed"), .Constant (.bool true) 0 p4, p5⟩] env))) Q E s := by
  have name : ∀ {Q' : Value → Shared → Prop}, Q' (.bytes b t) s → wpAny (model prog w) A (eval (.Name y p1) env) Q' E s := fun h' => nm_local (hL ▸ F.ns) hv h' hk hx hy
  have args : ∀ {Q' : Args → Shared → Prop}, (∀ t' k, Q' ⟨[.bytes b t], [(PySem.Str.ofString "byteorder", .str (PySem.Str.ofString "little") t'), (PySem.Str.ofString "signed", .bool true)]⟩ { s with toks := k }) →
      wpAny (model prog w) A (evalArgs (Value.ref u) true (backTo pos (starEach [Expr.Name y p1] env)) (backToKw pos (keywordEach [⟨some (PySem.Str.ofString "byteorder"), .Constant (.str (PySem.Str.ofString "little")) 0 p2, p3⟩, ⟨some (PySem.Str.ofString "signed"), .Constant (.bool true) 0 p4, p5⟩] env))) Q' E s := by
    intro Q' hQ
    unfold evalArgs
    refine wpAny_bind (args_cons (name (args_nil (wpAny_bind (wpAny_pure ?_)))))
    refine wpAny_holding ?_
    refine wpAny_bind (m := evalAll _) ?_
    show wpAny _ _ (do let v ← (do let v ← mkStr (PySem.Str.ofString "little"); standAt pos; pure v); let r ← holding [v] (do let v2 ← (do let v ← pure (Value.bool true); standAt pos; pure v); let r2 ← holding [v2] (pure []); pure (v2 :: r2)); pure (v :: r)) _ _ _
    refine wpAny_bind (wpAny_bind (wpAny_mkStr (wpAny_bind (wpAny_standAt (wpAny_pure ?_))) (by decide)))
    refine wpAny_bind (wpAny_holding (wpAny_bind (wpAny_bind (wpAny_pure (wpAny_bind (wpAny_standAt (wpAny_pure (wpAny_bind (wpAny_holding (wpAny_pure (wpAny_pure ?_)))))))))))
    refine wpAny_pure ?_
    exact wpAny_bind (wpAny_pure (wpAny_pure (hQ _ _)))
  unfold callWith
  refine wpAny_bind (wpAny_holding (args fun t' k => ?_))
  refine wpAny_bind (wpAny_standAt ?_)
  have hpl : ((backTo pos (starEach [Expr.Name y p1] env)).any (·.1) || (backToKw pos (keywordEach [⟨some (PySem.Str.ofString "byteorder"), .Constant (.str (PySem.Str.ofString "little")) 0 p2, p3⟩, ⟨some (PySem.Str.ofString "signed"), .Constant (.bool true) 0 p4, p5⟩] env)).any (·.1.isNone)) = false := by rfl
  simp only [hpl]
  refine wpAny_bind (m := keeperOf (.ref u)) ?_
  unfold keeperOf
  refine wpAny_bind (wpAny_load ho ?_)
  simp only [KFB.bound, show (Value.type "builtin_function_or_method" != Value.type "method") = true by decide, show (Value.type "builtin_function_or_method" == Value.type "builtin_function_or_method" || Value.type "builtin_function_or_method" == Value.type "method-wrapper") = true by decide, if_true]
  refine wpAny_pure ?_
  exact wpAny_bind (call_signed ho hl (wpAny_bind (wpAny_holding (wpAny_point (wpAny_pure (h _ _))))))
end
end Mine
end
section
open PySem PySem.W PyProof.Rows PySem.Calls
set_option maxRecDepth 100000
set_option maxHeartbeats 8000000
namespace Mine
theorem kw_LD3_0 : True := by
  k_with_none
  trivial
section
variable {w : World} {p : Program} {loose : List Str} {mean : ExcName → Option Value} {mg mb : Str → Option Value}
def RdPost (w : World) (o : Addr → Value → Value → Addr → Obj) (acc d : Addr) (ps : List (Str × Str)) (k : Nat) (tk0 : Tok) (sd st rd c La : Addr) (doc ctv : Value) (tks : Tok) (fd : FuncData) (sl : Array (Option Value)) (oc oca : Obj) (rest : List (Addr × Obj)) (r : Value) (led : List (Addr × Obj)) : Prop :=
  ∃ t itn n' tz t1' t2' psn new, r = .bytes (byteArr (((octs (textP ps)).take k).map Int.ofNat)) t ∧ led = grp w acc d itn n' tk0 0 tz t1' t2' ++ (strm w o sd st rd c La doc ctv tks fd sl oc oca ++ (new ++ rest)) ∧
    AccSt acc d itn 0 t1' t2' psn (strm w o sd st rd c La doc ctv tks fd sl oc oca ++ (new ++ rest)) ∧ octs (textP psn) = (octs (textP ps)).drop k ∧ psn.length ≤ ps.length
/-- the contract of the closure `read` -/
def Reads (w : World) (p : Program) (loose : List Str) (mean : ExcName → Option Value) (mg mb : Str → Option Value) (o : Addr → Value → Value → Addr → Obj) : Prop :=
  ∀ {acc d : Addr} {items : Array Value} {n : Nat} {tk0 tkz : Tok} {z : Int} {ps : List (Str × Str)} {t1 t2 : Array Value} {rest : List (Addr × Obj)} {sd st rd c La : Addr} {doc ctv : Value} {tks : Tok} {fd : FuncData} {sl : Array (Option Value)} {oc oca : Obj} {vs : Array Value} {t tk : Tok} {k : Nat},
    AccSt acc d items z t1 t2 ps (strm w o sd st rd c La doc ctv tks fd sl oc oca ++ rest) → StrmSt acc sd st rd c La oc oca vs t → k ≤ 1000 → lenP ps ≤ 1000 → (∀ o ∈ octs (textP ps), o < 256) →
      Tl w (Mine.hd.heap_1 w.params) p loose mean mg mb 100 1000 (call (.ref rd) [.int k tk]) (grp w acc d items n tk0 z tkz t1 t2 ++ (strm w o sd st rd c La doc ctv tks fd sl oc oca ++ rest))
        (RdPost w o acc d ps k tk0 sd st rd c La doc ctv tks fd sl oc oca rest)
def Makes (w : World) (p : Program) (loose : List Str) (mean : ExcName → Option Value) (mg mb : Str → Option Value) (o : Addr → Value → Value → Addr → Obj) : Prop :=
  ∀ {acc : Addr} {rest : List (Addr × Obj)}, OwnOff rest [141] → Tl w (Mine.hd.heap_1 w.params) p loose mean mg mb 20 100 (call (.ref 146) [.ref acc]) ((141, tabObj #[]) :: rest)
      (fun r led => ∃ sd st rd c La doc ctv tk0 fd sl oc oca vs t t3, r = .ref st ∧ led = strm w o sd st rd c La doc ctv tk0 fd sl oc oca ++ (141, tabObj t3) :: rest ∧ StrmSt acc sd st rd c La oc oca vs t ∧ (∀ q ∈ (141, tabObj t3) :: rest, q.1 < La))
def IsFns (o : Addr → Value → Value → Addr → Obj) : Prop := ∀ (c : Addr) (doc ctv : Value) (La : Addr), ∃ fd, (o c doc ctv La).data = .func fd
theorem stream_both : ∃ o, Makes w p loose mean mg mb o ∧ IsFns o ∧ Reads w p loose mean mg mb o := by
  obtain ⟨o, h1, h2, h3⟩ := stream_ex (w := w) (p := p) (loose := loose) (mean := mean) (mg := mg) (mb := mb)
  refine ⟨o, fun {_ _} h => h1 h, h3, ?_⟩
  intro acc d items n tk0 tkz z ps t1 t2 rest sd st rd c La doc ctv tks fd sl oc oca vs t tk k S D hk hl ho
  have hrd : ∀ q : Addr × Obj, q ∈ [(rd, o c doc ctv La), (c, oc), (La + 1, oca)] → q ∈ strm w o sd st rd c La doc ctv tks fd sl oc oca ++ rest := by
    intro q hq
    simp only [strm, List.mem_cons, List.not_mem_nil, or_false, List.cons_append, List.nil_append] at hq ⊢
    rcases hq with h | h | h <;> simp [h]
  have hne : ∀ (a : Addr) (ob : Obj), (a, ob) ∈ strm w o sd st rd c La doc ctv tks fd sl oc oca ++ rest → @Ne Nat a acc ∧ @Ne Nat a d ∧ @Ne Nat a 62 ∧ @Ne Nat a 69 := fun a ob h => ⟨S.o1 _ h, S.o2 _ h, S.o3 _ h, S.o4 _ h⟩
  have X := h2 (ro := o c doc ctv La) (doc := doc) (ctv := ctv) (n := n) (tk0 := tk0) (tkz := tkz) (tk := tk) (k := k) rfl S D (hne _ _ (hrd _ (.head _))) (hne _ _ (hrd _ (.tail _ (.head _)))) (hne _ _ (hrd _ (.tail _ (.tail _ (.head _))))) hk hl ho
  refine X.perm (fun q hq => ?_) ?_
  · rcases List.mem_append.mp hq with hq | hq
    · exact List.mem_append_left _ hq
    · refine List.mem_append_right _ ?_
      simp only [List.mem_cons] at hq
      rcases hq with h | h | h | h
      · exact hrd q (by simp [h])
      · exact hrd q (by simp [h])
      · exact hrd q (by simp [h])
      · exact h
  · rintro r l ⟨t', itn, n', tz, t1', t2', psn, new, e1, e2, S', P', e3, e4, _⟩
    have sub : ∀ q ∈ strm w o sd st rd c La doc ctv tks fd sl oc oca ++ (new ++ rest), q ∈ new ++ (rd, o c doc ctv La) :: (c, oc) :: (La + 1, oca) :: (strm w o sd st rd c La doc ctv tks fd sl oc oca ++ rest) := by
      intro q hq
      simp only [List.mem_append, List.mem_cons] at hq ⊢
      rcases hq with h | h | h
      · exact .inr (.inr (.inr (.inr (.inl h))))
      · exact .inl h
      · exact .inr (.inr (.inr (.inr (.inr h))))
    refine ⟨grp w acc d itn n' tk0 0 tz t1' t2' ++ (strm w o sd st rd c La doc ctv tks fd sl oc oca ++ (new ++ rest)), fun q hq => ?_, t', itn, n', tz, t1', t2', psn, new, e1, rfl, S'.re sub ((P' _ S.hp).mono fun q hq => ?_), e3, e4⟩
    · subst e2
      rcases List.mem_append.mp hq with hq | hq
      · exact List.mem_append_left _ hq
      · exact List.mem_append_right _ (sub q hq)
    · simp only [List.mem_append] at hq ⊢
      rcases hq with h | h | h
      · exact .inr (.inl h)
      · exact .inl h
      · exact .inr (.inr h)
end
/-- use of a contract over an accumulator's and a stream's entries -/
theorem tl_go9 {w : World} {p : Program} {loose : List Str} {mean : ExcName → Option Value} {mg mb : Str → Option Value} {e1 e2 e3 e4 e5 e6 e7 e8 e9 : Addr × Obj} {rest : List (Addr × Obj)} {K : Frag} {nd nu : Nat} {c : Sem Value} {Post : Value → List (Addr × Obj) → Prop} {cur c1 c2 c3 c4 c5 c6 c7 c8 : List (Addr × Obj)} {dp un : Nat} {gd : Option (List Code)} {cn : Str} {cs : Scope} {a : Addr} {ccd : Value} {cl : List (Str × Addr)} {outer : List Env} {A₀ : Around} {base h₀ : Heap} {L : Addr} {m : Str → Option Value} {s : Shared} {Q E : Value → Shared → Prop}
    (B : Below A₀ base outer h₀) (F : Fr h₀ L s.heap m) (X : K.In h₀) (N : News h₀ L s.heap cur) (T : Top p loose mean mg mb h₀) (r1 : Rm e1 cur c1) (r2 : Rm e2 c1 c2) (r3 : Rm e3 c2 c3) (r4 : Rm e4 c3 c4) (r5 : Rm e5 c4 c5) (r6 : Rm e6 c5 c6) (r7 : Rm e7 c6 c7) (r8 : Rm e8 c7 c8) (r9 : Rm e9 c8 rest)
    (x : Tl w K p loose mean mg mb nd nu c (e1 :: e2 :: e3 :: e4 :: e5 :: e6 :: e7 :: e8 :: e9 :: rest) Post) (hk : cs.kind = .function) (hd : dp + nd < recursionLimit) (hu : un + nu < cLine)
    (ret : ∀ r led' h' gs' tk', Fr h₀ L h' m → News h₀ L h' led' → Post r led' → (AllBare s.gens → AllBare gs') → Q r ⟨h', gs', s.drawn, tk', s.os⟩) :
    wpAny (model PySem.Challenge.rw_ij0160_01.row.prog w) (ktrTop dp un gd cn cs L a ccd cl outer) c Q E s := by
  have cons : ∀ {e : Addr × Obj} {l c : List (Addr × Obj)}, Rm e c l → ∀ l2, (∀ q ∈ l2, q ∈ l) → ∀ q ∈ e :: l2, q ∈ c := fun r l2 h q hq => r.sub q ((List.mem_cons.mp hq).elim (fun e => e ▸ .head _) fun hq => .tail _ (h q hq))
  refine x _ _ _ _ _ _ _ _ _ _ _ _ _ _ _ _ _ B F X (fun q hq => N q (cons r1 _ (cons r2 _ (cons r3 _ (cons r4 _ (cons r5 _ (cons r6 _ (cons r7 _ (cons r8 _ (cons r9 _ fun q hq => hq)))))))) q hq)) T hk hd hu ret
end Mine
end
section
open PySem PySem.W PyProof.Rows PySem.Calls
set_option maxRecDepth 100000
set_option maxHeartbeats 8000000
namespace Mine
theorem kw_LD4_0 : True := by
  k_with_none
  trivial
/-- a frame's own object after its slots have turned -/
theorem fr_turned {h₀ g g' h : Heap} {L L' : Addr} {m m' : Str → Option Value} (F : Fr h₀ L g m) (T : KtsTurn [L] g g') (F' : Fr g' L' h m') : Fr h₀ L h m := by
  obtain ⟨o, es, ep, ho, hd, hk, hf⟩ := F.ns
  obtain ⟨sl, hs⟩ := T.frame L o ho (.head _)
  refine ⟨⟨_, es, ep, F'.keep _ _ hs, hd, hk, hf⟩, fun b o e => ?_, F.above⟩
  refine F'.keep b o (T.other b o (F.keep b o e) fun hm => ?_)
  rw [List.mem_singleton.mp hm] at e
  exact absurd (Heap.lt_size e) (Nat.not_lt.mpr F.above)
theorem news_turned {h₀ g g' h : Heap} {L L' : Addr} {m : Str → Option Value} {news : List (Addr × Obj)} (F : Fr h₀ L g m) (T : KtsTurn [L] g g') (N : News g' L' h news) : News h₀ L h news := by
  intro p hp
  have hn := (N p hp).2.2
  refine ⟨(N p hp).1, fun q => ?_, ?_⟩
  · obtain ⟨o, es, ep, ho, _⟩ := F.ns
    obtain ⟨sl, hs⟩ := T.frame L o ho (.head _)
    rw [q, hs] at hn
    cases hn
  · cases e : h₀.get? p.1 with
    | none => rfl
    | some o =>
      obtain ⟨sl, hs⟩ := T.up (F.keep _ _ e)
      rw [hs] at hn
      cases hn
section
variable {prog : Program} {w : World} {A₀ A : Around} {s : Shared} {base h₀ : Heap} {env : Env} {L : Addr} {m : Str → Option Value} {news : List (Addr × Obj)} {K : Frag} {p : Program} {loose : List Str} {mean : ExcName → Option Value} {mg mb : Str → Option Value}
  {R : Result → Shared → Prop} {name qual : Str} {params : Arguments} {body : List Stmt} {scope : Scope} {dV kV doc pm cdv ct oc : Value} {an od : Option Addr} {osl : Array (Option Value)} {f : Addr} {args : Args} {binds : List (Str × Value)}
/-- entry into a def that catches, out of a frame that may hold cells -/
theorem enter_try (B : Below A₀ base [] h₀) (F : Fr h₀ L s.heap m) (X₀ : K.In h₀) (N : News h₀ L s.heap news) (T : Top p loose mean mg mb h₀) (hA : A.frames = some [env]) (hf : env.frame = some L) (hke : env.scope.kind = .function)
    (ho : K.lookup f = some ⟨oc, od, .func (fnOf name qual params body scope dV kV doc pm an cdv ct), osl⟩) (hcd : codeIn K cdv qual = true) (hroom : A.depth < recursionLimit)
    (hbind : BindsTo s (fnOf name qual params body scope dV kV doc pm an cdv ct) args binds) (hloc : ∀ y ∈ binds, scope.names.lookup y.1 = some .local)
    (h : ∀ g L' h₁, Fr h₀ L g m → Fr g L' h₁ (fun y => binds.reverse.lookup y) → News g L' h₁ news → Below A base [env] g → K.In g → Top p loose mean mg mb g → KtsDicts ([env].filterMap (·.frame)) g →
      wpAny (model prog w) (A.deeper (envOf qual scope L' f cdv)) (execs body (envOf qual scope L' f cdv))
        (fun fl s' => LeaveS0 ([env].filterMap (·.frame)) h₀ L m g R (match fl with | .ret v => v | _ => .none) s')
        (fun e s' => wpAny (model prog w) (A.deeper (envOf qual scope L' f cdv)) (leaving (envOf qual scope L' f cdv) e) (fun _ s'' => R (.error e) s'') (fun e' s'' => R (.error e') s'') s')
        { s with heap := h₁, toks := s.toks + binds.length })
    (hco : scope.isCoroutine = false) (hgen : scope.isGenerator = false) (hk : scope.kind = .function)
    (hcell : ∀ x ∈ scope.names, x.2 ≠ .cell) : codeAny (model prog w) A (.call (.ref f) args) R s := by
  obtain ⟨FG, BG, st, _⟩ := groundX (R := R) B F N hA hf hke
  have hfs : [env].filterMap (·.frame) = [L] := by simp [hf]
  have X := X₀.keeps F.keep
  refine codeAny_call_def (fd := fnOf name qual params body scope dV kV doc pm an cdv ct) (body := body) (binds := binds) hroom (X _ _ ho) rfl (T.nolimit.keeps F.keep) (codeRec_of X hcd) rfl hbind hcell hloc (fun h₁ hns hk₁ => ?_) hco hgen hk
  rw [hfs] at h
  refine wpAny_mono (h _ s.heap.objs.size h₁ FG ⟨hns, fun b o e => hk₁ b o (of_hideAll _ e), Nat.le_of_eq (hideAll_size _ _)⟩
    (fun p hp => ⟨hk₁ _ _ (N p hp).1, Nat.ne_of_lt (Heap.lt_size (N p hp).1), hideAll_none _ (List.mem_map_of_mem hp)⟩) BG (X₀.keeps st) (T.keeps st) (fun b hb => by
      rw [List.mem_singleton.mp hb]
      obtain ⟨o, es, ep, ho', hd', _⟩ := FG.ns
      exact ⟨o, es, ep, ho', hd'⟩)) (fun fl s' hl => ?_) fun _ _ y => y
  obtain ⟨g', L', m', news', T', F', N', k⟩ := hl
  exact k (fr_turned FG T' F') (news_turned FG T' N')
end
def FnAt (a : Addr) (ob : Obj) (h : Heap) : Prop := h.get? a = some ob
section
variable {M : Model} {A : Around} {E : Value → Shared → Prop} {s : Shared} {rd : Addr} {ob : Obj} {pos : Pos} {env : Env} {e : Expr} {rest : List Expr} {Q : Value → Shared → Prop} {h₀ : Heap} {L : Addr} {news : List (Addr × Obj)}
theorem cw_read (_N : News h₀ L s.heap news) (_hm : (rd, ob) ∈ news) (hd : ∃ fd, ob.data = .func fd)
    (h : wpAny M A (spliced (backTo pos (starEach (e :: rest) env))) (fun vs s₁ => FnAt rd ob s₁.heap ∧ wpAny M A (call (.ref rd) vs) Q E s₁) E s)
    (he : starEach (e :: rest) env = (false, eval e env) :: starEach rest env := by rfl) :
    wpAny M A (callWith pos (.ref rd) [] (backTo pos (starEach (e :: rest) env)) []) Q E s := by
  obtain ⟨fd, hd⟩ := hd
  refine callWith_function (o := ob) (fd := fd) ?_
  rw [he] at h ⊢
  refine evalArgs_plain (wpAny_mono h (fun vs s₁ h₁ => ?_) fun _ _ z => z)
  exact ⟨⟨h₁.1, hd⟩, h₁.2⟩
theorem fn_at {h : Heap} (N : News h₀ L h news) (hm : (rd, ob) ∈ news) : FnAt rd ob h := N.get hm
end
end Mine
end
section
open PySem PySem.W PyProof.Rows PySem.Calls
set_option maxRecDepth 100000
set_option maxHeartbeats 40000000
namespace Mine
theorem Reads.int {w : World} {p : Program} {loose : List Str} {mean : ExcName → Option Value} {mg mb : Str → Option Value} {o : Addr → Value → Value → Addr → Obj} (hR : Reads w p loose mean mg mb o)
    {acc d : Addr} {items : Array Value} {n : Nat} {tk0 tkz : Tok} {z : Int} {ps : List (Str × Str)} {t1 t2 : Array Value} {rest : List (Addr × Obj)} {sd st rd c La : Addr} {doc ctv : Value} {tks : Tok} {fd : FuncData} {sl : Array (Option Value)} {oc oca : Obj} {vs : Array Value} {t tk : Tok} {i : Int}
    (S : AccSt acc d items z t1 t2 ps (strm w o sd st rd c La doc ctv tks fd sl oc oca ++ rest)) (D : StrmSt acc sd st rd c La oc oca vs t) (h0 : 0 ≤ i) (hk : i ≤ 1000) (hl : lenP ps ≤ 1000) (ho : ∀ o ∈ octs (textP ps), o < 256) :
      Tl w (Mine.hd.heap_1 w.params) p loose mean mg mb 100 1000 (call (.ref rd) [.int i tk]) (grp w acc d items n tk0 z tkz t1 t2 ++ (strm w o sd st rd c La doc ctv tks fd sl oc oca ++ rest))
        (RdPost w o acc d ps i.toNat tk0 sd st rd c La doc ctv tks fd sl oc oca rest) := by
  have h := hR (n := n) (tk0 := tk0) (tkz := tkz) (tk := tk) (k := i.toNat) S D (by omega) hl ho
  rw [Int.toNat_of_nonneg h0] at h
  exact h
def RdPost2 (w : World) (o : Addr → Value → Value → Addr → Obj) (acc d : Addr) (us : List Nat) (np : Nat) (i : Int) (tk0 : Tok) (sd st rd c La : Addr) (doc ctv : Value) (tks : Tok) (fd : FuncData) (sl : Array (Option Value)) (oc oca : Obj) (rest : List (Addr × Obj)) (r : Value) (led : List (Addr × Obj)) : Prop :=
  ∃ b t itn n' tz t1' t2' psn new, (r = .bytes b t ∧ KBw.bInts b = (us.take i.toNat).map Int.ofNat) ∧ led = grp w acc d itn n' tk0 0 tz t1' t2' ++ (strm w o sd st rd c La doc ctv tks fd sl oc oca ++ (new ++ rest)) ∧
    AccSt acc d itn 0 t1' t2' psn (strm w o sd st rd c La doc ctv tks fd sl oc oca ++ (new ++ rest)) ∧ octs (textP psn) = us.drop i.toNat ∧ psn.length ≤ np
theorem Reads.us {w : World} {p : Program} {loose : List Str} {mean : ExcName → Option Value} {mg mb : Str → Option Value} {o : Addr → Value → Value → Addr → Obj} (hR : Reads w p loose mean mg mb o)
    {acc d : Addr} {items : Array Value} {n : Nat} {tk0 tkz : Tok} {z : Int} {ps : List (Str × Str)} {t1 t2 : Array Value} {rest : List (Addr × Obj)} {sd st rd c La : Addr} {doc ctv : Value} {tks : Tok} {fd : FuncData} {sl : Array (Option Value)} {oc oca : Obj} {vs : Array Value} {t tk : Tok} {i : Int} {us : List Nat} {np : Nat}
    (S : AccSt acc d items z t1 t2 ps (strm w o sd st rd c La doc ctv tks fd sl oc oca ++ rest)) (D : StrmSt acc sd st rd c La oc oca vs t) (hu : octs (textP ps) = us) (hp : ps.length ≤ np) (h0 : 0 ≤ i) (hk : i ≤ 1000) (hl : us.length ≤ 1000) (ho : ∀ o ∈ us, o < 256) :
      Tl w (Mine.hd.heap_1 w.params) p loose mean mg mb 100 1000 (call (.ref rd) [.int i tk]) ((acc, accO 100 d items n) :: (d, szD w tk0 z tkz) :: (62, tabObj t1) :: (69, tabObj t2) :: (sd, dictOf [⟨PyData.keyHash w.params (Str.ofString "read"), .str (Str.ofString "read") tks, .ref rd⟩] 1) :: (st, fnO (some sd) fd sl) :: (rd, o c doc ctv La) :: (c, oc) :: (La + 1, oca) :: rest)
        (RdPost2 w o acc d us np i tk0 sd st rd c La doc ctv tks fd sl oc oca rest) := by
  subst hu
  refine (Reads.int hR S D h0 hk (by rw [lenP_octs]; omega) ho).perm (fun q hq => hq) ?_
  rintro r l ⟨t, itn, n', tz, t1', t2', psn, new, e1, e2, e3, e4, e5⟩
  refine ⟨l, fun q hq => hq, _, t, itn, n', tz, t1', t2', psn, new, ⟨e1, KBa.ints_make fun k hk => ?_⟩, e2, e3, e4, Nat.le_trans e5 hp⟩
  obtain ⟨y, hy, rfl⟩ := List.mem_map.mp hk
  have := ho y (List.mem_of_mem_take hy)
  show 0 ≤ (y : Int) ∧ (y : Int) < 256
  omega
inductive Told
  | int (n : Int) | bytes (l : List Nat) | str (l : List Nat) | err (s : Str)
def msgP (kind : Nat) (n m : Nat) : Str := Str.ofString "expected " ++ Str.ofString (toString (n : Int)) ++ Str.ofString (if kind = 1 then " bytes in a bytes1, but only " else " bytes in a string1, but only ") ++ Str.ofString (toString (m : Int)) ++ Str.ofString " remain"
def spec (kind : Nat) : List Nat → Told × Nat
  | [] => (.err (Str.ofString "not enough data in stream to read uint1"), 0)
  | n :: tl => if kind = 0 then (.int n, 1) else
    if (tl.take n).length < n then (.err (if kind = 3 then Str.ofString "not enough data in stream to read long1" else msgP kind n (tl.take n).length), tl.length + 1) else
    (if kind = 1 then .bytes (tl.take n) else if kind = 2 then .str (tl.take n) else .int (sVal (tl.take n)), n + 1)
theorem spec_ok {k u1 : Nat} {us : List Nat} (hk : k ≠ 0) (h : u1 ≤ us.length) : spec k (u1 :: us) = (if k = 1 then .bytes (us.take u1) else if k = 2 then .str (us.take u1) else .int (sVal (us.take u1)), u1 + 1) := by
  show (if k = 0 then _ else _) = _
  rw [if_neg hk, if_neg (by rw [List.length_take]; omega)]
theorem spec_short {k u1 : Nat} {us : List Nat} (hk : k ≠ 0) (h : us.length < u1) : spec k (u1 :: us) = (.err (if k = 3 then Str.ofString "not enough data in stream to read long1" else msgP k u1 us.length), us.length + 1) := by
  show (if k = 0 then _ else _) = _
  rw [if_neg hk, if_pos (by rw [List.length_take]; omega), List.length_take, Nat.min_eq_right (Nat.le_of_lt h)]
theorem drop_short {u1 : Nat} {us : List Nat} (h : us.length < u1) : us.drop u1 = (u1 :: us).drop (us.length + 1) := by
  rw [List.drop_succ_cons, List.drop_of_length_le (Nat.le_of_lt h), List.drop_of_length_le (Nat.le_refl _)]
theorem toNats {b : Array UInt8} {l : List Nat} (h : KBw.bInts b = l.map Int.ofNat) : b.toList.map (·.toNat) = l := by
  have e : (b.toList.map (·.toNat)).map Int.ofNat = l.map Int.ofNat := by rw [← h, List.map_map]; rfl
  have e2 := congrArg (List.map Int.toNat) e
  simpa [List.map_map, Function.comp_def] using e2
theorem octs_bytes {b : Array UInt8} {l : List Nat} (h : KBw.bInts b = l.map Int.ofNat) : octs ⟨(b.toList.map (·.toNat)).toArray⟩ = l := by
  rw [← toNats h]; simp [octs]
def Told.Vs : Told → List Value → Prop
  | .int n, vs => ∃ t, vs = [.int n t]
  | .bytes l, vs => ∃ b t, vs = [.bytes b t] ∧ KBw.bInts b = l.map Int.ofNat
  | .str l, vs => ∃ x t, vs = [.str x t] ∧ octs x = l
  | .err x, vs => ∃ t, vs = [.none, .str x t]
section
variable {w : World} {p : Program} {loose : List Str} {mean : ExcName → Option Value} {mg mb : Str → Option Value}
abbrev ledL (w : World) (o : Addr → Value → Value → Addr → Obj) (acc d : Addr) (items : Array Value) (n : Nat) (tk0 : Tok) (z : Int) (tkz : Tok) (t1 t2 : Array Value) (sd st rd c La : Addr) (doc ctv : Value) (tks : Tok) (fd : FuncData) (sl : Array (Option Value)) (oc oca : Obj) (rest : List (Addr × Obj)) : List (Addr × Obj) :=
  (acc, accO 100 d items n) :: (d, szD w tk0 z tkz) :: (62, tabObj t1) :: (69, tabObj t2) :: (sd, dictOf [⟨PyData.keyHash w.params (Str.ofString "read"), .str (Str.ofString "read") tks, .ref rd⟩] 1) :: (st, fnO (some sd) fd sl) :: (rd, o c doc ctv La) :: (c, oc) :: (La + 1, oca) :: rest
def TryPost (w : World) (o : Addr → Value → Value → Addr → Obj) (kind : Nat) (acc d : Addr) (us : List Nat) (np : Nat) (tk0 : Tok) (sd st rd c La : Addr) (doc ctv : Value) (tks : Tok) (fd : FuncData) (sl : Array (Option Value)) (oc oca : Obj) (rest : List (Addr × Obj)) (r : Value) (led : List (Addr × Obj)) : Prop :=
  ∃ (l : Addr) (vs : List Value) (itn : Array Value) (n' : Nat) (tz : Tok) (t1' t2' : Array Value) (psn : List (Str × Str)) (new : List (Addr × Obj)), r = .ref l ∧ (spec kind us).1.Vs vs ∧ led = (l, W.listOf vs.toArray 0) :: ledL w o acc d itn n' tk0 0 tz t1' t2' sd st rd c La doc ctv tks fd sl oc oca (new ++ rest) ∧
    AccSt acc d itn 0 t1' t2' psn (strm w o sd st rd c La doc ctv tks fd sl oc oca ++ (new ++ rest)) ∧ octs (textP psn) = us.drop (spec kind us).2 ∧ psn.length ≤ np ∧
    @Ne Nat l acc ∧ @Ne Nat l d ∧ @Ne Nat l 62 ∧ @Ne Nat l 69
end
/-- a contract of a call out of the law's own frame -/
def Tl0 (w : World) (K : Frag) (p : Program) (loose : List Str) (mean : ExcName → Option Value) (mg mb : Str → Option Value) (c : Sem Value) (led : List (Addr × Obj)) (Post : Value → List (Addr × Obj) → Prop) : Prop :=
  ∀ (cn : Str) (cs : Scope) (a : Addr) (ccd : Value) (cl : List (Str × Addr)) (base h₀ : Heap) (L : Addr) (m : Str → Option Value) (s : Shared)
    (Q E : Value → Shared → Prop),
    Below callerA base [] h₀ → Fr h₀ L s.heap m → K.In h₀ → News h₀ L s.heap led → Top p loose mean mg mb h₀ → K.In base → Top p loose mean mg mb base → cs.kind = .function →
    (∀ r led' h' gs' tk', Fr h₀ L h' m → News h₀ L h' led' → Post r led' → (AllBare s.gens → AllBare gs') → Q r ⟨h', gs', s.drawn, tk', s.os⟩) →
    wpAny (model PySem.Challenge.rw_ij0160_01.row.prog w) (callerA.deeper (envX cn cs L a ccd cl)) c Q E s
theorem kw_LD5_1 : True := by
  k_with_none
  k_with "m rm" => first | with_reducible exact Rm.head | exact Rm.tail (by walk_at "rm")
  k_with "m acc st" => first | assumption | exact AccSt.cons (by walk_at "acc st") (by first | omega | k_ne) (by first | omega | k_ne) (by first | omega | k_ne) (by first | omega | k_ne)
  k_with "m getMethod ref" => (k_here; k_dflt (refine lmeth_fn (by k_asm) (by k_mem) (by k_mem) rfl ?_))
  k_with "m callWith ref" => (k_here; (with_reducible show wpAny _ _ (callWith _ (Value.ref _) [] (backTo _ (starEach (_ :: _) _)) []) _ _ _); k_dflt (refine cw_read (by k_asm) (by k_mem) ((by assumption : IsFns _) _ _ _ _) ?_))
  k_with "m And" => ((with_reducible show FnAt _ _ _ ∧ _); k_dflt (refine ⟨fn_at (by k_asm) (by k_mem), ?_⟩); (try dsimp only [List.nil_append, List.cons_append]))
  k_with "m call ref" => (k_here; (try dsimp only [List.nil_append, List.cons_append]); (with_reducible show wpAny _ _ (call (Value.ref _) [Value.int _ _]) _ _ _); k_dflt (refine' tl_go9 ?k1ρ ?k2ρ ?k3ρ ?k4ρ ?k5ρ ?r1ρ ?r2ρ ?r3ρ ?r4ρ ?r5ρ ?r6ρ ?r7ρ ?r8ρ ?r9ρ (Reads.us ?hRρ ?kSρ ?kDρ ?huρ ?hpρ ?h0ρ ?h1ρ ?hlρ ?hoρ) ?kkρ ?kdρ ?kuρ ?_); (case k1ρ => k_asm); (case k2ρ => k_asm); (case k3ρ => k_asm); (case k4ρ => k_asm); (case k5ρ => k_asm); (case hRρ => assumption); (case kDρ => assumption); (case r1ρ => walk_at "rm"); (case r2ρ => walk_at "rm"); (case r3ρ => walk_at "rm"); (case r4ρ => walk_at "rm"); (case r5ρ => walk_at "rm"); (case r6ρ => walk_at "rm"); (case r7ρ => walk_at "rm"); (case r8ρ => walk_at "rm"); (case r9ρ => walk_at "rm"); (case kSρ => assumption); (case huρ => assumption); (case hpρ => assumption); (case h0ρ => omega); (case h1ρ => omega); (case hlρ => first | assumption | walk_at "us len"); (case hoρ => first | assumption | walk_at "us lt"); (case kkρ => first | exact rfl | assumption); (case kdρ => ktr_room); (case kuρ => ktr_units); intro r9ρ led9ρ h9ρ gs9ρ tk9ρ F9ρ N9ρ P9ρ G9ρ; obtain ⟨b9ρ, t9ρ, itn9ρ, n9ρ, tz9ρ, t19ρ, t29ρ, psn9ρ, new9ρ, ⟨e9ρ, i9ρ⟩, e9'ρ, S9ρ, u9ρ, p9ρ⟩ := P9ρ; subst e9ρ; subst e9'ρ; simp only [grp, strm, List.cons_append, List.nil_append] at N9ρ; (try dsimp only); (try simp only [Int.toNat_one, List.take_succ_cons, List.take_zero, List.take_nil, List.map_cons, List.map_nil, List.drop_succ_cons, List.drop_zero, List.drop_nil] at u9ρ); (try simp only [Int.toNat_one, List.take_succ_cons, List.take_zero, List.take_nil, List.map_cons, List.map_nil, Int.ofNat_eq_natCast] at i9ρ))
  k_with "m mine try" => (refine' enter_try ?k1ρ ?k2ρ ?k3ρ ?k4ρ ?k5ρ ?kAρ ?kFρ ?kKρ ?k6ρ ?k7ρ ?k8ρ ?k9ρ ?kBρ ?_ ?c2ρ ?c3ρ ?c4ρ ?c5ρ; (case kAρ => exact rfl); (case kFρ => exact rfl); (case kKρ => assumption); (case k1ρ => k_asm); (case k2ρ => k_asm); (case k3ρ => k_asm); (case k4ρ => k_asm); (case k5ρ => k_asm); (case k6ρ => k_is); (case k7ρ => k_is); (case k8ρ => k_room); (case k9ρ => exact BindsTo.of_eq rfl); (case kBρ => exact locs rfl); (case c2ρ => exact rfl); (case c3ρ => exact rfl); (case c4ρ => exact rfl); (case c5ρ => decide); k_whole; intro g'ρ L'ρ h'ρ FG'ρ F'ρ N'ρ B'ρ X'ρ T'ρ D'ρ; (try dsimp only); (try k_lift B'ρ); (try k_fold))
  trivial
section
variable {w : World} {p : Program} {loose : List Str} {mean : ExcName → Option Value} {mg mb : Str → Option Value}
theorem msg_eq {k u1 : Nat} {us : List Nat} {x : Str} (h : us.length < u1) (hx : x = msgP k u1 us.length) : x = msgP k u1 us.length := hx
theorem item0 {prog : Program} {A : Around} {E : Value → Shared → Prop} {s : Shared} {b : Array UInt8} {t ui : Tok} {k : Int} {ks : List Int} {value slice : Expr} {Q : Value → Shared → Prop} (hk : KBw.bInts b = k :: ks) (hfit : ks.length ≤ 1000) (h : ∀ t' kk, 0 ≤ k → k < 256 → Q (.int k t') { s with toks := kk })
    (hs : subscripted slice false (.bytes b t) (.int 0 ui) = operate [.bytes b t, .int 0 ui] (getItem (.bytes b t) (.int 0 ui)) := by with_unfolding_all rfl)
    (ht : ∀ r, letTemporaryGo value (.bytes b t) r = pure () := by intro _; with_unfolding_all rfl) : wpAny (model prog w) A (subscriptTail value slice (.bytes b t) (.int 0 ui)) Q E s :=
  KBw.item_K hk (by simp only [List.length_cons]; omega) (by omega) (by simp only [List.length_cons]; omega) (fun t' kk h0 h1 => h t' kk h0 h1) hs ht
theorem kw_LD5_2 : True := by
  k_with "m subscriptTail" => (k_here; (with_reducible show wpAny _ _ (subscriptTail _ _ (Value.bytes _ _) (Value.int _ _)) _ _ _); (refine item0 (by assumption) (by simp only [List.length_nil]; omega) ?_); intro _ _ itLoρ itHiρ)
  k_with "m call type:str" => (k_here; (with_reducible show wpAny _ _ (call (Value.type "str") [Value.ref _]) _ _ _); (rename Got _ _ _ _ _ => gXρ); k_dflt (refine str_got_one PySem.F.excStr_ValueError (by assumption) gXρ (by first | decide | ktr_units) ?_))
  k_with "m b size" => (rename KBw.bInts _ = List.map _ _ => i9x; rw [← KBw.ints_length, i9x]; simp only [List.length_map, List.length_take]; omega)
  k_with "m call builtin:bytes.decode" => (k_here; (with_reducible show wpAny _ _ (call (Value.builtin "bytes.decode") [Value.bytes _ _, Value.str _ _]) _ _ _); k_dflt (refine' call_dec ?klρ ?_; (case klρ => walk_at "b size"); k_whole); intro _ _)
  k_with "m callWith ref" => (k_here; (with_reducible show wpAny _ _ (callWith _ (Value.ref _) _ _ (backToKw _ (keywordEach (_ :: _) _))) _ _ _); dsimp only; k_dflt (refine' callWith_signed ?kFρ rfl ?kvρ rfl ?kxρ ?kyρ ?koρ ?klρ ?_; (case kFρ => k_asm); (case kvρ => exact rfl); (case kxρ => exact rfl); (case kyρ => decide); (case koρ => exact KFB.at_of (by k_asm) (by k_mem)); (case klρ => walk_at "b size"); k_whole); intro _ _)
  k_with "m exec Raise some none" => (k_here; (with_reducible show wpAny _ _ (exec (Stmt.Raise (some (Expr.Call (Expr.Name _ _) (_ :: _) [] _)) none _) _) _ _ _); k_dflt (refine Raise_madeB PySem.F.excCall_ValueError PySem.F.excRaise_ValueError rfl ?_))
  k_with "m And" => ((with_reducible show Value.type "ValueError" = Value.type "ValueError" ∧ _); refine ⟨rfl, ?_⟩)
  k_with "m And" => ((with_reducible show List.length _ ≤ sizeLine ∧ _); refine ⟨by rw [sizeLine_eq]; decide, ?_⟩; intro hR'ρ eR'ρ mR'ρ)
  k_with "m bare" => (intro gρ; solve_by_elim)
  trivial
theorem try_0_e {o : Addr → Value → Value → Addr → Obj} (hIF : IsFns o) (hR : Reads w p loose mean mg mb o)
    {acc d : Addr} {items : Array Value} {n : Nat} {tk0 tkz tk : Tok} {z : Int} {ps : List (Str × Str)} {t1 t2 : Array Value} {rest : List (Addr × Obj)} {sd st rd c La : Addr} {doc ctv : Value} {tks : Tok} {fd : FuncData} {sl : Array (Option Value)} {oc oca : Obj} {vs : Array Value} {t : Tok} {np : Nat}
    (S : AccSt acc d items z t1 t2 ps (strm w o sd st rd c La doc ctv tks fd sl oc oca ++ rest)) (D : StrmSt acc sd st rd c La oc oca vs t) (hu : octs (textP ps) = ([] : List Nat)) (hp : ps.length ≤ np) :
      Tl0 w (Mine.hd.heap_1 w.params) p loose mean mg mb (call (.ref 153) [.int 0 tk, .ref st]) (ledL w o acc d items n tk0 z tkz t1 t2 sd st rd c La doc ctv tks fd sl oc oca rest)
        (TryPost w o 0 acc d (([] : List Nat)) np tk0 sd st rd c La doc ctv tks fd sl oc oca rest) := by
  unfold Tl0
  k_fill
  intro cn cs a ccd cl base h₀ L m s Q E B F X N T XB TB hk hret
  have hl : ([] : List Nat).length ≤ 1000 := by decide
  have ho : ∀ o ∈ ([] : List Nat), o < 256 := fun _ h => nomatch h
  have hret' : ∀ (l : Addr) (vs : List Value) (itn : Array Value) (n' : Nat) (tz : Tok) (t1' t2' : Array Value) (psn : List (Str × Str)) (new rest' : List (Addr × Obj)) (h' : Heap) (gs' : Array GenState) (tk' : Nat) (X : Prop) (news' : List (Addr × Obj)), rest' = new ++ rest →
      AccSt acc d itn 0 t1' t2' psn (strm w o sd st rd c La doc ctv tks fd sl oc oca ++ rest') → octs (textP psn) = (([] : List Nat)).drop (spec 0 (([] : List Nat))).2 → psn.length ≤ np → (@LT.lt Nat _ acc l ∧ @LT.lt Nat _ d l ∧ @LT.lt Nat _ 62 l ∧ @LT.lt Nat _ 69 l ∧ X) →
      (spec 0 (([] : List Nat))).1.Vs vs → Fr h₀ L h' m → News h₀ L h' news' → (∀ q ∈ (l, W.listOf vs.toArray 0) :: ledL w o acc d itn n' tk0 0 tz t1' t2' sd st rd c La doc ctv tks fd sl oc oca rest', q ∈ news') → (AllBare s.gens → AllBare gs') → Q (.ref l) ⟨h', gs', s.drawn, tk', s.os⟩ := by
    intro l vs itn n' tz t1' t2' psn new rest' h' gs' tk' X news' hrr S' u' p' hl hv F' N' hsub G'
    subst hrr
    exact hret _ _ h' gs' tk' F' (fun q hq => N' q (hsub q hq)) ⟨l, vs, itn, n', tz, t1', t2', psn, new, rfl, hv, rfl, S', u', p', Nat.ne_of_gt hl.1, Nat.ne_of_gt hl.2.1, Nat.ne_of_gt hl.2.2.1, Nat.ne_of_gt hl.2.2.2.1⟩ G'
  clear hret
  simp only [ledL] at N
  refine wpAny_call ?_
  k_dflt (walk_at "mine try")
  k_steps
  rename AccSt _ _ _ _ _ _ _ _ => S9
  rename octs (textP _) = _ => u9
  rename List.length _ ≤ np => p9
  rename (@LT.lt Nat _ acc _ ∧ _) => l9
  exact hret' _ _ _ _ _ _ _ _ _ _ _ _ _ _ _ rfl S9 u9 p9 l9 ⟨_, rfl⟩ (by k_asm) (by k_asm) (fun q hq => hq) (by walk_at "bare")

theorem try_1_e {o : Addr → Value → Value → Addr → Obj} (hIF : IsFns o) (hR : Reads w p loose mean mg mb o)
    {acc d : Addr} {items : Array Value} {n : Nat} {tk0 tkz tk : Tok} {z : Int} {ps : List (Str × Str)} {t1 t2 : Array Value} {rest : List (Addr × Obj)} {sd st rd c La : Addr} {doc ctv : Value} {tks : Tok} {fd : FuncData} {sl : Array (Option Value)} {oc oca : Obj} {vs : Array Value} {t : Tok} {np : Nat}
    (S : AccSt acc d items z t1 t2 ps (strm w o sd st rd c La doc ctv tks fd sl oc oca ++ rest)) (D : StrmSt acc sd st rd c La oc oca vs t) (hu : octs (textP ps) = ([] : List Nat)) (hp : ps.length ≤ np) :
      Tl0 w (Mine.hd.heap_1 w.params) p loose mean mg mb (call (.ref 153) [.int 1 tk, .ref st]) (ledL w o acc d items n tk0 z tkz t1 t2 sd st rd c La doc ctv tks fd sl oc oca rest)
        (TryPost w o 1 acc d (([] : List Nat)) np tk0 sd st rd c La doc ctv tks fd sl oc oca rest) := by
  unfold Tl0
  k_fill
  intro cn cs a ccd cl base h₀ L m s Q E B F X N T XB TB hk hret
  have hl : ([] : List Nat).length ≤ 1000 := by decide
  have ho : ∀ o ∈ ([] : List Nat), o < 256 := fun _ h => nomatch h
  have hret' : ∀ (l : Addr) (vs : List Value) (itn : Array Value) (n' : Nat) (tz : Tok) (t1' t2' : Array Value) (psn : List (Str × Str)) (new rest' : List (Addr × Obj)) (h' : Heap) (gs' : Array GenState) (tk' : Nat) (X : Prop) (news' : List (Addr × Obj)), rest' = new ++ rest →
      AccSt acc d itn 0 t1' t2' psn (strm w o sd st rd c La doc ctv tks fd sl oc oca ++ rest') → octs (textP psn) = (([] : List Nat)).drop (spec 1 (([] : List Nat))).2 → psn.length ≤ np → (@LT.lt Nat _ acc l ∧ @LT.lt Nat _ d l ∧ @LT.lt Nat _ 62 l ∧ @LT.lt Nat _ 69 l ∧ X) →
      (spec 1 (([] : List Nat))).1.Vs vs → Fr h₀ L h' m → News h₀ L h' news' → (∀ q ∈ (l, W.listOf vs.toArray 0) :: ledL w o acc d itn n' tk0 0 tz t1' t2' sd st rd c La doc ctv tks fd sl oc oca rest', q ∈ news') → (AllBare s.gens → AllBare gs') → Q (.ref l) ⟨h', gs', s.drawn, tk', s.os⟩ := by
    intro l vs itn n' tz t1' t2' psn new rest' h' gs' tk' X news' hrr S' u' p' hl hv F' N' hsub G'
    subst hrr
    exact hret _ _ h' gs' tk' F' (fun q hq => N' q (hsub q hq)) ⟨l, vs, itn, n', tz, t1', t2', psn, new, rfl, hv, rfl, S', u', p', Nat.ne_of_gt hl.1, Nat.ne_of_gt hl.2.1, Nat.ne_of_gt hl.2.2.1, Nat.ne_of_gt hl.2.2.2.1⟩ G'
  clear hret
  simp only [ledL] at N
  refine wpAny_call ?_
  k_dflt (walk_at "mine try")
  k_steps
  rename AccSt _ _ _ _ _ _ _ _ => S9
  rename octs (textP _) = _ => u9
  rename List.length _ ≤ np => p9
  rename (@LT.lt Nat _ acc _ ∧ _) => l9
  exact hret' _ _ _ _ _ _ _ _ _ _ _ _ _ _ _ rfl S9 u9 p9 l9 ⟨_, rfl⟩ (by k_asm) (by k_asm) (fun q hq => hq) (by walk_at "bare")

theorem try_2_e {o : Addr → Value → Value → Addr → Obj} (hIF : IsFns o) (hR : Reads w p loose mean mg mb o)
    {acc d : Addr} {items : Array Value} {n : Nat} {tk0 tkz tk : Tok} {z : Int} {ps : List (Str × Str)} {t1 t2 : Array Value} {rest : List (Addr × Obj)} {sd st rd c La : Addr} {doc ctv : Value} {tks : Tok} {fd : FuncData} {sl : Array (Option Value)} {oc oca : Obj} {vs : Array Value} {t : Tok} {np : Nat}
    (S : AccSt acc d items z t1 t2 ps (strm w o sd st rd c La doc ctv tks fd sl oc oca ++ rest)) (D : StrmSt acc sd st rd c La oc oca vs t) (hu : octs (textP ps) = ([] : List Nat)) (hp : ps.length ≤ np) :
      Tl0 w (Mine.hd.heap_1 w.params) p loose mean mg mb (call (.ref 153) [.int 2 tk, .ref st]) (ledL w o acc d items n tk0 z tkz t1 t2 sd st rd c La doc ctv tks fd sl oc oca rest)
        (TryPost w o 2 acc d (([] : List Nat)) np tk0 sd st rd c La doc ctv tks fd sl oc oca rest) := by
  unfold Tl0
  k_fill
  intro cn cs a ccd cl base h₀ L m s Q E B F X N T XB TB hk hret
  have hl : ([] : List Nat).length ≤ 1000 := by decide
  have ho : ∀ o ∈ ([] : List Nat), o < 256 := fun _ h => nomatch h
  have hret' : ∀ (l : Addr) (vs : List Value) (itn : Array Value) (n' : Nat) (tz : Tok) (t1' t2' : Array Value) (psn : List (Str × Str)) (new rest' : List (Addr × Obj)) (h' : Heap) (gs' : Array GenState) (tk' : Nat) (X : Prop) (news' : List (Addr × Obj)), rest' = new ++ rest →
      AccSt acc d itn 0 t1' t2' psn (strm w o sd st rd c La doc ctv tks fd sl oc oca ++ rest') → octs (textP psn) = (([] : List Nat)).drop (spec 2 (([] : List Nat))).2 → psn.length ≤ np → (@LT.lt Nat _ acc l ∧ @LT.lt Nat _ d l ∧ @LT.lt Nat _ 62 l ∧ @LT.lt Nat _ 69 l ∧ X) →
      (spec 2 (([] : List Nat))).1.Vs vs → Fr h₀ L h' m → News h₀ L h' news' → (∀ q ∈ (l, W.listOf vs.toArray 0) :: ledL w o acc d itn n' tk0 0 tz t1' t2' sd st rd c La doc ctv tks fd sl oc oca rest', q ∈ news') → (AllBare s.gens → AllBare gs') → Q (.ref l) ⟨h', gs', s.drawn, tk', s.os⟩ := by
    intro l vs itn n' tz t1' t2' psn new rest' h' gs' tk' X news' hrr S' u' p' hl hv F' N' hsub G'
    subst hrr
    exact hret _ _ h' gs' tk' F' (fun q hq => N' q (hsub q hq)) ⟨l, vs, itn, n', tz, t1', t2', psn, new, rfl, hv, rfl, S', u', p', Nat.ne_of_gt hl.1, Nat.ne_of_gt hl.2.1, Nat.ne_of_gt hl.2.2.1, Nat.ne_of_gt hl.2.2.2.1⟩ G'
  clear hret
  simp only [ledL] at N
  refine wpAny_call ?_
  k_dflt (walk_at "mine try")
  k_steps
  rename AccSt _ _ _ _ _ _ _ _ => S9
  rename octs (textP _) = _ => u9
  rename List.length _ ≤ np => p9
  rename (@LT.lt Nat _ acc _ ∧ _) => l9
  exact hret' _ _ _ _ _ _ _ _ _ _ _ _ _ _ _ rfl S9 u9 p9 l9 ⟨_, rfl⟩ (by k_asm) (by k_asm) (fun q hq => hq) (by walk_at "bare")

theorem try_3_e {o : Addr → Value → Value → Addr → Obj} (hIF : IsFns o) (hR : Reads w p loose mean mg mb o)
    {acc d : Addr} {items : Array Value} {n : Nat} {tk0 tkz tk : Tok} {z : Int} {ps : List (Str × Str)} {t1 t2 : Array Value} {rest : List (Addr × Obj)} {sd st rd c La : Addr} {doc ctv : Value} {tks : Tok} {fd : FuncData} {sl : Array (Option Value)} {oc oca : Obj} {vs : Array Value} {t : Tok} {np : Nat}
    (S : AccSt acc d items z t1 t2 ps (strm w o sd st rd c La doc ctv tks fd sl oc oca ++ rest)) (D : StrmSt acc sd st rd c La oc oca vs t) (hu : octs (textP ps) = ([] : List Nat)) (hp : ps.length ≤ np) :
      Tl0 w (Mine.hd.heap_1 w.params) p loose mean mg mb (call (.ref 153) [.int 3 tk, .ref st]) (ledL w o acc d items n tk0 z tkz t1 t2 sd st rd c La doc ctv tks fd sl oc oca rest)
        (TryPost w o 3 acc d (([] : List Nat)) np tk0 sd st rd c La doc ctv tks fd sl oc oca rest) := by
  unfold Tl0
  k_fill
  intro cn cs a ccd cl base h₀ L m s Q E B F X N T XB TB hk hret
  have hl : ([] : List Nat).length ≤ 1000 := by decide
  have ho : ∀ o ∈ ([] : List Nat), o < 256 := fun _ h => nomatch h
  have hret' : ∀ (l : Addr) (vs : List Value) (itn : Array Value) (n' : Nat) (tz : Tok) (t1' t2' : Array Value) (psn : List (Str × Str)) (new rest' : List (Addr × Obj)) (h' : Heap) (gs' : Array GenState) (tk' : Nat) (X : Prop) (news' : List (Addr × Obj)), rest' = new ++ rest →
      AccSt acc d itn 0 t1' t2' psn (strm w o sd st rd c La doc ctv tks fd sl oc oca ++ rest') → octs (textP psn) = (([] : List Nat)).drop (spec 3 (([] : List Nat))).2 → psn.length ≤ np → (@LT.lt Nat _ acc l ∧ @LT.lt Nat _ d l ∧ @LT.lt Nat _ 62 l ∧ @LT.lt Nat _ 69 l ∧ X) →
      (spec 3 (([] : List Nat))).1.Vs vs → Fr h₀ L h' m → News h₀ L h' news' → (∀ q ∈ (l, W.listOf vs.toArray 0) :: ledL w o acc d itn n' tk0 0 tz t1' t2' sd st rd c La doc ctv tks fd sl oc oca rest', q ∈ news') → (AllBare s.gens → AllBare gs') → Q (.ref l) ⟨h', gs', s.drawn, tk', s.os⟩ := by
    intro l vs itn n' tz t1' t2' psn new rest' h' gs' tk' X news' hrr S' u' p' hl hv F' N' hsub G'
    subst hrr
    exact hret _ _ h' gs' tk' F' (fun q hq => N' q (hsub q hq)) ⟨l, vs, itn, n', tz, t1', t2', psn, new, rfl, hv, rfl, S', u', p', Nat.ne_of_gt hl.1, Nat.ne_of_gt hl.2.1, Nat.ne_of_gt hl.2.2.1, Nat.ne_of_gt hl.2.2.2.1⟩ G'
  clear hret
  simp only [ledL] at N
  refine wpAny_call ?_
  k_dflt (walk_at "mine try")
  k_steps
  rename AccSt _ _ _ _ _ _ _ _ => S9
  rename octs (textP _) = _ => u9
  rename List.length _ ≤ np => p9
  rename (@LT.lt Nat _ acc _ ∧ _) => l9
  exact hret' _ _ _ _ _ _ _ _ _ _ _ _ _ _ _ rfl S9 u9 p9 l9 ⟨_, rfl⟩ (by k_asm) (by k_asm) (fun q hq => hq) (by walk_at "bare")

theorem try_0 {o : Addr → Value → Value → Addr → Obj} (hIF : IsFns o) (hR : Reads w p loose mean mg mb o)
    {acc d : Addr} {items : Array Value} {n : Nat} {tk0 tkz tk : Tok} {z : Int} {ps : List (Str × Str)} {t1 t2 : Array Value} {rest : List (Addr × Obj)} {sd st rd c La : Addr} {doc ctv : Value} {tks : Tok} {fd : FuncData} {sl : Array (Option Value)} {oc oca : Obj} {vs : Array Value} {t : Tok} {np : Nat} {u1 : Nat} {us : List Nat}
    (S : AccSt acc d items z t1 t2 ps (strm w o sd st rd c La doc ctv tks fd sl oc oca ++ rest)) (D : StrmSt acc sd st rd c La oc oca vs t) (hu : octs (textP ps) = u1 :: us) (hp : ps.length ≤ np) (hl : (u1 :: us).length ≤ 1000) (ho : ∀ o ∈ u1 :: us, o < 256) :
      Tl0 w (Mine.hd.heap_1 w.params) p loose mean mg mb (call (.ref 153) [.int 0 tk, .ref st]) (ledL w o acc d items n tk0 z tkz t1 t2 sd st rd c La doc ctv tks fd sl oc oca rest)
        (TryPost w o 0 acc d (u1 :: us) np tk0 sd st rd c La doc ctv tks fd sl oc oca rest) := by
  unfold Tl0
  k_fill
  intro cn cs a ccd cl base h₀ L m s Q E B F X N T XB TB hk hret
  have hl1 : us.length ≤ 1000 := by simp only [List.length_cons] at hl; omega
  have ho1 : ∀ o ∈ us, o < 256 := fun o h => ho o (.tail _ h)
  have h256 : u1 < 256 := ho u1 (.head _)
  have hret' : ∀ (l : Addr) (vs : List Value) (itn : Array Value) (n' : Nat) (tz : Tok) (t1' t2' : Array Value) (psn : List (Str × Str)) (new rest' : List (Addr × Obj)) (h' : Heap) (gs' : Array GenState) (tk' : Nat) (X : Prop) (news' : List (Addr × Obj)), rest' = new ++ rest →
      AccSt acc d itn 0 t1' t2' psn (strm w o sd st rd c La doc ctv tks fd sl oc oca ++ rest') → octs (textP psn) = (u1 :: us).drop (spec 0 (u1 :: us)).2 → psn.length ≤ np → (@LT.lt Nat _ acc l ∧ @LT.lt Nat _ d l ∧ @LT.lt Nat _ 62 l ∧ @LT.lt Nat _ 69 l ∧ X) →
      (spec 0 (u1 :: us)).1.Vs vs → Fr h₀ L h' m → News h₀ L h' news' → (∀ q ∈ (l, W.listOf vs.toArray 0) :: ledL w o acc d itn n' tk0 0 tz t1' t2' sd st rd c La doc ctv tks fd sl oc oca rest', q ∈ news') → (AllBare s.gens → AllBare gs') → Q (.ref l) ⟨h', gs', s.drawn, tk', s.os⟩ := by
    intro l vs itn n' tz t1' t2' psn new rest' h' gs' tk' X news' hrr S' u' p' hl hv F' N' hsub G'
    subst hrr
    exact hret _ _ h' gs' tk' F' (fun q hq => N' q (hsub q hq)) ⟨l, vs, itn, n', tz, t1', t2', psn, new, rfl, hv, rfl, S', u', p', Nat.ne_of_gt hl.1, Nat.ne_of_gt hl.2.1, Nat.ne_of_gt hl.2.2.1, Nat.ne_of_gt hl.2.2.2.1⟩ G'
  clear hret
  simp only [ledL] at N
  refine wpAny_call ?_
  k_dflt (walk_at "mine try")
  k_steps
  all_goals try (rename ¬ (0 < List.length _) => hc; exact absurd Nat.zero_lt_one hc)
  rename AccSt _ _ _ _ _ _ _ _ => S9
  rename octs (textP _) = _ => u9
  rename List.length _ ≤ np => p9
  rename (@LT.lt Nat _ acc _ ∧ _) => l9
  exact hret' _ _ _ _ _ _ _ _ _ _ _ _ _ _ _ rfl S9 u9 p9 l9 ⟨_, rfl⟩ (by k_asm) (by k_asm) (fun q hq => hq) (by walk_at "bare")

end
end Mine
end
section
open PySem PySem.W PyProof.Rows PySem.Calls
set_option maxRecDepth 100000
set_option maxHeartbeats 8000000
namespace Mine
theorem kw_LE0_0 : True := by
  k_with_none
  trivial
def txt (l : List Nat) : Str := ⟨l.toArray⟩
theorem octs_txt (l : List Nat) : octs (txt l) = l := by simp [octs, txt]
theorem txt_len (l : List Nat) : (txt l).length = l.length := by rw [← octs_len, octs_txt]
/-- the values are texts of one sign each -/
def Chrs (ys : List Value) (l : List Nat) : Prop := ∃ lt : List (Str × Tok), strValues lt = ys ∧ lt.map (·.1) = l.map fun c => (⟨#[c]⟩ : Str)
theorem Chrs.nil : Chrs [] [] := ⟨[], rfl, rfl⟩
theorem Chrs.snoc {ys : List Value} {l : List Nat} (h : Chrs ys l) (c : Nat) (t : Tok) : Chrs (ys ++ [.str ⟨#[c]⟩ t]) (l ++ [c]) := by
  obtain ⟨lt, e1, e2⟩ := h
  refine ⟨lt ++ [(⟨#[c]⟩, t)], ?_, by simp [e2]⟩
  rw [← e1]
  simp [strValues]
theorem join_txt (l : List Nat) : Txt.join "" (l.map fun c => (⟨#[c]⟩ : Str)) = txt l := by
  refine octs_inj ?_
  rw [octs_join, octs_txt, List.map_map]
  induction l with
  | nil => rfl
  | cons c r ih => rw [List.map_cons, List.flatten_cons, ih]; rfl
section
variable {prog : Program} {w : World} {A : Around} {E : Value → Shared → Prop} {s : Shared} {h₀ : Heap} {L : Addr} {m : Str → Option Value} {env : Env} {p : Program} {loose : List Str} {mean : ExcName → Option Value} {mg mb : Str → Option Value}
theorem join_chrs {D : Addr} {t : Tok} {ys : List Value} {l : List Nat} {news : List (Addr × Obj)} {Q : Value → Shared → Prop} (N : News h₀ L s.heap news) (hD : (D, LCg.lst ys) ∈ news) (hc : Chrs ys l) (hl : l.length ≤ 1000)
    (h : ∀ t' k, Q (.str (txt l) t') { s with toks := k }) : wpAny (model prog w) A (call (.builtin "str.join") [.str (PySem.Str.ofString "") t, .ref D]) Q E s := by
  obtain ⟨lt, rfl, e2⟩ := hc
  refine SC.join (l := lt) (texts := l.map fun c => (⟨#[c]⟩ : Str)) ?_ e2 ?_ (fun t' k => by rw [show Txt.join (PySem.Str.ofString "") _ = Txt.join "" _ from rfl, join_txt]; exact h t' k)
  · exact ⟨_, (N _ hD).1, rfl, _, rfl⟩
  · refine joinOk_of ?_
    have e0 : (Str.ofString "").length = 0 := by decide
    have e1 : ((l.map fun c => (⟨#[c]⟩ : Str)).map (·.length)).sum = l.length := by
      rw [List.map_map]
      clear e2 hl h
      induction l with
      | nil => rfl
      | cons c r ih => rw [List.map_cons, List.sum_cons, ih, List.length_cons]; show 1 + _ = _; omega
    rw [e0, Nat.mul_zero]
    omega
/-- a comprehension of `chr` over a list of numbers -/
theorem chr_rest {p1 p2 p3 : Pos} {x : Str} {scope : Scope} {cl : List (Str × Addr)} {S : List (Addr × Obj) → Prop} {Fin : List Value → List (Addr × Obj) → Prop} {news : List (Addr × Obj)} {its : Array Value} {l : List Nat} (T : Top p loose mean mg mb h₀) (hm : mg "chr" = none)
    (hgl : env.globals = mainGlobals) (hbl : env.builtins = builtinsNs) (hk : (relabel scope env).kind = .function) (hxo : ∀ C, (compEnvC scope cl C env).kindOf "chr" = some .globalImplicit) (hxs : ∀ C, (compEnvC scope cl C env).kindOf x = some .local) (hd : (x == ("__debug__" : Str)) = false)
    (hi : IntsAre its.toList (l.map Int.ofNat)) (hr : ∀ c ∈ l, c < 1000) (hS : S news) (fin : ∀ ys, Chrs ys l → Fin ys news) :
    LCg.CompRest prog w A h₀ L m env (.Call (.Name "chr" p1) [.Name x p2] [] p3) x scope cl s S (fun i v => its[i]? = some v) Fin its.size 0 [] news := by
  have hlen : its.size = l.length := by have := hi.length; simpa using this
  have key : ∀ (j i : Nat) (ys : List Value), i + j = its.size → Chrs ys (l.take i) → LCg.CompRest prog w A h₀ L m env (.Call (.Name "chr" p1) [.Name x p2] [] p3) x scope cl s S (fun i v => its[i]? = some v) Fin j i ys news := by
    intro j
    induction j with
    | zero =>
      intro i ys hij hy
      rw [List.take_of_length_le (by omega)] at hy
      exact LCg.CompRest.zero (fin ys hy)
    | succ j ih =>
      intro i ys hij hy
      refine LCg.CompRest.succ ?_
      intro v I oI C oC D m₂ h tk E' hv hC hx F N off ne
      have hi' : i < l.length := by omega
      obtain ⟨t, hx'⟩ := hi.get i (Int.ofNat l[i]) (by simp [hi'])
      have hv' : v = .int (Int.ofNat l[i]) t := by
        have hv2 : its.toList[i]? = some v := by rw [Array.getElem?_toList]; exact hv
        rw [hx'] at hv2; exact (Option.some.inj hv2).symm
      subst hv'
      have hn : h.Ns C m₂ := hC.ns (N (C, oC) (.tail _ (.head _))).1
      refine Call_ (nm_builtin (s := { s with heap := h, toks := tk }) F.keep T hm PyProof.Rows.Boot.«chr» ?_ (by decide) hgl hbl hk (hxo C) (by decide))
      refine callWith_builtin1 (args_cons (nm_local (s := { s with heap := h, toks := tk }) hn hx ?_ hk (hxs C) hd))
      refine args_nil ?_
      have hlt := hr _ (List.getElem_mem hi')
      refine PySem.P.chr_of_int (by
        have h1 : ¬ (Int.ofNat l[i] < 0) := by simp
        have h2 : ¬ (Int.ofNat l[i] > 0x10FFFF) := by show ¬ ((l[i] : Int) > 1114111); omega
        simp only [h1, h2, decide_false, Bool.or_self]) ?_
      refine ⟨h, tk + 1, news, rfl, F, N, off, hS, ih (i + 1) _ (by omega) ?_⟩
      have e : l.take (i + 1) = l.take i ++ [l[i]] := by rw [List.take_add_one, List.getElem?_eq_getElem hi']; rfl
      rw [e]
      exact hy.snoc _ _
  exact key its.size 0 [] (by omega) (by simp only [List.take_zero]; exact Chrs.nil)
theorem kitem0 {value slice : Expr} {U : Addr} {vs : List Value} {nU : Nat} {news : List (Addr × Obj)} {k : Int} {ns : List Int} {u : Tok} {Q : Value → Shared → Prop} (N : News h₀ L s.heap news) (hU : (U, W.listOf vs.toArray nU) ∈ news) (hi : IntsAre vs (k :: ns)) (h : ∀ t, Q (.int k t) s)
    (hs : subscripted slice false (.ref U) (.int 0 u) = operate [.ref U, .int 0 u] (getItem (.ref U) (.int 0 u)) := by with_unfolding_all rfl) :
    wpAny (model prog w) A (subscriptTail value slice (.ref U) (.int 0 u)) Q E s := by
  have hl : s.heap.IsList U vs.toArray := N.isList hU
  obtain ⟨t, hx⟩ := hi.get 0 k rfl
  exact tail_any hl.typeIs slot_list_getitem.lookup (wpAny_getItem_list hl (by decide) (by decide) (by simpa using hx) (h t)) hs
end
end Mine
end
section
open PySem PySem.W PyProof.Rows PySem.Calls
set_option maxRecDepth 100000
namespace Mine
theorem kw_LP4_0 : True := by
  k_with_none
  trivial
/-- the octets that the law draws from -/
def tabN : List Nat := [1, 0, 2, 3, 32, 9, 160, 65, 128, 255, 127, 4, 133, 10, 200, 1]
def whiteN : List Nat := [9, 10, 32, 133, 160]
theorem tabN_lt : ∀ q ∈ tabN, q < 256 := by decide
theorem tab_space : ∀ q ∈ tabN, Unicode.isSpace q = decide (q ∈ whiteN) := by decide +kernel
theorem isspace_eq {x : Str} {us : List Nat} (hx : octs x = us) (h : ∀ q ∈ us, q ∈ tabN) : Txt.isspace x = (decide (0 < us.length) && us.all fun q => decide (q ∈ whiteN)) := by
  have e1 : x.length = us.length := by rw [← hx, octs_len]
  have e2 : x.cps.all Unicode.isSpace = us.all fun q => decide (q ∈ whiteN) := by
    rw [← Array.all_toList, show x.cps.toList = us from hx]
    rw [Bool.eq_iff_iff, List.all_eq_true, List.all_eq_true]
    constructor
    · intro h1 q hq
      rw [← tab_space q (h q hq)]; exact h1 q hq
    · intro h1 q hq
      rw [tab_space q (h q hq)]; exact h1 q hq
  show (decide (x.length > 0) && x.cps.all Unicode.isSpace) = _
  rw [e1, e2]
theorem ws_law {ps : List (Str × Str)} {us : List Nat} (hx : octs (textP ps) = us) (h : ∀ q ∈ us, q ∈ tabN) : (lenP ps == 0 || Txt.isspace (textP ps)) = decide ((us.filter fun q => decide (q ∉ whiteN)) = []) := by
  rw [isspace_eq hx h, lenP_octs, hx]
  cases us with
  | nil => rfl
  | cons q r =>
    have e : (((q :: r).length : Int) == 0) = false := by
      rw [beq_eq_false_iff_ne]; simp only [List.length_cons]; omega
    rw [e, Bool.false_or, show decide (0 < (q :: r).length) = true from rfl, Bool.true_and]
    rw [Bool.eq_iff_iff, List.all_eq_true, decide_eq_true_iff, List.filter_eq_nil_iff]
    simp
theorem tab_get {i : Nat} (h : i < 16) : ∃ q ∈ tabN, ([1, 0, 2, 3, 32, 9, 160, 65, 128, 255, 127, 4, 133, 10, 200, 1] : List Int).getD i 0 = (q : Int) := by
  have e : ([1, 0, 2, 3, 32, 9, 160, 65, 128, 255, 127, 4, 133, 10, 200, 1] : List Int) = tabN.map Int.ofNat := by rfl
  have hl : i < tabN.length := h
  refine ⟨tabN[i], List.getElem_mem hl, ?_⟩
  rw [e, List.getD_eq_getElem?_getD, List.getElem?_map, List.getElem?_eq_getElem hl]
  rfl
end Mine
end
section
open PySem PySem.W PyProof.Rows PySem.Calls
set_option maxRecDepth 100000
set_option maxHeartbeats 4000000
namespace Mine
theorem kw_LE3_0 : True := by
  k_with_none
  trivial
section
variable {prog : Program} {w : World} {A : Around} {E : Value → Shared → Prop} {s : Shared} {h₀ : Heap} {L : Addr} {m : Str → Option Value} {env : Env}
/-- a comprehension of the numbers off a list that a cell holds -/
theorem white_rest {p1 p2 p3 p4 : Pos} {x y : Str} {scope : Scope} {cl : List (Str × Addr)} {S : List (Addr × Obj) → Prop} {Fin : List Value → List (Addr × Obj) → Prop} {news : List (Addr × Obj)} {its : Array Value} {us wn : List Nat} {lw c : Addr} {oc : Obj} {wv : List Value}
    (hcm : (c, oc) ∈ news) (hcd : oc.data = .cell (some (.ref lw))) (hlw : (lw, W.listOf wv.toArray 0) ∈ news) (hw : IntsAre wv (wn.map Int.ofNat)) (hcl : cl.lookup y = some c)
    (hk : (relabel scope env).kind = .function) (hxs : ∀ C, (compEnvC scope cl C env).kindOf x = some .local) (hys : ∀ C, (compEnvC scope cl C env).kindOf y = some .cell) (hd : (x == ("__debug__" : Str)) = false) (hdy : (y == ("__debug__" : Str)) = false)
    (hi : IntsAre its.toList (us.map Int.ofNat)) (hS : S news) (fin : ∀ ys, IntsAre ys ((us.filter fun q => decide (q ∉ wn)).map Int.ofNat) → Fin ys news) :
    LCt.CompRestT prog w A h₀ L m env (.Compare (.Name x p1) [.NotIn] [.Name y p2] p3) (.Name x p4) x scope cl s S (fun i v => its[i]? = some v) Fin its.size 0 [] news := by
  have hlen : its.size = us.length := by have := hi.length; simpa using this
  have key : ∀ (j i : Nat) (ys : List Value), i + j = its.size → IntsAre ys (((us.take i).filter fun q => decide (q ∉ wn)).map Int.ofNat) → LCt.CompRestT prog w A h₀ L m env (.Compare (.Name x p1) [.NotIn] [.Name y p2] p3) (.Name x p4) x scope cl s S (fun i v => its[i]? = some v) Fin j i ys news := by
    intro j
    induction j with
    | zero =>
      intro i ys hij hy
      rw [List.take_of_length_le (by omega)] at hy
      exact LCt.CompRestT.zero (fin ys hy)
    | succ j ih =>
      intro i ys hij hy
      refine LCt.CompRestT.succ ?_
      intro v I oI C oC D m₂ h tk E' hv hC hx F N off ne
      have hi' : i < us.length := by omega
      obtain ⟨t, hx'⟩ := hi.get i (Int.ofNat us[i]) (by simp [hi'])
      have hv' : v = .int (Int.ofNat us[i]) t := by
        have hv2 : its.toList[i]? = some v := by rw [Array.getElem?_toList]; exact hv
        rw [hx'] at hv2; exact (Option.some.inj hv2).symm
      subst hv'
      have hn : h.Ns C m₂ := hC.ns (N (C, oC) (.tail _ (.head _))).1
      have e : us.take (i + 1) = us.take i ++ [us[i]] := by rw [List.take_add_one, List.getElem?_eq_getElem hi']; rfl
      refine wpAny_isTrue_Compare1 (nm_local (s := { s with heap := h, toks := tk }) hn hx ?_ hk (hxs C) hd)
      refine lcf_cell (N := N) hcl (.tail _ (.tail _ (.tail _ hcm))) hcd ?_ hk (hys C) hdy
      have hl : h.IsList lw wv.toArray := N.isList (.tail _ (.tail _ (.tail _ hlw)))
      refine notin_list_ints hl hw ?_
      refine wpAny_truthy_bool ?_
      have ea : ((wn.map Int.ofNat).any fun q => q == Int.ofNat us[i]) = decide (us[i] ∈ wn) := by
        rw [Bool.eq_iff_iff, List.any_eq_true, decide_eq_true_iff]
        constructor
        · rintro ⟨q, hq, hqe⟩
          obtain ⟨r, hr, rfl⟩ := List.mem_map.mp hq
          have := Int.ofNat.inj (beq_iff_eq.mp hqe)
          exact this ▸ hr
        · intro hm
          exact ⟨_, List.mem_map.mpr ⟨_, hm, rfl⟩, beq_self_eq_true _⟩
      rw [ea]
      by_cases hm : us[i] ∈ wn
      · have e1 : ((us.take (i + 1)).filter fun q => decide (q ∉ wn)) = (us.take i).filter fun q => decide (q ∉ wn) := by rw [e, List.filter_append]; simp [hm]
        simp only [hm, decide_true, Bool.not_true, Bool.false_eq_true, if_false]
        exact ⟨h, tk, news, rfl, F, N, off, hS, ih (i + 1) _ (by omega) (by rw [e1]; exact hy)⟩
      · have e1 : ((us.take (i + 1)).filter fun q => decide (q ∉ wn)) = ((us.take i).filter fun q => decide (q ∉ wn)) ++ [us[i]] := by rw [e, List.filter_append]; simp [hm]
        simp only [hm, decide_false, Bool.not_false, if_true]
        refine nm_local (s := { s with heap := h, toks := tk }) hn hx ?_ hk (hxs C) hd
        refine ⟨h, tk, news, rfl, F, N, off, hS, ih (i + 1) _ (by omega) ?_⟩
        rw [e1, List.map_append]
        exact IntsAre.append hy (.cons (Int.ofNat us[i]) t .nil)
  exact key its.size 0 [] (by omega) (by simp only [List.take_zero, List.filter_nil, List.map_nil]; exact .nil)
end
end Mine
end
section
open PySem PySem.W PyProof.Rows PySem.Calls
set_option maxRecDepth 100000
set_option maxHeartbeats 40000000
namespace Mine
theorem ne_eqi {prog : Program} {w : World} {A : Around} {E : Value → Shared → Prop} {s : Shared} {a b : Int} {t u : Tok} {Q : Value → Shared → Prop} (h : a = b) (hq : Q (.bool false) s) : wpAny (model prog w) A (compareOp .NotEq (.int a t) (.int b u)) Q E s := by
  subst h
  refine ne_int ?_
  have e : (a != a) = false := by simp
  rw [e]
  exact hq
theorem ne_eqs {prog : Program} {w : World} {A : Around} {E : Value → Shared → Prop} {s : Shared} {a b : Str} {t u : Tok} {Q : Value → Shared → Prop} (h : a = b) (hq : Q (.bool false) s) : wpAny (model prog w) A (compareOp .NotEq (.str a t) (.str b u)) Q E s := by
  subst h
  refine ne_str ?_
  have e : (a != a) = false := by simp
  rw [e]
  exact hq
theorem ne_eqb {prog : Program} {w : World} {A : Around} {E : Value → Shared → Prop} {s : Shared} {a b : Bool} {Q : Value → Shared → Prop} (h : a = b) (hq : Q (.bool false) s) : wpAny (model prog w) A (compareOp .NotEq (.bool a) (.bool b)) Q E s := by
  subst h
  refine ne_bool ?_
  have e : (a != a) = false := by simp
  rw [e]
  exact hq
theorem ws_b1 {z : Int} {ps : List (Str × Str)} {us : List Nat} (hz : z = 0) (hu : octs (textP ps) = us) (hTb : ∀ q ∈ us, q ∈ tabN) : (z == 0 && (lenP ps == 0 || Txt.isspace (textP ps))) = decide (List.map Int.ofNat (List.filter (fun q => decide ¬q ∈ whiteN) us) = []) := by
  rw [ws_law hu hTb, hz]
  rw [show ((0 : Int) == 0) = true from rfl, Bool.true_and]
  refine decide_eq_decide.mpr ?_
  rw [List.map_eq_nil_iff]
theorem ws_b2 {z : Int} {b : Bool} (hz : z ≠ 0) : (z == 0 && b) = (z == 0) := by
  rw [show (z == 0) = false from beq_false_of_ne hz, Bool.false_and]
theorem txt_eq {x : Str} {l : List Nat} (h : octs x = l) : x = txt l := octs_inj (by rw [h, octs_txt])
theorem kw_LG3_1 : True := by
  k_with_none
  k_with "m getMethod ref" => (k_here; k_dflt (refine' kmeth ?k1ρ ?k2ρ ?k3ρ ?k4ρ ?k5ρ ?k6ρ ?k7ρ ?k8ρ ?k9ρ ?_; (case k1ρ => k_asm); (case k2ρ => k_asm); (case k3ρ => exact acc_inst (by k_asm) (by k_mem) (by k_mem)); (case k4ρ => k_is); (case k5ρ => k_is); (case k6ρ => k_is); (case k7ρ => k_is); (case k8ρ => exact rfl); (case k9ρ => exact rfl); k_whole))
  k_with "m call builtin:len" => (k_here; (with_reducible show wpAny _ _ (call (Value.builtin "len") [Value.ref _]) _ _ _); k_dflt (refine' len_ints_fit ?k1ρ ?k2ρ ?k3ρ ?_; (case k1ρ => exact News.isList (by k_asm) (by k_mem)); (case k2ρ => assumption); (case k3ρ => simp only [List.length_map, List.length_drop, List.length_append]; omega); k_whole); (try simp only [List.length_map]))
  k_with "m call builtin:len" => (k_here; (with_reducible show wpAny _ _ (call (Value.builtin "len") [Value.ref _]) _ _ _); k_dflt (refine' len_K ?k2ρ ?k2bρ ?k3ρ ?k4ρ ?k5ρ ?_; (case k2ρ => k_asm); (case k2bρ => k_asm); (case k3ρ => exact acc_inst (by k_asm) (by k_mem) (by k_mem)); (case k4ρ => k_is); (case k5ρ => k_is); k_whole))
  k_with "m call type:str" => (k_here; (with_reducible show wpAny _ _ (call (Value.type "str") [Value.ref _]) _ _ _); k_dflt (refine' kstr ?k1ρ ?k2ρ ?k2bρ ?k3ρ ?k4ρ ?k5ρ ?_; (case k1ρ => ktr_units); (case k2ρ => k_asm); (case k2bρ => k_asm); (case k3ρ => exact acc_inst (by k_asm) (by k_mem) (by k_mem)); (case k4ρ => k_is); (case k5ρ => k_is); k_whole))
  k_with "m sub" => first | exact fun q hq => hq | exact sub_drop (by walk_at "sub")
  k_with "m subs" => first | exact sub_cons (by k_mem) (by walk_at "subs") | walk_at "sub"
  k_with "m exs" => first | (refine' ex_in ?aρ ?_; (case aρ => k_mem); walk_at "exs") | (refine' ex_ne ?aρ ?_; (case aρ => dsimp only; first | exact ⟨(by with_reducible assumption), (by with_reducible assumption), (by with_reducible assumption), (by with_reducible assumption)⟩ | exact ⟨allLt_ne (by with_reducible assumption) (by k_mem), allLt_ne (by with_reducible assumption) (by k_mem), allLt_ne (by with_reducible assumption) (by k_mem), allLt_ne (by with_reducible assumption) (by k_mem)⟩); walk_at "exs") | exact ex_tl (by walk_at "sub")
  k_with "m rm" => first | with_reducible exact Rm.head | exact Rm.tail (by walk_at "rm")
  k_with "m acc st" => first | with_reducible assumption | exact AccSt.cons (by walk_at "acc st") (by first | omega | k_ne) (by first | omega | k_ne) (by first | omega | k_ne) (by first | omega | k_ne)
  k_with "m call ref" => (k_here; (try dsimp only [List.nil_append, List.cons_append]); (with_reducible show wpAny _ _ (call (Value.ref 67) [Value.ref _]) _ _ _); k_dflt (refine' tl_go ?k1ρ ?k2ρ ?k3ρ ?k4ρ ?k5ρ ?r1ρ ?r2ρ ?r3ρ ?r4ρ (len_acc ?kSρ) ?kkρ ?kdρ ?kuρ ?_; (case k1ρ => k_asm); (case k2ρ => k_asm); (case k3ρ => k_asm); (case k4ρ => k_asm); (case k5ρ => k_asm); (case r1ρ => walk_at "rm"); (case r2ρ => walk_at "rm"); (case r3ρ => walk_at "rm"); (case r4ρ => walk_at "rm"); (case kSρ => walk_at "acc st"); (case kkρ => first | exact rfl | assumption); (case kdρ => ktr_room); (case kuρ => ktr_units); intro r9ρ led9ρ h9ρ gs9ρ tk9ρ F9ρ N9ρ P9ρ G9ρ; obtain ⟨t9ρ, u9ρ, e9ρ, e9'ρ, S9ρ⟩ := P9ρ; subst e9ρ; subst e9'ρ; simp only [grp, List.cons_append, List.nil_append] at N9ρ; (try dsimp only); (try k_sweep); (refine ⟨⟨by omega, by omega⟩, ?_⟩)))
  k_with "m call ref" => (k_here; (try dsimp only [List.nil_append, List.cons_append]); (with_reducible show wpAny _ _ (call (Value.ref 74) [Value.ref _]) _ _ _); k_dflt (refine' tl_go ?k1ρ ?k2ρ ?k3ρ ?k4ρ ?k5ρ ?r1ρ ?r2ρ ?r3ρ ?r4ρ (str_acc ?kSρ) ?kkρ ?kdρ ?kuρ ?_; (case k1ρ => k_asm); (case k2ρ => k_asm); (case k3ρ => k_asm); (case k4ρ => k_asm); (case k5ρ => k_asm); (case r1ρ => walk_at "rm"); (case r2ρ => walk_at "rm"); (case r3ρ => walk_at "rm"); (case r4ρ => walk_at "rm"); (case kSρ => walk_at "acc st"); (case kkρ => first | exact rfl | assumption); (case kdρ => ktr_room); (case kuρ => ktr_units); intro r9ρ led9ρ h9ρ gs9ρ tk9ρ F9ρ N9ρ P9ρ G9ρ; obtain ⟨t9ρ, u9ρ, e9ρ, e9'ρ, S9ρ⟩ := P9ρ; subst e9ρ; subst e9'ρ; simp only [grp, List.cons_append, List.nil_append] at N9ρ; (try dsimp only); (try k_sweep); (dsimp only [W.StrBack])))
  k_with "m call ref" => (k_here; (try dsimp only [List.nil_append, List.cons_append]); (with_reducible show wpAny _ _ (call (Value.ref 89) [Value.ref _]) _ _ _); k_dflt (refine' tl_go ?k1ρ ?k2ρ ?k3ρ ?k4ρ ?k5ρ ?r1ρ ?r2ρ ?r3ρ ?r4ρ (ws_acc ?kSρ) ?kkρ ?kdρ ?kuρ ?_; (case k1ρ => k_asm); (case k2ρ => k_asm); (case k3ρ => k_asm); (case k4ρ => k_asm); (case k5ρ => k_asm); (case r1ρ => walk_at "rm"); (case r2ρ => walk_at "rm"); (case r3ρ => walk_at "rm"); (case r4ρ => walk_at "rm"); (case kSρ => walk_at "acc st"); (case kkρ => first | exact rfl | assumption); (case kdρ => ktr_room); (case kuρ => ktr_units); intro r9ρ led9ρ h9ρ gs9ρ tk9ρ F9ρ N9ρ P9ρ G9ρ; obtain ⟨t9ρ, u9ρ, e9ρ, e9'ρ, S9ρ⟩ := P9ρ; subst e9ρ; subst e9'ρ; simp only [grp, List.cons_append, List.nil_append] at N9ρ; (try dsimp only); (try k_sweep); skip))
  k_with "m compareOp NotEq ref ref" => (k_here; (with_reducible show wpAny _ _ (compareOp CmpOp.NotEq (Value.ref _) (Value.ref _)) _ _ _); k_dflt (refine ne_told (T := (spec _ _).1) (by k_asm) (by first | k_mem | exact List.mem_append_right _ (by k_mem)) (by first | k_mem | exact List.mem_append_right _ (by k_mem)) (by with_reducible assumption) (by with_reducible assumption) (by ktr_units) ?_))
  k_with "m eval ListComp" => (k_here; (with_reducible show wpAny _ _ (eval (Expr.ListComp (Expr.Call (Expr.Name ("chr" : Str) _) [Expr.Name _ _] [] _) _ _ _) _) _ _ _); k_dflt (refine LCg.ListComp_U (F₀ := by k_asm) (by with_unfolding_all rfl) (by decide) (by rfl) (by decide) (by rfl) ?_))
  k_with "m call builtin:str.join" => (k_here; (with_reducible show wpAny _ _ (call (Value.builtin "str.join") [Value.str _ _, Value.ref _]) _ _ _); k_dflt (refine' join_chrs ?j1ρ ?j2ρ ?j3ρ ?j4ρ ?_; (case j1ρ => k_asm); (case j2ρ => k_mem); (case j3ρ => assumption); (case j4ρ => first | omega | (simp only [List.length_map, List.length_take]; omega)); k_whole); intro tJρ kJρ)
  k_with "m CompSrc" => (k_here; (with_reducible show LCg.CompSrc _ _ _ _ _ _ _ (Expr.Call (Expr.Name ("chr" : Str) _) [Expr.Name _ _] [] _) _ _ _ _ _ _); k_dflt (refine' LCg.CompSrc.ledger rfl ?cFρ ?cNρ ?cMρ ?cZρ (fun gC => chr_rest ?cTρ (ns_none_of ?cXρ (Top.g ?cTρ) ?cHρ) rfl rfl rfl ?cOρ ?cLρ ?cDρ ?cIρ ?cRρ ?cSρ ?_); (case cFρ => k_asm); (case cNρ => k_asm); (case cMρ => k_mem); (case cTρ => k_asm); (case cXρ => k_asm); (case cHρ => k_is); (case cOρ => intro _; rfl); (case cLρ => intro _; rfl); (case cDρ => decide); (case cIρ => assumption); (case cRρ => assumption); (case cZρ => rw [sizeLine_eq]; (have hz9ρ := IntsAre.length (by assumption : IntsAre _ (List.map Int.ofNat _))); simp only [List.length_map, List.size_toArray] at hz9ρ ⊢; omega); (case cSρ => exact .inr ⟨_, by k_mem, rfl, _, rfl⟩)); intro ysCρ hysCρ)
  k_with "m compareOp NotEq int int" => (k_here; (with_reducible show wpAny _ _ (compareOp CmpOp.NotEq (Value.int _ _) (Value.int _ _)) _ _ _); k_dflt (refine ne_eqi (by omega) ?_))
  k_with "m compareOp NotEq str str" => (k_here; (with_reducible show wpAny _ _ (compareOp CmpOp.NotEq (Value.str _ _) (Value.str (txt _) _)) _ _ _); k_dflt (refine ne_eqs (txt_eq (by assumption)) ?_))
  k_with "m eval ListComp" => (k_here; (with_reducible show wpAny _ _ (eval (Expr.ListComp (Expr.Name ("octet" : Str) _) _ _ _) _) _ _ _); k_dflt (refine LCt.ListComp_T (F₀ := by k_asm) (by with_unfolding_all rfl) (by decide) (by rfl) (by decide) (by rfl) ?_))
  k_with "m CompSrcT" => (k_here; k_dflt (refine' LCt.CompSrcT.ledger rfl ?cFρ ?cNρ ?cMρ ?cZρ (fun gC => white_rest (us := us) (wn := whiteN) ?w1ρ ?w2ρ ?w3ρ ?w4ρ rfl rfl ?cOρ ?cLρ ?cDρ ?cEρ ?cIρ ?cSρ ?_); (case cFρ => k_asm); (case cNρ => k_asm); (case cMρ => k_mem); (case w1ρ => k_mem); (case w2ρ => assumption); (case w3ρ => k_mem); (case w4ρ => exact hwv); (case cOρ => intro _; rfl); (case cLρ => intro _; rfl); (case cDρ => decide); (case cEρ => decide); (case cIρ => exact hU); (case cZρ => rw [sizeLine_eq]; (have hz9ρ := IntsAre.length hU); simp only [List.length_map, List.size_toArray] at hz9ρ ⊢; omega); (case cSρ => exact .inr ⟨_, by k_mem, rfl, _, rfl⟩)); intro ysCρ hysCρ)
  k_with "m compareOp NotEq bool bool" => (k_here; (with_reducible show wpAny _ _ (compareOp CmpOp.NotEq (Value.bool _) (Value.bool _)) _ _ _); k_dflt (refine ne_eqb (by first | exact ws_b2 (by assumption) | exact ws_b1 (by assumption) (by assumption) (by assumption)) ?_))
  k_with "m bare" => first | assumption | (refine (by assumption : AllBare _ → AllBare _) ?_; dsimp only; walk_at "bare")
  trivial
def Stop3 (P : Prop) : Prop := P
theorem Stop3.go {P : Prop} (h : Stop3 P) : P := h
theorem tail_ok {w : World} {p : Program} {loose : List Str} {mean : ExcName → Option Value} {mg mb : Str → Option Value} (cs : Scope) (hcs : lawScope w.params = some cs) (bd : List Stmt) (hbd : (forBody (lawBody w.params)).drop 3 = bd)
    {G : Heap} {L fa : Addr} {ccd : Value} {h : Heap} {gs : Array GenState} {dr : Drawn} {tk : Nat} {os : OsState} {Q : Flow → Shared → Prop} {E : Value → Shared → Prop}
    {acc d U lw : Addr} {tk0 tkz tz : Tok} {oW : Obj} {items t1 t2 : Array Value} {n nU : Nat} {z : Int} {ps : List (Str × Str)} {us : List Nat} {vsU wv : List Value} {tl : List (Addr × Obj)}
    {v1 v2 v3 v4 v5 v6 v7 v8 v9 : Option Value}
    (B : Below callerA G [] G) (XB : (Mine.hd.heap_1 w.params).In G) (TB : Top p loose mean mg mb G) (hE : PassesOwn (model PySem.Challenge.rw_ij0160_01.row.prog w) (callerA.deeper (envOfC (Str.ofString "law") cs L fa ccd)) (envOfC (Str.ofString "law") cs L fa ccd) E)
    (F : Fr G L h (fun y => if y = Str.ofString "x" then v8 else if y = Str.ofString "size" then some (.int z tz) else if y = Str.ofString "unread" then some (.ref U) else if y = Str.ofString "stream" then v9 else if y = Str.ofString "acc" then some (.ref acc) else if y = Str.ofString "deed" then v1 else if y = Str.ofString "octets" then v2 else if y = Str.ofString "signs" then v3 else if y = Str.ofString "due" then v4 else if y = Str.ofString "taken" then v5 else if y = Str.ofString "told" then v6 else if y = Str.ofString "script" then v7 else none))
    (N : News G L h ((acc, accO 100 d items n) :: (d, szD w tk0 z tkz) :: (62, tabObj t1) :: (69, tabObj t2) :: (U, W.listOf vsU.toArray nU) :: (lw, W.listOf wv.toArray 0) :: (L + 1 + 1, oW) :: tl))
    (hoW : oW.data = .cell (some (.ref lw))) (hwv : IntsAre wv [9, 10, 32, 133, 160])
    (S : AccSt acc d items z t1 t2 ps ((U, W.listOf vsU.toArray nU) :: (lw, W.listOf wv.toArray 0) :: (L + 1 + 1, oW) :: tl))
    (hu : octs (textP ps) = us) (hU : IntsAre vsU (us.map Int.ofNat)) (hTb : ∀ q ∈ us, q ∈ tabN) (hl : us.length ≤ 130) (hG : AllBare gs)
    (hret : ∀ h' gs' tk' t1' t2', Fr G L h' (fun y => if y = Str.ofString "x" then v8 else if y = Str.ofString "size" then some (.int z tz) else if y = Str.ofString "unread" then some (.ref U) else if y = Str.ofString "stream" then v9 else if y = Str.ofString "acc" then some (.ref acc) else if y = Str.ofString "deed" then v1 else if y = Str.ofString "octets" then v2 else if y = Str.ofString "signs" then v3 else if y = Str.ofString "due" then v4 else if y = Str.ofString "taken" then v5 else if y = Str.ofString "told" then v6 else if y = Str.ofString "script" then v7 else none) →
      News G L h' ((acc, accO 100 d items n) :: (d, szD w tk0 z tkz) :: (62, tabObj t1') :: (69, tabObj t2') :: (U, W.listOf vsU.toArray nU) :: (lw, W.listOf wv.toArray 0) :: (L + 1 + 1, oW) :: tl) →
      AccSt acc d items z t1' t2' ps ((U, W.listOf vsU.toArray nU) :: (lw, W.listOf wv.toArray 0) :: (L + 1 + 1, oW) :: tl) → AllBare gs' → Q .next ⟨h', gs', dr, tk', os⟩) :
    wpAny (model PySem.Challenge.rw_ij0160_01.row.prog w) (callerA.deeper (envOfC (Str.ofString "law") cs L fa ccd)) (execs bd (envOfC (Str.ofString "law") cs L fa ccd)) (fun f s' => Q f s') E ⟨h, gs, dr, tk, os⟩ := by
  conv at hcs => lhs; whnf
  conv at hbd => lhs; whnf
  cases hcs
  subst hbd
  revert XB
  k_fill
  intro XB
  have X := XB
  have T := TB
  have ho : ∀ q ∈ us, q < 256 := fun q hq => tabN_lt q (hTb q hq)
  have hz := S.hz
  have ho2 : ∀ q ∈ us, q < 1000 := fun q hq => Nat.lt_trans (ho q hq) (by decide)
  have hlp : lenP ps = (us.length : Int) := by rw [lenP_octs, hu]
  have hret' : ∀ h' gs' tk' t1' t2' news' rest2, Fr G L h' _ → News G L h' news' → (∀ q ∈ ((acc, accO 100 d items n) :: (d, szD w tk0 z tkz) :: (62, tabObj t1') :: (69, tabObj t2') :: (U, W.listOf vsU.toArray nU) :: (lw, W.listOf wv.toArray 0) :: (L + 1 + 1, oW) :: tl : List (Addr × Obj)), q ∈ news') →
      AccSt acc d items z t1' t2' ps rest2 → AllBare gs' → Q .next ⟨h', gs', dr, tk', os⟩ := fun h' gs' tk' t1' t2' news' rest2 F' N' hs S' G' =>
    hret h' gs' tk' t1' t2' F' (fun q hq => N' q (hs q hq)) { S with tr1 := S'.tr1, tr2 := S'.tr2 } G'
  clear hret
  k_steps
  all_goals (rename AccSt _ _ _ _ _ _ _ _ => S9)
  all_goals (refine hret' _ _ _ _ _ _ _ (by k_asm) (by k_asm) ?_ S9 (by walk_at "bare"))
  all_goals (walk_at "subs")
end Mine
end
section
open PySem PySem.W PyProof.Rows PySem.Calls
set_option maxRecDepth 100000
set_option maxHeartbeats 40000000
namespace Mine
theorem kw_LD9_0 : True := by
  k_with_none
  trivial
section
variable {prog : Program} {w : World} {A : Around} {E : Value → Shared → Prop} {s : Shared} {t tn tm tx : Tok} {n m : Int} {Q : Value → Shared → Prop} {b L : Addr} {k : Nat} {h₀ : Heap} {news : List (Addr × Obj)}
theorem fmt_b (N : News h₀ L s.heap news) (hb : (b, ({ cls := .type "tuple", data := .seq #[.int n tn, .int m tm] k } : Obj)) ∈ news) (n0 : 0 ≤ n) (n1 : n < 1000) (m0 : 0 ≤ m) (m1 : m < 1000)
    (h : ∀ t' k, Q (.str (Str.ofString "expected " ++ Str.ofString (toString n) ++ Str.ofString " bytes in a bytes1, but only " ++ Str.ofString (toString m) ++ Str.ofString " remain") t') { s with toks := k }) :
    wpAny (model prog w) A (binaryOp .Mod (.str (Str.ofString "expected %d bytes in a bytes1, but only %d remain") t) (.ref b)) Q E s := by
  refine' KPt.mod_tuple ?kptN ?kptb ?kptF ?kptm ?_
  case kptN => exact N
  case kptb => exact hb
  case kptF => kpt_eq
  case kptm => kpt_run
  exact h
theorem fmt_s (N : News h₀ L s.heap news) (hb : (b, ({ cls := .type "tuple", data := .seq #[.int n tn, .int m tm] k } : Obj)) ∈ news) (n0 : 0 ≤ n) (n1 : n < 1000) (m0 : 0 ≤ m) (m1 : m < 1000)
    (h : ∀ t' k, Q (.str (Str.ofString "expected " ++ Str.ofString (toString n) ++ Str.ofString " bytes in a string1, but only " ++ Str.ofString (toString m) ++ Str.ofString " remain") t') { s with toks := k }) :
    wpAny (model prog w) A (binaryOp .Mod (.str (Str.ofString "expected %d bytes in a string1, but only %d remain") t) (.ref b)) Q E s := by
  refine' KPt.mod_tuple ?kptN ?kptb ?kptF ?kptm ?_
  case kptN => exact N
  case kptb => exact hb
  case kptF => kpt_eq
  case kptm => kpt_run
  exact h
end
end Mine
end
section
open PySem PySem.W PyProof.Rows PySem.Calls
set_option maxRecDepth 100000
set_option maxHeartbeats 40000000
namespace Mine
theorem kw_LD6_1 : True := by
  k_with_none
  k_with "m rm" => first | with_reducible exact Rm.head | exact Rm.tail (by walk_at "rm")
  k_with "m acc st" => first | assumption | exact AccSt.cons (by walk_at "acc st") (by first | omega | k_ne) (by first | omega | k_ne) (by first | omega | k_ne) (by first | omega | k_ne)
  k_with "m getMethod ref" => (k_here; k_dflt (refine lmeth_fn (by k_asm) (by k_mem) (by k_mem) rfl ?_))
  k_with "m callWith ref" => (k_here; (with_reducible show wpAny _ _ (callWith _ (Value.ref _) [] (backTo _ (starEach (_ :: _) _)) []) _ _ _); k_dflt (refine cw_read (by k_asm) (by k_mem) ((by assumption : IsFns _) _ _ _ _) ?_))
  k_with "m And" => ((with_reducible show FnAt _ _ _ ∧ _); k_dflt (refine ⟨fn_at (by k_asm) (by k_mem), ?_⟩); (try dsimp only [List.nil_append, List.cons_append]))
  k_with "m call ref" => (k_here; (try dsimp only [List.nil_append, List.cons_append]); (with_reducible show wpAny _ _ (call (Value.ref _) [Value.int _ _]) _ _ _); k_dflt (refine' tl_go9 ?k1ρ ?k2ρ ?k3ρ ?k4ρ ?k5ρ ?r1ρ ?r2ρ ?r3ρ ?r4ρ ?r5ρ ?r6ρ ?r7ρ ?r8ρ ?r9ρ (Reads.us ?hRρ ?kSρ ?kDρ ?huρ ?hpρ ?h0ρ ?h1ρ ?hlρ ?hoρ) ?kkρ ?kdρ ?kuρ ?_); (case k1ρ => k_asm); (case k2ρ => k_asm); (case k3ρ => k_asm); (case k4ρ => k_asm); (case k5ρ => k_asm); (case hRρ => assumption); (case kDρ => assumption); (case r1ρ => walk_at "rm"); (case r2ρ => walk_at "rm"); (case r3ρ => walk_at "rm"); (case r4ρ => walk_at "rm"); (case r5ρ => walk_at "rm"); (case r6ρ => walk_at "rm"); (case r7ρ => walk_at "rm"); (case r8ρ => walk_at "rm"); (case r9ρ => walk_at "rm"); (case kSρ => assumption); (case huρ => assumption); (case hpρ => assumption); (case h0ρ => omega); (case h1ρ => omega); (case hlρ => first | assumption | walk_at "us len"); (case hoρ => first | assumption | walk_at "us lt"); (case kkρ => first | exact rfl | assumption); (case kdρ => ktr_room); (case kuρ => ktr_units); intro r9ρ led9ρ h9ρ gs9ρ tk9ρ F9ρ N9ρ P9ρ G9ρ; obtain ⟨b9ρ, t9ρ, itn9ρ, n9ρ, tz9ρ, t19ρ, t29ρ, psn9ρ, new9ρ, ⟨e9ρ, i9ρ⟩, e9'ρ, S9ρ, u9ρ, p9ρ⟩ := P9ρ; subst e9ρ; subst e9'ρ; simp only [grp, strm, List.cons_append, List.nil_append] at N9ρ; (try dsimp only); (try simp only [Int.toNat_one, List.take_succ_cons, List.take_zero, List.take_nil, List.map_cons, List.map_nil, List.drop_succ_cons, List.drop_zero, List.drop_nil] at u9ρ); (try simp only [Int.toNat_one, List.take_succ_cons, List.take_zero, List.take_nil, List.map_cons, List.map_nil, Int.ofNat_eq_natCast] at i9ρ))
  k_with "m mine try" => (refine' enter_try ?k1ρ ?k2ρ ?k3ρ ?k4ρ ?k5ρ ?kAρ ?kFρ ?kKρ ?k6ρ ?k7ρ ?k8ρ ?k9ρ ?kBρ ?_ ?c2ρ ?c3ρ ?c4ρ ?c5ρ; (case kAρ => exact rfl); (case kFρ => exact rfl); (case kKρ => assumption); (case k1ρ => k_asm); (case k2ρ => k_asm); (case k3ρ => k_asm); (case k4ρ => k_asm); (case k5ρ => k_asm); (case k6ρ => k_is); (case k7ρ => k_is); (case k8ρ => k_room); (case k9ρ => exact BindsTo.of_eq rfl); (case kBρ => exact locs rfl); (case c2ρ => exact rfl); (case c3ρ => exact rfl); (case c4ρ => exact rfl); (case c5ρ => decide); k_whole; intro g'ρ L'ρ h'ρ FG'ρ F'ρ N'ρ B'ρ X'ρ T'ρ D'ρ; (try dsimp only); (try k_lift B'ρ); (try k_fold))
  k_with "m subscriptTail" => (k_here; (with_reducible show wpAny _ _ (subscriptTail _ _ (Value.bytes _ _) (Value.int _ _)) _ _ _); (refine item0 (by assumption) (by simp only [List.length_nil]; omega) ?_); intro _ _ itLoρ itHiρ)
  k_with "m call type:str" => (k_here; (with_reducible show wpAny _ _ (call (Value.type "str") [Value.ref _]) _ _ _); (rename Got _ _ _ _ _ => gXρ); k_dflt (refine str_got_one PySem.F.excStr_ValueError (by assumption) gXρ (by first | decide | ktr_units) ?_))
  k_with "m b size" => (rename KBw.bInts _ = List.map _ _ => i9x; rw [← KBw.ints_length, i9x]; simp only [List.length_map, List.length_take]; omega)
  k_with "m call builtin:bytes.decode" => (k_here; (with_reducible show wpAny _ _ (call (Value.builtin "bytes.decode") [Value.bytes _ _, Value.str _ _]) _ _ _); k_dflt (refine' call_dec ?klρ ?_; (case klρ => walk_at "b size"); k_whole); intro _ _)
  k_with "m callWith ref" => (k_here; (with_reducible show wpAny _ _ (callWith _ (Value.ref _) _ _ (backToKw _ (keywordEach (_ :: _) _))) _ _ _); dsimp only; k_dflt (refine' callWith_signed ?kFρ rfl ?kvρ rfl ?kxρ ?kyρ ?koρ ?klρ ?_; (case kFρ => k_asm); (case kvρ => exact rfl); (case kxρ => exact rfl); (case kyρ => decide); (case koρ => exact KFB.at_of (by k_asm) (by k_mem)); (case klρ => walk_at "b size"); k_whole); intro _ _)
  k_with "m exec Raise some none" => (k_here; (with_reducible show wpAny _ _ (exec (Stmt.Raise (some (Expr.Call (Expr.Name _ _) (_ :: _) [] _)) none _) _) _ _ _); k_dflt (refine Raise_madeB PySem.F.excCall_ValueError PySem.F.excRaise_ValueError rfl ?_))
  k_with "m And" => ((with_reducible show Value.type "ValueError" = Value.type "ValueError" ∧ _); refine ⟨rfl, ?_⟩)
  k_with "m And" => ((with_reducible show List.length _ ≤ sizeLine ∧ _); refine ⟨by rw [sizeLine_eq]; decide, ?_⟩; intro hR'ρ eR'ρ mR'ρ)
  k_with "m bare" => (intro gρ; solve_by_elim)
  k_with "m binaryOp Mod str ref" => (k_here; (with_reducible show wpAny _ _ (binaryOp Operator.Mod (Value.str _ _) (Value.ref _)) _ _ _); k_dflt (first | refine' fmt_b ?fNρ ?fbρ ?n0ρ ?n1ρ ?m0ρ ?m1ρ ?_; (case fNρ => k_asm); (case fbρ => k_mem); (case n0ρ => omega); (case n1ρ => omega); (case m0ρ => omega); (case m1ρ => omega)); intro _ _)
  trivial
section
variable {w : World} {p : Program} {loose : List Str} {mean : ExcName → Option Value} {mg mb : Str → Option Value}
theorem try_1 {o : Addr → Value → Value → Addr → Obj} (hIF : IsFns o) (hR : Reads w p loose mean mg mb o)
    {acc d : Addr} {items : Array Value} {n : Nat} {tk0 tkz tk : Tok} {z : Int} {ps : List (Str × Str)} {t1 t2 : Array Value} {rest : List (Addr × Obj)} {sd st rd c La : Addr} {doc ctv : Value} {tks : Tok} {fd : FuncData} {sl : Array (Option Value)} {oc oca : Obj} {vs : Array Value} {t : Tok} {np : Nat} {u1 : Nat} {us : List Nat}
    (S : AccSt acc d items z t1 t2 ps (strm w o sd st rd c La doc ctv tks fd sl oc oca ++ rest)) (D : StrmSt acc sd st rd c La oc oca vs t) (hu : octs (textP ps) = u1 :: us) (hp : ps.length ≤ np) (hl : (u1 :: us).length ≤ 1000) (ho : ∀ o ∈ u1 :: us, o < 256) :
      Tl0 w (Mine.hd.heap_1 w.params) p loose mean mg mb (call (.ref 153) [.int 1 tk, .ref st]) (ledL w o acc d items n tk0 z tkz t1 t2 sd st rd c La doc ctv tks fd sl oc oca rest)
        (TryPost w o 1 acc d (u1 :: us) np tk0 sd st rd c La doc ctv tks fd sl oc oca rest) := by
  unfold Tl0
  k_fill
  intro cn cs a ccd cl base h₀ L m s Q E B F X N T XB TB hk hret
  have hl1 : us.length ≤ 1000 := by simp only [List.length_cons] at hl; omega
  have ho1 : ∀ o ∈ us, o < 256 := fun o h => ho o (.tail _ h)
  have h256 : u1 < 256 := ho u1 (.head _)
  have hret' : ∀ (l : Addr) (vs : List Value) (itn : Array Value) (n' : Nat) (tz : Tok) (t1' t2' : Array Value) (psn : List (Str × Str)) (new rest' : List (Addr × Obj)) (h' : Heap) (gs' : Array GenState) (tk' : Nat) (X : Prop) (news' : List (Addr × Obj)), rest' = new ++ rest →
      AccSt acc d itn 0 t1' t2' psn (strm w o sd st rd c La doc ctv tks fd sl oc oca ++ rest') → octs (textP psn) = (u1 :: us).drop (spec 1 (u1 :: us)).2 → psn.length ≤ np → (@LT.lt Nat _ acc l ∧ @LT.lt Nat _ d l ∧ @LT.lt Nat _ 62 l ∧ @LT.lt Nat _ 69 l ∧ X) →
      (spec 1 (u1 :: us)).1.Vs vs → Fr h₀ L h' m → News h₀ L h' news' → (∀ q ∈ (l, W.listOf vs.toArray 0) :: ledL w o acc d itn n' tk0 0 tz t1' t2' sd st rd c La doc ctv tks fd sl oc oca rest', q ∈ news') → (AllBare s.gens → AllBare gs') → Q (.ref l) ⟨h', gs', s.drawn, tk', s.os⟩ := by
    intro l vs itn n' tz t1' t2' psn new rest' h' gs' tk' X news' hrr S' u' p' hl hv F' N' hsub G'
    subst hrr
    exact hret _ _ h' gs' tk' F' (fun q hq => N' q (hsub q hq)) ⟨l, vs, itn, n', tz, t1', t2', psn, new, rfl, hv, rfl, S', u', p', Nat.ne_of_gt hl.1, Nat.ne_of_gt hl.2.1, Nat.ne_of_gt hl.2.2.1, Nat.ne_of_gt hl.2.2.2.1⟩ G'
  clear hret
  simp only [ledL] at N
  refine wpAny_call ?_
  k_dflt (walk_at "mine try")
  k_steps
  all_goals try (rename ¬ (0 < List.length _) => hc; exact absurd Nat.zero_lt_one hc)
  · rename AccSt _ _ _ _ _ _ _ _ => S9
    rename octs (textP _) = _ => u9
    rename List.length _ ≤ np => p9
    rename (@LT.lt Nat _ acc _ ∧ _) => l9
    rename KBw.bInts _ = List.map _ _ => i9
    rename (_ = ((u1 : Nat) : Int)) => hc
    rw [Int.toNat_natCast] at hc i9 u9
    have hle : u1 ≤ us.length := by omega
    have hsp := spec_ok (k := 1) (u1 := u1) (us := us) (by decide) hle
    refine hret' _ _ _ _ _ _ _ _ _ _ _ _ _ _ _ (List.append_assoc _ _ _).symm S9 (by rw [hsp]; exact u9) p9 l9 ?_ (by k_asm) (by k_asm) (fun q hq => hq) (by walk_at "bare")
    rw [hsp]
    exact ⟨_, _, rfl, i9⟩
  · rename AccSt _ _ _ _ _ _ _ _ => S9
    rename octs (textP _) = _ => u9
    rename List.length _ ≤ np => p9
    rename (@LT.lt Nat _ _ _ ∧ @LT.lt Nat _ acc _ ∧ _) => l9
    rename ¬ (_ = ((u1 : Nat) : Int)) => hc
    rw [Int.toNat_natCast] at hc u9
    have hlt : us.length < u1 := by omega
    have hsp := spec_short (k := 1) (u1 := u1) (us := us) (by decide) hlt
    refine hret' _ _ _ _ _ _ _ _ _ _ _ _ _ _ _ (List.append_assoc _ _ _).symm S9 (by rw [hsp]; exact u9.trans (drop_short hlt)) p9 l9.2 ?_ (by k_asm) (by k_asm) (by intro q hq; exact (List.mem_cons.mp hq).elim (fun h => by rw [h]; exact List.Mem.head _) (fun h => List.Mem.tail _ (List.Mem.tail _ h))) (by walk_at "bare")
    rw [hsp]
    exact ⟨_, congrArg (fun z => [Value.none, Value.str z _]) (by rw [Int.toNat_natCast, Nat.min_eq_right (Nat.le_of_lt hlt)]; rfl)⟩

end
end Mine
end
section
open PySem PySem.W PyProof.Rows PySem.Calls
set_option maxRecDepth 100000
set_option maxHeartbeats 40000000
namespace Mine
theorem kw_LD7_1 : True := by
  k_with_none
  k_with "m rm" => first | with_reducible exact Rm.head | exact Rm.tail (by walk_at "rm")
  k_with "m acc st" => first | assumption | exact AccSt.cons (by walk_at "acc st") (by first | omega | k_ne) (by first | omega | k_ne) (by first | omega | k_ne) (by first | omega | k_ne)
  k_with "m getMethod ref" => (k_here; k_dflt (refine lmeth_fn (by k_asm) (by k_mem) (by k_mem) rfl ?_))
  k_with "m callWith ref" => (k_here; (with_reducible show wpAny _ _ (callWith _ (Value.ref _) [] (backTo _ (starEach (_ :: _) _)) []) _ _ _); k_dflt (refine cw_read (by k_asm) (by k_mem) ((by assumption : IsFns _) _ _ _ _) ?_))
  k_with "m And" => ((with_reducible show FnAt _ _ _ ∧ _); k_dflt (refine ⟨fn_at (by k_asm) (by k_mem), ?_⟩); (try dsimp only [List.nil_append, List.cons_append]))
  k_with "m call ref" => (k_here; (try dsimp only [List.nil_append, List.cons_append]); (with_reducible show wpAny _ _ (call (Value.ref _) [Value.int _ _]) _ _ _); k_dflt (refine' tl_go9 ?k1ρ ?k2ρ ?k3ρ ?k4ρ ?k5ρ ?r1ρ ?r2ρ ?r3ρ ?r4ρ ?r5ρ ?r6ρ ?r7ρ ?r8ρ ?r9ρ (Reads.us ?hRρ ?kSρ ?kDρ ?huρ ?hpρ ?h0ρ ?h1ρ ?hlρ ?hoρ) ?kkρ ?kdρ ?kuρ ?_); (case k1ρ => k_asm); (case k2ρ => k_asm); (case k3ρ => k_asm); (case k4ρ => k_asm); (case k5ρ => k_asm); (case hRρ => assumption); (case kDρ => assumption); (case r1ρ => walk_at "rm"); (case r2ρ => walk_at "rm"); (case r3ρ => walk_at "rm"); (case r4ρ => walk_at "rm"); (case r5ρ => walk_at "rm"); (case r6ρ => walk_at "rm"); (case r7ρ => walk_at "rm"); (case r8ρ => walk_at "rm"); (case r9ρ => walk_at "rm"); (case kSρ => assumption); (case huρ => assumption); (case hpρ => assumption); (case h0ρ => omega); (case h1ρ => omega); (case hlρ => first | assumption | walk_at "us len"); (case hoρ => first | assumption | walk_at "us lt"); (case kkρ => first | exact rfl | assumption); (case kdρ => ktr_room); (case kuρ => ktr_units); intro r9ρ led9ρ h9ρ gs9ρ tk9ρ F9ρ N9ρ P9ρ G9ρ; obtain ⟨b9ρ, t9ρ, itn9ρ, n9ρ, tz9ρ, t19ρ, t29ρ, psn9ρ, new9ρ, ⟨e9ρ, i9ρ⟩, e9'ρ, S9ρ, u9ρ, p9ρ⟩ := P9ρ; subst e9ρ; subst e9'ρ; simp only [grp, strm, List.cons_append, List.nil_append] at N9ρ; (try dsimp only); (try simp only [Int.toNat_one, List.take_succ_cons, List.take_zero, List.take_nil, List.map_cons, List.map_nil, List.drop_succ_cons, List.drop_zero, List.drop_nil] at u9ρ); (try simp only [Int.toNat_one, List.take_succ_cons, List.take_zero, List.take_nil, List.map_cons, List.map_nil, Int.ofNat_eq_natCast] at i9ρ))
  k_with "m mine try" => (refine' enter_try ?k1ρ ?k2ρ ?k3ρ ?k4ρ ?k5ρ ?kAρ ?kFρ ?kKρ ?k6ρ ?k7ρ ?k8ρ ?k9ρ ?kBρ ?_ ?c2ρ ?c3ρ ?c4ρ ?c5ρ; (case kAρ => exact rfl); (case kFρ => exact rfl); (case kKρ => assumption); (case k1ρ => k_asm); (case k2ρ => k_asm); (case k3ρ => k_asm); (case k4ρ => k_asm); (case k5ρ => k_asm); (case k6ρ => k_is); (case k7ρ => k_is); (case k8ρ => k_room); (case k9ρ => exact BindsTo.of_eq rfl); (case kBρ => exact locs rfl); (case c2ρ => exact rfl); (case c3ρ => exact rfl); (case c4ρ => exact rfl); (case c5ρ => decide); k_whole; intro g'ρ L'ρ h'ρ FG'ρ F'ρ N'ρ B'ρ X'ρ T'ρ D'ρ; (try dsimp only); (try k_lift B'ρ); (try k_fold))
  k_with "m subscriptTail" => (k_here; (with_reducible show wpAny _ _ (subscriptTail _ _ (Value.bytes _ _) (Value.int _ _)) _ _ _); (refine item0 (by assumption) (by simp only [List.length_nil]; omega) ?_); intro _ _ itLoρ itHiρ)
  k_with "m call type:str" => (k_here; (with_reducible show wpAny _ _ (call (Value.type "str") [Value.ref _]) _ _ _); (rename Got _ _ _ _ _ => gXρ); k_dflt (refine str_got_one PySem.F.excStr_ValueError (by assumption) gXρ (by first | decide | ktr_units) ?_))
  k_with "m b size" => (rename KBw.bInts _ = List.map _ _ => i9x; rw [← KBw.ints_length, i9x]; simp only [List.length_map, List.length_take]; omega)
  k_with "m call builtin:bytes.decode" => (k_here; (with_reducible show wpAny _ _ (call (Value.builtin "bytes.decode") [Value.bytes _ _, Value.str _ _]) _ _ _); k_dflt (refine' call_dec ?klρ ?_; (case klρ => walk_at "b size"); k_whole); intro _ _)
  k_with "m callWith ref" => (k_here; (with_reducible show wpAny _ _ (callWith _ (Value.ref _) _ _ (backToKw _ (keywordEach (_ :: _) _))) _ _ _); dsimp only; k_dflt (refine' callWith_signed ?kFρ rfl ?kvρ rfl ?kxρ ?kyρ ?koρ ?klρ ?_; (case kFρ => k_asm); (case kvρ => exact rfl); (case kxρ => exact rfl); (case kyρ => decide); (case koρ => exact KFB.at_of (by k_asm) (by k_mem)); (case klρ => walk_at "b size"); k_whole); intro _ _)
  k_with "m exec Raise some none" => (k_here; (with_reducible show wpAny _ _ (exec (Stmt.Raise (some (Expr.Call (Expr.Name _ _) (_ :: _) [] _)) none _) _) _ _ _); k_dflt (refine Raise_madeB PySem.F.excCall_ValueError PySem.F.excRaise_ValueError rfl ?_))
  k_with "m And" => ((with_reducible show Value.type "ValueError" = Value.type "ValueError" ∧ _); refine ⟨rfl, ?_⟩)
  k_with "m And" => ((with_reducible show List.length _ ≤ sizeLine ∧ _); refine ⟨by rw [sizeLine_eq]; decide, ?_⟩; intro hR'ρ eR'ρ mR'ρ)
  k_with "m bare" => (intro gρ; solve_by_elim)
  k_with "m binaryOp Mod str ref" => (k_here; (with_reducible show wpAny _ _ (binaryOp Operator.Mod (Value.str _ _) (Value.ref _)) _ _ _); k_dflt (first | refine' fmt_s ?fNρ ?fbρ ?n0ρ ?n1ρ ?m0ρ ?m1ρ ?_; (case fNρ => k_asm); (case fbρ => k_mem); (case n0ρ => omega); (case n1ρ => omega); (case m0ρ => omega); (case m1ρ => omega)); intro _ _)
  trivial
section
variable {w : World} {p : Program} {loose : List Str} {mean : ExcName → Option Value} {mg mb : Str → Option Value}
theorem try_2 {o : Addr → Value → Value → Addr → Obj} (hIF : IsFns o) (hR : Reads w p loose mean mg mb o)
    {acc d : Addr} {items : Array Value} {n : Nat} {tk0 tkz tk : Tok} {z : Int} {ps : List (Str × Str)} {t1 t2 : Array Value} {rest : List (Addr × Obj)} {sd st rd c La : Addr} {doc ctv : Value} {tks : Tok} {fd : FuncData} {sl : Array (Option Value)} {oc oca : Obj} {vs : Array Value} {t : Tok} {np : Nat} {u1 : Nat} {us : List Nat}
    (S : AccSt acc d items z t1 t2 ps (strm w o sd st rd c La doc ctv tks fd sl oc oca ++ rest)) (D : StrmSt acc sd st rd c La oc oca vs t) (hu : octs (textP ps) = u1 :: us) (hp : ps.length ≤ np) (hl : (u1 :: us).length ≤ 1000) (ho : ∀ o ∈ u1 :: us, o < 256) :
      Tl0 w (Mine.hd.heap_1 w.params) p loose mean mg mb (call (.ref 153) [.int 2 tk, .ref st]) (ledL w o acc d items n tk0 z tkz t1 t2 sd st rd c La doc ctv tks fd sl oc oca rest)
        (TryPost w o 2 acc d (u1 :: us) np tk0 sd st rd c La doc ctv tks fd sl oc oca rest) := by
  unfold Tl0
  k_fill
  intro cn cs a ccd cl base h₀ L m s Q E B F X N T XB TB hk hret
  have hl1 : us.length ≤ 1000 := by simp only [List.length_cons] at hl; omega
  have ho1 : ∀ o ∈ us, o < 256 := fun o h => ho o (.tail _ h)
  have h256 : u1 < 256 := ho u1 (.head _)
  have hret' : ∀ (l : Addr) (vs : List Value) (itn : Array Value) (n' : Nat) (tz : Tok) (t1' t2' : Array Value) (psn : List (Str × Str)) (new rest' : List (Addr × Obj)) (h' : Heap) (gs' : Array GenState) (tk' : Nat) (X : Prop) (news' : List (Addr × Obj)), rest' = new ++ rest →
      AccSt acc d itn 0 t1' t2' psn (strm w o sd st rd c La doc ctv tks fd sl oc oca ++ rest') → octs (textP psn) = (u1 :: us).drop (spec 2 (u1 :: us)).2 → psn.length ≤ np → (@LT.lt Nat _ acc l ∧ @LT.lt Nat _ d l ∧ @LT.lt Nat _ 62 l ∧ @LT.lt Nat _ 69 l ∧ X) →
      (spec 2 (u1 :: us)).1.Vs vs → Fr h₀ L h' m → News h₀ L h' news' → (∀ q ∈ (l, W.listOf vs.toArray 0) :: ledL w o acc d itn n' tk0 0 tz t1' t2' sd st rd c La doc ctv tks fd sl oc oca rest', q ∈ news') → (AllBare s.gens → AllBare gs') → Q (.ref l) ⟨h', gs', s.drawn, tk', s.os⟩ := by
    intro l vs itn n' tz t1' t2' psn new rest' h' gs' tk' X news' hrr S' u' p' hl hv F' N' hsub G'
    subst hrr
    exact hret _ _ h' gs' tk' F' (fun q hq => N' q (hsub q hq)) ⟨l, vs, itn, n', tz, t1', t2', psn, new, rfl, hv, rfl, S', u', p', Nat.ne_of_gt hl.1, Nat.ne_of_gt hl.2.1, Nat.ne_of_gt hl.2.2.1, Nat.ne_of_gt hl.2.2.2.1⟩ G'
  clear hret
  simp only [ledL] at N
  refine wpAny_call ?_
  k_dflt (walk_at "mine try")
  k_steps
  all_goals try (rename ¬ (0 < List.length _) => hc; exact absurd Nat.zero_lt_one hc)
  · rename AccSt _ _ _ _ _ _ _ _ => S9
    rename octs (textP _) = _ => u9
    rename List.length _ ≤ np => p9
    rename (@LT.lt Nat _ acc _ ∧ _) => l9
    rename KBw.bInts _ = List.map _ _ => i9
    rename (_ = ((u1 : Nat) : Int)) => hc
    rw [Int.toNat_natCast] at hc i9 u9
    have hle : u1 ≤ us.length := by omega
    have hsp := spec_ok (k := 2) (u1 := u1) (us := us) (by decide) hle
    refine hret' _ _ _ _ _ _ _ _ _ _ _ _ _ _ _ (List.append_assoc _ _ _).symm S9 (by rw [hsp]; exact u9) p9 l9 ?_ (by k_asm) (by k_asm) (fun q hq => hq) (by walk_at "bare")
    rw [hsp]
    exact ⟨_, _, rfl, octs_bytes i9⟩
  · rename AccSt _ _ _ _ _ _ _ _ => S9
    rename octs (textP _) = _ => u9
    rename List.length _ ≤ np => p9
    rename (@LT.lt Nat _ _ _ ∧ @LT.lt Nat _ acc _ ∧ _) => l9
    rename ¬ (_ = ((u1 : Nat) : Int)) => hc
    rw [Int.toNat_natCast] at hc u9
    have hlt : us.length < u1 := by omega
    have hsp := spec_short (k := 2) (u1 := u1) (us := us) (by decide) hlt
    refine hret' _ _ _ _ _ _ _ _ _ _ _ _ _ _ _ (List.append_assoc _ _ _).symm S9 (by rw [hsp]; exact u9.trans (drop_short hlt)) p9 l9.2 ?_ (by k_asm) (by k_asm) (by intro q hq; exact (List.mem_cons.mp hq).elim (fun h => by rw [h]; exact List.Mem.head _) (fun h => List.Mem.tail _ (List.Mem.tail _ h))) (by walk_at "bare")
    rw [hsp]
    exact ⟨_, congrArg (fun z => [Value.none, Value.str z _]) (by rw [Int.toNat_natCast, Nat.min_eq_right (Nat.le_of_lt hlt)]; rfl)⟩

end
end Mine
end
section
open PySem PySem.W PyProof.Rows PySem.Calls
set_option maxRecDepth 100000
set_option maxHeartbeats 40000000
namespace Mine
theorem kw_LD8_1 : True := by
  k_with_none
  k_with "m rm" => first | with_reducible exact Rm.head | exact Rm.tail (by walk_at "rm")
  k_with "m acc st" => first | assumption | exact AccSt.cons (by walk_at "acc st") (by first | omega | k_ne) (by first | omega | k_ne) (by first | omega | k_ne) (by first | omega | k_ne)
  k_with "m getMethod ref" => (k_here; k_dflt (refine lmeth_fn (by k_asm) (by k_mem) (by k_mem) rfl ?_))
  k_with "m callWith ref" => (k_here; (with_reducible show wpAny _ _ (callWith _ (Value.ref _) [] (backTo _ (starEach (_ :: _) _)) []) _ _ _); k_dflt (refine cw_read (by k_asm) (by k_mem) ((by assumption : IsFns _) _ _ _ _) ?_))
  k_with "m And" => ((with_reducible show FnAt _ _ _ ∧ _); k_dflt (refine ⟨fn_at (by k_asm) (by k_mem), ?_⟩); (try dsimp only [List.nil_append, List.cons_append]))
  k_with "m call ref" => (k_here; (try dsimp only [List.nil_append, List.cons_append]); (with_reducible show wpAny _ _ (call (Value.ref _) [Value.int _ _]) _ _ _); k_dflt (refine' tl_go9 ?k1ρ ?k2ρ ?k3ρ ?k4ρ ?k5ρ ?r1ρ ?r2ρ ?r3ρ ?r4ρ ?r5ρ ?r6ρ ?r7ρ ?r8ρ ?r9ρ (Reads.us ?hRρ ?kSρ ?kDρ ?huρ ?hpρ ?h0ρ ?h1ρ ?hlρ ?hoρ) ?kkρ ?kdρ ?kuρ ?_); (case k1ρ => k_asm); (case k2ρ => k_asm); (case k3ρ => k_asm); (case k4ρ => k_asm); (case k5ρ => k_asm); (case hRρ => assumption); (case kDρ => assumption); (case r1ρ => walk_at "rm"); (case r2ρ => walk_at "rm"); (case r3ρ => walk_at "rm"); (case r4ρ => walk_at "rm"); (case r5ρ => walk_at "rm"); (case r6ρ => walk_at "rm"); (case r7ρ => walk_at "rm"); (case r8ρ => walk_at "rm"); (case r9ρ => walk_at "rm"); (case kSρ => assumption); (case huρ => assumption); (case hpρ => assumption); (case h0ρ => omega); (case h1ρ => omega); (case hlρ => first | assumption | walk_at "us len"); (case hoρ => first | assumption | walk_at "us lt"); (case kkρ => first | exact rfl | assumption); (case kdρ => ktr_room); (case kuρ => ktr_units); intro r9ρ led9ρ h9ρ gs9ρ tk9ρ F9ρ N9ρ P9ρ G9ρ; obtain ⟨b9ρ, t9ρ, itn9ρ, n9ρ, tz9ρ, t19ρ, t29ρ, psn9ρ, new9ρ, ⟨e9ρ, i9ρ⟩, e9'ρ, S9ρ, u9ρ, p9ρ⟩ := P9ρ; subst e9ρ; subst e9'ρ; simp only [grp, strm, List.cons_append, List.nil_append] at N9ρ; (try dsimp only); (try simp only [Int.toNat_one, List.take_succ_cons, List.take_zero, List.take_nil, List.map_cons, List.map_nil, List.drop_succ_cons, List.drop_zero, List.drop_nil] at u9ρ); (try simp only [Int.toNat_one, List.take_succ_cons, List.take_zero, List.take_nil, List.map_cons, List.map_nil, Int.ofNat_eq_natCast] at i9ρ))
  k_with "m mine try" => (refine' enter_try ?k1ρ ?k2ρ ?k3ρ ?k4ρ ?k5ρ ?kAρ ?kFρ ?kKρ ?k6ρ ?k7ρ ?k8ρ ?k9ρ ?kBρ ?_ ?c2ρ ?c3ρ ?c4ρ ?c5ρ; (case kAρ => exact rfl); (case kFρ => exact rfl); (case kKρ => assumption); (case k1ρ => k_asm); (case k2ρ => k_asm); (case k3ρ => k_asm); (case k4ρ => k_asm); (case k5ρ => k_asm); (case k6ρ => k_is); (case k7ρ => k_is); (case k8ρ => k_room); (case k9ρ => exact BindsTo.of_eq rfl); (case kBρ => exact locs rfl); (case c2ρ => exact rfl); (case c3ρ => exact rfl); (case c4ρ => exact rfl); (case c5ρ => decide); k_whole; intro g'ρ L'ρ h'ρ FG'ρ F'ρ N'ρ B'ρ X'ρ T'ρ D'ρ; (try dsimp only); (try k_lift B'ρ); (try k_fold))
  k_with "m subscriptTail" => (k_here; (with_reducible show wpAny _ _ (subscriptTail _ _ (Value.bytes _ _) (Value.int _ _)) _ _ _); (refine item0 (by assumption) (by simp only [List.length_nil]; omega) ?_); intro _ _ itLoρ itHiρ)
  k_with "m call type:str" => (k_here; (with_reducible show wpAny _ _ (call (Value.type "str") [Value.ref _]) _ _ _); (rename Got _ _ _ _ _ => gXρ); k_dflt (refine str_got_one PySem.F.excStr_ValueError (by assumption) gXρ (by first | decide | ktr_units) ?_))
  k_with "m b size" => (rename KBw.bInts _ = List.map _ _ => i9x; rw [← KBw.ints_length, i9x]; simp only [List.length_map, List.length_take]; omega)
  k_with "m call builtin:bytes.decode" => (k_here; (with_reducible show wpAny _ _ (call (Value.builtin "bytes.decode") [Value.bytes _ _, Value.str _ _]) _ _ _); k_dflt (refine' call_dec ?klρ ?_; (case klρ => walk_at "b size"); k_whole); intro _ _)
  k_with "m callWith ref" => (k_here; (with_reducible show wpAny _ _ (callWith _ (Value.ref _) _ _ (backToKw _ (keywordEach (_ :: _) _))) _ _ _); dsimp only; k_dflt (refine' callWith_signed ?kFρ rfl ?kvρ rfl ?kxρ ?kyρ ?koρ ?klρ ?_; (case kFρ => k_asm); (case kvρ => exact rfl); (case kxρ => exact rfl); (case kyρ => decide); (case koρ => exact KFB.at_of (by k_asm) (by k_mem)); (case klρ => walk_at "b size"); k_whole); intro _ _)
  k_with "m exec Raise some none" => (k_here; (with_reducible show wpAny _ _ (exec (Stmt.Raise (some (Expr.Call (Expr.Name _ _) (_ :: _) [] _)) none _) _) _ _ _); k_dflt (refine Raise_madeB PySem.F.excCall_ValueError PySem.F.excRaise_ValueError rfl ?_))
  k_with "m And" => ((with_reducible show Value.type "ValueError" = Value.type "ValueError" ∧ _); refine ⟨rfl, ?_⟩)
  k_with "m And" => ((with_reducible show List.length _ ≤ sizeLine ∧ _); refine ⟨by rw [sizeLine_eq]; decide, ?_⟩; intro hR'ρ eR'ρ mR'ρ)
  k_with "m bare" => (intro gρ; solve_by_elim)
  trivial
section
variable {w : World} {p : Program} {loose : List Str} {mean : ExcName → Option Value} {mg mb : Str → Option Value}
theorem try_3 {o : Addr → Value → Value → Addr → Obj} (hIF : IsFns o) (hR : Reads w p loose mean mg mb o)
    {acc d : Addr} {items : Array Value} {n : Nat} {tk0 tkz tk : Tok} {z : Int} {ps : List (Str × Str)} {t1 t2 : Array Value} {rest : List (Addr × Obj)} {sd st rd c La : Addr} {doc ctv : Value} {tks : Tok} {fd : FuncData} {sl : Array (Option Value)} {oc oca : Obj} {vs : Array Value} {t : Tok} {np : Nat} {u1 : Nat} {us : List Nat}
    (S : AccSt acc d items z t1 t2 ps (strm w o sd st rd c La doc ctv tks fd sl oc oca ++ rest)) (D : StrmSt acc sd st rd c La oc oca vs t) (hu : octs (textP ps) = u1 :: us) (hp : ps.length ≤ np) (hl : (u1 :: us).length ≤ 1000) (ho : ∀ o ∈ u1 :: us, o < 256) :
      Tl0 w (Mine.hd.heap_1 w.params) p loose mean mg mb (call (.ref 153) [.int 3 tk, .ref st]) (ledL w o acc d items n tk0 z tkz t1 t2 sd st rd c La doc ctv tks fd sl oc oca rest)
        (TryPost w o 3 acc d (u1 :: us) np tk0 sd st rd c La doc ctv tks fd sl oc oca rest) := by
  unfold Tl0
  k_fill
  intro cn cs a ccd cl base h₀ L m s Q E B F X N T XB TB hk hret
  have hl1 : us.length ≤ 1000 := by simp only [List.length_cons] at hl; omega
  have ho1 : ∀ o ∈ us, o < 256 := fun o h => ho o (.tail _ h)
  have h256 : u1 < 256 := ho u1 (.head _)
  have hret' : ∀ (l : Addr) (vs : List Value) (itn : Array Value) (n' : Nat) (tz : Tok) (t1' t2' : Array Value) (psn : List (Str × Str)) (new rest' : List (Addr × Obj)) (h' : Heap) (gs' : Array GenState) (tk' : Nat) (X : Prop) (news' : List (Addr × Obj)), rest' = new ++ rest →
      AccSt acc d itn 0 t1' t2' psn (strm w o sd st rd c La doc ctv tks fd sl oc oca ++ rest') → octs (textP psn) = (u1 :: us).drop (spec 3 (u1 :: us)).2 → psn.length ≤ np → (@LT.lt Nat _ acc l ∧ @LT.lt Nat _ d l ∧ @LT.lt Nat _ 62 l ∧ @LT.lt Nat _ 69 l ∧ X) →
      (spec 3 (u1 :: us)).1.Vs vs → Fr h₀ L h' m → News h₀ L h' news' → (∀ q ∈ (l, W.listOf vs.toArray 0) :: ledL w o acc d itn n' tk0 0 tz t1' t2' sd st rd c La doc ctv tks fd sl oc oca rest', q ∈ news') → (AllBare s.gens → AllBare gs') → Q (.ref l) ⟨h', gs', s.drawn, tk', s.os⟩ := by
    intro l vs itn n' tz t1' t2' psn new rest' h' gs' tk' X news' hrr S' u' p' hl hv F' N' hsub G'
    subst hrr
    exact hret _ _ h' gs' tk' F' (fun q hq => N' q (hsub q hq)) ⟨l, vs, itn, n', tz, t1', t2', psn, new, rfl, hv, rfl, S', u', p', Nat.ne_of_gt hl.1, Nat.ne_of_gt hl.2.1, Nat.ne_of_gt hl.2.2.1, Nat.ne_of_gt hl.2.2.2.1⟩ G'
  clear hret
  simp only [ledL] at N
  refine wpAny_call ?_
  k_dflt (walk_at "mine try")
  k_steps
  all_goals try (rename ¬ (0 < List.length _) => hc; exact absurd Nat.zero_lt_one hc)
  rotate_left
  · rename AccSt _ _ _ _ _ _ _ _ => S9
    rename octs (textP _) = _ => u9
    rename List.length _ ≤ np => p9
    rename (@LT.lt Nat _ _ _ ∧ @LT.lt Nat _ acc _ ∧ _) => l9
    rename KBw.bInts _ = List.map _ _ => i9
    rename (_ = ((u1 : Nat) : Int)) => hc
    rw [Int.toNat_natCast] at hc i9 u9
    have hle : u1 ≤ us.length := by omega
    have hsp := spec_ok (k := 3) (u1 := u1) (us := us) (by decide) hle
    refine hret' _ _ _ _ _ _ _ _ _ _ _ _ _ _ _ (List.append_assoc _ _ _).symm S9 (by rw [hsp]; exact u9) p9 l9.2 ?_ (by k_asm) (by k_asm) (by intro q hq; exact (List.mem_cons.mp hq).elim (fun h => by rw [h]; exact List.Mem.head _) (fun h => List.Mem.tail _ (List.Mem.tail _ h))) (by walk_at "bare")
    rw [hsp]
    exact ⟨_, congrArg (fun z => [Value.int z _]) (congrArg sVal (toNats i9))⟩
  · rename AccSt _ _ _ _ _ _ _ _ => S9
    rename octs (textP _) = _ => u9
    rename List.length _ ≤ np => p9
    rename (@LT.lt Nat _ acc _ ∧ _) => l9
    rename (_ ≠ ((u1 : Nat) : Int)) => hc
    rw [Int.toNat_natCast] at hc u9
    have hlt : us.length < u1 := by omega
    have hsp := spec_short (k := 3) (u1 := u1) (us := us) (by decide) hlt
    refine hret' _ _ _ _ _ _ _ _ _ _ _ _ _ _ _ (List.append_assoc _ _ _).symm S9 (by rw [hsp]; exact u9.trans (drop_short hlt)) p9 l9 ?_ (by k_asm) (by k_asm) (fun q hq => hq) (by walk_at "bare")
    rw [hsp]
    exact ⟨_, rfl⟩

end
end Mine
end
section
open PySem PySem.W PyProof.Rows PySem.Calls
set_option maxRecDepth 100000
namespace Mine
theorem kw_LP3_0 : True := by
  k_with_none
  trivial
theorem leNat_sum : ∀ (l : List Nat), ((List.range l.length).map fun i => ((l.map Int.ofNat).getD i 0) * (256 : Int) ^ i).sum = (leNat l : Int)
  | [] => rfl
  | x :: r => by
    have ih := leNat_sum r
    rw [List.length_cons, List.range_succ_eq_map, List.map_cons, List.sum_cons, List.map_map]
    have e : ((List.range r.length).map ((fun i => (((x :: r).map Int.ofNat).getD i 0) * (256 : Int) ^ i) ∘ Nat.succ)).sum = 256 * ((List.range r.length).map fun i => ((r.map Int.ofNat).getD i 0) * (256 : Int) ^ i).sum := by
      generalize List.range r.length = q
      induction q with
      | nil => rfl
      | cons i q ihq =>
        rw [List.map_cons, List.sum_cons, ihq]
        show _ = 256 * (((r.map Int.ofNat).getD i 0 * (256 : Int) ^ i) + (q.map fun i => ((r.map Int.ofNat).getD i 0) * (256 : Int) ^ i).sum)
        rw [Int.mul_add]
        congr 1
        show ((r.map Int.ofNat).getD i 0) * (256 : Int) ^ (i + 1) = _
        rw [Int.pow_succ, Int.mul_comm ((256 : Int) ^ i) 256, ← Int.mul_assoc, Int.mul_comm _ 256, Int.mul_assoc]
    rw [e, ih]
    show ((x : Int)) * (256 : Int) ^ 0 + 256 * (leNat r : Int) = ((leNat r * 256 + x : Nat) : Int)
    rw [Int.pow_zero]
    push_cast
    omega
theorem num_eq {l : List Nat} {n : Nat} (h : l.length = n) : ((rangeKs 0 n).map fun k' => (l.map Int.ofNat).getD k'.toNat 0 * (256 : Int) ^ k'.toNat).sum = (leNat l : Int) := by
  rw [← leNat_sum l, h]
  congr 1
  unfold rangeKs
  rw [List.map_map]
  refine List.map_congr_left fun i _ => ?_
  show (l.map Int.ofNat).getD ((0 : Int) + (i : Int)).toNat 0 * (256 : Int) ^ ((0 : Int) + (i : Int)).toNat = _
  rw [Int.zero_add, Int.toNat_natCast]
theorem msg_law {n m : Int} : Str.ofString "expected " ++ Str.ofString (toString n) ++ Str.ofString " bytes in a " ++ Str.ofString "bytes1" ++ Str.ofString ", but only " ++ Str.ofString (toString m) ++ Str.ofString " remain" =
    Str.ofString "expected " ++ Str.ofString (toString n) ++ Str.ofString " bytes in a bytes1, but only " ++ Str.ofString (toString m) ++ Str.ofString " remain" := by
  refine octs_inj ?_
  have e : octs (Str.ofString " bytes in a bytes1, but only ") = octs (Str.ofString " bytes in a ") ++ (octs (Str.ofString "bytes1") ++ octs (Str.ofString ", but only ")) := by decide
  simp only [octs_append, List.append_assoc, e]
theorem msg_law2 {n m : Int} : Str.ofString "expected " ++ Str.ofString (toString n) ++ Str.ofString " bytes in a " ++ Str.ofString "string1" ++ Str.ofString ", but only " ++ Str.ofString (toString m) ++ Str.ofString " remain" =
    Str.ofString "expected " ++ Str.ofString (toString n) ++ Str.ofString " bytes in a string1, but only " ++ Str.ofString (toString m) ++ Str.ofString " remain" := by
  refine octs_inj ?_
  have e : octs (Str.ofString " bytes in a string1, but only ") = octs (Str.ofString " bytes in a ") ++ (octs (Str.ofString "string1") ++ octs (Str.ofString ", but only ")) := by decide
  simp only [octs_append, List.append_assoc, e]
theorem last_eq {l : List Nat} (h : 0 < l.length) : l.getLast?.any (fun x => decide (128 ≤ x)) = decide ((127 : Int) < (l.map Int.ofNat).getD (-1 + ((l.map Int.ofNat).length : Int)).toNat 0) := by
  have e1 : (-1 + ((l.map Int.ofNat).length : Int)).toNat = l.length - 1 := by rw [List.length_map]; omega
  rw [e1, List.getLast?_eq_getElem?, List.getD_eq_getElem?_getD, List.getElem?_map]
  rw [List.getElem?_eq_getElem (by omega)]
  show decide _ = decide _
  refine decide_eq_decide.mpr ?_
  show 128 ≤ l[l.length - 1] ↔ (127 : Int) < ((l[l.length - 1] : Nat) : Int)
  omega
end Mine
end
section
open PySem PySem.W PyProof.Rows PySem.Calls
set_option maxRecDepth 100000
set_option maxHeartbeats 40000000
namespace Mine
def DuePost (k : Nat) (us : List Nat) (U : Addr) (vs : List Value) (nU : Nat) (rest : List (Addr × Obj)) (r : Value) (led : List (Addr × Obj)) : Prop :=
  ∃ (T l : Addr) (vs' : List Value) (t : Tok), r = .ref T ∧ (spec k us).1.Vs vs' ∧ led = (T, tupO [.ref l, .int ((spec k us).2 : Nat) t]) :: (l, W.listOf vs'.toArray 0) :: (U, W.listOf vs.toArray nU) :: rest ∧ AllLt T rest ∧ AllLt l rest
theorem offCell {L : Addr} {l : List (Addr × Obj)} (h : AllLt L l) : OwnOff l [L + 1] := fun q hq b hb => by
  rw [List.mem_singleton.mp hb]
  have := allLt_get h q hq
  exact Nat.ne_of_lt (Nat.lt_succ_of_lt this)
theorem body_ints {vs : List Value} {x y : Int} {us : List Nat} {u1 : Nat} (hi : IntsAre vs (x :: us.map Int.ofNat)) (hy : y = (u1 : Int) + 1) : IntsAre (slicePick vs.toArray (some 1) (some y) none).toList ((us.take u1).map Int.ofNat) := by
  have h := kmk_run hi (x := 1) (y := y) (by decide) (by omega)
  have e : ((x :: us.map Int.ofNat).drop (1 : Int).toNat).take (min y.toNat (x :: us.map Int.ofNat).length - (1 : Int).toNat) = (us.take u1).map Int.ofNat := by
    have e1 : y.toNat = u1 + 1 := by omega
    rw [e1, List.length_cons, Nat.min_def, List.map_take]
    have e2 : (1 : Int).toNat = 1 := rfl
    rw [e2, List.drop_succ_cons, List.drop_zero]
    split
    · rfl
    · rw [List.take_of_length_le (by omega), List.take_of_length_le (by omega)]
  rw [e] at h
  exact h
theorem mulSmall {l : List Int} {i : Nat} {b : Int} (h : KBa.In l) : IntMulOk (l.getD i 0) b := by
  refine IntMulOk.of_left ?_
  have hb : 0 ≤ l.getD i 0 ∧ l.getD i 0 < 256 := by
    rw [List.getD_eq_getElem?_getD]
    cases e : l[i]? with
    | none => simp
    | some x => exact h x (List.mem_of_getElem? e)
  unfold Builtin.Int.intBits
  split
  · decide
  · rename_i h0
    have hz : (l.getD i 0).natAbs ≠ 0 := by
      intro e
      apply h0
      simp only [beq_iff_eq]
      omega
    have := (Nat.log2_lt hz).mpr (show (l.getD i 0).natAbs < 2 ^ 8 by omega)
    omega

theorem kw_LE2_1 : True := by
  k_with_none
  k_with "m subscriptTail Name Constant ref int" => (k_here; (with_reducible show wpAny _ _ (subscriptTail _ _ (Value.ref _) (Value.int 0 _)) _ _ _); k_dflt (refine' kitem0 ?k1ρ ?k2ρ ?k3ρ ?_ ?k4ρ; (case k1ρ => k_asm); (case k2ρ => k_mem); (case k3ρ => assumption); (case k4ρ => with_unfolding_all rfl); k_whole); intro tIρ)
  k_with "m call type:bytes" => (k_here; (with_reducible show wpAny _ _ (call (Value.type "bytes") [Value.ref _]) _ _ _); k_dflt (refine' KBa.make_K ?kbaFρ ?kbaNρ ?kbahρ ?kbalρ ?kbaiρ ?kbarρ ?kbanρ ?_; (case kbaFρ => k_asm); (case kbaNρ => k_asm); (case kbahρ => rfl); (case kbalρ => exact News.isList (by k_asm) (by k_mem)); (case kbaiρ => assumption); (case kbarρ => assumption); (case kbanρ => simp only [List.length_map, List.length_take]; omega); k_whole); intro h'ρ t'ρ k'ρ F'ρ N'ρ hIn'ρ)
  k_with "m call builtin:str.join" => (k_here; (with_reducible show wpAny _ _ (call (Value.builtin "str.join") [Value.str _ _, Value.ref _]) _ _ _); k_dflt (refine' join_chrs ?j1ρ ?j2ρ ?j3ρ ?j4ρ ?_; (case j1ρ => k_asm); (case j2ρ => k_mem); (case j3ρ => assumption); (case j4ρ => first | omega | (simp only [List.length_map, List.length_take]; omega)); k_whole); intro tJρ kJρ)
  k_with "m call builtin:len" => (k_here; (with_reducible show wpAny _ _ (call (Value.builtin "len") [Value.ref _]) _ _ _); k_dflt (refine' len_ints_fit ?k1ρ ?k2ρ ?k3ρ ?_; (case k1ρ => exact News.isList (by k_asm) (by k_mem)); (case k2ρ => assumption); (case k3ρ => simp only [List.length_map, List.length_take]; omega); k_whole); (try simp only [List.length_map, List.length_take]))
  k_with "m subscriptTail Name Slice ref ref" => (k_here; (with_reducible show wpAny _ _ (subscriptTail _ _ (Value.ref _) (Value.ref _)) _ _ _); k_dflt (refine' kmk_slice_ints (s := ⟨_, _, _, _, _⟩) ?Fρ ?Nρ ?lρ ?pρ ?qρ ?iρ ?mρ ?cρ ?_ ?ssρ ?tρ ?zρ; (case Fρ => k_asm); (case Nρ => k_asm); (case lρ => exact News.isList (by k_asm) (by k_mem)); (case pρ => exact IsPart.int _ _); (case qρ => exact IsPart.int _ _); (case iρ => assumption); (case mρ => exact body_ints (by assumption) rfl); (case cρ => exact rfl); (case ssρ => with_unfolding_all rfl); (case tρ => intro rρ; with_unfolding_all rfl); (case zρ => rw [sizeLine_eq]; (have hz9ρ := IntsAre.length (by assumption : IntsAre _ (_ :: _))); simp only [List.length_cons, List.length_map, List.size_toArray] at hz9ρ ⊢; omega)); intro D'ρ ws'ρ h'ρ F'ρ N'ρ l1ρ hI'ρ hC'ρ hL'ρ; (try k_lt l1ρ))
  k_with "m mine enterC" => (refine' code_defC ?k1ρ ?k2ρ ?k3ρ ?k4ρ ?k5ρ ?kAρ ?kFρ ?kKρ ?k6ρ ?k7ρ ?k8ρ ?k9ρ ?kBρ ?kDρ ?_ ?c2ρ ?c3ρ ?c4ρ; (case kAρ => exact rfl); (case kFρ => exact rfl); (case kKρ => assumption); (case k1ρ => k_asm); (case k2ρ => k_asm); (case k3ρ => k_asm); (case k4ρ => k_asm); (case k5ρ => k_asm); (case k6ρ => k_is); (case k7ρ => k_is); (case k8ρ => ktr_room); (case k9ρ => first | exact BindsTo.of_eq rfl | exact binds_K (by k_in) rfl (by k_is) rfl rfl rfl); (case kBρ => exact rfl); (case kDρ => decide +kernel); (case c2ρ => exact rfl); (case c3ρ => exact rfl); (case c4ρ => exact rfl); k_whole; intro g'ρ L'ρ h'ρ tk'ρ cells'ρ FG'ρ F'ρ N'ρ Y'ρ B'ρ X'ρ T'ρ l1ρ; (try k_lt l1ρ); k_cells Y'ρ; (try simp only [List.cons_append, List.nil_append] at N'ρ); (try dsimp only); (try k_lift B'ρ); (try k_fold))
  k_with "m eval ListComp" => (k_here; (with_reducible show wpAny _ _ (eval (Expr.ListComp (Expr.Call (Expr.Name ("chr" : Str) _) [Expr.Name _ _] [] _) _ _ _) _) _ _ _); k_dflt (refine LCg.ListComp_U (F₀ := by k_asm) (by with_unfolding_all rfl) (by decide) (by rfl) (by decide) (by rfl) ?_))
  k_with "m CompSrc" => (k_here; (with_reducible show LCg.CompSrc _ _ _ _ _ _ _ (Expr.Call (Expr.Name ("chr" : Str) _) [Expr.Name _ _] [] _) _ _ _ _ _ _); k_dflt (refine' LCg.CompSrc.ledger rfl ?cFρ ?cNρ ?cMρ ?cZρ (fun gC => chr_rest ?cTρ (ns_none_of ?cXρ (Top.g ?cTρ) ?cHρ) rfl rfl rfl ?cOρ ?cLρ ?cDρ ?cIρ ?cRρ ?cSρ ?_); (case cFρ => k_asm); (case cNρ => k_asm); (case cMρ => k_mem); (case cTρ => k_asm); (case cXρ => k_asm); (case cHρ => k_is); (case cOρ => intro _; rfl); (case cLρ => intro _; rfl); (case cDρ => decide); (case cIρ => assumption); (case cRρ => assumption); (case cZρ => rw [sizeLine_eq]; (have hz9ρ := IntsAre.length (by assumption : IntsAre _ (List.map Int.ofNat (List.take _ _)))); simp only [List.length_map, List.length_take, List.size_toArray] at hz9ρ ⊢; omega); (case cSρ => exact .inr ⟨_, by k_mem, rfl, _, rfl⟩)); intro ysCρ hysCρ)
  k_with "m binaryOp Mult int int" => (k_here; (with_reducible show wpAny _ _ (binaryOp _ (Value.int (List.getD _ _ _) _) (Value.int _ _)) _ _ _); refine mul_int ?_ (mulSmall (by assumption)))
  k_with "m subd" => (intro qρ hqρ; simp only [List.mem_cons] at hqρ ⊢; (rcases hqρ with h | h | h | h) <;> (first | exact .inl h | exact .inr (.inl h) | simp only [h, true_or, or_true]))
  k_with "m getlt" => first | exact (by assumption : _ ∧ AllLt _ _).2 | exact (by assumption : _ ∧ _ ∧ AllLt _ _).2.2 | exact (by assumption : _ ∧ _ ∧ _ ∧ AllLt _ _).2.2.2 | exact (by assumption : _ ∧ _ ∧ _ ∧ _ ∧ AllLt _ _).2.2.2.2 | exact (by assumption : _ ∧ _ ∧ _ ∧ _ ∧ _ ∧ AllLt _ _).2.2.2.2.2 | exact (by assumption : _ ∧ _ ∧ _ ∧ _ ∧ _ ∧ _ ∧ AllLt _ _).2.2.2.2.2.2 | exact (by assumption : _ ∧ _ ∧ _ ∧ _ ∧ _ ∧ _ ∧ _ ∧ AllLt _ _).2.2.2.2.2.2.2 | exact (by assumption : _ ∧ _ ∧ _ ∧ _ ∧ _ ∧ _ ∧ _ ∧ _ ∧ AllLt _ _).2.2.2.2.2.2.2.2 | exact (by assumption : _ ∧ _ ∧ _ ∧ _ ∧ _ ∧ _ ∧ _ ∧ _ ∧ _ ∧ AllLt _ _).2.2.2.2.2.2.2.2.2
  trivial
section
variable {w : World} {p : Program} {loose : List Str} {mean : ExcName → Option Value} {mg mb : Str → Option Value}
theorem due_e {tk : Tok} {U : Addr} {vs : List Value} {nU : Nat} {rest : List (Addr × Obj)} {k : Nat} {kk : Int}
    (hi : IntsAre vs ([])) :
      Tl w (Mine.hd.heap_1 w.params) p loose mean mg mb 20 100 (call (.ref 165) [.ref U, .int kk tk]) ((U, W.listOf vs.toArray nU) :: rest) (DuePost k (([] : List Nat)) U vs nU rest) := by
  unfold Tl
  k_fill
  intro dp un gd cn cs a ccd cl outer A₀ base h₀ L m s Q E B F X N T hk hdp hu hret
  have hret' : ∀ (T l : Addr) (vs' : List Value) (t : Tok) (n : Int) (h' : Heap) (tk' : Nat) (news' : List (Addr × Obj)), (spec k (([] : List Nat))).1.Vs vs' → n = ((spec k (([] : List Nat))).2 : Nat) → Fr h₀ L h' m → News h₀ L h' news' →
      (∀ q ∈ (T, tupO [.ref l, .int n t]) :: (l, W.listOf vs'.toArray 0) :: (U, W.listOf vs.toArray nU) :: rest, q ∈ news') → AllLt T rest → AllLt l rest → Q (.ref T) ⟨h', s.gens, s.drawn, tk', s.os⟩ := by
    intro T l vs' t n h' tk' news' hv hn F' N' hsub a1 a2
    subst hn
    exact hret _ _ h' s.gens tk' F' (fun q hq => N' q (hsub q hq)) ⟨T, l, vs', t, rfl, hv, rfl, a1, a2⟩ id
  clear hret
  refine wpAny_call ?_
  k_dflt (walk_at "mine enterC")
  rename (@LT.lt Nat _ U _ ∧ AllLt _ rest) => lU
  have hOff := offCell lU.2
  k_steps
  · refine hret' _ _ _ _ _ _ _ _ ?_ ?_ (by k_asm) (by k_asm) (by walk_at "subd") (by walk_at "getlt") (by walk_at "getlt")
    · exact ⟨_, rfl⟩
    · rfl

theorem due_0 {tk : Tok} {U : Addr} {vs : List Value} {nU : Nat} {rest : List (Addr × Obj)} {u1 : Nat} {us : List Nat}
    (hi : IntsAre vs ((u1 : Int) :: us.map Int.ofNat)) (hl : (u1 :: us).length ≤ 1000) (ho : ∀ o ∈ u1 :: us, o < 256) :
      Tl w (Mine.hd.heap_1 w.params) p loose mean mg mb 20 100 (call (.ref 165) [.ref U, .int 0 tk]) ((U, W.listOf vs.toArray nU) :: rest) (DuePost 0 (u1 :: us) U vs nU rest) := by
  unfold Tl
  k_fill
  intro dp un gd cn cs a ccd cl outer A₀ base h₀ L m s Q E B F X N T hk hdp hu hret
  have hl1 : us.length ≤ 1000 := by simp only [List.length_cons] at hl; omega
  have h256 : u1 < 256 := ho u1 (.head _)
  have hlt : ∀ c ∈ us.take u1, c < 1000 := fun c hc => by have := ho c (.tail _ (List.mem_of_mem_take hc)); omega
  have hIn : KBa.In ((us.take u1).map Int.ofNat) := by
    intro n hn'
    obtain ⟨o', h2, rfl⟩ := List.mem_map.mp hn'
    have := ho o' (.tail _ (List.mem_of_mem_take h2))
    show 0 ≤ (o' : Int) ∧ (o' : Int) < 256
    omega
  have hret' : ∀ (T l : Addr) (vs' : List Value) (t : Tok) (n : Int) (h' : Heap) (tk' : Nat) (news' : List (Addr × Obj)), (spec 0 (u1 :: us)).1.Vs vs' → n = ((spec 0 (u1 :: us)).2 : Nat) → Fr h₀ L h' m → News h₀ L h' news' →
      (∀ q ∈ (T, tupO [.ref l, .int n t]) :: (l, W.listOf vs'.toArray 0) :: (U, W.listOf vs.toArray nU) :: rest, q ∈ news') → AllLt T rest → AllLt l rest → Q (.ref T) ⟨h', s.gens, s.drawn, tk', s.os⟩ := by
    intro T l vs' t n h' tk' news' hv hn F' N' hsub a1 a2
    subst hn
    exact hret _ _ h' s.gens tk' F' (fun q hq => N' q (hsub q hq)) ⟨T, l, vs', t, rfl, hv, rfl, a1, a2⟩ id
  clear hret
  refine wpAny_call ?_
  k_dflt (walk_at "mine enterC")
  rename (@LT.lt Nat _ U _ ∧ AllLt _ rest) => lU
  have hOff := offCell lU.2
  k_steps
  · exact absurd (by assumption : decide (_ = []) = true) (by simp)
  · refine hret' _ _ _ _ _ _ _ _ ?_ ?_ (by k_asm) (by k_asm) (by walk_at "subd") (by walk_at "getlt") (by walk_at "getlt")
    · exact ⟨_, rfl⟩
    · rfl

theorem due_1 {tk : Tok} {U : Addr} {vs : List Value} {nU : Nat} {rest : List (Addr × Obj)} {u1 : Nat} {us : List Nat}
    (hi : IntsAre vs ((u1 : Int) :: us.map Int.ofNat)) (hl : (u1 :: us).length ≤ 1000) (ho : ∀ o ∈ u1 :: us, o < 256) :
      Tl w (Mine.hd.heap_1 w.params) p loose mean mg mb 20 100 (call (.ref 165) [.ref U, .int 1 tk]) ((U, W.listOf vs.toArray nU) :: rest) (DuePost 1 (u1 :: us) U vs nU rest) := by
  unfold Tl
  k_fill
  intro dp un gd cn cs a ccd cl outer A₀ base h₀ L m s Q E B F X N T hk hdp hu hret
  have hl1 : us.length ≤ 1000 := by simp only [List.length_cons] at hl; omega
  have h256 : u1 < 256 := ho u1 (.head _)
  have hlt : ∀ c ∈ us.take u1, c < 1000 := fun c hc => by have := ho c (.tail _ (List.mem_of_mem_take hc)); omega
  have hIn : KBa.In ((us.take u1).map Int.ofNat) := by
    intro n hn'
    obtain ⟨o', h2, rfl⟩ := List.mem_map.mp hn'
    have := ho o' (.tail _ (List.mem_of_mem_take h2))
    show 0 ≤ (o' : Int) ∧ (o' : Int) < 256
    omega
  have hret' : ∀ (T l : Addr) (vs' : List Value) (t : Tok) (n : Int) (h' : Heap) (tk' : Nat) (news' : List (Addr × Obj)), (spec 1 (u1 :: us)).1.Vs vs' → n = ((spec 1 (u1 :: us)).2 : Nat) → Fr h₀ L h' m → News h₀ L h' news' →
      (∀ q ∈ (T, tupO [.ref l, .int n t]) :: (l, W.listOf vs'.toArray 0) :: (U, W.listOf vs.toArray nU) :: rest, q ∈ news') → AllLt T rest → AllLt l rest → Q (.ref T) ⟨h', s.gens, s.drawn, tk', s.os⟩ := by
    intro T l vs' t n h' tk' news' hv hn F' N' hsub a1 a2
    subst hn
    exact hret _ _ h' s.gens tk' F' (fun q hq => N' q (hsub q hq)) ⟨T, l, vs', t, rfl, hv, rfl, a1, a2⟩ id
  clear hret
  refine wpAny_call ?_
  k_dflt (walk_at "mine enterC")
  rename (@LT.lt Nat _ U _ ∧ AllLt _ rest) => lU
  have hOff := offCell lU.2
  k_steps
  · exact absurd (by assumption : decide (_ = []) = true) (by simp)
  · rename ((min u1 us.length : Nat) : Int) < ((u1 : Nat) : Int) => hc
    have hsp := spec_short (k := 1) (u1 := u1) (us := us) (by decide) (by omega)
    refine hret' _ _ _ _ _ _ _ _ ?_ ?_ (by k_asm) (by k_asm) (by walk_at "subd") (by walk_at "getlt") (by walk_at "getlt")
    · rw [hsp]; refine ⟨_, congrArg (fun z => [Value.none, Value.str z _]) ?_⟩; rw [show ((min u1 us.length : Nat) : Int) = (us.length : Int) by omega, msg_law]; rfl
    · rw [hsp]; simp
  · rename ¬ (((min u1 us.length : Nat) : Int) < ((u1 : Nat) : Int)) => hc
    have hsp := spec_ok (k := 1) (u1 := u1) (us := us) (by decide) (by omega)
    have hll : (us.take u1).length = u1 := by rw [List.length_take]; omega
    refine hret' _ _ _ _ _ _ _ _ ?_ ?_ (by k_asm) (by k_asm) (by walk_at "subd") (by walk_at "getlt") (by walk_at "getlt")
    · rw [hsp]; exact ⟨_, _, rfl, KBa.ints_make hIn⟩
    · rw [hsp]; simp

theorem due_2 {tk : Tok} {U : Addr} {vs : List Value} {nU : Nat} {rest : List (Addr × Obj)} {u1 : Nat} {us : List Nat}
    (hi : IntsAre vs ((u1 : Int) :: us.map Int.ofNat)) (hl : (u1 :: us).length ≤ 1000) (ho : ∀ o ∈ u1 :: us, o < 256) :
      Tl w (Mine.hd.heap_1 w.params) p loose mean mg mb 20 100 (call (.ref 165) [.ref U, .int 2 tk]) ((U, W.listOf vs.toArray nU) :: rest) (DuePost 2 (u1 :: us) U vs nU rest) := by
  unfold Tl
  k_fill
  intro dp un gd cn cs a ccd cl outer A₀ base h₀ L m s Q E B F X N T hk hdp hu hret
  have hl1 : us.length ≤ 1000 := by simp only [List.length_cons] at hl; omega
  have h256 : u1 < 256 := ho u1 (.head _)
  have hlt : ∀ c ∈ us.take u1, c < 1000 := fun c hc => by have := ho c (.tail _ (List.mem_of_mem_take hc)); omega
  have hIn : KBa.In ((us.take u1).map Int.ofNat) := by
    intro n hn'
    obtain ⟨o', h2, rfl⟩ := List.mem_map.mp hn'
    have := ho o' (.tail _ (List.mem_of_mem_take h2))
    show 0 ≤ (o' : Int) ∧ (o' : Int) < 256
    omega
  have hret' : ∀ (T l : Addr) (vs' : List Value) (t : Tok) (n : Int) (h' : Heap) (tk' : Nat) (news' : List (Addr × Obj)), (spec 2 (u1 :: us)).1.Vs vs' → n = ((spec 2 (u1 :: us)).2 : Nat) → Fr h₀ L h' m → News h₀ L h' news' →
      (∀ q ∈ (T, tupO [.ref l, .int n t]) :: (l, W.listOf vs'.toArray 0) :: (U, W.listOf vs.toArray nU) :: rest, q ∈ news') → AllLt T rest → AllLt l rest → Q (.ref T) ⟨h', s.gens, s.drawn, tk', s.os⟩ := by
    intro T l vs' t n h' tk' news' hv hn F' N' hsub a1 a2
    subst hn
    exact hret _ _ h' s.gens tk' F' (fun q hq => N' q (hsub q hq)) ⟨T, l, vs', t, rfl, hv, rfl, a1, a2⟩ id
  clear hret
  refine wpAny_call ?_
  k_dflt (walk_at "mine enterC")
  rename (@LT.lt Nat _ U _ ∧ AllLt _ rest) => lU
  have hOff := offCell lU.2
  k_steps
  · exact absurd (by assumption : decide (_ = []) = true) (by simp)
  · rename ((min u1 us.length : Nat) : Int) < ((u1 : Nat) : Int) => hc
    have hsp := spec_short (k := 2) (u1 := u1) (us := us) (by decide) (by omega)
    refine hret' _ _ _ _ _ _ _ _ ?_ ?_ (by k_asm) (by k_asm) (by walk_at "subd") (by walk_at "getlt") (by walk_at "getlt")
    · rw [hsp]; refine ⟨_, congrArg (fun z => [Value.none, Value.str z _]) ?_⟩; rw [show ((min u1 us.length : Nat) : Int) = (us.length : Int) by omega, msg_law2]; rfl
    · rw [hsp]; simp
  · rename ¬ (((min u1 us.length : Nat) : Int) < ((u1 : Nat) : Int)) => hc
    have hsp := spec_ok (k := 2) (u1 := u1) (us := us) (by decide) (by omega)
    have hll : (us.take u1).length = u1 := by rw [List.length_take]; omega
    refine hret' _ _ _ _ _ _ _ _ ?_ ?_ (by k_asm) (by k_asm) (by walk_at "subd") (by walk_at "getlt") (by walk_at "getlt")
    · rw [hsp]; exact ⟨_, _, rfl, octs_txt _⟩
    · rw [hsp]; simp

theorem due_3 {tk : Tok} {U : Addr} {vs : List Value} {nU : Nat} {rest : List (Addr × Obj)} {u1 : Nat} {us : List Nat}
    (hi : IntsAre vs ((u1 : Int) :: us.map Int.ofNat)) (hl : (u1 :: us).length ≤ 1000) (ho : ∀ o ∈ u1 :: us, o < 256) :
      Tl w (Mine.hd.heap_1 w.params) p loose mean mg mb 20 100 (call (.ref 165) [.ref U, .int 3 tk]) ((U, W.listOf vs.toArray nU) :: rest) (DuePost 3 (u1 :: us) U vs nU rest) := by
  unfold Tl
  k_fill
  intro dp un gd cn cs a ccd cl outer A₀ base h₀ L m s Q E B F X N T hk hdp hu hret
  have hl1 : us.length ≤ 1000 := by simp only [List.length_cons] at hl; omega
  have h256 : u1 < 256 := ho u1 (.head _)
  have hlt : ∀ c ∈ us.take u1, c < 1000 := fun c hc => by have := ho c (.tail _ (List.mem_of_mem_take hc)); omega
  have hIn : KBa.In ((us.take u1).map Int.ofNat) := by
    intro n hn'
    obtain ⟨o', h2, rfl⟩ := List.mem_map.mp hn'
    have := ho o' (.tail _ (List.mem_of_mem_take h2))
    show 0 ≤ (o' : Int) ∧ (o' : Int) < 256
    omega
  have hret' : ∀ (T l : Addr) (vs' : List Value) (t : Tok) (n : Int) (h' : Heap) (tk' : Nat) (news' : List (Addr × Obj)), (spec 3 (u1 :: us)).1.Vs vs' → n = ((spec 3 (u1 :: us)).2 : Nat) → Fr h₀ L h' m → News h₀ L h' news' →
      (∀ q ∈ (T, tupO [.ref l, .int n t]) :: (l, W.listOf vs'.toArray 0) :: (U, W.listOf vs.toArray nU) :: rest, q ∈ news') → AllLt T rest → AllLt l rest → Q (.ref T) ⟨h', s.gens, s.drawn, tk', s.os⟩ := by
    intro T l vs' t n h' tk' news' hv hn F' N' hsub a1 a2
    subst hn
    exact hret _ _ h' s.gens tk' F' (fun q hq => N' q (hsub q hq)) ⟨T, l, vs', t, rfl, hv, rfl, a1, a2⟩ id
  clear hret
  refine wpAny_call ?_
  k_dflt (walk_at "mine enterC")
  rename (@LT.lt Nat _ U _ ∧ AllLt _ rest) => lU
  have hOff := offCell lU.2
  k_steps
  · exact absurd (by assumption : decide (_ = []) = true) (by simp)
  · rename ((min u1 us.length : Nat) : Int) < ((u1 : Nat) : Int) => hc
    have hsp := spec_short (k := 3) (u1 := u1) (us := us) (by decide) (by omega)
    refine hret' _ _ _ _ _ _ _ _ ?_ ?_ (by k_asm) (by k_asm) (by walk_at "subd") (by walk_at "getlt") (by walk_at "getlt")
    · rw [hsp]; exact ⟨_, rfl⟩
    · rw [hsp]; simp
  · rename ¬ (((min u1 us.length : Nat) : Int) < ((u1 : Nat) : Int)) => hc
    have hsp := spec_ok (k := 3) (u1 := u1) (us := us) (by decide) (by omega)
    have hll : (us.take u1).length = u1 := by rw [List.length_take]; omega
    have hnum := num_eq hll
    rename (127 : Int) < _ => h127
    have hla := last_eq (l := us.take u1) (by omega)
    rw [decide_eq_true h127] at hla
    refine hret' _ _ _ _ _ _ _ _ ?_ ?_ (by k_asm) (by k_asm) (by walk_at "subd") (by walk_at "getlt") (by walk_at "getlt")
    · rw [hsp]; refine ⟨_, congrArg (fun z => [Value.int z _]) ?_⟩; show _ = sVal (us.take u1); unfold sVal; rw [Int.sub_zero, Int.toNat_natCast, hnum, hll, hla, if_pos rfl]; skip
    · rw [hsp]; simp
  · rename ¬ (((min u1 us.length : Nat) : Int) < ((u1 : Nat) : Int)) => hc
    have hsp := spec_ok (k := 3) (u1 := u1) (us := us) (by decide) (by omega)
    have hll : (us.take u1).length = u1 := by rw [List.length_take]; omega
    have hnum := num_eq hll
    rename ¬ ((127 : Int) < _) => h127
    have hla := last_eq (l := us.take u1) (by omega)
    rw [decide_eq_false h127] at hla
    refine hret' _ _ _ _ _ _ _ _ ?_ ?_ (by k_asm) (by k_asm) (by walk_at "subd") (by walk_at "getlt") (by walk_at "getlt")
    · rw [hsp]; refine ⟨_, congrArg (fun z => [Value.int z _]) ?_⟩; show _ = sVal (us.take u1); unfold sVal; rw [Int.sub_zero, Int.toNat_natCast, hnum, hll, hla, if_neg Bool.false_ne_true, Int.sub_zero]; skip
    · rw [hsp]; simp
  · rename ¬ (((min u1 us.length : Nat) : Int) < ((u1 : Nat) : Int)) => hc
    have hsp := spec_ok (k := 3) (u1 := u1) (us := us) (by decide) (by omega)
    have hll : (us.take u1).length = u1 := by rw [List.length_take]; omega
    have hnum := num_eq hll
    rename ¬ ((0 : Int) < _) => h00
    have hnil : us.take u1 = [] := List.eq_nil_of_length_eq_zero (by omega)
    refine hret' _ _ _ _ _ _ _ _ ?_ ?_ (by k_asm) (by k_asm) (by walk_at "subd") (by walk_at "getlt") (by walk_at "getlt")
    · rw [hsp]; refine ⟨_, congrArg (fun z => [Value.int z _]) ?_⟩; show _ = sVal (us.take u1); unfold sVal; rw [Int.sub_zero, Int.toNat_natCast, hnum, hll, hnil]; simp
    · rw [hsp]; simp
end
end Mine
end
section
open PySem PySem.W PyProof.Rows PySem.Calls
set_option maxRecDepth 100000
set_option maxHeartbeats 4000000
namespace Mine
theorem kw_LF1_0 : True := by
  k_with_none
  trivial
def ItObj (l : Addr) (i : Nat) (o : Obj) : Prop := o.cls = .type "list_iterator" ∧ o.data = .fields #[.ref l, .int i 0]
section
variable {prog : Program} {w : World} {A : Around} {E : Value → Shared → Prop} {s : Shared} {env : Env} {h₀ : Heap} {L l I : Addr} {x : Str} {px : Pos} {body : List Stmt} {Q : Flow → Shared → Prop} {its : Array Value} {k : Nat} {m₀ : Str → Option Value} {led₀ : List (Addr × Obj)}
def TurnPost (h₀ : Heap) (L l I : Addr) (its : Array Value) (k : Nat) (dr : Drawn) (os : OsState) (oI : Obj) (R : List (Addr × Obj) → (Str → Option Value) → Array GenState → Prop) (Q : Flow → Shared → Prop) (f : Flow) (s' : Shared) : Prop := match f with
  | .ret v => Q (.ret v) s'
  | .brk => Q .next s'
  | _ => ∃ led' m' gs' h' tk', s' = ⟨h', gs', dr, tk', os⟩ ∧ Fr h₀ L h' m' ∧ News h₀ L h' ((I, oI) :: led') ∧ (∀ q ∈ led', q.1 ≠ I) ∧ (l, W.listOf its k) ∈ led' ∧ R led' m' gs'
def AtLoop (prog : Program) (w : World) (A : Around) (env : Env) (x : Str) (px : Pos) (body : List Stmt) (Q : Flow → Shared → Prop) (E : Value → Shared → Prop) (it : Value) (s₂ : Shared) : Prop :=
  codeAny (model prog w) A (.forLoop (.Name x px) it body [] env) (fun r s' => match r with | .ok f => Q f s' | .error e => cameBackBy (model prog w) A env E e s') s₂
theorem iter_led (hE : PassesOwn (model prog w) A env E) (hh : A.handled = none) (hL : env.locals = L) (hx : env.kindOf x = some .local) (hk : env.scope.kind = .function)
    (R : Nat → List (Addr × Obj) → (Str → Option Value) → Array GenState → Prop) (F : Fr h₀ L s.heap m₀) (N : News h₀ L s.heap led₀) (hl : (l, W.listOf its k) ∈ led₀) (h0 : R 0 led₀ m₀ s.gens)
    (step : ∀ (I : Addr) i v led m gs h tk oI, i < its.size → its[i]? = some v → oI.cls = .type "list_iterator" → R i led m gs → (∀ q ∈ led, q.1 ≠ I) → (l, W.listOf its k) ∈ led → Fr h₀ L h (fun y => if y = x then some v else m y) → News h₀ L h ((I, oI) :: led) →
      wpAny (model prog w) A (execs body env) (TurnPost h₀ L l I its k s.drawn s.os oI (R (i + 1)) Q) E ⟨h, gs, s.drawn, tk, s.os⟩)
    (fin : ∀ led m gs h tk, R its.size led m gs → Fr h₀ L h m → News h₀ L h led → Q .next ⟨h, gs, s.drawn, tk, s.os⟩) :
    wpAny (model prog w) A (pyIter (.ref l)) (fun it s₂ => AtLoop prog w A env x px body Q E it s₂) E s := by
  have hls : s.heap.IsList l its := N.isList hl
  have hne : l ≠ s.heap.objs.size := by
    obtain ⟨o, e, _⟩ := hls
    exact Nat.ne_of_lt (Heap.lt_size e)
  refine wpAny_pyIter_list hls ?_
  have WW := Walks.list (prog := prog) (w := w) hh s.heap.objs.size l hne its
  generalize hI : s.heap.objs.size = I at WW hne ⊢
  have hI₀ : h₀.get? I = none := hI ▸ next_is_new F
  have hLI : L ≠ I := hI ▸ Nat.ne_of_lt F.ns.lt
  refine codeAny_forLoop_any
    (fun n s' => ∃ i led m gs h tk oI, s' = ⟨h, gs, s.drawn, tk, s.os⟩ ∧ i ≤ its.size ∧ n = its.size + 1 - i ∧ ItObj l i oI ∧ Fr h₀ L h m ∧ News h₀ L h ((I, oI) :: led) ∧ (∀ q ∈ led, q.1 ≠ I) ∧ (l, W.listOf its k) ∈ led ∧ R i led m gs) ?_ (its.size + 1) ?_
  · rintro n s' ⟨i, led, m, gs, h, tk, oI, rfl, hi, rfl, hit, F', N', hoff, hl', hR⟩
    have st : h.IsListIter I l i ∧ h.IsList l its := ⟨⟨oI, (N' _ (.head _)).1, hit.1, hit.2⟩, (N'.isList (.tail _ hl'))⟩
    have next : ∀ h₁ : Heap, (∀ b o, b ∉ [I] → h.get? b = some o → h₁.get? b = some o) → Fr h₀ L h₁ m ∧ News h₀ L h₁ led := fun h₁ hk₁ =>
      ⟨⟨F'.ns.at fun o e => hk₁ _ o (by simpa using hLI) e, fun b o e => hk₁ b o (fun hm => by rw [List.mem_singleton.mp hm, hI₀] at e; cases e) (F'.keep b o e), F'.above⟩,
        fun p hp => ⟨hk₁ _ _ (by simpa using hoff p hp) (N' p (.tail _ hp)).1, (N' p (.tail _ hp)).2⟩⟩
    by_cases hlt : i < its.size
    · refine WW.item i _ _ _ hlt st fun v h₁ tk₁ hP st₁ hk₁ => ?_
      obtain ⟨F₁, N₁⟩ := next h₁ hk₁
      refine wpAny_pure ?_
      obtain ⟨oI', ho', hc', hd'⟩ := st₁.1
      refine wpAny_assign_Name (wpAny_storeName_local hx (hL ▸ F₁.ns) (fun h₂ hn₂ hs₂ => ?_) (by show (env.scope.kind == .class || (env.scope.kind == .module && env.locals != env.globals)) = false; rw [hk]; rfl))
      rw [hL] at hn₂ hs₂
      have F₂ : Fr h₀ L h₂ (fun y => if y = x then some v else m y) := F₁.set hn₂ hs₂
      have N₂ : News h₀ L h₂ ((I, oI') :: led) := by
        intro p hp
        rcases List.mem_cons.mp hp with rfl | hp
        · exact ⟨hs₂.extBut _ _ (Ne.symm hLI) ho', Ne.symm hLI, hI₀⟩
        · exact (N₁.set hs₂) p hp
      refine wpAny_mono (step I i v led m gs h₂ _ oI' hlt hP hc' hR hoff hl' F₂ N₂) (fun f s₃ h₃ => ?_) fun _ _ e => hE _ _ e
      cases f with
      | ret v => exact h₃
      | brk => exact h₃
      | next =>
        obtain ⟨led', m', gs', h', tk', rfl, F₃, N₃, o₃, l₃, r₃⟩ := h₃
        exact ⟨its.size + 1 - (i + 1), by omega, i + 1, led', m', gs', h', tk', oI', rfl, hlt, rfl, ⟨hc', hd'⟩, F₃, N₃, o₃, l₃, r₃⟩
      | cont =>
        obtain ⟨led', m', gs', h', tk', rfl, F₃, N₃, o₃, l₃, r₃⟩ := h₃
        exact ⟨its.size + 1 - (i + 1), by omega, i + 1, led', m', gs', h', tk', oI', rfl, hlt, rfl, ⟨hc', hd'⟩, F₃, N₃, o₃, l₃, r₃⟩
    · have hin : i = its.size := by omega
      subst hin
      refine WW.done _ _ _ st fun h₁ tk₁ hk₁ => wpAny_execs_nil ?_
      obtain ⟨F₁, N₁⟩ := next h₁ hk₁
      exact fin led m gs h₁ tk₁ hR F₁ N₁
  · refine ⟨0, led₀, m₀, s.gens, _, s.toks, { cls := .type "list_iterator", data := .fields #[.ref l, .int 0 0] }, rfl, Nat.zero_le _, rfl, ⟨rfl, rfl⟩, F.push _, ?_, fun q hq => ?_, hl, h0⟩
    · intro p hp
      rcases List.mem_cons.mp hp with rfl | hp
      · exact ⟨by rw [← hI]; exact Heap.get?_push_size _ rfl, Ne.symm hLI, hI₀⟩
      · exact ⟨Heap.get?_push_of_some _ (N p hp).1, (N p hp).2⟩
    · rw [← hI]; exact Nat.ne_of_lt (Heap.lt_size (N q hq).1)
end
end Mine
end
section
open PySem PySem.W PyProof.Rows PySem.Calls
set_option maxRecDepth 100000
set_option maxHeartbeats 20000000
namespace Mine
theorem kw_LF2_0 : True := by
  k_with_none
  trivial
section
variable {w : World} {p : Program} {loose : List Str} {mean : ExcName → Option Value} {mg mb : Str → Option Value}
theorem right_int0 {l : Addr} {n : Int} {t tk : Tok} {rest : List (Addr × Obj)} :
    Tl w (Mine.hd.heap_1 w.params) p loose mean mg mb 20 100 (call (.ref 160) [.int 0 tk, .ref l]) ((l, W.listOf #[.int n t] 0) :: rest) (fun r led => r = .bool true ∧ led = (l, W.listOf #[.int n t] 0) :: rest) := by
  unfold Tl
  k_fill
  intro dp un gd cn cs a ccd cl outer A₀ base h₀ L m s Q E B F X N T hk hdp hu hret
  refine wpAny_call ?_
  k_dflt ktr_enter
  k_steps
  all_goals exact hret _ _ _ _ _ (by k_asm) (by k_asm) ⟨rfl, rfl⟩ id
theorem right_int3 {l : Addr} {n : Int} {t tk : Tok} {rest : List (Addr × Obj)} :
    Tl w (Mine.hd.heap_1 w.params) p loose mean mg mb 20 100 (call (.ref 160) [.int 3 tk, .ref l]) ((l, W.listOf #[.int n t] 0) :: rest) (fun r led => r = .bool true ∧ led = (l, W.listOf #[.int n t] 0) :: rest) := by
  unfold Tl
  k_fill
  intro dp un gd cn cs a ccd cl outer A₀ base h₀ L m s Q E B F X N T hk hdp hu hret
  refine wpAny_call ?_
  k_dflt ktr_enter
  k_steps
  all_goals exact hret _ _ _ _ _ (by k_asm) (by k_asm) ⟨rfl, rfl⟩ id
theorem right_err {l : Addr} {k : Int} {x : Str} {t tk : Tok} {rest : List (Addr × Obj)} :
    Tl w (Mine.hd.heap_1 w.params) p loose mean mg mb 20 100 (call (.ref 160) [.int k tk, .ref l]) ((l, W.listOf #[.none, .str x t] 0) :: rest) (fun r led => r = .bool true ∧ led = (l, W.listOf #[.none, .str x t] 0) :: rest) := by
  unfold Tl
  k_fill
  intro dp un gd cn cs a ccd cl outer A₀ base h₀ L m s Q E B F X N T hk hdp hu hret
  refine wpAny_call ?_
  k_dflt ktr_enter
  k_steps
  all_goals exact hret _ _ _ _ _ (by k_asm) (by k_asm) ⟨rfl, rfl⟩ id
theorem right_bytes {l : Addr} {b : Array UInt8} {t tk : Tok} {rest : List (Addr × Obj)} :
    Tl w (Mine.hd.heap_1 w.params) p loose mean mg mb 20 100 (call (.ref 160) [.int 1 tk, .ref l]) ((l, W.listOf #[.bytes b t] 0) :: rest) (fun r led => r = .bool true ∧ led = (l, W.listOf #[.bytes b t] 0) :: rest) := by
  unfold Tl
  k_fill
  intro dp un gd cn cs a ccd cl outer A₀ base h₀ L m s Q E B F X N T hk hdp hu hret
  refine wpAny_call ?_
  k_dflt ktr_enter
  k_steps
  all_goals exact hret _ _ _ _ _ (by k_asm) (by k_asm) ⟨rfl, rfl⟩ id
theorem right_str {l : Addr} {x : Str} {t tk : Tok} {rest : List (Addr × Obj)} :
    Tl w (Mine.hd.heap_1 w.params) p loose mean mg mb 20 100 (call (.ref 160) [.int 2 tk, .ref l]) ((l, W.listOf #[.str x t] 0) :: rest) (fun r led => r = .bool true ∧ led = (l, W.listOf #[.str x t] 0) :: rest) := by
  unfold Tl
  k_fill
  intro dp un gd cn cs a ccd cl outer A₀ base h₀ L m s Q E B F X N T hk hdp hu hret
  refine wpAny_call ?_
  k_dflt ktr_enter
  k_steps
  all_goals exact hret _ _ _ _ _ (by k_asm) (by k_asm) ⟨rfl, rfl⟩ id
end
section
variable {prog : Program} {w : World} {A : Around} {E : Value → Shared → Prop} {s : Shared} {h₀ : Heap} {L l1 l2 : Addr} {news : List (Addr × Obj)} {Q : Value → Shared → Prop}
theorem byteArr_of {b : Array UInt8} {l : List Nat} (h : KBw.bInts b = l.map Int.ofNat) : b = byteArr (l.map Int.ofNat) := by
  have e := toNats h
  apply Array.ext'
  show b.toList = _
  unfold byteArr
  rw [← e]
  simp only [List.map_map]
  rw [show ((fun n : Int => n.toNat.toUInt8) ∘ Int.ofNat ∘ fun x : UInt8 => x.toNat) = id from by
    funext c; show (c.toNat).toUInt8 = c; simp]
  simp
theorem txt_of {x : Str} {l : List Nat} (h : octs x = l) : x = txt l := octs_inj (by rw [h, octs_txt])
open PySem.SeqAt in
theorem eqAt_bytes {b : Array UInt8} {t u : Tok} : EqAt A s (.bytes b t) (.bytes b u) true := fun prog w E Q h => by
  unfold eqBool
  refine wpAny_holding ?_
  refine wpAny_ite_split (fun _ => wpAny_bind (wpAny_rule (wpAny_pure h))) (fun _ => ?_)
  have e : (b.toList == b.toList) = true := by simp
  exact wpAny_bind (m := richCompare .Eq _ _) (eq_bytes (by rw [e]; exact wpAny_truthy_bool h))
open PySem.SeqAt in
theorem eqAt_int {n : Int} {t u : Tok} : EqAt A s (.int n t) (.int n u) true := fun prog w E Q h => by
  unfold eqBool
  refine wpAny_holding ?_
  refine wpAny_ite_split (fun _ => wpAny_bind (wpAny_rule (wpAny_pure h))) (fun _ => ?_)
  have e : (n == n) = true := by simp
  exact wpAny_bind (m := richCompare .Eq _ _) (eq_int (by rw [e]; exact wpAny_truthy_bool h))
open PySem.SeqAt in
theorem eqAt_str {x : Str} {t u : Tok} : EqAt A s (.str x t) (.str x u) true := fun prog w E Q h => by
  unfold eqBool
  refine wpAny_holding ?_
  refine wpAny_ite_split (fun _ => wpAny_bind (wpAny_rule (wpAny_pure h))) (fun _ => ?_)
  have e : (x == x) = true := beq_self_eq_true x
  exact wpAny_bind (m := richCompare .Eq _ _) (eq_str (by rw [e]; exact wpAny_truthy_bool h))
open PySem.SeqAt in
theorem told_eqAt {T : Told} {vs1 vs2 : List Value} (h1 : T.Vs vs1) (h2 : T.Vs vs2) : vs1.length = vs2.length ∧ ∀ (A : Around) (s : Shared) (j : Nat) (j1 : j < vs1.length) (j2 : j < vs2.length), EqAt A s vs1[j] vs2[j] true := by
  cases T with
  | int n =>
    obtain ⟨t, rfl⟩ := h1; obtain ⟨u, rfl⟩ := h2
    refine ⟨rfl, fun A s j j1 j2 => ?_⟩
    have : j = 0 := by simp at j1; omega
    subst this; exact eqAt_int
  | bytes b =>
    obtain ⟨b1, t, rfl, e1⟩ := h1; obtain ⟨b2, u, rfl, e2⟩ := h2
    have h3 := byteArr_of e1
    have h4 := byteArr_of e2
    subst h3; subst h4
    refine ⟨rfl, fun A s j j1 j2 => ?_⟩
    have : j = 0 := by simp at j1; omega
    subst this; exact eqAt_bytes
  | str b =>
    obtain ⟨b1, t, rfl, e1⟩ := h1; obtain ⟨b2, u, rfl, e2⟩ := h2
    have h3 := txt_of e1
    have h4 := txt_of e2
    subst h3; subst h4
    refine ⟨rfl, fun A s j j1 j2 => ?_⟩
    have : j = 0 := by simp at j1; omega
    subst this; exact eqAt_str
  | err x =>
    obtain ⟨t, rfl⟩ := h1; obtain ⟨u, rfl⟩ := h2
    refine ⟨rfl, fun A s j j1 j2 => ?_⟩
    have : j = 0 ∨ j = 1 := by simp at j1; omega
    rcases this with rfl | rfl
    · exact EqAt.same _
    · exact eqAt_str
open PySem.SeqAt in
theorem ne_told {T : Told} {vs1 vs2 : List Value} (N : News h₀ L s.heap news) (m1 : (l1, W.listOf vs1.toArray 0) ∈ news) (m2 : (l2, W.listOf vs2.toArray 0) ∈ news) (h1 : T.Vs vs1) (h2 : T.Vs vs2) (hu : A.units < cLine) (h : Q (.bool false) s) :
    wpAny (model prog w) A (compareOp .NotEq (.ref l1) (.ref l2)) Q E s := by
  obtain ⟨e1, e2⟩ := told_eqAt h1 h2
  refine RcNeAt.lists (N.isList m1) (N.isList m2) (by simpa using e1) hu (e := fun _ => true) (fun j j1 j2 => by simpa using e2 A.in1 s j (by simpa using j1) (by simpa using j2)) prog w E Q ?_
  have e3 : ((List.range vs1.toArray.size).all fun _ => true) = true := List.all_eq_true.mpr fun _ _ => rfl
  rw [e3]
  exact h
end
end Mine
end
section
open PySem PySem.W PyProof.Rows PySem.Calls
set_option maxRecDepth 100000
set_option maxHeartbeats 4000000
namespace Mine
theorem kw_LF3_0 : True := by
  k_with_none
  trivial
section
variable {w : World} {p : Program} {loose : List Str} {mean : ExcName → Option Value} {mg mb : Str → Option Value}
theorem due_all {k : Int} {kn : Nat} {tk : Tok} {U : Addr} {vs : List Value} {nU : Nat} {rest : List (Addr × Obj)} {us : List Nat} (hk : k = (kn : Int)) (h3 : kn ≤ 3) (hi : IntsAre vs (us.map Int.ofNat)) (hl : us.length ≤ 1000) (ho : ∀ o ∈ us, o < 256) :
    Tl w (Mine.hd.heap_1 w.params) p loose mean mg mb 20 100 (call (.ref 165) [.ref U, .int k tk]) ((U, W.listOf vs.toArray nU) :: rest) (DuePost kn us U vs nU rest) := by
  subst hk
  cases us with
  | nil => exact due_e hi
  | cons u1 us =>
    have : kn = 0 ∨ kn = 1 ∨ kn = 2 ∨ kn = 3 := by omega
    rcases this with rfl | rfl | rfl | rfl
    · exact due_0 hi hl ho
    · exact due_1 hi hl ho
    · exact due_2 hi hl ho
    · exact due_3 hi hl ho
theorem try_all {o : Addr → Value → Value → Addr → Obj} (hIF : IsFns o) (hR : Reads w p loose mean mg mb o)
    {acc d : Addr} {items : Array Value} {n : Nat} {tk0 tkz tk : Tok} {z : Int} {ps : List (Str × Str)} {t1 t2 : Array Value} {rest : List (Addr × Obj)} {sd st rd c La : Addr} {doc ctv : Value} {tks : Tok} {fd : FuncData} {sl : Array (Option Value)} {oc oca : Obj} {vs : Array Value} {t : Tok} {np : Nat} {us : List Nat} {k : Int} {kn : Nat}
    (hk : k = (kn : Int)) (h3 : kn ≤ 3) (S : AccSt acc d items z t1 t2 ps (strm w o sd st rd c La doc ctv tks fd sl oc oca ++ rest)) (D : StrmSt acc sd st rd c La oc oca vs t) (hu : octs (textP ps) = us) (hp : ps.length ≤ np) (hl : us.length ≤ 1000) (ho : ∀ o ∈ us, o < 256) :
      Tl0 w (Mine.hd.heap_1 w.params) p loose mean mg mb (call (.ref 153) [.int k tk, .ref st]) (ledL w o acc d items n tk0 z tkz t1 t2 sd st rd c La doc ctv tks fd sl oc oca rest)
        (TryPost w o kn acc d us np tk0 sd st rd c La doc ctv tks fd sl oc oca rest) := by
  subst hk
  have : kn = 0 ∨ kn = 1 ∨ kn = 2 ∨ kn = 3 := by omega
  cases us with
  | nil =>
    rcases this with rfl | rfl | rfl | rfl
    · exact try_0_e hIF hR S D hu hp
    · exact try_1_e hIF hR S D hu hp
    · exact try_2_e hIF hR S D hu hp
    · exact try_3_e hIF hR S D hu hp
  | cons u1 us =>
    rcases this with rfl | rfl | rfl | rfl
    · exact try_0 hIF hR S D hu hp hl ho
    · exact try_1 hIF hR S D hu hp hl ho
    · exact try_2 hIF hR S D hu hp hl ho
    · exact try_3 hIF hR S D hu hp hl ho
theorem spec_kind {kn : Nat} {us : List Nat} (h3 : kn ≤ 3) : match (spec kn us).1 with
    | .int _ => kn = 0 ∨ kn = 3
    | .bytes _ => kn = 1
    | .str _ => kn = 2
    | .err _ => True := by
  have : kn = 0 ∨ kn = 1 ∨ kn = 2 ∨ kn = 3 := by omega
  cases us with
  | nil => trivial
  | cons u1 us =>
    rcases this with rfl | rfl | rfl | rfl
    · exact .inl rfl
    all_goals
      by_cases hlt : us.length < u1
      · rw [spec_short (by decide) hlt]; trivial
      · rw [spec_ok (by decide) (by omega)]; first | rfl | exact .inr rfl
theorem right_all {k : Int} {kn : Nat} {us : List Nat} {l : Addr} {vs : List Value} {tk : Tok} {rest : List (Addr × Obj)} (hk : k = (kn : Int)) (h3 : kn ≤ 3) (hv : (spec kn us).1.Vs vs) :
    Tl w (Mine.hd.heap_1 w.params) p loose mean mg mb 20 100 (call (.ref 160) [.int k tk, .ref l]) ((l, W.listOf vs.toArray 0) :: rest) (fun r led => r = .bool true ∧ led = (l, W.listOf vs.toArray 0) :: rest) := by
  subst hk
  have hs := spec_kind (us := us) h3
  cases hT : (spec kn us).1 with
  | int n =>
    rw [hT] at hs hv
    obtain ⟨t, rfl⟩ := hv
    rcases hs with rfl | rfl
    · exact right_int0
    · exact right_int3
  | bytes b =>
    rw [hT] at hs hv
    obtain ⟨b', t, rfl, _⟩ := hv
    subst hs
    exact right_bytes
  | str b =>
    rw [hT] at hs hv
    obtain ⟨x, t, rfl, _⟩ := hv
    subst hs
    exact right_str
  | err x =>
    rw [hT] at hv
    obtain ⟨t, rfl⟩ := hv
    exact right_err
end
end Mine
end
section
open PySem PySem.W PyProof.Rows PySem.Calls
set_option maxRecDepth 100000
set_option maxHeartbeats 4000000
namespace Mine
theorem kw_LF4_0 : True := by
  k_with_none
  trivial
theorem stream_T {w : World} {p : Program} {loose : List Str} {mean : ExcName → Option Value} {mg mb : Str → Option Value} {h : Heap} (_T : Top p loose mean mg mb h) : ∃ o, Makes w p loose mean mg mb o ∧ IsFns o ∧ Reads w p loose mean mg mb o := stream_both
section
variable {acc d : Addr} {items : Array Value} {z : Int} {t1 t2 : Array Value} {ps : List (Str × Str)} {rest rest' : List (Addr × Obj)}
/-- the entries off two addresses that hold no tuple -/
theorem AccSt.filt {h₀ h : Heap} {L I b : Addr} {oI ob : Obj} {news : List (Addr × Obj)} (S : AccSt acc d items z t1 t2 ps rest) (N : News h₀ L h news) (sub : ∀ q ∈ rest, q ∈ news) (mI : (I, oI) ∈ news) (mb : (b, ob) ∈ news) (nI : ∀ vs, oI ≠ tupO vs) (nb : ∀ vs, ob ≠ tupO vs) :
    AccSt acc d items z t1 t2 ps (rest.filter fun q => decide (q.1 ≠ I ∧ q.1 ≠ b)) := by
  refine S.re (fun q hq => (List.mem_filter.mp hq).1) ⟨S.hp.1, fun j f g e => ?_⟩
  obtain ⟨t, tf, tg, e1, e2⟩ := S.hp.2 j f g e
  refine ⟨t, tf, tg, e1, List.mem_filter.mpr ⟨e2, decide_eq_true ⟨fun q => ?_, fun q => ?_⟩⟩⟩
  · have h1 := (N _ (sub _ e2)).1
    have q' : t = I := q
    rw [show ((t, tupO [Value.str f tf, Value.str g tg]) : Addr × Obj).1 = I from q', (N _ mI).1] at h1
    exact nI _ (Option.some.inj h1)
  · have h1 := (N _ (sub _ e2)).1
    have q' : t = b := q
    rw [show ((t, tupO [Value.str f tf, Value.str g tg]) : Addr × Obj).1 = b from q', (N _ mb).1] at h1
    exact nb _ (Option.some.inj h1)
def AccFor (acc d : Addr) (items : Array Value) (z : Int) (t1 t2 : Array Value) (ps : List (Str × Str)) (f : Obj → List (Addr × Obj)) : Prop := ∀ o, AccSt acc d items z t1 t2 ps (f o)
theorem AccFor.at {f : Obj → List (Addr × Obj)} {o : Obj} (h : AccFor acc d items z t1 t2 ps f) (e : f o = rest) : AccSt acc d items z t1 t2 ps rest := e ▸ h o
end
end Mine
end
section
open PySem PySem.W PyProof.Rows PySem.Calls
set_option maxRecDepth 100000
set_option maxHeartbeats 40000000
namespace Mine
theorem AccFor.ext {acc d : Addr} {items : Array Value} {z : Int} {t1 t2 : Array Value} {ps : List (Str × Str)} {f : Obj → List (Addr × Obj)} {o : Obj} {G : List (Addr × Obj)} (h : AccFor acc d items z t1 t2 ps f) (hs : ∀ q ∈ f o, q ∈ G) (ex : ∀ q ∈ G, q ∈ f o ∨ (@Ne Nat q.1 acc ∧ @Ne Nat q.1 d ∧ @Ne Nat q.1 62 ∧ @Ne Nat q.1 69)) : AccSt acc d items z t1 t2 ps G :=
  let S := h o
  { S with
    hp := S.hp.mono hs
    o1 := fun q hq => (ex q hq).elim (S.o1 q) (·.1)
    o2 := fun q hq => (ex q hq).elim (S.o2 q) (·.2.1)
    o3 := fun q hq => (ex q hq).elim (S.o3 q) (·.2.2.1)
    o4 := fun q hq => (ex q hq).elim (S.o4 q) (·.2.2.2) }
theorem allLt_ne {b a : Addr} {ob : Obj} {l : List (Addr × Obj)} (h : AllLt b l) (hq : (a, ob) ∈ l) : @Ne Nat b a := Nat.ne_of_gt (allLt_get h _ hq)
theorem ex_in {P : Addr × Obj → Prop} {x : Addr × Obj} {l H : List (Addr × Obj)} (h : x ∈ H) (t : ∀ q ∈ l, q ∈ H ∨ P q) : ∀ q ∈ x :: l, q ∈ H ∨ P q := fun q hq => (List.mem_cons.mp hq).elim (fun e => .inl (e ▸ h)) (t q)
theorem ex_ne {P : Addr × Obj → Prop} {x : Addr × Obj} {l H : List (Addr × Obj)} (h : P x) (t : ∀ q ∈ l, q ∈ H ∨ P q) : ∀ q ∈ x :: l, q ∈ H ∨ P q := fun q hq => (List.mem_cons.mp hq).elim (fun e => .inr (e ▸ h)) (t q)
theorem ex_tl {P : Addr × Obj → Prop} {l H : List (Addr × Obj)} (h : ∀ q ∈ l, q ∈ H) : ∀ q ∈ l, q ∈ H ∨ P q := fun q hq => .inl (h q hq)
theorem tl0_dup {w : World} {p : Program} {loose : List Str} {mean : ExcName → Option Value} {mg mb : Str → Option Value} {e1 e2 e3 e4 e5 e6 e7 e8 e9 : Addr × Obj} {rest : List (Addr × Obj)} {K : Frag} {c : Sem Value} {Post : Value → List (Addr × Obj) → Prop} {cur c1 c2 c3 : List (Addr × Obj)} {cn : Str} {cs : Scope} {a : Addr} {ccd : Value} {cl : List (Str × Addr)} {base h₀ : Heap} {L : Addr} {m : Str → Option Value} {s : Shared} {Q E : Value → Shared → Prop}
    (B : Below callerA base [] h₀) (F : Fr h₀ L s.heap m) (X : K.In h₀) (N : News h₀ L s.heap cur) (T : Top p loose mean mg mb h₀) (XB : K.In base) (TB : Top p loose mean mg mb base) (r1 : Rm e1 cur c1) (r2 : Rm e2 c1 c2) (r3 : Rm e3 c2 c3) (r4 : Rm e4 c3 rest) (m5 : e5 ∈ cur) (m6 : e6 ∈ cur) (m7 : e7 ∈ cur) (m8 : e8 ∈ cur) (m9 : e9 ∈ cur)
    (x : Tl0 w K p loose mean mg mb c (e1 :: e2 :: e3 :: e4 :: e5 :: e6 :: e7 :: e8 :: e9 :: rest) Post) (hk : cs.kind = .function)
    (ret : ∀ r led' h' gs' tk', Fr h₀ L h' m → News h₀ L h' led' → Post r led' → (AllBare s.gens → AllBare gs') → Q r ⟨h', gs', s.drawn, tk', s.os⟩) :
    wpAny (model PySem.Challenge.rw_ij0160_01.row.prog w) (callerA.deeper (envX cn cs L a ccd cl)) c Q E s := by
  have cons : ∀ {e : Addr × Obj} {l c : List (Addr × Obj)}, Rm e c l → ∀ l2, (∀ q ∈ l2, q ∈ l) → ∀ q ∈ e :: l2, q ∈ c := fun r l2 h q hq => r.sub q ((List.mem_cons.mp hq).elim (fun e => e ▸ .head _) fun hq => .tail _ (h q hq))
  have hr : ∀ q ∈ rest, q ∈ cur := fun q hq => cons r1 _ (cons r2 _ (cons r3 _ (cons r4 _ fun q hq => hq))) q (.tail _ (.tail _ (.tail _ (.tail _ hq))))
  have h4 : ∀ q ∈ e1 :: e2 :: e3 :: e4 :: rest, q ∈ cur := cons r1 _ (cons r2 _ (cons r3 _ (cons r4 _ fun q hq => hq)))
  refine x _ _ _ _ _ _ _ _ _ _ _ _ B F X (fun q hq => N q ?_) T XB TB hk ret
  simp only [List.mem_cons] at hq
  rcases hq with rfl | rfl | rfl | rfl | rfl | rfl | rfl | rfl | rfl | hq
  · exact h4 _ (.head _)
  · exact h4 _ (.tail _ (.head _))
  · exact h4 _ (.tail _ (.tail _ (.head _)))
  · exact h4 _ (.tail _ (.tail _ (.tail _ (.head _))))
  · exact m5
  · exact m6
  · exact m7
  · exact m8
  · exact m9
  · exact hr _ hq

def Stop2 (P : Prop) : Prop := P
theorem Stop2.go {P : Prop} (h : Stop2 P) : P := h
noncomputable def ifElse : List Stmt → List Stmt
  | .If _ _ e _ :: _ => e
  | _ => []
noncomputable def ifThen : List Stmt → List Stmt
  | .If _ t _ _ :: _ => t
  | _ => []
theorem AccSt.of {acc d : Addr} {items : Array Value} {z : Int} {t1 t2 : Array Value} {ps : List (Str × Str)} {H G : List (Addr × Obj)} (S : AccSt acc d items z t1 t2 ps H) (hs : ∀ q ∈ H, q ∈ G) (ex : ∀ q ∈ G, q ∈ H ∨ (@Ne Nat q.1 acc ∧ @Ne Nat q.1 d ∧ @Ne Nat q.1 62 ∧ @Ne Nat q.1 69)) : AccSt acc d items z t1 t2 ps G :=
  { S with
    hp := S.hp.mono hs
    o1 := fun q hq => (ex q hq).elim (S.o1 q) (·.1)
    o2 := fun q hq => (ex q hq).elim (S.o2 q) (·.2.1)
    o3 := fun q hq => (ex q hq).elim (S.o3 q) (·.2.2.1)
    o4 := fun q hq => (ex q hq).elim (S.o4 q) (·.2.2.2) }
theorem from_ints {vs : List Value} {us : List Nat} {k : Nat} (hi : IntsAre vs (us.map Int.ofNat)) : IntsAre (slicePick vs.toArray (some (k : Int)) none none).toList ((us.drop k).map Int.ofNat) := by
  have h := kmk_from hi (x := (k : Int)) (by omega)
  rw [Int.toNat_natCast, ← List.map_drop] at h
  exact h
theorem after_try {w : World} {o : Addr → Value → Value → Addr → Obj} {h₀ h : Heap} {L acc d U sd st rd c La lt ld : Addr} {doc ctv : Value} {tks tk0 tkz : Tok} {fd : FuncData} {sl : Array (Option Value)} {oc oca oT oD oU : Obj} {t1 t2 it : Array Value} {n : Nat} {z : Int} {ps : List (Str × Str)} {eT e1 e2 e3 e4 e5 : Addr × Obj} {rest new : List (Addr × Obj)}
    (N : News h₀ L h ((lt, oT) :: ledL w o acc d it n tk0 z tkz t1 t2 sd st rd c La doc ctv tks fd sl oc oca (new ++ (eT :: (ld, oD) :: (U, oU) :: e1 :: e2 :: e3 :: e4 :: e5 :: rest))))
    (S : AccSt acc d it z t1 t2 ps (strm w o sd st rd c La doc ctv tks fd sl oc oca ++ (new ++ (eT :: (ld, oD) :: (U, oU) :: e1 :: e2 :: e3 :: e4 :: e5 :: rest)))) :
    ∃ R, News h₀ L h ((lt, oT) :: (ld, oD) :: (U, oU) :: (acc, accO 100 d it n) :: (d, szD w tk0 z tkz) :: (62, tabObj t1) :: (69, tabObj t2) :: R) ∧ AccSt acc d it z t1 t2 ps R ∧ ∀ q ∈ rest, q ∈ R := by
  refine ⟨strm w o sd st rd c La doc ctv tks fd sl oc oca ++ (new ++ (eT :: (ld, oD) :: (U, oU) :: e1 :: e2 :: e3 :: e4 :: e5 :: rest)), fun q hq => ?_, S, fun q hq => ?_⟩
  · refine N q ?_
    have hin : ∀ x : Addr × Obj, x ∈ eT :: (ld, oD) :: (U, oU) :: e1 :: e2 :: e3 :: e4 :: e5 :: rest → x ∈ (lt, oT) :: ledL w o acc d it n tk0 z tkz t1 t2 sd st rd c La doc ctv tks fd sl oc oca (new ++ (eT :: (ld, oD) :: (U, oU) :: e1 :: e2 :: e3 :: e4 :: e5 :: rest)) := fun x hx =>
      .tail _ (.tail _ (.tail _ (.tail _ (.tail _ (.tail _ (.tail _ (.tail _ (.tail _ (.tail _ (List.mem_append_right _ hx))))))))))
    rcases List.mem_cons.mp hq with rfl | hq
    · exact .head _
    rcases List.mem_cons.mp hq with rfl | hq
    · exact hin _ (.tail _ (.head _))
    rcases List.mem_cons.mp hq with rfl | hq
    · exact hin _ (.tail _ (.tail _ (.head _)))
    · exact .tail _ hq
  · exact List.mem_append_right _ (List.mem_append_right _ (.tail _ (.tail _ (.tail _ (.tail _ (.tail _ (.tail _ (.tail _ (.tail _ hq)))))))))
theorem news_pick {h₀ h : Heap} {L : Addr} {e1 e2 e3 e4 g1 g2 g3 g4 : Addr × Obj} {R : List (Addr × Obj)} (N : News h₀ L h (e1 :: e2 :: e3 :: e4 :: g1 :: g2 :: g3 :: g4 :: R)) : News h₀ L h (g1 :: g2 :: g3 :: g4 :: e1 :: R) := fun q hq => by
  refine N q ?_
  simp only [List.mem_cons] at hq ⊢
  rcases hq with h | h | h | h | h | h <;> simp only [h, true_or, or_true]
theorem read_map {h₀ h : Heap} {L : Addr} {a0 a1 a2 a3 a4 b0 b1 b2 b3 b4 b5 b6 b7 b8 b9 b10 b11 : Option Value} (F : Fr h₀ L h (fun y => if y = Str.ofString "size" then a0 else if y = Str.ofString "unread" then a1 else if y = Str.ofString "told" then a2 else if y = Str.ofString "taken" then a3 else if y = Str.ofString "due" then a4 else if y = Str.ofString "x" then b0 else if y = Str.ofString "size" then b1 else if y = Str.ofString "unread" then b2 else if y = Str.ofString "stream" then b3 else if y = Str.ofString "acc" then b4 else if y = Str.ofString "deed" then b5 else if y = Str.ofString "octets" then b6 else if y = Str.ofString "signs" then b7 else if y = Str.ofString "due" then b8 else if y = Str.ofString "taken" then b9 else if y = Str.ofString "told" then b10 else if y = Str.ofString "script" then b11 else none)) : Fr h₀ L h (fun y => if y = Str.ofString "x" then b0 else if y = Str.ofString "size" then a0 else if y = Str.ofString "unread" then a1 else if y = Str.ofString "stream" then b3 else if y = Str.ofString "acc" then b4 else if y = Str.ofString "deed" then b5 else if y = Str.ofString "octets" then b6 else if y = Str.ofString "signs" then b7 else if y = Str.ofString "due" then a4 else if y = Str.ofString "taken" then a3 else if y = Str.ofString "told" then a2 else if y = Str.ofString "script" then b11 else none) := by
  refine Fr.cast F fun y => ?_
  by_cases h0 : y = Str.ofString "x"
  · subst h0; exact rfl
  by_cases h1 : y = Str.ofString "size"
  · subst h1; exact rfl
  by_cases h2 : y = Str.ofString "unread"
  · subst h2; exact rfl
  by_cases h3 : y = Str.ofString "stream"
  · subst h3; exact rfl
  by_cases h4 : y = Str.ofString "acc"
  · subst h4; exact rfl
  by_cases h5 : y = Str.ofString "deed"
  · subst h5; exact rfl
  by_cases h6 : y = Str.ofString "octets"
  · subst h6; exact rfl
  by_cases h7 : y = Str.ofString "signs"
  · subst h7; exact rfl
  by_cases h8 : y = Str.ofString "due"
  · subst h8; exact rfl
  by_cases h9 : y = Str.ofString "taken"
  · subst h9; exact rfl
  by_cases h10 : y = Str.ofString "told"
  · subst h10; exact rfl
  by_cases h11 : y = Str.ofString "script"
  · subst h11; exact rfl
  simp only [if_neg h0, if_neg h1, if_neg h2, if_neg h3, if_neg h4, if_neg h5, if_neg h6, if_neg h7, if_neg h8, if_neg h9, if_neg h10, if_neg h11]

theorem spec_le {k : Nat} {us : List Nat} : ∀ q ∈ us.drop k, q ∈ us := fun q hq => List.mem_of_mem_drop hq
theorem AccSt.same {acc d : Addr} {items : Array Value} {z : Int} {t1 t2 : Array Value} {ps : List (Str × Str)} {H G : List (Addr × Obj)} (S : AccSt acc d items z t1 t2 ps H) (hs : ∀ q ∈ H, q ∈ G) (ex : ∀ q ∈ G, q ∈ H) : AccSt acc d items z t1 t2 ps G := S.of hs fun q hq => .inl (ex q hq)
theorem kw_LG4_1 : True := by
  k_with_none
  k_with "m call builtin:len" => (k_here; (with_reducible show wpAny _ _ (call (Value.builtin "len") [Value.ref _]) _ _ _); k_dflt (refine' len_ints_fit ?k1ρ ?k2ρ ?k3ρ ?_; (case k1ρ => exact News.isList (by k_asm) (by k_mem)); (case k2ρ => assumption); (case k3ρ => simp only [List.length_map, List.length_drop, List.length_append]; omega); k_whole); (try simp only [List.length_map]))
  k_with "m call builtin:len" => (k_here; (with_reducible show wpAny _ _ (call (Value.builtin "len") [Value.ref _]) _ _ _); k_dflt (refine' len_K ?k2ρ ?k2bρ ?k3ρ ?k4ρ ?k5ρ ?_; (case k2ρ => k_asm); (case k2bρ => k_asm); (case k3ρ => exact acc_inst (by k_asm) (by k_mem) (by k_mem)); (case k4ρ => k_is); (case k5ρ => k_is); k_whole))
  k_with "m sub" => first | exact fun q hq => hq | exact sub_drop (by walk_at "sub")
  k_with "m subs" => first | exact sub_cons (by k_mem) (by walk_at "subs") | walk_at "sub"
  k_with "m exs" => first | (refine' ex_in ?aρ ?_; (case aρ => k_mem); walk_at "exs") | (refine' ex_ne ?aρ ?_; (case aρ => dsimp only; first | exact ⟨(by with_reducible assumption), (by with_reducible assumption), (by with_reducible assumption), (by with_reducible assumption)⟩ | exact ⟨allLt_ne (by with_reducible assumption) (by k_mem), allLt_ne (by with_reducible assumption) (by k_mem), allLt_ne (by with_reducible assumption) (by k_mem), allLt_ne (by with_reducible assumption) (by k_mem)⟩); walk_at "exs") | exact ex_tl (by walk_at "sub")
  k_with "m rm" => first | with_reducible exact Rm.head | exact Rm.tail (by walk_at "rm")
  k_with "m acc st" => first | with_reducible assumption | exact AccSt.cons (by walk_at "acc st") (by first | omega | k_ne) (by first | omega | k_ne) (by first | omega | k_ne) (by first | omega | k_ne)
  k_with "m call ref" => (k_here; (try dsimp only [List.nil_append, List.cons_append]); (with_reducible show wpAny _ _ (call (Value.ref 165) [Value.ref _, Value.int _ _]) _ _ _); k_dflt (refine' tl_one ?k1ρ ?k2ρ ?k3ρ ?k4ρ ?k5ρ ?r1ρ (due_all ?hkρ ?h3ρ ?hiρ ?hlρ ?hoρ) rfl ?kdρ ?kuρ ?_; (case k1ρ => k_asm); (case k2ρ => k_asm); (case k3ρ => k_asm); (case k4ρ => k_asm); (case k5ρ => k_asm); (case r1ρ => walk_at "rm"); (case hiρ => assumption); (case hkρ => exact (Int.toNat_of_nonneg (by omega)).symm); (case h3ρ => omega); (case hlρ => omega); (case hoρ => assumption); (case kdρ => ktr_room); (case kuρ => ktr_units); intro r9ρ led9ρ h9ρ gs9ρ tk9ρ F9ρ N9ρ P9ρ G9ρ; obtain ⟨T9ρ, l9ρ, vs9ρ, t9ρ, e9ρ, hv9ρ, e9'ρ, a91ρ, a92ρ⟩ := P9ρ; subst e9ρ; subst e9'ρ; (try dsimp only)))
  k_with "m call ref" => (k_here; (try dsimp only [List.nil_append, List.cons_append]); (with_reducible show wpAny _ _ (call (Value.ref 160) [Value.int _ _, Value.ref _]) _ _ _); k_dflt (refine' tl_one ?k1ρ ?k2ρ ?k3ρ ?k4ρ ?k5ρ ?r1ρ (right_all ?hkρ ?h3ρ ?hvρ) rfl ?kdρ ?kuρ ?_; (case k1ρ => k_asm); (case k2ρ => k_asm); (case k3ρ => k_asm); (case k4ρ => k_asm); (case k5ρ => k_asm); (case r1ρ => walk_at "rm"); (case hvρ => assumption); (case hkρ => exact (Int.toNat_of_nonneg (by omega)).symm); (case h3ρ => omega); (case kdρ => ktr_room); (case kuρ => ktr_units); intro r9ρ led9ρ h9ρ gs9ρ tk9ρ F9ρ N9ρ P9ρ G9ρ; obtain ⟨e9ρ, e9'ρ⟩ := P9ρ; subst e9ρ; subst e9'ρ; (try dsimp only)))
  k_with "m call ref" => (k_here; (try dsimp only [List.nil_append, List.cons_append]); (with_reducible show wpAny _ _ (call (Value.ref 153) [Value.int _ _, Value.ref _]) _ _ _); k_dflt (refine' tl0_dup ?k1ρ ?k2ρ ?k3ρ ?k4ρ ?k5ρ ?k6ρ ?k7ρ ?r1ρ ?r2ρ ?r3ρ ?r4ρ ?r5ρ ?r6ρ ?r7ρ ?r8ρ ?r9ρ (try_all ?hIFρ ?hRρ ?hkρ ?h3ρ ?kSρ ?kDρ ?huρ ?hpρ ?hlρ ?hoρ) rfl ?_; (case k1ρ => k_asm); (case k2ρ => k_asm); (case k3ρ => k_asm); (case k4ρ => k_asm); (case k5ρ => k_asm); (case k6ρ => assumption); (case k7ρ => assumption); (case hIFρ => assumption); (case hRρ => assumption); (case kDρ => assumption); (case r1ρ => walk_at "rm"); (case r2ρ => walk_at "rm"); (case r3ρ => walk_at "rm"); (case r4ρ => walk_at "rm"); (case r5ρ => k_mem); (case r6ρ => k_mem); (case r7ρ => k_mem); (case r8ρ => k_mem); (case r9ρ => k_mem); (case kSρ => simp only [strm, List.cons_append, List.nil_append]; refine' AccSt.of (by assumption) ?zsρ ?zeρ; (case zsρ => (try dsimp only); walk_at "subs"); (case zeρ => (try dsimp only); walk_at "exs")); (case huρ => assumption); (case hpρ => assumption); (case hkρ => exact (Int.toNat_of_nonneg (by omega)).symm); (case h3ρ => omega); (case hlρ => omega); (case hoρ => assumption); intro r9ρ led9ρ h9ρ gs9ρ tk9ρ F9ρ N9ρ P9ρ G9ρ; obtain ⟨l9ρ, vs9ρ, itn9ρ, n9ρ, tz9ρ, t19ρ, t29ρ, psn9ρ, new9ρ, e9ρ, hv9ρ, e9'ρ, S9ρ, u9ρ, p9ρ, q91ρ, q92ρ, q93ρ, q94ρ⟩ := P9ρ; subst e9ρ; subst e9'ρ; simp only [ledL] at N9ρ; refine Stop2.go ?_))
  k_with "m compareOp NotEq ref ref" => (k_here; (with_reducible show wpAny _ _ (compareOp CmpOp.NotEq (Value.ref _) (Value.ref _)) _ _ _); k_dflt (refine ne_told (T := (spec _ _).1) (by k_asm) (by first | k_mem | exact List.mem_append_right _ (by k_mem)) (by first | k_mem | exact List.mem_append_right _ (by k_mem)) (by with_reducible assumption) (by with_reducible assumption) (by ktr_units) ?_))
  k_with "m bare" => first | assumption | (refine (by assumption : AllBare _ → AllBare _) ?_; dsimp only; walk_at "bare")
  k_with "m subscriptTail Name Slice ref ref" => (k_here; (with_reducible show wpAny _ _ (subscriptTail _ _ (Value.ref _) (Value.ref _)) _ _ _); k_dflt (refine' kmk_slice_ints (s := ⟨_, _, _, _, _⟩) ?Fρ ?Nρ ?lρ ?pρ ?qρ ?iρ ?mρ ?cρ ?_ ?ssρ ?tρ ?zρ; (case Fρ => k_asm); (case Nρ => k_asm); (case lρ => exact News.isList (by k_asm) (by k_mem)); (case pρ => exact IsPart.int _ _); (case qρ => exact IsPart.none); (case iρ => assumption); (case mρ => exact from_ints (by assumption)); (case cρ => exact rfl); (case ssρ => with_unfolding_all rfl); (case tρ => intro rρ; with_unfolding_all rfl); (case zρ => rw [sizeLine_eq]; (have hz9ρ := IntsAre.length (by assumption : IntsAre _ (List.map Int.ofNat _))); simp only [List.length_map, List.size_toArray] at hz9ρ ⊢; omega)); intro D'ρ ws'ρ h'ρ F'ρ N'ρ l1ρ hI'ρ hC'ρ hL'ρ; (try k_lt l1ρ))
  trivial
theorem read_ok {w : World} {p : Program} {loose : List Str} {mean : ExcName → Option Value} {mg mb : Str → Option Value} {o : Addr → Value → Value → Addr → Obj} (hIF : IsFns o) (hR : Reads w p loose mean mg mb o) (cs : Scope) (hcs : lawScope w.params = some cs) (bd : List Stmt) (hbd : ifElse ((forBody (lawBody w.params)).drop 2) = bd)
    {G : Heap} {L fa : Addr} {ccd : Value} {h : Heap} {gs : Array GenState} {dr : Drawn} {tk : Nat} {os : OsState} {Q : Flow → Shared → Prop} {E : Value → Shared → Prop}
    {acc d U sd st rd c La : Addr} {doc ctv : Value} {tks tk0 tkz tz td : Tok} {fd : FuncData} {sl : Array (Option Value)} {oc oca : Obj} {vsS : Array Value} {tS : Tok} {items t1 t2 : Array Value} {n nU np : Nat} {z dd : Int} {ps : List (Str × Str)} {us : List Nat} {vsU : List Value} {rest : List (Addr × Obj)}
    {v2 v3 v4 v5 v6 v7 v8 : Option Value}
    (B : Below callerA G [] G) (XB : (Mine.hd.heap_1 w.params).In G) (TB : Top p loose mean mg mb G) (hE : PassesOwn (model PySem.Challenge.rw_ij0160_01.row.prog w) (callerA.deeper (envOfC (Str.ofString "law") cs L fa ccd)) (envOfC (Str.ofString "law") cs L fa ccd) E)
    (F : Fr G L h (fun y => if y = Str.ofString "x" then v8 else if y = Str.ofString "size" then some (.int z tz) else if y = Str.ofString "unread" then some (.ref U) else if y = Str.ofString "stream" then some (.ref st) else if y = Str.ofString "acc" then some (.ref acc) else if y = Str.ofString "deed" then some (.int dd td) else if y = Str.ofString "octets" then v2 else if y = Str.ofString "signs" then v3 else if y = Str.ofString "due" then v4 else if y = Str.ofString "taken" then v5 else if y = Str.ofString "told" then v6 else if y = Str.ofString "script" then v7 else none))
    (N : News G L h (ledL w o acc d items n tk0 z tkz t1 t2 sd st rd c La doc ctv tks fd sl oc oca ((U, W.listOf vsU.toArray nU) :: rest)))
    (S : AccSt acc d items z t1 t2 ps rest) (hst : ∀ q ∈ strm w o sd st rd c La doc ctv tks fd sl oc oca, q ∈ rest) (hUm : (U, W.listOf vsU.toArray nU) ∈ rest)
    (D : StrmSt acc sd st rd c La oc oca vsS tS) (hd3 : 3 ≤ dd) (hd7 : dd < 7) (hu : octs (textP ps) = us) (hU : IntsAre vsU (us.map Int.ofNat)) (hTb : ∀ q ∈ us, q ∈ tabN) (hp : ps.length ≤ np) (hl : us.length ≤ 130) (hG : AllBare gs)
    (hret : ∀ h' gs' tk' items' n' tkz' t1' t2' psn U' vsU' nU' (us' : List Nat) rest' v4' v5' v6' tz', Fr G L h' (fun y => if y = Str.ofString "x" then v8 else if y = Str.ofString "size" then some (.int 0 tz') else if y = Str.ofString "unread" then some (.ref U') else if y = Str.ofString "stream" then some (.ref st) else if y = Str.ofString "acc" then some (.ref acc) else if y = Str.ofString "deed" then some (.int dd td) else if y = Str.ofString "octets" then v2 else if y = Str.ofString "signs" then v3 else if y = Str.ofString "due" then v4' else if y = Str.ofString "taken" then v5' else if y = Str.ofString "told" then v6' else if y = Str.ofString "script" then v7 else none) →
      News G L h' (grp w acc d items' n' tk0 0 tkz' t1' t2' ++ rest') → AccSt acc d items' 0 t1' t2' psn rest' → (∀ q ∈ rest, q ∈ rest') → (U', W.listOf vsU'.toArray nU') ∈ rest' →
      octs (textP psn) = us' → IntsAre vsU' (us'.map Int.ofNat) → (∀ q ∈ us', q ∈ us) → us'.length ≤ us.length → psn.length ≤ np → AllBare gs' → Q .next ⟨h', gs', dr, tk', os⟩) :
    wpAny (model PySem.Challenge.rw_ij0160_01.row.prog w) (callerA.deeper (envOfC (Str.ofString "law") cs L fa ccd)) (execs bd (envOfC (Str.ofString "law") cs L fa ccd)) (fun f s' => Q f s') E ⟨h, gs, dr, tk, os⟩ := by
  conv at hcs => lhs; whnf
  conv at hbd => lhs; whnf
  cases hcs
  subst hbd
  revert XB
  k_fill
  intro XB
  have X := XB
  have T := TB
  have ho : ∀ q ∈ us, q < 256 := fun q hq => tabN_lt q (hTb q hq)
  have hz := S.hz
  have hDl := D.lt
  have S1 : AccSt acc d items z t1 t2 ps (strm w o sd st rd c La doc ctv tks fd sl oc oca ++ ((U, W.listOf vsU.toArray nU) :: rest)) := S.same (fun q hq => List.mem_append_right _ (.tail _ hq)) (fun q hq => by
    rcases List.mem_append.mp hq with hq | hq
    · exact hst q hq
    · rcases List.mem_cons.mp hq with rfl | hq
      · exact hUm
      · exact hq)
  simp only [ledL] at N
  simp only [strm, List.cons_append, List.nil_append] at S1
  clear S
  k_steps
  unfold Stop2
  rename News _ _ _ _ => N9
  rename AccSt _ _ _ _ _ _ _ _ => S9
  obtain ⟨R, N10, S10, hsub⟩ := after_try N9 S9
  clear N9 S9 S1
  k_steps
  rename Fr _ _ _ _ => F9
  rename News _ _ _ _ => N11
  rename IntsAre _ (List.map Int.ofNat (List.drop _ _)) => hI9
  rename (@LT.lt Nat _ _ _ ∧ _) => l9
  rename octs (textP _) = List.drop _ _ => u9
  rename List.length _ ≤ np => p9
  refine hret _ _ _ _ _ _ _ _ _ _ _ 0 _ _ _ _ _ _ (read_map F9) (news_pick N11) (S10.cons (Nat.ne_of_gt l9.2.2.2.1) (Nat.ne_of_gt l9.2.2.2.2.1) (Nat.ne_of_gt l9.2.2.2.2.2.1) (Nat.ne_of_gt l9.2.2.2.2.2.2.1)) (fun q hq => .tail _ (hsub q hq)) (.head _) u9 hI9 spec_le ?l9 p9 (by walk_at "bare")
  case l9 => rw [List.length_drop]; omega
end Mine
end
section
open PySem PySem.W PyProof.Rows PySem.Calls
set_option maxRecDepth 100000
set_option maxHeartbeats 4000000
namespace Mine
theorem kw_LE4_0 : True := by
  k_with_none
  trivial
section
variable {prog : Program} {w : World} {A : Around} {E : Value → Shared → Prop} {s : Shared} {h₀ : Heap} {L : Addr} {m : Str → Option Value} {env : Env}
theorem tab_item {value slice : Expr} {U : Addr} {vs : List Value} {nU : Nat} {news : List (Addr × Obj)} {i : Int} {u : Tok} {Q : Value → Shared → Prop} (N : News h₀ L s.heap news) (hU : (U, W.listOf vs.toArray nU) ∈ news) (hi : IntsAre vs [1, 0, 2, 3, 32, 9, 160, 65, 128, 255, 127, 4, 133, 10, 200, 1])
    (h0 : 0 ≤ i) (h1 : i < 16) (h : ∀ q t, q ∈ tabN → Q (.int (Int.ofNat q) t) s)
    (hs : subscripted slice false (.ref U) (.int i u) = operate [.ref U, .int i u] (getItem (.ref U) (.int i u)) := by with_unfolding_all rfl) :
    wpAny (model prog w) A (subscriptTail value slice (.ref U) (.int i u)) Q E s := by
  have hl : s.heap.IsList U vs.toArray := N.isList hU
  obtain ⟨q, hq, e⟩ := tab_get (i := i.toNat) (by omega)
  obtain ⟨t, hx⟩ := hi.get i.toNat (Int.ofNat q) (by
    rw [List.getD_eq_getElem?_getD, List.getElem?_eq_getElem (by show i.toNat < 16; omega)] at e
    rw [List.getElem?_eq_getElem (by show i.toNat < 16; omega)]
    exact congrArg some e)
  exact tail_any hl.typeIs slot_list_getitem.lookup (wpAny_getItem_list hl h0 (by omega) (by simpa using hx) (h q t hq)) hs
theorem draw_rest {p1 p2 p3 p4 p5 p6 p7 p8 p9 p10 p11 : Pos} {k1 k2 k3 : Nat} {x rn tn : Str} {scope : Scope} {cl : List (Str × Addr)} {Fin : List Value → List (Addr × Obj) → Prop} {news : List (Addr × Obj)} {n : Nat} {lt cr ct : Addr} {orr ot : Obj} {tv : List Value} {rv : Int} {tr : Tok}
    (hrm : (cr, orr) ∈ news) (hrd : orr.data = .cell (some (.int rv tr))) (htm : (ct, ot) ∈ news) (htd : ot.data = .cell (some (.ref lt))) (hlt : (lt, W.listOf tv.toArray 0) ∈ news) (hw : IntsAre tv [1, 0, 2, 3, 32, 9, 160, 65, 128, 255, 127, 4, 133, 10, 200, 1]) (hcr : cl.lookup rn = some cr) (hct : cl.lookup tn = some ct)
    (hk : (relabel scope env).kind = .function) (hxs : ∀ C, (compEnvC scope cl C env).kindOf x = some .local) (hrs : ∀ C, (compEnvC scope cl C env).kindOf rn = some .cell) (hts : ∀ C, (compEnvC scope cl C env).kindOf tn = some .cell)
    (hd : (x == ("__debug__" : Str)) = false) (hdr : (rn == ("__debug__" : Str)) = false) (hdt : (tn == ("__debug__" : Str)) = false)
    (hn : n ≤ 5) (fin : ∀ ys (ol : List Nat), ol.length ≤ 5 → (∀ q ∈ ol, q ∈ tabN) → IntsAre ys (ol.map Int.ofNat) → Fin ys news) :
    LCg.CompRest prog w A h₀ L m env (.Subscript (.Name tn p1) (.BinOp (.BinOp (.BinOp (.Name rn p2) .FloorDiv (.Constant (.int 6) k1 p3) p4) .FloorDiv (.BinOp (.Constant (.int 16) k2 p5) .Pow (.Name x p6) p7) p8) .Mod (.Constant (.int 16) k3 p9) p10) p11) x scope cl s (fun _ => True)
      (fun i v => ∃ t, v = .int (0 + (i : Int)) t) Fin n 0 [] news := by
  have key : ∀ (j i : Nat) (ys : List Value) (ol : List Nat), i + j = n → ol.length = i → (∀ q ∈ ol, q ∈ tabN) → IntsAre ys (ol.map Int.ofNat) → LCg.CompRest prog w A h₀ L m env (.Subscript (.Name tn p1) (.BinOp (.BinOp (.BinOp (.Name rn p2) .FloorDiv (.Constant (.int 6) k1 p3) p4) .FloorDiv (.BinOp (.Constant (.int 16) k2 p5) .Pow (.Name x p6) p7) p8) .Mod (.Constant (.int 16) k3 p9) p10) p11) x scope cl s (fun _ => True)
      (fun i v => ∃ t, v = .int (0 + (i : Int)) t) Fin j i ys news := by
    intro j
    induction j with
    | zero =>
      intro i ys ol hij hol hq hy
      exact LCg.CompRest.zero (fin ys ol (by omega) hq hy)
    | succ j ih =>
      intro i ys ol hij hol hq hy
      refine LCg.CompRest.succ ?_
      rintro v I oI C oC D m₂ h tk E' ⟨t, rfl⟩ hC hx F N off ne
      have hn' : h.Ns C m₂ := hC.ns (N (C, oC) (.tail _ (.head _))).1
      refine Subscript_ (lcf_cell (N := N) hct (.tail _ (.tail _ (.tail _ htm))) htd ?_ hk (hts C) hdt)
      refine wpAny_BinOp (wpAny_BinOp (wpAny_BinOp (lcf_cell (N := N) hcr (.tail _ (.tail _ (.tail _ hrm))) hrd ?_ hk (hrs C) hdr)))
      refine wpAny_Constant_int (floordiv_int (by decide) ?_ (.inl (PyProof.noPylong_small (by decide))))
      refine wpAny_BinOp (wpAny_Constant_int (nm_local hn' hx ?_ hk (hxs C) hd))
      have hi5 : i < 5 := by omega
      have hpow : ∀ i : Nat, i < 5 → (16 : Int) ^ ((0 : Int) + (i : Int)).toNat ≠ 0 ∧ ((16 : Int) ^ ((0 : Int) + (i : Int)).toNat).natAbs < 1073741824 ∧ (Builtin.Int.intBits 16 : Int) * ((0 : Int) + (i : Int)) ≤ 2 ^ 27 := by
        intro i hi
        have : i = 0 ∨ i = 1 ∨ i = 2 ∨ i = 3 ∨ i = 4 := by omega
        rcases this with rfl | rfl | rfl | rfl | rfl <;> decide
      obtain ⟨hp1, hp2, hp3⟩ := hpow i hi5
      refine pow_int (by omega) hp3 ?_
      refine floordiv_int hp1 ?_ (.inl (PyProof.noPylong_small hp2))
      refine wpAny_Constant_int (mod_int' (by decide) ?_)
      have hm0 : 0 ≤ ((rv.fdiv 6).fdiv ((16 : Int) ^ ((0 : Int) + (i : Int)).toNat)).fmod 16 := fmod_lo _ (by decide)
      have hm1 : ((rv.fdiv 6).fdiv ((16 : Int) ^ ((0 : Int) + (i : Int)).toNat)).fmod 16 < 16 := fmod_hi _ (by decide)
      refine tab_item N (.tail _ (.tail _ (.tail _ hlt))) hw hm0 hm1 fun q tq hqt => ?_
      refine ⟨h, _, news, rfl, F, N, off, trivial, ih (i + 1) _ (ol ++ [q]) (by omega) (by simp [hol]) (fun r hr => ?_) ?_⟩
      · rcases List.mem_append.mp hr with hr | hr
        · exact hq r hr
        · rw [List.mem_singleton.mp hr]; exact hqt
      · rw [List.map_append]
        exact IntsAre.append hy (.cons (Int.ofNat q) tq .nil)
  exact key n 0 [] [] (by omega) rfl (fun _ h => nomatch h) .nil
end
end Mine
end
section
open PySem PySem.W PyProof.Rows PySem.Calls
set_option maxRecDepth 100000
set_option maxHeartbeats 40000000
namespace Mine

theorem push_map {h₀ h : Heap} {L : Addr} {a1 a2 a3 b0 b1 b2 b3 b4 b5 b6 b7 b8 b9 b10 b11 : Option Value} (F : Fr h₀ L h (fun y => if y = Str.ofString "unread" then a1 else if y = Str.ofString "signs" then a2 else if y = Str.ofString "octets" then a3 else if y = Str.ofString "x" then b0 else if y = Str.ofString "size" then b1 else if y = Str.ofString "unread" then b2 else if y = Str.ofString "stream" then b3 else if y = Str.ofString "acc" then b4 else if y = Str.ofString "deed" then b5 else if y = Str.ofString "octets" then b6 else if y = Str.ofString "signs" then b7 else if y = Str.ofString "due" then b8 else if y = Str.ofString "taken" then b9 else if y = Str.ofString "told" then b10 else if y = Str.ofString "script" then b11 else none)) : Fr h₀ L h (fun y => if y = Str.ofString "x" then b0 else if y = Str.ofString "size" then b1 else if y = Str.ofString "unread" then a1 else if y = Str.ofString "stream" then b3 else if y = Str.ofString "acc" then b4 else if y = Str.ofString "deed" then b5 else if y = Str.ofString "octets" then a3 else if y = Str.ofString "signs" then a2 else if y = Str.ofString "due" then b8 else if y = Str.ofString "taken" then b9 else if y = Str.ofString "told" then b10 else if y = Str.ofString "script" then b11 else none) := by
  refine Fr.cast F fun y => ?_
  by_cases h0 : y = Str.ofString "x"
  · subst h0; exact rfl
  by_cases h1 : y = Str.ofString "size"
  · subst h1; exact rfl
  by_cases h2 : y = Str.ofString "unread"
  · subst h2; exact rfl
  by_cases h3 : y = Str.ofString "stream"
  · subst h3; exact rfl
  by_cases h4 : y = Str.ofString "acc"
  · subst h4; exact rfl
  by_cases h5 : y = Str.ofString "deed"
  · subst h5; exact rfl
  by_cases h6 : y = Str.ofString "octets"
  · subst h6; exact rfl
  by_cases h7 : y = Str.ofString "signs"
  · subst h7; exact rfl
  by_cases h8 : y = Str.ofString "due"
  · subst h8; exact rfl
  by_cases h9 : y = Str.ofString "taken"
  · subst h9; exact rfl
  by_cases h10 : y = Str.ofString "told"
  · subst h10; exact rfl
  by_cases h11 : y = Str.ofString "script"
  · subst h11; exact rfl
  simp only [if_neg h0, if_neg h1, if_neg h2, if_neg h3, if_neg h4, if_neg h5, if_neg h6, if_neg h7, if_neg h8, if_neg h9, if_neg h10, if_neg h11]
theorem news_five {h₀ h : Heap} {L : Addr} {e g1 g2 g3 g4 : Addr × Obj} {R : List (Addr × Obj)} (N : News h₀ L h (e :: g1 :: g2 :: g3 :: g4 :: R)) : News h₀ L h (g1 :: g2 :: g3 :: g4 :: e :: R) := fun q hq => by
  refine N q ?_
  simp only [List.mem_cons] at hq ⊢
  rcases hq with h | h | h | h | h | h <;> simp only [h, true_or, or_true]
theorem cut_octs {x : Str} {l : List Nat} {dd : Int} (hx : octs x = l) (h0 : 0 ≤ dd) : octs (Txt.slice x none (some dd)) ++ octs (Txt.slice x (some dd) none) = l := by
  obtain ⟨k, rfl⟩ := Int.eq_ofNat_of_zero_le h0
  rw [octs_upto]
  by_cases h : k ≤ x.length
  · rw [octs_from _ _ h, List.take_append_drop, hx]
  · rw [slice_from_beyond (by omega), List.take_of_length_le (by rw [octs_len]; omega), hx]
    exact List.append_nil l
theorem push_octs {ps : List (Str × Str)} {us ol : List Nat} {dd : Int} (hu : octs (textP ps) = us) (h0 : 0 ≤ dd) : octs (textP (ps ++ [(Txt.slice (txt ol) none (some dd), Txt.slice (txt ol) (some dd) none)])) = us ++ ol := by
  rw [octs_snoc, hu, cut_octs (octs_txt ol) h0]
theorem obj_ne {h₀ h : Heap} {L a b : Addr} {o1 o2 : Obj} {cur : List (Addr × Obj)} (N : News h₀ L h cur) (m1 : (a, o1) ∈ cur) (m2 : (b, o2) ∈ cur) (hc : o1.cls ≠ o2.cls) : @Ne Nat a b := fun e => by
  have h1 := (N _ m1).1
  have h2 := (N _ m2).1
  dsimp only at h1 h2
  have e' : a = b := e
  rw [e', h2] at h1
  exact hc (congrArg Obj.cls (Option.some.inj h1)).symm
theorem AccSt.consL {h₀ h : Heap} {L acc d a : Addr} {items items' t1 t2 t1' t2' : Array Value} {z : Int} {ps : List (Str × Str)} {rest cur : List (Addr × Obj)} {ys : List Value} {n k : Nat} {es : List DictEntry} (N : News h₀ L h cur) (S : AccSt acc d items z t1 t2 ps rest) (m : (a, LCg.lst ys) ∈ cur) (ma : (acc, accO 100 d items' n) ∈ cur) (md : (d, dictOf es k) ∈ cur) (m1 : (62, tabObj t1') ∈ cur) (m2 : (69, tabObj t2') ∈ cur) : AccSt acc d items z t1 t2 ps ((a, LCg.lst ys) :: rest) :=
  S.cons (obj_ne N m ma (by rintro ⟨⟩)) (obj_ne N m md (by intro h; have h2 := Value.type.inj h; revert h2; decide)) (obj_ne N m m1 (by intro h; cases h)) (obj_ne N m m2 (by intro h; cases h))
theorem kw_LG5_1 : True := by
  k_with_none
  k_with "m getMethod ref" => (k_here; k_dflt (refine' kmeth ?k1ρ ?k2ρ ?k3ρ ?k4ρ ?k5ρ ?k6ρ ?k7ρ ?k8ρ ?k9ρ ?_; (case k1ρ => k_asm); (case k2ρ => k_asm); (case k3ρ => exact acc_inst (by k_asm) (by k_mem) (by k_mem)); (case k4ρ => k_is); (case k5ρ => k_is); (case k6ρ => k_is); (case k7ρ => k_is); (case k8ρ => exact rfl); (case k9ρ => exact rfl); k_whole))
  k_with "m sub" => first | exact fun q hq => hq | exact sub_drop (by walk_at "sub")
  k_with "m subs" => first | exact sub_cons (by k_mem) (by walk_at "subs") | walk_at "sub"
  k_with "m exs" => first | (refine' ex_in ?aρ ?_; (case aρ => k_mem); walk_at "exs") | (refine' ex_ne ?aρ ?_; (case aρ => dsimp only; first | exact ⟨(by with_reducible assumption), (by with_reducible assumption), (by with_reducible assumption), (by with_reducible assumption)⟩ | exact ⟨allLt_ne (by with_reducible assumption) (by k_mem), allLt_ne (by with_reducible assumption) (by k_mem), allLt_ne (by with_reducible assumption) (by k_mem), allLt_ne (by with_reducible assumption) (by k_mem)⟩); walk_at "exs") | exact ex_tl (by walk_at "sub")
  k_with "m rm" => first | with_reducible exact Rm.head | exact Rm.tail (by walk_at "rm")
  k_with "m call ref" => (k_here; (try dsimp only [List.nil_append, List.cons_append]); (with_reducible show wpAny _ _ (call (Value.ref 45) [Value.ref _, Value.str _ _, Value.str _ _]) _ _ _); k_dflt (refine' tl_go ?k1ρ ?k2ρ ?k3ρ ?k4ρ ?k5ρ ?r1ρ ?r2ρ ?r3ρ ?r4ρ (push_acc ?kSρ ?klρ ?kfρ ?kgρ) ?kkρ ?kdρ ?kuρ ?_; (case k1ρ => k_asm); (case k2ρ => k_asm); (case k3ρ => k_asm); (case k4ρ => k_asm); (case k5ρ => k_asm); (case r1ρ => walk_at "rm"); (case r2ρ => walk_at "rm"); (case r3ρ => walk_at "rm"); (case r4ρ => walk_at "rm"); (case kSρ => walk_at "acc st"); (case klρ => omega); (case kfρ => walk_at "len le"); (case kgρ => walk_at "len le"); (case kkρ => first | exact rfl | assumption); (case kdρ => ktr_room); (case kuρ => ktr_units); intro r9ρ led9ρ h9ρ gs9ρ tk9ρ F9ρ N9ρ P9ρ G9ρ; obtain ⟨e9ρ, t9ρ, q9ρ, e9'ρ, S9ρ⟩ := P9ρ; subst e9ρ; subst e9'ρ; simp only [grp, List.cons_append, List.nil_append] at N9ρ; (try dsimp only); (try k_sweep)))
  k_with "m eval ListComp" => (k_here; (with_reducible show wpAny _ _ (eval (Expr.ListComp (Expr.Call (Expr.Name ("chr" : Str) _) [Expr.Name _ _] [] _) _ _ _) _) _ _ _); k_dflt (refine LCg.ListComp_U (F₀ := by k_asm) (by with_unfolding_all rfl) (by decide) (by rfl) (by decide) (by rfl) ?_))
  k_with "m call builtin:str.join" => (k_here; (with_reducible show wpAny _ _ (call (Value.builtin "str.join") [Value.str _ _, Value.ref _]) _ _ _); k_dflt (refine' join_chrs ?j1ρ ?j2ρ ?j3ρ ?j4ρ ?_; (case j1ρ => k_asm); (case j2ρ => k_mem); (case j3ρ => assumption); (case j4ρ => first | omega | (simp only [List.length_map, List.length_take]; omega)); k_whole); intro tJρ kJρ)
  k_with "m CompSrc" => (k_here; (with_reducible show LCg.CompSrc _ _ _ _ _ _ _ (Expr.Call (Expr.Name ("chr" : Str) _) [Expr.Name _ _] [] _) _ _ _ _ _ _); k_dflt (refine' LCg.CompSrc.ledger rfl ?cFρ ?cNρ ?cMρ ?cZρ (fun gC => chr_rest ?cTρ (ns_none_of ?cXρ (Top.g ?cTρ) ?cHρ) rfl rfl rfl ?cOρ ?cLρ ?cDρ ?cIρ ?cRρ ?cSρ ?_); (case cFρ => k_asm); (case cNρ => k_asm); (case cMρ => k_mem); (case cTρ => k_asm); (case cXρ => k_asm); (case cHρ => k_is); (case cOρ => intro _; rfl); (case cLρ => intro _; rfl); (case cDρ => decide); (case cIρ => assumption); (case cRρ => assumption); (case cZρ => rw [sizeLine_eq]; (have hz9ρ := IntsAre.length (by assumption : IntsAre _ (List.map Int.ofNat _))); simp only [List.length_map, List.size_toArray] at hz9ρ ⊢; omega); (case cSρ => exact .inr ⟨_, by k_mem, rfl, _, rfl⟩)); intro ysCρ hysCρ)
  k_with "m exec Assign cons ListComp" => (k_here; k_dflt (refine LCg.Assign_ListComp_U (F₀ := by k_asm) (by rfl) (by with_unfolding_all rfl) (by with_unfolding_all rfl) (by decide) (by rfl) (by decide) (by rfl) (by rfl) (by rfl) ?_))
  k_with "m CompSrc" => (k_here; (with_reducible show LCg.CompSrc _ _ _ _ _ _ _ (Expr.Subscript _ _ _) _ _ _ _ _ _); k_dflt (refine' LCg.CompSrc.range rfl ?cFρ ?cNρ ?cRρ ?cSρ ?cTρ ?cZρ (fun gC => draw_rest ?w1ρ hor ?w2ρ hoT ?w3ρ htv rfl rfl rfl ?cOρ ?cLρ ?cKρ ?cDρ ?cEρ ?cGρ ?cHρ ?_); (case cFρ => k_asm); (case cNρ => k_asm); (case cRρ => assumption); (case cSρ => refine small_one ?_ ?_ ?_ ?_ <;> l_bnd); (case cTρ => exact rangeSize_nat _ _); (case cZρ => rw [sizeLine_eq]; omega); (case w1ρ => k_mem); (case w2ρ => k_mem); (case w3ρ => k_mem); (case cOρ => intro _; rfl); (case cLρ => intro _; rfl); (case cKρ => intro _; rfl); (case cDρ => decide); (case cEρ => decide); (case cGρ => decide); (case cHρ => omega); k_whole); intro ysCρ olCρ olLρ olTρ hysCρ; (have ho9 : ∀ q ∈ olCρ, q < 1000 := fun q hq => Nat.lt_trans (tabN_lt q (olTρ q hq)) (by decide)))
  k_with "m subscriptTail Name Slice str ref" => (k_here; (with_reducible show wpAny _ _ (subscriptTail _ (PySem.Expr.Slice none _ _ _) (Value.str _ _) (Value.ref _)) _ _ _); k_dflt (refine' slice_strN_ns (s := ⟨_, _, _, _, _⟩) ?sFρ ?sNρ ?_ ?sSρ ?sTρ ?sZρ; (case sFρ => k_asm); (case sNρ => k_asm); (case sSρ => with_unfolding_all rfl); (case sTρ => intro _; with_unfolding_all rfl); (case sZρ => rw [sizeLine_eq, txt_len]; omega); k_whole); intro h'ρ t'ρ k'ρ F'ρ N'ρ)
  k_with "m subscriptTail Name Slice str ref" => (k_here; (with_reducible show wpAny _ _ (subscriptTail _ (PySem.Expr.Slice (some _) _ _ _) (Value.str _ _) (Value.ref _)) _ _ _); k_dflt (refine' slice_strN_sn (s := ⟨_, _, _, _, _⟩) ?sFρ ?sNρ ?_ ?sSρ ?sTρ ?sZρ; (case sFρ => k_asm); (case sNρ => k_asm); (case sSρ => with_unfolding_all rfl); (case sTρ => intro _; with_unfolding_all rfl); (case sZρ => rw [sizeLine_eq, txt_len]; omega); k_whole); intro h'ρ t'ρ k'ρ F'ρ N'ρ)
  k_with "m len le" => exact Nat.le_trans (PyProof.Txt.length_slice_le _ _ _) (by rw [txt_len]; omega)
  k_with "m acc st" => first | with_reducible assumption | exact AccSt.consL (by k_asm) (by walk_at "acc st") (by k_mem) (by k_mem) (by k_mem) (by k_mem) (by k_mem)
  k_with "m bare" => first | assumption | (refine (by assumption : AllBare _ → AllBare _) ?_; dsimp only; walk_at "bare")
  trivial
theorem push_ok {w : World} {p : Program} {loose : List Str} {mean : ExcName → Option Value} {mg mb : Str → Option Value} (cs : Scope) (hcs : lawScope w.params = some cs) (bd : List Stmt) (hbd : ifThen ((forBody (lawBody w.params)).drop 2) = bd)
    {G : Heap} {L fa : Addr} {ccd : Value} {h : Heap} {gs : Array GenState} {dr : Drawn} {tk : Nat} {os : OsState} {Q : Flow → Shared → Prop} {E : Value → Shared → Prop}
    {acc d U lt : Addr} {tk0 tkz tz td tr : Tok} {oT orest : Obj} {items t1 t2 : Array Value} {n nU np : Nat} {z dd rv : Int} {ps : List (Str × Str)} {us : List Nat} {vsU tv : List Value} {rest : List (Addr × Obj)}
    {v2 v3 v4 v5 v6 v7 v8 v9 : Option Value}
    (B : Below callerA G [] G) (XB : (Mine.hd.heap_1 w.params).In G) (TB : Top p loose mean mg mb G) (hE : PassesOwn (model PySem.Challenge.rw_ij0160_01.row.prog w) (callerA.deeper (envOfC (Str.ofString "law") cs L fa ccd)) (envOfC (Str.ofString "law") cs L fa ccd) E)
    (F : Fr G L h (fun y => if y = Str.ofString "x" then v8 else if y = Str.ofString "size" then some (.int z tz) else if y = Str.ofString "unread" then some (.ref U) else if y = Str.ofString "stream" then v9 else if y = Str.ofString "acc" then some (.ref acc) else if y = Str.ofString "deed" then some (.int dd td) else if y = Str.ofString "octets" then v2 else if y = Str.ofString "signs" then v3 else if y = Str.ofString "due" then v4 else if y = Str.ofString "taken" then v5 else if y = Str.ofString "told" then v6 else if y = Str.ofString "script" then v7 else none))
    (N : News G L h ((acc, accO 100 d items n) :: (d, szD w tk0 z tkz) :: (62, tabObj t1) :: (69, tabObj t2) :: (U, W.listOf vsU.toArray nU) :: (lt, W.listOf tv.toArray 0) :: (L + 1 + 1 + 1, orest) :: (L + 1, oT) :: rest))
    (hoT : oT.data = .cell (some (.ref lt))) (hor : orest.data = .cell (some (.int rv tr))) (htv : IntsAre tv [1, 0, 2, 3, 32, 9, 160, 65, 128, 255, 127, 4, 133, 10, 200, 1])
    (S : AccSt acc d items z t1 t2 ps rest) (hUm : (U, W.listOf vsU.toArray nU) ∈ rest) (hlt : (lt, W.listOf tv.toArray 0) ∈ rest) (hom : (L + 1 + 1 + 1, orest) ∈ rest) (hTm : (L + 1, oT) ∈ rest)
    (hd3 : 0 ≤ dd) (hd7 : dd < 3) (hrv : 0 ≤ rv) (hrv2 : rv < 6291456) (hu : octs (textP ps) = us) (hU : IntsAre vsU (us.map Int.ofNat)) (hTb : ∀ q ∈ us, q ∈ tabN) (hp : ps.length ≤ np) (hnp : np ≤ 900) (hl : us.length ≤ 130) (hG : AllBare gs)
    (hret : ∀ h' gs' tk' items' n' t1' t2' psn U' vsU' nU' (us' : List Nat) rest' v2' v3', Fr G L h' (fun y => if y = Str.ofString "x" then v8 else if y = Str.ofString "size" then some (.int z tz) else if y = Str.ofString "unread" then some (.ref U') else if y = Str.ofString "stream" then v9 else if y = Str.ofString "acc" then some (.ref acc) else if y = Str.ofString "deed" then some (.int dd td) else if y = Str.ofString "octets" then v2' else if y = Str.ofString "signs" then v3' else if y = Str.ofString "due" then v4 else if y = Str.ofString "taken" then v5 else if y = Str.ofString "told" then v6 else if y = Str.ofString "script" then v7 else none) →
      News G L h' (grp w acc d items' n' tk0 z tkz t1' t2' ++ rest') → AccSt acc d items' z t1' t2' psn rest' → (∀ q ∈ rest, q ∈ rest') → (U', W.listOf vsU'.toArray nU') ∈ rest' →
      octs (textP psn) = us' → IntsAre vsU' (us'.map Int.ofNat) → (∀ q ∈ us', q ∈ tabN) → us'.length ≤ us.length + 5 → psn.length ≤ np + 1 → AllBare gs' → Q .next ⟨h', gs', dr, tk', os⟩) :
    wpAny (model PySem.Challenge.rw_ij0160_01.row.prog w) (callerA.deeper (envOfC (Str.ofString "law") cs L fa ccd)) (execs bd (envOfC (Str.ofString "law") cs L fa ccd)) (fun f s' => Q f s') E ⟨h, gs, dr, tk, os⟩ := by
  conv at hcs => lhs; whnf
  conv at hbd => lhs; whnf
  cases hcs
  subst hbd
  revert XB
  k_fill
  intro XB
  have X := XB
  have T := TB
  have ho : ∀ q ∈ us, q < 256 := fun q hq => tabN_lt q (hTb q hq)
  have hz := S.hz
  have S1 : AccSt acc d items z t1 t2 ps ((U, W.listOf vsU.toArray nU) :: (lt, W.listOf tv.toArray 0) :: (L + 1 + 1 + 1, orest) :: (L + 1, oT) :: rest) := S.same (fun q hq => .tail _ (.tail _ (.tail _ (.tail _ hq)))) (fun q hq => by
    simp only [List.mem_cons] at hq
    rcases hq with rfl | rfl | rfl | rfl | hq <;> assumption)
  clear S
  have hr0 : 0 ≤ rv.fmod 6 := fmod_lo _ (by decide)
  have hr6 : rv.fmod 6 < 6 := fmod_hi _ (by decide)
  k_steps
  rename Fr _ _ _ _ => F9
  rename News _ _ _ _ => N11
  rename AccSt _ _ _ _ _ _ _ _ => S9
  rename IntsAre _ (List.map Int.ofNat _ ++ List.map Int.ofNat _) => hI9
  rename (@LT.lt Nat _ _ _ ∧ _) => l9
  rename (∀ q, q ∈ _ → q ∈ tabN) => olT9
  rename List.length _ ≤ 5 => olL9
  refine hret _ _ _ _ _ _ _ _ _ _ 0 _ _ _ _ (push_map F9) (news_five N11) (S9.cons (Nat.ne_of_gt l9.1) (Nat.ne_of_gt l9.2.1) (Nat.ne_of_gt l9.2.2.1) (Nat.ne_of_gt l9.2.2.2.1)) (fun q hq => .tail _ (.tail _ (.tail _ (.tail _ (.tail _ (.tail _ (.tail _ (.tail _ hq)))))))) (.head _) (push_octs hu hd3) (by rw [List.map_append]; exact hI9) (fun q hq => (List.mem_append.mp hq).elim (hTb q) (olT9 q)) (by rw [List.length_append]; omega) (by rw [List.length_append]; exact Nat.succ_le_succ hp) (by walk_at "bare")
end Mine
end
section
open PySem PySem.W PyProof.Rows PySem.Calls
set_option maxRecDepth 100000
set_option maxHeartbeats 40000000
namespace Mine
theorem turn_map {h₀ h : Heap} {L : Addr} {a1 b0 b1 b2 b3 b4 b5 b6 b7 b8 b9 b10 b11 : Option Value} (F : Fr h₀ L h (fun y => if y = Str.ofString "deed" then a1 else if y = Str.ofString "x" then b0 else if y = Str.ofString "size" then b1 else if y = Str.ofString "unread" then b2 else if y = Str.ofString "stream" then b3 else if y = Str.ofString "acc" then b4 else if y = Str.ofString "deed" then b5 else if y = Str.ofString "octets" then b6 else if y = Str.ofString "signs" then b7 else if y = Str.ofString "due" then b8 else if y = Str.ofString "taken" then b9 else if y = Str.ofString "told" then b10 else if y = Str.ofString "script" then b11 else none)) : Fr h₀ L h (fun y => if y = Str.ofString "x" then b0 else if y = Str.ofString "size" then b1 else if y = Str.ofString "unread" then b2 else if y = Str.ofString "stream" then b3 else if y = Str.ofString "acc" then b4 else if y = Str.ofString "deed" then a1 else if y = Str.ofString "octets" then b6 else if y = Str.ofString "signs" then b7 else if y = Str.ofString "due" then b8 else if y = Str.ofString "taken" then b9 else if y = Str.ofString "told" then b10 else if y = Str.ofString "script" then b11 else none) := by
  refine Fr.cast F fun y => ?_
  by_cases h0 : y = Str.ofString "x"
  · subst h0; exact rfl
  by_cases h1 : y = Str.ofString "size"
  · subst h1; exact rfl
  by_cases h2 : y = Str.ofString "unread"
  · subst h2; exact rfl
  by_cases h3 : y = Str.ofString "stream"
  · subst h3; exact rfl
  by_cases h4 : y = Str.ofString "acc"
  · subst h4; exact rfl
  by_cases h5 : y = Str.ofString "deed"
  · subst h5; exact rfl
  by_cases h6 : y = Str.ofString "octets"
  · subst h6; exact rfl
  by_cases h7 : y = Str.ofString "signs"
  · subst h7; exact rfl
  by_cases h8 : y = Str.ofString "due"
  · subst h8; exact rfl
  by_cases h9 : y = Str.ofString "taken"
  · subst h9; exact rfl
  by_cases h10 : y = Str.ofString "told"
  · subst h10; exact rfl
  by_cases h11 : y = Str.ofString "script"
  · subst h11; exact rfl
  simp only [if_neg h0, if_neg h1, if_neg h2, if_neg h3, if_neg h4, if_neg h5, if_neg h6, if_neg h7, if_neg h8, if_neg h9, if_neg h10, if_neg h11]
theorem turn_fin {w : World} {G h : Heap} {L acc d U lw I : Addr} {oI orest oW : Obj} {tk0 tkz : Tok} {items t1 t2 : Array Value} {n nU : Nat} {z : Int} {ps : List (Str × Str)} {vsU wv : List Value} {vr : Option Value} {rest rest1 : List (Addr × Obj)}
    (N : News G L h ((acc, accO 100 d items n) :: (d, szD w tk0 z tkz) :: (62, tabObj t1) :: (69, tabObj t2) :: (U, W.listOf vsU.toArray nU) :: (lw, W.listOf wv.toArray 0) :: (L + 1 + 1, oW) :: rest1))
    (S : AccSt acc d items z t1 t2 ps ((U, W.listOf vsU.toArray nU) :: (lw, W.listOf wv.toArray 0) :: (L + 1 + 1, oW) :: rest1)) (hsub : ∀ q ∈ (I, oI) :: (L + 1 + 1 + 1, orest) :: rest, q ∈ rest1) (hUm : (U, W.listOf vsU.toArray nU) ∈ rest1) (hlw : (lw, W.listOf wv.toArray 0) ∈ rest) (hWm : (L + 1 + 1, oW) ∈ rest)
    (hI : oI.cls = .type "list_iterator") (hor : orest.data = .cell vr) (hO : OwnOff rest [L + 1 + 1 + 1]) (hOI : ∀ q ∈ rest, @Ne Nat q.1 I) :
    ∃ rest', News G L h ((I, oI) :: (acc, accO 100 d items n) :: (d, szD w tk0 z tkz) :: (62, tabObj t1) :: (69, tabObj t2) :: (L + 1 + 1 + 1, orest) :: rest') ∧ AccSt acc d items z t1 t2 ps rest' ∧ (∀ q ∈ rest, q ∈ rest') ∧ (U, W.listOf vsU.toArray nU) ∈ rest' ∧ OwnOff rest' [L + 1 + 1 + 1] ∧ ∀ q ∈ rest', @Ne Nat q.1 I := by
  have up : ∀ q ∈ rest1, q ∈ (acc, accO 100 d items n) :: (d, szD w tk0 z tkz) :: (62, tabObj t1) :: (69, tabObj t2) :: (U, W.listOf vsU.toArray nU) :: (lw, W.listOf wv.toArray 0) :: (L + 1 + 1, oW) :: rest1 := fun q hq => .tail _ (.tail _ (.tail _ (.tail _ (.tail _ (.tail _ (.tail _ hq))))))
  have mI : (I, oI) ∈ rest1 := hsub _ (.head _)
  have mR : (L + 1 + 1 + 1, orest) ∈ rest1 := hsub _ (.tail _ (.head _))
  have hr : ∀ q ∈ rest, q ∈ rest1 := fun q hq => hsub q (.tail _ (.tail _ hq))
  have nI : ∀ vs, oI ≠ tupO vs := fun vs e => by
    rw [e] at hI
    have h2 := Value.type.inj hI
    revert h2; decide
  have nR : ∀ vs, orest ≠ tupO vs := fun vs e => by rw [e] at hor; cases hor
  have S1 : AccSt acc d items z t1 t2 ps rest1 := S.same (fun q hq => by
    simp only [List.mem_cons] at hq
    rcases hq with rfl | rfl | rfl | hq
    · exact hUm
    · exact hr _ hlw
    · exact hr _ hWm
    · exact hq) (fun q hq => .tail _ (.tail _ (.tail _ hq)))
  refine ⟨rest1.filter fun q => decide (q.1 ≠ I ∧ q.1 ≠ L + 1 + 1 + 1), fun q hq => ?_, S1.filt N up (up _ mI) (up _ mR) nI nR, fun q hq => ?_, ?_, fun q hq b hb => ?_, fun q hq => ?_⟩
  · refine N q ?_
    simp only [List.mem_cons] at hq
    rcases hq with rfl | rfl | rfl | rfl | rfl | rfl | hq
    · exact up _ mI
    · exact .head _
    · exact .tail _ (.head _)
    · exact .tail _ (.tail _ (.head _))
    · exact .tail _ (.tail _ (.tail _ (.head _)))
    · exact up _ mR
    · exact up _ (List.mem_filter.mp hq).1
  · exact List.mem_filter.mpr ⟨hr q hq, decide_eq_true ⟨hOI q hq, hO q hq _ (.head _)⟩⟩
  · refine List.mem_filter.mpr ⟨hUm, decide_eq_true ⟨obj_ne N (up _ hUm) (up _ mI) ?_, fun e => ?_⟩⟩
    · rw [hI]
      intro h2
      have h3 := Value.type.inj h2
      revert h3; decide
    · have h1 := (N _ (up _ hUm)).1
      have h2 := (N _ (up _ mR)).1
      dsimp only at h1 h2 e
      rw [e, h2] at h1
      rw [Option.some.inj h1] at hor
      cases hor
  · rw [List.mem_singleton.mp hb]
    exact (of_decide_eq_true (List.mem_filter.mp hq).2).2
  · exact (of_decide_eq_true (List.mem_filter.mp hq).2).1
theorem turn_rest {w : World} {p : Program} {loose : List Str} {mean : ExcName → Option Value} {mg mb : Str → Option Value} (cs : Scope) (hcs : lawScope w.params = some cs) (bd : List Stmt) (hbd : (forBody (lawBody w.params)).drop 3 = bd)
    {G : Heap} {L fa : Addr} {ccd : Value} {h : Heap} {gs : Array GenState} {dr : Drawn} {tk : Nat} {os : OsState} {Q : Flow → Shared → Prop} {E : Value → Shared → Prop}
    {acc d st U lw I : Addr} {tk0 tkz tz tx : Tok} {oI orest oW : Obj} {items t1 t2 : Array Value} {n nU i : Nat} {z xv : Int} {ps : List (Str × Str)} {us : List Nat} {vsU wv : List Value} {rest rest1 : List (Addr × Obj)}
    {v1 v2 v3 v4 v5 v6 v7 vr : Option Value}
    (B : Below callerA G [] G) (XB : (Mine.hd.heap_1 w.params).In G) (TB : Top p loose mean mg mb G) (hE : PassesOwn (model PySem.Challenge.rw_ij0160_01.row.prog w) (callerA.deeper (envOfC (Str.ofString "law") cs L fa ccd)) (envOfC (Str.ofString "law") cs L fa ccd) E)
    (F : Fr G L h (fun y => if y = Str.ofString "x" then some (.int xv tx) else if y = Str.ofString "size" then some (.int z tz) else if y = Str.ofString "unread" then some (.ref U) else if y = Str.ofString "stream" then some (.ref st) else if y = Str.ofString "acc" then some (.ref acc) else if y = Str.ofString "deed" then v1 else if y = Str.ofString "octets" then v2 else if y = Str.ofString "signs" then v3 else if y = Str.ofString "due" then v4 else if y = Str.ofString "taken" then v5 else if y = Str.ofString "told" then v6 else if y = Str.ofString "script" then v7 else none))
    (N : News G L h (grp w acc d items n tk0 z tkz t1 t2 ++ rest1)) (S : AccSt acc d items z t1 t2 ps rest1) (hsub : ∀ q ∈ (I, oI) :: (L + 1 + 1 + 1, orest) :: rest, q ∈ rest1) (hUm : (U, W.listOf vsU.toArray nU) ∈ rest1) (hlw : (lw, W.listOf wv.toArray 0) ∈ rest) (hWm : (L + 1 + 1, oW) ∈ rest)
    (hoW : oW.data = .cell (some (.ref lw))) (hwv : IntsAre wv [9, 10, 32, 133, 160]) (hI : oI.cls = .type "list_iterator") (hor : orest.data = .cell vr) (hO : OwnOff rest [L + 1 + 1 + 1]) (hOI : ∀ q ∈ rest, @Ne Nat q.1 I)
    (hu : octs (textP ps) = us) (hU : IntsAre vsU (us.map Int.ofNat)) (hTb : ∀ q ∈ us, q ∈ tabN) (hi : i < 26) (hp : ps.length ≤ i + 1) (hl : us.length ≤ 5 * (i + 1)) (hG : AllBare gs)
    (hret : ∀ h' gs' tk' items' n' z' tkz' t1' t2' psn U' vsU' nU' (us' : List Nat) orest' vr' rest' v1' v2' v3' v4' v5' v6' tz', Fr G L h' (fun y => if y = Str.ofString "x" then some (.int xv tx) else if y = Str.ofString "size" then some (.int z' tz') else if y = Str.ofString "unread" then some (.ref U') else if y = Str.ofString "stream" then some (.ref st) else if y = Str.ofString "acc" then some (.ref acc) else if y = Str.ofString "deed" then v1' else if y = Str.ofString "octets" then v2' else if y = Str.ofString "signs" then v3' else if y = Str.ofString "due" then v4' else if y = Str.ofString "taken" then v5' else if y = Str.ofString "told" then v6' else if y = Str.ofString "script" then v7 else none) →
      News G L h' ((I, oI) :: (acc, accO 100 d items' n') :: (d, szD w tk0 z' tkz') :: (62, tabObj t1') :: (69, tabObj t2') :: (L + 1 + 1 + 1, orest') :: rest') → orest'.data = .cell vr' → AccSt acc d items' z' t1' t2' psn rest' → (∀ q ∈ rest, q ∈ rest') → (U', W.listOf vsU'.toArray nU') ∈ rest' →
      OwnOff rest' [L + 1 + 1 + 1] → (∀ q ∈ rest', @Ne Nat q.1 I) → octs (textP psn) = us' → IntsAre vsU' (us'.map Int.ofNat) → (∀ q ∈ us', q ∈ tabN) → us'.length ≤ 5 * (i + 1) → psn.length ≤ i + 1 → AllBare gs' → Q .next ⟨h', gs', dr, tk', os⟩) :
    wpAny (model PySem.Challenge.rw_ij0160_01.row.prog w) (callerA.deeper (envOfC (Str.ofString "law") cs L fa ccd)) (execs bd (envOfC (Str.ofString "law") cs L fa ccd)) (fun f s' => Q f s') E ⟨h, gs, dr, tk, os⟩ := by
  have hr : ∀ q ∈ rest, q ∈ rest1 := fun q hq => hsub q (.tail _ (.tail _ hq))
  refine tail_ok cs hcs bd hbd B XB TB hE F (tk0 := tk0) (tkz := tkz) (n := n) (nU := nU) (tl := rest1) (lw := lw) (wv := wv) (oW := oW) (fun q hq => N q ?_) hoW hwv (S.same (fun q hq => .tail _ (.tail _ (.tail _ hq))) (fun q hq => ?_)) hu hU hTb (by omega) hG (fun h' gs' tk' t1' t2' F' N' S' G' => ?_)
  · simp only [grp, List.cons_append, List.nil_append, List.mem_cons] at hq ⊢
    rcases hq with h | h | h | h | rfl | rfl | rfl | h
    · exact .inl h
    · exact .inr (.inl h)
    · exact .inr (.inr (.inl h))
    · exact .inr (.inr (.inr (.inl h)))
    · exact .inr (.inr (.inr (.inr hUm)))
    · exact .inr (.inr (.inr (.inr (hr _ hlw))))
    · exact .inr (.inr (.inr (.inr (hr _ hWm))))
    · exact .inr (.inr (.inr (.inr h)))
  · simp only [List.mem_cons] at hq
    rcases hq with rfl | rfl | rfl | hq
    · exact hUm
    · exact hr _ hlw
    · exact hr _ hWm
    · exact hq
  · obtain ⟨rest', N2, S2, h1, h2, h3, h4⟩ := turn_fin N' S' hsub hUm hlw hWm hI hor hO hOI
    exact hret _ _ _ _ _ _ _ _ _ _ _ _ _ _ _ _ _ _ _ _ _ _ _ _ F' N2 hor S2 h1 h2 h3 h4 hu hU hTb hl hp G'
theorem kw_LG6_1 : True := by
  k_with_none
  k_with "m ite" => (refine Stop2.go ?_)
  trivial
theorem turn_ok {w : World} {p : Program} {loose : List Str} {mean : ExcName → Option Value} {mg mb : Str → Option Value} {o : Addr → Value → Value → Addr → Obj} (hIF : IsFns o) (hR : Reads w p loose mean mg mb o) (cs : Scope) (hcs : lawScope w.params = some cs) (bd : List Stmt) (hbd : forBody (lawBody w.params) = bd)
    {G : Heap} {L fa : Addr} {ccd : Value} {h : Heap} {gs : Array GenState} {dr : Drawn} {tk : Nat} {os : OsState} {Q : Flow → Shared → Prop} {E : Value → Shared → Prop}
    {acc d sd st rd c La U lw lt I : Addr} {doc ctv : Value} {tks tk0 tkz tz tx : Tok} {fd : FuncData} {sl : Array (Option Value)} {oc oca oI orest oW oT : Obj} {vsS : Array Value} {tS : Tok} {items t1 t2 : Array Value} {n nU i : Nat} {z xv : Int} {ps : List (Str × Str)} {us : List Nat} {vsU tv wv : List Value} {rest : List (Addr × Obj)}
    {v1 v2 v3 v4 v5 v6 v7 vr : Option Value}
    (B : Below callerA G [] G) (XB : (Mine.hd.heap_1 w.params).In G) (TB : Top p loose mean mg mb G) (hE : PassesOwn (model PySem.Challenge.rw_ij0160_01.row.prog w) (callerA.deeper (envOfC (Str.ofString "law") cs L fa ccd)) (envOfC (Str.ofString "law") cs L fa ccd) E)
    (F : Fr G L h (fun y => if y = Str.ofString "x" then some (.int xv tx) else if y = Str.ofString "size" then some (.int z tz) else if y = Str.ofString "unread" then some (.ref U) else if y = Str.ofString "stream" then some (.ref st) else if y = Str.ofString "acc" then some (.ref acc) else if y = Str.ofString "deed" then v1 else if y = Str.ofString "octets" then v2 else if y = Str.ofString "signs" then v3 else if y = Str.ofString "due" then v4 else if y = Str.ofString "taken" then v5 else if y = Str.ofString "told" then v6 else if y = Str.ofString "script" then v7 else none))
    (N : News G L h ((I, oI) :: (acc, accO 100 d items n) :: (d, szD w tk0 z tkz) :: (62, tabObj t1) :: (69, tabObj t2) :: (L + 1 + 1 + 1, orest) :: rest))
    (hor : orest.data = .cell vr) (hst : ∀ q ∈ strm w o sd st rd c La doc ctv tks fd sl oc oca, q ∈ rest) (hUm : (U, W.listOf vsU.toArray nU) ∈ rest) (hlt : (lt, W.listOf tv.toArray 0) ∈ rest) (hlw : (lw, W.listOf wv.toArray 0) ∈ rest) (hTm : (L + 1, oT) ∈ rest) (hWm : (L + 1 + 1, oW) ∈ rest)
    (hoT : oT.data = .cell (some (.ref lt))) (hoW : oW.data = .cell (some (.ref lw))) (htv : IntsAre tv [1, 0, 2, 3, 32, 9, 160, 65, 128, 255, 127, 4, 133, 10, 200, 1]) (hwv : IntsAre wv [9, 10, 32, 133, 160])
    (S : AccSt acc d items z t1 t2 ps rest) (D : StrmSt acc sd st rd c La oc oca vsS tS) (hu : octs (textP ps) = us) (hU : IntsAre vsU (us.map Int.ofNat)) (hTb : ∀ q ∈ us, q ∈ tabN) (hi : i < 26) (hp : ps.length ≤ i) (hl : us.length ≤ 5 * i)
    (hI : oI.cls = .type "list_iterator") (e1 : @LT.lt Nat _ (L + 1 + 1 + 1) acc) (e2 : @LT.lt Nat _ (L + 1 + 1 + 1) d) (e3 : @LT.lt Nat _ 62 L) (e4 : @LT.lt Nat _ 69 L) (e5 : @Ne Nat I (L + 1 + 1 + 1)) (hIa : @Ne Nat I acc ∧ @Ne Nat I d ∧ @Ne Nat I 62 ∧ @Ne Nat I 69) (hO : OwnOff rest [L + 1 + 1 + 1]) (hOI : ∀ q ∈ rest, @Ne Nat q.1 I) (hG : AllBare gs)
    (hret : ∀ h' gs' tk' items' n' z' tkz' t1' t2' psn U' vsU' nU' (us' : List Nat) orest' vr' rest' v1' v2' v3' v4' v5' v6' tz', Fr G L h' (fun y => if y = Str.ofString "x" then some (.int xv tx) else if y = Str.ofString "size" then some (.int z' tz') else if y = Str.ofString "unread" then some (.ref U') else if y = Str.ofString "stream" then some (.ref st) else if y = Str.ofString "acc" then some (.ref acc) else if y = Str.ofString "deed" then v1' else if y = Str.ofString "octets" then v2' else if y = Str.ofString "signs" then v3' else if y = Str.ofString "due" then v4' else if y = Str.ofString "taken" then v5' else if y = Str.ofString "told" then v6' else if y = Str.ofString "script" then v7 else none) →
      News G L h' ((I, oI) :: (acc, accO 100 d items' n') :: (d, szD w tk0 z' tkz') :: (62, tabObj t1') :: (69, tabObj t2') :: (L + 1 + 1 + 1, orest') :: rest') → orest'.data = .cell vr' → AccSt acc d items' z' t1' t2' psn rest' → (∀ q ∈ rest, q ∈ rest') → (U', W.listOf vsU'.toArray nU') ∈ rest' →
      OwnOff rest' [L + 1 + 1 + 1] → (∀ q ∈ rest', @Ne Nat q.1 I) → octs (textP psn) = us' → IntsAre vsU' (us'.map Int.ofNat) → (∀ q ∈ us', q ∈ tabN) → us'.length ≤ 5 * (i + 1) → psn.length ≤ i + 1 → AllBare gs' → Q .next ⟨h', gs', dr, tk', os⟩) :
    wpAny (model PySem.Challenge.rw_ij0160_01.row.prog w) (callerA.deeper (envOfC (Str.ofString "law") cs L fa ccd)) (execs bd (envOfC (Str.ofString "law") cs L fa ccd)) (fun f s' => Q f s') E ⟨h, gs, dr, tk, os⟩ := by
  have hbd0 := hbd
  have hcs0 := hcs
  conv at hcs => lhs; whnf
  conv at hbd => lhs; whnf
  cases hcs
  subst hbd
  have XB0 := XB
  revert XB
  k_fill
  intro XB
  have X := XB
  have T := TB
  have hx0 : 0 ≤ xv.fmod 7 := fmod_lo _ (by decide)
  have hx7 : xv.fmod 7 < 7 := fmod_hi _ (by decide)
  k_steps
  unfold Stop2
  rename Fr _ _ _ _ => F9
  rename News _ _ _ _ => N9
  rename Obj.data _ = Data.cell _ => d9
  rename Obj => o9
  have hr0 : 0 ≤ (xv.fdiv 7).fmod 6291456 := fmod_lo _ (by decide)
  have hr7 : (xv.fdiv 7).fmod 6291456 < 6291456 := fmod_hi _ (by decide)
  have S9 : AccSt acc d items z t1 t2 ps ((I, oI) :: (L + 1 + 1 + 1, o9) :: rest) :=
    (S.cons (Nat.ne_of_lt e1) (Nat.ne_of_lt e2) (Nat.ne_of_gt (by omega)) (Nat.ne_of_gt (by omega))).cons hIa.1 hIa.2.1 hIa.2.2.1 hIa.2.2.2
  by_cases h3 : xv.fmod 7 < 3
  · rw [if_pos (decide_eq_true h3)]
    refine push_ok _ hcs0 _ (by rw [hbd0]; rfl) B XB0 TB hE (turn_map F9) (tk0 := tk0) (tkz := tkz) (n := n) (nU := nU) (rest := (I, oI) :: (L + 1 + 1 + 1, o9) :: rest) (np := i) (fun q hq => N9 q ?_) hoT d9 htv S9 (.tail _ (.tail _ hUm)) (.tail _ (.tail _ hlt)) (.tail _ (.head _)) (.tail _ (.tail _ hTm)) hx0 h3 hr0 hr7 hu hU hTb hp (by omega) (by omega) hG ?_
    · simp only [List.mem_cons] at hq ⊢
      rcases hq with h | h | h | h | rfl | rfl | h | rfl | h | h | h
      · simp only [h, true_or, or_true]
      · simp only [h, true_or, or_true]
      · simp only [h, true_or, or_true]
      · simp only [h, true_or, or_true]
      · simp only [hUm, or_true]
      · simp only [hlt, or_true]
      · simp only [h, true_or, or_true]
      · simp only [hTm, or_true]
      · simp only [h, true_or, or_true]
      · simp only [h, true_or, or_true]
      · simp only [h, or_true]
    · intro h' gs' tk' items' n' t1' t2' psn U' vsU' nU' us' rest' v2' v3' F' N' S' hs' hU' u' i' b' l' p' G'
      exact turn_rest _ hcs0 _ (by rw [hbd0]; rfl) B XB0 TB hE F' N' S' hs' hU' hlw hWm hoW hwv hI d9 hO hOI u' i' b' hi p' (by omega) G' hret
  · rw [if_neg (by simpa using h3)]
    refine read_ok hIF hR _ hcs0 _ (by rw [hbd0]; rfl) B XB0 TB hE (turn_map F9) (tk0 := tk0) (tkz := tkz) (n := n) (nU := nU) (rest := (I, oI) :: (L + 1 + 1 + 1, o9) :: rest) (np := i) (fun q hq => N9 q ?_) S9 (fun q hq => .tail _ (.tail _ (hst q hq))) (.tail _ (.tail _ hUm)) D (by omega) hx7 hu hU hTb hp (by omega) hG ?_
    · have hq2 : q ∈ (acc, accO 100 d items n) :: (d, szD w tk0 z tkz) :: (62, tabObj t1) :: (69, tabObj t2) :: (strm w o sd st rd c La doc ctv tks fd sl oc oca ++ (U, W.listOf vsU.toArray nU) :: (I, oI) :: (L + 1 + 1 + 1, o9) :: rest) := hq
      simp only [List.mem_cons, List.mem_append] at hq2 ⊢
      rcases hq2 with h | h | h | h | h | rfl | h | h | h
      · simp only [h, true_or, or_true]
      · simp only [h, true_or, or_true]
      · simp only [h, true_or, or_true]
      · simp only [h, true_or, or_true]
      · have h2 := hst q (by simpa only [List.mem_cons] using h)
        simp only [h2, or_true]
      · simp only [hUm, or_true]
      · simp only [h, true_or, or_true]
      · simp only [h, true_or, or_true]
      · simp only [h, or_true]
    · intro h' gs' tk' items' n' tkz' t1' t2' psn U' vsU' nU' us' rest' v4' v5' v6' tz' F' N' S' hs' hU' u' i' b' l' p' G'
      exact turn_rest _ hcs0 _ (by rw [hbd0]; rfl) B XB0 TB hE F' N' S' hs' hU' hlw hWm hoW hwv hI d9 hO hOI u' i' (fun q hq => hTb q (b' q hq)) hi (by omega) (by omega) G' hret
end Mine
end
section
open PySem PySem.W PyProof.Rows PySem.Calls
set_option maxRecDepth 100000
set_option maxHeartbeats 40000000
namespace Mine
noncomputable def forSt : List Stmt → Option Stmt
  | .For a b c d e :: _ => some (.For a b c d e)
  | _ :: r => forSt r
  | [] => none
/-- what holds ahead of turn i -/
def Inv (w : World) (o : Addr → Value → Value → Addr → Obj) (L acc d sd st rd c La lt lw SC : Addr) (doc ctv : Value) (tks tk0 : Tok) (fd : FuncData) (sl : Array (Option Value)) (oc oca oT oW : Obj) (t3 : Array Value) (tv wv : List Value) (l : Addr) (its : Array Value) (k : Nat) (i : Nat) (led : List (Addr × Obj)) (m : Str → Option Value) (gs : Array GenState) : Prop :=
  ∃ (items t1 t2 : Array Value) (n nU : Nat) (z : Int) (tkz tz : Tok) (orest : Obj) (vr : Option Value) (U : Addr) (vsU : List Value) (us : List Nat) (ps : List (Str × Str)) (rest : List (Addr × Obj)) (v1 v2 v3 v4 v5 v6 : Option Value),
    led = (acc, accO 100 d items n) :: (d, szD w tk0 z tkz) :: (62, tabObj t1) :: (69, tabObj t2) :: (L + 1 + 1 + 1, orest) :: rest ∧ orest.data = .cell vr ∧ (∀ q ∈ (strm w o sd st rd c La doc ctv tks fd sl oc oca ++ [(lt, W.listOf tv.toArray 0), (lw, W.listOf wv.toArray 0), (L + 1, oT), (L + 1 + 1, oW), (141, tabObj t3)]), q ∈ rest) ∧ (l, W.listOf its k) ∈ rest ∧ (U, W.listOf vsU.toArray nU) ∈ rest ∧
    AccSt acc d items z t1 t2 ps rest ∧ OwnOff rest [L + 1 + 1 + 1] ∧ octs (textP ps) = us ∧ IntsAre vsU (us.map Int.ofNat) ∧ (∀ q ∈ us, q ∈ tabN) ∧ us.length ≤ 5 * i ∧ ps.length ≤ i ∧ AllBare gs ∧
    ∀ (xv : Option Value) (y : Str), (if y = Str.ofString "x" then xv else m y) = (fun y => if y = Str.ofString "x" then xv else if y = Str.ofString "size" then some (.int z tz) else if y = Str.ofString "unread" then some (.ref U) else if y = Str.ofString "stream" then some (.ref st) else if y = Str.ofString "acc" then some (.ref acc) else if y = Str.ofString "deed" then v1 else if y = Str.ofString "octets" then v2 else if y = Str.ofString "signs" then v3 else if y = Str.ofString "due" then v4 else if y = Str.ofString "taken" then v5 else if y = Str.ofString "told" then v6 else if y = Str.ofString "script" then some (.ref SC) else none) y
theorem map_x {xv b0 b1 b2 b3 b4 b5 b6 b7 b8 b9 b10 b11 : Option Value} (y : Str) : (if y = Str.ofString "x" then xv else (fun y => if y = Str.ofString "x" then b0 else if y = Str.ofString "size" then b1 else if y = Str.ofString "unread" then b2 else if y = Str.ofString "stream" then b3 else if y = Str.ofString "acc" then b4 else if y = Str.ofString "deed" then b5 else if y = Str.ofString "octets" then b6 else if y = Str.ofString "signs" then b7 else if y = Str.ofString "due" then b8 else if y = Str.ofString "taken" then b9 else if y = Str.ofString "told" then b10 else if y = Str.ofString "script" then b11 else none) y) = (fun y => if y = Str.ofString "x" then xv else if y = Str.ofString "size" then b1 else if y = Str.ofString "unread" then b2 else if y = Str.ofString "stream" then b3 else if y = Str.ofString "acc" then b4 else if y = Str.ofString "deed" then b5 else if y = Str.ofString "octets" then b6 else if y = Str.ofString "signs" then b7 else if y = Str.ofString "due" then b8 else if y = Str.ofString "taken" then b9 else if y = Str.ofString "told" then b10 else if y = Str.ofString "script" then b11 else none) y := by
  by_cases h : y = Str.ofString "x"
  · simp only [if_pos h]
  · simp only [if_neg h]
theorem loop_core {w : World} {p : Program} {loose : List Str} {mean : ExcName → Option Value} {mg mb : Str → Option Value} {o : Addr → Value → Value → Addr → Obj} (hIF : IsFns o) (hR : Reads w p loose mean mg mb o) (cs : Scope) (hcs : lawScope w.params = some cs) (bd : List Stmt) (hbd : forBody (lawBody w.params) = bd)
    {G : Heap} {L fa : Addr} {ccd : Value} {h : Heap} {gs : Array GenState} {dr : Drawn} {tk : Nat} {os : OsState} {Q : Flow → Shared → Prop} {E : Value → Shared → Prop} {px : Pos}
    {acc d sd st rd c La U lw lt SC l : Addr} {doc ctv : Value} {tks tk0 tkz tz : Tok} {fd : FuncData} {sl : Array (Option Value)} {oc oca orest oW oT : Obj} {vsS : Array Value} {tS : Tok} {items t1 t2 t3 : Array Value} {n nU : Nat} {z : Int} {tv wv ws : List Value} {ns : List Int} {rest : List (Addr × Obj)} {g2 g3 : Addr × Obj}
    {v1 v2 v3 v4 v5 v6 v8 vr : Option Value}
    (B : Below callerA G [] G) (XB : (Mine.hd.heap_1 w.params).In G) (TB : Top p loose mean mg mb G) (hE : PassesOwn (model PySem.Challenge.rw_ij0160_01.row.prog w) (callerA.deeper (envOfC (Str.ofString "law") cs L fa ccd)) (envOfC (Str.ofString "law") cs L fa ccd) E)
    (hI : IntsAre ws (ns.take 20 ++ [90826, 6, 4172, 5, 4, 3]))
    (F : Fr G L h (fun y => if y = Str.ofString "x" then v8 else if y = Str.ofString "size" then some (.int z tz) else if y = Str.ofString "unread" then some (.ref U) else if y = Str.ofString "stream" then some (.ref st) else if y = Str.ofString "acc" then some (.ref acc) else if y = Str.ofString "deed" then v1 else if y = Str.ofString "octets" then v2 else if y = Str.ofString "signs" then v3 else if y = Str.ofString "due" then v4 else if y = Str.ofString "taken" then v5 else if y = Str.ofString "told" then v6 else if y = Str.ofString "script" then some (.ref SC) else none))
    (N : News G L h ((l, W.listOf ws.toArray 0) :: g2 :: g3 :: (acc, accO 100 d items n) :: (d, szD w tk0 z tkz) :: (62, tabObj t1) :: (69, tabObj t2) :: (L + 1 + 1 + 1, orest) :: rest))
    (hl : @LT.lt Nat _ acc l ∧ @LT.lt Nat _ d l ∧ @LT.lt Nat _ 62 l ∧ @LT.lt Nat _ 69 l ∧ @LT.lt Nat _ (L + 1 + 1 + 1) l)
    (hor : orest.data = .cell vr) (hfix : ∀ q ∈ (strm w o sd st rd c La doc ctv tks fd sl oc oca ++ [(lt, W.listOf tv.toArray 0), (lw, W.listOf wv.toArray 0), (L + 1, oT), (L + 1 + 1, oW), (141, tabObj t3)]), q ∈ rest) (hUm : (U, W.listOf #[] nU) ∈ rest)
    (hoT : oT.data = .cell (some (.ref lt))) (hoW : oW.data = .cell (some (.ref lw))) (htv : IntsAre tv [1, 0, 2, 3, 32, 9, 160, 65, 128, 255, 127, 4, 133, 10, 200, 1]) (hwv : IntsAre wv [9, 10, 32, 133, 160])
    (S : AccSt acc d items z t1 t2 [] rest) (D : StrmSt acc sd st rd c La oc oca vsS tS) (e1 : @LT.lt Nat _ (L + 1 + 1 + 1) acc) (e2 : @LT.lt Nat _ (L + 1 + 1 + 1) d) (e3 : @LT.lt Nat _ 62 L) (e4 : @LT.lt Nat _ 69 L) (hO : OwnOff rest [L + 1 + 1 + 1]) (hG : AllBare gs)
    (hret : ∀ h' gs' tk' m' t1' t2' led', Fr G L h' m' → News G L h' led' → (62, tabObj t1') ∈ led' → (69, tabObj t2') ∈ led' → (141, tabObj t3) ∈ led' → AllBare gs' → Q .next ⟨h', gs', dr, tk', os⟩) :
    wpAny (model PySem.Challenge.rw_ij0160_01.row.prog w) (callerA.deeper (envOfC (Str.ofString "law") cs L fa ccd)) (pyIter (.ref l)) (fun it s₂ => AtLoop PySem.Challenge.rw_ij0160_01.row.prog w (callerA.deeper (envOfC (Str.ofString "law") cs L fa ccd)) (envOfC (Str.ofString "law") cs L fa ccd) (Str.ofString "x") px bd Q E it s₂) E ⟨h, gs, dr, tk, os⟩ := by
  have hcs0 := hcs
  conv at hcs => lhs; whnf
  cases hcs
  have hsz : ws.toArray.size ≤ 26 := by
    have := hI.length
    rw [List.size_toArray, this, List.length_append, List.length_take]
    show min 20 ns.length + 6 ≤ 26
    omega
  refine iter_led (L := L) (l := l) (its := ws.toArray) (k := 0) (led₀ := (acc, accO 100 d items n) :: (d, szD w tk0 z tkz) :: (62, tabObj t1) :: (69, tabObj t2) :: (L + 1 + 1 + 1, orest) :: (l, W.listOf ws.toArray 0) :: rest) hE rfl rfl rfl rfl (Inv w o L acc d sd st rd c La lt lw SC doc ctv tks tk0 fd sl oc oca oT oW t3 tv wv l ws.toArray 0) F (fun q hq => N q ?_) (.tail _ (.tail _ (.tail _ (.tail _ (.tail _ (.head _)))))) ?_ ?_ ?_
  · simp only [List.mem_cons] at hq ⊢
    rcases hq with h | h | h | h | h | h | h <;> simp only [h, true_or, or_true]
  · exact ⟨items, t1, t2, n, nU, z, tkz, tz, orest, vr, U, [], [], [], (l, W.listOf ws.toArray 0) :: rest, v1, v2, v3, v4, v5, v6, rfl, hor, fun q hq => .tail _ (hfix q hq), .head _, .tail _ hUm,
      S.cons (Nat.ne_of_gt hl.1) (Nat.ne_of_gt hl.2.1) (Nat.ne_of_gt hl.2.2.1) (Nat.ne_of_gt hl.2.2.2.1), ownOff_cons hO (fun b hb => by rw [List.mem_singleton.mp hb]; exact Nat.ne_of_gt hl.2.2.2.2), rfl, .nil, (fun q hq => nomatch hq), Nat.zero_le _, Nat.zero_le _, hG, fun xv y => map_x y⟩
  · intro I i v led m gs h tk oI hi hv hIc hInv hoff hlm F N
    obtain ⟨items, t1, t2, n, nU, z, tkz, tz, orest, vr, U, vsU, us, ps, rest, v1, v2, v3, v4, v5, v6, rfl, hor, hfix, hlm', hUm, S, hO, hu, hU, hTb, hl, hp, hG, hm⟩ := hInv
    obtain ⟨xv, tx, rfl, hx1⟩ := IntsAre.at hI i v (by simpa using hv)
    have hfx : ∀ q ∈ [(lt, W.listOf tv.toArray 0), (lw, W.listOf wv.toArray 0), (L + 1, oT), (L + 1 + 1, oW), (141, tabObj t3)], q ∈ rest := fun q hq => hfix q (List.mem_append_right _ hq)
    refine turn_ok hIF hR _ hcs0 bd hbd B XB TB hE (Fr.cast F (hm _)) N hor (fun q hq => hfix q (List.mem_append_left _ hq)) hUm (hfx _ (.head _)) (hfx _ (.tail _ (.head _))) (hfx _ (.tail _ (.tail _ (.head _)))) (hfx _ (.tail _ (.tail _ (.tail _ (.head _))))) hoT hoW htv hwv S D hu hU hTb (by omega) hp hl hIc e1 e2 e3 e4
      (Ne.symm (hoff _ (.tail _ (.tail _ (.tail _ (.tail _ (.head _))))))) ⟨Ne.symm (hoff _ (.head _)), Ne.symm (hoff _ (.tail _ (.head _))), Ne.symm (hoff _ (.tail _ (.tail _ (.head _)))), Ne.symm (hoff _ (.tail _ (.tail _ (.tail _ (.head _)))))⟩ hO (fun q hq => hoff q (.tail _ (.tail _ (.tail _ (.tail _ (.tail _ hq)))))) hG ?_
    intro h' gs' tk' items' n' z' tkz' t1' t2' psn U' vsU' nU' us' orest' vr' rest' v1' v2' v3' v4' v5' v6' tz' F' N' hor' S' hs' hUm' hO' hOI' hu' hU' hTb' hl' hp' hG'
    refine ⟨_, _, gs', h', tk', rfl, F', N', fun q hq => ?_, .tail _ (.tail _ (.tail _ (.tail _ (.tail _ (hs' _ hlm'))))), ⟨items', t1', t2', n', nU', z', tkz', tz', orest', vr', U', vsU', us', psn, rest', v1', v2', v3', v4', v5', v6', rfl, hor', fun q hq => hs' q (hfix q hq), hs' _ hlm', hUm', S', hO', hu', hU', hTb', hl', hp', hG', fun xv y => map_x y⟩⟩
    simp only [List.mem_cons] at hq
    rcases hq with rfl | rfl | rfl | rfl | rfl | hq
    · exact hoff (acc, accO 100 d items n) (.head _)
    · exact hoff (d, szD w tk0 z tkz) (.tail _ (.head _))
    · exact hoff (62, tabObj t1) (.tail _ (.tail _ (.head _)))
    · exact hoff (69, tabObj t2) (.tail _ (.tail _ (.tail _ (.head _))))
    · exact hoff (L + 1 + 1 + 1, orest) (.tail _ (.tail _ (.tail _ (.tail _ (.head _)))))
    · exact hOI' q hq
  · intro led m gs h tk hInv F N
    obtain ⟨items, t1, t2, n, nU, z, tkz, tz, orest, vr, U, vsU, us, ps, rest, v1, v2, v3, v4, v5, v6, rfl, hor, hfix, hlm', hUm, S, hO, hu, hU, hTb, hl, hp, hG, hm⟩ := hInv
    exact hret _ _ _ _ t1 t2 _ F N (.tail _ (.tail _ (.head _))) (.tail _ (.tail _ (.tail _ (.head _)))) (.tail _ (.tail _ (.tail _ (.tail _ (.tail _ (hfix _ (List.mem_append_right _ (.tail _ (.tail _ (.tail _ (.tail _ (.head _)))))))))))) hG

theorem kw_LG7_1 : True := by
  k_with_none
  k_with "m subscriptTail Name Slice ref ref" => (k_here; (with_reducible show wpAny _ _ (subscriptTail _ (PySem.Expr.Slice none _ none _) (Value.ref _) (Value.ref _)) _ _ _); k_dflt (refine' kmk_slice_ints (s := ⟨_, _, _, _, _⟩) ?Fρ ?Nρ ?lρ ?pρ ?qρ ?iρ ?mρ ?cρ ?_ ?ssρ ?tρ ?zρ; (case Fρ => k_asm); (case Nρ => k_asm); (case lρ => exact Heap.IsList.at (by assumption) (fun o e => Fr.keep (by k_asm) _ o e)); (case pρ => exact IsPart.none); (case qρ => exact IsPart.int _ _); (case iρ => assumption); (case mρ => exact kmk_upto (by assumption) (by decide)); (case cρ => exact rfl); (case ssρ => with_unfolding_all rfl); (case tρ => intro rρ; with_unfolding_all rfl); (case zρ => rw [sizeLine_eq]; (have hz9ρ := IntsAre.length (by assumption : IntsAre _ _)); simp only [List.size_toArray] at hz9ρ ⊢; omega)); intro D'ρ ws'ρ h'ρ F'ρ N'ρ l1ρ hI'ρ hC'ρ hL'ρ; (try k_lt l1ρ))
  k_with "m exec For Name BinOp cons nil" => (refine wpAny_For ?_)
  k_with "m pyIter ref" => (refine Stop2.go ?_)
  trivial
theorem loop_ok {w : World} {p : Program} {loose : List Str} {mean : ExcName → Option Value} {mg mb : Str → Option Value} {o : Addr → Value → Value → Addr → Obj} (hIF : IsFns o) (hR : Reads w p loose mean mg mb o) (cs : Scope) (hcs : lawScope w.params = some cs) (fs : Stmt) (hfs : forSt (lawBody w.params) = some fs)
    {G : Heap} {L fa : Addr} {ccd : Value} {h : Heap} {gs : Array GenState} {dr : Drawn} {tk : Nat} {os : OsState} {Q : Flow → Shared → Prop} {E : Value → Shared → Prop}
    {acc d sd st rd c La U lw lt SC : Addr} {doc ctv : Value} {tks tk0 tkz tz : Tok} {fd : FuncData} {sl : Array (Option Value)} {oc oca orest oW oT : Obj} {vsS : Array Value} {tS : Tok} {items t1 t2 t3 : Array Value} {n nU : Nat} {z : Int} {tv wv vsc : List Value} {ns : List Int} {rest : List (Addr × Obj)}
    {v1 v2 v3 v4 v5 v6 v8 vr : Option Value}
    (B : Below callerA G [] G) (XB : (Mine.hd.heap_1 w.params).In G) (TB : Top p loose mean mg mb G) (hE : PassesOwn (model PySem.Challenge.rw_ij0160_01.row.prog w) (callerA.deeper (envOfC (Str.ofString "law") cs L fa ccd)) (envOfC (Str.ofString "law") cs L fa ccd) E)
    (hsc : G.IsList SC vsc.toArray) (hns : IntsAre vsc ns) (hn63 : ns.length ≤ 63)
    (F : Fr G L h (fun y => if y = Str.ofString "x" then v8 else if y = Str.ofString "size" then some (.int z tz) else if y = Str.ofString "unread" then some (.ref U) else if y = Str.ofString "stream" then some (.ref st) else if y = Str.ofString "acc" then some (.ref acc) else if y = Str.ofString "deed" then v1 else if y = Str.ofString "octets" then v2 else if y = Str.ofString "signs" then v3 else if y = Str.ofString "due" then v4 else if y = Str.ofString "taken" then v5 else if y = Str.ofString "told" then v6 else if y = Str.ofString "script" then some (.ref SC) else none))
    (N : News G L h ((acc, accO 100 d items n) :: (d, szD w tk0 z tkz) :: (62, tabObj t1) :: (69, tabObj t2) :: (L + 1 + 1 + 1, orest) :: rest))
    (hor : orest.data = .cell vr) (hfix : ∀ q ∈ (strm w o sd st rd c La doc ctv tks fd sl oc oca ++ [(lt, W.listOf tv.toArray 0), (lw, W.listOf wv.toArray 0), (L + 1, oT), (L + 1 + 1, oW), (141, tabObj t3)]), q ∈ rest) (hUm : (U, W.listOf #[] nU) ∈ rest)
    (hoT : oT.data = .cell (some (.ref lt))) (hoW : oW.data = .cell (some (.ref lw))) (htv : IntsAre tv [1, 0, 2, 3, 32, 9, 160, 65, 128, 255, 127, 4, 133, 10, 200, 1]) (hwv : IntsAre wv [9, 10, 32, 133, 160])
    (S : AccSt acc d items z t1 t2 [] rest) (D : StrmSt acc sd st rd c La oc oca vsS tS) (e1 : @LT.lt Nat _ (L + 1 + 1 + 1) acc) (e2 : @LT.lt Nat _ (L + 1 + 1 + 1) d) (e3 : @LT.lt Nat _ 62 L) (e4 : @LT.lt Nat _ 69 L) (hO : OwnOff rest [L + 1 + 1 + 1]) (hG : AllBare gs)
    (hret : ∀ h' gs' tk' m' t1' t2' led', Fr G L h' m' → News G L h' led' → (62, tabObj t1') ∈ led' → (69, tabObj t2') ∈ led' → (141, tabObj t3) ∈ led' → AllBare gs' → Q .next ⟨h', gs', dr, tk', os⟩) :
    wpAny (model PySem.Challenge.rw_ij0160_01.row.prog w) (callerA.deeper (envOfC (Str.ofString "law") cs L fa ccd)) (exec fs (envOfC (Str.ofString "law") cs L fa ccd)) (fun f s' => Q f s') E ⟨h, gs, dr, tk, os⟩ := by
  have hfs0 := hfs
  have hcs0 := hcs
  conv at hcs => lhs; whnf
  conv at hfs => lhs; whnf
  cases hcs
  cases hfs
  have XB0 := XB
  revert XB
  k_fill
  intro XB
  have X := XB
  have T := TB
  k_steps
  unfold Stop2
  rename Fr _ _ _ _ => F9
  rename News _ _ _ _ => N9
  rename IntsAre _ (List.take 20 _ ++ _) => hI9
  rename (@LT.lt Nat _ _ _ ∧ _) => l9
  exact loop_core hIF hR _ hcs0 _ rfl B XB0 TB hE hI9 F9 N9 ⟨l9.2.2.1, l9.2.2.2.1, l9.2.2.2.2.1, l9.2.2.2.2.2.1, l9.2.2.2.2.2.2.1⟩ hor hfix hUm hoT hoW htv hwv S D e1 e2 e3 e4 hO hG hret
end Mine
end
section
open PySem PySem.W PyProof.Rows PySem.Calls
set_option maxRecDepth 100000
set_option maxHeartbeats 4000000
namespace Mine
theorem kw_LG8_0 : True := by
  k_with_none
  trivial
theorem head_map {h₀ h : Heap} {L SC : Addr} {a1 a2 a3 a4 : Option Value} {mb : Str → Option Value} (F : Fr h₀ L h (fun y => if y = Str.ofString "unread" then a1 else if y = Str.ofString "stream" then a2 else if y = Str.ofString "acc" then a3 else if y = Str.ofString "size" then a4 else mb y)) (hb : ∀ y, mb y = if y = Str.ofString "script" then some (.ref SC) else none) :
    Fr h₀ L h (fun y => if y = Str.ofString "x" then none else if y = Str.ofString "size" then a4 else if y = Str.ofString "unread" then a1 else if y = Str.ofString "stream" then a2 else if y = Str.ofString "acc" then a3 else if y = Str.ofString "deed" then none else if y = Str.ofString "octets" then none else if y = Str.ofString "signs" then none else if y = Str.ofString "due" then none else if y = Str.ofString "taken" then none else if y = Str.ofString "told" then none else if y = Str.ofString "script" then (some (.ref SC)) else none) := by
  refine Fr.cast F fun y => ?_
  rw [hb y]
  by_cases h0 : y = Str.ofString "x"
  · subst h0; exact rfl
  by_cases h1 : y = Str.ofString "size"
  · subst h1; exact rfl
  by_cases h2 : y = Str.ofString "unread"
  · subst h2; exact rfl
  by_cases h3 : y = Str.ofString "stream"
  · subst h3; exact rfl
  by_cases h4 : y = Str.ofString "acc"
  · subst h4; exact rfl
  by_cases h5 : y = Str.ofString "deed"
  · subst h5; exact rfl
  by_cases h6 : y = Str.ofString "octets"
  · subst h6; exact rfl
  by_cases h7 : y = Str.ofString "signs"
  · subst h7; exact rfl
  by_cases h8 : y = Str.ofString "due"
  · subst h8; exact rfl
  by_cases h9 : y = Str.ofString "taken"
  · subst h9; exact rfl
  by_cases h10 : y = Str.ofString "told"
  · subst h10; exact rfl
  by_cases h11 : y = Str.ofString "script"
  · subst h11; exact rfl
  simp only [if_neg h0, if_neg h1, if_neg h2, if_neg h3, if_neg h4, if_neg h5, if_neg h6, if_neg h7, if_neg h8, if_neg h9, if_neg h10, if_neg h11]
def Off5 (acc d L x : Nat) : Prop := x ≠ acc ∧ x ≠ d ∧ x ≠ 62 ∧ x ≠ 69 ∧ x ≠ L + 1 + 1 + 1
theorem off5_hi {acc d L x : Nat} (h : acc < x) (h1 : d < acc) (h2 : L + 1 + 1 + 1 < d) (h3 : 62 < L) (h4 : 69 < L) : Off5 acc d L x := by unfold Off5; omega
theorem off5_lo {acc d L x : Nat} (h1 : d < acc) (h2 : L + 1 + 1 + 1 < d) (h : x < L) (h3 : x ≠ 62) (h4 : x ≠ 69) : Off5 acc d L x := ⟨by omega, by omega, h3, h4, by omega⟩
theorem off5_mid {acc d L x : Nat} (h1 : d < acc) (h2 : x < d) (h : L + 1 + 1 + 1 < x) (h3 : 62 < L) (h4 : 69 < L) : Off5 acc d L x := by unfold Off5; omega
theorem off5_two {acc d L : Nat} (h1 : d < acc) (h2 : L + 1 + 1 + 1 < d) (h3 : 62 < L) (h4 : 69 < L) : Off5 acc d L (L + 1 + 1) := by unfold Off5; omega
theorem off5_one {acc d L : Nat} (h1 : d < acc) (h2 : L + 1 + 1 + 1 < d) (h3 : 62 < L) (h4 : 69 < L) : Off5 acc d L (L + 1) := by unfold Off5; omega
theorem head_loop {w : World} {p : Program} {loose : List Str} {mean : ExcName → Option Value} {mg mb : Str → Option Value} {o : Addr → Value → Value → Addr → Obj} (hIF : IsFns o) (hR : Reads w p loose mean mg mb o) (cs : Scope) (hcs : lawScope w.params = some cs) (fs : Stmt) (hfs : forSt (lawBody w.params) = some fs)
    {G : Heap} {L fa : Addr} {ccd : Value} {h : Heap} {gs : Array GenState} {dr : Drawn} {tk : Nat} {os : OsState} {Q : Flow → Shared → Prop} {E : Value → Shared → Prop}
    {acc d sd st rd c La U lw lt SC : Addr} {doc ctv : Value} {tks tk0 tkz tz : Tok} {fd : FuncData} {sl : Array (Option Value)} {oc oca orest oW oT : Obj} {vsS : Array Value} {tS : Tok} {t1 t2 t3 : Array Value} {n : Nat} {z : Int} {tv wv vsc : List Value} {ns : List Int} {r9 : List (Addr × Obj)} {m9 : Str → Option Value}
    (B : Below callerA G [] G) (XB : (Mine.hd.heap_1 w.params).In G) (TB : Top p loose mean mg mb G) (hE : PassesOwn (model PySem.Challenge.rw_ij0160_01.row.prog w) (callerA.deeper (envOfC (Str.ofString "law") cs L fa ccd)) (envOfC (Str.ofString "law") cs L fa ccd) E)
    (hsc : G.IsList SC vsc.toArray) (hns : IntsAre vsc ns) (hn63 : ns.length ≤ 63)
    (F : Fr G L h (fun y => if y = Str.ofString "unread" then some (.ref U) else if y = Str.ofString "stream" then some (.ref st) else if y = Str.ofString "acc" then some (.ref acc) else if y = Str.ofString "size" then some (.int z tz) else m9 y)) (hb : ∀ y, m9 y = if y = Str.ofString "script" then some (.ref SC) else none)
    (N : News G L h ((U, W.listOf #[] 0) :: (strm w o sd st rd c La doc ctv tks fd sl oc oca ++ [(141, tabObj t3), (acc, accO 100 d #[] n), (d, szD w tk0 z tkz), (62, tabObj t1), (69, tabObj t2), (lw, W.listOf wv.toArray 0), (lt, W.listOf tv.toArray 0), (L + 1 + 1 + 1, orest), (L + 1 + 1, oW), (L + 1, oT)])))
    (S : AccSt acc d #[] z t1 t2 [] r9) (D : StrmSt acc sd st rd c La oc oca vsS tS) (hor0 : ∃ vr, orest.data = .cell vr) (hoT : oT.data = .cell (some (.ref lt))) (hoW : oW.data = .cell (some (.ref lw))) (htv : IntsAre tv [1, 0, 2, 3, 32, 9, 160, 65, 128, 255, 127, 4, 133, 10, 200, 1]) (hwv : IntsAre wv [9, 10, 32, 133, 160])
    (q1 : @LT.lt Nat _ lw d) (q2 : @LT.lt Nat _ lt d) (q3 : @LT.lt Nat _ d acc) (q4 : @LT.lt Nat _ acc La) (q5 : @LT.lt Nat _ 62 L) (q6 : @LT.lt Nat _ 69 L) (q7 : @LT.lt Nat _ 141 L) (q8 : @LT.lt Nat _ (L + 1 + 1 + 1) lt) (q9 : @LT.lt Nat _ (L + 1 + 1 + 1) lw) (q10 : @LT.lt Nat _ sd U) (hG : AllBare gs)
    (hret : ∀ h' gs' tk' m' t1' t2' led', Fr G L h' m' → News G L h' led' → (62, tabObj t1') ∈ led' → (69, tabObj t2') ∈ led' → (141, tabObj t3) ∈ led' → AllBare gs' → Q .next ⟨h', gs', dr, tk', os⟩) :
    wpAny (model PySem.Challenge.rw_ij0160_01.row.prog w) (callerA.deeper (envOfC (Str.ofString "law") cs L fa ccd)) (exec fs (envOfC (Str.ofString "law") cs L fa ccd)) (fun f s' => Q f s') E ⟨h, gs, dr, tk, os⟩ := by
  obtain ⟨vr, hor⟩ := hor0
  obtain ⟨d1, d2, d3, d4⟩ := D.lt
  have off : ∀ q ∈ (U, W.listOf #[] 0) :: (strm w o sd st rd c La doc ctv tks fd sl oc oca ++ [(141, tabObj t3), (lw, W.listOf wv.toArray 0), (lt, W.listOf tv.toArray 0), (L + 1 + 1, oW), (L + 1, oT)]), Off5 acc d L q.1 := by
    have hLd : @LT.lt Nat _ (L + 1 + 1 + 1) d := Nat.lt_trans q8 q2
    have hi : ∀ x, @LT.lt Nat _ acc x → Off5 acc d L x := fun x h => off5_hi h q3 hLd q5 q6
    have ha := Nat.lt_succ_of_lt q4
    have hc := Nat.lt_trans ha d1
    have hr := Nat.lt_trans hc d2
    have hs := Nat.lt_trans hr d3
    have hd := Nat.lt_trans hs d4
    exact List.forall_mem_cons.mpr ⟨hi _ (Nat.lt_trans hd q10), List.forall_mem_cons.mpr ⟨hi _ hd, List.forall_mem_cons.mpr ⟨hi _ hs, List.forall_mem_cons.mpr ⟨hi _ hr, List.forall_mem_cons.mpr ⟨hi _ hc, List.forall_mem_cons.mpr ⟨hi _ ha,
      List.forall_mem_cons.mpr ⟨off5_lo q3 hLd q7 (show (141 : Nat) ≠ 62 by decide) (show (141 : Nat) ≠ 69 by decide), List.forall_mem_cons.mpr ⟨off5_mid q3 q1 q9 q5 q6, List.forall_mem_cons.mpr ⟨off5_mid q3 q2 q8 q5 q6, List.forall_mem_cons.mpr ⟨off5_two q3 hLd q5 q6, List.forall_mem_cons.mpr ⟨off5_one q3 hLd q5 q6, fun _ h => nomatch h⟩⟩⟩⟩⟩⟩⟩⟩⟩⟩⟩
  refine loop_ok (doc := doc) (ctv := ctv) (tks := tks) (fd := fd) (sl := sl) (U := U) (lw := lw) (lt := lt) (n := n) (nU := 0) (tk0 := tk0) (tkz := tkz) (orest := orest) (oW := oW) (oT := oT) (items := #[]) (rest := (U, W.listOf #[] 0) :: (strm w o sd st rd c La doc ctv tks fd sl oc oca ++ [(141, tabObj t3), (lw, W.listOf wv.toArray 0), (lt, W.listOf tv.toArray 0), (L + 1 + 1, oW), (L + 1, oT)])) hIF hR cs hcs fs hfs B XB TB hE hsc hns hn63 (head_map F hb) (fun q hq => N q ?_) hor (fun q hq => ?_) (.head _) hoT hoW htv hwv
    { hp := ⟨rfl, fun j f g e => by simp at e⟩, hs := S.hs, hz := S.hz, tr1 := S.tr1, tr2 := S.tr2, ne := S.ne, o1 := fun q hq => (off q hq).1, o2 := fun q hq => (off q hq).2.1, o3 := fun q hq => (off q hq).2.2.1, o4 := fun q hq => (off q hq).2.2.2.1 } D ?_ ?_ q5 q6 (fun q hq b hb => by rw [List.mem_singleton.mp hb]; exact (off q hq).2.2.2.2) hG hret
  · simp only [strm, List.cons_append, List.nil_append, List.mem_cons, List.not_mem_nil, or_false] at hq ⊢
    rcases hq with h | h | h | h | h | h | h | h | h | h | h | h | h | h | h | h <;> simp only [h, true_or, or_true]
  · simp only [strm, List.cons_append, List.nil_append, List.mem_cons, List.not_mem_nil, or_false] at hq ⊢
    rcases hq with h | h | h | h | h | h | h | h | h | h <;> simp only [h, true_or, or_true]
  · exact Nat.lt_trans q8 (Nat.lt_trans q2 q3)
  · exact Nat.lt_trans q8 q2
end Mine
end
section
open PySem PySem.W PyProof.Rows
set_option maxRecDepth 100000
set_option maxHeartbeats 40000000
namespace Mine
def GoodW2 (c : ClaimW) (cl : Str → Option Addr) (mean : ExcName → Option Value) (args : List WData) (s₁ : Shared) (res : Result) (s' : Shared) : Prop :=
  (∃ v d as, res = .ok (.ret v) ∧ (∀ cls, c.raises args cls = false) ∧ ReadsW c.records cl s'.heap v d as ∧ c.post args d args = true ∧ (c.unshared = true → as.Nodup ∧ ∀ a ∈ as, s₁.heap.get? a = none)) ∧
  (∀ b o, s₁.heap.get? b = some o → s'.heap.get? b = some o) ∧ s'.os = s₁.os ∧ AllBare s'.gens
/-- the end of a call under which code tables grow and generators stay -/
theorem kn_post2 {M : Model} {A : Around} {cd : Code} {s s₁ : Shared} {cw : ClaimW} {cl : Str → Option Addr} {mean : ExcName → Option Value} {args : List WData} {tabs : List (Addr × Addr)} (hT : TabsAt tabs s₁.heap)
    (h : codeAny M A cd (fun r s' => GoodW2 cw cl mean args { s₁ with heap := ghostOf s₁.heap tabs } r s' ∧ GrownAll tabs s'.heap) s) : codeAny M A cd (GoodWG cw cl mean args s₁) s :=
  codeAny_mono h fun r s' ⟨⟨hc, hk, hos, hg⟩, hgr⟩ => by
    have keep : ∀ b o, b ∉ tabs.map (·.2) → s₁.heap.get? b = some o → s'.heap.get? b = some o := fun b o hb e => hk b o (ghost_ne e hb)
    have grown : ∀ b o, b ∈ tabs.map (·.2) → s₁.heap.get? b = some o → isCodeTable s₁.heap b ∧ o = tabObj #[] ∧ ∃ ps, s'.heap.get? b = some (tabObj ps) := fun b o hb e => by
      obtain ⟨q, hq, rfl⟩ := List.mem_map.mp hb
      have e2 := (hT q hq).2
      rw [e] at e2
      exact ⟨((hT q hq).1.tab (hT q hq).2).isCodeTable, Option.some.inj e2, hgr.get q hq⟩
    refine ⟨?_, ⟨fun b o e => ?_, fun b o e => ?_⟩, hos, hg⟩
    · obtain ⟨v, d, as, r1, r2, r3, r4, r5⟩ := hc
      refine .inl ⟨v, d, as, r1, r2, r3, r4, fun q => ⟨(r5 q).1, fun a ha => ?_⟩⟩
      cases q1 : s₁.heap.get? a with
      | none => rfl
      | some o =>
        by_cases hb : a ∈ tabs.map (·.2)
        · obtain ⟨_, _, ps, hP⟩ := grown a o hb q1
          exact absurd ha (readsW_apart hP rfl r3)
        · have e3 := (r5 q).2 a ha
          rw [show (ghostOf s₁.heap tabs).get? a = some o from ghost_ne q1 hb] at e3
          cases e3
    · by_cases hb : b ∈ tabs.map (·.2)
      · obtain ⟨ht, rfl, ps, hP⟩ := grown b o hb e
        exact .inr (.inl ⟨ht, rfl, #[], ps, rfl, by rw [Array.empty_append]; exact hP⟩)
      · exact .inl (keep b o hb e)
    · by_cases hb : b ∈ tabs.map (·.2)
      · obtain ⟨_, _, ps, hP⟩ := grown b o hb e
        exact ⟨_, hP⟩
      · exact ⟨o, keep b o hb e⟩
theorem goodW2_bool {c : ClaimW} {cl : Str → Option Addr} {mean : ExcName → Option Value} {args : List WData} {s₁ : Shared} {h : Heap} {L : Addr} {m : Str → Option Value} {gs : Array GenState} {dr : Drawn} {tk : Nat} {b : Bool} (F : Fr s₁.heap L h m) (hn : ∀ cls, c.raises args cls = false) (hp : c.post args (.bool b) args = true) (hG : AllBare gs) :
    GoodW2 c cl mean args s₁ (.ok (.ret (.bool b))) ⟨h, gs, dr, tk, s₁.os⟩ := by
  obtain ⟨h1, h2, h3, h4⟩ := goodW_bool (c := c) (cl := cl) (mean := mean) (args := args) (s₁ := s₁) (s' := ⟨h, #[], dr, tk, s₁.os⟩) (b := b) F rfl hn hp
  rcases h1 with h1 | h1
  · exact ⟨h1, h2, h3, hG⟩
  · obtain ⟨e, _, _, q, _⟩ := h1
    cases q
theorem kw_LHead9_1 : True := by
  k_with_none
  k_with "m rm" => first | with_reducible exact Rm.head | exact Rm.tail (by walk_at "rm")
  k_with "m subscriptTail Name Slice ref ref" => (k_here; (with_reducible show wpAny _ _ (subscriptTail _ (PySem.Expr.Slice _ _ none _) (Value.ref _) (Value.ref _)) _ _ _); k_dflt (refine' kmk_slice_ints (s := ⟨_, _, _, _, _⟩) ?Fρ ?Nρ ?lρ ?pρ ?qρ ?iρ ?mρ ?cρ ?_ ?ssρ ?tρ ?zρ; (case Fρ => k_asm); (case Nρ => k_asm); (case lρ => exact Heap.IsList.at (by assumption) (fun o e => Fr.keep (by k_asm) _ o e)); (case pρ => exact IsPart.none); (case qρ => exact IsPart.int _ _); (case iρ => assumption); (case mρ => exact kmk_upto (by assumption) (by decide)); (case cρ => exact rfl); (case ssρ => with_unfolding_all rfl); (case tρ => intro rρ; with_unfolding_all rfl); (case zρ => kmk_size)); intro D'ρ ws'ρ h'ρ F'ρ N'ρ l1ρ hI'ρ hC'ρ hL'ρ; (try k_lt l1ρ))
  k_with "m call ref" => ((with_reducible show wpAny _ _ (call (Value.ref _) [Value.ref _]) _ _ _); refine Stop2.go ?_)
  k_with "m off141" => (intro qρ hqρ bρ hbρ; rw [List.mem_singleton.mp hbρ]; simp only [List.mem_cons, List.not_mem_nil, or_false] at hqρ; (repeat' (rcases hqρ with rfl | hqρ)) <;> (try subst hqρ) <;> (first | omega | k_ne | decide))
  k_with "m exec For Name BinOp cons nil" => (refine Stop2.go ?_)
  trivial
end Mine
open Mine
theorem PySem.Challenge.cw_ij0160_01_holds : PySem.Challenge.rw_ij0160_01.Holds := by
  w_on
  refine head_said fun said => ?_
  refine holds_open (q := vw) (loose := [Str.ofString "_Accumulator"]) (Xt := fun s => xlAt vw [] s && recOk (RowW.records (OpenRow.toRowW PySem.Challenge.rw_ij0160_01.row)) s) (XP := XL vw []) (Yf := Hook.obs hk) (Ya := Hook.val hk) (YP := Hook.says hk) (N := 1890) ?hl (Hook.of hk) (Hook.keeps hk) (fun s e => xl_of s (Bool.and_eq_true_iff.mp e).1) XL.keeps (by rfl) (by rfl) (by rfl) (fun s e => recFacts_of (Bool.and_eq_true_iff.mp e).2) (by rfl) (by first | assumption | decide +kernel) (by decide +kernel) ⟨rfl, rfl, rfl, rfl, rfl, by decide +kernel⟩ ?hw ?hc
  case hl =>
    exact head_left
  case hw => w_witness2
  delta hk
  k_fill
  intro w s₀ s₁ mg mb G Y fa o pm cd doc dV kV ho hd hcd hD hmg hg args vals as hpre hlay hrd hwl hlo
  have KX := km_in_of Y
  have KT := km_tabs_of Y
  have X := (Ground.X G).1
  have V := (Ground.X G).2
  refine Ground.open G ?_
  intro T B D TE TW
  try (refine guard_noD D (by decide +kernel) ?_; clear D)
  have hT9 : TabsAt [(66, 62), (73, 69), (145, 141)] s₁.heap := by
    intro q hq
    simp only [List.mem_cons, List.not_mem_nil, or_false] at hq
    rcases hq with rfl | rfl | rfl
    · exact ⟨codeHd_of_K KX (by kernel_rfl), KT 62 (by simp)⟩
    · exact ⟨codeHd_of_K KX (by kernel_rfl), KT 69 (by simp)⟩
    · exact ⟨codeHd_of_K KX (by kernel_rfl), KT 141 (by simp)⟩
  clear hmg
  wrow_args hpre hlay hrd hwl hlo
  all_goals (first | refine callC_kw (enter_call ?_) | refine enter_call ?_)
  all_goals (w_top on)
  all_goals (refine kn_post2 hT9 ?_)
  all_goals (w_call any ho hd hcd hD T F)
  clear hd
  kn_ghosts F T
  obtain ⟨oR, hMk, hIF, hRd⟩ := stream_T (w := w) (by assumption : Top _ _ _ _ _ (ghostOf s₁.heap _))
  k_drop
  all_goals try k_fold
  k_steps
  k_dflt (refine' tl_two ?zz1 ?zz2 ?zz3 ?zz4 ?zz5 ?zz6 ?zz7 (mk_acc (z := Int.fmod _ 5) ?za ?zb ?zc ?zd) ?ze ?zf ?zg ?_)
  (case zz1 => k_asm)
  (case zz2 => k_asm)
  (case zz3 => k_asm)
  (case zz4 => k_asm)
  (case zz5 => k_asm)
  (case zz6 => walk_at "rm")
  (case zz7 => walk_at "rm")
  case za => exact ⟨fmod_lo _ (by decide), Int.lt_of_lt_of_le (fmod_hi _ (by decide)) (by decide)⟩
  case zb => kn_triples
  case zc => kn_triples
  case zd =>
    intro q hq b hb
    simp only [List.mem_cons, List.not_mem_nil, or_false] at hq hb
    rcases hb with rfl | rfl <;> (rcases hq with rfl | rfl | rfl | rfl | rfl | rfl <;> (first | omega | k_ne | decide))
  (case ze => exact rfl)
  case zf => decide +kernel
  case zg => decide +kernel
  intro r9 led9 h9 gs9 tk9 F9 N9 P9 G9
  obtain ⟨acc, d, n9, tk0, e9, e9', S9, l9, l9'⟩ := P9
  subst e9; subst e9'
  simp only [grp, List.cons_append, List.nil_append] at N9
  have l141 : @LT.lt Nat _ 141 d := l9 (141, tabObj #[]) (by k_mem)
  have l141b : @LT.lt Nat _ 141 acc := Nat.lt_trans l141 l9'
  k_steps
  unfold Stop2
  k_dflt (refine' tl_one ?k1 ?k2 ?k3 ?k4 ?k5 ?r1 (hMk ?ho) rfl ?kd ?ku ?_)
  (case k1 => k_asm)
  (case k2 => k_asm)
  (case k3 => k_asm)
  (case k4 => k_asm)
  (case k5 => k_asm)
  (case r1 => walk_at "rm")
  (case kd => ktr_room)
  (case ku => ktr_units)
  case ho =>
    intro q hq b hb
    rw [List.mem_singleton.mp hb]
    simp only [List.mem_cons, List.not_mem_nil, or_false] at hq
    (rcases hq with rfl | rfl | rfl | rfl | rfl | rfl | rfl | rfl | rfl) <;> dsimp only <;> (first | omega | k_ne | decide)
  intro r8 led8 h8 gs8 tk8 F8 N8 P8 G8
  obtain ⟨sd, st, rd, c, La, doc, ctv, tk08, fd, sl, oc, oca, vs8, t8, t38, e8, e8', D8, l8⟩ := P8
  subst e8
  subst e8'
  simp only [strm, List.cons_append, List.nil_append] at N8
  k_steps
  unfold Stop2
  rename Fr _ _ _ _ => F7
  rename News _ _ _ _ => N7
  rename Below _ _ _ _ => B7
  rename Top _ _ _ _ _ _ => T7
  rename Frag.In _ _ => X7
  rename IntsAre _ _ => hI7
  have hG8 : AllBare gs8 := G8 (G9 (AllBare.of_eq hg))
  refine head_loop hIF hRd _ ?hcs _ ?hfs B7 X7 T7 ?hE lifted hI7 ?h63 F7 ?hb N7 S9 D8 ?hor ?hoT ?hoW ?htv ?hwv ?q1 ?q2 l9' ?q4 ?q5 ?q6 ?q7 ?q8 ?q9 ?q10 hG8 ?hret
  case hcs => rfl
  case hfs => rfl
  case hE => passes_own
  case h63 => omega
  case hb => intro y; with_unfolding_all rfl
  case hor => exact ⟨_, by assumption⟩
  case hoT => assumption
  case hoW => assumption
  case htv => repeat (first | exact .nil | refine .cons _ _ ?_)
  case hwv => repeat (first | exact .nil | refine .cons _ _ ?_)
  case q1 => exact l9 (_, _) (by k_mem)
  case q2 => exact l9 (_, _) (by k_mem)
  case q4 => exact l8 (acc, _) (by k_mem)
  case q5 => omega
  case q6 => omega
  case q7 => omega
  case q8 => omega
  case q9 => omega
  case q10 => omega
  intro h' gs' tk' m' t1' t2' led' F6 N6 i1 i2 i3 hG6
  clear F7 N7
  k_steps
  exact goodW2_bool F6 (fun _ => rfl) (by kc_post) hG6
end
