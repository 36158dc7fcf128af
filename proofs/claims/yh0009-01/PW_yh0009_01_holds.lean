import PyProof.Rows.All
import Wide.All
import OpenK.AllK
import Wide.FinOn
import Lean
import PySem.Challenge.RW_yh0009_01
set_option Elab.async false
set_option compiler.extract_closed false
section
open PySem PySem.W PySem.W.X PySem.Spec PySem.Calls PyProof.Rows
set_option Elab.async false
set_option maxRecDepth 100000
set_option maxHeartbeats 8000000
namespace Mine
noncomputable abbrev P : Program := Challenge.rw_yh0009_01.row.prog
noncomputable def topRunT (tb : String → Option Builtin) (p : Program) (w : World) (n₀ : Nat) (ann : Option Value) : Nat → SharedT → Thread → Option SharedT
  | 0, _, _ => none
  | n + 1, s, t => match through t with
    | true => some s
    | false => match stepOk n₀ ann t with
      | false => none
      | true => match stepT (denote tb) p w s t with
        | some (s', t') => topRunT tb p w n₀ ann n s' t'
        | none => none
theorem topRun_of {tb : String → Option Builtin} {p : Program} {w : World} {n₀ : Nat} {ann : Option Value} : ∀ {n : Nat} {s s' : SharedT} {t : Thread}, topRunT tb p w n₀ ann n s t = some s' → topRun tb p w n₀ ann n s.abs t = some s'.abs
  | 0, _, _, _, h => by cases h
  | n + 1, s, s', t, h => by
    unfold topRunT at h
    unfold topRun
    cases he : through t with
    | true => rw [he] at h; cases h; rfl
    | false =>
      rw [he] at h
      cases hk : stepOk n₀ ann t with
      | false => rw [hk] at h; cases h
      | true =>
        rw [hk] at h
        cases hs : stepT (denote tb) p w s t with
        | none => rw [hs] at h; cases h
        | some r => obtain ⟨s₂, t₂⟩ := r; rw [hs] at h; rw [stepT_spec hs]; exact topRun_of h
noncomputable def treeOf : Nat → BT → List Obj → BT
  | _, t, [] => t
  | n, t, o :: r => treeOf (n + 1) (t.ins n o) r
noncomputable abbrev S0 (w : World) (os : OsState) : SharedT := ⟨treeOf 0 .nil (boot_heap w.params).objs.toList, (boot_heap w.params).objs.size, (boot_heap w.params).life, #[], boot_drawn, boot_toks, os⟩
theorem s0_abs (w : World) (os : OsState) : (S0 w os).abs = ⟨boot_heap w.params, #[], boot_drawn, boot_toks, os⟩ := by kernel_rfl
theorem s0_ns (w : World) : ((boot_heap w.params).isNs mainGlobals && (#[] : Array GenState).size == 0) = true := by kernel_rfl
theorem op : opening P = plainProg P.main.scope.names := by kernel_rfl
theorem fe (s : Shared) : fenceModules? P s = some s := by kernel_rfl
theorem left_T {q : Program} {loose : List Str} {Xt : Shared → Bool} {α : Type} {Yf : Shared → α} {Ya : World → α} {N : Nat} (hN : Nat.ble 600 N = true)
    (h : ∀ (w : World) (os : OsState), (topRunT treeTable P w (boot_heap w.params).objs.size ((boot_heap w.params).nsMap mainGlobals "__annotations__") N (S0 w os) (topStub P)).map (fun s =>
      ((staticsOk (importedModules P.main.body) (boot_heap w.params) s.abs.heap && namesBound P s.abs.heap && gensDone s.abs && laidKept (boot_heap w.params) s.abs.heap), openSeen q loose (importedModules P.main.body) Xt true s.abs, Yf s.abs)) = some (true, openGood q loose, Ya w)) :
    LeftO P q loose Xt Yf Ya N true := fun w => by
  obtain ⟨⟨hp, gs, d, k, os⟩, e, e'⟩ := Option.map_eq_some_iff.mp (boot_open op hN fe w)
  obtain ⟨rfl, rfl, rfl, rfl⟩ : hp = boot_heap w.params ∧ gs = #[] ∧ d = boot_drawn ∧ k = boot_toks := by simpa using e'
  obtain ⟨s₁, r, l⟩ := Option.map_eq_some_iff.mp (h w os)
  obtain ⟨l1, l2, l3⟩ : _ ∧ _ ∧ _ := by simpa only [Prod.mk.injEq] using l
  replace r := topRun_of r
  rw [s0_abs] at r
  have t : topFrom treeTable P w N ⟨boot_heap w.params, #[], boot_drawn, boot_toks, os⟩ = some s₁.abs := by
    unfold topFrom
    dsimp only
    rw [s0_ns, r]
    show (match staticsOk (importedModules P.main.body) (boot_heap w.params) s₁.abs.heap && namesBound P s₁.abs.heap && gensDone s₁.abs && laidKept (boot_heap w.params) s₁.abs.heap with | true => _ | false => _) = _
    rw [l1]
  unfold openEnds
  rw [e]
  show (topFrom treeTable P w N _).map _ = _
  rw [t]
  exact congrArg some (Prod.ext l2 l3)
theorem said : OpenLaw.wellSaid Challenge.rw_yh0009_01 = true := by kernel_rfl
noncomputable def VQ : Program := view P [0, 2, 3, 4, 5, 6, 8, 9, 11, 12, 13, 14, 16, 17, 18, 19, 20]
section
set_option hygiene false in
local macro_rules | `(tactic| o_head ($_ $K $as $e)) => `(tactic| (refine holds_open (q := VQ) (loose := [Str.ofString "UNKNOWN", Str.ofString "_Accumulator"]) (Xt := fun s => xlAt VQ [] s && recOk (RowW.records (OpenRow.toRowW (OpenLaw.row Challenge.rw_yh0009_01))) s) (XP := XL VQ []) (Yf := Hook.obs (kmHook $K $as $e [107])) (Ya := Hook.val (kmHook $K $as $e [107])) (YP := Hook.says (kmHook $K $as $e [107])) (N := 3580) (left_T (by decide) (fun w os => by kernel_rfl)) (Hook.of _) (Hook.keeps _) (fun s z => xl_of s (Bool.and_eq_true_iff.mp z).1) XL.keeps (by rfl) (by rfl) (by rfl) (fun s z => recFacts_of (Bool.and_eq_true_iff.mp z).2) (by rfl) (by assumption) (by decide +kernel) ⟨rfl, rfl, rfl, rfl, rfl, by decide +kernel⟩ ?hw ?hc))
local macro_rules | `(tactic| o_law) => `(tactic| refine holds_law said fun said => ?_)
open_top hd for PySem.Challenge.rw_yh0009_01
end
end Mine
end
section
open PySem PySem.W PySem.W.X PySem.Spec PySem.Calls PyProof.Rows
set_option Elab.async false
set_option maxRecDepth 100000
set_option maxHeartbeats 8000000
namespace Mine

theorem weaken {α : Type} {M : Model} {A A' : Around} {t : Sem α} {Q : α → Shared → Prop} {E : Value → Shared → Prop} {s : Shared}
    (hh : A.handled = A'.handled) (hd : A.depth ≤ A'.depth) (hf : A.frames = A'.frames) (hg : A.guards = A'.guards) (hu : A.units ≤ A'.units)
    (h : wpAny M A' t Q E s) : wpAny M A t Q E s := fun Γ p hΓ => h Γ p (by
  obtain ⟨a, b, c, d, e⟩ := hΓ
  exact ⟨a.trans hh, Nat.le_trans b hd, by rw [← hf]; exact c, by rw [← hg]; exact d, Nat.le_trans e hu⟩)

noncomputable abbrev lit (fr : Option (List Env)) (gd : Option (List Code)) : Around := { handled := none, depth := 320, frames := fr, guards := gd, units := 90 }

theorem to_lit {α : Type} {M : Model} {A : Around} {t : Sem α} {Q : α → Shared → Prop} {E : Value → Shared → Prop} {s : Shared}
    (hh : A.handled = none) (hd : A.depth ≤ 320) (hu : A.units ≤ 90) (h : wpAny M (lit A.frames A.guards) t Q E s) : wpAny M A t Q E s :=
  weaken (A' := lit A.frames A.guards) hh hd rfl rfl hu h

section
variable {h h' h₀ : Heap} {L : Addr} {m : Str → Option Value} {nw news : List (Addr × Obj)}
theorem mem_keep (D : Mem h h' [] nw) {b : Addr} {o : Obj} (e : h.get? b = some o) : h'.get? b = some o := D.keep b o e (by simp [away])
theorem mem_fr (D : Mem h h' [] nw) (F : Fr h₀ L h m) : Fr h₀ L h' m :=
  ⟨F.ns.keeps fun _ _ e => mem_keep D e, fun _ _ e => mem_keep D (F.keep _ _ e), F.above⟩
theorem mem_news (D : Mem h h' [] nw) (F : Fr h₀ L h m) (N : News h₀ L h news) : News h₀ L h' (nw ++ news) := fun p hp => by
  rcases List.mem_append.mp hp with hp | hp
  · have z := D.nw p hp
    refine ⟨z.1, fun e => ?_, ?_⟩
    · obtain ⟨o, es, ep, ho, _⟩ := F.ns
      rw [e, ho] at z; cases z.2
    · cases q : h₀.get? p.1 with
      | none => rfl
      | some o => have := F.keep _ _ q; rw [z.2] at this; cases this
  · exact ⟨mem_keep D (N p hp).1, (N p hp).2⟩
theorem news_sub {h : Heap} {l l' : List (Addr × Obj)} (N : News h₀ L h l) (hs : ∀ p ∈ l', p ∈ l) : News h₀ L h l' := fun p hp => N p (hs p hp)
end

noncomputable abbrev ctx (dp un : Nat) (gd : Option (List Code)) (cn : Str) (cs : Scope) (L a : Addr) (ccd : Value) (cl : List (Str × Addr)) (outer : List Env) : Around := ktrTop dp un gd cn cs L a ccd cl outer
noncomputable def KF (p : Params) : Frag := hd.heap_1 p
structure ZIn (w : World) (h : Heap) : Prop where
  z : (KF w.params).In h
theorem ZIn.keeps {w : World} {h h' : Heap} (Z : ZIn w h) (k : ∀ b o, h.get? b = some o → h'.get? b = some o) : ZIn w h' := ⟨Z.z.keeps k⟩
end Mine
end
section
open PySem PySem.W PySem.W.X PySem.Spec PySem.Calls PyProof.Rows
set_option Elab.async false
set_option maxRecDepth 100000
set_option maxHeartbeats 8000000
namespace Mine
noncomputable abbrev rowOf (dr : Addr) (xs : List Value) (n : Nat) : Obj := { cls := .ref 138, dict := some dr, data := .seq xs.toArray n, slots := #[] }
noncomputable abbrev tupOf (xs : List Value) : Obj := { cls := .type "tuple", data := .seq xs.toArray }
noncomputable abbrev initOf (w : World) (t1 t2 : Tok) : Obj := dictOf [⟨PyData.keyHash w.params (Str.ofString "_initial_size"), .str (Str.ofString "_initial_size") t1, .int 0 t2⟩] 1

theorem canon_list_ga : (Manifest.canonical "list.__getattribute__" != "object.__getattribute__") = false := by decide +kernel
section
variable {prog : Program} {w : World} {A : Around} {E : Value → Shared → Prop} {s : Shared} {K : Frag} {x C : Addr} {ox od : Obj} {name : Str}

theorem method_row {fv tv : Value} {pl : Sem Bool} {Q : Value × List Value → Shared → Prop} (X : K.In s.heap) (I : InstAt s.heap x ox C (some od))
    (hga : findIn K (.ref C) "__getattribute__" = some (some (.builtin "list.__getattribute__"))) (hk : findIn K (.ref C) "__getattr__" = some none)
    (hf : findIn K (.ref C) name = some (some fv)) (ht : typeIn K fv = some tv) (htv : (tv != .type "function" && tv != .type "method_descriptor" && tv != .type "wrapper_descriptor") = false)
    (hs : (lookIn name od).map (·.isSome) = some false) (h : Q (fv, [.ref x]) s) : wpAny (model prog w) A (getMethod (.ref x) name pl) Q E s := by
  unfold getMethod specialOf
  refine wpAny_bind (wpAny_bind (I.type.here ((looks_findIn X hga).here ?_)))
  dsimp only
  rw [canon_list_ga, if_neg (by decide)]
  refine wpAny_bind (wpAny_bind (I.type.here ((looks_findIn X hk).here ?_)))
  refine wpAny_bind (wpAny_bind (I.type.here ((looks_findIn X hf).here (wpAny_bind ((looks_typeIn X ht).here ?_)))))
  rw [htv, if_neg (by decide)]
  refine wpAny_bind (wpAny_loadPart I.at_ ?_)
  have hd := I.dict
  cases e : ox.dict with
  | none => exact wpAny_bind (wpAny_rule (wpAny_pure h))
  | some dx =>
    rw [e] at hd
    obtain ⟨r, a, b⟩ := Option.map_eq_some_iff.mp hs
    refine wpAny_bind (wpAny_bind (wpAny_loadPart hd ?_))
    rw [nsLook_of a]
    refine wpAny_pure ?_
    rw [b]
    exact wpAny_bind (wpAny_rule (wpAny_pure h))

theorem check_meth {M : Model} {i owner n : String} {self : Value} {rest : List Value} {Q : Unit → Shared → Prop}
    (hk : builtinKind i = some .method) (hs : splitId i = some (owner, n)) (hi : Looks M s.heap (isInstance self (.type owner)) true) (ha : argsOk i ⟨self :: rest, []⟩) (q : Q () s) :
    wpAny M A (checkBuiltinCall i ⟨self :: rest, []⟩) Q E s := by
  simp only [checkBuiltinCall, hk, hs]
  refine wpAny_bind (hi.here ?_)
  simp only [Bool.not_true, Bool.false_eq_true, if_false]
  cases hsig : Manifest.signature? i with
  | none => exact wpAny_pure q
  | some sig =>
    simp only [argsOk, hsig] at ha
    have h2 : Bind.checkArgs i sig ⟨self :: rest, []⟩ = pure () := ha
    show wpAny M A (Bind.checkArgs i sig ⟨self :: rest, []⟩) Q E s
    rw [h2]; exact wpAny_pure q
end

theorem kind_append : builtinKind "list.append" = some .method := by decide +kernel
theorem split_append : splitId "list.append" = some ("list", "append") := by decide +kernel
theorem kind_pop : builtinKind "list.pop" = some .method := by decide +kernel
theorem split_pop : splitId "list.pop" = some ("list", "pop") := by decide +kernel

section
variable {w : World} {A : Around} {E : Value → Shared → Prop} {s : Shared} {K : Frag} {r dr : Addr} {xs : List Value} {n : Nat} {v : Value}
theorem row_list {M : Model} {h : Heap} (X : K.In h) (hm : mroIn K 138 (.type "list") = some true) (hr : h.get? r = some (rowOf dr xs n)) : Looks M h (isInstance (.ref r) (.type "list")) true :=
  ((Looks.ld (part := none) hr).andThen .now).andThen (looks_mroIn X hm)

theorem row_append {Q : Value → Shared → Prop} (X : K.In s.heap) (hm : mroIn K 138 (.type "list") = some true) (hr : s.heap.get? r = some (rowOf dr xs n)) (hz : xs.length ≤ 1000)
    (h : ∀ h', h'.get? r = some (rowOf dr (xs ++ [v]) (n + 1)) → Heap.SameBut r s.heap h' → Q .none { s with heap := h' }) :
    wpAny (model P w) A (call (.builtin "list.append") [.ref r, v]) Q E s := by
  refine wpAny_call (codeAny_call_builtin F.slot_list_append.plain F.entry_list_append (check_meth kind_append split_append (row_list X hm hr) (F.args_list_append_2 _ _) ?_))
  show wpAny _ _ (updateSeq r (·.push v) >>= fun _ => ret .none) _ _ s
  refine wpAny_bind (wpAny_updateSeq hr rfl (wpAny_pure (h _ ?_ (Heap.SameBut.update ..))))
  have e : Obj.mapSeq (·.push v) (rowOf dr xs n) = rowOf dr (xs ++ [v]) (n + 1) := by
    simp [Obj.mapSeq]
  rw [Heap.get?_update_self _ hr (by rw [e]; rfl), e]

end
end Mine
end
section
open PySem PySem.W PySem.W.X PySem.Spec PySem.Calls PyProof.Rows
set_option Elab.async false
set_option maxRecDepth 100000
set_option maxHeartbeats 8000000
namespace Mine
noncomputable abbrev supOf (x : Addr) : Obj := ks_superObj 138 x 138
noncomputable abbrev bndOf (cls id : String) (x : Addr) : Obj := { cls := .type cls, data := .fields #[.builtin id, .ref x] }

section
variable {w : World} {A : Around} {E : Value → Shared → Prop} {h : Heap} {g : Array GenState} {d : Drawn} {t : Nat} {os : OsState}
theorem super_ga_b {so x : Addr} {K : Frag} {name : Str} {tk : Tok} {id T gid : String} {l : List Value} {Q : Fin → Shared → Prop}
    (hso : h.get? so = some (supOf x)) (hno : Looks (model P w) h (opaqueClassAbove (.ref 138)) none)
    (hC : Looks (model P w) h (mroOf (.ref 138)) l) (hl : l = [.ref 138, .type "list", .type "object"]) (X : K.In h)
    (hf : alongIn K name [.type "list", .type "object"] = some (some (.builtin id))) (hT : typeOf (.builtin id) = pure (.type T)) (hG : typeLookup (.type T) "__get__" = pure (some (.builtin gid)))
    (hxC : x ≠ 138) (hn : (name == ("__class__" : Str)) = false)
    (hq : wpAny (model P w) A (call (.builtin gid) [.builtin id, .ref x, .ref 138]) (fun v s' => Q (.done (.ret v)) s') E ⟨h, g, d, t, os⟩) :
    wpAny (model P w) A (Builtin.«super.__getattribute__» ⟨[.ref so, .str name tk], []⟩) Q E ⟨h, g, d, t, os⟩ := by
  have hne : (Value.ref x == Value.ref 138) = false := by simp [hxC]
  have hdt : (supOf x).data = .fields #[.ref 138, .ref x, .ref 138] := rfl
  have f0 : (#[.ref 138, .ref x, .ref 138] : Array Value)[0]? = some (.ref 138) := rfl
  have f1 : (#[.ref 138, .ref x, .ref 138] : Array Value)[1]? = some (.ref x) := rfl
  have f2 : (#[.ref 138, .ref x, .ref 138] : Array Value)[2]? = some (.ref 138) := rfl
  have hl' : (l.dropWhile (· != .ref 138)).drop 1 = [.type "list", .type "object"] := by rw [hl]; decide
  unfold Builtin.«super.__getattribute__»
  repeat (first
    | (with_reducible refine wpAny_field hso hdt f0 ?_) | (with_reducible refine wpAny_field hso hdt f1 ?_) | (with_reducible refine wpAny_field hso hdt f2 ?_)
    | (with_reducible refine ks_wpAny_notOpaque hno ?_)
    | (with_reducible refine Looks.at hC ?_; rw [hl'])
    | (refine ks_forIn_along X (fun _ _ => rfl) rfl ?_ hf)
    | (with_reducible refine wpAny_mono hq (fun v s' hv => ?_) (fun _ _ e => e))
    | (with_reducible refine wpAny_of_eq hT ?_)
    | (with_reducible refine wpAny_of_eq hG ?_)
    | (simp only [hn, hne, Bool.or_false, Bool.false_eq_true, if_false])
    | wp_step
    | dsimp only)
  all_goals exact hv

theorem method_super_b {so x : Addr} {K : Frag} {name : Str} {id T gid : String} {l : List Value} {pl : Sem Bool} {Q : Value × List Value → Shared → Prop}
    (hso : h.get? so = some (supOf x)) (hno : Looks (model P w) h (opaqueClassAbove (.ref 138)) none)
    (hC : Looks (model P w) h (mroOf (.ref 138)) l) (hl : l = [.ref 138, .type "list", .type "object"]) (X : K.In h)
    (hf : alongIn K name [.type "list", .type "object"] = some (some (.builtin id))) (hT : typeOf (.builtin id) = pure (.type T)) (hG : typeLookup (.type T) "__get__" = pure (some (.builtin gid)))
    (hxC : x ≠ 138) (hn : (name == ("__class__" : Str)) = false)
    (hq : wpAny (model P w) A.in1 (call (.builtin gid) [.builtin id, .ref x, .ref 138]) (fun v s' => handedIn v = true ∧ Q (v, []) s') (fun _ _ => False) ⟨h, g, d, t + 1, os⟩) :
    wpAny (model P w) A (getMethod (.ref so) name pl) Q E ⟨h, g, d, t, os⟩ := by
  have hlk := F.ks_slot_super_ga.lookup
  have hcan := F.ks_canon_super_ga
  have hTy : ∀ t', (⟨h, g, d, t', os⟩ : Shared).TypeIs (.ref so) "super" := fun _ => ⟨_, hso, rfl⟩
  unfold getMethod
  refine wpAny_bind (wpAny_specialOf (hTy _) hlk ?_)
  show wpAny _ _ (if (Manifest.canonical "super.__getattribute__" != "object.__getattribute__") = true then _ else _) _ _ _
  rw [if_pos hcan]
  unfold getAttr getAttrBy
  refine wpAny_bind (wpAny_bind (wpAny_mkText (wpAny_holding (wpAny_bind (wpAny_typeOf (hTy _) (wpAny_bind (wpAny_of_eq hlk ?_)))))))
  show wpAny _ _ (getAttrByItsOwn (.ref so) (.str name t) (.type "super") (.builtin "super.__getattribute__") true false) _ _ _
  unfold getAttrByItsOwn hookBefore callGetattribute boundAndCalled
  refine wpAny_bind (wpAny_of_eq (show (if onTheHeap (.type "super") then typeLookup (.type "super") "__getattr__" else pure none) = pure none from rfl) ?_)
  refine wpAny_bind (wpAny_attempt (wpAny_holding ?_))
  show wpAny _ _ (bindSpecial (.builtin "super.__getattribute__") (.ref so) >>= _) _ _ _
  refine wpAny_bind (wpAny_of_eq (F.ks_slot_super_ga.bind _) ?_)
  refine wpAny_mono (Q := fun v s' => handedIn v = true ∧ Q (v, []) s') (E := fun _ _ => False)
    (wpAny_call_entry F.ks_slot_super_ga (hTy _) F.ks_entry_super_ga (super_ga_b hso hno hC hl X hf hT hG hxC hn (wpAny_mono hq (fun v s' hv => ⟨v, rfl, hv⟩) fun _ _ e => e)) (F.ks_gaArgs_super _ _)) (fun v s' hv => ?_) fun _ _ z => z.elim
  exact handed_on hv.1 (wpAny_pure hv.2)
end
end Mine
end
section
open PySem PySem.W PySem.W.X PySem.Spec PySem.Calls PyProof.Rows
set_option Elab.async false
set_option maxRecDepth 100000
set_option maxHeartbeats 8000000
namespace Mine
theorem erase_last {α : Type} (v : α) : ∀ xs : List α, (xs ++ [v]).eraseIdx xs.length = xs
  | [] => rfl
  | x :: r => by simp [erase_last v r]
section
variable {w : World} {A : Around} {E : Value → Shared → Prop} {s : Shared} {K : Frag} {r dr q : Addr} {xs : List Value} {n : Nat} {v : Value}

theorem call_bound {cls id : String} {b : Builtin} {Q : Value → Shared → Prop} (hq : s.heap.get? q = some (bndOf cls id r)) (hc : cls = "builtin_function_or_method" ∨ cls = "method-wrapper")
    (hp : plainId id = true) (hb : entryFor table id = some b)
    (hchk : ∀ {Q' : Unit → Shared → Prop} {E' : Value → Shared → Prop}, Q' () s → wpAny (model P w) A.in1 (checkBoundCall id ⟨[.ref r], []⟩) Q' E' s)
    (ht : wpAny (model P w) A.in1 (b ⟨[.ref r], []⟩) (fun fin s' => ∃ v, fin = .done (.ret v) ∧ Q v s') E s) :
    wpAny (model P w) A (call (.ref q) []) Q E s := by
  refine wpAny_call (codeAny_of_tree ?_)
  show wpAny _ A.in1 (callAny (.ref q) _) _ _ _
  unfold callAny
  refine wpAny_bind (wpAny_load hq ?_)
  have e : ((bndOf cls id r).cls == .type "method" || (bndOf cls id r).cls == .type "builtin_function_or_method" || (bndOf cls id r).cls == .type "method-wrapper") = true := by
    rcases hc with rfl | rfl <;> rfl
  have e2 : ((bndOf cls id r).cls != .type "method") = true := by
    rcases hc with rfl | rfl <;> rfl
  show wpAny _ _ (if ((bndOf cls id r).cls == .type "method" || (bndOf cls id r).cls == .type "builtin_function_or_method" || (bndOf cls id r).cls == .type "method-wrapper") = true then _ else _) _ _ _
  rw [if_pos e]
  show wpAny _ _ (if ((bndOf cls id r).cls != .type "method") = true then _ else _) _ _ _
  rw [if_pos e2]
  refine wpAny_bind (hchk ?_)
  refine wpAny_pure ⟨plainId_quiet hp _, codeAny_builtin hb ?_⟩
  rw [Around.under_plainId hp _]
  refine wpAny_mono ht (fun fin s' z => ?_) fun _ _ z => z
  obtain ⟨v, rfl, hv⟩ := z
  exact hv

theorem bound_pop (X : K.In s.heap) (hm : mroIn K 138 (.type "module") = some false) {cd : ClassData} (hcd : clsIn K 138 = some cd) (hqn : cd.qualname = Str.ofString "_Accumulator") (hty : typeIn K (.ref 138) = some (.type "type"))
    (hr : s.heap.get? r = some (rowOf dr xs n)) {Q : Unit → Shared → Prop} (hQ : Q () s) : wpAny (model P w) A (checkBoundCall "list.pop" ⟨[.ref r], []⟩) Q E s := by
  obtain ⟨h, g, d, t, os⟩ := s
  have L0 : Looks (model P w) h (isInstance (.ref r) (.type "module")) false := ((Looks.ld (part := none) hr).andThen .now).andThen (looks_mroIn X hm)
  have L1 := looks_clsIn (M := model P w) X hcd
  have L2 := looks_typeIn (M := model P w) X hty
  have L3 : Looks (model P w) h (typeOf (.ref r)) (.ref 138) := (Looks.ld (part := none) hr).andThen .now
  unfold checkBoundCall
  have e1 : Manifest.signature? "list.pop" = some ⟨.positional, "list.pop", "pop", .self, [⟨"index", .posOnly, false⟩]⟩ := by kernel_rfl
  rw [e1, kind_pop]
  refine wpAny_bind (L0.at ?_)
  rw [if_neg (by decide)]
  refine wpAny_bind (ks_wpAny_isType_inst hr (fun c e => by cases e) ?_)
  refine wpAny_bind (L3.at ?_)
  dsimp only
  refine wpAny_bind (L1.at ?_)
  refine wpAny_bind (L2.at ?_)
  rw [if_pos (by decide), hqn]
  have e3 : Bind.checkArgs "list.pop" ⟨.positional, "_Accumulator.pop", "pop", .self, [⟨"index", .posOnly, false⟩]⟩ ⟨[.ref r], []⟩ = pure () := by kernel_rfl
  refine wpAny_of_eq (a := ()) (Eq.trans ?_ e3) hQ
  kernel_rfl

theorem bound_slot {id : String} {sig : Manifest.Signature} (hs : Manifest.signature? id = some sig) (hk : builtinKind id = some .slot) (ha : Bind.checkArgs id sig ⟨[.ref r], []⟩ = pure ())
    {Q : Unit → Shared → Prop} (hQ : Q () s) : wpAny (model P w) A (checkBoundCall id ⟨[.ref r], []⟩) Q E s := by
  unfold checkBoundCall
  rw [hs, hk]
  refine wpAny_of_eq (a := ()) (Eq.trans ?_ ha) hQ
  rfl

theorem bound_slot2 {id : String} (hk : builtinKind id = some .slot) (hs : (Manifest.signature? id).isSome = true) (ha : ((Manifest.signature? id).elim (pure ()) fun sig => Bind.checkArgs id sig ⟨[.ref r], []⟩) = (pure () : Sem Unit))
    {Q : Unit → Shared → Prop} (hQ : Q () s) : wpAny (model P w) A (checkBoundCall id ⟨[.ref r], []⟩) Q E s := by
  cases e : Manifest.signature? id with
  | none => rw [e] at hs; cases hs
  | some sig => rw [e] at ha; exact bound_slot e hk ha hQ

theorem tree_len {Q : Value → Shared → Prop} (hr : s.heap.get? r = some (rowOf dr xs n)) (h : Q (.int xs.length s.toks) { s with toks := s.toks + 1 }) :
    wpAny (model P w) A (Builtin.«list.__len__» ⟨[.ref r], []⟩) (fun fin s' => ∃ v, fin = .done (.ret v) ∧ Q v s') E s := by
  show wpAny _ _ (seqSize r >>= fun k => retInt k) _ _ s
  unfold seqSize
  refine wpAny_bind (wpAny_bind (wpAny_loadPart hr (wpAny_pure ?_)))
  unfold retInt
  refine wpAny_bind (wpAny_mkInt (wpAny_pure ⟨_, rfl, ?_⟩))
  simpa using h

theorem tree_pop {Q : Value → Shared → Prop} (hr : s.heap.get? r = some (rowOf dr (xs ++ [v]) n)) (hz : xs.length ≤ 1000)
    (h : ∀ h', h'.get? r = some (rowOf dr xs (n + 1)) → Heap.SameBut r s.heap h' → Q v { s with heap := h' }) :
    wpAny (model P w) A (Builtin.«list.pop» ⟨[.ref r], []⟩) (fun fin s' => ∃ v, fin = .done (.ret v) ∧ Q v s') E s := by
  have e1 : selfAndSome "list.pop" "pop" 0 1 ⟨[.ref r], []⟩ = pure (.ref r, []) := by kernel_rfl
  have e2 : ((seqIndex? (-1) (xs ++ [v]).toArray.size).bind fun k => Option.map (fun x => (k, x)) (xs ++ [v]).toArray[k]?) = some (xs.length, v) := by
    have : seqIndex? (-1) (xs ++ [v]).toArray.size = some xs.length := by
      simp [seqIndex?]
      omega
    rw [this]
    simp
  have e3 : Obj.mapSeq (fun x => x.eraseIdxIfInBounds xs.length) (rowOf dr (xs ++ [v]) n) = rowOf dr xs (n + 1) := by
    have : (xs ++ [v]).toArray.eraseIdxIfInBounds xs.length = xs.toArray := by
      apply Array.ext'
      simp [Array.eraseIdxIfInBounds, erase_last]
    simp only [Obj.mapSeq, this]
    simp
  unfold Builtin.«list.pop»
  refine wpAny_bind (wpAny_of_eq e1 ?_)
  refine wpAny_bind (wpAny_pure ?_)
  show wpAny _ _ (if (!Builtin.List.listFitsIndex (-1)) = true then _ else _) _ _ _
  rw [if_neg (by decide)]
  unfold Builtin.List.listItems seqItems?
  refine wpAny_bind (wpAny_bind (wpAny_bind (wpAny_load hr (wpAny_pure (wpAny_pure ?_)))))
  show wpAny _ _ (if (xs ++ [v]).toArray.isEmpty = true then _ else _) _ _ _
  rw [if_neg (by simp)]
  rw [e2]
  refine wpAny_bind (wpAny_updateSeq hr rfl (wpAny_pure ⟨v, rfl, h _ ?_ (Heap.SameBut.update ..)⟩) (by simp [sizeLine]; omega) (by simp [Array.eraseIdxIfInBounds, erase_last, sizeLine]; omega))
  rw [Heap.get?_update_self _ hr (by rw [e3]; rfl), e3]

theorem tree_init {Q : Value → Shared → Prop} (hr : s.heap.get? r = some (rowOf dr [] n))
    (h : ∀ h', h'.get? r = some (rowOf dr [] n) → Heap.SameBut r s.heap h' → Q .none { s with heap := h' }) :
    wpAny (model P w) A (Builtin.«list.__init__» ⟨[.ref r], []⟩) (fun fin s' => ∃ v, fin = .done (.ret v) ∧ Q v s') E s := by
  have e3 : Obj.mapSeq (fun _ => #[]) (rowOf dr [] n) = rowOf dr [] n := rfl
  show wpAny _ _ (Builtin.List.listItems (.ref r) >>= fun old => Builtin.List.listUpdate (.ref r) (fun _ => #[]) >>= fun _ => letGo old.toList.reverse >>= fun _ => ret .none) _ _ s
  unfold Builtin.List.listItems seqItems?
  refine wpAny_bind (wpAny_bind (wpAny_bind (wpAny_load hr (wpAny_pure (wpAny_pure ?_)))))
  refine wpAny_bind (wpAny_updateSeq hr rfl ?_ (by simp [sizeLine]) (by simp [sizeLine]))
  refine wpAny_bind (wpAny_of_eq (a := ()) (by rfl) (wpAny_pure ⟨.none, rfl, h _ ?_ (Heap.SameBut.update ..)⟩))
  rw [Heap.get?_update_self _ hr (by rw [e3]; rfl), e3]
end
end Mine
end
section
open PySem PySem.W PySem.W.X PySem.Spec PySem.Calls PyProof.Rows Builtin Builtin.ObjectAttr
set_option Elab.async false
set_option maxRecDepth 100000
set_option maxHeartbeats 8000000
namespace Mine
theorem refuse_row (self : Value) : refuseLoop self (Str.ofString "__setattr__") [.ref 138, .type "list", .type "object"] = pure () := by
  rw [refuseLoop_ref]
  kernel_rfl

section
variable {w : World} {A : Around} {E : Value → Shared → Prop} {s : Shared} {K : Frag} {x dx L : Addr} {h₀ : Heap} {m : Str → Option Value} {news news' : List (Addr × Obj)} {ox od od' : Obj} {es es' : List DictEntry} {n n' : Nat} {name : Str} {v : Value} {R : Result → Shared → Prop} {tk : Tok}

theorem osa_row {cd : ClassData} (hcd : clsIn K 138 = some cd) (hmro : cd.mro = [.ref 138, .type "list", .type "object"]) (hhd : cd.hasDict = true) {pre post : List (Addr × Obj)} (F : Fr h₀ L s.heap m) (N : News h₀ L s.heap (pre ++ (dx, dictOf es n) :: post)) (X : K.In s.heap)
    (I : InstAt s.heap x ox 138 (some (dictOf es n))) (hd : ox.dict = some dx) (ha : findIn K (.ref 138) name = some none)
    (hl : (getL name es).isSome = true) (h1 : ∀ p ∈ pre, p.1 ≠ dx) (h2 : ∀ p ∈ post, p.1 ≠ dx)
    (e1 : putL name (PyData.keyHash w.params name) (.str name s.toks) v es = es') (e2 : putN name es n = n') (hz : es'.length ≤ 1000)
    (h : ∀ h', Fr h₀ L h' m → News h₀ L h' (pre ++ (dx, dictOf es' n') :: post) → R (.ok (.ret .none)) { s with heap := h', toks := s.toks + 1 }) :
    codeAny (model P w) A (.call (.builtin "object.__setattr__") ⟨[.ref x, .str name tk, v], []⟩) R s := by
  have SF := PySem.F.store_object
  have sub : Looks (model P w) s.heap (isInstance (.ref x) (.type "object")) true := I.type.andThen (looks_mroIn X (by unfold mroIn; rw [hcd, Option.bind_some, hmro]; decide))
  refine codeAny_call_builtin SF.slot.plain SF.entry (@check_slot (model P w) _ _ s "object.__setattr__" "object" "__setattr__" (.ref x) [.str name tk, v] [] _ SF.kind SF.split sub (SF.args (.ref x) (.str name tk) v) ?_)
  have hm : Looks (model P w) s.heap (mroOf (.ref 138)) cd.mro := (looks_clsIn X hcd).andThen .now
  rw [osa_eq, refuse_eq]
  refine wpAny_bind (wpAny_bind (I.type.here (wpAny_bind (hm.here ?_))))
  rw [hmro]
  refine wpAny_of_eq (refuse_row _) ?_
  refine wpAny_bind (I.type.here (wpAny_bind ((looks_findIn X ha).here (wpAny_bind (wpAny_pure ?_)))))
  have hcdd := (looks_clsIn (M := model P w) X hcd)
  obtain ⟨U1, U2⟩ := news_upd (f := Obj.putName name (PyData.keyHash w.params name) (.str name s.toks) v) F N h1 h2 (by rw [putName_dict, e1, e2]) rfl
  have D := (N (dx, dictOf es n) (by simp)).1
  have D' := (U2 (dx, dictOf es' n') (by simp)).1
  obtain ⟨hx, hcl, hn, -⟩ := I
  obtain ⟨oc, odi, oda, osl⟩ := ox
  dsimp only at hcl hd
  subst hcl hd
  refine wpAny_bind (wpAny_pure (wpAny_bind (wpAny_bind (wpAny_loadPart hx (wpAny_bind (hcdd.here ?_))))))
  rw [hhd]
  refine wpAny_pure (a := some dx) (wpAny_bind (wpAny_pure (wpAny_bind ?_)))
  unfold nsSet
  refine wpAny_bind (wpAny_bind (wpAny_askSetting (wpAny_pure (wpAny_bind (wpAny_mkText (wpAny_bind (wpAny_loadPart D ?_)))))))
  have c : aRefKeyMayBeTheName name es.toArray = false := by
    rw [aRefKeyMayBeTheName_at, ← Array.any_toList, ← Array.any_toList]
    unfold getL at hl
    split at hl
    · rename_i en he
      rw [List.any_eq_true.mpr ⟨en, List.mem_of_find?_eq_some he, List.find?_some he⟩]; rfl
    · split at hl
      · cases hl
      · rename_i z; rw [Bool.not_eq_true] at z
        show (!es.any _ && es.any _) = false
        rw [z, Bool.and_false]
  dsimp only
  rw [c]
  refine wpAny_updatePart D ?_
  refine wpAny_bind (wpAny_lookBehind D' (pastItsLine_dict (by rw [List.size_toArray, sizeLine_eq]; omega)) ?_)
  exact wpAny_pure (h _ U1 U2)

theorem set_row {cd : ClassData} {Q : Unit → Shared → Prop} (F : Fr h₀ L s.heap m) (X₀ : K.In h₀) (N : News h₀ L s.heap news) (hcd : clsIn K 138 = some cd) (hmro : cd.mro = [.ref 138, .type "list", .type "object"]) (hhd : cd.hasDict = true)
    (I : InstAt s.heap x ox 138 (some (dictOf es n))) (hd : ox.dict = some dx)
    (hs : findIn K (.ref 138) "__setattr__" = some (some (.builtin "object.__setattr__"))) (ha : findIn K (.ref 138) name = some none) (hl : (getL name es).isSome = true)
    (e : (putL name (PyData.keyHash w.params name) (.str name (s.toks + 1)) v es, putN name es n) = (es', n')) (U : Upd dx (dictOf es n) (dictOf es' n') news news') (hz : es'.length ≤ 1000)
    (h : ∀ h', Fr h₀ L h' m → News h₀ L h' news' → Q () { s with heap := h', toks := s.toks + 2 }) :
    wpAny (model P w) A (setAttr (.ref x) name v) Q E s := by
  obtain ⟨pre, post, rfl, rfl, a, b⟩ := U.split
  obtain ⟨e1, e2⟩ := Prod.mk.inj e
  exact set_plain (X₀.keeps F.keep) I hs (osa_row (s := { s with toks := s.toks + 1 }) hcd hmro hhd F N (X₀.keeps F.keep) I hd ha hl a b e1 e2 hz fun h' F' N' => h h' F' N')
end
end Mine
end
section
open PySem PySem.W PySem.W.X PySem.Spec PySem.Calls PyProof.Rows
set_option Elab.async false
set_option maxRecDepth 100000
set_option maxHeartbeats 8000000
namespace Mine
section
set_option hygiene false in
local macro_rules | `(tactic| x_close) => `(tactic| exact hQ _ _ _ _ (by assumption))
theorem list_new (w : World) (s : Shared) (X : (KF w.params).In s.heap) (fr : Option (List Env)) (gd : Option (List Code)) (Q E : Value → Shared → Prop)
    (hQ : ∀ a a' h t, Mem s.heap h [] [(a, rowOf a' [] 0), (a', emptyDict)] → Q (.ref a) ⟨h, s.gens, s.drawn, t, s.os⟩) :
    wpAny (model Challenge.rw_yh0009_01.row.prog w) { handled := none, depth := 320, frames := fr, guards := gd, units := 90 } (call (.builtin "list.__new__") [.ref 138]) Q E s := by
  x_run
end
section
set_option hygiene false in
local macro_rules | `(tactic| x_close) => `(tactic| exact hQ _ _ _ (by assumption))
theorem get_pop (w : World) (s : Shared) (X : (KF w.params).In s.heap) {r dr : Addr} {a : Array Value} {n : Nat} (hd : s.heap.get? r = some ⟨.ref 138, some dr, .seq a n, #[]⟩) (fr : Option (List Env)) (gd : Option (List Code)) (Q E : Value → Shared → Prop)
    (hQ : ∀ b h t, Mem s.heap h [] [(b, bndOf "builtin_function_or_method" "list.pop" r)] → Q (.ref b) ⟨h, s.gens, s.drawn, t, s.os⟩) :
    wpAny (model Challenge.rw_yh0009_01.row.prog w) { handled := none, depth := 320, frames := fr, guards := gd, units := 90 } (call (.builtin "method_descriptor.__get__") [.builtin "list.pop", .ref r, .ref 138]) Q E s := by
  x_run
theorem get_len (w : World) (s : Shared) (X : (KF w.params).In s.heap) {r dr : Addr} {a : Array Value} {n : Nat} (hd : s.heap.get? r = some ⟨.ref 138, some dr, .seq a n, #[]⟩) (fr : Option (List Env)) (gd : Option (List Code)) (Q E : Value → Shared → Prop)
    (hQ : ∀ b h t, Mem s.heap h [] [(b, bndOf "method-wrapper" "list.__len__" r)] → Q (.ref b) ⟨h, s.gens, s.drawn, t, s.os⟩) :
    wpAny (model Challenge.rw_yh0009_01.row.prog w) { handled := none, depth := 320, frames := fr, guards := gd, units := 90 } (call (.builtin "wrapper_descriptor.__get__") [.builtin "list.__len__", .ref r, .ref 138]) Q E s := by
  x_run
theorem get_init (w : World) (s : Shared) (X : (KF w.params).In s.heap) {r dr : Addr} {a : Array Value} {n : Nat} (hd : s.heap.get? r = some ⟨.ref 138, some dr, .seq a n, #[]⟩) (fr : Option (List Env)) (gd : Option (List Code)) (Q E : Value → Shared → Prop)
    (hQ : ∀ b h t, Mem s.heap h [] [(b, bndOf "method-wrapper" "list.__init__" r)] → Q (.ref b) ⟨h, s.gens, s.drawn, t, s.os⟩) :
    wpAny (model Challenge.rw_yh0009_01.row.prog w) { handled := none, depth := 320, frames := fr, guards := gd, units := 90 } (call (.builtin "wrapper_descriptor.__get__") [.builtin "list.__init__", .ref r, .ref 138]) Q E s := by
  x_run
end
end Mine
end
section
open PySem PySem.W PySem.W.X PySem.Spec PySem.Calls PyProof.Rows Builtin Builtin.ObjectAttr Builtin.Getset_descriptor
set_option Elab.async false
set_option maxRecDepth 100000
set_option maxHeartbeats 8000000
namespace Mine
section
variable {w : World} {A : Around} {s : Shared} {K : Frag} {L : Addr} {h₀ : Heap} {m : Str → Option Value} {news : List (Addr × Obj)} {R : Result → Shared → Prop}

theorem push_two {a a' : Addr} {o o' : Obj} (F : Fr h₀ L s.heap m) (N : News h₀ L s.heap news) {h : Heap} (D : Mem s.heap h [] [(a, o), (a', o')]) : Fr h₀ L h m ∧ News h₀ L h ((a, o) :: (a', o') :: news) :=
  ⟨mem_fr D F, mem_news D F N⟩

theorem make_row {oc : Value} {od : Option Addr} {cd : ClassData} {sl : Array (Option Value)} (F : Fr h₀ L s.heap m) (N : News h₀ L s.heap news) (X : K.In s.heap) (Z : (KF w.params).In s.heap)
    (hhd : A.handled = none) (hdp : A.depth ≤ 312) (hun : A.units ≤ 70)
    (ho : K.lookup 138 = some ⟨oc, od, .cls cd, sl⟩) (e4 : cd.mro = [.ref 138, .type "list", .type "object"]) (e3 : (sl.toList[4]?).join = some (.builtin "list.__new__"))
    (e7 : specialIn K (.ref 138) "__call__" = some (some (.builtin "type.__call__"))) (e8 : instIn K (.ref 138) (.type "type") = some true)
    (hi : findIn K (.ref 138) "__init__" = some (some (.ref 75))) (hf : typeIn K (.ref 75) = some (.type "function"))
    (h : ∀ x dx h' tk, Fr h₀ L h' m → News h₀ L h' ((x, rowOf dx [] 0) :: (dx, dictOf [] 0) :: news) → (∀ p ∈ news, @Ne Nat p.1 x) → (∀ p ∈ news, @Ne Nat p.1 dx) → @Ne Nat dx x → 
      codeAny (model P w) (A.under (.builtin "type.__call__" ⟨[.ref 138], []⟩)) (.call (.ref 75) ⟨[.ref x], []⟩) (InitBack x R) { s with heap := h', toks := tk }) :
    codeAny (model P w) A (.call (.ref 138) ⟨[], []⟩) R s := by
  have hc : clsIn K 138 = some cd := by unfold clsIn; rw [ho]
  have hC := X _ _ ho
  have hm : Looks (model P w) s.heap (mroOf (.ref 138)) [.ref 138, .type "list", .type "object"] := by rw [← e4]; exact (looks_clsIn X hc).andThen .now
  have made : Looks (model P w) s.heap (Bind.madeBy (.ref 138)) (some "list.__new__") := by
    intro A Q E s k q
    unfold Bind.madeBy
    refine wpAny_bind (hm A _ E s k ?_)
    rw [List.forIn_cons]
    refine wpAny_bind (wpAny_bind (wpAny_bind (wpAny_bind (wpAny_loadPart (k _ _ (X _ _ ho)) (wpAny_pure ?_)))))
    dsimp only
    rw [← Array.getElem?_toList, e3]
    exact wpAny_pure (wpAny_pure (wpAny_pure q))
  have call : Looks (model P w) s.heap (specialOf (.ref 138) "__call__") (some (.builtin "type.__call__")) := looks_specialIn X e7
  have typ : Looks (model P w) s.heap (isInstance (.ref 138) (.type "type")) true := looks_instIn X e8
  have self : Looks (model P w) s.heap (isSubtype (.ref 138) (.ref 138)) true := looks_mroIn X (by unfold mroIn; rw [hc, Option.bind_some, e4]; decide)
  have hi' := looks_findIn (M := model P w) X hi
  refine codeAny_of_tree ?_
  show wpAny _ _ (callAny (.ref 138) _) _ _ _
  refine nd_load hC ?_
  show wpAny _ _ (callAny.viaDunder (.ref 138) _) _ _ _
  unfold callAny.viaDunder
  refine wpAny_bind (call.at ?_)
  dsimp only
  rw [tc_bind]
  refine wpAny_bind (wpAny_pure (wpAny_bind (wpAny_pure ?_)))
  refine wpAny_pure (a := Fin.again (.call (.builtin "type.__call__") ⟨[.ref 138], []⟩)) (And.intro rfl ?_)
  refine codeAny_call_builtin_at (Code.quiet_builtin _ (by decide +kernel)) entry_typeCall (check_slot tc_kind tc_split typ (tc_args _ _ _) ?_)
  unfold Builtin.«type.__call__»
  have hu : (A.under (.builtin "type.__call__" ⟨[.ref 138], []⟩)).handled = none := hhd
  have hud : (A.under (.builtin "type.__call__" ⟨[.ref 138], []⟩)).depth ≤ 320 := by
    show A.depth + Code.weight (.builtin "type.__call__" ⟨[.ref 138], []⟩) ≤ 320
    have : Code.weight (.builtin "type.__call__" ⟨[.ref 138], []⟩) ≤ 8 := by decide +kernel
    omega
  have huu : (A.under (.builtin "type.__call__" ⟨[.ref 138], []⟩)).units ≤ 90 := by
    show A.units + Code.cUnits (.builtin "type.__call__" ⟨[.ref 138], []⟩) ≤ 90
    have : Code.cUnits (.builtin "type.__call__" ⟨[.ref 138], []⟩) ≤ 20 := by decide +kernel
    omega
  repeat (first | simp only [List.isEmpty_cons, Bool.false_eq_true, if_false] | (refine to_lit hu hud huu ?_; refine list_new w _ Z _ _ _ _ fun a a' h' t' D => ?_) | lk)
  obtain ⟨F', N'⟩ := push_two F N D
  have k : ∀ b o, s.heap.get? b = some o → h'.get? b = some o := fun b o e => mem_keep D e
  have hx : h'.get? a = some (rowOf a' [] 0) := (N' _ (.head _)).1
  have t1 : Looks (model P w) h' (typeOf (.ref a)) (.ref 138) := (Looks.ld hx).andThen .now
  have s1 := self.keeps k
  have i1 := hi'.keeps k
  have b1 : Looks (model P w) h' (bindSpecial (.ref 75) (.ref a)) (.ref 75, [.ref a]) := bind_fn (X.keeps k) _ hf
  have hq := h a a' h' t' F' N' (fun p hp e => by have := (D.nw _ (.head _)).2; rw [← show p.1 = a from e, (N p hp).1] at this; cases this)
    (fun p hp e => by have := (D.nw _ (.tail _ (.head _))).2; rw [← show p.1 = a' from e, (N p hp).1] at this; cases this)
    (fun e => by have := D.ord; rw [show a' = a from e] at this; simp at this)
  refine nd_load hx ?_
  refine wpAny_pure (wpAny_pure (s1.at ?_))
  unfold callSpecial? specialOf
  repeat (first | simp only [Bool.not_true, Bool.false_eq_true, if_false] | with_reducible refine wpAny_call ?_ | lk)
  refine codeAny_mono hq fun r s' z => ?_
  rcases r with e | (v | _ | _ | _) <;> first | exact z | exact z.elim | skip
  obtain ⟨rfl, z⟩ := z
  exact wpAny_pure (wpAny_pure z)
end
end Mine
end
section
open PySem PySem.W PySem.W.X PySem.Spec PySem.Calls PyProof.Rows
set_option Elab.async false
set_option maxRecDepth 100000
set_option maxHeartbeats 8000000
namespace Mine
section
variable {w : World} {A : Around} {E : Value → Shared → Prop} {s : Shared} {K : Frag} {x so dr L : Addr} {h₀ : Heap} {m : Str → Option Value} {news : List (Addr × Obj)} {xs : List Value} {n : Nat} {od : Option Obj} {pl : Sem Bool} {cd : ClassData} {Q : Value × List Value → Shared → Prop}
theorem sup_any {name : Str} {cls id T gid : String} (F : Fr h₀ L s.heap m) (X₀ : K.In h₀) (Z : ZIn w h₀) (N : News h₀ L s.heap news) (hso : (so, ks_superObj 138 x 138) ∈ news) (I : InstAt s.heap x (rowOf dr xs n) 138 od)
    (hh : A.handled = none) (hd : A.depth ≤ 320) (hu : A.units ≤ 89) (hopq : nsIn K cStatics "thirdparty.any" = some none) (hcd : clsIn K 138 = some cd) (hmro : cd.mro = [.ref 138, .type "list", .type "object"])
    (hf : ks_superIn K 138 138 name = some (some (.builtin id))) (hT : typeOf (.builtin id) = pure (.type T)) (hG : typeLookup (.type T) "__get__" = pure (some (.builtin gid))) (hn : (name == ("__class__" : Str)) = false)
    (get : ∀ (s : Shared) (_ : (KF w.params).In s.heap) {r dr : Addr} {a : Array Value} {n : Nat} (_ : s.heap.get? r = some ⟨.ref 138, some dr, .seq a n, #[]⟩) (fr : Option (List Env)) (gd : Option (List Code)) (Q E : Value → Shared → Prop)
      (_ : ∀ b h t, Mem s.heap h [] [(b, bndOf cls id r)] → Q (.ref b) ⟨h, s.gens, s.drawn, t, s.os⟩), wpAny (model P w) (lit fr gd) (call (.builtin gid) [.builtin id, .ref r, .ref 138]) Q E s)
    (h : ∀ q h' tk, Fr h₀ L h' m → News h₀ L h' ((q, bndOf cls id x) :: news) → @Ne Nat q x → Q (.ref q, []) { s with heap := h', toks := tk }) :
    wpAny (model P w) A (getMethod (.ref so) name pl) Q E s := by
  have X := X₀.keeps F.keep
  have hxC := ks_ne X I hcd
  have hf' : alongIn K name [.type "list", .type "object"] = some (some (.builtin id)) := by
    unfold ks_superIn at hf
    rw [hcd, Option.bind_some, hmro] at hf
    exact hf
  obtain ⟨hp, g, d, t, os⟩ := s
  refine method_super_b (N _ hso).1 (looks_opaque X hopq) ((looks_clsIn X hcd).andThen .now) hmro X hf' hT hG hxC hn ?_
  refine to_lit (A := A.in1) hh hd (by show A.units + 1 ≤ 90; omega) ?_
  refine get ⟨hp, g, d, t + 1, os⟩ (Z.z.keeps F.keep) I.at_ _ _ _ _ fun b h' t' D => ⟨rfl, ?_⟩
  refine h b h' t' (mem_fr D F) (mem_news D F N) fun e => ?_
  have z := (D.nw _ (.head _)).2
  rw [show b = x from e] at z
  rw [show _ = _ from I.at_] at z
  cases z
end
theorem tin (id : String) (T : String) (e : pureOf (fastBuiltinType id) = some (.type T)) : typeOf (.builtin id) = pure (.type T) := by
  show builtinType id = _
  rw [builtinType_eq_fast]; exact of_pureOf e
theorem ty_init : typeOf (.builtin "list.__init__") = pure (.type "wrapper_descriptor") := tin _ _ (by decide +kernel)
theorem ty_len : typeOf (.builtin "list.__len__") = pure (.type "wrapper_descriptor") := tin _ _ (by decide +kernel)
theorem ty_pop : typeOf (.builtin "list.pop") = pure (.type "method_descriptor") := tin _ _ (by decide +kernel)
theorem get_wrap : typeLookup (.type "wrapper_descriptor") "__get__" = pure (some (.builtin "wrapper_descriptor.__get__")) := by rw [typeLookup_type, builtinLookup_eq_fast]; kernel_rfl
theorem get_meth : typeLookup (.type "method_descriptor") "__get__" = pure (some (.builtin "method_descriptor.__get__")) := by rw [typeLookup_type, builtinLookup_eq_fast]; kernel_rfl
theorem ent_init : entryFor table "list.__init__" = some Builtin.«list.__init__» := entryFor_of_tree (by kernel_rfl)
theorem ent_len : entryFor table "list.__len__" = some Builtin.«list.__len__» := entryFor_of_tree (by kernel_rfl)
theorem ent_pop : entryFor table "list.pop" = some Builtin.«list.pop» := entryFor_of_tree (by kernel_rfl)
theorem pl_init : plainId "list.__init__" = true := by decide +kernel
theorem pl_len : plainId "list.__len__" = true := by decide +kernel
theorem pl_pop : plainId "list.pop" = true := by decide +kernel
theorem kd_init : builtinKind "list.__init__" = some .slot := by decide +kernel
theorem kd_len : builtinKind "list.__len__" = some .slot := by decide +kernel

section
variable {w : World} {A : Around} {E : Value → Shared → Prop} {s : Shared} {K : Frag} {r q dr L : Addr} {h₀ : Heap} {m : Str → Option Value} {news news' : List (Addr × Obj)} {xs : List Value} {n : Nat} {v : Value} {Q : Value → Shared → Prop}
theorem news_same {h h' : Heap} {o o' : Obj} (F : Fr h₀ L h m) (U : Upd r o o' news news') (N : News h₀ L h news) (e : h'.get? r = some o') (k : Heap.SameBut r h h') : Fr h₀ L h' m ∧ News h₀ L h' news' := by
  obtain ⟨pre, post, rfl, rfl, a, b⟩ := U.split
  have z := N (r, o) (by simp)
  obtain ⟨oL, es, ep, hL, rr⟩ := F.ns
  refine ⟨⟨⟨oL, es, ep, (k.2 _ (Ne.symm z.2.1)).trans hL, rr⟩, fun b x q => (k.2 _ fun zz => ?_).trans (F.keep b x q), F.above⟩, fun p hp => ?_⟩
  · have := z.2.2; rw [← zz, q] at this; cases this
  · rw [List.mem_append, List.mem_cons] at hp
    rcases hp with hp | rfl | hp
    · exact ⟨(k.2 _ (a p hp)).trans (N p (by simp [hp])).1, (N p (by simp [hp])).2⟩
    · exact ⟨e, z.2⟩
    · exact ⟨(k.2 _ (b p hp)).trans (N p (by simp [hp])).1, (N p (by simp [hp])).2⟩

theorem bound_initK (F : Fr h₀ L s.heap m) (N : News h₀ L s.heap news) (hq : (q, bndOf "method-wrapper" "list.__init__" r) ∈ news) (hr : (r, rowOf dr [] n) ∈ news) (U : Upd r (rowOf dr [] n) (rowOf dr [] n) news news')
    (h : ∀ h', Fr h₀ L h' m → News h₀ L h' news' → Q .none { s with heap := h' }) : wpAny (model P w) A (call (.ref q) []) Q E s := by
  refine call_bound (N _ hq).1 (.inr rfl) pl_init ent_init (fun hQ => bound_slot2 kd_init (by decide +kernel) (by kernel_rfl) hQ) ?_
  refine tree_init (N _ hr).1 fun h' e k => ?_
  obtain ⟨F', N'⟩ := news_same F U N e k
  exact h h' F' N'
theorem bound_lenK (N : News h₀ L s.heap news) (hq : (q, bndOf "method-wrapper" "list.__len__" r) ∈ news) (hr : (r, rowOf dr xs n) ∈ news)
    (h : Q (.int xs.length s.toks) { s with toks := s.toks + 1 }) : wpAny (model P w) A (call (.ref q) []) Q E s := by
  refine call_bound (N _ hq).1 (.inr rfl) pl_len ent_len (fun hQ => bound_slot2 kd_len (by decide +kernel) (by kernel_rfl) hQ) ?_
  exact tree_len (N _ hr).1 h
theorem bound_popK {cd : ClassData} (F : Fr h₀ L s.heap m) (X₀ : K.In h₀) (N : News h₀ L s.heap news) (hm : mroIn K 138 (.type "module") = some false) (hcd : clsIn K 138 = some cd) (hqn : cd.qualname = Str.ofString "_Accumulator") (hty : typeIn K (.ref 138) = some (.type "type"))
    (hq : (q, bndOf "builtin_function_or_method" "list.pop" r) ∈ news) (hr : (r, rowOf dr (xs ++ [v]) n) ∈ news) (hz : xs.length ≤ 1000) (U : Upd r (rowOf dr (xs ++ [v]) n) (rowOf dr xs (n + 1)) news news')
    (h : ∀ h', Fr h₀ L h' m → News h₀ L h' news' → Q v { s with heap := h' }) : wpAny (model P w) A (call (.ref q) []) Q E s := by
  have X := X₀.keeps F.keep
  refine call_bound (N _ hq).1 (.inl rfl) pl_pop ent_pop (fun hQ => bound_pop X hm hcd hqn hty (N _ hr).1 hQ) ?_
  refine tree_pop (N _ hr).1 hz fun h' e k => ?_
  obtain ⟨F', N'⟩ := news_same F U N e k
  exact h h' F' N'
theorem row_appendK (F : Fr h₀ L s.heap m) (X₀ : K.In h₀) (N : News h₀ L s.heap news) (hm : mroIn K 138 (.type "list") = some true) (hr : (r, rowOf dr xs n) ∈ news) (hz : xs.length ≤ 1000) (U : Upd r (rowOf dr xs n) (rowOf dr (xs ++ [v]) (n + 1)) news news')
    (h : ∀ h', Fr h₀ L h' m → News h₀ L h' news' → Q .none { s with heap := h' }) : wpAny (model P w) A (call (.builtin "list.append") [.ref r, v]) Q E s := by
  have X := X₀.keeps F.keep
  refine row_append X hm (N _ hr).1 hz fun h' e k => ?_
  obtain ⟨F', N'⟩ := news_same F U N e k
  exact h h' F' N'

noncomputable def BndAt (cls id : String) (r q : Addr) (h : Heap) : Prop := h.get? q = some (bndOf cls id r) ∧ (cls = "builtin_function_or_method" ∨ cls = "method-wrapper")
theorem keeps_B {M : Model} {cls id : String} (h : Heap) (X : BndAt cls id r q h) : ∃ k, (k = Keeper.frame ∨ k = Keeper.machine ∨ k = Keeper.boundFrame) ∧ Looks M h (keeperOf (.ref q)) k := by
  obtain ⟨e, hc⟩ := X
  refine ⟨.machine, .inr (.inl rfl), (Looks.ld (part := none) e).andThen ?_⟩
  rcases hc with rfl | rfl <;> exact .now
theorem callWith_B0 {M : Model} {cls id : String} {pos : Pos} {first : List Value} {env : Env} (N : News h₀ L s.heap news) (hq : (q, bndOf cls id r) ∈ news) (hc : cls = "builtin_function_or_method" ∨ cls = "method-wrapper")
    (h : wpAny M A (call (.ref q) (first ++ [])) Q E s) : wpAny M A (callWith pos (.ref q) first (backTo pos (starEach [] env)) []) Q E s :=
  callWith_of (P := BndAt cls id r q) rfl keeps_B (evalArgs_nil3 ⟨⟨(N _ hq).1, hc⟩, h⟩)

theorem method_rowK {prog : Program} {C : Addr} {ox : Obj} {es : List DictEntry} {k : Nat} {name : Str} {pl : Sem Bool} {fv tv : Value} {Q : Value × List Value → Shared → Prop} (X : K.In s.heap) (I : InstAt s.heap r ox C (some (dictOf es k)))
    (hga : findIn K (.ref C) "__getattribute__" = some (some (.builtin "list.__getattribute__"))) (hk : findIn K (.ref C) "__getattr__" = some none)
    (hf : findIn K (.ref C) name = some (some fv)) (ht : typeIn K fv = some tv) (htv : (tv != .type "function" && tv != .type "method_descriptor" && tv != .type "wrapper_descriptor") = false)
    (hl : getL name es = some none) (h : Q (fv, [.ref r]) s) : wpAny (model prog w) A (getMethod (.ref r) name pl) Q E s :=
  method_row X I hga hk hf ht htv (by show (lookIn name (dictOf es k)).map _ = _; rw [lookIn_dict, hl]; rfl) h
theorem news_drop1 {h : Heap} {p : Addr × Obj} (N : News h₀ L h (p :: news)) : News h₀ L h news := news_sub N fun q hq => .tail _ hq
theorem news_drop2 {h : Heap} {p p' : Addr × Obj} (N : News h₀ L h (p :: p' :: news)) : News h₀ L h news := news_drop1 (news_drop1 N)
theorem news_mid2 {h : Heap} {a b c : Addr × Obj} (N : News h₀ L h (a :: b :: c :: news)) : News h₀ L h (a :: news) := news_sub N fun p hp => by
  rcases List.mem_cons.mp hp with rfl | hp
  · exact .head _
  · exact .tail _ (.tail _ (.tail _ hp))
end
end Mine
end
section
open PySem PySem.W PySem.W.X PySem.Spec PySem.Calls PyProof.Rows
set_option Elab.async false
set_option maxRecDepth 100000
set_option maxHeartbeats 8000000
namespace Mine
theorem inst_row {h₀ h : Heap} {L x dx : Addr} {news : List (Addr × Obj)} {xs : List Value} {n : Nat} {od : Obj} (N : News h₀ L h news) (h1 : (x, rowOf dx xs n) ∈ news) (h2 : (dx, od) ∈ news) : InstAt h x (rowOf dx xs n) 138 (some od) := ⟨(N _ h1).1, rfl, rfl, (N _ h2).1⟩
theorem news_ne {h₀ h : Heap} {L a b : Addr} {news : List (Addr × Obj)} {o o' : Obj} (N : News h₀ L h news) (h1 : (a, o) ∈ news) (h2 : (b, o') ∈ news) (hc : o.cls ≠ o'.cls) : @Ne Nat a b := fun e => by
  have z := (N _ h1).1
  have z' := (N _ h2).1
  dsimp only at z z'
  rw [show a = b from e, z'] at z
  exact hc (congrArg Obj.cls (Option.some.inj z)).symm
local macro_rules | `(tactic| k_inst) => `(tactic| (refine' inst_row ?N ?h1 ?h2; (case N => k_asm); (case h1 => k_mem); (case h2 => k_mem)))
local macro_rules | `(tactic| k_all) => `(tactic| assumption)
theorem r_new : ∀ (w : World) (p : Program) (loose : List Str) (mean : ExcName → Option Value) (mg mb : Str → Option Value)
   (dp un : Nat) (gd : Option (List Code)) (cn : Str) (cs : Scope) (a : Addr) (ccd : Value) (cl : List (Str × Addr)) (outer : List Env) (A₀ : Around) (base h₀ : Heap) (L : Addr) (m : Str → Option Value) (s : Shared) (Q E : Value → Shared → Prop)
   (news : List (Addr × Obj))
   (B : Below A₀ base outer h₀) (F : Fr h₀ L s.heap m) (X : (hd.heap_1 w.params).In h₀) (Z : ZIn w h₀) (N : News h₀ L s.heap news) (T : Top p loose mean mg mb h₀) (hk : cs.kind = .function)
   (hdp : dp ≤ 305) (hun : un ≤ 20)
   (hret : ∀ r dr t1 t2 h' tk', Fr h₀ L h' m → News h₀ L h' ((r, rowOf dr [] 0) :: (dr, initOf w t1 t2) :: news) → (∀ p ∈ news, @Ne Nat p.1 r) → @Ne Nat dr r → Q (.ref r) { s with heap := h', toks := tk' }),
   wpAny (model Challenge.rw_yh0009_01.row.prog w) (ktrTop dp un gd cn cs L a ccd cl outer) (call (.ref 138) []) Q E s := by
  k_fill
  intro w p loose mean mg mb dp un gd cn cs a ccd cl outer A₀ base h₀ L m s Q E news B F X Z N T hk hdp hun hret
  refine weaken (A' := ktrTop 305 20 gd cn cs L a ccd cl outer) rfl hdp rfl rfl hun ?_
  refine wpAny_call ?_
  k_dflt (refine' make_row F N (X.keeps F.keep) (Z.z.keeps F.keep) rfl ?hd ?hu ?ho ?e4 ?e3 ?e7 ?e8 ?hi ?hf ?_; (case hd => exact Nat.le_of_ble_eq_true rfl); (case hu => exact Nat.le_of_ble_eq_true rfl); (case ho => k_is); (case e4 => rfl); (case e3 => rfl); (case e7 => k_is); (case e8 => k_is); (case hi => k_is); (case hf => k_is))
  intro x' d' h' tk' F' N' a1 a2 a3
  k_sweep
  k_dflt (((refine' ks_code_super ?k1 ?k2 ?k3 ?k4 ?k5 ?kA ?kF ?kK ?k6 ?k7 ?k8 ?k9 ?kB ?_ ?c1 ?c2 ?c3 ?c4; (case kA => exact rfl); (case kF => exact rfl); (case kK => first | exact rfl | assumption); (case k1 => k_asm); (case k2 => k_asm); (case k3 => k_asm); (case k4 => k_asm); (case k5 => k_asm); (case k6 => k_is); (case k7 => k_is); (case k8 => k_room); (case k9 => first | exact BindsTo.of_eq rfl | exact binds_K (by k_in) rfl (by k_is) rfl rfl rfl); (case kB => exact locs rfl); (case c1 => decide); (case c2 => exact rfl); (case c3 => exact rfl); (case c4 => exact rfl); intro g' L' h' FG' F' N' B' X' T' l1; (try k_lt l1); (try dsimp only); (try k_lift B'))))
  repeat' (first | (k_unfold; (try dsimp only)) | ((with_reducible show wpAny _ _ (call _ _ _) _ _ _); with_reducible (first | ((with_reducible show wpAny _ _ (call (Value.builtin "list.append") _ _) _ _ _); ((k_here; k_dflt (refine' row_appendK ?k1 ?k2 ?k3 ?k4 ?k5 ?k6 ?k7 ?_; (case k1 => k_asm); (case k2 => k_asm); (case k3 => k_asm); (case k4 => k_is); (case k5 => k_mem); (case k6 => first | assumption | exact Nat.le_of_ble_eq_true rfl); (case k7 => k_upd); k_whole); intro h' F' N'; (try k_sweep)))) | ((with_reducible show wpAny _ _ (call (Value.ref _) _ _) _ _ _); ((k_here; k_dflt (first | (refine' bound_lenK ?k1 ?k2 ?k3 ?_; (case k1 => k_asm); (case k2 => k_mem); (case k3 => k_mem); k_whole) | (refine' bound_initK ?k1 ?k2 ?k3 ?k4 ?k5 ?_; (case k1 => k_asm); (case k2 => k_asm); (case k3 => k_mem); (case k4 => k_mem); (case k5 => k_upd); k_whole; intro h' F' N'; (try k_sweep)) | (refine' bound_popK ?k1 ?k2 ?k3 ?k4 ?k5 ?k6 ?k7 ?k8 ?k9 ?k10 ?k11 ?_; (case k1 => k_asm); (case k2 => k_asm); (case k3 => k_asm); (case k4 => k_is); (case k5 => k_is); (case k6 => rfl); (case k7 => k_is); (case k8 => k_mem); (case k9 => k_mem); (case k10 => first | assumption | exact Nat.le_of_ble_eq_true rfl); (case k11 => k_upd); k_whole; intro h' F' N'; (try k_sweep)))))) | fail "none")) | (with_reducible ((with_reducible show wpAny _ _ (getMethod (Value.ref _) _ _) _ _ _); ((k_here; k_dflt (refine' method_rowK ?k2 ?k3 ?k4 ?k5 ?k6 ?k7 ?k8 ?k9 ?_; (case k2 => k_in); (case k3 => k_inst); (case k4 => k_is); (case k5 => k_is); (case k6 => k_is); (case k7 => k_is); (case k8 => decide +kernel); (case k9 => k_get); k_whole))))) | (with_reducible ((with_reducible show wpAny _ _ (callWith _ (Value.ref _) _ _ _) _ _ _); ((k_here; k_dflt ((refine' callWith_B0 ?k1 ?k2 ?k3 ?_; (case k1 => k_asm); (case k2 => k_mem); (case k3 => first | exact .inl rfl | exact .inr rfl); k_whole); (try dsimp only [List.nil_append, List.cons_append])))))) | (with_reducible ((with_reducible show wpAny _ _ (getMethod (Value.ref _) _ _) _ _ _); ((k_here; k_dflt (first | (refine' sup_any (id := "list.__init__") ?k1 ?k2 ?k3 ?k4 ?k5 ?k6 ?k7 ?k8 ?k9 ?k10 ?k11 ?k12 ?k13 ty_init get_wrap ?k14 (get_init _) ?_; (case k1 => k_asm); (case k2 => k_asm); (case k3 => (first | assumption | exact ZIn.keeps (by assumption) (Fr.keep (by assumption)) | exact ZIn.keeps (ZIn.keeps (by assumption) (Fr.keep (by assumption))) (Fr.keep (by assumption)))); (case k4 => k_asm); (case k5 => k_mem); (case k6 => k_inst); (case k7 => rfl); (case k8 => exact Nat.le_of_ble_eq_true rfl); (case k9 => exact Nat.le_of_ble_eq_true rfl); (case k10 => k_is); (case k11 => k_is); (case k12 => rfl); (case k13 => ks_is); (case k14 => decide); k_whole) | (refine' sup_any (id := "list.__len__") ?k1 ?k2 ?k3 ?k4 ?k5 ?k6 ?k7 ?k8 ?k9 ?k10 ?k11 ?k12 ?k13 ty_len get_wrap ?k14 (get_len _) ?_; (case k1 => k_asm); (case k2 => k_asm); (case k3 => (first | assumption | exact ZIn.keeps (by assumption) (Fr.keep (by assumption)) | exact ZIn.keeps (ZIn.keeps (by assumption) (Fr.keep (by assumption))) (Fr.keep (by assumption)))); (case k4 => k_asm); (case k5 => k_mem); (case k6 => k_inst); (case k7 => rfl); (case k8 => exact Nat.le_of_ble_eq_true rfl); (case k9 => exact Nat.le_of_ble_eq_true rfl); (case k10 => k_is); (case k11 => k_is); (case k12 => rfl); (case k13 => ks_is); (case k14 => decide); k_whole) | (refine' sup_any (id := "list.pop") ?k1 ?k2 ?k3 ?k4 ?k5 ?k6 ?k7 ?k8 ?k9 ?k10 ?k11 ?k12 ?k13 ty_pop get_meth ?k14 (get_pop _) ?_; (case k1 => k_asm); (case k2 => k_asm); (case k3 => (first | assumption | exact ZIn.keeps (by assumption) (Fr.keep (by assumption)) | exact ZIn.keeps (ZIn.keeps (by assumption) (Fr.keep (by assumption))) (Fr.keep (by assumption)))); (case k4 => k_asm); (case k5 => k_mem); (case k6 => k_inst); (case k7 => rfl); (case k8 => exact Nat.le_of_ble_eq_true rfl); (case k9 => exact Nat.le_of_ble_eq_true rfl); (case k10 => k_is); (case k11 => k_is); (case k12 => rfl); (case k13 => ks_is); (case k14 => decide); k_whole)); intro q' h' t' F' N' e'; (try k_sweep))))) | (with_reducible ((with_reducible show wpAny _ _ (setAttr (Value.ref _) _ _) _ _ _); ((k_here; k_dflt ((refine' set_row ?k1 ?k2 ?k3 ?k4 ?k5 ?k6 ?k7 ?k8 ?k9 ?k10 ?k11 ?k12 ?k13 ?k14 ?_; (case k1 => k_asm); (case k2 => k_asm); (case k3 => k_asm); (case k4 => k_is); (case k5 => rfl); (case k6 => rfl); (case k7 => k_inst); (case k8 => exact rfl); (case k9 => k_is); (case k10 => k_is); (case k11 => k_get); (case k12 => k_put); (case k13 => k_upd); (case k14 => exact Nat.le_of_ble_eq_true rfl); k_whole); intro h' F' N'; (try k_sweep); (try dsimp only)))))) | ((fail_if_success (fail_if_success (first | (with_reducible show PySem.wpAt _ _ _ _ _ _ _) | (with_reducible show PyProof.Rows.wpAt _ _ _ _ _ _ _)))); with_reducible (first | dsimp only | ((ks_step "exec Return"; k_dflt (refine ks_wpAt_Return_some ?_))) | ((ks_step "eval Call"; k_dflt (refine ks_wpAt_MethodCall ?_))) | ((ks_step "exec Expr"; k_dflt (refine ks_wpAt_Expr_any ?_))) | fail "none")) | (k_end; kc_close) | walk1 | (dsimp only; walk1) | (leave1; (try dsimp only)) | fail "no step")
  exact hret _ _ _ _ _ _ (by assumption) (news_drop2 (by assumption)) a1 a3
theorem push_end {h₀ h : Heap} {L T r dr : Addr} {l xs : List Value} {n : Nat} {news : List (Addr × Obj)} (N : News h₀ L h ((T, tupOf l) :: (r, rowOf dr xs n) :: news)) : @Ne Nat T r := news_ne N (.head _) (.tail _ (.head _)) nofun
theorem r_push : ∀ (w : World) (p : Program) (loose : List Str) (mean : ExcName → Option Value) (mg mb : Str → Option Value)
   (dp un : Nat) (gd : Option (List Code)) (cn : Str) (cs : Scope) (a : Addr) (ccd : Value) (cl : List (Str × Addr)) (outer : List Env) (A₀ : Around) (base h₀ : Heap) (L : Addr) (m : Str → Option Value) (s : Shared) (Q E : Value → Shared → Prop)
   (news : List (Addr × Obj)) (r dr : Addr) (xs : List Value) (n : Nat) (t1 t2 : Tok) (sa sb : Str) (ta tb : Tok)
   (B : Below A₀ base outer h₀) (F : Fr h₀ L s.heap m) (X : (hd.heap_1 w.params).In h₀) (N : News h₀ L s.heap ((r, rowOf dr xs n) :: (dr, initOf w t1 t2) :: news)) (T : Top p loose mean mg mb h₀) (hk : cs.kind = .function)
   (hne : ∀ p ∈ news, @Ne Nat p.1 r) (hdr : @Ne Nat dr r) (hz : xs.length ≤ 1000)
   (hdp : dp ≤ 305) (hun : un ≤ 20)
   (hret : ∀ T n' h' tk', Fr h₀ L h' m → News h₀ L h' ((T, tupOf [.str sa ta, .str sb tb]) :: (r, rowOf dr (xs ++ [.ref T]) n') :: (dr, initOf w t1 t2) :: news) → @Ne Nat T r → Q .none { s with heap := h', toks := tk' }),
   wpAny (model Challenge.rw_yh0009_01.row.prog w) (ktrTop dp un gd cn cs L a ccd cl outer) (call (.ref 82) [.ref r, .str sa ta, .str sb tb]) Q E s := by
  k_fill
  intro w p loose mean mg mb dp un gd cn cs a ccd cl outer A₀ base h₀ L m s Q E news r dr xs n t1 t2 sa sb ta tb B F X N T hk hne hdr hz hdp hun hret
  refine weaken (A' := ktrTop 305 20 gd cn cs L a ccd cl outer) rfl hdp rfl rfl hun ?_
  refine wpAny_call ?_
  k_dflt cell_enter
  repeat' (first | (k_unfold; (try dsimp only)) | ((with_reducible show wpAny _ _ (call _ _ _) _ _ _); with_reducible (first | ((with_reducible show wpAny _ _ (call (Value.builtin "list.append") _ _) _ _ _); ((k_here; k_dflt (refine' row_appendK ?k1 ?k2 ?k3 ?k4 ?k5 ?k6 ?k7 ?_; (case k1 => k_asm); (case k2 => k_asm); (case k3 => k_asm); (case k4 => k_is); (case k5 => k_mem); (case k6 => first | assumption | exact Nat.le_of_ble_eq_true rfl); (case k7 => k_upd); k_whole); intro h' F' N'; (try k_sweep)))) | ((with_reducible show wpAny _ _ (call (Value.ref _) _ _) _ _ _); ((k_here; k_dflt (first | (refine' bound_lenK ?k1 ?k2 ?k3 ?_; (case k1 => k_asm); (case k2 => k_mem); (case k3 => k_mem); k_whole) | (refine' bound_initK ?k1 ?k2 ?k3 ?k4 ?k5 ?_; (case k1 => k_asm); (case k2 => k_asm); (case k3 => k_mem); (case k4 => k_mem); (case k5 => k_upd); k_whole; intro h' F' N'; (try k_sweep)) | (refine' bound_popK ?k1 ?k2 ?k3 ?k4 ?k5 ?k6 ?k7 ?k8 ?k9 ?k10 ?k11 ?_; (case k1 => k_asm); (case k2 => k_asm); (case k3 => k_asm); (case k4 => k_is); (case k5 => k_is); (case k6 => rfl); (case k7 => k_is); (case k8 => k_mem); (case k9 => k_mem); (case k10 => first | assumption | exact Nat.le_of_ble_eq_true rfl); (case k11 => k_upd); k_whole; intro h' F' N'; (try k_sweep)))))) | fail "none")) | (with_reducible ((with_reducible show wpAny _ _ (getMethod (Value.ref _) _ _) _ _ _); ((k_here; k_dflt (refine' method_rowK ?k2 ?k3 ?k4 ?k5 ?k6 ?k7 ?k8 ?k9 ?_; (case k2 => k_in); (case k3 => k_inst); (case k4 => k_is); (case k5 => k_is); (case k6 => k_is); (case k7 => k_is); (case k8 => decide +kernel); (case k9 => k_get); k_whole))))) | (with_reducible ((with_reducible show wpAny _ _ (callWith _ (Value.ref _) _ _ _) _ _ _); ((k_here; k_dflt ((refine' callWith_B0 ?k1 ?k2 ?k3 ?_; (case k1 => k_asm); (case k2 => k_mem); (case k3 => first | exact .inl rfl | exact .inr rfl); k_whole); (try dsimp only [List.nil_append, List.cons_append])))))) | (with_reducible ((with_reducible show wpAny _ _ (getMethod (Value.ref _) _ _) _ _ _); ((k_here; k_dflt (first | (refine' sup_any (id := "list.__init__") ?k1 ?k2 ?k3 ?k4 ?k5 ?k6 ?k7 ?k8 ?k9 ?k10 ?k11 ?k12 ?k13 ty_init get_wrap ?k14 (get_init _) ?_; (case k1 => k_asm); (case k2 => k_asm); (case k3 => (first | assumption | exact ZIn.keeps (by assumption) (Fr.keep (by assumption)) | exact ZIn.keeps (ZIn.keeps (by assumption) (Fr.keep (by assumption))) (Fr.keep (by assumption)))); (case k4 => k_asm); (case k5 => k_mem); (case k6 => k_inst); (case k7 => rfl); (case k8 => exact Nat.le_of_ble_eq_true rfl); (case k9 => exact Nat.le_of_ble_eq_true rfl); (case k10 => k_is); (case k11 => k_is); (case k12 => rfl); (case k13 => ks_is); (case k14 => decide); k_whole) | (refine' sup_any (id := "list.__len__") ?k1 ?k2 ?k3 ?k4 ?k5 ?k6 ?k7 ?k8 ?k9 ?k10 ?k11 ?k12 ?k13 ty_len get_wrap ?k14 (get_len _) ?_; (case k1 => k_asm); (case k2 => k_asm); (case k3 => (first | assumption | exact ZIn.keeps (by assumption) (Fr.keep (by assumption)) | exact ZIn.keeps (ZIn.keeps (by assumption) (Fr.keep (by assumption))) (Fr.keep (by assumption)))); (case k4 => k_asm); (case k5 => k_mem); (case k6 => k_inst); (case k7 => rfl); (case k8 => exact Nat.le_of_ble_eq_true rfl); (case k9 => exact Nat.le_of_ble_eq_true rfl); (case k10 => k_is); (case k11 => k_is); (case k12 => rfl); (case k13 => ks_is); (case k14 => decide); k_whole) | (refine' sup_any (id := "list.pop") ?k1 ?k2 ?k3 ?k4 ?k5 ?k6 ?k7 ?k8 ?k9 ?k10 ?k11 ?k12 ?k13 ty_pop get_meth ?k14 (get_pop _) ?_; (case k1 => k_asm); (case k2 => k_asm); (case k3 => (first | assumption | exact ZIn.keeps (by assumption) (Fr.keep (by assumption)) | exact ZIn.keeps (ZIn.keeps (by assumption) (Fr.keep (by assumption))) (Fr.keep (by assumption)))); (case k4 => k_asm); (case k5 => k_mem); (case k6 => k_inst); (case k7 => rfl); (case k8 => exact Nat.le_of_ble_eq_true rfl); (case k9 => exact Nat.le_of_ble_eq_true rfl); (case k10 => k_is); (case k11 => k_is); (case k12 => rfl); (case k13 => ks_is); (case k14 => decide); k_whole)); intro q' h' t' F' N' e'; (try k_sweep))))) | (with_reducible ((with_reducible show wpAny _ _ (setAttr (Value.ref _) _ _) _ _ _); ((k_here; k_dflt ((refine' set_row ?k1 ?k2 ?k3 ?k4 ?k5 ?k6 ?k7 ?k8 ?k9 ?k10 ?k11 ?k12 ?k13 ?k14 ?_; (case k1 => k_asm); (case k2 => k_asm); (case k3 => k_asm); (case k4 => k_is); (case k5 => rfl); (case k6 => rfl); (case k7 => k_inst); (case k8 => exact rfl); (case k9 => k_is); (case k10 => k_is); (case k11 => k_get); (case k12 => k_put); (case k13 => k_upd); (case k14 => exact Nat.le_of_ble_eq_true rfl); k_whole); intro h' F' N'; (try k_sweep); (try dsimp only)))))) | ((fail_if_success (fail_if_success (first | (with_reducible show PySem.wpAt _ _ _ _ _ _ _) | (with_reducible show PyProof.Rows.wpAt _ _ _ _ _ _ _)))); with_reducible (first | dsimp only | ((ks_step "exec Return"; k_dflt (refine ks_wpAt_Return_some ?_))) | ((ks_step "eval Call"; k_dflt (refine ks_wpAt_MethodCall ?_))) | ((ks_step "exec Expr"; k_dflt (refine ks_wpAt_Expr_any ?_))) | fail "none")) | (k_end; kc_close) | walk1 | (dsimp only; walk1) | (leave1; (try dsimp only)) | fail "no step")
  refine hret _ _ _ _ (by assumption) (by assumption) (push_end (by assumption))
theorem r_pop : ∀ (w : World) (p : Program) (loose : List Str) (mean : ExcName → Option Value) (mg mb : Str → Option Value)
   (dp un : Nat) (gd : Option (List Code)) (cn : Str) (cs : Scope) (a : Addr) (ccd : Value) (cl : List (Str × Addr)) (outer : List Env) (A₀ : Around) (base h₀ : Heap) (L : Addr) (m : Str → Option Value) (s : Shared) (Q E : Value → Shared → Prop)
   (news : List (Addr × Obj)) (r dr : Addr) (xs : List Value) (v : Value) (n : Nat) (t1 t2 : Tok)
   (B : Below A₀ base outer h₀) (F : Fr h₀ L s.heap m) (X : (hd.heap_1 w.params).In h₀) (Z : ZIn w h₀) (N : News h₀ L s.heap ((r, rowOf dr (xs ++ [v]) n) :: (dr, initOf w t1 t2) :: news)) (T : Top p loose mean mg mb h₀) (hk : cs.kind = .function)
   (hne : ∀ p ∈ news, @Ne Nat p.1 r) (hdr : @Ne Nat dr r) (hz : xs.length ≤ 1000)
   (hdp : dp ≤ 305) (hun : un ≤ 20)
   (hret : ∀ n' h' tk', Fr h₀ L h' m → News h₀ L h' ((r, rowOf dr xs n') :: (dr, initOf w t1 t2) :: news) → Q v { s with heap := h', toks := tk' }),
   wpAny (model Challenge.rw_yh0009_01.row.prog w) (ktrTop dp un gd cn cs L a ccd cl outer) (call (.ref 98) [.ref r]) Q E s := by
  k_fill
  intro w p loose mean mg mb dp un gd cn cs a ccd cl outer A₀ base h₀ L m s Q E news r dr xs v n t1 t2 B F X Z N T hk hne hdr hz hdp hun hret
  refine weaken (A' := ktrTop 305 20 gd cn cs L a ccd cl outer) rfl hdp rfl rfl hun ?_
  refine wpAny_call ?_
  have hpos : 1 ≤ (xs ++ [v]).length := by simp
  k_dflt (((refine' ks_code_super ?k1 ?k2 ?k3 ?k4 ?k5 ?kA ?kF ?kK ?k6 ?k7 ?k8 ?k9 ?kB ?_ ?c1 ?c2 ?c3 ?c4; (case kA => exact rfl); (case kF => exact rfl); (case kK => first | exact rfl | assumption); (case k1 => k_asm); (case k2 => k_asm); (case k3 => k_asm); (case k4 => k_asm); (case k5 => k_asm); (case k6 => k_is); (case k7 => k_is); (case k8 => k_room); (case k9 => first | exact BindsTo.of_eq rfl | exact binds_K (by k_in) rfl (by k_is) rfl rfl rfl); (case kB => exact locs rfl); (case c1 => decide); (case c2 => exact rfl); (case c3 => exact rfl); (case c4 => exact rfl); intro g' L' h' FG' F' N' B' X' T' l1; (try k_lt l1); (try dsimp only); (try k_lift B'))))
  repeat' (first | (k_unfold; (try dsimp only)) | ((with_reducible show wpAny _ _ (call _ _ _) _ _ _); with_reducible (first | ((with_reducible show wpAny _ _ (call (Value.builtin "list.append") _ _) _ _ _); ((k_here; k_dflt (refine' row_appendK ?k1 ?k2 ?k3 ?k4 ?k5 ?k6 ?k7 ?_; (case k1 => k_asm); (case k2 => k_asm); (case k3 => k_asm); (case k4 => k_is); (case k5 => k_mem); (case k6 => first | assumption | exact Nat.le_of_ble_eq_true rfl); (case k7 => k_upd); k_whole); intro h' F' N'; (try k_sweep)))) | ((with_reducible show wpAny _ _ (call (Value.ref _) _ _) _ _ _); ((k_here; k_dflt (first | (refine' bound_lenK ?k1 ?k2 ?k3 ?_; (case k1 => k_asm); (case k2 => k_mem); (case k3 => k_mem); k_whole) | (refine' bound_initK ?k1 ?k2 ?k3 ?k4 ?k5 ?_; (case k1 => k_asm); (case k2 => k_asm); (case k3 => k_mem); (case k4 => k_mem); (case k5 => k_upd); k_whole; intro h' F' N'; (try k_sweep)) | (refine' bound_popK ?k1 ?k2 ?k3 ?k4 ?k5 ?k6 ?k7 ?k8 ?k9 ?k10 ?k11 ?_; (case k1 => k_asm); (case k2 => k_asm); (case k3 => k_asm); (case k4 => k_is); (case k5 => k_is); (case k6 => rfl); (case k7 => k_is); (case k8 => k_mem); (case k9 => k_mem); (case k10 => first | assumption | exact Nat.le_of_ble_eq_true rfl); (case k11 => k_upd); k_whole; intro h' F' N'; (try k_sweep)))))) | fail "none")) | (with_reducible ((with_reducible show wpAny _ _ (getMethod (Value.ref _) _ _) _ _ _); ((k_here; k_dflt (refine' method_rowK ?k2 ?k3 ?k4 ?k5 ?k6 ?k7 ?k8 ?k9 ?_; (case k2 => k_in); (case k3 => k_inst); (case k4 => k_is); (case k5 => k_is); (case k6 => k_is); (case k7 => k_is); (case k8 => decide +kernel); (case k9 => k_get); k_whole))))) | (with_reducible ((with_reducible show wpAny _ _ (callWith _ (Value.ref _) _ _ _) _ _ _); ((k_here; k_dflt ((refine' callWith_B0 ?k1 ?k2 ?k3 ?_; (case k1 => k_asm); (case k2 => k_mem); (case k3 => first | exact .inl rfl | exact .inr rfl); k_whole); (try dsimp only [List.nil_append, List.cons_append])))))) | (with_reducible ((with_reducible show wpAny _ _ (getMethod (Value.ref _) _ _) _ _ _); ((k_here; k_dflt (first | (refine' sup_any (id := "list.__init__") ?k1 ?k2 ?k3 ?k4 ?k5 ?k6 ?k7 ?k8 ?k9 ?k10 ?k11 ?k12 ?k13 ty_init get_wrap ?k14 (get_init _) ?_; (case k1 => k_asm); (case k2 => k_asm); (case k3 => (first | assumption | exact ZIn.keeps (by assumption) (Fr.keep (by assumption)) | exact ZIn.keeps (ZIn.keeps (by assumption) (Fr.keep (by assumption))) (Fr.keep (by assumption)))); (case k4 => k_asm); (case k5 => k_mem); (case k6 => k_inst); (case k7 => rfl); (case k8 => exact Nat.le_of_ble_eq_true rfl); (case k9 => exact Nat.le_of_ble_eq_true rfl); (case k10 => k_is); (case k11 => k_is); (case k12 => rfl); (case k13 => ks_is); (case k14 => decide); k_whole) | (refine' sup_any (id := "list.__len__") ?k1 ?k2 ?k3 ?k4 ?k5 ?k6 ?k7 ?k8 ?k9 ?k10 ?k11 ?k12 ?k13 ty_len get_wrap ?k14 (get_len _) ?_; (case k1 => k_asm); (case k2 => k_asm); (case k3 => (first | assumption | exact ZIn.keeps (by assumption) (Fr.keep (by assumption)) | exact ZIn.keeps (ZIn.keeps (by assumption) (Fr.keep (by assumption))) (Fr.keep (by assumption)))); (case k4 => k_asm); (case k5 => k_mem); (case k6 => k_inst); (case k7 => rfl); (case k8 => exact Nat.le_of_ble_eq_true rfl); (case k9 => exact Nat.le_of_ble_eq_true rfl); (case k10 => k_is); (case k11 => k_is); (case k12 => rfl); (case k13 => ks_is); (case k14 => decide); k_whole) | (refine' sup_any (id := "list.pop") ?k1 ?k2 ?k3 ?k4 ?k5 ?k6 ?k7 ?k8 ?k9 ?k10 ?k11 ?k12 ?k13 ty_pop get_meth ?k14 (get_pop _) ?_; (case k1 => k_asm); (case k2 => k_asm); (case k3 => (first | assumption | exact ZIn.keeps (by assumption) (Fr.keep (by assumption)) | exact ZIn.keeps (ZIn.keeps (by assumption) (Fr.keep (by assumption))) (Fr.keep (by assumption)))); (case k4 => k_asm); (case k5 => k_mem); (case k6 => k_inst); (case k7 => rfl); (case k8 => exact Nat.le_of_ble_eq_true rfl); (case k9 => exact Nat.le_of_ble_eq_true rfl); (case k10 => k_is); (case k11 => k_is); (case k12 => rfl); (case k13 => ks_is); (case k14 => decide); k_whole)); intro q' h' t' F' N' e'; (try k_sweep))))) | (with_reducible ((with_reducible show wpAny _ _ (setAttr (Value.ref _) _ _) _ _ _); ((k_here; k_dflt ((refine' set_row ?k1 ?k2 ?k3 ?k4 ?k5 ?k6 ?k7 ?k8 ?k9 ?k10 ?k11 ?k12 ?k13 ?k14 ?_; (case k1 => k_asm); (case k2 => k_asm); (case k3 => k_asm); (case k4 => k_is); (case k5 => rfl); (case k6 => rfl); (case k7 => k_inst); (case k8 => exact rfl); (case k9 => k_is); (case k10 => k_is); (case k11 => k_get); (case k12 => k_put); (case k13 => k_upd); (case k14 => exact Nat.le_of_ble_eq_true rfl); k_whole); intro h' F' N'; (try k_sweep); (try dsimp only)))))) | ((fail_if_success (fail_if_success (first | (with_reducible show PySem.wpAt _ _ _ _ _ _ _) | (with_reducible show PyProof.Rows.wpAt _ _ _ _ _ _ _)))); with_reducible (first | dsimp only | ((ks_step "exec Return"; k_dflt (refine ks_wpAt_Return_some ?_))) | ((ks_step "eval Call"; k_dflt (refine ks_wpAt_MethodCall ?_))) | ((ks_step "exec Expr"; k_dflt (refine ks_wpAt_Expr_any ?_))) | fail "none")) | (k_end; kc_close) | walk1 | (dsimp only; walk1) | (leave1; (try dsimp only)) | fail "no step")
  · omega
  · exact hret _ _ _ (by assumption) (news_drop2 (news_drop2 (by assumption)))
theorem r_popE : ∀ (w : World) (p : Program) (loose : List Str) (mean : ExcName → Option Value) (mg mb : Str → Option Value)
   (dp un : Nat) (gd : Option (List Code)) (cn : Str) (cs : Scope) (a : Addr) (ccd : Value) (cl : List (Str × Addr)) (outer : List Env) (A₀ : Around) (base h₀ : Heap) (L : Addr) (m : Str → Option Value) (s : Shared) (Q E : Value → Shared → Prop)
   (news : List (Addr × Obj)) (r dr : Addr) (n : Nat) (t1 t2 : Tok)
   (B : Below A₀ base outer h₀) (F : Fr h₀ L s.heap m) (X : (hd.heap_1 w.params).In h₀) (Z : ZIn w h₀) (N : News h₀ L s.heap ((r, rowOf dr [] n) :: (dr, initOf w t1 t2) :: news)) (T : Top p loose mean mg mb h₀) (hk : cs.kind = .function)
   (hne : ∀ p ∈ news, @Ne Nat p.1 r) (hdr : @Ne Nat dr r)
   (hdp : dp ≤ 305) (hun : un ≤ 20)
   (hret : ∀ D ta tb h' tk', Fr h₀ L h' m → News h₀ L h' ((D, tupOf [.str (Str.ofString "") ta, .str (Str.ofString "") tb]) :: (r, rowOf dr [] n) :: (dr, initOf w t1 t2) :: news) → Q (.ref D) { s with heap := h', toks := tk' }),
   wpAny (model Challenge.rw_yh0009_01.row.prog w) (ktrTop dp un gd cn cs L a ccd cl outer) (call (.ref 98) [.ref r]) Q E s := by
  k_fill
  intro w p loose mean mg mb dp un gd cn cs a ccd cl outer A₀ base h₀ L m s Q E news r dr n t1 t2 B F X Z N T hk hne hdr hdp hun hret
  refine weaken (A' := ktrTop 305 20 gd cn cs L a ccd cl outer) rfl hdp rfl rfl hun ?_
  refine wpAny_call ?_
  k_dflt (((refine' ks_code_super ?k1 ?k2 ?k3 ?k4 ?k5 ?kA ?kF ?kK ?k6 ?k7 ?k8 ?k9 ?kB ?_ ?c1 ?c2 ?c3 ?c4; (case kA => exact rfl); (case kF => exact rfl); (case kK => first | exact rfl | assumption); (case k1 => k_asm); (case k2 => k_asm); (case k3 => k_asm); (case k4 => k_asm); (case k5 => k_asm); (case k6 => k_is); (case k7 => k_is); (case k8 => k_room); (case k9 => first | exact BindsTo.of_eq rfl | exact binds_K (by k_in) rfl (by k_is) rfl rfl rfl); (case kB => exact locs rfl); (case c1 => decide); (case c2 => exact rfl); (case c3 => exact rfl); (case c4 => exact rfl); intro g' L' h' FG' F' N' B' X' T' l1; (try k_lt l1); (try dsimp only); (try k_lift B'))))
  repeat' (first | (k_unfold; (try dsimp only)) | ((with_reducible show wpAny _ _ (call _ _ _) _ _ _); with_reducible (first | ((with_reducible show wpAny _ _ (call (Value.builtin "list.append") _ _) _ _ _); ((k_here; k_dflt (refine' row_appendK ?k1 ?k2 ?k3 ?k4 ?k5 ?k6 ?k7 ?_; (case k1 => k_asm); (case k2 => k_asm); (case k3 => k_asm); (case k4 => k_is); (case k5 => k_mem); (case k6 => first | assumption | exact Nat.le_of_ble_eq_true rfl); (case k7 => k_upd); k_whole); intro h' F' N'; (try k_sweep)))) | ((with_reducible show wpAny _ _ (call (Value.ref _) _ _) _ _ _); ((k_here; k_dflt (first | (refine' bound_lenK ?k1 ?k2 ?k3 ?_; (case k1 => k_asm); (case k2 => k_mem); (case k3 => k_mem); k_whole) | (refine' bound_initK ?k1 ?k2 ?k3 ?k4 ?k5 ?_; (case k1 => k_asm); (case k2 => k_asm); (case k3 => k_mem); (case k4 => k_mem); (case k5 => k_upd); k_whole; intro h' F' N'; (try k_sweep)) | (refine' bound_popK ?k1 ?k2 ?k3 ?k4 ?k5 ?k6 ?k7 ?k8 ?k9 ?k10 ?k11 ?_; (case k1 => k_asm); (case k2 => k_asm); (case k3 => k_asm); (case k4 => k_is); (case k5 => k_is); (case k6 => rfl); (case k7 => k_is); (case k8 => k_mem); (case k9 => k_mem); (case k10 => first | assumption | exact Nat.le_of_ble_eq_true rfl); (case k11 => k_upd); k_whole; intro h' F' N'; (try k_sweep)))))) | fail "none")) | (with_reducible ((with_reducible show wpAny _ _ (getMethod (Value.ref _) _ _) _ _ _); ((k_here; k_dflt (refine' method_rowK ?k2 ?k3 ?k4 ?k5 ?k6 ?k7 ?k8 ?k9 ?_; (case k2 => k_in); (case k3 => k_inst); (case k4 => k_is); (case k5 => k_is); (case k6 => k_is); (case k7 => k_is); (case k8 => decide +kernel); (case k9 => k_get); k_whole))))) | (with_reducible ((with_reducible show wpAny _ _ (callWith _ (Value.ref _) _ _ _) _ _ _); ((k_here; k_dflt ((refine' callWith_B0 ?k1 ?k2 ?k3 ?_; (case k1 => k_asm); (case k2 => k_mem); (case k3 => first | exact .inl rfl | exact .inr rfl); k_whole); (try dsimp only [List.nil_append, List.cons_append])))))) | (with_reducible ((with_reducible show wpAny _ _ (getMethod (Value.ref _) _ _) _ _ _); ((k_here; k_dflt (first | (refine' sup_any (id := "list.__init__") ?k1 ?k2 ?k3 ?k4 ?k5 ?k6 ?k7 ?k8 ?k9 ?k10 ?k11 ?k12 ?k13 ty_init get_wrap ?k14 (get_init _) ?_; (case k1 => k_asm); (case k2 => k_asm); (case k3 => (first | assumption | exact ZIn.keeps (by assumption) (Fr.keep (by assumption)) | exact ZIn.keeps (ZIn.keeps (by assumption) (Fr.keep (by assumption))) (Fr.keep (by assumption)))); (case k4 => k_asm); (case k5 => k_mem); (case k6 => k_inst); (case k7 => rfl); (case k8 => exact Nat.le_of_ble_eq_true rfl); (case k9 => exact Nat.le_of_ble_eq_true rfl); (case k10 => k_is); (case k11 => k_is); (case k12 => rfl); (case k13 => ks_is); (case k14 => decide); k_whole) | (refine' sup_any (id := "list.__len__") ?k1 ?k2 ?k3 ?k4 ?k5 ?k6 ?k7 ?k8 ?k9 ?k10 ?k11 ?k12 ?k13 ty_len get_wrap ?k14 (get_len _) ?_; (case k1 => k_asm); (case k2 => k_asm); (case k3 => (first | assumption | exact ZIn.keeps (by assumption) (Fr.keep (by assumption)) | exact ZIn.keeps (ZIn.keeps (by assumption) (Fr.keep (by assumption))) (Fr.keep (by assumption)))); (case k4 => k_asm); (case k5 => k_mem); (case k6 => k_inst); (case k7 => rfl); (case k8 => exact Nat.le_of_ble_eq_true rfl); (case k9 => exact Nat.le_of_ble_eq_true rfl); (case k10 => k_is); (case k11 => k_is); (case k12 => rfl); (case k13 => ks_is); (case k14 => decide); k_whole) | (refine' sup_any (id := "list.pop") ?k1 ?k2 ?k3 ?k4 ?k5 ?k6 ?k7 ?k8 ?k9 ?k10 ?k11 ?k12 ?k13 ty_pop get_meth ?k14 (get_pop _) ?_; (case k1 => k_asm); (case k2 => k_asm); (case k3 => (first | assumption | exact ZIn.keeps (by assumption) (Fr.keep (by assumption)) | exact ZIn.keeps (ZIn.keeps (by assumption) (Fr.keep (by assumption))) (Fr.keep (by assumption)))); (case k4 => k_asm); (case k5 => k_mem); (case k6 => k_inst); (case k7 => rfl); (case k8 => exact Nat.le_of_ble_eq_true rfl); (case k9 => exact Nat.le_of_ble_eq_true rfl); (case k10 => k_is); (case k11 => k_is); (case k12 => rfl); (case k13 => ks_is); (case k14 => decide); k_whole)); intro q' h' t' F' N' e'; (try k_sweep))))) | (with_reducible ((with_reducible show wpAny _ _ (setAttr (Value.ref _) _ _) _ _ _); ((k_here; k_dflt ((refine' set_row ?k1 ?k2 ?k3 ?k4 ?k5 ?k6 ?k7 ?k8 ?k9 ?k10 ?k11 ?k12 ?k13 ?k14 ?_; (case k1 => k_asm); (case k2 => k_asm); (case k3 => k_asm); (case k4 => k_is); (case k5 => rfl); (case k6 => rfl); (case k7 => k_inst); (case k8 => exact rfl); (case k9 => k_is); (case k10 => k_is); (case k11 => k_get); (case k12 => k_put); (case k13 => k_upd); (case k14 => exact Nat.le_of_ble_eq_true rfl); k_whole); intro h' F' N'; (try k_sweep); (try dsimp only)))))) | ((fail_if_success (fail_if_success (first | (with_reducible show PySem.wpAt _ _ _ _ _ _ _) | (with_reducible show PyProof.Rows.wpAt _ _ _ _ _ _ _)))); with_reducible (first | dsimp only | ((ks_step "exec Return"; k_dflt (refine ks_wpAt_Return_some ?_))) | ((ks_step "eval Call"; k_dflt (refine ks_wpAt_MethodCall ?_))) | ((ks_step "exec Expr"; k_dflt (refine ks_wpAt_Expr_any ?_))) | fail "none")) | (k_end; kc_close) | walk1 | (dsimp only; walk1) | (leave1; (try dsimp only)) | fail "no step")
  exact hret _ _ _ _ _ (by assumption) (news_mid2 (by assumption))
end Mine
end
local macro_rules | `(tactic| k_inst) => `(tactic| (refine' Mine.inst_row ?N ?h1 ?h2; (case N => k_asm); (case h1 => k_mem); (case h2 => k_mem)))
local macro_rules | `(tactic| k_all) => `(tactic| assumption)
section
open PySem PySem.W PySem.W.X PySem.Spec PySem.Calls PyProof.Rows
set_option Elab.async false
set_option maxRecDepth 100000
set_option maxHeartbeats 8000000
namespace Mine
noncomputable abbrev litOf (r : Addr) : Obj := { cls := .type "list_iterator", data := .fields #[.ref r, .int 0 0] }
section
set_option hygiene false in
local macro_rules | `(tactic| x_close) => `(tactic| exact hQ _ _ _ (by assumption))
theorem call_iter (w : World) (s : Shared) (X : (KF w.params).In s.heap) {r dr : Addr} {a : Array Value} {n : Nat} (hd : s.heap.get? r = some ⟨.ref 138, some dr, .seq a n, #[]⟩) (fr : Option (List Env)) (gd : Option (List Code)) (Q E : Value → Shared → Prop)
    (hQ : ∀ b h t, Mem s.heap h [] [(b, litOf r)] → Q (.ref b) ⟨h, s.gens, s.drawn, t, s.os⟩) :
    wpAny (model Challenge.rw_yh0009_01.row.prog w) { handled := none, depth := 320, frames := fr, guards := gd, units := 90 } (call (.builtin "list.__iter__") [.ref r]) Q E s := by
  x_run
end
section
variable {w : World} {A : Around} {E : Value → Shared → Prop} {s : Shared} {K : Frag} {r dr L : Addr} {h₀ : Heap} {m : Str → Option Value} {news : List (Addr × Obj)} {xs : List Value} {n : Nat} {od : Option Obj} {Q : Value → Shared → Prop}
theorem iter_row (F : Fr h₀ L s.heap m) (X₀ : K.In h₀) (Z : ZIn w h₀) (N : News h₀ L s.heap news) (hr : s.heap.get? r = some (rowOf dr xs n))
    (hh : A.handled = none) (hd : A.depth ≤ 320) (hu : A.units ≤ 90) (hit : findIn K (.ref 138) "__iter__" = some (some (.builtin "list.__iter__")))
    (h : ∀ q h' tk, Fr h₀ L h' m → News h₀ L h' ((q, litOf r) :: news) → s.heap.get? q = none → (∀ b o, s.heap.get? b = some o → h'.get? b = some o) → Q (.ref q) { s with heap := h', toks := tk }) :
    wpAny (model P w) A (pyIter (.ref r)) Q E s := by
  have X := X₀.keeps F.keep
  have Lt : Looks (model P w) s.heap (typeOf (.ref r)) (.ref 138) := (Looks.ld (part := none) hr).andThen .now
  have Li := looks_findIn (M := model P w) X hit
  unfold pyIter specialOf
  refine wpAny_bind (wpAny_bind (Lt.here (Li.here ?_)))
  show wpAny _ _ (callSpecialIfBoundUnlessNone? (.ref r) "__iter__" _ >>= _) _ _ _
  refine wpAny_bind ?_
  simp only [callSpecialIfBoundUnlessNone?, bindSpecialIfBound?, specialOf]
  refine wpAny_holding (wpAny_bind (wpAny_bind (wpAny_bind (Lt.here (Li.here ?_)))))
  simp only [slot_list_iter.bind]
  have fin : wpAny (model P w) A (if (Value.builtin "list.__iter__" == Value.none) = true then (do rule "iter.none"; raiseError "TypeError" s!"'{← typeNameOf (.ref r)}' object is not iterable" : Sem Value) >>= fun v => pure (some v) else (call (.builtin "list.__iter__") [.ref r] >>= fun v => pure (some v)))
      (fun a s' => wpAny (model P w) A (match a with
        | some it => do
          let __do_lift ← specialOf it "__next__"
          match __do_lift with
            | none => do rule "iter.non-iterator"; raiseError "TypeError" s!"iter() returned non-iterator of type '{← typeNameOf it}'"
            | some _ => pure it
        | none => do
          match ← bindSpecialIfBound? (.ref r) "__getitem__" with
          | none => rule "iter.not-iterable"; raiseError "TypeError" s!"'{← typeNameOf (.ref r)}' object is not iterable"
          | some _ => rule "iter.getitem-fallback"; newFields "iterator" [.ref r, ← mkInt 0]) Q E s') E s := by
    rw [if_neg (by decide)]
    refine wpAny_bind ?_
    refine to_lit (A := A) hh hd hu ?_
    refine call_iter w s (Z.z.keeps F.keep) hr _ _ _ _ fun b h' t' D => ?_
    refine wpAny_pure (wpAny_bind ?_)
    have N' := mem_news D F N
    have hb : h'.get? b = some (litOf r) := (D.nw _ (.head _)).1
    refine wpAny_specialOf (T := "list_iterator") ⟨_, hb, rfl⟩ slot_listiter_next.lookup ?_
    exact wpAny_pure (h b h' t' (mem_fr D F) N' (D.nw _ (.head _)).2 fun b o e => mem_keep D e)
  refine wpAny_bind (wpAny_askSetting (wpAny_ite ?_))
  split
  · exact wpAny_bind (wpAny_pure (wpAny_pure fin))
  · exact wpAny_tryCatch (wpAny_bind (wpAny_pure (wpAny_pure fin)))
end
end Mine
end
section
open PySem PySem.W PySem.W.X PySem.Spec PySem.Calls PyProof.Rows
set_option Elab.async false
set_option maxRecDepth 100000
set_option maxHeartbeats 8000000
namespace Mine
noncomputable def SeqAt (h : Heap) (a : Addr) (items : Array Value) : Prop := ∃ o n, h.get? a = some o ∧ o.data = .seq items n
theorem SeqAt.keeps {h h' : Heap} {a : Addr} {items : Array Value} (x : SeqAt h a items) (k : ∀ o, h.get? a = some o → h'.get? a = some o) : SeqAt h' a items := let ⟨o, n, e, d⟩ := x; ⟨o, n, k o e, d⟩
section
variable {prog : Program} {w : World} {A : Around} {E : Value → Shared → Prop} {s : Shared} {I r : Addr} {i : Nat} {items : Array Value} {Q : Option Value → Shared → Prop}
theorem row_next {x : Value} (hit : s.heap.IsListIter I r i) (hl : SeqAt s.heap r items) (hx : items[i]? = some x)
    (hQ : ∀ h', h'.IsListIter I r (i + 1) → Heap.SameBut I s.heap h' → Q (some x) { s with heap := h' }) : wpAny (model prog w) A (pyNext (.ref I)) Q E s := by
  obtain ⟨ol, nl, hol, hdl⟩ := hl
  have H := hit
  obtain ⟨o, ho, hc, hd⟩ := hit
  unfold pyNext
  refine wpAny_bind (wpAny_attempt (wpAny_callSpecial?_slot (name := Str.ofString "__next__") H.typeIs slot_listiter_next (wpAny_call_entry slot_listiter_next H.typeIs entry_listiter_next ?_ (args_listiter_next _))))
  show wpAny _ _ (field (.ref I) 0 >>= _) _ _ s
  refine wpAny_bind (wpAny_field ho hd (x := .ref r) rfl ?_)
  show wpAny _ _ (if (Value.ref r == Value.none) = true then _ else _) _ _ s
  rw [if_neg (show ¬ ((Value.ref r == Value.none) = true) from Bool.false_ne_true)]
  show wpAny _ _ (field (.ref I) 1 >>= _) _ _ s
  refine wpAny_bind (wpAny_field ho hd (x := .int i 0) rfl ?_)
  show wpAny _ _ (seqItems? (.ref r) >>= _) _ _ s
  refine wpAny_bind (wpAny_seqItems hol hdl ?_)
  simp only [Int.toNat_natCast, hx]
  refine wpAny_bind (wpAny_setField ho hd (by simp) (wpAny_pure ⟨x, rfl, wpAny_pure (hQ _ ?_ (Heap.SameBut.update ..))⟩))
  refine ⟨_, Heap.get?_update_self _ ho (Obj.isFreed_of_fields (Obj.data_mapFields hd _)), (Obj.cls_mapFields ..).trans hc, ?_⟩
  rw [Obj.data_mapFields hd]; simp [rawInt]
theorem row_stop (hh : A.handled = none) (hit : s.heap.IsListIter I r i) (hl : SeqAt s.heap r items) (hx : items[i]? = none) (hQ : ∀ h', Heap.ExtBut I s.heap h' → Q none { s with heap := h' }) : wpAny (model prog w) A (pyNext (.ref I)) Q E s := by
  obtain ⟨ol, nl, hol, hdl⟩ := hl
  have H := hit
  obtain ⟨o, ho, hc, hd⟩ := hit
  unfold pyNext
  refine wpAny_bind (wpAny_attempt (wpAny_callSpecial?_slot (name := Str.ofString "__next__") H.typeIs slot_listiter_next (wpAny_call_entry slot_listiter_next H.typeIs entry_listiter_next ?_ (args_listiter_next _))))
  show wpAny _ _ (field (.ref I) 0 >>= _) _ _ s
  refine wpAny_bind (wpAny_field ho hd (x := .ref r) rfl ?_)
  show wpAny _ _ (if (Value.ref r == Value.none) = true then _ else _) _ _ s
  rw [if_neg (show ¬ ((Value.ref r == Value.none) = true) from Bool.false_ne_true)]
  show wpAny _ _ (field (.ref I) 1 >>= _) _ _ s
  refine wpAny_bind (wpAny_field ho hd (x := .int i 0) rfl ?_)
  show wpAny _ _ (seqItems? (.ref r) >>= _) _ _ s
  refine wpAny_bind (wpAny_seqItems hol hdl ?_)
  simp only [Int.toNat_natCast, hx]
  refine wpAny_bind (wpAny_rule (wpAny_bind (wpAny_setField ho hd (by simp) ?_)))
  show wpAny _ _ (newExc (.type "StopIteration") [] >>= _) _ _ _
  refine wpAny_bind ?_
  simp only [newExc, newTuple]
  refine wpAny_bind (wpAny_newObj_type ?_ (by size_fits))
  refine wpAny_bind (m := firstArgMember _ _) (wpAny_of_eq (a := Value.none) (by first | rfl | (simp only [firstArgMember]; rfl)) ?_)
  refine wpAny_newObj_type ?_ (by size_fits)
  simp only [raiseNew]
  refine wpAny_bind (wpAny_handled ?_)
  rw [show A.in1.handled = none from hh]
  refine wpAny_bind (wpAny_pure (wpAny_throw ?_))
  refine wpAny_bind (wpAny_isInstance (T := "StopIteration") (b := true) ⟨_, Heap.get?_push_size _ rfl, rfl⟩ isSubtype_stop ?_)
  exact wpAny_pure (hQ _ (((Heap.SameBut.update ..).extBut.push _).push _))
end
theorem row_walk {prog : Program} {w : World} {A : Around} (hh : A.handled = none) (I r : Addr) (hne : r ≠ I) (items : Array Value) (Ts : Nat → Addr) (vals : Nat → Array Value)
    (hit : ∀ j, j < items.size → items[j]? = some (.ref (Ts j))) (hTI : ∀ j, j < items.size → Ts j ≠ I) :
    WalksU prog w A I (I :: r :: (List.range items.size).map Ts) [I] items.size (fun j v => j < items.size ∧ v = vals j)
      (fun j h => h.IsListIter I r j ∧ SeqAt h r items ∧ ∀ k, k < items.size → h.IsTuple (Ts k) (vals k))
      (fun j T h => (j < items.size ∧ T = Ts j) ∧ h.IsListIter I r (j + 1) ∧ SeqAt h r items ∧ ∀ k, k < items.size → h.IsTuple (Ts k) (vals k)) where
  sub := fun b hb => by simp at hb; simp [hb]
  frame := fun _ _ _ st hk => ⟨st.1.at fun o e => hk I (by simp) o e, st.2.1.keeps fun o e => hk r (by simp) o e,
    fun k hk' => (st.2.2 k hk').at fun o e => hk (Ts k) (List.mem_cons_of_mem _ (List.mem_cons_of_mem _ (List.mem_map.mpr ⟨k, List.mem_range.mpr hk', rfl⟩))) o e⟩
  item := fun i s Q E hi st hQ => by
    refine row_next st.1 st.2.1 (x := .ref (Ts i)) (hit i hi) fun h' hit' hs' => ?_
    have tup : ∀ k, k < items.size → h'.IsTuple (Ts k) (vals k) := fun k hk' => (st.2.2 k hk').extBut hs'.extBut (hTI k hk')
    exact hQ (Ts i) (vals i) h' s.toks ⟨hi, rfl⟩ (tup i hi) ⟨⟨hi, rfl⟩, hit', st.2.1.keeps fun o e => hs'.extBut _ o hne e, tup⟩ fun b o hb e => hs'.extBut b o (fun h => hb (by simp [h])) e
  go := fun _ _ _ _ _ s Q _ hm hQ => wpAny_letOwnedTupleGo_listiter hm.2.1 (hQ s.heap hm.2 fun _ _ _ e => e)
  apart := fun j T _ hm hmem => by
    rcases List.mem_cons.mp hmem with e | e
    · exact hTI j hm.1.1 (hm.1.2 ▸ e)
    · cases e
  done := fun s Q E st hQ => row_stop hh st.1 st.2.1 (by simp) fun h' he' => hQ h' s.toks fun b o hb e => he' b o (fun h => hb (by simp [h])) e
  self := fun _ _ _ _ st hQ => wpAny_pyIter_listiter st.1 hQ

section
variable {prog : Program} {w : World} {A : Around} {E : Value → Shared → Prop} {s : Shared}
theorem local_name {env : Env} {x : Str} {pos : Pos} {m : Str → Option Value} {v : Value} {Q : Value → Shared → Prop} (hk : env.scope.kind = .function) (hl : env.kindOf x = some .local) (hn : s.heap.Ns env.locals m) (hv : m x = some v)
    (hd : (x == ("__debug__" : Str)) = false) (h : Q v s) {M : Model} : wpAny M A (eval (.Name x pos) env) Q E s :=
  wpAny_Name (wpAny_loadName_local hk hl hn hv h) hd

theorem elt_row {env : Env} {m mg : Str → Option Value} {p1 p2 p3 p4 p5 p6 : Pos} {k : Nat} {sa sb se : Str} {ta tb te : Tok} {F : Value → Prop} (hk : env.scope.kind = .function) (hg : env.globals = mainGlobals)
    (h1 : env.kindOf "EMPTYSTRING" = some .globalImplicit) (h2 : env.kindOf "fws" = some .local) (h3 : env.kindOf "part" = some .local)
    (hns : s.heap.Ns env.locals m) (hma : m "fws" = some (.str sa ta)) (hmb : m "part" = some (.str sb tb)) (hG : s.heap.Ns mainGlobals mg) (hE : mg "EMPTYSTRING" = some (.str se te))
    (hsa : sa.length ≤ 100) (hsb : sb.length ≤ 100) (hse : se.length ≤ 64) (hF : ∀ t, F (.str (Txt.join se [sa, sb]) t)) (pl : Sem Bool)
    (he : eval (.Call (.Attribute (.Name "EMPTYSTRING" p1) "join" p2) [.Tuple [.Name "fws" p3, .Name "part" p4] k p5] [] p6) env = (do
      let ov ← eval (.Name "EMPTYSTRING" p1) env
      standAt p2.atName
      let (f, first) ← holding [ov] (getMethod ov "join" pl)
      callWith p6 f first (backTo p6 (starEach [.Tuple [.Name "fws" p3, .Name "part" p4] k p5] env)) [])) :
    wpAny (model prog w) A (eval (.Call (.Attribute (.Name "EMPTYSTRING" p1) "join" p2) [.Tuple [.Name "fws" p3, .Name "part" p4] k p5] [] p6) env) (fun y s₃ => F y ∧ Keeps s s₃) E s := by
  refine MethodCall_ (pl := pl) ?_ he
  refine Name_function_global hk h1 (loadGlobal_global (env := env) (by rw [hg]; exact hG) hE ?_) (by decide)
  refine GM.join ?_
  refine callWith_method1 (args_cons (Tuple_ (args_cons (local_name hk h2 hns hma (by decide) (args_cons (local_name hk h3 hns hmb (by decide) (args_nil ?_)))))))
  refine wpAny_newObj_type ?_ (by size_fits)
  refine args_nil ?_
  refine join_tupleC (items := #[.str sa ta, .str sb tb]) (ys := [sa, sb]) ⟨_, Heap.get?_push_size _ rfl, rfl, _, rfl⟩ ?_ hse ?_ ?_
  · exact .cons _ _ (.cons _ _ .nil)
  · simp; omega
  · intro t' k
    exact ⟨hF t', _, _, rfl, fun b o e => Heap.get?_push_of_some _ e⟩
end

section
variable {w : World} {A : Around} {E : Value → Shared → Prop} {s : Shared} {K : Frag} {L : Addr} {h₀ : Heap} {m mg mb : Str → Option Value} {news : List (Addr × Obj)} {p : Program} {loose : List Str} {mean : ExcName → Option Value}
theorem news_tab {P : Addr} {o o' : Obj} {g : Obj → List (Addr × Obj)} {h h' : Heap} (U : UpdF P o news g) (N : News h₀ L h news) (F : Fr h₀ L h m) (hx : Heap.ExtBut P h h') (e : h'.get? P = some o') : Fr h₀ L h' m ∧ News h₀ L h' (g o') := by
  obtain ⟨pre, post, rfl, hg, a, b⟩ := U.split
  have z := N (P, o) (by simp)
  rw [hg]
  refine ⟨⟨F.ns.extBut hx z.2.1.symm, fun b o e => hx b o (fun q => by rw [q, z.2.2] at e; cases e) (F.keep b o e), F.above⟩, fun p hp => ?_⟩
  rw [List.mem_append, List.mem_cons] at hp
  rcases hp with hp | rfl | hp
  · exact ⟨hx _ _ (a p hp) (N p (by simp [hp])).1, (N p (by simp [hp])).2⟩
  · exact ⟨e, z.2⟩
  · exact ⟨hx _ _ (b p hp) (N p (by simp [hp])).1, (N p (by simp [hp])).2⟩
theorem UpdF.mem_new {P : Addr} {o o' : Obj} {g : Obj → List (Addr × Obj)} (U : UpdF P o news g) : ∀ p ∈ g o', p.1 = P ∨ p ∈ news := by
  obtain ⟨pre, post, rfl, hg, a, b⟩ := U.split
  intro p hp
  rw [hg, List.mem_append, List.mem_cons] at hp
  rcases hp with hp | rfl | hp
  · exact .inr (by simp [hp])
  · exact .inl rfl
  · exact .inr (by simp [hp])

noncomputable def GenR (w : World) (A : Around) (a : Addr) (n : Nat) (F : Nat → Value → Prop) (h₀ : Heap) (L : Addr) (news : List (Addr × Obj)) (S : Shared) : Prop :=
  ∃ fp wr g St, WalksS P w A.in4 a fp wr (GenOnlyQ g) n F St ∧ St 0 S ∧ (∀ i s', St i s' → s'.TypeIs (.ref a) "generator") ∧ a ∈ fp ∧ (∀ b ∈ fp, b < S.heap.objs.size) ∧ (∀ b ∈ wr, h₀.get? b = none ∧ L ≠ b ∧ ∀ p ∈ news, p.1 ≠ b)

theorem walks_mono {prog : Program} {I : Addr} {fp wr : List Addr} {G : Array GenState → Array GenState → Prop} {n n' : Nat} {Pa Pb : Nat → Value → Prop} {St : Nat → Shared → Prop} (W : WalksS prog w A I fp wr G n Pa St) (hn : n = n') (h : ∀ i v, Pa i v → Pb i v) : WalksS prog w A I fp wr G n' Pb St := by
  subst hn
  exact ⟨W.sub, W.grefl, W.gtrans, W.frame, fun i s Q E hi hs hQ => W.item i s Q E hi hs fun v s' hv => hQ v s' (h i v hv), W.done, W.self⟩

noncomputable abbrev eltOf (p1 p2 p3 p4 p5 p6 : Pos) (k : Nat) : Expr := .Call (.Attribute (.Name "EMPTYSTRING" p1) "join" p2) [.Tuple [.Name "fws" p3, .Name "part" p4] k p5] [] p6
theorem gen_row {env : Env} {Pt r dr : Addr} {c : Addr} {ps : Array Value} {g : Obj → List (Addr × Obj)} {n q : Nat} {Ts : Nat → Addr} {sa sb : Nat → Str} {ta tb : Nat → Tok} {se : Str} {te : Tok} {sc : Scope}
    {p1 p2 p3 p4 p5 p6 pi pa pb pt pos : Pos} {k kt : Nat} {Q : Value → Shared → Prop}
    (F : Fr h₀ L s.heap m) (X₀ : K.In h₀) (Z : ZIn w h₀) (T : Top p loose mean mg mb h₀) (N : News h₀ L s.heap news)
    (hh : A.handled = none) (hd : A.depth ≤ 320) (hu : A.units ≤ 90) (hroom : A.depth < recursionLimit)
    (hek : env.scope.kind = .function) (hel : env.locals = L) (heg : env.globals = mainGlobals) (hec : env.code = .ref c) (hself : env.kindOf "self" = some .local) (hm : m "self" = some (.ref r))
    (hr : (r, rowOf dr ((List.range n).map fun k => .ref (Ts k)) q) ∈ news) (hT : ∀ k, k < n → (Ts k, tupOf [.str (sa k) (ta k), .str (sb k) (tb k)]) ∈ news)
    (hsa : ∀ k, (sa k).length ≤ 100) (hsb : ∀ k, (sb k).length ≤ 100) (hse : se.length ≤ 64)
    (U : UpdF Pt (tabObj ps) news g) (C : CodeHd h₀ c Pt) (hps : ps = #[] ∨ ∃ c', ps = #[rawInt pos.line, rawInt pos.col, .ref c'])
    (hE : nsIn K mainGlobals "EMPTYSTRING" = some (some (.str se te))) (hit : findIn K (.ref 138) "__iter__" = some (some (.builtin "list.__iter__")))
    (hco : sc.isCoroutine = false) (hclos : closureFor sc env = pure []) (hcell : ∀ y ∈ sc.names, y.2 ≠ .cell) (h0 : sc.names.lookup (".0" : Str) = some NameKind.local)
    (hxa : sc.names.lookup ("fws" : Str) = some NameKind.local) (hxb : sc.names.lookup ("part" : Str) = some NameKind.local) (hxe : sc.names.lookup ("EMPTYSTRING" : Str) = some NameKind.globalImplicit) (hkind : sc.kind = .function)
    (hs : ∀ x, genFold (.Name "self" pi) env x = pure x)
    (he : ∀ C code bi, ∃ pl, eval (eltOf p1 p2 p3 p4 p5 p6 k) (genEnv sc [] C code bi env) = (do
      let ov ← eval (.Name "EMPTYSTRING" p1) (genEnv sc [] C code bi env)
      standAt p2.atName
      let (f, first) ← holding [ov] (getMethod ov "join" pl)
      callWith p6 f first (backTo p6 (starEach [.Tuple [.Name "fws" p3, .Name "part" p4] k p5] (genEnv sc [] C code bi env))) []))
    (h : ∀ a c' h' tk gs, gs.bare = true → Fr h₀ L h' m → News h₀ L h' (g (tabObj #[rawInt pos.line, rawInt pos.col, .ref c'])) →
      GenR w A a n (fun i v => i < n ∧ ∃ t, v = .str (Txt.join se [sa i, sb i]) t) h₀ L (g (tabObj #[rawInt pos.line, rawInt pos.col, .ref c'])) { s with heap := h', toks := tk, gens := s.gens.push gs } →
      Q (.ref a) { s with heap := h', toks := tk, gens := s.gens.push gs }) :
    wpAny (model P w) A (eval (.GeneratorExp (eltOf p1 p2 p3 p4 p5 p6 k) [⟨.Tuple [.Name "fws" pa, .Name "part" pb] kt pt, .Name "self" pi, [], 0⟩] sc pos) env) Q E s := by
  have hT110 := N _ (show (Pt, tabObj ps) ∈ news by obtain ⟨pre, post, rfl, -⟩ := U.split; simp)
  refine wpAny_GeneratorExp_walksQT hh hco hclos hcell h0 hxa hxb (by decide) hkind hroom ?_ hs
  refine local_name hek hself (by rw [hel]; exact F.ns) hm (by decide) ?_
  refine iter_row F X₀ Z N (N _ hr).1 hh hd hu hit fun q₁ h₁ t₁ F₁ N₁ hq₁ k₁ => ?_
  have nl : h₁.NoLimit := T.nolimit.keeps F₁.keep
  refine ⟨nl, ?_⟩
  obtain ⟨bm, ob, b1, b2, b3, b4, b5, b6⟩ := T.bmain
  have ne_of : ∀ {b : Addr} {o : Obj}, h₀.get? b = some o → b ≠ Pt := fun e z => by rw [z, hT110.2.2] at e; cases e
  have hgP : mainGlobals ≠ Pt := by obtain ⟨o, es, ep, e, _⟩ := T.g; exact ne_of e
  have hcP : cStatics ≠ Pt := by obtain ⟨_, hn, _⟩ := T.nolimit; obtain ⟨o, es, ep, e, _⟩ := hn; exact ne_of e
  have hq₁P : Pt ≠ q₁ := fun z => by rw [← z, hT110.1] at hq₁; cases hq₁
  have U₁ : UpdF Pt (tabObj ps) ((q₁, litOf r) :: news) (fun o' => (q₁, litOf r) :: g o') := .tail hq₁P.symm U
  have gen : ∀ (c' : Addr) (h₂ : Heap) (t₂ : Nat), Heap.ExtBut Pt h₁ h₂ → h₁.objs.size ≤ h₂.objs.size → h₂.get? Pt = some (tabObj #[rawInt pos.line, rawInt pos.col, .ref c']) →
      wpAny (model P w) A (builtinsFor env.globals env.builtins) (fun bi s₄ => ∃ I fp wr n₀ Pt St₀ Mid pz F, Value.ref q₁ = .ref I ∧ (∀ A' : Around, A'.handled = none → WalksU P w A' I fp wr n₀ Pt St₀ Mid) ∧ (∀ i vals, Pt i vals → ∃ va vb, vals = #[va, vb]) ∧ St₀ 0 s₄.heap ∧ (∀ b ∈ fp, b < s₄.heap.objs.size) ∧ s₄.heap.NoLimit ∧ cStatics ∉ wr ∧
          (∀ href : Heap, (∀ b o, s₄.heap.get? b = some o → href.get? b = some o) →
            QuietGenT P w (genEnv sc [] s₄.heap.objs.size (.ref c') bi env) "fws" "part" [] (eltOf p1 p2 p3 p4 p5 p6 k) (List.range s₄.heap.objs.size) wr Pt pz F href) ∧
          (∀ a h₅ tk gs, gs.bare = true → s₄.heap.objs.size < a → h₅.objs.size = a + 1 → (∀ b o, s₄.heap.get? b = some o → h₅.get? b = some o) →
            WalksS P w A.in4 a (a :: s₄.heap.objs.size :: List.range s₄.heap.objs.size) (s₄.heap.objs.size :: wr) (GenOnlyQ s₄.gens.size) (passing pz n₀ 0).length
              (fun j y => ∃ i, (passing pz n₀ 0)[j]? = some i ∧ F i y) (GenAt P w A.in4 a s₄.gens.size s₄.heap.objs.size (List.range s₄.heap.objs.size) wr pz n₀ F) →
            GenAt P w A.in4 a s₄.gens.size s₄.heap.objs.size (List.range s₄.heap.objs.size) wr pz n₀ F 0 { s₄ with gens := s₄.gens.push gs, toks := tk, heap := h₅ } →
            Q (.ref a) { s₄ with gens := s₄.gens.push gs, toks := tk, heap := h₅ })) E { s with heap := h₂, toks := t₂ } := by
    intro c' h₂ t₂ hx₂ hsz₂ e₂
    obtain ⟨F₂, N₂⟩ := news_tab U₁ N₁ F₁ hx₂ e₂
    have bm₂ := F₂.keep _ _ b3
    have g₂ : h₂.Ns mainGlobals mg := T.g.keeps F₂.keep
    refine wpAny_builtinsFor (by rw [heg]; exact g₂) b1 b2 bm₂ b4 b5 b6 ?_
    have nl₂ : h₂.NoLimit := T.nolimit.keeps F₂.keep
    have mnew : ∀ p ∈ news, p.1 ≠ Pt → p ∈ (q₁, litOf r) :: g (tabObj #[rawInt pos.line, rawInt pos.col, .ref c']) := fun p hp hne => by
      obtain ⟨pre, post, rfl, hg, a, b⟩ := U.split
      rw [hg]
      rw [List.mem_append, List.mem_cons] at hp
      rcases hp with hp | rfl | hp
      · simp [hp]
      · exact absurd rfl hne
      · simp [hp]
    have neP : ∀ {b : Addr} {o : Obj}, (b, o) ∈ news → o.cls ≠ .none → b ≠ Pt := fun {b o} hb hc z => by
      have e := (N _ hb).1
      dsimp only at e
      rw [z, hT110.1] at e
      exact hc (congrArg Obj.cls (Option.some.inj e)).symm
    have hr₂ : h₂.get? r = some (rowOf dr ((List.range n).map fun k => .ref (Ts k)) q) := (N₂ _ (mnew _ hr (neP hr nofun))).1
    have hT₂ : ∀ k, k < n → h₂.get? (Ts k) = some (tupOf [.str (sa k) (ta k), .str (sb k) (tb k)]) := fun k hk => (N₂ _ (mnew _ (hT k hk) (neP (hT k hk) nofun))).1
    have hq₂ : h₂.get? q₁ = some (litOf r) := (N₂ _ (.head _)).1
    have hrq : r ≠ q₁ := fun z => by rw [← z, (N _ hr).1] at hq₁; cases hq₁
    have hTq : ∀ k, k < n → Ts k ≠ q₁ := fun k hk z => by rw [← z, (N _ (hT k hk)).1] at hq₁; cases hq₁
    have hsize : ((List.range n).map fun k => Value.ref (Ts k)).toArray.size = n := by simp
    refine ⟨q₁, q₁ :: r :: (List.range ((List.range n).map fun k => Value.ref (Ts k)).toArray.size).map Ts, [q₁], ((List.range n).map fun k => Value.ref (Ts k)).toArray.size, _, _, _, fun _ => true, fun i v => i < n ∧ ∃ t, v = .str (Txt.join se [sa i, sb i]) t, rfl,
      fun A' hA => row_walk hA q₁ r hrq _ Ts (fun k => #[.str (sa k) (ta k), .str (sb k) (tb k)]) (fun j hj => by rw [hsize] at hj; simp [hj]) (fun j hj => hTq j (by rwa [hsize] at hj)), (fun i vals hv => ⟨_, _, hv.2⟩),
      ⟨⟨_, hq₂, rfl, rfl⟩, ⟨_, _, hr₂, rfl⟩, fun j hj => ⟨_, hT₂ j (by rwa [hsize] at hj), rfl, _, rfl⟩⟩, ?_, nl₂, ?_, ?_, ?_⟩
    · intro b hb
      rcases List.mem_cons.mp hb with rfl | hb
      · exact Heap.lt_size hq₂
      · rcases List.mem_cons.mp hb with rfl | hb
        · exact Heap.lt_size hr₂
        · obtain ⟨j, hj, rfl⟩ := List.mem_map.mp hb
          exact Heap.lt_size (hT₂ j (by rw [hsize] at hj; exact List.mem_range.mp hj))
    · intro hm'
      have z : cStatics = q₁ := by simpa using hm'
      obtain ⟨_, hn, _⟩ := T.nolimit
      obtain ⟨o, es, ep, e, _⟩ := hn
      have := F.keep _ _ e
      rw [z, hq₁] at this; cases this
    · intro href hk
      refine ⟨fun A' E' i va vb s₂ m₂ _ _ _ _ _ _ => wpAny_pure ⟨rfl, _, _, rfl, fun _ _ e => e⟩, fun A' E' i va vb s₂ m₂ hA hv _ hns ha hb hkp => ?_⟩
      obtain ⟨hi, hv⟩ := hv
      rw [hsize] at hi
      have hva : va = .str (sa i) (ta i) := by have := congrArg (fun a : Array Value => a[0]?) hv; simpa using this
      have hvb : vb = .str (sb i) (tb i) := by have := congrArg (fun a : Array Value => a[1]?) hv; simpa using this
      subst hva hvb
      obtain ⟨pl, hpl⟩ := he h₂.objs.size (.ref c') builtinsNs
      obtain ⟨o, es, ep, e, gr⟩ := g₂
      have eg : s₂.heap.Ns mainGlobals mg := ⟨o, es, ep, hkp _ (List.mem_range.mpr (Heap.lt_size e)) (fun z => by
        have z : mainGlobals = q₁ := by simpa using z
        obtain ⟨o', _, _, e', _⟩ := T.g
        have := F.keep _ _ e'
        rw [z, hq₁] at this; cases this) _ (hk _ _ e), gr⟩
      exact elt_row hkind heg hxe hxa hxb hns ha hb eg (mg_of X₀ T.g hE) (hsa i) (hsb i) hse (fun t => ⟨hi, t, rfl⟩) pl hpl
    · intro a h₅ tk gs hgs hag hsz₅ hk₅ W hat
      have hps' : passing (fun _ => true) ((List.range n).map fun k => Value.ref (Ts k)).toArray.size 0 = List.range n := by
        unfold passing
        rw [hsize]
        simp
      rw [hps'] at W
      have F₅ : Fr h₀ L h₅ m := F₂.keeps hk₅
      have N₅ : News h₀ L h₅ (g (tabObj #[rawInt pos.line, rawInt pos.col, .ref c'])) := news_drop1 (N₂.keeps hk₅)
      refine h a c' h₅ tk gs hgs F₅ N₅ ⟨_, _, _, _, walks_mono W (by simp) (fun i v hv => ?_), hat, fun i s' st => st.1.typeIs, List.mem_cons_self, ?_, ?_⟩
      · obtain ⟨j, hj, hF⟩ := hv
        have : i = j := by
          by_cases hi : i < n
          · simpa [hi] using hj
          · simp [hi] at hj
        subst this
        exact hF
      · intro b hb
        show b < h₅.objs.size
        rw [hsz₅]
        rcases List.mem_cons.mp hb with rfl | hb
        · exact Nat.lt_succ_self _
        · rcases List.mem_cons.mp hb with rfl | hb
          · exact Nat.lt_succ_of_lt hag
          · exact Nat.lt_succ_of_lt (Nat.lt_trans (List.mem_range.mp hb) hag)
      · intro b hb
        rcases List.mem_cons.mp hb with rfl | hb
        · refine ⟨?_, ?_, fun p hp z => ?_⟩
          · cases z : h₀.get? h₂.objs.size with
            | none => rfl
            | some o => exact absurd (Heap.lt_size (F₂.keep _ _ z)) (Nat.lt_irrefl _)
          · intro z
            have := F₂.ns.lt
            rw [z] at this
            exact Nat.lt_irrefl _ this
          · have := Heap.lt_size (N₂ p (.tail _ hp)).1
            rw [z] at this
            exact Nat.lt_irrefl _ this
        · have hb : b = q₁ := by simpa using hb
          subst hb
          refine ⟨?_, ?_, fun p hp z => ?_⟩
          · cases z : h₀.get? b with
            | none => rfl
            | some o => have := F.keep _ _ z; rw [hq₁] at this; cases this
          · intro z
            obtain ⟨o, es, ep, e, _⟩ := F.ns
            rw [z, hq₁] at e; cases e
          · rcases UpdF.mem_new U p hp with e | hp
            · exact hq₁P (e.symm.trans z)
            · have := (N p hp).1
              rw [z, hq₁] at this; cases this
  rcases hps with rfl | ⟨c', rfl⟩
  · have e₁ := (N₁ _ (show (Pt, tabObj #[]) ∈ _ from by obtain ⟨pre, post, rfl, -⟩ := U.split; simp)).1
    refine wpAny_genexprCodeX (ps := #[]) hec ((C.keeps F₁.keep).code e₁ (by trivial)) ((C.keeps F₁.keep).tab e₁) rfl fun c' h₂ tk₂ hx₂ hge hlt hcode₂ _ htab₂ _ => ?_
    · exact gen c' h₂ _ hx₂ (Nat.le_trans hge (Nat.le_of_lt hlt)) htab₂.2
  · have e₁ := (N₁ _ (show (Pt, tabObj #[rawInt pos.line, rawInt pos.col, .ref c']) ∈ _ from by obtain ⟨pre, post, rfl, -⟩ := U.split; simp)).1
    refine wpAny_genexprCode_hit hec ((C.keeps F₁.keep).code e₁ ?_) ?_ (gen c' _ _ (fun _ _ _ e => e) (Nat.le_refl _) e₁)
    · trivial
    · simp [codeAmong, rawInt]

theorem join_row {a : Addr} {n : Nat} {Fp : Nat → Value → Prop} {sep : Str} {t : Tok} {tx : Nat → Str} {Q : Value → Shared → Prop} (F : Fr h₀ L s.heap m) (N : News h₀ L s.heap news) (X : GenR w A a n Fp h₀ L news s)
    (htx : ∀ j v, Fp j v → ∃ u, v = .str (tx j) u) (hok : JoinOk sep ((List.range n).map tx) = true) (hsz : n ≤ sizeLine)
    (hQ : ∀ h' g' tk t', Fr h₀ L h' m → News h₀ L h' news → (AllBare s.gens → AllBare g') → Q (.str (Txt.join sep ((List.range n).map tx)) t') { s with heap := h', gens := g', toks := tk }) :
    wpAny (model P w) A (call (.builtin "str.join") [.str sep t, .ref a]) Q E s := by
  obtain ⟨fp, wr, g, St, W, hst, hT, ha, hfp, hwr⟩ := X
  refine SC.joinGen W.in4_2 hT hst hfp ha (fun j v hv => let ⟨u, e⟩ := htx j v hv; ⟨_, u, e⟩) (fun s' lt hm hacc => ?_) hsz
  have hl : lt.map (·.1) = (List.range n).map tx := by
    apply List.ext_getElem?
    intro j
    have hsz : lt.length = n := by simpa [strValues] using hacc.1
    by_cases hj : j < n
    · have hj' : j < lt.length := hsz ▸ hj
      obtain ⟨u, hv⟩ := htx j _ (hacc.2 j (.str lt[j].1 lt[j].2) (by simp [strValues, List.getElem?_eq_getElem hj']))
      injection hv with h1 _
      simp [List.getElem?_eq_getElem hj', hj, h1]
    · rw [List.getElem?_eq_none (by simpa [hsz] using Nat.le_of_not_lt hj), List.getElem?_eq_none (by simpa using Nat.le_of_not_lt hj)]
  rw [hl]
  refine ⟨hok, fun t' k => ?_⟩
  obtain ⟨H, G, D, TT, O⟩ := s'
  have hd : D = s.drawn := hm.drawn
  have ho : O = s.os := hm.os
  subst hd ho
  have F' : Fr h₀ L H m := ⟨F.ns.at' fun o e => hm.heap _ _ (fun z => (hwr _ z).2.1 rfl) e, fun b o e => hm.heap _ _ (fun z => by have := (hwr _ z).1; rw [e] at this; cases this) (F.keep b o e), F.above⟩
  refine hQ H G k t' F' (fun p hp => ⟨hm.heap _ _ (fun z => (hwr _ z).2.2 p hp rfl) (N p hp).1, (N p hp).2⟩) fun hb => hb.movedS hm
end
end Mine
end
section
open PySem PySem.W PySem.W.X PySem.Spec PySem.Calls PyProof.Rows
set_option Elab.async false
set_option maxRecDepth 100000
set_option maxHeartbeats 8000000
namespace Mine
theorem codeHd_of {K : Frag} {h : Heap} {c P : Addr} {vs : Array Value} {od : Option Addr} {sl : Array (Option Value)} {file : Str} {tf tg tt : Tok} {flags text : Int} {inF : Bool} (X : K.In h) (e : K.lookup c = some ⟨.type "code", od, .fields vs, sl⟩)
   (h1 : vs[11]? = some (.ref P)) (h3 : vs[18]? = some (.str file tf)) (h4 : vs[7]? = some (.int flags tg)) (h5 : vs[9]? = some (.bool inF)) (h6 : vs[10]? = some (.int text tt)) (h7 : c ≠ P) : CodeHd h c P :=
  ⟨_, vs, file, tf, flags, tg, inF, text, tt, X _ _ e, rfl, rfl, h1, by simp [Array.getD_eq_getD_getElem?, h1], by simp [Array.getD_eq_getD_getElem?, h3], by simp [Array.getD_eq_getD_getElem?, h4], by simp [Array.getD_eq_getD_getElem?, h5], by simp [Array.getD_eq_getD_getElem?, h6], h7⟩
theorem join_pair (x : Str) : Txt.join (Str.ofString "") [Str.ofString "", x] = x := by
  obtain ⟨⟨l⟩⟩ := x
  show (⟨_⟩ : Str) = ⟨_⟩
  congr 1
  apply Array.ext'
  simp [Str.ofString]
  rfl
theorem joinOk_row (n : Nat) (tx : Nat → Str) (h : ∀ k, (tx k).length ≤ 100) (hn : n ≤ 100) : JoinOk (Str.ofString "") ((List.range n).map tx) = true := by
  apply joinOk_of
  have : ∀ l : List Nat, ((l.map tx).map (·.length)).sum ≤ l.length * 100 := by
    intro l
    induction l with
    | nil => simp
    | cons a r ih => simp only [List.map_cons, List.sum_cons, List.length_cons]; have := h a; omega
  have h1 := this (List.range n)
  rw [List.length_range] at h1
  have h2 : (Str.ofString "").length = 0 := by decide
  rw [h2]
  omega
theorem r_str : ∀ (w : World) (p : Program) (loose : List Str) (mean : ExcName → Option Value) (mg mb : Str → Option Value)
   (dp un : Nat) (gd : Option (List Code)) (cn : Str) (cs : Scope) (a : Addr) (ccd : Value) (cl : List (Str × Addr)) (outer : List Env) (A₀ : Around) (base h₀ : Heap) (L : Addr) (m : Str → Option Value) (s : Shared) (Q E : Value → Shared → Prop)
   (news : List (Addr × Obj)) (g : Obj → List (Addr × Obj)) (r dr : Addr) (n q : Nat) (Ts : Nat → Addr) (sb : Nat → Str) (ta tb : Nat → Tok) (t1 t2 : Tok) (ps : Array Value)
   (B : Below A₀ base outer h₀) (F : Fr h₀ L s.heap m) (X : (hd.heap_1 w.params).In h₀) (Z : ZIn w h₀) (N : News h₀ L s.heap (news)) (T : Top p loose mean mg mb h₀) (hk : cs.kind = .function)
   (hdp : dp ≤ 305) (hun : un ≤ 20)
   (hr : (r, rowOf dr ((List.range n).map fun k => .ref (Ts k)) q) ∈ news) (hdr : (dr, initOf w t1 t2) ∈ news) (hT : ∀ k, k < n → (Ts k, tupOf [.str (Str.ofString "") (ta k), .str (sb k) (tb k)]) ∈ news) (hsb : ∀ k, (sb k).length ≤ 100) (hn : n ≤ 100)
   (U : UpdF 107 (tabObj ps) news g) (hps : ps = #[] ∨ ∃ c', ps = #[rawInt 50, rawInt 32, .ref c'])
   (hret : ∀ c' h' g' tk t', Fr h₀ L h' m → News h₀ L h' (g (tabObj #[rawInt 50, rawInt 32, .ref c'])) → (AllBare s.gens → AllBare g') → Q (.str (Txt.join (Str.ofString "") ((List.range n).map fun i => Txt.join (Str.ofString "") [Str.ofString "", sb i])) t') { s with heap := h', gens := g', toks := tk }),
   wpAny (model Challenge.rw_yh0009_01.row.prog w) (ktrTop dp un gd cn cs L a ccd cl outer) (call (.type "str") [.ref r]) Q E s := by
  k_fill
  intro w p loose mean mg mb dp un gd cn cs a ccd cl outer A₀ base h₀ L m s Q E news g r dr n q Ts sb ta tb t1 t2 ps B F X Z N T hk hdp hun hr hdr hT hsb hn U hps hret
  refine weaken (A' := ktrTop 305 20 gd cn cs L a ccd cl outer) rfl hdp rfl rfl hun ?_
  have I : InstAt s.heap r (rowOf dr ((List.range n).map fun k => .ref (Ts k)) q) 138 (some (initOf w t1 t2)) := inst_row N hr hdr
  k_dflt (refine' kso_call ?k1 ?k2 I ?k4 ?k5 ?_; (case k1 => k_units); (case k2 => k_in); (case k4 => k_is); (case k5 => k_is))
  refine wpAny_call ?_
  k_dflt cell_enter
  repeat' (first | (k_unfold; (try dsimp only)) | ((with_reducible show wpAny _ _ (call _ _ _) _ _ _); with_reducible (first | ((with_reducible show wpAny _ _ (call (Value.builtin "list.append") _ _) _ _ _); ((k_here; k_dflt (refine' row_appendK ?k1 ?k2 ?k3 ?k4 ?k5 ?k6 ?k7 ?_; (case k1 => k_asm); (case k2 => k_asm); (case k3 => k_asm); (case k4 => k_is); (case k5 => k_mem); (case k6 => first | assumption | exact Nat.le_of_ble_eq_true rfl); (case k7 => k_upd); k_whole); intro h' F' N'; (try k_sweep)))) | ((with_reducible show wpAny _ _ (call (Value.ref _) _ _) _ _ _); ((k_here; k_dflt (first | (refine' bound_lenK ?k1 ?k2 ?k3 ?_; (case k1 => k_asm); (case k2 => k_mem); (case k3 => k_mem); k_whole) | (refine' bound_initK ?k1 ?k2 ?k3 ?k4 ?k5 ?_; (case k1 => k_asm); (case k2 => k_asm); (case k3 => k_mem); (case k4 => k_mem); (case k5 => k_upd); k_whole; intro h' F' N'; (try k_sweep)) | (refine' bound_popK ?k1 ?k2 ?k3 ?k4 ?k5 ?k6 ?k7 ?k8 ?k9 ?k10 ?k11 ?_; (case k1 => k_asm); (case k2 => k_asm); (case k3 => k_asm); (case k4 => k_is); (case k5 => k_is); (case k6 => rfl); (case k7 => k_is); (case k8 => k_mem); (case k9 => k_mem); (case k10 => first | assumption | exact Nat.le_of_ble_eq_true rfl); (case k11 => k_upd); k_whole; intro h' F' N'; (try k_sweep)))))) | fail "none")) | (with_reducible ((with_reducible show wpAny _ _ (getMethod (Value.ref _) _ _) _ _ _); ((k_here; k_dflt (refine' method_rowK ?k2 ?k3 ?k4 ?k5 ?k6 ?k7 ?k8 ?k9 ?_; (case k2 => k_in); (case k3 => k_inst); (case k4 => k_is); (case k5 => k_is); (case k6 => k_is); (case k7 => k_is); (case k8 => decide +kernel); (case k9 => k_get); k_whole))))) | (with_reducible ((with_reducible show wpAny _ _ (callWith _ (Value.ref _) _ _ _) _ _ _); ((k_here; k_dflt ((refine' callWith_B0 ?k1 ?k2 ?k3 ?_; (case k1 => k_asm); (case k2 => k_mem); (case k3 => first | exact .inl rfl | exact .inr rfl); k_whole); (try dsimp only [List.nil_append, List.cons_append])))))) | (with_reducible ((with_reducible show wpAny _ _ (getMethod (Value.ref _) _ _) _ _ _); ((k_here; k_dflt (first | (refine' sup_any (id := "list.__init__") ?k1 ?k2 ?k3 ?k4 ?k5 ?k6 ?k7 ?k8 ?k9 ?k10 ?k11 ?k12 ?k13 ty_init get_wrap ?k14 (get_init _) ?_; (case k1 => k_asm); (case k2 => k_asm); (case k3 => (first | assumption | exact ZIn.keeps (by assumption) (Fr.keep (by assumption)) | exact ZIn.keeps (ZIn.keeps (by assumption) (Fr.keep (by assumption))) (Fr.keep (by assumption)))); (case k4 => k_asm); (case k5 => k_mem); (case k6 => k_inst); (case k7 => rfl); (case k8 => exact Nat.le_of_ble_eq_true rfl); (case k9 => exact Nat.le_of_ble_eq_true rfl); (case k10 => k_is); (case k11 => k_is); (case k12 => rfl); (case k13 => ks_is); (case k14 => decide); k_whole) | (refine' sup_any (id := "list.__len__") ?k1 ?k2 ?k3 ?k4 ?k5 ?k6 ?k7 ?k8 ?k9 ?k10 ?k11 ?k12 ?k13 ty_len get_wrap ?k14 (get_len _) ?_; (case k1 => k_asm); (case k2 => k_asm); (case k3 => (first | assumption | exact ZIn.keeps (by assumption) (Fr.keep (by assumption)) | exact ZIn.keeps (ZIn.keeps (by assumption) (Fr.keep (by assumption))) (Fr.keep (by assumption)))); (case k4 => k_asm); (case k5 => k_mem); (case k6 => k_inst); (case k7 => rfl); (case k8 => exact Nat.le_of_ble_eq_true rfl); (case k9 => exact Nat.le_of_ble_eq_true rfl); (case k10 => k_is); (case k11 => k_is); (case k12 => rfl); (case k13 => ks_is); (case k14 => decide); k_whole) | (refine' sup_any (id := "list.pop") ?k1 ?k2 ?k3 ?k4 ?k5 ?k6 ?k7 ?k8 ?k9 ?k10 ?k11 ?k12 ?k13 ty_pop get_meth ?k14 (get_pop _) ?_; (case k1 => k_asm); (case k2 => k_asm); (case k3 => (first | assumption | exact ZIn.keeps (by assumption) (Fr.keep (by assumption)) | exact ZIn.keeps (ZIn.keeps (by assumption) (Fr.keep (by assumption))) (Fr.keep (by assumption)))); (case k4 => k_asm); (case k5 => k_mem); (case k6 => k_inst); (case k7 => rfl); (case k8 => exact Nat.le_of_ble_eq_true rfl); (case k9 => exact Nat.le_of_ble_eq_true rfl); (case k10 => k_is); (case k11 => k_is); (case k12 => rfl); (case k13 => ks_is); (case k14 => decide); k_whole)); intro q' h' t' F' N' e'; (try k_sweep))))) | (with_reducible ((with_reducible show wpAny _ _ (setAttr (Value.ref _) _ _) _ _ _); ((k_here; k_dflt ((refine' set_row ?k1 ?k2 ?k3 ?k4 ?k5 ?k6 ?k7 ?k8 ?k9 ?k10 ?k11 ?k12 ?k13 ?k14 ?_; (case k1 => k_asm); (case k2 => k_asm); (case k3 => k_asm); (case k4 => k_is); (case k5 => rfl); (case k6 => rfl); (case k7 => k_inst); (case k8 => exact rfl); (case k9 => k_is); (case k10 => k_is); (case k11 => k_get); (case k12 => k_put); (case k13 => k_upd); (case k14 => exact Nat.le_of_ble_eq_true rfl); k_whole); intro h' F' N'; (try k_sweep); (try dsimp only)))))) | ((fail_if_success (fail_if_success (first | (with_reducible show PySem.wpAt _ _ _ _ _ _ _) | (with_reducible show PyProof.Rows.wpAt _ _ _ _ _ _ _)))); with_reducible (first | dsimp only | ((ks_step "exec Return"; k_dflt (refine ks_wpAt_Return_some ?_))) | ((ks_step "eval Call"; k_dflt (refine ks_wpAt_MethodCall ?_))) | ((ks_step "exec Expr"; k_dflt (refine ks_wpAt_Expr_any ?_))) | fail "none")) | (k_end; kc_close) | walk1 | (dsimp only; walk1) | (leave1; (try dsimp only)) | fail "no step")
  have C := codeHd_of (c := 111) (P := 107) (by assumption) (by k_is) (by rfl) (by rfl) (by rfl) (by rfl) (by rfl) (by decide)
  k_dflt (refine' gen_row (by assumption) (by assumption) (by (first | assumption | exact ZIn.keeps (by assumption) (Fr.keep (by assumption)) | exact ZIn.keeps (ZIn.keeps (by assumption) (Fr.keep (by assumption))) (Fr.keep (by assumption)))) (by assumption) (by assumption) rfl (Nat.le_of_ble_eq_true rfl) (Nat.le_of_ble_eq_true rfl) (Nat.le_of_ble_eq_true rfl) rfl rfl rfl rfl rfl rfl hr hT (fun _ => Nat.le_of_ble_eq_true rfl) hsb ?e3 U C hps ?e1 ?e2 rfl rfl (by decide) (by decide) (by decide) (by decide) (by decide) rfl (fun _ => rfl) (fun C code bi => ⟨_, rfl⟩) ?_; (case e1 => k_is); (case e2 => k_is); (case e3 => exact Nat.le_of_ble_eq_true rfl))
  intro a' c' h' tk' gs hgs F' N' G'
  repeat' (first | (k_unfold; (try dsimp only)) | ((with_reducible show wpAny _ _ (call _ _ _) _ _ _); with_reducible (first | ((with_reducible show wpAny _ _ (call (Value.builtin "list.append") _ _) _ _ _); ((k_here; k_dflt (refine' row_appendK ?k1 ?k2 ?k3 ?k4 ?k5 ?k6 ?k7 ?_; (case k1 => k_asm); (case k2 => k_asm); (case k3 => k_asm); (case k4 => k_is); (case k5 => k_mem); (case k6 => first | assumption | exact Nat.le_of_ble_eq_true rfl); (case k7 => k_upd); k_whole); intro h' F' N'; (try k_sweep)))) | ((with_reducible show wpAny _ _ (call (Value.ref _) _ _) _ _ _); ((k_here; k_dflt (first | (refine' bound_lenK ?k1 ?k2 ?k3 ?_; (case k1 => k_asm); (case k2 => k_mem); (case k3 => k_mem); k_whole) | (refine' bound_initK ?k1 ?k2 ?k3 ?k4 ?k5 ?_; (case k1 => k_asm); (case k2 => k_asm); (case k3 => k_mem); (case k4 => k_mem); (case k5 => k_upd); k_whole; intro h' F' N'; (try k_sweep)) | (refine' bound_popK ?k1 ?k2 ?k3 ?k4 ?k5 ?k6 ?k7 ?k8 ?k9 ?k10 ?k11 ?_; (case k1 => k_asm); (case k2 => k_asm); (case k3 => k_asm); (case k4 => k_is); (case k5 => k_is); (case k6 => rfl); (case k7 => k_is); (case k8 => k_mem); (case k9 => k_mem); (case k10 => first | assumption | exact Nat.le_of_ble_eq_true rfl); (case k11 => k_upd); k_whole; intro h' F' N'; (try k_sweep)))))) | fail "none")) | (with_reducible ((with_reducible show wpAny _ _ (getMethod (Value.ref _) _ _) _ _ _); ((k_here; k_dflt (refine' method_rowK ?k2 ?k3 ?k4 ?k5 ?k6 ?k7 ?k8 ?k9 ?_; (case k2 => k_in); (case k3 => k_inst); (case k4 => k_is); (case k5 => k_is); (case k6 => k_is); (case k7 => k_is); (case k8 => decide +kernel); (case k9 => k_get); k_whole))))) | (with_reducible ((with_reducible show wpAny _ _ (callWith _ (Value.ref _) _ _ _) _ _ _); ((k_here; k_dflt ((refine' callWith_B0 ?k1 ?k2 ?k3 ?_; (case k1 => k_asm); (case k2 => k_mem); (case k3 => first | exact .inl rfl | exact .inr rfl); k_whole); (try dsimp only [List.nil_append, List.cons_append])))))) | (with_reducible ((with_reducible show wpAny _ _ (getMethod (Value.ref _) _ _) _ _ _); ((k_here; k_dflt (first | (refine' sup_any (id := "list.__init__") ?k1 ?k2 ?k3 ?k4 ?k5 ?k6 ?k7 ?k8 ?k9 ?k10 ?k11 ?k12 ?k13 ty_init get_wrap ?k14 (get_init _) ?_; (case k1 => k_asm); (case k2 => k_asm); (case k3 => (first | assumption | exact ZIn.keeps (by assumption) (Fr.keep (by assumption)) | exact ZIn.keeps (ZIn.keeps (by assumption) (Fr.keep (by assumption))) (Fr.keep (by assumption)))); (case k4 => k_asm); (case k5 => k_mem); (case k6 => k_inst); (case k7 => rfl); (case k8 => exact Nat.le_of_ble_eq_true rfl); (case k9 => exact Nat.le_of_ble_eq_true rfl); (case k10 => k_is); (case k11 => k_is); (case k12 => rfl); (case k13 => ks_is); (case k14 => decide); k_whole) | (refine' sup_any (id := "list.__len__") ?k1 ?k2 ?k3 ?k4 ?k5 ?k6 ?k7 ?k8 ?k9 ?k10 ?k11 ?k12 ?k13 ty_len get_wrap ?k14 (get_len _) ?_; (case k1 => k_asm); (case k2 => k_asm); (case k3 => (first | assumption | exact ZIn.keeps (by assumption) (Fr.keep (by assumption)) | exact ZIn.keeps (ZIn.keeps (by assumption) (Fr.keep (by assumption))) (Fr.keep (by assumption)))); (case k4 => k_asm); (case k5 => k_mem); (case k6 => k_inst); (case k7 => rfl); (case k8 => exact Nat.le_of_ble_eq_true rfl); (case k9 => exact Nat.le_of_ble_eq_true rfl); (case k10 => k_is); (case k11 => k_is); (case k12 => rfl); (case k13 => ks_is); (case k14 => decide); k_whole) | (refine' sup_any (id := "list.pop") ?k1 ?k2 ?k3 ?k4 ?k5 ?k6 ?k7 ?k8 ?k9 ?k10 ?k11 ?k12 ?k13 ty_pop get_meth ?k14 (get_pop _) ?_; (case k1 => k_asm); (case k2 => k_asm); (case k3 => (first | assumption | exact ZIn.keeps (by assumption) (Fr.keep (by assumption)) | exact ZIn.keeps (ZIn.keeps (by assumption) (Fr.keep (by assumption))) (Fr.keep (by assumption)))); (case k4 => k_asm); (case k5 => k_mem); (case k6 => k_inst); (case k7 => rfl); (case k8 => exact Nat.le_of_ble_eq_true rfl); (case k9 => exact Nat.le_of_ble_eq_true rfl); (case k10 => k_is); (case k11 => k_is); (case k12 => rfl); (case k13 => ks_is); (case k14 => decide); k_whole)); intro q' h' t' F' N' e'; (try k_sweep))))) | (with_reducible ((with_reducible show wpAny _ _ (setAttr (Value.ref _) _ _) _ _ _); ((k_here; k_dflt ((refine' set_row ?k1 ?k2 ?k3 ?k4 ?k5 ?k6 ?k7 ?k8 ?k9 ?k10 ?k11 ?k12 ?k13 ?k14 ?_; (case k1 => k_asm); (case k2 => k_asm); (case k3 => k_asm); (case k4 => k_is); (case k5 => rfl); (case k6 => rfl); (case k7 => k_inst); (case k8 => exact rfl); (case k9 => k_is); (case k10 => k_is); (case k11 => k_get); (case k12 => k_put); (case k13 => k_upd); (case k14 => exact Nat.le_of_ble_eq_true rfl); k_whole); intro h' F' N'; (try k_sweep); (try dsimp only)))))) | ((fail_if_success (fail_if_success (first | (with_reducible show PySem.wpAt _ _ _ _ _ _ _) | (with_reducible show PyProof.Rows.wpAt _ _ _ _ _ _ _)))); with_reducible (first | dsimp only | ((ks_step "exec Return"; k_dflt (refine ks_wpAt_Return_some ?_))) | ((ks_step "eval Call"; k_dflt (refine ks_wpAt_MethodCall ?_))) | ((ks_step "exec Expr"; k_dflt (refine ks_wpAt_Expr_any ?_))) | fail "none")) | (k_end; kc_close) | walk1 | (dsimp only; walk1) | (leave1; (try dsimp only)) | fail "no step")
  have hjl : ∀ i, Txt.join (Str.ofString "") [Str.ofString "", sb i] = sb i := fun i => join_pair (sb i)
  refine join_row (tx := fun i => Txt.join (Str.ofString "") [Str.ofString "", sb i]) F' N' G' (fun j v hv => hv.2) (joinOk_row n _ (fun k => by rw [hjl]; exact hsb k) hn) (by size_fits) fun h'' g'' tk'' t'' F'' N'' hb => ?_
  repeat' (first | (k_unfold; (try dsimp only)) | ((with_reducible show wpAny _ _ (call _ _ _) _ _ _); with_reducible (first | ((with_reducible show wpAny _ _ (call (Value.builtin "list.append") _ _) _ _ _); ((k_here; k_dflt (refine' row_appendK ?k1 ?k2 ?k3 ?k4 ?k5 ?k6 ?k7 ?_; (case k1 => k_asm); (case k2 => k_asm); (case k3 => k_asm); (case k4 => k_is); (case k5 => k_mem); (case k6 => first | assumption | exact Nat.le_of_ble_eq_true rfl); (case k7 => k_upd); k_whole); intro h' F' N'; (try k_sweep)))) | ((with_reducible show wpAny _ _ (call (Value.ref _) _ _) _ _ _); ((k_here; k_dflt (first | (refine' bound_lenK ?k1 ?k2 ?k3 ?_; (case k1 => k_asm); (case k2 => k_mem); (case k3 => k_mem); k_whole) | (refine' bound_initK ?k1 ?k2 ?k3 ?k4 ?k5 ?_; (case k1 => k_asm); (case k2 => k_asm); (case k3 => k_mem); (case k4 => k_mem); (case k5 => k_upd); k_whole; intro h' F' N'; (try k_sweep)) | (refine' bound_popK ?k1 ?k2 ?k3 ?k4 ?k5 ?k6 ?k7 ?k8 ?k9 ?k10 ?k11 ?_; (case k1 => k_asm); (case k2 => k_asm); (case k3 => k_asm); (case k4 => k_is); (case k5 => k_is); (case k6 => rfl); (case k7 => k_is); (case k8 => k_mem); (case k9 => k_mem); (case k10 => first | assumption | exact Nat.le_of_ble_eq_true rfl); (case k11 => k_upd); k_whole; intro h' F' N'; (try k_sweep)))))) | fail "none")) | (with_reducible ((with_reducible show wpAny _ _ (getMethod (Value.ref _) _ _) _ _ _); ((k_here; k_dflt (refine' method_rowK ?k2 ?k3 ?k4 ?k5 ?k6 ?k7 ?k8 ?k9 ?_; (case k2 => k_in); (case k3 => k_inst); (case k4 => k_is); (case k5 => k_is); (case k6 => k_is); (case k7 => k_is); (case k8 => decide +kernel); (case k9 => k_get); k_whole))))) | (with_reducible ((with_reducible show wpAny _ _ (callWith _ (Value.ref _) _ _ _) _ _ _); ((k_here; k_dflt ((refine' callWith_B0 ?k1 ?k2 ?k3 ?_; (case k1 => k_asm); (case k2 => k_mem); (case k3 => first | exact .inl rfl | exact .inr rfl); k_whole); (try dsimp only [List.nil_append, List.cons_append])))))) | (with_reducible ((with_reducible show wpAny _ _ (getMethod (Value.ref _) _ _) _ _ _); ((k_here; k_dflt (first | (refine' sup_any (id := "list.__init__") ?k1 ?k2 ?k3 ?k4 ?k5 ?k6 ?k7 ?k8 ?k9 ?k10 ?k11 ?k12 ?k13 ty_init get_wrap ?k14 (get_init _) ?_; (case k1 => k_asm); (case k2 => k_asm); (case k3 => (first | assumption | exact ZIn.keeps (by assumption) (Fr.keep (by assumption)) | exact ZIn.keeps (ZIn.keeps (by assumption) (Fr.keep (by assumption))) (Fr.keep (by assumption)))); (case k4 => k_asm); (case k5 => k_mem); (case k6 => k_inst); (case k7 => rfl); (case k8 => exact Nat.le_of_ble_eq_true rfl); (case k9 => exact Nat.le_of_ble_eq_true rfl); (case k10 => k_is); (case k11 => k_is); (case k12 => rfl); (case k13 => ks_is); (case k14 => decide); k_whole) | (refine' sup_any (id := "list.__len__") ?k1 ?k2 ?k3 ?k4 ?k5 ?k6 ?k7 ?k8 ?k9 ?k10 ?k11 ?k12 ?k13 ty_len get_wrap ?k14 (get_len _) ?_; (case k1 => k_asm); (case k2 => k_asm); (case k3 => (first | assumption | exact ZIn.keeps (by assumption) (Fr.keep (by assumption)) | exact ZIn.keeps (ZIn.keeps (by assumption) (Fr.keep (by assumption))) (Fr.keep (by assumption)))); (case k4 => k_asm); (case k5 => k_mem); (case k6 => k_inst); (case k7 => rfl); (case k8 => exact Nat.le_of_ble_eq_true rfl); (case k9 => exact Nat.le_of_ble_eq_true rfl); (case k10 => k_is); (case k11 => k_is); (case k12 => rfl); (case k13 => ks_is); (case k14 => decide); k_whole) | (refine' sup_any (id := "list.pop") ?k1 ?k2 ?k3 ?k4 ?k5 ?k6 ?k7 ?k8 ?k9 ?k10 ?k11 ?k12 ?k13 ty_pop get_meth ?k14 (get_pop _) ?_; (case k1 => k_asm); (case k2 => k_asm); (case k3 => (first | assumption | exact ZIn.keeps (by assumption) (Fr.keep (by assumption)) | exact ZIn.keeps (ZIn.keeps (by assumption) (Fr.keep (by assumption))) (Fr.keep (by assumption)))); (case k4 => k_asm); (case k5 => k_mem); (case k6 => k_inst); (case k7 => rfl); (case k8 => exact Nat.le_of_ble_eq_true rfl); (case k9 => exact Nat.le_of_ble_eq_true rfl); (case k10 => k_is); (case k11 => k_is); (case k12 => rfl); (case k13 => ks_is); (case k14 => decide); k_whole)); intro q' h' t' F' N' e'; (try k_sweep))))) | (with_reducible ((with_reducible show wpAny _ _ (setAttr (Value.ref _) _ _) _ _ _); ((k_here; k_dflt ((refine' set_row ?k1 ?k2 ?k3 ?k4 ?k5 ?k6 ?k7 ?k8 ?k9 ?k10 ?k11 ?k12 ?k13 ?k14 ?_; (case k1 => k_asm); (case k2 => k_asm); (case k3 => k_asm); (case k4 => k_is); (case k5 => rfl); (case k6 => rfl); (case k7 => k_inst); (case k8 => exact rfl); (case k9 => k_is); (case k10 => k_is); (case k11 => k_get); (case k12 => k_put); (case k13 => k_upd); (case k14 => exact Nat.le_of_ble_eq_true rfl); k_whole); intro h' F' N'; (try k_sweep); (try dsimp only)))))) | ((fail_if_success (fail_if_success (first | (with_reducible show PySem.wpAt _ _ _ _ _ _ _) | (with_reducible show PyProof.Rows.wpAt _ _ _ _ _ _ _)))); with_reducible (first | dsimp only | ((ks_step "exec Return"; k_dflt (refine ks_wpAt_Return_some ?_))) | ((ks_step "eval Call"; k_dflt (refine ks_wpAt_MethodCall ?_))) | ((ks_step "exec Expr"; k_dflt (refine ks_wpAt_Expr_any ?_))) | fail "none")) | (k_end; kc_close) | walk1 | (dsimp only; walk1) | (leave1; (try dsimp only)) | fail "no step")
  exact hret _ _ _ _ _ (by assumption) (by assumption) (fun G => hb (G.push hgs))
end Mine
end
section
open PySem PySem.W PySem.W.X PySem.Spec PySem.Calls PyProof.Rows
set_option Elab.async false
set_option maxRecDepth 100000
set_option maxHeartbeats 8000000
namespace Mine
section
variable {prog : Program} {w : World} {A : Around} {E : Value → Shared → Prop} {s : Shared} {it f d : Addr} {i ep : Nat} {kvs : List (Int × Value)}
theorem vals_item {k : Int} {v : Value} {Q : Option Value → Shared → Prop} (hit : s.heap.IsValIter it d i kvs.length ep) (hm : s.heap.DictAt (intKind prog w) d kvs ep) (hx : kvs[i]? = some (k, v))
    (hQ : ∀ h', h'.IsValIter it d (i + 1) kvs.length ep → Heap.SameBut it s.heap h' → Q (some v) { s with heap := h' }) :
    wpAny (model prog w) A (callSpecial? (.ref it) "__next__") Q E s := by
  have H := hit
  obtain ⟨o, ho, hc, hd⟩ := hit
  have M := hm
  obtain ⟨od, es, hod, hcd, hdd, hk, hp, hn⟩ := hm
  refine wpAny_callSpecial?_slot (name := Str.ofString "__next__") H.typeIs F.slot_dict_valueiterator_next (wpAny_call_entry F.slot_dict_valueiterator_next H.typeIs F.entry_dict_valueiterator_next ?_ (F.args_dict_valueiterator_next_1 _))
  refine wpAny_bind (wpAny_pure (wpAny_bind (wpAny_bind ?_)))
  refine wpAny_bind (wpAny_typeNameOfWhole_valiter H.typeIs (wpAny_pure ?_))
  refine wpAny_bind (wpAny_fieldsOf ho hd ?_)
  have hown : Builtin.Dict_items.ownsTuple "dict_valueiterator" = false := by decide
  simp only [hown, Bool.false_eq_true, if_false]
  show wpAny _ _ (if (Value.ref d == Value.none) = true then _ else _) _ _ s
  rw [if_neg (show ¬ ((Value.ref d == Value.none) = true) from Bool.false_ne_true)]
  refine wpAny_bind (wpAny_pure (wpAny_bind (wpAny_dictEntries hod hdd ?_)))
  have hsz : es.size = kvs.length := by rw [← hp.length]; simp
  rw [if_neg (by rw [hsz]; simp)]
  refine wpAny_bind (wpAny_pure (wpAny_bind (wpAny_dictEpoch hod hdd ?_)))
  rw [if_neg (by simp)]
  refine wpAny_pure ?_
  have hlt : i < kvs.length := by
    rcases Nat.lt_or_ge i kvs.length with h | h
    · exact h
    · simp [List.getElem?_eq_none h] at hx
  have hlt' : i < es.size := by rw [hsz]; exact hlt
  have hval : es[i].val = v := (hp.get? (e := es[i]) (by simp [hlt']) hx).2
  simp only [show ¬ ((i : Int) < 0) from by omega, if_false, Int.toNat_natCast, Array.getElem?_eq_getElem hlt']
  refine wpAny_bind ?_
  refine wpAny_bind (wpAny_typeNameOfWhole_valiter H.typeIs (wpAny_pure ?_))
  refine wpAny_bind (wpAny_isOneOf_valiter H.typeIs ?_)
  show wpAny _ _ (setField (.ref it) 1 (rawInt ((i : Int) + 1)) >>= _) _ _ s
  refine wpAny_bind (wpAny_setField ho hd (by simp) ?_)
  have hit' : (s.heap.update it (Obj.mapFields (·.setIfInBounds 1 (rawInt ((i : Int) + 1))))).IsValIter it d (i + 1) kvs.length ep :=
    ⟨_, Heap.get?_update_self _ ho (Obj.isFreed_of_fields (Obj.data_mapFields hd _)), (Obj.cls_mapFields ..).trans hc, by rw [Obj.data_mapFields hd]; simp [rawInt]⟩
  refine wpAny_bind (wpAny_holding ?_)
  refine wpAny_bind (wpAny_isOneOf_valiter (s := { s with heap := s.heap.update it (Obj.mapFields (·.setIfInBounds 1 (rawInt ((i : Int) + 1)))) }) hit'.typeIs ?_)
  refine wpAny_bind (wpAny_isOneOf_valiter (s := { s with heap := s.heap.update it (Obj.mapFields (·.setIfInBounds 1 (rawInt ((i : Int) + 1)))) }) hit'.typeIs ?_)
  show wpAny _ _ (pure es[i].val) _ _ _
  exact wpAny_pure (wpAny_pure ⟨_, rfl, hval ▸ hQ _ hit' (Heap.SameBut.update ..)⟩)

theorem vals_end {Q : Option Value → Shared → Prop} (hh : A.handled = none) (hit : s.heap.IsValIter it d i kvs.length ep) (hm : s.heap.DictAt (intKind prog w) d kvs ep) (hx : kvs[i]? = none)
    (hQ : ∀ h' x, Heap.ExtBut it s.heap h' → (∃ o, h'.get? x = some o ∧ o.cls = .type "StopIteration") → E (.ref x) { s with heap := h' }) : wpAny (model prog w) A (callSpecial? (.ref it) "__next__") Q E s := by
  have H := hit
  obtain ⟨o, ho, hc, hd⟩ := hit
  have M := hm
  obtain ⟨od, es, hod, hcd, hdd, hk, hp, hn⟩ := hm
  refine wpAny_callSpecial?_slot (name := Str.ofString "__next__") H.typeIs F.slot_dict_valueiterator_next (wpAny_call_entry F.slot_dict_valueiterator_next H.typeIs F.entry_dict_valueiterator_next ?_ (F.args_dict_valueiterator_next_1 _))
  refine wpAny_bind (wpAny_pure (wpAny_bind (wpAny_bind ?_)))
  refine wpAny_bind (wpAny_typeNameOfWhole_valiter H.typeIs (wpAny_pure ?_))
  refine wpAny_bind (wpAny_fieldsOf ho hd ?_)
  have hown : Builtin.Dict_items.ownsTuple "dict_valueiterator" = false := by decide
  simp only [hown, Bool.false_eq_true, if_false]
  show wpAny _ _ (if (Value.ref d == Value.none) = true then _ else _) _ _ s
  rw [if_neg (show ¬ ((Value.ref d == Value.none) = true) from Bool.false_ne_true)]
  refine wpAny_bind (wpAny_pure (wpAny_bind (wpAny_dictEntries hod hdd ?_)))
  have hsz : es.size = kvs.length := by rw [← hp.length]; simp
  rw [if_neg (by rw [hsz]; simp)]
  refine wpAny_bind (wpAny_pure (wpAny_bind (wpAny_dictEpoch hod hdd ?_)))
  rw [if_neg (by simp)]
  refine wpAny_pure ?_
  have hge : es.size ≤ i := by rw [hsz]; simpa using hx
  simp only [show ¬ ((i : Int) < 0) from by omega, if_false, Int.toNat_natCast, Array.getElem?_eq_none hge]
  refine wpAny_bind ?_
  refine wpAny_bind (wpAny_typeNameOfWhole_valiter H.typeIs (wpAny_pure ?_))
  show wpAny _ _ (setField (.ref it) 0 .none >>= _) _ _ s
  refine wpAny_bind (wpAny_setField ho hd (by simp) ?_)
  show wpAny _ _ (newExc (.type "StopIteration") [] >>= _) _ _ _
  refine wpAny_bind ?_
  simp only [newExc, newTuple]
  refine wpAny_bind (wpAny_newObj_type ?_ (by size_fits))
  refine wpAny_bind (m := firstArgMember _ _) (wpAny_of_eq (a := Value.none) (by first | rfl | (simp only [firstArgMember]; rfl)) ?_)
  refine wpAny_newObj_type ?_ (by size_fits)
  simp only [raiseNew]
  refine wpAny_bind (wpAny_handled ?_)
  rw [show A.in1.handled = none from hh]
  refine wpAny_bind (wpAny_pure (wpAny_throw ?_))
  exact hQ _ _ (((Heap.SameBut.update ..).extBut.push _).push _) ⟨_, Heap.get?_push_size _ rfl, rfl⟩
end
end Mine
end
section
open PySem PySem.W PySem.W.X PySem.Spec PySem.Calls PyProof.Rows
set_option Elab.async false
set_option maxRecDepth 100000
set_option maxHeartbeats 8000000
namespace Mine
noncomputable abbrev filtOf (i : Addr) : Obj := { cls := .type "filter", data := .fields #[.none, .ref i] }
theorem slot_filter_next : Slot "filter" "__next__" "filter.__next__" :=
  .of (owner := "filter") (n := "__next__") (by rw [typeLookup_type, builtinLookup_eq_fast]; kernel_rfl) (by decide +kernel) (by decide +kernel) (by decide +kernel)
    (by first | exact .inl (by decide +kernel) | exact .inr (by decide +kernel)) (by rw [isSubtype_type]; kernel_rfl)
theorem slot_filter_iter : Slot "filter" "__iter__" "filter.__iter__" :=
  .of (owner := "filter") (n := "__iter__") (by rw [typeLookup_type, builtinLookup_eq_fast]; kernel_rfl) (by decide +kernel) (by decide +kernel) (by decide +kernel)
    (by first | exact .inl (by decide +kernel) | exact .inr (by decide +kernel)) (by rw [isSubtype_type]; kernel_rfl)
theorem entry_filter_next : entryFor table "filter.__next__" = some Builtin.«filter.__next__» := entryFor_of_tree (by kernel_rfl)
theorem args_filter_next (a : Value) : argsOk "filter.__next__" ⟨[a], []⟩ := by unfold argsOk; kernel_rfl
theorem args_filter_iter (a : Value) : argsOk "filter.__iter__" ⟨[a], []⟩ := by unfold argsOk; kernel_rfl
theorem plain_filter_next : plainId "filter.__next__" = true := by decide +kernel
noncomputable def truthV : Value → Bool
  | .int a _ => a != 0
  | _ => false
noncomputable def IntNone (v : Value) : Prop := v = .none ∨ ∃ a t, v = .int a t
section
variable {prog : Program} {w : World} {A : Around} {E : Value → Shared → Prop} {s : Shared} {it f d : Addr} {i ep : Nat} {kvs : List (Int × Value)}
theorem truth_in {v : Value} {Q : Bool → Shared → Prop} (hv : IntNone v) (h : Q (truthV v) s) : wpAny (model prog w) A (truthy v) Q E s := by
  rcases hv with rfl | ⟨a, t, rfl⟩
  · exact wpAny_pure h
  · exact truthy_int h
theorem filt_code {R : Result → Shared → Prop} (hh : A.handled = none) (hif : it ≠ f) (hdi : d ≠ it) (hall : ∀ kv ∈ kvs, IntNone kv.2) :
    ∀ (k j : Nat) (s : Shared), kvs.length - j = k → s.heap.get? f = some (filtOf it) → s.heap.IsValIter it d j kvs.length ep → s.heap.DictAt (intKind prog w) d kvs ep →
    (∀ c kv h', kvs[c]? = some kv → j ≤ c → truthV kv.2 = true → (∀ x kv, j ≤ x → x < c → kvs[x]? = some kv → truthV kv.2 = false) → h'.IsValIter it d (c + 1) kvs.length ep → Heap.SameBut it s.heap h' → R (.ok (.ret kv.2)) { s with heap := h' }) →
    (∀ h' x, (∀ x kv, j ≤ x → kvs[x]? = some kv → truthV kv.2 = false) → Heap.ExtBut it s.heap h' → (∃ o, h'.get? x = some o ∧ o.cls = .type "StopIteration") → R (.error (.ref x)) { s with heap := h' }) →
    codeAny (model prog w) A (.builtin "filter.__next__" ⟨[.ref f], []⟩) R s := by
  intro k
  induction k with
  | zero =>
    intro j s hk hf hi hd hv he
    have hx : kvs[j]? = none := List.getElem?_eq_none (by omega)
    refine codeAny_builtin entry_filter_next ?_
    rw [Around.under_plainId plain_filter_next _]
    show wpAny _ A.in1 (field (.ref f) 0 >>= _) _ _ s
    refine wpAny_bind (wpAny_field hf rfl (x := .none) rfl ?_)
    show wpAny _ A.in1 (field (.ref f) 1 >>= _) _ _ s
    refine wpAny_bind (wpAny_field hf rfl (x := .ref it) rfl ?_)
    refine wpAny_bind (vals_end (A := A.in1) hh hi hd hx fun h' x hx' hs => he h' x (fun y kv hy hkv => ?_) hx' hs)
    rw [List.getElem?_eq_none (by omega)] at hkv; cases hkv
  | succ k ih =>
    intro j s hk hf hi hd hv he
    have hlt : j < kvs.length := by omega
    refine codeAny_builtin entry_filter_next ?_
    rw [Around.under_plainId plain_filter_next _]
    show wpAny _ A.in1 (field (.ref f) 0 >>= _) _ _ s
    refine wpAny_bind (wpAny_field hf rfl (x := .none) rfl ?_)
    show wpAny _ A.in1 (field (.ref f) 1 >>= _) _ _ s
    refine wpAny_bind (wpAny_field hf rfl (x := .ref it) rfl ?_)
    refine wpAny_bind (vals_item (A := A.in1) hi hd (k := (kvs[j]).1) (v := (kvs[j]).2) (List.getElem?_eq_getElem hlt) fun h' hi' hs => ?_)
    have hf' : h'.get? f = some (filtOf it) := (hs.2 _ (Ne.symm hif)).trans hf
    have hd' : h'.DictAt (intKind prog w) d kvs ep := by obtain ⟨o, es, e, r⟩ := hd; exact ⟨o, es, (hs.2 _ hdi).trans e, r⟩
    show wpAny _ A.in1 (holding _ _ >>= _) _ _ _
    refine wpAny_bind (wpAny_holding ?_)
    show wpAny _ A.in1 (rule _ >>= fun _ => truthy _) _ _ _
    refine wpAny_bind (wpAny_rule (truth_in (hall _ (List.getElem_mem hlt)) ?_))
    cases ht : truthV (kvs[j]).2 with
    | true =>
      exact wpAny_pure (hv j _ h' (List.getElem?_eq_getElem hlt) (Nat.le_refl _) ht (fun x kv hx hx' => by omega) hi' hs)
    | false =>
      refine wpAny_pure ⟨plainId_quiet plain_filter_next _, ih (j + 1) _ (by omega) hf' hi' hd' (fun c kv h'' hc hjc htc hbet hi'' hs' => ?_) (fun h'' x hall' hs' ho => ?_)⟩
      · refine hv c kv h'' hc (by omega) htc (fun x kv' hx hx' e => ?_) hi'' ⟨hs'.1.trans hs.1, fun b hb => (hs'.2 b hb).trans (hs.2 b hb)⟩
        rcases Nat.eq_or_lt_of_le hx with rfl | hx
        · rw [List.getElem?_eq_getElem hlt] at e; cases e; exact ht
        · exact hbet x kv' hx hx' e
      · refine he h'' x (fun y kv' hy e => ?_) (fun b o hb e => hs' b o hb ((hs.2 b hb).trans e)) ho
        rcases Nat.eq_or_lt_of_le hy with rfl | hy
        · rw [List.getElem?_eq_getElem hlt] at e; cases e; exact ht
        · exact hall' y kv' hy e
theorem filt_next {Q : Option Value → Shared → Prop} (hh : A.handled = none) (hif : it ≠ f) (hdi : d ≠ it) (hall : ∀ kv ∈ kvs, IntNone kv.2) (hf : s.heap.get? f = some (filtOf it)) (hi : s.heap.IsValIter it d i kvs.length ep) (hd : s.heap.DictAt (intKind prog w) d kvs ep)
    (hv : ∀ c kv h', kvs[c]? = some kv → i ≤ c → truthV kv.2 = true → (∀ x kv, i ≤ x → x < c → kvs[x]? = some kv → truthV kv.2 = false) → h'.IsValIter it d (c + 1) kvs.length ep → Heap.SameBut it s.heap h' → Q (some kv.2) { s with heap := h' })
    (he : ∀ h', (∀ x kv, i ≤ x → kvs[x]? = some kv → truthV kv.2 = false) → Heap.ExtBut it s.heap h' → Q none { s with heap := h' }) :
    wpAny (model prog w) A (pyNext (.ref f)) Q E s := by
  unfold pyNext
  refine wpAny_bind (wpAny_attempt (wpAny_callSpecial?_slot (name := Str.ofString "__next__") ⟨_, hf, rfl⟩ slot_filter_next ?_))
  refine wpAny_call (codeAny_call_builtin_code (plainId_quiet slot_filter_next.plain _) (slot_filter_next.check _ _ _ _ _ _ _ _ ⟨_, hf, rfl⟩ (args_filter_next _) ?_))
  refine filt_code hh hif hdi hall _ i s rfl hf hi hd (fun c kv h' hc hic ht hb hi' hs => ?_) (fun h' x hb hs ho => ?_)
  · exact wpAny_pure (hv c kv h' hc hic ht hb hi' hs)
  · obtain ⟨o, e, ho⟩ := ho
    exact wpAny_bind (wpAny_isInstance (T := "StopIteration") (b := true) ⟨_, e, ho⟩ isSubtype_stop (wpAny_pure (he h' hb hs)))
end
theorem entry_filter_iter : entryFor table "filter.__iter__" = some Builtin.«dict_keyiterator.__iter__» := entryFor_alias (id' := "dict_keyiterator.__iter__") (by kernel_rfl) rfl (by decide +kernel) (by kernel_rfl)
theorem args_max_kw (a b : Value) : argsOk "max" ⟨[a], [(Str.ofString "default", b)]⟩ := by unfold argsOk; kernel_rfl
theorem bind_max (b : Value) : Builtin.Builtins.bindParams "max" ["key", "default"] 0 ⟨[], [(Str.ofString "default", b)]⟩ = pure [none, some b] := by kernel_rfl
theorem max_name : (toString "max" ++ toString ".loop" : String) = "max.loop" := by decide
noncomputable abbrev loopArgs (f S : Addr) (b : Value) : Args := ⟨[.ref f, .none, .ref S], [("default", b)]⟩
noncomputable abbrev bestOf (xs : List Value) (c : Nat) : Obj := { cls := .type "list", dict := none, data := .seq xs.toArray c, slots := #[] }
section
variable {prog : Program} {w : World} {A : Around} {R : Result → Shared → Prop} {s : Shared} {f S : Addr} {b : Value} {c : Nat}
theorem max_first (hS : s.heap.get? S = some (bestOf [] c))
    (h : wpAny (model prog w) A.in1 (pyNext (.ref f)) (fun r s₁ => match r with
      | none => R (.ok (.ret b)) s₁
      | some v => s₁.heap.get? S = some (bestOf [] c) ∧ ∀ h' c', h'.get? S = some (bestOf [v, v] c') → Heap.SameBut S s₁.heap h' → codeAny (model prog w) A (.builtin "max.loop" (loopArgs f S b)) R { s₁ with heap := h' }) (fun _ _ => False) s) :
    codeAny (model prog w) A (.builtin "max.loop" (loopArgs f S b)) R s := by
  refine codeAny_builtin F.entry_max_loop ?_
  rw [Around.under_plainId F.plain_max_loop _]
  show wpAny _ A.in1 (seqItems? (.ref S) >>= _) _ _ s
  refine wpAny_bind (wpAny_seqItems hS rfl ?_)
  show wpAny _ A.in1 (tryCatch (pyNext (.ref f)) _ >>= _) _ _ s
  refine wpAny_bind (wpAny_tryCatch (wpAny_mono h (fun r s₁ z => ?_) fun _ _ z => z.elim))
  cases r with
  | none => exact wpAny_bind (wpAny_rule (wpAny_pure z))
  | some v =>
    obtain ⟨z1, z2⟩ := z
    show wpAny _ A.in1 (updateSeq S (fun _ => #[v, v]) >>= _) _ _ _
    refine wpAny_bind ?_
    refine wpAny_updateSeq z1 rfl ?_
    rw [max_name]
    exact wpAny_pure ⟨plainId_quiet F.plain_max_loop _, z2 _ _ (Heap.get?_update_self _ z1 rfl) (Heap.SameBut.update ..)⟩
theorem max_again {x : Int} {tx : Tok} (hS : s.heap.get? S = some (bestOf [.int x tx, .int x tx] c))
    (h : wpAny (model prog w) A.in1 (pyNext (.ref f)) (fun r s₁ => match r with
      | none => s₁.heap.get? S = some (bestOf [.int x tx, .int x tx] c) ∧ ∀ h', Heap.SameBut S s₁.heap h' → R (.ok (.ret (.int x tx))) { s₁ with heap := h' }
      | some v => ∃ y ty, v = .int y ty ∧ x < y ∧ s₁.heap.get? S = some (bestOf [.int x tx, .int x tx] c) ∧ ∀ h' c', h'.get? S = some (bestOf [v, v] c') → Heap.SameBut S s₁.heap h' → codeAny (model prog w) A (.builtin "max.loop" (loopArgs f S b)) R { s₁ with heap := h' }) (fun _ _ => False) s) :
    codeAny (model prog w) A (.builtin "max.loop" (loopArgs f S b)) R s := by
  refine codeAny_builtin F.entry_max_loop ?_
  rw [Around.under_plainId F.plain_max_loop _]
  show wpAny _ A.in1 (seqItems? (.ref S) >>= _) _ _ s
  refine wpAny_bind (wpAny_seqItems hS rfl ?_)
  show wpAny _ A.in1 (tryCatch (pyNext (.ref f)) _ >>= _) _ _ s
  refine wpAny_bind (wpAny_tryCatch (wpAny_mono h (fun r s₁ z => ?_) fun _ _ z => z.elim))
  cases r with
  | none =>
    obtain ⟨z1, z2⟩ := z
    show wpAny _ A.in1 (updateSeq S (fun _ => #[]) >>= _) _ _ _
    refine wpAny_bind ?_
    exact wpAny_updateSeq z1 rfl (wpAny_bind (wpAny_letGo (wpAny_pure (z2 _ (Heap.SameBut.update ..)))))
  | some v =>
    obtain ⟨y, ty, rfl, hxy, z1, z2⟩ := z
    show wpAny _ A.in1 (tryCatch (holding [.int y ty, .int y ty] (richCompare .Gt (.int y ty) (.int x tx) >>= _)) _ >>= _) _ _ _
    refine wpAny_bind (wpAny_tryCatch (wpAny_holding (wpAny_bind (richCompare_gives (op := .Gt) (typeIs_int _ _ ty) (typeIs_int _ _ tx) F.slot_int_gt F.entry_int_gt (F.args_int_gt_2 _ _) (gives_int_gt _ _ ty tx) (fun x => nomatch x) ?_))))
    refine wpAny_bind (wpAny_holding (wpAny_truthy_bool ?_))
    refine wpAny_bind (wpAny_letGo (wpAny_pure ?_))
    rw [show decide (y > x) = true from decide_eq_true hxy]
    simp only [if_true]
    refine wpAny_bind ?_
    refine wpAny_updateSeq z1 rfl (wpAny_bind (wpAny_letGo ?_))
    rw [max_name]
    exact wpAny_pure ⟨plainId_quiet F.plain_max_loop _, z2 _ _ (Heap.get?_update_self _ z1 rfl) (Heap.SameBut.update ..)⟩
end
section
variable {prog : Program} {w : World} {A : Around} {E : Value → Shared → Prop} {s : Shared} {f it : Addr} {b : Value}
theorem max_call {Q : Value → Shared → Prop} (hf : s.heap.get? f = some (filtOf it))
    (h : codeAny (model prog w) A (.builtin "max.loop" (loopArgs f s.heap.objs.size b)) (fun r s' => match r with | .ok (.ret v) => Q v s' | .ok _ => False | .error e => E e s') { s with heap := s.heap.push (bestOf [] 0) }) :
    wpAny (model prog w) A (call (.builtin "max") [.ref f] [(Str.ofString "default", b)]) Q E s := by
  refine wpAny_call (codeAny_call_builtin F.plain_max F.entry_max ?_)
  have chk : checkBuiltinCall "max" ⟨[.ref f], [(Str.ofString "default", b)]⟩ = pure () := by
    have e := args_max_kw (.ref f) b
    simp only [checkBuiltinCall, F.kind_max]
    unfold argsOk at e
    exact e
  rw [chk]
  refine wpAny_pure ?_
  show wpAny _ A.in1 (Builtin.Builtins.bindParams "max" ["key", "default"] 0 ⟨[], [(Str.ofString "default", b)]⟩ >>= _) _ _ s
  refine wpAny_bind (wpAny_of_eq (bind_max b) ?_)
  refine wpAny_bind (wpAny_pure ?_)
  refine wpAny_bind (wpAny_pyIter_slot ⟨_, hf, rfl⟩ slot_filter_iter (wpAny_call_entry slot_filter_iter ⟨_, hf, rfl⟩ entry_filter_iter ?_ (args_filter_iter _)))
  show wpAny _ _ (ret (.ref f)) _ _ s
  refine wpAny_pure ⟨_, rfl, "filter", _, ⟨_, hf, rfl⟩, slot_filter_next.lookup, ?_⟩
  refine wpAny_bind (wpAny_newObj_type ?_)
  rw [max_name]
  exact wpAny_pure ⟨plainId_quiet F.plain_max_loop _, h⟩
end
end Mine
end
section
open PySem PySem.W PySem.W.X PySem.Spec PySem.Calls PyProof.Rows
set_option Elab.async false
set_option maxRecDepth 100000
set_option maxHeartbeats 8000000
namespace Mine
section
variable {w : World} {A : Around} {E : Value → Shared → Prop} {s : Shared} {it f d : Addr} {ep : Nat} {q l : Int} {tq tl : Tok} {rest : List (Int × Value)}
theorem max_dict {Q : Value → Shared → Prop} {b : Tok} (hh : A.handled = none) (hif : it ≠ f) (hdi : d ≠ it) (hr : ∀ kv ∈ rest, kv.2 = .none)
    (hf : s.heap.get? f = some (filtOf it)) (hi : s.heap.IsValIter it d 0 ((0, .int q tq) :: (2, .int l tl) :: rest : List (Int × Value)).length ep) (hd : s.heap.DictAt (intKind P w) d ((0, .int q tq) :: (2, .int l tl) :: rest) ep) (h0 : 0 ≤ q) (h1 : 10 * q ≤ l)
    (h : ∀ h' tr, (∀ b o, b ≠ it → s.heap.get? b = some o → h'.get? b = some o) → Q (.int (if l = 0 then -1 else l) tr) { s with heap := h' }) :
    wpAny (model P w) A (call (.builtin "max") [.ref f] [(Str.ofString "default", .int (-1) b)]) Q E s := by
  obtain ⟨H, gg, dd, tt, os⟩ := s
  dsimp only at *
  have hall : ∀ kv ∈ ((0, .int q tq) :: (2, .int l tl) :: rest : List (Int × Value)), IntNone kv.2 := by
    intro kv hkv
    rcases List.mem_cons.mp hkv with rfl | hkv
    · exact .inr ⟨_, _, rfl⟩
    rcases List.mem_cons.mp hkv with rfl | hkv
    · exact .inr ⟨_, _, rfl⟩
    · exact .inl (hr kv hkv)
  have fal : ∀ (c : Nat) (kv : Int × Value), ((0, .int q tq) :: (2, .int l tl) :: rest : List (Int × Value))[c + 2]? = some kv → truthV kv.2 = false := by
    intro c kv e
    have : rest[c]? = some kv := by simpa using e
    rw [hr kv (List.mem_of_getElem? this)]; rfl
  have hSf : f < H.objs.size := Heap.lt_size hf
  have hSi : it < H.objs.size := by obtain ⟨o, e, _⟩ := hi; exact Heap.lt_size e
  have hSd : d < H.objs.size := by obtain ⟨o, es, e, _⟩ := hd; exact Heap.lt_size e
  have stay : ∀ {h' : Heap}, (∀ b, b ≠ it → b ≠ H.objs.size → ∀ o, H.get? b = some o → h'.get? b = some o) → ∀ b o, b ≠ it → H.get? b = some o → h'.get? b = some o :=
    fun k b o hb e => k b hb (Nat.ne_of_lt (Heap.lt_size e)) o e
  refine max_call hf ?_
  have pf : (H.push (bestOf [] 0)).get? f = some (filtOf it) := Heap.get?_push_of_some _ hf
  have pi : (H.push (bestOf [] 0)).IsValIter it d 0 ((0, .int q tq) :: (2, .int l tl) :: rest : List (Int × Value)).length ep := by obtain ⟨o, e, r⟩ := hi; exact ⟨o, Heap.get?_push_of_some _ e, r⟩
  have pd : (H.push (bestOf [] 0)).DictAt (intKind P w) d ((0, .int q tq) :: (2, .int l tl) :: rest) ep := by obtain ⟨o, es, e, r⟩ := hd; exact ⟨o, es, Heap.get?_push_of_some _ e, r⟩
  have pS : (H.push (bestOf [] 0)).get? H.objs.size = some (bestOf [] 0) := Heap.get?_push_size _ rfl
  have pk : ∀ b o, H.get? b = some o → (H.push (bestOf [] 0)).get? b = some o := fun b o e => Heap.get?_push_of_some _ e
  generalize H.push (bestOf [] 0) = H1 at pf pi pd pS pk
  have dmove : ∀ {h h' : Heap}, h.DictAt (intKind P w) d ((0, .int q tq) :: (2, .int l tl) :: rest) ep → (∀ o, h.get? d = some o → h'.get? d = some o) → h'.DictAt (intKind P w) d ((0, .int q tq) :: (2, .int l tl) :: rest) ep :=
    fun ⟨o, es, e, r⟩ k => ⟨o, es, k o e, r⟩
  have imove : ∀ {h h' : Heap} {j : Nat}, h.IsValIter it d j ((0, .int q tq) :: (2, .int l tl) :: rest : List (Int × Value)).length ep → (∀ o, h.get? it = some o → h'.get? it = some o) → h'.IsValIter it d j ((0, .int q tq) :: (2, .int l tl) :: rest : List (Int × Value)).length ep :=
    fun ⟨o, e, r⟩ k => ⟨o, k o e, r⟩
  have hSit : H.objs.size ≠ it := Nat.ne_of_gt hSi
  have hdS : d ≠ H.objs.size := Nat.ne_of_lt hSd
  have hfS : f ≠ H.objs.size := Nat.ne_of_lt hSf
  have hiS : it ≠ H.objs.size := Nat.ne_of_lt hSi
  have last : ∀ (h2 : Heap) (c : Nat) (tl' : Tok), 0 < l → h2.get? H.objs.size = some (bestOf [.int l tl', .int l tl'] c) → h2.get? f = some (filtOf it) → h2.IsValIter it d 2 ((0, .int q tq) :: (2, .int l tl) :: rest : List (Int × Value)).length ep → h2.DictAt (intKind P w) d ((0, .int q tq) :: (2, .int l tl) :: rest) ep →
      (∀ b, b ≠ it → b ≠ H.objs.size → ∀ o, H.get? b = some o → h2.get? b = some o) →
      codeAny (model P w) A (.builtin "max.loop" (loopArgs f H.objs.size (.int (-1) b))) (fun r s' => match r with | .ok (.ret v) => Q v s' | .ok _ => False | .error e => E e s') ⟨h2, gg, dd, tt, os⟩ := by
    intro h2 c tl' hl hS2 hf2 hi2 hd2 hk2
    refine max_again hS2 ?_
    refine filt_next (A := A.in1) hh hif hdi hall hf2 hi2 hd2 (fun c kv h' hc hic ht _ _ _ => ?_) (fun h' _ hs => ?_)
    · obtain ⟨c, rfl⟩ : ∃ c', c = c' + 2 := ⟨c - 2, by omega⟩
      rw [fal c kv hc] at ht; cases ht
    · refine ⟨hs _ _ hSit hS2, fun h3 hs3 => ?_⟩
      have := h h3 tl' (stay fun b hb hbS o e => (hs3.2 b hbS).trans (hs b o hb (hk2 b hb hbS o e)))
      rw [if_neg (by omega)] at this
      exact this
  refine max_first pS ?_
  refine filt_next (A := A.in1) hh hif hdi hall pf pi pd (fun c kv h' hc hic ht hb hi' hs => ?_) (fun h' hb hs => ?_)
  · match c, hc, hb, hi' with
    | 0, hc, hb, hi' =>
      cases hc
      have hq : q ≠ 0 := by simpa [truthV] using ht
      refine ⟨(hs.2 _ hSit).trans pS, fun h2 c' hS2 hs2 => ?_⟩
      refine max_again hS2 ?_
      have hf2 : h2.get? f = some (filtOf it) := (hs2.2 _ hfS).trans ((hs.2 _ (Ne.symm hif)).trans pf)
      have hi2 := imove (h' := h2) hi' fun o e => (hs2.2 _ hiS).trans e
      have hd2 := dmove (h' := h2) pd fun o e => (hs2.2 _ hdS).trans ((hs.2 _ hdi).trans e)
      refine filt_next (A := A.in1) hh hif hdi hall hf2 hi2 hd2 (fun c kv h3 hc hic ht hb hi3 hs3 => ?_) (fun h' hb hs => ?_)
      · match c, hc, hb, hi3 with
        | 0, hc, hb, hi3 => omega
        | 1, hc, hb, hi3 =>
          cases hc
          refine ⟨l, tl, rfl, by omega, (hs3.2 _ hSit).trans hS2, fun h4 c' hS4 hs4 => ?_⟩
          refine last h4 c' tl (by omega) hS4 ((hs4.2 _ hfS).trans ((hs3.2 _ (Ne.symm hif)).trans hf2)) (imove hi3 fun o e => (hs4.2 _ hiS).trans e) (dmove hd2 fun o e => (hs4.2 _ hdS).trans ((hs3.2 _ hdi).trans e)) ?_
          intro b hb hbS o e
          exact (hs4.2 b hbS).trans ((hs3.2 b hb).trans ((hs2.2 b hbS).trans ((hs.2 b hb).trans (pk b o e))))
        | c + 2, hc, hb, hi3 => rw [fal c kv hc] at ht; cases ht
      · have := hb 1 _ (Nat.le_refl _) rfl
        have : l = 0 := by simpa [truthV] using this
        omega
    | 1, hc, hb, hi' =>
      cases hc
      have hl : l ≠ 0 := by simpa [truthV] using ht
      refine ⟨(hs.2 _ hSit).trans pS, fun h2 c' hS2 hs2 => ?_⟩
      refine last h2 c' tl (by omega) hS2 ((hs2.2 _ hfS).trans ((hs.2 _ (Ne.symm hif)).trans pf)) (imove hi' fun o e => (hs2.2 _ hiS).trans e) (dmove pd fun o e => (hs2.2 _ hdS).trans ((hs.2 _ hdi).trans e)) ?_
      intro b hb hbS o e
      exact (hs2.2 b hbS).trans ((hs.2 b hb).trans (pk b o e))
    | c + 2, hc, hb, hi' => rw [fal c kv hc] at ht; cases ht
  · have e1 := hb 1 _ (by omega) rfl
    have : l = 0 := by simpa [truthV] using e1
    have z := h h' b (stay fun x hb hbS o e => hs x o hb (pk x o e))
    rw [if_pos this] at z
    exact z
end
end Mine
end
section
open PySem PySem.W PySem.W.X PySem.Spec PySem.Calls PyProof.Rows
set_option Elab.async false
set_option maxRecDepth 100000
set_option maxHeartbeats 8000000
namespace Mine
theorem plain_ci : plainId "proto.contains_iter" = true := by decide +kernel
theorem entry_ci : entryFor table "proto.contains_iter" = some Builtin.«proto.contains_iter» := entryFor_of_tree (by kernel_rfl)
theorem vals_no_contains : typeLookup (.type "dict_values") "__contains__" = pure none := by rw [typeLookup_type, builtinLookup_eq_fast]; kernel_rfl
noncomputable def isNoneV : Value → Bool
  | .none => true
  | _ => false
section
variable {prog : Program} {w : World} {A : Around} {E : Value → Shared → Prop} {s : Shared} {it v d : Addr} {ep : Nat} {kvs : List (Int × Value)}
theorem units_none {n : Nat} (hu : A.units ≤ 100) : A.units + min n (PyData.depth PyData.none) < cLine := by
  have h1 : (100:Nat) + 20 < cLine := by decide
  have h0 : PyData.depth PyData.none ≤ 10 := by decide
  have := Nat.min_le_right n (PyData.depth PyData.none)
  omega
theorem eq_none {x : Value} {Q : Bool → Shared → Prop} (hv : IntNone x) (hu : A.units ≤ 100) (h : Q (isNoneV x) s) : wpAny (model prog w) A (eqBool x .none) Q E s := by
  rcases hv with rfl | ⟨a, t, rfl⟩
  · exact SeqAt.eqBoolOverData prog w A E s _ _ _ _ [] [] Q .none .none rfl rfl (units_none hu) h
  · exact SeqAt.eqBoolOverData prog w A E s _ _ _ _ [] [] Q (.int a t) .none rfl rfl (units_none hu) h
theorem none_loop {R : Result → Shared → Prop} (hh : A.handled = none) (hu : A.units ≤ 90) (hdi : d ≠ it) (hall : ∀ kv ∈ kvs, IntNone kv.2) :
    ∀ (k j : Nat) (s : Shared), kvs.length - j = k → s.heap.IsValIter it d j kvs.length ep → s.heap.DictAt (intKind prog w) d kvs ep →
    (∀ h', Heap.ExtBut it s.heap h' → R (.ok (.ret (.bool ((kvs.drop j).any fun kv => isNoneV kv.2)))) { s with heap := h' }) →
    codeAny (model prog w) A (.builtin "proto.contains_iter" ⟨[.ref it, .none], []⟩) R s := by
  intro k
  induction k with
  | zero =>
    intro j s hk hi hd h
    have hx : kvs[j]? = none := List.getElem?_eq_none (by omega)
    refine codeAny_builtin entry_ci ?_
    rw [Around.under_plainId plain_ci _]
    show wpAny _ A.in1 (pyNext (.ref it) >>= _) _ _ s
    refine wpAny_bind (wpAny_pyNext_values_end (A := A.in1) hh hi hd hx fun h' hs => ?_)
    have z := h h' hs
    rw [List.drop_of_length_le (by omega)] at z
    exact wpAny_bind (wpAny_rule (wpAny_pure z))
  | succ k ih =>
    intro j s hk hi hd h
    have hlt : j < kvs.length := by omega
    refine codeAny_builtin entry_ci ?_
    rw [Around.under_plainId plain_ci _]
    show wpAny _ A.in1 (pyNext (.ref it) >>= _) _ _ s
    refine wpAny_bind (wpAny_pyNext_values_item (A := A.in1) hi hd (k := (kvs[j]).1) (v := (kvs[j]).2) (List.getElem?_eq_getElem hlt) fun h' hi' hs => ?_)
    have hd' : h'.DictAt (intKind prog w) d kvs ep := by obtain ⟨o, es, e, r⟩ := hd; exact ⟨o, es, (hs.2 _ hdi).trans e, r⟩
    refine wpAny_bind (eq_none (hall _ (List.getElem_mem hlt)) (by show A.units + 1 ≤ 100; omega) ?_)
    have hdrop : kvs.drop j = kvs[j] :: kvs.drop (j + 1) := List.drop_eq_getElem_cons hlt
    cases ht : isNoneV (kvs[j]).2 with
    | true =>
      have z := h h' hs.extBut
      rw [hdrop, List.any_cons, ht, Bool.true_or] at z
      exact wpAny_bind (wpAny_rule (wpAny_pure z))
    | false =>
      refine wpAny_pure ⟨plainId_quiet plain_ci _, ih (j + 1) _ (by omega) hi' hd' fun h'' hs'' => ?_⟩
      have z := h h'' fun b o hb e => hs'' b o hb ((hs.2 b hb).trans e)
      rw [hdrop, List.any_cons, ht, Bool.false_or] at z
      exact z
theorem none_in {Q : Value → Shared → Prop} (hh : A.handled = none) (hu : A.units ≤ 90) (hall : ∀ kv ∈ kvs, IntNone kv.2) (hv : s.heap.IsValuesView v d) (hd : s.heap.DictAt (intKind prog w) d kvs ep)
    (h : ∀ h', (∀ b o, s.heap.get? b = some o → h'.get? b = some o) → Q (.bool (kvs.any fun kv => isNoneV kv.2)) { s with heap := h' }) :
    wpAny (model prog w) A (compareOp .In .none (.ref v)) Q E s := by
  show wpAny _ _ (contains (.ref v) .none >>= fun b => pure (Value.bool b)) _ _ _
  refine wpAny_bind ?_
  unfold contains
  refine wpAny_holding ?_
  show wpAny _ _ (specialOf (.ref v) "__contains__" >>= _) _ _ _
  refine wpAny_bind (wpAny_specialOf hv.typeIs vals_no_contains ?_)
  show wpAny _ _ (callSpecialUnlessNone? (.ref v) "__contains__" [.none] _ >>= _) _ _ _
  refine wpAny_bind ?_
  unfold callSpecialUnlessNone?
  refine wpAny_bind (wpAny_specialOf hv.typeIs vals_no_contains ?_)
  refine wpAny_pure (wpAny_bind (wpAny_rule (wpAny_bind (wpAny_tryCatch (wpAny_pyIter_values hv hd ?_)))))
  obtain ⟨o, es, e, r⟩ := hd
  refine wpAny_bind (wpAny_runValue ?_)
  refine none_loop (s := { s with heap := s.heap.push _ }) hh hu (Nat.ne_of_lt (Heap.lt_size e)) hall _ 0 rfl ⟨_, Heap.get?_push_size _ rfl, rfl, rfl⟩ ⟨o, es, Heap.get?_push_of_some _ e, r⟩ fun h' hs => ?_
  exact wpAny_pure (wpAny_pure (h h' fun b o e => hs b o (Nat.ne_of_lt (Heap.lt_size e)) (Heap.get?_push_of_some _ e)))
end
end Mine
end
section
open PySem PySem.W PySem.W.X PySem.Spec PySem.Calls PyProof.Rows
set_option Elab.async false
set_option maxRecDepth 100000
set_option maxHeartbeats 8000000
namespace Mine
theorem dchar (d : Nat) (h : d < 10) : (Nat.digitChar d).toNat = 48 + d := by
  match d, h with
  | 0, _ | 1, _ | 2, _ | 3, _ | 4, _ | 5, _ | 6, _ | 7, _ | 8, _ | 9, _ => rfl
theorem dtxt (k : Nat) : Str.ofString (toString (k : Int)) = ⟨((Nat.toDigits 10 k).map Char.toNat).toArray⟩ := by
  rw [Str.ofString_eq_toList]
  show (⟨((Nat.repr k).toList.map Char.toNat).toArray⟩ : Str) = _
  rw [Nat.toList_repr]
theorem dg1 {a : Nat} (ha : a < 10) : (Nat.toDigits 10 a).map Char.toNat = [48 + a] := by
  rw [Nat.toDigits_of_lt_base ha]; simp [dchar a ha]
theorem dgS {k a : Nat} (hk : 0 < k) (ha : a < 10) : (Nat.toDigits 10 (10 * k + a)).map Char.toNat = (Nat.toDigits 10 k).map Char.toNat ++ [48 + a] := by
  rw [← Nat.toDigits_append_toDigits (by decide) hk ha, List.map_append, dg1 ha]
theorem dec1 {l : Int} {a : Nat} (h : l = a) (ha : a < 10) : Str.ofString (toString l) = ⟨#[48 + a]⟩ := by
  subst h; rw [dtxt, dg1 ha]
theorem dec2 {l : Int} {a b : Nat} (h : l = 10 * a + b) (h0 : 0 < a) (ha : a < 10) (hb : b < 10) : Str.ofString (toString l) = ⟨#[48 + a, 48 + b]⟩ := by
  have : l = ((10 * a + b : Nat) : Int) := by omega
  rw [this, dtxt, dgS h0 hb, dg1 ha]; rfl
theorem dec3 {l : Int} {a b c : Nat} (h : l = 100 * a + 10 * b + c) (h0 : 0 < a) (ha : a < 10) (hb : b < 10) (hc : c < 10) : Str.ofString (toString l) = ⟨#[48 + a, 48 + b, 48 + c]⟩ := by
  have : l = ((10 * (10 * a + b) + c : Nat) : Int) := by omega
  rw [this, dtxt, dgS (by omega) hc, dgS h0 hb, dg1 ha]; rfl
theorem dec4 {l : Int} {a b c d : Nat} (h : l = 1000 * a + 100 * b + 10 * c + d) (h0 : 0 < a) (ha : a < 10) (hb : b < 10) (hc : c < 10) (hd : d < 10) : Str.ofString (toString l) = ⟨#[48 + a, 48 + b, 48 + c, 48 + d]⟩ := by
  have : l = ((10 * (10 * (10 * a + b) + c) + d : Nat) : Int) := by omega
  rw [this, dtxt, dgS (by omega) hd, dgS (by omega) hc, dgS h0 hb, dg1 ha]; rfl
theorem dlen_le {l : Int} (h0 : 0 ≤ l) (h1 : l ≤ 999) : (Str.ofString (toString l)).length ≤ 3 := by
  obtain ⟨k, rfl⟩ := Int.eq_ofNat_of_zero_le h0
  by_cases ha : k < 10
  · rw [dec1 rfl ha]; exact Nat.le_of_ble_eq_true rfl
  by_cases hb : k < 100
  · rw [dec2 (a := k / 10) (b := k % 10) (by omega) (by omega) (by omega) (by omega)]; exact Nat.le_of_ble_eq_true rfl
  · rw [dec3 (a := k / 100) (b := k / 10 % 10) (c := k % 10) (by omega) (by omega) (by omega) (by omega) (by omega)]; exact Nat.le_of_ble_eq_true rfl
theorem dlen_4 {l : Int} (h0 : 1000 ≤ l) (h1 : l ≤ 9999) : (Str.ofString (toString l)).length = 4 := by
  obtain ⟨k, rfl⟩ := Int.eq_ofNat_of_zero_le (by omega : 0 ≤ l)
  rw [dec4 (a := k / 1000) (b := k / 100 % 10) (c := k / 10 % 10) (d := k % 10) (by omega) (by omega) (by omega) (by omega) (by omega) (by omega)]; rfl
end Mine
end
section
open PySem PySem.W PySem.W.X PySem.Spec PySem.Calls PyProof.Rows
set_option Elab.async false
set_option maxRecDepth 100000
set_option maxHeartbeats 8000000
namespace Mine
theorem hash_int (k : Int) (w : World) : (intKind P w).hash k = hashInt k := rfl
theorem pair_entry {w : World} {e : DictEntry} {k : Int} {v : Value} (h1 : (intKind P w).is k e.key = true) (h2 : e.val = v) (h3 : ∃ k, (intKind P w).is k e.key = true ∧ e.hash = (intKind P w).hash k) : ∃ t, e = ⟨hashInt k, .int k t, v⟩ := by
  obtain ⟨t, ht⟩ := Value.isInt_shape h1
  obtain ⟨k', h4, h5⟩ := h3
  have : k' = k := (intKind P w).inj _ _ _ h4 h1
  subst this
  obtain ⟨a, b, c⟩ := e
  exact ⟨t, by dsimp only at *; rw [ht, h2, h5]; rfl⟩
theorem dict2 {w : World} {o : Obj} {v0 v1 : Value} (h : o.IsDictOf (intKind P w) [(0, v0), (2, v1)]) :
    ∃ t0 t2 n, o = ⟨.type "dict", none, .dict #[⟨0, .int 0 t0, v0⟩, ⟨2, .int 2 t2, v1⟩] n, #[]⟩ := by
  obtain ⟨es, ep, ⟨a, b, c⟩, hd, hk, hp, -⟩ := h
  obtain ⟨l⟩ := es
  cases hp with
  | cons e1 e2 hp => cases hp with
    | cons f1 f2 hp => cases hp with
      | nil =>
        rename_i x y
        obtain ⟨t0, rfl⟩ := pair_entry e1 e2 (hk x (by simp))
        obtain ⟨t2, rfl⟩ := pair_entry f1 f2 (hk y (by simp))
        obtain ⟨p, q, r, s⟩ := o
        dsimp only at a b c hd
        subst a b c hd
        exact ⟨t0, t2, ep, rfl⟩
theorem dict3 {w : World} {o : Obj} {v0 v1 v2 : Value} (h : o.IsDictOf (intKind P w) [(0, v0), (2, v1), (4, v2)]) :
    ∃ t0 t2 t4 n, o = ⟨.type "dict", none, .dict #[⟨0, .int 0 t0, v0⟩, ⟨2, .int 2 t2, v1⟩, ⟨4, .int 4 t4, v2⟩] n, #[]⟩ := by
  obtain ⟨es, ep, ⟨a, b, c⟩, hd, hk, hp, -⟩ := h
  obtain ⟨l⟩ := es
  cases hp with
  | cons e1 e2 hp => cases hp with
    | cons f1 f2 hp => cases hp with
      | cons g1 g2 hp => cases hp with
        | nil =>
          rename_i x y z
          obtain ⟨t0, rfl⟩ := pair_entry e1 e2 (hk x (by simp))
          obtain ⟨t2, rfl⟩ := pair_entry f1 f2 (hk y (by simp))
          obtain ⟨t4, rfl⟩ := pair_entry g1 g2 (hk z (by simp))
          obtain ⟨p, q, r, s⟩ := o
          dsimp only at a b c hd
          subst a b c hd
          exact ⟨t0, t2, t4, ep, rfl⟩

noncomputable abbrev valsOf (d : Addr) : Obj := { cls := .type "dict_values", data := .fields #[.ref d] }
noncomputable abbrev iterOf (d : Addr) (k n : Int) : Obj := { cls := .type "dict_valueiterator", data := .fields #[.ref d, .int 0 0, .int k 0, .int n 0] }
section
set_option hygiene false in
local macro_rules | `(tactic| x_close) => `(tactic| exact hQ _ _ _ _ (by assumption))
theorem x_filter2 (w : World) (s : Shared) (X : (KF w.params).In s.heap) {d v : Addr} {v0 v1 : Value} {t0 t2 : Tok} {n : Nat} (hd : s.heap.get? d = some ⟨.type "dict", none, .dict #[⟨0, .int 0 t0, v0⟩, ⟨2, .int 2 t2, v1⟩] n, #[]⟩) (hv : s.heap.get? v = some ⟨.type "dict_values", none, .fields #[.ref d], #[]⟩) (fr : Option (List Env)) (gd : Option (List Code)) (Q E : Value → Shared → Prop)
    (hQ : ∀ f i h t, Mem s.heap h [] [(f, filtOf i), (i, iterOf d 2 n)] → Q (.ref f) ⟨h, s.gens, s.drawn, t, s.os⟩) :
    wpAny (model Challenge.rw_yh0009_01.row.prog w) { handled := none, depth := 320, frames := fr, guards := gd, units := 90 } (call (.type "filter") [.none, .ref v]) Q E s := by
  x_run
theorem x_filter3 (w : World) (s : Shared) (X : (KF w.params).In s.heap) {d v : Addr} {v0 v1 v2 : Value} {t0 t2 t4 : Tok} {n : Nat} (hd : s.heap.get? d = some ⟨.type "dict", none, .dict #[⟨0, .int 0 t0, v0⟩, ⟨2, .int 2 t2, v1⟩, ⟨4, .int 4 t4, v2⟩] n, #[]⟩) (hv : s.heap.get? v = some ⟨.type "dict_values", none, .fields #[.ref d], #[]⟩) (fr : Option (List Env)) (gd : Option (List Code)) (Q E : Value → Shared → Prop)
    (hQ : ∀ f i h t, Mem s.heap h [] [(f, filtOf i), (i, iterOf d 3 n)] → Q (.ref f) ⟨h, s.gens, s.drawn, t, s.os⟩) :
    wpAny (model Challenge.rw_yh0009_01.row.prog w) { handled := none, depth := 320, frames := fr, guards := gd, units := 90 } (call (.type "filter") [.none, .ref v]) Q E s := by
  x_run
end

section
variable {w : World} {A : Around} {E : Value → Shared → Prop} {s : Shared} {h₀ : Heap} {L d v f it : Addr} {m : Str → Option Value} {news : List (Addr × Obj)} {o : Obj} {q l : Int} {tq tl t : Tok} {rest : List (Int × Value)} {n : Nat} {Q : Value → Shared → Prop}
noncomputable abbrev tabKvs (q l : Int) (tq tl : Tok) (rest : List (Int × Value)) : List (Int × Value) := (0, .int q tq) :: (2, .int l tl) :: rest
theorem fresh_all {h h' : Heap} {nw : List (Addr × Obj)} (D : Mem h h' [] nw) (N : News h₀ L h news) {a : Addr} {oa : Obj} (ha : (a, oa) ∈ nw) : ∀ p ∈ news, @Ne Nat p.1 a := fun p hp e => by
  have z := (D.nw _ ha).2
  dsimp only at z
  rw [← show p.1 = a from e, (N p hp).1] at z
  cases z
theorem r_filter (F : Fr h₀ L s.heap m) (Z : ZIn w h₀) (N : News h₀ L s.heap news) (hh : A.handled = none) (hdp : A.depth ≤ 320) (hun : A.units ≤ 90) (hv : (v, valsOf d) ∈ news) (hd : (d, o) ∈ news)
    (hD : o.IsDictOf (intKind P w) (tabKvs q l tq tl rest)) (hrest : rest = [] ∨ rest = [(4, .none)])
    (h : ∀ f i (n : Nat) h' tk', Fr h₀ L h' m → News h₀ L h' ((f, filtOf i) :: (i, iterOf d (tabKvs q l tq tl rest).length n) :: news) → (∀ p ∈ news, @Ne Nat p.1 i) → @Ne Nat i f → (∃ es, o.data = .dict es n) → Q (.ref f) { s with heap := h', toks := tk' }) :
    wpAny (model P w) A (call (.type "filter") [.none, .ref v]) Q E s := by
  have hdd := (N _ hd).1
  have hvv := (N _ hv).1
  dsimp only at hdd hvv
  rcases hrest with rfl | rfl
  · obtain ⟨t0, t2, n, rfl⟩ := dict2 hD
    refine to_lit hh hdp hun ?_
    refine x_filter2 w s (Z.z.keeps F.keep) hdd hvv _ _ _ _ fun f i h' t' D => ?_
    exact h f i n h' t' (mem_fr D F) (mem_news D F N) (fresh_all D N (.tail _ (.head _))) (fun e => by have := D.ord; rw [show i = f from e] at this; simp at this) ⟨_, rfl⟩
  · obtain ⟨t0, t2, t4, n, rfl⟩ := dict3 hD
    refine to_lit hh hdp hun ?_
    refine x_filter3 w s (Z.z.keeps F.keep) hdd hvv _ _ _ _ fun f i h' t' D => ?_
    exact h f i n h' t' (mem_fr D F) (mem_news D F N) (fresh_all D N (.tail _ (.head _))) (fun e => by have := D.ord; rw [show i = f from e] at this; simp at this) ⟨_, rfl⟩
theorem dict_at {h : Heap} (hd : h.get? d = some o) (hD : o.IsDictOf (intKind P w) (tabKvs q l tq tl rest)) (hn : ∃ es, o.data = .dict es n) : h.DictAt (intKind P w) d (tabKvs q l tq tl rest) n := by
  obtain ⟨es, ep, r1, r2, r3⟩ := hD
  obtain ⟨es', e⟩ := hn
  rw [e] at r2
  cases r2
  exact ⟨o, _, hd, r1, e, r3⟩
theorem dict_ep (hD : o.IsDictOf (intKind P w) (tabKvs q l tq tl rest)) : ∃ n, ∃ es, o.data = .dict es n := by
  obtain ⟨es, ep, r1, r2, r3⟩ := hD
  exact ⟨ep, es, r2⟩
theorem r_max (F : Fr h₀ L s.heap m) (N : News h₀ L s.heap ((f, filtOf it) :: (it, iterOf d (tabKvs q l tq tl rest).length n) :: news)) (hh : A.handled = none) (hd : (d, o) ∈ news)
    (hD : o.IsDictOf (intKind P w) (tabKvs q l tq tl rest)) (hrest : rest = [] ∨ rest = [(4, .none)]) (hni : ∀ p ∈ news, @Ne Nat p.1 it) (hif : @Ne Nat it f) (hn : ∃ es, o.data = .dict es n) (h0 : 0 ≤ q) (h1 : 10 * q ≤ l) {lv : Int} (hlv : (if l = 0 then -1 else l) = lv)
    (h : ∀ h' tr, Fr h₀ L h' m → News h₀ L h' news → Q (.int lv tr) { s with heap := h' }) :
    wpAny (model P w) A (call (.builtin "max") [.ref f] [(Str.ofString "default", .int (-1) t)]) Q E s := by
  subst hlv
  have hi := N _ (.tail _ (.head _))
  refine max_dict hh hif (hni _ hd) (fun kv hkv => ?_) (N _ (.head _)).1 ⟨_, hi.1, rfl, rfl⟩ (dict_at (N _ (.tail _ (.tail _ hd))).1 hD hn) h0 h1 fun h' tr k => ?_
  · rcases hrest with rfl | rfl
    · cases hkv
    · rcases List.mem_cons.mp hkv with rfl | hkv
      · rfl
      · cases hkv
  · refine h h' tr ⟨F.ns.at' fun o e => k _ _ hi.2.1.symm e, fun b o e => k _ _ (fun z => by have := hi.2.2; dsimp only at this; rw [← z, e] at this; cases this) (F.keep b o e), F.above⟩ fun p hp => ?_
    have z := N p (.tail _ (.tail _ hp))
    exact ⟨k _ _ (hni p hp) z.1, z.2⟩
theorem r_in (F : Fr h₀ L s.heap m) (N : News h₀ L s.heap news) (hh : A.handled = none) (hun : A.units ≤ 90) (hv : (v, valsOf d) ∈ news) (hd : (d, o) ∈ news)
    (hD : o.IsDictOf (intKind P w) (tabKvs q l tq tl rest)) (hrest : rest = [] ∨ rest = [(4, .none)]) 
    (h : ∀ h', Fr h₀ L h' m → News h₀ L h' news → Q (.bool (!rest.isEmpty)) { s with heap := h' }) :
    wpAny (model P w) A (compareOp .In .none (.ref v)) Q E s := by
  obtain ⟨n, hn⟩ := dict_ep hD
  refine none_in hh hun (kvs := tabKvs q l tq tl rest) (fun kv hkv => ?_) ⟨_, (N _ hv).1, rfl, rfl⟩ (dict_at (N _ hd).1 hD hn) fun h' k => ?_
  · rcases List.mem_cons.mp hkv with rfl | hkv
    · exact .inr ⟨_, _, rfl⟩
    rcases List.mem_cons.mp hkv with rfl | hkv
    · exact .inr ⟨_, _, rfl⟩
    rcases hrest with rfl | rfl
    · cases hkv
    · rcases List.mem_cons.mp hkv with rfl | hkv
      · exact .inl rfl
      · cases hkv
  · have e : ((tabKvs q l tq tl rest).any fun kv => isNoneV kv.2) = !rest.isEmpty := by
      rcases hrest with rfl | rfl <;> rfl
    rw [e]
    exact h h' (F.keeps k) (N.keeps k)
end
end Mine
end
section
open PySem PySem.W PySem.W.X PySem.Spec PySem.Calls PyProof.Rows
set_option Elab.async false
set_option maxRecDepth 100000
set_option maxHeartbeats 8000000
namespace Mine
theorem wA {len : Nat} {line : Int} {rest : List (Int × Value)} (a1 : line ≤ 999 → len ≤ 3) (a2 : 1000 ≤ line → len = 4) (c : (if (len : Int) > 3 then (len : Int) else 3) < ((4 : Nat) : Int)) (e : rest.isEmpty = true) :
    (if (len : Int) > 3 then (len : Int) else 3) = if line ≤ 999 ∧ rest = [] then 3 else 4 := by
  have : rest = [] := List.isEmpty_iff.mp e
  subst this
  by_cases h : line ≤ 999
  · have := a1 h
    rw [if_neg (by omega), if_pos ⟨h, rfl⟩]
  · have := a2 (by omega)
    rw [if_pos (by omega)] at c
    omega
theorem wB {line : Int} {rest : List (Int × Value)} (e : rest.isEmpty = false) : (((4 : Nat) : Int)) = if line ≤ 999 ∧ rest = [] then 3 else 4 := by
  rw [if_neg]
  · rfl
  · rintro ⟨_, rfl⟩; cases e
theorem wC {len : Nat} {line : Int} {rest : List (Int × Value)} (a1 : line ≤ 999 → len ≤ 3) (a2 : 1000 ≤ line → len = 4) (c : ¬ (if (len : Int) > 3 then (len : Int) else 3) < ((4 : Nat) : Int)) :
    (if (len : Int) > 3 then (len : Int) else 3) = if line ≤ 999 ∧ rest = [] then 3 else 4 := by
  by_cases h : line ≤ 999
  · have := a1 h
    rw [if_neg (by omega)] at c
    omega
  · have := a2 (by omega)
    rw [if_pos (by omega), if_neg (fun x => h x.1)]
    omega
theorem glw : ∀ (w : World) (p : Program) (loose : List Str) (mean : ExcName → Option Value) (mg mb : Str → Option Value)
   (dp un : Nat) (gd : Option (List Code)) (cn : Str) (cs : Scope) (a : Addr) (ccd : Value) (cl : List (Str × Addr)) (outer : List Env) (A₀ : Around) (base h₀ : Heap) (L : Addr) (m : Str → Option Value) (s : Shared) (Q E : Value → Shared → Prop)
   (news : List (Addr × Obj)) (d : Addr) (o : Obj) (q line : Int) (tq tl : Tok) (rest : List (Int × Value))
   (B : Below A₀ base outer h₀) (F : Fr h₀ L s.heap m) (X : (hd.heap_1 w.params).In h₀) (Z : ZIn w h₀) (N : News h₀ L s.heap ((d, o) :: news)) (T : Top p loose mean mg mb h₀) (hk : cs.kind = .function)
   (hdp : dp ≤ 310) (hun : un ≤ 40)
   (hD : o.IsDictOf (intKind P w) (tabKvs q line tq tl rest)) (hlo : (d == sysModules) = false) (hrest : rest = [] ∨ rest = [(4, .none)]) (hl0 : 1 ≤ line) (hl1 : line ≤ 9999) (h0 : 0 ≤ q) (h1 : 10 * q ≤ line) (hlen : (line ≤ 999 → (Str.ofString (toString line)).length ≤ 3) ∧ (1000 ≤ line → (Str.ofString (toString line)).length = 4))
   (hret : ∀ wd h' tk' t, wd = (if line ≤ 999 ∧ rest = [] then (3 : Int) else 4) → Fr h₀ L h' m → News h₀ L h' ((d, o) :: news) → Q (.int wd t) { s with heap := h', toks := tk' }),
   wpAny (model Challenge.rw_yh0009_01.row.prog w) (ktrTop dp un gd cn cs L a ccd cl outer) (call (.ref 58) [.ref d]) Q E s := by
  k_fill
  intro w p loose mean mg mb dp un gd cn cs a ccd cl outer A₀ base h₀ L m s Q E news d o q line tq tl rest B F X Z N T hk hdp hun hD hlo hrest hl0 hl1 h0 h1 hlen hret
  refine weaken (A' := ktrTop 310 40 gd cn cs L a ccd cl outer) rfl hdp rfl rfl hun ?_
  refine wpAny_call ?_
  k_dflt cell_enter
  repeat' (first | (k_unfold; (try dsimp only)) | ((with_reducible show wpAny _ _ (call _ _ _) _ _ _); with_reducible (first | ((with_reducible show wpAny _ _ (call (Value.builtin "max") _ _) _ _ _); ((k_here; k_dflt (refine' r_max ?F ?N ?hh ?hd ?hD ?hr ?hni ?hif ?hn ?h0 ?h1 ?hlv ?_; (case F => k_asm); (case N => k_asm); (case hh => rfl); (case hd => k_mem); (case hD => assumption); (case hr => assumption); (case hni => assumption); (case hif => assumption); (case hn => assumption); (case h0 => assumption); (case h1 => assumption); (case hlv => first | exact if_neg (by omega) | exact if_pos rfl | exact if_pos (by omega)); k_whole); intro h' r' F' N'; (try k_sweep)))) | ((with_reducible show wpAny _ _ (call (Value.type "filter") _ _) _ _ _); ((k_here; k_dflt (refine' r_filter ?F ?Z ?N ?hh ?hdp ?hun ?hv ?hd ?hD ?hr ?_; (case F => k_asm); (case Z => (first | assumption | exact ZIn.keeps (by assumption) (Fr.keep (by assumption)) | exact ZIn.keeps (ZIn.keeps (by assumption) (Fr.keep (by assumption))) (Fr.keep (by assumption)))); (case N => k_asm); (case hh => rfl); (case hdp => exact Nat.le_of_ble_eq_true rfl); (case hun => exact Nat.le_of_ble_eq_true rfl); (case hv => k_mem); (case hd => k_mem); (case hD => assumption); (case hr => assumption); k_whole); intro f' i' n' h' t' F' N' ha' hif' hn'; (try k_sweep)))) | ((with_reducible show wpAny _ _ (call (Value.builtin "list.append") _ _) _ _ _); ((k_here; k_dflt (refine' row_appendK ?k1 ?k2 ?k3 ?k4 ?k5 ?k6 ?k7 ?_; (case k1 => k_asm); (case k2 => k_asm); (case k3 => k_asm); (case k4 => k_is); (case k5 => k_mem); (case k6 => first | assumption | exact Nat.le_of_ble_eq_true rfl); (case k7 => k_upd); k_whole); intro h' F' N'; (try k_sweep)))) | ((with_reducible show wpAny _ _ (call (Value.ref _) _ _) _ _ _); ((k_here; k_dflt (first | (refine' bound_lenK ?k1 ?k2 ?k3 ?_; (case k1 => k_asm); (case k2 => k_mem); (case k3 => k_mem); k_whole) | (refine' bound_initK ?k1 ?k2 ?k3 ?k4 ?k5 ?_; (case k1 => k_asm); (case k2 => k_asm); (case k3 => k_mem); (case k4 => k_mem); (case k5 => k_upd); k_whole; intro h' F' N'; (try k_sweep)) | (refine' bound_popK ?k1 ?k2 ?k3 ?k4 ?k5 ?k6 ?k7 ?k8 ?k9 ?k10 ?k11 ?_; (case k1 => k_asm); (case k2 => k_asm); (case k3 => k_asm); (case k4 => k_is); (case k5 => k_is); (case k6 => rfl); (case k7 => k_is); (case k8 => k_mem); (case k9 => k_mem); (case k10 => first | assumption | exact Nat.le_of_ble_eq_true rfl); (case k11 => k_upd); k_whole; intro h' F' N'; (try k_sweep)))))) | fail "none")) | (with_reducible ((with_reducible show wpAny _ _ (compareOp CmpOp.In Value.none (Value.ref _)) _ _ _); ((k_here; k_dflt (refine' r_in ?F ?N ?hh ?hun ?hv ?hd ?hD ?hr ?_; (case F => k_asm); (case N => k_asm); (case hh => rfl); (case hun => exact Nat.le_of_ble_eq_true rfl); (case hv => k_mem); (case hd => k_mem); (case hD => assumption); (case hr => assumption); k_whole); intro h' F' N'; (try k_sweep))))) | (with_reducible ((with_reducible show wpAny _ _ (getMethod (Value.ref _) _ _) _ _ _); ((k_here; k_dflt (refine' method_rowK ?k2 ?k3 ?k4 ?k5 ?k6 ?k7 ?k8 ?k9 ?_; (case k2 => k_in); (case k3 => k_inst); (case k4 => k_is); (case k5 => k_is); (case k6 => k_is); (case k7 => k_is); (case k8 => decide +kernel); (case k9 => k_get); k_whole))))) | (with_reducible ((with_reducible show wpAny _ _ (callWith _ (Value.ref _) _ _ _) _ _ _); ((k_here; k_dflt ((refine' callWith_B0 ?k1 ?k2 ?k3 ?_; (case k1 => k_asm); (case k2 => k_mem); (case k3 => first | exact .inl rfl | exact .inr rfl); k_whole); (try dsimp only [List.nil_append, List.cons_append])))))) | (with_reducible ((with_reducible show wpAny _ _ (getMethod (Value.ref _) _ _) _ _ _); ((k_here; k_dflt (first | (refine' sup_any (id := "list.__init__") ?k1 ?k2 ?k3 ?k4 ?k5 ?k6 ?k7 ?k8 ?k9 ?k10 ?k11 ?k12 ?k13 ty_init get_wrap ?k14 (get_init _) ?_; (case k1 => k_asm); (case k2 => k_asm); (case k3 => (first | assumption | exact ZIn.keeps (by assumption) (Fr.keep (by assumption)) | exact ZIn.keeps (ZIn.keeps (by assumption) (Fr.keep (by assumption))) (Fr.keep (by assumption)))); (case k4 => k_asm); (case k5 => k_mem); (case k6 => k_inst); (case k7 => rfl); (case k8 => exact Nat.le_of_ble_eq_true rfl); (case k9 => exact Nat.le_of_ble_eq_true rfl); (case k10 => k_is); (case k11 => k_is); (case k12 => rfl); (case k13 => ks_is); (case k14 => decide); k_whole) | (refine' sup_any (id := "list.__len__") ?k1 ?k2 ?k3 ?k4 ?k5 ?k6 ?k7 ?k8 ?k9 ?k10 ?k11 ?k12 ?k13 ty_len get_wrap ?k14 (get_len _) ?_; (case k1 => k_asm); (case k2 => k_asm); (case k3 => (first | assumption | exact ZIn.keeps (by assumption) (Fr.keep (by assumption)) | exact ZIn.keeps (ZIn.keeps (by assumption) (Fr.keep (by assumption))) (Fr.keep (by assumption)))); (case k4 => k_asm); (case k5 => k_mem); (case k6 => k_inst); (case k7 => rfl); (case k8 => exact Nat.le_of_ble_eq_true rfl); (case k9 => exact Nat.le_of_ble_eq_true rfl); (case k10 => k_is); (case k11 => k_is); (case k12 => rfl); (case k13 => ks_is); (case k14 => decide); k_whole) | (refine' sup_any (id := "list.pop") ?k1 ?k2 ?k3 ?k4 ?k5 ?k6 ?k7 ?k8 ?k9 ?k10 ?k11 ?k12 ?k13 ty_pop get_meth ?k14 (get_pop _) ?_; (case k1 => k_asm); (case k2 => k_asm); (case k3 => (first | assumption | exact ZIn.keeps (by assumption) (Fr.keep (by assumption)) | exact ZIn.keeps (ZIn.keeps (by assumption) (Fr.keep (by assumption))) (Fr.keep (by assumption)))); (case k4 => k_asm); (case k5 => k_mem); (case k6 => k_inst); (case k7 => rfl); (case k8 => exact Nat.le_of_ble_eq_true rfl); (case k9 => exact Nat.le_of_ble_eq_true rfl); (case k10 => k_is); (case k11 => k_is); (case k12 => rfl); (case k13 => ks_is); (case k14 => decide); k_whole)); intro q' h' t' F' N' e'; (try k_sweep))))) | (with_reducible ((with_reducible show wpAny _ _ (setAttr (Value.ref _) _ _) _ _ _); ((k_here; k_dflt ((refine' set_row ?k1 ?k2 ?k3 ?k4 ?k5 ?k6 ?k7 ?k8 ?k9 ?k10 ?k11 ?k12 ?k13 ?k14 ?_; (case k1 => k_asm); (case k2 => k_asm); (case k3 => k_asm); (case k4 => k_is); (case k5 => rfl); (case k6 => rfl); (case k7 => k_inst); (case k8 => exact rfl); (case k9 => k_is); (case k10 => k_is); (case k11 => k_get); (case k12 => k_put); (case k13 => k_upd); (case k14 => exact Nat.le_of_ble_eq_true rfl); k_whole); intro h' F' N'; (try k_sweep); (try dsimp only)))))) | ((fail_if_success (fail_if_success (first | (with_reducible show PySem.wpAt _ _ _ _ _ _ _) | (with_reducible show PyProof.Rows.wpAt _ _ _ _ _ _ _)))); with_reducible (first | dsimp only | ((ks_step "exec Return"; k_dflt (refine ks_wpAt_Return_some ?_))) | ((ks_step "eval Call"; k_dflt (refine ks_wpAt_MethodCall ?_))) | ((ks_step "exec Expr"; k_dflt (refine ks_wpAt_Expr_any ?_))) | fail "none")) | (k_end; kc_close) | walk1 | (dsimp only; walk1) | (leave1; (try dsimp only)) | fail "no step")
  · omega
  all_goals obtain ⟨a1, a2⟩ := hlen
  all_goals first
    | refine hret _ _ _ _ ?_ (by assumption) (news_drop1 (by assumption))
    | refine hret _ _ _ _ ?_ (by assumption) (news_drop2 (by assumption))
  all_goals first
    | exact wA a1 a2 (by assumption) (by assumption)
    | exact wB (by assumption)
    | exact wC a1 a2 (by assumption)
theorem glw0 : ∀ (w : World) (p : Program) (loose : List Str) (mean : ExcName → Option Value) (mg mb : Str → Option Value)
   (dp un : Nat) (gd : Option (List Code)) (cn : Str) (cs : Scope) (a : Addr) (ccd : Value) (cl : List (Str × Addr)) (outer : List Env) (A₀ : Around) (base h₀ : Heap) (L : Addr) (m : Str → Option Value) (s : Shared) (Q E : Value → Shared → Prop)
   (news : List (Addr × Obj)) (d : Addr) (o : Obj) (q line : Int) (tq tl : Tok) (rest : List (Int × Value))
   (B : Below A₀ base outer h₀) (F : Fr h₀ L s.heap m) (X : (hd.heap_1 w.params).In h₀) (Z : ZIn w h₀) (N : News h₀ L s.heap ((d, o) :: news)) (T : Top p loose mean mg mb h₀) (hk : cs.kind = .function)
   (hdp : dp ≤ 310) (hun : un ≤ 40)
   (hD : o.IsDictOf (intKind P w) (tabKvs q line tq tl rest)) (hlo : (d == sysModules) = false) (hrest : rest = [] ∨ rest = [(4, .none)]) (hl0 : line = 0) (h0 : 0 ≤ q) (h1 : 10 * q ≤ line)
   (hret : ∀ h' tk' t, Fr h₀ L h' m → News h₀ L h' ((d, o) :: news) → Q (.int 0 t) { s with heap := h', toks := tk' }),
   wpAny (model Challenge.rw_yh0009_01.row.prog w) (ktrTop dp un gd cn cs L a ccd cl outer) (call (.ref 58) [.ref d]) Q E s := by
  k_fill
  intro w p loose mean mg mb dp un gd cn cs a ccd cl outer A₀ base h₀ L m s Q E news d o q line tq tl rest B F X Z N T hk hdp hun hD hlo hrest hl0 h0 h1 hret
  refine weaken (A' := ktrTop 310 40 gd cn cs L a ccd cl outer) rfl hdp rfl rfl hun ?_
  refine wpAny_call ?_
  k_dflt cell_enter
  repeat' (first | (k_unfold; (try dsimp only)) | ((with_reducible show wpAny _ _ (call _ _ _) _ _ _); with_reducible (first | ((with_reducible show wpAny _ _ (call (Value.builtin "max") _ _) _ _ _); ((k_here; k_dflt (refine' r_max ?F ?N ?hh ?hd ?hD ?hr ?hni ?hif ?hn ?h0 ?h1 ?hlv ?_; (case F => k_asm); (case N => k_asm); (case hh => rfl); (case hd => k_mem); (case hD => assumption); (case hr => assumption); (case hni => assumption); (case hif => assumption); (case hn => assumption); (case h0 => assumption); (case h1 => assumption); (case hlv => first | exact if_neg (by omega) | exact if_pos rfl | exact if_pos (by omega)); k_whole); intro h' r' F' N'; (try k_sweep)))) | ((with_reducible show wpAny _ _ (call (Value.type "filter") _ _) _ _ _); ((k_here; k_dflt (refine' r_filter ?F ?Z ?N ?hh ?hdp ?hun ?hv ?hd ?hD ?hr ?_; (case F => k_asm); (case Z => (first | assumption | exact ZIn.keeps (by assumption) (Fr.keep (by assumption)) | exact ZIn.keeps (ZIn.keeps (by assumption) (Fr.keep (by assumption))) (Fr.keep (by assumption)))); (case N => k_asm); (case hh => rfl); (case hdp => exact Nat.le_of_ble_eq_true rfl); (case hun => exact Nat.le_of_ble_eq_true rfl); (case hv => k_mem); (case hd => k_mem); (case hD => assumption); (case hr => assumption); k_whole); intro f' i' n' h' t' F' N' ha' hif' hn'; (try k_sweep)))) | ((with_reducible show wpAny _ _ (call (Value.builtin "list.append") _ _) _ _ _); ((k_here; k_dflt (refine' row_appendK ?k1 ?k2 ?k3 ?k4 ?k5 ?k6 ?k7 ?_; (case k1 => k_asm); (case k2 => k_asm); (case k3 => k_asm); (case k4 => k_is); (case k5 => k_mem); (case k6 => first | assumption | exact Nat.le_of_ble_eq_true rfl); (case k7 => k_upd); k_whole); intro h' F' N'; (try k_sweep)))) | ((with_reducible show wpAny _ _ (call (Value.ref _) _ _) _ _ _); ((k_here; k_dflt (first | (refine' bound_lenK ?k1 ?k2 ?k3 ?_; (case k1 => k_asm); (case k2 => k_mem); (case k3 => k_mem); k_whole) | (refine' bound_initK ?k1 ?k2 ?k3 ?k4 ?k5 ?_; (case k1 => k_asm); (case k2 => k_asm); (case k3 => k_mem); (case k4 => k_mem); (case k5 => k_upd); k_whole; intro h' F' N'; (try k_sweep)) | (refine' bound_popK ?k1 ?k2 ?k3 ?k4 ?k5 ?k6 ?k7 ?k8 ?k9 ?k10 ?k11 ?_; (case k1 => k_asm); (case k2 => k_asm); (case k3 => k_asm); (case k4 => k_is); (case k5 => k_is); (case k6 => rfl); (case k7 => k_is); (case k8 => k_mem); (case k9 => k_mem); (case k10 => first | assumption | exact Nat.le_of_ble_eq_true rfl); (case k11 => k_upd); k_whole; intro h' F' N'; (try k_sweep)))))) | fail "none")) | (with_reducible ((with_reducible show wpAny _ _ (compareOp CmpOp.In Value.none (Value.ref _)) _ _ _); ((k_here; k_dflt (refine' r_in ?F ?N ?hh ?hun ?hv ?hd ?hD ?hr ?_; (case F => k_asm); (case N => k_asm); (case hh => rfl); (case hun => exact Nat.le_of_ble_eq_true rfl); (case hv => k_mem); (case hd => k_mem); (case hD => assumption); (case hr => assumption); k_whole); intro h' F' N'; (try k_sweep))))) | (with_reducible ((with_reducible show wpAny _ _ (getMethod (Value.ref _) _ _) _ _ _); ((k_here; k_dflt (refine' method_rowK ?k2 ?k3 ?k4 ?k5 ?k6 ?k7 ?k8 ?k9 ?_; (case k2 => k_in); (case k3 => k_inst); (case k4 => k_is); (case k5 => k_is); (case k6 => k_is); (case k7 => k_is); (case k8 => decide +kernel); (case k9 => k_get); k_whole))))) | (with_reducible ((with_reducible show wpAny _ _ (callWith _ (Value.ref _) _ _ _) _ _ _); ((k_here; k_dflt ((refine' callWith_B0 ?k1 ?k2 ?k3 ?_; (case k1 => k_asm); (case k2 => k_mem); (case k3 => first | exact .inl rfl | exact .inr rfl); k_whole); (try dsimp only [List.nil_append, List.cons_append])))))) | (with_reducible ((with_reducible show wpAny _ _ (getMethod (Value.ref _) _ _) _ _ _); ((k_here; k_dflt (first | (refine' sup_any (id := "list.__init__") ?k1 ?k2 ?k3 ?k4 ?k5 ?k6 ?k7 ?k8 ?k9 ?k10 ?k11 ?k12 ?k13 ty_init get_wrap ?k14 (get_init _) ?_; (case k1 => k_asm); (case k2 => k_asm); (case k3 => (first | assumption | exact ZIn.keeps (by assumption) (Fr.keep (by assumption)) | exact ZIn.keeps (ZIn.keeps (by assumption) (Fr.keep (by assumption))) (Fr.keep (by assumption)))); (case k4 => k_asm); (case k5 => k_mem); (case k6 => k_inst); (case k7 => rfl); (case k8 => exact Nat.le_of_ble_eq_true rfl); (case k9 => exact Nat.le_of_ble_eq_true rfl); (case k10 => k_is); (case k11 => k_is); (case k12 => rfl); (case k13 => ks_is); (case k14 => decide); k_whole) | (refine' sup_any (id := "list.__len__") ?k1 ?k2 ?k3 ?k4 ?k5 ?k6 ?k7 ?k8 ?k9 ?k10 ?k11 ?k12 ?k13 ty_len get_wrap ?k14 (get_len _) ?_; (case k1 => k_asm); (case k2 => k_asm); (case k3 => (first | assumption | exact ZIn.keeps (by assumption) (Fr.keep (by assumption)) | exact ZIn.keeps (ZIn.keeps (by assumption) (Fr.keep (by assumption))) (Fr.keep (by assumption)))); (case k4 => k_asm); (case k5 => k_mem); (case k6 => k_inst); (case k7 => rfl); (case k8 => exact Nat.le_of_ble_eq_true rfl); (case k9 => exact Nat.le_of_ble_eq_true rfl); (case k10 => k_is); (case k11 => k_is); (case k12 => rfl); (case k13 => ks_is); (case k14 => decide); k_whole) | (refine' sup_any (id := "list.pop") ?k1 ?k2 ?k3 ?k4 ?k5 ?k6 ?k7 ?k8 ?k9 ?k10 ?k11 ?k12 ?k13 ty_pop get_meth ?k14 (get_pop _) ?_; (case k1 => k_asm); (case k2 => k_asm); (case k3 => (first | assumption | exact ZIn.keeps (by assumption) (Fr.keep (by assumption)) | exact ZIn.keeps (ZIn.keeps (by assumption) (Fr.keep (by assumption))) (Fr.keep (by assumption)))); (case k4 => k_asm); (case k5 => k_mem); (case k6 => k_inst); (case k7 => rfl); (case k8 => exact Nat.le_of_ble_eq_true rfl); (case k9 => exact Nat.le_of_ble_eq_true rfl); (case k10 => k_is); (case k11 => k_is); (case k12 => rfl); (case k13 => ks_is); (case k14 => decide); k_whole)); intro q' h' t' F' N' e'; (try k_sweep))))) | (with_reducible ((with_reducible show wpAny _ _ (setAttr (Value.ref _) _ _) _ _ _); ((k_here; k_dflt ((refine' set_row ?k1 ?k2 ?k3 ?k4 ?k5 ?k6 ?k7 ?k8 ?k9 ?k10 ?k11 ?k12 ?k13 ?k14 ?_; (case k1 => k_asm); (case k2 => k_asm); (case k3 => k_asm); (case k4 => k_is); (case k5 => rfl); (case k6 => rfl); (case k7 => k_inst); (case k8 => exact rfl); (case k9 => k_is); (case k10 => k_is); (case k11 => k_get); (case k12 => k_put); (case k13 => k_upd); (case k14 => exact Nat.le_of_ble_eq_true rfl); k_whole); intro h' F' N'; (try k_sweep); (try dsimp only)))))) | ((fail_if_success (fail_if_success (first | (with_reducible show PySem.wpAt _ _ _ _ _ _ _) | (with_reducible show PyProof.Rows.wpAt _ _ _ _ _ _ _)))); with_reducible (first | dsimp only | ((ks_step "exec Return"; k_dflt (refine ks_wpAt_Return_some ?_))) | ((ks_step "eval Call"; k_dflt (refine ks_wpAt_MethodCall ?_))) | ((ks_step "exec Expr"; k_dflt (refine ks_wpAt_Expr_any ?_))) | fail "none")) | (k_end; kc_close) | walk1 | (dsimp only; walk1) | (leave1; (try dsimp only)) | fail "no step")
  exact hret _ _ _ (by assumption) (news_drop1 (by assumption))
end Mine
end
section
open PySem PySem.W PySem.W.X PySem.Spec PySem.Calls PyProof.Rows PyProof.V
set_option Elab.async false
set_option maxRecDepth 100000
set_option maxHeartbeats 8000000
namespace Mine
section
variable {prog : Program} {w : World} {A A₀ : Around} {s : Shared} {K : Frag} {L : Addr} {h₀ base : Heap} {m mg mb : Str → Option Value} {news : List (Addr × Obj)} {p : Program} {loose : List Str} {mean : ExcName → Option Value}
theorem more_ref {env : Env} {outer : List Env} {R : Result → Shared → Prop} {name qual : Str} {params : Arguments} {body : List Stmt} {scope : Scope} {dV kV doc pm cdv ct oc : Value} {an od : Option Addr} {osl : Array (Option Value)} {f : Addr} {args : Args} {nm : Str} {k : Str} {v : Value} {front : List (Str × Value)} {g₁ : Addr → Sem (List (Str × Value))}
    (B : Below A₀ base outer h₀) (F : Fr h₀ L s.heap m) (X₀ : K.In h₀) (N : News h₀ L s.heap news) (T : Top p loose mean mg mb h₀) (hA : A.frames = some (env :: outer)) (hf : env.frame = some L) (hke : env.scope.kind = .function)
    (ho : K.lookup f = some ⟨oc, od, .func (fnOf name qual params body scope dV kV doc pm an cdv ct), osl⟩) (hcd : codeIn K cdv qual = true) (hroom : A.depth < recursionLimit)
    (hx : args.kw.filter (fun x => !ownKw params x.1) = [(k, v)]) (hnm : params.kwarg.map (·.arg) = some nm)
    (_hfr : peek K ⟨prog, w.params⟩ (bindArgs (fnCut (fnOf name qual params body scope dV kV doc pm an cdv ct)) (argsCut params args)) = some front)
    (hp : peekA K ⟨prog, w.params⟩ (bindArgs (fnOf name qual params body scope dV kV doc pm an cdv ct) args) = some (dictOf [] 0, g₁))
    (hk₁ : ∀ D, g₁ D = (forIn [(k, v)] PUnit.unit (fun x _ => (nsSet D x.1 x.2 >>= fun _ => pure (ForInStep.yield PUnit.unit))) >>= fun _ => pure (front ++ [(nm, Value.ref D)])))
    (hloc : ∀ D, ∀ y ∈ front ++ [(nm, Value.ref D)], scope.names.lookup y.1 = some .local)
    (h : ∀ D t g L' h₁ tk, (∀ p ∈ news, p.1 < D) → (D == sysModules) = false → Fr h₀ L g m → Fr g L' h₁ (fun y => (front ++ [(nm, Value.ref D)]).reverse.lookup y) → News g L' h₁ ((D, dictOf [⟨PyData.keyHash w.params k, .str k t, v⟩] 1) :: news) → Below A base (env :: outer) g → K.In g → Top p loose mean mg mb g →
      wpAny (model prog w) (A.deeper (envOf qual scope L' f cdv)) (execs body (envOf qual scope L' f cdv))
        (fun fl s' => LeaveK h₀ L m g R (match fl with | .ret v => v | _ => .none) s')
        (fun e s' => wpAny (model prog w) (A.deeper (envOf qual scope L' f cdv)) (leaving (envOf qual scope L' f cdv) e) (fun _ s'' => R (.error e) s'') (fun e' s'' => R (.error e') s'') s')
        { s with heap := h₁, toks := tk })
    (hco : scope.isCoroutine = false) (hgen : scope.isGenerator = false) (hk : scope.kind = .function)
    (hcell : ∀ x ∈ scope.names, x.2 ≠ .cell) : codeAny (model prog w) A (.call (.ref f) args) R s := by
  have _ := hx
  have _ := hnm
  refine codeAny_call_function (fd := fnOf name qual params body scope dV kV doc pm an cdv ct) (body := body) hroom ((X₀.keeps F.keep) _ _ ho) rfl hco hgen rfl (codeRec_of (X₀.keeps F.keep) hcd) ?_
  refine wp_of_peekA (o := dictOf [] 0) F N (X₀.keeps F.keep) rfl _ g₁ hp fun h' F' N' l => ?_
  rw [hk₁]
  refine wpAny_bind (kp_fill [(k, v)] { s with heap := h' } [] 0 F' N' (fun p hp => Nat.ne_of_lt (l p hp)) (fun _ he => nomatch he) (fun _ he => nomatch he) (by simp) fun h'' F'' N'' => wpAny_pure ?_)
  exact kp_frame (cl := []) (s := { s with heap := h'', toks := s.toks + 1 }) B F'' N'' T.nolimit hA hf hke (hloc _)
    (fun g L' h₁ FG FL NG BG st => h _ _ g L' h₁ _ l (F.notModules (modules_low T.nolimit)) FG FL NG BG (X₀.keeps st) (T.keeps st)) hcell hk
end
end Mine
end
section
open PySem PySem.W PySem.W.X PySem.Spec PySem.Calls PyProof.Rows PyProof.V
set_option Elab.async false
set_option maxRecDepth 100000
set_option maxHeartbeats 8000000
namespace Mine
theorem forIn_one {α : Type} (x : α) (f : α → PUnit → Sem (ForInStep PUnit)) : (forIn [x] PUnit.unit f) = (f x PUnit.unit >>= fun r => match r with | .done b => pure b | .yield b => pure b) := by
  rw [List.forIn_cons]
  congr 1
  funext r
  cases r <;> rfl
section
variable {prog : Program} {w : World} {A : Around} {E : Value → Shared → Prop} {s : Shared} {K : Frag} {L D : Addr} {h₀ : Heap} {m : Str → Option Value} {news : List (Addr × Obj)} {k : Str} {t : Tok} {v : Value} {n : Nat}
noncomputable abbrev oneOf (w : World) (k : Str) (t : Tok) (v : Value) (n : Nat) : Obj := dictOf [⟨PyData.keyHash w.params k, .str k t, v⟩] n
theorem isSub_dict : isSubtype (.type "dict") (.type "dict") = pure true := by rw [isSubtype_type]; kernel_rfl
theorem merge_one {d : Addr} {Q : Unit → Shared → Prop} (hD : s.heap.get? D = some (oneOf w k t v n)) (hd : s.heap.get? d = some (dictOf [] 0)) (hlo : (D == sysModules) = false) (hne : D ≠ d)
    (h : ∀ h', h'.get? d = some (oneOf w k t v 1) → Heap.SameBut d s.heap h' → Q () { s with heap := h' }) :
    wpAny (model prog w) A (mergeMapping d (.ref D) true) Q E s := by
  have hDt : s.TypeIs (.ref D) "dict" := ⟨_, hD, rfl⟩
  unfold mergeMapping
  refine wpAny_bind (wpAny_isInstance (b := true) hDt isSub_dict ?_)
  rw [if_pos rfl]
  refine wpAny_bind (wpAny_specialOf hDt F.slot_dict_iter.lookup ?_)
  have e0 : (some (Value.builtin "dict.__iter__") == some (Value.builtin "dict.__iter__")) = true := by decide
  rw [e0]
  refine wpAny_bind (wpAny_pure ?_)
  show wpAny _ _ (if (D == sysModules) = true then _ else _) _ _ _
  rw [hlo, if_neg (by decide)]
  refine wpAny_bind (wpAny_dictEntries hd rfl ?_)
  rw [if_pos (by rfl)]
  refine wpAny_bind (wpAny_dictEntries hD rfl ?_)
  have z1 : ∀ (f : DictEntry → PUnit → Sem (ForInStep PUnit)) , (forIn [(⟨PyData.keyHash w.params k, .str k t, v⟩ : DictEntry)].toArray PUnit.unit f) = (f ⟨PyData.keyHash w.params k, .str k t, v⟩ PUnit.unit >>= fun r => match r with | .done b => pure b | .yield b => pure b) := fun f => by
    rw [← Array.forIn_toList]
    exact forIn_one _ f
  rw [z1]
  refine wpAny_bind (wpAny_bind (wpAny_pure (wpAny_pure ?_)))
  refine wpAny_bind (wpAny_dictEntries hD rfl ?_)
  refine wpAny_bind (wpAny_dictEpoch hD rfl ?_)
  have z2 : ∀ (f : Nat → PUnit → Sem (ForInStep PUnit)) , (forIn (List.range [(⟨PyData.keyHash w.params k, .str k t, v⟩ : DictEntry)].toArray.size) PUnit.unit f) = (f 0 PUnit.unit >>= fun r => match r with | .done b => pure b | .yield b => pure b) := fun f => forIn_one 0 f
  rw [z2]
  refine wpAny_bind (wpAny_bind (wpAny_bind (wpAny_dictEntries hD rfl ?_)))
  show wpAny _ _ (holding [.str k t, v] _ >>= _) _ _ _
  refine wpAny_bind (wpAny_holding ?_)
  rw [if_pos rfl]
  refine wpAny_bind (wpAny_dictFind_of (knd := strKind prog w) (strKind_is prog w k t) hd rfl (fun _ he => nomatch he) ?_)
  have e1 : ((#[] : Array DictEntry).findIdx? fun e => (PySem.strKind prog w).is k e.key) = none := by simp
  rw [e1]
  rw [if_neg (by decide)]
  unfold dictPut
  refine wpAny_bind (wpAny_dictFind_of (knd := strKind prog w) (strKind_is prog w k t) hd rfl (fun _ he => nomatch he) ?_)
  rw [e1]
  refine wpAny_updateDictKeys (f := (·.push ⟨PyData.keyHash w.params k, .str k t, v⟩)) hd rfl ?_ (by simp [sizeLine]) (by simp)
  have hd' : (s.heap.update d (Obj.mapDictKeys (·.push ⟨PyData.keyHash w.params k, .str k t, v⟩))).get? d = some (oneOf w k t v 1) := Heap.get?_update_self _ hd rfl
  have hD' : (s.heap.update d (Obj.mapDictKeys (·.push ⟨PyData.keyHash w.params k, .str k t, v⟩))).get? D = some (oneOf w k t v n) := (Heap.get?_update_other _ _ (Ne.symm hne)).trans hD
  refine wpAny_bind (wpAny_dictEpoch hD' rfl ?_)
  rw [if_neg (by simp)]
  refine wpAny_pure (wpAny_pure (wpAny_pure ?_))
  exact h _ hd' (Heap.SameBut.update ..)
end
end Mine
end
section
open PySem PySem.W PySem.W.X PySem.Spec PySem.Calls PyProof.Rows PyProof.V
set_option Elab.async false
set_option maxRecDepth 100000
set_option maxHeartbeats 8000000
namespace Mine
section
variable {prog : Program} {w : World} {A : Around} {E : Value → Shared → Prop} {s : Shared} {K : Frag} {L D : Addr} {h₀ : Heap} {m : Str → Option Value} {news : List (Addr × Obj)} {k : Str} {t : Tok} {v : Value} {n : Nat}
theorem merged_one {env : Env} {pos kp : Pos} {kx : Expr} {f : Value} {Q : Addr → Shared → Prop} (F : Fr h₀ L s.heap m) (N : News h₀ L s.heap news) (hD : (D, oneOf w k t v n) ∈ news) (hlo : (D == sysModules) = false)
    (hkx : ∀ h' (Q E : _ → _ → Prop), Fr h₀ L h' m → Q (.ref D) { s with heap := h' } → wpAny (model prog w) A (eval kx env) Q E { s with heap := h' })
    (h : ∀ d h', Fr h₀ L h' m → News h₀ L h' ((d, oneOf w k t v 1) :: news) → Q d { s with heap := h' }) :
    wpAny (model prog w) A (mergedKeywords f (backToKw pos (keywordEach [⟨none, kx, kp⟩] env))) Q E s := by
  have F1 : Fr h₀ L (s.heap.push (dictOf [] 0)) m := F.push _
  have N1 := N.push F (dictOf [] 0)
  have hDne : D ≠ s.heap.objs.size := Nat.ne_of_lt (Heap.lt_size (N _ hD).1)
  unfold mergedKeywords
  refine wpAny_bind (wpAny_alloc ?_)
  refine wpAny_bind (wpAny_holding ?_)
  show wpAny _ _ (forIn [((none : Option Str), (do let v ← eval kx env; standAt pos; pure v))] _ _ >>= _) _ _ _
  rw [List.forIn_cons]
  refine wpAny_bind (wpAny_bind (wpAny_bind ?_))
  show wpAny _ _ (pure ()) _ _ _
  refine wpAny_pure (wpAny_bind ?_)
  refine wpAny_bind (hkx _ _ _ F1 (wpAny_bind (wpAny_standAt (wpAny_pure ?_))))
  refine wpAny_bind (wpAny_onRaise ?_)
  refine wpAny_holding (wpAny_tryCatch (wpAny_onRaise ?_))
  refine merge_one (N1 _ (.tail _ hD)).1 (N1 _ (.head _)).1 hlo hDne fun h' e' hs => ?_
  refine wpAny_pure (wpAny_pure ?_)
  show wpAny _ _ (pure ()) _ _ _
  refine wpAny_pure (wpAny_pure ?_)
  have U : Upd s.heap.objs.size (dictOf [] 0) (oneOf w k t v 1) ((s.heap.objs.size, dictOf [] 0) :: news) ((s.heap.objs.size, oneOf w k t v 1) :: news) := .head fun p hp => Nat.ne_of_lt (Heap.lt_size (N p hp).1)
  obtain ⟨F2, N2⟩ := news_same F1 U N1 e' hs
  exact h _ h' F2 N2

theorem kw_in {d : Addr} {f : Value} {Q : List (Str × Value) → Shared → Prop} (hd : s.heap.get? d = some (oneOf w k t v n)) (h : Q [(k, v)] s) : wpAny (model prog w) A (keywordsIn f d) Q E s := by
  unfold keywordsIn
  refine wpAny_bind (wpAny_dictEntries hd rfl ?_)
  rw [← Array.forIn_toList]
  show wpAny _ _ (forIn [(⟨PyData.keyHash w.params k, .str k t, v⟩ : DictEntry)] _ _ >>= _) _ _ _
  rw [List.forIn_cons]
  refine wpAny_bind (wpAny_bind ?_)
  exact wpAny_pure (wpAny_pure (wpAny_pure h))
theorem star_call {env : Env} {pos kp : Pos} {e kx : Expr} {f : Addr} {v1 : Value} {Q : Value → Shared → Prop} (F : Fr h₀ L s.heap m) (X₀ : K.In h₀) (N : News h₀ L s.heap news) (hD : (D, oneOf w k t v n) ∈ news) (hlo : (D == sysModules) = false)
    (hf : fnIn K f = true)
    (he : starEach [e] env = [(false, eval e env)])
    (hv1 : ∀ (Q E : _ → _ → Prop), Q v1 s → wpAny (model prog w) A (eval e env) Q E s)
    (hkx : ∀ h' (Q E : _ → _ → Prop), Fr h₀ L h' m → Q (.ref D) { s with heap := h' } → wpAny (model prog w) A (eval kx env) Q E { s with heap := h' })
    (h : ∀ d h', Fr h₀ L h' m → News h₀ L h' ((d, oneOf w k t v 1) :: news) → wpAny (model prog w) A (call (.ref f) [v1] [(k, v)]) Q E { s with heap := h' }) :
    wpAny (model prog w) A (callWith pos (.ref f) [] (backTo pos (starEach [e] env)) (backToKw pos (keywordEach [⟨none, kx, kp⟩] env))) Q E s := by
  have hb : backTo pos (starEach [e] env) = [(false, eval e env)] := by rw [he]; rfl
  rw [hb]
  unfold callWith
  refine wpAny_bind (wpAny_holding ?_)
  unfold evalArgs
  show wpAny _ _ (spliced [(false, eval e env)] >>= _) _ _ _
  refine wpAny_bind (Calls.spliced_cons (hv1 _ _ (Calls.spliced_nil ?_)))
  refine wpAny_bind (wpAny_pure ?_)
  refine wpAny_holding ?_
  dsimp only
  have hall : ((backToKw pos (keywordEach [⟨none, kx, kp⟩] env)).all fun x => x.1.isSome) = false := rfl
  rw [hall, if_neg Bool.false_ne_true]
  refine wpAny_bind (merged_one F N hD hlo hkx fun d h' F' N' => ?_)
  refine wpAny_bind (wpAny_pure ?_)
  refine wpAny_bind (wpAny_holding (kw_in (N' _ (.head _)).1 ?_))
  refine wpAny_pure (wpAny_bind (wpAny_standAt ?_))
  have X := X₀.keeps F'.keep
  obtain ⟨oc, od, fd, sl, e⟩ : ∃ oc od fd sl, K.lookup f = some ⟨oc, od, .func fd, sl⟩ := by
    unfold fnIn at hf
    split at hf
    · exact ⟨_, _, _, _, by assumption⟩
    · cases hf
  refine wpAny_bind ?_
  show wpAny _ _ (load f >>= _) _ _ _
  refine wpAny_bind (wpAny_load (X _ _ e) (wpAny_pure ?_))
  show wpAny _ _ (callMarked starredCall (.ref f) ([] ++ [v1]) [(k, v)] >>= _) _ _ _
  refine wpAny_bind ?_
  unfold callMarked
  refine Calls.wpAny_keep (wpAny_mono (h d h' F' N') (fun r s' hr => wpAny_bind (wpAny_holding (wpAny_point (wpAny_pure hr)))) fun _ _ z => z)
end
end Mine
end
section
open PySem PySem.W PySem.W.X PySem.Spec PySem.Calls PyProof.Rows PyProof.V
set_option Elab.async false
set_option maxRecDepth 100000
set_option maxHeartbeats 8000000
namespace Mine
theorem find3_lit {x : Str} {c i k : Nat} (hk : k < x.length) (hik : fromIndex x.length i ≤ k) (hc : x.cps.getD k 0 = c) (hb : ∀ v, fromIndex x.length i ≤ v → v < k → x.cps.getD v 0 ≠ c) : Txt.find3 x ⟨#[c]⟩ (i : Int) = (k : Int) := by
  rcases StrLaws.find3_spec x c i with ⟨_, h⟩ | ⟨k', h, h1, h2, h3, h4⟩
  · exact absurd hc (h k hik hk)
  · rw [h]
    rcases Nat.lt_trichotomy k' k with z | z | z
    · exact absurd h3 (hb k' h1 z)
    · rw [z]
    · exact absurd hc (h4 k hik z)
noncomputable abbrev h3 (c0 c1 c2 : Nat) : Str := ⟨#[50, 50, 57, 32, 40, 124, 124, 124, c0, c1, c2]⟩
noncomputable abbrev t3 (c0 c1 c2 : Nat) : Str := ⟨#[50, 50, 57, 32, 40, 124, 124, 124, c0, c1, c2, 124, 41]⟩
theorem cat1_3 (c0 c1 c2 : Nat) : Str.ofString "229 (|||" ++ (⟨#[c0, c1, c2]⟩ : Str) = h3 c0 c1 c2 := by rfl
theorem cat2_3 (c0 c1 c2 : Nat) : h3 c0 c1 c2 ++ Str.ofString "|)" = t3 c0 c1 c2 := by rfl
theorem sl1_3 (c0 c1 c2 : Nat) : Txt.slice (t3 c0 c1 c2) none (some 3) = Str.ofString "229" := by rfl
theorem fi1_3 (c0 c1 c2 : Nat) : Txt.find (t3 c0 c1 c2) (Str.ofString "(") = 4 := by
  refine (show Txt.find (t3 c0 c1 c2) ⟨#[40]⟩ = Txt.find3 (t3 c0 c1 c2) ⟨#[40]⟩ (0 : Nat) from rfl).trans (find3_lit (i := 0) (k := 4) (by show 4 < 13; decide) (Nat.zero_le _) rfl fun v _ hv => ?_)
  match v, hv with
  | 0, _ => show (50 : Nat) ≠ 40; decide
  | 1, _ => show (50 : Nat) ≠ 40; decide
  | 2, _ => show (57 : Nat) ≠ 40; decide
  | 3, _ => show (32 : Nat) ≠ 40; decide
theorem fi2_3 {c0 c1 c2 : Nat} (h0 : 48 ≤ c0 ∧ c0 ≤ 57) (h1 : 48 ≤ c1 ∧ c1 ≤ 57) (h2 : 48 ≤ c2 ∧ c2 ≤ 57) : Txt.find3 (t3 c0 c1 c2) (Str.ofString ")") 5 = 12 := by
  refine find3_lit (c := 41) (i := 5) (k := 12) (by show 12 < 13; decide) (by show 5 ≤ 12; decide) rfl fun v hv hv' => ?_
  have : 5 ≤ v := hv
  match v, this, hv' with
  | 5, _, _ => show (124 : Nat) ≠ 41; decide
  | 6, _, _ => show (124 : Nat) ≠ 41; decide
  | 7, _, _ => show (124 : Nat) ≠ 41; decide
  | 8, _, _ => show c0 ≠ 41; omega
  | 9, _, _ => show c1 ≠ 41; omega
  | 10, _, _ => show c2 ≠ 41; omega
  | 11, _, _ => show (124 : Nat) ≠ 41; decide
theorem it1_3 (c0 c1 c2 : Nat) : Txt.item (t3 c0 c1 c2) 5 = ⟨#[124]⟩ := by rfl
theorem it2_3 (c0 c1 c2 : Nat) : Txt.item (t3 c0 c1 c2) 11 = ⟨#[124]⟩ := by rfl
theorem sl2_3 (c0 c1 c2 : Nat) : Txt.slice (t3 c0 c1 c2) (some 5) (some 12) = ⟨#[124, 124, 124, c0, c1, c2, 124]⟩ := by rfl
noncomputable abbrev h4 (c0 c1 c2 c3 : Nat) : Str := ⟨#[50, 50, 57, 32, 40, 124, 124, 124, c0, c1, c2, c3]⟩
noncomputable abbrev t4 (c0 c1 c2 c3 : Nat) : Str := ⟨#[50, 50, 57, 32, 40, 124, 124, 124, c0, c1, c2, c3, 124, 41]⟩
theorem cat1_4 (c0 c1 c2 c3 : Nat) : Str.ofString "229 (|||" ++ (⟨#[c0, c1, c2, c3]⟩ : Str) = h4 c0 c1 c2 c3 := by rfl
theorem cat2_4 (c0 c1 c2 c3 : Nat) : h4 c0 c1 c2 c3 ++ Str.ofString "|)" = t4 c0 c1 c2 c3 := by rfl
theorem sl1_4 (c0 c1 c2 c3 : Nat) : Txt.slice (t4 c0 c1 c2 c3) none (some 3) = Str.ofString "229" := by rfl
theorem fi1_4 (c0 c1 c2 c3 : Nat) : Txt.find (t4 c0 c1 c2 c3) (Str.ofString "(") = 4 := by
  refine (show Txt.find (t4 c0 c1 c2 c3) ⟨#[40]⟩ = Txt.find3 (t4 c0 c1 c2 c3) ⟨#[40]⟩ (0 : Nat) from rfl).trans (find3_lit (i := 0) (k := 4) (by show 4 < 14; decide) (Nat.zero_le _) rfl fun v _ hv => ?_)
  match v, hv with
  | 0, _ => show (50 : Nat) ≠ 40; decide
  | 1, _ => show (50 : Nat) ≠ 40; decide
  | 2, _ => show (57 : Nat) ≠ 40; decide
  | 3, _ => show (32 : Nat) ≠ 40; decide
theorem fi2_4 {c0 c1 c2 c3 : Nat} (h0 : 48 ≤ c0 ∧ c0 ≤ 57) (h1 : 48 ≤ c1 ∧ c1 ≤ 57) (h2 : 48 ≤ c2 ∧ c2 ≤ 57) (h3 : 48 ≤ c3 ∧ c3 ≤ 57) : Txt.find3 (t4 c0 c1 c2 c3) (Str.ofString ")") 5 = 13 := by
  refine find3_lit (c := 41) (i := 5) (k := 13) (by show 13 < 14; decide) (by show 5 ≤ 13; decide) rfl fun v hv hv' => ?_
  have : 5 ≤ v := hv
  match v, this, hv' with
  | 5, _, _ => show (124 : Nat) ≠ 41; decide
  | 6, _, _ => show (124 : Nat) ≠ 41; decide
  | 7, _, _ => show (124 : Nat) ≠ 41; decide
  | 8, _, _ => show c0 ≠ 41; omega
  | 9, _, _ => show c1 ≠ 41; omega
  | 10, _, _ => show c2 ≠ 41; omega
  | 11, _, _ => show c3 ≠ 41; omega
  | 12, _, _ => show (124 : Nat) ≠ 41; decide
theorem it1_4 (c0 c1 c2 c3 : Nat) : Txt.item (t4 c0 c1 c2 c3) 5 = ⟨#[124]⟩ := by rfl
theorem it2_4 (c0 c1 c2 c3 : Nat) : Txt.item (t4 c0 c1 c2 c3) 12 = ⟨#[124]⟩ := by rfl
theorem sl2_4 (c0 c1 c2 c3 : Nat) : Txt.slice (t4 c0 c1 c2 c3) (some 5) (some 13) = ⟨#[124, 124, 124, c0, c1, c2, c3, 124]⟩ := by rfl
noncomputable abbrev m3 (c0 c1 c2 : Nat) : PySem.Str := ⟨#[124, 124, 124, c0, c1, c2, 124]⟩
theorem oc_3 {c0 c1 c2 : Nat} (h0 : 48 ≤ c0 ∧ c0 ≤ 57) (h1 : 48 ≤ c1 ∧ c1 ≤ 57) (h2 : 48 ≤ c2 ∧ c2 ≤ 57) : Builtin.Str.occurrences (m3 c0 c1 c2) ⟨#[124]⟩ 0 7 8 = [0, 1, 2, 6] := by
  rw [StrLaws.occ_eq]
  have s0 : Builtin.Str.subAt (m3 c0 c1 c2) ⟨#[124]⟩ 0 = true := rfl
  have s1 : Builtin.Str.subAt (m3 c0 c1 c2) ⟨#[124]⟩ 1 = true := rfl
  have s2 : Builtin.Str.subAt (m3 c0 c1 c2) ⟨#[124]⟩ 2 = true := rfl
  have s3 : Builtin.Str.subAt (m3 c0 c1 c2) ⟨#[124]⟩ 3 = false := by
    show ((#[c0] : Array Nat) == #[124]) = false
    have : c0 ≠ 124 := by omega
    simp [this]
  have s4 : Builtin.Str.subAt (m3 c0 c1 c2) ⟨#[124]⟩ 4 = false := by
    show ((#[c1] : Array Nat) == #[124]) = false
    have : c1 ≠ 124 := by omega
    simp [this]
  have s5 : Builtin.Str.subAt (m3 c0 c1 c2) ⟨#[124]⟩ 5 = false := by
    show ((#[c2] : Array Nat) == #[124]) = false
    have : c2 ≠ 124 := by omega
    simp [this]
  have s6 : Builtin.Str.subAt (m3 c0 c1 c2) ⟨#[124]⟩ 6 = true := rfl
  have s7 : Builtin.Str.subAt (m3 c0 c1 c2) ⟨#[124]⟩ 7 = false := rfl
  generalize m3 c0 c1 c2 = X at *
  simp [StrLaws.occBody, List.range', s0, s1, s2, s3, s4, s5, s6, s7, PySem.Str.length]
theorem split_3 {c0 c1 c2 : Nat} (h0 : 48 ≤ c0 ∧ c0 ≤ 57) (h1 : 48 ≤ c1 ∧ c1 ≤ 57) (h2 : 48 ≤ c2 ∧ c2 ≤ 57) : Txt.split (m3 c0 c1 c2) ⟨#[124]⟩ = [⟨#[]⟩, ⟨#[]⟩, ⟨#[]⟩, ⟨#[c0, c1, c2]⟩, ⟨#[]⟩] := by
  have e : Builtin.Str.occurrences (m3 c0 c1 c2) ⟨#[124]⟩ 0 (m3 c0 c1 c2).length ((m3 c0 c1 c2).length + 1) = [0, 1, 2, 6] := oc_3 h0 h1 h2
  have k : 1 ≤ Builtin.Str.strKind (m3 c0 c1 c2) := by
    unfold Builtin.Str.strKind
    split
    · exact Nat.le_refl _
    · split <;> decide
  have k1 : Builtin.Str.strKind (⟨#[124]⟩ : PySem.Str) = 1 := by decide +kernel
  unfold Txt.split
  rw [e, k1]
  have z1 : decide ((m3 c0 c1 c2).length < (⟨#[124]⟩ : PySem.Str).length) = false := by rfl
  have z2 : decide (Builtin.Str.strKind (m3 c0 c1 c2) < 1) = false := decide_eq_false (by omega)
  rw [z1, z2]
  rfl
noncomputable abbrev m4 (c0 c1 c2 c3 : Nat) : PySem.Str := ⟨#[124, 124, 124, c0, c1, c2, c3, 124]⟩
theorem oc_4 {c0 c1 c2 c3 : Nat} (h0 : 48 ≤ c0 ∧ c0 ≤ 57) (h1 : 48 ≤ c1 ∧ c1 ≤ 57) (h2 : 48 ≤ c2 ∧ c2 ≤ 57) (h3 : 48 ≤ c3 ∧ c3 ≤ 57) : Builtin.Str.occurrences (m4 c0 c1 c2 c3) ⟨#[124]⟩ 0 8 9 = [0, 1, 2, 7] := by
  rw [StrLaws.occ_eq]
  have s0 : Builtin.Str.subAt (m4 c0 c1 c2 c3) ⟨#[124]⟩ 0 = true := rfl
  have s1 : Builtin.Str.subAt (m4 c0 c1 c2 c3) ⟨#[124]⟩ 1 = true := rfl
  have s2 : Builtin.Str.subAt (m4 c0 c1 c2 c3) ⟨#[124]⟩ 2 = true := rfl
  have s3 : Builtin.Str.subAt (m4 c0 c1 c2 c3) ⟨#[124]⟩ 3 = false := by
    show ((#[c0] : Array Nat) == #[124]) = false
    have : c0 ≠ 124 := by omega
    simp [this]
  have s4 : Builtin.Str.subAt (m4 c0 c1 c2 c3) ⟨#[124]⟩ 4 = false := by
    show ((#[c1] : Array Nat) == #[124]) = false
    have : c1 ≠ 124 := by omega
    simp [this]
  have s5 : Builtin.Str.subAt (m4 c0 c1 c2 c3) ⟨#[124]⟩ 5 = false := by
    show ((#[c2] : Array Nat) == #[124]) = false
    have : c2 ≠ 124 := by omega
    simp [this]
  have s6 : Builtin.Str.subAt (m4 c0 c1 c2 c3) ⟨#[124]⟩ 6 = false := by
    show ((#[c3] : Array Nat) == #[124]) = false
    have : c3 ≠ 124 := by omega
    simp [this]
  have s7 : Builtin.Str.subAt (m4 c0 c1 c2 c3) ⟨#[124]⟩ 7 = true := rfl
  have s8 : Builtin.Str.subAt (m4 c0 c1 c2 c3) ⟨#[124]⟩ 8 = false := rfl
  generalize m4 c0 c1 c2 c3 = X at *
  simp [StrLaws.occBody, List.range', s0, s1, s2, s3, s4, s5, s6, s7, s8, PySem.Str.length]
theorem split_4 {c0 c1 c2 c3 : Nat} (h0 : 48 ≤ c0 ∧ c0 ≤ 57) (h1 : 48 ≤ c1 ∧ c1 ≤ 57) (h2 : 48 ≤ c2 ∧ c2 ≤ 57) (h3 : 48 ≤ c3 ∧ c3 ≤ 57) : Txt.split (m4 c0 c1 c2 c3) ⟨#[124]⟩ = [⟨#[]⟩, ⟨#[]⟩, ⟨#[]⟩, ⟨#[c0, c1, c2, c3]⟩, ⟨#[]⟩] := by
  have e : Builtin.Str.occurrences (m4 c0 c1 c2 c3) ⟨#[124]⟩ 0 (m4 c0 c1 c2 c3).length ((m4 c0 c1 c2 c3).length + 1) = [0, 1, 2, 7] := oc_4 h0 h1 h2 h3
  have k : 1 ≤ Builtin.Str.strKind (m4 c0 c1 c2 c3) := by
    unfold Builtin.Str.strKind
    split
    · exact Nat.le_refl _
    · split <;> decide
  have k1 : Builtin.Str.strKind (⟨#[124]⟩ : PySem.Str) = 1 := by decide +kernel
  unfold Txt.split
  rw [e, k1]
  have z1 : decide ((m4 c0 c1 c2 c3).length < (⟨#[124]⟩ : PySem.Str).length) = false := by rfl
  have z2 : decide (Builtin.Str.strKind (m4 c0 c1 c2 c3) < 1) = false := decide_eq_false (by omega)
  rw [z1, z2]
  rfl
end Mine
end
section
open PySem PySem.W PySem.W.X PySem.Spec PySem.Calls PyProof.Rows PyProof.V
set_option Elab.async false
set_option maxRecDepth 100000
set_option maxHeartbeats 8000000
namespace Mine
section
variable {prog : Program} {w : World} {A : Around} {E Q : Value → Shared → Prop} {s : Shared} {h₀ : Heap} {L : Addr} {m : Str → Option Value} {news : List (Addr × Obj)} {x y z : Str} {t u v uj ui : Tok} {i j k : Int} {value slice : Expr}
theorem lit_add (hz : x ++ y = z) (hl : x.length + y.length ≤ sizeLine) (h : ∀ t' tk, Q (.str z t') { s with toks := tk }) : wpAny (model prog w) A (binaryOp .Add (.str x t) (.str y u)) Q E s :=
  PyProof.Rows.add_str (by rw [hz]; exact h) hl
theorem lit_ne {b : Bool} (hb : (x != y) = b) (h : Q (.bool b) s) : wpAny (model prog w) A (compareOp .NotEq (.str x t) (.str y u)) Q E s := by
  subst hb; exact ne_str h
theorem lit_find (hz : Txt.find x y = k) (h : Q (.int k s.toks) { s with toks := s.toks + 1 }) : wpAny (model prog w) A (call (.builtin "str.find") [.str x t, .str y u]) Q E s := by
  subst hz; exact SC.find h
theorem lit_find3 (hz : Txt.find3 x y i = k) (h : Q (.int k s.toks) { s with toks := s.toks + 1 }) : wpAny (model prog w) A (call (.builtin "str.find") [.str x t, .str y u, .int i v]) Q E s := by
  subst hz; exact SC.find3 h
theorem lit_slice_ns (hF : Fr h₀ L s.heap m) (hN : News h₀ L s.heap news) (hz : Txt.slice x none (some j) = z) (hsz : x.length ≤ sizeLine) (h : ∀ h' t' k, Fr h₀ L h' m → News h₀ L h' news → Q (.str z t') { s with heap := h', toks := k })
    (hs : subscripted slice false (.str x t) (.ref s.heap.objs.size) = operate [.ref s.heap.objs.size, .str x t] (getItem (.str x t) (.ref s.heap.objs.size)))
    (ht : ∀ r, letTemporaryGo value (.str x t) r = pure ()) :
    wpAny (model prog w) A (subscriptTail value slice (.str x t) (.ref s.heap.objs.size)) Q E { s with heap := s.heap.push { cls := .type "slice", data := .fields #[.none, .int j uj, .none] } } := by
  subst hz; exact slice_strN_ns hF hN h hs ht hsz
theorem lit_slice_ss (hF : Fr h₀ L s.heap m) (hN : News h₀ L s.heap news) (hz : Txt.slice x (some i) (some j) = z) (hsz : x.length ≤ sizeLine) (h : ∀ h' t' k, Fr h₀ L h' m → News h₀ L h' news → Q (.str z t') { s with heap := h', toks := k })
    (hs : subscripted slice false (.str x t) (.ref s.heap.objs.size) = operate [.ref s.heap.objs.size, .str x t] (getItem (.str x t) (.ref s.heap.objs.size)))
    (ht : ∀ r, letTemporaryGo value (.str x t) r = pure ()) :
    wpAny (model prog w) A (subscriptTail value slice (.str x t) (.ref s.heap.objs.size)) Q E { s with heap := s.heap.push { cls := .type "slice", data := .fields #[.int i ui, .int j uj, .none] } } := by
  subst hz; exact slice_strN_ss hF hN h hs ht hsz
theorem lit_item (hr : fitsSsize i = true) (h1 : -(x.length : Int) ≤ i) (h2 : i < x.length) (hz : Txt.item x i = z) (h : Q (.str z s.toks) { s with toks := s.toks + 1 })
    (hs : subscripted slice false (.str x t) (.int i u) = operate [.str x t, .int i u] (getItem (.str x t) (.int i u))) (ht : ∀ r, letTemporaryGo value (.str x t) r = pure ()) :
    wpAny (model prog w) A (subscriptTail value slice (.str x t) (.int i u)) Q E s := by
  subst hz; exact item_str hr h1 h2 (fun _ => h) hs ht
theorem lit_split {l0 : List Str} (hF : Fr h₀ L s.heap m) (hN : News h₀ L s.heap news) (hy : (y.length == 0) = false) (hz : Txt.split x y = l0) (hsz : x.length + 2 ≤ sizeLine)
    (h : ∀ D l h' k, l.map (·.1) = l0 → Fr h₀ L h' m → News h₀ L h' ((D, { cls := .type "list", data := .seq (strValues l).toArray }) :: news) → (∀ p ∈ news, p.1 < D) → Q (.ref D) { s with heap := h', toks := k }) :
    wpAny (model prog w) A (call (.builtin "str.split") [.str x t, .str y u]) Q E s := by
  subst hz; exact splitN1 hF hN hy (fun l h' k e F N => h _ l h' k e F N fun p hp => Heap.lt_size (hN p hp).1) hsz
end
theorem five {l : List (Str × Tok)} {a b c d e : Str} (h : l.map (·.1) = [a, b, c, d, e]) : ∃ ta tb tc td te, strValues l = [.str a ta, .str b tb, .str c tc, .str d td, .str e te] := by
  match l, h with
  | [(a', ta), (b', tb), (c', tc), (d', td), (e', te)], h =>
    simp only [List.map_cons, List.map_nil, List.cons.injEq, and_true] at h
    obtain ⟨rfl, rfl, rfl, rfl, rfl⟩ := h
    exact ⟨ta, tb, tc, td, te, rfl⟩
theorem int_3 {c0 c1 c2 : Nat} (h0 : 48 ≤ c0 ∧ c0 ≤ 57) (h1 : 48 ≤ c1 ∧ c1 ≤ 57) (h2 : 48 ≤ c2 ∧ c2 ≤ 57) : PySem.intText? ⟨#[c0, c1, c2]⟩ = some (((c0 - 48) * 100 + (c1 - 48) * 10 + (c2 - 48) : Nat) : Int) := by
  have e := intText_digits (x := ⟨#[c0, c1, c2]⟩) (by intro c hc; simp at hc; rcases hc with rfl | rfl | rfl <;> assumption) (by simp) (Nat.le_of_ble_eq_true rfl)
  rw [e]
  have : PySem.NumText.digitsVal [c0, c1, c2] = (c0 - 48) * 100 + (c1 - 48) * 10 + (c2 - 48) := by
    simp only [PySem.NumText.digitsVal, List.foldl_cons, List.foldl_nil]; omega
  exact congrArg (fun n : Nat => some (n : Int)) this
theorem int_4 {c0 c1 c2 c3 : Nat} (h0 : 48 ≤ c0 ∧ c0 ≤ 57) (h1 : 48 ≤ c1 ∧ c1 ≤ 57) (h2 : 48 ≤ c2 ∧ c2 ≤ 57) (h3 : 48 ≤ c3 ∧ c3 ≤ 57) : PySem.intText? ⟨#[c0, c1, c2, c3]⟩ = some (((c0 - 48) * 1000 + (c1 - 48) * 100 + (c2 - 48) * 10 + (c3 - 48) : Nat) : Int) := by
  have e := intText_digits (x := ⟨#[c0, c1, c2, c3]⟩) (by intro c hc; simp at hc; rcases hc with rfl | rfl | rfl | rfl <;> assumption) (by simp) (Nat.le_of_ble_eq_true rfl)
  rw [e]
  have : PySem.NumText.digitsVal [c0, c1, c2, c3] = (c0 - 48) * 1000 + (c1 - 48) * 100 + (c2 - 48) * 10 + (c3 - 48) := by
    simp only [PySem.NumText.digitsVal, List.foldl_cons, List.foldl_nil]; omega
  exact congrArg (fun n : Nat => some (n : Int)) this
end Mine
end
section
open PySem PySem.W PySem.W.X PySem.Spec PySem.Calls PyProof.Rows
set_option Elab.async false
set_option maxRecDepth 100000
set_option maxHeartbeats 8000000
namespace Mine
theorem keep2_drop4_3 {h₀ h : Heap} {L : Addr} {a b c d e f : Addr × Obj} {news : List (Addr × Obj)} (N : News h₀ L h (a :: b :: c :: d :: e :: f :: news)) : News h₀ L h (a :: b :: news) := news_sub N fun p hp => by
  rcases List.mem_cons.mp hp with rfl | hp
  · exact .head _
  rcases List.mem_cons.mp hp with rfl | hp
  · exact .tail _ (.head _)
  · exact .tail _ (.tail _ (.tail _ (.tail _ (.tail _ (.tail _ hp)))))
theorem asked3 : ∀ (w : World) (p : Program) (loose : List Str) (mean : ExcName → Option Value) (mg mb : Str → Option Value)
   (dp un : Nat) (gd : Option (List Code)) (cn : Str) (cs : Scope) (a : Addr) (ccd : Value) (cl : List (Str × Addr)) (outer : List Env) (A₀ : Around) (base h₀ : Heap) (L : Addr) (m : Str → Option Value) (s : Shared) (Q E : Value → Shared → Prop)
   (news : List (Addr × Obj)) (c0 c1 c2 : Nat) (tk : Tok)
   (B : Below A₀ base outer h₀) (F : Fr h₀ L s.heap m) (X : (hd.heap_1 w.params).In h₀) (Z : ZIn w h₀) (N : News h₀ L s.heap (news)) (T : Top p loose mean mg mb h₀) (hk : cs.kind = .function)
   (hdp : dp ≤ 310) (hun : un ≤ 40)
   (h0 : 48 ≤ c0 ∧ c0 ≤ 57) (h1 : 48 ≤ c1 ∧ c1 ≤ 57) (h2 : 48 ≤ c2 ∧ c2 ≤ 57)
   (hret : ∀ D1 D2 t1 t2 h' tk', Fr h₀ L h' m → News h₀ L h' ((D1, tupOf [.ref D2, .ref D2]) :: (D2, tupOf [.str (Str.ofString "h") t1, .int (((c0 - 48) * 100 + (c1 - 48) * 10 + (c2 - 48) : Nat) : Int) t2]) :: news) → Q (.ref D1) { s with heap := h', toks := tk' }),
   wpAny (model Challenge.rw_yh0009_01.row.prog w) (ktrTop dp un gd cn cs L a ccd cl outer) (call (.ref 193) [.str ⟨#[c0, c1, c2]⟩ tk]) Q E s := by
  k_fill
  intro w p loose mean mg mb dp un gd cn cs a ccd cl outer A₀ base h₀ L m s Q E news c0 c1 c2 tk B F X Z N T hk hdp hun h0 h1 h2 hret
  refine weaken (A' := ktrTop 310 40 gd cn cs L a ccd cl outer) rfl hdp rfl rfl hun ?_
  refine wpAny_call ?_
  k_dflt cell_enter
  repeat' (first | (k_unfold; (try dsimp only)) | ((with_reducible show wpAny _ _ (call _ _ _) _ _ _); with_reducible (first | ((with_reducible show wpAny _ _ (call (Value.type "int") _ _) _ _ _); ((k_here; k_dflt (first | (refine KIN.call_text (int_3 (by assumption) (by assumption) (by assumption)) (Nat.le_of_ble_eq_true rfl) ?_))))) | ((with_reducible show wpAny _ _ (call (Value.builtin "str.split") _ _) _ _ _); ((k_here; k_dflt (first | (refine' lit_split ?F ?N (by rfl) (split_3 (by assumption) (by assumption) (by assumption)) ?z ?_; (case F => k_asm); (case N => k_asm); (case z => exact Nat.le_of_ble_eq_true rfl); intro D' l' h' t' e' F' N' lt'; (try k_lt lt'); obtain ⟨u0, u1, u2, u3, u4, eq'⟩ := five e'; rw [eq'] at N'; (try k_sweep)))))) | ((with_reducible show wpAny _ _ (call (Value.builtin "str.find") _ _) _ _ _); ((k_here; k_dflt (first | (refine lit_find (fi1_3 _ _ _) ?_) | (refine lit_find3 (fi2_3 (by assumption) (by assumption) (by assumption)) ?_))))) | (((k_here; (with_reducible show wpAny _ _ (call (Value.ref 51) _ _) _ _ _); k_dflt (refine wpAny_call ?_; (refine' more_ref ?k1 ?k2 ?k3 ?k4 ?k5 ?kA ?kF ?kK ?k6 ?k7 ?k8 ?kX ?kM ?kR ?kP ?kT ?kB ?_ ?c2 ?c3 ?c4 ?c5; (case kA => exact rfl); (case kF => exact rfl); (case kK => exact rfl); (case k1 => k_asm); (case k2 => k_asm); (case k3 => k_asm); (case k4 => k_asm); (case k5 => k_asm); (case k6 => k_is); (case k7 => k_is); (case k8 => k_room); (case kX => kp_lit); (case kM => exact rfl); (case kR => exact rfl); (case kP => exact rfl); (case kT => exact fun _ => rfl); (case kB => exact fun _ => locs rfl); (case c5 => decide); (case c2 => exact rfl); (case c3 => exact rfl); (case c4 => exact rfl); k_whole; intro D' td' g' L' h' tk' l1 lo' FG' F' N' B' X' T'; (try k_lt l1); (try dsimp only); (try k_lift B'); (try k_fold)))))) | ((with_reducible show wpAny _ _ (call (Value.builtin "max") _ _) _ _ _); ((k_here; k_dflt (refine' r_max ?F ?N ?hh ?hd ?hD ?hr ?hni ?hif ?hn ?h0 ?h1 ?hlv ?_; (case F => k_asm); (case N => k_asm); (case hh => rfl); (case hd => k_mem); (case hD => assumption); (case hr => assumption); (case hni => assumption); (case hif => assumption); (case hn => assumption); (case h0 => assumption); (case h1 => assumption); (case hlv => first | exact if_neg (by omega) | exact if_pos (by omega)); k_whole); intro h' r' F' N'; (try k_sweep)))) | ((with_reducible show wpAny _ _ (call (Value.type "filter") _ _) _ _ _); ((k_here; k_dflt (refine' r_filter ?F ?Z ?N ?hh ?hdp ?hun ?hv ?hd ?hD ?hr ?_; (case F => k_asm); (case Z => (first | assumption | exact ZIn.keeps (by assumption) (Fr.keep (by assumption)) | exact ZIn.keeps (ZIn.keeps (by assumption) (Fr.keep (by assumption))) (Fr.keep (by assumption)))); (case N => k_asm); (case hh => rfl); (case hdp => exact Nat.le_of_ble_eq_true rfl); (case hun => exact Nat.le_of_ble_eq_true rfl); (case hv => k_mem); (case hd => k_mem); (case hD => assumption); (case hr => assumption); k_whole); intro f' i' n' h' t' F' N' ha' hif' hn'; (try k_sweep)))) | ((with_reducible show wpAny _ _ (call (Value.builtin "list.append") _ _) _ _ _); ((k_here; k_dflt (refine' row_appendK ?k1 ?k2 ?k3 ?k4 ?k5 ?k6 ?k7 ?_; (case k1 => k_asm); (case k2 => k_asm); (case k3 => k_asm); (case k4 => k_is); (case k5 => k_mem); (case k6 => first | assumption | exact Nat.le_of_ble_eq_true rfl); (case k7 => k_upd); k_whole); intro h' F' N'; (try k_sweep)))) | ((with_reducible show wpAny _ _ (call (Value.ref _) _ _) _ _ _); ((k_here; k_dflt (first | (refine' bound_lenK ?k1 ?k2 ?k3 ?_; (case k1 => k_asm); (case k2 => k_mem); (case k3 => k_mem); k_whole) | (refine' bound_initK ?k1 ?k2 ?k3 ?k4 ?k5 ?_; (case k1 => k_asm); (case k2 => k_asm); (case k3 => k_mem); (case k4 => k_mem); (case k5 => k_upd); k_whole; intro h' F' N'; (try k_sweep)) | (refine' bound_popK ?k1 ?k2 ?k3 ?k4 ?k5 ?k6 ?k7 ?k8 ?k9 ?k10 ?k11 ?_; (case k1 => k_asm); (case k2 => k_asm); (case k3 => k_asm); (case k4 => k_is); (case k5 => k_is); (case k6 => rfl); (case k7 => k_is); (case k8 => k_mem); (case k9 => k_mem); (case k10 => first | assumption | exact Nat.le_of_ble_eq_true rfl); (case k11 => k_upd); k_whole; intro h' F' N'; (try k_sweep)))))) | fail "none")) | (with_reducible ((with_reducible show wpAny _ _ (subscriptTail _ _ _ _) _ _ _); ((k_here; (with_reducible show wpAny _ _ (subscriptTail _ _ (Value.str _ _) (Value.int _ _)) _ _ _); k_dflt (first | (refine' lit_item (by decide) ?a ?b (it1_3 _ _ _) ?_ ?hs ?ht; (case a => simp [PySem.Str.length]); (case b => simp [PySem.Str.length]); (case hs => with_unfolding_all rfl); (case ht => (intro _; with_unfolding_all rfl))) | (refine' lit_item (by decide) ?a ?b (it2_3 _ _ _) ?_ ?hs ?ht; (case a => simp [PySem.Str.length]); (case b => simp [PySem.Str.length]); (case hs => with_unfolding_all rfl); (case ht => (intro _; with_unfolding_all rfl)))))))) | (with_reducible ((with_reducible show wpAny _ _ (subscriptTail (Expr.Name _ _) (Expr.Slice _ _ _) (Value.str _ _) (Value.ref _)) _ _ _); ((k_here; k_dflt (first | (refine' lit_slice_ns (s := ⟨_, _, _, _, _⟩) ?F ?N (sl1_3 _ _ _) ?z ?_ ?hs ?ht; (case F => k_asm); (case N => k_asm); (case z => exact Nat.le_of_ble_eq_true rfl); (case hs => with_unfolding_all rfl); (case ht => (intro _; with_unfolding_all rfl)); intro _ _ _ F' N'; (try k_sweep)) | (refine' lit_slice_ss (s := ⟨_, _, _, _, _⟩) ?F ?N (sl2_3 _ _ _) ?z ?_ ?hs ?ht; (case F => k_asm); (case N => k_asm); (case z => exact Nat.le_of_ble_eq_true rfl); (case hs => with_unfolding_all rfl); (case ht => (intro _; with_unfolding_all rfl)); intro _ _ _ F' N'; (try k_sweep))))))) | (with_reducible ((with_reducible show wpAny _ _ (compareOp CmpOp.NotEq (Value.str _ _) (Value.str _ _)) _ _ _); ((k_here; k_dflt (first | (refine lit_ne (b := false) (by rfl) ?_)))))) | (with_reducible ((with_reducible show wpAny _ _ (binaryOp Operator.Add (Value.str _ _) (Value.str _ _)) _ _ _); ((k_here; k_dflt (first | (refine lit_add (cat1_3 _ _ _) (Nat.le_of_ble_eq_true rfl) ?_; intro _ _) | (refine lit_add (cat2_3 _ _ _) (Nat.le_of_ble_eq_true rfl) ?_; intro _ _)))))) | (with_reducible ((with_reducible show wpAny _ _ (callWith _ (Value.ref _) _ _ _) _ _ _); ((k_here; (with_reducible show wpAny _ _ (callWith _ (Value.ref _) [] _ (backToKw _ (keywordEach [⟨none, _, _⟩] _))) _ _ _); k_dflt (refine' star_call ?F ?X ?N ?hD ?hlo ?hf ?he ?hv1 ?hkx ?_; (case F => k_asm); (case X => k_asm); (case N => k_asm); (case he => rfl); (case hv1 => (intro Q' E' hq; exact ld (by k_asm) rfl hq)); (case hkx => (intro h' Q' E' F' hq; exact ld F' rfl hq)); (case hD => k_mem); (case hlo => assumption); (case hf => rfl); k_whole); intro d' h' F' N'; (try k_sweep))))) | (with_reducible ((with_reducible show wpAny _ _ (compareOp CmpOp.In Value.none (Value.ref _)) _ _ _); ((k_here; k_dflt (refine' r_in ?F ?N ?hh ?hun ?hv ?hd ?hD ?hr ?_; (case F => k_asm); (case N => k_asm); (case hh => rfl); (case hun => exact Nat.le_of_ble_eq_true rfl); (case hv => k_mem); (case hd => k_mem); (case hD => assumption); (case hr => assumption); k_whole); intro h' F' N'; (try k_sweep))))) | (with_reducible ((with_reducible show wpAny _ _ (getMethod (Value.ref _) _ _) _ _ _); ((k_here; k_dflt (refine' method_rowK ?k2 ?k3 ?k4 ?k5 ?k6 ?k7 ?k8 ?k9 ?_; (case k2 => k_in); (case k3 => k_inst); (case k4 => k_is); (case k5 => k_is); (case k6 => k_is); (case k7 => k_is); (case k8 => decide +kernel); (case k9 => k_get); k_whole))))) | (with_reducible ((with_reducible show wpAny _ _ (callWith _ (Value.ref _) _ _ _) _ _ _); ((k_here; k_dflt ((refine' callWith_B0 ?k1 ?k2 ?k3 ?_; (case k1 => k_asm); (case k2 => k_mem); (case k3 => first | exact .inl rfl | exact .inr rfl); k_whole); (try dsimp only [List.nil_append, List.cons_append])))))) | (with_reducible ((with_reducible show wpAny _ _ (getMethod (Value.ref _) _ _) _ _ _); ((k_here; k_dflt (first | (refine' sup_any (id := "list.__init__") ?k1 ?k2 ?k3 ?k4 ?k5 ?k6 ?k7 ?k8 ?k9 ?k10 ?k11 ?k12 ?k13 ty_init get_wrap ?k14 (get_init _) ?_; (case k1 => k_asm); (case k2 => k_asm); (case k3 => (first | assumption | exact ZIn.keeps (by assumption) (Fr.keep (by assumption)) | exact ZIn.keeps (ZIn.keeps (by assumption) (Fr.keep (by assumption))) (Fr.keep (by assumption)))); (case k4 => k_asm); (case k5 => k_mem); (case k6 => k_inst); (case k7 => rfl); (case k8 => exact Nat.le_of_ble_eq_true rfl); (case k9 => exact Nat.le_of_ble_eq_true rfl); (case k10 => k_is); (case k11 => k_is); (case k12 => rfl); (case k13 => ks_is); (case k14 => decide); k_whole) | (refine' sup_any (id := "list.__len__") ?k1 ?k2 ?k3 ?k4 ?k5 ?k6 ?k7 ?k8 ?k9 ?k10 ?k11 ?k12 ?k13 ty_len get_wrap ?k14 (get_len _) ?_; (case k1 => k_asm); (case k2 => k_asm); (case k3 => (first | assumption | exact ZIn.keeps (by assumption) (Fr.keep (by assumption)) | exact ZIn.keeps (ZIn.keeps (by assumption) (Fr.keep (by assumption))) (Fr.keep (by assumption)))); (case k4 => k_asm); (case k5 => k_mem); (case k6 => k_inst); (case k7 => rfl); (case k8 => exact Nat.le_of_ble_eq_true rfl); (case k9 => exact Nat.le_of_ble_eq_true rfl); (case k10 => k_is); (case k11 => k_is); (case k12 => rfl); (case k13 => ks_is); (case k14 => decide); k_whole) | (refine' sup_any (id := "list.pop") ?k1 ?k2 ?k3 ?k4 ?k5 ?k6 ?k7 ?k8 ?k9 ?k10 ?k11 ?k12 ?k13 ty_pop get_meth ?k14 (get_pop _) ?_; (case k1 => k_asm); (case k2 => k_asm); (case k3 => (first | assumption | exact ZIn.keeps (by assumption) (Fr.keep (by assumption)) | exact ZIn.keeps (ZIn.keeps (by assumption) (Fr.keep (by assumption))) (Fr.keep (by assumption)))); (case k4 => k_asm); (case k5 => k_mem); (case k6 => k_inst); (case k7 => rfl); (case k8 => exact Nat.le_of_ble_eq_true rfl); (case k9 => exact Nat.le_of_ble_eq_true rfl); (case k10 => k_is); (case k11 => k_is); (case k12 => rfl); (case k13 => ks_is); (case k14 => decide); k_whole)); intro q' h' t' F' N' e'; (try k_sweep))))) | (with_reducible ((with_reducible show wpAny _ _ (setAttr (Value.ref _) _ _) _ _ _); ((k_here; k_dflt ((refine' set_row ?k1 ?k2 ?k3 ?k4 ?k5 ?k6 ?k7 ?k8 ?k9 ?k10 ?k11 ?k12 ?k13 ?k14 ?_; (case k1 => k_asm); (case k2 => k_asm); (case k3 => k_asm); (case k4 => k_is); (case k5 => rfl); (case k6 => rfl); (case k7 => k_inst); (case k8 => exact rfl); (case k9 => k_is); (case k10 => k_is); (case k11 => k_get); (case k12 => k_put); (case k13 => k_upd); (case k14 => exact Nat.le_of_ble_eq_true rfl); k_whole); intro h' F' N'; (try k_sweep); (try dsimp only)))))) | ((fail_if_success (fail_if_success (first | (with_reducible show PySem.wpAt _ _ _ _ _ _ _) | (with_reducible show PyProof.Rows.wpAt _ _ _ _ _ _ _)))); with_reducible (first | dsimp only | ((ks_step "exec Return"; k_dflt (refine ks_wpAt_Return_some ?_))) | ((ks_step "eval Call"; k_dflt (refine ks_wpAt_MethodCall ?_))) | ((ks_step "exec Expr"; k_dflt (refine ks_wpAt_Expr_any ?_))) | fail "none")) | (k_end; kc_close) | walk1 | (dsimp only; walk1) | (leave1; (try dsimp only)) | fail "no step")
  all_goals first
    | exact hret _ _ _ _ _ _ (by assumption) (keep2_drop4_3 (by assumption))
    | exact 0
end Mine
end
section
open PySem PySem.W PySem.W.X PySem.Spec PySem.Calls PyProof.Rows
set_option Elab.async false
set_option maxRecDepth 100000
set_option maxHeartbeats 8000000
namespace Mine
theorem keep2_drop4_4 {h₀ h : Heap} {L : Addr} {a b c d e f : Addr × Obj} {news : List (Addr × Obj)} (N : News h₀ L h (a :: b :: c :: d :: e :: f :: news)) : News h₀ L h (a :: b :: news) := news_sub N fun p hp => by
  rcases List.mem_cons.mp hp with rfl | hp
  · exact .head _
  rcases List.mem_cons.mp hp with rfl | hp
  · exact .tail _ (.head _)
  · exact .tail _ (.tail _ (.tail _ (.tail _ (.tail _ (.tail _ hp)))))
theorem asked4 : ∀ (w : World) (p : Program) (loose : List Str) (mean : ExcName → Option Value) (mg mb : Str → Option Value)
   (dp un : Nat) (gd : Option (List Code)) (cn : Str) (cs : Scope) (a : Addr) (ccd : Value) (cl : List (Str × Addr)) (outer : List Env) (A₀ : Around) (base h₀ : Heap) (L : Addr) (m : Str → Option Value) (s : Shared) (Q E : Value → Shared → Prop)
   (news : List (Addr × Obj)) (c0 c1 c2 c3 : Nat) (tk : Tok)
   (B : Below A₀ base outer h₀) (F : Fr h₀ L s.heap m) (X : (hd.heap_1 w.params).In h₀) (Z : ZIn w h₀) (N : News h₀ L s.heap (news)) (T : Top p loose mean mg mb h₀) (hk : cs.kind = .function)
   (hdp : dp ≤ 310) (hun : un ≤ 40)
   (h0 : 48 ≤ c0 ∧ c0 ≤ 57) (h1 : 48 ≤ c1 ∧ c1 ≤ 57) (h2 : 48 ≤ c2 ∧ c2 ≤ 57) (h3 : 48 ≤ c3 ∧ c3 ≤ 57)
   (hret : ∀ D1 D2 t1 t2 h' tk', Fr h₀ L h' m → News h₀ L h' ((D1, tupOf [.ref D2, .ref D2]) :: (D2, tupOf [.str (Str.ofString "h") t1, .int (((c0 - 48) * 1000 + (c1 - 48) * 100 + (c2 - 48) * 10 + (c3 - 48) : Nat) : Int) t2]) :: news) → Q (.ref D1) { s with heap := h', toks := tk' }),
   wpAny (model Challenge.rw_yh0009_01.row.prog w) (ktrTop dp un gd cn cs L a ccd cl outer) (call (.ref 193) [.str ⟨#[c0, c1, c2, c3]⟩ tk]) Q E s := by
  k_fill
  intro w p loose mean mg mb dp un gd cn cs a ccd cl outer A₀ base h₀ L m s Q E news c0 c1 c2 c3 tk B F X Z N T hk hdp hun h0 h1 h2 h3 hret
  refine weaken (A' := ktrTop 310 40 gd cn cs L a ccd cl outer) rfl hdp rfl rfl hun ?_
  refine wpAny_call ?_
  k_dflt cell_enter
  repeat' (first | (k_unfold; (try dsimp only)) | ((with_reducible show wpAny _ _ (call _ _ _) _ _ _); with_reducible (first | ((with_reducible show wpAny _ _ (call (Value.type "int") _ _) _ _ _); ((k_here; k_dflt (first | (refine KIN.call_text (int_4 (by assumption) (by assumption) (by assumption) (by assumption)) (Nat.le_of_ble_eq_true rfl) ?_))))) | ((with_reducible show wpAny _ _ (call (Value.builtin "str.split") _ _) _ _ _); ((k_here; k_dflt (first | (refine' lit_split ?F ?N (by rfl) (split_4 (by assumption) (by assumption) (by assumption) (by assumption)) ?z ?_; (case F => k_asm); (case N => k_asm); (case z => exact Nat.le_of_ble_eq_true rfl); intro D' l' h' t' e' F' N' lt'; (try k_lt lt'); obtain ⟨u0, u1, u2, u3, u4, eq'⟩ := five e'; rw [eq'] at N'; (try k_sweep)))))) | ((with_reducible show wpAny _ _ (call (Value.builtin "str.find") _ _) _ _ _); ((k_here; k_dflt (first | (refine lit_find (fi1_4 _ _ _ _) ?_) | (refine lit_find3 (fi2_4 (by assumption) (by assumption) (by assumption) (by assumption)) ?_))))) | (((k_here; (with_reducible show wpAny _ _ (call (Value.ref 51) _ _) _ _ _); k_dflt (refine wpAny_call ?_; (refine' more_ref ?k1 ?k2 ?k3 ?k4 ?k5 ?kA ?kF ?kK ?k6 ?k7 ?k8 ?kX ?kM ?kR ?kP ?kT ?kB ?_ ?c2 ?c3 ?c4 ?c5; (case kA => exact rfl); (case kF => exact rfl); (case kK => exact rfl); (case k1 => k_asm); (case k2 => k_asm); (case k3 => k_asm); (case k4 => k_asm); (case k5 => k_asm); (case k6 => k_is); (case k7 => k_is); (case k8 => k_room); (case kX => kp_lit); (case kM => exact rfl); (case kR => exact rfl); (case kP => exact rfl); (case kT => exact fun _ => rfl); (case kB => exact fun _ => locs rfl); (case c5 => decide); (case c2 => exact rfl); (case c3 => exact rfl); (case c4 => exact rfl); k_whole; intro D' td' g' L' h' tk' l1 lo' FG' F' N' B' X' T'; (try k_lt l1); (try dsimp only); (try k_lift B'); (try k_fold)))))) | ((with_reducible show wpAny _ _ (call (Value.builtin "max") _ _) _ _ _); ((k_here; k_dflt (refine' r_max ?F ?N ?hh ?hd ?hD ?hr ?hni ?hif ?hn ?h0 ?h1 ?hlv ?_; (case F => k_asm); (case N => k_asm); (case hh => rfl); (case hd => k_mem); (case hD => assumption); (case hr => assumption); (case hni => assumption); (case hif => assumption); (case hn => assumption); (case h0 => assumption); (case h1 => assumption); (case hlv => first | exact if_neg (by omega) | exact if_pos (by omega)); k_whole); intro h' r' F' N'; (try k_sweep)))) | ((with_reducible show wpAny _ _ (call (Value.type "filter") _ _) _ _ _); ((k_here; k_dflt (refine' r_filter ?F ?Z ?N ?hh ?hdp ?hun ?hv ?hd ?hD ?hr ?_; (case F => k_asm); (case Z => (first | assumption | exact ZIn.keeps (by assumption) (Fr.keep (by assumption)) | exact ZIn.keeps (ZIn.keeps (by assumption) (Fr.keep (by assumption))) (Fr.keep (by assumption)))); (case N => k_asm); (case hh => rfl); (case hdp => exact Nat.le_of_ble_eq_true rfl); (case hun => exact Nat.le_of_ble_eq_true rfl); (case hv => k_mem); (case hd => k_mem); (case hD => assumption); (case hr => assumption); k_whole); intro f' i' n' h' t' F' N' ha' hif' hn'; (try k_sweep)))) | ((with_reducible show wpAny _ _ (call (Value.builtin "list.append") _ _) _ _ _); ((k_here; k_dflt (refine' row_appendK ?k1 ?k2 ?k3 ?k4 ?k5 ?k6 ?k7 ?_; (case k1 => k_asm); (case k2 => k_asm); (case k3 => k_asm); (case k4 => k_is); (case k5 => k_mem); (case k6 => first | assumption | exact Nat.le_of_ble_eq_true rfl); (case k7 => k_upd); k_whole); intro h' F' N'; (try k_sweep)))) | ((with_reducible show wpAny _ _ (call (Value.ref _) _ _) _ _ _); ((k_here; k_dflt (first | (refine' bound_lenK ?k1 ?k2 ?k3 ?_; (case k1 => k_asm); (case k2 => k_mem); (case k3 => k_mem); k_whole) | (refine' bound_initK ?k1 ?k2 ?k3 ?k4 ?k5 ?_; (case k1 => k_asm); (case k2 => k_asm); (case k3 => k_mem); (case k4 => k_mem); (case k5 => k_upd); k_whole; intro h' F' N'; (try k_sweep)) | (refine' bound_popK ?k1 ?k2 ?k3 ?k4 ?k5 ?k6 ?k7 ?k8 ?k9 ?k10 ?k11 ?_; (case k1 => k_asm); (case k2 => k_asm); (case k3 => k_asm); (case k4 => k_is); (case k5 => k_is); (case k6 => rfl); (case k7 => k_is); (case k8 => k_mem); (case k9 => k_mem); (case k10 => first | assumption | exact Nat.le_of_ble_eq_true rfl); (case k11 => k_upd); k_whole; intro h' F' N'; (try k_sweep)))))) | fail "none")) | (with_reducible ((with_reducible show wpAny _ _ (subscriptTail _ _ _ _) _ _ _); ((k_here; (with_reducible show wpAny _ _ (subscriptTail _ _ (Value.str _ _) (Value.int _ _)) _ _ _); k_dflt (first | (refine' lit_item (by decide) ?a ?b (it1_4 _ _ _ _) ?_ ?hs ?ht; (case a => simp [PySem.Str.length]); (case b => simp [PySem.Str.length]); (case hs => with_unfolding_all rfl); (case ht => (intro _; with_unfolding_all rfl))) | (refine' lit_item (by decide) ?a ?b (it2_4 _ _ _ _) ?_ ?hs ?ht; (case a => simp [PySem.Str.length]); (case b => simp [PySem.Str.length]); (case hs => with_unfolding_all rfl); (case ht => (intro _; with_unfolding_all rfl)))))))) | (with_reducible ((with_reducible show wpAny _ _ (subscriptTail (Expr.Name _ _) (Expr.Slice _ _ _) (Value.str _ _) (Value.ref _)) _ _ _); ((k_here; k_dflt (first | (refine' lit_slice_ns (s := ⟨_, _, _, _, _⟩) ?F ?N (sl1_4 _ _ _ _) ?z ?_ ?hs ?ht; (case F => k_asm); (case N => k_asm); (case z => exact Nat.le_of_ble_eq_true rfl); (case hs => with_unfolding_all rfl); (case ht => (intro _; with_unfolding_all rfl)); intro _ _ _ F' N'; (try k_sweep)) | (refine' lit_slice_ss (s := ⟨_, _, _, _, _⟩) ?F ?N (sl2_4 _ _ _ _) ?z ?_ ?hs ?ht; (case F => k_asm); (case N => k_asm); (case z => exact Nat.le_of_ble_eq_true rfl); (case hs => with_unfolding_all rfl); (case ht => (intro _; with_unfolding_all rfl)); intro _ _ _ F' N'; (try k_sweep))))))) | (with_reducible ((with_reducible show wpAny _ _ (compareOp CmpOp.NotEq (Value.str _ _) (Value.str _ _)) _ _ _); ((k_here; k_dflt (first | (refine lit_ne (b := false) (by rfl) ?_)))))) | (with_reducible ((with_reducible show wpAny _ _ (binaryOp Operator.Add (Value.str _ _) (Value.str _ _)) _ _ _); ((k_here; k_dflt (first | (refine lit_add (cat1_4 _ _ _ _) (Nat.le_of_ble_eq_true rfl) ?_; intro _ _) | (refine lit_add (cat2_4 _ _ _ _) (Nat.le_of_ble_eq_true rfl) ?_; intro _ _)))))) | (with_reducible ((with_reducible show wpAny _ _ (callWith _ (Value.ref _) _ _ _) _ _ _); ((k_here; (with_reducible show wpAny _ _ (callWith _ (Value.ref _) [] _ (backToKw _ (keywordEach [⟨none, _, _⟩] _))) _ _ _); k_dflt (refine' star_call ?F ?X ?N ?hD ?hlo ?hf ?he ?hv1 ?hkx ?_; (case F => k_asm); (case X => k_asm); (case N => k_asm); (case he => rfl); (case hv1 => (intro Q' E' hq; exact ld (by k_asm) rfl hq)); (case hkx => (intro h' Q' E' F' hq; exact ld F' rfl hq)); (case hD => k_mem); (case hlo => assumption); (case hf => rfl); k_whole); intro d' h' F' N'; (try k_sweep))))) | (with_reducible ((with_reducible show wpAny _ _ (compareOp CmpOp.In Value.none (Value.ref _)) _ _ _); ((k_here; k_dflt (refine' r_in ?F ?N ?hh ?hun ?hv ?hd ?hD ?hr ?_; (case F => k_asm); (case N => k_asm); (case hh => rfl); (case hun => exact Nat.le_of_ble_eq_true rfl); (case hv => k_mem); (case hd => k_mem); (case hD => assumption); (case hr => assumption); k_whole); intro h' F' N'; (try k_sweep))))) | (with_reducible ((with_reducible show wpAny _ _ (getMethod (Value.ref _) _ _) _ _ _); ((k_here; k_dflt (refine' method_rowK ?k2 ?k3 ?k4 ?k5 ?k6 ?k7 ?k8 ?k9 ?_; (case k2 => k_in); (case k3 => k_inst); (case k4 => k_is); (case k5 => k_is); (case k6 => k_is); (case k7 => k_is); (case k8 => decide +kernel); (case k9 => k_get); k_whole))))) | (with_reducible ((with_reducible show wpAny _ _ (callWith _ (Value.ref _) _ _ _) _ _ _); ((k_here; k_dflt ((refine' callWith_B0 ?k1 ?k2 ?k3 ?_; (case k1 => k_asm); (case k2 => k_mem); (case k3 => first | exact .inl rfl | exact .inr rfl); k_whole); (try dsimp only [List.nil_append, List.cons_append])))))) | (with_reducible ((with_reducible show wpAny _ _ (getMethod (Value.ref _) _ _) _ _ _); ((k_here; k_dflt (first | (refine' sup_any (id := "list.__init__") ?k1 ?k2 ?k3 ?k4 ?k5 ?k6 ?k7 ?k8 ?k9 ?k10 ?k11 ?k12 ?k13 ty_init get_wrap ?k14 (get_init _) ?_; (case k1 => k_asm); (case k2 => k_asm); (case k3 => (first | assumption | exact ZIn.keeps (by assumption) (Fr.keep (by assumption)) | exact ZIn.keeps (ZIn.keeps (by assumption) (Fr.keep (by assumption))) (Fr.keep (by assumption)))); (case k4 => k_asm); (case k5 => k_mem); (case k6 => k_inst); (case k7 => rfl); (case k8 => exact Nat.le_of_ble_eq_true rfl); (case k9 => exact Nat.le_of_ble_eq_true rfl); (case k10 => k_is); (case k11 => k_is); (case k12 => rfl); (case k13 => ks_is); (case k14 => decide); k_whole) | (refine' sup_any (id := "list.__len__") ?k1 ?k2 ?k3 ?k4 ?k5 ?k6 ?k7 ?k8 ?k9 ?k10 ?k11 ?k12 ?k13 ty_len get_wrap ?k14 (get_len _) ?_; (case k1 => k_asm); (case k2 => k_asm); (case k3 => (first | assumption | exact ZIn.keeps (by assumption) (Fr.keep (by assumption)) | exact ZIn.keeps (ZIn.keeps (by assumption) (Fr.keep (by assumption))) (Fr.keep (by assumption)))); (case k4 => k_asm); (case k5 => k_mem); (case k6 => k_inst); (case k7 => rfl); (case k8 => exact Nat.le_of_ble_eq_true rfl); (case k9 => exact Nat.le_of_ble_eq_true rfl); (case k10 => k_is); (case k11 => k_is); (case k12 => rfl); (case k13 => ks_is); (case k14 => decide); k_whole) | (refine' sup_any (id := "list.pop") ?k1 ?k2 ?k3 ?k4 ?k5 ?k6 ?k7 ?k8 ?k9 ?k10 ?k11 ?k12 ?k13 ty_pop get_meth ?k14 (get_pop _) ?_; (case k1 => k_asm); (case k2 => k_asm); (case k3 => (first | assumption | exact ZIn.keeps (by assumption) (Fr.keep (by assumption)) | exact ZIn.keeps (ZIn.keeps (by assumption) (Fr.keep (by assumption))) (Fr.keep (by assumption)))); (case k4 => k_asm); (case k5 => k_mem); (case k6 => k_inst); (case k7 => rfl); (case k8 => exact Nat.le_of_ble_eq_true rfl); (case k9 => exact Nat.le_of_ble_eq_true rfl); (case k10 => k_is); (case k11 => k_is); (case k12 => rfl); (case k13 => ks_is); (case k14 => decide); k_whole)); intro q' h' t' F' N' e'; (try k_sweep))))) | (with_reducible ((with_reducible show wpAny _ _ (setAttr (Value.ref _) _ _) _ _ _); ((k_here; k_dflt ((refine' set_row ?k1 ?k2 ?k3 ?k4 ?k5 ?k6 ?k7 ?k8 ?k9 ?k10 ?k11 ?k12 ?k13 ?k14 ?_; (case k1 => k_asm); (case k2 => k_asm); (case k3 => k_asm); (case k4 => k_is); (case k5 => rfl); (case k6 => rfl); (case k7 => k_inst); (case k8 => exact rfl); (case k9 => k_is); (case k10 => k_is); (case k11 => k_get); (case k12 => k_put); (case k13 => k_upd); (case k14 => exact Nat.le_of_ble_eq_true rfl); k_whole); intro h' F' N'; (try k_sweep); (try dsimp only)))))) | ((fail_if_success (fail_if_success (first | (with_reducible show PySem.wpAt _ _ _ _ _ _ _) | (with_reducible show PyProof.Rows.wpAt _ _ _ _ _ _ _)))); with_reducible (first | dsimp only | ((ks_step "exec Return"; k_dflt (refine ks_wpAt_Return_some ?_))) | ((ks_step "eval Call"; k_dflt (refine ks_wpAt_MethodCall ?_))) | ((ks_step "exec Expr"; k_dflt (refine ks_wpAt_Expr_any ?_))) | fail "none")) | (k_end; kc_close) | walk1 | (dsimp only; walk1) | (leave1; (try dsimp only)) | fail "no step")
  all_goals first
    | exact hret _ _ _ _ _ _ (by assumption) (keep2_drop4_4 (by assumption))
    | exact 0
end Mine
end
section
open PySem PySem.W PySem.W.X PySem.Spec PySem.Calls PyProof.Rows
set_option Elab.async false
set_option maxRecDepth 100000
set_option maxHeartbeats 8000000
namespace Mine
noncomputable abbrev signsOf (x : Str) : List Str := x.cps.toList.map fun c => ⟨#[c]⟩
theorem strsAre_of : ∀ (vs : List Value) (l : List Nat), vs.length = l.length → (∀ (j : Nat) (v : Value), vs[j]? = some v → ∃ c u, l[j]? = some c ∧ v = Value.str ⟨#[c]⟩ u) → StrsAre vs (l.map fun c => (⟨#[c]⟩ : Str))
  | [], [], _, _ => .nil
  | v :: vs, c :: l, hl, h => by
    obtain ⟨c', u, e, rfl⟩ := h 0 v rfl
    cases e
    exact .cons _ _ (strsAre_of vs l (by simpa using hl) fun j v hj => by simpa using h (j + 1) v (by simpa using hj))
  | [], _ :: _, hl, _ => by simp at hl
  | _ :: _, [], hl, _ => by simp at hl
section
variable {prog : Program} {w : World} {A : Around} {E : Value → Shared → Prop} {s : Shared} {h₀ : Heap} {L : Addr} {m : Str → Option Value} {news : List (Addr × Obj)} {x : Str} {t : Tok} {Q : Value → Shared → Prop}
theorem sorted_text (hh : A.handled = none) (F : Fr h₀ L s.heap m) (N : News h₀ L s.heap news) (hx : x.cps.size < 64)
    (h : ∀ D vs' ss' e h' tk', Fr h₀ L h' m → News h₀ L h' ((D, seqObj "list" vs'.toArray e) :: news) → StrsAre vs' ss' → ss'.Perm (signsOf x) → sortedS ss' = true → (∀ p ∈ news, p.1 < D) → Q (.ref D) { s with heap := h', toks := tk' }) :
    wpAny (model prog w) A (call (.builtin "sorted") [.str x t]) Q E s := by
  refine Calls.call_function_entry kind_sorted plain_sorted entry_sorted (args_sorted1 _) ?_
  unfold Builtin.«sorted»
  refine wpAny_bind (m := checkCount "sorted" 1 1 _) (wpAny_pure ?_)
  refine wpAny_bind (wpAny_collect_str (A := A.in1) hh x t fun s' acc k g d o hacc => ?_)
  obtain ⟨H, G, D', TT, O⟩ := s'
  dsimp only at k g d o
  subst g d o
  have F1 : Fr h₀ L H m := F.keeps k
  have N1 : News h₀ L H news := N.keeps k
  have hS : StrsAre acc.toList (signsOf x) := strsAre_of acc.toList x.cps.toList (by simpa using hacc.1) fun j v hj => by
    obtain ⟨c, u, e, r⟩ := hacc.2 j v (by simpa using hj)
    exact ⟨c, u, by simpa using e, r⟩
  have h64 : acc.toList.length < 64 := by
    have := hacc.1
    simpa [this] using hx
  refine wpAny_bind (wpAny_newList ?_)
  have hoL : (H.push (seqObj "list" acc.toList.toArray 0)).get? H.objs.size = some (seqObj "list" acc.toList.toArray 0) := Heap.get?_push_size _ rfl
  show wpAny _ _ _ _ _ { s with heap := H.push (seqObj "list" acc.toList.toArray 0), toks := TT }
  refine wpAny_bind (wpAny_holding (wpAny_call_entry slot_list_sort ⟨_, hoL, rfl⟩ entry_list_sort (list_sort_treeK strKind_oneLt hoL hS.keysOf (fun v₁ v₂ rest e => keyKind_strs (by rw [← e]; exact hS)) h64 fun st' a1 a2 => ⟨_, rfl, ?_⟩) (args_list_sort _)))
  obtain ⟨ss', b1, b2, b3⟩ := sorted_out_str hS a1 a2
  obtain ⟨e, he⟩ := sortedHeap_at (vs := acc.toList) (out := (arrOf st').map (·.2)) hoL
  have old : ∀ b o, H.get? b = some o → (sortedHeap (H.push (seqObj "list" acc.toList.toArray 0)) H.objs.size acc.toList ((arrOf st').map (·.2))).get? b = some o := fun b o eb => by
    rw [sortedHeap_old (Nat.ne_of_lt (Heap.lt_size eb)) (by rw [Heap.size_push]; exact Nat.lt_succ_of_lt (Heap.lt_size eb))]
    exact Heap.get?_push_of_some _ eb
  refine wpAny_pure ⟨_, rfl, h _ _ ss' e _ _ (F1.keeps old) ?_ b1 b2 b3 fun p hp => Heap.lt_size (N1 p hp).1⟩
  intro p hp
  rcases List.mem_cons.mp hp with rfl | hp
  · refine ⟨?_, ?_, ?_⟩
    · have z : ((arrOf st').map (·.2)).toList.toArray = (arrOf st').map (·.2) := rfl
      dsimp only
      rw [z]; exact he
    · exact Nat.ne_of_gt F1.ns.lt
    · cases q : h₀.get? H.objs.size with
      | none => rfl
      | some o => exact absurd (Heap.lt_size (F1.keep _ _ q)) (Nat.lt_irrefl _)
  · exact ⟨old _ _ (N1 p hp).1, (N1 p hp).2⟩
end
end Mine
end
section
open PySem PySem.W PySem.W.X PySem.Spec PySem.Calls PyProof.Rows
set_option Elab.async false
set_option maxRecDepth 100000
set_option maxHeartbeats 8000000
namespace Mine
theorem perm_codes {ss : List Str} {l : List Nat} (h : ss.Perm (l.map fun c => (⟨#[c]⟩ : Str))) : ∃ l' : List Nat, ss = l'.map (fun c => (⟨#[c]⟩ : Str)) ∧ l'.Perm l := by
  refine ⟨ss.map fun s => s.cps.getD 0 0, ?_, ?_⟩
  · have hm : ∀ s ∈ ss, (⟨#[s.cps.getD 0 0]⟩ : Str) = s := fun s hs => by
      obtain ⟨c, _, rfl⟩ := List.mem_map.mp (h.mem_iff.mp hs)
      rfl
    rw [List.map_map]
    conv => lhs; rw [← List.map_id ss]
    exact List.map_congr_left fun s hs => (hm s hs).symm
  · have := h.map fun s : Str => s.cps.getD 0 0
    rw [List.map_map] at this
    have e : (l.map ((fun s : Str => s.cps.getD 0 0) ∘ fun c => (⟨#[c]⟩ : Str))) = l := by
      conv => rhs; rw [← List.map_id l]
      exact List.map_congr_left fun c _ => rfl
    rwa [e] at this
theorem rising_codes {a b : Nat} {r : List Str} (h : risingS ⟨#[a]⟩ (⟨#[b]⟩ :: r) = true) : a ≤ b ∧ risingS ⟨#[b]⟩ r = true := by
  simp only [risingS, Bool.and_eq_true, Bool.not_eq_true'] at h
  refine ⟨?_, h.2⟩
  have := h.1
  simp [ltCps] at this
  omega
section
variable {prog : Program} {w : World} {A : Around} {E : Value → Shared → Prop} {s : Shared} {h₀ : Heap} {L : Addr} {m : Str → Option Value} {news : List (Addr × Obj)} {t : Tok} {Q : Value → Shared → Prop} {c0 c1 c2 c3 : Nat}
theorem r_sorted3 (hh : A.handled = none) (F : Fr h₀ L s.heap m) (N : News h₀ L s.heap news)
    (h : ∀ D a0 a1 a2 t0 t1 t2 n h' tk', Fr h₀ L h' m → News h₀ L h' ((D, PySem.W.listOf #[.str ⟨#[a0]⟩ t0, .str ⟨#[a1]⟩ t1, .str ⟨#[a2]⟩ t2] n) :: news) → (∀ q ∈ news, q.1 < D) → [a0, a1, a2].Perm [c0, c1, c2] → a0 ≤ a1 → a1 ≤ a2 → Q (.ref D) { s with heap := h', toks := tk' }) :
    wpAny (model prog w) A (call (.builtin "sorted") [.str ⟨#[c0, c1, c2]⟩ t]) Q E s := by
  refine sorted_text hh F N (by show 3 < 64; decide) fun D vs' ss' e h' tk' F' N' hS hp hs hl => ?_
  obtain ⟨l', rfl, hp'⟩ := perm_codes (l := [c0, c1, c2]) hp
  have hlen := hp'.length_eq
  match l', hlen with
  | [a0, a1, a2], _ =>
    obtain ⟨o1, r1⟩ := rising_codes (show risingS ⟨#[a0]⟩ [⟨#[a1]⟩, ⟨#[a2]⟩] = true from hs)
    obtain ⟨o2, _⟩ := rising_codes r1
    cases hS with | cons _ t0 hS => cases hS with | cons _ t1 hS => cases hS with | cons _ t2 hS => cases hS with | nil =>
    exact h D a0 a1 a2 t0 t1 t2 e h' tk' F' N' hl hp' o1 o2
theorem r_sorted4 (hh : A.handled = none) (F : Fr h₀ L s.heap m) (N : News h₀ L s.heap news)
    (h : ∀ D a0 a1 a2 a3 t0 t1 t2 t3 n h' tk', Fr h₀ L h' m → News h₀ L h' ((D, PySem.W.listOf #[.str ⟨#[a0]⟩ t0, .str ⟨#[a1]⟩ t1, .str ⟨#[a2]⟩ t2, .str ⟨#[a3]⟩ t3] n) :: news) → (∀ q ∈ news, q.1 < D) → [a0, a1, a2, a3].Perm [c0, c1, c2, c3] → a0 ≤ a1 → a1 ≤ a2 → a2 ≤ a3 → Q (.ref D) { s with heap := h', toks := tk' }) :
    wpAny (model prog w) A (call (.builtin "sorted") [.str ⟨#[c0, c1, c2, c3]⟩ t]) Q E s := by
  refine sorted_text hh F N (by show 4 < 64; decide) fun D vs' ss' e h' tk' F' N' hS hp hs hl => ?_
  obtain ⟨l', rfl, hp'⟩ := perm_codes (l := [c0, c1, c2, c3]) hp
  have hlen := hp'.length_eq
  match l', hlen with
  | [a0, a1, a2, a3], _ =>
    obtain ⟨o1, r1⟩ := rising_codes (show risingS ⟨#[a0]⟩ [⟨#[a1]⟩, ⟨#[a2]⟩, ⟨#[a3]⟩] = true from hs)
    obtain ⟨o2, r2⟩ := rising_codes r1
    obtain ⟨o3, _⟩ := rising_codes r2
    cases hS with | cons _ t0 hS => cases hS with | cons _ t1 hS => cases hS with | cons _ t2 hS => cases hS with | cons _ t3 hS => cases hS with | nil =>
    exact h D a0 a1 a2 a3 t0 t1 t2 t3 e h' tk' F' N' hl hp' o1 o2 o3
end
end Mine
end
section
open PySem PySem.W PySem.W.X PySem.Spec PySem.Calls PyProof.Rows
set_option Elab.async false
set_option maxRecDepth 100000
set_option maxHeartbeats 8000000
namespace Mine
theorem pad3 {line : Int} {c0 c1 c2 : Nat} (hline : line = 100 * ((c0 : Int) - 48) + 10 * ((c1 : Int) - 48) + ((c2 : Int) - 48)) (h0 : 48 ≤ c0 ∧ c0 ≤ 57) (h1 : 48 ≤ c1 ∧ c1 ≤ 57) (h2 : 48 ≤ c2 ∧ c2 ≤ 57) :
   Txt.mul (Str.ofString "0") (3 - ((Str.ofString (toString line)).length : Int)) ++ Str.ofString (toString line) = ⟨#[c0, c1, c2]⟩ := by
  obtain ⟨a, rfl⟩ : ∃ a, c0 = 48 + a := ⟨c0 - 48, by omega⟩
  obtain ⟨b, rfl⟩ : ∃ a, c1 = 48 + a := ⟨c1 - 48, by omega⟩
  obtain ⟨c, rfl⟩ : ∃ a, c2 = 48 + a := ⟨c2 - 48, by omega⟩
  by_cases ha : a = 0
  · subst ha
    by_cases hb : b = 0
    · subst hb
      rw [dec1 (a := c) (by omega) (by omega)]; rfl
    · rw [dec2 (a := b) (b := c) (by omega) (by omega) (by omega) (by omega)]; rfl
  · rw [dec3 (a := a) (b := b) (c := c) (by omega) (by omega) (by omega) (by omega) (by omega)]; rfl
theorem pad4 {line : Int} {c0 c1 c2 c3 : Nat} (hline : line = 1000 * ((c0 : Int) - 48) + 100 * ((c1 : Int) - 48) + 10 * ((c2 : Int) - 48) + ((c3 : Int) - 48)) (h0 : 48 ≤ c0 ∧ c0 ≤ 57) (h1 : 48 ≤ c1 ∧ c1 ≤ 57) (h2 : 48 ≤ c2 ∧ c2 ≤ 57) (h3 : 48 ≤ c3 ∧ c3 ≤ 57) :
   Txt.mul (Str.ofString "0") (4 - ((Str.ofString (toString line)).length : Int)) ++ Str.ofString (toString line) = ⟨#[c0, c1, c2, c3]⟩ := by
  obtain ⟨a, rfl⟩ : ∃ a, c0 = 48 + a := ⟨c0 - 48, by omega⟩
  obtain ⟨b, rfl⟩ : ∃ a, c1 = 48 + a := ⟨c1 - 48, by omega⟩
  obtain ⟨c, rfl⟩ : ∃ a, c2 = 48 + a := ⟨c2 - 48, by omega⟩
  obtain ⟨d, rfl⟩ : ∃ a, c3 = 48 + a := ⟨c3 - 48, by omega⟩
  by_cases ha : a = 0
  · subst ha
    by_cases hb : b = 0
    · subst hb
      by_cases hc : c = 0
      · subst hc
        rw [dec1 (a := d) (by omega) (by omega)]; rfl
      · rw [dec2 (a := c) (b := d) (by omega) (by omega) (by omega) (by omega)]; rfl
    · rw [dec3 (a := b) (b := c) (c := d) (by omega) (by omega) (by omega) (by omega) (by omega)]; rfl
  · rw [dec4 (a := a) (b := b) (c := c) (d := d) (by omega) (by omega) (by omega) (by omega) (by omega) (by omega)]; rfl
end Mine
end
section
open PySem PySem.W PySem.W.X PySem.Spec PySem.Calls PyProof.Rows
set_option Elab.async false
set_option maxRecDepth 100000
set_option maxHeartbeats 8000000
namespace Mine
section
variable {w : World} {p : Program} {loose : List Str} {mean : ExcName → Option Value} {mg mb : Str → Option Value} {dp un : Nat} {gd : Option (List Code)} {cn : Str} {cs : Scope} {a : Addr} {ccd : Value} {cl : List (Str × Addr)} {outer : List Env} {A₀ : Around} {base h₀ : Heap} {L : Addr} {m : Str → Option Value} {s : Shared} {Q E : Value → Shared → Prop}
  {led : List (Addr × Obj)} {g : Obj → List (Addr × Obj)} {r dr : Addr} {xs : List Value} {n : Nat} {t1 t2 : Tok} {sa sb : Str} {ta tb : Tok} {v : Value}
theorem row_front {xs : List Value} (N : News h₀ L s.heap led) (U : UpdF r (rowOf dr xs n) led g) (hd : (dr, initOf w t1 t2) ∈ led) :
    ∃ news, News h₀ L s.heap ((r, rowOf dr xs n) :: (dr, initOf w t1 t2) :: news) ∧ (∀ p ∈ news, @Ne Nat p.1 r) ∧ @Ne Nat dr r ∧ (∀ h' o', News h₀ L h' ((r, o') :: (dr, initOf w t1 t2) :: news) → News h₀ L h' (g o')) ∧
      (∀ h' o' q, News h₀ L h' (q :: (r, o') :: (dr, initOf w t1 t2) :: news) → News h₀ L h' (q :: g o')) := by
  obtain ⟨pre, post, rfl, hg, e1, e2⟩ := U.split
  have hdn : @Ne Nat dr r := news_ne N hd (show (r, rowOf dr xs n) ∈ _ by simp) nofun
  refine ⟨pre ++ post, news_sub N fun p hp => ?_, fun p hp => ?_, hdn, fun h' o' N' => ?_, fun h' o' q N' => ?_⟩
  · rcases List.mem_cons.mp hp with rfl | hp
    · simp
    rcases List.mem_cons.mp hp with rfl | hp
    · exact hd
    · rcases List.mem_append.mp hp with hp | hp <;> simp [hp]
  · rcases List.mem_append.mp hp with hp | hp
    · exact e1 p hp
    · exact e2 p hp
  · rw [hg]
    refine news_sub N' fun p hp => ?_
    rcases List.mem_append.mp hp with hp | hp
    · simp [hp]
    rcases List.mem_cons.mp hp with rfl | hp
    · simp
    · simp [hp]
  · rw [hg]
    refine news_sub N' fun p hp => ?_
    rcases List.mem_cons.mp hp with rfl | hp
    · simp
    rcases List.mem_append.mp hp with hp | hp
    · simp [hp]
    rcases List.mem_cons.mp hp with rfl | hp
    · simp
    · simp [hp]
theorem pushU (B : Below A₀ base outer h₀) (F : Fr h₀ L s.heap m) (X : (hd.heap_1 w.params).In h₀) (N : News h₀ L s.heap led) (T : Top p loose mean mg mb h₀) (hk : cs.kind = .function) (hdp : dp ≤ 305) (hun : un ≤ 20)
    (U : UpdF r (rowOf dr xs n) led g) (hd : (dr, initOf w t1 t2) ∈ led) (hz : xs.length ≤ 1000)
    (hret : ∀ T n' h' tk', Fr h₀ L h' m → News h₀ L h' ((T, tupOf [.str sa ta, .str sb tb]) :: g (rowOf dr (xs ++ [.ref T]) n')) → @Ne Nat T r → Q .none { s with heap := h', toks := tk' }) :
    wpAny (model P w) (ktrTop dp un gd cn cs L a ccd cl outer) (call (.ref 82) [.ref r, .str sa ta, .str sb tb]) Q E s := by
  obtain ⟨news, N1, h1, h2, h3, h4⟩ := row_front N U hd
  exact r_push w p loose mean mg mb dp un gd cn cs a ccd cl outer A₀ base h₀ L m s Q E news r dr xs n t1 t2 sa sb ta tb B F X N1 T hk h1 h2 hz hdp hun fun T n' h' tk' F' N' ne => hret T n' h' tk' F' (h4 _ _ _ N') ne
theorem popU (B : Below A₀ base outer h₀) (F : Fr h₀ L s.heap m) (X : (hd.heap_1 w.params).In h₀) (Z : ZIn w h₀) (N : News h₀ L s.heap led) (T : Top p loose mean mg mb h₀) (hk : cs.kind = .function) (hdp : dp ≤ 305) (hun : un ≤ 20)
    {ys : List Value} (U : UpdF r (rowOf dr ys n) led g) (hy : ys = xs ++ [v]) (hd : (dr, initOf w t1 t2) ∈ led) (hz : xs.length ≤ 1000)
    (hret : ∀ n' h' tk', Fr h₀ L h' m → News h₀ L h' (g (rowOf dr xs n')) → Q v { s with heap := h', toks := tk' }) :
    wpAny (model P w) (ktrTop dp un gd cn cs L a ccd cl outer) (call (.ref 98) [.ref r]) Q E s := by
  subst hy
  obtain ⟨news, N1, h1, h2, h3, h4⟩ := row_front N U hd
  exact r_pop w p loose mean mg mb dp un gd cn cs a ccd cl outer A₀ base h₀ L m s Q E news r dr xs v n t1 t2 B F X Z N1 T hk h1 h2 hz hdp hun fun n' h' tk' F' N' => hret n' h' tk' F' (h3 _ _ N')
theorem popEU (B : Below A₀ base outer h₀) (F : Fr h₀ L s.heap m) (X : (hd.heap_1 w.params).In h₀) (Z : ZIn w h₀) (N : News h₀ L s.heap led) (T : Top p loose mean mg mb h₀) (hk : cs.kind = .function) (hdp : dp ≤ 305) (hun : un ≤ 20)
    (U : UpdF r (rowOf dr [] n) led g) (hd : (dr, initOf w t1 t2) ∈ led)
    (hret : ∀ D ta tb h' tk', Fr h₀ L h' m → News h₀ L h' ((D, tupOf [.str (Str.ofString "") ta, .str (Str.ofString "") tb]) :: g (rowOf dr [] n)) → Q (.ref D) { s with heap := h', toks := tk' }) :
    wpAny (model P w) (ktrTop dp un gd cn cs L a ccd cl outer) (call (.ref 98) [.ref r]) Q E s := by
  obtain ⟨news, N1, h1, h2, h3, h4⟩ := row_front N U hd
  exact r_popE w p loose mean mg mb dp un gd cn cs a ccd cl outer A₀ base h₀ L m s Q E news r dr n t1 t2 B F X Z N1 T hk h1 h2 hdp hun fun D ta tb h' tk' F' N' => hret D ta tb h' tk' F' (h4 _ _ _ N')
variable {T1 T2 T3 T4 : Addr} {a0 a1 a2 a3 : Nat} {ta1 ta2 ta3 ta4 tb1 tb2 tb3 tb4 : Tok} {ps : Array Value}
theorem str3 (B : Below A₀ base outer h₀) (F : Fr h₀ L s.heap m) (X : (hd.heap_1 w.params).In h₀) (Z : ZIn w h₀) (N : News h₀ L s.heap led) (T : Top p loose mean mg mb h₀) (hk : cs.kind = .function) (hdp : dp ≤ 305) (hun : un ≤ 20)
    (hr : (r, rowOf dr [.ref T1, .ref T2, .ref T3] n) ∈ led) (hd : (dr, initOf w t1 t2) ∈ led)
    (m1 : (T1, tupOf [.str (Str.ofString "") ta1, .str ⟨#[a0]⟩ tb1]) ∈ led) (m2 : (T2, tupOf [.str (Str.ofString "") ta2, .str ⟨#[a1]⟩ tb2]) ∈ led) (m3 : (T3, tupOf [.str (Str.ofString "") ta3, .str ⟨#[a2]⟩ tb3]) ∈ led)
    (U : UpdF 107 (tabObj ps) led g) (hps : ps = #[] ∨ ∃ c', ps = #[rawInt 50, rawInt 32, .ref c'])
    (hret : ∀ c' h' g' tk t', Fr h₀ L h' m → News h₀ L h' (g (tabObj #[rawInt 50, rawInt 32, .ref c'])) → (AllBare s.gens → AllBare g') → Q (.str ⟨#[a0, a1, a2]⟩ t') { s with heap := h', gens := g', toks := tk }) :
    wpAny (model P w) (ktrTop dp un gd cn cs L a ccd cl outer) (call (.type "str") [.ref r]) Q E s :=
  r_str w p loose mean mg mb dp un gd cn cs a ccd cl outer A₀ base h₀ L m s Q E led g r dr 3 n (fun | 0 => T1 | 1 => T2 | _ => T3) (fun | 0 => ⟨#[a0]⟩ | 1 => ⟨#[a1]⟩ | _ => ⟨#[a2]⟩) (fun | 0 => ta1 | 1 => ta2 | _ => ta3) (fun | 0 => tb1 | 1 => tb2 | _ => tb3) t1 t2 ps B F X Z N T hk hdp hun hr hd
    (fun k hk => match k, hk with | 0, _ => m1 | 1, _ => m2 | 2, _ => m3) (fun k => match k with | 0 => Nat.le_of_ble_eq_true rfl | 1 => Nat.le_of_ble_eq_true rfl | _ + 2 => Nat.le_of_ble_eq_true rfl) (by decide) U hps hret
theorem str4 (B : Below A₀ base outer h₀) (F : Fr h₀ L s.heap m) (X : (hd.heap_1 w.params).In h₀) (Z : ZIn w h₀) (N : News h₀ L s.heap led) (T : Top p loose mean mg mb h₀) (hk : cs.kind = .function) (hdp : dp ≤ 305) (hun : un ≤ 20)
    (hr : (r, rowOf dr [.ref T1, .ref T2, .ref T3, .ref T4] n) ∈ led) (hd : (dr, initOf w t1 t2) ∈ led)
    (m1 : (T1, tupOf [.str (Str.ofString "") ta1, .str ⟨#[a0]⟩ tb1]) ∈ led) (m2 : (T2, tupOf [.str (Str.ofString "") ta2, .str ⟨#[a1]⟩ tb2]) ∈ led) (m3 : (T3, tupOf [.str (Str.ofString "") ta3, .str ⟨#[a2]⟩ tb3]) ∈ led) (m4 : (T4, tupOf [.str (Str.ofString "") ta4, .str ⟨#[a3]⟩ tb4]) ∈ led)
    (U : UpdF 107 (tabObj ps) led g) (hps : ps = #[] ∨ ∃ c', ps = #[rawInt 50, rawInt 32, .ref c'])
    (hret : ∀ c' h' g' tk t', Fr h₀ L h' m → News h₀ L h' (g (tabObj #[rawInt 50, rawInt 32, .ref c'])) → (AllBare s.gens → AllBare g') → Q (.str ⟨#[a0, a1, a2, a3]⟩ t') { s with heap := h', gens := g', toks := tk }) :
    wpAny (model P w) (ktrTop dp un gd cn cs L a ccd cl outer) (call (.type "str") [.ref r]) Q E s :=
  r_str w p loose mean mg mb dp un gd cn cs a ccd cl outer A₀ base h₀ L m s Q E led g r dr 4 n (fun | 0 => T1 | 1 => T2 | 2 => T3 | _ => T4) (fun | 0 => ⟨#[a0]⟩ | 1 => ⟨#[a1]⟩ | 2 => ⟨#[a2]⟩ | _ => ⟨#[a3]⟩) (fun | 0 => ta1 | 1 => ta2 | 2 => ta3 | _ => ta4) (fun | 0 => tb1 | 1 => tb2 | 2 => tb3 | _ => tb4) t1 t2 ps B F X Z N T hk hdp hun hr hd
    (fun k hk => match k, hk with | 0, _ => m1 | 1, _ => m2 | 2, _ => m3 | 3, _ => m4) (fun k => match k with | 0 => Nat.le_of_ble_eq_true rfl | 1 => Nat.le_of_ble_eq_true rfl | 2 => Nat.le_of_ble_eq_true rfl | _ + 3 => Nat.le_of_ble_eq_true rfl) (by decide) U hps hret
end
end Mine
end
section
open PySem PySem.W PySem.W.X PySem.Spec PySem.Calls PyProof.Rows
set_option Elab.async false
set_option maxRecDepth 100000
set_option maxHeartbeats 8000000
namespace Mine
section
variable {prog : Program} {w : World} {A : Around} {E : Value → Shared → Prop} {s : Shared} {env : Env} {h₀ : Heap} {x : Str} {body : List Stmt} {Q : Flow → Shared → Prop}
noncomputable def TextRest (prog : Program) (w : World) (A : Around) (E : Value → Shared → Prop) (h₀ : Heap) (env : Env) (x : Str) (body : List Stmt) (Q : Flow → Shared → Prop) (s : Shared) (I : Addr) : List Nat → (Str → Option Value) → List (Addr × Obj) → Prop
  | [], m, news => ∀ h tk, Fr h₀ env.locals h m → News h₀ env.locals h news → Q .next { s with heap := h, toks := tk }
  | c :: r, m, news => ∀ (u : Tok) (it : Obj) h tk, it.cls = .type "str_ascii_iterator" → Fr h₀ env.locals h (fun y => if y = x then some (.str ⟨#[c]⟩ u) else m y) → News h₀ env.locals h ((I, it) :: news) →
      wpAny (model prog w) A (execs body env) (UnrPost h₀ env.locals { s with heap := h, toks := tk } I it (fun m' n' => TextRest prog w A E h₀ env x body Q s I r m' n') Q) E { s with heap := h, toks := tk }
theorem TextRest.zero {I : Addr} {m : Str → Option Value} {news : List (Addr × Obj)} (h : ∀ h tk, Fr h₀ env.locals h m → News h₀ env.locals h news → Q .next { s with heap := h, toks := tk }) :
    TextRest prog w A E h₀ env x body Q s I [] m news := h
theorem TextRest.succ {I : Addr} {c : Nat} {r : List Nat} {m : Str → Option Value} {news : List (Addr × Obj)}
    (h : ∀ (u : Tok) (it : Obj) h tk, it.cls = .type "str_ascii_iterator" → Fr h₀ env.locals h (fun y => if y = x then some (.str ⟨#[c]⟩ u) else m y) → News h₀ env.locals h ((I, it) :: news) →
      wpAny (model prog w) A (execs body env) (UnrPost h₀ env.locals { s with heap := h, toks := tk } I it (fun m' n' => TextRest prog w A E h₀ env x body Q s I r m' n') Q) E { s with heap := h, toks := tk }) :
    TextRest prog w A E h₀ env x body Q s I (c :: r) m news := h
theorem iter_textUnr {y : Str} {ty : Tok} {m₀ : Str → Option Value} {news : List (Addr × Obj)} (ha : y.cps.all (· < 128) = true)
    (hh : A.handled = none) (F : Fr h₀ env.locals s.heap m₀) (N : News h₀ env.locals s.heap news)
    (rest₀ : ∀ I : Addr, (∀ p ∈ news, p.1 < I) → TextRest prog w A E h₀ env x body Q s I y.cps.toList m₀ news) :
    wpAny (model prog w) A (pyIter (.str y ty)) (fun it s₂ => LoopAtV prog w A h₀ env x body Q E it s₂) E s := by
  refine wpAny_pyIter_ascii ha ?_
  have rest := rest₀ s.heap.objs.size fun p hp => Heap.lt_size (N p hp).1
  have W := Walks.strAscii (prog := prog) (w := w) hh s.heap.objs.size y ty
  have hnew := next_is_new F
  let J : Nat → (Str → Option Value) → List (Addr × Obj) → Prop := fun i m₁ news₁ => TextRest prog w A E h₀ env x body Q s s.heap.objs.size (y.cps.toList.drop i) m₁ news₁
  refine ⟨_, _, _, y.cps.size, _, _, m₀, news, J, rfl, W, ?_, ?_, ?_, ⟨_, Heap.get?_push_size _ rfl, rfl, rfl⟩, F.push _, (fun p hp => ⟨Heap.get?_push_of_some _ (N p hp).1, (N p hp).2⟩), by show TextRest prog w A E h₀ env x body Q s s.heap.objs.size (y.cps.toList.drop 0) m₀ news; rw [List.drop_zero]; exact rest, ?_, ?_⟩
  · intro hmm
    exact absurd F.ns.lt ((List.mem_singleton.mp hmm) ▸ Nat.lt_irrefl _)
  · intro b hb
    rw [List.mem_singleton.mp hb]
    exact hnew
  · intro p hp hI
    exact absurd (Heap.lt_size (N p hp).1) ((List.mem_singleton.mp hI) ▸ Nat.lt_irrefl _)
  · rintro i v m₁ news₁ s₁ own ⟨hh', tk', rfl⟩ hin hP hJ hoff hown hget hall hst F₁ N₁
    obtain ⟨c, u, hc, rfl⟩ := hP
    obtain ⟨it, hit, hic, hid⟩ := hst
    have hmemI := hall s.heap.objs.size (List.mem_cons_self ..) hnew _ hit
    have hdrop : y.cps.toList.drop i = c :: y.cps.toList.drop (i + 1) := by
      have hlt' : i < y.cps.toList.length := by simpa using hin
      have hv : y.cps.toList[i]? = some c := by simpa using hc
      rw [List.drop_eq_getElem_cons hlt']
      congr 1
      exact Option.some.inj ((List.getElem?_eq_getElem hlt').symm.trans hv)
    have hJ : TextRest prog w A E h₀ env x body Q s s.heap.objs.size (y.cps.toList.drop i) m₁ news₁ := hJ
    rw [hdrop] at hJ
    have N₂ : News h₀ env.locals hh' ((s.heap.objs.size, it) :: news₁) := fun p hp => by
      rcases List.mem_cons.mp hp with rfl | hp
      · exact N₁ _ (List.mem_append_left _ hmemI)
      · exact N₁ _ (List.mem_append_right _ hp)
    refine wpAny_mono (hJ u it hh' tk' hic F₁ N₂) (fun f s₂ p => ?_) fun _ _ e => e
    have fin : UnrEnd h₀ env.locals { s with heap := hh', toks := tk' } s.heap.objs.size it (fun m' n' => TextRest prog w A E h₀ env x body Q s s.heap.objs.size (y.cps.toList.drop (i + 1)) m' n') s₂ →
        LoopStepU h₀ env.locals [s.heap.objs.size] own (J (i + 1)) { s with heap := hh', toks := tk' } .next s₂ := by
      rintro ⟨h', tk, m', news', e, F', N', ho, r⟩
      refine ⟨rfl, h', tk, m', news', e, F', fun p hp => ?_, fun p hp hI => ho p hp (List.mem_singleton.mp hI), r⟩
      rcases List.mem_append.mp hp with hp | hp
      · have h2 : hh'.get? p.1 = some p.2 := hget p hp
        have h1 : p.1 = s.heap.objs.size := List.mem_singleton.mp (hown p hp)
        have h3 : p = (s.heap.objs.size, it) := by
          rw [h1, hit] at h2
          exact Prod.ext h1 (Option.some.inj h2).symm
        rw [h3]; exact N' _ (List.mem_cons_self ..)
      · exact N' _ (List.mem_cons_of_mem _ hp)
    cases f with
    | ret v => exact .ret p
    | brk => exact .brk p
    | next => exact .next (fin p)
    | cont => exact .cont (fin p)
  · rintro h' tk m' news' F' N' _ hJ
    have hJ : TextRest prog w A E h₀ env x body Q s s.heap.objs.size (y.cps.toList.drop y.cps.size) m' news' := hJ
    have z : y.cps.toList.drop y.cps.size = [] := by simp
    rw [z] at hJ
    exact hJ h' tk F' N'
end
end Mine
end
section
set_option Elab.async false
set_option maxRecDepth 100000
set_option maxHeartbeats 8000000
namespace Mine
noncomputable def ins (a : Nat) : List Nat → List Nat
  | [] => [a]
  | b :: r => if a ≤ b then a :: b :: r else b :: ins a r
noncomputable def srt : List Nat → List Nat
  | [] => []
  | a :: r => ins a (srt r)
noncomputable def four (odd : Bool) (l : Nat) : Bool := odd || Nat.ble 1000 l
noncomputable def figs (odd : Bool) (l : Nat) : List Nat := if four odd l then srt [l / 1000 % 10, l / 100 % 10, l / 10 % 10, l % 10] else srt [l / 100 % 10, l / 10 % 10, l % 10]
noncomputable def lowOf : List Nat → Nat → Nat
  | [], v => v
  | a :: r, v => lowOf r (v * 10 + a)
noncomputable def highOf : List Nat → Nat → Nat → Nat
  | [], _, v => v
  | a :: r, e, v => highOf r (e * 10) (v + a * e)
noncomputable def stepOf : List Nat → Nat
  | [a, b, c, d] => 999 * (d - a) + 90 * (c - b)
  | [a, _, c] => 99 * (c - a)
  | _ => 0
noncomputable def endOf (odd : Bool) : List Nat → Nat
  | [a, b, c, d] => if a = d then 0 else if odd = false ∧ d - a = 1 ∧ b = c then 0 else 6174
  | [a, _, c] => if a = c then 0 else 495
  | _ => 0
noncomputable def fin (odd : Bool) (l : Nat) : Nat := endOf odd (figs odd l)
theorem ins_perm (a : Nat) : ∀ l : List Nat, (ins a l).Perm (a :: l)
  | [] => .refl _
  | b :: r => by
    unfold ins
    split
    · exact .refl _
    · exact ((ins_perm a r).cons b).trans (.swap a b r)
theorem srt_perm : ∀ l : List Nat, (srt l).Perm l
  | [] => .refl _
  | a :: r => (ins_perm a (srt r)).trans ((srt_perm r).cons a)
theorem ins_sorted (a : Nat) : ∀ l : List Nat, l.Pairwise (· ≤ ·) → (ins a l).Pairwise (· ≤ ·)
  | [], _ => by simp [ins]
  | b :: r, h => by
    unfold ins
    split
    · refine List.pairwise_cons.mpr ⟨fun x hx => ?_, h⟩
      rcases List.mem_cons.mp hx with rfl | hx
      · assumption
      · exact Nat.le_trans (by assumption) ((List.pairwise_cons.mp h).1 x hx)
    · refine List.pairwise_cons.mpr ⟨fun x hx => ?_, ins_sorted a r (List.pairwise_cons.mp h).2⟩
      rcases List.mem_cons.mp ((ins_perm a r).mem_iff.mp hx) with rfl | hx
      · omega
      · exact (List.pairwise_cons.mp h).1 x hx
theorem srt_sorted : ∀ l : List Nat, (srt l).Pairwise (· ≤ ·)
  | [] => .nil
  | a :: r => ins_sorted a _ (srt_sorted r)
theorem srt_uniq {l l' : List Nat} (p : l'.Perm l) (s : l'.Pairwise (· ≤ ·)) : l' = srt l :=
  (p.trans (srt_perm l).symm).eq_of_pairwise (le := (· ≤ ·)) (fun _ _ _ _ => Nat.le_antisymm) s (srt_sorted l)
noncomputable def nx (odd : Bool) (l : Nat) : Nat := stepOf (figs odd l)
noncomputable def itn (odd : Bool) : Nat → Nat → Nat
  | 0, l => l
  | k + 1, l => nx odd (itn odd k l)
theorem itn_nx (odd : Bool) (l : Nat) : ∀ k, itn odd k (nx odd l) = itn odd (k + 1) l
  | 0 => rfl
  | k + 1 => congrArg (nx odd) (itn_nx odd l k)
theorem itn_fix {odd : Bool} {l : Nat} (h : nx odd l = l) : ∀ k, itn odd k l = l
  | 0 => rfl
  | k + 1 => (congrArg (nx odd) (itn_fix h k)).trans h
theorem itn_add (odd : Bool) (l j : Nat) : ∀ k, itn odd (k + j) l = itn odd k (itn odd j l)
  | 0 => by simp [itn]
  | k + 1 => by
    rw [show k + 1 + j = (k + j) + 1 by omega]
    exact congrArg (nx odd) (itn_add odd l j k)
theorem small3 : ∀ p, p < 10 → itn false 6 (99 * p) = (if p = 0 then 0 else 495) := by decide +kernel
theorem small4e : ∀ p, p < 10 → ∀ q, q < 10 → q ≤ p → itn false 6 (999 * p + 90 * q) = (if p = 0 then 0 else if p = 1 ∧ q = 0 then 0 else 6174) := by decide +kernel
theorem small4o : ∀ p, p < 10 → ∀ q, q < 10 → q ≤ p → itn true 6 (999 * p + 90 * q) = (if p = 0 then 0 else 6174) := by decide +kernel
theorem fix0 : ∀ odd, nx odd 0 = 0 := by decide +kernel
theorem fix3 : nx false 495 = 495 := by decide +kernel
theorem fix4 : ∀ odd, nx odd 6174 = 6174 := by decide +kernel
theorem srt4 (a b c d : Nat) : ∃ e f g h, srt [a, b, c, d] = [e, f, g, h] ∧ e ≤ f ∧ f ≤ g ∧ g ≤ h ∧ [e, f, g, h].Perm [a, b, c, d] := by
  have hl := (srt_perm [a, b, c, d]).length_eq
  have hs := srt_sorted [a, b, c, d]
  have hp := srt_perm [a, b, c, d]
  match hq : srt [a, b, c, d], hl with
  | [e, f, g, h], _ =>
    rw [hq] at hs hp
    simp only [List.pairwise_cons, List.mem_cons, List.not_mem_nil, or_false, forall_eq_or_imp, forall_eq] at hs
    exact ⟨e, f, g, h, rfl, hs.1.1, hs.2.1.1, hs.2.2.1, hp⟩
theorem srt3 (a b c : Nat) : ∃ e f g, srt [a, b, c] = [e, f, g] ∧ e ≤ f ∧ f ≤ g ∧ [e, f, g].Perm [a, b, c] := by
  have hl := (srt_perm [a, b, c]).length_eq
  have hs := srt_sorted [a, b, c]
  have hp := srt_perm [a, b, c]
  match hq : srt [a, b, c], hl with
  | [e, f, g], _ =>
    rw [hq] at hs hp
    simp only [List.pairwise_cons, List.mem_cons, List.not_mem_nil, or_false, forall_eq_or_imp, forall_eq] at hs
    exact ⟨e, f, g, rfl, hs.1.1, hs.2.1, hp⟩
theorem below_of {l m : List Nat} (p : l.Perm m) (h : ∀ x ∈ m, x < 10) : ∀ x ∈ l, x < 10 := fun x hx => h x (p.mem_iff.mp hx)
theorem figs_lt (odd : Bool) (l : Nat) : ∀ x ∈ figs odd l, x < 10 := by
  unfold figs
  split
  · refine below_of (srt_perm _) ?_
    simp only [List.mem_cons, List.not_mem_nil, or_false]
    rintro x (rfl | rfl | rfl | rfl) <;> omega
  · refine below_of (srt_perm _) ?_
    simp only [List.mem_cons, List.not_mem_nil, or_false]
    rintro x (rfl | rfl | rfl) <;> omega
theorem nx_le (odd : Bool) (l : Nat) : nx odd l ≤ 9999 := by
  have hb := figs_lt odd l
  unfold nx
  unfold figs at hb ⊢
  split
  · rename_i h
    rw [if_pos h] at hb
    obtain ⟨e, f, g, h, q, _, _, _, _⟩ := srt4 (l / 1000 % 10) (l / 100 % 10) (l / 10 % 10) (l % 10)
    rw [q] at hb ⊢
    have := hb e (by simp); have := hb f (by simp); have := hb g (by simp); have := hb h (by simp)
    simp only [stepOf]
    omega
  · rename_i h
    rw [if_neg h] at hb
    obtain ⟨e, f, g, q, _, _, _⟩ := srt3 (l / 100 % 10) (l / 10 % 10) (l % 10)
    rw [q] at hb ⊢
    have := hb e (by simp); have := hb f (by simp); have := hb g (by simp)
    simp only [stepOf]
    omega
theorem kap (odd : Bool) (l : Nat) : itn odd 7 l = fin odd l ∧ nx odd (fin odd l) = fin odd l := by
  have key : itn odd 6 (nx odd l) = fin odd l := by
    have hb := figs_lt odd l
    unfold nx fin
    by_cases h4 : four odd l = true
    · unfold figs at hb ⊢
      rw [if_pos h4] at hb ⊢
      obtain ⟨e, f, g, h, q, h1, h2, h3, _⟩ := srt4 (l / 1000 % 10) (l / 100 % 10) (l / 10 % 10) (l % 10)
      rw [q] at hb ⊢
      have := hb e (by simp); have := hb f (by simp); have := hb g (by simp); have := hb h (by simp)
      simp only [stepOf, endOf]
      cases odd with
      | true =>
        rw [small4o (h - e) (by omega) (g - f) (by omega) (by omega)]
        by_cases z : e = h
        · rw [if_pos (by omega), if_pos z]
        · rw [if_neg (by omega), if_neg z, if_neg (by simp)]
      | false =>
        rw [small4e (h - e) (by omega) (g - f) (by omega) (by omega)]
        by_cases z : e = h
        · rw [if_pos (by omega), if_pos z]
        · rw [if_neg (by omega), if_neg z]
          by_cases y : h - e = 1 ∧ g - f = 0
          · rw [if_pos y, if_pos ⟨rfl, y.1, by omega⟩]
          · rw [if_neg y, if_neg (fun x => y ⟨x.2.1, by omega⟩)]
    · unfold figs at hb ⊢
      rw [if_neg h4] at hb ⊢
      have ho : odd = false := by
        cases odd with
        | true => exact absurd rfl h4
        | false => rfl
      subst ho
      obtain ⟨e, f, g, q, h1, h2, _⟩ := srt3 (l / 100 % 10) (l / 10 % 10) (l % 10)
      rw [q] at hb ⊢
      have := hb e (by simp); have := hb g (by simp)
      simp only [stepOf, endOf]
      rw [small3 (g - e) (by omega)]
      by_cases z : e = g
      · rw [if_pos (by omega), if_pos z]
      · rw [if_neg (by omega), if_neg z]
  refine ⟨(itn_nx odd l 6).symm.trans key, ?_⟩
  have : fin odd l = 0 ∨ (odd = false ∧ fin odd l = 495) ∨ fin odd l = 6174 := by
    unfold fin
    by_cases h4 : four odd l = true
    · unfold figs
      rw [if_pos h4]
      obtain ⟨e, f, g, h, q, _⟩ := srt4 (l / 1000 % 10) (l / 100 % 10) (l / 10 % 10) (l % 10)
      rw [q]; simp only [endOf]
      split
      · exact .inl rfl
      · split
        · exact .inl rfl
        · exact .inr (.inr rfl)
    · unfold figs
      rw [if_neg h4]
      have ho : odd = false := by
        cases odd with
        | true => exact absurd rfl h4
        | false => rfl
      obtain ⟨e, f, g, q, _⟩ := srt3 (l / 100 % 10) (l / 10 % 10) (l % 10)
      rw [q]; simp only [endOf]
      split
      · exact .inl rfl
      · exact .inr (.inl ⟨ho, rfl⟩)
  rcases this with h | ⟨rfl, h⟩ | h
  · rw [h]; exact fix0 odd
  · rw [h]; exact fix3
  · rw [h]; exact fix4 odd
theorem at_end {odd : Bool} {l k : Nat} (hk : k ≤ 7) (h : nx odd (itn odd k l) = itn odd k l) : itn odd k l = fin odd l := by
  rw [← (kap odd l).1, show (7 : Nat) = (7 - k) + k by omega, itn_add, itn_fix h]
theorem no_eight {odd : Bool} {l : Nat} (h : nx odd (itn odd 7 l) ≠ itn odd 7 l) : False := h (by rw [(kap odd l).1]; exact (kap odd l).2)
end Mine
end
section
open PySem PySem.W PySem.W.X PySem.Spec PySem.Calls PyProof.Rows
set_option Elab.async false
set_option maxRecDepth 100000
set_option maxHeartbeats 8000000
namespace Mine
theorem allLt_ne {d : Addr} : ∀ {l : List (Addr × Obj)}, AllLt d l → ∀ p ∈ l, p.1 ≠ d
  | [], _, _, hp => nomatch hp
  | q :: r, h, p, hp => by
    rcases List.mem_cons.mp hp with e | hp
    · subst e; exact Nat.ne_of_lt h.1
    · exact allLt_ne h.2 p hp
theorem srt_int {n : List Int} {m : List Nat} (p : n.Perm (m.map fun (x : Nat) => (x : Int))) (o : n.Pairwise (· ≤ ·)) : n = (srt m).map fun (x : Nat) => (x : Int) := by
  have h1 : (n.map Int.toNat).Perm m := by
    have := p.map Int.toNat
    rw [List.map_map] at this
    have e : (Int.toNat ∘ fun (x : Nat) => (x : Int)) = id := funext fun x => Int.toNat_natCast x
    rwa [e, List.map_id] at this
  have h2 : (n.map Int.toNat).Pairwise (· ≤ ·) := by
    rw [List.pairwise_map]
    exact o.imp fun h => by omega
  rw [← srt_uniq h1 h2, List.map_map]
  conv => lhs; rw [← List.map_id n]
  refine List.map_congr_left fun x hx => ?_
  obtain ⟨y, _, rfl⟩ := List.mem_map.mp (p.mem_iff.mp hx)
  show ((y : Int)) = ((Int.toNat (y : Int) : Nat) : Int)
  rw [Int.toNat_natCast]
theorem srt_congr {m m' : List Nat} (p : m.Perm m') : srt m = srt m' := srt_uniq ((srt_perm m).trans p) (srt_sorted m)
theorem fdm (l k : Nat) (hk : 0 < k) : (((l : Int).fdiv (k : Int)).fmod 10) = ((l / k % 10 : Nat) : Int) := by
  rw [Int.fdiv_eq_ediv_of_nonneg _ (by omega), Int.fmod_eq_emod_of_nonneg _ (by decide)]
  omega
section
variable {line : Int} {l : Nat} {n : List Int}
theorem four_ints (hl : line = l) (p : n.Perm [(line.fdiv (10 ^ (0 + ((0 : Nat) : Int)).toNat)).fmod 10, (line.fdiv (10 ^ (0 + ((0 + 1 : Nat) : Int)).toNat)).fmod 10, (line.fdiv (10 ^ (0 + ((0 + 1 + 1 : Nat) : Int)).toNat)).fmod 10, (line.fdiv (10 ^ (0 + ((0 + 1 + 1 + 1 : Nat) : Int)).toNat)).fmod 10])
    (o : n.Pairwise (· ≤ ·)) : n = (srt [l / 1000 % 10, l / 100 % 10, l / 10 % 10, l % 10]).map fun (x : Nat) => (x : Int) := by
  subst hl
  have e0 := fdm l 1 (by decide)
  have e1 := fdm l 10 (by decide)
  have e2 := fdm l 100 (by decide)
  have e3 := fdm l 1000 (by decide)
  have q : n.Perm ([l / 1 % 10, l / 10 % 10, l / 100 % 10, l / 1000 % 10].map fun (x : Nat) => (x : Int)) := by
    simp only [List.map_cons, List.map_nil, ← e0, ← e1, ← e2, ← e3]
    exact p
  rw [srt_int q o, Nat.div_one]
  congr 1
  refine srt_congr ?_
  exact (List.reverse_perm [l % 10, l / 10 % 10, l / 100 % 10, l / 1000 % 10]).symm
theorem three_ints (hl : line = l) (p : n.Perm [(line.fdiv (10 ^ (0 + ((0 : Nat) : Int)).toNat)).fmod 10, (line.fdiv (10 ^ (0 + ((0 + 1 : Nat) : Int)).toNat)).fmod 10, (line.fdiv (10 ^ (0 + ((0 + 1 + 1 : Nat) : Int)).toNat)).fmod 10])
    (o : n.Pairwise (· ≤ ·)) : n = (srt [l / 100 % 10, l / 10 % 10, l % 10]).map fun (x : Nat) => (x : Int) := by
  subst hl
  have e0 := fdm l 1 (by decide)
  have e1 := fdm l 10 (by decide)
  have e2 := fdm l 100 (by decide)
  have q : n.Perm ([l / 1 % 10, l / 10 % 10, l / 100 % 10].map fun (x : Nat) => (x : Int)) := by
    simp only [List.map_cons, List.map_nil, ← e0, ← e1, ← e2]
    exact p
  rw [srt_int q o, Nat.div_one]
  congr 1
  refine srt_congr ?_
  exact (List.reverse_perm [l % 10, l / 10 % 10, l / 100 % 10]).symm
theorem low4 (hn : n = (srt [l / 1000 % 10, l / 100 % 10, l / 10 % 10, l % 10]).map fun (x : Nat) => (x : Int)) :
    ((((0 * 10 + n.getD (0 + ((0 : Nat) : Int)).toNat 0) * 10 + n.getD (0 + ((0 + 1 : Nat) : Int)).toNat 0) * 10 + n.getD (0 + ((0 + 1 + 1 : Nat) : Int)).toNat 0) * 10 + n.getD (0 + ((0 + 1 + 1 + 1 : Nat) : Int)).toNat 0) = ((lowOf (srt [l / 1000 % 10, l / 100 % 10, l / 10 % 10, l % 10]) 0 : Nat) : Int) := by
  obtain ⟨e, f, g, h, q, _⟩ := srt4 (l / 1000 % 10) (l / 100 % 10) (l / 10 % 10) (l % 10)
  rw [q] at hn ⊢
  subst hn
  show ((((0 * 10 + (e : Int)) * 10 + f) * 10 + g) * 10 + h) = (((((0 * 10 + e) * 10 + f) * 10 + g) * 10 + h : Nat) : Int)
  omega
theorem low3 (hn : n = (srt [l / 100 % 10, l / 10 % 10, l % 10]).map fun (x : Nat) => (x : Int)) :
    (((0 * 10 + n.getD (0 + ((0 : Nat) : Int)).toNat 0) * 10 + n.getD (0 + ((0 + 1 : Nat) : Int)).toNat 0) * 10 + n.getD (0 + ((0 + 1 + 1 : Nat) : Int)).toNat 0) = ((lowOf (srt [l / 100 % 10, l / 10 % 10, l % 10]) 0 : Nat) : Int) := by
  obtain ⟨e, f, g, q, _⟩ := srt3 (l / 100 % 10) (l / 10 % 10) (l % 10)
  rw [q] at hn ⊢
  subst hn
  show (((0 * 10 + (e : Int)) * 10 + f) * 10 + g) = ((((0 * 10 + e) * 10 + f) * 10 + g : Nat) : Int)
  omega
end
theorem fourT (l : Nat) : four true l = true := rfl
theorem fourF {l : Nat} (h : 1000 ≤ l) : four false l = true := Nat.ble_eq_true_of_le h
theorem fourN {l : Nat} (h : l ≤ 999) : four false l = false := by
  cases q : four false l with
  | false => rfl
  | true =>
    have : 1000 ≤ l := Nat.le_of_ble_eq_true q
    omega
noncomputable def wid (odd : Bool) (l : Nat) : Int := if four odd l then 4 else 3
noncomputable def rise (odd : Bool) (l : Nat) : Int := (lowOf (figs odd l) 0 : Nat)
theorem wid4 {odd : Bool} {l : Nat} (h : four odd l = true) : wid odd l = 4 := if_pos h
theorem wid3 {odd : Bool} {l : Nat} (h : four odd l = false) : wid odd l = 3 := if_neg (by rw [h]; decide)
theorem figs4 {odd : Bool} {l : Nat} (h : four odd l = true) : figs odd l = srt [l / 1000 % 10, l / 100 % 10, l / 10 % 10, l % 10] := if_pos h
theorem figs3 {odd : Bool} {l : Nat} (h : four odd l = false) : figs odd l = srt [l / 100 % 10, l / 10 % 10, l % 10] := if_neg (by rw [h]; decide)
theorem news_drop3 {h₀ h : Heap} {L : Addr} {a b c d e x y z : Addr × Obj} {news : List (Addr × Obj)} (N : News h₀ L h (a :: b :: c :: d :: e :: x :: y :: z :: news)) : News h₀ L h (a :: b :: c :: d :: e :: news) := news_sub N fun p hp => by
  simp only [List.mem_cons] at hp ⊢
  rcases hp with h | h | h | h | h | h <;> simp [h]
theorem news_tail3 {h₀ h : Heap} {L : Addr} {x y z : Addr × Obj} {news : List (Addr × Obj)} (N : News h₀ L h (x :: y :: z :: news)) : News h₀ L h news := news_sub N fun p hp => .tail _ (.tail _ (.tail _ hp))
section
variable {odd : Bool} {l : Nat} {n : List Int}
noncomputable abbrev Four (n : List Int) (l : Nat) : Prop := n = (srt [l / 1000 % 10, l / 100 % 10, l / 10 % 10, l % 10]).map fun (x : Nat) => (x : Int)
noncomputable abbrev Three (n : List Int) (l : Nat) : Prop := n = (srt [l / 100 % 10, l / 10 % 10, l % 10]).map fun (x : Nat) => (x : Int)
theorem fin_at4 (hf : four odd l = true) (hn : Four n l) : ∃ e f g h : Nat, e ≤ f ∧ f ≤ g ∧ g ≤ h ∧ n.getD (Int.toNat 0) 0 = e ∧ n.getD (Int.toNat 1) 0 = f ∧ n.getD (Int.toNat 2) 0 = g ∧ n.getD (-1 + (n.length : Int)).toNat 0 = h ∧ fin odd l = if e = h then 0 else if odd = false ∧ h - e = 1 ∧ f = g then 0 else 6174 := by
  obtain ⟨e, f, g, h, q, a, b, c, _⟩ := srt4 (l / 1000 % 10) (l / 100 % 10) (l / 10 % 10) (l % 10)
  unfold Four at hn
  unfold fin
  rw [figs4 hf]
  rw [q] at hn ⊢
  subst hn
  exact ⟨e, f, g, h, a, b, c, rfl, rfl, rfl, rfl, rfl⟩
theorem fin_at3 (hf : four odd l = false) (hn : Three n l) : ∃ e f g : Nat, e ≤ f ∧ f ≤ g ∧ n.getD (Int.toNat 0) 0 = e ∧ n.getD (-1 + (n.length : Int)).toNat 0 = g ∧ fin odd l = if e = g then 0 else 495 := by
  obtain ⟨e, f, g, q, a, b, _⟩ := srt3 (l / 100 % 10) (l / 10 % 10) (l % 10)
  unfold Three at hn
  unfold fin
  rw [figs3 hf]
  rw [q] at hn ⊢
  subst hn
  exact ⟨e, f, g, a, b, rfl, rfl, rfl⟩
theorem endA4 (hf : four odd l = true) (hn : Four n l) (a : n.getD (Int.toNat 0) 0 = n.getD (-1 + (n.length : Int)).toNat 0) : ((fin odd l : Nat) : Int) = 0 := by
  obtain ⟨e, f, g, h, _, _, _, e0, e1, e2, e3, q⟩ := fin_at4 hf hn
  rw [e0, e3] at a
  rw [q, if_pos (by omega)]; rfl
theorem endB4 (hf : four true l = true) (hn : Four n l) (a : n.getD (Int.toNat 0) 0 ≠ n.getD (-1 + (n.length : Int)).toNat 0) : ((fin true l : Nat) : Int) = 6174 := by
  obtain ⟨e, f, g, h, _, _, _, e0, e1, e2, e3, q⟩ := fin_at4 hf hn
  rw [e0, e3] at a
  rw [q, if_neg (by omega), if_neg (by simp)]; rfl
theorem endC4 (hf : four false l = true) (hn : Four n l) (a : n.getD (Int.toNat 0) 0 ≠ n.getD (-1 + (n.length : Int)).toNat 0) (b : n.getD (-1 + (n.length : Int)).toNat 0 - n.getD (Int.toNat 0) 0 = 1) (c : n.getD (Int.toNat 1) 0 = n.getD (Int.toNat 2) 0) : ((fin false l : Nat) : Int) = 0 := by
  obtain ⟨e, f, g, h, _, _, _, e0, e1, e2, e3, q⟩ := fin_at4 hf hn
  rw [e0, e3] at a
  rw [e0, e3] at b
  rw [e1, e2] at c
  rw [q, if_neg (by omega), if_pos ⟨rfl, by omega, by omega⟩]; rfl
theorem endD4 (hf : four false l = true) (hn : Four n l) (a : n.getD (Int.toNat 0) 0 ≠ n.getD (-1 + (n.length : Int)).toNat 0) (b : n.getD (Int.toNat 1) 0 ≠ n.getD (Int.toNat 2) 0) : ((fin false l : Nat) : Int) = 6174 := by
  obtain ⟨e, f, g, h, _, _, _, e0, e1, e2, e3, q⟩ := fin_at4 hf hn
  rw [e0, e3] at a
  rw [e1, e2] at b
  rw [q, if_neg (by omega), if_neg (fun x => b (by omega))]; rfl
theorem endE4 (hf : four false l = true) (hn : Four n l) (a : n.getD (Int.toNat 0) 0 ≠ n.getD (-1 + (n.length : Int)).toNat 0) (b : n.getD (-1 + (n.length : Int)).toNat 0 - n.getD (Int.toNat 0) 0 ≠ 1) : ((fin false l : Nat) : Int) = 6174 := by
  obtain ⟨e, f, g, h, _, _, _, e0, e1, e2, e3, q⟩ := fin_at4 hf hn
  rw [e0, e3] at a
  rw [e0, e3] at b
  rw [q, if_neg (by omega), if_neg (fun x => b (by omega))]; rfl
theorem endA3 (hf : four odd l = false) (hn : Three n l) (a : n.getD (Int.toNat 0) 0 = n.getD (-1 + (n.length : Int)).toNat 0) : ((fin odd l : Nat) : Int) = 0 := by
  obtain ⟨e, f, g, _, _, e0, e3, q⟩ := fin_at3 hf hn
  rw [e0, e3] at a
  rw [q, if_pos (by omega)]; rfl
theorem endB3 (hf : four odd l = false) (hn : Three n l) (a : n.getD (Int.toNat 0) 0 ≠ n.getD (-1 + (n.length : Int)).toNat 0) : ((fin odd l : Nat) : Int) = 495 := by
  obtain ⟨e, f, g, _, _, e0, e3, q⟩ := fin_at3 hf hn
  rw [e0, e3] at a
  rw [q, if_neg (by omega)]; rfl
end
end Mine
end
section
open PySem PySem.W PySem.W.X PySem.Spec PySem.Calls PyProof.Rows
set_option Elab.async false
set_option maxRecDepth 100000
set_option maxHeartbeats 8000000
namespace Mine
theorem dueT : ∀ (w : World) (p : Program) (loose : List Str) (mean : ExcName → Option Value) (mg mb : Str → Option Value)
   (dp un : Nat) (gd : Option (List Code)) (cn : Str) (cs : Scope) (a : Addr) (ccd : Value) (cl : List (Str × Addr)) (outer : List Env) (A₀ : Around) (base h₀ : Heap) (L : Addr) (m : Str → Option Value) (s : Shared) (Q E : Value → Shared → Prop)
   (news : List (Addr × Obj)) (line : Int) (l : Nat) (tl : Tok)
   (B : Below A₀ base outer h₀) (F : Fr h₀ L s.heap m) (X : (hd.heap_1 w.params).In h₀) (Z : ZIn w h₀) (N : News h₀ L s.heap (news)) (T : Top p loose mean mg mb h₀) (hk : cs.kind = .function)
   (hdp : dp ≤ 310) (hun : un ≤ 40)
   (hline : line = l) (hl0 : 1 ≤ l) (hl1 : l ≤ 9999)
   (hret : ∀ D T Em H1 H2 t1 t2 t3 t4 t5 t6 t7 n h' tk', Fr h₀ L h' m → News h₀ L h' ((D, PySem.W.listOf #[.int (wid true l) t1, .ref T, .bool true, .ref Em] n) :: (Em, tupOf [.str (Str.ofString "") t2, .str (Str.ofString "") t3]) :: (T, tupOf [.ref H1, .ref H2]) :: (H2, tupOf [.str (Str.ofString "h") t4, .int (rise true l) t5]) :: (H1, tupOf [.str (Str.ofString "h") t6, .int (rise true l) t7]) :: news) → Q (.ref D) { s with heap := h', toks := tk' }),
   wpAny (model Challenge.rw_yh0009_01.row.prog w) (ktrTop dp un gd cn cs L a ccd cl outer) (call (.ref 205) [.int line tl, .bool true]) Q E s := by
  k_fill
  intro w p loose mean mg mb dp un gd cn cs a ccd cl outer A₀ base h₀ L m s Q E news line l tl B F X Z N T hk hdp hun hline hl0 hl1 hret
  refine weaken (A' := ktrTop 310 40 gd cn cs L a ccd cl outer) rfl hdp rfl rfl hun ?_
  refine wpAny_call ?_
  k_dflt (((refine' code_defC ?k1 ?k2 ?k3 ?k4 ?k5 ?kA ?kF ?kK ?k6 ?k7 ?k8 ?k9 ?kB ?kD ?_ ?c2 ?c3 ?c4; (case kA => exact rfl); (case kF => exact rfl); (case kK => assumption); (case k1 => k_asm); (case k2 => k_asm); (case k3 => k_asm); (case k4 => k_asm); (case k5 => k_asm); (case k6 => k_is); (case k7 => k_is); (case k8 => ktr_room); (case k9 => exact BindsTo.of_eq rfl); (case kB => exact rfl); (case kD => decide +kernel); (case c2 => exact rfl); (case c3 => exact rfl); (case c4 => exact rfl); k_whole; intro g' L' h' tk' cells' FG' F' N' Y' B' X' T' l1; (try k_lt l1); k_cells Y'; (try simp only [List.cons_append, List.nil_append] at N'); (try dsimp only); (try k_lift B'); (try k_fold))))
  repeat' (first | (k_unfold; (try dsimp only)) | (k_end; with_reducible (first | ((with_reducible show UnrEnd _ _ _ _ _ _ _); (first | with_reducible ((refine UnrEnd.intro (by assumption) (by assumption) _ (fun _ hp => hp) (by ((repeat (refine List.forall_mem_cons.mpr ⟨by k_ne, ?_⟩)); (first | exact List.forall_mem_nil _ | exact allLt_ne (by with_reducible assumption) | exact allLt_ne (And.right (by with_reducible assumption)) | exact allLt_ne (And.right (And.right (by with_reducible assumption))) | exact allLt_ne (And.right (And.right (And.right (by with_reducible assumption)))) | exact allLt_ne (And.right (And.right (And.right (And.right (by with_reducible assumption))))) | exact allLt_ne (And.right (And.right (And.right (And.right (And.right (by with_reducible assumption)))))) | exact allLt_ne (And.right (And.right (And.right (And.right (And.right (And.right (by with_reducible assumption))))))) | exact allLt_ne (And.right (And.right (And.right (And.right (And.right (And.right (And.right (by with_reducible assumption)))))))) | exact allLt_ne (And.right (And.right (And.right (And.right (And.right (And.right (And.right (And.right (by with_reducible assumption)))))))))))) ?_)) | k_dflt ((refine UnrEnd.intro (by assumption) (by assumption) _ (fun _ hp => hp) (by ((repeat (refine List.forall_mem_cons.mpr ⟨by k_ne, ?_⟩)); (first | exact List.forall_mem_nil _ | exact allLt_ne (by with_reducible assumption) | exact allLt_ne (And.right (by with_reducible assumption)) | exact allLt_ne (And.right (And.right (by with_reducible assumption))) | exact allLt_ne (And.right (And.right (And.right (by with_reducible assumption)))) | exact allLt_ne (And.right (And.right (And.right (And.right (by with_reducible assumption))))) | exact allLt_ne (And.right (And.right (And.right (And.right (And.right (by with_reducible assumption)))))) | exact allLt_ne (And.right (And.right (And.right (And.right (And.right (And.right (by with_reducible assumption))))))) | exact allLt_ne (And.right (And.right (And.right (And.right (And.right (And.right (And.right (by with_reducible assumption)))))))) | exact allLt_ne (And.right (And.right (And.right (And.right (And.right (And.right (And.right (And.right (by with_reducible assumption)))))))))))) ?_)))) | ((with_reducible show LCg.CompEnd _ _ _ _ _ _ _ _ _ _ _ _ _ _); ((k_dflt (refine LCg.CompEnd.intro (by assumption) (by assumption) _ (fun _ hp => hp) (by assumption) (by lcg_src) ?_)))) | ((with_reducible show LCg.CompSrc _ _ _ _ _ _ _ _ _ _ _ _ _ _); ((k_here; k_dflt (refine LCg.CompSrc.range (by rfl) (by k_asm) (by k_asm) (by assumption) (by first | decide | rfl) (by first | rfl | decide) (by first | size_fits | exact Nat.le_of_ble_eq_true rfl) ?_; intro g'; lcg_lit)))) | fail "none")) | (k_end; kc_close) | walk1 | (dsimp only; walk1) | (leave1; (try dsimp only)) | fail "no step")
  · exact absurd hline (by omega)
  ·
    (have hf := @fourT l; rw [wid4 hf] at hret; unfold rise at hret; rw [figs4 hf] at hret; have hn := four_ints hline (by assumption) (by assumption); rw [← low4 hn] at hret; exact hret _ _ _ _ _ _ _ _ _ _ _ _ _ _ _ (by assumption) (news_drop3 (by assumption)))
end Mine
end
section
open PySem PySem.W PySem.W.X PySem.Spec PySem.Calls PyProof.Rows
set_option Elab.async false
set_option maxRecDepth 100000
set_option maxHeartbeats 8000000
namespace Mine
theorem dueF : ∀ (w : World) (p : Program) (loose : List Str) (mean : ExcName → Option Value) (mg mb : Str → Option Value)
   (dp un : Nat) (gd : Option (List Code)) (cn : Str) (cs : Scope) (a : Addr) (ccd : Value) (cl : List (Str × Addr)) (outer : List Env) (A₀ : Around) (base h₀ : Heap) (L : Addr) (m : Str → Option Value) (s : Shared) (Q E : Value → Shared → Prop)
   (news : List (Addr × Obj)) (line : Int) (l : Nat) (tl : Tok)
   (B : Below A₀ base outer h₀) (F : Fr h₀ L s.heap m) (X : (hd.heap_1 w.params).In h₀) (Z : ZIn w h₀) (N : News h₀ L s.heap (news)) (T : Top p loose mean mg mb h₀) (hk : cs.kind = .function)
   (hdp : dp ≤ 310) (hun : un ≤ 40)
   (hline : line = l) (hl0 : 1 ≤ l) (hl1 : l ≤ 9999)
   (hret : ∀ D T Em H1 H2 t1 t2 t3 t4 t5 t6 t7 n h' tk', Fr h₀ L h' m → News h₀ L h' ((D, PySem.W.listOf #[.int (wid false l) t1, .ref T, .bool true, .ref Em] n) :: (Em, tupOf [.str (Str.ofString "") t2, .str (Str.ofString "") t3]) :: (T, tupOf [.ref H1, .ref H2]) :: (H2, tupOf [.str (Str.ofString "h") t4, .int (rise false l) t5]) :: (H1, tupOf [.str (Str.ofString "h") t6, .int (rise false l) t7]) :: news) → Q (.ref D) { s with heap := h', toks := tk' }),
   wpAny (model Challenge.rw_yh0009_01.row.prog w) (ktrTop dp un gd cn cs L a ccd cl outer) (call (.ref 205) [.int line tl, .bool false]) Q E s := by
  k_fill
  intro w p loose mean mg mb dp un gd cn cs a ccd cl outer A₀ base h₀ L m s Q E news line l tl B F X Z N T hk hdp hun hline hl0 hl1 hret
  refine weaken (A' := ktrTop 310 40 gd cn cs L a ccd cl outer) rfl hdp rfl rfl hun ?_
  refine wpAny_call ?_
  k_dflt (((refine' code_defC ?k1 ?k2 ?k3 ?k4 ?k5 ?kA ?kF ?kK ?k6 ?k7 ?k8 ?k9 ?kB ?kD ?_ ?c2 ?c3 ?c4; (case kA => exact rfl); (case kF => exact rfl); (case kK => assumption); (case k1 => k_asm); (case k2 => k_asm); (case k3 => k_asm); (case k4 => k_asm); (case k5 => k_asm); (case k6 => k_is); (case k7 => k_is); (case k8 => ktr_room); (case k9 => exact BindsTo.of_eq rfl); (case kB => exact rfl); (case kD => decide +kernel); (case c2 => exact rfl); (case c3 => exact rfl); (case c4 => exact rfl); k_whole; intro g' L' h' tk' cells' FG' F' N' Y' B' X' T' l1; (try k_lt l1); k_cells Y'; (try simp only [List.cons_append, List.nil_append] at N'); (try dsimp only); (try k_lift B'); (try k_fold))))
  repeat' (first | (k_unfold; (try dsimp only)) | (k_end; with_reducible (first | ((with_reducible show UnrEnd _ _ _ _ _ _ _); (first | with_reducible ((refine UnrEnd.intro (by assumption) (by assumption) _ (fun _ hp => hp) (by ((repeat (refine List.forall_mem_cons.mpr ⟨by k_ne, ?_⟩)); (first | exact List.forall_mem_nil _ | exact allLt_ne (by with_reducible assumption) | exact allLt_ne (And.right (by with_reducible assumption)) | exact allLt_ne (And.right (And.right (by with_reducible assumption))) | exact allLt_ne (And.right (And.right (And.right (by with_reducible assumption)))) | exact allLt_ne (And.right (And.right (And.right (And.right (by with_reducible assumption))))) | exact allLt_ne (And.right (And.right (And.right (And.right (And.right (by with_reducible assumption)))))) | exact allLt_ne (And.right (And.right (And.right (And.right (And.right (And.right (by with_reducible assumption))))))) | exact allLt_ne (And.right (And.right (And.right (And.right (And.right (And.right (And.right (by with_reducible assumption)))))))) | exact allLt_ne (And.right (And.right (And.right (And.right (And.right (And.right (And.right (And.right (by with_reducible assumption)))))))))))) ?_)) | k_dflt ((refine UnrEnd.intro (by assumption) (by assumption) _ (fun _ hp => hp) (by ((repeat (refine List.forall_mem_cons.mpr ⟨by k_ne, ?_⟩)); (first | exact List.forall_mem_nil _ | exact allLt_ne (by with_reducible assumption) | exact allLt_ne (And.right (by with_reducible assumption)) | exact allLt_ne (And.right (And.right (by with_reducible assumption))) | exact allLt_ne (And.right (And.right (And.right (by with_reducible assumption)))) | exact allLt_ne (And.right (And.right (And.right (And.right (by with_reducible assumption))))) | exact allLt_ne (And.right (And.right (And.right (And.right (And.right (by with_reducible assumption)))))) | exact allLt_ne (And.right (And.right (And.right (And.right (And.right (And.right (by with_reducible assumption))))))) | exact allLt_ne (And.right (And.right (And.right (And.right (And.right (And.right (And.right (by with_reducible assumption)))))))) | exact allLt_ne (And.right (And.right (And.right (And.right (And.right (And.right (And.right (And.right (by with_reducible assumption)))))))))))) ?_)))) | ((with_reducible show LCg.CompEnd _ _ _ _ _ _ _ _ _ _ _ _ _ _); ((k_dflt (refine LCg.CompEnd.intro (by assumption) (by assumption) _ (fun _ hp => hp) (by assumption) (by lcg_src) ?_)))) | ((with_reducible show LCg.CompSrc _ _ _ _ _ _ _ _ _ _ _ _ _ _); ((k_here; k_dflt (refine LCg.CompSrc.range (by rfl) (by k_asm) (by k_asm) (by assumption) (by first | decide | rfl) (by first | rfl | decide) (by first | size_fits | exact Nat.le_of_ble_eq_true rfl) ?_; intro g'; lcg_lit)))) | fail "none")) | (k_end; kc_close) | walk1 | (dsimp only; walk1) | (leave1; (try dsimp only)) | fail "no step")
  · exact absurd hline (by omega)
  ·
    (have hf := @fourF l (by omega); rw [wid4 hf] at hret; unfold rise at hret; rw [figs4 hf] at hret; have hn := four_ints hline (by assumption) (by assumption); rw [← low4 hn] at hret; exact hret _ _ _ _ _ _ _ _ _ _ _ _ _ _ _ (by assumption) (news_drop3 (by assumption)))
  all_goals
    (have hf := @fourN l (by omega); rw [wid3 hf] at hret; unfold rise at hret; rw [figs3 hf] at hret; have hn := three_ints hline (by assumption) (by assumption); rw [← low3 hn] at hret; exact hret _ _ _ _ _ _ _ _ _ _ _ _ _ _ _ (by assumption) (news_drop3 (by assumption)))
end Mine
end
section
open PySem PySem.W PySem.W.X PySem.Spec PySem.Calls PyProof.Rows
set_option Elab.async false
set_option maxRecDepth 100000
set_option maxHeartbeats 8000000
namespace Mine
theorem endT : ∀ (w : World) (p : Program) (loose : List Str) (mean : ExcName → Option Value) (mg mb : Str → Option Value)
   (dp un : Nat) (gd : Option (List Code)) (cn : Str) (cs : Scope) (a : Addr) (ccd : Value) (cl : List (Str × Addr)) (outer : List Env) (A₀ : Around) (base h₀ : Heap) (L : Addr) (m : Str → Option Value) (s : Shared) (Q E : Value → Shared → Prop)
   (news : List (Addr × Obj)) (line : Int) (l : Nat) (tl : Tok)
   (B : Below A₀ base outer h₀) (F : Fr h₀ L s.heap m) (X : (hd.heap_1 w.params).In h₀) (Z : ZIn w h₀) (N : News h₀ L s.heap (news)) (T : Top p loose mean mg mb h₀) (hk : cs.kind = .function)
   (hdp : dp ≤ 310) (hun : un ≤ 40)
   (hline : line = l) (hl1 : l ≤ 9999)
   (hret : ∀ t h' tk', Fr h₀ L h' m → News h₀ L h' news → Q (.int (fin true l : Nat) t) { s with heap := h', toks := tk' }),
   wpAny (model Challenge.rw_yh0009_01.row.prog w) (ktrTop dp un gd cn cs L a ccd cl outer) (call (.ref 210) [.int line tl, .bool true]) Q E s := by
  k_fill
  intro w p loose mean mg mb dp un gd cn cs a ccd cl outer A₀ base h₀ L m s Q E news line l tl B F X Z N T hk hdp hun hline hl1 hret
  refine weaken (A' := ktrTop 310 40 gd cn cs L a ccd cl outer) rfl hdp rfl rfl hun ?_
  refine wpAny_call ?_
  k_dflt (((refine' code_defC ?k1 ?k2 ?k3 ?k4 ?k5 ?kA ?kF ?kK ?k6 ?k7 ?k8 ?k9 ?kB ?kD ?_ ?c2 ?c3 ?c4; (case kA => exact rfl); (case kF => exact rfl); (case kK => assumption); (case k1 => k_asm); (case k2 => k_asm); (case k3 => k_asm); (case k4 => k_asm); (case k5 => k_asm); (case k6 => k_is); (case k7 => k_is); (case k8 => ktr_room); (case k9 => exact BindsTo.of_eq rfl); (case kB => exact rfl); (case kD => decide +kernel); (case c2 => exact rfl); (case c3 => exact rfl); (case c4 => exact rfl); k_whole; intro g' L' h' tk' cells' FG' F' N' Y' B' X' T' l1; (try k_lt l1); k_cells Y'; (try simp only [List.cons_append, List.nil_append] at N'); (try dsimp only); (try k_lift B'); (try k_fold))))
  repeat' (first | (k_unfold; (try dsimp only)) | (k_end; with_reducible (first | ((with_reducible show UnrEnd _ _ _ _ _ _ _); (first | with_reducible ((refine UnrEnd.intro (by assumption) (by assumption) _ (fun _ hp => hp) (by ((repeat (refine List.forall_mem_cons.mpr ⟨by k_ne, ?_⟩)); (first | exact List.forall_mem_nil _ | exact allLt_ne (by with_reducible assumption) | exact allLt_ne (And.right (by with_reducible assumption)) | exact allLt_ne (And.right (And.right (by with_reducible assumption))) | exact allLt_ne (And.right (And.right (And.right (by with_reducible assumption)))) | exact allLt_ne (And.right (And.right (And.right (And.right (by with_reducible assumption))))) | exact allLt_ne (And.right (And.right (And.right (And.right (And.right (by with_reducible assumption)))))) | exact allLt_ne (And.right (And.right (And.right (And.right (And.right (And.right (by with_reducible assumption))))))) | exact allLt_ne (And.right (And.right (And.right (And.right (And.right (And.right (And.right (by with_reducible assumption)))))))) | exact allLt_ne (And.right (And.right (And.right (And.right (And.right (And.right (And.right (And.right (by with_reducible assumption)))))))))))) ?_)) | k_dflt ((refine UnrEnd.intro (by assumption) (by assumption) _ (fun _ hp => hp) (by ((repeat (refine List.forall_mem_cons.mpr ⟨by k_ne, ?_⟩)); (first | exact List.forall_mem_nil _ | exact allLt_ne (by with_reducible assumption) | exact allLt_ne (And.right (by with_reducible assumption)) | exact allLt_ne (And.right (And.right (by with_reducible assumption))) | exact allLt_ne (And.right (And.right (And.right (by with_reducible assumption)))) | exact allLt_ne (And.right (And.right (And.right (And.right (by with_reducible assumption))))) | exact allLt_ne (And.right (And.right (And.right (And.right (And.right (by with_reducible assumption)))))) | exact allLt_ne (And.right (And.right (And.right (And.right (And.right (And.right (by with_reducible assumption))))))) | exact allLt_ne (And.right (And.right (And.right (And.right (And.right (And.right (And.right (by with_reducible assumption)))))))) | exact allLt_ne (And.right (And.right (And.right (And.right (And.right (And.right (And.right (And.right (by with_reducible assumption)))))))))))) ?_)))) | ((with_reducible show LCg.CompEnd _ _ _ _ _ _ _ _ _ _ _ _ _ _); ((k_dflt (refine LCg.CompEnd.intro (by assumption) (by assumption) _ (fun _ hp => hp) (by assumption) (by lcg_src) ?_)))) | ((with_reducible show LCg.CompSrc _ _ _ _ _ _ _ _ _ _ _ _ _ _); ((k_here; k_dflt (refine LCg.CompSrc.range (by rfl) (by k_asm) (by k_asm) (by assumption) (by first | decide | rfl) (by first | rfl | decide) (by first | size_fits | exact Nat.le_of_ble_eq_true rfl) ?_; intro g'; lcg_lit)))) | fail "none")) | (k_end; kc_close) | walk1 | (dsimp only; walk1) | (leave1; (try dsimp only)) | fail "no step")
  all_goals have hT := @fourT l
  all_goals first
    | (have hn := four_ints hline (by assumption) (by assumption); have z := endA4 hT hn (by assumption); rw [z] at hret; exact hret _ _ _ (by assumption) (news_tail3 (by assumption)))
    | (have hn := four_ints hline (by assumption) (by assumption); have z := endB4 hT hn (by assumption); rw [z] at hret; exact hret _ _ _ (by assumption) (news_tail3 (by assumption)))
end Mine
end
section
open PySem PySem.W PySem.W.X PySem.Spec PySem.Calls PyProof.Rows
set_option Elab.async false
set_option maxRecDepth 100000
set_option maxHeartbeats 8000000
namespace Mine
theorem endF : ∀ (w : World) (p : Program) (loose : List Str) (mean : ExcName → Option Value) (mg mb : Str → Option Value)
   (dp un : Nat) (gd : Option (List Code)) (cn : Str) (cs : Scope) (a : Addr) (ccd : Value) (cl : List (Str × Addr)) (outer : List Env) (A₀ : Around) (base h₀ : Heap) (L : Addr) (m : Str → Option Value) (s : Shared) (Q E : Value → Shared → Prop)
   (news : List (Addr × Obj)) (line : Int) (l : Nat) (tl : Tok)
   (B : Below A₀ base outer h₀) (F : Fr h₀ L s.heap m) (X : (hd.heap_1 w.params).In h₀) (Z : ZIn w h₀) (N : News h₀ L s.heap (news)) (T : Top p loose mean mg mb h₀) (hk : cs.kind = .function)
   (hdp : dp ≤ 310) (hun : un ≤ 40)
   (hline : line = l) (hl1 : l ≤ 9999)
   (hret : ∀ t h' tk', Fr h₀ L h' m → News h₀ L h' news → Q (.int (fin false l : Nat) t) { s with heap := h', toks := tk' }),
   wpAny (model Challenge.rw_yh0009_01.row.prog w) (ktrTop dp un gd cn cs L a ccd cl outer) (call (.ref 210) [.int line tl, .bool false]) Q E s := by
  k_fill
  intro w p loose mean mg mb dp un gd cn cs a ccd cl outer A₀ base h₀ L m s Q E news line l tl B F X Z N T hk hdp hun hline hl1 hret
  refine weaken (A' := ktrTop 310 40 gd cn cs L a ccd cl outer) rfl hdp rfl rfl hun ?_
  refine wpAny_call ?_
  k_dflt (((refine' code_defC ?k1 ?k2 ?k3 ?k4 ?k5 ?kA ?kF ?kK ?k6 ?k7 ?k8 ?k9 ?kB ?kD ?_ ?c2 ?c3 ?c4; (case kA => exact rfl); (case kF => exact rfl); (case kK => assumption); (case k1 => k_asm); (case k2 => k_asm); (case k3 => k_asm); (case k4 => k_asm); (case k5 => k_asm); (case k6 => k_is); (case k7 => k_is); (case k8 => ktr_room); (case k9 => exact BindsTo.of_eq rfl); (case kB => exact rfl); (case kD => decide +kernel); (case c2 => exact rfl); (case c3 => exact rfl); (case c4 => exact rfl); k_whole; intro g' L' h' tk' cells' FG' F' N' Y' B' X' T' l1; (try k_lt l1); k_cells Y'; (try simp only [List.cons_append, List.nil_append] at N'); (try dsimp only); (try k_lift B'); (try k_fold))))
  repeat' (first | (k_unfold; (try dsimp only)) | (k_end; with_reducible (first | ((with_reducible show UnrEnd _ _ _ _ _ _ _); (first | with_reducible ((refine UnrEnd.intro (by assumption) (by assumption) _ (fun _ hp => hp) (by ((repeat (refine List.forall_mem_cons.mpr ⟨by k_ne, ?_⟩)); (first | exact List.forall_mem_nil _ | exact allLt_ne (by with_reducible assumption) | exact allLt_ne (And.right (by with_reducible assumption)) | exact allLt_ne (And.right (And.right (by with_reducible assumption))) | exact allLt_ne (And.right (And.right (And.right (by with_reducible assumption)))) | exact allLt_ne (And.right (And.right (And.right (And.right (by with_reducible assumption))))) | exact allLt_ne (And.right (And.right (And.right (And.right (And.right (by with_reducible assumption)))))) | exact allLt_ne (And.right (And.right (And.right (And.right (And.right (And.right (by with_reducible assumption))))))) | exact allLt_ne (And.right (And.right (And.right (And.right (And.right (And.right (And.right (by with_reducible assumption)))))))) | exact allLt_ne (And.right (And.right (And.right (And.right (And.right (And.right (And.right (And.right (by with_reducible assumption)))))))))))) ?_)) | k_dflt ((refine UnrEnd.intro (by assumption) (by assumption) _ (fun _ hp => hp) (by ((repeat (refine List.forall_mem_cons.mpr ⟨by k_ne, ?_⟩)); (first | exact List.forall_mem_nil _ | exact allLt_ne (by with_reducible assumption) | exact allLt_ne (And.right (by with_reducible assumption)) | exact allLt_ne (And.right (And.right (by with_reducible assumption))) | exact allLt_ne (And.right (And.right (And.right (by with_reducible assumption)))) | exact allLt_ne (And.right (And.right (And.right (And.right (by with_reducible assumption))))) | exact allLt_ne (And.right (And.right (And.right (And.right (And.right (by with_reducible assumption)))))) | exact allLt_ne (And.right (And.right (And.right (And.right (And.right (And.right (by with_reducible assumption))))))) | exact allLt_ne (And.right (And.right (And.right (And.right (And.right (And.right (And.right (by with_reducible assumption)))))))) | exact allLt_ne (And.right (And.right (And.right (And.right (And.right (And.right (And.right (And.right (by with_reducible assumption)))))))))))) ?_)))) | ((with_reducible show LCg.CompEnd _ _ _ _ _ _ _ _ _ _ _ _ _ _); ((k_dflt (refine LCg.CompEnd.intro (by assumption) (by assumption) _ (fun _ hp => hp) (by assumption) (by lcg_src) ?_)))) | ((with_reducible show LCg.CompSrc _ _ _ _ _ _ _ _ _ _ _ _ _ _); ((k_here; k_dflt (refine LCg.CompSrc.range (by rfl) (by k_asm) (by k_asm) (by assumption) (by first | decide | rfl) (by first | rfl | decide) (by first | size_fits | exact Nat.le_of_ble_eq_true rfl) ?_; intro g'; lcg_lit)))) | fail "none")) | (k_end; kc_close) | walk1 | (dsimp only; walk1) | (leave1; (try dsimp only)) | fail "no step")
  all_goals have hT := @fourT l
  all_goals first
    | (have hn := four_ints hline (by assumption) (by assumption); have z := endA4 (@fourF l (by omega)) hn (by assumption); rw [z] at hret; exact hret _ _ _ (by assumption) (news_tail3 (by assumption)))
    | (have hn := four_ints hline (by assumption) (by assumption); have z := endC4 (@fourF l (by omega)) hn (by assumption) (by assumption) (by assumption); rw [z] at hret; exact hret _ _ _ (by assumption) (news_tail3 (by assumption)))
    | (have hn := four_ints hline (by assumption) (by assumption); have z := endD4 (@fourF l (by omega)) hn (by assumption) (by assumption); rw [z] at hret; exact hret _ _ _ (by assumption) (news_tail3 (by assumption)))
    | (have hn := four_ints hline (by assumption) (by assumption); have z := endE4 (@fourF l (by omega)) hn (by assumption) (by assumption); rw [z] at hret; exact hret _ _ _ (by assumption) (news_tail3 (by assumption)))
    | (have hn := three_ints hline (by assumption) (by assumption); have z := endA3 (@fourN l (by omega)) hn (by assumption); rw [z] at hret; exact hret _ _ _ (by assumption) (news_tail3 (by assumption)))
    | (have hn := three_ints hline (by assumption) (by assumption); have z := endB3 (@fourN l (by omega)) hn (by assumption); rw [z] at hret; exact hret _ _ _ (by assumption) (news_tail3 (by assumption)))
end Mine
end
section
open PySem PySem.W PySem.W.X PySem.Spec PySem.Calls PyProof.Rows
set_option Elab.async false
set_option maxRecDepth 100000
set_option maxHeartbeats 8000000
namespace Mine
theorem news_drop1' {h₀ h : Heap} {L : Addr} {a b : Addr × Obj} {news : List (Addr × Obj)} (N : News h₀ L h (a :: b :: news)) : News h₀ L h (a :: news) := news_sub N fun p hp => by
  simp only [List.mem_cons] at hp ⊢
  rcases hp with h | h <;> simp [h]
theorem due0 : ∀ (w : World) (p : Program) (loose : List Str) (mean : ExcName → Option Value) (mg mb : Str → Option Value)
   (dp un : Nat) (gd : Option (List Code)) (cn : Str) (cs : Scope) (a : Addr) (ccd : Value) (cl : List (Str × Addr)) (outer : List Env) (A₀ : Around) (base h₀ : Heap) (L : Addr) (m : Str → Option Value) (s : Shared) (Q E : Value → Shared → Prop)
   (news : List (Addr × Obj)) (line : Int) (tl : Tok) (odd : Bool)
   (B : Below A₀ base outer h₀) (F : Fr h₀ L s.heap m) (X : (hd.heap_1 w.params).In h₀) (Z : ZIn w h₀) (N : News h₀ L s.heap (news)) (T : Top p loose mean mg mb h₀) (hk : cs.kind = .function)
   (hdp : dp ≤ 310) (hun : un ≤ 40)
   (hline : line = 0)
   (hret : ∀ D t n h' tk', Fr h₀ L h' m → News h₀ L h' ((D, PySem.W.listOf #[.int 0 t] n) :: news) → Q (.ref D) { s with heap := h', toks := tk' }),
   wpAny (model Challenge.rw_yh0009_01.row.prog w) (ktrTop dp un gd cn cs L a ccd cl outer) (call (.ref 205) [.int line tl, .bool odd]) Q E s := by
  k_fill
  intro w p loose mean mg mb dp un gd cn cs a ccd cl outer A₀ base h₀ L m s Q E news line tl odd B F X Z N T hk hdp hun hline hret
  refine weaken (A' := ktrTop 310 40 gd cn cs L a ccd cl outer) rfl hdp rfl rfl hun ?_
  refine wpAny_call ?_
  k_dflt (((refine' code_defC ?k1 ?k2 ?k3 ?k4 ?k5 ?kA ?kF ?kK ?k6 ?k7 ?k8 ?k9 ?kB ?kD ?_ ?c2 ?c3 ?c4; (case kA => exact rfl); (case kF => exact rfl); (case kK => assumption); (case k1 => k_asm); (case k2 => k_asm); (case k3 => k_asm); (case k4 => k_asm); (case k5 => k_asm); (case k6 => k_is); (case k7 => k_is); (case k8 => ktr_room); (case k9 => exact BindsTo.of_eq rfl); (case kB => exact rfl); (case kD => decide +kernel); (case c2 => exact rfl); (case c3 => exact rfl); (case c4 => exact rfl); k_whole; intro g' L' h' tk' cells' FG' F' N' Y' B' X' T' l1; (try k_lt l1); k_cells Y'; (try simp only [List.cons_append, List.nil_append] at N'); (try dsimp only); (try k_lift B'); (try k_fold))))
  repeat' (first | (k_unfold; (try dsimp only)) | (k_end; with_reducible (first | ((with_reducible show UnrEnd _ _ _ _ _ _ _); (first | with_reducible ((refine UnrEnd.intro (by assumption) (by assumption) _ (fun _ hp => hp) (by ((repeat (refine List.forall_mem_cons.mpr ⟨by k_ne, ?_⟩)); (first | exact List.forall_mem_nil _ | exact allLt_ne (by with_reducible assumption) | exact allLt_ne (And.right (by with_reducible assumption)) | exact allLt_ne (And.right (And.right (by with_reducible assumption))) | exact allLt_ne (And.right (And.right (And.right (by with_reducible assumption)))) | exact allLt_ne (And.right (And.right (And.right (And.right (by with_reducible assumption))))) | exact allLt_ne (And.right (And.right (And.right (And.right (And.right (by with_reducible assumption)))))) | exact allLt_ne (And.right (And.right (And.right (And.right (And.right (And.right (by with_reducible assumption))))))) | exact allLt_ne (And.right (And.right (And.right (And.right (And.right (And.right (And.right (by with_reducible assumption)))))))) | exact allLt_ne (And.right (And.right (And.right (And.right (And.right (And.right (And.right (And.right (by with_reducible assumption)))))))))))) ?_)) | k_dflt ((refine UnrEnd.intro (by assumption) (by assumption) _ (fun _ hp => hp) (by ((repeat (refine List.forall_mem_cons.mpr ⟨by k_ne, ?_⟩)); (first | exact List.forall_mem_nil _ | exact allLt_ne (by with_reducible assumption) | exact allLt_ne (And.right (by with_reducible assumption)) | exact allLt_ne (And.right (And.right (by with_reducible assumption))) | exact allLt_ne (And.right (And.right (And.right (by with_reducible assumption)))) | exact allLt_ne (And.right (And.right (And.right (And.right (by with_reducible assumption))))) | exact allLt_ne (And.right (And.right (And.right (And.right (And.right (by with_reducible assumption)))))) | exact allLt_ne (And.right (And.right (And.right (And.right (And.right (And.right (by with_reducible assumption))))))) | exact allLt_ne (And.right (And.right (And.right (And.right (And.right (And.right (And.right (by with_reducible assumption)))))))) | exact allLt_ne (And.right (And.right (And.right (And.right (And.right (And.right (And.right (And.right (by with_reducible assumption)))))))))))) ?_)))) | ((with_reducible show LCg.CompEnd _ _ _ _ _ _ _ _ _ _ _ _ _ _); ((k_dflt (refine LCg.CompEnd.intro (by assumption) (by assumption) _ (fun _ hp => hp) (by assumption) (by lcg_src) ?_)))) | ((with_reducible show LCg.CompSrc _ _ _ _ _ _ _ _ _ _ _ _ _ _); ((k_here; k_dflt (refine LCg.CompSrc.range (by rfl) (by k_asm) (by k_asm) (by assumption) (by first | decide | rfl) (by first | rfl | decide) (by first | size_fits | exact Nat.le_of_ble_eq_true rfl) ?_; intro g'; lcg_lit)))) | fail "none")) | ((with_reducible show wpAny _ _ (exec _ _) _ _ _); with_reducible (first | ((with_reducible show wpAny _ _ (exec (Stmt.Assign _ _ _) _) _ _ _); (first | with_reducible ((k_here; exfalso; omega)) | k_dflt ((k_here; exfalso; omega)))) | fail "none")) | (k_end; kc_close) | walk1 | (dsimp only; walk1) | (leave1; (try dsimp only)) | fail "no step")
  all_goals first
    | exact hret _ _ _ _ _ (by assumption) (news_drop1' (by assumption))
    | (exfalso; omega)
end Mine
end
section
open PySem PySem.W PySem.W.X PySem.Spec PySem.Calls PyProof.Rows
set_option Elab.async false
set_option maxRecDepth 100000
set_option maxHeartbeats 8000000
namespace Mine
noncomputable abbrev sg (d : Nat) : Str := ⟨#[48 + d]⟩
noncomputable abbrev tx (ds : List Nat) : Str := ⟨(ds.map (48 + ·)).toArray⟩
noncomputable abbrev pairOf (d : Nat) (ta tb : Tok) : Obj := tupOf [.str (Str.ofString "") ta, .str (sg d) tb]
noncomputable def digs (odd : Bool) (l : Nat) : List Nat := if four odd l then [l / 1000 % 10, l / 100 % 10, l / 10 % 10, l % 10] else [l / 100 % 10, l / 10 % 10, l % 10]
theorem figs_digs (odd : Bool) (l : Nat) : figs odd l = srt (digs odd l) := by
  unfold figs digs; split <;> rfl
theorem not_four {odd : Bool} {l : Nat} (h : ¬ four odd l = true) : odd = false ∧ l ≤ 999 := by
  cases odd with
  | true => exact absurd rfl h
  | false =>
    refine ⟨rfl, ?_⟩
    by_cases q : l ≤ 999
    · exact q
    · exact absurd (fourF (by omega)) h
theorem padG {odd : Bool} {line : Int} {l : Nat} {wd : Int} (hw : wd = wid odd l) (hl : line = l) (h1 : l ≤ 9999) :
    Txt.mul (Str.ofString "0") (wd - ((Str.ofString (toString line)).length : Int)) ++ Str.ofString (toString line) = tx (digs odd l) := by
  subst hw
  unfold digs
  by_cases h : four odd l = true
  · rw [wid4 h, if_pos h]
    exact pad4 (c0 := 48 + l / 1000 % 10) (c1 := 48 + l / 100 % 10) (c2 := 48 + l / 10 % 10) (c3 := 48 + l % 10) (by omega) (by omega) (by omega) (by omega) (by omega)
  · obtain ⟨rfl, h9⟩ := not_four h
    rw [wid3 (fourN h9), if_neg h]
    exact pad3 (c0 := 48 + l / 100 % 10) (c1 := 48 + l / 10 % 10) (c2 := 48 + l % 10) (by omega) (by omega) (by omega) (by omega)
theorem digs_len (odd : Bool) (l : Nat) : (digs odd l).length = 3 ∨ (digs odd l).length = 4 := by
  unfold digs; split
  · exact .inr rfl
  · exact .inl rfl
theorem figs_len (odd : Bool) (l : Nat) : (figs odd l).length = (digs odd l).length := by
  rw [figs_digs]; exact (srt_perm _).length_eq
theorem figs_len34 (odd : Bool) (l : Nat) : (figs odd l).length = 3 ∨ (figs odd l).length = 4 := by
  rw [figs_len]; exact digs_len odd l

theorem sorted_codes : ∀ {l : List Nat}, sortedS (l.map fun c => (⟨#[c]⟩ : Str)) = true → l.Pairwise (· ≤ ·)
  | [], _ => .nil
  | [a], _ => List.pairwise_cons.mpr ⟨by simp, .nil⟩
  | a :: b :: r, h => by
    obtain ⟨h1, h2⟩ := rising_codes (show risingS ⟨#[a]⟩ (⟨#[b]⟩ :: r.map fun c => (⟨#[c]⟩ : Str)) = true from h)
    have ih := sorted_codes (l := b :: r) (show sortedS ((b :: r).map fun c => (⟨#[c]⟩ : Str)) = true from h2)
    refine List.pairwise_cons.mpr ⟨fun x hx => ?_, ih⟩
    rcases List.mem_cons.mp hx with rfl | hx
    · exact h1
    · exact Nat.le_trans h1 ((List.pairwise_cons.mp ih).1 x hx)
theorem codes_figs {ds as : List Nat} (p : as.Perm (ds.map (48 + ·))) (o : as.Pairwise (· ≤ ·)) : as = (srt ds).map (48 + ·) := by
  have h1 : (as.map (· - 48)).Perm ds := by
    have := p.map (· - 48)
    rw [List.map_map] at this
    have e : ((fun x => x - 48) ∘ fun x => 48 + x) = (id : Nat → Nat) := funext fun x => by simp
    rwa [e, List.map_id] at this
  have h2 : (as.map (· - 48)).Pairwise (· ≤ ·) := by
    rw [List.pairwise_map]
    exact o.imp fun h => by omega
  rw [← srt_uniq h1 h2, List.map_map]
  conv => lhs; rw [← List.map_id as]
  refine List.map_congr_left fun x hx => ?_
  obtain ⟨y, _, rfl⟩ := List.mem_map.mp (p.mem_iff.mp hx)
  show 48 + y = 48 + (48 + y - 48)
  omega

section
variable {prog : Program} {w : World} {A : Around} {E : Value → Shared → Prop} {s : Shared} {h₀ : Heap} {L : Addr} {m : Str → Option Value} {news : List (Addr × Obj)} {t : Tok} {Q : Value → Shared → Prop} {odd : Bool} {l : Nat}
theorem sortedG (hh : A.handled = none) (F : Fr h₀ L s.heap m) (N : News h₀ L s.heap news)
    (h : ∀ D vs n h' tk', Fr h₀ L h' m → News h₀ L h' ((D, PySem.W.listOf (List.toArray vs) n) :: news) → (∀ q ∈ news, q.1 < D) → StrsAre vs ((figs odd l).map sg) → Q (.ref D) { s with heap := h', toks := tk' }) :
    wpAny (model prog w) A (call (.builtin "sorted") [.str (tx (digs odd l)) t]) Q E s := by
  refine sorted_text hh F N (by rcases digs_len odd l with h | h <;> (simp only [List.size_toArray, List.length_map, h]; decide)) fun D vs' ss' e h' tk' F' N' hS hp hs hl => ?_
  obtain ⟨l', rfl, hp'⟩ := perm_codes (l := (digs odd l).map (48 + ·)) hp
  have e2 := codes_figs hp' (sorted_codes hs)
  rw [← figs_digs] at e2
  subst e2
  rw [List.map_map] at hS
  exact h D vs' e h' tk' F' N' hl hS
end

noncomputable def RowIs (led : List (Addr × Obj)) : List Nat → List Value → Prop
  | [], [] => True
  | d :: ds, v :: vs => (∃ T ta tb, v = .ref T ∧ (T, pairOf d ta tb) ∈ led) ∧ RowIs led ds vs
  | _, _ => False
theorem RowIs.mono {led led' : List (Addr × Obj)} (k : ∀ p ∈ led, p ∈ led') : ∀ {ds : List Nat} {vs : List Value}, RowIs led ds vs → RowIs led' ds vs
  | [], [], _ => trivial
  | _ :: _, _ :: _, ⟨⟨T, ta, tb, e, hm⟩, r⟩ => ⟨⟨T, ta, tb, e, k _ hm⟩, RowIs.mono k r⟩
  | [], _ :: _, h => h.elim
  | _ :: _, [], h => h.elim
theorem RowIs.snoc {led : List (Addr × Obj)} {d : Nat} {T : Addr} {ta tb : Tok} (hm : (T, pairOf d ta tb) ∈ led) : ∀ {ds : List Nat} {vs : List Value}, RowIs led ds vs → RowIs led (ds ++ [d]) (vs ++ [.ref T])
  | [], [], _ => ⟨⟨T, ta, tb, rfl, hm⟩, trivial⟩
  | _ :: _, _ :: _, ⟨h, r⟩ => ⟨h, RowIs.snoc hm r⟩
  | [], _ :: _, h => h.elim
  | _ :: _, [], h => h.elim
theorem RowIs.length {led : List (Addr × Obj)} : ∀ {ds : List Nat} {vs : List Value}, RowIs led ds vs → vs.length = ds.length
  | [], [], _ => rfl
  | _ :: _, _ :: _, ⟨_, r⟩ => congrArg (· + 1) (RowIs.length r)
  | [], _ :: _, h => h.elim
  | _ :: _, [], h => h.elim
theorem RowIs.last {led : List (Addr × Obj)} {d : Nat} : ∀ {ds : List Nat} {vs : List Value}, RowIs led (ds ++ [d]) vs → ∃ vs' T ta tb, vs = vs' ++ [.ref T] ∧ (T, pairOf d ta tb) ∈ led ∧ RowIs led ds vs'
  | [], [v], ⟨⟨T, ta, tb, e, hm⟩, _⟩ => ⟨[], T, ta, tb, by rw [e]; rfl, hm, trivial⟩
  | _ :: _, v :: vs, ⟨h, r⟩ => by
    obtain ⟨vs', T, ta, tb, e, hm, r'⟩ := RowIs.last r
    exact ⟨v :: vs', T, ta, tb, by rw [e]; rfl, hm, h, r'⟩
  | [], [], h => h.elim
  | _ :: _, [], h => h.elim
  | [], _ :: _ :: _, ⟨_, h⟩ => h.elim

theorem RowIs.consE {led : List (Addr × Obj)} {d : Nat} {ds : List Nat} {xs : List Value} (R : RowIs led (d :: ds) xs) : ∃ T ta tb vs, xs = .ref T :: vs ∧ (T, pairOf d ta tb) ∈ led ∧ RowIs led ds vs := by
  cases xs with
  | nil => exact R.elim
  | cons v vs =>
    obtain ⟨⟨T, ta, tb, e, hm⟩, R'⟩ := R
    exact ⟨T, ta, tb, vs, by rw [e], hm, R'⟩
theorem RowIs.nilE {led : List (Addr × Obj)} {xs : List Value} (R : RowIs led [] xs) : xs = [] := by
  cases xs with
  | nil => rfl
  | cons v vs => exact R.elim
theorem len3 {α : Type} {l : List α} (h : l.length = 3) : ∃ a b c, l = [a, b, c] := by
  cases l with
  | nil => cases h
  | cons a l => cases l with
    | nil => cases h
    | cons b l => cases l with
      | nil => cases h
      | cons c l =>
        have e := List.length_eq_zero_iff.mp (Nat.succ.inj (Nat.succ.inj (Nat.succ.inj h)))
        exact ⟨a, b, c, by rw [e]⟩
theorem len4 {α : Type} {l : List α} (h : l.length = 4) : ∃ a b c d, l = [a, b, c, d] := by
  cases l with
  | nil => cases h
  | cons a l =>
    obtain ⟨b, c, d, rfl⟩ := len3 (Nat.succ.inj h)
    exact ⟨a, b, c, d, rfl⟩
section
variable {w : World} {p : Program} {loose : List Str} {mean : ExcName → Option Value} {mg mb : Str → Option Value} {dp un : Nat} {gd : Option (List Code)} {cn : Str} {cs : Scope} {a : Addr} {ccd : Value} {cl : List (Str × Addr)} {outer : List Env} {A₀ : Around} {base h₀ : Heap} {L : Addr} {m : Str → Option Value} {s : Shared} {Q E : Value → Shared → Prop}
  {led : List (Addr × Obj)} {g : Obj → List (Addr × Obj)} {r dr : Addr} {xs : List Value} {n : Nat} {t1 t2 : Tok} {ps : Array Value} {ds : List Nat} {tk : Tok}
theorem strG (B : Below A₀ base outer h₀) (F : Fr h₀ L s.heap m) (X : (hd.heap_1 w.params).In h₀) (Z : ZIn w h₀) (N : News h₀ L s.heap led) (T : Top p loose mean mg mb h₀) (hk : cs.kind = .function) (hdp : dp ≤ 305) (hun : un ≤ 20)
    (hr : (r, rowOf dr xs n) ∈ led) (hd : (dr, initOf w t1 t2) ∈ led) (R : RowIs led ds xs) (hl : ds.length = 3 ∨ ds.length = 4)
    (U : UpdF 107 (tabObj ps) led g) (hps : ps = #[] ∨ ∃ c', ps = #[rawInt 50, rawInt 32, .ref c'])
    (hret : ∀ c' h' g' tk t', Fr h₀ L h' m → News h₀ L h' (g (tabObj #[rawInt 50, rawInt 32, .ref c'])) → (AllBare s.gens → AllBare g') → Q (.str (tx ds) t') { s with heap := h', gens := g', toks := tk }) :
    wpAny (model P w) (ktrTop dp un gd cn cs L a ccd cl outer) (call (.type "str") [.ref r]) Q E s := by
  rcases hl with hl | hl
  · obtain ⟨a0, a1, a2, rfl⟩ := len3 hl
    obtain ⟨T1, ta1, tb1, v1, rfl, m1, R⟩ := R.consE
    obtain ⟨T2, ta2, tb2, v2, rfl, m2, R⟩ := R.consE
    obtain ⟨T3, ta3, tb3, v3, rfl, m3, R⟩ := R.consE
    have e := R.nilE
    subst e
    exact str3 B F X Z N T hk hdp hun hr hd m1 m2 m3 U hps hret
  · obtain ⟨a0, a1, a2, a3, rfl⟩ := len4 hl
    obtain ⟨T1, ta1, tb1, v1, rfl, m1, R⟩ := R.consE
    obtain ⟨T2, ta2, tb2, v2, rfl, m2, R⟩ := R.consE
    obtain ⟨T3, ta3, tb3, v3, rfl, m3, R⟩ := R.consE
    obtain ⟨T4, ta4, tb4, v4, rfl, m4, R⟩ := R.consE
    have e := R.nilE
    subst e
    exact str4 B F X Z N T hk hdp hun hr hd m1 m2 m3 m4 U hps hret
theorem askedG (B : Below A₀ base outer h₀) (F : Fr h₀ L s.heap m) (X : (hd.heap_1 w.params).In h₀) (Z : ZIn w h₀) (N : News h₀ L s.heap led) (T : Top p loose mean mg mb h₀) (hk : cs.kind = .function) (hdp : dp ≤ 310) (hun : un ≤ 40)
    (hl : ds.length = 3 ∨ ds.length = 4) (hd : ∀ d ∈ ds, d < 10)
    (hret : ∀ D1 D2 t1 t2 h' tk', Fr h₀ L h' m → News h₀ L h' ((D1, tupOf [.ref D2, .ref D2]) :: (D2, tupOf [.str (Str.ofString "h") t1, .int ((lowOf ds 0 : Nat) : Int) t2]) :: led) → Q (.ref D1) { s with heap := h', toks := tk' }) :
    wpAny (model P w) (ktrTop dp un gd cn cs L a ccd cl outer) (call (.ref 193) [.str (tx ds) tk]) Q E s := by
  match ds, hl with
  | [a0, a1, a2], _ =>
    have b0 := hd a0 (by simp)
    have b1 := hd a1 (by simp)
    have b2 := hd a2 (by simp)
    refine asked3 w p loose mean mg mb dp un gd cn cs a ccd cl outer A₀ base h₀ L m s Q E led (48 + a0) (48 + a1) (48 + a2) tk B F X Z N T hk hdp hun (by omega) (by omega) (by omega) fun D1 D2 t1 t2 h' tk' F' N' => hret D1 D2 t1 t2 h' tk' F' ?_
    have e : (48 + a0 - 48) * 100 + (48 + a1 - 48) * 10 + (48 + a2 - 48) = lowOf [a0, a1, a2] 0 := by simp only [lowOf]; omega
    rw [← e]; exact N'
  | [a0, a1, a2, a3], _ =>
    have b0 := hd a0 (by simp)
    have b1 := hd a1 (by simp)
    have b2 := hd a2 (by simp)
    have b3 := hd a3 (by simp)
    refine asked4 w p loose mean mg mb dp un gd cn cs a ccd cl outer A₀ base h₀ L m s Q E led (48 + a0) (48 + a1) (48 + a2) (48 + a3) tk B F X Z N T hk hdp hun (by omega) (by omega) (by omega) (by omega) fun D1 D2 t1 t2 h' tk' F' N' => hret D1 D2 t1 t2 h' tk' F' ?_
    have e : (48 + a0 - 48) * 1000 + (48 + a1 - 48) * 100 + (48 + a2 - 48) * 10 + (48 + a3 - 48) = lowOf [a0, a1, a2, a3] 0 := by simp only [lowOf]; omega
    rw [← e]; exact N'
end
theorem step_val (odd : Bool) (l : Nat) : ((lowOf (figs odd l).reverse 0 : Nat) : Int) - ((lowOf (figs odd l) 0 : Nat) : Int) = (nx odd l : Nat) := by
  unfold nx
  by_cases h4 : four odd l = true
  · rw [figs4 h4]
    obtain ⟨e, f, g, h, q, a, b, c, _⟩ := srt4 (l / 1000 % 10) (l / 100 % 10) (l / 10 % 10) (l % 10)
    rw [q]
    simp only [List.reverse_cons, List.reverse_nil, List.nil_append, List.cons_append, lowOf, stepOf]
    omega
  · obtain ⟨rfl, h9⟩ := not_four h4
    rw [figs3 (fourN h9)]
    obtain ⟨e, f, g, q, a, b, _⟩ := srt3 (l / 100 % 10) (l / 10 % 10) (l % 10)
    rw [q]
    simp only [List.reverse_cons, List.reverse_nil, List.nil_append, List.cons_append, lowOf, stepOf]
    omega
end Mine
end
section
open PySem PySem.W PySem.W.X PySem.Spec PySem.Calls PyProof.Rows
set_option Elab.async false
set_option maxRecDepth 100000
set_option maxHeartbeats 8000000
namespace Mine
section
variable {prog : Program} {w : World} {A : Around} {E : Value → Shared → Prop} {s : Shared} {env : Env} {h₀ : Heap} {x : Str} {body : List Stmt} {Q : Flow → Shared → Prop}
  {r dr D I : Addr} {lo : Obj} {t1 t2 : Tok} {m₀ : Str → Option Value}
noncomputable def PushEnd (w : World) (h₀ : Heap) (L : Addr) (m₀ : Str → Option Value) (x : Str) (r dr D I : Addr) (lo it : Obj) (t1 t2 : Tok) (d : Nat) (xs : List Value) (rest : List (Addr × Obj)) (s₁ s₂ : Shared) : Prop :=
  ∃ h' tk m' T q' ta tb, s₂ = { s₁ with heap := h', toks := tk } ∧ Fr h₀ L h' m' ∧ News h₀ L h' ((T, pairOf d ta tb) :: (I, it) :: (D, lo) :: (r, rowOf dr (xs ++ [.ref T]) q') :: (dr, initOf w t1 t2) :: rest) ∧ (∀ z, z ≠ x → m' z = m₀ z)
noncomputable def PushPost (w : World) (h₀ : Heap) (L : Addr) (m₀ : Str → Option Value) (x : Str) (r dr D I : Addr) (lo it : Obj) (t1 t2 : Tok) (d : Nat) (xs : List Value) (rest : List (Addr × Obj)) (s₁ : Shared) (f : Flow) (s₂ : Shared) : Prop :=
  match f with
  | .ret _ => False
  | .brk => False
  | _ => PushEnd w h₀ L m₀ x r dr D I lo it t1 t2 d xs rest s₁ s₂
theorem cls_off {h₀ h : Heap} {L a : Addr} {o : Obj} {led tups : List (Addr × Obj)} (N : News h₀ L h led) (ha : (a, o) ∈ led) (ht : ∀ p ∈ tups, p ∈ led) (hc : ∀ p ∈ tups, p.2.cls = .type "tuple") (hn : o.cls ≠ .type "tuple") : ∀ p ∈ tups, @Ne Nat p.1 a :=
  fun p hp => news_ne N (ht p hp) ha (by rw [hc p hp]; exact fun e => hn e.symm)
theorem push_rest {keep : List (Addr × Obj)} (hlo : lo.cls = .type "list") (hIk : ∀ p ∈ keep, @Ne Nat p.1 I) (hID : @Ne Nat D I) (hIr : @Ne Nat r I) (hId : @Ne Nat dr I) (hkr : ∀ p ∈ keep, @Ne Nat p.1 r)
    (turn : ∀ d t xs q rest it h tk, it.cls = .type "list_iterator" → (∀ p ∈ rest, @Ne Nat p.1 r) → xs.length ≤ 8 → Fr h₀ env.locals h (fun z => if z = x then some (.str (sg d) t) else m₀ z) →
      News h₀ env.locals h ((I, it) :: (D, lo) :: (r, rowOf dr xs q) :: (dr, initOf w t1 t2) :: rest) →
      wpAny (model prog w) A (execs body env) (PushPost w h₀ env.locals m₀ x r dr D I lo it t1 t2 d xs rest { s with heap := h, toks := tk }) E { s with heap := h, toks := tk }) :
    ∀ (ds : List Nat) (vs : List Value) (ds0 : List Nat) (xs : List Value) (q : Nat) (tups : List (Addr × Obj)) (m : Str → Option Value), StrsAre vs (ds.map sg) → (∀ z, z ≠ x → m z = m₀ z) → RowIs tups ds0 xs → (∀ p ∈ tups, p.2.cls = .type "tuple") → ds0.length + ds.length ≤ 8 →
      (∀ xs q tups (u : Str → Option Value) h tk, RowIs tups (ds0 ++ ds) xs → (∀ p ∈ tups, p.2.cls = .type "tuple") → Fr h₀ env.locals h (fun z => if z = x then u z else m₀ z) → News h₀ env.locals h ((D, lo) :: (r, rowOf dr xs q) :: (dr, initOf w t1 t2) :: (keep ++ tups)) → Q .next { s with heap := h, toks := tk }) →
      ListRest prog w A E h₀ env x body Q s I (D, lo) vs m ((D, lo) :: (r, rowOf dr xs q) :: (dr, initOf w t1 t2) :: (keep ++ tups))
  | [], vs, ds0, xs, q, tups, m, hS, hm, R, hc, _, fin => by
    cases hS
    intro h tk F N
    rw [List.append_nil] at fin
    refine fin xs q tups m h tk R hc ?_ N
    have e : (fun z => if z = x then m z else m₀ z) = m := funext fun z => by
      by_cases hz : z = x
      · simp [hz]
      · simp only [if_neg hz]; exact (hm z hz).symm
    rw [e]; exact F
  | d :: ds, vs, ds0, xs, q, tups, m, hS, hm, R, hc, hl, fin => by
    cases hS with
    | cons _ t hS =>
    rename_i vs'
    intro it h tk hit F N
    have e : (fun y => if y = x then some (Value.str (sg d) t) else m y) = fun z => if z = x then some (.str (sg d) t) else m₀ z := funext fun z => by
      by_cases hz : z = x
      · simp [hz]
      · simp only [if_neg hz]; exact hm z hz
    rw [e] at F
    have hsub : ∀ p ∈ tups, p ∈ (I, it) :: (D, lo) :: (r, rowOf dr xs q) :: (dr, initOf w t1 t2) :: (keep ++ tups) := fun p hp => by simp [hp]
    have hrest : ∀ p ∈ keep ++ tups, @Ne Nat p.1 r := fun p hp => by
      rcases List.mem_append.mp hp with hp | hp
      · exact hkr p hp
      · exact cls_off N (show (r, rowOf dr xs q) ∈ _ by simp) hsub hc (by intro e; cases e) p hp
    have hxl : xs.length ≤ 8 := by rw [R.length]; simp only [List.length_cons] at hl; omega
    refine wpAny_mono (turn d t xs q (keep ++ tups) it h tk hit hrest hxl F N) (fun f s₂ p => ?_) fun _ _ e => e
    have key : PushEnd w h₀ env.locals m₀ x r dr D I lo it t1 t2 d xs (keep ++ tups) { s with heap := h, toks := tk } s₂ →
        UnrEnd h₀ env.locals { s with heap := h, toks := tk } I it (fun m' n' => (D, lo) ∈ n' ∧ ListRest prog w A E h₀ env x body Q s I (D, lo) vs' m' n') s₂ := by
      rintro ⟨h', tk', m', T, q', ta, tb, rfl, F', N', hm'⟩
      have hTI : @Ne Nat T I := news_ne N' (.head _) (.tail _ (.head _)) (by rw [hit]; intro e; injection e with e; exact absurd e (by decide))
      refine UnrEnd.intro F' N' ((D, lo) :: (r, rowOf dr (xs ++ [.ref T]) q') :: (dr, initOf w t1 t2) :: (keep ++ ((T, pairOf d ta tb) :: tups))) (fun p hp => ?_) (fun p hp => ?_) ⟨.head _, ?_⟩
      · simp only [List.mem_cons, List.mem_append] at hp ⊢
        rcases hp with h | h | h | h | h | h | h <;> simp [h]
      · rcases List.mem_cons.mp hp with rfl | hp
        · exact hID
        rcases List.mem_cons.mp hp with rfl | hp
        · exact hIr
        rcases List.mem_cons.mp hp with rfl | hp
        · exact hId
        rcases List.mem_append.mp hp with hp | hp
        · exact hIk p hp
        rcases List.mem_cons.mp hp with rfl | hp
        · exact hTI
        · exact cls_off N (.head _) hsub hc (by rw [hit]; intro e; injection e with e; exact absurd e (by decide)) p hp
      · refine push_rest hlo hIk hID hIr hId hkr turn ds vs' (ds0 ++ [d]) (xs ++ [.ref T]) q' ((T, pairOf d ta tb) :: tups) m' hS hm' (RowIs.snoc (.head _) (R.mono fun p hp => .tail _ hp)) (fun p hp => ?_) (by simp only [List.length_append, List.length_cons, List.length_nil] at hl ⊢; omega) ?_
        · rcases List.mem_cons.mp hp with rfl | hp
          · rfl
          · exact hc p hp
        · rw [List.append_assoc]; exact fin
    cases f with
    | ret v => exact p.elim
    | brk => exact p.elim
    | next => exact key p
    | cont => exact key p
theorem iter_push {vs : List Value} {n : Nat} {fs : List Nat} {q : Nat} {keep : List (Addr × Obj)}
    (hh : A.handled = none) (F : Fr h₀ env.locals s.heap m₀) (N : News h₀ env.locals s.heap ((D, PySem.W.listOf (List.toArray vs) n) :: (r, rowOf dr [] q) :: (dr, initOf w t1 t2) :: keep)) (hS : StrsAre vs (fs.map sg)) (hfl : fs.length ≤ 8) (hkr : ∀ p ∈ keep, @Ne Nat p.1 r)
    (turn : ∀ I d t xs q rest it h tk, it.cls = .type "list_iterator" → (∀ p ∈ rest, @Ne Nat p.1 r) → xs.length ≤ 8 → @Ne Nat I r → Fr h₀ env.locals h (fun z => if z = x then some (.str (sg d) t) else m₀ z) →
      News h₀ env.locals h ((I, it) :: (D, PySem.W.listOf (List.toArray vs) n) :: (r, rowOf dr xs q) :: (dr, initOf w t1 t2) :: rest) →
      wpAny (model prog w) A (execs body env) (PushPost w h₀ env.locals m₀ x r dr D I (PySem.W.listOf (List.toArray vs) n) it t1 t2 d xs rest { s with heap := h, toks := tk }) E { s with heap := h, toks := tk })
    (fin : ∀ xs q tups (u : Str → Option Value) h tk, RowIs tups fs xs → (∀ p ∈ tups, p.2.cls = .type "tuple") → Fr h₀ env.locals h (fun z => if z = x then u z else m₀ z) → News h₀ env.locals h ((D, PySem.W.listOf (List.toArray vs) n) :: (r, rowOf dr xs q) :: (dr, initOf w t1 t2) :: (keep ++ tups)) → Q .next { s with heap := h, toks := tk }) :
    wpAny (model prog w) A (pyIter (.ref D)) (fun it s₂ => LoopAtV prog w A h₀ env x body Q E it s₂) E s := by
  refine iter_listUnr hh F N (.head _) rfl rfl fun I hI => ?_
  have h1 : D < I := hI (D, _) (.head _)
  have h2 : r < I := hI (r, _) (.tail _ (.head _))
  have h3 : dr < I := hI (dr, _) (.tail _ (.tail _ (.head _)))
  have := push_rest (prog := prog) (A := A) (E := E) (s := s) (body := body) (Q := Q) (m₀ := m₀) (keep := keep) (lo := PySem.W.listOf (List.toArray vs) n) (D := D) (w := w) (t1 := t1) (t2 := t2) (I := I) (r := r) (dr := dr) rfl (fun p hp => Nat.ne_of_lt (hI p (by simp [hp]))) (Nat.ne_of_lt h1) (Nat.ne_of_lt h2) (Nat.ne_of_lt h3) hkr
    (fun d t xs q rest it h tk a b c F N => turn I d t xs q rest it h tk a b c (Nat.ne_of_gt h2) F N) fs vs [] [] q [] m₀ hS (fun _ _ => rfl) trivial (fun p hp => nomatch hp) (by simpa using hfl) fin
  simpa using this
theorem tx_snoc (ds : List Nat) (d : Nat) : tx ds ++ sg d = tx (ds ++ [d]) := by
  show (⟨_ ++ _⟩ : Str) = ⟨_⟩
  congr 1
  simp
theorem tx_len (ds : List Nat) : (tx ds).length = ds.length := by
  show ((ds.map (48 + ·)).toArray).size = _
  simp
theorem tx_nil : Str.ofString "" = tx [] := by rfl
theorem tx_add {ds : List Nat} {d : Nat} {t u : Tok} {Q : Value → Shared → Prop} (hl : ds.length ≤ 8) (h : ∀ t' tk, Q (.str (tx (ds ++ [d])) t') { s with toks := tk }) : wpAny (model prog w) A (binaryOp .Add (.str (tx ds) t) (.str (sg d) u)) Q E s :=
  lit_add (tx_snoc ds d) (by rw [tx_len, PySem.sizeLine_eq]; show ds.length + 1 ≤ _; omega) h
noncomputable def PopEnd (w : World) (h₀ : Heap) (L : Addr) (m₀ : Str → Option Value) (x pp : Str) (r dr I : Addr) (it : Obj) (t1 t2 : Tok) (d : Nat) (done : List Nat) (xs : List Value) (rest : List (Addr × Obj)) (s₁ s₂ : Shared) : Prop :=
  ∃ h' tk m' q' t', s₂ = { s₁ with heap := h', toks := tk } ∧ Fr h₀ L h' m' ∧ News h₀ L h' ((I, it) :: (r, rowOf dr xs q') :: (dr, initOf w t1 t2) :: rest) ∧ m' pp = some (.str (tx (done ++ [d])) t') ∧ (∀ z, z ≠ x → z ≠ pp → m' z = m₀ z)
noncomputable def PopPost (w : World) (h₀ : Heap) (L : Addr) (m₀ : Str → Option Value) (x pp : Str) (r dr I : Addr) (it : Obj) (t1 t2 : Tok) (d : Nat) (done : List Nat) (xs : List Value) (rest : List (Addr × Obj)) (s₁ : Shared) (f : Flow) (s₂ : Shared) : Prop :=
  match f with
  | .ret _ => False
  | .brk => False
  | _ => PopEnd w h₀ L m₀ x pp r dr I it t1 t2 d done xs rest s₁ s₂
theorem pop_rest {keep : List (Addr × Obj)} {pp : Str} (hpx : pp ≠ x) (hIk : ∀ p ∈ keep, @Ne Nat p.1 I) (hIr : @Ne Nat r I) (hId : @Ne Nat dr I) (hkr : ∀ p ∈ keep, @Ne Nat p.1 r)
    (turn : ∀ d done c t u T ta tb xs q rest it h tk, it.cls = .type "str_ascii_iterator" → (∀ p ∈ rest, @Ne Nat p.1 r) → xs.length ≤ 8 → done.length ≤ 8 → @Ne Nat T r → Fr h₀ env.locals h (fun z => if z = x then some (.str ⟨#[c]⟩ u) else if z = pp then some (.str (tx done) t) else m₀ z) →
      News h₀ env.locals h ((I, it) :: (r, rowOf dr (xs ++ [.ref T]) q) :: (dr, initOf w t1 t2) :: (T, pairOf d ta tb) :: rest) →
      wpAny (model prog w) A (execs body env) (PopPost w h₀ env.locals m₀ x pp r dr I it t1 t2 d done xs rest { s with heap := h, toks := tk }) E { s with heap := h, toks := tk }) :
    ∀ (cs : List Nat) (dr1 done : List Nat) (xs : List Value) (q : Nat) (m : Str → Option Value) (t : Tok), cs.length = dr1.length → m pp = some (.str (tx done) t) → (∀ z, z ≠ x → z ≠ pp → m z = m₀ z) → RowIs keep dr1.reverse xs → dr1.length + done.length ≤ 8 →
      (∀ q (u : Str → Option Value) t h tk, Fr h₀ env.locals h (fun z => if z = x then u z else if z = pp then some (.str (tx (done ++ dr1)) t) else m₀ z) → News h₀ env.locals h ((r, rowOf dr [] q) :: (dr, initOf w t1 t2) :: keep) → Q .next { s with heap := h, toks := tk }) →
      TextRest prog w A E h₀ env x body Q s I cs m ((r, rowOf dr xs q) :: (dr, initOf w t1 t2) :: keep)
  | [], [], done, xs, q, m, t, _, hp, hm, R, _, fin => by
    intro h tk F N
    have hxs : xs = [] := List.length_eq_zero_iff.mp (by rw [R.length]; rfl)
    subst hxs
    rw [List.append_nil] at fin
    refine fin q m t h tk ?_ N
    have e : (fun z => if z = x then m z else if z = pp then some (.str (tx done) t) else m₀ z) = m := funext fun z => by
      by_cases hz : z = x
      · simp [hz]
      · simp only [if_neg hz]
        by_cases hy : z = pp
        · subst hy; rw [if_pos rfl, hp]
        · rw [if_neg hy]; exact (hm z hz hy).symm
    rw [e]; exact F
  | c :: cs, d :: ds, done, xs, q, m, t, hl, hp, hm, R, h8, fin => by
    rw [List.reverse_cons] at R
    obtain ⟨xs', T, ta, tb, rfl, hT, R'⟩ := RowIs.last R
    intro u it h tk hit F N
    have e : (fun y => if y = x then some (Value.str ⟨#[c]⟩ u) else m y) = fun z => if z = x then some (.str ⟨#[c]⟩ u) else if z = pp then some (.str (tx done) t) else m₀ z := funext fun z => by
      by_cases hz : z = x
      · simp [hz]
      · simp only [if_neg hz]
        by_cases hy : z = pp
        · subst hy; rw [if_pos rfl, hp]
        · rw [if_neg hy]; exact hm z hz hy
    rw [e] at F
    have hxl : xs'.length ≤ 8 := by rw [R'.length]; simp only [List.length_reverse, List.length_cons] at h8 ⊢; omega
    have hdl : done.length ≤ 8 := by omega
    refine wpAny_mono (turn d done c t u T ta tb xs' q keep it h tk hit hkr hxl hdl (hkr _ hT) F (news_sub N fun p hp => ?_)) (fun f s₂ p => ?_) fun _ _ e => e
    · simp only [List.mem_cons] at hp ⊢
      rcases hp with h | h | h | h | h
      · simp [h]
      · simp [h]
      · simp [h]
      · subst h; simp [hT]
      · simp [h]
    have key : PopEnd w h₀ env.locals m₀ x pp r dr I it t1 t2 d done xs' keep { s with heap := h, toks := tk } s₂ →
        UnrEnd h₀ env.locals { s with heap := h, toks := tk } I it (fun m' n' => TextRest prog w A E h₀ env x body Q s I cs m' n') s₂ := by
      rintro ⟨h', tk', m', q', t', rfl, F', N', hp', hm'⟩
      refine UnrEnd.intro F' N' ((r, rowOf dr xs' q') :: (dr, initOf w t1 t2) :: keep) (fun p hp => hp) (fun p hp => ?_) ?_
      · rcases List.mem_cons.mp hp with rfl | hp
        · exact hIr
        rcases List.mem_cons.mp hp with rfl | hp
        · exact hId
        exact hIk p hp
      · refine pop_rest hpx hIk hIr hId hkr turn cs ds (done ++ [d]) xs' q' m' t' (by simpa using hl) hp' hm' R' (by simp only [List.length_append, List.length_cons, List.length_nil] at h8 ⊢; omega) ?_
        rw [List.append_assoc]; exact fin
    cases f with
    | ret v => exact p.elim
    | brk => exact p.elim
    | next => exact key p
    | cont => exact key p
  | [], _ :: _, _, _, _, _, _, hl, _, _, _, _, _ => by simp at hl
  | _ :: _, [], _, _, _, _, _, hl, _, _, _, _, _ => by simp at hl
theorem iter_pop {pp : Str} {cs fs : List Nat} {ty : Tok} {t : Tok} {q : Nat} {xs : List Value} {keep : List (Addr × Obj)} (hpx : pp ≠ x) (hcs : ∀ c ∈ cs, c < 10)
    (hh : A.handled = none) (F : Fr h₀ env.locals s.heap m₀) (N : News h₀ env.locals s.heap ((r, rowOf dr xs q) :: (dr, initOf w t1 t2) :: keep)) (hp : m₀ pp = some (.str (Str.ofString "") t)) (R : RowIs keep fs xs) (hl : cs.length = fs.length) (hfl : fs.length ≤ 8) (hkr : ∀ p ∈ keep, @Ne Nat p.1 r)
    (turn : ∀ I d done c t u T ta tb xs q rest it h tk, it.cls = .type "str_ascii_iterator" → (∀ p ∈ rest, @Ne Nat p.1 r) → xs.length ≤ 8 → done.length ≤ 8 → @Ne Nat T r → @Ne Nat I r → Fr h₀ env.locals h (fun z => if z = x then some (.str ⟨#[c]⟩ u) else if z = pp then some (.str (tx done) t) else m₀ z) →
      News h₀ env.locals h ((I, it) :: (r, rowOf dr (xs ++ [.ref T]) q) :: (dr, initOf w t1 t2) :: (T, pairOf d ta tb) :: rest) →
      wpAny (model prog w) A (execs body env) (PopPost w h₀ env.locals m₀ x pp r dr I it t1 t2 d done xs rest { s with heap := h, toks := tk }) E { s with heap := h, toks := tk })
    (fin : ∀ q (u : Str → Option Value) t h tk, Fr h₀ env.locals h (fun z => if z = x then u z else if z = pp then some (.str (tx fs.reverse) t) else m₀ z) → News h₀ env.locals h ((r, rowOf dr [] q) :: (dr, initOf w t1 t2) :: keep) → Q .next { s with heap := h, toks := tk }) :
    wpAny (model prog w) A (pyIter (.str (tx cs) ty)) (fun it s₂ => LoopAtV prog w A h₀ env x body Q E it s₂) E s := by
  refine iter_textUnr ?_ hh F N fun I hI => ?_
  · show (cs.map (48 + ·)).toArray.all (· < 128) = true
    rw [List.all_toArray, List.all_eq_true]
    intro c hc
    obtain ⟨d, hd, rfl⟩ := List.mem_map.mp hc
    have := hcs d hd
    exact decide_eq_true (by omega)
  have h2 : r < I := hI (r, _) (.head _)
  have h3 : dr < I := hI (dr, _) (.tail _ (.head _))
  have z : (tx cs).cps.toList = cs.map (48 + ·) := rfl
  rw [z]
  exact pop_rest hpx (fun p hp => Nat.ne_of_lt (hI p (by simp [hp]))) (Nat.ne_of_lt h2) (Nat.ne_of_lt h3) hkr
    (fun d done c t u T ta tb xs q rest it h tk a b c' d' e F N => turn I d done c t u T ta tb xs q rest it h tk a b c' d' e (Nat.ne_of_gt h2) F N) (cs.map (48 + ·)) fs.reverse [] xs q m₀ t (by simpa using hl) (by rw [hp]; rfl) (fun _ _ _ => rfl) (by rw [List.reverse_reverse]; exact R) (by simpa using hfl) (by simpa using fin)
end
end Mine
end
section
open PySem PySem.W PySem.W.X PySem.Spec PySem.Calls PyProof.Rows
set_option Elab.async false
set_option maxRecDepth 100000
set_option maxHeartbeats 16000000
namespace Mine
theorem mem_front {α : Type} {x : α} {l : List α} (h : x ∈ l) : ∀ p ∈ x :: l, p ∈ l := fun p hp => by
  rcases List.mem_cons.mp hp with rfl | hp
  · exact h
  · exact hp
noncomputable def AllNe (d : Nat) : List (Addr × Obj) → Prop
  | [] => True
  | p :: r => @Ne Nat p.1 d ∧ AllNe d r
theorem allNe_of {d : Addr} : ∀ {l : List (Addr × Obj)}, (∀ p ∈ l, @Ne Nat p.1 d) → AllNe d l
  | [], _ => trivial
  | p :: _, h => ⟨h p (.head _), allNe_of fun q hq => h q (.tail _ hq)⟩
theorem tup_ne_tab {h₀ h : Heap} {L T : Addr} {led : List (Addr × Obj)} {l : List Value} {ps : Array Value} (N : News h₀ L h led) (h1 : (T, tupOf l) ∈ led) (h2 : (107, tabObj ps) ∈ led) : @Ne Nat T 107 := news_ne N h1 h2 nofun
theorem init_ne_tab {h₀ h : Heap} {L T : Addr} {w : World} {t1 t2 : Tok} {led : List (Addr × Obj)} {ps : Array Value} (N : News h₀ L h led) (h1 : (T, initOf w t1 t2) ∈ led) (h2 : (107, tabObj ps) ∈ led) : @Ne Nat T 107 := news_ne N h1 h2 nofun
theorem tup_ne_row {h₀ h : Heap} {L T r dr : Addr} {led : List (Addr × Obj)} {l xs : List Value} {n : Nat} (N : News h₀ L h led) (h1 : (T, tupOf l) ∈ led) (h2 : (r, rowOf dr xs n) ∈ led) : @Ne Nat T r := news_ne N h1 h2 nofun
theorem pc1 (a : Nat) : Str.ofString "" ++ (⟨#[a]⟩ : Str) = ⟨#[a]⟩ := by rfl
theorem pc2 (a b : Nat) : (⟨#[a]⟩ : Str) ++ (⟨#[b]⟩ : Str) = ⟨#[a, b]⟩ := by rfl
theorem pc3 (a b c : Nat) : (⟨#[a, b]⟩ : Str) ++ (⟨#[c]⟩ : Str) = ⟨#[a, b, c]⟩ := by rfl
theorem pc4 (a b c d : Nat) : (⟨#[a, b, c]⟩ : Str) ++ (⟨#[d]⟩ : Str) = ⟨#[a, b, c, d]⟩ := by rfl
theorem pop_e3 (a b c : Value) : [a, b, c] = [a, b] ++ [c] := rfl
theorem pop_e2 (a b : Value) : [a, b] = [a] ++ [b] := rfl
theorem pop_e1 (a : Value) : [a] = [] ++ [a] := rfl
theorem pop_e4 (a b c d : Value) : [a, b, c, d] = [a, b, c] ++ [d] := rfl
theorem allNe_mem {d : Addr} : ∀ {l : List (Addr × Obj)}, AllNe d l → ∀ p ∈ l, @Ne Nat p.1 d
  | [], _, _, hp => nomatch hp
  | q :: r, h, p, hp => by
    rcases List.mem_cons.mp hp with e | hp
    · subst e; exact h.1
    · exact allNe_mem h.2 p hp
theorem fdiv10 {l : Int} (h : 0 ≤ l) : 0 ≤ l.fdiv 10 ∧ 10 * l.fdiv 10 ≤ l := by
  rw [Int.fdiv_eq_ediv_of_nonneg _ (by decide)]
  omega
noncomputable abbrev restOf (odd : Bool) : List (Int × Value) := if odd then [(4, .none)] else []
theorem rest_or (odd : Bool) : restOf odd = [] ∨ restOf odd = [(4, .none)] := by cases odd <;> simp [restOf]
theorem wid_of {odd : Bool} {line : Int} {l : Nat} {wd : Int} (hl : line = l) (e : wd = if line ≤ 999 ∧ restOf odd = [] then (3 : Int) else 4) : wd = wid odd l := by
  subst hl
  unfold wid
  by_cases h : four odd l = true
  · rw [e, if_pos h, if_neg]
    rintro ⟨a, b⟩
    cases odd with
    | true => simp [restOf] at b
    | false => rw [fourN (by omega)] at h; cases h
  · obtain ⟨rfl, h9⟩ := not_four h
    rw [e, if_neg h, if_pos ⟨by omega, by simp [restOf]⟩]
theorem wid_pos {odd : Bool} {l : Nat} {wd : Int} (h : wd = wid odd l) : 3 ≤ wd ∧ wd ≤ 4 := by
  subst h; unfold wid; split <;> omega
theorem figs_le8 (odd : Bool) (l : Nat) : (figs odd l).length ≤ 8 := by rcases figs_len34 odd l with h | h <;> omega
theorem rev_len34 (odd : Bool) (l : Nat) : (figs odd l).reverse.length = 3 ∨ (figs odd l).reverse.length = 4 := by rw [List.length_reverse]; exact figs_len34 odd l
theorem rev_lt (odd : Bool) (l : Nat) : ∀ d ∈ (figs odd l).reverse, d < 10 := fun d hd => figs_lt odd l d (List.mem_reverse.mp hd)
theorem digs_lt (odd : Bool) (l : Nat) : ∀ d ∈ digs odd l, d < 10 := fun d hd => figs_lt odd l d (by rw [figs_digs]; exact (srt_perm _).mem_iff.mpr hd)
theorem keep_off {h₀ h : Heap} {L r : Addr} {a b : Addr × Obj} {dr : Addr} {xs : List Value} {q : Nat} {keep tups : List (Addr × Obj)} (hk : ∀ p ∈ keep, @Ne Nat p.1 r) (N : News h₀ L h (a :: (r, rowOf dr xs q) :: b :: (keep ++ tups))) (hc : ∀ p ∈ tups, p.2.cls = .type "tuple") : ∀ p ∈ keep ++ tups, @Ne Nat p.1 r := fun p hp => by
  rcases List.mem_append.mp hp with hp | hp
  · exact hk p hp
  · exact cls_off N (show (r, rowOf dr xs q) ∈ _ by simp) (fun p hp => by simp [hp]) hc (by intro e; cases e) p hp
theorem tail_off {h₀ h : Heap} {L : Addr} {a b c d : Addr × Obj} {ps : Array Value} {news tups : List (Addr × Obj)} (hk : ∀ p ∈ news, @Ne Nat p.1 107) (N : News h₀ L h (a :: b :: c :: d :: (107, tabObj ps) :: (news ++ tups))) (hc : ∀ p ∈ tups, p.2.cls = .type "tuple") : ∀ p ∈ news ++ tups, @Ne Nat p.1 107 := fun p hp => by
  rcases List.mem_append.mp hp with hp | hp
  · exact hk p hp
  · exact cls_off N (show (107, tabObj ps) ∈ _ by simp) (fun p hp => by simp [hp]) hc (by intro e; cases e) p hp
theorem news_pick {h₀ h : Heap} {L : Addr} {a b c r i d t : Addr × Obj} {tail : List (Addr × Obj)} (N : News h₀ L h (a :: b :: c :: r :: i :: d :: t :: tail)) : News h₀ L h (r :: i :: a :: b :: t :: tail) := news_sub N fun p hp => by
  simp only [List.mem_cons] at hp ⊢
  rcases hp with h | h | h | h | h | h <;> simp [h]
theorem pick_off {h₀ h : Heap} {L r A B T : Addr} {la lb : List Value} {o₁ o₂ : Obj} {c i d : Addr × Obj} {dr : Addr} {xs : List Value} {q : Nat} {tail : List (Addr × Obj)} (N : News h₀ L h ((A, tupOf la) :: (B, tupOf lb) :: c :: (r, rowOf dr xs q) :: i :: d :: (T, o₂) :: tail)) (hk : ∀ p ∈ d :: (T, o₁) :: tail, @Ne Nat p.1 r) : ∀ p ∈ (A, tupOf la) :: (B, tupOf lb) :: (T, o₂) :: tail, @Ne Nat p.1 r := fun p hp => by
  rcases List.mem_cons.mp hp with rfl | hp
  · exact tup_ne_row N (.head _) (show (r, rowOf dr xs q) ∈ _ by simp)
  rcases List.mem_cons.mp hp with rfl | hp
  · exact tup_ne_row N (.tail _ (.head _)) (show (r, rowOf dr xs q) ∈ _ by simp)
  rcases List.mem_cons.mp hp with rfl | hp
  · exact hk (T, o₁) (.tail _ (.head _))
  · exact hk p (.tail _ (.tail _ hp))
theorem tail2 {r : Addr} {a b : Addr × Obj} {l : List (Addr × Obj)} (h : ∀ p ∈ a :: b :: l, @Ne Nat p.1 r) : ∀ p ∈ l, @Ne Nat p.1 r := fun p hp => h p (.tail _ (.tail _ hp))
theorem pop_drop {h₀ h : Heap} {L : Addr} {a b c d : Addr × Obj} {rest : List (Addr × Obj)} (N : News h₀ L h (a :: b :: c :: d :: rest)) : News h₀ L h (a :: b :: c :: rest) := news_sub N fun p hp => by
  simp only [List.mem_cons] at hp ⊢
  rcases hp with h | h | h | h <;> simp [h]
theorem popm {x pp : Str} {a b c : Option Value} {m₀ : Str → Option Value} : ∀ z, z ≠ x → z ≠ pp → (fun y => if y = pp then a else if y = x then b else if y = pp then c else m₀ y) z = m₀ z := fun z hz hy => by
  simp only [if_neg hz, if_neg hy]
section
variable {M : Model} {w : World} {A : Around} {E : Value → Shared → Prop} {s : Shared} {tree : Sem Flow} {Q : Flow → Shared → Prop} {h₀ : Heap} {L d : Addr} {o : Obj} {m : Str → Option Value} {rest : List (Addr × Obj)} {q line : Int} {tq tl : Tok} {odd : Bool}
noncomputable def JPost (w : World) (h₀ : Heap) (L : Addr) (m : Str → Option Value) (d : Addr) (rest : List (Addr × Obj)) (q line : Int) (tq tl : Tok) (odd : Bool) (s : Shared) (f : Flow) (s' : Shared) : Prop :=
  f = .next ∧ ∃ h' tk o', s' = { s with heap := h', toks := tk } ∧ Fr h₀ L h' m ∧ News h₀ L h' ((d, o') :: rest) ∧ o'.IsDictOf (intKind P w) (tabKvs q line tq tl (restOf odd))
theorem join_dict (F : Fr h₀ L s.heap m) (N : News h₀ L s.heap ((d, o) :: rest)) (ho : m (Str.ofString "odd") = some (.bool odd)) (hD : o.IsDictOf (intKind P w) (tabKvs q line tq tl [])) (h1 : wpAny M A tree (JPost w h₀ L m d rest q line tq tl odd s) E s)
    (h2 : ∀ h' tk o', Fr h₀ L h' m → News h₀ L h' ((d, o') :: rest) → o'.IsDictOf (intKind P w) (tabKvs q line tq tl (restOf odd)) → Q .next { s with heap := h', toks := tk }) : wpAny M A tree Q E s :=
  wpAny_mono h1 (fun _ s' ⟨e, h', tk, o', e', F', N', D'⟩ => by subst e; subst e'; exact h2 _ _ _ F' N' D') fun _ _ e => e
theorem isdict_t (h : odd = true) (hD : o.IsDictOf (intKind P w) (tabKvs q line tq tl [(4, .none)])) : o.IsDictOf (intKind P w) (tabKvs q line tq tl (restOf odd)) := by subst h; exact hD
theorem isdict_f (h : odd = false) (hD : o.IsDictOf (intKind P w) (tabKvs q line tq tl [])) : o.IsDictOf (intKind P w) (tabKvs q line tq tl (restOf odd)) := by subst h; exact hD
end
theorem news_tl {h₀ h : Heap} {L : Addr} {a b c : Addr × Obj} {news : List (Addr × Obj)} (N : News h₀ L h (a :: b :: c :: news)) : News h₀ L h (a :: b :: news) := news_sub N fun p hp => by
  simp only [List.mem_cons] at hp ⊢
  rcases hp with h | h | h <;> simp [h]
theorem told_end {h₀ h : Heap} {L : Addr} {a b c x1 x2 x3 x4 x5 x6 x7 lo hh t : Addr × Obj} {news tups : List (Addr × Obj)} (N : News h₀ L h (a :: b :: c :: x1 :: x2 :: x3 :: x4 :: x5 :: x6 :: x7 :: lo :: hh :: t :: (news ++ tups))) : News h₀ L h (a :: b :: c :: lo :: hh :: t :: news) := news_sub N fun p hp => by
  simp only [List.mem_cons, List.mem_append] at hp ⊢
  rcases hp with h | h | h | h | h | h | h <;> simp [h]
local macro_rules | `(tactic| k_all) => `(tactic| first | with_reducible assumption | (repeat (refine List.forall_mem_cons.mpr ⟨by k_ne, ?_⟩)); (first | exact List.forall_mem_nil _ | with_reducible assumption | exact allLt_ne (by with_reducible assumption) | exact allNe_mem (by with_reducible assumption) | exact allLt_ne (And.right (by with_reducible assumption)) | exact allNe_mem (And.right (by with_reducible assumption)) | exact allLt_ne (And.right (And.right (by with_reducible assumption))) | exact allNe_mem (And.right (And.right (by with_reducible assumption))) | exact allLt_ne (And.right (And.right (And.right (by with_reducible assumption)))) | exact allNe_mem (And.right (And.right (And.right (by with_reducible assumption)))) | exact allLt_ne (And.right (And.right (And.right (And.right (by with_reducible assumption))))) | exact allNe_mem (And.right (And.right (And.right (And.right (by with_reducible assumption))))) | exact allLt_ne (And.right (And.right (And.right (And.right (And.right (by with_reducible assumption)))))) | exact allNe_mem (And.right (And.right (And.right (And.right (And.right (by with_reducible assumption)))))) | exact allLt_ne (And.right (And.right (And.right (And.right (And.right (And.right (by with_reducible assumption))))))) | exact allNe_mem (And.right (And.right (And.right (And.right (And.right (And.right (by with_reducible assumption))))))) | exact allLt_ne (And.right (And.right (And.right (And.right (And.right (And.right (And.right (by with_reducible assumption)))))))) | exact allNe_mem (And.right (And.right (And.right (And.right (And.right (And.right (And.right (by with_reducible assumption)))))))) | exact allLt_ne (And.right (And.right (And.right (And.right (And.right (And.right (And.right (And.right (by with_reducible assumption))))))))) | exact allNe_mem (And.right (And.right (And.right (And.right (And.right (And.right (And.right (And.right (by with_reducible assumption)))))))))))
theorem told : ∀ (w : World) (p : Program) (loose : List Str) (mean : ExcName → Option Value) (mg mb : Str → Option Value)
   (dp un : Nat) (gd : Option (List Code)) (cn : Str) (cs : Scope) (a : Addr) (ccd : Value) (cl : List (Str × Addr)) (outer : List Env) (A₀ : Around) (base h₀ : Heap) (L : Addr) (m : Str → Option Value) (s : Shared) (Q E : Value → Shared → Prop)
   (news : List (Addr × Obj)) (line : Int) (l : Nat) (tl : Tok) (odd : Bool) (ps : Array Value)
   (B : Below A₀ base outer h₀) (F : Fr h₀ L s.heap m) (X : (hd.heap_1 w.params).In h₀) (Z : ZIn w h₀) (N : News h₀ L s.heap ((107, tabObj ps) :: news)) (T : Top p loose mean mg mb h₀) (hk : cs.kind = .function)
   (hdp : dp ≤ 303) (hun : un ≤ 10)
   (hline : line = l) (hl0 : 1 ≤ l) (hl1 : l ≤ 9999) (hps : ps = #[] ∨ ∃ c', ps = #[rawInt 50, rawInt 32, .ref c']) (hn7 : ∀ p ∈ news, @Ne Nat p.1 107)
   (hret : ∀ D R Em Lo H v1 v2 v3 v4 v5 v6 n c' h' g' tk', Fr h₀ L h' m → News h₀ L h' ((D, tupOf [.ref R, .int ((nx odd l : Nat) : Int) v1]) :: (R, PySem.W.listOf #[.int (wid odd l) v2, .ref Lo, .bool true, .ref Em] n) :: (Em, tupOf [.str (Str.ofString "") v3, .str (Str.ofString "") v4]) :: (Lo, tupOf [.ref H, .ref H]) :: (H, tupOf [.str (Str.ofString "h") v5, .int (rise odd l) v6]) :: (107, tabObj #[rawInt 50, rawInt 32, .ref c']) :: news) → (AllBare s.gens → AllBare g') → Q (.ref D) { s with heap := h', gens := g', toks := tk' }),
   wpAny (model Challenge.rw_yh0009_01.row.prog w) (ktrTop dp un gd cn cs L a ccd cl outer) (call (.ref 200) [.int line tl, .bool odd]) Q E s := by
  k_fill
  intro w p loose mean mg mb dp un gd cn cs a ccd cl outer A₀ base h₀ L m s Q E news line l tl odd ps B F X Z N T hk hdp hun hline hl0 hl1 hps hn7 hret
  refine weaken (A' := ktrTop 303 10 gd cn cs L a ccd cl outer) rfl hdp rfl rfl hun ?_
  refine wpAny_call ?_
  k_dflt cell_enter
  repeat' (first | (k_unfold; (try dsimp only)) | (k_end; with_reducible (first | ((with_reducible show JPost _ _ _ _ _ _ _ _ _ _ _ _ _ _); ((k_dflt (refine ⟨by rfl, _, _, _, rfl, by assumption, by assumption, ?_⟩; first | exact isdict_t (by assumption) (by assumption) | exact isdict_f (by assumption) (by assumption))))) | ((with_reducible show PopPost _ _ _ _ _ _ _ _ _ _ _ _ _ _ _ _ _ _ _); ((k_dflt (exact ⟨_, _, _, _, _, rfl, by assumption, pop_drop (by assumption), by rfl, popm⟩)))) | ((with_reducible show PushPost _ _ _ _ _ _ _ _ _ _ _ _ _ _ _ _ _ _ _); ((k_dflt (exact ⟨_, _, _, _, _, _, _, rfl, by assumption, by assumption, fun z hz => if_neg hz⟩)))) | fail "none")) | ((with_reducible show wpAny _ _ (call _ _ _) _ _ _); with_reducible (first | ((with_reducible show wpAny _ _ (call (Value.builtin "sorted") _ _) _ _ _); ((k_here; k_dflt (refine' sortedG rfl ?F ?N ?_; (case F => k_asm); (case N => k_asm); k_whole; intro D' vs' n' h' t' F' N' l1 hS'; (try k_lt l1); (try k_sweep))))) | (((k_here; (with_reducible show wpAny _ _ (call (Value.type "str") [Value.ref _]) _ _ _); k_dflt (refine' strG ?B ?F ?X ?Z ?N ?T ?hk ?hdp ?hun ?hr ?hd ?R ?hl ?U ?hps ?_; (case B => k_asm); (case F => k_asm); (case X => k_asm); (case Z => (first | assumption | exact ZIn.keeps (by assumption) (Fr.keep (by assumption)) | exact ZIn.keeps (ZIn.keeps (by assumption) (Fr.keep (by assumption))) (Fr.keep (by assumption)))); (case T => k_asm); (case hk => first | rfl | assumption); (case hdp => exact Nat.le_of_ble_eq_true rfl); (case hun => exact Nat.le_of_ble_eq_true rfl); (case N => k_asm); (case hr => k_mem); (case hd => k_mem); (case R => (refine RowIs.mono (fun p hp => ?_) (by assumption); (repeat (first | exact List.mem_append_right _ hp | refine List.Mem.tail _ ?_)))); (case hl => exact figs_len34 _ _); (case U => k_updF); (case hps => assumption); k_whole; intro c' h' g' t' r' F' N' hb'; (try dsimp only at N'); (try k_sweep))))) | (((k_here; (with_reducible show wpAny _ _ (call (Value.ref 193) _ _) _ _ _); k_dflt (refine' askedG ?B ?F ?X ?Z ?N ?T ?hk ?hdp ?hun ?hl ?hd ?_; (case B => k_asm); (case F => k_asm); (case X => k_asm); (case Z => (first | assumption | exact ZIn.keeps (by assumption) (Fr.keep (by assumption)) | exact ZIn.keeps (ZIn.keeps (by assumption) (Fr.keep (by assumption))) (Fr.keep (by assumption)))); (case T => k_asm); (case hk => first | rfl | assumption); (case hdp => exact Nat.le_of_ble_eq_true rfl); (case hun => exact Nat.le_of_ble_eq_true rfl); (case N => k_asm); (case hl => first | exact figs_len34 _ _ | exact rev_len34 _ _); (case hd => first | exact figs_lt _ _ | exact rev_lt _ _); k_whole; intro D1' D2' u1' u2' h' t' F' N'; (try (have x1' := tup_ne_row N' (.head _) (by k_mem))); (try (have x2' := tup_ne_row N' (.tail _ (.head _)) (by k_mem))); (try k_sweep))))) | (((k_here; (with_reducible show wpAny _ _ (call (Value.ref 98) _ _) _ _ _); k_dflt (first | (refine' popEU ?B ?F ?X ?Z ?N ?T ?hk ?hdp ?hun ?U ?hd ?_; (case B => k_asm); (case F => k_asm); (case X => k_asm); (case Z => (first | assumption | exact ZIn.keeps (by assumption) (Fr.keep (by assumption)) | exact ZIn.keeps (ZIn.keeps (by assumption) (Fr.keep (by assumption))) (Fr.keep (by assumption)))); (case T => k_asm); (case hk => first | rfl | assumption); (case hdp => exact Nat.le_of_ble_eq_true rfl); (case hun => exact Nat.le_of_ble_eq_true rfl); (case N => k_asm); (case U => k_updF); (case hd => k_mem); k_whole; intro D' ta' tb' h' t' F' N'; (try k_sweep)) | (refine' popU ?B ?F ?X ?Z ?N ?T ?hk ?hdp ?hun ?U ?hy ?hd ?hz ?_; (case B => k_asm); (case F => k_asm); (case X => k_asm); (case Z => (first | assumption | exact ZIn.keeps (by assumption) (Fr.keep (by assumption)) | exact ZIn.keeps (ZIn.keeps (by assumption) (Fr.keep (by assumption))) (Fr.keep (by assumption)))); (case T => k_asm); (case hk => first | rfl | assumption); (case hdp => exact Nat.le_of_ble_eq_true rfl); (case hun => exact Nat.le_of_ble_eq_true rfl); (case N => k_asm); (case U => k_updF); (case hy => rfl); (case hd => k_mem); (case hz => omega); k_whole; intro n' h' t' F' N'; (try k_sweep)))))) | (((k_here; (with_reducible show wpAny _ _ (call (Value.ref 82) _ _) _ _ _); k_dflt (refine' pushU ?B ?F ?X ?N ?T ?hk ?hdp ?hun ?U ?hd ?hz ?_; (case B => k_asm); (case F => k_asm); (case X => k_asm); (case T => k_asm); (case hk => first | rfl | assumption); (case hdp => exact Nat.le_of_ble_eq_true rfl); (case hun => exact Nat.le_of_ble_eq_true rfl); (case N => k_asm); (case U => k_updF); (case hd => k_mem); (case hz => omega); k_whole; intro T' n' h' t' F' N' ne'; (try dsimp only [List.nil_append, List.cons_append] at N'); (try k_sweep))))) | (((k_here; (with_reducible show wpAny _ _ (call (Value.ref 138) _ _) _ _ _); k_dflt (refine' r_new _ _ _ _ _ _ _ _ _ _ _ _ _ _ _ _ _ _ _ _ _ _ _ _ ?B ?F ?X ?Z ?N ?T ?hk ?hdp ?hun ?_; (case B => k_asm); (case F => k_asm); (case X => k_asm); (case Z => (first | assumption | exact ZIn.keeps (by assumption) (Fr.keep (by assumption)) | exact ZIn.keeps (ZIn.keeps (by assumption) (Fr.keep (by assumption))) (Fr.keep (by assumption)))); (case T => k_asm); (case hk => first | rfl | assumption); (case hdp => exact Nat.le_of_ble_eq_true rfl); (case hun => exact Nat.le_of_ble_eq_true rfl); (case N => k_asm); k_whole; intro r' dr' t1' t2' h' t' F' N' ne' dne'; (have y' := init_ne_tab N' (.tail _ (.head _)) (by k_mem)); (have ne2' := allNe_of ne'; simp only [AllNe, and_true] at ne2'); (try k_sweep))))) | (((k_here; (with_reducible show wpAny _ _ (call (Value.ref 58) _ _) _ _ _); k_dflt (refine' glw _ _ _ _ _ _ _ _ _ _ _ _ _ _ _ _ _ _ _ _ _ _ _ _ _ _ _ _ _ _ _ ?B ?F ?X ?Z ?N ?T ?hk ?hdp ?hun ?hD ?hlo ?hrest ?hl0 ?hl1 ?h0 ?h1 ?hlen ?_; (case B => k_asm); (case F => k_asm); (case X => k_asm); (case Z => (first | assumption | exact ZIn.keeps (by assumption) (Fr.keep (by assumption)) | exact ZIn.keeps (ZIn.keeps (by assumption) (Fr.keep (by assumption))) (Fr.keep (by assumption)))); (case T => k_asm); (case hk => first | rfl | assumption); (case hdp => exact Nat.le_of_ble_eq_true rfl); (case hun => exact Nat.le_of_ble_eq_true rfl); (case N => exact news_sub (by k_asm) (mem_front (by k_mem))); (case hD => assumption); (case hlo => assumption); (case hrest => exact rest_or _); (case hl0 => omega); (case hl1 => omega); (case h0 => exact (fdiv10 (by omega)).1); (case h1 => exact (fdiv10 (by omega)).2); (case hlen => exact ⟨fun h => dlen_le (by omega) h, fun h => dlen_4 h (by omega)⟩); k_whole; intro wd' h' t' r' e' F' N'; (have e2' := wid_of (by assumption) e'); (have e3' := wid_pos e2'); (subst e2'); (replace N' := news_drop1 N'); (try k_sweep))))) | ((with_reducible show wpAny _ _ (call (Value.builtin "list.append") _ _) _ _ _); ((k_here; k_dflt (refine' row_appendK ?k1 ?k2 ?k3 ?k4 ?k5 ?k6 ?k7 ?_; (case k1 => k_asm); (case k2 => k_asm); (case k3 => k_asm); (case k4 => k_is); (case k5 => k_mem); (case k6 => first | assumption | exact Nat.le_of_ble_eq_true rfl); (case k7 => k_upd); k_whole); intro h' F' N'; (try k_sweep)))) | ((with_reducible show wpAny _ _ (call (Value.ref _) _ _) _ _ _); ((k_here; k_dflt (first | (refine' bound_lenK ?k1 ?k2 ?k3 ?_; (case k1 => k_asm); (case k2 => k_mem); (case k3 => k_mem); k_whole) | (refine' bound_initK ?k1 ?k2 ?k3 ?k4 ?k5 ?_; (case k1 => k_asm); (case k2 => k_asm); (case k3 => k_mem); (case k4 => k_mem); (case k5 => k_upd); k_whole; intro h' F' N'; (try k_sweep)) | (refine' bound_popK ?k1 ?k2 ?k3 ?k4 ?k5 ?k6 ?k7 ?k8 ?k9 ?k10 ?k11 ?_; (case k1 => k_asm); (case k2 => k_asm); (case k3 => k_asm); (case k4 => k_is); (case k5 => k_is); (case k6 => rfl); (case k7 => k_is); (case k8 => k_mem); (case k9 => k_mem); (case k10 => first | assumption | exact Nat.le_of_ble_eq_true rfl); (case k11 => k_upd); k_whole; intro h' F' N'; (try k_sweep)))))) | fail "none")) | ((with_reducible show wpAny _ _ (exec _ _) _ _ _); with_reducible (first | ((with_reducible show wpAny _ _ (exec (Stmt.If _ _ _ _) _) _ _ _); ((k_here; (with_reducible show wpAny _ _ (exec (Stmt.If (Expr.Name _ _) _ [] _) _) _ _ _); (fail_if_success (with_reducible show wpAny _ _ _ (JPost _ _ _ _ _ _ _ _ _ _ _ _) _ _)); (rename Fr _ _ _ _ => lF'); (rename News _ _ _ _ => lN'); (k_dflt (refine' join_dict lF' lN' (by rfl) (by assumption) ?_ (fun h' tk' o' F' N' hD' => ?_)); rotate_left; (clear lF' lN'); rotate_right)))) | ((with_reducible show wpAny _ _ (exec (Stmt.For (Expr.Name _ _) (Expr.Name _ _) (_ :: _) [] _) _) _ _ _); (first | with_reducible ((k_here; (rename Fr _ _ _ _ => lF'); (with_unfolding_all refine' For_invVF lF' ?k1 ?k2 ?_; (case k1 => exact rfl); (case k2 => exact rfl); k_whole))) | k_dflt ((k_here; (rename Fr _ _ _ _ => lF'); (with_unfolding_all refine' For_invVF lF' ?k1 ?k2 ?_; (case k1 => exact rfl); (case k2 => exact rfl); k_whole))))) | fail "none")) | (with_reducible ((with_reducible show wpAny _ _ (pyIter (Value.str _ _)) _ _ _); (((with_reducible show wpAny _ _ (pyIter (Value.str _ _)) (fun it s₂ => LoopAtV _ _ _ _ _ _ _ _ _ it s₂) _ _); (rename Fr _ _ _ _ => lF'); (rename News _ _ _ _ => lN'); (rename RowIs _ _ _ => lR'); (k_dflt (refine' iter_pop (pp := Str.ofString "popped") ?hpx (digs_lt _ _) ?hh lF' (news_pick lN') ?hp ?R (figs_len _ _).symm (figs_le8 _ _) ?hkr (fun I' d' done' c' u' v' T' ta' tb' xs' q' rest' it' h' tk' hit' hrest' hxs' hdn' hT' hI' F' N' => ?_) (fun q' u' v' h' tk' F' N' => ?_); (case hpx => decide); (case hh => exact rfl); (case hp => exact rfl); (case R => exact RowIs.mono (fun p hp => .tail _ (.tail _ (.tail _ (List.mem_append_right _ hp)))) lR'); (case hkr => exact pick_off lN' (by assumption)))); (all_goals clear lF' lN'))))) | (with_reducible ((with_reducible show wpAny _ _ (pyIter (Value.ref _)) _ _ _); (((with_reducible show wpAny _ _ (pyIter (Value.ref _)) (fun it s₂ => LoopAtV _ _ _ _ _ _ _ _ _ it s₂) _ _); (rename Fr _ _ _ _ => lF'); (rename News _ _ _ _ => lN'); (rename StrsAre _ _ => lS'); (k_dflt (refine iter_push (by rfl) lF' lN' lS' (figs_le8 _ _) (by assumption) (fun I' d' u' xs' q' rest' it' h' tk' hit' hrest' hxs' hI' F' N' => ?_) (fun xs' q' tups' u' h' tk' R' hc' F' N' => ?_))); (all_goals clear lF' lN'); (all_goals (first | (fail_if_success (rename RowIs _ _ _ => zz')) | ((k_dflt (have hkr2' := keep_off (by assumption) N' hc')); (dsimp only [List.cons_append, List.nil_append] at N' hkr2'); (k_dflt (have hkr3' := tail2 hkr2')); (k_dflt (have h107' := tail_off (by assumption) N' hc'))))))))) | (with_reducible ((with_reducible show wpAny _ _ (binaryOp Operator.Add (Value.str _ _) (Value.str _ _)) _ _ _); (first | with_reducible ((k_here; (with_reducible show wpAny _ _ (binaryOp _ (Value.str (Txt.mul _ _) _) (Value.str _ _)) _ _ _); (refine lit_add (padG (by first | rfl | assumption) (by assumption) (by assumption)) (by size_fits) ?_; intro _ _))) | k_dflt ((k_here; (with_reducible show wpAny _ _ (binaryOp _ (Value.str (Txt.mul _ _) _) (Value.str _ _)) _ _ _); (refine lit_add (padG (by first | rfl | assumption) (by assumption) (by assumption)) (by size_fits) ?_; intro _ _)))))) | (with_reducible ((with_reducible show wpAny _ _ (binaryOp Operator.Add (Value.str _ _) (Value.str _ _)) _ _ _); (first | with_reducible ((k_here; (with_reducible show wpAny _ _ (binaryOp _ (Value.str (tx _) _) (Value.str (sg _) _)) _ _ _); (refine tx_add (by assumption) ?_; intro _ _))) | k_dflt ((k_here; (with_reducible show wpAny _ _ (binaryOp _ (Value.str (tx _) _) (Value.str (sg _) _)) _ _ _); (refine tx_add (by assumption) ?_; intro _ _)))))) | (with_reducible ((with_reducible show wpAny _ _ (getMethod (Value.ref _) _ _) _ _ _); ((k_here; k_dflt (refine' method_rowK ?k2 ?k3 ?k4 ?k5 ?k6 ?k7 ?k8 ?k9 ?_; (case k2 => k_in); (case k3 => k_inst); (case k4 => k_is); (case k5 => k_is); (case k6 => k_is); (case k7 => k_is); (case k8 => decide +kernel); (case k9 => k_get); k_whole))))) | (with_reducible ((with_reducible show wpAny _ _ (callWith _ (Value.ref _) _ _ _) _ _ _); ((k_here; k_dflt ((refine' callWith_B0 ?k1 ?k2 ?k3 ?_; (case k1 => k_asm); (case k2 => k_mem); (case k3 => first | exact .inl rfl | exact .inr rfl); k_whole); (try dsimp only [List.nil_append, List.cons_append])))))) | (with_reducible ((with_reducible show wpAny _ _ (getMethod (Value.ref _) _ _) _ _ _); ((k_here; k_dflt (first | (refine' sup_any (id := "list.__init__") ?k1 ?k2 ?k3 ?k4 ?k5 ?k6 ?k7 ?k8 ?k9 ?k10 ?k11 ?k12 ?k13 ty_init get_wrap ?k14 (get_init _) ?_; (case k1 => k_asm); (case k2 => k_asm); (case k3 => (first | assumption | exact ZIn.keeps (by assumption) (Fr.keep (by assumption)) | exact ZIn.keeps (ZIn.keeps (by assumption) (Fr.keep (by assumption))) (Fr.keep (by assumption)))); (case k4 => k_asm); (case k5 => k_mem); (case k6 => k_inst); (case k7 => rfl); (case k8 => exact Nat.le_of_ble_eq_true rfl); (case k9 => exact Nat.le_of_ble_eq_true rfl); (case k10 => k_is); (case k11 => k_is); (case k12 => rfl); (case k13 => ks_is); (case k14 => decide); k_whole) | (refine' sup_any (id := "list.__len__") ?k1 ?k2 ?k3 ?k4 ?k5 ?k6 ?k7 ?k8 ?k9 ?k10 ?k11 ?k12 ?k13 ty_len get_wrap ?k14 (get_len _) ?_; (case k1 => k_asm); (case k2 => k_asm); (case k3 => (first | assumption | exact ZIn.keeps (by assumption) (Fr.keep (by assumption)) | exact ZIn.keeps (ZIn.keeps (by assumption) (Fr.keep (by assumption))) (Fr.keep (by assumption)))); (case k4 => k_asm); (case k5 => k_mem); (case k6 => k_inst); (case k7 => rfl); (case k8 => exact Nat.le_of_ble_eq_true rfl); (case k9 => exact Nat.le_of_ble_eq_true rfl); (case k10 => k_is); (case k11 => k_is); (case k12 => rfl); (case k13 => ks_is); (case k14 => decide); k_whole) | (refine' sup_any (id := "list.pop") ?k1 ?k2 ?k3 ?k4 ?k5 ?k6 ?k7 ?k8 ?k9 ?k10 ?k11 ?k12 ?k13 ty_pop get_meth ?k14 (get_pop _) ?_; (case k1 => k_asm); (case k2 => k_asm); (case k3 => (first | assumption | exact ZIn.keeps (by assumption) (Fr.keep (by assumption)) | exact ZIn.keeps (ZIn.keeps (by assumption) (Fr.keep (by assumption))) (Fr.keep (by assumption)))); (case k4 => k_asm); (case k5 => k_mem); (case k6 => k_inst); (case k7 => rfl); (case k8 => exact Nat.le_of_ble_eq_true rfl); (case k9 => exact Nat.le_of_ble_eq_true rfl); (case k10 => k_is); (case k11 => k_is); (case k12 => rfl); (case k13 => ks_is); (case k14 => decide); k_whole)); intro q' h' t' F' N' e'; (try k_sweep))))) | (with_reducible ((with_reducible show wpAny _ _ (setAttr (Value.ref _) _ _) _ _ _); ((k_here; k_dflt ((refine' set_row ?k1 ?k2 ?k3 ?k4 ?k5 ?k6 ?k7 ?k8 ?k9 ?k10 ?k11 ?k12 ?k13 ?k14 ?_; (case k1 => k_asm); (case k2 => k_asm); (case k3 => k_asm); (case k4 => k_is); (case k5 => rfl); (case k6 => rfl); (case k7 => k_inst); (case k8 => exact rfl); (case k9 => k_is); (case k10 => k_is); (case k11 => k_get); (case k12 => k_put); (case k13 => k_upd); (case k14 => exact Nat.le_of_ble_eq_true rfl); k_whole); intro h' F' N'; (try k_sweep); (try dsimp only)))))) | ((fail_if_success (fail_if_success (first | (with_reducible show PySem.wpAt _ _ _ _ _ _ _) | (with_reducible show PyProof.Rows.wpAt _ _ _ _ _ _ _)))); with_reducible (first | dsimp only | ((ks_step "exec Return"; k_dflt (refine ks_wpAt_Return_some ?_))) | ((ks_step "eval Call"; k_dflt (refine ks_wpAt_MethodCall ?_))) | ((ks_step "exec Expr"; k_dflt (refine ks_wpAt_Expr_any ?_))) | fail "none")) | (k_end; kc_close) | walk1 | (dsimp only; walk1) | (leave1; (try dsimp only)) | fail "no step")
  · exfalso; omega
  · unfold rise at hret
    rw [← step_val odd l] at hret
    exact hret _ _ _ _ _ _ _ _ _ _ _ _ _ _ _ _ (by assumption) (told_end (by assumption)) (by assumption)

theorem told0 : ∀ (w : World) (p : Program) (loose : List Str) (mean : ExcName → Option Value) (mg mb : Str → Option Value)
   (dp un : Nat) (gd : Option (List Code)) (cn : Str) (cs : Scope) (a : Addr) (ccd : Value) (cl : List (Str × Addr)) (outer : List Env) (A₀ : Around) (base h₀ : Heap) (L : Addr) (m : Str → Option Value) (s : Shared) (Q E : Value → Shared → Prop)
   (news : List (Addr × Obj)) (line : Int) (tl : Tok) (odd : Bool)
   (B : Below A₀ base outer h₀) (F : Fr h₀ L s.heap m) (X : (hd.heap_1 w.params).In h₀) (Z : ZIn w h₀) (N : News h₀ L s.heap (news)) (T : Top p loose mean mg mb h₀) (hk : cs.kind = .function)
   (hdp : dp ≤ 303) (hun : un ≤ 10)
   (hline : line = 0)
   (hret : ∀ D R v1 v2 n h' tk', Fr h₀ L h' m → News h₀ L h' ((D, tupOf [.ref R, .int 0 v1]) :: (R, PySem.W.listOf #[.int 0 v2] n) :: news) → Q (.ref D) { s with heap := h', toks := tk' }),
   wpAny (model Challenge.rw_yh0009_01.row.prog w) (ktrTop dp un gd cn cs L a ccd cl outer) (call (.ref 200) [.int line tl, .bool odd]) Q E s := by
  k_fill
  intro w p loose mean mg mb dp un gd cn cs a ccd cl outer A₀ base h₀ L m s Q E news line tl odd B F X Z N T hk hdp hun hline hret
  refine weaken (A' := ktrTop 303 10 gd cn cs L a ccd cl outer) rfl hdp rfl rfl hun ?_
  refine wpAny_call ?_
  k_dflt cell_enter
  repeat' (first | (k_unfold; (try dsimp only)) | (k_end; with_reducible (first | ((with_reducible show JPost _ _ _ _ _ _ _ _ _ _ _ _ _ _); ((k_dflt (refine ⟨by rfl, _, _, _, rfl, by assumption, by assumption, ?_⟩; first | exact isdict_t (by assumption) (by assumption) | exact isdict_f (by assumption) (by assumption))))) | ((with_reducible show PopPost _ _ _ _ _ _ _ _ _ _ _ _ _ _ _ _ _ _ _); ((k_dflt (exact ⟨_, _, _, _, _, rfl, by assumption, pop_drop (by assumption), by rfl, popm⟩)))) | ((with_reducible show PushPost _ _ _ _ _ _ _ _ _ _ _ _ _ _ _ _ _ _ _); ((k_dflt (exact ⟨_, _, _, _, _, _, _, rfl, by assumption, by assumption, fun z hz => if_neg hz⟩)))) | fail "none")) | ((with_reducible show wpAny _ _ (call _ _ _) _ _ _); with_reducible (first | (((k_here; (with_reducible show wpAny _ _ (call (Value.ref 58) _ _) _ _ _); k_dflt (refine' glw0 _ _ _ _ _ _ _ _ _ _ _ _ _ _ _ _ _ _ _ _ _ _ _ _ _ _ _ _ _ _ _ ?B ?F ?X ?Z ?N ?T ?hk ?hdp ?hun ?hD ?hlo ?hrest ?hl0 ?h0 ?h1 ?_; (case B => k_asm); (case F => k_asm); (case X => k_asm); (case Z => (first | assumption | exact ZIn.keeps (by assumption) (Fr.keep (by assumption)) | exact ZIn.keeps (ZIn.keeps (by assumption) (Fr.keep (by assumption))) (Fr.keep (by assumption)))); (case T => k_asm); (case hk => first | rfl | assumption); (case hdp => exact Nat.le_of_ble_eq_true rfl); (case hun => exact Nat.le_of_ble_eq_true rfl); (case N => exact news_sub (by k_asm) (mem_front (by k_mem))); (case hD => assumption); (case hlo => assumption); (case hrest => exact rest_or _); (case hl0 => assumption); (case h0 => exact (fdiv10 (by omega)).1); (case h1 => exact (fdiv10 (by omega)).2); k_whole; intro h' t' r' F' N'; (replace N' := news_drop1 N'); (try k_sweep))))) | ((with_reducible show wpAny _ _ (call (Value.builtin "sorted") _ _) _ _ _); ((k_here; k_dflt (refine' sortedG rfl ?F ?N ?_; (case F => k_asm); (case N => k_asm); k_whole; intro D' vs' n' h' t' F' N' l1 hS'; (try k_lt l1); (try k_sweep))))) | (((k_here; (with_reducible show wpAny _ _ (call (Value.type "str") [Value.ref _]) _ _ _); k_dflt (refine' strG ?B ?F ?X ?Z ?N ?T ?hk ?hdp ?hun ?hr ?hd ?R ?hl ?U ?hps ?_; (case B => k_asm); (case F => k_asm); (case X => k_asm); (case Z => (first | assumption | exact ZIn.keeps (by assumption) (Fr.keep (by assumption)) | exact ZIn.keeps (ZIn.keeps (by assumption) (Fr.keep (by assumption))) (Fr.keep (by assumption)))); (case T => k_asm); (case hk => first | rfl | assumption); (case hdp => exact Nat.le_of_ble_eq_true rfl); (case hun => exact Nat.le_of_ble_eq_true rfl); (case N => k_asm); (case hr => k_mem); (case hd => k_mem); (case R => (refine RowIs.mono (fun p hp => ?_) (by assumption); (repeat (first | exact List.mem_append_right _ hp | refine List.Mem.tail _ ?_)))); (case hl => exact figs_len34 _ _); (case U => k_updF); (case hps => assumption); k_whole; intro c' h' g' t' r' F' N' hb'; (try dsimp only at N'); (try k_sweep))))) | (((k_here; (with_reducible show wpAny _ _ (call (Value.ref 193) _ _) _ _ _); k_dflt (refine' askedG ?B ?F ?X ?Z ?N ?T ?hk ?hdp ?hun ?hl ?hd ?_; (case B => k_asm); (case F => k_asm); (case X => k_asm); (case Z => (first | assumption | exact ZIn.keeps (by assumption) (Fr.keep (by assumption)) | exact ZIn.keeps (ZIn.keeps (by assumption) (Fr.keep (by assumption))) (Fr.keep (by assumption)))); (case T => k_asm); (case hk => first | rfl | assumption); (case hdp => exact Nat.le_of_ble_eq_true rfl); (case hun => exact Nat.le_of_ble_eq_true rfl); (case N => k_asm); (case hl => first | exact figs_len34 _ _ | exact rev_len34 _ _); (case hd => first | exact figs_lt _ _ | exact rev_lt _ _); k_whole; intro D1' D2' u1' u2' h' t' F' N'; (try (have x1' := tup_ne_row N' (.head _) (by k_mem))); (try (have x2' := tup_ne_row N' (.tail _ (.head _)) (by k_mem))); (try k_sweep))))) | (((k_here; (with_reducible show wpAny _ _ (call (Value.ref 98) _ _) _ _ _); k_dflt (first | (refine' popEU ?B ?F ?X ?Z ?N ?T ?hk ?hdp ?hun ?U ?hd ?_; (case B => k_asm); (case F => k_asm); (case X => k_asm); (case Z => (first | assumption | exact ZIn.keeps (by assumption) (Fr.keep (by assumption)) | exact ZIn.keeps (ZIn.keeps (by assumption) (Fr.keep (by assumption))) (Fr.keep (by assumption)))); (case T => k_asm); (case hk => first | rfl | assumption); (case hdp => exact Nat.le_of_ble_eq_true rfl); (case hun => exact Nat.le_of_ble_eq_true rfl); (case N => k_asm); (case U => k_updF); (case hd => k_mem); k_whole; intro D' ta' tb' h' t' F' N'; (try k_sweep)) | (refine' popU ?B ?F ?X ?Z ?N ?T ?hk ?hdp ?hun ?U ?hy ?hd ?hz ?_; (case B => k_asm); (case F => k_asm); (case X => k_asm); (case Z => (first | assumption | exact ZIn.keeps (by assumption) (Fr.keep (by assumption)) | exact ZIn.keeps (ZIn.keeps (by assumption) (Fr.keep (by assumption))) (Fr.keep (by assumption)))); (case T => k_asm); (case hk => first | rfl | assumption); (case hdp => exact Nat.le_of_ble_eq_true rfl); (case hun => exact Nat.le_of_ble_eq_true rfl); (case N => k_asm); (case U => k_updF); (case hy => rfl); (case hd => k_mem); (case hz => omega); k_whole; intro n' h' t' F' N'; (try k_sweep)))))) | (((k_here; (with_reducible show wpAny _ _ (call (Value.ref 82) _ _) _ _ _); k_dflt (refine' pushU ?B ?F ?X ?N ?T ?hk ?hdp ?hun ?U ?hd ?hz ?_; (case B => k_asm); (case F => k_asm); (case X => k_asm); (case T => k_asm); (case hk => first | rfl | assumption); (case hdp => exact Nat.le_of_ble_eq_true rfl); (case hun => exact Nat.le_of_ble_eq_true rfl); (case N => k_asm); (case U => k_updF); (case hd => k_mem); (case hz => omega); k_whole; intro T' n' h' t' F' N' ne'; (try dsimp only [List.nil_append, List.cons_append] at N'); (try k_sweep))))) | (((k_here; (with_reducible show wpAny _ _ (call (Value.ref 138) _ _) _ _ _); k_dflt (refine' r_new _ _ _ _ _ _ _ _ _ _ _ _ _ _ _ _ _ _ _ _ _ _ _ _ ?B ?F ?X ?Z ?N ?T ?hk ?hdp ?hun ?_; (case B => k_asm); (case F => k_asm); (case X => k_asm); (case Z => (first | assumption | exact ZIn.keeps (by assumption) (Fr.keep (by assumption)) | exact ZIn.keeps (ZIn.keeps (by assumption) (Fr.keep (by assumption))) (Fr.keep (by assumption)))); (case T => k_asm); (case hk => first | rfl | assumption); (case hdp => exact Nat.le_of_ble_eq_true rfl); (case hun => exact Nat.le_of_ble_eq_true rfl); (case N => k_asm); k_whole; intro r' dr' t1' t2' h' t' F' N' ne' dne'; (have y' := init_ne_tab N' (.tail _ (.head _)) (by k_mem)); (have ne2' := allNe_of ne'; simp only [AllNe, and_true] at ne2'); (try k_sweep))))) | (((k_here; (with_reducible show wpAny _ _ (call (Value.ref 58) _ _) _ _ _); k_dflt (refine' glw _ _ _ _ _ _ _ _ _ _ _ _ _ _ _ _ _ _ _ _ _ _ _ _ _ _ _ _ _ _ _ ?B ?F ?X ?Z ?N ?T ?hk ?hdp ?hun ?hD ?hlo ?hrest ?hl0 ?hl1 ?h0 ?h1 ?hlen ?_; (case B => k_asm); (case F => k_asm); (case X => k_asm); (case Z => (first | assumption | exact ZIn.keeps (by assumption) (Fr.keep (by assumption)) | exact ZIn.keeps (ZIn.keeps (by assumption) (Fr.keep (by assumption))) (Fr.keep (by assumption)))); (case T => k_asm); (case hk => first | rfl | assumption); (case hdp => exact Nat.le_of_ble_eq_true rfl); (case hun => exact Nat.le_of_ble_eq_true rfl); (case N => exact news_sub (by k_asm) (mem_front (by k_mem))); (case hD => assumption); (case hlo => assumption); (case hrest => exact rest_or _); (case hl0 => omega); (case hl1 => omega); (case h0 => exact (fdiv10 (by omega)).1); (case h1 => exact (fdiv10 (by omega)).2); (case hlen => exact ⟨fun h => dlen_le (by omega) h, fun h => dlen_4 h (by omega)⟩); k_whole; intro wd' h' t' r' e' F' N'; (have e2' := wid_of (by assumption) e'); (have e3' := wid_pos e2'); (subst e2'); (replace N' := news_drop1 N'); (try k_sweep))))) | ((with_reducible show wpAny _ _ (call (Value.builtin "list.append") _ _) _ _ _); ((k_here; k_dflt (refine' row_appendK ?k1 ?k2 ?k3 ?k4 ?k5 ?k6 ?k7 ?_; (case k1 => k_asm); (case k2 => k_asm); (case k3 => k_asm); (case k4 => k_is); (case k5 => k_mem); (case k6 => first | assumption | exact Nat.le_of_ble_eq_true rfl); (case k7 => k_upd); k_whole); intro h' F' N'; (try k_sweep)))) | ((with_reducible show wpAny _ _ (call (Value.ref _) _ _) _ _ _); ((k_here; k_dflt (first | (refine' bound_lenK ?k1 ?k2 ?k3 ?_; (case k1 => k_asm); (case k2 => k_mem); (case k3 => k_mem); k_whole) | (refine' bound_initK ?k1 ?k2 ?k3 ?k4 ?k5 ?_; (case k1 => k_asm); (case k2 => k_asm); (case k3 => k_mem); (case k4 => k_mem); (case k5 => k_upd); k_whole; intro h' F' N'; (try k_sweep)) | (refine' bound_popK ?k1 ?k2 ?k3 ?k4 ?k5 ?k6 ?k7 ?k8 ?k9 ?k10 ?k11 ?_; (case k1 => k_asm); (case k2 => k_asm); (case k3 => k_asm); (case k4 => k_is); (case k5 => k_is); (case k6 => rfl); (case k7 => k_is); (case k8 => k_mem); (case k9 => k_mem); (case k10 => first | assumption | exact Nat.le_of_ble_eq_true rfl); (case k11 => k_upd); k_whole; intro h' F' N'; (try k_sweep)))))) | fail "none")) | ((with_reducible show wpAny _ _ (exec _ _) _ _ _); with_reducible (first | ((with_reducible show wpAny _ _ (exec (Stmt.If _ _ _ _) _) _ _ _); ((k_here; (with_reducible show wpAny _ _ (exec (Stmt.If (Expr.Name _ _) _ [] _) _) _ _ _); (fail_if_success (with_reducible show wpAny _ _ _ (JPost _ _ _ _ _ _ _ _ _ _ _ _) _ _)); (rename Fr _ _ _ _ => lF'); (rename News _ _ _ _ => lN'); (k_dflt (refine' join_dict lF' lN' (by rfl) (by assumption) ?_ (fun h' tk' o' F' N' hD' => ?_)); rotate_left; (clear lF' lN'); rotate_right)))) | ((with_reducible show wpAny _ _ (exec (Stmt.For (Expr.Name _ _) (Expr.Name _ _) (_ :: _) [] _) _) _ _ _); (first | with_reducible ((k_here; (rename Fr _ _ _ _ => lF'); (with_unfolding_all refine' For_invVF lF' ?k1 ?k2 ?_; (case k1 => exact rfl); (case k2 => exact rfl); k_whole))) | k_dflt ((k_here; (rename Fr _ _ _ _ => lF'); (with_unfolding_all refine' For_invVF lF' ?k1 ?k2 ?_; (case k1 => exact rfl); (case k2 => exact rfl); k_whole))))) | fail "none")) | (with_reducible ((with_reducible show wpAny _ _ (pyIter (Value.str _ _)) _ _ _); (((with_reducible show wpAny _ _ (pyIter (Value.str _ _)) (fun it s₂ => LoopAtV _ _ _ _ _ _ _ _ _ it s₂) _ _); (rename Fr _ _ _ _ => lF'); (rename News _ _ _ _ => lN'); (rename RowIs _ _ _ => lR'); (k_dflt (refine' iter_pop (pp := Str.ofString "popped") ?hpx (digs_lt _ _) ?hh lF' (news_pick lN') ?hp ?R (figs_len _ _).symm (figs_le8 _ _) ?hkr (fun I' d' done' c' u' v' T' ta' tb' xs' q' rest' it' h' tk' hit' hrest' hxs' hdn' hT' hI' F' N' => ?_) (fun q' u' v' h' tk' F' N' => ?_); (case hpx => decide); (case hh => exact rfl); (case hp => exact rfl); (case R => exact RowIs.mono (fun p hp => .tail _ (.tail _ (.tail _ (List.mem_append_right _ hp)))) lR'); (case hkr => exact pick_off lN' (by assumption)))); (all_goals clear lF' lN'))))) | (with_reducible ((with_reducible show wpAny _ _ (pyIter (Value.ref _)) _ _ _); (((with_reducible show wpAny _ _ (pyIter (Value.ref _)) (fun it s₂ => LoopAtV _ _ _ _ _ _ _ _ _ it s₂) _ _); (rename Fr _ _ _ _ => lF'); (rename News _ _ _ _ => lN'); (rename StrsAre _ _ => lS'); (k_dflt (refine iter_push (by rfl) lF' lN' lS' (figs_le8 _ _) (by assumption) (fun I' d' u' xs' q' rest' it' h' tk' hit' hrest' hxs' hI' F' N' => ?_) (fun xs' q' tups' u' h' tk' R' hc' F' N' => ?_))); (all_goals clear lF' lN'); (all_goals (first | (fail_if_success (rename RowIs _ _ _ => zz')) | ((k_dflt (have hkr2' := keep_off (by assumption) N' hc')); (dsimp only [List.cons_append, List.nil_append] at N' hkr2'); (k_dflt (have hkr3' := tail2 hkr2')); (k_dflt (have h107' := tail_off (by assumption) N' hc'))))))))) | (with_reducible ((with_reducible show wpAny _ _ (binaryOp Operator.Add (Value.str _ _) (Value.str _ _)) _ _ _); (first | with_reducible ((k_here; (with_reducible show wpAny _ _ (binaryOp _ (Value.str (Txt.mul _ _) _) (Value.str _ _)) _ _ _); (refine lit_add (padG (by first | rfl | assumption) (by assumption) (by assumption)) (by size_fits) ?_; intro _ _))) | k_dflt ((k_here; (with_reducible show wpAny _ _ (binaryOp _ (Value.str (Txt.mul _ _) _) (Value.str _ _)) _ _ _); (refine lit_add (padG (by first | rfl | assumption) (by assumption) (by assumption)) (by size_fits) ?_; intro _ _)))))) | (with_reducible ((with_reducible show wpAny _ _ (binaryOp Operator.Add (Value.str _ _) (Value.str _ _)) _ _ _); (first | with_reducible ((k_here; (with_reducible show wpAny _ _ (binaryOp _ (Value.str (tx _) _) (Value.str (sg _) _)) _ _ _); (refine tx_add (by assumption) ?_; intro _ _))) | k_dflt ((k_here; (with_reducible show wpAny _ _ (binaryOp _ (Value.str (tx _) _) (Value.str (sg _) _)) _ _ _); (refine tx_add (by assumption) ?_; intro _ _)))))) | (with_reducible ((with_reducible show wpAny _ _ (getMethod (Value.ref _) _ _) _ _ _); ((k_here; k_dflt (refine' method_rowK ?k2 ?k3 ?k4 ?k5 ?k6 ?k7 ?k8 ?k9 ?_; (case k2 => k_in); (case k3 => k_inst); (case k4 => k_is); (case k5 => k_is); (case k6 => k_is); (case k7 => k_is); (case k8 => decide +kernel); (case k9 => k_get); k_whole))))) | (with_reducible ((with_reducible show wpAny _ _ (callWith _ (Value.ref _) _ _ _) _ _ _); ((k_here; k_dflt ((refine' callWith_B0 ?k1 ?k2 ?k3 ?_; (case k1 => k_asm); (case k2 => k_mem); (case k3 => first | exact .inl rfl | exact .inr rfl); k_whole); (try dsimp only [List.nil_append, List.cons_append])))))) | (with_reducible ((with_reducible show wpAny _ _ (getMethod (Value.ref _) _ _) _ _ _); ((k_here; k_dflt (first | (refine' sup_any (id := "list.__init__") ?k1 ?k2 ?k3 ?k4 ?k5 ?k6 ?k7 ?k8 ?k9 ?k10 ?k11 ?k12 ?k13 ty_init get_wrap ?k14 (get_init _) ?_; (case k1 => k_asm); (case k2 => k_asm); (case k3 => (first | assumption | exact ZIn.keeps (by assumption) (Fr.keep (by assumption)) | exact ZIn.keeps (ZIn.keeps (by assumption) (Fr.keep (by assumption))) (Fr.keep (by assumption)))); (case k4 => k_asm); (case k5 => k_mem); (case k6 => k_inst); (case k7 => rfl); (case k8 => exact Nat.le_of_ble_eq_true rfl); (case k9 => exact Nat.le_of_ble_eq_true rfl); (case k10 => k_is); (case k11 => k_is); (case k12 => rfl); (case k13 => ks_is); (case k14 => decide); k_whole) | (refine' sup_any (id := "list.__len__") ?k1 ?k2 ?k3 ?k4 ?k5 ?k6 ?k7 ?k8 ?k9 ?k10 ?k11 ?k12 ?k13 ty_len get_wrap ?k14 (get_len _) ?_; (case k1 => k_asm); (case k2 => k_asm); (case k3 => (first | assumption | exact ZIn.keeps (by assumption) (Fr.keep (by assumption)) | exact ZIn.keeps (ZIn.keeps (by assumption) (Fr.keep (by assumption))) (Fr.keep (by assumption)))); (case k4 => k_asm); (case k5 => k_mem); (case k6 => k_inst); (case k7 => rfl); (case k8 => exact Nat.le_of_ble_eq_true rfl); (case k9 => exact Nat.le_of_ble_eq_true rfl); (case k10 => k_is); (case k11 => k_is); (case k12 => rfl); (case k13 => ks_is); (case k14 => decide); k_whole) | (refine' sup_any (id := "list.pop") ?k1 ?k2 ?k3 ?k4 ?k5 ?k6 ?k7 ?k8 ?k9 ?k10 ?k11 ?k12 ?k13 ty_pop get_meth ?k14 (get_pop _) ?_; (case k1 => k_asm); (case k2 => k_asm); (case k3 => (first | assumption | exact ZIn.keeps (by assumption) (Fr.keep (by assumption)) | exact ZIn.keeps (ZIn.keeps (by assumption) (Fr.keep (by assumption))) (Fr.keep (by assumption)))); (case k4 => k_asm); (case k5 => k_mem); (case k6 => k_inst); (case k7 => rfl); (case k8 => exact Nat.le_of_ble_eq_true rfl); (case k9 => exact Nat.le_of_ble_eq_true rfl); (case k10 => k_is); (case k11 => k_is); (case k12 => rfl); (case k13 => ks_is); (case k14 => decide); k_whole)); intro q' h' t' F' N' e'; (try k_sweep))))) | (with_reducible ((with_reducible show wpAny _ _ (setAttr (Value.ref _) _ _) _ _ _); ((k_here; k_dflt ((refine' set_row ?k1 ?k2 ?k3 ?k4 ?k5 ?k6 ?k7 ?k8 ?k9 ?k10 ?k11 ?k12 ?k13 ?k14 ?_; (case k1 => k_asm); (case k2 => k_asm); (case k3 => k_asm); (case k4 => k_is); (case k5 => rfl); (case k6 => rfl); (case k7 => k_inst); (case k8 => exact rfl); (case k9 => k_is); (case k10 => k_is); (case k11 => k_get); (case k12 => k_put); (case k13 => k_upd); (case k14 => exact Nat.le_of_ble_eq_true rfl); k_whole); intro h' F' N'; (try k_sweep); (try dsimp only)))))) | ((fail_if_success (fail_if_success (first | (with_reducible show PySem.wpAt _ _ _ _ _ _ _) | (with_reducible show PyProof.Rows.wpAt _ _ _ _ _ _ _)))); with_reducible (first | dsimp only | ((ks_step "exec Return"; k_dflt (refine ks_wpAt_Return_some ?_))) | ((ks_step "eval Call"; k_dflt (refine ks_wpAt_MethodCall ?_))) | ((ks_step "exec Expr"; k_dflt (refine ks_wpAt_Expr_any ?_))) | fail "none")) | (k_end; kc_close) | walk1 | (dsimp only; walk1) | (leave1; (try dsimp only)) | fail "no step")
  exact hret _ _ _ _ _ _ _ (by assumption) (news_tl (by assumption))
end Mine
end
section
open PySem PySem.W PySem.W.X PySem.Spec PySem.Calls PyProof.Rows
set_option Elab.async false
set_option maxRecDepth 100000
set_option maxHeartbeats 3000000
namespace Mine
noncomputable def EndG (s₁ : Shared) (tabs : List (Addr × Addr)) (r : Result) (s' : Shared) : Prop :=
  r = .ok (.ret (.bool true)) ∧ (∀ b o, (ghostOf s₁.heap tabs).get? b = some o → s'.heap.get? b = some o) ∧ s'.os = s₁.os ∧ AllBare s'.gens ∧ GrownAll tabs s'.heap
theorem post_G {M : Model} {A : Around} {cd : Code} {s s₁ : Shared} {cw : ClaimW} {cl : Str → Option Addr} {mean : ExcName → Option Value} {args : List WData} {tabs : List (Addr × Addr)} (hT : TabsAt tabs s₁.heap) (hr : ∀ x, cw.raises args x = false) (hp : cw.post args (.bool true) args = true)
    (h : codeAny M A cd (EndG s₁ tabs) s) : codeAny M A cd (GoodWG cw cl mean args s₁) s :=
  codeAny_mono h fun r s' ⟨hc, hk, hos, hg, hgr⟩ => by
    have keep : ∀ b o, b ∉ tabs.map (·.2) → s₁.heap.get? b = some o → s'.heap.get? b = some o := fun b o hb e => hk b o (ghost_ne e hb)
    have grown : ∀ b o, b ∈ tabs.map (·.2) → s₁.heap.get? b = some o → isCodeTable s₁.heap b ∧ o = tabObj #[] ∧ ∃ ps, s'.heap.get? b = some (tabObj ps) := fun b o hb e => by
      obtain ⟨q, hq, rfl⟩ := List.mem_map.mp hb
      have e2 := (hT q hq).2
      rw [e] at e2
      exact ⟨((hT q hq).1.tab (hT q hq).2).isCodeTable, Option.some.inj e2, hgr.get q hq⟩
    refine ⟨.inl ⟨_, .bool true, [], hc, hr, .bool _, hp, fun _ => ⟨.nil, fun a ha => nomatch ha⟩⟩, ⟨fun b o e => ?_, fun b o e => ?_⟩, hos, hg⟩
    · by_cases hb : b ∈ tabs.map (·.2)
      · obtain ⟨ht, rfl, ps, hP⟩ := grown b o hb e
        exact .inr (.inl ⟨ht, rfl, #[], ps, rfl, by rw [Array.empty_append]; exact hP⟩)
      · exact .inl (keep b o hb e)
    · by_cases hb : b ∈ tabs.map (·.2)
      · obtain ⟨_, _, ps, hP⟩ := grown b o hb e
        exact ⟨_, hP⟩
      · exact ⟨o, keep b o hb e⟩
theorem tabs7 {as : List Addr} {e : ∀ P, as = (hd.heap_1 P).map (·.1)} {w : World} {h : Heap} (Y : (kmHook hd.heap_1 as e [107]).says w h) : TabsAt [(111, 107)] h := fun q hq => by
  rcases List.mem_singleton.mp hq with rfl
  exact ⟨codeHd_of_K (c := 111) (P := 107) (km_in_of Y) (by kernel_rfl), km_tabs_of Y 107 (.head _)⟩
theorem zghost {w : World} {h : Heap} (hT : TabsAt [(111, 107)] h) (x : (hd.heap_1 w.params).In h) : ZIn w (ghostOf h [(111, 107)]) := ⟨ghost_K hT x (by kernel_rfl)⟩
end Mine
end
section
open PySem PySem.W PySem.W.X PySem.Spec PySem.Calls PyProof.Rows
set_option Elab.async false
set_option maxRecDepth 100000
set_option maxHeartbeats 3000000
namespace Mine
noncomputable def PsOk (ps : Array Value) : Prop := ps = #[] ∨ ∃ c', ps = #[rawInt 50, rawInt 32, .ref c']
section
variable {prog : Program} {w : World} {A : Around} {E : Value → Shared → Prop} {Q : Flow → Shared → Prop} {s : Shared} {env : Env} {h₀ : Heap}
noncomputable def ForG (prog : Program) (w : World) (A : Around) (env : Env) (x : Str) (px : Pos) (body : List Stmt) (Q : Flow → Shared → Prop) (E : Value → Shared → Prop) (xv : Value) (s : Shared) : Prop :=
  wpAny (model prog w) A (pyIter xv) (fun it s₂ => codeAny (model prog w) A (.forLoop (.Name x px) it body [] env) (fun r s' => match r with | .ok f => Q f s' | .error e => cameBackBy (model prog w) A env E e s') s₂) E s
theorem For_G {x : Str} {px pos : Pos} {iter : Expr} {body : List Stmt} (h : wpAny (model prog w) A (eval iter env) (fun xv s₁ => ForG prog w A env x px body Q E xv s₁) E s)
    (hs : ∀ x, foldedSetIterable iter env x = pure x := by intro _; rfl) : wpAny (model prog w) A (exec (.For (.Name x px) iter body [] pos) env) Q E s :=
  wpAny_For h hs
noncomputable def ForEnd (h₀ : Heap) (L I D : Addr) (it lo : Obj) (s : Shared) (f : Flow) (s₃ : Shared) : Prop :=
  (f = .next ∨ f = .cont) ∧ ∃ h' tk g m ps, s₃ = { s with heap := h', toks := tk, gens := g } ∧ Fr h₀ L h' m ∧ News h₀ L h' [(107, tabObj ps), (I, it), (D, lo)] ∧ AllBare g ∧ PsOk ps
theorem for_law {x : Str} {px : Pos} {body : List Stmt} {D : Addr} {lo : Obj} {vs : List Value} {n : Nat} {ps₀ : Array Value} {m₀ : Str → Option Value}
    (hh : A.handled = none) (hx : env.kindOf x = some .local) (hp : (env.scope.kind == .class || (env.scope.kind == .module && env.locals != env.globals)) = false)
    (F : Fr h₀ env.locals s.heap m₀) (N : News h₀ env.locals s.heap [(D, lo), (107, tabObj ps₀)]) (hlc : lo.cls = .type "list") (hld : lo.data = .seq vs.toArray n) (G : AllBare s.gens) (hps : PsOk ps₀)
    (turn : ∀ v ps I it h tk g (m : Str → Option Value), v ∈ vs → PsOk ps → AllBare g → @Ne Nat I 107 → @Ne Nat D 107 → Fr h₀ env.locals h (fun y => if y = x then some v else m y) → News h₀ env.locals h [(107, tabObj ps), (I, it), (D, lo)] →
      wpAny (model prog w) A (execs body env) (ForEnd h₀ env.locals I D it lo { s with heap := h, toks := tk, gens := g }) E { s with heap := h, toks := tk, gens := g })
    (fin : ∀ h tk g m ps, Fr h₀ env.locals h m → News h₀ env.locals h [(107, tabObj ps)] → AllBare g → PsOk ps → Q .next { s with heap := h, toks := tk, gens := g })
    (hE : PassesOwn (model prog w) A env E := by passes_own) : ForG prog w A env x px body Q E (.ref D) s := by
  have hD := N _ (.head _)
  have h7 := N (107, tabObj ps₀) (.tail _ (.head _))
  have hl : s.heap.IsList D vs.toArray := ⟨lo, hD.1, hlc, n, hld⟩
  have hlt : D < s.heap.objs.size := Heap.lt_size hD.1
  have h7lt : 107 < s.heap.objs.size := Heap.lt_size h7.1
  have hne : D ≠ s.heap.objs.size := Nat.ne_of_lt hlt
  have hD7 : @Ne Nat D 107 := news_ne N (.head _) (.tail _ (.head _)) (by rw [hlc]; intro e; cases e)
  have hLlt : env.locals < s.heap.objs.size := F.ns.lt
  have hnew : h₀.get? s.heap.objs.size = none := next_is_new F
  refine wpAny_pyIter_list hl ?_
  have W := Walks.list (prog := prog) (w := w) hh s.heap.objs.size D hne vs.toArray
  have hlen : vs.toArray.size = vs.length := by simp
  rw [hlen] at W
  refine codeAny_forLoop
    (fun k s' => ∃ h' tk g m ps i, s' = { s with heap := h', toks := tk, gens := g } ∧ (h'.IsListIter s.heap.objs.size D i ∧ h'.IsList D vs.toArray) ∧ Fr h₀ env.locals h' m ∧ News h₀ env.locals h' [(107, tabObj ps), (D, lo)] ∧ AllBare g ∧ PsOk ps ∧ i ≤ vs.length ∧ k = vs.length + 1 - i) ?_ (vs.length + 1)
    ⟨_, s.toks, s.gens, m₀, ps₀, 0, rfl, ⟨⟨_, Heap.get?_push_size _ rfl, rfl, rfl⟩, hl.at fun o e => Heap.get?_push_of_some _ e⟩, F.push _, (fun p hp => ?_), G, hps, Nat.zero_le _, rfl⟩
  · rintro k s' ⟨h', tk, g, m, ps, i, rfl, hst, F', N', G', P', hi, rfl⟩
    have nI : ∀ b o, h₀.get? b = some o → b ∉ [s.heap.objs.size] := fun b o e hb => by rw [List.mem_singleton.mp hb, hnew] at e; cases e
    have next : ∀ h₁ : Heap, (∀ b o, b ∉ [s.heap.objs.size] → h'.get? b = some o → h₁.get? b = some o) → Fr h₀ env.locals h₁ m ∧ News h₀ env.locals h₁ [(107, tabObj ps), (D, lo)] := fun h₁ hk₁ =>
      ⟨⟨F'.ns.at' fun o e => hk₁ _ o (fun hb => absurd (List.mem_singleton.mp hb) (Nat.ne_of_lt hLlt)) e, fun b o e => hk₁ b o (nI b o e) (F'.keep b o e), F'.above⟩, fun p hp => ⟨hk₁ _ _ (fun hb => by
        have hb := List.mem_singleton.mp hb
        rcases List.mem_cons.mp hp with rfl | hp
        · exact absurd hb (Nat.ne_of_lt h7lt)
        rcases List.mem_cons.mp hp with rfl | hp
        · exact absurd hb hne
        · cases hp) (N' p hp).1, (N' p hp).2⟩⟩
    by_cases hlti : i < vs.length
    · refine W.item i _ _ _ hlti hst fun v h₁ tk₁ hP hst₁ hk₁ => ?_
      obtain ⟨F₁, N₁⟩ := next h₁ hk₁
      refine wpAny_assign_Name (wpAny_storeName_local hx F₁.ns (fun h₂ hn₂ hs₂ => ?_) hp)
      have F₂ := F₁.set hn₂ hs₂
      have N₂ : News h₀ env.locals h₂ [(107, tabObj ps), (D, lo)] := N₁.set hs₂
      have hst₂ : h₂.IsListIter s.heap.objs.size D (i + 1) ∧ h₂.IsList D vs.toArray := W.frame _ _ _ hst₁ fun b hb o e => (hs₂.2 b fun q => by
        rcases List.mem_cons.mp hb with hb | hb
        · rw [q] at hb; exact absurd hb (Nat.ne_of_lt hLlt)
        · have hb := List.mem_singleton.mp hb
          rw [hb] at q; exact hD.2.1 q).trans e
      obtain ⟨it, hit, hic⟩ := hst₂.1
      have N₃ : News h₀ env.locals h₂ [(107, tabObj ps), (s.heap.objs.size, it), (D, lo)] := fun p hp => by
        rcases List.mem_cons.mp hp with rfl | hp
        · exact N₂ _ (.head _)
        rcases List.mem_cons.mp hp with rfl | hp
        · exact ⟨hit, Nat.ne_of_gt hLlt, hnew⟩
        rcases List.mem_cons.mp hp with rfl | hp
        · exact N₂ _ (.tail _ (.head _))
        · cases hp
      have hv : v ∈ vs := by
        have : vs[i]? = some v := by simpa using hP
        exact List.mem_of_getElem? this
      refine wpAny_mono (wpAny_passesOwn hE (turn v ps s.heap.objs.size it h₂ _ g m hv P' G' (Nat.ne_of_gt h7lt) hD7 F₂ N₃)) (fun f s₃ h₃ => ?_) fun _ _ e => e
      obtain ⟨hf, h4, tk4, g4, m4, ps4, rfl, F4, N4, G4, P4⟩ := h₃
      have e1 := (N4 _ (.tail _ (.head _))).1
      have e2 := (N4 (D, lo) (.tail _ (.tail _ (.head _)))).1
      have key : ∃ m_1, m_1 < vs.length + 1 - i ∧ ∃ h' tk g m ps i, ({ s with heap := h4, toks := tk4, gens := g4 } : Shared) = { s with heap := h', toks := tk, gens := g } ∧ (h'.IsListIter s.heap.objs.size D i ∧ h'.IsList D vs.toArray) ∧ Fr h₀ env.locals h' m ∧ News h₀ env.locals h' [(107, tabObj ps), (D, lo)] ∧ AllBare g ∧ PsOk ps ∧ i ≤ vs.length ∧ m_1 = vs.length + 1 - i :=
        ⟨vs.length + 1 - (i + 1), by omega, h4, tk4, g4, m4, ps4, i + 1, rfl, ⟨⟨it, e1, hic⟩, ⟨lo, e2, hlc, n, hld⟩⟩, F4, news_sub N4 (fun p hp => by
          rcases List.mem_cons.mp hp with rfl | hp
          · exact .head _
          · exact .tail _ (.tail _ hp)), G4, P4, hlti, rfl⟩
      rcases hf with rfl | rfl
      · exact key
      · exact key
    · have hi' : i = vs.length := by omega
      subst hi'
      refine W.done _ _ _ hst fun h₁ tk₁ hk₁ => ?_
      obtain ⟨F₁, N₁⟩ := next h₁ hk₁
      exact wpAny_execs_nil (fin h₁ tk₁ g m ps F₁ (news_sub N₁ fun p hp => by
        rw [List.mem_singleton.mp hp]; exact .head _) G' P')
  · rcases List.mem_cons.mp hp with rfl | hp
    · exact ⟨Heap.get?_push_of_some _ h7.1, h7.2⟩
    rcases List.mem_cons.mp hp with rfl | hp
    · exact ⟨Heap.get?_push_of_some _ hD.1, hD.2⟩
    · cases hp
end
end Mine
end
section
open PySem PySem.W PySem.W.X PySem.Spec PySem.Calls PyProof.Rows
set_option Elab.async false
set_option maxRecDepth 100000
set_option maxHeartbeats 3000000
namespace Mine
theorem itn_le {odd : Bool} {l : Nat} (h : l ≤ 9999) : ∀ k, itn odd k l ≤ 9999
  | 0 => h
  | k + 1 => nx_le odd _
section
variable {prog : Program} {w : World} {A : Around} {E : Value → Shared → Prop} {Q : Flow → Shared → Prop} {s : Shared} {env : Env} {h₀ : Heap} {L : Addr}
noncomputable abbrev frameW (l k : Nat) (t1 t2 : Tok) (u m₀ : Str → Option Value) : Str → Option Value :=
  fun z => if z = Str.ofString "line" then some (.int (l : Int) t1) else if z = Str.ofString "steps" then some (.int (k : Int) t2) else if z = Str.ofString "told" then u z else if z = Str.ofString "after" then u z else m₀ z
noncomputable def WS (h₀ : Heap) (L : Addr) (m₀ : Str → Option Value) (news : List (Addr × Obj)) (l k : Nat) (s s₃ : Shared) : Prop :=
  ∃ h' tk g m' ps t1 t2, s₃ = { s with heap := h', toks := tk, gens := g } ∧ Fr h₀ L h' m' ∧ News h₀ L h' ((107, tabObj ps) :: news) ∧ AllBare g ∧ PsOk ps ∧ m' (Str.ofString "line") = some (.int (l : Int) t1) ∧ m' (Str.ofString "steps") = some (.int (k : Int) t2) ∧
    (∀ z, z ≠ Str.ofString "line" → z ≠ Str.ofString "steps" → z ≠ Str.ofString "told" → z ≠ Str.ofString "after" → m' z = m₀ z)
noncomputable def TurnPost (h₀ : Heap) (L : Addr) (m₀ : Str → Option Value) (news : List (Addr × Obj)) (odd : Bool) (l k : Nat) (s : Shared) (f : Flow) (s₃ : Shared) : Prop :=
  match f with
  | .ret _ => False
  | .brk => nx odd l = l ∧ WS h₀ L m₀ news l k s s₃
  | _ => nx odd l ≠ l ∧ WS h₀ L m₀ news (nx odd l) (k + 1) s s₃
theorem frame_eq {l k : Nat} {t1 t2 : Tok} {m' m₀ : Str → Option Value} (h1 : m' (Str.ofString "line") = some (.int (l : Int) t1)) (h2 : m' (Str.ofString "steps") = some (.int (k : Int) t2))
    (h3 : ∀ z, z ≠ Str.ofString "line" → z ≠ Str.ofString "steps" → z ≠ Str.ofString "told" → z ≠ Str.ofString "after" → m' z = m₀ z) : m' = frameW l k t1 t2 m' m₀ := funext fun z => by
  unfold frameW
  by_cases a : z = Str.ofString "line"
  · rw [if_pos a, a, h1]
  rw [if_neg a]
  by_cases b : z = Str.ofString "steps"
  · rw [if_pos b, b, h2]
  rw [if_neg b]
  by_cases c : z = Str.ofString "told"
  · rw [if_pos c]
  rw [if_neg c]
  by_cases d : z = Str.ofString "after"
  · rw [if_pos d]
  rw [if_neg d]
  exact h3 z a b c d
theorem while_law {test : Expr} {body : List Stmt} {pos : Pos} {odd : Bool} {l0 : Nat} {m : Str → Option Value} {news : List (Addr × Obj)} {ps₀ : Array Value} {t1 t2 : Tok}
    (F : Fr h₀ L s.heap m) (N : News h₀ L s.heap ((107, tabObj ps₀) :: news)) (G : AllBare s.gens) (hps : PsOk ps₀) (h1 : m (Str.ofString "line") = some (.int (l0 : Int) t1)) (h2 : m (Str.ofString "steps") = some (.int 0 t2)) (hl0 : l0 ≤ 9999)
    (turn : ∀ l k t1 t2 ps u h tk g, l ≤ 9999 → k ≤ 7 → PsOk ps → AllBare g → Fr h₀ L h (frameW l k t1 t2 u m) → News h₀ L h ((107, tabObj ps) :: news) →
      wpAny (model prog w) A (isTrue test env (eval test env)) (fun b s₂ => if b = true then wpAny (model prog w) A (execs body env) (TurnPost h₀ L m news odd l k { s with heap := h, toks := tk, gens := g }) E s₂ else False) E { s with heap := h, toks := tk, gens := g })
    (fin' : ∀ k t1 t2 ps u h tk g, k ≤ 7 → PsOk ps → AllBare g → Fr h₀ L h (frameW (fin odd l0) k t1 t2 u m) → News h₀ L h ((107, tabObj ps) :: news) → Q .next { s with heap := h, toks := tk, gens := g })
    (hE : PassesOwn (model prog w) A env E := by passes_own) : wpAny (model prog w) A (exec (.While test body [] pos) env) Q E s := by
  refine wpAny_While (codeAny_whileLoop (fun n s' => ∃ k, n = 8 - k ∧ k ≤ 7 ∧ WS h₀ L m news (itn odd k l0) k s s') ?_ 8 ⟨0, rfl, by decide, s.heap, s.toks, s.gens, m, ps₀, t1, t2, rfl, F, N, G, hps, h1, h2, fun _ _ _ _ _ => rfl⟩)
  rintro n s' ⟨k, rfl, hk, h', tk, g, m', ps, u1, u2, rfl, F', N', G', P', e1, e2, e3⟩
  rw [frame_eq e1 e2 e3] at F'
  refine wpAny_mono (turn (itn odd k l0) k u1 u2 ps m' h' tk g (itn_le hl0 k) hk P' G' F' N') (fun b s₂ h₂ => ?_) hE
  cases b with
  | false => simp only [Bool.false_eq_true, if_false] at h₂
  | true =>
    simp only [if_true] at h₂ ⊢
    refine wpAny_mono h₂ (fun f s₃ h₃ => ?_) hE
    have step : nx odd (itn odd k l0) ≠ itn odd k l0 ∧ WS h₀ L m news (nx odd (itn odd k l0)) (k + 1) { s with heap := h', toks := tk, gens := g } s₃ → ∃ m_1, m_1 < 8 - k ∧ ∃ k, m_1 = 8 - k ∧ k ≤ 7 ∧ WS h₀ L m news (itn odd k l0) k s s₃ := by
      rintro ⟨hn, h4, tk4, g4, m4, ps4, v1, v2, rfl, r⟩
      have hk7 : k ≠ 7 := fun e => by subst e; exact no_eight hn
      exact ⟨8 - (k + 1), by omega, k + 1, rfl, by omega, h4, tk4, g4, m4, ps4, v1, v2, rfl, r⟩
    cases f with
    | ret v => exact h₃.elim
    | brk =>
      obtain ⟨hn, h4, tk4, g4, m4, ps4, v1, v2, rfl, F4, N4, G4, P4, a1, a2, a3⟩ := h₃
      rw [at_end hk hn] at a1
      rw [frame_eq a1 a2 a3] at F4
      exact fin' k v1 v2 ps4 m4 h4 tk4 g4 hk P4 G4 F4 N4
    | next => exact step h₃
    | cont => exact step h₃
end
end Mine
end
section
open PySem PySem.W PySem.W.X PySem.Spec PySem.Calls PyProof.Rows
set_option Elab.async false
set_option maxRecDepth 100000
set_option maxHeartbeats 3000000
namespace Mine
section
variable {w : World} {p : Program} {loose : List Str} {mean : ExcName → Option Value} {mg mb : Str → Option Value} {dp un : Nat} {gd : Option (List Code)} {cn : Str} {cs : Scope} {a : Addr} {ccd : Value} {cl : List (Str × Addr)} {outer : List Env} {A₀ : Around} {base h₀ : Heap} {L : Addr} {m : Str → Option Value} {s : Shared} {Q E : Value → Shared → Prop}
  {news : List (Addr × Obj)} {l : Nat} {odd : Bool} {tl : Tok} {ps : Array Value}
theorem endC (B : Below A₀ base outer h₀) (F : Fr h₀ L s.heap m) (X : (hd.heap_1 w.params).In h₀) (Z : ZIn w h₀) (N : News h₀ L s.heap news) (T : Top p loose mean mg mb h₀) (hk : cs.kind = .function) (hdp : dp ≤ 310) (hun : un ≤ 40) (hl : l ≤ 9999)
    (hret : ∀ t h' tk', Fr h₀ L h' m → News h₀ L h' news → Q (.int ((fin odd l : Nat) : Int) t) { s with heap := h', toks := tk' }) :
    wpAny (model P w) (ktrTop dp un gd cn cs L a ccd cl outer) (call (.ref 210) [.int (l : Int) tl, .bool odd]) Q E s := by
  cases odd with
  | true => exact endT w p loose mean mg mb dp un gd cn cs a ccd cl outer A₀ base h₀ L m s Q E news (l : Int) l tl B F X Z N T hk hdp hun rfl hl hret
  | false => exact endF w p loose mean mg mb dp un gd cn cs a ccd cl outer A₀ base h₀ L m s Q E news (l : Int) l tl B F X Z N T hk hdp hun rfl hl hret
theorem dueC (B : Below A₀ base outer h₀) (F : Fr h₀ L s.heap m) (X : (hd.heap_1 w.params).In h₀) (Z : ZIn w h₀) (N : News h₀ L s.heap news) (T : Top p loose mean mg mb h₀) (hk : cs.kind = .function) (hdp : dp ≤ 310) (hun : un ≤ 40) (hl0 : 1 ≤ l) (hl : l ≤ 9999)
    (hret : ∀ D T Em H1 H2 t1 t2 t3 t4 t5 t6 t7 n h' tk', Fr h₀ L h' m → News h₀ L h' ((D, PySem.W.listOf #[.int (wid odd l) t1, .ref T, .bool true, .ref Em] n) :: (Em, tupOf [.str (Str.ofString "") t2, .str (Str.ofString "") t3]) :: (T, tupOf [.ref H1, .ref H2]) :: (H2, tupOf [.str (Str.ofString "h") t4, .int (rise odd l) t5]) :: (H1, tupOf [.str (Str.ofString "h") t6, .int (rise odd l) t7]) :: news) → Q (.ref D) { s with heap := h', toks := tk' }) :
    wpAny (model P w) (ktrTop dp un gd cn cs L a ccd cl outer) (call (.ref 205) [.int (l : Int) tl, .bool odd]) Q E s := by
  cases odd with
  | true => exact dueT w p loose mean mg mb dp un gd cn cs a ccd cl outer A₀ base h₀ L m s Q E news (l : Int) l tl B F X Z N T hk hdp hun rfl hl0 hl hret
  | false => exact dueF w p loose mean mg mb dp un gd cn cs a ccd cl outer A₀ base h₀ L m s Q E news (l : Int) l tl B F X Z N T hk hdp hun rfl hl0 hl hret
theorem dueZ (B : Below A₀ base outer h₀) (F : Fr h₀ L s.heap m) (X : (hd.heap_1 w.params).In h₀) (Z : ZIn w h₀) (N : News h₀ L s.heap news) (T : Top p loose mean mg mb h₀) (hk : cs.kind = .function) (hdp : dp ≤ 310) (hun : un ≤ 40) (hl : l = 0)
    (hret : ∀ D t n h' tk', Fr h₀ L h' m → News h₀ L h' ((D, PySem.W.listOf #[.int 0 t] n) :: news) → Q (.ref D) { s with heap := h', toks := tk' }) :
    wpAny (model P w) (ktrTop dp un gd cn cs L a ccd cl outer) (call (.ref 205) [.int (l : Int) tl, .bool odd]) Q E s :=
  due0 w p loose mean mg mb dp un gd cn cs a ccd cl outer A₀ base h₀ L m s Q E news (l : Int) tl odd B F X Z N T hk hdp hun (by omega) hret
theorem toldC (B : Below A₀ base outer h₀) (F : Fr h₀ L s.heap m) (X : (hd.heap_1 w.params).In h₀) (Z : ZIn w h₀) (N : News h₀ L s.heap ((107, tabObj ps) :: news)) (T : Top p loose mean mg mb h₀) (hk : cs.kind = .function) (hdp : dp ≤ 303) (hun : un ≤ 10) (hl : l ≤ 9999) (hps : PsOk ps) (hn7 : ∀ p ∈ news, @Ne Nat p.1 107) (G : AllBare s.gens)
    (hret0 : ∀ D R v1 v2 n h' tk', l = 0 → Fr h₀ L h' m → News h₀ L h' ((D, tupOf [.ref R, .int 0 v1]) :: (R, PySem.W.listOf #[.int 0 v2] n) :: (107, tabObj ps) :: news) → Q (.ref D) { s with heap := h', toks := tk' })
    (hret : ∀ D R Em Lo H v1 v2 v3 v4 v5 v6 n ps' h' g' tk', 1 ≤ l → PsOk ps' → AllBare g' → Fr h₀ L h' m → News h₀ L h' ((D, tupOf [.ref R, .int ((nx odd l : Nat) : Int) v1]) :: (R, PySem.W.listOf #[.int (wid odd l) v2, .ref Lo, .bool true, .ref Em] n) :: (Em, tupOf [.str (Str.ofString "") v3, .str (Str.ofString "") v4]) :: (Lo, tupOf [.ref H, .ref H]) :: (H, tupOf [.str (Str.ofString "h") v5, .int (rise odd l) v6]) :: (107, tabObj ps') :: news) → Q (.ref D) { s with heap := h', gens := g', toks := tk' }) :
    wpAny (model P w) (ktrTop dp un gd cn cs L a ccd cl outer) (call (.ref 200) [.int (l : Int) tl, .bool odd]) Q E s := by
  by_cases h0 : l = 0
  · exact told0 w p loose mean mg mb dp un gd cn cs a ccd cl outer A₀ base h₀ L m s Q E _ (l : Int) tl odd B F X Z N T hk hdp hun (by omega) fun D R v1 v2 n h' tk' F' N' => hret0 D R v1 v2 n h' tk' h0 F' N'
  · exact told w p loose mean mg mb dp un gd cn cs a ccd cl outer A₀ base h₀ L m s Q E news (l : Int) l tl odd ps B F X Z N T hk hdp hun rfl (by omega) hl hps hn7 fun D R Em Lo H v1 v2 v3 v4 v5 v6 n c' h' g' tk' F' N' hG => hret D R Em Lo H v1 v2 v3 v4 v5 v6 n _ h' g' tk' (by omega) (.inr ⟨c', rfl⟩) (hG G) F' N'
end
noncomputable def ItemOk (v : Value) : Prop := ∃ (n : Nat) (t : Tok), v = .int (n : Int) t ∧ n < 20000
theorem car_ok : ∀ {ys : List Value} {l : List Int}, CarriedAll ys (l.map fun a => PyData.int (a.fmod 20000)) → ∀ v ∈ ys, ItemOk v
  | _, [], .nil, _, hv => nomatch hv
  | _, a :: l, .cons (.int _ t) r, v, hv => by
    rcases List.mem_cons.mp hv with rfl | hv
    · have h1 := Int.fmod_nonneg_of_pos a (show (0 : Int) < 20000 by decide)
      have h2 := Int.fmod_lt_of_pos a (show (0 : Int) < 20000 by decide)
      exact ⟨(a.fmod 20000).toNat, t, by rw [Int.toNat_of_nonneg h1], by omega⟩
    · exact car_ok r v hv
section
variable {prog : Program} {w : World} {A : Around} {E : Value → Shared → Prop} {s : Shared} {h₀ : Heap} {L : Addr} {m : Str → Option Value}
theorem add_law {Q : Value → Shared → Prop} {l D : Addr} {a b c : Tok} {n : Nat} {led : List (Addr × Obj)} {ys : List Value} {ns : List Int} (F : Fr h₀ L s.heap m) (N : News h₀ L s.heap led) (hm : (l, PySem.W.listOf #[.int 4222 a, .int 20 b, .int 21 c] n) ∈ led) (hb : s.heap.IsList D ys.toArray)
    (hc : CarriedAll ys (List.map (fun a => PyData.int (a.fmod 20000)) (List.filter (fun _ => true) (List.take 3 ns))))
    (h : ∀ X vs h', Fr h₀ L h' m → News h₀ L h' ((X, { cls := .type "list", data := .seq (List.toArray vs) }) :: led) → (∀ v ∈ vs, ItemOk v) → Q (.ref X) { s with heap := h' }) :
    wpAny (model prog w) A (binaryOp .Add (.ref l) (.ref D)) Q E s := by
  have hl : s.heap.IsList l #[.int 4222 a, .int 20 b, .int 21 c] := ⟨_, (N _ hm).1, rfl, _, rfl⟩
  have hlen : ys.length ≤ 3 := by
    rw [hc.length_eq, List.length_map]
    have := List.length_filter_le (fun _ => true) (List.take 3 ns)
    have := List.length_take_le 3 ns
    omega
  refine add_arrays F N hl hb (fun h' F' N' => h _ _ h' F' N' fun v hv => ?_) (by simp only [List.size_toArray, PySem.sizeLine_eq]; show 3 + ys.length ≤ _; omega)
  rcases List.mem_append.mp hv with hv | hv
  · simp only [List.mem_cons, List.not_mem_nil, or_false] at hv
    rcases hv with rfl | rfl | rfl
    · exact ⟨4222, a, rfl, by decide⟩
    · exact ⟨20, b, rfl, by decide⟩
    · exact ⟨21, c, rfl, by decide⟩
  · exact car_ok hc v hv
end
section
variable {prog : Program} {w : World} {A : Around} {E : Value → Shared → Prop} {Q : Flow → Shared → Prop} {s : Shared} {env : Env} {h₀ : Heap}
theorem for_lawN {x : Str} {px : Pos} {body : List Stmt} {D : Addr} {vs : List Value} {n : Nat} {ps₀ : Array Value} {m₀ : Str → Option Value} {b c : Addr × Obj}
    (hh : A.handled = none) (hx : env.kindOf x = some .local) (hp : (env.scope.kind == .class || (env.scope.kind == .module && env.locals != env.globals)) = false)
    (F : Fr h₀ env.locals s.heap m₀) (N : News h₀ env.locals s.heap [(D, { cls := .type "list", data := .seq (List.toArray vs) n }), b, c, (107, tabObj ps₀)]) (G : AllBare s.gens) (hps : PsOk ps₀) (hok : ∀ v ∈ vs, ItemOk v)
    (turn : ∀ (xn : Nat) t ps I it h tk g (m : Str → Option Value), xn < 20000 → PsOk ps → AllBare g → @Ne Nat I 107 → @Ne Nat D 107 → Fr h₀ env.locals h (fun y => if y = x then some (.int (xn : Int) t) else m y) → News h₀ env.locals h [(107, tabObj ps), (I, it), (D, { cls := .type "list", data := .seq (List.toArray vs) n })] →
      wpAny (model prog w) A (execs body env) (ForEnd h₀ env.locals I D it { cls := .type "list", data := .seq (List.toArray vs) n } { s with heap := h, toks := tk, gens := g }) E { s with heap := h, toks := tk, gens := g })
    (fin : ∀ h tk g m ps, Fr h₀ env.locals h m → News h₀ env.locals h [(107, tabObj ps)] → AllBare g → PsOk ps → Q .next { s with heap := h, toks := tk, gens := g })
    (hE : PassesOwn (model prog w) A env E := by passes_own) : ForG prog w A env x px body Q E (.ref D) s :=
  for_law hh hx hp F (news_sub N fun p hp => by
    rcases List.mem_cons.mp hp with rfl | hp
    · exact .head _
    · exact .tail _ (.tail _ (.tail _ hp))) rfl rfl G hps (fun v ps I it h tk g m hv a b c d F N => by
      obtain ⟨xn, t, rfl, hxn⟩ := hok v hv
      exact turn xn t ps I it h tk g m hxn a b c d F N) fin hE
end
section
variable {prog : Program} {w : World} {A : Around} {E : Value → Shared → Prop} {s : Shared} {Q : Value → Shared → Prop}
theorem half {n : Nat} {t u : Tok} (h : ∀ t' tk, Q (.int ((n / 2 : Nat) : Int) t') { s with toks := tk }) (hn : n < 20000) : wpAny (model prog w) A (binaryOp .FloorDiv (.int (n : Int) t) (.int 2 u)) Q E s := by
  refine floordiv_int (by decide) ?_ (Or.inl (PyProof.noPylong_small (by omega)))
  have e : ((n : Int).fdiv 2) = ((n / 2 : Nat) : Int) := by
    rw [Int.fdiv_eq_ediv_of_nonneg _ (by decide)]; omega
  rw [e]; exact h _ _
end
end Mine
end
section
open PySem PySem.W PySem.W.X PySem.Spec PySem.Calls PyProof.Rows
set_option Elab.async false
set_option maxRecDepth 100000
set_option maxHeartbeats 4000000
namespace Mine
theorem nx0 {odd : Bool} {l : Nat} (h : l = 0) : nx odd l = l := by subst h; exact fix0 odd
section
variable {prog : Program} {w : World} {A : Around} {E : Value → Shared → Prop} {Q : Flow → Shared → Prop} {s : Shared} {env : Env} {h₀ : Heap} {L : Addr}
theorem while_lawO {test : Expr} {body : List Stmt} {pos : Pos} {odd : Bool} {l0 : Nat} {m : Str → Option Value} {news : List (Addr × Obj)} {ps₀ : Array Value} {t1 t2 : Tok}
    (F : Fr h₀ L s.heap m) (N : News h₀ L s.heap ((107, tabObj ps₀) :: news)) (G : AllBare s.gens) (hps : PsOk ps₀) (ho : m (Str.ofString "odd") = some (.bool odd)) (h1 : m (Str.ofString "line") = some (.int (l0 : Int) t1)) (h2 : m (Str.ofString "steps") = some (.int 0 t2)) (hl0 : l0 ≤ 9999)
    (turn : ∀ l k t1 t2 ps u h tk g, l ≤ 9999 → k ≤ 7 → PsOk ps → AllBare g → Fr h₀ L h (frameW l k t1 t2 u m) → News h₀ L h ((107, tabObj ps) :: news) →
      wpAny (model prog w) A (isTrue test env (eval test env)) (fun b s₂ => if b = true then wpAny (model prog w) A (execs body env) (TurnPost h₀ L m news odd l k { s with heap := h, toks := tk, gens := g }) E s₂ else False) E { s with heap := h, toks := tk, gens := g })
    (fin' : ∀ k t1 t2 ps u h tk g, k ≤ 7 → PsOk ps → AllBare g → Fr h₀ L h (frameW (fin odd l0) k t1 t2 u m) → News h₀ L h ((107, tabObj ps) :: news) → Q .next { s with heap := h, toks := tk, gens := g })
    (hE : PassesOwn (model prog w) A env E := by passes_own) : wpAny (model prog w) A (exec (.While test body [] pos) env) Q E s :=
  while_law F N G hps h1 h2 hl0 turn fin' hE
end
theorem to_ktr {α : Type} {M : Model} {cs : Scope} {L fa : Addr} {cd : Value} {t : Sem α} {Q : α → Shared → Prop} {E : Value → Shared → Prop} {s : Shared} (h : wpAny M (ktrTop 302 7 (some []) (Str.ofString "law") cs L fa cd [] []) t Q E s) : wpAny M (callerA.deeper (envOf (Str.ofString "law") cs L fa cd)) t Q E s := h
theorem end_G {s₁ : Shared} {L : Addr} {h : Heap} {m : Str → Option Value} {ps : Array Value} {g : Array GenState} {d : _} {tk : Nat} (F : Fr (ghostOf s₁.heap [(111, 107)]) L h m) (N : News (ghostOf s₁.heap [(111, 107)]) L h [(107, tabObj ps)]) (G : AllBare g) : EndG s₁ [(111, 107)] (.ok (.ret (.bool true))) { heap := h, gens := g, drawn := d, toks := tk, os := s₁.os } :=
  ⟨rfl, F.keep, rfl, G, ⟨ps, (N _ (.head _)).1⟩, trivial⟩
theorem law1 : Challenge.rw_yh0009_01.Holds := by
  apply hd
  intro w s₀ s₁ mg mb G Y fa o pm cd doc dV kV ho hd1 hcd hD hmg hg args vals as hpre hlay hrd hwl hlo
  have KX := km_in_of Y
  have hT9 : TabsAt ([(111, 107)] : List (Addr × Addr)) s₁.heap := tabs7 Y
  have Z := zghost hT9 KX
  revert KX
  k_fill
  intro KX
  have X := (Ground.X G).1
  have V := (Ground.X G).2
  refine Ground.open G ?_
  intro T B D TE TW
  try (refine guard_noD D (by decide +kernel) ?_; clear D)
  clear hmg
  wrow_args hpre hlay hrd hwl hlo
  all_goals (
    first | refine callC_kw (enter_call ?_) | refine enter_call ?_
    w_top on
    refine post_G hT9 (fun _ => rfl) (by first | with_unfolding_all rfl | kernel_rfl) ?_
    w_call any ho hd1 hcd hD T F
    clear hd1
    kn_ghosts F T
    k_drop
    skip)
  all_goals (try k_fold)
  all_goals repeat' (first | (k_unfold; (try dsimp only)) | (k_end; with_reducible (first | ((with_reducible show ForEnd _ _ _ _ _ _ _ _ _); ((k_dflt (first | (exact ⟨.inl rfl, _, _, _, _, _, rfl, by assumption, by ((refine news_sub (by assumption) ?_; intro p hp; (repeat (first | exact hp | refine List.Mem.tail _ ?_)))), by assumption, by assumption⟩) | (exfalso; omega))))) | ((with_reducible show TurnPost _ _ _ _ _ _ _ _ _ _); ((k_dflt (first | (refine ⟨?_, _, _, _, _, _, _, _, rfl, (by assumption), (by ((refine news_sub (by assumption) ?_; intro p hp; (repeat (first | exact hp | refine List.Mem.tail _ ?_))))), (by assumption), (by assumption), rfl, rfl, fun z a b c d => ?_⟩; (focus (first | exact nx0 (by assumption) | omega)); (simp only [if_neg a, if_neg b, if_neg c, if_neg d])) | (exfalso; omega))))) | ((with_reducible show ForG _ _ _ _ _ _ _ _ _ _ _); (((rename Fr _ _ _ _ => lF'); (rename News _ _ _ _ => lN'); (k_dflt (refine for_lawN (by rfl) (by rfl) (by rfl) lF' lN' (AllBare.of_eq (by assumption)) (.inl rfl) (by assumption) (fun xn' t' ps' I' it' h' tk' g' m' hx' hp' hg' hI' hD' F' N' => ?_) (fun h' tk' g' m' ps' F' N' hg' hp' => ?_))); (all_goals clear lF' lN')))) | fail "none")) | ((with_reducible show wpAny _ _ (call _ _ _) _ _ _); with_reducible (first | (((k_here; (with_reducible show wpAny _ _ (call (Value.ref 200) _ _) _ _ _); (refine to_ktr ?_); k_dflt (refine' toldC ?B ?F ?X ?Z ?N ?T ?hk ?hdp ?hun ?hl ?hps ?hn7 ?G ?_ ?_; (case B => k_asm); (case F => k_asm); (case X => k_asm); (case Z => (first | assumption | exact ZIn.keeps (by assumption) (Fr.keep (by assumption)) | exact ZIn.keeps (ZIn.keeps (by assumption) (Fr.keep (by assumption))) (Fr.keep (by assumption)))); (case N => k_asm); (case T => k_asm); (case hk => first | rfl | assumption); (case hdp => exact Nat.le_of_ble_eq_true rfl); (case hun => exact Nat.le_of_ble_eq_true rfl); (case hl => assumption); (case hps => assumption); (case hn7 => k_all); (case G => assumption); k_whole; rotate_left; (intro D' R' Em' Lo' H' v1' v2' v3' v4' v5' v6' n' ps' h' g' tk' hz' hp' hg' F' N'; (try k_sweep)); rotate_left; (intro D' R' v1' v2' n' h' tk' hz' F' N'; (try k_sweep)))))) | (((k_here; (with_reducible show wpAny _ _ (call (Value.ref 205) _ _) _ _ _); (refine to_ktr ?_); k_dflt (first | (refine' dueZ ?B ?F ?X ?Z ?N ?T ?hk ?hdp ?hun ?hl ?_; (case B => k_asm); (case F => k_asm); (case X => k_asm); (case Z => (first | assumption | exact ZIn.keeps (by assumption) (Fr.keep (by assumption)) | exact ZIn.keeps (ZIn.keeps (by assumption) (Fr.keep (by assumption))) (Fr.keep (by assumption)))); (case N => k_asm); (case T => k_asm); (case hk => first | rfl | assumption); (case hdp => exact Nat.le_of_ble_eq_true rfl); (case hun => exact Nat.le_of_ble_eq_true rfl); (case hl => assumption); k_whole; intro D' t' n' h' tk' F' N'; (try k_sweep)) | (refine' dueC ?B ?F ?X ?Z ?N ?T ?hk ?hdp ?hun ?hl0 ?hl ?_; (case B => k_asm); (case F => k_asm); (case X => k_asm); (case Z => (first | assumption | exact ZIn.keeps (by assumption) (Fr.keep (by assumption)) | exact ZIn.keeps (ZIn.keeps (by assumption) (Fr.keep (by assumption))) (Fr.keep (by assumption)))); (case N => k_asm); (case T => k_asm); (case hk => first | rfl | assumption); (case hdp => exact Nat.le_of_ble_eq_true rfl); (case hun => exact Nat.le_of_ble_eq_true rfl); (case hl0 => assumption); (case hl => assumption); k_whole; intro D' T' Em' H1' H2' t1' t2' t3' t4' t5' t6' t7' n' h' tk' F' N'; (try k_sweep)))))) | (((k_here; (with_reducible show wpAny _ _ (call (Value.ref 210) _ _) _ _ _); (refine to_ktr ?_); k_dflt (refine' endC ?B ?F ?X ?Z ?N ?T ?hk ?hdp ?hun ?hl ?_; (case B => k_asm); (case F => k_asm); (case X => k_asm); (case Z => (first | assumption | exact ZIn.keeps (by assumption) (Fr.keep (by assumption)) | exact ZIn.keeps (ZIn.keeps (by assumption) (Fr.keep (by assumption))) (Fr.keep (by assumption)))); (case N => k_asm); (case T => k_asm); (case hk => first | rfl | assumption); (case hdp => exact Nat.le_of_ble_eq_true rfl); (case hun => exact Nat.le_of_ble_eq_true rfl); (case hl => omega); k_whole; intro t' h' tk' F' N'; (try k_sweep))))) | fail "none")) | ((with_reducible show wpAny _ _ (exec _ _) _ _ _); with_reducible (first | ((with_reducible show wpAny _ _ (exec (Stmt.While (Expr.Compare _ _ _ _) (_ :: _) [] _) _) _ _ _); ((k_here; (rename Fr _ _ _ _ => lF'); (rename News _ _ _ _ => lN'); (k_dflt (refine while_lawO lF' lN' (by assumption) (by assumption) (by rfl) (by rfl) (by rfl) (by omega) (fun l' k' t1' t2' ps' u' h' tk' g' hl' hk' hp' hg' F' N' => ?_) (fun k' t1' t2' ps' u' h' tk' g' hk' hp' hg' F' N' => ?_))); (all_goals clear lF' lN'); (all_goals (dsimp only [frameW] at F'))))) | ((with_reducible show wpAny _ _ (exec (Stmt.For _ _ _ _ _) _) _ _ _); (first | with_reducible ((k_here; (with_reducible show wpAny _ _ (exec (Stmt.For (Expr.Name _ _) (Expr.BinOp _ _ _ _) _ [] _) _) _ _ _); refine For_G ?_)) | k_dflt ((k_here; (with_reducible show wpAny _ _ (exec (Stmt.For (Expr.Name _ _) (Expr.BinOp _ _ _ _) _ [] _) _) _ _ _); refine For_G ?_)))) | fail "none")) | (with_reducible ((with_reducible show wpAny _ _ (binaryOp Operator.FloorDiv (Value.int _ _) (Value.int _ _)) _ _ _); ((k_here; k_dflt (refine half ?_ (by assumption); intro _ _))))) | (with_reducible ((with_reducible show wpAny _ _ (binaryOp Operator.Add (Value.ref _) (Value.ref _)) _ _ _); ((k_here; k_dflt (refine' add_law ?F ?N ?hm ?hb ?hc ?_; (case F => k_asm); (case N => k_asm); (case hm => k_mem); (case hb => assumption); (case hc => assumption); k_whole; intro X' vs' h' F' N' hok'))))) | (k_end; kc_close) | walk1 | (dsimp only; walk1) | (leave1; (try dsimp only)) | fail "no step")
  refine' end_G ?F ?N ?G
  case F => assumption
  case N => assumption
  case G => assumption
end Mine
end
theorem PySem.Challenge.cw_yh0009_01_holds : PySem.Challenge.rw_yh0009_01.Holds := by
  exact Mine.law1
