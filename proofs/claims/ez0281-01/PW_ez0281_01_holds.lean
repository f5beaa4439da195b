import PyProof.Rows.All
import Wide.All
import OpenK.AllK
import Wide.FinOn
import PyProof.CallFns
import PyProof.Draws
import PyProof.ZipIter
import KE.KItem
import KE.LcTurns
import KE.KCompText
import KE.KEqDat
import KE.KIntText
import PySem.Challenge.RW_ez0281_01
set_option Elab.async false
set_option maxRecDepth 100000
set_option maxHeartbeats 8000000
section
open PySem PySem.W PyProof.Rows
namespace Mine
open_top hd for PySem.Challenge.rw_ez0281_01
end Mine
end
section
open PySem PySem.W PyProof.Rows PySem.Calls PySem.Spec
namespace Mine

def Tell (w : World) (f : Addr) (d u : Nat) (vs : List Value) (news : List (Addr × Obj)) (Out : Value → List (Addr × Obj) → Prop) : Prop :=
  ∀ (mean : ExcName → Option Value) (mg mb : Str → Option Value) (dp un : Nat) (gd : Option (List Code)) (cn : Str) (cs : Scope) (a : Addr) (ccd : Value) (cl : List (Str × Addr)) (outer : List Env) (A₀ : Around) (base h₀ : Heap) (L : Addr) (m : Str → Option Value) (s : Shared) (Q E : Value → Shared → Prop),
    Below A₀ base outer h₀ → Fr h₀ L s.heap m → (hd.heap_39 w.params).In h₀ → News h₀ L s.heap news → Top hd.view_39 (looseW hd.view_39 [Str.ofString "NMEASentence", Str.ofString "TXT", Str.ofString "_law_signs"]) mean mg mb h₀ → cs.kind = .function →
    dp + d < recursionLimit → un + u < cLine →
    (∀ r tl h' tk', Fr h₀ L h' m → News h₀ L h' (news ++ tl) → (∀ q ∈ news, ∀ p ∈ tl, q.1 < p.1) → Out r tl → Q r { s with heap := h', toks := tk' }) →
    wpAny (model PySem.Challenge.rw_ez0281_01.row.prog w) (ktrTop dp un gd cn cs L a ccd cl outer) (call (.ref f) vs) Q E s

theorem fillK : ∀ P, (hd.heap_39 P) = (hd.heap_39 P) ∧ PySem.Challenge.rw_ez0281_01 = PySem.Challenge.rw_ez0281_01 := fun _ => ⟨rfl, rfl⟩
theorem boot_super : bootBuiltins (Str.ofString "super") = some (.type "super") := by kernel_rfl
end Mine
end
section
open PySem PySem.W PyProof.Rows PySem.Calls PySem.Spec
namespace Mine
theorem slot_wd_get : Slot "wrapper_descriptor" "__get__" "wrapper_descriptor.__get__" := .of (owner := "wrapper_descriptor") (n := "__get__") (by rw [typeLookup_type, builtinLookup_eq_fast]; kernel_rfl) (by decide +kernel) (by decide +kernel) (by decide +kernel)
  (by first | exact .inl (by decide +kernel) | exact .inr (by decide +kernel)) (by rw [isSubtype_type]; kernel_rfl)
theorem entry_wd_get : entryFor table "wrapper_descriptor.__get__" = some Builtin.«wrapper_descriptor.__get__» := entryFor_of_tree (by kernel_rfl)
theorem wd_getArgs (a b c : Value) : argsOk "wrapper_descriptor.__get__" ⟨[a, b, c], []⟩ := by unfold argsOk; kernel_rfl
theorem ty_vi : typeOf (.builtin "ValueError.__init__") = pure (.type "wrapper_descriptor") := by kernel_rfl
abbrev mwObj (id : String) (x : Value) : Obj := { cls := .type "method-wrapper", dict := none, data := .fields #[.builtin id, x], slots := #[] }

section
variable {prog : Program} {w : World} {M : Model} {A : Around} {E : Value → Shared → Prop} {h : Heap} {g : Array GenState} {d : Drawn} {t : Nat} {os : OsState}

theorem m_super_ga {so D x C : Addr} {ox : Obj} {l₀ l : List Value} {K : Frag} {tk : Tok} {Q : PySem.Fin → Shared → Prop}
    (hso : h.get? so = some (ks_superObj D x C)) (hno : Looks (model prog w) h (opaqueClassAbove (.ref C)) none)
    (hC : Looks (model prog w) h (mroOf (.ref C)) l₀) (hl : (l₀.dropWhile (· != .ref D)).drop 1 = l) (X : K.In h)
    (hf : alongIn K (Str.ofString "__init__") l = some (some (.builtin "ValueError.__init__"))) (hx : h.get? x = some ox) (hxc : ox.cls = .ref C) (hsub : Looks (model prog w) h (isSubtype (.ref C) (.type "ValueError")) true) (hxC : x ≠ C)
    (hq : Q (.done (.ret (.ref h.objs.size))) ⟨h.push (mwObj "ValueError.__init__" (.ref x)), g, d, t, os⟩) :
    wpAny (model prog w) A (Builtin.«super.__getattribute__» ⟨[.ref so, .str (Str.ofString "__init__") tk], []⟩) Q E ⟨h, g, d, t, os⟩ := by
  have hlk := slot_wd_get.lookup
  have hne : (Value.ref x == Value.ref C) = false := by simp [hxC]
  have hTf : (⟨h, g, d, t, os⟩ : Shared).TypeIs (.builtin "ValueError.__init__") "wrapper_descriptor" := ty_vi
  have hdt : (ks_superObj D x C).data = .fields #[.ref D, .ref x, .ref C] := rfl
  have f0 : (#[.ref D, .ref x, .ref C] : Array Value)[0]? = some (.ref D) := rfl
  have f1 : (#[.ref D, .ref x, .ref C] : Array Value)[1]? = some (.ref x) := rfl
  have f2 : (#[.ref D, .ref x, .ref C] : Array Value)[2]? = some (.ref C) := rfl
  have hn : ((Str.ofString "__init__") == (Str.ofString "__class__")) = false := by decide +kernel
  unfold Builtin.«super.__getattribute__»
  repeat (first
    | (with_reducible refine wpAny_field hso hdt f0 ?_) | (with_reducible refine wpAny_field hso hdt f1 ?_) | (with_reducible refine wpAny_field hso hdt f2 ?_)
    | (with_reducible refine ks_wpAny_notOpaque hno ?_)
    | (with_reducible refine Looks.at hC ?_; rw [hl])
    | (refine ks_forIn_along X (fun _ _ => rfl) rfl ?_ hf)
    | (with_reducible refine wpAny_typeOf hTf ?_)
    | (with_reducible refine wpAny_call_entry slot_wd_get hTf entry_wd_get ?_ (wd_getArgs _ _ _))
    | (with_reducible refine ⟨_, rfl, ?_⟩)
    | (simp only [hn, hne, Bool.or_false, Bool.false_eq_true, if_false])
    | wp_step
    | dsimp only)
  have e1 : ".".intercalate ("ValueError.__init__".cutAt '.').dropLast = "ValueError" := by decide +kernel
  rw [hxc, e1]
  refine Looks.at hsub ?_
  unfold newFields
  repeat (first | (with_reducible refine wpAny_newObj_type ?_ (by size_fits)) | (with_reducible refine ⟨_, rfl, ?_⟩) | wp_step)
  exact hq

theorem m_getMethod_super {so D x C : Addr} {ox : Obj} {l₀ l : List Value} {K : Frag} {pl : Sem Bool} {Q : Value × List Value → Shared → Prop}
    (hso : h.get? so = some (ks_superObj D x C)) (hno : Looks (model prog w) h (opaqueClassAbove (.ref C)) none)
    (hC : Looks (model prog w) h (mroOf (.ref C)) l₀) (hl : (l₀.dropWhile (· != .ref D)).drop 1 = l) (X : K.In h)
    (hf : alongIn K (Str.ofString "__init__") l = some (some (.builtin "ValueError.__init__"))) (hx : h.get? x = some ox) (hxc : ox.cls = .ref C) (hsub : Looks (model prog w) h (isSubtype (.ref C) (.type "ValueError")) true) (hxC : x ≠ C)
    (hq : Q (.ref h.objs.size, []) ⟨h.push (mwObj "ValueError.__init__" (.ref x)), g, d, t + 1, os⟩) :
    wpAny (model prog w) A (getMethod (.ref so) (Str.ofString "__init__") pl) Q E ⟨h, g, d, t, os⟩ := by
  have hlk := PySem.F.ks_slot_super_ga.lookup
  have hcan := PySem.F.ks_canon_super_ga
  have hT : ∀ t', (⟨h, g, d, t', os⟩ : Shared).TypeIs (.ref so) "super" := fun _ => ⟨_, hso, rfl⟩
  unfold getMethod
  refine wpAny_bind (wpAny_specialOf (hT _) hlk ?_)
  show wpAny _ _ (if (Manifest.canonical "super.__getattribute__" != "object.__getattribute__") = true then _ else _) _ _ _
  rw [if_pos hcan]
  unfold getAttr getAttrBy
  refine wpAny_bind (wpAny_bind (wpAny_mkText (wpAny_holding (wpAny_bind (wpAny_typeOf (hT _) (wpAny_bind (wpAny_of_eq hlk ?_)))))))
  show wpAny _ _ (getAttrByItsOwn (.ref so) (.str (Str.ofString "__init__") t) (.type "super") (.builtin "super.__getattribute__") true false) _ _ _
  unfold getAttrByItsOwn hookBefore callGetattribute boundAndCalled
  refine wpAny_bind (wpAny_of_eq (show (if onTheHeap (.type "super") then typeLookup (.type "super") "__getattr__" else pure none) = pure none from rfl) ?_)
  refine wpAny_bind (wpAny_attempt (wpAny_holding ?_))
  show wpAny _ _ (bindSpecial (.builtin "super.__getattribute__") (.ref so) >>= _) _ _ _
  refine wpAny_bind (wpAny_of_eq (PySem.F.ks_slot_super_ga.bind _) ?_)
  refine wpAny_mono (Q := fun v s' => v = .ref h.objs.size ∧ s' = ⟨h.push (mwObj "ValueError.__init__" (.ref x)), g, d, t + 1, os⟩) (E := fun _ _ => False)
    (wpAny_call_entry PySem.F.ks_slot_super_ga (hT _) PySem.F.ks_entry_super_ga (m_super_ga hso hno hC hl X hf hx hxc hsub hxC ⟨_, rfl, rfl, rfl⟩) (PySem.F.ks_gaArgs_super _ _)) (fun v s' hv => ?_) fun _ _ z => z.elim
  obtain ⟨rfl, rfl⟩ := hv
  exact wpAny_pure (wpAny_pure hq)
end

section
variable {prog : Program} {w : World} {A : Around} {E : Value → Shared → Prop} {s : Shared} {h₀ : Heap} {L : Addr} {m : Str → Option Value} {news : List (Addr × Obj)} {K : Frag} {x C D so : Addr} {ox : Obj} {odx : Option Obj}

theorem m_call_super {Q : Value → Shared → Prop} (F : Fr h₀ L s.heap m) (X₀ : K.In h₀) (N : News h₀ L s.heap news) (I : InstAt s.heap x ox C odx) (hD : (clsIn K D).isSome = true) (hsub : mroIn K C (.ref D) = some true)
    (h : ∀ so h', Fr h₀ L h' m → News h₀ L h' ((so, ks_superObj D x C) :: news) → (∀ p ∈ news, p.1 < so) → Q (.ref so) { s with heap := h' }) :
    wpAny (model prog w) A (call (.type "super") [.ref D, .ref x]) Q E s := by
  have X : K.In s.heap := X₀.keeps F.keep
  obtain ⟨hh, g, d, t, os⟩ := s
  obtain ⟨cdD, hD⟩ := Option.isSome_iff_exists.mp hD
  obtain ⟨oD, hD1, hD2⟩ : ∃ oD, hh.get? D = some oD ∧ oD.data = .cls cdD := by
    unfold clsIn at hD
    split at hD
    · rename_i c d cd' sl ho
      cases hD
      exact ⟨_, X _ _ ho, rfl⟩
    · cases hD
  refine ks_wpAny_call_super hD1 hD2 I.at_ I.cls (fun c e => ?_) (looks_mroIn X hsub) (fun h' e k => ?_)
  · have := I.no
    unfold notCls at this
    rw [e] at this
    exact Bool.noConfusion this
  · obtain ⟨F', N', l'⟩ := ks_newsPush (s := ⟨hh, g, d, t, os⟩) F N rfl e k
    exact h _ _ F' N' l'

theorem m_super_init {pl : Sem Bool} {Q : Value × List Value → Shared → Prop} (F : Fr h₀ L s.heap m) (X₀ : K.In h₀) (N : News h₀ L s.heap news) (hso : (so, ks_superObj D x C) ∈ news) (I : InstAt s.heap x ox C odx) (ho : nsIn K cStatics "thirdparty.any" = some none)
    (hm : ks_superIn K C D (Str.ofString "__init__") = some (some (.builtin "ValueError.__init__"))) (hsub : mroIn K C (.type "ValueError") = some true)
    (h : ∀ q h', Fr h₀ L h' m → News h₀ L h' ((q, mwObj "ValueError.__init__" (.ref x)) :: news) → (∀ p ∈ news, p.1 < q) → Q (.ref q, []) { s with heap := h', toks := s.toks + 1 }) : wpAny (model prog w) A (getMethod (.ref so) (Str.ofString "__init__") pl) Q E s := by
  have X : K.In s.heap := X₀.keeps F.keep
  obtain ⟨hh, g, d, t, os⟩ := s
  cases hc : clsIn K C with
  | none => unfold ks_superIn at hm; rw [hc] at hm; cases hm
  | some cd =>
    unfold ks_superIn at hm
    rw [hc] at hm
    refine m_getMethod_super (N _ hso).1 (looks_opaque X ho) (l₀ := cd.mro) ?_ rfl X hm I.at_ I.cls (looks_mroIn X hsub) (ks_ne X I hc) ?_
    · exact fun A Q E s k q => wpAny_bind ((looks_clsIn X hc) A _ E s k (wpAny_pure q))
    · obtain ⟨F', N', l'⟩ := ks_newsPush (s := ⟨hh, g, d, t, os⟩) (o := mwObj "ValueError.__init__" (.ref x)) F N rfl (Heap.get?_push_at rfl rfl) (fun b o e => Heap.get?_push_of_some _ e)
      exact h _ _ F' N' l'

theorem m_callWith_mw {M : Model} {env : Env} {pos : Pos} {first : List Value} {Q : Value → Shared → Prop} {q : Addr} {id : String} {y : Value} {e : Expr} {rest : List Expr} (_N : News h₀ L s.heap news) (_q : (q, mwObj id y) ∈ news)
    (h : wpAny M A (spliced (backTo pos (starEach (e :: rest) env))) (fun vs s₁ => s₁.heap.get? q = some (mwObj id y) ∧ wpAny M A (call (.ref q) (first ++ vs)) Q E s₁) E s)
    (he : starEach (e :: rest) env = (false, eval e env) :: starEach rest env := by rfl) (hplain : (backTo pos (starEach rest env)).any (·.1) = false := by rfl) :
    wpAny M A (callWith pos (.ref q) first (backTo pos (starEach (e :: rest) env)) []) Q E s := by
  rw [he] at h ⊢
  refine callWith_of (P := fun h => h.get? q = some (mwObj id y)) (by show ((false || (backTo pos (starEach rest env)).any (·.1)) || false) = false; rw [hplain]; rfl) (fun h X => ?_) (evalArgs_plain h)
  exact ⟨.machine, .inr (.inl rfl), (Looks.ld (part := none) X).andThen .now⟩

theorem m_exc_init {e tup0 q : Addr} {bm : List Value} {nm qn : Str} {N0 : Addr} {bs : List Value} {hdct : Bool} {sn : List Str} {sub : List Value} {ab : Bool} {col : Option Bool} {dd : Option Addr} {k0 k1 k2 k3 k5 : Option Value} {rest : List Value} {Q : Value → Shared → Prop}
    (F : Fr h₀ L s.heap m) (X₀ : K.In h₀) (N : News h₀ L s.heap news) (hq : (q, mwObj "ValueError.__init__" (.ref e)) ∈ news) (he : (e, (⟨.ref C, none, .fields #[.ref tup0, .none, .none, .none, .bool false, .none], #[]⟩ : Obj)) ∈ news)
    (hC : K.lookup C = some (excClassObj nm qn C N0 bs bm hdct sn sub ab col dd k0 k1 k2 k3 k5 "ValueError.__new__")) (hV : bm.contains (.type "ValueError") = true) (hrest : rest.length ≤ 100)
    (h : ∀ t' h', Fr h₀ L h' m → News h₀ L h' [(t', { cls := .type "tuple", data := .seq rest.toArray }), (e, ⟨.ref C, none, .fields #[.ref t', .none, .none, .none, .bool false, .none], #[]⟩)] → Q .none { s with heap := h' }) :
    wpAny (model prog w) A (call (.ref q) rest) Q E s := by
  have hmw := (N _ hq).1
  have hget := (N _ he).1
  have hCls := F.keep _ _ (X₀ _ _ hC)
  obtain ⟨hh, g, d, t, os⟩ := s
  refine wpAny_call (codeAny_of_tree ?_)
  show wpAny _ _ (callAny (.ref q) _) _ _ _
  unfold callAny
  refine wpAny_bind (wpAny_load hmw ?_)
  have FE := PySem.F.excBase_ValueError
  have hsh := FE.noStar
  show wpAny _ _ (checkBoundCall "ValueError.__init__" ⟨.ref e :: rest, []⟩ >>= fun _ => again (.builtin "ValueError.__init__" ⟨.ref e :: rest, []⟩)) _ _ _
  have hcB : (Value.ref C :: bm).contains (.type "ValueError") = true := by rw [List.contains_cons, hV, Bool.or_true]
  have hck : ∀ {A' : Around} {Q' : Unit → Shared → Prop} {E' : Value → Shared → Prop}, Q' () ⟨hh, g, d, t, os⟩ → wpAny (model prog w) A' (checkBoundCall "ValueError.__init__" ⟨.ref e :: rest, []⟩) Q' E' ⟨hh, g, d, t, os⟩ := by
    intro A' Q' E' hq
    unfold checkBoundCall
    simp only [FE.initKind, FE.initRow]
    rw [if_pos (by decide +kernel)]
    unfold Bind.checkArgs
    repeat (first | (with_reducible refine wpAny_loadPart_at hget ?_) | with_reducible refine wpAny_loadPart_at hCls ?_ | (with_reducible refine wpAny_isSubtype_exc hCls ?_; rw [hcB]) | wp_step)
    refine wpAny_onRaise ?_
    rw [show ∀ (a b : String) (n : Nat), Bind.check ⟨.positional, "*", "ValueError", .self, [⟨"args", .varPos, false⟩]⟩ a b n (List.map (fun x => x.fst) ({ pos := Value.ref e :: rest } : Args).kw) = pure () from
      fun a b n => check_star_args _ _ _ _ _ _]
    exact wpAny_pure hq
  refine wpAny_bind (hck (wpAny_pure ⟨Code.quiet_builtin _ (by decide +kernel), codeAny_builtin FE.initEntry ?_⟩))
  unfold Builtin.«BaseException.__init__»
  wp_walk
  have hz : ¬ rest.toArray.size > sizeLine := by rw [List.size_toArray]; exact Nat.not_lt.mpr (Nat.le_trans hrest (by decide))
  rw [if_neg hz]
  wp_walk
  have hlt := Heap.lt_size hget
  have k : ∀ b o, b ≠ e → hh.get? b = some o → ((hh.push { cls := .type "tuple", data := .seq rest.toArray }).update e (Obj.mapFields fun x => x.setIfInBounds 0 (Value.ref hh.objs.size))).get? b = some o := fun b o hb q => by
    rw [Heap.get?_update_other _ _ (Ne.symm hb)]
    exact Heap.get?_push_of_some _ q
  have hne := (N _ he).2.1
  have hno := (N _ he).2.2
  obtain ⟨oL, es, ep, hL, r⟩ := F.ns
  refine h hh.objs.size _ ⟨⟨oL, es, ep, k _ _ (Ne.symm hne) hL, r⟩, fun b o q => k b o (fun z => ?_) (F.keep b o q), F.above⟩ fun p hp => ?_
  · rw [z] at q
    rw [hno] at q
    cases q
  · rcases List.mem_cons.mp hp with rfl | hp
    · refine ⟨?_, fun z => ?_, ?_⟩
      · rw [Heap.get?_update_other _ _ (Nat.ne_of_lt hlt)]
        exact Heap.get?_push_at rfl rfl
      · exact absurd (Heap.lt_size hL) (by rw [← z]; exact Nat.lt_irrefl _)
      · cases z : h₀.get? hh.objs.size with
        | none => rfl
        | some o => exact absurd (Heap.lt_size (F.keep _ _ z)) (Nat.lt_irrefl _)
    · rw [List.mem_singleton.mp hp]
      refine ⟨?_, hne, hno⟩
      rw [Heap.get?_update_self _ (Heap.get?_push_of_some _ hget) rfl]
      rfl
end
end Mine
end
section
open PySem PySem.W PyProof.Rows PySem.Calls PySem.Spec
namespace Mine
local macro_rules | `(tactic| walk_at "m_fill") => `(tactic| (have hfill : ∀ P, (hd.heap_39 P) = (hd.heap_39 P) ∧ PySem.Challenge.rw_ez0281_01 = PySem.Challenge.rw_ez0281_01 := (by k_fill; exact fillK)))
local macro_rules | `(tactic| walk_at "m_in") => `(tactic| (unfold Tell; k_fill; intro mean mg mb dp un gd cn cs a ccd cl outer A₀ base h₀ L m s Q E B F X N T hk hdp hu hret; refine wpAny_call ?_; k_dflt cell_enter))
abbrev bmV : List Value := [.type "ValueError", .type "Exception", .type "BaseException", .type "object"]

structure ExcCls (w : World) (C : Addr) (bm : List Value) : Prop where
  obj : ∃ nm q N bs hdct sn sub ab col dd k0 k1 k2 k3 k5, (hd.heap_39 w.params).lookup C = some (excClassObj nm q C N bs bm hdct sn sub ab col dd k0 k1 k2 k3 k5 "ValueError.__new__")
  hasV : bm.contains (.type "ValueError") = true
  hasB : bm.contains (.type "BaseException") = true
  noA : bm.contains (.type "AttributeError") = false
  noN : bm.contains (.type "NameError") = false
  init : findIn (hd.heap_39 w.params) (.ref C) "__init__" = some (some (.ref 61))
  m64 : mroIn (hd.heap_39 w.params) C (.ref 64) = some true
  mV : mroIn (hd.heap_39 w.params) C (.type "ValueError") = some true
  sup : ks_superIn (hd.heap_39 w.params) C 64 (Str.ofString "__init__") = some (some (.builtin "ValueError.__init__"))

theorem exc64 (w : World) : ExcCls w 64 bmV := ⟨⟨_, _, _, _, _, _, _, _, _, _, _, _, _, _, _, rfl⟩, rfl, rfl, by decide +kernel, by decide +kernel, by kernel_rfl, by kernel_rfl, by kernel_rfl, by kernel_rfl⟩
theorem exc89 (w : World) : ExcCls w 89 (.ref 64 :: bmV) := ⟨⟨_, _, _, _, _, _, _, _, _, _, _, _, _, _, _, rfl⟩, rfl, rfl, by decide +kernel, by decide +kernel, by kernel_rfl, by kernel_rfl, by kernel_rfl, by kernel_rfl⟩


section
variable {w : World} {A : Around} {E : Value → Shared → Prop} {h : Heap} {g : Array GenState} {d : Drawn} {t : Nat} {os : OsState}
abbrev PG : Program := PySem.Challenge.rw_ez0281_01.row.prog
abbrev excObj (C tup : Addr) : Obj := { cls := .ref C, data := .fields #[.ref tup, .none, .none, .none, .bool false, .none] }
abbrev tupObj (vs : List Value) : Obj := { cls := .type "tuple", data := .seq vs.toArray }

theorem exc_check_new {nm q : Str} {C N : Addr} {bs bm : List Value} {hdct : Bool} {sn : List Str} {sub : List Value} {ab : Bool} {col : Option Bool} {dd : Option Addr} {k0 k1 k2 k3 k5 : Option Value}
    (hB : bm.contains (.type "ValueError") = true) {M : Model} {rest : List Value} {Q : Unit → Shared → Prop} (hC : h.get? C = some (excClassObj nm q C N bs bm hdct sn sub ab col dd k0 k1 k2 k3 k5 "ValueError.__new__"))
    (hq : Q () ⟨h, g, d, t, os⟩) : wpAny M A (checkBuiltinCall "ValueError.__new__" ⟨.ref C :: rest, []⟩) Q E ⟨h, g, d, t, os⟩ := by
  have hcont : (Value.ref C :: bm).contains (.type "ValueError") = true := by rw [List.contains_cons, hB, Bool.or_true]
  have F := PySem.F.excBase_ValueError
  have hstar := F.noStar
  simp only [checkBuiltinCall, F.newKind, F.newSplit, F.newRow]
  repeat (first | refine wpAny_loadPart_at hC ?_ | (refine wpAny_isSubtype_exc hC ?_; rw [hcont]) | refine wpAny_staticBase_exc hC ?_ | refine wpAny_madeBy_exc hC ?_ | simp only [bne_self_eq_false, Bool.false_eq_true, if_false] | wp_step)
  exact hq

theorem exc_new {nm q : Str} {C N : Addr} {bs bm : List Value} {hdct : Bool} {sn : List Str} {sub : List Value} {ab : Bool} {col : Option Bool} {dd : Option Addr} {k0 k1 k2 k3 k5 : Option Value} {prog : Program} {R : Result → Shared → Prop}
    (hcB' : bm.contains (.type "ValueError") = true) (hcA' : bm.contains (.type "AttributeError") = false) (hcN' : bm.contains (.type "NameError") = false)
    {rest : List Value} (hC : h.get? C = some (excClassObj nm q C N bs bm hdct sn sub ab col dd k0 k1 k2 k3 k5 "ValueError.__new__"))
    (hq : R (.ok (.ret (.ref (h.objs.size + 1)))) ⟨(h.push (tupObj rest)).push (excObj C h.objs.size), g, d, t, os⟩) (hrest : rest.length ≤ sizeLine := by size_fits) :
    codeAny (model prog w) A (.builtin "ValueError.__new__" ⟨.ref C :: rest, []⟩) R ⟨h, g, d, t, os⟩ := by
  have F := PySem.F.excBase_ValueError
  have hends := F.ends
  have hcB : (Value.ref C :: bm).contains (.type "ValueError") = true := by rw [List.contains_cons, hcB', Bool.or_true]
  have hcA : (Value.ref C :: bm).contains (.type "AttributeError") = false := by rw [List.contains_cons, hcA']; rfl
  have hcN : (Value.ref C :: bm).contains (.type "NameError") = false := by rw [List.contains_cons, hcN']; rfl
  refine codeAny_builtinAt F.entry ?_
  unfold Builtin.«BaseException.__new__»
  refine PySem.wpAt_bind ?_
  show PySem.wpAt _ _ _ (stack >>= _) _ _ _
  refine PySem.wpAt_bind (PySem.wpAt_stack fun p below => PySem.wpAt_of_wpAny ?_)
  wp_walk
  refine PySem.wpAt_of_wpAny ?_
  rw [F.owner]
  repeat (first | with_reducible refine wpAny_madeHere_exc F.canon hC ?_ | with_reducible refine wpAny_loadPart_at hC ?_ | (with_reducible refine wpAny_isSubtype_exc hC ?_; first | rw [hcB] | rw [hcA] | rw [hcN]) | wp_step)
  show R _ _
  rw [Heap.size_push]
  exact hq

theorem exc_call_to_init {C : Addr} {bm : List Value} (EC : ExcCls w C bm) (X : (hd.heap_39 w.params).In h) {v1 v2 : Value} {Q : Value → Shared → Prop}
    (hq : wpAny (model PG w) (A.under (.builtin "type.__call__" ⟨[.ref C, v1, v2], []⟩)) (call (.ref 61) [.ref (h.objs.size + 1), v1, v2])
      (fun r s' => r = .none ∧ Q (.ref (h.objs.size + 1)) s') E ⟨(h.push (tupObj [v1, v2])).push (excObj C h.objs.size), g, d, t, os⟩) :
    wpAny (model PG w) A (call (.ref C) [v1, v2]) Q E ⟨h, g, d, t, os⟩ := by
  obtain ⟨nm, q, N, bs, hdct, sn, sub, ab, col, dd, k0, k1, k2, k3, k5, hK⟩ := EC.obj
  have hC := X _ _ hK
  have f1 := tc_lookup
  have f2 := tc_bind (.ref C)
  have hT : (⟨h, g, d, t, os⟩ : Shared).TypeIs (.ref C) "type" := ⟨_, hC, rfl⟩
  refine wpAny_call (codeAny_of_tree ?_)
  show wpAny _ _ (callAny (.ref C) _) _ _ _
  repeat (any_goals (first | assumption | with_reducible refine wpAny_loadPart_at hC ?_ | wp_step))
  refine ⟨rfl, ?_⟩
  refine codeAny_call_builtin_at (Code.quiet_builtin _ (by decide +kernel)) entry_typeCall (wpAny_check_type_call_sub hC ?_)
  repeat (first | with_reducible refine wpAny_loadPart_at hC ?_ | with_reducible refine wpAny_madeBy_exc hC ?_ | wp_step)
  refine codeAny_call_builtin_code (Code.quiet_builtin _ PySem.F.excBase_ValueError.quiet) (exc_check_new EC.hasV hC ?_)
  refine exc_new EC.hasV EC.noA EC.noN hC ?_ (by show 2 ≤ sizeLine; decide)
  show wpAny _ _ _ _ _ _
  have hC₁ := Heap.get?_push_of_some (excObj C h.objs.size) (Heap.get?_push_of_some (tupObj [v1, v2]) hC)
  have hget : ((h.push (tupObj [v1, v2])).push (excObj C h.objs.size)).get? (h.objs.size + 1) = some (excObj C h.objs.size) := by heap_get
  have hcC : (Value.ref C :: bm).contains (.ref C) = true := by simp
  have X₁ : (hd.heap_39 w.params).In ((h.push (tupObj [v1, v2])).push (excObj C h.objs.size)) := X.keeps fun b o e => Heap.get?_push_of_some _ (Heap.get?_push_of_some _ e)
  unfold isInstance
  repeat (first | with_reducible refine wpAny_loadPart_at hget ?_ | wp_step)
  show wpAny _ _ (isSubtype (.ref C) (.ref C)) _ _ ⟨(h.push (tupObj [v1, v2])).push (excObj C h.objs.size), g, d, t, os⟩
  refine wpAny_isSubtype_exc hC₁ ?_
  rw [hcC]
  show wpAny _ _ (holding [Value.ref (h.objs.size + 1)] (callSpecial? (Value.ref (h.objs.size + 1)) (Str.ofString "__init__") [v1, v2] []) >>= _) _ _ _
  unfold callSpecial? specialOf
  refine wpAny_bind (wpAny_holding (wpAny_bind (wpAny_bind ?_)))
  have I : InstAt ((h.push (tupObj [v1, v2])).push (excObj C h.objs.size)) (h.objs.size + 1) (excObj C h.objs.size) C none := ⟨hget, rfl, rfl, trivial⟩
  refine I.type.here ?_
  refine (looks_findIn X₁ EC.init).here ?_
  refine wpAny_holding (wpAny_bind ?_)
  unfold bindSpecial
  refine wpAny_bind ((looks_typeIn X₁ (v := .ref 61) (t := .type "function") (by kernel_rfl)).here ?_)
  refine wpAny_pure ?_
  refine wpAny_bind ?_
  refine wpAny_mono hq (fun r s' hr => ?_) fun _ _ x => x
  obtain ⟨rfl, hr⟩ := hr
  exact wpAny_pure (wpAny_pure hr)

theorem m_any (w : World) : nsIn (hd.heap_39 w.params) cStatics "thirdparty.any" = some none := by kernel_rfl
theorem m_cls64 (w : World) : (clsIn (hd.heap_39 w.params) 64).isSome = true := by kernel_rfl
theorem inst_exc {h₀ h : Heap} {L e C t : Addr} {news : List (Addr × Obj)} (N : News h₀ L h news) (hm : (e, excObj C t) ∈ news) : InstAt h e (excObj C t) C none := ⟨(N _ hm).1, rfl, rfl, trivial⟩
local macro_rules | `(tactic| walk_at "call type:super") => `(tactic| (k_here; k_dflt (refine' m_call_super ?F ?X ?N ?I (m_cls64 _) ?s ?_; (case F => k_asm); (case X => k_asm); (case N => k_asm); (case I => (refine' inst_exc ?iN ?im; (case iN => k_asm); (case im => k_mem))); (case s => exact ExcCls.m64 (by assumption)); k_whole); intro so' h' F' N' l1))
local macro_rules | `(tactic| walk_at "getMethod ref") => `(tactic| (k_here; (with_reducible show wpAny _ _ (getMethod _ (Str.ofString "__init__") _) _ _ _); k_dflt (refine' m_super_init ?F ?X ?N ?q ?I (m_any _) ?s ?v ?_; (case F => k_asm); (case X => k_asm); (case N => k_asm); (case q => k_mem); (case I => (refine' inst_exc ?iN ?im; (case iN => k_asm); (case im => k_mem))); (case s => exact ExcCls.sup (by assumption)); (case v => exact ExcCls.mV (by assumption)); k_whole); intro q' h' F' N' l1))
local macro_rules | `(tactic| walk_at "call ref") => `(tactic| (k_here; k_dflt (refine' m_exc_init ?F ?X ?N ?q ?e ?C ?V ?l ?_; (case F => k_asm); (case X => k_asm); (case N => k_asm); (case q => k_mem); (case e => k_mem); (case C => assumption); (case V => assumption); (case l => exact Nat.le_of_ble_eq_true rfl); k_whole); intro t' h' F' N'))
local macro_rules | `(tactic| walk_at "callWith ref") => `(tactic| (k_here; k_dflt (refine' m_callWith_mw (id := "ValueError.__init__") ?N ?q ?_; (case N => k_asm); (case q => k_mem); k_whole)))
local macro_rules | `(tactic| walk_at "And") => `(tactic| ((with_reducible show Heap.get? _ _ = some (mwObj _ _) ∧ _); refine ⟨?ga, ?_⟩; (case ga => (refine' News.get ?gN ?gm; (case gN => k_asm); (case gm => k_mem))); (try dsimp only [List.nil_append, List.cons_append])))
local macro_rules | `(tactic| walk_at "eval Name") => `(tactic| (k_here; (with_reducible show wpAny _ _ (eval (Expr.Name (Str.ofString "super") _) _) _ _ _); k_dflt (refine' nameX_B (x := Str.ofString "super") ?F ?X ?T ?e boot_super ?n ?_ ?a ?b; (case F => k_asm); (case X => k_asm); (case T => k_asm); (case a => rfl); (case b => rfl); (case e => k_is); (case n => decide); k_whole)))
theorem exc_init {C e tup0 : Addr} {bm : List Value} {hb : Heap} {s : Shared} {mean : ExcName → Option Value} {mg mb : Str → Option Value} {v1 v2 : Value} {Q : Value → Shared → Prop} (EC : ExcCls w C bm) (X : (hd.heap_39 w.params).In hb)
    (T : Top hd.view_39 (looseW hd.view_39 [Str.ofString "NMEASentence", Str.ofString "TXT", Str.ofString "_law_signs"]) mean mg mb hb)
    (hk : ∀ b o, hb.get? b = some o → s.heap.get? b = some o) (hsz : hb.objs.size ≤ s.heap.objs.size) (hbe : hb.get? e = none)
    (he : s.heap.get? e = some (excObj C tup0)) (hdp : A.depth + 1 < recursionLimit)
    (hq : ∀ h' tk' t' tup, (∀ b o, hb.get? b = some o → h'.get? b = some o) → h'.get? e = some (excObj C t') → hb.get? t' = none → h'.get? t' = some (tupObj [.ref tup]) → Q .none { s with heap := h', toks := tk' }) :
    wpAny (model PG w) A (call (.ref 61) [.ref e, v1, v2]) Q E s := by
  have ho : (hd.heap_39 w.params).lookup 61 = some _ := rfl
  walk_at "m_fill"
  refine wpAny_call ?_
  refine ks_codeAny_call_defAt (fd := _) (body := _) (binds := [("self", .ref e), ("message", v1), ("data", v2)]) (by omega) (hk _ _ (X _ _ ho)) rfl (T.nolimit.keeps hk) (codeRec_of (X.keeps hk) (by kernel_rfl)) rfl (BindsTo.of_eq rfl) (by decide +kernel) (locs rfl) (fun h₁ hns hk₁ => ?_) rfl rfl rfl
  refine PySem.wpAt_of_wpAny ?_
  have F' : Fr hb s.heap.objs.size h₁ (fun x => [(Str.ofString "self", Value.ref e), (Str.ofString "message", v1), (Str.ofString "data", v2)].reverse.lookup x) :=
    ⟨hns, fun b o q => hk₁ b o (hk b o q), hsz⟩
  have N' : News hb s.heap.objs.size h₁ [(e, excObj C tup0)] := fun p hp => by
    rw [List.mem_singleton.mp hp]
    exact ⟨hk₁ _ _ he, Nat.ne_of_lt (Heap.lt_size he), hbe⟩
  clear hk₁ hns ho
  obtain ⟨nm, qn, N, bs, hdct, sn, sub, ab, col, dd, k0, k1, k2, k3, k5, hCls⟩ := EC.obj
  have hVal := EC.hasV
  show wpAny _ (A.deeper (envX (Str.ofString "ParseError.__init__") _ s.heap.objs.size 61 (.ref 60) [(Str.ofString "__class__", 49)])) (execs _ (envX (Str.ofString "ParseError.__init__") _ s.heap.objs.size 61 (.ref 60) [(Str.ofString "__class__", 49)])) _ _ _
  k_fold
  k_steps
  · exact News.get (by assumption) (List.Mem.tail _ (List.Mem.head _))
  rename_i tF hF FF NF
  have he1 := NF.get (List.Mem.tail _ (List.Mem.head _))
  have ht1 := NF.get (List.Mem.head _)
  exact hq _ _ _ _ FF.keep he1 (NF.fresh (List.Mem.head _)) ht1
end
end Mine
end
section
open PySem PySem.W PyProof.Rows PySem.Calls PySem.Spec
namespace Mine
section
variable {w : World} {A : Around} {E : Value → Shared → Prop} {s : Shared} {h₀ : Heap} {L : Addr} {m : Str → Option Value} {C : Addr} {bm : List Value} {mean : ExcName → Option Value} {mg mb : Str → Option Value}

theorem exc_make {v1 v2 : Value} {Q : Value → Shared → Prop} (EC : ExcCls w C bm) (F : Fr h₀ L s.heap m) (X : (hd.heap_39 w.params).In h₀)
    (T : Top hd.view_39 (looseW hd.view_39 [Str.ofString "NMEASentence", Str.ofString "TXT", Str.ofString "_law_signs"]) mean mg mb h₀)
    (hdp : A.depth + 3 < recursionLimit) (hu : A.units + 64 < cLine)
    (hq : ∀ h' tk e tup, Heap.MadeExcOf s.heap h' e (.ref C) [.ref tup] → Q (.ref e) { s with heap := h', toks := tk }) :
    wpAny (model PG w) A (call (.ref C) [v1, v2]) Q E s := by
  have X' := X.keeps F.keep
  have T' := T.keeps F.keep
  obtain ⟨h, g, d, t, os⟩ := s
  refine exc_call_to_init EC X' ?_
  refine exc_init (C := C) (hb := h) (tup0 := h.objs.size) EC X' T' (fun b o e => Heap.get?_push_of_some _ (Heap.get?_push_of_some _ e)) (by simp only [Heap.size_push]; omega) (Heap.get?_none_of_le (Nat.le_succ _)) (by heap_get) (by rw [depth_under_make]; omega) ?_
  intro h' tk' t' tup k he ht hn
  exact ⟨rfl, hq h' tk' _ tup ⟨k, Heap.get?_none_of_le (Nat.le_succ _), t', he, ht, hn⟩⟩

def RaisedNew (w : World) (C : Addr) (E : Value → Shared → Prop) (v : Value) (s₁ : Shared) : Prop :=
  (hd.heap_39 w.params).In s₁.heap ∧ ∃ e t, v = .ref e ∧ s₁.heap.get? e = some (excObj C t) ∧ E (.ref e) s₁

theorem RaisedNew.of {s : Shared} {h h' : Heap} {e tup : Addr} {tk : Nat} (F : Fr h₀ L h m) (X : (hd.heap_39 w.params).In h₀) (M : Heap.MadeExcOf h h' e (.ref C) [.ref tup]) (hE : E (.ref e) { s with heap := h', toks := tk }) :
    RaisedNew w C E (.ref e) { s with heap := h', toks := tk } := by
  obtain ⟨t, ht, _, _⟩ := M.there
  exact ⟨X.keeps fun b o q => M.keeps b o (F.keep b o q), e, t, rfl, ht, hE⟩

theorem m_Raise {env : Env} {f : Expr} {args : List Expr} {cpos pos : Pos} {Q : Flow → Shared → Prop} (C : Addr) (EC : ExcCls w C bm) (hh : A.handled = none)
    (h : wpAny (model PG w) A (eval (.Call f args [] cpos) env) (RaisedNew w C E) E s) :
    wpAny (model PG w) A (exec (.Raise (some (.Call f args [] cpos)) none pos) env) Q E s := by
  obtain ⟨nm, qn, N, bs, hdct, sn, sub, ab, col, dd, k0, k1, k2, k3, k5, hCls⟩ := EC.obj
  rw [arm_exec_Raise]
  refine wpAny_bind (wpAny_standAt ?_)
  simp only [evalOpt, Option.map]
  refine wpAny_raiseStmt_made_sub (C := C) (nm := nm) (q := qn) (N := N) (bs := bs) (bm := bm) (hdct := hdct) (sn := sn) (sub := sub) (ab := ab) (col := col) (dd := dd) (k0 := k0) (k1 := k1) (k2 := k2) (k3 := k3) (k5 := k5) (newId := "ValueError.__new__") EC.hasB hh ?_
  refine wpAny_bind (wpAny_mono h (fun v s₁ h₁ => ?_) fun _ _ x => x)
  obtain ⟨X, e, t, rfl, he, hE⟩ := h₁
  exact wpAny_bind (wpAny_standAt (wpAny_pure ⟨e, t, rfl, X _ _ hCls, he, hE⟩))
end
end Mine
end
section
open PySem PySem.W PyProof.Rows PySem.Calls PySem.Spec
namespace Mine
theorem slot_map_next : Slot "map" "__next__" "map.__next__" := .of (owner := "map") (n := "__next__") (by rw [typeLookup_type, builtinLookup_eq_fast]; kernel_rfl) (by decide +kernel) (by decide +kernel) (by decide +kernel)
    (by first | exact .inl (by decide +kernel) | exact .inr (by decide +kernel)) (by rw [isSubtype_type]; kernel_rfl)
theorem entry_map_next : entryFor table "map.__next__" = some Builtin.«map.__next__» := entryFor_of_tree (by kernel_rfl)
theorem args_map_next (a : Value) : argsOk "map.__next__" ⟨[a], []⟩ := by unfold argsOk; kernel_rfl
theorem slot_map_iter : Slot "map" "__iter__" "map.__iter__" := .of (owner := "map") (n := "__iter__") (by rw [typeLookup_type, builtinLookup_eq_fast]; kernel_rfl) (by decide +kernel) (by decide +kernel) (by decide +kernel)
    (by first | exact .inl (by decide +kernel) | exact .inr (by decide +kernel)) (by rw [isSubtype_type]; kernel_rfl)
theorem entry_map_iter : entryFor table "map.__iter__" = some Builtin.«dict_keyiterator.__iter__» :=
  entryFor_alias (id' := "dict_keyiterator.__iter__") (by kernel_rfl) (by first | rfl | decide +kernel | (unfold String.splitOn; simp +decide [String.splitOnAux])) (by decide +kernel) (by kernel_rfl)
theorem args_map_iter (a : Value) : argsOk "map.__iter__" ⟨[a], []⟩ := by unfold argsOk; kernel_rfl
theorem mro_map : mroOf (.type "map") = pure [.type "map", .type "object"] := by rw [mroOf_type]; kernel_rfl
theorem lookup_map_new : typeLookup (.type "map") "__new__" = pure (some (.builtin "map.__new__")) := by rw [typeLookup_type, builtinLookup_eq_fast]; kernel_rfl
theorem slot_map_init : Slot "map" "__init__" "object.__init__" :=
  .of (owner := "object") (n := "__init__") (by rw [typeLookup_type, builtinLookup_eq_fast]; kernel_rfl) (by decide +kernel) (by decide +kernel) (by decide +kernel)
    (by first | exact .inl (by decide +kernel) | exact .inr (by decide +kernel)) (by rw [isSubtype_type]; kernel_rfl)
theorem called_map : TypeCalled "map" "map.__new__" "object.__init__" :=
  ⟨by decide +kernel, by decide +kernel, ⟨_, _, mro_map⟩, madeBy_type mro_map lookup_map_new (by decide +kernel), by decide +kernel, by rw [isSubtype_type]; kernel_rfl, slot_map_init⟩
theorem typeCall_map_2 (a b : Value) : checkTypeCall "map" ⟨[a, b], []⟩ = pure () := by kernel_rfl
theorem newCall_map_2 (a b : Value) : checkBuiltinCall "map.__new__" ⟨[.type "map", a, b], []⟩ = pure () := by kernel_rfl
theorem entry_map_new : entryFor table "map.__new__" = some Builtin.«map.__new__» := entryFor_of_tree (by kernel_rfl)
theorem sub_map : isSubtype (.type "map") (.type "map") = pure true := by rw [isSubtype_type]; kernel_rfl

abbrev mapObj (TI : Addr) : Obj := { cls := .type "map", data := .fields #[.ref TI, .builtin "ord"] }
abbrev oneTup (SI : Addr) : Obj := { cls := .type "tuple", data := .seq #[.ref SI] }
abbrev sitObj (x : Str) (t : Tok) (i : Nat) : Obj := { cls := .type "str_ascii_iterator", data := .fields #[.str x t, .int i 0] }

section
variable {prog : Program} {w : World} {A : Around} {E : Value → Shared → Prop} {s : Shared}

theorem map_next_item {MI TI SI : Addr} {x : Str} {t : Tok} {i c : Nat} {Q : Value → Shared → Prop} (hMT : TI ≠ SI) (hMS : MI ≠ SI)
    (hM : s.heap.get? MI = some (mapObj TI)) (hT : s.heap.get? TI = some (oneTup SI)) (hS : s.heap.IsStrIter SI "str_ascii_iterator" x t i) (hx : x.cps[i]? = some c)
    (hQ : ∀ h' tk u, h'.IsStrIter SI "str_ascii_iterator" x t (i + 1) → Heap.SameBut SI s.heap h' → Q (.int c u) { s with heap := h', toks := tk }) :
    wpAny (model prog w) A (Builtin.«map.__next__» ⟨[.ref MI], []⟩) (fun fin s' => ∃ v, fin = .done (.ret v) ∧ Q v s') E s := by
  unfold Builtin.«map.__next__»
  show wpAny _ _ (field (.ref MI) 0 >>= _) _ _ _
  refine wpAny_bind (wpAny_field hM rfl (x := .ref TI) rfl ?_)
  refine wpAny_bind (wpAny_seqItems hT rfl ?_)
  refine wpAny_bind ?_
  simp only [List.forIn_cons, List.forIn_nil, List.forIn_toArray]
  refine wpAny_bind (wpAny_bind (wpAny_holding (wpAny_nextOf_ascii_item hS hx fun h₁ hS₁ hs₁ => ?_)))
  refine wpAny_pure (wpAny_pure ?_)
  show wpAny _ _ (field (.ref MI) 1 >>= _) _ _ _
  refine wpAny_bind (wpAny_field (hs₁.extBut _ _ hMS hM) rfl (x := .builtin "ord") rfl ?_)
  refine wpAny_bind (wpAny_holding (P.ord_of_char ?_))
  exact wpAny_bind (wpAny_letGo (wpAny_pure ⟨_, rfl, hQ _ _ _ hS₁ hs₁⟩))

theorem map_next_end {MI TI SI : Addr} {x : Str} {t : Tok} {Q : PySem.Fin → Shared → Prop} (hh : A.handled = none)
    (hM : s.heap.get? MI = some (mapObj TI)) (hT : s.heap.get? TI = some (oneTup SI)) (hS : s.heap.IsStrIter SI "str_ascii_iterator" x t x.cps.size)
    (hE : ∀ h' e, Heap.ExtBut SI s.heap h' → (∃ o, h'.get? e = some o ∧ o.cls = .type "StopIteration") → E (.ref e) { s with heap := h' }) :
    wpAny (model prog w) A (Builtin.«map.__next__» ⟨[.ref MI], []⟩) Q E s := by
  unfold Builtin.«map.__next__»
  show wpAny _ _ (field (.ref MI) 0 >>= _) _ _ _
  refine wpAny_bind (wpAny_field hM rfl (x := .ref TI) rfl ?_)
  refine wpAny_bind (wpAny_seqItems hT rfl ?_)
  refine wpAny_bind ?_
  simp only [List.forIn_cons, List.forIn_nil, List.forIn_toArray]
  exact wpAny_bind (wpAny_bind (wpAny_holding (wpAny_nextOf_ascii_end hh hS (by simp) hE)))

theorem pyNext_map_item {MI TI SI : Addr} {x : Str} {t : Tok} {i c : Nat} {Q : Option Value → Shared → Prop} (hMT : TI ≠ SI) (hMS : MI ≠ SI)
    (hM : s.heap.get? MI = some (mapObj TI)) (hT : s.heap.get? TI = some (oneTup SI)) (hS : s.heap.IsStrIter SI "str_ascii_iterator" x t i) (hx : x.cps[i]? = some c)
    (hQ : ∀ h' tk u, h'.IsStrIter SI "str_ascii_iterator" x t (i + 1) → Heap.SameBut SI s.heap h' → Q (some (.int c u)) { s with heap := h', toks := tk }) :
    wpAny (model prog w) A (pyNext (.ref MI)) Q E s := by
  have hT' : s.TypeIs (.ref MI) "map" := ⟨_, hM, rfl⟩
  unfold pyNext
  refine wpAny_bind (wpAny_attempt (wpAny_callSpecial?_slot (name := Str.ofString "__next__") hT' slot_map_next
    (wpAny_call_entry slot_map_next hT' entry_map_next (map_next_item hMT hMS hM hT hS hx fun h' tk u a b => ?_) (args_map_next _))))
  exact wpAny_pure (hQ _ _ _ a b)

theorem pyNext_map_end {MI TI SI : Addr} {x : Str} {t : Tok} {Q : Option Value → Shared → Prop} (hh : A.handled = none)
    (hM : s.heap.get? MI = some (mapObj TI)) (hT : s.heap.get? TI = some (oneTup SI)) (hS : s.heap.IsStrIter SI "str_ascii_iterator" x t x.cps.size)
    (hQ : ∀ h', Heap.ExtBut SI s.heap h' → Q none { s with heap := h' }) :
    wpAny (model prog w) A (pyNext (.ref MI)) Q E s := by
  have hT' : s.TypeIs (.ref MI) "map" := ⟨_, hM, rfl⟩
  unfold pyNext
  refine wpAny_bind (wpAny_attempt (wpAny_callSpecial?_slot (name := Str.ofString "__next__") hT' slot_map_next
    (wpAny_call_entry slot_map_next hT' entry_map_next (map_next_end (by exact hh) hM hT hS fun h' e k ho => ?_) (args_map_next _))))
  obtain ⟨o, ho, hc⟩ := ho
  refine wpAny_bind (wpAny_isInstance (T := "StopIteration") (b := true) ⟨_, ho, hc⟩ isSubtype_stop ?_)
  exact wpAny_pure (hQ _ k)

theorem pyIter_map {MI TI : Addr} {Q : Value → Shared → Prop} (hM : s.heap.get? MI = some (mapObj TI)) (h : Q (.ref MI) s) : wpAny (model prog w) A (pyIter (.ref MI)) Q E s := by
  have hT' : s.TypeIs (.ref MI) "map" := ⟨_, hM, rfl⟩
  refine wpAny_pyIter_slot hT' slot_map_iter (wpAny_call_entry slot_map_iter hT' entry_map_iter ?_ (args_map_iter _))
  show wpAny _ _ (ret (.ref MI)) _ _ s
  exact wpAny_pure ⟨_, rfl, "map", _, hT', slot_map_next.lookup, h⟩
end

abbrev mapH1 (h : Heap) (x : Str) (t : Tok) : Heap := h.push (sitObj x t 0)
abbrev mapH2 (h : Heap) (x : Str) (t : Tok) : Heap := (mapH1 h x t).push (oneTup h.objs.size)
abbrev mapH3 (h : Heap) (x : Str) (t : Tok) : Heap := (mapH2 h x t).push (mapObj (mapH1 h x t).objs.size)

theorem meets_map_new (x : Str) (t : Tok) (ha : x.cps.all (· < 128) = true) :
    Meets (Builtin.«map.__new__» ⟨[.type "map", .builtin "ord", .str x t], []⟩) (fun _ R s => R (.ok (.ret (.ref (mapH2 s.heap x t).objs.size))) { s with heap := mapH3 s.heap x t }) :=
  .of_wp fun prog w A R s h => by
    obtain ⟨hp, g, d, tk, os⟩ := s
    have hsub := sub_map
    wp_walk using wpAny_pyIter_ascii ha
    exact ⟨_, rfl, h⟩
section
variable {prog : Program} {w : World} {A : Around} {E : Value → Shared → Prop} {s : Shared} {h₀ : Heap} {L : Addr} {m : Str → Option Value} {news : List (Addr × Obj)}

theorem m_map_call {x : Str} {t : Tok} {Q : Value → Shared → Prop} (F : Fr h₀ L s.heap m) (N : News h₀ L s.heap news) (ha : x.cps.all (· < 128) = true)
    (h : ∀ MI TI SI h', Fr h₀ L h' m → News h₀ L h' ((MI, mapObj TI) :: (TI, oneTup SI) :: (SI, sitObj x t 0) :: news) → (∀ p ∈ news, p.1 < SI) → SI < TI → TI < MI → Q (.ref MI) { s with heap := h' }) :
    wpAny (model prog w) A (call (.type "map") [.builtin "ord", .str x t]) Q E s := by
  refine callType_new called_map (by decide) (typeCall_map_2 _ _) (newCall_map_2 _ _) (fun obj => PySem.F.args_object_init_3 obj _ _) entry_map_new
    (meets_map_new x t ha) ?_
  have z1 : (mapH1 s.heap x t).objs.size = s.heap.objs.size + 1 := Heap.size_push ..
  have z2 : (mapH2 s.heap x t).objs.size = s.heap.objs.size + 2 := by rw [Heap.size_push, z1]
  have N1 := N.push F (sitObj x t 0)
  have F1 := F.push (sitObj x t 0)
  have N2 := N1.push F1 (oneTup s.heap.objs.size)
  have F2 := F1.push (oneTup s.heap.objs.size)
  have N3 := N2.push F2 (mapObj (mapH1 s.heap x t).objs.size)
  have F3 := F2.push (mapObj (mapH1 s.heap x t).objs.size)
  refine ⟨⟨_, N3.get (List.Mem.head _), rfl⟩, h _ _ _ _ F3 N3 (fun p hp => Heap.lt_size (N p hp).1) ?_ ?_⟩
  · rw [z1]; exact Nat.lt_succ_self _
  · rw [z2, z1]; exact Nat.lt_succ_self _
end
end Mine
end
section
open PySem PySem.W PyProof.Rows PySem.Calls PySem.Spec
namespace Mine
theorem entry_red : entryFor table "_functools.reduce" = some Builtin.«_functools.reduce» := entryFor_of_tree (by kernel_rfl)
theorem entry_redl : entryFor table "_functools.reduce.loop" = some Builtin.«_functools.reduce.loop» := entryFor_of_tree (by kernel_rfl)
theorem entry_xor : entryFor table "_operator.xor" = some Builtin.«_operator.xor» := entryFor_of_tree (by kernel_rfl)
theorem plain_red : plainId "_functools.reduce" = true := by decide +kernel
theorem plain_redl : plainId "_functools.reduce.loop" = true := by decide +kernel
theorem plain_xor : plainId "_operator.xor" = true := by decide +kernel
theorem kind_xor : builtinKind "_operator.xor" = none := by decide +kernel
theorem kind_red : builtinKind "_functools.reduce" = none := by decide +kernel
theorem check_xor (a b : Value) : checkBuiltinCall "_operator.xor" ⟨[a, b], []⟩ = pure () := by kernel_rfl
theorem check_red (a b c : Value) : checkBuiltinCall "_functools.reduce" ⟨[a, b, c], []⟩ = pure () := by kernel_rfl

section
variable {prog : Program} {w : World} {A : Around} {E : Value → Shared → Prop} {s : Shared}

theorem call_xor {a b : Int} {t u : Tok} {Q : Value → Shared → Prop} (h : Q (.int (Builtin.bitXor a b) s.toks) { s with toks := s.toks + 1 }) :
    wpAny (model prog w) A (call (.builtin "_operator.xor") [.int a t, .int b u]) Q E s := by
  refine wpAny_call (codeAny_call_builtin plain_xor entry_xor (wpAny_of_eq (check_xor _ _) ?_))
  unfold Builtin.«_operator.xor»
  show wpAny _ _ (binaryOp .BitXor (.int a t) (.int b u) >>= fun v => ret v) _ _ _
  exact wpAny_bind (xor_int (wpAny_pure h))

abbrev pairObj (a b : Value) : Obj := { cls := .type "tuple", data := .seq #[a, b] }
def xfold (l : List Nat) (v : Int) : Int := l.foldl (fun (a : Int) (c : Nat) => Builtin.bitXor a (c : Int)) v

theorem reduce_loop {x : Str} {t : Tok} {MI TI SI PA OW : Addr} {o1 o2 : Value} (hh : A.handled = none) (hMT : TI ≠ SI) (hMS : MI ≠ SI) (hPM : MI ≠ PA) (hPT : TI ≠ PA) (hPS : SI ≠ PA) (hOS : OW ≠ SI) (hOP : OW ≠ PA) :
    ∀ (k i : Nat), i + k = x.cps.size → ∀ (s : Shared) (v : Int) (u : Tok) (a b : Value) (R : Result → Shared → Prop),
      s.heap.get? PA = some (pairObj a b) → s.heap.get? OW = some { cls := .type "tuple", data := .seq #[.builtin "_operator.xor", o1, o2] } →
      s.heap.get? MI = some (mapObj TI) → s.heap.get? TI = some (oneTup SI) → s.heap.IsStrIter SI "str_ascii_iterator" x t i →
      (∀ h' tk u', (∀ b o, b ≠ SI → b ≠ PA → s.heap.get? b = some o → h'.get? b = some o) → R (.ok (.ret (.int (xfold (x.cps.toList.drop i) v) u'))) { s with heap := h', toks := tk }) →
      codeAny (model prog w) A (.builtin "_functools.reduce.loop" ⟨[.ref PA, .ref MI, .ref OW, .int v u], []⟩) R s := by
  intro k
  induction k with
  | zero =>
    intro i hi s v u a b R hP hO hM hT hS hR
    obtain rfl : i = x.cps.size := by omega
    refine codeAny_builtin entry_redl ?_
    unfold Builtin.«_functools.reduce.loop»
    show wpAny _ _ (seqItems? (.ref OW) >>= _) _ _ _
    refine wpAny_bind (wpAny_seqItems hO rfl ?_)
    refine wpAny_bind (pyNext_map_end (by rw [Around.under_plainId plain_redl]; exact hh) hM hT hS fun h' k' => ?_)
    refine wpAny_pure ?_
    have := hR h' s.toks u fun b o hb _ q => k' b o hb q
    rw [List.drop_eq_nil_of_le (by simp)] at this
    exact this
  | succ k ih =>
    intro i hi s v u a b R hP hO hM hT hS hR
    have hlt : i < x.cps.size := by omega
    refine codeAny_builtin entry_redl ?_
    rw [Around.under_plainId plain_redl]
    unfold Builtin.«_functools.reduce.loop»
    show wpAny _ _ (seqItems? (.ref OW) >>= _) _ _ _
    refine wpAny_bind (wpAny_seqItems hO rfl ?_)
    refine wpAny_bind (pyNext_map_item hMT hMS hM hT hS (c := x.cps[i]) (by simp [hlt]) fun h₁ tk₁ u₁ hS₁ hs₁ => ?_)
    have hP₁ := hs₁.extBut _ _ (Ne.symm hPS) hP
    refine wpAny_bind (wpAny_seqItems hP₁ rfl ?_)
    refine wpAny_bind (wpAny_updateSeq_pair hP₁ fun h₂ hP₂ hs₂ => ?_)
    refine wpAny_bind (wpAny_letGo ?_)
    refine wpAny_bind (wpAny_updateSeq_pair (a := .int v u) (b := b) hP₂ fun h₃ hP₃ hs₃ => ?_)
    refine wpAny_bind (wpAny_letGo ?_)
    refine wpAny_bind (call_xor ?_)
    refine wpAny_pure ⟨plainId_quiet plain_redl _, ?_⟩
    have keep : ∀ b o, b ≠ SI → b ≠ PA → s.heap.get? b = some o → h₃.get? b = some o := fun b o h1 h2 q => hs₃.extBut _ _ h2 (hs₂.extBut _ _ h2 (hs₁.extBut _ _ h1 q))
    refine ih (i + 1) (by omega) _ _ _ _ _ _ hP₃ (keep _ _ hOS hOP hO) (keep _ _ hMS hPM hM) (keep _ _ hMT hPT hT) ((hS₁.extBut hs₂.extBut hPS).extBut hs₃.extBut hPS) fun h' tk u' hk => ?_
    have := hR h' tk u' fun b o h1 h2 q => hk b o h1 h2 (keep b o h1 h2 q)
    have e : xfold (x.cps.toList.drop i) v = xfold (x.cps.toList.drop (i + 1)) (Builtin.bitXor v (x.cps[i] : Nat)) := by
      rw [List.drop_eq_getElem_cons (by simpa using hlt)]
      simp [xfold]
    rw [e] at this
    exact this

theorem m_reduce {h₀ : Heap} {L : Addr} {m : Str → Option Value} {news : List (Addr × Obj)} {x : Str} {t : Tok} {MI TI SI : Addr} {v : Int} {u : Tok} {Q : Value → Shared → Prop} (hh : A.handled = none)
    (F : Fr h₀ L s.heap m) (N : News h₀ L s.heap ((MI, mapObj TI) :: (TI, oneTup SI) :: (SI, sitObj x t 0) :: news)) (ln : ∀ p ∈ news, p.1 < SI) (l1 : SI < TI) (l2 : TI < MI)
    (h : ∀ h' tk u', Fr h₀ L h' m → News h₀ L h' news → Q (.int (xfold x.cps.toList v) u') { s with heap := h', toks := tk }) :
    wpAny (model prog w) A (call (.builtin "_functools.reduce") [.builtin "_operator.xor", .ref MI, .int v u]) Q E s := by
  have hM := N.get (List.Mem.head _)
  have hT := N.get (List.Mem.tail _ (List.Mem.head _))
  have hS := N.get (List.Mem.tail _ (List.Mem.tail _ (List.Mem.head _)))
  have lM := Heap.lt_size hM
  have lT := Heap.lt_size hT
  have lS := Heap.lt_size hS
  refine wpAny_call (codeAny_call_builtin plain_red entry_red (wpAny_of_eq (check_red _ _ _) ?_))
  unfold Builtin.«_functools.reduce»
  show wpAny _ _ ((pyIter (.ref MI)).tryCatch _ >>= _) _ _ _
  refine wpAny_bind (wpAny_tryCatch (pyIter_map hM ?_))
  refine wpAny_bind (wpAny_holding (wpAny_newTuple ?_))
  refine wpAny_bind (wpAny_holding (wpAny_newTuple ?_))
  have z1 : (s.heap.push (pairObj (rawInt 0) (rawInt 0))).objs.size = s.heap.objs.size + 1 := Heap.size_push ..
  have up : ∀ b o, s.heap.get? b = some o → ((s.heap.push (pairObj (rawInt 0) (rawInt 0))).push { cls := .type "tuple", data := .seq #[.builtin "_operator.xor", .ref MI, .int v u] }).get? b = some o := fun b o q =>
    Heap.get?_push_of_some _ (Heap.get?_push_of_some _ q)
  obtain ⟨oL, es, ep, hL, r⟩ := F.ns
  have lL := Heap.lt_size hL
  have hMT : TI ≠ SI := Nat.ne_of_gt l1
  have hMS : MI ≠ SI := Nat.ne_of_gt (Nat.lt_trans l1 l2)
  refine wpAny_pure ⟨plainId_quiet plain_redl _, ?_⟩
  refine reduce_loop (x := x) (t := t) (MI := MI) (TI := TI) (SI := SI) (PA := s.heap.objs.size) (OW := (s.heap.push (pairObj (rawInt 0) (rawInt 0))).objs.size) (o1 := .ref MI) (o2 := .int v u)
    hh hMT hMS (Nat.ne_of_lt lM) (Nat.ne_of_lt lT) (Nat.ne_of_lt lS) (by rw [z1]; exact Nat.ne_of_gt (Nat.lt_succ_of_lt lS)) (by rw [z1]; exact Nat.ne_of_gt (Nat.lt_succ_self _))
    x.cps.size 0 (Nat.zero_add _) _ v u (rawInt 0) (rawInt 0) _ (Heap.get?_push_of_some _ (Heap.get?_push_size _ rfl)) (Heap.get?_push_size _ rfl) (up _ _ hM) (up _ _ hT) ⟨_, up _ _ hS, rfl, rfl⟩ fun h' tk u' k => ?_
  have k' : ∀ b o, b ≠ SI → s.heap.get? b = some o → h'.get? b = some o := fun b o hb q => k b o hb (Nat.ne_of_lt (Heap.lt_size q)) (up b o q)
  have nS := N (SI, sitObj x t 0) (List.Mem.tail _ (List.Mem.tail _ (List.Mem.head _)))
  refine h h' tk u' ⟨⟨oL, es, ep, k' _ _ (Ne.symm nS.2.1) hL, r⟩, fun b o q => k' b o (fun z => ?_) (F.keep b o q), F.above⟩ fun p hp => ?_
  · rw [z, nS.2.2] at q; cases q
  · have np := N p (List.Mem.tail _ (List.Mem.tail _ (List.Mem.tail _ hp)))
    exact ⟨k' _ _ (Nat.ne_of_lt (ln p hp)) np.1, np.2⟩
end
end Mine
end
section
open PySem PySem.W PyProof.Rows PySem.Calls PySem.Spec
namespace Mine
local macro_rules | `(tactic| walk_at "call type:map") => `(tactic| (k_here; k_dflt (refine' m_map_call ?F ?N ?a ?_; (case F => k_asm); (case N => k_asm); (case a => assumption); k_whole); intro MI' TI' SI' h' F' N' l1 l2 l3))
local macro_rules | `(tactic| walk_at "call builtin:_functools.reduce") => `(tactic| (k_here; k_dflt (refine' m_reduce ?hh ?F ?N ?a ?b ?c ?_; (case hh => rfl); (case F => k_asm); (case N => k_asm); (case a => assumption); (case b => assumption); (case c => assumption); k_whole); intro h' tk' u' F' N'))
theorem chk_tell (w : World) (news : List (Addr × Obj)) (x : Str) (t : Tok) (ha : x.cps.all (· < 128) = true) : Tell w 113 1 64 [.str x t] news (fun r tl => tl = [] ∧ ∃ t', r = .int (xfold x.cps.toList 0) t') := by
  unfold Tell; k_fill
  intro mean mg mb dp un gd cn cs a ccd cl outer A₀ base h₀ L m s Q E B F X N T hk hdp hu hret
  refine wpAny_call ?_
  k_dflt cell_enter
  k_steps
  exact hret _ [] _ _ (by k_asm) (ktn_tl0 (by k_asm)) ktn_ord0 ⟨rfl, _, rfl⟩
end Mine
end
section
open PySem PySem.W
namespace Mine
theorem xor_and (n : Nat) : ∀ a b : Nat, a ≤ n → a + b = (a ^^^ b) + 2 * (a &&& b) := by
  induction n with
  | zero => intro a b h; obtain rfl : a = 0 := by omega
            simp
  | succ n ih =>
    intro a b h
    by_cases h0 : a = 0
    · subst h0; simp
    have := ih (a / 2) (b / 2) (by omega)
    have x1 : (a ^^^ b) / 2 = a / 2 ^^^ b / 2 := Nat.xor_div_two
    have x2 : (a &&& b) / 2 = a / 2 &&& b / 2 := Nat.and_div_two
    have y1 : (a ^^^ b) % 2 = (a + b) % 2 := by
      have := Nat.testBit_xor a b 0
      simp only [Nat.testBit_zero] at this
      rcases Nat.mod_two_eq_zero_or_one a with ha | ha <;> rcases Nat.mod_two_eq_zero_or_one b with hb | hb <;> rcases Nat.mod_two_eq_zero_or_one (a ^^^ b) with hc | hc <;> simp [ha, hb, hc] at this <;> omega
    have y2 : (a &&& b) % 2 = if a % 2 = 1 ∧ b % 2 = 1 then 1 else 0 := by
      have := Nat.testBit_and a b 0
      simp only [Nat.testBit_zero] at this
      rcases Nat.mod_two_eq_zero_or_one a with ha | ha <;> rcases Nat.mod_two_eq_zero_or_one b with hb | hb <;> rcases Nat.mod_two_eq_zero_or_one (a &&& b) with hc | hc <;> simp_all
    split at y2 <;> omega
theorem bitAnd_nat (a b : Nat) : Builtin.bitAnd (a : Int) (b : Int) = ((a &&& b : Nat) : Int) := by simp [Builtin.bitAnd]
theorem flip_val (a b : Nat) : (a : Int) + (b : Int) - 2 * Builtin.bitAnd (a : Int) (b : Int) = ((a ^^^ b : Nat) : Int) := by
  rw [bitAnd_nat]
  have := xor_and a a b (Nat.le_refl _)
  omega
theorem bitXor_nat (a b : Nat) : Builtin.bitXor (a : Int) (b : Int) = ((a ^^^ b : Nat) : Int) := by
  rw [PyProof.Rows.bitXor_and]
  exact flip_val a b
theorem xor_lt128 {a b : Nat} (ha : a < 128) (hb : b < 128) : a ^^^ b < 128 := Nat.xor_lt_two_pow (n := 7) ha hb
end Mine
end
section
open PySem PySem.W PyProof.Rows PySem.Calls PySem.Spec
namespace Mine
theorem m_chr {prog : Program} {w : World} {A : Around} {E : Value → Shared → Prop} {s : Shared} {Q : Value → Shared → Prop} (c b : Nat) {t : Tok} (hc : c < 128) (hb : b < 128) (h : Q (.str ⟨#[c ^^^ b]⟩ s.toks) { s with toks := s.toks + 1 }) :
    wpAny (model prog w) A (call (.builtin "chr") [.int ((c : Int) + (b : Int) - 2 * Builtin.bitAnd (c : Int) (b : Int)) t]) Q E s := by
  rw [flip_val]
  have := xor_lt128 hc hb
  exact chr_of_range (by omega) (by omega) (by simpa using h)
local macro_rules | `(tactic| walk_at "call builtin:chr") => `(tactic| (k_here; refine m_chr _ _ (by assumption) (by assumption) ?_))
theorem flip_tell (w : World) (news : List (Addr × Obj)) (c b : Nat) (hc : c < 128) (hb : b < 128) (t t2 : Tok) : Tell w 297 1 64 [.str ⟨#[c]⟩ t, .int b t2] news (fun r tl => tl = [] ∧ ∃ t', r = .str ⟨#[c ^^^ b]⟩ t') := by
  unfold Tell; k_fill
  intro mean mg mb dp un gd cn cs a ccd cl outer A₀ base h₀ L m s Q E B F X N T hk hdp hu hret
  refine wpAny_call ?_
  k_dflt cell_enter
  k_steps
  exact hret _ [] _ _ (by k_asm) (ktn_tl0 (by k_asm)) ktn_ord0 ⟨rfl, _, rfl⟩

def nfold (l : List Nat) (v : Nat) : Nat := l.foldl (fun a c => a ^^^ c) v
def cks (x : Str) : Nat := nfold x.cps.toList 0
theorem kst_codes (x : Str) : (KStt.codes x).map Int.toNat = x.cps.toList := by
  unfold KStt.codes
  rw [List.map_map]
  exact (List.map_congr_left (g := _root_.id) fun c _ => Int.toNat_natCast c).trans (List.map_id _)
theorem nfold_snoc (l : List Int) (n : Nat) : nfold ((l ++ [(n : Int)]).map Int.toNat) 0 = nfold (l.map Int.toNat) 0 ^^^ n := by
  simp [nfold]
theorem sum_turn {pre : List Int} {n : Nat} {v : Int} (h : v = ((nfold (pre.map Int.toNat) 0 : Nat) : Int)) : v + (n : Int) - 2 * Builtin.bitAnd v (n : Int) = ((nfold ((pre ++ [(n : Int)]).map Int.toNat) 0 : Nat) : Int) := by
  rw [nfold_snoc, h, flip_val]
theorem sum_tell (w : World) (news : List (Addr × Obj)) (x : Str) (t : Tok) : Tell w 276 1 64 [.str x t] news (fun r tl => tl = [] ∧ ∃ t', r = .int (cks x) t') := by
  unfold Tell; k_fill
  intro mean mg mb dp un gd cn cs a ccd cl outer A₀ base h₀ L m s Q E B F X N T hk hdp hu hret
  refine wpAny_call ?_
  k_dflt cell_enter
  k_with "state" => first | exact sum_turn (by assumption) | rfl
  k_with "pyIter str" => k_state (fun pre (v : Int) => v = ((nfold (pre.map Int.toNat) 0 : Nat) : Int)) "value"
  k_steps
  rename _ = ((nfold _ 0 : Nat) : Int) => kInv
  rw [kst_codes] at kInv
  subst kInv
  exact hret _ [] _ _ (by k_asm) (ktn_tl0 (by k_asm)) ktn_ord0 ⟨rfl, _, rfl⟩
end Mine
end
section
open PySem PySem.W PyProof.Rows PySem.Calls PySem.Spec
namespace Mine
theorem typeCall_int_2 (a b : Value) : checkTypeCall "int" ⟨[a, b], []⟩ = pure () := by kernel_rfl
theorem newCall_int_2 (a b : Value) : checkBuiltinCall "int.__new__" ⟨[.type "int", a, b], []⟩ = pure () := by kernel_rfl

theorem wp_hex {M : Model} {A : Around} {E : Value → Shared → Prop} {s : Shared} {Q : Value → Shared → Prop} {v : Value} {text : List Nat} {n : Int}
    (hs : (text.takeWhile (· != 0)).length ≤ 640) (hr : (int_private% "readNumeral") 0 16 (text.takeWhile (· != 0)) = (int_private% "Numeral.value") n)
    (ha : ((text.takeWhile (· != 0)).length == text.length) = true) (h : Q (.int n s.toks) { s with toks := s.toks + 1 }) :
    wpAny M A ((int_private% "intFromText") v text 16) Q E s := by
  obtain ⟨hp, g, d, tk, os⟩ := s
  repeat (any_goals (first
    | assumption
    | (with_reducible refine wpAny_ite_true (decide_eq_true hs) ?_)
    | (with_reducible refine wpAny_ite_true (decide_eq_true ha) ?_)
    | wp_step))
  all_goals (try rw [hr])
  all_goals (try dsimp only)
  repeat (any_goals (first
    | assumption
    | (with_reducible refine wpAny_ite_true (decide_eq_true hs) ?_)
    | (with_reducible refine wpAny_ite_true (decide_eq_true ha) ?_)
    | wp_step))

structure HexIs (x : Str) (n : Int) : Prop where
  asc : x.cps.all (· < 128) = true
  len : (x.cps.toList.takeWhile (· != 0)).length ≤ 640
  val : (int_private% "readNumeral") 0 16 (x.cps.toList.takeWhile (· != 0)) = (int_private% "Numeral.value") n
  same : ((x.cps.toList.takeWhile (· != 0)).length == x.cps.toList.length) = true

theorem gives_hex {x : PySem.Str} {u u2 : Tok} {n : Int} (hx : HexIs x n) : Gives (Builtin.«int.__new__» ⟨[.type "int", .str x u, .int 16 u2], []⟩) (.int n) :=
  .of_wp fun M A E s Q h => by
    obtain ⟨hp, g, d, tk, os⟩ := s
    have f1 := PySem.F.conv_sub_int
    have f2 := PySem.F.madeHere_int
    have f6 : typeOf (.str x u) = pure (.type "str") := rfl
    have f7 := hx.asc
    repeat (any_goals (first
      | assumption
      | ((with_reducible show wpAny _ _ ((int_private% "intFromText") _ _ _) _ _ _); rw [if_pos f7]; refine wp_hex hx.len hx.val hx.same ?_)
      | wp_step))
    exact ⟨_, rfl, h⟩

theorem call_hex {prog : Program} {w : World} {A : Around} {E : Value → Shared → Prop} {s : Shared} {Q : Value → Shared → Prop} {x : Str} {t u : Tok} {n : Int} (hx : HexIs x n) (h : Q (.int n s.toks) { s with toks := s.toks + 1 }) :
    wpAny (model prog w) A (call (.type "int") [.str x t, .int 16 u]) Q E s :=
  callType_new PySem.F.called_int PySem.F.newNe_int (typeCall_int_2 _ _) (newCall_int_2 _ _) (fun obj => PySem.F.args_object_init_3 obj _ _) PySem.F.entry_int_new (gives_hex hx).meets (show (Made.int n).post _ s from ⟨rfl, h⟩)

def hexDigs : List Nat := [48, 49, 50, 51, 52, 53, 54, 55, 56, 57, 65, 66, 67, 68, 69, 70, 97, 98, 99, 100, 101, 102]
def hexV (i : Nat) : Nat := if i < 16 then i else i - 6
theorem hex_of (num : (int_private% "Numeral")) (n : Int) (h : (int_private% "Numeral.rec") (motive := fun _ => Bool) false (fun _ => false) false (fun i => i == n) num = true) : num = (int_private% "Numeral.value") n := by
  cases num with
  | value i => rw [show i = n from by simpa using h]
  | _ => exact (Bool.false_ne_true h).elim
theorem hex_all : ∀ i < 22, ∀ j < 22, ((int_private% "Numeral.rec") (motive := fun _ => Bool) false (fun _ => false) false (fun i' => i' == ((16 * hexV i + hexV j : Nat) : Int)) ((int_private% "readNumeral") 0 16 [hexDigs.getD i 0, hexDigs.getD j 0])) = true := by
  decide +kernel
theorem hex_dig : ∀ i < 22, (hexDigs.getD i 0 != 0) = true ∧ hexDigs.getD i 0 < 128 := by decide
theorem hexIs {i j : Nat} (hi : i < 22) (hj : j < 22) : HexIs ⟨#[hexDigs.getD i 0, hexDigs.getD j 0]⟩ ((16 * hexV i + hexV j : Nat) : Int) := by
  have e : (⟨#[hexDigs.getD i 0, hexDigs.getD j 0]⟩ : Str).cps.toList.takeWhile (· != 0) = [hexDigs.getD i 0, hexDigs.getD j 0] := by
    simp only [List.takeWhile_cons, (hex_dig i hi).1, (hex_dig j hj).1, if_true, List.takeWhile_nil]
  refine ⟨?_, ?_, ?_, ?_⟩
  · have h1 := (hex_dig i hi).2
    have h2 := (hex_dig j hj).2
    simp only [List.getD_eq_getElem?_getD] at h1 h2
    simp [h1, h2]
  · rw [e]; exact Nat.le_of_ble_eq_true rfl
  · rw [e]; exact hex_of _ _ (hex_all i hi j hj)
  · rw [e]; rfl
end Mine
end
section
open PySem PySem.W PyProof.Rows PySem.Calls PySem.Spec
namespace Mine
def wl (x : Str) (n : Int) : Bool := ((x.length : Int) == n) && Txt.isalnum (Txt.replace x (Str.ofString "_") (Str.ofString "a"))
theorem word_tell (w : World) (news : List (Addr × Obj)) (x : Str) (n : Int) (t t2 : Tok) (hx : x.length ≤ 1000) : Tell w 98 1 64 [.str x t, .int n t2] news (fun r tl => tl = [] ∧ r = .bool (wl x n)) := by
  unfold Tell; k_fill
  intro mean mg mb dp un gd cn cs a ccd cl outer A₀ base h₀ L m s Q E B F X N T hk hdp hu hret
  refine wpAny_call ?_
  k_dflt cell_enter
  k_steps
  · exact hret _ [] _ _ (by k_asm) (ktn_tl0 (by k_asm)) ktn_ord0 ⟨rfl, by rename (_ : Int) = n => e; simp [wl, e]⟩
  · exact hret _ [] _ _ (by k_asm) (ktn_tl0 (by k_asm)) ktn_ord0 ⟨rfl, by rename (_ : Int) ≠ n => e; simp [wl, e]⟩

theorem xfold_nat (l : List Nat) : ∀ v : Nat, xfold l (v : Int) = ((nfold l v : Nat) : Int) := by
  induction l with
  | nil => intro v; rfl
  | cons a l ih =>
    intro v
    have := ih (v ^^^ a)
    simp only [xfold, nfold, List.foldl_cons] at this ⊢
    rw [bitXor_nat]
    exact this

section
variable {w : World} {f : Addr} {d u : Nat} {vs : List Value} {news : List (Addr × Obj)} {Out : Value → List (Addr × Obj) → Prop}
theorem Tell.use (C : Tell w f d u vs news Out) {mean : ExcName → Option Value} {mg mb : Str → Option Value} {dp un : Nat} {gd : Option (List Code)} {cn : Str} {cs : Scope} {a : Addr} {ccd : Value} {cl : List (Str × Addr)} {outer : List Env} {A₀ : Around} {base h₀ : Heap} {L : Addr} {m : Str → Option Value} {s : Shared} {Q E : Value → Shared → Prop}
    (B : Below A₀ base outer h₀) (F : Fr h₀ L s.heap m) (X : (hd.heap_39 w.params).In h₀) (N : News h₀ L s.heap news) (T : Top hd.view_39 (looseW hd.view_39 [Str.ofString "NMEASentence", Str.ofString "TXT", Str.ofString "_law_signs"]) mean mg mb h₀) (hk : cs.kind = .function)
    (hdp : dp + d < recursionLimit) (hu : un + u < cLine)
    (ret : ∀ r tl h' tk', Fr h₀ L h' m → News h₀ L h' (news ++ tl) → (∀ q ∈ news, ∀ p ∈ tl, q.1 < p.1) → Out r tl → Q r { s with heap := h', toks := tk' }) :
    wpAny (model PySem.Challenge.rw_ez0281_01.row.prog w) (ktrTop dp un gd cn cs L a ccd cl outer) (call (.ref f) vs) Q E s := C _ _ _ _ _ _ _ _ _ _ _ _ _ _ _ _ _ _ _ _ B F X N T hk hdp hu ret
/-- a call that makes nothing the caller can see -/
theorem Tell.use0 {r₀ : Value → Prop} (C : Tell w f d u vs news (fun r tl => tl = [] ∧ r₀ r)) {mean : ExcName → Option Value} {mg mb : Str → Option Value} {dp un : Nat} {gd : Option (List Code)} {cn : Str} {cs : Scope} {a : Addr} {ccd : Value} {cl : List (Str × Addr)} {outer : List Env} {A₀ : Around} {base h₀ : Heap} {L : Addr} {m : Str → Option Value} {s : Shared} {Q E : Value → Shared → Prop}
    (B : Below A₀ base outer h₀) (F : Fr h₀ L s.heap m) (X : (hd.heap_39 w.params).In h₀) (N : News h₀ L s.heap news) (T : Top hd.view_39 (looseW hd.view_39 [Str.ofString "NMEASentence", Str.ofString "TXT", Str.ofString "_law_signs"]) mean mg mb h₀) (hk : cs.kind = .function)
    (hdp : dp + d < recursionLimit) (hu : un + u < cLine)
    (ret : ∀ r h' tk', r₀ r → Fr h₀ L h' m → News h₀ L h' news → Q r { s with heap := h', toks := tk' }) :
    wpAny (model PySem.Challenge.rw_ez0281_01.row.prog w) (ktrTop dp un gd cn cs L a ccd cl outer) (call (.ref f) vs) Q E s :=
  C.use B F X N T hk hdp hu fun r tl h' tk' F' N' _ ho => by
    obtain ⟨rfl, hr⟩ := ho
    rw [List.append_nil] at N'
    exact ret r h' tk' hr F' N'
end
theorem chk_tell' (w : World) (news : List (Addr × Obj)) (x : Str) (t : Tok) (ha : x.cps.all (· < 128) = true) : Tell w 113 1 64 [.str x t] news (fun r tl => tl = [] ∧ ∃ t', r = .int (cks x) t') := by
  have h := chk_tell w news x t ha
  have e : xfold x.cps.toList 0 = ((cks x : Nat) : Int) := xfold_nat _ 0
  rw [e] at h
  exact h
end Mine
end
section
open PySem PySem.W PyProof.Rows PySem.Calls PySem.Spec
namespace Mine
theorem fmt_codes : Str.ofString "checksum does not match: %02X != %02X" = ⟨#[99, 104, 101, 99, 107, 115, 117, 109, 32, 100, 111, 101, 115, 32, 110, 111, 116, 32, 109, 97, 116, 99, 104, 58, 32, 37, 48, 50, 88, 32, 33, 61, 32, 37, 48, 50, 88]⟩ := by decide +kernel
def f0 : Builtin.Str.Percent := { zero := true, width := some 2, type := 88 }
theorem fld_all : ∀ v : Nat, v < 256 → (match Builtin.Str.percentField f0 true (Builtin.Str.percentInt f0 (decide ((v : Int) < 0)) ((Nat.toDigits 16 v).map Char.toNat)) with | none => (Builtin.Str.percentInt f0 (decide ((v : Int) < 0)) ((Nat.toDigits 16 v).map Char.toNat)).length | some l => l.length) ≤ 4 := by decide +kernel
theorem fld_none {v : Nat} (hv : v < 256) (h : Builtin.Str.percentField f0 true (Builtin.Str.percentInt f0 (decide ((v : Int) < 0)) ((Nat.toDigits 16 v).map Char.toNat)) = none) : (⟨(Builtin.Str.percentInt f0 (decide ((v : Int) < 0)) ((Nat.toDigits 16 v).map Char.toNat)).toArray⟩ : Str).length ≤ 4 := by
  have := fld_all v hv
  rw [h] at this
  simpa [Str.length] using this
theorem fld_some {v : Nat} {l : List Nat} (hv : v < 256) (h : Builtin.Str.percentField f0 true (Builtin.Str.percentInt f0 (decide ((v : Int) < 0)) ((Nat.toDigits 16 v).map Char.toNat)) = some l) : (⟨l.toArray⟩ : Str).length ≤ 4 := by
  have := fld_all v hv
  rw [h] at this
  simpa [Str.length] using this
theorem pf_match {α : Type} {M : Model} {A : Around} {E : Value → Shared → Prop} {s : Shared} {Q : α → Shared → Prop} {f : Builtin.Str.Percent} {num : Bool} {text : List Nat} {a : Sem α} {b : List Nat → Sem α}
    (hn : Builtin.Str.percentField f num text = none → wpAny M A a Q E s) (hs : ∀ l, Builtin.Str.percentField f num text = some l → wpAny M A (b l) Q E s) :
    wpAny M A (match Builtin.Str.percentField f num text with | none => a | some l => b l) Q E s := by
  cases h : Builtin.Str.percentField f num text with
  | none => exact hn h
  | some l => exact hs l h
section
variable {prog : Program} {w : World} {A : Around} {E : Value → Shared → Prop} {s : Shared} {t : Tok} {Q : Value → Shared → Prop} {b L : Addr} {n : Nat} {h₀ : Heap} {news : List (Addr × Obj)}
theorem m_fmt {x y : Int} {tx ty : Tok} (N : News h₀ L s.heap news) (hb : (b, ({ cls := .type "tuple", data := .seq #[.int x tx, .int y ty] n } : Obj)) ∈ news)
    (hx : 0 ≤ x) (hx' : x < 256) (hy : 0 ≤ y) (hy' : y < 256) (h : ∀ r t' k, Q (.str r t') { s with toks := k }) :
    wpAny (model prog w) A (binaryOp .Mod (.str (Str.ofString "checksum does not match: %02X != %02X") t) (.ref b)) Q E s := by
  have hg := (N _ hb).1
  rw [fmt_codes]
  have hT : s.TypeIs (.ref b) "tuple" := ⟨_, hg, rfl⟩
  refine KPt.bin_left (T := "str") (U := "tuple") (op := .Mod) (by decide) (typeIs_str s _ t) hT PySem.F.fills_str_mod KPt.fills_tuple PySem.F.slot_str_mod ?_
  refine wpAny_call_entry PySem.F.slot_str_mod (typeIs_str s _ t) PySem.F.entry_str_mod ?_ (PySem.F.args_str_mod_2 _ _)
  rw [KPt.entry_is_r]
  unfold Builtin.Str.percentFormat
  refine wpAny_bind (wpAny_isInstance (T := "tuple") hT KPt.sub_tt ?_)
  refine wpAny_bind (KPt.asStr_ref hg rfl ?_)
  refine wpAny_bind (KPt.fills_ref hT ?_)
  intro _
  kpc_if
  refine wpAny_bind (wpAny_seqItems hg rfl ?_)
  refine wpAny_bind (wpAny_pure ?_)
  refine wpAny_bind ?_
  rw [KPc.range_list]
  refine KPc.start ?_
  intro _ _
  refine KPc.turn ?_
  kpc_check
  repeat kpc_if
  refine wpAny_pure ?_
  kpt_piece
  obtain ⟨vx, rfl⟩ := Int.eq_ofNat_of_zero_le hx
  obtain ⟨vy, rfl⟩ := Int.eq_ofNat_of_zero_le hy
  refine KPc.turn ?_
  kpc_check
  repeat kpc_if
  refine wpAny_bind (wpAny_holding ?_)
  repeat kpc_if
  refine wpAny_bind (wpAny_of_eq (a := (vx : Int)) rfl ?_)
  repeat kpc_if
  refine wpAny_bind (wpAny_pure ?_)
  refine wpAny_pure ?_
  have hvx : vx < 256 := by omega
  have hvy : vy < 256 := by omega
  rename KPc.Good _ _ _ => g1
  replace g1 := KPc.good_mono (K := 30) g1 (by decide +kernel)
  refine pf_match (f := f0) (num := true) (text := Builtin.Str.percentInt f0 (decide ((vx : Int) < 0)) ((Nat.toDigits 16 vx).map Char.toNat)) (fun hf => ?_) (fun lf hf => ?_)
  all_goals
    refine wpAny_pure ?_
    refine KPc.after_add g1 rfl (KPc.obj_none rfl) ?_
    intro w2 g2
    replace g2 := KPc.good_mono (K := 34) g2 (Nat.add_le_add_left (by first | exact fld_none hvx hf | exact fld_some hvx hf) _)
    obtain ⟨T2, g2⟩ : ∃ T, KPc.Good w2 T 34 := ⟨_, g2⟩
    clear g1
    refine KPc.turn ?_
    refine wpAny_ite (KPc.ite_no (KPc.short_good g2 (by decide +kernel)) ?_)
    repeat kpc_if
    refine wpAny_pure ?_
    refine KPc.after_add g2 rfl (KPc.obj_none rfl) ?_
    intro w3 g3
    replace g3 := KPc.good_mono (K := 40) g3 (by decide +kernel)
    obtain ⟨T3, g3⟩ : ∃ T, KPc.Good w3 T 40 := ⟨_, g3⟩
    clear g2 hf
    refine KPc.turn ?_
    refine wpAny_ite (KPc.ite_no (KPc.short_good g3 (by decide +kernel)) ?_)
    repeat kpc_if
    refine wpAny_bind (wpAny_holding ?_)
    repeat kpc_if
    refine wpAny_bind (wpAny_of_eq (a := (vy : Int)) rfl ?_)
    repeat kpc_if
    refine wpAny_bind (wpAny_pure ?_)
    refine wpAny_pure ?_
    refine pf_match (f := f0) (num := true) (text := Builtin.Str.percentInt f0 (decide ((vy : Int) < 0)) ((Nat.toDigits 16 vy).map Char.toNat)) (fun hf => ?_) (fun lf hf => ?_)
    all_goals
      refine wpAny_pure ?_
      refine KPc.after_add g3 rfl (KPc.obj_none rfl) ?_
      intro w4 g4
      replace g4 := KPc.good_mono (K := 44) g4 (Nat.add_le_add_left (by first | exact fld_none hvy hf | exact fld_some hvy hf) _)
      obtain ⟨T4, g4⟩ : ∃ T, KPc.Good w4 T 44 := ⟨_, g4⟩
      clear g3 hf
      refine KPc.turn ?_
      refine wpAny_ite (KPc.ite_no (KPc.short_good g4 (by decide +kernel)) ?_)
      repeat kpc_if
      refine wpAny_pure ?_
      dsimp only
      repeat kpc_if
      refine KPc.finish_ok g4 (by decide +kernel) rfl ?_
      intro t' k
      exact ⟨_, rfl, (fun e => nomatch e), h _ _ _⟩
end
end Mine
end
section
open PySem PySem.W PyProof.Rows PySem.Calls PySem.Spec
namespace Mine
def TellL (w : World) (f : Addr) (vs : List Value) (news : List (Addr × Obj)) (Out : Value → List (Addr × Obj) → Prop) : Prop :=
  ∀ (mean : ExcName → Option Value) (mg mb : Str → Option Value) (cn : Str) (cs : Scope) (a : Addr) (ccd : Value) (h₀ : Heap) (L : Addr) (m : Str → Option Value) (s : Shared) (Q E : Value → Shared → Prop),
    Below callerA h₀ [] h₀ → Fr h₀ L s.heap m → (hd.heap_39 w.params).In h₀ → News h₀ L s.heap news → Top hd.view_39 (looseW hd.view_39 [Str.ofString "NMEASentence", Str.ofString "TXT", Str.ofString "_law_signs"]) mean mg mb h₀ → cs.kind = .function →
    (∀ r tl h' tk', Fr h₀ L h' m → News h₀ L h' (tl ++ news) → (∀ q ∈ news, ∀ p ∈ tl, q.1 < p.1) → Out r tl → Q r { s with heap := h', toks := tk' }) →
    wpAny (model PySem.Challenge.rw_ez0281_01.row.prog w) (callerA.deeper (envOf cn cs L a ccd)) (call (.ref f) vs) Q E s
theorem strs_dat {X : List (Addr × Obj)} : ∀ l : List (Str × Tok), DatAll X (strValues l) ((l.map (·.1)).map Dat.str)
  | [] => .nil
  | p :: l => .cons (.str p.1 p.2) (strs_dat l)
section
variable {h₀ h' : Heap} {L : Addr} {m : Str → Option Value} {news X : List (Addr × Obj)} {s : Shared} {Q : Value → Shared → Prop} {tk' : Nat}
theorem m_end1 {l : Addr} {k : Nat} {vs : List Value} {ds : List Dat} (ret : ∀ r tl h' tk', Fr h₀ L h' m → News h₀ L h' (tl ++ news) → (∀ q ∈ news, ∀ p ∈ tl, q.1 < p.1) → DatIn tl r (.list ds) → Q r { s with heap := h', toks := tk' })
    (F : Fr h₀ L h' m) (N : News h₀ L h' X) (h1 : (l, listOf vs.toArray k) ∈ X) (hs : ∀ p ∈ news, p ∈ X) (hd : DatAll [(l, listOf vs.toArray k)] vs ds) (hf : ∀ p ∈ news, p.1 < l) : Q (.ref l) { s with heap := h', toks := tk' } :=
  ret _ [(l, listOf vs.toArray k)] h' tk' F (fun p hp => by
    rcases List.mem_cons.mp hp with rfl | hp
    · exact N _ h1
    · exact N _ (hs p hp)) (fun q hq p hp => by rw [List.mem_singleton.mp hp]; exact hf q hq) (.list (List.Mem.head _) hd)
theorem m_end2 {l l2 : Addr} {k k2 : Nat} {u : Tok} {ps : List (Str × Tok)} {ts : List Str} (ret : ∀ r tl h' tk', Fr h₀ L h' m → News h₀ L h' (tl ++ news) → (∀ q ∈ news, ∀ p ∈ tl, q.1 < p.1) → DatIn tl r (.list [.str (Str.ofString "taken"), .bool true, .list (ts.map .str)]) → Q r { s with heap := h', toks := tk' })
    (F : Fr h₀ L h' m) (N : News h₀ L h' X) (h1 : (l, listOf [Value.str (Str.ofString "taken") u, .bool true, .ref l2].toArray k) ∈ X) (h2 : (l2, listOf (strValues ps).toArray k2) ∈ X) (ht : ps.map (·.1) = ts) (hs : ∀ p ∈ news, p ∈ X) (hf : ∀ p ∈ news, p.1 < l) (hf2 : ∀ p ∈ news, p.1 < l2) : Q (.ref l) { s with heap := h', toks := tk' } := by
  subst ht
  refine ret _ [(l, listOf [Value.str (Str.ofString "taken") u, .bool true, .ref l2].toArray k), (l2, listOf (strValues ps).toArray k2)] h' tk' F (fun p hp => ?_) (fun q hq p hp => ?_) (.list (List.Mem.head _) (.cons (.str _ _) (.cons (.bool _) (.cons (.list (List.Mem.tail _ (List.Mem.head _)) (strs_dat ps)) .nil))))
  rcases List.mem_cons.mp hp with rfl | hp
  · exact N _ h1
  · rcases List.mem_cons.mp hp with rfl | hp
    · exact N _ h2
    · exact N _ (hs p hp)
  · rcases List.mem_cons.mp hp with rfl | hp
    · exact hf q hq
    · rw [List.mem_singleton.mp hp]
      exact hf2 q hq
end
theorem allLt_all {d : Nat} : ∀ {r : List (Addr × Obj)}, AllLt d r → ∀ p ∈ r, @LT.lt Nat _ p.1 d
  | [], _, _, hp => nomatch hp
  | a :: r, h, p, hp => by
    rcases List.mem_cons.mp hp with e | hp
    · rw [e]; exact And.left h
    · exact allLt_all (And.right h) p hp
section
variable {d : Nat} {r : List (Addr × Obj)} {a b c e f g i : Prop}
theorem lt_and1 (h : a ∧ AllLt d r) : ∀ p ∈ r, @LT.lt Nat _ p.1 d := allLt_all h.2
theorem lt_and2 (h : a ∧ b ∧ AllLt d r) : ∀ p ∈ r, @LT.lt Nat _ p.1 d := allLt_all h.2.2
theorem lt_and3 (h : a ∧ b ∧ c ∧ AllLt d r) : ∀ p ∈ r, @LT.lt Nat _ p.1 d := allLt_all h.2.2.2
theorem lt_and4 (h : a ∧ b ∧ c ∧ e ∧ AllLt d r) : ∀ p ∈ r, @LT.lt Nat _ p.1 d := allLt_all h.2.2.2.2
theorem lt_and5 (h : a ∧ b ∧ c ∧ e ∧ f ∧ AllLt d r) : ∀ p ∈ r, @LT.lt Nat _ p.1 d := allLt_all h.2.2.2.2.2
theorem lt_and6 (h : a ∧ b ∧ c ∧ e ∧ f ∧ g ∧ AllLt d r) : ∀ p ∈ r, @LT.lt Nat _ p.1 d := allLt_all h.2.2.2.2.2.2
theorem lt_and7 (h : a ∧ b ∧ c ∧ e ∧ f ∧ g ∧ i ∧ AllLt d r) : ∀ p ∈ r, @LT.lt Nat _ p.1 d := allLt_all h.2.2.2.2.2.2.2
end
theorem m_get_own {prog : Program} {w : World} {A : Around} {E : Value → Shared → Prop} {s : Shared} {K : Frag} {x C dx L : Addr} {h₀ : Heap} {m : Str → Option Value} {ox : Obj} {es : List DictEntry} {n : Nat} {name : Str} {v : Value} {expr : Bool} {Q : Value → Shared → Prop} {attr : Option Value}
    (F : Fr h₀ L s.heap m) (X₀ : K.In h₀) (I : InstAt s.heap x ox C (some (dictOf es n))) (hg : findIn K (.ref C) "__getattribute__" = some (some (.builtin "object.__getattribute__"))) (hh : hasDictIn K C = true)
    (ha : findIn K (.ref C) name = some attr) (hn : noGet K attr = true) (hl : getL name es = some (some v)) (hv : handedIn v = true) (h : Q v { s with toks := s.toks + 1 }) :
    wpAny (model prog w) A (getAttr (.ref x) name expr) Q E s :=
  get_value (X₀.keeps F.keep) I hg (findObj_own hh ha hn hl) hv h
theorem m_truthy_txt {w : World} {h : Heap} (X : (hd.heap_39 w.params).In h) : Looks (model PySem.Challenge.rw_ez0281_01.row.prog w) h (truthy (.ref 261)) true := Looks.of_peek X (by kernel_rfl)
end Mine
end
section
open PySem PySem.W PyProof.Rows PySem.Calls PySem.Spec
namespace Mine
theorem and8 {a b c d e f g i x : Prop} (h : a ∧ b ∧ c ∧ d ∧ e ∧ f ∧ g ∧ i ∧ x) : x := h.2.2.2.2.2.2.2.2
theorem lt_and8 {d : Nat} {r : List (Addr × Obj)} {a1 a2 a3 a4 a5 a6 a7 a8 : Prop} (h : a1 ∧ a2 ∧ a3 ∧ a4 ∧ a5 ∧ a6 ∧ a7 ∧ a8 ∧ AllLt d r) : ∀ p ∈ r, @LT.lt Nat _ p.1 d := allLt_all (and8 h)
theorem lt_and9 {d : Nat} {r : List (Addr × Obj)} {a1 a2 a3 a4 a5 a6 a7 a8 b1 : Prop} (h : a1 ∧ a2 ∧ a3 ∧ a4 ∧ a5 ∧ a6 ∧ a7 ∧ a8 ∧ b1 ∧ AllLt d r) : ∀ p ∈ r, @LT.lt Nat _ p.1 d := allLt_all (and8 h).2
theorem lt_and10 {d : Nat} {r : List (Addr × Obj)} {a1 a2 a3 a4 a5 a6 a7 a8 b1 b2 : Prop} (h : a1 ∧ a2 ∧ a3 ∧ a4 ∧ a5 ∧ a6 ∧ a7 ∧ a8 ∧ b1 ∧ b2 ∧ AllLt d r) : ∀ p ∈ r, @LT.lt Nat _ p.1 d := allLt_all (and8 h).2.2
theorem lt_and11 {d : Nat} {r : List (Addr × Obj)} {a1 a2 a3 a4 a5 a6 a7 a8 b1 b2 b3 : Prop} (h : a1 ∧ a2 ∧ a3 ∧ a4 ∧ a5 ∧ a6 ∧ a7 ∧ a8 ∧ b1 ∧ b2 ∧ b3 ∧ AllLt d r) : ∀ p ∈ r, @LT.lt Nat _ p.1 d := allLt_all (and8 h).2.2.2
theorem lt_and12 {d : Nat} {r : List (Addr × Obj)} {a1 a2 a3 a4 a5 a6 a7 a8 b1 b2 b3 b4 : Prop} (h : a1 ∧ a2 ∧ a3 ∧ a4 ∧ a5 ∧ a6 ∧ a7 ∧ a8 ∧ b1 ∧ b2 ∧ b3 ∧ b4 ∧ AllLt d r) : ∀ p ∈ r, @LT.lt Nat _ p.1 d := allLt_all (and8 h).2.2.2.2
theorem lt_and13 {d : Nat} {r : List (Addr × Obj)} {a1 a2 a3 a4 a5 a6 a7 a8 b1 b2 b3 b4 b5 : Prop} (h : a1 ∧ a2 ∧ a3 ∧ a4 ∧ a5 ∧ a6 ∧ a7 ∧ a8 ∧ b1 ∧ b2 ∧ b3 ∧ b4 ∧ b5 ∧ AllLt d r) : ∀ p ∈ r, @LT.lt Nat _ p.1 d := allLt_all (and8 h).2.2.2.2.2
end Mine
end
section
open PySem PySem.W PyProof.Rows PySem.Calls PySem.Spec
namespace Mine
local macro_rules | `(tactic| walk_at "m_use0") => `(tactic| ((case B => k_asm); (case F => k_asm); (case X => k_asm); (case N => k_asm); (case T => k_asm); (case K => first | exact rfl | assumption); (case d => ktr_room); (case u => ktr_units); k_whole))
local macro_rules | `(tactic| walk_at "call ref") => `(tactic| (k_here; k_dflt (refine' (word_tell _ _ _ _ _ _ ?hx).use0 ?B ?F ?X ?N ?T ?K ?d ?u ?_; (walk_at "m_use0"); (case hx => k_extra "word len")); intro r' h' tk' e' F' N'; subst e'))
local macro_rules | `(tactic| walk_at "call ref") => `(tactic| (k_here; k_dflt (refine' (chk_tell' _ _ _ _ ?ha).use0 ?B ?F ?X ?N ?T ?K ?d ?u ?_; (walk_at "m_use0"); (case ha => k_extra "chk ascii")); intro r' h' tk' e' F' N'; obtain ⟨t', e'⟩ := e'; subst e'))
local macro_rules | `(tactic| walk_at "storeName") => `(tactic| (k_here; k_extra "m rw"))
local macro_rules | `(tactic| walk_at "spliced") => `(tactic| (k_here; k_extra "m rw"))
local macro_rules | `(tactic| walk_at "compareOp") => `(tactic| (k_here; k_extra "m rw"))
local macro_rules | `(tactic| walk_at "truthy") => `(tactic| (k_here; k_extra "m rw"))
local macro_rules | `(tactic| walk_at "ite") => `(tactic| (k_here; k_extra "m rw"))
local macro_rules | `(tactic| walk_at "call type:int") => `(tactic| (k_here; refine call_hex (by assumption) ?_))
local macro_rules | `(tactic| walk_at "exec Raise some none") => `(tactic| (k_here; (with_reducible show wpAny _ _ (exec (Stmt.Raise (some (Expr.Call (Expr.Name (Str.ofString "ChecksumError") _) _ _ _)) none _) _) _ _ _); refine m_Raise 89 (exc89 _) rfl ?_))
local macro_rules | `(tactic| walk_at "exec Raise some none") => `(tactic| (k_here; (with_reducible show wpAny _ _ (exec (Stmt.Raise (some (Expr.Call (Expr.Name (Str.ofString "ParseError") _) _ _ _)) none _) _) _ _ _); refine m_Raise 64 (exc64 _) rfl ?_))
local macro_rules | `(tactic| walk_at "call ref") => `(tactic| (k_here; k_dflt (first | refine' exc_make (exc89 _) ?F ?X ?T ?d ?u ?_ | refine' exc_make (exc64 _) ?F ?X ?T ?d ?u ?_); (case F => k_asm); (case X => k_asm); (case T => k_asm); (case d => ktr_room); (case u => ktr_units); k_whole; intro h' tk' e' t' M'; refine' RaisedNew.of ?rF ?rX M' ?_; (case rF => k_asm); (case rX => k_asm)))
local macro_rules | `(tactic| walk_at "binaryOp Mod str ref") => `(tactic| (k_here; k_dflt (refine' m_fmt ?N ?b ?x1 ?x2 ?y1 ?y2 ?_; (case N => k_asm); (case b => k_mem); (case x1 => k_extra "fmt"); (case x2 => k_extra "fmt"); (case y1 => k_extra "fmt"); (case y2 => k_extra "fmt")); intro r' t' k'))
local macro_rules | `(tactic| walk_at "truthy ref") => `(tactic| (k_here; k_dflt (refine' Looks.here (m_truthy_txt ?X) ?_; (case X => k_in))))
local macro_rules | `(tactic| walk_at "getAttr ref") => `(tactic| (k_here; (with_reducible show wpAny _ _ (getAttr _ (Str.ofString "data") _) _ _ _); k_dflt (refine' m_get_own ?k1 ?k2 ?k3 ?k4 ?k5 ?k6 ?k7 ?k8 ?k9 ?_; (case k1 => k_asm); (case k2 => k_asm); (case k3 => k_inst); (case k4 => k_is); (case k5 => k_is); (case k6 => k_is); (case k7 => k_is); (case k8 => k_get); (case k9 => k_handed); k_whole)))
local macro_rules | `(tactic| walk_at "call builtin:isinstance") => `(tactic| (k_here; k_dflt (refine' isi_call ?k1 ?k2 ?k3 ?k4 ?_; (case k1 => exact Frag.In.keeps (by k_asm) (Fr.keep (by k_asm))); (case k2 => (intro M; refine' InstAt.type ?it; (case it => (refine' InstAt.of_news ?iN ?ih1 ?ih2; (case iN => k_asm); (case ih1 => k_mem); (case ih2 => k_mem))))); (case k3 => k_is); (case k4 => intro e; cases e); k_whole)))
local macro_rules | `(tactic| walk_at "call type:list") => `(tactic| (k_here; k_dflt (refine' list_copyK ?k1 ?k2 ?k3 ?_ ?z; (case k1 => k_asm); (case k2 => k_asm); (case k3 => is_list); (case z => k_extra "list fits"); k_whole); intro D' c' h' F' N' l1; (try k_lt l1); (try k_sweep)))
local macro_rules | `(tactic| walk_at "lt news") => `(tactic| first | assumption | exact allLt_all (by assumption) | exact lt_and1 (by assumption) | exact lt_and2 (by assumption) | exact lt_and3 (by assumption) | exact lt_and4 (by assumption) | exact lt_and5 (by assumption) | exact lt_and6 (by assumption) | exact lt_and7 (by assumption) | exact lt_and8 (by assumption) | exact lt_and9 (by assumption) | exact lt_and10 (by assumption) | exact lt_and11 (by assumption) | exact lt_and12 (by assumption) | exact lt_and13 (by assumption))
theorem told_A (w : World) (news : List (Addr × Obj)) (line pre n tail a1 a4 a46 a69 a5 a56 cc ws text a6 : Str) (t : Tok) (hlen : line.length ≤ 200) (hls : Txt.lstrip line = line) (hp1 : (Txt.partition line (Str.ofString "*")).1 = pre) (hp2 : (Txt.partition line (Str.ofString "*")).2.1 = Str.ofString "*") (hp3 : (Txt.partition line (Str.ofString "*")).2.2 = tail)
    (lpre : pre.length ≤ 200) (lc : cc.length = 2) (lw : ws.length ≤ 100) (ltx : text.length ≤ 100) (ln : n.length ≤ 100) (lt : tail.length ≤ 100) (lt2 : 2 ≤ tail.length) (l4 : a4.length ≤ 100) (l5 : a5.length ≤ 100) (l69 : a69.length ≤ 100) (la : n.cps.all (· < 128) = true)
    (s1 : Txt.slice pre none (some 1) = Str.ofString "$") (s2 : Txt.slice pre (some 1) none = n) (s3 : Txt.slice n none (some 1) = a1) (s4 : Txt.slice n none (some 4) = a4) (s5 : Txt.slice n (some 4) (some 6) = a46) (s6 : Txt.slice n (some 6) (some 9) = a69) (s7 : Txt.slice n none (some 5) = a5) (s8 : Txt.slice n (some 5) (some 6) = a56)
    (t2 : Txt.slice tail none (some 2) = cc) (t3 : Txt.stripChars cc (Str.ofString "0123456789ABCDEFabcdef") = Str.ofString "") (t4 : Txt.slice tail (some 2) none = ws) (t5 : Txt.strip ws = Str.ofString "") (u3 : Txt.slice n (some 6) none = text)
    (f1 : ([Str.ofString "P", Str.ofString "p"].any fun x => x == a1) = false)
    (w4 : wl a4 4 = true) (f46 : ([Str.ofString "Q,", Str.ofString "q,"].any fun x => x == a46) = false) (w69 : True) (w5 : wl a5 5 = true) (f56 : (a56 == Str.ofString ",") = true)
    (hv : HexIs cc ((cks n : Nat) : Int)) (l6 : a6.length ≤ 100) (u1 : Txt.slice n none (some 6) = a6) (u2 : Txt.upper a6 = Str.ofString "GPTXT,") :
    TellL w 290 [.str line t] news (fun r tl => DatIn tl r (.list [.str (Str.ofString "taken"), .bool true, .list ((Txt.split text (Str.ofString ",")).map .str)])) := by
  unfold TellL; k_fill
  intro mean mg mb cn cs a ccd h₀ L m s Q E B F X N T hk hret
  refine wpAny_call ?_
  k_dflt (refine' code_defS0 ?k1 ?k2 ?k3 ?k4 ?k5 ?kA ?k6 ?k7 ?k8 ?k9 ?kB ?_ ?cK ?c2 ?c3 ?c4 ?c5; (case kA => exact rfl); (case k2 => k_asm); (case k1 => k_asm); (case k3 => k_asm); (case k4 => k_asm); (case k5 => k_asm); (case k6 => k_is); (case k7 => k_is); (case k8 => k_room); (case k9 => exact BindsTo.of_eq rfl); (case kB => exact locs rfl); (case cK => assumption); (case c2 => exact rfl); (case c3 => exact rfl); (case c4 => exact rfl); (case c5 => decide); k_whole)
  intro g' L' h' FG' F' N' B' X' T' D'; (try dsimp only); (try k_lift B'); (try k_fold)
  k_with_none
  k_with "m rw" => (simp only [hls, hp1, hp2, hp3, s1, s2, s3, s4, s5, s6, s7, s8, t2, t3, t4, t5, u3, w4, w5, lc, f1, f46, w69, f56, bne_iff_ne, ne_eq, not_false_eq_true, not_true_eq_false, u1, u2, bne_self_eq_false])
  k_with "word len" => (first | exact Nat.le_trans l4 (by decide) | exact Nat.le_trans l5 (by decide) | exact Nat.le_trans l69 (by decide))
  k_with "chk ascii" => exact la
  k_with "fmt" => omega
  k_with "list fits" => (simp only [List.size_toArray, strValues, List.length_map]; exact Nat.le_trans (Nat.le_of_eq (by assumption)) (by rw [sizeLine_eq]; omega))
  k_steps
  all_goals (try k_data)
  exact m_end2 hret (by k_asm) (by k_asm) (by k_mem) (by k_mem) (by assumption) (fun p hp => by (repeat (first | exact hp | refine List.Mem.tail _ ?_))) (by walk_at "lt news") (by walk_at "lt news")

end Mine
end
section
open PySem PySem.W PyProof.Rows PySem.Calls PySem.Spec
namespace Mine
local macro_rules | `(tactic| walk_at "m_use0") => `(tactic| ((case B => k_asm); (case F => k_asm); (case X => k_asm); (case N => k_asm); (case T => k_asm); (case K => first | exact rfl | assumption); (case d => ktr_room); (case u => ktr_units); k_whole))
local macro_rules | `(tactic| walk_at "call ref") => `(tactic| (k_here; k_dflt (refine' (word_tell _ _ _ _ _ _ ?hx).use0 ?B ?F ?X ?N ?T ?K ?d ?u ?_; (walk_at "m_use0"); (case hx => k_extra "word len")); intro r' h' tk' e' F' N'; subst e'))
local macro_rules | `(tactic| walk_at "call ref") => `(tactic| (k_here; k_dflt (refine' (chk_tell' _ _ _ _ ?ha).use0 ?B ?F ?X ?N ?T ?K ?d ?u ?_; (walk_at "m_use0"); (case ha => k_extra "chk ascii")); intro r' h' tk' e' F' N'; obtain ⟨t', e'⟩ := e'; subst e'))
local macro_rules | `(tactic| walk_at "storeName") => `(tactic| (k_here; k_extra "m rw"))
local macro_rules | `(tactic| walk_at "spliced") => `(tactic| (k_here; k_extra "m rw"))
local macro_rules | `(tactic| walk_at "compareOp") => `(tactic| (k_here; k_extra "m rw"))
local macro_rules | `(tactic| walk_at "truthy") => `(tactic| (k_here; k_extra "m rw"))
local macro_rules | `(tactic| walk_at "ite") => `(tactic| (k_here; k_extra "m rw"))
local macro_rules | `(tactic| walk_at "call type:int") => `(tactic| (k_here; refine call_hex (by assumption) ?_))
local macro_rules | `(tactic| walk_at "exec Raise some none") => `(tactic| (k_here; (with_reducible show wpAny _ _ (exec (Stmt.Raise (some (Expr.Call (Expr.Name (Str.ofString "ChecksumError") _) _ _ _)) none _) _) _ _ _); refine m_Raise 89 (exc89 _) rfl ?_))
local macro_rules | `(tactic| walk_at "exec Raise some none") => `(tactic| (k_here; (with_reducible show wpAny _ _ (exec (Stmt.Raise (some (Expr.Call (Expr.Name (Str.ofString "ParseError") _) _ _ _)) none _) _) _ _ _); refine m_Raise 64 (exc64 _) rfl ?_))
local macro_rules | `(tactic| walk_at "call ref") => `(tactic| (k_here; k_dflt (first | refine' exc_make (exc89 _) ?F ?X ?T ?d ?u ?_ | refine' exc_make (exc64 _) ?F ?X ?T ?d ?u ?_); (case F => k_asm); (case X => k_asm); (case T => k_asm); (case d => ktr_room); (case u => ktr_units); k_whole; intro h' tk' e' t' M'; refine' RaisedNew.of ?rF ?rX M' ?_; (case rF => k_asm); (case rX => k_asm)))
local macro_rules | `(tactic| walk_at "binaryOp Mod str ref") => `(tactic| (k_here; k_dflt (refine' m_fmt ?N ?b ?x1 ?x2 ?y1 ?y2 ?_; (case N => k_asm); (case b => k_mem); (case x1 => k_extra "fmt"); (case x2 => k_extra "fmt"); (case y1 => k_extra "fmt"); (case y2 => k_extra "fmt")); intro r' t' k'))
local macro_rules | `(tactic| walk_at "truthy ref") => `(tactic| (k_here; k_dflt (refine' Looks.here (m_truthy_txt ?X) ?_; (case X => k_in))))
local macro_rules | `(tactic| walk_at "getAttr ref") => `(tactic| (k_here; (with_reducible show wpAny _ _ (getAttr _ (Str.ofString "data") _) _ _ _); k_dflt (refine' m_get_own ?k1 ?k2 ?k3 ?k4 ?k5 ?k6 ?k7 ?k8 ?k9 ?_; (case k1 => k_asm); (case k2 => k_asm); (case k3 => k_inst); (case k4 => k_is); (case k5 => k_is); (case k6 => k_is); (case k7 => k_is); (case k8 => k_get); (case k9 => k_handed); k_whole)))
local macro_rules | `(tactic| walk_at "call builtin:isinstance") => `(tactic| (k_here; k_dflt (refine' isi_call ?k1 ?k2 ?k3 ?k4 ?_; (case k1 => exact Frag.In.keeps (by k_asm) (Fr.keep (by k_asm))); (case k2 => (intro M; refine' InstAt.type ?it; (case it => (refine' InstAt.of_news ?iN ?ih1 ?ih2; (case iN => k_asm); (case ih1 => k_mem); (case ih2 => k_mem))))); (case k3 => k_is); (case k4 => intro e; cases e); k_whole)))
local macro_rules | `(tactic| walk_at "call type:list") => `(tactic| (k_here; k_dflt (refine' list_copyK ?k1 ?k2 ?k3 ?_ ?z; (case k1 => k_asm); (case k2 => k_asm); (case k3 => is_list); (case z => k_extra "list fits"); k_whole); intro D' c' h' F' N' l1; (try k_lt l1); (try k_sweep)))
local macro_rules | `(tactic| walk_at "lt news") => `(tactic| first | assumption | exact allLt_all (by assumption) | exact lt_and1 (by assumption) | exact lt_and2 (by assumption) | exact lt_and3 (by assumption) | exact lt_and4 (by assumption) | exact lt_and5 (by assumption) | exact lt_and6 (by assumption) | exact lt_and7 (by assumption) | exact lt_and8 (by assumption) | exact lt_and9 (by assumption) | exact lt_and10 (by assumption) | exact lt_and11 (by assumption) | exact lt_and12 (by assumption) | exact lt_and13 (by assumption))
theorem told_Z (w : World) (news : List (Addr × Obj)) (line pre n tail a1 a4 a46 a69 a5 a56 cc ws text a6 : Str) (t : Tok) (hlen : line.length ≤ 200) (hls : Txt.lstrip line = line) (hp1 : (Txt.partition line (Str.ofString "*")).1 = pre) (hp2 : (Txt.partition line (Str.ofString "*")).2.1 = Str.ofString "*") (hp3 : (Txt.partition line (Str.ofString "*")).2.2 = tail)
    (lpre : pre.length ≤ 200) (lc : cc.length = 2) (lw : ws.length ≤ 100) (ltx : text.length ≤ 100) (ln : n.length ≤ 100) (lt : tail.length ≤ 100) (lt2 : 2 ≤ tail.length) (l4 : a4.length ≤ 100) (l5 : a5.length ≤ 100) (l69 : a69.length ≤ 100) (la : n.cps.all (· < 128) = true)
    (s1 : (a1 == Str.ofString "$") = false) (s2 : pre = n) (s3 : Txt.slice n none (some 1) = a1) (s4 : Txt.slice n none (some 4) = a4) (s5 : Txt.slice n (some 4) (some 6) = a46) (s6 : Txt.slice n (some 6) (some 9) = a69) (s7 : Txt.slice n none (some 5) = a5) (s8 : Txt.slice n (some 5) (some 6) = a56)
    (t2 : Txt.slice tail none (some 2) = cc) (t3 : Txt.stripChars cc (Str.ofString "0123456789ABCDEFabcdef") = Str.ofString "") (t4 : Txt.slice tail (some 2) none = ws) (t5 : Txt.strip ws = Str.ofString "") (u3 : Txt.slice n (some 6) none = text)
    (f1 : ([Str.ofString "P", Str.ofString "p"].any fun x => x == a1) = false)
    (w4 : wl a4 4 = true) (f46 : ([Str.ofString "Q,", Str.ofString "q,"].any fun x => x == a46) = false) (w69 : True) (w5 : wl a5 5 = true) (f56 : (a56 == Str.ofString ",") = true)
    (hv : HexIs cc ((cks n : Nat) : Int)) (l6 : a6.length ≤ 100) (u1 : Txt.slice n none (some 6) = a6) (u2 : Txt.upper a6 = Str.ofString "GPTXT,") :
    TellL w 290 [.str line t] news (fun r tl => DatIn tl r (.list [.str (Str.ofString "taken"), .bool true, .list ((Txt.split text (Str.ofString ",")).map .str)])) := by
  subst s2
  unfold TellL; k_fill
  intro mean mg mb cn cs a ccd h₀ L m s Q E B F X N T hk hret
  refine wpAny_call ?_
  k_dflt (refine' code_defS0 ?k1 ?k2 ?k3 ?k4 ?k5 ?kA ?k6 ?k7 ?k8 ?k9 ?kB ?_ ?cK ?c2 ?c3 ?c4 ?c5; (case kA => exact rfl); (case k2 => k_asm); (case k1 => k_asm); (case k3 => k_asm); (case k4 => k_asm); (case k5 => k_asm); (case k6 => k_is); (case k7 => k_is); (case k8 => k_room); (case k9 => exact BindsTo.of_eq rfl); (case kB => exact locs rfl); (case cK => assumption); (case c2 => exact rfl); (case c3 => exact rfl); (case c4 => exact rfl); (case c5 => decide); k_whole)
  intro g' L' h' FG' F' N' B' X' T' D'; (try dsimp only); (try k_lift B'); (try k_fold)
  k_with_none
  k_with "m rw" => (simp only [hls, hp1, hp2, hp3, s1, s3, s4, s5, s6, s7, s8, t2, t3, t4, t5, u3, w4, w5, lc, f1, f46, w69, f56, bne_iff_ne, ne_eq, not_false_eq_true, not_true_eq_false, u1, u2, bne_self_eq_false])
  k_with "word len" => (first | exact Nat.le_trans l4 (by decide) | exact Nat.le_trans l5 (by decide) | exact Nat.le_trans l69 (by decide))
  k_with "chk ascii" => exact la
  k_with "fmt" => omega
  k_with "list fits" => (simp only [List.size_toArray, strValues, List.length_map]; exact Nat.le_trans (Nat.le_of_eq (by assumption)) (by rw [sizeLine_eq]; omega))
  k_steps
  all_goals (try k_data)
  exact m_end2 hret (by k_asm) (by k_asm) (by k_mem) (by k_mem) (by assumption) (fun p hp => by (repeat (first | exact hp | refine List.Mem.tail _ ?_))) (by walk_at "lt news") (by walk_at "lt news")

end Mine
end
section
open PySem PySem.W PyProof.Rows PySem.Calls PySem.Spec
namespace Mine
local macro_rules | `(tactic| walk_at "m_use0") => `(tactic| ((case B => k_asm); (case F => k_asm); (case X => k_asm); (case N => k_asm); (case T => k_asm); (case K => first | exact rfl | assumption); (case d => ktr_room); (case u => ktr_units); k_whole))
local macro_rules | `(tactic| walk_at "call ref") => `(tactic| (k_here; k_dflt (refine' (word_tell _ _ _ _ _ _ ?hx).use0 ?B ?F ?X ?N ?T ?K ?d ?u ?_; (walk_at "m_use0"); (case hx => k_extra "word len")); intro r' h' tk' e' F' N'; subst e'))
local macro_rules | `(tactic| walk_at "call ref") => `(tactic| (k_here; k_dflt (refine' (chk_tell' _ _ _ _ ?ha).use0 ?B ?F ?X ?N ?T ?K ?d ?u ?_; (walk_at "m_use0"); (case ha => k_extra "chk ascii")); intro r' h' tk' e' F' N'; obtain ⟨t', e'⟩ := e'; subst e'))
local macro_rules | `(tactic| walk_at "storeName") => `(tactic| (k_here; k_extra "m rw"))
local macro_rules | `(tactic| walk_at "spliced") => `(tactic| (k_here; k_extra "m rw"))
local macro_rules | `(tactic| walk_at "compareOp") => `(tactic| (k_here; k_extra "m rw"))
local macro_rules | `(tactic| walk_at "truthy") => `(tactic| (k_here; k_extra "m rw"))
local macro_rules | `(tactic| walk_at "ite") => `(tactic| (k_here; k_extra "m rw"))
local macro_rules | `(tactic| walk_at "call type:int") => `(tactic| (k_here; refine call_hex (by assumption) ?_))
local macro_rules | `(tactic| walk_at "exec Raise some none") => `(tactic| (k_here; (with_reducible show wpAny _ _ (exec (Stmt.Raise (some (Expr.Call (Expr.Name (Str.ofString "ChecksumError") _) _ _ _)) none _) _) _ _ _); refine m_Raise 89 (exc89 _) rfl ?_))
local macro_rules | `(tactic| walk_at "exec Raise some none") => `(tactic| (k_here; (with_reducible show wpAny _ _ (exec (Stmt.Raise (some (Expr.Call (Expr.Name (Str.ofString "ParseError") _) _ _ _)) none _) _) _ _ _); refine m_Raise 64 (exc64 _) rfl ?_))
local macro_rules | `(tactic| walk_at "call ref") => `(tactic| (k_here; k_dflt (first | refine' exc_make (exc89 _) ?F ?X ?T ?d ?u ?_ | refine' exc_make (exc64 _) ?F ?X ?T ?d ?u ?_); (case F => k_asm); (case X => k_asm); (case T => k_asm); (case d => ktr_room); (case u => ktr_units); k_whole; intro h' tk' e' t' M'; refine' RaisedNew.of ?rF ?rX M' ?_; (case rF => k_asm); (case rX => k_asm)))
local macro_rules | `(tactic| walk_at "binaryOp Mod str ref") => `(tactic| (k_here; k_dflt (refine' m_fmt ?N ?b ?x1 ?x2 ?y1 ?y2 ?_; (case N => k_asm); (case b => k_mem); (case x1 => k_extra "fmt"); (case x2 => k_extra "fmt"); (case y1 => k_extra "fmt"); (case y2 => k_extra "fmt")); intro r' t' k'))
local macro_rules | `(tactic| walk_at "truthy ref") => `(tactic| (k_here; k_dflt (refine' Looks.here (m_truthy_txt ?X) ?_; (case X => k_in))))
local macro_rules | `(tactic| walk_at "getAttr ref") => `(tactic| (k_here; (with_reducible show wpAny _ _ (getAttr _ (Str.ofString "data") _) _ _ _); k_dflt (refine' m_get_own ?k1 ?k2 ?k3 ?k4 ?k5 ?k6 ?k7 ?k8 ?k9 ?_; (case k1 => k_asm); (case k2 => k_asm); (case k3 => k_inst); (case k4 => k_is); (case k5 => k_is); (case k6 => k_is); (case k7 => k_is); (case k8 => k_get); (case k9 => k_handed); k_whole)))
local macro_rules | `(tactic| walk_at "call builtin:isinstance") => `(tactic| (k_here; k_dflt (refine' isi_call ?k1 ?k2 ?k3 ?k4 ?_; (case k1 => exact Frag.In.keeps (by k_asm) (Fr.keep (by k_asm))); (case k2 => (intro M; refine' InstAt.type ?it; (case it => (refine' InstAt.of_news ?iN ?ih1 ?ih2; (case iN => k_asm); (case ih1 => k_mem); (case ih2 => k_mem))))); (case k3 => k_is); (case k4 => intro e; cases e); k_whole)))
local macro_rules | `(tactic| walk_at "call type:list") => `(tactic| (k_here; k_dflt (refine' list_copyK ?k1 ?k2 ?k3 ?_ ?z; (case k1 => k_asm); (case k2 => k_asm); (case k3 => is_list); (case z => k_extra "list fits"); k_whole); intro D' c' h' F' N' l1; (try k_lt l1); (try k_sweep)))
local macro_rules | `(tactic| walk_at "lt news") => `(tactic| first | assumption | exact allLt_all (by assumption) | exact lt_and1 (by assumption) | exact lt_and2 (by assumption) | exact lt_and3 (by assumption) | exact lt_and4 (by assumption) | exact lt_and5 (by assumption) | exact lt_and6 (by assumption) | exact lt_and7 (by assumption))
theorem told_C1 (w : World) (news : List (Addr × Obj)) (line pre n tail a1 a4 a46 a69 a5 a56 cc ws text a6 : Str) (t : Tok) (hlen : line.length ≤ 200) (hls : Txt.lstrip line = line) (hp1 : (Txt.partition line (Str.ofString "*")).1 = pre) (hp2 : (Txt.partition line (Str.ofString "*")).2.1 = Str.ofString "*") (hp3 : (Txt.partition line (Str.ofString "*")).2.2 = tail)
    (lpre : pre.length ≤ 200) (lc : cc.length = 2) (lw : ws.length ≤ 100) (ltx : text.length ≤ 100) (ln : n.length ≤ 100) (lt : tail.length ≤ 100) (lt2 : 2 ≤ tail.length) (l4 : a4.length ≤ 100) (l5 : a5.length ≤ 100) (l69 : a69.length ≤ 100) (la : n.cps.all (· < 128) = true)
    (s1 : Txt.slice pre none (some 1) = Str.ofString "$") (s2 : Txt.slice pre (some 1) none = n) (s3 : Txt.slice n none (some 1) = a1) (s4 : Txt.slice n none (some 4) = a4) (s5 : Txt.slice n (some 4) (some 6) = a46) (s6 : Txt.slice n (some 6) (some 9) = a69) (s7 : Txt.slice n none (some 5) = a5) (s8 : Txt.slice n (some 5) (some 6) = a56)
    (t2 : Txt.slice tail none (some 2) = cc) (t3 : Txt.stripChars cc (Str.ofString "0123456789ABCDEFabcdef") = Str.ofString "") (t4 : Txt.slice tail (some 2) none = ws) (t5 : Txt.strip ws = Str.ofString "") (u3 : Txt.slice n (some 6) none = text)
    (f1 : ([Str.ofString "P", Str.ofString "p"].any fun x => x == a1) = false)
    (w4 : wl a4 4 = true) (f46 : ([Str.ofString "Q,", Str.ofString "q,"].any fun x => x == a46) = false) (w69 : True) (w5 : wl a5 5 = true) (f56 : (a56 == Str.ofString ",") = true)
    (v : Nat) (hv : HexIs cc ((v : Nat) : Int)) (hvn : v ≠ cks n) (hv8 : v < 256) (hc8 : cks n < 256) :
    TellL w 290 [.str line t] news (fun r tl => DatIn tl r (.list [.str (Str.ofString "sum")])) := by
  have hne : ¬ (((v : Nat) : Int) = ((cks n : Nat) : Int)) := fun e => hvn (Int.ofNat.inj e)
  unfold TellL; k_fill
  intro mean mg mb cn cs a ccd h₀ L m s Q E B F X N T hk hret
  refine wpAny_call ?_
  k_dflt (refine' code_defS0 ?k1 ?k2 ?k3 ?k4 ?k5 ?kA ?k6 ?k7 ?k8 ?k9 ?kB ?_ ?cK ?c2 ?c3 ?c4 ?c5; (case kA => exact rfl); (case k2 => k_asm); (case k1 => k_asm); (case k3 => k_asm); (case k4 => k_asm); (case k5 => k_asm); (case k6 => k_is); (case k7 => k_is); (case k8 => k_room); (case k9 => exact BindsTo.of_eq rfl); (case kB => exact locs rfl); (case cK => assumption); (case c2 => exact rfl); (case c3 => exact rfl); (case c4 => exact rfl); (case c5 => decide); k_whole)
  intro g' L' h' FG' F' N' B' X' T' D'; (try dsimp only); (try k_lift B'); (try k_fold)
  k_with_none
  k_with "m rw" => (simp only [hls, hp1, hp2, hp3, s1, s2, s3, s4, s5, s6, s7, s8, t2, t3, t4, t5, u3, w4, w5, lc, f1, f46, w69, f56, bne_iff_ne, ne_eq, not_false_eq_true, not_true_eq_false, hne])
  k_with "word len" => (first | exact Nat.le_trans l4 (by decide) | exact Nat.le_trans l5 (by decide) | exact Nat.le_trans l69 (by decide))
  k_with "chk ascii" => exact la
  k_with "fmt" => omega
  k_with "list fits" => (simp only [List.size_toArray, strValues, List.length_map]; exact Nat.le_trans (Nat.le_of_eq (by assumption)) (by rw [sizeLine_eq]; omega))
  k_steps
  all_goals (try k_data)
  exact m_end1 hret (by k_asm) (by k_asm) (by k_mem) (fun p hp => by (repeat (first | exact hp | refine List.Mem.tail _ ?_))) (.cons (.str _ _) .nil) (by walk_at "lt news")

end Mine
end
section
open PySem PySem.W PyProof.Rows PySem.Calls PySem.Spec
namespace Mine
local macro_rules | `(tactic| walk_at "m_use0") => `(tactic| ((case B => k_asm); (case F => k_asm); (case X => k_asm); (case N => k_asm); (case T => k_asm); (case K => first | exact rfl | assumption); (case d => ktr_room); (case u => ktr_units); k_whole))
local macro_rules | `(tactic| walk_at "call ref") => `(tactic| (k_here; k_dflt (refine' (word_tell _ _ _ _ _ _ ?hx).use0 ?B ?F ?X ?N ?T ?K ?d ?u ?_; (walk_at "m_use0"); (case hx => k_extra "word len")); intro r' h' tk' e' F' N'; subst e'))
local macro_rules | `(tactic| walk_at "call ref") => `(tactic| (k_here; k_dflt (refine' (chk_tell' _ _ _ _ ?ha).use0 ?B ?F ?X ?N ?T ?K ?d ?u ?_; (walk_at "m_use0"); (case ha => k_extra "chk ascii")); intro r' h' tk' e' F' N'; obtain ⟨t', e'⟩ := e'; subst e'))
local macro_rules | `(tactic| walk_at "storeName") => `(tactic| (k_here; k_extra "m rw"))
local macro_rules | `(tactic| walk_at "spliced") => `(tactic| (k_here; k_extra "m rw"))
local macro_rules | `(tactic| walk_at "compareOp") => `(tactic| (k_here; k_extra "m rw"))
local macro_rules | `(tactic| walk_at "truthy") => `(tactic| (k_here; k_extra "m rw"))
local macro_rules | `(tactic| walk_at "ite") => `(tactic| (k_here; k_extra "m rw"))
local macro_rules | `(tactic| walk_at "call type:int") => `(tactic| (k_here; refine call_hex (by assumption) ?_))
local macro_rules | `(tactic| walk_at "exec Raise some none") => `(tactic| (k_here; (with_reducible show wpAny _ _ (exec (Stmt.Raise (some (Expr.Call (Expr.Name (Str.ofString "ChecksumError") _) _ _ _)) none _) _) _ _ _); refine m_Raise 89 (exc89 _) rfl ?_))
local macro_rules | `(tactic| walk_at "exec Raise some none") => `(tactic| (k_here; (with_reducible show wpAny _ _ (exec (Stmt.Raise (some (Expr.Call (Expr.Name (Str.ofString "ParseError") _) _ _ _)) none _) _) _ _ _); refine m_Raise 64 (exc64 _) rfl ?_))
local macro_rules | `(tactic| walk_at "call ref") => `(tactic| (k_here; k_dflt (first | refine' exc_make (exc89 _) ?F ?X ?T ?d ?u ?_ | refine' exc_make (exc64 _) ?F ?X ?T ?d ?u ?_); (case F => k_asm); (case X => k_asm); (case T => k_asm); (case d => ktr_room); (case u => ktr_units); k_whole; intro h' tk' e' t' M'; refine' RaisedNew.of ?rF ?rX M' ?_; (case rF => k_asm); (case rX => k_asm)))
local macro_rules | `(tactic| walk_at "binaryOp Mod str ref") => `(tactic| (k_here; k_dflt (refine' m_fmt ?N ?b ?x1 ?x2 ?y1 ?y2 ?_; (case N => k_asm); (case b => k_mem); (case x1 => k_extra "fmt"); (case x2 => k_extra "fmt"); (case y1 => k_extra "fmt"); (case y2 => k_extra "fmt")); intro r' t' k'))
local macro_rules | `(tactic| walk_at "truthy ref") => `(tactic| (k_here; k_dflt (refine' Looks.here (m_truthy_txt ?X) ?_; (case X => k_in))))
local macro_rules | `(tactic| walk_at "getAttr ref") => `(tactic| (k_here; (with_reducible show wpAny _ _ (getAttr _ (Str.ofString "data") _) _ _ _); k_dflt (refine' m_get_own ?k1 ?k2 ?k3 ?k4 ?k5 ?k6 ?k7 ?k8 ?k9 ?_; (case k1 => k_asm); (case k2 => k_asm); (case k3 => k_inst); (case k4 => k_is); (case k5 => k_is); (case k6 => k_is); (case k7 => k_is); (case k8 => k_get); (case k9 => k_handed); k_whole)))
local macro_rules | `(tactic| walk_at "call builtin:isinstance") => `(tactic| (k_here; k_dflt (refine' isi_call ?k1 ?k2 ?k3 ?k4 ?_; (case k1 => exact Frag.In.keeps (by k_asm) (Fr.keep (by k_asm))); (case k2 => (intro M; refine' InstAt.type ?it; (case it => (refine' InstAt.of_news ?iN ?ih1 ?ih2; (case iN => k_asm); (case ih1 => k_mem); (case ih2 => k_mem))))); (case k3 => k_is); (case k4 => intro e; cases e); k_whole)))
local macro_rules | `(tactic| walk_at "call type:list") => `(tactic| (k_here; k_dflt (refine' list_copyK ?k1 ?k2 ?k3 ?_ ?z; (case k1 => k_asm); (case k2 => k_asm); (case k3 => is_list); (case z => k_extra "list fits"); k_whole); intro D' c' h' F' N' l1; (try k_lt l1); (try k_sweep)))
local macro_rules | `(tactic| walk_at "lt news") => `(tactic| first | assumption | exact allLt_all (by assumption) | exact lt_and1 (by assumption) | exact lt_and2 (by assumption) | exact lt_and3 (by assumption) | exact lt_and4 (by assumption) | exact lt_and5 (by assumption) | exact lt_and6 (by assumption) | exact lt_and7 (by assumption))
theorem told_C2 (w : World) (news : List (Addr × Obj)) (line pre n tail a1 a4 a46 a69 a5 a56 cc ws text a6 : Str) (t : Tok) (hlen : line.length ≤ 200) (hls : Txt.lstrip line = line) (hp1 : (Txt.partition line (Str.ofString "*")).1 = pre) (hp2 : (Txt.partition line (Str.ofString "*")).2.1 = Str.ofString "*") (hp3 : (Txt.partition line (Str.ofString "*")).2.2 = tail)
    (lpre : pre.length ≤ 200) (lc : cc.length = 2) (lw : ws.length ≤ 100) (ltx : text.length ≤ 100) (ln : n.length ≤ 100) (lt : tail.length ≤ 100) (lt2 : 2 ≤ tail.length) (l4 : a4.length ≤ 100) (l5 : a5.length ≤ 100) (l69 : a69.length ≤ 100) (la : n.cps.all (· < 128) = true)
    (s1 : Txt.slice pre none (some 1) = Str.ofString "$") (s2 : Txt.slice pre (some 1) none = n) (s3 : Txt.slice n none (some 1) = a1) (s4 : Txt.slice n none (some 4) = a4) (s5 : Txt.slice n (some 4) (some 6) = a46) (s6 : Txt.slice n (some 6) (some 9) = a69) (s7 : Txt.slice n none (some 5) = a5) (s8 : Txt.slice n (some 5) (some 6) = a56)
    (t2 : Txt.slice tail none (some 2) = cc) (t3 : Txt.stripChars cc (Str.ofString "0123456789ABCDEFabcdef") = Str.ofString "") (t4 : Txt.slice tail (some 2) none = ws) (t5 : Txt.strip ws = Str.ofString "") (u3 : Txt.slice n (some 6) none = text)
    (f1 : ([Str.ofString "P", Str.ofString "p"].any fun x => x == a1) = false)
    (w4 : wl a4 4 = true) (f46 : ([Str.ofString "Q,", Str.ofString "q,"].any fun x => x == a46) = true) (w69 : wl a69 3 = true) (w5 : True) (f56 : True) (u9 : (Txt.slice n none (some 9)).length ≤ 100) (v9 : (Txt.slice n (some 9) none).length ≤ 100)
    (v : Nat) (hv : HexIs cc ((v : Nat) : Int)) (hvn : v ≠ cks n) (hv8 : v < 256) (hc8 : cks n < 256) :
    TellL w 290 [.str line t] news (fun r tl => DatIn tl r (.list [.str (Str.ofString "sum")])) := by
  have hne : ¬ (((v : Nat) : Int) = ((cks n : Nat) : Int)) := fun e => hvn (Int.ofNat.inj e)
  unfold TellL; k_fill
  intro mean mg mb cn cs a ccd h₀ L m s Q E B F X N T hk hret
  refine wpAny_call ?_
  k_dflt (refine' code_defS0 ?k1 ?k2 ?k3 ?k4 ?k5 ?kA ?k6 ?k7 ?k8 ?k9 ?kB ?_ ?cK ?c2 ?c3 ?c4 ?c5; (case kA => exact rfl); (case k2 => k_asm); (case k1 => k_asm); (case k3 => k_asm); (case k4 => k_asm); (case k5 => k_asm); (case k6 => k_is); (case k7 => k_is); (case k8 => k_room); (case k9 => exact BindsTo.of_eq rfl); (case kB => exact locs rfl); (case cK => assumption); (case c2 => exact rfl); (case c3 => exact rfl); (case c4 => exact rfl); (case c5 => decide); k_whole)
  intro g' L' h' FG' F' N' B' X' T' D'; (try dsimp only); (try k_lift B'); (try k_fold)
  k_with_none
  k_with "m rw" => (simp only [hls, hp1, hp2, hp3, s1, s2, s3, s4, s5, s6, s7, s8, t2, t3, t4, t5, u3, w4, w5, lc, f1, f46, w69, f56, bne_iff_ne, ne_eq, not_false_eq_true, not_true_eq_false, hne])
  k_with "word len" => (first | exact Nat.le_trans l4 (by decide) | exact Nat.le_trans l5 (by decide) | exact Nat.le_trans l69 (by decide))
  k_with "chk ascii" => exact la
  k_with "fmt" => omega
  k_with "list fits" => (simp only [List.size_toArray, strValues, List.length_map]; exact Nat.le_trans (Nat.le_of_eq (by assumption)) (by rw [sizeLine_eq]; omega))
  k_steps
  all_goals (try k_data)
  exact m_end1 hret (by k_asm) (by k_asm) (by k_mem) (fun p hp => by (repeat (first | exact hp | refine List.Mem.tail _ ?_))) (.cons (.str _ _) .nil) (by walk_at "lt news")

end Mine
end
section
open PySem PySem.W PyProof.Rows PySem.Calls PySem.Spec
namespace Mine
local macro_rules | `(tactic| walk_at "m_use0") => `(tactic| ((case B => k_asm); (case F => k_asm); (case X => k_asm); (case N => k_asm); (case T => k_asm); (case K => first | exact rfl | assumption); (case d => ktr_room); (case u => ktr_units); k_whole))
local macro_rules | `(tactic| walk_at "call ref") => `(tactic| (k_here; k_dflt (refine' (word_tell _ _ _ _ _ _ ?hx).use0 ?B ?F ?X ?N ?T ?K ?d ?u ?_; (walk_at "m_use0"); (case hx => k_extra "word len")); intro r' h' tk' e' F' N'; subst e'))
local macro_rules | `(tactic| walk_at "call ref") => `(tactic| (k_here; k_dflt (refine' (chk_tell' _ _ _ _ ?ha).use0 ?B ?F ?X ?N ?T ?K ?d ?u ?_; (walk_at "m_use0"); (case ha => k_extra "chk ascii")); intro r' h' tk' e' F' N'; obtain ⟨t', e'⟩ := e'; subst e'))
local macro_rules | `(tactic| walk_at "storeName") => `(tactic| (k_here; k_extra "m rw"))
local macro_rules | `(tactic| walk_at "spliced") => `(tactic| (k_here; k_extra "m rw"))
local macro_rules | `(tactic| walk_at "compareOp") => `(tactic| (k_here; k_extra "m rw"))
local macro_rules | `(tactic| walk_at "truthy") => `(tactic| (k_here; k_extra "m rw"))
local macro_rules | `(tactic| walk_at "ite") => `(tactic| (k_here; k_extra "m rw"))
local macro_rules | `(tactic| walk_at "call type:int") => `(tactic| (k_here; refine call_hex (by assumption) ?_))
local macro_rules | `(tactic| walk_at "exec Raise some none") => `(tactic| (k_here; (with_reducible show wpAny _ _ (exec (Stmt.Raise (some (Expr.Call (Expr.Name (Str.ofString "ChecksumError") _) _ _ _)) none _) _) _ _ _); refine m_Raise 89 (exc89 _) rfl ?_))
local macro_rules | `(tactic| walk_at "exec Raise some none") => `(tactic| (k_here; (with_reducible show wpAny _ _ (exec (Stmt.Raise (some (Expr.Call (Expr.Name (Str.ofString "ParseError") _) _ _ _)) none _) _) _ _ _); refine m_Raise 64 (exc64 _) rfl ?_))
local macro_rules | `(tactic| walk_at "call ref") => `(tactic| (k_here; k_dflt (first | refine' exc_make (exc89 _) ?F ?X ?T ?d ?u ?_ | refine' exc_make (exc64 _) ?F ?X ?T ?d ?u ?_); (case F => k_asm); (case X => k_asm); (case T => k_asm); (case d => ktr_room); (case u => ktr_units); k_whole; intro h' tk' e' t' M'; refine' RaisedNew.of ?rF ?rX M' ?_; (case rF => k_asm); (case rX => k_asm)))
local macro_rules | `(tactic| walk_at "binaryOp Mod str ref") => `(tactic| (k_here; k_dflt (refine' m_fmt ?N ?b ?x1 ?x2 ?y1 ?y2 ?_; (case N => k_asm); (case b => k_mem); (case x1 => k_extra "fmt"); (case x2 => k_extra "fmt"); (case y1 => k_extra "fmt"); (case y2 => k_extra "fmt")); intro r' t' k'))
local macro_rules | `(tactic| walk_at "truthy ref") => `(tactic| (k_here; k_dflt (refine' Looks.here (m_truthy_txt ?X) ?_; (case X => k_in))))
local macro_rules | `(tactic| walk_at "getAttr ref") => `(tactic| (k_here; (with_reducible show wpAny _ _ (getAttr _ (Str.ofString "data") _) _ _ _); k_dflt (refine' m_get_own ?k1 ?k2 ?k3 ?k4 ?k5 ?k6 ?k7 ?k8 ?k9 ?_; (case k1 => k_asm); (case k2 => k_asm); (case k3 => k_inst); (case k4 => k_is); (case k5 => k_is); (case k6 => k_is); (case k7 => k_is); (case k8 => k_get); (case k9 => k_handed); k_whole)))
local macro_rules | `(tactic| walk_at "call builtin:isinstance") => `(tactic| (k_here; k_dflt (refine' isi_call ?k1 ?k2 ?k3 ?k4 ?_; (case k1 => exact Frag.In.keeps (by k_asm) (Fr.keep (by k_asm))); (case k2 => (intro M; refine' InstAt.type ?it; (case it => (refine' InstAt.of_news ?iN ?ih1 ?ih2; (case iN => k_asm); (case ih1 => k_mem); (case ih2 => k_mem))))); (case k3 => k_is); (case k4 => intro e; cases e); k_whole)))
local macro_rules | `(tactic| walk_at "call type:list") => `(tactic| (k_here; k_dflt (refine' list_copyK ?k1 ?k2 ?k3 ?_ ?z; (case k1 => k_asm); (case k2 => k_asm); (case k3 => is_list); (case z => k_extra "list fits"); k_whole); intro D' c' h' F' N' l1; (try k_lt l1); (try k_sweep)))
local macro_rules | `(tactic| walk_at "lt news") => `(tactic| first | assumption | exact allLt_all (by assumption) | exact lt_and1 (by assumption) | exact lt_and2 (by assumption) | exact lt_and3 (by assumption) | exact lt_and4 (by assumption) | exact lt_and5 (by assumption) | exact lt_and6 (by assumption) | exact lt_and7 (by assumption))
theorem told_C3 (w : World) (news : List (Addr × Obj)) (line pre n tail a1 a4 a46 a69 a5 a56 cc ws text a6 : Str) (t : Tok) (hlen : line.length ≤ 200) (hls : Txt.lstrip line = line) (hp1 : (Txt.partition line (Str.ofString "*")).1 = pre) (hp2 : (Txt.partition line (Str.ofString "*")).2.1 = Str.ofString "*") (hp3 : (Txt.partition line (Str.ofString "*")).2.2 = tail)
    (lpre : pre.length ≤ 200) (lc : cc.length = 2) (lw : ws.length ≤ 100) (ltx : text.length ≤ 100) (ln : n.length ≤ 100) (lt : tail.length ≤ 100) (lt2 : 2 ≤ tail.length) (l4 : a4.length ≤ 100) (l5 : a5.length ≤ 100) (l69 : a69.length ≤ 100) (la : n.cps.all (· < 128) = true)
    (s1 : Txt.slice pre none (some 1) = Str.ofString "$") (s2 : Txt.slice pre (some 1) none = n) (s3 : Txt.slice n none (some 1) = a1) (s4 : Txt.slice n none (some 4) = a4) (s5 : Txt.slice n (some 4) (some 6) = a46) (s6 : Txt.slice n (some 6) (some 9) = a69) (s7 : Txt.slice n none (some 5) = a5) (s8 : Txt.slice n (some 5) (some 6) = a56)
    (t2 : Txt.slice tail none (some 2) = cc) (t3 : Txt.stripChars cc (Str.ofString "0123456789ABCDEFabcdef") = Str.ofString "") (t4 : Txt.slice tail (some 2) none = ws) (t5 : Txt.strip ws = Str.ofString "") (u3 : Txt.slice n (some 6) none = text)
    (f1 : ([Str.ofString "P", Str.ofString "p"].any fun x => x == a1) = false)
    (w4 : wl a4 4 = true) (f46 : ([Str.ofString "Q,", Str.ofString "q,"].any fun x => x == a46) = true) (w69 : wl a69 3 = false) (w5 : wl a5 5 = true) (f56 : (a56 == Str.ofString ",") = true)
    (v : Nat) (hv : HexIs cc ((v : Nat) : Int)) (hvn : v ≠ cks n) (hv8 : v < 256) (hc8 : cks n < 256) :
    TellL w 290 [.str line t] news (fun r tl => DatIn tl r (.list [.str (Str.ofString "sum")])) := by
  have hne : ¬ (((v : Nat) : Int) = ((cks n : Nat) : Int)) := fun e => hvn (Int.ofNat.inj e)
  unfold TellL; k_fill
  intro mean mg mb cn cs a ccd h₀ L m s Q E B F X N T hk hret
  refine wpAny_call ?_
  k_dflt (refine' code_defS0 ?k1 ?k2 ?k3 ?k4 ?k5 ?kA ?k6 ?k7 ?k8 ?k9 ?kB ?_ ?cK ?c2 ?c3 ?c4 ?c5; (case kA => exact rfl); (case k2 => k_asm); (case k1 => k_asm); (case k3 => k_asm); (case k4 => k_asm); (case k5 => k_asm); (case k6 => k_is); (case k7 => k_is); (case k8 => k_room); (case k9 => exact BindsTo.of_eq rfl); (case kB => exact locs rfl); (case cK => assumption); (case c2 => exact rfl); (case c3 => exact rfl); (case c4 => exact rfl); (case c5 => decide); k_whole)
  intro g' L' h' FG' F' N' B' X' T' D'; (try dsimp only); (try k_lift B'); (try k_fold)
  k_with_none
  k_with "m rw" => (simp only [hls, hp1, hp2, hp3, s1, s2, s3, s4, s5, s6, s7, s8, t2, t3, t4, t5, u3, w4, w5, lc, f1, f46, w69, f56, bne_iff_ne, ne_eq, not_false_eq_true, not_true_eq_false, hne])
  k_with "word len" => (first | exact Nat.le_trans l4 (by decide) | exact Nat.le_trans l5 (by decide) | exact Nat.le_trans l69 (by decide))
  k_with "chk ascii" => exact la
  k_with "fmt" => omega
  k_with "list fits" => (simp only [List.size_toArray, strValues, List.length_map]; exact Nat.le_trans (Nat.le_of_eq (by assumption)) (by rw [sizeLine_eq]; omega))
  k_steps
  all_goals (try k_data)
  exact m_end1 hret (by k_asm) (by k_asm) (by k_mem) (fun p hp => by (repeat (first | exact hp | refine List.Mem.tail _ ?_))) (.cons (.str _ _) .nil) (by walk_at "lt news")

end Mine
end
section
open PySem PySem.W PyProof.Rows PySem.Calls PySem.Spec
namespace Mine
local macro_rules | `(tactic| walk_at "m_use0") => `(tactic| ((case B => k_asm); (case F => k_asm); (case X => k_asm); (case N => k_asm); (case T => k_asm); (case K => first | exact rfl | assumption); (case d => ktr_room); (case u => ktr_units); k_whole))
local macro_rules | `(tactic| walk_at "call ref") => `(tactic| (k_here; k_dflt (refine' (word_tell _ _ _ _ _ _ ?hx).use0 ?B ?F ?X ?N ?T ?K ?d ?u ?_; (walk_at "m_use0"); (case hx => k_extra "word len")); intro r' h' tk' e' F' N'; subst e'))
local macro_rules | `(tactic| walk_at "call ref") => `(tactic| (k_here; k_dflt (refine' (chk_tell' _ _ _ _ ?ha).use0 ?B ?F ?X ?N ?T ?K ?d ?u ?_; (walk_at "m_use0"); (case ha => k_extra "chk ascii")); intro r' h' tk' e' F' N'; obtain ⟨t', e'⟩ := e'; subst e'))
local macro_rules | `(tactic| walk_at "storeName") => `(tactic| (k_here; k_extra "m rw"))
local macro_rules | `(tactic| walk_at "spliced") => `(tactic| (k_here; k_extra "m rw"))
local macro_rules | `(tactic| walk_at "compareOp") => `(tactic| (k_here; k_extra "m rw"))
local macro_rules | `(tactic| walk_at "truthy") => `(tactic| (k_here; k_extra "m rw"))
local macro_rules | `(tactic| walk_at "ite") => `(tactic| (k_here; k_extra "m rw"))
local macro_rules | `(tactic| walk_at "call type:int") => `(tactic| (k_here; refine call_hex (by assumption) ?_))
local macro_rules | `(tactic| walk_at "exec Raise some none") => `(tactic| (k_here; (with_reducible show wpAny _ _ (exec (Stmt.Raise (some (Expr.Call (Expr.Name (Str.ofString "ChecksumError") _) _ _ _)) none _) _) _ _ _); refine m_Raise 89 (exc89 _) rfl ?_))
local macro_rules | `(tactic| walk_at "exec Raise some none") => `(tactic| (k_here; (with_reducible show wpAny _ _ (exec (Stmt.Raise (some (Expr.Call (Expr.Name (Str.ofString "ParseError") _) _ _ _)) none _) _) _ _ _); refine m_Raise 64 (exc64 _) rfl ?_))
local macro_rules | `(tactic| walk_at "call ref") => `(tactic| (k_here; k_dflt (first | refine' exc_make (exc89 _) ?F ?X ?T ?d ?u ?_ | refine' exc_make (exc64 _) ?F ?X ?T ?d ?u ?_); (case F => k_asm); (case X => k_asm); (case T => k_asm); (case d => ktr_room); (case u => ktr_units); k_whole; intro h' tk' e' t' M'; refine' RaisedNew.of ?rF ?rX M' ?_; (case rF => k_asm); (case rX => k_asm)))
local macro_rules | `(tactic| walk_at "binaryOp Mod str ref") => `(tactic| (k_here; k_dflt (refine' m_fmt ?N ?b ?x1 ?x2 ?y1 ?y2 ?_; (case N => k_asm); (case b => k_mem); (case x1 => k_extra "fmt"); (case x2 => k_extra "fmt"); (case y1 => k_extra "fmt"); (case y2 => k_extra "fmt")); intro r' t' k'))
local macro_rules | `(tactic| walk_at "truthy ref") => `(tactic| (k_here; k_dflt (refine' Looks.here (m_truthy_txt ?X) ?_; (case X => k_in))))
local macro_rules | `(tactic| walk_at "getAttr ref") => `(tactic| (k_here; (with_reducible show wpAny _ _ (getAttr _ (Str.ofString "data") _) _ _ _); k_dflt (refine' m_get_own ?k1 ?k2 ?k3 ?k4 ?k5 ?k6 ?k7 ?k8 ?k9 ?_; (case k1 => k_asm); (case k2 => k_asm); (case k3 => k_inst); (case k4 => k_is); (case k5 => k_is); (case k6 => k_is); (case k7 => k_is); (case k8 => k_get); (case k9 => k_handed); k_whole)))
local macro_rules | `(tactic| walk_at "call builtin:isinstance") => `(tactic| (k_here; k_dflt (refine' isi_call ?k1 ?k2 ?k3 ?k4 ?_; (case k1 => exact Frag.In.keeps (by k_asm) (Fr.keep (by k_asm))); (case k2 => (intro M; refine' InstAt.type ?it; (case it => (refine' InstAt.of_news ?iN ?ih1 ?ih2; (case iN => k_asm); (case ih1 => k_mem); (case ih2 => k_mem))))); (case k3 => k_is); (case k4 => intro e; cases e); k_whole)))
local macro_rules | `(tactic| walk_at "call type:list") => `(tactic| (k_here; k_dflt (refine' list_copyK ?k1 ?k2 ?k3 ?_ ?z; (case k1 => k_asm); (case k2 => k_asm); (case k3 => is_list); (case z => k_extra "list fits"); k_whole); intro D' c' h' F' N' l1; (try k_lt l1); (try k_sweep)))
local macro_rules | `(tactic| walk_at "lt news") => `(tactic| first | assumption | exact allLt_all (by assumption) | exact lt_and1 (by assumption) | exact lt_and2 (by assumption) | exact lt_and3 (by assumption) | exact lt_and4 (by assumption) | exact lt_and5 (by assumption) | exact lt_and6 (by assumption) | exact lt_and7 (by assumption))
theorem told_B1 (w : World) (news : List (Addr × Obj)) (line pre n tail a1 a4 a46 a69 a5 a56 cc ws text a6 : Str) (t : Tok) (hlen : line.length ≤ 200) (hls : Txt.lstrip line = line) (hp1 : (Txt.partition line (Str.ofString "*")).1 = pre) (hp2 : (Txt.partition line (Str.ofString "*")).2.1 = Str.ofString "*") (hp3 : (Txt.partition line (Str.ofString "*")).2.2 = tail)
    (lpre : pre.length ≤ 200) (lc : cc.length = 2) (lw : ws.length ≤ 100) (ltx : text.length ≤ 100) (ln : n.length ≤ 100) (lt : tail.length ≤ 100) (lt2 : 2 ≤ tail.length) (l4 : a4.length ≤ 100) (l5 : a5.length ≤ 100) (l69 : a69.length ≤ 100) (la : n.cps.all (· < 128) = true)
    (s1 : Txt.slice pre none (some 1) = Str.ofString "$") (s2 : Txt.slice pre (some 1) none = n) (s3 : Txt.slice n none (some 1) = a1) (s4 : Txt.slice n none (some 4) = a4) (s5 : Txt.slice n (some 4) (some 6) = a46) (s6 : Txt.slice n (some 6) (some 9) = a69) (s7 : Txt.slice n none (some 5) = a5) (s8 : Txt.slice n (some 5) (some 6) = a56)
    (t2 : Txt.slice tail none (some 2) = cc) (t3 : Txt.stripChars cc (Str.ofString "0123456789ABCDEFabcdef") = Str.ofString "") (t4 : Txt.slice tail (some 2) none = ws) (t5 : Txt.strip ws = Str.ofString "") (u3 : Txt.slice n (some 6) none = text)
    (f1 : ([Str.ofString "P", Str.ofString "p"].any fun x => x == a1) = false)
    (w4 : wl a4 4 = true) (f46 : ([Str.ofString "Q,", Str.ofString "q,"].any fun x => x == a46) = false) (w69 : True) (w5 : wl a5 5 = true) (f56 : (a56 == Str.ofString ",") = false)
    :
    TellL w 290 [.str line t] news (fun r tl => DatIn tl r (.list [.str (Str.ofString "no sentence")])) := by
  unfold TellL; k_fill
  intro mean mg mb cn cs a ccd h₀ L m s Q E B F X N T hk hret
  refine wpAny_call ?_
  k_dflt (refine' code_defS0 ?k1 ?k2 ?k3 ?k4 ?k5 ?kA ?k6 ?k7 ?k8 ?k9 ?kB ?_ ?cK ?c2 ?c3 ?c4 ?c5; (case kA => exact rfl); (case k2 => k_asm); (case k1 => k_asm); (case k3 => k_asm); (case k4 => k_asm); (case k5 => k_asm); (case k6 => k_is); (case k7 => k_is); (case k8 => k_room); (case k9 => exact BindsTo.of_eq rfl); (case kB => exact locs rfl); (case cK => assumption); (case c2 => exact rfl); (case c3 => exact rfl); (case c4 => exact rfl); (case c5 => decide); k_whole)
  intro g' L' h' FG' F' N' B' X' T' D'; (try dsimp only); (try k_lift B'); (try k_fold)
  k_with_none
  k_with "m rw" => (simp only [hls, hp1, hp2, hp3, s1, s2, s3, s4, s5, s6, s7, s8, t2, t3, t4, t5, u3, w4, w5, lc, f1, f46, w69, f56, bne_iff_ne, ne_eq, not_false_eq_true, not_true_eq_false])
  k_with "word len" => (first | exact Nat.le_trans l4 (by decide) | exact Nat.le_trans l5 (by decide) | exact Nat.le_trans l69 (by decide))
  k_with "chk ascii" => exact la
  k_with "fmt" => omega
  k_with "list fits" => (simp only [List.size_toArray, strValues, List.length_map]; exact Nat.le_trans (Nat.le_of_eq (by assumption)) (by rw [sizeLine_eq]; omega))
  k_steps
  all_goals (try k_data)
  exact m_end1 hret (by k_asm) (by k_asm) (by k_mem) (fun p hp => by (repeat (first | exact hp | refine List.Mem.tail _ ?_))) (.cons (.str _ _) .nil) (by walk_at "lt news")

end Mine
end
section
open PySem PySem.W PyProof.Rows PySem.Calls PySem.Spec
namespace Mine
local macro_rules | `(tactic| walk_at "m_use0") => `(tactic| ((case B => k_asm); (case F => k_asm); (case X => k_asm); (case N => k_asm); (case T => k_asm); (case K => first | exact rfl | assumption); (case d => ktr_room); (case u => ktr_units); k_whole))
local macro_rules | `(tactic| walk_at "call ref") => `(tactic| (k_here; k_dflt (refine' (word_tell _ _ _ _ _ _ ?hx).use0 ?B ?F ?X ?N ?T ?K ?d ?u ?_; (walk_at "m_use0"); (case hx => k_extra "word len")); intro r' h' tk' e' F' N'; subst e'))
local macro_rules | `(tactic| walk_at "call ref") => `(tactic| (k_here; k_dflt (refine' (chk_tell' _ _ _ _ ?ha).use0 ?B ?F ?X ?N ?T ?K ?d ?u ?_; (walk_at "m_use0"); (case ha => k_extra "chk ascii")); intro r' h' tk' e' F' N'; obtain ⟨t', e'⟩ := e'; subst e'))
local macro_rules | `(tactic| walk_at "storeName") => `(tactic| (k_here; k_extra "m rw"))
local macro_rules | `(tactic| walk_at "spliced") => `(tactic| (k_here; k_extra "m rw"))
local macro_rules | `(tactic| walk_at "compareOp") => `(tactic| (k_here; k_extra "m rw"))
local macro_rules | `(tactic| walk_at "truthy") => `(tactic| (k_here; k_extra "m rw"))
local macro_rules | `(tactic| walk_at "ite") => `(tactic| (k_here; k_extra "m rw"))
local macro_rules | `(tactic| walk_at "call type:int") => `(tactic| (k_here; refine call_hex (by assumption) ?_))
local macro_rules | `(tactic| walk_at "exec Raise some none") => `(tactic| (k_here; (with_reducible show wpAny _ _ (exec (Stmt.Raise (some (Expr.Call (Expr.Name (Str.ofString "ChecksumError") _) _ _ _)) none _) _) _ _ _); refine m_Raise 89 (exc89 _) rfl ?_))
local macro_rules | `(tactic| walk_at "exec Raise some none") => `(tactic| (k_here; (with_reducible show wpAny _ _ (exec (Stmt.Raise (some (Expr.Call (Expr.Name (Str.ofString "ParseError") _) _ _ _)) none _) _) _ _ _); refine m_Raise 64 (exc64 _) rfl ?_))
local macro_rules | `(tactic| walk_at "call ref") => `(tactic| (k_here; k_dflt (first | refine' exc_make (exc89 _) ?F ?X ?T ?d ?u ?_ | refine' exc_make (exc64 _) ?F ?X ?T ?d ?u ?_); (case F => k_asm); (case X => k_asm); (case T => k_asm); (case d => ktr_room); (case u => ktr_units); k_whole; intro h' tk' e' t' M'; refine' RaisedNew.of ?rF ?rX M' ?_; (case rF => k_asm); (case rX => k_asm)))
local macro_rules | `(tactic| walk_at "binaryOp Mod str ref") => `(tactic| (k_here; k_dflt (refine' m_fmt ?N ?b ?x1 ?x2 ?y1 ?y2 ?_; (case N => k_asm); (case b => k_mem); (case x1 => k_extra "fmt"); (case x2 => k_extra "fmt"); (case y1 => k_extra "fmt"); (case y2 => k_extra "fmt")); intro r' t' k'))
local macro_rules | `(tactic| walk_at "truthy ref") => `(tactic| (k_here; k_dflt (refine' Looks.here (m_truthy_txt ?X) ?_; (case X => k_in))))
local macro_rules | `(tactic| walk_at "getAttr ref") => `(tactic| (k_here; (with_reducible show wpAny _ _ (getAttr _ (Str.ofString "data") _) _ _ _); k_dflt (refine' m_get_own ?k1 ?k2 ?k3 ?k4 ?k5 ?k6 ?k7 ?k8 ?k9 ?_; (case k1 => k_asm); (case k2 => k_asm); (case k3 => k_inst); (case k4 => k_is); (case k5 => k_is); (case k6 => k_is); (case k7 => k_is); (case k8 => k_get); (case k9 => k_handed); k_whole)))
local macro_rules | `(tactic| walk_at "call builtin:isinstance") => `(tactic| (k_here; k_dflt (refine' isi_call ?k1 ?k2 ?k3 ?k4 ?_; (case k1 => exact Frag.In.keeps (by k_asm) (Fr.keep (by k_asm))); (case k2 => (intro M; refine' InstAt.type ?it; (case it => (refine' InstAt.of_news ?iN ?ih1 ?ih2; (case iN => k_asm); (case ih1 => k_mem); (case ih2 => k_mem))))); (case k3 => k_is); (case k4 => intro e; cases e); k_whole)))
local macro_rules | `(tactic| walk_at "call type:list") => `(tactic| (k_here; k_dflt (refine' list_copyK ?k1 ?k2 ?k3 ?_ ?z; (case k1 => k_asm); (case k2 => k_asm); (case k3 => is_list); (case z => k_extra "list fits"); k_whole); intro D' c' h' F' N' l1; (try k_lt l1); (try k_sweep)))
local macro_rules | `(tactic| walk_at "lt news") => `(tactic| first | assumption | exact allLt_all (by assumption) | exact lt_and1 (by assumption) | exact lt_and2 (by assumption) | exact lt_and3 (by assumption) | exact lt_and4 (by assumption) | exact lt_and5 (by assumption) | exact lt_and6 (by assumption) | exact lt_and7 (by assumption))
theorem told_B2 (w : World) (news : List (Addr × Obj)) (line pre n tail a1 a4 a46 a69 a5 a56 cc ws text a6 : Str) (t : Tok) (hlen : line.length ≤ 200) (hls : Txt.lstrip line = line) (hp1 : (Txt.partition line (Str.ofString "*")).1 = pre) (hp2 : (Txt.partition line (Str.ofString "*")).2.1 = Str.ofString "*") (hp3 : (Txt.partition line (Str.ofString "*")).2.2 = tail)
    (lpre : pre.length ≤ 200) (lc : cc.length = 2) (lw : ws.length ≤ 100) (ltx : text.length ≤ 100) (ln : n.length ≤ 100) (lt : tail.length ≤ 100) (lt2 : 2 ≤ tail.length) (l4 : a4.length ≤ 100) (l5 : a5.length ≤ 100) (l69 : a69.length ≤ 100) (la : n.cps.all (· < 128) = true)
    (s1 : Txt.slice pre none (some 1) = Str.ofString "$") (s2 : Txt.slice pre (some 1) none = n) (s3 : Txt.slice n none (some 1) = a1) (s4 : Txt.slice n none (some 4) = a4) (s5 : Txt.slice n (some 4) (some 6) = a46) (s6 : Txt.slice n (some 6) (some 9) = a69) (s7 : Txt.slice n none (some 5) = a5) (s8 : Txt.slice n (some 5) (some 6) = a56)
    (t2 : Txt.slice tail none (some 2) = cc) (t3 : Txt.stripChars cc (Str.ofString "0123456789ABCDEFabcdef") = Str.ofString "") (t4 : Txt.slice tail (some 2) none = ws) (t5 : Txt.strip ws = Str.ofString "") (u3 : Txt.slice n (some 6) none = text)
    (f1 : ([Str.ofString "P", Str.ofString "p"].any fun x => x == a1) = false)
    (w4 : wl a4 4 = false) (f46 : True) (w69 : True) (w5 : wl a5 5 = false) (f56 : True)
    :
    TellL w 290 [.str line t] news (fun r tl => DatIn tl r (.list [.str (Str.ofString "no sentence")])) := by
  unfold TellL; k_fill
  intro mean mg mb cn cs a ccd h₀ L m s Q E B F X N T hk hret
  refine wpAny_call ?_
  k_dflt (refine' code_defS0 ?k1 ?k2 ?k3 ?k4 ?k5 ?kA ?k6 ?k7 ?k8 ?k9 ?kB ?_ ?cK ?c2 ?c3 ?c4 ?c5; (case kA => exact rfl); (case k2 => k_asm); (case k1 => k_asm); (case k3 => k_asm); (case k4 => k_asm); (case k5 => k_asm); (case k6 => k_is); (case k7 => k_is); (case k8 => k_room); (case k9 => exact BindsTo.of_eq rfl); (case kB => exact locs rfl); (case cK => assumption); (case c2 => exact rfl); (case c3 => exact rfl); (case c4 => exact rfl); (case c5 => decide); k_whole)
  intro g' L' h' FG' F' N' B' X' T' D'; (try dsimp only); (try k_lift B'); (try k_fold)
  k_with_none
  k_with "m rw" => (simp only [hls, hp1, hp2, hp3, s1, s2, s3, s4, s5, s6, s7, s8, t2, t3, t4, t5, u3, w4, w5, lc, f1, f46, w69, f56, bne_iff_ne, ne_eq, not_false_eq_true, not_true_eq_false])
  k_with "word len" => (first | exact Nat.le_trans l4 (by decide) | exact Nat.le_trans l5 (by decide) | exact Nat.le_trans l69 (by decide))
  k_with "chk ascii" => exact la
  k_with "fmt" => omega
  k_with "list fits" => (simp only [List.size_toArray, strValues, List.length_map]; exact Nat.le_trans (Nat.le_of_eq (by assumption)) (by rw [sizeLine_eq]; omega))
  k_steps
  all_goals (try k_data)
  exact m_end1 hret (by k_asm) (by k_asm) (by k_mem) (fun p hp => by (repeat (first | exact hp | refine List.Mem.tail _ ?_))) (.cons (.str _ _) .nil) (by walk_at "lt news")

end Mine
end
section
open PySem PySem.W PyProof.Rows PySem.Calls PySem.Spec
namespace Mine
local macro_rules | `(tactic| walk_at "m_use0") => `(tactic| ((case B => k_asm); (case F => k_asm); (case X => k_asm); (case N => k_asm); (case T => k_asm); (case K => first | exact rfl | assumption); (case d => ktr_room); (case u => ktr_units); k_whole))
local macro_rules | `(tactic| walk_at "call ref") => `(tactic| (k_here; k_dflt (refine' (word_tell _ _ _ _ _ _ ?hx).use0 ?B ?F ?X ?N ?T ?K ?d ?u ?_; (walk_at "m_use0"); (case hx => k_extra "word len")); intro r' h' tk' e' F' N'; subst e'))
local macro_rules | `(tactic| walk_at "call ref") => `(tactic| (k_here; k_dflt (refine' (chk_tell' _ _ _ _ ?ha).use0 ?B ?F ?X ?N ?T ?K ?d ?u ?_; (walk_at "m_use0"); (case ha => k_extra "chk ascii")); intro r' h' tk' e' F' N'; obtain ⟨t', e'⟩ := e'; subst e'))
local macro_rules | `(tactic| walk_at "storeName") => `(tactic| (k_here; k_extra "m rw"))
local macro_rules | `(tactic| walk_at "spliced") => `(tactic| (k_here; k_extra "m rw"))
local macro_rules | `(tactic| walk_at "compareOp") => `(tactic| (k_here; k_extra "m rw"))
local macro_rules | `(tactic| walk_at "truthy") => `(tactic| (k_here; k_extra "m rw"))
local macro_rules | `(tactic| walk_at "ite") => `(tactic| (k_here; k_extra "m rw"))
local macro_rules | `(tactic| walk_at "call type:int") => `(tactic| (k_here; refine call_hex (by assumption) ?_))
local macro_rules | `(tactic| walk_at "exec Raise some none") => `(tactic| (k_here; (with_reducible show wpAny _ _ (exec (Stmt.Raise (some (Expr.Call (Expr.Name (Str.ofString "ChecksumError") _) _ _ _)) none _) _) _ _ _); refine m_Raise 89 (exc89 _) rfl ?_))
local macro_rules | `(tactic| walk_at "exec Raise some none") => `(tactic| (k_here; (with_reducible show wpAny _ _ (exec (Stmt.Raise (some (Expr.Call (Expr.Name (Str.ofString "ParseError") _) _ _ _)) none _) _) _ _ _); refine m_Raise 64 (exc64 _) rfl ?_))
local macro_rules | `(tactic| walk_at "call ref") => `(tactic| (k_here; k_dflt (first | refine' exc_make (exc89 _) ?F ?X ?T ?d ?u ?_ | refine' exc_make (exc64 _) ?F ?X ?T ?d ?u ?_); (case F => k_asm); (case X => k_asm); (case T => k_asm); (case d => ktr_room); (case u => ktr_units); k_whole; intro h' tk' e' t' M'; refine' RaisedNew.of ?rF ?rX M' ?_; (case rF => k_asm); (case rX => k_asm)))
local macro_rules | `(tactic| walk_at "binaryOp Mod str ref") => `(tactic| (k_here; k_dflt (refine' m_fmt ?N ?b ?x1 ?x2 ?y1 ?y2 ?_; (case N => k_asm); (case b => k_mem); (case x1 => k_extra "fmt"); (case x2 => k_extra "fmt"); (case y1 => k_extra "fmt"); (case y2 => k_extra "fmt")); intro r' t' k'))
local macro_rules | `(tactic| walk_at "truthy ref") => `(tactic| (k_here; k_dflt (refine' Looks.here (m_truthy_txt ?X) ?_; (case X => k_in))))
local macro_rules | `(tactic| walk_at "getAttr ref") => `(tactic| (k_here; (with_reducible show wpAny _ _ (getAttr _ (Str.ofString "data") _) _ _ _); k_dflt (refine' m_get_own ?k1 ?k2 ?k3 ?k4 ?k5 ?k6 ?k7 ?k8 ?k9 ?_; (case k1 => k_asm); (case k2 => k_asm); (case k3 => k_inst); (case k4 => k_is); (case k5 => k_is); (case k6 => k_is); (case k7 => k_is); (case k8 => k_get); (case k9 => k_handed); k_whole)))
local macro_rules | `(tactic| walk_at "call builtin:isinstance") => `(tactic| (k_here; k_dflt (refine' isi_call ?k1 ?k2 ?k3 ?k4 ?_; (case k1 => exact Frag.In.keeps (by k_asm) (Fr.keep (by k_asm))); (case k2 => (intro M; refine' InstAt.type ?it; (case it => (refine' InstAt.of_news ?iN ?ih1 ?ih2; (case iN => k_asm); (case ih1 => k_mem); (case ih2 => k_mem))))); (case k3 => k_is); (case k4 => intro e; cases e); k_whole)))
local macro_rules | `(tactic| walk_at "call type:list") => `(tactic| (k_here; k_dflt (refine' list_copyK ?k1 ?k2 ?k3 ?_ ?z; (case k1 => k_asm); (case k2 => k_asm); (case k3 => is_list); (case z => k_extra "list fits"); k_whole); intro D' c' h' F' N' l1; (try k_lt l1); (try k_sweep)))
local macro_rules | `(tactic| walk_at "lt news") => `(tactic| first | assumption | exact allLt_all (by assumption) | exact lt_and1 (by assumption) | exact lt_and2 (by assumption) | exact lt_and3 (by assumption) | exact lt_and4 (by assumption) | exact lt_and5 (by assumption) | exact lt_and6 (by assumption) | exact lt_and7 (by assumption))
theorem told_B3 (w : World) (news : List (Addr × Obj)) (line pre n tail a1 a4 a46 a69 a5 a56 cc ws text a6 : Str) (t : Tok) (hlen : line.length ≤ 200) (hls : Txt.lstrip line = line) (hp1 : (Txt.partition line (Str.ofString "*")).1 = pre) (hp2 : (Txt.partition line (Str.ofString "*")).2.1 = Str.ofString "*") (hp3 : (Txt.partition line (Str.ofString "*")).2.2 = tail)
    (lpre : pre.length ≤ 200) (lc : cc.length = 2) (lw : ws.length ≤ 100) (ltx : text.length ≤ 100) (ln : n.length ≤ 100) (lt : tail.length ≤ 100) (lt2 : 2 ≤ tail.length) (l4 : a4.length ≤ 100) (l5 : a5.length ≤ 100) (l69 : a69.length ≤ 100) (la : n.cps.all (· < 128) = true)
    (s1 : Txt.slice pre none (some 1) = Str.ofString "$") (s2 : Txt.slice pre (some 1) none = n) (s3 : Txt.slice n none (some 1) = a1) (s4 : Txt.slice n none (some 4) = a4) (s5 : Txt.slice n (some 4) (some 6) = a46) (s6 : Txt.slice n (some 6) (some 9) = a69) (s7 : Txt.slice n none (some 5) = a5) (s8 : Txt.slice n (some 5) (some 6) = a56)
    (t2 : Txt.slice tail none (some 2) = cc) (t3 : Txt.stripChars cc (Str.ofString "0123456789ABCDEFabcdef") = Str.ofString "") (t4 : Txt.slice tail (some 2) none = ws) (t5 : Txt.strip ws = Str.ofString "") (u3 : Txt.slice n (some 6) none = text)
    (f1 : ([Str.ofString "P", Str.ofString "p"].any fun x => x == a1) = false)
    (w4 : wl a4 4 = true) (f46 : ([Str.ofString "Q,", Str.ofString "q,"].any fun x => x == a46) = false) (w69 : True) (w5 : wl a5 5 = false) (f56 : True)
    :
    TellL w 290 [.str line t] news (fun r tl => DatIn tl r (.list [.str (Str.ofString "no sentence")])) := by
  unfold TellL; k_fill
  intro mean mg mb cn cs a ccd h₀ L m s Q E B F X N T hk hret
  refine wpAny_call ?_
  k_dflt (refine' code_defS0 ?k1 ?k2 ?k3 ?k4 ?k5 ?kA ?k6 ?k7 ?k8 ?k9 ?kB ?_ ?cK ?c2 ?c3 ?c4 ?c5; (case kA => exact rfl); (case k2 => k_asm); (case k1 => k_asm); (case k3 => k_asm); (case k4 => k_asm); (case k5 => k_asm); (case k6 => k_is); (case k7 => k_is); (case k8 => k_room); (case k9 => exact BindsTo.of_eq rfl); (case kB => exact locs rfl); (case cK => assumption); (case c2 => exact rfl); (case c3 => exact rfl); (case c4 => exact rfl); (case c5 => decide); k_whole)
  intro g' L' h' FG' F' N' B' X' T' D'; (try dsimp only); (try k_lift B'); (try k_fold)
  k_with_none
  k_with "m rw" => (simp only [hls, hp1, hp2, hp3, s1, s2, s3, s4, s5, s6, s7, s8, t2, t3, t4, t5, u3, w4, w5, lc, f1, f46, w69, f56, bne_iff_ne, ne_eq, not_false_eq_true, not_true_eq_false])
  k_with "word len" => (first | exact Nat.le_trans l4 (by decide) | exact Nat.le_trans l5 (by decide) | exact Nat.le_trans l69 (by decide))
  k_with "chk ascii" => exact la
  k_with "fmt" => omega
  k_with "list fits" => (simp only [List.size_toArray, strValues, List.length_map]; exact Nat.le_trans (Nat.le_of_eq (by assumption)) (by rw [sizeLine_eq]; omega))
  k_steps
  all_goals (try k_data)
  exact m_end1 hret (by k_asm) (by k_asm) (by k_mem) (fun p hp => by (repeat (first | exact hp | refine List.Mem.tail _ ?_))) (.cons (.str _ _) .nil) (by walk_at "lt news")

end Mine
end
section
open PySem PySem.W PyProof.Rows PySem.Calls PySem.Spec
namespace Mine
def LEnd (h₀ : Heap) (L I : Addr) (own : List (Addr × Obj)) (J : (Str → Option Value) → List (Addr × Obj) → Prop) (s₁ s₂ : Shared) : Prop :=
  ∃ h' tk m' nx, s₂ = { s₁ with heap := h', toks := tk } ∧ Fr h₀ L h' m' ∧ News h₀ L h' (own ++ nx) ∧ (∀ p ∈ nx, p.1 ≠ I) ∧ J m' nx
def LPost (h₀ : Heap) (L I : Addr) (own : List (Addr × Obj)) (J : (Str → Option Value) → List (Addr × Obj) → Prop) (s₁ : Shared) (Q : Flow → Shared → Prop) (f : Flow) (s₂ : Shared) : Prop :=
  match f with
  | .ret v => Q (.ret v) s₂
  | .brk => Q .next s₂
  | _ => LEnd h₀ L I own J s₁ s₂
section
variable {prog : Program} {w : World} {A : Around} {E : Value → Shared → Prop} {s : Shared} {env : Env} {h₀ : Heap} {x : Str} {body : List Stmt} {Q : Flow → Shared → Prop}
theorem loopL {I l : Addr} {ol : Obj} {n : Nat} {P : Nat → Value → Prop} {St : Nat → Heap → Prop} {m₀ : Str → Option Value} {news : List (Addr × Obj)} (J : Nat → (Str → Option Value) → List (Addr × Obj) → Prop)
    (W : Walks prog w A I [I, l] [I] n P St) (hI₀ : h₀.get? I = none) (hLI : env.locals ≠ I) (hLl : env.locals ≠ l) (hnw : ∀ p ∈ news, p.1 ≠ I) (hst : St 0 s.heap) (F : Fr h₀ env.locals s.heap m₀) (N : News h₀ env.locals s.heap news)
    (hl : ∀ i m nx, J i m nx → (l, ol) ∈ nx) (hj : J 0 m₀ news)
    (turn : ∀ i v m₁ nx h tk own, i < n → P i v → J i m₁ nx → (∀ p ∈ nx, p.1 ≠ I) → (∀ p ∈ own, p.1 = I) → Fr h₀ env.locals h (fun y => if y = x then some v else m₁ y) → News h₀ env.locals h (own ++ nx) →
      wpAny (model prog w) A (execs body env) (LPost h₀ env.locals I own (J (i + 1)) { s with heap := h, toks := tk } Q) E { s with heap := h, toks := tk })
    (done : ∀ m₁ nx h tk, J n m₁ nx → Fr h₀ env.locals h m₁ → News h₀ env.locals h nx → Q .next { s with heap := h, toks := tk }) :
    LoopAtV prog w A h₀ env x body Q E (.ref I) s := by
  refine ⟨I, [I, l], [I], n, P, St, m₀, news, J, rfl, W, ?_, ?_, ?_, hst, F, N, hj, ?_, ?_⟩
  · intro hm
    rcases List.mem_cons.mp hm with e | hm
    · exact hLI e
    · exact hLl (List.mem_singleton.mp hm)
  · intro b hb
    rw [List.mem_singleton.mp hb]
    exact hI₀
  · intro p hp hI
    exact hnw p hp (List.mem_singleton.mp hI)
  · rintro i v m₁ nx s₁ own ⟨hh', tk', rfl⟩ hin hP hJ hoff hown hget hfp hst' F₁ N₁
    have hno : ∀ p ∈ nx, p.1 ≠ I := fun p hp e => hoff p hp (List.mem_singleton.mpr e)
    have N₂ : News h₀ env.locals hh' ((own.filter fun p => decide (p.1 = I)) ++ nx) := fun p hp => N₁ p ((List.mem_append.mp hp).elim (fun h => List.mem_append.mpr (.inl (List.mem_filter.mp h).1)) fun h => List.mem_append.mpr (.inr h))
    have hlo : hh'.get? l = some ol := (N₁ _ (List.mem_append.mpr (.inr (hl _ _ _ hJ)))).1
    refine wpAny_mono (turn i v m₁ nx hh' tk' (own.filter fun p => decide (p.1 = I)) hin hP hJ hno (fun p hp => by simpa using (List.mem_filter.mp hp).2) F₁ N₂) (fun f s₂ p => ?_) fun _ _ e => e
    have fin : LEnd h₀ env.locals I (own.filter fun p => decide (p.1 = I)) (J (i + 1)) { s with heap := hh', toks := tk' } s₂ → LoopStepU h₀ env.locals [I] own (J (i + 1)) { s with heap := hh', toks := tk' } .next s₂ := by
      rintro ⟨h', tk, m', nx', e, F', N', hn, hm⟩
      refine ⟨rfl, h', tk, m', nx', e, F', fun p hp => ?_, fun p hp hq => hn p hp (List.mem_singleton.mp hq), hm⟩
      rcases List.mem_append.mp hp with h | h
      · have h2 : hh'.get? p.1 = some p.2 := hget p h
        rcases List.mem_cons.mp (hown p h) with h1 | h1
        · exact N' _ (List.mem_append.mpr (.inl (List.mem_filter.mpr ⟨h, by simpa using h1⟩)))
        · have h1 := List.mem_singleton.mp h1
          have h3 : p = (l, ol) := Prod.ext h1 (by rw [h1] at h2; exact Option.some.inj (h2.symm.trans hlo))
          rw [h3]
          exact N' _ (List.mem_append.mpr (.inr (hl _ _ _ hm)))
      · exact N' p (List.mem_append.mpr (.inr h))
    cases f with
    | ret v => exact .ret p
    | brk => exact .brk p
    | next => exact .next (fin p)
    | cont => exact .cont (fin p)
  · rintro h' tk m' news' F' N' _ hJ
    exact done m' news' h' tk hJ F' N'
theorem list_loop {l : Addr} {vs : List Value} {k : Nat} {m₀ : Str → Option Value} {news : List (Addr × Obj)} (J : Nat → (Str → Option Value) → List (Addr × Obj) → Prop)
    (hh : A.handled = none) (F : Fr h₀ env.locals s.heap m₀) (N : News h₀ env.locals s.heap news) (hl : ∀ i m nx, J i m nx → (l, listOf vs.toArray k) ∈ nx) (hj : J 0 m₀ news)
    (turn : ∀ i v m₁ nx h tk I own, vs[i]? = some v → J i m₁ nx → (∀ p ∈ nx, p.1 ≠ I) → (∀ p ∈ own, p.1 = I) → Fr h₀ env.locals h (fun y => if y = x then some v else m₁ y) → News h₀ env.locals h (own ++ nx) →
      wpAny (model prog w) A (execs body env) (LPost h₀ env.locals I own (J (i + 1)) { s with heap := h, toks := tk } Q) E { s with heap := h, toks := tk })
    (done : ∀ m₁ nx h tk, J vs.length m₁ nx → Fr h₀ env.locals h m₁ → News h₀ env.locals h nx → Q .next { s with heap := h, toks := tk }) :
    wpAny (model prog w) A (pyIter (.ref l)) (fun it s₂ => LoopAtV prog w A h₀ env x body Q E it s₂) E s := by
  have hl₀ := hl _ _ _ hj
  have hol : s.heap.get? l = some (listOf vs.toArray k) := (N _ hl₀).1
  have hls : s.heap.IsList l vs.toArray := ⟨_, hol, rfl, k, rfl⟩
  have hne : l ≠ s.heap.objs.size := Nat.ne_of_lt (Heap.lt_size hol)
  refine wpAny_pyIter_list hls ?_
  have W := Walks.list (prog := prog) (w := w) hh s.heap.objs.size l hne vs.toArray
  refine loopL J W (next_is_new F) (Nat.ne_of_lt F.ns.lt) (fun e => (N _ hl₀).2.1 e.symm) (fun p hp => Nat.ne_of_lt (Heap.lt_size (N p hp).1)) ⟨⟨_, Heap.get?_push_size _ rfl, rfl, rfl⟩, hls.at fun o e => Heap.get?_push_of_some _ e⟩ (F.push _) (fun p hp => ⟨Heap.get?_push_of_some _ (N p hp).1, (N p hp).2⟩) hl hj ?_ ?_
  · intro i v m₁ nx h tk own hi hP hJ hno hown F₁ N₁
    exact turn i v m₁ nx h tk _ own (by simpa using hP) hJ hno hown F₁ N₁
  · intro m₁ nx h tk hJ F₁ N₁
    exact done m₁ nx h tk (by simpa using hJ) F₁ N₁
theorem str_loop {xt : Str} {tx : Tok} {m₀ : Str → Option Value} {news : List (Addr × Obj)} (J : Nat → (Str → Option Value) → List (Addr × Obj) → Prop)
    (hh : A.handled = none) (F : Fr h₀ env.locals s.heap m₀) (N : News h₀ env.locals s.heap news) (hj : J 0 m₀ news)
    (turn : ∀ i c m₁ nx h tk I own t, xt.cps[i]? = some c → J i m₁ nx → (∀ p ∈ nx, p.1 ≠ I) → (∀ p ∈ own, p.1 = I) → Fr h₀ env.locals h (fun y => if y = x then some (.str ⟨#[c]⟩ t) else m₁ y) → News h₀ env.locals h (own ++ nx) →
      wpAny (model prog w) A (execs body env) (LPost h₀ env.locals I own (J (i + 1)) { s with heap := h, toks := tk } Q) E { s with heap := h, toks := tk })
    (done : ∀ m₁ nx h tk, J xt.cps.size m₁ nx → Fr h₀ env.locals h m₁ → News h₀ env.locals h nx → Q .next { s with heap := h, toks := tk }) :
    wpAny (model prog w) A (pyIter (.str xt tx)) (fun it s₂ => LoopAtV prog w A h₀ env x body Q E it s₂) E s := by
  refine wpAny_pyIter_str fun o St hW hst => ?_
  have W := hW A hh
  have hI := next_is_new F
  refine ⟨s.heap.objs.size, _, _, _, _, _, m₀, news, J, rfl, W, ?_, ?_, ?_, hst, F.push _, (fun p hp => ⟨Heap.get?_push_of_some _ (N p hp).1, (N p hp).2⟩), hj, ?_, ?_⟩
  · intro hm
    exact absurd F.ns.lt ((List.mem_singleton.mp hm) ▸ Nat.lt_irrefl _)
  · intro b hb
    rw [List.mem_singleton.mp hb]
    exact hI
  · intro p hp hI
    exact absurd (Heap.lt_size (N p hp).1) ((List.mem_singleton.mp hI) ▸ Nat.lt_irrefl _)
  · rintro i v m₁ nx s₁ own ⟨hh', tk', rfl⟩ hin ⟨c, t, hc, rfl⟩ hJ hoff hown hget hfp hst' F₁ N₁
    have hno : ∀ p ∈ nx, p.1 ≠ s.heap.objs.size := fun p hp e => hoff p hp (List.mem_singleton.mpr e)
    refine wpAny_mono (turn i c m₁ nx hh' tk' s.heap.objs.size own t hc hJ hno (fun p hp => List.mem_singleton.mp (hown p hp)) F₁ N₁) (fun f s₂ p => ?_) fun _ _ e => e
    have fin : LEnd h₀ env.locals s.heap.objs.size own (J (i + 1)) { s with heap := hh', toks := tk' } s₂ → LoopStepU h₀ env.locals [s.heap.objs.size] own (J (i + 1)) { s with heap := hh', toks := tk' } .next s₂ := by
      rintro ⟨h', tk, m', nx', e, F', N', hn, hm⟩
      exact ⟨rfl, h', tk, m', nx', e, F', N', fun p hp hq => hn p hp (List.mem_singleton.mp hq), hm⟩
    cases f with
    | ret v => exact .ret p
    | brk => exact .brk p
    | next => exact .next (fin p)
    | cont => exact .cont (fin p)
  · rintro h' tk m' news' F' N' _ hJ
    exact done m' news' h' tk hJ F' N'
end
end Mine
end
section
open PySem PySem.W PyProof.Rows PySem.Calls PySem.Spec
namespace Mine
def cutStep (ps : List Str × Str) (c : Nat) : List Str × Str := if c = 44 then (ps.1 ++ [ps.2], ⟨#[]⟩) else (ps.1, ps.2 ++ ⟨#[c]⟩)
def cutF (l : List Nat) : List Str × Str := l.foldl cutStep ([], ⟨#[]⟩)
def cutD (l : List Nat) : List Str := (cutF l).1 ++ [(cutF l).2]
theorem cutF_snoc (l : List Nat) (c : Nat) : cutF (l ++ [c]) = cutStep (cutF l) c := by simp [cutF]
theorem setL_last : ∀ (us : List Value) (y v : Value), ki_setL (us ++ [y]) us.length v = some (us ++ [v])
  | [], _, _ => rfl
  | u :: us, y, v => by
    show (match ki_setL (us ++ [y]) us.length v with | some q => some (u :: q) | none => none) = _
    rw [setL_last us y v]
    rfl
theorem idx_last (n : Nat) : seqIndex? (-1) (n + 1) = some n := by
  have := PySem.seqIndex_neg (k := -1) (n := n + 1) (by omega) (by omega)
  rw [this]
  congr 1
  omega
section
variable {prog : Program} {w : World} {A : Around} {E : Value → Shared → Prop} {s : Shared} {h₀ : Heap} {L D : Addr} {m : Str → Option Value} {rest : List (Addr × Obj)} {us : List Value} {y : Value} {n : Nat}
theorem m_setLast {t : Tok} {v : Value} {Q : Unit → Shared → Prop} (F : Fr h₀ L s.heap m) (N : News h₀ L s.heap ((D, listOf (us ++ [y]).toArray n) :: rest)) (off : ∀ p ∈ rest, p.1 ≠ D)
    (h : ∀ h', Fr h₀ L h' m → News h₀ L h' ((D, listOf (us ++ [v]).toArray n) :: rest) → Q () { s with heap := h' }) : wpAny (model prog w) A (setItem (.ref D) (.int (-1) t) v) Q E s :=
  ki_setNeg (j := us.length) F N (by decide) (by decide) (by rw [List.size_toArray, List.length_append]; exact idx_last _) (setL_last us y v) (.head off) h
theorem m_getLast {t : Tok} {Q : Value → Shared → Prop} (N : News h₀ L s.heap ((D, listOf (us ++ [y]).toArray n) :: rest)) (h : Q y s) : wpAny (model prog w) A (getItem (.ref D) (.int (-1) t)) Q E s :=
  wpAny_getItem_list_neg (PySem.IsL.isList (n := n) (N _ (.head _)).1) (by decide) (by rw [List.size_toArray, List.length_append, List.length_singleton]; omega) (by decide) (by
    have e : ((-1 : Int) + ((us ++ [y]).toArray.size : Nat)).toNat = us.length := by rw [List.size_toArray, List.length_append, List.length_singleton]; omega
    rw [e]; simp) h
theorem m_push {v : Value} {Q : Value → Shared → Prop} (F : Fr h₀ L s.heap m) (N : News h₀ L s.heap ((D, listOf us.toArray n) :: rest)) (off : ∀ p ∈ rest, p.1 ≠ D) (hsz : us.length ≤ sizeLine)
    (h : ∀ h', Fr h₀ L h' m → News h₀ L h' ((D, listOf (us ++ [v]).toArray (n + 1)) :: rest) → Q .none { s with heap := h' }) : wpAny (model prog w) A (call (.builtin "list.append") [.ref D, v]) Q E s :=
  append_K F N (.head off) (fun h' F' N' => h h' F' (by simpa using N')) (by simpa using hsz)
end
def CEnd (h₀ : Heap) (L lp : Addr) (m₀ : Str → Option Value) (rest : List (Addr × Obj)) (P : List Value → Str → Prop) (s₁ s₂ : Shared) : Prop :=
  ∃ h' tk m' us y t k, s₂ = { s₁ with heap := h', toks := tk } ∧ Fr h₀ L h' m' ∧ (∀ z, z ≠ Str.ofString "sign" → m' z = m₀ z) ∧ News h₀ L h' ((lp, listOf (us ++ [.str y t]).toArray k) :: rest) ∧ P us y
def CPost (h₀ : Heap) (L lp : Addr) (m₀ : Str → Option Value) (rest : List (Addr × Obj)) (P : List Value → Str → Prop) (s₁ : Shared) (f : Flow) (s₂ : Shared) : Prop :=
  match f with
  | .next => CEnd h₀ L lp m₀ rest P s₁ s₂
  | .cont => CEnd h₀ L lp m₀ rest P s₁ s₂
  | _ => False
section
variable {prog : Program} {w : World} {A : Around} {E : Value → Shared → Prop} {s : Shared} {env : Env} {h₀ : Heap} {body : List Stmt} {Q : Flow → Shared → Prop}
def CutJ (lp : Addr) (cs : List Nat) (m₀ : Str → Option Value) (news : List (Addr × Obj)) (i : Nat) (m : Str → Option Value) (nx : List (Addr × Obj)) : Prop :=
  ∃ us y t k, nx = (lp, listOf (us ++ [Value.str y t]).toArray k) :: news ∧ DatAll [] us ((cutF (cs.take i)).1.map .str) ∧ y = (cutF (cs.take i)).2 ∧ us.length ≤ i ∧ y.length ≤ i ∧ ∀ z, z ≠ Str.ofString "sign" → m z = m₀ z
theorem sign_fr {h : Heap} {L : Addr} {v : Value} {m₀ m₁ : Str → Option Value} (h2 : ∀ z, z ≠ Str.ofString "sign" → m₁ z = m₀ z) (F : Fr h₀ L h (fun z => if z = Str.ofString "sign" then some v else m₁ z)) :
    Fr h₀ L h (fun z => if z = Str.ofString "sign" then some v else m₀ z) := by
  have e : (fun z => if z = Str.ofString "sign" then some v else m₀ z) = fun z => if z = Str.ofString "sign" then some v else m₁ z := by
    funext z
    by_cases hz : z = Str.ofString "sign"
    · rw [if_pos hz, if_pos hz]
    · rw [if_neg hz, if_neg hz, h2 z hz]
  rw [e]
  exact F
theorem sign_out {h : Heap} {L : Addr} {m₀ m₁ : Str → Option Value} (h2 : ∀ z, z ≠ Str.ofString "sign" → m₁ z = m₀ z) (F : Fr h₀ L h m₁) :
    Fr h₀ L h (fun z => if z = Str.ofString "sign" then m₁ (Str.ofString "sign") else m₀ z) := by
  have e : (fun z => if z = Str.ofString "sign" then m₁ (Str.ofString "sign") else m₀ z) = m₁ := by
    funext z
    by_cases hz : z = Str.ofString "sign"
    · rw [if_pos hz, hz]
    · rw [if_neg hz, h2 z hz]
  rw [e]
  exact F
theorem cut_turn {lp I : Addr} {cs : List Nat} {m₀ : Str → Option Value} {news own : List (Addr × Obj)} {i c : Nat} {us : List Value} {y : Str} {t : Tok} {s₁ : Shared} (hc : cs[i]? = some c) (hd : DatAll [] us ((cutF (cs.take i)).1.map .str)) (hy : y = (cutF (cs.take i)).2) (hu : us.length ≤ i) (hyl : y.length ≤ i)
    (hno : ∀ p ∈ news, p.1 ≠ I) (hlp : lp ≠ I) (f : Flow) (s₂ : Shared)
    (h : CPost h₀ env.locals lp m₀ (news ++ own) (fun us' y' => if c = 44 then us' = us ++ [.str y t] ∧ y' = ⟨#[]⟩ else us' = us ∧ y' = y ++ ⟨#[c]⟩) s₁ f s₂) :
    LPost h₀ env.locals I own (CutJ lp cs m₀ news (i + 1)) s₁ Q f s₂ := by
  have hs : cs.take (i + 1) = cs.take i ++ [c] := by simp [List.take_add_one, hc]
  have fin : CEnd h₀ env.locals lp m₀ (news ++ own) (fun us' y' => if c = 44 then us' = us ++ [.str y t] ∧ y' = ⟨#[]⟩ else us' = us ∧ y' = y ++ ⟨#[c]⟩) s₁ s₂ → LEnd h₀ env.locals I own (CutJ lp cs m₀ news (i + 1)) s₁ s₂ := by
    rintro ⟨h', tk, m', us', y', t', k', e, F', hm, N', hP⟩
    refine ⟨h', tk, m', (lp, listOf (us' ++ [Value.str y' t']).toArray k') :: news, e, F', fun p hp => N' p ?_, fun p hp => ?_, us', y', t', k', rfl, ?_, ?_, ?_, ?_, hm⟩
    · rcases List.mem_append.mp hp with hp | hp
      · exact .tail _ (List.mem_append.mpr (.inr hp))
      · rcases List.mem_cons.mp hp with rfl | hp
        · exact .head _
        · exact .tail _ (List.mem_append.mpr (.inl hp))
    · rcases List.mem_cons.mp hp with rfl | hp
      · exact hlp
      · exact hno p hp
    · rw [hs, cutF_snoc]
      unfold cutStep
      by_cases h44 : c = 44
      · rw [if_pos h44] at hP ⊢
        rw [hP.1, List.map_append]
        exact hd.append (.one (hy ▸ .str _ _))
      · rw [if_neg h44] at hP ⊢
        rw [hP.1]
        exact hd
    · rw [hs, cutF_snoc]
      unfold cutStep
      by_cases h44 : c = 44
      · rw [if_pos h44] at hP ⊢
        exact hP.2
      · rw [if_neg h44] at hP ⊢
        rw [hP.2, hy]
    · by_cases h44 : c = 44
      · rw [if_pos h44] at hP
        rw [hP.1, List.length_append, List.length_singleton]
        omega
      · rw [if_neg h44] at hP
        rw [hP.1]
        omega
    · by_cases h44 : c = 44
      · rw [if_pos h44] at hP
        rw [hP.2]
        exact Nat.zero_le _
      · rw [if_neg h44] at hP
        rw [hP.2]
        have e1 : (y ++ (⟨#[c]⟩ : Str)).length = y.length + 1 := by
          show (y ++ (⟨#[c]⟩ : Str)).cps.size = y.cps.size + 1
          rw [Str.cps_append, Array.size_append]
          rfl
        omega
  cases f with
  | ret v => exact h.elim
  | brk => exact h.elim
  | next => exact fin h
  | cont => exact fin h
theorem cpost_next {lp : Addr} {m₀ : Str → Option Value} {rest : List (Addr × Obj)} {P : List Value → Str → Prop} {s₁ : Shared} {L : Addr} {h' : Heap} {tk : Nat} {v : Value} {us : List Value} {y : Str} {t : Tok} {k : Nat}
    (F : Fr h₀ L h' (fun z => if z = Str.ofString "sign" then some v else m₀ z)) (N : News h₀ L h' ((lp, listOf (us ++ [Value.str y t]).toArray k) :: rest)) (hP : P us y) : CPost h₀ L lp m₀ rest P s₁ .next { s₁ with heap := h', toks := tk } :=
  ⟨h', tk, _, us, y, t, k, rfl, F, fun _ hz => if_neg hz, N, hP⟩
theorem cut_done {lp : Addr} {cs : List Nat} {us : List Value} {y : Str} {t : Tok} {k : Nat} {X : List (Addr × Obj)} (hd : DatAll [] us ((cutF (cs.take cs.length)).1.map .str)) (hy : y = (cutF (cs.take cs.length)).2) (hX : (lp, listOf (us ++ [Value.str y t]).toArray k) ∈ X) :
    DatIn X (.ref lp) (.list ((cutD cs).map .str)) := by
  rw [List.take_length] at hd hy
  refine .list hX ?_
  unfold cutD
  rw [List.map_append]
  exact (hd.mono fun _ hp => absurd hp List.not_mem_nil).append (.one (hy ▸ .str _ _))
theorem ne_comma {c : Nat} (h : ¬ c = 44) : ((⟨#[c]⟩ : Str) == Str.ofString ",") = false := by
  refine beq_eq_false_iff_ne.mpr fun e => h ?_
  have e1 : (⟨#[c]⟩ : Str).cps.toList = (Str.ofString ",").cps.toList := by rw [e]
  have e2 : (Str.ofString ",").cps.toList = [44] := by decide +kernel
  rw [e2] at e1
  exact (List.cons.inj e1).1
theorem m_subLast {value slice : Expr} {t : Tok} {D : Addr} {us : List Value} {y : Value} {n : Nat} {L : Addr} {rest : List (Addr × Obj)} {Q : Value → Shared → Prop} (N : News h₀ L s.heap ((D, listOf (us ++ [y]).toArray n) :: rest)) (h : Q y s)
    (hs : subscripted slice false (.ref D) (.int (-1) t) = operate [.ref D, .int (-1) t] (getItem (.ref D) (.int (-1) t))) : wpAny (model prog w) A (subscriptTail value slice (.ref D) (.int (-1) t)) Q E s :=
  tail_any (PySem.IsL.isList (n := n) (N _ (.head _)).1).typeIs slot_list_getitem.lookup (m_getLast N h) hs
end
end Mine
end
section
open PySem PySem.W PyProof.Rows PySem.Calls PySem.Spec
namespace Mine
local macro_rules | `(tactic| walk_at "compareOp") => `(tactic| (k_here; k_extra "m rw"))
local macro_rules | `(tactic| walk_at "truthy") => `(tactic| (k_here; k_extra "m rw"))
local macro_rules | `(tactic| walk_at "ite") => `(tactic| (k_here; k_extra "m rw"))
local macro_rules | `(tactic| walk_at "subscriptTail") => `(tactic| (k_here; k_dflt (refine' m_subLast ?N ?_ ?z; (case N => k_asm); (case z => with_unfolding_all rfl))))
local macro_rules | `(tactic| walk_at "getItem ref int") => `(tactic| (k_here; k_dflt (refine' m_getLast ?N ?_; (case N => k_asm))))
local macro_rules | `(tactic| walk_at "setItem ref int") => `(tactic| (k_here; k_dflt (refine' m_setLast ?F ?N ?o ?_; (case F => k_asm); (case N => k_asm); (case o => k_extra "off")); intro h' F' N'))
local macro_rules | `(tactic| walk_at "call builtin:list.append") => `(tactic| (k_here; k_dflt (refine' m_push ?F ?N ?o ?z ?_; (case F => k_asm); (case N => k_asm); (case o => k_extra "off"); (case z => k_extra "fits")); intro h' F' N'))
theorem cut_str (w : World) (news : List (Addr × Obj)) (x : Str) (t : Tok) (hx : x.length ≤ 1000) : TellL w 283 [.str x t] news (fun r tl => DatIn tl r (.list ((cutD x.cps.toList).map .str))) := by
  unfold TellL; k_fill
  intro mean mg mb cn cs a ccd h₀ L m s Q E B F X N T hk hret
  refine wpAny_call ?_
  k_dflt (refine' code_defS0 ?k1 ?k2 ?k3 ?k4 ?k5 ?kA ?k6 ?k7 ?k8 ?k9 ?kB ?_ ?cK ?c2 ?c3 ?c4 ?c5; (case kA => exact rfl); (case k2 => k_asm); (case k1 => k_asm); (case k3 => k_asm); (case k4 => k_asm); (case k5 => k_asm); (case k6 => k_is); (case k7 => k_is); (case k8 => k_room); (case k9 => exact BindsTo.of_eq rfl); (case kB => exact locs rfl); (case cK => assumption); (case c2 => exact rfl); (case c3 => exact rfl); (case c4 => exact rfl); (case c5 => decide); k_whole)
  intro g' L' h' FG' F' N' B' X' T' D'; (try dsimp only); (try k_lift B'); (try k_fold)
  k_with_none
  k_with "pyIter str" => fail "here"
  try k_steps
  rename Fr _ _ _ _ => lF
  rename News _ _ _ (_ :: _) => lN
  rename ∀ p ∈ news, p.1 < _ => lT
  refine str_loop (CutJ _ x.cps.toList _ news) rfl lF lN ⟨[], _, _, _, rfl, .nil, rfl, Nat.le_refl _, Nat.le_refl _, fun _ _ => rfl⟩ ?_ ?_
  · rintro i c m₁ nx hh tk I own tc hc ⟨us, y, ty, k, rfl, hd, hy, hu, hyl, hm⟩ hno hown F₁ N₁
    have F₂ := sign_fr hm F₁
    clear F₁
    have hoff : ∀ p ∈ news ++ own, p.1 ≠ _ := fun p hp => (List.mem_append.mp hp).elim (fun hp => Nat.ne_of_lt (lT p hp)) fun hp => hown p hp ▸ (hno _ (.head _)).symm
    have N₂ : News _ _ hh (_ :: (news ++ own)) := fun p hp => N₁ p (by
      rcases List.mem_cons.mp hp with hp | hp
      · exact List.mem_append.mpr (.inr (hp ▸ .head _))
      · rcases List.mem_append.mp hp with hp | hp
        · exact List.mem_append.mpr (.inr (.tail _ hp))
        · exact List.mem_append.mpr (.inl hp))
    clear N₁
    have hfit : us.length ≤ 1000 := by
      have := List.getElem?_eq_some_iff.mp (by simpa using hc : x.cps.toList[i]? = some c)
      obtain ⟨h1, _⟩ := this
      have : x.cps.toList.length = x.length := rfl
      omega
    have hyf : y.length ≤ 1000 := by
      have := List.getElem?_eq_some_iff.mp (by simpa using hc : x.cps.toList[i]? = some c)
      obtain ⟨h1, _⟩ := this
      have : x.cps.toList.length = x.length := rfl
      omega
    have hcl : (⟨#[c]⟩ : Str).length = 1 := rfl
    refine' wpAny_mono ?g ?h ?e
    case e => exact fun _ _ e => e
    case h =>
      intro f s₂ hp
      exact cut_turn (t := ty) (by simpa using hc) hd hy hu hyl (fun p hp => hno p (.tail _ hp)) (hno _ (.head _)) f s₂ hp
    clear hd hy hu hyl hno hown lF lN
    by_cases h44 : c = 44
    · subst h44
      k_with "m rw" => simp only [beq_self_eq_true]
      k_with "off" => exact hoff
      k_with "fits" => (rw [List.length_append, List.length_singleton, sizeLine_eq]; omega)
      try k_steps
      refine cpost_next (by k_asm) (by k_asm) ?_
      exact ⟨rfl, rfl⟩
    · have hne : ((⟨#[c]⟩ : Str) == Str.ofString ",") = false := by
        exact ne_comma h44
      k_with "m rw" => simp only [hne]
      k_with "off" => exact hoff
      try k_steps
      refine cpost_next (by k_asm) (by k_asm) ?_
      simp [h44]
  · intro m₁ nx hh tk hJ F₁ N₁
    obtain ⟨us, y, ty, k, rfl, hd, hy, hu, hyl, hm⟩ := hJ
    have F₂ := sign_out hm F₁
    clear F₁ lF lN
    try k_steps
    refine hret _ [_] _ _ (by k_asm) (by k_asm) (fun q hq p hp => by rw [List.mem_singleton.mp hp]; exact lT q hq) (cut_done hd hy (.head _))
theorem cut_list (w : World) (news : List (Addr × Obj)) (l : Addr) (vs : List Value) (kl : Nat) (cs : List Nat) (hl : (l, listOf vs.toArray kl) ∈ news) (hvs : ∀ (i : Nat) (v : Value), vs[i]? = some v → ∃ (c : Nat) (t : Tok), cs[i]? = some c ∧ v = Value.str ⟨#[c]⟩ t) (hlen : vs.length = cs.length) (hx : cs.length ≤ 1000) : TellL w 283 [.ref l] news (fun r tl => DatIn tl r (.list ((cutD cs).map .str))) := by
  unfold TellL; k_fill
  intro mean mg mb cn csc a ccd h₀ L m s Q E B F X N T hk hret
  refine wpAny_call ?_
  k_dflt (refine' code_defS0 ?k1 ?k2 ?k3 ?k4 ?k5 ?kA ?k6 ?k7 ?k8 ?k9 ?kB ?_ ?cK ?c2 ?c3 ?c4 ?c5; (case kA => exact rfl); (case k2 => k_asm); (case k1 => k_asm); (case k3 => k_asm); (case k4 => k_asm); (case k5 => k_asm); (case k6 => k_is); (case k7 => k_is); (case k8 => k_room); (case k9 => exact BindsTo.of_eq rfl); (case kB => exact locs rfl); (case cK => assumption); (case c2 => exact rfl); (case c3 => exact rfl); (case c4 => exact rfl); (case c5 => decide); k_whole)
  intro g' L' h' FG' F' N' B' X' T' D'; (try dsimp only); (try k_lift B'); (try k_fold)
  k_with_none
  k_with "pyIter ref" => fail "here"
  try k_steps
  rename Fr _ _ _ _ => lF
  rename News _ _ _ (_ :: _) => lN
  rename ∀ p ∈ news, p.1 < _ => lT
  refine list_loop (vs := vs) (k := kl) (CutJ _ cs _ news) rfl lF lN (fun i m nx hJ => by obtain ⟨us, y, ty, k, rfl, _⟩ := hJ; exact .tail _ hl) ⟨[], _, _, _, rfl, .nil, rfl, Nat.le_refl _, Nat.le_refl _, fun _ _ => rfl⟩ ?_ ?_
  · rintro i v m₁ nx hh tk I own hv ⟨us, y, ty, k, rfl, hd, hy, hu, hyl, hm⟩ hno hown F₁ N₁
    obtain ⟨c, tc, hc, rfl⟩ := hvs i v hv
    have F₂ := sign_fr hm F₁
    clear F₁
    have hoff : ∀ p ∈ news ++ own, p.1 ≠ _ := fun p hp => (List.mem_append.mp hp).elim (fun hp => Nat.ne_of_lt (lT p hp)) fun hp => hown p hp ▸ (hno _ (.head _)).symm
    have N₂ : News _ _ hh (_ :: (news ++ own)) := fun p hp => N₁ p (by
      rcases List.mem_cons.mp hp with hp | hp
      · exact List.mem_append.mpr (.inr (hp ▸ .head _))
      · rcases List.mem_append.mp hp with hp | hp
        · exact List.mem_append.mpr (.inr (.tail _ hp))
        · exact List.mem_append.mpr (.inl hp))
    clear N₁
    have hfit : us.length ≤ 1000 := by
      have := List.getElem?_eq_some_iff.mp hc
      obtain ⟨h1, _⟩ := this
      omega
    have hyf : y.length ≤ 1000 := by
      have := List.getElem?_eq_some_iff.mp hc
      obtain ⟨h1, _⟩ := this
      omega
    have hcl : (⟨#[c]⟩ : Str).length = 1 := rfl
    refine' wpAny_mono ?g ?h ?e
    case e => exact fun _ _ e => e
    case h =>
      intro f s₂ hp
      exact cut_turn (t := ty) hc hd hy hu hyl (fun p hp => hno p (.tail _ hp)) (hno _ (.head _)) f s₂ hp
    clear hd hy hu hyl hno hown lF lN
    by_cases h44 : c = 44
    · subst h44
      k_with "m rw" => simp only [beq_self_eq_true]
      k_with "off" => exact hoff
      k_with "fits" => (rw [List.length_append, List.length_singleton, sizeLine_eq]; omega)
      try k_steps
      refine cpost_next (by k_asm) (by k_asm) ?_
      exact ⟨rfl, rfl⟩
    · have hne : ((⟨#[c]⟩ : Str) == Str.ofString ",") = false := by
        exact ne_comma h44
      k_with "m rw" => simp only [hne]
      k_with "off" => exact hoff
      try k_steps
      refine cpost_next (by k_asm) (by k_asm) ?_
      simp [h44]
  · intro m₁ nx hh tk hJ F₁ N₁
    rw [hlen] at hJ
    obtain ⟨us, y, ty, k, rfl, hd, hy, hu, hyl, hm⟩ := hJ
    have F₂ := sign_out hm F₁
    clear F₁ lF lN
    try k_steps
    refine hret _ [_] _ _ (by k_asm) (by k_asm) (fun q hq p hp => by rw [List.mem_singleton.mp hp]; exact lT q hq) (cut_done hd hy (.head _))
end Mine
end
section
open PySem PySem.W PyProof.Rows PySem.Calls PySem.Spec
namespace Mine
section
variable {prog : Program} {w : World} {A : Around} {E : Value → Shared → Prop} {s : Shared} {env : Env} {h₀ : Heap} {L : Addr} {m : Str → Option Value}
/-- a comprehension's source: a range of step 2 -/
def StepSrc (prog : Program) (w : World) (A : Around) (h₀ : Heap) (L : Addr) (m : Str → Option Value) (env : Env) (elt : Expr) (x : Str) (scope : Scope) (cl : List (Str × Addr)) (Fin : Shared → List Value → List (Addr × Obj) → Prop) (xv : Value) (s₁ : Shared) : Prop :=
  ∃ r a b t u v n news, xv = .ref r ∧ A.handled = none ∧ Fr h₀ L s₁.heap m ∧ News h₀ L s₁.heap news ∧ IsRange s₁.heap r a b 2 t u v ∧ Builtin.Range.small a b 2 = true ∧ Builtin.Range.rangeSize a b 2 = ((n : Nat) : Int) ∧ n ≤ sizeLine ∧
    ∀ s₂ : Shared, (∃ h, s₂ = { s₁ with heap := h }) → LCg.CompRest prog w A h₀ L m env elt x scope cl s₂ (fun _ => True) (fun i v => ∃ t, v = .int (a + (i : Int) * 2) t) (Fin s₂) n 0 [] news
theorem step_walks {I : Addr} (hh : A.handled = none) (a : Int) (n : Nat) : Walks prog w A I [I] [I] n (fun i v => ∃ t, v = .int (a + (i : Int) * 2) t) (fun i h => IsRangeIter h I (a + (i : Nat) * 2) ((n : Int) - (i : Nat)) 2) := Walks.range hh I a 2 n
theorem step_st {I : Addr} {a : Int} {n : Nat} : ∀ i (h h' : Heap) (o : Obj) (nw : List (Addr × Obj)), IsRangeIter h I (a + (i : Nat) * 2) ((n : Int) - (i : Nat)) 2 → h.get? I = some o → h'.get? I = some o → (∀ b o, h₀.get? b = some o → h'.get? b = some o) → News h₀ L h' nw → True → IsRangeIter h' I (a + (i : Nat) * 2) ((n : Int) - (i : Nat)) 2 := by
  intro i h h' o nw st e e' _ _ _
  have st' : h.get? I = some _ := st
  show h'.get? I = some _
  rw [e', ← e]
  exact st'
theorem comp_step {elt iter : Expr} {x : Str} {px : Pos} {scope : Scope} {cl : List (Str × Addr)} {pos : Pos} {Q : Value → Shared → Prop} (F₀ : Fr h₀ L s.heap m)
    (hclos : closureFor scope env = pure cl) (hcell : ∀ y ∈ scope.names, y.2 ≠ .cell) (hkind : scope.kind = .function)
    (hnames : ∀ y ∈ scope.names, y.2 = .local → scope.names.lookup y.1 = some .local) (hx : scope.names.lookup x = some .local)
    (h : wpAny (model prog w) A (eval iter env) (StepSrc prog w A h₀ L m env elt x scope cl (fun s₂ => LCg.FinE h₀ L m s₂ Q)) E s)
    (hs : ∀ x, foldedSetIterable iter env x = pure x := by intro _; rfl) :
    wpAny (model prog w) A (eval (.ListComp elt [⟨.Name x px, iter, [], 0⟩] scope pos) env) Q E s := by
  have _ := F₀
  rw [eval_ListComp]
  refine wpAny_comprehension_free (use := none) rfl hs hclos hkind hnames (wpAny_mono h (fun xv s₁ h₁ => ?_) fun _ _ e => e)
  obtain ⟨r, a, b, t, u, v, n, news, rfl, hh, F, N, hr, hsm, hn, hsz, R⟩ := h₁
  refine wpAny_pyIter_range hr hsm ?_
  refine LCg.block_U (step_walks hh a n) hsz (fun i h st => ⟨_, st⟩) step_st hcell hkind hx ?_ (fun b hb => ?_) (F.keeps fun _ _ e => Heap.get?_push_of_some _ e) (N.grown fun _ _ e => Heap.get?_push_of_some _ e) (Nat.ne_of_lt F.ns.lt) (next_is_new F) (fun p hp => Nat.ne_of_lt (Heap.lt_size (N p hp).1)) trivial (R _ ⟨_, rfl⟩) ?_
  · show IsRangeIter _ _ _ _ _
    rw [hn]
    simpa using Heap.get?_push_size _ rfl
  · rw [List.mem_singleton.mp hb]
    show s₁.heap.objs.size < (s₁.heap.push _).objs.size
    rw [Heap.size_push]
    exact Nat.lt_succ_self _
  · intro D C h tk m' ys news' F' N' o1 hn hC₀ hD₀ hCL hDL hCD offC fin
    refine ⟨m', hn, fun h'' hs'' => fin D h'' tk (F'.change hs'' hCL hC₀) (fun p hp => ⟨hs''.extBut _ _ ?_ (N' p hp).1, (N' p hp).2⟩) o1⟩
    rcases List.mem_cons.mp hp with rfl | hp
    · exact Ne.symm hCD
    · exact offC p hp
theorem ints_snoc {y : Int} {t : Tok} : ∀ {vs : List Value} {ys : List Int}, IntsAre vs ys → IntsAre (vs ++ [.int y t]) (ys ++ [y])
  | _, _, .nil => .cons y t .nil
  | _, _, .cons z u r => .cons z u (ints_snoc r)
theorem step_rest {elt : Expr} {x : Str} {scope : Scope} {cl : List (Str × Addr)} {S : List (Addr × Obj) → Prop} {Fin : List Value → List (Addr × Obj) → Prop} {news : List (Addr × Obj)} {n : Nat} {a : Int} (g : Nat → Int)
    (turn : ∀ i t I oI C oC D m₂ ys h tk (E' : Value → Shared → Prop), i < n → LCg.NsObj oC m₂ → m₂ x = some (.int (a + (i : Int) * 2) t) → Fr h₀ L h m → News h₀ L h ((I, oI) :: (C, oC) :: (D, LCg.lst ys) :: news) → LCg.Off3 I C D news → ((@Ne Nat I C) ∧ (@Ne Nat I D) ∧ (@Ne Nat C D)) →
      wpAny (model prog w) A (eval elt (compEnvC scope cl C env)) (LCg.CompEnd h₀ L m { s with heap := h, toks := tk } I oI C oC D (LCg.lst ys) S (fun y news' => news' = news ∧ ∃ t, y = Value.int (g i) t)) E' { s with heap := h, toks := tk })
    (fin : ∀ ys, IntsAre ys ((List.range n).map g) → Fin ys news) : LCg.CompRest prog w A h₀ L m env elt x scope cl s S (fun i v => ∃ t, v = .int (a + (i : Int) * 2) t) Fin n 0 [] news := by
  have key : ∀ (j i : Nat) (ys : List Value), i + j = n → IntsAre ys ((List.range i).map g) → LCg.CompRest prog w A h₀ L m env elt x scope cl s S (fun i v => ∃ t, v = .int (a + (i : Int) * 2) t) Fin j i ys news := by
    intro j
    induction j with
    | zero =>
      intro i ys hi hy
      have e : i = n := by omega
      subst e
      exact LCg.CompRest.zero (fin ys hy)
    | succ j ih =>
      intro i ys hi hy
      refine LCg.CompRest.succ ?_
      rintro v I oI C oC D m₂ h tk E' ⟨t, rfl⟩ hC hx F N off ne
      refine wpAny_mono (turn i t I oI C oC D m₂ ys h tk E' (by omega) hC hx F N off ne) (fun y s₂ hq => ?_) fun _ _ e => e
      obtain ⟨h', tk', nw, e, F', N', off', hS, hn, t', hy'⟩ := hq
      rw [hn] at N' off' hS
      refine ⟨h', tk', news, e, F', N', off', hS, ?_⟩
      rw [hy']
      refine ih (i + 1) _ (by omega) ?_
      rw [List.range_succ, List.map_append]
      exact ints_snoc hy
  exact key n 0 [] (by omega) .nil
end
end Mine
end
section
open PySem PySem.W PyProof.Rows PySem.Calls PySem.Spec
namespace Mine
def TellH (w : World) (H : Heap → Prop) (f : Addr) (vs : List Value) (news : List (Addr × Obj)) (Out : Value → List (Addr × Obj) → Prop) : Prop :=
  ∀ (mean : ExcName → Option Value) (mg mb : Str → Option Value) (cn : Str) (cs : Scope) (a : Addr) (ccd : Value) (h₀ : Heap) (L : Addr) (m : Str → Option Value) (s : Shared) (Q E : Value → Shared → Prop),
    Below callerA h₀ [] h₀ → Fr h₀ L s.heap m → (hd.heap_39 w.params).In h₀ → News h₀ L s.heap news → Top hd.view_39 (looseW hd.view_39 [Str.ofString "NMEASentence", Str.ofString "TXT", Str.ofString "_law_signs"]) mean mg mb h₀ → cs.kind = .function → H h₀ →
    (∀ r tl h' tk', Fr h₀ L h' m → News h₀ L h' (tl ++ news) → (∀ q ∈ news, ∀ p ∈ tl, @Ne Nat q.1 p.1) → Out r tl → Q r { s with heap := h', toks := tk' }) →
    wpAny (model PySem.Challenge.rw_ez0281_01.row.prog w) (callerA.deeper (envOf cn cs L a ccd)) (call (.ref f) vs) Q E s
theorem int_eq {x y : Int} {t : Tok} (h : x = y) : ∃ t', Value.int x t = Value.int y t' := ⟨t, by rw [h]⟩
theorem off1_mem {D : Addr} : ∀ {l : List (Addr × Obj)}, LCg.Off1 D l → ∀ q ∈ l, @Ne Nat q.1 D
  | [], _, _, hq => absurd hq List.not_mem_nil
  | p :: r, h, q, hq => by
    rcases List.mem_cons.mp hq with e | hq
    · rw [e]; exact And.left h
    · exact off1_mem (And.right h) q hq
theorem step_size0 : ∀ k, k < 41 → Builtin.Range.rangeSize 0 (k : Nat) 2 = (((k + 1 - 0) / 2 : Nat) : Int) := by decide +kernel
theorem step_size1 : ∀ k, k < 41 → Builtin.Range.rangeSize 1 (k : Nat) 2 = (((k + 1 - 1) / 2 : Nat) : Int) := by decide +kernel
theorem step_size {n : Nat} {a : Int} (hn : n ≤ 40) (ha : a = 0 ∨ a = 1) : Builtin.Range.rangeSize a n 2 = (((n + 1 - a.toNat) / 2 : Nat) : Int) := by
  rcases ha with rfl | rfl
  · exact step_size0 n (by omega)
  · exact step_size1 n (by omega)
theorem step_small0 : ∀ k, k < 41 → Builtin.Range.small 0 (k : Nat) 2 = true := by decide +kernel
theorem step_small1 : ∀ k, k < 41 → Builtin.Range.small 1 (k : Nat) 2 = true := by decide +kernel
theorem step_small {n : Nat} {a : Int} (hn : n ≤ 40) (ha : a = 0 ∨ a = 1) : Builtin.Range.small a n 2 = true := by
  rcases ha with rfl | rfl
  · exact step_small0 n (by omega)
  · exact step_small1 n (by omega)
local macro_rules | `(tactic| walk_at "eval ListComp") => `(tactic| (k_here; k_dflt (refine comp_step (F₀ := by k_asm) (by with_unfolding_all rfl) (by decide) (by rfl) (by decide) (by rfl) ?_)))
theorem each_tell2 (w : World) (news : List (Addr × Obj)) (l : Addr) (vs : List Value) (ns : List Int) (a b : Int) (t1 t2 : Tok) (e : Nat) (hn : e ≤ 40) (heN : e ≤ ns.length) (hN : ns.length ≤ 63) (ha : a = 0 ∨ a = 1) (hE : (if (ns.length : Int) < b then (ns.length : Int) else b) = (e : Int)) (hi : IntsAre vs ns) :
    TellH w (fun h => h.IsList l vs.toArray) 269 [.ref l, .int a t1, .int b t2] news (fun r tl => ∃ l' us k, r = .ref l' ∧ tl = [(l', listOf us.toArray k)] ∧ IntsAre us ((List.range ((e + 1 - a.toNat) / 2)).map fun i => ns.getD (a.toNat + 2 * i) 0)) := by
  unfold TellH; k_fill
  intro mean mg mb cn csc ad ccd h₀ L m s Q E B F X N T hk hL hret
  refine wpAny_call ?_
  have hKK : Scope.kind csc = .function := hk
  k_dflt (refine' code_defC ?k1 ?k2 ?k3 ?k4 ?k5 ?kA ?kF ?kK ?k6 ?k7 ?k8 ?k9 ?kB ?kD ?_ ?c2 ?c3 ?c4; (case kA => exact rfl); (case kF => exact rfl); (case kK => exact hKK); (case k1 => k_asm); (case k2 => k_asm); (case k3 => k_asm); (case k4 => k_asm); (case k5 => k_asm); (case k6 => k_is); (case k7 => k_is); (case k8 => k_room); (case k9 => exact BindsTo.of_eq rfl); (case kB => exact rfl); (case kD => decide +kernel); (case c2 => exact rfl); (case c3 => exact rfl); (case c4 => exact rfl); k_whole)
  intro g' L' h' tk' cells' FG' F' N' Y' B' X' T' l1
  k_cells Y'
  (try simp only [List.cons_append, List.nil_append] at N'); (try dsimp only); (try k_lift B'); (try k_fold)
  k_steps
  rename IsRange _ _ _ _ _ _ _ _ => hR
  rename Fr g' _ _ _ => lF
  rename News g' _ _ _ => lN
  rw [hE] at hR
  refine ⟨_, _, _, _, _, _, (e + 1 - a.toNat) / 2, _, rfl, rfl, lF, lN, hR, ?_, ?_, ?_, ?_⟩
  · exact step_small hn ha
  · exact step_size hn ha
  · rw [sizeLine_eq]; omega
  rintro s₂ ⟨g, rfl⟩
  refine step_rest (fun i => ns.getD (a.toNat + 2 * i) 0) ?_ ?_
  · intro i t I oI C oC D m₂ ys h tk E' hi' hC hx F N off ne
    k_steps
    refine LCg.CompEnd.intro (by k_asm) (by k_asm) _ (fun p hp => hp) off trivial ⟨rfl, int_eq ?_⟩
    rw [show (a + (i : Int) * 2).toNat = a.toNat + 2 * i by rcases ha with rfl | rfl <;> omega]
  · intro ys hy
    k_steps
    rename _ ∧ LCg.Off1 _ news => hO
    rename News h₀ L _ (_ :: _) => kN
    refine hret _ [(_, LCg.lst ys)] _ _ (by k_asm) (fun p hp => ?_) (fun q hq p hp => ?_) ⟨_, ys, _, rfl, rfl, hy⟩
    · refine kN p ?_
      rcases List.mem_append.mp hp with hp | hp
      · rw [List.mem_singleton.mp hp]; exact List.mem_cons_self (a := (_, LCg.lst ys)) (l := _)
      · exact .tail _ (.tail _ hp)
    · rw [List.mem_singleton.mp hp]
      exact off1_mem hO.2 q hq
end Mine
end
section
open PySem PySem.W PyProof.Rows PySem.Calls PySem.Spec
namespace Mine
def evens (ns : List Int) : List Int := (List.range ((min 40 ns.length + 1 - (0 : Int).toNat) / 2)).map fun i => ns.getD ((0 : Int).toNat + 2 * i) 0
def odds (ns : List Int) : List Int := (List.range ((min 20 ns.length + 1 - (1 : Int).toNat) / 2)).map fun i => ns.getD ((1 : Int).toNat + 2 * i) 0
theorem each0 (w : World) (news : List (Addr × Obj)) (l : Addr) (vs : List Value) (ns : List Int) (t1 t2 : Tok) (hN : ns.length ≤ 63) (hi : IntsAre vs ns) :
    TellH w (fun h => h.IsList l vs.toArray) 269 [.ref l, .int 0 t1, .int 40 t2] news (fun r tl => ∃ l' us k, r = .ref l' ∧ tl = [(l', listOf us.toArray k)] ∧ IntsAre us (evens ns)) :=
  each_tell2 w news l vs ns 0 40 t1 t2 (min 40 ns.length) (by omega) (by omega) hN (.inl rfl) (by split <;> omega) hi
theorem each1 (w : World) (news : List (Addr × Obj)) (l : Addr) (vs : List Value) (ns : List Int) (t1 t2 : Tok) (hN : ns.length ≤ 63) (hi : IntsAre vs ns) :
    TellH w (fun h => h.IsList l vs.toArray) 269 [.ref l, .int 1 t1, .int 20 t2] news (fun r tl => ∃ l' us k, r = .ref l' ∧ tl = [(l', listOf us.toArray k)] ∧ IntsAre us (odds ns)) :=
  each_tell2 w news l vs ns 1 20 t1 t2 (min 20 ns.length) (by omega) (by omega) hN (.inr rfl) (by split <;> omega) hi
theorem TellH.use {w : World} {H : Heap → Prop} {f : Addr} {vs : List Value} {news : List (Addr × Obj)} {Out : Value → List (Addr × Obj) → Prop} (C : TellH w H f vs news Out) {mean : ExcName → Option Value} {mg mb : Str → Option Value} {cn : Str} {cs : Scope} {a : Addr} {ccd : Value} {h₀ : Heap} {L : Addr} {m : Str → Option Value} {s : Shared} {Q E : Value → Shared → Prop}
    (B : Below callerA h₀ [] h₀) (F : Fr h₀ L s.heap m) (X : (hd.heap_39 w.params).In h₀) (N : News h₀ L s.heap news) (T : Top hd.view_39 (looseW hd.view_39 [Str.ofString "NMEASentence", Str.ofString "TXT", Str.ofString "_law_signs"]) mean mg mb h₀) (hk : cs.kind = .function) (hH : H h₀)
    (ret : ∀ r tl h' tk', Fr h₀ L h' m → News h₀ L h' (tl ++ news) → (∀ q ∈ news, ∀ p ∈ tl, @Ne Nat q.1 p.1) → Out r tl → Q r { s with heap := h', toks := tk' }) :
    wpAny (model PySem.Challenge.rw_ez0281_01.row.prog w) (callerA.deeper (envOf cn cs L a ccd)) (call (.ref f) vs) Q E s := C _ _ _ _ _ _ _ _ _ _ _ _ _ B F X N T hk hH ret
theorem TellL.use {w : World} {f : Addr} {vs : List Value} {news : List (Addr × Obj)} {Out : Value → List (Addr × Obj) → Prop} (C : TellL w f vs news Out) {mean : ExcName → Option Value} {mg mb : Str → Option Value} {cn : Str} {cs : Scope} {a : Addr} {ccd : Value} {h₀ : Heap} {L : Addr} {m : Str → Option Value} {s : Shared} {Q E : Value → Shared → Prop}
    (B : Below callerA h₀ [] h₀) (F : Fr h₀ L s.heap m) (X : (hd.heap_39 w.params).In h₀) (N : News h₀ L s.heap news) (T : Top hd.view_39 (looseW hd.view_39 [Str.ofString "NMEASentence", Str.ofString "TXT", Str.ofString "_law_signs"]) mean mg mb h₀) (hk : cs.kind = .function)
    (ret : ∀ r tl h' tk', Fr h₀ L h' m → News h₀ L h' (tl ++ news) → (∀ q ∈ news, ∀ p ∈ tl, q.1 < p.1) → Out r tl → Q r { s with heap := h', toks := tk' }) :
    wpAny (model PySem.Challenge.rw_ez0281_01.row.prog w) (callerA.deeper (envOf cn cs L a ccd)) (call (.ref f) vs) Q E s := C _ _ _ _ _ _ _ _ _ _ _ _ _ B F X N T hk ret
end Mine
end
section
open PySem PySem.Builtin PySem.Builtin.Str PyProof.Rows
namespace Mine
def S (l : List Nat) : Str := ⟨l.toArray⟩
theorem S_list (l : List Nat) : (S l).cps.toList = l := rfl
theorem S_len (l : List Nat) : (S l).length = l.length := rfl
theorem S_eta (x : Str) : x = S x.cps.toList := rfl
theorem S_app (a b : List Nat) : S a ++ S b = S (a ++ b) := by
  show Str.mk (a.toArray ++ b.toArray) = _
  simp [S]
theorem S_of {x : Str} {l : List Nat} (h : x.cps.toList = l) : x = S l := by subst h; rfl
theorem sliceIdx_cap (a b len : Nat) : strSliceIndices (some (a : Int)) (some (b : Int)) 1 len = strSliceIndices (some ((min a len : Nat) : Int)) (some ((min b len : Nat) : Int)) 1 len := by
  have h1 : ¬ ((a : Int) < 0) := by omega
  have h2 : ¬ ((b : Int) < 0) := by omega
  have h3 : ¬ (((min a len : Nat) : Int) < 0) := by omega
  have h4 : ¬ (((min b len : Nat) : Int) < 0) := by omega
  have e1 : max (0 : Int) (min (a : Int) (len : Int)) = max (0 : Int) (min ((min a len : Nat) : Int) (len : Int)) := by omega
  have e2 : max (0 : Int) (min (b : Int) (len : Int)) = max (0 : Int) (min ((min b len : Nat) : Int) (len : Int)) := by omega
  simp only [strSliceIndices, h1, h2, h3, h4, if_false, show ((1 : Int) > 0) = True from by simp, if_true, e1, e2]
theorem slice_mid (l : List Nat) {a b : Nat} (hab : a ≤ b) : Txt.slice (S l) (some (a : Int)) (some (b : Int)) = S ((l.drop a).take (b - a)) := by
  have e : Txt.slice (S l) (some (a : Int)) (some (b : Int)) = StrLaws.sliceText (S l) (some ((min a l.length : Nat) : Int)) (some ((min b l.length : Nat) : Int)) := by
    show StrLaws.sliceText (S l) (some (a : Int)) (some (b : Int)) = _
    unfold StrLaws.sliceText
    rw [sliceIdx_cap a b (S l).length]
    rfl
  rw [e, StrLaws.sliceText_nat (S l) (by omega) (by rw [S_len]; omega), S_list]
  refine congrArg S ?_
  rcases Nat.lt_or_ge l.length a with h | h
  · rw [List.drop_eq_nil_of_le (Nat.le_of_lt h), show min a l.length = l.length by omega, List.drop_length]
    simp
  · rw [show min a l.length = a by omega]
    rcases Nat.lt_or_ge l.length b with h' | h'
    · rw [show min b l.length = l.length by omega, List.take_of_length_le (by simp), List.take_of_length_le (by simp; omega)]
    · rw [show min b l.length = b by omega]
theorem slice_to (l : List Nat) (b : Nat) : Txt.slice (S l) none (some (b : Int)) = S (l.take b) := by
  have e : Txt.slice (S l) none (some (b : Int)) = Txt.slice (S l) (some ((0 : Nat) : Int)) (some (b : Int)) := by
    show StrLaws.sliceText (S l) none (some (b : Int)) = StrLaws.sliceText (S l) (some ((0 : Nat) : Int)) (some (b : Int))
    unfold StrLaws.sliceText
    rw [StrLaws.sliceIdx_none_lo]
    rfl
  rw [e, slice_mid l (Nat.zero_le b)]
  rfl
theorem slice_from (l : List Nat) (a : Nat) : Txt.slice (S l) (some (a : Int)) none = S (l.drop a) := by
  have e : Txt.slice (S l) (some (a : Int)) none = Txt.slice (S l) (some (a : Int)) (some (((max a l.length) : Nat) : Int)) := by
    show StrLaws.sliceText (S l) (some (a : Int)) none = StrLaws.sliceText (S l) (some (a : Int)) (some (((max a l.length) : Nat) : Int))
    unfold StrLaws.sliceText
    rw [StrLaws.sliceIdx_none_hi]
    rw [sliceIdx_cap a (max a l.length) (S l).length, S_len, sliceIdx_cap a l.length l.length, show min (max a l.length) l.length = min l.length l.length by omega]
  rw [e, slice_mid l (by omega), List.take_of_length_le (by simp; omega)]
theorem at_one (l : List Nat) (c i : Nat) : StrLaws.At (S l) (S [c]) (S l).length i ↔ l[i]? = some c := by
  unfold StrLaws.At
  rw [StrLaws.subAt_eq, S_len, S_list, S_list, S_len]
  simp only [List.length_singleton, beq_iff_eq]
  constructor
  · rintro ⟨h1, h2⟩
    have h3 := congrArg (fun z => z[0]?) h2
    simpa using h3
  · intro h
    obtain ⟨h1, h2⟩ := List.getElem?_eq_some_iff.mp h
    refine ⟨by omega, ?_⟩
    rw [List.drop_eq_getElem_cons h1, h2]
    rfl
theorem part_star (p q : List Nat) (c : Nat) (h : c ∉ p) : Txt.partition (S (p ++ c :: q)) (S [c]) = (S p, S [c], S q) := by
  have hp : StrLaws.At (S (p ++ c :: q)) (S [c]) (S (p ++ c :: q)).length p.length := (at_one _ _ _).mpr (by simp)
  unfold Txt.partition
  rcases StrLaws.occ_head (S (p ++ c :: q)) (S [c]) 1 (Nat.le_refl 1) with ⟨h0, hn⟩ | ⟨i, r, h0, hi, hn⟩
  · exact absurd hp (hn _)
  · have hle : ¬ p.length < i := fun hl => hn _ hl hp
    have hi' := (at_one _ _ _).mp hi
    have hge : ¬ i < p.length := fun hl => by
      rw [List.getElem?_append_left hl] at hi'
      exact h (List.mem_of_getElem? hi')
    have hi0 : i = p.length := by omega
    rw [h0]
    show (strSub _ 0 i, S [c], strSub _ (i + (S [c]).length) _) = _
    have e1 : strSub (S (p ++ c :: q)) 0 i = S p := S_of (by rw [StrLaws.strSub_toList, S_list, hi0]; simp)
    have e2 : strSub (S (p ++ c :: q)) (i + (S [c]).length) (S (p ++ c :: q)).length = S q := S_of (by
      rw [StrLaws.strSub_toList, S_list, S_len, S_len, hi0, show p ++ c :: q = (p ++ [c]) ++ q by simp, show p.length + [c].length = (p ++ [c]).length by simp, List.drop_left, List.take_of_length_le (by simp; omega)])
    rw [e1, e2]
theorem lstrip_same (c : Nat) (l : List Nat) (h : Unicode.isSpace c = false) : Txt.lstrip (S (c :: l)) = S (c :: l) := by
  unfold Txt.lstrip Txt.stripBy
  have e : stripLo Unicode.isSpace true (S (c :: l)) = 0 := by
    unfold stripLo
    rw [if_pos rfl, S_list, List.takeWhile_cons, h]
    rfl
  have e2 : stripSame Unicode.isSpace true false (S (c :: l)) = true := by
    unfold stripSame
    rw [e]
    simp [stripHi]
  rw [if_pos e2]
-- split
def cutStepP (ps : List Str × Str) (c : Nat) : List Str × Str := if c = 44 then (ps.1 ++ [ps.2], ⟨#[]⟩) else (ps.1, ps.2 ++ ⟨#[c]⟩)
theorem cut_free (l : List Nat) : ∀ (a : List Str) (y : Str), 44 ∉ l → l.foldl cutStepP (a, y) = (a, y ++ S l) := by
  induction l with
  | nil =>
    intro a y _
    show (a, y) = (a, y ++ S [])
    rw [show y ++ S [] = y from Str.append_right_empty rfl]
  | cons c l ih =>
    intro a y h
    have h1 : ¬ c = 44 := fun e => h (e ▸ .head _)
    rw [List.foldl_cons, show cutStepP (a, y) c = (a, y ++ S [c]) from if_neg h1, ih _ _ (fun h' => h (.tail _ h'))]
    rw [show y ++ S [c] ++ S l = y ++ S (c :: l) from by
      rw [S_eta y, S_app, S_app, S_app]
      simp]
theorem cut_join : ∀ (ps : List Str) (a : List Str), ps ≠ [] → (∀ p ∈ ps, 44 ∉ p.cps.toList) → (Str.join (S [44]) ps).cps.toList.foldl cutStepP (a, ⟨#[]⟩) = (a ++ ps.dropLast, ps.getLast?.getD ⟨#[]⟩)
  | [], _, h, _ => absurd rfl h
  | [x], a, _, hf => by
    show x.cps.toList.foldl cutStepP (a, ⟨#[]⟩) = _
    rw [cut_free _ _ _ (hf x (.head _)), ← S_eta]
    show (a, (⟨#[]⟩ : Str) ++ x) = (a ++ [], x)
    rw [Str.append_left_empty (y := x) rfl, List.append_nil]
  | x :: y :: r, a, _, hf => by
    have hj : (Str.join (S [44]) (x :: y :: r)).cps.toList = x.cps.toList ++ 44 :: (Str.join (S [44]) (y :: r)).cps.toList := by
      show (x ++ S [44] ++ Str.join (S [44]) (y :: r)).cps.toList = _
      show (x.cps ++ (S [44]).cps ++ (Str.join (S [44]) (y :: r)).cps).toList = _
      simp [S]
    rw [hj, List.foldl_append, cut_free _ _ _ (hf x (.head _)), ← S_eta, Str.append_left_empty (y := x) rfl, List.foldl_cons]
    show (Str.join (S [44]) (y :: r)).cps.toList.foldl cutStepP (a ++ [x], ⟨#[]⟩) = _
    rw [cut_join (y :: r) (a ++ [x]) (by simp) (fun p hp => hf p (.tail _ hp))]
    simp
theorem split_cut (x : Str) : Txt.split x (S [44]) = (x.cps.toList.foldl cutStepP ([], ⟨#[]⟩)).1 ++ [(x.cps.toList.foldl cutStepP ([], ⟨#[]⟩)).2] := by
  have hj := StrLaws.join_split x (S [44])
  have hne : Txt.split x (S [44]) ≠ [] := fun e => by
    have := split_pos x (S [44])
    rw [e] at this
    simp at this
  have h := cut_join (Txt.split x (S [44])) [] hne (StrLaws.split_free x 44)
  rw [hj] at h
  rw [h]
  show _ = [] ++ (Txt.split x (S [44])).dropLast ++ [((Txt.split x (S [44])).getLast?).getD ⟨#[]⟩]
  rw [List.nil_append, List.getLast?_eq_some_getLast hne]
  exact (List.dropLast_concat_getLast hne).symm
end Mine
end
section
open PySem PySem.Builtin PySem.Builtin.Str PyProof.Rows
namespace Mine
def menuC : List Nat := [48, 55, 65, 122, 44, 44, 45, 46, 47, 36, 32, 81, 95]
def goodC : List Nat := [48, 55, 65, 122, 81, 95]
def head6 : List Nat := [71, 80, 84, 88, 84, 44]
def digS : Str := Str.ofString "0123456789ABCDEFabcdef"
def inQ (l : List Nat) : Bool := [Str.ofString "Q,", Str.ofString "q,"].any fun x => x == S l
def inP (l : List Nat) : Bool := [Str.ofString "P", Str.ofString "p"].any fun x => x == S l
theorem head_same : wl (S (head6.take 4)) 4 = true ∧ inQ (head6.drop 4) = false ∧ wl (S (head6.take 5)) 5 = true ∧ (S (head6.drop 5) == Str.ofString ",") = true ∧ Txt.upper (S head6) = Str.ofString "GPTXT," := by decide +kernel
theorem head_good : ∀ p < 5, ∀ c ∈ goodC, (p = 4 → c ≠ 81) → wl (S ((head6.set p c).take 4)) 4 = true ∧ inQ ((head6.set p c).drop 4) = false ∧ wl (S ((head6.set p c).take 5)) 5 = true ∧ (S ((head6.set p c).drop 5) == Str.ofString ",") = true := by decide +kernel
theorem head_query : wl (S ((head6.set 4 81).take 4)) 4 = true ∧ inQ ((head6.set 4 81).drop 4) = true ∧ wl (S ((head6.set 4 81).take 5)) 5 = true ∧ (S ((head6.set 4 81).drop 5) == Str.ofString ",") = true := by decide +kernel
theorem head_bad : ∀ p < 4, ∀ c ∈ menuC, c ∉ goodC → wl (S ((head6.set p c).take 4)) 4 = false ∧ wl (S ((head6.set p c).take 5)) 5 = false := by decide +kernel
theorem head_bad4 : ∀ c ∈ menuC, c ∉ goodC → wl (S ((head6.set 4 c).take 4)) 4 = true ∧ inQ ((head6.set 4 c).drop 4) = false ∧ wl (S ((head6.set 4 c).take 5)) 5 = false := by decide +kernel
theorem head_five : ∀ c ∈ menuC, c ≠ 44 → wl (S ((head6.set 5 c).take 4)) 4 = true ∧ inQ ((head6.set 5 c).drop 4) = false ∧ wl (S ((head6.set 5 c).take 5)) 5 = true ∧ (S ((head6.set 5 c).drop 5) == Str.ofString ",") = false := by decide +kernel
theorem head_first : ∀ p < 6, ∀ c ∈ menuC, inP ((head6.set p c).take 1) = false := by decide +kernel
theorem dig_strip : ∀ i < 22, ∀ j < 22, Txt.stripChars (S [hexDigs.getD i 0, hexDigs.getD j 0]) digS = Str.ofString "" := by decide +kernel
theorem ws_none : Txt.strip (S []) = Str.ofString "" := by decide +kernel
theorem ws_line : Txt.strip (S [13, 10]) = Str.ofString "" := by decide +kernel
def lowD (i : Nat) : Nat := if i < 10 then i else i + 6
theorem dig_lower : ∀ i < 16, ∀ j < 16, Txt.lower (S [hexDigs.getD i 0, hexDigs.getD j 0]) = S [hexDigs.getD (lowD i) 0, hexDigs.getD (lowD j) 0] := by decide +kernel
theorem lowD_v : ∀ i < 16, hexV (lowD i) = i ∧ lowD i < 22 := by decide
theorem nfold_xor : ∀ (l : List Nat) (v : Nat), nfold l v = v ^^^ nfold l 0
  | [], v => by simp [nfold]
  | a :: l, v => by
    show nfold l (v ^^^ a) = v ^^^ nfold l (0 ^^^ a)
    rw [nfold_xor l (v ^^^ a), nfold_xor l (0 ^^^ a), Nat.zero_xor, Nat.xor_assoc]
theorem nfold_app (a b : List Nat) : nfold (a ++ b) 0 = nfold a 0 ^^^ nfold b 0 := by
  show (a ++ b).foldl _ 0 = _
  rw [List.foldl_append]
  exact nfold_xor b _
theorem nfold_lt : ∀ (l : List Nat) (v : Nat), v < 128 → (∀ c ∈ l, c < 128) → nfold l v < 128
  | [], _, hv, _ => hv
  | a :: l, v, hv, h => nfold_lt l (v ^^^ a) (xor_lt128 hv (h a (.head _))) fun c hc => h c (.tail _ hc)
theorem xor_swap (a b c d : Nat) : a ^^^ (b ^^^ c) = a ^^^ (d ^^^ c) ↔ b = d := by
  have h1 : ∀ x y : Nat, x ^^^ (x ^^^ y) = y := fun x y => by rw [← Nat.xor_assoc, Nat.xor_self, Nat.zero_xor]
  constructor
  · intro h
    have h2 := congrArg (fun z => (a ^^^ z) ^^^ c) h
    simpa only [h1, Nat.xor_assoc, Nat.xor_self, Nat.xor_zero] using h2
  · rintro rfl
    rfl
theorem nfold_set (l : List Nat) (p c : Nat) (hp : p < l.length) : (nfold (l.set p c) 0 = nfold l 0) ↔ c = l.getD p 0 := by
  have e1 : l.set p c = l.take p ++ c :: l.drop (p + 1) := by rw [List.set_eq_take_append_cons_drop, if_pos hp]
  have e2 : l = l.take p ++ l[p] :: l.drop (p + 1) := by rw [List.getElem_cons_drop hp, List.take_append_drop]
  rw [e1]
  conv => lhs; rhs; rw [e2]
  rw [nfold_app, nfold_app]
  have h1 : ∀ (x : Nat) (r : List Nat), nfold (x :: r) 0 = x ^^^ nfold r 0 := fun x r => by
    show nfold r (0 ^^^ x) = _
    rw [nfold_xor, Nat.zero_xor]
  rw [h1, h1, xor_swap]
  simp [List.getD_eq_getElem?_getD, List.getElem?_eq_getElem hp]
theorem nfold_flip (l : List Nat) (p b : Nat) (hp : p < l.length) : nfold (l.set p (l.getD p 0 ^^^ b)) 0 = nfold l 0 ^^^ b := by
  have e1 : l.set p (l.getD p 0 ^^^ b) = l.take p ++ (l.getD p 0 ^^^ b) :: l.drop (p + 1) := by rw [List.set_eq_take_append_cons_drop, if_pos hp]
  have e2 : l = l.take p ++ l[p] :: l.drop (p + 1) := by rw [List.getElem_cons_drop hp, List.take_append_drop]
  have e3 : l.getD p 0 = l[p] := by simp [List.getD_eq_getElem?_getD, List.getElem?_eq_getElem hp]
  rw [e1, e3]
  conv => rhs; rw [e2]
  have h1 : ∀ (x : Nat) (r : List Nat), nfold (x :: r) 0 = x ^^^ nfold r 0 := fun x r => by
    show nfold r (0 ^^^ x) = _
    rw [nfold_xor, Nat.zero_xor]
  rw [nfold_app, nfold_app, h1, h1, Nat.xor_assoc l[p] b, Nat.xor_comm b, Nat.xor_assoc, Nat.xor_assoc]
def flipL (l : List Nat) (p b : Nat) : List Nat := l.set p (l.getD p 0 ^^^ b)
theorem flip_len (l : List Nat) (p b : Nat) : (flipL l p b).length = l.length := by simp [flipL]
theorem flip_sum (l : List Nat) (p q b : Nat) (hp : p < l.length) (hq : q < l.length) : nfold (flipL (flipL l p b) q b) 0 = nfold l 0 := by
  rw [show flipL (flipL l p b) q b = (flipL l p b).set q ((flipL l p b).getD q 0 ^^^ b) from rfl, nfold_flip _ _ _ (by rw [flip_len]; exact hq), show nfold (flipL l p b) 0 = nfold l 0 ^^^ b from nfold_flip l p b hp, Nat.xor_assoc, Nat.xor_self, Nat.xor_zero]
theorem menu_flip : ∀ c ∈ menuC, ∀ b < 4, c ^^^ b < 128 ∧ c ^^^ b ≠ 42 := by decide +kernel
theorem menu_ok : ∀ c ∈ menuC, c < 128 ∧ c ≠ 42 := by decide
theorem flip_ok (l : List Nat) (p q b : Nat) (hb : b < 4) (hp : p < l.length) (hq : q < l.length) (h : ∀ c ∈ l, c ∈ menuC) : ∀ c ∈ flipL (flipL l p b) q b, c < 128 ∧ c ≠ 42 := by
  have hg : ∀ i, i < l.length → l.getD i 0 ∈ menuC := fun i hi => by
    rw [List.getD_eq_getElem?_getD, List.getElem?_eq_getElem hi]
    exact h _ (List.getElem_mem hi)
  intro c hc
  rcases List.mem_or_eq_of_mem_set hc with h1 | h1
  · rcases List.mem_or_eq_of_mem_set h1 with h2 | h2
    · exact menu_ok c (h c h2)
    · rw [h2]; exact menu_flip _ (hg p hp) b hb
  · rw [h1]
    by_cases e : p = q
    · subst e
      have : (flipL l p b).getD p 0 = l.getD p 0 ^^^ b := by simp [flipL, List.getD_eq_getElem?_getD, hp]
      rw [this, Nat.xor_assoc, Nat.xor_self, Nat.xor_zero]
      exact menu_ok _ (hg p hp)
    · have : (flipL l p b).getD q 0 = l.getD q 0 := by simp [flipL, List.getD_eq_getElem?_getD, e]
      rw [this]
      exact menu_flip _ (hg q hq) b hb
end Mine
end
section
open PySem PySem.W PyProof.Rows PySem.Calls PySem.Spec
namespace Mine
def menu : List Str := [Str.ofString "0", Str.ofString "7", Str.ofString "A", Str.ofString "z", Str.ofString ",", Str.ofString ",", Str.ofString "-", Str.ofString ".", Str.ofString "/", Str.ofString "$", Str.ofString " ", Str.ofString "Q", Str.ofString "_"]
def sgn (k : Int) : Str := menu.getD (k.fmod 13).toNat Str.empty
def cod (k : Int) : Nat := menuC.getD (k.fmod 13).toNat 0
def tx (ns : List Int) : List Nat := (evens ns).map cod
theorem menu_all : ∀ i < 13, menu.getD i Str.empty = S [menuC.getD i 0] ∧ menuC.getD i 0 ∈ menuC := by decide +kernel
theorem sgn_eq (k : Int) : sgn k = S [cod k] ∧ cod k ∈ menuC := menu_all _ (by
  have h1 := Int.fmod_lt_of_pos k (show (0 : Int) < 13 by decide)
  have h2 := Int.fmod_nonneg_of_pos k (show (0 : Int) < 13 by decide)
  omega)
theorem le63 {n : Nat} (h : ¬ ((63 : Nat) : Int) < (n : Int)) : n ≤ 63 := by omega
theorem evens_len (ns : List Int) : (evens ns).length ≤ 20 := by
  unfold evens
  rw [List.length_map, List.length_range]
  omega
theorem tx_len (ns : List Int) : (S (tx ns)).length ≤ 20 := by
  rw [S_len, tx, List.length_map]
  exact evens_len ns
theorem tx_menu (ns : List Int) : ∀ c ∈ tx ns, c ∈ menuC := by
  intro c hc
  obtain ⟨k, _, rfl⟩ := List.mem_map.mp hc
  exact (sgn_eq k).2
theorem join_ones : ∀ l : List Nat, Str.join (S []) (l.map fun c => S [c]) = S l
  | [] => rfl
  | [c] => rfl
  | c :: d :: l => by
    show S [c] ++ S [] ++ Str.join (S []) ((d :: l).map fun c => S [c]) = _
    rw [join_ones (d :: l), S_app, S_app]
    rfl
theorem txtjoin_ones (l : List Nat) : Txt.join (S []) (l.map fun c => S [c]) = S l := (StrLaws.glued_eq_join _ _).trans (join_ones l)
theorem join_tx (ns : List Int) : Txt.join (Str.ofString "") ((evens ns).map sgn) = S (tx ns) := by
  rw [show (evens ns).map sgn = (tx ns).map fun c => S [c] from by
    rw [tx, List.map_map]
    exact List.map_congr_left fun k _ => (sgn_eq k).1]
  exact txtjoin_ones _
theorem ones_sum : ∀ l : List Nat, ((l.map fun c => S [c]).map (·.length)).sum = l.length
  | [] => rfl
  | c :: l => by
    rw [List.map_cons, List.map_cons, List.sum_cons, ones_sum l, S_len, List.length_singleton, List.length_cons, Nat.add_comm]
theorem sgn_sum (ns : List Int) : (((evens ns).map sgn).map (·.length)).sum + ((evens ns).map sgn).length ≤ 1048576 := by
  have e : (evens ns).map sgn = (tx ns).map fun c => S [c] := by
    rw [tx, List.map_map]
    exact List.map_congr_left fun k _ => (sgn_eq k).1
  have h := tx_len ns
  rw [S_len] at h
  rw [e, ones_sum, List.length_map]
  omega
theorem m_join {prog : Program} {w : World} {A : Around} {E : Value → Shared → Prop} {s : Shared} {Q : Value → Shared → Prop} {h₀ : Heap} {L D : Addr} {news : List (Addr × Obj)} {vs : List Value} {k : Nat} {x z : Str} {t : Tok} {ys : List Str} (N : News h₀ L s.heap news) (hm : (D, listOf vs.toArray k) ∈ news) (hi : StrsAre vs ys) (hsep : x.length ≤ 16) (hw : (ys.map (·.length)).sum + ys.length ≤ 1048576) (hz : Txt.join x ys = z)
    (h : ∀ t' k, Q (.str z t') { s with toks := k }) : wpAny (model prog w) A (call (.builtin "str.join") [.str x t, .ref D]) Q E s :=
  join_listW (PySem.IsL.isList (n := k) (N _ hm).1) hi hsep hw (hz ▸ h)
theorem src_fits {vs : List Value} {ns : List Int} (h : IntsAre vs (evens ns)) : vs.toArray.size ≤ sizeLine := by
  rw [List.size_toArray, h.length, sizeLine_eq]
  have := evens_len ns
  omega
theorem odds_lt {ns : List Int} {i : Nat} {n : Int} (h : (odds ns)[i]? = some n) : i < 10 := by
  obtain ⟨h1, _⟩ := List.getElem?_eq_some_iff.mp h
  unfold odds at h1
  rw [List.length_map, List.length_range] at h1
  have : ((1 : Int)).toNat = 1 := rfl
  omega
end Mine
end
section
open PySem PySem.W PyProof.Rows PySem.Calls PySem.Spec
namespace Mine
theorem fits_small {i : Int} (h0 : 0 ≤ i) (h1 : i < 1000) : (decide (i < -(2 ^ 63 : Int)) || decide (i ≥ 2 ^ 63)) = false := by
  rw [Bool.or_eq_false_iff, decide_eq_false_iff_not, decide_eq_false_iff_not]
  exact ⟨by omega, by omega⟩
theorem m_strItem {prog : Program} {w : World} {A : Around} {E : Value → Shared → Prop} {s : Shared} {Q : Value → Shared → Prop} {value slice : Expr} {x : Str} {t u : Tok} {i : Int} {c : Nat} (h0 : 0 ≤ i ∧ i < 1000) (hc : x.cps[i.toNat]? = some c) (h : ∀ t', Q (.str (S [c]) t') { s with toks := s.toks + 1 })
    (hs : subscripted slice false (.str x t) (.int i u) = operate [.str x t, .int i u] (getItem (.str x t) (.int i u))) (ht : ∀ r, letTemporaryGo value (.str x t) r = pure ()) : wpAny (model prog w) A (subscriptTail value slice (.str x t) (.int i u)) Q E s :=
  subscriptTail_builtin (typeIs_str s x t) slot_str_getitem.lookup (PyProof.Rows.getItem_str (fits_small h0.1 h0.2) (StrLaws.at_nonneg h0.1 hc) (h _)) hs ht
theorem gpt_app (l : List Nat) : Str.ofString "GPTXT," ++ S l = S (head6 ++ l) := by
  rw [show Str.ofString "GPTXT," = S head6 from by decide +kernel, S_app]
theorem menu_lt {l : List Nat} (h : ∀ c ∈ l, c ∈ menuC) : ∀ c ∈ l, c < 128 := fun c hc => (menu_ok c (h c hc)).1
theorem body_lt {l : List Nat} (h : ∀ c ∈ l, c < 128) : ∀ c ∈ head6 ++ l, c < 128 := fun c hc => by
  rcases List.mem_append.mp hc with h1 | h1
  · exact (show ∀ c ∈ head6, c < 128 from by decide) c h1
  · exact h c h1
theorem all_lt {l : List Nat} (h : ∀ c ∈ l, c < 128) : (S l).cps.all (· < 128) = true := by
  simpa [S] using h
theorem cks_lt {l : List Nat} (h : ∀ c ∈ l, c < 128) : cks (S l) < 128 := nfold_lt l 0 (by decide) h
theorem dig_at : ∀ i < 22, (Str.ofString "0123456789ABCDEFabcdef").cps[i]? = some (hexDigs.getD i 0) := by decide +kernel
theorem hi_pos {T : Nat} (h : T < 256) : 0 ≤ (T : Int).fdiv 16 ∧ (T : Int).fdiv 16 < 1000 ∧ ((T : Int).fdiv 16).toNat = T / 16 := by
  have h1 : (T : Int).fdiv 16 = ((T / 16 : Nat) : Int) := by
    rw [Int.fdiv_eq_ediv_of_nonneg _ (by decide)]
    omega
  rw [h1]
  omega
theorem lo_pos {T : Nat} : 0 ≤ (T : Int).fmod 16 ∧ (T : Int).fmod 16 < 1000 ∧ ((T : Int).fmod 16).toNat = T % 16 := by
  have h1 : (T : Int).fmod 16 = ((T % 16 : Nat) : Int) := by
    rw [Int.fmod_eq_emod_of_nonneg _ (by decide)]
    omega
  rw [h1]
  omega
theorem dig_hi {T : Nat} (h : T < 128) : (Str.ofString "0123456789ABCDEFabcdef").cps[((T : Int).fdiv 16).toNat]? = some (hexDigs.getD (T / 16) 0) := by
  rw [(hi_pos (T := T) (by omega)).2.2]
  exact dig_at _ (by omega)
theorem dig_lo {T : Nat} : (Str.ofString "0123456789ABCDEFabcdef").cps[((T : Int).fmod 16).toNat]? = some (hexDigs.getD (T % 16) 0) := by
  rw [(lo_pos (T := T)).2.2]
  exact dig_at _ (by omega)
theorem one_len (c : Nat) : (S [c]).length = 1 := rfl
theorem all_lt2 {a b : List Nat} (h1 : ∀ c ∈ a, c < 128) (h2 : ∀ c ∈ b, c < 128) : (S a ++ S b).cps.all (· < 128) = true := by
  rw [S_app]
  exact all_lt fun c hc => (List.mem_append.mp hc).elim (h1 c) (h2 c)
theorem all_gpt : (Str.ofString "GPTXT,").cps.all (· < 128) = true := by decide +kernel
theorem all_nil : (Str.ofString "").cps.all (· < 128) = true := by decide +kernel
theorem cks_gpt : cks (Str.ofString "GPTXT,") = 99 := by decide +kernel
theorem cks_nil : cks (Str.ofString "") = 0 := by decide +kernel
theorem cks_both (X : List Nat) : cks (S X ++ S (head6 ++ X)) = 99 := by
  rw [S_app]
  show nfold (X ++ (head6 ++ X)) 0 = 99
  rw [nfold_app, nfold_app, Nat.xor_comm, Nat.xor_assoc, Nat.xor_self, Nat.xor_zero]
  decide +kernel
theorem great_eq {T : Nat} (h : T < 128) : Txt.item (Str.ofString "0123456789ABCDEFabcdef") ((T : Int).fdiv 16) ++ Txt.item (Str.ofString "0123456789ABCDEFabcdef") ((T : Int).fmod 16) = S [hexDigs.getD (T / 16) 0, hexDigs.getD (T % 16) 0] := by
  have h1 := hi_pos (T := T) (by omega)
  have h2 := lo_pos (T := T)
  have e1 : Txt.item (Str.ofString "0123456789ABCDEFabcdef") ((T : Int).fdiv 16) = S [hexDigs.getD (T / 16) 0] := by
    show (⟨#[((seqIndex? _ _).bind _).getD 0]⟩ : Str) = _
    rw [StrLaws.at_nonneg h1.1 (dig_hi h)]
    rfl
  have e2 : Txt.item (Str.ofString "0123456789ABCDEFabcdef") ((T : Int).fmod 16) = S [hexDigs.getD (T % 16) 0] := by
    show (⟨#[((seqIndex? _ _).bind _).getD 0]⟩ : Str) = _
    rw [StrLaws.at_nonneg h2.1 dig_lo]
    rfl
  rw [e1, e2, S_app]
  rfl
theorem news_rot {h₀ h : Heap} {L : Addr} {a b c : Addr × Obj} {r : List (Addr × Obj)} (N : News h₀ L h (a :: b :: c :: r)) : News h₀ L h (c :: b :: a :: r) := fun p hp => N p (by
  rcases List.mem_cons.mp hp with rfl | hp
  · exact .tail _ (.tail _ (.head _))
  · rcases List.mem_cons.mp hp with rfl | hp
    · exact .tail _ (.head _)
    · rcases List.mem_cons.mp hp with rfl | hp
      · exact .head _
      · exact .tail _ (.tail _ (.tail _ hp)))
theorem fresh4 {R : List (Addr × Obj)} {k lt ld D : Addr} {o1 o2 : Obj} (b : k < lt ∧ AllLt lt R) (c : lt < ld ∧ k < ld ∧ AllLt ld R) (d : ld < D ∧ lt < D ∧ k < D ∧ AllLt D R) :
    ∀ p ∈ (D, o1) :: (k, o2) :: R, @Ne Nat p.1 lt ∧ @Ne Nat p.1 ld := by
  intro p hp
  rcases List.mem_cons.mp hp with rfl | hp
  · exact ⟨Nat.ne_of_gt d.2.1, Nat.ne_of_gt d.1⟩
  · rcases List.mem_cons.mp hp with rfl | hp
    · exact ⟨Nat.ne_of_lt b.1, Nat.ne_of_lt c.2.1⟩
    · exact ⟨Nat.ne_of_lt (allLt_all b.2 p hp), Nat.ne_of_lt (allLt_all c.2.2 p hp)⟩
theorem int_is {X : List (Addr × Obj)} {i j : Int} {t : Tok} (e : i = j) : DatIn X (.int i t) (.int j) := e ▸ .int i t
end Mine
end
section
open PySem PySem.W PyProof.Rows PySem.Calls PySem.Spec
namespace Mine
def overlay (names : List Str) (m₁ m₀ : Str → Option Value) (z : Str) : Option Value :=
  match names with
  | [] => m₀ z
  | n :: r => if z = n then m₁ n else overlay r m₁ m₀ z
theorem over_at {m₁ m₀ : Str → Option Value} (z : Str) : ∀ names : List Str, (z ∉ names → m₁ z = m₀ z) → overlay names m₁ m₀ z = m₁ z
  | [], h => (h (fun h' => nomatch h')).symm
  | n :: r, h => by
    show (if z = n then m₁ n else overlay r m₁ m₀ z) = _
    by_cases e : z = n
    · rw [if_pos e, e]
    · rw [if_neg e]
      exact over_at z r fun h' => h fun h'' => by
        rcases List.mem_cons.mp h'' with q | q
        · exact e q
        · exact h' q
theorem over_fr {h₀ h : Heap} {L : Addr} {m₁ m₀ : Str → Option Value} (names : List Str) (hm : ∀ z, z ∉ names → m₁ z = m₀ z) (F : Fr h₀ L h m₁) : Fr h₀ L h (overlay names m₁ m₀) := by
  rw [show overlay names m₁ m₀ = m₁ from funext fun z => over_at z names (hm z)]
  exact F
theorem over_frx {h₀ h : Heap} {L : Addr} {x : Str} {v : Value} {m₁ m₀ : Str → Option Value} (names : List Str) (hm : ∀ z, z ∉ names → m₁ z = m₀ z) (F : Fr h₀ L h (fun y => if y = x then some v else m₁ y)) : Fr h₀ L h (fun y => if y = x then some v else overlay names m₁ m₀ y) := by
  rw [show overlay names m₁ m₀ = m₁ from funext fun z => over_at z names (hm z)]
  exact F
section
variable {prog : Program} {w : World} {A : Around} {E : Value → Shared → Prop} {s : Shared} {env : Env} {h₀ : Heap} {x : Str} {body : List Stmt} {Q : Flow → Shared → Prop}
theorem loopM {I l : Addr} {ol : Obj} {n : Nat} {P : Nat → Value → Prop} {St : Nat → Heap → Prop} {m₀ : Str → Option Value} {news : List (Addr × Obj)} (J : Nat → (Str → Option Value) → List (Addr × Obj) → Prop)
    (W : Walks prog w A I [I, l] [I] n P St) (hI₀ : h₀.get? I = none) (hIo : ∀ i h, St i h → ∃ o, h.get? I = some o) (hLI : env.locals ≠ I) (hLl : env.locals ≠ l) (hnw : ∀ p ∈ news, p.1 ≠ I) (hst : St 0 s.heap) (F : Fr h₀ env.locals s.heap m₀) (N : News h₀ env.locals s.heap news)
    (hl : ∀ i m nx, J i m nx → (l, ol) ∈ nx) (hj : J 0 m₀ news)
    (turn : ∀ i v m₁ nx h tk own, i < n → P i v → J i m₁ nx → (∀ p ∈ nx, p.1 ≠ I) → (∀ p ∈ own, p.1 = I) → (∃ o, (I, o) ∈ own) → Fr h₀ env.locals h (fun y => if y = x then some v else m₁ y) → News h₀ env.locals h (own ++ nx) →
      wpAny (model prog w) A (execs body env) (LPost h₀ env.locals I own (J (i + 1)) { s with heap := h, toks := tk } Q) E { s with heap := h, toks := tk })
    (done : ∀ m₁ nx h tk, J n m₁ nx → Fr h₀ env.locals h m₁ → News h₀ env.locals h nx → Q .next { s with heap := h, toks := tk }) :
    LoopAtV prog w A h₀ env x body Q E (.ref I) s := by
  refine ⟨I, [I, l], [I], n, P, St, m₀, news, J, rfl, W, ?_, ?_, ?_, hst, F, N, hj, ?_, ?_⟩
  · intro hm
    rcases List.mem_cons.mp hm with e | hm
    · exact hLI e
    · exact hLl (List.mem_singleton.mp hm)
  · intro b hb
    rw [List.mem_singleton.mp hb]
    exact hI₀
  · intro p hp hI
    exact hnw p hp (List.mem_singleton.mp hI)
  · rintro i v m₁ nx s₁ own ⟨hh', tk', rfl⟩ hin hP hJ hoff hown hget hfp hst' F₁ N₁
    have hIown : ∃ o, (I, o) ∈ own.filter fun p => decide (p.1 = I) := by
      obtain ⟨o, ho⟩ := hIo _ _ hst'
      exact ⟨o, List.mem_filter.mpr ⟨hfp I (.head _) hI₀ o ho, by simp⟩⟩
    have hno : ∀ p ∈ nx, p.1 ≠ I := fun p hp e => hoff p hp (List.mem_singleton.mpr e)
    have N₂ : News h₀ env.locals hh' ((own.filter fun p => decide (p.1 = I)) ++ nx) := fun p hp => N₁ p ((List.mem_append.mp hp).elim (fun h => List.mem_append.mpr (.inl (List.mem_filter.mp h).1)) fun h => List.mem_append.mpr (.inr h))
    have hlo : hh'.get? l = some ol := (N₁ _ (List.mem_append.mpr (.inr (hl _ _ _ hJ)))).1
    refine wpAny_mono (turn i v m₁ nx hh' tk' (own.filter fun p => decide (p.1 = I)) hin hP hJ hno (fun p hp => by simpa using (List.mem_filter.mp hp).2) hIown F₁ N₂) (fun f s₂ p => ?_) fun _ _ e => e
    have fin : LEnd h₀ env.locals I (own.filter fun p => decide (p.1 = I)) (J (i + 1)) { s with heap := hh', toks := tk' } s₂ → LoopStepU h₀ env.locals [I] own (J (i + 1)) { s with heap := hh', toks := tk' } .next s₂ := by
      rintro ⟨h', tk, m', nx', e, F', N', hn, hm⟩
      refine ⟨rfl, h', tk, m', nx', e, F', fun p hp => ?_, fun p hp hq => hn p hp (List.mem_singleton.mp hq), hm⟩
      rcases List.mem_append.mp hp with h | h
      · have h2 : hh'.get? p.1 = some p.2 := hget p h
        rcases List.mem_cons.mp (hown p h) with h1 | h1
        · exact N' _ (List.mem_append.mpr (.inl (List.mem_filter.mpr ⟨h, by simpa using h1⟩)))
        · have h1 := List.mem_singleton.mp h1
          have h3 : p = (l, ol) := Prod.ext h1 (by rw [h1] at h2; exact Option.some.inj (h2.symm.trans hlo))
          rw [h3]
          exact N' _ (List.mem_append.mpr (.inr (hl _ _ _ hm)))
      · exact N' p (List.mem_append.mpr (.inr h))
    cases f with
    | ret v => exact .ret p
    | brk => exact .brk p
    | next => exact .next (fin p)
    | cont => exact .cont (fin p)
  · rintro h' tk m' news' F' N' _ hJ
    exact done m' news' h' tk hJ F' N'
theorem list_loopM {l : Addr} {vs : List Value} {k : Nat} {m₀ : Str → Option Value} {news : List (Addr × Obj)} (J : Nat → (Str → Option Value) → List (Addr × Obj) → Prop)
    (hh : A.handled = none) (F : Fr h₀ env.locals s.heap m₀) (N : News h₀ env.locals s.heap news) (hl : ∀ i m nx, J i m nx → (l, listOf vs.toArray k) ∈ nx) (hj : J 0 m₀ news)
    (turn : ∀ i v m₁ nx h tk I own, vs[i]? = some v → J i m₁ nx → (∀ p ∈ nx, p.1 ≠ I) → (∀ p ∈ own, p.1 = I) → (∃ o, (I, o) ∈ own) → Fr h₀ env.locals h (fun y => if y = x then some v else m₁ y) → News h₀ env.locals h (own ++ nx) →
      wpAny (model prog w) A (execs body env) (LPost h₀ env.locals I own (J (i + 1)) { s with heap := h, toks := tk } Q) E { s with heap := h, toks := tk })
    (done : ∀ m₁ nx h tk, J vs.length m₁ nx → Fr h₀ env.locals h m₁ → News h₀ env.locals h nx → Q .next { s with heap := h, toks := tk }) :
    wpAny (model prog w) A (pyIter (.ref l)) (fun it s₂ => LoopAtV prog w A h₀ env x body Q E it s₂) E s := by
  have hl₀ := hl _ _ _ hj
  have hol : s.heap.get? l = some (listOf vs.toArray k) := (N _ hl₀).1
  have hls : s.heap.IsList l vs.toArray := ⟨_, hol, rfl, k, rfl⟩
  have hne : l ≠ s.heap.objs.size := Nat.ne_of_lt (Heap.lt_size hol)
  refine wpAny_pyIter_list hls ?_
  have W := Walks.list (prog := prog) (w := w) hh s.heap.objs.size l hne vs.toArray
  refine loopM J W (next_is_new F) (fun i h st => by obtain ⟨it, hit, _⟩ := st.1; exact ⟨it, hit⟩) (Nat.ne_of_lt F.ns.lt) (fun e => (N _ hl₀).2.1 e.symm) (fun p hp => Nat.ne_of_lt (Heap.lt_size (N p hp).1)) ⟨⟨_, Heap.get?_push_size _ rfl, rfl, rfl⟩, hls.at fun o e => Heap.get?_push_of_some _ e⟩ (F.push _) (fun p hp => ⟨Heap.get?_push_of_some _ (N p hp).1, (N p hp).2⟩) hl hj ?_ ?_
  · intro i v m₁ nx h tk own hi hP hJ hno hown hio F₁ N₁
    exact turn i v m₁ nx h tk _ own (by simpa using hP) hJ hno hown hio F₁ N₁
  · intro m₁ nx h tk hJ F₁ N₁
    exact done m₁ nx h tk (by simpa using hJ) F₁ N₁
theorem tup_loop {l : Addr} {ol : Obj} {vs : List Value} {k : Nat} {m₀ : Str → Option Value} {news : List (Addr × Obj)} (J : Nat → (Str → Option Value) → List (Addr × Obj) → Prop)
    (hc : ol.cls = .type "tuple") (hd : ol.data = .seq vs.toArray k)
    (hh : A.handled = none) (F : Fr h₀ env.locals s.heap m₀) (N : News h₀ env.locals s.heap news) (hl : ∀ i m nx, J i m nx → (l, ol) ∈ nx) (hj : J 0 m₀ news)
    (turn : ∀ i v m₁ nx h tk I own, vs[i]? = some v → J i m₁ nx → (∀ p ∈ nx, p.1 ≠ I) → (∀ p ∈ own, p.1 = I) → (∃ o, (I, o) ∈ own) → Fr h₀ env.locals h (fun y => if y = x then some v else m₁ y) → News h₀ env.locals h (own ++ nx) →
      wpAny (model prog w) A (execs body env) (LPost h₀ env.locals I own (J (i + 1)) { s with heap := h, toks := tk } Q) E { s with heap := h, toks := tk })
    (done : ∀ m₁ nx h tk, J vs.length m₁ nx → Fr h₀ env.locals h m₁ → News h₀ env.locals h nx → Q .next { s with heap := h, toks := tk }) :
    wpAny (model prog w) A (pyIter (.ref l)) (fun it s₂ => LoopAtV prog w A h₀ env x body Q E it s₂) E s := by
  have hl₀ := hl _ _ _ hj
  have hol : s.heap.get? l = some ol := (N _ hl₀).1
  have hls : s.heap.IsTuple l vs.toArray := ⟨_, hol, hc, k, hd⟩
  have hne : l ≠ s.heap.objs.size := Nat.ne_of_lt (Heap.lt_size hol)
  refine wpAny_pyIter_tuple hls ?_
  have W := Walks.tuple (prog := prog) (w := w) hh s.heap.objs.size l hne vs.toArray
  refine loopM J W (next_is_new F) (fun i h st => by obtain ⟨it, hit, _⟩ := st.1; exact ⟨it, hit⟩) (Nat.ne_of_lt F.ns.lt) (fun e => (N _ hl₀).2.1 e.symm) (fun p hp => Nat.ne_of_lt (Heap.lt_size (N p hp).1)) ⟨⟨_, Heap.get?_push_size _ rfl, rfl, rfl⟩, hls.at fun o e => Heap.get?_push_of_some _ e⟩ (F.push _) (fun p hp => ⟨Heap.get?_push_of_some _ (N p hp).1, (N p hp).2⟩) hl hj ?_ ?_
  · intro i v m₁ nx h tk own hi hP hJ hno hown hio F₁ N₁
    exact turn i v m₁ nx h tk _ own (by simpa using hP) hJ hno hown hio F₁ N₁
  · intro m₁ nx h tk hJ F₁ N₁
    exact done m₁ nx h tk (by simpa using hJ) F₁ N₁
end
/-- the two lists hold the same data -/
def SameJ (lt ld : Addr) (X₀ : List (Addr × Obj)) (names : List Str) (m₀ : Str → Option Value) (n : Nat) (ok : Dat → Bool) (i : Nat) (m : Str → Option Value) (nx : List (Addr × Obj)) : Prop :=
  ∃ ts ds kt kd dd X, nx = (lt, listOf ts.toArray kt) :: (ld, listOf ds.toArray kd) :: X ∧ (∀ p ∈ X₀, p ∈ X) ∧ DatAll X ts dd ∧ DatAll X ds dd ∧ (∀ p ∈ X, @Ne Nat p.1 lt ∧ @Ne Nat p.1 ld) ∧ dd.length = n + i ∧ (∀ d ∈ dd, ok d = true) ∧ ∀ z, z ∉ names → m z = m₀ z
def TEnd (h₀ : Heap) (L I lt ld : Addr) (names : List Str) (m₀ : Str → Option Value) (ok : Dat → Bool) (ts ds : List Value) (X own : List (Addr × Obj)) (s₁ s₂ : Shared) : Prop :=
  ∃ h' tk m' v v' d tl kt kd, s₂ = { s₁ with heap := h', toks := tk } ∧ Fr h₀ L h' m' ∧ News h₀ L h' ((lt, listOf (ts ++ [v]).toArray kt) :: (ld, listOf (ds ++ [v']).toArray kd) :: (tl ++ (X ++ own))) ∧ (∀ z, z ∉ names → m' z = m₀ z) ∧
    (∀ p ∈ tl, @Ne Nat p.1 lt ∧ @Ne Nat p.1 ld ∧ @Ne Nat p.1 I) ∧ DatIn (tl ++ X) v d ∧ DatIn (tl ++ X) v' d ∧ ok d = true
def TPost (h₀ : Heap) (L I lt ld : Addr) (names : List Str) (m₀ : Str → Option Value) (ok : Dat → Bool) (ts ds : List Value) (X own : List (Addr × Obj)) (s₁ : Shared) (f : Flow) (s₂ : Shared) : Prop :=
  match f with
  | .next => TEnd h₀ L I lt ld names m₀ ok ts ds X own s₁ s₂
  | .cont => TEnd h₀ L I lt ld names m₀ ok ts ds X own s₁ s₂
  | _ => False
theorem tend_next {h₀ h' : Heap} {L I lt ld : Addr} {names : List Str} {m₀ m' : Str → Option Value} {ok : Dat → Bool} {ts ds : List Value} {X own tl : List (Addr × Obj)} {s₁ : Shared} {tk : Nat} {v v' : Value} {d : Dat} {kt kd : Nat}
    (F : Fr h₀ L h' m') (N : News h₀ L h' ((lt, listOf (ts ++ [v]).toArray kt) :: (ld, listOf (ds ++ [v']).toArray kd) :: (tl ++ (X ++ own)))) (hm : ∀ z, z ∉ names → m' z = m₀ z) (ht : ∀ p ∈ tl, @Ne Nat p.1 lt ∧ @Ne Nat p.1 ld ∧ @Ne Nat p.1 I) (h1 : DatIn (tl ++ X) v d) (h2 : DatIn (tl ++ X) v' d) (ho : ok d = true) :
    TPost h₀ L I lt ld names m₀ ok ts ds X own s₁ .next { s₁ with heap := h', toks := tk } := ⟨h', tk, m', v, v', d, tl, kt, kd, rfl, F, N, hm, ht, h1, h2, ho⟩
theorem same_turn {h₀ : Heap} {L I lt ld : Addr} {names : List Str} {m₀ : Str → Option Value} {ok : Dat → Bool} {ts ds : List Value} {kt kd : Nat} {X₀ X own : List (Addr × Obj)} {s₁ : Shared} {Q : Flow → Shared → Prop} {dd : List Dat} {n i : Nat}
    (hX : ∀ p ∈ X₀, p ∈ X) (ht : DatAll X ts dd) (hd : DatAll X ds dd) (hf : ∀ p ∈ X, @Ne Nat p.1 lt ∧ @Ne Nat p.1 ld) (hn : dd.length = n + i) (hok : ∀ d ∈ dd, ok d = true)
    (hno : ∀ p ∈ (lt, listOf ts.toArray kt) :: (ld, listOf ds.toArray kd) :: X, p.1 ≠ I) (f : Flow) (s₂ : Shared) (h : TPost h₀ L I lt ld names m₀ ok ts ds X own s₁ f s₂) : LPost h₀ L I own (SameJ lt ld X₀ names m₀ n ok (i + 1)) s₁ Q f s₂ := by
  have fin : TEnd h₀ L I lt ld names m₀ ok ts ds X own s₁ s₂ → LEnd h₀ L I own (SameJ lt ld X₀ names m₀ n ok (i + 1)) s₁ s₂ := by
    rintro ⟨h', tk, m', v, v', d, tl, kt', kd', e, F, N, hm, htl, h1, h2, ho⟩
    refine ⟨h', tk, m', (lt, listOf (ts ++ [v]).toArray kt') :: (ld, listOf (ds ++ [v']).toArray kd') :: (tl ++ X), e, F, fun p hp => N p ?_, fun p hp => ?_, ts ++ [v], ds ++ [v'], kt', kd', dd ++ [d], tl ++ X, rfl, fun p hp => List.mem_append.mpr (.inr (hX p hp)), ?_, ?_, fun p hp => ?_, ?_, ?_, hm⟩
    · rcases List.mem_append.mp hp with hp | hp
      · exact .tail _ (.tail _ (List.mem_append.mpr (.inr (List.mem_append.mpr (.inr hp)))))
      · rcases List.mem_cons.mp hp with rfl | hp
        · exact .head _
        · rcases List.mem_cons.mp hp with rfl | hp
          · exact .tail _ (.head _)
          · rcases List.mem_append.mp hp with hp | hp
            · exact .tail _ (.tail _ (List.mem_append.mpr (.inl hp)))
            · exact .tail _ (.tail _ (List.mem_append.mpr (.inr (List.mem_append.mpr (.inl hp)))))
    · rcases List.mem_cons.mp hp with rfl | hp
      · exact hno (lt, W.listOf ts.toArray kt) (.head _)
      · rcases List.mem_cons.mp hp with rfl | hp
        · exact hno (ld, W.listOf ds.toArray kd) (.tail _ (.head _))
        · rcases List.mem_append.mp hp with hp | hp
          · exact (htl p hp).2.2
          · exact hno _ (.tail _ (.tail _ hp))
    · exact (ht.mono fun p hp => List.mem_append.mpr (.inr hp)).append (.one h1)
    · exact (hd.mono fun p hp => List.mem_append.mpr (.inr hp)).append (.one h2)
    · rcases List.mem_append.mp hp with hp | hp
      · exact ⟨(htl p hp).1, (htl p hp).2.1⟩
      · exact hf p hp
    · rw [List.length_append, hn]; rfl
    · intro e he
      rcases List.mem_append.mp he with he | he
      · exact hok e he
      · rw [List.mem_singleton.mp he]; exact ho
  cases f with
  | next => exact fin h
  | cont => exact fin h
  | brk => exact h.elim
  | ret v => exact h.elim
-- the last comparison
def okD : Nat → Dat → Bool
  | _, .none => true
  | _, .bool _ => true
  | _, .int _ => true
  | _, .str x => PyData.strOk x
  | n + 1, .list ds => ds.all (okD n)
  | _, _ => false
theorem ok_reads {h₀ h : Heap} {L : Addr} {news : List (Addr × Obj)} (N : News h₀ L h news) : ∀ (n : Nat) (v : Value) (d : Dat), DatIn news v d → okD n d = true → (∃ as, Reads h v (kqdP d) as) ∧ (kqdP d).canLay0 = true ∧ (kqdP d).depth ≤ n := by
  have all : ∀ (n : Nat), (∀ (v : Value) (d : Dat), DatIn news v d → okD n d = true → (∃ as, Reads h v (kqdP d) as) ∧ (kqdP d).canLay0 = true ∧ (kqdP d).depth ≤ n) → ∀ (ds : List Dat) (vs : List Value), DatAll news vs ds → (∀ d ∈ ds, okD n d = true) →
      (∃ as, ReadsAll h vs (kqdPs ds) as) ∧ PyData.canLayAll0 (kqdPs ds) = true ∧ PyData.depthAll (kqdPs ds) ≤ n := by
    intro n ih ds
    induction ds with
    | nil => intro vs hv _; cases hv; exact ⟨⟨_, .nil⟩, rfl, Nat.zero_le _⟩
    | cons d ds hi =>
      intro vs hv hk
      cases hv with
      | cons h1 h2 =>
        obtain ⟨⟨as, r1⟩, c1, e1⟩ := ih _ _ h1 (hk _ (.head _))
        obtain ⟨⟨bs, r2⟩, c2, e2⟩ := hi _ h2 fun e he => hk e (.tail _ he)
        refine ⟨⟨_, .cons r1 r2⟩, ?_, ?_⟩
        · rw [kqdPs, PyData.canLayAll0, c1, c2]; rfl
        · rw [kqdPs, PyData.depthAll]; exact Nat.max_le.mpr ⟨e1, e2⟩
  have flat : ∀ (n : Nat) (v : Value) (d : Dat), DatIn news v d → (∀ ds, d ≠ .list ds) → okD n d = true → (∃ as, Reads h v (kqdP d) as) ∧ (kqdP d).canLay0 = true ∧ (kqdP d).depth ≤ n := by
    intro n v d hd hl hk
    cases hd with
    | none => exact ⟨⟨_, .none⟩, rfl, Nat.zero_le _⟩
    | bool b => exact ⟨⟨_, .bool b⟩, rfl, Nat.zero_le _⟩
    | int i t => exact ⟨⟨_, .int i t⟩, rfl, Nat.zero_le _⟩
    | str x t => exact ⟨⟨_, .str x t⟩, by cases n <;> exact hk, Nat.zero_le _⟩
    | bytes b t => cases n <;> exact absurd hk Bool.false_ne_true
    | tuple _ _ => cases n <;> exact absurd hk Bool.false_ne_true
    | list _ _ => exact absurd rfl (hl _)
  intro n
  induction n with
  | zero =>
    intro v d hd hk
    cases d with
    | list ds => exact absurd hk Bool.false_ne_true
    | _ => exact flat 0 _ _ hd (fun _ e => by cases e) hk
  | succ n ih =>
    intro v d hd hk
    cases d with
    | list ds =>
      cases hd with
      | list hm hr =>
        obtain ⟨⟨as, r⟩, c, e⟩ := all n ih _ _ hr (by simpa [okD] using hk)
        rw [kqdP]
        exact ⟨⟨_, reads_list_at (N _ hm).1 rfl rfl (by simpa [W.listOf] using r)⟩, by rw [PyData.canLay0]; exact c, by rw [PyData.depth]; omega⟩
    | _ => exact flat (n + 1) _ _ hd (fun _ e => by cases e) hk
theorem same_eq {prog : Program} {w : World} {A : Around} {E : Value → Shared → Prop} {s : Shared} {h₀ : Heap} {L a b : Addr} {news : List (Addr × Obj)} {d : Dat} {Q : Value → Shared → Prop} (n : Nat) (N : News h₀ L s.heap news) (h1 : DatIn news (.ref a) d) (h2 : DatIn news (.ref b) d) (hok : okD n d = true) (hn : n ≤ 64) (hu : A.units + 64 < cLine)
    (h : Q (.bool true) s) : wpAny (model prog w) A (compareOp .Eq (.ref a) (.ref b)) Q E s := by
  obtain ⟨⟨as, r1⟩, c, e⟩ := ok_reads N n _ _ h1 hok
  obtain ⟨⟨bs, r2⟩, _, _⟩ := ok_reads N n _ _ h2 hok
  have hs : SeqAt.shaped (kqdP d) = true := by
    unfold SeqAt.shaped
    rw [c, Bool.true_and]
    exact decide_eq_true (Nat.le_trans e hn)
  refine eq_dataH r1 r2 hs hs hu ?_
  rw [SeqAt.eqv_refl _ c]
  exact h
end Mine
end
section
open PySem PySem.W PyProof.Rows PySem.Calls PySem.Spec
namespace Mine
def dig (i : Nat) : Nat := hexDigs.getD i 0
def takenD (X : List Nat) : Dat := .list [.str (Str.ofString "taken"), .bool true, .list ((cutD X).map .str)]
def sumD : Dat := .list [.str (Str.ofString "sum")]
def noneD : Dat := .list [.str (Str.ofString "no sentence")]
theorem str_star : Str.ofString "*" = S [42] := by decide +kernel
theorem str_comma : Str.ofString "," = S [44] := by decide +kernel
theorem str_dollar : Str.ofString "$" = S [36] := by decide +kernel
theorem sp36 : Unicode.isSpace 36 = false := by decide +kernel
theorem sp71 : Unicode.isSpace 71 = false := by decide +kernel
theorem split_is (X : List Nat) : Txt.split (S X) (Str.ofString ",") = cutD X := by rw [str_comma, split_cut]; rfl
theorem dig_lt {i : Nat} (h : i < 22) : dig i < 128 ∧ dig i ≠ 42 := (show ∀ i < 22, dig i < 128 ∧ dig i ≠ 42 from by decide) i h
theorem all_lt0 {l : List Nat} (h : ∀ c ∈ l, c < 128) : (S l).cps.all (· < 128) = true := by
  simpa [S] using h
structure LineOk (line pre n tail a1 a4 a46 a69 a5 a56 cc ws text a6 : Str) : Prop where
  hlen : line.length ≤ 200
  hls : Txt.lstrip line = line
  hp1 : (Txt.partition line (Str.ofString "*")).1 = pre
  hp2 : (Txt.partition line (Str.ofString "*")).2.1 = Str.ofString "*"
  hp3 : (Txt.partition line (Str.ofString "*")).2.2 = tail
  lpre : pre.length ≤ 200
  lc : cc.length = 2
  lw : ws.length ≤ 100
  ltx : text.length ≤ 100
  ln : n.length ≤ 100
  lt : tail.length ≤ 100
  lt2 : 2 ≤ tail.length
  l4 : a4.length ≤ 100
  l5 : a5.length ≤ 100
  l69 : a69.length ≤ 100
  la : n.cps.all (· < 128) = true
  s3 : Txt.slice n none (some 1) = a1
  s4 : Txt.slice n none (some 4) = a4
  s5 : Txt.slice n (some 4) (some 6) = a46
  s6 : Txt.slice n (some 6) (some 9) = a69
  s7 : Txt.slice n none (some 5) = a5
  s8 : Txt.slice n (some 5) (some 6) = a56
  t2 : Txt.slice tail none (some 2) = cc
  t3 : Txt.stripChars cc (Str.ofString "0123456789ABCDEFabcdef") = Str.ofString ""
  t4 : Txt.slice tail (some 2) none = ws
  t5 : Txt.strip ws = Str.ofString ""
  u3 : Txt.slice n (some 6) none = text
  l6 : a6.length ≤ 100
  u1 : Txt.slice n none (some 6) = a6
  u9 : (Txt.slice n none (some 9)).length ≤ 100
  v9 : (Txt.slice n (some 9) none).length ≤ 100
theorem six_take (h X : List Nat) (h6 : h.length = 6) (k : Nat) (hk : k ≤ 6) : (h ++ X).take k = h.take k := List.take_append_of_le_length (by omega)
theorem lineOk (h X z : List Nat) (i j : Nat) (hz : z = [] ∨ z = [13, 10]) (hi : i < 22) (hj : j < 22) (h6 : h.length = 6) (hX : X.length ≤ 20) (hlt : ∀ c ∈ h ++ X, c < 128 ∧ c ≠ 42) (p : List Nat) (hp : p = [] ∨ p = [36]) (hls : Txt.lstrip (S (p ++ (h ++ X) ++ 42 :: dig i :: dig j :: z)) = S (p ++ (h ++ X) ++ 42 :: dig i :: dig j :: z)) :
    LineOk (S (p ++ (h ++ X) ++ 42 :: dig i :: dig j :: z)) (S (p ++ (h ++ X))) (S (h ++ X)) (S (dig i :: dig j :: z)) (S (h.take 1)) (S (h.take 4)) (S (h.drop 4)) (S (X.take 3)) (S (h.take 5)) (S (h.drop 5)) (S [dig i, dig j]) (S z) (S X) (S h) := by
  have hpl : p.length ≤ 1 := by rcases hp with rfl | rfl <;> simp
  have hzl : z.length ≤ 2 := by rcases hz with rfl | rfl <;> simp
  have hst : 42 ∉ p ++ (h ++ X) := by
    intro hm
    rcases List.mem_append.mp hm with hm | hm
    · rcases hp with rfl | rfl
      · exact nomatch hm
      · exact absurd (List.mem_singleton.mp hm) (by decide)
    · exact (hlt 42 hm).2 rfl
  have hpt := part_star (p ++ (h ++ X)) (dig i :: dig j :: z) 42 hst
  have hl : (h ++ X).length ≤ 26 := by rw [List.length_append]; omega
  have hd4 : (h.drop 4).length = 2 := by rw [List.length_drop]; omega
  have hd5 : (h.drop 5).length = 1 := by rw [List.length_drop]; omega
  refine ⟨?_, hls, by rw [str_star, hpt], by rw [str_star, hpt], by rw [str_star, hpt], ?_, rfl, ?_, ?_, ?_, ?_, ?_, ?_, ?_, ?_, ?_, ?_, ?_, ?_, ?_, ?_, ?_, ?_, ?_, ?_, ?_, ?_, ?_, ?_, ?_, ?_⟩
  · rw [S_len]; simp only [List.length_append, List.length_cons] at hl ⊢; omega
  · rw [S_len, List.length_append]; omega
  · rw [S_len]; omega
  · rw [S_len]; omega
  · rw [S_len]; omega
  · rw [S_len]; simp only [List.length_cons]; omega
  · rw [S_len]; simp only [List.length_cons]; omega
  · rw [S_len, List.length_take]; omega
  · rw [S_len, List.length_take]; omega
  · rw [S_len, List.length_take]; omega
  · exact all_lt0 fun c hc => (hlt c hc).1
  · exact (slice_to _ 1).trans (congrArg S (six_take h X h6 1 (by decide)))
  · exact (slice_to _ 4).trans (congrArg S (six_take h X h6 4 (by decide)))
  · exact (slice_mid _ (a := 4) (b := 6) (by decide)).trans (congrArg S (by rw [List.drop_append_of_le_length (by omega), List.take_append_of_le_length (by omega), List.take_of_length_le (by omega)]))
  · exact (slice_mid _ (a := 6) (b := 9) (by decide)).trans (congrArg S (by rw [List.drop_left' h6]))
  · exact (slice_to _ 5).trans (congrArg S (six_take h X h6 5 (by decide)))
  · exact (slice_mid _ (a := 5) (b := 6) (by decide)).trans (congrArg S (by rw [List.drop_append_of_le_length (by omega), List.take_append_of_le_length (by omega), List.take_of_length_le (by omega)]))
  · exact (slice_to _ 2).trans rfl
  · exact dig_strip i hi j hj
  · exact (slice_from _ 2).trans rfl
  · rcases hz with rfl | rfl
    · exact ws_none
    · exact ws_line
  · exact (slice_from _ 6).trans (congrArg S (by rw [List.drop_left' h6]))
  · rw [S_len]; omega
  · exact (slice_to _ 6).trans (congrArg S ((six_take h X h6 6 (by decide)).trans (List.take_of_length_le (by omega))))
  · rw [show ((9 : Int)) = ((9 : Nat) : Int) from rfl, slice_to, S_len, List.length_take]; omega
  · rw [show ((9 : Int)) = ((9 : Nat) : Int) from rfl, slice_from, S_len, List.length_drop]; omega
theorem line1 (h X : List Nat) (i j : Nat) (hi : i < 22) (hj : j < 22) (h6 : h.length = 6) (hX : X.length ≤ 20) (hlt : ∀ c ∈ h ++ X, c < 128 ∧ c ≠ 42) :
    LineOk (S (36 :: (h ++ X ++ [42, dig i, dig j]))) (S (36 :: (h ++ X))) (S (h ++ X)) (S [dig i, dig j]) (S (h.take 1)) (S (h.take 4)) (S (h.drop 4)) (S (X.take 3)) (S (h.take 5)) (S (h.drop 5)) (S [dig i, dig j]) (S []) (S X) (S h) :=
  lineOk h X [] i j (.inl rfl) hi hj h6 hX hlt [36] (.inr rfl) (lstrip_same 36 _ sp36)
theorem pre1 (l : List Nat) : Txt.slice (S (36 :: l)) none (some 1) = Str.ofString "$" ∧ Txt.slice (S (36 :: l)) (some 1) none = S l := ⟨(slice_to _ 1).trans str_dollar.symm, slice_from _ 1⟩
theorem cks8 {l : List Nat} (h : ∀ c ∈ l, c < 128 ∧ c ≠ 42) : cks (S l) < 256 := Nat.lt_trans (nfold_lt l 0 (by decide) fun c hc => (h c hc).1) (by decide)
theorem hex_lt {i j : Nat} (hi : i < 22) (hj : j < 22) : 16 * hexV i + hexV j < 256 := by
  have h : ∀ i < 22, hexV i < 16 := by decide
  have h1 := h i hi
  have h2 := h j hj
  omega
theorem six_ok {X : List Nat} (hX : ∀ c ∈ X, c < 128 ∧ c ≠ 42) : ∀ c ∈ head6 ++ X, c < 128 ∧ c ≠ 42 := fun c hc => (List.mem_append.mp hc).elim ((show ∀ c ∈ head6, c < 128 ∧ c ≠ 42 from by decide) c) (hX c)
section
variable (w : World) (news : List (Addr × Obj)) (t : Tok)
theorem told_ok (X : List Nat) (i j : Nat) (hi : i < 22) (hj : j < 22) (hX : X.length ≤ 20) (hlt : ∀ c ∈ X, c < 128 ∧ c ≠ 42) (hs : 16 * hexV i + hexV j = cks (S (head6 ++ X))) :
    TellL w 290 [.str (S (36 :: (head6 ++ X ++ [42, dig i, dig j]))) t] news (fun r tl => DatIn tl r (takenD X)) := by
  have H := line1 head6 X i j hi hj rfl hX (six_ok hlt)
  obtain ⟨g1, g2, g3, g4, g5⟩ := head_same
  have hv : HexIs (S [dig i, dig j]) ((cks (S (head6 ++ X)) : Nat) : Int) := hs ▸ hexIs hi hj
  have R := told_A w news _ _ _ _ _ _ _ _ _ _ _ _ _ _ t H.hlen H.hls H.hp1 H.hp2 H.hp3 H.lpre H.lc H.lw H.ltx H.ln H.lt H.lt2 H.l4 H.l5 H.l69 H.la (pre1 _).1 (pre1 _).2 H.s3 H.s4 H.s5 H.s6 H.s7 H.s8 H.t2 H.t3 H.t4 H.t5 H.u3 (by decide +kernel) g1 g2 trivial g3 g4 hv H.l6 H.u1 g5
  rw [split_is] at R
  exact R
theorem told_low (X : List Nat) (i j : Nat) (hi : i < 22) (hj : j < 22) (hX : X.length ≤ 20) (hlt : ∀ c ∈ X, c < 128 ∧ c ≠ 42) (hs : 16 * hexV i + hexV j = cks (S (head6 ++ X))) :
    TellL w 290 [.str (S (head6 ++ X ++ [42, dig i, dig j, 13, 10])) t] news (fun r tl => DatIn tl r (takenD X)) := by
  have H := lineOk head6 X [13, 10] i j (.inr rfl) hi hj rfl hX (six_ok hlt) [] (.inl rfl) (lstrip_same 71 _ sp71)
  obtain ⟨g1, g2, g3, g4, g5⟩ := head_same
  have hv : HexIs (S [dig i, dig j]) ((cks (S (head6 ++ X)) : Nat) : Int) := hs ▸ hexIs hi hj
  have R := told_Z w news _ _ _ _ _ _ _ _ _ _ _ _ _ _ t H.hlen H.hls H.hp1 H.hp2 H.hp3 H.lpre H.lc H.lw H.ltx H.ln H.lt H.lt2 H.l4 H.l5 H.l69 H.la (by decide +kernel) rfl H.s3 H.s4 H.s5 H.s6 H.s7 H.s8 H.t2 H.t3 H.t4 H.t5 H.u3 (by decide +kernel) g1 g2 trivial g3 g4 hv H.l6 H.u1 g5
  rw [split_is] at R
  exact R
theorem told_sum (h X : List Nat) (i j : Nat) (hi : i < 22) (hj : j < 22) (h6 : h.length = 6) (hX : X.length ≤ 20) (hlt : ∀ c ∈ h ++ X, c < 128 ∧ c ≠ 42) (hP : inP (h.take 1) = false) (w4 : wl (S (h.take 4)) 4 = true) (w5 : wl (S (h.take 5)) 5 = true) (f56 : (S (h.drop 5) == Str.ofString ",") = true) (hs : 16 * hexV i + hexV j ≠ cks (S (h ++ X))) :
    TellL w 290 [.str (S (36 :: (h ++ X ++ [42, dig i, dig j]))) t] news (fun r tl => DatIn tl r sumD) := by
  have H := line1 h X i j hi hj h6 hX hlt
  cases hq : inQ (h.drop 4) with
  | false => exact told_C1 w news _ _ _ _ _ _ _ _ _ _ _ _ _ (S h) t H.hlen H.hls H.hp1 H.hp2 H.hp3 H.lpre H.lc H.lw H.ltx H.ln H.lt H.lt2 H.l4 H.l5 H.l69 H.la (pre1 _).1 (pre1 _).2 H.s3 H.s4 H.s5 H.s6 H.s7 H.s8 H.t2 H.t3 H.t4 H.t5 H.u3 hP w4 hq trivial w5 f56 _ (hexIs hi hj) hs (hex_lt hi hj) (cks8 hlt)
  | true =>
    cases h9 : wl (S (X.take 3)) 3 with
    | false => exact told_C3 w news _ _ _ _ _ _ _ _ _ _ _ _ _ (S h) t H.hlen H.hls H.hp1 H.hp2 H.hp3 H.lpre H.lc H.lw H.ltx H.ln H.lt H.lt2 H.l4 H.l5 H.l69 H.la (pre1 _).1 (pre1 _).2 H.s3 H.s4 H.s5 H.s6 H.s7 H.s8 H.t2 H.t3 H.t4 H.t5 H.u3 hP w4 hq h9 w5 f56 _ (hexIs hi hj) hs (hex_lt hi hj) (cks8 hlt)
    | true => exact told_C2 w news _ _ _ _ _ _ _ _ _ _ _ _ _ (S h) t H.hlen H.hls H.hp1 H.hp2 H.hp3 H.lpre H.lc H.lw H.ltx H.ln H.lt H.lt2 H.l4 H.l5 H.l69 H.la (pre1 _).1 (pre1 _).2 H.s3 H.s4 H.s5 H.s6 H.s7 H.s8 H.t2 H.t3 H.t4 H.t5 H.u3 hP w4 hq h9 trivial trivial H.u9 H.v9 _ (hexIs hi hj) hs (hex_lt hi hj) (cks8 hlt)
theorem told_b1 (h X : List Nat) (i j : Nat) (hi : i < 22) (hj : j < 22) (h6 : h.length = 6) (hX : X.length ≤ 20) (hlt : ∀ c ∈ h ++ X, c < 128 ∧ c ≠ 42) (hP : inP (h.take 1) = false) (w4 : wl (S (h.take 4)) 4 = true) (hq : inQ (h.drop 4) = false) (w5 : wl (S (h.take 5)) 5 = true) (f56 : (S (h.drop 5) == Str.ofString ",") = false) :
    TellL w 290 [.str (S (36 :: (h ++ X ++ [42, dig i, dig j]))) t] news (fun r tl => DatIn tl r noneD) := by
  have H := line1 h X i j hi hj h6 hX hlt
  exact told_B1 w news _ _ _ _ _ _ _ _ _ _ _ _ _ (S h) t H.hlen H.hls H.hp1 H.hp2 H.hp3 H.lpre H.lc H.lw H.ltx H.ln H.lt H.lt2 H.l4 H.l5 H.l69 H.la (pre1 _).1 (pre1 _).2 H.s3 H.s4 H.s5 H.s6 H.s7 H.s8 H.t2 H.t3 H.t4 H.t5 H.u3 hP w4 hq trivial w5 f56
theorem told_b2 (h X : List Nat) (i j : Nat) (hi : i < 22) (hj : j < 22) (h6 : h.length = 6) (hX : X.length ≤ 20) (hlt : ∀ c ∈ h ++ X, c < 128 ∧ c ≠ 42) (hP : inP (h.take 1) = false) (w4 : wl (S (h.take 4)) 4 = false) (w5 : wl (S (h.take 5)) 5 = false) :
    TellL w 290 [.str (S (36 :: (h ++ X ++ [42, dig i, dig j]))) t] news (fun r tl => DatIn tl r noneD) := by
  have H := line1 h X i j hi hj h6 hX hlt
  exact told_B2 w news _ _ _ _ _ _ _ _ _ _ _ _ _ (S h) t H.hlen H.hls H.hp1 H.hp2 H.hp3 H.lpre H.lc H.lw H.ltx H.ln H.lt H.lt2 H.l4 H.l5 H.l69 H.la (pre1 _).1 (pre1 _).2 H.s3 H.s4 H.s5 H.s6 H.s7 H.s8 H.t2 H.t3 H.t4 H.t5 H.u3 hP w4 trivial trivial w5 trivial
theorem told_b3 (h X : List Nat) (i j : Nat) (hi : i < 22) (hj : j < 22) (h6 : h.length = 6) (hX : X.length ≤ 20) (hlt : ∀ c ∈ h ++ X, c < 128 ∧ c ≠ 42) (hP : inP (h.take 1) = false) (w4 : wl (S (h.take 4)) 4 = true) (hq : inQ (h.drop 4) = false) (w5 : wl (S (h.take 5)) 5 = false) :
    TellL w 290 [.str (S (36 :: (h ++ X ++ [42, dig i, dig j]))) t] news (fun r tl => DatIn tl r noneD) := by
  have H := line1 h X i j hi hj h6 hX hlt
  exact told_B3 w news _ _ _ _ _ _ _ _ _ _ _ _ _ (S h) t H.hlen H.hls H.hp1 H.hp2 H.hp3 H.lpre H.lc H.lw H.ltx H.ln H.lt H.lt2 H.l4 H.l5 H.l69 H.la (pre1 _).1 (pre1 _).2 H.s3 H.s4 H.s5 H.s6 H.s7 H.s8 H.t2 H.t3 H.t4 H.t5 H.u3 hP w4 hq trivial w5 trivial
def setD (p c : Nat) (X : List Nat) : Dat := if c = (head6 ++ X).getD p 0 then takenD X else if p = 5 ∨ (p < 5 ∧ c ∉ goodC) then noneD else sumD
theorem told_set (X : List Nat) (p c i j : Nat) (hi : i < 22) (hj : j < 22) (hX : X.length ≤ 20) (hm : ∀ c ∈ X, c ∈ menuC) (hp : p < (head6 ++ X).length) (hc : c ∈ menuC) (hs : 16 * hexV i + hexV j = cks (S (head6 ++ X))) :
    TellL w 290 [.str (S (36 :: ((head6 ++ X).set p c ++ [42, dig i, dig j]))) t] news (fun r tl => DatIn tl r (setD p c X)) := by
  have hok : ∀ c ∈ X, c < 128 ∧ c ≠ 42 := fun c hc => menu_ok c (hm c hc)
  have hset : ∀ d ∈ (head6 ++ X).set p c, d < 128 ∧ d ≠ 42 := fun d hd => by
    rcases List.mem_or_eq_of_mem_set hd with h | h
    · exact six_ok hok d h
    · exact h ▸ menu_ok c hc
  unfold setD
  split
  · rename_i e
    have e1 : (head6 ++ X).set p c = head6 ++ X := by
      rw [e, List.getD_eq_getElem?_getD, List.getElem?_eq_getElem hp]
      exact List.set_getElem_self hp
    rw [e1]
    exact told_ok w news t X i j hi hj hX hok hs
  · rename_i e
    have hne : 16 * hexV i + hexV j ≠ cks (S ((head6 ++ X).set p c)) := fun h => e ((nfold_set _ p c hp).mp (h.symm.trans hs))
    rcases Nat.lt_or_ge p 6 with h6 | h6
    · have e1 : (head6 ++ X).set p c = head6.set p c ++ X := List.set_append_left _ _ (by exact h6)
      have hg : (head6 ++ X).getD p 0 = head6.getD p 0 := by
        rw [List.getD_eq_getElem?_getD, List.getD_eq_getElem?_getD, List.getElem?_append_left (by exact h6)]
      rw [hg] at e
      rw [e1] at hset hne ⊢
      have hl : (head6.set p c).length = 6 := by rw [List.length_set]; rfl
      have hP := head_first p h6 c hc
      by_cases h5 : p = 5
      · rw [if_pos (.inl h5)]
        subst h5
        obtain ⟨g1, g2, g3, g4⟩ := head_five c hc e
        exact told_b1 w news t _ X i j hi hj hl hX hset hP g1 g2 g3 g4
      · have hp5 : p < 5 := by omega
        by_cases hgood : c ∈ goodC
        · rw [if_neg (fun h => h.elim h5 fun h => h.2 hgood)]
          by_cases hq : p = 4 ∧ c = 81
          · obtain ⟨rfl, rfl⟩ := hq
            obtain ⟨g1, _, g3, g4⟩ := head_query
            exact told_sum w news t _ X i j hi hj hl hX hset hP g1 g3 g4 hne
          · obtain ⟨g1, _, g3, g4⟩ := head_good p hp5 c hgood fun h4 h81 => hq ⟨h4, h81⟩
            exact told_sum w news t _ X i j hi hj hl hX hset hP g1 g3 g4 hne
        · rw [if_pos (.inr ⟨hp5, hgood⟩)]
          rcases Nat.lt_or_ge p 4 with h4 | h4
          · obtain ⟨g1, g2⟩ := head_bad p h4 c hc hgood
            exact told_b2 w news t _ X i j hi hj hl hX hset hP g1 g2
          · obtain rfl : p = 4 := by omega
            obtain ⟨g1, g2, g3⟩ := head_bad4 c hc hgood
            exact told_b3 w news t _ X i j hi hj hl hX hset hP g1 g2 g3
    · rw [if_neg (by omega)]
      have e1 : (head6 ++ X).set p c = head6 ++ X.set (p - 6) c := List.set_append_right _ _ (by exact h6)
      rw [e1] at hset hne ⊢
      obtain ⟨g1, _, g3, g4, _⟩ := head_same
      exact told_sum w news t head6 _ i j hi hj rfl (by rw [List.length_set]; exact hX) hset (by decide +kernel) g1 g3 g4 hne
def digD (i j : Nat) (X : List Nat) : Dat := if 16 * hexV i + hexV j = cks (S (head6 ++ X)) then takenD X else sumD
theorem told_dig (X : List Nat) (i j : Nat) (hi : i < 22) (hj : j < 22) (hX : X.length ≤ 20) (hok : ∀ c ∈ X, c < 128 ∧ c ≠ 42) :
    TellL w 290 [.str (S (36 :: (head6 ++ X ++ [42, dig i, dig j]))) t] news (fun r tl => DatIn tl r (digD i j X)) := by
  unfold digD
  split
  · rename_i e
    exact told_ok w news t X i j hi hj hX hok e
  · rename_i e
    obtain ⟨g1, _, g3, g4, _⟩ := head_same
    exact told_sum w news t head6 X i j hi hj rfl hX (six_ok hok) (by decide +kernel) g1 g3 g4 e
end
end Mine
end
section
open PySem PySem.W PyProof.Rows PySem.Calls PySem.Spec
namespace Mine
theorem TellL.useE {w : World} {f : Addr} {x x' : Str} {t : Tok} {news : List (Addr × Obj)} {Out : Value → List (Addr × Obj) → Prop} (C : TellL w f [.str x' t] news Out) (e : x = x') {mean : ExcName → Option Value} {mg mb : Str → Option Value} {cn : Str} {cs : Scope} {a : Addr} {ccd : Value} {h₀ : Heap} {L : Addr} {m : Str → Option Value} {s : Shared} {Q E : Value → Shared → Prop}
    (B : Below callerA h₀ [] h₀) (F : Fr h₀ L s.heap m) (X : (hd.heap_39 w.params).In h₀) (N : News h₀ L s.heap news) (T : Top hd.view_39 (looseW hd.view_39 [Str.ofString "NMEASentence", Str.ofString "TXT", Str.ofString "_law_signs"]) mean mg mb h₀) (hk : cs.kind = .function)
    (ret : ∀ r tl h' tk', Fr h₀ L h' m → News h₀ L h' (tl ++ news) → (∀ q ∈ news, ∀ p ∈ tl, q.1 < p.1) → Out r tl → Q r { s with heap := h', toks := tk' }) :
    wpAny (model PySem.Challenge.rw_ez0281_01.row.prog w) (callerA.deeper (envOf cn cs L a ccd)) (call (.ref f) [.str x t]) Q E s := by
  subst e
  exact C.use B F X N T hk ret
section
variable {prog : Program} {w : World} {A : Around} {E : Value → Shared → Prop} {s : Shared} {h₀ h : Heap} {L D : Addr} {m : Str → Option Value} {a b : Addr × Obj} {rest tl : List (Addr × Obj)} {us : List Value} {n : Nat}
theorem news_mid (N : News h₀ L h (tl ++ a :: b :: rest)) : News h₀ L h (a :: b :: (tl ++ rest)) := fun p hp => N p (by
  rcases List.mem_cons.mp hp with rfl | hp
  · exact List.mem_append.mpr (.inr (.head _))
  · rcases List.mem_cons.mp hp with rfl | hp
    · exact List.mem_append.mpr (.inr (.tail _ (.head _)))
    · rcases List.mem_append.mp hp with hp | hp
      · exact List.mem_append.mpr (.inl hp)
      · exact List.mem_append.mpr (.inr (.tail _ (.tail _ hp))))
theorem news_own {own : List (Addr × Obj)} (N : News h₀ L h (own ++ a :: b :: rest)) : News h₀ L h (a :: b :: (rest ++ own)) := fun p hp => news_mid N p (by
  rcases List.mem_cons.mp hp with rfl | hp
  · exact .head _
  · rcases List.mem_cons.mp hp with rfl | hp
    · exact .tail _ (.head _)
    · exact .tail _ (.tail _ (List.mem_append.mpr (List.mem_append.mp hp).symm)))
theorem news_two (N : News h₀ L h (a :: b :: rest)) : News h₀ L h (b :: a :: rest) := fun p hp => N p (by
  rcases List.mem_cons.mp hp with rfl | hp
  · exact .tail _ (.head _)
  · rcases List.mem_cons.mp hp with rfl | hp
    · exact .head _
    · exact .tail _ (.tail _ hp))
theorem m_push2 {v : Value} {Q : Value → Shared → Prop} (F : Fr h₀ L s.heap m) (N : News h₀ L s.heap (a :: (D, listOf us.toArray n) :: rest)) (offa : @Ne Nat a.1 D) (off : ∀ p ∈ rest, @Ne Nat p.1 D) (hsz : us.length ≤ sizeLine)
    (h : ∀ h', Fr h₀ L h' m → News h₀ L h' (a :: (D, listOf (us ++ [v]).toArray (n + 1)) :: rest) → Q .none { s with heap := h' }) : wpAny (model prog w) A (call (.builtin "list.append") [.ref D, v]) Q E s :=
  m_push F (news_two N) (fun p hp => by
    rcases List.mem_cons.mp hp with rfl | hp
    · exact offa
    · exact off p hp) hsz fun h' F' N' => h h' F' (news_two N')
theorem m_push1 {v : Value} {Q : Value → Shared → Prop} (F : Fr h₀ L s.heap m) (N : News h₀ L s.heap ((D, listOf us.toArray n) :: a :: rest)) (offa : @Ne Nat a.1 D) (off : ∀ p ∈ rest, @Ne Nat p.1 D) (hsz : us.length ≤ sizeLine)
    (h : ∀ h', Fr h₀ L h' m → News h₀ L h' ((D, listOf (us ++ [v]).toArray (n + 1)) :: a :: rest) → Q .none { s with heap := h' }) : wpAny (model prog w) A (call (.builtin "list.append") [.ref D, v]) Q E s :=
  m_push F N (fun p hp => by
    rcases List.mem_cons.mp hp with rfl | hp
    · exact offa
    · exact off p hp) hsz h
end
theorem line_is (n : List Nat) (a b : Nat) : Str.ofString "$" ++ S n ++ Str.ofString "*" ++ S [a, b] = S (36 :: (n ++ [42, a, b])) := by
  rw [str_dollar, str_star, S_app, S_app, S_app]
  simp
theorem str_rn : Str.ofString "\r\n" = S [13, 10] := by decide +kernel
theorem line2_is (n : List Nat) {T : Nat} (hT : T < 128) : S n ++ Str.ofString "*" ++ Txt.lower (S [hexDigs.getD (T / 16) 0, hexDigs.getD (T % 16) 0]) ++ Str.ofString "\r\n" = S (n ++ [42, dig (lowD (T / 16)), dig (lowD (T % 16)), 13, 10]) := by
  rw [dig_lower _ (by omega) _ (by omega), str_star, str_rn, S_app, S_app, S_app]
  simp [dig]
theorem great_val {T : Nat} (hT : T < 128) : 16 * hexV (T / 16) + hexV (T % 16) = T := by
  have h : ∀ i < 16, hexV i = i := by decide
  rw [h _ (by omega), h _ (by omega)]
  omega
theorem low_val {T : Nat} (hT : T < 128) : 16 * hexV (lowD (T / 16)) + hexV (lowD (T % 16)) = T := by
  rw [(lowD_v _ (by omega)).1, (lowD_v _ (by omega)).1]
  omega
theorem cut_mem : ∀ (l : List Nat) (a : List Str) (y : Str), (∀ p ∈ a, ∀ c ∈ p.cps.toList, c < 128) → (∀ c ∈ y.cps.toList, c < 128) → (∀ c ∈ l, c < 128) → ∀ p ∈ (l.foldl cutStep (a, y)).1 ++ [(l.foldl cutStep (a, y)).2], ∀ c ∈ p.cps.toList, c < 128
  | [], a, y, ha, hy, _ => fun p hp => by
    rcases List.mem_append.mp hp with hp | hp
    · exact ha p hp
    · rw [List.mem_singleton.mp hp]; exact hy
  | c :: l, a, y, ha, hy, hl => by
    rw [List.foldl_cons]
    unfold cutStep
    split
    · refine cut_mem l (a ++ [y]) ⟨#[]⟩ (fun p hp => ?_) (fun _ h => nomatch h) (fun d hd => hl d (.tail _ hd))
      rcases List.mem_append.mp hp with hp | hp
      · exact ha p hp
      · rw [List.mem_singleton.mp hp]; exact hy
    · refine cut_mem l a (y ++ ⟨#[c]⟩) ha (fun d hd => ?_) (fun d hd => hl d (.tail _ hd))
      have hd' : d ∈ y.cps.toList ++ [c] := by
        have : (y ++ (⟨#[c]⟩ : Str)).cps.toList = y.cps.toList ++ [c] := by
          show (y.cps ++ #[c]).toList = _
          simp
        rw [← this]; exact hd
      rcases List.mem_append.mp hd' with h | h
      · exact hy d h
      · rw [List.mem_singleton.mp h]; exact hl c (.head _)
theorem str_ok {x : Str} (h : ∀ c ∈ x.cps.toList, c < 128) : PyData.strOk x = true := by
  unfold PyData.strOk
  rw [Array.all_eq_true']
  intro c hc
  exact decide_eq_true (Nat.lt_trans (h c (by simpa using hc)) (by decide))
theorem okD_strs (n : Nat) {ps : List Str} (h : ∀ p ∈ ps, ∀ c ∈ p.cps.toList, c < 128) : ((ps.map Dat.str).all (okD n)) = true := by
  rw [List.all_eq_true]
  intro d hd
  obtain ⟨p, hp, rfl⟩ := List.mem_map.mp hd
  cases n <;> exact str_ok (h p hp)
theorem ok_taken {X : List Nat} (h : ∀ c ∈ X, c < 128) : okD 2 (takenD X) = true := by
  have h1 : ((cutD X).map Dat.str).all (okD 0) = true := okD_strs 0 (cut_mem X [] ⟨#[]⟩ (fun _ h => nomatch h) (fun _ h => nomatch h) h)
  have h2 : okD 1 (.str (Str.ofString "taken")) = true := by decide +kernel
  show (okD 1 (.str (Str.ofString "taken")) && (true && (((cutD X).map Dat.str).all (okD 0) && true))) = true
  rw [h1, h2]
  rfl
theorem ok_sum : okD 2 sumD = true := by decide +kernel
theorem ok_none : okD 2 noneD = true := by decide +kernel
theorem taken_dat {X : List Nat} {D k : Addr} {oD : Obj} {u : Tok} {r : Value} {n : Nat} {tl rest : List (Addr × Obj)} (hc : DatIn tl r (.list ((cutD X).map .str))) : DatIn ((D, oD) :: (k, W.listOf [Value.str (Str.ofString "taken") u, .bool true, r].toArray n) :: (tl ++ rest)) (.ref k) (takenD X) :=
  .list (.tail _ (.head _)) (.cons (.str _ _) (.cons (.bool _) (.cons (hc.mono fun p hp => .tail _ (.tail _ (List.mem_append.mpr (.inl hp)))) .nil)))
theorem off_app {D : Addr} {o : Obj} {news tl R : List (Addr × Obj)} (ho : ∀ q ∈ news, ∀ p ∈ tl, q.1 < p.1) (hD : (D, o) ∈ news) (hR : ∀ p ∈ R, @Ne Nat p.1 D) : ∀ p ∈ tl ++ R, @Ne Nat p.1 D := fun p hp => by
  rcases List.mem_append.mp hp with hp | hp
  · exact Nat.ne_of_gt (ho _ hD p hp)
  · exact hR p hp
theorem off_own {D I : Addr} {o : Obj} {X own nx : List (Addr × Obj)} (hX : ∀ p ∈ X, @Ne Nat p.1 D) (hown : ∀ p ∈ own, p.1 = I) (hno : ∀ p ∈ nx, p.1 ≠ I) (hD : (D, o) ∈ nx) : ∀ p ∈ X ++ own, @Ne Nat p.1 D := fun p hp => by
  rcases List.mem_append.mp hp with hp | hp
  · exact hX p hp
  · rw [hown p hp]
    exact fun e => hno _ hD e.symm
theorem great_i {T : Nat} (hT : T < 128) : T / 16 < 22 := by omega
theorem great_j {T : Nat} (_hT : T < 128) : T % 16 < 22 := by omega
def Stop (p : Prop) : Prop := p
theorem stop_here {p : Prop} (h : Stop p) : p := h
theorem news_rot2 {h₀ h : Heap} {L : Addr} {a b c : Addr × Obj} {r : List (Addr × Obj)} (N : News h₀ L h (a :: b :: c :: r)) : News h₀ L h (b :: c :: a :: r) := fun p hp => N p (by
  rcases List.mem_cons.mp hp with rfl | hp
  · exact .tail _ (.head _)
  · rcases List.mem_cons.mp hp with rfl | hp
    · exact .tail _ (.tail _ (.head _))
    · rcases List.mem_cons.mp hp with rfl | hp
      · exact .head _
      · exact .tail _ (.tail _ (.tail _ hp)))
theorem fresh_new {R X : List (Addr × Obj)} {l lt ld : Addr} {o o1 o2 : Obj} (hl : ∀ q ∈ (lt, o1) :: (ld, o2) :: R, ∀ p ∈ [(l, o)], @Ne Nat q.1 p.1) (hX : ∀ p ∈ X, @Ne Nat p.1 lt ∧ @Ne Nat p.1 ld) : ∀ p ∈ (l, o) :: X, @Ne Nat p.1 lt ∧ @Ne Nat p.1 ld := fun p hp => by
  rcases List.mem_cons.mp hp with rfl | hp
  · exact ⟨(hl _ (.head _) _ (.head _)).symm, (hl _ (.tail _ (.head _)) _ (.head _)).symm⟩
  · exact hX p hp
theorem low_i {T : Nat} (hT : T < 128) : lowD (T / 16) < 22 := (lowD_v _ (by omega)).2
theorem low_j {T : Nat} (_hT : T < 128) : lowD (T % 16) < 22 := (lowD_v _ (by omega)).2
theorem place_nat (n : Int) {l : Nat} (hl : 0 < l) : ∃ p : Nat, p < l ∧ n.fmod (l : Int) = (p : Int) := by
  have h1 := Int.fmod_lt_of_pos n (show (0 : Int) < (l : Int) by omega)
  have h2 := Int.fmod_nonneg_of_pos n (show (0 : Int) < (l : Int) by omega)
  exact ⟨(n.fmod (l : Int)).toNat, by omega, by omega⟩
theorem sgn_raw (k : Int) : List.getD [Str.ofString "0", Str.ofString "7", Str.ofString "A", Str.ofString "z", Str.ofString ",", Str.ofString ",", Str.ofString "-", Str.ofString ".", Str.ofString "/", Str.ofString "$", Str.ofString " ", Str.ofString "Q", Str.ofString "_"] (k.fmod 13).toNat Str.empty = S [cod k] := (sgn_eq k).1
theorem line_set (n : List Nat) {p : Nat} (hp : p < n.length) (c a b : Nat) : Str.ofString "$" ++ Txt.slice (S n) none (some (p : Int)) ++ S [c] ++ Txt.slice (S n) (some ((p : Int) + 1)) none ++ Str.ofString "*" ++ S [a, b] = S (36 :: (n.set p c ++ [42, a, b])) := by
  have e1 : Txt.slice (S n) (some ((p : Int) + 1)) none = S (n.drop (p + 1)) := slice_from n (p + 1)
  rw [slice_to, e1, str_dollar, str_star, S_app, S_app, S_app, S_app, S_app, List.set_eq_take_append_cons_drop, if_pos hp]
  simp
theorem body_at (n : List Nat) {p : Nat} (hp : p < n.length) : (S n).cps[((p : Int)).toNat]? = some (n.getD p 0) := by
  show n.toArray[((p : Int)).toNat]? = _
  simp [List.getD_eq_getElem?_getD, hp]
theorem one_eq {c d : Nat} (h : c = d) : (S [c] == S [d]) = true := by subst h; simp
theorem one_ne {c d : Nat} (h : ¬ c = d) : (S [c] == S [d]) = false := by
  rw [beq_eq_false_iff_ne]
  intro e
  have := congrArg (fun z => z.cps.toList) e
  simp only [S_list, List.cons.injEq, and_true] at this
  exact h this
theorem set_same {p c : Nat} {X : List Nat} (h : c = (head6 ++ X).getD p 0) : setD p c X = takenD X := if_pos h
theorem set_none {p c : Nat} {X : List Nat} (h : ¬ c = (head6 ++ X).getD p 0) (h5 : p = 5 ∨ (p < 5 ∧ c ∉ goodC)) : setD p c X = noneD := (if_neg h).trans (if_pos h5)
theorem set_sum {p c : Nat} {X : List Nat} (h : ¬ c = (head6 ++ X).getD p 0) (h5 : ¬ (p = 5 ∨ (p < 5 ∧ c ∉ goodC))) : setD p c X = sumD := (if_neg h).trans (if_neg h5)
theorem good_in : ∀ c ∈ menuC, ([Str.ofString "0", Str.ofString "7", Str.ofString "A", Str.ofString "z", Str.ofString "Q", Str.ofString "_"].any fun y => y == S [c]) = decide (c ∈ goodC) := by decide +kernel
theorem news_3 {h₀ h : Heap} {L : Addr} {a b c : Addr × Obj} {r : List (Addr × Obj)} (N : News h₀ L h (a :: b :: c :: r)) : News h₀ L h (c :: a :: b :: r) := fun p hp => N p (by
  rcases List.mem_cons.mp hp with rfl | hp
  · exact .tail _ (.tail _ (.head _))
  · rcases List.mem_cons.mp hp with rfl | hp
    · exact .head _
    · rcases List.mem_cons.mp hp with rfl | hp
      · exact .tail _ (.head _)
      · exact .tail _ (.tail _ (.tail _ hp)))
theorem m_push3 {prog : Program} {w : World} {A : Around} {E : Value → Shared → Prop} {s : Shared} {h₀ : Heap} {L D : Addr} {m : Str → Option Value} {a b : Addr × Obj} {rest : List (Addr × Obj)} {us : List Value} {n : Nat} {v : Value} {Q : Value → Shared → Prop} (F : Fr h₀ L s.heap m) (N : News h₀ L s.heap (a :: b :: (D, W.listOf us.toArray n) :: rest)) (offa : @Ne Nat a.1 D) (offb : @Ne Nat b.1 D) (off : ∀ p ∈ rest, @Ne Nat p.1 D) (hsz : us.length ≤ sizeLine)
    (h : ∀ h', Fr h₀ L h' m → News h₀ L h' (a :: b :: (D, W.listOf (us ++ [v]).toArray (n + 1)) :: rest) → Q .none { s with heap := h' }) : wpAny (model prog w) A (call (.builtin "list.append") [.ref D, v]) Q E s :=
  m_push F (news_3 N) (fun p hp => by
    rcases List.mem_cons.mp hp with rfl | hp
    · exact offa
    · rcases List.mem_cons.mp hp with rfl | hp
      · exact offb
      · exact off p hp) hsz fun h' F' N' => h h' F' (news_rot2 N')
theorem ne_l1 {a b : Prop} {x y : Nat} (h : a ∧ x < y ∧ b) : @Ne Nat y x := Nat.ne_of_gt h.2.1
theorem t_fresh2 {lt ld I l : Addr} {o oI : Obj} {R tl : List (Addr × Obj)} (htf : ∀ p ∈ tl, @Ne Nat p.1 lt ∧ @Ne Nat p.1 ld ∧ @Ne Nat p.1 I) (h : lt < l ∧ ld < l ∧ AllLt l (tl ++ R)) (hI : (I, oI) ∈ R) : ∀ p ∈ (l, o) :: tl, @Ne Nat p.1 lt ∧ @Ne Nat p.1 ld ∧ @Ne Nat p.1 I := fun p hp => by
  rcases List.mem_cons.mp hp with rfl | hp
  · exact ⟨Nat.ne_of_gt h.1, Nat.ne_of_gt h.2.1, Nat.ne_of_gt (allLt_all h.2.2 _ (List.mem_append.mpr (.inr hI)))⟩
  · exact htf p hp
theorem item_at (n : List Nat) {p : Nat} (hp : p < n.length) : Txt.item (S n) (p : Int) = S [n.getD p 0] := by
  show (⟨#[((seqIndex? _ _).bind _).getD 0]⟩ : Str) = _
  rw [StrLaws.at_nonneg (by omega) (body_at n hp)]
  rfl
theorem one_text (x : Str) (t : Tok) {X : List (Addr × Obj)} {l : Addr} {n : Nat} {r : List (Addr × Obj)} : DatIn ((l, W.listOf [Value.str x t].toArray n) :: r ++ X) (.ref l) (.list [.str x]) := .list (.head _) (.cons (.str _ _) .nil)
theorem news_4 {h₀ h : Heap} {L : Addr} {a b c d : Addr × Obj} {r : List (Addr × Obj)} (N : News h₀ L h (a :: b :: c :: d :: r)) : News h₀ L h (c :: d :: a :: r) := fun p hp => N p (by
  rcases List.mem_cons.mp hp with rfl | hp
  · exact .tail _ (.tail _ (.head _))
  · rcases List.mem_cons.mp hp with rfl | hp
    · exact .tail _ (.tail _ (.tail _ (.head _)))
    · rcases List.mem_cons.mp hp with rfl | hp
      · exact .head _
      · exact .tail _ (.tail _ (.tail _ (.tail _ hp))))
theorem news_4b {h₀ h : Heap} {L : Addr} {a b c d : Addr × Obj} {r : List (Addr × Obj)} (N : News h₀ L h (a :: b :: c :: d :: r)) : News h₀ L h (d :: a :: b :: c :: r) := fun p hp => N p (by
  rcases List.mem_cons.mp hp with rfl | hp
  · exact .tail _ (.tail _ (.tail _ (.head _)))
  · rcases List.mem_cons.mp hp with rfl | hp
    · exact .head _
    · rcases List.mem_cons.mp hp with rfl | hp
      · exact .tail _ (.head _)
      · rcases List.mem_cons.mp hp with rfl | hp
        · exact .tail _ (.tail _ (.head _))
        · exact .tail _ (.tail _ (.tail _ (.tail _ hp))))
theorem news_4c {h₀ h : Heap} {L : Addr} {a b c d : Addr × Obj} {r : List (Addr × Obj)} (N : News h₀ L h (d :: a :: b :: c :: r)) : News h₀ L h (a :: b :: c :: d :: r) := fun p hp => N p (by
  rcases List.mem_cons.mp hp with rfl | hp
  · exact .tail _ (.head _)
  · rcases List.mem_cons.mp hp with rfl | hp
    · exact .tail _ (.tail _ (.head _))
    · rcases List.mem_cons.mp hp with rfl | hp
      · exact .tail _ (.tail _ (.tail _ (.head _)))
      · rcases List.mem_cons.mp hp with rfl | hp
        · exact .head _
        · exact .tail _ (.tail _ (.tail _ (.tail _ hp))))
theorem m_push4 {prog : Program} {w : World} {A : Around} {E : Value → Shared → Prop} {s : Shared} {h₀ : Heap} {L D : Addr} {m : Str → Option Value} {a b c : Addr × Obj} {rest : List (Addr × Obj)} {us : List Value} {n : Nat} {v : Value} {Q : Value → Shared → Prop} (F : Fr h₀ L s.heap m) (N : News h₀ L s.heap (a :: b :: c :: (D, W.listOf us.toArray n) :: rest)) (offa : @Ne Nat a.1 D) (offb : @Ne Nat b.1 D) (offc : @Ne Nat c.1 D) (off : ∀ p ∈ rest, @Ne Nat p.1 D) (hsz : us.length ≤ sizeLine)
    (h : ∀ h', Fr h₀ L h' m → News h₀ L h' (a :: b :: c :: (D, W.listOf (us ++ [v]).toArray (n + 1)) :: rest) → Q .none { s with heap := h' }) : wpAny (model prog w) A (call (.builtin "list.append") [.ref D, v]) Q E s :=
  m_push F (news_4b N) (fun p hp => by
    rcases List.mem_cons.mp hp with rfl | hp
    · exact offa
    · rcases List.mem_cons.mp hp with rfl | hp
      · exact offb
      · rcases List.mem_cons.mp hp with rfl | hp
        · exact offc
        · exact off p hp) hsz fun h' F' N' => h h' F' (news_4c N')
theorem ne_l2 {a b c : Prop} {x y : Nat} (h : a ∧ c ∧ x < y ∧ b) : @Ne Nat y x := Nat.ne_of_gt h.2.2.1
theorem not_good {c : Nat} (hm : c ∈ menuC) (h : ([Str.ofString "0", Str.ofString "7", Str.ofString "A", Str.ofString "z", Str.ofString "Q", Str.ofString "_"].any fun y => y == S [c]) = false) : c ∉ goodC := of_decide_eq_false ((good_in c hm).symm.trans h)
theorem is_good {c : Nat} (hm : c ∈ menuC) (h : ([Str.ofString "0", Str.ofString "7", Str.ofString "A", Str.ofString "z", Str.ofString "Q", Str.ofString "_"].any fun y => y == S [c]) = true) : c ∈ goodC := of_decide_eq_true ((good_in c hm).symm.trans h)
theorem mod22 (n : Int) : ∃ i : Nat, i < 22 ∧ n.fmod 22 = (i : Int) := place_nat n (l := 22) (by decide)
theorem item_dig {i : Nat} (h : i < 22) : Txt.item (Str.ofString "0123456789ABCDEFabcdef") (i : Int) = S [dig i] := by
  show (⟨#[((seqIndex? _ _).bind _).getD 0]⟩ : Str) = _
  rw [StrLaws.at_nonneg (by omega) (dig_at i h)]
  rfl
theorem line_dig (n : List Nat) {i j : Nat} (hi : i < 22) (hj : j < 22) : Str.ofString "$" ++ S n ++ Str.ofString "*" ++ Txt.item (Str.ofString "0123456789ABCDEFabcdef") (i : Int) ++ Txt.item (Str.ofString "0123456789ABCDEFabcdef") (j : Int) = S (36 :: (n ++ [42, dig i, dig j])) := by
  rw [item_dig hi, item_dig hj, str_dollar, str_star, S_app, S_app, S_app, S_app]
  simp
theorem dig_atI {i : Nat} (h : i < 22) : (Str.ofString "0123456789ABCDEFabcdef").cps[((i : Int)).toNat]? = some (dig i) := dig_at i h
theorem line_dig2 (n : List Nat) (a b : Nat) : Str.ofString "$" ++ S n ++ Str.ofString "*" ++ S [a] ++ S [b] = S (36 :: (n ++ [42, a, b])) := by
  rw [str_dollar, str_star, S_app, S_app, S_app, S_app]
  simp
end Mine
end
section
open PySem PySem.W PyProof.Rows PySem.Calls PySem.Spec
namespace Mine
section
variable {prog : Program} {w : World} {A : Around} {E : Value → Shared → Prop} {s : Shared} {env : Env} {h₀ : Heap} {x : Str} {body : List Stmt} {Q : Flow → Shared → Prop}
def SameTurn (prog : Program) (w : World) (A : Around) (E : Value → Shared → Prop) (s : Shared) (env : Env) (h₀ : Heap) (x : Str) (body : List Stmt) (names : List Str) (m₀ : Str → Option Value) (ok : Dat → Bool) (n : Nat) (lt ld : Addr) (X₀ : List (Addr × Obj)) (P : Nat → Value → Prop) : Prop :=
  ∀ i v m₁ ts ds kt kd dd X h tk I own oI, P i v → (∀ p ∈ X₀, p ∈ X) → ts.length = n + i → ds.length = n + i → (∀ p ∈ X ++ own, @Ne Nat p.1 lt) → (∀ p ∈ X ++ own, @Ne Nat p.1 ld) → (I, oI) ∈ X ++ own → DatAll X ts dd → DatAll X ds dd →
      Fr h₀ env.locals h (fun y => if y = x then some v else overlay names m₁ m₀ y) → News h₀ env.locals h ((lt, W.listOf ts.toArray kt) :: (ld, W.listOf ds.toArray kd) :: (X ++ own)) →
      wpAny (model prog w) A (execs body env) (TPost h₀ env.locals I lt ld names m₀ ok ts ds X own { s with heap := h, toks := tk }) E { s with heap := h, toks := tk }
def SameDone (s : Shared) (env : Env) (h₀ : Heap) (names : List Str) (m₀ : Str → Option Value) (ok : Dat → Bool) (n : Nat) (lt ld : Addr) (X₀ : List (Addr × Obj)) (Q : Flow → Shared → Prop) : Prop :=
  ∀ m₁ ts ds kt kd dd X h tk, dd.length = n → (∀ p ∈ X₀, p ∈ X) → (∀ p ∈ X, @Ne Nat p.1 lt ∧ @Ne Nat p.1 ld) → DatAll X ts dd → DatAll X ds dd → (∀ d ∈ dd, ok d = true) →
      Fr h₀ env.locals h (overlay names m₁ m₀) → News h₀ env.locals h ((lt, W.listOf ts.toArray kt) :: (ld, W.listOf ds.toArray kd) :: X) → Q .next { s with heap := h, toks := tk }
theorem same_step {lt ld : Addr} {X₀ : List (Addr × Obj)} {names : List Str} {m₀ : Str → Option Value} {n : Nat} {ok : Dat → Bool} {P : Nat → Value → Prop} (turn : SameTurn prog w A E s env h₀ x body names m₀ ok n lt ld X₀ P)
    (i : Nat) (v : Value) (m₁ : Str → Option Value) (nx : List (Addr × Obj)) (h : Heap) (tk : Nat) (I : Addr) (own : List (Addr × Obj)) (hv : P i v) (hJ : SameJ lt ld X₀ names m₀ n ok i m₁ nx) (hno : ∀ p ∈ nx, p.1 ≠ I) (hown : ∀ p ∈ own, p.1 = I) (hio : ∃ o, (I, o) ∈ own)
    (F₁ : Fr h₀ env.locals h (fun y => if y = x then some v else m₁ y)) (N₁ : News h₀ env.locals h (own ++ nx)) :
    wpAny (model prog w) A (execs body env) (LPost h₀ env.locals I own (SameJ lt ld X₀ names m₀ n ok (i + 1)) { s with heap := h, toks := tk } Q) E { s with heap := h, toks := tk } := by
  obtain ⟨ts, ds, kt, kd, dd, X', rfl, hX, hdt, hdd, hfr, hdl, hok, hm⟩ := hJ
  obtain ⟨oI, hio⟩ := hio
  refine wpAny_mono (turn i v m₁ ts ds kt kd dd X' h tk I own oI hv hX (hdt.length.trans hdl) (hdd.length.trans hdl) (off_own (fun p hp => (hfr p hp).1) hown hno (.head _)) (off_own (fun p hp => (hfr p hp).2) hown hno (.tail _ (.head _))) (List.mem_append.mpr (.inr hio)) hdt hdd (over_frx names hm F₁) (news_own N₁)) (fun f s₂ hp => same_turn hX hdt hdd hfr hdl hok hno f s₂ hp) fun _ _ e => e
theorem same_fin {lt ld : Addr} {X₀ : List (Addr × Obj)} {names : List Str} {m₀ : Str → Option Value} {n i : Nat} {ok : Dat → Bool} (done : SameDone s env h₀ names m₀ ok (n + i) lt ld X₀ Q) {m₁ : Str → Option Value} {nx : List (Addr × Obj)} {h : Heap} {tk : Nat} (hJ : SameJ lt ld X₀ names m₀ n ok i m₁ nx) (F₁ : Fr h₀ env.locals h m₁) (N₁ : News h₀ env.locals h nx) : Q .next { s with heap := h, toks := tk } := by
  obtain ⟨ts, ds, kt, kd, dd, X', rfl, hX, hdt, hdd, hfr, hdl, hok, hm⟩ := hJ
  exact done m₁ ts ds kt kd dd X' h tk hdl hX hfr hdt hdd hok (over_fr names hm F₁) N₁
theorem tup_same {lt ld D : Addr} {ts ds : List Value} {kt kd k : Nat} {v0 v1 : Value} {X₁ : List (Addr × Obj)} {dd : List Dat} {m₀ : Str → Option Value} (names : List Str) (n : Nat) (ok : Dat → Bool) (hh : A.handled = none)
    (F : Fr h₀ env.locals s.heap m₀) (N : News h₀ env.locals s.heap ((lt, W.listOf ts.toArray kt) :: (ld, W.listOf ds.toArray kd) :: (D, { cls := .type "tuple", data := .seq [v0, v1].toArray k }) :: X₁))
    (ht : DatAll ((D, { cls := .type "tuple", data := .seq [v0, v1].toArray k }) :: X₁) ts dd) (hd : DatAll ((D, { cls := .type "tuple", data := .seq [v0, v1].toArray k }) :: X₁) ds dd) (hf : ∀ p ∈ (D, { cls := .type "tuple", data := .seq [v0, v1].toArray k }) :: X₁, @Ne Nat p.1 lt ∧ @Ne Nat p.1 ld) (hn : dd.length = n) (hok : ∀ d ∈ dd, ok d = true)
    (turn : SameTurn prog w A E s env h₀ x body names m₀ ok n lt ld ((D, { cls := .type "tuple", data := .seq [v0, v1].toArray k }) :: X₁) (fun i v => [v0, v1][i]? = some v))
    (done : SameDone s env h₀ names m₀ ok (n + 2) lt ld ((D, { cls := .type "tuple", data := .seq [v0, v1].toArray k }) :: X₁) Q) :
    wpAny (model prog w) A (pyIter (.ref D)) (fun it s₂ => LoopAtV prog w A h₀ env x body Q E it s₂) E s := by
  refine tup_loop (ol := { cls := .type "tuple", data := .seq [v0, v1].toArray k }) (vs := [v0, v1]) (k := k) (SameJ lt ld _ names m₀ n ok) rfl rfl hh F N ?_ ⟨ts, ds, kt, kd, dd, _, rfl, fun p hp => hp, ht, hd, hf, hn, hok, fun z _ => rfl⟩ ?_ ?_
  · rintro i m nx ⟨ts, ds, kt, kd, dd, X', rfl, hX, _⟩
    exact .tail _ (.tail _ (hX _ (.head _)))
  · intro i v m₁ nx h tk I own hv hJ hno hown hio F₁ N₁
    exact same_step turn i v m₁ nx h tk I own hv hJ hno hown hio F₁ N₁
  · intro m₁ nx h tk hJ F₁ N₁
    exact same_fin done hJ F₁ N₁
theorem list_same {lt ld l : Addr} {ts ds us : List Value} {kt kd k : Nat} {X₁ : List (Addr × Obj)} {dd : List Dat} {m₀ : Str → Option Value} (names : List Str) (n : Nat) (ok : Dat → Bool) (hh : A.handled = none)
    (F : Fr h₀ env.locals s.heap m₀) (N : News h₀ env.locals s.heap ((lt, W.listOf ts.toArray kt) :: (ld, W.listOf ds.toArray kd) :: (l, W.listOf us.toArray k) :: X₁))
    (ht : DatAll ((l, W.listOf us.toArray k) :: X₁) ts dd) (hd : DatAll ((l, W.listOf us.toArray k) :: X₁) ds dd) (hf : ∀ p ∈ (l, W.listOf us.toArray k) :: X₁, @Ne Nat p.1 lt ∧ @Ne Nat p.1 ld) (hn : dd.length = n) (hok : ∀ d ∈ dd, ok d = true)
    (turn : SameTurn prog w A E s env h₀ x body names m₀ ok n lt ld ((l, W.listOf us.toArray k) :: X₁) (fun i v => us[i]? = some v))
    (done : SameDone s env h₀ names m₀ ok (n + us.length) lt ld ((l, W.listOf us.toArray k) :: X₁) Q) :
    wpAny (model prog w) A (pyIter (.ref l)) (fun it s₂ => LoopAtV prog w A h₀ env x body Q E it s₂) E s := by
  refine list_loopM (vs := us) (k := k) (SameJ lt ld _ names m₀ n ok) hh F N ?_ ⟨ts, ds, kt, kd, dd, _, rfl, fun p hp => hp, ht, hd, hf, hn, hok, fun z _ => rfl⟩ ?_ ?_
  · rintro i m nx ⟨ts, ds, kt, kd, dd, X', rfl, hX, _⟩
    exact .tail _ (.tail _ (hX _ (.head _)))
  · intro i v m₁ nx h tk I own hv hJ hno hown hio F₁ N₁
    exact same_step turn i v m₁ nx h tk I own hv hJ hno hown hio F₁ N₁
  · intro m₁ nx h tk hJ F₁ N₁
    exact same_fin done hJ F₁ N₁
end
theorem t_fresh {lt ld I : Addr} {o1 o2 oI : Obj} {R tl : List (Addr × Obj)} (o : ∀ q ∈ (lt, o1) :: (ld, o2) :: R, ∀ p ∈ tl, q.1 < p.1) (hI : (I, oI) ∈ R) : ∀ p ∈ tl, @Ne Nat p.1 lt ∧ @Ne Nat p.1 ld ∧ @Ne Nat p.1 I := fun p hp =>
  ⟨Nat.ne_of_gt (o _ (.head _) p hp), Nat.ne_of_gt (o _ (.tail _ (.head _)) p hp), Nat.ne_of_gt (o _ (.tail _ (.tail _ hI)) p hp)⟩
theorem last_eq {prog : Program} {w : World} {A : Around} {E : Value → Shared → Prop} {s : Shared} {h₀ : Heap} {L lt ld : Addr} {X : List (Addr × Obj)} {ts ds : List Value} {kt kd : Nat} {dd : List Dat} {Q : Value → Shared → Prop} (N : News h₀ L s.heap ((lt, W.listOf ts.toArray kt) :: (ld, W.listOf ds.toArray kd) :: X)) (h1 : DatAll X ts dd) (h2 : DatAll X ds dd) (hok : ∀ d ∈ dd, okD 2 d = true) (hu : A.units + 64 < cLine)
    (h : Q (.bool true) s) : wpAny (model prog w) A (compareOp .Eq (.ref lt) (.ref ld)) Q E s :=
  same_eq 3 N (.list (.head _) (h1.mono fun p hp => .tail _ (.tail _ hp))) (.list (.tail _ (.head _)) (h2.mono fun p hp => .tail _ (.tail _ hp))) (by show dd.all (okD 2) = true; exact List.all_eq_true.mpr hok) (by decide) hu h
end Mine
end
section
open PySem PySem.W PyProof.Rows PySem.Calls PySem.Spec
namespace Mine
theorem dig_taken {i j : Nat} {X : List Nat} (h : 16 * hexV i + hexV j = cks (S (head6 ++ X))) : digD i j X = takenD X := if_pos h
theorem dig_sum {i j : Nat} {X : List Nat} (h : ¬ 16 * hexV i + hexV j = cks (S (head6 ++ X))) : digD i j X = sumD := if_neg h
def Ones (vs : List Value) (cs : List Nat) : Prop := vs.length = cs.length ∧ ∀ (i : Nat) (v : Value), vs[i]? = some v → ∃ (c : Nat) (t : Tok), cs[i]? = some c ∧ v = Value.str ⟨#[c]⟩ t
theorem Ones.strs : ∀ {vs : List Value} {cs : List Nat}, Ones vs cs → StrsAre vs (cs.map fun c => S [c])
  | [], [], _ => .nil
  | [], _ :: _, h => absurd h.1 (by simp)
  | _ :: _, [], h => absurd h.1 (by simp)
  | v :: vs, c :: cs, h => by
    obtain ⟨d, t, hd, e⟩ := h.2 0 v rfl
    have hd' : c = d := Option.some.inj hd
    subst hd'
    subst e
    exact .cons _ _ (Ones.strs ⟨Nat.succ.inj h.1, fun i v hv => h.2 (i + 1) v hv⟩)
theorem Ones.set {vs : List Value} {cs : List Nat} (h : Ones vs cs) (p c : Nat) (t : Tok) : Ones (vs.set p (.str ⟨#[c]⟩ t)) (cs.set p c) := by
  refine ⟨by rw [List.length_set, List.length_set]; exact h.1, fun i v hv => ?_⟩
  rw [List.getElem?_set] at hv
  by_cases e : p = i
  · rw [if_pos e] at hv
    split at hv
    · rename_i hl
      refine ⟨c, t, ?_, (Option.some.inj hv).symm⟩
      have hl' : p < cs.length := h.1 ▸ hl
      rw [← e]
      simp [hl']
    · cases hv
  · rw [if_neg e] at hv
    obtain ⟨d, u, hd, e'⟩ := h.2 i v hv
    exact ⟨d, u, by rw [List.getElem?_set_ne e]; exact hd, e'⟩
section
variable {prog : Program} {w : World} {A : Around} {E : Value → Shared → Prop} {s : Shared} {h₀ : Heap} {L D : Addr} {m : Str → Option Value} {news rest : List (Addr × Obj)} {vs : List Value} {n : Nat} {cs : List Nat}
theorem m_listStr {x : Str} {t : Tok} {Q : Value → Shared → Prop} (hh : A.handled = none) (F : Fr h₀ L s.heap m) (N : News h₀ L s.heap news) (hx : x.cps.size ≤ sizeLine)
    (h : ∀ D vs k h' tk, Fr h₀ L h' m → News h₀ L h' ((D, W.listOf vs.toArray k) :: news) → (∀ q ∈ news, q.1 < D) → Ones vs x.cps.toList → Q (.ref D) { s with heap := h', toks := tk }) : wpAny (model prog w) A (call (.type "list") [.str x t]) Q E s :=
  call_list_str hh x t (hn := hx) fun h' tk acc' c' hk hS' hacc => h s.heap.objs.size acc'.toList c' h' tk (F.keeps hk) (news_pushed F N hk (by simpa using hS') rfl) (fun q hq => Heap.lt_size (N q hq).1) ⟨by simpa using hacc.1, fun i v hv => by
    obtain ⟨c, u, hc, e⟩ := hacc.2 i v (by simpa using hv)
    exact ⟨c, u, by simpa using hc, e⟩⟩
theorem m_truthyL {Q : Bool → Shared → Prop} (N : News h₀ L s.heap news) (hm : (D, W.listOf vs.toArray n) ∈ news) (hO : Ones vs cs) (hc : 0 < cs.length) (hc2 : cs.length ≤ 1000) (h : Q true { s with toks := s.toks + 1 + 1 }) : wpAny (model prog w) A (truthy (.ref D)) Q E s :=
  wpAny_truthy_list (PySem.IsL.isList (n := n) (N _ hm).1) (by rw [List.size_toArray, hO.1]; omega) (by
    have e : (!vs.toArray.isEmpty) = true := by
      cases vs with
      | nil => exact absurd hO.1 (by simp; omega)
      | cons v vs => rfl
    rw [e]; exact h)
theorem m_truthyN {Q : Bool → Shared → Prop} (N : News h₀ L s.heap news) (hm : (D, W.listOf vs.toArray n) ∈ news) (hO : Ones vs []) (h : Q false { s with toks := s.toks + 1 + 1 }) : wpAny (model prog w) A (truthy (.ref D)) Q E s :=
  wpAny_truthy_list (PySem.IsL.isList (n := n) (N _ hm).1) (by rw [List.size_toArray, hO.1]; decide) (by
    have e : (!vs.toArray.isEmpty) = false := by
      cases vs with
      | nil => rfl
      | cons v vs => exact absurd hO.1 (by simp)
    rw [e]; exact h)
theorem m_lenL {Q : Value → Shared → Prop} (N : News h₀ L s.heap news) (hm : (D, W.listOf vs.toArray n) ∈ news) (hO : Ones vs cs) (hc2 : cs.length ≤ 1000) (h : Q (.int (cs.length : Nat) (s.toks + 1)) { s with toks := s.toks + 1 + 1 }) : wpAny (model prog w) A (call (.builtin "len") [.ref D]) Q E s :=
  PySem.Calls.call_len_list (PySem.IsL.isList (n := n) (N _ hm).1) (by rw [List.size_toArray, hO.1]; omega) (by rw [List.size_toArray, hO.1]; exact h)
theorem m_getL {value slice : Expr} {t : Tok} {p : Nat} {Q : Value → Shared → Prop} (N : News h₀ L s.heap news) (hm : (D, W.listOf vs.toArray n) ∈ news) (hO : Ones vs cs) (hp : p < cs.length) (hc2 : cs.length ≤ 1000) (h : ∀ t', Q (.str ⟨#[cs.getD p 0]⟩ t') s)
    (hs : subscripted slice false (.ref D) (.int (p : Int) t) = operate [.ref D, .int (p : Int) t] (getItem (.ref D) (.int (p : Int) t))) : wpAny (model prog w) A (subscriptTail value slice (.ref D) (.int (p : Int) t)) Q E s := by
  have hp' : p < vs.length := hO.1 ▸ hp
  obtain ⟨c, u, hc, e⟩ := hO.2 p vs[p] (List.getElem?_eq_getElem hp')
  have hl := PySem.IsL.isList (n := n) (N _ hm).1
  have hcd : cs.getD p 0 = c := by rw [List.getD_eq_getElem?_getD, hc]; rfl
  refine tail_any hl.typeIs slot_list_getitem.lookup (wpAny_getItem_list hl (by omega) (by omega) (x := .str ⟨#[c]⟩ u) ?_ (hcd ▸ h u)) hs
  have : ((p : Int)).toNat = p := rfl
  rw [this, ← e]
  simp [hp']
theorem setL_at : ∀ (l : List Value) (p : Nat) (v : Value), p < l.length → ki_setL l p v = some (l.set p v)
  | [], _, _, h => absurd h (Nat.not_lt_zero _)
  | x :: r, 0, v, _ => rfl
  | x :: r, p + 1, v, h => by
    show (match ki_setL r p v with | some q => some (x :: q) | none => none) = _
    rw [setL_at r p v (Nat.lt_of_succ_lt_succ h)]
    rfl
theorem m_setL {t : Tok} {p : Nat} {v : Value} {Q : Unit → Shared → Prop} (F : Fr h₀ L s.heap m) (N : News h₀ L s.heap ((D, W.listOf vs.toArray n) :: rest)) (off : ∀ p ∈ rest, p.1 ≠ D) (hO : Ones vs cs) (hp : p < cs.length) (hc2 : cs.length ≤ 1000)
    (h : ∀ h', Fr h₀ L h' m → News h₀ L h' ((D, W.listOf (vs.set p v).toArray n) :: rest) → Q () { s with heap := h' }) : wpAny (model prog w) A (setItem (.ref D) (.int (p : Int) t) v) Q E s :=
  ki_set (its := vs.toArray) (n := n) (q := vs.set p v) F N (by omega) (by omega) (setL_at vs p v (hO.1 ▸ hp)) (.head off) h
end
def FlipEnd (h₀ : Heap) (L Dg : Addr) (names : List Str) (m₀ : Str → Option Value) (cs : List Nat) (R : List (Addr × Obj)) (s₁ s₂ : Shared) : Prop :=
  ∃ h' tk m' vs k, s₂ = { s₁ with heap := h', toks := tk } ∧ Fr h₀ L h' m' ∧ News h₀ L h' ((Dg, W.listOf vs.toArray k) :: R) ∧ Ones vs cs ∧ ∀ z, z ∉ names → m' z = m₀ z
def FlipPost (h₀ : Heap) (L Dg : Addr) (names : List Str) (m₀ : Str → Option Value) (cs : List Nat) (R : List (Addr × Obj)) (s₁ : Shared) (f : Flow) (s₂ : Shared) : Prop :=
  match f with
  | .next => FlipEnd h₀ L Dg names m₀ cs R s₁ s₂
  | .cont => FlipEnd h₀ L Dg names m₀ cs R s₁ s₂
  | _ => False
theorem flip_next {h₀ h' : Heap} {L Dg : Addr} {names : List Str} {m₀ m' : Str → Option Value} {cs : List Nat} {R : List (Addr × Obj)} {s₁ : Shared} {tk : Nat} {vs : List Value} {k : Nat} (F : Fr h₀ L h' m') (N : News h₀ L h' ((Dg, W.listOf vs.toArray k) :: R)) (hO : Ones vs cs) (hm : ∀ z, z ∉ names → m' z = m₀ z) : FlipPost h₀ L Dg names m₀ cs R s₁ .next { s₁ with heap := h', toks := tk } := ⟨h', tk, m', vs, k, rfl, F, N, hO, hm⟩
theorem tup_flip {prog : Program} {w : World} {A : Around} {E : Value → Shared → Prop} {s : Shared} {env : Env} {h₀ : Heap} {x : Str} {body : List Stmt} {Q : Flow → Shared → Prop} {Dg D : Addr} {vs : List Value} {k kt : Nat} {v0 v1 : Value} {R : List (Addr × Obj)} {m₀ : Str → Option Value} (names : List Str) (cs : Nat → List Nat) (hh : A.handled = none) (F : Fr h₀ env.locals s.heap m₀)
    (N : News h₀ env.locals s.heap ((Dg, W.listOf vs.toArray k) :: (D, { cls := .type "tuple", data := .seq [v0, v1].toArray kt }) :: R)) (hO : Ones vs (cs 0)) (hne : ∀ p ∈ (D, ({ cls := .type "tuple", data := .seq [v0, v1].toArray kt } : Obj)) :: R, @Ne Nat p.1 Dg)
    (turn : ∀ i v m₁ vs k h tk R', [v0, v1][i]? = some v → Ones vs (cs i) → (∀ p ∈ R', @Ne Nat p.1 Dg) → Fr h₀ env.locals h (fun y => if y = x then some v else overlay names m₁ m₀ y) → News h₀ env.locals h ((Dg, W.listOf vs.toArray k) :: R') →
      wpAny (model prog w) A (execs body env) (FlipPost h₀ env.locals Dg names m₀ (cs (i + 1)) R' { s with heap := h, toks := tk }) E { s with heap := h, toks := tk })
    (done : ∀ m₁ vs k h tk, Ones vs (cs 2) → Fr h₀ env.locals h (overlay names m₁ m₀) → News h₀ env.locals h ((Dg, W.listOf vs.toArray k) :: R) → Q .next { s with heap := h, toks := tk }) :
    wpAny (model prog w) A (pyIter (.ref D)) (fun it s₂ => LoopAtV prog w A h₀ env x body Q E it s₂) E s := by
  refine tup_loop (ol := { cls := .type "tuple", data := .seq [v0, v1].toArray kt }) (vs := [v0, v1]) (k := kt) (fun i m nx => ∃ vs k, nx = (Dg, W.listOf vs.toArray k) :: (D, { cls := .type "tuple", data := .seq [v0, v1].toArray kt }) :: R ∧ Ones vs (cs i) ∧ ∀ z, z ∉ names → m z = m₀ z) rfl rfl hh F N ?_ ⟨vs, k, rfl, hO, fun z _ => rfl⟩ ?_ ?_
  · rintro i m nx ⟨vs, k, rfl, _⟩
    exact .tail _ (.head _)
  · rintro i v m₁ nx h tk I own hv ⟨vs, k, rfl, hO, hm⟩ hno hown _ F₁ N₁
    have hIg : @Ne Nat Dg I := hno (Dg, W.listOf vs.toArray k) (.head _)
    refine wpAny_mono (turn i v m₁ vs k h tk ((D, { cls := .type "tuple", data := .seq [v0, v1].toArray kt }) :: R ++ own) hv hO (fun p hp => ?_) (over_frx names hm F₁) (fun p hp => N₁ p ?_)) (fun f s₂ hp => ?_) fun _ _ e => e
    · rcases List.mem_append.mp hp with hp | hp
      · exact hne p hp
      · rw [hown p hp]; exact hIg.symm
    · rcases List.mem_cons.mp hp with rfl | hp
      · exact List.mem_append.mpr (.inr (.head _))
      · rcases List.mem_append.mp hp with hp | hp
        · exact List.mem_append.mpr (.inr (.tail _ hp))
        · exact List.mem_append.mpr (.inl hp)
    · have fin : FlipEnd h₀ env.locals Dg names m₀ (cs (i + 1)) ((D, { cls := .type "tuple", data := .seq [v0, v1].toArray kt }) :: R ++ own) { s with heap := h, toks := tk } s₂ → LEnd h₀ env.locals I own (fun m nx => ∃ vs k, nx = (Dg, W.listOf vs.toArray k) :: (D, { cls := .type "tuple", data := .seq [v0, v1].toArray kt }) :: R ∧ Ones vs (cs (i + 1)) ∧ ∀ z, z ∉ names → m z = m₀ z) { s with heap := h, toks := tk } s₂ := by
        rintro ⟨h', tk', m', vs', k', e, F', N', hO', hm'⟩
        refine ⟨h', tk', m', (Dg, W.listOf vs'.toArray k') :: (D, { cls := .type "tuple", data := .seq [v0, v1].toArray kt }) :: R, e, F', fun p hp => N' p ?_, fun p hp => ?_, vs', k', rfl, hO', hm'⟩
        · rcases List.mem_append.mp hp with hp | hp
          · exact .tail _ (List.mem_append.mpr (.inr hp))
          · rcases List.mem_cons.mp hp with rfl | hp
            · exact .head _
            · exact .tail _ (List.mem_append.mpr (.inl hp))
        · rcases List.mem_cons.mp hp with rfl | hp
          · exact hIg
          · exact hno p (.tail _ hp)
      cases f with
      | next => exact fin hp
      | cont => exact fin hp
      | brk => exact hp.elim
      | ret v => exact hp.elim
  · rintro m₁ nx h tk ⟨vs, k, rfl, hO, hm⟩ F₁ N₁
    exact done m₁ vs k h tk hO (over_fr names hm F₁) (fun p hp => N₁ p (by
      rcases List.mem_cons.mp hp with rfl | hp
      · exact .head _
      · exact .tail _ (.tail _ hp)))
theorem mod3 (n : Int) : ∃ b : Nat, b < 4 ∧ 1 + n.fmod 3 = (b : Int) := by
  have h1 := Int.fmod_lt_of_pos n (show (0 : Int) < 3 by decide)
  have h2 := Int.fmod_nonneg_of_pos n (show (0 : Int) < 3 by decide)
  exact ⟨(1 + n.fmod 3).toNat, by omega, by omega⟩
theorem line_flip (Y : List Nat) (a b : Nat) : Str.ofString "$GPTXT," ++ S Y ++ Str.ofString "*" ++ S [a, b] = S (36 :: (head6 ++ Y ++ [42, a, b])) := by
  rw [show Str.ofString "$GPTXT," = S (36 :: head6) from by decide +kernel, str_star, S_app, S_app, S_app]
  simp
theorem flip_cks (X : List Nat) (p q b : Nat) (hp : p < X.length) (hq : q < X.length) : cks (S (head6 ++ flipL (flipL X p b) q b)) = cks (S (head6 ++ X)) := by
  show nfold (head6 ++ flipL (flipL X p b) q b) 0 = nfold (head6 ++ X) 0
  rw [nfold_app, nfold_app, flip_sum X p q b hp hq]
theorem news_fin {h₀ h : Heap} {L : Addr} {l lt ld g : Addr × Obj} {t6 tl R : List (Addr × Obj)} (N : News h₀ L h (l :: lt :: ld :: (t6 ++ (tl ++ g :: R)))) : News h₀ L h (lt :: ld :: ((l :: (t6 ++ tl)) ++ R)) := fun p hp => N p (by
  rcases List.mem_cons.mp hp with rfl | hp
  · exact .tail _ (.head _)
  · rcases List.mem_cons.mp hp with rfl | hp
    · exact .tail _ (.tail _ (.head _))
    · rcases List.mem_append.mp hp with hp | hp
      · rcases List.mem_cons.mp hp with rfl | hp
        · exact .head _
        · rcases List.mem_append.mp hp with hp | hp
          · exact .tail _ (.tail _ (.tail _ (List.mem_append.mpr (.inl hp))))
          · exact .tail _ (.tail _ (.tail _ (List.mem_append.mpr (.inr (List.mem_append.mpr (.inl hp))))))
      · exact .tail _ (.tail _ (.tail _ (List.mem_append.mpr (.inr (List.mem_append.mpr (.inr (.tail _ hp))))))))
theorem fin_fresh {lt ld I l : Addr} {o o1 o2 o3 o4 oI : Obj} {g : Addr × Obj} {R t6 tl : List (Addr × Obj)} (h4 : ∀ q ∈ (lt, o1) :: (ld, o2) :: g :: R, ∀ p ∈ tl, q.1 < p.1) (h6 : ∀ q ∈ (lt, o3) :: (ld, o4) :: (tl ++ g :: R), ∀ p ∈ t6, q.1 < p.1) (h : lt < l ∧ ld < l ∧ AllLt l (t6 ++ (tl ++ g :: R))) (hI : (I, oI) ∈ R) : ∀ p ∈ (l, o) :: (t6 ++ tl), @Ne Nat p.1 lt ∧ @Ne Nat p.1 ld ∧ @Ne Nat p.1 I := fun p hp => by
  rcases List.mem_cons.mp hp with rfl | hp
  · exact ⟨Nat.ne_of_gt h.1, Nat.ne_of_gt h.2.1, Nat.ne_of_gt (allLt_all h.2.2 _ (List.mem_append.mpr (.inr (List.mem_append.mpr (.inr (.tail _ hI))))))⟩
  · rcases List.mem_append.mp hp with hp | hp
    · exact ⟨Nat.ne_of_gt (h6 _ (.head _) p hp), Nat.ne_of_gt (h6 _ (.tail _ (.head _)) p hp), Nat.ne_of_gt (h6 _ (.tail _ (.tail _ (List.mem_append.mpr (.inr (.tail _ hI))))) p hp)⟩
    · exact ⟨Nat.ne_of_gt (h4 _ (.head _) p hp), Nat.ne_of_gt (h4 _ (.tail _ (.head _)) p hp), Nat.ne_of_gt (h4 _ (.tail _ (.tail _ (.tail _ hI))) p hp)⟩
theorem fin_dat {Y : List Nat} {l : Addr} {u : Tok} {r : Value} {n : Nat} {t6 tl X : List (Addr × Obj)} (e : DatIn t6 r (.list ((cutD Y).map .str))) : DatIn (((l, W.listOf [Value.str (Str.ofString "taken") u, .bool true, r].toArray n) :: (t6 ++ tl)) ++ X) (.ref l) (takenD Y) :=
  .list (.head _) (.cons (.str _ _) (.cons (.bool _) (.cons (e.mono fun p hp => .tail _ (List.mem_append.mpr (.inl (List.mem_append.mpr (.inl hp))))) .nil)))
theorem off_g {D g : Addr} {o : Obj} {R : List (Addr × Obj)} (h : @Ne Nat g D) (hR : ∀ p ∈ R, @Ne Nat p.1 D) : ∀ p ∈ (g, o) :: R, @Ne Nat p.1 D := fun p hp => by
  rcases List.mem_cons.mp hp with rfl | hp
  · exact h
  · exact hR p hp
theorem off_new {D g : Addr} {o : Obj} {news : List (Addr × Obj)} (h : @LT.lt Nat _ g D) (hn : ∀ q ∈ news, q.1 < g) : ∀ p ∈ (D, o) :: news, @Ne Nat p.1 g := fun p hp => by
  rcases List.mem_cons.mp hp with rfl | hp
  · exact Nat.ne_of_gt h
  · exact Nat.ne_of_lt (hn p hp)
theorem sumfit {Y : List Nat} (h : (S Y).length ≤ 20) : ((Y.map fun c => S [c]).map (·.length)).sum + (Y.map fun c => S [c]).length ≤ 1048576 := by
  rw [ones_sum, List.length_map]
  rw [S_len] at h
  omega
theorem getD_lt {l : List Nat} {p : Nat} (h : ∀ c ∈ l, c < 128) (hp : p < l.length) : l.getD p 0 < 128 := by
  rw [List.getD_eq_getElem?_getD, List.getElem?_eq_getElem hp]
  exact h _ (List.getElem_mem hp)
theorem flip_lt {l : List Nat} {p b : Nat} (h : ∀ c ∈ l, c < 128) (hp : p < l.length) (hb : b < 128) : ∀ c ∈ flipL l p b, c < 128 := fun c hc => by
  rcases List.mem_or_eq_of_mem_set hc with h1 | h1
  · exact h c h1
  · rw [h1]; exact xor_lt128 (getD_lt h hp) hb
end Mine
end
section
open PySem PySem.W PyProof.Rows PySem.Calls PySem.Spec
namespace Mine
local macro_rules | `(tactic| walk_at "call ref") => `(tactic| (k_here; (with_reducible show wpAny _ _ (call (Value.ref 269) _) _ _ _); refine stop_here ?_))
local macro_rules | `(tactic| walk_at "eval ListComp") => `(tactic| (k_here; k_dflt (refine LCg.ListComp_U (F₀ := by k_asm) (by with_unfolding_all rfl) (by decide) (by rfl) (by decide) (by rfl) ?_)))
local macro_rules | `(tactic| walk_at "CompSrc") => `(tactic| (k_here; k_dflt (refine LCg.CompSrc.ledger (by rfl) (by k_asm) (by k_asm) (by k_mem) (by k_extra "src size") ?_); intro g'))
local macro_rules | `(tactic| walk_at "call builtin:str.join") => `(tactic| (k_here; k_dflt (refine' m_join ?N ?m ?i ?s ?w ?z ?_; (case N => k_asm); (case m => k_mem); (case i => k_extra "join strs"); (case s => exact Nat.le_of_ble_eq_true rfl); (case w => k_extra "join room"); (case z => k_extra "join is")); intro t' k'))
local macro_rules | `(tactic| walk_at "m_use0") => `(tactic| ((case B => k_asm); (case F => k_asm); (case X => k_asm); (case N => k_asm); (case T => k_asm); (case K => first | exact rfl | assumption); (case d => ktr_room); (case u => ktr_units); k_whole))
local macro_rules | `(tactic| walk_at "m_useL") => `(tactic| ((case B => k_asm); (case F => k_asm); (case X => k_asm); (case N => k_asm); (case T => k_asm); (case K => exact rfl); k_whole))
local macro_rules | `(tactic| walk_at "call ref") => `(tactic| (k_here; (with_reducible show wpAny _ _ (call (Value.ref 276) _) _ _ _); k_dflt (refine' (sum_tell _ _ _ _).use0 ?B ?F ?X ?N ?T ?K ?d ?u ?_; (walk_at "m_use0")); intro r' h' tk' e' F' N'; obtain ⟨t', e'⟩ := e'; subst e'))
local macro_rules | `(tactic| walk_at "call ref") => `(tactic| (k_here; (with_reducible show wpAny _ _ (call (Value.ref 297) _) _ _ _); k_dflt (refine' (flip_tell _ _ _ _ ?hc ?hb _ _).use0 ?B ?F ?X ?N ?T ?K ?d ?u ?_; (walk_at "m_use0"); (case hc => k_extra "flip c"); (case hb => k_extra "flip b")); intro r' h' tk' e' F' N'; obtain ⟨t', e'⟩ := e'; subst e'))
local macro_rules | `(tactic| walk_at "call ref") => `(tactic| (k_here; (with_reducible show wpAny _ _ (call (Value.ref 113) _) _ _ _); k_dflt (refine' (chk_tell' _ _ _ _ ?ha).use0 ?B ?F ?X ?N ?T ?K ?d ?u ?_; (walk_at "m_use0"); (case ha => k_extra "chk ascii")); intro r' h' tk' e' F' N'; obtain ⟨t', e'⟩ := e'; subst e'))
local macro_rules | `(tactic| walk_at "call ref") => `(tactic| (k_here; (with_reducible show wpAny _ _ (call (Value.ref 283) _) _ _ _); k_dflt (refine' (cut_str _ _ _ _ ?hx).use ?B ?F ?X ?N ?T ?K ?_; (walk_at "m_useL"); (case hx => k_extra "cut len")); intro r' tl' h' tk' F' N' o' e'))
local macro_rules | `(tactic| walk_at "subscriptTail Name Name str int") => `(tactic| (k_here; k_dflt (refine' m_strItem ?h0 ?hc ?_ ?hs ?ht; (case h0 => k_extra "idx pos"); (case hc => k_extra "idx"); (case hs => with_unfolding_all rfl); (case ht => intro _; with_unfolding_all rfl)); intro t'))
local macro_rules | `(tactic| walk_at "storeName") => `(tactic| (k_here; k_extra "m rw"))
local macro_rules | `(tactic| walk_at "exec For Name Tuple cons nil") => `(tactic| (k_here; (rename Fr _ _ _ _ => lF'); (with_unfolding_all refine' For_invVF lF' ?k1 ?k2 ?_; (case k1 => exact rfl); (case k2 => exact rfl); k_whole)))
local macro_rules | `(tactic| walk_at "exec For Name Call cons nil") => `(tactic| (k_here; (rename Fr _ _ _ _ => lF'); (with_unfolding_all refine' For_invVF lF' ?k1 ?k2 ?_; (case k1 => exact rfl); (case k2 => exact rfl); k_whole)))
local macro_rules | `(tactic| walk_at "call builtin:list.append") => `(tactic| (k_here; k_dflt (first | (refine' m_push1 ?F ?N ?oa ?o ?z ?_; (case F => k_asm); (case N => k_asm); (case oa => k_extra "offa"); (case o => k_extra "off"); (case z => k_extra "fits")) | (refine' m_push2 ?F ?N ?oa ?o ?z ?_; (case F => k_asm); (case N => k_asm); (case oa => k_extra "offa"); (case o => k_extra "off"); (case z => k_extra "fits")) | (refine' m_push3 ?F ?N ?oa ?ob ?o ?z ?_; (case F => k_asm); (case N => k_asm); (case oa => exact ne_l1 (by assumption)); (case ob => k_extra "offa"); (case o => k_extra "off"); (case z => k_extra "fits")) | (refine' m_push4 ?F ?N ?oa ?ob ?oc ?o ?z ?_; (case F => k_asm); (case N => k_asm); (case oa => exact ne_l2 (by assumption)); (case ob => exact ne_l1 (by assumption)); (case oc => k_extra "offa"); (case o => k_extra "off"); (case z => k_extra "fits"))); intro h' F' N'))
local macro_rules | `(tactic| walk_at "truthy") => `(tactic| (k_here; k_extra "m rw"))
local macro_rules | `(tactic| walk_at "ite") => `(tactic| (k_here; k_extra "m rw"))
local macro_rules | `(tactic| walk_at "call ref") => `(tactic| (k_here; (with_reducible show wpAny _ _ (call (Value.ref 290) _) _ _ _); refine stop_here ?_))
local macro_rules | `(tactic| walk_at "pyIter ref") => `(tactic| ((with_reducible show wpAny _ _ (pyIter (Value.ref _)) (fun it s₂ => LoopAtV _ _ _ _ _ _ _ _ _ it s₂) _ _); refine stop_here ?_))
local macro_rules | `(tactic| walk_at "compareOp Eq ref ref") => `(tactic| ((with_reducible show wpAny _ _ (compareOp _ (Value.ref _) (Value.ref _)) _ _ _); refine stop_here ?_))
local macro_rules | `(tactic| walk_at "m_steps") => `(tactic| repeat' (first | (k_unfold; (try dsimp only)) | (k_end; wrow_close) | (walk1; (all_goals (try dsimp only))) | (leave1; (try dsimp only)) | fail "no step"))
local macro_rules | `(tactic| walk_at "call type:list") => `(tactic| ((with_reducible show wpAny _ _ (call (Value.type _) [Value.str _ _]) _ _ _); refine stop_here ?_))
local macro_rules | `(tactic| walk_at "truthy ref") => `(tactic| (refine stop_here ?_))
local macro_rules | `(tactic| walk_at "call ref") => `(tactic| (k_here; (with_reducible show wpAny _ _ (call (Value.ref 283) [Value.ref _]) _ _ _); refine stop_here ?_))
local macro_rules | `(tactic| walk_at "call builtin:len") => `(tactic| (k_here; (with_reducible show wpAny _ _ (call (Value.builtin _) [Value.ref _]) _ _ _); k_dflt (refine' m_lenL ?N ?m ?O ?z ?_; (case N => k_asm); (case m => k_mem); (case O => assumption); (case z => k_extra "ones fit"))))
local macro_rules | `(tactic| walk_at "subscriptTail Name Name ref int") => `(tactic| (k_here; k_dflt (refine' m_getL ?N ?m ?O ?p ?z ?_ ?hs; (case N => k_asm); (case m => k_mem); (case O => assumption); (case p => k_extra "ones at"); (case z => k_extra "ones fit"); (case hs => with_unfolding_all rfl)); intro t'))
local macro_rules | `(tactic| walk_at "setItem ref int") => `(tactic| (k_here; k_dflt (refine' m_setL ?F ?N ?o ?O ?p ?z ?_; (case F => k_asm); (case N => k_asm); (case o => k_extra "ones off"); (case O => assumption); (case p => k_extra "ones at"); (case z => k_extra "ones fit")); intro h' F' N'))
theorem body : PySem.Challenge.rw_ez0281_01.Holds := hd (by
  k_go0
  all_goals try k_fold
  rename IntsAre _ _ => hI
  rename ¬ _ < _ => hlen
  have hN63 := le63 hlen
  rename List Int => ns
  k_with_none
  k_with "src size" => exact src_fits (by assumption)
  try k_steps
  unfold Stop
  refine' (each0 _ _ _ _ ns _ _ hN63 hI).use ?B ?F ?X ?N ?T ?K ?H ?_
  case B => k_asm
  case F => k_asm
  case X => k_asm
  case N => k_asm
  case T => k_asm
  case K => exact rfl
  case H => assumption
  intro r₀ tl₀ h₁ tk₁ F₀ N₀ o₀ e₀
  obtain ⟨l₀, us₀, k₀, e₁, e₂, hus⟩ := e₀
  subst e₁
  subst e₂
  simp only [List.cons_append, List.nil_append] at N₀
  try k_steps
  refine kct_list (fun k => sgn k) hus ?_ ?_
  · intro k t I oI C oC D m₂ ys h tk E' hk hC hx F N off ne mk
    clear mk
    try k_steps
    exact LCg.CompEnd.intro (by k_asm) (by k_asm) _ (fun p hp => hp) off (.inr ⟨_, .head _, rfl, _, rfl⟩) (kct_el rfl rfl rfl)
  · unfold KPfDone
    intro ys hy hl
    have hsy : StrsAre ys ((evens ns).map sgn) := StrsAre.of_carried (by rw [List.map_map]; exact hy)
    clear hl hy
    generalize hX : tx ns = X
    have hXl : (S X).length ≤ 20 := hX ▸ tx_len ns
    have hXm : ∀ c ∈ X, c ∈ menuC := hX ▸ tx_menu ns
    have hXlt := menu_lt hXm
    have hXok : ∀ c ∈ X, c < 128 ∧ c ≠ 42 := fun c hc => menu_ok c (hXm c hc)
    have hBlt := body_lt hXlt
    have hT := cks_lt hBlt
    have hBl : 6 ≤ (S (head6 ++ X)).length ∧ (S (head6 ++ X)).length ≤ 26 := by rw [S_len] at hXl ⊢; rw [List.length_append]; show 6 ≤ 6 + _ ∧ 6 + _ ≤ 26; omega
    have hGl : (S [hexDigs.getD (cks (S (head6 ++ X)) / 16) 0, hexDigs.getD (cks (S (head6 ++ X)) % 16) 0]).length = 2 := rfl
    k_with "join strs" => exact hsy
    k_with "join room" => exact sgn_sum ns
    k_with "join is" => exact (join_tx ns).trans (congrArg S hX)
    k_with "m rw" => first | rw [gpt_app] | rw [great_eq hT]
    k_with "idx pos" => first | exact ⟨(hi_pos (by omega)).1, (hi_pos (by omega)).2.1⟩ | exact ⟨lo_pos.1, lo_pos.2.1⟩
    k_with "idx" => first | exact dig_hi hT | exact dig_lo
    k_with "cut len" => exact Nat.le_trans hXl (by decide)
    k_with "chk ascii" => first | exact all_lt hBlt | exact all_lt hXlt | exact all_lt2 hXlt hBlt | exact all_gpt | exact all_nil
    try k_steps
    rename Fr _ _ _ _ => lF
    rename News _ _ _ (_ :: _) => lN
    rename DatIn _ _ (Dat.list _) => hcut
    rename _ < _ ∧ AllLt _ _ => lb
    rename _ < _ ∧ _ < _ ∧ AllLt _ _ => lc
    rename _ < _ ∧ _ < _ ∧ _ < _ ∧ AllLt _ _ => ld
    have N₂ := news_rot lN
    unfold Stop
    refine tup_same [Str.ofString "line"] 5 (okD 2) (dd := [.int (cks (S (head6 ++ X))), .int (cks (S X)), .int 99, .int 99, .int 0]) rfl lF N₂ (.cons (.int _ _) (.cons (.int _ _) (.cons (int_is (by rw [cks_gpt]; rfl)) (.cons (int_is (by rw [cks_both]; rfl)) (.cons (int_is (by rw [cks_nil]; rfl)) .nil))))) (.cons (.int _ _) (.cons (.int _ _) (.cons (.int _ _) (.cons (.int _ _) (.cons (.int _ _) .nil))))) (fresh4 lb lc ld) rfl ?hok ?turn ?done
    case hok =>
      intro d hd
      simp only [List.mem_cons, List.not_mem_nil, or_false] at hd
      rcases hd with rfl | rfl | rfl | rfl | rfl <;> rfl
    case turn =>
      intro i v m₁ ts ds kt kd dd X' h tk I own oI hv hX htl hdl hoT hoD hio hdt hdd F₂ N₃
      simp only [overlay] at F₂
      have hne1 := Nat.ne_of_lt lc.1
      have hne2 := Nat.ne_of_gt lc.1
      have hi2 : i < 2 := by simpa using (List.getElem?_eq_some_iff.mp hv).1
      have hft : ts.length ≤ sizeLine := by rw [sizeLine_eq]; omega
      have hfd : ds.length ≤ sizeLine := by rw [sizeLine_eq]; omega
      clear lF lN N₂
      rcases i with _ | _ | i
      · have hv := Option.some.inj hv
        subst hv
        k_with "offa" => first | exact hne1 | exact hne2
        k_with "fits" => first | exact hft | exact hfd
        k_with "off" => first | exact off_app (by assumption) (.head _) hoT | exact off_app (by assumption) (.tail _ (.head _)) hoD
        try k_steps
        unfold Stop
        refine' TellL.useE (told_ok _ _ _ X _ _ (great_i hT) (great_j hT) hXl hXok (great_val hT)) (line_is _ _ _) ?B ?F ?X ?N ?T ?K ?_
        case B => k_asm
        case F => k_asm
        case X => k_asm
        case N => exact N₃
        case T => k_asm
        case K => exact rfl
        intro r tl h₃ tk₃ F₃ N₄ o₃ e₃
        have N₅ := news_mid N₄
        clear N₄
        try k_steps
        exact tend_next (by k_asm) (by k_asm) (fun z hz => by simp only [List.mem_singleton] at hz; simp only [if_neg hz]) (t_fresh o₃ hio) (e₃.mono fun p hp => List.mem_append.mpr (.inl hp)) ((taken_dat hcut).mono fun p hp => List.mem_append.mpr (.inr (hX p hp))) (ok_taken hXlt)
      · have hv := Option.some.inj hv
        subst hv
        k_with "offa" => first | exact hne1 | exact hne2
        k_with "fits" => first | exact hft | exact hfd
        k_with "off" => first | exact off_app (by assumption) (.head _) hoT | exact off_app (by assumption) (.tail _ (.head _)) hoD
        try k_steps
        unfold Stop
        refine' TellL.useE (told_low _ _ _ X _ _ (low_i hT) (low_j hT) hXl hXok (low_val hT)) (line2_is _ hT) ?B ?F ?X ?N ?T ?K ?_
        case B => k_asm
        case F => k_asm
        case X => k_asm
        case N => exact N₃
        case T => k_asm
        case K => exact rfl
        intro r tl h₃ tk₃ F₃ N₄ o₃ e₃
        have N₅ := news_mid N₄
        clear N₄
        try k_steps
        exact tend_next (by k_asm) (by k_asm) (fun z hz => by simp only [List.mem_singleton] at hz; simp only [if_neg hz]) (t_fresh o₃ hio) (e₃.mono fun p hp => List.mem_append.mpr (.inl hp)) ((taken_dat hcut).mono fun p hp => List.mem_append.mpr (.inr (hX p hp))) (ok_taken hXlt)
      · exact absurd hi2 (by omega)
    case done =>
      intro m₁ ts ds kt kd dd X₂ h tk hdl hX hfr hdt hdd hok F₁ N₁
      simp only [overlay] at F₁
      clear lF lN N₂
      try k_steps
      unfold Stop
      refine' (each1 _ _ _ _ ns _ _ hN63 hI).use ?B ?F ?X ?N ?T ?K ?H ?_
      case B => k_asm
      case F => k_asm
      case X => k_asm
      case N => exact N₁
      case T => k_asm
      case K => exact rfl
      case H => assumption
      intro r₂ tl₂ h₂ tk₂ F₂ N₂ o₂ e₂
      obtain ⟨l₂, us₂, k₂, e₁, e₃, hus₂⟩ := e₂
      subst e₁
      subst e₃
      simp only [List.cons_append, List.nil_append] at N₂
      clear N₁
      refine list_same [Str.ofString "number", Str.ofString "more", Str.ofString "place", Str.ofString "sign", Str.ofString "signs", Str.ofString "bits", Str.ofString "first", Str.ofString "last", Str.ofString "value"] 7 (okD 2) rfl F₂ (news_rot2 N₂) (hdt.mono fun p hp => .tail _ hp) (hdd.mono fun p hp => .tail _ hp) (fresh_new o₂ hfr) hdl hok ?turn ?done
      case done =>
        intro m₃ ts ds kt kd dd X₃ h tk hdl hX hfr hdt hdd hok F₁ N₁
        simp only [overlay] at F₁
        try k_steps
        unfold Stop
        refine last_eq N₁ hdt hdd hok ?hu ?_
        case hu => exact Nat.le_of_ble_eq_true rfl
        try k_steps
      case turn =>
        intro i v m₃ ts ds kt kd dd X₃ h tk I own oI hv hX₃ htl hdl hoT hoD hio hdt hdd F₃ N₃
        simp only [overlay] at F₃
        have hne1 := Nat.ne_of_lt lc.1
        have hne2 := Nat.ne_of_gt lc.1
        obtain ⟨n, t, hv2, hn⟩ := IntsAre.at hus₂ i v hv
        subst hv2
        clear N₂
        have hi10 : i < 10 := odds_lt hn
        have hft : ts.length ≤ sizeLine := by rw [sizeLine_eq]; omega
        have hfd : ds.length ≤ sizeLine := by rw [sizeLine_eq]; omega
        have hTk := (taken_dat hcut).mono fun p hp => hX₃ p (.tail _ (hX p hp))
        clear hX hfr
        k_with "offa" => first | exact hne1 | exact hne2
        k_with "fits" => first | exact hft | exact hfd
        iterate 23 (first | walk1 | (dsimp only; walk1) | skip)
        · rename _ = (0 : Int) => hmod
          obtain ⟨p, hp, hpe⟩ := place_nat (n.fdiv 3) (l := (S (head6 ++ X)).length) (by omega)
          have hcm := (sgn_eq ((n.fdiv 3).fdiv ↑(S (head6 ++ X)).length)).2
          generalize hc : cod ((n.fdiv 3).fdiv ↑(S (head6 ++ X)).length) = c at hcm
          have hcl := one_len c
          k_with "m rw" => first | rw [hpe] | rw [sgn_raw, hc]
          (try dsimp only)
          walk_at "m_steps"
          unfold Stop
          refine' TellL.useE (told_set _ _ _ X p c _ _ (great_i hT) (great_j hT) hXl hXm hp hcm (great_val hT)) (line_set _ hp _ _ _) ?B ?F ?X ?N ?T ?K ?_
          case B => k_asm
          case F => k_asm
          case X => k_asm
          case N => k_asm
          case T => k_asm
          case K => exact rfl
          intro r tl h₄ tk₄ F₄ N₄ o₄ e₄
          have N₅ := news_mid N₄
          clear N₄ hc
          have htf := t_fresh o₄ hio
          have hit := item_at (head6 ++ X) hp
          k_with "off" => first | exact off_app o₄ (.head _) hoT | exact off_app o₄ (.tail _ (.head _)) hoD
          clear F₃
          by_cases he : c = (head6 ++ X).getD p 0
          · have hb := one_eq he
            rw [set_same he] at e₄
            k_with "m rw" => rw [hit, hb]
            (try dsimp only)
            walk_at "m_steps"
            exact tend_next (by k_asm) (by k_asm) (fun z hz => by simp only [List.mem_cons, List.not_mem_nil, or_false, not_or] at hz; simp only [hz, ↓reduceIte]) htf (e₄.mono fun p hp => List.mem_append.mpr (.inl hp)) (hTk.mono fun p hp => List.mem_append.mpr (.inr hp)) (ok_taken hXlt)
          · have hb := one_ne he
            k_with "m rw" => rw [hit, hb]
            (try dsimp only)
            walk_at "m_steps"
            · rw [set_none he (.inl (by omega))] at e₄
              exact tend_next (tl := (_, _) :: tl) (by k_asm) (news_rot2 (by k_asm)) (fun z hz => by simp only [List.mem_cons, List.not_mem_nil, or_false, not_or] at hz; simp only [hz, ↓reduceIte]) (t_fresh2 htf (by assumption) hio) (e₄.mono fun p hp => List.mem_append.mpr (.inl (.tail _ hp))) (one_text _ _) ok_none
            · rw [set_sum he (fun h => h.elim (fun h => by omega) fun h => h.2 (is_good hcm (by assumption)))] at e₄
              exact tend_next (tl := (_, _) :: tl) (by k_asm) (news_4 (by k_asm)) (fun z hz => by simp only [List.mem_cons, List.not_mem_nil, or_false, not_or] at hz; simp only [hz, ↓reduceIte]) (t_fresh2 htf (And.right (by assumption)) hio) (e₄.mono fun p hp => List.mem_append.mpr (.inl (.tail _ hp))) (one_text _ _) ok_sum
            · rw [set_none he (.inr ⟨by omega, not_good hcm (by assumption)⟩)] at e₄
              exact tend_next (tl := (_, _) :: tl) (by k_asm) (news_4 (by k_asm)) (fun z hz => by simp only [List.mem_cons, List.not_mem_nil, or_false, not_or] at hz; simp only [hz, ↓reduceIte]) (t_fresh2 htf (And.right (by assumption)) hio) (e₄.mono fun p hp => List.mem_append.mpr (.inl (.tail _ hp))) (one_text _ _) ok_none
            · rw [set_sum he (by omega)] at e₄
              exact tend_next (tl := (_, _) :: tl) (by k_asm) (news_rot2 (by k_asm)) (fun z hz => by simp only [List.mem_cons, List.not_mem_nil, or_false, not_or] at hz; simp only [hz, ↓reduceIte]) (t_fresh2 htf (by assumption) hio) (e₄.mono fun p hp => List.mem_append.mpr (.inl (.tail _ hp))) (one_text _ _) ok_sum
        · rename _ ≠ (0 : Int) => hmod0
          (try dsimp only)
          iterate 12 (first | (walk1; (all_goals (try dsimp only))) | skip)
          · rename _ = (1 : Int) => hmod1
            (try dsimp only)
            walk_at "m_steps"
            unfold Stop
            refine' m_listStr ?hh ?F ?N ?z ?_
            case hh => exact rfl
            case F => k_asm
            case N => k_asm
            case z => exact Nat.le_trans hXl (by rw [sizeLine_eq]; decide)
            intro Dg vs kg h₅ tk₅ F₅ N₅ l₅ O₅'
            have O₅ : Ones vs X := O₅'
            clear O₅'
            have hXl' : X.length ≤ 20 := hXl
            have hgT0 : @Ne Nat Dg _ := Nat.ne_of_gt (l₅ _ (.head _))
            have hgD0 : @Ne Nat Dg _ := Nat.ne_of_gt (l₅ _ (.tail _ (.head _)))
            have hgT := off_g (o := W.listOf vs.toArray kg) hgT0 hoT
            have hgD := off_g (o := W.listOf vs.toArray kg) hgD0 hoD
            (try dsimp only)
            walk_at "m_steps"
            unfold Stop
            by_cases hX0 : X.length = 0
            · have O₅n : Ones vs [] := (List.eq_nil_of_length_eq_zero hX0) ▸ O₅
              refine m_truthyN (by k_asm) (by k_mem) O₅n ?_
              clear O₅n
              rename News _ _ _ ((Dg, _) :: _) => lN₆
              have N₇ := news_rot2 lN₆
              have hYl := hXl
              have hYok := hXok
              have hYs : cks (S (head6 ++ X)) = cks (S (head6 ++ X)) := rfl
              k_with "join strs" => exact O₅.strs
              k_with "join room" => exact sumfit hYl
              k_with "join is" => exact txtjoin_ones _
              (try dsimp only)
              walk_at "m_steps"
              unfold Stop
              refine' TellL.useE (told_ok _ _ _ X _ _ (great_i hT) (great_j hT) hYl hYok ((great_val hT).trans hYs.symm)) (line_flip _ _ _) ?B ?F ?X ?N ?T ?K ?_
              case B => k_asm
              case F => k_asm
              case X => k_asm
              case N => first | exact N₇ | k_asm
              case T => k_asm
              case K => exact rfl
              intro r tl h₈ tk₈ F₈ N₈ o₈ e₈
              have N₉ := news_mid N₈
              clear N₈ N₇
              k_with "off" => first | exact off_app o₈ (.head _) hgT | exact off_app o₈ (.tail _ (.head _)) hgD
              (try dsimp only)
              walk_at "m_steps"
              unfold Stop
              refine' (cut_list _ _ Dg vs _ X (.tail _ (.tail _ (List.mem_append.mpr (.inr (.head _))))) O₅.2 O₅.1 (Nat.le_trans hYl (by decide))).use ?B ?F ?X ?N ?T ?K ?_
              case B => k_asm
              case F => k_asm
              case X => k_asm
              case N => k_asm
              case T => k_asm
              case K => exact rfl
              intro r₆ t₆ h₆ tk₆ F₆ N₆ o₆ e₆
              have N₁₀ := news_mid N₆
              clear N₆
              k_with "off" => exact off_app o₆ (.tail _ (.head _)) (off_app o₈ (.tail _ (.head _)) hgD)
              (try dsimp only)
              walk_at "m_steps"
              exact tend_next (tl := (_, _) :: (t₆ ++ tl)) (by k_asm) (news_fin (by k_asm)) (fun z hz => by simp only [List.mem_cons, List.not_mem_nil, or_false, not_or] at hz; simp only [hz, ↓reduceIte]) (fin_fresh o₈ o₆ (by assumption) hio) (e₈.mono fun p hp => List.mem_append.mpr (.inl (.tail _ (List.mem_append.mpr (.inr hp))))) (fin_dat e₆) (ok_taken fun c hc => (hYok c hc).1)
            · refine m_truthyL (cs := X) (by k_asm) (by k_mem) O₅ (by omega) (by omega) ?_
              obtain ⟨b, hb4, hbe⟩ := mod3 (n.fdiv 3)
              obtain ⟨p, hp, hpe⟩ := place_nat ((n.fdiv 3).fdiv 3) (l := X.length) (by omega)
              obtain ⟨q, hq, hqe⟩ := place_nat (((n.fdiv 3).fdiv 3).fdiv (X.length : Int)) (l := X.length) (by omega)
              have hX1 : 1 ≤ X.length ∧ X.length ≤ 20 := by omega
              have hX2 : ¬ (X.length : Int) = 0 := by omega
              k_with "m rw" => rw [hbe]
              k_with "ones fit" => exact Nat.le_trans hXl' (by decide)
              (try dsimp only)
              walk_at "m_steps"
              all_goals try (exfalso; omega)
              unfold Stop
              rename Fr _ _ _ _ => lF₆
              rename News _ _ _ (_ :: _) => lN₆
              rename _ < _ ∧ _ < _ ∧ _ < _ ∧ AllLt _ _ => l₆
              rw [hpe, hqe] at lN₆
              refine tup_flip [Str.ofString "place"] (fun i => match i with | 0 => X | 1 => flipL X p b | _ => flipL (flipL X p b) q b) rfl lF₆ (news_two lN₆) O₅ (off_new l₆.1 l₅) ?turn ?done
              case turn =>
                intro i' v' m₅ vs₅ k₅ h' tk' R' hv' O₇ hoff F₇ N₇
                simp only [overlay] at F₇
                have hi2 : i' < 2 := by simpa using (List.getElem?_eq_some_iff.mp hv').1
                have hb8 : b < 128 := by omega
                clear lF₆ lN₆ O₅ F₃
                rcases i' with _ | _ | i'
                · have hv' := Option.some.inj hv'
                  subst hv'
                  have O₈ : Ones vs₅ X := O₇
                  clear O₇
                  have hc8 := getD_lt hXlt hp
                  k_with "ones at" => exact hp
                  k_with "ones off" => exact hoff
                  k_with "flip c" => exact hc8
                  k_with "flip b" => exact hb8
                  (try dsimp only)
                  walk_at "m_steps"
                  exact flip_next (by k_asm) (by k_asm) (O₈.set p _ _) (fun z hz => by simp only [List.mem_singleton] at hz; simp only [hz, ↓reduceIte])
                · have hv' := Option.some.inj hv'
                  subst hv'
                  have O₈ : Ones vs₅ (flipL X p b) := O₇
                  clear O₇
                  have hq' : q < (flipL X p b).length := by rw [flip_len]; exact hq
                  have hfl : (flipL X p b).length ≤ 1000 := by rw [flip_len]; omega
                  have hc8 := getD_lt (flip_lt hXlt hp hb8) hq'
                  k_with "ones at" => exact hq'
                  k_with "ones fit" => exact hfl
                  k_with "ones off" => exact hoff
                  k_with "flip c" => exact hc8
                  k_with "flip b" => exact hb8
                  (try dsimp only)
                  walk_at "m_steps"
                  exact flip_next (by k_asm) (by k_asm) (O₈.set q _ _) (fun z hz => by simp only [List.mem_singleton] at hz; simp only [hz, ↓reduceIte])
                · exact absurd hi2 (by omega)
              case done =>
                intro m₅ vs₆ k₆ h₉ tk₉ O₆ F₉ N₆
                simp only [overlay] at F₉
                have O₇ : Ones vs₆ (flipL (flipL X p b) q b) := O₆
                clear O₆
                have hYl : (S (flipL (flipL X p b) q b)).length ≤ 20 := by rw [S_len, flip_len, flip_len]; exact hXl'
                have hYok := flip_ok X p q b hb4 hp hq hXm
                have hYs := flip_cks X p q b hp hq
                generalize flipL (flipL X p b) q b = Y at O₇ hYl hYok hYs
                have hgT := off_g (o := W.listOf vs₆.toArray k₆) hgT0 hoT
                have hgD := off_g (o := W.listOf vs₆.toArray k₆) hgD0 hoD
                have N₇ := news_rot2 N₆
                clear lF₆ lN₆ O₅ F₃
                k_with "join strs" => exact O₇.strs
                k_with "join room" => exact sumfit hYl
                k_with "join is" => exact txtjoin_ones _
                (try dsimp only)
                walk_at "m_steps"
                unfold Stop
                refine' TellL.useE (told_ok _ _ _ Y _ _ (great_i hT) (great_j hT) hYl hYok ((great_val hT).trans hYs.symm)) (line_flip _ _ _) ?B ?F ?X ?N ?T ?K ?_
                case B => k_asm
                case F => k_asm
                case X => k_asm
                case N => first | exact N₇ | k_asm
                case T => k_asm
                case K => exact rfl
                intro r tl h₈ tk₈ F₈ N₈ o₈ e₈
                have N₉ := news_mid N₈
                clear N₈ N₇
                k_with "off" => first | exact off_app o₈ (.head _) hgT | exact off_app o₈ (.tail _ (.head _)) hgD
                (try dsimp only)
                walk_at "m_steps"
                unfold Stop
                refine' (cut_list _ _ Dg vs₆ _ Y (.tail _ (.tail _ (List.mem_append.mpr (.inr (.head _))))) O₇.2 O₇.1 (Nat.le_trans hYl (by decide))).use ?B ?F ?X ?N ?T ?K ?_
                case B => k_asm
                case F => k_asm
                case X => k_asm
                case N => k_asm
                case T => k_asm
                case K => exact rfl
                intro r₆ t₆ h₆ tk₆ F₆ N₆ o₆ e₆
                have N₁₀ := news_mid N₆
                clear N₆
                k_with "off" => exact off_app o₆ (.tail _ (.head _)) (off_app o₈ (.tail _ (.head _)) hgD)
                (try dsimp only)
                walk_at "m_steps"
                exact tend_next (tl := (_, _) :: (t₆ ++ tl)) (by k_asm) (news_fin (by k_asm)) (fun z hz => by simp only [List.mem_cons, List.not_mem_nil, or_false, not_or] at hz; simp only [hz, ↓reduceIte]) (fin_fresh o₈ o₆ (by assumption) hio) (e₈.mono fun p hp => List.mem_append.mpr (.inl (.tail _ (List.mem_append.mpr (.inr hp))))) (fin_dat e₆) (ok_taken fun c hc => (hYok c hc).1)
          · obtain ⟨i0, hi0, he0⟩ := mod22 (n.fdiv 3)
            obtain ⟨j0, hj0, he1⟩ := mod22 ((n.fdiv 3).fdiv 22)
            have hcl1 := one_len (dig i0)
            have hcl2 := one_len (dig j0)
            k_with "m rw" => first | rw [he0] | rw [he1]
            k_with "idx pos" => exact ⟨by omega, by omega⟩
            k_with "idx" => first | exact dig_atI hi0 | exact dig_atI hj0
            (try dsimp only)
            walk_at "m_steps"
            unfold Stop
            refine' TellL.useE (told_dig _ _ _ X i0 j0 hi0 hj0 hXl hXok) (line_dig2 _ _ _) ?B ?F ?X ?N ?T ?K ?_
            case B => k_asm
            case F => k_asm
            case X => k_asm
            case N => k_asm
            case T => k_asm
            case K => exact rfl
            intro r tl h₄ tk₄ F₄ N₄ o₄ e₄
            have N₅ := news_mid N₄
            clear N₄
            have htf := t_fresh o₄ hio
            k_with "off" => first | exact off_app o₄ (.head _) hoT | exact off_app o₄ (.tail _ (.head _)) hoD
            clear F₃
            (try dsimp only)
            walk_at "m_steps"
            all_goals first
              | (rw [dig_taken (by unfold hexV; split <;> split <;> omega)] at e₄; exact tend_next (by k_asm) (by k_asm) (fun z hz => by simp only [List.mem_cons, List.not_mem_nil, or_false, not_or] at hz; simp only [hz, ↓reduceIte]) htf (e₄.mono fun p hp => List.mem_append.mpr (.inl hp)) (hTk.mono fun p hp => List.mem_append.mpr (.inr hp)) (ok_taken hXlt))
              | (rw [dig_sum (by unfold hexV; split <;> split <;> omega)] at e₄; exact tend_next (tl := (_, _) :: tl) (by k_asm) (news_rot2 (by k_asm)) (fun z hz => by simp only [List.mem_cons, List.not_mem_nil, or_false, not_or] at hz; simp only [hz, ↓reduceIte]) (t_fresh2 htf (by assumption) hio) (e₄.mono fun p hp => List.mem_append.mpr (.inl (.tail _ hp))) (one_text _ _) ok_sum))
end Mine
end
theorem PySem.Challenge.cw_ez0281_01_holds : PySem.Challenge.rw_ez0281_01.Holds :=
  Mine.body
