import PyProof.Rows.All
import Wide.All
import OpenK.AllK
import Wide.FinOn
import PySem.Challenge.RW_ja0022_01
open PySem PySem.W PyProof.Rows
set_option Elab.async false
set_option maxRecDepth 100000
set_option maxHeartbeats 40000000
namespace Mine
open_top hd for PySem.Challenge.rw_ja0022_01
section
open PySem.Builtin PySem.Builtin.Str PySem.Builtin.Int PySem.Calls

def CanVE (hd : Option Value) (h : Heap) (post : Heap → Addr → Prop) : Prop :=
  ∀ (prog : Program) (w : World) (α : Type) (A : Around) (msg : String) (Q : α → Shared → Prop) (E : Value → Shared → Prop) (s : Shared),
    A.handled = hd → s.heap = h → (Str.ofString msg).length ≤ sizeLine →
    (∀ h' tk e, post h' e → E (.ref e) { s with heap := h', toks := tk }) → wpAny (model prog w) A (raiseErrorMade "ValueError" msg : Sem α) Q E s

theorem canVE_none (h : Heap) : CanVE none h (fun h' e => Heap.NewExc h h' e "ValueError") := by
  intro prog w α A msg Q E s hh hs hm k
  subst hs
  exact raiseError_exc excClass_ValueError hh k hm

section
variable {prog : Program} {w : World} {A : Around} {E : Value → Shared → Prop} {s : Shared} {n : Int} {u : Tok} {post : Heap → Addr → Prop}

theorem repr_tree {Q : Fin → Shared → Prop} (hv : CanVE A.handled s.heap post) (hn : s.heap.NoDigits)
    (h1 : ∀ T t' k, Str.length T ≤ 4301 → Q (.done (.ret (.str T t'))) { s with toks := k }) (h2 : ∀ h' tk e, post h' e → E (.ref e) { s with heap := h', toks := tk }) :
    wpAny (model prog w) A (Builtin.«int.__repr__» ⟨[.int n u], []⟩) Q E s := by
  unfold Builtin.«int.__repr__»
  show wpAny _ _ (do let r ← Builtin.overDigitLimit? n; _) _ _ s
  refine wpAny_bind (overDigitLimit_any hn (fun hlt => ?_) (fun hge => ?_))
  · refine wpAny_bind (wpAny_mkStr (wpAny_pure (h1 _ _ _ ?_)) (int_text_fits10 hlt))
    rw [PySem.ofString_length]
    exact int_text_length_le10 (by decide) hlt
  · first
      | exact wpAny_bind (wpAny_rule (hv prog w _ _ _ _ _ _ rfl rfl (by clear hge h1 h2 hv; rw [PySem.ofString_length, sizeLine_eq]; decide +kernel) h2))
      | exact wpAny_bind (wpAny_rule (wpAny_bind (hv prog w _ _ _ _ _ _ rfl rfl (by clear hge h1 h2 hv; rw [PySem.ofString_length, sizeLine_eq]; decide +kernel) h2)))

def FmtSpec : PySem.Spec := fun A R s => ∃ post, CanVE A.handled s.heap post ∧ s.heap.NoDigits ∧
  (∀ T t' k, Str.length T ≤ 4301 → R (.ok (.ret (.str T t'))) { s with toks := k }) ∧ (∀ h' tk e, post h' e → R (.error (.ref e)) { s with heap := h', toks := tk })

theorem meets_format : Meets («int.__format__» ⟨[.int n u, .str Str.empty t], []⟩) FmtSpec := by
  intro prog w A R s hS
  obtain ⟨post, hv, hn, h1, h2⟩ := hS
  show wpAny _ _ (do let _kind ← typeNameOf (.str Str.empty t); (do rule "int.format.empty"; again (.builtin "int.__repr__" ⟨[.int n u], []⟩))) _ _ s
  refine wpAny_bind (wpAny_typeNameOf (T := "str") (typeIs_str s _ _) (by decide) fun _ => ?_)
  refine wpAny_bind (wpAny_rule ?_)
  refine wpAny_pure ⟨plainId_quiet (by decide +kernel) _, codeAny_builtin F.entry_int_repr ?_⟩
  rw [Around.under_plainId (by decide +kernel)]
  exact repr_tree (A := A.in1) hv hn h1 h2

theorem formatOf_or {Q : Value → Shared → Prop} (hv : CanVE A.handled s.heap post) (hn : s.heap.NoDigits)
    (h1 : ∀ T t' k, Str.length T ≤ 4301 → Q (.str T t') { s with toks := k }) (h2 : ∀ h' tk e, post h' e → E (.ref e) { s with heap := h', toks := tk }) :
    wpAny (model prog w) A (PySem.Builtin.Str.formatOf (.int n u) PySem.Str.empty) Q E s := by
  unfold PySem.Builtin.Str.formatOf
  refine wpAny_ite (KPc.ite_no Bool.false_ne_true ?_)
  refine wpAny_bind (wpAny_mkStr ?_ (by decide))
  refine wpAny_bind (m := callSpecial? (.int n u) (PySem.Str.ofString "__format__") [.str PySem.Str.empty s.toks]) (wpAny_callSpecial?_slot (name := PySem.Str.ofString "__format__") (typeIs_int _ n u) F.slot_int_format
    (call_meets F.slot_int_format (typeIs_int _ n u) F.entry_int_format (F.args_int_format_2 _ _) meets_format ⟨post, hv, hn, fun T t' k hT => ?_, fun h' tk e hp => h2 h' tk e hp⟩))
  refine wpAny_bind (wpAny_of_eq (a := some T) rfl ?_)
  refine wpAny_ite (KPc.ite_no Bool.false_ne_true ?_)
  exact wpAny_pure (h1 _ _ _ hT)
end

section
variable {prog : Program} {w : World} {A : Around} {E : Value → Shared → Prop} {s : Shared} {n : Int} {u : Tok} {post : Heap → Addr → Prop}
def SaySpec : PySem.Spec := fun A R s => ∃ post, CanVE A.handled s.heap post ∧ s.heap.NoDigits ∧
  (∀ T t' k, R (.ok (.ret (.str T t'))) { s with toks := k }) ∧ (∀ h' tk e, post h' e → R (.error (.ref e)) { s with heap := h', toks := tk })


theorem meets_say2 {a b : Int} {t ta tb : Tok} : Meets («str.format» ⟨[.str (Str.mk #[77, 111, 110, 116, 104, 32, 123, 125, 32, 100, 111, 101, 115, 110, 39, 116, 32, 104, 97, 118, 101, 32, 97, 32, 100, 97, 121, 32, 123, 125]) t, .int a ta, .int b tb], []⟩) SaySpec := by
  refine Meets.of_wp fun prog w A R s hS => ?_
  obtain ⟨post, hv, hn, h1, h2⟩ := hS
  have h3 : ∀ h' tk e, post h' e → (fun (e : Value) s' => R (.error e) s') (.ref e) { s with heap := h', toks := tk } := h2
  unfold Builtin.«str.format»
  refine wpAny_bind (wpAny_of_eq (a := (_, _, _)) rfl ?_)
  refine wpAny_bind ?_
  unfold Builtin.Str.buildString
  refine wpAny_bind ?_
  rw [KPc.range_list]
  refine KFm.start ?_
  intro _ _
  refine KPc.turn ?_; kpc_if; kpc_check
  refine wpAny_bind (KFm.field_auto (by kfm_num) (by rfl) ?_)
  refine wpAny_bind (wpAny_holding (wpAny_of_eq (a := _) rfl ?_))
  kpc_if
  refine wpAny_bind (wpAny_pure ?_)
  refine wpAny_bind (wpAny_holding (formatOf_or hv hn (fun T t' k hT => ?_) h2))
  refine wpAny_bind (wpAny_of_eq (a := some _) rfl ?_)
  refine wpAny_pure ?_
  refine KFm.after_field (by kpc_g) (by kpc_text) (by kpc_obj) hT (by kpc_obj) (by kfm_cat2) (by kfm_rest) ?_
  intro _ _
  refine KPc.turn ?_; kpc_if; kpc_check
  refine wpAny_bind (KFm.field_auto (by kfm_num) (by rfl) ?_)
  refine wpAny_bind (wpAny_holding (wpAny_of_eq (a := _) rfl ?_))
  kpc_if
  refine wpAny_bind (wpAny_pure ?_)
  refine wpAny_bind (wpAny_holding (formatOf_or hv hn (fun T2 t2' k2 hT2 => ?_) h2))
  refine wpAny_bind (wpAny_of_eq (a := some _) rfl ?_)
  refine wpAny_pure ?_
  refine KFm.after_field (by kpc_g) (by kpc_text) (by kpc_obj) hT2 (by kpc_obj) (by kfm_cat2) (by kfm_rest) ?_
  intro _ _
  refine KPc.turn ?_; kpc_if
  refine wpAny_pure ?_
  refine wpAny_pure ?_
  refine KPc.finish_ok (by kpc_g) (by decide +kernel) rfl ?_
  exact fun t k => ⟨_, rfl, h1 _ t k⟩

theorem meets_say3 {a b c : Int} {t ta tb tc : Tok} : Meets («str.format» ⟨[.str (Str.mk #[73, 110, 118, 97, 108, 105, 100, 32, 80, 111, 115, 105, 116, 105, 118, 105, 115, 116, 32, 100, 97, 116, 101, 58, 32, 40, 123, 125, 44, 32, 123, 125, 44, 32, 123, 125, 41]) t, .int a ta, .int b tb, .int c tc], []⟩) SaySpec := by
  refine Meets.of_wp fun prog w A R s hS => ?_
  obtain ⟨post, hv, hn, h1, h2⟩ := hS
  unfold Builtin.«str.format»
  refine wpAny_bind (wpAny_of_eq (a := (_, _, _)) rfl ?_)
  refine wpAny_bind ?_
  unfold Builtin.Str.buildString
  refine wpAny_bind ?_
  rw [KPc.range_list]
  refine KFm.start ?_
  intro _ _
  refine KPc.turn ?_; kpc_if; kpc_check
  refine wpAny_bind (KFm.field_auto (by kfm_num) (by rfl) ?_)
  refine wpAny_bind (wpAny_holding (wpAny_of_eq (a := _) rfl ?_))
  kpc_if
  refine wpAny_bind (wpAny_pure ?_)
  refine wpAny_bind (wpAny_holding (formatOf_or hv hn (fun T1 t1' k1 hT1 => ?_) h2))
  refine wpAny_bind (wpAny_of_eq (a := some _) rfl ?_)
  refine wpAny_pure ?_
  refine KFm.after_field (by kpc_g) (by kpc_text) (by kpc_obj) hT1 (by kpc_obj) (by kfm_cat2) (by kfm_rest) ?_
  intro _ _
  refine KPc.turn ?_; kpc_if; kpc_check
  refine wpAny_bind (KFm.field_auto (by kfm_num) (by rfl) ?_)
  refine wpAny_bind (wpAny_holding (wpAny_of_eq (a := _) rfl ?_))
  kpc_if
  refine wpAny_bind (wpAny_pure ?_)
  refine wpAny_bind (wpAny_holding (formatOf_or hv hn (fun T2 t2' k2 hT2 => ?_) h2))
  refine wpAny_bind (wpAny_of_eq (a := some _) rfl ?_)
  refine wpAny_pure ?_
  refine KFm.after_field (by kpc_g) (by kpc_text) (by kpc_obj) hT2 (by kpc_obj) (by kfm_cat2) (by kfm_rest) ?_
  intro _ _
  refine KPc.turn ?_; kpc_if; kpc_check
  refine wpAny_bind (KFm.field_auto (by kfm_num) (by rfl) ?_)
  refine wpAny_bind (wpAny_holding (wpAny_of_eq (a := _) rfl ?_))
  kpc_if
  refine wpAny_bind (wpAny_pure ?_)
  refine wpAny_bind (wpAny_holding (formatOf_or hv hn (fun T3 t3' k3 hT3 => ?_) h2))
  refine wpAny_bind (wpAny_of_eq (a := some _) rfl ?_)
  refine wpAny_pure ?_
  refine KFm.after_field (by kpc_g) (by kpc_text) (by kpc_obj) hT3 (by kpc_obj) (by kfm_cat2) (by kfm_rest) ?_
  intro _ _
  refine KPc.turn ?_; kpc_if; kpc_check
  refine wpAny_pure ?_
  refine KFm.after_lit (by kpc_g) (by kpc_text) (by kpc_obj) (by kfm_cat1) (by kfm_rest) ?_
  intro _ _
  refine KPc.turn ?_; kpc_if
  refine wpAny_pure ?_
  refine wpAny_pure ?_
  refine KPc.finish_ok (by kpc_g) (by decide +kernel) rfl ?_
  exact fun t k => ⟨_, rfl, h1 _ t k⟩

theorem meets_repr : Meets (Builtin.«int.__repr__» ⟨[.int n u], []⟩) FmtSpec := by
  refine Meets.of_wp fun prog w A R s hS => ?_
  obtain ⟨post, hv, hn, h1, h2⟩ := hS
  exact repr_tree (A := A.in1) hv hn (fun T t' k hT => ⟨_, rfl, h1 T t' k hT⟩) h2

theorem after_digits {M : Model} {l : List Nat} {p : List Value} {r : List Nat} {f : Nat → List Value × Writer × List Nat → Sem (ForInStep (List Value × Writer × List Nat))} {Q : List Value × Writer × List Nat → Shared → Prop}
    {w : Writer} {T y : PySem.Str} {N : Nat} {o : Option Value} {c : Percent} {n : Int}
    (g : KPc.Good w T N) (h1 : c.alt = false) (h2 : c.type = 100 ∨ c.type = 105 ∨ c.type = 117) (h3 : c.prec = none) (hn : 0 ≤ n) (hy : y.length ≤ 4301) (ho : o = none)
    (h : ∀ w', KPc.Good w' (T ++ y) (N + 4301) → wpAny M A (forIn l (p, w', r) f) Q E s) :
    wpAny M A (forIn l (p, w.add ⟨(percentInt c (decide (n < 0)) y.cps.toList).toArray⟩ o, r) f) Q E s := by
  rw [KPc.int_text c h1 h2 h3 hn]
  exact KPc.after_str g hy (KPc.obj_none ho) h

theorem meets_mod {a : Int} {t ta : Tok} (h0 : 0 ≤ a) : Meets («str.__mod__» ⟨[.str (Str.mk #[82, 101, 113, 117, 101, 115, 116, 101, 100, 32, 109, 111, 110, 116, 104, 32, 37, 100, 32, 100, 111, 101, 115, 110, 39, 116, 32, 101, 120, 105, 115, 116]) t, .int a ta], []⟩) SaySpec := by
  refine Meets.of_wp fun prog w A R s hS => ?_
  obtain ⟨post, hv, hn, h1, h2⟩ := hS
  rw [KPc.entry_is]
  unfold Builtin.Str.percentFormat
  refine wpAny_bind (wpAny_isInstance (typeIs_int _ _ _) F.sub_int_tuple ?_)
  refine wpAny_bind (wpAny_of_eq (a := none) rfl ?_)
  refine wpAny_bind (wpAny_of_eq (KPc.fills _ _) ?_)
  kpc_if
  refine wpAny_bind (wpAny_pure ?_)
  refine wpAny_bind ?_
  rw [KPc.range_list]
  refine KPc.start ?_
  intro _ _
  refine KPc.turn ?_; kpc_check; (repeat kpc_if)
  refine wpAny_pure ?_
  kpc_piece
  refine KPc.turn ?_; kpc_check; (repeat kpc_if)
  refine wpAny_bind ?_; refine wpAny_holding ?_; (repeat kpc_if)
  refine wpAny_bind (wpAny_of_eq (a := _) rfl ?_); (repeat kpc_if)
  refine wpAny_bind (wpAny_mkInt ?_)
  refine wpAny_bind (call_meets F.slot_int_repr (typeIs_int _ _ _) F.entry_int_repr (F.args_int_repr_1 _) meets_repr ⟨post, hv, hn, fun T t' k hT => ?_, h2⟩)
  refine wpAny_bind (wpAny_of_eq (a := some _) rfl ?_)
  refine wpAny_pure ?_
  refine wpAny_pure ?_
  refine after_digits (by kpc_g) rfl (Or.inl rfl) rfl h0 hT rfl ?_
  intro _ _
  refine KPc.turn ?_; kpc_check; (repeat kpc_if)
  refine wpAny_pure ?_
  kpc_piece
  refine KPc.turn ?_; kpc_check; (repeat kpc_if)
  refine wpAny_pure ?_
  kpc_if
  refine KPc.finish_ok (by kpc_g) (by decide +kernel) rfl ?_
  exact fun t k => ⟨_, rfl, h1 _ t k⟩

theorem say2 {X : PySem.Str} {a b : Int} {t ta tb : Tok} {Q : Value → Shared → Prop} (hX : X = Str.mk #[77, 111, 110, 116, 104, 32, 123, 125, 32, 100, 111, 101, 115, 110, 39, 116, 32, 104, 97, 118, 101, 32, 97, 32, 100, 97, 121, 32, 123, 125])
    (hv : CanVE A.handled s.heap post) (hn : s.heap.NoDigits) (h1 : ∀ T t' k, Q (.str T t') { s with toks := k }) (h2 : ∀ h' tk e, post h' e → E (.ref e) { s with heap := h', toks := tk }) :
    wpAny (model prog w) A (call (.builtin "str.format") [.str X t, .int a ta, .int b tb]) Q E s := by
  subst hX
  exact call_meets F.slot_str_format_m (typeIs_str s _ t) F.entry_str_format_m (KFm.args_3 _ _ _) meets_say2 ⟨post, hv, hn, h1, h2⟩
theorem say3 {X : PySem.Str} {a b c : Int} {t ta tb tc : Tok} {Q : Value → Shared → Prop} (hX : X = Str.mk #[73, 110, 118, 97, 108, 105, 100, 32, 80, 111, 115, 105, 116, 105, 118, 105, 115, 116, 32, 100, 97, 116, 101, 58, 32, 40, 123, 125, 44, 32, 123, 125, 44, 32, 123, 125, 41])
    (hv : CanVE A.handled s.heap post) (hn : s.heap.NoDigits) (h1 : ∀ T t' k, Q (.str T t') { s with toks := k }) (h2 : ∀ h' tk e, post h' e → E (.ref e) { s with heap := h', toks := tk }) :
    wpAny (model prog w) A (call (.builtin "str.format") [.str X t, .int a ta, .int b tb, .int c tc]) Q E s := by
  subst hX
  exact call_meets F.slot_str_format_m (typeIs_str s _ t) F.entry_str_format_m (KFm.args_4 _ _ _ _) meets_say3 ⟨post, hv, hn, h1, h2⟩
theorem sayM {X : PySem.Str} {a : Int} {t ta : Tok} {Q : Value → Shared → Prop} (hX : X = Str.mk #[82, 101, 113, 117, 101, 115, 116, 101, 100, 32, 109, 111, 110, 116, 104, 32, 37, 100, 32, 100, 111, 101, 115, 110, 39, 116, 32, 101, 120, 105, 115, 116]) (h0 : 0 ≤ a)
    (hv : CanVE A.handled s.heap post) (hn : s.heap.NoDigits) (h1 : ∀ T t' k, Q (.str T t') { s with toks := k }) (h2 : ∀ h' tk e, post h' e → E (.ref e) { s with heap := h', toks := tk }) :
    wpAny (model prog w) A (binaryOp .Mod (.str X t) (.int a ta)) Q E s := by
  subst hX
  exact AutoFloatOps.binaryOp_left_meets (T := "str") (U := "int") (op := .Mod) (by decide) (typeIs_str s _ t) (fun s' => typeIs_int s' a ta) F.fills_str_mod F.fills_int_mod F.sub_int_str F.slot_str_mod F.slot_int_rmod F.entry_str_mod (F.args_str_mod_2 _ _)
    (meets_mod h0) ⟨post, hv, hn, fun T t' k => ⟨(fun e => nomatch e), h1 T t' k⟩, h2⟩
end
end
section
open PySem.Calls

theorem digits_of' {p : Program} {loose : List Str} {mean : ExcName → Option Value} {mg mb : Str → Option Value} {h₀ h : Heap} {L : Addr} {m : Str → Option Value} (F : Fr h₀ L h m) (T : Top p loose mean mg mb h₀) : h.NoDigits := (T.keeps F.keep).nodigits

structure MyExc (h h' : Heap) (e : Addr) (X : String) : Prop where
  keeps : ∀ b o, h.get? b = some o → h'.get? b = some o
  new : h.get? e = none
  there : ∃ ob vs a0, h'.get? e = some ob ∧ ob.cls = .type X ∧ ob.data = .fields vs ∧ vs[0]? = some a0 ∧ vs[1]? = some .none

theorem entry_unchain : entryFor table "proto.unchain" = some Builtin.«proto.unchain» := entryFor_of_tree (by kernel_rfl)

structure Plain2 (h : Heap) (c : Addr) : Prop where
  there : ∃ oc vc, h.get? c = some oc ∧ oc.data = .fields vc ∧ vc[2]? = some .none

section
variable {prog : Program} {w : World} {A : Around} {E : Value → Shared → Prop} {s : Shared} {e c : Addr} {oe : Obj} {ve : Array Value}

theorem raiseNew_in {α : Type} {Q : α → Shared → Prop} (hh : A.handled = some (.ref c)) (hne : c ≠ e) (he : s.heap.get? e = some oe) (hde : oe.data = .fields ve) (h2 : 2 < ve.size) (P : Plain2 s.heap c)
    (k : E (.ref e) { s with heap := s.heap.update e (Obj.mapFields (·.setIfInBounds 2 (.ref c))) }) : wpAny (model prog w) A (raiseNew (.ref e) : Sem α) Q E s := by
  obtain ⟨oc, vc, hc, hdc, hn⟩ := P.there
  unfold raiseNew
  refine wpAny_bind (wpAny_handled ?_)
  rw [hh]
  dsimp only
  have hb : (Value.ref c != Value.ref e) = true := by simpa using hne
  rw [if_pos hb]
  refine wpAny_bind (wpAny_holding (wpAny_runValue (codeAny_builtin entry_unchain ?_)))
  unfold Builtin.«proto.unchain»
  dsimp only
  refine wpAny_bind (wpAny_field hc hdc hn ?_)
  refine wpAny_ite (KPc.ite_yes rfl ?_)
  refine wpAny_bind (m := ret .none) (wpAny_pure (wpAny_pure ?_))
  refine wpAny_bind (m := updateField e 2 (.ref c)) ?_
  exact wpAny_setField (a := e) he hde h2 (wpAny_throw k)

end

theorem canVE_some {h : Heap} {c : Addr} (P : Plain2 h c) : CanVE (some (.ref c)) h (fun h' e => MyExc h h' e "ValueError") := by
  intro prog w α A msg Q E s hh hs hm k
  subst hs
  unfold raiseErrorMade
  refine wpAny_bind (wpAny_mkStr (wpAny_bind ?_) hm)
  unfold newExc newTuple
  refine wpAny_bind (wpAny_newObj_type ?_ (by size_fits))
  refine wpAny_bind (m := firstArgMember _ _) (wpAny_of_eq (a := Value.none) (by simp only [firstArgMember, excClass_ValueError.noFirst]; rfl) ?_)
  rw [excClass_ValueError.noOwn]
  refine wpAny_newObj_type ?_ (by size_fits)
  obtain ⟨oc, vc, hc, hdc, hn⟩ := P.there
  have hc2 := Heap.get?_push_of_some (h := s.heap.push { cls := .type "tuple", data := .seq [Value.str (Str.ofString msg) s.toks].toArray }) { cls := .type "ValueError", data := .fields #[.ref s.heap.objs.size, .none, .none, .none, .bool false, .none] } (Heap.get?_push_of_some (h := s.heap) { cls := .type "tuple", data := .seq [Value.str (Str.ofString msg) s.toks].toArray } hc)
  refine raiseNew_in (c := c) hh ?_ (Heap.get?_push_size _ rfl) rfl (by simp) ⟨_, _, hc2, hdc, hn⟩ ?_
  · exact Nat.ne_of_lt (Nat.lt_of_lt_of_le (Heap.lt_size hc) (by simp))
  · refine k _ _ _ ⟨fun b o hb => ?_, Heap.get?_none_of_le (by simp), _, _, .ref s.heap.objs.size, Heap.get?_update_self _ (Heap.get?_push_size _ rfl) (Obj.isFreed_of_fields (Obj.data_mapFields rfl _)), Obj.cls_mapFields _ _, Obj.data_mapFields rfl _, rfl, rfl⟩
    rw [Heap.get?_update_other _ _ (Nat.ne_of_gt (Nat.lt_of_lt_of_le (Heap.lt_size hb) (by simp)))]
    exact Heap.get?_push_of_some _ (Heap.get?_push_of_some _ hb)

section
variable {prog : Program} {w : World} {A : Around} {E : Value → Shared → Prop} {s : Shared} {c : Addr} {env : Env} {X N I Y : String}

theorem isType_ref {M : Model} {A : Around} {E : Value → Shared → Prop} {s : Shared} {a : Addr} {ob : Obj} {vs : Array Value} (ha : s.heap.get? a = some ob) (hd : ob.data = .fields vs) {Q' : Bool → Shared → Prop} (hq : Q' false s) : wpAny M A (isType (.ref a)) Q' E s := by
  simp only [isType, loadHead]
  refine wpAny_bind (wpAny_loadPart ha ?_)
  rw [hd]; exact wpAny_pure hq

/-- the value is an exception: it is handed on -/
theorem excFrom_ref {a : Addr} {ob : Obj} {vs : Array Value} {msg : String} {Q : Value → Shared → Prop} (ha : s.heap.get? a = some ob) (hcls : ob.cls = .type Y) (hd : ob.data = .fields vs) (hb : isSubtype (.type Y) (.type "BaseException") = pure true)
    (h : Q (.ref a) s) : wpAny (model prog w) A (excFromValue (.ref a) msg) Q E s := by
  have hT : s.TypeIs (.ref a) Y := ⟨ob, ha, hcls⟩
  unfold excFromValue isExcClass
  refine wpAny_bind (wpAny_bind (isType_ref ha hd ?_))
  simp only [Bool.false_eq_true, if_false]
  refine wpAny_pure ?_
  simp only [Bool.false_eq_true, if_false]
  refine wpAny_bind (wpAny_isInstance hT hb ?_)
  simp only [if_true]
  exact wpAny_pure h

theorem raise_tail {xv : Value} {Q : Flow → Shared → Prop} {e : Addr} {ob : Obj} {t : Value} (hc : ExcClass X N I) (hself : isSubtype (.type X) (.type X) = pure true) (hh : A.handled = some (.ref c)) (hce : c ≠ e)
    (ho : s.heap.get? e = some ob ∧ ob.cls = .type X ∧ ob.data = .fields #[t, .none, .none, .none, .bool false, .none]) (P : Plain2 s.heap c) (hxv : xv = .type X ∨ xv = .ref e)
    (k : ∀ h', ((∀ b o, b ≠ e → s.heap.get? b = some o → h'.get? b = some o) ∧ ∃ ob vs a0, h'.get? e = some ob ∧ ob.cls = .type X ∧ ob.data = .fields vs ∧ vs[0]? = some a0 ∧ vs[1]? = some .none) → E (.ref e) { s with heap := h' }) :
    wpAny (model prog w) A (do
      setField (.ref e) 3 (.ref c)
      setField (.ref e) 4 (.bool true)
      let b ← isType xv
      if b = true then do
          let e ← holding [.ref e] (raisedFor xv (.ref e))
          setFlight e none
          raiseNew e
        else do
          let e ← raisedInstance (.ref e)
          setFlight e none
          raiseNew e) Q E s := by
  obtain ⟨he, hcls, hd⟩ := ho
  obtain ⟨oc, vc, hoc, hdc, hnc⟩ := P.there
  have d1 := Obj.data_mapFields hd (·.setIfInBounds 3 (Value.ref c))
  have e1 := Heap.get?_update_self (Obj.mapFields (·.setIfInBounds 3 (Value.ref c))) he (Obj.isFreed_of_fields d1)
  have d2 := Obj.data_mapFields d1 (·.setIfInBounds 4 (Value.bool true))
  have e2 := Heap.get?_update_self (Obj.mapFields (·.setIfInBounds 4 (Value.bool true))) e1 (Obj.isFreed_of_fields d2)
  have c2 : (Obj.mapFields (fun x => x.setIfInBounds 4 (Value.bool true)) (Obj.mapFields (fun x => x.setIfInBounds 3 (Value.ref c)) ob)).cls = .type X := (Obj.cls_mapFields _ _).trans ((Obj.cls_mapFields _ _).trans hcls)
  have oth : ∀ b, b ≠ e → ((s.heap.update e (Obj.mapFields (·.setIfInBounds 3 (Value.ref c)))).update e (Obj.mapFields (·.setIfInBounds 4 (Value.bool true)))).get? b = s.heap.get? b := fun b hb => by
    rw [Heap.get?_update_other _ _ (Ne.symm hb), Heap.get?_update_other _ _ (Ne.symm hb)]
  refine wpAny_bind (wpAny_setField he hd (by simp) ?_)
  refine wpAny_bind (wpAny_setField e1 d1 (by simp) ?_)
  have hT : ({ s with heap := (s.heap.update e (Obj.mapFields (·.setIfInBounds 3 (Value.ref c)))).update e (Obj.mapFields (·.setIfInBounds 4 (Value.bool true))) } : Shared).TypeIs (.ref e) X := ⟨_, e2, c2⟩
  have fin : wpAny (model prog w) A (do setFlight (.ref e) none; raiseNew (.ref e) : Sem Flow) Q E { s with heap := (s.heap.update e (Obj.mapFields (·.setIfInBounds 3 (Value.ref c)))).update e (Obj.mapFields (·.setIfInBounds 4 (Value.bool true))) } := by
    unfold setFlight
    refine wpAny_bind (wpAny_bind (wpAny_field (i := 1) (x := Value.none) e2 d2 rfl ?_))
    rw [if_neg (by decide)]
    refine wpAny_pure ?_
    refine raiseNew_in hh hce e2 d2 (by simp) ⟨oc, vc, (oth c hce).trans hoc, hdc, hnc⟩ ?_
    have d3 := Obj.data_mapFields d2 (·.setIfInBounds 2 (Value.ref c))
    refine k _ ⟨fun b o hb hbo => ?_, _, _, t, Heap.get?_update_self _ e2 (Obj.isFreed_of_fields d3), (Obj.cls_mapFields _ _).trans c2, d3, rfl, rfl⟩
    rw [Heap.get?_update_other _ _ (Ne.symm hb)]
    exact (oth b hb).trans hbo
  rcases hxv with rfl | rfl
  · refine wpAny_bind (m := isType (.type X)) (wpAny_pure ?_)
    rw [if_pos rfl]
    refine wpAny_bind (wpAny_holding ?_)
    unfold raisedFor
    simp only [Bool.false_eq_true, if_false]
    refine wpAny_bind (wpAny_typeOf hT ?_)
    refine wpAny_bind (call_issubclass (issubclass_self hc hself) ?_)
    dsimp only [wants]
    refine wpAny_bind (wpAny_truthy_bool ?_)
    rw [if_pos rfl]
    exact wpAny_pure fin
  · refine wpAny_bind (isType_ref e2 d2 ?_)
    rw [if_neg (by decide)]
    unfold raisedInstance
    refine wpAny_bind (wpAny_bind (wpAny_typeOf hT (wpAny_bind (m := typeOf (.type X)) (wpAny_pure ?_))))
    rw [if_pos hc.metaType]
    exact wpAny_pure fin

theorem raise_class_from {x n : Str} {np cp pos : Pos} {Q : Flow → Shared → Prop} (hh : A.handled = some (.ref c)) (hc : ExcClass X N I) (P : Plain2 s.heap c) (hX : ∀ ob, s.heap.get? c = some ob → ob.cls = .type Y) (hY : isSubtype (.type Y) (.type "BaseException") = pure true)
    (hself : isSubtype (.type X) (.type X) = pure true)
    (hx : wpAny (model prog w) A (eval (.Name x np) env) (fun v s₁ => v = .type X ∧ s₁ = s) E s)
    (hn : ∀ h', (∀ b o, s.heap.get? b = some o → h'.get? b = some o) → wpAny (model prog w) A (eval (.Name n cp) env) (fun v s₁ => v = .ref c ∧ s₁ = { s with heap := h' }) E { s with heap := h' })
    (h : ∀ h' e, MyExc s.heap h' e X → E (.ref e) { s with heap := h' }) :
    wpAny (model prog w) A (exec (.Raise (some (.Name x np)) (some (.Name n cp)) pos) env) Q E s := by
  obtain ⟨oc, vc, hoc, hdc, hnc⟩ := P.there
  show wpAny (model prog w) A (do standAt pos; raiseStmt env (some (do let v ← eval (.Name x np) env; standAt pos; pure v)) (some (do let v ← eval (.Name n cp) env; standAt pos; pure v))) Q E s
  refine wpAny_bind (wpAny_standAt ?_)
  unfold raiseStmt
  dsimp only
  refine wpAny_bind (wpAny_bind (wpAny_mono hx (fun v s₁ h₁ => wpAny_bind (wpAny_standAt (wpAny_pure ?_))) fun _ _ e => e))
  obtain ⟨rfl, hs₁⟩ := h₁
  subst s₁
  refine wpAny_bind (wpAny_bind (wpAny_mono (hn s.heap fun _ _ z => z) (fun v s₁ h₁ => wpAny_bind (wpAny_standAt (wpAny_pure ?_))) fun _ _ e => e))
  obtain ⟨rfl, hs₁⟩ := h₁
  subst s₁
  refine wpAny_bind (wpAny_pure ?_)
  refine wpAny_bind (wpAny_holding ?_)
  unfold excFromValue isExcClass
  refine wpAny_bind (wpAny_bind (wpAny_pure ?_))
  simp only [if_true]
  rw [hc.base]
  refine wpAny_pure ?_
  simp only [if_true]
  refine wpAny_bind (call_exc hc fun h' e hne => ?_)
  obtain ⟨ob, t, he, hcls, hd⟩ := hne.there
  have hT : ({ s with heap := h' } : Shared).TypeIs (.ref e) X := ⟨ob, he, hcls⟩
  refine wpAny_bind (wpAny_isInstance hT hc.base ?_)
  simp only [Bool.not_true, Bool.false_eq_true, if_false]
  refine wpAny_pure ?_
  have hoc' := hne.keeps _ _ hoc
  have hce : c ≠ e := fun q => by
    have hnew := hne.new
    rw [← q] at hnew
    exact nomatch hnew.symm.trans hoc
  refine wpAny_ite (KPc.ite_no (by simp) ?_)
  refine wpAny_bind (wpAny_holding (excFrom_ref (Y := Y) hoc' (hX _ hoc) hdc hY ?_))
  exact raise_tail (xv := .type X) hc hself hh hce ⟨he, hcls, hd⟩ ⟨oc, vc, hoc', hdc, hnc⟩ (Or.inl rfl) fun h'' M1 => h h'' e ⟨fun b o hb => M1.1 b o (fun q => by
    have hnew := hne.new
    rw [← q] at hnew
    exact nomatch hnew.symm.trans hb) (hne.keeps _ _ hb), hne.new, M1.2⟩

theorem raise_made_from {ex : Expr} {n : Str} {cp pos : Pos} {Q : Flow → Shared → Prop} (hh : A.handled = some (.ref c)) (hc : ExcClass X N I) (P : Plain2 s.heap c) (hX : ∀ ob, s.heap.get? c = some ob → ob.cls = .type Y) (hY : isSubtype (.type Y) (.type "BaseException") = pure true)
    (hself : isSubtype (.type X) (.type X) = pure true)
    (hx : wpAny (model prog w) A (eval ex env) (fun v s₁ => ∃ h' e tk, v = .ref e ∧ s₁ = { s with heap := h', toks := tk } ∧ Heap.NewExc s.heap h' e X) E s)
    (hn : ∀ h' tk, (∀ b o, s.heap.get? b = some o → h'.get? b = some o) → wpAny (model prog w) A (eval (.Name n cp) env) (fun v s₁ => v = .ref c ∧ s₁ = { s with heap := h', toks := tk }) E { s with heap := h', toks := tk })
    (h : ∀ h' e tk, MyExc s.heap h' e X → E (.ref e) { s with heap := h', toks := tk }) :
    wpAny (model prog w) A (exec (.Raise (some ex) (some (.Name n cp)) pos) env) Q E s := by
  obtain ⟨oc, vc, hoc, hdc, hnc⟩ := P.there
  show wpAny (model prog w) A (do standAt pos; raiseStmt env (some (do let v ← eval ex env; standAt pos; pure v)) (some (do let v ← eval (.Name n cp) env; standAt pos; pure v))) Q E s
  refine wpAny_bind (wpAny_standAt ?_)
  unfold raiseStmt
  dsimp only
  refine wpAny_bind (wpAny_bind (wpAny_mono hx (fun v s₁ h₁ => wpAny_bind (wpAny_standAt (wpAny_pure ?_))) fun _ _ e => e))
  obtain ⟨h', e, tk, rfl, hs₁, hne⟩ := h₁
  subst s₁
  refine wpAny_bind (wpAny_holding (wpAny_bind (wpAny_mono (hn h' tk hne.keeps) (fun v s₁ h₁ => wpAny_bind (wpAny_standAt (wpAny_pure ?_))) fun _ _ e => e)))
  obtain ⟨rfl, hs₁⟩ := h₁
  subst s₁
  refine wpAny_bind (wpAny_pure ?_)
  obtain ⟨ob, t, he, hcls, hd⟩ := hne.there
  refine wpAny_bind (wpAny_holding (excFrom_ref (Y := X) he hcls hd hc.base ?_))
  have hoc' := hne.keeps _ _ hoc
  have hce : c ≠ e := fun q => by
    have hnew := hne.new
    rw [← q] at hnew
    exact nomatch hnew.symm.trans hoc
  refine wpAny_ite (KPc.ite_no (by simp) ?_)
  refine wpAny_bind (wpAny_holding (excFrom_ref (Y := Y) hoc' (hX _ hoc) hdc hY ?_))
  exact raise_tail (xv := .ref e) hc hself hh hce ⟨he, hcls, hd⟩ ⟨oc, vc, hoc', hdc, hnc⟩ (Or.inr rfl) fun h'' M1 => h h'' e tk ⟨fun b o hb => M1.1 b o (fun q => by
    have hnew := hne.new
    rw [← q] at hnew
    exact nomatch hnew.symm.trans hb) (hne.keeps _ _ hb), hne.new, M1.2⟩
end

section
variable {prog : Program} {w : World} {A : Around} {E : Value → Shared → Prop} {s : Shared} {K : Frag} {h₀ : Heap} {L a : Addr} {m mg mb : Str → Option Value} {name : Str} {scope : Scope} {cd : Value} {p : Program} {loose : List Str} {mean : ExcName → Option Value} {post : Heap → Addr → Prop}

/-- ValueError(text.format(x, y, z)), the three names ints of the frame -/
theorem eval_say3 {vx vy vz : Int} {tx ty tz : Tok} {k : Nat} {p1 p2 p4 p5 p6 p8 : Pos} {Q : Value → Shared → Prop}
    (F : Fr h₀ L s.heap m) (KX : K.In h₀) (T : Top p loose mean mg mb h₀) (ex : nsIn K mainGlobals (Str.ofString "ValueError") = some none)
    (hx : m (Str.ofString "year") = some (.int vx tx)) (hy : m (Str.ofString "month") = some (.int vy ty)) (hz : m (Str.ofString "day") = some (.int vz tz)) (hv : CanVE A.handled s.heap post)
    (h1 : ∀ h' e tk, Heap.NewExc s.heap h' e "ValueError" → Q (.ref e) { s with heap := h', toks := tk }) (h2 : ∀ h' tk e, post h' e → E (.ref e) { s with heap := h', toks := tk })
    (hk : scope.kind = .function) (hbk : (envOf name scope L a cd).kindOf (Str.ofString "ValueError") = some .globalImplicit)
    (lx : (envOf name scope L a cd).kindOf (Str.ofString "year") = some .local) (ly : (envOf name scope L a cd).kindOf (Str.ofString "month") = some .local) (lz : (envOf name scope L a cd).kindOf (Str.ofString "day") = some .local) :
    wpAny (model prog w) A (eval (.Call (.Name (Str.ofString "ValueError") p1) [.Call (.Attribute (.Constant (.str (Str.ofString "Invalid Positivist date: ({}, {}, {})")) k p2) (Str.ofString "format") ⟨145, 25, 145, 71⟩) [.Name (Str.ofString "year") p4, .Name (Str.ofString "month") p5, .Name (Str.ofString "day") p6] [] ⟨145, 25, 145, 89⟩] [] p8) (envOf name scope L a cd)) Q E s := by
  refine wpAny_Call_ofName (name_B F KX (topRead_of T) ex PyProof.Rows.Boot.«ValueError» (by decide) ?_ hk hbk (by decide))
  refine PyProof.Rows.callWith_type1 ?_
  refine spliced_more ?_
  refine MethodCall_ (pl := (do return (← importBound (.Constant (.str (Str.ofString "Invalid Positivist date: ({}, {}, {})")) k p2) (envOf name scope L a cd)).getD true)) ?_ ?he
  case he => exact rfl
  refine wpAny_Constant_str ?_
  refine KFm.method ?_
  refine callWith_method1 ?_
  refine spliced_more (ld (s := { s with toks := s.toks + 1 }) F hx ?_ hk lx)
  refine spliced_more (ld (s := { s with toks := s.toks + 1 }) F hy ?_ hk ly)
  refine spliced_more (ld (s := { s with toks := s.toks + 1 }) F hz ?_ hk lz)
  refine spliced_none ?_
  refine say3 (s := { s with toks := s.toks + 1 }) (by decide +kernel) hv (digits_of' F T) (fun T' t' k' => ?_) h2
  refine spliced_none ?_
  exact call_exc excClass_ValueError fun h' e hn => h1 h' e k' hn
end
end
section
open PySem.Calls

/-- an exception on its way, its traceback laid, its context known to be none -/
structure Hx (B : Heap) (l : List Env) (e : Addr) (cls a0 fl : Value) (h : Heap) : Prop where
  stays : B.StaysIn h
  fresh : B.get? e = none
  frames : h.FunFrames B l
  there : ∃ oe vs T oT ts, h.get? e = some oe ∧ oe.cls = cls ∧ oe.data = .fields vs ∧ vs[0]? = some a0 ∧ vs[1]? = some (.ref T) ∧ vs[2]? = some .none ∧ B.get? T = none ∧ T ≠ e ∧ h.get? T = some oT ∧ oT.data = .fields ts ∧ ts[3]? = some fl

section
variable {M : Model} {A : Around} {E : Value → Shared → Prop} {s : Shared} {B : Heap} {l : List Env} {e : Addr} {cls a0 fl : Value}

theorem Hx.plain {h : Heap} (H : Hx B l e cls a0 fl h) : Plain2 h e := by
  obtain ⟨oe, vs, T, oT, ts, he, hc, hd, h0, h1, h2, r⟩ := H.there
  exact ⟨oe, vs, he, hd, h2⟩

theorem note_own {env : Env} {outer : List Env} {L : Addr} {oe : Obj} {vs : Array Value} {Q : Unit → Shared → Prop}
    (hfr : A.frames = some (env :: outer)) (hl : s.heap.FunFrames B (env :: outer)) (hf : env.frame = some L)
    (he : s.heap.get? e = some oe) (hkb : B.StaysIn s.heap) (hen : B.get? e = none) (hcls : oe.cls = cls) (hd : oe.data = .fields vs) (h0 : vs[0]? = some a0) (h1 : vs[1]? = some .none) (h2 : vs[2]? = some .none)
    (k : ∀ h', Hx B (env :: outer) e cls a0 (rawInt L) h' → s.heap.UpToSlots h' → Q () { s with heap := h' }) :
    wpAny M A (noteFrame (.ref e) env) Q E s := by
  have hsz : 1 < vs.size := (Array.getElem?_eq_some_iff.mp h1).1
  have hne : e ∉ (env :: outer).filterMap (·.frame) := fun hm => by
    obtain ⟨_, o, ho, hnf⟩ := hl.mem hm
    obtain rfl : oe = o := Option.some.inj (he.symm.trans ho)
    exact hnf vs hd
  unfold noteFrame
  simp only [hf]
  refine wpAny_bind (wpAny_field he hd h1 ?_)
  rw [if_neg (by decide)]
  refine wpAny_bind (wpAny_frameOf_fun hfr hl hf fun h₁ hs₁ => ?_)
  refine wpAny_bind (wpAny_entryPlaceOf fun pl hpl => ?_)
  unfold EntryCells.newEntry newFields
  refine wpAny_bind (wpAny_newObj_type ?_ (hpl.sizeOk5 _ _ _ _ _))
  generalize hob : ({ cls := Value.type "traceback", dict := none, data := Data.fields ([Value.none, .ref L, .none, rawInt L, .none] ++ (if pl.isEmpty then List.replicate 6 Value.none else pl)).toArray } : Obj) = tbo
  have htd : tbo.data = Data.fields ([Value.none, .ref L, .none, rawInt L, .none] ++ (if pl.isEmpty then List.replicate 6 Value.none else pl)).toArray := by rw [← hob]
  have htf : tbo.isFreed = false := by rw [← hob]; rfl
  have he₁ : h₁.get? e = some oe := (hs₁.2.1 e hne).trans he
  have he₂ := Heap.get?_push_of_some (h := h₁) tbo he₁
  have hTe : h₁.objs.size ≠ e := Nat.ne_of_gt (Heap.lt_size he₁)
  have d3 := Obj.data_mapFields hd (·.setIfInBounds 1 (Value.ref h₁.objs.size))
  have e3 := Heap.get?_update_self (Obj.mapFields (·.setIfInBounds 1 (Value.ref h₁.objs.size))) he₂ (Obj.isFreed_of_fields d3)
  have oth : ∀ b o, b ≠ e → h₁.get? b = some o → ((h₁.push tbo).update e (Obj.mapFields (·.setIfInBounds 1 (Value.ref h₁.objs.size)))).get? b = some o := fun b o hb hbo => by
    rw [Heap.get?_update_other _ _ (Ne.symm hb)]
    exact Heap.get?_push_of_some _ hbo
  have up : ∀ b o, s.heap.get? b = some o → (∀ ws, o.data ≠ .fields ws) → b ≠ e := fun b o hb hnf q => by
    subst q
    obtain rfl : oe = o := Option.some.inj (he.symm.trans hb)
    exact hnf vs hd
  refine wpAny_setField he₂ hd hsz (k _ ⟨fun b o hb => ?_, hen, hl.of_keeps fun b o hb hnf => ?_, ?_⟩ fun b o hb hnf => ?_)
  · refine oth b o (fun q => by rw [q, hen] at hb; cases hb) ((hs₁.2.1 b fun hm => ?_).trans (hkb b o hb))
    rw [(hl.mem hm).1] at hb
    cases hb
  · obtain ⟨sl, hs⟩ := hs₁.2.2 b o hb
    exact ⟨_, oth b _ (up b o hb hnf) hs, rfl⟩
  · refine ⟨_, _, h₁.objs.size, tbo, _, e3, (Obj.cls_mapFields _ _).trans hcls, d3, ?_, by simp [hsz], ?_, ?_, hTe, ?_, htd, ?_⟩
    · rw [Array.getElem?_setIfInBounds_ne (by decide)]; exact h0
    · rw [Array.getElem?_setIfInBounds_ne (by decide)]; exact h2
    · cases q : B.get? h₁.objs.size with
      | none => rfl
      | some o =>
        have hb := hkb _ o q
        obtain ⟨sl, hs⟩ := hs₁.2.2 _ o hb
        exact absurd (Heap.lt_size hs) (Nat.lt_irrefl _)
    · rw [Heap.get?_update_other _ _ (Ne.symm hTe)]
      exact Heap.get?_push_size h₁ htf
    · first
        | (simp; done)
        | (rcases hpl with rfl | ⟨_, _, _, _, _, _, _, rfl⟩ <;> simp)
  · obtain ⟨sl, hs⟩ := hs₁.2.2 b o hb
    exact ⟨sl, oth b _ (up b o hb hnf) hs⟩

theorem flight_own {fl' : Option Addr} {Q : Unit → Shared → Prop} (H : Hx B l e cls a0 fl s.heap)
    (k : ∀ h', Hx B l e cls a0 (fl'.elim .none fun f => rawInt f) h' → s.heap.UpToSlots h' → Q () { s with heap := h' }) : wpAny M A (setFlight (.ref e) fl') Q E s := by
  obtain ⟨oe, vs, T, oT, ts, he, hcls, hd, h0, h1, h2, hnT, hTe, hT, hdT, h3⟩ := H.there
  have hsz3 : 3 < ts.size := (Array.getElem?_eq_some_iff.mp h3).1
  have dT := Obj.data_mapFields hdT (·.setIfInBounds 3 (fl'.elim Value.none fun f => rawInt f))
  have oth : ∀ b, b ≠ T → (s.heap.update T (Obj.mapFields (·.setIfInBounds 3 (fl'.elim Value.none fun f => rawInt f)))).get? b = s.heap.get? b := fun b hb => Heap.get?_update_other _ _ (Ne.symm hb)
  have up : ∀ b o, s.heap.get? b = some o → (∀ ws, o.data ≠ .fields ws) → b ≠ T := fun b o hb hnf q => by
    subst q
    obtain rfl : oT = o := Option.some.inj (hT.symm.trans hb)
    exact hnf ts hdT
  unfold setFlight
  refine wpAny_bind (wpAny_field he hd h1 ?_)
  rw [if_pos (show (Value.ref T != Value.none) = true from by simp)]
  refine wpAny_setField hT hdT hsz3 (k _ ⟨fun b o hb => (oth b fun q => by rw [q, hnT] at hb; cases hb).trans (H.stays b o hb), H.fresh, H.frames.of_keeps fun b o hb hnf => ⟨o, (oth b (up b o hb hnf)).trans hb, rfl⟩, ?_⟩
    fun b o hb hnf => ⟨o.slots, (oth b (up b o hb hnf)).trans hb⟩)
  exact ⟨oe, vs, T, _, _, (oth e (Ne.symm hTe)).trans he, hcls, hd, h0, h1, h2, hnT, hTe, Heap.get?_update_self _ hT (Obj.isFreed_of_fields dT), dT, by simp [hsz3]⟩

theorem flight_held {L : Addr} {fl' : Option Addr} {Q : Unit → Shared → Prop} (hkb : B.StaysIn s.heap) (hen : B.get? e = none) (hl : s.heap.FunFrames B l) (H : s.heap.TracedAtW B e cls a0 fl)
    (k : ∀ h', B.StaysIn h' → h'.FunFrames B l → h'.TracedAtW B e cls a0 (fl'.elim .none fun f => rawInt f) → s.heap.UpToSlots h' → Q () { s with heap := h' }) : wpAny M A (setFlight (.ref e) fl') Q E s := by
  obtain ⟨oe, vs, T, oT, ts, he, hcls, hd, h1, hnT, hTe, hT, hdT, h3⟩ := H
  have hsz3 : 3 < ts.size := (Array.getElem?_eq_some_iff.mp h3).1
  have dT := Obj.data_mapFields hdT (·.setIfInBounds 3 (fl'.elim Value.none fun f => rawInt f))
  have oth : ∀ b, b ≠ T → (s.heap.update T (Obj.mapFields (·.setIfInBounds 3 (fl'.elim Value.none fun f => rawInt f)))).get? b = s.heap.get? b := fun b hb => Heap.get?_update_other _ _ (Ne.symm hb)
  have up : ∀ b o, s.heap.get? b = some o → (∀ ws, o.data ≠ .fields ws) → b ≠ T := fun b o hb hnf q => by
    subst q
    obtain rfl : oT = o := Option.some.inj (hT.symm.trans hb)
    exact hnf ts hdT
  unfold setFlight
  refine wpAny_bind (wpAny_field he hd h1 ?_)
  rw [if_pos (show (Value.ref T != Value.none) = true from by simp)]
  refine wpAny_setField hT hdT hsz3 (k _ (fun b o hb => (oth b fun q => by rw [q, hnT] at hb; cases hb).trans (hkb b o hb)) (hl.of_keeps fun b o hb hnf => ⟨o, (oth b (up b o hb hnf)).trans hb, rfl⟩) ?_
    fun b o hb hnf => ⟨o.slots, (oth b (up b o hb hnf)).trans hb⟩)
  exact ⟨oe, vs, T, _, _, (oth e (Ne.symm hTe)).trans he, hcls, hd, h1, hnT, hTe, Heap.get?_update_self _ hT (Obj.isFreed_of_fields dT), dT, by simp [hsz3]⟩
end

theorem upTo_same {g h h' : Heap} {L : Addr} (U : g.UpToSlots h) (hs : Heap.SameBut L h h') (hL : g.get? L = none) : g.UpToSlots h' := fun b o hb hnf => by
  obtain ⟨sl, e⟩ := U b o hb hnf
  exact ⟨sl, (hs.2 b fun q => by rw [q, hL] at hb; cases hb).trans e⟩

theorem frames_same {B h h' : Heap} {l : List Env} {L : Addr} (hs : Heap.SameBut L h h') (hd : ∃ o, h'.get? L = some o ∧ ∀ vs, o.data ≠ .fields vs) : ∀ {l : List Env}, h.FunFrames B l → h'.FunFrames B l
  | [], _ => trivial
  | env :: rest, ⟨hk, ⟨L', o, hf, hn, ho, hd'⟩, hr⟩ => by
    refine ⟨hk, ?_, frames_same (B := B) (l := rest) hs hd hr⟩
    by_cases q : L' = L
    · subst q
      obtain ⟨o', ho', hnf⟩ := hd
      exact ⟨L', o', hf, hn, ho', hnf⟩
    · exact ⟨L', o, hf, hn, (hs.2 _ q).trans ho, hd'⟩

theorem ns_dict {h : Heap} {L : Addr} {m : Str → Option Value} (hn : h.Ns L m) : ∃ o, h.get? L = some o ∧ ∀ vs, o.data ≠ .fields vs := by
  obtain ⟨o, es, ep, ho, hd, _⟩ := hn
  exact ⟨o, ho, fun vs q => by rw [hd] at q; cases q⟩

theorem Hx.same {B h h' : Heap} {l : List Env} {e L : Addr} {cls a0 fl : Value} {m m' : Str → Option Value} (H : Hx B l e cls a0 fl h) (hs : Heap.SameBut L h h') (hn0 : h.Ns L m) (hn : h'.Ns L m') (hB : B.get? L = none) : Hx B l e cls a0 fl h' := by
  obtain ⟨oe, vs, T, oT, ts, he, hcls, hd, h0, h1, h2, hnT, hTe, hT, hdT, h3⟩ := H.there
  obtain ⟨oL, hoL, hfL⟩ := ns_dict hn0
  have n1 : e ≠ L := fun q => by
    subst q
    obtain rfl : oe = oL := Option.some.inj (he.symm.trans hoL)
    exact hfL _ hd
  have n2 : T ≠ L := fun q => by
    subst q
    obtain rfl : oT = oL := Option.some.inj (hT.symm.trans hoL)
    exact hfL _ hdT
  exact ⟨fun b o hb => (hs.2 b fun q => by rw [q, hB] at hb; cases hb).trans (H.stays b o hb), H.fresh, frames_same (l := l) hs (ns_dict hn) H.frames,
    oe, vs, T, oT, ts, (hs.2 _ n1).trans he, hcls, hd, h0, h1, h2, hnT, hTe, (hs.2 _ n2).trans hT, hdT, h3⟩

theorem traced_same {B h h' : Heap} {e L : Addr} {cls a0 fl : Value} {m : Str → Option Value} (H : h.TracedAtW B e cls a0 fl) (hs : Heap.SameBut L h h') (hn0 : h.Ns L m) : h'.TracedAtW B e cls a0 fl := by
  obtain ⟨oe, vs, T, oT, ts, he, hcls, hd, h1, hnT, hTe, hT, hdT, h3⟩ := H
  obtain ⟨oL, hoL, hfL⟩ := ns_dict hn0
  have n1 : e ≠ L := fun q => by
    subst q
    obtain rfl : oe = oL := Option.some.inj (he.symm.trans hoL)
    exact hfL _ hd
  have n2 : T ≠ L := fun q => by
    subst q
    obtain rfl : oT = oL := Option.some.inj (hT.symm.trans hoL)
    exact hfL _ hdT
  exact ⟨oe, vs, T, oT, ts, (hs.2 _ n1).trans he, hcls, hd, h1, hnT, hTe, (hs.2 _ n2).trans hT, hdT, h3⟩

section
variable {M : Model} {A : Around} {E : Value → Shared → Prop} {s : Shared} {B : Heap} {l outer : List Env} {e L : Addr} {cls a0 fl : Value} {env : Env}
theorem note_new {oe : Obj} {vs : Array Value} {Q : Unit → Shared → Prop}
    (hfr : A.frames = some (env :: outer)) (hl : s.heap.FunFrames B (env :: outer)) (hf : env.frame = some L)
    (he : s.heap.get? e = some oe) (hkb : B.StaysIn s.heap) (hen : B.get? e = none) (hd : oe.data = .fields vs) (h0 : vs[0]? = some a0) (h1 : vs[1]? = some .none)
    (k : ∀ h', Heap.NotedW B (env :: outer) e oe.cls a0 (rawInt L) s.heap h' → Q () { s with heap := h' }) : wpAny M A (noteFrame (.ref e) env) Q E s := by
  unfold noteFrame
  simp only [hf]
  refine wpAny_bind (wpAny_field he hd h1 ?_)
  rw [if_neg (by decide)]
  exact wpAny_entryW hfr hl hf he hkb hen hd (Array.getElem?_eq_some_iff.mp h1).1 h0 k

theorem pass_own {α : Type} {what : String} {Q : α → Shared → Prop} (hf : env.frame = some L) (hkb : B.StaysIn s.heap) (hl : s.heap.FunFrames B l) (hen : B.get? e = none) (H : s.heap.TracedAtW B e cls a0 fl)
    (k : ∀ h', B.StaysIn h' → h'.FunFrames B l → h'.TracedAtW B e cls a0 (rawInt L) → s.heap.UpToSlots h' → E (.ref e) { s with heap := h' }) : wpAny M A (PySem.passOn what (.ref e) env : Sem α) Q E s := by
  obtain ⟨oe, vs, T, oT, ts, he, hcls, hd, h1, r⟩ := id H
  unfold PySem.passOn
  refine wpAny_bind (wpAny_field he hd h1 ?_)
  rw [if_neg (show ¬ ((Value.ref T == Value.none) = true) from by simp)]
  have fin : wpAny M A (do setFlight (.ref e) env.frame; throw (.ref e) : Sem α) Q E s := by
    rw [hf]
    exact wpAny_bind (flight_held (L := L) (fl' := some L) hkb hen hl H fun h' k1 k2 k3 k4 => wpAny_throw (k h' k1 k2 k3 k4))
  first
    | exact fin
    | exact wpAny_bind (wpAny_pure fin)

theorem came_own (hf : env.frame = some L) (hkb : B.StaysIn s.heap) (hl : s.heap.FunFrames B l) (hen : B.get? e = none) (H : s.heap.TracedAtW B e cls a0 fl)
    (k : ∀ h', B.StaysIn h' → h'.FunFrames B l → h'.TracedAtW B e cls a0 (rawInt L) → s.heap.UpToSlots h' → E (.ref e) { s with heap := h' }) : cameBackBy M A env E (.ref e) s := by
  obtain ⟨oe, vs, T, oT, ts, he, hcls, hd, h1, r⟩ := id H
  unfold cameBackBy
  refine wpAny_bind (wpAny_field he hd h1 ?_)
  rw [if_neg (show ¬ ((Value.ref T == Value.none) = true) from by simp)]
  have fin : wpAny M A (setFlight (.ref e) env.frame) (fun _ s'' => E (.ref e) s'') E s := by
    rw [hf]
    exact flight_held (L := L) (fl' := some L) hkb hen hl H fun h' k1 k2 k3 k4 => k h' k1 k2 k3 k4
  first
    | exact fin
    | exact wpAny_bind (wpAny_pure fin)
end

def RaisedO (base g : Heap) (outer l : List Env) (L e : Addr) (cls : Value) (h : Heap) : Prop :=
  ∃ B a0, base.StaysIn B ∧ (∀ b o, g.get? b = some o → b ∉ outer.filterMap (·.frame) → B.get? b = some o) ∧ Heap.HeldW B l e cls a0 L h

section
variable {prog : Program} {w : World} {A₀ : Around} {E : Value → Shared → Prop} {s' : Shared} {base g h : Heap} {outer : List Env} {L a e : Addr} {m : Str → Option Value} {name : Str} {scope : Scope} {cd cls : Value}
  {vs : List Value} {n : Str} {b₀ : Stmt} {suite : List Stmt} {pos np : Pos} {rest : List ExceptHandler} {Q : Flow → Shared → Prop} {Q1 : Unit → Shared → Prop} {KF : Frag}
  {p : Program} {loose : List Str} {mean : ExcName → Option Value} {mg mb : Str → Option Value}

theorem leave_own {M : Model} (R : RaisedO base g outer (envOf name scope L a cd :: outer) L e cls s'.heap) (hsm : g.UpToSlots s'.heap)
    (hQ : ∀ h', RaisedSN base g outer e cls [] h' → RaisedN base outer e cls [] h' → g.UpToSlots h' → Q1 () { s' with heap := h' }) :
    wpAny M (A₀.deeper (envOf name scope L a cd)) (leaving (envOf name scope L a cd) (.ref e)) Q1 E s' := by
  obtain ⟨B, a0, hB, hBG, hh⟩ := R
  unfold leaving
  refine wpAny_bind (wpAny_noteFrame_againW rfl hh.2.2.2 ?_)
  refine wpAny_landsW hh fun h' hfl hs => ?_
  obtain ⟨k1, k2, ⟨_, _, k3⟩, k4⟩ := hfl
  have R : RaisedSN base g outer e cls [] h' := ⟨B, a0, hB, hBG, fun q hq => (nomatch hq), ⟨k1, k2, k3, k4⟩⟩
  exact hQ h' R R.toN (hsm.trans hs)

theorem reraise (K : Below A₀ base outer g) (F : Fr g L h m) (hx : Heap.NewExc h s'.heap e "AssertionError") (XB : KF.In base) (TB : Top p loose mean mg mb base)
    (ex : nsIn KF mainGlobals (Str.ofString "AssertionError") = some none)
    (hsuite : ∀ (g₆ : Heap) (s₇ : Shared) (Q' : Flow → Shared → Prop) (E' : Value → Shared → Prop), Fr g₆ L s₇.heap (fun y => if y = n then some (.ref e) else m y) → KF.In g₆ → Top p loose mean mg mb g₆ → Plain2 s₇.heap e →
      (∀ ob, s₇.heap.get? e = some ob → ob.cls = .type "AssertionError") → (∀ h' tk e2, MyExc s₇.heap h' e2 "ValueError" → E' (.ref e2) { s₇ with heap := h', toks := tk }) →
      wpAny (model prog w) ((A₀.deeper (envOf name scope L a cd)).mark (some (.ref e))) (execs (b₀ :: suite) (envOf name scope L a cd)) Q' E' s₇)
    (k : ∀ h' tk e2, RaisedO base g outer (envOf name scope L a cd :: outer) L e2 (.type "ValueError") h' → g.UpToSlots h' → E (.ref e2) { s' with heap := h', toks := tk })
    (hk : scope.kind = .function) (hlo : (envOf name scope L a cd).kindOf n = some .local) (hbk : (envOf name scope L a cd).kindOf (Str.ofString "AssertionError") = some .globalImplicit) :
    wpAny (model prog w) (A₀.deeper (envOf name scope L a cd)) (noteFrame (.ref e) (envOf name scope L a cd))
      (fun _ s₂ => wpAny (model prog w) (A₀.deeper (envOf name scope L a cd)) (setFlight (.ref e) none) (fun _ s₃ =>
        wpAny (model prog w) (A₀.deeper (envOf name scope L a cd)) (handleBy (.ref e) (envOf name scope L a cd) (.ExceptHandler (some (.Name (Str.ofString "AssertionError") np)) (some n) (b₀ :: suite) pos :: rest)) Q E s₃) E s₂) E s' := by
  have K' := K.push (name := name) (a := a) (cd := cd) F hk
  have hin : ∀ env ∈ (envOf name scope L a cd :: outer), ∀ b, env.frame = some b → b ∈ (envOf name scope L a cd :: outer).filterMap (·.frame) := fun env he b hb => List.mem_filterMap.mpr ⟨env, he, hb⟩
  have hgL : g.get? L = none := kts_self F
  have st : base.StaysIn (hideAll h ((envOf name scope L a cd :: outer).filterMap (·.frame))) := fun b o q => hideAll_get _ (K'.stays b o q) fun hm => by
    rw [(K'.frames.mem hm).1] at q; cases q
  have sg : ∀ b o, h.get? b = some o → b ∉ (envOf name scope L a cd :: outer).filterMap (·.frame) → (hideAll h ((envOf name scope L a cd :: outer).filterMap (·.frame))).get? b = some o := fun b o q nm => hideAll_get _ q nm
  have sgg : ∀ b o, g.get? b = some o → b ∉ outer.filterMap (·.frame) → (hideAll h ((envOf name scope L a cd :: outer).filterMap (·.frame))).get? b = some o := fun b o q nm => hideAll_get _ (F.keep b o q) fun hm => by
    rcases kts_mem hm with z | z
    · rw [z, hgL] at q
      cases q
    · exact nm z
  have hBL : (hideAll h ((envOf name scope L a cd :: outer).filterMap (·.frame))).get? L = none := hideAll_none _ (hin _ (.head _) L rfl)
  obtain ⟨ob0, t, he, hcls0, hd0⟩ := hx.there
  have hen : (hideAll h ((envOf name scope L a cd :: outer).filterMap (·.frame))).get? e = none := by
    cases q : (hideAll h ((envOf name scope L a cd :: outer).filterMap (·.frame))).get? e with
    | none => rfl
    | some o => have := of_hideAll _ q; rw [hx.new] at this; cases this
  have hBs : (hideAll h ((envOf name scope L a cd :: outer).filterMap (·.frame))).StaysIn s'.heap := fun b o hb => hx.keeps b o (of_hideAll _ hb)
  have hFF : s'.heap.FunFrames (hideAll h ((envOf name scope L a cd :: outer).filterMap (·.frame))) (envOf name scope L a cd :: outer) := (funFrames_hide K'.frames hin).of_keeps fun b o hb _ => ⟨o, hx.keeps b o hb, rfl⟩
  generalize hB : hideAll h ((envOf name scope L a cd :: outer).filterMap (·.frame)) = B at st sg sgg hBL hen hBs hFF
  have hp : ((envOf name scope L a cd).scope.kind == .class || ((envOf name scope L a cd).scope.kind == .module && (envOf name scope L a cd).locals != (envOf name scope L a cd).globals)) = false := by
    show (scope.kind == .class || (scope.kind == .module && L != mainGlobals)) = false
    rw [hk]; rfl
  refine note_own (B := B) K'.stack hFF rfl he hBs hen hcls0 hd0 rfl rfl rfl fun h₁ H₁ U₁ => ?_
  refine flight_own (fl' := none) H₁ fun h₂ H₂ U₂ => ?_
  have U : h.UpToSlots h₂ := (Heap.UpToSlots.of_keeps hx.keeps).trans (U₁.trans U₂)
  obtain ⟨g₅, T₅, F₅, K₅⟩ := kts_ground K F sg H₂.stays U
  obtain ⟨ob, _, _, _, _, hob, hobc, _⟩ := H₂.there
  refine wpAny_handleBy_builtin_as (X := "AssertionError") (T := "AssertionError") (b := true) PySem.F.isExc_AssertionError PySem.F.notTuple_AssertionError (by rw [isSubtype_type]; kernel_rfl)
    (name_B F₅ (XB.keeps K₅.stays) (topRead_of (TB.keeps K₅.stays)) ex PyProof.Rows.Boot.«AssertionError» (by decide) ⟨rfl, ⟨ob, hob, hobc⟩, ?_⟩ hk hbk (by decide))
  rw [if_pos rfl]
  refine flight_own (fl' := none) H₂ fun h₃ H₃ U₃ => ?_
  obtain ⟨g₆, T₆, F₆, K₆⟩ := kts_ground K F sg H₃.stays (U.trans U₃)
  refine wpAny_storeName_local hlo F₆.ns (fun h₇ hn₇ hs₇ => ?_) hp
  have H₇ := H₃.same hs₇ F₆.ns hn₇ hBL
  have hg3 : g.UpToSlots h₃ := (Heap.UpToSlots.of_keeps F.keep).trans (U.trans U₃)
  have hg7 : g.UpToSlots h₇ := upTo_same hg3 hs₇ hgL
  refine hsuite g₆ { s' with heap := h₇, toks := s'.toks + 1 } _ _ (F₆.set hn₇ hs₇) (XB.keeps K₆.stays) (TB.keeps K₆.stays) H₇.plain ?_ (fun h₈ tk e2 M8 => ?_)
  · intro ob' hob'
    obtain ⟨oe, _, _, _, _, he', hc', _⟩ := H₇.there
    obtain rfl : oe = ob' := Option.some.inj (he'.symm.trans hob')
    exact hc'
  · obtain ⟨ob2, vs2, a2, ho2, hc2, hd2, h02, h12⟩ := M8.there
    have hen2 : B.get? e2 = none := by
      cases q : B.get? e2 with
      | none => rfl
      | some o => have := H₇.stays _ _ q; rw [show h₇.get? e2 = none from M8.new] at this; cases this
    have hFF8 : h₈.FunFrames B (envOf name scope L a cd :: outer) := H₇.frames.of_keeps fun b o hb _ => ⟨o, M8.keeps b o hb, rfl⟩
    have hBs8 : B.StaysIn h₈ := fun b o hb => M8.keeps b o (H₇.stays b o hb)
    have hn8 : h₈.Ns L _ := Heap.Ns.keeps hn₇ M8.keeps
    have hg8 : g.UpToSlots h₈ := hg7.trans (Heap.UpToSlots.of_keeps M8.keeps)
    refine note_new (B := B) (s := { s' with heap := h₈, toks := tk }) K'.stack hFF8 rfl ho2 hBs8 hen2 hd2 h02 h12 fun h₉ N9 => ?_
    obtain ⟨n1, n2, n3, n4⟩ := N9
    have hn9 : h₉.Ns L _ := Heap.UpToSlots.ns n4 hn8
    have hg9 : g.UpToSlots h₉ := hg8.trans n4
    refine wpAny_nameGoes_keeps (s := { s' with heap := h₉, toks := tk }) hlo hn9 hp fun h₁₀ v hn10 hs10 => ?_
    have hg10 : g.UpToSlots h₁₀ := upTo_same hg9 hs10 hgL
    have t10 := traced_same n3 hs10 hn9
    have b10 : B.StaysIn h₁₀ := fun b o hb => (hs10.2 b fun q => by rw [q, show B.get? (envOf name scope L a cd).locals = none from hBL] at hb; cases hb).trans (n1 b o hb)
    have f10 : h₁₀.FunFrames B (envOf name scope L a cd :: outer) := frames_same (l := []) hs10 (ns_dict hn10) n2
    refine pass_own (s := { s' with heap := h₁₀, toks := tk + 1 }) (L := L) rfl b10 f10 hen2 t10 fun h₁₁ b11 f11 t11 u11 => ?_
    refine wpAny_noteFrame_againW (s := { s' with heap := h₁₁, toks := tk + 1 }) rfl t11 ?_
    refine came_own (s := { s' with heap := h₁₁, toks := tk + 1 }) (L := L) rfl b11 f11 hen2 t11 fun h₁₂ b12 f12 t12 u12 => ?_
    exact k h₁₂ _ e2 ⟨B, a2, st, sgg, b12, hen2, f12, by rw [← hc2]; exact t12⟩ ((hg10.trans u11).trans u12)
end
end
section
open PySem.Calls
section
variable {prog : Program} {w : World} {A₀ : Around} {E : Value → Shared → Prop} {s' s₇ : Shared} {base g g₆ h : Heap} {outer : List Env} {L a e : Addr} {m m₇ : Str → Option Value} {name : Str} {scope : Scope} {cd cls : Value}
  {vs : List Value} {n : Str} {b₀ : Stmt} {suite : List Stmt} {pos np p1 p2 rp : Pos} {rest : List ExceptHandler} {Q : Flow → Shared → Prop} {KF : Frag}
  {p : Program} {loose : List Str} {mean : ExcName → Option Value} {mg mb : Str → Option Value}

theorem sub_VE : isSubtype (.type "ValueError") (.type "ValueError") = pure true := by rw [isSubtype_type]; kernel_rfl

theorem reraise_class (K : Below A₀ base outer g) (F : Fr g L h m) (hx : Heap.NewExc h s'.heap e "AssertionError") (XB : KF.In base) (TB : Top p loose mean mg mb base)
    (ex : nsIn KF mainGlobals (Str.ofString "AssertionError") = some none) (ex2 : nsIn KF mainGlobals (Str.ofString "ValueError") = some none)
    (k : ∀ h' tk e2, RaisedO base g outer (envOf name scope L a cd :: outer) L e2 (.type "ValueError") h' → g.UpToSlots h' → E (.ref e2) { s' with heap := h', toks := tk })
    (hk : scope.kind = .function) (hlo : (envOf name scope L a cd).kindOf n = some .local) (hbk : (envOf name scope L a cd).kindOf (Str.ofString "AssertionError") = some .globalImplicit)
    (hbk2 : (envOf name scope L a cd).kindOf (Str.ofString "ValueError") = some .globalImplicit) (hdb : (n == ("__debug__" : Str)) = false) :
    wpAny (model prog w) (A₀.deeper (envOf name scope L a cd)) (noteFrame (.ref e) (envOf name scope L a cd))
      (fun _ s₂ => wpAny (model prog w) (A₀.deeper (envOf name scope L a cd)) (setFlight (.ref e) none) (fun _ s₃ =>
        wpAny (model prog w) (A₀.deeper (envOf name scope L a cd)) (handleBy (.ref e) (envOf name scope L a cd) (.ExceptHandler (some (.Name (Str.ofString "AssertionError") np)) (some n) [.Raise (some (.Name (Str.ofString "ValueError") p1)) (some (.Name n p2)) rp] pos :: rest)) Q E s₃) E s₂) E s' := by
  refine reraise K F hx XB TB ex (fun g₆ s₇ Q' E' F₇ X₇ T₇ P₇ C₇ k₇ => ?_) k hk hlo hbk
  rw [execs_cons]
  refine wpAny_bind ?_
  refine raise_class_from (X := "ValueError") (Y := "AssertionError") rfl excClass_ValueError P₇ C₇ PySem.F.isExc_AssertionError sub_VE
    (name_B F₇ X₇ (topRead_of T₇) ex2 PyProof.Rows.Boot.«ValueError» (by decide) ⟨rfl, rfl⟩ hk hbk2 (by decide)) (fun h' kp => ?_) fun h' e2 M => k₇ h' s₇.toks e2 M
  exact ld (s := { s₇ with heap := h' }) (Fr.keeps F₇ kp) (if_pos rfl) ⟨rfl, rfl⟩ hk hlo hdb

theorem reraise_say {vx vy vz : Int} {tx ty tz : Tok} {q1 q2 q4 q5 q6 q8 : Pos} {kk : Nat} (K : Below A₀ base outer g) (F : Fr g L h m) (hx : Heap.NewExc h s'.heap e "AssertionError") (XB : KF.In base) (TB : Top p loose mean mg mb base)
    (ex : nsIn KF mainGlobals (Str.ofString "AssertionError") = some none) (ex2 : nsIn KF mainGlobals (Str.ofString "ValueError") = some none)
    (mx : m (Str.ofString "year") = some (.int vx tx)) (my : m (Str.ofString "month") = some (.int vy ty)) (mz : m (Str.ofString "day") = some (.int vz tz))
    (k : ∀ h' tk e2, RaisedO base g outer (envOf name scope L a cd :: outer) L e2 (.type "ValueError") h' → g.UpToSlots h' → E (.ref e2) { s' with heap := h', toks := tk })
    (hk : scope.kind = .function) (hlo : (envOf name scope L a cd).kindOf (Str.ofString "err") = some .local) (hbk : (envOf name scope L a cd).kindOf (Str.ofString "AssertionError") = some .globalImplicit)
    (hbk2 : (envOf name scope L a cd).kindOf (Str.ofString "ValueError") = some .globalImplicit)
    (lx : (envOf name scope L a cd).kindOf (Str.ofString "year") = some .local) (ly : (envOf name scope L a cd).kindOf (Str.ofString "month") = some .local) (lz : (envOf name scope L a cd).kindOf (Str.ofString "day") = some .local) :
    wpAny (model prog w) (A₀.deeper (envOf name scope L a cd)) (noteFrame (.ref e) (envOf name scope L a cd))
      (fun _ s₂ => wpAny (model prog w) (A₀.deeper (envOf name scope L a cd)) (setFlight (.ref e) none) (fun _ s₃ =>
        wpAny (model prog w) (A₀.deeper (envOf name scope L a cd)) (handleBy (.ref e) (envOf name scope L a cd) (.ExceptHandler (some (.Name (Str.ofString "AssertionError") np)) (some (Str.ofString "err"))
          [.Raise (some (.Call (.Name (Str.ofString "ValueError") q1) [.Call (.Attribute (.Constant (.str (Str.ofString "Invalid Positivist date: ({}, {}, {})")) kk q2) (Str.ofString "format") ⟨145, 25, 145, 71⟩) [.Name (Str.ofString "year") q4, .Name (Str.ofString "month") q5, .Name (Str.ofString "day") q6] [] ⟨145, 25, 145, 89⟩] [] q8)) (some (.Name (Str.ofString "err") p2)) rp] pos :: rest)) Q E s₃) E s₂) E s' := by
  refine reraise K F hx XB TB ex (fun g₆ s₇ Q' E' F₇ X₇ T₇ P₇ C₇ k₇ => ?_) k hk hlo hbk
  rw [execs_cons]
  refine wpAny_bind ?_
  refine raise_made_from (X := "ValueError") (Y := "AssertionError") rfl excClass_ValueError P₇ C₇ PySem.F.isExc_AssertionError sub_VE
    (eval_say3 F₇ X₇ T₇ ex2 ((if_neg (by decide)).trans mx) ((if_neg (by decide)).trans my) ((if_neg (by decide)).trans mz) (canVE_some P₇) (fun h' e2 tk M => ⟨h', e2, tk, rfl, rfl, M⟩) (fun h' tk e2 M => k₇ h' tk e2 M) hk hbk2 lx ly lz)
    (fun h' tk kp => ?_) fun h' e2 tk M => k₇ h' tk e2 M
  exact ld (s := { s₇ with heap := h', toks := tk }) (Fr.keeps F₇ kp) (if_pos rfl) ⟨rfl, rfl⟩ hk hlo (by decide)
end
end
section
open PySem.Calls
section
variable {prog : Program} {w : World} {A : Around} {E : Value → Shared → Prop} {s : Shared} {K : Frag} {h₀ : Heap} {L a : Addr} {m mg mb : Str → Option Value} {name : Str} {scope : Scope} {cd : Value} {p : Program} {loose : List Str} {mean : ExcName → Option Value}

theorem raise_plain {ex : Expr} {env : Env} {pos : Pos} {Q : Flow → Shared → Prop} (hh : A.handled = none)
    (hx : wpAny (model prog w) A (eval ex env) (fun v s₁ => ∃ h' e tk, v = .ref e ∧ s₁ = { s with heap := h', toks := tk } ∧ Heap.NewExc s.heap h' e "ValueError") E s)
    (h : ∀ h' tk e, Heap.NewExc s.heap h' e "ValueError" → E (.ref e) { s with heap := h', toks := tk }) :
    wpAny (model prog w) A (exec (.Raise (some ex) none pos) env) Q E s := by
  refine Raise_new hh (wpAny_mono hx (fun v s₁ h₁ => ?_) fun _ _ x => x)
  obtain ⟨h', e, tk, rfl, rfl, hne⟩ := h₁
  exact raisable_of_new (s₁ := { s with heap := h', toks := tk }) excClass_ValueError hne (h h' tk e hne)

theorem raise_say_greg {vy vz : Int} {ty tz : Tok} {k : Nat} {p1 p2 p5 p6 p8 pos : Pos} {Q : Flow → Shared → Prop}
    (hh : A.handled = none) (F : Fr h₀ L s.heap m) (KX : K.In h₀) (T : Top p loose mean mg mb h₀) (ex : nsIn K mainGlobals (Str.ofString "ValueError") = some none)
    (hy : m (Str.ofString "month") = some (.int vy ty)) (hz : m (Str.ofString "day") = some (.int vz tz))
    (h : ∀ h' tk e, Heap.NewExc s.heap h' e "ValueError" → E (.ref e) { s with heap := h', toks := tk })
    (hk : scope.kind = .function) (hbk : (envOf name scope L a cd).kindOf (Str.ofString "ValueError") = some .globalImplicit)
    (ly : (envOf name scope L a cd).kindOf (Str.ofString "month") = some .local) (lz : (envOf name scope L a cd).kindOf (Str.ofString "day") = some .local) :
    wpAny (model prog w) A (exec (.Raise (some (.Call (.Name (Str.ofString "ValueError") p1) [.Call (.Attribute (.Constant (.str (Str.ofString "Month {} doesn't have a day {}")) k p2) (Str.ofString "format") ⟨31, 25, 31, 64⟩) [.Name (Str.ofString "month") p5, .Name (Str.ofString "day") p6] [] ⟨31, 25, 31, 76⟩] [] p8)) none pos) (envOf name scope L a cd)) Q E s := by
  have hv : CanVE A.handled s.heap (fun h' e => Heap.NewExc s.heap h' e "ValueError") := by rw [hh]; exact canVE_none _
  refine raise_plain hh ?_ h
  refine wpAny_Call_ofName (name_B F KX (topRead_of T) ex PyProof.Rows.Boot.«ValueError» (by decide) ?_ hk hbk (by decide))
  refine PyProof.Rows.callWith_type1 ?_
  refine spliced_more ?_
  refine MethodCall_ (pl := (do return (← importBound (.Constant (.str (Str.ofString "Month {} doesn't have a day {}")) k p2) (envOf name scope L a cd)).getD true)) ?_ ?he
  case he => exact rfl
  refine wpAny_Constant_str ?_
  refine KFm.method ?_
  refine callWith_method1 ?_
  refine spliced_more (ld (s := { s with toks := s.toks + 1 }) F hy ?_ hk ly)
  refine spliced_more (ld (s := { s with toks := s.toks + 1 }) F hz ?_ hk lz)
  refine spliced_none ?_
  refine say2 (s := { s with toks := s.toks + 1 }) (by decide +kernel) hv (digits_of' F T) (fun T' t' k' => ?_) h
  refine spliced_none ?_
  exact call_exc excClass_ValueError fun h' e hn => ⟨h', e, k', rfl, rfl, hn⟩

theorem raise_say_jul {vy vz : Int} {ty tz : Tok} {k : Nat} {p1 p2 p5 p6 p8 pos : Pos} {Q : Flow → Shared → Prop}
    (hh : A.handled = none) (F : Fr h₀ L s.heap m) (KX : K.In h₀) (T : Top p loose mean mg mb h₀) (ex : nsIn K mainGlobals (Str.ofString "ValueError") = some none)
    (hy : m (Str.ofString "month") = some (.int vy ty)) (hz : m (Str.ofString "day") = some (.int vz tz))
    (h : ∀ h' tk e, Heap.NewExc s.heap h' e "ValueError" → E (.ref e) { s with heap := h', toks := tk })
    (hk : scope.kind = .function) (hbk : (envOf name scope L a cd).kindOf (Str.ofString "ValueError") = some .globalImplicit)
    (ly : (envOf name scope L a cd).kindOf (Str.ofString "month") = some .local) (lz : (envOf name scope L a cd).kindOf (Str.ofString "day") = some .local) :
    wpAny (model prog w) A (exec (.Raise (some (.Call (.Name (Str.ofString "ValueError") p1) [.Call (.Attribute (.Constant (.str (Str.ofString "Month {} doesn't have a day {}")) k p2) (Str.ofString "format") ⟨62, 25, 62, 64⟩) [.Name (Str.ofString "month") p5, .Name (Str.ofString "day") p6] [] ⟨62, 25, 62, 76⟩] [] p8)) none pos) (envOf name scope L a cd)) Q E s := by
  have hv : CanVE A.handled s.heap (fun h' e => Heap.NewExc s.heap h' e "ValueError") := by rw [hh]; exact canVE_none _
  refine raise_plain hh ?_ h
  refine wpAny_Call_ofName (name_B F KX (topRead_of T) ex PyProof.Rows.Boot.«ValueError» (by decide) ?_ hk hbk (by decide))
  refine PyProof.Rows.callWith_type1 ?_
  refine spliced_more ?_
  refine MethodCall_ (pl := (do return (← importBound (.Constant (.str (Str.ofString "Month {} doesn't have a day {}")) k p2) (envOf name scope L a cd)).getD true)) ?_ ?he
  case he => exact rfl
  refine wpAny_Constant_str ?_
  refine KFm.method ?_
  refine callWith_method1 ?_
  refine spliced_more (ld (s := { s with toks := s.toks + 1 }) F hy ?_ hk ly)
  refine spliced_more (ld (s := { s with toks := s.toks + 1 }) F hz ?_ hk lz)
  refine spliced_none ?_
  refine say2 (s := { s with toks := s.toks + 1 }) (by decide +kernel) hv (digits_of' F T) (fun T' t' k' => ?_) h
  refine spliced_none ?_
  exact call_exc excClass_ValueError fun h' e hn => ⟨h', e, k', rfl, rfl, hn⟩

theorem raise_const {X : Str} {k : Nat} {p1 p2 p8 pos : Pos} {Q : Flow → Shared → Prop}
    (hh : A.handled = none) (F : Fr h₀ L s.heap m) (KX : K.In h₀) (T : Top p loose mean mg mb h₀) (ex : nsIn K mainGlobals (Str.ofString "ValueError") = some none)
    (h : ∀ h' tk e, Heap.NewExc s.heap h' e "ValueError" → E (.ref e) { s with heap := h', toks := tk })
    (hk : scope.kind = .function) (hbk : (envOf name scope L a cd).kindOf (Str.ofString "ValueError") = some .globalImplicit) :
    wpAny (model prog w) A (exec (.Raise (some (.Call (.Name (Str.ofString "ValueError") p1) [.Constant (.str X) k p2] [] p8)) none pos) (envOf name scope L a cd)) Q E s := by
  refine raise_plain hh ?_ h
  refine wpAny_Call_ofName (name_B F KX (topRead_of T) ex PyProof.Rows.Boot.«ValueError» (by decide) ?_ hk hbk (by decide))
  refine PyProof.Rows.callWith_type1 ?_
  refine spliced_more ?_
  refine wpAny_Constant_str ?_
  refine spliced_none ?_
  exact call_exc excClass_ValueError fun h' e hn => ⟨h', e, s.toks + 1, rfl, rfl, hn⟩
end
end
noncomputable abbrev prog0 : Program := Challenge.rw_ja0022_01.row.prog
noncomputable abbrev loose0 : List Str := looseW hd.view_39
      [Str.ofString "legal_date_gregorian", Str.ofString "to_jd_gregorian", Str.ofString "month_length_gregorian",
        Str.ofString "leap_julian", Str.ofString "month_length_julian", Str.ofString "legal_date_julian",
        Str.ofString "to_jd_julian", Str.ofString "_valid_date", Str.ofString "leap_armenian",
        Str.ofString "to_jd_armenian", Str.ofString "month_length_armenian", Str.ofString "month_length_coptic",
        Str.ofString "legal_date_positivist", Str.ofString "to_jd_positivist"]
/-- the year is a long one of the Gregorian calendar -/
abbrev Long (y : Int) : Prop := y % 4 = 0 ∧ (y % 100 ≠ 0 ∨ y % 400 = 0)
def gregF (y m d : Int) : Bool := decide (1 ≤ d ∧ d ≤ 31 ∧ ((m = 4 ∨ m = 6 ∨ m = 9 ∨ m = 11) → d ≤ 30) ∧ (m = 2 → d ≤ 29) ∧ (m = 2 → ¬ Long y → d ≤ 28))
def julF (y m d : Int) : Bool := decide (1 ≤ d ∧ d ≤ 31 ∧ ((m = 4 ∨ m = 6 ∨ m = 9 ∨ m = 11) → d ≤ 30) ∧ (m = 2 → d ≤ 29) ∧ (m = 2 → ¬ y % 4 = 0 → d ≤ 28))
def posF (y m d : Int) : Bool := decide (1 ≤ y ∧ 1 ≤ m ∧ m ≤ 14 ∧ 1 ≤ d ∧ d ≤ 28 ∧ (m = 14 → d ≤ 2) ∧ (m = 14 → ¬ Long (y + 1788) → d ≤ 1))
def movF (y m d : Int) : Bool := decide (1 ≤ y ∧ 1 ≤ m ∧ m ≤ 13 ∧ 1 ≤ d ∧ d ≤ 30 ∧ (m = 13 → d ≤ 5))
def sarF (y m d : Int) : Bool := decide (533 ≤ y ∧ 1 ≤ m ∧ m ≤ 13 ∧ 1 ≤ d ∧ d ≤ 30 ∧ (m = 13 → d ≤ 6) ∧ (m = 13 → ¬ y % 4 = 0 → d ≤ 5))
theorem fm4 (y : Int) : y.fmod 4 = y % 4 := Int.fmod_eq_emod_of_nonneg _ (by decide)
theorem fm100 (y : Int) : y.fmod 100 = y % 100 := Int.fmod_eq_emod_of_nonneg _ (by decide)
theorem fm400 (y : Int) : y.fmod 400 = y % 400 := Int.fmod_eq_emod_of_nonneg _ (by decide)
theorem leap_join (y : Int) : (if y.fmod 4 = 0 ∧ ¬y.fmod 100 = 0 then y.fmod 100 != 0 else if y.fmod 4 = 0 ∧ y.fmod 100 = 0 then y.fmod 400 == 0 else y.fmod 4 == 0) = decide (Long y) := by
  rw [fm4, fm100, fm400]
  by_cases h4 : y % 4 = 0
  · by_cases h1 : y % 100 = 0
    · rw [if_neg (fun c => c.2 h1), if_pos ⟨h4, h1⟩]
      exact decide_eq_decide.mpr ⟨fun h => ⟨h4, .inr h⟩, fun h => h.2.resolve_left (fun n => n h1)⟩
    · rw [if_pos ⟨h4, h1⟩, decide_eq_true ⟨h4, .inl h1⟩]
      exact bne_iff_ne.mpr h1
  · rw [if_neg (fun c => h4 c.1), if_neg (fun c => h4 c.1), decide_eq_false (fun c => h4 c.1)]
    exact decide_eq_false h4
theorem leap_t {y : Int} (h : (if y.fmod 4 = 0 ∧ ¬y.fmod 100 = 0 then y.fmod 100 != 0 else if y.fmod 4 = 0 ∧ y.fmod 100 = 0 then y.fmod 400 == 0 else y.fmod 4 == 0) = true) : Long y := of_decide_eq_true ((leap_join y).symm.trans h)
theorem leap_f {y : Int} (h : (if y.fmod 4 = 0 ∧ ¬y.fmod 100 = 0 then y.fmod 100 != 0 else if y.fmod 4 = 0 ∧ y.fmod 100 = 0 then y.fmod 400 == 0 else y.fmod 4 == 0) = false) : ¬ Long y := of_decide_eq_false ((leap_join y).symm.trans h)
abbrev LetClaim (w : World) (mean : ExcName → Option Value) (mg mb : Str → Option Value) (f : Addr) (vs : List Value) (R : Tok → Value) : Prop :=
  ∀ (cn : Str) (ns : List (Str × NameKind)) (ig ic : Bool) (a : Addr) (ccd : Value) (h₀ : Heap) (L : Addr) (m : Str → Option Value) (s : Shared) (Q E : Value → Shared → Prop),
    Below callerA h₀ [] h₀ → Fr h₀ L s.heap m → (hd.heap_39 w.params).In h₀ → News h₀ L s.heap [] → Top hd.view_39 loose0 mean mg mb h₀ →
      (∀ (t : Tok) (h' : Heap) (tk' : Nat), Fr h₀ L h' m → Q (R t) { s with heap := h', toks := tk' }) →
      wpAny (model Challenge.rw_ja0022_01.row.prog w) (callerA.deeper (envOf cn { kind := .function, names := ns, isGenerator := ig, isCoroutine := ic } L a ccd)) (call (.ref f) vs) Q E s

theorem digits_of {p : Program} {loose : List Str} {mean : ExcName → Option Value} {mg mb : Str → Option Value} {h₀ h : Heap} {L : Addr} {m : Str → Option Value} (F : Fr h₀ L h m) (T : Top p loose mean mg mb h₀) : h.NoDigits := (T.keeps F.keep).nodigits
theorem retB {h₀ h' : Heap} {L : Addr} {m : Str → Option Value} {s : Shared} {Q : Value → Shared → Prop} {x y : Bool} {tk : Nat} (hret : ∀ (t : Tok) (h' : Heap) (tk' : Nat), Fr h₀ L h' m → Q (.bool x) { s with heap := h', toks := tk' }) (e : x = y) (F : Fr h₀ L h' m) : Q (.bool y) { s with heap := h', toks := tk } := by
  subst e
  exact hret 0 h' tk F

theorem in4 {a b c d x : Int} : ([a, b, c, d].any (· == x)) = decide (x = a ∨ x = b ∨ x = c ∨ x = d) := by
  rw [Bool.eq_iff_iff]
  simp only [List.any_cons, List.any_nil, Bool.or_false, Bool.or_eq_true, beq_iff_eq, decide_eq_true_eq]
  exact or_congr eq_comm (or_congr eq_comm (or_congr eq_comm eq_comm))
theorem in_top4 {prog : Program} {w : World} {A : Around} {E : Value → Shared → Prop} {s : Shared} {K : Frag} {h₀ : Heap} {L l : Addr} {m : Str → Option Value} {dd : Option Addr} {sl : Array (Option Value)} {n : Nat} {a b c d x : Int} {ta tb tc td u : Tok} {Q : Value → Shared → Prop}
    (F : Fr h₀ L s.heap m) (X : K.In h₀) (hl : K.lookup l = some ⟨.type "tuple", dd, .seq [Value.int a ta, .int b tb, .int c tc, .int d td].toArray n, sl⟩) (h : Q (.bool (decide (x = a ∨ x = b ∨ x = c ∨ x = d))) s) :
    wpAny (model prog w) A (compareOp .In (.int x u) (.ref l)) Q E s := by
  refine in_tuple_ints (tupK (X.keeps F.keep) hl) (ns := [a, b, c, d]) (by repeat constructor) ?_
  rw [in4]
  exact h



section
variable {y m d : Int}
theorem gT29 (hm : m = 2) (hl : Long y) (h1 : 0 < d) (h2 : d ≤ 29) : gregF y m d = true := by subst hm; exact decide_eq_true ⟨h1, Int.le_trans h2 (by decide), fun h => absurd h (by decide), fun _ => h2, fun _ h => absurd hl h⟩
theorem gT28 (hm : m = 2) (h1 : 0 < d) (h2 : d ≤ 28) : gregF y m d = true := by subst hm; exact decide_eq_true ⟨h1, Int.le_trans h2 (by decide), fun h => absurd h (by decide), fun _ => Int.le_trans h2 (by decide), fun _ _ => h2⟩
theorem gT30 (hm : m = 4 ∨ m = 6 ∨ m = 9 ∨ m = 11) (h1 : 0 < d) (h2 : d ≤ 30) : gregF y m d = true :=
  have n2 : m ≠ 2 := fun h => by subst h; exact absurd hm (by decide)
  decide_eq_true ⟨h1, Int.le_trans h2 (by decide), fun _ => h2, fun h => absurd h n2, fun h => absurd h n2⟩
theorem gT31 (n2 : m ≠ 2) (hm : ¬(m = 4 ∨ m = 6 ∨ m = 9 ∨ m = 11)) (h1 : 0 < d) (h2 : d ≤ 31) : gregF y m d = true :=
  decide_eq_true ⟨h1, h2, fun h => absurd h hm, fun h => absurd h n2, fun h => absurd h n2⟩
theorem gF0 (h : ¬ 0 < d) : gregF y m d = false := decide_eq_false fun c => h c.1
theorem gF29 (hm : m = 2) (h : ¬ d ≤ 29) : gregF y m d = false := decide_eq_false fun c => h (c.2.2.2.1 hm)
theorem gF28 (hm : m = 2) (hl : ¬ Long y) (h : ¬ d ≤ 28) : gregF y m d = false := decide_eq_false fun c => h (c.2.2.2.2 hm hl)
theorem gF30 (hm : m = 4 ∨ m = 6 ∨ m = 9 ∨ m = 11) (h : ¬ d ≤ 30) : gregF y m d = false := decide_eq_false fun c => h (c.2.2.1 hm)
theorem gF31 (h : ¬ d ≤ 31) : gregF y m d = false := decide_eq_false fun c => h c.2.1
theorem jT29 (hm : m = 2) (hl : y.fmod 4 = 0) (h1 : 0 < d) (h2 : d ≤ 29) : julF y m d = true := by subst hm; exact decide_eq_true ⟨h1, Int.le_trans h2 (by decide), fun h => absurd h (by decide), fun _ => h2, fun _ h => absurd ((fm4 y).symm.trans hl) h⟩
theorem jT28 (hm : m = 2) (h1 : 0 < d) (h2 : d ≤ 28) : julF y m d = true := by subst hm; exact decide_eq_true ⟨h1, Int.le_trans h2 (by decide), fun h => absurd h (by decide), fun _ => Int.le_trans h2 (by decide), fun _ _ => h2⟩
theorem jT30 (hm : m = 4 ∨ m = 6 ∨ m = 9 ∨ m = 11) (h1 : 0 < d) (h2 : d ≤ 30) : julF y m d = true :=
  have n2 : m ≠ 2 := fun h => by subst h; exact absurd hm (by decide)
  decide_eq_true ⟨h1, Int.le_trans h2 (by decide), fun _ => h2, fun h => absurd h n2, fun h => absurd h n2⟩
theorem jT31 (n2 : m ≠ 2) (hm : ¬(m = 4 ∨ m = 6 ∨ m = 9 ∨ m = 11)) (h1 : 0 < d) (h2 : d ≤ 31) : julF y m d = true :=
  decide_eq_true ⟨h1, h2, fun h => absurd h hm, fun h => absurd h n2, fun h => absurd h n2⟩
theorem jF0 (h : ¬ 0 < d) : julF y m d = false := decide_eq_false fun c => h c.1
theorem jF29 (hm : m = 2) (h : ¬ d ≤ 29) : julF y m d = false := decide_eq_false fun c => h (c.2.2.2.1 hm)
theorem jF28 (hm : m = 2) (hl : ¬ y.fmod 4 = 0) (h : ¬ d ≤ 28) : julF y m d = false := decide_eq_false fun c => h (c.2.2.2.2 hm fun q => hl ((fm4 y).trans q))
theorem jF30 (hm : m = 4 ∨ m = 6 ∨ m = 9 ∨ m = 11) (h : ¬ d ≤ 30) : julF y m d = false := decide_eq_false fun c => h (c.2.2.1 hm)
theorem jF31 (h : ¬ d ≤ 31) : julF y m d = false := decide_eq_false fun c => h c.2.1
theorem plong (y : Int) : y + 1789 - 1 = y + 1788 := by omega
theorem pT2 (hy : 1 ≤ y) (hm : m = 14) (hl : Long (y + 1789 - 1)) (h1 : 0 < d) (h2 : d ≤ 2) : posF y m d = true := by
  rw [plong] at hl; subst hm; exact decide_eq_true ⟨hy, by decide, by decide, h1, Int.le_trans h2 (by decide), fun _ => h2, fun _ h => absurd hl h⟩
theorem pT1 (hy : 1 ≤ y) (hm : m = 14) (h2 : d = 1) : posF y m d = true := by
  subst hm; subst h2; exact decide_eq_true ⟨hy, by decide, by decide, by decide, by decide, fun _ => by decide, fun _ _ => by decide⟩
theorem pT (hy : 1 ≤ y) (m0 : 0 < m) (hm : m ≤ 14) (hn : m ≠ 14) (h1 : 0 < d) (h2 : d ≤ 28) : posF y m d = true :=
  decide_eq_true ⟨hy, m0, hm, h1, h2, fun h => absurd h hn, fun h => absurd h hn⟩
theorem pF2 (hm : m = 14) (h : ¬ d ≤ 2) : posF y m d = false := decide_eq_false fun c => h (c.2.2.2.2.2.1 hm)
theorem pF1 (hm : m = 14) (hl : ¬ Long (y + 1789 - 1)) (h1 : 0 < d) (h : d ≠ 1) : posF y m d = false := decide_eq_false fun c => h (by
  have := c.2.2.2.2.2.2 hm (by rw [plong] at hl; exact hl)
  omega)
theorem pF28 (h : ¬ d ≤ 28) : posF y m d = false := decide_eq_false fun c => h c.2.2.2.2.1
theorem pF0 (h : ¬ 0 < d) : posF y m d = false := decide_eq_false fun c => h c.2.2.2.1
theorem pFm (h : ¬ m ≤ 14) : posF y m d = false := decide_eq_false fun c => h c.2.2.1
theorem pFn (h : ¬ 0 < m) : posF y m d = false := decide_eq_false fun c => h c.2.1
theorem pFy (h : ¬ 1 ≤ y) : posF y m d = false := decide_eq_false fun c => h c.1
theorem mT5 (hy : 1 ≤ y) (hm : m = 13) (h1 : 1 ≤ d) (h2 : d ≤ 5) : movF y m d = true := by subst hm; exact decide_eq_true ⟨hy, by decide, by decide, h1, Int.le_trans h2 (by decide), fun _ => h2⟩
theorem mT (hy : 1 ≤ y) (m1 : 1 ≤ m) (m2 : m ≤ 13) (hn : m ≠ 13) (h1 : 1 ≤ d) (h2 : d ≤ 30) : movF y m d = true := decide_eq_true ⟨hy, m1, m2, h1, h2, fun h => absurd h hn⟩
theorem mF5 (hm : m = 13) (h : ¬ d ≤ 5) : movF y m d = false := decide_eq_false fun c => h (c.2.2.2.2.2 hm)
theorem mF30 (h : ¬ d ≤ 30) : movF y m d = false := decide_eq_false fun c => h c.2.2.2.2.1
theorem mF0 (h : ¬ 1 ≤ d) : movF y m d = false := decide_eq_false fun c => h c.2.2.2.1
theorem mFm (h : ¬ m ≤ 13) : movF y m d = false := decide_eq_false fun c => h c.2.2.1
theorem mFn (h : ¬ 1 ≤ m) : movF y m d = false := decide_eq_false fun c => h c.2.1
theorem mFy (h : ¬ 1 ≤ y) : movF y m d = false := decide_eq_false fun c => h c.1
theorem sT6 (hy : ¬ y < 533) (hm : m = 13) (hl : y.fmod 4 = 0) (h1 : 1 ≤ d) (h2 : d ≤ 6) : sarF y m d = true := by subst hm; exact decide_eq_true ⟨Int.not_lt.mp hy, by decide, by decide, h1, Int.le_trans h2 (by decide), fun _ => h2, fun _ n => absurd ((fm4 y).symm.trans hl) n⟩
theorem sT5 (hy : ¬ y < 533) (hm : m = 13) (h1 : 1 ≤ d) (h2 : d ≤ 5) : sarF y m d = true := by subst hm; exact decide_eq_true ⟨Int.not_lt.mp hy, by decide, by decide, h1, Int.le_trans h2 (by decide), fun _ => Int.le_trans h2 (by decide), fun _ _ => h2⟩
theorem sT5' (hy : 533 ≤ y) (hm : m = 13) (h1 : 1 ≤ d) (h2 : d ≤ 5) : sarF y m d = true := sT5 (Int.not_lt.mpr hy) hm h1 h2
theorem sT (hy : 533 ≤ y) (m1 : 1 ≤ m) (m2 : m ≤ 13) (hn : m ≠ 13) (h1 : 1 ≤ d) (h2 : d ≤ 30) : sarF y m d = true := decide_eq_true ⟨hy, m1, m2, h1, h2, fun h => absurd h hn, fun h => absurd h hn⟩
theorem sF6 (hm : m = 13) (h : ¬ d ≤ 6) : sarF y m d = false := decide_eq_false fun c => h (c.2.2.2.2.2.1 hm)
theorem sF5 (hm : m = 13) (hl : y.fmod 4 ≠ 0) (h : ¬ d ≤ 5) : sarF y m d = false := decide_eq_false fun c => h (c.2.2.2.2.2.2 hm fun q => hl ((fm4 y).trans q))
theorem sF30 (h : ¬ d ≤ 30) : sarF y m d = false := decide_eq_false fun c => h c.2.2.2.2.1
theorem sF0 (h : ¬ 1 ≤ d) : sarF y m d = false := decide_eq_false fun c => h c.2.2.2.1
theorem sFm (h : ¬ m ≤ 13) : sarF y m d = false := decide_eq_false fun c => h c.2.2.1
theorem sFn (h : ¬ 1 ≤ m) : sarF y m d = false := decide_eq_false fun c => h c.2.1
theorem sFy (h : ¬ 533 ≤ y) : sarF y m d = false := decide_eq_false fun c => h c.1
theorem sFz (h : y < 533) : sarF y m d = false := decide_eq_false fun c => absurd h (Int.not_lt.mpr c.1)
end
local macro_rules
  | `(tactic| walk_at "call builtin:str.format") => `(tactic| k_extra "call builtin:str.format")
  | `(tactic| walk_at "compareOp In int ref") => `(tactic| k_extra "compareOp In int ref")
  | `(tactic| walk_at "noteFrame ref") => `(tactic| k_extra "noteFrame ref")
  | `(tactic| walk_at "leaving ref") => `(tactic| k_extra "leaving ref")
  | `(tactic| walk_at "binaryOp Mod str int") => `(tactic| k_extra "binaryOp Mod str int")
  | `(tactic| walk_at "exec Raise some none") => `(tactic| k_extra "exec Raise some none")
  | `(tactic| walk_at "exec If") => `(tactic| k_extra "exec If")
  | `(tactic| walk_at "call ref") => `(tactic| k_extra "call ref")
  | `(tactic| walk_at "eval Name") => `(tactic| k_extra "eval Name")
  | `(tactic| walk_at "KCj") => `(tactic| k_extra "KCj")
section
theorem c_let_greg (w : World) (mean : ExcName → Option Value) (mg mb : Str → Option Value) (t0 : Tok) (y : Int) (t : Tok) (m : Int) (t2 : Tok) (d : Int) (t3 : Tok) :
   LetClaim w mean mg mb 174 [.str (Str.ofString "gregorian") t0, .int y t, .int m t2, .int d t3] (fun _ => .bool (gregF y m d)) := by
  w_top off
  k_with_none
  (k_with "call builtin:str.format" => (k_here; (with_reducible show wpAny _ _ (call (Value.builtin "str.format") [Value.str _ _, Value.int _ _, Value.int _ _]) _ _ _); refine' say2 ?q9sx (canVE_none _) ?q9sn ?_ ?_; (case q9sx => decide +kernel); (case q9sn => exact digits_of (by k_asm) (by k_asm)); (all_goals intros)))
  (k_with "compareOp In int ref" => (k_here; k_dflt (refine' in_top4 ?q9F ?q9X ?q9l ?_; (case q9F => k_asm); (case q9X => k_asm); (case q9l => k_is); k_whole)))
  (k_with "noteFrame ref" => (k_here; (with_reducible rename Heap.NewExc _ _ _ "AssertionError" => mxX); (with_reducible show wpAny _ _ (noteFrame _ _) (fun _ s₂ => wpAny _ _ (setFlight _ none) (fun _ s₃ => wpAny _ _ (handleBy _ _ (ExceptHandler.ExceptHandler (some (Expr.Name ("AssertionError" : Str) _)) (some _) [Stmt.Raise (some (Expr.Name _ _)) _ _] _ :: _)) _ _ s₃) _ s₂) _ _); k_dflt (refine' reraise_class ?q9K ?q9F mxX ?q9XB ?q9TB ?q9ex ?q9ex2 ?_ ?q9hk ?q9hlo ?q9hbk ?q9hbk2 ?q9hdb; (case q9K => assumption); (case q9F => assumption); (case q9XB => assumption); (case q9TB => assumption); (case q9ex => k_is); (case q9ex2 => k_is); (case q9hk => exact rfl); (case q9hlo => exact rfl); (case q9hbk => exact rfl); (case q9hbk2 => exact rfl); (case q9hdb => decide); k_whole); intro h' tk' e' R' U'; (try dsimp only at R' U' ⊢)))
  (k_with "noteFrame ref" => (k_here; (with_reducible rename Heap.NewExc _ _ _ "AssertionError" => mxX); (with_reducible show wpAny _ _ (noteFrame _ _) (fun _ s₂ => wpAny _ _ (setFlight _ none) (fun _ s₃ => wpAny _ _ (handleBy _ _ (ExceptHandler.ExceptHandler (some (Expr.Name ("AssertionError" : Str) _)) (some _) [Stmt.Raise (some (Expr.Call _ _ _ _)) _ _] _ :: _)) _ _ s₃) _ s₂) _ _); k_dflt (refine' reraise_say ?q9K ?q9F mxX ?q9XB ?q9TB ?q9ex ?q9ex2 ?q9mx ?q9my ?q9mz ?_ ?q9hk ?q9hlo ?q9hbk ?q9hbk2 ?q9lx ?q9ly ?q9lz; (case q9K => assumption); (case q9F => assumption); (case q9XB => assumption); (case q9TB => assumption); (case q9ex => k_is); (case q9ex2 => k_is); (case q9mx => exact rfl); (case q9my => exact rfl); (case q9mz => exact rfl); (case q9hk => exact rfl); (case q9hlo => exact rfl); (case q9hbk => exact rfl); (case q9hbk2 => exact rfl); (case q9lx => exact rfl); (case q9ly => exact rfl); (case q9lz => exact rfl); k_whole); intro h' tk' e' R' U'; (try dsimp only at R' U' ⊢)))
  (k_with "leaving ref" => (k_here; (with_reducible rename RaisedO _ _ _ _ _ _ _ _ => roX); k_dflt (refine' leave_own roX ?q9U ?_; (case q9U => assumption); k_whole); intro h' S' R' U'; (try dsimp only at S' R' U' ⊢)))
  (k_with "binaryOp Mod str int" => (k_here; (with_reducible show wpAny _ _ (binaryOp Operator.Mod (Value.str _ _) (Value.int _ _)) _ _ _); refine' sayM ?q9sx ?q9s0 (canVE_none _) ?q9sn ?_ ?_; (case q9sx => decide +kernel); (case q9s0 => omega); (case q9sn => exact digits_of (by k_asm) (by k_asm)); (all_goals intros)))
  (k_with "exec Raise some none" => (k_here; (with_reducible show wpAny _ _ (exec (Stmt.Raise (some (Expr.Call (Expr.Name ("ValueError" : Str) _) [Expr.Call (Expr.Attribute _ _ (Pos.mk 31 25 31 64)) _ _ _] _ _)) none _) _) _ _ _); k_dflt (refine' raise_say_greg ?q9hh ?q9F ?q9KX ?q9T ?q9ex ?q9hy ?q9hz ?_ ?q9hk ?q9hbk ?q9ly ?q9lz; (case q9hh => exact rfl); (case q9F => k_asm); (case q9KX => k_asm); (case q9T => k_asm); (case q9ex => k_is); (case q9hy => exact rfl); (case q9hz => exact rfl); (case q9hk => exact rfl); (case q9hbk => exact rfl); (case q9ly => exact rfl); (case q9lz => exact rfl); k_whole); intro h' tk' e' x'))
  (k_with "exec Raise some none" => (k_here; (with_reducible show wpAny _ _ (exec (Stmt.Raise (some (Expr.Call (Expr.Name ("ValueError" : Str) _) [Expr.Call (Expr.Attribute _ _ (Pos.mk 62 25 62 64)) _ _ _] _ _)) none _) _) _ _ _); k_dflt (refine' raise_say_jul ?q9hh ?q9F ?q9KX ?q9T ?q9ex ?q9hy ?q9hz ?_ ?q9hk ?q9hbk ?q9ly ?q9lz; (case q9hh => exact rfl); (case q9F => k_asm); (case q9KX => k_asm); (case q9T => k_asm); (case q9ex => k_is); (case q9hy => exact rfl); (case q9hz => exact rfl); (case q9hk => exact rfl); (case q9hbk => exact rfl); (case q9ly => exact rfl); (case q9lz => exact rfl); k_whole); intro h' tk' e' x'))
  (k_with "exec Raise some none" => (k_here; (with_reducible show wpAny _ _ (exec (Stmt.Raise (some (Expr.Call (Expr.Name ("ValueError" : Str) _) [Expr.Constant (Const.str _) _ _] [] _)) none _) _) _ _ _); k_dflt (refine' raise_const ?q9hh ?q9F ?q9KX ?q9T ?q9ex ?_ ?q9hk ?q9hbk; (case q9hh => exact rfl); (case q9F => k_asm); (case q9KX => k_asm); (case q9T => k_asm); (case q9ex => k_is); (case q9hk => exact rfl); (case q9hbk => exact rfl); k_whole); intro h' tk' e' x'))
  (k_with "exec If" => refine wpAny_If ?_)
  (k_with "eval Name" => (k_here; k_dflt (first
  | (name_kind "local"; (refine' nameX_L ?q9F ?q9v ?_ ?q9a ?q9b ?q9d); (case q9F => k_asm); (case q9a => rfl); (case q9b => kernel_rfl!); (case q9v => rfl); (case q9d => kernel_rfl!); k_whole)
  | (name_kind "globalImplicit"; (refine' nameX_K ?q9F ?q9X ?q9T ?q9e ?_ ?q9a ?q9b ?q9d); (case q9F => k_asm); (case q9X => k_asm); (case q9T => k_asm); (case q9a => rfl); (case q9b => kernel_rfl!); (case q9d => kernel_rfl!); (case q9e => k_is); k_whole))))
  (k_with "KCj" => (kpf_tidy; (refine kcj_end (t := (0 : Nat)) ?q9kce (by with_unfolding_all rfl) rfl (by assumption) (by assumption) (by kcj_all)); (case q9kce => kpf_eq)))
  dsimp only [LetClaim]
  k_fill
  intros; rename_i hret
  k_steps
  all_goals first
    | ((have f4 := fm4 y); (try have hl := leap_t (by with_reducible assumption)); (try have hl := leap_f (by with_reducible assumption)); exact retB hret (by first | exact gF0 (by with_reducible assumption) | exact gF31 (by with_reducible assumption) | exact gT29 (by with_reducible assumption) hl (by with_reducible assumption) (by with_reducible assumption) | exact gT28 (by with_reducible assumption) (by with_reducible assumption) (by with_reducible assumption) | exact gF29 (by with_reducible assumption) (by with_reducible assumption) | exact gF28 (by with_reducible assumption) hl (by with_reducible assumption) | exact gT30 (by with_reducible assumption) (by with_reducible assumption) (by with_reducible assumption) | exact gF30 (by with_reducible assumption) (by with_reducible assumption) | exact gT31 (by with_reducible assumption) (by with_reducible assumption) (by with_reducible assumption) (by with_reducible assumption) | (unfold gregF; first | exact decide_eq_true (by omega) | exact decide_eq_false (by omega))) (by assumption))
    | (exfalso; omega)
theorem c_let_jul (w : World) (mean : ExcName → Option Value) (mg mb : Str → Option Value) (t0 : Tok) (y : Int) (t : Tok) (m : Int) (t2 : Tok) (d : Int) (t3 : Tok) :
   LetClaim w mean mg mb 174 [.str (Str.ofString "julian") t0, .int y t, .int m t2, .int d t3] (fun _ => .bool (julF y m d)) := by
  w_top off
  dsimp only [LetClaim]
  k_fill
  intros; rename_i hret
  k_steps
  all_goals first
    | ((have f4 := fm4 y); (try have hl := leap_t (by with_reducible assumption)); (try have hl := leap_f (by with_reducible assumption)); exact retB hret (by first | exact jF0 (by with_reducible assumption) | exact jF31 (by with_reducible assumption) | exact jT29 (by with_reducible assumption) (by with_reducible assumption) (by with_reducible assumption) (by with_reducible assumption) | exact jT28 (by with_reducible assumption) (by with_reducible assumption) (by with_reducible assumption) | exact jF29 (by with_reducible assumption) (by with_reducible assumption) | exact jF28 (by with_reducible assumption) (by with_reducible assumption) (by with_reducible assumption) | exact jT30 (by with_reducible assumption) (by with_reducible assumption) (by with_reducible assumption) | exact jF30 (by with_reducible assumption) (by with_reducible assumption) | exact jT31 (by with_reducible assumption) (by with_reducible assumption) (by with_reducible assumption) (by with_reducible assumption) | (unfold julF; first | exact decide_eq_true (by omega) | exact decide_eq_false (by omega))) (by assumption))
    | (exfalso; omega)
theorem c_let_pos (w : World) (mean : ExcName → Option Value) (mg mb : Str → Option Value) (t0 : Tok) (y : Int) (t : Tok) (m : Int) (t2 : Tok) (d : Int) (t3 : Tok) :
   LetClaim w mean mg mb 174 [.str (Str.ofString "positivist") t0, .int y t, .int m t2, .int d t3] (fun _ => .bool (posF y m d)) := by
  w_top off
  dsimp only [LetClaim]
  k_fill
  intros; rename_i hret
  k_steps
  all_goals first
    | ((have f4 := fm4 y); (try have hl := leap_t (by with_reducible assumption)); (try have hl := leap_f (by with_reducible assumption)); exact retB hret (by first | exact pFy (by with_reducible assumption) | exact pFn (by with_reducible assumption) | exact pFm (by with_reducible assumption) | exact pF0 (by with_reducible assumption) | exact pF28 (by with_reducible assumption) | exact pT2 (by with_reducible assumption) (by with_reducible assumption) hl (by with_reducible assumption) (by with_reducible assumption) | exact pT1 (by with_reducible assumption) (by with_reducible assumption) (by with_reducible assumption) | exact pF2 (by with_reducible assumption) (by with_reducible assumption) | exact pF1 (by with_reducible assumption) hl (by with_reducible assumption) (by with_reducible assumption) | exact pT (by with_reducible assumption) (by with_reducible assumption) (by with_reducible assumption) (by with_reducible assumption) (by with_reducible assumption) (by with_reducible assumption) | (unfold posF; first | exact decide_eq_true (by omega) | exact decide_eq_false (by omega))) (by assumption))
    | (exfalso; omega)
theorem c_let_mov (w : World) (mean : ExcName → Option Value) (mg mb : Str → Option Value) (t0 : Tok) (y : Int) (t : Tok) (m : Int) (t2 : Tok) (d : Int) (t3 : Tok) :
   LetClaim w mean mg mb 174 [.str (Str.ofString "moveable") t0, .int y t, .int m t2, .int d t3] (fun _ => .bool (movF y m d)) := by
  w_top off
  dsimp only [LetClaim]
  k_fill
  intros; rename_i hret
  k_steps
  all_goals first
    | exact retB hret (by first | exact mFy (by with_reducible assumption) | exact mFn (by with_reducible assumption) | exact mFm (by with_reducible assumption) | exact mF0 (by with_reducible assumption) | exact mT5 (by with_reducible assumption) (by with_reducible assumption) (by with_reducible assumption) (by with_reducible assumption) | exact mF5 (by with_reducible assumption) (by with_reducible assumption) | exact mT (by with_reducible assumption) (by with_reducible assumption) (by with_reducible assumption) (by with_reducible assumption) (by with_reducible assumption) (by with_reducible assumption) | exact mF30 (by with_reducible assumption)) (by assumption)
    | (exfalso; omega)
theorem c_let_sar (w : World) (mean : ExcName → Option Value) (mg mb : Str → Option Value) (t0 : Tok) (y : Int) (t : Tok) (m : Int) (t2 : Tok) (d : Int) (t3 : Tok) :
   LetClaim w mean mg mb 174 [.str (Str.ofString "sarkawag") t0, .int y t, .int m t2, .int d t3] (fun _ => .bool (sarF y m d)) := by
  w_top off
  dsimp only [LetClaim]
  k_fill
  intros; rename_i hret
  k_steps
  all_goals first
    | exact retB hret (by first | exact sFy (by with_reducible assumption) | exact sFz (by with_reducible assumption) | exact sFn (by with_reducible assumption) | exact sFm (by with_reducible assumption) | exact sF0 (by with_reducible assumption) | exact sT6 (by with_reducible assumption) (by with_reducible assumption) (by with_reducible assumption) (by with_reducible assumption) (by with_reducible assumption) | exact sT5 (by with_reducible assumption) (by with_reducible assumption) (by with_reducible assumption) (by with_reducible assumption) | exact sF6 (by with_reducible assumption) (by with_reducible assumption) | exact sF5 (by with_reducible assumption) (by with_reducible assumption) (by with_reducible assumption) | exact sT (by with_reducible assumption) (by with_reducible assumption) (by with_reducible assumption) (by with_reducible assumption) (by with_reducible assumption) (by with_reducible assumption) | exact sF30 (by with_reducible assumption)) (by assumption)
    | (exfalso; omega)
theorem c_let_lgreg (w : World) (mean : ExcName → Option Value) (mg mb : Str → Option Value) (t0 : Tok) (y : Int) (t : Tok) (m : Int) (t2 : Tok) (d : Int) (t3 : Tok) :
   LetClaim w mean mg mb 174 [.str (Str.ofString "legal gregorian") t0, .int y t, .int m t2, .int d t3] (fun _ => .bool (gregF y m d)) := by
  w_top off
  dsimp only [LetClaim]
  k_fill
  intros; rename_i hret
  k_steps
  all_goals first
    | ((have f4 := fm4 y); (try have hl := leap_t (by with_reducible assumption)); (try have hl := leap_f (by with_reducible assumption)); exact retB hret (by first | exact gF0 (by with_reducible assumption) | exact gF31 (by with_reducible assumption) | exact gT29 (by with_reducible assumption) hl (by with_reducible assumption) (by with_reducible assumption) | exact gT28 (by with_reducible assumption) (by with_reducible assumption) (by with_reducible assumption) | exact gF29 (by with_reducible assumption) (by with_reducible assumption) | exact gF28 (by with_reducible assumption) hl (by with_reducible assumption) | exact gT30 (by with_reducible assumption) (by with_reducible assumption) (by with_reducible assumption) | exact gF30 (by with_reducible assumption) (by with_reducible assumption) | exact gT31 (by with_reducible assumption) (by with_reducible assumption) (by with_reducible assumption) (by with_reducible assumption) | (unfold gregF; first | exact decide_eq_true (by omega) | exact decide_eq_false (by omega))) (by assumption))
    | (exfalso; omega)
theorem c_let_ljul (w : World) (mean : ExcName → Option Value) (mg mb : Str → Option Value) (t0 : Tok) (y : Int) (t : Tok) (m : Int) (t2 : Tok) (d : Int) (t3 : Tok) :
   LetClaim w mean mg mb 174 [.str (Str.ofString "legal julian") t0, .int y t, .int m t2, .int d t3] (fun _ => .bool (julF y m d)) := by
  w_top off
  dsimp only [LetClaim]
  k_fill
  intros; rename_i hret
  k_steps
  all_goals first
    | ((have f4 := fm4 y); (try have hl := leap_t (by with_reducible assumption)); (try have hl := leap_f (by with_reducible assumption)); exact retB hret (by first | exact jF0 (by with_reducible assumption) | exact jF31 (by with_reducible assumption) | exact jT29 (by with_reducible assumption) (by with_reducible assumption) (by with_reducible assumption) (by with_reducible assumption) | exact jT28 (by with_reducible assumption) (by with_reducible assumption) (by with_reducible assumption) | exact jF29 (by with_reducible assumption) (by with_reducible assumption) | exact jF28 (by with_reducible assumption) (by with_reducible assumption) (by with_reducible assumption) | exact jT30 (by with_reducible assumption) (by with_reducible assumption) (by with_reducible assumption) | exact jF30 (by with_reducible assumption) (by with_reducible assumption) | exact jT31 (by with_reducible assumption) (by with_reducible assumption) (by with_reducible assumption) (by with_reducible assumption) | (unfold julF; first | exact decide_eq_true (by omega) | exact decide_eq_false (by omega))) (by assumption))
    | (exfalso; omega)
theorem c_let_lpos (w : World) (mean : ExcName → Option Value) (mg mb : Str → Option Value) (t0 : Tok) (y : Int) (t : Tok) (m : Int) (t2 : Tok) (d : Int) (t3 : Tok) :
   LetClaim w mean mg mb 174 [.str (Str.ofString "legal positivist") t0, .int y t, .int m t2, .int d t3] (fun _ => .bool (posF y m d)) := by
  w_top off
  dsimp only [LetClaim]
  k_fill
  intros; rename_i hret
  k_steps
  all_goals first
    | ((have f4 := fm4 y); (try have hl := leap_t (by with_reducible assumption)); (try have hl := leap_f (by with_reducible assumption)); exact retB hret (by first | exact pFy (by with_reducible assumption) | exact pFn (by with_reducible assumption) | exact pFm (by with_reducible assumption) | exact pF0 (by with_reducible assumption) | exact pF28 (by with_reducible assumption) | exact pT2 (by with_reducible assumption) (by with_reducible assumption) hl (by with_reducible assumption) (by with_reducible assumption) | exact pT1 (by with_reducible assumption) (by with_reducible assumption) (by with_reducible assumption) | exact pF2 (by with_reducible assumption) (by with_reducible assumption) | exact pF1 (by with_reducible assumption) hl (by with_reducible assumption) (by with_reducible assumption) | exact pT (by with_reducible assumption) (by with_reducible assumption) (by with_reducible assumption) (by with_reducible assumption) (by with_reducible assumption) (by with_reducible assumption) | (unfold posF; first | exact decide_eq_true (by omega) | exact decide_eq_false (by omega))) (by assumption))
    | (exfalso; omega)
theorem c_let_cop (w : World) (mean : ExcName → Option Value) (mg mb : Str → Option Value) (t0 : Tok) (y : Int) (t : Tok) (m : Int) (t2 : Tok) (d : Int) (t3 : Tok) (hm : 13 < m) :
   LetClaim w mean mg mb 174 [.str (Str.ofString "coptic length") t0, .int y t, .int m t2, .int d t3] (fun _ => .bool false) := by
  w_top off
  dsimp only [LetClaim]
  k_fill
  intros; rename_i hret
  k_steps
  all_goals first
    | (exfalso; omega)
    | ((have f4 := fm4 y); (try have hl := leap_t (by with_reducible assumption)); (try have hl := leap_f (by with_reducible assumption)); exact retB hret (by rfl) (by assumption))
theorem c_let_arm (w : World) (mean : ExcName → Option Value) (mg mb : Str → Option Value) (t0 : Tok) (y : Int) (t : Tok) (m : Int) (t2 : Tok) (d : Int) (t3 : Tok) (hm : 13 < m) :
   LetClaim w mean mg mb 174 [.str (Str.ofString "armenian length") t0, .int y t, .int m t2, .int d t3] (fun _ => .bool false) := by
  w_top off
  dsimp only [LetClaim]
  k_fill
  intros; rename_i hret
  k_steps
  all_goals first
    | (exfalso; omega)
    | ((have f4 := fm4 y); (try have hl := leap_t (by with_reducible assumption)); (try have hl := leap_f (by with_reducible assumption)); exact retB hret (by rfl) (by assumption))
theorem c_let_gle (w : World) (mean : ExcName → Option Value) (mg mb : Str → Option Value) (t0 : Tok) (y : Int) (t : Tok) (m : Int) (t2 : Tok) (d : Int) (t3 : Tok) (hm : ¬ (1 ≤ m ∧ m ≤ 12)) :
   LetClaim w mean mg mb 174 [.str (Str.ofString "gregorian length") t0, .int y t, .int m t2, .int d t3] (fun _ => .bool false) := by
  w_top off
  dsimp only [LetClaim]
  k_fill
  intros; rename_i hret
  k_steps
  all_goals first
    | (exfalso; omega)
    | ((have f4 := fm4 y); (try have hl := leap_t (by with_reducible assumption)); (try have hl := leap_f (by with_reducible assumption)); exact retB hret (by rfl) (by assumption))
end
section
def Cut (P : Prop) : Prop := P
theorem cutI {M : Model} {A : Around} {E : Value → Shared → Prop} {s : Shared} {h : Heap} {tk : Nat} {env : Env} {st : Stmt} {rest : List Stmt} {Q : Flow → Shared → Prop} {h₀ : Heap} {L : Addr} {m : Str → Option Value} (F₀ : Fr h₀ L h m) (x : Str) (P : Int → Prop)
    (hs : wpAny M A (exec st env) (fun f s₁ => Cut (f = .next ∧ ∃ h' tk v t, s₁ = { s with heap := h', toks := tk } ∧ Fr h₀ L h' (fun y => if y = x then some (.int v t) else m y) ∧ P v)) E { s with heap := h, toks := tk })
    (k : ∀ h' tk v t, Fr h₀ L h' (fun y => if y = x then some (.int v t) else m y) → News h₀ L h' [] → P v → wpAny M A (execs rest env) Q E { s with heap := h', toks := tk }) : wpAny M A (execs (st :: rest) env) Q E { s with heap := h, toks := tk } := by
  rw [execs_cons]
  refine wpAny_bind (wpAny_mono hs (fun f s₁ h₁ => ?_) fun _ _ x => x)
  obtain ⟨rfl, h', tk, v, t, rfl, F, hP⟩ := h₁
  exact k h' tk v t F News.nil hP
theorem cutB {M : Model} {A : Around} {E : Value → Shared → Prop} {s : Shared} {h : Heap} {tk : Nat} {env : Env} {st : Stmt} {rest : List Stmt} {Q : Flow → Shared → Prop} {h₀ : Heap} {L : Addr} {m : Str → Option Value} (F₀ : Fr h₀ L h m) (x : Str) (b : Bool)
    (hs : wpAny M A (exec st env) (fun f s₁ => Cut (f = .next ∧ ∃ h' tk v, s₁ = { s with heap := h', toks := tk } ∧ Fr h₀ L h' (fun y => if y = x then some (.bool v) else m y) ∧ v = b)) E { s with heap := h, toks := tk })
    (k : ∀ h' tk, Fr h₀ L h' (fun y => if y = x then some (.bool b) else m y) → News h₀ L h' [] → wpAny M A (execs rest env) Q E { s with heap := h', toks := tk }) : wpAny M A (execs (st :: rest) env) Q E { s with heap := h, toks := tk } := by
  rw [execs_cons]
  refine wpAny_bind (wpAny_mono hs (fun f s₁ h₁ => ?_) fun _ _ x => x)
  obtain ⟨rfl, h', tk, v, rfl, F, rfl⟩ := h₁
  exact k h' tk F News.nil
theorem cutN {M : Model} {A : Around} {E : Value → Shared → Prop} {s : Shared} {h : Heap} {tk : Nat} {env : Env} {st : Stmt} {rest : List Stmt} {Q : Flow → Shared → Prop} {h₀ : Heap} {L : Addr} {m : Str → Option Value} (F₀ : Fr h₀ L h m)
    (hs : wpAny M A (exec st env) (fun f s₁ => Cut (f = .next ∧ ∃ h' tk, s₁ = { s with heap := h', toks := tk } ∧ Fr h₀ L h' m)) E { s with heap := h, toks := tk })
    (k : ∀ h' tk, Fr h₀ L h' m → News h₀ L h' [] → wpAny M A (execs rest env) Q E { s with heap := h', toks := tk }) : wpAny M A (execs (st :: rest) env) Q E { s with heap := h, toks := tk } := by
  rw [execs_cons]
  refine wpAny_bind (wpAny_mono hs (fun f s₁ h₁ => ?_) fun _ _ x => x)
  obtain ⟨rfl, h', tk, rfl, F⟩ := h₁
  exact k h' tk F News.nil
theorem not_bne {b : Bool} (h : (b != b) = true) : False := by simp at h
theorem newsOf {h₀ h : Heap} {L : Addr} {m : Str → Option Value} (_F : Fr h₀ L h m) : News h₀ L h [] := News.nil
theorem mon12 (x : Int) : 1 ≤ 1 + x.fmod 12 ∧ 1 + x.fmod 12 ≤ 12 := by
  rw [Int.fmod_eq_emod_of_nonneg _ (by decide)]; omega
theorem f400 (y : Int) (h : y % 400 = 0) : y % 4 = 0 := by
  have e := Int.emod_emod_of_dvd y (m := 4) (k := 400) ⟨100, rfl⟩
  rw [h] at e
  exact e.symm
theorem size_nat (f : Int) : ∀ k : Nat, k < 12 → [31, f, 31, 30, 31, 30, 31, 31, 30, 31, 30, 31].getD k 0 = if (k + 1 : Int) = 2 then f else if (k + 1 : Int) = 4 ∨ (k + 1 : Int) = 6 ∨ (k + 1 : Int) = 9 ∨ (k + 1 : Int) = 11 then 30 else 31
  | 0, _ => rfl | 1, _ => rfl | 2, _ => rfl | 3, _ => rfl | 4, _ => rfl | 5, _ => rfl | 6, _ => rfl | 7, _ => rfl | 8, _ => rfl | 9, _ => rfl | 10, _ => rfl | 11, _ => rfl
  | n + 12, h => absurd h (Nat.not_lt.mpr (Nat.le_add_left 12 n))
theorem size_at (f mon : Int) (h : 1 ≤ mon ∧ mon ≤ 12) : [31, f, 31, 30, 31, 30, 31, 31, 30, 31, 30, 31].getD (mon - 1).toNat 0 = if mon = 2 then f else if mon = 4 ∨ mon = 6 ∨ mon = 9 ∨ mon = 11 then 30 else 31 := by
  obtain ⟨k, hk⟩ := Int.eq_ofNat_of_zero_le (Int.sub_nonneg_of_le h.1)
  have e : mon = (k + 1 : Int) := by rw [← hk]; exact (Int.sub_add_cancel mon 1).symm
  rw [hk, e]
  refine size_nat f k ?_
  have := h.2
  rw [e] at this
  exact Int.ofNat_lt.mp this
theorem long_join (y : Int) : (if y.fmod 400 = 0 then y.fmod 400 == 0 else if y.fmod 4 = 0 then y.fmod 100 != 0 else y.fmod 4 == 0) = decide (Long y) := by
  rw [fm4, fm100, fm400]
  by_cases h : y % 400 = 0
  · rw [if_pos h, decide_eq_true ⟨f400 y h, .inr h⟩]
    exact decide_eq_true h
  · rw [if_neg h]
    by_cases h4 : y % 4 = 0
    · rw [if_pos h4]
      exact Bool.eq_iff_iff.mpr (bne_iff_ne.trans ⟨fun n => decide_eq_true ⟨h4, .inl n⟩, fun c => (of_decide_eq_true c).2.resolve_right h⟩)
    · rw [if_neg h4, decide_eq_false (fun c => h4 c.1)]
      exact decide_eq_false h4
theorem long_t {y : Int} (h : (if y.fmod 400 = 0 then y.fmod 400 == 0 else if y.fmod 4 = 0 then y.fmod 100 != 0 else y.fmod 4 == 0) = true) : Long y := of_decide_eq_true ((long_join y).symm.trans h)
theorem long_f {y : Int} (h : (if y.fmod 400 = 0 then y.fmod 400 == 0 else if y.fmod 4 = 0 then y.fmod 100 != 0 else y.fmod 4 == 0) = false) : ¬ Long y := of_decide_eq_false ((long_join y).symm.trans h)
theorem due_g29 {y m d : Int} (h1 : 1 ≤ d) (h : 1 ≤ m ∧ m ≤ 12) (hl : Long y) : decide (d ≤ [31, 29, 31, 30, 31, 30, 31, 31, 30, 31, 30, 31].getD (m - 1).toNat 0) = gregF y m d := by
  rw [size_at _ _ h]
  by_cases h2 : m = 2
  · rw [if_pos h2]
    by_cases hd : d ≤ 29
    · rw [decide_eq_true hd, gT29 h2 hl h1 hd]
    · rw [decide_eq_false hd, gF29 h2 hd]
  · rw [if_neg h2]
    by_cases h4 : m = 4 ∨ m = 6 ∨ m = 9 ∨ m = 11
    · rw [if_pos h4]
      by_cases hd : d ≤ 30
      · rw [decide_eq_true hd, gT30 h4 h1 hd]
      · rw [decide_eq_false hd, gF30 h4 hd]
    · rw [if_neg h4]
      by_cases hd : d ≤ 31
      · rw [decide_eq_true hd, gT31 h2 h4 h1 hd]
      · rw [decide_eq_false hd, gF31 hd]
theorem due_g28 {y m d : Int} (h1 : 1 ≤ d) (h : 1 ≤ m ∧ m ≤ 12) (hl : ¬ Long y) : decide (d ≤ [31, 28, 31, 30, 31, 30, 31, 31, 30, 31, 30, 31].getD (m - 1).toNat 0) = gregF y m d := by
  rw [size_at _ _ h]
  by_cases h2 : m = 2
  · rw [if_pos h2]
    by_cases hd : d ≤ 28
    · rw [decide_eq_true hd, gT28 h2 h1 hd]
    · rw [decide_eq_false hd, gF28 h2 hl hd]
  · rw [if_neg h2]
    by_cases h4 : m = 4 ∨ m = 6 ∨ m = 9 ∨ m = 11
    · rw [if_pos h4]
      by_cases hd : d ≤ 30
      · rw [decide_eq_true hd, gT30 h4 h1 hd]
      · rw [decide_eq_false hd, gF30 h4 hd]
    · rw [if_neg h4]
      by_cases hd : d ≤ 31
      · rw [decide_eq_true hd, gT31 h2 h4 h1 hd]
      · rw [decide_eq_false hd, gF31 hd]
theorem due_g0 {y m d : Int} (h1 : ¬ 1 ≤ d) : decide (1 ≤ d) = gregF y m d := by
  rw [decide_eq_false h1, gF0 h1]
theorem due_j29 {y m d : Int} (h1 : 1 ≤ d) (h : 1 ≤ m ∧ m ≤ 12) (hl : y.fmod 4 = 0) : decide (d ≤ [31, 29, 31, 30, 31, 30, 31, 31, 30, 31, 30, 31].getD (m - 1).toNat 0) = julF y m d := by
  rw [size_at _ _ h]
  by_cases h2 : m = 2
  · rw [if_pos h2]
    by_cases hd : d ≤ 29
    · rw [decide_eq_true hd, jT29 h2 hl h1 hd]
    · rw [decide_eq_false hd, jF29 h2 hd]
  · rw [if_neg h2]
    by_cases h4 : m = 4 ∨ m = 6 ∨ m = 9 ∨ m = 11
    · rw [if_pos h4]
      by_cases hd : d ≤ 30
      · rw [decide_eq_true hd, jT30 h4 h1 hd]
      · rw [decide_eq_false hd, jF30 h4 hd]
    · rw [if_neg h4]
      by_cases hd : d ≤ 31
      · rw [decide_eq_true hd, jT31 h2 h4 h1 hd]
      · rw [decide_eq_false hd, jF31 hd]
theorem due_j28 {y m d : Int} (h1 : 1 ≤ d) (h : 1 ≤ m ∧ m ≤ 12) (hl : ¬ y.fmod 4 = 0) : decide (d ≤ [31, 28, 31, 30, 31, 30, 31, 31, 30, 31, 30, 31].getD (m - 1).toNat 0) = julF y m d := by
  rw [size_at _ _ h]
  by_cases h2 : m = 2
  · rw [if_pos h2]
    by_cases hd : d ≤ 28
    · rw [decide_eq_true hd, jT28 h2 h1 hd]
    · rw [decide_eq_false hd, jF28 h2 hl hd]
  · rw [if_neg h2]
    by_cases h4 : m = 4 ∨ m = 6 ∨ m = 9 ∨ m = 11
    · rw [if_pos h4]
      by_cases hd : d ≤ 30
      · rw [decide_eq_true hd, jT30 h4 h1 hd]
      · rw [decide_eq_false hd, jF30 h4 hd]
    · rw [if_neg h4]
      by_cases hd : d ≤ 31
      · rw [decide_eq_true hd, jT31 h2 h4 h1 hd]
      · rw [decide_eq_false hd, jF31 hd]
theorem due_j0 {y m d : Int} (h1 : ¬ 1 ≤ d) : decide (1 ≤ d) = julF y m d := by
  rw [decide_eq_false h1, jF0 h1]
theorem due_p {y m d z : Int} (hy : y ≥ 1) (m1 : 1 ≤ m) (m2 : m ≤ 14) (h1 : 1 ≤ d) (hz : (m < 14 → z = 28) ∧ (14 ≤ m → Long (y + 1788) → z = 2) ∧ (14 ≤ m → ¬ Long (y + 1788) → z = 1)) : decide (d ≤ z) = posF y m d := by
  by_cases hm : m = 14
  · have hm' : 14 ≤ m := by rw [hm]; decide
    by_cases hl : Long (y + 1788)
    · rw [hz.2.1 hm' hl]
      by_cases hd : d ≤ 2
      · rw [decide_eq_true hd, pT2 hy hm (by rw [plong]; exact hl) h1 hd]
      · rw [decide_eq_false hd, pF2 hm hd]
    · rw [hz.2.2 hm' hl]
      by_cases hd : d ≤ 1
      · rw [decide_eq_true hd, pT1 hy hm (Int.le_antisymm hd h1)]
      · rw [decide_eq_false hd, pF1 hm (by rw [plong]; exact hl) h1 fun q => hd (by rw [q]; decide)]
  · rw [hz.1 (by omega)]
    by_cases hd : d ≤ 28
    · rw [decide_eq_true hd, pT hy m1 m2 hm h1 hd]
    · rw [decide_eq_false hd, pF28 hd]
section
variable {y m d : Int}
theorem un13 (m2 : m ≤ 13) (h : ¬ m < 13) : m = 13 := Int.le_antisymm m2 (Int.not_lt.mp h)
theorem lt_ne {k : Int} (h : m < k) : m ≠ k := fun e => absurd h (by rw [e]; exact Int.lt_irrefl k)
theorem due_of {P : Prop} [Decidable P] {b : Bool} (t : P → b = true) (f : ¬ P → b = false) : decide P = b := by
  by_cases h : P
  · rw [decide_eq_true h, t h]
  · rw [decide_eq_false h, f h]
theorem due_m30 (hy : 1 ≤ y) (m1 : 1 ≤ m) (m2 : m ≤ 13) (hm : m < 13) (h1 : 1 ≤ d) : decide (d ≤ 30) = movF y m d := due_of (mT hy m1 m2 (lt_ne hm) h1) mF30
theorem due_m5 (hy : 1 ≤ y) (m2 : m ≤ 13) (hm : ¬ m < 13) (h1 : 1 ≤ d) : decide (d ≤ 5) = movF y m d := due_of (mT5 hy (un13 m2 hm) h1) (mF5 (un13 m2 hm))
theorem due_m0 (h : ¬ 1 ≤ d) : decide (1 ≤ d) = movF y m d := due_of (fun c => absurd c h) mF0
theorem due_mm (h : ¬ m ≤ 13) : decide (m ≤ 13) = movF y m d := due_of (fun c => absurd c h) mFm
theorem due_mn (h : ¬ 1 ≤ m) : decide (1 ≤ m) = movF y m d := due_of (fun c => absurd c h) mFn
theorem due_my (h : ¬ 1 ≤ y) : decide (1 ≤ y) = movF y m d := due_of (fun c => absurd c h) mFy
theorem due_s30 (hy : 533 ≤ y) (m1 : 1 ≤ m) (m2 : m ≤ 13) (hm : m < 13) (h1 : 1 ≤ d) : decide (d ≤ 30) = sarF y m d := due_of (sT hy m1 m2 (lt_ne hm) h1) sF30
theorem due_s6 (hy : 533 ≤ y) (m2 : m ≤ 13) (hm : ¬ m < 13) (hl : y.fmod 4 = 0) (h1 : 1 ≤ d) : decide (d ≤ 6) = sarF y m d := due_of (sT6 (Int.not_lt.mpr hy) (un13 m2 hm) hl h1) (sF6 (un13 m2 hm))
theorem due_s5 (hy : 533 ≤ y) (m2 : m ≤ 13) (hm : ¬ m < 13) (hl : y.fmod 4 ≠ 0) (h1 : 1 ≤ d) : decide (d ≤ 5) = sarF y m d := due_of (sT5 (Int.not_lt.mpr hy) (un13 m2 hm) h1) (sF5 (un13 m2 hm) hl)
theorem due_s0 (h : ¬ 1 ≤ d) : decide (1 ≤ d) = sarF y m d := due_of (fun c => absurd c h) sF0
theorem due_sm (h : ¬ m ≤ 13) : decide (m ≤ 13) = sarF y m d := due_of (fun c => absurd c h) sFm
theorem due_sn (h : ¬ 1 ≤ m) : decide (1 ≤ m) = sarF y m d := due_of (fun c => absurd c h) sFn
theorem due_sy (h : ¬ 533 ≤ y) : decide (533 ≤ y) = sarF y m d := due_of (fun c => absurd c h) sFy
theorem due_p0 (h : ¬ 1 ≤ d) : decide (1 ≤ d) = posF y m d := due_of (fun c => absurd c h) pF0
theorem due_pm (h : ¬ m ≤ 14) : decide (m ≤ 14) = posF y m d := due_of (fun c => absurd c h) pFm
theorem due_pn (h : ¬ 1 ≤ m) : decide (1 ≤ m) = posF y m d := due_of (fun c => absurd c h) pFn
theorem due_py (h : ¬ 1 ≤ y) : decide (1 ≤ y) = posF y m d := due_of (fun c => absurd c h) pFy
theorem sz28 (h : m < 14) : (m < 14 → (28 : Int) = 28) ∧ (14 ≤ m → Long (y + 1788) → (28 : Int) = 2) ∧ (14 ≤ m → ¬ Long (y + 1788) → (28 : Int) = 1) := ⟨fun _ => rfl, fun g => absurd h (Int.not_lt.mpr g), fun g => absurd h (Int.not_lt.mpr g)⟩
theorem sz2 (h : ¬ m < 14) (hl : Long (y + 1788)) : (m < 14 → (2 : Int) = 28) ∧ (14 ≤ m → Long (y + 1788) → (2 : Int) = 2) ∧ (14 ≤ m → ¬ Long (y + 1788) → (2 : Int) = 1) := ⟨fun g => absurd g h, fun _ _ => rfl, fun _ n => absurd hl n⟩
theorem sz1 (h : ¬ m < 14) (hl : ¬ Long (y + 1788)) : (m < 14 → (1 : Int) = 28) ∧ (14 ≤ m → Long (y + 1788) → (1 : Int) = 2) ∧ (14 ≤ m → ¬ Long (y + 1788) → (1 : Int) = 1) := ⟨fun g => absurd g h, fun _ q => absurd q hl, fun _ _ => rfl⟩
theorem abs_ge (x : Int) : 0 ≤ if x < 0 then -x else x := by
  by_cases h : x < 0
  · rw [if_pos h]; exact Int.neg_nonneg_of_nonpos (Int.le_of_lt h)
  · rw [if_neg h]; exact Int.not_lt.mp h
theorem far14 (x : Int) : 14 ≤ 14 + if x < 0 then -x else x := Int.le_add_of_nonneg_right (abs_ge x)
end
theorem ng1 {x : Int} (h : 14 ≤ x) : ¬ (1 ≤ x - 1 ∧ x - 1 ≤ 12) := fun c => absurd (Int.le_trans h (Int.le_add_of_sub_right_le c.2)) (by decide)
theorem ng2 (x : Int) : ¬ (1 ≤ -(if x < 0 then -x else x) ∧ -(if x < 0 then -x else x) ≤ 12) := fun c => absurd (Int.le_trans c.1 (Int.neg_nonpos_of_nonneg (abs_ge x))) (by decide)
theorem lt13 {x : Int} (h : 14 ≤ x) : 13 < x := h
theorem law_walk : PySem.Challenge.rw_ja0022_01.Holds := hd (by
  k_with_none
  (k_with "call ref" => (k_here; (with_reducible show wpAny _ _ (call (Value.ref 174) [Value.str (PySem.Str.ofString "gregorian") _, Value.int _ _, Value.int _ _, Value.int _ _]) _ _ _); k_dflt (refine' c_let_greg _ _ _ _ _ _ _ _ _ _ _ _ _ _ _ _ _ _ _ _ _ _ _  ?q9cB ?q9cF ?q9cX ?q9cN ?q9cT ?_; (case q9cF => k_asm); (case q9cX => k_asm); (case q9cT => k_asm); (case q9cB => assumption); (case q9cN => exact News.nil); k_whole); intro t9 h9 tk9 F9; (have N9 := newsOf F9); (try dsimp only)))
  (k_with "call ref" => (k_here; (with_reducible show wpAny _ _ (call (Value.ref 174) [Value.str (PySem.Str.ofString "julian") _, Value.int _ _, Value.int _ _, Value.int _ _]) _ _ _); k_dflt (refine' c_let_jul _ _ _ _ _ _ _ _ _ _ _ _ _ _ _ _ _ _ _ _ _ _ _  ?q9cB ?q9cF ?q9cX ?q9cN ?q9cT ?_; (case q9cF => k_asm); (case q9cX => k_asm); (case q9cT => k_asm); (case q9cB => assumption); (case q9cN => exact News.nil); k_whole); intro t9 h9 tk9 F9; (have N9 := newsOf F9); (try dsimp only)))
  (k_with "call ref" => (k_here; (with_reducible show wpAny _ _ (call (Value.ref 174) [Value.str (PySem.Str.ofString "positivist") _, Value.int _ _, Value.int _ _, Value.int _ _]) _ _ _); k_dflt (refine' c_let_pos _ _ _ _ _ _ _ _ _ _ _ _ _ _ _ _ _ _ _ _ _ _ _  ?q9cB ?q9cF ?q9cX ?q9cN ?q9cT ?_; (case q9cF => k_asm); (case q9cX => k_asm); (case q9cT => k_asm); (case q9cB => assumption); (case q9cN => exact News.nil); k_whole); intro t9 h9 tk9 F9; (have N9 := newsOf F9); (try dsimp only)))
  (k_with "call ref" => (k_here; (with_reducible show wpAny _ _ (call (Value.ref 174) [Value.str (PySem.Str.ofString "moveable") _, Value.int _ _, Value.int _ _, Value.int _ _]) _ _ _); k_dflt (refine' c_let_mov _ _ _ _ _ _ _ _ _ _ _ _ _ _ _ _ _ _ _ _ _ _ _  ?q9cB ?q9cF ?q9cX ?q9cN ?q9cT ?_; (case q9cF => k_asm); (case q9cX => k_asm); (case q9cT => k_asm); (case q9cB => assumption); (case q9cN => exact News.nil); k_whole); intro t9 h9 tk9 F9; (have N9 := newsOf F9); (try dsimp only)))
  (k_with "call ref" => (k_here; (with_reducible show wpAny _ _ (call (Value.ref 174) [Value.str (PySem.Str.ofString "sarkawag") _, Value.int _ _, Value.int _ _, Value.int _ _]) _ _ _); k_dflt (refine' c_let_sar _ _ _ _ _ _ _ _ _ _ _ _ _ _ _ _ _ _ _ _ _ _ _  ?q9cB ?q9cF ?q9cX ?q9cN ?q9cT ?_; (case q9cF => k_asm); (case q9cX => k_asm); (case q9cT => k_asm); (case q9cB => assumption); (case q9cN => exact News.nil); k_whole); intro t9 h9 tk9 F9; (have N9 := newsOf F9); (try dsimp only)))
  (k_with "call ref" => (k_here; (with_reducible show wpAny _ _ (call (Value.ref 174) [Value.str (PySem.Str.ofString "legal gregorian") _, Value.int _ _, Value.int _ _, Value.int _ _]) _ _ _); k_dflt (refine' c_let_lgreg _ _ _ _ _ _ _ _ _ _ _ _ _ _ _ _ _ _ _ _ _ _ _  ?q9cB ?q9cF ?q9cX ?q9cN ?q9cT ?_; (case q9cF => k_asm); (case q9cX => k_asm); (case q9cT => k_asm); (case q9cB => assumption); (case q9cN => exact News.nil); k_whole); intro t9 h9 tk9 F9; (have N9 := newsOf F9); (try dsimp only)))
  (k_with "call ref" => (k_here; (with_reducible show wpAny _ _ (call (Value.ref 174) [Value.str (PySem.Str.ofString "legal julian") _, Value.int _ _, Value.int _ _, Value.int _ _]) _ _ _); k_dflt (refine' c_let_ljul _ _ _ _ _ _ _ _ _ _ _ _ _ _ _ _ _ _ _ _ _ _ _  ?q9cB ?q9cF ?q9cX ?q9cN ?q9cT ?_; (case q9cF => k_asm); (case q9cX => k_asm); (case q9cT => k_asm); (case q9cB => assumption); (case q9cN => exact News.nil); k_whole); intro t9 h9 tk9 F9; (have N9 := newsOf F9); (try dsimp only)))
  (k_with "call ref" => (k_here; (with_reducible show wpAny _ _ (call (Value.ref 174) [Value.str (PySem.Str.ofString "legal positivist") _, Value.int _ _, Value.int _ _, Value.int _ _]) _ _ _); k_dflt (refine' c_let_lpos _ _ _ _ _ _ _ _ _ _ _ _ _ _ _ _ _ _ _ _ _ _ _  ?q9cB ?q9cF ?q9cX ?q9cN ?q9cT ?_; (case q9cF => k_asm); (case q9cX => k_asm); (case q9cT => k_asm); (case q9cB => assumption); (case q9cN => exact News.nil); k_whole); intro t9 h9 tk9 F9; (have N9 := newsOf F9); (try dsimp only)))
  (k_with "call ref" => (k_here; (with_reducible show wpAny _ _ (call (Value.ref 174) [Value.str (PySem.Str.ofString "coptic length") _, Value.int _ _, Value.int _ _, Value.int _ _]) _ _ _); k_dflt (refine' c_let_cop _ _ _ _ _ _ _ _ _ _ _ ?q9hm _ _ _ _ _ _ _ _ _ _ _ _  ?q9cB ?q9cF ?q9cX ?q9cN ?q9cT ?_; (case q9hm => first | exact lt13 (by with_reducible assumption) | exact ng1 (by with_reducible assumption) | exact ng2 _ | omega); (case q9cF => k_asm); (case q9cX => k_asm); (case q9cT => k_asm); (case q9cB => assumption); (case q9cN => exact News.nil); k_whole); intro t9 h9 tk9 F9; (have N9 := newsOf F9); (try dsimp only)))
  (k_with "call ref" => (k_here; (with_reducible show wpAny _ _ (call (Value.ref 174) [Value.str (PySem.Str.ofString "armenian length") _, Value.int _ _, Value.int _ _, Value.int _ _]) _ _ _); k_dflt (refine' c_let_arm _ _ _ _ _ _ _ _ _ _ _ ?q9hm _ _ _ _ _ _ _ _ _ _ _ _  ?q9cB ?q9cF ?q9cX ?q9cN ?q9cT ?_; (case q9hm => first | exact lt13 (by with_reducible assumption) | exact ng1 (by with_reducible assumption) | exact ng2 _ | omega); (case q9cF => k_asm); (case q9cX => k_asm); (case q9cT => k_asm); (case q9cB => assumption); (case q9cN => exact News.nil); k_whole); intro t9 h9 tk9 F9; (have N9 := newsOf F9); (try dsimp only)))
  (k_with "call ref" => (k_here; (with_reducible show wpAny _ _ (call (Value.ref 174) [Value.str (PySem.Str.ofString "gregorian length") _, Value.int _ _, Value.int _ _, Value.int _ _]) _ _ _); k_dflt (refine' c_let_gle _ _ _ _ _ _ _ _ _ _ _ ?q9hm _ _ _ _ _ _ _ _ _ _ _ _  ?q9cB ?q9cF ?q9cX ?q9cN ?q9cT ?_; (case q9hm => first | exact lt13 (by with_reducible assumption) | exact ng1 (by with_reducible assumption) | exact ng2 _ | omega); (case q9cF => k_asm); (case q9cX => k_asm); (case q9cT => k_asm); (case q9cB => assumption); (case q9cN => exact News.nil); k_whole); intro t9 h9 tk9 F9; (have N9 := newsOf F9); (try dsimp only)))
  (k_with "eval Name" => (k_here; k_dflt (first
  | (name_kind "local"; (refine' nameX_L ?q9F ?q9v ?_ ?q9a ?q9b ?q9d); (case q9F => k_asm); (case q9a => rfl); (case q9b => kernel_rfl!); (case q9v => rfl); (case q9d => kernel_rfl!); k_whole)
  | (name_kind "globalImplicit"; (refine' nameX_K ?q9F ?q9X ?q9T ?q9e ?_ ?q9a ?q9b ?q9d); (case q9F => k_asm); (case q9X => k_asm); (case q9T => k_asm); (case q9a => rfl); (case q9b => kernel_rfl!); (case q9d => kernel_rfl!); (case q9e => k_is); k_whole))))
  (k_with "KCj" => (kpf_tidy; (refine kcj_end (t := (0 : Nat)) ?q9kce (by with_unfolding_all rfl) rfl (by assumption) (by assumption) (by kcj_all)); (case q9kce => kpf_eq)))
  k_go0
  all_goals try k_fold
  rename Fr _ _ _ _ => F0
  refine cutI F0 (Str.ofString "number") (fun _ => True) ?_ ?_
  · k_fold
    k_steps
    all_goals exact ⟨rfl, _, _, _, _, rfl, (by assumption), trivial⟩
  intro h1 k1 num t1 F1 N1 _
  refine cutI F1 (Str.ofString "year") (fun _ => True) ?_ ?_
  · k_fold
    k_steps
    all_goals exact ⟨rfl, _, _, _, _, rfl, (by assumption), trivial⟩
  intro h2 k2 yr t2 F2 N2 _
  refine cutI F2 (Str.ofString "month") (fun v => 1 ≤ v ∧ v ≤ 12) ?_ ?_
  · k_fold
    k_steps
    all_goals exact ⟨rfl, _, _, _, _, rfl, (by assumption), mon12 _⟩
  intro h3 k3 mon t3 F3 N3 hm
  refine cutI F3 (Str.ofString "day") (fun _ => True) ?_ ?_
  · k_fold
    k_steps
    all_goals exact ⟨rfl, _, _, _, _, rfl, (by assumption), trivial⟩
  intro h4 k4 dy t4 F4 N4 _
  clear F0 F1 F2 F3 N1 N2 N3
  refine cutB F4 (Str.ofString "due") (gregF yr mon dy) ?_ ?_
  · k_fold
    k_steps
    all_goals refine ⟨rfl, _, _, _, rfl, (by assumption), ?_⟩
    all_goals first
      | exact due_g0 (by assumption)
      | exact due_g29 (by assumption) hm (long_t (by assumption))
      | exact due_g28 (by assumption) hm (long_f (by assumption))
  intro h5 k5 F5 N5
  refine cutN F5 ?_ ?_
  · k_fold
    k_steps
    all_goals first
      | exact (not_bne (by with_reducible assumption)).elim
      | exact ⟨rfl, _, _, rfl, (by assumption)⟩
  intro h6 k6 F6 N6
  clear F4 N4 F5 N5
  refine cutB F6 (Str.ofString "due") (julF yr mon dy) ?_ ?_
  · k_fold
    k_steps
    all_goals refine ⟨rfl, _, _, _, rfl, (by assumption), ?_⟩
    all_goals first
      | exact due_j0 (by assumption)
      | exact due_j29 (by assumption) hm (by assumption)
      | exact due_j28 (by assumption) hm (by assumption)
  intro h7 k7 F7 N7
  refine cutN F7 ?_ ?_
  · k_fold
    k_steps
    all_goals first
      | exact (not_bne (by with_reducible assumption)).elim
      | exact ⟨rfl, _, _, rfl, (by assumption)⟩
  intro h8 k8 F8 N8
  clear F6 N6 F7 N7
  refine cutI F8 (Str.ofString "year") (fun v => True) ?_ ?_
  · k_fold
    k_steps
    all_goals exact ⟨rfl, _, _, _, _, rfl, (by assumption), trivial⟩
  intro h9 k9 yr2 t9 F9 N9 _
  refine cutI F9 (Str.ofString "month") (fun v => True) ?_ ?_
  · k_fold
    k_steps
    all_goals exact ⟨rfl, _, _, _, _, rfl, (by assumption), trivial⟩
  intro h10 k10 mon2 t10 F10 N10 _
  refine cutI F10 (Str.ofString "day") (fun v => True) ?_ ?_
  · k_fold
    k_steps
    all_goals exact ⟨rfl, _, _, _, _, rfl, (by assumption), trivial⟩
  intro h11 k11 dy2 t11 F11 N11 _
  clear F8 N8 F9 N9 F10 N10
  refine cutI F11 (Str.ofString "size") (fun v => (mon2 < 14 → v = 28) ∧ (14 ≤ mon2 → Long (yr2 + 1788) → v = 2) ∧ (14 ≤ mon2 → ¬ Long (yr2 + 1788) → v = 1)) ?_ ?_
  · k_fold
    k_steps
    all_goals exact ⟨rfl, _, _, _, _, rfl, (by assumption), by first | exact sz28 (by with_reducible assumption) | exact sz2 (by with_reducible assumption) (long_t (by with_reducible assumption)) | exact sz1 (by with_reducible assumption) (long_f (by with_reducible assumption))⟩
  intro h12 k12 sz t12 F12 N12 hsz
  refine cutB F12 (Str.ofString "due") (posF yr2 mon2 dy2) ?_ ?_
  · k_fold
    k_steps
    all_goals refine ⟨rfl, _, _, _, rfl, (by assumption), ?_⟩
    all_goals first | exact due_p (by with_reducible assumption) (by with_reducible assumption) (by with_reducible assumption) (by with_reducible assumption) hsz | exact due_py (by with_reducible assumption) | exact due_pn (by with_reducible assumption) | exact due_pm (by with_reducible assumption) | exact due_p0 (by with_reducible assumption)
  intro h13 k13 F13 N13
  clear hsz
  refine cutN F13 ?_ ?_
  · k_fold
    k_steps
    all_goals first
      | exact (not_bne (by with_reducible assumption)).elim
      | exact ⟨rfl, _, _, rfl, (by assumption)⟩
  intro h14 k14 F14 N14
  clear F11 N11 F12 N12 F13 N13
  refine cutI F14 (Str.ofString "year") (fun v => True) ?_ ?_
  · k_fold
    k_steps
    all_goals exact ⟨rfl, _, _, _, _, rfl, (by assumption), trivial⟩
  intro h15 k15 yr3 t15 F15 N15 _
  refine cutI F15 (Str.ofString "month") (fun v => True) ?_ ?_
  · k_fold
    k_steps
    all_goals exact ⟨rfl, _, _, _, _, rfl, (by assumption), trivial⟩
  intro h16 k16 mon3 t16 F16 N16 _
  refine cutI F16 (Str.ofString "day") (fun v => True) ?_ ?_
  · k_fold
    k_steps
    all_goals exact ⟨rfl, _, _, _, _, rfl, (by assumption), trivial⟩
  intro h17 k17 dy3 t17 F17 N17 _
  clear F14 N14 F15 N15 F16 N16
  refine cutB F17 (Str.ofString "due") (movF yr3 mon3 dy3) ?_ ?_
  · k_fold
    k_steps
    all_goals refine ⟨rfl, _, _, _, rfl, (by assumption), ?_⟩
    all_goals first | exact due_m30 (by with_reducible assumption) (by with_reducible assumption) (by with_reducible assumption) (by with_reducible assumption) (by with_reducible assumption) | exact due_m5 (by with_reducible assumption) (by with_reducible assumption) (by with_reducible assumption) (by with_reducible assumption) | exact due_my (by with_reducible assumption) | exact due_mn (by with_reducible assumption) | exact due_mm (by with_reducible assumption) | exact due_m0 (by with_reducible assumption)
  intro h18 k18 F18 N18
  refine cutN F18 ?_ ?_
  · k_fold
    k_steps
    all_goals first
      | exact (not_bne (by with_reducible assumption)).elim
      | exact ⟨rfl, _, _, rfl, (by assumption)⟩
  intro h19 k19 F19 N19
  clear F17 N17 F18 N18
  refine cutB F19 (Str.ofString "due") (sarF yr3 mon3 dy3) ?_ ?_
  · k_fold
    k_steps
    all_goals refine ⟨rfl, _, _, _, rfl, (by assumption), ?_⟩
    all_goals first | exact due_s30 (by with_reducible assumption) (by with_reducible assumption) (by with_reducible assumption) (by with_reducible assumption) (by with_reducible assumption) | exact due_s6 (by with_reducible assumption) (by with_reducible assumption) (by with_reducible assumption) (by with_reducible assumption) (by with_reducible assumption) | exact due_s5 (by with_reducible assumption) (by with_reducible assumption) (by with_reducible assumption) (by with_reducible assumption) (by with_reducible assumption) | exact due_sy (by with_reducible assumption) | exact due_sn (by with_reducible assumption) | exact due_sm (by with_reducible assumption) | exact due_s0 (by with_reducible assumption)
  intro h20 k20 F20 N20
  refine cutN F20 ?_ ?_
  · k_fold
    k_steps
    all_goals first
      | exact (not_bne (by with_reducible assumption)).elim
      | exact ⟨rfl, _, _, rfl, (by assumption)⟩
  intro h21 k21 F21 N21
  clear F19 N19 F20 N20
  refine cutI F21 (Str.ofString "far") (fun v => 14 ≤ v) ?_ ?_
  · k_fold
    k_steps
    all_goals exact ⟨rfl, _, _, _, _, rfl, (by assumption), far14 _⟩
  intro h22 k22 far t22 F22 N22 hfar
  clear F21 N21
  refine cutN F22 ?_ ?_
  · k_fold
    k_steps
    all_goals first
      | exact (not_bne (by with_reducible assumption)).elim
      | exact ⟨rfl, _, _, rfl, (by assumption)⟩
  intro h23 k23 F23 N23
  clear F22 N22
  k_steps)
end
end Mine
theorem PySem.Challenge.cw_ja0022_01_holds : PySem.Challenge.rw_ja0022_01.Holds := by
  exact Mine.law_walk
