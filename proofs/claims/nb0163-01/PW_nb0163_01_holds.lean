import PyProof.Rows.All
import Wide.All
import OpenK.AllK
import Wide.FinOn
import PySem.Challenge.RW_nb0163_01
open PySem PySem.W PySem.W.X PySem.Calls PyProof.Rows
set_option maxRecDepth 100000
set_option maxHeartbeats 0
set_option Elab.async false
namespace Mine
open_top tp for PySem.Challenge.rw_nb0163_01
local macro_rules | `(tactic| walk_at $s:str) => `(tactic| k_extra $s)
local macro_rules | `(tactic| x_close) => `(tactic| k_extra "x_close")
abbrev Keep (h h' : Heap) : Prop := ∀ b o, h.get? b = some o → h'.get? b = some o
def Held (P : Prop) : Prop := P
theorem held {P : Prop} (h : Held P) : P := h
theorem unheld {P : Prop} (h : P) : Held P := h
theorem keep_hide {b₀ h : Heap} {as : List Addr} (k : Keep b₀ h) (hf : ∀ a ∈ as, b₀.get? a = none) : Keep b₀ (hideAll h as) := fun b o e =>
  hideAll_get as (k b o e) fun hm => by rw [hf b hm] at e; cases e
theorem keep_end {h₀ g h : Heap} {L : Addr} {m : Str → Option Value} {news : List (Addr × Obj)} (eg : g = hideAll h₀ (news.map (·.1))) (hn : ∀ q ∈ news, h₀.get? q.1 = some q.2) (F : Fr g L h m) (N : News g L h news) : Keep h₀ h := fun b o e => by
  by_cases hm : b ∈ news.map (·.1)
  · obtain ⟨q, hq, rfl⟩ := List.mem_map.mp hm
    have h1 := hn q hq
    rw [e] at h1; cases h1
    exact (N q hq).1
  · exact F.keep b o (eg ▸ hideAll_get _ e hm)
theorem enter {prog : Program} {w : World} {A : Around} {s : Shared} {K : Frag} {R : Result → Shared → Prop} {name qual : Str} {params : Arguments} {body : List Stmt} {scope : Scope} {dV kV doc pm cdv ct oc : Value} {an od : Option Addr} {osl : Array (Option Value)} {f : Addr} {args : Args} {binds : List (Str × Value)}
    {b₀ : Heap} {p : Program} {loose : List Str} {mg mb : Str → Option Value} (news : List (Addr × Obj))
    (X : K.In b₀) (T : TopRead p loose mg mb b₀) (hb : Keep b₀ s.heap) (hn : ∀ q ∈ news, s.heap.get? q.1 = some q.2 ∧ b₀.get? q.1 = none) (hroom : A.depth < 900)
    (ho : K.lookup f = some ⟨oc, od, .func (fnOf name qual params body scope dV kV doc pm an cdv ct), osl⟩) (hcd : codeIn K cdv qual = true)
    (hbind : BindsTo s (fnOf name qual params body scope dV kV doc pm an cdv ct) args binds) (hloc : ∀ y ∈ binds, scope.names.lookup y.1 = some .local)
    (h : ∀ g L' h₁, g = hideAll s.heap (news.map (·.1)) → L' = s.heap.objs.size → Keep s.heap h₁ → K.In g → TopRead p loose mg mb g → Fr g L' h₁ (fun y => binds.reverse.lookup y) → News g L' h₁ news →
      wpAny (model prog w) (A.deeper (envOf qual scope L' f cdv)) (execs body (envOf qual scope L' f cdv))
        (fun fl s' => R (.ok (.ret (match fl with | .ret v => v | _ => .none))) s')
        (fun e s' => wpAny (model prog w) (A.deeper (envOf qual scope L' f cdv)) (leaving (envOf qual scope L' f cdv) e) (fun _ s'' => R (.error e) s'') (fun e' s'' => R (.error e') s'') s')
        { s with heap := h₁, toks := s.toks + binds.length })
    (hco : scope.isCoroutine = false) (hgen : scope.isGenerator = false) (hk : scope.kind = .function)
    (hcell : ∀ x ∈ scope.names, x.2 ≠ .cell) : codeAny (model prog w) A (.call (.ref f) args) R s := by
  have kg : Keep b₀ (hideAll s.heap (news.map (·.1))) := keep_hide hb fun a ha => by
    obtain ⟨q, hq, rfl⟩ := List.mem_map.mp ha
    exact (hn q hq).2
  exact codeAny_call_def (fd := fnOf name qual params body scope dV kV doc pm an cdv ct) (body := body) (binds := binds) (by show A.depth < 1000; omega) (hb _ _ (X _ _ ho)) rfl (T.nolimit.keeps hb) (codeRec_of (X.keeps hb) hcd) rfl hbind hcell hloc
    (fun h₁ hns hk₁ => h _ s.heap.objs.size h₁ rfl rfl hk₁ (X.keeps kg) (T.keeps kg) ⟨hns, fun b o e => hk₁ b o (of_hideAll _ e), Nat.le_of_eq (hideAll_size _ _)⟩
      fun q hq => ⟨hk₁ _ _ (hn q hq).1, Nat.ne_of_lt (Heap.lt_size (hn q hq).1), hideAll_none _ (List.mem_map_of_mem hq)⟩) hco hgen hk
/-- how an exception of an own class answers -/
noncomputable def excIn (K : Frag) (D : Addr) : Bool := findIn K (.ref D) "__getattribute__" == some (some (.builtin "BaseException.__getattribute__")) && findIn K (.ref D) "__getattr__" == some none && mroIn K D (.type "BaseException") == some true && hasDictIn K D
noncomputable def clsE (K : Frag) (D : Addr) : Bool := findIn K (.ref D) "__class__" == some (some (.builtin "object.__class__")) && specialIn K (.builtin "object.__class__") "__get__" == some (some (.builtin "getset_descriptor.__get__")) && takesIn K (.builtin "object.__class__") == some true && mroIn K D (.type "object") == some true
/-- the looks at class D that reading an attribute of such an object takes -/
structure Gets (M : Model) (h : Heap) (D : Addr) : Prop where
  by_ : Looks M h (typeLookup (.ref D) "__getattribute__") (some (.builtin "BaseException.__getattribute__"))
  hook : Looks M h (typeLookup (.ref D) "__getattr__") none
  exc : Looks M h (isSubtype (.ref D) (.type "BaseException")) true
theorem gets_of {K : Frag} {M : Model} {h : Heap} {D : Addr} (X : K.In h) (e : excIn K D = true) : Gets M h D ∧ hasDictIn K D = true := by
  simp only [excIn, Bool.and_eq_true, beq_iff_eq] at e
  exact ⟨⟨looks_findIn X e.1.1.1, looks_findIn X e.1.1.2, looks_mroIn X e.1.2⟩, e.2⟩
theorem isType_cls {K : Frag} {M : Model} {h : Heap} {D : Addr} (X : K.In h) (e : (clsIn K D).isSome = true) : Looks M h (isType (.ref D)) true := by
  obtain ⟨cd, hc⟩ := Option.isSome_iff_exists.mp e
  simp only [clsIn] at hc
  split at hc
  · rename_i ho
    exact (Looks.ld (part := some headPart) (X _ _ ho)).andThen .now
  · cases hc
theorem bga_kind : builtinKind "BaseException.__getattribute__" = some .slot := by decide +kernel
theorem bga_split : splitId "BaseException.__getattribute__" = some ("BaseException", "__getattribute__") := by decide +kernel
section
variable {prog : Program} {w : World} {A : Around} {E : Value → Shared → Prop} {s : Shared} {K : Frag} {x D C : Addr} {ox od : Obj} {name : Str} {v : Value}
/-- what a call of BaseException.__getattribute__ gives, by what was found -/
def Ends (M : Model) (x D : Addr) (s : Shared) (Q : Value → Shared → Prop) : Builtin.ObjectAttr.Found → Prop
  | .value v => Q v s
  | .bind g a => ∀ A E, wpAny M A (call g [a, .ref x, .ref D]) Q E s
  | .missing => False
theorem bga_call {tk : Tok} {f : Builtin.ObjectAttr.Found} {Q : Value → Shared → Prop} (tx : Looks (model prog w) s.heap (typeOf (.ref x)) (.ref D)) (Y : Gets (model prog w) s.heap D) (lf : Looks (model prog w) s.heap (Builtin.ObjectAttr.find (.ref x) (.ref D) name) f)
    (h : Ends (model prog w) x D s Q f) :
    wpAny (model prog w) A (call (.builtin "BaseException.__getattribute__") [.ref x, .str name tk]) Q E s := by
  have isx : Looks (model prog w) s.heap (isInstance (.ref x) (.type "BaseException")) true := tx.andThen Y.exc
  have ha := PySem.F.args_bexc_ga (.ref x) (.str name tk)
  refine wpAny_call (codeAny_call_builtin PySem.F.excAttr_ValueError.ga.plain PySem.F.entry_bexc_ga (check_slot (i := "BaseException.__getattribute__") (owner := "BaseException") (n := "__getattribute__") (self := .ref x) (rest := [.str name tk]) (kw := []) bga_kind bga_split isx ha ?_))
  refine wpAny_bind (m := slotArgs "__getattribute__" 1 ⟨[.ref x, .str name tk], []⟩) (wpAny_pure ?_)
  refine wpAny_bind (wpAny_pure ?_)
  refine wpAny_bind (m := typeOf (.ref x)) (tx.here ?_)
  refine wpAny_bind (m := Builtin.ObjectAttr.find (.ref x) (.ref D) name) (lf.here ?_)
  cases f with
  | value v => exact wpAny_pure h
  | bind g a => exact wpAny_bind (m := holding [a] (call g [a, .ref x, .ref D])) (wpAny_holding (wpAny_mono (h _ _) (fun _ _ z => wpAny_pure z) fun _ _ z => z))
  | missing => exact h.elim
/-- an attribute is asked of such an object -/
theorem get_by {tk : Tok} {fill expr : Bool} {f : Builtin.ObjectAttr.Found} {Q : Value → Shared → Prop} (tx : Looks (model prog w) s.heap (typeOf (.ref x)) (.ref D)) (Y : Gets (model prog w) s.heap D) (lf : Looks (model prog w) s.heap (Builtin.ObjectAttr.find (.ref x) (.ref D) name) f)
    (h : Ends (model prog w) x D s (fun v s' => handedOut v = pure v ∧ Q v s') f) : wpAny (model prog w) A (getAttrBy (.ref x) (.str name tk) fill expr) Q E s := by
  have one : callGetattribute (.ref x) (.str name tk) (.builtin "BaseException.__getattribute__") expr = boundAndCalled (.builtin "BaseException.__getattribute__") (.ref x) (.str name tk) := by cases expr <;> rfl
  refine wpAny_holding (wpAny_bind (m := typeOf (.ref x)) (tx.here (wpAny_bind (m := typeLookup (.ref D) "__getattribute__") (Y.by_.here ?_))))
  show wpAny _ _ (getAttrByItsOwn (.ref x) (.str name tk) (.ref D) (.builtin "BaseException.__getattribute__") fill expr) _ _ _
  refine wpAny_bind (m := hookBefore (.ref D)) (Y.hook.here (wpAny_bind (wpAny_attempt (wpAny_holding ?_))))
  rw [one]
  refine wpAny_bind (m := bindSpecial (.builtin "BaseException.__getattribute__") (.ref x)) (Looks.here (Looks.of_pure (PySem.F.excAttr_ValueError.ga.bind _)) ?_)
  refine wpAny_mono (bga_call (E := fun _ _ => False) tx Y lf h) (fun v s' z => ?_) fun _ _ z => z.elim
  show wpAny _ _ (handedOut v) _ _ _
  rw [z.1]
  exact wpAny_pure z.2
theorem attr_E {expr : Bool} {Q : Value → Shared → Prop} (X : K.In s.heap) (I : InstAt s.heap x ox D (some od)) (he : excIn K D = true) (hf : findObj K D (some od) name = some (.value v)) (hv : handedOut v = pure v) (h : Q v { s with toks := s.toks + 1 }) :
    wpAny (model prog w) A (getAttr (.ref x) name expr) Q E s :=
  wpAny_bind (m := mkText name) (wpAny_mkText (get_by (s := { s with toks := s.toks + 1 }) I.type (gets_of X he).1 (looks_find X I hf) ⟨hv, h⟩))
theorem isn_E {Q : Value → Shared → Prop} (X : K.In s.heap) (I : InstAt s.heap x ox D (some od)) (he : excIn K D = true) (hcl : clsE K D = true) (e : kin_not K D C = true) (h : Q (.bool false) { s with toks := s.toks + 1 }) :
    wpAny (model prog w) A (call (.builtin "isinstance") [.ref x, .ref C]) Q E s := by
  simp only [kin_not, Bool.and_eq_true, beq_iff_eq, decide_eq_true_eq] at e
  simp only [clsE, Bool.and_eq_true, beq_iff_eq] at hcl
  obtain ⟨⟨⟨c1, c2⟩, c3⟩, c4⟩ := hcl
  refine call_isinstance (S := fun _ R s => (K.In s.heap ∧ InstAt s.heap x ox D (some od)) ∧ R (.ok (.ret (.bool false))) { s with toks := s.toks + 1 }) (fun prog w A R s hs => isinstance_outer ?_ (fun q => nomatch q)) ⟨⟨X, I⟩, h⟩
  obtain ⟨⟨X, I⟩, hR⟩ := hs
  obtain ⟨Y, hdct⟩ := gets_of (M := model prog w) X he
  obtain ⟨cd, hc, _⟩ := any_some hdct
  have no : Looks (model prog w) s.heap (isSubtype (.ref D) (.ref C)) false := looks_subIn X e.2
  have nox : Looks (model prog w) s.heap (isInstance (.ref x) (.ref C)) false := I.type.andThen no
  have lf : Looks (model prog w) s.heap (Builtin.ObjectAttr.find (.ref x) (.ref D) "__class__") (.bind (.builtin "getset_descriptor.__get__") (.builtin "object.__class__")) :=
    looks_find X I (findObj_data (by rw [hc]; rfl) c1 c2 c3)
  refine wpAny_bind (m := typeOf (.ref x)) (I.type.here ?_)
  rw [if_neg (fun q => e.1.1.1 (Value.ref.inj (beq_iff_eq.mp q)))]
  refine wpAny_bind (m := typeOf (.ref C)) ((looks_typeIn X e.1.2).here (wpAny_bind ?_))
  refine wpAny_bind (m := isType (.ref C)) ((isType_cls X e.1.1.2).here ?_)
  refine wpAny_bind (m := isInstance (.ref x) (.ref C)) (nox.here ?_)
  refine wpAny_bind (m := getAttr? (.ref x) "__class__") (wpAny_bind (m := mkText "__class__") (wpAny_mkText ?_))
  refine wpAny_bind (wpAny_attempt (get_by (s := { s with toks := s.toks + 1 }) I.type Y lf fun A' E' => wpAny_call (class_get (s := { s with toks := s.toks + 1 }) (ox := ox) (od := some od) X I c4 ⟨rfl, wpAny_pure ?_⟩)))
  refine wpAny_bind (m := isType (.ref D)) (Looks.here (s := { s with toks := s.toks + 1 }) (isType_cls X (by rw [hc]; rfl)) ?_)
  refine wpAny_bind (m := rule "isinstance.by-__class__") (wpAny_rule (Looks.here (s := { s with toks := s.toks + 1 }) no ?_))
  exact wpAny_pure hR
theorem isy_E {Q : Value → Shared → Prop} (X : K.In s.heap) (I : InstAt s.heap x ox D (some od)) (e : isIn K (.ref D) C = true) (h : Q (.bool true) s) :
    wpAny (model prog w) A (call (.builtin "isinstance") [.ref x, .ref C]) Q E s := isi_call X (fun _ => I.type) e (by intro q; cases q) h
end
abbrev AX : Around := { handled := none, depth := 400, frames := none, guards := none, units := 400 }
abbrev ent (hs : Int) (k : String) (tk : Nat) (v : Value) : DictEntry := ⟨hs, .str (Str.ofString k) tk, v⟩
abbrev tupO (vs : List Value) (n : Nat) : Obj := ⟨.type "tuple", none, .seq vs.toArray n, #[]⟩
abbrev dctO (es : List DictEntry) (n : Nat) : Obj := ⟨.type "dict", none, .dict es.toArray n, #[]⟩
structure Er where
  kind : Int
  code : Int
  ser : Int
inductive ErrAt (P : Params) (b₀ h : Heap) : Value → Er → Prop
  | data {a d : Addr} {fs : Array Value} {code ser : Int} {t1 t2 k1 k2 n : Nat} {h1 h2 : Int} : h.get? a = some ⟨.ref 130, some d, .fields fs, #[]⟩ →
      h.get? d = some (dctO [ent h1 "smtp_code" k1 (.int code t1), ent h2 "smtp_error" k2 (.int ser t2)] n) → ErrAt P b₀ h (.ref a) ⟨0, code, ser⟩
  | sender {a d : Addr} {fs : Array Value} {code ser : Int} {t1 t2 t3 k1 k2 k3 n : Nat} {h1 h2 h3 : Int} : h.get? a = some ⟨.ref 99, some d, .fields fs, #[]⟩ →
      h.get? d = some (dctO [ent h1 "smtp_code" k1 (.int code t1), ent h2 "smtp_error" k2 (.int ser t2), ent h3 "sender" k3 (.int (-ser) t3)] n) → ErrAt P b₀ h (.ref a) ⟨1, code, ser⟩
  | recip {a d r ta tb : Addr} {fs : Array Value} {code ser : Int} {t1 t2 t3 t4 k1 k2 k3 n m m1 m2 : Nat} {h1 : Int} : h.get? a = some ⟨.ref 118, some d, .fields fs, #[]⟩ →
      h.get? d = some (dctO [ent h1 "recipients" k1 (.ref r)] n) → h.get? r = some (dctO [ent (PyData.keyHash P (Str.ofString "a")) "a" k2 (.ref ta), ent (PyData.keyHash P (Str.ofString "b")) "b" k3 (.ref tb)] m) →
      h.get? ta = some (tupO [.int (Int.fdiv code 2) t1, .int (-1) t2] m1) → h.get? tb = some (tupO [.int code t3, .int ser t4] m2) →
      b₀.get? a = none → b₀.get? d = none → b₀.get? r = none → b₀.get? ta = none → b₀.get? tb = none → r ≠ 1 → ErrAt P b₀ h (.ref a) ⟨2, code, ser⟩
  | conn {a d : Addr} {fs : Array Value} {code ser : Int} {t1 t2 k1 k2 n : Nat} {h1 h2 : Int} : h.get? a = some ⟨.ref 142, some d, .fields fs, #[]⟩ →
      h.get? d = some (dctO [ent h1 "smtp_code" k1 (.int code t1), ent h2 "smtp_error" k2 (.int ser t2)] n) → ErrAt P b₀ h (.ref a) ⟨3, code, ser⟩
theorem e118 (P : Params) : excIn (tp.heap_39 P) 118 = true := by kernel_rfl
theorem c118 (P : Params) : clsE (tp.heap_39 P) 118 = true := by kernel_rfl
theorem d118 (P : Params) : hasDictIn (tp.heap_39 P) 118 = true := by kernel_rfl
theorem e130 (P : Params) : excIn (tp.heap_39 P) 130 = true := by kernel_rfl
theorem c130 (P : Params) : clsE (tp.heap_39 P) 130 = true := by kernel_rfl
theorem d130 (P : Params) : hasDictIn (tp.heap_39 P) 130 = true := by kernel_rfl
theorem e142 (P : Params) : excIn (tp.heap_39 P) 142 = true := by kernel_rfl
theorem c142 (P : Params) : clsE (tp.heap_39 P) 142 = true := by kernel_rfl
theorem d142 (P : Params) : hasDictIn (tp.heap_39 P) 142 = true := by kernel_rfl
theorem e99 (P : Params) : excIn (tp.heap_39 P) 99 = true := by kernel_rfl
theorem c99 (P : Params) : clsE (tp.heap_39 P) 99 = true := by kernel_rfl
theorem d99 (P : Params) : hasDictIn (tp.heap_39 P) 99 = true := by kernel_rfl
theorem n118x80 (P : Params) : kin_not (tp.heap_39 P) 118 80 = true := by kernel_rfl
theorem n99x118 (P : Params) : kin_not (tp.heap_39 P) 99 118 = true := by kernel_rfl
theorem n130x118 (P : Params) : kin_not (tp.heap_39 P) 130 118 = true := by kernel_rfl
theorem n130x99 (P : Params) : kin_not (tp.heap_39 P) 130 99 = true := by kernel_rfl
theorem n142x118 (P : Params) : kin_not (tp.heap_39 P) 142 118 = true := by kernel_rfl
theorem n142x99 (P : Params) : kin_not (tp.heap_39 P) 142 99 = true := by kernel_rfl
theorem n142x130 (P : Params) : kin_not (tp.heap_39 P) 142 130 = true := by kernel_rfl
theorem i118x118 (P : Params) : isIn (tp.heap_39 P) (.ref 118) 118 = true := by kernel_rfl
theorem i99x99 (P : Params) : isIn (tp.heap_39 P) (.ref 99) 99 = true := by kernel_rfl
theorem i130x130 (P : Params) : isIn (tp.heap_39 P) (.ref 130) 130 = true := by kernel_rfl
theorem i142x142 (P : Params) : isIn (tp.heap_39 P) (.ref 142) 142 = true := by kernel_rfl
theorem i99x80 (P : Params) : isIn (tp.heap_39 P) (.ref 99) 80 = true := by kernel_rfl
theorem i130x80 (P : Params) : isIn (tp.heap_39 P) (.ref 130) 80 = true := by kernel_rfl
theorem i142x80 (P : Params) : isIn (tp.heap_39 P) (.ref 142) 80 = true := by kernel_rfl
theorem f118Rec (P : Params) : findIn (tp.heap_39 P) (.ref 118) (Str.ofString "recipients") = some none := by kernel_rfl
theorem f130Code (P : Params) : findIn (tp.heap_39 P) (.ref 130) (Str.ofString "smtp_code") = some none := by kernel_rfl
theorem f130Error (P : Params) : findIn (tp.heap_39 P) (.ref 130) (Str.ofString "smtp_error") = some none := by kernel_rfl
theorem f142Code (P : Params) : findIn (tp.heap_39 P) (.ref 142) (Str.ofString "smtp_code") = some none := by kernel_rfl
theorem f142Error (P : Params) : findIn (tp.heap_39 P) (.ref 142) (Str.ofString "smtp_error") = some none := by kernel_rfl
theorem f99Code (P : Params) : findIn (tp.heap_39 P) (.ref 99) (Str.ofString "smtp_code") = some none := by kernel_rfl
theorem f99Error (P : Params) : findIn (tp.heap_39 P) (.ref 99) (Str.ofString "smtp_error") = some none := by kernel_rfl
theorem f99Sender (P : Params) : findIn (tp.heap_39 P) (.ref 99) (Str.ofString "sender") = some none := by kernel_rfl
section
variable {prog : Program} {w : World} {A : Around} {E : Value → Shared → Prop} {s : Shared} {K : Frag} {a d D C : Addr} {fs : Array Value} {od : Obj} {name : Str} {v : Value} {Q : Value → Shared → Prop}
theorem isn_at (X : K.In s.heap) (ha : s.heap.get? a = some ⟨.ref D, some d, .fields fs, #[]⟩) (hd : s.heap.get? d = some od) (he : excIn K D = true) (hcl : clsE K D = true) (e : kin_not K D C = true) (h : Q (.bool false) { s with toks := s.toks + 1 }) :
    wpAny (model prog w) A (call (.builtin "isinstance") [.ref a, .ref C]) Q E s := isn_E X ⟨ha, rfl, rfl, hd⟩ he hcl e h
theorem isy_at (X : K.In s.heap) (ha : s.heap.get? a = some ⟨.ref D, some d, .fields fs, #[]⟩) (hd : s.heap.get? d = some od) (e : isIn K (.ref D) C = true) (h : Q (.bool true) s) :
    wpAny (model prog w) A (call (.builtin "isinstance") [.ref a, .ref C]) Q E s := isy_E (D := D) X ⟨ha, rfl, rfl, hd⟩ e h
theorem attr_at {expr : Bool} (X : K.In s.heap) (ha : s.heap.get? a = some ⟨.ref D, some d, .fields fs, #[]⟩) (hd : s.heap.get? d = some od) (he : excIn K D = true) (h1 : hasDictIn K D = true) (h2 : findIn K (.ref D) name = some none) (hl : lookIn name od = some (some v)) (hv : handedOut v = pure v) (h : Q v { s with toks := s.toks + 1 }) :
    wpAny (model prog w) A (getAttr (.ref a) name expr) Q E s := attr_E X ⟨ha, rfl, rfl, hd⟩ he (findObj_own h1 h2 rfl hl) hv h
end
theorem keep_of {h₀ h : Heap} {news : List (Addr × Obj)} (D : Mem h₀ h [] news) : Keep h₀ h := fun b o e => D.keep b o e (by simp [away])
theorem wpAny_le {α : Type} {M : Model} {A A' : Around} {t : Sem α} {Q E s} (h : wpAny M A' t Q E s) (hh : A.handled = A'.handled) (hd : A.depth ≤ A'.depth) (hu : A.units ≤ A'.units) (hf : A'.frames = none := by rfl) (hg : A'.guards = none := by rfl) : wpAny M A t Q E s :=
  fun Γ p hΓ => h Γ p ⟨hΓ.1.trans hh, Nat.le_trans hΓ.2.1 hd, (fun l hl => by rw [hf] at hl; cases hl), (fun l hl => by rw [hg] at hl; cases hl), Nat.le_trans hΓ.2.2.2.2 hu⟩
theorem wpAX {α : Type} {M : Model} {A : Around} {t : Sem α} {Q E s} (h : wpAny M AX t Q E s) (hh : A.handled = none) (hd : A.depth ≤ 400) (hu : A.units ≤ 400) : wpAny M A t Q E s := wpAny_le h hh hd hu
theorem meth_values {M : Model} {A : Around} {s : Shared} {r : Addr} {es : List DictEntry} {n : Nat} {pl : Sem Bool} {Q E} (hr : s.heap.get? r = some (dctO es n)) (h : Q (.builtin "dict.values", [.ref r]) s) : wpAny M A (getMethod (.ref r) (Str.ofString "values") pl) Q E s :=
  getMethod_builtin (T := "dict") ⟨_, hr, rfl⟩ PySem.F.plainAttrs_dict PySem.F.slot_dict_values PySem.F.type_dict_values (fun a e => by cases e; exact ⟨_, hr, rfl⟩) h
theorem dictAt_two {prog : Program} {w : World} {h : Heap} {r : Addr} {va vb : Value} {k2 k3 m : Nat} (hr : h.get? r = some (dctO [ent (PyData.keyHash w.params (Str.ofString "a")) "a" k2 va, ent (PyData.keyHash w.params (Str.ofString "b")) "b" k3 vb] m)) :
    h.DictAt (strKind prog w) r [(Str.ofString "a", va), (Str.ofString "b", vb)] m := by
  refine ⟨_, _, hr, ⟨rfl, rfl, rfl⟩, rfl, ?_, .cons (strKind_is _ _ _ _) rfl (.cons (strKind_is _ _ _ _) rfl .nil), ?_⟩
  rotate_left
  · exact (by decide : [Str.ofString "a", Str.ofString "b"].Nodup)
  intro e he
  simp only [List.mem_toArray, List.mem_cons, List.not_mem_nil, or_false] at he
  rcases he with rfl | rfl
  · exact ⟨_, strKind_is prog w _ _, rfl⟩
  · exact ⟨_, strKind_is prog w _ _, rfl⟩
theorem call_values {w : World} {A : Around} {s : Shared} {r : Addr} {va vb : Value} {k2 k3 m : Nat} {Q E} (hr : s.heap.get? r = some (dctO [ent (PyData.keyHash w.params (Str.ofString "a")) "a" k2 va, ent (PyData.keyHash w.params (Str.ofString "b")) "b" k3 vb] m)) (hne : r ≠ 1)
   (hQ : ∀ h' v, Keep s.heap h' → h'.IsValuesView v r → Q (.ref v) { s with heap := h' }) :
   wpAny (model Challenge.rw_nb0163_01.row.prog w) A (call (.builtin "dict.values") [.ref r]) Q E s := by
  have hd := dictAt_two (prog := Challenge.rw_nb0163_01.row.prog) hr
  obtain ⟨o, es, ho, rest⟩ := id hd
  refine call_meetsIn PySem.F.slot_dict_values (s := s) ⟨_, hr, rfl⟩ PySem.F.entry_dict_values (PySem.F.args_dict_values_1 _) (meets_dict_values (strKind _ _) r (by simpa [sysModules] using hne)) ⟨⟨_, o, es, _, ho, rest⟩, ?_⟩
  exact hQ _ _ (fun b o e => Heap.get?_push_of_some _ e) ⟨_, Heap.get?_push_size _ rfl, rfl, rfl⟩
/-- the element of the comprehension: reply[0] -/
theorem elt_reply {w : World} {A : Around} {env : Env} {cl : List (Str × Addr)} {C t : Addr} {s : Shared} {m₃ : Str → Option Value} {x y : Value} {n : Nat} {p1 p2 p3 : Pos} {kk : Nat} {scope : Scope} {Q E}
   (hk : scope.kind = .function) (hl : (compEnvC scope cl C env).kindOf (Str.ofString "reply") = some .local) (hn : s.heap.Ns C m₃) (hm : m₃ (Str.ofString "reply") = some (.ref t)) (ht : s.heap.get? t = some (tupO [x, y] n))
   (h : Q x { s with toks := s.toks + 1 }) :
   wpAny (model Challenge.rw_nb0163_01.row.prog w) A (eval (.Subscript (.Name (Str.ofString "reply") p1) (.Constant (.int 0) kk p2) p3) (compEnvC scope cl C env)) Q E s := by
  refine Subscript_ (wpAny_Name (wpAny_loadName_local (by simpa [compEnvC, relabel] using hk) hl hn hm ?_) (by decide))
  refine wpAny_Constant_int ?_
  exact item_tupleT (s := { s with toks := s.toks + 1 }) ⟨_, ht, rfl, n, rfl⟩ (by decide) (by decide) rfl rfl h
theorem paired_two {F : Value → Value → Prop} {vs : List Value} {ys : List Value} {P : Nat → Value → Prop} (hlen : vs.length = 2) (hP : ∀ j v, vs[j]? = some v → P j v) (hF : Paired F (vs.filter fun _ => true) ys) {u v x y : Value}
   (hu : ∀ a, P 0 a → a = u) (hv : ∀ a, P 1 a → a = v) (hx : ∀ a, F u a → a = x) (hy : ∀ a, F v a → a = y) : ys = [x, y] := by
  match vs, hlen with
  | [a, b], _ =>
    have h0 := hu a (hP 0 a rfl)
    have h1 := hv b (hP 1 b rfl)
    subst h0 h1
    simp only [List.filter_cons, if_true, List.filter_nil] at hF
    cases hF with
    | cons f1 r =>
      cases r with
      | cons f2 r => cases r; rw [hx _ f1, hy _ f2]
set_option pp.deepTerms false in
theorem code_rc {w : World} {A : Around} {s : Shared} {b₀ : Heap} {p loose mg mb} {a d r ta tb : Addr} {fs : Array Value} {code ser : Int} {t1 t2 t3 t4 k1 k2 k3 n m m1 m2 : Nat} {h1 : Int} {R}
   (X : (Mine.tp.heap_39 w.params).In b₀) (T : TopRead p loose mg mb b₀) (hb : Keep b₀ s.heap) (hh : A.handled = none) (hdp : A.depth ≤ 390) (hun : A.units ≤ 390)
   (ha : s.heap.get? a = some ⟨.ref 118, some d, .fields fs, #[]⟩) (hd : s.heap.get? d = some (dctO [ent h1 "recipients" k1 (.ref r)] n))
   (hr : s.heap.get? r = some (dctO [ent (PyData.keyHash w.params (Str.ofString "a")) "a" k2 (.ref ta), ent (PyData.keyHash w.params (Str.ofString "b")) "b" k3 (.ref tb)] m))
   (hta : s.heap.get? ta = some (tupO [.int (Int.fdiv code 2) t1, .int (-1) t2] m1)) (htb : s.heap.get? tb = some (tupO [.int code t3, .int ser t4] m2))
   (fa : b₀.get? a = none) (fd : b₀.get? d = none) (fr : b₀.get? r = none) (fta : b₀.get? ta = none) (ftb : b₀.get? tb = none) (hr1 : r ≠ 1) (hc : 200 ≤ code)
   (hQ : ∀ h' tk t, Keep s.heap h' → R (.ok (.ret (.int code t))) { s with heap := h', toks := tk }) :
   codeAny (model Challenge.rw_nb0163_01.row.prog w) A (.call (.ref 156) ⟨[.ref a], []⟩) R s := by
  k_with_none
  k_with "getAttr ref" => (k_here; (with_reducible show wpAny _ _ (getAttr (Value.ref _) (Str.ofString "recipients") _) _ _ _); (refine attr_at (D := 118) (by k_in) (News.get (by k_asm) (by k_mem)) (News.get (by k_asm) (by k_mem)) (e118 _) (d118 _) (f118Rec _) rfl rfl ?_))
  k_with "call builtin:isinstance" => (k_here; (with_reducible show wpAny _ _ (call (Value.builtin "isinstance") [Value.ref _, Value.ref 80]) _ _ _); (refine isn_at (D := 118) (by k_in) (News.get (by k_asm) (by k_mem)) (News.get (by k_asm) (by k_mem)) (e118 _) (c118 _) (n118x80 _) ?_))
  k_with "getMethod ref" => (k_here; (with_reducible show wpAny _ _ (getMethod (Value.ref _) (Str.ofString "values") _) _ _ _); (refine meth_values (News.get (by k_asm) (by k_mem)) ?_))
  k_with "call builtin:dict.values" => (k_here; (refine call_values (News.get (by k_asm) (by k_mem)) (by assumption) ?_); intro h' v' k' iv'; (have F' := Fr.keeps (by assumption) k'); (have N' := News.grown (by assumption) k'); (try k_sweep))
  k_with "call builtin:max" => (refine held ?_)
  k_with "eval ListComp" => (refine held ?_)
  revert X; k_fill; intro X
  have hn : ∀ q ∈ ([(a, ⟨.ref 118, some d, .fields fs, #[]⟩), (d, dctO [ent h1 "recipients" k1 (.ref r)] n), (r, dctO [ent (PyData.keyHash w.params (Str.ofString "a")) "a" k2 (.ref ta), ent (PyData.keyHash w.params (Str.ofString "b")) "b" k3 (.ref tb)] m), (ta, tupO [.int (Int.fdiv code 2) t1, .int (-1) t2] m1), (tb, tupO [.int code t3, .int ser t4] m2)] : List (Addr × Obj)), s.heap.get? q.1 = some q.2 ∧ b₀.get? q.1 = none := by
    intro q hq; simp only [List.mem_cons, List.not_mem_nil, or_false] at hq; rcases hq with rfl | rfl | rfl | rfl | rfl <;> exact ⟨by assumption, by assumption⟩
  refine' enter [(a, ⟨.ref 118, some d, .fields fs, #[]⟩), (d, dctO [ent h1 "recipients" k1 (.ref r)] n), (r, dctO [ent (PyData.keyHash w.params (Str.ofString "a")) "a" k2 (.ref ta), ent (PyData.keyHash w.params (Str.ofString "b")) "b" k3 (.ref tb)] m), (ta, tupO [.int (Int.fdiv code 2) t1, .int (-1) t2] m1), (tb, tupO [.int code t3, .int ser t4] m2)] X T hb hn (by omega) ?k6 ?k7 ?k9 ?kB ?_ ?c2 ?c3 ?c4 ?c5
  case k6 => k_is
  case k7 => k_is
  case k9 => exact BindsTo.of_eq rfl
  case c5 => decide
  case kB => exact locs rfl
  case c2 => exact rfl
  case c3 => exact rfl
  case c4 => exact rfl
  intro g L' h' eg eL hk X' T' F' N'
  try dsimp only
  try k_fold
  k_steps
  refine unheld ?_
  refine wpAny_ListComp_free (cl := []) (fun _ => true) (fun v y => ∀ t x z n, v = .ref t → s.heap.get? t = some (tupO [x, z] n) → y = x) rfl (by decide) rfl (by decide) rfl ?_
  k_steps
  rename Heap.IsValuesView _ _ _ => iv
  rename News _ _ _ _ => N
  rename Fr _ _ _ _ => F
  have hrd9 := News.get N (a := r) (by k_mem)
  have hta9 := News.get N (a := ta) (by k_mem)
  have htb9 := News.get N (a := tb) (by k_mem)
  refine wpAny_pyIter_values iv (dictAt_two hrd9) ?_
  refine ⟨_, _, _, _, _, _, rfl, Walks.dictValues (by assumption) _ r (Nat.ne_of_lt (Heap.lt_size hrd9)) _ _, (by show 2 ≤ sizeLine; rw [sizeLine_eq]; omega), ⟨⟨_, Heap.get?_push_size _ rfl, rfl, rfl⟩, (dictAt_two hrd9).at' fun o e => Heap.get?_push_of_some _ e⟩, ?_, ⟨?_, ?_⟩, ?_⟩
  · intro b hb
    simp only [List.mem_cons, List.not_mem_nil, or_false] at hb
    rw [Heap.size_push]
    rcases hb with rfl | rfl
    · exact Nat.lt_succ_self _
    · exact Nat.lt_succ_of_lt (Heap.lt_size hrd9)
  · intro C i v s₃ m₃ E' _ _ _ _ _ _
    exact wpAny_pure ⟨rfl, _, _, rfl, fun _ _ e => e⟩
  · intro C i v s₃ m₃ E' _ hP _ hn hm hk₃ _
    obtain ⟨k, hP⟩ := hP
    have hv : v = .ref ta ∨ v = .ref tb := by
      match i, hP with
      | 0, hP => exact .inl (by cases hP; rfl)
      | 1, hP => exact .inr (by cases hP; rfl)
      | (i + 2), hP => cases hP
    rcases hv with rfl | rfl
    · refine elt_reply rfl rfl hn hm (hk₃ _ _ (fun q => Nat.ne_of_lt (Heap.lt_size hta9) (List.mem_singleton.mp q)) (Heap.get?_push_of_some _ hta9)) ?_
      refine ⟨?_, _, _, rfl, fun _ _ e => e⟩
      intro t x z n e1 e2
      cases e1; rw [hta] at e2; cases e2; rfl
    · refine elt_reply rfl rfl hn hm (hk₃ _ _ (fun q => Nat.ne_of_lt (Heap.lt_size htb9) (List.mem_singleton.mp q)) (Heap.get?_push_of_some _ htb9)) ?_
      refine ⟨?_, _, _, rfl, fun _ _ e => e⟩
      intro t x z n e1 e2
      cases e1; rw [htb] at e2; cases e2; rfl
  · intro D h₂ tk₂ ys vs hD hl hpl hlen hP hF hk₂
    have hys := paired_two hlen hP hF (u := .ref ta) (v := .ref tb) (fun a h => by obtain ⟨k, h⟩ := h; cases h; rfl) (fun a h => by obtain ⟨k, h⟩ := h; cases h; rfl)
      (fun a h => h _ _ _ _ rfl hta) (fun a h => h _ _ _ _ rfl htb)
    obtain ⟨ys⟩ := ys
    dsimp only at hys
    subst hys
    obtain ⟨n9, hpl⟩ := hpl
    have F9 := LCg.fr_but (F.push _) hk₂ (Nat.ne_of_lt F.ns.lt) (next_is_new F)
    have N9 := LCg.news_but (N.grown fun b o e => Heap.get?_push_of_some _ e) hk₂ (fun q hq => Nat.ne_of_lt (Heap.lt_size (N q hq).1))
    clear hta9 htb9 hrd9 F N
    k_steps
    refine unheld ?_
    rename Fr _ _ _ _ => F
    rename News _ _ _ _ => N
    refine max_list_N (vs := [.int (Int.fdiv code 2) t1, .int code t3]) (ns := [Int.fdiv code 2, code]) (by assumption) F N ⟨_, hpl, rfl, _, rfl⟩ ?_ (Nat.succ_pos _) ?_
    · exact .cons _ _ (.cons _ _ .nil)
    intro h₃ M t₃ tk₃ F3 N3 hM hle
    have hMc : M = code := by
      have h5 := hle code (.tail _ (.head _))
      simp only [List.mem_cons, List.not_mem_nil, or_false] at hM
      rcases hM with h6 | h6
      · rw [Int.fdiv_eq_ediv_of_nonneg _ (by decide)] at h6; omega
      · exact h6
    subst hMc
    clear F N
    k_steps
    rename Fr _ _ _ _ => F
    rename News _ _ _ _ => N
    exact hQ _ _ _ (keep_end eg (fun q hq => (hn q hq).1) F N)
noncomputable def Er.extra (e : Er) : PyData := if e.kind = 1 then .int (-e.ser) else if e.kind = 2 then .tuple [.int (Int.fdiv e.code 2), .int (-1)] else .none
noncomputable def Er.dat (e : Er) : PyData := .tuple [.int e.kind, .int e.code, .int e.ser, e.extra]
abbrev Rd (h : Heap) (v : Value) (d : PyData) : Prop := ∃ as, Reads h v d as
theorem mapOf_two {prog : Program} {w : World} {h : Heap} {r : Addr} {va vb : Value} {k2 k3 m : Nat} (hr : h.get? r = some (dctO [ent (PyData.keyHash w.params (Str.ofString "a")) "a" k2 va, ent (PyData.keyHash w.params (Str.ofString "b")) "b" k3 vb] m)) :
    h.MapOf (strKind prog w) r (fun k => if k = Str.ofString "a" then some va else if k = Str.ofString "b" then some vb else none) := by
  obtain ⟨o, es, ho, he, hd, hk, _⟩ := dictAt_two (prog := prog) hr
  rw [hr] at ho
  cases ho
  cases hd
  refine ⟨_, _, _, hr, he, rfl, hk, fun k => ?_⟩
  show findBy Value.isStrOf _ k = _
  simp only [findBy, List.find?_toArray, List.find?_cons, List.find?_nil, Value.isStrOf]
  by_cases h1 : k = Str.ofString "a"
  · subst h1; simp
  · by_cases h2 : k = Str.ofString "b"
    · subst h2
      have : (Str.ofString "b" == Str.ofString "a") = false := by decide
      have h3 : (Str.ofString "a" == Str.ofString "b") = false := by decide
      simp [h1, h3, this]
    · have h3 : (Str.ofString "a" == k) = false := by simpa using Ne.symm h1
      have h4 : (Str.ofString "b" == k) = false := by simpa using Ne.symm h2
      have h5 : (k == Str.ofString "a") = false := by simpa using h1
      have h6 : (k == Str.ofString "b") = false := by simpa using h2
      simp [h1, h2, h3, h4, h5, h6]
theorem item_b {w : World} {A : Around} {s : Shared} {r : Addr} {va vb : Value} {k2 k3 m : Nat} {value slice : Expr} {t : Tok} {Q E} (hr : s.heap.get? r = some (dctO [ent (PyData.keyHash w.params (Str.ofString "a")) "a" k2 va, ent (PyData.keyHash w.params (Str.ofString "b")) "b" k3 vb] m))
    (h : Q vb { s with toks := s.toks + 1 })
    (hs : subscripted slice false (.ref r) (.str (Str.ofString "b") t) = operate [.ref r, .str (Str.ofString "b") t] (getItem (.ref r) (.str (Str.ofString "b") t)) := by with_unfolding_all rfl) :
    wpAny (model Challenge.rw_nb0163_01.row.prog w) A (subscriptTail value slice (.ref r) (.str (Str.ofString "b") t)) Q E s :=
  have hm := mapOf_two (prog := Challenge.rw_nb0163_01.row.prog) hr
  tail_any hm.typeIs slot_dict_getitem.lookup (wpAny_getItem_of (strKind_is _ w _ t) hm (by rw [if_neg (by decide), if_pos rfl]) h) hs
theorem meth_get {M : Model} {A : Around} {s : Shared} {r : Addr} {es : List DictEntry} {n : Nat} {pl : Sem Bool} {Q E} (hr : s.heap.get? r = some (dctO es n)) (h : Q (.builtin "dict.get", [.ref r]) s) : wpAny M A (getMethod (.ref r) (Str.ofString "get") pl) Q E s :=
  getMethod_builtin (T := "dict") ⟨_, hr, rfl⟩ PySem.F.plainAttrs_dict PySem.F.slot_dict_get PySem.F.type_dict_get (fun a e => by cases e; exact ⟨_, hr, rfl⟩) h
theorem call_get_a {w : World} {A : Around} {s : Shared} {r : Addr} {va vb : Value} {k2 k3 m : Nat} {t : Tok} {Q E} (hr : s.heap.get? r = some (dctO [ent (PyData.keyHash w.params (Str.ofString "a")) "a" k2 va, ent (PyData.keyHash w.params (Str.ofString "b")) "b" k3 vb] m)) (hne : r ≠ 1)
   (hQ : Q va { s with toks := s.toks + 1 }) :
   wpAny (model Challenge.rw_nb0163_01.row.prog w) A (call (.builtin "dict.get") [.ref r, .str (Str.ofString "a") t]) Q E s := by
  have hm := mapOf_two (prog := Challenge.rw_nb0163_01.row.prog) hr
  refine call_meetsIn PySem.F.slot_dict_get (s := s) ⟨_, hr, rfl⟩ PySem.F.entry_dict_get (PySem.F.args_dict_get_2 _ _) (meets_dict_get (strKind _ _) r (strKind_is _ w _ t) (by simpa [sysModules] using hne)) ⟨_, hm, ?_⟩
  simpa using hQ
theorem nin {h : Heap} {S : List Addr} {x : Addr} (hS : ∀ a ∈ S, ∃ o, h.get? a = some o) (hx : h.get? x = none) : x ∉ S := fun hm => by
  obtain ⟨o, ho⟩ := hS x hm
  rw [hx] at ho; cases ho
theorem rc_fresh {g h₀ h' : Heap} {news : List (Addr × Obj)} {t : Addr} {ot : Obj} (eg : g = hideAll h₀ (news.map (·.1))) (ht : h'.get? t = some ot) (hg : g.get? t = none) (hne : ∀ q ∈ news, h'.get? q.1 = some q.2 ∧ q.2 ≠ ot) : h₀.get? t = none := by
  cases e : h₀.get? t with
  | none => rfl
  | some o =>
    exfalso
    rw [eg] at hg
    by_cases hm : t ∈ news.map (·.1)
    · obtain ⟨q, hq, rfl⟩ := List.mem_map.mp hm
      have := hne q hq
      rw [ht] at this
      exact this.2 (Option.some.inj this.1).symm
    · rw [hideAll_get _ e hm] at hg; cases hg
set_option pp.deepTerms false in
theorem shown_rcS {w : World} {A : Around} {s : Shared} {b₀ : Heap} {p loose mg mb} {a d r ta tb : Addr} {fs : Array Value} {code ser : Int} {t1 t2 t3 t4 k1 k2 k3 n m m1 m2 : Nat} {h1 : Int} {R}
   (X : (Mine.tp.heap_39 w.params).In b₀) (T : TopRead p loose mg mb b₀) (hb : Keep b₀ s.heap) (hh : A.handled = none) (hdp : A.depth ≤ 390) (hun : A.units ≤ 390)
   (ha : s.heap.get? a = some ⟨.ref 118, some d, .fields fs, #[]⟩) (hd : s.heap.get? d = some (dctO [ent h1 "recipients" k1 (.ref r)] n))
   (hr : s.heap.get? r = some (dctO [ent (PyData.keyHash w.params (Str.ofString "a")) "a" k2 (.ref ta), ent (PyData.keyHash w.params (Str.ofString "b")) "b" k3 (.ref tb)] m))
   (hta : s.heap.get? ta = some (tupO [.int (Int.fdiv code 2) t1, .int (-1) t2] m1)) (htb : s.heap.get? tb = some (tupO [.int code t3, .int ser t4] m2))
   (fa : b₀.get? a = none) (fd : b₀.get? d = none) (fr : b₀.get? r = none) (fta : b₀.get? ta = none) (ftb : b₀.get? tb = none) (hr1 : r ≠ 1)
   (hQ : ∀ h' tk v', Keep s.heap h' → (∀ S : List Addr, (∀ a ∈ S, ∃ o, s.heap.get? a = some o) → ErrAt w.params b₀ (hideAll s.heap S) (.ref a) ⟨2, code, ser⟩ → Rd (hideAll h' S) v' (Er.dat ⟨2, code, ser⟩)) → R (.ok (.ret v')) { s with heap := h', toks := tk }) :
   codeAny (model Challenge.rw_nb0163_01.row.prog w) A (.call (.ref 163) ⟨[.ref a], []⟩) R s := by
  k_with_none
  k_with "getAttr ref" => (k_here; (with_reducible show wpAny _ _ (getAttr (Value.ref _) (Str.ofString "recipients") _) _ _ _); (refine attr_at (D := 118) (by k_in) (News.get (by k_asm) (by k_mem)) (News.get (by k_asm) (by k_mem)) (e118 _) (d118 _) (f118Rec _) rfl rfl ?_))
  k_with "call builtin:isinstance" => (k_here; (with_reducible show wpAny _ _ (call (Value.builtin "isinstance") [Value.ref _, Value.ref 118]) _ _ _); (refine isy_at (D := 118) (by k_in) (News.get (by k_asm) (by k_mem)) (News.get (by k_asm) (by k_mem)) (i118x118 _) ?_))
  k_with "getMethod ref" => (k_here; (with_reducible show wpAny _ _ (getMethod (Value.ref _) (Str.ofString "get") _) _ _ _); (refine meth_get (News.get (by k_asm) (by k_mem)) ?_))
  k_with "call builtin:dict.get" => (k_here; (refine call_get_a (News.get (by k_asm) (by k_mem)) (by assumption) ?_))
  k_with "subscriptTail" => (k_here; (with_reducible show wpAny _ _ (subscriptTail _ _ (Value.ref _) (Value.str _ _)) _ _ _); (refine item_b (News.get (by k_asm) (by k_mem)) ?_))
  revert X; k_fill; intro X
  have hn : ∀ q ∈ ([(a, ⟨.ref 118, some d, .fields fs, #[]⟩), (d, dctO [ent h1 "recipients" k1 (.ref r)] n), (r, dctO [ent (PyData.keyHash w.params (Str.ofString "a")) "a" k2 (.ref ta), ent (PyData.keyHash w.params (Str.ofString "b")) "b" k3 (.ref tb)] m), (ta, tupO [.int (Int.fdiv code 2) t1, .int (-1) t2] m1), (tb, tupO [.int code t3, .int ser t4] m2)] : List (Addr × Obj)), s.heap.get? q.1 = some q.2 ∧ b₀.get? q.1 = none := by
    intro q hq; simp only [List.mem_cons, List.not_mem_nil, or_false] at hq; rcases hq with rfl | rfl | rfl | rfl | rfl <;> exact ⟨by assumption, by assumption⟩
  refine' enter [(a, ⟨.ref 118, some d, .fields fs, #[]⟩), (d, dctO [ent h1 "recipients" k1 (.ref r)] n), (r, dctO [ent (PyData.keyHash w.params (Str.ofString "a")) "a" k2 (.ref ta), ent (PyData.keyHash w.params (Str.ofString "b")) "b" k3 (.ref tb)] m), (ta, tupO [.int (Int.fdiv code 2) t1, .int (-1) t2] m1), (tb, tupO [.int code t3, .int ser t4] m2)] X T hb hn (by omega) ?k6 ?k7 ?k9 ?kB ?_ ?c2 ?c3 ?c4 ?c5
  case k6 => k_is
  case k7 => k_is
  case k9 => exact BindsTo.of_eq rfl
  case c5 => decide
  case kB => exact locs rfl
  case c2 => exact rfl
  case c3 => exact rfl
  case c4 => exact rfl
  intro g L' h' eg eL hk X' T' F' N'
  try dsimp only
  try k_fold
  k_steps
  rename Fr _ _ _ _ => F
  rename News _ _ _ _ => N
  have hta9 := News.get N (a := ta) (by k_mem)
  have ha9 := News.get N (a := a) (by k_mem)
  have hd9 := News.get N (a := d) (by k_mem)
  have hr9 := News.get N (a := r) (by k_mem)
  have htb9 := News.get N (a := tb) (by k_mem)
  have hnew := N _ (.head _)
  refine hQ _ _ _ (keep_end eg (fun q hq => (hn q hq).1) F fun q hq => N q (.tail _ hq)) fun S hS he => ?_
  have hfresh := rc_fresh eg hnew.1 hnew.2.2 (by
    intro q hq
    simp only [List.mem_cons, List.not_mem_nil, or_false] at hq
    rcases hq with rfl | rfl | rfl | rfl | rfl <;> exact ⟨by assumption, by first | (intro e9; cases e9) | (intro e9; simp at e9)⟩)
  have hta0 : ta ∉ S := by
    cases he with
    | recip g1 g2 g3 g4 g5 _ _ _ _ _ _ =>
      have z1 := of_hideAll _ g1
      rw [ha] at z1; cases z1
      have z2 := of_hideAll _ g2
      rw [hd] at z2; cases z2
      have z3 := of_hideAll _ g3
      rw [hr] at z3; cases z3
      intro hm
      rw [hideAll_none _ hm] at g4; cases g4
  exact ⟨_, Reads.tuple (hideAll_get S hnew.1 (nin hS hfresh)) rfl rfl (.cons (.int _ _) (.cons (.int _ _) (.cons (.int _ _) (.cons (Reads.tuple (hideAll_get S hta9 hta0) rfl rfl (.cons (.int _ _) (.cons (.int _ _) .nil))) .nil))))⟩
theorem code_130 {w : World} {A : Around} {s : Shared} {b₀ : Heap} {p loose mg mb} {a d : Addr} {fs : Array Value} {code ser : Int} {t1 t2 t3 k1 k2 k3 n : Nat} {h1 h2 h3 : Int} {R}
   (X : (Mine.tp.heap_39 w.params).In b₀) (T : TopRead p loose mg mb b₀) (hb : Keep b₀ s.heap) (hh : A.handled = none) (hdp : A.depth ≤ 390) (hun : A.units ≤ 390)
   (ha : s.heap.get? a = some ⟨.ref 130, some d, .fields fs, #[]⟩) (hd : s.heap.get? d = some (dctO [ent h1 "smtp_code" k1 (.int code t1), ent h2 "smtp_error" k2 (.int ser t2)] n))
   (hQ : ∀ h' tk t, Keep s.heap h' → R (.ok (.ret (.int code t))) { s with heap := h', toks := tk }) :
   codeAny (model Challenge.rw_nb0163_01.row.prog w) A (.call (.ref 156) ⟨[.ref a], []⟩) R s := by
  k_with_none
  k_with "call builtin:isinstance" => (k_here; (with_reducible show wpAny _ _ (call (Value.builtin "isinstance") [Value.ref _, Value.ref 80]) _ _ _); (refine isy_at (D := 130) (by k_in) (Fr.keep (by assumption) _ _ ga) (Fr.keep (by assumption) _ _ gd) (i130x80 _) ?_))
  k_with "getAttr ref" => (k_here; (with_reducible show wpAny _ _ (getAttr (Value.ref _) (Str.ofString "smtp_code") _) _ _ _); (refine attr_at (D := 130) (by k_in) (Fr.keep (by assumption) _ _ ga) (Fr.keep (by assumption) _ _ gd) (e130 _) (d130 _) (f130Code _) rfl rfl ?_))
  revert X; k_fill; intro X
  refine' enter [] X T hb (fun _ h => nomatch h) (by omega) ?k6 ?k7 ?k9 ?kB ?_ ?c2 ?c3 ?c4 ?c5
  case k6 => k_is
  case k7 => k_is
  case k9 => exact BindsTo.of_eq rfl
  case c5 => decide
  case kB => exact locs rfl
  case c2 => exact rfl
  case c3 => exact rfl
  case c4 => exact rfl
  intro g L' h' eg eL hk X' T' F' N'
  have ga : g.get? a = _ := eg ▸ hideAll_get [] ha (fun h => nomatch h)
  have gd : g.get? d = _ := eg ▸ hideAll_get [] hd (fun h => nomatch h)
  try dsimp only
  try k_fold
  k_steps
  rename Fr _ _ _ _ => F
  exact hQ _ _ _ (keep_end (news := []) eg (fun _ h => nomatch h) F fun _ h => nomatch h)
theorem shown_130 {w : World} {A : Around} {s : Shared} {b₀ : Heap} {p loose mg mb} {a d : Addr} {fs : Array Value} {code ser : Int} {t1 t2 t3 k1 k2 k3 n : Nat} {h1 h2 h3 : Int} {R}
   (X : (Mine.tp.heap_39 w.params).In b₀) (T : TopRead p loose mg mb b₀) (hb : Keep b₀ s.heap) (hh : A.handled = none) (hdp : A.depth ≤ 390) (hun : A.units ≤ 390)
   (ha : s.heap.get? a = some ⟨.ref 130, some d, .fields fs, #[]⟩) (hd : s.heap.get? d = some (dctO [ent h1 "smtp_code" k1 (.int code t1), ent h2 "smtp_error" k2 (.int ser t2)] n))
   (hQ : ∀ h' tk v', Keep s.heap h' → (∀ S : List Addr, (∀ a ∈ S, ∃ o, s.heap.get? a = some o) → ErrAt w.params b₀ (hideAll s.heap S) (.ref a) ⟨0, code, ser⟩ → Rd (hideAll h' S) v' (Er.dat ⟨0, code, ser⟩)) → R (.ok (.ret v')) { s with heap := h', toks := tk }) :
   codeAny (model Challenge.rw_nb0163_01.row.prog w) A (.call (.ref 163) ⟨[.ref a], []⟩) R s := by
  k_with_none
  k_with "call builtin:isinstance" => (k_here; (with_reducible show wpAny _ _ (call (Value.builtin "isinstance") [Value.ref _, Value.ref 118]) _ _ _); (refine isn_at (D := 130) (by k_in) (Fr.keep (by assumption) _ _ ga) (Fr.keep (by assumption) _ _ gd) (e130 _) (c130 _) (n130x118 _) ?_))
  k_with "call builtin:isinstance" => (k_here; (with_reducible show wpAny _ _ (call (Value.builtin "isinstance") [Value.ref _, Value.ref 99]) _ _ _); (refine isn_at (D := 130) (by k_in) (Fr.keep (by assumption) _ _ ga) (Fr.keep (by assumption) _ _ gd) (e130 _) (c130 _) (n130x99 _) ?_))
  k_with "call builtin:isinstance" => (k_here; (with_reducible show wpAny _ _ (call (Value.builtin "isinstance") [Value.ref _, Value.ref 130]) _ _ _); (refine isy_at (D := 130) (by k_in) (Fr.keep (by assumption) _ _ ga) (Fr.keep (by assumption) _ _ gd) (i130x130 _) ?_))
  k_with "getAttr ref" => (k_here; (with_reducible show wpAny _ _ (getAttr (Value.ref _) (Str.ofString "smtp_code") _) _ _ _); (refine attr_at (D := 130) (by k_in) (Fr.keep (by assumption) _ _ ga) (Fr.keep (by assumption) _ _ gd) (e130 _) (d130 _) (f130Code _) rfl rfl ?_))
  k_with "getAttr ref" => (k_here; (with_reducible show wpAny _ _ (getAttr (Value.ref _) (Str.ofString "smtp_error") _) _ _ _); (refine attr_at (D := 130) (by k_in) (Fr.keep (by assumption) _ _ ga) (Fr.keep (by assumption) _ _ gd) (e130 _) (d130 _) (f130Error _) rfl rfl ?_))
  revert X; k_fill; intro X
  refine' enter [] X T hb (fun _ h => nomatch h) (by omega) ?k6 ?k7 ?k9 ?kB ?_ ?c2 ?c3 ?c4 ?c5
  case k6 => k_is
  case k7 => k_is
  case k9 => exact BindsTo.of_eq rfl
  case c5 => decide
  case kB => exact locs rfl
  case c2 => exact rfl
  case c3 => exact rfl
  case c4 => exact rfl
  intro g L' h' eg eL hk X' T' F' N'
  have ga : g.get? a = _ := eg ▸ hideAll_get [] ha (fun h => nomatch h)
  have gd : g.get? d = _ := eg ▸ hideAll_get [] hd (fun h => nomatch h)
  try dsimp only
  try k_fold
  k_steps
  rename Fr _ _ _ _ => F
  rename News _ _ _ _ => N
  have hnew := N _ (.head _)
  have hfresh := rc_fresh (news := []) eg hnew.1 hnew.2.2 (fun _ h => nomatch h)
  exact hQ _ _ _ (keep_end (news := []) eg (fun _ h => nomatch h) F fun _ h => nomatch h) fun S hS _ => ⟨_, Reads.tuple (hideAll_get S hnew.1 (nin hS hfresh)) rfl rfl (.cons (.int _ _) (.cons (.int _ _) (.cons (.int _ _) (.cons (.none) .nil))))⟩
theorem code_142 {w : World} {A : Around} {s : Shared} {b₀ : Heap} {p loose mg mb} {a d : Addr} {fs : Array Value} {code ser : Int} {t1 t2 t3 k1 k2 k3 n : Nat} {h1 h2 h3 : Int} {R}
   (X : (Mine.tp.heap_39 w.params).In b₀) (T : TopRead p loose mg mb b₀) (hb : Keep b₀ s.heap) (hh : A.handled = none) (hdp : A.depth ≤ 390) (hun : A.units ≤ 390)
   (ha : s.heap.get? a = some ⟨.ref 142, some d, .fields fs, #[]⟩) (hd : s.heap.get? d = some (dctO [ent h1 "smtp_code" k1 (.int code t1), ent h2 "smtp_error" k2 (.int ser t2)] n))
   (hQ : ∀ h' tk t, Keep s.heap h' → R (.ok (.ret (.int code t))) { s with heap := h', toks := tk }) :
   codeAny (model Challenge.rw_nb0163_01.row.prog w) A (.call (.ref 156) ⟨[.ref a], []⟩) R s := by
  k_with_none
  k_with "call builtin:isinstance" => (k_here; (with_reducible show wpAny _ _ (call (Value.builtin "isinstance") [Value.ref _, Value.ref 80]) _ _ _); (refine isy_at (D := 142) (by k_in) (Fr.keep (by assumption) _ _ ga) (Fr.keep (by assumption) _ _ gd) (i142x80 _) ?_))
  k_with "getAttr ref" => (k_here; (with_reducible show wpAny _ _ (getAttr (Value.ref _) (Str.ofString "smtp_code") _) _ _ _); (refine attr_at (D := 142) (by k_in) (Fr.keep (by assumption) _ _ ga) (Fr.keep (by assumption) _ _ gd) (e142 _) (d142 _) (f142Code _) rfl rfl ?_))
  revert X; k_fill; intro X
  refine' enter [] X T hb (fun _ h => nomatch h) (by omega) ?k6 ?k7 ?k9 ?kB ?_ ?c2 ?c3 ?c4 ?c5
  case k6 => k_is
  case k7 => k_is
  case k9 => exact BindsTo.of_eq rfl
  case c5 => decide
  case kB => exact locs rfl
  case c2 => exact rfl
  case c3 => exact rfl
  case c4 => exact rfl
  intro g L' h' eg eL hk X' T' F' N'
  have ga : g.get? a = _ := eg ▸ hideAll_get [] ha (fun h => nomatch h)
  have gd : g.get? d = _ := eg ▸ hideAll_get [] hd (fun h => nomatch h)
  try dsimp only
  try k_fold
  k_steps
  rename Fr _ _ _ _ => F
  exact hQ _ _ _ (keep_end (news := []) eg (fun _ h => nomatch h) F fun _ h => nomatch h)
theorem shown_142 {w : World} {A : Around} {s : Shared} {b₀ : Heap} {p loose mg mb} {a d : Addr} {fs : Array Value} {code ser : Int} {t1 t2 t3 k1 k2 k3 n : Nat} {h1 h2 h3 : Int} {R}
   (X : (Mine.tp.heap_39 w.params).In b₀) (T : TopRead p loose mg mb b₀) (hb : Keep b₀ s.heap) (hh : A.handled = none) (hdp : A.depth ≤ 390) (hun : A.units ≤ 390)
   (ha : s.heap.get? a = some ⟨.ref 142, some d, .fields fs, #[]⟩) (hd : s.heap.get? d = some (dctO [ent h1 "smtp_code" k1 (.int code t1), ent h2 "smtp_error" k2 (.int ser t2)] n))
   (hQ : ∀ h' tk v', Keep s.heap h' → (∀ S : List Addr, (∀ a ∈ S, ∃ o, s.heap.get? a = some o) → ErrAt w.params b₀ (hideAll s.heap S) (.ref a) ⟨3, code, ser⟩ → Rd (hideAll h' S) v' (Er.dat ⟨3, code, ser⟩)) → R (.ok (.ret v')) { s with heap := h', toks := tk }) :
   codeAny (model Challenge.rw_nb0163_01.row.prog w) A (.call (.ref 163) ⟨[.ref a], []⟩) R s := by
  k_with_none
  k_with "call builtin:isinstance" => (k_here; (with_reducible show wpAny _ _ (call (Value.builtin "isinstance") [Value.ref _, Value.ref 118]) _ _ _); (refine isn_at (D := 142) (by k_in) (Fr.keep (by assumption) _ _ ga) (Fr.keep (by assumption) _ _ gd) (e142 _) (c142 _) (n142x118 _) ?_))
  k_with "call builtin:isinstance" => (k_here; (with_reducible show wpAny _ _ (call (Value.builtin "isinstance") [Value.ref _, Value.ref 99]) _ _ _); (refine isn_at (D := 142) (by k_in) (Fr.keep (by assumption) _ _ ga) (Fr.keep (by assumption) _ _ gd) (e142 _) (c142 _) (n142x99 _) ?_))
  k_with "call builtin:isinstance" => (k_here; (with_reducible show wpAny _ _ (call (Value.builtin "isinstance") [Value.ref _, Value.ref 130]) _ _ _); (refine isn_at (D := 142) (by k_in) (Fr.keep (by assumption) _ _ ga) (Fr.keep (by assumption) _ _ gd) (e142 _) (c142 _) (n142x130 _) ?_))
  k_with "call builtin:isinstance" => (k_here; (with_reducible show wpAny _ _ (call (Value.builtin "isinstance") [Value.ref _, Value.ref 142]) _ _ _); (refine isy_at (D := 142) (by k_in) (Fr.keep (by assumption) _ _ ga) (Fr.keep (by assumption) _ _ gd) (i142x142 _) ?_))
  k_with "getAttr ref" => (k_here; (with_reducible show wpAny _ _ (getAttr (Value.ref _) (Str.ofString "smtp_code") _) _ _ _); (refine attr_at (D := 142) (by k_in) (Fr.keep (by assumption) _ _ ga) (Fr.keep (by assumption) _ _ gd) (e142 _) (d142 _) (f142Code _) rfl rfl ?_))
  k_with "getAttr ref" => (k_here; (with_reducible show wpAny _ _ (getAttr (Value.ref _) (Str.ofString "smtp_error") _) _ _ _); (refine attr_at (D := 142) (by k_in) (Fr.keep (by assumption) _ _ ga) (Fr.keep (by assumption) _ _ gd) (e142 _) (d142 _) (f142Error _) rfl rfl ?_))
  revert X; k_fill; intro X
  refine' enter [] X T hb (fun _ h => nomatch h) (by omega) ?k6 ?k7 ?k9 ?kB ?_ ?c2 ?c3 ?c4 ?c5
  case k6 => k_is
  case k7 => k_is
  case k9 => exact BindsTo.of_eq rfl
  case c5 => decide
  case kB => exact locs rfl
  case c2 => exact rfl
  case c3 => exact rfl
  case c4 => exact rfl
  intro g L' h' eg eL hk X' T' F' N'
  have ga : g.get? a = _ := eg ▸ hideAll_get [] ha (fun h => nomatch h)
  have gd : g.get? d = _ := eg ▸ hideAll_get [] hd (fun h => nomatch h)
  try dsimp only
  try k_fold
  k_steps
  rename Fr _ _ _ _ => F
  rename News _ _ _ _ => N
  have hnew := N _ (.head _)
  have hfresh := rc_fresh (news := []) eg hnew.1 hnew.2.2 (fun _ h => nomatch h)
  exact hQ _ _ _ (keep_end (news := []) eg (fun _ h => nomatch h) F fun _ h => nomatch h) fun S hS _ => ⟨_, Reads.tuple (hideAll_get S hnew.1 (nin hS hfresh)) rfl rfl (.cons (.int _ _) (.cons (.int _ _) (.cons (.int _ _) (.cons (.none) .nil))))⟩
theorem code_99 {w : World} {A : Around} {s : Shared} {b₀ : Heap} {p loose mg mb} {a d : Addr} {fs : Array Value} {code ser : Int} {t1 t2 t3 k1 k2 k3 n : Nat} {h1 h2 h3 : Int} {R}
   (X : (Mine.tp.heap_39 w.params).In b₀) (T : TopRead p loose mg mb b₀) (hb : Keep b₀ s.heap) (hh : A.handled = none) (hdp : A.depth ≤ 390) (hun : A.units ≤ 390)
   (ha : s.heap.get? a = some ⟨.ref 99, some d, .fields fs, #[]⟩) (hd : s.heap.get? d = some (dctO [ent h1 "smtp_code" k1 (.int code t1), ent h2 "smtp_error" k2 (.int ser t2), ent h3 "sender" k3 (.int (-ser) t3)] n))
   (hQ : ∀ h' tk t, Keep s.heap h' → R (.ok (.ret (.int code t))) { s with heap := h', toks := tk }) :
   codeAny (model Challenge.rw_nb0163_01.row.prog w) A (.call (.ref 156) ⟨[.ref a], []⟩) R s := by
  k_with_none
  k_with "call builtin:isinstance" => (k_here; (with_reducible show wpAny _ _ (call (Value.builtin "isinstance") [Value.ref _, Value.ref 80]) _ _ _); (refine isy_at (D := 99) (by k_in) (Fr.keep (by assumption) _ _ ga) (Fr.keep (by assumption) _ _ gd) (i99x80 _) ?_))
  k_with "getAttr ref" => (k_here; (with_reducible show wpAny _ _ (getAttr (Value.ref _) (Str.ofString "smtp_code") _) _ _ _); (refine attr_at (D := 99) (by k_in) (Fr.keep (by assumption) _ _ ga) (Fr.keep (by assumption) _ _ gd) (e99 _) (d99 _) (f99Code _) rfl rfl ?_))
  revert X; k_fill; intro X
  refine' enter [] X T hb (fun _ h => nomatch h) (by omega) ?k6 ?k7 ?k9 ?kB ?_ ?c2 ?c3 ?c4 ?c5
  case k6 => k_is
  case k7 => k_is
  case k9 => exact BindsTo.of_eq rfl
  case c5 => decide
  case kB => exact locs rfl
  case c2 => exact rfl
  case c3 => exact rfl
  case c4 => exact rfl
  intro g L' h' eg eL hk X' T' F' N'
  have ga : g.get? a = _ := eg ▸ hideAll_get [] ha (fun h => nomatch h)
  have gd : g.get? d = _ := eg ▸ hideAll_get [] hd (fun h => nomatch h)
  try dsimp only
  try k_fold
  k_steps
  rename Fr _ _ _ _ => F
  exact hQ _ _ _ (keep_end (news := []) eg (fun _ h => nomatch h) F fun _ h => nomatch h)
theorem shown_99 {w : World} {A : Around} {s : Shared} {b₀ : Heap} {p loose mg mb} {a d : Addr} {fs : Array Value} {code ser : Int} {t1 t2 t3 k1 k2 k3 n : Nat} {h1 h2 h3 : Int} {R}
   (X : (Mine.tp.heap_39 w.params).In b₀) (T : TopRead p loose mg mb b₀) (hb : Keep b₀ s.heap) (hh : A.handled = none) (hdp : A.depth ≤ 390) (hun : A.units ≤ 390)
   (ha : s.heap.get? a = some ⟨.ref 99, some d, .fields fs, #[]⟩) (hd : s.heap.get? d = some (dctO [ent h1 "smtp_code" k1 (.int code t1), ent h2 "smtp_error" k2 (.int ser t2), ent h3 "sender" k3 (.int (-ser) t3)] n))
   (hQ : ∀ h' tk v', Keep s.heap h' → (∀ S : List Addr, (∀ a ∈ S, ∃ o, s.heap.get? a = some o) → ErrAt w.params b₀ (hideAll s.heap S) (.ref a) ⟨1, code, ser⟩ → Rd (hideAll h' S) v' (Er.dat ⟨1, code, ser⟩)) → R (.ok (.ret v')) { s with heap := h', toks := tk }) :
   codeAny (model Challenge.rw_nb0163_01.row.prog w) A (.call (.ref 163) ⟨[.ref a], []⟩) R s := by
  k_with_none
  k_with "call builtin:isinstance" => (k_here; (with_reducible show wpAny _ _ (call (Value.builtin "isinstance") [Value.ref _, Value.ref 118]) _ _ _); (refine isn_at (D := 99) (by k_in) (Fr.keep (by assumption) _ _ ga) (Fr.keep (by assumption) _ _ gd) (e99 _) (c99 _) (n99x118 _) ?_))
  k_with "call builtin:isinstance" => (k_here; (with_reducible show wpAny _ _ (call (Value.builtin "isinstance") [Value.ref _, Value.ref 99]) _ _ _); (refine isy_at (D := 99) (by k_in) (Fr.keep (by assumption) _ _ ga) (Fr.keep (by assumption) _ _ gd) (i99x99 _) ?_))
  k_with "getAttr ref" => (k_here; (with_reducible show wpAny _ _ (getAttr (Value.ref _) (Str.ofString "smtp_code") _) _ _ _); (refine attr_at (D := 99) (by k_in) (Fr.keep (by assumption) _ _ ga) (Fr.keep (by assumption) _ _ gd) (e99 _) (d99 _) (f99Code _) rfl rfl ?_))
  k_with "getAttr ref" => (k_here; (with_reducible show wpAny _ _ (getAttr (Value.ref _) (Str.ofString "smtp_error") _) _ _ _); (refine attr_at (D := 99) (by k_in) (Fr.keep (by assumption) _ _ ga) (Fr.keep (by assumption) _ _ gd) (e99 _) (d99 _) (f99Error _) rfl rfl ?_))
  k_with "getAttr ref" => (k_here; (with_reducible show wpAny _ _ (getAttr (Value.ref _) (Str.ofString "sender") _) _ _ _); (refine attr_at (D := 99) (by k_in) (Fr.keep (by assumption) _ _ ga) (Fr.keep (by assumption) _ _ gd) (e99 _) (d99 _) (f99Sender _) rfl rfl ?_))
  revert X; k_fill; intro X
  refine' enter [] X T hb (fun _ h => nomatch h) (by omega) ?k6 ?k7 ?k9 ?kB ?_ ?c2 ?c3 ?c4 ?c5
  case k6 => k_is
  case k7 => k_is
  case k9 => exact BindsTo.of_eq rfl
  case c5 => decide
  case kB => exact locs rfl
  case c2 => exact rfl
  case c3 => exact rfl
  case c4 => exact rfl
  intro g L' h' eg eL hk X' T' F' N'
  have ga : g.get? a = _ := eg ▸ hideAll_get [] ha (fun h => nomatch h)
  have gd : g.get? d = _ := eg ▸ hideAll_get [] hd (fun h => nomatch h)
  try dsimp only
  try k_fold
  k_steps
  rename Fr _ _ _ _ => F
  rename News _ _ _ _ => N
  have hnew := N _ (.head _)
  have hfresh := rc_fresh (news := []) eg hnew.1 hnew.2.2 (fun _ h => nomatch h)
  exact hQ _ _ _ (keep_end (news := []) eg (fun _ h => nomatch h) F fun _ h => nomatch h) fun S hS _ => ⟨_, Reads.tuple (hideAll_get S hnew.1 (nin hS hfresh)) rfl rfl (.cons (.int _ _) (.cons (.int _ _) (.cons (.int _ _) (.cons (.int _ _) .nil))))⟩
theorem code_spec {w : World} {A : Around} {s : Shared} {v : Value} {e : Er} {b₀ : Heap} {p loose mg mb} {Q E} (X : (Mine.tp.heap_39 w.params).In b₀) (T : TopRead p loose mg mb b₀) (hb : Keep b₀ s.heap) (hh : A.handled = none) (hdp : A.depth ≤ 390) (hun : A.units ≤ 390)
   (he : ErrAt w.params b₀ s.heap v e) (hc : 200 ≤ e.code) (hQ : ∀ h' tk t, Keep s.heap h' → Q (.int e.code t) { s with heap := h', toks := tk }) :
   wpAny (model Challenge.rw_nb0163_01.row.prog w) A (call (.ref 156) [v]) Q E s := by
  cases he with
  | data h1 h2 => exact wpAny_call (code_130 (t3 := 0) (k3 := 0) (h3 := 0) X T hb hh hdp hun h1 h2 fun h' tk t k => hQ h' tk t k)
  | sender h1 h2 => exact wpAny_call (code_99 X T hb hh hdp hun h1 h2 fun h' tk t k => hQ h' tk t k)
  | recip h1 h2 h3 h4 h5 f1 f2 f3 f4 f5 f6 => exact wpAny_call (code_rc X T hb hh hdp hun h1 h2 h3 h4 h5 f1 f2 f3 f4 f5 f6 hc fun h' tk t k => hQ h' tk t k)
  | conn h1 h2 => exact wpAny_call (code_142 (t3 := 0) (k3 := 0) (h3 := 0) X T hb hh hdp hun h1 h2 fun h' tk t k => hQ h' tk t k)
theorem shown_specS {w : World} {A : Around} {s : Shared} {v : Value} {e : Er} {b₀ : Heap} {p loose mg mb} {Q E} (X : (Mine.tp.heap_39 w.params).In b₀) (T : TopRead p loose mg mb b₀) (hb : Keep b₀ s.heap) (hh : A.handled = none) (hdp : A.depth ≤ 390) (hun : A.units ≤ 390)
   (he : ErrAt w.params b₀ s.heap v e) (hQ : ∀ h' tk v', Keep s.heap h' → (∀ S : List Addr, (∀ a ∈ S, ∃ o, s.heap.get? a = some o) → ErrAt w.params b₀ (hideAll s.heap S) v e → Rd (hideAll h' S) v' e.dat) → Q v' { s with heap := h', toks := tk }) :
   wpAny (model Challenge.rw_nb0163_01.row.prog w) A (call (.ref 163) [v]) Q E s := by
  cases he with
  | data h1 h2 => exact wpAny_call (shown_130 (t3 := 0) (k3 := 0) (h3 := 0) X T hb hh hdp hun h1 h2 fun h' tk t k r => hQ h' tk t k r)
  | sender h1 h2 => exact wpAny_call (shown_99 X T hb hh hdp hun h1 h2 fun h' tk t k r => hQ h' tk t k r)
  | recip h1 h2 h3 h4 h5 f1 f2 f3 f4 f5 f6 => exact wpAny_call (shown_rcS X T hb hh hdp hun h1 h2 h3 h4 h5 f1 f2 f3 f4 f5 f6 fun h' tk t k r => hQ h' tk t k r)
  | conn h1 h2 => exact wpAny_call (shown_142 (t3 := 0) (k3 := 0) (h3 := 0) X T hb hh hdp hun h1 h2 fun h' tk t k r => hQ h' tk t k r)
theorem ErrAt.unhide {P : Params} {b₀ h : Heap} {v : Value} {e : Er} (x : ErrAt P b₀ h v e) : ErrAt P b₀ (hideAll h []) v e := by
  have k : ∀ {a : Addr} {o : Obj}, h.get? a = some o → (hideAll h []).get? a = some o := fun e => hideAll_get [] e (fun h => nomatch h)
  cases x with
  | data h1 h2 => exact .data (k h1) (k h2)
  | sender h1 h2 => exact .sender (k h1) (k h2)
  | recip h1 h2 h3 h4 h5 f1 f2 f3 f4 f5 f6 => exact .recip (k h1) (k h2) (k h3) (k h4) (k h5) f1 f2 f3 f4 f5 f6
  | conn h1 h2 => exact .conn (k h1) (k h2)
theorem shown_spec {w : World} {A : Around} {s : Shared} {v : Value} {e : Er} {b₀ : Heap} {p loose mg mb} {Q E} (X : (Mine.tp.heap_39 w.params).In b₀) (T : TopRead p loose mg mb b₀) (hb : Keep b₀ s.heap) (hh : A.handled = none) (hdp : A.depth ≤ 390) (hun : A.units ≤ 390)
   (he : ErrAt w.params b₀ s.heap v e) (hQ : ∀ h' tk v', Keep s.heap h' → Rd h' v' e.dat → Q v' { s with heap := h', toks := tk }) :
   wpAny (model Challenge.rw_nb0163_01.row.prog w) A (call (.ref 163) [v]) Q E s :=
  shown_specS X T hb hh hdp hun he fun h' tk v' k r => hQ h' tk v' k (by
    obtain ⟨as, r⟩ := r [] (fun _ h => nomatch h) he.unhide
    exact ⟨as, Reads.keeps (fun _ _ e => of_hideAll _ e) r⟩)
abbrev nilTup : Obj := { cls := .type "tuple", data := .seq #[] }
abbrev excFs (t : Addr) : Array Value := #[.ref t, .none, .none, .none, .bool false, .none] ++ Builtin.OSError.osNothingGiven
abbrev excObj (C t : Addr) : Obj := { cls := .ref C, data := .fields (excFs t) }
/-- what the machine reads when an own class whose maker is OSError's is called: each a look at the written heap -/
structure Calls (M : Model) (h : Heap) (C f : Addr) (rest : List Value) : Prop where
  any : Looks M h (callAny (.ref C) ⟨rest, []⟩) (.again (.call (.builtin "type.__call__") ⟨.ref C :: rest, []⟩))
  tcall : Looks M h (checkBuiltinCall "type.__call__" ⟨.ref C :: rest, []⟩) ()
  mro : ∃ l, Looks M h (mroOf (.ref C)) (.ref C :: l)
  maker : Looks M h (Bind.madeBy (.ref C)) (some "OSError.__new__")
  new : Looks M h (checkBuiltinCall "OSError.__new__" ⟨.ref C :: rest, []⟩) ()
  cls : Looks M h (isType (.ref C)) true
  sub : Looks M h (isSubtype (.ref C) (.type "OSError")) true
  late : Looks M h (Builtin.OSError.osReadsInInit (.ref C)) true
  nodel : Looks M h (classHasDel C) false
  self : Looks M h (isSubtype (.ref C) (.ref C)) true
  init : Looks M h (typeLookup (.ref C) "__init__") (some (.ref f))
  bind : ∀ v, Looks M h (bindSpecial (.ref f) v) (.ref f, [v])
theorem on_entry : entryFor table "OSError.__new__" = some Builtin.«OSError.__new__» := entryFor_of_tree (by kernel_rfl)
theorem newObj_exc (C t : Addr) : newObj (.ref C) (.fields (excFs t)) = newObjAsIs (.ref C) (.fields (excFs t)) := by
  unfold newObj
  exact if_neg (by rw [sizeLine_eq]; exact (by decide : ¬ (11 : Nat) > 16777216 + 2))
section
variable {prog : Program} {w : World} {A : Around} {C f : Addr} {rest : List Value} {R : Result → Shared → Prop} {s : Shared}
theorem exc_new (Y : Calls (model prog w) s.heap C f rest) (hq : R (.ok (.ret (.ref (s.heap.objs.size + 1)))) { s with heap := (s.heap.push nilTup).push (excObj C s.heap.objs.size) }) :
    codeAny (model prog w) A (.call (.builtin "OSError.__new__") ⟨.ref C :: rest, []⟩) R s := by
  refine codeAny_call_builtin_code (Code.quiet_builtin _ (by decide +kernel)) (Y.new.here (codeAny_builtin on_entry ?_))
  refine wpAny_bind (m := isType (.ref C)) (Y.cls.here ?_)
  refine wpAny_bind (m := isSubtype (.ref C) (.type "OSError")) (Y.sub.here ?_)
  refine wpAny_bind (m := Builtin.OSError.osReadsInInit (.ref C)) (Y.late.here ?_)
  refine wpAny_bind (m := rule "OSError.__new__.left-to-init") (wpAny_rule ?_)
  refine wpAny_bind (m := newTuple [] >>= fun t => newObj (.ref C) (.fields (#[t, .none, .none, .none, .bool false, .none] ++ Builtin.OSError.osNothingGiven))) (wpAny_bind (wpAny_newTuple ?_))
  have step : wpAny (model prog w) (A.under (.builtin "OSError.__new__" ⟨.ref C :: rest, []⟩)) (newObjAsIs (.ref C) (.fields (excFs s.heap.objs.size))) (fun v s' => R (.ok (.ret v)) s') (fun e s' => R (.error e) s') { s with heap := s.heap.push nilTup } := by
    refine wpAny_bind (wpAny_alloc ?_)
    refine wpAny_bind (m := classHasDel C) ((Y.nodel.keeps fun b o e => Heap.get?_push_of_some _ (Heap.get?_push_of_some _ e)).here (wpAny_pure ?_))
    rw [Heap.size_push]
    exact hq
  refine wpAny_mono (t := newObj (.ref C) (.fields (excFs s.heap.objs.size))) ?_ (fun v s' z => wpAny_pure z) fun _ _ z => z
  rw [newObj_exc]
  exact step
theorem exc_make (Y : Calls (model prog w) s.heap C f rest)
    (hq : ∀ x t h₁, x = s.heap.objs.size + 1 → t = s.heap.objs.size → h₁ = (s.heap.push nilTup).push (excObj C t) →
      codeAny (model prog w) (A.under (.builtin "type.__call__" ⟨.ref C :: rest, []⟩)) (.call (.ref f) ⟨.ref x :: rest, []⟩) (InitBack x R) { s with heap := h₁ }) :
    codeAny (model prog w) A (.call (.ref C) ⟨rest, []⟩) R s := by
  have kk : Keep s.heap ((s.heap.push nilTup).push (excObj C s.heap.objs.size)) := fun b o e => Heap.get?_push_of_some _ (Heap.get?_push_of_some _ e)
  have hx : ((s.heap.push nilTup).push (excObj C s.heap.objs.size)).get? (s.heap.objs.size + 1) = some (excObj C s.heap.objs.size) := Heap.get?_push_at (by rw [Heap.size_push]) rfl
  have ty : Looks (model prog w) ((s.heap.push nilTup).push (excObj C s.heap.objs.size)) (typeOf (.ref (s.heap.objs.size + 1))) (.ref C) := (Looks.ld hx).andThen .now
  have isx : Looks (model prog w) ((s.heap.push nilTup).push (excObj C s.heap.objs.size)) (isInstance (.ref (s.heap.objs.size + 1)) (.ref C)) true := ty.andThen (Y.self.keeps kk)
  have spx : Looks (model prog w) ((s.heap.push nilTup).push (excObj C s.heap.objs.size)) (specialOf (.ref (s.heap.objs.size + 1)) "__init__") (some (.ref f)) := ty.andThen (Y.init.keeps kk)
  refine codeAny_of_tree (Y.any.here ⟨rfl, codeAny_call_builtin_at (Code.quiet_builtin _ (by decide +kernel)) entry_typeCall (Y.tcall.here ?_)⟩)
  obtain ⟨l, hl⟩ := Y.mro
  refine wpAny_bind (m := mroOf (.ref C)) (hl.here ?_)
  refine wpAny_bind (m := Bind.madeBy (.ref C)) (Y.maker.here ?_)
  refine wpAny_bind (m := pure (Value.builtin "OSError.__new__")) (wpAny_pure ?_)
  refine wpAny_bind (m := holding [Value.builtin "OSError.__new__"] (call (.builtin "OSError.__new__") (.ref C :: rest) [])) (wpAny_holding (wpAny_call (exc_new Y ?_)))
  refine wpAny_bind (m := isInstance (.ref (s.heap.objs.size + 1)) (.ref C)) (isx.here ?_)
  refine wpAny_bind (m := holding [Value.ref (s.heap.objs.size + 1)] (callSpecial? (.ref (s.heap.objs.size + 1)) "__init__" rest [])) (wpAny_holding ?_)
  refine wpAny_bind (m := specialOf (.ref (s.heap.objs.size + 1)) "__init__") (spx.here (wpAny_holding ?_))
  refine wpAny_bind (m := bindSpecial (.ref f) (.ref (s.heap.objs.size + 1))) (((Y.bind _).keeps kk).here ?_)
  refine wpAny_bind (m := call (.ref f) (.ref (s.heap.objs.size + 1) :: rest) []) (wpAny_call (codeAny_mono (hq _ _ _ rfl rfl rfl) fun r s' z => ?_))
  rcases r with e | (v | _ | _ | _) <;> first | exact z | exact z.elim | skip
  obtain ⟨rfl, z⟩ := z
  exact wpAny_pure (wpAny_pure z)
end
section
open Builtin.ObjectAttr
/-- what the machine reads when an attribute of an own exception is stored -/
structure Stores (M : Model) (h : Heap) (C : Addr) : Prop where
  mro : ∃ m, Looks M h (mroOf (.ref C)) m ∧ ∀ v, refuseLoop v "__setattr__" m = pure ()
  obj : Looks M h (isSubtype (.ref C) (.type "object")) true
  exc : Looks M h (isSubtype (.ref C) (.type "BaseException")) true
  sa : Looks M h (typeLookup (.ref C) "__setattr__") (some (.builtin "object.__setattr__"))
  dict : ∃ cd, Looks M h (classData C) cd ∧ cd.hasDict = true
  args : Looks M h (typeLookup (.ref C) "args") (some (.builtin "BaseException.args"))
  takes : Looks M h (storeTaker? (some (.builtin "BaseException.args"))) (some (.builtin "BaseException.args"))
/-- behind a store: all but x stands -/
abbrev But (x : Addr) (h h' : Heap) : Prop := ∀ b o, b ≠ x → h.get? b = some o → h'.get? b = some o
section
variable {prog : Program} {w : World} {A : Around} {C x : Addr} {s : Shared} {E : Value → Shared → Prop} {Q : Unit → Shared → Prop} {name : Str} {v : Value} {fs : Array Value}
theorem sa_call {R : Result → Shared → Prop} {tk : Tok} {attr r : Option Value} (tx : Looks (model prog w) s.heap (typeOf (.ref x)) (.ref C)) (Z : Stores (model prog w) s.heap C)
    (la : Looks (model prog w) s.heap (typeLookup (.ref C) name) attr) (lr : Looks (model prog w) s.heap (storeTaker? attr) r)
    (h : wpAny (model prog w) A.in1 (match r with | some a => setByDescriptor a (.ref x) v | none => storeInOwnDict (.ref x) (.ref C) (.str name tk) name v attr.isSome)
      (fun fin s' => match fin with | .done f => R (.ok f) s' | .again c' => c'.quiet = true ∧ codeAny (model prog w) A c' R s') (fun e s' => R (.error e) s') s) :
    codeAny (model prog w) A (.call (.builtin "object.__setattr__") ⟨[.ref x, .str name tk, v], []⟩) R s := by
  obtain ⟨m, hm, hp⟩ := Z.mro
  have isx : Looks (model prog w) s.heap (isInstance (.ref x) (.type "object")) true := tx.andThen Z.obj
  have pass : Looks (model prog w) s.heap (refuseIfOverridden (.ref x) "__setattr__") () := tx.andThen (hm.andThen (Looks.of_pure (hp _)))
  have O := PySem.F.store_object
  have ha := O.args (.ref x) (.str name tk) v
  refine codeAny_call_builtin O.slot.plain O.entry (check_slot (i := "object.__setattr__") O.kind O.split isx ha ?_)
  refine wpAny_bind (m := refuseIfOverridden (.ref x) "__setattr__") (pass.here ?_)
  refine wpAny_bind (m := typeOf (.ref x)) (tx.here ?_)
  refine wpAny_bind (m := typeLookup (.ref C) name) (la.here ?_)
  exact wpAny_bind (m := storeTaker? attr) (lr.here h)
theorem set_by {attr r : Option Value} (tx : Looks (model prog w) s.heap (typeOf (.ref x)) (.ref C)) (Z : Stores (model prog w) s.heap C)
    (la : Looks (model prog w) s.heap (typeLookup (.ref C) name) attr) (lr : Looks (model prog w) s.heap (storeTaker? attr) r)
    (h : ∀ A' E' (Q' : Fin → Shared → Prop), (∀ s', Q () s' → Q' (.done (.ret .none)) s') → wpAny (model prog w) A' (match r with | some a => setByDescriptor a (.ref x) v | none => storeInOwnDict (.ref x) (.ref C) (.str name s.toks) name v attr.isSome) Q' E' { s with toks := s.toks + 1 }) :
    wpAny (model prog w) A (setAttr (.ref x) name v) Q E s := by
  have sp : Looks (model prog w) s.heap (specialOf (.ref x) "__setattr__") (some (.builtin "object.__setattr__")) := tx.andThen Z.sa
  refine wpAny_bind (m := mkText name) (wpAny_mkText ?_)
  refine wpAny_bind (m := callSpecial? (.ref x) "__setattr__" [.str name s.toks, v]) ?_
  refine wpAny_bind (m := specialOf (.ref x) "__setattr__") (Looks.here (s := { s with toks := s.toks + 1 }) sp (wpAny_holding ?_))
  refine wpAny_bind (m := bindSpecial (.builtin "object.__setattr__") (.ref x)) (Looks.here (Looks.of_pure (PySem.F.store_object.slot.bind _)) ?_)
  refine wpAny_bind (m := call (.builtin "object.__setattr__") [.ref x, .str name s.toks, v]) (wpAny_call (sa_call (s := { s with toks := s.toks + 1 }) tx Z la lr (h _ _ _ fun s' z => ?_)))
  exact wpAny_pure (wpAny_pure z)
/-- the entry itself, in a dict that stands -/
theorem put_in {R : Fin → Shared → Prop} {d : Addr} {es es' : List DictEntry} {n n' : Nat} {tk : Tok} (D : s.heap.get? d = some (dctO es n))
    (hk : es.all (fun e => !e.refKey) = true) (e : Obj.putName name (PyData.keyHash w.params name) (.str name s.toks) v (dctO es n) = dctO es' n') (hz : es'.length ≤ 1000)
    (h : ∀ h', But d s.heap h' → h'.get? d = some (dctO es' n') → R (.done (.ret .none)) { s with heap := h', toks := s.toks + 1 }) :
    wpAny (model prog w) A (storeInDict d (.str name tk) name v) R E s := by
  have D' : (s.heap.update d (Obj.putName name (PyData.keyHash w.params name) (.str name s.toks) v)).get? d = some (dctO es' n') := e ▸ Heap.get?_update_self _ D (by rw [e]; rfl)
  have nk : aRefKeyMayBeTheName name es.toArray = false := by
    have z : es.toArray.any (·.refKey) = false := by
      rw [← Array.any_toList, List.any_eq_false]
      exact fun q hq => by simpa using List.all_eq_true.mp hk q hq
    rw [aRefKeyMayBeTheName_at, z, Bool.and_false]
  refine wpAny_bind (m := newKeyGuard d name (.str name tk)) (wpAny_pure ?_)
  refine wpAny_bind (m := nsSet d name v) ?_
  refine wpAny_bind (m := strHash name) (wpAny_bind (wpAny_askSetting (wpAny_pure ?_)))
  refine wpAny_bind (m := mkText name) (wpAny_mkText (wpAny_bind (wpAny_loadPart D ?_)))
  show wpAny _ _ (if aRefKeyMayBeTheName name es.toArray = true then _ else _) _ _ _
  rw [if_neg (by rw [nk]; decide)]
  refine wpAny_updatePart D (wpAny_bind (m := lookBehind d (some (.str name 0))) (wpAny_lookBehind D' (by exact pastItsLine_dict (by rw [List.size_toArray, sizeLine_eq]; omega)) ?_))
  exact wpAny_pure (h _ (fun b o hb hg => (Heap.get?_update_ne _ _ _ _ hb).trans hg) D')
theorem set_new (hx : s.heap.get? x = some ⟨.ref C, none, .fields fs, #[]⟩) (Z : Stores (model prog w) s.heap C) (la : Looks (model prog w) s.heap (typeLookup (.ref C) name) none)
    (h : ∀ h', But x s.heap h' → h'.get? x = some ⟨.ref C, some s.heap.objs.size, .fields fs, #[]⟩ → h'.get? s.heap.objs.size = some (dctO [⟨PyData.keyHash w.params name, .str name (s.toks + 1), v⟩] 1) → Q () { s with heap := h', toks := s.toks + 2 }) :
    wpAny (model prog w) A (setAttr (.ref x) name v) Q E s := by
  refine set_by (r := none) ((Looks.ld hx).andThen .now) Z la .now fun A' E' Q' hQ => ?_
  obtain ⟨cd, lc, hd⟩ := Z.dict
  have hne : x ≠ s.heap.objs.size := Nat.ne_of_lt (Heap.lt_size hx)
  have hx₁ := Heap.get?_push_of_some emptyDict hx
  have hx₂ := Heap.get?_update_self (fun o : Obj => { o with dict := some s.heap.objs.size }) hx₁ rfl
  have hd₂ : ((s.heap.push emptyDict).update x fun o => { o with dict := some s.heap.objs.size }).get? s.heap.objs.size = some (dctO [] 0) := (Heap.get?_update_ne _ _ _ _ hne.symm).trans (Heap.get?_push_at rfl rfl)
  refine wpAny_bind (m := ownStreamTells (.ref x) (.ref C)) (wpAny_pure ?_)
  refine wpAny_bind (m := instanceDict x true) (wpAny_bind (wpAny_loadPart hx (wpAny_bind (m := classData C) (Looks.here (s := { s with toks := s.toks + 1 }) lc ?_))))
  rw [hd]
  refine wpAny_bind (wpAny_alloc (wpAny_bind (wpAny_update hx₁ (wpAny_pure ?_))))
  refine put_in hd₂ rfl rfl (Nat.le_of_ble_eq_true rfl) fun h' hb hd' => hQ _ (h h' (fun b o hbx e => ?_) ?_ hd')
  · exact hb b o (Nat.ne_of_lt (Heap.lt_size e)) ((Heap.get?_update_ne _ _ _ _ hbx).trans (Heap.get?_push_of_some _ e))
  · exact hb x _ hne hx₂
theorem set_old {d : Addr} {es es' : List DictEntry} {n n' : Nat} (hx : s.heap.get? x = some ⟨.ref C, some d, .fields fs, #[]⟩) (D : s.heap.get? d = some (dctO es n)) (Z : Stores (model prog w) s.heap C) (la : Looks (model prog w) s.heap (typeLookup (.ref C) name) none)
    (hk : es.all (fun e => !e.refKey) = true) (e : Obj.putName name (PyData.keyHash w.params name) (.str name (s.toks + 1)) v (dctO es n) = dctO es' n') (hz : es'.length ≤ 1000)
    (h : ∀ h', But d s.heap h' → h'.get? d = some (dctO es' n') → Q () { s with heap := h', toks := s.toks + 2 }) :
    wpAny (model prog w) A (setAttr (.ref x) name v) Q E s := by
  refine set_by (r := none) ((Looks.ld hx).andThen .now) Z la .now fun A' E' Q' hQ => ?_
  obtain ⟨cd, lc, hd⟩ := Z.dict
  refine wpAny_bind (m := ownStreamTells (.ref x) (.ref C)) (wpAny_pure ?_)
  refine wpAny_bind (m := instanceDict x true) (wpAny_bind (wpAny_loadPart hx (wpAny_bind (m := classData C) (Looks.here (s := { s with toks := s.toks + 1 }) lc ?_))))
  rw [hd]
  exact wpAny_pure (put_in (s := { s with toks := s.toks + 1 }) D hk e hz fun h' hb hd' => hQ _ (h h' hb hd'))
end
end
theorem entry_gs_set : entryFor table "getset_descriptor.__set__" = some Builtin.«getset_descriptor.__set__» := entryFor_of_tree (by kernel_rfl)
theorem args_gs_set (a b c : Value) : argsOk "getset_descriptor.__set__" ⟨[a, b, c], []⟩ := by unfold argsOk; kernel_rfl
theorem entry_args_set : entryFor table ("BaseException.args" ++ "#set") = some Builtin.«BaseException.args#set» := entryFor_of_tree (by kernel_rfl)
theorem quiet_args_set {a : Args} : (Code.builtin ("BaseException.args" ++ "#set") a).quiet = true := Code.quiet_builtin _ (by decide +kernel)
section
open Builtin.Getset_descriptor
theorem set_args {prog : Program} {w : World} {A : Around} {C x u t : Addr} {s : Shared} {E : Value → Shared → Prop} {Q : Unit → Shared → Prop} {dx : Option Addr} {fs items : Array Value} (hx : s.heap.get? x = some ⟨.ref C, dx, .fields fs, #[]⟩)
    (h0 : fs[0]? = some (.ref t)) (hu : s.heap.IsTuple u items) (Z : Stores (model prog w) s.heap C)
    (h : ∀ h', But x s.heap h' → h'.get? x = some ⟨.ref C, dx, .fields (fs.setIfInBounds 0 (.ref u)), #[]⟩ → Q () { s with heap := h', toks := s.toks + 1 }) :
    wpAny (model prog w) A (setAttr (.ref x) "args" (.ref u)) Q E s := by
  have tx : Looks (model prog w) s.heap (typeOf (.ref x)) (.ref C) := (Looks.ld hx).andThen .now
  have isx : Looks (model prog w) s.heap (isInstance (.ref x) (.type (".".intercalate ("BaseException.args".cutAt '.').dropLast))) true := by
    rw [PySem.F.owner_bexc_args]; exact tx.andThen Z.exc
  have G := PySem.F.slot_gs_set
  have sp : ∀ h', Looks (model prog w) h' (specialOf (.builtin "BaseException.args") "__set__") (some (.builtin "getset_descriptor.__set__")) := fun _ => (Looks.of_pure PySem.F.typeOf_bexc_args).andThen (Looks.of_pure G.lookup)
  refine set_by tx Z Z.args Z.takes fun A' E' Q' hQ => ?_
  refine wpAny_bind (m := rule "setattr.data-descriptor") (wpAny_rule ?_)
  refine wpAny_bind (m := holding [Value.builtin "BaseException.args"] (callSpecial? (.builtin "BaseException.args") "__set__" [.ref x, .ref u])) (wpAny_holding ?_)
  refine wpAny_bind (m := specialOf (.builtin "BaseException.args") "__set__") ((sp _).here (wpAny_holding ?_))
  refine wpAny_bind (m := bindSpecial (.builtin "getset_descriptor.__set__") (.builtin "BaseException.args")) ((Looks.of_pure (G.bind _)).here ?_)
  refine wpAny_bind (m := call (.builtin "getset_descriptor.__set__") [.builtin "BaseException.args", .ref x, .ref u]) (wpAny_call (codeAny_call_builtin G.plain entry_gs_set (G.check _ _ _ _ _ _ _ _ PySem.F.typeOf_bexc_args (args_gs_set _ _ _) ?_)))
  show wpAny _ _ (descrStoreThrough "getset" (.builtin "BaseException.args") (.ref x) (some (.ref u))) _ _ _
  refine wpAny_bind (m := descrCheckInstance (.builtin "BaseException.args") (.ref x)) ?_
  refine wpAny_bind (m := descrNameAndClass (.builtin "BaseException.args")) (wpAny_pure ?_)
  refine wpAny_bind (m := isInstance (.ref x) (.type (".".intercalate ("BaseException.args".cutAt '.').dropLast))) (Looks.here (s := { s with toks := s.toks + 1 }) isx (wpAny_pure (a := ()) ?_))
  refine wpAny_bind (m := descrItself (.builtin "BaseException.args")) (wpAny_pure ?_)
  refine wpAny_pure (a := Fin.again (.builtin ("BaseException.args" ++ "#set") ⟨[.ref x, .ref u], []⟩)) ⟨quiet_args_set, codeAny_builtin entry_args_set ?_⟩
  refine wpAny_bind (m := call (.type "tuple") [.ref u]) (call_tuple_same hu (wpAny_bind (m := Builtin.BaseException.bexcPut (.ref x) 0 (.ref u)) ?_))
  refine wpAny_bind (m := field (.ref x) 0) (wpAny_field hx rfl h0 (wpAny_bind (wpAny_setField hx rfl (Array.getElem?_eq_some_iff.mp h0).1 ?_)))
  refine wpAny_letGo (wpAny_pure (wpAny_pure (wpAny_pure (hQ _ (h _ (fun b o hb e => (Heap.get?_update_ne _ _ _ _ hb).trans e) ?_)))))
  exact Heap.get?_update_self (Obj.mapFields fun a => a.setIfInBounds 0 (.ref u)) hx rfl
end
theorem fr_but {g h h' : Heap} {L x : Addr} {m : Str → Option Value} (F : Fr g L h m) (hx : g.get? x = none) (hL : L ≠ x) (k : But x h h') : Fr g L h' m :=
  ⟨by obtain ⟨o, es, ep, e1, r⟩ := F.ns; exact ⟨o, es, ep, k _ _ hL e1, r⟩, fun b o e => k b o (by rintro rfl; rw [hx] at e; cases e) (F.keep b o e), F.above⟩
theorem nws_but {g h h' : Heap} {L x : Addr} {news : List (Addr × Obj)} (N : News g L h news) (k : But x h h') (hx : ∀ q ∈ news, q.1 ≠ x) : News g L h' news := fun q hq => ⟨k _ _ (hx q hq) (N q hq).1, (N q hq).2⟩
theorem nws_cons {g h : Heap} {L a : Addr} {o : Obj} {news : List (Addr × Obj)} (h1 : h.get? a = some o ∧ a ≠ L ∧ g.get? a = none) (N : News g L h news) : News g L h ((a, o) :: news) := fun q hq => by
  cases hq with
  | head => exact h1
  | tail _ hq => exact N q hq
/-- the looks at class C, and at the names that its __init__ stores, at every heap where K stands -/
structure StoresIn (K : Frag) (C : Addr) (names : List Str) : Prop where
  at_ : ∀ {M : Model} {h : Heap}, K.In h → Stores M h C
  none : ∀ {M : Model} {h : Heap}, K.In h → ∀ n ∈ names, Looks M h (typeLookup (.ref C) n) none
section
variable {prog : Program} {w : World} {A : Around} {K : Frag} {C x t d u L : Addr} {s : Shared} {g : Heap} {m : Str → Option Value} {E : Value → Shared → Prop} {Q : Unit → Shared → Prop} {fs : Array Value} {name : Str} {names : List Str} {v : Value} {es : List DictEntry} {n : Nat} {ou : Obj}
theorem walk_new (F : Fr g L s.heap m) (N : News g L s.heap [(x, ⟨.ref C, none, .fields fs, #[]⟩), (t, nilTup)]) (X : K.In g) (S : StoresIn K C names) (hm : name ∈ names)
    (h : ∀ d h', Fr g L h' m → News g L h' [(d, dctO [⟨PyData.keyHash w.params name, .str name (s.toks + 1), v⟩] 1), (x, ⟨.ref C, some d, .fields fs, #[]⟩), (t, nilTup)] → Q () { s with heap := h', toks := s.toks + 2 }) :
    wpAny (model prog w) A (setAttr (.ref x) name v) Q E s := by
  have n1 := N _ (.head _)
  have n2 := N _ (.tail _ (.head _))
  have hxt : t ≠ x := by rintro rfl; have := n1.1.symm.trans n2.1; cases this
  refine set_new n1.1 (S.at_ (X.keeps F.keep)) (S.none (X.keeps F.keep) _ hm) fun h' hb hx hd => h s.heap.objs.size h' (fr_but F n1.2.2 n1.2.1.symm hb) (nws_cons ⟨hd, ?_, ?_⟩ (nws_cons ⟨hx, n1.2⟩ (nws_cons ⟨hb _ _ hxt n2.1, n2.2⟩ News.nil)))
  · rintro e
    obtain ⟨o, _, _, e1, _⟩ := F.ns
    rw [← e] at e1
    exact absurd (Heap.lt_size e1) (Nat.lt_irrefl _)
  · cases e : g.get? s.heap.objs.size with
    | none => rfl
    | some o => exact absurd (Heap.lt_size (F.keep _ _ e)) (Nat.lt_irrefl _)
theorem walk_old {es' : List DictEntry} {n' : Nat} (F : Fr g L s.heap m) (N : News g L s.heap [(d, dctO es n), (x, ⟨.ref C, some d, .fields fs, #[]⟩), (t, nilTup)]) (X : K.In g) (S : StoresIn K C names) (hm : name ∈ names)
    (hk : es.all (fun e => !e.refKey) = true) (e : Obj.putName name (PyData.keyHash w.params name) (.str name (s.toks + 1)) v (dctO es n) = dctO es' n') (hz : es'.length ≤ 1000)
    (h : ∀ h', Fr g L h' m → News g L h' [(d, dctO es' n'), (x, ⟨.ref C, some d, .fields fs, #[]⟩), (t, nilTup)] → Q () { s with heap := h', toks := s.toks + 2 }) :
    wpAny (model prog w) A (setAttr (.ref x) name v) Q E s := by
  have n1 := N _ (.head _)
  have n2 := N _ (.tail _ (.head _))
  have n3 := N _ (.tail _ (.tail _ (.head _)))
  have hxd : x ≠ d := by rintro rfl; have := n1.1.symm.trans n2.1; cases this
  have htd : t ≠ d := by rintro rfl; exact absurd (Value.type.inj (congrArg Obj.cls (Option.some.inj (n1.1.symm.trans n3.1)))) (by decide)
  exact set_old n2.1 n1.1 (S.at_ (X.keeps F.keep)) (S.none (X.keeps F.keep) _ hm) hk e hz fun h' hb hd => h h' (fr_but F n1.2.2 n1.2.1.symm hb) (nws_cons ⟨hd, n1.2⟩ (nws_cons ⟨hb _ _ hxd n2.1, n2.2⟩ (nws_cons ⟨hb _ _ htd n3.1, n3.2⟩ News.nil)))
theorem walk_args {items : Array Value} (F : Fr g L s.heap m) (N : News g L s.heap [(u, { cls := .type "tuple", data := .seq items }), (d, dctO es n), (x, ⟨.ref C, some d, .fields (excFs t), #[]⟩), (t, nilTup)]) (X : K.In g) (S : StoresIn K C names)
    (h : ∀ h', Fr g L h' m → News g L h' [(d, dctO es n), (x, ⟨.ref C, some d, .fields ((excFs t).setIfInBounds 0 (.ref u)), #[]⟩)] → Q () { s with heap := h', toks := s.toks + 1 }) :
    wpAny (model prog w) A (setAttr (.ref x) "args" (.ref u)) Q E s := by
  have n1 := N _ (.head _)
  have n2 := N _ (.tail _ (.head _))
  have n3 := N _ (.tail _ (.tail _ (.head _)))
  have hdx : d ≠ x := by rintro rfl; have := n2.1.symm.trans n3.1; cases this
  exact set_args n3.1 rfl ⟨_, n1.1, rfl, _, rfl⟩ (S.at_ (X.keeps F.keep)) fun h' hb hx => h h' (fr_but F n3.2.2 n3.2.1.symm hb) (nws_cons ⟨hb _ _ hdx n2.1, n2.2⟩ (nws_cons ⟨hx, n3.2⟩ News.nil))
end
theorem none_up {h0 h1 : Heap} {x : Addr} (hk : Keep h0 h1) (hx : h1.get? x = none) : h0.get? x = none := by
  cases e : h0.get? x with
  | none => rfl
  | some o => rw [hk _ _ e] at hx; cases hx
theorem init_77 {C : Addr} {w : World} {s : Shared} {b₀ : Heap} {p loose mg mb} {x t : Addr} {A : Around} {code ser : Int} {t2 t3 : Nat} {R}
   (X : (Mine.tp.heap_39 w.params).In b₀) (T : TopRead p loose mg mb b₀) (hb : Keep b₀ s.heap) (S : StoresIn (Mine.tp.heap_39 w.params) C [Str.ofString "smtp_code", Str.ofString "smtp_error"])
   (hx : s.heap.get? x = some (excObj C t)) (hxn : b₀.get? x = none) (ht : s.heap.get? t = some nilTup) (htn : b₀.get? t = none) (hdp : A.depth < 900)
   (hQ : ∀ h' tk d u k1 k2, Keep b₀ h' → h'.get? x = some ⟨.ref C, some d, .fields ((excFs t).setIfInBounds 0 (.ref u)), #[]⟩ → h'.get? d = some (dctO [ent (PyData.keyHash w.params "smtp_code") "smtp_code" k1 (.int code t2), ent (PyData.keyHash w.params "smtp_error") "smtp_error" k2 (.int ser t3)] 2) → b₀.get? d = none → R (.ok (.ret .none)) { s with heap := h', toks := tk }) :
   codeAny (model Challenge.rw_nb0163_01.row.prog w) A (.call (.ref 77) ⟨[.ref x, .int code t2, .int ser t3], []⟩) R s := by
  k_with_none
  k_with "setAttr ref" => (refine held ?_)
  revert X; k_fill; intro X
  refine' enter [(x, excObj C t), (t, nilTup)] X T hb (fun q h => by cases h with | head => exact ⟨hx, hxn⟩ | tail _ h => cases h with | head => exact ⟨ht, htn⟩ | tail _ h => cases h) hdp ?k6 ?k7 ?k9 ?kB ?_ ?c2 ?c3 ?c4 ?c5
  case k6 => k_is
  case k7 => k_is
  case k9 => exact BindsTo.of_eq rfl
  case c5 => decide
  case kB => exact locs rfl
  case c2 => exact rfl
  case c3 => exact rfl
  case c4 => exact rfl
  intro g L' h' eg eL hk X' T' F' N'
  change Fr g L' h' (fun y => List.lookup y [(Str.ofString "msg", .int ser t3), (Str.ofString "code", .int code t2), (Str.ofString "self", .ref x)]) at F'
  try dsimp only
  try k_fold
  k_steps
  refine unheld ?_
  refine walk_new F' N' X' S (.head _) ?_
  intro d h1 F1 N1
  clear F' N'
  try dsimp only
  k_steps
  refine unheld ?_
  refine walk_old F1 N1 X' S (.tail _ (.head _)) rfl rfl (Nat.le_of_ble_eq_true rfl) ?_
  intro h2 F2 N2
  clear F1 N1
  try dsimp only
  k_steps
  rename News _ _ _ _ => N8
  rename Fr _ _ _ _ => F8
  refine unheld ?_
  refine walk_args F8 N8 X' S ?_
  intro h9 F9 N9
  clear F8 N8
  try dsimp only
  k_steps
  have kg : Keep b₀ g := eg ▸ keep_hide hb (by intro a ha; cases ha with | head => exact hxn | tail _ h => cases h with | head => exact htn | tail _ h => cases h)
  have n1 := N9 _ (.head _)
  have n2 := N9 _ (.tail _ (.head _))
  exact hQ h9 _ d _ _ _ (fun b o e => F9.keep b o (kg b o e)) n2.1 n1.1 (none_up kg n1.2.2)
theorem init_96 {C : Addr} {w : World} {s : Shared} {b₀ : Heap} {p loose mg mb} {x t : Addr} {A : Around} {code ser sen : Int} {t2 t3 t4 : Nat} {R}
   (X : (Mine.tp.heap_39 w.params).In b₀) (T : TopRead p loose mg mb b₀) (hb : Keep b₀ s.heap) (S : StoresIn (Mine.tp.heap_39 w.params) C [Str.ofString "smtp_code", Str.ofString "smtp_error", Str.ofString "sender"])
   (hx : s.heap.get? x = some (excObj C t)) (hxn : b₀.get? x = none) (ht : s.heap.get? t = some nilTup) (htn : b₀.get? t = none) (hdp : A.depth < 900)
   (hQ : ∀ h' tk d u k1 k2 k3, Keep b₀ h' → h'.get? x = some ⟨.ref C, some d, .fields ((excFs t).setIfInBounds 0 (.ref u)), #[]⟩ → h'.get? d = some (dctO [ent (PyData.keyHash w.params "smtp_code") "smtp_code" k1 (.int code t2), ent (PyData.keyHash w.params "smtp_error") "smtp_error" k2 (.int ser t3), ent (PyData.keyHash w.params "sender") "sender" k3 (.int sen t4)] 3) → b₀.get? d = none → R (.ok (.ret .none)) { s with heap := h', toks := tk }) :
   codeAny (model Challenge.rw_nb0163_01.row.prog w) A (.call (.ref 96) ⟨[.ref x, .int code t2, .int ser t3, .int sen t4], []⟩) R s := by
  k_with_none
  k_with "setAttr ref" => (refine held ?_)
  revert X; k_fill; intro X
  refine' enter [(x, excObj C t), (t, nilTup)] X T hb (fun q h => by cases h with | head => exact ⟨hx, hxn⟩ | tail _ h => cases h with | head => exact ⟨ht, htn⟩ | tail _ h => cases h) hdp ?k6 ?k7 ?k9 ?kB ?_ ?c2 ?c3 ?c4 ?c5
  case k6 => k_is
  case k7 => k_is
  case k9 => exact BindsTo.of_eq rfl
  case c5 => decide
  case kB => exact locs rfl
  case c2 => exact rfl
  case c3 => exact rfl
  case c4 => exact rfl
  intro g L' h' eg eL hk X' T' F' N'
  change Fr g L' h' (fun y => List.lookup y [(Str.ofString "sender", .int sen t4), (Str.ofString "msg", .int ser t3), (Str.ofString "code", .int code t2), (Str.ofString "self", .ref x)]) at F'
  try dsimp only
  try k_fold
  k_steps
  refine unheld ?_
  refine walk_new F' N' X' S (.head _) ?_
  intro d h1 F1 N1
  clear F' N'
  try dsimp only
  k_steps
  refine unheld ?_
  refine walk_old F1 N1 X' S (.tail _ (.head _)) rfl rfl (Nat.le_of_ble_eq_true rfl) ?_
  intro h2 F2 N2
  clear F1 N1
  try dsimp only
  k_steps
  refine unheld ?_
  refine walk_old F2 N2 X' S (.tail _ (.tail _ (.head _))) rfl rfl (Nat.le_of_ble_eq_true rfl) ?_
  intro h3 F3 N3
  clear F2 N2
  try dsimp only
  k_steps
  rename News _ _ _ _ => N8
  rename Fr _ _ _ _ => F8
  refine unheld ?_
  refine walk_args F8 N8 X' S ?_
  intro h9 F9 N9
  clear F8 N8
  try dsimp only
  k_steps
  have kg : Keep b₀ g := eg ▸ keep_hide hb (by intro a ha; cases ha with | head => exact hxn | tail _ h => cases h with | head => exact htn | tail _ h => cases h)
  have n1 := N9 _ (.head _)
  have n2 := N9 _ (.tail _ (.head _))
  exact hQ h9 _ d _ _ _ _ (fun b o e => F9.keep b o (kg b o e)) n2.1 n1.1 (none_up kg n1.2.2)
theorem init_115 {C : Addr} {w : World} {s : Shared} {b₀ : Heap} {p loose mg mb} {x t : Addr} {A : Around} {r : Addr} {R}
   (X : (Mine.tp.heap_39 w.params).In b₀) (T : TopRead p loose mg mb b₀) (hb : Keep b₀ s.heap) (S : StoresIn (Mine.tp.heap_39 w.params) C [Str.ofString "recipients"])
   (hx : s.heap.get? x = some (excObj C t)) (hxn : b₀.get? x = none) (ht : s.heap.get? t = some nilTup) (htn : b₀.get? t = none) (hdp : A.depth < 900)
   (hQ : ∀ h' tk d u k1, Keep b₀ h' → h'.get? x = some ⟨.ref C, some d, .fields ((excFs t).setIfInBounds 0 (.ref u)), #[]⟩ → h'.get? d = some (dctO [ent (PyData.keyHash w.params "recipients") "recipients" k1 (.ref r)] 1) → b₀.get? d = none → R (.ok (.ret .none)) { s with heap := h', toks := tk }) :
   codeAny (model Challenge.rw_nb0163_01.row.prog w) A (.call (.ref 115) ⟨[.ref x, .ref r], []⟩) R s := by
  k_with_none
  k_with "setAttr ref" => (refine held ?_)
  revert X; k_fill; intro X
  refine' enter [(x, excObj C t), (t, nilTup)] X T hb (fun q h => by cases h with | head => exact ⟨hx, hxn⟩ | tail _ h => cases h with | head => exact ⟨ht, htn⟩ | tail _ h => cases h) hdp ?k6 ?k7 ?k9 ?kB ?_ ?c2 ?c3 ?c4 ?c5
  case k6 => k_is
  case k7 => k_is
  case k9 => exact BindsTo.of_eq rfl
  case c5 => decide
  case kB => exact locs rfl
  case c2 => exact rfl
  case c3 => exact rfl
  case c4 => exact rfl
  intro g L' h' eg eL hk X' T' F' N'
  change Fr g L' h' (fun y => List.lookup y [(Str.ofString "recipients", .ref r), (Str.ofString "self", .ref x)]) at F'
  try dsimp only
  try k_fold
  k_steps
  refine unheld ?_
  refine walk_new F' N' X' S (.head _) ?_
  intro d h1 F1 N1
  clear F' N'
  try dsimp only
  k_steps
  rename News _ _ _ _ => N8
  rename Fr _ _ _ _ => F8
  refine unheld ?_
  refine walk_args F8 N8 X' S ?_
  intro h9 F9 N9
  clear F8 N8
  try dsimp only
  k_steps
  have kg : Keep b₀ g := eg ▸ keep_hide hb (by intro a ha; cases ha with | head => exact hxn | tail _ h => cases h with | head => exact htn | tail _ h => cases h)
  have n1 := N9 _ (.head _)
  have n2 := N9 _ (.tail _ (.head _))
  exact hQ h9 _ d _ _ (fun b o e => F9.keep b o (kg b o e)) n2.1 n1.1 (none_up kg n1.2.2)
theorem make_any {prog : Program} {w : World} {C f : Addr} {rest : List Value} {s : Shared} {Q E} (Y : Calls (model prog w) s.heap C f rest)
   (hq : ∀ A x t h₁, A.depth < 900 → Keep s.heap h₁ → h₁.get? x = some (excObj C t) → s.heap.get? x = none → h₁.get? t = some nilTup → s.heap.get? t = none →
      codeAny (model prog w) A (.call (.ref f) ⟨.ref x :: rest, []⟩) (InitBack x fun r s' => match r with | .ok (.ret v) => Q v s' | .ok _ => False | .error e => E e s') { s with heap := h₁ }) :
   wpAny (model prog w) AX (call (.ref C) rest) Q E s := by
  have no : ∀ a, s.heap.objs.size ≤ a → s.heap.get? a = none := fun a ha => by
    cases q : s.heap.get? a with
    | none => rfl
    | some o => exact absurd (Heap.lt_size q) (Nat.not_lt.mpr ha)
  refine wpAny_call (exc_make Y fun x t h₁ ex et eh => ?_)
  subst ex et eh
  exact hq _ _ _ _ (Nat.le_of_ble_eq_true rfl) (fun b o e => Heap.get?_push_of_some _ (Heap.get?_push_of_some _ e)) (Heap.get?_push_at (by rw [Heap.size_push]) rfl) (no _ (Nat.le_succ _)) (Heap.get?_push_of_some _ (Heap.get?_push_at rfl rfl)) (no _ (Nat.le_refl _))
theorem pk_any (P : Params) (S : Setting) (a b c : Value) :
    peek (tp.heap_39 P) S (callAny (.ref 130) ⟨[a, b], []⟩) = some (.again (.call (.builtin "type.__call__") ⟨.ref 130 :: [a, b], []⟩)) ∧
    peek (tp.heap_39 P) S (callAny (.ref 142) ⟨[a, b], []⟩) = some (.again (.call (.builtin "type.__call__") ⟨.ref 142 :: [a, b], []⟩)) ∧
    peek (tp.heap_39 P) S (callAny (.ref 99) ⟨[a, b, c], []⟩) = some (.again (.call (.builtin "type.__call__") ⟨.ref 99 :: [a, b, c], []⟩)) ∧
    peek (tp.heap_39 P) S (callAny (.ref 118) ⟨[a], []⟩) = some (.again (.call (.builtin "type.__call__") ⟨.ref 118 :: [a], []⟩)) := ⟨by kernel_rfl, by kernel_rfl, by kernel_rfl, by kernel_rfl⟩
theorem pk_tcall (P : Params) (S : Setting) (a b c : Value) :
    peek (tp.heap_39 P) S (checkBuiltinCall "type.__call__" ⟨.ref 130 :: [a, b], []⟩) = some () ∧
    peek (tp.heap_39 P) S (checkBuiltinCall "type.__call__" ⟨.ref 142 :: [a, b], []⟩) = some () ∧
    peek (tp.heap_39 P) S (checkBuiltinCall "type.__call__" ⟨.ref 99 :: [a, b, c], []⟩) = some () ∧
    peek (tp.heap_39 P) S (checkBuiltinCall "type.__call__" ⟨.ref 118 :: [a], []⟩) = some () := ⟨by kernel_rfl, by kernel_rfl, by kernel_rfl, by kernel_rfl⟩
theorem pk_new (P : Params) (S : Setting) (a b c : Value) :
    peek (tp.heap_39 P) S (checkBuiltinCall "OSError.__new__" ⟨.ref 130 :: [a, b], []⟩) = some () ∧
    peek (tp.heap_39 P) S (checkBuiltinCall "OSError.__new__" ⟨.ref 142 :: [a, b], []⟩) = some () ∧
    peek (tp.heap_39 P) S (checkBuiltinCall "OSError.__new__" ⟨.ref 99 :: [a, b, c], []⟩) = some () ∧
    peek (tp.heap_39 P) S (checkBuiltinCall "OSError.__new__" ⟨.ref 118 :: [a], []⟩) = some () := ⟨by kernel_rfl, by kernel_rfl, by kernel_rfl, by kernel_rfl⟩
theorem pk_late (P : Params) (S : Setting) :
    peek (tp.heap_39 P) S (Builtin.OSError.osReadsInInit (.ref 130)) = some true ∧
    peek (tp.heap_39 P) S (Builtin.OSError.osReadsInInit (.ref 142)) = some true ∧
    peek (tp.heap_39 P) S (Builtin.OSError.osReadsInInit (.ref 99)) = some true ∧
    peek (tp.heap_39 P) S (Builtin.OSError.osReadsInInit (.ref 118)) = some true := ⟨by kernel_rfl, by kernel_rfl, by kernel_rfl, by kernel_rfl⟩
theorem pk_init (P : Params) (S : Setting) :
    peek (tp.heap_39 P) S (typeLookup (.ref 130) "__init__") = some (some (.ref 77)) ∧
    peek (tp.heap_39 P) S (typeLookup (.ref 142) "__init__") = some (some (.ref 77)) ∧
    peek (tp.heap_39 P) S (typeLookup (.ref 99) "__init__") = some (some (.ref 96)) ∧
    peek (tp.heap_39 P) S (typeLookup (.ref 118) "__init__") = some (some (.ref 115)) := ⟨by kernel_rfl, by kernel_rfl, by kernel_rfl, by kernel_rfl⟩
theorem pk_sa (P : Params) (S : Setting) :
    peek (tp.heap_39 P) S (typeLookup (.ref 130) "__setattr__") = some (some (.builtin "object.__setattr__")) ∧
    peek (tp.heap_39 P) S (typeLookup (.ref 142) "__setattr__") = some (some (.builtin "object.__setattr__")) ∧
    peek (tp.heap_39 P) S (typeLookup (.ref 99) "__setattr__") = some (some (.builtin "object.__setattr__")) ∧
    peek (tp.heap_39 P) S (typeLookup (.ref 118) "__setattr__") = some (some (.builtin "object.__setattr__")) := ⟨by kernel_rfl, by kernel_rfl, by kernel_rfl, by kernel_rfl⟩
theorem pk_args (P : Params) (S : Setting) :
    peek (tp.heap_39 P) S (typeLookup (.ref 130) "args") = some (some (.builtin "BaseException.args")) ∧
    peek (tp.heap_39 P) S (typeLookup (.ref 142) "args") = some (some (.builtin "BaseException.args")) ∧
    peek (tp.heap_39 P) S (typeLookup (.ref 99) "args") = some (some (.builtin "BaseException.args")) ∧
    peek (tp.heap_39 P) S (typeLookup (.ref 118) "args") = some (some (.builtin "BaseException.args")) := ⟨by kernel_rfl, by kernel_rfl, by kernel_rfl, by kernel_rfl⟩
theorem pk_pass (v : Value) :
    refuseLoop v "__setattr__" [.ref 130, .ref 80, .ref 60, .type "OSError", .type "Exception", .type "BaseException", .type "object"] = pure () ∧
    refuseLoop v "__setattr__" [.ref 142, .ref 80, .ref 60, .type "OSError", .type "Exception", .type "BaseException", .type "object"] = pure () ∧
    refuseLoop v "__setattr__" [.ref 99, .ref 80, .ref 60, .type "OSError", .type "Exception", .type "BaseException", .type "object"] = pure () ∧
    refuseLoop v "__setattr__" [.ref 118, .ref 60, .type "OSError", .type "Exception", .type "BaseException", .type "object"] = pure () := ⟨by kernel_rfl, by kernel_rfl, by kernel_rfl, by kernel_rfl⟩
theorem pk_takes : Builtin.ObjectAttr.storeTaker? (some (.builtin "BaseException.args")) = pure (some (.builtin "BaseException.args")) := by kernel_rfl
theorem pk_smtp_code (P : Params) (S : Setting) :
    peek (tp.heap_39 P) S (typeLookup (.ref 130) "smtp_code") = some none ∧
    peek (tp.heap_39 P) S (typeLookup (.ref 142) "smtp_code") = some none ∧
    peek (tp.heap_39 P) S (typeLookup (.ref 99) "smtp_code") = some none := ⟨by kernel_rfl, by kernel_rfl, by kernel_rfl⟩
theorem pk_smtp_error (P : Params) (S : Setting) :
    peek (tp.heap_39 P) S (typeLookup (.ref 130) "smtp_error") = some none ∧
    peek (tp.heap_39 P) S (typeLookup (.ref 142) "smtp_error") = some none ∧
    peek (tp.heap_39 P) S (typeLookup (.ref 99) "smtp_error") = some none := ⟨by kernel_rfl, by kernel_rfl, by kernel_rfl⟩
theorem pk_sender (P : Params) (S : Setting) :
    peek (tp.heap_39 P) S (typeLookup (.ref 99) "sender") = some none := by kernel_rfl
theorem pk_recipients (P : Params) (S : Setting) :
    peek (tp.heap_39 P) S (typeLookup (.ref 118) "recipients") = some none := by kernel_rfl
theorem calls_130 {P : Params} {M : Model} {h : Heap} (X : (tp.heap_39 P).In h) (a b : Value) : Calls M h 130 77 [a, b] where
  any := .of_peek X (pk_any _ _ a b a).1
  tcall := .of_peek X (pk_tcall _ _ a b a).1
  mro := ⟨[.ref 80, .ref 60, .type "OSError", .type "Exception", .type "BaseException", .type "object"], .of_peek X (by kernel_rfl)⟩
  maker := .of_peek X (by kernel_rfl)
  new := .of_peek X (pk_new _ _ a b a).1
  cls := .of_peek X (by kernel_rfl)
  sub := .of_peek X (by kernel_rfl)
  late := .of_peek X (pk_late _ _).1
  nodel := .of_peek X (by kernel_rfl)
  self := .of_peek X (by kernel_rfl)
  init := .of_peek X (pk_init _ _).1
  bind := fun _ => .of_peek X (by kernel_rfl)
theorem stores_130 (P : Params) : StoresIn (tp.heap_39 P) 130 [Str.ofString "smtp_code", Str.ofString "smtp_error"] where
  at_ := fun X => ⟨⟨[.ref 130, .ref 80, .ref 60, .type "OSError", .type "Exception", .type "BaseException", .type "object"], .of_peek X (by kernel_rfl), fun v => (pk_pass v).1⟩, .of_peek X (by kernel_rfl), .of_peek X (by kernel_rfl), .of_peek X (pk_sa _ _).1,
    by obtain ⟨cd, hc, hd⟩ := any_some (d130 P); exact ⟨cd, looks_clsIn X hc, hd⟩, .of_peek X (pk_args _ _).1, .of_pure pk_takes⟩
  none := fun X n hn => by
    cases hn with | head => exact .of_peek X (pk_smtp_code _ _).1 | tail _ hn => cases hn with | head => exact .of_peek X (pk_smtp_error _ _).1 | tail _ hn => cases hn
theorem make_130 {w : World} {p loose mg mb} (s : Shared) (code ser : Int) (t2 t3 : Nat) {Q E} (X : (Mine.tp.heap_39 w.params).In s.heap) (T : TopRead p loose mg mb s.heap)
   (hQ : ∀ h' tk x d fs k1 k2 n h1 h2, Keep s.heap h' → h'.get? x = some ⟨.ref 130, some d, .fields fs, #[]⟩ → fs[1]? = some .none →
     h'.get? d = some (dctO [ent h1 "smtp_code" k1 (.int code t2), ent h2 "smtp_error" k2 (.int ser t3)] n) → s.heap.get? x = none → s.heap.get? d = none → Q (.ref x) { s with heap := h', toks := tk }) :
   wpAny (model Challenge.rw_nb0163_01.row.prog w) AX (call (.ref 130) [.int code t2, .int ser t3]) Q E s :=
  make_any (calls_130 X _ _) fun A x t h₁ hd hk hx hxn ht htn => init_77 X T hk (stores_130 _) hx hxn ht htn hd
    fun h' tk d u k1 k2 q1 q2 q3 q4 => ⟨rfl, hQ h' tk x d _ k1 k2 _ _ _ q1 q2 rfl q3 hxn q4⟩
theorem calls_142 {P : Params} {M : Model} {h : Heap} (X : (tp.heap_39 P).In h) (a b : Value) : Calls M h 142 77 [a, b] where
  any := .of_peek X (pk_any _ _ a b a).2.1
  tcall := .of_peek X (pk_tcall _ _ a b a).2.1
  mro := ⟨[.ref 80, .ref 60, .type "OSError", .type "Exception", .type "BaseException", .type "object"], .of_peek X (by kernel_rfl)⟩
  maker := .of_peek X (by kernel_rfl)
  new := .of_peek X (pk_new _ _ a b a).2.1
  cls := .of_peek X (by kernel_rfl)
  sub := .of_peek X (by kernel_rfl)
  late := .of_peek X (pk_late _ _).2.1
  nodel := .of_peek X (by kernel_rfl)
  self := .of_peek X (by kernel_rfl)
  init := .of_peek X (pk_init _ _).2.1
  bind := fun _ => .of_peek X (by kernel_rfl)
theorem stores_142 (P : Params) : StoresIn (tp.heap_39 P) 142 [Str.ofString "smtp_code", Str.ofString "smtp_error"] where
  at_ := fun X => ⟨⟨[.ref 142, .ref 80, .ref 60, .type "OSError", .type "Exception", .type "BaseException", .type "object"], .of_peek X (by kernel_rfl), fun v => (pk_pass v).2.1⟩, .of_peek X (by kernel_rfl), .of_peek X (by kernel_rfl), .of_peek X (pk_sa _ _).2.1,
    by obtain ⟨cd, hc, hd⟩ := any_some (d142 P); exact ⟨cd, looks_clsIn X hc, hd⟩, .of_peek X (pk_args _ _).2.1, .of_pure pk_takes⟩
  none := fun X n hn => by
    cases hn with | head => exact .of_peek X (pk_smtp_code _ _).2.1 | tail _ hn => cases hn with | head => exact .of_peek X (pk_smtp_error _ _).2.1 | tail _ hn => cases hn
theorem make_142 {w : World} {p loose mg mb} (s : Shared) (code ser : Int) (t2 t3 : Nat) {Q E} (X : (Mine.tp.heap_39 w.params).In s.heap) (T : TopRead p loose mg mb s.heap)
   (hQ : ∀ h' tk x d fs k1 k2 n h1 h2, Keep s.heap h' → h'.get? x = some ⟨.ref 142, some d, .fields fs, #[]⟩ → fs[1]? = some .none →
     h'.get? d = some (dctO [ent h1 "smtp_code" k1 (.int code t2), ent h2 "smtp_error" k2 (.int ser t3)] n) → s.heap.get? x = none → s.heap.get? d = none → Q (.ref x) { s with heap := h', toks := tk }) :
   wpAny (model Challenge.rw_nb0163_01.row.prog w) AX (call (.ref 142) [.int code t2, .int ser t3]) Q E s :=
  make_any (calls_142 X _ _) fun A x t h₁ hd hk hx hxn ht htn => init_77 X T hk (stores_142 _) hx hxn ht htn hd
    fun h' tk d u k1 k2 q1 q2 q3 q4 => ⟨rfl, hQ h' tk x d _ k1 k2 _ _ _ q1 q2 rfl q3 hxn q4⟩
theorem calls_99 {P : Params} {M : Model} {h : Heap} (X : (tp.heap_39 P).In h) (a b c : Value) : Calls M h 99 96 [a, b, c] where
  any := .of_peek X (pk_any _ _ a b c).2.2.1
  tcall := .of_peek X (pk_tcall _ _ a b c).2.2.1
  mro := ⟨[.ref 80, .ref 60, .type "OSError", .type "Exception", .type "BaseException", .type "object"], .of_peek X (by kernel_rfl)⟩
  maker := .of_peek X (by kernel_rfl)
  new := .of_peek X (pk_new _ _ a b c).2.2.1
  cls := .of_peek X (by kernel_rfl)
  sub := .of_peek X (by kernel_rfl)
  late := .of_peek X (pk_late _ _).2.2.1
  nodel := .of_peek X (by kernel_rfl)
  self := .of_peek X (by kernel_rfl)
  init := .of_peek X (pk_init _ _).2.2.1
  bind := fun _ => .of_peek X (by kernel_rfl)
theorem stores_99 (P : Params) : StoresIn (tp.heap_39 P) 99 [Str.ofString "smtp_code", Str.ofString "smtp_error", Str.ofString "sender"] where
  at_ := fun X => ⟨⟨[.ref 99, .ref 80, .ref 60, .type "OSError", .type "Exception", .type "BaseException", .type "object"], .of_peek X (by kernel_rfl), fun v => (pk_pass v).2.2.1⟩, .of_peek X (by kernel_rfl), .of_peek X (by kernel_rfl), .of_peek X (pk_sa _ _).2.2.1,
    by obtain ⟨cd, hc, hd⟩ := any_some (d99 P); exact ⟨cd, looks_clsIn X hc, hd⟩, .of_peek X (pk_args _ _).2.2.1, .of_pure pk_takes⟩
  none := fun X n hn => by
    cases hn with | head => exact .of_peek X (pk_smtp_code _ _).2.2 | tail _ hn => cases hn with | head => exact .of_peek X (pk_smtp_error _ _).2.2 | tail _ hn => cases hn with | head => exact .of_peek X (pk_sender _ _) | tail _ hn => cases hn
theorem make_99 {w : World} {p loose mg mb} (s : Shared) (code ser sen : Int) (t2 t3 t4 : Nat) {Q E} (X : (Mine.tp.heap_39 w.params).In s.heap) (T : TopRead p loose mg mb s.heap)
   (hQ : ∀ h' tk x d fs k1 k2 k3 n h1 h2 h3, Keep s.heap h' → h'.get? x = some ⟨.ref 99, some d, .fields fs, #[]⟩ → fs[1]? = some .none →
     h'.get? d = some (dctO [ent h1 "smtp_code" k1 (.int code t2), ent h2 "smtp_error" k2 (.int ser t3), ent h3 "sender" k3 (.int sen t4)] n) → s.heap.get? x = none → s.heap.get? d = none → Q (.ref x) { s with heap := h', toks := tk }) :
   wpAny (model Challenge.rw_nb0163_01.row.prog w) AX (call (.ref 99) [.int code t2, .int ser t3, .int sen t4]) Q E s :=
  make_any (calls_99 X _ _ _) fun A x t h₁ hd hk hx hxn ht htn => init_96 X T hk (stores_99 _) hx hxn ht htn hd
    fun h' tk d u k1 k2 k3 q1 q2 q3 q4 => ⟨rfl, hQ h' tk x d _ k1 k2 k3 _ _ _ _ q1 q2 rfl q3 hxn q4⟩
theorem calls_118 {P : Params} {M : Model} {h : Heap} (X : (tp.heap_39 P).In h) (a : Value) : Calls M h 118 115 [a] where
  any := .of_peek X (pk_any _ _ a a a).2.2.2
  tcall := .of_peek X (pk_tcall _ _ a a a).2.2.2
  mro := ⟨[.ref 60, .type "OSError", .type "Exception", .type "BaseException", .type "object"], .of_peek X (by kernel_rfl)⟩
  maker := .of_peek X (by kernel_rfl)
  new := .of_peek X (pk_new _ _ a a a).2.2.2
  cls := .of_peek X (by kernel_rfl)
  sub := .of_peek X (by kernel_rfl)
  late := .of_peek X (pk_late _ _).2.2.2
  nodel := .of_peek X (by kernel_rfl)
  self := .of_peek X (by kernel_rfl)
  init := .of_peek X (pk_init _ _).2.2.2
  bind := fun _ => .of_peek X (by kernel_rfl)
theorem stores_118 (P : Params) : StoresIn (tp.heap_39 P) 118 [Str.ofString "recipients"] where
  at_ := fun X => ⟨⟨[.ref 118, .ref 60, .type "OSError", .type "Exception", .type "BaseException", .type "object"], .of_peek X (by kernel_rfl), fun v => (pk_pass v).2.2.2⟩, .of_peek X (by kernel_rfl), .of_peek X (by kernel_rfl), .of_peek X (pk_sa _ _).2.2.2,
    by obtain ⟨cd, hc, hd⟩ := any_some (d118 P); exact ⟨cd, looks_clsIn X hc, hd⟩, .of_peek X (pk_args _ _).2.2.2, .of_pure pk_takes⟩
  none := fun X n hn => by
    cases hn with | head => exact .of_peek X (pk_recipients _ _) | tail _ hn => cases hn
theorem make_118 {w : World} {p loose mg mb} (s : Shared) (r : Addr) {Q E} (X : (Mine.tp.heap_39 w.params).In s.heap) (T : TopRead p loose mg mb s.heap)
   (hQ : ∀ h' tk x d fs k1 n h1, Keep s.heap h' → h'.get? x = some ⟨.ref 118, some d, .fields fs, #[]⟩ → fs[1]? = some .none →
     h'.get? d = some (dctO [ent h1 "recipients" k1 (.ref r)] n) → s.heap.get? x = none → s.heap.get? d = none → Q (.ref x) { s with heap := h', toks := tk }) :
   wpAny (model Challenge.rw_nb0163_01.row.prog w) AX (call (.ref 118) [.ref r]) Q E s :=
  make_any (calls_118 X _) fun A x t h₁ hd hk hx hxn ht htn => init_115 X T hk (stores_118 _) hx hxn ht htn hd
    fun h' tk d u k1 q1 q2 q3 q4 => ⟨rfl, hQ h' tk x d _ k1 _ _ q1 q2 rfl q3 hxn q4⟩
structure ExcK (K : Frag) (C : Addr) : Prop where
  exc : subIn K (.ref C) (.type "BaseException") = some true
  typ : typeIn K (.ref C) = some (.type "type")
theorem raiseStmt_K {M : Model} {A : Around} {E : Value → Shared → Prop} {s : Shared} {env : Env} {K : Frag} {x : Sem Value} {Q : Flow → Shared → Prop} (hh : A.handled = none)
    (h : wpAny M A x (fun v s₁ => ∃ e C d fs, v = .ref e ∧ K.In s₁.heap ∧ ExcK K C ∧ s₁.heap.get? e = some ⟨.ref C, d, .fields fs, #[]⟩ ∧ fs[1]? = some .none ∧ E (.ref e) s₁) E s) :
    wpAny M A (raiseStmt env (some x) none) Q E s := by
  unfold raiseStmt
  refine wpAny_bind (wpAny_mono h (fun v s₁ h₁ => ?_) fun _ _ x => x)
  obtain ⟨e, C, dx, fs, rfl, X, ⟨k2, k3⟩, he, h1, hE⟩ := h₁
  obtain ⟨hp, g, d, tk, os⟩ := s₁
  have L0 : Looks M hp (typeOf (.ref e)) (.ref C) := (Looks.ld he).andThen .now
  have L2 := looks_subIn (M := M) X k2
  have L3 := looks_typeIn (M := M) X k3
  have L4 : Looks M hp (isType (.ref e)) false := (Looks.ld he).andThen .now
  have L5 : Looks M hp (isInstance (.ref e) (.type "BaseException")) true := L0.andThen L2
  have L6 : Looks M hp (excFromValue (.ref e) "exceptions must derive from BaseException") (.ref e) := by
    unfold excFromValue isExcClass
    refine (L4.andThen (b := false) ?_).andThen ?_
    · exact .now
    · exact L5.andThen .now
  have L7 : Looks M hp (raisedInstance (.ref e)) (.ref e) := by
    unfold raisedInstance
    refine L0.andThen (L3.andThen ?_)
    exact .now
  refine wpAny_bind (wpAny_pure (wpAny_bind (wpAny_holding (L6.at ?_))))
  refine wpAny_bind (L4.at ?_)
  dsimp only
  rw [if_neg (by decide)]
  refine wpAny_bind (L7.at ?_)
  unfold setFlight
  refine wpAny_bind (wpAny_bind (wpAny_field he rfl h1 ?_))
  rw [if_neg (by decide)]
  refine wpAny_pure ?_
  unfold raiseNew
  refine wpAny_bind (wpAny_handled ?_)
  rw [hh]
  first
    | exact wpAny_throw hE
    | exact wpAny_bind (wpAny_pure (wpAny_throw hE))
theorem raise_K {M : Model} {A : Around} {E : Value → Shared → Prop} {s : Shared} {env : Env} (K : Frag) {x : Expr} {pos : Pos} {Q : Flow → Shared → Prop} (hh : A.handled = none)
    (h : wpAny M A (eval x env) (fun v s₁ => ∃ e C d fs, v = .ref e ∧ K.In s₁.heap ∧ ExcK K C ∧ s₁.heap.get? e = some ⟨.ref C, d, .fields fs, #[]⟩ ∧ fs[1]? = some .none ∧ E (.ref e) s₁) E s) :
    wpAny M A (exec (.Raise (some x) none pos) env) Q E s := by
  rw [arm_exec_Raise]
  first
    | exact wpAny_bind (wpAny_standAt (raiseStmt_K hh (wpAny_bind (wpAny_mono h (fun v s₁ h₁ => wpAny_bind (wpAny_standAt (wpAny_pure h₁))) fun _ _ x => x))))
    | (simp only [evalOpt, Option.map]; exact wpAny_bind (wpAny_standAt (raiseStmt_K hh (wpAny_bind (wpAny_mono h (fun v s₁ h₁ => wpAny_bind (wpAny_standAt (wpAny_pure h₁))) fun _ _ x => x)))))
    | (show wpAny M A (do standAt pos; raiseStmt env (some (do let v ← eval x env; standAt pos; pure v)) none) Q E s; exact wpAny_bind (wpAny_standAt (raiseStmt_K hh (wpAny_bind (wpAny_mono h (fun v s₁ h₁ => wpAny_bind (wpAny_standAt (wpAny_pure h₁))) fun _ _ x => x)))))
/-- does an exception of class C go into the clause of class D -/
theorem matches_K {M : Model} {K : Frag} {h : Heap} (X : K.In h) {e C D : Addr} {d : Option Addr} {fs : Array Value} {b : Bool} (he : h.get? e = some ⟨.ref C, d, .fields fs, #[]⟩) (kt : typeIn K (.ref D) = some (.type "type")) (kc : isClsIn K D = true) (kx : subIn K (.ref D) (.type "BaseException") = some true)
    (ks : subIn K (.ref C) (.ref D) = some b) : Looks M h (excMatches (.ref e) (.ref D)) b := by
  have L0 : Looks M h (typeOf (.ref e)) (.ref C) := (Looks.ld he).andThen .now
  have L1 := looks_typeIn (M := M) X kt
  have L2 : Looks M h (isInstance (.ref D) (.type "tuple")) false := L1.andThen (looks_subIn X (by kernel_rfl))
  have L3 := looks_subIn (M := M) X kx
  have L4 : Looks M h (isType (.ref D)) true := by
    unfold isClsIn clsIn at kc
    split at kc
    · rename_i hl; exact (Looks.ld (X _ _ hl)).andThen .now
    · cases kc
  have L5 : Looks M h (isExcClass (.ref D)) true := L4.andThen L3
  have L6 := looks_subIn (M := M) X ks
  intro A Q E s k q
  obtain ⟨hp, g, dr, tk, os⟩ := s
  have M0 := L0.keeps k
  have M2 := L2.keeps k
  have M5 := L5.keeps k
  have M6 := L6.keeps k
  clear L0 L1 L2 L3 L4 L5 L6
  dsimp only at M0 M2 M5 M6
  unfold excMatches
  refine wpAny_bind (M2.at ?_)
  try dsimp only
  rw [if_neg (by decide)]
  refine wpAny_bind (wpAny_pure ?_)
  try dsimp only
  simp only [List.forIn_cons, List.forIn_nil]
  cases b
  all_goals repeat (first | exact wpAny_pure q | exact q | lk)
/-- every object but x is as it was, the frames F up to their slots -/
structure SlotK (fr : List Addr) (x : Addr) (h h' : Heap) : Prop where
  keep : ∀ b o, b ≠ x → b ∉ fr → h.get? b = some o → h'.get? b = some o
  slot : ∀ b o, b ≠ x → h.get? b = some o → ∃ sl, h'.get? b = some { o with slots := sl }
theorem note_K {M : Model} {A : Around} {E : Value → Shared → Prop} {s : Shared} {base : Heap} {env : Env} {outer : List Env} {L x C : Addr} {d : Option Addr} {fs : Array Value} {Q : Unit → Shared → Prop}
    (hfr : A.frames = some (env :: outer)) (hl : s.heap.FunFrames base (env :: outer)) (hf : env.frame = some L) (he : s.heap.get? x = some ⟨.ref C, d, .fields fs, #[]⟩) (h1 : fs[1]? = some .none)
    (h : ∀ h' T ts, SlotK ((env :: outer).filterMap (·.frame)) x s.heap h' → h'.get? x = some ⟨.ref C, d, .fields (fs.setIfInBounds 1 (.ref T)), #[]⟩ → h'.get? T = some ⟨.type "traceback", none, .fields ts, #[]⟩ → T ≠ x → s.heap.get? T = none → 3 < ts.size → Q () { s with heap := h' }) :
    wpAny M A (noteFrame (.ref x) env) (fun _ s' => wpAny M A (setFlight (.ref x) none) Q E s') E s := by
  have hsz : 1 < fs.size := (Array.getElem?_eq_some_iff.mp h1).1
  have hxn : x ∉ (env :: outer).filterMap (·.frame) := fun hm => by
    obtain ⟨_, o, ho, hnf⟩ := hl.mem hm
    rw [he] at ho; injection ho with ho; subst ho; exact hnf fs rfl
  unfold noteFrame
  simp only [hf]
  refine wpAny_bind (wpAny_field he rfl h1 ?_)
  rw [if_neg (by decide)]
  refine wpAny_bind (wpAny_frameOf_fun hfr hl hf fun h₁ hs₁ => ?_)
  refine wpAny_bind (wpAny_entryPlaceOf fun pl hpl => ?_)
  unfold EntryCells.newEntry newFields
  refine wpAny_bind (wpAny_newObj_type ?_ (hpl.sizeOk5 _ _ _ _ _))
  have he₁ : h₁.get? x = some ⟨.ref C, d, .fields fs, #[]⟩ := (hs₁.2.1 x hxn).trans he
  generalize htb : ([Value.none, .ref L, .none, rawInt L, .none] ++ (if pl.isEmpty then List.replicate 6 Value.none else pl)).toArray = tb
  have htbs : 3 < tb.size := by rw [← htb]; simp only [List.size_toArray, List.length_append, List.length_cons, List.length_nil]; omega
  have he₂ := Heap.get?_push_of_some (h := h₁) { cls := .type "traceback", dict := none, data := .fields tb } he₁
  refine wpAny_setField he₂ rfl hsz ?_
  have hTe : h₁.objs.size ≠ x := Nat.ne_of_gt (Heap.lt_size he₁)
  have he₃ := Heap.get?_update_self (Obj.mapFields (·.setIfInBounds 1 (Value.ref h₁.objs.size))) he₂ rfl
  have hT₃ := (Heap.get?_update_other (h₁.push { cls := .type "traceback", dict := none, data := .fields tb }) (Obj.mapFields (·.setIfInBounds 1 (Value.ref h₁.objs.size))) (Ne.symm hTe)).trans (Heap.get?_push_size h₁ rfl)
  unfold setFlight
  refine wpAny_bind (wpAny_field he₃ (vs := fs.setIfInBounds 1 (.ref h₁.objs.size)) rfl (x := .ref h₁.objs.size) (by simp [hsz]) ?_)
  rw [if_pos (show (Value.ref h₁.objs.size != Value.none) = true from by simp)]
  refine wpAny_setField hT₃ rfl htbs ?_
  have sz : ∀ b o, s.heap.get? b = some o → b ≠ h₁.objs.size := fun b o e => Nat.ne_of_lt (by rw [hs₁.1]; exact Heap.lt_size e)
  have other : ∀ b, b ≠ x → b ≠ h₁.objs.size → ∀ o, h₁.get? b = some o → (((h₁.push { cls := .type "traceback", dict := none, data := .fields tb }).update x (Obj.mapFields (·.setIfInBounds 1 (Value.ref h₁.objs.size)))).update h₁.objs.size (Obj.mapFields (·.setIfInBounds 3 ((none : Option Addr).elim Value.none fun f => rawInt f)))).get? b = some o := by
    intro b hb hb2 o e
    rw [Heap.get?_update_other _ _ (Ne.symm hb2), Heap.get?_update_other _ _ (Ne.symm hb)]
    exact Heap.get?_push_of_some _ e
  refine h _ h₁.objs.size (tb.setIfInBounds 3 .none) ⟨?_, ?_⟩ ?_ ?_ hTe ?_ (by simpa using htbs)
  · intro b o hb hbf e
    exact other b hb (sz b o e) o ((hs₁.2.1 b hbf).trans e)
  · intro b o hb e
    obtain ⟨sl, hsl⟩ := hs₁.2.2 b o e
    exact ⟨sl, other b hb (sz b o e) _ hsl⟩
  · rw [Heap.get?_update_other _ _ hTe]; exact he₃
  · exact Heap.get?_update_self (Obj.mapFields (·.setIfInBounds 3 ((none : Option Addr).elim Value.none fun f => rawInt f))) hT₃ rfl
  · cases q : s.heap.get? h₁.objs.size with
    | none => rfl
    | some o => exact absurd rfl (sz _ o q)
/-- setting the flight of a noted exception once more changes nothing but its entry -/
theorem flight_K {M : Model} {A : Around} {E : Value → Shared → Prop} {s : Shared} {x T C : Addr} {d : Option Addr} {fs ts : Array Value} {Q : Unit → Shared → Prop}
    (he : s.heap.get? x = some ⟨.ref C, d, .fields fs, #[]⟩) (h1 : fs[1]? = some (.ref T)) (hT : s.heap.get? T = some ⟨.type "traceback", none, .fields ts, #[]⟩) (h3 : 3 < ts.size) 
    (h : ∀ h', (∀ b o, b ≠ T → s.heap.get? b = some o → h'.get? b = some o) → Q () { s with heap := h' }) : wpAny M A (setFlight (.ref x) none) Q E s := by
  unfold setFlight
  refine wpAny_bind (wpAny_field he rfl h1 ?_)
  rw [if_pos (show (Value.ref T != Value.none) = true from by simp)]
  refine wpAny_setField hT rfl h3 (h _ fun b o hb e => ?_)
  rw [Heap.get?_update_other _ _ (Ne.symm hb)]; exact e
section
variable {w : World} {A : Around} {E : Value → Shared → Prop} {s : Shared} {K : Frag} {b₀ : Heap} {p : Program} {loose : List Str} {mg mb : Str → Option Value} {qual : Str} {scope : Scope} {L a x T C D : Addr} {cd : Value} {d : Option Addr} {fs ts : Array Value}
  {Dn n : Str} {np rp rpos pos : Pos} {rest : List ExceptHandler} {Q : Flow → Shared → Prop} {m : Str → Option Value} {prog : Program}
theorem name_global (X : K.In b₀) (Tp : TopRead p loose mg mb b₀) (hb : Keep b₀ s.heap) {v : Value} (e : nsIn K mainGlobals Dn = some (some v)) {Q : Value → Shared → Prop} (h : Q v s) (hk : scope.kind = .function) (hx : (envOf qual scope L a cd).kindOf Dn = some .globalImplicit) (hd : (Dn == ("__debug__" : Str)) = false) :
    wpAny (model prog w) A (eval (.Name Dn np) (envOf qual scope L a cd)) Q E s :=
  Calls.Name_function_global hk hx (Calls.loadGlobal_global (env := envOf qual scope L a cd) (Tp.g.keeps hb) (mg_of X Tp.g e) h) hd
theorem handle_miss (X : K.In b₀) (Tp : TopRead p loose mg mb b₀) (hb : Keep b₀ s.heap) (he : s.heap.get? x = some ⟨.ref C, d, .fields fs, #[]⟩)
    (e : nsIn K mainGlobals Dn = some (some (.ref D))) (kt : typeIn K (.ref D) = some (.type "type")) (kc : isClsIn K D = true) (kx : subIn K (.ref D) (.type "BaseException") = some true) (ks : subIn K (.ref C) (.ref D) = some false)
    (hk : scope.kind = .function) (hx : (envOf qual scope L a cd).kindOf Dn = some .globalImplicit) (hd : (Dn == ("__debug__" : Str)) = false) {nm : Option Str} {body : List Stmt}
    (h : wpAny (model prog w) A (handleBy (.ref x) (envOf qual scope L a cd) rest) Q E s) :
    wpAny (model prog w) A (handleBy (.ref x) (envOf qual scope L a cd) (.ExceptHandler (some (.Name Dn np)) nm body pos :: rest)) Q E s := by
  refine wpAny_handleBy_cons (codeAny_handlers_test (name_global X Tp hb e ?_ hk hx hd)) (by intro q; cases q)
  exact (matches_K (X.keeps hb) he kt kc kx ks).here h
theorem handle_hit (X : K.In b₀) (Tp : TopRead p loose mg mb b₀) (hb : Keep b₀ s.heap) (he : s.heap.get? x = some ⟨.ref C, d, .fields fs, #[]⟩) (h1 : fs[1]? = some (.ref T)) (hT : s.heap.get? T = some ⟨.type "traceback", none, .fields ts, #[]⟩) (h3 : 3 < ts.size)
    (hn : s.heap.Ns L m) (hTL : T ≠ L)
    (e : nsIn K mainGlobals Dn = some (some (.ref D))) (kt : typeIn K (.ref D) = some (.type "type")) (kc : isClsIn K D = true) (kx : subIn K (.ref D) (.type "BaseException") = some true) (ks : subIn K (.ref C) (.ref D) = some true)
    (hk : scope.kind = .function) (hx : (envOf qual scope L a cd).kindOf Dn = some .globalImplicit) (hd : (Dn == ("__debug__" : Str)) = false)
    (hl : (envOf qual scope L a cd).kindOf n = some .local) (hd2 : (n == ("__debug__" : Str)) = false)
    (h : ∀ h' tk, (∀ b o, b ≠ T → b ≠ L → s.heap.get? b = some o → h'.get? b = some o) → Q (.ret (.ref x)) { s with heap := h', toks := tk }) :
    wpAny (model prog w) A (handleBy (.ref x) (envOf qual scope L a cd) (.ExceptHandler (some (.Name Dn np)) (some n) [.Return (some (.Name n rp)) rpos] pos :: rest)) Q E s := by
  have hp : ((envOf qual scope L a cd).scope.kind == .class || ((envOf qual scope L a cd).scope.kind == .module && (envOf qual scope L a cd).locals != (envOf qual scope L a cd).globals)) = false := by
    show (scope.kind == .class || (scope.kind == .module && L != mainGlobals)) = false; rw [hk]; rfl
  refine wpAny_handleBy_cons (codeAny_handlers_test (name_global X Tp hb e ?_ hk hx hd)) (by intro q; cases q)
  refine (matches_K (X.keeps hb) he kt kc kx ks).here ?_
  dsimp only
  rw [if_pos rfl]
  refine codeAny_handlers_suite_as ?_
  refine flight_K he h1 hT h3 fun h₁ k₁ => ?_
  have hn₁ : h₁.Ns L m := hn.at' fun o e => k₁ L o (Ne.symm hTL) e
  refine wpAny_storeName_local (env := envOf qual scope L a cd) hl hn₁ (fun h₂ hn₂ hs₂ => ?_) hp
  refine wpAny_execs_cons (wpAny_Return_some (wpAny_Name (wpAny_loadName_local (env := envOf qual scope L a cd) hk hl hn₂ (v := .ref x) (by simp) ?_) hd2))
  refine wpAny_nameGoes (env := envOf qual scope L a cd) hl hn₂ hp fun h₃ m₃ hn₃ hs₃ => ?_
  refine h _ _ fun b o hbT hbL e => ?_
  exact hs₃.extBut b o hbL (hs₂.extBut b o hbL (k₁ b o hbT e))
end
/-- the frames' own addresses -/
abbrev frs (outer : List Env) : List Addr := outer.filterMap (·.frame)
theorem ns_slot {h h' : Heap} {L : Addr} {m : Str → Option Value} (hn : h.Ns L m) (hs : ∀ o, h.get? L = some o → ∃ sl, h'.get? L = some { o with slots := sl }) : h'.Ns L m := by
  obtain ⟨o, es, ep, ho, hd, r⟩ := hn
  obtain ⟨sl, e⟩ := hs o ho
  exact ⟨_, es, ep, e, hd, r⟩
section
variable {w : World} {A : Around} {E : Value → Shared → Prop} {s : Shared} {K : Frag} {b₀ : Heap} {p : Program} {loose : List Str} {mg mb : Str → Option Value} {qual : Str} {scope : Scope} {L a x C D D2 : Addr} {cd : Value} {d : Option Addr} {fs : Array Value}
  {Dn Dn2 n : Str} {np rp rpos pos np2 pos2 rp2 rpos2 : Pos} {rest : List ExceptHandler} {Q : Flow → Shared → Prop} {m : Str → Option Value} {prog : Program} {outer : List Env}
theorem note_all (X : K.In b₀) (Tp : TopRead p loose mg mb b₀) (hb : Keep b₀ s.heap) (hfr : A.frames = some (envOf qual scope L a cd :: outer)) (hff : s.heap.FunFrames b₀ outer) (hn : s.heap.Ns L m) (hL : b₀.get? L = none) (hx : b₀.get? x = none) (hk : scope.kind = .function)
    (he : s.heap.get? x = some ⟨.ref C, d, .fields fs, #[]⟩) (h1 : fs[1]? = some .none)
    (h : ∀ h' T ts fs', Keep b₀ h' → h'.Ns L m → SlotK (L :: frs outer) x s.heap h' → h'.get? x = some ⟨.ref C, d, .fields fs', #[]⟩ → fs'[1]? = some (.ref T) → h'.get? T = some ⟨.type "traceback", none, .fields ts, #[]⟩ → T ≠ x → s.heap.get? T = none → 3 < ts.size → Q .next { s with heap := h' }) :
    wpAny (model prog w) A (noteFrame (.ref x) (envOf qual scope L a cd)) (fun _ s' => wpAny (model prog w) A (setFlight (.ref x) none) (fun _ s₃ => Q .next s₃) E s') E s := by
  have hl : s.heap.FunFrames b₀ (envOf qual scope L a cd :: outer) := .cons (by show scope.kind ≠ .module; rw [hk]; decide) rfl hn hL hff
  have hxL : L ≠ x := by
    rintro rfl
    obtain ⟨o, es, ep, ho, hd, _⟩ := hn
    rw [he] at ho; cases ho; cases hd
  refine note_K hfr hl rfl he h1 fun h' T ts SK hx2 hT2 hTx hTn h3 => ?_
  have hsz : 1 < fs.size := (Array.getElem?_eq_some_iff.mp h1).1
  refine h h' T ts _ ?_ (ns_slot hn fun o e => SK.slot L o hxL e) SK hx2 (by simp [hsz]) hT2 hTx hTn h3
  intro b o e
  refine SK.keep b o (by rintro rfl; rw [hx] at e; cases e) (fun hm => ?_) (hb b o e)
  rw [(hl.mem hm).1] at e; cases e
theorem end_first (X : K.In b₀) (Tp : TopRead p loose mg mb b₀) (hb : Keep b₀ s.heap) (hfr : A.frames = some (envOf qual scope L a cd :: outer)) (hff : s.heap.FunFrames b₀ outer) (hn : s.heap.Ns L m) (hL : b₀.get? L = none) (hx : b₀.get? x = none)
    (he : s.heap.get? x = some ⟨.ref C, d, .fields fs, #[]⟩) (h1 : fs[1]? = some .none)
    (e : nsIn K mainGlobals Dn = some (some (.ref D))) (kt : typeIn K (.ref D) = some (.type "type")) (kc : isClsIn K D = true) (kx : subIn K (.ref D) (.type "BaseException") = some true) (ks : subIn K (.ref C) (.ref D) = some true)
    (hk : scope.kind = .function) (hxx : (envOf qual scope L a cd).kindOf Dn = some .globalImplicit) (hd : (Dn == ("__debug__" : Str)) = false)
    (hl : (envOf qual scope L a cd).kindOf n = some .local) (hd2 : (n == ("__debug__" : Str)) = false)
    (h : ∀ h' tk fs', (∀ b o, b ≠ x → b ≠ L → b ∉ frs outer → s.heap.get? b = some o → h'.get? b = some o) → (∀ b o, b ≠ x → b ≠ L → s.heap.get? b = some o → ∃ sl, h'.get? b = some { o with slots := sl }) →
      h'.get? x = some ⟨.ref C, d, .fields fs', #[]⟩ → Q (.ret (.ref x)) { s with heap := h', toks := tk }) :
    wpAny (model prog w) A (noteFrame (.ref x) (envOf qual scope L a cd)) (fun _ s₂ => wpAny (model prog w) A (setFlight (.ref x) none) (fun _ s₃ =>
      wpAny (model prog w) A (handleBy (.ref x) (envOf qual scope L a cd) (.ExceptHandler (some (.Name Dn np)) (some n) [.Return (some (.Name n rp)) rpos] pos :: rest)) Q E s₃) E s₂) E s := by
  refine note_all (Q := fun _ s₃ => wpAny (model prog w) A (handleBy (.ref x) (envOf qual scope L a cd) (.ExceptHandler (some (.Name Dn np)) (some n) [.Return (some (.Name n rp)) rpos] pos :: rest)) Q E s₃) X Tp hb hfr hff hn hL hx hk he h1 ?_
  intro h₁ T ts fs' hb₁ hn₁ SK hx₁ hf1 hT hTx hTn h3
  have hTL : T ≠ L := by
    rintro rfl
    obtain ⟨o, _, _, ho, _⟩ := hn
    rw [hTn] at ho; cases ho
  have hTne : ∀ b o, s.heap.get? b = some o → b ≠ T := by rintro b o e rfl; rw [hTn] at e; cases e
  refine handle_hit X Tp hb₁ hx₁ hf1 hT h3 hn₁ hTL e kt kc kx ks hk hxx hd hl hd2 fun h₂ tk k₂ => ?_
  refine h h₂ tk fs' ?_ ?_ ?_
  · intro b o hbx hbL hbf eb
    exact k₂ b o (hTne b o eb) hbL (SK.keep b o hbx (by simp [hbL, hbf]) eb)
  · intro b o hbx hbL eb
    obtain ⟨sl, hsl⟩ := SK.slot b o hbx eb
    exact ⟨sl, k₂ b _ (hTne b o eb) hbL hsl⟩
  · refine k₂ x _ (Ne.symm hTx) ?_ hx₁
    rintro rfl
    obtain ⟨o, es, ep, ho, hdd, _⟩ := hn
    rw [he] at ho; cases ho; cases hdd
theorem end_second (X : K.In b₀) (Tp : TopRead p loose mg mb b₀) (hb : Keep b₀ s.heap) (hfr : A.frames = some (envOf qual scope L a cd :: outer)) (hff : s.heap.FunFrames b₀ outer) (hn : s.heap.Ns L m) (hL : b₀.get? L = none) (hx : b₀.get? x = none)
    (he : s.heap.get? x = some ⟨.ref C, d, .fields fs, #[]⟩) (h1 : fs[1]? = some .none)
    (e : nsIn K mainGlobals Dn = some (some (.ref D))) (kt : typeIn K (.ref D) = some (.type "type")) (kc : isClsIn K D = true) (kx : subIn K (.ref D) (.type "BaseException") = some true) (ks : subIn K (.ref C) (.ref D) = some false)
    (e2 : nsIn K mainGlobals Dn2 = some (some (.ref D2))) (kt2 : typeIn K (.ref D2) = some (.type "type")) (kc2 : isClsIn K D2 = true) (kx2 : subIn K (.ref D2) (.type "BaseException") = some true) (ks2 : subIn K (.ref C) (.ref D2) = some true)
    (hk : scope.kind = .function) (hxx : (envOf qual scope L a cd).kindOf Dn = some .globalImplicit) (hd : (Dn == ("__debug__" : Str)) = false) (hxx2 : (envOf qual scope L a cd).kindOf Dn2 = some .globalImplicit) (hdd2 : (Dn2 == ("__debug__" : Str)) = false)
    (hl : (envOf qual scope L a cd).kindOf n = some .local) (hd2 : (n == ("__debug__" : Str)) = false) {nm : Option Str} {body : List Stmt}
    (h : ∀ h' tk fs', (∀ b o, b ≠ x → b ≠ L → b ∉ frs outer → s.heap.get? b = some o → h'.get? b = some o) → (∀ b o, b ≠ x → b ≠ L → s.heap.get? b = some o → ∃ sl, h'.get? b = some { o with slots := sl }) →
      h'.get? x = some ⟨.ref C, d, .fields fs', #[]⟩ → Q (.ret (.ref x)) { s with heap := h', toks := tk }) :
    wpAny (model prog w) A (noteFrame (.ref x) (envOf qual scope L a cd)) (fun _ s₂ => wpAny (model prog w) A (setFlight (.ref x) none) (fun _ s₃ =>
      wpAny (model prog w) A (handleBy (.ref x) (envOf qual scope L a cd) (.ExceptHandler (some (.Name Dn np)) nm body pos :: .ExceptHandler (some (.Name Dn2 np2)) (some n) [.Return (some (.Name n rp)) rpos] pos2 :: rest)) Q E s₃) E s₂) E s := by
  refine note_all (Q := fun _ s₃ => wpAny (model prog w) A (handleBy (.ref x) (envOf qual scope L a cd) (.ExceptHandler (some (.Name Dn np)) nm body pos :: .ExceptHandler (some (.Name Dn2 np2)) (some n) [.Return (some (.Name n rp)) rpos] pos2 :: rest)) Q E s₃) X Tp hb hfr hff hn hL hx hk he h1 ?_
  intro h₁ T ts fs' hb₁ hn₁ SK hx₁ hf1 hT hTx hTn h3
  have hTL : T ≠ L := by
    rintro rfl
    obtain ⟨o, _, _, ho, _⟩ := hn
    rw [hTn] at ho; cases ho
  have hTne : ∀ b o, s.heap.get? b = some o → b ≠ T := by rintro b o e rfl; rw [hTn] at e; cases e
  refine handle_miss X Tp hb₁ hx₁ e kt kc kx ks hk hxx hd ?_
  refine handle_hit X Tp hb₁ hx₁ hf1 hT h3 hn₁ hTL e2 kt2 kc2 kx2 ks2 hk hxx2 hdd2 hl hd2 fun h₂ tk k₂ => ?_
  refine h h₂ tk fs' ?_ ?_ ?_
  · intro b o hbx hbL hbf eb
    exact k₂ b o (hTne b o eb) hbL (SK.keep b o hbx (by simp [hbL, hbf]) eb)
  · intro b o hbx hbL eb
    obtain ⟨sl, hsl⟩ := SK.slot b o hbx eb
    exact ⟨sl, k₂ b _ (hTne b o eb) hbL hsl⟩
  · refine k₂ x _ (Ne.symm hTx) ?_ hx₁
    rintro rfl
    obtain ⟨o, es, ep, ho, hdd, _⟩ := hn
    rw [he] at ho; cases ho; cases hdd
end
theorem dict_two_of {prog : Program} {w : World} {o : Obj} {va vb : Value} (h : o.IsDictOf (strKind prog w) [(Str.ofString "a", va), (Str.ofString "b", vb)]) :
    ∃ k2 k3 m, o = dctO [ent (PyData.keyHash w.params (Str.ofString "a")) "a" k2 va, ent (PyData.keyHash w.params (Str.ofString "b")) "b" k3 vb] m := by
  obtain ⟨es, ep, ⟨h1, h2, h3⟩, hd, hk, hp, _⟩ := h
  obtain ⟨oc, od, oda, osl⟩ := o
  obtain ⟨es⟩ := es
  dsimp only at h1 h2 h3 hd hp
  subst h1 h2 h3 hd
  cases hp with
  | cons i1 v1 r =>
    cases r with
    | cons i2 v2 r =>
      cases r
      rename_i e1 e2
      have k1 := hk e1 (by simp)
      have k2 := hk e2 (by simp)
      obtain ⟨q1, j1, g1⟩ := k1
      obtain ⟨q2, j2, g2⟩ := k2
      obtain ⟨t1, z1⟩ := Value.isStrOf_shape (show Value.isStrOf _ _ = true from i1)
      obtain ⟨t2, z2⟩ := Value.isStrOf_shape (show Value.isStrOf _ _ = true from i2)
      have w1 : q1 = Str.ofString "a" := (strKind prog w).inj _ _ _ j1 i1
      have w2 : q2 = Str.ofString "b" := (strKind prog w).inj _ _ _ j2 i2
      subst w1 w2
      obtain ⟨eh1, ek1, ev1⟩ := e1
      obtain ⟨eh2, ek2, ev2⟩ := e2
      dsimp only at z1 z2 v1 v2 g1 g2
      subst z1 z2 v1 v2 g1 g2
      exact ⟨t1, t2, ep, rfl⟩
/-- everything stands but the running frames' slots -/
structure OuterK (outer : List Env) (h h' : Heap) : Prop where
  keep : ∀ b o, b ∉ frs outer → h.get? b = some o → h'.get? b = some o
  slot : ∀ b o, h.get? b = some o → ∃ sl, h'.get? b = some { o with slots := sl }
theorem outer_of {outer : List Env} {h0 h1 h2 h3 : Heap} {x L : Addr} (eL : L = h0.objs.size) (hk : Keep h0 h1) (hk₂ : Keep h1 h2) (hxn : h1.get? x = none)
    (kp : ∀ b o, b ≠ x → b ≠ L → b ∉ frs outer → h2.get? b = some o → h3.get? b = some o) (ks : ∀ b o, b ≠ x → b ≠ L → h2.get? b = some o → ∃ sl, h3.get? b = some { o with slots := sl }) : OuterK outer h0 h3 := by
  have hx : ∀ b o, h0.get? b = some o → b ≠ x := by rintro b o e rfl; rw [hk _ _ e] at hxn; cases hxn
  have hl : ∀ b o, h0.get? b = some o → b ≠ L := fun b o e => by rw [eL]; exact Nat.ne_of_lt (Heap.lt_size e)
  exact ⟨fun b o hb e => kp b o (hx b o e) (hl b o e) hb (hk₂ _ _ (hk _ _ e)), fun b o e => ks b o (hx b o e) (hl b o e) (hk₂ _ _ (hk _ _ e))⟩
theorem none_of {h0 h1 : Heap} {x : Addr} (hk : Keep h0 h1) (hx : h1.get? x = none) : h0.get? x = none := by
  cases e : h0.get? x with
  | none => rfl
  | some o => rw [hk _ _ e] at hx; cases hx
theorem off_frs {outer : List Env} {b₀ h0 h1 : Heap} {d : Addr} (hff : h0.FunFrames b₀ outer) (hk : Keep h0 h1) (hd : h1.get? d = none) : d ∉ frs outer := fun hm => by
  obtain ⟨_, o, ho, _⟩ := hff.mem hm
  rw [hk _ _ ho] at hd; cases hd
theorem caught_0 {w : World} {A : Around} {s : Shared} {b₀ : Heap} {p loose mg mb} {code ser : Int} {t1 t2 t3 : Nat} {outer : List Env} {R}
   (X : (Mine.tp.heap_39 w.params).In b₀) (T : TopRead p loose mg mb b₀) (hb : Keep b₀ s.heap) (hh : A.handled = none) (hdp : A.depth ≤ 380) (hun : A.units ≤ 380) (hfr : A.frames = some outer) (hff : s.heap.FunFrames b₀ outer)
   (hQ : ∀ h' tk x, OuterK outer s.heap h' → s.heap.get? x = none → (∀ S : List Addr, (∀ a ∈ S, ∃ o, s.heap.get? a = some o) → ErrAt w.params b₀ (hideAll h' S) (.ref x) ⟨0, code, ser⟩) → R (.ok (.ret (.ref x))) { s with heap := h', toks := tk }) :
   codeAny (model Challenge.rw_nb0163_01.row.prog w) A (.call (.ref 151) ⟨[.int 0 t1, .int code t2, .int ser t3], []⟩) R s := by
  k_with_none
  k_with "exec Raise" => (refine held ?_)
  k_with "call ref" => (refine held ?_)
  k_with "eval Dict" => (k_here; k_dflt (refine' kdn_str ?q ?F ?N ?b ?a ?l ?e ?n ?_; (case q => rfl); (case F => k_asm); (case N => first | k_asm | exact News.nil); (case b => exact TopRead.nolimit (by k_asm)); (case a => rfl); (case l => rfl); (case e => exact List.cons_ne_nil _ _); (case n => exact Nat.le_of_ble_eq_true rfl)); intro d' h' o' F' N' l1 lo' hd'; (try k_lt l1))
  revert X; k_fill; intro X
  refine' enter [] X T hb (fun _ h => nomatch h) (by omega) ?k6 ?k7 ?k9 ?kB ?_ ?c2 ?c3 ?c4 ?c5
  case k6 => k_is
  case k7 => k_is
  case k9 => exact BindsTo.of_eq rfl
  case c5 => decide
  case kB => exact locs rfl
  case c2 => exact rfl
  case c3 => exact rfl
  case c4 => exact rfl
  intro g L' h' eg eL hk X' T' F' N'
  change Fr g L' h' (fun y => List.lookup y [(Str.ofString "serial", .int ser t3), (Str.ofString "code", .int code t2), (Str.ofString "kind", .int 0 t1)]) at F'
  try dsimp only
  try k_fold
  k_steps
  refine unheld ?_
  refine raise_K (Mine.tp.heap_39 w.params) hh ?_
  try k_fold
  k_steps
  refine unheld ?_
  have hbh : Keep b₀ h' := fun b o e => hk b o (hb b o e)
  refine wpAX (make_130 _ code ser t2 t3 (X.keeps hbh) (T.keeps hbh) ?_) hh (by show _ + 1 ≤ 400; omega) (by show _ + 3 ≤ 400; omega)
  intro h₂ tk₂ x d fs k1 k2 n h1 h2 hk₂ hx hf1 hd hxn hdn
  refine ⟨x, 130, some d, fs, rfl, X.keeps fun b o e => hk₂ b o (hbh b o e), ⟨by k_is, by k_is⟩, hx, hf1, ?_⟩
  have hns := F'.ns
  have hLd : L' ≠ d := by rintro rfl; obtain ⟨_, _, _, ho, _⟩ := hns; rw [hdn] at ho; cases ho
  have hdx : d ≠ x := by rintro rfl; rw [hx] at hd; cases hd
  have hxb : b₀.get? x = none := none_of hbh hxn
  have hLb : b₀.get? L' = none := by
    cases e : b₀.get? L' with
    | none => rfl
    | some o => rw [eL] at e; exact absurd (Heap.lt_size (hb _ _ e)) (Nat.lt_irrefl _)
  refine end_first X T (fun b o e => hk₂ b o (hbh b o e)) (Around.frames_deeper hfr) (hff.of_keeps fun b o e _ => ⟨o, hk₂ b o (hk b o e), rfl⟩) (hns.keeps hk₂) hLb hxb hx hf1 (by k_is) (by k_is) (by k_is) (by k_is) (by k_is) rfl rfl (by decide) rfl (by decide) ?_
  intro h₃ tk₃ fs' kp ks hx₃
  exact hQ h₃ tk₃ x (outer_of eL hk hk₂ hxn kp ks) (none_of hk hxn) (fun S hS => ErrAt.data (hideAll_get S hx₃ (nin hS (none_of hk hxn))) (hideAll_get S (kp d _ hdx (Ne.symm hLd) (off_frs hff hk hdn) hd) (nin hS (none_of hk hdn))))
theorem caught_1 {w : World} {A : Around} {s : Shared} {b₀ : Heap} {p loose mg mb} {code ser : Int} {t1 t2 t3 : Nat} {outer : List Env} {R}
   (X : (Mine.tp.heap_39 w.params).In b₀) (T : TopRead p loose mg mb b₀) (hb : Keep b₀ s.heap) (hh : A.handled = none) (hdp : A.depth ≤ 380) (hun : A.units ≤ 380) (hfr : A.frames = some outer) (hff : s.heap.FunFrames b₀ outer)
   (hQ : ∀ h' tk x, OuterK outer s.heap h' → s.heap.get? x = none → (∀ S : List Addr, (∀ a ∈ S, ∃ o, s.heap.get? a = some o) → ErrAt w.params b₀ (hideAll h' S) (.ref x) ⟨1, code, ser⟩) → R (.ok (.ret (.ref x))) { s with heap := h', toks := tk }) :
   codeAny (model Challenge.rw_nb0163_01.row.prog w) A (.call (.ref 151) ⟨[.int 1 t1, .int code t2, .int ser t3], []⟩) R s := by
  k_with_none
  k_with "exec Raise" => (refine held ?_)
  k_with "call ref" => (refine held ?_)
  k_with "eval Dict" => (k_here; k_dflt (refine' kdn_str ?q ?F ?N ?b ?a ?l ?e ?n ?_; (case q => rfl); (case F => k_asm); (case N => first | k_asm | exact News.nil); (case b => exact TopRead.nolimit (by k_asm)); (case a => rfl); (case l => rfl); (case e => exact List.cons_ne_nil _ _); (case n => exact Nat.le_of_ble_eq_true rfl)); intro d' h' o' F' N' l1 lo' hd'; (try k_lt l1))
  revert X; k_fill; intro X
  refine' enter [] X T hb (fun _ h => nomatch h) (by omega) ?k6 ?k7 ?k9 ?kB ?_ ?c2 ?c3 ?c4 ?c5
  case k6 => k_is
  case k7 => k_is
  case k9 => exact BindsTo.of_eq rfl
  case c5 => decide
  case kB => exact locs rfl
  case c2 => exact rfl
  case c3 => exact rfl
  case c4 => exact rfl
  intro g L' h' eg eL hk X' T' F' N'
  change Fr g L' h' (fun y => List.lookup y [(Str.ofString "serial", .int ser t3), (Str.ofString "code", .int code t2), (Str.ofString "kind", .int 1 t1)]) at F'
  try dsimp only
  try k_fold
  k_steps
  refine unheld ?_
  refine raise_K (Mine.tp.heap_39 w.params) hh ?_
  try k_fold
  k_steps
  refine unheld ?_
  have hbh : Keep b₀ h' := fun b o e => hk b o (hb b o e)
  refine wpAX (make_99 _ code ser (-ser) t2 t3 _ (X.keeps hbh) (T.keeps hbh) ?_) hh (by show _ + 1 ≤ 400; omega) (by show _ + 3 ≤ 400; omega)
  intro h₂ tk₂ x d fs k1 k2 k3 n h1 h2 h3 hk₂ hx hf1 hd hxn hdn
  refine ⟨x, 99, some d, fs, rfl, X.keeps fun b o e => hk₂ b o (hbh b o e), ⟨by k_is, by k_is⟩, hx, hf1, ?_⟩
  have hns := F'.ns
  have hLd : L' ≠ d := by rintro rfl; obtain ⟨_, _, _, ho, _⟩ := hns; rw [hdn] at ho; cases ho
  have hdx : d ≠ x := by rintro rfl; rw [hx] at hd; cases hd
  have hxb : b₀.get? x = none := none_of hbh hxn
  have hLb : b₀.get? L' = none := by
    cases e : b₀.get? L' with
    | none => rfl
    | some o => rw [eL] at e; exact absurd (Heap.lt_size (hb _ _ e)) (Nat.lt_irrefl _)
  refine end_first X T (fun b o e => hk₂ b o (hbh b o e)) (Around.frames_deeper hfr) (hff.of_keeps fun b o e _ => ⟨o, hk₂ b o (hk b o e), rfl⟩) (hns.keeps hk₂) hLb hxb hx hf1 (by k_is) (by k_is) (by k_is) (by k_is) (by k_is) rfl rfl (by decide) rfl (by decide) ?_
  intro h₃ tk₃ fs' kp ks hx₃
  exact hQ h₃ tk₃ x (outer_of eL hk hk₂ hxn kp ks) (none_of hk hxn) (fun S hS => ErrAt.sender (hideAll_get S hx₃ (nin hS (none_of hk hxn))) (hideAll_get S (kp d _ hdx (Ne.symm hLd) (off_frs hff hk hdn) hd) (nin hS (none_of hk hdn))))
theorem caught_3 {w : World} {A : Around} {s : Shared} {b₀ : Heap} {p loose mg mb} {code ser : Int} {t1 t2 t3 : Nat} {outer : List Env} {R}
   (X : (Mine.tp.heap_39 w.params).In b₀) (T : TopRead p loose mg mb b₀) (hb : Keep b₀ s.heap) (hh : A.handled = none) (hdp : A.depth ≤ 380) (hun : A.units ≤ 380) (hfr : A.frames = some outer) (hff : s.heap.FunFrames b₀ outer)
   (hQ : ∀ h' tk x, OuterK outer s.heap h' → s.heap.get? x = none → (∀ S : List Addr, (∀ a ∈ S, ∃ o, s.heap.get? a = some o) → ErrAt w.params b₀ (hideAll h' S) (.ref x) ⟨3, code, ser⟩) → R (.ok (.ret (.ref x))) { s with heap := h', toks := tk }) :
   codeAny (model Challenge.rw_nb0163_01.row.prog w) A (.call (.ref 151) ⟨[.int 3 t1, .int code t2, .int ser t3], []⟩) R s := by
  k_with_none
  k_with "exec Raise" => (refine held ?_)
  k_with "call ref" => (refine held ?_)
  k_with "eval Dict" => (k_here; k_dflt (refine' kdn_str ?q ?F ?N ?b ?a ?l ?e ?n ?_; (case q => rfl); (case F => k_asm); (case N => first | k_asm | exact News.nil); (case b => exact TopRead.nolimit (by k_asm)); (case a => rfl); (case l => rfl); (case e => exact List.cons_ne_nil _ _); (case n => exact Nat.le_of_ble_eq_true rfl)); intro d' h' o' F' N' l1 lo' hd'; (try k_lt l1))
  revert X; k_fill; intro X
  refine' enter [] X T hb (fun _ h => nomatch h) (by omega) ?k6 ?k7 ?k9 ?kB ?_ ?c2 ?c3 ?c4 ?c5
  case k6 => k_is
  case k7 => k_is
  case k9 => exact BindsTo.of_eq rfl
  case c5 => decide
  case kB => exact locs rfl
  case c2 => exact rfl
  case c3 => exact rfl
  case c4 => exact rfl
  intro g L' h' eg eL hk X' T' F' N'
  change Fr g L' h' (fun y => List.lookup y [(Str.ofString "serial", .int ser t3), (Str.ofString "code", .int code t2), (Str.ofString "kind", .int 3 t1)]) at F'
  try dsimp only
  try k_fold
  k_steps
  refine unheld ?_
  refine raise_K (Mine.tp.heap_39 w.params) hh ?_
  try k_fold
  k_steps
  refine unheld ?_
  have hbh : Keep b₀ h' := fun b o e => hk b o (hb b o e)
  refine wpAX (make_142 _ code ser t2 t3 (X.keeps hbh) (T.keeps hbh) ?_) hh (by show _ + 1 ≤ 400; omega) (by show _ + 3 ≤ 400; omega)
  intro h₂ tk₂ x d fs k1 k2 n h1 h2 hk₂ hx hf1 hd hxn hdn
  refine ⟨x, 142, some d, fs, rfl, X.keeps fun b o e => hk₂ b o (hbh b o e), ⟨by k_is, by k_is⟩, hx, hf1, ?_⟩
  have hns := F'.ns
  have hLd : L' ≠ d := by rintro rfl; obtain ⟨_, _, _, ho, _⟩ := hns; rw [hdn] at ho; cases ho
  have hdx : d ≠ x := by rintro rfl; rw [hx] at hd; cases hd
  have hxb : b₀.get? x = none := none_of hbh hxn
  have hLb : b₀.get? L' = none := by
    cases e : b₀.get? L' with
    | none => rfl
    | some o => rw [eL] at e; exact absurd (Heap.lt_size (hb _ _ e)) (Nat.lt_irrefl _)
  refine end_first X T (fun b o e => hk₂ b o (hbh b o e)) (Around.frames_deeper hfr) (hff.of_keeps fun b o e _ => ⟨o, hk₂ b o (hk b o e), rfl⟩) (hns.keeps hk₂) hLb hxb hx hf1 (by k_is) (by k_is) (by k_is) (by k_is) (by k_is) rfl rfl (by decide) rfl (by decide) ?_
  intro h₃ tk₃ fs' kp ks hx₃
  exact hQ h₃ tk₃ x (outer_of eL hk hk₂ hxn kp ks) (none_of hk hxn) (fun S hS => ErrAt.conn (hideAll_get S hx₃ (nin hS (none_of hk hxn))) (hideAll_get S (kp d _ hdx (Ne.symm hLd) (off_frs hff hk hdn) hd) (nin hS (none_of hk hdn))))
theorem ne_one {d : Addr} (h : (d == sysModules) = false) : d ≠ 1 := by
  rintro rfl
  exact absurd h (by decide)
theorem caught_2 {w : World} {A : Around} {s : Shared} {b₀ : Heap} {p loose mg mb} {code ser : Int} {t1 t2 t3 : Nat} {outer : List Env} {R}
   (X : (Mine.tp.heap_39 w.params).In b₀) (T : TopRead p loose mg mb b₀) (hb : Keep b₀ s.heap) (hh : A.handled = none) (hdp : A.depth ≤ 380) (hun : A.units ≤ 380) (hfr : A.frames = some outer) (hff : s.heap.FunFrames b₀ outer)
   (hQ : ∀ h' tk x, OuterK outer s.heap h' → s.heap.get? x = none → (∀ S : List Addr, (∀ a ∈ S, ∃ o, s.heap.get? a = some o) → ErrAt w.params b₀ (hideAll h' S) (.ref x) ⟨2, code, ser⟩) → R (.ok (.ret (.ref x))) { s with heap := h', toks := tk }) :
   codeAny (model Challenge.rw_nb0163_01.row.prog w) A (.call (.ref 151) ⟨[.int 2 t1, .int code t2, .int ser t3], []⟩) R s := by
  k_with_none
  k_with "exec Raise" => (refine held ?_)
  k_with "call ref" => (refine held ?_)
  k_with "eval Dict" => (k_here; k_dflt (refine' kdn_str ?q ?F ?N ?b ?a ?l ?e ?n ?_; (case q => rfl); (case F => k_asm); (case N => first | k_asm | exact News.nil); (case b => exact TopRead.nolimit (by k_asm)); (case a => rfl); (case l => rfl); (case e => exact List.cons_ne_nil _ _); (case n => exact Nat.le_of_ble_eq_true rfl)); intro d' h' o' F' N' l1 lo' hd'; (try k_lt l1))
  revert X; k_fill; intro X
  refine' enter [] X T hb (fun _ h => nomatch h) (by omega) ?k6 ?k7 ?k9 ?kB ?_ ?c2 ?c3 ?c4 ?c5
  case k6 => k_is
  case k7 => k_is
  case k9 => exact BindsTo.of_eq rfl
  case c5 => decide
  case kB => exact locs rfl
  case c2 => exact rfl
  case c3 => exact rfl
  case c4 => exact rfl
  intro g L' h' eg eL hk X' T' F' N'
  change Fr g L' h' (fun y => List.lookup y [(Str.ofString "serial", .int ser t3), (Str.ofString "code", .int code t2), (Str.ofString "kind", .int 2 t1)]) at F'
  try dsimp only
  try k_fold
  k_steps
  refine unheld ?_
  refine raise_K (Mine.tp.heap_39 w.params) hh ?_
  try k_fold
  k_steps
  refine unheld ?_
  rename Fr _ _ _ _ => F
  rename News _ _ _ _ => N
  rename Obj.IsDictOf _ _ _ => hdd
  obtain ⟨kk2, kk3, mm, e9⟩ := dict_two_of hdd
  subst e9
  have eg' : g = s.heap := eg
  subst eg'
  have hk9 : Keep s.heap _ := F.keep
  have hbh : Keep b₀ _ := fun b o e => hk9 b o (hb b o e)
  have n1 := N _ (.head _)
  have n2 := N _ (.tail _ (.head _))
  have n3 := N _ (.tail _ (.tail _ (.head _)))
  refine wpAX (make_118 _ _ (X.keeps hbh) (T.keeps hbh) ?_) hh (by show _ + 1 ≤ 400; omega) (by show _ + 3 ≤ 400; omega)
  intro h₂ tk₂ x d fs k1 n h1 hk₂ hx hf1 hd hxn hdn
  refine ⟨x, 118, some d, fs, rfl, X.keeps fun b o e => hk₂ b o (hbh b o e), ⟨by k_is, by k_is⟩, hx, hf1, ?_⟩
  have hns := F.ns
  have hLd : L' ≠ d := by rintro rfl; obtain ⟨_, _, _, ho, _⟩ := hns; rw [hdn] at ho; cases ho
  have hdx : d ≠ x := by rintro rfl; rw [hx] at hd; cases hd
  have hxb : b₀.get? x = none := none_of hbh hxn
  have hLb : b₀.get? L' = none := by
    cases e : b₀.get? L' with
    | none => rfl
    | some o => rw [eL] at e; exact absurd (Heap.lt_size (hb _ _ e)) (Nat.lt_irrefl _)
  refine end_second X T (fun b o e => hk₂ b o (hbh b o e)) (Around.frames_deeper hfr) (hff.of_keeps fun b o e _ => ⟨o, hk₂ b o (hk9 b o e), rfl⟩) (hns.keeps hk₂) hLb hxb hx hf1 (by k_is) (by k_is) (by k_is) (by k_is) (by k_is) (by k_is) (by k_is) (by k_is) (by k_is) (by k_is) rfl rfl (by decide) rfl (by decide) rfl (by decide) ?_
  have hr1 := ne_one lo'
  intro h₃ tk₃ fs' kp ks hx₃
  have off : ∀ {q : Addr} {oq : Obj}, _ = some oq → q ≠ L' → s.heap.get? q = none → h₃.get? q = some oq := fun {q oq} e1 e2 e3 =>
    kp q oq (by rintro rfl; rw [hxn] at e1; cases e1) e2 (off_frs hff (fun _ _ e => e) e3) (hk₂ _ _ e1)
  exact hQ h₃ tk₃ x (outer_of eL hk9 hk₂ hxn kp ks) (none_of hk9 hxn) (fun S hS => ErrAt.recip (hideAll_get S hx₃ (nin hS (none_of hk9 hxn))) (hideAll_get S (kp d _ hdx (Ne.symm hLd) (off_frs hff hk9 hdn) hd) (nin hS (none_of hk9 hdn))) (hideAll_get S (off n3.1 n3.2.1 n3.2.2) (nin hS n3.2.2)) (hideAll_get S (off n2.1 n2.2.1 n2.2.2) (nin hS n2.2.2)) (hideAll_get S (off n1.1 n1.2.1 n1.2.2) (nin hS n1.2.2))
    hxb (none_of hbh hdn) (none_of hb n3.2.2) (none_of hb n2.2.2) (none_of hb n1.2.2) hr1)
theorem caught_spec {w : World} {A : Around} {s : Shared} {b₀ : Heap} {p loose mg mb} {kind code ser : Int} {t1 t2 t3 : Nat} {outer : List Env} {Q E}
   (X : (Mine.tp.heap_39 w.params).In b₀) (T : TopRead p loose mg mb b₀) (hb : Keep b₀ s.heap) (hh : A.handled = none) (hdp : A.depth ≤ 380) (hun : A.units ≤ 380) (hfr : A.frames = some outer) (hff : s.heap.FunFrames b₀ outer)
   (hk : kind = 0 ∨ kind = 1 ∨ kind = 2 ∨ kind = 3)
   (hQ : ∀ h' tk x, OuterK outer s.heap h' → s.heap.get? x = none → (∀ S : List Addr, (∀ a ∈ S, ∃ o, s.heap.get? a = some o) → ErrAt w.params b₀ (hideAll h' S) (.ref x) ⟨kind, code, ser⟩) → Q (.ref x) { s with heap := h', toks := tk }) :
   wpAny (model Challenge.rw_nb0163_01.row.prog w) A (call (.ref 151) [.int kind t1, .int code t2, .int ser t3]) Q E s := by
  rcases hk with rfl | rfl | rfl | rfl
  · exact wpAny_call (caught_0 X T hb hh hdp hun hfr hff hQ)
  · exact wpAny_call (caught_1 X T hb hh hdp hun hfr hff hQ)
  · exact wpAny_call (caught_2 X T hb hh hdp hun hfr hff hQ)
  · exact wpAny_call (caught_3 X T hb hh hdp hun hfr hff hQ)
abbrev lstO (vs : List Value) (n : Nat) : Obj := ⟨.type "list", none, .seq vs.toArray n, #[]⟩
/-- the values bear the errors, one by one -/
structure ErrsAt (P : Params) (b₀ h : Heap) (vs : List Value) (es : List Er) : Prop where
  len : vs.length = es.length
  at_ : ∀ (i : Nat) (v : Value) (e : Er), vs[i]? = some v → es[i]? = some e → ErrAt P b₀ h v e
theorem ErrAt.keeps {P : Params} {b₀ h h' : Heap} {v : Value} {e : Er} (x : ErrAt P b₀ h v e) (k : Keep h h') : ErrAt P b₀ h' v e := by
  cases x with
  | data h1 h2 => exact .data (k _ _ h1) (k _ _ h2)
  | sender h1 h2 => exact .sender (k _ _ h1) (k _ _ h2)
  | recip h1 h2 h3 h4 h5 f1 f2 f3 f4 f5 f6 => exact .recip (k _ _ h1) (k _ _ h2) (k _ _ h3) (k _ _ h4) (k _ _ h5) f1 f2 f3 f4 f5 f6
  | conn h1 h2 => exact .conn (k _ _ h1) (k _ _ h2)
theorem ErrsAt.keeps {P : Params} {b₀ h h' : Heap} {vs : List Value} {es : List Er} (x : ErrsAt P b₀ h vs es) (k : Keep h h') : ErrsAt P b₀ h' vs es := ⟨x.len, fun i v e h1 h2 => (x.at_ i v e h1 h2).keeps k⟩
def SortedC (es : List Er) : Prop := ∀ (i j : Nat) (e e' : Er), i ≤ j → es[i]? = some e → es[j]? = some e' → e.code ≤ e'.code
theorem up {a b c k : Nat} (h : a ≤ b) (e : b + k ≤ c) : a + k ≤ c := Nat.le_trans (Nat.add_le_add_right h k) e
theorem mid_eq (lo hi : Nat) : ((lo : Int) + (hi : Int)).fdiv 2 = (((lo + hi) / 2 : Nat) : Int) := by rw [Int.fdiv_eq_ediv_of_nonneg _ (by omega)]; omega
theorem mid_ge {lo hi k : Nat} (h : (lo + hi) / 2 = k) (hl : lo < hi) : lo ≤ k := by omega
theorem mid_lt {lo hi k : Nat} (h : (lo + hi) / 2 = k) (hl : lo < hi) : k < hi := by omega
theorem lt_len {k hi n : Nat} (h1 : k < hi) (h2 : hi ≤ n) : k < n := Nat.lt_of_lt_of_le h1 h2
structure BL (es : List Er) (x : Int) (lo r : Nat) : Prop where
  lo_le : lo ≤ r
  le : r ≤ es.length
  below : ∀ (i : Nat) (e : Er), lo ≤ i → i < r → es[i]? = some e → e.code < x
  above : ∀ (i : Nat) (e : Er), r ≤ i → es[i]? = some e → x ≤ e.code
structure BR (es : List Er) (x : Int) (lo r : Nat) : Prop where
  lo_le : lo ≤ r
  le : r ≤ es.length
  below : ∀ (i : Nat) (e : Er), lo ≤ i → i < r → es[i]? = some e → e.code ≤ x
  above : ∀ (i : Nat) (e : Er), r ≤ i → es[i]? = some e → x < e.code
theorem lookup_mem {l : List (Str × Value)} {y : Str} {v : Value} (h : l.lookup y = some v) : (y, v) ∈ l := by
  induction l with
  | nil => cases h
  | cons q r ih =>
    obtain ⟨k, u⟩ := q
    rw [List.lookup_cons] at h
    split at h
    · rename_i e; cases h; rw [beq_iff_eq.mp e]; exact .head _
    · exact .tail _ (ih h)
theorem fr_all {g h : Heap} {L : Addr} {m : Str → Option Value} (F : Fr g L h m) (l : List (Str × Value)) (hl : ∀ q ∈ l, m q.1 = some q.2) : Fr g L h (fun y => (l.lookup y).or (m y)) := by
  have e : m = fun y => (l.lookup y).or (m y) := by
    funext y
    cases q : l.lookup y with
    | none => simp
    | some v => simpa using hl _ (lookup_mem q)
  exact cast (congrArg (Fr g L h) e) F
structure BInv (es : List Er) (below above : Er → Prop) (lo₀ : Nat) (r : Addr) (x : Int) (tx : Nat) (n : Nat) (m : Str → Option Value) : Prop where
  ex : ∃ (lo hi : Nat) (tlo thi : Nat), n = hi - lo ∧ lo₀ ≤ lo ∧ lo ≤ hi ∧ hi ≤ es.length ∧ m (Str.ofString "lo") = some (.int lo tlo) ∧ m (Str.ofString "hi") = some (.int hi thi) ∧ (∀ (i : Nat) (e : Er), lo₀ ≤ i → i < lo → es[i]? = some e → below e) ∧ (∀ (i : Nat) (e : Er), hi ≤ i → es[i]? = some e → above e)
  a : m (Str.ofString "a") = some (.ref r)
  x : m (Str.ofString "x") = some (.int x tx)
  key : m (Str.ofString "key") = some (.ref 156)
theorem bl_core {w : World} {A : Around} {s : Shared} {b₀ : Heap} {p loose mg mb} {args : Args} {r : Addr} {vs : List Value} {nv : Nat} {es : List Er} {x : Int} {tx lo₀ tl : Nat} {R}
   (X : (Mine.tp.heap_39 w.params).In b₀) (T : TopRead p loose mg mb b₀) (hb : Keep b₀ s.heap) (hh : A.handled = none) (hdp : A.depth ≤ 370) (hun : A.units ≤ 370)
   (hbind : ∀ oc od fd osl, (Mine.tp.heap_39 w.params).lookup 50 = some ⟨oc, od, .func fd, osl⟩ → BindsTo s fd args [(Str.ofString "a", .ref r), (Str.ofString "x", .int x tx), (Str.ofString "lo", .int lo₀ tl), (Str.ofString "hi", .none), (Str.ofString "key", .ref 156)])
   (hr : s.heap.get? r = some (lstO vs nv)) (he : ErrsAt w.params b₀ s.heap vs es) (hs : SortedC es) (hc : ∀ e ∈ es, 200 ≤ e.code) (hlo : lo₀ ≤ es.length) (hlen : es.length ≤ 1000)
   (hQ : ∀ h' tk t j, Keep s.heap h' → BL es x lo₀ j → R (.ok (.ret (.int (j : Nat) t))) { s with heap := h', toks := tk }) :
   codeAny (model Challenge.rw_nb0163_01.row.prog w) A (.call (.ref 50) args) R s := by
  k_with_none
  k_with "call ref" => (refine held ?_)
  k_with "call builtin:len" => (refine held ?_)
  k_with "exec While" => (refine held ?_)
  k_with "subscriptTail" => (refine held ?_)
  revert X; k_fill; intro X
  refine' enter [] X T hb (fun _ h => nomatch h) (by omega) ?k6 ?k7 (hbind _ _ _ _ ?k8) ?kB ?_ ?c2 ?c3 ?c4 ?c5
  case k6 => k_is
  case k7 => k_is
  case k8 => exact rfl
  case c5 => decide
  case kB => exact locs rfl
  case c2 => exact rfl
  case c3 => exact rfl
  case c4 => exact rfl
  intro g L' h' eg eL hk X' T' F' N'
  change Fr g L' h' (fun y => List.lookup y [(Str.ofString "key", .ref 156), (Str.ofString "hi", .none), (Str.ofString "lo", .int lo₀ tl), (Str.ofString "x", .int x tx), (Str.ofString "a", .ref r)]) at F'
  have eg' : g = s.heap := eg
  subst eg'
  try dsimp only
  try k_fold
  k_steps
  refine unheld ?_
  have hl0 : s.heap.IsList r vs.toArray := ⟨_, hr, rfl, nv, rfl⟩
  have hvs := he.len
  refine len_list (hl0.at fun o e => F'.keep r o e) (by rw [List.size_toArray]; omega) ?_
  k_steps
  refine unheld ?_
  rename Fr _ _ _ _ => F
  rename News _ _ _ _ => N
  refine While_inv2 (fun n m _ => BInv es (fun e => e.code < x) (fun e => x ≤ e.code) lo₀ r x tx n m) F N (n₀ := es.length - lo₀) ?_ ?_
  · refine ⟨⟨lo₀, es.length, tl, _, rfl, Nat.le_refl _, hlo, Nat.le_refl _, rfl, by rw [show (vs.toArray.size : Int) = (es.length : Int) by simp [hvs]]; rfl, fun i e h1 h2 _ => absurd h2 (Nat.not_lt.mpr h1), fun i e h1 h2 => ?_⟩, rfl, rfl, rfl⟩
    rw [List.getElem?_eq_none_iff.mpr h1] at h2; cases h2
  clear F N
  rintro n m₁ news₁ h₁ tk₁ F N ⟨⟨lo, hi, tlo, thi, hn, hlo1, hlh, hhe, mlo, mhi, hbel, habv⟩, ma, mx, mk⟩
  have F1 := fr_all F [(Str.ofString "a", .ref r), (Str.ofString "x", .int x tx), (Str.ofString "key", .ref 156), (Str.ofString "lo", .int lo tlo), (Str.ofString "hi", .int hi thi)] (by
    intro q hq; simp only [List.mem_cons, List.not_mem_nil, or_false] at hq; rcases hq with rfl | rfl | rfl | rfl | rfl <;> assumption)
  clear F
  k_steps
  · refine unheld ?_
    rename Fr _ _ _ _ => F
    rename News _ _ _ _ => N
    have hlt : lo < hi := by omega
    have hkd : ((lo : Int) + (hi : Int)).fdiv 2 = (((lo + hi) / 2 : Nat) : Int) := mid_eq lo hi
    generalize hkk : (lo + hi) / 2 = k at hkd
    have hk1 : lo ≤ k := mid_ge hkk hlt
    have hk2 : k < hi := mid_lt hkk hlt
    have hke : k < es.length := lt_len hk2 hhe
    have hkv : k < vs.length := hvs ▸ hke
    rw [hkd] at F ⊢
    obtain ⟨e, hee⟩ : ∃ e, es[k]? = some e := ⟨es[k]'hke, List.getElem?_eq_getElem hke⟩
    obtain ⟨v, hvv⟩ : ∃ v, vs[k]? = some v := ⟨vs[k]'hkv, List.getElem?_eq_getElem hkv⟩
    have hl := hl0.at fun o e => F.keep r o e
    refine tail_any hl.typeIs slot_list_getitem.lookup (wpAny_getItem_list hl (Int.natCast_nonneg k) (by omega) (by simpa using hvv) ?_) (by with_unfolding_all rfl)
    k_steps
    refine unheld ?_
    rename Fr _ _ _ _ => F
    rename News _ _ _ _ => N
    refine code_spec X T (fun b o e => F.keep b o (hb b o e)) hh (show _ + 1 ≤ 390 from up hdp (by decide)) (show _ + 3 ≤ 390 from up hun (by decide)) ((he.at_ k v e hvv hee).keeps F.keep) (hc e (List.mem_of_getElem? hee)) ?_
    intro h₂ tk₂ t₂ k₂
    have F2 := F.keeps k₂
    have N2 := N.grown k₂
    clear F N
    k_steps
    · rename Fr _ _ _ _ => F
      rename News _ _ _ _ => N
      rename e.code < x => hex
      refine ⟨_, _, _, _, hi - (k + 1), rfl, F, N, by omega, ⟨k + 1, hi, _, thi, rfl, by omega, by omega, hhe, by rw [show ((k + 1 : Nat) : Int) = (k : Int) + 1 by omega]; rfl, rfl, ?_, habv⟩, rfl, rfl, rfl⟩
      intro i e' h1 h2 h3
      have := hs i k e' e (by omega) h3 hee
      show e'.code < x
      omega
    · rename Fr _ _ _ _ => F
      rename News _ _ _ _ => N
      rename ¬ (e.code < x) => hex
      refine ⟨_, _, _, _, k - lo, rfl, F, N, by omega, ⟨lo, k, tlo, _, rfl, hlo1, hk1, by omega, rfl, rfl, hbel, ?_⟩, rfl, rfl, rfl⟩
      intro i e' h1 h3
      have := hs k i e e' h1 hee h3
      show x ≤ e'.code
      omega
  · rename Fr _ _ _ _ => F
    have hlh2 : lo = hi := by omega
    subst hlh2
    exact hQ _ _ _ lo F.keep ⟨hlo1, hhe, hbel, habv⟩
theorem br_core {w : World} {A : Around} {s : Shared} {b₀ : Heap} {p loose mg mb} {args : Args} {r : Addr} {vs : List Value} {nv : Nat} {es : List Er} {x : Int} {tx lo₀ tl : Nat} {R}
   (X : (Mine.tp.heap_39 w.params).In b₀) (T : TopRead p loose mg mb b₀) (hb : Keep b₀ s.heap) (hh : A.handled = none) (hdp : A.depth ≤ 370) (hun : A.units ≤ 370)
   (hbind : ∀ oc od fd osl, (Mine.tp.heap_39 w.params).lookup 32 = some ⟨oc, od, .func fd, osl⟩ → BindsTo s fd args [(Str.ofString "a", .ref r), (Str.ofString "x", .int x tx), (Str.ofString "lo", .int lo₀ tl), (Str.ofString "hi", .none), (Str.ofString "key", .ref 156)])
   (hr : s.heap.get? r = some (lstO vs nv)) (he : ErrsAt w.params b₀ s.heap vs es) (hs : SortedC es) (hc : ∀ e ∈ es, 200 ≤ e.code) (hlo : lo₀ ≤ es.length) (hlen : es.length ≤ 1000)
   (hQ : ∀ h' tk t j, Keep s.heap h' → BR es x lo₀ j → R (.ok (.ret (.int (j : Nat) t))) { s with heap := h', toks := tk }) :
   codeAny (model Challenge.rw_nb0163_01.row.prog w) A (.call (.ref 32) args) R s := by
  k_with_none
  k_with "call ref" => (refine held ?_)
  k_with "call builtin:len" => (refine held ?_)
  k_with "exec While" => (refine held ?_)
  k_with "subscriptTail" => (refine held ?_)
  revert X; k_fill; intro X
  refine' enter [] X T hb (fun _ h => nomatch h) (by omega) ?k6 ?k7 (hbind _ _ _ _ ?k8) ?kB ?_ ?c2 ?c3 ?c4 ?c5
  case k6 => k_is
  case k7 => k_is
  case k8 => exact rfl
  case c5 => decide
  case kB => exact locs rfl
  case c2 => exact rfl
  case c3 => exact rfl
  case c4 => exact rfl
  intro g L' h' eg eL hk X' T' F' N'
  change Fr g L' h' (fun y => List.lookup y [(Str.ofString "key", .ref 156), (Str.ofString "hi", .none), (Str.ofString "lo", .int lo₀ tl), (Str.ofString "x", .int x tx), (Str.ofString "a", .ref r)]) at F'
  have eg' : g = s.heap := eg
  subst eg'
  try dsimp only
  try k_fold
  k_steps
  refine unheld ?_
  have hl0 : s.heap.IsList r vs.toArray := ⟨_, hr, rfl, nv, rfl⟩
  have hvs := he.len
  refine len_list (hl0.at fun o e => F'.keep r o e) (by rw [List.size_toArray]; omega) ?_
  k_steps
  refine unheld ?_
  rename Fr _ _ _ _ => F
  rename News _ _ _ _ => N
  refine While_inv2 (fun n m _ => BInv es (fun e => e.code ≤ x) (fun e => x < e.code) lo₀ r x tx n m) F N (n₀ := es.length - lo₀) ?_ ?_
  · refine ⟨⟨lo₀, es.length, tl, _, rfl, Nat.le_refl _, hlo, Nat.le_refl _, rfl, by rw [show (vs.toArray.size : Int) = (es.length : Int) by simp [hvs]]; rfl, fun i e h1 h2 _ => absurd h2 (Nat.not_lt.mpr h1), fun i e h1 h2 => ?_⟩, rfl, rfl, rfl⟩
    rw [List.getElem?_eq_none_iff.mpr h1] at h2; cases h2
  clear F N
  rintro n m₁ news₁ h₁ tk₁ F N ⟨⟨lo, hi, tlo, thi, hn, hlo1, hlh, hhe, mlo, mhi, hbel, habv⟩, ma, mx, mk⟩
  have F1 := fr_all F [(Str.ofString "a", .ref r), (Str.ofString "x", .int x tx), (Str.ofString "key", .ref 156), (Str.ofString "lo", .int lo tlo), (Str.ofString "hi", .int hi thi)] (by
    intro q hq; simp only [List.mem_cons, List.not_mem_nil, or_false] at hq; rcases hq with rfl | rfl | rfl | rfl | rfl <;> assumption)
  clear F
  k_steps
  · refine unheld ?_
    rename Fr _ _ _ _ => F
    rename News _ _ _ _ => N
    have hlt : lo < hi := by omega
    have hkd : ((lo : Int) + (hi : Int)).fdiv 2 = (((lo + hi) / 2 : Nat) : Int) := mid_eq lo hi
    generalize hkk : (lo + hi) / 2 = k at hkd
    have hk1 : lo ≤ k := mid_ge hkk hlt
    have hk2 : k < hi := mid_lt hkk hlt
    have hke : k < es.length := lt_len hk2 hhe
    have hkv : k < vs.length := hvs ▸ hke
    rw [hkd] at F ⊢
    obtain ⟨e, hee⟩ : ∃ e, es[k]? = some e := ⟨es[k]'hke, List.getElem?_eq_getElem hke⟩
    obtain ⟨v, hvv⟩ : ∃ v, vs[k]? = some v := ⟨vs[k]'hkv, List.getElem?_eq_getElem hkv⟩
    have hl := hl0.at fun o e => F.keep r o e
    refine tail_any hl.typeIs slot_list_getitem.lookup (wpAny_getItem_list hl (Int.natCast_nonneg k) (by omega) (by simpa using hvv) ?_) (by with_unfolding_all rfl)
    k_steps
    refine unheld ?_
    rename Fr _ _ _ _ => F
    rename News _ _ _ _ => N
    refine code_spec X T (fun b o e => F.keep b o (hb b o e)) hh (show _ + 1 ≤ 390 from up hdp (by decide)) (show _ + 3 ≤ 390 from up hun (by decide)) ((he.at_ k v e hvv hee).keeps F.keep) (hc e (List.mem_of_getElem? hee)) ?_
    intro h₂ tk₂ t₂ k₂
    have F2 := F.keeps k₂
    have N2 := N.grown k₂
    clear F N
    k_steps
    · rename Fr _ _ _ _ => F
      rename News _ _ _ _ => N
      rename x < e.code => hex
      refine ⟨_, _, _, _, k - lo, rfl, F, N, by omega, ⟨lo, k, tlo, _, rfl, hlo1, hk1, by omega, rfl, rfl, hbel, ?_⟩, rfl, rfl, rfl⟩
      intro i e' h1 h3
      have := hs k i e e' h1 hee h3
      show x < e'.code
      omega
    · rename Fr _ _ _ _ => F
      rename News _ _ _ _ => N
      rename ¬ (x < e.code) => hex
      refine ⟨_, _, _, _, hi - (k + 1), rfl, F, N, by omega, ⟨k + 1, hi, _, thi, rfl, by omega, by omega, hhe, by rw [show ((k + 1 : Nat) : Int) = (k : Int) + 1 by omega]; rfl, rfl, ?_, habv⟩, rfl, rfl, rfl⟩
      intro i e' h1 h2 h3
      have := hs i k e' e (by omega) h3 hee
      show e'.code ≤ x
      omega
  · rename Fr _ _ _ _ => F
    have hlh2 : lo = hi := by omega
    subst hlh2
    exact hQ _ _ _ lo F.keep ⟨hlo1, hhe, hbel, habv⟩
theorem bind_of {K : Frag} {a : Addr} {oc oc' : Value} {od od' : Option Addr} {fd fd' : FuncData} {osl osl' : Array (Option Value)} {s : Shared} {args : Args} {binds : List (Str × Value)}
    (e : K.lookup a = some ⟨oc, od, .func fd, osl⟩) (z : K.lookup a = some ⟨oc', od', .func fd', osl'⟩) (h : BindsTo s fd' args binds) : BindsTo s fd args binds := by rw [e] at z; cases z; exact h
section
variable {w : World} {A : Around} {s : Shared} {b₀ : Heap} {p : Program} {loose : List Str} {mg mb : Str → Option Value} {r : Addr} {vs : List Value} {nv : Nat} {es : List Er} {x : Int} {tx : Nat} {Q E : Value → Shared → Prop}
theorem bl_two (X : (Mine.tp.heap_39 w.params).In b₀) (T : TopRead p loose mg mb b₀) (hb : Keep b₀ s.heap) (hh : A.handled = none) (hdp : A.depth ≤ 370) (hun : A.units ≤ 370)
   (hr : s.heap.get? r = some (lstO vs nv)) (he : ErrsAt w.params b₀ s.heap vs es) (hs : SortedC es) (hc : ∀ e ∈ es, 200 ≤ e.code) (hlen : es.length ≤ 1000)
   (hQ : ∀ h' tk t j, Keep s.heap h' → BL es x 0 j → Q (.int (j : Nat) t) { s with heap := h', toks := tk }) :
   wpAny (model Challenge.rw_nb0163_01.row.prog w) A (call (.ref 50) [.ref r, .int x tx] [(Str.ofString "key", .ref 156)]) Q E s := by
  revert X; k_fill; intro X
  refine wpAny_call (bl_core (tx := tx) (lo₀ := 0) (tl := 229) X T hb hh hdp hun (fun oc od fd osl e => ?_) hr he hs hc (Nat.zero_le _) hlen hQ)
  refine' bind_of e ?z ?_
  case z => k_is
  exact binds_K (X.keeps hb) rfl (by k_is) rfl rfl rfl
theorem bl_three {lo tl : Nat} (X : (Mine.tp.heap_39 w.params).In b₀) (T : TopRead p loose mg mb b₀) (hb : Keep b₀ s.heap) (hh : A.handled = none) (hdp : A.depth ≤ 370) (hun : A.units ≤ 370)
   (hr : s.heap.get? r = some (lstO vs nv)) (he : ErrsAt w.params b₀ s.heap vs es) (hs : SortedC es) (hc : ∀ e ∈ es, 200 ≤ e.code) (hlo : lo ≤ es.length) (hlen : es.length ≤ 1000)
   (hQ : ∀ h' tk t j, Keep s.heap h' → BL es x lo j → Q (.int (j : Nat) t) { s with heap := h', toks := tk }) :
   wpAny (model Challenge.rw_nb0163_01.row.prog w) A (call (.ref 50) [.ref r, .int x tx, .int (lo : Nat) tl] [(Str.ofString "key", .ref 156)]) Q E s := by
  revert X; k_fill; intro X
  refine wpAny_call (bl_core (tx := tx) (lo₀ := lo) (tl := tl) X T hb hh hdp hun (fun oc od fd osl e => ?_) hr he hs hc hlo hlen hQ)
  refine' bind_of e ?z ?_
  case z => k_is
  exact binds_K (X.keeps hb) rfl (by k_is) rfl rfl rfl
theorem bl_four {tl : Nat} (X : (Mine.tp.heap_39 w.params).In b₀) (T : TopRead p loose mg mb b₀) (hb : Keep b₀ s.heap) (hh : A.handled = none) (hdp : A.depth ≤ 370) (hun : A.units ≤ 370)
   (hr : s.heap.get? r = some (lstO vs nv)) (he : ErrsAt w.params b₀ s.heap vs es) (hs : SortedC es) (hc : ∀ e ∈ es, 200 ≤ e.code) (hlen : es.length ≤ 1000)
   (hQ : ∀ h' tk t j, Keep s.heap h' → BL es x 0 j → Q (.int (j : Nat) t) { s with heap := h', toks := tk }) :
   wpAny (model Challenge.rw_nb0163_01.row.prog w) A (call (.ref 50) [.ref r, .int x tx, .int 0 tl, .none] [(Str.ofString "key", .ref 156)]) Q E s := by
  revert X; k_fill; intro X
  refine wpAny_call (bl_core (tx := tx) (lo₀ := 0) (tl := tl) X T hb hh hdp hun (fun oc od fd osl e => ?_) hr he hs hc (Nat.zero_le _) hlen hQ)
  refine' bind_of e ?z ?_
  case z => k_is
  exact binds_K (X.keeps hb) rfl (by k_is) rfl rfl rfl
theorem br_two (X : (Mine.tp.heap_39 w.params).In b₀) (T : TopRead p loose mg mb b₀) (hb : Keep b₀ s.heap) (hh : A.handled = none) (hdp : A.depth ≤ 370) (hun : A.units ≤ 370)
   (hr : s.heap.get? r = some (lstO vs nv)) (he : ErrsAt w.params b₀ s.heap vs es) (hs : SortedC es) (hc : ∀ e ∈ es, 200 ≤ e.code) (hlen : es.length ≤ 1000)
   (hQ : ∀ h' tk t j, Keep s.heap h' → BR es x 0 j → Q (.int (j : Nat) t) { s with heap := h', toks := tk }) :
   wpAny (model Challenge.rw_nb0163_01.row.prog w) A (call (.ref 32) [.ref r, .int x tx] [(Str.ofString "key", .ref 156)]) Q E s := by
  revert X; k_fill; intro X
  refine wpAny_call (br_core (tx := tx) (lo₀ := 0) (tl := 202) X T hb hh hdp hun (fun oc od fd osl e => ?_) hr he hs hc (Nat.zero_le _) hlen hQ)
  refine' bind_of e ?z ?_
  case z => k_is
  exact binds_K (X.keeps hb) rfl (by k_is) rfl rfl rfl
theorem br_four {tl : Nat} (X : (Mine.tp.heap_39 w.params).In b₀) (T : TopRead p loose mg mb b₀) (hb : Keep b₀ s.heap) (hh : A.handled = none) (hdp : A.depth ≤ 370) (hun : A.units ≤ 370)
   (hr : s.heap.get? r = some (lstO vs nv)) (he : ErrsAt w.params b₀ s.heap vs es) (hs : SortedC es) (hc : ∀ e ∈ es, 200 ≤ e.code) (hlen : es.length ≤ 1000)
   (hQ : ∀ h' tk t j, Keep s.heap h' → BR es x 0 j → Q (.int (j : Nat) t) { s with heap := h', toks := tk }) :
   wpAny (model Challenge.rw_nb0163_01.row.prog w) A (call (.ref 32) [.ref r, .int x tx, .int 0 tl, .none] [(Str.ofString "key", .ref 156)]) Q E s := by
  revert X; k_fill; intro X
  refine wpAny_call (br_core (tx := tx) (lo₀ := 0) (tl := tl) X T hb hh hdp hun (fun oc od fd osl e => ?_) hr he hs hc (Nat.zero_le _) hlen hQ)
  refine' bind_of e ?z ?_
  case z => k_is
  exact binds_K (X.keeps hb) rfl (by k_is) rfl rfl rfl
end
/-- everything stands but what lies at the given addresses -/
abbrev KeepBut (S : List Addr) (h h' : Heap) : Prop := ∀ b o, b ∉ S → h.get? b = some o → h'.get? b = some o
theorem keepbut_end {h₀ g h : Heap} {L : Addr} {m : Str → Option Value} {S : List Addr} (eg : g = hideAll h₀ S) (F : Fr g L h m) : KeepBut S h₀ h := fun b o hb e => F.keep b o (eg ▸ hideAll_get S e hb)
theorem kl_ins_at {vs : List Value} {j : Nat} {y : Value} (hj : j ≤ vs.length) : kl_ins vs (j : Nat) y = vs.take j ++ y :: vs.drop j := by
  unfold kl_ins
  have h1 : ¬ ((j : Int) < 0) := by omega
  simp only [if_neg h1, Int.toNat_natCast, Nat.min_eq_left hj]
theorem fits_small {j : Nat} (hj : j ≤ 1000) : Builtin.List.listFitsIndex (j : Int) = true := by
  unfold Builtin.List.listFitsIndex
  simp
  omega
theorem insr_spec {w : World} {A : Around} {s : Shared} {b₀ : Heap} {p loose mg mb} {r : Addr} {vs : List Value} {nv : Nat} {es : List Er} {x : Value} {e : Er} {Q E}
   (X : (Mine.tp.heap_39 w.params).In b₀) (T : TopRead p loose mg mb b₀) (hb : Keep b₀ s.heap) (hh : A.handled = none) (hdp : A.depth ≤ 360) (hun : A.units ≤ 360)
   (hr : s.heap.get? r = some (lstO vs nv)) (fr : b₀.get? r = none) (he : ErrsAt w.params b₀ s.heap vs es) (hx : ErrAt w.params b₀ s.heap x e) (hs : SortedC es) (hc : ∀ e ∈ es, 200 ≤ e.code) (hce : 200 ≤ e.code) (hlen : es.length ≤ 900)
   (hQ : ∀ h' tk j n', KeepBut [r] s.heap h' → h'.get? r = some (lstO (vs.take j ++ x :: vs.drop j) n') → BR es e.code 0 j → Q .none { s with heap := h', toks := tk }) :
   wpAny (model Challenge.rw_nb0163_01.row.prog w) A (call (.ref 23) [.ref r, x] [(Str.ofString "key", .ref 156)]) Q E s := by
  k_with_none
  k_with "call ref" => (refine held ?_)
  k_with "call builtin:list.insert" => (refine held ?_)
  revert X; k_fill; intro X
  have hn : ∀ q ∈ ([(r, lstO vs nv)] : List (Addr × Obj)), s.heap.get? q.1 = some q.2 ∧ b₀.get? q.1 = none := by
    intro q hq; simp only [List.mem_cons, List.not_mem_nil, or_false] at hq; subst hq; exact ⟨hr, fr⟩
  refine wpAny_call ?_
  refine' enter (binds := [(Str.ofString "a", .ref r), (Str.ofString "x", x), (Str.ofString "lo", .int 0 189), (Str.ofString "hi", .none), (Str.ofString "key", .ref 156)]) [(r, lstO vs nv)] X T hb hn (by omega) ?k6 ?k7 ?k8 ?kB ?_ ?c2 ?c3 ?c4 ?c5
  case k6 => k_is
  case k7 => k_is
  case k8 => exact binds_K (X.keeps hb) rfl (by k_is) rfl rfl rfl
  case c5 => decide
  case kB => exact locs rfl
  case c2 => exact rfl
  case c3 => exact rfl
  case c4 => exact rfl
  intro g L' h' eg eL hk X' T' F' N'
  change Fr g L' h' (fun y => List.lookup y [(Str.ofString "key", .ref 156), (Str.ofString "hi", .none), (Str.ofString "lo", .int 0 _), (Str.ofString "x", x), (Str.ofString "a", .ref r)]) at F'
  try dsimp only
  try k_fold
  k_steps
  refine unheld ?_
  rename Fr _ _ _ _ => F
  rename News _ _ _ _ => N
  have k0 : Keep s.heap _ := keep_end eg (fun q hq => (hn q hq).1) F N
  refine code_spec X T (fun b o e => k0 b o (hb b o e)) hh (show _ + 1 ≤ 390 from up hdp (by decide)) (show _ + 3 ≤ 390 from up hun (by decide)) (hx.keeps k0) hce ?_
  intro h₂ tk₂ t₂ k₂
  have F2 := F.keeps k₂
  have N2 := N.grown k₂
  clear F N
  k_steps
  refine unheld ?_
  rename Fr _ _ _ _ => F
  rename News _ _ _ _ => N
  have k1 : Keep s.heap _ := keep_end eg (fun q hq => (hn q hq).1) F N
  refine br_four X T (fun b o e => k1 b o (hb b o e)) hh (show _ + 1 ≤ 370 from up hdp (by decide)) (show _ + 3 ≤ 370 from up hun (by decide)) (N _ (.head _)).1 (he.keeps k1) hs hc (by omega) ?_
  intro h₃ tk₃ t₃ j k₃ hj
  have F3 := F.keeps k₃
  have N3 := N.grown k₃
  clear F N
  k_steps
  refine unheld ?_
  rename Fr _ _ _ _ => F
  rename News _ _ _ _ => N
  have hjl : j ≤ vs.length := by rw [he.len]; exact hj.le
  refine kl_insert (news' := [(r, lstO (vs.take j ++ x :: vs.drop j) (nv + 1))]) F N (fits_small (by have := hj.le; omega)) (kl_ins_at hjl) (by k_upd) (Nat.le_trans (m := 1000) (by have := he.len; show vs.length ≤ 1000; omega) (Nat.le_of_ble_eq_true rfl)) ?_
  intro h₄ F4 N4
  clear F N
  k_steps
  rename Fr _ _ _ _ => F
  rename News _ _ _ _ => N
  exact hQ _ _ j _ (keepbut_end eg F) (N _ (.head _)).1 hj
theorem insl_spec {w : World} {A : Around} {s : Shared} {b₀ : Heap} {p loose mg mb} {r : Addr} {vs : List Value} {nv : Nat} {es : List Er} {x : Value} {e : Er} {Q E}
   (X : (Mine.tp.heap_39 w.params).In b₀) (T : TopRead p loose mg mb b₀) (hb : Keep b₀ s.heap) (hh : A.handled = none) (hdp : A.depth ≤ 360) (hun : A.units ≤ 360)
   (hr : s.heap.get? r = some (lstO vs nv)) (fr : b₀.get? r = none) (he : ErrsAt w.params b₀ s.heap vs es) (hx : ErrAt w.params b₀ s.heap x e) (hs : SortedC es) (hc : ∀ e ∈ es, 200 ≤ e.code) (hce : 200 ≤ e.code) (hlen : es.length ≤ 900)
   (hQ : ∀ h' tk j n', KeepBut [r] s.heap h' → h'.get? r = some (lstO (vs.take j ++ x :: vs.drop j) n') → BL es e.code 0 j → Q .none { s with heap := h', toks := tk }) :
   wpAny (model Challenge.rw_nb0163_01.row.prog w) A (call (.ref 41) [.ref r, x] [(Str.ofString "key", .ref 156)]) Q E s := by
  k_with_none
  k_with "call ref" => (refine held ?_)
  k_with "call builtin:list.insert" => (refine held ?_)
  revert X; k_fill; intro X
  have hn : ∀ q ∈ ([(r, lstO vs nv)] : List (Addr × Obj)), s.heap.get? q.1 = some q.2 ∧ b₀.get? q.1 = none := by
    intro q hq; simp only [List.mem_cons, List.not_mem_nil, or_false] at hq; subst hq; exact ⟨hr, fr⟩
  refine wpAny_call ?_
  refine' enter (binds := [(Str.ofString "a", .ref r), (Str.ofString "x", x), (Str.ofString "lo", .int 0 216), (Str.ofString "hi", .none), (Str.ofString "key", .ref 156)]) [(r, lstO vs nv)] X T hb hn (by omega) ?k6 ?k7 ?k8 ?kB ?_ ?c2 ?c3 ?c4 ?c5
  case k6 => k_is
  case k7 => k_is
  case k8 => exact binds_K (X.keeps hb) rfl (by k_is) rfl rfl rfl
  case c5 => decide
  case kB => exact locs rfl
  case c2 => exact rfl
  case c3 => exact rfl
  case c4 => exact rfl
  intro g L' h' eg eL hk X' T' F' N'
  change Fr g L' h' (fun y => List.lookup y [(Str.ofString "key", .ref 156), (Str.ofString "hi", .none), (Str.ofString "lo", .int 0 _), (Str.ofString "x", x), (Str.ofString "a", .ref r)]) at F'
  try dsimp only
  try k_fold
  k_steps
  refine unheld ?_
  rename Fr _ _ _ _ => F
  rename News _ _ _ _ => N
  have k0 : Keep s.heap _ := keep_end eg (fun q hq => (hn q hq).1) F N
  refine code_spec X T (fun b o e => k0 b o (hb b o e)) hh (show _ + 1 ≤ 390 from up hdp (by decide)) (show _ + 3 ≤ 390 from up hun (by decide)) (hx.keeps k0) hce ?_
  intro h₂ tk₂ t₂ k₂
  have F2 := F.keeps k₂
  have N2 := N.grown k₂
  clear F N
  k_steps
  refine unheld ?_
  rename Fr _ _ _ _ => F
  rename News _ _ _ _ => N
  have k1 : Keep s.heap _ := keep_end eg (fun q hq => (hn q hq).1) F N
  refine bl_four X T (fun b o e => k1 b o (hb b o e)) hh (show _ + 1 ≤ 370 from up hdp (by decide)) (show _ + 3 ≤ 370 from up hun (by decide)) (N _ (.head _)).1 (he.keeps k1) hs hc (by omega) ?_
  intro h₃ tk₃ t₃ j k₃ hj
  have F3 := F.keeps k₃
  have N3 := N.grown k₃
  clear F N
  k_steps
  refine unheld ?_
  rename Fr _ _ _ _ => F
  rename News _ _ _ _ => N
  have hjl : j ≤ vs.length := by rw [he.len]; exact hj.le
  refine kl_insert (news' := [(r, lstO (vs.take j ++ x :: vs.drop j) (nv + 1))]) F N (fits_small (by have := hj.le; omega)) (kl_ins_at hjl) (by k_upd) (Nat.le_trans (m := 1000) (by have := he.len; show vs.length ≤ 1000; omega) (Nat.le_of_ble_eq_true rfl)) ?_
  intro h₄ F4 N4
  clear F N
  k_steps
  rename Fr _ _ _ _ => F
  rename News _ _ _ _ => N
  exact hQ _ _ j _ (keepbut_end eg F) (N _ (.head _)).1 hj
section
variable {prog : Program} {w : World} {A : Around} {s : Shared} {K : Frag} {R : Result → Shared → Prop} {name qual : Str} {params : Arguments} {body : List Stmt} {scope : Scope} {dV kV doc pm cdv ct oc : Value} {an od : Option Addr} {osl : Array (Option Value)} {f : Addr} {args : Args} {binds : List (Str × Value)}
    {b₀ : Heap} {p : Program} {loose : List Str} {mg mb : Str → Option Value}
theorem keep_hide2 {b₀ h : Heap} {news : List (Addr × Obj)} {hid : List Addr} (hb : Keep b₀ h) (hn : ∀ q ∈ news, h.get? q.1 = some q.2 ∧ b₀.get? q.1 = none) (hd : ∀ a ∈ hid, b₀.get? a = none) : Keep b₀ (hideAll h (news.map (·.1) ++ hid)) :=
  keep_hide hb fun a ha => by
    rcases List.mem_append.mp ha with ha | ha
    · obtain ⟨q, hq, rfl⟩ := List.mem_map.mp ha
      exact (hn q hq).2
    · exact hd a ha
theorem enterH (news : List (Addr × Obj)) (hid : List Addr)
    (X : K.In b₀) (T : TopRead p loose mg mb b₀) (hb : Keep b₀ s.heap) (hn : ∀ q ∈ news, s.heap.get? q.1 = some q.2 ∧ b₀.get? q.1 = none) (hd : ∀ a ∈ hid, b₀.get? a = none) (hroom : A.depth < 900)
    (ho : K.lookup f = some ⟨oc, od, .func (fnOf name qual params body scope dV kV doc pm an cdv ct), osl⟩) (hcd : codeIn K cdv qual = true)
    (hbind : BindsTo s (fnOf name qual params body scope dV kV doc pm an cdv ct) args binds) (hloc : ∀ y ∈ binds, scope.names.lookup y.1 = some .local)
    (h : ∀ g L' h₁, g = hideAll s.heap (news.map (·.1) ++ hid) → L' = s.heap.objs.size → Keep s.heap h₁ → K.In g → TopRead p loose mg mb g → Fr g L' h₁ (fun y => binds.reverse.lookup y) → News g L' h₁ news →
      wpAny (model prog w) (A.deeper (envOf qual scope L' f cdv)) (execs body (envOf qual scope L' f cdv))
        (fun fl s' => R (.ok (.ret (match fl with | .ret v => v | _ => .none))) s')
        (fun e s' => wpAny (model prog w) (A.deeper (envOf qual scope L' f cdv)) (leaving (envOf qual scope L' f cdv) e) (fun _ s'' => R (.error e) s'') (fun e' s'' => R (.error e') s'') s')
        { s with heap := h₁, toks := s.toks + binds.length })
    (hco : scope.isCoroutine = false) (hgen : scope.isGenerator = false) (hk : scope.kind = .function)
    (hcell : ∀ x ∈ scope.names, x.2 ≠ .cell) : codeAny (model prog w) A (.call (.ref f) args) R s := by
  have kg := keep_hide2 hb hn hd
  exact codeAny_call_def (fd := fnOf name qual params body scope dV kV doc pm an cdv ct) (body := body) (binds := binds) (by show A.depth < 1000; omega) (hb _ _ (X _ _ ho)) rfl (T.nolimit.keeps hb) (codeRec_of (X.keeps hb) hcd) rfl hbind hcell hloc
    (fun h₁ hns hk₁ => h _ s.heap.objs.size h₁ rfl rfl hk₁ (X.keeps kg) (T.keeps kg) ⟨hns, fun b o e => hk₁ b o (of_hideAll _ e), Nat.le_of_eq (hideAll_size _ _)⟩
      fun q hq => ⟨hk₁ _ _ (hn q hq).1, Nat.ne_of_lt (Heap.lt_size (hn q hq).1), hideAll_none _ (List.mem_append_left _ (List.mem_map_of_mem hq))⟩) hco hgen hk
theorem enterC (news : List (Addr × Obj)) (hid : List Addr)
    (X : K.In b₀) (T : TopRead p loose mg mb b₀) (hb : Keep b₀ s.heap) (hn : ∀ q ∈ news, s.heap.get? q.1 = some q.2 ∧ b₀.get? q.1 = none) (hd : ∀ a ∈ hid, b₀.get? a = none) (hroom : A.depth < 900)
    (ho : K.lookup f = some ⟨oc, od, .func (fnOf name qual params body scope dV kV doc pm an cdv ct), osl⟩) (hcd : codeIn K cdv qual = true)
    (hbind : BindsTo s (fnOf name qual params body scope dV kV doc pm an cdv ct) args binds) (hkind : (binds.all fun y => scope.names.lookup y.1 == some .local || scope.names.lookup y.1 == some .cell) = true)
    (hnd : ((cellsFrom 0 scope.names []).map (·.1)).Nodup)
    (h : ∀ g L' h₁ tk cells, g = hideAll s.heap (news.map (·.1) ++ hid) → L' = s.heap.objs.size → Keep s.heap h₁ → K.In g → TopRead p loose mg mb g → Fr g L' h₁ (bindL (envOfC qual scope L' f cdv).kindOf binds fun _ => none) → News g L' h₁ (cells ++ news) →
      CellsAre (bindC (envOfC qual scope L' f cdv).kindOf binds fun _ => none) (cellsFrom (L' + 1) scope.names []) cells →
      wpAny (model prog w) (A.deeper (envOfC qual scope L' f cdv)) (execs body (envOfC qual scope L' f cdv))
        (fun fl s' => R (.ok (.ret (match fl with | .ret v => v | _ => .none))) s')
        (fun e s' => wpAny (model prog w) (A.deeper (envOfC qual scope L' f cdv)) (leaving (envOfC qual scope L' f cdv) e) (fun _ s'' => R (.error e) s'') (fun e' s'' => R (.error e') s'') s')
        { s with heap := h₁, toks := tk })
    (hco : scope.isCoroutine = false) (hgen : scope.isGenerator = false) (hk : scope.kind = .function) : codeAny (model prog w) A (.call (.ref f) args) R s := by
  have kg := keep_hide2 hb hn hd
  refine codeAny_call_function (by show A.depth < 1000; omega) (hb _ _ (X _ _ ho)) rfl hco hgen rfl (codeRec_of (X.keeps hb) hcd) (hbind _ _ _ _ ?_)
  refine wpAny_newFunctionEnv_cells hk (kindsX hkind _) fun env' he s' x => ?_
  subst he
  refine ⟨(T.nolimit.keeps hb).keeps x.toInCall.keep, codeAny_func ?_⟩
  obtain ⟨h₁, tk, rfl, _⟩ := x.done
  have hk₁ := x.toInCall.keep
  obtain ⟨cells, NC, Y⟩ := Cl.news (h₀ := s.heap) (Nat.le_refl _) fun n c hm => ⟨x.cell n c (lookup_of_mem_nodup (cellsFrom_names scope.names 0 (s.heap.objs.size + 1) [] [] rfl ▸ hnd) hm), x.above n c hm⟩
  refine h _ s.heap.objs.size h₁ tk cells rfl rfl hk₁ (X.keeps kg) (T.keeps kg) ⟨x.toInCall.ns, fun b o e => hk₁ b o (of_hideAll _ e), Nat.le_of_eq (hideAll_size _ _)⟩ (fun p hp => ?_) Y
  rcases List.mem_append.mp hp with hp | hp
  · refine ⟨(NC p hp).1, (NC p hp).2.1, ?_⟩
    cases q : (hideAll s.heap (news.map (·.1) ++ hid)).get? p.1 with
    | none => rfl
    | some o => have := of_hideAll _ q; rw [(NC p hp).2.2] at this; cases this
  · exact ⟨hk₁ _ _ (hn p hp).1, Nat.ne_of_lt (Heap.lt_size (hn p hp).1), hideAll_none _ (List.mem_append_left _ (List.mem_map_of_mem hp))⟩
end
/-- pairs, item by item -/
inductive All2 (R : Value → Er → Prop) : List Value → List Er → Prop
  | nil : All2 R [] []
  | cons {v e vs es} : R v e → All2 R vs es → All2 R (v :: vs) (e :: es)
namespace All2
variable {R S : Value → Er → Prop} {vs us : List Value} {es fs : List Er}
theorem len (h : All2 R vs es) : vs.length = es.length := by induction h with | nil => rfl | cons _ _ ih => simp [ih]
theorem mono (h : All2 R vs es) (k : ∀ v e, R v e → S v e) : All2 S vs es := by induction h with | nil => exact .nil | cons a _ ih => exact .cons (k _ _ a) ih
theorem append (h : All2 R vs es) (k : All2 R us fs) : All2 R (vs ++ us) (es ++ fs) := by induction h with | nil => exact k | cons a _ ih => exact .cons a ih
theorem take (h : All2 R vs es) (n : Nat) : All2 R (vs.take n) (es.take n) := by
  induction h generalizing n with
  | nil => simp; exact .nil
  | cons a _ ih => cases n with | zero => simp; exact .nil | succ n => exact .cons a (ih n)
theorem drop (h : All2 R vs es) (n : Nat) : All2 R (vs.drop n) (es.drop n) := by
  induction h generalizing n with
  | nil => simp; exact .nil
  | cons a r ih => cases n with | zero => exact .cons a r | succ n => exact ih n
theorem at_ (h : All2 R vs es) : ∀ (i : Nat) (v : Value) (e : Er), vs[i]? = some v → es[i]? = some e → R v e := by
  induction h with
  | nil => intro i v e h1; simp at h1
  | cons a _ ih =>
    intro i v e h1 h2
    cases i with
    | zero => simp at h1 h2; subst h1 h2; exact a
    | succ i => simp at h1 h2; exact ih i v e h1 h2
theorem of_at : ∀ {vs : List Value} {es : List Er}, vs.length = es.length → (∀ (i : Nat) (v : Value) (e : Er), vs[i]? = some v → es[i]? = some e → R v e) → All2 R vs es
  | [], [], _, _ => .nil
  | [], _ :: _, h, _ => by simp at h
  | _ :: _, [], h, _ => by simp at h
  | v :: vs, e :: es, h, k => .cons (k 0 v e rfl rfl) (of_at (by simpa using h) fun i v' e' h1 h2 => k (i + 1) v' e' (by simpa using h1) (by simpa using h2))
theorem filter (h : All2 R vs es) (p : Value → Bool) (c : Er → Bool) (k : ∀ v e, R v e → p v = c e) : All2 R (vs.filter p) (es.filter c) := by
  induction h with
  | nil => exact .nil
  | cons a _ ih =>
    rename_i v e vs es _
    rw [List.filter_cons, List.filter_cons, k v e a]
    cases c e
    · simpa using ih
    · simpa using .cons a ih
theorem mem (h : All2 R vs es) {v : Value} (hv : v ∈ vs) : ∃ e, e ∈ es ∧ R v e := by
  induction h with
  | nil => cases hv
  | cons a _ ih =>
    cases hv with
    | head => exact ⟨_, .head _, a⟩
    | tail _ hv => obtain ⟨e, he, r⟩ := ih hv; exact ⟨e, .tail _ he, r⟩
end All2
theorem ErrsAt.all {P : Params} {b₀ h : Heap} {vs : List Value} {es : List Er} (x : ErrsAt P b₀ h vs es) : All2 (ErrAt P b₀ h) vs es := .of_at x.len x.at_
theorem ErrsAt.of {P : Params} {b₀ h : Heap} {vs : List Value} {es : List Er} (x : All2 (ErrAt P b₀ h) vs es) : ErrsAt P b₀ h vs es := ⟨x.len, x.at_⟩
/-- the value is the tuple that shows the error -/
structure DatAt (h : Heap) (v : Value) (e : Er) : Prop where
  ex : ∃ a t1 t2 t3 x o n, v = .ref a ∧ h.get? a = some o ∧ o.cls = .type "tuple" ∧ o.data = .seq #[.int e.kind t1, .int e.code t2, .int e.ser t3, x] n ∧ Rd h x e.extra
theorem reads_int {h : Heap} {v : Value} {n : Int} {as : List Addr} (r : Reads h v (.int n) as) : ∃ t, v = .int n t := by cases r; exact ⟨_, rfl⟩
theorem reads_none {h : Heap} {v : Value} {as : List Addr} (r : Reads h v .none as) : v = .none := by cases r; rfl
theorem readsAll_cons {h : Heap} {vs : List Value} {d : PyData} {ds : List PyData} {as : List Addr} (r : ReadsAll h vs (d :: ds) as) : ∃ v l a b, vs = v :: l ∧ Reads h v d a ∧ ReadsAll h l ds b := by
  cases r with | cons r1 r2 => exact ⟨_, _, _, _, rfl, r1, r2⟩
theorem readsAll_nil {h : Heap} {vs : List Value} {as : List Addr} (r : ReadsAll h vs [] as) : vs = [] := by cases r; rfl
theorem reads_tuple {h : Heap} {v : Value} {ds : List PyData} {as : List Addr} (r : Reads h v (.tuple ds) as) : ∃ a o l n b, v = .ref a ∧ h.get? a = some o ∧ o.cls = .type "tuple" ∧ o.data = .seq (List.toArray l) n ∧ ReadsAll h l ds b := by
  cases r with | tuple h1 h2 h3 h4 => exact ⟨_, _, _, _, _, rfl, h1, h2, h3, h4⟩
theorem DatAt.of {h : Heap} {v : Value} {e : Er} (r : Rd h v e.dat) : DatAt h v e := by
  obtain ⟨as, r⟩ := r
  obtain ⟨a, o, l, n, b, rfl, h1, h2, h3, h4⟩ := reads_tuple r
  obtain ⟨v1, l1, _, _, rfl, r1, h4⟩ := readsAll_cons h4
  obtain ⟨v2, l2, _, _, rfl, r2, h4⟩ := readsAll_cons h4
  obtain ⟨v3, l3, _, _, rfl, r3, h4⟩ := readsAll_cons h4
  obtain ⟨v4, l4, _, _, rfl, r4, h4⟩ := readsAll_cons h4
  obtain rfl := readsAll_nil h4
  obtain ⟨t1, rfl⟩ := reads_int r1
  obtain ⟨t2, rfl⟩ := reads_int r2
  obtain ⟨t3, rfl⟩ := reads_int r3
  exact ⟨_, _, _, _, _, _, _, rfl, h1, h2, h3, _, r4⟩
theorem DatAt.rd {h : Heap} {v : Value} {e : Er} (r : DatAt h v e) : Rd h v e.dat := by
  obtain ⟨a, t1, t2, t3, x, o, n, rfl, h1, h2, h3, as, r⟩ := r.ex
  exact ⟨_, Reads.tuple h1 h2 h3 (.cons (.int _ _) (.cons (.int _ _) (.cons (.int _ _) (.cons r .nil))))⟩
theorem reads_keeps {h h' : Heap} {v : Value} {d : PyData} {as : List Addr} (k : Keep h h') (r : Reads h v d as) : Reads h' v d as := Reads.keeps k r
theorem DatAt.keeps {h h' : Heap} {v : Value} {e : Er} (r : DatAt h v e) (k : Keep h h') : DatAt h' v e := by
  obtain ⟨a, t1, t2, t3, x, o, n, rfl, h1, h2, h3, as, r⟩ := r.ex
  exact ⟨_, _, _, _, _, _, _, rfl, k _ _ h1, h2, h3, as, reads_keeps k r⟩
theorem DatAt.inj {h : Heap} {v : Value} {e e' : Er} (r : DatAt h v e) (r' : DatAt h v e') : e = e' := by
  obtain ⟨a, t1, t2, t3, x, o, n, rfl, h1, h2, h3, _⟩ := r.ex
  obtain ⟨a', t1', t2', t3', x', o', n', e0, h1', h2', h3', _⟩ := r'.ex
  cases e0
  rw [h1] at h1'; cases h1'
  rw [h3] at h3'
  obtain ⟨k, c, s⟩ := e
  obtain ⟨k', c', s'⟩ := e'
  simp at h3'
  obtain ⟨⟨⟨rfl, _⟩, ⟨rfl, _⟩, ⟨rfl, _⟩, _⟩, _⟩ := h3'
  rfl
theorem paired_eq {l ys : List Value} (h : Paired (fun v y => y = v) l ys) : ys = l := by
  induction h with
  | nil => rfl
  | cons a _ ih => rw [a, ih]
theorem list_eq_of {vs ds : List Value} (hl : vs.length = ds.toArray.size) (h : ∀ (j : Nat) v, vs[j]? = some v → ds.toArray[j]? = some v) : vs = ds := by
  apply List.ext_getElem?
  intro j
  by_cases hj : j < vs.length
  · have e1 : vs[j]? = some vs[j] := by simp
    rw [e1]
    have := h j _ e1
    simpa using this.symm
  · rw [List.getElem?_eq_none_iff.mpr (by omega), List.getElem?_eq_none_iff.mpr (by simp at hl; omega)]
section
variable {prog : Program} {w : World} {A : Around} {env : Env} {s : Shared} {E : Value → Shared → Prop}
/-- the tests of a comprehension with one condition, in the heap at its start -/
abbrev TestsOn (prog : Program) (w : World) (A : Around) (env : Env) (scope : Scope) (cl : List (Str × Addr)) (x : Str) (c : Expr) (ds : List Value) (p : Value → Bool) (h : Heap) : Prop :=
  ∀ (C : Addr) (v : Value) (s₃ : Shared) (m₃ : Str → Option Value) (E' : Value → Shared → Prop), v ∈ ds → s₃.heap.Ns C m₃ → m₃ x = some v → Keep h s₃.heap →
    wpAny (model prog w) A (isTrue c (compEnvC scope cl C env) (eval c (compEnvC scope cl C env))) (fun ok s₄ => ok = p v ∧ Keeps s₃ s₄) E' s₃
theorem quiet_filter {scope : Scope} {cl : List (Str × Addr)} {x : Str} {px : Pos} {c : Expr} {ds : List Value} {p : Value → Bool} {it : Obj} (hkind : scope.kind = .function) (hx : scope.names.lookup x = some .local) (hdb : (x == ("__debug__" : Str)) = false)
    (ht : TestsOn prog w A env scope cl x c ds p s.heap) :
    QuietOnC prog w A env scope cl x [c] (.Name x px) [s.heap.objs.size] (fun i v => ds.toArray[i]? = some v) p (fun v y => y = v) { s with heap := s.heap.push it } where
  tests := fun C i v s₃ m₃ E' hC hP hn hm hk htk => by
    have k : Keep s.heap s₃.heap := fun b o e => hk b o (by simp; exact Nat.ne_of_lt (Heap.lt_size e)) (Heap.get?_push_of_some _ e)
    have := ht C v s₃ m₃ E' (List.mem_of_getElem? (by simpa using hP)) hn hm k
    refine wpAny_bind (wpAny_bind (wpAny_mono this (fun ok s₄ h4 => wpAny_pure ?_) fun _ _ e => e))
    exact wpAny_pure h4
  elt := fun C i v s₃ m₃ E' hC hP hp hn hm hk htk =>
    wpAny_Name (wpAny_loadName_local (by simpa [compEnvC, relabel] using hkind) (lookup_relabel_local hx) hn hm ⟨rfl, _, _, rfl, fun _ _ e => e⟩) hdb
theorem filt_expr {iter c : Expr} {x : Str} {px px' : Pos} {scope : Scope} {cl : List (Str × Addr)} {pos : Pos} {Q : Value → Shared → Prop} {D : Addr} {ds : List Value} {nd : Nat} (p : Value → Bool)
    (hclos : closureFor scope env = pure cl) (hcell : ∀ y ∈ scope.names, y.2 ≠ .cell) (hkind : scope.kind = .function)
    (hnames : ∀ y ∈ scope.names, y.2 = .local → scope.names.lookup y.1 = some .local) (hx : scope.names.lookup x = some .local) (hdb : (x == ("__debug__" : Str)) = false)
    (hh : A.handled = none) (hit : wpAny (model prog w) A (eval iter env) (fun v s₁ => v = .ref D ∧ s₁ = s) E s) (hD : s.heap.get? D = some (lstO ds nd)) (hlen : ds.length ≤ 1000)
    (ht : TestsOn prog w A env scope cl x c ds p s.heap)
    (hQ : ∀ h' tk D' n', s.heap.get? D' = none → h'.get? D' = some (lstO (ds.filter p) n') → Keep s.heap h' → Q (.ref D') { s with heap := h', toks := tk })
    (hs : ∀ x, foldedSetIterable iter env x = pure x := by intro _; rfl) :
    wpAny (model prog w) A (eval (.ListComp (.Name x px) [⟨.Name x px', iter, [c], 0⟩] scope pos) env) Q E s := by
  have hl : s.heap.IsList D ds.toArray := ⟨_, hD, rfl, nd, rfl⟩
  refine wpAny_ListComp_free p (fun v y => y = v) hclos hcell hkind hnames hx (wpAny_mono hit (fun v s₁ h1 => ?_) fun _ _ e => e) hs
  obtain ⟨rfl, rfl⟩ := h1
  refine wpAny_pyIter_list hl ?_
  refine ⟨_, _, _, _, _, _, rfl, Walks.list hh _ D (Nat.ne_of_lt (Heap.lt_size hD)) ds.toArray, Nat.le_trans (m := 1000) (by simpa using hlen) (Nat.le_of_ble_eq_true rfl), ⟨⟨_, Heap.get?_push_size _ rfl, rfl, rfl⟩, hl.at fun o e => Heap.get?_push_of_some _ e⟩, ?_, quiet_filter hkind hx hdb ht, ?_⟩
  · intro b hb
    simp only [List.mem_cons, List.not_mem_nil, or_false] at hb
    rw [Heap.size_push]
    rcases hb with rfl | rfl
    · exact Nat.lt_succ_self _
    · exact Nat.lt_succ_of_lt (Heap.lt_size hD)
  · intro D' h' tk ys vs hD' hl' hpl hlen' hP hF hk
    have e1 := list_eq_of hlen' hP
    have e2 := paired_eq hF
    obtain ⟨n', hpl⟩ := hpl
    obtain ⟨ys⟩ := ys
    dsimp only at e2
    subst e1 e2
    refine hQ h' tk D' n' ?_ hpl fun b o e => hk b o (by simp; exact Nat.ne_of_lt (Heap.lt_size e)) (Heap.get?_push_of_some _ e)
    cases e : s₁.heap.get? D' with
    | none => rfl
    | some o => rw [Heap.get?_push_of_some _ e] at hD'; cases hD'
theorem filt_assign {iter c : Expr} {x y : Str} {px px' py : Pos} {scope : Scope} {cl : List (Str × Addr)} {pos spos : Pos} {Q : Flow → Shared → Prop} {D : Addr} {ds : List Value} {nd : Nat} {g : Heap} {m : Str → Option Value} {news : List (Addr × Obj)} (p : Value → Bool)
    (hsw : swapsWith (.ListComp (.Name x px) [⟨.Name x px', iter, [c], 0⟩] scope pos) (some (.Name y py)) spos.line env = pure true)
    (hclos : closureFor scope env = pure cl) (hcell : ∀ y ∈ scope.names, y.2 ≠ .cell) (hkind : scope.kind = .function)
    (hnames : ∀ y ∈ scope.names, y.2 = .local → scope.names.lookup y.1 = some .local) (hx : scope.names.lookup x = some .local) (hdb : (x == ("__debug__" : Str)) = false)
    (hy : env.kindOf y = some .local) (hp : (env.scope.kind == .class || (env.scope.kind == .module && env.locals != env.globals)) = false)
    (hh : A.handled = none) (hit : wpAny (model prog w) A (eval iter env) (fun v s₁ => v = .ref D ∧ s₁ = s) E s) (hD : s.heap.get? D = some (lstO ds nd)) (hlen : ds.length ≤ 1000)
    (F : Fr g env.locals s.heap m) (N : News g env.locals s.heap news)
    (ht : TestsOn prog w A env scope cl x c ds p s.heap)
    (hQ : ∀ h' tk D' n', s.heap.get? D' = none → Fr g env.locals h' (fun z => if z = y then some (.ref D') else m z) → News g env.locals h' ((D', lstO (ds.filter p) n') :: news) → KeepBut [env.locals] s.heap h' → Q .next { s with heap := h', toks := tk })
    (hs : ∀ x, foldedSetIterable iter env x = pure x := by intro _; rfl) :
    wpAny (model prog w) A (exec (.Assign [.Name y py] (.ListComp (.Name x px) [⟨.Name x px', iter, [c], 0⟩] scope pos) spos) env) Q E s := by
  have hl : s.heap.IsList D ds.toArray := ⟨_, hD, rfl, nd, rfl⟩
  refine wpAny_Assign_ListComp_free p (fun v y => y = v) hsw hclos hcell hkind hnames hx hy hp (wpAny_mono hit (fun v s₁ h1 => ?_) fun _ _ e => e) hs
  obtain ⟨rfl, rfl⟩ := h1
  refine wpAny_pyIter_list hl ?_
  have hLs : env.locals ∉ [s₁.heap.objs.size] := by simp; exact Nat.ne_of_lt F.ns.lt
  refine ⟨_, _, _, _, _, _, m, rfl, Walks.list hh _ D (Nat.ne_of_lt (Heap.lt_size hD)) ds.toArray, Nat.le_trans (m := 1000) (by simpa using hlen) (Nat.le_of_ble_eq_true rfl), ⟨⟨_, Heap.get?_push_size _ rfl, rfl, rfl⟩, hl.at fun o e => Heap.get?_push_of_some _ e⟩, ?_, hLs, (F.push _).ns, quiet_filter hkind hx hdb ht, ?_⟩
  · intro b hb
    simp only [List.mem_cons, List.not_mem_nil, or_false] at hb
    rw [Heap.size_push]
    rcases hb with rfl | rfl
    · exact Nat.lt_succ_self _
    · exact Nat.lt_succ_of_lt (Heap.lt_size hD)
  · intro D' h' tk ys vs hD' hl' hpl hlen' hP hF hns hk
    have e1 := list_eq_of hlen' hP
    have e2 := paired_eq hF
    obtain ⟨n', hpl⟩ := hpl
    obtain ⟨ys⟩ := ys
    dsimp only at e2
    subst e1 e2
    have hD0 : s₁.heap.get? D' = none := by
      cases e : s₁.heap.get? D' with
      | none => rfl
      | some o => rw [Heap.get?_push_of_some _ e] at hD'; cases hD'
    have k : KeepBut [env.locals] s₁.heap h' := fun b o hb e => hk b o (by simpa using hb) (by simp; exact Nat.ne_of_lt (Heap.lt_size e)) (Heap.get?_push_of_some _ e)
    have hLn : ∀ b o, g.get? b = some o → b ≠ env.locals := fun b o e => Nat.ne_of_lt (Nat.lt_of_lt_of_le (Heap.lt_size e) F.above)
    refine hQ h' tk D' n' hD0 ⟨hns, fun b o e => k b o (by simpa using hLn b o e) (F.keep b o e), F.above⟩ ?_ k
    intro q hq
    cases hq with
    | head =>
      refine ⟨hpl, ?_, ?_⟩
      · rintro e
        dsimp only at e
        subst e
        obtain ⟨_, _, _, ho, _⟩ := F.ns
        rw [hD0] at ho; cases ho
      · cases e : g.get? D' with
        | none => rfl
        | some o => rw [F.keep _ _ e] at hD0; cases hD0
    | tail _ hq => exact ⟨k _ _ (by simpa using (N q hq).2.1) (N q hq).1, (N q hq).2⟩
end
section
variable {prog : Program} {w : World} {A : Around} {env : Env} {s : Shared} {E : Value → Shared → Prop}
theorem dat_code {value slice : Expr} {v : Value} {e : Er} {u : Tok} {Q : Value → Shared → Prop} (d : DatAt s.heap v e) (hQ : ∀ t, Q (.int e.code t) s)
    (hs : ∀ a, subscripted slice false (.ref a) (.int 1 u) = operate [.ref a, .int 1 u] (getItem (.ref a) (.int 1 u)) := by intro a; with_unfolding_all rfl) :
    wpAny (model prog w) A (subscriptTail value slice v (.int 1 u)) Q E s := by
  obtain ⟨a, t1, t2, t3, x, o, n, rfl, h1, h2, h3, _⟩ := d.ex
  exact item_tupleT (l := [.int e.kind t1, .int e.code t2, .int e.ser t3, x]) ⟨_, h1, h2, n, h3⟩ (by decide) (by decide) rfl rfl (hQ t2) (hs a)
theorem dat_ser {value slice : Expr} {v : Value} {e : Er} {u : Tok} {Q : Value → Shared → Prop} (d : DatAt s.heap v e) (hQ : ∀ t, Q (.int e.ser t) s)
    (hs : ∀ a, subscripted slice false (.ref a) (.int 2 u) = operate [.ref a, .int 2 u] (getItem (.ref a) (.int 2 u)) := by intro a; with_unfolding_all rfl) :
    wpAny (model prog w) A (subscriptTail value slice v (.int 2 u)) Q E s := by
  obtain ⟨a, t1, t2, t3, x, o, n, rfl, h1, h2, h3, _⟩ := d.ex
  exact item_tupleT (l := [.int e.kind t1, .int e.code t2, .int e.ser t3, x]) ⟨_, h1, h2, n, h3⟩ (by decide) (by decide) rfl rfl (hQ t3) (hs a)
theorem eval_code {x : Str} {p1 p2 p3 : Pos} {kk : Nat} {v : Value} {e : Er} {Q : Value → Shared → Prop} (hload : ∀ Q : Value → Shared → Prop, Q v s → wpAny (model prog w) A (eval (.Name x p1) env) Q E s) (d : DatAt s.heap v e)
    (hQ : ∀ t, Q (.int e.code t) { s with toks := s.toks + 1 }) : wpAny (model prog w) A (eval (.Subscript (.Name x p1) (.Constant (.int 1) kk p2) p3) env) Q E s :=
  Subscript_ (hload _ (wpAny_Constant_int (dat_code (s := { s with toks := s.toks + 1 }) d hQ)))
theorem load_it {scope : Scope} {cl : List (Str × Addr)} {x : Str} {C : Addr} {m : Str → Option Value} {p1 : Pos} {v : Value} (hkind : scope.kind = .function) (hx : scope.names.lookup x = some .local) (hdb : (x == ("__debug__" : Str)) = false) (hn : s.heap.Ns C m) (hm : m x = some v) :
    ∀ Q : Value → Shared → Prop, Q v s → wpAny (model prog w) A (eval (.Name x p1) (compEnvC scope cl C env)) Q E s := fun _ hQ =>
  wpAny_Name (wpAny_loadName_local (by simpa [compEnvC, relabel] using hkind) (lookup_relabel_local hx) hn hm hQ) hdb
theorem load_cell {scope : Scope} {cl : List (Str × Addr)} {y : Str} {C c : Addr} {p1 : Pos} {v : Value} (hkind : scope.kind = .function) (hy : (compEnvC scope cl C env).kindOf y = some .cell) (hdb : (y == ("__debug__" : Str)) = false) (hc : cl.lookup y = some c) (hv : s.heap.IsCell c (some v)) :
    ∀ Q : Value → Shared → Prop, Q v s → wpAny (model prog w) A (eval (.Name y p1) (compEnvC scope cl C env)) Q E s := fun _ hQ =>
  wpAny_Name (wpAny_loadName_cell (by simpa [compEnvC, relabel] using hkind) hy hc hv hQ) hdb
variable {scope : Scope} {cl : List (Str × Addr)} {x y : Str} {c : Addr} {u : Value} {one : Er} {ds : List Value} {p : Value → Bool} {h : Heap} {p1 p2 p3 p4 p5 p6 p7 : Pos} {k1 k2 : Nat}
theorem test_lt (hkind : scope.kind = .function) (hx : scope.names.lookup x = some .local) (hdx : (x == ("__debug__" : Str)) = false) (hy : ∀ C, (compEnvC scope cl C env).kindOf y = some .cell) (hdy : (y == ("__debug__" : Str)) = false) (hc : cl.lookup y = some c)
    (hu : h.IsCell c (some u)) (du : DatAt h u one) (hp : ∀ v ∈ ds, ∃ e, DatAt h v e ∧ p v = decide (e.code < one.code)) :
    TestsOn prog w A env scope cl x (.Compare (.Subscript (.Name x p1) (.Constant (.int 1) k1 p2) p3) [.Lt] [.Subscript (.Name y p4) (.Constant (.int 1) k2 p5) p6] p7) ds p h := by
  intro C v s₃ m₃ E' hv hn hm hk
  obtain ⟨e, de, ep⟩ := hp v hv
  refine wpAny_isTrue_Compare1 (eval_code (load_it hkind hx hdx hn hm) (de.keeps hk) fun t => ?_)
  refine eval_code (s := { s₃ with toks := s₃.toks + 1 }) (load_cell hkind (hy C) hdy hc (hu.keeps hk)) (du.keeps hk) fun t' => ?_
  exact PySem.P.lt_int (wpAny_truthy_bool ⟨ep.symm, _, _, rfl, fun _ _ e => e⟩)
theorem test_gt (hkind : scope.kind = .function) (hx : scope.names.lookup x = some .local) (hdx : (x == ("__debug__" : Str)) = false) (hy : ∀ C, (compEnvC scope cl C env).kindOf y = some .cell) (hdy : (y == ("__debug__" : Str)) = false) (hc : cl.lookup y = some c)
    (hu : h.IsCell c (some u)) (du : DatAt h u one) (hp : ∀ v ∈ ds, ∃ e, DatAt h v e ∧ p v = decide (e.code > one.code)) :
    TestsOn prog w A env scope cl x (.Compare (.Subscript (.Name x p1) (.Constant (.int 1) k1 p2) p3) [.Gt] [.Subscript (.Name y p4) (.Constant (.int 1) k2 p5) p6] p7) ds p h := by
  intro C v s₃ m₃ E' hv hn hm hk
  obtain ⟨e, de, ep⟩ := hp v hv
  refine wpAny_isTrue_Compare1 (eval_code (load_it hkind hx hdx hn hm) (de.keeps hk) fun t => ?_)
  refine eval_code (s := { s₃ with toks := s₃.toks + 1 }) (load_cell hkind (hy C) hdy hc (hu.keeps hk)) (du.keeps hk) fun t' => ?_
  exact PySem.P.gt_int (wpAny_truthy_bool ⟨ep.symm, _, _, rfl, fun _ _ e => e⟩)
theorem test_eq (hkind : scope.kind = .function) (hx : scope.names.lookup x = some .local) (hdx : (x == ("__debug__" : Str)) = false) (hy : ∀ C, (compEnvC scope cl C env).kindOf y = some .cell) (hdy : (y == ("__debug__" : Str)) = false) (hc : cl.lookup y = some c)
    (hu : h.IsCell c (some u)) (du : DatAt h u one) (hp : ∀ v ∈ ds, ∃ e, DatAt h v e ∧ p v = (e.code == one.code)) :
    TestsOn prog w A env scope cl x (.Compare (.Subscript (.Name x p1) (.Constant (.int 1) k1 p2) p3) [.Eq] [.Subscript (.Name y p4) (.Constant (.int 1) k2 p5) p6] p7) ds p h := by
  intro C v s₃ m₃ E' hv hn hm hk
  obtain ⟨e, de, ep⟩ := hp v hv
  refine wpAny_isTrue_Compare1 (eval_code (load_it hkind hx hdx hn hm) (de.keeps hk) fun t => ?_)
  refine eval_code (s := { s₃ with toks := s₃.toks + 1 }) (load_cell hkind (hy C) hdy hc (hu.keeps hk)) (du.keeps hk) fun t' => ?_
  exact PySem.P.eq_int (wpAny_truthy_bool ⟨ep.symm, _, _, rfl, fun _ _ e => e⟩)
end
theorem filt_assign' {prog : Program} {w : World} {A : Around} {env : Env} {s : Shared} {E : Value → Shared → Prop} {iter c : Expr} {x y : Str} {px px' py : Pos} {scope : Scope} {cl : List (Str × Addr)} {pos spos : Pos} {Q : Flow → Shared → Prop} {D : Addr} {ds : List Value} {nd : Nat} {g : Heap} {m : Str → Option Value} {news : List (Addr × Obj)} {L : Addr} (p : Value → Bool)
    (F : Fr g L s.heap m) (N : News g L s.heap news) (hL : env.locals = L)
    (hsw : swapsWith (.ListComp (.Name x px) [⟨.Name x px', iter, [c], 0⟩] scope pos) (some (.Name y py)) spos.line env = pure true)
    (hclos : closureFor scope env = pure cl) (hcell : ∀ y ∈ scope.names, y.2 ≠ .cell) (hkind : scope.kind = .function)
    (hnames : ∀ y ∈ scope.names, y.2 = .local → scope.names.lookup y.1 = some .local) (hx : scope.names.lookup x = some .local) (hdb : (x == ("__debug__" : Str)) = false)
    (hy : env.kindOf y = some .local) (hp : (env.scope.kind == .class || (env.scope.kind == .module && env.locals != env.globals)) = false)
    (hh : A.handled = none) (hit : wpAny (model prog w) A (eval iter env) (fun v s₁ => v = .ref D ∧ s₁ = s) E s) (hD : s.heap.get? D = some (lstO ds nd)) (hlen : ds.length ≤ 1000)
    (ht : TestsOn prog w A env scope cl x c ds p s.heap)
    (hQ : ∀ h' tk D' n', s.heap.get? D' = none → Fr g L h' (fun z => if z = y then some (.ref D') else m z) → News g L h' ((D', lstO (ds.filter p) n') :: news) → Q .next { s with heap := h', toks := tk })
    (hs : ∀ x, foldedSetIterable iter env x = pure x := by intro _; rfl) :
    wpAny (model prog w) A (exec (.Assign [.Name y py] (.ListComp (.Name x px) [⟨.Name x px', iter, [c], 0⟩] scope pos) spos) env) Q E s := by
  subst hL
  exact filt_assign p hsw hclos hcell hkind hnames hx hdb hy hp hh hit hD hlen F N ht (fun h' tk D' n' h1 h2 h3 _ => hQ h' tk D' n' h1 h2 h3) hs
theorem add_two {prog : Program} {w : World} {A : Around} {s : Shared} {E : Value → Shared → Prop} {g : Heap} {L a b : Addr} {m : Str → Option Value} {news : List (Addr × Obj)} {vs ws : List Value} {n n' : Nat} {Q : Value → Shared → Prop}
    (F : Fr g L s.heap m) (N : News g L s.heap news) (ha : (a, lstO vs n) ∈ news) (hb : (b, lstO ws n') ∈ news) (hz : vs.length + ws.length ≤ 4000)
    (h : ∀ D h', s.heap.get? D = none → Fr g L h' m → News g L h' ((D, lstO (vs ++ ws) 0) :: news) → Q (.ref D) { s with heap := h' }) : wpAny (model prog w) A (binaryOp .Add (.ref a) (.ref b)) Q E s := by
  refine add_lists F N ⟨_, (N _ ha).1, rfl, n, rfl⟩ ⟨_, (N _ hb).1, rfl, n', rfl⟩ (fun h' F' N' => ?_) (Nat.le_trans (m := 4000) hz (Nat.le_of_ble_eq_true rfl))
  refine h _ h' ?_ F' N'
  cases e : s.heap.get? s.heap.objs.size with
  | none => rfl
  | some o => exact absurd (Heap.lt_size e) (Nat.lt_irrefl _)
/-- a test on values by a test on what they show -/
noncomputable def pv (h : Heap) (q : Er → Bool) (v : Value) : Bool := @decide (∃ e, DatAt h v e ∧ q e = true) (Classical.propDecidable _)
theorem pv_eq {h : Heap} {q : Er → Bool} {v : Value} {e : Er} (d : DatAt h v e) : pv h q v = q e := by
  unfold pv
  cases hq : q e with
  | true => simp; exact ⟨e, d, hq⟩
  | false =>
    simp
    intro e' d'
    rw [d'.inj d]; exact hq
noncomputable def laid (es : List Er) (one : Er) (ahead : Bool) : List Er :=
  if ahead then es.filter (fun e => decide (e.code < one.code)) ++ [one] ++ es.filter (fun e => e.code == one.code) ++ es.filter (fun e => decide (e.code > one.code))
  else es.filter (fun e => decide (e.code < one.code)) ++ es.filter (fun e => e.code == one.code) ++ [one] ++ es.filter (fun e => decide (e.code > one.code))
theorem laid_spec {w : World} {A : Around} {s : Shared} {b₀ : Heap} {p loose mg mb} {D : Addr} {ds : List Value} {nd : Nat} {es : List Er} {u : Value} {one : Er} {ahead : Bool} {Q E}
   (X : (Mine.tp.heap_39 w.params).In b₀) (T : TopRead p loose mg mb b₀) (hb : Keep b₀ s.heap) (hh : A.handled = none) (hdp : A.depth ≤ 360) (hun : A.units ≤ 360)
   (hD : s.heap.get? D = some (lstO ds nd)) (hds : All2 (DatAt s.heap) ds es) (hu : DatAt s.heap u one) (hlen : es.length ≤ 900)
   (hQ : ∀ h' tk D' ds' n', Keep s.heap h' → s.heap.get? D' = none → h'.get? D' = some (lstO ds' n') → All2 (DatAt h') ds' (laid es one ahead) → Q (.ref D') { s with heap := h', toks := tk }) :
   wpAny (model Challenge.rw_nb0163_01.row.prog w) A (call (.ref 168) [.ref D, u, .bool ahead]) Q E s := by
  k_with_none
  k_with "exec Assign" => (refine held ?_)
  k_with "eval ListComp" => (refine held ?_)
  revert X; k_fill; intro X
  refine wpAny_call ?_
  refine' enterC (binds := [(Str.ofString "due", .ref D), (Str.ofString "one", u), (Str.ofString "ahead", .bool ahead)]) [] [] X T hb (fun _ h => nomatch h) (fun _ h => nomatch h) (by omega) ?k6 ?k7 ?k8 ?kB ?kD ?_ ?c2 ?c3 ?c4
  case k6 => k_is
  case k7 => k_is
  case k8 => exact BindsTo.of_eq rfl
  case kB => exact rfl
  case kD => decide +kernel
  case c2 => exact rfl
  case c3 => exact rfl
  case c4 => exact rfl
  intro g L' h' tk' cells' eg eL hk X' T' F' N' Y'
  obtain ⟨o₁, hE, d1'⟩ := CellsAre.one Y'
  subst hE
  try simp only [List.cons_append, List.nil_append] at N'
  try dsimp only
  try k_fold
  have eg' : g = s.heap := eg
  subst eg'
  have d1 : o₁.data = .cell (some u) := d1'
  clear d1'
  have F1 := fr_all F' [(Str.ofString "due", .ref D), (Str.ofString "ahead", .bool ahead)] (by
    intro q hq; simp only [List.mem_cons, List.not_mem_nil, or_false] at hq; rcases hq with rfl | rfl <;> rfl)
  clear F'
  have hdl : ds.length ≤ 1000 := by have := hds.len; omega
  k_steps
  refine unheld ?_
  rename Fr _ _ _ _ => F
  rename News _ _ _ _ => N
  refine filt_assign' (D := D) (ds := ds) (nd := nd) (pv s.heap fun e => decide (e.code < one.code)) (cl := [(Str.ofString "one", L' + 1)]) F N rfl rfl rfl (by decide) rfl (by decide) rfl rfl rfl rfl hh (ldLoc F rfl ⟨rfl, rfl⟩) (F.keep _ _ hD) hdl
    (test_lt rfl rfl rfl (fun _ => rfl) rfl rfl ⟨_, (N _ (.head _)).1, d1⟩ (hu.keeps F.keep) fun v hv => ?_) ?_
  · obtain ⟨e, _, de⟩ := hds.mem hv
    exact ⟨e, de.keeps F.keep, pv_eq de⟩
  intro h₁ tk₁ D₁ n₁ hD₁ F1 N1
  clear F N
  k_steps
  refine unheld ?_
  rename Fr _ _ _ _ => F
  rename News _ _ _ _ => N
  refine filt_assign' (D := D) (ds := ds) (nd := nd) (pv s.heap fun e => e.code == one.code) (cl := [(Str.ofString "one", L' + 1)]) F N rfl rfl rfl (by decide) rfl (by decide) rfl rfl rfl rfl hh (ldLoc F rfl ⟨rfl, rfl⟩) (F.keep _ _ hD) hdl
    (test_eq rfl rfl rfl (fun _ => rfl) rfl rfl ⟨_, (N (L' + 1, o₁) (by k_mem)).1, d1⟩ (hu.keeps F.keep) fun v hv => ?_) ?_
  · obtain ⟨e, _, de⟩ := hds.mem hv
    exact ⟨e, de.keeps F.keep, pv_eq de⟩
  intro h₂ tk₂ D₂ n₂ hD₂ F1 N1
  clear F N
  k_steps
  refine unheld ?_
  rename Fr _ _ _ _ => F
  rename News _ _ _ _ => N
  refine filt_assign' (D := D) (ds := ds) (nd := nd) (pv s.heap fun e => decide (e.code > one.code)) (cl := [(Str.ofString "one", L' + 1)]) F N rfl rfl rfl (by decide) rfl (by decide) rfl rfl rfl rfl hh (ldLoc F rfl ⟨rfl, rfl⟩) (F.keep _ _ hD) hdl
    (test_gt rfl rfl rfl (fun _ => rfl) rfl rfl ⟨_, (N (L' + 1, o₁) (by k_mem)).1, d1⟩ (hu.keeps F.keep) fun v hv => ?_) ?_
  · obtain ⟨e, _, de⟩ := hds.mem hv
    exact ⟨e, de.keeps F.keep, pv_eq de⟩
  intro h₃ tk₃ D₃ n₃ hD₃ F1 N1
  clear F N
  have l1 : ∀ q : Value → Bool, (ds.filter q).length ≤ 900 := fun q => by have := List.length_filter_le q ds; have := hds.len; omega
  have a1 : ∀ (c : Er → Bool), All2 (DatAt s.heap) (ds.filter (pv s.heap c)) (es.filter c) := fun c => hds.filter _ _ fun v e d => pv_eq d
  cases ahead
  · k_steps
    rename Fr _ _ _ _ => F
    rename News _ _ _ _ => N
    refine add_two (vs := ds.filter (pv s.heap fun e => decide (e.code < one.code))) (ws := ds.filter (pv s.heap fun e => e.code == one.code)) F N (by k_mem) (by k_mem) (by have := l1 (pv s.heap fun e => decide (e.code < one.code)); have := l1 (pv s.heap fun e => e.code == one.code); omega) ?_
    intro D₄ h₄ e₄ F4 N4
    clear F N
    k_steps
    rename Fr _ _ _ _ => F
    rename News _ _ _ _ => N
    refine add_two (vs := ds.filter (pv s.heap fun e => decide (e.code < one.code)) ++ ds.filter (pv s.heap fun e => e.code == one.code)) (ws := [u]) F N (by k_mem) (by k_mem) (by have := l1 (pv s.heap fun e => decide (e.code < one.code)); have := l1 (pv s.heap fun e => e.code == one.code); simp only [List.length_append, List.length_cons, List.length_nil]; omega) ?_
    intro D₅ h₅ e₅ F5 N5
    clear F N
    k_steps
    rename Fr _ _ _ _ => F
    rename News _ _ _ _ => N
    refine add_two (vs := ds.filter (pv s.heap fun e => decide (e.code < one.code)) ++ ds.filter (pv s.heap fun e => e.code == one.code) ++ [u]) (ws := ds.filter (pv s.heap fun e => decide (e.code > one.code))) F N (by k_mem) (by k_mem) (by have := l1 (pv s.heap fun e => decide (e.code < one.code)); have := l1 (pv s.heap fun e => e.code == one.code); have := l1 (pv s.heap fun e => decide (e.code > one.code)); simp only [List.length_append, List.length_cons, List.length_nil]; omega) ?_
    intro D₆ h₆ e₆ F6 N6
    clear F N
    k_steps
    rename Fr _ _ _ _ => F
    rename News _ _ _ _ => N
    refine hQ _ _ _ _ _ F.keep (N _ (.head _)).2.2 (N _ (.head _)).1 ?_
    exact ((((a1 _).append (a1 _)).append (.cons hu .nil)).append (a1 _)).mono fun v e d => d.keeps F.keep
  · k_steps
    rename Fr _ _ _ _ => F
    rename News _ _ _ _ => N
    refine add_two (vs := ds.filter (pv s.heap fun e => decide (e.code < one.code))) (ws := [u]) F N (by k_mem) (by k_mem) (by have := l1 (pv s.heap fun e => decide (e.code < one.code)); simp only [List.length_append, List.length_cons, List.length_nil]; omega) ?_
    intro D₄ h₄ e₄ F4 N4
    clear F N
    k_steps
    rename Fr _ _ _ _ => F
    rename News _ _ _ _ => N
    refine add_two (vs := ds.filter (pv s.heap fun e => decide (e.code < one.code)) ++ [u]) (ws := ds.filter (pv s.heap fun e => e.code == one.code)) F N (by k_mem) (by k_mem) (by have := l1 (pv s.heap fun e => decide (e.code < one.code)); have := l1 (pv s.heap fun e => e.code == one.code); simp only [List.length_append, List.length_cons, List.length_nil]; omega) ?_
    intro D₅ h₅ e₅ F5 N5
    clear F N
    k_steps
    rename Fr _ _ _ _ => F
    rename News _ _ _ _ => N
    refine add_two (vs := ds.filter (pv s.heap fun e => decide (e.code < one.code)) ++ [u] ++ ds.filter (pv s.heap fun e => e.code == one.code)) (ws := ds.filter (pv s.heap fun e => decide (e.code > one.code))) F N (by k_mem) (by k_mem) (by have := l1 (pv s.heap fun e => decide (e.code < one.code)); have := l1 (pv s.heap fun e => e.code == one.code); have := l1 (pv s.heap fun e => decide (e.code > one.code)); simp only [List.length_append, List.length_cons, List.length_nil]; omega) ?_
    intro D₆ h₆ e₆ F6 N6
    clear F N
    k_steps
    rename Fr _ _ _ _ => F
    rename News _ _ _ _ => N
    refine hQ _ _ _ _ _ F.keep (N _ (.head _)).2.2 (N _ (.head _)).1 ?_
    exact ((((a1 _).append (.cons hu .nil)).append (a1 _)).append (a1 _)).mono fun v e d => d.keeps F.keep
theorem keep_hide_sub {h : Heap} {S S' : List Addr} (hs : ∀ a ∈ S, a ∈ S') : Keep (hideAll h S') (hideAll h S) := fun b o e => by
  refine hideAll_get S (of_hideAll _ e) fun hm => ?_
  rw [hideAll_none S' (hs b hm)] at e; cases e
theorem hide_keep {h h' : Heap} {S : List Addr} (k : KeepBut S h h') : Keep (hideAll h S) (hideAll h' S) := fun b o e => by
  have hb : b ∉ S := fun hm => by rw [hideAll_none S hm] at e; cases e
  exact hideAll_get S (k b o hb (of_hideAll _ e)) hb
theorem keep_unhide {h : Heap} {S : List Addr} : Keep (hideAll h S) h := fun _ _ e => of_hideAll _ e
/-- no tuple lies at the addresses -/
def NoTup (h : Heap) (S : List Addr) : Prop := ∀ a ∈ S, ∀ o, h.get? a = some o → ∀ vs n, o.data = .seq vs n → o.cls ≠ .type "tuple"
theorem DatAt.hide {h : Heap} {S : List Addr} (hS : NoTup h S) {v : Value} {e : Er} (d : DatAt h v e) : DatAt (hideAll h S) v e := by
  have key : ∀ {a : Addr} {o : Obj} {vs : Array Value} {n : Nat}, h.get? a = some o → o.cls = .type "tuple" → o.data = .seq vs n → (hideAll h S).get? a = some o := fun h1 h2 h3 => hideAll_get S h1 fun hm => hS _ hm _ h1 _ _ h3 h2
  obtain ⟨a, t1, t2, t3, x, o, n, rfl, h1, h2, h3, as, r⟩ := d.ex
  refine ⟨_, _, _, _, _, _, _, rfl, key h1 h2 h3, h2, h3, ?_⟩
  unfold Er.extra at r ⊢
  split at r
  · rename_i c; rw [if_pos c]
    obtain ⟨t, rfl⟩ := reads_int r
    exact ⟨_, .int _ _⟩
  · rename_i c
    rw [if_neg c]
    split at r
    · rename_i c2
      rw [if_pos c2]
      obtain ⟨a', o', l', n', b', rfl, g1, g2, g3, g4⟩ := reads_tuple r
      obtain ⟨v1, l1, _, _, rfl, r1, g4⟩ := readsAll_cons g4
      obtain ⟨v2, l2, _, _, rfl, r2, g4⟩ := readsAll_cons g4
      obtain rfl := readsAll_nil g4
      obtain ⟨u1, rfl⟩ := reads_int r1
      obtain ⟨u2, rfl⟩ := reads_int r2
      exact ⟨_, Reads.tuple (key g1 g2 g3) g2 g3 (.cons (.int _ _) (.cons (.int _ _) .nil))⟩
    · rename_i c2; rw [if_neg c2]
      obtain rfl := reads_none r
      exact ⟨_, .none⟩
structure St (P : Params) (b₀ h : Heap) (S : List Addr) (r D : Addr) (es : List Er) : Prop where
  row : ∃ vs n, h.get? r = some (lstO vs n) ∧ All2 (ErrAt P b₀ (hideAll h S)) vs es
  due : ∃ ds n, h.get? D = some (lstO ds n) ∧ All2 (DatAt h) ds es
  ne : D ≠ r
theorem All2.hide {h : Heap} {S : List Addr} (hS : NoTup h S) {ds : List Value} {es : List Er} (d : All2 (DatAt h) ds es) : All2 (DatAt (hideAll h S)) ds es := d.mono fun _ _ x => x.hide hS
theorem All2.datKeeps {h h' : Heap} (k : Keep h h') {ds : List Value} {es : List Er} (d : All2 (DatAt h) ds es) : All2 (DatAt h') ds es := d.mono fun _ _ x => x.keeps k
theorem All2.errKeeps {P : Params} {b₀ h h' : Heap} (k : Keep h h') {ds : List Value} {es : List Er} (d : All2 (ErrAt P b₀ h) ds es) : All2 (ErrAt P b₀ h') ds es := d.mono fun _ _ x => x.keeps k
theorem notup_list {h : Heap} {r : Addr} {vs : List Value} {n : Nat} (e : h.get? r = some (lstO vs n)) {S : List Addr} (hS : NoTup h S) : NoTup h (r :: S) := by
  intro a ha o ho us k hd
  cases ha with
  | head => rw [e] at ho; cases ho; show Value.type "list" ≠ _; intro h; injection h with h; exact absurd h (by decide)
  | tail _ ha => exact hS a ha o ho us k hd
theorem notup_dict {h : Heap} {r : Addr} {o : Obj} {es : Array DictEntry} {n : Nat} (e : h.get? r = some o) (hd : o.data = .dict es n) {S : List Addr} (hS : NoTup h S) : NoTup h (r :: S) := by
  intro a ha o' ho us k hd'
  cases ha with
  | head => rw [e] at ho; cases ho; rw [hd] at hd'; cases hd'
  | tail _ ha => exact hS a ha o' ho us k hd'
theorem notup_nil {h : Heap} : NoTup h [] := fun _ h => nomatch h
theorem eqv_dat {e e' : Er} : PyData.eqv e.dat e'.dat = true ↔ e = e' := by
  obtain ⟨k, c, s⟩ := e
  obtain ⟨k', c', s'⟩ := e'
  constructor
  · intro h
    simp only [Er.dat, PyData.eqv, PyData.eqvAll, Bool.and_eq_true, beq_iff_eq] at h
    obtain ⟨rfl, rfl, rfl, _⟩ := h
    rfl
  · rintro h
    cases h
    simp only [Er.dat, PyData.eqv, PyData.eqvAll, Bool.and_eq_true, beq_iff_eq, true_and, and_true, Er.extra]
    split
    · simp [PyData.eqv]
    · split <;> simp [PyData.eqv, PyData.eqvAll]
theorem eqv_datB (e e' : Er) : PyData.eqv e.dat e'.dat = @decide (e = e') (Classical.propDecidable _) := by
  by_cases h : e = e'
  · rw [eqv_dat.mpr h]; simp [h]
  · have : PyData.eqv e.dat e'.dat = false := by
      cases q : PyData.eqv e.dat e'.dat with
      | false => rfl
      | true => exact absurd (eqv_dat.mp q) h
    rw [this]; simp [h]
theorem shaped_dat (e : Er) : SeqAt.shaped e.dat = true := by
  obtain ⟨k, c, s⟩ := e
  unfold Er.dat Er.extra
  dsimp only
  split
  · rfl
  · split <;> rfl
theorem eqvAll_dues {es es' : List Er} : PyData.eqvAll (es.map Er.dat) (es'.map Er.dat) = true ↔ es = es' := by
  induction es generalizing es' with
  | nil => cases es' <;> simp [PyData.eqvAll]
  | cons e es ih => cases es' with
    | nil => simp [PyData.eqvAll]
    | cons e' es' => simp only [List.map_cons, PyData.eqvAll, Bool.and_eq_true, eqv_dat, ih, List.cons.injEq]
theorem eqv_dues {es es' : List Er} : PyData.eqv (.list (es.map Er.dat)) (.list (es'.map Er.dat)) = true ↔ es = es' := eqvAll_dues
theorem dues_reads {h : Heap} {ds : List Value} {es : List Er} (d : All2 (DatAt h) ds es) : ∃ as, ReadsAll h ds (es.map Er.dat) as := by
  induction d with
  | nil => exact ⟨_, .nil⟩
  | cons a _ ih => obtain ⟨as, r⟩ := ih; obtain ⟨bs, q⟩ := a.rd; exact ⟨_, .cons q r⟩
theorem due_reads {h : Heap} {D : Addr} {ds : List Value} {n : Nat} {es : List Er} (e : h.get? D = some (lstO ds n)) (d : All2 (DatAt h) ds es) : Rd h (.ref D) (.list (es.map Er.dat)) := by
  obtain ⟨as, r⟩ := dues_reads d
  exact ⟨_, Reads.list e rfl rfl r⟩
theorem nil_reads {h : Heap} {D : Addr} {n : Nat} (e : h.get? D = some (lstO [] n)) : Rd h (.ref D) (.list []) := ⟨_, Reads.list e rfl rfl .nil⟩
theorem ints_reads {h : Heap} {vs : List Value} (hv : ∀ v ∈ vs, ∃ k t, v = .int k t) : ∃ ks as, ReadsAll h vs (ks.map PyData.int) as ∧ (ks = [] ↔ vs = []) := by
  induction vs with
  | nil => exact ⟨[], [], .nil, by simp⟩
  | cons v vs ih =>
    obtain ⟨ks, as, r, _⟩ := ih fun v hv' => hv v (.tail _ hv')
    obtain ⟨k, t, rfl⟩ := hv v (.head _)
    exact ⟨k :: ks, _, .cons (.int k t) r, by simp⟩
theorem canLay_all {xs : List PyData} (h : ∀ x ∈ xs, x.canLay0 = true) : PyData.canLayAll0 xs = true := by
  induction xs with
  | nil => rfl
  | cons x xs ih => rw [PyData.canLayAll0, h x (.head _), ih fun y hy => h y (.tail _ hy)]; rfl
theorem depth_all {xs : List PyData} {n : Nat} (h : ∀ x ∈ xs, x.depth ≤ n) : PyData.depthAll xs ≤ n := by
  induction xs with
  | nil => exact Nat.zero_le _
  | cons x xs ih => rw [PyData.depthAll]; exact Nat.max_le.mpr ⟨h x (.head _), ih fun y hy => h y (.tail _ hy)⟩
theorem shaped_list {xs : List PyData} (h : ∀ x ∈ xs, x.canLay0 = true ∧ x.depth ≤ 60) : SeqAt.shaped (.list xs) = true := by
  unfold SeqAt.shaped
  rw [show (PyData.list xs).canLay0 = PyData.canLayAll0 xs by rw [PyData.canLay0], canLay_all fun x hx => (h x hx).1]
  have := depth_all fun x hx => (h x hx).2
  rw [Bool.true_and]
  refine decide_eq_true ?_
  rw [PyData.depth]
  omega
theorem dat_small (e : Er) : e.dat.canLay0 = true ∧ e.dat.depth ≤ 60 := by
  obtain ⟨k, c, s⟩ := e
  unfold Er.dat Er.extra
  dsimp only
  split
  · exact ⟨rfl, Nat.le_of_ble_eq_true rfl⟩
  · split
    · exact ⟨rfl, Nat.le_of_ble_eq_true rfl⟩
    · exact ⟨rfl, Nat.le_of_ble_eq_true rfl⟩
theorem shaped_dues (es : List Er) : SeqAt.shaped (.list (es.map Er.dat)) = true := shaped_list fun x hx => by
  obtain ⟨e, _, rfl⟩ := List.mem_map.mp hx
  exact dat_small e
theorem shaped_ints (ks : List Int) : SeqAt.shaped (.list (ks.map PyData.int)) = true := shaped_list fun x hx => by
  obtain ⟨e, _, rfl⟩ := List.mem_map.mp hx
  exact ⟨by rw [PyData.canLay0], by simp [PyData.depth]⟩
theorem eqv_nil (xs : List PyData) : PyData.eqv (.list xs) (.list []) = xs.isEmpty := by cases xs <;> rfl
theorem range_assign {prog : Program} {w : World} {A : Around} {env : Env} {s : Shared} {E : Value → Shared → Prop} {iter c : Expr} {x y : Str} {px px' py : Pos} {scope : Scope} {cl : List (Str × Addr)} {pos spos : Pos} {Q : Flow → Shared → Prop} {lo hi : Nat} {g : Heap} {m : Str → Option Value} {news : List (Addr × Obj)} {L : Addr} (p : Value → Bool) (F₀ : Fr g L s.heap m) (N₀ : News g L s.heap news) (hL : env.locals = L)
    (hsw : swapsWith (.ListComp (.Name x px) [⟨.Name x px', iter, [c], 0⟩] scope pos) (some (.Name y py)) spos.line env = pure true)
    (hclos : closureFor scope env = pure cl) (hcell : ∀ y ∈ scope.names, y.2 ≠ .cell) (hkind : scope.kind = .function)
    (hnames : ∀ y ∈ scope.names, y.2 = .local → scope.names.lookup y.1 = some .local) (hx : scope.names.lookup x = some .local) (hdb : (x == ("__debug__" : Str)) = false)
    (hy : env.kindOf y = some .local) (hp : (env.scope.kind == .class || (env.scope.kind == .module && env.locals != env.globals)) = false)
    (hh : A.handled = none) (hlo : lo ≤ hi) (hhi : hi ≤ 1000)
    (ht : ∀ (C : Addr) (i : Nat) (t : Tok) (s₃ : Shared) (m₃ : Str → Option Value) (E' : Value → Shared → Prop), lo ≤ i → i < hi → s₃.heap.Ns C m₃ → m₃ x = some (.int (i : Nat) t) → Keep g s₃.heap → (∀ q ∈ news, s₃.heap.get? q.1 = some q.2) →
      wpAny (model prog w) A (isTrue c (compEnvC scope cl C env) (eval c (compEnvC scope cl C env))) (fun ok s₄ => ok = p (.int (i : Nat) t) ∧ Keeps s₃ s₄) E' s₃)
    (hit : wpAny (model prog w) A (eval iter env) (fun v s₁ => ∃ R t u v' h₁ tk₁, v = .ref R ∧ s₁ = { s with heap := h₁, toks := tk₁ } ∧ IsRange h₁ R (lo : Nat) (hi : Nat) 1 t u v' ∧ Fr g L h₁ m ∧ News g L h₁ news) E s)
    (hQ : ∀ h' tk D' n' (vs : List Value), Fr g L h' (fun z => if z = y then some (.ref D') else m z) → News g L h' ((D', lstO (vs.filter p) n') :: news) → vs.length = hi - lo → (∀ (j : Nat) v, vs[j]? = some v → ∃ t, v = .int ((lo + j : Nat) : Int) t) → Q .next { s with heap := h', toks := tk })
    (hs : ∀ x, foldedSetIterable iter env x = pure x := by intro _; rfl) :
    wpAny (model prog w) A (exec (.Assign [.Name y py] (.ListComp (.Name x px) [⟨.Name x px', iter, [c], 0⟩] scope pos) spos) env) Q E s := by
  subst hL
  refine wpAny_Assign_ListComp_free p (fun v y => y = v) hsw hclos hcell hkind hnames hx hy hp (wpAny_mono hit (fun v s₁ h1 => ?_) fun _ _ e => e) hs
  obtain ⟨R, t, u, v', h₁, tk₁, rfl, rfl, hR, F, N⟩ := h1
  have hsm : Builtin.Range.small (lo : Nat) (hi : Nat) 1 = true := small_one (by omega) (by omega) (by omega) (by omega)
  have hsz : Builtin.Range.rangeSize (lo : Nat) (hi : Nat) 1 = ((hi - lo : Nat) : Int) := by
    unfold Builtin.Range.rangeSize
    simp
    split <;> omega
  refine wpAny_pyIter_range hR hsm ?_
  rw [hsz]
  have hLs : env.locals ∉ [h₁.objs.size] := by simp; exact Nat.ne_of_lt F.ns.lt
  refine ⟨_, _, _, _, _, _, m, rfl, (Walks.range hh h₁.objs.size (lo : Nat) 1 (hi - lo)).bound, Nat.le_trans (m := 1000) (by omega) (Nat.le_of_ble_eq_true rfl), ?_, ?_, hLs, (F.push _).ns, ⟨?_, ?_⟩, ?_⟩
  · show (Heap.push _ _).get? _ = _
    have := Heap.get?_push_size h₁ (o := { cls := .type "range_iterator", data := .fields #[rawInt (lo : Nat), rawInt ((hi - lo : Nat) : Int), rawInt 1] }) rfl
    simpa using this
  · intro b hb
    simp only [List.mem_cons, List.not_mem_nil, or_false] at hb
    rw [Heap.size_push]
    subst hb
    exact Nat.lt_succ_self _
  · intro C i v s₃ m₃ E' hC hP hn hm hk htk
    obtain ⟨hi', t', rfl⟩ := hP
    have k : Keep h₁ s₃.heap := fun b o e => hk b o (by simp; exact Nat.ne_of_lt (Heap.lt_size e)) (Heap.get?_push_of_some _ e)
    have e1 : ((lo : Nat) : Int) + (i : Int) * 1 = ((lo + i : Nat) : Int) := by omega
    rw [e1] at hm ⊢
    have := ht C (lo + i) t' s₃ m₃ E' (by omega) (by omega) hn hm (fun b o e => k b o (F.keep b o e)) fun q hq => k _ _ (N q hq).1
    refine wpAny_bind (wpAny_bind (wpAny_mono this (fun ok s₄ h4 => wpAny_pure ?_) fun _ _ e => e))
    exact wpAny_pure h4
  · intro C i v s₃ m₃ E' hC hP hp hn hm hk htk
    exact wpAny_Name (wpAny_loadName_local (by simpa [compEnvC, relabel] using hkind) (lookup_relabel_local hx) hn hm ⟨rfl, _, _, rfl, fun _ _ e => e⟩) hdb
  · intro D' h' tk ys vs hD' hl' hpl hlen' hP hF hns hk
    have e2 := paired_eq hF
    obtain ⟨n', hpl⟩ := hpl
    obtain ⟨ys⟩ := ys
    dsimp only at e2
    subst e2
    have hD0 : h₁.get? D' = none := by
      cases e : h₁.get? D' with
      | none => rfl
      | some o => rw [Heap.get?_push_of_some _ e] at hD'; cases hD'
    have k : KeepBut [env.locals] h₁ h' := fun b o hb e => hk b o (by simpa using hb) (by simp; exact Nat.ne_of_lt (Heap.lt_size e)) (Heap.get?_push_of_some _ e)
    have hLn : ∀ b o, g.get? b = some o → b ≠ env.locals := fun b o e => Nat.ne_of_lt (Nat.lt_of_lt_of_le (Heap.lt_size e) F.above)
    refine hQ h' tk D' n' vs ⟨hns, fun b o e => k b o (by simpa using hLn b o e) (F.keep b o e), F.above⟩ ?_ hlen' ?_
    · intro q hq
      cases hq with
      | head =>
        refine ⟨hpl, ?_, ?_⟩
        · rintro e
          dsimp only at e
          subst e
          obtain ⟨_, _, _, ho, _⟩ := F.ns
          rw [hD0] at ho; cases ho
        · cases e : g.get? D' with
          | none => rfl
          | some o => rw [F.keep _ _ e] at hD0; cases hD0
      | tail _ hq => exact ⟨k _ _ (by simpa using (N q hq).2.1) (N q hq).1, (N q hq).2⟩
    · intro j v hv
      obtain ⟨_, t', rfl⟩ := hP j v hv
      exact ⟨t', by rw [show ((lo : Nat) : Int) + (j : Int) * 1 = ((lo + j : Nat) : Int) by omega]⟩
theorem cut_at : ∀ {vs : List Value} {j : Nat} {y : Value}, vs[j]? = some y → kl_cut vs j = some (vs.take j, y, vs.drop (j + 1))
  | [], j, y, h => by simp at h
  | x :: r, 0, y, h => by simp at h; subst h; rfl
  | x :: r, j + 1, y, h => by
    have := cut_at (vs := r) (j := j) (y := y) (by simpa using h)
    unfold kl_cut
    rw [this]
    rfl
theorem pop_at {prog : Program} {w : World} {A : Around} {s : Shared} {E : Value → Shared → Prop} {g : Heap} {L r : Addr} {m : Str → Option Value} {rest : List (Addr × Obj)} {vs : List Value} {nv j : Nat} {u : Tok} {y : Value} {Q : Value → Shared → Prop}
    (F : Fr g L s.heap m) (N : News g L s.heap ((r, lstO vs nv) :: rest)) (hrest : ∀ q ∈ rest, q.1 ≠ r) (hy : vs[j]? = some y) (hlen : vs.length ≤ 1000)
    (h : ∀ h', Fr g L h' m → News g L h' ((r, lstO (vs.take j ++ vs.drop (j + 1)) (nv + 1)) :: rest) → Q y { s with heap := h' }) : wpAny (model prog w) A (call (.builtin "list.pop") [.ref r, .int (j : Nat) u]) Q E s := by
  have hj : j < vs.length := (List.getElem?_eq_some_iff.mp hy).1
  refine kl_popAt F N (fits_small (by omega)) ?_ (cut_at hy) (Upd.head hrest) (Nat.le_trans (m := 1000) hlen (Nat.le_of_ble_eq_true rfl)) h
  unfold seqIndex?
  simp
  omega
/-- the comprehension's picks against the place that bisect finds -/
noncomputable def geAt (es : List Er) (x : Int) (k : Nat) : Bool := match es[k]? with | some e => decide (e.code ≥ x) | none => false
noncomputable def pk (es : List Er) (x : Int) (v : Value) : Bool := match v with | .int k _ => geAt es x k.toNat | _ => false
theorem pk_pure {es : List Er} {x : Int} {spot j : Nat} {ks : List Value} (b : BL es x spot j) (hl : ks.length = es.length - spot) (hk : ∀ (i : Nat) v, ks[i]? = some v → ∃ t, v = .int ((spot + i : Nat) : Int) t) :
    (ks.filter (pk es x) = [] → j = es.length) ∧ (ks.filter (pk es x) ≠ [] → j < es.length ∧ ∃ t rest, ks.filter (pk es x) = .int (j : Nat) t :: rest) := by
  obtain ⟨h1, h2, h3, h4⟩ := b
  have e0 : ks = ks.take (j - spot) ++ ks.drop (j - spot) := (List.take_append_drop _ _).symm
  have t1 : (ks.take (j - spot)).filter (pk es x) = [] := by
    rw [List.filter_eq_nil_iff]
    intro v hv
    obtain ⟨i, hi⟩ := List.mem_iff_getElem?.mp hv
    rw [List.getElem?_take] at hi
    split at hi
    · obtain ⟨t, rfl⟩ := hk i v hi
      have hil : spot + i < es.length := by omega
      have := h3 (spot + i) es[spot + i] (by omega) (by omega) (by simp [hil])
      simp only [pk, geAt, Int.toNat_natCast, List.getElem?_eq_getElem hil]
      simp
      omega
    · cases hi
  have t2 : (ks.drop (j - spot)).filter (pk es x) = ks.drop (j - spot) := by
    rw [List.filter_eq_self]
    intro v hv
    obtain ⟨i, hi⟩ := List.mem_iff_getElem?.mp hv
    rw [List.getElem?_drop] at hi
    have hb := (List.getElem?_eq_some_iff.mp hi).1
    obtain ⟨t, rfl⟩ := hk _ v hi
    have hil : spot + (j - spot + i) < es.length := by omega
    have := h4 (spot + (j - spot + i)) es[spot + (j - spot + i)] (by omega) (by simp [hil])
    simp only [pk, geAt, Int.toNat_natCast, List.getElem?_eq_getElem hil]
    simpa using this
  have e1 : ks.filter (pk es x) = ks.drop (j - spot) := by
    conv => lhs; rw [e0]
    rw [List.filter_append, t1, t2, List.nil_append]
  rw [e1]
  constructor
  · intro hn
    rw [List.drop_eq_nil_iff] at hn
    omega
  · intro hn
    have hjl : j - spot < ks.length := by
      rcases Nat.lt_or_ge (j - spot) ks.length with h | h
      · exact h
      · exact absurd (List.drop_eq_nil_iff.mpr h) hn
    refine ⟨by omega, ?_⟩
    obtain ⟨t, ht⟩ := hk (j - spot) ks[j - spot] (by simp [hjl])
    refine ⟨t, ks.drop (j - spot + 1), ?_⟩
    rw [List.drop_eq_getElem_cons hjl, ht, show spot + (j - spot) = j by omega]
theorem test_ge {prog : Program} {w : World} {A : Around} {env : Env} {s₃ : Shared} {E' : Value → Shared → Prop} {scope : Scope} {cl : List (Str × Addr)} {x y z : Str} {C c1 c2 D : Addr} {m₃ : Str → Option Value} {i : Nat} {t tc : Tok} {code : Int} {ds : List Value} {nd : Nat} {es : List Er} {p1 p2 p3 p4 p5 p6 p7 : Pos} {k1 : Nat}
    (hkind : scope.kind = .function) (hx : scope.names.lookup x = some .local) (hdx : (x == ("__debug__" : Str)) = false) (hy : (compEnvC scope cl C env).kindOf y = some .cell) (hdy : (y == ("__debug__" : Str)) = false) (hc1 : cl.lookup y = some c1)
    (hz : (compEnvC scope cl C env).kindOf z = some .cell) (hdz : (z == ("__debug__" : Str)) = false) (hc2 : cl.lookup z = some c2) (hn : s₃.heap.Ns C m₃) (hm : m₃ x = some (.int (i : Nat) t))
    (hy1 : s₃.heap.IsCell c1 (some (.ref D))) (hz1 : s₃.heap.IsCell c2 (some (.int code tc))) (hD : s₃.heap.get? D = some (lstO ds nd)) (hds : All2 (DatAt s₃.heap) ds es) (hi : i < es.length) (hlen : es.length ≤ 1000) :
    wpAny (model prog w) A (isTrue (.Compare (.Subscript (.Subscript (.Name y p1) (.Name x p2) p3) (.Constant (.int 1) k1 p4) p5) [.GtE] [.Name z p6] p7) (compEnvC scope cl C env) (eval (.Compare (.Subscript (.Subscript (.Name y p1) (.Name x p2) p3) (.Constant (.int 1) k1 p4) p5) [.GtE] [.Name z p6] p7) (compEnvC scope cl C env))) (fun ok s₄ => ok = pk es code (.int (i : Nat) t) ∧ Keeps s₃ s₄) E' s₃ := by
  have hl : s₃.heap.IsList D ds.toArray := ⟨_, hD, rfl, nd, rfl⟩
  have hlen' := hds.len
  obtain ⟨e, hee⟩ : ∃ e, es[i]? = some e := ⟨es[i]'(by omega), by simp⟩
  obtain ⟨v, hvv⟩ : ∃ v, ds[i]? = some v := ⟨ds[i]'(by omega), by simp⟩
  have de := hds.at_ i v e hvv hee
  refine wpAny_isTrue_Compare1 (Subscript_ (Subscript_ (load_cell hkind hy hdy hc1 hy1 _ (load_it hkind hx hdx hn hm _ ?_))))
  refine tail_any hl.typeIs slot_list_getitem.lookup (wpAny_getItem_list hl (Int.natCast_nonneg i) (by omega) (by simpa using hvv) ?_) (by with_unfolding_all rfl)
  refine wpAny_Constant_int (dat_code (s := { s₃ with toks := s₃.toks + 1 }) de fun t' => ?_)
  refine load_cell (s := { s₃ with toks := s₃.toks + 1 }) hkind hz hdz hc2 hz1 _ ?_
  refine PySem.P.ge_int (wpAny_truthy_bool ⟨?_, _, _, rfl, fun _ _ e => e⟩)
  simp [pk, geAt, hee]
theorem taken_spec {w : World} {A : Around} {s : Shared} {b₀ : Heap} {p loose mg mb} {r D : Addr} {S : List Addr} {es : List Er} {code : Int} {spot tc ts : Nat} {Q E}
   (X : (Mine.tp.heap_39 w.params).In b₀) (T : TopRead p loose mg mb b₀) (hb : Keep b₀ s.heap) (hh : A.handled = none) (hdp : A.depth ≤ 350) (hun : A.units ≤ 350)
   (hrS : r ∈ S) (hrb : b₀.get? r = none) (st : St w.params b₀ s.heap S r D es) (hs : SortedC es) (hc : ∀ e ∈ es, 200 ≤ e.code) (hlen : es.length ≤ 900) (hspot : spot ≤ es.length)
   (hQ : ∀ h' tk D' es', KeepBut [r] s.heap h' → St w.params b₀ h' S r D' es' → (es' = es ∨ ∃ j, j < es.length ∧ es' = es.take j ++ es.drop (j + 1)) → Q (.ref D') { s with heap := h', toks := tk }) :
   wpAny (model Challenge.rw_nb0163_01.row.prog w) A (call (.ref 178) [.ref r, .ref D, .int code tc, .int (spot : Nat) ts]) Q E s := by
  k_with_none
  k_with "call ref" => (refine held ?_)
  k_with "call builtin:len" => (refine held ?_)
  k_with "call builtin:list.pop" => (refine held ?_)
  k_with "call type:range" => (refine held ?_)
  k_with "exec Assign" => ((with_reducible show wpAny _ _ (exec (Stmt.Assign _ (Expr.ListComp _ _ _ _) _) _) _ _ _); (refine held ?_))
  revert X; k_fill; intro X
  obtain ⟨⟨vs, nv, hr, hvs⟩, ⟨ds, nd, hD, hds⟩, hne⟩ := st
  have hn : ∀ q ∈ ([(r, lstO vs nv)] : List (Addr × Obj)), s.heap.get? q.1 = some q.2 ∧ b₀.get? q.1 = none := by
    intro q hq; simp only [List.mem_cons, List.not_mem_nil, or_false] at hq; subst hq; exact ⟨hr, hrb⟩
  refine wpAny_call ?_
  refine' enterC (binds := [(Str.ofString "row", .ref r), (Str.ofString "due", .ref D), (Str.ofString "code", .int code tc), (Str.ofString "spot", .int (spot : Nat) ts)]) [(r, lstO vs nv)] [] X T hb hn (fun _ h => nomatch h) (by omega) ?k6 ?k7 ?k8 ?kB ?kD ?_ ?c2 ?c3 ?c4
  case k6 => k_is
  case k7 => k_is
  case k8 => exact BindsTo.of_eq rfl
  case kB => exact rfl
  case kD => decide +kernel
  case c2 => exact rfl
  case c3 => exact rfl
  case c4 => exact rfl
  intro g L' h' tk' cells' eg eL hk X' T' F' N' Y'
  obtain ⟨o₁, o₂, hE, d1', d2'⟩ := CellsAre.two Y'
  subst hE
  try simp only [List.cons_append, List.nil_append] at N'
  try dsimp only
  try k_fold
  have eg' : g = hideAll s.heap [r] := eg
  have gD : g.get? D = some (lstO ds nd) := eg' ▸ hideAll_get [r] hD (by simpa using hne)
  have gds : All2 (DatAt g) ds es := eg' ▸ hds.hide (notup_list hr notup_nil)
  have gvs : All2 (ErrAt w.params b₀ g) vs es := eg' ▸ hvs.errKeeps (keep_hide_sub fun a ha => by cases List.mem_singleton.mp ha; exact hrS)
  have gb : Keep b₀ g := eg' ▸ keep_hide hb fun a ha => by cases List.mem_singleton.mp ha; exact hrb
  have hlds := hds.len
  have hlvs := hvs.len
  have F1 := fr_all F' [(Str.ofString "row", .ref r), (Str.ofString "spot", .int (spot : Nat) ts)] (by
    intro q hq; simp only [List.mem_cons, List.not_mem_nil, or_false] at hq; rcases hq with rfl | rfl <;> rfl)
  clear F'
  have d1 : o₁.data = .cell (some (.int code tc)) := d1'
  have d2 : o₂.data = .cell (some (.ref D)) := d2'
  clear d1' d2'
  k_steps
  refine unheld ?_
  rename Fr _ _ _ _ => F
  rename News _ _ _ _ => N
  refine bl_three X T (fun b o e => F.keep b o (gb b o e)) hh (show _ + 1 ≤ 370 from up hdp (by decide)) (show _ + 3 ≤ 370 from up hun (by decide)) (N (r, lstO vs nv) (by k_mem)).1 (.of (gvs.errKeeps F.keep)) hs hc hspot (by omega) ?_
  intro h₂ tk₂ t₂ j k₂ hj
  have F2 := F.keeps k₂
  have N2 := N.grown k₂
  clear F N
  k_steps
  refine unheld ?_
  rename Fr _ _ _ _ => F
  rename News _ _ _ _ => N
  refine range_assign (pk es code) (lo := spot) (hi := es.length) F N rfl rfl rfl (by decide) rfl (by decide) rfl rfl rfl rfl hh hspot (by omega) ?_ ?_ ?_
  · intro C i t s₃ m₃ E' hi1 hi2 hn₃ hm₃ hk₃ hN₃
    exact test_ge rfl rfl rfl rfl rfl rfl rfl rfl rfl hn₃ hm₃ ⟨_, hN₃ _ (.tail _ (.head _)), d2⟩ ⟨_, hN₃ _ (.head _), d1⟩ (hk₃ _ _ gD) (gds.datKeeps hk₃) hi2 (by omega)
  · k_steps
    refine unheld ?_
    rename Fr _ _ _ _ => F
    rename News _ _ _ _ => N
    have hl0 : g.IsList D ds.toArray := ⟨_, gD, rfl, nd, rfl⟩
    refine len_list (hl0.at fun o e => F.keep D o e) (by rw [List.size_toArray]; omega) ?_
    k_steps
    refine unheld ?_
    rename Fr _ _ _ _ => F
    rename News _ _ _ _ => N
    rw [show (ds.toArray.size : Int) = (es.length : Int) by simp [hlds]]
    refine call_range_2 ?_
    exact ⟨_, _, _, _, _, _, rfl, rfl, IsRange.new _ _ _ _ _ _ _, F.push _, N.grown fun b o e => Heap.get?_push_of_some _ e⟩
  clear F N
  intro h₃ tk₃ M₃ n₃ ks F N hks hks2
  k_steps
  rename Fr _ _ _ _ => F
  rename News _ _ _ _ => N
  have hint : ∀ v ∈ ks.filter (pk es code), ∃ k t, v = .int k t := by
    intro v hv
    obtain ⟨i, hi⟩ := List.mem_iff_getElem?.mp (List.mem_filter.mp hv).1
    obtain ⟨t, rfl⟩ := hks2 i v hi
    exact ⟨_, _, rfl⟩
  obtain ⟨kk, as, hrd, hnil⟩ := ints_reads (h := _) hint
  refine SeqAt.compareEq_shaped (Reads.list (N (M₃, lstO (ks.filter (pk es code)) n₃) (by k_mem)).1 rfl rfl hrd) (Reads.list (N _ (.head _)).1 rfl rfl .nil) (shaped_ints kk) rfl (by show _ + _ + 64 < 9900; omega) ?_
  rw [eqv_nil]
  have hpure := pk_pure hj hks hks2
  have kS : ∀ {h : Heap}, KeepBut [r] s.heap h → KeepBut S s.heap h := fun k b o hb e => k b o (fun hm => hb (by cases List.mem_singleton.mp hm; exact hrS)) e
  cases hkk : kk.map PyData.int with
  | nil =>
    have hj2 : j = es.length := hpure.1 (hnil.mp (by simpa using hkk))
    dsimp only [List.isEmpty]
    k_steps
    refine unheld ?_
    rename Fr _ _ _ _ => F
    rename News _ _ _ _ => N
    have hl0 : g.IsList D ds.toArray := ⟨_, gD, rfl, nd, rfl⟩
    refine len_list (hl0.at fun o e => F.keep D o e) (by rw [List.size_toArray]; omega) ?_
    rw [show (ds.toArray.size : Int) = (j : Int) by simp [hlds, hj2]]
    k_steps
    · rename Fr _ _ _ _ => F
      rename News _ _ _ _ => N
      exact hQ _ _ D es (keepbut_end eg' F) ⟨⟨vs, nv, (N (r, lstO vs nv) (by k_mem)).1, hvs.errKeeps (hide_keep (kS (keepbut_end eg' F)))⟩, ⟨ds, nd, F.keep _ _ gD, gds.datKeeps F.keep⟩, hne⟩ (.inl rfl)
    all_goals (exfalso; omega)
  | cons k0 kr =>
    have hne2 : ks.filter (pk es code) ≠ [] := fun e => by rw [hnil.mpr e] at hkk; cases hkk
    obtain ⟨hjl, t9, rest, hf⟩ := hpure.2 hne2
    dsimp only [List.isEmpty]
    k_steps
    rename Fr _ _ _ _ => F
    rename News _ _ _ _ => N
    have hM := (N (M₃, lstO (ks.filter (pk es code)) n₃) (by k_mem)).1
    have hlM : Heap.IsList _ M₃ (ks.filter (pk es code)).toArray := ⟨_, hM, rfl, n₃, rfl⟩
    refine tail_any hlM.typeIs slot_list_getitem.lookup (wpAny_getItem_list (x := .int (j : Nat) t9) hlM (Int.le_refl 0) (by decide) (by rw [hf]; rfl) ?_) (by with_unfolding_all rfl)
    k_steps
    · exfalso; omega
    refine unheld ?_
    rename Fr _ _ _ _ => F
    rename News _ _ _ _ => N
    have hrL : @LT.lt Nat _ r L' := by rw [eL]; exact Heap.lt_size hr
    have hN : News g L' _ [(r, lstO vs nv), (L' + 2, o₁), (L' + 1, o₂)] := fun q hq => N q (by
      simp only [List.mem_cons, List.not_mem_nil, or_false] at hq
      rcases hq with rfl | rfl | rfl <;> k_mem)
    clear N
    obtain ⟨e, hee⟩ : ∃ e, es[j]? = some e := ⟨es[j]'(by omega), by simp⟩
    obtain ⟨v, hvv⟩ : ∃ v, vs[j]? = some v := ⟨vs[j]'(by omega), by simp⟩
    obtain ⟨d, hdd⟩ : ∃ d, ds[j]? = some d := ⟨ds[j]'(by omega), by simp⟩
    refine pop_at F hN (by intro q hq; simp only [List.mem_cons, List.not_mem_nil, or_false] at hq; rcases hq with rfl | rfl <;> (refine neN ?_; dsimp only; omega)) hvv (by omega) ?_
    intro h₅ F5 N5
    clear F hN
    k_steps
    refine unheld ?_
    rename Fr _ _ _ _ => F
    rename News _ _ _ _ => N
    refine shown_spec X T (fun b o e => F.keep b o (gb b o e)) hh (show _ + 1 ≤ 390 from up hdp (by decide)) (show _ + 3 ≤ 390 from up hun (by decide)) ((gvs.at_ j v e hvv hee).keeps F.keep) ?_
    intro h₆ tk₆ v₆ k₆ hv₆
    have F6 := F.keeps k₆
    have N6 := N.grown k₆
    clear F N
    k_steps
    rename Fr _ _ _ _ => F
    rename News _ _ _ _ => N
    have hl0 : g.IsList D ds.toArray := ⟨_, gD, rfl, nd, rfl⟩
    have hl := hl0.at fun o e => F.keep D o e
    refine tail_any hl.typeIs slot_list_getitem.lookup (wpAny_getItem_list hl (Int.natCast_nonneg j) (by omega) (by simpa using hdd) ?_) (by with_unfolding_all rfl)
    k_steps
    obtain ⟨a₆, r₆⟩ := hv₆
    rename Fr _ _ _ _ => F
    rename News _ _ _ _ => N
    obtain ⟨a₇, r₇⟩ := ((gds.at_ j d e hdd hee).keeps F.keep).rd
    refine SeqAt.compareNe_shaped r₆ r₇ (shaped_dat e) (shaped_dat e) (by show _ + _ + 64 < 9900; omega) ?_
    rw [eqv_dat.mpr rfl, Bool.not_true]
    k_steps
    rename Fr _ _ _ _ => F
    rename News _ _ _ _ => N
    have e1 : slicePick ds.toArray none (some (j : Int)) none = (ds.take j).toArray := slicePick_upto ds.toArray j (by simp; omega)
    have e2 : slicePick ds.toArray (some ((j : Int) + 1)) none none = (ds.drop (j + 1)).toArray := slicePick_from ds.toArray (j + 1) (by simp; omega)
    rw [e1, e2] at N
    have hr9 := (N (r, lstO (vs.take j ++ vs.drop (j + 1)) (nv + 1)) (by k_mem)).1
    refine add_two (vs := ds.take j) (ws := ds.drop (j + 1)) (n := 0) (n' := 0) F N (by k_mem) (by k_mem) (by simp only [List.length_take, List.length_drop]; omega) ?_
    intro D₉ h₉ e₉ F9 N9
    clear F N
    k_steps
    rename Fr _ _ _ _ => F
    rename News _ _ _ _ => N
    have hrr := (N (r, lstO (vs.take j ++ vs.drop (j + 1)) (nv + 1)) (by k_mem)).1
    have hDD := (N _ (.head _)).1
    refine hQ _ _ D₉ (es.take j ++ es.drop (j + 1)) (keepbut_end eg' F) ⟨⟨_, _, hrr, ((hvs.take j).append (hvs.drop (j + 1))).errKeeps (hide_keep (kS (keepbut_end eg' F)))⟩, ⟨_, _, hDD, ((gds.take j).append (gds.drop (j + 1))).datKeeps F.keep⟩, ?_⟩ (.inr ⟨j, hjl, rfl⟩)
    rintro rfl
    rw [hr9] at e₉; cases e₉
noncomputable def q4 (e : Er) : Bool := Int.fdiv e.code 100 == 4
theorem q4_iff {e : Er} : q4 e = true ↔ 400 ≤ e.code ∧ e.code ≤ 499 := by
  unfold q4
  rw [beq_iff_eq, Int.fdiv_eq_ediv_of_nonneg _ (by omega)]
  omega
theorem filt_none {es : List Er} {q : Er → Bool} (h : ∀ (i : Nat) e, es[i]? = some e → q e = false) : es.filter q = [] := by
  rw [List.filter_eq_nil_iff]
  intro e he
  obtain ⟨i, hi⟩ := List.mem_iff_getElem?.mp he
  rw [h i e hi]; simp
theorem filt_all {es : List Er} {q : Er → Bool} (h : ∀ (i : Nat) e, es[i]? = some e → q e = true) : es.filter q = es := by
  rw [List.filter_eq_self]
  intro e he
  obtain ⟨i, hi⟩ := List.mem_iff_getElem?.mp he
  exact h i e hi
/-- a filter that picks a window -/
theorem filt_win {es : List Er} {q : Er → Bool} {a b : Nat} (hab : a ≤ b) (h1 : ∀ (i : Nat) e, i < a → es[i]? = some e → q e = false) (h2 : ∀ (i : Nat) e, a ≤ i → i < b → es[i]? = some e → q e = true)
    (h3 : ∀ (i : Nat) e, b ≤ i → es[i]? = some e → q e = false) : es.filter q = (es.take b).drop a := by
  have e0 : es = (es.take b).take a ++ (es.take b).drop a ++ es.drop b := by rw [List.take_append_drop, List.take_append_drop]
  conv => lhs; rw [e0]
  rw [List.filter_append, List.filter_append]
  have t1 : ((es.take b).take a).filter q = [] := filt_none fun i e hi => by
    rw [List.getElem?_take] at hi
    split at hi
    · rw [List.getElem?_take] at hi
      split at hi
      · exact h1 i e (by assumption) hi
      · cases hi
    · cases hi
  have t2 : ((es.take b).drop a).filter q = (es.take b).drop a := filt_all fun i e hi => by
    rw [List.getElem?_drop, List.getElem?_take] at hi
    split at hi
    · exact h2 (a + i) e (by omega) (by assumption) hi
    · cases hi
  have t3 : (es.drop b).filter q = [] := filt_none fun i e hi => by
    rw [List.getElem?_drop] at hi
    exact h3 (b + i) e (by omega) hi
  rw [t1, t2, t3, List.nil_append, List.append_nil]
theorem late_win {es : List Er} {i j : Nat} (b1 : BL es 400 0 i) (b2 : BR es 499 0 j) : i ≤ j ∧ es.filter q4 = (es.take j).drop i := by
  have hij : i ≤ j := by
    rcases Nat.lt_or_ge j i with h | h
    · have hj : j < es.length := Nat.lt_of_lt_of_le h b1.le
      have := b1.below j es[j] (Nat.zero_le _) h (by simp [hj])
      have := b2.above j es[j] (Nat.le_refl _) (by simp [hj])
      omega
    · exact h
  refine ⟨hij, filt_win hij (fun k e hk he => ?_) (fun k e hk hk2 he => ?_) fun k e hk he => ?_⟩
  · have := b1.below k e (Nat.zero_le _) hk he
    rw [← Bool.not_eq_true, q4_iff]; omega
  · have := b1.above k e hk he
    have := b2.below k e (Nat.zero_le _) hk2 he
    rw [q4_iff]; omega
  · have := b2.above k e hk he
    rw [← Bool.not_eq_true, q4_iff]; omega
theorem late_len {es : List Er} {i j : Nat} (b1 : BL es 400 0 i) (b2 : BR es 499 0 j) : (es.filter q4).length = j - i := by
  obtain ⟨h, e⟩ := late_win b1 b2
  rw [e, List.length_drop, List.length_take, Nat.min_eq_left b2.le]
theorem late_head {es : List Er} {i j : Nat} {a : Er} {r : List Er} (b1 : BL es 400 0 i) (b2 : BR es 499 0 j) (hl : es.filter q4 = a :: r) : es[i]? = some a := by
  obtain ⟨h, e⟩ := late_win b1 b2
  rw [e] at hl
  have := congrArg (·[0]?) hl
  simp only [List.getElem?_drop, List.getElem?_take, List.getElem?_cons_zero, Nat.add_zero] at this
  split at this
  · exact this
  · cases this
theorem cnt_lt {es : List Er} {x : Int} {j : Nat} (b : BL es x 0 j) : (es.filter fun e => decide (e.code < x)) = es.take j := by
  rw [filt_win (a := 0) (b := j) (Nat.zero_le _) (fun i e h => absurd h (Nat.not_lt_zero _)) (fun i e h1 h2 h3 => by simpa using b.below i e h1 h2 h3) (fun i e h1 h3 => by have := b.above i e h1 h3; simp; omega)]
  rfl
theorem cnt_le {es : List Er} {x : Int} {j : Nat} (b : BR es x 0 j) : (es.filter fun e => decide (e.code ≤ x)) = es.take j := by
  rw [filt_win (a := 0) (b := j) (Nat.zero_le _) (fun i e h => absurd h (Nat.not_lt_zero _)) (fun i e h1 h2 h3 => by simpa using b.below i e h1 h2 h3) (fun i e h1 h3 => by have := b.above i e h1 h3; simp; omega)]
  rfl
theorem SortedC.cons {e : Er} {es : List Er} (h : SortedC (e :: es)) : SortedC es ∧ ∀ x ∈ es, e.code ≤ x.code := by
  refine ⟨fun i j a b hij h1 h2 => h (i + 1) (j + 1) a b (by omega) (by simpa using h1) (by simpa using h2), fun x hx => ?_⟩
  obtain ⟨i, hi⟩ := List.mem_iff_getElem?.mp hx
  exact h 0 (i + 1) e x (Nat.zero_le _) rfl (by simpa using hi)
/-- an ordered list is its three parts -/
theorem three {x : Int} : ∀ {es : List Er}, SortedC es → es = es.filter (fun e => decide (e.code < x)) ++ (es.filter (fun e => e.code == x) ++ es.filter (fun e => decide (e.code > x)))
  | [], _ => rfl
  | e :: es, h => by
    obtain ⟨h1, h2⟩ := h.cons
    have ih := three (x := x) h1
    rcases Int.lt_trichotomy e.code x with c | c | c
    · have c2 : (e.code == x) = false := by simp; omega
      have c3 : ¬ (e.code > x) := by omega
      simp only [List.filter_cons, c, c2, c3, decide_true, decide_false, if_true, Bool.false_eq_true, if_false, List.cons_append]
      rw [← ih]
    · have c1 : ¬ (e.code < x) := by omega
      have c2 : (e.code == x) = true := by simpa using c
      have c3 : ¬ (e.code > x) := by omega
      have n1 : es.filter (fun e => decide (e.code < x)) = [] := by
        rw [List.filter_eq_nil_iff]; intro y hy; have := h2 y hy; simp; omega
      rw [n1, List.nil_append] at ih
      simp only [List.filter_cons, c1, c2, c3, decide_false, if_true, Bool.false_eq_true, if_false, n1, List.nil_append, List.cons_append]
      rw [← ih]
    · have c1 : ¬ (e.code < x) := by omega
      have c2 : (e.code == x) = false := by simp; omega
      have n1 : es.filter (fun e => decide (e.code < x)) = [] := by
        rw [List.filter_eq_nil_iff]; intro y hy; have := h2 y hy; simp; omega
      have n2 : es.filter (fun e => e.code == x) = [] := by
        rw [List.filter_eq_nil_iff]; intro y hy; have := h2 y hy; simp; omega
      rw [n1, n2, List.nil_append, List.nil_append] at ih
      simp only [List.filter_cons, c1, c2, c, decide_true, decide_false, if_true, Bool.false_eq_true, if_false, n1, n2, List.nil_append]
      rw [← ih]
theorem ins_left {es : List Er} {one : Er} {j : Nat} (hs : SortedC es) (b : BL es one.code 0 j) : es.take j ++ one :: es.drop j = laid es one true := by
  have h3 := three (x := one.code) hs
  have h1 := cnt_lt b
  have h4 : es.drop j = es.filter (fun e => e.code == one.code) ++ es.filter (fun e => decide (e.code > one.code)) := by
    have := List.take_append_drop j es
    conv at this => rhs; rw [h3, h1]
    exact List.append_cancel_left this
  rw [h4, ← h1]
  unfold laid
  simp
theorem ins_right {es : List Er} {one : Er} {j : Nat} (hs : SortedC es) (b : BR es one.code 0 j) : es.take j ++ one :: es.drop j = laid es one false := by
  have h3 := three (x := one.code) hs
  have h2 : es.take j = es.filter (fun e => decide (e.code < one.code)) ++ es.filter (fun e => e.code == one.code) := by
    have t1 := cnt_le b
    rw [← t1]
    conv => lhs; rw [h3]
    rw [List.filter_append, List.filter_append, List.filter_filter, List.filter_filter, List.filter_filter]
    have a1 : (es.filter fun e => decide (e.code ≤ one.code) && decide (e.code < one.code)) = es.filter fun e => decide (e.code < one.code) := by
      apply List.filter_congr; intro e _; by_cases c : e.code < one.code <;> simp [c] <;> omega
    have a2 : (es.filter fun e => decide (e.code ≤ one.code) && (e.code == one.code)) = es.filter fun e => e.code == one.code := by
      apply List.filter_congr; intro e _; by_cases c : e.code = one.code <;> simp [c]
    have a3 : (es.filter fun e => decide (e.code ≤ one.code) && decide (e.code > one.code)) = [] := by
      rw [List.filter_eq_nil_iff]; intro e _; simp
    rw [a1, a2, a3, List.append_nil]
  have h4 : es.drop j = es.filter (fun e => decide (e.code > one.code)) := by
    have := List.take_append_drop j es
    conv at this => rhs; rw [h3, ← List.append_assoc, ← h2]
    exact List.append_cancel_left this
  rw [h4, h2]
  unfold laid
  simp
/-- the serials differ -/
def Dist (es : List Er) : Prop := (es.map Er.ser).Nodup
theorem split_at {es : List Er} {j : Nat} {a : Er} (h : es[j]? = some a) : es = es.take j ++ a :: es.drop (j + 1) := by
  obtain ⟨hj, e⟩ := List.getElem?_eq_some_iff.mp h
  conv => lhs; rw [← List.take_append_drop j es, List.drop_eq_getElem_cons hj, e]
theorem rm_one {es : List Er} {j : Nat} {a : Er} (hd : Dist es) (h : es[j]? = some a) (q : Er → Bool) (hq : ∀ e, q e = true ↔ e ≠ a) : es.filter q = es.take j ++ es.drop (j + 1) := by
  have e0 := split_at h
  unfold Dist at hd
  rw [e0, List.map_append, List.map_cons, List.nodup_append] at hd
  obtain ⟨h1, h2, h3⟩ := hd
  conv => lhs; rw [e0]
  rw [List.filter_append, List.filter_cons]
  have qa : q a = false := by
    cases hqa : q a with
    | false => rfl
    | true => exact absurd rfl ((hq a).mp hqa)
  rw [qa]
  have t1 : (es.take j).filter q = es.take j := by
    rw [List.filter_eq_self]
    intro e he
    refine (hq e).mpr ?_
    rintro rfl
    exact h3 _ (List.mem_map_of_mem he) _ (.head _) rfl
  have t2 : (es.drop (j + 1)).filter q = es.drop (j + 1) := by
    rw [List.filter_eq_self]
    intro e he
    refine (hq e).mpr ?_
    rintro rfl
    exact (List.nodup_cons.mp h2).1 (List.mem_map_of_mem he)
  rw [t1, t2]
  simp
theorem sorted_pw {es : List Er} : SortedC es ↔ es.Pairwise (fun a b => a.code ≤ b.code) := by
  constructor
  · intro h
    rw [List.pairwise_iff_getElem]
    intro i j hi hj hij
    exact h i j _ _ (by omega) (by simp) (by simp)
  · intro h i j a b hij h1 h2
    rw [List.pairwise_iff_getElem] at h
    obtain ⟨hi, e1⟩ := List.getElem?_eq_some_iff.mp h1
    obtain ⟨hj, e2⟩ := List.getElem?_eq_some_iff.mp h2
    rcases Nat.lt_or_ge i j with c | c
    · have := h i j hi hj c
      rw [e1, e2] at this; exact this
    · have : i = j := by omega
      subst this
      rw [h1] at h2; cases h2; exact Int.le_refl _
theorem sorted_rm {es : List Er} (h : SortedC es) (j : Nat) : SortedC (es.take j ++ es.drop (j + 1)) := by
  rw [sorted_pw] at h ⊢
  refine h.sublist ?_
  rw [← List.eraseIdx_eq_take_drop_succ]
  exact List.eraseIdx_sublist _ _
theorem dist_rm {es : List Er} (h : Dist es) (j : Nat) : Dist (es.take j ++ es.drop (j + 1)) := by
  unfold Dist at h ⊢
  refine h.sublist (List.Sublist.map _ ?_)
  rw [← List.eraseIdx_eq_take_drop_succ]
  exact List.eraseIdx_sublist _ _
theorem sorted_ins_left {es : List Er} {one : Er} {j : Nat} (h : SortedC es) (b : BL es one.code 0 j) : SortedC (es.take j ++ one :: es.drop j) := by
  rw [sorted_pw] at h ⊢
  have h' := h
  rw [← List.take_append_drop j es, List.pairwise_append] at h'
  rw [List.pairwise_append, List.pairwise_cons]
  refine ⟨h'.1, ⟨fun e he => ?_, h'.2.1⟩, fun a ha c hc => ?_⟩
  · obtain ⟨i, hi⟩ := List.mem_iff_getElem?.mp he
    rw [List.getElem?_drop] at hi
    exact b.above _ _ (by omega) hi
  · cases hc with
    | head =>
      obtain ⟨i, hi⟩ := List.mem_iff_getElem?.mp ha
      rw [List.getElem?_take] at hi
      split at hi
      · have := b.below i a (Nat.zero_le _) (by assumption) hi; omega
      · cases hi
    | tail _ hc => exact h'.2.2 a ha c hc
theorem sorted_ins_right {es : List Er} {one : Er} {j : Nat} (h : SortedC es) (b : BR es one.code 0 j) : SortedC (es.take j ++ one :: es.drop j) := by
  rw [sorted_pw] at h ⊢
  have h' := h
  rw [← List.take_append_drop j es, List.pairwise_append] at h'
  rw [List.pairwise_append, List.pairwise_cons]
  refine ⟨h'.1, ⟨fun e he => ?_, h'.2.1⟩, fun a ha c hc => ?_⟩
  · obtain ⟨i, hi⟩ := List.mem_iff_getElem?.mp he
    rw [List.getElem?_drop] at hi
    have := b.above _ _ (by omega) hi; omega
  · cases hc with
    | head =>
      obtain ⟨i, hi⟩ := List.mem_iff_getElem?.mp ha
      rw [List.getElem?_take] at hi
      split at hi
      · exact b.below i a (Nat.zero_le _) (by assumption) hi
      · cases hi
    | tail _ hc => exact h'.2.2 a ha c hc
theorem mem_ins {es : List Er} {one e : Er} {j : Nat} : e ∈ es.take j ++ one :: es.drop j ↔ e = one ∨ e ∈ es := by
  rw [List.mem_append, List.mem_cons]
  conv => rhs; rw [← List.take_append_drop j es, List.mem_append]
  grind
theorem mem_rm {es : List Er} {e : Er} {j : Nat} (h : e ∈ es.take j ++ es.drop (j + 1)) : e ∈ es := by
  rcases List.mem_append.mp h with h | h
  · exact List.mem_of_mem_take h
  · exact List.mem_of_mem_drop h
theorem dist_ins {es : List Er} {one : Er} {j : Nat} (h : Dist es) (hn : ∀ e ∈ es, e.ser ≠ one.ser) : Dist (es.take j ++ one :: es.drop j) := by
  unfold Dist at h ⊢
  have h' := h
  rw [← List.take_append_drop j es, List.map_append, List.nodup_append] at h'
  rw [List.map_append, List.map_cons, List.nodup_append, List.nodup_cons]
  refine ⟨h'.1, ⟨fun hm => ?_, h'.2.1⟩, fun a ha b hb => ?_⟩
  · obtain ⟨e, he, q⟩ := List.mem_map.mp hm
    exact hn e (List.mem_of_mem_drop he) q
  · cases hb with
    | head =>
      obtain ⟨e, he, q⟩ := List.mem_map.mp ha
      rw [← q]; exact hn e (List.mem_of_mem_take he)
    | tail _ hb => exact h'.2.2 a ha b hb
/-- what an error stands on -/
theorem err_foot {P : Params} {b₀ h : Heap} {v : Value} {e : Er} (x : ErrAt P b₀ h v e) : ∃ fp : List (Addr × Obj), (∀ q ∈ fp, h.get? q.1 = some q.2) ∧ ∀ h' : Heap, (∀ q ∈ fp, h'.get? q.1 = some q.2) → ErrAt P b₀ h' v e := by
  cases x with
  | data h1 h2 => exact ⟨[(_, _), (_, _)], by intro q hq; simp only [List.mem_cons, List.not_mem_nil, or_false] at hq; rcases hq with rfl | rfl <;> assumption, fun h' k => .data (k _ (.head _)) (k _ (.tail _ (.head _)))⟩
  | sender h1 h2 => exact ⟨[(_, _), (_, _)], by intro q hq; simp only [List.mem_cons, List.not_mem_nil, or_false] at hq; rcases hq with rfl | rfl <;> assumption, fun h' k => .sender (k _ (.head _)) (k _ (.tail _ (.head _)))⟩
  | conn h1 h2 => exact ⟨[(_, _), (_, _)], by intro q hq; simp only [List.mem_cons, List.not_mem_nil, or_false] at hq; rcases hq with rfl | rfl <;> assumption, fun h' k => .conn (k _ (.head _)) (k _ (.tail _ (.head _)))⟩
  | recip h1 h2 h3 h4 h5 f1 f2 f3 f4 f5 f6 => exact ⟨[(_, _), (_, _), (_, _), (_, _), (_, _)], by intro q hq; simp only [List.mem_cons, List.not_mem_nil, or_false] at hq; rcases hq with rfl | rfl | rfl | rfl | rfl <;> assumption,
      fun h' k => .recip (k _ (.head _)) (k _ (.tail _ (.head _))) (k _ (.tail _ (.tail _ (.head _)))) (k _ (.tail _ (.tail _ (.tail _ (.head _))))) (k _ (.tail _ (.tail _ (.tail _ (.tail _ (.head _)))))) f1 f2 f3 f4 f5 f6⟩
theorem caught_fp {w : World} {A : Around} {s : Shared} {b₀ : Heap} {p loose mg mb} {kind code ser : Int} {t1 t2 t3 : Nat} {outer : List Env} {Q E}
   (X : (Mine.tp.heap_39 w.params).In b₀) (T : TopRead p loose mg mb b₀) (hb : Keep b₀ s.heap) (hh : A.handled = none) (hdp : A.depth ≤ 380) (hun : A.units ≤ 380) (hfr : A.frames = some outer) (hff : s.heap.FunFrames b₀ outer)
   (hk : kind = 0 ∨ kind = 1 ∨ kind = 2 ∨ kind = 3)
   (hQ : ∀ h' tk x (fp : List (Addr × Obj)), OuterK outer s.heap h' → (∀ q ∈ fp, h'.get? q.1 = some q.2 ∧ s.heap.get? q.1 = none) → (∀ h'' : Heap, (∀ q ∈ fp, h''.get? q.1 = some q.2) → ErrAt w.params b₀ h'' (.ref x) ⟨kind, code, ser⟩) → Q (.ref x) { s with heap := h', toks := tk }) :
   wpAny (model Challenge.rw_nb0163_01.row.prog w) A (call (.ref 151) [.int kind t1, .int code t2, .int ser t3]) Q E s := by
  refine caught_spec X T hb hh hdp hun hfr hff hk fun h' tk x K hx he => ?_
  have := he ((List.range s.heap.objs.size).filter fun a => (s.heap.get? a).isSome) (fun a ha => Option.isSome_iff_exists.mp (by simpa using (List.mem_filter.mp ha).2))
  obtain ⟨fp, h1, h2⟩ := err_foot this
  refine hQ h' tk x fp K (fun q hq => ⟨of_hideAll _ (h1 q hq), ?_⟩) h2
  cases e : s.heap.get? q.1 with
  | none => rfl
  | some o =>
    have hm : q.1 ∈ (List.range s.heap.objs.size).filter fun a => (s.heap.get? a).isSome := List.mem_filter.mpr ⟨List.mem_range.mpr (Heap.lt_size e), by simp [e]⟩
    have := h1 q hq
    rw [hideAll_none _ hm] at this; cases this
theorem after_ins {g h h' : Heap} {L r : Addr} {m : Str → Option Value} {o o' : Obj} {rest : List (Addr × Obj)} (F : Fr g L h m) (N : News g L h ((r, o) :: rest)) (hrest : ∀ q ∈ rest, q.1 ≠ r) (k : KeepBut [r] h h') (hr' : h'.get? r = some o') :
    Fr g L h' m ∧ News g L h' ((r, o') :: rest) := by
  have hr := N (r, o) (.head _)
  have hLr : L ≠ r := fun e => hr.2.1 e.symm
  refine ⟨⟨F.ns.at' fun o e => k L o (by simpa using hLr) e, fun b ob e => k b ob (fun hm => ?_) (F.keep b ob e), F.above⟩, fun q hq => ?_⟩
  · rw [List.mem_singleton.mp hm, hr.2.2] at e; cases e
  · cases hq with
    | head => exact ⟨hr', hr.2⟩
    | tail _ hq => exact ⟨k _ _ (by simpa using hrest q hq) (N q (.tail _ hq)).1, (N q (.tail _ hq)).2⟩
theorem news_add {g h h' : Heap} {L D : Addr} {m : Str → Option Value} {o : Obj} {news : List (Addr × Obj)} (F : Fr g L h m) (hD : h.get? D = none) (hD' : h'.get? D = some o) (N' : News g L h' news) : News g L h' ((D, o) :: news) := by
  intro q hq
  cases hq with
  | head =>
    refine ⟨hD', ?_, ?_⟩
    · rintro e
      dsimp only at e
      subst e
      obtain ⟨_, _, _, ho, _⟩ := F.ns
      rw [hD] at ho; cases ho
    · cases e : g.get? D with
      | none => rfl
      | some o => rw [F.keep _ _ e] at hD; cases hD
  | tail _ hq => exact N' q hq
theorem fresh_news {g h : Heap} {L a : Addr} {m : Str → Option Value} (F : Fr g L h m) (ha : h.get? a = none) : a ≠ L ∧ g.get? a = none := by
  refine ⟨?_, ?_⟩
  · rintro rfl
    obtain ⟨_, _, _, ho, _⟩ := F.ns
    rw [ha] at ho; cases ho
  · cases e : g.get? a with
    | none => rfl
    | some o => rw [F.keep _ _ e] at ha; cases ha
theorem fr_outer {g h h' : Heap} {L : Addr} {m : Str → Option Value} {outer : List Env} {fs : List Addr} (hf : frs outer = L :: fs) (hg : ∀ a ∈ fs, g.get? a = none) (F : Fr g L h m) (K : OuterK outer h h') : Fr g L h' m := by
  refine ⟨ns_slot F.ns fun o e => K.slot L o e, fun b o e => K.keep b o ?_ (F.keep b o e), F.above⟩
  rw [hf]
  intro hm
  cases hm with
  | head => exact absurd (Heap.lt_size e) (Nat.not_lt.mpr F.above)
  | tail _ hm => rw [hg b hm] at e; cases e
section
variable {prog : Program} {w : World} {A : Around} {env : Env} {s : Shared} {E : Value → Shared → Prop} {scope : Scope} {cl : List (Str × Addr)} {x y : Str} {c : Addr} {u : Value} {one : Er} {ds : List Value} {p : Value → Bool} {h : Heap} {p1 p2 p3 p4 p5 p6 p7 : Pos} {k1 k2 k3 : Nat}
theorem test_4 (hkind : scope.kind = .function) (hx : scope.names.lookup x = some .local) (hdx : (x == ("__debug__" : Str)) = false) (hp : ∀ v ∈ ds, ∃ e, DatAt h v e ∧ 0 ≤ e.code ∧ e.code ≤ 10000 ∧ p v = q4 e) :
    TestsOn prog w A env scope cl x (.Compare (.BinOp (.Subscript (.Name x p1) (.Constant (.int 1) k1 p2) p3) .FloorDiv (.Constant (.int 100) k2 p4) p5) [.Eq] [.Constant (.int 4) k3 p6] p7) ds p h := by
  intro C v s₃ m₃ E' hv hn hm hk
  obtain ⟨e, de, h0, h1, ep⟩ := hp v hv
  refine wpAny_isTrue_Compare1 (wpAny_BinOp (eval_code (load_it hkind hx hdx hn hm) (de.keeps hk) fun t => ?_))
  refine wpAny_Constant_int ?_
  refine floordiv_int (by decide) ?_
  refine wpAny_Constant_int ?_
  exact PySem.P.eq_int (wpAny_truthy_bool ⟨ep.symm, _, _, rfl, fun _ _ e => e⟩)
theorem test_ne (hu : A.units + 64 < cLine) (hkind : scope.kind = .function) (hx : scope.names.lookup x = some .local) (hdx : (x == ("__debug__" : Str)) = false) (hy : ∀ C, (compEnvC scope cl C env).kindOf y = some .cell) (hdy : (y == ("__debug__" : Str)) = false) (hc : cl.lookup y = some c)
    (hv : h.IsCell c (some u)) (du : DatAt h u one) (hp : ∀ v ∈ ds, ∃ e, DatAt h v e ∧ p v = !PyData.eqv e.dat one.dat) :
    TestsOn prog w A env scope cl x (.Compare (.Name x p1) [.NotEq] [.Name y p2] p3) ds p h := by
  intro C v s₃ m₃ E' hv' hn hm hk
  obtain ⟨e, de, ep⟩ := hp v hv'
  refine wpAny_isTrue_Compare1 (load_it hkind hx hdx hn hm _ (load_cell hkind (hy C) hdy hc (hv.keeps hk) _ ?_))
  obtain ⟨as, r1⟩ := (de.keeps hk).rd
  obtain ⟨bs, r2⟩ := (du.keeps hk).rd
  exact SeqAt.compareNe_shaped r1 r2 (shaped_dat _) (shaped_dat _) hu (wpAny_truthy_bool ⟨ep.symm, _, _, rfl, fun _ _ e => e⟩)
end
def AgainR (es es' : List Er) : Prop := es' = es ∨ ∃ (j : Nat) (a : Er), es[j]? = some a ∧ 400 ≤ a.code ∧ a.code ≤ 499 ∧ ∃ i, BR (es.take j ++ es.drop (j + 1)) (a.code + 100) 0 i ∧ es' = (es.take j ++ es.drop (j + 1)).take i ++ ⟨0, a.code + 100, a.ser⟩ :: (es.take j ++ es.drop (j + 1)).drop i
theorem again_spec {w : World} {A : Around} {s : Shared} {b₀ : Heap} {p loose mg mb} {r D L1 L2 : Addr} {es : List Er} {ev1 ev2 : Env} {ob1 ob2 : Obj} {de1 de2 : Array DictEntry} {pe1 pe2 : Nat} {Q E}
   (X : (Mine.tp.heap_39 w.params).In b₀) (T : TopRead p loose mg mb b₀) (hb : Keep b₀ s.heap) (hh : A.handled = none) (hdp : A.depth ≤ 340) (hun : A.units ≤ 340)
   (hfr : A.frames = some [ev2, ev1]) (f2 : ev2.frame = some L2) (f1 : ev1.frame = some L1) (km2 : ev2.scope.kind ≠ .module) (km1 : ev1.scope.kind ≠ .module)
   (hL2 : s.heap.get? L2 = some ob2) (dd2 : ob2.data = .dict de2 pe2) (n2 : b₀.get? L2 = none) (hL1 : s.heap.get? L1 = some ob1) (dd1 : ob1.data = .dict de1 pe1) (n1 : b₀.get? L1 = none)
   (hrb : b₀.get? r = none) (st : St w.params b₀ s.heap [r, L2, L1] r D es) (hs : SortedC es) (hd : Dist es) (hc : ∀ e ∈ es, 200 ≤ e.code ∧ e.code ≤ 600) (hlen : es.length ≤ 800)
   (hQ : ∀ h' tk D' es', KeepBut [r, L2, L1] s.heap h' → (∃ sl, h'.get? L2 = some { ob2 with slots := sl }) → (∃ sl, h'.get? L1 = some { ob1 with slots := sl }) → St w.params b₀ h' [r, L2, L1] r D' es' → AgainR es es' → Q (.ref D') { s with heap := h', toks := tk }) :
   wpAny (model Challenge.rw_nb0163_01.row.prog w) A (call (.ref 173) [.ref r, .ref D]) Q E s := by
  k_with_none
  k_with "call ref" => (refine held ?_)
  k_with "call builtin:len" => (refine held ?_)
  k_with "call builtin:list.pop" => (refine held ?_)
  k_with "exec Assign" => ((with_reducible show wpAny _ _ (exec (Stmt.Assign _ (Expr.ListComp _ _ _ _) _) _) _ _ _); (refine held ?_))
  k_with "eval ListComp" => (refine held ?_)
  k_with "exec Assign cons ListComp" => (refine held ?_)
  revert X; k_fill; intro X
  obtain ⟨⟨vs, nv, hr, hvs⟩, ⟨ds, nd, hD, hds⟩, hne⟩ := st
  have hn : ∀ q ∈ ([(r, lstO vs nv), (L2, ob2), (L1, ob1)] : List (Addr × Obj)), s.heap.get? q.1 = some q.2 ∧ b₀.get? q.1 = none := by
    intro q hq; simp only [List.mem_cons, List.not_mem_nil, or_false] at hq; rcases hq with rfl | rfl | rfl <;> exact ⟨by assumption, by assumption⟩
  have hD2 : D ≠ L2 := by rintro rfl; rw [hD] at hL2; cases hL2; cases dd2
  have hD1 : D ≠ L1 := by rintro rfl; rw [hD] at hL1; cases hL1; cases dd1
  have hr2 : r ≠ L2 := by rintro rfl; rw [hr] at hL2; cases hL2; cases dd2
  have hr1 : r ≠ L1 := by rintro rfl; rw [hr] at hL1; cases hL1; cases dd1
  refine wpAny_call ?_
  refine' enterC (binds := [(Str.ofString "row", .ref r), (Str.ofString "due", .ref D)]) [(r, lstO vs nv), (L2, ob2), (L1, ob1)] [] X T hb hn (fun _ h => nomatch h) (by omega) ?k6 ?k7 ?k8 ?kB ?kD ?_ ?c2 ?c3 ?c4
  case k6 => k_is
  case k7 => k_is
  case k8 => exact BindsTo.of_eq rfl
  case kB => exact rfl
  case kD => decide +kernel
  case c2 => exact rfl
  case c3 => exact rfl
  case c4 => exact rfl
  intro g L' h' tk' cells' eg eL hk X' T' F' N' Y'
  obtain ⟨o₁, hE, d1'⟩ := CellsAre.one Y'
  subst hE
  try simp only [List.cons_append, List.nil_append] at N'
  try dsimp only
  try k_fold
  have eg' : g = hideAll s.heap [r, L2, L1] := eg
  have gD : g.get? D = some (lstO ds nd) := eg' ▸ hideAll_get _ hD (by simp [hne, hD2, hD1])
  have gds : All2 (DatAt g) ds es := eg' ▸ hds.hide (notup_list hr (notup_dict hL2 dd2 (notup_dict hL1 dd1 notup_nil)))
  have gvs : All2 (ErrAt w.params b₀ g) vs es := eg' ▸ hvs
  have gb : Keep b₀ g := eg' ▸ keep_hide hb fun a ha => by
    simp only [List.mem_cons, List.not_mem_nil, or_false] at ha
    rcases ha with rfl | rfl | rfl <;> assumption
  have hlds := hds.len
  have hlvs := hvs.len
  have hc200 : ∀ e ∈ es, 200 ≤ e.code := fun e he => (hc e he).1
  have F1 := fr_all F' [(Str.ofString "row", .ref r), (Str.ofString "due", .ref D)] (by
    intro q hq; simp only [List.mem_cons, List.not_mem_nil, or_false] at hq; rcases hq with rfl | rfl <;> rfl)
  clear F'
  have d1 : o₁.data = .cell none := d1'
  clear d1'
  k_steps
  refine unheld ?_
  rename Fr _ _ _ _ => F
  rename News _ _ _ _ => N
  refine bl_two X T (fun b o e => F.keep b o (gb b o e)) hh (show _ + 1 ≤ 370 from up hdp (by decide)) (show _ + 3 ≤ 370 from up hun (by decide)) (N (r, lstO vs nv) (by k_mem)).1 (.of (gvs.errKeeps F.keep)) hs hc200 (by omega) ?_
  intro h₂ tk₂ t₂ i₁ k₂ hi₁
  have F2 := F.keeps k₂
  have N2 := N.grown k₂
  clear F N
  k_steps
  refine unheld ?_
  rename Fr _ _ _ _ => F
  rename News _ _ _ _ => N
  refine br_two X T (fun b o e => F.keep b o (gb b o e)) hh (show _ + 1 ≤ 370 from up hdp (by decide)) (show _ + 3 ≤ 370 from up hun (by decide)) (N (r, lstO vs nv) (by k_mem)).1 (.of (gvs.errKeeps F.keep)) hs hc200 (by omega) ?_
  intro h₃ tk₃ t₃ i₂ k₃ hi₂
  have F3 := F.keeps k₃
  have N3 := N.grown k₃
  clear F N
  k_steps
  refine unheld ?_
  rename Fr _ _ _ _ => F
  rename News _ _ _ _ => N
  refine filt_assign' (D := D) (ds := ds) (nd := nd) (pv g q4) F N rfl rfl rfl (by decide) rfl (by decide) rfl rfl rfl rfl hh (ldLoc F rfl ⟨rfl, rfl⟩) (F.keep _ _ gD) (by omega)
    (test_4 rfl rfl rfl fun v hv => ?_) ?_
  · obtain ⟨e, he, de⟩ := gds.mem hv
    exact ⟨e, de.keeps F.keep, by have := hc e he; omega, by have := hc e he; omega, pv_eq de⟩
  intro h₄ tk₄ M₄ n₄ hM₄ F4 N4
  clear F N
  k_steps
  refine unheld ?_
  rename Fr _ _ _ _ => F
  rename News _ _ _ _ => N
  have gls : All2 (DatAt g) (ds.filter (pv g q4)) (es.filter q4) := gds.filter _ _ fun v e d => pv_eq d
  have hll := gls.len
  have hcount := late_len hi₁ hi₂
  have hM := (N (M₄, lstO (ds.filter (pv g q4)) n₄) (by k_mem)).1
  refine len_list ⟨_, hM, rfl, n₄, rfl⟩ (by have := List.length_filter_le (pv g q4) ds; rw [List.size_toArray]; omega) ?_
  rw [show ((ds.filter (pv g q4)).toArray.size : Int) = (i₂ : Int) - (i₁ : Int) by have := (late_win hi₁ hi₂).1; simp only [List.size_toArray, hll]; omega]
  k_steps
  · exfalso; omega
  have hrL : @LT.lt Nat _ r L' := by rw [eL]; exact Heap.lt_size hr
  have h2L : @LT.lt Nat _ L2 L' := by rw [eL]; exact Heap.lt_size hL2
  have h1L : @LT.lt Nat _ L1 L' := by rw [eL]; exact Heap.lt_size hL1
  rename Fr _ _ _ _ => F
  rename News _ _ _ _ => N
  obtain ⟨as₄, hrd₄⟩ := dues_reads (gls.datKeeps F.keep)
  refine SeqAt.compareEq_shaped (Reads.list (N (M₄, lstO (ds.filter (pv g q4)) n₄) (by k_mem)).1 rfl rfl hrd₄) (Reads.list (N _ (.head _)).1 rfl rfl .nil) (shaped_dues _) rfl (by show _ + _ + 64 < 9900; omega) ?_
  rw [eqv_nil]
  cases hlt : es.filter q4 with
  | nil =>
    rw [List.map_nil, List.isEmpty_nil]
    k_steps
    rename Fr _ _ _ _ => F
    rename News _ _ _ _ => N
    exact hQ _ _ D es (keepbut_end eg' F) ⟨_, (N (L2, ob2) (by k_mem)).1⟩ ⟨_, (N (L1, ob1) (by k_mem)).1⟩ ⟨⟨vs, nv, (N (r, lstO vs nv) (by k_mem)).1, hvs.errKeeps (hide_keep (keepbut_end eg' F))⟩, ⟨ds, nd, F.keep _ _ gD, gds.datKeeps F.keep⟩, hne⟩ (.inl rfl)
  | cons a ar =>
    rw [List.map_cons, List.isEmpty_cons]
    have hia := late_head hi₁ hi₂ hlt
    have ha4 : q4 a = true := by
      have : a ∈ es.filter q4 := by rw [hlt]; exact .head _
      exact (List.mem_filter.mp this).2
    rw [q4_iff] at ha4
    k_steps
    rename Fr _ _ _ _ => F
    rename News _ _ _ _ => N
    have hM := (N (M₄, lstO (ds.filter (pv g q4)) n₄) (by k_mem)).1
    have hlM : Heap.IsList _ M₄ (ds.filter (pv g q4)).toArray := ⟨_, hM, rfl, n₄, rfl⟩
    rw [hlt] at gls
    obtain ⟨d, dr, hdr⟩ : ∃ d dr, ds.filter (pv g q4) = d :: dr := by
      cases hq : ds.filter (pv g q4) with
      | nil => rw [hq] at gls; cases gls
      | cons d dr => exact ⟨d, dr, rfl⟩
    have da : DatAt g d a := by rw [hdr] at gls; cases gls; assumption
    have hN : News g L' _ [(L' + 1, o₁), (r, lstO vs nv), (L2, ob2), (L1, ob1)] := fun q hq => N q (by
      simp only [List.mem_cons, List.not_mem_nil, or_false] at hq
      rcases hq with rfl | rfl | rfl | rfl <;> k_mem)
    refine tail_any hlM.typeIs slot_list_getitem.lookup (wpAny_getItem_list (x := d) hlM (Int.le_refl 0) (by decide) (by rw [hdr]; rfl) ?_) (by with_unfolding_all rfl)
    clear N hM hlM
    k_steps
    refine unheld ?_
    rename Fr _ _ _ _ => F
    rename News _ _ _ _ => N
    rename Obj => oc
    rename _ = Data.cell (some d) => dc
    obtain ⟨v, hvv⟩ : ∃ v, vs[i₁]? = some v := by
      obtain ⟨hi9, _⟩ := List.getElem?_eq_some_iff.mp hia
      exact ⟨vs[i₁]'(by omega), by simp⟩
    have hN : News g L' _ [(r, lstO vs nv), (L' + 1, oc), (L2, ob2), (L1, ob1)] := fun q hq => N q (by
      simp only [List.mem_cons, List.not_mem_nil, or_false] at hq
      rcases hq with rfl | rfl | rfl | rfl <;> k_mem)
    clear N
    refine pop_at F hN (by intro q hq; simp only [List.mem_cons, List.not_mem_nil, or_false] at hq; rcases hq with rfl | rfl | rfl <;> first | exact Ne.symm hr2 | exact Ne.symm hr1 | (refine neN ?_; dsimp only; omega)) hvv (by omega) ?_
    intro h₅ F5 N5
    clear F hN
    k_steps
    refine unheld ?_
    rename Fr _ _ _ _ => F
    rename News _ _ _ _ => N
    refine shown_spec X T (fun b o e => F.keep b o (gb b o e)) hh (show _ + 1 ≤ 390 from up hdp (by decide)) (show _ + 3 ≤ 390 from up hun (by decide)) ((gvs.at_ i₁ v a hvv hia).keeps F.keep) ?_
    intro h₆ tk₆ v₆ k₆ hv₆
    have F6 := F.keeps k₆
    have N6 := N.grown k₆
    clear F N
    k_steps
    obtain ⟨a₆, r₆⟩ := hv₆
    rename Fr _ _ _ _ => F
    rename News _ _ _ _ => N
    obtain ⟨a₇, r₇⟩ := (da.keeps F.keep).rd
    refine SeqAt.compareNe_shaped r₆ r₇ (shaped_dat a) (shaped_dat a) (by show _ + _ + 64 < 9900; omega) ?_
    rw [eqv_dat.mpr rfl, Bool.not_true]
    k_steps
    rename Fr _ _ _ _ => F
    refine dat_code (da.keeps F.keep) fun t₇ => ?_
    k_steps
    rename Fr _ _ _ _ => F
    refine dat_ser (da.keeps F.keep) fun t₈ => ?_
    k_steps
    refine unheld ?_
    rename News _ _ _ _ => N
    have hLb : b₀.get? L' = none := by
      cases e : b₀.get? L' with
      | none => rfl
      | some o => rw [eL] at e; exact absurd (Heap.lt_size (hb _ _ e)) (Nat.lt_irrefl _)
    refine caught_fp X T (fun b o e => F.keep b o (gb b o e)) hh (show _ + 1 ≤ 380 from up hdp (by decide)) (show _ + 3 ≤ 380 from up hun (by decide)) (Around.frames_deeper hfr)
      (.cons (show ScopeKind.function ≠ ScopeKind.module by decide) rfl F.ns hLb ⟨km2, ⟨L2, ob2, f2, n2, (N (L2, ob2) (by k_mem)).1, fun us e => by rw [dd2] at e; cases e⟩, km1, ⟨L1, ob1, f1, n1, (N (L1, ob1) (by k_mem)).1, fun us e => by rw [dd1] at e; cases e⟩, trivial⟩) (.inl rfl) ?_
    intro h₇ tk₇ x fp K hfp hex
    have F7 := fr_outer (fs := [L2, L1]) (by simp [frs, f1, f2, envOfC]) (by
      intro b hb9
      simp only [List.mem_cons, List.not_mem_nil, or_false] at hb9
      rcases hb9 with rfl | rfl
      · exact (N (b, ob2) (by k_mem)).2.2
      · exact (N (b, ob1) (by k_mem)).2.2) F K
    obtain ⟨sl2, hsl2⟩ := K.slot L2 ob2 (N (L2, ob2) (by k_mem)).1
    obtain ⟨sl1, hsl1⟩ := K.slot L1 ob1 (N (L1, ob1) (by k_mem)).1
    have hK : ∀ b o, b ≠ L' → b ≠ L2 → b ≠ L1 → h₆.get? b = some o → h₇.get? b = some o := fun b o c1 c2 c3 e => K.keep b o (by simp [frs, f1, f2, envOfC, c1, c2, c3]) e
    have hrow := N _ (.head _)
    have hcel := N _ (.tail _ (.head _))
    have hfpr : ∀ q ∈ fp, q.1 ≠ r ∧ q.1 ≠ L2 ∧ q.1 ≠ L1 := fun q hq => by
      have hq0 := (hfp q hq).2
      refine ⟨?_, ?_, ?_⟩ <;> intro e9
      · rw [e9, hrow.1] at hq0; cases hq0
      · rw [e9, (N (L2, ob2) (by k_mem)).1] at hq0; cases hq0
      · rw [e9, (N (L1, ob1) (by k_mem)).1] at hq0; cases hq0
    have N7 : News g L' h₇ ((r, lstO (vs.take i₁ ++ vs.drop (i₁ + 1)) (nv + 1)) :: (L' + 1, oc) :: (L2, { ob2 with slots := sl2 }) :: (L1, { ob1 with slots := sl1 }) :: fp) := by
      intro q hq
      cases hq with
      | head => exact ⟨hK _ _ hrow.2.1 hr2 hr1 hrow.1, hrow.2⟩
      | tail _ hq => cases hq with
        | head => exact ⟨hK _ _ hcel.2.1 (by refine neN ?_; dsimp only; omega) (by refine neN ?_; dsimp only; omega) hcel.1, hcel.2⟩
        | tail _ hq => cases hq with
          | head => exact ⟨hsl2, (N (L2, ob2) (by k_mem)).2⟩
          | tail _ hq => cases hq with
            | head => exact ⟨hsl1, (N (L1, ob1) (by k_mem)).2⟩
            | tail _ hq => exact ⟨(hfp q hq).1, fresh_news F (hfp q hq).2⟩
    clear F N
    have hc1 : ∀ e ∈ es.take i₁ ++ es.drop (i₁ + 1), 200 ≤ e.code := fun e he => hc200 e (mem_rm he)
    have hl1 : (es.take i₁ ++ es.drop (i₁ + 1)).length ≤ es.length := by simp only [List.length_append, List.length_take, List.length_drop]; omega
    k_steps
    refine unheld ?_
    rename Fr _ _ _ _ => F
    rename News _ _ _ _ => N
    refine insr_spec X T (fun b o e => F.keep b o (gb b o e)) hh (show _ + 1 ≤ 360 from up hdp (by decide)) (show _ + 3 ≤ 360 from up hun (by decide)) (N _ (.head _)).1 hrb (.of (((gvs.take i₁).append (gvs.drop (i₁ + 1))).errKeeps F.keep))
      (hex _ fun q hq => (N q (.tail _ (.tail _ (.tail _ (.tail _ hq))))).1) (sorted_rm hs _) hc1 (by show 200 ≤ a.code + 100; omega) (by omega) ?_
    intro h₈ tk₈ i₃ n₈ k₈ hr₈ hi₃
    obtain ⟨F8, N8⟩ := after_ins F N (by
      intro q hq
      cases hq with
      | head => refine neN ?_; dsimp only; omega
      | tail _ hq => cases hq with
        | head => exact Ne.symm hr2
        | tail _ hq => cases hq with
          | head => exact Ne.symm hr1
          | tail _ hq => exact (hfpr q hq).1) k₈ hr₈
    clear F N
    k_steps
    refine unheld ?_
    rename Fr _ _ _ _ => F
    rename News _ _ _ _ => N
    refine filt_expr (D := D) (ds := ds) (nd := nd) (pv g fun e => !PyData.eqv e.dat a.dat) (cl := [(Str.ofString "again", L' + 1)]) rfl (by decide) rfl (by decide) rfl rfl hh (ldLoc F rfl ⟨rfl, rfl⟩) (F.keep _ _ gD) (by omega)
      (test_ne (by show _ + _ + 64 < 9900; omega) rfl rfl rfl (fun _ => rfl) rfl rfl ⟨_, (N (L' + 1, oc) (by k_mem)).1, dc⟩ (da.keeps F.keep) fun v hv => ?_) ?_
    · obtain ⟨e, _, de⟩ := gds.mem hv
      exact ⟨e, de.keeps F.keep, pv_eq de⟩
    intro h₉ tk₉ M₉ n₉ hM₉ hM₉' k₉
    have F9 := F.keeps k₉
    have N9 := news_add F hM₉ hM₉' (N.grown k₉)
    clear F N
    k_steps
    rename Fr _ _ _ _ => F
    refine dat_code (da.keeps F.keep) fun t₉ => ?_
    k_steps
    rename Fr _ _ _ _ => F
    refine dat_ser (da.keeps F.keep) fun t₁₀ => ?_
    k_steps
    refine unheld ?_
    rename Fr _ _ _ _ => F
    rename News _ _ _ _ => N
    have hrm := rm_one hd hia (fun e => !PyData.eqv e.dat a.dat) (fun e => by rw [Bool.not_eq_true', ← Bool.not_eq_true, eqv_dat])
    have g9 : All2 (DatAt g) (ds.filter (pv g fun e => !PyData.eqv e.dat a.dat)) (es.take i₁ ++ es.drop (i₁ + 1)) := hrm ▸ gds.filter _ _ fun v e d => pv_eq d
    have hr0 := (N (r, lstO ((vs.take i₁ ++ vs.drop (i₁ + 1)).take i₃ ++ .ref x :: (vs.take i₁ ++ vs.drop (i₁ + 1)).drop i₃) n₈) (by k_mem)).1
    refine laid_spec (one := ⟨0, a.code + 100, a.ser⟩) X T (fun b o e => F.keep b o (gb b o e)) hh (show _ + 1 ≤ 360 from up hdp (by decide)) (show _ + 3 ≤ 360 from up hun (by decide)) (N (M₉, lstO (ds.filter (pv g fun e => !PyData.eqv e.dat a.dat)) n₉) (by k_mem)).1 (g9.datKeeps F.keep) ⟨_, _, _, _, _, _, _, rfl, (N _ (.head _)).1, rfl, rfl, _, .none⟩ (by omega) ?_
    intro h₁₁ tk₁₁ D₁₁ ds₁₁ n₁₁ k₁₁ hD₁₁ hD₁₁' hds₁₁
    have F11 := F.keeps k₁₁
    have N11 := N.grown k₁₁
    clear F N
    k_steps
    rename Fr _ _ _ _ => F
    rename News _ _ _ _ => N
    have kb := keepbut_end eg' F
    have avs := ((hvs.take i₁).append (hvs.drop (i₁ + 1))).errKeeps (hide_keep kb)
    rw [← ins_right (sorted_rm hs i₁) hi₃] at hds₁₁
    refine hQ _ _ D₁₁ _ kb ⟨sl2, (N (L2, { ob2 with slots := sl2 }) (by k_mem)).1⟩ ⟨sl1, (N (L1, { ob1 with slots := sl1 }) (by k_mem)).1⟩
      ⟨⟨_, n₈, (N (r, lstO ((vs.take i₁ ++ vs.drop (i₁ + 1)).take i₃ ++ .ref x :: (vs.take i₁ ++ vs.drop (i₁ + 1)).drop i₃) n₈) (by k_mem)).1, (avs.take i₃).append (.cons (hex _ fun q hq => ?_) (avs.drop i₃))⟩, ⟨ds₁₁, n₁₁, hD₁₁', hds₁₁⟩, ?_⟩ (.inr ⟨i₁, a, hia, ha4.1, ha4.2, i₃, hi₃, rfl⟩)
    · refine hideAll_get _ (N q (.tail _ (.tail _ (.tail _ (.tail _ (.tail _ (.tail _ hq))))))).1 ?_
      have := hfpr q hq
      simp [this.1, this.2.1, this.2.2]
    · rintro rfl
      rw [hr0] at hD₁₁; cases hD₁₁
structure Ok (es : List Er) (k : Nat) : Prop where
  sorted : SortedC es
  dist : Dist es
  codes : ∀ e ∈ es, 200 ≤ e.code ∧ e.code ≤ 600
  sers : ∀ e ∈ es, e.ser ≤ (k : Int)
  len : es.length ≤ k
theorem Ok.up {es : List Er} {k : Nat} (ok : Ok es k) : Ok es (k + 1) := ⟨ok.sorted, ok.dist, ok.codes, fun e he => by have := ok.sers e he; omega, by have := ok.len; omega⟩
theorem Ok.rm {es : List Er} {k : Nat} (ok : Ok es k) (j : Nat) : Ok (es.take j ++ es.drop (j + 1)) k :=
  ⟨sorted_rm ok.sorted j, dist_rm ok.dist j, fun e he => ok.codes e (mem_rm he), fun e he => ok.sers e (mem_rm he), by have := ok.len; simp only [List.length_append, List.length_take, List.length_drop]; omega⟩
theorem Ok.insR {es : List Er} {k j : Nat} {one : Er} (ok : Ok es k) (b : BR es one.code 0 j) (hc : 200 ≤ one.code ∧ one.code ≤ 600) (hs : one.ser ≤ ((k + 1 : Nat) : Int)) (hn : ∀ e ∈ es, e.ser ≠ one.ser) : Ok (es.take j ++ one :: es.drop j) (k + 1) :=
  ⟨sorted_ins_right ok.sorted b, dist_ins ok.dist hn, fun e he => (mem_ins.mp he).elim (fun q => q ▸ hc) (ok.codes e), fun e he => (mem_ins.mp he).elim (fun q => q ▸ hs) (fun q => by have := ok.sers e q; omega), by have := ok.len; simp only [List.length_append, List.length_cons, List.length_take, List.length_drop]; omega⟩
theorem Ok.insL {es : List Er} {k j : Nat} {one : Er} (ok : Ok es k) (b : BL es one.code 0 j) (hc : 200 ≤ one.code ∧ one.code ≤ 600) (hs : one.ser ≤ ((k + 1 : Nat) : Int)) (hn : ∀ e ∈ es, e.ser ≠ one.ser) : Ok (es.take j ++ one :: es.drop j) (k + 1) :=
  ⟨sorted_ins_left ok.sorted b, dist_ins ok.dist hn, fun e he => (mem_ins.mp he).elim (fun q => q ▸ hc) (ok.codes e), fun e he => (mem_ins.mp he).elim (fun q => q ▸ hs) (fun q => by have := ok.sers e q; omega), by have := ok.len; simp only [List.length_append, List.length_cons, List.length_take, List.length_drop]; omega⟩
theorem Ok.again {es es' : List Er} {k : Nat} (ok : Ok es k) (h : AgainR es es') : Ok es' (k + 1) := by
  rcases h with rfl | ⟨j, a, ha, h1, h2, i, hi, rfl⟩
  · exact ok.up
  · have hm : a ∈ es := List.mem_of_getElem? ha
    refine (ok.rm j).insR hi (by show 200 ≤ a.code + 100 ∧ a.code + 100 ≤ 600; omega) (by have := ok.sers a hm; show a.ser ≤ _; omega) fun e he => ?_
    have e0 := split_at ha
    have hd := ok.dist
    unfold Dist at hd
    rw [e0, List.map_append, List.map_cons, List.nodup_append] at hd
    obtain ⟨g1, g2, g3⟩ := hd
    rcases List.mem_append.mp he with he | he
    · exact g3 _ (List.mem_map_of_mem he) _ (.head _)
    · exact fun q => (List.nodup_cons.mp g2).1 (q ▸ List.mem_map_of_mem he)
theorem news_outer {g h h' : Heap} {L r L1 : Addr} {m : Str → Option Value} {o ob1 : Obj} {outer : List Env} {fp : List (Addr × Obj)} (hf : frs outer = [L, L1]) (hr1 : r ≠ L1) (F : Fr g L h m) (N : News g L h [(r, o), (L1, ob1)]) (K : OuterK outer h h')
    (hfp : ∀ q ∈ fp, h'.get? q.1 = some q.2 ∧ h.get? q.1 = none) : Fr g L h' m ∧ ∃ sl, News g L h' ((r, o) :: (L1, { ob1 with slots := sl }) :: fp) ∧ ∀ q ∈ fp, q.1 ≠ r ∧ q.1 ≠ L1 := by
  have hrow := N _ (.head _)
  have hl1 := N _ (.tail _ (.head _))
  refine ⟨fr_outer hf (by intro b hb; cases List.mem_singleton.mp hb; exact hl1.2.2) F K, ?_⟩
  obtain ⟨sl, hsl⟩ := K.slot L1 ob1 hl1.1
  refine ⟨sl, fun q hq => ?_, fun q hq => ?_⟩
  · cases hq with
    | head => exact ⟨K.keep _ _ (by rw [hf]; simp [hr1]; exact hrow.2.1) hrow.1, hrow.2⟩
    | tail _ hq => cases hq with
      | head => exact ⟨hsl, hl1.2⟩
      | tail _ hq => exact ⟨(hfp q hq).1, fresh_news F (hfp q hq).2⟩
  · have hq0 := (hfp q hq).2
    refine ⟨?_, ?_⟩ <;> intro e9
    · rw [e9, hrow.1] at hq0; cases hq0
    · rw [e9, hl1.1] at hq0; cases hq0
def Mark : Prop := True
theorem step_spec {w : World} {A : Around} {s : Shared} {b₀ : Heap} {p loose mg mb} {r D L1 : Addr} {es : List Er} {ev1 : Env} {ob1 : Obj} {de1 : Array DictEntry} {pe1 : Nat} {num : Int} {k tn ts : Nat} {Q E}
   (X : (Mine.tp.heap_39 w.params).In b₀) (T : TopRead p loose mg mb b₀) (hb : Keep b₀ s.heap) (hh : A.handled = none) (hdp : A.depth ≤ 330) (hun : A.units ≤ 330)
   (hfr : A.frames = some [ev1]) (f1 : ev1.frame = some L1) (km1 : ev1.scope.kind ≠ .module)
   (hL1 : s.heap.get? L1 = some ob1) (dd1 : ob1.data = .dict de1 pe1) (n1 : b₀.get? L1 = none)
   (hrb : b₀.get? r = none) (st : St w.params b₀ s.heap [r, L1] r D es) (ok : Ok es k) (hk9 : k ≤ 700)
   (hQ : ∀ h' tk D' es', KeepBut [r, L1] s.heap h' → (∃ sl, h'.get? L1 = some { ob1 with slots := sl }) → St w.params b₀ h' [r, L1] r D' es' → Ok es' (k + 1) → Q (.ref D') { s with heap := h', toks := tk }) :
   wpAny (model Challenge.rw_nb0163_01.row.prog w) A (call (.ref 185) [.ref r, .ref D, .int num tn, .int ((k : Int) + 1) ts]) Q E s := by
  k_with_none
  k_with "call ref" => (refine held ?_)
  k_with "call builtin:len" => (refine held ?_)
  k_with "exec If" => ((rename Mark => mk9); (clear mk9); (refine held ?_))
  revert X; k_fill; intro X
  obtain ⟨⟨vs, nv, hr, hvs⟩, ⟨ds, nd, hD, hds⟩, hne⟩ := st
  have hn : ∀ q ∈ ([(r, lstO vs nv), (L1, ob1)] : List (Addr × Obj)), s.heap.get? q.1 = some q.2 ∧ b₀.get? q.1 = none := by
    intro q hq; simp only [List.mem_cons, List.not_mem_nil, or_false] at hq; rcases hq with rfl | rfl <;> exact ⟨by assumption, by assumption⟩
  have hD1 : D ≠ L1 := by rintro rfl; rw [hD] at hL1; cases hL1; cases dd1
  have hr1 : r ≠ L1 := by rintro rfl; rw [hr] at hL1; cases hL1; cases dd1
  refine wpAny_call ?_
  refine' enter (binds := [(Str.ofString "row", .ref r), (Str.ofString "due", .ref D), (Str.ofString "number", .int num tn), (Str.ofString "serial", .int ((k : Int) + 1) ts)]) [(r, lstO vs nv), (L1, ob1)] X T hb hn (by omega) ?k6 ?k7 ?k8 ?kB ?_ ?c2 ?c3 ?c4 ?c5
  case k6 => k_is
  case k7 => k_is
  case k8 => exact BindsTo.of_eq rfl
  case c5 => decide
  case kB => exact locs rfl
  case c2 => exact rfl
  case c3 => exact rfl
  case c4 => exact rfl
  intro g L' h' eg eL hk X' T' F' N'
  change Fr g L' h' (fun y => List.lookup y [(Str.ofString "serial", .int ((k : Int) + 1) ts), (Str.ofString "number", .int num tn), (Str.ofString "due", .ref D), (Str.ofString "row", .ref r)]) at F'
  try dsimp only
  try k_fold
  have eg' : g = hideAll s.heap [r, L1] := eg
  have gD : g.get? D = some (lstO ds nd) := eg' ▸ hideAll_get _ hD (by simp [hne, hD1])
  have gds : All2 (DatAt g) ds es := eg' ▸ hds.hide (notup_list hr (notup_dict hL1 dd1 notup_nil))
  have gvs : All2 (ErrAt w.params b₀ g) vs es := eg' ▸ hvs
  have gb : Keep b₀ g := eg' ▸ keep_hide hb fun a ha => by
    simp only [List.mem_cons, List.not_mem_nil, or_false] at ha
    rcases ha with rfl | rfl <;> assumption
  have hlds := hds.len
  have hlvs := hvs.len
  have hlk := ok.len
  have hc200 : ∀ e ∈ es, 200 ≤ e.code := fun e he => (ok.codes e he).1
  have hLb : b₀.get? L' = none := by
    cases e : b₀.get? L' with
    | none => rfl
    | some o => rw [eL] at e; exact absurd (Heap.lt_size (hb _ _ e)) (Nat.lt_irrefl _)
  have hsn : ∀ e ∈ es, e.ser ≠ (k : Int) + 1 := fun e he => by have := ok.sers e he; omega
  have hrL : @LT.lt Nat _ r L' := by rw [eL]; exact Heap.lt_size hr
  have h1L : @LT.lt Nat _ L1 L' := by rw [eL]; exact Heap.lt_size hL1
  have gS : g.get? r = none ∧ g.get? L1 = none := ⟨eg' ▸ hideAll_none _ (by simp), eg' ▸ hideAll_none _ (by simp)⟩
  have mk : Mark := trivial
  k_steps
  refine unheld ?_
  rename Fr _ _ _ _ => F
  rename News _ _ _ _ => N
  obtain ⟨m, Fm, ⟨t1, hm1⟩, ⟨t2, hm2⟩, hm3, hm4, hm5, hm6⟩ : ∃ m, Fr g L' _ m ∧ (∃ t, m (Str.ofString "kind") = some (.int (num.fmod 6) t)) ∧ (∃ t, m (Str.ofString "code") = some (.int (200 + (num.fdiv 6 * 37).fmod 400) t)) ∧ m (Str.ofString "row") = some (.ref r) ∧ m (Str.ofString "due") = some (.ref D) ∧ m (Str.ofString "number") = some (.int num tn) ∧ m (Str.ofString "serial") = some (.int ((k : Int) + 1) ts) :=
    ⟨_, F, ⟨_, rfl⟩, ⟨_, rfl⟩, rfl, rfl, rfl, rfl⟩
  clear F
  have hc0 : 0 ≤ (num.fdiv 6 * 37).fmod 400 ∧ (num.fdiv 6 * 37).fmod 400 < 400 := ⟨Int.fmod_nonneg_of_pos _ (by omega), Int.fmod_lt_of_pos _ (by omega)⟩
  have hk0 : 0 ≤ num.fmod 6 ∧ num.fmod 6 < 6 := ⟨Int.fmod_nonneg_of_pos _ (by omega), Int.fmod_lt_of_pos _ (by omega)⟩
  generalize hcd : 200 + (num.fdiv 6 * 37).fmod 400 = code at hm2
  have hcode : 200 ≤ code ∧ code ≤ 600 := by omega
  generalize hkd : num.fmod 6 = kind at hm1 hk0
  have F1 := fr_all Fm [(Str.ofString "row", .ref r), (Str.ofString "due", .ref D), (Str.ofString "number", .int num tn), (Str.ofString "serial", .int ((k : Int) + 1) ts), (Str.ofString "kind", .int kind t1), (Str.ofString "code", .int code t2)] (by
    intro q hq; simp only [List.mem_cons, List.not_mem_nil, or_false] at hq; rcases hq with rfl | rfl | rfl | rfl | rfl | rfl <;> assumption)
  clear Fm hm1 hm2 hm3 hm4 hm5 hm6
  have hkk : kind = 0 ∨ kind = 1 ∨ kind = 2 ∨ kind = 3 ∨ kind = 4 ∨ kind = 5 := by omega
  rcases hkk with rfl | rfl | rfl | rfl | rfl | rfl
  · k_steps
    refine unheld ?_
    rename Fr _ _ _ _ => F
    rename News _ _ _ _ => N
    refine caught_fp X T (fun b o e => F.keep b o (gb b o e)) hh (show _ + 1 ≤ 380 from up hdp (by decide)) (show _ + 3 ≤ 380 from up hun (by decide)) (Around.frames_deeper hfr)
      (.cons (show ScopeKind.function ≠ ScopeKind.module by decide) rfl F.ns hLb ⟨km1, ⟨L1, ob1, f1, n1, (N (L1, ob1) (by k_mem)).1, fun us e => by rw [dd1] at e; cases e⟩, trivial⟩) (by decide) ?_
    intro h₇ tk₇ x fp K hfp hex
    obtain ⟨F7, sl1, N7, hfpr⟩ := news_outer (by simp [frs, f1, envOf]) hr1 F N K hfp
    clear F N
    k_steps
    refine unheld ?_
    rename Fr _ _ _ _ => F
    rename News _ _ _ _ => N
    refine insr_spec X T (fun b o e => F.keep b o (gb b o e)) hh (show _ + 1 ≤ 360 from up hdp (by decide)) (show _ + 3 ≤ 360 from up hun (by decide)) (N _ (.head _)).1 hrb (.of (gvs.errKeeps F.keep))
      (hex _ fun q hq => (N q (.tail _ (.tail _ hq))).1) ok.sorted hc200 hcode.1 (by omega) ?_
    intro h₈ tk₈ i₃ n₈ k₈ hr₈ hi₃
    obtain ⟨F8, N8⟩ := after_ins F N (by
      intro q hq
      cases hq with
      | head => exact Ne.symm hr1
      | tail _ hq => exact (hfpr q hq).1) k₈ hr₈
    clear F N
    k_steps
    refine unheld ?_
    rename Fr _ _ _ _ => F
    rename News _ _ _ _ => N
    have hr0 := (N (r, lstO (vs.take i₃ ++ .ref x :: vs.drop i₃) n₈) (by k_mem)).1
    refine laid_spec (one := ⟨0, code, (k : Int) + 1⟩) X T (fun b o e => F.keep b o (gb b o e)) hh (show _ + 1 ≤ 360 from up hdp (by decide)) (show _ + 3 ≤ 360 from up hun (by decide)) (F.keep _ _ gD) (gds.datKeeps F.keep) ⟨_, _, _, _, _, _, _, rfl, (N _ (.head _)).1, rfl, rfl, _, .none⟩ (by omega) ?_
    intro h₁₁ tk₁₁ D₁₁ ds₁₁ n₁₁ k₁₁ hD₁₁ hD₁₁' hds₁₁
    have F11 := F.keeps k₁₁
    have N11 := N.grown k₁₁
    clear F N
    k_steps
    rename Fr _ _ _ _ => F
    rename News _ _ _ _ => N
    have kb := keepbut_end eg' F
    have avs := hvs.errKeeps (hide_keep kb)
    rw [← ins_right ok.sorted hi₃] at hds₁₁
    refine hQ _ _ D₁₁ _ kb ⟨sl1, (N (L1, { ob1 with slots := sl1 }) (by k_mem)).1⟩
      ⟨⟨_, n₈, (N (r, lstO (vs.take i₃ ++ .ref x :: vs.drop i₃) n₈) (by k_mem)).1, (avs.take i₃).append (.cons (hex _ fun q hq => ?_) (avs.drop i₃))⟩, ⟨ds₁₁, n₁₁, hD₁₁', hds₁₁⟩, ?_⟩ (ok.insR hi₃ hcode (by show (k : Int) + 1 ≤ _; omega) hsn)
    · refine hideAll_get _ (N q (.tail _ (.tail _ (.tail _ hq)))).1 ?_
      have := hfpr q hq
      simp [this.1, this.2]
    · rintro rfl
      rw [hr0] at hD₁₁; cases hD₁₁
  · k_steps
    refine unheld ?_
    rename Fr _ _ _ _ => F
    rename News _ _ _ _ => N
    refine caught_fp X T (fun b o e => F.keep b o (gb b o e)) hh (show _ + 1 ≤ 380 from up hdp (by decide)) (show _ + 3 ≤ 380 from up hun (by decide)) (Around.frames_deeper hfr)
      (.cons (show ScopeKind.function ≠ ScopeKind.module by decide) rfl F.ns hLb ⟨km1, ⟨L1, ob1, f1, n1, (N (L1, ob1) (by k_mem)).1, fun us e => by rw [dd1] at e; cases e⟩, trivial⟩) (by decide) ?_
    intro h₇ tk₇ x fp K hfp hex
    obtain ⟨F7, sl1, N7, hfpr⟩ := news_outer (by simp [frs, f1, envOf]) hr1 F N K hfp
    clear F N
    k_steps
    refine unheld ?_
    rename Fr _ _ _ _ => F
    rename News _ _ _ _ => N
    refine insl_spec X T (fun b o e => F.keep b o (gb b o e)) hh (show _ + 1 ≤ 360 from up hdp (by decide)) (show _ + 3 ≤ 360 from up hun (by decide)) (N _ (.head _)).1 hrb (.of (gvs.errKeeps F.keep))
      (hex _ fun q hq => (N q (.tail _ (.tail _ hq))).1) ok.sorted hc200 hcode.1 (by omega) ?_
    intro h₈ tk₈ i₃ n₈ k₈ hr₈ hi₃
    obtain ⟨F8, N8⟩ := after_ins F N (by
      intro q hq
      cases hq with
      | head => exact Ne.symm hr1
      | tail _ hq => exact (hfpr q hq).1) k₈ hr₈
    clear F N
    k_steps
    refine unheld ?_
    rename Fr _ _ _ _ => F
    rename News _ _ _ _ => N
    have hr0 := (N (r, lstO (vs.take i₃ ++ .ref x :: vs.drop i₃) n₈) (by k_mem)).1
    refine laid_spec (one := ⟨1, code, (k : Int) + 1⟩) X T (fun b o e => F.keep b o (gb b o e)) hh (show _ + 1 ≤ 360 from up hdp (by decide)) (show _ + 3 ≤ 360 from up hun (by decide)) (F.keep _ _ gD) (gds.datKeeps F.keep) ⟨_, _, _, _, _, _, _, rfl, (N _ (.head _)).1, rfl, rfl, _, .int _ _⟩ (by omega) ?_
    intro h₁₁ tk₁₁ D₁₁ ds₁₁ n₁₁ k₁₁ hD₁₁ hD₁₁' hds₁₁
    have F11 := F.keeps k₁₁
    have N11 := N.grown k₁₁
    clear F N
    k_steps
    rename Fr _ _ _ _ => F
    rename News _ _ _ _ => N
    have kb := keepbut_end eg' F
    have avs := hvs.errKeeps (hide_keep kb)
    rw [← ins_left ok.sorted hi₃] at hds₁₁
    refine hQ _ _ D₁₁ _ kb ⟨sl1, (N (L1, { ob1 with slots := sl1 }) (by k_mem)).1⟩
      ⟨⟨_, n₈, (N (r, lstO (vs.take i₃ ++ .ref x :: vs.drop i₃) n₈) (by k_mem)).1, (avs.take i₃).append (.cons (hex _ fun q hq => ?_) (avs.drop i₃))⟩, ⟨ds₁₁, n₁₁, hD₁₁', hds₁₁⟩, ?_⟩ (ok.insL hi₃ hcode (by show (k : Int) + 1 ≤ _; omega) hsn)
    · refine hideAll_get _ (N q (.tail _ (.tail _ (.tail _ hq)))).1 ?_
      have := hfpr q hq
      simp [this.1, this.2]
    · rintro rfl
      rw [hr0] at hD₁₁; cases hD₁₁
  · k_steps
    refine unheld ?_
    rename Fr _ _ _ _ => F
    rename News _ _ _ _ => N
    refine caught_fp X T (fun b o e => F.keep b o (gb b o e)) hh (show _ + 1 ≤ 380 from up hdp (by decide)) (show _ + 3 ≤ 380 from up hun (by decide)) (Around.frames_deeper hfr)
      (.cons (show ScopeKind.function ≠ ScopeKind.module by decide) rfl F.ns hLb ⟨km1, ⟨L1, ob1, f1, n1, (N (L1, ob1) (by k_mem)).1, fun us e => by rw [dd1] at e; cases e⟩, trivial⟩) (by decide) ?_
    intro h₇ tk₇ x fp K hfp hex
    obtain ⟨F7, sl1, N7, hfpr⟩ := news_outer (by simp [frs, f1, envOf]) hr1 F N K hfp
    clear F N
    k_steps
    refine unheld ?_
    rename Fr _ _ _ _ => F
    rename News _ _ _ _ => N
    refine insr_spec X T (fun b o e => F.keep b o (gb b o e)) hh (show _ + 1 ≤ 360 from up hdp (by decide)) (show _ + 3 ≤ 360 from up hun (by decide)) (N _ (.head _)).1 hrb (.of (gvs.errKeeps F.keep))
      (hex _ fun q hq => (N q (.tail _ (.tail _ hq))).1) ok.sorted hc200 hcode.1 (by omega) ?_
    intro h₈ tk₈ i₃ n₈ k₈ hr₈ hi₃
    obtain ⟨F8, N8⟩ := after_ins F N (by
      intro q hq
      cases hq with
      | head => exact Ne.symm hr1
      | tail _ hq => exact (hfpr q hq).1) k₈ hr₈
    clear F N
    k_steps
    refine unheld ?_
    rename Fr _ _ _ _ => F
    rename News _ _ _ _ => N
    have hr0 := (N (r, lstO (vs.take i₃ ++ .ref x :: vs.drop i₃) n₈) (by k_mem)).1
    refine laid_spec (one := ⟨2, code, (k : Int) + 1⟩) X T (fun b o e => F.keep b o (gb b o e)) hh (show _ + 1 ≤ 360 from up hdp (by decide)) (show _ + 3 ≤ 360 from up hun (by decide)) (F.keep _ _ gD) (gds.datKeeps F.keep) ⟨_, _, _, _, _, _, _, rfl, (N _ (.head _)).1, rfl, rfl, _, Reads.tuple (N _ (.tail _ (.head _))).1 rfl rfl (.cons (.int _ _) (.cons (.int _ _) .nil))⟩ (by omega) ?_
    intro h₁₁ tk₁₁ D₁₁ ds₁₁ n₁₁ k₁₁ hD₁₁ hD₁₁' hds₁₁
    have F11 := F.keeps k₁₁
    have N11 := N.grown k₁₁
    clear F N
    k_steps
    rename Fr _ _ _ _ => F
    rename News _ _ _ _ => N
    have kb := keepbut_end eg' F
    have avs := hvs.errKeeps (hide_keep kb)
    rw [← ins_right ok.sorted hi₃] at hds₁₁
    refine hQ _ _ D₁₁ _ kb ⟨sl1, (N (L1, { ob1 with slots := sl1 }) (by k_mem)).1⟩
      ⟨⟨_, n₈, (N (r, lstO (vs.take i₃ ++ .ref x :: vs.drop i₃) n₈) (by k_mem)).1, (avs.take i₃).append (.cons (hex _ fun q hq => ?_) (avs.drop i₃))⟩, ⟨ds₁₁, n₁₁, hD₁₁', hds₁₁⟩, ?_⟩ (ok.insR hi₃ hcode (by show (k : Int) + 1 ≤ _; omega) hsn)
    · refine hideAll_get _ (N q (.tail _ (.tail _ (.tail _ (.tail _ hq))))).1 ?_
      have := hfpr q hq
      simp [this.1, this.2]
    · rintro rfl
      rw [hr0] at hD₁₁; cases hD₁₁
  · k_steps
    refine unheld ?_
    rename Fr _ _ _ _ => F
    rename News _ _ _ _ => N
    refine caught_fp X T (fun b o e => F.keep b o (gb b o e)) hh (show _ + 1 ≤ 380 from up hdp (by decide)) (show _ + 3 ≤ 380 from up hun (by decide)) (Around.frames_deeper hfr)
      (.cons (show ScopeKind.function ≠ ScopeKind.module by decide) rfl F.ns hLb ⟨km1, ⟨L1, ob1, f1, n1, (N (L1, ob1) (by k_mem)).1, fun us e => by rw [dd1] at e; cases e⟩, trivial⟩) (by decide) ?_
    intro h₇ tk₇ x fp K hfp hex
    obtain ⟨F7, sl1, N7, hfpr⟩ := news_outer (by simp [frs, f1, envOf]) hr1 F N K hfp
    clear F N
    k_steps
    refine unheld ?_
    rename Fr _ _ _ _ => F
    rename News _ _ _ _ => N
    refine insl_spec X T (fun b o e => F.keep b o (gb b o e)) hh (show _ + 1 ≤ 360 from up hdp (by decide)) (show _ + 3 ≤ 360 from up hun (by decide)) (N _ (.head _)).1 hrb (.of (gvs.errKeeps F.keep))
      (hex _ fun q hq => (N q (.tail _ (.tail _ hq))).1) ok.sorted hc200 hcode.1 (by omega) ?_
    intro h₈ tk₈ i₃ n₈ k₈ hr₈ hi₃
    obtain ⟨F8, N8⟩ := after_ins F N (by
      intro q hq
      cases hq with
      | head => exact Ne.symm hr1
      | tail _ hq => exact (hfpr q hq).1) k₈ hr₈
    clear F N
    k_steps
    refine unheld ?_
    rename Fr _ _ _ _ => F
    rename News _ _ _ _ => N
    have hr0 := (N (r, lstO (vs.take i₃ ++ .ref x :: vs.drop i₃) n₈) (by k_mem)).1
    refine laid_spec (one := ⟨3, code, (k : Int) + 1⟩) X T (fun b o e => F.keep b o (gb b o e)) hh (show _ + 1 ≤ 360 from up hdp (by decide)) (show _ + 3 ≤ 360 from up hun (by decide)) (F.keep _ _ gD) (gds.datKeeps F.keep) ⟨_, _, _, _, _, _, _, rfl, (N _ (.head _)).1, rfl, rfl, _, .none⟩ (by omega) ?_
    intro h₁₁ tk₁₁ D₁₁ ds₁₁ n₁₁ k₁₁ hD₁₁ hD₁₁' hds₁₁
    have F11 := F.keeps k₁₁
    have N11 := N.grown k₁₁
    clear F N
    k_steps
    rename Fr _ _ _ _ => F
    rename News _ _ _ _ => N
    have kb := keepbut_end eg' F
    have avs := hvs.errKeeps (hide_keep kb)
    rw [← ins_left ok.sorted hi₃] at hds₁₁
    refine hQ _ _ D₁₁ _ kb ⟨sl1, (N (L1, { ob1 with slots := sl1 }) (by k_mem)).1⟩
      ⟨⟨_, n₈, (N (r, lstO (vs.take i₃ ++ .ref x :: vs.drop i₃) n₈) (by k_mem)).1, (avs.take i₃).append (.cons (hex _ fun q hq => ?_) (avs.drop i₃))⟩, ⟨ds₁₁, n₁₁, hD₁₁', hds₁₁⟩, ?_⟩ (ok.insL hi₃ hcode (by show (k : Int) + 1 ≤ _; omega) hsn)
    · refine hideAll_get _ (N q (.tail _ (.tail _ (.tail _ hq)))).1 ?_
      have := hfpr q hq
      simp [this.1, this.2]
    · rintro rfl
      rw [hr0] at hD₁₁; cases hD₁₁
  · k_steps
    refine unheld ?_
    rename Fr _ _ _ _ => F
    rename News _ _ _ _ => N
    obtain ⟨o2, e2s, e2p, ho2, hd2, _⟩ := F.ns
    have kg : Keep g (hideAll _ [r, L', L1]) := fun b o e => hideAll_get _ (F.keep b o e) (by
      simp only [List.mem_cons, List.not_mem_nil, or_false]
      rintro (rfl | rfl | rfl)
      · rw [gS.1] at e; cases e
      · exact absurd (Heap.lt_size e) (Nat.not_lt.mpr F.above)
      · rw [gS.2] at e; cases e)
    refine again_spec (D := D) (es := es) X T (fun b o e => F.keep b o (gb b o e)) hh (show _ + 1 ≤ 340 from up hdp (by decide)) (show _ + 3 ≤ 340 from up hun (by decide)) (Around.frames_deeper hfr) rfl f1 (show ScopeKind.function ≠ ScopeKind.module by decide) km1 ho2 hd2 hLb (N (L1, ob1) (by k_mem)).1 dd1 n1 hrb
      ⟨⟨vs, nv, (N (r, lstO vs nv) (by k_mem)).1, gvs.errKeeps kg⟩, ⟨ds, nd, F.keep _ _ gD, gds.datKeeps F.keep⟩, hne⟩ ok.sorted ok.dist ok.codes (by omega) ?_
    intro h₂ tk₂ D₂ es₂ kb₂ hs2 hs1 st₂ hR₂
    k_steps
    refine hQ _ _ D₂ es₂ (fun b o hb9 e => ?_) hs1 ⟨?_, st₂.due, st₂.ne⟩ (ok.again hR₂)
    · have e1 : g.get? b = some o := eg' ▸ hideAll_get _ e hb9
      refine kb₂ b o (fun hm => ?_) (F.keep b o e1)
      simp only [List.mem_cons, List.not_mem_nil, or_false] at hm hb9
      rcases hm with rfl | rfl | rfl
      · exact hb9 (.inl rfl)
      · exact absurd (Heap.lt_size e1) (Nat.not_lt.mpr F.above)
      · exact hb9 (.inr rfl)
    · obtain ⟨us, nu, hu1, hu2⟩ := st₂.row
      exact ⟨us, nu, hu1, hu2.errKeeps (keep_hide_sub (by simp))⟩
  · k_steps
    refine unheld ?_
    rename Fr _ _ _ _ => F
    rename News _ _ _ _ => N
    refine len_list ⟨_, (N (r, lstO vs nv) (by k_mem)).1, rfl, nv, rfl⟩ (by rw [List.size_toArray]; omega) ?_
    rw [show (vs.toArray.size : Int) = (es.length : Int) by simp [hlvs]]
    k_steps
    refine unheld ?_
    rename Fr _ _ _ _ => F
    rename News _ _ _ _ => N
    have hs0 := Int.fmod_nonneg_of_pos (num.fdiv 6) (b := (es.length : Int) + 1) (by omega)
    have hs1 := Int.fmod_lt_of_pos (num.fdiv 6) (b := (es.length : Int) + 1) (by omega)
    obtain ⟨spot, hspot⟩ : ∃ n : Nat, (num.fdiv 6).fmod ((es.length : Int) + 1) = (n : Int) := ⟨_, (Int.toNat_of_nonneg hs0).symm⟩
    rw [hspot]
    have kg : Keep g (hideAll _ [r, L1]) := fun b o e => hideAll_get _ (F.keep b o e) (by
      simp only [List.mem_cons, List.not_mem_nil, or_false]
      rintro (rfl | rfl)
      · rw [gS.1] at e; cases e
      · rw [gS.2] at e; cases e)
    refine taken_spec (S := [r, L1]) (D := D) (es := es) X T (fun b o e => F.keep b o (gb b o e)) hh (show _ + 1 ≤ 350 from up hdp (by decide)) (show _ + 3 ≤ 350 from up hun (by decide)) (.head _) hrb
      ⟨⟨vs, nv, (N (r, lstO vs nv) (by k_mem)).1, gvs.errKeeps kg⟩, ⟨ds, nd, F.keep _ _ gD, gds.datKeeps F.keep⟩, hne⟩ ok.sorted hc200 (by omega) (by omega) ?_
    intro h₂ tk₂ D₂ es₂ kb₂ st₂ hR₂
    k_steps
    refine hQ _ _ D₂ es₂ (fun b o hb9 e => ?_) ⟨_, kb₂ L1 _ (by simpa using Ne.symm hr1) (N (L1, ob1) (by k_mem)).1⟩ st₂ ?_
    · have e1 : g.get? b = some o := eg' ▸ hideAll_get _ e hb9
      refine kb₂ b o (fun hm => hb9 ?_) (F.keep b o e1)
      cases List.mem_singleton.mp hm
      exact .head _
    · rcases hR₂ with rfl | ⟨j, _, rfl⟩
      · exact ok.up
      · exact (ok.rm j).up
/-- all objects of a heap that the base does not hold -/
noncomputable def objsOf (h h₀ : Heap) : List (Addr × Obj) := (List.range h.objs.size).filterMap fun a => match h.get? a, h₀.get? a with | some o, none => some (a, o) | _, _ => none
theorem mem_objs {h h₀ : Heap} {a : Addr} {o : Obj} (e : h.get? a = some o) (e₀ : h₀.get? a = none) : (a, o) ∈ objsOf h h₀ := by
  unfold objsOf
  rw [List.mem_filterMap]
  exact ⟨a, List.mem_range.mpr (Heap.lt_size e), by simp [e, e₀]⟩
theorem of_objs {h h₀ : Heap} {q : Addr × Obj} (hq : q ∈ objsOf h h₀) : h.get? q.1 = some q.2 ∧ h₀.get? q.1 = none := by
  unfold objsOf at hq
  rw [List.mem_filterMap] at hq
  obtain ⟨a, _, e⟩ := hq
  split at e
  · cases e; rename_i h1 h2; exact ⟨h1, h2⟩
  · cases e
theorem keep_objs {h h₀ h' : Heap} (k₀ : Keep h₀ h) (k : Keep h₀ h') (hq : ∀ q ∈ objsOf h h₀, h'.get? q.1 = some q.2) : Keep h h' := fun b o e => by
  cases e₀ : h₀.get? b with
  | none => exact hq (b, o) (mem_objs e e₀)
  | some o' =>
    have := k₀ b o' e₀
    rw [e] at this; cases this
    exact k b o e₀
abbrev AllAt (h : Heap) (news : List (Addr × Obj)) : Prop := ∀ q ∈ news, h.get? q.1 = some q.2
abbrev shownElt (p1 p2 p3 : Pos) : Expr := .Call (.Name (Str.ofString "_law_shown") p1) [.Name (Str.ofString "error") p2] [] p3
abbrev shownScope : Scope := { kind := .function, names := [(Str.ofString ".0", .local), (Str.ofString "error", .local), (Str.ofString "_law_shown", .globalImplicit)], isGenerator := false, isCoroutine := false }
theorem take_snoc {es : List Er} {i : Nat} {e : Er} (h : es[i]? = some e) : es.take (i + 1) = es.take i ++ [e] := by rw [List.take_add_one, h]; rfl
theorem comp_rest {w : World} {A : Around} {s : Shared} {h₀ : Heap} {L : Addr} {m : Str → Option Value} {p loose mg mb} {r : Addr} {vs : List Value} {nv : Nat} {es : List Er} {Fin : List Value → List (Addr × Obj) → Prop} {news₀ : List (Addr × Obj)} {p1 p2 p3 : Pos} {nm : Str} {sc : Scope} {fa : Addr} {cd : Value}
   (X : (Mine.tp.heap_39 w.params).In h₀) (T : TopRead p loose mg mb h₀) (hh : A.handled = none) (hdp : A.depth ≤ 390) (hun : A.units ≤ 390)
   (hlen : vs.length = es.length) (hr₀ : (r, lstO vs nv) ∈ news₀) (hE : ∀ h, Keep h₀ h → AllAt h news₀ → All2 (ErrAt w.params h₀ h) vs es)
   (hfin : ∀ ys news', (∀ q ∈ news₀, q ∈ news') → (∀ h, Keep h₀ h → AllAt h news' → All2 (DatAt h) ys es) → Fin ys news') :
   ∀ (k i : Nat) (ys : List Value) (news : List (Addr × Obj)), vs.length = i + k → (∀ q ∈ news₀, q ∈ news) → (∀ h, Keep h₀ h → AllAt h news → All2 (DatAt h) ys (es.take i)) →
    LCg.CompRest Challenge.rw_nb0163_01.row.prog w A h₀ L m (envOfC nm sc L fa cd) (shownElt p1 p2 p3) (Str.ofString "error") shownScope [] s (LCg.SrcAt h₀ r vs.toArray) (fun i v => vs.toArray[i]? = some v) Fin k i ys news := by
  k_with_none
  k_with "call ref" => (refine held ?_)
  revert X; k_fill; intro X
  intro k
  induction k with
  | zero =>
    intro i ys news hi hsub hY
    refine LCg.CompRest.zero (hfin ys news hsub fun h a b => ?_)
    have := hY h a b
    rwa [List.take_of_length_le (by omega)] at this
  | succ k ih =>
    intro i ys news hi hsub hY
    refine LCg.CompRest.succ ?_
    intro v I oI C oC D m₂ h tk E' hv hC hx F N off ne
    have hN0 : AllAt h news := fun q hq => (N q (.tail _ (.tail _ (.tail _ hq)))).1
    have hi' : i < es.length := by omega
    obtain ⟨e, hee⟩ : ∃ e, es[i]? = some e := ⟨es[i], by simp⟩
    k_steps
    refine unheld ?_
    rename Fr _ _ _ _ => F
    rename News _ _ _ _ => N
    have hI9 := N (I, oI) (.head _)
    have hC9 := N (C, oC) (.tail _ (.head _))
    have hD9 := N (D, LCg.lst ys) (.tail _ (.tail _ (.head _)))
    have hL0 : h₀.get? L = none := by
      cases e9 : h₀.get? L with
      | none => rfl
      | some o => exact absurd (Heap.lt_size e9) (Nat.not_lt.mpr F.above)
    have hS0 : ∀ a ∈ [I, C, D, L], h₀.get? a = none := by
      intro a ha; simp only [List.mem_cons, List.not_mem_nil, or_false] at ha
      rcases ha with rfl | rfl | rfl | rfl
      · exact hI9.2.2
      · exact hC9.2.2
      · exact hD9.2.2
      · exact hL0
    have off3 := off.mem
    have hoff : ∀ q ∈ news, q.1 ∉ [I, C, D, L] := fun q hq => by
      have z := off3 q hq
      have z4 := (N q (.tail _ (.tail _ (.tail _ hq)))).2.1
      simp only [List.mem_cons, List.not_mem_nil, or_false]
      rintro (e9 | e9 | e9 | e9)
      · exact z.1 e9
      · exact z.2.1 e9
      · exact z.2.2 e9
      · exact z4 e9
    have hvv : vs[i]? = some v := by simpa using hv
    refine shown_specS X T F.keep hh hdp hun ((hE h F.keep fun q hq => hN0 q (hsub q hq)).at_ i v e hvv hee) ?_
    intro h' tk' v' k' hv'
    have hd := DatAt.of (hv' [I, C, D, L] (by
      intro a ha; simp only [List.mem_cons, List.not_mem_nil, or_false] at ha
      rcases ha with rfl | rfl | rfl | rfl
      · exact ⟨_, hI9.1⟩
      · exact ⟨_, hC9.1⟩
      · exact ⟨_, hD9.1⟩
      · obtain ⟨o, _, _, ho, _⟩ := F.ns; exact ⟨o, ho⟩) ((hE (hideAll h [I, C, D, L]) (keep_hide F.keep hS0) fun q hq => hideAll_get _ (hN0 q (hsub q hq)) (hoff q (hsub q hq))).at_ i v e hvv hee))
    have hobj : ∀ q ∈ objsOf (hideAll h' [I, C, D, L]) h₀, h'.get? q.1 = some q.2 ∧ q.1 ∉ [I, C, D, L] ∧ h₀.get? q.1 = none := fun q hq => by
      obtain ⟨z1, z2⟩ := of_objs hq
      exact ⟨of_hideAll _ z1, fun hm => (by rw [hideAll_none _ hm] at z1; cases z1), z2⟩
    refine ⟨h', tk', objsOf (hideAll h' [I, C, D, L]) h₀ ++ news, rfl, F.keeps k', ?_, ?_, .inr ⟨_, List.mem_append_right _ (hsub _ hr₀), rfl, nv, rfl⟩, ih (i + 1) (ys ++ [v']) _ (by omega) (fun q hq => List.mem_append_right _ (hsub q hq)) ?_⟩
    · intro q hq
      cases hq with
      | head => exact ⟨k' _ _ hI9.1, hI9.2⟩
      | tail _ hq => cases hq with
        | head => exact ⟨k' _ _ hC9.1, hC9.2⟩
        | tail _ hq => cases hq with
          | head => exact ⟨k' _ _ hD9.1, hD9.2⟩
          | tail _ hq =>
            rcases List.mem_append.mp hq with hq | hq
            · have z := hobj q hq
              exact ⟨z.1, fun e9 => z.2.1 (by simp [e9]), z.2.2⟩
            · exact ⟨k' _ _ (hN0 q hq), (N q (.tail _ (.tail _ (.tail _ hq)))).2⟩
    · refine LCg.Off3.of fun q hq => ?_
      rcases List.mem_append.mp hq with hq | hq
      · have z := (hobj q hq).2.1
        simp only [List.mem_cons, List.not_mem_nil, or_false, not_or] at z
        exact ⟨z.1, z.2.1, z.2.2.1⟩
      · exact off3 q hq
    · intro h'' a b
      rw [take_snoc hee]
      refine (hY h'' a fun q hq => b q (List.mem_append_right _ hq)).append (.cons (hd.keeps (keep_objs (keep_hide (fun b o e => k' b o (F.keep b o e)) hS0) a fun q hq => b q (List.mem_append_left _ hq))) .nil)
theorem ErrAt.off {P : Params} {b₀ h : Heap} {v : Value} {e : Er} {I : Addr} {oI : Obj} (x : ErrAt P b₀ h v e) (hI : h.get? I = some oI) (hc : oI.cls = .type "range_iterator") : ErrAt P b₀ (hideAll h [I]) v e := by
  have key : ∀ {a : Addr} {o : Obj}, h.get? a = some o → o.cls ≠ .type "range_iterator" → (hideAll h [I]).get? a = some o := fun {a o} h1 h2 => hideAll_get _ h1 (by
    simp only [List.mem_singleton]
    rintro rfl
    rw [hI] at h1; cases h1; exact h2 hc)
  have n1 : ∀ {a : Addr}, Value.ref a ≠ Value.type "range_iterator" := fun h => by cases h
  have n2 : Value.type "dict" ≠ Value.type "range_iterator" := by intro h; injection h with h; exact absurd h (by decide)
  have n3 : Value.type "tuple" ≠ Value.type "range_iterator" := by intro h; injection h with h; exact absurd h (by decide)
  cases x with
  | data h1 h2 => exact .data (key h1 n1) (key h2 n2)
  | sender h1 h2 => exact .sender (key h1 n1) (key h2 n2)
  | conn h1 h2 => exact .conn (key h1 n1) (key h2 n2)
  | recip h1 h2 h3 h4 h5 f1 f2 f3 f4 f5 f6 => exact .recip (key h1 n1) (key h2 n2) (key h3 n2) (key h4 n3) (key h5 n3) f1 f2 f3 f4 f5 f6
/-- what the ledger holds is enough for row and due -/
def Clo (P : Params) (h₀ : Heap) (fp : List (Addr × Obj)) (D : Addr) (vs : List Value) (es : List Er) : Prop :=
  ∀ h, Keep h₀ h → AllAt h fp → (∃ ds nd, h.get? D = some (lstO ds nd) ∧ All2 (DatAt h) ds es) ∧ All2 (ErrAt P h₀ h) vs es
theorem base_none {h₀ h : Heap} {L : Addr} {m : Str → Option Value} (F : Fr h₀ L h m) : h₀.get? L = none := by
  cases e9 : h₀.get? L with
  | none => rfl
  | some o => exact absurd (Heap.lt_size e9) (Nat.not_lt.mpr F.above)
theorem to_st {P : Params} {h₀ h : Heap} {L r D : Addr} {m : Str → Option Value} {vs : List Value} {nv : Nat} {es : List Er} {fp : List (Addr × Obj)} (F : Fr h₀ L h m) (hr : h.get? r = some (lstO vs nv)) (hr0 : h₀.get? r = none)
    (hfp : ∀ q ∈ fp, h.get? q.1 = some q.2 ∧ q.1 ≠ L ∧ q.1 ≠ r) (clo : Clo P h₀ fp D vs es) (hne : D ≠ r) : St P h₀ h [r, L] r D es := by
  refine ⟨⟨vs, nv, hr, (clo (hideAll h [r, L]) (keep_hide F.keep ?_) fun q hq => hideAll_get _ (hfp q hq).1 ?_).2⟩, (clo h F.keep fun q hq => (hfp q hq).1).1, hne⟩
  · intro a ha; simp only [List.mem_cons, List.not_mem_nil, or_false] at ha
    rcases ha with rfl | rfl
    · exact hr0
    · exact base_none F
  · simp [(hfp q hq).2.1, (hfp q hq).2.2]
theorem from_st {P : Params} {h₀ h : Heap} {L r D I : Addr} {m : Str → Option Value} {es : List Er} {oI : Obj} (F : Fr h₀ L h m) (st : St P h₀ h [r, L] r D es) (hr0 : h₀.get? r = none) (hI : h.get? I = some oI) (hc : oI.cls = .type "range_iterator") (hI0 : h₀.get? I = none) (hIL : I ≠ L) :
    ∃ vs nv fp, h.get? r = some (lstO vs nv) ∧ (∀ q ∈ fp, h.get? q.1 = some q.2 ∧ h₀.get? q.1 = none ∧ q.1 ≠ L ∧ q.1 ≠ r ∧ q.1 ≠ I) ∧ Clo P h₀ fp D vs es := by
  obtain ⟨⟨vs, nv, hr, hvs⟩, ⟨ds, nd, hD, hds⟩, hne⟩ := st
  obtain ⟨oL, eL, pL, hoL, hdL, _⟩ := F.ns
  have hIr : I ≠ r := by rintro rfl; rw [hI] at hr; cases hr; injection hc with h; exact absurd h (by decide)
  have hDI : D ≠ I := by rintro rfl; rw [hI] at hD; cases hD; injection hc with h; exact absurd h (by decide)
  have hDL : D ≠ L := by rintro rfl; rw [hoL] at hD; cases hD; cases hdL
  have k₀ : Keep h₀ (hideAll (hideAll h [r, L]) [I]) := keep_hide (keep_hide F.keep (by
    intro a ha; simp only [List.mem_cons, List.not_mem_nil, or_false] at ha
    rcases ha with rfl | rfl
    · exact hr0
    · exact base_none F)) (by intro a ha; cases List.mem_singleton.mp ha; exact hI0)
  have ho : ∀ q ∈ objsOf (hideAll (hideAll h [r, L]) [I]) h₀, h.get? q.1 = some q.2 ∧ h₀.get? q.1 = none ∧ q.1 ≠ L ∧ q.1 ≠ r ∧ q.1 ≠ I := fun q hq => by
    obtain ⟨z1, z2⟩ := of_objs hq
    have z3 := of_hideAll _ z1
    have y1 : q.1 ∉ [I] := fun hm => (by rw [hideAll_none _ hm] at z1; cases z1)
    have y2 : q.1 ∉ [r, L] := fun hm => (by rw [hideAll_none _ hm] at z3; cases z3)
    simp only [List.mem_cons, List.not_mem_nil, or_false, not_or] at y1 y2
    exact ⟨of_hideAll _ z3, z2, y2.2, y2.1, y1⟩
  refine ⟨vs, nv, _, hr, ho, fun h' a b => ?_⟩
  have k := keep_objs k₀ a b
  refine ⟨⟨ds, nd, k _ _ (hideAll_get _ (hideAll_get _ hD (by simp [hne, hDL])) (by simpa using hDI)), ?_⟩, ?_⟩
  · refine All2.datKeeps k (All2.hide ?_ (hds.hide (notup_list hr (notup_dict hoL hdL notup_nil))))
    intro c hc9 o ho9 us n hd9
    cases List.mem_singleton.mp hc9
    have := of_hideAll _ ho9
    rw [hI] at this; cases this
    rw [hc]; intro h; injection h with h; exact absurd h (by decide)
  · exact All2.errKeeps k (hvs.mono fun v e x => x.off (hideAll_get _ hI (by simp [hIr, hIL])) hc)
/-- the main loop's invariant -/
def JI (P : Params) (h₀ : Heap) (NM : Addr) (nums : List Value) (c : Addr) (oc : Obj) (i : Nat) (m : Str → Option Value) (news : List (Addr × Obj)) : Prop :=
  ∃ r D vs nv es fp, news = (r, lstO vs nv) :: (NM, lstO nums 0) :: (c, oc) :: fp ∧ m (Str.ofString "row") = some (.ref r) ∧ m (Str.ofString "due") = some (.ref D) ∧ m (Str.ofString "numbers") = some (.ref NM) ∧ D ≠ r ∧ Ok es i ∧ NM ≠ r ∧ c ≠ r ∧ (∀ q ∈ fp, q.1 ≠ r) ∧ Clo P h₀ fp D vs es
theorem news_cons {g h : Heap} {L : Addr} {q : Addr × Obj} {l : List (Addr × Obj)} (h1 : h.get? q.1 = some q.2 ∧ q.1 ≠ L ∧ g.get? q.1 = none) (h2 : News g L h l) : News g L h (q :: l) := List.forall_mem_cons.mpr ⟨h1, h2⟩
theorem news_tail {g h : Heap} {L : Addr} {q : Addr × Obj} {l : List (Addr × Obj)} (N : News g L h (q :: l)) : News g L h l := (List.forall_mem_cons.mp N).2
theorem news_head {g h : Heap} {L : Addr} {q : Addr × Obj} {l : List (Addr × Obj)} (N : News g L h (q :: l)) : h.get? q.1 = some q.2 ∧ q.1 ≠ L ∧ g.get? q.1 = none := (List.forall_mem_cons.mp N).1
theorem news4 {g h : Heap} {L : Addr} {a b c d e f : Addr × Obj} (N : News g L h [d, a, b, e, f, c]) : News g L h [a, b, c, d] :=
  news_cons (news_head (news_tail N)) (news_cons (news_head (news_tail (news_tail N))) (news_cons (news_head (news_tail (news_tail (news_tail (news_tail (news_tail N)))))) (news_cons (news_head N) fun _ h => nomatch h)))
theorem ok_nil : Ok [] 0 := ⟨fun i j a b _ h => (by simp at h), by unfold Dist; simp, (fun e h => nomatch h), (fun e h => nomatch h), Nat.le_refl _⟩
theorem range_size {nn : Nat} : Builtin.Range.rangeSize 0 (nn : Int) 1 = (nn : Int) := by
  unfold Builtin.Range.rangeSize
  simp
  omega
theorem off_push {g h : Heap} {L : Addr} {news : List (Addr × Obj)} (N : News g L h news) : ∀ p ∈ news, p.1 ∉ [h.objs.size] := fun p hp => by
  simp only [List.mem_singleton]
  exact Nat.ne_of_lt (Heap.lt_size (N p hp).1)
/-- what stands at a turn's start and end -/
structure Turn (P : Params) (h₀ : Heap) (L NM : Addr) (nums : List Value) (c : Addr) (oc : Obj) (I : Addr) (oI : Obj) (i : Nat) (h : Heap) (m : Str → Option Value) (r D : Addr) (vs : List Value) (nv : Nat) (es : List Er) (fp : List (Addr × Obj)) : Prop where
  F : Fr h₀ L h m
  N : News h₀ L h ((r, lstO vs nv) :: (NM, lstO nums 0) :: (c, oc) :: (I, oI) :: fp)
  row : m (Str.ofString "row") = some (.ref r)
  due : m (Str.ofString "due") = some (.ref D)
  numbers : m (Str.ofString "numbers") = some (.ref NM)
  ne : D ≠ r
  ok : Ok es i
  nr : NM ≠ r
  cr : c ≠ r
  fr : ∀ q ∈ fp, q.1 ≠ r ∧ q.1 ≠ I
  clo : Clo P h₀ fp D vs es
theorem own_append {h₀ h₁ h₃ : Heap} {L I : Addr} {oI : Obj} {own news : List (Addr × Obj)} (hown : ∀ p ∈ own, p.1 ∈ [I]) (hown2 : ∀ p ∈ own, h₁.get? p.1 = some p.2) (hst : h₁.get? I = some oI) (hI : h₃.get? I = some oI ∧ I ≠ L ∧ h₀.get? I = none) (N : News h₀ L h₃ news) : News h₀ L h₃ (own ++ news) := fun q hq => by
  rcases List.mem_append.mp hq with hq | hq
  · have z1 := List.mem_singleton.mp (hown q hq)
    have z2 := hown2 q hq
    rw [z1, hst] at z2
    rw [z1, ← Option.some.inj z2]
    exact hI
  · exact N q hq
theorem loop_JI {prog : Program} {w : World} {A : Around} {s : Shared} {env : Env} {h₀ : Heap} {x : Str} {body : List Stmt} {Q : Flow → Shared → Prop} {E : Value → Shared → Prop} {R r₀ D₀ NM c : Addr} {nums : List Value} {oc : Obj} {nn : Nat} {t u v : Tok} {m : Str → Option Value} {P : Params}
    (rg : IsRange s.heap R 0 (nn : Int) 1 t u v) (hnn : nn ≤ 1000) (hh : A.handled = none) (F : Fr h₀ env.locals s.heap m) (N : News h₀ env.locals s.heap [(r₀, lstO [] 0), (NM, lstO nums 0), (c, oc), (D₀, lstO [] 0)])
    (hm1 : m (Str.ofString "row") = some (.ref r₀)) (hm2 : m (Str.ofString "due") = some (.ref D₀)) (hm3 : m (Str.ofString "numbers") = some (.ref NM)) (n1 : D₀ ≠ r₀) (n2 : NM ≠ r₀) (n3 : c ≠ r₀) (hxr : x ≠ Str.ofString "row") (hxd : x ≠ Str.ofString "due") (hxn : x ≠ Str.ofString "numbers")
    (step : ∀ (i : Nat) (tk : Tok) (I : Addr) (oI : Obj) (h₁ : Heap) (t₁ : Nat) m₁ r D vs nv es fp, i < nn → oI.cls = .type "range_iterator" → m₁ x = some (.int (i : Nat) tk) → Turn P h₀ env.locals NM nums c oc I oI i h₁ m₁ r D vs nv es fp →
      wpAny (model prog w) A (execs body env) (fun f s₃ => f = .next ∧ ∃ h₃ t₃ m₃ D' vs' nv' es' fp', s₃ = { s with heap := h₃, toks := t₃ } ∧ Turn P h₀ env.locals NM nums c oc I oI (i + 1) h₃ m₃ r D' vs' nv' es' fp') E { s with heap := h₁, toks := t₁ })
    (fin : ∀ (h₁ : Heap) (t₁ : Nat) m₁ r D vs nv es fp, Fr h₀ env.locals h₁ m₁ → News h₀ env.locals h₁ ((r, lstO vs nv) :: (NM, lstO nums 0) :: (c, oc) :: fp) → m₁ (Str.ofString "row") = some (.ref r) → m₁ (Str.ofString "due") = some (.ref D) → D ≠ r → Ok es nn → c ≠ r → (∀ q ∈ fp, q.1 ≠ r) → Clo P h₀ fp D vs es → Q .next { s with heap := h₁, toks := t₁ }) :
    wpAny (model prog w) A (pyIter (.ref R)) (fun it s₂ => LoopAtV prog w A h₀ env x body Q E it s₂) E s := by
  refine wpAny_pyIter_range rg (small_one (by omega) (by omega) (by omega) (by omega)) ?_
  rw [range_size]
  have hI0 : h₀.get? s.heap.objs.size = none := next_is_new F
  have hIL : s.heap.objs.size ≠ env.locals := Ne.symm (Nat.ne_of_lt F.ns.lt)
  refine ⟨s.heap.objs.size, [s.heap.objs.size], [s.heap.objs.size], nn, _, _, m, _, JI P h₀ NM nums c oc, rfl, (Walks.range hh s.heap.objs.size 0 1 nn).bound, ?_, ?_, off_push N, ?_, F.push _, N.pushKeep _, ?_, ?_, ?_⟩
  · simp only [List.mem_singleton]; exact Ne.symm hIL
  · intro b hb; cases List.mem_singleton.mp hb; exact hI0
  · show (Heap.push _ _).get? _ = _
    have := Heap.get?_push_size s.heap (o := { cls := .type "range_iterator", data := .fields #[rawInt 0, rawInt (nn : Int), rawInt 1] }) rfl
    simpa using this
  · refine ⟨_, _, [], 0, [], [_], rfl, hm1, hm2, hm3, n1, ok_nil, n2, n3, ?_, fun h a b => ⟨⟨[], 0, b _ (.head _), .nil⟩, .nil⟩⟩
    intro q hq; cases List.mem_singleton.mp hq; exact n1
  · intro i v m₁ news₁ s₁ own hs₁ hi hP hJ hoff hown hown2 hown3 hst F₁ N₁
    obtain ⟨h₁, t₁, rfl⟩ := hs₁
    obtain ⟨r, D, vs, nv, es, fp, rfl, j1, j2, j3, j4, j5, j6, j7, j8, j9⟩ := hJ
    obtain ⟨_, tk, rfl⟩ := hP
    obtain ⟨oI, hst', hcI⟩ : ∃ oI, h₁.get? s.heap.objs.size = some oI ∧ oI.cls = .type "range_iterator" := ⟨_, hst, rfl⟩
    have NN := N₁.right
    have hNI : News h₀ env.locals h₁ ((r, lstO vs nv) :: (NM, lstO nums 0) :: (c, oc) :: (s.heap.objs.size, oI) :: fp) :=
      news_cons (news_head NN) (news_cons (news_head (news_tail NN)) (news_cons (news_head (news_tail (news_tail NN))) (news_cons ⟨hst', hIL, hI0⟩ (news_tail (news_tail (news_tail NN))))))
    have e1 : (0 : Int) + (i : Int) * 1 = ((i : Nat) : Int) := by omega
    rw [e1] at F₁
    refine wpAny_mono (step i tk s.heap.objs.size oI h₁ t₁ (fun y => if y = x then some (.int (i : Nat) tk) else m₁ y) r D vs nv es fp hi hcI (by simp) ⟨F₁, hNI, by simp [Ne.symm hxr, j1], by simp [Ne.symm hxd, j2], by simp [Ne.symm hxn, j3], j4, j5, j6, j7, fun q hq => ⟨j8 q hq, by simpa using hoff q (.tail _ (.tail _ (.tail _ hq)))⟩, j9⟩) (fun f s₃ hf => ?_) fun _ _ e => e
    obtain ⟨rfl, h₃, t₃, m₃, D', vs', nv', es', fp', rfl, T⟩ := hf
    refine LoopStepV.next ⟨rfl, h₃, t₃, m₃, (r, lstO vs' nv') :: (NM, lstO nums 0) :: (c, oc) :: fp', rfl, T.F, ?_, ?_, ⟨r, D', vs', nv', es', fp', rfl, T.row, T.due, T.numbers, T.ne, T.ok, T.nr, T.cr, fun q hq => (T.fr q hq).1, T.clo⟩⟩
    · have T4 := news_tail (news_tail (news_tail T.N))
      have TF := news_cons (news_head T.N) (news_cons (news_head (news_tail T.N)) (news_cons (news_head (news_tail (news_tail T.N))) (news_tail T4)))
      exact own_append hown hown2 hst' (news_head T4) TF
    · have z1 := List.forall_mem_cons.mp hoff
      have z2 := List.forall_mem_cons.mp z1.2
      have z3 := List.forall_mem_cons.mp z2.2
      exact List.forall_mem_cons.mpr ⟨z1.1, List.forall_mem_cons.mpr ⟨z2.1, List.forall_mem_cons.mpr ⟨z3.1, fun q hq hm => (T.fr q hq).2 (List.mem_singleton.mp hm)⟩⟩⟩
  · intro h' tk m' news' F' N' hoff hJ
    obtain ⟨r, D, vs, nv, es, fp, rfl, j1, j2, j3, j4, j5, j6, j7, j8, j9⟩ := hJ
    exact fin h' tk m' r D vs nv es fp F' N' j1 j2 j4 j5 j7 j8 j9
theorem loop_JN {prog : Program} {w : World} {A : Around} {s : Shared} {env : Env} {h₀ : Heap} {x : Str} {body : List Stmt} {Q : Flow → Shared → Prop} {E : Value → Shared → Prop} {R r₀ D₀ NM c : Addr} {nums : List Value} {oc : Obj} {nn : Nat} {t u v : Tok} {m : Str → Option Value} {P : Params}
    (rg : IsRange s.heap R 0 (nn : Int) 1 t u v) (hnn : nn ≤ 1000) (hh : A.handled = none) (F : Fr h₀ env.locals s.heap m) (N : News h₀ env.locals s.heap [(r₀, lstO [] 0), (NM, lstO nums 0), (c, oc), (D₀, lstO [] 0)])
    (hm1 : m (Str.ofString "row") = some (.ref r₀)) (hm2 : m (Str.ofString "due") = some (.ref D₀)) (hm3 : m (Str.ofString "numbers") = some (.ref NM)) (n1 : D₀ ≠ r₀) (n2 : NM ≠ r₀) (n3 : c ≠ r₀) (hxr : x ≠ Str.ofString "row") (hxd : x ≠ Str.ofString "due") (hxn : x ≠ Str.ofString "numbers")
    {l : List Int} (ia : IntsAre nums l) (hl : l.length = nn)
    (step : ∀ (NM : Addr) (nums : List Value) (i : Nat) (tk : Tok) (I : Addr) (oI : Obj) (h₁ : Heap) (t₁ : Nat) m₁ r D vs nv es fp, IntsAre nums l → i < nn → oI.cls = .type "range_iterator" → m₁ x = some (.int (i : Nat) tk) → Turn P h₀ env.locals NM nums c oc I oI i h₁ m₁ r D vs nv es fp →
      wpAny (model prog w) A (execs body env) (fun f s₃ => f = .next ∧ ∃ h₃ t₃ m₃ D' vs' nv' es' fp', s₃ = { s with heap := h₃, toks := t₃ } ∧ Turn P h₀ env.locals NM nums c oc I oI (i + 1) h₃ m₃ r D' vs' nv' es' fp') E { s with heap := h₁, toks := t₁ })
    (fin : ∀ (h₁ : Heap) (t₁ : Nat) m₁ r D vs nv es fp, Fr h₀ env.locals h₁ m₁ → News h₀ env.locals h₁ ((r, lstO vs nv) :: (c, oc) :: fp) → m₁ (Str.ofString "row") = some (.ref r) → m₁ (Str.ofString "due") = some (.ref D) → D ≠ r → Ok es nn → c ≠ r → (∀ q ∈ fp, q.1 ≠ r) → Clo P h₀ fp D vs es → Q .next { s with heap := h₁, toks := t₁ }) :
    wpAny (model prog w) A (pyIter (.ref R)) (fun it s₂ => LoopAtV prog w A h₀ env x body Q E it s₂) E s :=
  loop_JI rg hnn hh F N hm1 hm2 hm3 n1 n2 n3 hxr hxd hxn (fun i tk I oI h₁ t₁ m₁ r D vs nv es fp => step NM nums i tk I oI h₁ t₁ m₁ r D vs nv es fp ia)
    fun h₁ t₁ m₁ r D vs nv es fp F' N' => fin h₁ t₁ m₁ r D vs nv es fp F' (news_cons (news_head N') (news_tail (news_tail N')))
theorem turn_after {h₀ h h' : Heap} {L r NM c I : Addr} {o x oc oI oL : Obj} {sl : Array (Option Value)} {m : Str → Option Value} {fp : List (Addr × Obj)} (F : Fr h₀ L h m) (N : News h₀ L h ((r, o) :: (NM, x) :: (c, oc) :: (I, oI) :: fp)) (kb : KeepBut [r, L] h h')
    (hoL : h.get? L = some oL) (hsl : h'.get? L = some { oL with slots := sl }) : Fr h₀ L h' m := by
  refine ⟨ns_slot F.ns fun o e => ?_, fun b o e => kb b o ?_ (F.keep b o e), F.above⟩
  · rw [hoL] at e; cases e; exact ⟨sl, hsl⟩
  · simp only [List.mem_cons, List.not_mem_nil, or_false]
    rintro (rfl | rfl)
    · rw [(N _ (.head _)).2.2] at e; cases e
    · exact absurd (Heap.lt_size e) (Nat.not_lt.mpr F.above)
theorem turn_news {h₀ h h' : Heap} {L r NM c I : Addr} {o o' x oc oI : Obj} {fp fp' : List (Addr × Obj)} (N : News h₀ L h ((r, o) :: (NM, x) :: (c, oc) :: (I, oI) :: fp)) (kb : KeepBut [r, L] h h') (hr' : h'.get? r = some o') (nr : NM ≠ r) (cr : c ≠ r) (ir : I ≠ r)
    (hfp : ∀ q ∈ fp', h'.get? q.1 = some q.2 ∧ h₀.get? q.1 = none ∧ q.1 ≠ L ∧ q.1 ≠ r ∧ q.1 ≠ I) : News h₀ L h' ((r, o') :: (NM, x) :: (c, oc) :: (I, oI) :: fp') := by
  have k : ∀ q ∈ ((r, o) :: (NM, x) :: (c, oc) :: (I, oI) :: fp), q.1 ≠ r → h'.get? q.1 = some q.2 ∧ q.1 ≠ L ∧ h₀.get? q.1 = none := fun q hq hn => ⟨kb _ _ (by simp [hn, (N q hq).2.1]) (N q hq).1, (N q hq).2⟩
  exact news_cons ⟨hr', (news_head N).2⟩ (news_cons (k _ (.tail _ (.head _)) nr) (news_cons (k _ (.tail _ (.tail _ (.head _))) cr) (news_cons (k _ (.tail _ (.tail _ (.tail _ (.head _)))) ir) fun q hq => ⟨(hfp q hq).1, (hfp q hq).2.2.1, (hfp q hq).2.1⟩)))
theorem comp_start {w : World} {A : Around} {s : Shared} {h₀ : Heap} {L : Addr} {m : Str → Option Value} {p loose mg mb} {r : Addr} {vs : List Value} {nv : Nat} {es : List Er} {Fin : List Value → List (Addr × Obj) → Prop} {news : List (Addr × Obj)} {p1 p2 p3 : Pos} {nm : Str} {sc : Scope} {fa : Addr} {cd : Value}
   (X : (Mine.tp.heap_39 w.params).In h₀) (T : TopRead p loose mg mb h₀) (hh : A.handled = none) (hdp : A.depth ≤ 390) (hun : A.units ≤ 390)
   (hlen : vs.length = es.length) (hr₀ : (r, lstO vs nv) ∈ news) (hE : ∀ h, Keep h₀ h → AllAt h news → All2 (ErrAt w.params h₀ h) vs es)
   (hfin : ∀ ys news', (∀ q ∈ news, q ∈ news') → (∀ h, Keep h₀ h → AllAt h news' → All2 (DatAt h) ys es) → Fin ys news') :
    LCg.CompRest Challenge.rw_nb0163_01.row.prog w A h₀ L m (envOfC nm sc L fa cd) (shownElt p1 p2 p3) (Str.ofString "error") shownScope [] s (LCg.SrcAt h₀ r vs.toArray) (fun i v => vs.toArray[i]? = some v) Fin vs.toArray.size 0 [] news :=
  comp_rest X T hh hdp hun hlen hr₀ hE hfin vs.toArray.size 0 [] news (by simp) (fun _ h => h) (fun _ _ _ => .nil)
theorem ErrAt.offC {P : Params} {b₀ h : Heap} {v : Value} {e : Er} {I : Addr} {oI : Obj} {x0 : Option Value} (x : ErrAt P b₀ h v e) (hI : h.get? I = some oI) (hc : oI.data = .cell x0) : ErrAt P b₀ (hideAll h [I]) v e := by
  have key : ∀ {a : Addr} {o : Obj}, h.get? a = some o → o.data ≠ .cell x0 → (hideAll h [I]).get? a = some o := fun {a o} h1 h2 => hideAll_get _ h1 (by
    simp only [List.mem_singleton]
    rintro rfl
    rw [hI] at h1; cases h1; exact h2 hc)
  cases x with
  | data h1 h2 => exact .data (key h1 nofun) (key h2 nofun)
  | sender h1 h2 => exact .sender (key h1 nofun) (key h2 nofun)
  | conn h1 h2 => exact .conn (key h1 nofun) (key h2 nofun)
  | recip h1 h2 h3 h4 h5 f1 f2 f3 f4 f5 f6 => exact .recip (key h1 nofun) (key h2 nofun) (key h3 nofun) (key h4 nofun) (key h5 nofun) f1 f2 f3 f4 f5 f6
theorem from_stC {P : Params} {h₀ h : Heap} {L r D I : Addr} {m : Str → Option Value} {es : List Er} {oI : Obj} {x0 : Option Value} (F : Fr h₀ L h m) (st : St P h₀ h [r, L] r D es) (hr0 : h₀.get? r = none) (hI : h.get? I = some oI) (hc : oI.data = .cell x0) (hI0 : h₀.get? I = none) (hIL : I ≠ L) :
    ∃ vs nv fp, h.get? r = some (lstO vs nv) ∧ (∀ q ∈ fp, h.get? q.1 = some q.2 ∧ h₀.get? q.1 = none ∧ q.1 ≠ L ∧ q.1 ≠ r ∧ q.1 ≠ I) ∧ Clo P h₀ fp D vs es := by
  obtain ⟨⟨vs, nv, hr, hvs⟩, ⟨ds, nd, hD, hds⟩, hne⟩ := st
  obtain ⟨oL, eL, pL, hoL, hdL, _⟩ := F.ns
  have hIr : I ≠ r := by rintro rfl; rw [hI] at hr; cases hr; cases hc
  have hDI : D ≠ I := by rintro rfl; rw [hI] at hD; cases hD; cases hc
  have hDL : D ≠ L := by rintro rfl; rw [hoL] at hD; cases hD; cases hdL
  have k₀ : Keep h₀ (hideAll (hideAll h [r, L]) [I]) := keep_hide (keep_hide F.keep (by
    intro a ha; simp only [List.mem_cons, List.not_mem_nil, or_false] at ha
    rcases ha with rfl | rfl
    · exact hr0
    · exact base_none F)) (by intro a ha; cases List.mem_singleton.mp ha; exact hI0)
  have ho : ∀ q ∈ objsOf (hideAll (hideAll h [r, L]) [I]) h₀, h.get? q.1 = some q.2 ∧ h₀.get? q.1 = none ∧ q.1 ≠ L ∧ q.1 ≠ r ∧ q.1 ≠ I := fun q hq => by
    obtain ⟨z1, z2⟩ := of_objs hq
    have z3 := of_hideAll _ z1
    have y1 : q.1 ∉ [I] := fun hm => (by rw [hideAll_none _ hm] at z1; cases z1)
    have y2 : q.1 ∉ [r, L] := fun hm => (by rw [hideAll_none _ hm] at z3; cases z3)
    simp only [List.mem_cons, List.not_mem_nil, or_false, not_or] at y1 y2
    exact ⟨of_hideAll _ z3, z2, y2.2, y2.1, y1⟩
  refine ⟨vs, nv, _, hr, ho, fun h' a b => ?_⟩
  have k := keep_objs k₀ a b
  refine ⟨⟨ds, nd, k _ _ (hideAll_get _ (hideAll_get _ hD (by simp [hne, hDL])) (by simpa using hDI)), ?_⟩, ?_⟩
  · refine All2.datKeeps k (All2.hide ?_ (hds.hide (notup_list hr (notup_dict hoL hdL notup_nil))))
    intro c hc9 o ho9 us n hd9
    cases List.mem_singleton.mp hc9
    have := of_hideAll _ ho9
    rw [hI] at this; cases this
    rw [hc] at hd9; cases hd9
  · exact All2.errKeeps k (hvs.mono fun v e x => x.offC (hideAll_get _ hI (by simp [hIr, hIL])) hc)
section
variable {prog : Program} {w : World} {A : Around} {env : Env} {s : Shared} {E : Value → Shared → Prop}
variable {scope : Scope} {cl : List (Str × Addr)} {x y : Str} {c : Addr} {code : Int} {tc : Tok} {ds : List Value} {p : Value → Bool} {h : Heap} {p1 p2 p3 p4 p7 : Pos} {k1 : Nat}
theorem test_ltI (hkind : scope.kind = .function) (hx : scope.names.lookup x = some .local) (hdx : (x == ("__debug__" : Str)) = false) (hy : ∀ C, (compEnvC scope cl C env).kindOf y = some .cell) (hdy : (y == ("__debug__" : Str)) = false) (hc : cl.lookup y = some c)
    (hu : h.IsCell c (some (.int code tc))) (hp : ∀ v ∈ ds, ∃ e, DatAt h v e ∧ p v = decide (e.code < code)) :
    TestsOn prog w A env scope cl x (.Compare (.Subscript (.Name x p1) (.Constant (.int 1) k1 p2) p3) [.Lt] [.Name y p4] p7) ds p h := by
  intro C v s₃ m₃ E' hv hn hm hk
  obtain ⟨e, de, ep⟩ := hp v hv
  refine wpAny_isTrue_Compare1 (eval_code (load_it hkind hx hdx hn hm) (de.keeps hk) fun t => ?_)
  refine load_cell (s := { s₃ with toks := s₃.toks + 1 }) hkind (hy C) hdy hc (hu.keeps hk) _ ?_
  exact PySem.P.lt_int (wpAny_truthy_bool ⟨ep.symm, _, _, rfl, fun _ _ e => e⟩)
theorem test_leI (hkind : scope.kind = .function) (hx : scope.names.lookup x = some .local) (hdx : (x == ("__debug__" : Str)) = false) (hy : ∀ C, (compEnvC scope cl C env).kindOf y = some .cell) (hdy : (y == ("__debug__" : Str)) = false) (hc : cl.lookup y = some c)
    (hu : h.IsCell c (some (.int code tc))) (hp : ∀ v ∈ ds, ∃ e, DatAt h v e ∧ p v = decide (e.code ≤ code)) :
    TestsOn prog w A env scope cl x (.Compare (.Subscript (.Name x p1) (.Constant (.int 1) k1 p2) p3) [.LtE] [.Name y p4] p7) ds p h := by
  intro C v s₃ m₃ E' hv hn hm hk
  obtain ⟨e, de, ep⟩ := hp v hv
  refine wpAny_isTrue_Compare1 (eval_code (load_it hkind hx hdx hn hm) (de.keeps hk) fun t => ?_)
  refine load_cell (s := { s₃ with toks := s₃.toks + 1 }) hkind (hy C) hdy hc (hu.keeps hk) _ ?_
  exact PySem.P.le_int (wpAny_truthy_bool ⟨ep.symm, _, _, rfl, fun _ _ e => e⟩)
end
theorem cnt_lt_len {h : Heap} {ds : List Value} {es : List Er} {x : Int} {j : Nat} (b : BL es x 0 j) (d : All2 (DatAt h) ds es) : (ds.filter (pv h fun e => decide (e.code < x))).length = j := by
  have := (d.filter (pv h fun e => decide (e.code < x)) (fun e => decide (e.code < x)) fun v e r => pv_eq r).len
  rw [this, cnt_lt b, List.length_take, Nat.min_eq_left b.le]
theorem cnt_le_len {h : Heap} {ds : List Value} {es : List Er} {x : Int} {j : Nat} (b : BR es x 0 j) (d : All2 (DatAt h) ds es) : (ds.filter (pv h fun e => decide (e.code ≤ x))).length = j := by
  have := (d.filter (pv h fun e => decide (e.code ≤ x)) (fun e => decide (e.code ≤ x)) fun v e r => pv_eq r).len
  rw [this, cnt_le b, List.length_take, Nat.min_eq_left b.le]
/-- the second loop: nothing changes but its own cell -/
theorem loop_2 {prog : Program} {w : World} {A : Around} {s : Shared} {nm : Str} {sc : Scope} {L fa : Addr} {cd : Value} {h₀ : Heap} {x : Str} {px : Pos} {body : List Stmt} {Q : Flow → Shared → Prop} {E : Value → Shared → Prop} {R r D c : Addr} {oc : Obj} {x0 : Option Value} {vs : List Value} {nv : Nat} {fp : List (Addr × Obj)} {t u v : Tok} {m : Str → Option Value}
    (rg : IsRange s.heap R 200 601 50 t u v) (hh : A.handled = none) (F : Fr h₀ L s.heap m) (N : News h₀ L s.heap ((c, oc) :: (r, lstO vs nv) :: fp)) (hd : oc.data = .cell x0)
    (hrc : r ≠ c) (hfc : ∀ q ∈ fp, q.1 ≠ c) (hm1 : m (Str.ofString "row") = some (.ref r)) (hm2 : m (Str.ofString "due") = some (.ref D))
    (hk : sc.kind = .function) (hl : (envOfC nm sc L fa cd).kindOf x = some .cell) (hcl : (cellsFrom (L + 1) sc.names []).lookup x = some c)
    (step : ∀ (i : Nat) (tk : Tok) (I : Addr) (oI : Obj) (s₁ : Shared) m₁ oc₁, i < 9 → oc₁.data = .cell (some (.int (200 + (i : Int) * 50) tk)) → m₁ (Str.ofString "row") = some (.ref r) → m₁ (Str.ofString "due") = some (.ref D) →
      Fr h₀ L s₁.heap m₁ → News h₀ L s₁.heap ((c, oc₁) :: (r, lstO vs nv) :: (I, oI) :: fp) →
      wpAny (model prog w) A (execs body (envOfC nm sc L fa cd)) (fun f s₃ => f = .next ∧ ∃ h₃ t₃ m₃, s₃ = { s₁ with heap := h₃, toks := t₃ } ∧ Fr h₀ L h₃ m₃ ∧ News h₀ L h₃ ((c, oc₁) :: (r, lstO vs nv) :: (I, oI) :: fp) ∧ m₃ (Str.ofString "row") = some (.ref r) ∧ m₃ (Str.ofString "due") = some (.ref D)) E s₁)
    (fin : ∀ (h₁ : Heap) (t₁ : Nat) m₁ oc₁, Fr h₀ L h₁ m₁ → News h₀ L h₁ ((c, oc₁) :: (r, lstO vs nv) :: fp) → Q .next { s with heap := h₁, toks := t₁ }) :
    wpAny (model prog w) A (pyIter (.ref R)) (fun it s₂ => LoopAtT prog w A h₀ (envOfC nm sc L fa cd) (.Name x px) body Q E it s₂) E s := by
  refine wpAny_pyIter_range rg (by decide) ?_
  rw [show Builtin.Range.rangeSize 200 601 50 = ((9 : Nat) : Int) by decide]
  have hI0 : h₀.get? s.heap.objs.size = none := next_is_new F
  have hIL : s.heap.objs.size ≠ L := Ne.symm (Nat.ne_of_lt F.ns.lt)
  refine ⟨s.heap.objs.size, [s.heap.objs.size], [s.heap.objs.size], 9, _, _, m, _, (fun _ m' news' => ∃ oc' x', news' = (c, oc') :: (r, lstO vs nv) :: fp ∧ oc'.data = .cell x' ∧ m' (Str.ofString "row") = some (.ref r) ∧ m' (Str.ofString "due") = some (.ref D)), rfl, (Walks.range hh s.heap.objs.size 200 50 9).bound, ?_, ?_, off_push N, ?_, F.push _, N.pushKeep _, (fun i s' v Q' _ hQ' => wpAny_pure hQ'), ⟨oc, x0, rfl, hd, hm1, hm2⟩, ?_, ?_⟩
  · simp only [List.mem_singleton]; exact Ne.symm hIL
  · intro b hb; cases List.mem_singleton.mp hb; exact hI0
  · show (Heap.push _ _).get? _ = _
    have := Heap.get?_push_size s.heap (o := { cls := .type "range_iterator", data := .fields #[rawInt 200, rawInt (9 : Int), rawInt 50] }) rfl
    simpa using this
  · intro i v m₁ news₁ s₁ own hi hP hJ hoff hown hown2 hown3 hst F₁ N₁
    obtain ⟨oc', x', rfl, hd', j1, j2⟩ := hJ
    obtain ⟨_, tk, rfl⟩ := hP
    obtain ⟨oI, hst'⟩ : ∃ oI, s₁.heap.get? s.heap.objs.size = some oI := ⟨_, hst⟩
    have hcI : c ≠ s.heap.objs.size := by simpa using hoff _ (.head _)
    have NN := N₁.right
    have hNI : News h₀ L s₁.heap ([] ++ (c, oc') :: (r, lstO vs nv) :: (s.heap.objs.size, oI) :: fp) :=
      news_cons (news_head NN) (news_cons (news_head (news_tail NN)) (news_cons ⟨hst', hIL, hI0⟩ (news_tail (news_tail NN))))
    refine wpAny_assign_Name (stCN (v := .int (200 + (i : Int) * 50) tk) F₁ hNI hcl hd' (fun _ h => nomatch h) ?_ (fun h' o' F' N' hd'' => ?_) hk hl)
    · exact List.forall_mem_cons.mpr ⟨hrc, List.forall_mem_cons.mpr ⟨Ne.symm hcI, hfc⟩⟩
    refine wpAny_mono (step i tk s.heap.objs.size oI _ m₁ o' hi hd'' j1 j2 F' N') (fun f s₃ hf => ?_) fun _ _ e => e
    obtain ⟨rfl, h₃, t₃, m₃, rfl, F₃, N₃, i1, i2⟩ := hf
    refine ⟨rfl, h₃, t₃, m₃, (c, o') :: (r, lstO vs nv) :: fp, rfl, F₃, ?_, ?_, ⟨o', _, rfl, hd'', i1, i2⟩⟩
    · exact own_append hown hown2 hst' (news_head (news_tail (news_tail N₃))) (news_cons (news_head N₃) (news_cons (news_head (news_tail N₃)) (news_tail (news_tail (news_tail N₃)))))
    · have z1 := List.forall_mem_cons.mp hoff
      exact List.forall_mem_cons.mpr ⟨z1.1, z1.2⟩
  · intro h' tk m' news' F' N' hoff hJ
    obtain ⟨oc', x', rfl, hd', j1, j2⟩ := hJ
    exact fin h' tk m' oc' F' N'
def LenHeld : Prop := True
theorem two_news {h₀ h : Heap} {L r c : Addr} {o oc : Obj} {vs : List Value} {nv : Nat} {fp : List (Addr × Obj)} (hc : h.get? c = some oc ∧ c ≠ L ∧ h₀.get? c = none) (hr : h.get? r = some o ∧ r ≠ L ∧ h₀.get? r = none) (hr' : h.get? r = some (lstO vs nv))
    (hfp : ∀ q ∈ fp, h.get? q.1 = some q.2 ∧ h₀.get? q.1 = none ∧ q.1 ≠ L ∧ q.1 ≠ r ∧ q.1 ≠ c) : News h₀ L h ((c, oc) :: (r, lstO vs nv) :: fp) := by
  intro q hq
  cases hq with
  | head => exact hc
  | tail _ hq => cases hq with
    | head => exact ⟨hr', hr.2⟩
    | tail _ hq => exact ⟨(hfp q hq).1, (hfp q hq).2.2.1, (hfp q hq).2.1⟩
theorem t1 : PySem.Challenge.rw_nb0163_01.Holds := tp (by
  w_strict (
    k_with_none
    k_with "call ref" => (refine held ?_)
    k_with "pyIter ref" => (refine held ?_)
    k_with "call builtin:len" => (rename LenHeld => z9; clear z9; (refine held ?_))
    k_with "eval ListComp" => (refine held ?_)
    k_with "And" => ((with_reducible show (_ = Flow.next ∧ ∃ _, _)); (refine held ?_))
    k_go0
    (all_goals try k_fold)
    k_steps
    refine unheld ?_
    rename IsRange _ _ _ _ _ _ _ _ => rg
    rename Top _ _ _ _ _ _ => tr
    rename Fr _ _ _ _ => F
    rename News _ _ _ _ => N
    rename Frag.In _ _ => X
    rename IntsAre _ _ => ia
    rename World => w9
    have T := topRead_of tr
    generalize hnn : 1 + 1 + 1 + 1 + (List.take 10 _).length = nn at rg
    have hnn2 : nn ≤ 14 := by rw [← hnn]; simp only [List.length_take]; omega
    refine loop_JN (P := w9.params) rg (by omega) rfl F (news4 N) rfl rfl rfl ?_ ?_ ?_ (by decide) (by decide) (by decide) ia ?_ ?_ ?_
    · refine neN ?_; omega
    · refine neN ?_; omega
    · refine neN ?_; omega
    · rw [← hnn]; simp; omega
    · clear F N rg
      intro NM nums i tk I oI h₁ t₁ m₁ r D vs nv es fp hia hi hc hmk Tn
      have F := fr_all Tn.F [(Str.ofString "k", .int (i : Nat) tk), (Str.ofString "row", .ref r), (Str.ofString "due", .ref D), (Str.ofString "numbers", .ref NM)] (by
        intro q hq; simp only [List.mem_cons, List.not_mem_nil, or_false] at hq; rcases hq with rfl | rfl | rfl | rfl
        · exact hmk
        · exact Tn.row
        · exact Tn.due
        · exact Tn.numbers)
      have N := Tn.N
      k_steps
      refine unheld ?_
      rename Fr _ _ _ _ => F
      rename News _ _ _ _ => N
      obtain ⟨oL, eL, pL, hoL, hdL, _⟩ := F.ns
      have hr9 := N _ (.head _)
      have hI9 := N _ (.tail _ (.tail _ (.tail _ (.head _))))
      have hIr : I ≠ r := by
        rintro rfl
        have z := hI9.1
        dsimp only at z hr9
        rw [hr9.1] at z; cases z
        injection hc with h; exact absurd h (by decide)
      refine step_spec (k := i) X T F.keep rfl (show callerA.depth + 1 ≤ 330 by decide) (show callerA.units + 3 ≤ 330 by decide) (Around.frames_deeper rfl) rfl (show ScopeKind.function ≠ ScopeKind.module by decide) hoL hdL (base_none F) hr9.2.2
        (to_st F hr9.1 hr9.2.2 (fun q hq => ⟨(N q (.tail _ (.tail _ (.tail _ (.tail _ hq))))).1, (N q (.tail _ (.tail _ (.tail _ (.tail _ hq))))).2.1, (Tn.fr q hq).1⟩) Tn.clo Tn.ne) Tn.ok (by omega) ?_
      intro h₂ t₂ D₂ es₂ kb hsl st₂ ok₂
      obtain ⟨sl, hsl⟩ := hsl
      have F2 := turn_after F N kb hoL hsl
      have hI2 : h₂.get? I = some oI := kb _ _ (by simp only [List.mem_cons, List.not_mem_nil, or_false]; rintro (e9 | e9); exact hIr e9; exact hI9.2.1 e9) hI9.1
      obtain ⟨vs₂, nv₂, fp₂, hr₂, hfp₂, clo₂⟩ := from_st F2 st₂ hr9.2.2 hI2 hc hI9.2.2 hI9.2.1
      have N2 := turn_news N kb hr₂ Tn.nr Tn.cr hIr hfp₂
      have hvl : vs₂.length = es₂.length := by
        have := (clo₂ h₂ F2.keep fun q hq => (hfp₂ q hq).1).2
        exact this.len
      have hel := ok₂.len
      clear F N
      k_steps
      refine unheld ?_
      rename Fr _ _ _ _ => F
      rename News _ _ _ _ => N
      refine LCg.ListComp_U (F₀ := F) rfl (by decide) rfl (by decide) rfl (ldLoc F rfl ?_)
      refine LCg.CompSrc.ledger rfl F N (.head _) (Nat.le_trans (m := 1000) (by rw [List.size_toArray]; omega) (Nat.le_of_ble_eq_true rfl)) ?_
      intro g'
      refine comp_start (es := es₂) (nv := nv₂) (X := X) (T := T) ?hh ?hdp ?hun ?hlen ?hr0 ?hE ?hfin
      case hh => exact rfl
      case hlen => exact hvl
      case hr0 => exact .head _
      case hE => exact fun h a b => (clo₂ h a fun q hq => b q (.tail _ (.tail _ (.tail _ (.tail _ hq))))).2
      case hdp => show callerA.depth + 1 ≤ 390; decide
      case hun => show callerA.units + 3 ≤ 390; decide
      case hfin =>
        intro ys news' hsub hY
        intro Dc hc' tkc Fc Nc off
        clear F N F2 N2
        have hA : AllAt hc' news' := fun q hq => (Nc q (.tail _ hq)).1
        have hY' := hY hc' Fc.keep hA
        obtain ⟨⟨ds', nd', hD', hds'⟩, hvs'⟩ := clo₂ hc' Fc.keep fun q hq => hA q (hsub q (.tail _ (.tail _ (.tail _ (.tail _ hq)))))
        obtain ⟨as1, rd1⟩ := dues_reads hY'
        obtain ⟨as2, rd2⟩ := dues_reads hds'
        refine ldLoc Fc rfl ?_
        refine SeqAt.compareNe_shaped (Reads.list (Nc _ (.head _)).1 rfl rfl rd1) (Reads.list hD' rfl rfl rd2) (shaped_dues _) (shaped_dues _) (Nat.le_of_ble_eq_true rfl) ?_
        rw [eqv_dues.mpr rfl, Bool.not_true]
        refine wpAny_truthy_bool ?_
        rw [if_neg Bool.false_ne_true]
        have N3 := (fun q hq => Nc q (.tail _ (hsub q hq)) : News _ _ hc' ((r, lstO vs₂ nv₂) :: (NM, lstO nums 0) :: _ :: (I, oI) :: fp₂))
        clear Nc hY hY' hA rd1 rd2 hds' hvs' off hsub
        k_steps
        refine unheld ?_
        exact ⟨rfl, _, _, _, D₂, vs₂, nv₂, es₂, fp₂, rfl, ⟨Fc, N3, rfl, rfl, rfl, st₂.ne, ok₂, Tn.nr, Tn.cr, fun q hq => (hfp₂ q hq).2.2.2, clo₂⟩⟩
    · clear F N rg
      intro h₁ t₁ m₁ r D vs nv es fp F N hm1 hm2 hne ok hcr hfr clo
      rename Obj.data _ = Data.cell _ => hdc
      have hr9 := N _ (.head _)
      have hc9 := N _ (.tail _ (.head _))
      dsimp only at hr9 hc9
      obtain ⟨vs', nv', fp', hr', hfp', clo'⟩ := from_stC F (to_st F hr9.1 hr9.2.2 (fun q hq => ⟨(N q (.tail _ (.tail _ hq))).1, (N q (.tail _ (.tail _ hq))).2.1, hfr q hq⟩) clo hne) hr9.2.2 hc9.1 hdc hc9.2.2 hc9.2.1
      have N1 := two_news hc9 hr9 hr' hfp'
      have F1 := fr_all F [(Str.ofString "row", .ref r), (Str.ofString "due", .ref D)] (by
        intro q hq; simp only [List.mem_cons, List.not_mem_nil, or_false] at hq; rcases hq with rfl | rfl
        · exact hm1
        · exact hm2)
      clear N F
      dsimp only
      k_steps
      rename Fr _ _ _ _ => F
      rename News _ _ _ _ => N
      refine For_invTF F ?_ (by intro _; rfl)
      k_steps
      refine unheld ?_
      rename IsRange _ _ _ _ _ _ _ _ => rg
      rename Fr _ _ _ _ => F
      rename News _ _ _ _ => N
      refine loop_2 (D := D) rg rfl F N hdc (Ne.symm hcr) (fun q hq => (hfp' q hq).2.2.2.2) rfl rfl rfl rfl rfl ?_ ?_
      · clear F N rg hm1 hm2 hr9 hc9 hr' hdc
        intro i tk I oI s₁ m₁ oc₁ hi hd₁ j1 j2 F N
        have F1 := fr_all F [(Str.ofString "row", .ref r), (Str.ofString "due", .ref D)] (by
          intro q hq; simp only [List.mem_cons, List.not_mem_nil, or_false] at hq; rcases hq with rfl | rfl
          · exact j1
          · exact j2)
        clear F
        k_steps
        refine unheld ?_
        rename Fr _ _ _ _ => F
        rename News _ _ _ _ => N
        obtain ⟨⟨ds, nd, hD, hds⟩, hvs⟩ := clo' _ F.keep fun q hq => (N q (.tail _ (.tail _ (.tail _ hq)))).1
        have hlds := hds.len
        have hel := ok.len
        refine bl_two X T F.keep rfl (show callerA.depth + 1 ≤ 370 by decide) (show callerA.units + 3 ≤ 370 by decide) (N _ (.tail _ (.head _))).1 (.of hvs) ok.sorted (fun e he => (ok.codes e he).1) (by omega) ?_
        intro h₂ tk₂ t₂ j k₂ hj
        have F2 := F.keeps k₂
        have N2 := N.grown k₂
        have hD2 := k₂ _ _ hD
        have hds2 := hds.datKeeps k₂
        have hvs2 := hvs.errKeeps k₂
        clear F N hD hds hvs k₂
        k_steps
        refine unheld ?_
        rename Fr _ _ _ _ => F
        rename News _ _ _ _ => N
        refine filt_expr (D := D) (ds := ds) (nd := nd) (pv h₂ fun e => decide (e.code < 200 + (i : Int) * 50)) rfl (by decide) rfl (by decide) rfl rfl rfl (ldLoc F rfl ⟨rfl, rfl⟩) hD2 (by omega)
          (test_ltI rfl rfl rfl (fun _ => rfl) rfl rfl ⟨_, (N _ (.head _)).1, hd₁⟩ fun v hv => ?_) ?_
        · obtain ⟨e, _, de⟩ := hds2.mem hv
          exact ⟨e, de, pv_eq de⟩
        intro h₃ tk₃ M₃ n₃ hM₃ hM₃' k₃
        have F3 := F.keeps k₃
        have N3 := N.grown k₃
        have hD3 := k₃ _ _ hD2
        have hds3 := hds2.datKeeps k₃
        have hvs3 := hvs2.errKeeps k₃
        have hcnt := cnt_lt_len hj hds2
        have hjl := hj.le
        clear F N hD2 hvs2 k₃
        have z9 : LenHeld := trivial
        k_steps
        refine unheld ?_
        rename Fr _ _ _ _ => F
        rename News _ _ _ _ => N
        have hlM : Heap.IsList _ M₃ (ds.filter (pv h₂ fun e => decide (e.code < 200 + (i : Int) * 50))).toArray := ⟨_, hM₃', rfl, n₃, rfl⟩
        refine len_list hlM (by rw [List.size_toArray, hcnt]; omega) ?_
        rw [show ((ds.filter (pv h₂ fun e => decide (e.code < 200 + (i : Int) * 50))).toArray.size : Int) = (j : Int) by rw [List.size_toArray, hcnt]]
        clear hlM hM₃' hM₃ hcnt hds2
        k_steps
        · exfalso; omega
        refine unheld ?_
        rename Fr _ _ _ _ => F
        rename News _ _ _ _ => N
        refine br_two X T F.keep rfl (show callerA.depth + 1 ≤ 370 by decide) (show callerA.units + 3 ≤ 370 by decide) (N _ (.tail _ (.head _))).1 (.of hvs3) ok.sorted (fun e he => (ok.codes e he).1) (by omega) ?_
        intro h₄ tk₄ t₄ j₂ k₄ hj₂
        have F4 := F.keeps k₄
        have N4 := N.grown k₄
        have hD4 := k₄ _ _ hD3
        have hds4 := hds3.datKeeps k₄
        clear F N hD3 hvs3 hds3 k₄
        k_steps
        refine unheld ?_
        rename Fr _ _ _ _ => F
        rename News _ _ _ _ => N
        refine filt_expr (D := D) (ds := ds) (nd := nd) (pv h₄ fun e => decide (e.code ≤ 200 + (i : Int) * 50)) rfl (by decide) rfl (by decide) rfl rfl rfl (ldLoc F rfl ⟨rfl, rfl⟩) hD4 (by omega)
          (test_leI rfl rfl rfl (fun _ => rfl) rfl rfl ⟨_, (N _ (.head _)).1, hd₁⟩ fun v hv => ?_) ?_
        · obtain ⟨e, _, de⟩ := hds4.mem hv
          exact ⟨e, de, pv_eq de⟩
        intro h₅ tk₅ M₅ n₅ hM₅ hM₅' k₅
        have F5 := F.keeps k₅
        have N5 := N.grown k₅
        have hcnt := cnt_le_len hj₂ hds4
        have hjl₂ := hj₂.le
        clear F N hD4 k₅
        have z9 : LenHeld := trivial
        k_steps
        refine unheld ?_
        rename Fr _ _ _ _ => F
        rename News _ _ _ _ => N
        have hlM : Heap.IsList _ M₅ (ds.filter (pv h₄ fun e => decide (e.code ≤ 200 + (i : Int) * 50))).toArray := ⟨_, hM₅', rfl, n₅, rfl⟩
        refine len_list hlM (by rw [List.size_toArray, hcnt]; omega) ?_
        rw [show ((ds.filter (pv h₄ fun e => decide (e.code ≤ 200 + (i : Int) * 50))).toArray.size : Int) = (j₂ : Int) by rw [List.size_toArray, hcnt]]
        clear hlM hM₅' hM₅ hcnt hds4
        k_steps
        · exfalso; omega
        refine unheld ?_
        rename Fr _ _ _ _ => F
        rename News _ _ _ _ => N
        exact ⟨rfl, _, _, _, rfl, F, N, rfl, rfl⟩
      · clear F N rg
        intro h₁ t₁ m₁ oc₁ F N
        k_steps))
end Mine
theorem PySem.Challenge.cw_nb0163_01_holds : PySem.Challenge.rw_nb0163_01.Holds := by
  exact Mine.t1
