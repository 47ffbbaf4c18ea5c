import PyProof.Rows.All
import Wide.All
import OpenK.AllK
import Wide.FinOn
import PySem.Challenge.RW_mj0126_01
open PySem PySem.W PySem.Calls PyProof.Rows
set_option Elab.async false
set_option maxRecDepth 100000
set_option maxHeartbeats 8000000
namespace Mine
open_top hd for PySem.Challenge.rw_mj0126_01
end Mine

namespace Mine
section
abbrev Keeps (h h' : Heap) : Prop := ∀ b o, h.get? b = some o → h'.get? b = some o

theorem news_keeps {h₀ h h' : Heap} {L : Addr} {news : List (Addr × Obj)} (N : News h₀ L h news) (k : Keeps h h') : News h₀ L h' news :=
  fun p hp => ⟨k _ _ (N p hp).1, (N p hp).2⟩

/-- a def called upon an empty ledger -/
theorem enterP {prog : Program} {w : World} {A A₀ : Around} {s : Shared} {K : Frag} {L : Addr} {h₀ base : Heap} {m mg mb : Str → Option Value} {p : Program} {loose : List Str} {mean : ExcName → Option Value}
    {env : Env} {outer : List Env} {R : Result → Shared → Prop} {name qual : Str} {params : Arguments} {body : List Stmt} {scope : Scope} {dV kV doc pm cdv ct oc : Value} {an od : Option Addr} {osl : Array (Option Value)} {f : Addr} {args : Args} {binds : List (Str × Value)}
    (B : Below A₀ base outer h₀) (F : Fr h₀ L s.heap m) (X₀ : K.In h₀) (T : Top p loose mean mg mb h₀) (hA : A.frames = some (env :: outer)) (hf : env.frame = some L) (hke : env.scope.kind = .function)
    (ho : K.lookup f = some ⟨oc, od, .func (fnOf name qual params body scope dV kV doc pm an cdv ct), osl⟩) (hcd : codeIn K cdv qual = true) (hroom : A.depth < recursionLimit)
    (hbind : BindsTo s (fnOf name qual params body scope dV kV doc pm an cdv ct) args binds) (hloc : ∀ y ∈ binds, scope.names.lookup y.1 = some .local)
    (h : ∀ g L' h₁, g = s.heap → Fr g L' h₁ (fun y => binds.reverse.lookup y) → News g L' h₁ [] → Below A base (env :: outer) g → K.In g → Top p loose mean mg mb g →
      wpAny (model prog w) (A.deeper (envOf qual scope L' f cdv)) (execs body (envOf qual scope L' f cdv))
        (fun fl s' => LeaveK h₀ L m g (fun r s' => Keeps g s'.heap → R r s') (match fl with | .ret v => v | _ => .none) s')
        (fun e s' => wpAny (model prog w) (A.deeper (envOf qual scope L' f cdv)) (leaving (envOf qual scope L' f cdv) e) (fun _ s'' => R (.error e) s'') (fun e' s'' => R (.error e') s'') s')
        { s with heap := h₁, toks := s.toks + binds.length })
    (hco : scope.isCoroutine = false) (hgen : scope.isGenerator = false) (hk : scope.kind = .function)
    (hcell : ∀ x ∈ scope.names, x.2 ≠ .cell) : codeAny (model prog w) A (.call (.ref f) args) R s := by
  refine codeAny_call_def (fd := fnOf name qual params body scope dV kV doc pm an cdv ct) (body := body) (binds := binds) hroom ((X₀.keeps F.keep) _ _ ho) rfl (T.nolimit.keeps F.keep) (codeRec_of (X₀.keeps F.keep) hcd) rfl hbind hcell hloc (fun h₁ hns hk₁ => ?_) hco hgen hk
  have B₁ := pushX B F hf hke
  refine wpAny_mono (h s.heap s.heap.objs.size h₁ rfl ⟨hns, hk₁, Nat.le_refl _⟩ News.nil ⟨hA, B₁.stays, B₁.frames⟩ (X₀.keeps F.keep) (T.keeps F.keep)) (fun fl s' hl => ?_) fun _ _ y => y
  obtain ⟨L', m', news', F', N', k⟩ := hl
  obtain ⟨oL, es, ep, hL, r⟩ := F.ns
  refine k ⟨⟨oL, es, ep, F'.keep L oL hL, r⟩, fun b o e => F'.keep b o (F.keep b o e), F.above⟩ (fun q hq => ⟨(N' q hq).1, fun e => ?_, ?_⟩) F'.keep
  · have := (N' q hq).2.2; rw [e, hL] at this; cases this
  · cases e : h₀.get? q.1 with
    | none => rfl
    | some o => have := (N' q hq).2.2; rw [F.keep _ _ e] at this; cases this

/-- a call that changes nothing of what stood -/
structure Ctr (w : World) (f : Addr) (vs : List Value) (kw : List (Str × Value)) (pre : Heap → Prop) (d u : Nat) (R : Tok → Value) : Prop where
  go : ∀ {p : Program} {loose : List Str} {mean : ExcName → Option Value} {mg mb : Str → Option Value} {dp un : Nat} {gd : Option (List Code)} {cn : Str} {cs : Scope} {a : Addr} {ccd : Value} {cl : List (Str × Addr)} {outer : List Env} {A₀ : Around} {base h₀ : Heap} {L : Addr} {m : Str → Option Value} {news : List (Addr × Obj)} {s : Shared} {Q E : Value → Shared → Prop},
    Below A₀ base outer h₀ → Fr h₀ L s.heap m → (hd.heap_39 w.params).In h₀ → News h₀ L s.heap news → Top p loose mean mg mb h₀ → cs.kind = .function → dp + d < recursionLimit → un + u < cLine → pre s.heap →
    (∀ t h' tk', Fr h₀ L h' m → News h₀ L h' news → Keeps s.heap h' → Q (R t) { s with heap := h', toks := tk' }) →
    wpAny (model PySem.Challenge.rw_mj0126_01.row.prog w) (ktrTop dp un gd cn cs L a ccd cl outer) (call (.ref f) vs kw) Q E s

theorem Ctr.use {w : World} {f : Addr} {vs : List Value} {kw : List (Str × Value)} {pre : Heap → Prop} {d u : Nat} {R : Tok → Value} (C : Ctr w f vs kw pre d u R)
    {p : Program} {loose : List Str} {mean : ExcName → Option Value} {mg mb : Str → Option Value} {dp un : Nat} {gd : Option (List Code)} {cn : Str} {cs : Scope} {a : Addr} {ccd : Value} {cl : List (Str × Addr)} {outer : List Env} {A₀ : Around} {base h₀ : Heap} {L : Addr} {m : Str → Option Value} {news : List (Addr × Obj)} {s : Shared} {Q E : Value → Shared → Prop}
    (B : Below A₀ base outer h₀) (F : Fr h₀ L s.heap m) (X : (hd.heap_39 w.params).In h₀) (N : News h₀ L s.heap news) (T : Top p loose mean mg mb h₀) (hk : cs.kind = .function) (hd : dp + d < recursionLimit) (hu : un + u < cLine) (hp : pre s.heap)
    (ret : ∀ t h' tk', Fr h₀ L h' m → News h₀ L h' news → Keeps s.heap h' → Q (R t) { s with heap := h', toks := tk' }) :
    wpAny (model PySem.Challenge.rw_mj0126_01.row.prog w) (ktrTop dp un gd cn cs L a ccd cl outer) (call (.ref f) vs kw) Q E s := C.go B F X N T hk hd hu hp ret
end
end Mine

namespace Mine
section
/-- a def with cells, called upon an empty ledger -/
theorem enterC {prog : Program} {w : World} {A A₀ : Around} {s : Shared} {K : Frag} {L : Addr} {h₀ base : Heap} {m mg mb : Str → Option Value} {p : Program} {loose : List Str} {mean : ExcName → Option Value}
    {env : Env} {outer : List Env} {R : Result → Shared → Prop} {name qual : Str} {params : Arguments} {body : List Stmt} {scope : Scope} {dV kV doc pm cdv ct oc : Value} {an od : Option Addr} {osl : Array (Option Value)} {f : Addr} {args : Args} {binds : List (Str × Value)}
    (B : Below A₀ base outer h₀) (F : Fr h₀ L s.heap m) (X₀ : K.In h₀) (T : Top p loose mean mg mb h₀) (hA : A.frames = some (env :: outer)) (hf : env.frame = some L) (hke : env.scope.kind = .function)
    (ho : K.lookup f = some ⟨oc, od, .func (fnOf name qual params body scope dV kV doc pm an cdv ct), osl⟩) (hcd : codeIn K cdv qual = true) (hroom : A.depth < recursionLimit)
    (hbind : BindsTo s (fnOf name qual params body scope dV kV doc pm an cdv ct) args binds) (hkind : (binds.all fun y => scope.names.lookup y.1 == some .local || scope.names.lookup y.1 == some .cell) = true)
    (hnd : ((cellsFrom 0 scope.names []).map (·.1)).Nodup)
    (h : ∀ g L' h₁ tk cells, g = s.heap → Fr g L' h₁ (bindL (envOfC qual scope L' f cdv).kindOf binds fun _ => none) → News g L' h₁ cells →
      CellsAre (bindC (envOfC qual scope L' f cdv).kindOf binds fun _ => none) (cellsFrom (L' + 1) scope.names []) cells → Below A base (env :: outer) g → K.In g → Top p loose mean mg mb g →
      wpAny (model prog w) (A.deeper (envOfC qual scope L' f cdv)) (execs body (envOfC qual scope L' f cdv))
        (fun fl s' => LeaveK h₀ L m g (fun r s' => Keeps g s'.heap → R r s') (match fl with | .ret v => v | _ => .none) s')
        (fun e s' => wpAny (model prog w) (A.deeper (envOfC qual scope L' f cdv)) (leaving (envOfC qual scope L' f cdv) e) (fun _ s'' => R (.error e) s'') (fun e' s'' => R (.error e') s'') s')
        { s with heap := h₁, toks := tk })
    (hco : scope.isCoroutine = false) (hgen : scope.isGenerator = false) (hk : scope.kind = .function) : codeAny (model prog w) A (.call (.ref f) args) R s := by
  have B₁ := pushX B F hf hke
  refine codeAny_call_function hroom ((X₀.keeps F.keep) _ _ ho) rfl hco hgen rfl (codeRec_of (X₀.keeps F.keep) hcd) (hbind _ _ _ _ ?_)
  refine wpAny_newFunctionEnv_cells hk (kindsX hkind _) fun env' he s' x => ?_
  subst he
  refine ⟨(T.nolimit.keeps F.keep).keeps x.toInCall.keep, codeAny_func ?_⟩
  obtain ⟨h₁, tk, rfl, _⟩ := x.done
  have hk₁ := x.toInCall.keep
  obtain ⟨cells, NC, Y⟩ := Cl.news (h₀ := s.heap) (Nat.le_refl _) fun n c hm => ⟨x.cell n c (lookup_of_mem_nodup (cellsFrom_names scope.names 0 (s.heap.objs.size + 1) [] [] rfl ▸ hnd) hm), x.above n c hm⟩
  refine wpAny_mono (h s.heap s.heap.objs.size h₁ tk cells rfl ⟨x.toInCall.ns, hk₁, Nat.le_refl _⟩ NC Y ⟨hA, B₁.stays, B₁.frames⟩ (X₀.keeps F.keep) (T.keeps F.keep)) (fun fl s' hl => ?_) fun _ _ y => y
  obtain ⟨L', m', news', F', N', k⟩ := hl
  obtain ⟨oL, es, ep, hL, r⟩ := F.ns
  refine k ⟨⟨oL, es, ep, F'.keep L oL hL, r⟩, fun b o e => F'.keep b o (F.keep b o e), F.above⟩ (fun q hq => ⟨(N' q hq).1, fun e => ?_, ?_⟩) F'.keep
  · have := (N' q hq).2.2; rw [e, hL] at this; cases this
  · cases e : h₀.get? q.1 with
    | none => rfl
    | some o => have := (N' q hq).2.2; rw [F.keep _ _ e] at this; cases this
end
end Mine

namespace Mine
section
/-- a lambda without cells, called upon an empty ledger -/
theorem enterE {prog : Program} {w : World} {A A₀ : Around} {s : Shared} {K : Frag} {L : Addr} {h₀ base : Heap} {m mg mb : Str → Option Value} {p : Program} {loose : List Str} {mean : ExcName → Option Value}
    {env : Env} {outer : List Env} {R : Result → Shared → Prop} {name qual : Str} {params : Arguments} {body : Expr} {scope : Scope} {pm ct : Value} {f c : Addr} {args : Args} {binds : List (Str × Value)}
    (B : Below A₀ base outer h₀) (F : Fr h₀ L s.heap m) (X₀ : K.In h₀) (T : Top p loose mean mg mb h₀) (hA : A.frames = some (env :: outer)) (hf : env.frame = some L) (hke : env.scope.kind = .function)
    (ho : s.heap.get? f = some (kla_obj name qual params body scope [] pm c ct)) (hcd : s.heap.CodeRec (.ref c) qual) (hroom : A.depth < recursionLimit)
    (hbind : BindsTo s (kla_fn name qual params body scope [] pm (.ref c) ct) args binds) (hloc : ∀ y ∈ binds, scope.names.lookup y.1 = some .local)
    (h : ∀ g L' h₁, g = s.heap → Fr g L' h₁ (fun y => binds.reverse.lookup y) → News g L' h₁ [] → Below A base (env :: outer) g → K.In g → Top p loose mean mg mb g →
      wpAny (model prog w) (A.deeper (envOf qual scope L' f (.ref c))) (eval body (envOf qual scope L' f (.ref c)))
        (fun v s' => LeaveK h₀ L m g (fun r s' => Keeps g s'.heap → R r s') v s')
        (fun e s' => wpAny (model prog w) (A.deeper (envOf qual scope L' f (.ref c))) (leaving (envOf qual scope L' f (.ref c)) e) (fun _ s'' => R (.error e) s'') (fun e' s'' => R (.error e') s'') s')
        { s with heap := h₁, toks := s.toks + binds.length })
    (hco : scope.isCoroutine = false) (hgen : scope.isGenerator = false) (hk : scope.kind = .function)
    (hcell : ∀ x ∈ scope.names, x.2 ≠ .cell) : codeAny (model prog w) A (.call (.ref f) args) R s := by
  have B₁ := pushX B F hf hke
  refine kla_callFunE hroom ho rfl hco hgen rfl hcd (hbind _ _ _ _ ?_)
  refine wpAny_newFunctionEnv hcell hloc (fun h₁ hns hsb => ⟨(T.nolimit.keeps F.keep).fresh _ hsb, kla_codeExpr ?_⟩) hk
  have hk₁ : ∀ b o, s.heap.get? b = some o → h₁.get? b = some o := fun b o e => hsb.extBut b o (Nat.ne_of_lt (Heap.lt_size e)) (Heap.get?_push_of_some _ e)
  refine wpAny_mono (h s.heap s.heap.objs.size h₁ rfl ⟨hns, hk₁, Nat.le_refl _⟩ News.nil ⟨hA, B₁.stays, B₁.frames⟩ (X₀.keeps F.keep) (T.keeps F.keep)) (fun fl s' hl => ?_) fun _ _ y => y
  obtain ⟨L', m', news', F', N', k⟩ := hl
  obtain ⟨oL, es, ep, hL, r⟩ := F.ns
  refine k ⟨⟨oL, es, ep, F'.keep L oL hL, r⟩, fun b o e => F'.keep b o (F.keep b o e), F.above⟩ (fun q hq => ⟨(N' q hq).1, fun e => ?_, ?_⟩) F'.keep
  · have := (N' q hq).2.2; rw [e, hL] at this; cases this
  · cases e : h₀.get? q.1 with
    | none => rfl
    | some o => have := (N' q hq).2.2; rw [F.keep _ _ e] at this; cases this
theorem Ctr.same {w : World} {f : Addr} {vs : List Value} {kw : List (Str × Value)} {pre : Heap → Prop} {d u : Nat} {R R' : Tok → Value} (C : Ctr w f vs kw pre d u R) (e : R = R') : Ctr w f vs kw pre d u R' := e ▸ C
end
end Mine

namespace Mine
section
open Builtin
theorem type_bytes_call {prog : Program} {w : World} {A : Around} {E : Value → Shared → Prop} {s : Shared} {b : Array UInt8} {t : Tok} {Q : Value → Shared → Prop} (h : Q (.type "bytes") s) :
    wpAny (model prog w) A (call (.type "type") [.bytes b t]) Q E s := by
  refine call_type_of (Tx := "bytes") rfl (by decide +kernel) h

theorem slot_upper : Slot "bytes" "upper" "bytes.upper" :=
  .of (owner := "bytes") (n := "upper") (by rw [typeLookup_type, builtinLookup_eq_fast]; kernel_rfl) (by decide +kernel) (by decide +kernel) (by decide +kernel)
    (by first | exact .inl (by decide +kernel) | exact .inr (by decide +kernel)) (by rw [isSubtype_type]; kernel_rfl)
theorem mtype_upper : typeOf (.builtin "bytes.upper") = pure (.type "method_descriptor") := by show builtinType _ = _; rw [builtinType_eq_fast]; kernel_rfl
theorem entry_upper : entryFor table "bytes.upper" = some Builtin.«bytes.upper» := entryFor_of_tree (by kernel_rfl)
theorem args_upper (a : Value) : argsOk "bytes.upper" ⟨[a], []⟩ := by
  unfold argsOk; rw [signature?_of (id := "bytes.upper") (n := ['r', 'e', 'p', 'p', 'u']) (o := ['s', 'e', 't', 'y', 'b']) (by kernel_rfl) FB.owner_bytes]; kernel_rfl
theorem slot_translate : Slot "bytes" "translate" "bytes.translate" :=
  .of (owner := "bytes") (n := "translate") (by rw [typeLookup_type, builtinLookup_eq_fast]; kernel_rfl) (by decide +kernel) (by decide +kernel) (by decide +kernel)
    (by first | exact .inl (by decide +kernel) | exact .inr (by decide +kernel)) (by rw [isSubtype_type]; kernel_rfl)
theorem mtype_translate : typeOf (.builtin "bytes.translate") = pure (.type "method_descriptor") := by show builtinType _ = _; rw [builtinType_eq_fast]; kernel_rfl
theorem entry_translate : entryFor table "bytes.translate" = some Builtin.«bytes.translate» := entryFor_of_tree (by kernel_rfl)
theorem args_translate (a b : Value) : argsOk "bytes.translate" ⟨[a, b], []⟩ := by
  unfold argsOk; rw [signature?_of (id := "bytes.translate") (n := ['e', 't', 'a', 'l', 's', 'n', 'a', 'r', 't']) (o := ['s', 'e', 't', 'y', 'b']) (by kernel_rfl) FB.owner_bytes]; kernel_rfl

section
variable {M : Model} {prog : Program} {w : World} {A : Around} {E : Value → Shared → Prop} {s : Shared} {b tb : Array UInt8} {t u : Tok}
theorem gm_upper {pl : Sem Bool} {Q : Value × List Value → Shared → Prop} (h : Q (.builtin "bytes.upper", [.bytes b t]) s) : wpAny M A (getMethod (.bytes b t) "upper" pl) Q E s := by
  with_reducible exact KBd.method_of (.bytes b t) (typeIs_bytes _ _ _) slot_upper mtype_upper KBd.noRef h
theorem gm_translate {pl : Sem Bool} {Q : Value × List Value → Shared → Prop} (h : Q (.builtin "bytes.translate", [.bytes b t]) s) : wpAny M A (getMethod (.bytes b t) "translate" pl) Q E s := by
  with_reducible exact KBd.method_of (.bytes b t) (typeIs_bytes _ _ _) slot_translate mtype_translate KBd.noRef h
theorem gm_hex {pl : Sem Bool} {Q : Value × List Value → Shared → Prop} (h : Q (.builtin "bytes.hex", [.bytes b t]) s) : wpAny M A (getMethod (.bytes b t) "hex" pl) Q E s := by
  with_reducible exact KBd.method_of (.bytes b t) (typeIs_bytes _ _ _) FB.slot_bytes_hex FB.type_bytes_hex KBd.noRef h

theorem gm_encode {x : Str} {pl : Sem Bool} {Q : Value × List Value → Shared → Prop} (h : Q (.builtin "str.encode", [.str x t]) s) : wpAny M A (getMethod (.str x t) "encode" pl) Q E s :=
  getMethod_builtin (typeIs_str _ _ _) F.plainAttrs_str F.slot_str_encode F.type_str_encode (fun _ e => nomatch e) h
theorem upper_tree : «bytes.upper» ⟨[.bytes b t], []⟩ = (do ret (← mkBytes (b.toList.map Bytes.toUpper).toArray)) := rfl
theorem meets_upper : Meets («bytes.upper» ⟨[.bytes b t], []⟩) (fun _ R s => b.size ≤ sizeLine ∧ ∀ t' k, R (.ok (.ret (.bytes (b.toList.map Bytes.toUpper).toArray t'))) { s with toks := k }) := by
  refine .of_wp fun prog w A R s hS => ?_
  obtain ⟨hsz, h⟩ := hS
  rw [upper_tree]
  refine wpAny_bind (wpAny_mkBytes ?_ (by simpa using hsz))
  exact wpAny_pure ⟨_, rfl, h _ _⟩
theorem call_upper {Q : Value → Shared → Prop} (hsz : b.size ≤ sizeLine) (h : ∀ t' k, Q (.bytes (b.toList.map Bytes.toUpper).toArray t') { s with toks := k }) :
    wpAny (model prog w) A (call (.builtin "bytes.upper") [.bytes b t]) Q E s :=
  call_meets slot_upper (typeIs_bytes _ _ _) entry_upper (args_upper _) meets_upper ⟨hsz, h⟩

noncomputable def hexCps (b : List UInt8) : List Nat := b.flatMap fun c => [Bytes.hexDigit (c.toNat / 16), Bytes.hexDigit (c.toNat % 16)]
theorem hex_tree : «bytes.hex» ⟨[.bytes b t], []⟩ = retStr ⟨(b.toList.zipIdx.foldl (fun (out : Array Nat) (c, _) => (out.push (Bytes.hexDigit (c.toNat / 16))).push (Bytes.hexDigit (c.toNat % 16))) #[])⟩ := rfl
theorem hex_fold : ∀ (l : List UInt8) (n : Nat) (acc : Array Nat), (l.zipIdx n).foldl (fun (out : Array Nat) (c, _) => (out.push (Bytes.hexDigit (c.toNat / 16))).push (Bytes.hexDigit (c.toNat % 16))) acc = acc ++ (hexCps l).toArray
  | [], _, acc => by simp [hexCps]
  | c :: r, n, acc => by
    rw [List.zipIdx_cons, List.foldl_cons, hex_fold r]
    apply Array.ext'
    simp [hexCps]
theorem hex_len (l : List UInt8) : (hexCps l).length = 2 * l.length := by
  induction l with
  | nil => rfl
  | cons c r ih => simp only [hexCps, List.flatMap_cons, List.length_append, List.length_cons, List.length_nil] at ih ⊢; omega
theorem meets_hex : Meets («bytes.hex» ⟨[.bytes b t], []⟩) (fun _ R s => 2 * b.size ≤ sizeLine ∧ ∀ t' k, R (.ok (.ret (.str ⟨(hexCps b.toList).toArray⟩ t'))) { s with toks := k }) := by
  refine .of_wp fun prog w A R s hS => ?_
  obtain ⟨hsz, h⟩ := hS
  rw [hex_tree, hex_fold, show (#[] : Array Nat) ++ (hexCps b.toList).toArray = (hexCps b.toList).toArray by simp]
  refine wpAny_bind (wpAny_mkStr ?_ ?_)
  · exact wpAny_pure ⟨_, rfl, h _ _⟩
  · show (hexCps b.toList).toArray.size ≤ sizeLine
    rw [List.size_toArray, hex_len]; simpa using hsz
theorem call_hex {Q : Value → Shared → Prop} (hsz : 2 * b.size ≤ sizeLine) (h : ∀ t' k, Q (.str ⟨(hexCps b.toList).toArray⟩ t') { s with toks := k }) :
    wpAny (model prog w) A (call (.builtin "bytes.hex") [.bytes b t]) Q E s :=
  call_meets FB.slot_bytes_hex (typeIs_bytes _ _ _) FB.entry_bytes_hex (FB.args_bytes_hex_1 _) meets_hex ⟨hsz, h⟩

noncomputable def trans (tb b : Array UInt8) : Array UInt8 := b.map fun c => tb.getD c.toNat c
theorem meets_translate (htb : tb.size = 256) : Meets («bytes.translate» ⟨[.bytes b t, .bytes tb u], []⟩) (fun _ R s => b.size ≤ sizeLine ∧ ∀ t' k, R (.ok (.ret (.bytes (trans tb b) t'))) { s with toks := k }) := by
  refine .of_wp fun prog w A R s hS => ?_
  obtain ⟨hsz, h⟩ := hS
  have e0 : (Value.bytes tb u == Value.none) = false := rfl
  show wpAny _ _ (Bytes.bytesLike _ (.bytes tb u) >>= fun r => _) _ _ s
  refine wpAny_bind (wpAny_of_eq KBd.like_eq ?_)
  have eo : ((b.filter (!(#[] : Array UInt8).contains ·)).map fun c => tb.getD c.toNat c) = trans tb b := by
    unfold trans; congr 1; simp
  simp only [htb, bne_self_eq_false, Bool.false_eq_true, if_false]
  refine wpAny_bind (wpAny_pure ?_)
  refine wpAny_bind (wpAny_pure ?_)
  refine wpAny_bind (wpAny_pure ?_)
  simp only [eo]
  split
  · rename_i hq
    have hq' : trans tb b = b := eq_of_beq hq
    refine wpAny_bind (wpAny_rule ?_)
    have es : Bytes.Kind.bytes.same (Value.bytes b t) = pure (.bytes b t) := rfl
    rw [es]
    refine wpAny_bind (wpAny_pure (wpAny_pure ⟨_, rfl, ?_⟩))
    have := h t s.toks
    rw [hq'] at this
    exact this
  · show wpAny _ _ (mkBytes (trans tb b) >>= fun v => ret v) _ _ _
    refine wpAny_bind (wpAny_mkBytes ?_ (by unfold trans; simpa using hsz))
    exact wpAny_pure ⟨_, rfl, h _ _⟩
theorem call_translate {Q : Value → Shared → Prop} (htb : tb.size = 256) (hsz : b.size ≤ sizeLine) (h : ∀ t' k, Q (.bytes (trans tb b) t') { s with toks := k }) :
    wpAny (model prog w) A (call (.builtin "bytes.translate") [.bytes b t, .bytes tb u]) Q E s :=
  call_meets slot_translate (typeIs_bytes _ _ _) entry_translate (args_translate _ _) (meets_translate htb) ⟨hsz, h⟩

theorem forIn_done {β : Type} (f : Nat → β → Sem (ForInStep β)) (b : β) (n k : Nat) (h2 : ∀ i, f i b = pure (.done b)) : forIn (List.range' k n) b f = pure b := by
  cases n with
  | zero => rfl
  | succ n => rw [List.range'_succ, List.forIn_cons, h2]; rfl
theorem forIn_two {β : Type} (f : Nat → β → Sem (ForInStep β)) (a b : β) (n k : Nat) (h1 : ∀ i, f i a = pure (.yield b)) (h2 : ∀ i, f i b = pure (.done b)) : forIn (List.range' k (n + 1)) a f = pure b := by
  rw [List.range'_succ, List.forIn_cons, h1]
  exact forIn_done f b n (k + 1) h2
theorem fold_ascii (l : List Nat) (acc : Array UInt8) : l.foldl (fun acc y => acc ++ (_codecs.asciiCodec.bytesOf y).toArray) acc = acc ++ (l.map (·.toUInt8)).toArray := by
  induction l generalizing acc with
  | nil => simp
  | cons c r ih => rw [List.foldl_cons, ih]; apply Array.ext'; simp [_codecs.asciiCodec]
abbrev NSt := Nat × Array UInt8 × _codecs.Faults
/-- the loop of the narrow codecs, what it does at a sign that the codec lacks left open -/
noncomputable abbrev nstep (x : Str) (G : NSt → Nat → Sem (ForInStep NSt)) (s : NSt) : Sem (ForInStep NSt) :=
  have jp : PUnit → Sem (ForInStep NSt) := fun _ => match x.cps[s.1]? with
    | some c => if (!_codecs.asciiCodec.bad c) = true then
        pure (ForInStep.yield (s.1 + (Array.findIdx? _codecs.asciiCodec.bad (x.cps.extract s.1 x.cps.size)).getD (x.cps.extract s.1 x.cps.size).size, ((x.cps.extract s.1 x.cps.size).extract 0 ((Array.findIdx? _codecs.asciiCodec.bad (x.cps.extract s.1 x.cps.size)).getD (x.cps.extract s.1 x.cps.size).size)).foldl (fun acc y => acc ++ (_codecs.asciiCodec.bytesOf y).toArray) s.2.1, s.2.2)) else G s c
    | _ => pure (ForInStep.done (s.1, s.2.1, s.2.2))
  if s.2.1.size > sizeLine then (do let r ← unsupported "bytes:memory"; jp r) else jp ()
theorem narrow_any (x : Str) (G : NSt → Nat → Sem (ForInStep NSt)) (h : ∀ c ∈ x.cps.toList, c < 128) (hsz : x.cps.size ≤ sizeLine) :
    (do let s ← forIn [:x.length] ((0, #[], {}) : NSt) fun _ s => nstep x G s
        pure s.2.1) = (pure (x.cps.map (·.toUInt8)) : Sem (Array UInt8)) := by
  have hnb : ∀ i c, x.cps[i]? = some c → _codecs.asciiCodec.bad c = false := fun i c e => by
    have : c ∈ x.cps.toList := by rw [Array.mem_toList_iff]; exact Array.mem_of_getElem? e
    exact decide_eq_false (Nat.not_le.mpr (h c this))
  rw [Std.Legacy.Range.forIn_eq_forIn_range', show [:x.length].size = x.cps.size by simp [Std.Legacy.Range.size, Str.length]]
  cases hn : x.cps.size with
  | zero =>
    have : x.cps = #[] := Array.size_eq_zero_iff.mp hn
    rw [show List.range' 0 0 = [] from rfl, List.forIn_nil]
    show Sem.pure #[] = _
    rw [this, Array.map_empty]; rfl
  | succ n =>
    obtain ⟨c, hc⟩ : ∃ c, x.cps[0]? = some c := ⟨x.cps[0]'(by omega), by rw [Array.getElem?_eq_getElem]⟩
    rw [forIn_two (b := (n + 1, x.cps.map (·.toUInt8), {}))]
    · rfl
    · intro i
      have e1 : x.cps.extract 0 x.cps.size = x.cps := by simp
      have e2 : Array.findIdx? _codecs.asciiCodec.bad x.cps = none := by
        rw [Array.findIdx?_eq_none_iff]
        intro c hc
        obtain ⟨j, hj, e⟩ := Array.mem_iff_getElem.mp hc
        exact hnb j c (by rw [Array.getElem?_eq_getElem hj, e])
      unfold nstep
      dsimp only
      rw [if_neg (by simp)]
      simp only [hc, hnb 0 c hc, Bool.not_false, if_true, e1, e2, Option.getD_none, Nat.zero_add]
      have := fold_ascii x.cps.toList #[]
      rw [Array.foldl_toList] at this
      rw [this, hn]
      congr 4
      apply Array.ext'; simp
    · intro i
      unfold nstep
      dsimp only
      rw [if_neg (by simp; omega)]
      rw [show x.cps[n + 1]? = none by rw [Array.getElem?_eq_none_iff]; omega]
open _codecs in
theorem narrow_ascii (id : String) (self : Value) (x : Str) (h : ∀ c ∈ x.cps.toList, c < 128) (hsz : x.cps.size ≤ sizeLine) : encodeNarrow id asciiCodec none self x = pure (x.cps.map (·.toUInt8)) :=
  narrow_any x _ h hsz

theorem encodeRoad_ascii (id : String) (self : Value) (x : Str) (errors : Option Str) : _codecs.encodeRoad id self x (Str.ofString "ascii") errors = (do mkBytes (← _codecs.encodeNarrow id _codecs.asciiCodec errors self x)) := by
  first | rfl | (unfold _codecs.encodeRoad; rfl) | kernel_rfl
theorem encode_ascii_tree (x : Str) (t u : Tok) : «str.encode» ⟨[.str x t, .str (Str.ofString "ascii") u], []⟩ = (do ret (← _codecs.encodeRoad "str.encode" (.str x t) x (Str.ofString "ascii") none)) := by
  first | rfl | kernel_rfl
noncomputable def asc (x : Str) : Array UInt8 := x.cps.map (·.toUInt8)
theorem meets_encode {x : Str} (ha : ∀ c ∈ x.cps.toList, c < 128) : Meets («str.encode» ⟨[.str x t, .str (Str.ofString "ascii") u], []⟩) (fun _ R s => x.cps.size ≤ sizeLine ∧ ∀ t' k, R (.ok (.ret (.bytes (asc x) t'))) { s with toks := k }) := by
  refine .of_wp fun prog w A R s hS => ?_
  obtain ⟨hsz, h⟩ := hS
  rw [encode_ascii_tree, encodeRoad_ascii, narrow_ascii _ _ _ ha hsz]
  refine wpAny_bind (wpAny_bind (wpAny_pure ?_))
  refine wpAny_mkBytes ?_ (by simpa using hsz)
  exact wpAny_pure ⟨_, rfl, h _ _⟩
theorem call_encode {x : Str} {Q : Value → Shared → Prop} (ha : ∀ c ∈ x.cps.toList, c < 128) (hsz : x.cps.size ≤ sizeLine) (h : ∀ t' k, Q (.bytes (asc x) t') { s with toks := k }) :
    wpAny (model prog w) A (call (.builtin "str.encode") [.str x t, .str (Str.ofString "ascii") u]) Q E s :=
  call_meets F.slot_str_encode (typeIs_str _ _ _) F.entry_str_encode (F.args_str_encode_2 _ _) (meets_encode ha) ⟨hsz, h⟩

theorem hexDigit_lt {n : Nat} (h : n < 16) : Bytes.hexDigit n < 128 := by unfold Bytes.hexDigit; split <;> omega
theorem hex_ascii (l : List UInt8) : ∀ c ∈ (⟨(hexCps l).toArray⟩ : Str).cps.toList, c < 128 := by
  intro c hc
  simp only [hexCps, List.mem_flatMap] at hc
  obtain ⟨x, _, hx⟩ := hc
  have := x.toNat_lt
  simp only [List.mem_cons, List.not_mem_nil, or_false] at hx
  rcases hx with rfl | rfl
  · exact hexDigit_lt (by omega)
  · exact hexDigit_lt (by omega)
noncomputable def hx (n : Int) : Int := if n < 10 then 48 + n else 55 + n
noncomputable def w16 (l : List Int) : List Int := l.flatMap fun c => [hx (c / 16), hx (c % 16)]
theorem up_one (c : UInt8) : [Bytes.toUpper (Bytes.hexDigit (c.toNat / 16)).toUInt8, Bytes.toUpper (Bytes.hexDigit (c.toNat % 16)).toUInt8] = [(hx ((c.toNat : Int) / 16)).toNat.toUInt8, (hx ((c.toNat : Int) % 16)).toNat.toUInt8] := by
  have a : ∀ n : Fin 16, Bytes.toUpper (Bytes.hexDigit n.val).toUInt8 = (hx (n.val : Int)).toNat.toUInt8 := by decide
  have h := c.toNat_lt
  have a1 := a ⟨c.toNat / 16, by omega⟩
  have a2 := a ⟨c.toNat % 16, by omega⟩
  have e1 : ((c.toNat / 16 : Nat) : Int) = (c.toNat : Int) / 16 := by omega
  have e2 : ((c.toNat % 16 : Nat) : Int) = (c.toNat : Int) % 16 := by omega
  simp only [e1] at a1
  simp only [e2] at a2
  rw [a1, a2]
theorem up_hex (b : Array UInt8) : ((asc ⟨(hexCps b.toList).toArray⟩).toList.map Bytes.toUpper).toArray = byteArr (w16 (KBw.bInts b)) := by
  unfold asc byteArr KBw.bInts w16 hexCps
  congr 1
  induction b.toList with
  | nil => simp
  | cons c r ih =>
    simp only [List.map_toArray, List.flatMap_cons, List.map_cons, List.map_append, List.map_nil] at ih ⊢
    rw [ih, up_one c]
theorem asc_size (x : Str) : (asc x).size = x.cps.size := by unfold asc; simp
end
end
end Mine

namespace Mine
section
section
variable {prog : Program} {w : World} {A : Around} {E : Value → Shared → Prop} {s : Shared}
theorem nextOf_tuple_item {it t : Addr} {i : Nat} {items : Array Value} {x : Value} {Q : Value → Shared → Prop} (hit : s.heap.IsTupleIter it t i) (ht : s.heap.IsTuple t items) (hx : items[i]? = some x)
    (hQ : ∀ h', h'.IsTupleIter it t (i + 1) → Heap.SameBut it s.heap h' → Q x { s with heap := h' }) : wpAny (model prog w) A (Builtin.SmallTypes.nextOf (.ref it)) Q E s := by
  obtain ⟨o, ho, hc, hd⟩ := id hit
  obtain ⟨ol, hol, _, nl, hdl⟩ := ht
  unfold Builtin.SmallTypes.nextOf
  refine wpAny_bind (wpAny_callSpecial?_slot (name := Str.ofString "__next__") hit.typeIs F.slot_tuple_iterator_next
    (wpAny_call_entry F.slot_tuple_iterator_next hit.typeIs F.entry_tuple_iterator_next ?_ (F.args_tuple_iterator_next_1 _)))
  show wpAny _ _ (field (.ref it) 0 >>= _) _ _ s
  refine wpAny_bind (wpAny_field ho hd (x := .ref t) rfl ?_)
  show wpAny _ _ (if (Value.ref t == Value.none) = true then _ else _) _ _ s
  rw [if_neg (show ¬ ((Value.ref t == Value.none) = true) from Bool.false_ne_true)]
  show wpAny _ _ (field (.ref it) 1 >>= _) _ _ s
  refine wpAny_bind (wpAny_field ho hd (x := .int i 0) rfl ?_)
  show wpAny _ _ (seqItems? (.ref t) >>= _) _ _ s
  refine wpAny_bind (wpAny_seqItems hol hdl ?_)
  simp only [Int.toNat_natCast, hx]
  refine wpAny_bind (wpAny_setField ho hd (by simp) (wpAny_pure ⟨x, rfl, wpAny_pure (hQ _ ?_ (Heap.SameBut.update ..))⟩))
  exact ⟨_, Heap.get?_update_self _ ho (Obj.isFreed_of_fields (Obj.data_mapFields hd _)), (Obj.cls_mapFields ..).trans hc, by
    rw [Obj.data_mapFields hd]; simp [rawInt]⟩
theorem nextOf_tuple_end {it t : Addr} {i : Nat} {items : Array Value} {Q : Value → Shared → Prop} (hh : A.handled = none) (hit : s.heap.IsTupleIter it t i) (ht : s.heap.IsTuple t items) (hx : items[i]? = none)
    (hE : ∀ h' e, Heap.ExtBut it s.heap h' → (∃ o, h'.get? e = some o ∧ o.cls = .type "StopIteration") → E (.ref e) { s with heap := h' }) : wpAny (model prog w) A (Builtin.SmallTypes.nextOf (.ref it)) Q E s := by
  obtain ⟨o, ho, hc, hd⟩ := id hit
  obtain ⟨ol, hol, _, nl, hdl⟩ := ht
  unfold Builtin.SmallTypes.nextOf
  refine wpAny_bind (wpAny_callSpecial?_slot (name := Str.ofString "__next__") hit.typeIs F.slot_tuple_iterator_next
    (wpAny_call_entry F.slot_tuple_iterator_next hit.typeIs F.entry_tuple_iterator_next ?_ (F.args_tuple_iterator_next_1 _)))
  show wpAny _ _ (field (.ref it) 0 >>= _) _ _ s
  refine wpAny_bind (wpAny_field ho hd (x := .ref t) rfl ?_)
  show wpAny _ _ (if (Value.ref t == Value.none) = true then _ else _) _ _ s
  rw [if_neg (show ¬ ((Value.ref t == Value.none) = true) from Bool.false_ne_true)]
  show wpAny _ _ (field (.ref it) 1 >>= _) _ _ s
  refine wpAny_bind (wpAny_field ho hd (x := .int i 0) rfl ?_)
  show wpAny _ _ (seqItems? (.ref t) >>= _) _ _ s
  refine wpAny_bind (wpAny_seqItems hol hdl ?_)
  simp only [Int.toNat_natCast, hx]
  refine wpAny_bind (wpAny_rule (wpAny_bind (wpAny_setField ho hd (by simp) ?_)))
  show wpAny _ _ (newExc (.type "StopIteration") [] >>= _) _ _ _
  refine wpAny_bind ?_
  simp only [newExc, newTuple]
  refine wpAny_bind (wpAny_newObj_type ?_ (by size_fits))
  refine wpAny_bind (m := firstArgMember _ _) (wpAny_of_eq (a := Value.none) (by first | rfl | (simp only [firstArgMember]; rfl)) ?_)
  refine wpAny_newObj_type ?_ (by size_fits)
  simp only [raiseNew]
  refine wpAny_bind (wpAny_handled ?_)
  first | rw [show A.in1.handled = none from hh] | rw [hh]
  refine wpAny_bind (wpAny_pure (wpAny_throw ?_))
  exact hE _ _ (((Heap.SameBut.update ..).extBut.push _).push _) ⟨_, Heap.get?_push_size _ rfl, rfl⟩
end
theorem draws_tuple {prog : Program} {w : World} {A : Around} (hh : A.handled = none) (it l : Addr) (hne : l ≠ it) (items : Array Value) :
    Draws prog w A it [it, l] items.size (fun i v => items[i]? = some v) (fun i h => h.IsTupleIter it l i ∧ h.IsTuple l items) where
  live := fun _ _ st => let ⟨o, ho, _⟩ := st.1; ⟨o, ho⟩
  frame := fun _ _ _ st hk => ⟨st.1.at fun o e => hk it (by simp) o e, st.2.at fun o e => hk l (by simp) o e⟩
  item := fun i s Q E hi st hQ => by
    refine nextOf_tuple_item st.1 st.2 (x := items[i]) (by simp [hi]) fun h' hit' hs' => ?_
    exact hQ _ h' s.toks (by simp [hi]) ⟨hit', st.2.extBut hs'.extBut hne⟩ hs'
  done := fun s Q E st hE => nextOf_tuple_end hh st.1 st.2 (by simp) hE

open AutoSeq1 (wpAny_loadPart') in
theorem meets_enum_tuple (l : Addr) (items : Array Value) (n : Nat) (dct : Option Addr) (sl : Array (Option Value)) :
    Meets (Builtin.«enumerate.__new__» ⟨[.type "enumerate", .ref l], []⟩) (fun _ R s => s.heap.get? l = some { cls := .type "tuple", dict := dct, data := .seq items n, slots := sl } ∧
      R (.ok (.ret (.ref (s.heap.push { cls := .type "tuple_iterator", data := .fields #[.ref l, .int 0 0] }).objs.size)))
        { s with heap := (s.heap.push { cls := .type "tuple_iterator", data := .fields #[.ref l, .int 0 0] }).push { cls := .type "enumerate", data := .fields #[.none, .bool false, .ref s.heap.objs.size, rawInt 0, .none, .none] } }) :=
  .of_wp fun prog w A R s h => by
    obtain ⟨hp, g, d, tk, os⟩ := s; obtain ⟨hl, h⟩ := h
    have hsub := sub_enumerate
    have hL : Heap.IsTuple (Shared.heap ⟨hp, g, d, tk, os⟩) l items := ⟨_, hl, rfl, n, rfl⟩
    wp_walk using wpAny_loadPart' hl
    refine wpAny_stack_any fun st => wpAny_pure ?_
    split
    · rename_i c _ _ _ _ _
      cases (c == Value.type "enumerate")
      · wp_walk using wpAny_loadPart' hl, wpAny_pyIter_tuple hL
        exact ⟨_, rfl, h⟩
      · wp_walk using wpAny_loadPart' hl, wpAny_pyIter_tuple hL
        exact ⟨_, rfl, h⟩
    · wp_walk using wpAny_loadPart' hl, wpAny_pyIter_tuple hL
      exact ⟨_, rfl, h⟩
theorem enum_tuple {prog : Program} {w : World} {A : Around} {E : Value → Shared → Prop} {s : Shared} {l : Addr} {items : Array Value} {Q : Value → Shared → Prop} (hL : s.heap.IsTuple l items)
    (h : ∀ h', IsEnum h' (s.heap.objs.size + 1) s.heap.objs.size 0 .none → h'.IsTupleIter s.heap.objs.size l 0 →
      (∀ b o, s.heap.get? b = some o → h'.get? b = some o) → Q (.ref (s.heap.objs.size + 1)) { s with heap := h' }) :
    wpAny (model prog w) A (call (.type "enumerate") [.ref l]) Q E s := by
  obtain ⟨⟨c, dct, dt, sl⟩, hl, hc, n, hd⟩ := hL
  replace hc : c = .type "tuple" := hc
  replace hd : dt = .seq items n := hd
  subst hc hd
  refine callType_new F.called_enumerate (by decide) (F.typeCall_enumerate_1 _) (F.newCall_enumerate_1 _) (fun obj => F.args_object_init_2 obj _) F.entry_enumerate_new
    (meets_enum_tuple l items n dct sl) ⟨hl, ?_⟩
  have hz : (s.heap.push { cls := .type "tuple_iterator", data := .fields #[.ref l, .int 0 0] }).objs.size = s.heap.objs.size + 1 := Heap.size_push ..
  show _ ∧ _
  rw [hz]
  have he : IsEnum ((s.heap.push { cls := .type "tuple_iterator", data := .fields #[.ref l, .int 0 0] }).push
      { cls := .type "enumerate", data := .fields #[.none, .bool false, .ref s.heap.objs.size, rawInt 0, .none, .none] }) (s.heap.objs.size + 1) s.heap.objs.size 0 .none := by
    have := Heap.get?_push_size (s.heap.push { cls := .type "tuple_iterator", data := .fields #[.ref l, .int 0 0] })
      (o := { cls := .type "enumerate", data := .fields #[.none, .bool false, .ref s.heap.objs.size, rawInt 0, .none, .none] }) rfl
    rw [hz] at this; exact this
  exact ⟨⟨_, he, rfl⟩, h _ he ⟨_, Heap.get?_push_of_some _ (Heap.get?_push_size _ rfl), rfl, rfl⟩ fun b o x => Heap.get?_push_of_some _ (Heap.get?_push_of_some _ x)⟩

/-- what a turn leaves -/
def TurnPost (h₀ : Heap) (L pA : Addr) (own : List (Addr × Obj)) (J B : (Str → Option Value) → Obj → Prop) (s₁ : Shared) (f : Flow) (s₃ : Shared) : Prop :=
  match f with
  | .next | .cont => ∃ h' tk m' o', s₃ = { s₁ with heap := h', toks := tk } ∧ Fr h₀ L h' m' ∧ News h₀ L h' ((pA, o') :: own) ∧ J m' o'
  | .brk => ∃ h' tk m' o', s₃ = { s₁ with heap := h', toks := tk } ∧ Fr h₀ L h' m' ∧ News h₀ L h' ((pA, o') :: own) ∧ B m' o'
  | .ret _ => False

theorem loopJ {prog : Program} {w : World} {A : Around} {s : Shared} {env : Env} {h₀ : Heap} {target : Expr} {body orelse : List Stmt} {R : Result → Shared → Prop} {I : Addr} {fp wr : List Addr} {n : Nat} {P Md : Nat → Value → Heap → Prop} {St : Nat → Heap → Prop} {m : Str → Option Value} {pA : Addr} {o₀ : Obj} {rest : List (Addr × Obj)}
    (W : KTurns prog w A target I fp wr n P Md St) (hLf : env.locals ∉ fp) (hwr : ∀ b ∈ wr, h₀.get? b = none) (hp : pA ∉ fp) (hrest : ∀ p ∈ rest, p.1 ∉ wr) (hoff : OwnOff rest [pA])
    (hst : St 0 s.heap) (F : Fr h₀ env.locals s.heap m) (N : News h₀ env.locals s.heap ((pA, o₀) :: rest))
    (J : Nat → (Str → Option Value) → Obj → Prop) (B : (Str → Option Value) → Obj → Prop) (h0 : J 0 m o₀)
    (step : ∀ i v m₁ o₁ h₁ tk₁ own, i < n → P i v h₁ → J i m₁ o₁ → (∀ p ∈ rest, p ∈ own) → OwnOff own [pA] → Fr h₀ env.locals h₁ m₁ → News h₀ env.locals h₁ ((pA, o₁) :: own) →
      wpAny (model prog w) A (assign target env v) (fun _ s₂ => wpAny (model prog w) A (execs body env) (TurnPost h₀ env.locals pA own (J (i + 1)) B { s with heap := h₁, toks := tk₁ }) (fun _ _ => False) s₂) (fun _ _ => False) { s with heap := h₁, toks := tk₁ })
    (brk : ∀ m' o' h' tk, B m' o' → Fr h₀ env.locals h' m' → News h₀ env.locals h' ((pA, o') :: rest) → R (.ok .next) { s with heap := h', toks := tk })
    (done : ∀ m' o' h' tk, J n m' o' → Fr h₀ env.locals h' m' → News h₀ env.locals h' ((pA, o') :: rest) → wpAny (model prog w) A (execs orelse env) (fun f s₃ => R (.ok f) s₃) (fun _ _ => False) { s with heap := h', toks := tk }) :
    codeAny (model prog w) A (.forLoop target (.ref I) body orelse env) R s := by
  have hLw : env.locals ∉ wr := fun h => hLf (W.sub _ h)
  have hpw : pA ∉ wr := fun h => hp (W.sub _ h)
  have old : ∀ b o, h₀.get? b = some o → b ∉ wr := fun b o e hb => by rw [hwr b hb] at e; cases e
  refine codeAny_forLoop_any
    (fun k s' => ∃ h' tk m' o' i, s' = { s with heap := h', toks := tk } ∧ St i h' ∧ Fr h₀ env.locals h' m' ∧ News h₀ env.locals h' ((pA, o') :: rest) ∧ J i m' o' ∧ i ≤ n ∧ k = n + 1 - i) ?_ (n + 1)
    ⟨s.heap, s.toks, m, o₀, 0, rfl, hst, F, N, h0, Nat.zero_le _, rfl⟩
  rintro k s' ⟨h', tk, m', o', i, rfl, hst', F', N', hJ, hi, rfl⟩
  have carry : ∀ h₁ : Heap, (∀ b o, b ∉ wr → h'.get? b = some o → h₁.get? b = some o) → Fr h₀ env.locals h₁ m' ∧ News h₀ env.locals h₁ ((pA, o') :: rest) := fun h₁ hk₁ => by
    refine ⟨⟨?_, fun b o e => hk₁ b o (old b o e) (F'.keep b o e), F'.above⟩, fun p hp' => ⟨hk₁ _ _ ?_ (N' p hp').1, (N' p hp').2⟩⟩
    · obtain ⟨oL, es, ep, hL, r⟩ := F'.ns
      exact ⟨oL, es, ep, hk₁ _ _ hLw hL, r⟩
    · rcases List.mem_cons.mp hp' with rfl | hp'
      · exact hpw
      · exact hrest p hp'
  by_cases hlt : i < n
  · refine W.item i _ _ _ hlt hst' fun v h₁ tk₁ hMd hk₁ => ?_
    refine W.go i v _ _ _ hMd fun h₂ hP hst₂ hk₂ => ?_
    obtain ⟨F₂, N₂⟩ := carry h₂ fun b o hb x => hk₂ b o hb (hk₁ b o hb x)
    have Nown : News h₀ env.locals h₂ (PyProof.Rows.ownOf h₀ fp h₂) := news_ownOf hLf
    have hown : OwnOff (PyProof.Rows.ownOf h₀ fp h₂ ++ rest) [pA] := by
      intro p hp' b hb
      rw [List.mem_singleton.mp hb]
      rcases List.mem_append.mp hp' with q | q
      · exact fun e => hp (e ▸ ownOf_sub p q)
      · exact hoff p q pA (List.mem_singleton.mpr rfl)
    have Nall : News h₀ env.locals h₂ ((pA, o') :: (PyProof.Rows.ownOf h₀ fp h₂ ++ rest)) := fun p hp' => by
      rcases List.mem_cons.mp hp' with rfl | q
      · exact N₂ _ (List.Mem.head _)
      · rcases List.mem_append.mp q with q | q
        · exact Nown p q
        · exact N₂ p (List.Mem.tail _ q)
    have back : ∀ h₃ m₃ o₃, Fr h₀ env.locals h₃ m₃ → News h₀ env.locals h₃ ((pA, o₃) :: (PyProof.Rows.ownOf h₀ fp h₂ ++ rest)) → News h₀ env.locals h₃ ((pA, o₃) :: rest) ∧ St (i + 1) h₃ := fun h₃ m₃ o₃ F₃ N₃ => by
      refine ⟨fun p hp' => ?_, W.frame _ _ _ hst₂ fun b hb o e => ?_⟩
      · rcases List.mem_cons.mp hp' with rfl | q
        · exact N₃ _ (List.Mem.head _)
        · exact N₃ p (List.Mem.tail _ (List.mem_append_right _ q))
      · cases hn : h₀.get? b with
        | some ob =>
          have q := F₂.keep b ob hn
          rw [e] at q
          cases q
          exact F₃.keep b _ hn
        | none => exact (N₃ _ (List.Mem.tail _ (List.mem_append_left _ (mem_ownOf hb hn e)))).1
    refine wpAny_mono (step i v m' o' h₂ tk₁ _ hlt hP hJ (fun p hp => List.mem_append_right _ hp) hown F₂ Nall) (fun _ s₂ h₂' => wpAny_mono h₂' (fun f s₃ h₃ => ?_) fun _ _ e => e.elim) fun _ _ e => e.elim
    cases f with
    | ret v => exact h₃.elim
    | brk =>
      obtain ⟨h₃', tk₃, m₃, o₃, rfl, F₃, N₃, hB⟩ := h₃
      exact brk m₃ o₃ h₃' tk₃ hB F₃ (back h₃' m₃ o₃ F₃ N₃).1
    | cont =>
      obtain ⟨h₃', tk₃, m₃, o₃, rfl, F₃, N₃, hJ₃⟩ := h₃
      exact ⟨n + 1 - (i + 1), by omega, h₃', tk₃, m₃, o₃, i + 1, rfl, (back h₃' m₃ o₃ F₃ N₃).2, F₃, (back h₃' m₃ o₃ F₃ N₃).1, hJ₃, hlt, rfl⟩
    | next =>
      obtain ⟨h₃', tk₃, m₃, o₃, rfl, F₃, N₃, hJ₃⟩ := h₃
      exact ⟨n + 1 - (i + 1), by omega, h₃', tk₃, m₃, o₃, i + 1, rfl, (back h₃' m₃ o₃ F₃ N₃).2, F₃, (back h₃' m₃ o₃ F₃ N₃).1, hJ₃, hlt, rfl⟩
  · have hin : i = n := by omega
    subst hin
    refine W.done _ _ _ hst' fun h₁ tk₁ hk₁ => ?_
    obtain ⟨F₁, N₁⟩ := carry h₁ hk₁
    exact wpAny_mono (done m' o' h₁ tk₁ hJ F₁ N₁) (fun _ _ x => x) fun _ _ e => e.elim
end
end Mine

namespace Mine
section
theorem mem_swap {α : Type} {p a b : α} {l : List α} (h : p ∈ b :: a :: l) : p ∈ a :: b :: l := by
  simp only [List.mem_cons] at h ⊢
  rcases h with h | h | h
  · exact .inr (.inl h)
  · exact .inl h
  · exact .inr (.inr h)
theorem mem_drop2 {α : Type} {p a b : α} {l : List α} (h : p ∈ a :: l) : p ∈ a :: b :: l := by
  simp only [List.mem_cons] at h ⊢
  rcases h with h | h
  · exact .inl h
  · exact .inr (.inr h)
theorem nmem2 {a b c : Nat} (h1 : a ≠ b) (h2 : a ≠ c) : a ∉ [b, c] := by simp [h1, h2]
theorem nmem3 {a b c d : Nat} (h1 : a ≠ b) (h2 : a ≠ c) (h3 : a ≠ d) : a ∉ [b, c, d] := by simp [h1, h2, h3]
theorem natEq {a b : Nat} (h : a = b) : a = b := h
theorem mem2 {a b c : Nat} (h : a ∈ [b, c]) : a = b ∨ a = c := by simpa using h
section
variable {prog : Program} {w : World} {A : Around} {E : Value → Shared → Prop} {s : Shared}
theorem letgo_tup {elts : List Expr} {x1} {pos : Pos} {I l : Addr} {i : Nat} {v : Value} {Q : Unit → Shared → Prop} (hit : s.heap.IsTupleIter I l i) (hQ : Q () s) :
    wpAny (model prog w) A (letOwnedTupleGo (.Tuple elts x1 pos) (.ref I) v) Q E s := by
  obtain ⟨o, ho, hc, hd⟩ := hit
  cases v with
  | ref T =>
    unfold letOwnedTupleGo
    refine wpAny_bind (wpAny_load ho ?_)
    rw [hc, hd]
    show wpAny _ A (if (["enumerate", "zip", "dict_itemiterator", "dict_reverseitemiterator", "odict_iterator", "itertools.zip_longest", "itertools.pairwise"].contains "tuple_iterator" &&
        (#[.ref l, .int i 0] : Array Value)[0]? == some (rawInt T)) = true then _ else _) Q E s
    rw [if_neg (by
      intro h
      rw [show (["enumerate", "zip", "dict_itemiterator", "dict_reverseitemiterator", "odict_iterator", "itertools.zip_longest", "itertools.pairwise"].contains "tuple_iterator") = false from by decide, Bool.false_and] at h
      cases h)]
    exact wpAny_pure hQ
  | _ => exact wpAny_pure hQ

theorem tup_for {env : Env} {h₀ : Heap} {elts : List Expr} {x1 : Nat} {pos : Pos} {body orelse : List Stmt} {R : Result → Shared → Prop} {m : Str → Option Value} {pA ax : Addr} {o₀ : Obj} {rest : List (Addr × Obj)} {items : Array Value}
    (hh : A.handled = none) (hax : h₀.IsTuple ax items) (F : Fr h₀ env.locals s.heap m) (N : News h₀ env.locals s.heap ((pA, o₀) :: rest)) (hoff : OwnOff rest [pA])
    (J : Addr → Nat → (Str → Option Value) → Obj → Prop) (B : Addr → (Str → Option Value) → Obj → Prop) (h0 : J pA 0 m o₀)
    (step : ∀ i v m₁ o₁ h₁ tk₁ own, i < items.size → items[i]? = some v → J pA i m₁ o₁ → OwnOff own [pA] → Fr h₀ env.locals h₁ m₁ → News h₀ env.locals h₁ ((pA, o₁) :: own) →
      wpAny (model prog w) A (assign (.Tuple elts x1 pos) env v) (fun _ s₂ => wpAny (model prog w) A (execs body env) (TurnPost h₀ env.locals pA own (J pA (i + 1)) (B pA) { s with heap := h₁, toks := tk₁ }) (fun _ _ => False) s₂) (fun _ _ => False) { s with heap := h₁, toks := tk₁ })
    (brk : ∀ m' o' h' tk, B pA m' o' → Fr h₀ env.locals h' m' → News h₀ env.locals h' ((pA, o') :: rest) → R (.ok .next) { s with heap := h', toks := tk })
    (done : ∀ m' o' h' tk, J pA items.size m' o' → Fr h₀ env.locals h' m' → News h₀ env.locals h' ((pA, o') :: rest) → wpAny (model prog w) A (execs orelse env) (fun f s₃ => R (.ok f) s₃) (fun _ _ => False) { s with heap := h', toks := tk }) :
    wpAny (model prog w) A (pyIter (.ref ax)) (fun it s₂ => codeAny (model prog w) A (.forLoop (.Tuple elts x1 pos) it body orelse env) R s₂) E s := by
  have hax' : s.heap.IsTuple ax items := let ⟨o, ho, r⟩ := hax; ⟨o, F.keep _ _ ho, r⟩
  obtain ⟨oa, hoa, _⟩ := id hax
  have hlt := ltN (Heap.lt_size hoa)
  have hLs := ltN F.ns.lt
  have hab : @LE.le Nat _ h₀.objs.size env.locals := F.above
  have hps := ltN (Heap.lt_size (N _ (List.Mem.head _)).1)
  have hpn := (N _ (List.Mem.head _)).2.2
  have hpx : pA ≠ ax := fun e => by rw [← e] at hoa; rw [hpn] at hoa; cases hoa
  refine wpAny_pyIter_tuple hax' ?_
  have W := KTurns.ofWalks (target := .Tuple elts x1 pos) (Walks.tuple (prog := prog) (w := w) hh s.heap.objs.size ax (neN (by omega)) items) (fun i v s Q E st hQ => letgo_tup st.1 hQ)
  refine loopJ W ?_ ?_ ?_ ?_ hoff ⟨⟨_, Heap.get?_push_size _ rfl, rfl, rfl⟩, hax'.push _⟩ (F.push _) (fun p hp => ⟨Heap.get?_push_of_some _ (N p hp).1, (N p hp).2⟩) (J pA) (B pA) h0
    (fun i v m₁ o₁ h₁ tk₁ own hi hP hJ _ hO F₁ N₁ => step i v m₁ o₁ h₁ tk₁ own hi hP hJ hO F₁ N₁) brk done
  · exact nmem2 (by omega) (by omega)
  · intro b hb
    rw [List.mem_singleton.mp hb]
    exact next_is_new F
  · exact nmem2 (by omega) hpx
  · intro p hp h
    have := ltN (Heap.lt_size (N p (List.Mem.tail _ hp)).1)
    rw [List.mem_singleton.mp h] at this
    omega

theorem enum_for {env : Env} {h₀ : Heap} {elts : List Expr} {x1 : Nat} {pos : Pos} {body orelse : List Stmt} {R : Result → Shared → Prop} {m : Str → Option Value} {pA ax : Addr} {o₀ : Obj} {rest : List (Addr × Obj)} {items : Array Value}
    (hh : A.handled = none) (hax : h₀.IsTuple ax items) (F : Fr h₀ env.locals s.heap m) (N : News h₀ env.locals s.heap ((pA, o₀) :: rest)) (hoff : OwnOff rest [pA])
    (J : Addr → Nat → (Str → Option Value) → Obj → Prop) (h0 : J pA 0 m o₀)
    (step : ∀ i x t T m₁ o₁ h₁ tk₁ own, i < items.size → items[i]? = some x → h₁.IsTuple T #[.int i t, x] → J pA i m₁ o₁ → OwnOff own [pA] → Fr h₀ env.locals h₁ m₁ → News h₀ env.locals h₁ ((pA, o₁) :: own) →
      wpAny (model prog w) A (assign (.Tuple elts x1 pos) env (.ref T)) (fun _ s₂ => wpAny (model prog w) A (execs body env) (TurnPost h₀ env.locals pA own (J pA (i + 1)) (fun _ _ => False) { s with heap := h₁, toks := tk₁ }) (fun _ _ => False) s₂) (fun _ _ => False) { s with heap := h₁, toks := tk₁ })
    (done : ∀ m' o' h' tk, J pA items.size m' o' → Fr h₀ env.locals h' m' → News h₀ env.locals h' ((pA, o') :: rest) → wpAny (model prog w) A (execs orelse env) (fun f s₃ => R (.ok f) s₃) (fun _ _ => False) { s with heap := h', toks := tk }) :
    wpAny (model prog w) A (call (.type "enumerate") [.ref ax]) (fun xv s₁ => wpAny (model prog w) A (pyIter xv) (fun it s₂ => codeAny (model prog w) A (.forLoop (.Tuple elts x1 pos) it body orelse env) R s₂) E s₁) E s := by
  have hax' : s.heap.IsTuple ax items := let ⟨o, ho, r⟩ := hax; ⟨o, F.keep _ _ ho, r⟩
  obtain ⟨oa, hoa, _⟩ := id hax
  have hlt := ltN (Heap.lt_size hoa)
  have hLs := ltN F.ns.lt
  have hab : @LE.le Nat _ h₀.objs.size env.locals := F.above
  have hps := ltN (Heap.lt_size (N _ (List.Mem.head _)).1)
  have hpn := (N _ (List.Mem.head _)).2.2
  have hpx : pA ≠ ax := fun e => by rw [← e] at hoa; rw [hpn] at hoa; cases hoa
  have new : ∀ b, s.heap.objs.size ≤ b → h₀.get? b = none := fun b hb => by
    cases q : h₀.get? b with
    | none => rfl
    | some o => exact absurd (ltN (Heap.lt_size (F.keep _ _ q))) (Nat.not_lt.mpr hb)
  refine enum_tuple hax' fun h' he hit hk => ?_
  have D := draws_tuple (prog := prog) (w := w) (A := A.in1) hh s.heap.objs.size ax (neN (by omega)) items
  have WT := WalksT.enumerateD D (s.heap.objs.size + 1) (neN (by omega)) (nmem2 (by omega) (by omega)) (by simp)
  have st : (∃ old, IsEnum h' (s.heap.objs.size + 1) s.heap.objs.size ((0 : Nat) : Int) old) ∧ h'.IsTupleIter s.heap.objs.size ax 0 ∧ h'.IsTuple ax items := ⟨⟨_, he⟩, hit, let ⟨o, ho, r⟩ := hax'; ⟨o, hk _ _ ho, r⟩⟩
  refine WT.self 0 _ _ _ st ?_
  have W := KTurns.ofWalksU (elts := elts) (k := x1) (pos := pos) WT.toU
  have Fh : Fr h₀ env.locals h' m := F.keeps hk
  refine loopJ W ?_ ?_ ?_ ?_ hoff st Fh (fun p hp => ⟨hk _ _ (N p hp).1, (N p hp).2⟩) (J pA) (fun _ _ => False) h0 ?_ (fun _ _ _ _ h => h.elim) done
  · exact nmem3 (by omega) (by omega) (by omega)
  · intro b hb
    rcases mem2 hb with e | e
    · exact new b (e ▸ Nat.le_succ _)
    · exact new b (e ▸ Nat.le_refl _)
  · exact nmem3 (by omega) (by omega) hpx
  · intro p hp h
    have := ltN (Heap.lt_size (N p (List.Mem.tail _ hp)).1)
    rcases mem2 h with e | e <;> rw [e] at this <;> omega
  · rintro i v m₁ o₁ h₁ tk₁ own hi ⟨T, vals, rfl, ⟨t, x, hx, rfl⟩, hT⟩ hJ _ hO F₁ N₁
    exact step i x t T m₁ o₁ h₁ tk₁ own hi hx hT hJ hO F₁ N₁

theorem nmem1 {a b : Nat} (h1 : a ≠ b) : a ∉ [b] := by simp [h1]
theorem range_for {env : Env} {h₀ : Heap} {x : Str} {px : Pos} {body orelse : List Stmt} {R : Result → Shared → Prop} {m : Str → Option Value} {pA r : Addr} {a b c : Int} {t1 t2 t3 : Tok} {n : Nat} {o₀ : Obj} {rest : List (Addr × Obj)}
    (hh : A.handled = none) (hr : IsRange s.heap r a b c t1 t2 t3) (hsm : Builtin.Range.small a b c = true) (hn : Builtin.Range.rangeSize a b c = ((n : Nat) : Int)) (F : Fr h₀ env.locals s.heap m) (N : News h₀ env.locals s.heap ((pA, o₀) :: rest)) (hoff : OwnOff rest [pA])
    (J : Addr → Nat → (Str → Option Value) → Obj → Prop) (h0 : J pA 0 m o₀)
    (step : ∀ i t m₁ o₁ h₁ tk₁ own, i < n → J pA i m₁ o₁ → OwnOff own [pA] → Fr h₀ env.locals h₁ m₁ → News h₀ env.locals h₁ ((pA, o₁) :: own) →
      wpAny (model prog w) A (assign (.Name x px) env (.int (a + i * c) t)) (fun _ s₂ => wpAny (model prog w) A (execs body env) (TurnPost h₀ env.locals pA own (J pA (i + 1)) (fun _ _ => False) { s with heap := h₁, toks := tk₁ }) (fun _ _ => False) s₂) (fun _ _ => False) { s with heap := h₁, toks := tk₁ })
    (done : ∀ m' o' h' tk, J pA n m' o' → Fr h₀ env.locals h' m' → News h₀ env.locals h' ((pA, o') :: rest) → wpAny (model prog w) A (execs orelse env) (fun f s₃ => R (.ok f) s₃) (fun _ _ => False) { s with heap := h', toks := tk }) :
    wpAny (model prog w) A (pyIter (.ref r)) (fun it s₂ => codeAny (model prog w) A (.forLoop (.Name x px) it body orelse env) R s₂) E s := by
  have hLs := ltN F.ns.lt
  have hps := ltN (Heap.lt_size (N _ (List.Mem.head _)).1)
  refine wpAny_pyIter_range hr hsm ?_
  have W := KTurns.ofWalks (target := .Name x px) (Walks.range (prog := prog) (w := w) hh s.heap.objs.size a c n) (fun i v s Q E st hQ => wpAny_of_eq (a := ()) rfl hQ)
  refine loopJ W (nmem1 (by omega)) ?_ (nmem1 (by omega)) ?_ hoff (by show IsRangeIter _ _ _ _ _; rw [hn]; simpa using Heap.get?_push_size _ rfl) (F.push _) (fun p hp => ⟨Heap.get?_push_of_some _ (N p hp).1, (N p hp).2⟩) (J pA) (fun _ _ => False) h0
    ?_ (fun _ _ _ _ h => h.elim) done
  · intro b hb
    rw [List.mem_singleton.mp hb]
    exact next_is_new F
  · intro p hp h
    have := ltN (Heap.lt_size (N p (List.Mem.tail _ hp)).1)
    rw [List.mem_singleton.mp h] at this
    omega
  · rintro i v m₁ o₁ h₁ tk₁ own hi ⟨t, rfl⟩ hJ _ hO F₁ N₁
    exact step i t m₁ o₁ h₁ tk₁ own hi hJ hO F₁ N₁

theorem len_led {h₀ : Heap} {L l : Addr} {news : List (Addr × Obj)} {vs : List Value} {k : Nat} {Q : Value → Shared → Prop} (N : News h₀ L s.heap news) (hm : (l, W.listOf vs.toArray k) ∈ news) (hf : vs.length < 2 ^ 62)
    (h : Q (.int (vs.length : Nat) (s.toks + 1)) { s with toks := s.toks + 1 + 1 }) : wpAny (model prog w) A (call (.builtin "len") [.ref l]) Q E s := by
  refine call_len_list (items := vs.toArray) ⟨_, N.get hm, rfl, _, rfl⟩ (by rw [List.size_toArray]; omega) ?_
  rw [List.size_toArray]; exact h

theorem list_for {env : Env} {h₀ : Heap} {x : Str} {px : Pos} {body orelse : List Stmt} {R : Result → Shared → Prop} {m : Str → Option Value} {pA ax : Addr} {vs : List Value} {k : Nat} {o₀ : Obj} {rest : List (Addr × Obj)}
    (hh : A.handled = none) (F : Fr h₀ env.locals s.heap m) (N : News h₀ env.locals s.heap ((pA, o₀) :: rest)) (hm : (ax, W.listOf vs.toArray k) ∈ rest) (hoff : OwnOff rest [pA])
    (J : Addr → Nat → (Str → Option Value) → Obj → Prop) (h0 : J pA 0 m o₀)
    (step : ∀ i v m₁ o₁ h₁ tk₁ own, i < vs.length → vs[i]? = some v → J pA i m₁ o₁ → OwnOff own [pA] → Fr h₀ env.locals h₁ m₁ → News h₀ env.locals h₁ ((pA, o₁) :: own) →
      wpAny (model prog w) A (assign (.Name x px) env v) (fun _ s₂ => wpAny (model prog w) A (execs body env) (TurnPost h₀ env.locals pA own (J pA (i + 1)) (fun _ _ => False) { s with heap := h₁, toks := tk₁ }) (fun _ _ => False) s₂) (fun _ _ => False) { s with heap := h₁, toks := tk₁ })
    (done : ∀ m' o' h' tk, J pA vs.length m' o' → Fr h₀ env.locals h' m' → News h₀ env.locals h' ((pA, o') :: rest) → wpAny (model prog w) A (execs orelse env) (fun f s₃ => R (.ok f) s₃) (fun _ _ => False) { s with heap := h', toks := tk }) :
    wpAny (model prog w) A (pyIter (.ref ax)) (fun it s₂ => codeAny (model prog w) A (.forLoop (.Name x px) it body orelse env) R s₂) E s := by
  have hLs := ltN F.ns.lt
  have hps := ltN (Heap.lt_size (N _ (List.Mem.head _)).1)
  have hax := N _ (List.Mem.tail _ hm)
  have hxs := ltN (Heap.lt_size hax.1)
  have hl : s.heap.IsList ax vs.toArray := ⟨_, hax.1, rfl, _, rfl⟩
  refine wpAny_pyIter_list hl ?_
  have hpx : pA ≠ ax := Ne.symm (hoff _ hm pA (List.mem_singleton.mpr rfl))
  have W := KTurns.ofWalks (target := .Name x px) (Walks.list (prog := prog) (w := w) hh s.heap.objs.size ax (neN (by omega)) vs.toArray) (fun i v s Q E st hQ => wpAny_of_eq (a := ()) rfl hQ)
  refine loopJ W (nmem2 (by omega) (Ne.symm hax.2.1)) ?_ (nmem2 (by omega) hpx) ?_ hoff ⟨⟨_, Heap.get?_push_size _ rfl, rfl, rfl⟩, hl.push _⟩ (F.push _) (fun p hp => ⟨Heap.get?_push_of_some _ (N p hp).1, (N p hp).2⟩) (J pA) (fun _ _ => False) h0
    ?_ (fun _ _ _ _ h => h.elim) ?_
  · intro b hb
    rw [List.mem_singleton.mp hb]
    exact next_is_new F
  · intro p hp h
    have := ltN (Heap.lt_size (N p (List.Mem.tail _ hp)).1)
    rw [List.mem_singleton.mp h] at this
    omega
  · intro i v m₁ o₁ h₁ tk₁ own hi hP hJ _ hO F₁ N₁
    exact step i v m₁ o₁ h₁ tk₁ own (by simpa using hi) (by simpa using hP) hJ hO F₁ N₁
  · intro m' o' h' tk hJ
    exact done m' o' h' tk (by simpa using hJ)

theorem list_forT {env : Env} {h₀ : Heap} {elts : List Expr} {x1 : Nat} {pos : Pos} {body orelse : List Stmt} {R : Result → Shared → Prop} {m : Str → Option Value} {pA ax : Addr} {ts : List Addr} {k : Nat} {o₀ : Obj} {rest : List (Addr × Obj)}
    (hh : A.handled = none) (F : Fr h₀ env.locals s.heap m) (N : News h₀ env.locals s.heap ((pA, o₀) :: rest)) (hm : (ax, W.listOf (ts.map Value.ref).toArray k) ∈ rest) (hoff : OwnOff rest [pA])
    (J : Addr → Nat → (Str → Option Value) → Obj → Prop) (h0 : J pA 0 m o₀)
    (step : ∀ i T m₁ o₁ h₁ tk₁ own, i < ts.length → ts[i]? = some T → J pA i m₁ o₁ → (∀ p ∈ rest, p ∈ own) → OwnOff own [pA] → Fr h₀ env.locals h₁ m₁ → News h₀ env.locals h₁ ((pA, o₁) :: own) →
      wpAny (model prog w) A (assign (.Tuple elts x1 pos) env (.ref T)) (fun _ s₂ => wpAny (model prog w) A (execs body env) (TurnPost h₀ env.locals pA own (J pA (i + 1)) (fun _ _ => False) { s with heap := h₁, toks := tk₁ }) (fun _ _ => False) s₂) (fun _ _ => False) { s with heap := h₁, toks := tk₁ })
    (done : ∀ m' o' h' tk, J pA ts.length m' o' → Fr h₀ env.locals h' m' → News h₀ env.locals h' ((pA, o') :: rest) → wpAny (model prog w) A (execs orelse env) (fun f s₃ => R (.ok f) s₃) (fun _ _ => False) { s with heap := h', toks := tk }) :
    wpAny (model prog w) A (pyIter (.ref ax)) (fun it s₂ => codeAny (model prog w) A (.forLoop (.Tuple elts x1 pos) it body orelse env) R s₂) E s := by
  have hLs := ltN F.ns.lt
  have hps := ltN (Heap.lt_size (N _ (List.Mem.head _)).1)
  have hax := N _ (List.Mem.tail _ hm)
  have hxs := ltN (Heap.lt_size hax.1)
  have hl : s.heap.IsList ax (ts.map Value.ref).toArray := ⟨_, hax.1, rfl, _, rfl⟩
  refine wpAny_pyIter_list hl ?_
  have hpx : pA ≠ ax := Ne.symm (hoff _ hm pA (List.mem_singleton.mpr rfl))
  have W0 := Walks.list (prog := prog) (w := w) hh s.heap.objs.size ax (neN (by omega)) (ts.map Value.ref).toArray
  have W : KTurns prog w A (.Tuple elts x1 pos) s.heap.objs.size [s.heap.objs.size, ax] [s.heap.objs.size] (ts.map Value.ref).toArray.size (fun i v _ => (ts.map Value.ref).toArray[i]? = some v) (fun i v h => (ts.map Value.ref).toArray[i]? = some v ∧ (h.IsListIter s.heap.objs.size ax (i + 1) ∧ h.IsList ax (ts.map Value.ref).toArray)) (fun i h => h.IsListIter s.heap.objs.size ax i ∧ h.IsList ax (ts.map Value.ref).toArray) :=
    { sub := W0.sub, frame := W0.frame, done := W0.done,
      item := fun i s Q E hi st hQ => W0.item i s Q E hi st fun v h' tk hP st' hk => hQ v h' tk ⟨hP, st'⟩ hk,
      go := fun i v s' Q E hmid hQ => by
        obtain ⟨hv, hst⟩ := hmid
        obtain ⟨T, rfl⟩ : ∃ T, v = .ref T := by
          simp only [List.getElem?_toArray, List.getElem?_map, Option.map_eq_some_iff] at hv
          obtain ⟨T, _, rfl⟩ := hv
          exact ⟨T, rfl⟩
        exact wpAny_letOwnedTupleGo_listiter hst.1 (hQ s'.heap hv hst fun _ _ _ e => e) }
  refine loopJ W (nmem2 (by omega) (Ne.symm hax.2.1)) ?_ (nmem2 (by omega) hpx) ?_ hoff ⟨⟨_, Heap.get?_push_size _ rfl, rfl, rfl⟩, hl.push _⟩ (F.push _) (fun p hp => ⟨Heap.get?_push_of_some _ (N p hp).1, (N p hp).2⟩) (J pA) (fun _ _ => False) h0
    ?_ (fun _ _ _ _ h => h.elim) ?_
  · intro b hb
    rw [List.mem_singleton.mp hb]
    exact next_is_new F
  · intro p hp h
    have := ltN (Heap.lt_size (N p (List.Mem.tail _ hp)).1)
    rw [List.mem_singleton.mp h] at this
    omega
  · intro i v m₁ o₁ h₁ tk₁ own hi hP hJ hsub hO F₁ N₁
    simp only [List.getElem?_toArray, List.getElem?_map, Option.map_eq_some_iff] at hP
    obtain ⟨T, hT, rfl⟩ := hP
    exact step i T m₁ o₁ h₁ tk₁ own (by simpa using hi) hT hJ hsub hO F₁ N₁
  · intro m' o' h' tk hJ
    exact done m' o' h' tk (by simpa using hJ)
end
end
end Mine

namespace Mine
section
section
variable {prog : Program} {w : World} {A : Around} {E : Value → Shared → Prop} {s : Shared} {h₀ : Heap} {L : Addr} {m : Str → Option Value} {env : Env}
/-- the source of a block over a range by any step -/
def SrcC (prog : Program) (w : World) (A : Around) (h₀ : Heap) (L : Addr) (m : Str → Option Value) (env : Env) (elt : Expr) (x : Str) (scope : Scope) (cl : List (Str × Addr)) (Q : Value → Shared → Prop) (xv : Value) (s₁ : Shared) : Prop :=
  ∃ r a b c t u v n news, xv = .ref r ∧ A.handled = none ∧ Fr h₀ L s₁.heap m ∧ News h₀ L s₁.heap news ∧ IsRange s₁.heap r a b c t u v ∧ Builtin.Range.small a b c = true ∧ Builtin.Range.rangeSize a b c = ((n : Nat) : Int) ∧ n ≤ sizeLine ∧
    ∀ s₂ : Shared, (∃ h, s₂ = { s₁ with heap := h }) → LCg.CompRest prog w A h₀ L m env elt x scope cl s₂ (fun _ => True) (fun i v => ∃ t, v = .int (a + i * c) t) (LCg.FinE h₀ L m s₂ Q) n 0 [] news
theorem rstep_st {I : Addr} {a c : Int} {n : Nat} : ∀ i (h h' : Heap) (o : Obj) (nw : List (Addr × Obj)), IsRangeIter h I (a + (i : Nat) * c) ((n : Int) - (i : Nat)) c → h.get? I = some o → h'.get? I = some o → (∀ b o, h₀.get? b = some o → h'.get? b = some o) → News h₀ L h' nw → True → IsRangeIter h' I (a + (i : Nat) * c) ((n : Int) - (i : Nat)) c :=
  fun i h h' o nw st e e' _ _ _ => by
    have st' : h.get? I = some _ := st
    show h'.get? I = some _
    rw [e', ← e]; exact st'
theorem comp_step {elt iter : Expr} {x : Str} {px : Pos} {scope : Scope} {cl : List (Str × Addr)} {pos : Pos} {Q : Value → Shared → Prop} (_F₀ : Fr h₀ L s.heap m)
    (hclos : closureFor scope env = pure cl) (hcell : ∀ y ∈ scope.names, y.2 ≠ .cell) (hkind : scope.kind = .function)
    (hnames : ∀ y ∈ scope.names, y.2 = .local → scope.names.lookup y.1 = some .local) (hx : scope.names.lookup x = some .local)
    (h : wpAny (model prog w) A (eval iter env) (SrcC prog w A h₀ L m env elt x scope cl Q) E s)
    (hs : ∀ x, foldedSetIterable iter env x = pure x := by intro _; rfl) :
    wpAny (model prog w) A (eval (.ListComp elt [⟨.Name x px, iter, [], 0⟩] scope pos) env) Q E s := by
  rw [eval_ListComp]
  refine wpAny_comprehension_free (use := none) rfl hs hclos hkind hnames (wpAny_mono h (fun xv s₁ h₁ => ?_) fun _ _ e => e)
  obtain ⟨r, a, b, c, t, u, v, n, news, rfl, hh, F, N, hr, hsm, hn, hsz, R⟩ := h₁
  refine wpAny_pyIter_range hr hsm ?_
  refine LCg.block_U (Walks.range hh s₁.heap.objs.size a c n) hsz (fun i h st => ⟨_, st⟩) rstep_st hcell hkind hx (by show IsRangeIter _ _ _ _ _; rw [hn]; simpa using Heap.get?_push_size _ rfl) (fun b hb => ?_)
    (F.keeps fun _ _ e => Heap.get?_push_of_some _ e) (N.grown fun _ _ e => Heap.get?_push_of_some _ e) (Nat.ne_of_lt F.ns.lt) (next_is_new F) (fun p hp => Nat.ne_of_lt (Heap.lt_size (N p hp).1)) trivial (R _ ⟨_, rfl⟩) ?_
  · rw [List.mem_singleton.mp hb]
    show s₁.heap.objs.size < (s₁.heap.push _).objs.size
    rw [Heap.size_push]; exact Nat.lt_succ_self _
  · intro D C h tk m' ys news' F' N' o1 hns hC₀ hD₀ hCL hDL hCD offC fin
    refine ⟨m', hns, fun h'' hs'' => fin D h'' tk (F'.change hs'' hCL hC₀) (fun p hp => ?_) o1⟩
    refine ⟨hs''.extBut _ _ ?_ (N' p hp).1, (N' p hp).2⟩
    rcases List.mem_cons.mp hp with rfl | hp
    · exact Ne.symm hCD
    · exact offC p hp

/-- a block's end of a turn that leaves the ledger -/
def CompTurn (h₀ : Heap) (L : Addr) (m : Str → Option Value) (s₁ : Shared) (led : List (Addr × Obj)) (Y : Value → Prop) (y : Value) (s₂ : Shared) : Prop :=
  ∃ h' tk, s₂ = { s₁ with heap := h', toks := tk } ∧ Fr h₀ L h' m ∧ News h₀ L h' led ∧ Y y
theorem compRest_of {elt : Expr} {x : Str} {scope : Scope} {cl : List (Str × Addr)} {S : List (Addr × Obj) → Prop} {P : Nat → Value → Prop} {Fin : List Value → List (Addr × Obj) → Prop} {news : List (Addr × Obj)} (n : Nat) (YS : Nat → List Value → Prop) (hS : S news)
    (turn : ∀ i v ys I oI C oC D m₂ h tk, i < n → P i v → YS i ys → LCg.NsObj oC m₂ → m₂ x = some v → Fr h₀ L h m → News h₀ L h ((I, oI) :: (C, oC) :: (D, LCg.lst ys) :: news) →
      wpAny (model prog w) A (eval elt (compEnvC scope cl C env)) (CompTurn h₀ L m { s with heap := h, toks := tk } ((I, oI) :: (C, oC) :: (D, LCg.lst ys) :: news) (fun y => YS (i + 1) (ys ++ [y]))) (fun _ _ => False) { s with heap := h, toks := tk })
    (fin : ∀ ys, YS n ys → Fin ys news) : ∀ k i ys, k + i = n → YS i ys → LCg.CompRest prog w A h₀ L m env elt x scope cl s S P Fin k i ys news
  | 0, i, ys, e, hY => by
    have : i = n := by omega
    subst this
    exact fin ys hY
  | k + 1, i, ys, e, hY => by
    refine LCg.CompRest.succ fun v I oI C oC D m₂ h tk E' hP hO hx F N off hne => ?_
    refine wpAny_mono (turn i v ys I oI C oC D m₂ h tk (by omega) hP hY hO hx F N) (fun y s₂ hq => ?_) fun _ _ e => e.elim
    obtain ⟨h', tk', rfl, F', N', hY'⟩ := hq
    exact ⟨h', tk', news, rfl, F', N', off, hS, compRest_of n YS hS turn fin k (i + 1) (ys ++ [y]) (by omega) hY'⟩
end
end
end Mine

namespace Mine
section
theorem turn1 (elt : Expr) (g0 : Comprehension) (target iter : Expr) (scope : Scope) (pos : Pos) (it acc : Value) (env : Env) :
    compTurn (.ListComp elt [g0, ⟨target, iter, [], 0⟩] scope pos) 1 it acc env = (standAt iter.pos >>= fun _ => pyNext it >>= fun r => match r with
      | none => pure (.done .next)
      | some v => letOwnedTupleGo target it v >>= fun _ => assign target env v >>= fun _ =>
        (eval elt env >>= fun x => call (.builtin "list.append") [acc, x] >>= fun _ => pure ()) >>= fun _ =>
          again (.compLoop (.ListComp elt [g0, ⟨target, iter, [], 0⟩] scope pos) 1 it acc env)) := by rfl
theorem turn0 (elt target iter target1 iter1 : Expr) (scope : Scope) (pos : Pos) (it acc : Value) (env : Env) :
    compTurn (.ListComp elt [⟨target, iter, [], 0⟩, ⟨target1, iter1, [], 0⟩] scope pos) 0 it acc env = (standAt iter.pos >>= fun _ => pyNext it >>= fun r => match r with
      | none => pure (.done .next)
      | some v => letOwnedTupleGo target it v >>= fun _ => assign target env v >>= fun _ =>
        eval iter1 env >>= fun x => standAt iter1.pos >>= fun _ => foldedSetIterable iter1 env x >>= fun x => holding [x] (pyIter x) >>= fun it1 =>
          runOwn (.compStart (.ListComp elt [⟨target, iter, [], 0⟩, ⟨target1, iter1, [], 0⟩] scope pos) 1 it1 acc env) env >>= fun _ =>
          again (.compLoop (.ListComp elt [⟨target, iter, [], 0⟩, ⟨target1, iter1, [], 0⟩] scope pos) 0 it acc env)) := by rfl

section
variable {prog : Program} {w : World} {A : Around} {E : Value → Shared → Prop} {h₀ : Heap} {L : Addr} {m : Str → Option Value} {env : Env}
/-- an element's end: nothing of the heap is touched -/
def EltEnd (s : Shared) (v : Int) (y : Value) (s' : Shared) : Prop := (∃ t, y = .int v t) ∧ ∃ tk, s' = { s with toks := tk }

theorem start1 {elt iter0 iter1 : Expr} {x0 x1 : Str} {px0 px1 : Pos} {scope : Scope} {pos : Pos} {cenv : Env} {I1 T : Addr} {j : Nat} {acc : Value} {R : Result → Shared → Prop} {s : Shared} (hi : s.heap.IsTupleIter I1 T j)
    (h : codeAny (model prog w) A (.compLoop (.ListComp elt [⟨.Name x0 px0, iter0, [], 0⟩, ⟨.Name x1 px1, iter1, [], 0⟩] scope pos) 1 (.ref I1) acc cenv) R s) :
    codeAny (model prog w) A (.compStart (.ListComp elt [⟨.Name x0 px0, iter0, [], 0⟩, ⟨.Name x1 px1, iter1, [], 0⟩] scope pos) 1 (.ref I1) acc cenv) R s := by
  refine codeAny_of_tree ?_
  show wpAny _ _ ((compStart (.ListComp elt [⟨.Name x0 px0, iter0, [], 0⟩, ⟨.Name x1 px1, iter1, [], 0⟩] scope pos) 1 (.ref I1) acc cenv).onRaise (fun x => do noteFrame x cenv; standAt theWindowsPlace)) _ _ s
  refine wpAny_notedAt ?_
  unfold compStart
  show wpAny _ _ (ask >>= _) _ _ s
  refine wpAny_bind (wpAny_askSetting (wpAny_ite ?_))
  split
  · first
      | exact wpAny_bind (wpAny_pure (wpAny_pure (And.intro rfl h)))
      | exact wpAny_pure (And.intro rfl h)
  · first
      | exact wpAny_bind (wpAny_rule (wpAny_bind (wpAny_standAt (wpAny_bind (wpAny_pyIter_tupleiter hi (wpAny_pure (And.intro rfl h)))))))
      | (refine wpAny_bind (wpAny_rule ?_); show wpAny _ _ (standAt iter1.pos >>= _) _ _ s; exact wpAny_bind (wpAny_standAt (wpAny_bind (wpAny_pyIter_tupleiter hi (wpAny_pure (And.intro rfl h))))))

theorem inner2 {elt iter0 iter1 : Expr} {x0 x1 : Str} {px0 px1 : Pos} {scope : Scope} {cl : List (Str × Addr)} {pos : Pos} {I1 T C D : Addr} {items : Array Value} {R : Result → Shared → Prop} {o : Int} {to : Tok} {f : Int → Int → Int} {lid : Nat}
    (hh : A.handled = none) (hkind : scope.kind = .function) (hx1 : scope.names.lookup x1 = some .local) (hx01 : x0 ≠ x1)
    (hCL : C ≠ L) (hDL : D ≠ L) (hI1L : I1 ≠ L) (hCD : C ≠ D) (hI1C : I1 ≠ C) (hI1D : I1 ≠ D) (hI1T : T ≠ I1) (hTC : T ≠ C) (hTD : T ≠ D)
    (hC₀ : h₀.get? C = none) (hD₀ : h₀.get? D = none) (hI₀ : h₀.get? I1 = none) (hlid : lid ≤ 10000)
    (s₀ : Shared) :
    ∀ (rem : List Value) (remI : List Int), IntsAre rem remI → 
    (∀ (s : Shared) (k : Int) (tk : Tok) (m' : Str → Option Value), k ∈ remI → s.heap.Ns C m' → m' x0 = some (.int o to) → m' x1 = some (.int k tk) → Fr h₀ L s.heap m →
      wpAny (model prog w) A (eval elt (compEnvC scope cl C env)) (EltEnd s (f o k)) (fun _ _ => False) s) →
    ∀ (h : Heap) (tk : Nat) (j : Nat) (ys : List Value) (m' : Str → Option Value), items.toList.drop j = rem → Fr h₀ L h m → h.Ns C m' → m' x0 = some (.int o to) → h.get? D = some (LCg.lst ys) → ys.length + remI.length ≤ lid → h.IsTupleIter I1 T j → h.IsTuple T items →
    (∀ h' tk' m'' zs, (∀ b o, b ≠ I1 → b ≠ C → b ≠ D → h.get? b = some o → h'.get? b = some o) → Fr h₀ L h' m → h'.Ns C m'' → h'.get? D = some (LCg.lst (ys ++ zs)) → IntsAre zs (remI.map (f o)) → R (.ok .next) { s₀ with heap := h', toks := tk' }) →
    codeAny (model prog w) A (.compLoop (.ListComp elt [⟨.Name x0 px0, iter0, [], 0⟩, ⟨.Name x1 px1, iter1, [], 0⟩] scope pos) 1 (.ref I1) (.ref D) (compEnvC scope cl C env)) R { s₀ with heap := h, toks := tk } := by
  intro rem remI hI
  induction hI with
  | nil =>
    intro hel h tk j ys m' hj F hn hm hD hl hit hT hR
    refine codeAny_of_tree ?_
    show wpAny _ A ((compTurn (.ListComp elt [⟨.Name x0 px0, iter0, [], 0⟩, ⟨.Name x1 px1, iter1, [], 0⟩] scope pos) 1 (.ref I1) (.ref D) (compEnvC scope cl C env)).onRaise (fun x => do noteFrame x (compEnvC scope cl C env); theTreesLotGoes x)) _ _ _
    refine wpAny_noted ?_
    rw [turn1]
    refine wpAny_bind (wpAny_standAt (wpAny_bind ?_))
    refine wpAny_pyNext_tuple_end hh hit hT ?_ fun h' he => wpAny_pure ?_
    · have := List.drop_eq_nil_iff.mp hj
      rw [Array.getElem?_eq_none_iff]; simpa using this
    · refine hR h' tk m' [] (fun b o hb _ _ e => he b o hb e) ?_ ?_ ?_ .nil
      · obtain ⟨oL, es, ep, hL, r⟩ := F.ns
        exact ⟨⟨oL, es, ep, he _ _ (Ne.symm hI1L) hL, r⟩, fun b o e => he b o (fun q => by rw [q, hI₀] at e; cases e) (F.keep b o e), F.above⟩
      · obtain ⟨oL, es, ep, hL, r⟩ := hn
        exact ⟨oL, es, ep, he _ _ (Ne.symm hI1C) hL, r⟩
      · rw [List.append_nil]; exact he _ _ (Ne.symm hI1D) hD
  | @cons k tkk rem remI hI ih =>
    intro hel h tk j ys m' hj F hn hm hD hl hit hT hR
    refine codeAny_of_tree ?_
    show wpAny _ A ((compTurn (.ListComp elt [⟨.Name x0 px0, iter0, [], 0⟩, ⟨.Name x1 px1, iter1, [], 0⟩] scope pos) 1 (.ref I1) (.ref D) (compEnvC scope cl C env)).onRaise (fun x => do noteFrame x (compEnvC scope cl C env); theTreesLotGoes x)) _ _ _
    refine wpAny_noted ?_
    rw [turn1]
    refine wpAny_bind (wpAny_standAt (wpAny_bind ?_))
    have hx : items[j]? = some (.int k tkk) := by
      have e := congrArg List.head? hj
      rw [List.head?_drop] at e
      simpa using e
    have hj' : items.toList.drop (j + 1) = rem := by
      have e := congrArg List.tail hj
      rw [List.tail_drop] at e
      simpa using e
    refine wpAny_pyNext_tuple_item hit hT hx fun h₁ hit₁ hs₁ => ?_
    dsimp only
    refine wpAny_bind (wpAny_of_eq (rfl : letOwnedTupleGo (.Name x1 px1) (.ref I1) (.int k tkk) = pure ()) ?_)
    have F₁ : Fr h₀ L h₁ m := F.change hs₁ hI1L hI₀
    have hn₁ : h₁.Ns C m' := hn.sameBut hs₁ (Ne.symm hI1C)
    have hD₁ : h₁.get? D = some (LCg.lst ys) := (hs₁.2 D (Ne.symm hI1D)).trans hD
    refine wpAny_bind (wpAny_assign_Name (wpAny_storeName_local (lookup_relabel_local hx1) hn₁ (fun h₂ hn₂ hs₂ => ?_) (by simp [compEnvC, relabel, hkind])))
    have hs₂' : Heap.SameBut C h₁ h₂ := hs₂
    have F₂ : Fr h₀ L h₂ m := F₁.change hs₂' hCL hC₀
    have hD₂ : h₂.get? D = some (LCg.lst ys) := (hs₂'.2 D (Ne.symm hCD)).trans hD₁
    refine wpAny_bind (wpAny_bind (wpAny_mono (hel _ k tkk _ (.head _) hn₂ (by simp [hx01, hm]) (by simp) F₂) (fun y s₃ h₃ => ?_) fun _ _ e => e.elim))
    obtain ⟨⟨t3, rfl⟩, tk3, rfl⟩ := h₃
    refine wpAny_bind (append_at (hsz := by show ys.toArray.size ≤ sizeLine; rw [List.size_toArray, sizeLine_eq]; omega) hD₂ fun h₅ hs₅ hD₅ => ?_)
    refine wpAny_pure (wpAny_pure ⟨rfl, ?_⟩)
    have F₅ : Fr h₀ L h₅ m := F₂.change hs₅ hDL hD₀
    have hn₅ : h₅.Ns C _ := Heap.Ns.sameBut hn₂ hs₅ hCD
    refine ih (fun s k' tk' m' hk => hel s k' tk' m' (.tail _ hk)) h₅ _ (j + 1) (ys ++ [.int (f o k) t3]) _ hj' F₅ hn₅ (by simp [hx01, hm]) (hD₅.trans (congrArg some (LCg.lst_snoc ys _))) (by simp only [List.length_append, List.length_cons, List.length_nil] at hl ⊢; omega) ?_ ?_ ?_
    · have := hit₁
      obtain ⟨oi, e, r⟩ := this
      exact ⟨oi, (hs₅.2 I1 hI1D).trans ((hs₂'.2 I1 hI1C).trans e), r⟩
    · obtain ⟨oi, e, r⟩ := hT
      exact ⟨oi, (hs₅.2 T hTD).trans ((hs₂'.2 T hTC).trans ((hs₁.2 T hI1T).trans e)), r⟩
    · intro h' tk' m'' zs hk F' hn' hD' hz
      refine hR h' tk' m'' (.int (f o k) t3 :: zs) (fun b ob hb1 hb2 hb3 e => hk b ob hb1 hb2 hb3 ((hs₅.2 b hb3).trans ((hs₂'.2 b hb2).trans ((hs₁.2 b hb1).trans e)))) F' hn' ?_ (.cons _ _ hz)
      rw [List.append_assoc] at hD'
      exact hD'

/-- the inner source: a new tuple -/
def TupEnd (h₀ : Heap) (L : Addr) (m : Str → Option Value) (s : Shared) (led : List (Addr × Obj)) (ksI : List Int) (v : Value) (s' : Shared) : Prop :=
  ∃ T h' tk items n, v = .ref T ∧ s' = { s with heap := h', toks := tk } ∧ IntsAre items ksI ∧ Fr h₀ L h' m ∧ News h₀ L h' ((T, { cls := .type "tuple", data := .seq items.toArray n }) :: led) ∧ ∀ p ∈ led, p.1 ≠ T

theorem outer2 {elt iter0 iter1 : Expr} {x0 x1 : Str} {px0 px1 : Pos} {scope : Scope} {cl : List (Str × Addr)} {pos : Pos} {I ax C D : Addr} {items0 : Array Value} {ksI : List Int} {R : Result → Shared → Prop} {f : Int → Int → Int} {lid : Nat}
    (hh : A.handled = none) (hkind : scope.kind = .function) (hx0 : scope.names.lookup x0 = some .local) (hx1 : scope.names.lookup x1 = some .local) (hx01 : x0 ≠ x1) (hfs : ∀ x, foldedSetIterable iter1 (compEnvC scope cl C env) x = pure x)
    (hCL : C ≠ L) (hDL : D ≠ L) (hIL : I ≠ L) (hCD : C ≠ D) (hIC : I ≠ C) (hID : I ≠ D)
    (hC₀ : h₀.get? C = none) (hD₀ : h₀.get? D = none) (hI₀ : h₀.get? I = none) (hlid : lid ≤ 10000) (hax : h₀.IsList ax items0)
    (hit1 : ∀ (s : Shared) (m' : Str → Option Value) oI oC oD, LCg.NsObj oC m' → Fr h₀ L s.heap m → News h₀ L s.heap [(C, oC), (I, oI), (D, oD)] → wpAny (model prog w) A (eval iter1 (compEnvC scope cl C env)) (TupEnd h₀ L m s [(C, oC), (I, oI), (D, oD)] ksI) (fun _ _ => False) s)
    (s₀ : Shared) :
    ∀ (rem : List Value) (remI : List Int), IntsAre rem remI →
    (∀ (s : Shared) (o : Int) (to : Tok) (k : Int) (tk : Tok) (m' : Str → Option Value), o ∈ remI → k ∈ ksI → s.heap.Ns C m' → m' x0 = some (.int o to) → m' x1 = some (.int k tk) → Fr h₀ L s.heap m →
      wpAny (model prog w) A (eval elt (compEnvC scope cl C env)) (EltEnd s (f o k)) (fun _ _ => False) s) →
    ∀ (h : Heap) (tk : Nat) (i : Nat) (ys : List Value) (m' : Str → Option Value), items0.toList.drop i = rem → Fr h₀ L h m → h.Ns C m' → h.get? D = some (LCg.lst ys) → ys.length + ksI.length * remI.length ≤ lid → h.IsListIter I ax i →
    (∀ h' tk' m'' zs, Fr h₀ L h' m → h'.Ns C m'' → h'.get? D = some (LCg.lst (ys ++ zs)) → IntsAre zs (remI.flatMap fun o => ksI.map (f o)) → R (.ok .next) { s₀ with heap := h', toks := tk' }) →
    codeAny (model prog w) A (.compLoop (.ListComp elt [⟨.Name x0 px0, iter0, [], 0⟩, ⟨.Name x1 px1, iter1, [], 0⟩] scope pos) 0 (.ref I) (.ref D) (compEnvC scope cl C env)) R { s₀ with heap := h, toks := tk } := by
  intro rem remI hIr
  have list_at : ∀ {h}, Fr h₀ L h m → h.IsList ax items0 := fun {h} F => let ⟨o, e, r⟩ := hax; ⟨o, F.keep _ _ e, r⟩
  have hxI : ax ≠ I := fun e => by obtain ⟨o, q, _⟩ := hax; rw [e, hI₀] at q; cases q
  induction hIr with
  | nil =>
    intro hel h tk i ys m' hj F hn hD hl hit hR
    refine codeAny_of_tree ?_
    show wpAny _ A ((compTurn (.ListComp elt [⟨.Name x0 px0, iter0, [], 0⟩, ⟨.Name x1 px1, iter1, [], 0⟩] scope pos) 0 (.ref I) (.ref D) (compEnvC scope cl C env)).onRaise (fun x => do noteFrame x (compEnvC scope cl C env); theTreesLotGoes x)) _ _ _
    refine wpAny_noted ?_
    rw [turn0]
    refine wpAny_bind (wpAny_standAt (wpAny_bind ?_))
    refine wpAny_pyNext_list_end hh hit (list_at F) ?_ fun h' he => wpAny_pure ?_
    · have := List.drop_eq_nil_iff.mp hj
      rw [Array.getElem?_eq_none_iff]; simpa using this
    · refine hR h' tk m' [] ?_ ?_ ?_ .nil
      · obtain ⟨oL, es, ep, hL, r⟩ := F.ns
        exact ⟨⟨oL, es, ep, he _ _ (Ne.symm hIL) hL, r⟩, fun b o e => he b o (fun q => by rw [q, hI₀] at e; cases e) (F.keep b o e), F.above⟩
      · obtain ⟨oL, es, ep, hL, r⟩ := hn
        exact ⟨oL, es, ep, he _ _ (Ne.symm hIC) hL, r⟩
      · rw [List.append_nil]; exact he _ _ (Ne.symm hID) hD
  | @cons o to rem remI hIr ih =>
    intro hel h tk i ys m' hj F hn hD hl hit hR
    refine codeAny_of_tree ?_
    show wpAny _ A ((compTurn (.ListComp elt [⟨.Name x0 px0, iter0, [], 0⟩, ⟨.Name x1 px1, iter1, [], 0⟩] scope pos) 0 (.ref I) (.ref D) (compEnvC scope cl C env)).onRaise (fun x => do noteFrame x (compEnvC scope cl C env); theTreesLotGoes x)) _ _ _
    refine wpAny_noted ?_
    rw [turn0]
    refine wpAny_bind (wpAny_standAt (wpAny_bind ?_))
    have hx : items0[i]? = some (.int o to) := by
      have e := congrArg List.head? hj
      rw [List.head?_drop] at e
      simpa using e
    have hj' : items0.toList.drop (i + 1) = rem := by
      have e := congrArg List.tail hj
      rw [List.tail_drop] at e
      simpa using e
    refine wpAny_pyNext_list_item hit (list_at F) hx fun h₁ hit₁ hs₁ => ?_
    dsimp only
    refine wpAny_bind (wpAny_of_eq (rfl : letOwnedTupleGo (.Name x0 px0) (.ref I) (.int o to) = pure ()) ?_)
    have F₁ : Fr h₀ L h₁ m := F.change hs₁ hIL hI₀
    have hn₁ : h₁.Ns C m' := hn.sameBut hs₁ (Ne.symm hIC)
    have hD₁ : h₁.get? D = some (LCg.lst ys) := (hs₁.2 D (Ne.symm hID)).trans hD
    refine wpAny_bind (wpAny_assign_Name (wpAny_storeName_local (lookup_relabel_local hx0) hn₁ (fun h₂ hn₂ hs₂ => ?_) (by simp [compEnvC, relabel, hkind])))
    have hs₂' : Heap.SameBut C h₁ h₂ := hs₂
    have F₂ : Fr h₀ L h₂ m := F₁.change hs₂' hCL hC₀
    have hD₂ : h₂.get? D = some (LCg.lst ys) := (hs₂'.2 D (Ne.symm hCD)).trans hD₁
    obtain ⟨oC, hoC, hoN⟩ := LCg.ns_obj hn₂
    obtain ⟨oI, hoI, rI⟩ := hit₁
    have hoI₂ : h₂.get? I = some oI := (hs₂'.2 I hIC).trans hoI
    have N₂ : News h₀ L h₂ [(C, oC), (I, oI), (D, LCg.lst ys)] := fun p hp => by
      simp only [List.mem_cons, List.not_mem_nil, or_false] at hp
      rcases hp with rfl | rfl | rfl
      · exact ⟨hoC, hCL, hC₀⟩
      · exact ⟨hoI₂, hIL, hI₀⟩
      · exact ⟨hD₂, hDL, hD₀⟩
    refine wpAny_bind (wpAny_mono (hit1 _ _ oI oC _ hoN F₂ N₂) (fun v s₃ h₃ => ?_) fun _ _ e => e.elim)
    obtain ⟨T, h₃, tk3, itl, nT, rfl, rfl, hks, F₃, N₃, hTne⟩ := h₃
    have hoT := (N₃ _ (.head _)).1
    have hT : h₃.IsTuple T itl.toArray := ⟨_, hoT, rfl, _, rfl⟩
    have hC₃ := (N₃ _ (.tail _ (.head _))).1
    have hI₃ := (N₃ _ (.tail _ (.tail _ (.head _)))).1
    have hD₃ := (N₃ _ (.tail _ (.tail _ (.tail _ (.head _))))).1
    have hTC : C ≠ T := hTne _ (.head _)
    have hTI : I ≠ T := hTne _ (.tail _ (.head _))
    have hTD : D ≠ T := hTne _ (.tail _ (.tail _ (.head _)))
    refine wpAny_bind (wpAny_standAt (wpAny_bind (wpAny_of_eq (hfs _) (wpAny_bind (wpAny_holding ?_)))))
    refine wpAny_pyIter_tuple hT ?_
    have lt_of : ∀ {b ob}, h₃.get? b = some ob → h₃.objs.size ≠ b := fun {b ob} e q => absurd (ltN (Heap.lt_size e)) (by rw [← q]; exact Nat.lt_irrefl _)
    obtain ⟨oL, es, ep, hLL, rL⟩ := F₃.ns
    have hI1₀ : h₀.get? h₃.objs.size = none := next_is_new F₃
    refine wpAny_bind (wpAny_runOwn (h := none) ?_)
    refine start1 (I1 := h₃.objs.size) (T := T) (j := 0) ⟨_, Heap.get?_push_size _ rfl, rfl, rfl⟩ ?_
    refine inner2 (T := T) (items := itl.toArray) (f := f) (lid := lid) (o := o) (to := to) hh hkind hx1 hx01 hCL hDL (lt_of hLL) hCD (lt_of hC₃) (lt_of hD₃) (Ne.symm (lt_of hoT)) (Ne.symm hTC) (Ne.symm hTD) hC₀ hD₀ hI1₀ hlid { s₀ with toks := tk3 }
      itl ksI hks (fun s k tk m' hk hn hm0 hm1 F => hel s o to k tk m' (.head _) hk hn hm0 hm1 F) (h₃.push _) tk3 0 ys _ (by simp) (F₃.push _) ((hoN.ns hC₃).push _) (by simp) (Heap.get?_push_of_some _ hD₃) ?_ ⟨_, Heap.get?_push_size _ rfl, rfl, rfl⟩ (hT.push _) ?_
    · simp only [List.length_cons] at hl
      have : ksI.length * (remI.length + 1) = ksI.length * remI.length + ksI.length := Nat.mul_succ _ _
      omega
    · intro h' tk' m'' zs hk F' hn' hD' hz
      refine wpAny_pure ⟨rfl, ?_⟩
      refine ih (fun s o' to' k tk m' ho' => hel s o' to' k tk m' (.tail _ ho')) h' tk' (i + 1) (ys ++ zs) m'' hj' F' hn' hD' ?_ ?_ ?_
      · have e := hz.length
        simp only [List.length_map] at e
        simp only [List.length_append, List.length_cons] at hl ⊢
        have : ksI.length * (remI.length + 1) = ksI.length * remI.length + ksI.length := Nat.mul_succ _ _
        omega
      · exact ⟨oI, hk I oI (Ne.symm (lt_of hI₃)) hIC hID (Heap.get?_push_of_some _ hI₃), rI⟩
      · intro h'' tk'' m3 zs' F'' hn'' hD'' hz'
        refine hR h'' tk'' m3 (zs ++ zs') F'' hn'' ?_ ?_
        · rw [← List.append_assoc]; exact hD''
        · rw [List.flatMap_cons]; exact IntsAre.append hz hz'

def Src2 (prog : Program) (w : World) (A : Around) (h₀ : Heap) (L : Addr) (m : Str → Option Value) (env : Env) (elt iter1 : Expr) (x0 x1 y : Str) (scope : Scope) (cl : List (Str × Addr)) (Q : Flow → Shared → Prop) (xv : Value) (s₁ : Shared) : Prop :=
  ∃ (ax : Addr) (items0 : Array Value) (ns : List Int) (ksI : List Int) (f : Int → Int → Int) (lid : Nat), xv = .ref ax ∧ A.handled = none ∧ Fr h₀ L s₁.heap m ∧ h₀.IsList ax items0 ∧ IntsAre items0.toList ns ∧ ksI.length * ns.length ≤ lid ∧ lid ≤ 10000 ∧
    (∀ C x, foldedSetIterable iter1 (compEnvC scope cl C env) x = pure x) ∧
    (∀ (C I D : Addr) (s : Shared) (m' : Str → Option Value) (oI oC oD : Obj), LCg.NsObj oC m' → Fr h₀ L s.heap m → News h₀ L s.heap [(C, oC), (I, oI), (D, oD)] → wpAny (model prog w) A (eval iter1 (compEnvC scope cl C env)) (TupEnd h₀ L m s [(C, oC), (I, oI), (D, oD)] ksI) (fun _ _ => False) s) ∧
    (∀ (C : Addr) (s : Shared) (o : Int) (to : Tok) (k : Int) (tk : Tok) (m' : Str → Option Value), C ≠ L → h₀.get? C = none → o ∈ ns → k ∈ ksI → s.heap.Ns C m' → m' x0 = some (.int o to) → m' x1 = some (.int k tk) → Fr h₀ L s.heap m →
      wpAny (model prog w) A (eval elt (compEnvC scope cl C env)) (EltEnd s (f o k)) (fun _ _ => False) s) ∧
    (∀ D h tk zs, Fr h₀ L h (fun z => if z = y then some (.ref D) else m z) → News h₀ L h [(D, LCg.lst zs)] → IntsAre zs (ns.flatMap fun o => ksI.map (f o)) → Q .next { s₁ with heap := h, toks := tk })

theorem assign_comp2 {s : Shared} {elt iter0 iter1 : Expr} {x0 x1 y : Str} {px0 px1 py : Pos} {scope : Scope} {cl : List (Str × Addr)} {pos spos : Pos} {Q : Flow → Shared → Prop} (_F₀ : Fr h₀ L s.heap m) (hLe : env.locals = L)
    (hsw : swapsWith (.ListComp elt [⟨.Name x0 px0, iter0, [], 0⟩, ⟨.Name x1 px1, iter1, [], 0⟩] scope pos) (some (.Name y py)) spos.line env = pure true)
    (hclos : closureFor scope env = pure cl) (hcell : ∀ z ∈ scope.names, z.2 ≠ .cell) (hkind : scope.kind = .function)
    (hnames : ∀ z ∈ scope.names, z.2 = .local → scope.names.lookup z.1 = some .local) (hx0 : scope.names.lookup x0 = some .local) (hx1 : scope.names.lookup x1 = some .local) (hx01 : x0 ≠ x1)
    (hy : env.kindOf y = some .local) (hp : (env.scope.kind == .class || (env.scope.kind == .module && env.locals != env.globals)) = false)
    (h : wpAny (model prog w) A (eval iter0 env) (Src2 prog w A h₀ L m env elt iter1 x0 x1 y scope cl Q) E s)
    (hs : ∀ x, foldedSetIterable iter0 env x = pure x := by intro _; rfl) :
    wpAny (model prog w) A (exec (.Assign [.Name y py] (.ListComp elt [⟨.Name x0 px0, iter0, [], 0⟩, ⟨.Name x1 px1, iter1, [], 0⟩] scope pos) spos) env) Q E s := by
  subst hLe
  rw [exec_Assign_Name_used _ _ _ _ hsw]
  refine wpAny_bind (wpAny_standAt (wpAny_bind ?_))
  show wpAny _ A (do let _ ← comprehension (.ListComp elt [⟨.Name x0 px0, iter0, [], 0⟩, ⟨.Name x1 px1, iter1, [], 0⟩] scope pos) scope env _ (newList []) false (eval iter0 env) (some (assign (.Name y py) env))) _ _ s
  refine wpAny_bind (wpAny_mono (wpAny_comprehension_free (use := some (assign (.Name y py) env)) (Q := fun _ s' => Q .next s') rfl hs hclos hkind hnames
    (wpAny_mono h (fun xv s₁ h₁ => ?_) fun _ _ e => e)) (fun _ s' hq => wpAny_pure (wpAny_pure hq)) fun _ _ e => e)
  obtain ⟨ax, items0, ns, ksI, f, lid, rfl, hh, F, hax, hns, hl1, hl2, hfs, hit1, hel, fin⟩ := h₁
  have hl : s₁.heap.IsList ax items0 := let ⟨o, e, r⟩ := hax; ⟨o, F.keep _ _ e, r⟩
  refine wpAny_pyIter_list hl ?_
  generalize hH1 : s₁.heap.push { cls := .type "list_iterator", data := .fields #[.ref ax, .int 0 0] } = H1
  refine wpAny_newObj_type (wpAny_newFunctionEnv hcell (by intro y hy; simp at hy) (fun h₁ hns₁ hsb₁ => ?_) hkind)
  dsimp only at hns₁ hsb₁ ⊢
  generalize hH2 : H1.push { cls := .type "list", dict := none, data := .seq ([] : List Value).toArray } = H2 at hns₁ hsb₁ ⊢
  have z1 : @Eq Nat H1.objs.size (s₁.heap.objs.size + 1) := by rw [← hH1, Heap.size_push]
  have z2 : @Eq Nat H2.objs.size (H1.objs.size + 1) := by rw [← hH2, Heap.size_push]
  have hLs := ltN F.ns.lt
  have new : ∀ b : Nat, s₁.heap.objs.size ≤ b → h₀.get? b = none := fun b hb => by
    cases q : h₀.get? b with
    | none => rfl
    | some o => exact absurd (ltN (Heap.lt_size (F.keep _ _ q))) (Nat.not_lt.mpr hb)
  have hC₀ : h₀.get? H2.objs.size = none := new _ (by omega)
  have hD₀ : h₀.get? H1.objs.size = none := new _ (by omega)
  have hI₀ : h₀.get? s₁.heap.objs.size = none := new _ (Nat.le_refl _)
  have hCL : H2.objs.size ≠ env.locals := neN (by omega)
  have hDL : H1.objs.size ≠ env.locals := neN (by omega)
  have hIL : s₁.heap.objs.size ≠ env.locals := neN (by omega)
  have hCD : H2.objs.size ≠ H1.objs.size := neN (by omega)
  have hIC : s₁.heap.objs.size ≠ H2.objs.size := neN (by omega)
  have hID : s₁.heap.objs.size ≠ H1.objs.size := neN (by omega)
  have up1 : ∀ b o, s₁.heap.get? b = some o → H1.get? b = some o := fun b o e => hH1 ▸ Heap.get?_push_of_some _ e
  have up2 : ∀ b o, H1.get? b = some o → h₁.get? b = some o := fun b o e => hsb₁.extBut b o (fun q => absurd (ltN (Heap.lt_size e)) (by rw [q]; omega)) (Heap.get?_push_of_some _ (hH2 ▸ Heap.get?_push_of_some _ e))
  have hI : h₁.IsListIter s₁.heap.objs.size ax 0 := ⟨_, up2 _ _ (hH1 ▸ Heap.get?_push_size _ rfl), rfl, rfl⟩
  have hD : h₁.get? H1.objs.size = some (LCg.lst []) := hsb₁.extBut _ _ (Ne.symm hCD) (Heap.get?_push_of_some _ (hH2 ▸ Heap.get?_push_size _ rfl))
  have F₁ : Fr h₀ env.locals h₁ m := F.keeps fun b o e => up2 b o (up1 b o e)
  have loop : codeAny (model prog w) A (.compLoop (.ListComp elt [⟨.Name x0 px0, iter0, [], 0⟩, ⟨.Name x1 px1, iter1, [], 0⟩] scope pos) 0 (.ref s₁.heap.objs.size) (.ref H1.objs.size) (compEnvC scope cl H2.objs.size env))
      (compPost (model prog w) A E (some (assign (.Name y py) env)) (fun _ s' => Q .next s') (.ref H1.objs.size) H2.objs.size) { s₁ with heap := h₁, toks := s₁.toks + ([] : List (Str × Value)).length } := by
    refine outer2 (f := f) (lid := lid) hh hkind hx0 hx1 hx01 (hfs _) hCL hDL hIL hCD hIC hID hC₀ hD₀ hI₀ hl2 hax (fun s m' => hit1 _ _ _ s m') s₁ items0.toList ns hns (fun s o to k tk m' => hel _ s o to k tk m' hCL hC₀) h₁ _ 0 [] _ (by simp) F₁ hns₁ hD (by simpa using hl1) hI ?_
    intro h' tk' m'' zs F' hn' hD' hz
    show wpAny _ A (assign (.Name y py) env (.ref H1.objs.size)) _ _ _
    refine wpAny_assign_Name (wpAny_storeName_local hy F'.ns (fun h₂ hn₂ hs₂ => ?_) hp)
    have hL₀ : h₀.get? env.locals = none := Heap.get?_none_of_le F'.above
    have F₂ : Fr h₀ env.locals h₂ (fun z => if z = y then some (.ref H1.objs.size) else m z) := ⟨hn₂, fun b o e => hs₂.extBut b o (fun q => by rw [q, hL₀] at e; cases e) (F'.keep b o e), F'.above⟩
    refine ⟨m'', hn'.sameBut hs₂ hCL, fun h'' hs'' => fin H1.objs.size h'' _ zs (F₂.change hs'' hCL hC₀) (fun p hp => ?_) hz⟩
    rw [List.mem_singleton.mp hp]
    exact ⟨(hs''.2 _ (Ne.symm hCD)).trans ((hs₂.2 _ hDL).trans hD'), hDL, hD₀⟩
  exact codeAny_compStart_list loop (wpAny_pyIter_listiter hI loop)
end
end
end Mine

namespace Mine
section
/-- the sign of a figure -/
noncomputable def sgn : List Int := [65, 66, 67, 68, 69, 70, 71, 72, 73, 74, 75, 76, 77, 78, 79, 80, 81, 82, 83, 84, 85, 86, 87, 88, 89, 90, 97, 98, 99, 100, 101, 102, 103, 104, 105, 106, 107, 108, 109, 110, 111, 112, 113, 114, 115, 116, 117, 118, 119, 120, 121, 122, 48, 49, 50, 51, 52, 53, 54, 55, 56, 57, 43, 47]
noncomputable def S (i : Int) : Int := sgn.getD i.toNat 0
noncomputable def e64 : List Int → List Int
  | a :: b :: c :: r => S (a / 4) :: S (a % 4 * 16 + b / 16) :: S (b % 16 * 4 + c / 64) :: S (c % 64) :: e64 r
  | _ => []
noncomputable def w64 : List Int → List Int
  | a :: b :: c :: r => S (a / 4) :: S (a % 4 * 16 + b / 16) :: S (b % 16 * 4 + c / 64) :: S (c % 64) :: w64 r
  | [a, b] => [S (a / 4), S (a % 4 * 16 + b / 16), S (b % 16 * 4), 61]
  | [a] => [S (a / 4), S (a % 4 * 16), 61, 61]
  | [] => []
theorem e64_app : ∀ (n : Nat) (l : List Int), l.length = 3 * n → ∀ r, e64 (l ++ r) = e64 l ++ e64 r
  | 0, l, h, r => by
    have : l = [] := List.eq_nil_of_length_eq_zero (by omega)
    subst this; rfl
  | n + 1, l, h, r => by
    match l, h with
    | a :: b :: c :: l', h =>
      have := e64_app n l' (by simp only [List.length_cons] at h; omega) r
      simp only [List.cons_append, e64, this]
theorem w64_app : ∀ (n : Nat) (l : List Int), l.length = 3 * n → ∀ r, w64 (l ++ r) = e64 l ++ w64 r
  | 0, l, h, r => by
    have : l = [] := List.eq_nil_of_length_eq_zero (by omega)
    subst this; rfl
  | n + 1, l, h, r => by
    match l, h with
    | a :: b :: c :: l', h =>
      have := w64_app n l' (by simp only [List.length_cons] at h; omega) r
      simp only [List.cons_append, w64, e64, this]
inductive Inv : List Int → Int → Int → List Int → Prop where
  | zero (n : Nat) (l : List Int) (lc : Int) : l.length = 3 * n → 0 ≤ lc → lc < 65536 → Inv l 0 lc (e64 l)
  | one (n : Nat) (l : List Int) (a lc : Int) : l.length = 3 * n → 0 ≤ lc → lc < 65536 → 0 ≤ a → a < 256 → lc % 4 = a % 4 → Inv (l ++ [a]) 2 lc (e64 l ++ [S (a / 4)])
  | two (n : Nat) (l : List Int) (a b lc : Int) : l.length = 3 * n → 0 ≤ lc → lc < 65536 → 0 ≤ a → a < 256 → 0 ≤ b → b < 256 → lc % 16 = b % 16 → Inv (l ++ [a, b]) 4 lc (e64 l ++ [S (a / 4), S (a % 4 * 16 + b / 16)])
theorem e64_len : ∀ (n : Nat) (l : List Int), l.length = 3 * n → (e64 l).length = 4 * n
  | 0, l, h => by
    have : l = [] := List.eq_nil_of_length_eq_zero (by omega)
    subst this; rfl
  | n + 1, l, h => by
    match l, h with
    | a :: b :: c :: l', h =>
      have := e64_len n l' (by simp only [List.length_cons] at h; omega)
      simp only [e64, List.length_cons, this]; omega
theorem inv_len {l : List Int} {lb lc : Int} {out : List Int} (h : Inv l lb lc out) : out.length ≤ 2 * l.length := by
  cases h with
  | zero n l lc h1 => have := e64_len n l h1; omega
  | one n l a lc h1 => have := e64_len n l h1; simp only [List.length_append, List.length_cons, List.length_nil]; omega
  | two n l a lc h1 => have := e64_len n l (by assumption); simp only [List.length_append, List.length_cons, List.length_nil]; omega
theorem and_apart (a b : Nat) (hb : b < 256) : (a * 256) &&& b = 0 := by
  apply Nat.eq_of_testBit_eq
  intro i
  rw [Nat.testBit_and, Nat.zero_testBit, show a * 256 = 2 ^ 8 * a by omega, Nat.testBit_two_pow_mul]
  by_cases h : 8 ≤ i
  · rw [Nat.testBit_lt_two_pow (Nat.lt_of_lt_of_le hb (Nat.pow_le_pow_right (n := 2) (by omega) h))]; simp
  · simp [h]
theorem or_apart {a b : Int} (ha : 0 ≤ a) (hb : 0 ≤ b) (hb' : b < 256) : Builtin.bitOr (a * 256) b = a * 256 + b := by
  have k256 : (0 : Int) ≤ 256 := by decide
  have e := bitXor_and (a * 256) b
  have e2 : Builtin.bitAnd (a * 256) b = 0 := by
    unfold Builtin.bitAnd
    rw [decide_eq_true (Int.mul_nonneg ha k256), decide_eq_true hb]
    show (((a * 256).toNat &&& b.toNat : Nat) : Int) = 0
    rw [Int.toNat_mul ha k256, show (256 : Int).toNat = 256 from rfl, and_apart _ _ ((Int.toNat_lt hb).mpr hb')]; rfl
  unfold Builtin.bitXor at e
  rw [e2] at e
  generalize a * 256 = y at *
  omega
/-- the register behind one octet more -/
noncomputable def reg (lc x : Int) : Int := Builtin.bitAnd (Builtin.bitOr (lc * 2 ^ Int.toNat 8) x) 65535
theorem reg_is {lc x : Int} (h2 : 0 ≤ lc) (hx : 0 ≤ x) (hx' : x < 256) : reg lc x = (lc * 256 + x) % 65536 := by
  unfold reg
  rw [bitAnd_m16, show (2 : Int) ^ Int.toNat 8 = 256 from rfl, or_apart h2 hx hx']
theorem six (r : Int) (k : Nat) : Builtin.bitAnd (r.fdiv (2 ^ k)) 63 = r / 2 ^ k % 64 := by
  rw [bitAnd_m6, Int.fdiv_eq_ediv_of_nonneg _ (Int.le_of_lt (kbt_pos k))]
theorem six_in (x : Int) : 0 ≤ Builtin.bitAnd x 63 ∧ Builtin.bitAnd x 63 < 64 := by rw [bitAnd_m6]; omega
theorem s_item {prog : Program} {w : World} {A : Around} {E : Value → Shared → Prop} {s : Shared} {i : Int} {t ui : Tok} {value slice : Expr} {Q : Value → Shared → Prop} (h0 : 0 ≤ i) (h1 : i < 64)
    (h : ∀ t' k, Q (.int (S i) t') { s with toks := k })
    (hs : subscripted slice false (.bytes #[65, 66, 67, 68, 69, 70, 71, 72, 73, 74, 75, 76, 77, 78, 79, 80, 81, 82, 83, 84, 85, 86, 87, 88, 89, 90, 97, 98, 99, 100, 101, 102, 103, 104, 105, 106, 107, 108, 109, 110, 111, 112, 113, 114, 115, 116, 117, 118, 119, 120, 121, 122, 48, 49, 50, 51, 52, 53, 54, 55, 56, 57, 43, 47] t) (.int i ui) = operate [.bytes #[65, 66, 67, 68, 69, 70, 71, 72, 73, 74, 75, 76, 77, 78, 79, 80, 81, 82, 83, 84, 85, 86, 87, 88, 89, 90, 97, 98, 99, 100, 101, 102, 103, 104, 105, 106, 107, 108, 109, 110, 111, 112, 113, 114, 115, 116, 117, 118, 119, 120, 121, 122, 48, 49, 50, 51, 52, 53, 54, 55, 56, 57, 43, 47] t, .int i ui] (getItem (.bytes #[65, 66, 67, 68, 69, 70, 71, 72, 73, 74, 75, 76, 77, 78, 79, 80, 81, 82, 83, 84, 85, 86, 87, 88, 89, 90, 97, 98, 99, 100, 101, 102, 103, 104, 105, 106, 107, 108, 109, 110, 111, 112, 113, 114, 115, 116, 117, 118, 119, 120, 121, 122, 48, 49, 50, 51, 52, 53, 54, 55, 56, 57, 43, 47] t) (.int i ui)) := by with_unfolding_all rfl)
    (ht : ∀ r, letTemporaryGo value (.bytes #[65, 66, 67, 68, 69, 70, 71, 72, 73, 74, 75, 76, 77, 78, 79, 80, 81, 82, 83, 84, 85, 86, 87, 88, 89, 90, 97, 98, 99, 100, 101, 102, 103, 104, 105, 106, 107, 108, 109, 110, 111, 112, 113, 114, 115, 116, 117, 118, 119, 120, 121, 122, 48, 49, 50, 51, 52, 53, 54, 55, 56, 57, 43, 47] t) r = pure () := by intro _; with_unfolding_all rfl) :
    wpAny (model prog w) A (subscriptTail value slice (.bytes #[65, 66, 67, 68, 69, 70, 71, 72, 73, 74, 75, 76, 77, 78, 79, 80, 81, 82, 83, 84, 85, 86, 87, 88, 89, 90, 97, 98, 99, 100, 101, 102, 103, 104, 105, 106, 107, 108, 109, 110, 111, 112, 113, 114, 115, 116, 117, 118, 119, 120, 121, 122, 48, 49, 50, 51, 52, 53, 54, 55, 56, 57, 43, 47] t) (.int i ui)) Q E s :=
  KBw.item_K (ks := sgn) (by decide +kernel) (by decide +kernel) h0 (by show i < 64; exact h1) (fun t' k _ _ => h t' k) hs ht
theorem s_in (i : Int) : 0 ≤ S i ∧ S i < 128 := by
  unfold S
  rw [List.getD_eq_getElem?_getD]
  cases h : sgn[i.toNat]? with
  | none => decide
  | some k =>
    have := List.mem_of_getElem? h
    have a : ∀ k ∈ sgn, 0 ≤ k ∧ k < 128 := by decide
    exact a k this
theorem w64_in : ∀ (l : List Int), ∀ n ∈ w64 l, 0 ≤ n ∧ n < 128
  | a :: b :: c :: r, n, h => by
    have ih := w64_in r
    simp only [w64, List.mem_cons] at h
    rcases h with rfl | rfl | rfl | rfl | h
    · exact s_in _
    · exact s_in _
    · exact s_in _
    · exact s_in _
    · exact ih n h
  | [a, b], n, h => by
    simp only [w64, List.mem_cons, List.not_mem_nil, or_false] at h
    rcases h with rfl | rfl | rfl | rfl
    · exact s_in _
    · exact s_in _
    · exact s_in _
    · decide
  | [a], n, h => by
    simp only [w64, List.mem_cons, List.not_mem_nil, or_false] at h
    rcases h with rfl | rfl | rfl | rfl
    · exact s_in _
    · exact s_in _
    · decide
    · decide
  | [], n, h => by simp [w64] at h
theorem w64_len : ∀ (l : List Int), (w64 l).length ≤ 4 * l.length
  | a :: b :: c :: r => by have := w64_len r; simp only [w64, List.length_cons]; omega
  | [a, b] => by simp [w64]
  | [a] => by simp [w64]
  | [] => by simp [w64]
/-- the register is the octet and a multiple of 256 -/
theorem reg_p (lc x : Int) : ∃ p, (lc * 256 + x) % 65536 = x + 256 * p ∧ p = lc - 256 * ((lc * 256 + x) / 65536) :=
  ⟨_, by rw [Int.emod_def, Int.mul_sub, ← Int.mul_assoc, Int.mul_comm 256 lc, show (256 * 256 : Int) = 65536 from rfl, Int.add_comm (lc * 256), Int.add_sub_assoc], rfl⟩
theorem by256' {P : Int → Prop} (h : ∀ q : Fin 256, P (q.val : Int)) {x : Int} (h0 : 0 ≤ x) (h1 : x < 256) : P x := by
  have k := h ⟨x.toNat, (Int.toNat_lt h0).mpr h1⟩
  rw [show (((⟨x.toNat, (Int.toNat_lt h0).mpr h1⟩ : Fin 256).val : Nat) : Int) = x from Int.toNat_of_nonneg h0] at k
  exact k
theorem cut4 {x : Int} (p : Int) (h0 : 0 ≤ x) (h1 : x < 256) : (x + 256 * p) / 4 % 64 = x / 4 := by
  rw [show x + 256 * p = x + 4 * (64 * p) by rw [← Int.mul_assoc]; rfl, Int.add_mul_ediv_left _ _ (by decide), Int.add_mul_emod_self_left]
  exact by256' (P := fun x => x / 4 % 64 = x / 4) (by decide +kernel) h0 h1
theorem cut16 {x : Int} (p : Int) (h0 : 0 ≤ x) (h1 : x < 256) : (x + 256 * p) / 16 % 64 = p % 4 * 16 + x / 16 := by
  have e : p = p % 4 + 4 * (p / 4) := (Int.emod_add_mul_ediv p 4).symm
  have hk : 0 ≤ p % 4 ∧ p % 4 < 4 := ⟨Int.emod_nonneg _ (by decide), Int.emod_lt_of_pos _ (by decide)⟩
  rw [show x + 256 * p = x + 16 * (16 * p) by rw [← Int.mul_assoc]; rfl, Int.add_mul_ediv_left _ _ (by decide)]
  rw [show x / 16 + 16 * p = x / 16 + 16 * (p % 4) + 64 * (p / 4) by rw [Int.add_assoc, show (64 : Int) = 16 * 4 from rfl, Int.mul_assoc, ← Int.mul_add, ← e], Int.add_mul_emod_self_left]
  generalize p % 4 = r at hk
  have hq : 0 ≤ x / 16 ∧ x / 16 < 16 := by256' (P := fun x => 0 ≤ x / 16 ∧ x / 16 < 16) (by decide +kernel) h0 h1
  generalize x / 16 = y at hq
  rw [Int.emod_eq_of_lt (by omega) (by omega), Int.mul_comm 16 r, Int.add_comm]
theorem cut64 {x : Int} (p : Int) (h0 : 0 ≤ x) (h1 : x < 256) : (x + 256 * p) / 64 % 64 = p % 16 * 4 + x / 64 := by
  have e : p = p % 16 + 16 * (p / 16) := (Int.emod_add_mul_ediv p 16).symm
  have hk : 0 ≤ p % 16 ∧ p % 16 < 16 := ⟨Int.emod_nonneg _ (by decide), Int.emod_lt_of_pos _ (by decide)⟩
  rw [show x + 256 * p = x + 64 * (4 * p) by rw [← Int.mul_assoc]; rfl, Int.add_mul_ediv_left _ _ (by decide)]
  rw [show x / 64 + 4 * p = x / 64 + 4 * (p % 16) + 64 * (p / 16) by rw [Int.add_assoc, show (64 : Int) = 4 * 16 from rfl, Int.mul_assoc, ← Int.mul_add, ← e], Int.add_mul_emod_self_left]
  generalize p % 16 = r at hk
  have hq : 0 ≤ x / 64 ∧ x / 64 < 4 := by256' (P := fun x => 0 ≤ x / 64 ∧ x / 64 < 4) (by decide +kernel) h0 h1
  generalize x / 64 = y at hq
  rw [Int.emod_eq_of_lt (by omega) (by omega), Int.mul_comm 4 r, Int.add_comm]
theorem cut1 (x p : Int) : (x + 256 * p) / 1 % 64 = x % 64 := by
  rw [Int.ediv_one, show x + 256 * p = x + 64 * (4 * p) by rw [← Int.mul_assoc]; rfl, Int.add_mul_emod_self_left]
theorem cutm4 (x p : Int) : (x + 256 * p) % 4 = x % 4 := by
  rw [show x + 256 * p = x + 4 * (64 * p) by rw [← Int.mul_assoc]; rfl, Int.add_mul_emod_self_left]
theorem cutm16 (x p : Int) : (x + 256 * p) % 16 = x % 16 := by
  rw [show x + 256 * p = x + 16 * (16 * p) by rw [← Int.mul_assoc]; rfl, Int.add_mul_emod_self_left]
theorem reg_ge (y : Int) : 0 ≤ y % 65536 := Int.emod_nonneg _ (by decide)
theorem reg_lt (y : Int) : y % 65536 < 65536 := Int.emod_lt_of_pos _ (by decide)
theorem pm4 {p lc q : Int} (h : p = lc - 256 * q) : p % 4 = lc % 4 := by
  rw [h, show (256 : Int) * q = 4 * (64 * q) by rw [← Int.mul_assoc]; rfl, Int.sub_mul_emod_self_left]
theorem pm16 {p lc q : Int} (h : p = lc - 256 * q) : p % 16 = lc % 16 := by
  rw [h, show (256 : Int) * q = 16 * (16 * q) by rw [← Int.mul_assoc]; rfl, Int.sub_mul_emod_self_left]
theorem inv_z {n : Nat} {l : List Int} {lc x : Int} (h1 : l.length = 3 * n) (h2 : 0 ≤ lc) (h3 : lc < 65536) (hx : 0 ≤ x) (hx' : x < 256) :
    Inv (l ++ [x]) (0 + 8 - 6) (reg lc x) (e64 l ++ [S (Builtin.bitAnd ((reg lc x).fdiv (2 ^ (0 + 8 - 6 : Int).toNat)) 63)]) := by
  have r := reg_is h2 hx hx'
  have e : Builtin.bitAnd ((reg lc x).fdiv (2 ^ (0 + 8 - 6 : Int).toNat)) 63 = x / 4 := by
    rw [six, r]; show (lc * 256 + x) % 65536 / 4 % 64 = x / 4
    obtain ⟨p, hp, _⟩ := reg_p lc x
    rw [hp]; exact cut4 p hx hx'
  rw [e]
  rw [r]
  exact Inv.one n l x _ h1 (reg_ge _) (reg_lt _) hx hx' (by obtain ⟨p, hp, _⟩ := reg_p lc x; rw [hp]; exact cutm4 x p)
theorem inv_o {n : Nat} {l : List Int} {a lc x : Int} (h1 : l.length = 3 * n) (h2 : 0 ≤ lc) (h3 : lc < 65536) (ha : 0 ≤ a) (ha' : a < 256) (hm : lc % 4 = a % 4) (hx : 0 ≤ x) (hx' : x < 256) :
    Inv (l ++ [a] ++ [x]) (2 + 8 - 6) (reg lc x) (e64 l ++ [S (a / 4)] ++ [S (Builtin.bitAnd ((reg lc x).fdiv (2 ^ (2 + 8 - 6 : Int).toNat)) 63)]) := by
  have r := reg_is h2 hx hx'
  have e : Builtin.bitAnd ((reg lc x).fdiv (2 ^ (2 + 8 - 6 : Int).toNat)) 63 = a % 4 * 16 + x / 16 := by
    rw [six, r]; show (lc * 256 + x) % 65536 / 16 % 64 = _
    obtain ⟨p, hp, hq⟩ := reg_p lc x
    rw [hp, cut16 p hx hx', pm4 hq, hm]
  rw [e, List.append_assoc, List.append_assoc]
  rw [r]
  exact Inv.two n l a x _ h1 (reg_ge _) (reg_lt _) ha ha' hx hx' (by obtain ⟨p, hp, _⟩ := reg_p lc x; rw [hp]; exact cutm16 x p)
theorem inv_t {n : Nat} {l : List Int} {a b lc x : Int} (h1 : l.length = 3 * n) (h2 : 0 ≤ lc) (h3 : lc < 65536) (_ha : 0 ≤ a) (_ha' : a < 256) (_hb : 0 ≤ b) (_hb' : b < 256) (hm : lc % 16 = b % 16) (hx : 0 ≤ x) (hx' : x < 256) :
    Inv (l ++ [a, b] ++ [x]) (4 + 8 - 6 - 6) (reg lc x) (e64 l ++ [S (a / 4), S (a % 4 * 16 + b / 16)] ++ [S (Builtin.bitAnd ((reg lc x).fdiv (2 ^ (4 + 8 - 6 : Int).toNat)) 63)] ++ [S (Builtin.bitAnd ((reg lc x).fdiv (2 ^ (4 + 8 - 6 - 6 : Int).toNat)) 63)]) := by
  have r := reg_is h2 hx hx'
  have e : Builtin.bitAnd ((reg lc x).fdiv (2 ^ (4 + 8 - 6 : Int).toNat)) 63 = b % 16 * 4 + x / 64 := by
    rw [six, r]; show (lc * 256 + x) % 65536 / 64 % 64 = _
    obtain ⟨p, hp, hq⟩ := reg_p lc x
    rw [hp, cut64 p hx hx', pm16 hq, hm]
  have e' : Builtin.bitAnd ((reg lc x).fdiv (2 ^ (4 + 8 - 6 - 6 : Int).toNat)) 63 = x % 64 := by
    rw [six, r]; show (lc * 256 + x) % 65536 / 1 % 64 = _
    obtain ⟨p, hp, _⟩ := reg_p lc x
    rw [hp, cut1]
  rw [e, e']
  have q : e64 l ++ [S (a / 4), S (a % 4 * 16 + b / 16)] ++ [S (b % 16 * 4 + x / 64)] ++ [S (x % 64)] = e64 (l ++ [a, b] ++ [x]) := by
    rw [List.append_assoc l, e64_app n l h1]
    simp [e64]
  rw [q]
  exact Inv.zero (n + 1) _ _ (by simp only [List.length_append, List.length_cons, List.length_nil]; omega) (by rw [r]; exact reg_ge _) (by rw [r]; exact reg_lt _)
theorem inv_done {ks : List Int} {lb lc : Int} {out : List Int} (h : Inv ks lb lc out) :
    (lb = 0 ∧ out = w64 ks) ∨ (lb = 2 ∧ out ++ [S (Builtin.bitAnd lc 3 * 2 ^ Int.toNat 4)] ++ [61] ++ [61] = w64 ks) ∨ (lb = 4 ∧ out ++ [S (Builtin.bitAnd lc 15 * 2 ^ Int.toNat 2)] ++ [61] = w64 ks) := by
  cases h with
  | zero n l lc h1 =>
    refine .inl ⟨rfl, ?_⟩
    have := w64_app n ks h1 []
    rw [List.append_nil] at this
    rw [this]; simp [w64]
  | one n l a lc h1 h2 h3 h4 h5 h6 =>
    refine .inr (.inl ⟨rfl, ?_⟩)
    rw [w64_app n l h1, bitAnd_m2, show (2 : Int) ^ Int.toNat 4 = 16 from rfl, h6]
    simp [w64]
  | two n l a b lc h1 h2 h3 h4 h5 h6 h7 h8 =>
    refine .inr (.inr ⟨rfl, ?_⟩)
    rw [w64_app n l h1, bitAnd_m4, show (2 : Int) ^ Int.toNat 2 = 4 from rfl, h8]
    simp [w64]
theorem bit3 (x : Int) : 0 ≤ Builtin.bitAnd x 3 * 2 ^ Int.toNat 4 ∧ Builtin.bitAnd x 3 * 2 ^ Int.toNat 4 < 64 := by
  rw [bitAnd_m2, show (2 : Int) ^ Int.toNat 4 = 16 from rfl]; omega
theorem bit15 (x : Int) : 0 ≤ Builtin.bitAnd x 15 * 2 ^ Int.toNat 2 ∧ Builtin.bitAnd x 15 * 2 ^ Int.toNat 2 < 64 := by
  rw [bitAnd_m4, show (2 : Int) ^ Int.toNat 2 = 4 from rfl]; omega
theorem bit_small {x k : Int} (h0 : 0 ≤ k) (hk : k ≤ 255) : (Builtin.bitAnd x k).natAbs < 2 ^ 64 := by
  have := bitAnd_range x h0
  omega
theorem inv_start : Inv [] 0 0 [] := Inv.zero 0 [] 0 rfl (by omega) (by omega)

noncomputable def ut (n : Int) : Int := if n = 43 then 45 else if n = 47 then 95 else n
noncomputable def w64u (l : List Int) : List Int := (w64 l).map ut
noncomputable abbrev urlTab : Array UInt8 := #[0, 1, 2, 3, 4, 5, 6, 7, 8, 9, 10, 11, 12, 13, 14, 15, 16, 17, 18, 19, 20, 21, 22, 23, 24, 25, 26, 27, 28, 29, 30, 31, 32, 33, 34, 35, 36, 37, 38, 39, 40, 41, 42, 45, 44, 45, 46, 95, 48, 49, 50, 51, 52, 53, 54, 55, 56, 57, 58, 59, 60, 61, 62, 63, 64, 65, 66, 67, 68, 69, 70, 71, 72, 73, 74, 75, 76, 77, 78, 79, 80, 81, 82, 83, 84, 85, 86, 87, 88, 89, 90, 91, 92, 93, 94, 95, 96, 97, 98, 99, 100, 101, 102, 103, 104, 105, 106, 107, 108, 109, 110, 111, 112, 113, 114, 115, 116, 117, 118, 119, 120, 121, 122, 123, 124, 125, 126, 127, 128, 129, 130, 131, 132, 133, 134, 135, 136, 137, 138, 139, 140, 141, 142, 143, 144, 145, 146, 147, 148, 149, 150, 151, 152, 153, 154, 155, 156, 157, 158, 159, 160, 161, 162, 163, 164, 165, 166, 167, 168, 169, 170, 171, 172, 173, 174, 175, 176, 177, 178, 179, 180, 181, 182, 183, 184, 185, 186, 187, 188, 189, 190, 191, 192, 193, 194, 195, 196, 197, 198, 199, 200, 201, 202, 203, 204, 205, 206, 207, 208, 209, 210, 211, 212, 213, 214, 215, 216, 217, 218, 219, 220, 221, 222, 223, 224, 225, 226, 227, 228, 229, 230, 231, 232, 233, 234, 235, 236, 237, 238, 239, 240, 241, 242, 243, 244, 245, 246, 247, 248, 249, 250, 251, 252, 253, 254, 255]
theorem ut_one {n : Int} (h0 : 0 ≤ n) (h1 : n < 128) : urlTab.getD n.toNat.toUInt8.toNat n.toNat.toUInt8 = (ut n).toNat.toUInt8 := by
  have a : ∀ k : Fin 128, urlTab.getD k.val.toUInt8.toNat k.val.toUInt8 = (ut (k.val : Int)).toNat.toUInt8 := by decide +kernel
  have := a ⟨n.toNat, by omega⟩
  rw [show ((n.toNat : Nat) : Int) = n by omega] at this
  exact this
theorem url_map (l : List Int) : trans urlTab (byteArr (w64 l)) = byteArr (w64u l) := by
  unfold trans byteArr w64u
  rw [List.map_toArray, List.map_map, List.map_map]
  congr 1
  apply List.map_congr_left
  intro n hn
  have := w64_in l n hn
  exact ut_one this.1 this.2
end
end Mine

namespace Mine
section
/-- an entry of a table: where it lies, its bits, its sign -/
structure Ent where
  at_ : Addr
  bit : Int
  t1 : Tok
  sg : String
  t2 : Tok
noncomputable abbrev Ent.ref (e : Ent) : Value := .ref e.at_
noncomputable abbrev Ent.val (e : Ent) : Array Value := #[.int e.bit e.t1, .str (Str.ofString e.sg) e.t2]
noncomputable def tabs : List (Addr × List Ent) := [
  (96, [⟨89, 40960, 297, "l", 325⟩, ⟨90, 49152, 299, "s", 326⟩, ⟨91, 32768, 293, "-", 327⟩, ⟨92, 24576, 291, "b", 328⟩, ⟨93, 16384, 287, "d", 329⟩, ⟨94, 8192, 289, "c", 330⟩, ⟨95, 4096, 295, "p", 331⟩]),
  (98, [⟨97, 256, 307, "r", 332⟩]),
  (100, [⟨99, 128, 309, "w", 333⟩]),
  (104, [⟨101, 2112, 334, "s", 335⟩, ⟨102, 2048, 301, "S", 336⟩, ⟨103, 64, 311, "x", 337⟩]),
  (106, [⟨105, 32, 313, "r", 338⟩]),
  (108, [⟨107, 16, 315, "w", 339⟩]),
  (112, [⟨109, 1032, 340, "s", 341⟩, ⟨110, 1024, 303, "S", 342⟩, ⟨111, 8, 317, "x", 343⟩]),
  (114, [⟨113, 4, 319, "r", 344⟩]),
  (116, [⟨115, 2, 321, "w", 345⟩]),
  (120, [⟨117, 513, 346, "t", 347⟩, ⟨118, 512, 305, "T", 348⟩, ⟨119, 1, 323, "x", 349⟩])]
noncomputable def pick (n : Int) (z : Bool) : List Ent → Str
  | [] => if z then Str.ofString "?" else Str.ofString "-"
  | e :: r => if (if z then Builtin.bitAnd n 61440 else Builtin.bitAnd n e.bit) = e.bit then Str.ofString e.sg else pick n z r
/-- the first i signs of a row -/
noncomputable def signs (n : Int) : Nat → List Str
  | 0 => []
  | i + 1 => signs n i ++ [pick n (i == 0) ((tabs[i]?.map (·.2)).getD [])]
def NoHit (n : Int) (z : Bool) (es : List Ent) (i : Nat) : Prop := pick n z es = pick n z (es.drop i)
theorem noHit_step {n : Int} {z : Bool} {es : List Ent} {i : Nat} {e : Ent} (h : NoHit n z es i) (he : es[i]? = some e) (hn : ¬ (if z then Builtin.bitAnd n 61440 else Builtin.bitAnd n e.bit) = e.bit) : NoHit n z es (i + 1) := by
  unfold NoHit at *
  have : es.drop i = e :: es.drop (i + 1) := by
    obtain ⟨hl, e'⟩ := List.getElem?_eq_some_iff.mp he
    rw [List.drop_eq_getElem_cons hl, e']
  rw [h, this, pick, if_neg hn]
theorem hit_here {n : Int} {z : Bool} {es : List Ent} {i : Nat} {e : Ent} (h : NoHit n z es i) (he : es[i]? = some e) (hy : (if z then Builtin.bitAnd n 61440 else Builtin.bitAnd n e.bit) = e.bit) : Str.ofString e.sg = pick n z es := by
  unfold NoHit at *
  have : es.drop i = e :: es.drop (i + 1) := by
    obtain ⟨hl, e'⟩ := List.getElem?_eq_some_iff.mp he
    rw [List.drop_eq_getElem_cons hl, e']
  rw [h, this, pick, if_pos hy]
theorem hit_none {n : Int} {z : Bool} {es : List Ent} (h : NoHit n z es es.length) : pick n z es = pick n z [] := by
  unfold NoHit at h
  rw [h, List.drop_length]
theorem fnorm3 {m : Str → Option Value} {a b c : Value} (x y z : Str) (h1 : m x = some a) (h2 : m y = some b) (h3 : m z = some c) : m = fun u => if u = x then some a else if u = y then some b else if u = z then some c else m u := by
  funext u
  by_cases e1 : u = x
  · rw [if_pos e1, e1, h1]
  by_cases e2 : u = y
  · rw [if_neg e1, if_pos e2, e2, h2]
  by_cases e3 : u = z
  · rw [if_neg e1, if_neg e2, if_pos e3, e3, h3]
  rw [if_neg e1, if_neg e2, if_neg e3]
theorem fnorm2 {m : Str → Option Value} {a b : Value} (x y : Str) (h1 : m x = some a) (h2 : m y = some b) : m = fun u => if u = x then some a else if u = y then some b else m u := by
  funext u
  by_cases e1 : u = x
  · rw [if_pos e1, e1, h1]
  by_cases e2 : u = y
  · rw [if_neg e1, if_pos e2, e2, h2]
  rw [if_neg e1, if_neg e2]
theorem strs_len : ∀ {vs : List Value} {ss : List Str}, StrsAre vs ss → vs.length = ss.length
  | _, _, .nil => rfl
  | _, _, .cons _ _ h => by simp only [List.length_cons, strs_len h]
theorem signs_len (n : Int) : ∀ i, (signs n i).length = i
  | 0 => rfl
  | i + 1 => by simp only [signs, List.length_append, signs_len n i, List.length_cons, List.length_nil]
theorem signs_next {n : Int} {i : Nat} {p : Addr × List Ent} (hp : tabs[i]? = some p) : signs n (i + 1) = signs n i ++ [pick n (i == 0) p.2] := by
  rw [signs, hp]; rfl
theorem strs_next {n : Int} {i : Nat} {p : Addr × List Ent} {vs : List Value} {tx : Tok} (hp : tabs[i]? = some p) (h : StrsAre vs (signs n i)) : StrsAre (vs ++ [Value.str (pick n (i == 0) p.2) tx]) (signs n (i + 1)) := by
  rw [signs_next hp]
  exact StrsAre.append' h (.cons _ _ .nil)
theorem pick_len {n : Int} {z : Bool} : ∀ {es : List Ent}, (∀ e ∈ es, (Str.ofString e.sg).length = 1) → (pick n z es).length = 1
  | [], _ => by cases z <;> rfl
  | e :: r, h => by
    rw [pick]
    by_cases q : (if z then Builtin.bitAnd n 61440 else Builtin.bitAnd n e.bit) = e.bit
    · rw [if_pos q]; exact h e (.head _)
    · rw [if_neg q]; exact pick_len fun e' he => h e' (.tail _ he)
theorem tabs_one : ∀ p ∈ tabs, ∀ e ∈ p.2, (Str.ofString e.sg).length = 1 := by decide
theorem signs_sum (n : Int) : ∀ i, ((signs n i).map (·.length)).sum = i
  | 0 => rfl
  | i + 1 => by
    rw [signs, List.map_append, List.sum_append, signs_sum n i]
    have : (pick n (i == 0) ((tabs[i]?.map (·.2)).getD [])).length = 1 := by
      apply pick_len
      cases h : tabs[i]? with
      | none => intro e he; simp at he
      | some p => intro e he; exact tabs_one p (List.mem_of_getElem? h) e he
    simp [this]
/-- a row's text -/
noncomputable def rowS (n : Int) : Str := Txt.join (Str.ofString "") (signs n 10)
theorem tab_in {w : World} {h : Heap} (X : (hd.heap_39 w.params).In h) : ∀ p ∈ tabs, h.IsTuple p.1 (p.2.map Ent.ref).toArray ∧ ∀ e ∈ p.2, h.IsTuple e.at_ e.val := by
  have a : ∀ p ∈ tabs, (hd.heap_39 w.params).lookup p.1 = some ⟨.type "tuple", none, .seq (p.2.map Ent.ref).toArray 0, #[]⟩ ∧ ∀ e ∈ p.2, (hd.heap_39 w.params).lookup e.at_ = some ⟨.type "tuple", none, .seq e.val 0, #[]⟩ := by
    simp only [tabs, List.forall_mem_cons, List.not_mem_nil, false_implies, implies_true, and_true]
    repeat' constructor
  intro p hp
  obtain ⟨h1, h2⟩ := a p hp
  exact ⟨⟨_, X _ _ h1, rfl, _, rfl⟩, fun e he => ⟨_, X _ _ (h2 e he), rfl, _, rfl⟩⟩
theorem whole_in {w : World} {h : Heap} (X : (hd.heap_39 w.params).In h) : h.IsTuple 121 (tabs.map fun p => Value.ref p.1).toArray := by
  have a : (hd.heap_39 w.params).lookup 121 = some ⟨.type "tuple", none, .seq (tabs.map fun p => Value.ref p.1).toArray 0, #[]⟩ := by rfl
  exact ⟨_, X _ _ a, rfl, _, rfl⟩

/-- the rows of the first n pairs -/
noncomputable def rowsN (l : List Int) (n : Nat) : List Str := (List.range n).map fun j => rowS (l.getD (2 * j) 0 * 256 + l.getD (2 * j + 1) 0)
theorem rowsN_next (l : List Int) (i : Nat) : rowsN l (i + 1) = rowsN l i ++ [rowS (l.getD (2 * i) 0 * 256 + l.getD (2 * i + 1) 0)] := by
  unfold rowsN
  rw [List.range_succ, List.map_append]; rfl
theorem rowsN_len (l : List Int) (i : Nat) : (rowsN l i).length = i := by simp [rowsN]
theorem glued_cps : ∀ (ys : List Str), (Txt.join (Str.ofString "") ys).cps.toList = ys.flatMap (·.cps.toList) := by
  have a : ∀ (ys : List Str) (acc : Array Nat), (ys.foldl (fun acc p => acc ++ (Str.ofString "").cps ++ p.cps) acc).toList = acc.toList ++ ys.flatMap (·.cps.toList) := by
    intro ys
    induction ys with
    | nil => intro acc; simp
    | cons y r ih =>
      intro acc
      rw [List.foldl_cons, ih]
      have : (Str.ofString "").cps = #[] := rfl
      simp [this]
  intro ys
  show ((ys.drop 1).foldl (fun acc p => acc ++ (Str.ofString "").cps ++ p.cps) (ys.headD Str.empty).cps).toList = _
  rw [a]
  cases ys with
  | nil => rfl
  | cons y r => simp
theorem rowS_len (n : Int) : (rowS n).cps.toList.length = 10 := by
  unfold rowS
  rw [glued_cps, List.length_flatMap]
  have := signs_sum n 10
  have e : (fun (a : Str) => a.cps.toList.length) = fun a => a.length := by funext a; simp [Str.length]
  rw [e]; exact this
theorem rowsN_sum (l : List Int) : ∀ i, ((rowsN l i).map (·.length)).sum = 10 * i
  | 0 => rfl
  | i + 1 => by
    rw [rowsN_next, List.map_append, List.sum_append, rowsN_sum l i]
    have := rowS_len (l.getD (2 * i) 0 * 256 + l.getD (2 * i + 1) 0)
    have e : (rowS (l.getD (2 * i) 0 * 256 + l.getD (2 * i + 1) 0)).length = 10 := by simpa [Str.length] using this
    simp only [List.map_cons, List.map_nil, List.sum_cons, List.sum_nil, e]; omega
/-- a listing -/
noncomputable def listS (l : List Int) (n : Nat) : Str := Txt.join (Str.ofString "") (rowsN l n)
theorem strs_row {l : List Int} {i : Nat} {ys : List Value} {t : Tok} {a b : Int} (h : StrsAre ys (rowsN l i)) (ha : a = l.getD (2 * i) 0) (hb : b = l.getD (2 * i + 1) 0) : StrsAre (ys ++ [Value.str (rowS (a * 256 + b)) t]) (rowsN l (i + 1)) := by
  subst ha hb
  rw [rowsN_next]
  exact StrsAre.append' h (.cons _ _ .nil)

theorem small2 : ∀ n : Fin 33, Builtin.Range.small 0 ((2 * n.val : Nat) : Int) 2 = true ∧ Builtin.Range.rangeSize 0 ((2 * n.val : Nat) : Int) 2 = ((n.val : Nat) : Int) := by decide +kernel
theorem getD_b (b : Array UInt8) (k : Int) (j : Nat) (h : k.toNat = j) : (((b.toList.getD k.toNat 0).toNat : Nat) : Int) = (KBw.bInts b).getD j 0 := by
  subst h
  unfold KBw.bInts
  rw [List.getD_eq_getElem?_getD, List.getD_eq_getElem?_getD, List.getElem?_map]
  cases b.toList[k.toNat]? <;> rfl
end
end Mine

namespace Mine
section
noncomputable def rts (a b : Int) : List Int := [a.fmod 2 * 4 + b.fdiv 64, (b.fdiv 8).fmod 8, b.fmod 8]
noncomputable def abv (a : Int) : List Int := [(a.fdiv 8).fmod 2, (a.fdiv 4).fmod 2, (a.fdiv 2).fmod 2]
noncomputable def lawRow (a b : Int) : Str :=
  Txt.item (Str.ofString "?pc?d?b?-?l?s???") (a.fdiv 16) ++
  Txt.item (Str.ofString "-r") (((rts a b).getD (0 + ((0 : Nat) : Int)).toNat 0).fdiv 4) ++
  Txt.item (Str.ofString "-w") ((((rts a b).getD (0 + ((0 : Nat) : Int)).toNat 0).fdiv 2).fmod 2) ++
  Txt.item (Str.ofString "-xSs") (((rts a b).getD (0 + ((0 : Nat) : Int)).toNat 0).fmod 2 + 2 * (abv a).getD (0 + ((0 : Nat) : Int)).toNat 0) ++
  Txt.item (Str.ofString "-r") (((rts a b).getD (0 + ((0 + 1 : Nat) : Int)).toNat 0).fdiv 4) ++
  Txt.item (Str.ofString "-w") ((((rts a b).getD (0 + ((0 + 1 : Nat) : Int)).toNat 0).fdiv 2).fmod 2) ++
  Txt.item (Str.ofString "-xSs") (((rts a b).getD (0 + ((0 + 1 : Nat) : Int)).toNat 0).fmod 2 + 2 * (abv a).getD (0 + ((0 + 1 : Nat) : Int)).toNat 0) ++
  Txt.item (Str.ofString "-r") (((rts a b).getD (0 + ((0 + 1 + 1 : Nat) : Int)).toNat 0).fdiv 4) ++
  Txt.item (Str.ofString "-w") ((((rts a b).getD (0 + ((0 + 1 + 1 : Nat) : Int)).toNat 0).fdiv 2).fmod 2) ++
  Txt.item (Str.ofString "-xTt") (((rts a b).getD (0 + ((0 + 1 + 1 : Nat) : Int)).toNat 0).fmod 2 + 2 * (abv a).getD (0 + ((0 + 1 + 1 : Nat) : Int)).toNat 0)

abbrev Oc (x : Int) : Prop := 0 ≤ x ∧ x < 256
theorem by256 {P : Int → Prop} (h : ∀ q : Fin 256, P (q.val : Int)) {x : Int} (hx : Oc x) : P x := by
  have k := h ⟨x.toNat, (Int.toNat_lt hx.1).mpr hx.2⟩
  rw [show (((⟨x.toNat, (Int.toNat_lt hx.1).mpr hx.2⟩ : Fin 256).val : Nat) : Int) = x from Int.toNat_of_nonneg hx.1] at k
  exact k
theorem and_nat (a b c d : Nat) (hb : b < 256) (hd : d < 256) : (a * 256 + b) &&& (c * 256 + d) = (a &&& c) * 256 + (b &&& d) := by
  have e : ∀ x y : Nat, y < 256 → x * 256 + y = 2 ^ 8 * x + y := fun x y _ => by omega
  have hbd : b &&& d < 256 := Nat.lt_of_le_of_lt Nat.and_le_left hb
  apply Nat.eq_of_testBit_eq
  intro i
  rw [Nat.testBit_and, e a b hb, e c d hd, e _ _ hbd, Nat.testBit_two_pow_mul_add _ (by simpa using hb), Nat.testBit_two_pow_mul_add _ (by simpa using hd), Nat.testBit_two_pow_mul_add _ (by simpa using hbd)]
  split <;> simp [Nat.testBit_and]
theorem and_split {a b c d : Int} (ha : 0 ≤ a) (hb : 0 ≤ b) (hb' : b < 256) (hc : 0 ≤ c) (hd : 0 ≤ d) (hd' : d < 256) : Builtin.bitAnd (a * 256 + b) (c * 256 + d) = Builtin.bitAnd a c * 256 + Builtin.bitAnd b d := by
  have pos : ∀ {x y : Int}, 0 ≤ x → 0 ≤ y → Builtin.bitAnd x y = ((x.toNat &&& y.toNat : Nat) : Int) := fun {x y} hx hy => by
    unfold Builtin.bitAnd
    rw [decide_eq_true hx, decide_eq_true hy]
  have k256 : (0 : Int) ≤ 256 := by decide
  have tn : ∀ {x y : Int}, 0 ≤ x → 0 ≤ y → (x * 256 + y).toNat = x.toNat * 256 + y.toNat := fun {x y} hx hy => by
    rw [Int.toNat_add (Int.mul_nonneg hx k256) hy, Int.toNat_mul hx k256]; rfl
  rw [pos (Int.add_nonneg (Int.mul_nonneg ha k256) hb) (Int.add_nonneg (Int.mul_nonneg hc k256) hd), pos ha hc, pos hb hd, tn ha hb, tn hc hd, and_nat _ _ _ _ ((Int.toNat_lt hb).mpr hb') ((Int.toNat_lt hd).mpr hd')]
  push_cast
  rfl
theorem bit_is (x : Int) (k : Nat) (c : Int) (h : (2 : Int) ^ k = c) : Builtin.bitAnd x c = (x / c % 2) * c := by subst h; exact kbt_bit x k
theorem and0 (x : Int) : Builtin.bitAnd x 0 = 0 := by have := bitAnd_range x (Int.le_refl 0); omega
theorem top_is {a : Int} (ha : 0 ≤ a) (ha' : a < 256) : Builtin.bitAnd a 240 = a / 16 * 16 :=
  by256 (P := fun a => Builtin.bitAnd a 240 = a / 16 * 16) (by decide +kernel) ⟨ha, ha'⟩
theorem bit01 (x : Int) : x % 2 = 0 ∨ x % 2 = 1 := by omega
section
variable {a b : Int} (ha : 0 ≤ a) (ha' : a < 256) (hb : 0 ≤ b) (hb' : b < 256)
include ha ha' hb hb'
theorem m_of (c d : Int) (hc : 0 ≤ c) (hd : 0 ≤ d) (hd' : d < 256) : Builtin.bitAnd (a * 256 + b) (c * 256 + d) = Builtin.bitAnd a c * 256 + Builtin.bitAnd b d := and_split ha hb hb' hc hd hd'
theorem kind_is : pick (a * 256 + b) true ((tabs[0]?.map (·.2)).getD []) = Txt.item (Str.ofString "?pc?d?b?-?l?s???") (a.fdiv 16) := by
  have e : Builtin.bitAnd (a * 256 + b) 61440 = a / 16 * 4096 := by
    have := m_of ha ha' hb hb' 240 0 (by decide) (by decide) (by decide)
    rw [top_is ha ha', and0] at this
    rw [show (61440 : Int) = 240 * 256 + 0 by decide, this]; omega
  rw [Int.fdiv_eq_ediv_of_nonneg _ (by decide : (0 : Int) ≤ 16)]
  have k : ∀ q : Fin 16, (fun (x : Int) => if x * 4096 = 40960 then Str.ofString "l" else if x * 4096 = 49152 then Str.ofString "s" else if x * 4096 = 32768 then Str.ofString "-" else if x * 4096 = 24576 then Str.ofString "b" else if x * 4096 = 16384 then Str.ofString "d" else if x * 4096 = 8192 then Str.ofString "c" else if x * 4096 = 4096 then Str.ofString "p" else Str.ofString "?") (q.val : Int) = Txt.item (Str.ofString "?pc?d?b?-?l?s???") (q.val : Int) := by decide +kernel
  have kk := k ⟨(a / 16).toNat, by omega⟩
  rw [show (((a / 16).toNat : Nat) : Int) = a / 16 by omega] at kk
  rw [← kk]
  simp only [tabs, List.getElem?_cons_zero, Option.map_some, Option.getD_some, pick, e, if_true]
/-- one bit -/
theorem one_is {n c v : Int} {sg two : String} {x y : Nat} {at_ : Addr} (h : Builtin.bitAnd n c = v % 2 * c) (hc : 0 < c)
    (h0 : Txt.item (Str.ofString two) 0 = Str.ofString "-") (h1 : Txt.item (Str.ofString two) 1 = Str.ofString sg) : pick n false [⟨at_, c, x, sg, y⟩] = Txt.item (Str.ofString two) (v % 2) := by
  simp only [pick, h, Bool.false_eq_true, if_false]
  rcases bit01 v with q | q
  · rw [q, if_neg (by omega), h0]
  · rw [q, if_pos (by omega), h1]
/-- two bits -/
theorem two_is {n p q v u : Int} {s1 s2 s3 four : String} {x1 x2 x3 y1 y2 y3 : Nat} {a1 a2 a3 : Addr} (hpq : Builtin.bitAnd n (p + q) = v % 2 * p + u % 2 * q) (hp : Builtin.bitAnd n p = v % 2 * p) (hq : Builtin.bitAnd n q = u % 2 * q) (p0 : 0 < p) (q0 : 0 < q)
    (h0 : Txt.item (Str.ofString four) 0 = Str.ofString "-") (h1 : Txt.item (Str.ofString four) 1 = Str.ofString s3) (h2 : Txt.item (Str.ofString four) 2 = Str.ofString s2) (h3 : Txt.item (Str.ofString four) 3 = Str.ofString s1) :
    pick n false [⟨a1, p + q, x1, s1, y1⟩, ⟨a2, p, x2, s2, y2⟩, ⟨a3, q, x3, s3, y3⟩] = Txt.item (Str.ofString four) (u % 2 + 2 * (v % 2)) := by
  simp only [pick, hpq, hp, hq, Bool.false_eq_true, if_false]
  rcases bit01 v with e | e <;> rcases bit01 u with f | f <;> rw [e, f]
  · rw [if_neg (by omega), if_neg (by omega), if_neg (by omega)]; exact h0.symm
  · rw [if_neg (by omega), if_neg (by omega), if_pos (by omega)]; exact h1.symm
  · rw [if_neg (by omega), if_pos (by omega)]; exact h2.symm
  · rw [if_pos (by omega)]; exact h3.symm
theorem bitA (k : Nat) (c : Int) (hk : (2 : Int) ^ k = c) (hc : 0 ≤ c) : Builtin.bitAnd (a * 256 + b) (c * 256) = a / c % 2 * (c * 256) := by
  have := m_of ha ha' hb hb' c 0 hc (by decide) (by decide)
  rw [and0, Int.add_zero, Int.add_zero, bit_is a k c hk] at this
  rw [this, Int.mul_assoc]
theorem bitB (k : Nat) (c : Int) (hk : (2 : Int) ^ k = c) (hc : 0 ≤ c) (hc' : c < 256) : Builtin.bitAnd (a * 256 + b) c = b / c % 2 * c := by
  have := m_of ha ha' hb hb' 0 c (by decide) hc hc'
  rw [and0, Int.zero_mul, Int.zero_add, Int.zero_add, bit_is b k c hk] at this
  exact this
theorem bitAB (k j : Nat) (c d : Int) (hk : (2 : Int) ^ k = c) (hj : (2 : Int) ^ j = d) (hc : 0 ≤ c) (hd : 0 ≤ d) (hd' : d < 256) : Builtin.bitAnd (a * 256 + b) (c * 256 + d) = a / c % 2 * (c * 256) + b / d % 2 * d := by
  have := m_of ha ha' hb hb' c d hc hd hd'
  rw [bit_is a k c hk, bit_is b j d hj] at this
  rw [this, Int.mul_assoc]
theorem lawRow_eq : rowS (a * 256 + b) = lawRow a b := by
  have F2 : ∀ x : Int, x.fmod 2 = x % 2 := fun x => Int.fmod_eq_emod_of_nonneg _ (by decide)
  have F8 : ∀ x : Int, x.fmod 8 = x % 8 := fun x => Int.fmod_eq_emod_of_nonneg _ (by decide)
  have D2 : ∀ x : Int, x.fdiv 2 = x / 2 := fun x => Int.fdiv_eq_ediv_of_nonneg _ (by decide)
  have D4 : ∀ x : Int, x.fdiv 4 = x / 4 := fun x => Int.fdiv_eq_ediv_of_nonneg _ (by decide)
  have D8 : ∀ x : Int, x.fdiv 8 = x / 8 := fun x => Int.fdiv_eq_ediv_of_nonneg _ (by decide)
  have D64 : ∀ x : Int, x.fdiv 64 = x / 64 := fun x => Int.fdiv_eq_ediv_of_nonneg _ (by decide)
  have s0 := kind_is ha ha' hb hb'
  have s1 : pick (a * 256 + b) false ((tabs[1]?.map (·.2)).getD []) = Txt.item (Str.ofString "-r") (a / 1 % 2) := one_is ha ha' hb hb' (bitA ha ha' hb hb' 0 1 rfl (by decide)) (by decide) rfl rfl
  have s2 : pick (a * 256 + b) false ((tabs[2]?.map (·.2)).getD []) = Txt.item (Str.ofString "-w") (b / 128 % 2) := one_is ha ha' hb hb' (bitB ha ha' hb hb' 7 128 rfl (by decide) (by decide)) (by decide) rfl rfl
  have s3 : pick (a * 256 + b) false ((tabs[3]?.map (·.2)).getD []) = Txt.item (Str.ofString "-xSs") (b / 64 % 2 + 2 * (a / 8 % 2)) := two_is ha ha' hb hb' (p := 8 * 256) (q := 64) (bitAB ha ha' hb hb' 3 6 8 64 rfl rfl (by decide) (by decide) (by decide)) (bitA ha ha' hb hb' 3 8 rfl (by decide)) (bitB ha ha' hb hb' 6 64 rfl (by decide) (by decide)) (by decide) (by decide) rfl rfl rfl rfl
  have s4 : pick (a * 256 + b) false ((tabs[4]?.map (·.2)).getD []) = Txt.item (Str.ofString "-r") (b / 32 % 2) := one_is ha ha' hb hb' (bitB ha ha' hb hb' 5 32 rfl (by decide) (by decide)) (by decide) rfl rfl
  have s5 : pick (a * 256 + b) false ((tabs[5]?.map (·.2)).getD []) = Txt.item (Str.ofString "-w") (b / 16 % 2) := one_is ha ha' hb hb' (bitB ha ha' hb hb' 4 16 rfl (by decide) (by decide)) (by decide) rfl rfl
  have s6 : pick (a * 256 + b) false ((tabs[6]?.map (·.2)).getD []) = Txt.item (Str.ofString "-xSs") (b / 8 % 2 + 2 * (a / 4 % 2)) := two_is ha ha' hb hb' (p := 4 * 256) (q := 8) (bitAB ha ha' hb hb' 2 3 4 8 rfl rfl (by decide) (by decide) (by decide)) (bitA ha ha' hb hb' 2 4 rfl (by decide)) (bitB ha ha' hb hb' 3 8 rfl (by decide) (by decide)) (by decide) (by decide) rfl rfl rfl rfl
  have s7 : pick (a * 256 + b) false ((tabs[7]?.map (·.2)).getD []) = Txt.item (Str.ofString "-r") (b / 4 % 2) := one_is ha ha' hb hb' (bitB ha ha' hb hb' 2 4 rfl (by decide) (by decide)) (by decide) rfl rfl
  have s8 : pick (a * 256 + b) false ((tabs[8]?.map (·.2)).getD []) = Txt.item (Str.ofString "-w") (b / 2 % 2) := one_is ha ha' hb hb' (bitB ha ha' hb hb' 1 2 rfl (by decide) (by decide)) (by decide) rfl rfl
  have s9 : pick (a * 256 + b) false ((tabs[9]?.map (·.2)).getD []) = Txt.item (Str.ofString "-xTt") (b / 1 % 2 + 2 * (a / 2 % 2)) := two_is ha ha' hb hb' (p := 2 * 256) (q := 1) (bitAB ha ha' hb hb' 1 0 2 1 rfl rfl (by decide) (by decide) (by decide)) (bitA ha ha' hb hb' 1 2 rfl (by decide)) (bitB ha ha' hb hb' 0 1 rfl (by decide) (by decide)) (by decide) (by decide) rfl rfl rfl rfl
  have r : signs (a * 256 + b) 10 = [pick (a * 256 + b) true ((tabs[0]?.map (·.2)).getD []), pick (a * 256 + b) false ((tabs[1]?.map (·.2)).getD []), pick (a * 256 + b) false ((tabs[2]?.map (·.2)).getD []), pick (a * 256 + b) false ((tabs[3]?.map (·.2)).getD []), pick (a * 256 + b) false ((tabs[4]?.map (·.2)).getD []), pick (a * 256 + b) false ((tabs[5]?.map (·.2)).getD []), pick (a * 256 + b) false ((tabs[6]?.map (·.2)).getD []), pick (a * 256 + b) false ((tabs[7]?.map (·.2)).getD []), pick (a * 256 + b) false ((tabs[8]?.map (·.2)).getD []), pick (a * 256 + b) false ((tabs[9]?.map (·.2)).getD [])] := rfl
  apply Str.ext'
  apply Array.ext'
  unfold rowS
  rw [glued_cps, r, s0, s1, s2, s3, s4, s5, s6, s7, s8, s9]
  unfold lawRow rts abv
  simp only [show (0 + ((0 : Nat) : Int)).toNat = 0 from rfl, show (0 + ((0 + 1 : Nat) : Int)).toNat = 1 from rfl, show (0 + ((0 + 1 + 1 : Nat) : Int)).toNat = 2 from rfl, List.getD_cons_zero, List.getD_cons_succ, F2, F8, D2, D4, D8, D64]
  have hB : Oc b := ⟨hb, hb'⟩
  have e1 : (a % 2 * 4 + b / 64) / 4 = a / 1 % 2 := by
    rw [Int.ediv_one]
    rcases bit01 a with q | q <;> rw [q]
    · exact by256 (P := fun b => (0 * 4 + b / 64) / 4 = 0) (by decide +kernel) hB
    · exact by256 (P := fun b => (1 * 4 + b / 64) / 4 = 1) (by decide +kernel) hB
  have e2 : (a % 2 * 4 + b / 64) / 2 % 2 = b / 128 % 2 := by
    rcases bit01 a with q | q <;> rw [q]
    · exact by256 (P := fun b => (0 * 4 + b / 64) / 2 % 2 = b / 128 % 2) (by decide +kernel) hB
    · exact by256 (P := fun b => (1 * 4 + b / 64) / 2 % 2 = b / 128 % 2) (by decide +kernel) hB
  have e3 : (a % 2 * 4 + b / 64) % 2 = b / 64 % 2 := by
    rcases bit01 a with q | q <;> rw [q]
    · exact by256 (P := fun b => (0 * 4 + b / 64) % 2 = b / 64 % 2) (by decide +kernel) hB
    · exact by256 (P := fun b => (1 * 4 + b / 64) % 2 = b / 64 % 2) (by decide +kernel) hB
  have e4 : b / 8 % 8 / 4 = b / 32 % 2 := by256 (P := fun b => b / 8 % 8 / 4 = b / 32 % 2) (by decide +kernel) hB
  have e5 : b / 8 % 8 / 2 % 2 = b / 16 % 2 := by256 (P := fun b => b / 8 % 8 / 2 % 2 = b / 16 % 2) (by decide +kernel) hB
  have e6 : b / 8 % 8 % 2 = b / 8 % 2 := by256 (P := fun b => b / 8 % 8 % 2 = b / 8 % 2) (by decide +kernel) hB
  have e7 : b % 8 / 4 = b / 4 % 2 := by256 (P := fun b => b % 8 / 4 = b / 4 % 2) (by decide +kernel) hB
  have e8 : b % 8 / 2 % 2 = b / 2 % 2 := by256 (P := fun b => b % 8 / 2 % 2 = b / 2 % 2) (by decide +kernel) hB
  have e9 : b % 8 % 2 = b / 1 % 2 := by256 (P := fun b => b % 8 % 2 = b / 1 % 2) (by decide +kernel) hB
  rw [e1, e2, e3, e4, e5, e6, e7, e8, e9]
  simp only [List.flatMap_cons, List.flatMap_nil, Str.cps_append, Array.toList_append, List.append_assoc, List.append_nil]
end
end
end Mine

namespace Mine
section
/-- the index lies in a short text -/
structure InTx (x : Str) (i : Int) : Prop where
  a : 0 ≤ i
  b : i < x.length
  c : x.length ≤ 4096
theorem item_sm {prog : Program} {w : World} {A : Around} {E : Value → Shared → Prop} {s : Shared} {value slice : Expr} {x : Str} {t : Tok} {Q : Value → Shared → Prop} {i : Int} {u : Tok} (H : InTx x i)
    (h : (1 ≤ (Txt.item x i).length ∧ (Txt.item x i).length ≤ 1) → Q (.str (Txt.item x i) s.toks) { s with toks := s.toks + 1 })
    (hs : subscripted slice false (.str x t) (.int i u) = operate [.str x t, .int i u] (getItem (.str x t) (.int i u)) := by with_unfolding_all rfl)
    (ht : ∀ r, letTemporaryGo value (.str x t) r = pure () := by intro _; with_unfolding_all rfl) :
    wpAny (model prog w) A (subscriptTail value slice (.str x t) (.int i u)) Q E s :=
  item_str (fitsSsize_of (N := 9223372036854775808) (by have := H.a; omega) (by have := H.b; have := H.c; omega) (Int.le_refl _)) (by have := H.a; omega) H.b h hs ht
theorem in64 {x : Str} {i : Int} (h0 : 0 ≤ i) (h1 : i < 64) (hs : x.length = 64) : InTx x i := ⟨h0, by rw [hs]; exact h1, by rw [hs]; decide⟩
theorem in16 {x : Str} {i : Int} (h0 : 0 ≤ i) (h1 : i < 16) (hs : x.length = 16) : InTx x i := ⟨h0, by rw [hs]; exact h1, by rw [hs]; decide⟩
theorem in_zero {x : Str} (h0 : 0 < x.length) (h1 : x.length ≤ 4096) : InTx x 0 := ⟨Int.le_refl 0, Int.ofNat_lt.mpr h0, h1⟩
theorem fm2 (x : Int) : 0 ≤ x.fmod 2 ∧ x.fmod 2 < 2 := by rw [Int.fmod_eq_emod_of_nonneg _ (by decide)]; omega
theorem fm8 (x : Int) : 0 ≤ x.fmod 8 ∧ x.fmod 8 < 8 := by rw [Int.fmod_eq_emod_of_nonneg _ (by decide)]; omega
theorem abv_in (a : Int) : ∀ k, 0 ≤ (abv a).getD k 0 ∧ (abv a).getD k 0 < 2
  | 0 => fm2 _
  | 1 => fm2 _
  | 2 => fm2 _
  | _ + 3 => ⟨Int.le_refl 0, (by decide : (0 : Int) < 2)⟩
theorem rts_in {b : Int} (a : Int) (h0 : 0 ≤ b) (h1 : b < 256) : ∀ k, 0 ≤ (rts a b).getD k 0 ∧ (rts a b).getD k 0 < 8
  | 0 => by
    show 0 ≤ a.fmod 2 * 4 + b.fdiv 64 ∧ a.fmod 2 * 4 + b.fdiv 64 < 8
    have := fm2 a
    rw [Int.fdiv_eq_ediv_of_nonneg _ (by decide)]
    omega
  | 1 => fm8 _
  | 2 => fm8 _
  | _ + 3 => ⟨Int.le_refl 0, (by decide : (0 : Int) < 8)⟩
theorem in_kind {a : Int} (h0 : 0 ≤ a) (h1 : a < 256) : InTx (Str.ofString "?pc?d?b?-?l?s???") (a.fdiv 16) := by
  have e : (Str.ofString "?pc?d?b?-?l?s???").length = 16 := rfl
  rw [Int.fdiv_eq_ediv_of_nonneg _ (by decide)]
  exact ⟨by omega, by rw [e]; omega, by rw [e]; decide⟩
theorem in_r (a : Int) {b : Int} (h0 : 0 ≤ b) (h1 : b < 256) (k : Nat) : InTx (Str.ofString "-r") (((rts a b).getD k 0).fdiv 4) := by
  have e : (Str.ofString "-r").length = 2 := rfl
  have h := rts_in a h0 h1 k
  rw [Int.fdiv_eq_ediv_of_nonneg _ (by decide)]
  generalize (rts a b).getD k 0 = r at h
  exact ⟨by omega, by rw [e]; omega, by rw [e]; decide⟩
theorem in_w (x : Int) : InTx (Str.ofString "-w") (x.fmod 2) := by
  have e : (Str.ofString "-w").length = 2 := rfl
  have h := fm2 x
  exact ⟨h.1, by rw [e]; exact h.2, by rw [e]; decide⟩
theorem in_xs (a x : Int) (k : Nat) : InTx (Str.ofString "-xSs") (x.fmod 2 + 2 * (abv a).getD k 0) := by
  have e : (Str.ofString "-xSs").length = 4 := rfl
  have h := fm2 x
  have h2 := abv_in a k
  exact ⟨by omega, by rw [e]; omega, by rw [e]; decide⟩
theorem in_xt (a x : Int) (k : Nat) : InTx (Str.ofString "-xTt") (x.fmod 2 + 2 * (abv a).getD k 0) := by
  have e : (Str.ofString "-xTt").length = 4 := rfl
  have h := fm2 x
  have h2 := abv_in a k
  exact ⟨by omega, by rw [e]; omega, by rw [e]; decide⟩
end
end Mine

namespace Mine
section
noncomputable def bitsOf (ns : List Int) : List Int := ns.flatMap fun o => [7, 6, 5, 4, 3, 2, 1, 0].map fun k : Int => (o.fdiv (2 ^ k.toNat)).fmod 2
theorem bitsOf_len (ns : List Int) : (bitsOf ns).length = 8 * ns.length := by
  unfold bitsOf
  induction ns with
  | nil => rfl
  | cons a r ih => rw [List.flatMap_cons, List.length_append, ih]; simp only [List.length_map, List.length_cons, List.length_nil]; omega
noncomputable def padB (wd : Int) (ns : List Int) : List Int := bitsOf ns ++ (List.replicate ((-((bitsOf ns).length : Int)).fmod wd).toNat [0]).flatten
theorem flat_len (n : Nat) : (List.replicate n [(0 : Int)]).flatten.length = n := by
  induction n with
  | zero => rfl
  | succ n ih => rw [List.replicate_succ, List.flatten_cons, List.length_append, ih]; simp; omega
theorem padB_is (wd : Int) (ns : List Int) : (padB wd ns).length = 8 * ns.length + ((-((8 * ns.length : Nat) : Int)).fmod wd).toNat := by
  unfold padB; rw [List.length_append, flat_len, bitsOf_len]
theorem padQ6 {ns : List Int} (hl : ns.length ≤ 6) : ∃ q, q ≤ 8 ∧ (padB 6 ns).length = 6 * q := by
  have k : ∀ l : Fin 7, (8 * l.val + 5) / 6 ≤ 8 ∧ 8 * l.val + ((-((8 * l.val : Nat) : Int)).fmod 6).toNat = 6 * ((8 * l.val + 5) / 6) := by decide +kernel
  rw [padB_is]
  exact ⟨_, k ⟨ns.length, Nat.lt_succ_of_le hl⟩⟩
theorem padQ4 {ns : List Int} (hl : ns.length ≤ 6) : ∃ q, q ≤ 12 ∧ (padB 4 ns).length = 4 * q := by
  have k : ∀ l : Fin 7, (8 * l.val + 3) / 4 ≤ 12 ∧ 8 * l.val + ((-((8 * l.val : Nat) : Int)).fmod 4).toNat = 4 * ((8 * l.val + 3) / 4) := by decide +kernel
  rw [padB_is]
  exact ⟨_, k ⟨ns.length, Nat.lt_succ_of_le hl⟩⟩
/-- a figure -/
noncomputable def fig (wd : Nat) (bs : List Int) (i : Nat) : Int := ((bs.drop (wd * i)).take wd).foldl (fun a b => a * 2 + b) 0
noncomputable def wrS (sg : Str) (wd : Nat) (bs : List Int) : Nat → Str
  | 0 => Str.ofString ""
  | i + 1 => wrS sg wd bs i ++ Txt.item sg (fig wd bs i)
theorem fnorm4 {m : Str → Option Value} {a b c d : Value} (x y z v : Str) (h1 : m x = some a) (h2 : m y = some b) (h3 : m z = some c) (h4 : m v = some d) : m = fun u => if u = x then some a else if u = y then some b else if u = z then some c else if u = v then some d else m u := by
  funext u
  by_cases e1 : u = x
  · rw [if_pos e1, e1, h1]
  by_cases e2 : u = y
  · rw [if_neg e1, if_pos e2, e2, h2]
  by_cases e3 : u = z
  · rw [if_neg e1, if_neg e2, if_pos e3, e3, h3]
  by_cases e4 : u = v
  · rw [if_neg e1, if_neg e2, if_neg e3, if_pos e4, e4, h4]
  rw [if_neg e1, if_neg e2, if_neg e3, if_neg e4]
theorem small6 : ∀ n : Fin 33, Builtin.Range.small 0 ((6 * n.val : Nat) : Int) 6 = true ∧ Builtin.Range.rangeSize 0 ((6 * n.val : Nat) : Int) 6 = ((n.val : Nat) : Int) := by decide +kernel
theorem small4 : ∀ n : Fin 33, Builtin.Range.small 0 ((4 * n.val : Nat) : Int) 4 = true ∧ Builtin.Range.rangeSize 0 ((4 * n.val : Nat) : Int) 4 = ((n.val : Nat) : Int) := by decide +kernel

theorem fnorm5 {m : Str → Option Value} {a b c d e : Value} (x y z v w : Str) (h1 : m x = some a) (h2 : m y = some b) (h3 : m z = some c) (h4 : m v = some d) (h5 : m w = some e) : m = fun u => if u = x then some a else if u = y then some b else if u = z then some c else if u = v then some d else if u = w then some e else m u := by
  funext u
  by_cases e5 : u = w
  · by_cases e1 : u = x
    · rw [if_pos e1, e1, h1]
    by_cases e2 : u = y
    · rw [if_neg e1, if_pos e2, e2, h2]
    by_cases e3 : u = z
    · rw [if_neg e1, if_neg e2, if_pos e3, e3, h3]
    by_cases e4 : u = v
    · rw [if_neg e1, if_neg e2, if_neg e3, if_pos e4, e4, h4]
    rw [if_neg e1, if_neg e2, if_neg e3, if_neg e4, if_pos e5, e5, h5]
  · rw [if_neg e5]
    exact congrFun (fnorm4 x y z v h1 h2 h3 h4) u
theorem bit_in (x : Int) : x.fmod 2 = 0 ∨ x.fmod 2 = 1 := by rw [Int.fmod_eq_emod_of_nonneg _ (by decide)]; omega
theorem flat_zero (n : Nat) : ∀ b ∈ (List.replicate n [(0 : Int)]).flatten, b = 0 := by
  intro b hb
  obtain ⟨l, hl, hb⟩ := List.mem_flatten.mp hb
  rw [(List.mem_replicate.mp hl).2] at hb
  simpa using hb
theorem padB_bit (wd : Int) (ns : List Int) : ∀ b ∈ padB wd ns, b = 0 ∨ b = 1 := by
  intro b hb
  rcases List.mem_append.mp hb with h | h
  · obtain ⟨o, _, h⟩ := List.mem_flatMap.mp h
    obtain ⟨k, _, rfl⟩ := List.mem_map.mp h
    exact bit_in _
  · exact .inl (flat_zero _ b h)
theorem fold_bound : ∀ (l : List Int) (a : Int) (k : Nat), (∀ b ∈ l, b = 0 ∨ b = 1) → 0 ≤ a → a < 2 ^ k → 0 ≤ l.foldl (fun a b => a * 2 + b) a ∧ l.foldl (fun a b => a * 2 + b) a < 2 ^ (k + l.length)
  | [], a, k, _, h0, h1 => ⟨h0, h1⟩
  | b :: r, a, k, h, h0, h1 => by
    rw [List.foldl_cons, List.length_cons, show k + (r.length + 1) = (k + 1) + r.length by omega]
    have hb := h b (.head _)
    have e : (2 : Int) ^ (k + 1) = 2 ^ k * 2 := Int.pow_succ _ _
    exact fold_bound r _ (k + 1) (fun x hx => h x (.tail _ hx)) (by omega) (by omega)
theorem fold64 {l : List Int} (h : ∀ b ∈ l, b = 0 ∨ b = 1) (hl : l.length ≤ 6) : 0 ≤ l.foldl (fun a b => a * 2 + b) 0 ∧ l.foldl (fun a b => a * 2 + b) 0 < 64 := by
  have := fold_bound l 0 0 h (Int.le_refl _) (by decide)
  refine ⟨this.1, Int.lt_of_lt_of_le this.2 ?_⟩
  have : ∀ n : Nat, n ≤ 6 → (2 : Int) ^ (0 + n) ≤ 64 := by decide
  exact this _ hl
theorem fold16 {l : List Int} (h : ∀ b ∈ l, b = 0 ∨ b = 1) (hl : l.length ≤ 4) : 0 ≤ l.foldl (fun a b => a * 2 + b) 0 ∧ l.foldl (fun a b => a * 2 + b) 0 < 16 := by
  have := fold_bound l 0 0 h (Int.le_refl _) (by decide)
  refine ⟨this.1, Int.lt_of_lt_of_le this.2 ?_⟩
  have : ∀ n : Nat, n ≤ 4 → (2 : Int) ^ (0 + n) ≤ 16 := by decide
  exact this _ hl
theorem fold_take {l : List Int} {j : Nat} {b : Int} (h : l[j]? = some b) : (l.take (j + 1)).foldl (fun a b => a * 2 + b) 0 = (l.take j).foldl (fun a b => a * 2 + b) 0 * 2 + b := by
  rw [List.take_add_one, h, List.foldl_append]; rfl
theorem wrS_len (sg : Str) (wd : Nat) (bs : List Int) : ∀ i, (wrS sg wd bs i).length = i
  | 0 => rfl
  | i + 1 => by rw [wrS, Str.length_append, wrS_len sg wd bs i, len_item]
theorem slice_is {n q i : Nat} {bs : List Int} (hl : bs.length = n * q) (hi : i < q) (hn : 0 < n) {k : Int} (hk : k = (n : Int)) : List.take (min (0 + (i : Int) * k + k).toNat bs.length - (0 + (i : Int) * k).toNat) (List.drop (0 + (i : Int) * k).toNat bs) = (bs.drop (n * i)).take n := by
  subst hk
  have e1 : (0 + (i : Int) * (n : Int)).toNat = n * i := by rw [Int.zero_add, ← Int.natCast_mul, Int.toNat_natCast, Nat.mul_comm]
  have e2 : (0 + (i : Int) * (n : Int) + (n : Int)).toNat = n * i + n := by rw [Int.zero_add, ← Int.natCast_mul, ← Int.natCast_add, Int.toNat_natCast, Nat.mul_comm]
  have e3 : n * i + n ≤ n * q := by rw [← Nat.mul_succ]; exact Nat.mul_le_mul_left _ hi
  rw [e1, e2, hl, Nat.min_eq_left e3, show n * i + n - n * i = n by omega]

noncomputable def writ6 (sg : Str) (ns : List Int) : Str := wrS sg 6 (padB 6 ns) ((padB 6 ns).length / 6) ++ Txt.mul (Str.ofString "=") ((-((wrS sg 6 (padB 6 ns) ((padB 6 ns).length / 6)).length : Int)).fmod 4)
noncomputable def writ4 (sg : Str) (ns : List Int) : Str := wrS sg 4 (padB 4 ns) ((padB 4 ns).length / 4) ++ Txt.mul (Str.ofString "=") 0
end
end Mine

namespace Mine
section
/-- what the first line of the law leaves -/
def OctPost (h₀ : Heap) (L : Addr) (m : Str → Option Value) (own : List (Addr × Obj)) (s : Shared) (f : Flow) (s' : Shared) : Prop :=
  f = .next ∧ ∃ h tk l vs ns k, s' = { s with heap := h, toks := tk } ∧ Fr h₀ L h (fun y => if y = Str.ofString "octets" then some (.ref l) else m y) ∧ News h₀ L h ((l, W.listOf vs.toArray k) :: own) ∧ (∀ p ∈ own, p.1 ≠ l) ∧
    IntsAre vs ns ∧ 1 ≤ ns.length ∧ ns.length ≤ 6 ∧ (∀ n ∈ ns, 0 ≤ n ∧ n < 256)
section
variable {prog : Program} {w : World} {A : Around} {E : Value → Shared → Prop} {s : Shared} {h₀ : Heap} {L : Addr} {m : Str → Option Value} {env : Env}
theorem cut_oct {st : Stmt} {rest : List Stmt} {own : List (Addr × Obj)} {Q : Flow → Shared → Prop} (_F : Fr h₀ L s.heap m) (_N : News h₀ L s.heap own)
    (h1 : wpAny (model prog w) A (exec st env) (OctPost h₀ L m own s) E s)
    (h2 : ∀ h tk l vs ns k, Fr h₀ L h (fun y => if y = Str.ofString "octets" then some (.ref l) else m y) → News h₀ L h ((l, W.listOf vs.toArray k) :: own) → (∀ p ∈ own, p.1 ≠ l) → IntsAre vs ns → 1 ≤ ns.length → ns.length ≤ 6 → (∀ n ∈ ns, 0 ≤ n ∧ n < 256) →
      wpAny (model prog w) A (execs rest env) Q E { s with heap := h, toks := tk }) : wpAny (model prog w) A (execs (st :: rest) env) Q E s := by
  refine wpAny_execs_cons (wpAny_mono h1 (fun f s' h => ?_) fun _ _ e => e)
  obtain ⟨rfl, h, tk, l, vs, ns, k, rfl, F, N, o, hI, a, b, c⟩ := h
  exact h2 h tk l vs ns k F N o hI a b c
end
theorem oct_end1 {h₀ h : Heap} {L D D1 : Addr} {m : Str → Option Value} {s : Shared} {tk : Nat} {ys : List Value} {xs : List Int} {o1 : Obj} {p q : Addr × Obj} (F : Fr h₀ L h (fun y => if y = Str.ofString "octets" then some (.ref D) else m y)) (N : News h₀ L h [(D, LCg.lst ys), (D1, o1), p, q]) (o : D1 ≠ D ∧ p.1 ≠ D ∧ q.1 ≠ D)
    (hI : IntsAre ys (List.map (fun k => k.fmod 256) (List.take 6 xs))) (hp : 0 < (List.map (fun k : Int => k.fmod 256) (List.take 6 xs)).length) : OctPost h₀ L m [p, q] s .next { s with heap := h, toks := tk } := by
  refine ⟨rfl, h, tk, D, ys, _, ys.length, rfl, F, fun r hr => ?_, fun r hr => ?_, hI, hp, ?_, ?_⟩
  · simp only [List.mem_cons, List.not_mem_nil, or_false] at hr
    rcases hr with rfl | rfl | rfl
    · exact N _ (List.Mem.head _)
    · exact N _ (List.Mem.tail _ (List.Mem.tail _ (List.Mem.head _)))
    · exact N _ (List.Mem.tail _ (List.Mem.tail _ (List.Mem.tail _ (List.Mem.head _))))
  · simp only [List.mem_cons, List.not_mem_nil, or_false] at hr
    rcases hr with rfl | rfl
    · exact o.2.1
    · exact o.2.2
  · simp only [List.length_map, List.length_take]; omega
  · intro n hn
    obtain ⟨k, _, rfl⟩ := List.mem_map.mp hn
    exact ⟨fmod_lo _ (by decide), fmod_hi _ (by decide)⟩
theorem oct_end2 {h₀ h : Heap} {L l D D1 : Addr} {m : Str → Option Value} {s : Shared} {tk k : Nat} {a b c : Tok} {o1 o2 : Obj} {p q : Addr × Obj} (F : Fr h₀ L h (fun y => if y = Str.ofString "octets" then some (.ref l) else m y)) (N : News h₀ L h [(l, W.listOf #[.int 221 a, .int 84 b, .int 9 c] k), (D, o2), (D1, o1), p, q])
    (o : D < l ∧ D1 < l ∧ p.1 < l ∧ q.1 < l) : OctPost h₀ L m [p, q] s .next { s with heap := h, toks := tk } := by
  refine ⟨rfl, h, tk, l, [.int 221 a, .int 84 b, .int 9 c], [221, 84, 9], k, rfl, F, fun r hr => ?_, fun r hr => ?_, .cons _ _ (.cons _ _ (.cons _ _ .nil)), by decide, by decide, by decide⟩
  · simp only [List.mem_cons, List.not_mem_nil, or_false] at hr
    rcases hr with rfl | rfl | rfl
    · exact N _ (List.Mem.head _)
    · exact N _ (List.Mem.tail _ (List.Mem.tail _ (List.Mem.tail _ (List.Mem.head _))))
    · exact N _ (List.Mem.tail _ (List.Mem.tail _ (List.Mem.tail _ (List.Mem.tail _ (List.Mem.head _)))))
  · simp only [List.mem_cons, List.not_mem_nil, or_false] at hr
    rcases hr with rfl | rfl
    · exact Nat.ne_of_lt o.2.2.1
    · exact Nat.ne_of_lt o.2.2.2
theorem news_pull {h₀ h : Heap} {L : Addr} {c : Addr × Obj} (xs ys : List (Addr × Obj)) (N : News h₀ L h (xs ++ c :: ys)) : News h₀ L h (c :: (xs ++ ys)) := fun p hp => N p (by
  simp only [List.mem_cons, List.mem_append] at hp ⊢
  rcases hp with h | h | h
  · exact .inr (.inl h)
  · exact .inl h
  · exact .inr (.inr h))
theorem pre_use {h₀ h : Heap} {L : Addr} {news : List (Addr × Obj)} {pre : Heap → Prop} {f c : Addr} {oF oC : Obj} (hp : ∀ h : Heap, h.get? f = some oF → h.get? c = some oC → pre h) (N : News h₀ L h news) (h1 : (f, oF) ∈ news) (h2 : (c, oC) ∈ news) : pre h :=
  hp h (N _ h1).1 (N _ h2).1
theorem pre_list {h₀ h : Heap} {L l : Addr} {news : List (Addr × Obj)} {vs : List Value} {k : Nat} (N : News h₀ L h news) (h1 : (l, W.listOf vs.toArray k) ∈ news) : h.IsList l vs.toArray := ⟨_, (N _ h1).1, rfl, _, rfl⟩
theorem u8_ge (c : UInt8) : 0 ≤ ((c.toNat : Nat) : Int) := Int.natCast_nonneg _
theorem u8_lt (c : UInt8) : ((c.toNat : Nat) : Int) < 256 := by have := c.toNat_lt; omega
theorem listS_len (l : List Int) (n : Nat) : (listS l n).length = 10 * n := by
  have : (listS l n).cps.toList.length = 10 * n := by
    unfold listS
    rw [glued_cps, List.length_flatMap]
    exact rowsN_sum l n
  rw [← this]
  simp [Str.length]
theorem allLt_mem {d : Nat} : ∀ {l : List (Addr × Obj)}, AllLt d l → ∀ p ∈ l, @LT.lt Nat _ p.1 d
  | [], _, _, h => by cases h
  | q :: r, ⟨h1, h2⟩, p, hp => by
    rcases List.mem_cons.mp hp with rfl | hp
    · exact h1
    · exact allLt_mem h2 p hp
theorem unr_end {h₀ : Heap} {L I : Addr} {it : Obj} {rest : (Str → Option Value) → List (Addr × Obj) → Prop} {s₁ : Shared} {h' : Heap} {tk : Nat} {m' : Str → Option Value} {a b : Addr × Obj} {own : List (Addr × Obj)} (F : Fr h₀ L h' m') (N : News h₀ L h' ((I, it) :: a :: b :: own))
    (l : @LT.lt Nat _ a.1 I ∧ @LT.lt Nat _ b.1 I ∧ AllLt I own) (r : rest m' (a :: b :: own)) : UnrEnd h₀ L s₁ I it rest { s₁ with heap := h', toks := tk } := by
  refine ⟨h', tk, m', a :: b :: own, rfl, F, N, fun p hp => ?_, r⟩
  rcases List.mem_cons.mp hp with rfl | hp
  · exact Nat.ne_of_lt l.1
  rcases List.mem_cons.mp hp with rfl | hp
  · exact Nat.ne_of_lt l.2.1
  · exact Nat.ne_of_lt (allLt_mem l.2.2 p hp)
theorem fnorm1 {m : Str → Option Value} {a : Value} (x : Str) (h1 : m x = some a) : m = fun u => if u = x then some a else m u := by
  funext u
  by_cases hu : u = x
  · subst hu; simp [h1]
  · simp [hu]

def EncB (S : Str) (b : Array UInt8) : Prop := (∀ c ∈ S.cps.toList, c < 128) ∧ S.cps.size ≤ 4096 ∧ asc S = b
def CB (w : World) (f : Addr) (pre : Heap → Prop) (b b' : Array UInt8) : Prop := ∀ t, Ctr w f [.bytes b t] [] pre 5 50 (fun t => .bytes b' t)
def CL (w : World) (b : Array UInt8) (x : Str) : Prop := ∀ t, Ctr w 145 [.bytes b t] [] (fun _ => True) 4 40 (fun t => .str x t)
def CW (w : World) (l : Addr) (vs : List Value) (sg : Str) (wd : Int) (x : Str) : Prop := ∀ t u, Ctr w 133 [.ref l, .str sg t, .int wd u] [] (fun h => h.IsList l vs.toArray) 2 20 (fun t => .str x t)
def EqS (x y : Str) (b : Bool) : Prop := (x.cps.toList == y.cps.toList) = b
def SwS (x y : Str) (b : Bool) : Prop := Txt.startswith x y = b
def InS (x y : Str) (b : Bool) : Prop := (!(Builtin.Str.occurrences x y 0 x.length 1).isEmpty) = b
/-- one turn: the text, the next text, does it begin as due, is it due -/
def Step (w : World) (f : Addr) (pre : Heap → Prop) (sz : Int) (due x x' : Str) (t u : Bool) : Prop :=
  ∃ b b', EncB (Txt.slice x none (some sz)) b ∧ CB w f pre b b' ∧ CL w b' x' ∧ EqS (Txt.slice x' none (some 10)) (Txt.slice due none (some 10)) t ∧ EqS x' due u ∧ x'.length ≤ 4096
/-- the four turns, as late as `j` says -/
def Four (w : World) (f : Addr) (pre : Heap → Prop) (sz : Int) (due x : Str) (j : Int) : Prop :=
  ∃ x2 x3 x4 x5 u2, Step w f pre sz due x x2 (decide (j ≤ 0)) u2 ∧ Step w f pre sz due x2 x3 (decide (j ≤ 1)) (decide (j ≤ 0)) ∧ Step w f pre sz due x3 x4 (decide (j ≤ 2)) (decide (j ≤ 1)) ∧ Step w f pre sz due x4 x5 (decide (j ≤ 3)) (decide (j ≤ 2))
def LateIs (x hd : Str) (F : Int → Prop) : Prop :=
  (SwS x hd true ∧ F 0) ∨ (SwS x hd false ∧ InS (Str.ofString "?d") (Txt.item x 0) true ∧ F 1) ∨ (SwS x hd false ∧ InS (Str.ofString "?d") (Txt.item x 0) false ∧ F 2)
def Ways (w : World) (f : Addr) (pre : Heap → Prop) (l : Addr) (vs : List Value) (ns : List Int) (sg : Str) (wd sz : Int) (hd due : Str) : Prop :=
  ∃ x0 y0 n0, CW w l vs sg wd x0 ∧ EncB x0 y0 ∧ CB w f pre (byteArr ns) y0 ∧ y0.size = 2 * n0 ∧ 1 ≤ n0 ∧ n0 ≤ 32 ∧ CL w y0 (listS (KBw.bInts y0) n0) ∧ due.length ≤ 4096 ∧
    LateIs (listS (KBw.bInts y0) n0) hd (fun j => 0 ≤ j ∧ j ≤ 2 ∧ Four w f pre sz due (listS (KBw.bInts y0) n0) j)
def Stop (p : Prop) : Prop := p
theorem stop_here {p : Prop} (h : Stop p) : p := h
/-- what the line of `late` leaves -/
def LatePost (h₀ : Heap) (L : Addr) (m : Str → Option Value) (news : List (Addr × Obj)) (s : Shared) (P : Int → Prop) (f : Flow) (s' : Shared) : Prop :=
  f = .next ∧ ∃ h tk j t, s' = { s with heap := h, toks := tk } ∧ Fr h₀ L h (fun y => if y = Str.ofString "late" then some (.int j t) else m y) ∧ News h₀ L h news ∧ P j
theorem cut_late {prog : Program} {w : World} {A : Around} {E : Value → Shared → Prop} {s : Shared} {h₀ : Heap} {L : Addr} {m : Str → Option Value} {env : Env} {st : Stmt} {rest : List Stmt} {news : List (Addr × Obj)} {Q : Flow → Shared → Prop} (P : Int → Prop) (_F : Fr h₀ L s.heap m) (_N : News h₀ L s.heap news)
    (h1 : wpAny (model prog w) A (exec st env) (LatePost h₀ L m news s P) E s)
    (h2 : ∀ h tk j t, Fr h₀ L h (fun y => if y = Str.ofString "late" then some (.int j t) else m y) → News h₀ L h news → P j → wpAny (model prog w) A (execs rest env) Q E { s with heap := h, toks := tk }) :
    Stop (wpAny (model prog w) A (execs (st :: rest) env) Q E s) := by
  refine wpAny_execs_cons (wpAny_mono h1 (fun f s' h => ?_) fun _ _ e => e)
  obtain ⟨rfl, h, tk, j, t, rfl, F, N, hP⟩ := h
  exact h2 h tk j t F N hP
theorem nb_same {prog : Program} {w : World} {A : Around} {E : Value → Shared → Prop} {s : Shared} {b c : Bool} {Q : Value → Shared → Prop} (e : b = c) (h : Q (.bool false) s) : wpAny (model prog w) A (compareOp .NotEq (.bool b) (.bool c)) Q E s := by
  subst e
  exact ne_bool (by simpa using h)
section
variable {prog : Program} {w : World} {A : Around} {E : Value → Shared → Prop} {s : Shared} {x y : Str} {t u : Tok} {Q : Value → Shared → Prop}
theorem eqS_use {b : Bool} (e : EqS x y b) (h : Q (.bool b) s) : wpAny (model prog w) A (compareOp .Eq (.str x t) (.str y u)) Q E s :=
  P.eq_str (by rw [show (x.cps.toList == y.cps.toList) = b from e]; exact h)
theorem inS_use {b : Bool} (e : InS x y b) (h : Q (.bool b) s) : wpAny (model prog w) A (compareOp .In (.str y u) (.str x t)) Q E s :=
  P.in_str (by rw [show (!(Builtin.Str.occurrences x y 0 x.length 1).isEmpty) = b from e]; exact h)
theorem ne_same (h : Q (.bool false) s) : wpAny (model prog w) A (compareOp .NotEq (.str x t) (.str x u)) Q E s :=
  P.ne_str (by simpa using h)
theorem ne_sameB {b : Array UInt8} (h : Q (.bool false) s) : wpAny (model prog w) A (compareOp .NotEq (.bytes b t) (.bytes b u)) Q E s :=
  ne_bytes (by simpa using h)
theorem swS_use {b : Bool} (e : SwS x y b) (h : Q (.bool b) s) : wpAny (model prog w) A (call (.builtin "str.startswith") [.str x t, .str y u]) Q E s :=
  SC.startswith (by rw [show Txt.startswith x y = b from e]; exact h)
theorem encB_use {b : Array UInt8} (e : EncB x b) (h : ∀ t' k, Q (.bytes b t') { s with toks := k }) :
    wpAny (model prog w) A (call (.builtin "str.encode") [.str x t, .str (Str.ofString "ascii") u]) Q E s := by
  obtain ⟨e1, e2, rfl⟩ := e
  exact call_encode e1 (by rw [sizeLine_eq]; omega) h
end
end
end Mine

namespace Mine
section
section
variable {prog : Program} {w : World} {A : Around} {E : Value → Shared → Prop} {s : Shared}
/-- a loop over a range by an invariant; what the ledger held it holds in the turn -/
theorem range_forT {env : Env} {h₀ : Heap} {x : Str} {px : Pos} {body orelse : List Stmt} {R : Result → Shared → Prop} {m : Str → Option Value} {pA r : Addr} {a b c : Int} {t1 t2 t3 : Tok} {n : Nat} {o₀ : Obj} {rest : List (Addr × Obj)}
    (hh : A.handled = none) (hr : IsRange s.heap r a b c t1 t2 t3) (hsm : Builtin.Range.small a b c = true) (hn : Builtin.Range.rangeSize a b c = ((n : Nat) : Int)) (F : Fr h₀ env.locals s.heap m) (N : News h₀ env.locals s.heap ((pA, o₀) :: rest)) (hoff : OwnOff rest [pA])
    (J : Nat → (Str → Option Value) → Obj → Prop) (h0 : J 0 m o₀)
    (step : ∀ i t m₁ o₁ h₁ tk₁ own, i < n → J i m₁ o₁ → (∀ p ∈ rest, p ∈ own) → Fr h₀ env.locals h₁ m₁ → News h₀ env.locals h₁ ((pA, o₁) :: own) →
      wpAny (model prog w) A (assign (.Name x px) env (.int (a + i * c) t)) (fun _ s₂ => wpAny (model prog w) A (execs body env) (TurnPost h₀ env.locals pA own (J (i + 1)) (fun _ _ => False) { s with heap := h₁, toks := tk₁ }) (fun _ _ => False) s₂) (fun _ _ => False) { s with heap := h₁, toks := tk₁ })
    (done : ∀ m' o' h' tk, J n m' o' → Fr h₀ env.locals h' m' → News h₀ env.locals h' ((pA, o') :: rest) → wpAny (model prog w) A (execs orelse env) (fun f s₃ => R (.ok f) s₃) (fun _ _ => False) { s with heap := h', toks := tk }) :
    Stop (wpAny (model prog w) A (pyIter (.ref r)) (fun it s₂ => codeAny (model prog w) A (.forLoop (.Name x px) it body orelse env) R s₂) E s) := by
  have hLs := ltN F.ns.lt
  have hps := ltN (Heap.lt_size (N _ (List.Mem.head _)).1)
  refine wpAny_pyIter_range hr hsm ?_
  have W := KTurns.ofWalks (target := .Name x px) (Walks.range (prog := prog) (w := w) hh s.heap.objs.size a c n) (fun i v s Q E st hQ => wpAny_of_eq (a := ()) rfl hQ)
  refine loopJ W (nmem1 (Ne.symm (Nat.ne_of_gt hLs))) ?_ (nmem1 (Ne.symm (Nat.ne_of_gt hps))) ?_ hoff (by show IsRangeIter _ _ _ _ _; rw [hn]; simpa using Heap.get?_push_size _ rfl) (F.push _) (fun p hp => ⟨Heap.get?_push_of_some _ (N p hp).1, (N p hp).2⟩) J (fun _ _ => False) h0
    ?_ (fun _ _ _ _ h => h.elim) done
  · intro b hb
    rw [List.mem_singleton.mp hb]
    exact next_is_new F
  · intro p hp h
    have := ltN (Heap.lt_size (N p (List.Mem.tail _ hp)).1)
    rw [List.mem_singleton.mp h] at this
    exact Nat.lt_irrefl _ this
  · rintro i v m₁ o₁ h₁ tk₁ own hi ⟨t, rfl⟩ hJ hsub _ F₁ N₁
    exact step i t m₁ o₁ h₁ tk₁ own hi hJ hsub F₁ N₁
end
theorem four_seq {w : World} {f : Addr} {pre : Heap → Prop} {sz : Int} {due x : Str} {j : Int} (h : Four w f pre sz due x j) (hx : x.length ≤ 4096) :
    ∃ (X : Nat → Str) (U : Nat → Bool), X 0 = x ∧ (∀ i, i < 4 → Step w f pre sz due (X i) (X (i + 1)) (decide (j ≤ (i : Int))) (U i)) ∧ (∀ i, 1 ≤ i → i < 4 → U i = decide (j ≤ (i : Int) - 1)) ∧ ∀ i, i < 4 → (X i).length ≤ 4096 := by
  obtain ⟨x2, x3, x4, x5, u2, s1, s2, s3, s4⟩ := h
  have l2 : x2.length ≤ 4096 := by obtain ⟨_, _, _, _, _, _, _, e⟩ := s1; exact e
  have l3 : x3.length ≤ 4096 := by obtain ⟨_, _, _, _, _, _, _, e⟩ := s2; exact e
  have l4 : x4.length ≤ 4096 := by obtain ⟨_, _, _, _, _, _, _, e⟩ := s3; exact e
  refine ⟨fun i => [x, x2, x3, x4].getD i x5, fun i => [u2, decide (j ≤ 0), decide (j ≤ 1)].getD i (decide (j ≤ 2)), rfl, fun i hi => ?_, fun i hi hi' => ?_, fun i hi => ?_⟩
  · rcases i with _ | _ | _ | _ | i
    · exact s1
    · exact s2
    · exact s3
    · exact s4
    · exact absurd (Nat.lt_of_add_lt_add_right (n := 4) (m := 0) (k := i) (by rw [Nat.zero_add]; exact hi)) (Nat.not_lt_zero _)
  · rcases i with _ | _ | _ | _ | i
    · exact absurd hi (by decide)
    · rfl
    · rfl
    · rfl
    · exact absurd (Nat.lt_of_add_lt_add_right (n := 4) (m := 0) (k := i) (by rw [Nat.zero_add]; exact hi')) (Nat.not_lt_zero _)
  · rcases i with _ | _ | _ | _ | i
    · exact hx
    · exact l2
    · exact l3
    · exact l4
    · exact absurd (Nat.lt_of_add_lt_add_right (n := 4) (m := 0) (k := i) (by rw [Nat.zero_add]; exact hi)) (Nat.not_lt_zero _)
theorem off_own {D : Addr} : ∀ {l : List (Addr × Obj)}, LCg.Off1 D l → OwnOff l [D]
  | [], _, _, h, _, _ => by cases h
  | q :: r, h, p, hp, b, hb => by
    rw [List.mem_singleton.mp hb]
    rcases List.mem_cons.mp hp with rfl | hp
    · exact h.1
    · exact off_own h.2 p hp D (List.mem_singleton.mpr rfl)
end
end Mine

namespace Mine
section
noncomputable def lastS (i : Nat) : Str := if i = 2 then Str.ofString "-xTt" else Str.ofString "-xSs"
/-- the row behind `i` places -/
noncomputable def rowP (a b : Int) : Nat → Str
  | 0 => Txt.item (Str.ofString "?pc?d?b?-?l?s???") (a.fdiv 16)
  | i + 1 => rowP a b i ++ Txt.item (Str.ofString "-r") (((rts a b).getD i 0).fdiv 4) ++ Txt.item (Str.ofString "-w") ((((rts a b).getD i 0).fdiv 2).fmod 2) ++ Txt.item (lastS i) (((rts a b).getD i 0).fmod 2 + 2 * (abv a).getD i 0)
theorem rowP_succ (a b : Int) (i : Nat) : rowP a b (i + 1) = rowP a b i ++ Txt.item (Str.ofString "-r") (((rts a b).getD i 0).fdiv 4) ++ Txt.item (Str.ofString "-w") ((((rts a b).getD i 0).fdiv 2).fmod 2) ++ Txt.item (lastS i) (((rts a b).getD i 0).fmod 2 + 2 * (abv a).getD i 0) := rfl
theorem rowP_three (a b : Int) : lawRow a b = rowP a b 3 := rfl
theorem rowP_len (a b : Int) : ∀ i, (rowP a b i).length = 1 + 3 * i
  | 0 => len_item _ _
  | i + 1 => by
    unfold rowP
    rw [Str.length_append, Str.length_append, Str.length_append, rowP_len a b i, len_item, len_item, len_item, Nat.mul_succ]
    rfl
theorem in_last (i : Nat) (a x : Int) (k : Nat) : InTx (lastS i) (x.fmod 2 + 2 * (abv a).getD k 0) := by
  unfold lastS
  split
  · exact in_xt a x k
  · exact in_xs a x k
theorem led_gen {h₀ h : Heap} {L l l' : Addr} {r0 r1 r2 a0 a1 a2 : Int} {t0 t1 t2 u0 u1 u2 : Tok} {k k' : Nat} (N : News h₀ L h [(l, W.listOf #[.int r0 t0, .int r1 t1, .int r2 t2] k), (l', W.listOf #[.int a0 u0, .int a1 u1, .int a2 u2] k')]) :
    ∃ vs us, IntsAre vs [r0, r1, r2] ∧ IntsAre us [a0, a1, a2] ∧ News h₀ L h [(l, W.listOf vs.toArray k), (l', W.listOf us.toArray k')] :=
  ⟨_, _, .cons _ _ (.cons _ _ (.cons _ _ .nil)), .cons _ _ (.cons _ _ (.cons _ _ .nil)), N⟩
theorem item_led {prog : Program} {w : World} {A : Around} {E : Value → Shared → Prop} {s : Shared} {h₀ : Heap} {L l : Addr} {news : List (Addr × Obj)} {vs : List Value} {ns : List Int} {k : Nat} {i : Int} {u : Tok} {value slice : Expr} {Q : Value → Shared → Prop} (N : News h₀ L s.heap news) (hm : (l, W.listOf vs.toArray k) ∈ news) (hi : IntsAre vs ns)
    (h0 : 0 ≤ i) (h1 : i < ns.length) (h2 : i < 2 ^ 63) (h : ∀ t, Q (.int (ns.getD i.toNat 0) t) s)
    (hs : subscripted slice false (.ref l) (.int i u) = operate [.ref l, .int i u] (getItem (.ref l) (.int i u)) := by with_unfolding_all rfl) (hg : ∀ r, letTemporaryGo value (.ref l) r = pure () := by intro _; with_unfolding_all rfl) :
    wpAny (model prog w) A (subscriptTail value slice (.ref l) (.int i u)) Q E s :=
  item_list_ints (pre_list N hm) hi h0 h1 h2 h hs hg
/-- what the line of `last` leaves -/
def LastPost (h₀ : Heap) (L : Addr) (m : Str → Option Value) (news : List (Addr × Obj)) (s : Shared) (S : Str) (f : Flow) (s' : Shared) : Prop :=
  f = .next ∧ ∃ h tk t, s' = { s with heap := h, toks := tk } ∧ Fr h₀ L h (fun y => if y = Str.ofString "last" then some (.str S t) else m y) ∧ News h₀ L h news
theorem cut_last {prog : Program} {w : World} {A : Around} {E : Value → Shared → Prop} {s : Shared} {h₀ : Heap} {L : Addr} {m : Str → Option Value} {env : Env} {st : Stmt} {rest : List Stmt} {news : List (Addr × Obj)} {Q : Flow → Shared → Prop} (S : Str) (_F : Fr h₀ L s.heap m) (_N : News h₀ L s.heap news)
    (h1 : wpAny (model prog w) A (exec st env) (LastPost h₀ L m news s S) E s)
    (h2 : ∀ h tk t, Fr h₀ L h (fun y => if y = Str.ofString "last" then some (.str S t) else m y) → News h₀ L h news → wpAny (model prog w) A (execs rest env) Q E { s with heap := h, toks := tk }) :
    Stop (wpAny (model prog w) A (execs (st :: rest) env) Q E s) := by
  refine wpAny_execs_cons (wpAny_mono h1 (fun f s' h => ?_) fun _ _ e => e)
  obtain ⟨rfl, h, tk, t, rfl, F, N⟩ := h
  exact h2 h tk t F N
theorem last_t {i : Nat} (h : i = 2) : lastS i = Str.ofString "-xTt" := if_pos h
theorem last_s {i : Nat} (h : ¬ i = 2) : lastS i = Str.ofString "-xSs" := if_neg h
end
end Mine

open Mine
local macro_rules | `(tactic| walk_at $s:str) => `(tactic| k_extra $s)
local macro_rules | `(tactic| k_intsEnd) => `(tactic| k_extra "ints")
local macro_rules | `(tactic| size_fits) => `(tactic| k_extra "size")

namespace Mine
section
theorem s_ifmt (w : World) (n : Int) (t : Tok) : Ctr w 88 [.int n t] [] (fun _ => True) 1 8 (fun t => .int (Builtin.bitAnd n 61440) t) := by
  w_top off; k_with_none
  k_with "exec Assign" => k_fold
  k_with "exec If" => k_fold
  k_with "exec Expr" => k_fold
  k_with "exec Return some" => k_fold
  k_with "eval BinOp" => k_fold
  k_with "eval Subscript" => k_fold
  k_with "eval Call" => k_fold
  k_with "eval IfExp" => k_fold
  k_with "eval List" => k_fold
  k_with "eval Compare" => k_fold
  k_with "isTrue Compare" => k_fold
  k_with "isTrue BoolOp" => k_fold
  k_with "isTrue UnaryOp" => k_fold
  k_with "call type:type" => ((with_reducible show wpAny _ _ (call _ [Value.bytes _ _]) _ _ _); refine type_bytes_call ?_)
  k_with "getMethod bytes" => first | with_reducible refine gm_upper ?_ | with_reducible refine gm_translate ?_ | with_reducible refine gm_hex ?_
  k_with "ints" => first | exact .nil | assumption | exact IntsAre.append (by assumption) (.cons _ _ .nil) | exact IntsAre.append (IntsAre.append (by assumption) (.cons _ _ .nil)) (.cons _ _ .nil) | exact IntsAre.append (IntsAre.append (IntsAre.append (by assumption) (.cons _ _ .nil)) (.cons _ _ .nil)) (.cons _ _ .nil)
  k_with "subscriptTail" => ((with_reducible show wpAny _ _ (subscriptTail _ _ (Value.bytes _ _) (Value.int (Builtin.bitAnd _ 63) _)) _ _ _); refine s_item (six_in _).1 (six_in _).2 ?_; intro _ _)
  k_with "size" => ((try dsimp only); (try simp only [List.push_toArray, List.size_toArray, List.length_append, List.length_cons, List.length_nil, PySem.sizeLine_eq]); omega)
  k_with "binaryOp LShift int int" => ((with_reducible show wpAny _ _ (binaryOp _ (Value.int (Builtin.bitAnd _ _) _) _) _ _ _); refine lshift_int_small (by decide) (by decide) (bit_small (by decide) (by decide)) ?_)
  k_with "subscriptTail" => ((with_reducible show wpAny _ _ (subscriptTail _ _ (Value.bytes _ _) (Value.int (Builtin.bitAnd _ 3 * _) _)) _ _ _); refine s_item (bit3 _).1 (bit3 _).2 ?_; intro _ _)
  k_with "subscriptTail" => ((with_reducible show wpAny _ _ (subscriptTail _ _ (Value.bytes _ _) (Value.int (Builtin.bitAnd _ 15 * _) _)) _ _ _); refine s_item (bit15 _).1 (bit15 _).2 ?_; intro _ _)
  k_with "getMethod str" => with_reducible refine gm_encode ?_
  k_with "call builtin:bytes.upper" => (refine call_upper (by size_fits) ?_; intro _ _)
  k_with "call builtin:bytes.hex" => (refine call_hex (by size_fits) ?_; intro _ _)
  k_with "call builtin:bytes.translate" => (refine call_translate (by decide +kernel) (by size_fits) ?_; intro _ _)
  k_with "call builtin:str.encode" => (refine call_encode (by first | assumption | exact hex_ascii _ | ktr_rel) (by size_fits) ?_; intro _ _)
  refine ⟨?_⟩; k_fill
  intro p loose mean mg mb dp un gd cn cs a ccd cl outer A₀ base h₀ L m news s Q E B F X N T hk hd hu hpre hret
  refine wpAny_call ?_
  refine enterP B F X T rfl rfl hk (by k_is) (by k_is) (by ktr_room) (BindsTo.of_eq rfl) (locs rfl) ?_ rfl rfl rfl (by decide)
  intro g' L' h' eg' F' N' B' X' T'
  subst eg'
  k_steps
  exact hret _ _ _ (by assumption) (news_keeps N (by assumption)) (by assumption)
end
end Mine

namespace Mine
section
theorem buffer (w : World) (b : Array UInt8) (t : Tok) : Ctr w 28 [.bytes b t] [] (fun _ => True) 1 8 (fun _ => .bytes b t) := by
  w_top off; k_with_none
  k_with "exec Assign" => k_fold
  k_with "exec If" => k_fold
  k_with "exec Expr" => k_fold
  k_with "exec Return some" => k_fold
  k_with "eval BinOp" => k_fold
  k_with "eval Subscript" => k_fold
  k_with "eval Call" => k_fold
  k_with "eval IfExp" => k_fold
  k_with "eval List" => k_fold
  k_with "eval Compare" => k_fold
  k_with "isTrue Compare" => k_fold
  k_with "isTrue BoolOp" => k_fold
  k_with "isTrue UnaryOp" => k_fold
  k_with "call type:type" => ((with_reducible show wpAny _ _ (call _ [Value.bytes _ _]) _ _ _); refine type_bytes_call ?_)
  k_with "getMethod bytes" => first | with_reducible refine gm_upper ?_ | with_reducible refine gm_translate ?_ | with_reducible refine gm_hex ?_
  k_with "ints" => first | exact .nil | assumption | exact IntsAre.append (by assumption) (.cons _ _ .nil) | exact IntsAre.append (IntsAre.append (by assumption) (.cons _ _ .nil)) (.cons _ _ .nil) | exact IntsAre.append (IntsAre.append (IntsAre.append (by assumption) (.cons _ _ .nil)) (.cons _ _ .nil)) (.cons _ _ .nil)
  k_with "subscriptTail" => ((with_reducible show wpAny _ _ (subscriptTail _ _ (Value.bytes _ _) (Value.int (Builtin.bitAnd _ 63) _)) _ _ _); refine s_item (six_in _).1 (six_in _).2 ?_; intro _ _)
  k_with "size" => ((try dsimp only); (try simp only [List.push_toArray, List.size_toArray, List.length_append, List.length_cons, List.length_nil, PySem.sizeLine_eq]); omega)
  k_with "binaryOp LShift int int" => ((with_reducible show wpAny _ _ (binaryOp _ (Value.int (Builtin.bitAnd _ _) _) _) _ _ _); refine lshift_int_small (by decide) (by decide) (bit_small (by decide) (by decide)) ?_)
  k_with "subscriptTail" => ((with_reducible show wpAny _ _ (subscriptTail _ _ (Value.bytes _ _) (Value.int (Builtin.bitAnd _ 3 * _) _)) _ _ _); refine s_item (bit3 _).1 (bit3 _).2 ?_; intro _ _)
  k_with "subscriptTail" => ((with_reducible show wpAny _ _ (subscriptTail _ _ (Value.bytes _ _) (Value.int (Builtin.bitAnd _ 15 * _) _)) _ _ _); refine s_item (bit15 _).1 (bit15 _).2 ?_; intro _ _)
  k_with "getMethod str" => with_reducible refine gm_encode ?_
  k_with "call builtin:bytes.upper" => (refine call_upper (by size_fits) ?_; intro _ _)
  k_with "call builtin:bytes.hex" => (refine call_hex (by size_fits) ?_; intro _ _)
  k_with "call builtin:bytes.translate" => (refine call_translate (by decide +kernel) (by size_fits) ?_; intro _ _)
  k_with "call builtin:str.encode" => (refine call_encode (by first | assumption | exact hex_ascii _ | ktr_rel) (by size_fits) ?_; intro _ _)
  refine ⟨?_⟩; k_fill
  intro p loose mean mg mb dp un gd cn cs a ccd cl outer A₀ base h₀ L m news s Q E B F X N T hk hd hu hpre hret
  refine wpAny_call ?_
  refine enterP B F X T rfl rfl hk (by k_is) (by k_is) (by ktr_room) (BindsTo.of_eq rfl) (locs rfl) ?_ rfl rfl rfl (by decide)
  intro g' L' h' eg' F' N' B' X' T'
  subst eg'
  k_steps
  exact hret 0 _ _ (by assumption) (news_keeps N (by assumption)) (by assumption)
end
end Mine

namespace Mine
section
theorem truth (w : World) (b : Bool) : Ctr w 35 [.bool b] [] (fun _ => True) 1 8 (fun _ => .bool b) := by
  w_top off; k_with_none
  k_with "exec Assign" => k_fold
  k_with "exec If" => k_fold
  k_with "exec Expr" => k_fold
  k_with "exec Return some" => k_fold
  k_with "eval BinOp" => k_fold
  k_with "eval Subscript" => k_fold
  k_with "eval Call" => k_fold
  k_with "eval IfExp" => k_fold
  k_with "eval List" => k_fold
  k_with "eval Compare" => k_fold
  k_with "isTrue Compare" => k_fold
  k_with "isTrue BoolOp" => k_fold
  k_with "isTrue UnaryOp" => k_fold
  k_with "call type:type" => ((with_reducible show wpAny _ _ (call _ [Value.bytes _ _]) _ _ _); refine type_bytes_call ?_)
  k_with "getMethod bytes" => first | with_reducible refine gm_upper ?_ | with_reducible refine gm_translate ?_ | with_reducible refine gm_hex ?_
  k_with "ints" => first | exact .nil | assumption | exact IntsAre.append (by assumption) (.cons _ _ .nil) | exact IntsAre.append (IntsAre.append (by assumption) (.cons _ _ .nil)) (.cons _ _ .nil) | exact IntsAre.append (IntsAre.append (IntsAre.append (by assumption) (.cons _ _ .nil)) (.cons _ _ .nil)) (.cons _ _ .nil)
  k_with "subscriptTail" => ((with_reducible show wpAny _ _ (subscriptTail _ _ (Value.bytes _ _) (Value.int (Builtin.bitAnd _ 63) _)) _ _ _); refine s_item (six_in _).1 (six_in _).2 ?_; intro _ _)
  k_with "size" => ((try dsimp only); (try simp only [List.push_toArray, List.size_toArray, List.length_append, List.length_cons, List.length_nil, PySem.sizeLine_eq]); omega)
  k_with "binaryOp LShift int int" => ((with_reducible show wpAny _ _ (binaryOp _ (Value.int (Builtin.bitAnd _ _) _) _) _ _ _); refine lshift_int_small (by decide) (by decide) (bit_small (by decide) (by decide)) ?_)
  k_with "subscriptTail" => ((with_reducible show wpAny _ _ (subscriptTail _ _ (Value.bytes _ _) (Value.int (Builtin.bitAnd _ 3 * _) _)) _ _ _); refine s_item (bit3 _).1 (bit3 _).2 ?_; intro _ _)
  k_with "subscriptTail" => ((with_reducible show wpAny _ _ (subscriptTail _ _ (Value.bytes _ _) (Value.int (Builtin.bitAnd _ 15 * _) _)) _ _ _); refine s_item (bit15 _).1 (bit15 _).2 ?_; intro _ _)
  k_with "getMethod str" => with_reducible refine gm_encode ?_
  k_with "call builtin:bytes.upper" => (refine call_upper (by size_fits) ?_; intro _ _)
  k_with "call builtin:bytes.hex" => (refine call_hex (by size_fits) ?_; intro _ _)
  k_with "call builtin:bytes.translate" => (refine call_translate (by decide +kernel) (by size_fits) ?_; intro _ _)
  k_with "call builtin:str.encode" => (refine call_encode (by first | assumption | exact hex_ascii _ | ktr_rel) (by size_fits) ?_; intro _ _)
  refine ⟨?_⟩; k_fill
  intro p loose mean mg mb dp un gd cn cs a ccd cl outer A₀ base h₀ L m news s Q E B F X N T hk hd hu hpre hret
  refine wpAny_call ?_
  refine enterP B F X T rfl rfl hk (by k_is) (by k_is) (by ktr_room) (BindsTo.of_eq rfl) (locs rfl) ?_ rfl rfl rfl (by decide)
  intro g' L' h' eg' F' N' B' X' T'
  subst eg'
  k_steps
  all_goals (cases b <;> first | contradiction | exact hret 0 _ _ (by assumption) (news_keeps N (by assumption)) (by assumption))
end
end Mine

namespace Mine
section
theorem b2a (w : World) (b : Array UInt8) (t : Tok) (hb : b.size ≤ 64) : Ctr w 43 [.bytes b t] [("newline", .bool false)] (fun _ => True) 2 20 (fun t => .bytes (byteArr (w64 (KBw.bInts b))) t) := by
  w_top off; k_with_none
  k_with "exec Assign" => k_fold
  k_with "exec If" => k_fold
  k_with "exec Expr" => k_fold
  k_with "call type:type" => ((with_reducible show wpAny _ _ (call _ [Value.bytes _ _]) _ _ _); refine type_bytes_call ?_)
  k_with "getMethod bytes" => first | with_reducible refine gm_upper ?_ | with_reducible refine gm_translate ?_ | with_reducible refine gm_hex ?_
  k_with "mine" => first | exact buffer _ _ _ | exact truth _ _
  k_with "call ref" => ((k_dflt (refine Ctr.use (by k_extra "mine") (by k_asm) (by k_asm) (by k_asm) (by k_asm) (by k_asm) (by first | exact rfl | assumption) (by first | decide | ktr_room) (by first | decide | ktr_units) (by first | trivial | assumption | k_extra "pre") ?_)); intro t9 h9 tk9 F9 N9 K9; (try dsimp only); (try k_fold))
  k_with "ints" => first | exact .nil | assumption | exact IntsAre.append (by assumption) (.cons _ _ .nil) | exact IntsAre.append (IntsAre.append (by assumption) (.cons _ _ .nil)) (.cons _ _ .nil) | exact IntsAre.append (IntsAre.append (IntsAre.append (by assumption) (.cons _ _ .nil)) (.cons _ _ .nil)) (.cons _ _ .nil)
  k_with "subscriptTail" => ((with_reducible show wpAny _ _ (subscriptTail _ _ (Value.bytes _ _) (Value.int (Builtin.bitAnd _ 63) _)) _ _ _); refine s_item (six_in _).1 (six_in _).2 ?_; intro _ _)
  k_with "size" => ((try dsimp only); (try simp only [List.push_toArray, List.size_toArray, List.length_append, List.length_cons, List.length_nil, PySem.sizeLine_eq]); omega)
  k_with "binaryOp LShift int int" => ((with_reducible show wpAny _ _ (binaryOp _ (Value.int (Builtin.bitAnd _ _) _) _) _ _ _); refine lshift_int_small (by decide) (by decide) (bit_small (by decide) (by decide)) ?_)
  k_with "subscriptTail" => ((with_reducible show wpAny _ _ (subscriptTail _ _ (Value.bytes _ _) (Value.int (Builtin.bitAnd _ 3 * _) _)) _ _ _); refine s_item (bit3 _).1 (bit3 _).2 ?_; intro _ _)
  k_with "subscriptTail" => ((with_reducible show wpAny _ _ (subscriptTail _ _ (Value.bytes _ _) (Value.int (Builtin.bitAnd _ 15 * _) _)) _ _ _); refine s_item (bit15 _).1 (bit15 _).2 ?_; intro _ _)
  k_with "getMethod str" => with_reducible refine gm_encode ?_
  k_with "call builtin:bytes.upper" => (refine call_upper (by size_fits) ?_; intro _ _)
  k_with "call builtin:bytes.hex" => (refine call_hex (by size_fits) ?_; intro _ _)
  k_with "call builtin:bytes.translate" => (refine call_translate (by decide +kernel) (by size_fits) ?_; intro _ _)
  k_with "call builtin:str.encode" => (refine call_encode (by first | assumption | exact hex_ascii _ | ktr_rel) (by size_fits) ?_; intro _ _)
  refine ⟨?_⟩; k_fill
  intro p loose mean mg mb dp un gd cn cs a ccd cl outer A₀ base h₀ L m news s Q E B F X N T hk hd hu hpre hret
  refine wpAny_call ?_
  refine enterP B F X T rfl rfl hk (by k_is) (by k_is) (by ktr_room) (BindsTo.of_eq rfl) (locs rfl) ?_ rfl rfl rfl (by decide)
  intro g' L' h' eg' F' N' B' X' T'
  subst eg'
  have hb2 : b.toList.length ≤ 64 := by simpa using hb
  have hb3 : (KBw.bInts b).length ≤ 64 := by rw [KBw.ints_length]; exact hb
  k_with "state" => first | exact inv_start | exact inv_z (by assumption) (by assumption) (by assumption) (by assumption) (by assumption) | exact inv_o (by assumption) (by assumption) (by assumption) (by assumption) (by assumption) (by assumption) (by assumption) (by assumption) | exact inv_t (by assumption) (by assumption) (by assumption) (by assumption) (by assumption) (by assumption) (by assumption) (by assumption) (by assumption) (by assumption)
  k_steps
  k_state (fun pre lb lc out => Inv pre lb lc out) "leftbits" "leftchar" "out"
  · have hlen := inv_len kInv
    cases kInv with
    | zero n l lc h1 h2 h3 => k_steps
    | one n l a lc h1 h2 h3 h4 h5 h6 =>
      simp only [List.length_append, List.length_cons, List.length_nil] at *
      k_steps
    | two n l a b lc h1 h2 h3 h4 h5 h6 h7 h8 =>
      simp only [List.length_append, List.length_cons, List.length_nil] at *
      k_steps
  · have hlen := inv_len kInv
    have hin := w64_in (KBw.bInts b)
    have hwl := w64_len (KBw.bInts b)
    rcases inv_done kInv with ⟨rfl, e⟩ | ⟨rfl, e⟩ | ⟨rfl, e⟩
    · k_steps
      (rename News _ _ _ _ => nE')
      (try simp only [List.push_toArray] at nE')
      refine' KBa.make_K ?k1 nE' rfl ⟨_, nE'.get (List.Mem.head _), rfl, _, rfl⟩ ?k2 ?k3 ?k4 ?_
      case k1 => k_asm
      case k2 => k_intsEnd
      case k3 => first | (rw [e]; intro x hx; have := hin x hx; omega) | (subst e; intro x hx; have := hin x hx; omega)
      case k4 => (have e9 := congrArg List.length e; (try simp only [List.length_append, List.length_cons, List.length_nil] at e9 ⊢); omega)
      intro h9 t9 k9 F9 N9 In9
      first | rw [e] | subst e
      k_steps
      exact hret _ _ _ (by assumption) (news_keeps N (by assumption)) (by assumption)
    · k_steps
      (rename News _ _ _ _ => nE')
      (try simp only [List.push_toArray] at nE')
      refine' KBa.make_K ?k1 nE' rfl ⟨_, nE'.get (List.Mem.head _), rfl, _, rfl⟩ ?k2 ?k3 ?k4 ?_
      case k1 => k_asm
      case k2 => k_intsEnd
      case k3 => first | (rw [e]; intro x hx; have := hin x hx; omega) | (subst e; intro x hx; have := hin x hx; omega)
      case k4 => (have e9 := congrArg List.length e; (try simp only [List.length_append, List.length_cons, List.length_nil] at e9 ⊢); omega)
      intro h9 t9 k9 F9 N9 In9
      first | rw [e] | subst e
      k_steps
      exact hret _ _ _ (by assumption) (news_keeps N (by assumption)) (by assumption)
    · k_steps
      (rename News _ _ _ _ => nE')
      (try simp only [List.push_toArray] at nE')
      refine' KBa.make_K ?k1 nE' rfl ⟨_, nE'.get (List.Mem.head _), rfl, _, rfl⟩ ?k2 ?k3 ?k4 ?_
      case k1 => k_asm
      case k2 => k_intsEnd
      case k3 => first | (rw [e]; intro x hx; have := hin x hx; omega) | (subst e; intro x hx; have := hin x hx; omega)
      case k4 => (have e9 := congrArg List.length e; (try simp only [List.length_append, List.length_cons, List.length_nil] at e9 ⊢); omega)
      intro h9 t9 k9 F9 N9 In9
      first | rw [e] | subst e
      k_steps
      exact hret _ _ _ (by assumption) (news_keeps N (by assumption)) (by assumption)
end
end Mine

namespace Mine
section
theorem b64enc (w : World) (b : Array UInt8) (t : Tok) (hb : b.size ≤ 64) : Ctr w 60 [.bytes b t] [] (fun _ => True) 3 30 (fun t => .bytes (byteArr (w64 (KBw.bInts b))) t) := by
  w_top off; k_with_none
  k_with "exec Assign" => k_fold
  k_with "exec If" => k_fold
  k_with "exec Expr" => k_fold
  k_with "exec Return some" => k_fold
  k_with "eval BinOp" => k_fold
  k_with "eval Subscript" => k_fold
  k_with "eval Call" => k_fold
  k_with "eval IfExp" => k_fold
  k_with "eval List" => k_fold
  k_with "eval Compare" => k_fold
  k_with "isTrue Compare" => k_fold
  k_with "isTrue BoolOp" => k_fold
  k_with "isTrue UnaryOp" => k_fold
  k_with "call type:type" => ((with_reducible show wpAny _ _ (call _ [Value.bytes _ _]) _ _ _); refine type_bytes_call ?_)
  k_with "getMethod bytes" => first | with_reducible refine gm_upper ?_ | with_reducible refine gm_translate ?_ | with_reducible refine gm_hex ?_
  k_with "mine" => first | exact buffer _ _ _ | exact truth _ _ | exact b2a _ _ _ (by assumption)
  k_with "call ref" => ((k_dflt (refine Ctr.use (by k_extra "mine") (by k_asm) (by k_asm) (by k_asm) (by k_asm) (by k_asm) (by first | exact rfl | assumption) (by first | decide | ktr_room) (by first | decide | ktr_units) (by first | trivial | assumption | k_extra "pre") ?_)); intro t9 h9 tk9 F9 N9 K9; (try dsimp only); (try k_fold))
  k_with "ints" => first | exact .nil | assumption | exact IntsAre.append (by assumption) (.cons _ _ .nil) | exact IntsAre.append (IntsAre.append (by assumption) (.cons _ _ .nil)) (.cons _ _ .nil) | exact IntsAre.append (IntsAre.append (IntsAre.append (by assumption) (.cons _ _ .nil)) (.cons _ _ .nil)) (.cons _ _ .nil)
  k_with "subscriptTail" => ((with_reducible show wpAny _ _ (subscriptTail _ _ (Value.bytes _ _) (Value.int (Builtin.bitAnd _ 63) _)) _ _ _); refine s_item (six_in _).1 (six_in _).2 ?_; intro _ _)
  k_with "size" => ((try dsimp only); (try simp only [List.push_toArray, List.size_toArray, List.length_append, List.length_cons, List.length_nil, PySem.sizeLine_eq]); omega)
  k_with "binaryOp LShift int int" => ((with_reducible show wpAny _ _ (binaryOp _ (Value.int (Builtin.bitAnd _ _) _) _) _ _ _); refine lshift_int_small (by decide) (by decide) (bit_small (by decide) (by decide)) ?_)
  k_with "subscriptTail" => ((with_reducible show wpAny _ _ (subscriptTail _ _ (Value.bytes _ _) (Value.int (Builtin.bitAnd _ 3 * _) _)) _ _ _); refine s_item (bit3 _).1 (bit3 _).2 ?_; intro _ _)
  k_with "subscriptTail" => ((with_reducible show wpAny _ _ (subscriptTail _ _ (Value.bytes _ _) (Value.int (Builtin.bitAnd _ 15 * _) _)) _ _ _); refine s_item (bit15 _).1 (bit15 _).2 ?_; intro _ _)
  k_with "getMethod str" => with_reducible refine gm_encode ?_
  k_with "call builtin:bytes.upper" => (refine call_upper (by size_fits) ?_; intro _ _)
  k_with "call builtin:bytes.hex" => (refine call_hex (by size_fits) ?_; intro _ _)
  k_with "call builtin:bytes.translate" => (refine call_translate (by decide +kernel) (by size_fits) ?_; intro _ _)
  k_with "call builtin:str.encode" => (refine call_encode (by first | assumption | exact hex_ascii _ | ktr_rel) (by size_fits) ?_; intro _ _)
  refine ⟨?_⟩; k_fill
  intro p loose mean mg mb dp un gd cn cs a ccd cl outer A₀ base h₀ L m news s Q E B F X N T hk hd hu hpre hret
  refine wpAny_call ?_
  refine enterP B F X T rfl rfl hk (by k_is) (by k_is) (by ktr_room) (BindsTo.of_defaults rfl ((X.keeps F.keep) _ _ (by k_is)) rfl rfl rfl) (locs rfl) ?_ rfl rfl rfl (by decide)
  intro g' L' h' eg' F' N' B' X' T'
  subst eg'
  k_steps
  exact hret _ _ _ (by assumption) (news_keeps N (by assumption)) (by assumption)
end
end Mine

namespace Mine
section
theorem b2ahex (w : World) (b : Array UInt8) (t : Tok) (hb : b.size ≤ 64) : Ctr w 52 [.bytes b t] [] (fun _ => True) 2 20 (fun t => .bytes (asc ⟨(hexCps b.toList).toArray⟩) t) := by
  w_top off; k_with_none
  k_with "exec Assign" => k_fold
  k_with "exec If" => k_fold
  k_with "exec Expr" => k_fold
  k_with "exec Return some" => k_fold
  k_with "eval BinOp" => k_fold
  k_with "eval Subscript" => k_fold
  k_with "eval Call" => k_fold
  k_with "eval IfExp" => k_fold
  k_with "eval List" => k_fold
  k_with "eval Compare" => k_fold
  k_with "isTrue Compare" => k_fold
  k_with "isTrue BoolOp" => k_fold
  k_with "isTrue UnaryOp" => k_fold
  k_with "call type:type" => ((with_reducible show wpAny _ _ (call _ [Value.bytes _ _]) _ _ _); refine type_bytes_call ?_)
  k_with "getMethod bytes" => first | with_reducible refine gm_upper ?_ | with_reducible refine gm_translate ?_ | with_reducible refine gm_hex ?_
  k_with "mine" => first | exact buffer _ _ _ | exact truth _ _
  k_with "call ref" => ((k_dflt (refine Ctr.use (by k_extra "mine") (by k_asm) (by k_asm) (by k_asm) (by k_asm) (by k_asm) (by first | exact rfl | assumption) (by first | decide | ktr_room) (by first | decide | ktr_units) (by first | trivial | assumption | k_extra "pre") ?_)); intro t9 h9 tk9 F9 N9 K9; (try dsimp only); (try k_fold))
  k_with "ints" => first | exact .nil | assumption | exact IntsAre.append (by assumption) (.cons _ _ .nil) | exact IntsAre.append (IntsAre.append (by assumption) (.cons _ _ .nil)) (.cons _ _ .nil) | exact IntsAre.append (IntsAre.append (IntsAre.append (by assumption) (.cons _ _ .nil)) (.cons _ _ .nil)) (.cons _ _ .nil)
  k_with "subscriptTail" => ((with_reducible show wpAny _ _ (subscriptTail _ _ (Value.bytes _ _) (Value.int (Builtin.bitAnd _ 63) _)) _ _ _); refine s_item (six_in _).1 (six_in _).2 ?_; intro _ _)
  k_with "size" => ((try dsimp only); (try simp only [List.push_toArray, List.size_toArray, List.length_append, List.length_cons, List.length_nil, PySem.sizeLine_eq]); omega)
  k_with "binaryOp LShift int int" => ((with_reducible show wpAny _ _ (binaryOp _ (Value.int (Builtin.bitAnd _ _) _) _) _ _ _); refine lshift_int_small (by decide) (by decide) (bit_small (by decide) (by decide)) ?_)
  k_with "subscriptTail" => ((with_reducible show wpAny _ _ (subscriptTail _ _ (Value.bytes _ _) (Value.int (Builtin.bitAnd _ 3 * _) _)) _ _ _); refine s_item (bit3 _).1 (bit3 _).2 ?_; intro _ _)
  k_with "subscriptTail" => ((with_reducible show wpAny _ _ (subscriptTail _ _ (Value.bytes _ _) (Value.int (Builtin.bitAnd _ 15 * _) _)) _ _ _); refine s_item (bit15 _).1 (bit15 _).2 ?_; intro _ _)
  k_with "getMethod str" => with_reducible refine gm_encode ?_
  k_with "call builtin:bytes.upper" => (refine call_upper (by size_fits) ?_; intro _ _)
  k_with "call builtin:bytes.hex" => (refine call_hex (by size_fits) ?_; intro _ _)
  k_with "call builtin:bytes.translate" => (refine call_translate (by decide +kernel) (by size_fits) ?_; intro _ _)
  k_with "call builtin:str.encode" => (refine call_encode (by first | assumption | exact hex_ascii _ | ktr_rel) (by size_fits) ?_; intro _ _)
  refine ⟨?_⟩; k_fill
  intro p loose mean mg mb dp un gd cn cs a ccd cl outer A₀ base h₀ L m news s Q E B F X N T hk hd hu hpre hret
  refine wpAny_call ?_
  refine enterP B F X T rfl rfl hk (by k_is) (by k_is) (by ktr_room) (BindsTo.of_defaults rfl ((X.keeps F.keep) _ _ (by k_is)) rfl rfl rfl) (locs rfl) ?_ rfl rfl rfl (by decide)
  intro g' L' h' eg' F' N' B' X' T'
  subst eg'
  have hb2 : b.toList.length ≤ 64 := by simpa using hb
  have hhl := hex_len b.toList
  k_steps
  exact hret _ _ _ (by assumption) (news_keeps N (by assumption)) (by assumption)
end
end Mine

namespace Mine
section
theorem stdenc (w : World) (b : Array UInt8) (t : Tok) (hb : b.size ≤ 64) : Ctr w 67 [.bytes b t] [] (fun _ => True) 4 40 (fun t => .bytes (byteArr (w64 (KBw.bInts b))) t) := by
  w_top off; k_with_none
  k_with "exec Assign" => k_fold
  k_with "exec If" => k_fold
  k_with "exec Expr" => k_fold
  k_with "exec Return some" => k_fold
  k_with "eval BinOp" => k_fold
  k_with "eval Subscript" => k_fold
  k_with "eval Call" => k_fold
  k_with "eval IfExp" => k_fold
  k_with "eval List" => k_fold
  k_with "eval Compare" => k_fold
  k_with "isTrue Compare" => k_fold
  k_with "isTrue BoolOp" => k_fold
  k_with "isTrue UnaryOp" => k_fold
  k_with "call type:type" => ((with_reducible show wpAny _ _ (call _ [Value.bytes _ _]) _ _ _); refine type_bytes_call ?_)
  k_with "getMethod bytes" => first | with_reducible refine gm_upper ?_ | with_reducible refine gm_translate ?_ | with_reducible refine gm_hex ?_
  k_with "mine" => first | exact b64enc _ _ _ (by assumption) | exact b2ahex _ _ _ (by assumption)
  k_with "call ref" => ((k_dflt (refine Ctr.use (by k_extra "mine") (by k_asm) (by k_asm) (by k_asm) (by k_asm) (by k_asm) (by first | exact rfl | assumption) (by first | decide | ktr_room) (by first | decide | ktr_units) (by first | trivial | assumption | k_extra "pre") ?_)); intro t9 h9 tk9 F9 N9 K9; (try dsimp only); (try k_fold))
  k_with "ints" => first | exact .nil | assumption | exact IntsAre.append (by assumption) (.cons _ _ .nil) | exact IntsAre.append (IntsAre.append (by assumption) (.cons _ _ .nil)) (.cons _ _ .nil) | exact IntsAre.append (IntsAre.append (IntsAre.append (by assumption) (.cons _ _ .nil)) (.cons _ _ .nil)) (.cons _ _ .nil)
  k_with "subscriptTail" => ((with_reducible show wpAny _ _ (subscriptTail _ _ (Value.bytes _ _) (Value.int (Builtin.bitAnd _ 63) _)) _ _ _); refine s_item (six_in _).1 (six_in _).2 ?_; intro _ _)
  k_with "size" => ((try dsimp only); (try simp only [List.push_toArray, List.size_toArray, List.length_append, List.length_cons, List.length_nil, PySem.sizeLine_eq]); omega)
  k_with "binaryOp LShift int int" => ((with_reducible show wpAny _ _ (binaryOp _ (Value.int (Builtin.bitAnd _ _) _) _) _ _ _); refine lshift_int_small (by decide) (by decide) (bit_small (by decide) (by decide)) ?_)
  k_with "subscriptTail" => ((with_reducible show wpAny _ _ (subscriptTail _ _ (Value.bytes _ _) (Value.int (Builtin.bitAnd _ 3 * _) _)) _ _ _); refine s_item (bit3 _).1 (bit3 _).2 ?_; intro _ _)
  k_with "subscriptTail" => ((with_reducible show wpAny _ _ (subscriptTail _ _ (Value.bytes _ _) (Value.int (Builtin.bitAnd _ 15 * _) _)) _ _ _); refine s_item (bit15 _).1 (bit15 _).2 ?_; intro _ _)
  k_with "getMethod str" => with_reducible refine gm_encode ?_
  k_with "call builtin:bytes.upper" => (refine call_upper (by size_fits) ?_; intro _ _)
  k_with "call builtin:bytes.hex" => (refine call_hex (by size_fits) ?_; intro _ _)
  k_with "call builtin:bytes.translate" => (refine call_translate (by decide +kernel) (by size_fits) ?_; intro _ _)
  k_with "call builtin:str.encode" => (refine call_encode (by first | assumption | exact hex_ascii _ | ktr_rel) (by size_fits) ?_; intro _ _)
  refine ⟨?_⟩; k_fill
  intro p loose mean mg mb dp un gd cn cs a ccd cl outer A₀ base h₀ L m news s Q E B F X N T hk hd hu hpre hret
  refine wpAny_call ?_
  refine enterP B F X T rfl rfl hk (by k_is) (by k_is) (by ktr_room) (BindsTo.of_eq rfl) (locs rfl) ?_ rfl rfl rfl (by decide)
  intro g' L' h' eg' F' N' B' X' T'
  subst eg'
  k_steps
  exact hret _ _ _ (by assumption) (news_keeps N (by assumption)) (by assumption)
end
end Mine

namespace Mine
section
theorem urlenc (w : World) (b : Array UInt8) (t : Tok) (hb : b.size ≤ 64) : Ctr w 74 [.bytes b t] [] (fun _ => True) 4 40 (fun t => .bytes (byteArr (w64u (KBw.bInts b))) t) := by
  w_top off; k_with_none
  k_with "exec Assign" => k_fold
  k_with "exec If" => k_fold
  k_with "exec Expr" => k_fold
  k_with "exec Return some" => k_fold
  k_with "eval BinOp" => k_fold
  k_with "eval Subscript" => k_fold
  k_with "eval Call" => k_fold
  k_with "eval IfExp" => k_fold
  k_with "eval List" => k_fold
  k_with "eval Compare" => k_fold
  k_with "isTrue Compare" => k_fold
  k_with "isTrue BoolOp" => k_fold
  k_with "isTrue UnaryOp" => k_fold
  k_with "call type:type" => ((with_reducible show wpAny _ _ (call _ [Value.bytes _ _]) _ _ _); refine type_bytes_call ?_)
  k_with "getMethod bytes" => first | with_reducible refine gm_upper ?_ | with_reducible refine gm_translate ?_ | with_reducible refine gm_hex ?_
  k_with "mine" => first | exact b64enc _ _ _ (by assumption) | exact b2ahex _ _ _ (by assumption)
  k_with "call ref" => ((k_dflt (refine Ctr.use (by k_extra "mine") (by k_asm) (by k_asm) (by k_asm) (by k_asm) (by k_asm) (by first | exact rfl | assumption) (by first | decide | ktr_room) (by first | decide | ktr_units) (by first | trivial | assumption | k_extra "pre") ?_)); intro t9 h9 tk9 F9 N9 K9; (try dsimp only); (try k_fold))
  k_with "ints" => first | exact .nil | assumption | exact IntsAre.append (by assumption) (.cons _ _ .nil) | exact IntsAre.append (IntsAre.append (by assumption) (.cons _ _ .nil)) (.cons _ _ .nil) | exact IntsAre.append (IntsAre.append (IntsAre.append (by assumption) (.cons _ _ .nil)) (.cons _ _ .nil)) (.cons _ _ .nil)
  k_with "subscriptTail" => ((with_reducible show wpAny _ _ (subscriptTail _ _ (Value.bytes _ _) (Value.int (Builtin.bitAnd _ 63) _)) _ _ _); refine s_item (six_in _).1 (six_in _).2 ?_; intro _ _)
  k_with "size" => ((try dsimp only); (try simp only [List.push_toArray, List.size_toArray, List.length_append, List.length_cons, List.length_nil, PySem.sizeLine_eq]); omega)
  k_with "binaryOp LShift int int" => ((with_reducible show wpAny _ _ (binaryOp _ (Value.int (Builtin.bitAnd _ _) _) _) _ _ _); refine lshift_int_small (by decide) (by decide) (bit_small (by decide) (by decide)) ?_)
  k_with "subscriptTail" => ((with_reducible show wpAny _ _ (subscriptTail _ _ (Value.bytes _ _) (Value.int (Builtin.bitAnd _ 3 * _) _)) _ _ _); refine s_item (bit3 _).1 (bit3 _).2 ?_; intro _ _)
  k_with "subscriptTail" => ((with_reducible show wpAny _ _ (subscriptTail _ _ (Value.bytes _ _) (Value.int (Builtin.bitAnd _ 15 * _) _)) _ _ _); refine s_item (bit15 _).1 (bit15 _).2 ?_; intro _ _)
  k_with "getMethod str" => with_reducible refine gm_encode ?_
  k_with "call builtin:bytes.upper" => (refine call_upper (by size_fits) ?_; intro _ _)
  k_with "call builtin:bytes.hex" => (refine call_hex (by size_fits) ?_; intro _ _)
  k_with "call builtin:bytes.translate" => (refine call_translate (by decide +kernel) (by size_fits) ?_; intro _ _)
  k_with "call builtin:str.encode" => (refine call_encode (by first | assumption | exact hex_ascii _ | ktr_rel) (by size_fits) ?_; intro _ _)
  refine ⟨?_⟩; k_fill
  intro p loose mean mg mb dp un gd cn cs a ccd cl outer A₀ base h₀ L m news s Q E B F X N T hk hd hu hpre hret
  refine wpAny_call ?_
  refine enterP B F X T rfl rfl hk (by k_is) (by k_is) (by ktr_room) (BindsTo.of_eq rfl) (locs rfl) ?_ rfl rfl rfl (by decide)
  intro g' L' h' eg' F' N' B' X' T'
  subst eg'
  have hwl := w64_len (KBw.bInts b)
  have hb3 : (KBw.bInts b).length ≤ 64 := by rw [KBw.ints_length]; exact hb
  have hbs := byteArr_size (w64 (KBw.bInts b))
  k_steps
  rw [← url_map] at hret
  exact hret _ _ _ (by assumption) (news_keeps N (by assumption)) (by assumption)
end
end Mine

namespace Mine
section
theorem b16enc (w : World) (b : Array UInt8) (t : Tok) (hb : b.size ≤ 64) : Ctr w 81 [.bytes b t] [] (fun _ => True) 3 30 (fun t => .bytes (byteArr (w16 (KBw.bInts b))) t) := by
  w_top off; k_with_none
  k_with "exec Assign" => k_fold
  k_with "exec If" => k_fold
  k_with "exec Expr" => k_fold
  k_with "exec Return some" => k_fold
  k_with "eval BinOp" => k_fold
  k_with "eval Subscript" => k_fold
  k_with "eval Call" => k_fold
  k_with "eval IfExp" => k_fold
  k_with "eval List" => k_fold
  k_with "eval Compare" => k_fold
  k_with "isTrue Compare" => k_fold
  k_with "isTrue BoolOp" => k_fold
  k_with "isTrue UnaryOp" => k_fold
  k_with "call type:type" => ((with_reducible show wpAny _ _ (call _ [Value.bytes _ _]) _ _ _); refine type_bytes_call ?_)
  k_with "getMethod bytes" => first | with_reducible refine gm_upper ?_ | with_reducible refine gm_translate ?_ | with_reducible refine gm_hex ?_
  k_with "mine" => first | exact b64enc _ _ _ (by assumption) | exact b2ahex _ _ _ (by assumption)
  k_with "call ref" => ((k_dflt (refine Ctr.use (by k_extra "mine") (by k_asm) (by k_asm) (by k_asm) (by k_asm) (by k_asm) (by first | exact rfl | assumption) (by first | decide | ktr_room) (by first | decide | ktr_units) (by first | trivial | assumption | k_extra "pre") ?_)); intro t9 h9 tk9 F9 N9 K9; (try dsimp only); (try k_fold))
  k_with "ints" => first | exact .nil | assumption | exact IntsAre.append (by assumption) (.cons _ _ .nil) | exact IntsAre.append (IntsAre.append (by assumption) (.cons _ _ .nil)) (.cons _ _ .nil) | exact IntsAre.append (IntsAre.append (IntsAre.append (by assumption) (.cons _ _ .nil)) (.cons _ _ .nil)) (.cons _ _ .nil)
  k_with "subscriptTail" => ((with_reducible show wpAny _ _ (subscriptTail _ _ (Value.bytes _ _) (Value.int (Builtin.bitAnd _ 63) _)) _ _ _); refine s_item (six_in _).1 (six_in _).2 ?_; intro _ _)
  k_with "size" => ((try dsimp only); (try simp only [List.push_toArray, List.size_toArray, List.length_append, List.length_cons, List.length_nil, PySem.sizeLine_eq]); omega)
  k_with "binaryOp LShift int int" => ((with_reducible show wpAny _ _ (binaryOp _ (Value.int (Builtin.bitAnd _ _) _) _) _ _ _); refine lshift_int_small (by decide) (by decide) (bit_small (by decide) (by decide)) ?_)
  k_with "subscriptTail" => ((with_reducible show wpAny _ _ (subscriptTail _ _ (Value.bytes _ _) (Value.int (Builtin.bitAnd _ 3 * _) _)) _ _ _); refine s_item (bit3 _).1 (bit3 _).2 ?_; intro _ _)
  k_with "subscriptTail" => ((with_reducible show wpAny _ _ (subscriptTail _ _ (Value.bytes _ _) (Value.int (Builtin.bitAnd _ 15 * _) _)) _ _ _); refine s_item (bit15 _).1 (bit15 _).2 ?_; intro _ _)
  k_with "getMethod str" => with_reducible refine gm_encode ?_
  k_with "call builtin:bytes.upper" => (refine call_upper (by size_fits) ?_; intro _ _)
  k_with "call builtin:bytes.hex" => (refine call_hex (by size_fits) ?_; intro _ _)
  k_with "call builtin:bytes.translate" => (refine call_translate (by decide +kernel) (by size_fits) ?_; intro _ _)
  k_with "call builtin:str.encode" => (refine call_encode (by first | assumption | exact hex_ascii _ | ktr_rel) (by size_fits) ?_; intro _ _)
  refine ⟨?_⟩; k_fill
  intro p loose mean mg mb dp un gd cn cs a ccd cl outer A₀ base h₀ L m news s Q E B F X N T hk hd hu hpre hret
  refine wpAny_call ?_
  refine enterP B F X T rfl rfl hk (by k_is) (by k_is) (by ktr_room) (BindsTo.of_eq rfl) (locs rfl) ?_ rfl rfl rfl (by decide)
  intro g' L' h' eg' F' N' B' X' T'
  subst eg'
  have hsz : (asc ⟨(hexCps b.toList).toArray⟩).size ≤ 128 := by
    rw [asc_size]; show (hexCps b.toList).toArray.size ≤ 128
    rw [List.size_toArray, hex_len]; simp; omega
  k_steps
  rw [← up_hex] at hret
  exact hret _ _ _ (by assumption) (news_keeps N (by assumption)) (by assumption)
end
end Mine

namespace Mine
section
theorem fmode (w : World) (n : Int) (t : Tok) : Ctr w 128 [.int n t] [] (fun _ => True) 2 20 (fun t => .str (rowS n) t) := by
  w_top off; k_with_none
  k_with "exec Assign" => k_fold
  k_with "exec If" => k_fold
  k_with "exec Expr" => k_fold
  k_with "exec Return some" => k_fold
  k_with "eval BinOp" => k_fold
  k_with "eval Subscript" => k_fold
  k_with "eval Call" => k_fold
  k_with "eval IfExp" => k_fold
  k_with "eval List" => k_fold
  k_with "eval Compare" => k_fold
  k_with "isTrue Compare" => k_fold
  k_with "isTrue BoolOp" => k_fold
  k_with "isTrue UnaryOp" => k_fold
  k_with "call type:type" => ((with_reducible show wpAny _ _ (call _ [Value.bytes _ _]) _ _ _); refine type_bytes_call ?_)
  k_with "getMethod bytes" => first | with_reducible refine gm_upper ?_ | with_reducible refine gm_translate ?_ | with_reducible refine gm_hex ?_
  k_with "mine" => first | exact s_ifmt _ _ _
  k_with "call ref" => ((k_dflt (refine Ctr.use (by k_extra "mine") (by k_asm) (by k_asm) (by k_asm) (by k_asm) (by k_asm) (by first | exact rfl | assumption) (by first | decide | ktr_room) (by first | decide | ktr_units) (by first | trivial | assumption | k_extra "pre") ?_)); intro t9 h9 tk9 F9 N9 K9; (try dsimp only); (try k_fold))
  k_with "ints" => first | exact .nil | assumption | exact IntsAre.append (by assumption) (.cons _ _ .nil) | exact IntsAre.append (IntsAre.append (by assumption) (.cons _ _ .nil)) (.cons _ _ .nil) | exact IntsAre.append (IntsAre.append (IntsAre.append (by assumption) (.cons _ _ .nil)) (.cons _ _ .nil)) (.cons _ _ .nil)
  k_with "subscriptTail" => ((with_reducible show wpAny _ _ (subscriptTail _ _ (Value.bytes _ _) (Value.int (Builtin.bitAnd _ 63) _)) _ _ _); refine s_item (six_in _).1 (six_in _).2 ?_; intro _ _)
  k_with "size" => ((try dsimp only); (try simp only [List.push_toArray, List.size_toArray, List.length_append, List.length_cons, List.length_nil, PySem.sizeLine_eq]); omega)
  k_with "binaryOp LShift int int" => ((with_reducible show wpAny _ _ (binaryOp _ (Value.int (Builtin.bitAnd _ _) _) _) _ _ _); refine lshift_int_small (by decide) (by decide) (bit_small (by decide) (by decide)) ?_)
  k_with "subscriptTail" => ((with_reducible show wpAny _ _ (subscriptTail _ _ (Value.bytes _ _) (Value.int (Builtin.bitAnd _ 3 * _) _)) _ _ _); refine s_item (bit3 _).1 (bit3 _).2 ?_; intro _ _)
  k_with "subscriptTail" => ((with_reducible show wpAny _ _ (subscriptTail _ _ (Value.bytes _ _) (Value.int (Builtin.bitAnd _ 15 * _) _)) _ _ _); refine s_item (bit15 _).1 (bit15 _).2 ?_; intro _ _)
  k_with "getMethod str" => with_reducible refine gm_encode ?_
  k_with "call builtin:bytes.upper" => (refine call_upper (by size_fits) ?_; intro _ _)
  k_with "call builtin:bytes.hex" => (refine call_hex (by size_fits) ?_; intro _ _)
  k_with "call builtin:bytes.translate" => (refine call_translate (by decide +kernel) (by size_fits) ?_; intro _ _)
  k_with "call builtin:str.encode" => (refine call_encode (by first | assumption | exact hex_ascii _ | ktr_rel) (by size_fits) ?_; intro _ _)
  k_with "exec For Tuple Call cons nil" => refine wpAny_For ?_
  k_with "exec For Tuple Name cons cons" => refine wpAny_For ?_
  refine ⟨?_⟩; k_fill
  intro p loose mean mg mb dp un gd cn cs a ccd cl outer A₀ base h₀ L m news s Q E B F X N T hk hd hu hpre hret
  refine wpAny_call ?_
  refine enterP B F X T rfl rfl hk (by k_is) (by k_is) (by ktr_room) (BindsTo.of_eq rfl) (locs rfl) ?_ rfl rfl rfl (by decide)
  intro g' L' h' eg' F' N' B' X' T'
  subst eg'
  k_steps
  (rename Fr _ _ _ _ => F1)
  (rename News _ _ _ _ => N1)
  refine enum_for (rest := []) rfl (whole_in X') F1 N1 (by intro p hp; cases hp) (fun pA i m o => m (Str.ofString "mode") = some (.int n t) ∧ m (Str.ofString "perm") = some (.ref pA) ∧ ∃ vs k, o = W.listOf vs.toArray k ∧ StrsAre vs (signs n i)) ⟨rfl, rfl, [], 0, rfl, .nil⟩ ?_ ?_
  · intro i x t5 T m₁ o₁ h₁ tk₁ own hi hx hT hJ hO F₁ N₁
    obtain ⟨hm1, hm2, vs, k, rfl, hS⟩ := hJ
    rw [fnorm2 _ _ hm1 hm2] at F₁
    have hi' : i < tabs.length := by simpa using hi
    obtain ⟨p, hp⟩ : ∃ p, tabs[i]? = some p := ⟨tabs[i], List.getElem?_eq_getElem hi'⟩
    have hpm : p ∈ tabs := List.mem_of_getElem? hp
    obtain ⟨ht1, ht2⟩ := tab_in X' p hpm
    have hxe : x = .ref p.1 := by
      simp only [List.getElem?_toArray, List.getElem?_map, hp, Option.map_some, Option.some.injEq] at hx
      exact hx.symm
    subst hxe
    k_steps
    (rename Fr _ _ _ _ => F2)
    (rename News _ _ _ _ => N2)
    refine tup_for rfl ht1 F2 N2 hO (fun pA j m o => m (Str.ofString "mode") = some (.int n t) ∧ m (Str.ofString "perm") = some (.ref pA) ∧ m (Str.ofString "index") = some (.int i t5) ∧ o = W.listOf vs.toArray k ∧ NoHit n (i == 0) p.2 j) (fun pA m o => m (Str.ofString "mode") = some (.int n t) ∧ m (Str.ofString "perm") = some (.ref pA) ∧ ∃ tx, o = W.listOf (vs ++ [Value.str (pick n (i == 0) p.2) tx]).toArray (k + 1)) ⟨rfl, rfl, rfl, rfl, rfl⟩ ?_ ?_ ?_
    · intro j v m₂ o₂ h₂ tk₂ own2 hj hv hJ hO2 F₃ N₃
      obtain ⟨hq1, hq2, hq3, rfl, hno⟩ := hJ
      rw [fnorm3 _ _ _ hq1 hq2 hq3] at F₃
      have hj' : j < p.2.length := by simpa using hj
      obtain ⟨e, he⟩ : ∃ e, p.2[j]? = some e := ⟨p.2[j], List.getElem?_eq_getElem hj'⟩
      have hT2 := ht2 e (List.mem_of_getElem? he)
      have hve : v = .ref e.at_ := by
        simp only [List.getElem?_toArray, List.getElem?_map, he, Option.map_some, Option.some.injEq] at hv
        exact hv.symm
      subst hve
      have hvl : vs.length ≤ 10 := by rw [strs_len hS, signs_len]; have : tabs.length = 10 := rfl; omega
      by_cases hi0 : i = 0
      · subst hi0
        k_steps
        · (rename News _ _ _ _ => N4)
          simp only [List.push_toArray] at N4
          rw [hit_here hno he (by simpa using (by assumption))] at N4
          exact ⟨_, _, _, _, rfl, by assumption, N4, rfl, rfl, _, rfl⟩
        · exact ⟨_, _, _, _, rfl, by assumption, by assumption, rfl, rfl, rfl, rfl, noHit_step hno he (by simpa using (by assumption))⟩
      · have hi2 : ((i : Nat) : Int) ≠ 0 := by omega
        have hi3 : (i == 0) = false := by simpa using hi0
        k_steps
        all_goals first
          | (exfalso; omega)
          | ((rename News _ _ _ _ => N4)
             simp only [List.push_toArray] at N4
             rw [hit_here hno he (by simpa [hi3] using (by assumption))] at N4
             exact ⟨_, _, _, _, rfl, by assumption, N4, rfl, rfl, _, rfl⟩)
          | exact ⟨_, _, _, _, rfl, by assumption, by assumption, rfl, rfl, rfl, rfl, noHit_step hno he (by simpa [hi3] using (by assumption))⟩
    · intro m₂ o₂ h₂ tk₂ hB F₃ N₃
      obtain ⟨hq1, hq2, tx, rfl⟩ := hB
      rw [fnorm2 _ _ hq1 hq2] at F₃
      dsimp only
      k_steps
      exact ⟨_, _, _, _, rfl, by assumption, by assumption, rfl, rfl, _, _, rfl, strs_next hp hS⟩
    · intro m₂ o₂ h₂ tk₂ hJ F₃ N₃
      obtain ⟨hq1, hq2, hq3, rfl, hno⟩ := hJ
      rw [fnorm3 _ _ _ hq1 hq2 hq3] at F₃
      have hvl : vs.length ≤ 10 := by rw [strs_len hS, signs_len]; have : tabs.length = 10 := rfl; omega
      have hno' : pick n (i == 0) p.2 = pick n (i == 0) [] := hit_none (by simpa using hno)
      by_cases hi0 : i = 0
      · subst hi0
        k_steps
        (rename News _ _ _ _ => N4)
        simp only [List.push_toArray] at N4
        rw [show Str.ofString "?" = pick n ((0 : Nat) == 0) [] from rfl, ← hno'] at N4
        exact ⟨_, _, _, _, rfl, by assumption, N4, rfl, rfl, _, _, rfl, strs_next hp hS⟩
      · have hi2 : ((i : Nat) : Int) ≠ 0 := by omega
        have hi3 : (i == 0) = false := by simpa using hi0
        k_steps
        all_goals first
          | (exfalso; omega)
          | ((rename News _ _ _ _ => N4)
             simp only [List.push_toArray] at N4
             rw [show Str.ofString "-" = pick n (i == 0) [] by rw [hi3]; rfl, ← hno'] at N4
             exact ⟨_, _, _, _, rfl, by assumption, N4, rfl, rfl, _, _, rfl, strs_next hp hS⟩)
  · intro m₂ o₂ h₂ tk₂ hJ F₃ N₃
    obtain ⟨hq1, hq2, vs, k, rfl, hS⟩ := hJ
    rw [fnorm2 _ _ hq1 hq2] at F₃
    k_steps
    refine join_list (items := vs.toArray) (ys := signs n 10) ⟨_, N₃.get (List.Mem.head _), rfl, _, rfl⟩ hS (by rw [signs_sum, signs_len]; decide) ?_
    intro t8 k8
    k_steps
    exact hret _ _ _ (by assumption) (news_keeps N (by assumption)) (by assumption)
end
end Mine

namespace Mine
section
theorem listed (w : World) (b : Array UInt8) (t : Tok) (n : Nat) (hb : b.size = 2 * n) (hn : n ≤ 32) : Ctr w 145 [.bytes b t] [] (fun _ => True) 4 40 (fun t => .str (listS (KBw.bInts b) n) t) := by
  w_top off; k_with_none
  k_with "exec Assign" => k_fold
  k_with "exec If" => k_fold
  k_with "exec Expr" => k_fold
  k_with "exec Return some" => k_fold
  k_with "eval BinOp" => k_fold
  k_with "eval Subscript" => k_fold
  k_with "eval Call" => k_fold
  k_with "eval IfExp" => k_fold
  k_with "eval List" => k_fold
  k_with "eval Compare" => k_fold
  k_with "isTrue Compare" => k_fold
  k_with "isTrue BoolOp" => k_fold
  k_with "isTrue UnaryOp" => k_fold
  k_with "call type:type" => ((with_reducible show wpAny _ _ (call _ [Value.bytes _ _]) _ _ _); refine type_bytes_call ?_)
  k_with "getMethod bytes" => first | with_reducible refine gm_upper ?_ | with_reducible refine gm_translate ?_ | with_reducible refine gm_hex ?_
  k_with "mine" => first | exact fmode _ _ _
  k_with "call ref" => ((k_dflt (refine Ctr.use (by k_extra "mine") (by k_asm) (by k_asm) (by k_asm) (by k_asm) (by k_asm) (by first | exact rfl | assumption) (by first | decide | ktr_room) (by first | decide | ktr_units) (by first | trivial | assumption | k_extra "pre") ?_)); intro t9 h9 tk9 F9 N9 K9; (try dsimp only); (try k_fold))
  k_with "ints" => first | exact .nil | assumption | exact IntsAre.append (by assumption) (.cons _ _ .nil) | exact IntsAre.append (IntsAre.append (by assumption) (.cons _ _ .nil)) (.cons _ _ .nil) | exact IntsAre.append (IntsAre.append (IntsAre.append (by assumption) (.cons _ _ .nil)) (.cons _ _ .nil)) (.cons _ _ .nil)
  k_with "subscriptTail" => ((with_reducible show wpAny _ _ (subscriptTail _ _ (Value.bytes _ _) (Value.int (Builtin.bitAnd _ 63) _)) _ _ _); refine s_item (six_in _).1 (six_in _).2 ?_; intro _ _)
  k_with "size" => ((try dsimp only); (try simp only [List.push_toArray, List.size_toArray, List.length_append, List.length_cons, List.length_nil, PySem.sizeLine_eq]); omega)
  k_with "binaryOp LShift int int" => ((with_reducible show wpAny _ _ (binaryOp _ (Value.int (Builtin.bitAnd _ _) _) _) _ _ _); refine lshift_int_small (by decide) (by decide) (bit_small (by decide) (by decide)) ?_)
  k_with "subscriptTail" => ((with_reducible show wpAny _ _ (subscriptTail _ _ (Value.bytes _ _) (Value.int (Builtin.bitAnd _ 3 * _) _)) _ _ _); refine s_item (bit3 _).1 (bit3 _).2 ?_; intro _ _)
  k_with "subscriptTail" => ((with_reducible show wpAny _ _ (subscriptTail _ _ (Value.bytes _ _) (Value.int (Builtin.bitAnd _ 15 * _) _)) _ _ _); refine s_item (bit15 _).1 (bit15 _).2 ?_; intro _ _)
  k_with "getMethod str" => with_reducible refine gm_encode ?_
  k_with "call builtin:bytes.upper" => (refine call_upper (by size_fits) ?_; intro _ _)
  k_with "call builtin:bytes.hex" => (refine call_hex (by size_fits) ?_; intro _ _)
  k_with "call builtin:bytes.translate" => (refine call_translate (by decide +kernel) (by size_fits) ?_; intro _ _)
  k_with "call builtin:str.encode" => (refine call_encode (by first | assumption | exact hex_ascii _ | ktr_rel) (by size_fits) ?_; intro _ _)
  k_with "eval ListComp" => (k_dflt (refine comp_step (by k_asm) (by with_unfolding_all rfl) (by decide) (by rfl) (by decide) (by rfl) ?_))
  refine ⟨?_⟩; k_fill
  intro p loose mean mg mb dp un gd cn cs a ccd cl outer A₀ base h₀ L m news s Q E B F X N T hk hd hu hpre hret
  refine wpAny_call ?_
  refine enterC B F X T rfl rfl hk (by k_is) (by k_is) (by ktr_room) (BindsTo.of_eq rfl) rfl (by decide +kernel) ?_ rfl rfl rfl
  intro g' L' h' tk' cells' eg' F' N' Y' B' X' T'
  subst eg'
  k_cells Y'
  (try simp only [List.cons_append, List.nil_append] at N')
  (try dsimp only)
  have hb3 : (KBw.bInts b).length = 2 * n := by rw [KBw.ints_length]; exact hb
  have hb4 : b.toList.length = 2 * n := by simpa using hb
  k_steps
  refine ⟨_, 0, b.size, 2, _, _, _, n, _, rfl, rfl, by assumption, by assumption, by assumption, ?_, ?_, ?_, fun s₂ hs₂ => ?_⟩
  · rw [hb]; exact (small2 ⟨n, by omega⟩).1
  · rw [hb]; exact (small2 ⟨n, by omega⟩).2
  · rw [sizeLine_eq]; omega
  obtain ⟨h5, rfl⟩ := hs₂
  refine compRest_of n (fun i ys => StrsAre ys (rowsN (KBw.bInts b) i)) trivial ?_ ?_ n 0 [] rfl .nil
  · intro i v ys I oI C oC D m₂ h tk hi hP hY hO hx F5 N5
    obtain ⟨t5, rfl⟩ := hP
    k_steps
    exact ⟨_, _, rfl, by assumption, by assumption, strs_row hY (getD_b _ _ _ (by omega)) (getD_b _ _ _ (by omega))⟩
  · intro ys hY D h tk F5 N5 off5
    k_steps
    refine join_list (items := ys.toArray) (ys := rowsN (KBw.bInts b) n) ⟨_, N5.get (List.Mem.head _), rfl, _, rfl⟩ hY (by rw [rowsN_sum, rowsN_len]; rw [show (Str.ofString "").length = 0 from rfl]; omega) ?_
    intro t8 k8
    k_steps
    exact hret _ _ _ (by assumption) (news_keeps N (by assumption)) (by assumption)
end
end Mine

namespace Mine
section
theorem lrow (w : World) (ia ib : Int) (t u : Tok) (ha : 0 ≤ ia) (ha' : ia < 256) (hb : 0 ≤ ib) (hb' : ib < 256) : Ctr w 140 [.int ia t, .int ib u] [] (fun _ => True) 1 8 (fun t => .str (rowS (ia * 256 + ib)) t) := by
  w_top off; k_with_none
  k_with "exec Assign" => k_fold
  k_with "exec If" => k_fold
  k_with "exec Expr" => k_fold
  k_with "exec Return some" => k_fold
  k_with "eval BinOp" => k_fold
  k_with "eval Subscript" => k_fold
  k_with "eval Call" => k_fold
  k_with "eval IfExp" => k_fold
  k_with "eval List" => k_fold
  k_with "eval Compare" => k_fold
  k_with "isTrue Compare" => k_fold
  k_with "isTrue BoolOp" => k_fold
  k_with "isTrue UnaryOp" => k_fold
  k_with "call type:type" => ((with_reducible show wpAny _ _ (call _ [Value.bytes _ _]) _ _ _); refine type_bytes_call ?_)
  k_with "getMethod bytes" => first | with_reducible refine gm_upper ?_ | with_reducible refine gm_translate ?_ | with_reducible refine gm_hex ?_
  k_with "ints" => first | exact .nil | assumption | exact IntsAre.append (by assumption) (.cons _ _ .nil) | exact IntsAre.append (IntsAre.append (by assumption) (.cons _ _ .nil)) (.cons _ _ .nil) | exact IntsAre.append (IntsAre.append (IntsAre.append (by assumption) (.cons _ _ .nil)) (.cons _ _ .nil)) (.cons _ _ .nil)
  k_with "subscriptTail" => ((with_reducible show wpAny _ _ (subscriptTail _ _ (Value.bytes _ _) (Value.int (Builtin.bitAnd _ 63) _)) _ _ _); refine s_item (six_in _).1 (six_in _).2 ?_; intro _ _)
  k_with "size" => ((try dsimp only); (try simp only [List.push_toArray, List.size_toArray, List.length_append, List.length_cons, List.length_nil, PySem.sizeLine_eq]); omega)
  k_with "binaryOp LShift int int" => ((with_reducible show wpAny _ _ (binaryOp _ (Value.int (Builtin.bitAnd _ _) _) _) _ _ _); refine lshift_int_small (by decide) (by decide) (bit_small (by decide) (by decide)) ?_)
  k_with "subscriptTail" => ((with_reducible show wpAny _ _ (subscriptTail _ _ (Value.bytes _ _) (Value.int (Builtin.bitAnd _ 3 * _) _)) _ _ _); refine s_item (bit3 _).1 (bit3 _).2 ?_; intro _ _)
  k_with "subscriptTail" => ((with_reducible show wpAny _ _ (subscriptTail _ _ (Value.bytes _ _) (Value.int (Builtin.bitAnd _ 15 * _) _)) _ _ _); refine s_item (bit15 _).1 (bit15 _).2 ?_; intro _ _)
  k_with "getMethod str" => with_reducible refine gm_encode ?_
  k_with "call builtin:bytes.upper" => (refine call_upper (by size_fits) ?_; intro _ _)
  k_with "call builtin:bytes.hex" => (refine call_hex (by size_fits) ?_; intro _ _)
  k_with "call builtin:bytes.translate" => (refine call_translate (by decide +kernel) (by size_fits) ?_; intro _ _)
  k_with "call builtin:str.encode" => (refine call_encode (by first | assumption | exact hex_ascii _ | ktr_rel) (by size_fits) ?_; intro _ _)
  k_with "subscriptTail" => ((with_reducible show wpAny _ _ (subscriptTail _ _ (Value.str _ _) (Value.int _ _)) _ _ _); k_dflt (refine item_sm (by first | exact in_w _ | exact in_last _ _ _ _ | exact in_r _ (by assumption) (by assumption) _ | exact in_kind (by assumption) (by assumption)) ?_); intro _)
  k_with "subscriptTail Name Name ref int" => (k_dflt (refine item_led (by k_asm) (by first | exact List.Mem.head _ | exact List.Mem.tail _ (by assumption)) (by assumption) (by assumption) (by assumption) (by assumption) ?_); intro _)
  k_with "execs cons" => ((with_reducible show wpAny _ _ (execs (Stmt.Assign [Expr.Name (Str.ofString "last") _] _ _ :: _) _) _ _ _); refine stop_here ?_)
  k_with "exec For Name Call cons nil" => k_dflt (refine wpAny_For ?_)
  k_with "pyIter ref" => ((with_reducible show wpAny _ _ (pyIter (Value.ref _)) _ _ _); refine stop_here ?_)
  refine ⟨?_⟩; k_fill
  intro p loose mean mg mb dp un gd cn cs a ccd cl outer A₀ base h₀ L m news s Q E B F X N T hk hd hu hpre hret
  refine wpAny_call ?_
  refine enterP B F X T rfl rfl hk (by k_is) (by k_is) (by ktr_room) (BindsTo.of_eq rfl) (locs rfl) ?_ rfl rfl rfl (by decide)
  intro g' L' h' eg' F' N' B' X' T'
  subst eg'
  rw [lawRow_eq ha ha' hb hb', rowP_three] at hret
  k_steps
  (rename News _ _ _ _ => N9)
  (rename Fr _ _ _ _ => F9)
  (rename IsRange _ _ _ _ _ _ _ _ => R9)
  obtain ⟨vs, us, hV, hU, N9⟩ := led_gen N9
  replace hV : IntsAre vs (rts ia ib) := hV
  replace hU : IntsAre us (abv ia) := hU
  refine range_forT (n := 3) rfl R9 rfl rfl F9 N9 ?_ (fun i m o => o = W.listOf vs.toArray 0 ∧ m (Str.ofString "above") = some (.ref _) ∧ m (Str.ofString "rights") = some (.ref _) ∧ ∃ tx, m (Str.ofString "row") = some (.str (rowP ia ib i) tx)) ⟨rfl, rfl, rfl, _, rfl⟩ ?_ ?_
  · intro p hp b hb
    rw [List.mem_singleton.mp hp, List.mem_singleton.mp hb]
    k_ne
  · intro i t5 m₁ o₁ h₁ tk₁ own hi hJ hsub F₁ N₁
    obtain ⟨rfl, hm1, hm2, tx, hm3⟩ := hJ
    rw [fnorm3 _ _ _ hm1 hm2 hm3] at F₁
    have hU1 := hsub _ (List.Mem.head _)
    clear hsub
    have hp1 : (0 : Int) ≤ 0 + (i : Int) * 1 := by omega
    have hp2 : 0 + (i : Int) * 1 < (rts ia ib).length := by show 0 + (i : Int) * 1 < 3; omega
    have hp3 : 0 + (i : Int) * 1 < (abv ia).length := hp2
    have hp4 : 0 + (i : Int) * 1 < 2 ^ 63 := by omega
    have hp5 : (0 + (i : Int) * 1).toNat = i := by omega
    have hp6 : (0 + (i : Int) * 1 = 2) → i = 2 := by omega
    have hp7 : ¬ (0 + (i : Int) * 1 = 2) → ¬ i = 2 := by omega
    have hR := rowP_len ia ib i
    have hR2 : (rowP ia ib i).length ≤ 10 := by omega
    have hR3 := rowP_succ ia ib i
    generalize rowP ia ib (i + 1) = r8 at *
    generalize rowP ia ib i = r9 at *
    generalize 0 + (i : Int) * 1 = p9 at *
    clear hR
    k_steps
    refine' cut_last (lastS i) ?g1 ?g2 ?g3 ?g4
    case g1 => k_asm
    case g2 => k_asm
    case g3 =>
      k_steps
      · rw [last_t (hp6 (by assumption))]
        exact ⟨rfl, _, _, _, rfl, by assumption, by assumption⟩
      · rw [last_s (hp7 (by assumption))]
        exact ⟨rfl, _, _, _, rfl, by assumption, by assumption⟩
    case g4 =>
      intro h8 tk8 t7 F8 N8
      k_steps
      exact ⟨_, _, _, _, rfl, by assumption, by assumption, rfl, by rfl, by rfl, _, by rw [hR3, hp5]; rfl⟩
  · intro m₂ o₂ h₂ tk₂ hJ F₃ N₃
    obtain ⟨rfl, hm1, hm2, tx, hm3⟩ := hJ
    rw [fnorm3 _ _ _ hm1 hm2 hm3] at F₃
    k_steps
    exact hret _ _ _ (by assumption) (news_keeps N (by assumption)) (by assumption)
end
end Mine

namespace Mine
section
theorem written (w : World) (l : Addr) (vs : List Value) (ns : List Int) (sg : Str) (t u : Tok) (hI : IntsAre vs ns) (hr : ∀ n ∈ ns, 0 ≤ n ∧ n < 256) (hl : ns.length ≤ 6) (hl1 : 1 ≤ ns.length) (hs : sg.length = 64) :
    Ctr w 133 [.ref l, .str sg t, .int 6 u] [] (fun h => h.IsList l vs.toArray) 2 20 (fun t => .str (writ6 sg ns) t) := by
  w_top off; k_with_none
  k_with "exec Assign" => k_fold
  k_with "exec If" => k_fold
  k_with "exec Expr" => k_fold
  k_with "exec Return some" => k_fold
  k_with "eval BinOp" => k_fold
  k_with "eval Subscript" => k_fold
  k_with "eval Call" => k_fold
  k_with "eval IfExp" => k_fold
  k_with "eval List" => k_fold
  k_with "eval Compare" => k_fold
  k_with "isTrue Compare" => k_fold
  k_with "isTrue BoolOp" => k_fold
  k_with "isTrue UnaryOp" => k_fold
  k_with "call type:type" => ((with_reducible show wpAny _ _ (call _ [Value.bytes _ _]) _ _ _); refine type_bytes_call ?_)
  k_with "getMethod bytes" => first | with_reducible refine gm_upper ?_ | with_reducible refine gm_translate ?_ | with_reducible refine gm_hex ?_
  k_with "ints" => first | exact .nil | assumption | exact IntsAre.append (by assumption) (.cons _ _ .nil) | exact IntsAre.append (IntsAre.append (by assumption) (.cons _ _ .nil)) (.cons _ _ .nil) | exact IntsAre.append (IntsAre.append (IntsAre.append (by assumption) (.cons _ _ .nil)) (.cons _ _ .nil)) (.cons _ _ .nil)
  k_with "subscriptTail" => ((with_reducible show wpAny _ _ (subscriptTail _ _ (Value.bytes _ _) (Value.int (Builtin.bitAnd _ 63) _)) _ _ _); refine s_item (six_in _).1 (six_in _).2 ?_; intro _ _)
  k_with "size" => ((try dsimp only); (try simp only [List.push_toArray, List.size_toArray, List.length_append, List.length_cons, List.length_nil, PySem.sizeLine_eq]); omega)
  k_with "binaryOp LShift int int" => ((with_reducible show wpAny _ _ (binaryOp _ (Value.int (Builtin.bitAnd _ _) _) _) _ _ _); refine lshift_int_small (by decide) (by decide) (bit_small (by decide) (by decide)) ?_)
  k_with "subscriptTail" => ((with_reducible show wpAny _ _ (subscriptTail _ _ (Value.bytes _ _) (Value.int (Builtin.bitAnd _ 3 * _) _)) _ _ _); refine s_item (bit3 _).1 (bit3 _).2 ?_; intro _ _)
  k_with "subscriptTail" => ((with_reducible show wpAny _ _ (subscriptTail _ _ (Value.bytes _ _) (Value.int (Builtin.bitAnd _ 15 * _) _)) _ _ _); refine s_item (bit15 _).1 (bit15 _).2 ?_; intro _ _)
  k_with "getMethod str" => with_reducible refine gm_encode ?_
  k_with "call builtin:bytes.upper" => (refine call_upper (by size_fits) ?_; intro _ _)
  k_with "call builtin:bytes.hex" => (refine call_hex (by size_fits) ?_; intro _ _)
  k_with "call builtin:bytes.translate" => (refine call_translate (by decide +kernel) (by size_fits) ?_; intro _ _)
  k_with "call builtin:str.encode" => (refine call_encode (by first | assumption | exact hex_ascii _ | ktr_rel) (by size_fits) ?_; intro _ _)
  k_with "exec Assign cons ListComp" => (k_dflt (refine assign_comp2 (by k_asm) (by rfl) (by with_unfolding_all rfl) (by with_unfolding_all rfl) (by decide) (by rfl) (by decide) (by rfl) (by rfl) (by decide) (by rfl) (by rfl) ?_))
  k_with "exec For Name Call cons nil" => k_dflt (refine wpAny_For ?_)
  k_with "subscriptTail" => ((with_reducible show wpAny _ _ (subscriptTail _ _ (Value.str _ _) (Value.int _ _)) _ _ _); k_dflt (refine item_sm (by first | exact in64 (by assumption) (by assumption) (by assumption) | exact in16 (by assumption) (by assumption) (by assumption)) ?_); intro _)
  k_with "exec For Name Subscript cons nil" => k_dflt (refine wpAny_For ?_)
  k_with "call builtin:len" => ((with_reducible show wpAny _ _ (call (Value.builtin "len") [Value.ref _]) _ _ _); k_dflt (refine len_led (by k_asm) (by k_mem) (by omega) ?_))
  refine ⟨?_⟩; k_fill
  intro p loose mean mg mb dp un gd cn cs a ccd cl outer A₀ base h₀ L m news s Q E B F X N T hk hd hu hpre hret
  refine wpAny_call ?_
  refine enterP B F X T rfl rfl hk (by k_is) (by k_is) (by ktr_room) (BindsTo.of_eq rfl) (locs rfl) ?_ rfl rfl rfl (by decide)
  intro g' L' h' eg' F' N' B' X' T'
  subst eg'
  k_steps
  refine ⟨_, vs.toArray, ns, [7, 6, 5, 4, 3, 2, 1, 0], (fun o k => (o.fdiv (2 ^ k.toNat)).fmod 2), 48, rfl, rfl, by assumption, by assumption, hI, ?_, by omega, fun C x => rfl, ?_, ?_, ?_⟩
  · simp only [List.length_cons, List.length_nil]; omega
  · intro C I D s m' oI oC oD hoN F5 N5
    k_steps
    exact ⟨_, _, _, _, _, rfl, rfl, .cons _ _ (.cons _ _ (.cons _ _ (.cons _ _ (.cons _ _ (.cons _ _ (.cons _ _ (.cons _ _ .nil))))))), by assumption, by assumption, by k_all⟩
  · intro C s o to k tk m' hCL hC₀ ho hk hn hm0 hm1 F5
    obtain ⟨oC, hoC, hoN⟩ := LCg.ns_obj hn
    have N5 : News _ _ s.heap [(C, oC)] := fun p hp => by rw [List.mem_singleton.mp hp]; exact ⟨hoC, hCL, hC₀⟩
    have hk0 : 0 ≤ k ∧ k ≤ 7 := (by decide : ∀ k ∈ ([7, 6, 5, 4, 3, 2, 1, 0] : List Int), 0 ≤ k ∧ k ≤ 7) k hk
    obtain ⟨hk1, hk2⟩ := hk0
    k_steps
    exact ⟨⟨_, rfl⟩, _, rfl⟩
  · intro D h tk zs F5 N5 hz
    have hz' : IntsAre zs (bitsOf ns) := hz
    clear hz
    have hbl := bitsOf_len ns
    have hzl := hz'.length
    have hzl2 : zs.length ≤ 48 := by omega
    replace N5 : News _ _ h [(D, W.listOf zs.toArray zs.length)] := N5
    k_steps
    (rename IntsAre _ _ => hW)
    obtain ⟨q, hq2, hpl⟩ := padQ6 hl
    rw [hzl] at hW
    replace hW : IntsAre _ (padB 6 ns) := hW
    have hWl := hW.length
    k_steps
    (rename List Value => ws)
    (rename IsRange _ _ _ _ _ _ _ _ => hrg)
    (rename News _ _ _ _ => N6)
    (rename Fr _ _ _ _ => F6)
    refine range_for (n := q) rfl hrg ?_ ?_ F6 N6 ?_ (fun pA i m o => o = W.listOf ws.toArray 0 ∧ m (Str.ofString "bits") = some (.ref pA) ∧ m (Str.ofString "signs") = some (.str sg t) ∧ m (Str.ofString "width") = some (.int 6 u) ∧ ∃ tx, m (Str.ofString "written") = some (.str (wrS sg 6 (padB 6 ns) i) tx)) ⟨rfl, rfl, rfl, rfl, _, rfl⟩ ?_ ?_
    · rw [hWl, hpl]; exact (small6 ⟨q, by omega⟩).1
    · rw [hWl, hpl]; exact (small6 ⟨q, by omega⟩).2
    · intro p hp b hb
      rw [List.mem_singleton.mp hb]
      simp only [List.mem_cons, List.not_mem_nil, or_false] at hp
      rcases hp with rfl | rfl | rfl <;> k_ne
    · intro i t5 m₁ o₁ h₁ tk₁ own hi hJ hO F₁ N₁
      obtain ⟨rfl, hm1, hm2, hm3, tx, hm4⟩ := hJ
      rw [fnorm4 _ _ _ _ hm1 hm2 hm3 hm4] at F₁
      k_steps
      (rename List Value => us)
      (rename IntsAre _ _ => hU)
      rw [slice_is (k := 6) hpl hi (by decide) rfl] at hU
      (rename News _ _ _ _ => N7)
      (rename Fr _ _ _ _ => F7)
      have hsl : ((padB 6 ns).drop (6 * i)).length ≥ 6 := by rw [List.length_drop, hpl]; omega
      have hUl := hU.length
      rw [List.length_take, Nat.min_eq_left hsl] at hUl
      have hub : ∀ b ∈ ((padB 6 ns).drop (6 * i)).take 6, b = 0 ∨ b = 1 := fun b hb => padB_bit 6 ns b (List.mem_of_mem_drop (List.mem_of_mem_take hb))
      have hwl := wrS_len sg 6 (padB 6 ns) i
      refine list_for (pA := _) (o₀ := W.listOf ws.toArray 0) (rest := (_, W.listOf us.toArray 0) :: own) rfl F7 (fun p hp => N7 p (mem_swap hp)) (List.Mem.head _) ?_
        (fun pA j m o => o = W.listOf ws.toArray 0 ∧ m (Str.ofString "bits") = some (.ref pA) ∧ m (Str.ofString "signs") = some (.str sg t) ∧ m (Str.ofString "width") = some (.int 6 u) ∧ m (Str.ofString "written") = some (.str (wrS sg 6 (padB 6 ns) i) tx) ∧ ∃ ty, m (Str.ofString "figure") = some (.int (((((padB 6 ns).drop (6 * i)).take 6).take j).foldl (fun a b => a * 2 + b) 0) ty)) ⟨rfl, rfl, rfl, rfl, rfl, _, rfl⟩ ?_ ?_
      · intro p hp b hb
        rw [List.mem_singleton.mp hb]
        rcases List.mem_cons.mp hp with rfl | hp
        · k_ne
        · exact hO p hp _ (List.mem_singleton.mpr rfl)
      · intro j v m₂ o₂ h₂ tk₂ own2 hj hv hJ hO2 F₃ N₃
        obtain ⟨rfl, hq1, hq2, hq3, hq4, ty, hq5⟩ := hJ
        rw [fnorm5 _ _ _ _ _ hq1 hq2 hq3 hq4 hq5] at F₃
        obtain ⟨b, tb, rfl, hbj⟩ := hU.at j v hv
        have hfb := fold64 (l := (((padB 6 ns).drop (6 * i)).take 6).take j) (fun b hb => hub b (List.mem_of_mem_take hb)) (by rw [List.length_take, List.length_take]; omega)
        have hft := fold_take hbj
        have hbb := hub b (List.mem_of_getElem? hbj)
        generalize (((((padB 6 ns).drop (6 * i)).take 6).take j).foldl (fun a b => a * 2 + b) 0) = fg at *
        k_steps
        exact ⟨_, _, _, _, rfl, by assumption, by assumption, rfl, rfl, rfl, rfl, rfl, _, by rw [hft]; rfl⟩
      · intro m₂ o₂ h₂ tk₂ hJ F₃ N₃
        obtain ⟨rfl, hq1, hq2, hq3, hq4, ty, hq5⟩ := hJ
        rw [hUl, List.take_of_length_le (by rw [List.length_take]; omega)] at hq5
        replace hq5 : m₂ (Str.ofString "figure") = some (.int (fig 6 (padB 6 ns) i) ty) := hq5
        rw [fnorm5 _ _ _ _ _ hq1 hq2 hq3 hq4 hq5] at F₃
        have hfb : 0 ≤ fig 6 (padB 6 ns) i ∧ fig 6 (padB 6 ns) i < 64 := fold64 hub (by rw [List.length_take]; omega)
        obtain ⟨hfb1, hfb2⟩ := hfb
        have hwl2 : (Txt.item sg (fig 6 (padB 6 ns) i)).length = 1 := len_item _ _
        k_steps
        exact ⟨_, _, _, _, rfl, by assumption, by (rename News _ _ _ _ => N9); exact fun p hp => N9 p (mem_drop2 hp), rfl, rfl, rfl, rfl, _, rfl⟩
    · intro m₂ o₂ h₂ tk₂ hJ F₃ N₃
      obtain ⟨rfl, hm1, hm2, hm3, tx, hm4⟩ := hJ
      rw [fnorm4 _ _ _ _ hm1 hm2 hm3 hm4] at F₃
      have hwl := wrS_len sg 6 (padB 6 ns) q
      have hq9 : (padB 6 ns).length / 6 = q := by omega
      unfold writ6 at hret
      rw [hq9] at hret
      k_steps
      exact hret _ _ _ (by assumption) (news_keeps N (by assumption)) (by assumption)
end
end Mine

namespace Mine
section
theorem written4 (w : World) (l : Addr) (vs : List Value) (ns : List Int) (sg : Str) (t u : Tok) (hI : IntsAre vs ns) (hr : ∀ n ∈ ns, 0 ≤ n ∧ n < 256) (hl : ns.length ≤ 6) (hl1 : 1 ≤ ns.length) (hs : sg.length = 16) :
    Ctr w 133 [.ref l, .str sg t, .int 4 u] [] (fun h => h.IsList l vs.toArray) 2 20 (fun t => .str (writ4 sg ns) t) := by
  w_top off; k_with_none
  k_with "exec Assign" => k_fold
  k_with "exec If" => k_fold
  k_with "exec Expr" => k_fold
  k_with "exec Return some" => k_fold
  k_with "eval BinOp" => k_fold
  k_with "eval Subscript" => k_fold
  k_with "eval Call" => k_fold
  k_with "eval IfExp" => k_fold
  k_with "eval List" => k_fold
  k_with "eval Compare" => k_fold
  k_with "isTrue Compare" => k_fold
  k_with "isTrue BoolOp" => k_fold
  k_with "isTrue UnaryOp" => k_fold
  k_with "call type:type" => ((with_reducible show wpAny _ _ (call _ [Value.bytes _ _]) _ _ _); refine type_bytes_call ?_)
  k_with "getMethod bytes" => first | with_reducible refine gm_upper ?_ | with_reducible refine gm_translate ?_ | with_reducible refine gm_hex ?_
  k_with "ints" => first | exact .nil | assumption | exact IntsAre.append (by assumption) (.cons _ _ .nil) | exact IntsAre.append (IntsAre.append (by assumption) (.cons _ _ .nil)) (.cons _ _ .nil) | exact IntsAre.append (IntsAre.append (IntsAre.append (by assumption) (.cons _ _ .nil)) (.cons _ _ .nil)) (.cons _ _ .nil)
  k_with "subscriptTail" => ((with_reducible show wpAny _ _ (subscriptTail _ _ (Value.bytes _ _) (Value.int (Builtin.bitAnd _ 63) _)) _ _ _); refine s_item (six_in _).1 (six_in _).2 ?_; intro _ _)
  k_with "size" => ((try dsimp only); (try simp only [List.push_toArray, List.size_toArray, List.length_append, List.length_cons, List.length_nil, PySem.sizeLine_eq]); omega)
  k_with "binaryOp LShift int int" => ((with_reducible show wpAny _ _ (binaryOp _ (Value.int (Builtin.bitAnd _ _) _) _) _ _ _); refine lshift_int_small (by decide) (by decide) (bit_small (by decide) (by decide)) ?_)
  k_with "subscriptTail" => ((with_reducible show wpAny _ _ (subscriptTail _ _ (Value.bytes _ _) (Value.int (Builtin.bitAnd _ 3 * _) _)) _ _ _); refine s_item (bit3 _).1 (bit3 _).2 ?_; intro _ _)
  k_with "subscriptTail" => ((with_reducible show wpAny _ _ (subscriptTail _ _ (Value.bytes _ _) (Value.int (Builtin.bitAnd _ 15 * _) _)) _ _ _); refine s_item (bit15 _).1 (bit15 _).2 ?_; intro _ _)
  k_with "getMethod str" => with_reducible refine gm_encode ?_
  k_with "call builtin:bytes.upper" => (refine call_upper (by size_fits) ?_; intro _ _)
  k_with "call builtin:bytes.hex" => (refine call_hex (by size_fits) ?_; intro _ _)
  k_with "call builtin:bytes.translate" => (refine call_translate (by decide +kernel) (by size_fits) ?_; intro _ _)
  k_with "call builtin:str.encode" => (refine call_encode (by first | assumption | exact hex_ascii _ | ktr_rel) (by size_fits) ?_; intro _ _)
  k_with "exec Assign cons ListComp" => (k_dflt (refine assign_comp2 (by k_asm) (by rfl) (by with_unfolding_all rfl) (by with_unfolding_all rfl) (by decide) (by rfl) (by decide) (by rfl) (by rfl) (by decide) (by rfl) (by rfl) ?_))
  k_with "exec For Name Call cons nil" => k_dflt (refine wpAny_For ?_)
  k_with "subscriptTail" => ((with_reducible show wpAny _ _ (subscriptTail _ _ (Value.str _ _) (Value.int _ _)) _ _ _); k_dflt (refine item_sm (by first | exact in64 (by assumption) (by assumption) (by assumption) | exact in16 (by assumption) (by assumption) (by assumption)) ?_); intro _)
  k_with "exec For Name Subscript cons nil" => k_dflt (refine wpAny_For ?_)
  k_with "call builtin:len" => ((with_reducible show wpAny _ _ (call (Value.builtin "len") [Value.ref _]) _ _ _); k_dflt (refine len_led (by k_asm) (by k_mem) (by omega) ?_))
  refine ⟨?_⟩; k_fill
  intro p loose mean mg mb dp un gd cn cs a ccd cl outer A₀ base h₀ L m news s Q E B F X N T hk hd hu hpre hret
  refine wpAny_call ?_
  refine enterP B F X T rfl rfl hk (by k_is) (by k_is) (by ktr_room) (BindsTo.of_eq rfl) (locs rfl) ?_ rfl rfl rfl (by decide)
  intro g' L' h' eg' F' N' B' X' T'
  subst eg'
  k_steps
  refine ⟨_, vs.toArray, ns, [7, 6, 5, 4, 3, 2, 1, 0], (fun o k => (o.fdiv (2 ^ k.toNat)).fmod 2), 48, rfl, rfl, by assumption, by assumption, hI, ?_, by omega, fun C x => rfl, ?_, ?_, ?_⟩
  · simp only [List.length_cons, List.length_nil]; omega
  · intro C I D s m' oI oC oD hoN F5 N5
    k_steps
    exact ⟨_, _, _, _, _, rfl, rfl, .cons _ _ (.cons _ _ (.cons _ _ (.cons _ _ (.cons _ _ (.cons _ _ (.cons _ _ (.cons _ _ .nil))))))), by assumption, by assumption, by k_all⟩
  · intro C s o to k tk m' hCL hC₀ ho hk hn hm0 hm1 F5
    obtain ⟨oC, hoC, hoN⟩ := LCg.ns_obj hn
    have N5 : News _ _ s.heap [(C, oC)] := fun p hp => by rw [List.mem_singleton.mp hp]; exact ⟨hoC, hCL, hC₀⟩
    have hk0 : 0 ≤ k ∧ k ≤ 7 := (by decide : ∀ k ∈ ([7, 6, 5, 4, 3, 2, 1, 0] : List Int), 0 ≤ k ∧ k ≤ 7) k hk
    obtain ⟨hk1, hk2⟩ := hk0
    k_steps
    exact ⟨⟨_, rfl⟩, _, rfl⟩
  · intro D h tk zs F5 N5 hz
    have hz' : IntsAre zs (bitsOf ns) := hz
    clear hz
    have hbl := bitsOf_len ns
    have hzl := hz'.length
    have hzl2 : zs.length ≤ 48 := by omega
    replace N5 : News _ _ h [(D, W.listOf zs.toArray zs.length)] := N5
    k_steps
    (rename IntsAre _ _ => hW)
    obtain ⟨q, hq2, hpl⟩ := padQ4 hl
    rw [hzl] at hW
    replace hW : IntsAre _ (padB 4 ns) := hW
    have hWl := hW.length
    k_steps
    (rename List Value => ws)
    (rename IsRange _ _ _ _ _ _ _ _ => hrg)
    (rename News _ _ _ _ => N6)
    (rename Fr _ _ _ _ => F6)
    refine range_for (n := q) rfl hrg ?_ ?_ F6 N6 ?_ (fun pA i m o => o = W.listOf ws.toArray 0 ∧ m (Str.ofString "bits") = some (.ref pA) ∧ m (Str.ofString "signs") = some (.str sg t) ∧ m (Str.ofString "width") = some (.int 4 u) ∧ ∃ tx, m (Str.ofString "written") = some (.str (wrS sg 4 (padB 4 ns) i) tx)) ⟨rfl, rfl, rfl, rfl, _, rfl⟩ ?_ ?_
    · rw [hWl, hpl]; exact (small4 ⟨q, by omega⟩).1
    · rw [hWl, hpl]; exact (small4 ⟨q, by omega⟩).2
    · intro p hp b hb
      rw [List.mem_singleton.mp hb]
      simp only [List.mem_cons, List.not_mem_nil, or_false] at hp
      rcases hp with rfl | rfl | rfl <;> k_ne
    · intro i t5 m₁ o₁ h₁ tk₁ own hi hJ hO F₁ N₁
      obtain ⟨rfl, hm1, hm2, hm3, tx, hm4⟩ := hJ
      rw [fnorm4 _ _ _ _ hm1 hm2 hm3 hm4] at F₁
      k_steps
      (rename List Value => us)
      (rename IntsAre _ _ => hU)
      rw [slice_is (k := 4) hpl hi (by decide) rfl] at hU
      (rename News _ _ _ _ => N7)
      (rename Fr _ _ _ _ => F7)
      have hsl : ((padB 4 ns).drop (4 * i)).length ≥ 4 := by rw [List.length_drop, hpl]; omega
      have hUl := hU.length
      rw [List.length_take, Nat.min_eq_left hsl] at hUl
      have hub : ∀ b ∈ ((padB 4 ns).drop (4 * i)).take 4, b = 0 ∨ b = 1 := fun b hb => padB_bit 4 ns b (List.mem_of_mem_drop (List.mem_of_mem_take hb))
      have hwl := wrS_len sg 4 (padB 4 ns) i
      refine list_for (pA := _) (o₀ := W.listOf ws.toArray 0) (rest := (_, W.listOf us.toArray 0) :: own) rfl F7 (fun p hp => N7 p (mem_swap hp)) (List.Mem.head _) ?_
        (fun pA j m o => o = W.listOf ws.toArray 0 ∧ m (Str.ofString "bits") = some (.ref pA) ∧ m (Str.ofString "signs") = some (.str sg t) ∧ m (Str.ofString "width") = some (.int 4 u) ∧ m (Str.ofString "written") = some (.str (wrS sg 4 (padB 4 ns) i) tx) ∧ ∃ ty, m (Str.ofString "figure") = some (.int (((((padB 4 ns).drop (4 * i)).take 4).take j).foldl (fun a b => a * 2 + b) 0) ty)) ⟨rfl, rfl, rfl, rfl, rfl, _, rfl⟩ ?_ ?_
      · intro p hp b hb
        rw [List.mem_singleton.mp hb]
        rcases List.mem_cons.mp hp with rfl | hp
        · k_ne
        · exact hO p hp _ (List.mem_singleton.mpr rfl)
      · intro j v m₂ o₂ h₂ tk₂ own2 hj hv hJ hO2 F₃ N₃
        obtain ⟨rfl, hq1, hq2, hq3, hq4, ty, hq5⟩ := hJ
        rw [fnorm5 _ _ _ _ _ hq1 hq2 hq3 hq4 hq5] at F₃
        obtain ⟨b, tb, rfl, hbj⟩ := hU.at j v hv
        have hfb := fold16 (l := (((padB 4 ns).drop (4 * i)).take 4).take j) (fun b hb => hub b (List.mem_of_mem_take hb)) (by rw [List.length_take, List.length_take]; omega)
        have hft := fold_take hbj
        have hbb := hub b (List.mem_of_getElem? hbj)
        generalize (((((padB 4 ns).drop (4 * i)).take 4).take j).foldl (fun a b => a * 2 + b) 0) = fg at *
        k_steps
        exact ⟨_, _, _, _, rfl, by assumption, by assumption, rfl, rfl, rfl, rfl, rfl, _, by rw [hft]; rfl⟩
      · intro m₂ o₂ h₂ tk₂ hJ F₃ N₃
        obtain ⟨rfl, hq1, hq2, hq3, hq4, ty, hq5⟩ := hJ
        rw [hUl, List.take_of_length_le (by rw [List.length_take]; omega)] at hq5
        replace hq5 : m₂ (Str.ofString "figure") = some (.int (fig 4 (padB 4 ns) i) ty) := hq5
        rw [fnorm5 _ _ _ _ _ hq1 hq2 hq3 hq4 hq5] at F₃
        have hfb : 0 ≤ fig 4 (padB 4 ns) i ∧ fig 4 (padB 4 ns) i < 16 := fold16 hub (by rw [List.length_take]; omega)
        obtain ⟨hfb1, hfb2⟩ := hfb
        have hwl2 : (Txt.item sg (fig 4 (padB 4 ns) i)).length = 1 := len_item _ _
        k_steps
        exact ⟨_, _, _, _, rfl, by assumption, by (rename News _ _ _ _ => N9); exact fun p hp => N9 p (mem_drop2 hp), rfl, rfl, rfl, rfl, _, rfl⟩
    · intro m₂ o₂ h₂ tk₂ hJ F₃ N₃
      obtain ⟨rfl, hm1, hm2, hm3, tx, hm4⟩ := hJ
      rw [fnorm4 _ _ _ _ hm1 hm2 hm3 hm4] at F₃
      have hwl := wrS_len sg 4 (padB 4 ns) q
      have hq9 : (padB 4 ns).length / 4 = q := by omega
      unfold writ4 at hret
      rw [hq9] at hret
      k_steps
      exact hret _ _ _ (by assumption) (news_keeps N (by assumption)) (by assumption)
end
end Mine

namespace Mine
section
theorem lam1 (w : World) (f c : Addr) (qual : Str) (pm ct : Value) (p1 p2 p3 p4 : Pos) (b : Array UInt8) (t : Tok) (hb : b.size ≤ 64) :
    Ctr w f [.bytes b t] [] (fun h => h.get? f = some (kla_obj (Str.ofString "<lambda>") qual { posonlyargs := [], args := [{ arg := Str.ofString "s", annotation := none, pos := p1 }], vararg := none, kwonlyargs := [], kw_defaults := [], kwarg := none, defaults := [] } ((Expr.Name (Str.ofString "b64encode") p2).Call [Expr.Name (Str.ofString "s") p3] [] p4) { kind := ScopeKind.function, names := [(Str.ofString "s", NameKind.local), (Str.ofString "b64encode", NameKind.globalImplicit)], isGenerator := false, isCoroutine := false } [] pm c ct) ∧ h.CodeRec (.ref c) qual) 5 50
      (fun t => .bytes (byteArr (w64 (KBw.bInts b))) t) := by
  w_top off; k_with_none
  k_with "exec Assign" => k_fold
  k_with "exec If" => k_fold
  k_with "exec Expr" => k_fold
  k_with "exec Return some" => k_fold
  k_with "eval BinOp" => k_fold
  k_with "eval Subscript" => k_fold
  k_with "eval Call" => k_fold
  k_with "eval IfExp" => k_fold
  k_with "eval List" => k_fold
  k_with "eval Compare" => k_fold
  k_with "isTrue Compare" => k_fold
  k_with "isTrue BoolOp" => k_fold
  k_with "isTrue UnaryOp" => k_fold
  k_with "call type:type" => ((with_reducible show wpAny _ _ (call _ [Value.bytes _ _]) _ _ _); refine type_bytes_call ?_)
  k_with "getMethod bytes" => first | with_reducible refine gm_upper ?_ | with_reducible refine gm_translate ?_ | with_reducible refine gm_hex ?_
  k_with "mine" => first | exact b64enc _ _ _ (by assumption)
  k_with "call ref" => ((k_dflt (refine Ctr.use (by k_extra "mine") (by k_asm) (by k_asm) (by k_asm) (by k_asm) (by k_asm) (by first | exact rfl | assumption) (by first | decide | ktr_room) (by first | decide | ktr_units) (by first | trivial | assumption | k_extra "pre") ?_)); intro t9 h9 tk9 F9 N9 K9; (try dsimp only); (try k_fold))
  k_with "ints" => first | exact .nil | assumption | exact IntsAre.append (by assumption) (.cons _ _ .nil) | exact IntsAre.append (IntsAre.append (by assumption) (.cons _ _ .nil)) (.cons _ _ .nil) | exact IntsAre.append (IntsAre.append (IntsAre.append (by assumption) (.cons _ _ .nil)) (.cons _ _ .nil)) (.cons _ _ .nil)
  k_with "subscriptTail" => ((with_reducible show wpAny _ _ (subscriptTail _ _ (Value.bytes _ _) (Value.int (Builtin.bitAnd _ 63) _)) _ _ _); refine s_item (six_in _).1 (six_in _).2 ?_; intro _ _)
  k_with "size" => ((try dsimp only); (try simp only [List.push_toArray, List.size_toArray, List.length_append, List.length_cons, List.length_nil, PySem.sizeLine_eq]); omega)
  k_with "binaryOp LShift int int" => ((with_reducible show wpAny _ _ (binaryOp _ (Value.int (Builtin.bitAnd _ _) _) _) _ _ _); refine lshift_int_small (by decide) (by decide) (bit_small (by decide) (by decide)) ?_)
  k_with "subscriptTail" => ((with_reducible show wpAny _ _ (subscriptTail _ _ (Value.bytes _ _) (Value.int (Builtin.bitAnd _ 3 * _) _)) _ _ _); refine s_item (bit3 _).1 (bit3 _).2 ?_; intro _ _)
  k_with "subscriptTail" => ((with_reducible show wpAny _ _ (subscriptTail _ _ (Value.bytes _ _) (Value.int (Builtin.bitAnd _ 15 * _) _)) _ _ _); refine s_item (bit15 _).1 (bit15 _).2 ?_; intro _ _)
  k_with "getMethod str" => with_reducible refine gm_encode ?_
  k_with "call builtin:bytes.upper" => (refine call_upper (by size_fits) ?_; intro _ _)
  k_with "call builtin:bytes.hex" => (refine call_hex (by size_fits) ?_; intro _ _)
  k_with "call builtin:bytes.translate" => (refine call_translate (by decide +kernel) (by size_fits) ?_; intro _ _)
  k_with "call builtin:str.encode" => (refine call_encode (by first | assumption | exact hex_ascii _ | ktr_rel) (by size_fits) ?_; intro _ _)
  refine ⟨?_⟩; k_fill
  intro p loose mean mg mb dp un gd cn cs a ccd cl outer A₀ base h₀ L m news s Q E B F X N T hk hd hu hpre hret
  refine wpAny_call ?_
  refine enterE B F X T rfl rfl hk hpre.1 hpre.2 (by ktr_room) (BindsTo.of_eq rfl) (locs rfl) ?_ rfl rfl rfl (by decide)
  intro g' L' h' eg' F' N' B' X' T'
  subst eg'
  k_steps
  exact hret _ _ _ (by assumption) (news_keeps N (by assumption)) (by assumption)
end
end Mine

namespace Mine
section
theorem lam2 (w : World) (f c : Addr) (qual : Str) (pm ct : Value) (p1 p2 p3 p4 : Pos) (b : Array UInt8) (t : Tok) (hb : b.size ≤ 64) :
    Ctr w f [.bytes b t] [] (fun h => h.get? f = some (kla_obj (Str.ofString "<lambda>") qual { posonlyargs := [], args := [{ arg := Str.ofString "s", annotation := none, pos := p1 }], vararg := none, kwonlyargs := [], kw_defaults := [], kwarg := none, defaults := [] } ((Expr.Name (Str.ofString "standard_b64encode") p2).Call [Expr.Name (Str.ofString "s") p3] [] p4) { kind := ScopeKind.function, names := [(Str.ofString "s", NameKind.local), (Str.ofString "standard_b64encode", NameKind.globalImplicit)], isGenerator := false, isCoroutine := false } [] pm c ct) ∧ h.CodeRec (.ref c) qual) 5 50
      (fun t => .bytes (byteArr (w64 (KBw.bInts b))) t) := by
  w_top off; k_with_none
  k_with "exec Assign" => k_fold
  k_with "exec If" => k_fold
  k_with "exec Expr" => k_fold
  k_with "exec Return some" => k_fold
  k_with "eval BinOp" => k_fold
  k_with "eval Subscript" => k_fold
  k_with "eval Call" => k_fold
  k_with "eval IfExp" => k_fold
  k_with "eval List" => k_fold
  k_with "eval Compare" => k_fold
  k_with "isTrue Compare" => k_fold
  k_with "isTrue BoolOp" => k_fold
  k_with "isTrue UnaryOp" => k_fold
  k_with "call type:type" => ((with_reducible show wpAny _ _ (call _ [Value.bytes _ _]) _ _ _); refine type_bytes_call ?_)
  k_with "getMethod bytes" => first | with_reducible refine gm_upper ?_ | with_reducible refine gm_translate ?_ | with_reducible refine gm_hex ?_
  k_with "mine" => first | exact stdenc _ _ _ (by assumption)
  k_with "call ref" => ((k_dflt (refine Ctr.use (by k_extra "mine") (by k_asm) (by k_asm) (by k_asm) (by k_asm) (by k_asm) (by first | exact rfl | assumption) (by first | decide | ktr_room) (by first | decide | ktr_units) (by first | trivial | assumption | k_extra "pre") ?_)); intro t9 h9 tk9 F9 N9 K9; (try dsimp only); (try k_fold))
  k_with "ints" => first | exact .nil | assumption | exact IntsAre.append (by assumption) (.cons _ _ .nil) | exact IntsAre.append (IntsAre.append (by assumption) (.cons _ _ .nil)) (.cons _ _ .nil) | exact IntsAre.append (IntsAre.append (IntsAre.append (by assumption) (.cons _ _ .nil)) (.cons _ _ .nil)) (.cons _ _ .nil)
  k_with "subscriptTail" => ((with_reducible show wpAny _ _ (subscriptTail _ _ (Value.bytes _ _) (Value.int (Builtin.bitAnd _ 63) _)) _ _ _); refine s_item (six_in _).1 (six_in _).2 ?_; intro _ _)
  k_with "size" => ((try dsimp only); (try simp only [List.push_toArray, List.size_toArray, List.length_append, List.length_cons, List.length_nil, PySem.sizeLine_eq]); omega)
  k_with "binaryOp LShift int int" => ((with_reducible show wpAny _ _ (binaryOp _ (Value.int (Builtin.bitAnd _ _) _) _) _ _ _); refine lshift_int_small (by decide) (by decide) (bit_small (by decide) (by decide)) ?_)
  k_with "subscriptTail" => ((with_reducible show wpAny _ _ (subscriptTail _ _ (Value.bytes _ _) (Value.int (Builtin.bitAnd _ 3 * _) _)) _ _ _); refine s_item (bit3 _).1 (bit3 _).2 ?_; intro _ _)
  k_with "subscriptTail" => ((with_reducible show wpAny _ _ (subscriptTail _ _ (Value.bytes _ _) (Value.int (Builtin.bitAnd _ 15 * _) _)) _ _ _); refine s_item (bit15 _).1 (bit15 _).2 ?_; intro _ _)
  k_with "getMethod str" => with_reducible refine gm_encode ?_
  k_with "call builtin:bytes.upper" => (refine call_upper (by size_fits) ?_; intro _ _)
  k_with "call builtin:bytes.hex" => (refine call_hex (by size_fits) ?_; intro _ _)
  k_with "call builtin:bytes.translate" => (refine call_translate (by decide +kernel) (by size_fits) ?_; intro _ _)
  k_with "call builtin:str.encode" => (refine call_encode (by first | assumption | exact hex_ascii _ | ktr_rel) (by size_fits) ?_; intro _ _)
  refine ⟨?_⟩; k_fill
  intro p loose mean mg mb dp un gd cn cs a ccd cl outer A₀ base h₀ L m news s Q E B F X N T hk hd hu hpre hret
  refine wpAny_call ?_
  refine enterE B F X T rfl rfl hk hpre.1 hpre.2 (by ktr_room) (BindsTo.of_eq rfl) (locs rfl) ?_ rfl rfl rfl (by decide)
  intro g' L' h' eg' F' N' B' X' T'
  subst eg'
  k_steps
  exact hret _ _ _ (by assumption) (news_keeps N (by assumption)) (by assumption)
end
end Mine

namespace Mine
section
theorem lam3 (w : World) (f c : Addr) (qual : Str) (pm ct : Value) (p1 p2 p3 p4 : Pos) (b : Array UInt8) (t : Tok) (hb : b.size ≤ 64) :
    Ctr w f [.bytes b t] [] (fun h => h.get? f = some (kla_obj (Str.ofString "<lambda>") qual { posonlyargs := [], args := [{ arg := Str.ofString "s", annotation := none, pos := p1 }], vararg := none, kwonlyargs := [], kw_defaults := [], kwarg := none, defaults := [] } ((Expr.Name (Str.ofString "urlsafe_b64encode") p2).Call [Expr.Name (Str.ofString "s") p3] [] p4) { kind := ScopeKind.function, names := [(Str.ofString "s", NameKind.local), (Str.ofString "urlsafe_b64encode", NameKind.globalImplicit)], isGenerator := false, isCoroutine := false } [] pm c ct) ∧ h.CodeRec (.ref c) qual) 5 50
      (fun t => .bytes (byteArr (w64u (KBw.bInts b))) t) := by
  w_top off; k_with_none
  k_with "exec Assign" => k_fold
  k_with "exec If" => k_fold
  k_with "exec Expr" => k_fold
  k_with "exec Return some" => k_fold
  k_with "eval BinOp" => k_fold
  k_with "eval Subscript" => k_fold
  k_with "eval Call" => k_fold
  k_with "eval IfExp" => k_fold
  k_with "eval List" => k_fold
  k_with "eval Compare" => k_fold
  k_with "isTrue Compare" => k_fold
  k_with "isTrue BoolOp" => k_fold
  k_with "isTrue UnaryOp" => k_fold
  k_with "call type:type" => ((with_reducible show wpAny _ _ (call _ [Value.bytes _ _]) _ _ _); refine type_bytes_call ?_)
  k_with "getMethod bytes" => first | with_reducible refine gm_upper ?_ | with_reducible refine gm_translate ?_ | with_reducible refine gm_hex ?_
  k_with "mine" => first | exact urlenc _ _ _ (by assumption)
  k_with "call ref" => ((k_dflt (refine Ctr.use (by k_extra "mine") (by k_asm) (by k_asm) (by k_asm) (by k_asm) (by k_asm) (by first | exact rfl | assumption) (by first | decide | ktr_room) (by first | decide | ktr_units) (by first | trivial | assumption | k_extra "pre") ?_)); intro t9 h9 tk9 F9 N9 K9; (try dsimp only); (try k_fold))
  k_with "ints" => first | exact .nil | assumption | exact IntsAre.append (by assumption) (.cons _ _ .nil) | exact IntsAre.append (IntsAre.append (by assumption) (.cons _ _ .nil)) (.cons _ _ .nil) | exact IntsAre.append (IntsAre.append (IntsAre.append (by assumption) (.cons _ _ .nil)) (.cons _ _ .nil)) (.cons _ _ .nil)
  k_with "subscriptTail" => ((with_reducible show wpAny _ _ (subscriptTail _ _ (Value.bytes _ _) (Value.int (Builtin.bitAnd _ 63) _)) _ _ _); refine s_item (six_in _).1 (six_in _).2 ?_; intro _ _)
  k_with "size" => ((try dsimp only); (try simp only [List.push_toArray, List.size_toArray, List.length_append, List.length_cons, List.length_nil, PySem.sizeLine_eq]); omega)
  k_with "binaryOp LShift int int" => ((with_reducible show wpAny _ _ (binaryOp _ (Value.int (Builtin.bitAnd _ _) _) _) _ _ _); refine lshift_int_small (by decide) (by decide) (bit_small (by decide) (by decide)) ?_)
  k_with "subscriptTail" => ((with_reducible show wpAny _ _ (subscriptTail _ _ (Value.bytes _ _) (Value.int (Builtin.bitAnd _ 3 * _) _)) _ _ _); refine s_item (bit3 _).1 (bit3 _).2 ?_; intro _ _)
  k_with "subscriptTail" => ((with_reducible show wpAny _ _ (subscriptTail _ _ (Value.bytes _ _) (Value.int (Builtin.bitAnd _ 15 * _) _)) _ _ _); refine s_item (bit15 _).1 (bit15 _).2 ?_; intro _ _)
  k_with "getMethod str" => with_reducible refine gm_encode ?_
  k_with "call builtin:bytes.upper" => (refine call_upper (by size_fits) ?_; intro _ _)
  k_with "call builtin:bytes.hex" => (refine call_hex (by size_fits) ?_; intro _ _)
  k_with "call builtin:bytes.translate" => (refine call_translate (by decide +kernel) (by size_fits) ?_; intro _ _)
  k_with "call builtin:str.encode" => (refine call_encode (by first | assumption | exact hex_ascii _ | ktr_rel) (by size_fits) ?_; intro _ _)
  refine ⟨?_⟩; k_fill
  intro p loose mean mg mb dp un gd cn cs a ccd cl outer A₀ base h₀ L m news s Q E B F X N T hk hd hu hpre hret
  refine wpAny_call ?_
  refine enterE B F X T rfl rfl hk hpre.1 hpre.2 (by ktr_room) (BindsTo.of_eq rfl) (locs rfl) ?_ rfl rfl rfl (by decide)
  intro g' L' h' eg' F' N' B' X' T'
  subst eg'
  k_steps
  exact hret _ _ _ (by assumption) (news_keeps N (by assumption)) (by assumption)
end
end Mine

namespace Mine
section
theorem lam4 (w : World) (f c : Addr) (qual : Str) (pm ct : Value) (p1 p2 p3 p4 : Pos) (b : Array UInt8) (t : Tok) (hb : b.size ≤ 64) :
    Ctr w f [.bytes b t] [] (fun h => h.get? f = some (kla_obj (Str.ofString "<lambda>") qual { posonlyargs := [], args := [{ arg := Str.ofString "s", annotation := none, pos := p1 }], vararg := none, kwonlyargs := [], kw_defaults := [], kwarg := none, defaults := [] } ((Expr.Name (Str.ofString "b16encode") p2).Call [Expr.Name (Str.ofString "s") p3] [] p4) { kind := ScopeKind.function, names := [(Str.ofString "s", NameKind.local), (Str.ofString "b16encode", NameKind.globalImplicit)], isGenerator := false, isCoroutine := false } [] pm c ct) ∧ h.CodeRec (.ref c) qual) 5 50
      (fun t => .bytes (byteArr (w16 (KBw.bInts b))) t) := by
  w_top off; k_with_none
  k_with "exec Assign" => k_fold
  k_with "exec If" => k_fold
  k_with "exec Expr" => k_fold
  k_with "exec Return some" => k_fold
  k_with "eval BinOp" => k_fold
  k_with "eval Subscript" => k_fold
  k_with "eval Call" => k_fold
  k_with "eval IfExp" => k_fold
  k_with "eval List" => k_fold
  k_with "eval Compare" => k_fold
  k_with "isTrue Compare" => k_fold
  k_with "isTrue BoolOp" => k_fold
  k_with "isTrue UnaryOp" => k_fold
  k_with "call type:type" => ((with_reducible show wpAny _ _ (call _ [Value.bytes _ _]) _ _ _); refine type_bytes_call ?_)
  k_with "getMethod bytes" => first | with_reducible refine gm_upper ?_ | with_reducible refine gm_translate ?_ | with_reducible refine gm_hex ?_
  k_with "mine" => first | exact b16enc _ _ _ (by assumption)
  k_with "call ref" => ((k_dflt (refine Ctr.use (by k_extra "mine") (by k_asm) (by k_asm) (by k_asm) (by k_asm) (by k_asm) (by first | exact rfl | assumption) (by first | decide | ktr_room) (by first | decide | ktr_units) (by first | trivial | assumption | k_extra "pre") ?_)); intro t9 h9 tk9 F9 N9 K9; (try dsimp only); (try k_fold))
  k_with "ints" => first | exact .nil | assumption | exact IntsAre.append (by assumption) (.cons _ _ .nil) | exact IntsAre.append (IntsAre.append (by assumption) (.cons _ _ .nil)) (.cons _ _ .nil) | exact IntsAre.append (IntsAre.append (IntsAre.append (by assumption) (.cons _ _ .nil)) (.cons _ _ .nil)) (.cons _ _ .nil)
  k_with "subscriptTail" => ((with_reducible show wpAny _ _ (subscriptTail _ _ (Value.bytes _ _) (Value.int (Builtin.bitAnd _ 63) _)) _ _ _); refine s_item (six_in _).1 (six_in _).2 ?_; intro _ _)
  k_with "size" => ((try dsimp only); (try simp only [List.push_toArray, List.size_toArray, List.length_append, List.length_cons, List.length_nil, PySem.sizeLine_eq]); omega)
  k_with "binaryOp LShift int int" => ((with_reducible show wpAny _ _ (binaryOp _ (Value.int (Builtin.bitAnd _ _) _) _) _ _ _); refine lshift_int_small (by decide) (by decide) (bit_small (by decide) (by decide)) ?_)
  k_with "subscriptTail" => ((with_reducible show wpAny _ _ (subscriptTail _ _ (Value.bytes _ _) (Value.int (Builtin.bitAnd _ 3 * _) _)) _ _ _); refine s_item (bit3 _).1 (bit3 _).2 ?_; intro _ _)
  k_with "subscriptTail" => ((with_reducible show wpAny _ _ (subscriptTail _ _ (Value.bytes _ _) (Value.int (Builtin.bitAnd _ 15 * _) _)) _ _ _); refine s_item (bit15 _).1 (bit15 _).2 ?_; intro _ _)
  k_with "getMethod str" => with_reducible refine gm_encode ?_
  k_with "call builtin:bytes.upper" => (refine call_upper (by size_fits) ?_; intro _ _)
  k_with "call builtin:bytes.hex" => (refine call_hex (by size_fits) ?_; intro _ _)
  k_with "call builtin:bytes.translate" => (refine call_translate (by decide +kernel) (by size_fits) ?_; intro _ _)
  k_with "call builtin:str.encode" => (refine call_encode (by first | assumption | exact hex_ascii _ | ktr_rel) (by size_fits) ?_; intro _ _)
  refine ⟨?_⟩; k_fill
  intro p loose mean mg mb dp un gd cn cs a ccd cl outer A₀ base h₀ L m news s Q E B F X N T hk hd hu hpre hret
  refine wpAny_call ?_
  refine enterE B F X T rfl rfl hk hpre.1 hpre.2 (by ktr_room) (BindsTo.of_eq rfl) (locs rfl) ?_ rfl rfl rfl (by decide)
  intro g' L' h' eg' F' N' B' X' T'
  subst eg'
  k_steps
  exact hret _ _ _ (by assumption) (news_keeps N (by assumption)) (by assumption)
end
end Mine

namespace Mine
section
/-- the signs of a row -/
noncomputable def rowL (n : Int) : List Nat := (signs n 10).flatMap (·.cps.toList)
theorem rowS_cps (n : Int) : (rowS n).cps.toList = rowL n := glued_cps _
noncomputable def listL (l : List Int) (n : Nat) : List Nat := (List.range n).flatMap fun j => rowL (l.getD (2 * j) 0 * 256 + l.getD (2 * j + 1) 0)
theorem listS_cps (l : List Int) (n : Nat) : (listS l n).cps.toList = listL l n := by
  unfold listS
  rw [glued_cps]
  unfold rowsN listL
  rw [List.flatMap_map]
  congr 1
  funext j
  exact rowS_cps _
noncomputable def zints (l : List Nat) : List Int := l.map fun c : Nat => (c : Int)
noncomputable def nx (Wf : List Int → List Int) (k n2 : Nat) (l : List Nat) : List Nat := listL (Wf (zints (l.take k))) n2
noncomputable def NX (Wf : List Int → List Int) (k n2 : Nat) (x : Str) : Str := listS (Wf (zints (x.cps.toList.take k))) n2
theorem NX_cps (Wf : List Int → List Int) (k n2 : Nat) (x : Str) : (NX Wf k n2 x).cps.toList = nx Wf k n2 x.cps.toList := listS_cps _ _
theorem rowL_len (n : Int) : (rowL n).length = 10 := by rw [← rowS_cps]; exact rowS_len n
theorem pick_asc {n : Int} {z : Bool} : ∀ {es : List Ent}, (∀ e ∈ es, ∀ c ∈ (Str.ofString e.sg).cps.toList, c < 128) → ∀ c ∈ (pick n z es).cps.toList, c < 128
  | [], _ => by
    unfold pick
    split <;> decide
  | e :: r, h => by
    unfold pick
    by_cases hh : (if z then Builtin.bitAnd n 61440 else Builtin.bitAnd n e.bit) = e.bit
    · rw [if_pos hh]; exact h e (List.mem_cons_self ..)
    · rw [if_neg hh]; exact pick_asc fun e he => h e (List.mem_cons_of_mem _ he)
theorem tabs_asc : ∀ p ∈ tabs, ∀ e ∈ p.2, ∀ c ∈ (Str.ofString e.sg).cps.toList, c < 128 := by decide
theorem signs_asc (n : Int) : ∀ i, ∀ s ∈ signs n i, ∀ c ∈ s.cps.toList, c < 128
  | 0 => by intro s hs; cases hs
  | i + 1 => by
    intro s hs
    unfold signs at hs
    rcases List.mem_append.mp hs with hs | hs
    · exact signs_asc n i s hs
    · rw [List.mem_singleton.mp hs]
      refine pick_asc ?_
      cases h : tabs[i]? with
      | none => intro e he; simp at he
      | some p => intro e he; exact tabs_asc p (List.mem_of_getElem? h) e he
theorem rowL_asc (n : Int) : ∀ c ∈ rowL n, c < 128 := by
  intro c hc
  obtain ⟨s, hs, hc⟩ := List.mem_flatMap.mp hc
  exact signs_asc n 10 s hs c hc
theorem listL_asc (l : List Int) (n : Nat) : ∀ c ∈ listL l n, c < 128 := by
  intro c hc
  obtain ⟨j, _, hc⟩ := List.mem_flatMap.mp hc
  exact rowL_asc _ c hc
theorem slice_cps (x : Str) (k : Nat) (h : k ≤ x.length) : (Txt.slice x none (some (k : Int))).cps.toList = x.cps.toList.take k := by
  have e := eq_of_beq (slice_closes_to (x := x) (j := k) ⟨by omega, by simpa [Str.length] using h⟩)
  rw [e]
  simp
theorem bInts_asc (x : Str) (h : ∀ c ∈ x.cps.toList, c < 128) : KBw.bInts (asc x) = zints x.cps.toList := by
  unfold asc
  show (((x.cps.map (·.toUInt8)).toList).map fun c => ((c.toNat : Nat) : Int)) = _
  rw [Array.toList_map, List.map_map]
  unfold zints
  refine List.map_congr_left fun c hc => ?_
  have := h c hc
  show (((c.toUInt8).toNat : Nat) : Int) = (c : Int)
  have e : (c.toUInt8).toNat = c := by
    show (UInt8.ofNat c).toNat = c
    rw [UInt8.toNat_ofNat']; omega
  rw [e]
theorem zints_in {l : List Nat} (h : ∀ c ∈ l, c < 128) : ∀ n ∈ zints l, 0 ≤ n ∧ n < 128 := by
  intro n hn
  obtain ⟨c, hc, rfl⟩ := List.mem_map.mp hn
  have := h c hc
  omega
/-- what a way's writer writes -/
structure Wr (Wf : List Int → List Int) (k n2 : Nat) : Prop where
  len : ∀ l, l.length = k → (Wf l).length = 2 * n2
  rng : ∀ l, (∀ n ∈ l, 0 ≤ n ∧ n < 256) → KBa.In (Wf l)
  k10 : k ≤ 10
  n1 : 1 ≤ n2
  n32 : n2 ≤ 32
theorem NX_len {Wf : List Int → List Int} {k n2 : Nat} (x : Str) : (NX Wf k n2 x).length = 10 * n2 := listS_len _ _
theorem NX_asc {Wf : List Int → List Int} {k n2 : Nat} (x : Str) : ∀ c ∈ (NX Wf k n2 x).cps.toList, c < 128 := by
  rw [NX_cps]; exact listL_asc _ _
theorem step_of {w : World} {f : Addr} {pre : Heap → Prop} {Wf : List Int → List Int} {k n2 : Nat} (hw : Wr Wf k n2)
    (hC : ∀ b t, b.size ≤ 64 → Ctr w f [.bytes b t] [] pre 5 50 (fun t => .bytes (byteArr (Wf (KBw.bInts b))) t)) (due x : Str) (hx : ∀ c ∈ x.cps.toList, c < 128) (hl : 10 ≤ x.length) (hd : 10 ≤ due.length) {t u : Bool}
    (ht : ((nx Wf k n2 x.cps.toList).take 10 == due.cps.toList.take 10) = t) (hu : (nx Wf k n2 x.cps.toList == due.cps.toList) = u) : Step w f pre (k : Int) due x (NX Wf k n2 x) t u := by
  have hk := hw.k10
  have hn := hw.n1
  have hn' := hw.n32
  have hs := slice_cps x k (by omega)
  have hsz : (Txt.slice x none (some (k : Int))).cps.size = k := by
    have := congrArg List.length hs
    rw [List.length_take] at this
    have e : x.cps.toList.length = x.length := by simp [Str.length]
    simp only [Array.length_toList] at this e
    omega
  have ha : ∀ c ∈ (Txt.slice x none (some (k : Int))).cps.toList, c < 128 := by
    rw [hs]; exact fun c hc => hx c (List.mem_of_mem_take hc)
  have hb := bInts_asc _ ha
  rw [hs] at hb
  have hin := zints_in (l := x.cps.toList.take k) fun c hc => hx c (List.mem_of_mem_take hc)
  have hin' : ∀ n ∈ zints (x.cps.toList.take k), 0 ≤ n ∧ n < 256 := fun n hn => by have := hin n hn; omega
  have hlen : (zints (x.cps.toList.take k)).length = k := by
    unfold zints
    rw [List.length_map, ← hs, Array.length_toList]; exact hsz
  have hWl := hw.len _ hlen
  have hWi := hw.rng _ hin'
  refine ⟨asc _, byteArr (Wf (zints (x.cps.toList.take k))), ⟨ha, by omega, rfl⟩, fun t => ?_, fun t => ?_, ?_, ?_, ?_⟩
  · have := hC (asc (Txt.slice x none (some (k : Int)))) t (by rw [asc_size]; omega)
    rw [hb] at this
    exact this
  · have hbs : (byteArr (Wf (zints (x.cps.toList.take k)))).size = 2 * n2 := by
      rw [← hWl]; unfold byteArr; simp
    have := listed w (byteArr (Wf (zints (x.cps.toList.take k)))) t n2 hbs hn'
    rw [KBa.ints_make hWi] at this
    exact this
  · show ((Txt.slice (NX Wf k n2 x) none (some ((10 : Nat) : Int))).cps.toList == (Txt.slice due none (some ((10 : Nat) : Int))).cps.toList) = t
    rw [slice_cps _ _ (by rw [NX_len]; omega), slice_cps _ _ hd, NX_cps]
    exact ht
  · show ((NX Wf k n2 x).cps.toList == due.cps.toList) = u
    rw [NX_cps]; exact hu
  · rw [NX_len]; omega
theorem nx_take (Wf : List Int → List Int) {k n2 : Nat} (hk : k ≤ 10) (l : List Nat) : nx Wf k n2 (l.take 10) = nx Wf k n2 l := by
  unfold nx
  rw [List.take_take, Nat.min_eq_left hk]
/-- the chain's tests -/
noncomputable def chk (Wf : List Int → List Int) (k n2 : Nat) (due r2 : List Nat) (j : Int) : Bool :=
  (r2 == due.take 10) == decide (j ≤ 0) &&
  (((nx Wf k n2 r2).take 10 == due.take 10) == decide (j ≤ 1) && ((nx Wf k n2 r2 == due) == decide (j ≤ 0) &&
  (((nx Wf k n2 (nx Wf k n2 r2)).take 10 == due.take 10) == decide (j ≤ 2) && ((nx Wf k n2 (nx Wf k n2 r2) == due) == decide (j ≤ 1) &&
  (((nx Wf k n2 (nx Wf k n2 (nx Wf k n2 r2))).take 10 == due.take 10) == decide (j ≤ 3) && (nx Wf k n2 (nx Wf k n2 (nx Wf k n2 r2)) == due) == decide (j ≤ 2))))))
theorem four_of {w : World} {f : Addr} {pre : Heap → Prop} {Wf : List Int → List Int} {k n2 : Nat} (hw : Wr Wf k n2)
    (hC : ∀ b t, b.size ≤ 64 → Ctr w f [.bytes b t] [] pre 5 50 (fun t => .bytes (byteArr (Wf (KBw.bInts b))) t)) (due x : Str) (hx : ∀ c ∈ x.cps.toList, c < 128) (hl : 10 ≤ x.length) (hd : 10 ≤ due.length) (r2 : List Nat) (j : Int)
    (hr : (nx Wf k n2 x.cps.toList).take 10 = r2) (hj : chk Wf k n2 due.cps.toList r2 j = true) : Four w f pre (k : Int) due x j := by
  unfold chk at hj
  simp only [Bool.and_eq_true, beq_iff_eq] at hj
  obtain ⟨a2, a3, b3, a4, b4, a5, b5⟩ := hj
  subst hr
  simp only [nx_take Wf hw.k10] at a3 b3 a4 b4 a5 b5
  have hn := hw.n1
  refine ⟨NX Wf k n2 x, NX Wf k n2 (NX Wf k n2 x), NX Wf k n2 (NX Wf k n2 (NX Wf k n2 x)), NX Wf k n2 (NX Wf k n2 (NX Wf k n2 (NX Wf k n2 x))), _, step_of hw hC due x hx hl hd a2 rfl, ?_, ?_, ?_⟩
  · exact step_of hw hC due _ (NX_asc x) (by rw [NX_len]; omega) hd (by rw [NX_cps]; exact a3) (by rw [NX_cps]; exact b3)
  · exact step_of hw hC due _ (NX_asc _) (by rw [NX_len]; omega) hd (by rw [NX_cps, NX_cps]; exact a4) (by rw [NX_cps, NX_cps]; exact b4)
  · exact step_of hw hC due _ (NX_asc _) (by rw [NX_len]; omega) hd (by rw [NX_cps, NX_cps, NX_cps]; exact a5) (by rw [NX_cps, NX_cps, NX_cps]; exact b5)
end
end Mine

namespace Mine
section
theorem w64_even : ∀ (l : List Int), (w64 l).length = 4 * ((l.length + 2) / 3)
  | a :: b :: c :: r => by
    have := w64_even r
    unfold w64
    simp only [List.length_cons, this]
    omega
  | [a, b] => by simp [w64]
  | [a] => by simp [w64]
  | [] => rfl
theorem w64_rng (l : List Int) : KBa.In (w64 l) := fun n hn => by have := w64_in l n hn; omega
theorem ut_in {n : Int} (h : 0 ≤ n ∧ n < 128) : 0 ≤ ut n ∧ ut n < 256 := by
  unfold ut
  split
  · decide
  · split
    · decide
    · omega
theorem w64u_rng (l : List Int) : KBa.In (w64u l) := fun n hn => by
  obtain ⟨m, hm, rfl⟩ := List.mem_map.mp hn
  exact ut_in (w64_in l m hm)
theorem w16_len : ∀ (l : List Int), (w16 l).length = 2 * l.length
  | [] => rfl
  | a :: r => by
    have := w16_len r
    unfold w16 at *
    rw [List.flatMap_cons, List.length_append, this]
    simp only [List.length_cons, List.length_nil]; omega
theorem hx_in {n : Int} (h : 0 ≤ n) (h' : n < 16) : 0 ≤ hx n ∧ hx n < 128 := by
  unfold hx; split <;> omega
theorem w16_rng {l : List Int} (h : ∀ n ∈ l, 0 ≤ n ∧ n < 256) : ∀ n ∈ w16 l, 0 ≤ n ∧ n < 128 := by
  intro n hn
  obtain ⟨c, hc, hn⟩ := List.mem_flatMap.mp hn
  have := h c hc
  simp only [List.mem_cons, List.not_mem_nil, or_false] at hn
  rcases hn with rfl | rfl
  · exact hx_in (by omega) (by omega)
  · exact hx_in (by omega) (by omega)
theorem wr64 : Wr w64 9 6 where
  len := fun l h => by rw [w64_even, h]
  rng := fun l _ => w64_rng l
  k10 := by decide
  n1 := by decide
  n32 := by decide
theorem wr64u : Wr w64u 9 6 where
  len := fun l h => by unfold w64u; rw [List.length_map, w64_even, h]
  rng := fun l _ => w64u_rng l
  k10 := by decide
  n1 := by decide
  n32 := by decide
theorem wr16 : Wr w16 10 10 where
  len := fun l h => by rw [w16_len, h]
  rng := fun l h n hn => by have := w16_rng h n hn; omega
  k10 := by decide
  n1 := by decide
  n32 := by decide
noncomputable def sixty : String := "?--xrwx--x?--xrw-r--br-x--s---d--Srw--wtbr-x--S-wx?--xrw-r--"
noncomputable def hundred : String := "?r-x---rwT?r--rwS-wT?--x---r-T?r--rws--T?--x---r-T?--x---r-T?--x---r-T?r--rwS-wT?r--rwSrwt?r--rwSr--"
noncomputable def late2 (a b : Nat) : Int := if a = 63 ∧ b = 45 then 0 else if a = 63 ∨ a = 100 then 1 else 2
noncomputable def late1 (a : Nat) : Int := if a = 63 then 0 else if a = 63 ∨ a = 100 then 1 else 2
noncomputable def r64 (a b : Nat) : List Nat := rowL (S ((a : Int) / 4) * 256 + S ((a : Int) % 4 * 16 + (b : Int) / 16))
noncomputable def r64u (a b : Nat) : List Nat := rowL (ut (S ((a : Int) / 4)) * 256 + ut (S ((a : Int) % 4 * 16 + (b : Int) / 16)))
noncomputable def r16 (a : Nat) : List Nat := rowL (hx ((a : Int) / 16) * 256 + hx ((a : Int) % 16))
theorem chk64 : ∀ a ∈ [63, 98, 99, 100], ∀ b ∈ [45, 114], chk w64 9 6 (Str.ofString sixty).cps.toList (r64 a b) (late2 a b) = true := by decide +kernel
theorem chk64u : ∀ a ∈ [63, 98, 99, 100], ∀ b ∈ [45, 114], chk w64u 9 6 (Str.ofString sixty).cps.toList (r64u a b) (late2 a b) = true := by decide +kernel
theorem chk16 : ∀ a ∈ [63, 100], chk w16 10 10 (Str.ofString hundred).cps.toList (r16 a) (late1 a) = true := by decide +kernel
end
end Mine

namespace Mine
section
/-- a bit -/
noncomputable abbrev Bt (x : Int) (k : Nat) : Int := (x.fdiv (2 ^ k)).fmod 2
theorem bt_is (x : Int) (k : Nat) : Bt x k = x / 2 ^ k % 2 := by
  unfold Bt
  rw [Int.fdiv_eq_ediv_of_nonneg _ (Int.le_of_lt (Int.pow_pos (by decide))), Int.fmod_eq_emod_of_nonneg _ (by decide)]
theorem q1 {a : Int} (ha : Oc a) : ((((((0 * 2 + Bt a 7) * 2 + Bt a 6) * 2 + Bt a 5) * 2 + Bt a 4) * 2 + Bt a 3) * 2 + Bt a 2) = a / 4 := by256 (P := fun a => ((((((0 * 2 + Bt a 7) * 2 + Bt a 6) * 2 + Bt a 5) * 2 + Bt a 4) * 2 + Bt a 3) * 2 + Bt a 2) = a / 4) (by simp only [bt_is]; decide +kernel) ha
theorem q4 {a : Int} (ha : Oc a) : ((((((0 * 2 + Bt a 5) * 2 + Bt a 4) * 2 + Bt a 3) * 2 + Bt a 2) * 2 + Bt a 1) * 2 + Bt a 0) = a % 64 := by256 (P := fun a => ((((((0 * 2 + Bt a 5) * 2 + Bt a 4) * 2 + Bt a 3) * 2 + Bt a 2) * 2 + Bt a 1) * 2 + Bt a 0) = a % 64) (by simp only [bt_is]; decide +kernel) ha
theorem q2z {a : Int} (ha : Oc a) : ((((((0 * 2 + Bt a 1) * 2 + Bt a 0) * 2 + 0) * 2 + 0) * 2 + 0) * 2 + 0) = a % 4 * 16 := by256 (P := fun a => ((((((0 * 2 + Bt a 1) * 2 + Bt a 0) * 2 + 0) * 2 + 0) * 2 + 0) * 2 + 0) = a % 4 * 16) (by simp only [bt_is]; decide +kernel) ha
theorem q3z {a : Int} (ha : Oc a) : ((((((0 * 2 + Bt a 3) * 2 + Bt a 2) * 2 + Bt a 1) * 2 + Bt a 0) * 2 + 0) * 2 + 0) = a % 16 * 4 := by256 (P := fun a => ((((((0 * 2 + Bt a 3) * 2 + Bt a 2) * 2 + Bt a 1) * 2 + Bt a 0) * 2 + 0) * 2 + 0) = a % 16 * 4) (by simp only [bt_is]; decide +kernel) ha
theorem r1 {a : Int} (ha : Oc a) : ((((0 * 2 + Bt a 7) * 2 + Bt a 6) * 2 + Bt a 5) * 2 + Bt a 4) = a / 16 := by256 (P := fun a => ((((0 * 2 + Bt a 7) * 2 + Bt a 6) * 2 + Bt a 5) * 2 + Bt a 4) = a / 16) (by simp only [bt_is]; decide +kernel) ha
theorem r2 {a : Int} (ha : Oc a) : ((((0 * 2 + Bt a 3) * 2 + Bt a 2) * 2 + Bt a 1) * 2 + Bt a 0) = a % 16 := by256 (P := fun a => ((((0 * 2 + Bt a 3) * 2 + Bt a 2) * 2 + Bt a 1) * 2 + Bt a 0) = a % 16) (by simp only [bt_is]; decide +kernel) ha
theorem lo2 {a : Int} (ha : Oc a) : ((0 * 2 + Bt a 1) * 2 + Bt a 0) = a % 4 := by256 (P := fun a => ((0 * 2 + Bt a 1) * 2 + Bt a 0) = a % 4) (by simp only [bt_is]; decide +kernel) ha
theorem hi2 {a : Int} (ha : Oc a) : ((0 * 2 + Bt a 7) * 2 + Bt a 6) = a / 64 := by256 (P := fun a => ((0 * 2 + Bt a 7) * 2 + Bt a 6) = a / 64) (by simp only [bt_is]; decide +kernel) ha
theorem q2 {a b : Int} (ha : Oc a) (hb : Oc b) : ((((((0 * 2 + Bt a 1) * 2 + Bt a 0) * 2 + Bt b 7) * 2 + Bt b 6) * 2 + Bt b 5) * 2 + Bt b 4) = a % 4 * 16 + b / 16 := by
  rw [← lo2 ha, ← r1 hb]
  generalize Bt a 1 = x1, Bt a 0 = x2, Bt b 7 = y1, Bt b 6 = y2, Bt b 5 = y3, Bt b 4 = y4
  omega
theorem q3 {a b : Int} (ha : Oc a) (hb : Oc b) : ((((((0 * 2 + Bt a 3) * 2 + Bt a 2) * 2 + Bt a 1) * 2 + Bt a 0) * 2 + Bt b 7) * 2 + Bt b 6) = a % 16 * 4 + b / 64 := by
  rw [← r2 ha, ← hi2 hb]
  generalize Bt a 3 = x1, Bt a 2 = x2, Bt a 1 = x3, Bt a 0 = x4, Bt b 7 = y1, Bt b 6 = y2
  omega
theorem n1 {a : Int} (ha : Oc a) : 0 ≤ a / 4 ∧ a / 4 < 64 := by have := ha.1; have := ha.2; omega
theorem n2 (a : Int) {b : Int} (hb : Oc b) : 0 ≤ a % 4 * 16 + b / 16 ∧ a % 4 * 16 + b / 16 < 64 := by have := hb.1; have := hb.2; omega
theorem n3 (a : Int) {b : Int} (hb : Oc b) : 0 ≤ a % 16 * 4 + b / 64 ∧ a % 16 * 4 + b / 64 < 64 := by have := hb.1; have := hb.2; omega
theorem n4 (a : Int) : 0 ≤ a % 64 ∧ a % 64 < 64 := by omega
theorem n2z (a : Int) : 0 ≤ a % 4 * 16 ∧ a % 4 * 16 < 64 := by omega
theorem n3z (a : Int) : 0 ≤ a % 16 * 4 ∧ a % 16 * 4 < 64 := by omega
theorem m1 {a : Int} (ha : Oc a) : 0 ≤ a / 16 ∧ a / 16 < 16 := by have := ha.1; have := ha.2; omega
theorem m2 (a : Int) : 0 ≤ a % 16 ∧ a % 16 < 16 := by omega
/-- the figures of six bits -/
noncomputable def fg6 : List Int → List Int
  | a :: b :: c :: r => (a / 4) :: (a % 4 * 16 + b / 16) :: (b % 16 * 4 + c / 64) :: (c % 64) :: fg6 r
  | [a, b] => [a / 4, a % 4 * 16 + b / 16, b % 16 * 4]
  | [a] => [a / 4, a % 4 * 16]
  | [] => []
theorem cons2 {x y : Int} {l m : List Int} (h : x = y) (k : l = m) : x :: l = y :: m := by rw [h, k]
noncomputable def F6 (ns : List Int) : List Int := (List.range ((padB 6 ns).length / 6)).map (fig 6 (padB 6 ns))
theorem f6_1 {a : Int} (ha : Oc a) : F6 [a] = fg6 [a] := by
  have hp : padB 6 [a] = bitsOf [a] ++ ([0, 0, 0, 0] : List Int) := by
    unfold padB
    rw [show (bitsOf [a]).length = 8 from rfl]
    rfl
  unfold F6
  rw [hp, show List.length (bitsOf [a] ++ ([0, 0, 0, 0] : List Int)) = 12 from rfl]
  exact cons2 (q1 ha) (cons2 (q2z ha) rfl)
theorem f6_2 {a b : Int} (ha : Oc a) (hb : Oc b) : F6 [a, b] = fg6 [a, b] := by
  have hp : padB 6 [a, b] = bitsOf [a, b] ++ ([0, 0] : List Int) := by
    unfold padB
    rw [show (bitsOf [a, b]).length = 16 from rfl]
    rfl
  unfold F6
  rw [hp, show List.length (bitsOf [a, b] ++ ([0, 0] : List Int)) = 18 from rfl]
  exact cons2 (q1 ha) (cons2 (q2 ha hb) (cons2 (q3z hb) rfl))
theorem f6_3 {a b c : Int} (ha : Oc a) (hb : Oc b) (hc : Oc c) : F6 [a, b, c] = fg6 [a, b, c] := by
  have hp : padB 6 [a, b, c] = bitsOf [a, b, c] ++ ([] : List Int) := by
    unfold padB
    rw [show (bitsOf [a, b, c]).length = 24 from rfl]
    rfl
  unfold F6
  rw [hp, show List.length (bitsOf [a, b, c] ++ ([] : List Int)) = 24 from rfl]
  exact cons2 (q1 ha) (cons2 (q2 ha hb) (cons2 (q3 hb hc) (cons2 (q4 hc) rfl)))
theorem f6_4 {a b c d : Int} (ha : Oc a) (hb : Oc b) (hc : Oc c) (hd : Oc d) : F6 [a, b, c, d] = fg6 [a, b, c, d] := by
  have hp : padB 6 [a, b, c, d] = bitsOf [a, b, c, d] ++ ([0, 0, 0, 0] : List Int) := by
    unfold padB
    rw [show (bitsOf [a, b, c, d]).length = 32 from rfl]
    rfl
  unfold F6
  rw [hp, show List.length (bitsOf [a, b, c, d] ++ ([0, 0, 0, 0] : List Int)) = 36 from rfl]
  exact cons2 (q1 ha) (cons2 (q2 ha hb) (cons2 (q3 hb hc) (cons2 (q4 hc) (cons2 (q1 hd) (cons2 (q2z hd) rfl)))))
theorem f6_5 {a b c d e : Int} (ha : Oc a) (hb : Oc b) (hc : Oc c) (hd : Oc d) (he : Oc e) : F6 [a, b, c, d, e] = fg6 [a, b, c, d, e] := by
  have hp : padB 6 [a, b, c, d, e] = bitsOf [a, b, c, d, e] ++ ([0, 0] : List Int) := by
    unfold padB
    rw [show (bitsOf [a, b, c, d, e]).length = 40 from rfl]
    rfl
  unfold F6
  rw [hp, show List.length (bitsOf [a, b, c, d, e] ++ ([0, 0] : List Int)) = 42 from rfl]
  exact cons2 (q1 ha) (cons2 (q2 ha hb) (cons2 (q3 hb hc) (cons2 (q4 hc) (cons2 (q1 hd) (cons2 (q2 hd he) (cons2 (q3z he) rfl))))))
theorem f6_6 {a b c d e f : Int} (ha : Oc a) (hb : Oc b) (hc : Oc c) (hd : Oc d) (he : Oc e) (hf : Oc f) : F6 [a, b, c, d, e, f] = fg6 [a, b, c, d, e, f] := by
  have hp : padB 6 [a, b, c, d, e, f] = bitsOf [a, b, c, d, e, f] ++ ([] : List Int) := by
    unfold padB
    rw [show (bitsOf [a, b, c, d, e, f]).length = 48 from rfl]
    rfl
  unfold F6
  rw [hp, show List.length (bitsOf [a, b, c, d, e, f] ++ ([] : List Int)) = 48 from rfl]
  exact cons2 (q1 ha) (cons2 (q2 ha hb) (cons2 (q3 hb hc) (cons2 (q4 hc) (cons2 (q1 hd) (cons2 (q2 hd he) (cons2 (q3 he hf) (cons2 (q4 hf) rfl)))))))
end
end Mine

namespace Mine
section
noncomputable def Ch (sg : Str) (v : Int) : Nat := (Txt.charAt sg v).getD 0
theorem wrS_cps (sg : Str) (wd : Nat) (bs : List Int) : ∀ q, (wrS sg wd bs q).cps.toList = (List.range q).map fun i => Ch sg (fig wd bs i)
  | 0 => rfl
  | q + 1 => by
    rw [List.range_succ, List.map_append, ← wrS_cps sg wd bs q]
    show ((wrS sg wd bs q).cps ++ #[Ch sg (fig wd bs q)]).toList = _
    simp
theorem writ6_cps (sg : Str) (ns : List Int) : (writ6 sg ns).cps.toList = (F6 ns).map (Ch sg) ++ (Txt.mul (Str.ofString "=") ((-((F6 ns).length : Int)).fmod 4)).cps.toList := by
  unfold writ6
  rw [wrS_len]
  show ((wrS sg 6 (padB 6 ns) ((padB 6 ns).length / 6)).cps ++ (Txt.mul (Str.ofString "=") _).cps).toList = _
  rw [Array.toList_append, wrS_cps]
  unfold F6
  rw [List.map_map, List.length_map, List.length_range]
  rfl
noncomputable def F4 (ns : List Int) : List Int := (List.range ((padB 4 ns).length / 4)).map (fig 4 (padB 4 ns))
theorem writ4_cps (sg : Str) (ns : List Int) : (writ4 sg ns).cps.toList = (F4 ns).map (Ch sg) := by
  unfold writ4
  show ((wrS sg 4 (padB 4 ns) ((padB 4 ns).length / 4)).cps ++ (Txt.mul (Str.ofString "=") 0).cps).toList = _
  rw [Array.toList_append, wrS_cps, show (Txt.mul (Str.ofString "=") 0).cps.toList = [] from rfl, List.append_nil]
  unfold F4
  rw [List.map_map]
  rfl
noncomputable def fg4 : List Int → List Int
  | [] => []
  | a :: r => (a / 16) :: (a % 16) :: fg4 r
theorem f4_1 {a : Int} (ha : Oc a) : F4 [a] = fg4 [a] := by
  have hp : padB 4 [a] = bitsOf [a] ++ ([] : List Int) := by
    unfold padB
    rw [show (bitsOf [a]).length = 8 from rfl]
    rfl
  unfold F4
  rw [hp, show List.length (bitsOf [a] ++ ([] : List Int)) = 8 from rfl]
  exact cons2 (r1 ha) (cons2 (r2 ha) (rfl))
theorem f4_2 {a b : Int} (ha : Oc a) (hb : Oc b) : F4 [a, b] = fg4 [a, b] := by
  have hp : padB 4 [a, b] = bitsOf [a, b] ++ ([] : List Int) := by
    unfold padB
    rw [show (bitsOf [a, b]).length = 16 from rfl]
    rfl
  unfold F4
  rw [hp, show List.length (bitsOf [a, b] ++ ([] : List Int)) = 16 from rfl]
  exact cons2 (r1 ha) (cons2 (r2 ha) (cons2 (r1 hb) (cons2 (r2 hb) (rfl))))
theorem f4_3 {a b c : Int} (ha : Oc a) (hb : Oc b) (hc : Oc c) : F4 [a, b, c] = fg4 [a, b, c] := by
  have hp : padB 4 [a, b, c] = bitsOf [a, b, c] ++ ([] : List Int) := by
    unfold padB
    rw [show (bitsOf [a, b, c]).length = 24 from rfl]
    rfl
  unfold F4
  rw [hp, show List.length (bitsOf [a, b, c] ++ ([] : List Int)) = 24 from rfl]
  exact cons2 (r1 ha) (cons2 (r2 ha) (cons2 (r1 hb) (cons2 (r2 hb) (cons2 (r1 hc) (cons2 (r2 hc) (rfl))))))
theorem f4_4 {a b c d : Int} (ha : Oc a) (hb : Oc b) (hc : Oc c) (hd : Oc d) : F4 [a, b, c, d] = fg4 [a, b, c, d] := by
  have hp : padB 4 [a, b, c, d] = bitsOf [a, b, c, d] ++ ([] : List Int) := by
    unfold padB
    rw [show (bitsOf [a, b, c, d]).length = 32 from rfl]
    rfl
  unfold F4
  rw [hp, show List.length (bitsOf [a, b, c, d] ++ ([] : List Int)) = 32 from rfl]
  exact cons2 (r1 ha) (cons2 (r2 ha) (cons2 (r1 hb) (cons2 (r2 hb) (cons2 (r1 hc) (cons2 (r2 hc) (cons2 (r1 hd) (cons2 (r2 hd) (rfl))))))))
theorem f4_5 {a b c d e : Int} (ha : Oc a) (hb : Oc b) (hc : Oc c) (hd : Oc d) (he : Oc e) : F4 [a, b, c, d, e] = fg4 [a, b, c, d, e] := by
  have hp : padB 4 [a, b, c, d, e] = bitsOf [a, b, c, d, e] ++ ([] : List Int) := by
    unfold padB
    rw [show (bitsOf [a, b, c, d, e]).length = 40 from rfl]
    rfl
  unfold F4
  rw [hp, show List.length (bitsOf [a, b, c, d, e] ++ ([] : List Int)) = 40 from rfl]
  exact cons2 (r1 ha) (cons2 (r2 ha) (cons2 (r1 hb) (cons2 (r2 hb) (cons2 (r1 hc) (cons2 (r2 hc) (cons2 (r1 hd) (cons2 (r2 hd) (cons2 (r1 he) (cons2 (r2 he) (rfl))))))))))
theorem f4_6 {a b c d e f : Int} (ha : Oc a) (hb : Oc b) (hc : Oc c) (hd : Oc d) (he : Oc e) (hf : Oc f) : F4 [a, b, c, d, e, f] = fg4 [a, b, c, d, e, f] := by
  have hp : padB 4 [a, b, c, d, e, f] = bitsOf [a, b, c, d, e, f] ++ ([] : List Int) := by
    unfold padB
    rw [show (bitsOf [a, b, c, d, e, f]).length = 48 from rfl]
    rfl
  unfold F4
  rw [hp, show List.length (bitsOf [a, b, c, d, e, f] ++ ([] : List Int)) = 48 from rfl]
  exact cons2 (r1 ha) (cons2 (r2 ha) (cons2 (r1 hb) (cons2 (r2 hb) (cons2 (r1 hc) (cons2 (r2 hc) (cons2 (r1 hd) (cons2 (r2 hd) (cons2 (r1 he) (cons2 (r2 he) (cons2 (r1 hf) (cons2 (r2 hf) (rfl))))))))))))
theorem sign6 {sg : Str} {T : Int → Int} (hC : ∀ v, 0 ≤ v → v < 64 → Ch sg v = (T (S v)).toNat) {v : Int} {l : List Nat} {m : List Int} (hv : 0 ≤ v ∧ v < 64) (k : l = m.map fun n => (T n).toNat) : Ch sg v :: l = (S v :: m).map fun n => (T n).toNat := by
  rw [List.map_cons, ← hC v hv.1 hv.2, k]
theorem sign4 {sg : Str} (hC : ∀ v, 0 ≤ v → v < 16 → Ch sg v = (hx v).toNat) {v : Int} {l : List Nat} {m : List Int} (hv : 0 ≤ v ∧ v < 16) (k : l = m.map fun n => n.toNat) : Ch sg v :: l = (hx v :: m).map fun n => n.toNat := by
  rw [List.map_cons, ← hC v hv.1 hv.2, k]
theorem pads1 {T : Int → Int} (hT : T 61 = 61) : ([61] : List Nat) = ([61] : List Int).map fun n => (T n).toNat := by
  rw [List.map_cons, hT]; rfl
theorem pads2 {T : Int → Int} (hT : T 61 = 61) : ([61, 61] : List Nat) = ([61, 61] : List Int).map fun n => (T n).toNat := by
  rw [List.map_cons, List.map_cons, hT]; rfl
theorem enc6 (sg : Str) (T : Int → Int) (hT : T 61 = 61) (hC : ∀ v, 0 ≤ v → v < 64 → Ch sg v = (T (S v)).toNat) : ∀ (ns : List Int), 1 ≤ ns.length → ns.length ≤ 6 → (∀ n ∈ ns, 0 ≤ n ∧ n < 256) → (writ6 sg ns).cps.toList = (w64 ns).map fun n => (T n).toNat
  | [], h, _, _ => absurd h (by decide)
  | [a], _, _, hr => by
    have ha : Oc a := hr a (List.Mem.head _)
    rw [writ6_cps, f6_1 ha, show (fg6 [a]).length = 2 from rfl, show (Txt.mul (Str.ofString "=") ((-((2 : Nat) : Int)).fmod 4)).cps.toList = [61, 61] from rfl]
    exact sign6 hC (n1 ha) (sign6 hC (n2z a) (pads2 hT))
  | [a, b], _, _, hr => by
    have ha : Oc a := hr a (List.Mem.head _)
    have hb : Oc b := hr b (List.Mem.tail _ (List.Mem.head _))
    rw [writ6_cps, f6_2 ha hb, show (fg6 [a, b]).length = 3 from rfl, show (Txt.mul (Str.ofString "=") ((-((3 : Nat) : Int)).fmod 4)).cps.toList = [61] from rfl]
    exact sign6 hC (n1 ha) (sign6 hC (n2 a hb) (sign6 hC (n3z b) (pads1 hT)))
  | [a, b, c], _, _, hr => by
    have ha : Oc a := hr a (List.Mem.head _)
    have hb : Oc b := hr b (List.Mem.tail _ (List.Mem.head _))
    have hc : Oc c := hr c (List.Mem.tail _ (List.Mem.tail _ (List.Mem.head _)))
    rw [writ6_cps, f6_3 ha hb hc, show (fg6 [a, b, c]).length = 4 from rfl, show (Txt.mul (Str.ofString "=") ((-((4 : Nat) : Int)).fmod 4)).cps.toList = [] from rfl]
    exact sign6 hC (n1 ha) (sign6 hC (n2 a hb) (sign6 hC (n3 b hc) (sign6 hC (n4 c) (rfl))))
  | [a, b, c, d], _, _, hr => by
    have ha : Oc a := hr a (List.Mem.head _)
    have hb : Oc b := hr b (List.Mem.tail _ (List.Mem.head _))
    have hc : Oc c := hr c (List.Mem.tail _ (List.Mem.tail _ (List.Mem.head _)))
    have hd : Oc d := hr d (List.Mem.tail _ (List.Mem.tail _ (List.Mem.tail _ (List.Mem.head _))))
    rw [writ6_cps, f6_4 ha hb hc hd, show (fg6 [a, b, c, d]).length = 6 from rfl, show (Txt.mul (Str.ofString "=") ((-((6 : Nat) : Int)).fmod 4)).cps.toList = [61, 61] from rfl]
    exact sign6 hC (n1 ha) (sign6 hC (n2 a hb) (sign6 hC (n3 b hc) (sign6 hC (n4 c) (sign6 hC (n1 hd) (sign6 hC (n2z d) (pads2 hT))))))
  | [a, b, c, d, e], _, _, hr => by
    have ha : Oc a := hr a (List.Mem.head _)
    have hb : Oc b := hr b (List.Mem.tail _ (List.Mem.head _))
    have hc : Oc c := hr c (List.Mem.tail _ (List.Mem.tail _ (List.Mem.head _)))
    have hd : Oc d := hr d (List.Mem.tail _ (List.Mem.tail _ (List.Mem.tail _ (List.Mem.head _))))
    have he : Oc e := hr e (List.Mem.tail _ (List.Mem.tail _ (List.Mem.tail _ (List.Mem.tail _ (List.Mem.head _)))))
    rw [writ6_cps, f6_5 ha hb hc hd he, show (fg6 [a, b, c, d, e]).length = 7 from rfl, show (Txt.mul (Str.ofString "=") ((-((7 : Nat) : Int)).fmod 4)).cps.toList = [61] from rfl]
    exact sign6 hC (n1 ha) (sign6 hC (n2 a hb) (sign6 hC (n3 b hc) (sign6 hC (n4 c) (sign6 hC (n1 hd) (sign6 hC (n2 d he) (sign6 hC (n3z e) (pads1 hT)))))))
  | [a, b, c, d, e, f], _, _, hr => by
    have ha : Oc a := hr a (List.Mem.head _)
    have hb : Oc b := hr b (List.Mem.tail _ (List.Mem.head _))
    have hc : Oc c := hr c (List.Mem.tail _ (List.Mem.tail _ (List.Mem.head _)))
    have hd : Oc d := hr d (List.Mem.tail _ (List.Mem.tail _ (List.Mem.tail _ (List.Mem.head _))))
    have he : Oc e := hr e (List.Mem.tail _ (List.Mem.tail _ (List.Mem.tail _ (List.Mem.tail _ (List.Mem.head _)))))
    have hf : Oc f := hr f (List.Mem.tail _ (List.Mem.tail _ (List.Mem.tail _ (List.Mem.tail _ (List.Mem.tail _ (List.Mem.head _))))))
    rw [writ6_cps, f6_6 ha hb hc hd he hf, show (fg6 [a, b, c, d, e, f]).length = 8 from rfl, show (Txt.mul (Str.ofString "=") ((-((8 : Nat) : Int)).fmod 4)).cps.toList = [] from rfl]
    exact sign6 hC (n1 ha) (sign6 hC (n2 a hb) (sign6 hC (n3 b hc) (sign6 hC (n4 c) (sign6 hC (n1 hd) (sign6 hC (n2 d he) (sign6 hC (n3 e hf) (sign6 hC (n4 f) (rfl))))))))
  | _ :: _ :: _ :: _ :: _ :: _ :: _ :: _, _, h, _ => by simp only [List.length_cons] at h; omega
theorem enc4 (sg : Str) (hC : ∀ v, 0 ≤ v → v < 16 → Ch sg v = (hx v).toNat) : ∀ (ns : List Int), 1 ≤ ns.length → ns.length ≤ 6 → (∀ n ∈ ns, 0 ≤ n ∧ n < 256) → (writ4 sg ns).cps.toList = (w16 ns).map fun n => n.toNat
  | [], h, _, _ => absurd h (by decide)
  | [a], _, _, hr => by
    have ha : Oc a := hr a (List.Mem.head _)
    rw [writ4_cps, f4_1 ha]
    exact sign4 hC (m1 ha) (sign4 hC (m2 a) (rfl))
  | [a, b], _, _, hr => by
    have ha : Oc a := hr a (List.Mem.head _)
    have hb : Oc b := hr b (List.Mem.tail _ (List.Mem.head _))
    rw [writ4_cps, f4_2 ha hb]
    exact sign4 hC (m1 ha) (sign4 hC (m2 a) (sign4 hC (m1 hb) (sign4 hC (m2 b) (rfl))))
  | [a, b, c], _, _, hr => by
    have ha : Oc a := hr a (List.Mem.head _)
    have hb : Oc b := hr b (List.Mem.tail _ (List.Mem.head _))
    have hc : Oc c := hr c (List.Mem.tail _ (List.Mem.tail _ (List.Mem.head _)))
    rw [writ4_cps, f4_3 ha hb hc]
    exact sign4 hC (m1 ha) (sign4 hC (m2 a) (sign4 hC (m1 hb) (sign4 hC (m2 b) (sign4 hC (m1 hc) (sign4 hC (m2 c) (rfl))))))
  | [a, b, c, d], _, _, hr => by
    have ha : Oc a := hr a (List.Mem.head _)
    have hb : Oc b := hr b (List.Mem.tail _ (List.Mem.head _))
    have hc : Oc c := hr c (List.Mem.tail _ (List.Mem.tail _ (List.Mem.head _)))
    have hd : Oc d := hr d (List.Mem.tail _ (List.Mem.tail _ (List.Mem.tail _ (List.Mem.head _))))
    rw [writ4_cps, f4_4 ha hb hc hd]
    exact sign4 hC (m1 ha) (sign4 hC (m2 a) (sign4 hC (m1 hb) (sign4 hC (m2 b) (sign4 hC (m1 hc) (sign4 hC (m2 c) (sign4 hC (m1 hd) (sign4 hC (m2 d) (rfl))))))))
  | [a, b, c, d, e], _, _, hr => by
    have ha : Oc a := hr a (List.Mem.head _)
    have hb : Oc b := hr b (List.Mem.tail _ (List.Mem.head _))
    have hc : Oc c := hr c (List.Mem.tail _ (List.Mem.tail _ (List.Mem.head _)))
    have hd : Oc d := hr d (List.Mem.tail _ (List.Mem.tail _ (List.Mem.tail _ (List.Mem.head _))))
    have he : Oc e := hr e (List.Mem.tail _ (List.Mem.tail _ (List.Mem.tail _ (List.Mem.tail _ (List.Mem.head _)))))
    rw [writ4_cps, f4_5 ha hb hc hd he]
    exact sign4 hC (m1 ha) (sign4 hC (m2 a) (sign4 hC (m1 hb) (sign4 hC (m2 b) (sign4 hC (m1 hc) (sign4 hC (m2 c) (sign4 hC (m1 hd) (sign4 hC (m2 d) (sign4 hC (m1 he) (sign4 hC (m2 e) (rfl))))))))))
  | [a, b, c, d, e, f], _, _, hr => by
    have ha : Oc a := hr a (List.Mem.head _)
    have hb : Oc b := hr b (List.Mem.tail _ (List.Mem.head _))
    have hc : Oc c := hr c (List.Mem.tail _ (List.Mem.tail _ (List.Mem.head _)))
    have hd : Oc d := hr d (List.Mem.tail _ (List.Mem.tail _ (List.Mem.tail _ (List.Mem.head _))))
    have he : Oc e := hr e (List.Mem.tail _ (List.Mem.tail _ (List.Mem.tail _ (List.Mem.tail _ (List.Mem.head _)))))
    have hf : Oc f := hr f (List.Mem.tail _ (List.Mem.tail _ (List.Mem.tail _ (List.Mem.tail _ (List.Mem.tail _ (List.Mem.head _))))))
    rw [writ4_cps, f4_6 ha hb hc hd he hf]
    exact sign4 hC (m1 ha) (sign4 hC (m2 a) (sign4 hC (m1 hb) (sign4 hC (m2 b) (sign4 hC (m1 hc) (sign4 hC (m2 c) (sign4 hC (m1 hd) (sign4 hC (m2 d) (sign4 hC (m1 he) (sign4 hC (m2 e) (sign4 hC (m1 hf) (sign4 hC (m2 f) (rfl))))))))))))
  | _ :: _ :: _ :: _ :: _ :: _ :: _ :: _, _, h, _ => by simp only [List.length_cons] at h; omega
end
end Mine

namespace Mine
section
noncomputable def kinds : Str := Str.ofString "?pc?d?b?-?l?s???"
theorem listL_head (l : List Int) (n : Nat) (hn : 1 ≤ n) : ∃ r, listL l n = rowL (l.getD 0 0 * 256 + l.getD 1 0) ++ r := by
  obtain ⟨m, rfl⟩ : ∃ m, n = m + 1 := ⟨n - 1, by omega⟩
  unfold listL
  rw [List.range_succ_eq_map, List.flatMap_cons]
  exact ⟨_, rfl⟩
theorem take_head (l : List Int) (n : Nat) (hn : 1 ≤ n) : (listL l n).take 10 = rowL (l.getD 0 0 * 256 + l.getD 1 0) := by
  obtain ⟨r, e⟩ := listL_head l n hn
  rw [e]
  exact List.take_left' (rowL_len _)
theorem row_head {a b : Int} (ha : 0 ≤ a) (ha' : a < 256) (hb : 0 ≤ b) (hb' : b < 256) : ∃ c1 r, (c1 = 45 ∨ c1 = 114) ∧ rowL (a * 256 + b) = Ch kinds (a / 16) :: c1 :: r := by
  have e0 := kind_is ha ha' hb hb'
  have e : rowL (a * 256 + b) = (pick (a * 256 + b) true ((tabs[0]?.map (·.2)).getD [])).cps.toList ++ ((pick (a * 256 + b) false ((tabs[1]?.map (·.2)).getD [])).cps.toList ++ (((signs (a * 256 + b) 10).drop 2).flatMap (·.cps.toList))) := rfl
  rw [e0, Int.fdiv_eq_ediv_of_nonneg _ (by decide : (0 : Int) ≤ 16)] at e
  have e1 : pick (a * 256 + b) false ((tabs[1]?.map (·.2)).getD []) = Str.ofString "r" ∨ pick (a * 256 + b) false ((tabs[1]?.map (·.2)).getD []) = Str.ofString "-" := by
    simp only [tabs, List.getElem?_cons_succ, List.getElem?_cons_zero, Option.map_some, Option.getD_some, pick, Bool.false_eq_true, if_false]
    by_cases hh : Builtin.bitAnd (a * 256 + b) 256 = 256
    · rw [if_pos hh]; exact .inl rfl
    · rw [if_neg hh]; exact .inr rfl
  rcases e1 with e1 | e1
  · rw [e1] at e
    exact ⟨114, _, .inr rfl, e⟩
  · rw [e1] at e
    exact ⟨45, _, .inl rfl, e⟩
theorem list_of_cps {x : Str} {l : List Nat} (h : x.cps.toList = l) : x = ⟨l.toArray⟩ := by
  cases x with
  | mk cps => subst h; rfl
theorem sw2 (a b : Nat) (r : List Nat) : Txt.startswith ⟨(a :: b :: r).toArray⟩ (Str.ofString "?-") = (a == 63 && b == 45) := by
  have e : Txt.startswith ⟨(a :: b :: r).toArray⟩ (Str.ofString "?-") = (decide (0 + 2 ≤ (a :: b :: r).toArray.size) && ((a :: b :: r).toArray.extract 0 2 == #[63, 45])) := rfl
  rw [e]
  have e2 : (a :: b :: r).toArray.extract 0 2 = #[a, b] := by simp
  rw [e2]
  simp
theorem sw1 (a b : Nat) (r : List Nat) : Txt.startswith ⟨(a :: b :: r).toArray⟩ (Str.ofString "?") = (a == 63) := by
  have e : Txt.startswith ⟨(a :: b :: r).toArray⟩ (Str.ofString "?") = (decide (0 + 1 ≤ (a :: b :: r).toArray.size) && ((a :: b :: r).toArray.extract 0 1 == #[63])) := rfl
  rw [e]
  have e2 : (a :: b :: r).toArray.extract 0 1 = #[a] := by simp
  rw [e2]
  simp
theorem item0 (a : Nat) (r : List Nat) : Txt.item ⟨(a :: r).toArray⟩ 0 = ⟨#[a]⟩ := by
  unfold Txt.item Txt.charAt
  have e : seqIndex? 0 (Str.length ⟨(a :: r).toArray⟩) = some 0 := by
    simp [seqIndex?, Str.length]
  rw [e]
  simp
theorem in_d : ∀ a ∈ [63, 98, 99, 100], InS (Str.ofString "?d") ⟨#[a]⟩ (a == 63 || a == 100) := by
  unfold InS
  decide +kernel
theorem ways_of {w : World} {f : Addr} {pre : Heap → Prop} {Wf : List Int → List Int} {k n2 : Nat} (hw : Wr Wf k n2)
    (hC : ∀ b t, b.size ≤ 64 → Ctr w f [.bytes b t] [] pre 5 50 (fun t => .bytes (byteArr (Wf (KBw.bInts b))) t)) {l : Addr} {vs : List Value} {ns : List Int} {sg : Str} {wd : Int} {hdS due : Str} (x0 : Str) (n0 : Nat)
    (hCW : CW w l vs sg wd x0) (hx0 : x0.cps.toList = (Wf ns).map fun n => n.toNat) (hWr : ∀ n ∈ Wf ns, 0 ≤ n ∧ n < 128) (hlen : (Wf ns).length = 2 * n0) (hn1 : 1 ≤ n0) (hn2 : n0 ≤ 32) (hns : ∀ n ∈ ns, 0 ≤ n ∧ n < 256) (hsz : ns.length ≤ 64)
    (hd1 : 10 ≤ due.length) (hd2 : due.length ≤ 4096)
    (hlate : LateIs (listS (Wf ns) n0) hdS (fun j => 0 ≤ j ∧ j ≤ 2 ∧ ∃ r2, (nx Wf k n2 (listL (Wf ns) n0)).take 10 = r2 ∧ chk Wf k n2 due.cps.toList r2 j = true)) :
    Ways w f pre l vs ns sg wd (k : Int) hdS due := by
  have hi : KBa.In (Wf ns) := fun n hn => by have := hWr n hn; omega
  have hbi := KBa.ints_make hi
  have hsize : (byteArr (Wf ns)).size = 2 * n0 := by rw [← hlen]; unfold byteArr; simp
  have hasc : ∀ c ∈ x0.cps.toList, c < 128 := by
    rw [hx0]
    intro c hc
    obtain ⟨n, hn, rfl⟩ := List.mem_map.mp hc
    have := hWr n hn
    omega
  have h0 : asc x0 = byteArr (Wf ns) := by
    apply Array.ext'
    unfold asc byteArr
    rw [Array.toList_map, hx0, List.map_map]
    rfl
  have hxs : x0.cps.size ≤ 4096 := by
    have := congrArg List.length hx0
    rw [List.length_map, hlen, Array.length_toList] at this
    omega
  refine ⟨x0, byteArr (Wf ns), n0, hCW, ⟨hasc, hxs, h0⟩, fun t => ?_, hsize, hn1, hn2, ?_, hd2, ?_⟩
  · have := hC (byteArr ns) t (by unfold byteArr; simpa using hsz)
    rw [KBa.ints_make hns] at this
    exact this
  · rw [hbi]
    intro t
    have := listed w (byteArr (Wf ns)) t n0 hsize hn2
    rw [hbi] at this
    exact this
  · rw [hbi]
    have hf : ∀ j, (0 ≤ j ∧ j ≤ 2 ∧ ∃ r2, (nx Wf k n2 (listL (Wf ns) n0)).take 10 = r2 ∧ chk Wf k n2 due.cps.toList r2 j = true) → 0 ≤ j ∧ j ≤ 2 ∧ Four w f pre (k : Int) due (listS (Wf ns) n0) j := by
      rintro j ⟨a, b, r2, c, d⟩
      refine ⟨a, b, four_of hw hC due _ ?_ ?_ hd1 r2 j ?_ d⟩
      · rw [listS_cps]; exact listL_asc _ _
      · rw [listS_len]; omega
      · rw [listS_cps]; exact c
    rcases hlate with ⟨a, b⟩ | ⟨a, b, c⟩ | ⟨a, b, c⟩
    · exact .inl ⟨a, hf _ b⟩
    · exact .inr (.inl ⟨a, b, hf _ c⟩)
    · exact .inr (.inr ⟨a, b, hf _ c⟩)
end
end Mine

namespace Mine
section
theorem listL_len (l : List Int) (n : Nat) : (listL l n).length = 10 * n := by
  rw [← listS_cps, Array.length_toList]
  exact listS_len l n
theorem getD_in {l : List Int} {i : Nat} (h : ∀ n ∈ l, 0 ≤ n ∧ n < 128) : 0 ≤ l.getD i 0 ∧ l.getD i 0 < 128 := by
  rw [List.getD_eq_getElem?_getD]
  cases e : l[i]? with
  | none => simp
  | some v => exact h v (List.mem_of_getElem? e)
theorem s_at : ∀ i : Fin 64, S (i.val : Int) ∈ sgn := by decide
theorem w64_first : ∀ (ns : List Int), 1 ≤ ns.length → (∀ n ∈ ns, 0 ≤ n ∧ n < 256) → ∃ i : Fin 64, (w64 ns).getD 0 0 = S (i.val : Int)
  | [], h, _ => by simp at h
  | a :: r, _, hr => by
    have ha := hr a (List.mem_cons_self ..)
    refine ⟨⟨(a / 4).toNat, by omega⟩, ?_⟩
    rw [show (((a / 4).toNat : Nat) : Int) = a / 4 by omega]
    match r with
    | [] => rfl
    | [b] => rfl
    | b :: c :: r' => rfl
theorem kind64 : ∀ i : Fin 64, Ch kinds (S (i.val : Int) / 16) ∈ [63, 98, 99, 100] := by decide +kernel
theorem kind64u : ∀ i : Fin 64, Ch kinds (ut (S (i.val : Int)) / 16) ∈ [63, 98, 99, 100] := by decide +kernel
theorem kind16 : ∀ i : Fin 16, Ch kinds (hx (i.val : Int) / 16) ∈ [63, 100] := by decide +kernel
/-- how a listing begins -/
theorem begin_of {l : List Int} {n : Nat} (hn : 1 ≤ n) (hr : ∀ m ∈ l, 0 ≤ m ∧ m < 128) : ∃ c1 c2 r, (c1 = 45 ∨ c1 = 114) ∧ listL l n = Ch kinds (l.getD 0 0 / 16) :: c1 :: c2 :: r := by
  have h0 := getD_in (i := 0) hr
  have h1 := getD_in (i := 1) hr
  obtain ⟨r', e⟩ := listL_head l n hn
  obtain ⟨c1, r, hc, e2⟩ := row_head (a := l.getD 0 0) (b := l.getD 1 0) h0.1 (by omega) h1.1 (by omega)
  have hl := rowL_len (l.getD 0 0 * 256 + l.getD 1 0)
  rw [e2] at hl
  match r, hl, e2 with
  | c2 :: r, _, e2 =>
    rw [e2] at e
    exact ⟨c1, c2, r ++ r', hc, e⟩
theorem late_of2 {x : Str} {a b : Nat} {r : List Nat} {F : Int → Prop} (hx : x.cps.toList = a :: b :: r) (ha : a ∈ [63, 98, 99, 100]) (hF : F (late2 a b)) : LateIs x (Str.ofString "?-") F := by
  rw [list_of_cps hx]
  have s := sw2 a b r
  have i := in_d a ha
  unfold late2 at hF
  by_cases h1 : a = 63 ∧ b = 45
  · rw [if_pos h1] at hF
    refine .inl ⟨?_, hF⟩
    show Txt.startswith _ _ = true
    rw [s, h1.1, h1.2]; rfl
  · rw [if_neg h1] at hF
    have s' : SwS ⟨(a :: b :: r).toArray⟩ (Str.ofString "?-") false := by
      show Txt.startswith _ _ = false
      rw [s]
      simpa using h1
    by_cases h2 : a = 63 ∨ a = 100
    · rw [if_pos h2] at hF
      refine .inr (.inl ⟨s', ?_, hF⟩)
      rw [item0]
      rw [show (a == 63 || a == 100) = true by simpa using h2] at i
      exact i
    · rw [if_neg h2] at hF
      refine .inr (.inr ⟨s', ?_, hF⟩)
      rw [item0]
      rw [show (a == 63 || a == 100) = false by simpa using h2] at i
      exact i
theorem late_of1 {x : Str} {a b : Nat} {r : List Nat} {F : Int → Prop} (hx : x.cps.toList = a :: b :: r) (ha : a ∈ [63, 98, 99, 100]) (hF : F (late1 a)) : LateIs x (Str.ofString "?") F := by
  rw [list_of_cps hx]
  have s := sw1 a b r
  have i := in_d a ha
  unfold late1 at hF
  by_cases h1 : a = 63
  · rw [if_pos h1] at hF
    refine .inl ⟨?_, hF⟩
    show Txt.startswith _ _ = true
    rw [s, h1]; rfl
  · rw [if_neg h1] at hF
    have s' : SwS ⟨(a :: b :: r).toArray⟩ (Str.ofString "?") false := by
      show Txt.startswith _ _ = false
      rw [s]
      simpa using h1
    by_cases h2 : a = 63 ∨ a = 100
    · rw [if_pos h2] at hF
      refine .inr (.inl ⟨s', ?_, hF⟩)
      rw [item0]
      rw [show (a == 63 || a == 100) = true by simpa using h2] at i
      exact i
    · rw [if_neg h2] at hF
      refine .inr (.inr ⟨s', ?_, hF⟩)
      rw [item0]
      rw [show (a == 63 || a == 100) = false by simpa using h2] at i
      exact i
theorem late2_in (a b : Nat) : 0 ≤ late2 a b ∧ late2 a b ≤ 2 := by
  unfold late2
  by_cases h : a = 63 ∧ b = 45
  · rw [if_pos h]; decide
  · rw [if_neg h]
    by_cases h2 : a = 63 ∨ a = 100
    · rw [if_pos h2]; decide
    · rw [if_neg h2]; decide
theorem late1_in (a : Nat) : 0 ≤ late1 a ∧ late1 a ≤ 2 := by
  unfold late1
  by_cases h : a = 63
  · rw [if_pos h]; decide
  · rw [if_neg h]
    by_cases h2 : a = 63 ∨ a = 100
    · rw [if_pos h2]; decide
    · rw [if_neg h2]; decide
theorem nx64 (a b c : Nat) (r : List Nat) : (nx w64 9 6 (a :: b :: c :: r)).take 10 = r64 a b := by
  unfold nx
  rw [take_head _ _ (by decide)]
  rfl
theorem nx64u (a b c : Nat) (r : List Nat) : (nx w64u 9 6 (a :: b :: c :: r)).take 10 = r64u a b := by
  unfold nx
  rw [take_head _ _ (by decide)]
  rfl
theorem nx16 (a b c : Nat) (r : List Nat) : (nx w16 10 10 (a :: b :: c :: r)).take 10 = r16 a := by
  unfold nx
  rw [take_head _ _ (by decide)]
  rfl
theorem ch64 : ∀ i : Fin 64, Ch (Str.ofString "ABCDEFGHIJKLMNOPQRSTUVWXYZabcdefghijklmnopqrstuvwxyz0123456789+/") (i.val : Int) = (S (i.val : Int)).toNat := by decide +kernel
theorem ch64u : ∀ i : Fin 64, Ch (Str.ofString "ABCDEFGHIJKLMNOPQRSTUVWXYZabcdefghijklmnopqrstuvwxyz0123456789-_") (i.val : Int) = (ut (S (i.val : Int))).toNat := by decide +kernel
theorem ch16 : ∀ i : Fin 16, Ch (Str.ofString "0123456789ABCDEF") (i.val : Int) = (hx (i.val : Int)).toNat := by decide +kernel
theorem at64 {P : Int → Prop} (h : ∀ i : Fin 64, P (i.val : Int)) (v : Int) (h0 : 0 ≤ v) (h1 : v < 64) : P v := by
  have := h ⟨v.toNat, by omega⟩
  rwa [show ((v.toNat : Nat) : Int) = v by omega] at this
theorem at16 {P : Int → Prop} (h : ∀ i : Fin 16, P (i.val : Int)) (v : Int) (h0 : 0 ≤ v) (h1 : v < 16) : P v := by
  have := h ⟨v.toNat, by omega⟩
  rwa [show ((v.toNat : Nat) : Int) = v by omega] at this
theorem ways64 {w : World} {f : Addr} {pre : Heap → Prop} (hC : ∀ b t, b.size ≤ 64 → Ctr w f [.bytes b t] [] pre 5 50 (fun t => .bytes (byteArr (w64 (KBw.bInts b))) t)) {l : Addr} {vs : List Value} {ns : List Int} (hI : IntsAre vs ns) (h1 : 1 ≤ ns.length) (h6 : ns.length ≤ 6) (hr : ∀ n ∈ ns, 0 ≤ n ∧ n < 256) :
    Ways w f pre l vs ns (Str.ofString "ABCDEFGHIJKLMNOPQRSTUVWXYZabcdefghijklmnopqrstuvwxyz0123456789+/") 6 9 (Str.ofString "?-") (Str.ofString "?--xrwx--x?--xrw-r--br-x--s---d--Srw--wtbr-x--S-wx?--xrw-r--") := by
  have hWr := w64_in ns
  have hlen : (w64 ns).length = 2 * (2 * ((ns.length + 2) / 3)) := by rw [w64_even]; omega
  obtain ⟨i, hi⟩ := w64_first ns h1 hr
  obtain ⟨c1, c2, r, hc, e⟩ := begin_of (n := 2 * ((ns.length + 2) / 3)) (by omega) hWr
  have hk := kind64 i
  rw [← hi] at hk
  refine ways_of wr64 hC (writ6 (Str.ofString "ABCDEFGHIJKLMNOPQRSTUVWXYZabcdefghijklmnopqrstuvwxyz0123456789+/") ns) (2 * ((ns.length + 2) / 3)) (fun t u => written w l vs ns _ t u hI hr h6 h1 rfl) ?_ hWr hlen (by omega) (by omega) hr (by omega) (by decide) (by decide) ?_
  · exact enc6 _ (fun n => n) rfl (at64 ch64) ns h1 h6 hr
  · refine late_of2 (by rw [listS_cps]; exact e) hk ⟨(late2_in _ _).1, (late2_in _ _).2, _, by rw [e]; exact nx64 _ _ _ _, chk64 _ hk _ (by rcases hc with rfl | rfl <;> decide)⟩
theorem ways64u {w : World} {f : Addr} {pre : Heap → Prop} (hC : ∀ b t, b.size ≤ 64 → Ctr w f [.bytes b t] [] pre 5 50 (fun t => .bytes (byteArr (w64u (KBw.bInts b))) t)) {l : Addr} {vs : List Value} {ns : List Int} (hI : IntsAre vs ns) (h1 : 1 ≤ ns.length) (h6 : ns.length ≤ 6) (hr : ∀ n ∈ ns, 0 ≤ n ∧ n < 256) :
    Ways w f pre l vs ns (Str.ofString "ABCDEFGHIJKLMNOPQRSTUVWXYZabcdefghijklmnopqrstuvwxyz0123456789-_") 6 9 (Str.ofString "?-") (Str.ofString "?--xrwx--x?--xrw-r--br-x--s---d--Srw--wtbr-x--S-wx?--xrw-r--") := by
  have hWr : ∀ n ∈ w64u ns, 0 ≤ n ∧ n < 128 := fun n hn => by
    obtain ⟨m, hm, rfl⟩ := List.mem_map.mp hn
    have := w64_in ns m hm
    unfold ut
    split
    · decide
    · split
      · decide
      · exact this
  have hlen : (w64u ns).length = 2 * (2 * ((ns.length + 2) / 3)) := by unfold w64u; rw [List.length_map, w64_even]; omega
  obtain ⟨i, hi⟩ := w64_first ns h1 hr
  have hi' : (w64u ns).getD 0 0 = ut (S (i.val : Int)) := by
    rw [← hi]
    unfold w64u
    rw [List.getD_eq_getElem?_getD, List.getElem?_map, List.getD_eq_getElem?_getD]
    have hp : 0 < (w64 ns).length := by rw [w64_even]; omega
    rw [List.getElem?_eq_getElem hp]
    rfl
  obtain ⟨c1, c2, r, hc, e⟩ := begin_of (n := 2 * ((ns.length + 2) / 3)) (by omega) hWr
  have hk := kind64u i
  rw [← hi'] at hk
  refine ways_of wr64u hC (writ6 (Str.ofString "ABCDEFGHIJKLMNOPQRSTUVWXYZabcdefghijklmnopqrstuvwxyz0123456789-_") ns) (2 * ((ns.length + 2) / 3)) (fun t u => written w l vs ns _ t u hI hr h6 h1 rfl) ?_ hWr hlen (by omega) (by omega) hr (by omega) (by decide) (by decide) ?_
  · rw [enc6 _ ut rfl (at64 ch64u) ns h1 h6 hr]
    unfold w64u
    rw [List.map_map]
    rfl
  · refine late_of2 (by rw [listS_cps]; exact e) hk ⟨(late2_in _ _).1, (late2_in _ _).2, _, by rw [e]; exact nx64u _ _ _ _, chk64u _ hk _ (by rcases hc with rfl | rfl <;> decide)⟩
theorem ways16 {w : World} {f : Addr} {pre : Heap → Prop} (hC : ∀ b t, b.size ≤ 64 → Ctr w f [.bytes b t] [] pre 5 50 (fun t => .bytes (byteArr (w16 (KBw.bInts b))) t)) {l : Addr} {vs : List Value} {ns : List Int} (hI : IntsAre vs ns) (h1 : 1 ≤ ns.length) (h6 : ns.length ≤ 6) (hr : ∀ n ∈ ns, 0 ≤ n ∧ n < 256) :
    Ways w f pre l vs ns (Str.ofString "0123456789ABCDEF") 4 10 (Str.ofString "?") (Str.ofString "?r-x---rwT?r--rwS-wT?--x---r-T?r--rws--T?--x---r-T?--x---r-T?--x---r-T?r--rwS-wT?r--rwSrwt?r--rwSr--") := by
  have hWr := w16_rng hr
  have hlen : (w16 ns).length = 2 * ns.length := w16_len ns
  obtain ⟨i, hi⟩ : ∃ i : Fin 16, (w16 ns).getD 0 0 = hx (i.val : Int) := by
    match ns, h1, hr with
    | a :: r, _, hr =>
      have ha := hr a (List.mem_cons_self ..)
      refine ⟨⟨(a / 16).toNat, by omega⟩, ?_⟩
      rw [show (((a / 16).toNat : Nat) : Int) = a / 16 by omega]
      rfl
  obtain ⟨c1, c2, r, hc, e⟩ := begin_of (n := ns.length) (by omega) hWr
  have hk := kind16 i
  rw [← hi] at hk
  have hk' : Ch kinds ((w16 ns).getD 0 0 / 16) ∈ [63, 98, 99, 100] := by
    rcases List.mem_cons.mp hk with h | h
    · rw [h]; decide
    · rw [List.mem_singleton.mp h]; decide
  refine ways_of wr16 hC (writ4 (Str.ofString "0123456789ABCDEF") ns) ns.length (fun t u => written4 w l vs ns _ t u hI hr h6 h1 rfl) ?_ hWr hlen (by omega) (by omega) hr (by omega) (by decide) (by decide) ?_
  · exact enc4 _ (at16 ch16) ns h1 h6 hr
  · refine late_of1 (by rw [listS_cps]; exact e) hk' ⟨(late1_in _).1, (late1_in _).2, _, by rw [e]; exact nx16 _ _ _ _, chk16 _ hk⟩
end
end Mine

theorem PySem.Challenge.cw_mj0126_01_holds : PySem.Challenge.rw_mj0126_01.Holds := by
  w_top off; k_with_none
  k_with "exec Assign" => k_fold
  k_with "exec If" => k_fold
  k_with "exec Expr" => k_fold
  k_with "exec Return some" => k_fold
  k_with "eval BinOp" => k_fold
  k_with "eval Subscript" => k_fold
  k_with "eval Call" => k_fold
  k_with "eval IfExp" => k_fold
  k_with "eval List" => k_fold
  k_with "eval Compare" => k_fold
  k_with "isTrue Compare" => k_fold
  k_with "isTrue BoolOp" => k_fold
  k_with "isTrue UnaryOp" => k_fold
  k_with "eval Call Attribute" => k_fold
  k_with "eval Attribute" => k_fold
  k_with "eval Tuple" => k_fold
  k_with "eval ListComp" => k_fold
  k_with "isTrue" => k_fold
  k_with "callWith" => k_fold
  k_with "call type:type" => ((with_reducible show wpAny _ _ (call _ [Value.bytes _ _]) _ _ _); refine type_bytes_call ?_)
  k_with "getMethod bytes" => first | with_reducible refine gm_upper ?_ | with_reducible refine gm_translate ?_ | with_reducible refine gm_hex ?_
  k_with "mine" => first | exact (by assumption : CB _ _ _ _ _) _ | exact (by assumption : CL _ _ _) _ | exact (by assumption : CW _ _ _ _ _ _) _ _ | exact lrow _ _ _ _ _ (u8_ge _) (u8_lt _) (u8_ge _) (u8_lt _)
  k_with "call ref" => ((k_dflt (refine Ctr.use (by k_extra "mine") (by k_asm) (by k_asm) (by k_asm) (by k_asm) (by k_asm) (by first | exact rfl | assumption) (by first | decide | ktr_room) (by first | decide | ktr_units) (by first | trivial | assumption | k_extra "pre") ?_)); intro t9 h9 tk9 F9 N9 K9; (try dsimp only); (try k_fold))
  k_with "pre" => first | exact pre_list (by k_asm) (by k_extra "tails") | exact pre_use (by assumption) (by k_asm) (by k_extra "tails") (by k_extra "tails")
  k_with "tails" => first | exact List.Mem.tail _ (by assumption) | exact List.Mem.tail _ (List.Mem.tail _ (by assumption)) | exact List.Mem.tail _ (List.Mem.tail _ (List.Mem.tail _ (by assumption))) | exact List.Mem.tail _ (List.Mem.tail _ (List.Mem.tail _ (List.Mem.tail _ (by assumption)))) | exact List.Mem.tail _ (List.Mem.tail _ (List.Mem.tail _ (List.Mem.tail _ (List.Mem.tail _ (by assumption))))) | exact List.Mem.tail _ (List.Mem.tail _ (List.Mem.tail _ (List.Mem.tail _ (List.Mem.tail _ (List.Mem.tail _ (by assumption)))))) | exact List.Mem.tail _ (List.Mem.tail _ (List.Mem.tail _ (List.Mem.tail _ (List.Mem.tail _ (List.Mem.tail _ (List.Mem.tail _ (by assumption)))))))
  k_with "ints" => first | exact .nil | assumption | exact IntsAre.append (by assumption) (.cons _ _ .nil) | exact IntsAre.append (IntsAre.append (by assumption) (.cons _ _ .nil)) (.cons _ _ .nil) | exact IntsAre.append (IntsAre.append (IntsAre.append (by assumption) (.cons _ _ .nil)) (.cons _ _ .nil)) (.cons _ _ .nil)
  k_with "size" => ((try dsimp only); (try simp only [List.push_toArray, List.size_toArray, List.length_append, List.length_cons, List.length_nil, PySem.sizeLine_eq]); omega)
  k_with "binaryOp LShift int int" => ((with_reducible show wpAny _ _ (binaryOp _ (Value.int (Builtin.bitAnd _ _) _) _) _ _ _); refine lshift_int_small (by decide) (by decide) (bit_small (by decide) (by decide)) ?_)
  k_with "getMethod str" => with_reducible refine gm_encode ?_
  k_with "call builtin:bytes.upper" => (refine call_upper (by size_fits) ?_; intro _ _)
  k_with "call builtin:bytes.hex" => (refine call_hex (by size_fits) ?_; intro _ _)
  k_with "call builtin:bytes.translate" => (refine call_translate (by decide +kernel) (by size_fits) ?_; intro _ _)
  k_with "exec For Tuple Name cons nil" => k_dflt (refine wpAny_For ?_)
  k_with "eval ListComp" => ((with_reducible show wpAny _ _ (eval (Expr.ListComp _ [⟨_, Expr.Call _ _ _ _, _, _⟩] _ _) _) _ _ _); k_dflt (refine comp_step (by k_asm) (by with_unfolding_all rfl) (by decide) (by rfl) (by decide) (by rfl) ?_))
  k_with "call builtin:str.encode" => ((k_dflt (refine encB_use (by assumption) ?_)); intro _ _)
  k_with "callWith ref" => (k_dflt (refine callWith_F (FnAt.of (by k_asm) (by k_extra "tails")) ?_; k_whole))
  k_with "FnAt" => (k_dflt (exact FnAt.of (by k_asm) (by k_extra "tails")))
  k_with "And" => ((with_reducible show FnAt _ _ ∧ _); k_dflt (refine ⟨FnAt.of (by k_asm) (by k_extra "tails"), ?_⟩); try dsimp only [List.nil_append, List.cons_append])
  k_with "call type:bytes" => ((k_dflt (refine KBa.make_K (by k_asm) (by k_asm) rfl (pre_list (by k_asm) (by k_extra "tails")) (by assumption) (by assumption) (by omega) ?_)); intro _ _ _ F' N' _)
  k_with "compareOp NotEq bytes bytes" => (k_dflt (refine ne_sameB ?_))
  k_with "call builtin:str.startswith" => (k_dflt (refine swS_use (by assumption) ?_))
  k_with "subscriptTail" => ((with_reducible show wpAny _ _ (subscriptTail _ _ (Value.str _ _) (Value.int _ _)) _ _ _); k_dflt (refine item_sm (in_zero (by assumption) (by assumption)) ?_); intro _)
  k_with "compareOp NotEq bool bool" => (k_dflt (refine nb_same (by first | rfl | (rw [decide_eq_decide]; omega) | (rw [hU9 _ (by omega) (by assumption), decide_eq_decide]; omega)) ?_))
  k_with "execs cons" => ((with_reducible show wpAny _ _ (execs (Stmt.Assign [Expr.Name (Str.ofString "late") _] _ _ :: _) _) _ _ _); refine stop_here ?_)
  k_with "compareOp Eq str str" => (k_dflt (refine eqS_use (by assumption) ?_))
  k_with "compareOp In str str" => (k_dflt (refine inS_use (by assumption) ?_))
  k_with "compareOp NotEq str str" => (k_dflt (refine ne_same ?_))
  refine Mine.hd ?_
  k_go0; (all_goals try k_fold); (try dsimp only)
  refine' cut_oct ?k1 ?k2 ?k3 ?k4
  case k1 => k_asm
  case k2 => k_asm
  case k3 =>
    k_steps
    · exact oct_end1 (by assumption) (by assumption) (by assumption) (by assumption) (by assumption)
    · exact oct_end2 (by assumption) (by assumption) (by assumption)
  case k4 =>
    intro h5 tk5 l5 vs5 ns5 k5 F5 N5 off5 hI5 h51 h56 hr5
    have off6 := neN (off5 _ (List.Mem.head _))
    have off7 := neN (off5 _ (List.Mem.tail _ (List.Mem.head _)))
    clear off5
    dsimp only at off6 off7
    k_steps
    (rename News _ _ _ _ => N6)
    (rename Fr _ _ _ _ => F6)
    refine list_forT (ts := [_, _, _, _]) rfl F6 (news_pull [_, _, _, _, _, _, _, _, _, _, _, _, _, _] [_] N6) (List.Mem.head _) ?_ (fun _ _ m o => m (Str.ofString "octets") = some (.ref l5) ∧ ∃ v, o.data = .cell v) ⟨rfl, _, by assumption⟩ ?_ ?_
    · intro p hp b hb
      rw [List.mem_singleton.mp hb]
      simp only [List.cons_append, List.nil_append, List.mem_cons, List.not_mem_nil, or_false] at hp
      rcases hp with rfl | rfl | rfl | rfl | rfl | rfl | rfl | rfl | rfl | rfl | rfl | rfl | rfl | rfl | rfl <;> k_ne
    · intro i T m₁ o₁ h₁ tk₁ own hi hT hJ hsub hO F₁ N₁
      obtain ⟨hm, v₁, ho⟩ := hJ
      rw [fnorm1 _ hm] at F₁
      rename World => w9
      obtain ⟨f, c, fd, oC, pre, sg, wd, sz, hdS, due, a1, a2, a3, a4, a5, hT1, hF1, hC1, hpre, hW⟩ : ∃ f c fd oC pre sg wd sz hdS due a1 a2 a3 a4 a5, (T, ({ cls := Value.type "tuple", data := Data.seq #[Value.ref f, Value.str sg a1, Value.int wd a2, Value.int sz a3, Value.str hdS a4, Value.str due a5] } : Obj)) ∈ own ∧ (f, ({ cls := Value.type "function", data := Data.func fd } : Obj)) ∈ own ∧ (c, oC) ∈ own ∧ (∀ h : Heap, h.get? f = some ({ cls := Value.type "function", data := Data.func fd } : Obj) → h.get? c = some oC → pre h) ∧ Ways w9 f pre l5 vs5 ns5 sg wd sz hdS due := by
        match i, hi, hT with
        | 0, _, hT =>
          have e := Option.some.inj hT
          subst e
          exact ⟨_, _, _, _, _, _, _, _, _, _, _, _, _, _, _, hsub _ (List.mem_append_left _ (List.Mem.tail _ (List.Mem.tail _ (List.Mem.tail _ (List.Mem.tail _ (List.Mem.tail _ (List.Mem.tail _ (List.Mem.tail _ (List.Mem.tail _ (List.Mem.tail _ (List.Mem.tail _ (List.Mem.head _)))))))))))), hsub _ (List.mem_append_left _ (List.Mem.tail _ (List.Mem.tail _ (List.Mem.tail _ (List.Mem.tail _ (List.Mem.tail _ (List.Mem.tail _ (List.Mem.tail _ (List.Mem.tail _ (List.Mem.tail _ (List.Mem.tail _ (List.Mem.tail _ (List.Mem.head _))))))))))))), hsub _ (List.mem_append_left _ (List.Mem.tail _ (List.Mem.tail _ (List.Mem.tail _ (List.Mem.tail _ (List.Mem.tail _ (List.Mem.tail _ (List.Mem.tail _ (List.Mem.tail _ (List.Mem.tail _ (List.Mem.tail _ (List.Mem.tail _ (List.Mem.tail _ (List.Mem.head _)))))))))))))), fun h e1 e2 => ⟨e1, _, _, _, _, rfl, e2, by assumption, by assumption⟩, ways64 (fun b t hb => lam1 _ _ _ _ _ _ _ _ _ _ b t hb) hI5 h51 h56 hr5⟩
        | 1, _, hT =>
          have e := Option.some.inj hT
          subst e
          exact ⟨_, _, _, _, _, _, _, _, _, _, _, _, _, _, _, hsub _ (List.mem_append_left _ (List.Mem.tail _ (List.Mem.tail _ (List.Mem.tail _ (List.Mem.tail _ (List.Mem.tail _ (List.Mem.tail _ (List.Mem.tail _ (List.Mem.head _))))))))), hsub _ (List.mem_append_left _ (List.Mem.tail _ (List.Mem.tail _ (List.Mem.tail _ (List.Mem.tail _ (List.Mem.tail _ (List.Mem.tail _ (List.Mem.tail _ (List.Mem.tail _ (List.Mem.head _)))))))))), hsub _ (List.mem_append_left _ (List.Mem.tail _ (List.Mem.tail _ (List.Mem.tail _ (List.Mem.tail _ (List.Mem.tail _ (List.Mem.tail _ (List.Mem.tail _ (List.Mem.tail _ (List.Mem.tail _ (List.Mem.head _))))))))))), fun h e1 e2 => ⟨e1, _, _, _, _, rfl, e2, by assumption, by assumption⟩, ways64 (fun b t hb => lam2 _ _ _ _ _ _ _ _ _ _ b t hb) hI5 h51 h56 hr5⟩
        | 2, _, hT =>
          have e := Option.some.inj hT
          subst e
          exact ⟨_, _, _, _, _, _, _, _, _, _, _, _, _, _, _, hsub _ (List.mem_append_left _ (List.Mem.tail _ (List.Mem.tail _ (List.Mem.tail _ (List.Mem.tail _ (List.Mem.head _)))))), hsub _ (List.mem_append_left _ (List.Mem.tail _ (List.Mem.tail _ (List.Mem.tail _ (List.Mem.tail _ (List.Mem.tail _ (List.Mem.head _))))))), hsub _ (List.mem_append_left _ (List.Mem.tail _ (List.Mem.tail _ (List.Mem.tail _ (List.Mem.tail _ (List.Mem.tail _ (List.Mem.tail _ (List.Mem.head _)))))))), fun h e1 e2 => ⟨e1, _, _, _, _, rfl, e2, by assumption, by assumption⟩, ways64u (fun b t hb => lam3 _ _ _ _ _ _ _ _ _ _ b t hb) hI5 h51 h56 hr5⟩
        | 3, _, hT =>
          have e := Option.some.inj hT
          subst e
          exact ⟨_, _, _, _, _, _, _, _, _, _, _, _, _, _, _, hsub _ (List.mem_append_left _ (List.Mem.tail _ (List.Mem.head _))), hsub _ (List.mem_append_left _ (List.Mem.tail _ (List.Mem.tail _ (List.Mem.head _)))), hsub _ (List.mem_append_left _ (List.Mem.tail _ (List.Mem.tail _ (List.Mem.tail _ (List.Mem.head _))))), fun h e1 e2 => ⟨e1, _, _, _, _, rfl, e2, by assumption, by assumption⟩, ways16 (fun b t hb => lam4 _ _ _ _ _ _ _ _ _ _ b t hb) hI5 h51 h56 hr5⟩
        | n + 4, hi, _ => exact absurd hi (by simp)
      have hl5 := hsub _ (List.mem_append_left _ (by k_mem : (l5, W.listOf vs5.toArray k5) ∈ _))
      clear hsub hT hi
      obtain ⟨x0, y0, n0, hCW, hEnc, hCB0, hy0, hn1, hn2, hCL0, hdl, hlate⟩ := hW
      have hy4 : y0.toList.length = 2 * n0 := by simpa using hy0
      have hr6 : KBa.In ns5 := hr5
      have hT2 : IsTup h₁ T #[Value.ref f, Value.str sg a1, Value.int wd a2, Value.int sz a3, Value.str hdS a4, Value.str due a5] := News.isTup N₁ (List.Mem.tail _ hT1)
      k_steps
      refine ⟨_, 0, y0.size, 2, _, _, _, n0, _, rfl, rfl, by assumption, by assumption, by assumption, ?_, ?_, ?_, fun s₂ hs₂ => ?_⟩
      · rw [hy0]; exact (small2 ⟨n0, by omega⟩).1
      · rw [hy0]; exact (small2 ⟨n0, by omega⟩).2
      · rw [sizeLine_eq]; omega
      obtain ⟨h6, rfl⟩ := hs₂
      refine compRest_of n0 (fun i ys => StrsAre ys (rowsN (KBw.bInts y0) i)) trivial ?_ ?_ n0 0 [] rfl .nil
      · intro i v ys I oI C oC D m₂ h tk hi hP hY hO hx F6 N6
        obtain ⟨t6, rfl⟩ := hP
        k_steps
        exact ⟨_, _, rfl, by assumption, by assumption, strs_row hY (getD_b _ _ _ (by omega)) (getD_b _ _ _ (by omega))⟩
      · intro ys hY D h tk F6 N6 off6
        k_steps
        refine join_list (items := ys.toArray) (ys := rowsN (KBw.bInts y0) n0) ⟨_, N6.get (List.Mem.head _), rfl, _, rfl⟩ hY (by rw [rowsN_sum, rowsN_len]; rw [show (Str.ofString "").length = 0 from rfl]; omega) ?_
        intro t8 k8
        have hln : (listS (KBw.bInts y0) n0).length = 10 * n0 := listS_len _ _
        have hln1 : 0 < (listS (KBw.bInts y0) n0).length := by omega
        have hln2 : (listS (KBw.bInts y0) n0).length ≤ 4096 := by omega
        k_steps
        refine' cut_late (fun j => 0 ≤ j ∧ j ≤ 2 ∧ Four w9 f pre sz due (listS (KBw.bInts y0) n0) j) ?g1 ?g2 ?g3 ?g4
        case g1 => k_asm
        case g2 => k_asm
        case g3 =>
          rcases hlate with ⟨hl1, hf⟩ | ⟨hl1, hl2, hf⟩ | ⟨hl1, hl2, hf⟩
          all_goals k_steps
          all_goals exact ⟨rfl, _, _, _, _, rfl, by assumption, by assumption, hf⟩
        case g4 =>
          clear hlate hCB0 hCL0 hCW hEnc
          intro h8 tk8 j t7 F8 N8 hP
          obtain ⟨hj0, hj2, hF⟩ := hP
          obtain ⟨X9, U9, hX9, hS9, hU9, hL9⟩ := four_seq hF hln2
          clear hF
          k_with "exec For Name Call cons nil" => k_dflt (refine wpAny_For ?_)
          k_with "pyIter ref" => ((with_reducible show wpAny _ _ (pyIter (Value.ref _)) _ _ _); refine stop_here ?_)
          k_steps
          (rename News _ _ _ _ => N9)
          (rename Fr _ _ _ _ => F9)
          (rename IsRange _ _ _ _ _ _ _ _ => R9)
          refine range_forT (n := 4) rfl R9 rfl rfl F9 N9 (off_own off6) (fun i m o => o = LCg.lst ys ∧ m (Str.ofString "writer") = some (.ref f) ∧ m (Str.ofString "size") = some (.int sz a3) ∧ m (Str.ofString "due") = some (.str due a5) ∧ m (Str.ofString "late") = some (.int j t7) ∧ m (Str.ofString "octets") = some (.ref l5) ∧ ∃ tx, m (Str.ofString "listing") = some (.str (X9 i) tx)) ⟨rfl, rfl, rfl, rfl, rfl, rfl, _, by rw [hX9]; rfl⟩ ?_ ?_
          · intro i t9 m₂ o₂ h₂ tk₂ own₂ hi hJ hsub F₂ N₂
            obtain ⟨rfl, hm1, hm2, hm3, hm4, hm5, tx, hm6⟩ := hJ
            rw [fnorm5 _ _ _ _ _ hm1 hm2 hm3 hm4 hm6] at F₂
            have hF2 := hsub _ (List.Mem.tail _ hF1)
            have hC2 := hsub _ (List.Mem.tail _ hC1)
            clear hsub
            have hl9 := hL9 i hi
            obtain ⟨b2, c2, p1, p2, p3, p4, p5, p6⟩ := hS9 i hi
            clear hS9 hL9
            generalize X9 i = x9 at *
            generalize hx' : X9 (i + 1) = x8 at *
            k_steps
            all_goals exact ⟨_, _, _, _, rfl, by assumption, by assumption, rfl, by rfl, by rfl, by rfl, by rfl, by exact hm5, _, by rfl⟩
          · intro m₂ o₂ h₂ tk₂ hJ F₂ N₂
            obtain ⟨rfl, hm1, hm2, hm3, hm4, hm5, tx, hm6⟩ := hJ
            k_steps
            exact ⟨_, _, _, _, rfl, by assumption, fun p hp => N₂ p (List.Mem.tail _ hp), hm5, _, by assumption⟩
    · intro m' o' h' tk hJ F₇ N₇
      k_steps
      all_goals w_report
