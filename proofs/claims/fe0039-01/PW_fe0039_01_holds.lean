import PyProof.Rows.All
import Wide.All
import OpenK.AllK
import Wide.FinOn
import PySem.Challenge.RW_fe0039_01
open PySem PySem.W PyProof.Rows
set_option Elab.async false
set_option linter.unusedVariables false

namespace Mine
-- Top1
section
set_option maxRecDepth 100000
set_option maxHeartbeats 8000000
open_top hd for PySem.Challenge.rw_fe0039_01
end

-- MBase
section
set_option maxRecDepth 100000
set_option maxHeartbeats 8000000
open PySem.Calls
/-- what a call that comes back asks of its caller: everything that stood still stands; tl is new and lies above -/
abbrev BackTo (h₀ : Heap) (L : Addr) (m : Str → Option Value) (s : Shared) (Q : Value → Shared → Prop) (Post : Value → List (Addr × Obj) → Prop) : Prop :=
  ∀ (v : Value) (tl : List (Addr × Obj)) (h' : Heap) (tk' : Nat), Fr h₀ L h' m → (∀ b o, s.heap.get? b = some o → h'.get? b = some o) → News h₀ L h' tl → (∀ p ∈ tl, s.heap.get? p.1 = none) → Post v tl → Q v { s with heap := h', toks := tk' }
/-- what a call that raises asks of its caller -/
abbrev RaiseTo (base h₀ : Heap) (L : Addr) (m : Str → Option Value) (s : Shared) (env : Env) (outer : List Env) (E : Value → Shared → Prop) (cls : String) (Ex : Prop) : Prop :=
  ∀ (g : Heap) (e : Addr) (h' : Heap) (tk' : Nat), g = s.heap → Fr h₀ L g m → RaisedSN base g (env :: outer) e (.type cls) [] h' → g.UpToSlots h' → Ex → E (.ref e) { s with heap := h', toks := tk' }
/-- the contract of a def: called with these arguments where Pre holds, it comes back with Post, or raises a ValueError where Ex holds -/
abbrev Con (w : World) (mean : ExcName → Option Value) (mg mb : Str → Option Value) (f : Addr) (vs : List Value) (kw : List (Str × Value)) (Pre : Heap → Prop) (Post : Value → List (Addr × Obj) → Prop) (Ex : Prop) (n : Nat := 40) : Prop :=
  ∀ (dp un : Nat) (gd : Option (List Code)) (cn : Str) (cs : Scope) (a : Addr) (ccd : Value) (cl : List (Str × Addr)) (outer : List Env) (A₀ : Around) (base h₀ : Heap) (L : Addr) (m : Str → Option Value) (s : Shared) (Q E : Value → Shared → Prop),
    Below A₀ base outer h₀ → Fr h₀ L s.heap m → (hd.heap_39 w.params).In h₀ → Top hd.view_39 (looseW hd.view_39 [Str.ofString "b58decode_int", Str.ofString "b58decode"]) mean mg mb h₀ →
    Glob 0 mg mb (List.map itemOf (recsOf hd.view_39)) (scalarsOf [] ++ constsW hd.view_39) [] (namesW hd.view_39 [Str.ofString "b58decode_int", Str.ofString "b58decode"]) base → (hd.heap_39 w.params).In base → Top hd.view_39 (looseW hd.view_39 [Str.ofString "b58decode_int", Str.ofString "b58decode"]) mean mg mb base → cs.kind = .function → dp + n < recursionLimit → un + (n + 60) < cLine →
    Pre s.heap → BackTo h₀ L m s Q Post → RaiseTo base h₀ L m s (envX cn cs L a ccd cl) outer E "ValueError" Ex →
    wpAny (model PySem.Challenge.rw_fe0039_01.row.prog w) (ktrTop dp un gd cn cs L a ccd cl outer) (call (.ref f) vs kw) Q E s
section
variable {prog : Program} {w : World} {A A₀ : Around} {E : Value → Shared → Prop} {s : Shared} {K : Frag} {C L : Addr} {h₀ base : Heap} {m mg mb : Str → Option Value} {p : Program} {loose : List Str} {mean : ExcName → Option Value} {Q : Value → Shared → Prop}
theorem code_def0 {env : Env} {outer : List Env} {R : Result → Shared → Prop} {name qual : Str} {params : Arguments} {body : List Stmt} {scope : Scope} {dV kV doc pm cdv ct oc : Value} {an od : Option Addr} {osl : Array (Option Value)} {f : Addr} {args : Args} {binds : List (Str × Value)}
    (B : Below A₀ base outer h₀) (F : Fr h₀ L s.heap m) (X₀ : K.In h₀) (T : Top p loose mean mg mb h₀) (hA : A.frames = some (env :: outer)) (hf : env.frame = some L) (hke : env.scope.kind = .function)
    (ho : K.lookup f = some ⟨oc, od, .func (fnOf name qual params body scope dV kV doc pm an cdv ct), osl⟩) (hcd : codeIn K cdv qual = true) (hroom : A.depth < recursionLimit)
    (hbind : BindsTo s (fnOf name qual params body scope dV kV doc pm an cdv ct) args binds) (hloc : ∀ y ∈ binds, scope.names.lookup y.1 = some .local)
    (h : ∀ g L' h₁, g = s.heap → L' = g.objs.size → Fr h₀ L g m → Fr g L' h₁ (fun y => binds.reverse.lookup y) → News g L' h₁ [] → Below A base (env :: outer) g → K.In g → Top p loose mean mg mb g →
      wpAny (model prog w) (A.deeper (envOf qual scope L' f cdv)) (execs body (envOf qual scope L' f cdv))
        (fun fl s' => LeaveK h₀ L m g R (match fl with | .ret v => v | _ => .none) s')
        (fun e s' => wpAny (model prog w) (A.deeper (envOf qual scope L' f cdv)) (leaving (envOf qual scope L' f cdv) e) (fun _ s'' => R (.error e) s'') (fun e' s'' => R (.error e') s'') s')
        { s with heap := h₁, toks := s.toks + binds.length })
    (hco : scope.isCoroutine = false) (hgen : scope.isGenerator = false) (hk : scope.kind = .function)
    (hcell : ∀ x ∈ scope.names, x.2 ≠ .cell) : codeAny (model prog w) A (.call (.ref f) args) R s := by
  obtain ⟨FG, BG, st, lv⟩ := groundX (R := R) (news := []) B F News.nil hA hf hke
  refine codeAny_call_def (fd := fnX name qual params body scope [] dV kV doc pm an cdv ct) (body := body) (binds := binds) hroom ((X₀.keeps F.keep) _ _ ho) rfl (T.nolimit.keeps F.keep) (codeRec_of (X₀.keeps F.keep) hcd) rfl hbind hcell hloc (fun h₁ hns hk₁ => ?_) hco hgen hk
  exact wpAny_mono (h s.heap s.heap.objs.size h₁ rfl rfl FG ⟨hns, hk₁, Nat.le_refl _⟩ News.nil BG (X₀.keeps st) (T.keeps st)) (fun fl s' hl => lv _ _ hl) fun _ _ y => y
theorem code_defC0 {env : Env} {outer : List Env} {R : Result → Shared → Prop} {name qual : Str} {params : Arguments} {body : List Stmt} {scope : Scope} {dV kV doc pm cdv ct oc : Value} {an od : Option Addr} {osl : Array (Option Value)} {f : Addr} {args : Args} {binds : List (Str × Value)}
    (B : Below A₀ base outer h₀) (F : Fr h₀ L s.heap m) (X₀ : K.In h₀) (T : Top p loose mean mg mb h₀) (hA : A.frames = some (env :: outer)) (hf : env.frame = some L) (hke : env.scope.kind = .function)
    (ho : K.lookup f = some ⟨oc, od, .func (fnOf name qual params body scope dV kV doc pm an cdv ct), osl⟩) (hcd : codeIn K cdv qual = true) (hroom : A.depth < recursionLimit)
    (hbind : BindsTo s (fnOf name qual params body scope dV kV doc pm an cdv ct) args binds) (hkind : (binds.all fun y => scope.names.lookup y.1 == some .local || scope.names.lookup y.1 == some .cell) = true)
    (hnd : ((cellsFrom 0 scope.names []).map (·.1)).Nodup)
    (h : ∀ g L' h₁ tk cells, g = s.heap → L' = g.objs.size → Fr h₀ L g m → Fr g L' h₁ (bindL (envOfC qual scope L' f cdv).kindOf binds fun _ => none) → News g L' h₁ cells →
      CellsAre (bindC (envOfC qual scope L' f cdv).kindOf binds fun _ => none) (cellsFrom (L' + 1) scope.names []) cells → Below A base (env :: outer) g → K.In g → Top p loose mean mg mb g →
      wpAny (model prog w) (A.deeper (envOfC qual scope L' f cdv)) (execs body (envOfC qual scope L' f cdv))
        (fun fl s' => LeaveK h₀ L m g R (match fl with | .ret v => v | _ => .none) s')
        (fun e s' => wpAny (model prog w) (A.deeper (envOfC qual scope L' f cdv)) (leaving (envOfC qual scope L' f cdv) e) (fun _ s'' => R (.error e) s'') (fun e' s'' => R (.error e') s'') s')
        { s with heap := h₁, toks := tk })
    (hco : scope.isCoroutine = false) (hgen : scope.isGenerator = false) (hk : scope.kind = .function) : codeAny (model prog w) A (.call (.ref f) args) R s := by
  obtain ⟨FG, BG, st, lv⟩ := groundX (R := R) (news := []) B F News.nil hA hf hke
  refine codeAny_call_function hroom ((X₀.keeps F.keep) _ _ ho) (fd := fnX name qual params body scope [] dV kV doc pm an cdv ct) rfl hco hgen rfl (codeRec_of (X₀.keeps F.keep) hcd) (hbind _ _ _ _ ?_)
  refine wpAny_newFunctionEnv_cells hk (kindsX hkind _) fun env' he s' x => ?_
  subst he
  refine ⟨(T.nolimit.keeps F.keep).keeps x.toInCall.keep, codeAny_func ?_⟩
  obtain ⟨h₁, tk, rfl, _⟩ := x.done
  have hk₁ := x.toInCall.keep
  obtain ⟨cells, NC, Y⟩ := Cl.news (h₀ := s.heap) (Nat.le_refl _) fun n c hm => ⟨x.cell n c (lookup_of_mem_nodup (cellsFrom_names scope.names 0 (s.heap.objs.size + 1) [] [] rfl ▸ hnd) hm), x.above n c hm⟩
  exact wpAny_mono (h s.heap s.heap.objs.size h₁ tk cells rfl rfl FG ⟨x.toInCall.ns, hk₁, Nat.le_refl _⟩ NC Y BG (X₀.keeps st) (T.keeps st)) (fun fl s' hl => lv _ _ hl) fun _ _ y => y
end
end

-- MTac
section
set_option maxRecDepth 100000
set_option maxHeartbeats 8000000
-- how the arguments are bound: by computation, or by a fact in hand
end
local macro_rules | `(tactic| walk_at "own binds") => `(tactic| first | exact BindsTo.of_eq rfl | assumption | exact binds_K (by k_in) rfl (by k_is) rfl rfl rfl | fail "own enter: no rule for these arguments")
local macro_rules | `(tactic| walk_at "own enter") => `(tactic| (refine wpAny_call ?_; k_dflt (first
  | (refine' code_def0 ?k1 ?k2 ?k3 ?k5 ?kA ?kF ?kK ?k6 ?k7 ?k8 ?k9 ?kB ?_ ?c2 ?c3 ?c4 ?c5; (case kA => exact rfl); (case kF => exact rfl); (case kK => assumption); (case k1 => k_asm); (case k2 => k_asm); (case k3 => k_asm); (case k5 => k_asm); (case k6 => k_is); (case k7 => k_is); (case k8 => ktr_room); (case k9 => walk_at "own binds"); (case c5 => decide); (case kB => exact locs rfl); (case c2 => exact rfl); (case c3 => exact rfl); (case c4 => exact rfl); k_whole; intro g' L' h' hg' hL' FG' F' N' B' X' T'; (try dsimp only); (try k_lift B'); (try k_fold))
  | (refine' code_defC0 ?k1 ?k2 ?k3 ?k5 ?kA ?kF ?kK ?k6 ?k7 ?k8 ?k9 ?kB ?kD ?_ ?c2 ?c3 ?c4; (case kA => exact rfl); (case kF => exact rfl); (case kK => assumption); (case k1 => k_asm); (case k2 => k_asm); (case k3 => k_asm); (case k5 => k_asm); (case k6 => k_is); (case k7 => k_is); (case k8 => ktr_room); (case k9 => walk_at "own binds"); (case kB => exact rfl); (case kD => decide +kernel); (case c2 => exact rfl); (case c3 => exact rfl); (case c4 => exact rfl); k_whole; intro g' L' h' tk' cells' hg' hL' FG' F' N' Y' B' X' T'; k_cells Y'; (try simp only [List.cons_append, List.nil_append] at N'); (try dsimp only); (try k_lift B'); (try k_fold)))))

-- MBytes
section
set_option maxRecDepth 100000
set_option maxHeartbeats 8000000
open PySem.Calls
open Builtin
theorem slot_rstrip : Slot "bytes" "rstrip" "bytes.rstrip" :=
  .of (owner := "bytes") (n := "rstrip") (by rw [typeLookup_type, builtinLookup_eq_fast]; kernel_rfl) (by decide +kernel) (by decide +kernel) (by decide +kernel)
    (by first | exact .inl (by decide +kernel) | exact .inr (by decide +kernel)) (by rw [isSubtype_type]; kernel_rfl)
theorem type_rstrip : typeOf (.builtin "bytes.rstrip") = pure (.type "method_descriptor") := by show builtinType _ = _; rw [builtinType_eq_fast]; kernel_rfl
theorem entry_rstrip : entryFor table "bytes.rstrip" = some Builtin.«bytes.rstrip» := entryFor_of_tree (by kernel_rfl)
theorem args_rstrip_1 (a : Value) : argsOk "bytes.rstrip" ⟨[a], []⟩ := by
  unfold argsOk; rw [signature?_of (id := "bytes.rstrip") (n := ['p', 'i', 'r', 't', 's', 'r']) (o := ['s', 'e', 't', 'y', 'b']) (by kernel_rfl) FB.owner_bytes]; kernel_rfl
theorem slot_lstrip : Slot "bytes" "lstrip" "bytes.lstrip" :=
  .of (owner := "bytes") (n := "lstrip") (by rw [typeLookup_type, builtinLookup_eq_fast]; kernel_rfl) (by decide +kernel) (by decide +kernel) (by decide +kernel)
    (by first | exact .inl (by decide +kernel) | exact .inr (by decide +kernel)) (by rw [isSubtype_type]; kernel_rfl)
theorem type_lstrip : typeOf (.builtin "bytes.lstrip") = pure (.type "method_descriptor") := by show builtinType _ = _; rw [builtinType_eq_fast]; kernel_rfl
theorem entry_lstrip : entryFor table "bytes.lstrip" = some Builtin.«bytes.lstrip» := entryFor_of_tree (by kernel_rfl)
theorem args_lstrip_2 (a b : Value) : argsOk "bytes.lstrip" ⟨[a, b], []⟩ := by
  unfold argsOk; rw [signature?_of (id := "bytes.lstrip") (n := ['p', 'i', 'r', 't', 's', 'l']) (o := ['s', 'e', 't', 'y', 'b']) (by kernel_rfl) FB.owner_bytes]; kernel_rfl
section
variable {prog : Program} {w : World} {A : Around} {E : Value → Shared → Prop} {s : Shared} {b c : Array UInt8} {t u : Tok}
theorem meth_rstrip {M : Model} {pl : Sem Bool} {Q : Value × List Value → Shared → Prop} (h : Q (.builtin "bytes.rstrip", [.bytes b t]) s) : wpAny M A (getMethod (.bytes b t) "rstrip" pl) Q E s := by
  with_reducible exact KBd.method_of (.bytes b t) (typeIs_bytes _ _ _) slot_rstrip type_rstrip KBd.noRef h
theorem meth_lstrip {M : Model} {pl : Sem Bool} {Q : Value × List Value → Shared → Prop} (h : Q (.builtin "bytes.lstrip", [.bytes b t]) s) : wpAny M A (getMethod (.bytes b t) "lstrip" pl) Q E s := by
  with_reducible exact KBd.method_of (.bytes b t) (typeIs_bytes _ _ _) slot_lstrip type_lstrip KBd.noRef h
theorem rstrip_tree : «bytes.rstrip» ⟨[.bytes b t], []⟩ =
    (if ((b.toList.reverse.dropWhile Bytes.isSpace).reverse.length == b.size) = true then (do rule "bytes.rstrip.unchanged"; ret (.bytes b t)) else (do let v ← mkBytes (b.toList.reverse.dropWhile Bytes.isSpace).reverse.toArray; ret v)) := by
  kernel_rfl
theorem dropWhile_none {α : Type} {p : α → Bool} : ∀ {l : List α}, (∀ x ∈ l, p x = false) → l.dropWhile p = l
  | [], _ => rfl
  | x :: r, h => by rw [List.dropWhile_cons, h x (.head _)]; rfl
theorem call_rstrip {Q : Value → Shared → Prop} (hn : ∀ x ∈ b.toList, Bytes.isSpace x = false) (h : Q (.bytes b t) s) :
    wpAny (model prog w) A (call (.builtin "bytes.rstrip") [.bytes b t]) Q E s := by
  refine wpAny_call_entry slot_rstrip (typeIs_bytes _ _ _) entry_rstrip ?_ (args_rstrip_1 _)
  rw [rstrip_tree, dropWhile_none (fun x hx => hn x (List.mem_reverse.mp hx)), List.reverse_reverse]
  rw [if_pos (by simp)]
  exact wpAny_bind (wpAny_rule (wpAny_pure ⟨_, rfl, h⟩))
theorem lstrip_tree : «bytes.lstrip» ⟨[.bytes b t, .bytes c u], []⟩ =
    (do
      let set ← Bytes.bytesLike "bytes.lstrip" (.bytes c u)
      if ((b.toList.dropWhile set.contains).length == b.size) = true then (do rule "bytes.lstrip.unchanged"; ret (.bytes b t)) else (do let v ← mkBytes (b.toList.dropWhile set.contains).toArray; ret v)) := by
  rw [KBd.like_eq]
  kernel_rfl
theorem dropWhile_all {α : Type} {p : α → Bool} : ∀ {l : List α}, (l.dropWhile p).length = l.length → l.dropWhile p = l
  | [], _ => rfl
  | x :: r, h => by
    rw [List.dropWhile_cons] at h ⊢
    cases hp : p x with
    | false => rfl
    | true =>
      rw [hp] at h
      simp only [if_true] at h
      have := (List.dropWhile_suffix (l := r) p).sublist.length_le
      simp only [List.length_cons] at h
      omega
theorem call_lstrip {Q : Value → Shared → Prop} (hz : b.size ≤ sizeLine) (h : ∀ t' k, Q (.bytes (b.toList.dropWhile c.contains).toArray t') { s with toks := k }) :
    wpAny (model prog w) A (call (.builtin "bytes.lstrip") [.bytes b t, .bytes c u]) Q E s := by
  refine wpAny_call_entry slot_lstrip (typeIs_bytes _ _ _) entry_lstrip ?_ (args_lstrip_2 _ _)
  rw [lstrip_tree, KBd.like_eq]
  refine wpAny_bind (wpAny_pure ?_)
  split
  · rename_i e
    have e' : b.toList.dropWhile c.contains = b.toList := dropWhile_all (by simpa using e)
    rw [e'] at h
    exact wpAny_bind (wpAny_rule (wpAny_pure ⟨_, rfl, by simpa using h t s.toks⟩))
  · refine wpAny_bind (wpAny_mkBytes (wpAny_pure ⟨_, rfl, h _ _⟩) ?_)
    rw [List.size_toArray]
    refine Nat.le_trans (List.dropWhile_suffix (l := b.toList) _).sublist.length_le ?_
    simpa using hz
/-- b' ' not in b -/
theorem find_none {b : Array UInt8} (h : ∀ x ∈ b.toList, x ≠ 32) : Bytes.find? b #[32] 0 b.size = none := by
  unfold Bytes.find?
  rw [List.find?_eq_none]
  intro i hi he
  have e : b.extract i (i + 1) = #[32] := by simpa using he
  have hz : (b.extract i (i + 1)).size = 1 := by rw [e]; rfl
  rw [Array.size_extract] at hz
  have hlt : i < b.size := by omega
  have hg : (b.extract i (i + 1))[0]? = some b[i] := by
    rw [Array.getElem?_extract]; simp [hlt]; omega
  rw [e] at hg
  exact h b[i] (by simp) (by simpa using hg.symm)
theorem noIndex_bytes : typeLookup (.type "bytes") "__index__" = pure none := by rw [typeLookup_type, builtinLookup_eq_fast]; kernel_rfl
theorem asInt_bytes : asInt? (.bytes c u) = pure none := by kernel_rfl
theorem name_bytes : typeNameOfCut 200 (.bytes c u) = pure "bytes" := by kernel_rfl
theorem notin_space {Q : Value → Shared → Prop} (hh : A.handled = none) (hn : ∀ x ∈ b.toList, x ≠ 32)
    (h : ∀ h' tk, (∀ a o, s.heap.get? a = some o → h'.get? a = some o) → Q (.bool true) { s with heap := h', toks := tk }) :
    wpAny (model prog w) A (compareOp .NotIn (.bytes #[32] u) (.bytes b t)) Q E s := by
  show wpAny _ _ (contains (.bytes b t) (.bytes #[32] u) >>= fun v => pure (Value.bool (!v))) Q E s
  refine wpAny_bind (wpAny_contains_slot (typeIs_bytes _ _ _) FB.slot_bytes_contains ?_)
  refine wpAny_call_entry FB.slot_bytes_contains (typeIs_bytes _ _ _) FB.entry_bytes_contains ?_ (FB.args_bytes_contains_2 _ _)
  show wpAny _ _ (Bytes.containsIn "bytes.__contains__" (.bytes b t) (.bytes #[32] u) >>= fun v => ret (.bool v)) _ _ s
  refine wpAny_bind ?_
  unfold Bytes.containsIn
  refine wpAny_bind (wpAny_attempt ?_)
  unfold asIndex
  rw [asInt_bytes]
  refine wpAny_bind (wpAny_pure ?_)
  refine wpAny_bind (wpAny_pure ?_)
  refine wpAny_bind (wpAny_of_eq name_bytes ?_)
  refine wpAny_raiseTypeError (A := A.in1) hh (fun h' tk e hx => ?_) (by decide +kernel)
  refine wpAny_bind ?_
  rw [KBy.buffer_eq]
  refine wpAny_pure ?_
  dsimp only
  refine wpAny_bind ?_
  rw [KBy.buffer_eq]
  refine wpAny_pure ?_
  dsimp only
  refine wpAny_bind (wpAny_rule (wpAny_pure ?_))
  rw [find_none hn]
  refine wpAny_pure ⟨_, rfl, ?_⟩
  exact wpAny_truthy_bool (wpAny_pure (h h' tk hx.keeps))
end
end

-- MEnc
section
set_option maxRecDepth 100000
set_option maxHeartbeats 8000000
open PySem.Calls
open Builtin Builtin._codecs
theorem encodeRoad_ascii (id : String) (self : Value) (x : Str) (errors : Option Str) : encodeRoad id self x (Str.ofString "ascii") errors = (do mkBytes (← encodeNarrow id asciiCodec errors self x)) := by
  first | rfl | (unfold encodeRoad; rfl) | (unfold encodeRoad; simp only []; rfl) | decide
theorem encode_tree_ascii (x : Str) (t u : Tok) : «str.encode» ⟨[.str x t, .str (Str.ofString "ascii") u], []⟩ = (do ret (← encodeRoad "str.encode" (.str x t) x (Str.ofString "ascii") none)) := by kernel_rfl
theorem foldl_push (l : List Nat) : ∀ acc : Array UInt8, l.foldl (fun acc y => acc ++ ([y.toUInt8] : List UInt8).toArray) acc = acc ++ (l.map (·.toUInt8)).toArray := by
  induction l with
  | nil => intro acc; simp
  | cons a r ih => intro acc; rw [List.foldl_cons, ih]; simp
theorem forIn_two {σ : Type} {f : Nat → σ → Sem (ForInStep σ)} {a b : σ} {n : Nat} (h0 : f 0 a = pure (.yield b)) (h1 : f 1 b = pure (.done b)) : forIn (List.range' 0 (n + 1)) a f = pure b := by
  rw [List.range'_succ, List.forIn_cons, h0]
  show forIn (List.range' 1 n) b f = pure b
  cases n with
  | zero => rfl
  | succ n =>
    rw [List.range'_succ, List.forIn_cons, h1]
    rfl
theorem narrow_ascii (id : String) (self : Value) (x : Str) (hx : ∀ c ∈ x.cps.toList, c < 128) (hz : x.cps.size ≤ sizeLine) : encodeNarrow id asciiCodec none self x = pure (x.cps.map (·.toUInt8)) := by
  obtain ⟨cs⟩ := x
  simp only at hx hz
  have hfind : (Array.findIdx? asciiCodec.bad (cs.extract 0 cs.size)) = none := by
    rw [Array.findIdx?_eq_none_iff]
    intro y hy
    have := hx y (by simpa using hy)
    simp [asciiCodec, this]
  unfold encodeNarrow
  dsimp only
  simp only [Std.Legacy.Range.forIn_eq_forIn_range', Str.length, Std.Legacy.Range.size, Nat.sub_zero, Nat.add_sub_cancel, Nat.div_one]
  cases hn : cs.size with
  | zero =>
    have : cs = #[] := Array.size_eq_zero_iff.mp hn
    subst this
    rw [show List.range' 0 0 = [] from rfl, List.forIn_nil, show Array.map (fun x : Nat => x.toUInt8) #[] = #[] by simp]
    rfl
  | succ n =>
    have hout : Array.foldl (fun acc y => acc ++ (asciiCodec.bytesOf y).toArray) #[] ((cs.extract 0 cs.size).extract 0 cs.size) = cs.map (·.toUInt8) := by
      rw [← Array.foldl_toList]
      have := foldl_push cs.toList #[]
      simp only [Array.extract_size, Array.extract_zero, asciiCodec] at *
      simpa using this
    rw [forIn_two (b := (cs.size, cs.map (·.toUInt8), ({} : Faults)))]
    · rfl
    · have e0 : cs[0]? = some cs[0] := by rw [Array.getElem?_eq_getElem]
      have hb : asciiCodec.bad cs[0] = false := by
        have := hx cs[0] (by simp)
        simp [asciiCodec, this]
      rw [if_neg (by decide)]
      simp only [e0, hb, Bool.not_false, if_true]
      rw [← hn]
      simp only [hfind, Option.getD_none, Nat.zero_add]
      have hs : (cs.extract 0 cs.size).size = cs.size := by simp
      rw [hs, hout]
    · rw [if_neg (by simp only [Array.size_map]; omega)]
      have e1 : cs[cs.size]? = none := by simp
      simp only [e1]
theorem call_encode {prog : Program} {w : World} {A : Around} {E : Value → Shared → Prop} {s : Shared} {x : Str} {t u : Tok} {Q : Value → Shared → Prop} (hx : ∀ c ∈ x.cps.toList, c < 128) (hz : x.cps.size ≤ sizeLine)
    (h : ∀ t' k, Q (.bytes (x.cps.map (·.toUInt8)) t') { s with toks := k }) :
    wpAny (model prog w) A (call (.builtin "str.encode") [.str x t, .str (Str.ofString "ascii") u]) Q E s := by
  refine wpAny_call_entry F.slot_str_encode (typeIs_str _ _ _) F.entry_str_encode ?_ (F.args_str_encode_2 _ _)
  rw [encode_tree_ascii, encodeRoad_ascii, narrow_ascii _ _ _ hx hz]
  refine wpAny_bind (wpAny_bind (wpAny_pure (wpAny_mkBytes (wpAny_pure ⟨_, rfl, h _ _⟩) ?_)))
  simpa using hz
end

-- MDict
section
set_option maxRecDepth 100000
set_option maxHeartbeats 8000000
open PySem.Calls
/-- a dict from ints to ints, as its rows in order -/
def getI (D : List (Int × Int)) (k : Int) : Option Int := (D.find? fun p => p.1 = k).map (·.2)
def putI (D : List (Int × Int)) (k i : Int) : List (Int × Int) :=
  if D.any (fun p => p.1 = k) then D.map (fun p => if p.1 = k then (p.1, i) else p) else D ++ [(k, i)]
theorem getI_cons (p : Int × Int) (D : List (Int × Int)) (k : Int) : getI (p :: D) k = if p.1 = k then some p.2 else getI D k := by
  unfold getI
  rw [List.find?_cons]
  by_cases h : p.1 = k <;> simp [h]
theorem getI_none {D : List (Int × Int)} {k : Int} (h : D.any (fun p => p.1 = k) = false) : getI D k = none := by
  unfold getI
  rw [List.find?_eq_none.mpr]
  · rfl
  · intro p hp hk
    rw [List.any_eq_false] at h
    exact h p hp hk
theorem getI_map (i k k' : Int) : ∀ D : List (Int × Int), getI (D.map (fun p => if p.1 = k then (p.1, i) else p)) k' = if k' = k then (if D.any (fun p => p.1 = k) then some i else none) else getI D k'
  | [] => by simp [getI]
  | p :: D => by
    rw [List.map_cons, getI_cons, getI_map i k k' D]
    by_cases h1 : p.1 = k
    · by_cases h2 : k' = k
      · simp [h1, h2]
      · have : ¬ p.1 = k' := fun h => h2 (h ▸ h1)
        have h3 : ¬ k = k' := fun h => h2 h.symm
        simp [h1, h2, h3, getI_cons]
    · by_cases h2 : k' = k
      · subst h2
        have e : (p :: D).any (fun p => decide (p.1 = k')) = D.any (fun p => decide (p.1 = k')) := by
          rw [List.any_cons, decide_eq_false h1, Bool.false_or]
        rw [e]
        simp [h1]
      · simp [h1, h2, getI_cons]
theorem getI_append (D : List (Int × Int)) (p : Int × Int) (k : Int) : getI (D ++ [p]) k = (getI D k).or (if p.1 = k then some p.2 else none) := by
  induction D with
  | nil => simp [getI_cons, getI]
  | cons q D ih =>
    rw [List.cons_append, getI_cons, getI_cons, ih]
    by_cases h : q.1 = k <;> simp [h]
theorem getI_put (D : List (Int × Int)) (k i k' : Int) : getI (putI D k i) k' = if k' = k then some i else getI D k' := by
  unfold putI
  by_cases h : D.any (fun p => p.1 = k) = true
  · rw [if_pos h, getI_map]
    by_cases h2 : k' = k <;> simp [h2, h]
  · rw [if_neg h, getI_append]
    have hn := getI_none (Bool.eq_false_iff.mpr h)
    by_cases h2 : k' = k
    · subst h2; simp [hn]
    · have : ¬ k = k' := fun q => h2 q.symm
      simp [h2, this]
theorem length_put (D : List (Int × Int)) (k i : Int) : (putI D k i).length ≤ D.length + 1 := by
  unfold putI
  split <;> simp
theorem put_new {D : List (Int × Int)} {k : Int} (i : Int) (h : getI D k = none) : putI D k i = D ++ [(k, i)] := by
  unfold putI
  rw [if_neg]
  intro ha
  rw [List.any_eq_true] at ha
  obtain ⟨p, hp, hk⟩ := ha
  unfold getI at h
  rw [Option.map_eq_none_iff, List.find?_eq_none] at h
  exact h p hp hk
/-- the rows of the heap's dict say D -/
inductive Says : List (Int × Value) → List (Int × Int) → Prop
  | nil : Says [] []
  | cons {k i : Int} {t : Tok} {kvs : List (Int × Value)} {D : List (Int × Int)} : Says kvs D → Says ((k, .int i t) :: kvs) ((k, i) :: D)
theorem Says.length {kvs : List (Int × Value)} {D : List (Int × Int)} (h : Says kvs D) : kvs.length = D.length := by
  induction h with
  | nil => rfl
  | cons _ ih => simp [ih]
theorem Says.any {kvs : List (Int × Value)} {D : List (Int × Int)} (h : Says kvs D) (k : Int) : kvs.any (fun kv => kv.1 = k) = D.any (fun p => p.1 = k) := by
  induction h with
  | nil => rfl
  | cons _ ih => simp only [List.any_cons, ih]
theorem Says.map {kvs : List (Int × Value)} {D : List (Int × Int)} (h : Says kvs D) (k i : Int) (t : Tok) : Says (kvs.map fun kv => if kv.1 = k then (kv.1, .int i t) else kv) (D.map fun p => if p.1 = k then (p.1, i) else p) := by
  induction h with
  | nil => exact .nil
  | @cons k' i' t' kvs D _ ih =>
    rw [List.map_cons, List.map_cons]
    by_cases e : k' = k
    · simp only [e, if_true]; exact .cons ih
    · simp only [e, if_false]; exact .cons ih
theorem Says.snoc {kvs : List (Int × Value)} {D : List (Int × Int)} (h : Says kvs D) (k i : Int) (t : Tok) : Says (kvs ++ [(k, .int i t)]) (D ++ [(k, i)]) := by
  induction h with
  | nil => exact .cons .nil
  | cons _ ih => exact .cons ih
theorem Says.put {kvs : List (Int × Value)} {D : List (Int × Int)} (h : Says kvs D) (k i : Int) (t : Tok) : Says (stored kvs k (.int i t)) (putI D k i) := by
  unfold stored putI
  rw [h.any k]
  split
  · exact h.map k i t
  · exact h.snoc k i t
theorem Says.at {kvs : List (Int × Value)} {D : List (Int × Int)} (h : Says kvs D) (k : Int) : (∃ i t, getI D k = some i ∧ valueAt kvs k = some (.int i t)) ∨ (getI D k = none ∧ valueAt kvs k = none) := by
  induction h with
  | nil => exact .inr ⟨rfl, rfl⟩
  | @cons k' i t kvs D _ ih =>
    rw [getI_cons]
    have e : valueAt ((k', Value.int i t) :: kvs) k = if k' = k then some (.int i t) else valueAt kvs k := by
      unfold valueAt
      rw [List.find?_cons]
      by_cases h : k' = k <;> simp [h]
    rw [e]
    by_cases q : k' = k
    · simp only [q, if_true]; exact .inl ⟨i, t, rfl, rfl⟩
    · simp only [q, if_false]; exact ih
/-- the object is a dict of ints that says D -/
def IsMap (w : World) (o : Obj) (D : List (Int × Int)) : Prop := (∃ kvs, o.IsDictOf (intKind PySem.Challenge.rw_fe0039_01.row.prog w) kvs ∧ Says kvs D) ∧ D.length ≤ 100
theorem IsMap.heap {w : World} {o : Obj} {D : List (Int × Int)} {h : Heap} {d : Addr} (x : IsMap w o D) (ho : h.get? d = some o) : ∃ kvs, h.DictOf (intKind PySem.Challenge.rw_fe0039_01.row.prog w) d kvs ∧ Says kvs D :=
  let ⟨⟨kvs, hd, hs⟩, _⟩ := x; ⟨kvs, Heap.dictOf_iff.mpr ⟨o, ho, hd⟩, hs⟩
section
variable {w : World} {A : Around} {E : Value → Shared → Prop} {s : Shared} {d : Addr} {o : Obj} {D : List (Int × Int)} {k i : Int} {t u : Tok} {h₀ : Heap} {L : Addr} {m : Str → Option Value} {news : List (Addr × Obj)} {g : Obj → List (Addr × Obj)}
theorem map_in {Q : Value → Shared → Prop} (x : IsMap w o D) (ho : s.heap.get? d = some o) (hd : (d == sysModules) = false) (h : Q (.bool (getI D k).isSome) { s with toks := s.toks + 1 }) :
    wpAny (model PySem.Challenge.rw_fe0039_01.row.prog w) A (compareOp .In (.int k t) (.ref d)) Q E s := by
  obtain ⟨kvs, hk, hs⟩ := x.heap ho
  refine wpAny_in_of (intKind_is _ w k t) hd hk.mapOf ?_
  rcases hs.at k with ⟨i, t', e1, e2⟩ | ⟨e1, e2⟩
  · rw [e1] at h; rw [e2]; exact h
  · rw [e1] at h; rw [e2]; exact h
theorem map_get {Q : Value → Shared → Prop} (x : IsMap w o D) (ho : s.heap.get? d = some o) (hk : getI D k = some i) (h : ∀ t', Q (.int i t') { s with toks := s.toks + 1 }) :
    wpAny (model PySem.Challenge.rw_fe0039_01.row.prog w) A (getItem (.ref d) (.int k t)) Q E s := by
  obtain ⟨kvs, hkv, hs⟩ := x.heap ho
  rcases hs.at k with ⟨i', t', e1, e2⟩ | ⟨e1, e2⟩
  · rw [hk] at e1
    cases e1
    exact wpAny_getItem_of (intKind_is _ w k t) hkv.mapOf e2 (h t')
  · rw [hk] at e1; cases e1
theorem map_item {value slice : Expr} {Q : Value → Shared → Prop} (x : IsMap w o D) (ho : s.heap.get? d = some o) (hk : getI D k = some i) (h : ∀ t', Q (.int i t') { s with toks := s.toks + 1 })
    (hs : subscripted slice false (.ref d) (.int k t) = operate [.ref d, .int k t] (getItem (.ref d) (.int k t)) := by with_unfolding_all rfl) :
    wpAny (model PySem.Challenge.rw_fe0039_01.row.prog w) A (subscriptTail value slice (.ref d) (.int k t)) Q E s := by
  obtain ⟨kvs, hkv, _⟩ := x.heap ho
  exact tail_any hkv.typeIs slot_dict_getitem.lookup (map_get x ho hk h) hs
theorem map_miss {value slice : Expr} {Q : Value → Shared → Prop} (x : IsMap w o D) (ho : s.heap.get? d = some o) (hd : (d == sysModules) = false) (hh : A.handled = none) (hk : getI D k = none)
    (h : ∀ h' e, Heap.NewExc s.heap h' e "KeyError" → E (.ref e) { s with heap := h', toks := s.toks + 1 })
    (hs : subscripted slice false (.ref d) (.int k t) = operate [.ref d, .int k t] (getItem (.ref d) (.int k t)) := by with_unfolding_all rfl) :
    wpAny (model PySem.Challenge.rw_fe0039_01.row.prog w) A (subscriptTail value slice (.ref d) (.int k t)) Q E s := by
  obtain ⟨kvs, hkv, hsy⟩ := x.heap ho
  refine tail_any hkv.typeIs slot_dict_getitem.lookup ?_ hs
  rcases hsy.at k with ⟨i', t', e1, e2⟩ | ⟨e1, e2⟩
  · rw [hk] at e1; cases e1
  · exact wpAny_getItem_missing_of (intKind_is _ w k t) hd hh hkv.mapOf e2 h
theorem map_set {Q : Unit → Shared → Prop} (x : IsMap w o D) (hz : D.length < 100) (F : Fr h₀ L s.heap m) (N : News h₀ L s.heap news) (U : UpdF d o news g)
    (h : ∀ h' o', Fr h₀ L h' m → News h₀ L h' (g o') → IsMap w o' (putI D k i) → Q () { s with heap := h', toks := s.toks + 1 }) :
    wpAny (model PySem.Challenge.rw_fe0039_01.row.prog w) A (setItem (.ref d) (.int k t) (.int i u)) Q E s := by
  obtain ⟨pre, post, rfl, hg, ha, hb⟩ := U.split
  obtain ⟨⟨kvs, hd, hs⟩, _⟩ := x
  have hm := N (d, o) (List.mem_append_right _ (.head _))
  have hkl : kvs.length ≤ sizeLine := by rw [hs.length, sizeLine_eq]; omega
  refine wpAny_setItem_pairs (hsz := hkl) (intKind_is _ w k t) (Heap.dictOf_iff.mpr ⟨o, hm.1, hd⟩) fun h' hmm hsb => ?_
  obtain ⟨o', ho', hd'⟩ := Heap.dictOf_iff.mp hmm
  refine h h' o' (F.change hsb hm.2.1 hm.2.2) (hg o' ▸ N.setIn ha hb hsb ho') ⟨⟨_, hd', hs.put k i u⟩, ?_⟩
  have := length_put D k i
  omega
end
end

-- MEnum
section
set_option maxRecDepth 100000
set_option maxHeartbeats 8000000
open PySem.Calls
open Builtin
section
variable {prog : Program} {w : World} {A : Around} {E : Value → Shared → Prop} {s : Shared}
theorem nextB_item {it : Addr} {b : Array UInt8} {t : Tok} {i : Nat} {c : UInt8} {Q : Value → Shared → Prop} (hit : KBw.IsBytesIter s.heap it b t i) (hx : b[i]? = some c)
    (hQ : ∀ h', KBw.IsBytesIter h' it b t (i + 1) → Heap.SameBut it s.heap h' → Q (.int (c.toNat : Int) s.toks) { s with heap := h', toks := s.toks + 1 }) :
    wpAny (model prog w) A (Builtin.SmallTypes.nextOf (.ref it)) Q E s := by
  obtain ⟨o, ho, hc, hd⟩ := id hit
  unfold Builtin.SmallTypes.nextOf
  refine wpAny_bind (wpAny_callSpecial?_slot (name := PySem.Str.ofString "__next__") (KBw.iter_typeIs hit) KBw.slot_next
    (wpAny_call_entry KBw.slot_next (KBw.iter_typeIs hit) KBw.entry_next ?_ (KBw.args_next _)))
  show wpAny _ _ (field (.ref it) 0 >>= _) _ _ s
  refine wpAny_bind (wpAny_field ho hd (x := .bytes b t) rfl ?_)
  show wpAny _ _ (if (Value.bytes b t == Value.none) = true then _ else _) _ _ s
  rw [if_neg (show ¬ ((Value.bytes b t == Value.none) = true) from Bool.false_ne_true)]
  show wpAny _ _ (field (.ref it) 1 >>= _) _ _ s
  refine wpAny_bind (wpAny_field ho hd (x := .int i 0) rfl ?_)
  refine wpAny_bind (wpAny_of_eq (a := b) rfl ?_)
  simp only [Int.toNat_natCast, hx]
  refine wpAny_bind (wpAny_setField ho hd (by simp) (wpAny_bind (wpAny_mkInt (wpAny_pure ⟨_, rfl, wpAny_pure (hQ _ ?_ (Heap.SameBut.update ..))⟩))))
  exact ⟨_, Heap.get?_update_self _ ho (Obj.isFreed_of_fields (Obj.data_mapFields hd _)), (Obj.cls_mapFields ..).trans hc, by
    rw [Obj.data_mapFields hd]; simp [rawInt]⟩
theorem nextB_end {it : Addr} {b : Array UInt8} {t : Tok} {i : Nat} {Q : Value → Shared → Prop} (hh : A.handled = none) (hit : KBw.IsBytesIter s.heap it b t i) (hx : b[i]? = none)
    (hE : ∀ h' e, Heap.ExtBut it s.heap h' → (∃ o, h'.get? e = some o ∧ o.cls = .type "StopIteration") → E (.ref e) { s with heap := h' }) :
    wpAny (model prog w) A (Builtin.SmallTypes.nextOf (.ref it)) Q E s := by
  obtain ⟨o, ho, hc, hd⟩ := id hit
  unfold Builtin.SmallTypes.nextOf
  refine wpAny_bind (wpAny_callSpecial?_slot (name := PySem.Str.ofString "__next__") (KBw.iter_typeIs hit) KBw.slot_next
    (wpAny_call_entry KBw.slot_next (KBw.iter_typeIs hit) KBw.entry_next ?_ (KBw.args_next _)))
  show wpAny _ _ (field (.ref it) 0 >>= _) _ _ s
  refine wpAny_bind (wpAny_field ho hd (x := .bytes b t) rfl ?_)
  show wpAny _ _ (if (Value.bytes b t == Value.none) = true then _ else _) _ _ s
  rw [if_neg (show ¬ ((Value.bytes b t == Value.none) = true) from Bool.false_ne_true)]
  show wpAny _ _ (field (.ref it) 1 >>= _) _ _ s
  refine wpAny_bind (wpAny_field ho hd (x := .int i 0) rfl ?_)
  refine wpAny_bind (wpAny_of_eq (a := b) rfl ?_)
  simp only [Int.toNat_natCast, hx]
  refine wpAny_bind (wpAny_rule (wpAny_bind (wpAny_setField ho hd (by simp) ?_)))
  show wpAny _ _ (newExc (.type "StopIteration") [] >>= _) _ _ _
  refine wpAny_bind ?_
  simp only [newExc, newTuple]
  refine wpAny_bind (wpAny_newObj_type ?_ (by size_fits))
  refine wpAny_bind (m := firstArgMember _ _) (wpAny_of_eq (a := Value.none) (by first | rfl | (simp only [firstArgMember]; rfl)) ?_)
  refine wpAny_newObj_type ?_ (by size_fits)
  simp only [raiseNew]
  refine wpAny_bind (wpAny_handled ?_)
  first | rw [show A.in1.handled = none from hh] | rw [hh]
  refine wpAny_bind (wpAny_pure (wpAny_throw ?_))
  exact hE _ _ (((Heap.SameBut.update ..).extBut.push _).push _) ⟨_, Heap.get?_push_size _ rfl, rfl⟩
end
theorem drawsB {prog : Program} {w : World} {A : Around} (hh : A.handled = none) (it : Addr) (b : Array UInt8) (t : Tok) :
    Draws prog w A it [it] b.size (fun i v => ∃ c u, b[i]? = some c ∧ v = .int (c.toNat : Int) u) (fun i h => KBw.IsBytesIter h it b t i) where
  live := fun _ _ st => let ⟨o, ho, _⟩ := st; ⟨o, ho⟩
  frame := fun _ _ _ st hk => let ⟨o, ho, r⟩ := st; ⟨o, hk it (by simp) o ho, r⟩
  item := fun i s Q E hi st hQ => by
    refine nextB_item st (c := b[i]) (by simp [hi]) fun h' hit' hs' => ?_
    exact hQ _ h' (s.toks + 1) ⟨_, _, by simp [hi], rfl⟩ hit' hs'
  done := fun s Q E st hE => nextB_end hh st (by simp) hE
open AutoSeq1 (wpAny_loadPart')
theorem meets_enumerate_newB (b : Array UInt8) (t : Tok) :
    Meets (Builtin.«enumerate.__new__» ⟨[.type "enumerate", .bytes b t], []⟩) (fun _ R s =>
      R (.ok (.ret (.ref (s.heap.push { cls := .type "bytes_iterator", data := .fields #[.bytes b t, .int 0 0] }).objs.size)))
        { s with heap := (s.heap.push { cls := .type "bytes_iterator", data := .fields #[.bytes b t, .int 0 0] }).push { cls := .type "enumerate", data := .fields #[.none, .bool false, .ref s.heap.objs.size, rawInt 0, .none, .none] } }) :=
  .of_wp fun prog w A R s h => by
    obtain ⟨hp, g, d, tk, os⟩ := s
    have hsub := sub_enumerate
    wp_walk
    refine wpAny_stack_any fun st => wpAny_pure ?_
    split
    · rename_i c _ _ _ _ _
      cases (c == Value.type "enumerate")
      · wp_walk using KBw.pyIter_bytes
        exact ⟨_, rfl, h⟩
      · wp_walk using KBw.pyIter_bytes
        exact ⟨_, rfl, h⟩
    · wp_walk using KBw.pyIter_bytes
      exact ⟨_, rfl, h⟩
section
variable {prog : Program} {w : World} {A : Around} {E : Value → Shared → Prop} {s : Shared}
theorem call_enumerate_bytes {b : Array UInt8} {t : Tok} {Q : Value → Shared → Prop}
    (h : ∀ h', IsEnum h' (s.heap.objs.size + 1) s.heap.objs.size 0 .none → KBw.IsBytesIter h' s.heap.objs.size b t 0 → h'.objs.size = s.heap.objs.size + 2 →
      (∀ a o, s.heap.get? a = some o → h'.get? a = some o) → Q (.ref (s.heap.objs.size + 1)) { s with heap := h' }) :
    wpAny (model prog w) A (call (.type "enumerate") [.bytes b t]) Q E s := by
  refine callType_new F.called_enumerate (by decide) (F.typeCall_enumerate_1 _) (F.newCall_enumerate_1 _) (fun obj => F.args_object_init_2 obj _) F.entry_enumerate_new
    (meets_enumerate_newB b t) ?_
  have hz : (s.heap.push { cls := .type "bytes_iterator", data := .fields #[.bytes b t, .int 0 0] }).objs.size = s.heap.objs.size + 1 := Heap.size_push ..
  show _ ∧ _
  rw [hz]
  have he : IsEnum ((s.heap.push { cls := .type "bytes_iterator", data := .fields #[.bytes b t, .int 0 0] }).push
      { cls := .type "enumerate", data := .fields #[.none, .bool false, .ref s.heap.objs.size, rawInt 0, .none, .none] }) (s.heap.objs.size + 1) s.heap.objs.size 0 .none := by
    have := Heap.get?_push_size (s.heap.push { cls := .type "bytes_iterator", data := .fields #[.bytes b t, .int 0 0] })
      (o := { cls := .type "enumerate", data := .fields #[.none, .bool false, .ref s.heap.objs.size, rawInt 0, .none, .none] }) rfl
    rw [hz] at this; exact this
  refine ⟨⟨_, he, rfl⟩, h _ he ⟨_, Heap.get?_push_of_some _ (Heap.get?_push_size _ rfl), rfl, rfl⟩ (by rw [Heap.size_push, hz]) fun a o y => Heap.get?_push_of_some _ (Heap.get?_push_of_some _ y)⟩
end
end

-- MDc
section
set_option maxRecDepth 100000
set_option maxHeartbeats 8000000
open PySem.Calls
/-- {k: i for i, k in enumerate(ks)} -/
def rowsOf (ks : List Int) : List (Int × Int) := ks.zipIdx.foldl (fun D p => putI D p.1 (p.2 : Int)) []
theorem rowsOf_take {ks : List Int} {i : Nat} {k : Int} (h : ks[i]? = some k) : rowsOf (ks.take (i + 1)) = putI (rowsOf (ks.take i)) k i := by
  unfold rowsOf
  have hlt : i < ks.length := by
    rcases Nat.lt_or_ge i ks.length with q | q
    · exact q
    · rw [List.getElem?_eq_none q] at h; cases h
  rw [List.take_add_one, h, List.zipIdx_append, List.foldl_append]
  simp [Nat.min_eq_left (Nat.le_of_lt hlt)]
theorem rowsOf_len : ∀ ks : List Int, (rowsOf ks).length ≤ ks.length := by
  have aux : ∀ (l : List (Int × Nat)) (D : List (Int × Int)), (l.foldl (fun D p => putI D p.1 (p.2 : Int)) D).length ≤ D.length + l.length := by
    intro l
    induction l with
    | nil => intro D; simp
    | cons p l ih =>
      intro D
      rw [List.foldl_cons]
      have h1 := ih (putI D p.1 p.2)
      have h2 := length_put D p.1 p.2
      simp only [List.length_cons]
      omega
  intro ks
  have := aux ks.zipIdx []
  simpa [rowsOf] using this
section
variable {prog : Program} {w : World} {A : Around} {E : Value → Shared → Prop} {s : Shared}
theorem dc_loop {kx vx target iter : PySem.Expr} {scope : Scope} {pos : Pos} {it : Value} {D : Addr} {env : Env} {R : Result → Shared → Prop} (I : Nat → Shared → Prop)
    (turn : ∀ n s, I n s → wpAny (model prog w) A (pyNext it) (fun r s₁ => match r with
      | none => R (.ok .next) s₁
      | some v => wpAny (model prog w) A (letOwnedTupleGo target it v) (fun _ s₀ => wpAny (model prog w) A (assign target env v) (fun _ s₂ =>
          wpAny (model prog w) A (eval kx env) (fun kv s₄ => wpAny (model prog w) A (eval vx env) (fun vv s₅ =>
            wpAny (model prog w) A (dictSet D kv vv) (fun _ s₆ => ∃ m, m < n ∧ I m s₆) (notedBy (model prog w) A env fun e s' => R (.error e) s') s₅) (notedBy (model prog w) A env fun e s' => R (.error e) s') s₄) (notedBy (model prog w) A env fun e s' => R (.error e) s') s₂)
          (notedBy (model prog w) A env fun e s' => R (.error e) s') s₀) (notedBy (model prog w) A env fun e s' => R (.error e) s') s₁) (notedBy (model prog w) A env fun e s' => R (.error e) s') s)
    (n : Nat) (h : I n s) : codeAny (model prog w) A (.compLoop (.DictComp kx vx [⟨target, iter, [], 0⟩] scope pos) 0 it (.ref D) env) R s := by
  refine codeAny_loop rfl I (fun n s hI => ?_) n h
  show wpAny _ A ((compTurn (.DictComp kx vx [⟨target, iter, [], 0⟩] scope pos) 0 it (.ref D) env).onRaise (fun x => do noteFrame x env; theTreesLotGoes x)) _ _ s
  refine wpAny_noted ?_
  rw [compTurn_dict]
  refine wpAny_bind (wpAny_standAt (wpAny_bind (wpAny_mono (turn n s hI) (fun r s₁ h₁ => ?_) fun _ _ h' => h')))
  cases r with
  | none => exact wpAny_pure h₁
  | some v =>
    refine wpAny_bind (wpAny_mono h₁ (fun _ s₀ h₀' => ?_) fun _ _ h' => h')
    refine wpAny_bind (wpAny_mono h₀' (fun _ s₂ h₂ => ?_) fun _ _ h' => h')
    refine wpAny_bind (wpAny_tests_nil ?_)
    exact wpAny_bind (wpAny_bind (wpAny_mono h₂ (fun kv s₄ h₄ => wpAny_bind (wpAny_holding (wpAny_mono h₄ (fun vv s₅ h₅ => wpAny_bind (wpAny_standAt (wpAny_holding (wpAny_mono h₅ (fun _ s₆ h₆ => wpAny_pure ⟨rfl, h₆⟩) fun _ _ h' => h')))) fun _ _ h' => h'))) fun _ _ h' => h'))
theorem DictComp_enum {iter : PySem.Expr} {a b : Str} {pa pb pa' pb' tp pos : Pos} {kk : Nat} {scope : Scope} {cl : List (Str × Addr)} {env : Env} {Q : Value → Shared → Prop}
    (hh : A.handled = none) (hclos : closureFor scope env = pure cl) (hcell : ∀ y ∈ scope.names, y.2 ≠ .cell) (hkind : scope.kind = .function)
    (hnames : ∀ y ∈ scope.names, y.2 = .local → scope.names.lookup y.1 = some .local) (ha : scope.names.lookup a = some .local) (hb : scope.names.lookup b = some .local) (hab : a ≠ b)
    (hda : (a == ("__debug__" : Str)) = false) (hdb : (b == ("__debug__" : Str)) = false)
    (h : wpAny (model prog w) A (eval iter env) (fun xv s₁ => ∃ e it bs t, xv = .ref e ∧ IsEnum s₁.heap e it 0 .none ∧ KBw.IsBytesIter s₁.heap it bs t 0 ∧ e ≠ it ∧ bs.size ≤ 64 ∧
      (∀ D h' tk kvs, s₁.heap.objs.size ≤ D → h'.DictOf (intKind prog w) D kvs → Says kvs (rowsOf (KBw.bInts bs)) → (∀ b o, b ≠ e → b ≠ it → s₁.heap.get? b = some o → h'.get? b = some o) → Q (.ref D) { s₁ with heap := h', toks := tk })) E s)
    (hs : ∀ x, foldedSetIterable iter env x = pure x) :
    wpAny (model prog w) A (eval (.DictComp (.Name b pb') (.Name a pa') [⟨.Tuple [.Name a pa, .Name b pb] kk tp, iter, [], 0⟩] scope pos) env) Q E s := by
  rw [arm_eval_DictComp]
  refine wpAny_comprehension_free (use := none) rfl hs hclos hkind hnames (wpAny_mono h (fun xv s₂ h₂ => ?_) fun _ _ e => e)
  obtain ⟨e, it, bs, t, rfl, he, hit, hei, hz, hQ⟩ := h₂
  refine wpAny_pyIter_enum he ?_
  have W := WalksT.enumerateD (drawsB (prog := prog) (w := w) (A := A.in1) hh it bs t) e hei (by simpa using hei) (by simp)
  have hlen : (KBw.bInts bs).length = bs.size := KBw.ints_length bs
  refine wpAny_newObj_type (wpAny_newFunctionEnv hcell (by intro y hy; simp at hy) (fun h₁ hns₁ hsb₁ => ?_) hkind)
  dsimp only at hns₁ hsb₁ ⊢
  have hnew : (s₂.heap.push { cls := .type "dict", dict := none, data := .dict #[] }).DictOf (intKind prog w) s₂.heap.objs.size [] := Heap.DictOf.new s₂.heap
  generalize hH2 : s₂.heap.push { cls := .type "dict", dict := none, data := .dict #[] } = H2 at hns₁ hsb₁ hnew ⊢
  have hC : H2.objs.size = s₂.heap.objs.size + 1 := by rw [← hH2, Heap.size_push]
  have hDC : s₂.heap.objs.size ≠ H2.objs.size := by rw [hC]; exact Nat.ne_of_lt (Nat.lt_succ_self _)
  have below : ∀ b, b < s₂.heap.objs.size → b ≠ H2.objs.size ∧ b ≠ s₂.heap.objs.size := fun b hb => ⟨by rw [hC]; exact Nat.ne_of_lt (Nat.lt_succ_of_lt hb), Nat.ne_of_lt hb⟩
  have helt : e < s₂.heap.objs.size := Heap.lt_size he
  have hitlt : it < s₂.heap.objs.size := by obtain ⟨_, q, _⟩ := hit; exact Heap.lt_size q
  have old : ∀ b o, s₂.heap.get? b = some o → h₁.get? b = some o := fun b o e => hsb₁.extBut b o (below b (Heap.lt_size e)).1 (Heap.get?_push_of_some _ (hH2 ▸ Heap.get?_push_of_some _ e))
  have hacc : h₁.DictOf (intKind prog w) s₂.heap.objs.size [] := hnew.at fun o e => hsb₁.extBut _ _ hDC (Heap.get?_push_of_some _ e)
  have he₁ : IsEnum h₁ e it 0 .none := old _ _ he
  have hit₁ : KBw.IsBytesIter h₁ it bs t 0 := by obtain ⟨o, q, r⟩ := hit; exact ⟨o, old _ _ q, r⟩
  have wr_ne : ∀ b, b ≠ e → b ≠ it → b ∉ [e, it] := fun b h1 h2 hm => by
    rcases List.mem_cons.mp hm with q | hm
    · exact h1 q
    · exact h2 (List.mem_singleton.mp hm)
  have hCw : H2.objs.size ∉ [e, it] := wr_ne _ (Ne.symm (below e helt).1) (Ne.symm (below it hitlt).1)
  have hDw : s₂.heap.objs.size ∉ [e, it] := wr_ne _ (Ne.symm (below e helt).2) (Ne.symm (below it hitlt).2)
  have loop : ∀ s₃ : Shared, s₃ = { s₂ with heap := h₁, toks := s₂.toks + ([] : List (Str × Value)).length } →
      codeAny (model prog w) A (.compLoop (.DictComp (.Name b pb') (.Name a pa') [⟨.Tuple [.Name a pa, .Name b pb] kk tp, iter, [], 0⟩] scope pos) 0 (.ref e) (.ref s₂.heap.objs.size) (compEnvC scope cl H2.objs.size env))
        (compPost (model prog w) A E none Q (.ref s₂.heap.objs.size) H2.objs.size) s₃ := by
    rintro s₃ rfl
    refine dc_loop
      (fun k s' => ∃ h' tk i kvs m', s' = { s₂ with heap := h', toks := tk } ∧ i ≤ bs.size ∧ k = bs.size + 1 - i ∧ ((∃ old, IsEnum h' e it (i : Int) old) ∧ KBw.IsBytesIter h' it bs t i) ∧ h'.Ns H2.objs.size m' ∧
        h'.DictOf (intKind prog w) s₂.heap.objs.size kvs ∧ Says kvs (rowsOf ((KBw.bInts bs).take i)) ∧
        ∀ b o, b ≠ H2.objs.size → b ∉ [e, it] → b ≠ s₂.heap.objs.size → s₂.heap.get? b = some o → h'.get? b = some o) ?_ (bs.size + 1)
      ⟨h₁, _, 0, [], _, rfl, Nat.zero_le _, rfl, ⟨⟨_, he₁⟩, hit₁⟩, hns₁, hacc, by simpa [rowsOf] using Says.nil, fun b o _ _ _ q => old b o q⟩
    rintro k s' ⟨h', tk, i, kvs, m', rfl, hi, rfl, hst, hn', hd', hS, hk'⟩
    by_cases hlt : i < bs.size
    · refine W.item i _ _ _ hlt hst fun T vals h₂ tk₂ hP hTs hT hMid hk₂ => ?_
      refine W.go _ _ _ i T _ _ _ hMid fun h₃ hst₃ hk₃ => ?_
      obtain ⟨t', x, ⟨c, u, hc, rfl⟩, rfl⟩ := hP
      have hTw : T ∉ [e, it] := W.apart _ _ _ hMid
      have hT₃ : h₃.IsTuple T #[.int (i : Int) t', .int (c.toNat : Int) u] := by
        obtain ⟨o, q, r⟩ := hT
        exact ⟨o, hk₃ T o hTw q, r⟩
      have up₃ : ∀ b o, b ∉ [e, it] → h'.get? b = some o → h₃.get? b = some o := fun b o hb q => hk₃ b o hb (hk₂ b o hb q)
      refine kcp_assign (env := compEnvC scope cl H2.objs.size env) hh hT₃ (lookup_relabel_local ha) (lookup_relabel_local hb) (by simp [compEnvC, relabel, hkind]) (hn'.at' fun o q => up₃ _ o hCw q) fun h₄ tk₄ hn₄ hs₄ => ?_
      replace hs₄ : ∀ (c : Addr) (o : Obj), c ≠ H2.objs.size → h₃.get? c = some o → h₄.get? c = some o := hs₄
      refine wpAny_Name (wpAny_loadName_local hkind (lookup_relabel_local hb) hn₄ (v := .int (c.toNat : Int) u) (by simp) ?_) hdb
      refine wpAny_Name (wpAny_loadName_local hkind (lookup_relabel_local ha) hn₄ (v := .int (i : Int) t') (by simp [hab]) ?_) hda
      have hg := KBw.ints_get hc
      have hd₄ : h₄.DictOf (intKind prog w) s₂.heap.objs.size kvs := hd'.at fun o q => hs₄ _ o hDC (up₃ _ o hDw q)
      have hkl : kvs.length ≤ sizeLine := by
        have h1 := rowsOf_len ((KBw.bInts bs).take i)
        have h2 : ((KBw.bInts bs).take i).length ≤ 64 := by rw [List.length_take, hlen]; omega
        rw [hS.length, sizeLine_eq]; omega
      refine wpAny_dictSet_pairs (hsz := hkl) (intKind_is prog w (c.toNat : Int) u) hd₄ fun h₅ hd₅ hs₅ => ?_
      have hst₄ := W.frame _ _ h₅ hst₃ fun b hb o q => hs₅.extBut b o (fun z => by
          subst z
          rcases List.mem_cons.mp hb with z | hb
          · exact (below e helt).2 z.symm
          · exact (below it hitlt).2 (List.mem_singleton.mp hb).symm) (hs₄ b o (fun z => by
          subst z
          rcases List.mem_cons.mp hb with z | hb
          · exact (below e helt).1 z.symm
          · exact (below it hitlt).1 (List.mem_singleton.mp hb).symm) q)
      refine ⟨bs.size + 1 - (i + 1), by omega, h₅, _, i + 1, _, _, rfl, hlt, rfl, ?_, hn₄.sameBut hs₅ (Ne.symm hDC), hd₅, ?_, fun b o h1 h2 h3 q => hs₅.extBut b o h3 (hs₄ b o h1 (up₃ b o h2 (hk' b o h1 h2 h3 q)))⟩
      · exact hst₄
      · rw [rowsOf_take hg]
        exact hS.put _ _ _
    · have hin : i = bs.size := by omega
      subst hin
      refine W.done _ _ _ hst fun h₂ tk₂ hk₂ => ?_
      rw [← hlen, List.take_length] at hS
      refine ⟨m', hn'.at' fun o q => hk₂ _ o hCw q, fun h'' hs'' => ?_⟩
      refine hQ _ h'' tk₂ kvs (Nat.le_refl _) ((hd'.at fun o q => hk₂ _ o hDw q).extBut hs''.extBut hDC) hS fun b o h1 h2 q => ?_
      have hb := below b (Heap.lt_size q)
      exact hs''.extBut b o hb.1 (hk₂ b o (wr_ne b h1 h2) (hk' b o hb.1 (wr_ne b h1 h2) hb.2 q))
  exact codeAny_compStart_dict (loop _ rfl) (wpAny_pyIter_enum he₁ (loop _ rfl))
end
end

-- MComp
section
set_option maxRecDepth 100000
set_option maxHeartbeats 8000000
open PySem.Calls
/-- iterating over v from here yields the ints ks -/
def IntSrc (prog : Program) (w : World) (A : Around) (v : Value) (ks : List Int) (s : Shared) : Prop :=
  ∀ (Q : Value → Shared → Prop) (E : Value → Shared → Prop), (∀ I fp wr P St h', Walks prog w A I fp wr ks.length P St → (∀ i v, P i v → ∃ k t, ks[i]? = some k ∧ v = .int k t) → St 0 h' → (∀ b ∈ fp, b < h'.objs.size) → (∀ b ∈ wr, s.heap.objs.size ≤ b) →
    (∀ b o, s.heap.get? b = some o → h'.get? b = some o) → Q (.ref I) { s with heap := h' }) → wpAny (model prog w) A (pyIter v) Q E s
section
variable {prog : Program} {w : World} {A : Around} {s : Shared}
theorem src_bytes {b : Array UInt8} {t : Tok} {ks : List Int} (hh : A.handled = none) (hb : KBw.bInts b = ks) : IntSrc prog w A (.bytes b t) ks s := by
  intro Q E h
  subst hb
  refine KBw.pyIter_bytes ?_
  have W := KBw.walks (prog := prog) (w := w) hh s.heap.objs.size b t
  rw [← KBw.ints_length b] at W
  refine h _ _ _ _ _ _ W ?_ ⟨_, Heap.get?_push_size _ rfl, rfl, rfl⟩ ?_ ?_ fun b o e => Heap.get?_push_of_some _ e
  · rintro i v ⟨c, u, hc, rfl⟩
    exact ⟨_, u, KBw.ints_get hc, rfl⟩
  · intro b hb; rw [List.mem_singleton.mp hb, Heap.size_push]; exact Nat.lt_succ_self _
  · intro b hb; rw [List.mem_singleton.mp hb]; exact Nat.le_refl _
theorem src_list {l : Addr} {vs : List Value} {ks : List Int} (hh : A.handled = none) (hl : s.heap.IsList l vs.toArray) (hi : IntsAre vs ks) : IntSrc prog w A (.ref l) ks s := by
  intro Q E h
  have hlt : l < s.heap.objs.size := by obtain ⟨_, e, _⟩ := hl; exact Heap.lt_size e
  refine wpAny_pyIter_list hl ?_
  have W := Walks.list (prog := prog) (w := w) hh s.heap.objs.size l (Nat.ne_of_lt hlt) vs.toArray
  rw [show vs.toArray.size = ks.length by rw [List.size_toArray]; exact hi.length] at W
  refine h _ _ _ _ _ _ W ?_ ⟨⟨_, Heap.get?_push_size _ rfl, rfl, rfl⟩, hl.push _⟩ ?_ ?_ fun b o e => Heap.get?_push_of_some _ e
  · intro i v hP
    have hP' : vs[i]? = some v := by simpa using hP
    obtain ⟨n, t, rfl, hn⟩ : ∃ n t, v = .int n t ∧ ks[i]? = some n := by
      have hlt' : i < ks.length := by
        rw [← hi.length]
        rcases Nat.lt_or_ge i vs.length with q | q
        · exact q
        · rw [List.getElem?_eq_none q] at hP'; cases hP'
      obtain ⟨t, hx⟩ := hi.get i ks[i] (by simp [hlt'])
      rw [hx] at hP'
      exact ⟨_, t, (Option.some.inj hP').symm, by simp [hlt']⟩
    exact ⟨n, t, hn, rfl⟩
  · intro b hb
    rw [Heap.size_push]
    rcases List.mem_cons.mp hb with rfl | hb
    · exact Nat.lt_succ_self _
    · rw [List.mem_singleton.mp hb]; exact Nat.lt_succ_of_lt hlt
  · intro b hb; rw [List.mem_singleton.mp hb]; exact Nat.le_refl _
theorem src_tuple {l : Addr} {vs : List Value} {ks : List Int} (hh : A.handled = none) (hl : s.heap.IsTuple l vs.toArray) (hi : IntsAre vs ks) : IntSrc prog w A (.ref l) ks s := by
  intro Q E h
  have hlt : l < s.heap.objs.size := by obtain ⟨_, e, _⟩ := hl; exact Heap.lt_size e
  refine wpAny_pyIter_tuple hl ?_
  have W := Walks.tuple (prog := prog) (w := w) hh s.heap.objs.size l (Nat.ne_of_lt hlt) vs.toArray
  rw [show vs.toArray.size = ks.length by rw [List.size_toArray]; exact hi.length] at W
  refine h _ _ _ _ _ _ W ?_ ⟨⟨_, Heap.get?_push_size _ rfl, rfl, rfl⟩, let ⟨o, ho, r⟩ := hl; ⟨o, Heap.get?_push_of_some _ ho, r⟩⟩ ?_ ?_ fun b o e => Heap.get?_push_of_some _ e
  · intro i v hP
    have hP' : vs[i]? = some v := by simpa using hP
    obtain ⟨n, t, rfl, hn⟩ : ∃ n t, v = .int n t ∧ ks[i]? = some n := by
      have hlt' : i < ks.length := by
        rw [← hi.length]
        rcases Nat.lt_or_ge i vs.length with q | q
        · exact q
        · rw [List.getElem?_eq_none q] at hP'; cases hP'
      obtain ⟨t, hx⟩ := hi.get i ks[i] (by simp [hlt'])
      rw [hx] at hP'
      exact ⟨_, t, (Option.some.inj hP').symm, by simp [hlt']⟩
    exact ⟨n, t, hn, rfl⟩
  · intro b hb
    rw [Heap.size_push]
    rcases List.mem_cons.mp hb with rfl | hb
    · exact Nat.lt_succ_self _
    · rw [List.mem_singleton.mp hb]; exact Nat.lt_succ_of_lt hlt
  · intro b hb; rw [List.mem_singleton.mp hb]; exact Nat.le_refl _
end
/-- one test of a comprehension -/
abbrev testOf (ifs : List PySem.Expr) (env : Env) : Sem Bool := forIn ifs true fun c r => if r = true then do let ok ← isTrue c env (eval c env); pure (ForInStep.yield ok) else pure (ForInStep.yield r)
theorem paired_filter {ks : List Int} {p : Int → Bool} {R : Int → Value → Prop} {P : Nat → Value → Prop} {pv : Value → Bool} (hp : ∀ k t, pv (.int k t) = p k) (hP : ∀ i v, P i v → ∃ k t, ks[i]? = some k ∧ v = .int k t)
    {F : Value → Value → Prop} (hF : ∀ k t y, F (.int k t) y → R k y) :
    ∀ (vs : List Value) (j : Nat) (ys : List Value), (∀ i v, vs[i]? = some v → P (j + i) v) → Paired F (vs.filter pv) ys → Paired R (((ks.drop j).take vs.length).filter p) ys := by
  intro vs
  induction vs with
  | nil => intro j ys _ h; cases h; simp; exact .nil
  | cons v vs ih =>
    intro j ys hv h
    obtain ⟨k, t, hk, rfl⟩ := hP _ _ (hv 0 v rfl)
    rw [Nat.add_zero] at hk
    have hd : ks.drop j = k :: ks.drop (j + 1) := by
      have hlt : j < ks.length := by
        rcases Nat.lt_or_ge j ks.length with q | q
        · exact q
        · rw [List.getElem?_eq_none q] at hk; cases hk
      rw [List.drop_eq_getElem_cons hlt]
      congr 1
      exact Option.some.inj ((List.getElem?_eq_getElem hlt).symm.trans hk)
    have hv' : ∀ i u, vs[i]? = some u → P (j + 1 + i) u := fun i u hu => by
      have := hv (i + 1) u (by simpa using hu)
      rwa [show j + (i + 1) = j + 1 + i by omega] at this
    rw [hd, List.length_cons, List.take_succ_cons, List.filter_cons]
    rw [List.filter_cons, hp k t] at h
    cases hpk : p k with
    | false =>
      rw [hpk] at h
      simp only [Bool.false_eq_true, if_false] at h ⊢
      exact ih (j + 1) ys hv' h
    | true =>
      rw [hpk] at h
      simp only [if_true] at h ⊢
      cases h with
      | cons h1 h2 => exact .cons (hF _ _ _ h1) (ih (j + 1) _ hv' h2)
theorem paired_ints {ks : List Int} {d : Int → Int} : ∀ {ys : List Value}, Paired (fun k y => ∃ t, y = Value.int (d k) t) ks ys → IntsAre ys (ks.map d) := by
  induction ks with
  | nil => intro ys h; cases h; exact .nil
  | cons k ks ih =>
    intro ys h
    cases h with
    | cons h1 h2 => obtain ⟨t, rfl⟩ := h1; exact .cons _ t (ih h2)
def pvOf (p : Int → Bool) : Value → Bool
  | .int k _ => p k
  | _ => false
section
variable {prog : Program} {w : World} {A : Around} {E : Value → Shared → Prop} {s : Shared} {h₀ : Heap} {L : Addr} {m : Str → Option Value} {news : List (Addr × Obj)} {env : Env}
/-- what a comprehension over ints wants of its source: the ints, the test, the element, and the rest of the walk -/
def CompAt (prog : Program) (w : World) (A : Around) (scope : Scope) (cl : List (Str × Addr)) (env : Env) (x : Str) (ifs : List PySem.Expr) (elt : PySem.Expr) (p : Int → Bool) (R : Int → Value → Prop) (cont : Shared → List Int → Prop) (xv : Value) (s₁ : Shared) : Prop :=
  ∃ ks, IntSrc prog w A xv ks s₁ ∧ ks.length ≤ 64 ∧
    (∀ C k t s₃ m₃ E', k ∈ ks → s₃.heap.Ns C m₃ → m₃ x = some (.int k t) → (∀ b o, s₁.heap.get? b = some o → s₃.heap.get? b = some o) →
      wpAny (model prog w) A (testOf ifs (compEnvC scope cl C env)) (fun ok s₄ => ok = p k ∧ Keeps s₃ s₄) E' s₃) ∧
    (∀ C k t s₃ m₃ E', k ∈ ks → p k = true → s₃.heap.Ns C m₃ → m₃ x = some (.int k t) → (∀ b o, s₁.heap.get? b = some o → s₃.heap.get? b = some o) →
      wpAny (model prog w) A (eval elt (compEnvC scope cl C env)) (fun y s₄ => R k y ∧ Keeps s₃ s₄) E' s₃) ∧
    cont s₁ ks
theorem wr_keep {s s₃ : Shared} {h' : Heap} {wr : List Addr} (hw : ∀ b ∈ wr, s.heap.objs.size ≤ b) (h1 : ∀ b o, s.heap.get? b = some o → h'.get? b = some o) (h2 : ∀ b o, b ∉ wr → h'.get? b = some o → s₃.heap.get? b = some o) :
    ∀ b o, s.heap.get? b = some o → s₃.heap.get? b = some o := fun b o e => h2 b o (fun hm => Nat.lt_irrefl _ (Nat.lt_of_lt_of_le (Heap.lt_size e) (hw b hm))) (h1 b o e)
theorem ListComp_src {s : Shared} {elt iter : PySem.Expr} {x : Str} {px : Pos} {ifs : List PySem.Expr} {scope : Scope} {cl : List (Str × Addr)} {pos : Pos} {Q : Value → Shared → Prop} {p : Int → Bool} {R : Int → Value → Prop}
    (_F : Fr h₀ L s.heap m) (_N : News h₀ L s.heap news) (hclos : closureFor scope env = pure cl) (hcell : ∀ y ∈ scope.names, y.2 ≠ .cell) (hkind : scope.kind = .function)
    (hnames : ∀ y ∈ scope.names, y.2 = .local → scope.names.lookup y.1 = some .local) (hx : scope.names.lookup x = some .local)
    (hs : ∀ x, foldedSetIterable iter env x = pure x)
    (h : wpAny (model prog w) A (eval iter env) (fun xv s₁ => CompAt prog w A scope cl env x ifs elt p R (fun s₁ ks => Fr h₀ L s₁.heap m ∧ News h₀ L s₁.heap news ∧
      ∀ D ys n h' tk, Fr h₀ L h' m → News h₀ L h' ((D, listOf ys.toArray n) :: news) → LCg.Off1 D news → Paired R (ks.filter p) ys → Q (.ref D) { s₁ with heap := h', toks := tk }) xv s₁) E s) :
    wpAny (model prog w) A (eval (.ListComp elt [⟨.Name x px, iter, ifs, 0⟩] scope pos) env) Q E s := by
  refine wpAny_ListComp_free (pvOf p) (fun v y => ∃ k t, v = .int k t ∧ R k y) hclos hcell hkind hnames hx (wpAny_mono h (fun xv s₁ h₁ => ?_) fun _ _ e => e) hs
  obtain ⟨ks, hsrc, hz, ht, he, F, N, hQ⟩ := h₁
  refine hsrc _ _ fun I fp wr P St h' W hP hst hfp hw hk => ⟨I, fp, wr, ks.length, P, St, rfl, W, by rw [sizeLine_eq]; omega, hst, hfp, ⟨?_, ?_⟩, ?_⟩
  · intro C i v s₃ m₃ E' _ hv hn hm hk3 _
    obtain ⟨k, t, hk', rfl⟩ := hP i v hv
    exact ht C k t s₃ m₃ E' (List.mem_of_getElem? hk') hn hm (wr_keep hw hk hk3)
  · intro C i v s₃ m₃ E' _ hv hpv hn hm hk3 _
    obtain ⟨k, t, hk', rfl⟩ := hP i v hv
    exact wpAny_mono (he C k t s₃ m₃ E' (List.mem_of_getElem? hk') hpv hn hm (wr_keep hw hk hk3)) (fun y s₄ q => ⟨⟨k, t, rfl, q.1⟩, q.2⟩) fun _ _ e => e
  · intro D h'' tk ys vs hD hl hpl hlen hPv hF hk3
    have keep := wr_keep (s₃ := { s₁ with heap := h'' }) hw hk hk3
    obtain ⟨n, hpl⟩ := hpl
    have hDs : ∀ b o, s₁.heap.get? b = some o → b ≠ D := fun b o e q => by
      have := hk b o e; rw [q, show h'.get? D = none from hD] at this; cases this
    obtain ⟨oL, _, _, hL, _⟩ := F.ns
    have hpair := paired_filter (p := p) (R := R) (F := fun v y => ∃ k t, v = .int k t ∧ R k y) (pv := pvOf p) (fun k t => rfl) hP (fun k t y q => by obtain ⟨k', t', e, r⟩ := q; cases e; exact r) vs 0 ys.toList (fun i v hv => by rw [Nat.zero_add]; exact hPv i v hv) hF
    rw [List.drop_zero, hlen, List.take_length] at hpair
    refine hQ D ys.toList n h'' tk (F.keeps keep) (fun q hq => ?_) ?_ hpair
    · rcases List.mem_cons.mp hq with rfl | hq
      · refine ⟨by simpa using hpl, fun z => hDs L oL hL z.symm, ?_⟩
        cases e : h₀.get? D with
        | none => rfl
        | some o' => exact absurd rfl (hDs D o' (F.keep _ _ e))
      · exact N.grown keep q hq
    · have : ∀ l : List (Addr × Obj), (∀ p ∈ l, p.1 ≠ D) → LCg.Off1 D l := by
        intro l
        induction l with
        | nil => intro _; trivial
        | cons q r ih => intro hl; exact ⟨hl q (.head _), ih fun p hp => hl p (.tail _ hp)⟩
      exact this news fun q hq => hDs q.1 q.2 (N q hq).1
theorem Assign_ListComp_src {elt iter : PySem.Expr} {x y : Str} {px py : Pos} {ifs : List PySem.Expr} {scope : Scope} {cl : List (Str × Addr)} {pos spos : Pos} {Q : Flow → Shared → Prop} {p : Int → Bool} {R : Int → Value → Prop}
    (_F : Fr h₀ L s.heap m) (_N : News h₀ L s.heap news) (hL : env.locals = L) (hsw : swapsWith (.ListComp elt [⟨.Name x px, iter, ifs, 0⟩] scope pos) (some (.Name y py)) spos.line env = pure true)
    (hclos : closureFor scope env = pure cl) (hcell : ∀ y ∈ scope.names, y.2 ≠ .cell) (hkind : scope.kind = .function)
    (hnames : ∀ y ∈ scope.names, y.2 = .local → scope.names.lookup y.1 = some .local) (hx : scope.names.lookup x = some .local)
    (hy : env.kindOf y = some .local) (hp : (env.scope.kind == .class || (env.scope.kind == .module && env.locals != env.globals)) = false)
    (hs : ∀ x, foldedSetIterable iter env x = pure x)
    (h : wpAny (model prog w) A (eval iter env) (fun xv s₁ => CompAt prog w A scope cl env x ifs elt p R (fun s₁ ks => Fr h₀ L s₁.heap m ∧ News h₀ L s₁.heap news ∧
      ∀ D ys n h' tk, Fr h₀ L h' (fun z => if z = y then some (.ref D) else m z) → News h₀ L h' ((D, listOf ys.toArray n) :: news) → LCg.Off1 D news → Paired R (ks.filter p) ys → Q .next { s₁ with heap := h', toks := tk }) xv s₁) E s) :
    wpAny (model prog w) A (exec (.Assign [.Name y py] (.ListComp elt [⟨.Name x px, iter, ifs, 0⟩] scope pos) spos) env) Q E s := by
  subst hL
  refine wpAny_Assign_ListComp_free (pvOf p) (fun v y => ∃ k t, v = .int k t ∧ R k y) hsw hclos hcell hkind hnames hx hy hp (wpAny_mono h (fun xv s₁ h₁ => ?_) fun _ _ e => e) hs
  obtain ⟨ks, hsrc, hz, ht, he, F, N, hQ⟩ := h₁
  refine hsrc _ _ fun I fp wr P St h' W hP hst hfp hw hk => ⟨I, fp, wr, ks.length, P, St, m, rfl, W, by rw [sizeLine_eq]; omega, hst, hfp, ?_, F.ns.at' fun o e => hk _ o e, ⟨?_, ?_⟩, ?_⟩
  · intro hm
    exact Nat.lt_irrefl _ (Nat.lt_of_lt_of_le F.ns.lt (hw _ hm))
  · intro C i v s₃ m₃ E' _ hv hn hm hk3 _
    obtain ⟨k, t, hk', rfl⟩ := hP i v hv
    exact ht C k t s₃ m₃ E' (List.mem_of_getElem? hk') hn hm (wr_keep hw hk hk3)
  · intro C i v s₃ m₃ E' _ hv hpv hn hm hk3 _
    obtain ⟨k, t, hk', rfl⟩ := hP i v hv
    exact wpAny_mono (he C k t s₃ m₃ E' (List.mem_of_getElem? hk') hpv hn hm (wr_keep hw hk hk3)) (fun y s₄ q => ⟨⟨k, t, rfl, q.1⟩, q.2⟩) fun _ _ e => e
  · intro D h'' tk ys vs hD hl hpl hlen hPv hF hns hk3
    obtain ⟨n, hpl⟩ := hpl
    have hDs : ∀ b o, s₁.heap.get? b = some o → b ≠ D := fun b o e q => by
      have := hk b o e; rw [q, show h'.get? D = none from hD] at this; cases this
    have keepB : ∀ b o, b ≠ env.locals → s₁.heap.get? b = some o → h''.get? b = some o := fun b o hb e => hk3 b o hb (fun hm => Nat.lt_irrefl _ (Nat.lt_of_lt_of_le (Heap.lt_size e) (hw b hm))) (hk b o e)
    obtain ⟨oL, _, _, hL, _⟩ := F.ns
    have hpair := paired_filter (p := p) (R := R) (F := fun v y => ∃ k t, v = .int k t ∧ R k y) (pv := pvOf p) (fun k t => rfl) hP (fun k t y q => by obtain ⟨k', t', e, r⟩ := q; cases e; exact r) vs 0 ys.toList (fun i v hv => by rw [Nat.zero_add]; exact hPv i v hv) hF
    rw [List.drop_zero, hlen, List.take_length] at hpair
    have hL0 : ∀ b o, h₀.get? b = some o → b ≠ env.locals := fun b o e => Nat.ne_of_lt (Nat.lt_of_lt_of_le (Heap.lt_size e) F.above)
    refine hQ D ys.toList n h'' tk ⟨hns, fun b o e => keepB b o (hL0 b o e) (F.keep b o e), F.above⟩ (fun q hq => ?_) ?_ hpair
    · rcases List.mem_cons.mp hq with rfl | hq
      · refine ⟨by simpa using hpl, fun z => hDs _ oL hL z.symm, ?_⟩
        cases e : h₀.get? D with
        | none => rfl
        | some o' => exact absurd rfl (hDs D o' (F.keep _ _ e))
      · exact ⟨keepB _ _ (N q hq).2.1 (N q hq).1, (N q hq).2⟩
    · have : ∀ l : List (Addr × Obj), (∀ p ∈ l, p.1 ≠ D) → LCg.Off1 D l := by
        intro l
        induction l with
        | nil => intro _; trivial
        | cons q r ih => intro hl; exact ⟨hl q (.head _), ih fun p hp => hl p (.tail _ hp)⟩
      exact this news fun q hq => hDs q.1 q.2 (N q hq).1
end
end

-- MComp2
section
set_option maxRecDepth 100000
set_option maxHeartbeats 8000000
open PySem.Calls
/-- {kf k: k for k in ks} -/
def rowsBy (kf : Int → Int) (ks : List Int) : List (Int × Int) := ks.foldl (fun D k => putI D (kf k) k) []
theorem rowsBy_take {kf : Int → Int} {ks : List Int} {i : Nat} {k : Int} (h : ks[i]? = some k) : rowsBy kf (ks.take (i + 1)) = putI (rowsBy kf (ks.take i)) (kf k) k := by
  unfold rowsBy
  rw [List.take_add_one, h, List.foldl_append]
  rfl
theorem rowsBy_len (kf : Int → Int) : ∀ ks : List Int, (rowsBy kf ks).length ≤ ks.length := by
  have aux : ∀ (l : List Int) (D : List (Int × Int)), (l.foldl (fun D k => putI D (kf k) k) D).length ≤ D.length + l.length := by
    intro l
    induction l with
    | nil => intro D; simp
    | cons p l ih =>
      intro D
      rw [List.foldl_cons]
      have h1 := ih (putI D (kf p) p)
      have h2 := length_put D (kf p) p
      simp only [List.length_cons]
      omega
  intro ks
  have := aux ks []
  simpa [rowsBy] using this
section
variable {w : World} {A : Around} {E : Value → Shared → Prop} {s : Shared} {h₀ : Heap} {L : Addr} {m : Str → Option Value} {news : List (Addr × Obj)} {env : Env}
/-- what {..: k for k in ..} wants of its source -/
def DCompAt (w : World) (A : Around) (scope : Scope) (cl : List (Str × Addr)) (env : Env) (x : Str) (kx : PySem.Expr) (kf : Int → Int) (cont : Shared → List Int → Prop) (xv : Value) (s₁ : Shared) : Prop :=
  ∃ ks, IntSrc PySem.Challenge.rw_fe0039_01.row.prog w A xv ks s₁ ∧ ks.length ≤ 64 ∧
    (∀ C k t s₃ m₃ E', k ∈ ks → s₃.heap.Ns C m₃ → m₃ x = some (.int k t) → (∀ b o, s₁.heap.get? b = some o → s₃.heap.get? b = some o) →
      wpAny (model PySem.Challenge.rw_fe0039_01.row.prog w) A (eval kx (compEnvC scope cl C env)) (fun y s₄ => (∃ t, y = .int (kf k) t) ∧ Keeps s₃ s₄) E' s₃) ∧
    cont s₁ ks
theorem DictComp_src {kx iter : PySem.Expr} {x : Str} {px px' : Pos} {scope : Scope} {cl : List (Str × Addr)} {pos : Pos} {Q : Value → Shared → Prop} {kf : Int → Int}
    (_F : Fr h₀ L s.heap m) (_N : News h₀ L s.heap news) (hclos : closureFor scope env = pure cl) (hcell : ∀ y ∈ scope.names, y.2 ≠ .cell) (hkind : scope.kind = .function)
    (hnames : ∀ y ∈ scope.names, y.2 = .local → scope.names.lookup y.1 = some .local) (hx : scope.names.lookup x = some .local) (hdx : (x == ("__debug__" : Str)) = false)
    (hs : ∀ x, foldedSetIterable iter env x = pure x)
    (h : wpAny (model PySem.Challenge.rw_fe0039_01.row.prog w) A (eval iter env) (fun xv s₁ => DCompAt w A scope cl env x kx kf (fun s₁ ks => Fr h₀ L s₁.heap m ∧ News h₀ L s₁.heap news ∧ h₀.NoLimit ∧
      ∀ D o h' tk, Fr h₀ L h' m → News h₀ L h' ((D, o) :: news) → (∀ p ∈ news, p.1 < D) → (D == sysModules) = false → IsMap w o (rowsBy kf ks) → Q (.ref D) { s₁ with heap := h', toks := tk }) xv s₁) E s) :
    wpAny (model PySem.Challenge.rw_fe0039_01.row.prog w) A (eval (.DictComp kx (.Name x px') [⟨.Name x px, iter, [], 0⟩] scope pos) env) Q E s := by
  rw [arm_eval_DictComp]
  refine wpAny_comprehension_free (use := none) rfl hs hclos hkind hnames (wpAny_mono h (fun xv s₁ h₁ => ?_) fun _ _ e => e)
  obtain ⟨ks, hsrc, hz, hkx, F, N, hbig, hQ⟩ := h₁
  refine hsrc _ _ fun I fp wr P St hI W hP hst hfp hw hkI => ?_
  refine wpAny_newObj_type (wpAny_newFunctionEnv hcell (by intro y hy; simp at hy) (fun h₁ hns₁ hsb₁ => ?_) hkind)
  dsimp only at hns₁ hsb₁ ⊢
  have hnew : (hI.push { cls := .type "dict", dict := none, data := .dict #[] }).DictOf (intKind PySem.Challenge.rw_fe0039_01.row.prog w) hI.objs.size [] := Heap.DictOf.new hI
  generalize hH2 : hI.push { cls := .type "dict", dict := none, data := .dict #[] } = H2 at hns₁ hsb₁ hnew ⊢
  have hC : H2.objs.size = hI.objs.size + 1 := by rw [← hH2, Heap.size_push]
  have hDC : hI.objs.size ≠ H2.objs.size := by rw [hC]; exact Nat.ne_of_lt (Nat.lt_succ_self _)
  have below : ∀ b, b < hI.objs.size → b ≠ H2.objs.size ∧ b ≠ hI.objs.size := fun b hb => ⟨by rw [hC]; exact Nat.ne_of_lt (Nat.lt_succ_of_lt hb), Nat.ne_of_lt hb⟩
  have old : ∀ b o, hI.get? b = some o → h₁.get? b = some o := fun b o e => hsb₁.extBut b o (below b (Heap.lt_size e)).1 (Heap.get?_push_of_some _ (hH2 ▸ Heap.get?_push_of_some _ e))
  have hacc : h₁.DictOf (intKind PySem.Challenge.rw_fe0039_01.row.prog w) hI.objs.size [] := hnew.at fun o e => hsb₁.extBut _ _ hDC (Heap.get?_push_of_some _ e)
  have hst₁ : St 0 h₁ := W.frame _ _ _ hst fun b _ o e => old b o e
  have hfpD : hI.objs.size ∉ fp := fun hm => Nat.lt_irrefl _ (hfp _ hm)
  have hfpC : H2.objs.size ∉ fp := fun hm => by have := hfp _ hm; rw [hC] at this; exact Nat.lt_irrefl _ (Nat.lt_of_succ_lt this)
  have hDw : hI.objs.size ∉ wr := fun hm => hfpD (W.sub _ hm)
  have hCw : H2.objs.size ∉ wr := fun hm => hfpC (W.sub _ hm)
  have hle : s.heap.objs.size ≤ s.heap.objs.size := Nat.le_refl _
  have loop : ∀ s₃ : Shared, s₃ = { s₁ with heap := h₁, toks := s₁.toks + ([] : List (Str × Value)).length } →
      codeAny (model PySem.Challenge.rw_fe0039_01.row.prog w) A (.compLoop (.DictComp kx (.Name x px') [⟨.Name x px, iter, [], 0⟩] scope pos) 0 (.ref I) (.ref hI.objs.size) (compEnvC scope cl H2.objs.size env))
        (compPost (model PySem.Challenge.rw_fe0039_01.row.prog w) A E none Q (.ref hI.objs.size) H2.objs.size) s₃ := by
    rintro s₃ rfl
    refine dc_loop
      (fun k s' => ∃ h' tk i kvs m', s' = { s₁ with heap := h', toks := tk } ∧ i ≤ ks.length ∧ k = ks.length + 1 - i ∧ St i h' ∧ h'.Ns H2.objs.size m' ∧
        h'.DictOf (intKind PySem.Challenge.rw_fe0039_01.row.prog w) hI.objs.size kvs ∧ Says kvs (rowsBy kf (ks.take i)) ∧
        ∀ b o, b ≠ H2.objs.size → b ∉ wr → b ≠ hI.objs.size → hI.get? b = some o → h'.get? b = some o) ?_ (ks.length + 1)
      ⟨h₁, _, 0, [], _, rfl, Nat.zero_le _, rfl, hst₁, hns₁, hacc, by simpa [rowsBy] using Says.nil, fun b o _ _ _ q => old b o q⟩
    rintro k s' ⟨h', tk, i, kvs, m', rfl, hi, rfl, hst, hn', hd', hS, hk'⟩
    have keep0 : ∀ b o, s₁.heap.get? b = some o → h'.get? b = some o := fun b o e => by
      have e2 := hkI b o e
      have hb := below b (Heap.lt_size e2)
      exact hk' b o hb.1 (fun hm => Nat.lt_irrefl _ (Nat.lt_of_lt_of_le (Heap.lt_size e) (hw b hm))) hb.2 e2
    by_cases hlt : i < ks.length
    · refine W.item i _ _ _ hlt hst fun v h₂ tk₂ hv hst₂ hk₂ => ?_
      obtain ⟨kk, tt, hkk, rfl⟩ := hP i v hv
      refine wpAny_of_eq (a := ()) rfl ?_
      refine wpAny_assign_Name (wpAny_storeName_local (lookup_relabel_local hx) (hn'.at' fun o q => hk₂ _ o hCw q) (fun h₃ hn₃ hs₃ => ?_) (by simp [compEnvC, relabel, hkind]))
      replace hn₃ : h₃.Ns H2.objs.size _ := hn₃
      replace hs₃ : Heap.SameBut H2.objs.size h₂ h₃ := hs₃
      have up₃ : ∀ b o, b ∉ wr → b ≠ H2.objs.size → h'.get? b = some o → h₃.get? b = some o := fun b o h1 h2 q => hs₃.extBut b o h2 (hk₂ b o h1 q)
      have keep3 : ∀ b o, s₁.heap.get? b = some o → h₃.get? b = some o := fun b o e => by
        have hb := below b (Heap.lt_size (hkI b o e))
        exact up₃ b o (fun hm => Nat.lt_irrefl _ (Nat.lt_of_lt_of_le (Heap.lt_size e) (hw b hm))) hb.1 (keep0 b o e)
      refine wpAny_mono (hkx H2.objs.size kk tt _ _ _ (List.mem_of_getElem? hkk) hn₃ (by simp) keep3) (fun y s₄ h₄ => ?_) fun _ _ e => e
      obtain ⟨⟨ty, rfl⟩, h₄, tk₄, rfl, hk₄⟩ := h₄
      refine wpAny_Name (wpAny_loadName_local hkind (lookup_relabel_local hx) (hn₃.keeps hk₄) (v := .int kk tt) (by simp) ?_) hdx
      have hd₄ : h₄.DictOf (intKind PySem.Challenge.rw_fe0039_01.row.prog w) hI.objs.size kvs := hd'.at fun o q => hk₄ _ o (up₃ _ o hDw hDC q)
      have hkl : kvs.length ≤ sizeLine := by
        have h1 := rowsBy_len kf (ks.take i)
        have h2 : (ks.take i).length ≤ 64 := by rw [List.length_take]; omega
        rw [hS.length, sizeLine_eq]; omega
      refine wpAny_dictSet_pairs (hsz := hkl) (intKind_is PySem.Challenge.rw_fe0039_01.row.prog w (kf kk) ty) hd₄ fun h₅ hd₅ hs₅ => ?_
      have hst₅ := W.frame _ _ h₅ hst₂ fun b hb o q => hs₅.extBut b o (fun z => hfpD (z ▸ hb)) (hk₄ b o (hs₃.extBut b o (fun z => hfpC (z ▸ hb)) q))
      refine ⟨ks.length + 1 - (i + 1), by omega, h₅, _, i + 1, _, _, rfl, hlt, rfl, hst₅, (hn₃.keeps hk₄).sameBut hs₅ (Ne.symm hDC), hd₅, ?_, fun b o h1 h2 h3 q => hs₅.extBut b o h3 (hk₄ b o (up₃ b o h2 h1 (hk' b o h1 h2 h3 q)))⟩
      rw [rowsBy_take hkk]
      exact hS.put _ _ _
    · have hin : i = ks.length := by omega
      subst hin
      refine W.done _ _ _ hst fun h₂ tk₂ hk₂ => ?_
      rw [List.take_length] at hS
      refine ⟨m', hn'.at' fun o q => hk₂ _ o hCw q, fun h'' hs'' => ?_⟩
      have hdF := (hd'.at fun o q => hk₂ _ o hDw q).extBut hs''.extBut hDC
      obtain ⟨o, ho, hdo⟩ := Heap.dictOf_iff.mp hdF
      have keep : ∀ b o, s₁.heap.get? b = some o → h''.get? b = some o := fun b o e => by
        have hb := below b (Heap.lt_size (hkI b o e))
        exact hs''.extBut b o hb.1 (hk₂ b o (fun hm => Nat.lt_irrefl _ (Nat.lt_of_lt_of_le (Heap.lt_size e) (hw b hm))) (keep0 b o e))
      have up : ∀ b o, s₁.heap.get? b = some o → b < hI.objs.size := fun b o e => Heap.lt_size (hkI b o e)
      obtain ⟨oL, _, _, hL, _⟩ := F.ns
      have hD0 : h₀.get? hI.objs.size = none := by
        cases q : h₀.get? hI.objs.size with
        | none => rfl
        | some o => exact absurd (up _ _ (F.keep _ _ q)) (Nat.lt_irrefl _)
      have hml := Nat.lt_of_lt_of_le (modules_low hbig) F.above
      refine hQ hI.objs.size o h'' tk₂ (F.keeps keep) (fun p hp => ?_) (fun p hp => up _ _ (N p hp).1) (beq_eq_false_iff_ne.mpr (Nat.ne_of_gt (Nat.lt_trans hml (up _ _ hL)))) ⟨⟨kvs, hdo, hS⟩, Nat.le_trans (rowsBy_len kf ks) (by omega)⟩
      rcases List.mem_cons.mp hp with rfl | hp
      · exact ⟨ho, Nat.ne_of_gt (up _ _ hL), hD0⟩
      · exact N.grown keep p hp
  exact codeAny_compStart_dict (loop _ rfl) (W.self 0 _ _ _ hst₁ (loop _ rfl))
end
-- the leaves
section
variable {prog : Program} {w : World} {A : Around} {E : Value → Shared → Prop} {s : Shared} {env : Env} {scope : Scope} {cl : List (Str × Addr)} {C : Addr} {m : Str → Option Value} {k : Int} {t : Tok} {x : Str} {px pos : Pos}
theorem leaf_name (hk : scope.kind = .function) (hl : scope.names.lookup x = some .local) (hd : (x == ("__debug__" : Str)) = false) {Q : Value → Shared → Prop} {v : Value} (hn : s.heap.Ns C m) (hm : m x = some v) (h : Q v s) :
    wpAny (model prog w) A (eval (.Name x px) (compEnvC scope cl C env)) Q E s :=
  wpAny_Name (wpAny_loadName_local hk (lookup_relabel_local hl) hn hm h) hd
theorem keeps_tok {s : Shared} {tk : Nat} : Keeps s { s with toks := tk } := ⟨s.heap, tk, rfl, fun _ _ e => e⟩
theorem keeps_refl {s : Shared} : Keeps s s := ⟨s.heap, s.toks, rfl, fun _ _ e => e⟩
theorem leaf_cell {y : Str} {c : Addr} {v : Value} (hk : scope.kind = .function) (hl : (compEnvC scope cl C env).kindOf y = some .cell) (hc : cl.lookup y = some c) (hd : (y == ("__debug__" : Str)) = false) {Q : Value → Shared → Prop} (hv : s.heap.IsCell c (some v)) (h : Q v s) :
    wpAny (model prog w) A (eval (.Name y px) (compEnvC scope cl C env)) Q E s :=
  wpAny_Name (wpAny_loadName_cell hk hl hc hv h) hd
theorem leaf_in {y : Str} {c D : Addr} {o : Obj} {rows : List (Int × Int)} {py : Pos} {E' : Value → Shared → Prop} (hk : scope.kind = .function) (hl : scope.names.lookup x = some .local) (hd : (x == ("__debug__" : Str)) = false)
    (hly : (compEnvC scope cl C env).kindOf y = some .cell) (hc : cl.lookup y = some c) (hdy : (y == ("__debug__" : Str)) = false)
    (hn : s.heap.Ns C m) (hm : m x = some (.int k t)) (hv : s.heap.IsCell c (some (.ref D))) (ho : s.heap.get? D = some o) (M : IsMap w o rows) (hD : (D == sysModules) = false) :
    wpAny (model PySem.Challenge.rw_fe0039_01.row.prog w) A (testOf [.Compare (.Name x px) [.In] [.Name y py] pos] (compEnvC scope cl C env)) (fun ok s₄ => ok = (getI rows k).isSome ∧ Keeps s s₄) E' s := by
  refine wpAny_tests_one (wpAny_isTrue_Compare1 ?_ (by rfl))
  refine leaf_name hk hl hd hn hm ?_
  refine leaf_cell hk hly hc hdy hv ?_
  refine map_in M ho hD ?_
  exact wpAny_truthy_bool ⟨rfl, keeps_tok⟩
end
end

-- MLines
section
set_option maxRecDepth 100000
set_option maxHeartbeats 8000000
open PySem.Calls
/-- where enumerate(..) stands behind its call, as the comprehension wants it -/
def EnumAt (w : World) (_h₀ : Heap) (_L : Addr) (_m : Str → Option Value) (_news : List (Addr × Obj)) (Q : Value → Shared → Prop) (xv : Value) (s₁ : Shared) : Prop :=
  ∃ e it bs t, xv = .ref e ∧ IsEnum s₁.heap e it 0 .none ∧ KBw.IsBytesIter s₁.heap it bs t 0 ∧ e ≠ it ∧ bs.size ≤ 64 ∧
    (∀ D h' tk kvs, s₁.heap.objs.size ≤ D → h'.DictOf (intKind PySem.Challenge.rw_fe0039_01.row.prog w) D kvs → Says kvs (rowsOf (KBw.bInts bs)) → (∀ b o, b ≠ e → b ≠ it → s₁.heap.get? b = some o → h'.get? b = some o) → Q (.ref D) { s₁ with heap := h', toks := tk })
section
variable {w : World} {A : Around} {E : Value → Shared → Prop} {s : Shared} {h₀ : Heap} {L : Addr} {m : Str → Option Value} {news : List (Addr × Obj)}
theorem DictComp_enumK {iter : PySem.Expr} {a b : Str} {pa pb pa' pb' tp pos : Pos} {kk : Nat} {scope : Scope} {cl : List (Str × Addr)} {env : Env} {Q : Value → Shared → Prop}
    (_F : Fr h₀ L s.heap m) (_N : News h₀ L s.heap news)
    (hh : A.handled = none) (hclos : closureFor scope env = pure cl) (hcell : ∀ y ∈ scope.names, y.2 ≠ .cell) (hkind : scope.kind = .function)
    (hnames : ∀ y ∈ scope.names, y.2 = .local → scope.names.lookup y.1 = some .local) (ha : scope.names.lookup a = some .local) (hb : scope.names.lookup b = some .local) (hab : a ≠ b)
    (hda : (a == ("__debug__" : Str)) = false) (hdb : (b == ("__debug__" : Str)) = false)
    (hs : ∀ x, foldedSetIterable iter env x = pure x)
    (h : wpAny (model PySem.Challenge.rw_fe0039_01.row.prog w) A (eval iter env) (fun xv s₁ => EnumAt w h₀ L m news Q xv s₁) E s) :
    wpAny (model PySem.Challenge.rw_fe0039_01.row.prog w) A (eval (.DictComp (.Name b pb') (.Name a pa') [⟨.Tuple [.Name a pa, .Name b pb] kk tp, iter, [], 0⟩] scope pos) env) Q E s :=
  DictComp_enum hh hclos hcell hkind hnames ha hb hab hda hdb h hs
theorem enum_call {b : Array UInt8} {t : Tok} {ks : List Int} {Q : Value → Shared → Prop} (F : Fr h₀ L s.heap m) (N : News h₀ L s.heap news) (hbig : h₀.NoLimit) (hb : KBw.bInts b = ks) (hz : ks.length ≤ 64)
    (k : ∀ D o h' tk, Fr h₀ L h' m → News h₀ L h' ((D, o) :: news) → (∀ p ∈ news, p.1 < D) → (D == sysModules) = false → IsMap w o (rowsOf ks) → Q (.ref D) { s with heap := h', toks := tk }) :
    wpAny (model PySem.Challenge.rw_fe0039_01.row.prog w) A (call (.type "enumerate") [.bytes b t]) (fun xv s₁ => EnumAt w h₀ L m news Q xv s₁) E s := by
  have hbs : b.size ≤ 64 := by rw [← KBw.ints_length, hb]; exact hz
  refine call_enumerate_bytes fun h' he hit hsz hk => ⟨_, _, b, t, rfl, he, hit, Nat.succ_ne_self _, hbs, fun D h'' tk kvs hD hd hS hk2 => ?_⟩
  have keep : ∀ c o, s.heap.get? c = some o → h''.get? c = some o := fun c o q => by
    have hlt := Heap.lt_size q
    exact hk2 c o (Nat.ne_of_lt (Nat.lt_succ_of_lt hlt)) (Nat.ne_of_lt hlt) (hk c o q)
  obtain ⟨o, ho, hdo⟩ := Heap.dictOf_iff.mp hd
  have hlt : s.heap.objs.size < D := by rw [hsz] at hD; omega
  have hD0 : h₀.get? D = none := by
    cases q : h₀.get? D with
    | none => rfl
    | some o => exact absurd (Heap.lt_size (F.keep _ _ q)) (Nat.not_lt.mpr (Nat.le_of_lt hlt))
  have hL : L < s.heap.objs.size := F.ns.lt
  have hml := Nat.lt_of_lt_of_le (modules_low hbig) F.above
  refine k D o h'' tk (F.keptAll keep) (fun p hp => ?_) (fun p hp => Nat.lt_trans (Heap.lt_size (N p hp).1) hlt) (beq_eq_false_iff_ne.mpr ?_) ⟨⟨kvs, hdo, ?_⟩, ?_⟩
  · rcases List.mem_cons.mp hp with rfl | hp
    · exact ⟨ho, Nat.ne_of_gt (Nat.lt_trans hL hlt), hD0⟩
    · exact N.grown keep p hp
  · exact Nat.ne_of_gt (Nat.lt_trans (Nat.lt_trans hml hL) hlt)
  · rw [← hb]; exact hS
  · exact Nat.le_trans (rowsOf_len ks) (by omega)
end
/-- the signs of a text: printable, no blank -/
def SignsB (b : Array UInt8) : Prop := ∀ x ∈ b.toList, 33 ≤ x.toNat ∧ x.toNat < 127
def SignsS (x : Str) : Prop := ∀ c ∈ x.cps.toList, 33 ≤ c ∧ c < 127
theorem SignsB.space {b : Array UInt8} (h : SignsB b) : ∀ x ∈ b.toList, Builtin.Bytes.isSpace x = false := fun x hx => by
  have h1 := h x hx
  unfold Builtin.Bytes.isSpace
  have e1 : (x == 32) = false := by
    rw [beq_eq_false_iff_ne]; rintro rfl; exact absurd h1.1 (by decide)
  have e2 : decide (x ≤ 13) = false := by
    rw [decide_eq_false_iff_not, UInt8.le_iff_toNat_le]
    have : (13 : UInt8).toNat = 13 := rfl
    omega
  rw [e1, e2]; simp
theorem SignsB.no32 {b : Array UInt8} (h : SignsB b) : ∀ x ∈ b.toList, x ≠ 32 := fun x hx => by
  rintro rfl; exact absurd (h _ hx).1 (by decide)
theorem keep_of {g : Heap} {s : Shared} {L' : Addr} {h' : Heap} {m' : Str → Option Value} (hg : g = s.heap) (F : Fr g L' h' m') : ∀ b o, s.heap.get? b = some o → h'.get? b = some o := fun b o e => F.keep b o (hg ▸ e)
section
variable {w : World} {A : Around} {E : Value → Shared → Prop} {s : Shared} {h₀ : Heap} {L : Addr} {m : Str → Option Value} {news : List (Addr × Obj)} {b : Array UInt8} {t u : Tok} {prog : Program}
theorem notin_spaceK {Q : Value → Shared → Prop} (F : Fr h₀ L s.heap m) (N : News h₀ L s.heap news) (hh : A.handled = none) (hn : SignsB b)
    (h : ∀ h' tk, Fr h₀ L h' m → News h₀ L h' news → Q (.bool true) { s with heap := h', toks := tk }) :
    wpAny (model prog w) A (compareOp .NotIn (.bytes #[32] u) (.bytes b t)) Q E s :=
  notin_space hh hn.no32 fun h' tk k => h h' tk (F.keptAll k) (N.grown k)
end
end
local macro_rules | `(tactic| walk_at "own at") => `(tactic| first | assumption | exact News.get (by k_asm) (by k_mem) | exact Fr.keep (by k_asm) _ _ (by assumption))
local macro_rules | `(tactic| walk_at "eval DictComp") => `(tactic| (k_here; (with_reducible show wpAny _ _ (eval (Expr.DictComp (Expr.Name _ _) (Expr.Name _ _) [⟨Expr.Tuple [Expr.Name _ _, Expr.Name _ _] _ _, _, [], 0⟩] _ _) _) _ _ _); k_dflt (refine' DictComp_enumK ?F ?N ?hh ?hclos ?hcell ?hkind ?hnames ?ha ?hb ?hab ?hda ?hdb ?hs ?_; (case F => k_asm); (case N => k_asm); (case hh => rfl); (case hclos => rfl); (case hcell => decide); (case hkind => rfl); (case hnames => decide); (case ha => rfl); (case hb => rfl); (case hab => decide); (case hda => decide); (case hdb => decide); (case hs => intro _; rfl); k_whole)))
local macro_rules | `(tactic| walk_at "call type:enumerate") => `(tactic| (k_here; (with_reducible show wpAny _ _ (call (Value.type "enumerate") [Value.bytes _ _]) (fun xv s₁ => EnumAt _ _ _ _ _ _ xv s₁) _ _); k_dflt (refine' enum_call ?F ?N ?T ?b ?z ?_; (case F => k_asm); (case N => k_asm); (case T => exact Top.nolimit (by k_asm)); (case b => kba_ints); (case z => first | assumption | decide); k_whole); intro D' o' h' tk' F' N' l1 lo' hM'; (try k_lt l1); (try k_sweep)))
local macro_rules | `(tactic| walk_at "getMethod bytes") => `(tactic| (k_here; first | (with_reducible refine meth_rstrip ?_) | (with_reducible refine meth_lstrip ?_)))
local macro_rules | `(tactic| walk_at "call builtin:bytes.rstrip") => `(tactic| (k_here; (refine call_rstrip (SignsB.space (by assumption)) ?_)))
local macro_rules | `(tactic| walk_at "compareOp NotIn bytes bytes") => `(tactic| (k_here; k_dflt (refine' notin_spaceK ?F ?N ?hh ?hn ?_; (case F => k_asm); (case N => k_asm); (case hh => rfl); (case hn => assumption); k_whole); intro h' tk' F' N'; (try k_sweep)))
local macro_rules | `(tactic| walk_at "compareOp In int ref") => `(tactic| (k_here; (with_reducible show wpAny _ _ (compareOp CmpOp.In (Value.int _ _) (Value.ref _)) _ _ _); k_dflt (refine' map_in ?x ?ho ?hd ?_; (case x => assumption); (case ho => walk_at "own at"); (case hd => assumption); k_whole)))

-- C5
section
set_option maxRecDepth 100000
set_option maxHeartbeats 8000000
theorem news_one {h₀ h : Heap} {L : Addr} {news : List (Addr × Obj)} {p : Addr × Obj} (N : News h₀ L h news) (hp : p ∈ news) : News h₀ L h [p] := fun q hq => by rw [List.mem_singleton.mp hq]; exact N p hp
theorem new_at {g h : Heap} {s : Shared} {L : Addr} {news : List (Addr × Obj)} {p : Addr × Obj} (hg : g = s.heap) (N : News g L h news) (hp : p ∈ news) : ∀ q ∈ [p], s.heap.get? q.1 = none := fun q hq => by rw [List.mem_singleton.mp hq, ← hg]; exact (N p hp).2.2
theorem map_off (w : World) (mean) (mg mb) (b : Array UInt8) (tb : Tok) (ks : List Int) (hb : KBw.bInts b = ks) (hz : ks.length ≤ 64) :
    Con w mean mg mb 26 [.bytes b tb] [(Str.ofString "autofix", .bool false)] (fun _ => True) (fun v tl => ∃ D o, v = .ref D ∧ tl = [(D, o)] ∧ (D == sysModules) = false ∧ IsMap w o (rowsOf ks)) False := by
  unfold Con
  k_fill
  intro dp un gd cn cs a ccd cl outer A₀ base h₀ L m s Q E B F X T GL XB TB hk hdp hun hpre hret hraise
  walk_at "own enter"
  rename_i hg' hL' FG' B' X' T' _ _
  k_steps
  (with_reducible rename IsMap _ _ _ => hM)
  (with_reducible rename (_ == sysModules) = false => hlo)
  refine hret _ _ _ _ (by k_asm) (keep_of (by assumption) (by assumption)) (news_one (by k_asm) (List.Mem.head _)) (new_at (by assumption) (by k_asm) (List.Mem.head _)) ⟨_, _, rfl, rfl, hlo, hM⟩
end

-- C9
section
set_option maxRecDepth 100000
set_option maxHeartbeats 8000000
def pOf {w : World} {o : Obj} {rows : List (Int × Int)} (_ : IsMap w o rows) : Int → Bool := fun k => (getI rows k).isSome
/-- one group of alike signs: where just one is in the map, the others get its place -/
def fixRows (rows : List (Int × Int)) (g : List Int) : List (Int × Int) :=
  match g.filter (fun k => (getI rows k).isSome) with
  | [p] => g.foldl (fun D a => putI D a ((getI rows p).getD 0)) rows
  | _ => rows
theorem fixRows_one {rows : List (Int × Int)} {g : List Int} {p i : Int} (h : g.filter (fun k => (getI rows k).isSome) = [p]) (hi : getI rows p = some i) : fixRows rows g = g.foldl (fun D a => putI D a i) rows := by
  unfold fixRows; rw [h]; simp only [hi, Option.getD_some]
theorem fixRows_no {rows : List (Int × Int)} {g : List Int} (h : (g.filter (fun k => (getI rows k).isSome)).length ≠ 1) : fixRows rows g = rows := by
  unfold fixRows
  split
  · rename_i p e; rw [e] at h; exact absurd rfl h
  · rfl
theorem still_i {D : List (Int × Int)} {p i : Int} (a : Int) (h : getI D p = some i) : getI (putI D a i) p = some i := by
  rw [getI_put]; split
  · rfl
  · exact h
theorem pivots_split {rows : List (Int × Int)} {g : List Int} {ys : List Value} {q : Int → Bool} (hq : ∀ k, q k = (getI rows k).isSome) (h : Paired (fun k y => ∃ t, y = Value.int k t) (g.filter q) ys) :
    (∃ p t i, ys = [.int p t] ∧ getI rows p = some i ∧ fixRows rows g = g.foldl (fun D a => putI D a i) rows) ∨ (ys.length ≠ 1 ∧ ys.length ≤ g.length ∧ fixRows rows g = rows) := by
  have e : g.filter q = g.filter (fun k => (getI rows k).isSome) := by congr 1; funext k; exact hq k
  rw [e] at h
  have hl : (g.filter (fun k => (getI rows k).isSome)).length ≤ g.length := List.length_filter_le _ _
  generalize hf : g.filter (fun k => (getI rows k).isSome) = f at h hl
  have pl : ∀ {f : List Int} {ys : List Value}, Paired (fun k y => ∃ t, y = Value.int k t) f ys → ys.length = f.length := by
    intro f
    induction f with
    | nil => intro ys h; cases h; rfl
    | cons _ _ ih => intro ys h; cases h with | cons _ h2 => simp [ih h2]
  cases h with
  | nil => exact .inr ⟨by decide, Nat.zero_le _, fixRows_no (by rw [hf]; decide)⟩
  | cons h1 h2 =>
    rename_i k y f' ys'
    obtain ⟨t, rfl⟩ := h1
    cases h2 with
    | nil =>
      have hm : k ∈ g.filter (fun k => (getI rows k).isSome) := by rw [hf]; exact .head _
      obtain ⟨i, hi⟩ := Option.isSome_iff_exists.mp (List.mem_filter.mp hm).2
      exact .inl ⟨k, t, i, rfl, hi, fixRows_one hf hi⟩
    | cons h3 h4 =>
      rename_i k2 y2 f2 ys2
      refine .inr ⟨by simp, ?_, fixRows_no (by rw [hf]; simp)⟩
      have := pl h4
      simp only [List.length_cons] at hl ⊢
      omega
local macro_rules | `(tactic| walk_at "exec Assign cons ListComp") => `(tactic| (k_here; (with_reducible rename IsMap _ _ _ => hMp); k_dflt (refine' Assign_ListComp_src (p := pOf hMp) (R := fun k y => ∃ t, y = Value.int k t) ?F ?N ?hL ?hsw ?hclos ?hcell ?hkind ?hnames ?hx ?hy ?hp ?hs ?_; (case F => k_asm); (case N => k_asm); (case hL => rfl); (case hsw => rfl); (case hclos => rfl); (case hcell => decide); (case hkind => rfl); (case hnames => decide); (case hx => rfl); (case hy => rfl); (case hp => rfl); (case hs => intro _; rfl))))
theorem lenput {D : List (Int × Int)} {k i : Int} (j n : Nat) (h : D.length + (j + 1) < n) : (putI D k i).length + j < n := by
  have := length_put D k i
  omega
theorem len_zero {D : List (Int × Int)} {n : Nat} (h : D.length + 0 < n) : D.length < n := h
theorem rows_lt {ks : List Int} {j : Nat} (hz : ks.length ≤ 64) (hj : j ≤ 30) : (rowsOf ks).length + j < 100 := by
  have := rowsOf_len ks
  omega
local macro_rules | `(tactic| walk_at "CompAt") => `(tactic| (k_here; (with_reducible rename IsMap _ _ _ => hMp); k_dflt (first | refine' ⟨[48, 79, 111], src_bytes rfl (by decide), ?z, ?t, ?e, ?F, ?N, ?_⟩ | refine' ⟨[73, 108, 49], src_bytes rfl (by decide), ?z, ?t, ?e, ?F, ?N, ?_⟩); (case z => decide); (case F => k_asm); (case N => k_asm); (case e => (intro C k t s₃ m₃ E' hk hpk hn hm keep; exact leaf_name rfl rfl (by decide) hn hm ⟨⟨_, rfl⟩, keeps_refl⟩)); (case t => (intro C k t s₃ m₃ E' hk hn hm keep; exact leaf_in rfl rfl (by decide) rfl rfl (by decide) hn hm ⟨_, keep _ _ (News.get (by k_asm) (by k_mem)), by assumption⟩ (keep _ _ (News.get (by k_asm) (by k_mem))) hMp (by assumption))); intro D' ys' n' h' tk' F' N' o1' hp'; (simp only [LCg.Off1, and_true] at o1'); (rcases pivots_split (fun _ => rfl) hp' with ⟨p', t', i', hys', hpi', hfix⟩ | ⟨hne', hle', hfix⟩) <;> (clear hp'; try subst hys')))
local macro_rules | `(tactic| walk_at "subscriptTail") => `(tactic| (k_here; (with_reducible show wpAny _ _ (subscriptTail _ _ (Value.ref _) (Value.int _ _)) _ _ _); (with_reducible rename IsMap _ _ _ => hMp); k_dflt (refine' map_item hMp ?ho ?hk ?_; (case ho => walk_at "own at"); (case hk => (repeat (first | assumption | refine still_i _ ?_)))); intro t'))
local macro_rules | `(tactic| walk_at "setItem ref int") => `(tactic| (k_here; (with_reducible rename IsMap _ _ _ => hMp); k_dflt (refine' map_set hMp ?hz ?F ?N ?U ?_; (case hz => (refine len_zero ?_; (repeat (refine lenput _ _ ?_)); exact rows_lt (by assumption) (by decide))); (case F => k_asm); (case N => k_asm); (case U => k_updF)); intro h' o' F' N' hM'; (try dsimp only at N'); (try k_sweep)))
theorem len_some {prog : Program} {w : World} {A : Around} {E : Value → Shared → Prop} {s : Shared} {l : Addr} {ys : List Value} {Q : Value → Shared → Prop} (hl : s.heap.IsList l ys.toArray) (hz : ys.length ≤ 100) (h : Q (.int (ys.length : Int) (s.toks + 1)) { s with toks := s.toks + 1 + 1 }) :
    wpAny (model prog w) A (call (.builtin "len") [.ref l]) Q E s := by
  have e : ((ys.toArray.size : Nat) : Int) = (ys.length : Int) := by simp
  exact len_list hl (by rw [e]; omega) (by rw [e]; exact h)
local macro_rules | `(tactic| walk_at "call builtin:len") => `(tactic| (k_here; (with_reducible show wpAny _ _ (call (Value.builtin "len") [Value.ref _]) _ _ _); k_dflt (refine' len_some ?hl ?hz ?_; (case hl => exact News.isList (by k_asm) (by k_mem)); (case hz => exact Nat.le_trans (by assumption) (by decide)); k_whole)))
local macro_rules | `(tactic| walk_at "exec For Name Name cons nil") => `(tactic| (k_here; (with_reducible rename (List.length _ ≠ 1) => hbad); exfalso; omega))
theorem map_on (w : World) (mean) (mg mb) (b : Array UInt8) (tb : Tok) (ks : List Int) (hb : KBw.bInts b = ks) (hz : ks.length ≤ 64) :
    Con w mean mg mb 26 [.bytes b tb] [(Str.ofString "autofix", .bool true)] (fun _ => True) (fun v tl => ∃ D o, v = .ref D ∧ tl = [(D, o)] ∧ (D == sysModules) = false ∧ IsMap w o (fixRows (fixRows (rowsOf ks) [48, 79, 111]) [73, 108, 49])) False := by
  unfold Con
  k_fill
  intro dp un gd cn cs a ccd cl outer A₀ base h₀ L m s Q E B F X T GL XB TB hk hdp hun hpre hret hraise
  walk_at "own enter"
  rename_i hg' hL' FG' B' X' T' _ _
  k_steps
  all_goals try (exfalso; omega)
  all_goals (
    (with_reducible rename IsMap _ _ _ => hM)
    (with_reducible rename (_ == sysModules) = false => hlo)
    (with_reducible rename (fixRows _ [73, 108, 49] = _) => hf2)
    (with_reducible rename (fixRows _ [48, 79, 111] = _) => hf1)
    have e := (congrArg (fun r => fixRows r [73, 108, 49]) hf1).trans hf2

    refine hret _ _ _ _ (by k_asm) (keep_of (by assumption) (by assumption)) (news_one (by k_asm) (by k_mem)) (new_at (by assumption) (by k_asm) (by k_mem)) ⟨_, _, rfl, rfl, hlo, ?_⟩
    rw [e]
    exact hM)
end

-- MStr
section
set_option maxRecDepth 100000
set_option maxHeartbeats 8000000
open PySem.Calls
theorem sign_space : ∀ c : Nat, 33 ≤ c → c < 127 → Unicode.isSpace c = false := by
  intro c h1 h2
  have : ∀ d : Fin 127, 33 ≤ d.1 → Unicode.isSpace d.1 = false := by decide +kernel
  exact this ⟨c, h2⟩ h1
theorem rstrip_signs {x : Str} (h : SignsS x) : Txt.rstrip x = x := by
  have e : (x.cps.toList.reverse.takeWhile Unicode.isSpace) = [] := by
    have hh : ∀ c ∈ x.cps.toList.reverse, Unicode.isSpace c = false := fun c hc => by
      have := h c (List.mem_reverse.mp hc)
      exact sign_space c this.1 this.2
    generalize x.cps.toList.reverse = l at hh
    cases l with
    | nil => rfl
    | cons a r => rw [List.takeWhile_cons, hh a (.head _)]; rfl
  show (if stripSame Unicode.isSpace false true x then x else W.stripped Unicode.isSpace false true x) = x
  have : stripSame Unicode.isSpace false true x = true := by
    simp only [stripSame, stripLo, stripHi, Bool.false_eq_true, if_false, if_true, List.drop_zero, e, List.length_nil, Nat.sub_zero, beq_self_eq_true, Bool.and_self]
  rw [if_pos this]
/-- the codes of a str -/
def codes (x : Str) : List Int := x.cps.toList.map fun c => Int.ofNat c
/-- the ascii bytes of a str -/
def asciiOf (x : Str) : Array UInt8 := x.cps.map (·.toUInt8)
theorem asciiOf_ints {x : Str} (h : SignsS x) : KBw.bInts (asciiOf x) = codes x := by
  obtain ⟨⟨l⟩⟩ := x
  have h' : ∀ c ∈ l, c < 127 := fun c hc => (h c (by simpa using hc)).2
  simp only [KBw.bInts, asciiOf, codes, List.map_toArray, List.map_map]
  refine List.map_congr_left fun c hc => ?_
  have := h' c hc
  have : c.toUInt8.toNat = c := by
    show c % 256 = c
    omega
  rw [Function.comp_apply, this]; rfl
theorem asciiOf_signs {x : Str} (h : SignsS x) : SignsB (asciiOf x) := by
  obtain ⟨⟨l⟩⟩ := x
  intro b hb
  simp only [asciiOf, List.map_toArray, List.mem_map] at hb
  obtain ⟨c, hc, rfl⟩ := hb
  have := h c (by simpa using hc)
  have e : c.toUInt8.toNat = c := by
    show c % 256 = c
    omega
  rw [e]; exact this
theorem codes_length (x : Str) : (codes x).length = x.cps.size := by simp [codes]
section
variable {prog : Program} {w : World} {A : Around} {E : Value → Shared → Prop} {s : Shared} {x : Str} {t u : Tok}
theorem call_rstripS {Q : Value → Shared → Prop} (hn : SignsS x) (hz : (codes x).length ≤ 64) (h : ∀ t' k, Q (.str x t') { s with toks := k }) :
    wpAny (model prog w) A (call (.builtin "str.rstrip") [.str x t]) Q E s :=
  SC.rstrip (fun t' k => by rw [rstrip_signs hn]; exact h t' k) (by rw [codes_length] at hz; show x.cps.size ≤ _; rw [sizeLine_eq]; omega)
theorem call_encodeS {Q : Value → Shared → Prop} (hn : SignsS x) (hz : (codes x).length ≤ 64) (h : ∀ t' k, Q (.bytes (asciiOf x) t') { s with toks := k }) :
    wpAny (model prog w) A (call (.builtin "str.encode") [.str x t, .str (Str.ofString "ascii") u]) Q E s :=
  call_encode (fun c hc => Nat.lt_trans (hn c hc).2 (by decide)) (by rw [codes_length] at hz; rw [sizeLine_eq]; omega) h
end
theorem meth_encode {M : Model} {A : Around} {E : Value → Shared → Prop} {s : Shared} {x : Str} {t : Tok} {pl : Sem Bool} {Q : Value × List Value → Shared → Prop} (h : Q (.builtin "str.encode", [.str x t]) s) : wpAny M A (getMethod (.str x t) "encode" pl) Q E s := by
  with_reducible exact GM.of (.str x t) (typeIs_str _ _ _) F.slot_str_encode F.type_str_encode GM.noRef h
end
local macro_rules | `(tactic| walk_at "getMethod str") => `(tactic| (k_here; (with_reducible refine meth_encode ?_)))
local macro_rules | `(tactic| walk_at "call builtin:str.rstrip") => `(tactic| (k_here; (refine call_rstripS (by assumption) (by assumption) ?_); k_whole; intro t' k'))
local macro_rules | `(tactic| walk_at "call builtin:str.encode") => `(tactic| (k_here; (refine call_encodeS (by assumption) (by assumption) ?_); k_whole; intro t' k'))
section
set_option maxRecDepth 100000
set_option maxHeartbeats 8000000
open PySem.Calls
theorem scrub_bytes (w : World) (mean) (mg mb) (b : Array UInt8) (t : Tok) :
    Con w mean mg mb 21 [.bytes b t] [] (fun _ => True) (fun v tl => ∃ t', v = .bytes b t' ∧ tl = []) False := by
  unfold Con
  k_fill
  intro dp un gd cn cs a ccd cl outer A₀ base h₀ L m s Q E B F X T GL XB TB hk hdp hun hpre hret hraise
  walk_at "own enter"
  rename_i hg' hL' FG' F' N' B' X' T'
  k_steps
  refine hret _ [] _ _ (by k_asm) (keep_of (by assumption) (by assumption)) News.nil (by simp) ⟨_, rfl, rfl⟩
theorem scrub_str (w : World) (mean) (mg mb) (x : Str) (t : Tok) (hn : SignsS x) (hz : (codes x).length ≤ 64) :
    Con w mean mg mb 21 [.str x t] [] (fun _ => True) (fun v tl => ∃ t', v = .bytes (asciiOf x) t' ∧ tl = []) False := by
  unfold Con
  k_fill
  intro dp un gd cn cs a ccd cl outer A₀ base h₀ L m s Q E B F X T GL XB TB hk hdp hun hpre hret hraise
  walk_at "own enter"
  rename_i hg' hL' FG' F' N' B' X' T'
  k_steps
  refine hret _ [] _ _ (by k_asm) (keep_of (by assumption) (by assumption)) News.nil (by simp) ⟨_, rfl, rfl⟩
end

-- MLoop
section
set_option maxRecDepth 100000
set_option maxHeartbeats 8000000
open PySem.Calls
/-- every sign has a place -/
def allIn (M : List (Int × Int)) (ls : List Int) : Bool := ls.all fun k => (getI M k).isSome
/-- the number that the signs say -/
def valL (M : List (Int × Int)) (base : Int) (ls : List Int) : Int := ls.foldl (fun a k => a * base + (getI M k).getD 0) 0
def stepO (M : List (Int × Int)) (base : Int) (a : Option Int) (k : Int) : Option Int := a.bind fun acc => (getI M k).map fun i => acc * base + i
theorem stepO_fold {M : List (Int × Int)} {base : Int} : ∀ (ls : List Int) (a r : Int), ls.foldl (stepO M base) (some a) = some r → allIn M ls = true ∧ r = ls.foldl (fun a k => a * base + (getI M k).getD 0) a
  | [], a, r, h => ⟨rfl, (Option.some.inj h).symm⟩
  | k :: ls, a, r, h => by
    rw [List.foldl_cons] at h
    cases e : getI M k with
    | none =>
      have : stepO M base (some a) k = none := by simp [stepO, e]
      rw [this] at h
      have hn : ∀ l : List Int, l.foldl (stepO M base) none = none := by
        intro l
        induction l with
        | nil => rfl
        | cons b l ih => rw [List.foldl_cons]; exact ih
      rw [hn] at h; cases h
    | some i =>
      have : stepO M base (some a) k = some (a * base + i) := by simp [stepO, e]
      rw [this] at h
      obtain ⟨h1, h2⟩ := stepO_fold ls _ _ h
      refine ⟨?_, ?_⟩
      · show (List.all (k :: ls) fun k => (getI M k).isSome) = true
        rw [List.all_cons, e]; exact h1
      · rw [List.foldl_cons, e]; exact h2
section
variable {prog : Program} {w : World} {A : Around} {E : Value → Shared → Prop} {s : Shared} {env : Env} {h₀ : Heap} {x : PySem.Str} {body : List Stmt} {Q : Flow → Shared → Prop} {b : Array UInt8} {tb : Tok} {ks : List Int}
  {m₀ : PySem.Str → Option Value} {news : List (Addr × Obj)}
theorem loop_dec (M : List (Int × Int)) (base : Int) {y : PySem.Str} {tc : Tok}
    (hk : KBw.bInts b = ks) (hh : A.handled = none) (F : Fr h₀ env.locals s.heap m₀) (N : News h₀ env.locals s.heap news) (hy : m₀ y = some (.int 0 tc))
    (turn : ∀ k t a ta h tk own, k ∈ ks → 0 ≤ k → k < 256 → OwnOff own (news.map (·.1)) → Fr h₀ env.locals h (fun z => if z = x then some (.int k t) else if z = y then some (.int a ta) else m₀ z) → News h₀ env.locals h (news ++ own) →
      wpAny (model prog w) A (execs body env) (InvPostN h₀ env.locals (fun m' nx => nx = news ∧ (∃ i t', getI M k = some i ∧ m' y = some (.int (a * base + i) t')) ∧ ∀ z, z ≠ x → z ≠ y → m' z = m₀ z) own (news.map (·.1)) { s with heap := h, toks := tk } Q) E { s with heap := h, toks := tk })
    (done : ∀ (u : PySem.Str → Option Value) t h tk, allIn M ks = true → Fr h₀ env.locals h (fun z => if z = x then u z else if z = y then some (.int (valL M base ks) t) else m₀ z) → News h₀ env.locals h news → Q .next { s with heap := h, toks := tk }) :
    wpAny (model prog w) A (pyIter (.bytes b tb)) (fun it s₂ => LoopAtV prog w A h₀ env x body Q E it s₂) E s := by
  refine KBw.iter_bytesS (σ := Option Int) (fun a m nx => ∃ n, a = some n ∧ nx = news ∧ (∃ t, m y = some (.int n t)) ∧ ∀ z, z ≠ x → z ≠ y → m z = m₀ z) (stepO M base) (some 0) hk hh F N ⟨0, rfl, rfl, ⟨tc, hy⟩, fun _ _ _ => rfl⟩ ?_ ?_
  · rintro k t a m₁ nx h tk own hm0 h0 h1 hoff ⟨n, rfl, rfl, ⟨ta, ha⟩, hm⟩ F₁ N₁
    rw [map_one ha hm] at F₁
    refine wpAny_mono (turn k t n ta h tk own hm0 h0 h1 hoff F₁ N₁) (fun f s' hp => ?_) fun _ _ e => e
    cases f with
    | ret v => exact hp
    | brk => exact hp
    | next =>
      obtain ⟨h', tk', m', news', nx', p1, p2, p3, p4, p5, p6, p7, ⟨i, t', hi, hm'⟩, p8⟩ := hp
      exact ⟨h', tk', m', news', nx', p1, p2, p3, p4, p5, p6, _, by simp [stepO, hi], p7, ⟨t', hm'⟩, p8⟩
    | cont =>
      obtain ⟨h', tk', m', news', nx', p1, p2, p3, p4, p5, p6, p7, ⟨i, t', hi, hm'⟩, p8⟩ := hp
      exact ⟨h', tk', m', news', nx', p1, p2, p3, p4, p5, p6, _, by simp [stepO, hi], p7, ⟨t', hm'⟩, p8⟩
  · rintro m₁ nx h tk ⟨n, hn, rfl, ⟨t, ha⟩, hm⟩ F₁ N₁
    obtain ⟨h1, h2⟩ := stepO_fold _ _ _ hn
    subst h2
    refine done m₁ t h tk h1 ?_ N₁
    have e : (fun z => if z = x then m₁ z else if z = y then some (.int (valL M base ks) t) else m₀ z) = m₁ := done_one ha hm
    rw [e]; exact F₁
end
end

-- MRaise
section
set_option maxRecDepth 100000
set_option maxHeartbeats 8000000
open PySem.Calls
/-- what stays true of the heap while an exception is under way in the frame L -/
structure GS (B g : Heap) (l : List Env) (L : Addr) (h : Heap) : Prop where
  stays : B.StaysIn h
  frames : h.FunFrames B l
  up : g.UpToSlots h
  ns : ∃ m, h.Ns L m
section
variable {B g : Heap} {l : List Env} {L : Addr} {h h' : Heap}
theorem ns_data {m : Str → Option Value} (x : h.Ns L m) : ∃ o, h.get? L = some o ∧ ∀ vs, o.data ≠ .fields vs := by
  obtain ⟨o, es, ep, ho, hd, _⟩ := x
  exact ⟨o, ho, fun vs q => by rw [hd] at q; cases q⟩
theorem frames_same (hs : ∀ b o, b ≠ L → h.get? b = some o → h'.get? b = some o) (hL : ∃ o, h'.get? L = some o ∧ ∀ vs, o.data ≠ .fields vs) : ∀ {l : List Env}, h.FunFrames B l → h'.FunFrames B l
  | [], _ => trivial
  | env :: r, ⟨hk, ⟨L', o, hf, hn, ho, hd⟩, hr⟩ => by
    refine ⟨hk, ?_, frames_same hs hL hr⟩
    by_cases e : L' = L
    · subst e
      obtain ⟨o', ho', hd'⟩ := hL
      exact ⟨L', o', hf, hn, ho', hd'⟩
    · exact ⟨L', o, hf, hn, hs L' o e ho, hd⟩
theorem GS.grow (G : GS B g l L h) (k : ∀ b o, h.get? b = some o → h'.get? b = some o) : GS B g l L h' :=
  ⟨fun b o e => k b o (G.stays b o e), G.frames.of_keeps fun b o e _ => ⟨o, k b o e, rfl⟩, G.up.trans (Heap.UpToSlots.of_keeps k), by obtain ⟨m, x⟩ := G.ns; exact ⟨m, x.keeps k⟩⟩
theorem GS.same (G : GS B g l L h) (hB : B.get? L = none) (hg : g.get? L = none) (hs : Heap.SameBut L h h') {m : Str → Option Value} (x : h'.Ns L m) : GS B g l L h' := by
  have k : ∀ b o, b ≠ L → h.get? b = some o → h'.get? b = some o := fun b o hb e => hs.extBut b o hb e
  refine ⟨fun b o e => k b o (fun q => by rw [q, hB] at e; cases e) (G.stays b o e), frames_same k (ns_data x) G.frames, fun b o e hn => ?_, ⟨m, x⟩⟩
  obtain ⟨sl, hsl⟩ := G.up b o e hn
  exact ⟨sl, k b _ (fun q => by rw [q, hg] at e; cases e) hsl⟩
theorem GS.upd (G : GS B g l L h) {T : Addr} {oT : Obj} {ts : Array Value} (hT : h.get? T = some oT) (hd : oT.data = .fields ts) (hB : B.get? T = none) (f : Obj → Obj) : GS B g l L (h.update T f) := by
  have k : ∀ b o, b ≠ T → h.get? b = some o → (h.update T f).get? b = some o := fun b o hb e => (Heap.get?_update_other _ _ (Ne.symm hb)).trans e
  have nt : ∀ b o, h.get? b = some o → (∀ vs, o.data ≠ .fields vs) → b ≠ T := fun b o e hn q => by
    rw [q, hT] at e; injection e with e; subst e; exact hn ts hd
  refine ⟨fun b o e => k b o (fun q => by rw [q, hB] at e; cases e) (G.stays b o e), G.frames.of_keeps fun b o e hn => ⟨o, k b o (nt b o e hn) e, rfl⟩, fun b o e hn => ?_, ?_⟩
  · obtain ⟨sl, hsl⟩ := G.up b o e hn
    exact ⟨sl, k b _ (nt b _ hsl hn) hsl⟩
  · obtain ⟨m, o, es, ep, ho, hd', r⟩ := G.ns
    exact ⟨m, o, es, ep, k L o (nt L o ho fun vs q => by rw [hd'] at q; cases q) ho, hd', r⟩
end
section
variable {M : Model} {A : Around} {E : Value → Shared → Prop} {s : Shared} {B g : Heap} {env : Env} {outer : List Env} {L e : Addr}
/-- the first note of a new exception -/
theorem GS.note {oe : Obj} {vs : Array Value} {Q : Unit → Shared → Prop} (G : GS B g (env :: outer) L s.heap) (hfr : A.frames = some (env :: outer)) (hf : env.frame = some L)
    (he : s.heap.get? e = some oe) (hen : B.get? e = none) (hd : oe.data = .fields vs) (h1 : vs[1]? = some .none)
    (h : ∀ h' T oT ts, GS B g (env :: outer) L h' → h'.get? e = some (oe.mapFields (·.setIfInBounds 1 (.ref T))) → h'.get? T = some oT → oT.data = .fields ts → ts[3]? = some (rawInt L) → B.get? T = none → T ≠ e →
      (∀ b o vs, b ≠ e → s.heap.get? b = some o → o.data = .fields vs → h'.get? b = some o) → Q () { s with heap := h' }) : wpAny M A (noteFrame (.ref e) env) Q E s := by
  have hl := G.frames
  have hsz : 1 < vs.size := (Array.getElem?_eq_some_iff.mp h1).1
  unfold noteFrame
  simp only [hf]
  refine wpAny_bind (wpAny_field he hd h1 ?_)
  rw [if_neg (by decide)]
  have hene : e ∉ (env :: outer).filterMap (·.frame) := fun hm => by
    obtain ⟨_, o, ho, hnf⟩ := hl.mem hm
    rw [he] at ho; injection ho with ho; subst ho; exact hnf vs hd
  refine wpAny_bind (wpAny_frameOf_fun hfr hl hf fun h₁ hs₁ => ?_)
  refine wpAny_bind (wpAny_entryPlaceOf fun pl hpl => ?_)
  unfold EntryCells.newEntry newFields
  refine wpAny_bind (wpAny_newObj_type ?_ (hpl.sizeOk5 _ _ _ _ _))
  have he₁ : h₁.get? e = some oe := (hs₁.2.1 e hene).trans he
  have kb₁ : B.StaysIn h₁ := fun b o hbo => (hs₁.2.1 b fun hm => by rw [(hl.mem hm).1] at hbo; cases hbo).trans (G.stays b o hbo)
  have up₁ : s.heap.UpToSlots h₁ := fun b o hb _ => hs₁.2.2 b o hb
  have G₁ : GS B g (env :: outer) L h₁ := by
    refine ⟨kb₁, hl.of_slotsOnly hs₁, G.up.trans up₁, ?_⟩
    obtain ⟨m, x⟩ := G.ns
    exact ⟨m, up₁.ns x⟩
  have G₂ := G₁.grow (h' := h₁.push { cls := .type "traceback", dict := none, data := .fields ([Value.none, .ref L, .none, rawInt L, .none] ++ (if pl.isEmpty then List.replicate 6 Value.none else pl)).toArray }) fun b o q => Heap.get?_push_of_some _ q
  have he₂ := Heap.get?_push_of_some (h := h₁) { cls := .type "traceback", dict := none, data := .fields ([Value.none, .ref L, .none, rawInt L, .none] ++ (if pl.isEmpty then List.replicate 6 Value.none else pl)).toArray } he₁
  refine wpAny_setField he₂ hd hsz ?_
  have hTe : h₁.objs.size ≠ e := Nat.ne_of_gt (Heap.lt_size he₁)
  have hd₃ := Obj.data_mapFields hd (·.setIfInBounds 1 (Value.ref h₁.objs.size))
  have he₃ := Heap.get?_update_self (Obj.mapFields (·.setIfInBounds 1 (Value.ref h₁.objs.size))) he₂ (Obj.isFreed_of_fields hd₃)
  have hT₃ := (Heap.get?_update_other (h₁.push { cls := .type "traceback", dict := none, data := .fields ([Value.none, .ref L, .none, rawInt L, .none] ++ (if pl.isEmpty then List.replicate 6 Value.none else pl)).toArray })
    (Obj.mapFields (·.setIfInBounds 1 (Value.ref h₁.objs.size))) (Ne.symm hTe)).trans (Heap.get?_push_size h₁ rfl)
  refine h _ h₁.objs.size _ _ (G₂.upd he₂ hd hen _) he₃ hT₃ rfl (by simp) kb₁.fresh hTe fun b o vs' hb hbo hbd => ?_
  rw [Heap.get?_update_other _ _ (Ne.symm hb)]
  refine Heap.get?_push_of_some _ ?_
  refine (hs₁.2.1 b fun hm => ?_).trans hbo
  obtain ⟨_, o', ho', hnf⟩ := hl.mem hm
  rw [hbo] at ho'; injection ho' with ho'; subst ho'; exact hnf vs' hbd
theorem flight_set {oe oT : Obj} {T : Addr} {vs ts : Array Value} {fr : Option Addr} {Q : Unit → Shared → Prop} (he : s.heap.get? e = some oe) (hd : oe.data = .fields vs) (h1 : vs[1]? = some (.ref T)) (hT : s.heap.get? T = some oT) (hdT : oT.data = .fields ts) (hsz : 3 < ts.size)
    (h : Q () { s with heap := s.heap.update T (Obj.mapFields (·.setIfInBounds 3 (fr.elim .none fun f => rawInt f))) }) : wpAny M A (setFlight (.ref e) fr) Q E s := by
  unfold setFlight
  refine wpAny_bind (wpAny_field he hd h1 ?_)
  rw [if_pos (show (Value.ref T != Value.none) = true from by simp)]
  exact wpAny_setField hT hdT hsz h
theorem note_again {oe oT : Obj} {T : Addr} {vs ts : Array Value} {Q : Unit → Shared → Prop} (hf : env.frame = some L) (he : s.heap.get? e = some oe) (hd : oe.data = .fields vs) (h1 : vs[1]? = some (.ref T)) (hT : s.heap.get? T = some oT) (hdT : oT.data = .fields ts) (h3 : ts[3]? = some (rawInt L))
    (h : Q () s) : wpAny M A (noteFrame (.ref e) env) Q E s := by
  unfold noteFrame
  simp only [hf]
  refine wpAny_bind (wpAny_field he hd h1 ?_)
  rw [if_pos (show (Value.ref T != Value.none) = true from by simp)]
  refine wpAny_bind (wpAny_field hT hdT h3 ?_)
  rw [if_pos (show (rawInt L == rawInt L) = true from by simp)]
  exact wpAny_pure h
end
end

-- MRaise2
section
set_option maxRecDepth 100000
set_option maxHeartbeats 8000000
open PySem.Calls
theorem entry_unchain : entryFor table "proto.unchain" = some Builtin.«proto.unchain» := entryFor_of_tree (by kernel_rfl)
section
variable {prog : Program} {w : World} {A : Around} {E : Value → Shared → Prop} {s : Shared} {env : Env}
theorem upd_at {h : Heap} {e : Addr} {o : Obj} {vs : Array Value} (he : h.get? e = some o) (hd : o.data = .fields vs) (f : Array Value → Array Value) : (h.update e (Obj.mapFields f)).get? e = some (o.mapFields f) :=
  Heap.get?_update_self _ he (Obj.isFreed_of_fields (Obj.data_mapFields hd f))
/-- raise ValueError() from None, in a handler -/
theorem raise_none {x : Str} {np cp np' pos : Pos} {kk : Nat} {e1 : Addr} {o1 : Obj} {vs1 : Array Value} {Q : Flow → Shared → Prop} (hh : A.handled = some (.ref e1)) (he1 : s.heap.get? e1 = some o1) (hd1 : o1.data = .fields vs1) (h2 : vs1[2]? = some .none)
    (hname : ∀ Q' : Value → Shared → Prop, Q' (.type "ValueError") s → wpAny (model prog w) A (eval (.Name x np) env) Q' E s)
    (h : ∀ h' e o vs a0, (∀ b o, s.heap.get? b = some o → h'.get? b = some o) → s.heap.get? e = none → h'.get? e = some o → o.cls = .type "ValueError" → o.data = .fields vs → vs[1]? = some .none → vs[0]? = some a0 → E (.ref e) { s with heap := h' }) :
    wpAny (model prog w) A (exec (.Raise (some (.Call (.Name x np) [] [] cp)) (some (.Constant .none kk np')) pos) env) Q E s := by
  show wpAny _ A (do standAt pos; raiseStmt env (some (do let v ← eval (.Call (.Name x np) [] [] cp) env; standAt pos; pure v)) (some (do let c ← eval (.Constant .none kk np') env; standAt pos; pure c))) Q E s
  refine wpAny_bind (wpAny_standAt ?_)
  unfold raiseStmt
  dsimp only
  refine wpAny_bind (wpAny_bind ?_)
  refine Call_Name0 (hname _ ?_)
  refine callWith_type0 (env := env) (call_exc excClass_ValueError fun h₁ e hx => ?_)
  refine wpAny_bind (wpAny_standAt (wpAny_pure ?_))
  obtain ⟨ob, t, he, hcls, hd⟩ := hx.there
  have hne : e1 ≠ e := fun q => by rw [q, hx.new] at he1; cases he1
  refine wpAny_bind (wpAny_holding (wpAny_bind ?_))
  refine wpAny_Constant_none ?_
  refine wpAny_bind (wpAny_standAt (wpAny_pure ?_))
  refine wpAny_bind (wpAny_pure ?_)
  have hT : Shared.TypeIs { s with heap := h₁ } (.ref e) "ValueError" := ⟨ob, he, hcls⟩
  have hnt : ∀ {h : Heap} {ob : Obj} {vs : Array Value} {Q' : Bool → Shared → Prop}, h.get? e = some ob → ob.data = .fields vs → Q' false { s with heap := h } → wpAny (model prog w) A (isType (.ref e)) Q' E { s with heap := h } := by
    intro h ob vs Q' he hd hq
    simp only [isType, loadHead]
    refine wpAny_bind (wpAny_loadPart he ?_)
    rw [hd]; exact wpAny_pure hq
  refine wpAny_bind (wpAny_holding ?_)
  unfold excFromValue isExcClass
  refine wpAny_bind (wpAny_bind (hnt he hd ?_))
  simp only [Bool.false_eq_true, if_false]
  refine wpAny_pure ?_
  simp only [Bool.false_eq_true, if_false]
  refine wpAny_bind (wpAny_isInstance hT excClass_ValueError.base ?_)
  simp only [if_true]
  refine wpAny_pure ?_
  rw [if_pos (by rfl)]
  refine wpAny_bind (wpAny_pure ?_)
  refine wpAny_bind (wpAny_setField he hd (by simp) ?_)
  have he3 := upd_at he hd (·.setIfInBounds 3 Value.none)
  have hd3 := Obj.data_mapFields hd (·.setIfInBounds 3 Value.none)
  refine wpAny_bind (wpAny_setField he3 hd3 (by simp) ?_)
  have he4 := upd_at he3 hd3 (·.setIfInBounds 4 (Value.bool true))
  have hd4 := Obj.data_mapFields hd3 (·.setIfInBounds 4 (Value.bool true))
  have hc4 : ((ob.mapFields (·.setIfInBounds 3 Value.none)).mapFields (·.setIfInBounds 4 (Value.bool true))).cls = .type "ValueError" := by rw [Obj.cls_mapFields, Obj.cls_mapFields]; exact hcls
  generalize hH : (h₁.update e (Obj.mapFields (·.setIfInBounds 3 Value.none))).update e (Obj.mapFields (·.setIfInBounds 4 (Value.bool true))) = H at he4 ⊢
  generalize hO : (ob.mapFields (·.setIfInBounds 3 Value.none)).mapFields (·.setIfInBounds 4 (Value.bool true)) = O at he4 hd4 hc4
  have kH : ∀ b o, s.heap.get? b = some o → H.get? b = some o := fun b o hb => by
    have hbe : e ≠ b := fun q => by rw [← q, hx.new] at hb; cases hb
    rw [← hH, Heap.get?_update_other _ _ hbe, Heap.get?_update_other _ _ hbe]
    exact hx.keeps b o hb
  have hT4 : Shared.TypeIs { s with heap := H } (.ref e) "ValueError" := ⟨O, he4, hc4⟩
  refine wpAny_bind (hnt he4 hd4 ?_)
  simp only [Bool.false_eq_true, if_false]
  unfold raisedInstance
  refine wpAny_bind (wpAny_bind (wpAny_typeOf hT4 (wpAny_bind (m := typeOf (.type "ValueError")) (wpAny_pure ?_))))
  rw [if_pos excClass_ValueError.metaType]
  refine wpAny_pure ?_
  unfold setFlight raiseNew
  refine wpAny_bind (wpAny_bind (wpAny_field he4 hd4 (x := .none) (by simp) ?_))
  rw [if_neg (by decide)]
  refine wpAny_pure (wpAny_bind (wpAny_handled ?_))
  rw [hh]
  dsimp only
  rw [if_pos (by simp [bne, hne])]
  refine wpAny_bind (wpAny_holding ?_)
  refine wpAny_runValue (codeAny_builtin entry_unchain ?_)
  unfold Builtin.«proto.unchain»
  dsimp only
  refine wpAny_bind (wpAny_field (kH _ _ he1) hd1 h2 ?_)
  rw [if_pos (by rfl)]
  refine wpAny_bind (wpAny_pure ?_)
  refine wpAny_pure ?_
  refine wpAny_bind (wpAny_setField (a := e) he4 hd4 (by simp) ?_)
  refine wpAny_throw ?_
  have he5 := upd_at he4 hd4 (·.setIfInBounds 2 (Value.ref e1))
  have hd5 := Obj.data_mapFields hd4 (·.setIfInBounds 2 (Value.ref e1))
  refine h _ e _ _ t (fun b o hb => ?_) hx.new he5 (by rw [Obj.cls_mapFields]; exact hc4) hd5 (by simp) (by simp)
  have hbe : e ≠ b := fun q => by rw [← q, hx.new] at hb; cases hb
  rw [Heap.get?_update_other _ _ hbe]
  exact kH b o hb
end
end

-- MRaise3
section
set_option maxRecDepth 100000
set_option maxHeartbeats 8000000
open PySem.Calls
section
variable {prog : Program} {w : World} {A₀ : Around} {E₁ : Value → Shared → Prop} {E₂ : Value → Shared → Prop} {s' : Shared} {base g h : Heap} {outer : List Env} {L a e₁ : Addr} {m : Str → Option Value} {name : Str} {scope : Scope} {cd : Value}
  {KF : Frag} {p : Program} {loose : List Str} {mean : ExcName → Option Value} {mg mb : Str → Option Value}
theorem GS.ground {B h' : Heap} {env : Env} (K : Below A₀ base outer g) (hA : g.objs.size ≤ L) (hBg : ∀ b o, g.get? b = some o → b ∉ outer.filterMap (·.frame) → B.get? b = some o) (G : GS B g (env :: outer) L h') :
    ∃ g' m', Fr g' L h' m' ∧ Below A₀ base outer g' := by
  obtain ⟨T, S⟩ := kts_turn_at (h := h') (fs := outer.filterMap (·.frame)) (g := g)
    (fun b hb => by
      obtain ⟨_, o, ho, _⟩ := K.frames.mem hb
      exact ⟨o, ho⟩)
    (fun b o e nm => G.stays b o (hBg b o e nm))
    (fun b o e hm => by
      obtain ⟨_, o', ho', hd⟩ := K.frames.mem hm
      rw [e] at ho'
      cases ho'
      exact G.up b o e hd)
  obtain ⟨m', ns⟩ := G.ns
  refine ⟨_, m', ⟨ns, S, by rw [T.size]; exact hA⟩, ⟨K.stack, fun b o e => T.other b o (K.stays b o e) (fun hm => by
    rw [(K.frames.mem hm).1] at e
    cases e), K.frames.of_keeps fun b o e _ => ?_⟩⟩
  obtain ⟨sl, hs⟩ := T.up e
  exact ⟨_, hs, rfl⟩
theorem key_value {np cp np1 np2 rp pos : Pos} {kk : Nat} {n : Str} {rest : List ExceptHandler} {Q : Flow → Shared → Prop}
    (K : Below A₀ base outer g) (F : Fr g L h m) (hx : Heap.NewExc h s'.heap e₁ "KeyError") (XB : KF.In base) (TB : Top p loose mean mg mb base)
    (ex1 : nsIn KF mainGlobals (Str.ofString "KeyError") = some none) (ex2 : nsIn KF mainGlobals (Str.ofString "ValueError") = some none)
    (k : ∀ h' e tk, RaisedSN base g outer e (.type "ValueError") [] h' → g.UpToSlots h' → E₁ (.ref e) { s' with heap := h', toks := tk })
    (hk : scope.kind = .function := by rfl) (hlo : (envOf name scope L a cd).kindOf n = some .local := by rfl) (hx1 : (envOf name scope L a cd).kindOf (Str.ofString "KeyError") = some .globalImplicit := by rfl) (hx2 : (envOf name scope L a cd).kindOf (Str.ofString "ValueError") = some .globalImplicit := by rfl) :
    wpAny (model prog w) (A₀.deeper (envOf name scope L a cd)) (noteFrame (.ref e₁) (envOf name scope L a cd))
      (fun _ s₂ => wpAny (model prog w) (A₀.deeper (envOf name scope L a cd)) (setFlight (.ref e₁) none) (fun _ s₃ =>
        wpAny (model prog w) (A₀.deeper (envOf name scope L a cd)) (handleBy (.ref e₁) (envOf name scope L a cd) (.ExceptHandler (some (.Name (Str.ofString "KeyError") np)) (some n)
          [.Raise (some (.Call (.Name (Str.ofString "ValueError") np1) [] [] cp)) (some (.Constant .none kk np2)) rp] pos :: rest)) Q
          (fun e s' => wpAny (model prog w) (A₀.deeper (envOf name scope L a cd)) (leaving (envOf name scope L a cd) e) (fun _ s'' => E₁ e s'') E₂ s') s₃)
          (fun e s' => wpAny (model prog w) (A₀.deeper (envOf name scope L a cd)) (leaving (envOf name scope L a cd) e) (fun _ s'' => E₁ e s'') E₂ s') s₂)
      (fun e s' => wpAny (model prog w) (A₀.deeper (envOf name scope L a cd)) (leaving (envOf name scope L a cd) e) (fun _ s'' => E₁ e s'') E₂ s') s' := by
  have K' := K.push (name := name) (a := a) (cd := cd) F hk
  have hin : ∀ env ∈ (envOf name scope L a cd :: outer), ∀ b, env.frame = some b → b ∈ (envOf name scope L a cd :: outer).filterMap (·.frame) := fun env he b hb => List.mem_filterMap.mpr ⟨env, he, hb⟩
  have gL : g.get? L = none := kts_self F
  generalize hB : hideAll h ((envOf name scope L a cd :: outer).filterMap (·.frame)) = B
  have BL : B.get? L = none := by rw [← hB]; exact hideAll_none _ (hin _ (.head _) L rfl)
  have stB : base.StaysIn B := fun b o q => by
    rw [← hB]
    exact hideAll_get _ (K'.stays b o q) fun hm => by
      rw [(K'.frames.mem hm).1] at q; cases q
  have sgB : ∀ b o, g.get? b = some o → b ∉ outer.filterMap (·.frame) → B.get? b = some o := fun b o q nm => by
    rw [← hB]
    exact hideAll_get _ (F.keep b o q) fun hm => by
      rcases kts_mem hm with z | z
      · rw [z, kts_self F] at q
        cases q
      · exact nm z
  have Bh : ∀ b, h.get? b = none → B.get? b = none := fun b e => by
    cases q : B.get? b with
    | none => rfl
    | some o => rw [← hB] at q; have := of_hideAll _ q; rw [e] at this; cases this
  have G0 : GS B g (envOf name scope L a cd :: outer) L h := ⟨fun b o q => of_hideAll _ (hB ▸ q), hB ▸ funFrames_hide K'.frames hin, Heap.UpToSlots.of_keeps F.keep, _, F.ns⟩
  have G1 := G0.grow hx.keeps
  obtain ⟨ob, t, he, hcls, hd⟩ := hx.there
  refine GS.note G1 K'.stack rfl he (Bh _ hx.new) hd rfl fun h2 T oT ts G2 he2 hT2 hdT h3 hBT hTe kr => ?_
  have hszT : 3 < ts.size := (Array.getElem?_eq_some_iff.mp h3).1
  have hd2 := Obj.data_mapFields hd (·.setIfInBounds 1 (Value.ref T))
  have hc2 : (ob.mapFields (·.setIfInBounds 1 (Value.ref T))).cls = .type "KeyError" := by rw [Obj.cls_mapFields]; exact hcls
  generalize hO2 : ob.mapFields (·.setIfInBounds 1 (Value.ref T)) = o2 at he2 hd2 hc2
  refine flight_set (fr := none) he2 hd2 (by simp) hT2 hdT hszT ?_
  have G3 := G2.upd hT2 hdT hBT (Obj.mapFields (·.setIfInBounds 3 ((none : Option Addr).elim Value.none fun f => rawInt f)))
  have he3 := (Heap.get?_update_other h2 (Obj.mapFields (·.setIfInBounds 3 ((none : Option Addr).elim Value.none fun f => rawInt f))) hTe).trans he2
  have hT3 := upd_at hT2 hdT (·.setIfInBounds 3 ((none : Option Addr).elim Value.none fun f => rawInt f))
  have hdT3 := Obj.data_mapFields hdT (·.setIfInBounds 3 ((none : Option Addr).elim Value.none fun f => rawInt f))
  generalize h2.update T (Obj.mapFields (·.setIfInBounds 3 ((none : Option Addr).elim Value.none fun f => rawInt f))) = H3 at G3 he3 hT3 ⊢
  dsimp only
  obtain ⟨g3, m3, F3, K3⟩ := G3.ground K F.above sgB
  refine wpAny_handleBy_builtin_as (X := "KeyError") (T := "KeyError") (b := true) kr_isExc_KeyError kr_notTuple_KeyError (by rw [isSubtype_type]; kernel_rfl)
    (name_B F3 (XB.keeps K3.stays) (topRead_of (TB.keeps K3.stays)) ex1 PyProof.Rows.Boot.«KeyError» (by decide) ⟨rfl, ⟨_, he3, hc2⟩, ?_⟩ hk hx1 (by decide))
  rw [if_pos rfl]
  refine flight_set (fr := none) he3 hd2 (by simp) hT3 hdT3 (by simpa using hszT) ?_
  have G4 := G3.upd hT3 hdT3 hBT (Obj.mapFields (·.setIfInBounds 3 ((none : Option Addr).elim Value.none fun f => rawInt f)))
  have he4 := (Heap.get?_update_other H3 (Obj.mapFields (·.setIfInBounds 3 ((none : Option Addr).elim Value.none fun f => rawInt f))) hTe).trans he3
  generalize H3.update T (Obj.mapFields (·.setIfInBounds 3 ((none : Option Addr).elim Value.none fun f => rawInt f))) = H4 at G4 he4 ⊢
  dsimp only
  have eL : e₁ ≠ L := fun q => by
    obtain ⟨m4, ns4⟩ := G4.ns
    obtain ⟨o, ho, hn⟩ := ns_data ns4
    rw [← q, he4] at ho; injection ho with ho; exact hn _ (ho ▸ hd2)
  obtain ⟨m4, ns4⟩ := G4.ns
  refine wpAny_storeName_local hlo ns4 (fun H5 ns5 hs5 => ?_) (by simp [envOf, hk])
  have G5 := G4.same BL gL hs5 ns5
  have he5 := hs5.extBut _ _ eL he4
  obtain ⟨g5, m5, F5, K5⟩ := G5.ground K F.above sgB
  refine wpAny_execs_cons (raise_none rfl he5 hd2 (by simp) (fun Q' hq => ?_) fun H6 e₂ o6 vs6 a6 k6 new6 he6 hc6 hd6 h16 h06 => ?_)
  · exact name_B F5 (XB.keeps K5.stays) (topRead_of (TB.keeps K5.stays)) ex2 PyProof.Rows.Boot.«ValueError» (by decide) hq hk hx2 (by decide)
  have G6 := G5.grow k6
  have Be2 : B.get? e₂ = none := by
    cases q : B.get? e₂ with
    | none => rfl
    | some o => rw [G5.stays _ _ q] at new6; cases new6
  have hs6 : 1 < vs6.size := (Array.getElem?_eq_some_iff.mp h16).1
  refine GS.note G6 K'.stack rfl he6 Be2 hd6 h16 fun H7 T7 oT7 ts7 G7 he7 hT7 hdT7 h37 hBT7 hTe7 _ => ?_
  have hsz7 : 3 < ts7.size := (Array.getElem?_eq_some_iff.mp h37).1
  have hd7 := Obj.data_mapFields hd6 (·.setIfInBounds 1 (Value.ref T7))
  have hc7 : (o6.mapFields (·.setIfInBounds 1 (Value.ref T7))).cls = .type "ValueError" := by rw [Obj.cls_mapFields]; exact hc6
  have h17 : (vs6.setIfInBounds 1 (Value.ref T7))[1]? = some (.ref T7) := by simp [hs6]
  have h07 : (vs6.setIfInBounds 1 (Value.ref T7))[0]? = some a6 := by rw [Array.getElem?_setIfInBounds_ne (by decide)]; exact h06
  generalize o6.mapFields (·.setIfInBounds 1 (Value.ref T7)) = o7 at he7 hd7 hc7
  generalize vs6.setIfInBounds 1 (Value.ref T7) = vs7 at hd7 h17 h07
  obtain ⟨m7, ns7⟩ := G7.ns
  refine wpAny_nameGoes hlo ns7 (by simp [envOf, hk]) fun H8 m8 ns8 hs8 => ?_
  have G8 := G7.same BL gL hs8 ns8
  have ne8 : ∀ {b : Addr} {o : Obj} {vs : Array Value}, H7.get? b = some o → o.data = .fields vs → H8.get? b = some o := fun {b o vs} hb hd => hs8.extBut _ _ (fun q => by
    obtain ⟨o', ho', hn⟩ := ns_data ns7
    have e : (envOf name scope L a cd).locals = L := rfl
    rw [q, e, ho'] at hb; injection hb with hb; exact hn _ (hb ▸ hd)) hb
  have he8 := ne8 he7 hd7
  have hT8 := ne8 hT7 hdT7
  unfold PySem.passOn
  refine wpAny_bind (wpAny_field he8 hd7 h17 ?_)
  rw [if_neg (by simp)]
  refine wpAny_bind (flight_set (fr := some L) he8 hd7 h17 hT8 hdT7 hsz7 ?_)
  have G9 := G8.upd hT8 hdT7 hBT7 (Obj.mapFields (·.setIfInBounds 3 ((some L : Option Addr).elim Value.none fun f => rawInt f)))
  have he9 := (Heap.get?_update_other H8 (Obj.mapFields (·.setIfInBounds 3 ((some L : Option Addr).elim Value.none fun f => rawInt f))) hTe7).trans he8
  have hT9 := upd_at hT8 hdT7 (·.setIfInBounds 3 ((some L : Option Addr).elim Value.none fun f => rawInt f))
  have hdT9 := Obj.data_mapFields hdT7 (·.setIfInBounds 3 ((some L : Option Addr).elim Value.none fun f => rawInt f))
  have h39 : (ts7.setIfInBounds 3 ((some L : Option Addr).elim Value.none fun f => rawInt f))[3]? = some (rawInt L) := by simp [hsz7]
  generalize H8.update T7 (Obj.mapFields (·.setIfInBounds 3 ((some L : Option Addr).elim Value.none fun f => rawInt f))) = H9 at G9 he9 hT9 ⊢
  generalize oT7.mapFields (·.setIfInBounds 3 ((some L : Option Addr).elim Value.none fun f => rawInt f)) = oT9 at hT9 hdT9
  generalize ts7.setIfInBounds 3 ((some L : Option Addr).elim Value.none fun f => rawInt f) = ts9 at hdT9 h39
  have hsz9 : 3 < ts9.size := (Array.getElem?_eq_some_iff.mp h39).1
  refine wpAny_throw ?_
  refine note_again rfl he9 hd7 h17 hT9 hdT9 h39 ?_
  refine wpAny_bind (wpAny_field he9 hd7 h17 ?_)
  rw [if_neg (by simp)]
  refine flight_set (fr := some L) he9 hd7 h17 hT9 hdT9 hsz9 ?_
  have G10 := G9.upd hT9 hdT9 hBT7 (Obj.mapFields (·.setIfInBounds 3 ((some L : Option Addr).elim Value.none fun f => rawInt f)))
  have he10 := (Heap.get?_update_other H9 (Obj.mapFields (·.setIfInBounds 3 ((some L : Option Addr).elim Value.none fun f => rawInt f))) hTe7).trans he9
  have hT10 := upd_at hT9 hdT9 (·.setIfInBounds 3 ((some L : Option Addr).elim Value.none fun f => rawInt f))
  have hdT10 := Obj.data_mapFields hdT9 (·.setIfInBounds 3 ((some L : Option Addr).elim Value.none fun f => rawInt f))
  have h310 : (ts9.setIfInBounds 3 ((some L : Option Addr).elim Value.none fun f => rawInt f))[3]? = some (rawInt L) := by simp [hsz9]
  generalize H9.update T7 (Obj.mapFields (·.setIfInBounds 3 ((some L : Option Addr).elim Value.none fun f => rawInt f))) = H10 at G10 he10 hT10 ⊢
  generalize oT9.mapFields (·.setIfInBounds 3 ((some L : Option Addr).elim Value.none fun f => rawInt f)) = oT10 at hT10 hdT10
  generalize ts9.setIfInBounds 3 ((some L : Option Addr).elim Value.none fun f => rawInt f) = ts10 at hdT10 h310
  have hsz10 : 3 < ts10.size := (Array.getElem?_eq_some_iff.mp h310).1
  dsimp only
  unfold leaving
  refine wpAny_bind (note_again rfl he10 hd7 h17 hT10 hdT10 h310 ?_)
  refine flight_set (fr := none) he10 hd7 h17 hT10 hdT10 hsz10 ?_
  have G11 := G10.upd hT10 hdT10 hBT7 (Obj.mapFields (·.setIfInBounds 3 ((none : Option Addr).elim Value.none fun f => rawInt f)))
  have he11 := (Heap.get?_update_other H10 (Obj.mapFields (·.setIfInBounds 3 ((none : Option Addr).elim Value.none fun f => rawInt f))) hTe7).trans he10
  have hT11 := upd_at hT10 hdT10 (·.setIfInBounds 3 ((none : Option Addr).elim Value.none fun f => rawInt f))
  have hdT11 := Obj.data_mapFields hdT10 (·.setIfInBounds 3 ((none : Option Addr).elim Value.none fun f => rawInt f))
  generalize H10.update T7 (Obj.mapFields (·.setIfInBounds 3 ((none : Option Addr).elim Value.none fun f => rawInt f))) = H11 at G11 he11 hT11 ⊢
  obtain ⟨_, _, fr11⟩ := G11.frames
  exact k H11 e₂ _ ⟨B, a6, stB, sgB, (fun q hq => nomatch hq), G11.stays, Be2, fr11, o7, vs7, T7, _, _, he11, ⟨hc7, h07⟩, hd7, h17, hBT7, hTe7, hT11, hdT11, by simp [hsz10]⟩ G11.up
end
end

-- MUse
section
set_option maxRecDepth 100000
set_option maxHeartbeats 8000000
open PySem.Calls
/-- how the arguments of a def are bound -/
def Binder (w : World) (f : Addr) (args : Args) (binds : List (Str × Value)) : Prop :=
  ∀ (s : Shared) (oc : Value) (od : Option Addr) (osl : Array (Option Value)) (fd : FuncData), (hd.heap_39 w.params).lookup f = some ⟨oc, od, .func fd, osl⟩ → (hd.heap_39 w.params).In s.heap → BindsTo s fd args binds
theorem Binder.use {w : World} {f : Addr} {args : Args} {binds : List (Str × Value)} {s : Shared} {oc : Value} {od : Option Addr} {osl : Array (Option Value)} {fd : FuncData} (b : Binder w f args binds) (h1 : (hd.heap_39 w.params).lookup f = some ⟨oc, od, .func fd, osl⟩) (h2 : (hd.heap_39 w.params).In s.heap) : BindsTo s fd args binds := b _ _ _ _ _ h1 h2
/-- the map that _get_base58_decode_map makes -/
def mapOf (fx : Bool) (ks : List Int) : List (Int × Int) := if fx = true then fixRows (fixRows (rowsOf ks) [48, 79, 111]) [73, 108, 49] else rowsOf ks
theorem map_any (w : World) (mean) (mg mb) (b : Array UInt8) (tb : Tok) (ks : List Int) (fx : Bool) (hb : KBw.bInts b = ks) (hz : ks.length ≤ 64) :
    Con w mean mg mb 26 [.bytes b tb] [(Str.ofString "autofix", .bool fx)] (fun _ => True) (fun v tl => ∃ D o, v = .ref D ∧ tl = [(D, o)] ∧ (D == sysModules) = false ∧ IsMap w o (mapOf fx ks)) False := by
  cases fx with
  | true => exact map_on w mean mg mb b tb ks hb hz
  | false => exact map_off w mean mg mb b tb ks hb hz
section
variable {w : World} {mean : ExcName → Option Value} {mg mb : Str → Option Value} {f : Addr} {vs : List Value} {kw : List (Str × Value)} {Pre : Heap → Prop} {Post : Value → List (Addr × Obj) → Prop} {Ex : Prop} {n : Nat}
  {dp un : Nat} {gd : Option (List Code)} {cn : Str} {cs : Scope} {a : Addr} {ccd : Value} {cl : List (Str × Addr)} {outer : List Env} {A₀ : Around} {base h₀ : Heap} {L : Addr} {m : Str → Option Value} {news : List (Addr × Obj)} {s : Shared} {Q E : Value → Shared → Prop}
theorem con_use (B : Below A₀ base outer h₀) (F : Fr h₀ L s.heap m) (N : News h₀ L s.heap news) (X : (hd.heap_39 w.params).In h₀)
    (T : Top hd.view_39 (looseW hd.view_39 [Str.ofString "b58decode_int", Str.ofString "b58decode"]) mean mg mb h₀)
    (GL : Glob 0 mg mb (List.map itemOf (recsOf hd.view_39)) (scalarsOf [] ++ constsW hd.view_39) [] (namesW hd.view_39 [Str.ofString "b58decode_int", Str.ofString "b58decode"]) base)
    (XB : (hd.heap_39 w.params).In base) (TB : Top hd.view_39 (looseW hd.view_39 [Str.ofString "b58decode_int", Str.ofString "b58decode"]) mean mg mb base) (hk : cs.kind = .function) (C : Con w mean mg mb f vs kw Pre Post Ex n) (hdp : dp + n < recursionLimit) (hun : un + (n + 60) < cLine) (hpre : Pre s.heap)
    (ret : ∀ (v : Value) (tl : List (Addr × Obj)) (h' : Heap) (tk' : Nat), Fr h₀ L h' m → News h₀ L h' (tl ++ news) → (∀ p ∈ tl, LCg.Off1 p.1 news) → Post v tl → Q v { s with heap := h', toks := tk' })
    (raise : RaiseTo base h₀ L m s (envX cn cs L a ccd cl) outer E "ValueError" Ex) :
    wpAny (model PySem.Challenge.rw_fe0039_01.row.prog w) (ktrTop dp un gd cn cs L a ccd cl outer) (call (.ref f) vs kw) Q E s := by
  refine C _ _ _ _ _ _ _ _ _ _ _ _ _ _ _ _ _ B F X T GL XB TB hk hdp hun hpre ?_ raise
  intro v tl h' tk' F' keep N' fresh hp
  have N₂ : News h₀ L h' news := N.grown keep
  refine ret v tl h' tk' F' (fun p hp => (List.mem_append.mp hp).elim (N' p) (N₂ p)) (fun p hp => ?_) hp
  have hne : ∀ q ∈ news, q.1 ≠ p.1 := fun q hq e => by
    have := (N q hq).1
    rw [e, fresh p hp] at this; cases this
  have : ∀ l : List (Addr × Obj), (∀ q ∈ l, q.1 ≠ p.1) → LCg.Off1 p.1 l := by
    intro l
    induction l with
    | nil => intro _; trivial
    | cons q r ih => intro hl; exact ⟨hl q (.head _), ih fun p hp => hl p (.tail _ hp)⟩
  exact this news hne
theorem con_use0 (B : Below A₀ base outer h₀) (F : Fr h₀ L s.heap m) (N : News h₀ L s.heap news) (X : (hd.heap_39 w.params).In h₀)
    (T : Top hd.view_39 (looseW hd.view_39 [Str.ofString "b58decode_int", Str.ofString "b58decode"]) mean mg mb h₀)
    (GL : Glob 0 mg mb (List.map itemOf (recsOf hd.view_39)) (scalarsOf [] ++ constsW hd.view_39) [] (namesW hd.view_39 [Str.ofString "b58decode_int", Str.ofString "b58decode"]) base)
    (XB : (hd.heap_39 w.params).In base) (TB : Top hd.view_39 (looseW hd.view_39 [Str.ofString "b58decode_int", Str.ofString "b58decode"]) mean mg mb base) (hk : cs.kind = .function) (C : Con w mean mg mb f vs kw Pre Post False n) (hdp : dp + n < recursionLimit) (hun : un + (n + 60) < cLine) (hpre : Pre s.heap)
    (ret : ∀ (v : Value) (tl : List (Addr × Obj)) (h' : Heap) (tk' : Nat), Fr h₀ L h' m → News h₀ L h' (tl ++ news) → (∀ p ∈ tl, LCg.Off1 p.1 news) → Post v tl → Q v { s with heap := h', toks := tk' }) :
    wpAny (model PySem.Challenge.rw_fe0039_01.row.prog w) (ktrTop dp un gd cn cs L a ccd cl outer) (call (.ref f) vs kw) Q E s :=
  con_use B F N X T GL XB TB hk C hdp hun hpre ret fun _ _ _ _ _ _ _ _ x => x.elim
theorem map_hit {value slice : PySem.Expr} {A : Around} {Q : Value → Shared → Prop} {D : List (Int × Int)} {o : Obj} {d : Addr} {k : Int} {t : Tok} (x : IsMap w o D) (ho : s.heap.get? d = some o) (hd : (d == sysModules) = false) (hh : A.handled = none)
    (h : ∀ i t', getI D k = some i → Q (.int i t') { s with toks := s.toks + 1 })
    (hm : getI D k = none → ∀ h' e, Heap.NewExc s.heap h' e "KeyError" → E (.ref e) { s with heap := h', toks := s.toks + 1 })
    (hs : subscripted slice false (.ref d) (.int k t) = operate [.ref d, .int k t] (getItem (.ref d) (.int k t)) := by with_unfolding_all rfl) :
    wpAny (model PySem.Challenge.rw_fe0039_01.row.prog w) A (subscriptTail value slice (.ref d) (.int k t)) Q E s := by
  cases e : getI D k with
  | some i => exact map_item x ho e (fun t' => h i t' e) hs
  | none => exact map_miss x ho hd hh e (hm e) hs
end
section
variable {w : World} {A : Around} {E : Value → Shared → Prop} {s : Shared} {env : Env} {h₀ : Heap} {x : PySem.Str} {body : List Stmt} {Q : Flow → Shared → Prop} {b : Array UInt8} {tb : Tok} {ks : List Int}
  {m₀ : PySem.Str → Option Value} {news : List (Addr × Obj)}
theorem loop_decK {M : List (Int × Int)} {base : Int} {o : Obj} (y z : PySem.Str) {tc tz : Tok} (_hM : IsMap w o M) (F : Fr h₀ env.locals s.heap m₀) (_hz : m₀ z = some (.int base tz))
    (hk : KBw.bInts b = ks) (hh : A.handled = none) (N : News h₀ env.locals s.heap news) (hy : m₀ y = some (.int 0 tc))
    (turn : ∀ k t a ta h tk own, k ∈ ks → 0 ≤ k → k < 256 → OwnOff own (news.map (·.1)) → Fr h₀ env.locals h (fun z => if z = x then some (.int k t) else if z = y then some (.int a ta) else m₀ z) → News h₀ env.locals h (news ++ own) →
      wpAny (model PySem.Challenge.rw_fe0039_01.row.prog w) A (execs body env) (InvPostN h₀ env.locals (fun m' nx => nx = news ∧ (∃ i t', getI M k = some i ∧ m' y = some (.int (a * base + i) t')) ∧ ∀ z, z ≠ x → z ≠ y → m' z = m₀ z) own (news.map (·.1)) { s with heap := h, toks := tk } Q) E { s with heap := h, toks := tk })
    (done : ∀ (u : PySem.Str → Option Value) t h tk, allIn M ks = true → Fr h₀ env.locals h (fun z => if z = x then u z else if z = y then some (.int (valL M base ks) t) else m₀ z) → News h₀ env.locals h news → Q .next { s with heap := h, toks := tk }) :
    wpAny (model PySem.Challenge.rw_fe0039_01.row.prog w) A (pyIter (.bytes b tb)) (fun it s₂ => LoopAtV PySem.Challenge.rw_fe0039_01.row.prog w A h₀ env x body Q E it s₂) E s :=
  loop_dec M base hk hh F N hy turn done
end
end

-- MBind
section
set_option maxRecDepth 100000
set_option maxHeartbeats 8000000
open PySem.Calls
theorem Binder.of {w : World} {f : Addr} {args : Args} {binds : List (Str × Value)} {oc : Value} {od : Option Addr} {osl : Array (Option Value)} {fd : FuncData} (e0 : (hd.heap_39 w.params).lookup f = some ⟨oc, od, .func fd, osl⟩)
    (h : ∀ s : Shared, (hd.heap_39 w.params).In s.heap → BindsTo s fd args binds) : PySem.Challenge.rw_fe0039_01.row.prog = PySem.Challenge.rw_fe0039_01.row.prog → Binder w f args binds := by
  intro _ s oc' od' osl' fd' e X
  rw [e0] at e
  cases e
  exact h s X
theorem bind_inner' (w : World) (v b : Value) (fx : Bool) : PySem.Challenge.rw_fe0039_01.row.prog = PySem.Challenge.rw_fe0039_01.row.prog → Binder w 35 ⟨[v], [(Str.ofString "alphabet", b), (Str.ofString "autofix", .bool fx)]⟩ [(Str.ofString "v", v), (Str.ofString "alphabet", b), (Str.ofString "autofix", .bool fx)] := by
  unfold Binder
  k_fill
  refine' Binder.of ?e0 ?h
  case e0 => k_is
  case h => (intro s X; exact kp_binds X (fun S => rfl))
theorem bind_int1 (w : World) (v : Value) : PySem.Challenge.rw_fe0039_01.row.prog = PySem.Challenge.rw_fe0039_01.row.prog → Binder w 35 ⟨[v], [(Str.ofString "autofix", .bool true)]⟩ [(Str.ofString "v", v), (Str.ofString "alphabet", .bytes #[49, 50, 51, 52, 53, 54, 55, 56, 57, 65, 66, 67, 68, 69, 70, 71, 72, 74, 75, 76, 77, 78, 80, 81, 82, 83, 84, 85, 86, 87, 88, 89, 90, 97, 98, 99, 100, 101, 102, 103, 104, 105, 106, 107, 109, 110, 111, 112, 113, 114, 115, 116, 117, 118, 119, 120, 121, 122] 189), (Str.ofString "autofix", .bool true)] := by
  unfold Binder
  k_fill
  refine' Binder.of ?e0 ?h
  case e0 => k_is
  case h => (intro s X; exact kp_binds X (fun S => rfl))
theorem bind_int2 (w : World) (v b : Value) : PySem.Challenge.rw_fe0039_01.row.prog = PySem.Challenge.rw_fe0039_01.row.prog → Binder w 35 ⟨[v, b], [(Str.ofString "autofix", .bool true)]⟩ [(Str.ofString "v", v), (Str.ofString "alphabet", b), (Str.ofString "autofix", .bool true)] := by
  unfold Binder
  k_fill
  refine' Binder.of ?e0 ?h
  case e0 => k_is
  case h => (intro s X; exact kp_binds X (fun S => rfl))
theorem bind_int3 (w : World) (v b : Value) : PySem.Challenge.rw_fe0039_01.row.prog = PySem.Challenge.rw_fe0039_01.row.prog → Binder w 35 ⟨[v, b], []⟩ [(Str.ofString "v", v), (Str.ofString "alphabet", b), (Str.ofString "autofix", .bool false)] := by
  unfold Binder
  k_fill
  refine' Binder.of ?e0 ?h
  case e0 => k_is
  case h => (intro s X; exact kp_binds X (fun S => rfl))
theorem bind_b1 (w : World) (v : Value) : PySem.Challenge.rw_fe0039_01.row.prog = PySem.Challenge.rw_fe0039_01.row.prog → Binder w 44 ⟨[v], [(Str.ofString "autofix", .bool true)]⟩ [(Str.ofString "v", v), (Str.ofString "alphabet", .bytes #[49, 50, 51, 52, 53, 54, 55, 56, 57, 65, 66, 67, 68, 69, 70, 71, 72, 74, 75, 76, 77, 78, 80, 81, 82, 83, 84, 85, 86, 87, 88, 89, 90, 97, 98, 99, 100, 101, 102, 103, 104, 105, 106, 107, 109, 110, 111, 112, 113, 114, 115, 116, 117, 118, 119, 120, 121, 122] 189), (Str.ofString "autofix", .bool true)] := by
  unfold Binder
  k_fill
  refine' Binder.of ?e0 ?h
  case e0 => k_is
  case h => (intro s X; exact kp_binds X (fun S => rfl))
theorem bind_b2 (w : World) (v b : Value) : PySem.Challenge.rw_fe0039_01.row.prog = PySem.Challenge.rw_fe0039_01.row.prog → Binder w 44 ⟨[v, b], [(Str.ofString "autofix", .bool true)]⟩ [(Str.ofString "v", v), (Str.ofString "alphabet", b), (Str.ofString "autofix", .bool true)] := by
  unfold Binder
  k_fill
  refine' Binder.of ?e0 ?h
  case e0 => k_is
  case h => (intro s X; exact kp_binds X (fun S => rfl))
theorem bind_b3 (w : World) (v b : Value) : PySem.Challenge.rw_fe0039_01.row.prog = PySem.Challenge.rw_fe0039_01.row.prog → Binder w 44 ⟨[v, b], []⟩ [(Str.ofString "v", v), (Str.ofString "alphabet", b), (Str.ofString "autofix", .bool false)] := by
  unfold Binder
  k_fill
  refine' Binder.of ?e0 ?h
  case e0 => k_is
  case h => (intro s X; exact kp_binds X (fun S => rfl))
end

-- C6
local macro_rules | `(tactic| walk_at "own binds") => `(tactic| first | exact BindsTo.of_eq rfl | (refine' Binder.use (by assumption) ?b1 ?b2; (case b1 => k_is); (case b2 => k_in)))
section
set_option maxRecDepth 100000
set_option maxHeartbeats 8000000
local macro_rules | `(tactic| walk_at "call ref") => `(tactic| (k_here; k_dflt (refine' con_use0 ?B ?F ?N ?X ?T ?GL ?XB ?TB ?hk (scrub_bytes _ _ _ _ _ _) ?hdp ?hun ?hpre ?_; (case B => k_asm); (case F => k_asm); (case N => k_asm); (case X => k_asm); (case T => k_asm); (case GL => k_asm); (case XB => assumption); (case TB => assumption); (case hk => exact rfl); (case hdp => ktr_room); (case hun => ktr_units); (case hpre => trivial); k_whole); intro v' tl' h' tk' F' N' _ hp'; (with_reducible obtain ⟨t', hv', htl'⟩ := hp'); subst hv'; subst htl'; (try simp only [List.nil_append] at N'); (try k_sweep)))
local macro_rules | `(tactic| walk_at "call ref") => `(tactic| (k_here; k_dflt (refine' con_use0 ?B ?F ?N ?X ?T ?GL ?XB ?TB ?hk (scrub_str _ _ _ _ _ _ ?hn ?hz) ?hdp ?hun ?hpre ?_; (case B => k_asm); (case F => k_asm); (case N => k_asm); (case X => k_asm); (case T => k_asm); (case GL => k_asm); (case XB => assumption); (case TB => assumption); (case hk => exact rfl); (case hdp => ktr_room); (case hun => ktr_units); (case hn => assumption); (case hz => assumption); (case hpre => trivial); k_whole); intro v' tl' h' tk' F' N' _ hp'; (with_reducible obtain ⟨t', hv', htl'⟩ := hp'); subst hv'; subst htl'; (try simp only [List.nil_append] at N'); (try k_sweep)))
local macro_rules | `(tactic| walk_at "call ref") => `(tactic| (k_here; k_dflt (refine' con_use0 ?B ?F ?N ?X ?T ?GL ?XB ?TB ?hk (map_any _ _ _ _ _ _ _ _ ?hb ?hz) ?hdp ?hun ?hpre ?_; (case B => k_asm); (case F => k_asm); (case N => k_asm); (case X => k_asm); (case T => k_asm); (case GL => k_asm); (case XB => assumption); (case TB => assumption); (case hk => exact rfl); (case hb => kba_ints); (case hz => assumption); (case hdp => ktr_room); (case hun => ktr_units); (case hpre => trivial); k_whole); intro v' tl' h' tk' F' N' hoff' hp'; (with_reducible obtain ⟨D', o', hv', htl', hlo', hM'⟩ := hp'); subst hv'; subst htl'; (have ho1' := hoff' _ (List.Mem.head _)); clear hoff'; (try simp only [List.nil_append, List.cons_append] at N'); (try simp only [LCg.Off1, and_true] at ho1'); (try k_sweep)))
local macro_rules | `(tactic| walk_at "pyIter bytes") => `(tactic| (k_here; (with_reducible rename Fr _ _ _ _ => lF'); (with_reducible rename News _ _ _ _ => lN'); k_dflt (with_unfolding_all refine' loop_decK (Str.ofString "decimal") (Str.ofString "base") ?hM lF' ?hz ?hk ?hh lN' ?hy (fun k' t' a' ta' h' tk' own' hmem' hlo' hhi' hoff' F' N' => ?_) (fun u' t' h' tk' hall' F' N' => ?_); (case hM => assumption); (case hz => rfl); (case hk => kba_ints); (case hh => rfl); (case hy => rfl)); (all_goals (try clear lF' lN')); (all_goals (try simp only [List.nil_append, List.cons_append, List.append_nil] at N'))))
local macro_rules | `(tactic| walk_at "subscriptTail") => `(tactic| (k_here; (with_reducible show wpAny _ _ (subscriptTail _ _ (Value.ref _) (Value.int _ _)) _ _ _); (with_reducible rename IsMap _ _ _ => hMp); k_dflt (refine' map_hit hMp ?ho ?hd ?hh (fun i' t' hi' => ?_) (fun hmiss' h' e' hX' => ?_); (case ho => walk_at "own at"); (case hd => assumption); (case hh => rfl))))
local macro_rules | `(tactic| walk_at "InvEndN") => `(tactic| (refine InvEndN.intro (by assumption) (by assumption) ⟨rfl, ⟨_, _, by assumption, by with_unfolding_all rfl⟩, by kba_same⟩ (by rfl) (by (with_unfolding_all ((try simp only [List.nil_append, List.cons_append]); k_allIn))) (by (intro p hp; k_ownIn))))
local macro_rules | `(tactic| walk_at "noteFrame ref") => `(tactic| (k_here; (with_reducible rename Heap.NewExc _ _ _ _ => hX'); k_dflt (refine' key_value ?K ?F hX' ?XB ?TB ?e1 ?e2 (fun h' e' tk' R' U' => ?_) ?c1 ?c2 ?c3 ?c4; (case K => k_asm); (case F => k_asm); (case XB => assumption); (case TB => assumption); (case e1 => k_is); (case e2 => k_is); (case c1 => rfl); (case c2 => rfl); (case c3 => rfl); (case c4 => rfl))))
theorem allIn_false {M : List (Int × Int)} {ls : List Int} {k : Int} (hm : k ∈ ls) (h : getI M k = none) : allIn M ls = false := by
  cases e : allIn M ls with
  | false => rfl
  | true =>
    have := List.all_eq_true.mp e k hm
    rw [h] at this; cases this
theorem dec_intB (w : World) (mean) (mg mb) (args : List Value) (kw : List (Str × Value)) (b v : Array UInt8) (tb tv : Tok) (fx : Bool) (ks ls : List Int) (hb : KBw.bInts b = ks) (hv : KBw.bInts v = ls) (hz : ks.length ≤ 64) (hsb : SignsB b) (hsv : SignsB v)
    (hbind : Binder w 35 ⟨args, kw⟩ [(Str.ofString "v", .bytes v tv), (Str.ofString "alphabet", .bytes b tb), (Str.ofString "autofix", .bool fx)]) :
    Con w mean mg mb 35 args kw (fun _ => True) (fun r tl => tl = [] ∧ allIn (mapOf fx ks) ls = true ∧ ∃ t, r = .int (valL (mapOf fx ks) ks.length ls) t) (allIn (mapOf fx ks) ls = false) 50 := by
  unfold Con
  k_fill
  intro dp un gd cn cs a ccd cl outer A₀ base h₀ L m s Q E B F X T GL XB TB hk hdp hun hpre hret hraise
  walk_at "own enter"
  rename_i hg' hL' FG' F' N' B' X' T'
  k_steps
  · (with_reducible rename RaisedSN _ _ _ _ _ _ _ => hR)
    (with_reducible rename Heap.UpToSlots _ _ => hU)
    exact hraise _ _ _ _ (by assumption) (by assumption) hR hU (allIn_false (by assumption) (by assumption))
  · refine hret _ [] _ _ (by k_asm) (keep_of (by assumption) (by assumption)) News.nil (by simp) ⟨rfl, by assumption, _, rfl⟩
theorem dec_intS (w : World) (mean) (mg mb) (args : List Value) (kw : List (Str × Value)) (b : Array UInt8) (x : Str) (tb tv : Tok) (fx : Bool) (ks ls : List Int) (hb : KBw.bInts b = ks) (hv : KBw.bInts (asciiOf x) = ls) (hz : ks.length ≤ 64) (hsb : SignsB b) (hsv : SignsS x) (hzx : (codes x).length ≤ 64)
    (hbind : Binder w 35 ⟨args, kw⟩ [(Str.ofString "v", .str x tv), (Str.ofString "alphabet", .bytes b tb), (Str.ofString "autofix", .bool fx)]) :
    Con w mean mg mb 35 args kw (fun _ => True) (fun r tl => tl = [] ∧ allIn (mapOf fx ks) ls = true ∧ ∃ t, r = .int (valL (mapOf fx ks) ks.length ls) t) (allIn (mapOf fx ks) ls = false) 50 := by
  unfold Con
  k_fill
  intro dp un gd cn cs a ccd cl outer A₀ base h₀ L m s Q E B F X T GL XB TB hk hdp hun hpre hret hraise
  walk_at "own enter"
  rename_i hg' hL' FG' F' N' B' X' T'
  k_steps
  · (with_reducible rename RaisedSN _ _ _ _ _ _ _ => hR)
    (with_reducible rename Heap.UpToSlots _ _ => hU)
    exact hraise _ _ _ _ (by assumption) (by assumption) hR hU (allIn_false (by assumption) (by assumption))
  · refine hret _ [] _ _ (by k_asm) (keep_of (by assumption) (by assumption)) News.nil (by simp) ⟨rfl, by assumption, _, rfl⟩
end

-- MStrip
section
set_option maxRecDepth 100000
set_option maxHeartbeats 8000000
open PySem.Calls
/-- the signs behind the leading ones that are the alphabet's first -/
def stripL (ks ls : List Int) : List Int := ls.dropWhile fun x => (ks.take 1).contains x
theorem stripL_le (ks ls : List Int) : (stripL ks ls).length ≤ ls.length := (List.dropWhile_suffix _).sublist.length_le
theorem stripL_mem {ks ls : List Int} {k : Int} (h : k ∈ stripL ks ls) : k ∈ ls := (List.dropWhile_suffix _).sublist.mem h
theorem picked1 {b : Array UInt8} {ks : List Int} (hk : KBw.bInts b = ks) : KBw.bInts (KBy.picked b (some 0) (some 1)) = ks.take 1 := by
  rw [KBc.ints_picked hk]
  show (ks.drop (clipAt ks.length 0)).take (clipAt ks.length 1 - clipAt ks.length 0) = ks.take 1
  rw [KBc.clip_lit, KBc.clip_lit]
  cases ks with
  | nil => rfl
  | cons k r => simp
theorem toNat_inj {x y : UInt8} (h : (x.toNat : Int) = (y.toNat : Int)) : x = y := UInt8.toNat_inj.mp (by exact_mod_cast h)
theorem strip_ints {v c : Array UInt8} {ks ls : List Int} (hv : KBw.bInts v = ls) (hc : KBw.bInts c = ks.take 1) : KBw.bInts (v.toList.dropWhile c.contains).toArray = stripL ks ls := by
  subst hv
  unfold stripL
  rw [← hc]
  unfold KBw.bInts
  have e : ∀ l : List UInt8, (l.dropWhile c.contains).map (fun x => (x.toNat : Int)) = (l.map fun x => (x.toNat : Int)).dropWhile (fun x => (c.toList.map fun x => (x.toNat : Int)).contains x) := by
    intro l
    induction l with
    | nil => rfl
    | cons a l ih =>
      rw [List.map_cons, List.dropWhile_cons, List.dropWhile_cons]
      have ec : c.contains a = (c.toList.map fun x => (x.toNat : Int)).contains (a.toNat : Int) := by
        rw [Bool.eq_iff_iff]
        rw [Array.contains_iff_mem, List.contains_iff_mem]
        constructor
        · intro h; exact List.mem_map.mpr ⟨a, Array.mem_toList_iff.mpr h, rfl⟩
        · intro h
          obtain ⟨x, hx, e⟩ := List.mem_map.mp h
          rw [← toNat_inj e]; exact Array.mem_toList_iff.mp hx
      rw [ec]
      split
      · exact ih
      · rfl
  simpa using e v.toList
theorem strip_signs {v c : Array UInt8} (h : SignsB v) : SignsB (v.toList.dropWhile c.contains).toArray := fun x hx => h x ((List.dropWhile_suffix _).sublist.mem (by simpa using hx))
section
variable {prog : Program} {w : World} {A : Around} {E : Value → Shared → Prop} {s : Shared}
theorem call_lstripK {b v : Array UInt8} {t u : Tok} {ks ls : List Int} {Q : Value → Shared → Prop} (hb : KBw.bInts b = ks) (hv : KBw.bInts v = ls) (hz : ls.length ≤ 64) (hs : SignsB v)
    (h : ∀ v' t' k, KBw.bInts v' = stripL ks ls → SignsB v' → (stripL ks ls).length ≤ 64 → Q (.bytes v' t') { s with toks := k }) :
    wpAny (model prog w) A (call (.builtin "bytes.lstrip") [.bytes v t, .bytes (KBy.picked b (some 0) (some 1)) u]) Q E s := by
  have hsz : v.size ≤ sizeLine := by rw [← KBw.ints_length, hv, sizeLine_eq]; omega
  exact call_lstrip hsz fun t' k => h _ t' k (strip_ints hv (picked1 hb)) (strip_signs hs) (Nat.le_trans (stripL_le _ _) hz)
end
end

-- MWhile
section
set_option maxRecDepth 100000
set_option maxHeartbeats 8000000
open PySem.Calls
/-- the digits to base 256, the lowest first -/
def digs (n : Nat) : List Int := if h : n = 0 then [] else ((n % 256 : Nat) : Int) :: digs (n / 256)
decreasing_by exact Nat.div_lt_self (Nat.pos_of_ne_zero h) (by decide)
theorem digs_zero : digs 0 = [] := by rw [digs]; rfl
theorem digs_pos {n : Nat} (h : 0 < n) : digs n = ((n % 256 : Nat) : Int) :: digs (n / 256) := by rw [digs, dif_neg (Nat.pos_iff_ne_zero.mp h)]
def DigEnd (h₀ : Heap) (L : Addr) (m₀ : Str → Option Value) (y z : Str) (R : Addr) (news : List (Addr × Obj)) (ns : List Int) (n : Int) (s s₂ : Shared) : Prop :=
  ∃ h' tk' m' vs' k', s₂ = { s with heap := h', toks := tk' } ∧ 0 < n ∧ Fr h₀ L h' m' ∧ News h₀ L h' ((R, listOf vs'.toArray k') :: news) ∧ IntsAre vs' (ns ++ [n.fmod 256]) ∧ (∃ t, m' y = some (.int (n.fdiv 256) t)) ∧ ∀ x, x ≠ z → x ≠ y → m' x = m₀ x
def DigPost (h₀ : Heap) (L : Addr) (m₀ : Str → Option Value) (y z : Str) (R : Addr) (news : List (Addr × Obj)) (ns : List Int) (n : Int) (s : Shared) (f : Flow) (s₂ : Shared) : Prop :=
  match f with
  | .next => DigEnd h₀ L m₀ y z R news ns n s s₂
  | _ => False
section
variable {prog : Program} {w : World} {A : Around} {E : Value → Shared → Prop} {s : Shared} {env : Env} {test : PySem.Expr} {body : List Stmt} {Q : Flow → Shared → Prop} {h₀ : Heap} {m₀ : Str → Option Value} {news : List (Addr × Obj)} {R : Addr}
theorem while_dig (y z : Str) {n₀ : Int} {t₀ : Tok} {k₀ : Nat} {pos : Pos} (hE : PassesOwn (model prog w) A env E) (h0 : 0 ≤ n₀) (F : Fr h₀ env.locals s.heap m₀) (N : News h₀ env.locals s.heap ((R, listOf #[] k₀) :: news)) (hy : m₀ y = some (.int n₀ t₀)) (hyz : y ≠ z)
    (turn : ∀ (n : Int) (ta : Tok) (vs : List Value) (ns : List Int) (k : Nat) (u : Str → Option Value) (h : Heap) (tk : Nat), 0 ≤ n → ns ++ digs n.toNat = digs n₀.toNat → IntsAre vs ns → Fr h₀ env.locals h (fun x => if x = z then u x else if x = y then some (.int n ta) else m₀ x) → News h₀ env.locals h ((R, listOf vs.toArray k) :: news) →
      wpAny (model prog w) A (isTrue test env (eval test env)) (fun b s₂ => WhlIf b (wpAny (model prog w) A (execs body env) (DigPost h₀ env.locals m₀ y z R news ns n s) E s₂) (wpAny (model prog w) A (execs [] env) Q E s₂)) E { s with heap := h, toks := tk }) :
    wpAny (model prog w) A (exec (.While test body [] pos) env) Q E s := by
  have key : ∀ (j : Nat) (n : Int) ta vs ns k m₁ h tk, 0 ≤ n → n.toNat ≤ j → ns ++ digs n.toNat = digs n₀.toNat → IntsAre vs ns → m₁ y = some (.int n ta) → (∀ x, x ≠ z → x ≠ y → m₁ x = m₀ x) → Fr h₀ env.locals h m₁ → News h₀ env.locals h ((R, listOf vs.toArray k) :: news) →
      WhlRest prog w A E env test body [] Q (j + 1) { s with heap := h, toks := tk } := by
    intro j
    induction j with
    | zero =>
      intro n ta vs ns k m₁ h tk hn hj hd hi hm hs F₁ N₁
      have e : (fun x => if x = z then m₁ x else if x = y then some (.int n ta) else m₀ x) = m₁ := by
        funext x
        by_cases h1 : x = z
        · simp [h1]
        · by_cases h2 : x = y
          · subst h2; simp [h1, hm]
          · simp [h1, h2, hs x h1 h2]
      refine whl_turn hE (wpAny_mono (turn n ta vs ns k m₁ h tk hn hd hi (by rw [e]; exact F₁) N₁) (fun b s₂ hb => ?_) fun _ _ x => x)
      cases b with
      | false => exact hb
      | true =>
        refine WhlIf.yes rfl (wpAny_mono (show wpAny (model prog w) A (execs body env) (DigPost h₀ env.locals m₀ y z R news ns n s) E s₂ from by unfold WhlIf at hb; rwa [if_pos rfl] at hb) (fun f s₃ hf => ?_) fun _ _ x => x)
        cases f with
        | next => obtain ⟨_, _, _, _, _, _, hpos, _⟩ := hf; omega
        | ret v => exact hf.elim
        | brk => exact hf.elim
        | cont => exact hf.elim
    | succ j ih =>
      intro n ta vs ns k m₁ h tk hn hj hd hi hm hs F₁ N₁
      have e : (fun x => if x = z then m₁ x else if x = y then some (.int n ta) else m₀ x) = m₁ := by
        funext x
        by_cases h1 : x = z
        · simp [h1]
        · by_cases h2 : x = y
          · subst h2; simp [h1, hm]
          · simp [h1, h2, hs x h1 h2]
      refine whl_turn hE (wpAny_mono (turn n ta vs ns k m₁ h tk hn hd hi (by rw [e]; exact F₁) N₁) (fun b s₂ hb => ?_) fun _ _ x => x)
      cases b with
      | false => exact hb
      | true =>
        refine WhlIf.yes rfl (wpAny_mono (show wpAny (model prog w) A (execs body env) (DigPost h₀ env.locals m₀ y z R news ns n s) E s₂ from by unfold WhlIf at hb; rwa [if_pos rfl] at hb) (fun f s₃ hf => ?_) fun _ _ x => x)
        cases f with
        | next =>
          obtain ⟨h', tk', m', vs', k', rfl, hpos, F', N', hi', ⟨t, ht⟩, hs'⟩ := hf
          obtain ⟨i, rfl⟩ := Int.eq_ofNat_of_zero_le hn
          have hi0 : 0 < i := by omega
          have e1 : ((i : Int)).fdiv 256 = ((i / 256 : Nat) : Int) := by rw [Int.fdiv_eq_ediv_of_nonneg _ (by decide)]; rfl
          have e2 : ((i : Int)).fmod 256 = ((i % 256 : Nat) : Int) := by rw [Int.fmod_eq_emod_of_nonneg _ (by decide)]; rfl
          rw [e2] at hi'
          rw [e1] at ht
          refine ih _ t vs' _ k' m' h' tk' (Int.natCast_nonneg _) ?_ ?_ hi' ht hs' F' N'
          · have := Nat.div_lt_self hi0 (show 1 < 256 by decide)
            simp only [Int.toNat_natCast] at hj ⊢
            omega
          · rw [Int.toNat_natCast, List.append_assoc]
            rw [Int.toNat_natCast, digs_pos hi0] at hd
            exact hd
        | ret v => exact hf.elim
        | brk => exact hf.elim
        | cont => exact hf.elim
  exact whl_start _ (key n₀.toNat n₀ t₀ [] [] k₀ m₀ _ _ h0 (Nat.le_refl _) rfl .nil hy (fun _ _ _ => rfl) F N)
end
end

-- MRev
section
set_option maxRecDepth 100000
set_option maxHeartbeats 8000000
open PySem.Calls
theorem rv_no_bytes : typeLookup (.type "list_reverseiterator") "__bytes__" = pure none := by rw [typeLookup_type, builtinLookup_eq_fast]; kernel_rfl
theorem rv_no_index : typeLookup (.type "list_reverseiterator") "__index__" = pure none := by rw [typeLookup_type, builtinLookup_eq_fast]; kernel_rfl
theorem rv_no_buffer : typeLookup (.type "list_reverseiterator") "__buffer__" = pure none := by rw [typeLookup_type, builtinLookup_eq_fast]; kernel_rfl
theorem rv_no_len : typeLookup (.type "list_reverseiterator") "__len__" = pure none := by rw [typeLookup_type, builtinLookup_eq_fast]; kernel_rfl
theorem rv_hint : typeLookup (.type "list_reverseiterator") "__length_hint__" = pure (some (.builtin "list_reverseiterator.__length_hint__")) := by rw [typeLookup_type, builtinLookup_eq_fast]; kernel_rfl
theorem rv_split : splitId "list_reverseiterator.__length_hint__" = some ("list_reverseiterator", "__length_hint__") := by decide +kernel
theorem rv_sub : isSubtype (.type "list_reverseiterator") (.type "list_reverseiterator") = pure true := by rw [isSubtype_type]; kernel_rfl
theorem rv_str : isSubtype (.type "list_reverseiterator") (.type "str") = pure false := by rw [isSubtype_type]; kernel_rfl
theorem rv_at {vs : List Value} {ns : List Int} (hi : IntsAre vs ns) {i : Nat} (h : i < vs.length) : ∃ n t, vs[vs.length - 1 - i]? = some (.int n t) ∧ ns.reverse[i]? = some n := by
  obtain ⟨x, hx⟩ : ∃ x, vs[vs.length - 1 - i]? = some x := ⟨vs[vs.length - 1 - i]'(by omega), List.getElem?_eq_getElem (by omega)⟩
  obtain ⟨n, t, rfl, hn⟩ := IntsAre.at hi _ x hx
  refine ⟨n, t, hx, ?_⟩
  have hl := hi.length
  rw [List.getElem?_reverse (by omega), ← hl]
  exact hn
section
variable {prog : Program} {w : World} {A : Around} {E : Value → Shared → Prop} {s : Shared}
theorem rv_loop {R : Result → Shared → Prop} {l I S : Addr} {vs : List Value} {ns : List Int} (hh : A.handled = none) (hi : IntsAre vs ns) (hr : ∀ n ∈ ns, 0 ≤ n ∧ n < 256) (hz : ns.length ≤ sizeLine) (hIS : I ≠ S) (hlI : l ≠ I) (hlS : l ≠ S) :
    ∀ (k i : Nat) (s : Shared), ns.length - i = k → i ≤ ns.length → s.heap.IsList l vs.toArray → s.heap.IsRevIter I l ((ns.length : Int) - 1 - i) → s.heap.get? S = some { cls := .type "bytearray", data := .bytearray (byteArr (ns.reverse.take i)) } →
      (∀ h' t k', (∀ b o, b ≠ I → b ≠ S → s.heap.get? b = some o → h'.get? b = some o) → R (.ok (.ret (.bytes (byteArr ns.reverse) t))) { s with heap := h', toks := k' }) →
      codeAny (model prog w) A (.builtin "bytes.__new__.loop" ⟨[.type "bytes", .ref I, .ref S], []⟩) R s := by
  have hlen : vs.length = ns.length := hi.length
  have hrl : ns.reverse.length = ns.length := List.length_reverse
  intro k
  induction k with
  | zero =>
    intro i s hk hle hl hit hS hR
    have hin : i = ns.length := by omega
    subst hin
    refine codeAny_builtin F.bm_entry_loop ?_
    rw [Around.under_plainId F.bm_plain_loop _]
    show wpAny _ A.in1 (pyNext (.ref I) >>= _) _ _ s
    have e1 : (ns.length : Int) - 1 - (ns.length : Int) = -1 := by omega
    rw [e1] at hit
    refine wpAny_bind (wpAny_pyNext_rev_end hh hit fun h' he => ?_)
    have hS' : h'.get? S = some { cls := .type "bytearray", data := .bytearray (byteArr (ns.reverse.take ns.length)) } := he S _ (Ne.symm hIS) hS
    refine wpAny_bind ?_
    unfold Builtin.Bytes.payload Builtin.Bytes.payload?
    refine wpAny_bind (wpAny_bind (wpAny_load hS' ?_))
    refine wpAny_pure (wpAny_pure ?_)
    rw [← hrl, List.take_length]
    refine wpAny_bind (wpAny_mkBytes ?_ (by rw [byteArr_size, hrl]; exact hz))
    show wpAny _ _ (if (Value.type "bytes" == Value.type "bytes") = true then _ else _) _ _ _
    refine bm_if_true (by decide) ?_
    first
      | exact wpAny_pure (hR h' _ _ fun b o hb _ e => he b o hb e)
      | exact wpAny_bind (wpAny_pure (wpAny_pure (hR h' _ _ fun b o hb _ e => he b o hb e)))
  | succ k ih =>
    intro i s hk hle hl hit hS hR
    have hlt : i < ns.length := by omega
    obtain ⟨n, t, hx, hn⟩ := rv_at hi (i := i) (by omega)
    obtain ⟨h0, h1⟩ := hr n (List.mem_reverse.mp (List.mem_of_getElem? hn))
    refine codeAny_builtin F.bm_entry_loop ?_
    rw [Around.under_plainId F.bm_plain_loop _]
    show wpAny _ A.in1 (pyNext (.ref I) >>= _) _ _ s
    have e2 : (ns.length : Int) - 1 - (i : Int) = ((vs.length - 1 - i : Nat) : Int) := by omega
    rw [e2] at hit
    refine wpAny_bind (wpAny_pyNext_rev_item (x := .int n t) hit hl (by simpa using hx) fun h' hit' hs => ?_)
    have e3 : ((vs.length - 1 - i : Nat) : Int) - 1 = (ns.length : Int) - 1 - ((i + 1 : Nat) : Int) := by omega
    rw [e3] at hit'
    have hS' : h'.get? S = some { cls := .type "bytearray", data := .bytearray (byteArr (ns.reverse.take i)) } := (hs.2 S (Ne.symm hIS)).trans hS
    refine wpAny_bind (wpAny_holding (wpAny_of_eq (rfl : asIndex (.int n t) = pure n) ?_))
    refine wpAny_bind (wpAny_letGo ?_)
    refine bm_if_false (by simp only [Bool.or_eq_false_iff, decide_eq_false_iff_not]; omega) ?_
    refine wpAny_bind ?_
    show wpAny _ _ (updateBytearray S (·.push n.toNat.toUInt8)) _ _ _
    unfold updateBytearray
    refine wpAny_bind (wpAny_load hS' ?_)
    show wpAny _ _ (update S (Obj.mapBytearray (·.push n.toNat.toUInt8)) >>= fun _ => lookBehind S) _ _ _
    refine wpAny_bind (wpAny_update hS' ?_)
    have hS₂ : (h'.update S (Obj.mapBytearray (·.push n.toNat.toUInt8))).get? S = some { cls := .type "bytearray", data := .bytearray (byteArr (ns.reverse.take (i + 1))) } := by
      rw [byteArr_take hn]
      exact Heap.get?_update_self (Obj.mapBytearray (·.push n.toNat.toUInt8)) hS' rfl
    refine wpAny_lookBehind hS₂ ?_ ?_
    · show (if (byteArr (ns.reverse.take (i + 1))).size > sizeLine then some "bytearray:memory" else none) = none
      rw [if_neg]
      rw [byteArr_size, List.length_take]
      omega
    · refine wpAny_pure ⟨plainId_quiet F.bm_plain_loop _, ih (i + 1) { s with heap := h'.update S (Obj.mapBytearray (·.push n.toNat.toUInt8)) } (by omega) hlt ?_ ?_ hS₂ fun h3 t' k' hk3 => ?_⟩
      · exact (hl.extBut hs.extBut hlI).extBut (Heap.SameBut.update ..).extBut hlS
      · exact hit'.at fun o eo => (Heap.SameBut.update ..).extBut _ _ hIS eo
      · exact hR h3 t' k' fun b o hbI hbS e => hk3 b o hbI hbS ((Heap.get?_update_other _ _ (Ne.symm hbS)).trans (hs.extBut b o hbI e))
theorem rv_new {l I : Addr} {vs : List Value} {ns : List Int} {Q : Value → Shared → Prop} (hh : A.handled = none) (hl : s.heap.IsList l vs.toArray) (hit : s.heap.IsRevIter I l ((vs.length : Int) - 1)) (hlI : l ≠ I) (hi : IntsAre vs ns) (hr : ∀ n ∈ ns, 0 ≤ n ∧ n < 256) (hz : ns.length ≤ sizeLine)
    (hQ : ∀ h' t k, (∀ b o, b ≠ I → s.heap.get? b = some o → h'.get? b = some o) → Q (.bytes (byteArr ns.reverse) t) { s with heap := h', toks := k }) :
    codeAny (model prog w) A (.call (.builtin "bytes.__new__") ⟨[.type "bytes", .ref I], []⟩) (wants Q E) s := by
  refine codeAny_of_tree ?_
  show wpAny _ A.in1 (do checkBuiltinCall "bytes.__new__" ⟨[.type "bytes", .ref I], []⟩; again (.builtin "bytes.__new__" ⟨[.type "bytes", .ref I], []⟩)) _ _ s
  refine wpAny_bind (wpAny_of_eq (F.bm_newCall _) (wpAny_pure ⟨plainId_quiet F.bm_plain _, codeAny_builtin F.bm_entry ?_⟩))
  rw [Around.under_plainId F.bm_plain _]
  have hT : s.TypeIs (.ref I) "list_reverseiterator" := hit.typeIs
  obtain ⟨ol, hol, hoc, hod⟩ := id hit
  unfold Builtin.«bytes.__new__»
  refine wpAny_bind (wpAny_of_eq (a := true) rfl ?_)
  refine bm_if_false rfl ?_
  refine wpAny_bind (wpAny_of_eq F.bm_sub ?_)
  refine bm_if_false rfl ?_
  refine wpAny_bind (wpAny_of_eq (F.bm_bind _) ?_)
  refine wpAny_bind (wpAny_of_eq (a := ()) rfl ?_)
  refine wpAny_bind (wpAny_of_eq (a := ()) rfl ?_)
  refine bm_if_false rfl ?_
  refine wpAny_bind (wpAny_specialOf hT rv_no_bytes ?_)
  refine wpAny_bind (wpAny_bind ?_)
  show wpAny _ _ (load I >>= _) _ _ _
  refine wpAny_bind (wpAny_load hol ?_)
  rw [hod]
  refine wpAny_pure (wpAny_pure ?_)
  refine bm_if_false rfl ?_
  refine wpAny_bind (wpAny_specialOf hT rv_no_index ?_)
  refine bm_if_true rfl ?_
  first
    | show wpAny _ _ (Builtin.Bytes.buffer? "bytes.__new__" (.ref I) true >>= _) _ _ _
    | (refine wpAny_bind ?_; show wpAny _ _ (Builtin.Bytes.buffer? "bytes.__new__" (.ref I) true >>= _) _ _ _)
  refine wpAny_bind ?_
  unfold Builtin.Bytes.buffer?
  refine wpAny_bind (wpAny_specialOf hT rv_no_buffer ?_)
  refine wpAny_bind (wpAny_specialOf hT rv_no_buffer ?_)
  refine wpAny_pure ?_
  refine wpAny_bind (wpAny_tryCatch (wpAny_pyIter_revIter hit ?_))
  refine wpAny_bind (wpAny_holding ?_)
  unfold Builtin.Bytes.lengthHint
  refine wpAny_bind (wpAny_specialOf hT rv_no_len ?_)
  dsimp only
  refine bm_if_false (by decide +kernel) ?_
  refine bm_if_false (by decide +kernel) ?_
  refine wpAny_bind (wpAny_specialOf hT rv_hint ?_)
  dsimp only
  rw [rv_split]
  dsimp only
  refine wpAny_bind (wpAny_isInstance hT rv_sub ?_)
  refine bm_if_false rfl ?_
  refine bm_if_true (by decide +kernel) ?_
  refine bm_if_false (by decide +kernel) ?_
  refine wpAny_pure ?_
  refine wpAny_bind ?_
  unfold Builtin.Bytes.newBytearray
  refine wpAny_newObj_type ?_ (Nat.zero_le _)
  have hI : (s.heap.push { cls := .type "bytearray", data := .bytearray #[] }).IsRevIter I l ((ns.length : Int) - 1 - ((0 : Nat) : Int)) :=
    by have e : (ns.length : Int) - 1 - ((0 : Nat) : Int) = (vs.length : Int) - 1 := by rw [hi.length]; simp
       rw [e]; exact hit.at fun o eo => Heap.get?_push_of_some _ eo
  obtain ⟨oL, hoL, _⟩ := id hl
  have hlt : l < s.heap.objs.size := Heap.lt_size hoL
  have hltI : I < s.heap.objs.size := Heap.lt_size hol
  have main := rv_loop (prog := prog) (w := w) (A := A) (R := wants Q E) (l := l) (I := I) (S := s.heap.objs.size) hh hi hr hz (Nat.ne_of_lt hltI) hlI (Nat.ne_of_lt hlt)
    ns.length 0 { s with heap := s.heap.push { cls := .type "bytearray", data := .bytearray #[] } } rfl (Nat.zero_le _) (hl.push _) hI (Heap.get?_push_size _ rfl)
    fun h' t k hk => hQ h' t k fun b o hb e => hk b o hb (Nat.ne_of_lt (Heap.lt_size e)) (Heap.get?_push_of_some _ e)
  first
    | exact wpAny_pure ⟨plainId_quiet F.bm_plain_loop _, main⟩
    | exact wpAny_pure (wpAny_pure ⟨plainId_quiet F.bm_plain_loop _, main⟩)
theorem call_bytes_rev {l I : Addr} {vs : List Value} {ns : List Int} {Q : Value → Shared → Prop} (hl : s.heap.IsList l vs.toArray) (hit : s.heap.IsRevIter I l ((vs.length : Int) - 1)) (hlI : l ≠ I) (hi : IntsAre vs ns) (hr : ∀ n ∈ ns, 0 ≤ n ∧ n < 256) (hz : vs.length ≤ sizeLine) (hh : A.handled = none)
    (hQ : ∀ h' t k, (∀ b o, b ≠ I → s.heap.get? b = some o → h'.get? b = some o) → Q (.bytes (byteArr ns.reverse) t) { s with heap := h', toks := k }) : wpAny (model prog w) A (call (.type "bytes") [.ref I]) Q E s := by
  refine callType_codes (Q₁ := fun obj s₁ => s₁.TypeIs obj "bytes" ∧ Q obj s₁) F.bm_called (F.bm_typeCall _) F.entry_object_init
    (rv_new hh hl hit hlI hi hr (by rw [← hi.length]; exact hz) fun h' t k hk => ⟨PySem.W.typeIs_bytes _ _ _, hQ h' t k hk⟩) fun obj s₁ h₁ => ?_
  exact ⟨h₁.1, F.args_object_init_2 obj _, object_init_meets F.bm_called.init.lookup F.bm_called.made (by decide) prog w A.in1 _ s₁ ⟨h₁.1, rfl, h₁.2⟩⟩
end
theorem bytes_rev_K {prog : Program} {w : World} {A : Around} {E : Value → Shared → Prop} {s : Shared} {h₀ : Heap} {L I l : Addr} {m : Str → Option Value} {news : List (Addr × Obj)} {vs : List Value} {k : Nat} {ns : List Int} {z : Int} {Q : Value → Shared → Prop}
    (F : Fr h₀ L s.heap m) (N : News h₀ L s.heap ((I, revObj l z) :: news)) (hz : z = (vs.length : Int) - 1) (hh : A.handled = none) (hl : (l, listOf vs.toArray k) ∈ news) (hlI : ∀ p ∈ news, p.1 ≠ I) (hi : IntsAre vs ns) (hr : ∀ n ∈ ns, 0 ≤ n ∧ n < 256) (hn : ns.length ≤ 16777216)
    (h : ∀ h' t' k, Fr h₀ L h' m → News h₀ L h' news → Q (.bytes (byteArr ns.reverse) t') { s with heap := h', toks := k }) : wpAny (model prog w) A (call (.type "bytes") [.ref I]) Q E s := by
  subst hz
  have hI := N _ (List.Mem.head _)
  refine call_bytes_rev (l := l) (vs := vs) (News.isList (News.tail' N) hl) ⟨_, hI.1, rfl, rfl⟩ (hlI _ hl) hi hr (by rw [hi.length, sizeLine_eq]; exact hn) hh fun h' t k hk => h h' t k ⟨?_, fun b o e => hk b o (fun hb => ?_) (F.keep b o e), F.above⟩ fun p hp => ⟨hk _ _ (hlI p hp) (N p (.tail _ hp)).1, (N p (.tail _ hp)).2⟩
  · obtain ⟨oL, a1, a2, hoL, a3⟩ := F.ns
    exact ⟨oL, a1, a2, hk _ _ (Ne.symm hI.2.1) hoL, a3⟩
  · subst hb
    rw [hI.2.2] at e
    cases e
end

-- MPure
section
set_option maxRecDepth 100000
set_option maxHeartbeats 8000000
open PySem.Calls
def AllV (P : Int → Prop) (M : List (Int × Int)) : Prop := ∀ k i, getI M k = some i → P i
theorem allV_put {P : Int → Prop} {M : List (Int × Int)} (h : AllV P M) {k i : Int} (hi : P i) : AllV P (putI M k i) := fun k' i' e => by
  rw [getI_put] at e
  split at e
  · cases e; exact hi
  · exact h _ _ e
theorem allV_fold {P : Int → Prop} {α : Type} {f : α → Int × Int} : ∀ (l : List α) (M : List (Int × Int)), AllV P M → (∀ a ∈ l, P (f a).2) → AllV P (l.foldl (fun D a => putI D (f a).1 (f a).2) M)
  | [], _, h, _ => h
  | a :: l, _, h, hl => allV_fold l _ (allV_put h (hl a (.head _))) fun b hb => hl b (.tail _ hb)
theorem allV_rows (ks : List Int) : AllV (fun i => 0 ≤ i ∧ i < (ks.length : Int)) (rowsOf ks) :=
  allV_fold (f := fun p : Int × Nat => (p.1, (p.2 : Int))) ks.zipIdx [] (fun k i h => nomatch h) fun a ha => by
    have := List.snd_lt_of_mem_zipIdx ha
    constructor
    · exact Int.natCast_nonneg _
    · show ((a.2 : Nat) : Int) < _
      omega
theorem allV_fix {P : Int → Prop} {M : List (Int × Int)} (h : AllV P M) (g : List Int) : AllV P (fixRows M g) := by
  unfold fixRows
  split
  · rename_i p e
    refine allV_fold (f := fun a : Int => (a, (getI M p).getD 0)) g M h fun a _ => ?_
    show P ((getI M p).getD 0)
    have hp : p ∈ g.filter (fun k => (getI M k).isSome) := by rw [e]; exact .head _
    obtain ⟨i, hi⟩ := Option.isSome_iff_exists.mp (List.mem_filter.mp hp).2
    rw [hi]
    exact h _ _ hi
  · exact h
theorem allV_map (fx : Bool) (ks : List Int) : AllV (fun i => 0 ≤ i ∧ i < (ks.length : Int)) (mapOf fx ks) := by
  unfold mapOf
  split
  · exact allV_fix (allV_fix (allV_rows ks) _) _
  · exact allV_rows ks
theorem pos_map (fx : Bool) (ks : List Int) (k : Int) : 0 ≤ (getI (mapOf fx ks) k).getD 0 := by
  cases e : getI (mapOf fx ks) k with
  | none => exact Int.le_refl _
  | some i => exact (allV_map fx ks k i e).1
theorem lt_map (fx : Bool) {ks : List Int} (hz : ks.length ≤ 64) (k : Int) : (getI (mapOf fx ks) k).getD 0 ≤ 63 := by
  cases e : getI (mapOf fx ks) k with
  | none => decide
  | some i =>
    have := (allV_map fx ks k i e).2
    show i ≤ 63
    omega
theorem valL_from {M : List (Int × Int)} (h : ∀ k, 0 ≤ (getI M k).getD 0) {base : Int} (hb : 0 ≤ base) : ∀ (ls : List Int) (a : Int), 0 ≤ a → 0 ≤ ls.foldl (fun a k => a * base + (getI M k).getD 0) a
  | [], _, ha => ha
  | k :: ls, a, ha => by
    rw [List.foldl_cons]
    refine valL_from h hb ls _ ?_
    have h1 : 0 ≤ a * base := Int.mul_nonneg ha hb
    have h2 := h k
    omega
theorem valL_nonneg (fx : Bool) (ks ls : List Int) (n : Nat) : 0 ≤ valL (mapOf fx ks) (n : Int) ls := valL_from (pos_map fx ks) (Int.natCast_nonneg _) ls 0 (Int.le_refl _)
theorem valL_to {M : List (Int × Int)} (h : ∀ k, 0 ≤ (getI M k).getD 0) (h' : ∀ k, (getI M k).getD 0 ≤ 63) {base : Int} (hb : 0 ≤ base) (hb' : base ≤ 64) : ∀ (ls : List Int) (a : Int) (B : Int), 0 ≤ a → a + 1 ≤ B → ls.foldl (fun a k => a * base + (getI M k).getD 0) a + 1 ≤ B * 64 ^ ls.length
  | [], _, _, _, h => by simpa using h
  | k :: ls, a, B, ha, haB => by
    rw [List.foldl_cons, List.length_cons, Int.pow_succ]
    have h1 : 0 ≤ a * base := Int.mul_nonneg ha hb
    have h2 : a * base ≤ a * 64 := Int.mul_le_mul_of_nonneg_left hb' ha
    have h3 := h k
    have h4 := h' k
    have := valL_to h h' hb hb' ls (a * base + (getI M k).getD 0) (B * 64) (by omega) (by omega)
    rw [Int.mul_assoc, Int.mul_comm 64] at this
    exact this
theorem digs_len : ∀ (k n : Nat), n < 256 ^ k → (digs n).length ≤ k
  | 0, n, h => by
    have : n = 0 := by simpa using h
    subst this; rw [digs_zero]; exact Nat.le_refl _
  | k + 1, n, h => by
    rcases Nat.eq_zero_or_pos n with rfl | hn
    · rw [digs_zero]; exact Nat.zero_le _
    · rw [digs_pos hn, List.length_cons]
      have := digs_len k (n / 256) (by rw [Nat.pow_succ] at h; exact Nat.div_lt_of_lt_mul (by rw [Nat.mul_comm]; exact h))
      omega
theorem digs_valL (fx : Bool) {ks ls : List Int} (hz : ks.length ≤ 64) (hl : ls.length ≤ 64) : (digs (valL (mapOf fx ks) (ks.length : Int) ls).toNat).length ≤ 48 := by
  refine digs_len 48 _ ?_
  have h1 := valL_to (pos_map fx ks) (lt_map fx hz) (Int.natCast_nonneg ks.length) (by omega) ls 0 1 (Int.le_refl _) (Int.le_refl _)
  have h2 : (64 : Int) ^ ls.length ≤ 64 ^ 64 := by
    have : (64 : Nat) ^ ls.length ≤ 64 ^ 64 := Nat.pow_le_pow_right (by decide) hl
    exact_mod_cast this
  have h3 := valL_nonneg fx ks ls ks.length
  have h4 : (64 : Int) ^ 64 = ((256 ^ 48 : Nat) : Int) := by decide +kernel
  show (valL (mapOf fx ks) (ks.length : Int) ls).toNat < 256 ^ 48
  have h5 : valL (mapOf fx ks) (ks.length : Int) ls + 1 ≤ ((256 ^ 48 : Nat) : Int) := by
    refine Int.le_trans ?_ (Int.le_of_eq h4)
    refine Int.le_trans ?_ h2
    simpa [valL] using h1
  omega
end

-- C7
section
set_option maxRecDepth 100000
set_option maxHeartbeats 8000000
theorem dig_size {vs : List Value} {ns l : List Int} {d : List Int} (hd : ns ++ l = d) (hi : IntsAre vs ns) (hb : d.length ≤ 48) : vs.toArray.size ≤ sizeLine := by
  have h1 := hi.length
  have h2 : ns.length ≤ d.length := by rw [← hd, List.length_append]; omega
  rw [sizeLine_eq, List.size_toArray]
  omega
theorem digs_pre {ns l d : List Int} (hd : ns ++ l = d) (hb : d.length ≤ 48) : ns.length ≤ 48 := by
  have h2 : ns.length ≤ d.length := by rw [← hd, List.length_append]; omega
  omega
theorem digs_in : ∀ (n : Nat), ∀ x ∈ digs n, 0 ≤ x ∧ x < 256 := by
  intro n
  induction n using Nat.strongRecOn with
  | _ n ih =>
    intro x hx
    by_cases h : n = 0
    · subst h; rw [digs_zero] at hx; cases hx
    · rw [digs_pos (Nat.pos_of_ne_zero h)] at hx
      rcases List.mem_cons.mp hx with rfl | hx
      · omega
      · exact ih _ (Nat.div_lt_self (Nat.pos_of_ne_zero h) (by decide)) x hx
theorem digs_all {ns : List Int} {n : Int} {d : List Int} (hd : ns ++ digs n.toNat = d) (h : ¬ 0 < n) : ns = d := by
  have e : n.toNat = 0 := by omega
  rw [e, digs_zero, List.append_nil] at hd
  exact hd
theorem digs_rev {vs : List Value} {n : Nat} (_ : IntsAre vs (digs n)) : KBw.bInts (byteArr (digs n).reverse) = (digs n).reverse := KBa.ints_make fun x hx => digs_in n x (List.mem_reverse.mp hx)
local macro_rules | `(tactic| walk_at "call type:bytes") => `(tactic| (k_here; (with_reducible show wpAny _ _ (call (Value.type _) [Value.ref _]) _ _ _); (have hda' := digs_all (by assumption) (by assumption)); subst hda'; (have hbr' := digs_rev (by assumption)); k_dflt (refine' bytes_rev_K ?k1 ?k2 ?k3 ?k4 ?k5 ?k6 ?k7 ?k8 ?k9 (fun h' t' k' F' N' => ?_); (case k1 => k_asm); (case k2 => k_asm); (case k5 => k_mem); (case k3 => rfl); (case k4 => exact rfl); (case k6 => k_all); (case k7 => assumption); (case k8 => exact digs_in _); (case k9 => (refine Nat.le_trans (m := 48) ?_ (by decide); assumption))); (try k_sweep)))
local macro_rules | `(tactic| walk_at "call ref") => `(tactic| (k_here; (with_reducible show wpAny _ _ (call (Value.ref 21) _ _) _ _ _); k_dflt (refine' con_use0 ?B ?F ?N ?X ?T ?GL ?XB ?TB ?hk (scrub_bytes _ _ _ _ _ _) ?hdp ?hun ?hpre ?_; (case B => k_asm); (case F => k_asm); (case N => k_asm); (case X => k_asm); (case T => k_asm); (case GL => k_asm); (case XB => assumption); (case TB => assumption); (case hk => exact rfl); (case hdp => ktr_room); (case hun => ktr_units); (case hpre => trivial); k_whole); intro v' tl' h' tk' F' N' _ hp'; (with_reducible obtain ⟨t', hv', htl'⟩ := hp'); subst hv'; subst htl'; (try simp only [List.nil_append] at N'); (try k_sweep)))
local macro_rules | `(tactic| walk_at "call ref") => `(tactic| (k_here; (with_reducible show wpAny _ _ (call (Value.ref 21) _ _) _ _ _); k_dflt (refine' con_use0 ?B ?F ?N ?X ?T ?GL ?XB ?TB ?hk (scrub_str _ _ _ _ _ _ ?hn ?hz) ?hdp ?hun ?hpre ?_; (case B => k_asm); (case F => k_asm); (case N => k_asm); (case X => k_asm); (case T => k_asm); (case GL => k_asm); (case XB => assumption); (case TB => assumption); (case hk => exact rfl); (case hdp => ktr_room); (case hun => ktr_units); (case hn => assumption); (case hz => assumption); (case hpre => trivial); k_whole); intro v' tl' h' tk' F' N' _ hp'; (with_reducible obtain ⟨t', hv', htl'⟩ := hp'); subst hv'; subst htl'; (try simp only [List.nil_append] at N'); (try k_sweep)))
local macro_rules | `(tactic| walk_at "call builtin:bytes.lstrip") => `(tactic| (k_here; k_dflt (refine' call_lstripK ?hb ?hv ?hz ?hs (fun v' t' k' hv' hs' hz' => ?_); (case hb => assumption); (case hv => kba_ints); (case hz => assumption); (case hs => assumption))))
local macro_rules | `(tactic| walk_at "call ref") => `(tactic| (k_here; (with_reducible show wpAny _ _ (call (Value.ref 35) _ _) _ _ _); k_dflt (refine' con_use ?B ?F ?N ?X ?T ?GL ?XB ?TB ?hk (dec_intB _ _ _ _ _ _ _ _ _ _ _ _ _ ?hb ?hv ?hz ?hsb ?hsv (bind_inner' _ _ _ _ rfl)) ?hdp ?hun ?hpre (fun v' tl' h' tk' F' N' hoff' hp' => ?_) (fun g' e' h' tk' hg' Fg' R' U' hex' => ?raise); (case B => k_asm); (case F => k_asm); (case N => k_asm); (case X => k_asm); (case T => k_asm); (case GL => k_asm); (case XB => assumption); (case TB => assumption); (case hk => exact rfl); (case hb => kba_ints); (case hv => kba_ints); (case hz => with_reducible assumption); (case hsb => with_reducible assumption); (case hsv => with_reducible assumption); (case hdp => ktr_room); (case hun => ktr_units); (case hpre => trivial); (case raise => ((with_reducible rename RaiseTo _ _ _ _ _ _ _ _ _ _ => hR'); refine leave_onSN (by k_asm) Fg' R' U' (fun h'' R'' _ U'' => ?_); exact hR' _ _ _ _ (by assumption) (by assumption) R'' U'' hex')); k_whole); (with_reducible obtain ⟨htl', hall', t', hv'⟩ := hp'); subst hv'; subst htl'; clear hoff'; (try simp only [List.nil_append] at N'); (try k_sweep)))
local macro_rules | `(tactic| walk_at "exec While Compare") => `(tactic| (k_here; (with_reducible rename Fr _ _ _ _ => lF'); (with_reducible rename News _ _ _ _ => lN'); k_dflt (with_unfolding_all refine' while_dig (Str.ofString "acc") (Str.ofString "mod") ?hE ?h0 lF' lN' ?hy ?hyz (fun n' ta' vs' ns' k' u' h' tk' hn' hd' hi' F' N' => ?_); (case hE => first | passes_own | with_unfolding_all passes_own); (case hy => rfl); (case h0 => exact valL_nonneg _ _ _ _); (case hyz => decide)); (have hsz' := dig_size hd' hi' (digs_valL _ (by assumption) (by assumption))); (have hRlt' := ltN (Heap.lt_size (N' _ (List.Mem.head _)).1)); (have hle' : ns'.length ≤ 48 := digs_pre hd' (digs_valL _ (by assumption) (by assumption))); (try dsimp only at hRlt'); clear lF' lN'))
local macro_rules | `(tactic| walk_at "DigPost") => `(tactic| (dsimp only [DigPost]))
theorem whl_split {c : Prop} [Decidable c] {T F : Prop} (ht : c → T) (hf : ¬ c → F) : WhlIf (decide c) T F := by
  by_cases h : c
  · exact WhlIf.yes (decide_eq_true h) (ht h)
  · exact WhlIf.no (decide_eq_false h) (hf h)
local macro_rules | `(tactic| walk_at "WhlIf") => `(tactic| (refine whl_split (fun hpos' => ?_) (fun hno' => ?_)))
local macro_rules | `(tactic| walk_at "call builtin:list.append") => `(tactic| (k_here; (try dsimp only); (try simp only [List.cons_append, List.nil_append]); (with_reducible show wpAny _ _ (call (Value.builtin _) [Value.ref _, _]) _ _ _); k_dflt (refine' append_K ?k1 ?k2 ?k3 ?_ ?z; (case k1 => k_asm); (case k2 => k_asm); (case k3 => k_upd); (case z => assumption); k_whole); intro h' F' N'; (try simp only [List.push_toArray] at N'); (try k_sweep)))
theorem noughts_ints (n : Nat) : KBw.bInts (List.replicate n [(0 : UInt8)]).flatten.toArray = List.replicate n 0 := by
  unfold KBw.bInts
  induction n with
  | zero => rfl
  | succ n ih =>
    rw [List.replicate_succ, List.flatten_cons, List.replicate_succ, ← ih]
    rfl
local macro_rules | `(tactic| walk_at "binaryOp Add bytes bytes") => `(tactic| (k_here; k_dflt (refine' KBa.add_K (noughts_ints _) ?hc ?hz ?_; (case hc => assumption); (case hz => (rw [List.length_replicate, List.length_reverse]; omega)); k_whole); intro _ _ kbaApp))
theorem ints_snoc {vs : List Value} {ns : List Int} {n : Int} {t : Tok} (h : IntsAre vs ns) : IntsAre (vs ++ [Value.int n t]) (ns ++ [n]) := by
  induction h with
  | nil => exact .cons n t .nil
  | cons a b _ ih => exact .cons a b ih
theorem digEnd_of {h₀ : Heap} {L : Addr} {m₀ m' : Str → Option Value} {y z : Str} {R : Addr} {news : List (Addr × Obj)} {ns : List Int} {n : Int} {vs : List Value} {t t' : Tok} {h' : Heap} {tk' k' : Nat} {s s₂ : Shared} {p : Addr × Obj} (he : s₂ = { s with heap := h', toks := tk' }) (hn : 0 < n) (F : Fr h₀ L h' m')
    (N : News h₀ L h' (p :: (R, listOf (vs ++ [Value.int (n.fmod 256) t]).toArray k') :: news)) (hi : IntsAre vs ns) (hy : m' y = some (.int (n.fdiv 256) t')) (hs : ∀ x, x ≠ z → x ≠ y → m' x = m₀ x) : DigEnd h₀ L m₀ y z R news ns n s s₂ :=
  ⟨h', tk', m', _, k', he, hn, F, News.tail' N, ints_snoc hi, ⟨t', hy⟩, hs⟩
local macro_rules | `(tactic| walk_at "DigEnd") => `(tactic| ((try with_reducible rename Fr _ _ _ _ => lF'); (try with_reducible rename News _ _ _ _ => lN'); (with_unfolding_all refine' digEnd_of rfl ?hn lF' lN' ?hi ?hy ?hs; (case hn => assumption); (case hi => assumption); (case hy => rfl); (case hs => (intro x hx1 hx2; simp only [if_neg hx1, if_neg hx2])))))
def decOf (M : List (Int × Int)) (ks ls : List Int) : List Int := List.replicate (ls.length - (stripL ks ls).length) 0 ++ (digs (valL M ks.length (stripL ks ls)).toNat).reverse
theorem decOf_eq {M : List (Int × Int)} {ks ls : List Int} {b : Array UInt8} (h : KBw.bInts b = List.replicate ((ls.length : Int) - ((stripL ks ls).length : Int)).toNat 0 ++ (digs (valL M ks.length (stripL ks ls)).toNat).reverse) : KBw.bInts b = decOf M ks ls := by
  rw [h, decOf]
  congr 2
  omega
theorem dec_bB (w : World) (mean) (mg mb) (args : List Value) (kw : List (Str × Value)) (b v : Array UInt8) (tb tv : Tok) (fx : Bool) (ks ls : List Int) (hb : KBw.bInts b = ks) (hv : KBw.bInts v = ls) (hz : ks.length ≤ 64) (hzl : ls.length ≤ 64) (hsb : SignsB b) (hsv : SignsB v)
    (hbind : Binder w 44 ⟨args, kw⟩ [(Str.ofString "v", .bytes v tv), (Str.ofString "alphabet", .bytes b tb), (Str.ofString "autofix", .bool fx)]) :
    Con w mean mg mb 44 args kw (fun _ => True) (fun r tl => tl = [] ∧ allIn (mapOf fx ks) (stripL ks ls) = true ∧ ∃ bb t, r = .bytes bb t ∧ KBw.bInts bb = decOf (mapOf fx ks) ks ls) (allIn (mapOf fx ks) (stripL ks ls) = false) 60 := by
  unfold Con
  k_fill
  intro dp un gd cn cs a ccd cl outer A₀ base h₀ L m s Q E B F X T GL XB TB hk hdp hun hpre hret hraise
  walk_at "own enter"
  rename_i hg' hL' FG' F' N' B' X' T'
  k_steps
  refine' hret _ [] _ _ ?ga ?gb News.nil ?gc ?gd
  case ga => k_asm
  case gb => exact keep_of (by assumption) (by assumption)
  case gc => simp
  case gd => exact ⟨rfl, by assumption, _, _, rfl, decOf_eq (by assumption)⟩
theorem dec_bS (w : World) (mean) (mg mb) (args : List Value) (kw : List (Str × Value)) (b : Array UInt8) (x : Str) (tb tv : Tok) (fx : Bool) (ks ls : List Int) (hb : KBw.bInts b = ks) (hv : KBw.bInts (asciiOf x) = ls) (hz : ks.length ≤ 64) (hzl : ls.length ≤ 64) (hsb : SignsB b) (hsx : SignsS x) (hsv : SignsB (asciiOf x)) (hzx : (codes x).length ≤ 64)
    (hbind : Binder w 44 ⟨args, kw⟩ [(Str.ofString "v", .str x tv), (Str.ofString "alphabet", .bytes b tb), (Str.ofString "autofix", .bool fx)]) :
    Con w mean mg mb 44 args kw (fun _ => True) (fun r tl => tl = [] ∧ allIn (mapOf fx ks) (stripL ks ls) = true ∧ ∃ bb t, r = .bytes bb t ∧ KBw.bInts bb = decOf (mapOf fx ks) ks ls) (allIn (mapOf fx ks) (stripL ks ls) = false) 60 := by
  unfold Con
  k_fill
  intro dp un gd cn cs a ccd cl outer A₀ base h₀ L m s Q E B F X T GL XB TB hk hdp hun hpre hret hraise
  walk_at "own enter"
  rename_i hg' hL' FG' F' N' B' X' T'
  k_steps
  refine' hret _ [] _ _ ?ga ?gb News.nil ?gc ?gd
  case ga => k_asm
  case gb => exact keep_of (by assumption) (by assumption)
  case gc => simp
  case gd => exact ⟨rfl, by assumption, _, _, rfl, decOf_eq (by assumption)⟩
end

-- D1
section
set_option maxRecDepth 100000
set_option maxHeartbeats 8000000
theorem pyl {x y : Int} (h0 : 0 ≤ y) (h : y < 1000) : Builtin.divisionGoesByPylong x y = false := by
  refine PyProof.noPylong_of_log2 (Nat.lt_of_le_of_lt (Nat.log2_le_self _) ?_)
  omega
local macro_rules | `(tactic| walk_at "binaryOp FloorDiv int int") => `(tactic| (k_here; (with_reducible refine floordiv_int ?kbe ?_ (Or.inl (pyl ?kbp ?kbq))); (case kbe => omega); (case kbp => omega); (case kbq => omega)))
theorem draw (w : World) (mean) (mg mb) (l : Addr) (vs : List Value) (ns : List Int) (k : Int) (t : Tok) (hI : IntsAre vs ns) (hlay : (PyData.list (ns.map PyData.int)).layable0 = true) (hle : ns.length ≤ 63) :
    Con w mean mg mb 55 [.ref l, .int k t] [] (fun h => h.IsList l vs.toArray) (fun r tl => tl = [] ∧ ∃ d t, r = .int d t) False := by
  unfold Con
  k_fill
  intro dp un gd cn cs a ccd cl outer A₀ base h₀ L m s Q E B F X T GL XB TB hk hdp hun hpre hret hraise
  walk_at "own enter"
  rename_i hg' hL' FG' F' N' B' X' T'
  rw [← hg'] at hpre
  k_steps
  all_goals (try dsimp only)
  all_goals (refine' hret _ [] _ _ ?ga ?gb News.nil ?gc ?gd; (case ga => k_asm); (case gb => exact keep_of hg' F'); (case gc => simp); (case gd => exact ⟨rfl, _, _, rfl⟩))
end

-- D2
section
set_option maxRecDepth 100000
set_option maxHeartbeats 8000000
def numN (base : Int) (row pre : List Int) : Int := pre.foldl (fun a k => a + row.getD (-1 - k + (row.length : Int)).toNat 0 * base ^ k.toNat) 0
theorem numN_snoc {base : Int} {row pre : List Int} {k : Int} : numN base row (pre ++ [k]) = numN base row pre + row.getD (-1 - k + (row.length : Int)).toNat 0 * base ^ k.toNat := by simp [numN]
theorem numN_of {base : Int} {row : List Int} : ∀ (pre : List Int) (a : Int), (List.foldl (fun (σ : Int × Unit) k => (σ.fst + row.getD (-1 - k + (row.length : Int)).toNat 0 * base ^ k.toNat, ())) (a, ()) pre).fst = pre.foldl (fun a k => a + row.getD (-1 - k + (row.length : Int)).toNat 0 * base ^ k.toNat) a := by
  intro pre
  induction pre with
  | nil => intro a; rfl
  | cons k r ih => intro a; exact ih _
theorem numN_end {row pre : List Int} {base x : Int} (h : x = (List.foldl (fun (σ : Int × Unit) k => (σ.fst + row.getD (-1 - k + (row.length : Int)).toNat 0 * base ^ k.toNat, ())) (0, ()) pre).fst) : x = numN base row pre := by rw [h, numN_of]; rfl
theorem number_bytes (w : World) (mean) (mg mb) (b : Array UInt8) (ks : List Int) (tb t : Tok) (hb : KBw.bInts b = ks) (hz : ks.length ≤ 120) :
    Con w mean mg mb 72 [.bytes b tb, .int 256 t] [] (fun _ => True) (fun r tl => tl = [] ∧ ∃ x t, r = .int x t ∧ x = numN 256 ks (rangeInts 0 1 ks.length)) False := by
  unfold Con
  k_fill
  intro dp un gd cn cs a ccd cl outer A₀ base h₀ L m s Q E B F X T GL XB TB hk hdp hun hpre hret hraise
  walk_at "own enter"
  rename_i hg' hL' FG' F' N' B' X' T'
  k_steps
  refine hret _ [] _ _ (by k_asm) (keep_of (by assumption) (by assumption)) News.nil (by simp) ⟨rfl, _, _, rfl, numN_end rfl⟩
theorem digit_bits {ks : List Int} (h : ∀ x ∈ ks, 0 ≤ x ∧ x < 64) (i : Nat) : Builtin.Int.intBits (ks.getD i 0) ≤ 64 := by
  have : 0 ≤ ks.getD i 0 ∧ ks.getD i 0 < 64 := by
    by_cases hi : i < ks.length
    · rw [List.getD, List.getElem?_eq_getElem hi]; exact h _ (List.getElem_mem hi)
    · rw [List.getD, List.getElem?_eq_none (Nat.not_lt.mp hi)]; exact ⟨by decide, by decide⟩
  exact intBits_le_64 (by omega) (by omega)
local macro_rules | `(tactic| walk_at "binaryOp Mult int int") => `(tactic| (k_here; (with_reducible refine mul_int ?_ (IntMulOk.of_left (digit_bits (by assumption) _)))))
theorem number_list (w : World) (mean) (mg mb) (l : Addr) (vs : List Value) (ks : List Int) (bs : Int) (t : Tok) (hi : IntsAre vs ks) (hz : ks.length ≤ 16) (hks : ∀ x ∈ ks, 0 ≤ x ∧ x < 64) (hb0 : 0 < bs) (hb1 : bs ≤ 64) :
    Con w mean mg mb 72 [.ref l, .int bs t] [] (fun h => h.IsList l vs.toArray) (fun r tl => tl = [] ∧ ∃ x t, r = .int x t ∧ x = numN bs ks (rangeKs 0 ((ks.length : Int) - 0).toNat)) False := by
  unfold Con
  k_fill
  intro dp un gd cn cs a ccd cl outer A₀ base h₀ L m s Q E B F X T GL XB TB hk hdp hun hpre hret hraise
  walk_at "own enter"
  rename_i hg' hL' FG' F' N' B' X' T'
  rw [← hg'] at hpre
  k_with "state" => first | rfl | (rw [numN_snoc]; simp_all)
  k_with "pyIter ref" => k_state (fun pre tot => tot = numN bs ks pre) "total"
  k_steps
  refine hret _ [] _ _ (by k_asm) (keep_of (by assumption) (by assumption)) News.nil (by simp) ⟨rfl, _, _, rfl, by assumption⟩
end

-- D3
section
set_option maxRecDepth 100000
set_option maxHeartbeats 8000000
structure RowOk (r : List Int) : Prop where
  nodup : r.Nodup
  lo : 2 ≤ r.length
  hi : r.length ≤ 58
  sign : ∀ x ∈ r, 33 ≤ x ∧ x < 127
theorem fmod7 (n : Int) : 0 ≤ n.fmod 7 ∧ n.fmod 7 < 7 := ⟨Int.fmod_nonneg_of_pos n (by decide), Int.fmod_lt_of_pos n (by decide)⟩
theorem alike_ok (P : Int → Bool) : ((List.filter P (rangeInts 0 1 (6 - 0 : Int).toNat)).map (fun a => [48, 79, 111, 73, 108, 49].getD a.toNat (0 : Int))).Sublist [48, 79, 111, 73, 108, 49] := by
  have h : (rangeInts 0 1 (6 - 0 : Int).toNat).map (fun a => [48, 79, 111, 73, 108, 49].getD a.toNat (0 : Int)) = [48, 79, 111, 73, 108, 49] := by decide
  rw [← h]
  exact (List.filter_sublist).map _
theorem ups_mem {n : Nat} (hn : n ≤ 8) : ∀ x ∈ (rangeKs 0 n).map (fun k' => 65 + k'), 65 ≤ x ∧ x < 73 := by
  intro x hx
  obtain ⟨y, hy, rfl⟩ := List.mem_map.mp hx
  obtain ⟨i, hi, rfl⟩ := List.mem_map.mp hy
  have := List.mem_range.mp hi
  omega
theorem rowOk_of {us : List Value} {P : Int → Bool} {many : Int} (h : IntsAre us ((List.filter P (rangeInts 0 1 (6 - 0 : Int).toNat)).map (fun a => [48, 79, 111, 73, 108, 49].getD a.toNat (0 : Int)) ++ (rangeKs 0 (2 + many.fmod 7 - 0).toNat).map (fun k' => 65 + k'))) : ∃ r, IntsAre us r ∧ RowOk r := by
  have hs := alike_ok P
  have hm := fmod7 many
  have hn : (2 + many.fmod 7 - 0).toNat ≤ 8 := by omega
  have hu := ups_mem hn
  refine ⟨_, h, ?_, ?_, ?_, ?_⟩
  · refine List.nodup_append.mpr ⟨hs.nodup (by decide), ?_, ?_⟩
    · refine List.Pairwise.map _ (R := fun a b => a ≠ b) (fun a b hab => by omega) ?_
      exact List.Pairwise.map _ (R := fun a b => a ≠ b) (fun a b hab => by omega) List.nodup_range
    · intro a ha b hb hab
      subst hab
      have h1 := hs.mem ha
      have h2 := hu a hb
      simp only [List.mem_cons, List.not_mem_nil, or_false] at h1
      omega
  · rw [List.length_append, List.length_map, List.length_map, rangeKs_length]; omega
  · rw [List.length_append, List.length_map (as := rangeKs 0 _), rangeKs_length]
    have h3 := hs.length_le
    have h4 : [48, 79, 111, 73, 108, (49 : Int)].length = 6 := rfl
    omega
  · intro x hx
    rcases List.mem_append.mp hx with h1 | h1
    · have h1 := hs.mem h1
      simp only [List.mem_cons, List.not_mem_nil, or_false] at h1
      omega
    · have h2 := hu x h1
      omega
theorem add_room {P : Int → Bool} {many : Int} : ((List.filter P (rangeInts 0 1 (6 - 0 : Int).toNat)).map (fun a => [48, 79, 111, 73, 108, 49].getD a.toNat (0 : Int))).length + ((rangeKs 0 (2 + many.fmod 7 - 0).toNat).map (fun k' => 65 + k')).length ≤ sizeLine := by
  have h3 := (alike_ok P).length_le
  have hm := fmod7 many
  have h4 : [48, 79, 111, 73, 108, (49 : Int)].length = 6 := rfl
  rw [List.length_map (as := rangeKs 0 _), rangeKs_length, sizeLine_eq]
  omega
local macro_rules | `(tactic| walk_at "binaryOp Add ref ref") => `(tactic| (k_here; (with_reducible show wpAny _ _ (binaryOp _ (Value.ref _) (Value.ref _)) _ _ _); k_dflt (refine' kmk_add_ints ?F ?N ?a ?b ?i ?j ?_ ?z; (case F => k_asm); (case N => k_asm); (case a => kmk_list); (case b => kmk_list); (case i => l_ints); (case j => l_ints); (case z => exact add_room)); intro D' ws' h' F' N' l1 hI'; (try (with_reducible obtain ⟨r', hI'', hok'⟩ := rowOk_of hI'; clear hI'; (have hlo1' := hok'.lo); (have hhi1' := hok'.hi))); (try k_lt l1); (try k_sweep)))
theorem rot_ok {r : List Int} (h : RowOk r) (n : Nat) : RowOk (List.drop n r ++ List.take n r) := by
  have p : (List.drop n r ++ List.take n r).Perm r := List.perm_append_comm.trans (by rw [List.take_append_drop])
  exact ⟨p.nodup_iff.mpr h.nodup, p.length_eq ▸ h.lo, p.length_eq ▸ h.hi, fun x hx => h.sign x (p.mem_iff.mp hx)⟩
theorem RowOk.in {r : List Int} (h : RowOk r) : KBa.In r := fun x hx => by have := h.sign x hx; omega
theorem RowOk.room {r : List Int} (h : RowOk r) : r.length ≤ 16777216 := Nat.le_trans h.hi (by decide)
theorem RowOk.signsB {b : Array UInt8} (h : RowOk (KBw.bInts b)) : SignsB b := by
  intro x hx
  have := h.sign (x.toNat : Int) (List.mem_map.mpr ⟨x, hx, rfl⟩)
  omega
local macro_rules | `(tactic| walk_at "call type:bytes") => `(tactic| (k_here; (with_reducible show wpAny _ _ (call (Value.type _) [Value.ref _]) _ _ _); k_dflt (refine' KBa.make_K ?k1 ?k2 ?k3 ?k4 ?k5 ?k6 ?k7 ?_; (case k1 => k_asm); (case k2 => k_asm); (case k3 => exact rfl); (case k4 => kmk_list); (case k5 => assumption); (case k6 => exact RowOk.in (rot_ok (by assumption) _)); (case k7 => exact RowOk.room (rot_ok (by assumption) _))); intro h' t' k' F' N' hin'; (have hbr' := KBa.ints_make hin'); (try k_sweep)))
abbrev btc : Array UInt8 := #[49, 50, 51, 52, 53, 54, 55, 56, 57, 65, 66, 67, 68, 69, 70, 71, 72, 74, 75, 76, 77, 78, 80, 81, 82, 83, 84, 85, 86, 87, 88, 89, 90, 97, 98, 99, 100, 101, 102, 103, 104, 105, 106, 107, 109, 110, 111, 112, 113, 114, 115, 116, 117, 118, 119, 120, 121, 122]
abbrev rip : Array UInt8 := #[114, 112, 115, 104, 110, 97, 102, 51, 57, 119, 66, 85, 68, 78, 69, 71, 72, 74, 75, 76, 77, 52, 80, 81, 82, 83, 84, 55, 86, 87, 88, 89, 90, 50, 98, 99, 100, 101, 67, 103, 54, 53, 106, 107, 109, 56, 111, 70, 113, 105, 49, 116, 117, 118, 65, 120, 121, 122]
theorem RowOk.of {r : List Int} (h1 : r.Nodup) (h2 : (decide (2 ≤ r.length) && decide (r.length ≤ 58) && r.all fun x => decide (33 ≤ x) && decide (x < 127)) = true) : RowOk r := by
  simp only [Bool.and_eq_true, decide_eq_true_eq, List.all_eq_true] at h2
  exact ⟨h1, h2.1.1, h2.1.2, h2.2⟩
theorem btc_ok : RowOk (KBw.bInts btc) := .of (by decide +kernel) (by decide +kernel)
theorem rip_ok : RowOk (KBw.bInts rip) := .of (by decide +kernel) (by decide +kernel)
theorem signs (w : World) (mean) (mg mb) (kind some many turn : Int) (t1 t2 t3 t4 : Tok) :
    Con w mean mg mb 60 [.int kind t1, .int some t2, .int many t3, .int turn t4] [] (fun _ => True) (fun r tl => tl = [] ∧ ∃ b t, r = .bytes b t ∧ RowOk (KBw.bInts b) ∧ (kind = 0 → b = btc) ∧ (kind = 1 → b = rip)) False := by
  unfold Con
  k_fill
  intro dp un gd cn cs a ccd cl outer A₀ base h₀ L m s Q E B F X T GL XB TB hk hdp hun hpre hret hraise
  walk_at "own enter"
  rename_i hg' hL' FG' F' N' B' X' T'
  k_steps
  · refine hret _ [] _ _ (by k_asm) (keep_of (by assumption) (by assumption)) News.nil (by simp) ⟨rfl, _, _, rfl, btc_ok, fun _ => rfl, fun h => absurd h (by omega)⟩
  · refine hret _ [] _ _ (by k_asm) (keep_of (by assumption) (by assumption)) News.nil (by simp) ⟨rfl, _, _, rfl, rip_ok, fun h => absurd h (by omega), fun _ => rfl⟩
  all_goals refine hret _ [] _ _ (by k_asm) (keep_of (by assumption) (by assumption)) News.nil (by simp) ⟨rfl, _, _, rfl, ?_, fun h => absurd h (by assumption), fun h => absurd h (by assumption)⟩
  all_goals (rename KBw.bInts _ = _ => hbr; rw [hbr]; exact rot_ok (by assumption) _)
end

-- MRead
section
set_option maxRecDepth 100000
set_option maxHeartbeats 8000000
open PySem.Calls
/-- refs to lists of ints, what they hold, and their rows on the ledger -/
inductive Inner : List Value → List (List Int) → List (Addr × Obj) → Prop
  | nil : Inner [] [] []
  | cons {a : Addr} {vs : List Value} {k : Nat} {zs : List Int} {ys : List Value} {rd : List (List Int)} {L : List (Addr × Obj)} : IntsAre vs zs → Inner ys rd L → Inner (Value.ref a :: ys) (zs :: rd) ((a, listOf vs.toArray k) :: L)
theorem Inner.snoc {a : Addr} {vs : List Value} {k : Nat} {zs : List Int} {ys : List Value} {rd : List (List Int)} {L : List (Addr × Obj)} (h : Inner ys rd L) (hi : IntsAre vs zs) : Inner (ys ++ [Value.ref a]) (rd ++ [zs]) (L ++ [(a, listOf vs.toArray k)]) := by
  induction h with
  | nil => exact .cons hi .nil
  | cons h1 _ ih => exact .cons h1 ih
theorem Inner.take {ys : List Value} {rd : List (List Int)} {L : List (Addr × Obj)} (h : Inner ys rd L) : ∀ n, Inner (ys.take n) (rd.take n) (L.take n) := by
  induction h with
  | nil => intro n; simp; exact .nil
  | cons h1 _ ih =>
    intro n
    cases n with
    | zero => exact .nil
    | succ n => exact .cons h1 (ih n)
theorem Inner.length {ys : List Value} {rd : List (List Int)} {L : List (Addr × Obj)} (h : Inner ys rd L) : ys.length = rd.length := by
  induction h with
  | nil => rfl
  | cons _ _ ih => simp [ih]
theorem Inner.get {ys : List Value} {rd : List (List Int)} {L : List (Addr × Obj)} (h : Inner ys rd L) : ∀ {i : Nat} {zs : List Int}, rd[i]? = some zs → ∃ a vs k, ys[i]? = some (Value.ref a) ∧ IntsAre vs zs ∧ (a, listOf vs.toArray k) ∈ L := by
  induction h with
  | nil => intro i zs h; simp at h
  | cons h1 _ ih =>
    intro i zs' h
    cases i with
    | zero => simp at h; subst h; exact ⟨_, _, _, rfl, h1, .head _⟩
    | succ i =>
      obtain ⟨a, vs, k, e1, e2, e3⟩ := ih (by simpa using h)
      exact ⟨a, vs, k, by simpa using e1, e2, .tail _ e3⟩
/-- how a comprehension's frame and its list stand -/
structure CS (hb : Heap) (C D : Addr) (its : List Addr) (h : Heap) (m : Str → Option Value) (acc : List Value) (rd : List (List Int)) (L : List (Addr × Obj)) : Prop where
  F : Fr hb C h m
  dl : ∃ k, h.get? D = some (listOf acc.toArray k)
  inn : Inner acc rd L
  new : ∀ p ∈ L, h.get? p.1 = some p.2 ∧ hb.get? p.1 = none ∧ p.1 ≠ C ∧ p.1 ≠ D ∧ p.1 ∉ its
  dC : D ≠ C
  dh : hb.get? D = none
  dI : D ∉ its
  cI : C ∉ its
  nI : ∀ b ∈ its, hb.get? b = none
  eI : ∀ b ∈ its, ∃ o, h.get? b = some o
section
variable {hb h h' : Heap} {C D X : Addr} {its : List Addr} {m m' : Str → Option Value} {acc : List Value} {rd : List (List Int)} {L : List (Addr × Obj)}
theorem ns_keep {h h' : Heap} {C : Addr} {m : Str → Option Value} (hn : h.Ns C m) (hk : ∀ o, h.get? C = some o → h'.get? C = some o) : h'.Ns C m := by
  obtain ⟨oL, a1, a2, hoL, a3⟩ := hn
  exact ⟨oL, a1, a2, hk _ hoL, a3⟩
theorem CS.iter (x : CS hb C D its h m acc rd L) (hX : X ∈ its) (hE : ∃ o, h'.get? X = some o) (hk : ∀ b o, b ≠ X → h.get? b = some o → h'.get? b = some o) : CS hb C D its h' m acc rd L where
  F := ⟨ns_keep x.F.ns fun o e => hk _ o (fun q => x.cI (q ▸ hX)) e, fun b o e => hk b o (fun q => by rw [q, x.nI X hX] at e; cases e) (x.F.keep b o e), x.F.above⟩
  dl := let ⟨k, e⟩ := x.dl; ⟨k, hk _ _ (fun q => x.dI (q ▸ hX)) e⟩
  inn := x.inn
  new := fun p hp => ⟨hk _ _ (fun q => (x.new p hp).2.2.2.2 (q ▸ hX)) (x.new p hp).1, (x.new p hp).2⟩
  dC := x.dC
  dh := x.dh
  dI := x.dI
  cI := x.cI
  nI := x.nI
  eI := fun b hb' => by
    by_cases q : b = X
    · rw [q]; exact hE
    · obtain ⟨o, e⟩ := x.eI b hb'; exact ⟨o, hk b o q e⟩
theorem CS.kept (x : CS hb C D its h m acc rd L) (hk : ∀ b o, h.get? b = some o → h'.get? b = some o) : CS hb C D its h' m acc rd L where
  F := x.F.keptAll hk
  dl := let ⟨k, e⟩ := x.dl; ⟨k, hk _ _ e⟩
  inn := x.inn
  new := fun p hp => ⟨hk _ _ (x.new p hp).1, (x.new p hp).2⟩
  dC := x.dC
  dh := x.dh
  dI := x.dI
  cI := x.cI
  nI := x.nI
  eI := fun b hb' => let ⟨o, e⟩ := x.eI b hb'; ⟨o, hk b o e⟩
theorem CS.store (x : CS hb C D its h m acc rd L) (hn : h'.Ns C m') (hs : Heap.SameBut C h h') : CS hb C D its h' m' acc rd L where
  F := x.F.set hn hs
  dl := let ⟨k, e⟩ := x.dl; ⟨k, hs.extBut _ _ x.dC e⟩
  inn := x.inn
  new := fun p hp => ⟨hs.extBut _ _ (x.new p hp).2.2.1 (x.new p hp).1, (x.new p hp).2⟩
  dC := x.dC
  dh := x.dh
  dI := x.dI
  cI := x.cI
  nI := x.nI
  eI := fun b hb' => let ⟨o, e⟩ := x.eI b hb'; ⟨o, hs.extBut b o (fun q => x.cI (q ▸ hb')) e⟩
theorem CS.none_size (x : CS hb C D its h m acc rd L) {a : Addr} (ha : h.get? a = none) : hb.get? a = none := by
  cases e : hb.get? a with
  | none => rfl
  | some o => rw [x.F.keep _ _ e] at ha; cases ha
theorem CS.more (x : CS hb C D its h m acc rd L) (hk : ∀ b o, h.get? b = some o → h'.get? b = some o) (ha : h.get? X = none) (hE : ∃ o, h'.get? X = some o) : CS hb C D (X :: its) h' m acc rd L := by
  have y := x.kept hk
  refine ⟨y.F, y.dl, y.inn, fun p hp => ⟨(y.new p hp).1, (y.new p hp).2.1, (y.new p hp).2.2.1, (y.new p hp).2.2.2.1, fun hm => ?_⟩, y.dC, y.dh, fun hm => ?_, fun hm => ?_, fun b hb' => ?_, fun b hb' => ?_⟩
  · rcases List.mem_cons.mp hm with q | hm
    · have := (x.new p hp).1; rw [q, ha] at this; cases this
    · exact (y.new p hp).2.2.2.2 hm
  · rcases List.mem_cons.mp hm with q | hm
    · obtain ⟨k, e⟩ := x.dl; rw [q, ha] at e; cases e
    · exact x.dI hm
  · rcases List.mem_cons.mp hm with q | hm
    · obtain ⟨oL, _, _, hoL, _⟩ := x.F.ns; rw [q, ha] at hoL; cases hoL
    · exact x.cI hm
  · rcases List.mem_cons.mp hb' with q | hm
    · exact q ▸ x.none_size ha
    · exact x.nI b hm
  · rcases List.mem_cons.mp hb' with q | hm
    · exact q ▸ hE
    · exact y.eI b hm
theorem CS.fin (x : CS hb C D (X :: its) h m acc rd L) (hX : X ∉ its) (hk : ∀ b o, b ≠ X → h.get? b = some o → h'.get? b = some o) : CS hb C D its h' m acc rd L where
  F := ⟨ns_keep x.F.ns fun o e => hk _ o (fun q => x.cI (q ▸ .head _)) e, fun b o e => hk b o (fun q => by rw [q, x.nI X (.head _)] at e; cases e) (x.F.keep b o e), x.F.above⟩
  dl := let ⟨k, e⟩ := x.dl; ⟨k, hk _ _ (fun q => x.dI (q ▸ .head _)) e⟩
  inn := x.inn
  new := fun p hp => ⟨hk _ _ (fun q => (x.new p hp).2.2.2.2 (q ▸ .head _)) (x.new p hp).1, (x.new p hp).2.1, (x.new p hp).2.2.1, (x.new p hp).2.2.2.1, fun hm => (x.new p hp).2.2.2.2 (.tail _ hm)⟩
  dC := x.dC
  dh := x.dh
  dI := fun hm => x.dI (.tail _ hm)
  cI := fun hm => x.cI (.tail _ hm)
  nI := fun b hm => x.nI b (.tail _ hm)
  eI := fun b hm => let ⟨o, e⟩ := x.eI b (.tail _ hm); ⟨o, hk b o (fun q => hX (q ▸ hm)) e⟩
/-- a new list, appended -/
theorem CS.app {h1 h2 : Heap} {a : Addr} {vs : List Value} {zs : List Int} {k : Nat} (x : CS hb C D its h m acc rd L) (hk : ∀ b o, h.get? b = some o → h1.get? b = some o) (ha : h.get? a = none) (ho : h1.get? a = some (listOf vs.toArray 0)) (hi : IntsAre vs zs)
    (hs : Heap.SameBut D h1 h2) (hd : h2.get? D = some (listOf (acc.toArray.push (.ref a)) k)) : CS hb C D its h2 m (acc ++ [.ref a]) (rd ++ [zs]) (L ++ [(a, listOf vs.toArray 0)]) := by
  have y := x.kept hk
  have haD : a ≠ D := fun q => by obtain ⟨k, e⟩ := x.dl; rw [← q, ha] at e; cases e
  have haC : a ≠ C := fun q => by obtain ⟨oL, _, _, hoL, _⟩ := x.F.ns; rw [← q, ha] at hoL; cases hoL
  refine ⟨?_, ⟨k, by rw [hd]; simp⟩, x.inn.snoc hi, fun p hp => ?_, x.dC, x.dh, x.dI, x.cI, x.nI, fun b hb' => let ⟨o, e⟩ := y.eI b hb'; ⟨o, hs.extBut b o (fun q => x.dI (q ▸ hb')) e⟩⟩
  · exact y.F.change hs x.dC x.dh
  · rcases List.mem_append.mp hp with hp | hp
    · exact ⟨hs.extBut _ _ (y.new p hp).2.2.2.1 (y.new p hp).1, (y.new p hp).2⟩
    · rw [List.mem_singleton.mp hp]
      refine ⟨hs.extBut _ _ haD ho, x.none_size ha, haC, haD, fun hm => ?_⟩
      obtain ⟨o, e⟩ := x.eI a hm
      rw [ha] at e; cases e
end
section
variable {prog : Program} {w : World} {A : Around} {E : Value → Shared → Prop} {s : Shared} {env : Env} {scope : Scope} {cl : List (Str × Addr)}
theorem add_raw {a b : Addr} {vs ws : List Value} {ka kb : Nat} {Q : Value → Shared → Prop} (ha : s.heap.get? a = some (listOf vs.toArray ka)) (hb : s.heap.get? b = some (listOf ws.toArray kb)) (hz : vs.length + ws.length ≤ sizeLine)
    (h : Q (.ref s.heap.objs.size) { s with heap := s.heap.push (listOf (vs ++ ws).toArray 0) }) : wpAny (model prog w) A (binaryOp .Add (.ref a) (.ref b)) Q E s := by
  have e : vs.toArray ++ ws.toArray = (vs ++ ws).toArray := by simp
  refine concat_meets ⟨_, ha, rfl⟩ ⟨_, hb, rfl⟩ noFill_list_add seq_list_add PySem.F.slot_list_add PySem.F.entry_list_add (PySem.F.args_list_add_2 _ _) (list_addW a b vs.toArray ws.toArray ka kb none none #[] #[] (by simpa using hz)) ⟨ha, hb, ?_⟩
  rw [e]
  exact h
theorem ints_app {vs : List Value} {ns : List Int} (h : IntsAre vs ns) {ws : List Value} {ms : List Int} (h2 : IntsAre ws ms) : IntsAre (vs ++ ws) (ns ++ ms) := by
  induction h with
  | nil => exact h2
  | cons a b _ ih => exact .cons a b ih
theorem elt_cat {C a : Addr} {m : Str → Option Value} {x y : Str} {p1 p2 p3 p4 : Pos} {vs : List Value} {zs : List Int} {ka : Nat} {k : Int} {t : Tok} {Q : Value → Shared → Prop} (hk : scope.kind = .function) (hlx : scope.names.lookup x = some .local) (hly : scope.names.lookup y = some .local)
    (hdx : (x == ("__debug__" : Str)) = false) (hdy : (y == ("__debug__" : Str)) = false) (hn : s.heap.Ns C m) (hx : m x = some (.ref a)) (hy : m y = some (.int k t)) (ha : s.heap.get? a = some (listOf vs.toArray ka)) (hi : IntsAre vs zs) (hz : zs.length ≤ 100)
    (h : ∀ h' b us, (∀ c o, s.heap.get? c = some o → h'.get? c = some o) → s.heap.get? b = none → h'.get? b = some (listOf us.toArray 0) → IntsAre us (zs ++ [k]) → Q (.ref b) { s with heap := h' }) :
    wpAny (model prog w) A (eval (.BinOp (.Name x p1) .Add (.List [.Name y p2] p3) p4) (compEnvC scope cl C env)) Q E s := by
  have fresh : ∀ b, s.heap.objs.size ≤ b → s.heap.get? b = none := fun b hb => by
    cases e : s.heap.get? b with
    | none => rfl
    | some o' => exact absurd (Heap.lt_size e) (Nat.not_lt.mpr hb)
  refine wpAny_BinOp (leaf_name hk hlx hdx hn hx (wpAny_List (spliced_more (leaf_name hk hly hdy hn hy (spliced_none ⟨Nat.le_of_ble_eq_true rfl, ?_⟩)))))
  refine add_raw (vs := vs) (ws := [.int k t]) (ka := ka) (kb := 0) (Heap.get?_push_of_some _ ha) (Heap.get?_push_size _ rfl) ?_ ?_
  · rw [sizeLine_eq, hi.length]; simp; omega
  · refine h _ _ _ (fun c o e => Heap.get?_push_of_some _ (Heap.get?_push_of_some _ e)) (fresh _ ?_) (Heap.get?_push_size _ rfl) (ints_app hi (.cons k t .nil))
    rw [Heap.size_push]; exact Nat.le_succ _
theorem compTurn_in (elt ta tb i1 i2 : PySem.Expr) (scope : Scope) (pos : Pos) (it acc : Value) (env : Env) :
    compTurn (.ListComp elt [⟨ta, i1, [], 0⟩, ⟨tb, i2, [], 0⟩] scope pos) 1 it acc env = (standAt i2.pos >>= fun _ => pyNext it >>= fun r => match r with
      | none => pure (.done .next)
      | some v => letOwnedTupleGo tb it v >>= fun _ => assign tb env v >>= fun _ =>
        (eval elt env >>= fun x => call (.builtin "list.append") [acc, x] >>= fun _ => pure ()) >>= fun _ =>
          again (.compLoop (.ListComp elt [⟨ta, i1, [], 0⟩, ⟨tb, i2, [], 0⟩] scope pos) 1 it acc env)) := by rfl
theorem compTurn_out (elt ta tb i1 i2 : PySem.Expr) (scope : Scope) (pos : Pos) (it acc : Value) (env : Env) :
    compTurn (.ListComp elt [⟨ta, i1, [], 0⟩, ⟨tb, i2, [], 0⟩] scope pos) 0 it acc env = (standAt i1.pos >>= fun _ => pyNext it >>= fun r => match r with
      | none => pure (.done .next)
      | some v => letOwnedTupleGo ta it v >>= fun _ => assign ta env v >>= fun _ =>
        (eval i2 env >>= fun x => standAt i2.pos >>= fun _ => foldedSetIterable i2 env x >>= fun x => holding [x] (pyIter x) >>= fun it' =>
          runOwn (.compStart (.ListComp elt [⟨ta, i1, [], 0⟩, ⟨tb, i2, [], 0⟩] scope pos) 1 it' acc env) env >>= fun _ =>
          again (.compLoop (.ListComp elt [⟨ta, i1, [], 0⟩, ⟨tb, i2, [], 0⟩] scope pos) 0 it acc env))) := by rfl
/-- the inner loop: for y in found, one + [y] -/
theorem loop_in {R : Result → Shared → Prop} {hb : Heap} {C D I1 a Fd : Addr} {its : List Addr} {x y : Str} {px py p1 p2 p3 p4 pos : Pos} {i1 i2 : PySem.Expr} {avs : List Value} {zs fd : List Int} {fv : List Value} {ka kf : Nat}
    (hh : A.handled = none) (hk : scope.kind = .function) (hlx : scope.names.lookup x = some .local) (hly : scope.names.lookup y = some .local) (hxy : x ≠ y) (hdx : (x == ("__debug__" : Str)) = false) (hdy : (y == ("__debug__" : Str)) = false)
    (ha : hb.get? a = some (listOf avs.toArray ka)) (hai : IntsAre avs zs) (hz : zs.length ≤ 100) (hf : hb.get? Fd = some (listOf fv.toArray kf)) (hfi : IntsAre fv fd) (hI : I1 ∉ its) :
    ∀ (k j : Nat) (s : Shared) (m : Str → Option Value) (acc : List Value) (rd : List (List Int)) (L : List (Addr × Obj)), fd.length - j = k → j ≤ fd.length → rd.length + fd.length ≤ 100 + j → CS hb C D (I1 :: its) s.heap m acc rd L → m x = some (.ref a) → s.heap.IsListIter I1 Fd j →
      (∀ h' tk' m' acc' L', CS hb C D its h' m' acc' (rd ++ (fd.drop j).map fun y => zs ++ [y]) L' → (∀ b o, b ≠ C → b ≠ D → b ≠ I1 → s.heap.get? b = some o → h'.get? b = some o) → R (.ok .next) { s with heap := h', toks := tk' }) →
      codeAny (model prog w) A (.compLoop (.ListComp (.BinOp (.Name x p1) .Add (.List [.Name y p2] p3) p4) [⟨.Name x px, i1, [], 0⟩, ⟨.Name y py, i2, [], 0⟩] scope pos) 1 (.ref I1) (.ref D) (compEnvC scope cl C env)) R s := by
  have hflen : fv.length = fd.length := hfi.length
  intro k
  induction k with
  | zero =>
    intro j s m acc rd L hkk hj hroom x₁ hmx hit hR
    have hjn : j = fd.length := by omega
    subst hjn
    refine codeAny_of_tree ?_
    show wpAny _ A ((compTurn _ 1 (.ref I1) (.ref D) _).onRaise (fun x => do noteFrame x _; theTreesLotGoes x)) _ _ s
    refine wpAny_noted ?_
    rw [compTurn_in]
    refine wpAny_bind (wpAny_standAt (wpAny_bind ?_))
    have hl : s.heap.IsList Fd fv.toArray := ⟨_, x₁.F.keep _ _ hf, rfl, _, rfl⟩
    refine wpAny_pyNext_list_end hh hit hl (by simp [hflen]) fun h' he => ?_
    refine wpAny_pure ?_
    refine hR h' s.toks m acc L ?_ fun b o _ _ hb' e => he b o hb' e
    rw [List.drop_length, List.map_nil, List.append_nil]
    exact x₁.fin hI he
  | succ k ih =>
    intro j s m acc rd L hkk hj hroom x₁ hmx hit hR
    have hlt : j < fd.length := by omega
    obtain ⟨v, hv⟩ : ∃ v, fv[j]? = some v := ⟨fv[j]'(by omega), List.getElem?_eq_getElem (by omega)⟩
    obtain ⟨n, t, rfl, hn⟩ := IntsAre.at hfi j v hv
    refine codeAny_of_tree ?_
    show wpAny _ A ((compTurn _ 1 (.ref I1) (.ref D) _).onRaise (fun x => do noteFrame x _; theTreesLotGoes x)) _ _ s
    refine wpAny_noted ?_
    rw [compTurn_in]
    refine wpAny_bind (wpAny_standAt (wpAny_bind ?_))
    have hl : s.heap.IsList Fd fv.toArray := ⟨_, x₁.F.keep _ _ hf, rfl, _, rfl⟩
    refine wpAny_pyNext_list_item (x := .int n t) hit hl (by simpa using hv) fun h₁ hit₁ hs₁ => ?_
    have x₂ := x₁.iter (h' := h₁) (.head _) (let ⟨o, e, _⟩ := hit₁; ⟨o, e⟩) fun b o hb' e => hs₁.extBut b o hb' e
    refine wpAny_bind (wpAny_of_eq (a := ()) rfl ?_)
    refine wpAny_bind (wpAny_assign_Name (wpAny_storeName_local (lookup_relabel_local hly) x₂.F.ns (fun h₂ hn₂ hs₂ => ?_) (by simp [compEnvC, relabel, hk])))
    have x₃ := x₂.store hn₂ hs₂
    have hCI : C ≠ I1 := fun q => x₁.cI (q ▸ .head _)
    refine wpAny_bind (wpAny_bind (elt_cat hk hlx hly hdx hdy hn₂ (a := a) (vs := avs) (zs := zs) (ka := ka) (k := n) (t := t) (by simp [hxy, hmx]) (by simp) (x₃.F.keep _ _ ha) hai hz fun h₃ b us hk₃ hb₃ ho₃ hi₃ => ?_))
    obtain ⟨kD, hD⟩ := x₃.dl
    have hDk : h₃.get? D = some (listOf acc.toArray kD) := hk₃ _ _ hD
    have hal : acc.length = rd.length := x₃.inn.length
    refine wpAny_bind (append_at (hsz := by rw [List.size_toArray, sizeLine_eq]; omega) hDk fun h₄ hs₄ hd₄ => ?_)
    have x₄ := x₃.app hk₃ hb₃ ho₃ hi₃ hs₄ hd₄
    refine wpAny_pure (wpAny_pure ⟨rfl, ?_⟩)
    have hit₄ : h₄.IsListIter I1 Fd (j + 1) := by
      obtain ⟨o, e, r⟩ := hit₁
      exact ⟨o, hs₄.extBut _ _ (fun q => x₁.dI (q ▸ .head _)) (hk₃ _ _ (hs₂.extBut _ _ (Ne.symm hCI) e)), r⟩
    refine ih (j + 1) { s with heap := h₄, toks := s.toks + 1 } _ _ (rd ++ [zs ++ [n]]) _ (by omega) hlt (by rw [List.length_append]; simp; omega) x₄ (by simp [hxy, hmx]) hit₄ fun h' tk' m' acc' L' x' hk' => ?_
    refine hR h' tk' m' acc' L' ?_ fun b o h1 h2 h3 e => hk' b o h1 h2 h3 (hs₄.extBut _ _ h2 (hk₃ _ _ (hs₂.extBut _ _ h1 (hs₁.extBut _ _ h3 e))))
    have hdj : fd.drop j = n :: fd.drop (j + 1) := by
      rw [List.drop_eq_getElem_cons hlt]
      congr 1
      exact Option.some.inj ((List.getElem?_eq_getElem hlt).symm.trans hn)
    rw [hdj, List.map_cons]
    rw [List.append_assoc] at x'
    exact x'
theorem start_in {elt ta tb i1 i2 : PySem.Expr} {pos : Pos} {it acc : Value} {R : Result → Shared → Prop}
    (h0 : codeAny (model prog w) A (.compLoop (.ListComp elt [⟨ta, i1, [], 0⟩, ⟨tb, i2, [], 0⟩] scope pos) 1 it acc env) R s)
    (h : wpAny (model prog w) A (pyIter it) (fun it' s' => codeAny (model prog w) A (.compLoop (.ListComp elt [⟨ta, i1, [], 0⟩, ⟨tb, i2, [], 0⟩] scope pos) 1 it' acc env) R s')
      (notedBy (model prog w) A env fun x s' => R (.error x) s') s) :
    codeAny (model prog w) A (.compStart (.ListComp elt [⟨ta, i1, [], 0⟩, ⟨tb, i2, [], 0⟩] scope pos) 1 it acc env) R s := by
  refine codeAny_of_tree ?_
  show wpAny _ _ ((compStart (.ListComp elt [⟨ta, i1, [], 0⟩, ⟨tb, i2, [], 0⟩] scope pos) 1 it acc env).onRaise (fun x => do noteFrame x env; standAt theWindowsPlace)) _ _ s
  refine wpAny_notedAt ?_
  unfold compStart
  show wpAny _ _ (ask >>= _) _ _ s
  refine wpAny_bind (wpAny_askSetting (wpAny_ite ?_))
  split
  · first
      | exact wpAny_bind (wpAny_pure (wpAny_pure (And.intro rfl h0)))
      | exact wpAny_pure (And.intro rfl h0)
  · first
      | exact wpAny_bind (wpAny_rule (wpAny_bind (wpAny_standAt (wpAny_bind (wpAny_mono h (fun it' s' h' => wpAny_pure (And.intro rfl h')) fun _ _ x => x)))))
      | (refine wpAny_bind (wpAny_rule ?_); show wpAny _ _ (standAt i2.pos >>= _) _ _ s; exact wpAny_bind (wpAny_standAt (wpAny_bind (wpAny_mono h (fun it' s' h' => wpAny_pure (And.intro rfl h')) fun _ _ x => x))))
def pairs (rd : List (List Int)) (fd : List Int) : List (List Int) := rd.flatMap fun one => fd.map fun y => one ++ [y]
theorem pairs_len (rd : List (List Int)) (fd : List Int) : (pairs rd fd).length = rd.length * fd.length := by
  induction rd with
  | nil => simp [pairs]
  | cons a r ih =>
    have : pairs (a :: r) fd = (fd.map fun y => a ++ [y]) ++ pairs r fd := rfl
    rw [this, List.length_append, ih, List.length_map, List.length_cons, Nat.add_mul]
    omega
/-- the outer loop -/
theorem loop_out {R : Result → Shared → Prop} {hb : Heap} {C D I0 Rl Fd c : Addr} {x y z : Str} {px py pz p1 p2 p3 p4 pos : Pos} {i1 : PySem.Expr} {ys : List Value} {rd : List (List Int)} {IL : List (Addr × Obj)} {fd : List Int} {fv : List Value} {kR kf : Nat}
    (hh : A.handled = none) (hk : scope.kind = .function) (hlx : scope.names.lookup x = some .local) (hly : scope.names.lookup y = some .local) (hxy : x ≠ y) (hdx : (x == ("__debug__" : Str)) = false) (hdy : (y == ("__debug__" : Str)) = false)
    (hkz : ∀ C, (compEnvC scope cl C env).kindOf z = some .cell) (hcz : cl.lookup z = some c) (hdz : (z == ("__debug__" : Str)) = false)
    (hR0 : hb.get? Rl = some (listOf ys.toArray kR)) (hin : Inner ys rd IL) (hIL : ∀ p ∈ IL, hb.get? p.1 = some p.2) (hz : ∀ zs ∈ rd, zs.length ≤ 100) (hrd : rd.length ≤ 4) (hfl : fd.length ≤ 4)
    (hf : hb.get? Fd = some (listOf fv.toArray kf)) (hfi : IntsAre fv fd) (hc : hb.IsCell c (some (.ref Fd))) :
    ∀ (k i : Nat) (s : Shared) (m : Str → Option Value) (acc : List Value) (L : List (Addr × Obj)), rd.length - i = k → i ≤ rd.length → CS hb C D [I0] s.heap m acc (pairs (rd.take i) fd) L → s.heap.IsListIter I0 Rl i →
      (∀ h' tk' m' acc' L', CS hb C D [] h' m' acc' (pairs rd fd) L' → R (.ok .next) { s with heap := h', toks := tk' }) →
      codeAny (model prog w) A (.compLoop (.ListComp (.BinOp (.Name x p1) .Add (.List [.Name y p2] p3) p4) [⟨.Name x px, i1, [], 0⟩, ⟨.Name y py, .Name z pz, [], 0⟩] scope pos) 0 (.ref I0) (.ref D) (compEnvC scope cl C env)) R s := by
  have hylen : ys.length = rd.length := hin.length
  intro k
  induction k with
  | zero =>
    intro i s m acc L hkk hi x₁ hit hR
    have hin' : i = rd.length := by omega
    subst hin'
    refine codeAny_of_tree ?_
    show wpAny _ A ((compTurn _ 0 (.ref I0) (.ref D) _).onRaise (fun x => do noteFrame x _; theTreesLotGoes x)) _ _ s
    refine wpAny_noted ?_
    rw [compTurn_out]
    refine wpAny_bind (wpAny_standAt (wpAny_bind ?_))
    have hl : s.heap.IsList Rl ys.toArray := ⟨_, x₁.F.keep _ _ hR0, rfl, _, rfl⟩
    refine wpAny_pyNext_list_end hh hit hl (by simp [hylen]) fun h' he => ?_
    refine wpAny_pure ?_
    rw [List.take_length] at x₁
    exact hR h' s.toks m acc L (x₁.fin (by simp) he)
  | succ k ih =>
    intro i s m acc L hkk hi x₁ hit hR
    have hlt : i < rd.length := by omega
    obtain ⟨zs, hzs⟩ : ∃ zs, rd[i]? = some zs := ⟨rd[i]'hlt, List.getElem?_eq_getElem hlt⟩
    obtain ⟨a, avs, ka, hya, hai, haL⟩ := hin.get hzs
    refine codeAny_of_tree ?_
    show wpAny _ A ((compTurn _ 0 (.ref I0) (.ref D) _).onRaise (fun x => do noteFrame x _; theTreesLotGoes x)) _ _ s
    refine wpAny_noted ?_
    rw [compTurn_out]
    refine wpAny_bind (wpAny_standAt (wpAny_bind ?_))
    have hl : s.heap.IsList Rl ys.toArray := ⟨_, x₁.F.keep _ _ hR0, rfl, _, rfl⟩
    refine wpAny_pyNext_list_item (x := .ref a) hit hl (by simpa using hya) fun h₁ hit₁ hs₁ => ?_
    have x₂ := x₁.iter (h' := h₁) (.head _) (let ⟨o, e, _⟩ := hit₁; ⟨o, e⟩) fun b o hb' e => hs₁.extBut b o hb' e
    refine wpAny_bind (wpAny_of_eq (a := ()) rfl ?_)
    refine wpAny_bind (wpAny_assign_Name (wpAny_storeName_local (lookup_relabel_local hlx) x₂.F.ns (fun h₂ hn₂ hs₂ => ?_) (by simp [compEnvC, relabel, hk])))
    have x₃ := x₂.store hn₂ hs₂
    have hCI : C ≠ I0 := fun q => x₁.cI (q ▸ .head _)
    have hcell : h₂.IsCell c (some (.ref Fd)) := by
      obtain ⟨o, e, r⟩ := hc
      exact ⟨o, x₃.F.keep _ _ e, r⟩
    refine wpAny_bind (leaf_cell hk (hkz C) hcz hdz hcell ?_)
    refine wpAny_bind (wpAny_standAt (wpAny_bind (wpAny_of_eq (a := Value.ref Fd) rfl ?_)))
    have hFd₂ : h₂.get? Fd = some (listOf fv.toArray kf) := x₃.F.keep _ _ hf
    have hlF : h₂.IsList Fd fv.toArray := ⟨_, hFd₂, rfl, _, rfl⟩
    refine wpAny_bind (wpAny_holding (wpAny_pyIter_list hlF ?_))
    have none₂ : h₂.get? h₂.objs.size = none := by
      cases e : h₂.get? h₂.objs.size with
      | none => rfl
      | some o' => exact absurd (Heap.lt_size e) (Nat.lt_irrefl _)
    have x₄ := x₃.more (X := h₂.objs.size) (h' := h₂.push { cls := .type "list_iterator", data := .fields #[.ref Fd, .int 0 0] }) (fun b o e => Heap.get?_push_of_some _ e) none₂ ⟨_, Heap.get?_push_size _ rfl⟩
    have hit₂ : h₂.get? I0 = some _ := hs₂.extBut _ _ (Ne.symm hCI) hit₁.choose_spec.1
    have hI0 : h₂.objs.size ∉ [I0] := fun hm => by
      rw [List.mem_singleton] at hm
      rw [hm] at none₂
      rw [none₂] at hit₂; cases hit₂
    have hzl : zs.length ≤ 100 := hz _ (List.mem_of_getElem? hzs)
    have hpl := pairs_len (rd.take i) fd
    have hbd : (rd.take i).length * fd.length ≤ 4 * 4 := Nat.mul_le_mul (by rw [List.length_take]; omega) hfl
    have inner : ∀ (R' : Result → Shared → Prop) (s₅ : Shared), s₅.heap = h₂.push { cls := .type "list_iterator", data := .fields #[.ref Fd, .int 0 0] } →
        (∀ h' tk' m' acc' L', CS hb C D [I0] h' m' acc' (pairs (rd.take (i + 1)) fd) L' → h'.IsListIter I0 Rl (i + 1) → R' (.ok .next) { s₅ with heap := h', toks := tk' }) →
        codeAny (model prog w) A (.compLoop (.ListComp (.BinOp (.Name x p1) .Add (.List [.Name y p2] p3) p4) [⟨.Name x px, i1, [], 0⟩, ⟨.Name y py, .Name z pz, [], 0⟩] scope pos) 1 (.ref h₂.objs.size) (.ref D) (compEnvC scope cl C env)) R' s₅ := by
      rintro R' ⟨hp, gn, dr, tk5, os5⟩ rfl hR'
      refine loop_in (its := [I0]) (a := a) (avs := avs) (zs := zs) (ka := ka) (fd := fd) (fv := fv) (kf := kf) (Fd := Fd) hh hk hlx hly hxy hdx hdy (hIL _ haL) hai hzl hf hfi hI0 fd.length 0 _ _ _ _ _ rfl (Nat.zero_le _) ?_ x₄ (by simp) ⟨_, Heap.get?_push_size _ rfl, rfl, rfl⟩ fun h' tk' m' acc' L' x' hk' => ?_
      · rw [hpl]; omega
      · refine hR' h' tk' m' acc' L' ?_ ?_
        · have e : pairs (rd.take (i + 1)) fd = pairs (rd.take i) fd ++ (fd.drop 0).map fun y => zs ++ [y] := by
            unfold pairs
            rw [List.take_add_one, hzs, List.flatMap_append]
            simp
          rw [e]
          exact x'
        · obtain ⟨o, e, r⟩ := hit₁
          exact ⟨o, hk' _ _ (Ne.symm hCI) (fun q => x₁.dI (q ▸ .head _)) (fun q => hI0 (by simp [q])) (Heap.get?_push_of_some _ (hs₂.extBut _ _ (Ne.symm hCI) e)), r⟩
    refine wpAny_bind (wpAny_runOwn (h := none) ?_)
    refine start_in (inner _ _ rfl ?_) (wpAny_pyIter_listiter (l := Fd) (i := 0) ⟨_, Heap.get?_push_size _ rfl, rfl, rfl⟩ (inner _ _ rfl ?_))
    all_goals
      intro h' tk' m' acc' L' x' hit'
      refine wpAny_pure ⟨rfl, ?_⟩
      exact ih (i + 1) _ m' acc' L' (by omega) hlt x' hit' fun h'' tk'' m'' acc'' L'' x'' => hR h'' tk'' m'' acc'' L'' x''
theorem news_off {h₀ h : Heap} {L : Addr} {led X : List (Addr × Obj)} (N : News h₀ L h led) (hX : ∀ p ∈ X, h.get? p.1 = none) : ∀ p ∈ X, ∀ q ∈ led, q.1 ≠ p.1 := fun p hp q hq e => by
  have h1 := (N q hq).1
  rw [e, hX p hp] at h1
  cases h1
/-- what [one + [y] for one in readings for y in found] wants -/
def Comp2At (h₀ : Heap) (L : Addr) (m : Str → Option Value) (news : List (Addr × Obj)) (cl : List (Str × Addr)) (z : Str) (Q : Value → Shared → Prop) (xv : Value) (s₁ : Shared) : Prop :=
  ∃ Rl ys kR rd IL fd fv kf Fd c, xv = .ref Rl ∧ Fr h₀ L s₁.heap m ∧ News h₀ L s₁.heap news ∧ (Rl, listOf (List.toArray ys) kR) ∈ news ∧ Inner ys rd IL ∧ (∀ p ∈ IL, p ∈ news) ∧ (∀ zs ∈ rd, zs.length ≤ 100) ∧ rd.length ≤ 4 ∧ fd.length ≤ 4 ∧
    (Fd, listOf (List.toArray fv) kf) ∈ news ∧ IntsAre fv fd ∧ cl.lookup z = some c ∧ s₁.heap.IsCell c (some (.ref Fd)) ∧
    ∀ D acc k L' h' tk, Fr h₀ L h' m → News h₀ L h' ((D, listOf (List.toArray acc) k) :: (L' ++ news)) → (∀ p ∈ (D, listOf (List.toArray acc) k) :: L', ∀ q ∈ news, q.1 ≠ p.1) → Inner acc (pairs rd fd) L' → Q (.ref D) { s₁ with heap := h', toks := tk }
theorem ListComp2 {h₀ : Heap} {L : Addr} {m : Str → Option Value} {news : List (Addr × Obj)} {x y z : Str} {px py pz p1 p2 p3 p4 pos : Pos} {i1 : PySem.Expr} {Q : Value → Shared → Prop}
    (_F : Fr h₀ L s.heap m) (_N : News h₀ L s.heap news) (hh : A.handled = none) (hclos : closureFor scope env = pure cl) (hcell : ∀ y ∈ scope.names, y.2 ≠ .cell) (hk : scope.kind = .function)
    (hnames : ∀ y ∈ scope.names, y.2 = .local → scope.names.lookup y.1 = some .local) (hlx : scope.names.lookup x = some .local) (hly : scope.names.lookup y = some .local) (hxy : x ≠ y) (hdx : (x == ("__debug__" : Str)) = false) (hdy : (y == ("__debug__" : Str)) = false)
    (hkz : ∀ C, (compEnvC scope cl C env).kindOf z = some .cell) (hdz : (z == ("__debug__" : Str)) = false) (hs : ∀ x, foldedSetIterable i1 env x = pure x)
    (h : wpAny (model prog w) A (eval i1 env) (Comp2At h₀ L m news cl z Q) E s) :
    wpAny (model prog w) A (eval (.ListComp (.BinOp (.Name x p1) .Add (.List [.Name y p2] p3) p4) [⟨.Name x px, i1, [], 0⟩, ⟨.Name y py, .Name z pz, [], 0⟩] scope pos) env) Q E s := by
  rw [eval_ListComp]
  refine wpAny_comprehension_free (use := none) rfl hs hclos hk hnames (wpAny_mono h (fun xv s₁ h₁ => ?_) fun _ _ e => e)
  obtain ⟨Rl, ys, kR, rd, IL, fd, fv, kf, Fd, c, rfl, F, N, hRm, hin, hIL, hz, hrd, hfl, hFm, hfi, hcz, hc, hQ⟩ := h₁
  have hR0 := (N _ hRm).1
  have hlR : s₁.heap.IsList Rl ys.toArray := ⟨_, hR0, rfl, _, rfl⟩
  refine wpAny_pyIter_list hlR ?_
  refine wpAny_newObj_type (wpAny_newFunctionEnv hcell (by intro y hy; simp at hy) (fun h₁ hns₁ hsb₁ => ?_) hk)
  dsimp only at hns₁ hsb₁ ⊢
  generalize hH1 : s₁.heap.push { cls := .type "list_iterator", data := .fields #[.ref Rl, .int 0 0] } = H1 at hns₁ hsb₁ ⊢
  generalize hH2 : H1.push { cls := .type "list", dict := none, data := .seq ([] : List Value).toArray } = H2 at hns₁ hsb₁ ⊢
  have s1 : H1.objs.size = s₁.heap.objs.size + 1 := by rw [← hH1, Heap.size_push]
  have s2 : H2.objs.size = s₁.heap.objs.size + 1 + 1 := by rw [← hH2, Heap.size_push, s1]
  have hDC : H1.objs.size ≠ H2.objs.size := by rw [s1, s2]; exact Nat.ne_of_lt (Nat.lt_succ_self _)
  have fresh : ∀ a, s₁.heap.objs.size ≤ a → s₁.heap.get? a = none := fun a ha => by
    cases e : s₁.heap.get? a with
    | none => rfl
    | some o' => exact absurd (Heap.lt_size e) (Nat.not_lt.mpr ha)
  have up1 : ∀ b o, s₁.heap.get? b = some o → H1.get? b = some o := fun b o e => hH1 ▸ Heap.get?_push_of_some _ e
  have up2 : ∀ b o, H1.get? b = some o → H2.get? b = some o := fun b o e => hH2 ▸ Heap.get?_push_of_some _ e
  have old2 : ∀ b o, s₁.heap.get? b = some o → H2.get? b = some o := fun b o e => up2 b o (up1 b o e)
  have old : ∀ b o, s₁.heap.get? b = some o → h₁.get? b = some o := fun b o e => hsb₁.extBut b o (by rw [s2]; exact Nat.ne_of_lt (Nat.lt_succ_of_lt (Nat.lt_succ_of_lt (Heap.lt_size e)))) (Heap.get?_push_of_some _ (old2 b o e))
  have hI0 : H1.get? s₁.heap.objs.size = some { cls := .type "list_iterator", data := .fields #[.ref Rl, .int 0 0] } := hH1 ▸ Heap.get?_push_size _ rfl
  have hIC : s₁.heap.objs.size ≠ H2.objs.size := by rw [s2]; exact Nat.ne_of_lt (Nat.lt_succ_of_lt (Nat.lt_succ_self _))
  have hI1 : h₁.get? s₁.heap.objs.size = some { cls := .type "list_iterator", data := .fields #[.ref Rl, .int 0 0] } := hsb₁.extBut _ _ hIC (Heap.get?_push_of_some _ (up2 _ _ hI0))
  have hD2 : H2.get? H1.objs.size = some { cls := .type "list", dict := none, data := .seq ([] : List Value).toArray } := hH2 ▸ Heap.get?_push_size _ rfl
  have hD1 : h₁.get? H1.objs.size = some { cls := .type "list", dict := none, data := .seq ([] : List Value).toArray } := hsb₁.extBut _ _ hDC (Heap.get?_push_of_some _ hD2)
  have c0 : CS s₁.heap H2.objs.size H1.objs.size [s₁.heap.objs.size] h₁ (fun x => ([] : List (Str × Value)).reverse.lookup x) [] (pairs (rd.take 0) fd) [] := by
    refine ⟨⟨hns₁, old, by rw [s2]; exact Nat.le_succ_of_le (Nat.le_succ _)⟩, ⟨0, hD1⟩, .nil, fun p hp => (by cases hp), hDC, fresh _ (by rw [s1]; exact Nat.le_succ _), ?_, ?_, ?_, ?_⟩
    · intro hm; rw [List.mem_singleton, s1] at hm; exact absurd hm (Nat.ne_of_gt (Nat.lt_succ_self _))
    · intro hm; rw [List.mem_singleton] at hm; exact hIC hm.symm
    · intro b hb; rw [List.mem_singleton.mp hb]; exact fresh _ (Nat.le_refl _)
    · intro b hb; rw [List.mem_singleton.mp hb]; exact ⟨_, hI1⟩
  have loop : ∀ s₃ : Shared, s₃ = { s₁ with heap := h₁, toks := s₁.toks + ([] : List (Str × Value)).length } →
      codeAny (model prog w) A (.compLoop (.ListComp (.BinOp (.Name x p1) .Add (.List [.Name y p2] p3) p4) [⟨.Name x px, i1, [], 0⟩, ⟨.Name y py, .Name z pz, [], 0⟩] scope pos) 0 (.ref s₁.heap.objs.size) (.ref H1.objs.size) (compEnvC scope cl H2.objs.size env))
        (compPost (model prog w) A E none Q (.ref H1.objs.size) H2.objs.size) s₃ := by
    rintro s₃ rfl
    refine loop_out hh hk hlx hly hxy hdx hdy hkz hcz hdz hR0 hin (fun p hp => (N p (hIL p hp)).1) hz hrd hfl (N _ hFm).1 hfi hc rd.length 0 _ _ _ _ rfl (Nat.zero_le _) c0 ⟨_, hI1, rfl, rfl⟩ fun h' tk' m' acc' L' x' => ?_
    refine ⟨m', x'.F.ns, fun h'' hs'' => ?_⟩
    obtain ⟨kD, hD⟩ := x'.dl
    have keep : ∀ b o, s₁.heap.get? b = some o → h''.get? b = some o := fun b o e => hs''.extBut b o (by rw [s2]; exact Nat.ne_of_lt (Nat.lt_succ_of_lt (Nat.lt_succ_of_lt (Heap.lt_size e)))) (x'.F.keep b o e)
    have new : ∀ p ∈ (H1.objs.size, listOf acc'.toArray kD) :: L', h''.get? p.1 = some p.2 ∧ s₁.heap.get? p.1 = none := by
      intro p hp
      rcases List.mem_cons.mp hp with rfl | hp
      · exact ⟨hs''.extBut _ _ hDC hD, x'.dh⟩
      · exact ⟨hs''.extBut _ _ (x'.new p hp).2.2.1 (x'.new p hp).1, (x'.new p hp).2.1⟩
    have none0 : ∀ a, s₁.heap.get? a = none → h₀.get? a = none := fun a ha => by
      cases e : h₀.get? a with
      | none => rfl
      | some o => rw [F.keep _ _ e] at ha; cases ha
    have neL : ∀ a, s₁.heap.get? a = none → a ≠ L := fun a ha q => by
      obtain ⟨oL, _, _, hoL, _⟩ := F.ns
      rw [q, hoL] at ha; cases ha
    refine hQ _ acc' kD L' h'' tk' (F.keeps keep) (fun p hp => ?_) (news_off N fun p hp => (new p hp).2) x'.inn
    rw [← List.cons_append] at hp
    rcases List.mem_append.mp hp with hp | hp
    · exact ⟨(new p hp).1, neL _ (new p hp).2, none0 _ (new p hp).2⟩
    · exact N.grown keep p hp
  exact codeAny_compStart_list (loop _ rfl) (wpAny_pyIter_listiter (l := Rl) (i := 0) ⟨_, hI1, rfl, rfl⟩ (loop _ rfl))
end
end

-- MLoop2
section
set_option maxRecDepth 100000
set_option maxHeartbeats 8000000
open PySem.Calls
def OwnEnd (h₀ : Heap) (L : Addr) (J : (Str → Option Value) → List (Addr × Obj) → Prop) (I : Addr) (it : Obj) (s₁ s₂ : Shared) : Prop :=
  ∃ h' tk m' news' nx, s₂ = { s₁ with heap := h', toks := tk } ∧ Fr h₀ L h' m' ∧ News h₀ L h' news' ∧ (∀ p ∈ nx, p ∈ news') ∧ (I, it) ∈ news' ∧ (∀ p ∈ nx, p.1 ≠ I) ∧ J m' nx
def OwnPost (h₀ : Heap) (L : Addr) (J : (Str → Option Value) → List (Addr × Obj) → Prop) (I : Addr) (it : Obj) (s₁ : Shared) (f : Flow) (s₂ : Shared) : Prop :=
  match f with
  | .next => OwnEnd h₀ L J I it s₁ s₂
  | _ => False
section
variable {prog : Program} {w : World} {A : Around} {E : Value → Shared → Prop} {s : Shared} {env : Env} {h₀ : Heap} {x : PySem.Str} {body : List Stmt} {Q : Flow → Shared → Prop}
theorem iter_own {l : Addr} {vs : List Value} {ns : List Int} {m₀ : Str → Option Value} {news : List (Addr × Obj)} (J : Nat → (Str → Option Value) → List (Addr × Obj) → Prop)
    (hh : A.handled = none) (hl : h₀.IsList l vs.toArray) (hi : IntsAre vs ns) (F : Fr h₀ env.locals s.heap m₀) (N : News h₀ env.locals s.heap news) (hj : J 0 m₀ news)
    (turn : ∀ i n t m₁ news₁ h tk I it, ns[i]? = some n → (∀ p ∈ news₁, p.1 ≠ I) → J i m₁ news₁ → Fr h₀ env.locals h (fun y => if y = x then some (.int n t) else m₁ y) → News h₀ env.locals h ((I, it) :: news₁) →
      wpAny (model prog w) A (execs body env) (OwnPost h₀ env.locals (J (i + 1)) I it { s with heap := h, toks := tk }) E { s with heap := h, toks := tk })
    (done : ∀ m₁ news₁ h tk, J ns.length m₁ news₁ → Fr h₀ env.locals h m₁ → News h₀ env.locals h news₁ → Q .next { s with heap := h, toks := tk }) :
    wpAny (model prog w) A (pyIter (.ref l)) (fun it s₂ => LoopAtV prog w A h₀ env x body Q E it s₂) E s := by
  have hls : s.heap.IsList l vs.toArray := hl.at fun o e => F.keep l o e
  obtain ⟨ol, hol, _⟩ := id hl
  have hlt : l < h₀.objs.size := Heap.lt_size hol
  have hne : l ≠ s.heap.objs.size := Nat.ne_of_lt (Nat.lt_trans (Nat.lt_of_lt_of_le hlt F.above) F.ns.lt)
  refine wpAny_pyIter_list hls ?_
  have W := Walks.list (prog := prog) (w := w) hh s.heap.objs.size l hne vs.toArray
  have hlen : vs.toArray.size = ns.length := by simp [hi.length]
  rw [hlen] at W
  refine ⟨_, _, _, ns.length, _, _, m₀, news, J, rfl, W, ?_, ?_, ?_, ⟨⟨_, Heap.get?_push_size _ rfl, rfl, rfl⟩, hls.at fun o e => Heap.get?_push_of_some _ e⟩, F.push _, (fun p hp => ⟨Heap.get?_push_of_some _ (N p hp).1, (N p hp).2⟩), hj, ?_, ?_⟩
  · intro hm
    rcases List.mem_cons.mp hm with e | hm
    · exact absurd F.ns.lt (e ▸ Nat.lt_irrefl _)
    · exact absurd (Nat.lt_of_lt_of_le hlt F.above) ((List.mem_singleton.mp hm) ▸ Nat.lt_irrefl _)
  · intro b hb
    rw [List.mem_singleton.mp hb]
    exact next_is_new F
  · intro p hp hI
    exact absurd (Heap.lt_size (N p hp).1) ((List.mem_singleton.mp hI) ▸ Nat.lt_irrefl _)
  · rintro i v m₁ news₁ s₁ own ⟨hh', tk', rfl⟩ hin hP hJ hoff hown hget hall hst F₁ N₁
    have hlt' : i < ns.length := hin
    obtain ⟨t, hx⟩ := hi.get i ns[i] (by simp [hlt'])
    have hv : v = .int ns[i] t := by
      have hP' : vs[i]? = some v := by simpa using hP
      rw [hx] at hP'; exact (Option.some.inj hP').symm
    subst hv
    obtain ⟨⟨o, ho, _, _⟩, _⟩ := hst
    have hIn : h₀.get? s.heap.objs.size = none := next_is_new F
    have hIo : (s.heap.objs.size, o) ∈ own := hall _ (.head _) hIn o ho
    have hsub : ∀ p ∈ own, p = (s.heap.objs.size, o) := by
      intro p hp
      have h1 : p.1 = s.heap.objs.size := by
        rcases List.mem_cons.mp (hown p hp) with h1 | h1
        · exact h1
        · have h2 := List.mem_singleton.mp h1
          have h3 := (N₁ p (List.mem_append_left _ hp)).2.2
          rw [h2, hol] at h3; cases h3
      have h4 := hget p hp
      rw [h1] at h4
      have h4' : hh'.get? s.heap.objs.size = some p.2 := h4
      rw [ho] at h4'
      exact Prod.ext h1 (Option.some.inj h4').symm
    have N₂ : News h₀ env.locals hh' ((s.heap.objs.size, o) :: news₁) := fun p hp => by
      rcases List.mem_cons.mp hp with rfl | hp
      · exact N₁ _ (List.mem_append_left _ hIo)
      · exact N₁ p (List.mem_append_right _ hp)
    refine wpAny_mono (turn i ns[i] t m₁ news₁ hh' tk' _ o (by simp [hlt']) (fun p hp q => hoff p hp (by rw [q]; exact List.mem_singleton.mpr rfl)) hJ F₁ N₂) (fun f s₂ p => ?_) fun _ _ e => e
    cases f with
    | next =>
      obtain ⟨h', tk, m', news', nx, e, F', N', hn, ho', hni, hm⟩ := p
      refine .next ⟨rfl, h', tk, m', nx, e, F', fun p hp => N' p ((List.mem_append.mp hp).elim (fun q => by rw [hsub p q]; exact ho') (hn p)), fun p hp hq => hni p hp (List.mem_singleton.mp hq), hm⟩
    | ret v => exact p.elim
    | brk => exact p.elim
    | cont => exact p.elim
  · rintro h' tk m' news' F' N' _ hJ
    exact done m' news' h' tk hJ F' N'
end
end

-- MRd
section
set_option maxRecDepth 100000
set_option maxHeartbeats 8000000
open PySem.Calls
/-- the places of a group's signs -/
def placesIn (M : List (Int × Int)) (g : List Int) : List Int := (g.filter fun y => (getI M y).isSome).map fun y => (getI M y).getD 0
/-- the readings of one sign -/
def candsOf (M : List (Int × Int)) (x : Int) : List Int :=
  if (getI M x).isSome = true then [(getI M x).getD 0] else if x ∈ [48, 79, 111] then placesIn M [48, 79, 111] else if x ∈ [73, 108, 49] then placesIn M [73, 108, 49] else []
def readsOf (M : List (Int × Int)) (ks : List Int) : List (List Int) := ks.foldl (fun rd x => (pairs rd (candsOf M x)).take 2) [[]]
theorem readsOf_take {M : List (Int × Int)} {ks : List Int} {i : Nat} {k : Int} (h : ks[i]? = some k) : readsOf M (ks.take (i + 1)) = (pairs (readsOf M (ks.take i)) (candsOf M k)).take 2 := by
  unfold readsOf
  rw [List.take_add_one, h, List.foldl_append]
  rfl
theorem placesIn_len (M : List (Int × Int)) (g : List Int) : (placesIn M g).length ≤ g.length := by
  unfold placesIn
  rw [List.length_map]
  exact List.length_filter_le _ _
theorem candsOf_len (M : List (Int × Int)) (x : Int) : (candsOf M x).length ≤ 4 := by
  unfold candsOf
  split
  · simp
  · split
    · exact Nat.le_trans (placesIn_len _ _) (by decide)
    · split
      · exact Nat.le_trans (placesIn_len _ _) (by decide)
      · simp
theorem readsOf_bound (M : List (Int × Int)) : ∀ (ks : List Int) (rd : List (List Int)) (n : Nat), rd.length ≤ 2 → (∀ zs ∈ rd, zs.length = n) →
    (ks.foldl (fun rd x => (pairs rd (candsOf M x)).take 2) rd).length ≤ 2 ∧ ∀ zs ∈ ks.foldl (fun rd x => (pairs rd (candsOf M x)).take 2) rd, zs.length = n + ks.length
  | [], rd, n, h1, h2 => ⟨h1, h2⟩
  | k :: ks, rd, n, h1, h2 => by
    have ih := readsOf_bound M ks ((pairs rd (candsOf M k)).take 2) (n + 1) (by rw [List.length_take]; omega) (fun zs hz => by
      have hz := List.mem_of_mem_take hz
      obtain ⟨one, ho, hz⟩ := List.mem_flatMap.mp hz
      obtain ⟨y, _, rfl⟩ := List.mem_map.mp hz
      rw [List.length_append, h2 one ho]; rfl)
    rw [List.foldl_cons]
    refine ⟨ih.1, fun zs hz => ?_⟩
    rw [ih.2 zs hz, List.length_cons]; omega
theorem readsOf_le (M : List (Int × Int)) (ks : List Int) : (readsOf M ks).length ≤ 2 := (readsOf_bound M ks [[]] 0 (by decide) (by simp)).1
theorem readsOf_len {M : List (Int × Int)} {ks zs : List Int} (h : zs ∈ readsOf M ks) : zs.length = ks.length := by
  have := (readsOf_bound M ks [[]] 0 (by decide) (by simp)).2 zs h
  omega
abbrev sR : Str := Str.ofString "readings"
abbrev sX : Str := Str.ofString "x"
abbrev sG : Str := Str.ofString "group"
/-- how the readings stand ahead of a turn -/
def RdJ (M : List (Int × Int)) (ns : List Int) (m₀ : Str → Option Value) (cF cP : Addr) (oP : Obj) (i : Nat) (m : Str → Option Value) (nx : List (Addr × Obj)) : Prop :=
  ∃ R k ys IL oF, Inner ys (readsOf M (ns.take i)) IL ∧ nx = (R, listOf (List.toArray ys) k) :: (cF, oF) :: (cP, oP) :: IL ∧ (∃ v, oF.data = .cell v) ∧ R ≠ cF ∧ R ≠ cP ∧ OwnOff IL [R, cF, cP] ∧ m sR = some (.ref R) ∧ ∀ z, z ≠ sR → z ≠ sX → z ≠ sG → m z = m₀ z
theorem rd_form {m m₀ : Str → Option Value} {v : Value} (h1 : m sR = some v) (h2 : ∀ z, z ≠ sR → z ≠ sX → z ≠ sG → m z = m₀ z) : m = fun z => if z = sX then m z else if z = sR then some v else if z = sG then m z else m₀ z := by
  funext z
  by_cases a : z = sX
  · simp [a]
  · by_cases b : z = sR
    · subst b; simp [h1]
    · by_cases c : z = sG
      · simp only [if_neg a, if_neg b, if_pos c]
      · simp only [if_neg a, if_neg b, if_neg c]; exact h2 z b a c
section
variable {prog : Program} {w : World} {A : Around} {E : Value → Shared → Prop} {s : Shared} {env : Env} {h₀ : Heap} {body : List Stmt} {Q : Flow → Shared → Prop}
theorem iter_read {w' : World} {po : Obj} {M : List (Int × Int)} {l R0 r0 cF cP : Addr} {vs : List Value} {ns : List Int} {m₀ : Str → Option Value} {oF0 oP : Obj} {v0 : Option Value}
    (_hM : IsMap w' po M) (hh : A.handled = none) (hl : h₀.IsList l vs.toArray) (hi : IntsAre vs ns) (F : Fr h₀ env.locals s.heap m₀) (N : News h₀ env.locals s.heap [(R0, listOf #[.ref r0] 0), (r0, listOf #[] 0), (cF, oF0), (cP, oP)]) (hR : m₀ sR = some (.ref R0)) (hF0 : oF0.data = .cell v0)
    (d1 : R0 ≠ cF) (d2 : R0 ≠ cP) (d3 : r0 ≠ R0) (d4 : r0 ≠ cF) (d5 : r0 ≠ cP)
    (turn : ∀ i n t (u : Str → Option Value) R k ys IL oF h tk I it v, ns[i]? = some n → Inner ys (readsOf M (ns.take i)) IL → oF.data = .cell v → @Ne Nat I cF → @Ne Nat R cF → @Ne Nat I R → @Ne Nat I cP → OwnOff IL [cF] → (∀ p ∈ IL, p.1 ≠ I) →
      Fr h₀ env.locals h (fun y => if y = sX then some (.int n t) else if y = sX then u y else if y = sR then some (.ref R) else if y = sG then u y else m₀ y) →
      News h₀ env.locals h ((I, it) :: (R, listOf (List.toArray ys) k) :: (cF, oF) :: (cP, oP) :: IL) →
      wpAny (model prog w) A (execs body env) (OwnPost h₀ env.locals (RdJ M ns m₀ cF cP oP (i + 1)) I it { s with heap := h, toks := tk }) E { s with heap := h, toks := tk })
    (done : ∀ (u : Str → Option Value) R k ys IL h tk, Inner ys (readsOf M ns) IL → Fr h₀ env.locals h (fun y => if y = sX then u y else if y = sR then some (.ref R) else if y = sG then u y else m₀ y) → News h₀ env.locals h ((R, listOf (List.toArray ys) k) :: IL) → Q .next { s with heap := h, toks := tk }) :
    wpAny (model prog w) A (pyIter (.ref l)) (fun it s₂ => LoopAtV prog w A h₀ env sX body Q E it s₂) E s := by
  refine iter_own (news := [(R0, listOf #[.ref r0] 0), (cF, oF0), (cP, oP), (r0, listOf #[] 0)]) (RdJ M ns m₀ cF cP oP) hh hl hi F (fun p hp => N p (by simp only [List.mem_cons, List.not_mem_nil, or_false] at hp ⊢; rcases hp with h | h | h | h <;> simp [h])) ?_ ?_ ?_
  · refine ⟨R0, 0, [.ref r0], [(r0, listOf #[] 0)], oF0, ?_, rfl, ⟨v0, hF0⟩, d1, d2, ?_, hR, fun _ _ _ _ => rfl⟩
    · exact Inner.cons (vs := []) .nil .nil
    · intro p hp b hb
      rw [List.mem_singleton.mp hp]
      simp only [List.mem_cons, List.not_mem_nil, or_false] at hb
      rcases hb with rfl | rfl | rfl
      · exact d3
      · exact d4
      · exact d5
  · rintro i n t m₁ news₁ h tk I it hn hni ⟨R, k, ys, IL, oF, hin, rfl, ⟨v, hv⟩, e1, e2, hoff, hmR, hms⟩ F₁ N₁
    rw [rd_form hmR hms] at F₁
    refine turn i n t m₁ R k ys IL oF h tk I it v hn hin hv (Ne.symm (hni _ (.tail _ (.head _)))) e1 (Ne.symm (hni _ (.head _))) (Ne.symm (hni _ (.tail _ (.tail _ (.head _))))) (fun p hp b hb => hoff p hp b (by simp only [List.mem_cons, List.not_mem_nil, or_false] at hb ⊢; exact Or.inr (Or.inl hb))) (fun p hp => hni p (.tail _ (.tail _ (.tail _ hp)))) F₁ N₁
  · rintro m₁ news₁ h tk ⟨R, k, ys, IL, oF, hin, rfl, _, _, _, _, hmR, hms⟩ F₁ N₁
    rw [rd_form hmR hms] at F₁
    rw [List.take_length] at hin
    refine done m₁ R k ys IL h tk hin F₁ fun p hp => N₁ p ?_
    rcases List.mem_cons.mp hp with rfl | hp
    · exact .head _
    · exact .tail _ (.tail _ (.tail _ hp))
theorem iter_two {x : Str} {l : Addr} {a b : Value} {m₀ : Str → Option Value} {news : List (Addr × Obj)} (J1 J2 : (Str → Option Value) → List (Addr × Obj) → Prop)
    (hh : A.handled = none) (hl : h₀.IsTuple l #[a, b]) (F : Fr h₀ env.locals s.heap m₀) (N : News h₀ env.locals s.heap news)
    (turn1 : ∀ h tk I it, (∀ p ∈ news, p.1 ≠ I) → Fr h₀ env.locals h (fun y => if y = x then some a else m₀ y) → News h₀ env.locals h ((I, it) :: news) →
      wpAny (model prog w) A (execs body env) (OwnPost h₀ env.locals J1 I it { s with heap := h, toks := tk }) E { s with heap := h, toks := tk })
    (turn2 : ∀ m₁ news₁ h tk I it, (∀ p ∈ news₁, p.1 ≠ I) → J1 m₁ news₁ → Fr h₀ env.locals h (fun y => if y = x then some b else m₁ y) → News h₀ env.locals h ((I, it) :: news₁) →
      wpAny (model prog w) A (execs body env) (OwnPost h₀ env.locals J2 I it { s with heap := h, toks := tk }) E { s with heap := h, toks := tk })
    (done : ∀ m₂ news₂ h tk, J2 m₂ news₂ → Fr h₀ env.locals h m₂ → News h₀ env.locals h news₂ → Q .next { s with heap := h, toks := tk }) :
    wpAny (model prog w) A (pyIter (.ref l)) (fun it s₂ => LoopAtV prog w A h₀ env x body Q E it s₂) E s := by
  have hls : s.heap.IsTuple l #[a, b] := let ⟨o, ho, r⟩ := hl; ⟨o, F.keep l o ho, r⟩
  obtain ⟨ol, hol, _⟩ := id hl
  have hlt : l < h₀.objs.size := Heap.lt_size hol
  have hne : l ≠ s.heap.objs.size := Nat.ne_of_lt (Nat.lt_trans (Nat.lt_of_lt_of_le hlt F.above) F.ns.lt)
  refine wpAny_pyIter_tuple hls ?_
  have W := Walks.tuple (prog := prog) (w := w) hh s.heap.objs.size l hne #[a, b]
  let J : Nat → (Str → Option Value) → List (Addr × Obj) → Prop := fun i m nx => if i = 0 then m = m₀ ∧ nx = news else if i = 1 then J1 m nx else J2 m nx
  refine ⟨_, _, _, 2, _, _, m₀, news, J, rfl, W, ?_, ?_, ?_, ⟨⟨_, Heap.get?_push_size _ rfl, rfl, rfl⟩, let ⟨o, ho, r⟩ := hls; ⟨o, Heap.get?_push_of_some _ ho, r⟩⟩, F.push _, (fun p hp => ⟨Heap.get?_push_of_some _ (N p hp).1, (N p hp).2⟩), ⟨rfl, rfl⟩, ?_, ?_⟩
  · intro hm
    rcases List.mem_cons.mp hm with e | hm
    · exact absurd F.ns.lt (e ▸ Nat.lt_irrefl _)
    · exact absurd (Nat.lt_of_lt_of_le hlt F.above) ((List.mem_singleton.mp hm) ▸ Nat.lt_irrefl _)
  · intro b hb
    rw [List.mem_singleton.mp hb]
    exact next_is_new F
  · intro p hp hI
    exact absurd (Heap.lt_size (N p hp).1) ((List.mem_singleton.mp hI) ▸ Nat.lt_irrefl _)
  · rintro i v m₁ news₁ s₁ own ⟨hh', tk', rfl⟩ hin hP hJ hoff hown hget hall hst F₁ N₁
    obtain ⟨⟨o, ho, _, _⟩, _⟩ := hst
    have hIn : h₀.get? s.heap.objs.size = none := next_is_new F
    have hIo : (s.heap.objs.size, o) ∈ own := hall _ (.head _) hIn o ho
    have hsub : ∀ p ∈ own, p = (s.heap.objs.size, o) := by
      intro p hp
      have h1 : p.1 = s.heap.objs.size := by
        rcases List.mem_cons.mp (hown p hp) with h1 | h1
        · exact h1
        · have h2 := List.mem_singleton.mp h1
          have h3 := (N₁ p (List.mem_append_left _ hp)).2.2
          rw [h2, hol] at h3; cases h3
      have h4 := hget p hp
      rw [h1] at h4
      have h4' : hh'.get? s.heap.objs.size = some p.2 := h4
      rw [ho] at h4'
      exact Prod.ext h1 (Option.some.inj h4').symm
    have N₂ : News h₀ env.locals hh' ((s.heap.objs.size, o) :: news₁) := fun p hp => by
      rcases List.mem_cons.mp hp with rfl | hp
      · exact N₁ _ (List.mem_append_left _ hIo)
      · exact N₁ p (List.mem_append_right _ hp)
    have hni : ∀ p ∈ news₁, p.1 ≠ s.heap.objs.size := fun p hp q => hoff p hp (by rw [q]; exact List.mem_singleton.mpr rfl)
    have fin : ∀ (J' : (Str → Option Value) → List (Addr × Obj) → Prop) f s₂, OwnPost h₀ env.locals J' s.heap.objs.size o { s with heap := hh', toks := tk' } f s₂ → J' = J (i + 1) → LoopStepV h₀ env.locals [s.heap.objs.size] own (J (i + 1)) { s with heap := hh', toks := tk' } (fun v s' => Q (.ret v) s') (fun s' => Q .next s') f s₂ := by
      rintro J' f s₂ p rfl
      cases f with
      | next =>
        obtain ⟨h', tk, m', news', nx, e, F', N', hn, ho', hni, hm⟩ := p
        refine .next ⟨rfl, h', tk, m', nx, e, F', fun p hp => N' p ((List.mem_append.mp hp).elim (fun q => by rw [hsub p q]; exact ho') (hn p)), fun p hp hq => hni p hp (List.mem_singleton.mp hq), hm⟩
      | ret v => exact p.elim
      | brk => exact p.elim
      | cont => exact p.elim
    have hi2 : i = 0 ∨ i = 1 := by
      have : i < 2 := hin
      omega
    rcases hi2 with rfl | rfl
    · obtain ⟨rfl, rfl⟩ : m₁ = m₀ ∧ news₁ = news := hJ
      have hv : v = a := by
        have hP' : (#[a, b] : Array Value)[0]? = some v := hP
        simpa using hP'.symm
      subst hv
      exact wpAny_mono (turn1 hh' tk' _ o hni F₁ N₂) (fun f s₂ p => fin J1 f s₂ p rfl) fun _ _ e => e
    · have hv : v = b := by
        have hP' : (#[a, b] : Array Value)[1]? = some v := hP
        simpa using hP'.symm
      subst hv
      exact wpAny_mono (turn2 m₁ news₁ hh' tk' _ o hni hJ F₁ N₂) (fun f s₂ p => fin J2 f s₂ p rfl) fun _ _ e => e
  · rintro h' tk m' news' F' N' _ hJ
    exact done m' news' h' tk hJ F' N'
end
section
variable {w : World} {A : Around} {E : Value → Shared → Prop} {s : Shared} {env : Env} {scope : Scope} {cl : List (Str × Addr)} {C : Addr} {m : Str → Option Value} {k : Int} {t : Tok} {x : Str} {px pos : Pos}
theorem map_got {value slice : PySem.Expr} {Q : Value → Shared → Prop} {o : Obj} {D : List (Int × Int)} {d : Addr} (x : IsMap w o D) (ho : s.heap.get? d = some o) (hk : (getI D k).isSome = true) (h : ∀ t', Q (.int ((getI D k).getD 0) t') { s with toks := s.toks + 1 })
    (hs : subscripted slice false (.ref d) (.int k t) = operate [.ref d, .int k t] (getItem (.ref d) (.int k t)) := by with_unfolding_all rfl) :
    wpAny (model PySem.Challenge.rw_fe0039_01.row.prog w) A (subscriptTail value slice (.ref d) (.int k t)) Q E s := by
  obtain ⟨i, hi⟩ := Option.isSome_iff_exists.mp hk
  refine map_item x ho hi (fun t' => ?_) hs
  have := h t'
  rw [hi] at this
  exact this
/-- places[y] in a comprehension -/
theorem leaf_got {y : Str} {c D : Addr} {o : Obj} {rows : List (Int × Int)} {py : Pos} {E' : Value → Shared → Prop} (hk : scope.kind = .function) (hl : scope.names.lookup x = some .local) (hd : (x == ("__debug__" : Str)) = false)
    (hly : (compEnvC scope cl C env).kindOf y = some .cell) (hc : cl.lookup y = some c) (hdy : (y == ("__debug__" : Str)) = false)
    (hn : s.heap.Ns C m) (hm : m x = some (.int k t)) (hv : s.heap.IsCell c (some (.ref D))) (ho : s.heap.get? D = some o) (M : IsMap w o rows) (hg : (getI rows k).isSome = true) :
    wpAny (model PySem.Challenge.rw_fe0039_01.row.prog w) A (eval (.Subscript (.Name y py) (.Name x px) pos) (compEnvC scope cl C env)) (fun v s₄ => (∃ t, v = .int ((getI rows k).getD 0) t) ∧ Keeps s s₄) E' s := by
  refine Subscript_ (leaf_cell hk hly hc hdy hv (leaf_name hk hl hd hn hm ?_))
  exact map_got M ho hg fun t' => ⟨⟨t', rfl⟩, keeps_tok⟩
end
end

-- MGr
section
set_option maxRecDepth 100000
set_option maxHeartbeats 8000000
open PySem.Calls
def GJ (fd : List Int) (m₀ : Str → Option Value) (cF cP I R : Addr) (it oR oP : Obj) (IL : List (Addr × Obj)) (m : Str → Option Value) (nx : List (Addr × Obj)) : Prop :=
  ∃ Fd k fv oF, IntsAre fv fd ∧ nx = (Fd, listOf (List.toArray fv) k) :: (I, it) :: (R, oR) :: (cF, oF) :: (cP, oP) :: IL ∧ oF.data = .cell (some (.ref Fd)) ∧ @Ne Nat Fd cF ∧ @Ne Nat Fd I ∧ @Ne Nat Fd R ∧ ∀ z, z ≠ sG → m z = m₀ z
theorem g_form {m m₀ : Str → Option Value} (h2 : ∀ z, z ≠ sG → m z = m₀ z) : m = fun z => if z = sG then m z else m₀ z := by
  funext z
  by_cases c : z = sG
  · simp only [if_pos c]
  · simp only [if_neg c]; exact h2 z c
/-- what a turn over the groups finds -/
def g1Of (M : List (Int × Int)) (n : Int) : List Int := if n ∈ [48, 79, 111] then placesIn M [48, 79, 111] else []
def g2Of (M : List (Int × Int)) (n : Int) : List Int := if n ∈ [73, 108, 49] then placesIn M [73, 108, 49] else g1Of M n
theorem g2_cands {M : List (Int × Int)} {n : Int} (h : ¬ (getI M n).isSome = true) : g2Of M n = candsOf M n := by
  unfold g2Of g1Of candsOf
  rw [if_neg h]
  by_cases a : n ∈ [48, 79, 111]
  · have : ¬ n ∈ [73, 108, 49] := by
      simp only [List.mem_cons, List.not_mem_nil, or_false] at a ⊢
      omega
    rw [if_neg this, if_pos a, if_pos a]
  · rw [if_neg a, if_neg a]
section
variable {prog : Program} {w : World} {A : Around} {E : Value → Shared → Prop} {s : Shared} {env : Env} {h₀ : Heap} {body : List Stmt} {Q : Flow → Shared → Prop}
theorem iter_groups {w' : World} {po : Obj} {M : List (Int × Int)} {n : Int} {tn : Tok} {l a b Fd0 I R cF cP : Addr} {m₀ : Str → Option Value} {it oR oF oP : Obj} {IL : List (Addr × Obj)} (_hM : IsMap w' po M) (_hx : m₀ sX = some (.int n tn))
    (hh : A.handled = none) (hl : h₀.IsTuple l #[.ref a, .ref b]) (F : Fr h₀ env.locals s.heap m₀) (N : News h₀ env.locals s.heap ((Fd0, listOf #[] 0) :: (I, it) :: (R, oR) :: (cF, oF) :: (cP, oP) :: IL))
    (hoF : oF.data = .cell (some (.ref Fd0))) (d1 : @Ne Nat Fd0 cF) (d2 : @Ne Nat Fd0 I) (d3 : @Ne Nat Fd0 R)
    (turn1 : ∀ h tk I2 it2, (∀ p ∈ (Fd0, listOf #[] 0) :: (I, it) :: (R, oR) :: (cF, oF) :: (cP, oP) :: IL, p.1 ≠ I2) → @Ne Nat I2 cF → Fr h₀ env.locals h (fun y => if y = sG then some (.ref a) else m₀ y) →
      News h₀ env.locals h ((I2, it2) :: (Fd0, listOf #[] 0) :: (I, it) :: (R, oR) :: (cF, oF) :: (cP, oP) :: IL) →
      wpAny (model prog w) A (execs body env) (OwnPost h₀ env.locals (GJ (g1Of M n) m₀ cF cP I R it oR oP IL) I2 it2 { s with heap := h, toks := tk }) E { s with heap := h, toks := tk })
    (turn2 : ∀ Fd k fv oF' (u : Str → Option Value) h tk I2 it2, IntsAre fv (g1Of M n) → oF'.data = .cell (some (.ref Fd)) → @Ne Nat Fd cF → @Ne Nat Fd I → @Ne Nat Fd R → (∀ p ∈ (Fd, listOf (List.toArray fv) k) :: (I, it) :: (R, oR) :: (cF, oF') :: (cP, oP) :: IL, p.1 ≠ I2) → @Ne Nat I2 cF →
      Fr h₀ env.locals h (fun y => if y = sG then some (.ref b) else if y = sG then u y else m₀ y) →
      News h₀ env.locals h ((I2, it2) :: (Fd, listOf (List.toArray fv) k) :: (I, it) :: (R, oR) :: (cF, oF') :: (cP, oP) :: IL) →
      wpAny (model prog w) A (execs body env) (OwnPost h₀ env.locals (GJ (g2Of M n) m₀ cF cP I R it oR oP IL) I2 it2 { s with heap := h, toks := tk }) E { s with heap := h, toks := tk })
    (done : ∀ Fd k fv oF' (u : Str → Option Value) h tk, IntsAre fv (g2Of M n) → oF'.data = .cell (some (.ref Fd)) → @Ne Nat Fd cF → @Ne Nat Fd I → @Ne Nat Fd R →
      Fr h₀ env.locals h (fun y => if y = sG then u y else m₀ y) → News h₀ env.locals h ((Fd, listOf (List.toArray fv) k) :: (I, it) :: (R, oR) :: (cF, oF') :: (cP, oP) :: IL) → Q .next { s with heap := h, toks := tk }) :
    wpAny (model prog w) A (pyIter (.ref l)) (fun it s₂ => LoopAtV prog w A h₀ env sG body Q E it s₂) E s := by
  refine iter_two (GJ (g1Of M n) m₀ cF cP I R it oR oP IL) (GJ (g2Of M n) m₀ cF cP I R it oR oP IL) hh hl F N ?_ ?_ ?_
  · intro h tk I2 it2 hni F₁ N₁
    exact turn1 h tk I2 it2 hni (Ne.symm (hni _ (.tail _ (.tail _ (.tail _ (.head _)))))) F₁ N₁
  · rintro m₁ news₁ h tk I2 it2 hni ⟨Fd, k, fv, oF', hi, rfl, hc, e1, e2, e3, hm⟩ F₁ N₁
    rw [g_form hm] at F₁
    exact turn2 Fd k fv oF' m₁ h tk I2 it2 hi hc e1 e2 e3 hni (Ne.symm (hni _ (.tail _ (.tail _ (.tail _ (.head _)))))) F₁ N₁
  · rintro m₂ news₂ h tk ⟨Fd, k, fv, oF', hi, rfl, hc, e1, e2, e3, hm⟩ F₁ N₁
    rw [g_form hm] at F₁
    exact done Fd k fv oF' m₂ h tk hi hc e1 e2 e3 F₁ N₁
end
section
variable {h₀ h' : Heap} {L Fd D I2 I R cF cP : Addr} {m₀ m' : Str → Option Value} {it2 it oR oF oX oP : Obj} {IL : List (Addr × Obj)} {fv : List Value} {fd : List Int} {k tk : Nat} {s₁ : Shared}
theorem gEndA (F : Fr h₀ L h' m') (N : News h₀ L h' ((I2, it2) :: (Fd, listOf (List.toArray fv) k) :: (I, it) :: (R, oR) :: (cF, oF) :: (cP, oP) :: IL)) (hni : ∀ p ∈ (Fd, listOf (List.toArray fv) k) :: (I, it) :: (R, oR) :: (cF, oF) :: (cP, oP) :: IL, p.1 ≠ I2)
    (hi : IntsAre fv fd) (hc : oF.data = .cell (some (.ref Fd))) (d1 : @Ne Nat Fd cF) (d2 : @Ne Nat Fd I) (d3 : @Ne Nat Fd R) (hm : ∀ z, z ≠ sG → m' z = m₀ z) :
    OwnEnd h₀ L (GJ fd m₀ cF cP I R it oR oP IL) I2 it2 s₁ { s₁ with heap := h', toks := tk } :=
  ⟨h', tk, m', _, _, rfl, F, N, fun _ hp => .tail _ hp, .head _, hni, Fd, k, fv, oF, hi, rfl, hc, d1, d2, d3, hm⟩
theorem gEndB {oF0 : Obj} {p0 : Obj} (F : Fr h₀ L h' m') (N : News h₀ L h' ((D, listOf (List.toArray fv) k) :: (I2, it2) :: (Fd, p0) :: (I, it) :: (R, oR) :: (cF, oF) :: (cP, oP) :: IL)) (hni : ∀ p ∈ (Fd, p0) :: (I, it) :: (R, oR) :: (cF, oF0) :: (cP, oP) :: IL, p.1 ≠ I2)
    (hi : IntsAre fv fd) (hc : oF.data = .cell (some (.ref D))) (d0 : I2 ≠ D) (d1 : cF ≠ D) (d2 : I ≠ D) (d3 : R ≠ D) (hm : ∀ z, z ≠ sG → m' z = m₀ z) :
    OwnEnd h₀ L (GJ fd m₀ cF cP I R it oR oP IL) I2 it2 s₁ { s₁ with heap := h', toks := tk } := by
  refine ⟨h', tk, m', _, (D, listOf (List.toArray fv) k) :: (I, it) :: (R, oR) :: (cF, oF) :: (cP, oP) :: IL, rfl, F, N, fun p hp => ?_, .tail _ (.head _), fun p hp => ?_, D, k, fv, oF, hi, rfl, hc, Ne.symm d1, Ne.symm d2, Ne.symm d3, hm⟩
  · rcases List.mem_cons.mp hp with rfl | hp
    · exact .head _
    · exact .tail _ (.tail _ (.tail _ hp))
  · rcases List.mem_cons.mp hp with rfl | hp
    · exact Ne.symm d0
    · rcases List.mem_cons.mp hp with rfl | hp
      · exact hni _ (.tail _ (.head _))
      · rcases List.mem_cons.mp hp with rfl | hp
        · exact hni _ (.tail _ (.tail _ (.head _)))
        · rcases List.mem_cons.mp hp with rfl | hp
          · exact hni (cF, oF0) (.tail _ (.tail _ (.tail _ (.head _))))
          · exact hni p (.tail _ (.tail _ (.tail _ (.tail _ hp))))
theorem pick2 (vs : List Value) : slicePick vs.toArray none (some 2) none = (vs.take 2).toArray := by
  have e : sliceBounds none (some 2) none vs.toArray.size = (((0 : Nat) : Int), ((min 2 vs.toArray.size : Nat) : Int), 1) := by
    simp only [sliceBounds, Option.getD_none, show (1 : Int) > 0 by decide, if_true, if_neg (show ¬ ((2 : Int) < 0) by decide)]
    congr 1
    congr 1
    omega
  rw [kmk_pick_nat _ e]
  show ((vs.drop 0).take (min 2 vs.toArray.size - 0)).toArray = _
  rw [List.drop_zero, Nat.sub_zero, List.size_toArray, kmk_take_min]
/-- the end of a turn over the row -/
theorem rdEnd {M : List (Int × Int)} {ns : List Int} {i : Nat} {n : Int} {D D2 : Addr} {acc : List Value} {L' led : List (Addr × Obj)} {k2 : Nat} {oD : Obj} {v : Option Value}
    (F : Fr h₀ L h' m') (N : News h₀ L h' ((D2, listOf (List.toArray (acc.take 2)) k2) :: (D, oD) :: (L' ++ led))) (l1 : ∀ p ∈ (D, oD) :: (L' ++ led), p.1 < D2) (hin : Inner acc (pairs (readsOf M (ns.take i)) (candsOf M n)) L') (hn : ns[i]? = some n)
    (hI : (I, it) ∈ led) (hF : (cF, oF) ∈ led) (hP : (cP, oP) ∈ led) (hc : oF.data = .cell v) (e1 : I ≠ cF) (e4 : I ≠ cP) (fresh : ∀ p ∈ (D, oX) :: L', ∀ q ∈ led, q.1 ≠ p.1) (hR : m' sR = some (.ref D2)) (hm : ∀ z, z ≠ sR → z ≠ sX → z ≠ sG → m' z = m₀ z) :
    OwnEnd h₀ L (RdJ M ns m₀ cF cP oP (i + 1)) I it s₁ { s₁ with heap := h', toks := tk } := by
  have lt : ∀ p ∈ led, p.1 < D2 := fun p hp => l1 p (.tail _ (List.mem_append_right _ hp))
  have ltL : ∀ p ∈ L'.take 2, p.1 < D2 := fun p hp => l1 p (.tail _ (List.mem_append_left _ (List.mem_of_mem_take hp)))
  have frL : ∀ p ∈ L'.take 2, ∀ q ∈ led, q.1 ≠ p.1 := fun p hp => fresh p (.tail _ (List.mem_of_mem_take hp))
  refine ⟨h', tk, m', _, (D2, listOf (List.toArray (acc.take 2)) k2) :: (cF, oF) :: (cP, oP) :: L'.take 2, rfl, F, N, fun p hp => ?_, .tail _ (.tail _ (List.mem_append_right _ hI)), fun p hp => ?_, ⟨D2, k2, acc.take 2, L'.take 2, oF, ?_, rfl, ⟨v, hc⟩, Nat.ne_of_gt (lt _ hF), Nat.ne_of_gt (lt _ hP), ?_, hR, hm⟩⟩
  · rcases List.mem_cons.mp hp with rfl | hp
    · exact .head _
    · rcases List.mem_cons.mp hp with rfl | hp
      · exact .tail _ (.tail _ (List.mem_append_right _ hF))
      · rcases List.mem_cons.mp hp with rfl | hp
        · exact .tail _ (.tail _ (List.mem_append_right _ hP))
        · exact .tail _ (.tail _ (List.mem_append_left _ (List.mem_of_mem_take hp)))
  · rcases List.mem_cons.mp hp with rfl | hp
    · exact Nat.ne_of_gt (lt _ hI)
    · rcases List.mem_cons.mp hp with rfl | hp
      · exact Ne.symm e1
      · rcases List.mem_cons.mp hp with rfl | hp
        · exact Ne.symm e4
        · exact Ne.symm (frL p hp _ hI)
  · rw [readsOf_take hn]
    exact hin.take 2
  · intro p hp b hb
    simp only [List.mem_cons, List.not_mem_nil, or_false] at hb
    rcases hb with rfl | rfl | rfl
    · exact Nat.ne_of_lt (ltL p hp)
    · exact Ne.symm (frL p hp _ hF)
    · exact Ne.symm (frL p hp _ hP)
end
def gOf {w : World} {o : Obj} {rows : List (Int × Int)} (_ : IsMap w o rows) : Int → Int := fun k => (getI rows k).getD 0
theorem in_group {prog : Program} {w : World} {A : Around} {E : Value → Shared → Prop} {s : Shared} {t : Addr} {items : Array Value} {ns : List Int} {x : Int} {u : Tok} {Q : Value → Shared → Prop} (ht : IsTup s.heap t items) (hi : IntsAre items.toList ns)
    (h : Q (.bool (decide (x ∈ ns))) s) : wpAny (model prog w) A (compareOp .In (.int x u) (.ref t)) Q E s := by
  refine in_tuple_ints ht hi ?_
  have e : ns.any (· == x) = decide (x ∈ ns) := by
    rw [Bool.eq_iff_iff, List.any_eq_true, decide_eq_true_eq]
    constructor
    · rintro ⟨y, hy, e⟩
      rw [← eq_of_beq e]; exact hy
    · intro hx
      exact ⟨x, hx, by simp⟩
  rw [e]
  exact h
theorem got_ints {f : Int → Int} {ks : List Int} {ys : List Value} (h : Paired (fun k y => ∃ t, y = Value.int (f k) t) ks ys) : IntsAre ys (ks.map f) := paired_ints h
theorem got_places {w : World} {o : Obj} {M : List (Int × Int)} {x : IsMap w o M} {ys : List Value} {g : List Int} (h : Paired (fun k y => ∃ t, y = Value.int (gOf x k) t) (g.filter (pOf x)) ys) : IntsAre ys (placesIn M g) := paired_ints h
theorem g1_no {M : List (Int × Int)} {n : Int} (h : ¬ n ∈ [48, 79, 111]) : IntsAre [] (g1Of M n) := by unfold g1Of; rw [if_neg h]; exact .nil
theorem g1_yes {M : List (Int × Int)} {n : Int} {ys : List Value} (h : n ∈ [48, 79, 111]) (hp : IntsAre ys (placesIn M [48, 79, 111])) : IntsAre ys (g1Of M n) := by unfold g1Of; rw [if_pos h]; exact hp
theorem g2_no {M : List (Int × Int)} {n : Int} {ys : List Value} (h : ¬ n ∈ [73, 108, 49]) (hp : IntsAre ys (g1Of M n)) : IntsAre ys (g2Of M n) := by unfold g2Of; rw [if_neg h]; exact hp
theorem g2_yes {M : List (Int × Int)} {n : Int} {ys : List Value} (h : n ∈ [73, 108, 49]) (hp : IntsAre ys (placesIn M [73, 108, 49])) : IntsAre ys (g2Of M n) := by unfold g2Of; rw [if_pos h]; exact hp
theorem cands_yes {M : List (Int × Int)} {n : Int} {t : Tok} (h : (getI M n).isSome = true) : IntsAre [.int ((getI M n).getD 0) t] (candsOf M n) := by unfold candsOf; rw [if_pos h]; exact .cons _ _ .nil
theorem cands_no {M : List (Int × Int)} {n : Int} {ys : List Value} (h : (getI M n).isSome = false) (hp : IntsAre ys (g2Of M n)) : IntsAre ys (candsOf M n) := by rw [g2_cands (by rw [h]; decide)] at hp; exact hp
theorem reads_le {M : List (Int × Int)} {ks : List Int} {i : Nat} (h : ks.length ≤ 16) : ∀ zs ∈ readsOf M (ks.take i), zs.length ≤ 100 := fun zs hz => by rw [readsOf_len hz, List.length_take]; omega
theorem pairs_room {M : List (Int × Int)} {ks : List Int} {n : Int} {acc : List Value} {L : List (Addr × Obj)} (h : Inner acc (pairs (readsOf M ks) (candsOf M n)) L) : acc.toArray.size ≤ sizeLine := by
  rw [List.size_toArray, h.length, pairs_len]
  refine Nat.le_trans (Nat.mul_le_mul (readsOf_le M ks) (candsOf_len M n)) ?_
  rw [sizeLine_eq]; decide
end

-- D4
section
set_option maxRecDepth 100000
set_option maxHeartbeats 8000000
local macro_rules | `(tactic| walk_at "exec For Name Name cons nil") => `(tactic| (k_here; (with_reducible first | show wpAny _ _ (exec (Stmt.For (Expr.Name (Str.ofString "x") _) _ _ [] _) _) _ _ _ | show wpAny _ _ (exec (Stmt.For (Expr.Name (Str.ofString "group") _) _ _ [] _) _) _ _ _); (with_reducible rename Fr _ _ _ _ => lF'); (with_unfolding_all refine' For_invVF lF' ?k1 ?k2 ?_; (case k1 => exact rfl); (case k2 => exact rfl); k_whole)))
local macro_rules | `(tactic| walk_at "pyIter ref") => `(tactic| (k_here; (with_reducible rename Fr _ _ _ _ => lF'); (with_reducible rename News _ _ _ _ => lN'); k_dflt (with_unfolding_all refine' iter_read ?hM ?hh ?hl ?hi lF' lN' ?hR ?hF ?d1 ?d2 ?d3 ?d4 ?d5 (fun i' n' t' u' R' k' ys' IL' oF' h' tk' I' it' v' hn' hin' hoF' e1' e2' e3' e4' hoff' hapart' F' N' => ?_) (fun u' R' k' ys' IL' h' tk' hin' F' N' => ?_); (case hM => assumption); (case hh => rfl); (case hl => assumption); (case hi => assumption); (case hR => rfl); (case hF => assumption); (case d1 => k_ne); (case d2 => k_ne); (case d3 => k_ne); (case d4 => k_ne); (case d5 => k_ne); (all_goals (try clear lF' lN')))))
local macro_rules | `(tactic| walk_at "pyIter ref") => `(tactic| (k_here; (with_reducible show wpAny _ _ (pyIter (Value.ref 47)) _ _ _); (with_reducible rename Fr _ _ _ _ => lF'); (with_reducible rename News _ _ _ _ => lN'); (with_reducible rename Frag.In _ _ => lX'); k_dflt (with_unfolding_all refine' iter_groups ?hM ?hx ?hh ?hl lF' lN' ?hoF ?d1 ?d2 ?d3 (fun h' tk' I2' it2' hni' j1' F' N' => ?_) (fun Fd' k' fv' oF' u' h' tk' I2' it2' hi' hc' f1' f2' f3' hni' j1' F' N' => ?_) (fun Fd' k' fv' oF' u' h' tk' hi' hc' f1' f2' f3' F' N' => ?_); (case hM => assumption); (case hx => rfl); (case hh => rfl); (case hl => exact ⟨_, lX' _ _ (by k_is), rfl, _, rfl⟩); (case hoF => assumption); (case d1 => k_ne); (case d2 => k_ne); (case d3 => k_ne); (all_goals (try clear lF' lN'))) ))
local macro_rules | `(tactic| walk_at "subscriptTail") => `(tactic| (k_here; (with_reducible show wpAny _ _ (subscriptTail _ _ (Value.ref _) (Value.int _ _)) _ _ _); (with_reducible rename IsMap _ _ _ => hMp); k_dflt (refine' map_got hMp ?ho ?hk ?_; (case ho => walk_at "own at"); (case hk => assumption)); intro t'))
local macro_rules | `(tactic| walk_at "compareOp In int ref") => `(tactic| (k_here; (with_reducible first | show wpAny _ _ (compareOp _ _ (Value.ref 45)) _ _ _ | show wpAny _ _ (compareOp _ _ (Value.ref 46)) _ _ _); k_dflt (refine' in_group ?t ?i ?_; (case t => exact kun_topT (by k_asm) (by k_asm) (by k_is)); (case i => repeat constructor))))
local macro_rules | `(tactic| walk_at "eval ListComp") => `(tactic| (k_here; (with_reducible show wpAny _ _ (eval (Expr.ListComp _ [_, _] _ _) _) _ _ _); k_dflt (refine' ListComp2 ?F ?N ?hh ?hclos ?hcell ?hk ?hnames ?hlx ?hly ?hxy ?hdx ?hdy ?hkz ?hdz ?hs ?_; (case F => k_asm); (case N => k_asm); (case hh => rfl); (case hclos => rfl); (case hcell => decide); (case hk => rfl); (case hnames => decide); (case hlx => rfl); (case hly => rfl); (case hxy => decide); (case hdx => decide); (case hdy => decide); (case hkz => (intro C; rfl)); (case hdz => decide); (case hs => (intro _; rfl)); k_whole)))
local macro_rules | `(tactic| walk_at "eval ListComp") => `(tactic| (k_here; (with_reducible show wpAny _ _ (eval (Expr.ListComp _ [_] _ _) _) _ _ _); (with_reducible rename IsMap _ _ _ => hMp); k_dflt (refine' ListComp_src (p := pOf hMp) (R := fun k y => ∃ t, y = Value.int (gOf hMp k) t) ?F ?N ?hclos ?hcell ?hkind ?hnames ?hx ?hs ?_; (case F => k_asm); (case N => k_asm); (case hclos => rfl); (case hcell => decide); (case hkind => rfl); (case hnames => decide); (case hx => rfl); (case hs => (intro _; rfl)))))
local macro_rules | `(tactic| walk_at "CompAt") => `(tactic| (k_here; (with_reducible rename IsMap _ _ _ => hMp); k_dflt (first | refine' ⟨[48, 79, 111], src_tuple rfl (kun_topT (t := 45) ?hF ?hX ?hT) ?hi, ?z, ?t, ?e, ?F, ?N, ?_⟩ | refine' ⟨[73, 108, 49], src_tuple rfl (kun_topT (t := 46) ?hF ?hX ?hT) ?hi, ?z, ?t, ?e, ?F, ?N, ?_⟩); (case hF => k_asm); (case hX => k_asm); (case hT => k_is); (case hi => repeat constructor); (case z => decide); (case F => k_asm); (case N => k_asm); (case e => (intro C k t s₃ m₃ E' hk hpk hn hm keep; exact leaf_got rfl rfl (by decide) rfl rfl (by decide) hn hm ⟨_, keep _ _ (News.get (by k_asm) (by k_mem)), by assumption⟩ (keep _ _ (Fr.keep (by k_asm) _ _ (by assumption))) hMp hpk)); (case t => (intro C k t s₃ m₃ E' hk hn hm keep; exact leaf_in rfl rfl (by decide) rfl rfl (by decide) hn hm ⟨_, keep _ _ (News.get (by k_asm) (by k_mem)), by assumption⟩ (keep _ _ (Fr.keep (by k_asm) _ _ (by assumption))) hMp (by assumption))); intro D' ys' n' h' tk' F' N' o1' hp'; (simp only [LCg.Off1, and_true] at o1'); (have hgp' := got_places hp'); clear hp'; (try k_sweep)))
local macro_rules | `(tactic| walk_at "Comp2At") => `(tactic| (k_here; k_dflt (refine' ⟨_, _, _, _, _, _, _, _, _, _, rfl, ?F, ?N, ?hR, ?hin, ?hIL, ?hz, ?hrd, ?hfl, ?hFm, ?hfi, ?hcz, ?hc, ?_⟩; (case hcz => rfl); (case F => k_asm); (case N => k_asm); (case hR => k_mem); (case hin => assumption); (case hc => exact ⟨_, News.get (by k_asm) (by k_mem), by assumption⟩); (case hFm => k_mem); (case hfi => first | exact cands_yes (by assumption) | exact cands_no (by assumption) (by assumption)); (case hIL => (intro p hp; k_ownIn)); (case hz => exact reads_le (by assumption)); (case hrd => exact Nat.le_trans (readsOf_le _ _) (by decide)); (case hfl => exact candsOf_len _ _); intro D' acc' k' L2' h' tk' F' N' hfr' hin2'; (try k_sweep))))
local macro_rules | `(tactic| walk_at "OwnPost") => `(tactic| (dsimp only [OwnPost]))
local macro_rules | `(tactic| walk_at "OwnEnd") => `(tactic| ((with_reducible show OwnEnd _ _ (GJ _ _ _ _ _ _ _ _ _ _) _ _ _ _); (with_reducible rename Fr _ _ _ _ => lF'); (with_reducible rename News _ _ _ _ => lN'); k_dflt first | (with_unfolding_all refine' gEndA lF' lN' (by assumption) ?hi (by assumption) ?d1 ?d2 ?d3 ?hm; (case hi => first | exact g1_no (by assumption) | exact g2_no (by assumption) (by assumption)); (case d1 => k_ne); (case d2 => k_ne); (case d3 => k_ne); (case hm => (intro z hz; simp only [if_neg hz]))) | (with_unfolding_all refine' gEndB lF' lN' (by assumption) ?hi (by assumption) ?d0 ?d1 ?d2 ?d3 ?hm; (case hi => first | exact g1_yes (by assumption) (by assumption) | exact g2_yes (by assumption) (by assumption)); (case d0 => k_ne); (case d1 => k_ne); (case d2 => k_ne); (case d3 => k_ne); (case hm => (intro z hz; simp only [if_neg hz])))))
local macro_rules | `(tactic| walk_at "OwnEnd") => `(tactic| ((with_reducible show OwnEnd _ _ (RdJ _ _ _ _ _ _ _) _ _ _ _); (with_reducible rename Fr _ _ _ _ => lF'); (with_reducible rename News _ _ _ _ => lN'); k_dflt (with_unfolding_all refine' rdEnd lF' lN' (by assumption) (by assumption) (by assumption) ?hI ?hF ?hP (by assumption) ?e1 ?e4 (by assumption) ?hR ?hm; (case hI => k_memK); (case hF => k_memK); (case hP => k_memK); (case e1 => k_ne); (case e4 => k_ne); (case hR => rfl); (case hm => (intro z h1 h2 h3; simp only [if_neg h1, if_neg h2, if_neg h3])))))
local macro_rules | `(tactic| walk_at "subscriptTail") => `(tactic| (k_here; (with_reducible rename Inner _ (pairs _ _) _ => hIn2'); k_dflt (refine kba_turn (value' := PySem.Expr.Name (PySem.Str.ofString "v") ⟨0, 0, 0, 0⟩) (fun _ => rfl) ?_; refine' kmk_slice ?F ?N ?l ?p ?q ?_ ?s ?t ?z; (case F => k_asm); (case N => k_asm); (case l => exact News.isList (by k_asm) (.head _)); (case p => kmk_part); (case q => kmk_part); (case s => with_unfolding_all rfl); (case t => kmk_pure); (case z => exact pairs_room hIn2'); intro D' h' F' N' l1; rw [pick2] at N'; (try k_sweep))))
theorem readings (w : World) (mean) (mg mb) (rl pl : Addr) (rvs : List Value) (rks : List Int) (po : Obj) (M : List (Int × Int)) (hi : IntsAre rvs rks) (hz : rks.length ≤ 16) (hM : IsMap w po M) (hlo : (pl == sysModules) = false) :
    Con w mean mg mb 65 [.ref rl, .ref pl] [] (fun h => h.IsList rl rvs.toArray ∧ h.get? pl = some po) (fun r tl => ∃ R k ys L', r = .ref R ∧ tl = (R, listOf (List.toArray ys) k) :: L' ∧ Inner ys (readsOf M rks) L') False := by
  unfold Con
  k_fill
  intro dp un gd cn cs a ccd cl outer A₀ base h₀ L m s Q E B F X T GL XB TB hk hdp hun hpre hret hraise
  walk_at "own enter"
  rename_i hg' hL' FG' F' N' B' X' T'
  obtain ⟨hpl, hpo⟩ := hpre
  rename _ = s.heap => hgE
  rw [← hgE] at hpl hpo
  k_steps
  refine hret _ _ _ _ (by k_asm) (keep_of (by assumption) (by assumption)) (by k_asm) (fun p hp => ?_) ⟨_, _, _, _, rfl, rfl, by assumption⟩
  (with_reducible rename News _ _ _ _ => lN)
  rw [← hgE]
  exact (News.fresh (by assumption) hp)
end

-- LBase
section
set_option maxRecDepth 100000
set_option maxHeartbeats 8000000
open PySem.Calls
theorem ks_le63 {n : Nat} (h : ¬ (63 : Int) < (n : Int)) : n ≤ 63 := by omega
section
variable {prog : Program} {w : World} {A : Around} {E : Value → Shared → Prop} {s : Shared}
theorem src_range {r : Addr} {n : Int} {t u v : Tok} (hh : A.handled = none) (hr : IsRange s.heap r 0 n 1 t u v) (h0 : 0 ≤ n) (h1 : n ≤ 64) : IntSrc prog w A (.ref r) (rangeKs 0 n.toNat) s := by
  intro Q E h
  refine wpAny_pyIter_range hr (small_one (by omega) (by omega) (by omega) (by omega)) ?_
  have W := (Walks.range (prog := prog) (w := w) (A := A) hh s.heap.objs.size 0 1 n.toNat).bound
  have e : n.toNat = (rangeKs 0 n.toNat).length := (rangeKs_length 0 n.toNat).symm
  refine h _ _ _ _ _ _ (e ▸ W) ?_ ?_ ?_ ?_ fun b o e => Heap.get?_push_of_some _ e
  · rintro i v ⟨hi, t', rfl⟩
    have hi' : i < n.toNat := by rw [rangeKs_length] at hi; exact hi
    refine ⟨0 + (i : Int) * 1, t', ?_, rfl⟩
    unfold rangeKs
    rw [List.getElem?_map, List.getElem?_range hi']
    simp
  · have e2 : Builtin.Range.rangeSize 0 n 1 = ((rangeKs 0 n.toNat).length : Int) - ((0 : Nat) : Int) := by rw [rangeKs_length, rangeSize_nat]; simp
    rw [e2]
    exact Heap.get?_push_size _ rfl
  · intro b hb; rw [List.mem_singleton.mp hb, Heap.size_push]; exact Nat.lt_succ_self _
  · intro b hb; rw [List.mem_singleton.mp hb]; exact Nat.le_refl _
/-- a value cut down to its bytes -/
def GivenIs (b : Array UInt8) (s : Shared) (v : Value) (s' : Shared) : Prop := ∃ t tk, v = .bytes b t ∧ s' = { s with toks := tk }
theorem GivenIs.rip' {b : Array UInt8} {x : Int} {t : Tok} {tk : Nat} (h : x = 1 → b = rip) (hx : x = 1) : GivenIs b s (.bytes rip t) { s with toks := tk } := ⟨t, tk, by rw [h hx], rfl⟩
theorem GivenIs.self {b : Array UInt8} {t : Tok} {tk : Nat} : GivenIs b s (.bytes b t) { s with toks := tk } := ⟨t, tk, rfl, rfl⟩
theorem cut_bytes {M : Model} {m : Sem Value} {b : Array UInt8} {ks : List Int} {Q : Value → Shared → Prop} (_hb : KBw.bInts b = ks) (h : wpAny M A m (GivenIs b s) E s) (k : ∀ t tk, Q (.bytes b t) { s with toks := tk }) : wpAny M A m Q E s :=
  wpAny_mono h (fun v s' q => by obtain ⟨t, tk, rfl, rfl⟩ := q; exact k t tk) fun _ _ e => e
variable {env : Env} {scope : Scope} {cl : List (Str × Addr)} {C : Addr} {m : Str → Option Value}
/-- signs[k] in a comprehension -/
theorem leaf_sign {x y : Str} {px py pos : Pos} {c : Addr} {b : Array UInt8} {tb : Tok} {ks : List Int} {k : Int} {t : Tok} {E' : Value → Shared → Prop} (hk : scope.kind = .function) (hl : scope.names.lookup x = some .local) (hd : (x == ("__debug__" : Str)) = false)
    (hly : (compEnvC scope cl C env).kindOf y = some .cell) (hc : cl.lookup y = some c) (hdy : (y == ("__debug__" : Str)) = false)
    (hn : s.heap.Ns C m) (hm : m x = some (.int k t)) (hv : s.heap.IsCell c (some (.bytes b tb))) (hb : KBw.bInts b = ks) (hz : ks.length ≤ 64) (h0 : 0 ≤ k) (h1 : k < (ks.length : Int)) :
    wpAny (model prog w) A (eval (.Subscript (.Name y py) (.Name x px) pos) (compEnvC scope cl C env)) (fun v s₄ => (∃ t, v = .int (ks.getD k.toNat 0) t) ∧ Keeps s s₄) E' s := by
  refine Subscript_ (leaf_cell hk hly hc hdy hv (leaf_name hk hl hd hn hm ?_))
  exact KBw.item_K hb (by omega) h0 h1 fun t' k' _ _ => ⟨⟨t', rfl⟩, s.heap, k', rfl, fun _ _ e => e⟩
end
theorem range_mem {n k : Int} (h : k ∈ rangeKs 0 n.toNat) : 0 ≤ k ∧ k < n := by
  obtain ⟨i, hi, rfl⟩ := List.mem_map.mp h
  have := List.mem_range.mp hi
  omega
/-- {signs[k]: k for k in range(len(signs))} is the map of the signs -/
theorem rows_by (ks : List Int) : rowsBy (fun k => ks.getD k.toNat 0) (rangeKs 0 ((ks.length : Nat) : Int).toNat) = rowsOf ks := by
  unfold rowsBy rowsOf rangeKs
  rw [Int.toNat_natCast, List.foldl_map]
  have e : ks.zipIdx = (List.range ks.length).map fun i => (ks.getD i 0, i) := by
    refine List.ext_getElem (by simp) fun i h1 h2 => ?_
    simp only [List.length_zipIdx] at h1
    simp [List.getD, List.getElem?_eq_getElem h1]
  rw [e, List.foldl_map]
  congr 1
  funext D i
  simp
def kfOf {b : Array UInt8} {ks : List Int} (_ : KBw.bInts b = ks) : Int → Int := fun k => ks.getD k.toNat 0
theorem rows_by' {b : Array UInt8} {ks : List Int} (hb : KBw.bInts b = ks) : rowsBy (kfOf hb) (rangeKs 0 ((ks.length : Nat) : Int).toNat) = rowsOf ks := rows_by ks
theorem row_nil : ([] : List Int).length ≤ ([] : List Int).length ∧ ∀ x ∈ ([] : List Int), 33 ≤ x ∧ x < 127 := ⟨Nat.le_refl _, fun x hx => by cases hx⟩
theorem row_more {row pre : List Int} {v k : Int} (h : row.length ≤ pre.length ∧ ∀ x ∈ row, 33 ≤ x ∧ x < 127) (hv : 33 ≤ v ∧ v < 127) : (row ++ [v]).length ≤ (pre ++ [k]).length ∧ ∀ x ∈ row ++ [v], 33 ≤ x ∧ x < 127 := by
  refine ⟨by simp only [List.length_append, List.length_cons, List.length_nil]; omega, fun x hx => ?_⟩
  rcases List.mem_append.mp hx with h1 | h1
  · exact h.2 x h1
  · rw [List.mem_singleton.mp h1]; exact hv
theorem alike_in (n d : Int) : 33 ≤ [48, 79, 111, 73, 108, 49].getD (n.fmod 6).toNat d ∧ [48, 79, 111, 73, 108, 49].getD (n.fmod 6).toNat d < 127 := by
  have h0 := Int.fmod_nonneg_of_pos n (show (0 : Int) < 6 by decide)
  have h1 := Int.fmod_lt_of_pos n (show (0 : Int) < 6 by decide)
  have h2 : (n.fmod 6).toNat < 6 := by omega
  generalize (n.fmod 6).toNat = i at h2
  match i, h2 with
  | 0, _ => exact ⟨(show (33 : Int) ≤ 48 by decide), (show (48 : Int) < 127 by decide)⟩
  | 1, _ => exact ⟨(show (33 : Int) ≤ 79 by decide), (show (79 : Int) < 127 by decide)⟩
  | 2, _ => exact ⟨(show (33 : Int) ≤ 111 by decide), (show (111 : Int) < 127 by decide)⟩
  | 3, _ => exact ⟨(show (33 : Int) ≤ 73 by decide), (show (73 : Int) < 127 by decide)⟩
  | 4, _ => exact ⟨(show (33 : Int) ≤ 108 by decide), (show (108 : Int) < 127 by decide)⟩
  | 5, _ => exact ⟨(show (33 : Int) ≤ 49 by decide), (show (49 : Int) < 127 by decide)⟩
theorem more_in (n : Int) : 33 ≤ 33 + n.fmod 94 ∧ 33 + n.fmod 94 < 127 := by
  have h0 := Int.fmod_nonneg_of_pos n (show (0 : Int) < 94 by decide)
  have h1 := Int.fmod_lt_of_pos n (show (0 : Int) < 94 by decide)
  omega
theorem sign_in {ks : List Int} (h : RowOk ks) (n d : Int) : 33 ≤ ks.getD (n.fmod (ks.length : Int)).toNat d ∧ ks.getD (n.fmod (ks.length : Int)).toNat d < 127 := by
  have hl := h.lo
  have h0 := Int.fmod_nonneg_of_pos n (show (0 : Int) < (ks.length : Int) by omega)
  have h1 := Int.fmod_lt_of_pos n (show (0 : Int) < (ks.length : Int) by omega)
  have h2 : (n.fmod (ks.length : Int)).toNat < ks.length := by omega
  rw [List.getD, List.getElem?_eq_getElem h2]
  exact h.sign _ (List.getElem_mem h2)
theorem chr_ok {row : List Int} {k : Int} (h : ∀ x ∈ row, 33 ≤ x ∧ x < 127) (hk : k ∈ row) : (decide (k < 0) || decide (k > 0x10FFFF)) = false := by
  have := h k hk
  simp only [Bool.or_eq_false_iff, decide_eq_false_iff_not]
  omega
def chrS (k : Int) : Str := ⟨#[k.toNat]⟩
theorem row_le {row : List Int} {x : Int} (h : row.length ≤ (rangeKs 0 (x.fmod 16 - 0).toNat).length) : row.length ≤ 16 := by
  rw [rangeKs_length] at h
  have := Int.fmod_lt_of_pos x (show (0 : Int) < 16 by decide)
  omega
section
variable {prog : Program} {w : World} {A : Around} {E : Value → Shared → Prop} {s : Shared} {scope : Scope} {cl : List (Str × Addr)} {C : Addr} {m : Str → Option Value} {name : Str} {sc : Scope} {L a : Addr} {cd : Value} {cells : List (Str × Addr)} {h₀ : Heap} {K : Frag}
  {p : Program} {loose : List Str} {mean : ExcName → Option Value} {mg mb : Str → Option Value}
/-- chr(x) in a comprehension -/
theorem leaf_chr {x : Str} {p1 p2 p3 : Pos} {k : Int} {t : Tok} {row : List Int} {E' : Value → Shared → Prop} (X : K.In h₀) (T : Top p loose mean mg mb h₀) (ex : nsIn K mainGlobals (Str.ofString "chr") = some none) (keep : ∀ b o, h₀.get? b = some o → s.heap.get? b = some o)
    (hk : scope.kind = .function) (hl : scope.names.lookup x = some .local) (hd : (x == ("__debug__" : Str)) = false) (hx : (compEnvC scope cl C (envX name sc L a cd cells)).kindOf (Str.ofString "chr") = some .globalImplicit)
    (hn : s.heap.Ns C m) (hm : m x = some (.int k t)) (hr : ∀ x ∈ row, 33 ≤ x ∧ x < 127) (hkr : k ∈ row) :
    wpAny (model prog w) A (eval (.Call (.Name (Str.ofString "chr") p1) [.Name x p2] [] p3) (compEnvC scope cl C (envX name sc L a cd cells))) (fun v s₄ => (∃ t, v = .str (chrS k) t) ∧ Keeps s s₄) E' s := by
  have T' : TopRead p loose mg mb h₀ := topRead_of T
  refine Call_ (Calls.Name_function_global hk hx (Calls.loadGlobal_builtin (env := compEnvC scope cl C (envX name sc L a cd cells)) (T'.g.keeps keep) (mg_none_of X T'.g ex) (T'.b.keeps keep) ((T'.builtins (Str.ofString "chr") (by decide)).trans PyProof.Rows.boot_chr) ?_) (by decide))
  refine Calls.callWith_builtin rfl (Calls.evalArgs_plain (spliced_more (leaf_name hk hl hd hn hm (spliced_none ?_))))
  exact P.chr_of_int (chr_ok hr hkr) ⟨⟨_, rfl⟩, keeps_tok⟩
theorem strs_of {f : Int → Str} : ∀ {ks : List Int} {ys : List Value}, Paired (fun k y => ∃ t, y = Value.str (f k) t) ks ys → StrsAre ys (ks.map f) := by
  intro ks
  induction ks with
  | nil => intro ys h; cases h; exact .nil
  | cons k ks ih =>
    intro ys h
    cases h with
    | cons h1 h2 => obtain ⟨t, rfl⟩ := h1; exact .cons _ t (ih h2)
theorem glued_chr : ∀ row : List Int, (Str.join (Str.ofString "") (row.map chrS)).cps = (row.map fun k => k.toNat).toArray
  | [] => rfl
  | [a] => rfl
  | a :: b :: r => by
    have ih := glued_chr (b :: r)
    show ((chrS a ++ Str.ofString "") ++ Str.join (Str.ofString "") ((b :: r).map chrS)).cps = _
    have e : ((chrS a ++ Str.ofString "") ++ Str.join (Str.ofString "") ((b :: r).map chrS)).cps = #[a.toNat] ++ #[] ++ (Str.join (Str.ofString "") ((b :: r).map chrS)).cps := rfl
    rw [e, ih]
    simp
theorem told_signs {row : List Int} (h : ∀ x ∈ row, 33 ≤ x ∧ x < 127) : SignsS (Txt.join (Str.ofString "") (row.map chrS)) ∧ codes (Txt.join (Str.ofString "") (row.map chrS)) = row := by
  have e : Txt.join (Str.ofString "") (row.map chrS) = Str.join (Str.ofString "") (row.map chrS) := StrLaws.glued_eq_join _ _
  rw [e]
  refine ⟨fun c hc => ?_, ?_⟩
  · rw [glued_chr] at hc
    obtain ⟨k, hk, rfl⟩ := List.mem_map.mp (by simpa using hc)
    have := h k hk
    omega
  · unfold codes
    rw [glued_chr]
    show ((row.map fun k => k.toNat).map fun c => Int.ofNat c) = row
    rw [List.map_map]
    refine (List.map_congr_left (g := _root_.id) fun k hk => ?_).trans (List.map_id _)
    have := h k hk
    show ((k.toNat : Nat) : Int) = k
    omega
theorem chr_sum : ∀ row : List Int, ((row.map chrS).map (·.length)).sum = row.length
  | [] => rfl
  | a :: r => by
    have ih := chr_sum r
    simp only [List.map_cons, List.sum_cons, List.length_cons]
    rw [ih]
    have : (chrS a).length = 1 := rfl
    omega
theorem join_told {D : Addr} {items : List Value} {row : List Int} {t : Tok} {Q : Value → Shared → Prop} (hl : s.heap.IsList D items.toArray) (hi : StrsAre items (row.map chrS)) (hz : row.length ≤ 16) (hr : ∀ x ∈ row, 33 ≤ x ∧ x < 127)
    (h : ∀ x t' k, SignsS x → codes x = row → Q (.str x t') { s with toks := k }) : wpAny (model prog w) A (call (.builtin "str.join") [.str (Str.ofString "") t, .ref D]) Q E s := by
  refine join_listW hl hi (Nat.zero_le _) ?_ fun t' k => h _ t' k (told_signs hr).1 (told_signs hr).2
  rw [chr_sum, List.length_map]
  omega
end
theorem strs_all {f : Int → Str} {ks : List Int} {ys : List Value} (h : Paired (fun k y => ∃ t, y = Value.str (f k) t) (ks.filter fun _ => true) ys) : StrsAre ys (ks.map f) := by
  rw [List.filter_eq_self.mpr fun _ _ => rfl] at h
  exact strs_of h
end

-- MTry
section
set_option maxRecDepth 100000
set_option maxHeartbeats 8000000
open PySem.Calls
section
variable {prog : Program} {w : World} {A₀ : Around} {E : Value → Shared → Prop} {s' : Shared} {h₀ G : Heap} {outer : List Env} {L a e : Addr} {m : Str → Option Value} {name : Str} {scope : Scope} {cd : Value} {cl : List (Str × Addr)}
  {b₀ : Stmt} {suite : List Stmt} {pos np : Pos} {rest : List ExceptHandler} {Q : Flow → Shared → Prop} {news : List (Addr × Obj)} {KF : Frag}
  {p : Program} {loose : List Str} {mean : ExcName → Option Value} {mg mb : Str → Option Value} {x : Str} {X T' : String}
theorem caught_X (K : Below A₀ h₀ outer h₀) (F : Fr h₀ L G m) (N : News h₀ L G news) (R : RaisedSN h₀ G (envX name scope L a cd cl :: outer) e (.type X) [] s'.heap) (hsm : G.UpToSlots s'.heap) (XB : KF.In h₀) (TB : Top p loose mean mg mb h₀)
    (ex : nsIn KF mainGlobals x = some none) (hv : bootBuiltins x = some (.type T')) (hn' : x ≠ "__name__")
    (hexc : isSubtype (.type T') (.type "BaseException") = pure true) (hnt : isSubtype (.type ((Manifest.find? T').elim "type" fun y => y.metatype)) (.type "tuple") = pure false) (hsub : isSubtype (.type X) (.type T') = pure true)
    (k : ∀ h', Fr h₀ L h' m → News h₀ L h' news → wpAny (model prog w) ((A₀.deeper (envX name scope L a cd cl)).mark (some (.ref e))) (execs (b₀ :: suite) (envX name scope L a cd cl)) Q E { s' with heap := h' })
    (hk : scope.kind = .function) (hx : (envX name scope L a cd cl).kindOf x = some .globalImplicit) (hd : (x == ("__debug__" : Str)) = false)
    (hE : PassesOwnAt (model prog w) ((A₀.deeper (envX name scope L a cd cl)).mark (some (.ref e))) (A₀.deeper (envX name scope L a cd cl)) (envX name scope L a cd cl) E) :
    wpAny (model prog w) (A₀.deeper (envX name scope L a cd cl)) (noteFrame (.ref e) (envX name scope L a cd cl))
      (fun _ s₂ => wpAny (model prog w) (A₀.deeper (envX name scope L a cd cl)) (setFlight (.ref e) none) (fun _ s₃ =>
        wpAny (model prog w) (A₀.deeper (envX name scope L a cd cl)) (handleBy (.ref e) (envX name scope L a cd cl) (.ExceptHandler (some (.Name x np)) none (b₀ :: suite) pos :: rest)) Q E s₃) E s₂) E s' := by
  obtain ⟨B, a0, hB, hBG, _, hfl⟩ := R
  have hL : B.get? L = none := by
    obtain ⟨_, ⟨L', _, hf, hn', _⟩, _⟩ := hfl.2.2.1
    obtain rfl : L = L' := Option.some.inj hf
    exact hn'
  have hl : ∀ q ∈ news, B.get? q.1 = some q.2 := fun q hq => hBG _ _ (N q hq).1 fun hm => by
    obtain ⟨env, he, hf⟩ := List.mem_filterMap.mp hm
    rcases List.mem_cons.mp he with rfl | he
    · exact (N q hq).2.1 (Option.some.inj hf).symm
    · obtain ⟨o, ho, _⟩ := (K.frames.mem (List.mem_filterMap.mpr ⟨env, he, hf⟩)).2
      rw [(N q hq).2.2] at ho; cases ho
  refine wpAny_looks_onW (Around.frames_deeper K.stack) rfl hfl fun h₄ hheld₄ hsm₄ => ?_
  refine wpAny_landsW hheld₄ fun h₅ hheld hsm₅' => ?_
  have hsm₅ := hsm₄.trans hsm₅'
  have hheld' := flyingW_base hB hheld
  have F₅ := F.of_stays hheld'.1 (hsm.trans hsm₅)
  obtain ⟨ob, hob, hobc⟩ := hheld'.there
  refine wpAny_handleBy_builtin (X := X) (T := T') (b := true) hexc hnt hsub (nameX_B F₅ XB (topRead_of TB) ex hv hn' ⟨rfl, ⟨ob, hob, hobc⟩, ?_⟩ hk hx hd)
  refine lands_againW hheld fun h₆ hfl₆ hsm₆ => ?_
  have F₆ := F.of_stays (flyingW_base hB hfl₆).1 ((hsm.trans hsm₅).trans hsm₆)
  exact wpAny_passesOwnAt hE (k h₆ F₆ fun q hq => ⟨hfl₆.1 _ _ (hl q hq), (fun z => by have := hl q hq; rw [z, hL] at this; cases this), (N q hq).2.2⟩)
end
/-- a text of the signs ls -/
def TextIs (v : Value) (ls : List Int) : Prop :=
  ls.length ≤ 16 ∧ ((∃ x t, v = .str x t ∧ SignsS x ∧ codes x = ls) ∨ (∃ b t, v = .bytes b t ∧ SignsB b ∧ KBw.bInts b = ls))
def NumIs (P : Bool) (n : Int) (v : Value) : Prop := (P = true ∧ ∃ t, v = .int n t) ∨ (P = false ∧ ∃ t, v = .str (Str.ofString "refused") t)
def GotIs (P : Bool) (xs : List Int) (v : Value) : Prop := (P = true ∧ ∃ b t, v = .bytes b t ∧ KBw.bInts b = xs) ∨ (P = false ∧ ∃ t, v = .str (Str.ofString "refused") t)
theorem dec_intT (w : World) (mean) (mg mb) (args : List Value) (kw : List (Str × Value)) (b : Array UInt8) (v : Value) (tb : Tok) (fx : Bool) (ks ls : List Int) (hb : KBw.bInts b = ks) (hv : TextIs v ls) (hz : ks.length ≤ 64) (hsb : SignsB b)
    (hbind : Binder w 35 ⟨args, kw⟩ [(Str.ofString "v", v), (Str.ofString "alphabet", .bytes b tb), (Str.ofString "autofix", .bool fx)]) :
    Con w mean mg mb 35 args kw (fun _ => True) (fun r tl => tl = [] ∧ allIn (mapOf fx ks) ls = true ∧ ∃ t, r = .int (valL (mapOf fx ks) ks.length ls) t) (allIn (mapOf fx ks) ls = false) 50 := by
  obtain ⟨hl, h⟩ := hv
  rcases h with ⟨x, t, rfl, hs, hc⟩ | ⟨bb, t, rfl, hs, hc⟩
  · exact dec_intS w mean mg mb args kw b x tb t fx ks ls hb ((asciiOf_ints hs).trans hc) hz hsb hs (by rw [hc]; omega) hbind
  · exact dec_intB w mean mg mb args kw b bb tb t fx ks ls hb hc hz hsb hs hbind
theorem dec_bT (w : World) (mean) (mg mb) (args : List Value) (kw : List (Str × Value)) (b : Array UInt8) (v : Value) (tb : Tok) (fx : Bool) (ks ls : List Int) (hb : KBw.bInts b = ks) (hv : TextIs v ls) (hz : ks.length ≤ 64) (hsb : SignsB b)
    (hbind : Binder w 44 ⟨args, kw⟩ [(Str.ofString "v", v), (Str.ofString "alphabet", .bytes b tb), (Str.ofString "autofix", .bool fx)]) :
    Con w mean mg mb 44 args kw (fun _ => True) (fun r tl => tl = [] ∧ allIn (mapOf fx ks) (stripL ks ls) = true ∧ ∃ bb t, r = .bytes bb t ∧ KBw.bInts bb = decOf (mapOf fx ks) ks ls) (allIn (mapOf fx ks) (stripL ks ls) = false) 60 := by
  obtain ⟨hl, h⟩ := hv
  rcases h with ⟨x, t, rfl, hs, hc⟩ | ⟨bb, t, rfl, hs, hc⟩
  · exact dec_bS w mean mg mb args kw b x tb t fx ks ls hb ((asciiOf_ints hs).trans hc) hz (by omega) hsb hs (asciiOf_signs hs) (by rw [hc]; omega) hbind
  · exact dec_bB w mean mg mb args kw b bb tb t fx ks ls hb hc hz (by omega) hsb hs hbind
/-- what a try statement that sets one name leaves -/
def TryJ (h₀ : Heap) (L : Addr) (m : Str → Option Value) (news : List (Addr × Obj)) (x : Str) (Res : Value → Prop) (s : Shared) (f : Flow) (s' : Shared) : Prop :=
  f = .next ∧ ∃ h' tk' m' v, s' = { s with heap := h', toks := tk' } ∧ Fr h₀ L h' m' ∧ News h₀ L h' news ∧ m' x = some v ∧ Res v ∧ ∀ z, z ≠ x → m' z = m z
section
variable {M : Model} {A : Around} {E : Value → Shared → Prop} {s : Shared} {h₀ : Heap} {L : Addr} {m : Str → Option Value} {news : List (Addr × Obj)} {Q : Flow → Shared → Prop} {c : Sem Flow}
theorem cut_try (x : Str) (Res : Value → Prop) (_F : Fr h₀ L s.heap m) (_N : News h₀ L s.heap news) (h : wpAny M A c (TryJ h₀ L m news x Res s) E s)
    (k : ∀ h' tk' v, Res v → Fr h₀ L h' (fun y => if y = x then some v else m y) → News h₀ L h' news → Q .next { s with heap := h', toks := tk' }) : wpAny M A c Q E s := by
  refine wpAny_mono h (fun f s' q => ?_) fun _ _ e => e
  obtain ⟨rfl, h', tk', m', v, rfl, F', N', hx, hr, hs⟩ := q
  refine k h' tk' v hr ?_ N'
  have e : (fun y => if y = x then some v else m y) = m' := by
    funext y
    by_cases q : y = x
    · simp [q, hx]
    · simp only [if_neg q]; exact (hs y q).symm
  rw [e]; exact F'
theorem TryJ.intro {x : Str} {Res : Value → Prop} {h' : Heap} {tk' : Nat} {m' : Str → Option Value} {v : Value} (F : Fr h₀ L h' m') (N : News h₀ L h' news) (hx : m' x = some v) (hr : Res v) (hs : ∀ z, z ≠ x → m' z = m z) :
    TryJ h₀ L m news x Res s .next { s with heap := h', toks := tk' } := ⟨rfl, h', tk', m', v, rfl, F, N, hx, hr, hs⟩
theorem cut_num {v : Value} {b : Array UInt8} {ks ls : List Int} (x : Str) (fx : Bool) (_hb : KBw.bInts b = ks) (_ht : TextIs v ls) (_F : Fr h₀ L s.heap m) (_N : News h₀ L s.heap news)
    (h : wpAny M A c (TryJ h₀ L m news x (NumIs (allIn (mapOf fx ks) ls) (valL (mapOf fx ks) ks.length ls)) s) E s)
    (k : ∀ h' tk' v, NumIs (allIn (mapOf fx ks) ls) (valL (mapOf fx ks) ks.length ls) v → Fr h₀ L h' (fun y => if y = x then some v else m y) → News h₀ L h' news → Q .next { s with heap := h', toks := tk' }) : wpAny M A c Q E s :=
  cut_try x _ _F _N h k
theorem cut_got {v : Value} {b : Array UInt8} {ks ls : List Int} (x : Str) (fx : Bool) (_hb : KBw.bInts b = ks) (_ht : TextIs v ls) (_F : Fr h₀ L s.heap m) (_N : News h₀ L s.heap news)
    (h : wpAny M A c (TryJ h₀ L m news x (GotIs (allIn (mapOf fx ks) (stripL ks ls)) (decOf (mapOf fx ks) ks ls)) s) E s)
    (k : ∀ h' tk' v, GotIs (allIn (mapOf fx ks) (stripL ks ls)) (decOf (mapOf fx ks) ks ls) v → Fr h₀ L h' (fun y => if y = x then some v else m y) → News h₀ L h' news → Q .next { s with heap := h', toks := tk' }) : wpAny M A c Q E s :=
  cut_try x _ _F _N h k
end
theorem TextIs.ofS {x : Str} {t : Tok} {row : List Int} (hs : SignsS x) (hc : codes x = row) (hl : row.length ≤ 16) : TextIs (.str x t) row := ⟨hl, .inl ⟨x, t, rfl, hs, hc⟩⟩
theorem TextIs.ofB {b : Array UInt8} {t : Tok} {row : List Int} (hb : KBw.bInts b = row) (hr : ∀ x ∈ row, 33 ≤ x ∧ x < 127) (hl : row.length ≤ 16) : TextIs (.bytes b t) row := by
  refine ⟨hl, .inr ⟨b, t, rfl, fun x hx => ?_, hb⟩⟩
  have := hr (x.toNat : Int) (hb ▸ List.mem_map.mpr ⟨x, hx, rfl⟩)
  omega
def TextJ (h₀ : Heap) (L : Addr) (m : Str → Option Value) (news : List (Addr × Obj)) (row : List Int) (s : Shared) (v : Value) (s' : Shared) : Prop :=
  ∃ h' tk', s' = { s with heap := h', toks := tk' } ∧ Fr h₀ L h' m ∧ News h₀ L h' news ∧ TextIs v row
theorem cut_text {M : Model} {A : Around} {E : Value → Shared → Prop} {s : Shared} {h₀ : Heap} {L : Addr} {m : Str → Option Value} {news : List (Addr × Obj)} {Q : Value → Shared → Prop} {c : Sem Value} {x : Str} {row : List Int} (_hs : SignsS x) (_hc : codes x = row) (_F : Fr h₀ L s.heap m) (_N : News h₀ L s.heap news)
    (h : wpAny M A c (TextJ h₀ L m news row s) E s) (k : ∀ h' tk' v, TextIs v row → Fr h₀ L h' m → News h₀ L h' news → Q v { s with heap := h', toks := tk' }) : wpAny M A c Q E s :=
  wpAny_mono h (fun v s' q => by obtain ⟨h', tk', rfl, F', N', ht⟩ := q; exact k h' tk' v ht F' N') fun _ _ e => e
theorem row_in {row : List Int} (h : ∀ x ∈ row, 33 ≤ x ∧ x < 127) : KBa.In row := fun x hx => by have := h x hx; omega
theorem btc_hb {b : Array UInt8} {ks : List Int} {x : Int} (h : x = 0 → b = btc) (hx : x = 0) (hb : KBw.bInts b = ks) : KBw.bInts btc = ks := h hx ▸ hb
theorem btc_sb {b : Array UInt8} {x : Int} (h : x = 0 → b = btc) (hx : x = 0) (hb : SignsB b) : SignsB btc := h hx ▸ hb
section
variable {w : World} {mean : ExcName → Option Value} {mg mb : Str → Option Value} {f : Addr} {vs : List Value} {kw : List (Str × Value)} {Pre : Heap → Prop} {Post : Value → List (Addr × Obj) → Prop} {Ex : Prop} {n : Nat}
  {dp un : Nat} {gd : Option (List Code)} {cn : Str} {cs : Scope} {a : Addr} {ccd : Value} {cl : List (Str × Addr)} {outer : List Env} {A₀ : Around} {base h₀ : Heap} {L : Addr} {m : Str → Option Value} {news : List (Addr × Obj)} {s : Shared} {Q E : Value → Shared → Prop}
theorem con_use2 (B : Below A₀ base outer h₀) (F : Fr h₀ L s.heap m) (N : News h₀ L s.heap news) (X : (hd.heap_39 w.params).In h₀)
    (T : Top hd.view_39 (looseW hd.view_39 [Str.ofString "b58decode_int", Str.ofString "b58decode"]) mean mg mb h₀)
    (GL : Glob 0 mg mb (List.map itemOf (recsOf hd.view_39)) (scalarsOf [] ++ constsW hd.view_39) [] (namesW hd.view_39 [Str.ofString "b58decode_int", Str.ofString "b58decode"]) base)
    (XB : (hd.heap_39 w.params).In base) (TB : Top hd.view_39 (looseW hd.view_39 [Str.ofString "b58decode_int", Str.ofString "b58decode"]) mean mg mb base) (hk : cs.kind = .function) (C : Con w mean mg mb f vs kw Pre Post Ex n) (hdp : dp + n < recursionLimit) (hun : un + (n + 60) < cLine) (hpre : Pre s.heap)
    (ret : ∀ (v : Value) (tl : List (Addr × Obj)) (h' : Heap) (tk' : Nat), Fr h₀ L h' m → News h₀ L h' (tl ++ news) → (∀ p ∈ tl, LCg.Off1 p.1 news) → Post v tl → Q v { s with heap := h', toks := tk' })
    (raise : ∀ (e : Addr) (h' : Heap) (tk' : Nat), RaisedSN base s.heap (envX cn cs L a ccd cl :: outer) e (.type "ValueError") [] h' → s.heap.UpToSlots h' → Ex → E (.ref e) { s with heap := h', toks := tk' }) :
    wpAny (model PySem.Challenge.rw_fe0039_01.row.prog w) (ktrTop dp un gd cn cs L a ccd cl outer) (call (.ref f) vs kw) Q E s :=
  con_use B F N X T GL XB TB hk C hdp hun hpre ret fun g e h' tk' hg _ R U hx => raise e h' tk' (hg ▸ R) (hg ▸ U) hx
end
end

-- LEnd
section
set_option maxRecDepth 100000
set_option maxHeartbeats 8000000
open PySem.Calls
def IsLead (xs : List Int) (i : Nat) : Prop := i ≤ xs.length ∧ (∀ j, j < i → xs.getD j 0 = 0) ∧ (i < xs.length → xs.getD i 0 ≠ 0)
def EndFact (ks ls ranks ds : List Int) : Prop := ∀ f g, IsLead ranks f → IsLead ds g → g ≠ f → ls.take f ≠ List.replicate f (ks.getD 0 0)
def Refd (v : Value) : Prop := ∃ t, v = .str (Str.ofString "refused") t
/-- what the readings and the four answers can be -/
inductive Case3 (ks ls : List Int) : List Value → List (Addr × Obj) → Value → Value → Value → Value → Prop
  | none {t1 t2 t3 t4 : Tok} : Case3 ks ls [] [] (.str (Str.ofString "refused") t1) (.str (Str.ofString "refused") t2) (.str (Str.ofString "refused") t3) (.str (Str.ofString "refused") t4)
  | two {a1 a2 : Addr} {o1 o2 : Obj} {t1 t2 t3 t4 : Tok} : Case3 ks ls [.ref a1, .ref a2] [(a1, o1), (a2, o2)] (.str (Str.ofString "refused") t1) (.str (Str.ofString "refused") t2) (.str (Str.ofString "refused") t3) (.str (Str.ofString "refused") t4)
  | all {a : Addr} {vs : List Value} {k : Nat} {ranks ds : List Int} {tot : Int} {bb : Array UInt8} {t1 t2 t3 t4 : Tok} (hi : IntsAre vs ranks) (hl : ranks.length ≤ 16) (hr : ∀ x ∈ ranks, 0 ≤ x ∧ x < 64) (hd : ds.length ≤ 120) (hb : KBw.bInts bb = ds)
      (h1 : numN (ks.length : Int) ranks (rangeKs 0 ((ranks.length : Int) - 0).toNat) = tot) (h2 : numN 256 ds (rangeInts 0 1 ds.length) = tot) (he : EndFact ks ls ranks ds) (hp : (ls.filter fun x => (getI (rowsOf ks) x).isSome).length = ls.length) :
      Case3 ks ls [.ref a] [(a, listOf vs.toArray k)] (.int tot t1) (.bytes bb t2) (.int tot t3) (.bytes bb t4)
  | some {a : Addr} {vs : List Value} {k : Nat} {ranks ds : List Int} {tot : Int} {bb : Array UInt8} {t1 t2 t3 t4 : Tok} (hi : IntsAre vs ranks) (hl : ranks.length ≤ 16) (hr : ∀ x ∈ ranks, 0 ≤ x ∧ x < 64) (hd : ds.length ≤ 120) (hb : KBw.bInts bb = ds)
      (h1 : numN (ks.length : Int) ranks (rangeKs 0 ((ranks.length : Int) - 0).toNat) = tot) (h2 : numN 256 ds (rangeInts 0 1 ds.length) = tot) (he : EndFact ks ls ranks ds) (hp : (ls.filter fun x => (getI (rowsOf ks) x).isSome).length < ls.length) :
      Case3 ks ls [.ref a] [(a, listOf vs.toArray k)] (.int tot t1) (.bytes bb t2) (.str (Str.ofString "refused") t3) (.str (Str.ofString "refused") t4)
def LeadEnd (h₀ : Heap) (L : Addr) (m₀ : Str → Option Value) (y : Str) (news : List (Addr × Obj)) (i : Nat) (xs : List Int) (s s₂ : Shared) : Prop :=
  ∃ h' tk' m', s₂ = { s with heap := h', toks := tk' } ∧ i < xs.length ∧ xs.getD i 0 = 0 ∧ Fr h₀ L h' m' ∧ News h₀ L h' news ∧ (∃ t, m' y = some (.int ((i : Int) + 1) t)) ∧ ∀ x, x ≠ y → m' x = m₀ x
def LeadPost (h₀ : Heap) (L : Addr) (m₀ : Str → Option Value) (y : Str) (news : List (Addr × Obj)) (i : Nat) (xs : List Int) (s : Shared) (f : Flow) (s₂ : Shared) : Prop :=
  match f with
  | .next => LeadEnd h₀ L m₀ y news i xs s s₂
  | _ => False
section
variable {prog : Program} {w : World} {A : Around} {E : Value → Shared → Prop} {s : Shared} {env : Env} {test : PySem.Expr} {body : List Stmt} {Q : Flow → Shared → Prop} {h₀ : Heap} {m₀ : Str → Option Value} {news : List (Addr × Obj)}
theorem while_lead (y : Str) (xs : List Int) {t₀ : Tok} {pos : Pos} (hE : PassesOwn (model prog w) A env E) (F : Fr h₀ env.locals s.heap m₀) (N : News h₀ env.locals s.heap news) (hy : m₀ y = some (.int 0 t₀))
    (turn : ∀ (i : Nat) (ta : Tok) (h : Heap) (tk : Nat), i ≤ xs.length → (∀ j, j < i → xs.getD j 0 = 0) → Fr h₀ env.locals h (fun x => if x = y then some (.int (i : Int) ta) else m₀ x) → News h₀ env.locals h news →
      wpAny (model prog w) A (isTrue test env (eval test env)) (fun b s₂ => WhlIf b (wpAny (model prog w) A (execs body env) (LeadPost h₀ env.locals m₀ y news i xs s) E s₂) (wpAny (model prog w) A (execs [] env) Q E s₂)) E { s with heap := h, toks := tk }) :
    wpAny (model prog w) A (exec (.While test body [] pos) env) Q E s := by
  have key : ∀ (j i : Nat) ta m₁ h tk, i ≤ xs.length → xs.length - i ≤ j → (∀ j, j < i → xs.getD j 0 = 0) → m₁ y = some (.int (i : Int) ta) → (∀ x, x ≠ y → m₁ x = m₀ x) → Fr h₀ env.locals h m₁ → News h₀ env.locals h news →
      WhlRest prog w A E env test body [] Q (j + 1) { s with heap := h, toks := tk } := by
    have form : ∀ (i : Nat) ta m₁, m₁ y = some (.int (i : Int) ta) → (∀ x, x ≠ y → m₁ x = m₀ x) → (fun x => if x = y then some (.int (i : Int) ta) else m₀ x) = m₁ := by
      intro i ta m₁ hm hs
      funext x
      by_cases h1 : x = y
      · simp [h1, hm]
      · simp only [if_neg h1]; exact (hs x h1).symm
    intro j
    induction j with
    | zero =>
      intro i ta m₁ h tk hi hj hz hm hs F₁ N₁
      refine whl_turn hE (wpAny_mono (turn i ta h tk hi hz (by rw [form i ta m₁ hm hs]; exact F₁) N₁) (fun b s₂ hb => ?_) fun _ _ x => x)
      cases b with
      | false => exact hb
      | true =>
        refine WhlIf.yes rfl (wpAny_mono (show wpAny (model prog w) A (execs body env) (LeadPost h₀ env.locals m₀ y news i xs s) E s₂ from by unfold WhlIf at hb; rwa [if_pos rfl] at hb) (fun f s₃ hf => ?_) fun _ _ x => x)
        cases f with
        | next => obtain ⟨_, _, _, _, hlt, _⟩ := hf; omega
        | ret v => exact hf.elim
        | brk => exact hf.elim
        | cont => exact hf.elim
    | succ j ih =>
      intro i ta m₁ h tk hi hj hz hm hs F₁ N₁
      refine whl_turn hE (wpAny_mono (turn i ta h tk hi hz (by rw [form i ta m₁ hm hs]; exact F₁) N₁) (fun b s₂ hb => ?_) fun _ _ x => x)
      cases b with
      | false => exact hb
      | true =>
        refine WhlIf.yes rfl (wpAny_mono (show wpAny (model prog w) A (execs body env) (LeadPost h₀ env.locals m₀ y news i xs s) E s₂ from by unfold WhlIf at hb; rwa [if_pos rfl] at hb) (fun f s₃ hf => ?_) fun _ _ x => x)
        cases f with
        | next =>
          obtain ⟨h', tk', m', rfl, hlt, h0, F', N', ⟨t, ht⟩, hs'⟩ := hf
          refine ih (i + 1) t m' h' tk' hlt (by omega) (fun j hj' => ?_) (by rw [ht]; simp) hs' F' N'
          by_cases q : j = i
          · rw [q]; exact h0
          · exact hz j (by omega)
        | ret v => exact hf.elim
        | brk => exact hf.elim
        | cont => exact hf.elim
  exact whl_start _ (key xs.length 0 t₀ m₀ _ _ (Nat.zero_le _) (by omega) (fun j hj => absurd hj (Nat.not_lt_zero _)) (by rw [hy]; rfl) (fun _ _ => rfl) F N)
end
theorem lead_end {h₀ : Heap} {L : Addr} {m₀ m' : Str → Option Value} {y : Str} {news : List (Addr × Obj)} {i : Nat} {xs : List Int} {s : Shared} {h' : Heap} {tk' : Nat} {t : Tok} (hi : i < xs.length) (h0 : xs.getD i 0 = 0) (F : Fr h₀ L h' m') (N : News h₀ L h' news) (hy : m' y = some (.int ((i : Int) + 1) t)) (hs : ∀ x, x ≠ y → m' x = m₀ x) :
    LeadEnd h₀ L m₀ y news i xs s { s with heap := h', toks := tk' } := ⟨h', tk', m', rfl, hi, h0, F, N, ⟨t, hy⟩, hs⟩
section
variable {prog : Program} {w : World} {A : Around} {E : Value → Shared → Prop} {s : Shared} {env : Env} {test : PySem.Expr} {body : List Stmt} {Q : Flow → Shared → Prop} {h₀ : Heap} {m₀ : Str → Option Value} {news : List (Addr × Obj)} {ks ls ranks ds : List Int}
theorem while_front {t₀ : Tok} {pos : Pos} (_he : EndFact ks ls ranks ds) (hE : PassesOwn (model prog w) A env E) (F : Fr h₀ env.locals s.heap m₀) (N : News h₀ env.locals s.heap news) (hy : m₀ (Str.ofString "front") = some (.int 0 t₀))
    (turn : ∀ (i : Nat) (ta : Tok) (h : Heap) (tk : Nat), i ≤ ranks.length → (∀ j, j < i → ranks.getD j 0 = 0) → Fr h₀ env.locals h (fun x => if x = Str.ofString "front" then some (.int (i : Int) ta) else m₀ x) → News h₀ env.locals h news →
      wpAny (model prog w) A (isTrue test env (eval test env)) (fun b s₂ => WhlIf b (wpAny (model prog w) A (execs body env) (LeadPost h₀ env.locals m₀ (Str.ofString "front") news i ranks s) E s₂) (wpAny (model prog w) A (execs [] env) Q E s₂)) E { s with heap := h, toks := tk }) :
    wpAny (model prog w) A (exec (.While test body [] pos) env) Q E s := while_lead _ ranks hE F N hy turn
theorem while_nought {t₀ : Tok} {pos : Pos} (_he : EndFact ks ls ranks ds) (hE : PassesOwn (model prog w) A env E) (F : Fr h₀ env.locals s.heap m₀) (N : News h₀ env.locals s.heap news) (hy : m₀ (Str.ofString "noughts") = some (.int 0 t₀))
    (turn : ∀ (i : Nat) (ta : Tok) (h : Heap) (tk : Nat), i ≤ ds.length → (∀ j, j < i → ds.getD j 0 = 0) → Fr h₀ env.locals h (fun x => if x = Str.ofString "noughts" then some (.int (i : Int) ta) else m₀ x) → News h₀ env.locals h news →
      wpAny (model prog w) A (isTrue test env (eval test env)) (fun b s₂ => WhlIf b (wpAny (model prog w) A (execs body env) (LeadPost h₀ env.locals m₀ (Str.ofString "noughts") news i ds s) E s₂) (wpAny (model prog w) A (execs [] env) Q E s₂)) E { s with heap := h, toks := tk }) :
    wpAny (model prog w) A (exec (.While test body [] pos) env) Q E s := while_lead _ ds hE F N hy turn
end
theorem ints_same {ks : List Int} {ys : List Value} (h : Paired (fun k y => ∃ t, y = Value.int k t) ks ys) : IntsAre ys ks := by
  have := paired_ints (d := fun k => k) h
  rwa [List.map_id'] at this
theorem flt_ints {w : World} {o : Obj} {M : List (Int × Int)} {x : IsMap w o M} {ys : List Value} {ls : List Int} (h : Paired (fun k y => ∃ t, y = Value.int k t) (ls.filter (pOf x)) ys) : IntsAre ys (ls.filter fun k => (getI M k).isSome) := ints_same h
theorem flt_le {M : List (Int × Int)} {ls : List Int} (h : ls.length ≤ 16) : (ls.filter fun k => (getI M k).isSome).length ≤ 16 := Nat.le_trans (List.length_filter_le _ _) h
theorem flt_le' {M : List (Int × Int)} {ls : List Int} {ys : List Value} (_h : IntsAre ys (ls.filter fun k => (getI M k).isSome)) (h : ls.length ≤ 16) : (ls.filter fun k => (getI M k).isSome).length ≤ 16 := flt_le h
def LeadJ (h₀ : Heap) (L : Addr) (m₀ : Str → Option Value) (y : Str) (news : List (Addr × Obj)) (xs : List Int) (s : Shared) (f : Flow) (s' : Shared) : Prop :=
  f = .next ∧ ∃ (h' : Heap) (tk' : Nat) (m' : Str → Option Value) (i : Nat) (t : Tok), s' = { s with heap := h', toks := tk' } ∧ Fr h₀ L h' m' ∧ News h₀ L h' news ∧ m' y = some (.int (i : Int) t) ∧ IsLead xs i ∧ ∀ x, x ≠ y → m' x = m₀ x
theorem LeadJ.intro {h₀ : Heap} {L : Addr} {m₀ m' : Str → Option Value} {y : Str} {news : List (Addr × Obj)} {xs : List Int} {s : Shared} {h' : Heap} {tk' : Nat} {i : Nat} {t : Tok} (F : Fr h₀ L h' m') (N : News h₀ L h' news) (hy : m' y = some (.int (i : Int) t)) (h1 : i ≤ xs.length) (h2 : ∀ j, j < i → xs.getD j 0 = 0) (h3 : i < xs.length → xs.getD i 0 ≠ 0) (hs : ∀ x, x ≠ y → m' x = m₀ x) :
    LeadJ h₀ L m₀ y news xs s .next { s with heap := h', toks := tk' } := ⟨rfl, h', tk', m', i, t, rfl, F, N, hy, ⟨h1, h2, h3⟩, hs⟩
section
variable {prog : Program} {w : World} {A : Around} {E : Value → Shared → Prop} {s : Shared} {env : Env} {test : PySem.Expr} {body : List Stmt} {Q : Flow → Shared → Prop} {h₀ : Heap} {m₀ : Str → Option Value} {news : List (Addr × Obj)} {ks ls ranks ds : List Int}
theorem cut_lead (y : Str) (xs : List Int) {t₀ : Tok} {pos : Pos} (hE : PassesOwn (model prog w) A env E) (F : Fr h₀ env.locals s.heap m₀) (N : News h₀ env.locals s.heap news) (hy : m₀ y = some (.int 0 t₀))
    (turn : ∀ (i : Nat) (ta : Tok) (h : Heap) (tk : Nat), i ≤ xs.length → (∀ j, j < i → xs.getD j 0 = 0) → Fr h₀ env.locals h (fun x => if x = y then some (.int (i : Int) ta) else m₀ x) → News h₀ env.locals h news →
      wpAny (model prog w) A (isTrue test env (eval test env)) (fun b s₂ => WhlIf b (wpAny (model prog w) A (execs body env) (LeadPost h₀ env.locals m₀ y news i xs s) E s₂) (wpAny (model prog w) A (execs [] env) (LeadJ h₀ env.locals m₀ y news xs s) E s₂)) E { s with heap := h, toks := tk })
    (k : ∀ (i : Nat) (t : Tok) (h' : Heap) (tk' : Nat), IsLead xs i → Fr h₀ env.locals h' (fun x => if x = y then some (.int (i : Int) t) else m₀ x) → News h₀ env.locals h' news → Q .next { s with heap := h', toks := tk' }) :
    wpAny (model prog w) A (exec (.While test body [] pos) env) Q E s := by
  refine wpAny_mono (while_lead y xs hE F N hy turn) (fun f s' q => ?_) fun _ _ e => e
  obtain ⟨rfl, h', tk', m', i, t, rfl, F', N', hy', hl, hs⟩ := q
  refine k i t h' tk' hl ?_ N'
  have e : (fun x => if x = y then some (.int (i : Int) t) else m₀ x) = m' := by
    funext x
    by_cases q : x = y
    · simp [q, hy']
    · simp only [if_neg q]; exact (hs x q).symm
  rw [e]; exact F'
theorem cut_front {t₀ : Tok} {pos : Pos} (_he : EndFact ks ls ranks ds) (hE : PassesOwn (model prog w) A env E) (F : Fr h₀ env.locals s.heap m₀) (N : News h₀ env.locals s.heap news) (hy : m₀ (Str.ofString "front") = some (.int 0 t₀))
    (turn : ∀ (i : Nat) (ta : Tok) (h : Heap) (tk : Nat), i ≤ ranks.length → (∀ j, j < i → ranks.getD j 0 = 0) → Fr h₀ env.locals h (fun x => if x = Str.ofString "front" then some (.int (i : Int) ta) else m₀ x) → News h₀ env.locals h news →
      wpAny (model prog w) A (isTrue test env (eval test env)) (fun b s₂ => WhlIf b (wpAny (model prog w) A (execs body env) (LeadPost h₀ env.locals m₀ (Str.ofString "front") news i ranks s) E s₂) (wpAny (model prog w) A (execs [] env) (LeadJ h₀ env.locals m₀ (Str.ofString "front") news ranks s) E s₂)) E { s with heap := h, toks := tk })
    (k : ∀ (i : Nat) (t : Tok) (h' : Heap) (tk' : Nat), IsLead ranks i → Fr h₀ env.locals h' (fun x => if x = Str.ofString "front" then some (.int (i : Int) t) else m₀ x) → News h₀ env.locals h' news → Q .next { s with heap := h', toks := tk' }) :
    wpAny (model prog w) A (exec (.While test body [] pos) env) Q E s := cut_lead _ ranks hE F N hy turn k
theorem cut_nought {t₀ : Tok} {pos : Pos} (_he : EndFact ks ls ranks ds) (hE : PassesOwn (model prog w) A env E) (F : Fr h₀ env.locals s.heap m₀) (N : News h₀ env.locals s.heap news) (hy : m₀ (Str.ofString "noughts") = some (.int 0 t₀))
    (turn : ∀ (i : Nat) (ta : Tok) (h : Heap) (tk : Nat), i ≤ ds.length → (∀ j, j < i → ds.getD j 0 = 0) → Fr h₀ env.locals h (fun x => if x = Str.ofString "noughts" then some (.int (i : Int) ta) else m₀ x) → News h₀ env.locals h news →
      wpAny (model prog w) A (isTrue test env (eval test env)) (fun b s₂ => WhlIf b (wpAny (model prog w) A (execs body env) (LeadPost h₀ env.locals m₀ (Str.ofString "noughts") news i ds s) E s₂) (wpAny (model prog w) A (execs [] env) (LeadJ h₀ env.locals m₀ (Str.ofString "noughts") news ds s) E s₂)) E { s with heap := h, toks := tk })
    (k : ∀ (i : Nat) (t : Tok) (h' : Heap) (tk' : Nat), IsLead ds i → Fr h₀ env.locals h' (fun x => if x = Str.ofString "noughts" then some (.int (i : Int) t) else m₀ x) → News h₀ env.locals h' news → Q .next { s with heap := h', toks := tk' }) :
    wpAny (model prog w) A (exec (.While test body [] pos) env) Q E s := cut_lead _ ds hE F N hy turn k
end
theorem rep_flat (n : Nat) (k : Int) : (List.replicate n [k]).flatten = List.replicate n k := by
  induction n with
  | zero => rfl
  | succ n ih => rw [List.replicate_succ, List.flatten_cons, ih, List.replicate_succ]; rfl
/-- [k] * front -/
theorem mul_front {prog : Program} {w : World} {A : Around} {E : Value → Shared → Prop} {s : Shared} {h₀ : Heap} {L l : Addr} {m : Str → Option Value} {news : List (Addr × Obj)} {k : Int} {t u : Tok} {i n : Nat} {xs : List Int} {Q : Value → Shared → Prop} (F : Fr h₀ L s.heap m) (N : News h₀ L s.heap news) (hm : (l, listOf #[.int k t] n) ∈ news) (hL : IsLead xs i) (hz : xs.length ≤ 16)
    (h : ∀ D ws h', Fr h₀ L h' m → News h₀ L h' ((D, listOf (List.toArray ws) 0) :: news) → (∀ p ∈ news, p.1 < D) → IntsAre ws (List.replicate i k) → Q (.ref D) { s with heap := h' }) : wpAny (model prog w) A (binaryOp .Mult (.ref l) (.int (i : Int) u)) Q E s := by
  have hi := hL.1
  refine KM.mul (vs := [.int k t]) (ns := [k]) F N (News.isList N hm) (.cons _ _ .nil) (by omega) (by omega) (by simp; omega) fun D h' F' N' l1 hI _ _ _ _ _ => ?_
  rw [Int.toNat_natCast, rep_flat] at hI
  exact h D _ h' F' N' l1 hI
theorem lists_ne {prog : Program} {w : World} {A : Around} {E : Value → Shared → Prop} {s : Shared} {a b : Addr} {xs ys : List Value} {ks ls ranks ds : List Int} {f g : Nat} {Q : Value → Shared → Prop} (ha : s.heap.IsList a xs.toArray) (hb : s.heap.IsList b ys.toArray) (hi : IntsAre xs (ls.take f)) (hj : IntsAre ys (List.replicate f (ks.getD 0 0))) (hu : A.units + 64 < cLine)
    (he : EndFact ks ls ranks ds) (hf : IsLead ranks f) (hg : IsLead ds g) (hne : g ≠ f) (h : Q (.bool true) s) : wpAny (model prog w) A (compareOp .NotEq (.ref a) (.ref b)) Q E s := by
  refine ke_ne_ints ha hb hi hj hu ?_
  rw [decide_eq_false (he f g hf hg hne)]
  exact h
end

-- LPure
section
set_option maxRecDepth 100000
set_option maxHeartbeats 2000000
-- the map after the repair
theorem getI_puts (i : Int) : ∀ (g : List Int) (D : List (Int × Int)) (x : Int), getI (g.foldl (fun D a => putI D a i) D) x = if x ∈ g then some i else getI D x
  | [], D, x => by simp
  | a :: g, D, x => by
    rw [List.foldl_cons, getI_puts i g, getI_put]
    by_cases h : x ∈ g
    · simp [h]
    · by_cases h2 : x = a
      · simp [h2]
      · simp [h, h2]
theorem getI_fix {R : List (Int × Int)} {g : List Int} {x : Int} (h : x ∉ g) : getI (fixRows R g) x = getI R x := by
  unfold fixRows
  split
  · rw [getI_puts, if_neg h]
  · rfl
theorem getI_fix_in {R : List (Int × Int)} {g : List Int} {x : Int} (h : x ∈ g) : getI (fixRows R g) x = match g.filter (fun k => (getI R k).isSome) with | [p] => some ((getI R p).getD 0) | _ => getI R x := by
  unfold fixRows
  cases hf : g.filter (fun k => (getI R k).isSome) with
  | nil => rfl
  | cons p r =>
    cases r with
    | nil => show getI (g.foldl _ R) x = _; rw [getI_puts, if_pos h]
    | cons q r => rfl
def g1 : List Int := [48, 79, 111]
def g2 : List Int := [73, 108, 49]
theorem g_off {x : Int} (h : x ∈ g2) : x ∉ g1 := by
  simp only [g1, g2, List.mem_cons, List.not_mem_nil, or_false] at h ⊢
  omega
theorem map_at (ks : List Int) (x : Int) : getI (mapOf true ks) x = match candsOf (rowsOf ks) x with | [i] => some i | _ => none := by
  have e : mapOf true ks = fixRows (fixRows (rowsOf ks) g1) g2 := rfl
  have ec : candsOf (rowsOf ks) x = if (getI (rowsOf ks) x).isSome = true then [(getI (rowsOf ks) x).getD 0] else if x ∈ g1 then placesIn (rowsOf ks) g1 else if x ∈ g2 then placesIn (rowsOf ks) g2 else [] := rfl
  rw [e, ec]
  generalize rowsOf ks = M
  have one : ∀ g : List Int, x ∈ g → (match g.filter (fun k => (getI M k).isSome) with | [p] => some ((getI M p).getD 0) | _ => getI M x) = match (if (getI M x).isSome = true then [(getI M x).getD 0] else placesIn M g) with | [i] => some i | _ => none := by
    intro g hg
    by_cases hs : (getI M x).isSome = true
    · rw [if_pos hs]
      obtain ⟨i, hi⟩ := Option.isSome_iff_exists.mp hs
      have hm : x ∈ g.filter (fun k => (getI M k).isSome) := List.mem_filter.mpr ⟨hg, hs⟩
      split
      · rename_i p e
        rw [e] at hm
        rw [← List.mem_singleton.mp hm]
      · rw [hi]; rfl
    · rw [if_neg hs]
      have hn : getI M x = none := by simpa using hs
      unfold placesIn
      cases hf : g.filter (fun k => (getI M k).isSome) with
      | nil => simpa using hn
      | cons p r =>
        cases r with
        | nil => rfl
        | cons q r => simpa using hn
  by_cases h2 : x ∈ g2
  · have h1 := g_off h2
    have ef : g2.filter (fun k => (getI (fixRows M g1) k).isSome) = g2.filter (fun k => (getI M k).isSome) := by
      refine List.filter_congr fun k hk => ?_
      rw [getI_fix (g_off hk)]
    rw [getI_fix_in h2, ef, getI_fix h1, if_neg h1, if_pos h2]
    have := one g2 h2
    cases hf : g2.filter (fun k => (getI M k).isSome) with
    | nil => rw [hf] at this; exact this
    | cons p r =>
      cases r with
      | nil =>
        rw [hf] at this
        have hp : p ∈ g2 := (List.mem_filter.mp (by rw [hf]; exact .head _)).1
        show some ((getI (fixRows M g1) p).getD 0) = _
        rw [getI_fix (g_off hp)]
        exact this
      | cons q r => rw [hf] at this; exact this
  · rw [getI_fix h2]
    by_cases h1 : x ∈ g1
    · rw [getI_fix_in h1, if_pos h1]
      exact one g1 h1
    · rw [getI_fix h1, if_neg h1, if_neg h2]
      cases hs : getI M x with
      | none => rfl
      | some i => rfl
theorem map_keep {ks : List Int} {x i : Int} (h : getI (rowsOf ks) x = some i) : getI (mapOf true ks) x = some i := by
  rw [map_at]
  unfold candsOf
  rw [if_pos (by rw [h]; rfl), h]
  rfl
-- the rows of the signs
theorem rows_snoc (ks : List Int) (k : Int) : rowsOf (ks ++ [k]) = putI (rowsOf ks) k (ks.length : Int) := by
  unfold rowsOf
  rw [List.zipIdx_append, List.foldl_append]
  simp
theorem rows_val : ∀ (n : Nat) (ks : List Int), ks.length = n → ∀ {x i : Int}, getI (rowsOf ks) x = some i → ∃ j : Nat, i = (j : Int) ∧ ks[j]? = some x
  | 0, ks, hn, x, i, h => by
    have : ks = [] := List.length_eq_zero_iff.mp hn
    subst this
    simp [rowsOf, getI] at h
  | n + 1, ks, hn, x, i, h => by
    obtain ⟨r, k, rfl⟩ : ∃ r k, ks = r ++ [k] := ⟨ks.dropLast, ks.getLast (by intro q; rw [q] at hn; simp at hn), (List.dropLast_concat_getLast _).symm⟩
    have hr : r.length = n := by simpa using hn
    rw [rows_snoc, getI_put] at h
    by_cases q : x = k
    · rw [if_pos q] at h
      refine ⟨r.length, (Option.some.inj h).symm, ?_⟩
      rw [q]; simp
    · rw [if_neg q] at h
      obtain ⟨j, hj, hx⟩ := rows_val n r hr h
      refine ⟨j, hj, ?_⟩
      have hlt : j < r.length := by
        rcases Nat.lt_or_ge j r.length with z | z
        · exact z
        · rw [List.getElem?_eq_none z] at hx; cases hx
      rw [List.getElem?_append_left hlt]; exact hx
theorem rows_first : ∀ (n : Nat) (r : List Int), r.length = n → ∀ {k : Int}, k ∉ r → getI (rowsOf (k :: r)) k = some 0
  | 0, r, hn, k, _ => by
    have : r = [] := List.length_eq_zero_iff.mp hn
    subst this
    simp [rowsOf, putI, getI]
  | n + 1, r, hn, k, hk => by
    obtain ⟨r', q, rfl⟩ : ∃ r' q, r = r' ++ [q] := ⟨r.dropLast, r.getLast (by intro q; rw [q] at hn; simp at hn), (List.dropLast_concat_getLast _).symm⟩
    have hkq : k ≠ q := fun e => hk (by rw [e]; simp)
    rw [← List.cons_append, rows_snoc, getI_put, if_neg hkq]
    exact rows_first n r' (by simpa using hn) fun h => hk (List.mem_append_left _ h)
-- the readings
def ranksOf (ks ls : List Int) : List Int := ls.map fun x => (getI (mapOf true ks) x).getD 0
theorem cands_one {ks : List Int} {x : Int} (h : (getI (mapOf true ks) x).isSome = true) : candsOf (rowsOf ks) x = [(getI (mapOf true ks) x).getD 0] := by
  have e := map_at ks x
  cases hc : candsOf (rowsOf ks) x with
  | nil => rw [hc] at e; rw [e] at h; simp at h
  | cons a r =>
    cases r with
    | nil => rw [hc] at e; rw [e]; rfl
    | cons b r => rw [hc] at e; rw [e] at h; simp at h
theorem cands_not {ks : List Int} {x : Int} (h : (getI (mapOf true ks) x).isSome = false) : (candsOf (rowsOf ks) x).length ≠ 1 := by
  have e := map_at ks x
  cases hc : candsOf (rowsOf ks) x with
  | nil => simp
  | cons a r =>
    cases r with
    | nil => rw [hc] at e; rw [e] at h; simp at h
    | cons b r => simp
def rdStep (M : List (Int × Int)) (rd : List (List Int)) (x : Int) : List (List Int) := (pairs rd (candsOf M x)).take 2
theorem rd_off {M : List (Int × Int)} : ∀ (ls : List Int) (rd : List (List Int)), rd.length ≠ 1 → rd.length ≤ 2 → (ls.foldl (rdStep M) rd).length ≠ 1
  | [], rd, h, _ => h
  | x :: ls, rd, h, h2 => by
    rw [List.foldl_cons]
    have hl : (rdStep M rd x).length = min 2 (rd.length * (candsOf M x).length) := by unfold rdStep; rw [List.length_take, pairs_len]
    have h3 : rd.length = 0 ∨ rd.length = 2 := by omega
    refine rd_off ls _ ?_ (by rw [hl]; omega)
    rw [hl]
    rcases h3 with h3 | h3
    · rw [h3]; omega
    · rw [h3]
      rcases Nat.eq_zero_or_pos (candsOf M x).length with z | z
      · rw [z]; omega
      · omega
theorem rd_on {ks : List Int} : ∀ (ls : List Int) (r : List Int), (allIn (mapOf true ks) ls = true ∧ ls.foldl (rdStep (rowsOf ks)) [r] = [r ++ ranksOf ks ls]) ∨ (allIn (mapOf true ks) ls = false ∧ (ls.foldl (rdStep (rowsOf ks)) [r]).length ≠ 1)
  | [], r => .inl ⟨rfl, by simp [ranksOf]⟩
  | x :: ls, r => by
    rw [List.foldl_cons]
    have hall : allIn (mapOf true ks) (x :: ls) = ((getI (mapOf true ks) x).isSome && allIn (mapOf true ks) ls) := rfl
    cases hx : (getI (mapOf true ks) x).isSome with
    | true =>
      have e : rdStep (rowsOf ks) [r] x = [r ++ [(getI (mapOf true ks) x).getD 0]] := by
        unfold rdStep pairs
        rw [cands_one hx]
        rfl
      rw [e, hall, hx, Bool.true_and]
      rcases rd_on ls (r ++ [(getI (mapOf true ks) x).getD 0]) with ⟨h1, h2⟩ | h
      · refine .inl ⟨h1, ?_⟩
        rw [h2, List.append_assoc]
        rfl
      · exact .inr h
    | false =>
      refine .inr ⟨by rw [hall, hx]; rfl, rd_off ls _ ?_ ?_⟩
      · have hl : (rdStep (rowsOf ks) [r] x).length = min 2 (1 * (candsOf (rowsOf ks) x).length) := by unfold rdStep; rw [List.length_take, pairs_len]; rfl
        have := cands_not hx
        rw [hl]; omega
      · unfold rdStep; rw [List.length_take]; omega
theorem reads_cases (ks ls : List Int) : (allIn (mapOf true ks) ls = true ∧ readsOf (rowsOf ks) ls = [ranksOf ks ls]) ∨ (allIn (mapOf true ks) ls = false ∧ (readsOf (rowsOf ks) ls).length ≠ 1) := by
  have := rd_on (ks := ks) ls []
  rw [List.nil_append] at this
  exact this
-- numbers
def horner (b : Int) (xs : List Int) : Int := xs.foldl (fun a r => a * b + r) 0
theorem horner_acc (b : Int) : ∀ (xs : List Int) (a : Int), xs.foldl (fun a r => a * b + r) a = a * b ^ xs.length + horner b xs
  | [], a => by simp [horner]
  | x :: xs, a => by
    unfold horner
    rw [List.foldl_cons, List.foldl_cons, horner_acc b xs, horner_acc b xs, List.length_cons, Int.pow_succ]
    have e : (a * b + x) * b ^ xs.length = a * (b ^ xs.length * b) + x * b ^ xs.length := by
      rw [Int.add_mul, Int.mul_assoc, Int.mul_comm b]
    rw [e]
    have e2 : (0 * b + x) * b ^ xs.length = x * b ^ xs.length := by rw [Int.zero_mul, Int.zero_add]
    rw [e2]
    omega
theorem horner_cons (b x : Int) (xs : List Int) : horner b (x :: xs) = x * b ^ xs.length + horner b xs := by
  have := horner_acc b xs (0 * b + x)
  rw [Int.zero_mul, Int.zero_add] at this
  unfold horner
  rw [List.foldl_cons, Int.zero_mul, Int.zero_add]
  exact this
theorem horner_snoc (b x : Int) (xs : List Int) : horner b (xs ++ [x]) = horner b xs * b + x := by
  unfold horner
  rw [List.foldl_append]
  rfl
def term (b : Int) (row : List Int) (k : Nat) : Int := row.getD (-1 - (k : Int) + (row.length : Int)).toNat 0 * b ^ k
theorem numN_nat (b : Int) (row : List Int) : ∀ (n : Nat), numN b row ((List.range n).map fun (k : Nat) => (k : Int)) = ((List.range n).map (term b row)).foldl (fun a t => a + t) 0 := by
  intro n
  unfold numN
  rw [List.foldl_map, List.foldl_map]
  rfl
theorem term_cons {b x : Int} {xs : List Int} {k : Nat} (h : k < xs.length) : term b (x :: xs) k = term b xs k := by
  unfold term
  have e1 : (-1 - (k : Int) + ((x :: xs).length : Int)).toNat = (xs.length - 1 - k) + 1 := by rw [List.length_cons]; omega
  have e2 : (-1 - (k : Int) + (xs.length : Int)).toNat = xs.length - 1 - k := by omega
  rw [e1, e2]
  rfl
theorem term_last {b x : Int} {xs : List Int} : term b (x :: xs) xs.length = x * b ^ xs.length := by
  unfold term
  have e1 : (-1 - (xs.length : Int) + ((x :: xs).length : Int)).toNat = 0 := by rw [List.length_cons]; omega
  rw [e1]
  rfl
theorem terms_horner (b : Int) : ∀ xs : List Int, ((List.range xs.length).map (term b xs)).foldl (fun a t => a + t) 0 = horner b xs
  | [] => rfl
  | x :: xs => by
    rw [List.length_cons, List.range_succ, List.map_append, List.foldl_append, horner_cons, ← terms_horner b xs]
    have e : (List.range xs.length).map (term b (x :: xs)) = (List.range xs.length).map (term b xs) := List.map_congr_left fun k hk => term_cons (List.mem_range.mp hk)
    rw [e, List.map_singleton, term_last]
    show _ + _ = _
    exact Int.add_comm _ _
theorem numN_list (b : Int) (xs : List Int) : numN b xs (rangeKs 0 ((xs.length : Int) - 0).toNat) = horner b xs := by
  have e : rangeKs 0 ((xs.length : Int) - 0).toNat = (List.range xs.length).map fun (k : Nat) => (k : Int) := by
    unfold rangeKs
    rw [show ((xs.length : Int) - 0).toNat = xs.length by omega]
    refine List.map_congr_left fun k _ => ?_
    omega
  rw [e, numN_nat, terms_horner]
theorem numN_bytes (b : Int) (xs : List Int) : numN b xs (rangeInts 0 1 xs.length) = horner b xs := by
  have e : rangeInts 0 1 xs.length = (List.range xs.length).map fun (k : Nat) => (k : Int) := by
    unfold rangeInts
    refine List.map_congr_left fun k _ => ?_
    omega
  rw [e, numN_nat, terms_horner]
-- the digits
theorem digs_horner (n : Nat) : horner 256 (digs n).reverse = (n : Int) := by
  induction n using Nat.strongRecOn with
  | _ n ih =>
    by_cases h : n = 0
    · subst h; rw [digs_zero]; rfl
    · rw [digs_pos (Nat.pos_of_ne_zero h), List.reverse_cons, horner_snoc, ih _ (Nat.div_lt_self (Nat.pos_of_ne_zero h) (by decide))]
      omega
theorem digs_head (n : Nat) : ∀ d r, (digs n).reverse = d :: r → d ≠ 0 := by
  induction n using Nat.strongRecOn with
  | _ n ih =>
    intro d r e
    by_cases h : n = 0
    · subst h; rw [digs_zero] at e; simp at e
    · rw [digs_pos (Nat.pos_of_ne_zero h), List.reverse_cons] at e
      cases hd : (digs (n / 256)).reverse with
      | nil =>
        rw [hd] at e
        simp only [List.nil_append, List.cons.injEq] at e
        have hz : n / 256 = 0 := by
          by_cases q : n / 256 = 0
          · exact q
          · rw [digs_pos (Nat.pos_of_ne_zero q)] at hd; simp at hd
        have := e.1
        omega
      | cons d' r' =>
        rw [hd] at e
        simp only [List.cons_append, List.cons.injEq] at e
        exact e.1 ▸ ih _ (Nat.div_lt_self (Nat.pos_of_ne_zero h) (by decide)) d' r' hd
theorem horner_zeros (b : Int) (xs : List Int) : ∀ n, horner b (List.replicate n 0 ++ xs) = horner b xs
  | 0 => rfl
  | n + 1 => by
    rw [List.replicate_succ, List.cons_append, horner_cons, Int.zero_mul, Int.zero_add]
    exact horner_zeros b xs n
theorem valL_horner (M : List (Int × Int)) (b : Int) (ls : List Int) : valL M b ls = horner b (ls.map fun x => (getI M x).getD 0) := by
  unfold valL horner
  rw [List.foldl_map]
-- the leading signs
theorem strip_split (k0 : Int) (r : List Int) : ∀ ls : List Int, ∃ c, ls = List.replicate c k0 ++ stripL (k0 :: r) ls ∧ c = ls.length - (stripL (k0 :: r) ls).length ∧ ∀ x t, stripL (k0 :: r) ls = x :: t → x ≠ k0
  | [] => ⟨0, rfl, rfl, fun x t h => by simp [stripL] at h⟩
  | x :: ls => by
    by_cases h : x = k0
    · subst h
      have e : stripL (x :: r) (x :: ls) = stripL (x :: r) ls := by unfold stripL; rw [List.dropWhile_cons]; simp
      obtain ⟨c, h1, h2, h3⟩ := strip_split x r ls
      refine ⟨c + 1, ?_, ?_, by rw [e]; exact h3⟩
      · rw [e, List.replicate_succ, List.cons_append, ← h1]
      · rw [e, List.length_cons]
        have := congrArg List.length h1
        rw [List.length_append, List.length_replicate] at this
        omega
    · have e : stripL (k0 :: r) (x :: ls) = x :: ls := by unfold stripL; rw [List.dropWhile_cons]; simp [h]
      refine ⟨0, by rw [e]; rfl, by rw [e]; omega, fun y t q => ?_⟩
      rw [e] at q
      simp only [List.cons.injEq] at q
      exact q.1 ▸ h
theorem allIn_append {M : List (Int × Int)} {a b : List Int} : allIn M (a ++ b) = (allIn M a && allIn M b) := List.all_append
theorem allIn_rep {M : List (Int × Int)} {k i : Int} (h : getI M k = some i) (c : Nat) : allIn M (List.replicate c k) = true := by
  refine List.all_eq_true.mpr fun x hx => ?_
  rw [(List.mem_replicate.mp hx).2, h]; rfl
theorem allIn_strip {M : List (Int × Int)} {k0 i : Int} {r : List Int} (h : getI M k0 = some i) (ls : List Int) : allIn M (stripL (k0 :: r) ls) = allIn M ls := by
  obtain ⟨c, h1, _, _⟩ := strip_split k0 r ls
  rw [congrArg (allIn M) h1, allIn_append, allIn_rep h, Bool.true_and]
theorem valL_strip {M : List (Int × Int)} {k0 : Int} {r : List Int} (h : getI M k0 = some 0) (b : Int) (ls : List Int) : valL M b (stripL (k0 :: r) ls) = valL M b ls := by
  obtain ⟨c, h1, _, _⟩ := strip_split k0 r ls
  rw [congrArg (valL M b) h1, valL_horner, valL_horner, List.map_append, List.map_replicate, h]
  exact (horner_zeros b _ c).symm
theorem lead_unique {c g N : Nat} (h : IsLead (List.replicate c 0 ++ (digs N).reverse) g) : g = c := by
  obtain ⟨h1, h2, h3⟩ := h
  rcases Nat.lt_trichotomy g c with q | q | q
  · have hlt : g < (List.replicate c (0 : Int) ++ (digs N).reverse).length := by rw [List.length_append, List.length_replicate]; omega
    have := h3 hlt
    rw [List.getD, List.getElem?_append_left (by rw [List.length_replicate]; exact q), List.getElem?_replicate] at this
    simp [q] at this
  · exact q
  · have h4 := h2 c q
    rw [List.length_append, List.length_replicate] at h1
    rw [List.getD, List.getElem?_append_right (by rw [List.length_replicate]; exact Nat.le_refl _), List.length_replicate, Nat.sub_self] at h4
    cases hd : (digs N).reverse with
    | nil => rw [hd] at h1; simp at h1; omega
    | cons d r =>
      rw [hd] at h4
      exact absurd h4 (digs_head N d r hd)
theorem end_fact {ks ls : List Int} (hok : RowOk ks) (M : List (Int × Int)) (N : Nat) : EndFact ks ls (ranksOf ks ls) (List.replicate (ls.length - (stripL ks ls).length) 0 ++ (digs N).reverse) := by
  intro f g hf hg hne htake
  have hgc := lead_unique hg
  refine hne ?_
  rw [hgc]
  cases ks with
  | nil => exact absurd hok.lo (by simp)
  | cons k0 r =>
    have hk0 : k0 ∉ r := (List.nodup_cons.mp hok.nodup).1
    have g0 : getI (mapOf true (k0 :: r)) k0 = some 0 := map_keep (rows_first _ r rfl hk0)
    obtain ⟨c, h1, h2, h3⟩ := strip_split k0 r ls
    rw [← h2]
    have hlen : (ranksOf (k0 :: r) ls).length = ls.length := by simp [ranksOf]
    have htake' : ls.take f = List.replicate f k0 := htake
    have hfl : f ≤ ls.length := hlen ▸ hf.1
    rcases Nat.lt_trichotomy c f with q | q | q
    · -- the sign behind the stripped ones is not the first sign
      have hcl : c < ls.length := by omega
      have e1 : ls[c]? = some k0 := by
        have : (ls.take f)[c]? = (List.replicate f k0)[c]? := by rw [htake']
        rw [List.getElem?_take_of_lt q, List.getElem?_replicate, if_pos q] at this
        exact this
      rw [congrArg (fun l => l[c]?) h1, List.getElem?_append_right (by rw [List.length_replicate]; exact Nat.le_refl _), List.length_replicate, Nat.sub_self] at e1
      cases hs : stripL (k0 :: r) ls with
      | nil => rw [hs] at e1; simp at e1
      | cons x t =>
        rw [hs] at e1
        exact absurd (by simpa using e1) (h3 x t hs)
    · exact q
    · have hfl' : f < (ranksOf (k0 :: r) ls).length := by
        rw [hlen]
        have := congrArg List.length h1
        rw [List.length_append, List.length_replicate] at this
        omega
      have hz := hf.2.2 hfl'
      have e1 : ls[f]? = some k0 := by
        rw [congrArg (fun l => l[f]?) h1, List.getElem?_append_left (by rw [List.length_replicate]; exact q), List.getElem?_replicate, if_pos q]
      have e2 : (ranksOf (k0 :: r) ls).getD f 0 = 0 := by
        unfold ranksOf
        rw [List.getD, List.getElem?_map, e1]
        simp [g0]
      exact absurd e2 hz
theorem bInts_inj {b c : Array UInt8} (h : KBw.bInts b = KBw.bInts c) : b = c := by
  unfold KBw.bInts at h
  have inj : ∀ x y : UInt8, ((x.toNat : Nat) : Int) = ((y.toNat : Nat) : Int) → x = y := fun x y e => UInt8.toNat_inj.mp (by omega)
  have key : ∀ (l l' : List UInt8), (l.map fun c => ((c.toNat : Nat) : Int)) = (l'.map fun c => ((c.toNat : Nat) : Int)) → l = l' := by
    intro l
    induction l with
    | nil => intro l' e; cases l' with
      | nil => rfl
      | cons y l' => simp at e
    | cons x l ih =>
      intro l' e
      cases l' with
      | nil => simp at e
      | cons y l' =>
        simp only [List.map_cons, List.cons.injEq] at e
        rw [inj x y e.1, ih l' e.2]
  have := key _ _ h
  cases b; cases c
  simpa using this
theorem valL_same {M M' : List (Int × Int)} {b : Int} {ls : List Int} (h : ∀ x ∈ ls, getI M x = getI M' x) : valL M b ls = valL M' b ls := by
  rw [valL_horner, valL_horner]
  congr 1
  exact List.map_congr_left fun x hx => by rw [h x hx]
theorem same_map {ks ls : List Int} (h : allIn (rowsOf ks) ls = true) : ∀ x ∈ ls, getI (rowsOf ks) x = getI (mapOf true ks) x := by
  intro x hx
  obtain ⟨i, hi⟩ := Option.isSome_iff_exists.mp (List.all_eq_true.mp h x hx)
  rw [hi, map_keep hi]
theorem all_up {ks ls : List Int} (h : allIn (rowsOf ks) ls = true) : allIn (mapOf true ks) ls = true := by
  refine List.all_eq_true.mpr fun x hx => ?_
  rw [← same_map h x hx]
  exact List.all_eq_true.mp h x hx
theorem num_true {n : Int} {v : Value} (h : NumIs true n v) : ∃ t, v = .int n t := h.elim (fun x => x.2) fun x => by cases x.1
theorem num_false {n : Int} {v : Value} (h : NumIs false n v) : ∃ t, v = .str (Str.ofString "refused") t := h.elim (fun x => by cases x.1) fun x => x.2
theorem got_true {xs : List Int} {v : Value} (h : GotIs true xs v) : ∃ b t, v = .bytes b t ∧ KBw.bInts b = xs := h.elim (fun x => x.2) fun x => by cases x.1
theorem got_false {xs : List Int} {v : Value} (h : GotIs false xs v) : ∃ t, v = .str (Str.ofString "refused") t := h.elim (fun x => by cases x.1) fun x => x.2
theorem cases3 {ks ls : List Int} {ys : List Value} {L' : List (Addr × Obj)} {v1 v2 v3 v4 : Value} (hok : RowOk ks) (hl : ls.length ≤ 16) (h1 : NumIs (allIn (mapOf true ks) ls) (valL (mapOf true ks) ks.length ls) v1) (h2 : GotIs (allIn (mapOf true ks) (stripL ks ls)) (decOf (mapOf true ks) ks ls) v2)
    (h3 : NumIs (allIn (mapOf false ks) ls) (valL (mapOf false ks) ks.length ls) v3) (h4 : GotIs (allIn (mapOf false ks) (stripL ks ls)) (decOf (mapOf false ks) ks ls) v4) (hin : Inner ys (readsOf (rowsOf ks) ls) L') : Case3 ks ls ys L' v1 v2 v3 v4 := by
  cases ks with
  | nil => exact absurd hok.lo (by simp)
  | cons k0 r =>
    have hk0 : k0 ∉ r := (List.nodup_cons.mp hok.nodup).1
    have g0 : getI (rowsOf (k0 :: r)) k0 = some 0 := rows_first _ r rfl hk0
    have gt : getI (mapOf true (k0 :: r)) k0 = some 0 := map_keep g0
    have em : mapOf false (k0 :: r) = rowsOf (k0 :: r) := rfl
    have hz64 : (k0 :: r).length ≤ 64 := Nat.le_trans hok.hi (by decide)
    rw [allIn_strip gt] at h2
    rw [em] at h3 h4
    rw [allIn_strip g0] at h4
    have hle := readsOf_le (rowsOf (k0 :: r)) ls
    rcases reads_cases (k0 :: r) ls with ⟨ha, hr⟩ | ⟨ha, hr⟩
    · rw [ha] at h1 h2
      rw [hr] at hin
      obtain ⟨t1, rfl⟩ := num_true h1
      obtain ⟨bb, t2, rfl, hbb⟩ := got_true h2
      have hn : ((valL (mapOf true (k0 :: r)) ((k0 :: r).length : Int) (stripL (k0 :: r) ls)).toNat : Int) = valL (mapOf true (k0 :: r)) ((k0 :: r).length : Int) ls := by
        rw [valL_strip gt]
        have := valL_nonneg true (k0 :: r) ls (k0 :: r).length
        omega
      have hnum : numN ((k0 :: r).length : Int) (ranksOf (k0 :: r) ls) (rangeKs 0 (((ranksOf (k0 :: r) ls).length : Int) - 0).toNat) = valL (mapOf true (k0 :: r)) ((k0 :: r).length : Int) ls := by
        rw [numN_list, valL_horner]; rfl
      have hnum2 : numN 256 (decOf (mapOf true (k0 :: r)) (k0 :: r) ls) (rangeInts 0 1 (decOf (mapOf true (k0 :: r)) (k0 :: r) ls).length) = valL (mapOf true (k0 :: r)) ((k0 :: r).length : Int) ls := by
        rw [numN_bytes, decOf, horner_zeros, digs_horner]
        exact hn
      have hlen : (decOf (mapOf true (k0 :: r)) (k0 :: r) ls).length ≤ 120 := by
        have hd := digs_valL true (ks := k0 :: r) (ls := stripL (k0 :: r) ls) hz64 (Nat.le_trans (stripL_le _ _) (by omega))
        rw [decOf, List.length_append, List.length_replicate, List.length_reverse]
        omega
      have hrl : (ranksOf (k0 :: r) ls).length ≤ 16 := by rw [ranksOf, List.length_map]; exact hl
      have hrb : ∀ x ∈ ranksOf (k0 :: r) ls, 0 ≤ x ∧ x < 64 := by
        intro x hx
        obtain ⟨y, _, rfl⟩ := List.mem_map.mp hx
        have a := pos_map true (k0 :: r) y
        have b := lt_map true hz64 y
        omega
      have hend : EndFact (k0 :: r) ls (ranksOf (k0 :: r) ls) (decOf (mapOf true (k0 :: r)) (k0 :: r) ls) := end_fact hok [] _
      cases hin with
      | cons hi hnil =>
        cases hnil with
        | nil =>
          cases hall : allIn (rowsOf (k0 :: r)) ls with
          | true =>
            rw [hall] at h3 h4
            obtain ⟨t3, rfl⟩ := num_true h3
            obtain ⟨b4, t4, rfl, hb4⟩ := got_true h4
            have hs := same_map hall
            have e1 : valL (rowsOf (k0 :: r)) ((k0 :: r).length : Int) ls = valL (mapOf true (k0 :: r)) ((k0 :: r).length : Int) ls := valL_same hs
            have e2 : decOf (rowsOf (k0 :: r)) (k0 :: r) ls = decOf (mapOf true (k0 :: r)) (k0 :: r) ls := by
              unfold decOf
              rw [valL_same (M' := mapOf true (k0 :: r)) fun x hx => hs x (stripL_mem hx)]
            have eb : b4 = bb := bInts_inj (by rw [hb4, hbb, e2])
            subst eb
            rw [e1]
            refine Case3.all hi hrl hrb hlen hbb hnum hnum2 hend ?_
            rw [List.filter_eq_self.mpr fun x hx => List.all_eq_true.mp hall x hx]
          | false =>
            rw [hall] at h3 h4
            obtain ⟨t3, rfl⟩ := num_false h3
            obtain ⟨t4, rfl⟩ := got_false h4
            refine Case3.some hi hrl hrb hlen hbb hnum hnum2 hend ?_
            rw [List.length_filter_lt_length_iff_exists]
            obtain ⟨x, hx, hf⟩ := List.all_eq_false.mp hall
            exact ⟨x, hx, hf⟩
    · rw [ha] at h1 h2
      have hall : allIn (rowsOf (k0 :: r)) ls = false := by
        cases h : allIn (rowsOf (k0 :: r)) ls with
        | false => rfl
        | true => rw [all_up h] at ha; cases ha
      rw [hall] at h3 h4
      obtain ⟨t1, rfl⟩ := num_false h1
      obtain ⟨t2, rfl⟩ := got_false h2
      obtain ⟨t3, rfl⟩ := num_false h3
      obtain ⟨t4, rfl⟩ := got_false h4
      generalize readsOf (rowsOf (k0 :: r)) ls = rd at hin hr hle
      cases hin with
      | nil => exact .none
      | cons _ hin =>
        cases hin with
        | nil => exact absurd rfl hr
        | cons _ hin =>
          cases hin with
          | nil => exact .two
          | cons _ _ => simp only [List.length_cons] at hle; omega
end

-- L1
section
set_option maxRecDepth 100000
set_option maxHeartbeats 40000000
local macro_rules | `(tactic| walk_at "call ref") => `(tactic| (k_here; (with_reducible show wpAny _ _ (call (Value.ref 55) _ _) _ _ _); k_dflt (refine' con_use0 ?B ?F ?N ?X ?T ?GL ?XB ?TB ?hk (draw _ _ _ _ _ _ _ _ _ ?hI ?hlay ?hle) ?hdp ?hun ?hpre ?_; (case B => k_asm); (case F => k_asm); (case N => k_asm); (case X => k_asm); (case T => k_asm); (case GL => assumption); (case XB => assumption); (case TB => assumption); (case hk => exact rfl); (case hpre => exact Fr.lst (by k_asm) (by assumption)); (case hI => assumption); (case hlay => assumption); (case hle => exact ks_le63 (by assumption)); (case hdp => ktr_room); (case hun => ktr_units); k_whole); intro v' tl' h' tk' F' N' _ hp'; (with_reducible obtain ⟨htl', d', t', hv'⟩ := hp'); subst hv'; subst htl'; (try simp only [List.nil_append] at N'); (try k_sweep)))
local macro_rules | `(tactic| walk_at "call ref") => `(tactic| (k_here; (with_reducible show wpAny _ _ (call (Value.ref 60) _ _) _ _ _); k_dflt (refine' con_use0 ?B ?F ?N ?X ?T ?GL ?XB ?TB ?hk (signs _ _ _ _ _ _ _ _ _ _ _ _) ?hdp ?hun ?hpre ?_; (case B => k_asm); (case F => k_asm); (case N => k_asm); (case X => k_asm); (case T => k_asm); (case GL => assumption); (case XB => assumption); (case TB => assumption); (case hk => exact rfl); (case hdp => ktr_room); (case hun => ktr_units); (case hpre => trivial); k_whole); intro v' tl' h' tk' F' N' _ hp'; (with_reducible obtain ⟨htl', b', t', hv', hok', h0', h1'⟩ := hp'); subst hv'; subst htl'; (try simp only [List.nil_append] at N'); (have hsb' := RowOk.signsB hok'); (obtain ⟨ks', hks'⟩ : ∃ ks, KBw.bInts b' = ks := ⟨_, rfl⟩); rw [hks'] at hok'; (have hlo' := hok'.lo); (have hhi' := hok'.hi); (try k_sweep)))
local macro_rules | `(tactic| walk_at "eval Call") => `(tactic| (k_here; (with_reducible show wpAny _ _ (eval (PySem.Expr.Call (PySem.Expr.Name (Str.ofString "_law_draw") _) _ [] _) _) _ _ _); k_dflt (refine Call_ ?_)))
local macro_rules | `(tactic| walk_at "eval IfExp") => `(tactic| (k_here; (with_reducible show wpAny _ _ (eval (PySem.Expr.IfExp _ (PySem.Expr.Name (Str.ofString "RIPPLE_ALPHABET") _) _ _) _) _ _ _); (fail_if_success (with_reducible show wpAny _ _ _ (GivenIs _ _) _ _)); refine' cut_bytes ?hbCut ?hCutB (fun t' tk' => ?_); (case hbCut => assumption)))
local macro_rules | `(tactic| walk_at "GivenIs") => `(tactic| (first | exact GivenIs.self | exact GivenIs.rip' (by assumption) (by assumption)))
local macro_rules | `(tactic| walk_at "eval DictComp") => `(tactic| (k_here; (with_reducible rename KBw.bInts _ = _ => hKs'); k_dflt (refine' DictComp_src (kf := kfOf hKs') ?F ?N ?hclos ?hcell ?hkind ?hnames ?hx ?hdx ?hs ?_; (case F => k_asm); (case N => k_asm); (case hclos => rfl); (case hcell => decide); (case hkind => rfl); (case hnames => decide); (case hx => rfl); (case hdx => decide); (case hs => (intro _; rfl)))))
local macro_rules | `(tactic| walk_at "DCompAt") => `(tactic| (k_here; k_dflt (refine' ⟨_, src_range rfl (by assumption) ?h0 ?h1, ?z, ?kx, ?F, ?N, ?L, ?_⟩; (case h0 => omega); (case h1 => omega); (case z => (rw [rangeKs_length]; omega)); (case F => k_asm); (case N => k_asm); (case L => exact Top.nolimit (by assumption)); (case kx => (intro C k t s₃ m₃ E' hk hn hm keep; (have hkr := range_mem hk); exact leaf_sign rfl rfl (by decide) rfl rfl (by decide) hn hm ⟨_, keep _ _ (News.get (by k_asm) (by k_mem)), by assumption⟩ (by assumption) (by omega) hkr.1 hkr.2)); intro D' o' h' tk' F' N' l1 lo' hM'; rw [rows_by'] at hM'; (try k_lt l1); (try k_sweep))))
local macro_rules | `(tactic| walk_at "eval ListComp") => `(tactic| (k_here; (with_reducible show wpAny _ _ (eval (PySem.Expr.ListComp (PySem.Expr.Call (PySem.Expr.Name (Str.ofString "chr") _) _ _ _) _ _ _) _) _ _ _); k_dflt (refine' ListComp_src (p := fun _ => true) (R := fun k y => ∃ t, y = Value.str (chrS k) t) ?F ?N ?hclos ?hcell ?hkind ?hnames ?hx ?hs ?_; (case F => k_asm); (case N => k_asm); (case hclos => rfl); (case hcell => decide); (case hkind => rfl); (case hnames => decide); (case hx => rfl); (case hs => (intro _; rfl)))))
local macro_rules | `(tactic| walk_at "CompAt") => `(tactic| (k_here; (have hle' := row_le (by assumption)); k_dflt (refine' ⟨_, src_list rfl ?hl ?hi, ?z, ?t, ?e, ?F, ?N, ?_⟩; (case hi => assumption); (case hl => exact News.isList (by k_asm) (by k_mem)); (case z => omega); (case F => k_asm); (case N => k_asm); (case e => (intro C k t s₃ m₃ E' hk hpk hn hm keep; exact leaf_chr (by k_asm) (by k_asm) (by k_is) (fun b o e => keep b o (Fr.keep (by k_asm) b o e)) rfl rfl (by decide) rfl hn hm (by assumption) hk)); (case t => (intro C k t s₃ m₃ E' hk hn hm keep; exact wpAny_tests_nil ⟨rfl, keeps_refl⟩)); intro D' ys' n' h' tk' F' N' o1' hp'; (simp only [LCg.Off1, and_true] at o1'); (have hgp' := strs_all hp'); clear hp'; (try k_sweep))))
local macro_rules | `(tactic| walk_at "call builtin:str.join") => `(tactic| (k_here; k_dflt (refine' join_told ?hl ?hi ?hz ?hr (fun x' t' k' hs' hc' => ?_); (case hi => assumption); (case hl => exact News.isList (by k_asm) (by k_mem)); (case hz => assumption); (case hr => assumption); (try k_sweep))))
local macro_rules | `(tactic| walk_at "eval IfExp") => `(tactic| (k_here; (with_reducible show wpAny _ _ (eval (PySem.Expr.IfExp _ (PySem.Expr.Name (Str.ofString "told") _) _ _) _) _ _ _); (fail_if_success (with_reducible show wpAny _ _ _ (TextJ _ _ _ _ _ _) _ _)); k_dflt (refine' cut_text ?hsCut ?hcCut ?FCut ?NCut ?hCutT (fun h' tk' v' ht' F' N' => ?_); (case hsCut => assumption); (case hcCut => assumption); (case FCut => k_asm); (case NCut => k_asm))))
local macro_rules | `(tactic| walk_at "TextJ") => `(tactic| (k_dflt first | exact ⟨_, _, rfl, by k_asm, by k_asm, TextIs.ofS (by assumption) (by assumption) (by assumption)⟩ | exact ⟨_, _, rfl, by k_asm, by k_asm, TextIs.ofB (by assumption) (by assumption) (by assumption)⟩))
local macro_rules | `(tactic| walk_at "call type:bytes") => `(tactic| (k_here; (with_reducible show wpAny _ _ (call (Value.type _) [Value.ref _]) _ _ _); k_dflt (refine' KBa.make_K ?k1 ?k2 ?k3 ?k4 ?k5 ?k6 ?k7 ?_; (case k1 => k_asm); (case k2 => k_asm); (case k3 => exact rfl); (case k5 => assumption); (case k4 => exact News.isList (by k_asm) (by k_mem)); (case k6 => exact row_in (by assumption)); (case k7 => exact Nat.le_trans (by assumption : List.length _ ≤ 16) (by decide))); intro h' t' k' F' N' hin'; (have hbr' := KBa.ints_make hin'); (try k_sweep)))
local macro_rules | `(tactic| walk_at "call ref") => `(tactic| (k_here; (with_reducible show wpAny _ _ (call (Value.ref 35) _ _) _ _ _); k_dflt (refine' con_use2 ?B ?F ?N ?X ?T ?GL ?XB ?TB ?hk (dec_intT _ _ _ _ _ _ _ _ _ _ _ _ ?hb ?hv ?hz ?hsb ?hbind) ?hdp ?hun ?hpre ?_ ?_; (case B => k_asm); (case F => k_asm); (case N => k_asm); (case X => k_asm); (case T => k_asm); (case GL => assumption); (case XB => assumption); (case TB => assumption); (case hk => exact rfl); (case hbind => first | ((with_reducible show Binder _ _ (Args.mk [_] _) _); exact bind_int1 _ _ rfl) | ((with_reducible show Binder _ _ (Args.mk [_, _] []) _); exact bind_int3 _ _ _ rfl) | ((with_reducible show Binder _ _ (Args.mk [_, _] _) _); exact bind_int2 _ _ _ rfl)); (case hv => first | assumption | exact TextIs.ofS (by assumption) (by assumption) (by assumption)); (case hb => first | assumption | exact btc_hb (by assumption) (by assumption) (by assumption)); (case hz => omega); (case hsb => first | assumption | exact btc_sb (by assumption) (by assumption) (by assumption)); (case hdp => ktr_room); (case hun => ktr_units); (case hpre => trivial); all_goals (first | (intro v' tl' h' tk' F' N' hoff' hp'; (with_reducible obtain ⟨htl', hall', t', hv'⟩ := hp'); subst hv'; subst htl'; clear hoff'; (try simp only [List.nil_append] at N'); (try k_sweep)) | (intro e' h' tk' R' U' hex')))))
local macro_rules | `(tactic| walk_at "call ref") => `(tactic| (k_here; (with_reducible show wpAny _ _ (call (Value.ref 44) _ _) _ _ _); k_dflt (refine' con_use2 ?B ?F ?N ?X ?T ?GL ?XB ?TB ?hk (dec_bT _ _ _ _ _ _ _ _ _ _ _ _ ?hb ?hv ?hz ?hsb ?hbind) ?hdp ?hun ?hpre ?_ ?_; (case B => k_asm); (case F => k_asm); (case N => k_asm); (case X => k_asm); (case T => k_asm); (case GL => assumption); (case XB => assumption); (case TB => assumption); (case hk => exact rfl); (case hbind => first | ((with_reducible show Binder _ _ (Args.mk [_] _) _); exact bind_b1 _ _ rfl) | ((with_reducible show Binder _ _ (Args.mk [_, _] []) _); exact bind_b3 _ _ _ rfl) | ((with_reducible show Binder _ _ (Args.mk [_, _] _) _); exact bind_b2 _ _ _ rfl)); (case hv => first | assumption | exact TextIs.ofS (by assumption) (by assumption) (by assumption)); (case hb => first | assumption | exact btc_hb (by assumption) (by assumption) (by assumption)); (case hz => omega); (case hsb => first | assumption | exact btc_sb (by assumption) (by assumption) (by assumption)); (case hdp => ktr_room); (case hun => ktr_units); (case hpre => trivial); all_goals (first | (intro v' tl' h' tk' F' N' hoff' hp'; (with_reducible obtain ⟨htl', hall', bb', t', hv', hbb'⟩ := hp'); subst hv'; subst htl'; clear hoff'; (try simp only [List.nil_append] at N'); (try k_sweep)) | (intro e' h' tk' R' U' hex')))))
local macro_rules | `(tactic| walk_at "exec Try") => `(tactic| (k_here; (fail_if_success (with_reducible show wpAny _ _ _ (TryJ _ _ _ _ _ _ _) _ _)); k_dflt first | ((with_reducible show wpAny _ _ (exec (Stmt.Try (Stmt.Assign [PySem.Expr.Name (Str.ofString "number") _] _ _ :: _) _ _ _ _) _) _ _ _); (refine' cut_num (Str.ofString "number") true ?hbN1 ?htN1 ?FN1 ?NN1 ?hCutN1 (fun h' tk' v' hr' F' N' => ?_); (case hbN1 => assumption); (case htN1 => assumption); (case FN1 => k_asm); (case NN1 => k_asm))) | ((with_reducible show wpAny _ _ (exec (Stmt.Try (Stmt.Assign [PySem.Expr.Name (Str.ofString "got") _] _ _ :: _) _ _ _ _) _) _ _ _); (refine' cut_got (Str.ofString "got") true ?hbN2 ?htN2 ?FN2 ?NN2 ?hCutN2 (fun h' tk' v' hr' F' N' => ?_); (case hbN2 => assumption); (case htN2 => assumption); (case FN2 => k_asm); (case NN2 => k_asm))) | ((with_reducible show wpAny _ _ (exec (Stmt.Try (Stmt.Assign [PySem.Expr.Name (Str.ofString "strict") _] _ _ :: _) _ _ _ _) _) _ _ _); (refine' cut_num (Str.ofString "strict") false ?hbN3 ?htN3 ?FN3 ?NN3 ?hCutN3 (fun h' tk' v' hr' F' N' => ?_); (case hbN3 => assumption); (case htN3 => assumption); (case FN3 => k_asm); (case NN3 => k_asm))) | ((with_reducible show wpAny _ _ (exec (Stmt.Try (Stmt.Assign [PySem.Expr.Name (Str.ofString "plain") _] _ _ :: _) _ _ _ _) _) _ _ _); (refine' cut_got (Str.ofString "plain") false ?hbN4 ?htN4 ?FN4 ?NN4 ?hCutN4 (fun h' tk' v' hr' F' N' => ?_); (case hbN4 => assumption); (case htN4 => assumption); (case FN4 => k_asm); (case NN4 => k_asm)))))
local macro_rules | `(tactic| walk_at "exec Try") => `(tactic| (k_here; (with_reducible show wpAny _ _ _ (TryJ _ _ _ _ _ _ _) _ _); refine wpAny_Try_except ?_))
local macro_rules | `(tactic| walk_at "TryJ") => `(tactic| (k_dflt (refine' TryJ.intro ?FT ?NT ?hxT ?hrT ?hsT; (case FT => k_asm); (case NT => k_asm); (case hxT => rfl); (case hrT => first | exact Or.inl ⟨by assumption, _, rfl⟩ | exact Or.inr ⟨by assumption, _, rfl⟩ | exact Or.inl ⟨by assumption, _, _, rfl, by assumption⟩); (case hsT => (intro z hz; simp only [if_neg hz])))))
local macro_rules | `(tactic| walk_at "noteFrame ref") => `(tactic| (k_here; (with_reducible rename RaisedSN _ _ _ _ _ _ _ => rsX); k_dflt (refine' caught_X ?K ?F ?N rsX ?U ?XB ?TB ?ex ?hv ?hn ?h1 ?h2 ?h3 (fun h' F' N' => ?_) ?hk ?hx ?hd ?hE; (case K => k_asm); (case F => k_asm); (case N => k_asm); (case U => assumption); (case XB => k_asm); (case TB => k_asm); (case ex => k_is); (case hv => exact PyProof.Rows.Boot.«ValueError»); (case hn => decide); (case h1 => (rw [isSubtype_type]; kernel_rfl)); (case h2 => (rw [isSubtype_type]; kernel_rfl)); (case h3 => (rw [isSubtype_type]; kernel_rfl)); (case hk => rfl); (case hx => rfl); (case hd => decide); (case hE => first | passes_own | with_unfolding_all passes_own))))
local macro_rules | `(tactic| walk_at "call ref") => `(tactic| (k_here; (with_reducible show wpAny _ _ (call (Value.ref 65) _ _) _ _ _); k_dflt (refine' con_use0 ?B ?F ?N ?X ?T ?GL ?XB ?TB ?hk (readings _ _ _ _ _ _ _ _ _ _ ?hi ?hz ?hM ?hlo) ?hdp ?hun ?hpre ?_; (case B => k_asm); (case F => k_asm); (case N => k_asm); (case X => k_asm); (case T => k_asm); (case GL => assumption); (case XB => assumption); (case TB => assumption); (case hk => exact rfl); (case hpre => exact ⟨News.isList (by k_asm) (by k_mem), News.get (by k_asm) (by k_mem)⟩); (case hi => assumption); (case hz => assumption); (case hM => assumption); (case hlo => assumption); (case hdp => ktr_room); (case hun => ktr_units); k_whole); intro v' tl' h' tk' F' N' hoff' hp'; (with_reducible obtain ⟨R', k', ys', L2', hv', htl', hin'⟩ := hp'); subst hv'; subst htl'; clear hoff'; (have hc3' := cases3 (by assumption) (by assumption) (by assumption) (by assumption) (by assumption) (by assumption) hin'); clear hin'; cases hc3'; (all_goals ((try simp only [List.nil_append, List.cons_append] at N'); (try k_sweep)))))
local macro_rules | `(tactic| walk_at "call ref") => `(tactic| (k_here; (with_reducible show wpAny _ _ (call (Value.ref 72) [Value.ref _, _] _) _ _ _); k_dflt (refine' con_use0 ?B ?F ?N ?X ?T ?GL ?XB ?TB ?hk (number_list _ _ _ _ _ _ _ _ _ ?hi ?hz ?hks ?hb0 ?hb1) ?hdp ?hun ?hpre ?_; (case B => k_asm); (case F => k_asm); (case N => k_asm); (case X => k_asm); (case T => k_asm); (case GL => assumption); (case XB => assumption); (case TB => assumption); (case hk => exact rfl); (case hpre => exact News.isList (by k_asm) (by k_mem)); (case hi => assumption); (case hz => assumption); (case hks => assumption); (case hb0 => omega); (case hb1 => omega); (case hdp => ktr_room); (case hun => ktr_units); k_whole); intro v' tl' h' tk' F' N' hoff' hp'; (with_reducible obtain ⟨htl', x', t', hv', hx'⟩ := hp'); subst hv'; subst htl'; clear hoff'; (have hx2' := hx'.trans (by assumption)); clear hx'; subst hx2'; (try simp only [List.nil_append] at N'); (try k_sweep)))
local macro_rules | `(tactic| walk_at "call ref") => `(tactic| (k_here; (with_reducible show wpAny _ _ (call (Value.ref 72) [Value.bytes _ _, _] _) _ _ _); k_dflt (refine' con_use0 ?B ?F ?N ?X ?T ?GL ?XB ?TB ?hk (number_bytes _ _ _ _ _ _ _ _ ?hb ?hz) ?hdp ?hun ?hpre ?_; (case B => k_asm); (case F => k_asm); (case N => k_asm); (case X => k_asm); (case T => k_asm); (case GL => assumption); (case XB => assumption); (case TB => assumption); (case hk => exact rfl); (case hb => assumption); (case hz => assumption); (case hdp => ktr_room); (case hun => ktr_units); (case hpre => trivial); k_whole); intro v' tl' h' tk' F' N' hoff' hp'; (with_reducible obtain ⟨htl', x', t', hv', hx'⟩ := hp'); subst hv'; subst htl'; clear hoff'; (have hx2' := hx'.trans (by assumption)); clear hx'; subst hx2'; (try simp only [List.nil_append] at N'); (try k_sweep)))
local macro_rules | `(tactic| walk_at "eval ListComp") => `(tactic| (k_here; (with_reducible show wpAny _ _ (eval (PySem.Expr.ListComp (PySem.Expr.Name (Str.ofString "x") _) _ _ _) _) _ _ _); (with_reducible rename IsMap _ _ _ => hMp); k_dflt (refine' ListComp_src (p := pOf hMp) (R := fun k y => ∃ t, y = Value.int k t) ?F ?N ?hclos ?hcell ?hkind ?hnames ?hx ?hs ?_; (case F => k_asm); (case N => k_asm); (case hclos => rfl); (case hcell => decide); (case hkind => rfl); (case hnames => decide); (case hx => rfl); (case hs => (intro _; rfl)))))
local macro_rules | `(tactic| walk_at "CompAt") => `(tactic| (k_here; (with_reducible show CompAt _ _ _ _ _ _ _ [_] _ _ _ _ _ _); (with_reducible rename IsMap _ _ _ => hMp); k_dflt (refine' ⟨_, src_list rfl ?hl ?hi, ?z, ?t, ?e, ?F, ?N, ?_⟩; (case hl => exact News.isList (by k_asm) (by k_mem)); (case hi => assumption); (case z => omega); (case F => k_asm); (case N => k_asm); (case e => (intro C k t s₃ m₃ E' hk hpk hn hm keep; exact leaf_name rfl rfl (by decide) hn hm ⟨⟨_, rfl⟩, keeps_refl⟩)); (case t => (intro C k t s₃ m₃ E' hk hn hm keep; exact leaf_in rfl rfl (by decide) rfl rfl (by decide) hn hm ⟨_, keep _ _ (News.get (by k_asm) (by k_mem)), by assumption⟩ (keep _ _ (News.get (by k_asm) (by k_mem))) hMp (by assumption))); intro D' ys' n' h' tk' F' N' o1' hp'; (simp only [LCg.Off1, and_true] at o1'); (have hgp' := flt_ints hp'); clear hp'; (have hfl' := flt_le' hgp' (by assumption)); (try k_sweep))))
local macro_rules | `(tactic| walk_at "exec While BoolOp") => `(tactic| (k_here; (with_reducible rename Fr _ _ _ _ => lF'); (with_reducible rename News _ _ _ _ => lN'); k_dflt first | (with_unfolding_all refine' cut_front (by assumption) ?hEw1 lF' lN' ?hyw1 (fun i' ta' h' tk' hi' hz' F' N' => ?_) (fun i' t' h' tk' hL' F' N' => ?_); (case hyw1 => rfl); (case hEw1 => first | passes_own | with_unfolding_all passes_own)) | (with_unfolding_all refine' cut_nought (by assumption) ?hEw2 lF' lN' ?hyw2 (fun i' ta' h' tk' hi' hz' F' N' => ?_) (fun i' t' h' tk' hL' F' N' => ?_); (case hyw2 => rfl); (case hEw2 => first | passes_own | with_unfolding_all passes_own)); (all_goals (try clear lF' lN'))))
local macro_rules | `(tactic| walk_at "LeadEnd") => `(tactic| ((try with_reducible rename Fr _ _ _ _ => lF'); (try with_reducible rename News _ _ _ _ => lN'); k_dflt (with_unfolding_all refine' lead_end ?hi ?h0 lF' lN' ?hy ?hs; (case hi => omega); (case h0 => first | assumption | (simp only [Int.toNat_natCast] at *; assumption)); (case hy => rfl); (case hs => (intro x hx1; simp only [if_neg hx1])))))
local macro_rules | `(tactic| walk_at "LeadJ") => `(tactic| ((try with_reducible rename Fr _ _ _ _ => lF'); (try with_reducible rename News _ _ _ _ => lN'); k_dflt (with_unfolding_all refine' LeadJ.intro lF' lN' ?hy ?h1 ?h2 ?h3 ?hs; (case hy => rfl); (case h1 => assumption); (case h2 => assumption); (case h3 => first | (intro hlt; exfalso; omega) | (intro _; first | assumption | (simp only [Int.toNat_natCast] at *; assumption))); (case hs => (intro x hx1; simp only [if_neg hx1])))))
local macro_rules | `(tactic| walk_at "LeadPost") => `(tactic| (dsimp only [LeadPost]))
local macro_rules | `(tactic| walk_at "WhlIf") => `(tactic| (first | refine whl_split (fun hpos' => ?_) (fun hno' => ?_) | refine WhlIf.no rfl ?_ | refine WhlIf.yes rfl ?_))
local macro_rules | `(tactic| walk_at "binaryOp Mult ref int") => `(tactic| (k_here; k_dflt (refine' mul_front ?F ?N ?hm ?hL ?hz ?_; (case F => k_asm); (case N => k_asm); (case hm => k_mem); (case hL => assumption); (case hz => assumption)); intro D' ws' h' F' N' l1 hI'; (try k_lt l1); (try k_sweep)))
local macro_rules | `(tactic| walk_at "compareOp NotEq ref ref") => `(tactic| (k_here; k_dflt (refine' lists_ne ?ha ?hb ?hi ?hj ?hu ?he ?hf ?hg ?hne ?_; (case ha => exact News.isList (by k_asm) (by k_mem)); (case hb => exact News.isList (by k_asm) (by k_mem)); (case he => assumption); (case hi => assumption); (case hj => assumption); (case hf => assumption); (case hg => assumption); (case hne => omega); (case hu => ke_room))))
theorem law_holds : PySem.Challenge.rw_fe0039_01.Holds := hd (by w_strict (
  k_go0; (all_goals try k_fold)
  k_with "state" => first | exact row_nil | exact row_more ⟨by assumption, by assumption⟩ (alike_in _ _) | exact row_more ⟨by assumption, by assumption⟩ (more_in _) | exact row_more ⟨by assumption, by assumption⟩ (sign_in (by assumption) _ _)
  k_with "pyIter ref" => k_state (fun pre row => row.length ≤ pre.length ∧ ∀ x ∈ row, 33 ≤ x ∧ x < 127) "row"
  k_steps))
end
end Mine
set_option maxRecDepth 100000 in
set_option maxHeartbeats 8000000 in
theorem PySem.Challenge.cw_fe0039_01_holds : PySem.Challenge.rw_fe0039_01.Holds := by
  exact Mine.law_holds
