import PyProof.Rows.All
import Wide.All
import OpenK.AllK
import Wide.FinOn
import PySem.Challenge.RW_ej5004_01
open PySem PySem.W PySem.Calls PyProof.Rows
set_option Elab.async false
set_option maxRecDepth 100000
set_option linter.unusedVariables false
set_option linter.unusedSimpArgs false
namespace Mine
set_option maxHeartbeats 8000000 in
open_top hd for PySem.Challenge.rw_ej5004_01

noncomputable abbrev LSN : List Str := looseW hd.view_39 [Str.ofString "b58encode_int", Str.ofString "b58encode", Str.ofString "b58decode_int", Str.ofString "b58decode", Str.ofString "b58encode_check", Str.ofString "b58decode_check"]

/-- the contract of a def whose value is R: called from any frame it comes back, and all that stood stands -/
abbrev CtrH (lev : Nat) (w : World) (f : Addr) (vs : List Value) (kw : List (Str × Value)) (pre : Heap → Prop) (R : Heap → Heap → Value → Prop) : Prop :=
  ∀ (mean : ExcName → Option Value) (mg mb : Str → Option Value) (dp un : Nat) (gd : Option (List Code)) (cn : Str) (cs : Scope) (a : Addr) (ccd : Value) (cl : List (Str × Addr)) (outer : List Env) (A₀ : Around) (base h₀ : Heap) (L : Addr) (m : Str → Option Value) (s : Shared) (Q E : Value → Shared → Prop),
    Below A₀ base outer h₀ → Fr h₀ L s.heap m → (hd.heap_39 w.params).In h₀ → Top hd.view_39 LSN mean mg mb h₀ → cs.kind = .function → pre base → dp + lev < recursionLimit → un + 10 * lev < cLine →
    (∀ r h' tk', s.heap.StaysIn h' → R s.heap h' r → Q r { s with heap := h', toks := tk' }) →
    wpAny (model PySem.Challenge.rw_ej5004_01.row.prog w) (ktrTop dp un gd cn cs L a ccd cl outer) (call (.ref f) vs kw) Q E s
abbrev CtrV (lev : Nat) (w : World) (f : Addr) (vs : List Value) (kw : List (Str × Value)) (pre : Heap → Prop) (R : Value → Prop) : Prop :=
  CtrH lev w f vs kw pre fun _ _ => R

theorem news_stays {h₀ h h' : Heap} {L : Addr} {news : List (Addr × Obj)} (N : News h₀ L h news) (st : h.StaysIn h') : News h₀ L h' news := fun p hp => ⟨st _ _ (N p hp).1, (N p hp).2⟩

theorem use_ctr {lev : Nat} {w : World} {f : Addr} {vs : List Value} {kw : List (Str × Value)} {pre : Heap → Prop} {R : Heap → Heap → Value → Prop} (C : CtrH lev w f vs kw pre R)
    {mean : ExcName → Option Value} {mg mb : Str → Option Value} {dp un : Nat} {gd : Option (List Code)} {cn : Str} {cs : Scope} {a : Addr} {ccd : Value} {cl : List (Str × Addr)} {outer : List Env} {A₀ : Around} {base h₀ : Heap} {L : Addr} {m : Str → Option Value} {news : List (Addr × Obj)} {s : Shared} {Q E : Value → Shared → Prop}
    (B : Below A₀ base outer h₀) (F : Fr h₀ L s.heap m) (X : (hd.heap_39 w.params).In h₀) (N : News h₀ L s.heap news) (T : Top hd.view_39 LSN mean mg mb h₀) (hk : cs.kind = .function) (hp : pre base) (hd : dp + lev < recursionLimit) (hu : un + 10 * lev < cLine)
    (ret : ∀ r h' tk', Fr h₀ L h' m → News h₀ L h' news → R s.heap h' r → Q r { s with heap := h', toks := tk' }) :
    wpAny (model PySem.Challenge.rw_ej5004_01.row.prog w) (ktrTop dp un gd cn cs L a ccd cl outer) (call (.ref f) vs kw) Q E s :=
  C mean mg mb dp un gd cn cs a ccd cl outer A₀ base h₀ L m s Q E B F X T hk hp hd hu fun r h' tk' st hr => ret r h' tk' (F.keptAll st) (news_stays N st) hr

section
variable {prog : Program} {w : World} {A A₀ : Around} {s : Shared} {K : Frag} {L f : Addr} {h₀ base : Heap} {m mg mb : Str → Option Value} {p : Program} {loose : List Str} {mean : ExcName → Option Value}
  {env : Env} {outer : List Env} {R : Result → Shared → Prop} {name qual : Str} {params : Arguments} {body : List Stmt} {scope : Scope} {dV kV doc pm cdv ct oc : Value} {an od : Option Addr} {osl : Array (Option Value)} {args : Args} {binds : List (Str × Value)}
theorem below_here (B : Below A₀ base outer h₀) (F : Fr h₀ L s.heap m) (hA : A.frames = some (env :: outer)) (hf : env.frame = some L) (hke : env.scope.kind = .function) : Below A base (env :: outer) s.heap :=
  have B₁ := pushX B F hf hke
  ⟨hA, B₁.stays, B₁.frames⟩
/-- into a plain def: the ground of its frame is all that stood at the call -/
theorem enterP (B : Below A₀ base outer h₀) (F : Fr h₀ L s.heap m) (X₀ : K.In h₀) (T : Top p loose mean mg mb h₀) (hA : A.frames = some (env :: outer)) (hf : env.frame = some L) (hke : env.scope.kind = .function)
    (ho : K.lookup f = some ⟨oc, od, .func (fnOf name qual params body scope dV kV doc pm an cdv ct), osl⟩) (hcd : codeIn K cdv qual = true) (hroom : A.depth < recursionLimit)
    (hbind : BindsTo s (fnOf name qual params body scope dV kV doc pm an cdv ct) args binds) (hloc : ∀ y ∈ binds, scope.names.lookup y.1 = some .local)
    (h : ∀ L' h₁, Fr s.heap L' h₁ (fun y => binds.reverse.lookup y) → News s.heap L' h₁ [] → Below A base (env :: outer) s.heap → K.In s.heap → Top p loose mean mg mb s.heap →
      wpAny (model prog w) (A.deeper (envOf qual scope L' f cdv)) (execs body (envOf qual scope L' f cdv))
        (fun fl s' => R (.ok (.ret (match fl with | .ret v => v | _ => .none))) s')
        (fun e s' => wpAny (model prog w) (A.deeper (envOf qual scope L' f cdv)) (leaving (envOf qual scope L' f cdv) e) (fun _ s'' => R (.error e) s'') (fun e' s'' => R (.error e') s'') s')
        { s with heap := h₁, toks := s.toks + binds.length })
    (hcell : ∀ x ∈ scope.names, x.2 ≠ .cell) (hco : scope.isCoroutine = false) (hgen : scope.isGenerator = false) (hk : scope.kind = .function) : codeAny (model prog w) A (.call (.ref f) args) R s := by
  refine codeAny_call_def (fd := fnOf name qual params body scope dV kV doc pm an cdv ct) (body := body) (binds := binds) hroom ((X₀.keeps F.keep) _ _ ho) rfl (T.nolimit.keeps F.keep) (codeRec_of (X₀.keeps F.keep) hcd) rfl hbind hcell hloc (fun h₁ hns hk₁ => ?_) hco hgen hk
  exact h s.heap.objs.size h₁ ⟨hns, hk₁, Nat.le_refl _⟩ News.nil (below_here B F hA hf hke) (X₀.keeps F.keep) (T.keeps F.keep)
/-- the same for a def with captured names -/
theorem enterCl (B : Below A₀ base outer h₀) (F : Fr h₀ L s.heap m) (X₀ : K.In h₀) (T : Top p loose mean mg mb h₀) (hA : A.frames = some (env :: outer)) (hf : env.frame = some L) (hke : env.scope.kind = .function)
    (ho : K.lookup f = some ⟨oc, od, .func (fnOf name qual params body scope dV kV doc pm an cdv ct), osl⟩) (hcd : codeIn K cdv qual = true) (hroom : A.depth < recursionLimit)
    (hbind : BindsTo s (fnOf name qual params body scope dV kV doc pm an cdv ct) args binds) (hkind : (binds.all fun y => scope.names.lookup y.1 == some .local || scope.names.lookup y.1 == some .cell) = true)
    (hnd : ((cellsFrom 0 scope.names []).map (·.1)).Nodup)
    (h : ∀ L' h₁ tk cells, Fr s.heap L' h₁ (bindL (envOfC qual scope L' f cdv).kindOf binds fun _ => none) → News s.heap L' h₁ (cells ++ []) →
      CellsAre (bindC (envOfC qual scope L' f cdv).kindOf binds fun _ => none) (cellsFrom (L' + 1) scope.names []) cells → Below A base (env :: outer) s.heap → K.In s.heap → Top p loose mean mg mb s.heap →
      wpAny (model prog w) (A.deeper (envOfC qual scope L' f cdv)) (execs body (envOfC qual scope L' f cdv))
        (fun fl s' => R (.ok (.ret (match fl with | .ret v => v | _ => .none))) s')
        (fun e s' => wpAny (model prog w) (A.deeper (envOfC qual scope L' f cdv)) (leaving (envOfC qual scope L' f cdv) e) (fun _ s'' => R (.error e) s'') (fun e' s'' => R (.error e') s'') s')
        { s with heap := h₁, toks := tk })
    (hco : scope.isCoroutine = false) (hgen : scope.isGenerator = false) (hk : scope.kind = .function) : codeAny (model prog w) A (.call (.ref f) args) R s := by
  refine codeAny_call_function hroom ((X₀.keeps F.keep) _ _ ho) rfl hco hgen rfl (codeRec_of (X₀.keeps F.keep) hcd) (hbind _ _ _ _ ?_)
  refine wpAny_newFunctionEnv_cells hk (kindsX hkind _) fun env' he s' x => ?_
  subst he
  refine ⟨(T.nolimit.keeps F.keep).keeps x.toInCall.keep, codeAny_func ?_⟩
  obtain ⟨h₁, tk, rfl, _⟩ := x.done
  obtain ⟨cells, NC, Y⟩ := Cl.news (h₀ := s.heap) (Nat.le_refl _) fun n c hm => ⟨x.cell n c (lookup_of_mem_nodup (cellsFrom_names scope.names 0 (s.heap.objs.size + 1) [] [] rfl ▸ hnd) hm), x.above n c hm⟩
  exact h s.heap.objs.size h₁ tk cells ⟨x.toInCall.ns, x.toInCall.keep, Nat.le_refl _⟩ (by rw [List.append_nil]; exact NC) Y (below_here B F hA hf hke) (X₀.keeps F.keep) (T.keeps F.keep)
end

/-- a number -/
def isInt (z : Int) (r : Value) : Prop := ∃ t, r = .int z t
/-- octets -/
def isBts (ks : List Int) (r : Value) : Prop := ∃ b t, r = .bytes b t ∧ KBw.bInts b = ks

section
variable {g h₀ h' : Heap} {L : Addr} {m : Str → Option Value} {s : Shared} {Q : Value → Shared → Prop} {t : Tok} {tk' : Nat}
theorem end_int {z y : Int} (hret : ∀ r h' tk', g.StaysIn h' → isInt z r → Q r { s with heap := h', toks := tk' }) (F : Fr g L h' m) (e : y = z) : Q (.int y t) { s with heap := h', toks := tk' } := by
  subst e
  exact hret _ _ _ F.keep ⟨_, rfl⟩
theorem end_bts {ks ls : List Int} {b : Array UInt8} (hret : ∀ r h' tk', g.StaysIn h' → isBts ks r → Q r { s with heap := h', toks := tk' }) (F : Fr g L h' m) (hb : KBw.bInts b = ls) (e : ls = ks) : Q (.bytes b t) { s with heap := h', toks := tk' } := by
  subst e
  exact hret _ _ _ F.keep ⟨_, _, rfl, hb⟩
end
/-- a new list of ints -/
def isLst (zs : List Int) (g h : Heap) (r : Value) : Prop := ∃ d ws n, r = .ref d ∧ h.get? d = some (listOf ws.toArray n) ∧ g.get? d = none ∧ IntsAre ws zs
theorem end_lst {g h' : Heap} {L d : Addr} {m : Str → Option Value} {s : Shared} {Q : Value → Shared → Prop} {tk' n : Nat} {ws : List Value} {news : List (Addr × Obj)} {zs ys : List Int} (hret : ∀ r h' tk', g.StaysIn h' → isLst zs g h' r → Q r { s with heap := h', toks := tk' }) (F : Fr g L h' m) (N : News g L h' ((d, listOf ws.toArray n) :: news)) (hi : IntsAre ws ys) (e : ys = zs) : Q (.ref d) { s with heap := h', toks := tk' } := by
  subst e
  have := N _ (.head _)
  exact hret _ _ _ F.keep ⟨d, ws, n, rfl, this.1, this.2.2, hi⟩
theorem use_ctrL {lev : Nat} {w : World} {f : Addr} {vs : List Value} {kw : List (Str × Value)} {pre : Heap → Prop} {zs : List Int} (C : CtrH lev w f vs kw pre (isLst zs))
    {mean : ExcName → Option Value} {mg mb : Str → Option Value} {dp un : Nat} {gd : Option (List Code)} {cn : Str} {cs : Scope} {a : Addr} {ccd : Value} {cl : List (Str × Addr)} {outer : List Env} {A₀ : Around} {base h₀ : Heap} {L : Addr} {m : Str → Option Value} {news : List (Addr × Obj)} {s : Shared} {Q E : Value → Shared → Prop}
    (B : Below A₀ base outer h₀) (F : Fr h₀ L s.heap m) (X : (hd.heap_39 w.params).In h₀) (N : News h₀ L s.heap news) (T : Top hd.view_39 LSN mean mg mb h₀) (hk : cs.kind = .function) (hp : pre base) (hd : dp + lev < recursionLimit) (hu : un + 10 * lev < cLine)
    (ret : ∀ d ws n h' tk', Fr h₀ L h' m → News h₀ L h' ((d, listOf ws.toArray n) :: news) → IntsAre ws zs → Q (.ref d) { s with heap := h', toks := tk' }) :
    wpAny (model PySem.Challenge.rw_ej5004_01.row.prog w) (ktrTop dp un gd cn cs L a ccd cl outer) (call (.ref f) vs kw) Q E s := by
  refine C mean mg mb dp un gd cn cs a ccd cl outer A₀ base h₀ L m s Q E B F X T hk hp hd hu fun r h' tk' st hr => ?_
  obtain ⟨d, ws, n, rfl, h1, h2, h3⟩ := hr
  refine ret d ws n h' tk' (F.keptAll st) (fun p hp => ?_) h3
  rcases List.mem_cons.mp hp with rfl | hp
  · refine ⟨h1, fun e => ?_, ?_⟩
    · dsimp only at e
      obtain ⟨oL, _, _, hL, _⟩ := F.ns
      rw [e, hL] at h2; cases h2
    · show h₀.get? d = none
      cases q : h₀.get? d with
      | none => rfl
      | some o => have := F.keep _ _ q; rw [h2] at this; cases this
  · exact news_stays N st p hp
def drawF (ns : List Int) (k : Int) : Int := if ns = [] then 5 * k + 2 else ns.getD (k.fmod ns.length).toNat 0 + 37 * (k.fdiv ns.length)

-- lines of my own, under keys of my own: into a contract's def; the same for a def with captured names
local macro_rules | `(tactic| walk_at "MINE enter") => `(tactic| ((refine wpAny_call ?_); k_dflt (refine' enterP ?k1 ?k2 ?k3 ?k5 ?kA ?kF ?kK ?k6 ?k7 ?k8 ?k9 ?kB ?_ ?c5 ?c2 ?c3 ?c4; (case kA => exact rfl); (case kF => exact rfl); (case kK => assumption); (case k1 => k_asm); (case k2 => k_asm); (case k3 => k_asm); (case k5 => k_asm); (case k6 => k_is); (case k7 => k_is); (case k8 => ktr_room); (case k9 => first | exact BindsTo.of_eq rfl | exact binds_K (by k_in) rfl (by k_is) rfl rfl rfl); (case c5 => decide); (case kB => exact locs rfl); (case c2 => exact rfl); (case c3 => exact rfl); (case c4 => exact rfl))))

local macro_rules | `(tactic| walk_at "MINE enter") => `(tactic| ((refine wpAny_call ?_); k_dflt (refine' enterP ?k1 ?k2 ?k3 ?k5 ?kA ?kF ?kK ?k6 ?k7 ?k8 ?k9 ?kB ?_ ?c5 ?c2 ?c3 ?c4; (case kA => exact rfl); (case kF => exact rfl); (case kK => assumption); (case k1 => k_asm); (case k2 => k_asm); (case k3 => k_asm); (case k5 => k_asm); (case k6 => k_is); (case k7 => k_is); (case k8 => ktr_room); (case k9 => first | exact BindsTo.of_eq rfl | exact binds_K (by k_in) rfl (by k_is) rfl rfl rfl | exact kp_binds (binds := [(Str.ofString "v", .bytes _ _), (Str.ofString "alphabet", .bytes _ _), (Str.ofString "autofix", .bool false)]) (by k_in) (fun _ => rfl) | exact kp_binds (binds := [(Str.ofString "v", .bytes _ _), (Str.ofString "alphabet", .bytes _ _), (Str.ofString "autofix", .bool false), (Str.ofString "sha256", .ref 115)]) (by k_in) (fun _ => rfl) | exact kp_binds (binds := [(Str.ofString "v", .str _ _), (Str.ofString "alphabet", .bytes _ _), (Str.ofString "autofix", .bool false)]) (by k_in) (fun _ => rfl) | exact kp_binds (binds := [(Str.ofString "v", .str _ _), (Str.ofString "alphabet", .bytes _ _), (Str.ofString "autofix", .bool false), (Str.ofString "sha256", .ref 115)]) (by k_in) (fun _ => rfl)); (case c5 => decide); (case kB => exact locs rfl); (case c2 => exact rfl); (case c3 => exact rfl); (case c4 => exact rfl)); k_whole; intro L' h' F' N' B' X' T'; (try dsimp only); (try k_lift B'); (try k_fold)))
local macro_rules | `(tactic| walk_at "MINE enterC") => `(tactic| ((refine wpAny_call ?_); k_dflt (refine' enterCl ?k1 ?k2 ?k3 ?k5 ?kA ?kF ?kK ?k6 ?k7 ?k8 ?k9 ?kB ?kD ?_ ?c2 ?c3 ?c4; (case kA => exact rfl); (case kF => exact rfl); (case kK => assumption); (case k1 => k_asm); (case k2 => k_asm); (case k3 => k_asm); (case k5 => k_asm); (case k6 => k_is); (case k7 => k_is); (case k8 => ktr_room); (case k9 => first | exact BindsTo.of_eq rfl | exact binds_K (by k_in) rfl (by k_is) rfl rfl rfl | exact kp_binds (binds := [(Str.ofString "v", .bytes _ _), (Str.ofString "alphabet", .bytes _ _), (Str.ofString "autofix", .bool false)]) (by k_in) (fun _ => rfl) | exact kp_binds (binds := [(Str.ofString "v", .bytes _ _), (Str.ofString "alphabet", .bytes _ _), (Str.ofString "autofix", .bool false), (Str.ofString "sha256", .ref 115)]) (by k_in) (fun _ => rfl) | exact kp_binds (binds := [(Str.ofString "v", .str _ _), (Str.ofString "alphabet", .bytes _ _), (Str.ofString "autofix", .bool false)]) (by k_in) (fun _ => rfl) | exact kp_binds (binds := [(Str.ofString "v", .str _ _), (Str.ofString "alphabet", .bytes _ _), (Str.ofString "autofix", .bool false), (Str.ofString "sha256", .ref 115)]) (by k_in) (fun _ => rfl)); (case kB => exact rfl); (case kD => decide +kernel); (case c2 => exact rfl); (case c3 => exact rfl); (case c4 => exact rfl)); k_whole; intro L' h' tk' cells' F' N' Y' B' X' T'; k_cells Y'; (try simp only [List.cons_append, List.nil_append] at N'); (try dsimp only); (try k_lift B'); (try k_fold)))

section
open Builtin
theorem slot_bytes_rstrip : Slot "bytes" "rstrip" "bytes.rstrip" :=
  .of (owner := "bytes") (n := "rstrip") (by rw [typeLookup_type, builtinLookup_eq_fast]; kernel_rfl) (by decide +kernel) (by decide +kernel) (by decide +kernel)
    (by first | exact .inl (by decide +kernel) | exact .inr (by decide +kernel)) (by rw [isSubtype_type]; kernel_rfl)
theorem type_bytes_rstrip : typeOf (.builtin "bytes.rstrip") = pure (.type "method_descriptor") := by show builtinType _ = _; rw [builtinType_eq_fast]; kernel_rfl
theorem entry_bytes_rstrip : entryFor table "bytes.rstrip" = some Builtin.«bytes.rstrip» := by first | exact entryFor_of_fast (by kernel_rfl) | exact entryFor_of_tree (by kernel_rfl)
theorem args_bytes_rstrip (a : Value) : argsOk "bytes.rstrip" ⟨[a], []⟩ := by unfold argsOk; kernel_rfl
theorem slot_bytes_lstrip : Slot "bytes" "lstrip" "bytes.lstrip" :=
  .of (owner := "bytes") (n := "lstrip") (by rw [typeLookup_type, builtinLookup_eq_fast]; kernel_rfl) (by decide +kernel) (by decide +kernel) (by decide +kernel)
    (by first | exact .inl (by decide +kernel) | exact .inr (by decide +kernel)) (by rw [isSubtype_type]; kernel_rfl)
theorem type_bytes_lstrip : typeOf (.builtin "bytes.lstrip") = pure (.type "method_descriptor") := by show builtinType _ = _; rw [builtinType_eq_fast]; kernel_rfl
theorem entry_bytes_lstrip : entryFor table "bytes.lstrip" = some Builtin.«bytes.lstrip» := by first | exact entryFor_of_fast (by kernel_rfl) | exact entryFor_of_tree (by kernel_rfl)
theorem args_bytes_lstrip (a c : Value) : argsOk "bytes.lstrip" ⟨[a, c], []⟩ := by unfold argsOk; kernel_rfl
def keptR (b : Array UInt8) : List UInt8 := (b.toList.reverse.dropWhile Bytes.isSpace).reverse
def keptL (b c : Array UInt8) : List UInt8 := b.toList.dropWhile c.contains
theorem gives_rstrip (b : Array UInt8) (t : Tok) : Gives («bytes.rstrip» ⟨[.bytes b t], []⟩) (if ((keptR b).length == b.size) = true then .val (.bytes b t) else .bytes (keptR b).toArray) := by
  refine .of_wp fun M A E s Q hq => ?_
  refine wpAny_bind (wpAny_of_eq (a := (.bytes b t, [])) (by first | rfl | kernel_rfl) ?_)
  refine wpAny_bind (wpAny_of_eq (a := Bytes.isSpace) rfl ?_)
  refine wpAny_bind (wpAny_of_eq (a := b) rfl ?_)
  show wpAny M A (if ((keptR b).length == b.size) = true then _ else _) _ E s
  by_cases h : ((keptR b).length == b.size) = true
  · rw [if_pos h] at hq ⊢
    exact wpAny_bind (wpAny_rule (wpAny_bind (wpAny_pure (wpAny_pure ⟨_, rfl, hq⟩))))
  · rw [if_neg h] at hq ⊢
    exact wpAny_bind (wpAny_mkBytes (wpAny_pure ⟨_, rfl, hq.2⟩) hq.1)
theorem gives_lstrip (b c : Array UInt8) (t u : Tok) : Gives («bytes.lstrip» ⟨[.bytes b t, .bytes c u], []⟩) (if ((keptL b c).length == b.size) = true then .val (.bytes b t) else .bytes (keptL b c).toArray) := by
  refine .of_wp fun M A E s Q hq => ?_
  refine wpAny_bind (wpAny_of_eq (a := (.bytes b t, [.bytes c u])) (by first | rfl | kernel_rfl) ?_)
  refine wpAny_bind (wpAny_of_eq (a := c) KBd.like_eq (wpAny_bind (wpAny_pure ?_)))
  refine wpAny_bind (wpAny_of_eq (a := b) rfl ?_)
  show wpAny M A (if ((keptL b c).length == b.size) = true then _ else _) _ E s
  by_cases h : ((keptL b c).length == b.size) = true
  · rw [if_pos h] at hq ⊢
    exact wpAny_bind (wpAny_rule (wpAny_bind (wpAny_pure (wpAny_pure ⟨_, rfl, hq⟩))))
  · rw [if_neg h] at hq ⊢
    exact wpAny_bind (wpAny_mkBytes (wpAny_pure ⟨_, rfl, hq.2⟩) hq.1)
/-- the six blanks -/
def isBl (k : Int) : Bool := k == 32 || (decide (9 ≤ k) && decide (k ≤ 13))
def rstripI (ks : List Int) : List Int := (ks.reverse.dropWhile isBl).reverse
def lstripI (cs ks : List Int) : List Int := ks.dropWhile cs.contains
theorem dropWhile_mapI {f : UInt8 → Int} {p : UInt8 → Bool} {q : Int → Bool} (h : ∀ c, q (f c) = p c) : ∀ l : List UInt8, (l.dropWhile p).map f = (l.map f).dropWhile q
  | [] => rfl
  | c :: r => by
    rw [List.map_cons, List.dropWhile_cons, List.dropWhile_cons, h c]
    cases p c with
    | true => exact dropWhile_mapI h r
    | false => rfl
theorem isBl_of (c : UInt8) : isBl ((c.toNat : Nat) : Int) = Bytes.isSpace c := by
  have e : ∀ k : Fin 256, isBl (((UInt8.ofNat k.val).toNat : Nat) : Int) = Bytes.isSpace (UInt8.ofNat k.val) := by decide +kernel
  have := e ⟨c.toNat, c.toNat_lt⟩
  simpa using this
theorem contains_of (c : UInt8) (l : List UInt8) : (l.map fun d => ((d.toNat : Nat) : Int)).contains ((c.toNat : Nat) : Int) = l.contains c := by
  induction l with
  | nil => rfl
  | cons d r ih =>
    rw [List.map_cons, List.contains_cons, List.contains_cons, ih]
    congr 1
    rw [Bool.eq_iff_iff, beq_iff_eq, beq_iff_eq]
    constructor
    · intro h; exact UInt8.toNat_inj.mp (by omega)
    · intro h; rw [h]
theorem ints_keptR {b : Array UInt8} {ks : List Int} (hk : KBw.bInts b = ks) : KBw.bInts (keptR b).toArray = rstripI ks := by
  subst hk
  show ((b.toList.reverse.dropWhile Bytes.isSpace).reverse.map _) = ((b.toList.map _).reverse.dropWhile isBl).reverse
  rw [List.map_reverse, dropWhile_mapI isBl_of, List.map_reverse]
theorem ints_keptL {b c : Array UInt8} {ks cs : List Int} (hk : KBw.bInts b = ks) (hc : KBw.bInts c = cs) : KBw.bInts (keptL b c).toArray = lstripI cs ks := by
  subst hk hc
  show ((b.toList.dropWhile c.contains).map _) = (b.toList.map _).dropWhile _
  refine dropWhile_mapI (fun d => ?_) _
  show ((c.toList.map fun d => ((d.toNat : Nat) : Int)).contains _) = _
  rw [contains_of]
  simp
theorem len_keptR (b : Array UInt8) : (keptR b).length ≤ b.size := by
  unfold keptR
  rw [List.length_reverse]
  exact Nat.le_trans (List.dropWhile_sublist _).length_le (by simp)
theorem len_keptL (b c : Array UInt8) : (keptL b c).length ≤ b.size := by
  unfold keptL
  exact Nat.le_trans (List.dropWhile_sublist _).length_le (by simp)
theorem same_of_len {l : List UInt8} {b : Array UInt8} (p : List.Sublist l b.toList) (h : (l.length == b.size) = true) : l.toArray = b := by
  have : l = b.toList := p.eq_of_length (by rw [Array.length_toList]; exact beq_iff_eq.mp h)
  rw [this, Array.toArray_toList]
theorem rstripI_len (ks : List Int) : (rstripI ks).length ≤ ks.length := by
  unfold rstripI
  rw [List.length_reverse]
  exact Nat.le_trans (List.dropWhile_sublist _).length_le (by simp)
theorem lstripI_len (cs ks : List Int) : (lstripI cs ks).length ≤ ks.length := (List.dropWhile_sublist _).length_le
section
variable {prog : Program} {w : World} {A : Around} {E : Value → Shared → Prop} {s : Shared} {b c : Array UInt8} {t u : Tok} {ks cs : List Int} {Q : Value → Shared → Prop}
theorem call_rstrip (hk : KBw.bInts b = ks) (hl : ks.length ≤ 16777216) (h : ∀ (d : Array UInt8) t' k, KBw.bInts d = rstripI ks → (rstripI ks).length ≤ ks.length → Q (.bytes d t') { s with toks := k }) :
    wpAny (model prog w) A (call (.builtin "bytes.rstrip") [.bytes b t]) Q E s := by
  refine call_gives slot_bytes_rstrip (typeIs_bytes _ _ _) entry_bytes_rstrip (args_bytes_rstrip _) (gives_rstrip b t) ?_
  have hi := ints_keptR hk
  by_cases e : ((keptR b).length == b.size) = true
  · rw [if_pos e]
    rw [same_of_len (by
      have := (List.dropWhile_sublist (p := Bytes.isSpace) (l := b.toList.reverse)).reverse
      rw [List.reverse_reverse] at this
      exact this) e] at hi
    exact h b t s.toks hi (by first | exact rstripI_len _ | exact lstripI_len _ _)
  · rw [if_neg e]
    refine ⟨?_, h _ _ _ hi (by first | exact rstripI_len _ | exact lstripI_len _ _)⟩
    rw [List.size_toArray, sizeLine_eq]
    refine Nat.le_trans (len_keptR b) ?_
    rw [← KBw.ints_length, hk]
    exact hl
theorem call_lstrip (hk : KBw.bInts b = ks) (hc : KBw.bInts c = cs) (hl : ks.length ≤ 16777216) (h : ∀ (d : Array UInt8) t' k, KBw.bInts d = lstripI cs ks → (lstripI cs ks).length ≤ ks.length → Q (.bytes d t') { s with toks := k }) :
    wpAny (model prog w) A (call (.builtin "bytes.lstrip") [.bytes b t, .bytes c u]) Q E s := by
  refine call_gives slot_bytes_lstrip (typeIs_bytes _ _ _) entry_bytes_lstrip (args_bytes_lstrip _ _) (gives_lstrip b c t u) ?_
  have hi := ints_keptL hk hc
  by_cases e : ((keptL b c).length == b.size) = true
  · rw [if_pos e]
    have e2 : (keptL b c).toArray = b := same_of_len (List.dropWhile_sublist _) e
    rw [e2] at hi
    exact h b t s.toks hi (by first | exact rstripI_len _ | exact lstripI_len _ _)
  · rw [if_neg e]
    refine ⟨?_, h _ _ _ hi (by first | exact rstripI_len _ | exact lstripI_len _ _)⟩
    rw [List.size_toArray, sizeLine_eq]
    refine Nat.le_trans (len_keptL b c) ?_
    rw [← KBw.ints_length, hk]
    exact hl
theorem method_rstrip {M : Model} {pl : Sem Bool} {Q : Value × List Value → Shared → Prop} (h : Q (.builtin "bytes.rstrip", [.bytes b t]) s) : wpAny M A (getMethod (.bytes b t) "rstrip" pl) Q E s := by
  with_reducible exact KBd.method_of (.bytes b t) (typeIs_bytes _ _ _) slot_bytes_rstrip type_bytes_rstrip KBd.noRef h
theorem method_lstrip {M : Model} {pl : Sem Bool} {Q : Value × List Value → Shared → Prop} (h : Q (.builtin "bytes.lstrip", [.bytes b t]) s) : wpAny M A (getMethod (.bytes b t) "lstrip" pl) Q E s := by
  with_reducible exact KBd.method_of (.bytes b t) (typeIs_bytes _ _ _) slot_bytes_lstrip type_bytes_lstrip KBd.noRef h
end
open Builtin
theorem bytes_no_index : typeLookup (.type "bytes") "__index__" = pure none := by rw [typeLookup_type, builtinLookup_eq_fast]; kernel_rfl
section
variable {M : Model} {A : Around} {E : Value → Shared → Prop} {s : Shared} {b c : Array UInt8} {t u : Tok}
theorem asIndex_bytes {Q : Int → Shared → Prop} (hh : A.handled = none) (h : ∀ h' tk e, Heap.NewExc s.heap h' e "TypeError" → E (.ref e) { s with heap := h', toks := tk }) :
    wpAny M A (asIndex (.bytes c t)) Q E s := by
  unfold asIndex
  refine wpAny_bind (wpAny_of_eq (a := none) rfl ?_)
  refine wpAny_bind (wpAny_callSpecial?_none (typeIs_bytes _ _ _) bytes_no_index ?_)
  refine wpAny_bind (wpAny_of_eq (a := "bytes") (by first | rfl | kernel_rfl) ?_)
  exact wpAny_raiseTypeErrorWords hh h
end
end

section
open Builtin
theorem meets_contains (b c : Array UInt8) (t u : Tok) : Meets (Builtin.«bytes.__contains__» ⟨[.bytes b t, .bytes c u], []⟩)
    (fun A R s => A.handled = none ∧ ∀ h' tk, s.heap.StaysIn h' → R (.ok (.ret (.bool (Bytes.find? b c 0 b.size).isSome))) { s with heap := h', toks := tk }) := by
  refine .of_wp fun prog w A R s hS => ?_
  obtain ⟨hh, h⟩ := hS
  refine wpAny_bind (wpAny_of_eq (a := (.bytes b t, [.bytes c u])) (by first | rfl | kernel_rfl) ?_)
  refine wpAny_bind ?_
  show wpAny _ _ (Bytes.containsIn _ (.bytes b t) (.bytes c u)) _ _ s
  unfold Bytes.containsIn
  refine wpAny_bind (wpAny_attempt (asIndex_bytes (by exact hh) fun h' tk e hx => ?_))
  refine wpAny_bind (wpAny_of_eq KBy.buffer_eq ?_)
  refine wpAny_bind (wpAny_of_eq KBy.buffer_eq ?_)
  refine wpAny_bind (wpAny_rule (wpAny_pure ?_))
  exact wpAny_pure ⟨_, rfl, h _ _ hx.keeps⟩
theorem find_none {b : Array UInt8} {ks : List Int} {x : UInt8} (hk : KBw.bInts b = ks) (hx : ∀ k ∈ ks, k ≠ (x.toNat : Int)) : (Bytes.find? b #[x] 0 b.size).isSome = false := by
  subst hk
  rw [Option.isSome_eq_false_iff, Option.isNone_iff_eq_none]
  unfold Bytes.find?
  rw [List.find?_eq_none]
  intro i hi
  simp only [List.mem_map, List.mem_range, List.size_toArray, List.length_cons, List.length_nil] at hi
  obtain ⟨j, hj, rfl⟩ := hi
  intro he
  have he' := beq_iff_eq.mp he
  have hs : j < b.size := by omega
  have h1 : (b.extract (j + 0) (j + 0 + #[x].size))[0]? = #[x][0]? := by rw [he']
  have h2 : b[j]? = some x := by
    rw [Array.getElem?_extract, if_pos (by show 0 < min (j + 0 + 1) b.size - (j + 0); omega)] at h1
    simpa using h1
  have h3 := KBw.ints_get h2
  exact hx _ (List.mem_of_getElem? h3) rfl
section
variable {prog : Program} {w : World} {A : Around} {E : Value → Shared → Prop} {s : Shared} {b : Array UInt8} {x : UInt8} {t u : Tok} {ks : List Int} {Q : Value → Shared → Prop} {h₀ : Heap} {L : Addr} {m : Str → Option Value} {news : List (Addr × Obj)}
theorem notIn_bytes (F : Fr h₀ L s.heap m) (N : News h₀ L s.heap news) (hh : A.handled = none) (hk : KBw.bInts b = ks) (hx : ∀ k ∈ ks, k ≠ (x.toNat : Int)) (h : ∀ h' tk, Fr h₀ L h' m → News h₀ L h' news → Q (.bool true) { s with heap := h', toks := tk }) :
    wpAny (model prog w) A (compareOp .NotIn (.bytes #[x] u) (.bytes b t)) Q E s :=
  SeqRoads2.notIn_meets (typeIs_bytes _ _ _) FB.slot_bytes_contains FB.entry_bytes_contains (FB.args_bytes_contains_2 _ _) (meets_contains b #[x] t u) ⟨hh, fun h' tk st => ⟨_, rfl, by rw [find_none hk hx]; exact h h' tk (F.keptAll st) (news_stays N st)⟩⟩
end
end

section
/-- the digits of n to the base B, the least first, no nought at the end -/
def dg (B n : Nat) : List Nat := if 2 ≤ B ∧ n ≠ 0 then n % B :: dg B (n / B) else []
termination_by n
decreasing_by rename_i h; exact Nat.div_lt_self (Nat.pos_of_ne_zero h.2) (by omega)
theorem dg_zero (B : Nat) : dg B 0 = [] := by rw [dg]; simp
theorem dg_pos {B n : Nat} (hB : 2 ≤ B) (hn : n ≠ 0) : dg B n = n % B :: dg B (n / B) := by
  conv => lhs; rw [dg]
  rw [if_pos ⟨hB, hn⟩]
theorem dg_lt {B : Nat} (hB : 2 ≤ B) : ∀ (n d : Nat), d ∈ dg B n → d < B := by
  intro n
  induction n using Nat.strongRecOn with
  | ind n ih =>
    intro d hd
    by_cases hn : n = 0
    · subst hn; rw [dg_zero] at hd; cases hd
    · rw [dg_pos hB hn] at hd
      rcases List.mem_cons.mp hd with rfl | hd
      · exact Nat.mod_lt _ (by omega)
      · exact ih _ (Nat.div_lt_self (Nat.pos_of_ne_zero hn) (by omega)) d hd
theorem dg_len {B : Nat} (hB : 2 ≤ B) : ∀ (k n : Nat), n < 2 ^ k → (dg B n).length ≤ k := by
  intro k
  induction k with
  | zero => intro n h; have : n = 0 := by omega
            subst this; rw [dg_zero]; exact Nat.le_refl _
  | succ k ih =>
    intro n h
    by_cases hn : n = 0
    · subst hn; rw [dg_zero]; exact Nat.zero_le _
    · rw [dg_pos hB hn, List.length_cons]
      refine Nat.succ_le_succ (ih _ ?_)
      have h1 : n / B ≤ n / 2 := Nat.div_le_div_left hB (by decide)
      have h2 : 2 ^ (k + 1) = 2 ^ k * 2 := Nat.pow_succ ..
      omega
/-- the number that digits tell -/
def val (B : Nat) : List Nat → Nat
  | [] => 0
  | d :: r => d + B * val B r
theorem val_dg {B : Nat} (hB : 2 ≤ B) : ∀ n : Nat, val B (dg B n) = n := by
  intro n
  induction n using Nat.strongRecOn with
  | ind n ih =>
    by_cases hn : n = 0
    · subst hn; rw [dg_zero]; rfl
    · rw [dg_pos hB hn, val, ih _ (Nat.div_lt_self (Nat.pos_of_ne_zero hn) (by omega))]
      exact Nat.mod_add_div n B
/-- no nought at the end -/
def tidy : List Nat → Prop
  | [] => True
  | [d] => d ≠ 0
  | _ :: r => tidy r
theorem val_pos {B : Nat} (hB : 2 ≤ B) : ∀ {l : List Nat}, l ≠ [] → tidy l → val B l ≠ 0
  | [], h, _ => absurd rfl h
  | [d], _, t => by simp only [val]; simp only [tidy] at t; omega
  | d :: e :: r, _, t => by
    have := val_pos hB (l := e :: r) (by simp) t
    have h2 : 0 < B * val B (e :: r) := Nat.mul_pos (by omega) (Nat.pos_of_ne_zero this)
    rw [val]; omega
theorem dg_val {B : Nat} (hB : 2 ≤ B) : ∀ {l : List Nat}, (∀ d ∈ l, d < B) → tidy l → dg B (val B l) = l
  | [], _, _ => by rw [val, dg_zero]
  | d :: r, hd, t => by
    have hv := val_pos hB (l := d :: r) (by simp) t
    have hdB : d < B := hd d (.head _)
    have tr : tidy r := by cases r with
      | nil => trivial
      | cons e r => exact t
    rw [dg_pos hB hv]
    have h1 : val B (d :: r) % B = d := by rw [val, Nat.add_mul_mod_self_left]; exact Nat.mod_eq_of_lt hdB
    have h2 : val B (d :: r) / B = val B r := by
      rw [val, Nat.add_mul_div_left _ _ (by omega), Nat.div_eq_of_lt hdB, Nat.zero_add]
    rw [h1, h2, dg_val hB (fun x hx => hd x (.tail _ hx)) tr]
theorem tidy_dg {B : Nat} (hB : 2 ≤ B) : ∀ n : Nat, tidy (dg B n) := by
  intro n
  induction n using Nat.strongRecOn with
  | ind n ih =>
    by_cases hn : n = 0
    · subst hn; rw [dg_zero]; trivial
    · rw [dg_pos hB hn]
      have ht := ih _ (Nat.div_lt_self (Nat.pos_of_ne_zero hn) (by omega : 1 < B))
      by_cases hq : n / B = 0
      · rw [hq, dg_zero]
        have := Nat.mod_add_div n B
        rw [hq] at this
        show n % B ≠ 0
        omega
      · rw [dg_pos hB hq] at ht ⊢
        exact ht
/-- the signs of a number's digits, the greatest first -/
def encD (as : List Int) (c : Int) : List Int := ((dg as.length c.toNat).map fun d => as.getD d 0).reverse
theorem fdiv_nat (n B : Nat) : ((n : Int)).fdiv (B : Int) = ((n / B : Nat) : Int) := by rw [Int.fdiv_eq_ediv_of_nonneg _ (by omega)]; rfl
theorem fmod_nat (n B : Nat) : ((n : Int)).fmod (B : Int) = ((n % B : Nat) : Int) := by rw [Int.fmod_eq_emod_of_nonneg _ (by omega)]; rfl
theorem encD_turn {as : List Int} {c : Int} (hB : 2 ≤ as.length) (h0 : 0 ≤ c) (hc : c ≠ 0) : encD as c = encD as (c.fdiv as.length) ++ [as.getD (c.fmod as.length).toNat 0] := by
  obtain ⟨n, rfl⟩ := Int.eq_ofNat_of_zero_le h0
  have hn : n ≠ 0 := by omega
  rw [fdiv_nat, fmod_nat]
  unfold encD
  simp only [Int.toNat_natCast]
  rw [dg_pos hB hn, List.map_cons, List.reverse_cons]
theorem encD_zero (as : List Int) : encD as 0 = [] := by unfold encD; rw [Int.toNat_zero, dg_zero]; rfl
theorem encD_len {as : List Int} {c : Int} (hB : 2 ≤ as.length) (hc : c < 2 ^ 128) : (encD as c).length ≤ 128 := by
  unfold encD
  rw [List.length_reverse, List.length_map]
  refine dg_len hB 128 _ ?_
  omega
theorem pick_one {as : List Int} {k : Int} (h0 : 0 ≤ k) (h1 : k < as.length) : List.take (clipAt as.length (k + 1) - clipAt as.length k) (List.drop (clipAt as.length k) as) = [as.getD k.toNat 0] := by
  obtain ⟨n, rfl⟩ := Int.eq_ofNat_of_zero_le h0
  have hn : n < as.length := by omega
  have e : (n : Int) + 1 = ((n + 1 : Nat) : Int) := by omega
  rw [e, clipAt_nat, clipAt_nat, Nat.min_eq_left (by omega), Nat.min_eq_left (by omega), Nat.add_sub_cancel_left, List.drop_eq_getElem_cons hn, List.take_succ_cons, List.take_zero, Int.toNat_natCast]
  simp [List.getD_eq_getElem?_getD, hn]
/-- the loop of b58encode_int: what is still to come and what stands -/
def encI (as : List Int) (i c : Int) (ls : List Int) : Prop := encD as i = encD as c ++ ls
theorem encI_start (as : List Int) (i : Int) : encI as i i [] := (List.append_nil _).symm
theorem encI_turn {as : List Int} {i c : Int} {ls ms : List Int} (hB : 2 ≤ as.length) (h0 : 0 ≤ c) (hc : c ≠ 0) (h : encI as i c ls)
    (e : ms = List.take (clipAt as.length (c.fmod as.length + 1) - clipAt as.length (c.fmod as.length)) (List.drop (clipAt as.length (c.fmod as.length)) as) ++ ls) : encI as i (c.fdiv as.length) ms := by
  obtain ⟨n, rfl⟩ := Int.eq_ofNat_of_zero_le h0
  have hlt : ((n : Int)).fmod as.length < as.length := by rw [fmod_nat]; have := Nat.mod_lt n (by omega : 0 < as.length); omega
  have hge : 0 ≤ ((n : Int)).fmod as.length := by rw [fmod_nat]; omega
  rw [pick_one hge hlt] at e
  unfold encI at h ⊢
  rw [h, encD_turn hB h0 hc, e, List.append_assoc]
theorem encI_len {as : List Int} {i c : Int} {ls : List Int} (hB : 2 ≤ as.length) (hi : i < 2 ^ 128) (h : encI as i c ls) : ls.length ≤ 128 := by
  have := encD_len hB hi
  rw [h, List.length_append] at this
  omega
theorem encI_end {as : List Int} {i : Int} {ls : List Int} (h : encI as i 0 ls) : ls = encD as i := by
  unfold encI at h; rw [h, encD_zero]; rfl
theorem fdiv_bounds {c : Int} {B : Nat} (hB : 2 ≤ B) (h0 : 0 ≤ c) (hc : c ≠ 0) : 0 ≤ c.fdiv B ∧ c.fdiv B < c := by
  obtain ⟨n, rfl⟩ := Int.eq_ofNat_of_zero_le h0
  rw [fdiv_nat]
  have h9 : n / B < n := Nat.div_lt_self (by omega) (by omega)
  generalize n / B = q at h9 ⊢
  omega
end

section
/-- octets as a number, the first the greatest -/
def vN (l : List Int) : Nat := l.foldl (fun a x => a * 256 + x.toNat) 0
theorem vN_snoc (l : List Int) (x : Int) : vN (l ++ [x]) = vN l * 256 + x.toNat := by unfold vN; rw [List.foldl_append]; rfl
theorem vN_fold : ∀ (l : List Int) (a : Nat), (∀ x ∈ l, 0 ≤ x ∧ x < 256) → l.foldl (fun a x => a * 256 + x.toNat) a < (a + 1) * 256 ^ l.length
  | [], a, _ => by simp
  | x :: r, a, h => by
    have h1 := h x (.head _)
    have h2 := vN_fold r (a * 256 + x.toNat) fun y hy => h y (.tail _ hy)
    rw [List.foldl_cons, List.length_cons, Nat.pow_succ, Nat.mul_comm (256 ^ r.length) 256, ← Nat.mul_assoc]
    exact Nat.lt_of_lt_of_le h2 (Nat.mul_le_mul_right _ (by omega))
theorem vN_lt (l : List Int) (h : ∀ x ∈ l, 0 ≤ x ∧ x < 256) : vN l < 256 ^ l.length := by
  have := vN_fold l 0 h
  rw [Nat.zero_add, Nat.one_mul] at this
  exact this
def iz (l : List Nat) : List Int := List.map (fun d : Nat => (d : Int)) l
theorem iz_len (l : List Nat) : (iz l).length = l.length := by unfold iz; rw [List.length_map]
def carO (B : Nat) (pre out : List Int) : Prop := out = iz (dg B (vN pre))
def carI (B V k : Nat) (c : Int) (out : List Int) : Prop := ∃ lo hi : List Nat, out = iz (lo ++ hi) ∧ lo.length = k ∧ tidy hi ∧ dg B V = lo ++ dg B (c.toNat + 256 * val B hi)
def carW (B V : Nat) (c : Int) (out : List Int) : Prop := ∃ lo : List Nat, out = iz lo ∧ dg B V = lo ++ dg B c.toNat
theorem carO_start (B : Nat) : carO B [] [] := by unfold carO vN; rw [List.foldl_nil, dg_zero]; rfl
theorem carI_start {B : Nat} {pre out : List Int} {n : Int} (hB : 2 ≤ B) (h : carO B pre out) : carI B (vN (pre ++ [n])) 0 n out := by
  refine ⟨[], dg B (vN pre), by rw [h]; rfl, rfl, tidy_dg hB _, ?_⟩
  rw [val_dg hB, List.nil_append, vN_snoc]
  congr 1
  omega
theorem carI_turn {B V k : Nat} {c : Int} {out out' : List Int} {x y : Int} (hB : 2 ≤ B) (hc : 0 ≤ c) (h : carI B V k c out) (hk : k < out.length)
    (ex : x = (c + out.getD k 0 * 256).fdiv B) (ey : y = (c + out.getD k 0 * 256).fmod B) (eo : out' = out.set k y) : 0 ≤ x ∧ carI B V (k + 1) x out' := by
  obtain ⟨lo, hi, rfl, hl, ht, hd⟩ := h
  obtain ⟨n, rfl⟩ := Int.eq_ofNat_of_zero_le hc
  rw [iz_len, List.length_append, hl] at hk
  cases hi with
  | nil => simp at hk
  | cons d r =>
    have hg : (iz (lo ++ d :: r)).getD k 0 = (d : Int) := by
      unfold iz
      rw [List.getD_eq_getElem?_getD, List.getElem?_map, ← hl, List.getElem?_append_right (Nat.le_refl _), Nat.sub_self]
      rfl
    have hv := val_pos hB (l := d :: r) (List.cons_ne_nil _ _) ht
    have e1 : (n : Int) + (d : Int) * 256 = ((n + d * 256 : Nat) : Int) := by rw [Int.natCast_add, Int.natCast_mul]; rfl
    rw [hg, e1, fdiv_nat] at ex
    rw [hg, e1, fmod_nat] at ey
    subst ex ey
    have tr : tidy r := by cases r with
      | nil => trivial
      | cons e r => exact ht
    refine ⟨Int.natCast_nonneg _, lo ++ [(n + d * 256) % B], r, ?_, by simp [hl], tr, ?_⟩
    · rw [eo]
      unfold iz
      rw [List.map_append, List.set_append_right _ _ (by rw [List.length_map, hl]; exact Nat.le_refl _), List.length_map, hl, Nat.sub_self, List.append_assoc, List.map_append]
      rfl
    · rw [hd, Int.toNat_natCast, Int.toNat_natCast]
      have hX : n + 256 * val B (d :: r) ≠ 0 := by omega
      rw [dg_pos hB hX, List.append_assoc]
      have e2 : n + 256 * val B (d :: r) = (n + d * 256) + B * (256 * val B r) := by
        rw [val, Nat.mul_add, Nat.mul_left_comm]; omega
      rw [e2, Nat.add_mul_mod_self_left, Nat.add_mul_div_left _ _ (by omega)]
      rfl
theorem carI_end {B V k : Nat} {c : Int} {out : List Int} (h : carI B V k c out) (hk : out.length ≤ k) : carW B V c out := by
  obtain ⟨lo, hi, rfl, hl, ht, hd⟩ := h
  rw [iz_len, List.length_append, hl] at hk
  cases hi with
  | cons d r => exfalso; rw [List.length_cons] at hk; omega
  | nil =>
    refine ⟨lo, by rw [List.append_nil], ?_⟩
    rw [hd, val]; rfl
theorem carW_turn {B V : Nat} {c : Int} {out : List Int} (hB : 2 ≤ B) (hc : 0 < c) (h : carW B V c out) : 0 ≤ c.fdiv B ∧ carW B V (c.fdiv B) (out ++ [c.fmod B]) := by
  obtain ⟨lo, rfl, hd⟩ := h
  obtain ⟨n, rfl⟩ := Int.eq_ofNat_of_zero_le (Int.le_of_lt hc)
  rw [fdiv_nat, fmod_nat]
  refine ⟨Int.natCast_nonneg _, lo ++ [n % B], by unfold iz; rw [List.map_append]; rfl, ?_⟩
  rw [hd, Int.toNat_natCast, Int.toNat_natCast, dg_pos hB (by omega), List.append_assoc]
  rfl
theorem carW_len {B V : Nat} {c : Int} {out : List Int} (hB : 2 ≤ B) (hV : V < 2 ^ 128) (h : carW B V c out) : out.length ≤ 128 := by
  obtain ⟨lo, rfl, hd⟩ := h
  have := dg_len hB 128 V hV
  rw [hd, List.length_append] at this
  rw [iz_len]
  omega
theorem carW_end {B : Nat} {pre : List Int} {n c : Int} {out : List Int} (h : carW B (vN (pre ++ [n])) c out) (hc : ¬ 0 < c) : carO B (pre ++ [n]) out := by
  obtain ⟨lo, rfl, hd⟩ := h
  have e : c.toNat = 0 := by omega
  rw [e, dg_zero, List.append_nil] at hd
  unfold carO
  rw [hd]
theorem carO_len {B : Nat} {pre out : List Int} (hB : 2 ≤ B) (hp : ∀ x ∈ pre, 0 ≤ x ∧ x < 256) (hl : pre.length ≤ 16) (h : carO B pre out) : out.length ≤ 128 := by
  rw [h, iz_len]
  refine dg_len hB 128 _ (Nat.lt_of_lt_of_le (vN_lt pre hp) ?_)
  exact Nat.le_trans (Nat.pow_le_pow_right (by decide) hl) (by decide)
abbrev preO {B : Nat} {pre out : List Int} (_ : carO B pre out) : List Int := pre
abbrev outO {B : Nat} {pre out : List Int} (_ : carO B pre out) : List Int := out
abbrev hereO {ks pre post : List Int} {n : Int} (_ : ks = pre ++ n :: post) : Int := n
theorem car_turn3 {B n9 len0 V : Nat} {pre : List Int} {kN c : Int} {out : List Int} (hB : 2 ≤ B) (hc : 0 ≤ c) (h : carI B V pre.length c out) (hN : kN = 0 + (pre.length : Int)) (hlt : pre.length < ((len0 : Int) - 0).toNat) (hlen : out.length = n9) (hn9 : n9 = len0) :
    0 ≤ (c + out.getD kN.toNat 0 * 256).fdiv B ∧ (out.set kN.toNat ((c + out.getD kN.toNat 0 * 256).fmod B)).length = n9 ∧ carI B V (pre ++ [kN]).length ((c + out.getD kN.toNat 0 * 256).fdiv B) (out.set kN.toNat ((c + out.getD kN.toNat 0 * 256).fmod B)) := by
  have e : kN.toNat = pre.length := by omega
  rw [e]
  have := carI_turn hB hc h (by omega) rfl rfl rfl
  refine ⟨this.1, by rw [List.length_set]; exact hlen, ?_⟩
  rw [List.length_append, List.length_singleton]
  exact this.2
theorem car_end4 {B n9 len0 V : Nat} {c : Int} {out : List Int} (hc : 0 ≤ c) (h : carI B V (rangeKs 0 ((len0 : Int) - 0).toNat).length c out) (hlen : out.length = n9) (hn9 : n9 = len0) (hl : len0 ≤ 128) :
    0 ≤ c ∧ out.length ≤ 128 ∧ carW B V c out := by
  refine ⟨hc, by omega, carI_end h ?_⟩
  rw [rangeKs_length]
  omega
theorem car_small {ks pre post : List Int} {n : Int} (hk : ∀ x ∈ ks, 0 ≤ x ∧ x < 256) (hl : ks.length ≤ 16) (e : ks = pre ++ n :: post) : (∀ x ∈ pre ++ [n], 0 ≤ x ∧ x < 256) ∧ (pre ++ [n]).length ≤ 16 ∧ vN (pre ++ [n]) < 2 ^ 128 := by
  have h1 : ∀ x ∈ pre ++ [n], 0 ≤ x ∧ x < 256 := fun x hx => hk x (by
    rw [e]
    rcases List.mem_append.mp hx with h | h
    · exact List.mem_append_left _ h
    · exact List.mem_append_right _ (by rw [List.mem_singleton.mp h]; exact .head _))
  have h2 : (pre ++ [n]).length ≤ 16 := by
    rw [e, List.length_append, List.length_cons] at hl
    rw [List.length_append, List.length_singleton]
    omega
  refine ⟨h1, h2, Nat.lt_of_lt_of_le (vN_lt _ h1) (Nat.le_trans (Nat.pow_le_pow_right (by decide) h2) (by decide))⟩
theorem car_turn5 {B : Nat} {ks pre post : List Int} {n c : Int} {out : List Int} (hB : 2 ≤ B) (hk : ∀ x ∈ ks, 0 ≤ x ∧ x < 256) (hl : ks.length ≤ 16) (e : ks = pre ++ n :: post) (hc : 0 < c) (h : carW B (vN (pre ++ [n])) c out) :
    0 ≤ c.fdiv B ∧ (out ++ [c.fmod B]).length ≤ 128 ∧ carW B (vN (pre ++ [n])) (c.fdiv B) (out ++ [c.fmod B]) := by
  have := carW_turn hB hc h
  exact ⟨this.1, carW_len hB (car_small hk hl e).2.2 this.2, this.2⟩
theorem car_end6 {B : Nat} {pre : List Int} {n c : Int} {out : List Int} (hlen : out.length ≤ 128) (hc : ¬ 0 < c) (h : carW B (vN (pre ++ [n])) c out) : out.length ≤ 128 ∧ carO B (pre ++ [n]) out := ⟨hlen, carW_end h hc⟩
theorem car_meas {B : Nat} {c : Int} (hB : 2 ≤ B) (hc : 0 < c) : (c.fdiv B).toNat < c.toNat := by
  have := fdiv_bounds hB (Int.le_of_lt hc) (by omega)
  omega
end

section
set_option maxHeartbeats 8000000 in
theorem draw (w : World) (l : Addr) (vs : List Value) (ns : List Int) (k : Int) (t : Tok) (hk : 0 ≤ k ∧ k ≤ 100) :
    CtrV 4 w 86 [.ref l, .int k t] [] (fun b => b.IsList l vs.toArray ∧ IntsAre vs ns ∧ ns.length ≤ 63) (isInt (drawF ns k)) := by
  k_with_none; w_top off
  dsimp only [CtrV, CtrH]; k_fill
  intro mean mg mb dp un gd cn cs a0 ccd cl outer A₀ base h₀ L m s Q E B F X T hcs hpre hd hu hret
  obtain ⟨hl, hi, hn⟩ := hpre
  walk_at "MINE enter"
  k_steps
  all_goals refine end_int hret (by k_asm) ?_
  · have : ns ≠ [] := by intro e; simp_all
    simp [drawF, this]
  · have : ns = [] := by apply List.eq_nil_of_length_eq_zero; omega
    simp [drawF, this]
end

section
def ngI (ks : List Int) (c : Int) : Prop := 0 ≤ c ∧ c ≤ ks.length ∧ (ks.takeWhile (· == 0)).length = c.toNat + ((ks.drop c.toNat).takeWhile (· == 0)).length
theorem ng_start (ks : List Int) : ngI ks 0 := ⟨by omega, by omega, by simp⟩
theorem ng_turn {ks : List Int} {c : Int} (h : ngI ks c) (hlt : c < ks.length) (hz : ks.getD c.toNat 0 = 0) : ngI ks (c + 1) := by
  obtain ⟨h0, h1, h2⟩ := h
  obtain ⟨n, rfl⟩ := Int.eq_ofNat_of_zero_le h0
  have hn : n < ks.length := by omega
  refine ⟨by omega, by omega, ?_⟩
  simp only [Int.toNat_natCast] at h2 hz
  have e : ((n : Int) + 1).toNat = n + 1 := by omega
  rw [e, h2, List.drop_eq_getElem_cons hn]
  have hz' : ks[n] = 0 := by simpa [List.getD_eq_getElem?_getD, hn] using hz
  simp [hz']
  omega
theorem ng_end1 {ks : List Int} {c : Int} (h : ngI ks c) (hlt : ¬ c < ks.length) : c = ((ks.takeWhile (· == 0)).length : Int) := by
  obtain ⟨h0, h1, h2⟩ := h
  obtain ⟨n, rfl⟩ := Int.eq_ofNat_of_zero_le h0
  have hn : ks.length ≤ n := by omega
  simp only [Int.toNat_natCast, List.drop_eq_nil_of_le hn, List.takeWhile_nil, List.length_nil] at h2
  omega
theorem ng_end2 {ks : List Int} {c : Int} (h : ngI ks c) (hlt : c < ks.length) (hz : ¬ ks.getD c.toNat 0 = 0) : c = ((ks.takeWhile (· == 0)).length : Int) := by
  obtain ⟨h0, h1, h2⟩ := h
  obtain ⟨n, rfl⟩ := Int.eq_ofNat_of_zero_le h0
  have hn : n < ks.length := by omega
  simp only [Int.toNat_natCast] at h2 hz
  have hz' : ¬ ks[n] = 0 := by simpa [List.getD_eq_getElem?_getD, hn] using hz
  rw [List.drop_eq_getElem_cons hn, List.takeWhile_cons, if_neg (by simpa using hz')] at h2
  simp only [List.length_nil] at h2
  omega
set_option maxHeartbeats 8000000 in
theorem noughts (w : World) (v : Array UInt8) (ks : List Int) (t : Tok) (hv : KBw.bInts v = ks) (hl : ks.length ≤ 100) :
    CtrV 4 w 105 [.bytes v t] [] (fun _ => True) (isInt ((ks.takeWhile (· == 0)).length)) := by
  k_with_none; w_top off
  dsimp only [CtrV, CtrH]; k_fill
  intro mean mg mb dp un gd cn cs a0 ccd cl outer A₀ base h₀ L m s Q E B F X T hcs hpre hd hu hret
  walk_at "MINE enter"
  (k_with "state" => first | exact ⟨by omega, by omega, ng_start _⟩ | exact ⟨by omega, by omega, ng_turn (by simp_all) (by assumption) (by assumption)⟩)
  (k_with "exec While BoolOp cons nil" => k_while (fun _ c => 0 ≤ c ∧ c ≤ ks.length ∧ ngI ks c) (fun _ c => ks.length - c.toNat) "count")
  k_steps
  all_goals refine end_int hret (by k_asm) ?_
  · exact ng_end2 (by assumption) (by assumption) (by assumption)
  · exact ng_end1 (by assumption) (by assumption)
end

section
def CellEnd (h₀ : Heap) (L c : Addr) (own : List (Addr × Obj)) (s : Shared) (z : Int) (s₂ : Shared) : Prop :=
  ∃ h' tk' m' o' t' news', s₂ = { s with heap := h', toks := tk' } ∧ Fr h₀ L h' m' ∧ News h₀ L h' news' ∧ (c, o') ∈ news' ∧ (∀ p ∈ own, p ∈ news') ∧ o'.data = .cell (some (.int z t'))
def CellPost (h₀ : Heap) (L c : Addr) (own : List (Addr × Obj)) (s : Shared) (z : Int) (Q : Flow → Shared → Prop) (f : Flow) (s₂ : Shared) : Prop :=
  match f with
  | .ret v => Q (.ret v) s₂
  | .brk => Q .next s₂
  | _ => CellEnd h₀ L c own s z s₂
/-- a loop over octets that turns one int in a captured name's cell -/
theorem cell_loop {prog : Program} {w : World} {A : Around} {E : Value → Shared → Prop} {s : Shared} {env : Env} {h₀ : Heap} {x : Str} {body : List Stmt} {Q : Flow → Shared → Prop} {b : Array UInt8} {tb : Tok} {ks : List Int} {m₀ : Str → Option Value}
    {c : Addr} {o₀ : Obj} {z₀ : Int} {t₀ : Tok} (g : Int → Int → Int) (hk : KBw.bInts b = ks) (hh : A.handled = none) (F : Fr h₀ env.locals s.heap m₀) (N : News h₀ env.locals s.heap [(c, o₀)]) (ho : o₀.data = .cell (some (.int z₀ t₀)))
    (turn : ∀ (k : Int) (t : Tok) (m₁ : Str → Option Value) (o : Obj) (a : Int) (ta : Tok) (h : Heap) (tk : Nat) (own : List (Addr × Obj)), 0 ≤ k → k < 256 → OwnOff own [c] → o.data = .cell (some (.int a ta)) → Fr h₀ env.locals h (fun y => if y = x then some (.int k t) else m₁ y) → News h₀ env.locals h ((c, o) :: own) →
      wpAny (model prog w) A (execs body env) (CellPost h₀ env.locals c own { s with heap := h, toks := tk } (g a k) Q) E { s with heap := h, toks := tk })
    (done : ∀ m₁ o t h tk, o.data = .cell (some (.int (ks.foldl g z₀) t)) → Fr h₀ env.locals h m₁ → News h₀ env.locals h [(c, o)] → Q .next { s with heap := h, toks := tk }) :
    wpAny (model prog w) A (pyIter (.bytes b tb)) (fun it s₂ => LoopAtV prog w A h₀ env x body Q E it s₂) E s := by
  refine KBmo.iter_bytesN (news := [(c, o₀)]) (fun i _ nx => ∃ o t, nx = [(c, o)] ∧ o.data = .cell (some (.int ((ks.take i).foldl g z₀) t))) hk hh F N ⟨o₀, t₀, rfl, by simpa using ho⟩ ?_ ?_
  · rintro i k t m₁ _ h tk own hi h0 h1 hoff ⟨o, ta, rfl, ho'⟩ F₁ N₁
    have hs : ks.take (i + 1) = ks.take i ++ [k] := by simp [List.take_add_one, hi]
    refine wpAny_mono (turn k t m₁ o _ ta h tk own h0 h1 hoff ho' F₁ N₁) (fun f s₂ p => ?_) fun _ _ x => x
    have up : CellEnd h₀ env.locals c own { s with heap := h, toks := tk } (g ((ks.take i).foldl g z₀) k) s₂ → InvEndN h₀ env.locals (fun _ nx => ∃ o t, nx = [(c, o)] ∧ o.data = .cell (some (.int ((ks.take (i + 1)).foldl g z₀) t))) own [c] { s with heap := h, toks := tk } s₂ := by
      rintro ⟨h', tk', m', o', t', news', e, F', N', hm, hown, hd⟩
      exact ⟨h', tk', m', news', [(c, o')], e, F', N', fun p hp => by rw [List.mem_singleton.mp hp]; exact hm, hown, rfl, o', t', rfl, by rw [hs, List.foldl_append]; exact hd⟩
    cases f with
    | ret v => exact p
    | brk => exact p
    | next => exact up p
    | cont => exact up p
  · rintro m₁ _ h tk ⟨o, t, rfl, hd⟩ F₁ N₁
    rw [List.take_length] at hd
    exact done m₁ o t h tk hd F₁ N₁
theorem cell_end {h₀ h' : Heap} {L c : Addr} {own : List (Addr × Obj)} {s : Shared} {z y : Int} {Q : Flow → Shared → Prop} {tk' : Nat} {m' : Str → Option Value} {o' : Obj} {t' : Tok} (F : Fr h₀ L h' m') (N : News h₀ L h' ((c, o') :: own)) (hd : o'.data = .cell (some (.int y t'))) (e : y = z) :
    CellPost h₀ L c own s z Q .next { s with heap := h', toks := tk' } := by
  subst e
  exact ⟨h', tk', m', o', t', _, rfl, F, N, .head _, fun p h => .tail _ h, hd⟩
def hashS (ks : List Int) : Int := ks.foldl (fun a x => (a * 131 + x + 1).fmod 65521) 7
def hashF (ks : List Int) : List Int := (rangeKs 0 8).map fun k => (hashS ks * (2 * k + 3) + k).fmod 256
set_option maxHeartbeats 8000000 in
theorem hash (w : World) (v : Array UInt8) (ks : List Int) (t : Tok) (hv : KBw.bInts v = ks) (hl : ks.length ≤ 100) :
    CtrV 4 w 115 [.bytes v t] [] (fun _ => True) (isBts (hashF ks)) := by
  k_with_none; w_top off
  dsimp only [CtrV, CtrH]; k_fill
  intro mean mg mb dp un gd cn cs a0 ccd cl outer A₀ base h₀ L m s Q E B F X T hcs hpre hd hu hret
  walk_at "MINE enterC"
  (k_with "pyIter bytes" => (rename Fr _ _ _ _ => lF9; rename News _ _ _ _ => lN9; with_unfolding_all refine' cell_loop (fun a x => (a * 131 + x + 1).fmod 65521) hv rfl lF9 lN9 (by assumption) ?_ ?_; (all_goals clear lF9 lN9); (intro k9 t9 m9 o9 a9 ta9 h9 tk9 own9 hlo9 hhi9 hoff9 hd9 F9 N9); rotate_left; (intro m9 o9 t9 h9 tk9 hd9 F9 N9); rotate_left; all_goals (try k_fold)))
  k_steps
  · with_unfolding_all exact cell_end (by assumption) (by assumption) (by assumption) rfl
  · exact end_bts hret (by k_asm) (KBa.ints_make (by assumption)) rfl
end

section
def bitcoinI : List Int := [49, 50, 51, 52, 53, 54, 55, 56, 57, 65, 66, 67, 68, 69, 70, 71, 72, 74, 75, 76, 77, 78, 80, 81, 82, 83, 84, 85, 86, 87, 88, 89, 90, 97, 98, 99, 100, 101, 102, 103, 104, 105, 106, 107, 109, 110, 111, 112, 113, 114, 115, 116, 117, 118, 119, 120, 121, 122]
def rippleI : List Int := [114, 112, 115, 104, 110, 97, 102, 51, 57, 119, 66, 85, 68, 78, 69, 71, 72, 74, 75, 76, 77, 52, 80, 81, 82, 83, 84, 55, 86, 87, 88, 89, 90, 50, 98, 99, 100, 101, 67, 103, 54, 53, 106, 107, 109, 56, 111, 70, 113, 105, 49, 116, 117, 118, 65, 120, 121, 122]
def signsF (a b c d : Int) : List Int := if a = 0 then bitcoinI else if a = 1 then rippleI else (rangeKs 0 (2 + d.fmod 58 - 0).toNat).map fun k => 38 + (b.fmod 89 + (1 + c.fmod 88) * k).fmod 89
set_option maxHeartbeats 8000000 in
theorem signs (w : World) (a b c d : Int) (t1 t2 t3 t4 : Tok) :
    CtrV 4 w 91 [.int a t1, .int b t2, .int c t3, .int d t4] [] (fun _ => True) (isBts (signsF a b c d)) := by
  k_with_none; w_top off
  dsimp only [CtrV, CtrH]; k_fill
  intro mean mg mb dp un gd cn cs a0 ccd cl outer A₀ base h₀ L m s Q E B F X T hcs hpre hd hu hret
  walk_at "MINE enterC"
  k_steps
  all_goals refine end_bts hret (by k_asm) (by first | exact KBa.ints_make (by assumption) | exact rfl) ?_
  · unfold signsF; rw [if_pos (by assumption)]; decide +kernel
  · unfold signsF; rw [if_neg (by assumption), if_pos (by assumption)]; decide +kernel
  · unfold signsF; rw [if_neg (by assumption), if_neg (by assumption)]
end

section
theorem mul89 : ∀ m < 89, ∀ j < 60, 0 < m → 0 < j → (m * j) % 89 ≠ 0 := by decide +kernel
/-- what the law's alphabets have in common -/
structure SignsOk (as : List Int) : Prop where
  len : as.length ≤ 59 ∧ 2 ≤ as.length
  nd : as.Nodup
  sp : ∀ k ∈ as, k ≠ 32
  rng : ∀ k ∈ as, 33 ≤ k ∧ k ≤ 126
theorem fm_b {x B : Int} (h : 0 < B) : 0 ≤ x.fmod B ∧ x.fmod B < B := by
  rw [Int.fmod_eq_emod_of_nonneg _ (by omega)]
  exact ⟨Int.emod_nonneg _ (by omega), Int.emod_lt_of_pos _ h⟩
theorem signs_ok (a b c d : Int) : SignsOk (signsF a b c d) := by
  unfold signsF
  split
  · exact ⟨by decide, by decide, by decide, by decide⟩
  split
  · exact ⟨by decide, by decide, by decide, by decide⟩
  have hd := fm_b (x := d) (B := 58) (by omega)
  have hc := fm_b (x := c) (B := 88) (by omega)
  generalize d.fmod 58 = e at hd
  generalize c.fmod 88 = f at hc
  generalize b.fmod 89 = g
  have hrng : ∀ k ∈ (rangeKs 0 (2 + e - 0).toNat).map (fun k => 38 + (g + (1 + f) * k).fmod 89), 33 ≤ k ∧ k ≤ 126 := fun k hk => by
    obtain ⟨x, _, rfl⟩ := List.mem_map.mp hk
    have h := fm_b (x := g + (1 + f) * x) (B := 89) (by omega)
    omega
  refine ⟨by rw [List.length_map, rangeKs_length]; omega, ?_, fun k hk => by have := hrng k hk; omega, hrng⟩
  have key : ∀ x y : Int, 0 ≤ x → x < y → y < 60 → 38 + (g + (1 + f) * x).fmod 89 ≠ 38 + (g + (1 + f) * y).fmod 89 := fun x y hx hxy hy he => by
    obtain ⟨m, rfl⟩ : ∃ m : Nat, f = m := ⟨f.toNat, by omega⟩
    obtain ⟨j, hj⟩ : ∃ j : Nat, y - x = j := ⟨(y - x).toNat, by omega⟩
    have h9 := mul89 (1 + m) (by omega) j (by omega) (by omega) (by omega)
    rw [Int.fmod_eq_emod_of_nonneg _ (by omega), Int.fmod_eq_emod_of_nonneg _ (by omega)] at he
    have e4 : (1 + (m : Int)) * y - (1 + (m : Int)) * x = (((1 + m) * j : Nat) : Int) := by
      rw [← Int.mul_sub, hj]; push_cast; rfl
    generalize (1 + (m : Int)) * y = p at *
    generalize (1 + (m : Int)) * x = q at *
    generalize (1 + m) * j = r at *
    omega
  unfold rangeKs
  rw [List.map_map]
  unfold List.Nodup
  rw [List.pairwise_map]
  refine List.Pairwise.imp_of_mem ?_ List.pairwise_lt_range
  intro x y hx hy hlt
  simp only [List.mem_range] at hx hy
  simp only [Function.comp]
  exact key _ _ (by omega) (by omega) (by omega)
end

section
theorem encP_start {as : List Int} {i : Int} (hi : 0 ≤ i ∧ i < 2 ^ 128) : 0 ≤ i ∧ i < 2 ^ 128 ∧ KBw.bInts #[] = _root_.id (KBw.bInts #[]) ∧ (_root_.id (KBw.bInts #[])).length ≤ 128 ∧ encI as i i (KBw.bInts #[]) :=
  ⟨hi.1, hi.2, rfl, by show (0 : Nat) ≤ 128; omega, encI_start as i⟩
theorem encP_turn {as : List Int} {i c : Int} {b d : Array UInt8} {ls : List Int} (hB : as.length ≤ 59 ∧ 2 ≤ as.length) (hi : 0 ≤ i ∧ i < 2 ^ 128) (h0 : 0 ≤ c) (h1 : c < 2 ^ 128) (hc : c ≠ 0) (h : encI as i c (KBw.bInts b))
    (e1 : KBw.bInts d = List.take (clipAt as.length (c.fmod as.length + 1) - clipAt as.length (c.fmod as.length)) (List.drop (clipAt as.length (c.fmod as.length)) as) ++ ls) (e2 : KBw.bInts b = ls) :
    0 ≤ c.fdiv as.length ∧ c.fdiv as.length < 2 ^ 128 ∧ KBw.bInts d = _root_.id (KBw.bInts d) ∧ (_root_.id (KBw.bInts d)).length ≤ 128 ∧ encI as i (c.fdiv as.length) (KBw.bInts d) := by
  have hb := fdiv_bounds hB.2 h0 hc
  have ht := encI_turn (ms := KBw.bInts d) hB.2 h0 hc h (by rw [e1, e2])
  exact ⟨hb.1, by omega, rfl, encI_len hB.2 hi.2 ht, ht⟩
theorem encP_meas {as : List Int} {c : Int} (hB : as.length ≤ 59 ∧ 2 ≤ as.length) (h0 : 0 ≤ c) (hc : c ≠ 0) : (c.fdiv as.length).toNat < c.toNat := by
  have hb := fdiv_bounds hB.2 h0 hc
  omega
theorem encP_end {as ls : List Int} {i c : Int} (h : encI as i c ls) (hc : c = 0) : ls = encD as i := by
  subst hc
  exact encI_end h
set_option maxHeartbeats 8000000 in
theorem encInt (w : World) (i : Int) (al : Array UInt8) (as : List Int) (t t2 : Tok) (hal : KBw.bInts al = as) (hl : as.length ≤ 59 ∧ 2 ≤ as.length) (hi : 0 ≤ i ∧ i < 2 ^ 128) :
    CtrV 4 w 29 [.int i t] [(Str.ofString "default_one", .bool false), (Str.ofString "alphabet", .bytes al t2)] (fun _ => True) (fun r => isBts (encD as i) r ∧ (encD as i).length ≤ 128) := by
  k_with_none; w_top off
  dsimp only [CtrV, CtrH]; k_fill
  intro mean mg mb dp un gd cn cs a0 ccd cl outer A₀ base h₀ L m s Q E B F X T hcs hpre hd hu hret
  replace hret := fun r h' tk' st hr => hret r h' tk' st ⟨hr, encD_len hl.2 hi.2⟩
  walk_at "MINE enter"
  (k_with "state" => first | exact encP_start hi | exact encP_turn hl hi (by assumption) (by assumption) (by assumption) (by assumption) (by assumption) (by assumption))
  (k_with "measure" => exact encP_meas hl (by assumption) (by assumption))
  (k_with "exec While Name cons nil" => k_while (fun _ c b => 0 ≤ c ∧ c < 2 ^ 128 ∧ KBw.bInts b = _root_.id (KBw.bInts b) ∧ (_root_.id (KBw.bInts b)).length ≤ 128 ∧ encI as i c (KBw.bInts b)) (fun _ c b => c.toNat) "i" "string")
  k_steps
  all_goals (dsimp only; refine end_bts hret (by k_asm) rfl (encP_end (by assumption) (by assumption)))
end

section
set_option maxHeartbeats 8000000 in
theorem scrubB (w : World) (v : Array UInt8) (ks : List Int) (t : Tok) (hv : KBw.bInts v = ks) :
    CtrV 4 w 21 [.bytes v t] [] (fun _ => True) (isBts ks) := by
  k_with_none; w_top off
  dsimp only [CtrV, CtrH]; k_fill
  intro mean mg mb dp un gd cn cs a0 ccd cl outer A₀ base h₀ L m s Q E B F X T hcs hpre hd hu hret
  walk_at "MINE enter"
  k_steps
  all_goals exact end_bts hret (by k_asm) hv rfl
end

section
set_option maxHeartbeats 8000000 in
theorem carried (w : World) (v : Array UInt8) (ks : List Int) (B : Nat) (t t2 t3 : Tok) (hv : KBw.bInts v = ks) (hl : ks.length ≤ 16) (hB : 2 ≤ B ∧ B ≤ 59) :
    CtrH 4 w 98 [.bytes v t, .int 256 t2, .int (B : Int) t3] [] (fun _ => True) (isLst (iz (dg B (vN ks))).reverse) := by
  k_with_none; w_top off
  dsimp only [CtrH]; k_fill
  intro mean mg mb dp un gd cn cs a0 ccd cl outer A₀ base h₀ L m s Q E BB F X T hcs hpre hd hu hret
  have hnil : IntsAre [] [] := .nil
  walk_at "MINE enter"
  have hk9 : ∀ x ∈ ks, 0 ≤ x ∧ x < 256 := fun x hx => KBw.ints_in (by rw [hv]; exact hx)
  (k_with "state" => first
    | exact ⟨Nat.zero_le _, carO_start B⟩
    | exact ⟨by assumption, by omega, carI_start hB.1 (by assumption)⟩
    | exact car_turn3 hB.1 (by assumption) (by assumption) (by assumption) (by assumption) (by assumption) (by assumption)
    | exact car_end4 (by assumption) (by assumption) (by assumption) (by assumption) (by assumption)
    | exact car_turn5 hB.1 hk9 hl (by assumption) (by assumption) (by assumption)
    | exact car_end6 (by assumption) (by assumption) (by assumption))
  (k_with "measure" => exact car_meas hB.1 (by assumption))
  (k_with "exec While Compare cons nil" => k_while (fun _ c out => 0 ≤ c ∧ out.length ≤ 128 ∧ carW B (vN (kPre ++ [kN])) c out) (fun _ c out => c.toNat) "carry" "out")
  (k_with "pyIter ref" => obtain ⟨n9, hn9⟩ : ∃ n, n = (outO ‹carO B _ _›).length := ⟨_, rfl⟩; dsimp only [outO] at hn9; k_state (fun pre c out => 0 ≤ c ∧ out.length = n9 ∧ carI B (vN (kPre ++ [kN])) pre.length c out) "carry" "out")
  (k_with "pyIter bytes" => have hv9 := hv; k_state (fun pre out => out.length ≤ 128 ∧ carO B pre out) "out")
  k_steps
  dsimp only
  exact end_lst hret (by k_asm) (by k_asm) (by assumption) (congrArg List.reverse (by assumption))
end

section
open Builtin Builtin._codecs
theorem forIn_two {σ : Type} (f : Nat → σ → Sem (ForInStep σ)) (s0 s1 : σ) (l : List Nat) (hl : l ≠ []) (h0 : ∀ i, f i s0 = pure (.yield s1)) (h1 : ∀ i, f i s1 = pure (.done s1)) : forIn l s0 f = pure s1 := by
  cases l with
  | nil => exact absurd rfl hl
  | cons i r =>
    rw [List.forIn_cons, h0]
    rw [pure_bind]
    cases r with
    | nil => rfl
    | cons j r =>
      show forIn (j :: r) s1 f = pure s1
      rw [List.forIn_cons, h1, pure_bind]
theorem foldl_ascii : ∀ (l : List Nat) (acc : Array UInt8), l.foldl (fun acc y => acc ++ (asciiCodec.bytesOf y).toArray) acc = acc ++ (l.map (·.toUInt8)).toArray
  | [], acc => by simp
  | c :: r, acc => by
    rw [List.foldl_cons, foldl_ascii r]
    show acc ++ #[c.toUInt8] ++ _ = _
    simp
theorem narrow_ascii (id : String) (self : Value) (x : Str) (hx : ∀ c ∈ x.cps.toList, c < 128) (hl : x.length ≤ sizeLine) :
    encodeNarrow id asciiCodec none self x = pure (x.cps.map (·.toUInt8)) := by
  unfold encodeNarrow
  simp only [Std.Legacy.Range.forIn_eq_forIn_range', Std.Legacy.Range.size]
  by_cases hz : x.cps.size = 0
  · have e : x.length = 0 := hz
    have e2 : x.cps = #[] := Array.eq_empty_of_size_eq_zero hz
    have e3 : (x.length - 0 + 1 - 1) / 1 = 0 := by rw [e]
    rw [e3, List.range'_zero, List.forIn_nil, e2, pure_bind, Array.map_empty]
  · rw [forIn_two _ _ (x.cps.size, x.cps.map (·.toUInt8), {})]
    · rfl
    · have : x.length = x.cps.size := rfl
      rw [this]
      intro h
      have := congrArg List.length h
      simp at this
      exact hz (by rw [this]; rfl)
    · intro i
      have h1 : ¬ ((#[] : Array UInt8).size > sizeLine) := by simp
      rw [if_neg h1]
      have h2 : x.cps[0]? = some x.cps[0] := by simp
      rw [h2]
      have hb : ∀ c ∈ x.cps.toList, asciiCodec.bad c = false := fun c hc => by
        show decide (c ≥ 128) = false
        have := hx c hc
        simp; omega
      have h3 : (!asciiCodec.bad x.cps[0]) = true := by rw [hb _ (by simp)]; rfl
      simp only [h3, if_true]
      have h4 : x.cps.extract 0 = x.cps := by simp
      have h5 : Array.findIdx? asciiCodec.bad x.cps = none := by
        rw [Array.findIdx?_eq_none_iff]
        intro c hc
        exact hb c (by simpa using hc)
      rw [h4, h5]
      simp only [Option.getD_none]
      have h6 : x.cps.extract 0 x.cps.size = x.cps := by simp
      rw [h6]
      have h7 : Array.foldl (fun acc y => acc ++ (asciiCodec.bytesOf y).toArray) #[] x.cps = x.cps.map (·.toUInt8) := by
        rw [← Array.foldl_toList, foldl_ascii, Array.empty_append]
        apply Array.ext'
        simp
      rw [h7]
      simp
    · intro i
      have h1 : ¬ ((x.cps.map (·.toUInt8)).size > sizeLine) := by
        rw [Array.size_map]; exact Nat.not_lt.mpr hl
      rw [if_neg h1]
      have h2 : x.cps[x.cps.size]? = none := by simp
      rw [h2]

theorem road_ascii (id : String) (self : Value) (x : Str) : encodeRoad id self x (Str.ofString "ascii") none = (do mkBytes (← encodeNarrow id asciiCodec none self x)) := by
  first | rfl | (unfold encodeRoad; rfl) | (unfold encodeRoad; simp only []; rfl) | kernel_rfl
theorem encode_ascii_tree (x : Str) (t u : Tok) : Builtin.«str.encode» ⟨[.str x t, .str (Str.ofString "ascii") u], []⟩ = (do ret (← encodeRoad "str.encode" (.str x t) x (Str.ofString "ascii") none)) := by first | rfl | kernel_rfl
theorem gives_encode (x : Str) (t u : Tok) (hx : ∀ c ∈ x.cps.toList, c < 128) (hl : x.length ≤ sizeLine) : Gives (Builtin.«str.encode» ⟨[.str x t, .str (Str.ofString "ascii") u], []⟩) (.bytes (x.cps.map (·.toUInt8))) := by
  refine .of_wp fun M A E s Q hq => ?_
  rw [encode_ascii_tree, road_ascii, narrow_ascii _ _ _ hx hl]
  refine wpAny_bind (wpAny_bind (wpAny_pure (wpAny_mkBytes (wpAny_pure ⟨_, rfl, hq.2⟩) hq.1)))
/-- a text's signs as ints -/
def cInts (x : Str) : List Int := List.map (fun c : Nat => (c : Int)) x.cps.toList
theorem ints_ascii {x : Str} {ks : List Int} (hk : cInts x = ks) (hx : ∀ k ∈ ks, k < 128) : KBw.bInts (x.cps.map (·.toUInt8)) = ks := by
  subst hk
  show ((x.cps.map (·.toUInt8)).toList.map fun c => ((c.toNat : Nat) : Int)) = List.map (fun c : Nat => (c : Int)) x.cps.toList
  rw [Array.toList_map, List.map_map]
  refine List.map_congr_left fun c hc => ?_
  have := hx (c : Int) (List.mem_map.mpr ⟨c, hc, rfl⟩)
  show ((c.toUInt8.toNat : Nat) : Int) = c
  have e : c.toUInt8.toNat = c := by
    show c % 256 = c
    omega
  rw [e]
section
variable {prog : Program} {w : World} {A : Around} {E : Value → Shared → Prop} {s : Shared} {x : Str} {t u : Tok} {ks : List Int} {Q : Value → Shared → Prop}
theorem call_encode (hk : cInts x = ks) (hx : ∀ k ∈ ks, k < 128) (hl : ks.length ≤ 16777216) (h : ∀ (d : Array UInt8) t' k, KBw.bInts d = ks → Q (.bytes d t') { s with toks := k }) :
    wpAny (model prog w) A (call (.builtin "str.encode") [.str x t, .str (Str.ofString "ascii") u]) Q E s := by
  have hlen : x.length = ks.length := by
    rw [← hk]
    show x.cps.size = (List.map (fun c : Nat => (c : Int)) x.cps.toList).length
    simp
  have hs : x.length ≤ sizeLine := by rw [hlen, sizeLine_eq]; exact hl
  have hc : ∀ c ∈ x.cps.toList, c < 128 := fun c hc => by
    have := hx (c : Int) (by rw [← hk]; exact List.mem_map.mpr ⟨c, hc, rfl⟩)
    omega
  refine call_gives F.slot_str_encode (typeIs_str _ _ _) F.entry_str_encode (F.args_str_encode_2 _ _) (gives_encode x t u hc hs) ⟨?_, h _ _ _ (ints_ascii hk hx)⟩
  rw [Array.size_map]; exact hs
theorem method_encode {M : Model} {pl : Sem Bool} {Q : Value × List Value → Shared → Prop} (h : Q (.builtin "str.encode", [.str x t]) s) : wpAny M A (getMethod (.str x t) "encode" pl) Q E s :=
  getMethod_builtin (typeIs_str _ _ _) F.plainAttrs_str F.slot_str_encode F.type_str_encode (fun _ e => nomatch e) h
end
/-- the blanks of a text -/
theorem space_ascii (c : Nat) (h : c < 128) (h2 : ¬ (28 ≤ c ∧ c ≤ 31)) : Unicode.isSpace c = isBl (c : Int) := by
  have e : ∀ k : Fin 128, ¬ (28 ≤ k.val ∧ k.val ≤ 31) → Unicode.isSpace k.val = isBl (k.val : Int) := by decide +kernel
  exact e ⟨c, h⟩ h2
end

section
open Builtin
theorem take_strip {α : Type} (p : α → Bool) (l : List α) : l.take (l.length - (l.reverse.takeWhile p).length) = (l.reverse.dropWhile p).reverse := by
  have h : l = (l.reverse.dropWhile p).reverse ++ (l.reverse.takeWhile p).reverse := by
    rw [← List.reverse_append, List.takeWhile_append_dropWhile, List.reverse_reverse]
  have hlen : l.length = (l.reverse.dropWhile p).length + (l.reverse.takeWhile p).length := by
    have := congrArg List.length h
    rw [List.length_append, List.length_reverse, List.length_reverse] at this
    exact this
  have e : l.length - (l.reverse.takeWhile p).length = (l.reverse.dropWhile p).reverse.length := by rw [List.length_reverse]; omega
  rw [e]
  generalize (l.reverse.dropWhile p).reverse = A at h ⊢
  generalize (l.reverse.takeWhile p).reverse = B at h
  rw [h]
  exact List.take_left
theorem dropWhile_mapN {p : Nat → Bool} {q : Int → Bool} : ∀ l : List Nat, (∀ c ∈ l, q (c : Int) = p c) → List.map (fun c : Nat => (c : Int)) (l.dropWhile p) = (List.map (fun c : Nat => (c : Int)) l).dropWhile q
  | [], _ => rfl
  | c :: r, h => by
    rw [List.map_cons, List.dropWhile_cons, List.dropWhile_cons, h c (.head _)]
    cases p c with
    | true => exact dropWhile_mapN r fun d hd => h d (.tail _ hd)
    | false => rfl
theorem cInts_rstrip {x : Str} {ks : List Int} (hk : cInts x = ks) (hx : ∀ k ∈ ks, k < 128 ∧ ¬ (28 ≤ k ∧ k ≤ 31)) : cInts (Txt.rstrip x) = rstripI ks := by
  subst hk
  have e : (Txt.rstrip x).cps.toList = (x.cps.toList.reverse.dropWhile Unicode.isSpace).reverse := by
    unfold Txt.rstrip
    rw [PyProof.Rows.stripBy_eq]
    show (x.cps.extract 0 (x.length - ((x.cps.toList.drop 0).reverse.takeWhile Unicode.isSpace).length)).toList = _
    rw [List.drop_zero, ← take_strip]
    simp [Str.length]
  unfold cInts rstripI
  rw [e, List.map_reverse, dropWhile_mapN (q := isBl), List.map_reverse]
  intro c hc
  have := hx (c : Int) (List.mem_map.mpr ⟨c, List.mem_reverse.mp hc, rfl⟩)
  exact (space_ascii c (by omega) (by omega)).symm
section
variable {prog : Program} {w : World} {A : Around} {E : Value → Shared → Prop} {s : Shared} {x : Str} {t u : Tok} {ks : List Int} {Q : Value → Shared → Prop}
theorem call_srstrip (hk : cInts x = ks) (hx : ∀ k ∈ ks, k < 128 ∧ ¬ (28 ≤ k ∧ k ≤ 31)) (hl : ks.length ≤ 16777216) (h : ∀ (y : Str) t' k, cInts y = rstripI ks → (rstripI ks).length ≤ ks.length → Q (.str y t') { s with toks := k }) :
    wpAny (model prog w) A (call (.builtin "str.rstrip") [.str x t]) Q E s := by
  have hlen : x.length = ks.length := by
    rw [← hk]
    show x.cps.size = (List.map (fun c : Nat => (c : Int)) x.cps.toList).length
    simp
  exact KXw.rstrip rfl (by rw [hlen, sizeLine_eq]; exact hl) fun t' k => h _ t' k (cInts_rstrip hk hx) (rstripI_len ks)
end
end

section
open KFB
theorem vN_fold_ints (l : List UInt8) (a : Nat) : (l.map fun c => ((c.toNat : Nat) : Int)).foldl (fun a x => a * 256 + x.toNat) a = l.foldl (fun (acc : Nat) (b : UInt8) => acc * 256 + b.toNat) a := by
  induction l generalizing a with
  | nil => rfl
  | cons c r ih => rw [List.map_cons, List.foldl_cons, List.foldl_cons, ih]; congr 1
theorem vN_bytes (b : Array UInt8) : vN (KBw.bInts b) = b.toList.foldl (fun (acc : Nat) (b : UInt8) => acc * 256 + b.toNat) 0 := vN_fold_ints b.toList 0
section
variable {M : Model} {A : Around} {E : Value → Shared → Prop} {s : Shared}
theorem grown128 {n : Nat} {Q : Value → Shared → Prop} (hn : n < 2 ^ 128) (h : Q (.int (n : Int) s.toks) { s with toks := s.toks + 1 }) : wpAny M A (mkIntGrown (n : Int)) Q E s := by
  unfold mkIntGrown
  have hl : ¬ ((n : Int).natAbs.log2 ≥ bitsLine) := by
    rw [Int.natAbs_natCast]
    have hb : bitsLine = 134217728 := by first | rfl | decide
    by_cases hz : n = 0
    · subst hz
      rw [hb]
      decide
    · have h1 := (Nat.log2_lt hz).mpr hn
      omega
  rw [if_neg hl]
  exact wpAny_mkInt h
theorem tree_bigK {b : Array UInt8} {t u : Tok} {P : Fin → Shared → Prop} (hl : b.size ≤ 16) (h : P (.done (.ret (.int (vN (KBw.bInts b)) s.toks))) { s with toks := s.toks + 1 }) :
    wpAny M A (Builtin.«int.from_bytes» ⟨[.type "int", .bytes b t], [(PySem.Str.ofString "byteorder", .str (PySem.Str.ofString "big") u)]⟩) P E s := by
  rw [vN_bytes] at h
  have hn : b.toList.foldl (fun (acc : Nat) (b : UInt8) => acc * 256 + b.toNat) 0 < 2 ^ 128 := by
    have h1 := fold_lt b.toList 0
    rw [Nat.zero_add, Nat.one_mul, Array.length_toList] at h1
    have h2 : 256 ^ b.size ≤ 256 ^ 16 := Nat.pow_le_pow_right (by decide) hl
    have h3 : (256 : Nat) ^ 16 = 2 ^ 128 := by decide
    omega
  unfold Builtin.«int.from_bytes»
  refine wpAny_bind (wpAny_of_eq (a := true) type_int ?_)
  refine if_not rfl ?_
  refine wpAny_bind (wpAny_of_eq (a := true) F.conv_sub_int ?_)
  refine if_not rfl ?_
  refine wpAny_bind (wpAny_of_eq (a := [some (.bytes b t), some (.str (PySem.Str.ofString "big") u), none]) (by kernel_rfl) ?_)
  refine wpAny_bind (wpAny_of_eq (a := PySem.Str.ofString "big") (by kernel_rfl) ?_)
  refine wpAny_bind (wpAny_of_eq (a := false) rfl ?_)
  refine wpAny_bind (wpAny_of_eq (a := false) (by kernel_rfl) ?_)
  refine wpAny_bind (wpAny_of_eq (a := b) rfl ?_)
  show wpAny _ _ (mkIntGrown (b.toList.foldl (fun (acc : Int) (b : UInt8) => acc * 256 + (b.toNat : Int)) ((0 : Nat) : Int)) >>= fun v => _) _ _ _
  rw [foldI_eq]
  refine wpAny_bind (grown128 hn ?_)
  refine if_so (by decide +kernel) ?_
  exact wpAny_bind (wpAny_pure (wpAny_pure h))
end
section
variable {prog : Program} {w : World} {A : Around} {E : Value → Shared → Prop} {s : Shared}
theorem check_fbK {b : Array UInt8} {t u : Tok} : checkBoundCall "int.from_bytes" ⟨[.type "int", .bytes b t], [(PySem.Str.ofString "byteorder", .str (PySem.Str.ofString "big") u)]⟩ = pure () := by first | kernel_rfl | rfl
theorem call_ofK {x : Addr} {b : Array UInt8} {t u : Tok} {ks : List Int} {Q : Value → Shared → Prop} (ho : StandsAt x s.heap) (hb : KBw.bInts b = ks) (hl : ks.length ≤ 16)
    (h : Q (.int (vN ks) s.toks) { s with toks := s.toks + 1 }) : wpAny (model prog w) A (call (.ref x) [.bytes b t] [(PySem.Str.ofString "byteorder", .str (PySem.Str.ofString "big") u)]) Q E s := by
  subst hb
  refine wpAny_call (codeAny_of_tree ?_)
  show wpAny _ A.in1 (callAny (.ref x) ⟨[.bytes b t], [(PySem.Str.ofString "byteorder", .str (PySem.Str.ofString "big") u)]⟩) _ _ s
  simp only [callAny]
  refine wpAny_bind (wpAny_load ho ?_)
  simp only [KFB.bound, show (Value.type "builtin_function_or_method" == Value.type "method" || Value.type "builtin_function_or_method" == Value.type "builtin_function_or_method" || Value.type "builtin_function_or_method" == Value.type "method-wrapper") = true by decide, if_true]
  refine if_so (by decide) ?_
  refine wpAny_bind (wpAny_of_eq (a := ()) check_fbK ?_)
  refine wpAny_bind (wpAny_pure (wpAny_pure ?_))
  exact ⟨quiet_fb, codeAny_builtin entry_fb (tree_bigK (by rw [← KBw.ints_length]; exact hl) h)⟩
theorem callWith_fieldsK {pos : Pos} {u : Addr} {first : List Value} {args : List (Bool × Sem Value)} {keywords : List (Option PySem.Str × Sem Value)} {Q : Value → Shared → Prop} (hplain : args.any (·.1) = false) (hkw : keywords.any (·.1.isNone) = false)
    (h : wpAny M A (evalArgs (.ref u) true args keywords) (fun x s₁ => StandsAt u s₁.heap ∧ wpAny M A (call (.ref u) (first ++ x.pos) x.kw) Q E s₁) E s) : wpAny M A (callWith pos (.ref u) first args keywords) Q E s := by
  unfold callWith
  refine wpAny_bind (wpAny_holding (wpAny_mono h (fun x s₁ h₁ => wpAny_bind (wpAny_standAt ?_)) fun _ _ x => x))
  obtain ⟨ho, hcall⟩ := h₁
  simp only [hplain, hkw, Bool.or_false]
  refine wpAny_bind (m := keeperOf (.ref u)) ?_
  unfold keeperOf
  refine wpAny_bind (wpAny_load ho ?_)
  simp only [KFB.bound, show (Value.type "builtin_function_or_method" != Value.type "method") = true by decide, show (Value.type "builtin_function_or_method" == Value.type "builtin_function_or_method" || Value.type "builtin_function_or_method" == Value.type "method-wrapper") = true by decide, if_true]
  refine wpAny_pure ?_
  exact wpAny_bind (wpAny_mono hcall (fun r s₂ hr => wpAny_bind (wpAny_holding (wpAny_point (wpAny_pure hr)))) fun _ _ x => x)
def FromBA (u : Addr) (Q : Value → Shared → Prop) (vs : List Value) (s₁ : Shared) : Prop := ∃ b t ks, vs = [.bytes b t] ∧ StandsAt u s₁.heap ∧ KBw.bInts b = ks ∧ ks.length ≤ 16 ∧ ∀ t' k, Q (.int (vN ks) t') { s₁ with toks := k }
theorem fromBA {u : Addr} {Q : Value → Shared → Prop} {b : Array UInt8} {t : Tok} {ks : List Int} (hs : StandsAt u s.heap) (hb : KBw.bInts b = ks) (hl : ks.length ≤ 16) (h : ∀ t' k, Q (.int (vN ks) t') { s with toks := k }) : FromBA u Q [.bytes b t] s := ⟨b, t, ks, rfl, hs, hb, hl, h⟩
/-- int.from_bytes(e, byteorder="big") upon at most sixteen octets -/
theorem from_big {pos p1 p2 : Pos} {u : Addr} {k : Nat} {env : Env} {e : Expr} {Q : Value → Shared → Prop}
    (h : wpAny (model prog w) A (spliced (backTo pos (starEach [e] env))) (FromBA u Q) E s)
    (he : starEach [e] env = [(false, eval e env)] := by rfl) :
    wpAny (model prog w) A (callWith pos (.ref u) [] (backTo pos (starEach [e] env)) (backToKw pos (keywordEach [{ arg := some (PySem.Str.ofString "byteorder"), value := .Constant (.str (PySem.Str.ofString "big")) k p1, pos := p2 }] env))) Q E s := by
  rw [he] at h ⊢
  refine callWith_fieldsK rfl rfl (evalArgs_kw rfl (wpAny_mono h (fun vs s₁ h₁ => ?_) fun _ _ x => x))
  obtain ⟨b, t, ks, rfl, hs, hb, hl, hQ⟩ := h₁
  refine kwAll_cons (wpAny_Constant_str (kwAll_nil ?_))
  exact ⟨hs, call_ofK hs hb hl (hQ _ _)⟩
end
theorem vN_ok {b : Array UInt8} {ks : List Int} (hb : KBw.bInts b = ks) (hl : ks.length ≤ 16) : 0 ≤ (vN ks : Int) ∧ (vN ks : Int) < 2 ^ 128 := by
  have h1 := vN_lt ks fun x hx => KBw.ints_in (by rw [hb]; exact hx)
  have h2 : 256 ^ ks.length ≤ 256 ^ 16 := Nat.pow_le_pow_right (by decide) hl
  have h3 : (256 : Nat) ^ 16 = 2 ^ 128 := by decide
  omega
end

section
theorem pick_first {as : List Int} (h : 2 ≤ as.length) : List.take (clipAt as.length 1 - clipAt as.length 0) (List.drop (clipAt as.length 0) as) = [as.getD 0 0] := by
  have := pick_one (as := as) (k := 0) (by omega) (by omega)
  simpa using this
theorem flatten_one {x : UInt8} : ∀ n : Nat, (List.replicate n [x]).flatten = List.replicate n x
  | 0 => rfl
  | n + 1 => by rw [List.replicate_succ, List.flatten_cons, flatten_one n, List.replicate_succ]; rfl
section
variable {prog : Program} {w : World} {A : Around} {E : Value → Shared → Prop} {s : Shared} {b : Array UInt8} {t u : Tok} {ks : List Int} {n x : Int} {Q : Value → Shared → Prop}
theorem mul_bytes (hk : KBw.bInts b = ks) (h1 : ks = [x]) (hlo : 0 ≤ n) (hn : n ≤ 1048576) (h : ∀ (d : Array UInt8) t' k, KBw.bInts d = List.replicate n.toNat x → (List.replicate n.toNat x).length = n.toNat → Q (.bytes d t') { s with toks := k }) :
    wpAny (model prog w) A (binaryOp .Mult (.bytes b t) (.int n u)) Q E s := by
  subst h1
  have e : b = b.toList.toArray := Array.toArray_toList.symm
  have hb : ∃ c, b.toList = [c] ∧ ((c.toNat : Nat) : Int) = x := by
    have h2 : b.toList.map (fun c => ((c.toNat : Nat) : Int)) = [x] := hk
    cases hl : b.toList with
    | nil => rw [hl] at h2; cases h2
    | cons c r =>
      rw [hl, List.map_cons] at h2
      cases r with
      | nil => exact ⟨c, rfl, (List.cons.inj h2).1⟩
      | cons d r => rw [List.map_cons] at h2; cases (List.cons.inj h2).2
  obtain ⟨c, hc, hx⟩ := hb
  rw [e, hc]
  refine bytes_mul_any (by simp) (by omega) hn (by simp) fun t' k => h _ t' k ?_ (List.length_replicate ..)
  rw [flatten_one]
  show (List.replicate n.toNat c).map _ = _
  rw [List.map_replicate, hx]
end
end

local macro_rules | `(tactic| walk_at "getMethod bytes") => `(tactic| (k_here; first | (with_reducible refine method_rstrip ?_) | (with_reducible refine method_lstrip ?_)))
local macro_rules | `(tactic| walk_at "getMethod str") => `(tactic| (k_here; (with_reducible refine method_encode ?_)))
local macro_rules | `(tactic| walk_at "call builtin:bytes.rstrip") => `(tactic| (k_here; (with_reducible show wpAny _ _ (call (Value.builtin "bytes.rstrip") [Value.bytes _ _]) _ _ _); (refine call_rstrip (by kba_ints2) (by kba_size) ?_); intro d9 t9 k9 mrR mrN))
local macro_rules | `(tactic| walk_at "call builtin:bytes.lstrip") => `(tactic| (k_here; (with_reducible show wpAny _ _ (call (Value.builtin "bytes.lstrip") [Value.bytes _ _, Value.bytes _ _]) _ _ _); (refine call_lstrip (by kba_ints2) (by kba_ints2) (by kba_size) ?_); intro d9 t9 k9 mrL mrN))
local macro_rules | `(tactic| walk_at "compareOp NotIn bytes bytes") => `(tactic| (k_here; (with_reducible show wpAny _ _ (compareOp _ (Value.bytes _ _) (Value.bytes _ _)) _ _ _); k_dflt (refine' notIn_bytes ?F ?N ?h ?k ?x ?_; (case F => k_asm); (case N => k_asm); (case h => rfl); (case k => kba_ints2); (case x => assumption)); intro h9 tk9 F9 N9))
local macro_rules | `(tactic| walk_at "call builtin:str.encode") => `(tactic| (k_here; (with_reducible show wpAny _ _ (call (Value.builtin "str.encode") [Value.str _ _, Value.str _ _]) _ _ _); (refine call_encode (by assumption) (by assumption) (by kba_size) ?_); intro d9 t9 k9 meE))
local macro_rules | `(tactic| walk_at "call builtin:str.rstrip") => `(tactic| (k_here; (with_reducible show wpAny _ _ (call (Value.builtin "str.rstrip") [Value.str _ _]) _ _ _); (refine call_srstrip (by assumption) (by assumption) (by kba_size) ?_); intro d9 t9 k9 meS mrN))
local macro_rules | `(tactic| walk_at "MINE sides") => `(tactic| ((case B => k_asm); (case F => k_asm); (case X => k_asm); (case N => k_asm); (case T => k_asm); (case hk => first | exact rfl | assumption); (case hp => first | trivial | assumption); (case hd => ktr_room); (case hu => ktr_units)))
local macro_rules | `(tactic| walk_at "MINE bts") => `(tactic| (intro r9 h9 tk9 F9 N9 hr9; obtain ⟨b9, t9, hr9, hb9⟩ := hr9; subst hr9; (try dsimp only); (try k_fold)))
local macro_rules | `(tactic| walk_at "MINE int") => `(tactic| (intro r9 h9 tk9 F9 N9 hr9; obtain ⟨t9, hr9⟩ := hr9; subst hr9; (try dsimp only); (try k_fold)))
local macro_rules | `(tactic| walk_at "call ref") => `(tactic| (k_here; (with_reducible show wpAny _ _ (call (Value.ref 21) [Value.bytes _ _] _) _ _ _); k_dflt (refine' use_ctr (scrubB _ _ _ _ ?v) ?B ?F ?X ?N ?T ?hk ?hp ?hd ?hu ?_; (case v => kba_ints2); walk_at "MINE sides"); walk_at "MINE bts"))
local macro_rules | `(tactic| walk_at "call ref") => `(tactic| (k_here; (with_reducible show wpAny _ _ (call (Value.ref 29) [Value.int _ _] _) _ _ _); k_dflt (refine' use_ctr (encInt _ _ _ _ _ _ ?v ?l ?i) ?B ?F ?X ?N ?T ?hk ?hp ?hd ?hu ?_; (case v => kba_ints2); (case l => assumption); (case i => first | assumption | exact vN_ok (by assumption) (by omega)); walk_at "MINE sides"); (intro r9 h9 tk9 F9 N9 hr9; obtain ⟨⟨b9, t9, hr9, hb9⟩, hl9⟩ := hr9; subst hr9; (try dsimp only); (try k_fold))))
local macro_rules | `(tactic| walk_at "callWith ref") => `(tactic| (k_here; kfb_any; k_dflt (refine from_big ?_)))
local macro_rules | `(tactic| walk_at "FromBA") => `(tactic| (k_dflt (refine fromBA (KFB.at_of (by k_asm) (by k_mem)) (by kba_ints2) (by kba_size) ?_); intro t9 k9))
local macro_rules | `(tactic| walk_at "binaryOp Mult bytes int") => `(tactic| (k_here; (with_reducible show wpAny _ _ (binaryOp Operator.Mult (Value.bytes _ _) (Value.int _ _)) _ _ _); (refine mul_bytes (by kba_ints2) (by first | exact pick_first (by omega) | rfl) (by omega) (by omega) ?_); intro d9 t9 k9 mmM mmL))

section
/-- what b58encode writes -/
def encF (as ks : List Int) : List Int := List.replicate (ks.length - (lstripI [0] ks).length) (as.getD 0 0) ++ encD as (vN (lstripI [0] ks))
theorem encF_eq (as ks : List Int) : List.replicate ((ks.length : Int) - ((lstripI (List.map (fun c : UInt8 => ((c.toNat : Nat) : Int)) [0]) ks).length : Int)).toNat (as.getD 0 0) ++ encD as (vN (lstripI (List.map (fun c : UInt8 => ((c.toNat : Nat) : Int)) [0]) ks)) = encF as ks := by
  have e : (List.map (fun c : UInt8 => ((c.toNat : Nat) : Int)) [0]) = [0] := rfl
  rw [e]
  unfold encF
  congr 2
  omega
theorem encF_len {b : Array UInt8} {as ks : List Int} (hb : KBw.bInts b = ks) (hk : ks.length ≤ 16) (hl : 2 ≤ as.length) : (encF as ks).length ≤ 144 := by
  unfold encF
  rw [List.length_append, List.length_replicate]
  have h1 : ∀ x ∈ lstripI [0] ks, 0 ≤ x ∧ x < 256 := fun x hx => KBw.ints_in (b := b) (by rw [hb]; exact (List.dropWhile_sublist _).subset hx)
  have h2 := vN_lt _ h1
  have h3 := lstripI_len [0] ks
  have h4 : 256 ^ (lstripI [0] ks).length ≤ 256 ^ 16 := Nat.pow_le_pow_right (by decide) (by omega)
  have h5 : (256 : Nat) ^ 16 = 2 ^ 128 := by decide
  have := encD_len (as := as) (c := (vN (lstripI [0] ks) : Int)) hl (by omega)
  omega
set_option maxHeartbeats 8000000 in
theorem enc (w : World) (v al : Array UInt8) (ks as : List Int) (t t2 : Tok) (hv : KBw.bInts v = ks) (hk : ks.length ≤ 16) (hal : KBw.bInts al = as) (hl : as.length ≤ 59 ∧ 2 ≤ as.length) :
    CtrV 8 w 37 [.bytes v t] [(Str.ofString "alphabet", .bytes al t2)] (fun _ => True) (fun r => isBts (encF as ks) r ∧ (encF as ks).length ≤ 144) := by
  k_with_none; w_top off
  dsimp only [CtrV, CtrH]; k_fill
  intro mean mg mb dp un gd cn cs a0 ccd cl outer A₀ base h₀ L m s Q E BB F X T hcs hpre hd hu hret
  have hnil : IntsAre [] [] := .nil
  walk_at "MINE enter"
  k_steps
  dsimp only
  exact end_bts (fun r h' tk' st hr => hret r h' tk' st ⟨hr, encF_len hv hk hl.2⟩) (by k_asm) (by assumption) (encF_eq as ks)
end

theorem hashF_len (ks : List Int) : (hashF ks).length = 8 := by unfold hashF; rw [List.length_map, rangeKs_length]
local macro_rules | `(tactic| walk_at "call ref") => `(tactic| (k_here; (with_reducible show wpAny _ _ (call (Value.ref 115) [Value.bytes _ _] _) _ _ _); k_dflt (refine' use_ctr (hash _ _ _ _ ?v ?l) ?B ?F ?X ?N ?T ?hk ?hp ?hd ?hu ?_; (case v => kba_ints2); (case l => kba_size); walk_at "MINE sides"); walk_at "MINE bts"; (have hfL := hashF_len); (first | (have hfL9 := hfL _; skip) | skip)))
local macro_rules | `(tactic| walk_at "call ref") => `(tactic| (k_here; (with_reducible show wpAny _ _ (call (Value.ref 37) [Value.bytes _ _] _) _ _ _); k_dflt (refine' use_ctr (enc _ _ _ _ _ _ _ ?v ?kk ?va ?l) ?B ?F ?X ?N ?T ?hk ?hp ?hd ?hu ?_; (case v => kba_ints2); (case kk => kba_size); (case va => kba_ints2); (case l => assumption); walk_at "MINE sides"); (intro r9 h9 tk9 F9 N9 hr9; obtain ⟨⟨b9, t9, hr9, hb9⟩, hl9⟩ := hr9; subst hr9; (try dsimp only); (try k_fold))))

section
set_option maxHeartbeats 8000000 in
theorem encCheck (w : World) (v al : Array UInt8) (ks as : List Int) (t t2 : Tok) (hv : KBw.bInts v = ks) (hk : ks.length ≤ 12) (hal : KBw.bInts al = as) (hl : as.length ≤ 59 ∧ 2 ≤ as.length) :
    CtrV 12 w 68 [.bytes v t, .bytes al t2] [(Str.ofString "sha256", .ref 115)] (fun _ => True) (fun r => isBts (encF as (ks ++ (hashF (hashF ks)).take 4)) r) := by
  k_with_none; w_top off
  dsimp only [CtrV, CtrH]; k_fill
  intro mean mg mb dp un gd cn cs a0 ccd cl outer A₀ base h₀ L m s Q E BB F X T hcs hpre hd hu hret
  have hnil : IntsAre [] [] := .nil
  have hh1 := hashF_len ks
  have hh2 := hashF_len (hashF ks)
  have hc4 : clipAt (hashF (hashF ks)).length 4 = 4 := by rw [hh2]; decide
  walk_at "MINE enter"
  k_steps
  try dsimp only
  refine end_bts hret (by k_asm) (by assumption) ?_
  rw [hc4]
end

section
/-- a text -/
def isStr (ks : List Int) (r : Value) : Prop := ∃ x t, r = .str x t ∧ cInts x = ks
section
variable {prog : Program} {w : World} {A : Around} {E : Value → Shared → Prop} {s : Shared} {h₀ : Heap} {L : Addr} {m : Str → Option Value} {env : Env}
/-- a list display over octets: what it asks of its source -/
def SrcB (prog : Program) (w : World) (A : Around) (h₀ : Heap) (L : Addr) (m : Str → Option Value) (env : Env) (elt : Expr) (x : Str) (scope : Scope) (cl : List (Str × Addr)) (Q : Value → Shared → Prop) (xv : Value) (s₁ : Shared) : Prop :=
  ∃ b t ks news, xv = .bytes b t ∧ A.handled = none ∧ KBw.bInts b = ks ∧ Fr h₀ L s₁.heap m ∧ News h₀ L s₁.heap news ∧ b.size ≤ sizeLine ∧
    ∀ s₂ : Shared, (∃ h, s₂ = { s₁ with heap := h }) → LCg.CompRest prog w A h₀ L m env elt x scope cl s₂ (fun _ => True) (fun i v => ∃ k u, ks[i]? = some k ∧ v = .int k u) (LCg.FinE h₀ L m s₂ Q) b.size 0 [] news
theorem ListComp_B {elt iter : Expr} {x : Str} {px : Pos} {scope : Scope} {cl : List (Str × Addr)} {pos : Pos} {Q : Value → Shared → Prop} (F₀ : Fr h₀ L s.heap m)
    (hclos : closureFor scope env = pure cl) (hcell : ∀ y ∈ scope.names, y.2 ≠ .cell) (hkind : scope.kind = .function)
    (hnames : ∀ y ∈ scope.names, y.2 = .local → scope.names.lookup y.1 = some .local) (hx : scope.names.lookup x = some .local)
    (h : wpAny (model prog w) A (eval iter env) (SrcB prog w A h₀ L m env elt x scope cl Q) E s)
    (hs : ∀ x, foldedSetIterable iter env x = pure x := by intro _; rfl) :
    wpAny (model prog w) A (eval (.ListComp elt [⟨.Name x px, iter, [], 0⟩] scope pos) env) Q E s := by
  rw [eval_ListComp]
  refine wpAny_comprehension_free (use := none) rfl hs hclos hkind hnames (wpAny_mono h (fun xv s₁ h₁ => ?_) fun _ _ e => e)
  obtain ⟨b, t, ks, news, rfl, hh, hb, F, N, hsz, R⟩ := h₁
  refine KBw.pyIter_bytes ?_
  have W := KBw.walks (prog := prog) (w := w) hh s₁.heap.objs.size b t
  have W' : Walks prog w A s₁.heap.objs.size [s₁.heap.objs.size] [s₁.heap.objs.size] b.size (fun i v => ∃ k u, ks[i]? = some k ∧ v = .int k u) (fun i h => KBw.IsBytesIter h s₁.heap.objs.size b t i) :=
    { sub := W.sub, frame := W.frame, done := W.done, self := W.self,
      item := fun i s Q E hi st hQ => W.item i s Q E hi st fun v h' tk hP => hQ v h' tk (by
        obtain ⟨c, u, hc, hv⟩ := hP
        exact ⟨_, u, by rw [← hb]; exact KBw.ints_get hc, hv⟩) }
  refine LCg.block_U W' hsz (fun i h st => by obtain ⟨o, e, _⟩ := st; exact ⟨o, e⟩) (fun i h h' o nw st e e' _ _ _ => by obtain ⟨o', q, r⟩ := st; rw [e] at q; cases q; exact ⟨o, e', r⟩) hcell hkind hx ⟨_, Heap.get?_push_size _ rfl, rfl, rfl⟩ (fun b hb => ?_)
    (F.keeps fun _ _ e => Heap.get?_push_of_some _ e) (N.grown fun _ _ e => Heap.get?_push_of_some _ e) (Nat.ne_of_lt F.ns.lt) (next_is_new F) (fun p hp => Nat.ne_of_lt (Heap.lt_size (N p hp).1)) trivial (R _ ⟨_, rfl⟩) ?_
  · rw [List.mem_singleton.mp hb]
    show s₁.heap.objs.size < (s₁.heap.push _).objs.size
    rw [Heap.size_push]; exact Nat.lt_succ_self _
  · intro D C h tk m' ys news' F' N' o1 hn hC₀ hD₀ hCL hDL hCD offC fin
    refine ⟨m', hn, fun h'' hs'' => fin D h'' tk (F'.change hs'' hCL hC₀) (fun p hp => ?_) o1⟩
    refine ⟨hs''.extBut _ _ ?_ (N' p hp).1, (N' p hp).2⟩
    rcases List.mem_cons.mp hp with rfl | hp
    · exact Ne.symm hCD
    · exact offC p hp
end
theorem cInts_app (a b : Str) : cInts (a ++ b) = cInts a ++ cInts b := by
  unfold cInts
  rw [PySem.Str.cps_append, Array.toList_append, List.map_append]
def oneS (k : Int) : Str := ⟨#[k.toNat]⟩
theorem cInts_one {k : Int} (h : 0 ≤ k) : cInts (oneS k) = [k] := by
  unfold cInts oneS
  show [((k.toNat : Nat) : Int)] = [k]
  rw [Int.toNat_of_nonneg h]
theorem cInts_glue : ∀ ks : List Int, (∀ k ∈ ks, 0 ≤ k) → cInts (Str.join (Str.ofString "") (ks.map oneS)) = ks
  | [], _ => rfl
  | [k], h => cInts_one (h k (.head _))
  | k :: j :: r, h => by
    have ih := cInts_glue (j :: r) fun x hx => h x (.tail _ hx)
    rw [List.map_cons] at ih
    rw [List.map_cons, List.map_cons]
    show cInts (oneS k ++ Str.ofString "" ++ Str.join (Str.ofString "") (oneS j :: r.map oneS)) = _
    rw [cInts_app, cInts_app, cInts_one (h k (.head _)), ih]
    rfl
theorem cInts_join {ks : List Int} (h : ∀ k ∈ ks, 0 ≤ k) : cInts (Txt.join (Str.ofString "") (ks.map oneS)) = ks := by
  show cInts (Builtin.Str.glued (Str.ofString "") (ks.map oneS)) = ks
  rw [StrLaws.glued_eq_join]
  exact cInts_glue ks h
set_option maxHeartbeats 8000000 in
theorem plain (w : World) (v : Array UInt8) (ks : List Int) (t : Tok) (hv : KBw.bInts v = ks) (hl : ks.length ≤ 300) :
    CtrV 4 w 110 [.bytes v t] [] (fun _ => True) (isStr ks) := by
  k_with_none; w_top off
  dsimp only [CtrV, CtrH]; k_fill
  intro mean mg mb dp un gd cn cs a0 ccd cl outer A₀ base h₀ L m s Q E B F X T hcs hpre hd hu hret
  have hnil : IntsAre [] [] := .nil
  have hk9 : ∀ k ∈ ks, 0 ≤ k ∧ k < 256 := fun k hk => KBw.ints_in (by rw [hv]; exact hk)
  walk_at "MINE enter"
  (k_with "eval ListComp" => k_dflt (refine ListComp_B (F₀ := by k_asm) (by with_unfolding_all rfl) (by decide) (by rfl) (by decide) (by rfl) ?_))
  k_steps
  refine ⟨_, _, ks, [], rfl, rfl, hv, by k_asm, by k_asm, by rw [← KBw.ints_length, hv, sizeLine_eq]; omega, ?_⟩
  rintro _ ⟨g9, rfl⟩
  refine kct_rest oneS (by rw [← KBw.ints_length, hv]) (fun i v _ h => h) (fun k9 t9 I9 oI9 C9 oC9 D9 m9 ys9 h9 tk9 E9 hk9' hC9 hx9 F9 N9 off9 ne9 hMark9 => ?_) (fun ys hc9 hl9 D9 h9 tk9 F9 N9 o9 => ?_)
  · have hb9 := hk9 _ hk9'
    simp only [LCg.Off3] at off9
    k_steps
    exact kct_el rfl rfl rfl
  · simp only [LCg.Off1] at o9
    k_steps
    try dsimp only
    exact hret _ _ _ (Fr.keep (by k_asm)) ⟨_, _, rfl, cInts_join fun k hk => (hk9 k hk).1⟩
end

section
open Sem (wp)
open AutoSeq1 (wpAny_loadPart')
open KBw
theorem biter_at {h h' : Heap} {it : Addr} {b : Array UInt8} {t : Tok} {i : Nat} (x : IsBytesIter h it b t i) (k : ∀ o, h.get? it = some o → h'.get? it = some o) : IsBytesIter h' it b t i :=
  let ⟨o, ho, r⟩ := x; ⟨o, k o ho, r⟩
section
variable {prog : Program} {w : World} {A : Around} {E : Value → Shared → Prop} {s : Shared} {b : Array UInt8} {t : Tok}
theorem nextOf_item {it : Addr} {i : Nat} {c : UInt8} {Q : Value → Shared → Prop} (hit : IsBytesIter s.heap it b t i) (hx : b[i]? = some c)
    (hQ : ∀ h', IsBytesIter h' it b t (i + 1) → Heap.SameBut it s.heap h' → Q (.int (c.toNat : Int) s.toks) { s with heap := h', toks := s.toks + 1 }) :
    wpAny (model prog w) A (Builtin.SmallTypes.nextOf (.ref it)) Q E s := by
  obtain ⟨o, ho, hc, hd⟩ := id hit
  unfold Builtin.SmallTypes.nextOf
  refine wpAny_bind (wpAny_callSpecial?_slot (name := Str.ofString "__next__") (iter_typeIs hit) slot_next
    (wpAny_call_entry slot_next (iter_typeIs hit) entry_next ?_ (args_next _)))
  show wpAny _ _ (field (.ref it) 0 >>= _) _ _ s
  refine wpAny_bind (wpAny_field ho hd (x := .bytes b t) rfl ?_)
  show wpAny _ _ (if (Value.bytes b t == Value.none) = true then _ else _) _ _ s
  rw [if_neg (show ¬ ((Value.bytes b t == Value.none) = true) from Bool.false_ne_true)]
  show wpAny _ _ (field (.ref it) 1 >>= _) _ _ s
  refine wpAny_bind (wpAny_field ho hd (x := .int i 0) rfl ?_)
  refine wpAny_bind (wpAny_of_eq (a := b) rfl ?_)
  simp only [Int.toNat_natCast, hx]
  refine wpAny_bind (wpAny_setField ho hd (by simp) (wpAny_bind (wpAny_mkInt (wpAny_pure ⟨_, rfl, wpAny_pure (hQ _ ?_ (Heap.SameBut.update ..))⟩))))
  exact ⟨_, Heap.get?_update_self _ ho (Obj.isFreed_of_fields (Obj.data_mapFields hd _)), (Obj.cls_mapFields ..).trans hc, by
    rw [Obj.data_mapFields hd]; simp [rawInt]⟩
theorem nextOf_end {it : Addr} {i : Nat} {Q : Value → Shared → Prop} (hh : A.handled = none) (hit : IsBytesIter s.heap it b t i) (hx : b[i]? = none)
    (hE : ∀ h' e, Heap.ExtBut it s.heap h' → (∃ o, h'.get? e = some o ∧ o.cls = .type "StopIteration") → E (.ref e) { s with heap := h' }) :
    wpAny (model prog w) A (Builtin.SmallTypes.nextOf (.ref it)) Q E s := by
  obtain ⟨o, ho, hc, hd⟩ := id hit
  unfold Builtin.SmallTypes.nextOf
  refine wpAny_bind (wpAny_callSpecial?_slot (name := Str.ofString "__next__") (iter_typeIs hit) slot_next
    (wpAny_call_entry slot_next (iter_typeIs hit) entry_next ?_ (args_next _)))
  show wpAny _ _ (field (.ref it) 0 >>= _) _ _ s
  refine wpAny_bind (wpAny_field ho hd (x := .bytes b t) rfl ?_)
  show wpAny _ _ (if (Value.bytes b t == Value.none) = true then _ else _) _ _ s
  rw [if_neg (show ¬ ((Value.bytes b t == Value.none) = true) from Bool.false_ne_true)]
  show wpAny _ _ (field (.ref it) 1 >>= _) _ _ s
  refine wpAny_bind (wpAny_field ho hd (x := .int i 0) rfl ?_)
  refine wpAny_bind (wpAny_of_eq (a := b) rfl ?_)
  simp only [Int.toNat_natCast, hx]
  refine wpAny_bind (wpAny_rule (wpAny_bind (wpAny_setField ho hd (by simp) ?_)))
  show wpAny _ _ (newExc (.type "StopIteration") [] >>= _) _ _ _
  refine wpAny_bind ?_
  simp only [newExc, newTuple]
  refine wpAny_bind (wpAny_newObj_type ?_ (by size_fits))
  refine wpAny_bind (m := firstArgMember _ _) (wpAny_of_eq (a := Value.none) (by first | rfl | (simp only [firstArgMember]; rfl)) ?_)
  refine wpAny_newObj_type ?_ (by size_fits)
  simp only [raiseNew]
  refine wpAny_bind (wpAny_handled ?_)
  first | rw [show A.in1.handled = none from hh] | rw [hh]
  refine wpAny_bind (wpAny_pure (wpAny_throw ?_))
  exact hE _ _ (((Heap.SameBut.update ..).extBut.push _).push _) ⟨_, Heap.get?_push_size _ rfl, rfl⟩
/-- the next pair of an enumerate over octets -/
theorem enumB_next {e it : Addr} {i : Nat} {c : UInt8} {old : Value} {Q : Value → Shared → Prop}
    (he : IsEnum s.heap e it i old) (hit : IsBytesIter s.heap it b t i) (hx : b[i]? = some c) (hne : e ≠ it)
    (hQ : ∀ h' k, IsEnumOut h' e it ((i : Int) + 1) (.int (c.toNat : Int) k) s.heap.objs.size → IsBytesIter h' it b t (i + 1) →
      (∃ k', h'.get? s.heap.objs.size = some { cls := .type "tuple", data := .seq #[.int i k', .int (c.toNat : Int) k] }) →
      (∀ b o, b ≠ e → b ≠ it → s.heap.get? b = some o → h'.get? b = some o) → Q (.ref s.heap.objs.size) { s with heap := h', toks := s.toks + 2 }) :
    wpAny (model prog w) A (Builtin.«enumerate.__next__» ⟨[.ref e], []⟩) (fun fin s' => ∃ v, fin = .done (.ret v) ∧ Q v s') E s := by
  obtain ⟨hp, g, d, tk, os⟩ := s
  show wpAny _ _ (field (.ref e) 2 >>= _) _ _ _
  refine wpAny_bind (wpAny_field he rfl (x := .ref it) rfl ?_)
  refine wpAny_bind (nextOf_item hit hx fun h₁ hit₁ hs₁ => ?_)
  replace hs₁ : Heap.SameBut it hp h₁ := hs₁
  have he₁ : IsEnum h₁ e it i old := (hs₁.2 e hne).trans he
  show wpAny _ _ (field (.ref e) 3 >>= _) _ _ ⟨h₁, g, d, tk + 1, os⟩
  refine wpAny_bind (wpAny_field he₁ rfl (x := rawInt i) rfl ?_)
  show wpAny _ _ (field (.ref e) 4 >>= _) _ _ ⟨h₁, g, d, tk + 1, os⟩
  refine wpAny_bind (wpAny_field he₁ rfl (x := .none) rfl ?_)
  show wpAny _ _ (mkInt i >>= _) _ _ ⟨h₁, g, d, tk + 1, os⟩
  refine wpAny_bind (wpAny_mkInt ?_)
  show wpAny _ _ (setField (.ref e) 3 (rawInt ((i : Int) + 1)) >>= _) _ _ ⟨h₁, g, d, tk + 2, os⟩
  refine wpAny_bind (wpAny_setField_rec he₁ (by simp) fun h₂ he₂ hs₂ => ?_)
  replace hs₂ : Heap.SameBut e h₁ h₂ := hs₂
  replace he₂ : IsEnum h₂ e it ((i : Int) + 1) old := he₂
  show wpAny _ _ (setField (.ref e) 4 .none >>= _) _ _ ⟨h₂, g, d, tk + 2, os⟩
  refine wpAny_bind (wpAny_setField_rec he₂ (by simp) fun h₃ he₃ hs₃ => ?_)
  replace hs₃ : Heap.SameBut e h₂ h₃ := hs₃
  replace he₃ : IsEnum h₃ e it ((i : Int) + 1) old := he₃
  show wpAny _ _ (newTuple [.int i (tk + 1), .int (c.toNat : Int) tk] >>= _) _ _ ⟨h₃, g, d, tk + 2, os⟩
  refine wpAny_bind (wpAny_newTuple ?_)
  have he₄ : IsEnum (h₃.push { cls := .type "tuple", data := .seq #[.int i (tk + 1), .int (c.toNat : Int) tk] }) e it ((i : Int) + 1) old := Heap.get?_push_of_some _ he₃
  generalize hh₄ : h₃.push { cls := .type "tuple", data := .seq #[.int i (tk + 1), .int (c.toNat : Int) tk] } = h₄ at he₄
  have hsz : h₃.objs.size = hp.objs.size := by rw [hs₃.1, hs₂.1, hs₁.1]
  have hel : e < hp.objs.size := Heap.lt_size he
  have ht₄ : h₄.get? hp.objs.size = some { cls := .type "tuple", data := .seq #[.int i (tk + 1), .int (c.toNat : Int) tk] } := by rw [← hh₄, ← hsz]; exact Heap.get?_push_size _ rfl
  have hk₄ : ∀ b o, b ≠ e → b ≠ it → hp.get? b = some o → h₄.get? b = some o := fun b o hbe hbi hb => by
    rw [← hh₄]; exact Heap.get?_push_of_some _ (hs₃.extBut b o hbe (hs₂.extBut b o hbe (hs₁.extBut b o hbi hb)))
  have hit₄ : IsBytesIter h₄ it b t (i + 1) := by
    rw [← hh₄]
    exact biter_at hit₁ fun o ho => Heap.get?_push_of_some _ (hs₃.extBut _ o (Ne.symm hne) (hs₂.extBut _ o (Ne.symm hne) ho))
  show wpAny _ _ (Builtin.SmallTypes.ownedTupleIsFree (.ref e) >>= _) _ _ ⟨h₄, g, d, tk + 2, os⟩
  rw [hsz]
  clear hh₄ he₃ hs₃ he₂ hs₂ he₁ hs₁ hit₁ hsz h₃ h₂ h₁
  refine wpAny_bind ?_
  · unfold Builtin.SmallTypes.ownedTupleIsFree
    refine wpAny_bind (wpAny_field he₄ rfl (x := .none) rfl (wpAny_pure ?_))
    simp only [if_true]
    refine wpAny_bind (wpAny_rule ?_)
    refine wpAny_bind (wpAny_field he₄ rfl (x := old) rfl ?_)
    refine wpAny_bind (wpAny_setField_rec he₄ (by simp) fun h₅ he₅ hs₅ => ?_)
    replace hs₅ : Heap.SameBut e h₄ h₅ := hs₅
    replace he₅ : IsEnum h₅ e it ((i : Int) + 1) (.int (c.toNat : Int) tk) := he₅
    show wpAny _ _ (Builtin.SmallTypes.ownedTupleHandOut (.ref e) (.ref hp.objs.size) >>= _) _ _ ⟨h₅, g, d, tk + 2, os⟩
    refine wpAny_bind ?_
    · unfold Builtin.SmallTypes.ownedTupleHandOut
      refine wpAny_bind (wpAny_setField_rec he₅ (by simp) fun h₆ he₆ hs₆ => ?_)
      replace hs₆ : Heap.SameBut e h₅ h₆ := hs₆
      replace he₆ : IsEnumOut h₆ e it ((i : Int) + 1) (.int (c.toNat : Int) tk) hp.objs.size := he₆
      refine wpAny_setField_rec he₆ (by simp) fun h₇ he₇ hs₇ => ?_
      replace hs₇ : Heap.SameBut e h₆ h₇ := hs₇
      replace he₇ : IsEnumOut h₇ e it ((i : Int) + 1) (.int (c.toNat : Int) tk) hp.objs.size := he₇
      refine wpAny_bind (wpAny_letGo (wpAny_pure ⟨_, rfl, hQ h₇ tk he₇ ?_ ⟨tk + 1, ?_⟩ ?_⟩))
      · exact biter_at hit₄ fun o ho => hs₇.extBut _ o (Ne.symm hne) (hs₆.extBut _ o (Ne.symm hne) (hs₅.extBut _ o (Ne.symm hne) ho))
      · exact hs₇.extBut _ _ (Nat.ne_of_gt hel) (hs₆.extBut _ _ (Nat.ne_of_gt hel) (hs₅.extBut _ _ (Nat.ne_of_gt hel) ht₄))
      · exact fun b o hbe hbi hb => hs₇.extBut b o hbe (hs₆.extBut b o hbe (hs₅.extBut b o hbe (hk₄ b o hbe hbi hb)))
end
end

section
open Sem (wp)
open AutoSeq1 (wpAny_loadPart')
open KBw
section
variable {prog : Program} {w : World} {A : Around} {E : Value → Shared → Prop} {s : Shared} {b : Array UInt8} {t : Tok}
theorem pyNext_enumB {e it : Addr} {i : Nat} {c : UInt8} {old : Value} {Q : Option Value → Shared → Prop}
    (he : IsEnum s.heap e it i old) (hit : IsBytesIter s.heap it b t i) (hx : b[i]? = some c) (hne : e ≠ it)
    (hQ : ∀ h' k tk, IsEnumOut h' e it ((i : Int) + 1) (.int (c.toNat : Int) k) s.heap.objs.size → IsBytesIter h' it b t (i + 1) →
      (∃ k', h'.get? s.heap.objs.size = some { cls := .type "tuple", data := .seq #[.int i k', .int (c.toNat : Int) k] }) →
      (∀ b o, b ≠ e → b ≠ it → s.heap.get? b = some o → h'.get? b = some o) → Q (some (.ref s.heap.objs.size)) { s with heap := h', toks := tk }) :
    wpAny (model prog w) A (pyNext (.ref e)) Q E s := by
  have hT : s.TypeIs (.ref e) "enumerate" := ⟨_, he, rfl⟩
  unfold pyNext
  exact wpAny_bind (wpAny_attempt (wpAny_callSpecial?_slot (name := Str.ofString "__next__") hT F.slot_enumerate_next
    (wpAny_call_entry F.slot_enumerate_next hT F.entry_enumerate_next
      (enumB_next he hit hx hne fun h' k a b c d => wpAny_pure (hQ h' k _ a b c d)) (F.args_enumerate_next_1 _))))
theorem pyNext_enumB_end {e it : Addr} {i : Nat} {old : Value} {Q : Option Value → Shared → Prop} (hh : A.handled = none)
    (he : IsEnum s.heap e it i old) (hit : IsBytesIter s.heap it b t i) (hx : b[i]? = none)
    (hQ : ∀ h', Heap.ExtBut it s.heap h' → Q none { s with heap := h' }) : wpAny (model prog w) A (pyNext (.ref e)) Q E s := by
  have hT : s.TypeIs (.ref e) "enumerate" := ⟨_, he, rfl⟩
  unfold pyNext
  refine wpAny_bind (wpAny_attempt (wpAny_callSpecial?_slot (name := Str.ofString "__next__") hT F.slot_enumerate_next
    (wpAny_call_entry F.slot_enumerate_next hT F.entry_enumerate_next ?_ (F.args_enumerate_next_1 _))))
  show wpAny _ _ (field (.ref e) 2 >>= _) _ _ _
  refine wpAny_bind (wpAny_field he rfl (x := .ref it) rfl ?_)
  refine wpAny_bind (nextOf_end hh hit hx fun h' x he' hx' => ?_)
  obtain ⟨o, ho, hc⟩ := hx'
  refine wpAny_bind (wpAny_isInstance (T := "StopIteration") (b := true) ⟨o, ho, hc⟩ isSubtype_stop ?_)
  exact wpAny_pure (hQ _ he')
set_option maxHeartbeats 1000000 in
theorem meets_enumerate_newB (b : Array UInt8) (t : Tok) :
    Meets (Builtin.«enumerate.__new__» ⟨[.type "enumerate", .bytes b t], []⟩) (fun _ R s =>
      R (.ok (.ret (.ref (s.heap.push { cls := .type "bytes_iterator", data := .fields #[.bytes b t, .int 0 0] }).objs.size)))
        { s with heap := (s.heap.push { cls := .type "bytes_iterator", data := .fields #[.bytes b t, .int 0 0] }).push { cls := .type "enumerate", data := .fields #[.none, .bool false, .ref s.heap.objs.size, rawInt 0, .none, .none] } }) :=
  .of_wp fun prog w A R s h => by
    obtain ⟨hp, g, d, tk, os⟩ := s
    have hsub := sub_enumerate
    wp_walk
    refine wpAny_stack_any fun st => wpAny_pure ?_
    split
    · rename_i c _ _ _ _ _
      cases (c == Value.type "enumerate")
      · wp_walk using KBw.pyIter_bytes
        exact ⟨_, rfl, h⟩
      · wp_walk using KBw.pyIter_bytes
        exact ⟨_, rfl, h⟩
    · wp_walk using KBw.pyIter_bytes
      exact ⟨_, rfl, h⟩
theorem call_enumerate_bytes {Q : Value → Shared → Prop}
    (h : ∀ h' e it, IsEnum h' e it 0 .none → IsBytesIter h' it b t 0 → e ≠ it → e < h'.objs.size → it < h'.objs.size → s.heap.get? e = none → s.heap.get? it = none →
      (∀ b o, s.heap.get? b = some o → h'.get? b = some o) → Q (.ref e) { s with heap := h' }) :
    wpAny (model prog w) A (call (.type "enumerate") [.bytes b t]) Q E s := by
  refine callType_new F.called_enumerate (by decide) (F.typeCall_enumerate_1 _) (F.newCall_enumerate_1 _) (fun obj => F.args_object_init_2 obj _) F.entry_enumerate_new
    (meets_enumerate_newB b t) ?_
  have hz : (s.heap.push { cls := .type "bytes_iterator", data := .fields #[.bytes b t, .int 0 0] }).objs.size = s.heap.objs.size + 1 := Heap.size_push ..
  show _ ∧ _
  rw [hz]
  have he : IsEnum ((s.heap.push { cls := .type "bytes_iterator", data := .fields #[.bytes b t, .int 0 0] }).push
      { cls := .type "enumerate", data := .fields #[.none, .bool false, .ref s.heap.objs.size, rawInt 0, .none, .none] }) (s.heap.objs.size + 1) s.heap.objs.size 0 .none := by
    have := Heap.get?_push_size (s.heap.push { cls := .type "bytes_iterator", data := .fields #[.bytes b t, .int 0 0] })
      (o := { cls := .type "enumerate", data := .fields #[.none, .bool false, .ref s.heap.objs.size, rawInt 0, .none, .none] }) rfl
    rw [hz] at this; exact this
  have fresh : ∀ a, s.heap.objs.size ≤ a → s.heap.get? a = none := fun a ha => Heap.get?_none_of_le ha
  refine ⟨⟨_, he, rfl⟩, h _ _ _ he ⟨_, Heap.get?_push_of_some _ (Heap.get?_push_size _ rfl), rfl, rfl⟩ (Nat.ne_of_gt (Nat.lt_succ_self _)) (Heap.lt_size he) (by rw [Heap.size_push, hz]; exact Nat.lt_succ_of_lt (Nat.lt_succ_self _)) (fresh _ (Nat.le_succ _)) (fresh _ (Nat.le_refl _)) fun b o y => Heap.get?_push_of_some _ (Heap.get?_push_of_some _ y)⟩
/-- a dict of octets and their places -/
def MapIs (ks : List Int) (kvs : List (Int × Value)) : Prop := kvs.map (·.1) = ks ∧ ∀ (j : Nat) (p : Int × Value), kvs[j]? = some p → ∃ k, p.2 = Value.int (j : Int) k
theorem mapIs_nil : MapIs [] [] := ⟨rfl, fun j p h => by simp at h⟩
theorem mapIs_snoc {ks : List Int} {kvs : List (Int × Value)} {c : Int} {k : Tok} (h : MapIs ks kvs) (hn : c ∉ ks) : MapIs (ks ++ [c]) (stored kvs c (.int (ks.length : Int) k)) := by
  have hl : kvs.length = ks.length := by rw [← h.1, List.length_map]
  have e : stored kvs c (.int (ks.length : Int) k) = kvs ++ [(c, .int (ks.length : Int) k)] := by
    unfold stored
    rw [if_neg]
    intro ha
    obtain ⟨p, hp, hc⟩ := List.any_eq_true.mp ha
    exact hn (by rw [← h.1]; exact List.mem_map.mpr ⟨p, hp, by simpa using hc⟩)
  rw [e]
  refine ⟨by rw [List.map_append, h.1]; rfl, fun j p hj => ?_⟩
  by_cases hlt : j < kvs.length
  · rw [List.getElem?_append_left hlt] at hj
    exact h.2 j p hj
  · rw [List.getElem?_append_right (by omega)] at hj
    have hj0 : j = kvs.length := by
      have := (List.getElem?_eq_some_iff.mp hj).1
      simp at this
      omega
    subst hj0
    simp at hj
    subst hj
    exact ⟨k, by rw [hl]⟩
end
end

section
open Sem (wp)
open KBw
section
variable {prog : Program} {w : World} {A : Around} {E : Value → Shared → Prop} {s : Shared} {b : Array UInt8} {t : Tok}
theorem compLoop_pairD {kx vx iter : Expr} {elts : List Expr} {x1} {tp : Pos} {scope : Scope} {pos : Pos} {it : Value} {D : Addr} {env : Env} {R : Result → Shared → Prop} (I : Nat → Shared → Prop)
    (turn : ∀ n s, I n s → wpAny (model prog w) A (pyNext it) (fun r s₁ => match r with
      | none => R (.ok .next) s₁
      | some v => wpAny (model prog w) A (letOwnedTupleGo (.Tuple elts x1 tp) it v) (fun _ s₁' => wpAny (model prog w) A (assign (.Tuple elts x1 tp) env v) (fun _ s₂ =>
          wpAny (model prog w) A (eval kx env) (fun kv s₄ => wpAny (model prog w) A (eval vx env) (fun vv s₅ =>
              wpAny (model prog w) A (dictSet D kv vv) (fun _ s₆ => ∃ m, m < n ∧ I m s₆) (notedBy (model prog w) A env fun e s' => R (.error e) s') s₅) (notedBy (model prog w) A env fun e s' => R (.error e) s') s₄) (notedBy (model prog w) A env fun e s' => R (.error e) s') s₂)
          (notedBy (model prog w) A env fun e s' => R (.error e) s') s₁') (notedBy (model prog w) A env fun e s' => R (.error e) s') s₁) (notedBy (model prog w) A env fun e s' => R (.error e) s') s)
    (n : Nat) (h : I n s) : codeAny (model prog w) A (.compLoop (.DictComp kx vx [⟨.Tuple elts x1 tp, iter, [], 0⟩] scope pos) 0 it (.ref D) env) R s := by
  refine codeAny_loop rfl I (fun n s hI => ?_) n h
  show wpAny _ A ((compTurn (.DictComp kx vx [⟨.Tuple elts x1 tp, iter, [], 0⟩] scope pos) 0 it (.ref D) env).onRaise (fun x => do noteFrame x env; theTreesLotGoes x)) _ _ s
  refine wpAny_noted ?_
  rw [compTurn_dict]
  refine wpAny_bind (wpAny_standAt (wpAny_bind (wpAny_mono (turn n s hI) (fun r s₁ h₁ => ?_) fun _ _ h' => h')))
  cases r with
  | none => exact wpAny_pure h₁
  | some v =>
    refine wpAny_bind (wpAny_mono h₁ (fun _ s₁' h₁' => ?_) fun _ _ h' => h')
    refine wpAny_bind (wpAny_mono h₁' (fun _ s₂ h₂ => wpAny_bind (wpAny_mono (wpAny_tests_nil (Q := fun ok s₃ => ok = true ∧ s₃ = s₂) ⟨rfl, rfl⟩) (fun ok s₃ h₃ => ?_) fun _ _ h' => h')) fun _ _ h' => h')
    obtain ⟨rfl, rfl⟩ := h₃
    exact wpAny_bind (wpAny_bind (wpAny_mono h₂ (fun kv s₄ h₄ => wpAny_bind (wpAny_holding (wpAny_mono h₄ (fun vv s₅ h₅ => wpAny_bind (wpAny_standAt (wpAny_holding (wpAny_mono h₅ (fun _ s₆ h₆ => wpAny_pure ⟨rfl, h₆⟩) fun _ _ h' => h')))) fun _ _ h' => h'))) fun _ _ h' => h'))
/-- what a dict display over an enumerate of octets asks of its source -/
def EnumSrc (prog : Program) (w : World) (ks : List Int) (Q : Value → Shared → Prop) (xv : Value) (s₁ : Shared) : Prop :=
  ∃ (b : Array UInt8) (t : Tok) (e it : Addr), xv = .ref e ∧ KBw.bInts b = ks ∧ IsEnum s₁.heap e it 0 .none ∧ IsBytesIter s₁.heap it b t 0 ∧ e ≠ it ∧ e < s₁.heap.objs.size ∧ it < s₁.heap.objs.size ∧
    (∀ D h' tk kvs, (∀ b o, b ≠ e → b ≠ it → s₁.heap.get? b = some o → h'.get? b = some o) → s₁.heap.objs.size ≤ D → h'.DictOf (intKind prog w) D kvs → MapIs ks kvs → Q (.ref D) { s₁ with heap := h', toks := tk })
theorem enumSrc_call {ks : List Int} {Q : Value → Shared → Prop} (hb : KBw.bInts b = ks) (hQ : ∀ D h' tk kvs, s.heap.StaysIn h' → s.heap.get? D = none → (∀ b o, s.heap.get? b = some o → b < D) → h'.DictOf (intKind prog w) D kvs → MapIs ks kvs → Q (.ref D) { s with heap := h', toks := tk }) :
    wpAny (model prog w) A (call (.type "enumerate") [.bytes b t]) (EnumSrc prog w ks Q) E s := by
  refine call_enumerate_bytes fun h' e it he hit hne hle hli hfe hfi hk => ⟨b, t, e, it, rfl, hb, he, hit, hne, hle, hli, ?_⟩
  intro D h'' tk kvs hk2 hD hd hm
  refine hQ D h'' tk kvs (fun b o hb => hk2 b o (fun q => ?_) (fun q => ?_) (hk b o hb)) ?_ (fun b o hb => Nat.lt_of_lt_of_le (Heap.lt_size (hk b o hb)) hD) hd hm
  · rw [q, hfe] at hb; cases hb
  · rw [q, hfi] at hb; cases hb
  · cases q : s.heap.get? D with
    | none => rfl
    | some o => exact absurd (Nat.lt_of_lt_of_le (Heap.lt_size (hk D o q)) hD) (Nat.lt_irrefl _)
theorem DictComp_enumB {p1 p2 p3 p4 p5 : Pos} {x1 : Nat} {iter : Expr} {xi xc : Str} {scope : Scope} {cl : List (Str × Addr)} {env : Env} {pos : Pos} {ks : List Int} {Q : Value → Shared → Prop}
    (hh : A.handled = none) (hnd : ks.Nodup) (hsz : ks.length ≤ 256)
    (hclos : closureFor scope env = pure cl) (hcell : ∀ y ∈ scope.names, y.2 ≠ .cell) (hkind : scope.kind = .function)
    (hnames : ∀ y ∈ scope.names, y.2 = .local → scope.names.lookup y.1 = some .local) (hxi : scope.names.lookup xi = some .local) (hxc : scope.names.lookup xc = some .local) (hne' : xi ≠ xc)
    (h : wpAny (model prog w) A (eval iter env) (EnumSrc prog w ks Q) E s)
    (hd1 : (xi == ("__debug__" : Str)) = false := by decide) (hd2 : (xc == ("__debug__" : Str)) = false := by decide)
    (hs : ∀ x, foldedSetIterable iter env x = pure x := by intro _; rfl) :
    wpAny (model prog w) A (eval (.DictComp (.Name xc p1) (.Name xi p2) [⟨.Tuple [.Name xi p3, .Name xc p4] x1 p5, iter, [], 0⟩] scope pos) env) Q E s := by
  rw [arm_eval_DictComp]
  refine wpAny_comprehension_free (use := none) rfl hs hclos hkind hnames (wpAny_mono h (fun xv s₁ h₁ => ?_) fun _ _ e => e)
  obtain ⟨b, t, e, it, rfl, hb, he, hit, hne, hle, hli, hQ⟩ := h₁
  refine wpAny_pyIter_enum he ?_
  refine wpAny_newObj_type (wpAny_newFunctionEnv hcell (by intro y hy; simp at hy) (fun h₁ hns₁ hsb₁ => ?_) hkind)
  dsimp only at hns₁ hsb₁ ⊢
  have hnew : (s₁.heap.push { cls := .type "dict", dict := none, data := .dict #[] }).DictOf (intKind prog w) s₁.heap.objs.size [] := Heap.DictOf.new s₁.heap
  generalize hH2 : s₁.heap.push { cls := .type "dict", dict := none, data := .dict #[] } = H2 at hns₁ hsb₁ hnew ⊢
  have hC : H2.objs.size = s₁.heap.objs.size + 1 := by rw [← hH2, Heap.size_push]
  have hDC : s₁.heap.objs.size ≠ H2.objs.size := by rw [hC]; exact Nat.ne_of_lt (Nat.lt_succ_self _)
  have below : ∀ b, b < s₁.heap.objs.size → b ≠ H2.objs.size ∧ b ≠ s₁.heap.objs.size := fun b hb => ⟨by rw [hC]; exact Nat.ne_of_lt (Nat.lt_succ_of_lt hb), Nat.ne_of_lt hb⟩
  have old : ∀ b o, s₁.heap.get? b = some o → h₁.get? b = some o := fun b o e => hsb₁.extBut b o (below b (Heap.lt_size e)).1 (Heap.get?_push_of_some _ (hH2 ▸ Heap.get?_push_of_some _ e))
  have hacc : h₁.DictOf (intKind prog w) s₁.heap.objs.size [] := hnew.at fun o e => hsb₁.extBut _ _ hDC (Heap.get?_push_of_some _ e)
  have he₁ : IsEnum h₁ e it 0 .none := old _ _ he
  have hit₁ : IsBytesIter h₁ it b t 0 := biter_at hit fun o ho => old _ _ ho
  have hfresh : ∀ a, s₁.heap.objs.size ≤ a → s₁.heap.get? a = none := fun a ha => Heap.get?_none_of_le ha
  have hkl : ks.length = b.size := by rw [← hb, KBw.ints_length]
  have loop : ∀ s₃ : Shared, s₃ = { s₁ with heap := h₁, toks := s₁.toks + ([] : List (Str × Value)).length } →
      codeAny (model prog w) A (.compLoop (.DictComp (.Name xc p1) (.Name xi p2) [⟨.Tuple [.Name xi p3, .Name xc p4] x1 p5, iter, [], 0⟩] scope pos) 0 (.ref e) (.ref s₁.heap.objs.size) (compEnvC scope cl H2.objs.size env))
        (compPost (model prog w) A E none Q (.ref s₁.heap.objs.size) H2.objs.size) s₃ := by
    rintro s₃ rfl
    refine compLoop_pairD
      (fun k s' => ∃ h' tk i old m' kvs, s' = { s₁ with heap := h', toks := tk } ∧ i ≤ b.size ∧ k = b.size + 1 - i ∧ IsEnum h' e it ((i : Nat) : Int) old ∧ IsBytesIter h' it b t i ∧ h'.Ns H2.objs.size m' ∧
        h'.DictOf (intKind prog w) s₁.heap.objs.size kvs ∧ MapIs (ks.take i) kvs ∧ (∀ b o, b ≠ e → b ≠ it → s₁.heap.get? b = some o → h'.get? b = some o)) ?_ (b.size + 1)
      ⟨h₁, _, 0, .none, _, [], rfl, Nat.zero_le _, rfl, he₁, hit₁, hns₁, hacc, by rw [List.take_zero]; exact mapIs_nil, fun b o _ _ x => old b o x⟩
    rintro k s' ⟨H, tk, i, od, m', kvs, rfl, hi, rfl, he', hit', hn', hd', hm', hk'⟩
    have heC : e ≠ H2.objs.size := (below e hle).1
    have hiC : it ≠ H2.objs.size := (below it hli).1
    have heD : e ≠ s₁.heap.objs.size := (below e hle).2
    have hiD : it ≠ s₁.heap.objs.size := (below it hli).2
    by_cases hlt : i < b.size
    · have hx : b[i]? = some b[i] := Array.getElem?_eq_getElem hlt
      have hk0 := KBw.ints_get hx
      rw [hb] at hk0
      refine pyNext_enumB he' hit' hx hne fun h₂ kt tk₂ ho hit₂ hT hk₂ => ?_
      obtain ⟨kt', hT⟩ := hT
      refine wpAny_letOwnedTupleGo_enum ho fun h₃ he₃ hs₃ => ?_
      have hHe : e < H.objs.size := Heap.lt_size he'
      have hHC : H2.objs.size < H.objs.size := hn'.lt
      have hTe : H.objs.size ≠ e := Nat.ne_of_gt hHe
      have k3 : ∀ b o, b ≠ e → b ≠ it → H.get? b = some o → h₃.get? b = some o := fun b o h1 h2 x => hs₃.extBut b o h1 (hk₂ b o h1 h2 x)
      have hT₃ : IsTup h₃ H.objs.size #[.int i kt', .int (b[i].toNat : Int) kt] := ⟨_, hs₃.extBut _ _ hTe hT, rfl, _, rfl⟩
      have hn₃ : h₃.Ns H2.objs.size m' := hn'.at' fun o x => k3 _ o (Ne.symm heC) (Ne.symm hiC) x
      refine assign_Tuple_tuple hh hT₃ rfl rfl fun h₅ hx5 => ?_
      have k5 : ∀ b o, h₃.get? b = some o → h₅.get? b = some o := fun b o x => hx5 b o (Nat.ne_of_lt (Heap.lt_size x)) x
      refine assignInOrder_cons (wpAny_assign_Name (wpAny_storeName_local (lookup_relabel_local hxi) (hn₃.at' fun o x => k5 _ o x) (fun h₆ hn₆ hs₆ => ?_) (by simp [compEnvC, relabel, hkind])))
      refine assignInOrder_cons (wpAny_assign_Name (wpAny_storeName_local (lookup_relabel_local hxc) hn₆ (fun h₇ hn₇ hs₇ => ?_) (by simp [compEnvC, relabel, hkind])))
      refine assignInOrder_nil ?_
      have k7 : ∀ b o, b ≠ H2.objs.size → h₃.get? b = some o → h₇.get? b = some o := fun b o hb x => hs₇.extBut b o hb (hs₆.extBut b o hb (k5 b o x))
      have hloc : ∀ (n : Str) (p : Pos) (v : Value) (Q' : Value → Shared → Prop) (E' : Value → Shared → Prop) (tk' : Nat), scope.names.lookup n = some .local → (n == ("__debug__" : Str)) = false →
          (if n = xc then some (Value.int (b[i].toNat : Int) kt) else if n = xi then some (.int i kt') else m' n) = some v → Q' v { s₁ with heap := h₇, toks := tk' } → wpAny (model prog w) A (eval (.Name n p) (compEnvC scope cl H2.objs.size env)) Q' E' { s₁ with heap := h₇, toks := tk' } :=
        fun n p v Q' E' tk' hl hdb hv hq => wpAny_Name (wpAny_loadName_local (by simp [compEnvC, relabel, hkind]) (lookup_relabel_local hl) hn₇ hv hq) hdb
      refine hloc xc p1 _ _ _ _ hxc hd2 (if_pos rfl) ?_
      refine hloc xi p2 _ _ _ _ hxi hd1 (by rw [if_neg hne', if_pos rfl]) ?_
      have hd₇ : h₇.DictOf (intKind prog w) s₁.heap.objs.size kvs := hd'.at fun o x => k7 _ o hDC (k3 _ o (Ne.symm heD) (Ne.symm hiD) x)
      have hkl2 : kvs.length ≤ 256 := by
        have h1 := congrArg List.length hm'.1
        rw [List.length_map, List.length_take] at h1
        omega
      refine wpAny_dictSet_pairs (hsz := by rw [sizeLine_eq]; omega) (intKind_is prog w _ _) hd₇ fun h₈ hd₈ hs₈ => ?_
      have hts : ks.take (i + 1) = ks.take i ++ [(b[i].toNat : Int)] := by simp [List.take_add_one, hk0]
      have htl : (ks.take i).length = i := by rw [List.length_take]; omega
      have hnot : (b[i].toNat : Int) ∉ ks.take i := by
        have : (ks.take (i + 1)).Nodup := hnd.sublist (List.take_sublist _ _)
        rw [hts] at this
        intro hmem
        exact (List.nodup_append.mp this).2.2 _ hmem _ (List.mem_singleton.mpr rfl) rfl
      refine ⟨b.size + 1 - (i + 1), by omega, h₈, _, i + 1, .int (b[i].toNat : Int) kt, _, _, rfl, hlt, rfl, ?_, ?_, hn₇.sameBut hs₈ (Ne.symm hDC), hd₈, ?_, ?_⟩
      · exact hs₈.extBut _ _ heD (k7 _ _ heC (by simpa using he₃))
      · exact biter_at hit₂ fun o x => hs₈.extBut _ _ hiD (k7 _ _ hiC (hs₃.extBut _ _ (Ne.symm hne) x))
      · rw [hts]
        have := mapIs_snoc (k := kt') hm' hnot
        rw [htl] at this
        exact this
      · intro a o h1 h2 x
        have hal := Heap.lt_size x
        exact hs₈.extBut _ _ (below a hal).2 (k7 _ _ (below a hal).1 (k3 a o h1 h2 (hk' a o h1 h2 x)))
    · obtain rfl : i = b.size := Nat.le_antisymm hi (Nat.not_lt.mp hlt)
      refine pyNext_enumB_end hh he' hit' (by simp) fun h₂ hx₂ => ?_
      rw [← hkl, List.take_length] at hm'
      refine ⟨m', hn'.extBut hx₂ (Ne.symm hiC), fun h₃ hs₃ => ?_⟩
      refine hQ _ h₃ tk kvs (fun a o h1 h2 x => hs₃.extBut a o (below a (Heap.lt_size x)).1 (hx₂ a o h2 (hk' a o h1 h2 x))) (Nat.le_refl _) ?_ hm'
      exact hd'.at fun o x => hs₃.extBut _ o hDC (hx₂ _ o (Ne.symm hiD) x)
  exact codeAny_compStart_dict (loop _ rfl) (wpAny_pyIter_enum he₁ (loop _ rfl))
end
end

/-- a new dict of octets and their places -/
def isMap (prog : Program) (w : World) (as : List Int) (g h : Heap) (r : Value) : Prop := ∃ d o kvs, r = .ref d ∧ h.get? d = some o ∧ g.get? d = none ∧ (d == sysModules) = false ∧ o.IsDictOf (intKind prog w) kvs ∧ MapIs as kvs
theorem end_map {prog : Program} {w : World} {g h' : Heap} {L d : Addr} {m : Str → Option Value} {s : Shared} {Q : Value → Shared → Prop} {tk' : Nat} {o : Obj} {news : List (Addr × Obj)} {as : List Int} {kvs : List (Int × Value)} (hret : ∀ r h' tk', g.StaysIn h' → isMap prog w as g h' r → Q r { s with heap := h', toks := tk' }) (F : Fr g L h' m) (N : News g L h' news) (hm : (d, o) ∈ news) (lo : (d == sysModules) = false) (hd : o.IsDictOf (intKind prog w) kvs) (hi : MapIs as kvs) : Q (.ref d) { s with heap := h', toks := tk' } :=
  hret _ _ _ F.keep ⟨d, o, kvs, rfl, (N _ hm).1, (N _ hm).2.2, lo, hd, hi⟩
theorem news_add {h₀ h h' : Heap} {L d : Addr} {m : Str → Option Value} {news : List (Addr × Obj)} {o : Obj} (F : Fr h₀ L h m) (N : News h₀ L h news) (st : h.StaysIn h') (hn : h.get? d = none) (hd : h'.get? d = some o) : News h₀ L h' ((d, o) :: news) := fun p hp => by
  rcases List.mem_cons.mp hp with rfl | hp
  · refine ⟨hd, fun e => ?_, ?_⟩
    · dsimp only at e
      obtain ⟨oL, _, _, hL, _⟩ := F.ns
      rw [e, hL] at hn; cases hn
    · show h₀.get? d = none
      cases q : h₀.get? d with
      | none => rfl
      | some o' => have := F.keep _ _ q; rw [hn] at this; cases this
  · exact news_stays N st p hp
theorem off1_of {D : Addr} : ∀ {l : List (Addr × Obj)}, (∀ p ∈ l, p.1 ≠ D) → LCg.Off1 D l
  | [], _ => trivial
  | p :: _, h => ⟨h p (.head _), off1_of fun q hq => h q (.tail _ hq)⟩
theorem news_ne {h₀ h : Heap} {L d : Addr} {news : List (Addr × Obj)} (N : News h₀ L h news) (hn : h.get? d = none) : LCg.Off1 d news := off1_of fun p hp e => by
  have := (N p hp).1; rw [e, hn] at this; cases this
section
variable {prog : Program} {w : World} {A : Around} {E : Value → Shared → Prop} {s : Shared} {h₀ : Heap} {L : Addr} {m : Str → Option Value} {news : List (Addr × Obj)} {b : Array UInt8} {t : Tok} {ks : List Int}
theorem enumSrc_K {Q : Value → Shared → Prop} (hbig : h₀.NoLimit) (F : Fr h₀ L s.heap m) (N : News h₀ L s.heap news) (hb : KBw.bInts b = ks)
    (hQ : ∀ D o h' tk kvs, Fr h₀ L h' m → News h₀ L h' ((D, o) :: news) → LCg.Off1 D news → (D == sysModules) = false → o.IsDictOf (intKind prog w) kvs → MapIs ks kvs → Q (.ref D) { s with heap := h', toks := tk }) :
    wpAny (model prog w) A (call (.type "enumerate") [.bytes b t]) (EnumSrc prog w ks Q) E s :=
  enumSrc_call hb fun D h' tk kvs st hn hup hd hm => by
    obtain ⟨o, ho, hdo⟩ := Heap.dictOf_iff.mp hd
    exact hQ D o h' tk kvs (F.keptAll st) (news_add F N st hn ho) (news_ne N hn) (beq_eq_false_iff_ne.mpr fun e => by
      obtain ⟨oL, _, _, hL, _⟩ := F.ns
      have h1 := hup _ _ hL
      have h2 := F.above
      have h3 := modules_low hbig
      rw [e] at h1
      exact Nat.lt_irrefl _ (Nat.lt_of_lt_of_le (Nat.lt_trans h1 h3) h2)) hdo hm
end
local macro_rules | `(tactic| walk_at "eval DictComp") => `(tactic| (k_here; k_dflt (refine' DictComp_enumB ?h1 ?h2 ?h3 ?h4 ?h5 ?h6 ?h7 ?h8 ?h9 ?h10 ?_; (case h1 => rfl); (case h2 => assumption); (case h3 => omega); (case h4 => with_unfolding_all rfl); (case h5 => decide); (case h6 => rfl); (case h7 => decide); (case h8 => rfl); (case h9 => rfl); (case h10 => decide))))
local macro_rules | `(tactic| walk_at "call type:enumerate") => `(tactic| (k_here; (with_reducible show wpAny _ _ (call (Value.type _) [Value.bytes _ _]) _ _ _); k_dflt (refine' enumSrc_K ?G ?F ?N ?b ?_; (case G => exact Top.nolimit (by k_asm)); (case F => k_asm); (case N => k_asm); (case b => kba_ints2)); intro D9 o9 h9 tk9 kvs9 F9 N9 ne9 lo9 hd9 hm9; (try simp only [LCg.Off1, and_true] at ne9); (try k_fold)))

section
set_option maxHeartbeats 8000000 in
theorem mapF (w : World) (al : Array UInt8) (as : List Int) (t : Tok) (hal : KBw.bInts al = as) (hl : as.length ≤ 59 ∧ 2 ≤ as.length) (hnd : as.Nodup) :
    CtrH 4 w 42 [.bytes al t] [(Str.ofString "autofix", .bool false)] (fun _ => True) (isMap PySem.Challenge.rw_ej5004_01.row.prog w as) := by
  k_with_none; w_top off
  dsimp only [CtrH]; k_fill
  intro mean mg mb dp un gd cn cs a0 ccd cl outer A₀ base h₀ L m s Q E BB F X T hcs hpre hd hu hret
  have hnil : IntsAre [] [] := .nil
  walk_at "MINE enterC"
  k_steps
  try dsimp only
  exact end_map hret (by k_asm) (by k_asm) (by k_mem) (by assumption) (by assumption) (by assumption)
end

section
variable {prog : Program} {w : World} {A : Around} {E : Value → Shared → Prop} {s : Shared} {h₀ : Heap} {L d : Addr} {m : Str → Option Value} {news : List (Addr × Obj)} {o : Obj} {kvs : List (Int × Value)} {as : List Int} {c : Int} {t : Tok}
theorem item_map {value slice : PySem.Expr} {Q : Value → Shared → Prop} (N : News h₀ L s.heap news) (hp : (d, o) ∈ news) (hd : o.IsDictOf (intKind prog w) kvs) (hm : MapIs as kvs) (hn : as.Nodup) (lo : (d == sysModules) = false) (hA : A.handled = none)
    (h1 : c ∈ as → ∀ u, Q (.int (as.idxOf c : Int) u) { s with toks := s.toks + 1 })
    (h2 : c ∉ as → ∀ h' e, Heap.NewExc s.heap h' e "KeyError" → E (.ref e) { s with heap := h', toks := s.toks + 1 })
    (hs : subscripted slice false (.ref d) (.int c t) = operate [.ref d, .int c t] (getItem (.ref d) (.int c t)) := by with_unfolding_all rfl) (hg : ∀ r, letTemporaryGo value (.ref d) r = pure () := by intro _; with_unfolding_all rfl) :
    wpAny (model prog w) A (subscriptTail value slice (.ref d) (.int c t)) Q E s := by
  have hD := kda_dict N hp hd
  by_cases hc : c ∈ as
  · have hlt : as.idxOf c < as.length := List.idxOf_lt_length_iff.mpr hc
    have hl : kvs.length = as.length := by rw [← hm.1, List.length_map]
    obtain ⟨k, hk⟩ := hm.2 (as.idxOf c) _ (List.getElem?_eq_getElem (by omega : as.idxOf c < kvs.length))
    have hf : kvs[as.idxOf c].1 = c := by
      have : (kvs.map (·.1))[as.idxOf c]'(by rw [List.length_map]; omega) = as[as.idxOf c] := by
        congr 1
        exact hm.1
      rw [List.getElem_map] at this
      rw [this]
      exact List.getElem_idxOf hlt
    have hv : valueAt kvs c = some (.int (as.idxOf c : Int) k) := by
      refine PySem.valueAt_of_get (by rw [hm.1]; exact hn) (i := as.idxOf c) ?_
      rw [List.getElem?_eq_getElem (by omega)]
      exact congrArg some (Prod.ext hf hk)
    exact subscriptTail_builtin hD.typeIs slot_dict_getitem.lookup (wpAny_getItem_of (intKind_is prog w c t) hD.mapOf hv (h1 hc k)) hs hg
  · have hv : valueAt kvs c = none := PyProof.Rows.valueAt_none_of_not_mem (by rw [hm.1]; exact hc)
    exact subscriptTail_builtin hD.typeIs slot_dict_getitem.lookup (wpAny_getItem_missing_of (intKind_is prog w c t) lo hA hD.mapOf hv (h2 hc)) hs hg
end
theorem use_ctrM {lev : Nat} {w : World} {f : Addr} {vs : List Value} {kw : List (Str × Value)} {pre : Heap → Prop} {as : List Int} (C : CtrH lev w f vs kw pre (isMap PySem.Challenge.rw_ej5004_01.row.prog w as))
    {mean : ExcName → Option Value} {mg mb : Str → Option Value} {dp un : Nat} {gd : Option (List Code)} {cn : Str} {cs : Scope} {a : Addr} {ccd : Value} {cl : List (Str × Addr)} {outer : List Env} {A₀ : Around} {base h₀ : Heap} {L : Addr} {m : Str → Option Value} {news : List (Addr × Obj)} {s : Shared} {Q E : Value → Shared → Prop}
    (B : Below A₀ base outer h₀) (F : Fr h₀ L s.heap m) (X : (hd.heap_39 w.params).In h₀) (N : News h₀ L s.heap news) (T : Top hd.view_39 LSN mean mg mb h₀) (hk : cs.kind = .function) (hp : pre base) (hd : dp + lev < recursionLimit) (hu : un + 10 * lev < cLine)
    (ret : ∀ d o kvs h' tk', Fr h₀ L h' m → News h₀ L h' ((d, o) :: news) → (d == sysModules) = false → o.IsDictOf (intKind PySem.Challenge.rw_ej5004_01.row.prog w) kvs → MapIs as kvs → Q (.ref d) { s with heap := h', toks := tk' }) :
    wpAny (model PySem.Challenge.rw_ej5004_01.row.prog w) (ktrTop dp un gd cn cs L a ccd cl outer) (call (.ref f) vs kw) Q E s := by
  refine C mean mg mb dp un gd cn cs a ccd cl outer A₀ base h₀ L m s Q E B F X T hk hp hd hu fun r h' tk' st hr => ?_
  obtain ⟨d, o, kvs, rfl, h1, h2, hne, h3, h4⟩ := hr
  refine ret d o kvs h' tk' (F.keptAll st) (fun p hp => ?_) hne h3 h4
  rcases List.mem_cons.mp hp with rfl | hp
  · refine ⟨h1, fun e => ?_, ?_⟩
    · dsimp only at e
      obtain ⟨oL, _, _, hL, _⟩ := F.ns
      rw [e, hL] at h2; cases h2
    · show h₀.get? d = none
      cases q : h₀.get? d with
      | none => rfl
      | some o' => have := F.keep _ _ q; rw [h2] at this; cases this
  · exact news_stays N st p hp
/-- what a def that catches asks of all that stood when the law began -/
structure Gnd (w : World) (mean : ExcName → Option Value) (mg mb : Str → Option Value) (base : Heap) (outer : List Env) (h₀ : Heap) : Prop where
  has : (hd.heap_39 w.params).In base
  top : Top hd.view_39 LSN mean mg mb base
  dicts : KtsDicts (outer.filterMap (·.frame)) h₀
/-- the contract of a def that may raise ValueError: R of the value where it comes back, X where it raises -/
abbrev CtrX (lev : Nat) (w : World) (f : Addr) (vs : List Value) (kw : List (Str × Value)) (R : Value → Prop) (X : Prop) : Prop :=
  ∀ (mean : ExcName → Option Value) (mg mb : Str → Option Value) (dp un : Nat) (gd : Option (List Code)) (cn : Str) (cs : Scope) (a : Addr) (ccd : Value) (cl : List (Str × Addr)) (outer : List Env) (A₀ : Around) (base h₀ : Heap) (L : Addr) (m : Str → Option Value) (s : Shared) (Q E : Value → Shared → Prop),
    Below A₀ base outer h₀ → Fr h₀ L s.heap m → (hd.heap_39 w.params).In h₀ → Top hd.view_39 LSN mean mg mb h₀ → Gnd w mean mg mb base outer h₀ → cs.kind = .function → dp + lev < recursionLimit → un + 10 * lev < cLine →
    (∀ r h' tk', s.heap.StaysIn h' → R r → Q r { s with heap := h', toks := tk' }) →
    (∀ e t h' tk' vs, X → RaisedS base s.heap (envX cn cs L a ccd cl :: outer) e (.type "ValueError") t vs [] h' → s.heap.UpToSlots h' → E (.ref e) { s with heap := h', toks := tk' }) →
    wpAny (model PySem.Challenge.rw_ej5004_01.row.prog w) (ktrTop dp un gd cn cs L a ccd cl outer) (call (.ref f) vs kw) Q E s
theorem use_ctrX {lev : Nat} {w : World} {f : Addr} {vs : List Value} {kw : List (Str × Value)} {R : Value → Prop} {X₉ : Prop} (C : CtrX lev w f vs kw R X₉)
    {mean : ExcName → Option Value} {mg mb : Str → Option Value} {dp un : Nat} {gd : Option (List Code)} {cn : Str} {cs : Scope} {a : Addr} {ccd : Value} {cl : List (Str × Addr)} {outer : List Env} {A₀ : Around} {base h₀ : Heap} {L : Addr} {m : Str → Option Value} {news : List (Addr × Obj)} {s : Shared} {Q E : Value → Shared → Prop}
    (B : Below A₀ base outer h₀) (F : Fr h₀ L s.heap m) (X : (hd.heap_39 w.params).In h₀) (N : News h₀ L s.heap news) (T : Top hd.view_39 LSN mean mg mb h₀) (G : Gnd w mean mg mb base outer h₀) (hk : cs.kind = .function) (hd : dp + lev < recursionLimit) (hu : un + 10 * lev < cLine)
    (ret : ∀ r h' tk', Fr h₀ L h' m → News h₀ L h' news → R r → Q r { s with heap := h', toks := tk' })
    (exc : ∀ e t h' tk' vs, X₉ → RaisedS base s.heap (envX cn cs L a ccd cl :: outer) e (.type "ValueError") t vs [] h' → s.heap.UpToSlots h' → E (.ref e) { s with heap := h', toks := tk' }) :
    wpAny (model PySem.Challenge.rw_ej5004_01.row.prog w) (ktrTop dp un gd cn cs L a ccd cl outer) (call (.ref f) vs kw) Q E s :=
  C mean mg mb dp un gd cn cs a ccd cl outer A₀ base h₀ L m s Q E B F X T G hk hd hu (fun r h' tk' st hr => ret r h' tk' (F.keptAll st) (news_stays N st) hr) exc
local macro_rules | `(tactic| walk_at "subscriptTail") => `(tactic| (k_here; (with_reducible show wpAny _ _ (subscriptTail _ _ (Value.ref _) (Value.int _ _)) _ _ _); k_dflt (refine' item_map ?N ?p ?d ?m ?n ?lo ?A ?_ ?_; (case N => k_asm); (case p => k_mem); (case d => assumption); (case m => assumption); (case n => assumption); (case lo => assumption); (case A => exact rfl)); walk_at "MINE item"))
local macro_rules | `(tactic| walk_at "MINE item") => `(tactic| ((intro hc9 u9); (try k_fold)))
local macro_rules | `(tactic| walk_at "call ref") => `(tactic| (k_here; (with_reducible show wpAny _ _ (call (Value.ref 42) [Value.bytes _ _] _) _ _ _); k_dflt (refine' use_ctrM (mapF _ _ _ _ ?v ?l ?n) ?B ?F ?X ?N ?T ?hk ?hp ?hd ?hu ?_; (case v => kba_ints2); (case l => assumption); (case n => assumption); walk_at "MINE sides"); (intro d9 o9 kvs9 h9 tk9 F9 N9 lo9 hd9 hm9); (try dsimp only); (try k_fold)))

section
/-- an exception on which none hangs -/
def NoCtx (e : Addr) (h : Heap) : Prop := ∃ oe vs, h.get? e = some oe ∧ oe.data = .fields vs ∧ vs[2]? = some .none
section
variable {M : Model} {A A' : Around} {E : Value → Shared → Prop} {s' : Shared} {base g h : Heap} {outer : List Env} {L a e : Addr} {m : Str → Option Value} {name : Str} {scope : Scope} {cd : Value} {Q : Unit → Shared → Prop}
theorem looks_new {oe : Obj} {vs : Array Value} {a0 : Value} (K : Below A base outer g) (hkeep : ∀ b o, h.get? b = some o → s'.heap.get? b = some o) (hnew : h.get? e = none) (he : s'.heap.get? e = some oe) (hd : oe.data = .fields vs) (h0 : vs[0]? = some a0) (h1 : vs[1]? = some .none)
    (F : Fr g L h m) (hk : scope.kind = .function) (hfr' : A'.frames = some (envOf name scope L a cd :: outer))
    (hQ : ∀ h' B, base.StaysIn B → (∀ b o, h.get? b = some o → b ∉ (envOf name scope L a cd :: outer).filterMap (·.frame) → B.get? b = some o) → (∀ b, h.get? b = none → B.get? b = none) →
      Heap.HeldW B (envOf name scope L a cd :: outer) e oe.cls a0 L h' → (∃ oe' T, h'.get? e = some oe' ∧ oe'.data = .fields (vs.setIfInBounds 1 T)) → s'.heap.UpToSlots h' → (∀ b o, b ≠ e → b ∉ (envOf name scope L a cd :: outer).filterMap (·.frame) → s'.heap.get? b = some o → h'.get? b = some o) → Q () { s' with heap := h' }) :
    wpAny M A' (noteFrame (.ref e) (envOf name scope L a cd)) Q E s' := by
  have K' := K.push (name := name) (a := a) (cd := cd) F hk
  have hin : ∀ env ∈ (envOf name scope L a cd :: outer), ∀ b, env.frame = some b → b ∈ (envOf name scope L a cd :: outer).filterMap (·.frame) := fun env he b hb => List.mem_filterMap.mpr ⟨env, he, hb⟩
  have st : base.StaysIn (hideAll h ((envOf name scope L a cd :: outer).filterMap (·.frame))) := fun b o q => hideAll_get _ (K'.stays b o q) fun hm => by
    rw [(K'.frames.mem hm).1] at q; cases q
  have sg : ∀ b o, h.get? b = some o → b ∉ (envOf name scope L a cd :: outer).filterMap (·.frame) → (hideAll h ((envOf name scope L a cd :: outer).filterMap (·.frame))).get? b = some o := fun b o q nm => hideAll_get _ q nm
  have sn : ∀ b, h.get? b = none → (hideAll h ((envOf name scope L a cd :: outer).filterMap (·.frame))).get? b = none := fun b q => by
    cases q' : (hideAll h ((envOf name scope L a cd :: outer).filterMap (·.frame))).get? b with
    | none => rfl
    | some o => have := of_hideAll _ q'; rw [q] at this; cases this
  have hl : s'.heap.FunFrames (hideAll h ((envOf name scope L a cd :: outer).filterMap (·.frame))) (envOf name scope L a cd :: outer) := (funFrames_hide K'.frames hin).of_keeps fun b o hb _ => ⟨o, hkeep b o hb, rfl⟩
  have hkb : (hideAll h ((envOf name scope L a cd :: outer).filterMap (·.frame))).StaysIn s'.heap := fun b o hb => hkeep b o (of_hideAll _ hb)
  generalize hideAll h ((envOf name scope L a cd :: outer).filterMap (·.frame)) = B at st sg sn hl hkb
  have hen := sn e hnew
  have hsz : 1 < vs.size := (Array.getElem?_eq_some_iff.mp h1).1
  have hene : e ∉ (envOf name scope L a cd :: outer).filterMap (·.frame) := fun hm => by
    obtain ⟨_, o, ho, hnf⟩ := hl.mem hm
    rw [he] at ho; injection ho with ho; subst ho; exact hnf vs hd
  unfold noteFrame
  simp only [show (envOf name scope L a cd).frame = some L from rfl]
  refine wpAny_bind (wpAny_field he hd h1 ?_)
  rw [if_neg (by decide)]
  refine wpAny_bind (wpAny_frameOf_fun hfr' hl rfl fun h₁ hs₁ => ?_)
  refine wpAny_bind (wpAny_entryPlaceOf fun pl hpl => ?_)
  unfold EntryCells.newEntry newFields
  refine wpAny_bind (wpAny_newObj_type ?_ (hpl.sizeOk5 _ _ _ _ _))
  have he₁ : h₁.get? e = some oe := (hs₁.2.1 e hene).trans he
  have hTe : h₁.objs.size ≠ e := Nat.ne_of_gt (Heap.lt_size he₁)
  have hTB : B.get? h₁.objs.size = none := by
    cases q : B.get? h₁.objs.size with
    | none => rfl
    | some o =>
      have nm : h₁.objs.size ∉ (envOf name scope L a cd :: outer).filterMap (·.frame) := fun hm => by rw [(hl.mem hm).1] at q; cases q
      have := (hs₁.2.1 _ nm).trans (hkb _ _ q)
      exact absurd (Heap.lt_size this) (Nat.lt_irrefl _)
  generalize hT : ({ cls := .type "traceback", dict := none, data := .fields ([Value.none, .ref L, .none, rawInt L, .none] ++ (if pl.isEmpty then List.replicate 6 Value.none else pl)).toArray } : Obj) = oT
  have hdT : ∃ ts, oT.data = .fields ts ∧ ts[3]? = some (rawInt L) := ⟨_, by rw [← hT], by simp⟩
  have hfT : oT.isFreed = false := by rw [← hT]; rfl
  have he₂ := Heap.get?_push_of_some (h := h₁) oT he₁
  refine wpAny_setField he₂ hd hsz ?_
  have hd₃ := Obj.data_mapFields hd (·.setIfInBounds 1 (Value.ref h₁.objs.size))
  have he₃ := Heap.get?_update_self (Obj.mapFields (·.setIfInBounds 1 (Value.ref h₁.objs.size))) he₂ (Obj.isFreed_of_fields hd₃)
  have keep : ∀ b o, b ≠ e → h₁.get? b = some o → ((h₁.push oT).update e (Obj.mapFields (·.setIfInBounds 1 (Value.ref h₁.objs.size)))).get? b = some o := fun b o hbe hb => by
    rw [Heap.get?_update_other _ _ (Ne.symm hbe)]
    exact Heap.get?_push_of_some _ hb
  have hT₃ : ((h₁.push oT).update e (Obj.mapFields (·.setIfInBounds 1 (Value.ref h₁.objs.size)))).get? h₁.objs.size = some oT := by
    rw [Heap.get?_update_other _ _ (Ne.symm hTe)]
    exact Heap.get?_push_size _ hfT
  obtain ⟨ts, hdT, h3⟩ := hdT
  have up : s'.heap.UpToSlots ((h₁.push oT).update e (Obj.mapFields (·.setIfInBounds 1 (Value.ref h₁.objs.size)))) := fun b o hb hnf => by
    obtain ⟨sl, hs⟩ := hs₁.2.2 b o hb
    exact ⟨sl, keep b _ (fun q => by rw [q, he] at hb; injection hb with hb; subst hb; exact hnf vs hd) hs⟩
  refine hQ _ B st sg sn ⟨fun b o hb => keep b o (fun q => by rw [q, hen] at hb; cases hb) ((hs₁.2.1 b fun hm => by rw [(hl.mem hm).1] at hb; cases hb).trans (hkb b o hb)), hen, hl.of_keeps fun b o hb hnf => ?_, ?_⟩ ⟨_, _, he₃, hd₃⟩ up fun b o hbe hbf hb => keep b o hbe ((hs₁.2.1 b hbf).trans hb)
  · obtain ⟨sl, hs⟩ := up b o hb hnf
    exact ⟨_, hs, rfl⟩
  · exact ⟨_, _, h₁.objs.size, oT, ts, he₃, ⟨Obj.cls_mapFields _ _, by rw [Array.getElem?_setIfInBounds_ne (by decide)]; exact h0⟩, hd₃, by simp [hsz], hTB, hTe, hT₃, hdT, h3⟩
theorem lands2 {B : Heap} {l : List Env} {cls a0 fl : Value} {s : Shared} (fr : Option Addr) (k1 : B.StaysIn s.heap) (k3 : s.heap.FunFrames B l) (k4 : s.heap.TracedAtW B e cls a0 fl)
    (hQ : ∀ h', B.StaysIn h' → h'.FunFrames B l → h'.TracedAtW B e cls a0 (fr.elim .none fun f => rawInt f) → h'.get? e = s.heap.get? e → s.heap.UpToSlots h' → Q () { s with heap := h' }) : wpAny M A (setFlight (.ref e) fr) Q E s := by
  obtain ⟨oe, vs, T, oT, ts, he, hcls, hd, h1, hnT, hTe, hT, hdT, h3⟩ := k4
  have hsz3 : 3 < ts.size := (Array.getElem?_eq_some_iff.mp h3).1
  unfold setFlight
  refine wpAny_bind (wpAny_field he hd h1 ?_)
  rw [if_pos (show (Value.ref T != Value.none) = true from by simp)]
  have other : ∀ b, b ≠ T → (s.heap.update T (Obj.mapFields (·.setIfInBounds 3 (fr.elim Value.none fun f => rawInt f)))).get? b = s.heap.get? b :=
    fun b hb => Heap.get?_update_other _ _ (Ne.symm hb)
  have noRecord : ∀ b o, s.heap.get? b = some o → (∀ vs, o.data ≠ .fields vs) → b ≠ T := fun b o hb hnf q => by
    rw [q, hT] at hb; injection hb with hb; subst hb; exact hnf ts hdT
  refine wpAny_setField hT hdT hsz3 (hQ _ (fun b o hbo => (other b fun q => by rw [q, hnT] at hbo; cases hbo).trans (k1 b o hbo))
    (k3.of_keeps fun b o hb hnf => ⟨o, (other b (noRecord b o hb hnf)).trans hb, rfl⟩) ?_ (other e (Ne.symm hTe)) fun b o hb hnf => ⟨o.slots, (other b (noRecord b o hb hnf)).trans hb⟩)
  exact ⟨oe, vs, T, _, _, (other e (Ne.symm hTe)).trans he, hcls, hd, h1, hnT, hTe, Heap.get?_update_self _ hT (Obj.isFreed_of_fields (Obj.data_mapFields hdT _)), Obj.data_mapFields hdT _, by simp [hsz3]⟩
end
end

section
theorem entry_unchain : entryFor table "proto.unchain" = some Builtin.«proto.unchain» := entryFor_of_fast (by kernel_rfl)
section
variable {prog : Program} {w : World} {A : Around} {E : Value → Shared → Prop} {s : Shared} {env : Env}
theorem unchain_first {x : Value} {eK : Addr} {sl : Value} {Q : Value → Shared → Prop} (hc : NoCtx eK s.heap) (h : ∀ r, Q r s) :
    wpAny (model prog w) A (runValue (.builtin "proto.unchain" ⟨[x, .ref eK, sl, .bool false], []⟩)) Q E s := by
  obtain ⟨oe, vs, he, hd, h2⟩ := hc
  refine wpAny_runValue (codeAny_builtin entry_unchain ?_)
  unfold Builtin.«proto.unchain»
  refine wpAny_bind (wpAny_field he hd h2 ?_)
  rw [if_pos (by decide)]
  first
  | (refine wpAny_pure ?_; exact h _)
  | (refine wpAny_bind (wpAny_pure ?_); refine wpAny_pure ?_; exact h _)
set_option maxHeartbeats 4000000 in
/-- `raise ValueError() from None` where an exception is handled on which none hangs -/
theorem raise_over {eK : Addr} {np cpos pos cp : Pos} {ck : Nat} {Q : Flow → Shared → Prop} (hA : A.handled = some (.ref eK)) (hc : NoCtx eK s.heap)
    (hn : wpAny (model prog w) A (eval (.Name (Str.ofString "ValueError") np) env) (fun f s₁ => f = .type "ValueError" ∧ s₁ = s) E s)
    (hE : ∀ h' e t, (∀ b o, s.heap.get? b = some o → h'.get? b = some o) → s.heap.get? e = none → s.heap.get? t = none → h'.TupAt t [] → (∃ oe vs, h'.get? e = some oe ∧ oe.cls = .type "ValueError" ∧ oe.data = .fields vs ∧ vs[0]? = some (.ref t) ∧ vs[1]? = some .none) → E (.ref e) { s with heap := h' }) :
    wpAny (model prog w) A (exec (.Raise (some (.Call (.Name (Str.ofString "ValueError") np) [] [] cpos)) (some (.Constant Const.none ck cp)) pos) env) Q E s := by
  rw [arm_exec_Raise]
  simp only [evalOpt, Option.map]
  refine wpAny_bind (wpAny_standAt ?_)
  unfold raiseStmt
  refine wpAny_bind (wpAny_bind (wpAny_mono (Q := fun v s₁ => ∃ h' e, v = .ref e ∧ Heap.MadeExc s.heap h' e "ValueError" [] ∧ s₁ = { s with heap := h' }) (wpAny_Call_ofName (wpAny_mono hn (fun f s₁ h₁ => ?_) fun _ _ x => x)) (fun v s₁ h₁ => wpAny_bind (wpAny_standAt (wpAny_pure ?_))) fun _ _ x => x))
  · obtain ⟨rfl, rfl⟩ := h₁
    refine callWith_excType rfl ?_
    refine wpAny_mono (Q := fun a s₂ => a.pos = [] ∧ a.kw = [] ∧ s₂ = s₁) (E := fun _ _ => False) ?_ (fun a s₂ h₂ => ?_) fun _ _ x => x.elim
    · show wpAny _ _ (evalArgs _ true (backTo cpos []) []) _ _ _
      exact PyProof.Rows.evalArgs_none ⟨rfl, rfl, rfl⟩
    · obtain ⟨ap, ak⟩ := a
      obtain ⟨h1, h2, h3⟩ := h₂
      dsimp only at h1 h2
      subst h1 h2 h3
      obtain ⟨hp, g, d, tk, os⟩ := s₂
      exact wpAny_call_exc PySem.F.excCall_ValueError fun h' e hm => ⟨h', e, rfl, hm, rfl⟩
  obtain ⟨h', e, rfl, hm, rfl⟩ := h₁
  obtain ⟨t, ht, htn, htup⟩ := hm.there
  obtain ⟨hp, g, d, tk, os⟩ := s
  dsimp only at hm hE hc ht htn htup ⊢
  have hsub := PySem.F.excRaise_ValueError.isExc
  have hmeta := PySem.F.excRaise_ValueError.plainMeta
  refine wpAny_bind ?_
  refine wpAny_holding ?_
  refine wpAny_bind ?_
  rw [arm_eval_Constant]
  show wpAny _ _ (pure Value.none) _ _ _
  refine wpAny_pure ?_
  refine wpAny_bind (wpAny_standAt ?_)
  refine wpAny_pure ?_
  refine wpAny_bind (wpAny_pure ?_)
  refine wpAny_bind ?_
  refine wpAny_holding ?_
  unfold excFromValue
  repeat (first | refine wpAny_loadPart ht ?_ | wp_step)
  obtain ⟨oK, vK, hK, hKd, hK2⟩ := hc
  have hKe : eK ≠ e := fun q => by
    have := hm.new
    rw [← q, hK] at this
    cases this
  have hte : t ≠ e := fun q => by
    rw [q, ht] at htup
    have := congrArg Obj.data (Option.some.inj htup)
    cases this
  have d0 : ({ cls := .type "ValueError", data := Data.fields #[Value.ref t, Value.none, Value.none, Value.none, Value.bool false, Value.none] } : Obj).data = .fields _ := rfl
  have d1 := Obj.data_mapFields d0 (·.setIfInBounds 3 Value.none)
  have g1 := Heap.get?_update_self (Obj.mapFields (·.setIfInBounds 3 Value.none)) ht (Obj.isFreed_of_fields d1)
  have d2 := Obj.data_mapFields d1 (·.setIfInBounds 4 (Value.bool true))
  have g2 := Heap.get?_update_self (Obj.mapFields (·.setIfInBounds 4 (Value.bool true))) g1 (Obj.isFreed_of_fields d2)
  have d3 := Obj.data_mapFields d2 (·.setIfInBounds 2 (Value.ref eK))
  have g3 := Heap.get?_update_self (Obj.mapFields (·.setIfInBounds 2 (Value.ref eK))) g2 (Obj.isFreed_of_fields d3)
  have other : ∀ b o, b ≠ e → h'.get? b = some o → ((h'.update e (Obj.mapFields (·.setIfInBounds 3 Value.none))).update e (Obj.mapFields (·.setIfInBounds 4 (Value.bool true)))).get? b = some o := fun b o hb ho => by
    rw [Heap.get?_update_other _ _ (Ne.symm hb), Heap.get?_update_other _ _ (Ne.symm hb)]; exact ho
  unfold raiseNew
  refine wpAny_bind (wpAny_handled ?_)
  rw [hA]
  dsimp only
  rw [if_pos (show (Value.ref eK != Value.ref e) = true from by simp [hKe])]
  refine wpAny_bind ?_
  refine wpAny_holding ?_
  refine unchain_first ⟨oK, vK, other _ _ hKe (hm.keeps _ _ hK), hKd, hK2⟩ fun r => ?_
  refine wpAny_bind ?_
  show wpAny _ _ (setField (.ref e) 2 (.ref eK)) _ _ _
  refine wpAny_setField g2 d2 (by simp) ?_
  refine wpAny_throw ?_
  refine hE _ e t (fun b o hb => ?_) hm.new htn ⟨_, _, (Heap.get?_update_other _ _ (Ne.symm hte)).trans (other _ _ hte htup), rfl, rfl⟩ ⟨_, _, g3, ?_, d3, ?_, ?_⟩
  · have hbe : b ≠ e := fun q => by
      have := hm.new
      rw [← q, hb] at this
      cases this
    exact (Heap.get?_update_other _ _ (Ne.symm hbe)).trans (other _ _ hbe (hm.keeps _ _ hb))
  · rw [Obj.cls_mapFields, Obj.cls_mapFields, Obj.cls_mapFields]
  · simp
  · simp
end
end

section
theorem funFrames_same {B : Heap} {L : Addr} {h h' : Heap} (k : ∀ b o, b ≠ L → h.get? b = some o → h'.get? b = some o) (hL : ∃ o, h'.get? L = some o ∧ ∀ vs, o.data ≠ .fields vs) : ∀ {l : List Env}, h.FunFrames B l → h'.FunFrames B l
  | [], _ => trivial
  | _ :: _, ⟨hk, ⟨L', o, hf, hn, ho, hd⟩, hr⟩ => by
    refine ⟨hk, ?_, funFrames_same k hL hr⟩
    by_cases q : L' = L
    · obtain ⟨o', ho', hd'⟩ := hL
      exact ⟨L', o', hf, hn, by rw [q]; exact ho', hd'⟩
    · exact ⟨L', o, hf, hn, k L' o q ho, hd⟩
section
variable {prog : Program} {w : World} {A₀ : Around} {E : Value → Shared → Prop} {s' : Shared} {base g h : Heap} {outer : List Env} {L a e : Addr} {m : Str → Option Value} {name : Str} {scope : Scope} {cd : Value}
  {n : Str} {pos np cpos vpos rpos cp : Pos} {ck : Nat} {rest : List ExceptHandler} {Q : Flow → Shared → Prop} {KF : Frag} {p : Program} {loose : List Str} {mean : ExcName → Option Value} {mg mb : Str → Option Value}
theorem noCtx_of {h h' : Heap} {vs : Array Value} {oe : Obj} {T : Value} (he : h.get? e = some oe) (hd : oe.data = .fields (vs.setIfInBounds 1 T)) (h2 : vs[2]? = some .none) (k : h'.get? e = h.get? e) : NoCtx e h' :=
  ⟨oe, _, by rw [k]; exact he, hd, by rw [Array.getElem?_setIfInBounds_ne (by decide)]; exact h2⟩
set_option maxHeartbeats 1000000 in
theorem caught_over (K : Below A₀ base outer g) (hx : Heap.NewExc h s'.heap e "KeyError") (F : Fr g L h m) (XB : KF.In base) (TB : Top p loose mean mg mb base)
    (ex1 : nsIn KF mainGlobals (Str.ofString "KeyError") = some none) (ex2 : nsIn KF mainGlobals (Str.ofString "ValueError") = some none)
    (hE : ∀ h' x B t tk, base.StaysIn B → (∀ b o, g.get? b = some o → b ∉ outer.filterMap (·.frame) → B.get? b = some o) → B.get? t = none → Heap.HeldW B (envOf name scope L a cd :: outer) x (.type "ValueError") (.ref t) L h' → h'.TupAt t [] → g.UpToSlots h' →
      E (.ref x) { s' with heap := h', toks := tk })
    (hk : scope.kind = .function := by rfl) (hlo : (envOf name scope L a cd).kindOf n = some .local := by rfl) (hx1 : (envOf name scope L a cd).kindOf (Str.ofString "KeyError") = some .globalImplicit := by rfl) (hx2 : (envOf name scope L a cd).kindOf (Str.ofString "ValueError") = some .globalImplicit := by rfl)
    (hp : ((envOf name scope L a cd).scope.kind == .class || ((envOf name scope L a cd).scope.kind == .module && (envOf name scope L a cd).locals != (envOf name scope L a cd).globals)) = false := by rfl) :
    wpAny (model prog w) (A₀.deeper (envOf name scope L a cd)) (noteFrame (.ref e) (envOf name scope L a cd))
      (fun _ s₂ => wpAny (model prog w) (A₀.deeper (envOf name scope L a cd)) (setFlight (.ref e) none) (fun _ s₃ =>
        wpAny (model prog w) (A₀.deeper (envOf name scope L a cd)) (handleBy (.ref e) (envOf name scope L a cd)
          (.ExceptHandler (some (.Name (Str.ofString "KeyError") np)) (some n) [.Raise (some (.Call (.Name (Str.ofString "ValueError") vpos) [] [] cpos)) (some (.Constant Const.none ck cp)) rpos] pos :: rest)) Q E s₃) E s₂) E s' := by
  have hfr : (A₀.deeper (envOf name scope L a cd)).frames = some (envOf name scope L a cd :: outer) := Around.frames_deeper K.stack
  obtain ⟨ob, tp, he, hcls, hd⟩ := hx.there
  refine looks_new K hx.keeps hx.new he hd rfl rfl F hk hfr fun h₄ B₁ b1 b2 b3 hheld hctx up₄ _ => ?_
  rw [hcls] at hheld
  obtain ⟨oe, T, he₄, hd₄⟩ := hctx
  have up0 : h.UpToSlots h₄ := (Heap.UpToSlots.of_keeps hx.keeps).trans up₄
  refine lands2 none hheld.1 hheld.2.2.1 hheld.2.2.2 fun h₅ f1 f3 f4 k5 up₅ => ?_
  have up1 := up0.trans up₅
  obtain ⟨g₅, T₅, F₅, K₅⟩ := kts_ground K F b2 f1 up1
  obtain ⟨ob₅, hob₅, hobc₅⟩ := f4.there
  refine wpAny_handleBy_builtin_as (X := "KeyError") (T := "KeyError") (b := true) kr_isExc_KeyError kr_notTuple_KeyError (by kts_sub)
    (name_B F₅ (XB.keeps K₅.stays) (topRead_of (TB.keeps K₅.stays)) ex1 PyProof.Rows.Boot.«KeyError» (by decide) ⟨rfl, ⟨ob₅, hob₅, hobc₅⟩, ?_⟩ hk hx1 (by decide))
  rw [if_pos rfl]
  refine lands2 none f1 f3 f4 fun h₆ p1 p3 p4 k6 up₆ => ?_
  have up2 := up1.trans up₆
  obtain ⟨g₆, T₆, F₆, K₆⟩ := kts_ground K F b2 p1 up2
  have ne₆ : g₆.get? e = none := T₆.none_ _ (kts_none F.keep hx.new)
  have he₆ : h₆.get? e = some oe := by rw [k6, k5]; exact he₄
  have N₆ := News.more F₆ News.nil he₆ (fun es n q => by rw [hd₄] at q; cases q) ne₆
  refine stN F₆ N₆ (fun h₇ F₇ N₇ => ?_) hk hlo
  refine wpAny_execs_cons (raise_over (eK := e) rfl ⟨oe, _, (N₇ _ (.head _)).1, hd₄, by simp⟩
    (name_B F₇ (XB.keeps K₆.stays) (topRead_of (TB.keeps K₆.stays)) ex2 PyProof.Rows.Boot.«ValueError» (by decide) ⟨rfl, rfl⟩ hk hx2 (by decide)) ?_)
  rintro h₈ x t keep₈ new₈ newt tup₈ ⟨ox, vx, hx₈, hcx, hdx, hv0, hv1⟩
  refine looks_new K₆ keep₈ new₈ hx₈ hdx hv0 hv1 F₇ hk hfr fun h₉ B₂ c1 c2 c3 hheld₂ _ up₉ _ => ?_
  rw [hcx] at hheld₂
  have tup₉ : h₉.TupAt t [] := Heap.TupAt.of_slots tup₈ up₉
  have up₇₉ : h₇.UpToSlots h₉ := (Heap.UpToSlots.of_keeps keep₈).trans up₉
  have ns₉ := up₇₉.ns F₇.ns
  refine wpAny_nameGoes hlo ns₉ hp fun h₁₀ m₁₀ ns₁₀ sb => ?_
  have sb' : ∀ b o, b ≠ L → h₉.get? b = some o → h₁₀.get? b = some o := fun b o hb ho => (sb.2 b hb).trans ho
  obtain ⟨q1, q2, q3, q4⟩ := hheld₂
  have hBL : B₂.get? L = none := by
    obtain ⟨_, ⟨L', _, hf, hn', _⟩, _⟩ := q3
    obtain rfl : L = L' := Option.some.inj hf
    exact hn'
  have hdL : ∀ o, h₉.get? L = some o → ∀ vs, o.data ≠ .fields vs := fun o ho vs q => by
    obtain ⟨oL, es, ep, hL, hLd, _⟩ := ns₉
    rw [ho] at hL
    cases hL
    rw [hLd] at q
    cases q
  have r1 : B₂.StaysIn h₁₀ := fun b o hb => sb' b o (fun q => by rw [q, hBL] at hb; cases hb) (q1 b o hb)
  have r3 : h₁₀.FunFrames B₂ (envOf name scope L a cd :: outer) := funFrames_same sb' (by
    obtain ⟨oL, es, ep, hL, hLd, _⟩ := ns₁₀
    exact ⟨oL, hL, fun vs q => by rw [hLd] at q; cases q⟩) q3
  have r4 : h₁₀.TracedAtW B₂ x (.type "ValueError") (.ref t) (rawInt L) := by
    obtain ⟨ox', vs', T', oT', ts', z1, z2, z3, z4, z5, z6, z7, z8, z9⟩ := q4
    exact ⟨ox', vs', T', oT', ts', sb' _ _ (fun q => hdL _ (by rw [← q]; exact z1) _ z3) z1, z2, z3, z4, z5, z6, sb' _ _ (fun q => hdL _ (by rw [← q]; exact z7) _ z8) z7, z8, z9⟩
  have tup₁₀ : h₁₀.TupAt t [] := by
    obtain ⟨o, k, ho, hc, hd⟩ := tup₉
    refine ⟨o, k, sb' _ _ (fun q => ?_) ho, hc, hd⟩
    obtain ⟨oL, es, ep, hL, hLd, _⟩ := ns₉
    rw [← q, ho] at hL
    cases hL
    rw [hLd] at hd
    cases hd
  have gL : g.get? L = none := kts_self F
  have up₁₀ : g.UpToSlots h₁₀ := fun b o hb hn => by
    obtain ⟨sl, hs⟩ := T₆.up hb
    obtain ⟨sl', hs'⟩ := up₇₉ b _ (F₇.keep _ _ hs) hn
    exact ⟨sl', sb' _ _ (fun q => by rw [q, gL] at hb; cases hb) hs'⟩
  have bg : ∀ b o, g.get? b = some o → b ∉ outer.filterMap (·.frame) → B₂.get? b = some o := fun b o hb nm =>
    c2 b o (F₇.keep _ _ (T₆.other b o hb nm)) fun hm => by
      rcases kts_mem hm with z | z
      · rw [z, gL] at hb; cases hb
      · exact nm z
  have fieldT : ∀ (hh : Heap) (fl : Value), hh.TracedAtW B₂ x (.type "ValueError") (.ref t) fl → ∃ o vs T', hh.get? x = some o ∧ o.data = .fields vs ∧ vs[1]? = some (.ref T') := fun hh fl z => by
    obtain ⟨ox', vs', T', oT', ts', z1, z2, z3, z4, z5⟩ := z
    exact ⟨ox', vs', T', z1, z3, z4⟩
  unfold PySem.passOn
  obtain ⟨o1, v1, T1, y1, y2, y3⟩ := fieldT _ _ r4
  refine wpAny_bind (wpAny_field y1 y2 y3 ?_)
  rw [if_neg (show ¬ ((Value.ref T1 == Value.none) = true) from by simp)]
  refine wpAny_bind ?_
  refine lands2 (some L) r1 r3 r4 fun h₁₁ u1 u3 u4 _ up₁₁ => ?_
  refine wpAny_throw ?_
  show wpAny _ _ (noteFrame _ _) _ _ _
  refine wpAny_noteFrame_againW rfl u4 ?_
  obtain ⟨o2, v2, T2, y4, y5, y6⟩ := fieldT _ _ u4
  show wpAny _ _ _ _ _ _
  refine wpAny_bind (wpAny_field y4 y5 y6 ?_)
  rw [if_neg (show ¬ ((Value.ref T2 == Value.none) = true) from by simp)]
  refine lands2 (some L) u1 u3 u4 fun h₁₂ w1 w3 w4 _ up₁₂ => ?_
  exact hE h₁₂ x B₂ t _ c1 bg (c3 t newt) ⟨w1, q2, w3, w4⟩ ((tup₁₀.of_slots up₁₁).of_slots up₁₂) ((up₁₀.trans up₁₁).trans up₁₂)
/-- out of a def with an exception that is still held there -/
theorem leave_held {s₁ : Shared} {x t : Addr} {B : Heap} {Q₁ : Unit → Shared → Prop} {g₁ : Heap} {l : List Env} (c1 : base.StaysIn B) (bg : ∀ b o, g₁.get? b = some o → b ∉ l.filterMap (·.frame) → B.get? b = some o) (ht : B.get? t = none)
    (hh : Heap.HeldW B (envOf name scope L a cd :: l) x (.type "ValueError") (.ref t) L s₁.heap) (tup : s₁.heap.TupAt t []) (up : g₁.UpToSlots s₁.heap)
    (hQ : ∀ h' t vs, RaisedS base g₁ l x (.type "ValueError") t vs [] h' → g₁.UpToSlots h' → Q₁ () { s₁ with heap := h' }) :
    wpAny (model prog w) (A₀.deeper (envOf name scope L a cd)) (leaving (envOf name scope L a cd) (.ref x)) Q₁ E s₁ := by
  unfold leaving
  refine wpAny_bind (wpAny_noteFrame_againW rfl hh.2.2.2 ?_)
  refine lands2 none hh.1 hh.2.2.1 hh.2.2.2 fun h' k1 k3 k4 _ up' => ?_
  obtain ⟨_, _, k3'⟩ := k3
  exact hQ h' t [] ⟨⟨B, c1, bg, (fun q hq => by cases hq), ⟨k1, hh.2.1, k3', k4⟩, ht⟩, tup.of_slots up'⟩ (up.trans up')
end
end

section
def decV (as ks : List Int) : Int := ks.foldl (fun a k => a * as.length + (as.idxOf k : Int)) 0
def decI (as : List Int) (pre : List Int) (c : Int) : Prop := (∀ k ∈ pre, k ∈ as) ∧ c = decV as pre
theorem dec_start (as : List Int) : decI as [] 0 := by
  refine ⟨?_, rfl⟩
  simp
theorem dec_turn {as pre : List Int} {k c : Int} (h : decI as pre c) (hk : k ∈ as) : decI as (pre ++ [k]) (c * as.length + (as.idxOf k : Int)) := by
  refine ⟨fun x hx => ?_, by rw [h.2]; simp [decV]⟩
  rcases List.mem_append.mp hx with hx | hx
  · exact h.1 x hx
  · rw [List.mem_singleton.mp hx]; exact hk
def isDecI (as ks : List Int) (r : Value) : Prop := (∀ k ∈ ks, k ∈ as) ∧ isInt (decV as ks) r
set_option maxHeartbeats 8000000 in
theorem decInt (w : World) (v al : Array UInt8) (ks as : List Int) (t t2 : Tok) (hv : KBw.bInts v = ks) (hal : KBw.bInts al = as) (hl : as.length ≤ 59 ∧ 2 ≤ as.length) (hnd : as.Nodup) (hkl : ks.length ≤ 300) (hsp : ∀ k ∈ as, k ≠ 32) :
    CtrX 8 w 51 [.bytes v t, .bytes al t2] [] (isDecI as (rstripI ks)) (¬ ∀ k ∈ rstripI ks, k ∈ as) := by
  k_with_none; w_top off
  dsimp only [CtrX]; k_fill
  intro mean mg mb dp un gd cn cs a0 ccd cl outer A₀ base h₀ L m s Q E BB F X T G hcs hd hu hret hexc
  have hnil : IntsAre [] [] := .nil
  walk_at "MINE enter"
  (k_with "pyIter bytes" => k_state (fun pre c => decI as pre c) "decimal")
  (k_with "state" => first | exact dec_start _ | exact dec_turn (by assumption) (by assumption))
  k_steps
  · refine caught_over (by assumption) (by assumption) (by assumption) G.has G.top (by k_is) (by k_is) (fun h' x B₂ t tk c1 bg ht hh tup up => ?_)
    show wpAny _ _ (leaving _ _) _ _ _
    refine leave_held c1 bg ht hh tup up fun h'' t vs R up' => ?_
    refine hexc _ _ _ _ _ (fun hall => ?_) R up'
    have hk9 : kN ∈ rstripI ks := by rw [kEq]; simp
    exact absurd (hall _ hk9) (by assumption)
  · try dsimp only
    have hfin : decI as (rstripI ks) _ := kInv
    exact hret _ _ _ (Fr.keep (by k_asm)) ⟨hfin.1, _, by rw [hfin.2]⟩
end

theorem rstripI_mem {ks : List Int} {k : Int} (h : k ∈ rstripI ks) : k ∈ ks := by
  unfold rstripI at h
  exact List.mem_reverse.mp ((List.dropWhile_sublist _).subset (List.mem_reverse.mp h))
theorem rstrip_ok {ks : List Int} (hx : ∀ k ∈ ks, k < 128 ∧ ¬ (28 ≤ k ∧ k ≤ 31)) : ∀ k ∈ rstripI ks, k < 128 := fun k hk => (hx k (rstripI_mem hk)).1
set_option maxHeartbeats 8000000 in
theorem scrubS (w : World) (x : Str) (ks : List Int) (t : Tok) (hx : cInts x = ks) (hk : ∀ k ∈ ks, k < 128) (hl : ks.length ≤ 400) :
    CtrV 4 w 21 [.str x t] [] (fun _ => True) (isBts ks) := by
  k_with_none; w_top off
  dsimp only [CtrV, CtrH]; k_fill
  intro mean mg mb dp un gd cn cs a0 ccd cl outer A₀ base h₀ L m s Q E B F X T hcs hpre hd hu hret
  walk_at "MINE enter"
  k_steps
  all_goals exact end_bts hret (by k_asm) (by assumption) rfl
local macro_rules | `(tactic| walk_at "call ref") => `(tactic| (k_here; (with_reducible show wpAny _ _ (call (Value.ref 21) [Value.str _ _] _) _ _ _); k_dflt (refine' use_ctr (scrubS _ _ _ _ ?v ?k ?l) ?B ?F ?X ?N ?T ?hk ?hp ?hd ?hu ?_; (case v => assumption); (case k => first | exact rstrip_ok (by assumption) | assumption); (case l => omega); walk_at "MINE sides"); walk_at "MINE bts"))

section
theorem lri_no_bytes : typeLookup (.type "list_reverseiterator") "__bytes__" = pure none := by rw [typeLookup_type, builtinLookup_eq_fast]; kernel_rfl
theorem lri_no_index : typeLookup (.type "list_reverseiterator") "__index__" = pure none := by rw [typeLookup_type, builtinLookup_eq_fast]; kernel_rfl
theorem lri_no_buffer : typeLookup (.type "list_reverseiterator") "__buffer__" = pure none := by rw [typeLookup_type, builtinLookup_eq_fast]; kernel_rfl
theorem lri_no_len : typeLookup (.type "list_reverseiterator") "__len__" = pure none := by rw [typeLookup_type, builtinLookup_eq_fast]; kernel_rfl
theorem lri_hint : typeLookup (.type "list_reverseiterator") "__length_hint__" = pure (some (.builtin "list_reverseiterator.__length_hint__")) := by rw [typeLookup_type, builtinLookup_eq_fast]; kernel_rfl
theorem lri_split : splitId "list_reverseiterator.__length_hint__" = some ("list_reverseiterator", "__length_hint__") := by decide +kernel
theorem lri_sub : isSubtype (.type "list_reverseiterator") (.type "list_reverseiterator") = pure true := by rw [isSubtype_type]; kernel_rfl
section
variable {prog : Program} {w : World} {A : Around} {E : Value → Shared → Prop} {s : Shared}
theorem rev_loop {R : Result → Shared → Prop} {l I S : Addr} {vs : List Value} {ns : List Int} (hh : A.handled = none) (hi : IntsAre vs ns) (hr : ∀ n ∈ ns, 0 ≤ n ∧ n < 256) (hz : ns.length ≤ sizeLine) (hIS : I ≠ S) (hlI : l ≠ I) (hlS : l ≠ S) :
    ∀ (k i : Nat) (s : Shared), ns.length - i = k → i ≤ ns.length → s.heap.IsList l vs.toArray → s.heap.IsRevIter I l ((ns.length : Int) - 1 - i) → s.heap.get? S = some { cls := .type "bytearray", data := .bytearray (byteArr (ns.reverse.take i)) } →
      (∀ h' t k', (∀ b o, b ≠ I → b ≠ S → s.heap.get? b = some o → h'.get? b = some o) → R (.ok (.ret (.bytes (byteArr ns.reverse) t))) { s with heap := h', toks := k' }) →
      codeAny (model prog w) A (.builtin "bytes.__new__.loop" ⟨[.type "bytes", .ref I, .ref S], []⟩) R s := by
  have hlen : vs.length = ns.length := hi.length
  have hrl : ns.reverse.length = ns.length := List.length_reverse
  intro k
  induction k with
  | zero =>
    intro i s hk hle hl hit hS hR
    have hin : i = ns.length := by omega
    subst hin
    rw [show (ns.length : Int) - 1 - ns.length = -1 by omega] at hit
    refine codeAny_builtin F.bm_entry_loop ?_
    rw [Around.under_plainId F.bm_plain_loop _]
    show wpAny _ A.in1 (pyNext (.ref I) >>= _) _ _ s
    refine wpAny_bind (wpAny_pyNext_rev_end hh hit fun h' he => ?_)
    have hS' : h'.get? S = some { cls := .type "bytearray", data := .bytearray (byteArr (ns.reverse.take ns.length)) } := he S _ (Ne.symm hIS) hS
    refine wpAny_bind ?_
    unfold Builtin.Bytes.payload Builtin.Bytes.payload?
    refine wpAny_bind (wpAny_bind (wpAny_load hS' ?_))
    refine wpAny_pure (wpAny_pure ?_)
    rw [List.take_of_length_le (by omega)]
    refine wpAny_bind (wpAny_mkBytes ?_ (by rw [byteArr_size, hrl]; exact hz))
    show wpAny _ _ (if (Value.type "bytes" == Value.type "bytes") = true then _ else _) _ _ _
    refine bm_if_true (by decide) ?_
    first
      | exact wpAny_pure (hR h' _ _ fun b o hb _ e => he b o hb e)
      | exact wpAny_bind (wpAny_pure (wpAny_pure (hR h' _ _ fun b o hb _ e => he b o hb e)))
  | succ k ih =>
    intro i s hk hle hl hit hS hR
    have hlt : i < ns.length := by omega
    obtain ⟨x, hx⟩ : ∃ x, vs[ns.length - 1 - i]? = some x := ⟨vs[ns.length - 1 - i]'(by omega), List.getElem?_eq_getElem (by omega)⟩
    obtain ⟨n, t, rfl, hn⟩ := IntsAre.at hi _ x hx
    obtain ⟨h0, h1⟩ := hr n (List.mem_of_getElem? hn)
    have hn' : ns.reverse[i]? = some n := by
      rw [List.getElem?_reverse hlt]
      exact hn
    rw [show (ns.length : Int) - 1 - i = ((ns.length - 1 - i : Nat) : Int) by omega] at hit
    refine codeAny_builtin F.bm_entry_loop ?_
    rw [Around.under_plainId F.bm_plain_loop _]
    show wpAny _ A.in1 (pyNext (.ref I) >>= _) _ _ s
    refine wpAny_bind (wpAny_pyNext_rev_item (x := .int n t) hit hl (by simpa using hx) fun h' hit' hs => ?_)
    have hS' : h'.get? S = some { cls := .type "bytearray", data := .bytearray (byteArr (ns.reverse.take i)) } := (hs.2 S (Ne.symm hIS)).trans hS
    refine wpAny_bind (wpAny_holding (wpAny_of_eq (rfl : asIndex (.int n t) = pure n) ?_))
    refine wpAny_bind (wpAny_letGo ?_)
    refine bm_if_false (by simp only [Bool.or_eq_false_iff, decide_eq_false_iff_not]; omega) ?_
    refine wpAny_bind ?_
    show wpAny _ _ (updateBytearray S (·.push n.toNat.toUInt8)) _ _ _
    unfold updateBytearray
    refine wpAny_bind (wpAny_load hS' ?_)
    show wpAny _ _ (update S (Obj.mapBytearray (·.push n.toNat.toUInt8)) >>= fun _ => lookBehind S) _ _ _
    refine wpAny_bind (wpAny_update hS' ?_)
    have hS₂ : (h'.update S (Obj.mapBytearray (·.push n.toNat.toUInt8))).get? S = some { cls := .type "bytearray", data := .bytearray (byteArr (ns.reverse.take (i + 1))) } := by
      rw [byteArr_take hn']
      exact Heap.get?_update_self (Obj.mapBytearray (·.push n.toNat.toUInt8)) hS' rfl
    refine wpAny_lookBehind hS₂ ?_ ?_
    · show (if (byteArr (ns.reverse.take (i + 1))).size > sizeLine then some "bytearray:memory" else none) = none
      rw [if_neg]
      rw [byteArr_size, List.length_take]
      omega
    · refine wpAny_pure ⟨plainId_quiet F.bm_plain_loop _, ih (i + 1) { s with heap := h'.update S (Obj.mapBytearray (·.push n.toNat.toUInt8)) } (by omega) hlt ?_ ?_ hS₂ fun h3 t' k' hk3 => ?_⟩
      · exact (hl.extBut hs.extBut hlI).extBut (Heap.SameBut.update ..).extBut hlS
      · rw [show (ns.length : Int) - 1 - ((i + 1 : Nat) : Int) = ((ns.length - 1 - i : Nat) : Int) - 1 by omega]
        exact hit'.at fun o ho => (Heap.SameBut.update ..).extBut _ _ hIS ho
      · exact hR h3 t' k' fun b o hbI hbS e => hk3 b o hbI hbS ((Heap.get?_update_other _ _ (Ne.symm hbS)).trans (hs.extBut b o hbI e))
theorem rev_new {I l : Addr} {vs : List Value} {ns : List Int} {Q : Value → Shared → Prop} (hh : A.handled = none) (hl : s.heap.IsList l vs.toArray) (hit : s.heap.IsRevIter I l ((ns.length : Int) - 1)) (hi : IntsAre vs ns) (hr : ∀ n ∈ ns, 0 ≤ n ∧ n < 256) (hz : ns.length ≤ sizeLine)
    (hQ : ∀ h' t k, (∀ b o, b ≠ I → s.heap.get? b = some o → h'.get? b = some o) → Q (.bytes (byteArr ns.reverse) t) { s with heap := h', toks := k }) :
    codeAny (model prog w) A (.call (.builtin "bytes.__new__") ⟨[.type "bytes", .ref I], []⟩) (wants Q E) s := by
  refine codeAny_of_tree ?_
  show wpAny _ A.in1 (do checkBuiltinCall "bytes.__new__" ⟨[.type "bytes", .ref I], []⟩; again (.builtin "bytes.__new__" ⟨[.type "bytes", .ref I], []⟩)) _ _ s
  refine wpAny_bind (wpAny_of_eq (F.bm_newCall _) (wpAny_pure ⟨plainId_quiet F.bm_plain _, codeAny_builtin F.bm_entry ?_⟩))
  rw [Around.under_plainId F.bm_plain _]
  have hT : s.TypeIs (.ref I) "list_reverseiterator" := hit.typeIs
  obtain ⟨oI, hoI, hIc, hId⟩ := id hit
  obtain ⟨ol, hol, hoc, nl, hod⟩ := id hl
  have hIl : l ≠ I := fun q => by
    rw [q, hoI] at hol
    cases hol
    rw [hIc] at hoc
    exact absurd hoc (by decide)
  unfold Builtin.«bytes.__new__»
  refine wpAny_bind (wpAny_of_eq (a := true) rfl ?_)
  refine bm_if_false rfl ?_
  refine wpAny_bind (wpAny_of_eq F.bm_sub ?_)
  refine bm_if_false rfl ?_
  refine wpAny_bind (wpAny_of_eq (F.bm_bind _) ?_)
  refine wpAny_bind (wpAny_of_eq (a := ()) rfl ?_)
  refine wpAny_bind (wpAny_of_eq (a := ()) rfl ?_)
  refine bm_if_false rfl ?_
  refine wpAny_bind (wpAny_specialOf hT lri_no_bytes ?_)
  refine wpAny_bind (wpAny_bind ?_)
  show wpAny _ _ (load I >>= _) _ _ _
  refine wpAny_bind (wpAny_load hoI ?_)
  rw [hId]
  refine wpAny_pure (wpAny_pure ?_)
  refine bm_if_false rfl ?_
  refine wpAny_bind (wpAny_specialOf hT lri_no_index ?_)
  refine bm_if_true rfl ?_
  first
    | show wpAny _ _ (Builtin.Bytes.buffer? "bytes.__new__" (.ref I) true >>= _) _ _ _
    | (refine wpAny_bind ?_; show wpAny _ _ (Builtin.Bytes.buffer? "bytes.__new__" (.ref I) true >>= _) _ _ _)
  refine wpAny_bind ?_
  unfold Builtin.Bytes.buffer?
  refine wpAny_bind (wpAny_specialOf hT lri_no_buffer ?_)
  refine wpAny_bind (wpAny_specialOf hT lri_no_buffer ?_)
  refine wpAny_pure ?_
  refine wpAny_bind (wpAny_tryCatch (wpAny_pyIter_revIter hit ?_))
  refine wpAny_bind (wpAny_holding ?_)
  unfold Builtin.Bytes.lengthHint
  refine wpAny_bind (wpAny_specialOf hT lri_no_len ?_)
  dsimp only
  refine bm_if_false rfl ?_
  refine bm_if_false rfl ?_
  refine wpAny_bind (wpAny_specialOf hT lri_hint ?_)
  dsimp only
  rw [lri_split]
  dsimp only
  refine wpAny_bind (wpAny_isInstance hT lri_sub ?_)
  refine bm_if_false rfl ?_
  refine bm_if_true (by decide +kernel) ?_
  refine bm_if_false (by decide +kernel) ?_
  refine wpAny_pure ?_
  refine wpAny_bind ?_
  unfold Builtin.Bytes.newBytearray
  refine wpAny_newObj_type ?_ (Nat.zero_le _)
  have hltI : I < s.heap.objs.size := Heap.lt_size hoI
  have hltl : l < s.heap.objs.size := Heap.lt_size hol
  have main := rev_loop (prog := prog) (w := w) (A := A) (R := wants Q E) (l := l) (I := I) (S := s.heap.objs.size) hh hi hr hz (Nat.ne_of_lt hltI) hIl (Nat.ne_of_lt hltl)
    ns.length 0 { s with heap := s.heap.push { cls := .type "bytearray", data := .bytearray #[] } } rfl (Nat.zero_le _) (hl.push _) (by
      rw [show (ns.length : Int) - 1 - ((0 : Nat) : Int) = (ns.length : Int) - 1 by omega]
      exact hit.at fun o ho => Heap.get?_push_of_some _ ho) (Heap.get?_push_size _ rfl)
    fun h' t k hk => hQ h' t k fun b o hb e => hk b o hb (Nat.ne_of_lt (Heap.lt_size e)) (Heap.get?_push_of_some _ e)
  first
    | exact wpAny_pure ⟨plainId_quiet F.bm_plain_loop _, main⟩
    | exact wpAny_pure (wpAny_pure ⟨plainId_quiet F.bm_plain_loop _, main⟩)
theorem call_bytes_rev {I l : Addr} {vs : List Value} {ns : List Int} {Q : Value → Shared → Prop} (hl : s.heap.IsList l vs.toArray) (hit : s.heap.IsRevIter I l ((ns.length : Int) - 1)) (hi : IntsAre vs ns) (hr : ∀ n ∈ ns, 0 ≤ n ∧ n < 256) (hz : ns.length ≤ sizeLine) (hh : A.handled = none)
    (hQ : ∀ h' t k, (∀ b o, b ≠ I → s.heap.get? b = some o → h'.get? b = some o) → Q (.bytes (byteArr ns.reverse) t) { s with heap := h', toks := k }) : wpAny (model prog w) A (call (.type "bytes") [.ref I]) Q E s := by
  refine callType_codes (Q₁ := fun obj s₁ => s₁.TypeIs obj "bytes" ∧ Q obj s₁) F.bm_called (F.bm_typeCall _) F.entry_object_init
    (rev_new hh hl hit hi hr hz fun h' t k hk => ⟨PySem.W.typeIs_bytes _ _ _, hQ h' t k hk⟩) fun obj s₁ h₁ => ?_
  exact ⟨h₁.1, F.args_object_init_2 obj _, object_init_meets F.bm_called.init.lookup F.bm_called.made (by decide) prog w A.in1 _ s₁ ⟨h₁.1, rfl, h₁.2⟩⟩
end
end

section
set_option maxHeartbeats 8000000 in
theorem decIntK (w : World) (v al : Array UInt8) (ks as : List Int) (t t2 : Tok) (hv : KBw.bInts v = ks) (hal : KBw.bInts al = as) (hl : as.length ≤ 59 ∧ 2 ≤ as.length) (hnd : as.Nodup) (hkl : ks.length ≤ 300) (hsp : ∀ k ∈ as, k ≠ 32) :
    CtrX 8 w 51 [.bytes v t] [(Str.ofString "alphabet", .bytes al t2), (Str.ofString "autofix", .bool false)] (isDecI as (rstripI ks)) (¬ ∀ k ∈ rstripI ks, k ∈ as) := by
  k_with_none; w_top off
  dsimp only [CtrX]; k_fill
  intro mean mg mb dp un gd cn cs a0 ccd cl outer A₀ base h₀ L m s Q E BB F X T G hcs hd hu hret hexc
  have hnil : IntsAre [] [] := .nil
  walk_at "MINE enter"
  (k_with "pyIter bytes" => k_state (fun pre c => decI as pre c) "decimal")
  (k_with "state" => first | exact dec_start _ | exact dec_turn (by assumption) (by assumption))
  k_steps
  · refine caught_over (by assumption) (by assumption) (by assumption) G.has G.top (by k_is) (by k_is) (fun h' x B₂ t tk c1 bg ht hh tup up => ?_)
    show wpAny _ _ (leaving _ _) _ _ _
    refine leave_held c1 bg ht hh tup up fun h'' t vs R up' => ?_
    refine hexc _ _ _ _ _ (fun hall => ?_) R up'
    have hk9 : kN ∈ rstripI ks := by rw [kEq]; simp
    exact absurd (hall _ hk9) (by assumption)
  · try dsimp only
    have hfin : decI as (rstripI ks) _ := kInv
    exact hret _ _ _ (Fr.keep (by k_asm)) ⟨hfin.1, _, by rw [hfin.2]⟩
end

section
set_option maxHeartbeats 8000000 in
theorem decIntS (w : World) (v : Str) (al : Array UInt8) (ks as : List Int) (t t2 : Tok) (hv : cInts v = ks) (hx : ∀ k ∈ ks, k < 128 ∧ ¬ (28 ≤ k ∧ k ≤ 31)) (hal : KBw.bInts al = as) (hl : as.length ≤ 59 ∧ 2 ≤ as.length) (hnd : as.Nodup) (hkl : ks.length ≤ 300) (hsp : ∀ k ∈ as, k ≠ 32) :
    CtrX 8 w 51 [.str v t, .bytes al t2] [] (isDecI as (rstripI ks)) (¬ ∀ k ∈ rstripI ks, k ∈ as) := by
  k_with_none; w_top off
  dsimp only [CtrX]; k_fill
  intro mean mg mb dp un gd cn cs a0 ccd cl outer A₀ base h₀ L m s Q E BB F X T G hcs hd hu hret hexc
  have hnil : IntsAre [] [] := .nil
  walk_at "MINE enter"
  (k_with "pyIter bytes" => k_state (fun pre c => decI as pre c) "decimal")
  (k_with "state" => first | exact dec_start _ | exact dec_turn (by assumption) (by assumption))
  k_steps
  · refine caught_over (by assumption) (by assumption) (by assumption) G.has G.top (by k_is) (by k_is) (fun h' x B₂ t tk c1 bg ht hh tup up => ?_)
    show wpAny _ _ (leaving _ _) _ _ _
    refine leave_held c1 bg ht hh tup up fun h'' t vs R up' => ?_
    refine hexc _ _ _ _ _ (fun hall => ?_) R up'
    have hk9 : kN ∈ rstripI ks := by rw [kEq]; simp
    exact absurd (hall _ hk9) (by assumption)
  · try dsimp only
    have hfin : decI as (rstripI ks) _ := kInv
    exact hret _ _ _ (Fr.keep (by k_asm)) ⟨hfin.1, _, by rw [hfin.2]⟩
end

theorem Gnd.push {w : World} {mean : ExcName → Option Value} {mg mb : Str → Option Value} {base h₀ h : Heap} {outer : List Env} {cn : Str} {cs : Scope} {L a : Addr} {ccd : Value} {cl : List (Str × Addr)} {m : Str → Option Value}
    (G : Gnd w mean mg mb base outer h₀) (F : Fr h₀ L h m) : Gnd w mean mg mb base (envX cn cs L a ccd cl :: outer) h := ⟨G.has, G.top, fun b hb => by
  obtain ⟨env, he, hf⟩ := List.mem_filterMap.mp hb
  rcases List.mem_cons.mp he with rfl | he
  · obtain ⟨o, es, n, ho, hd, _⟩ := F.ns
    obtain rfl : L = b := Option.some.inj hf
    exact ⟨o, es, n, ho, hd⟩
  · obtain ⟨o, es, n, ho, hd⟩ := G.dicts b (List.mem_filterMap.mpr ⟨env, he, hf⟩)
    exact ⟨o, es, n, F.keep _ _ ho, hd⟩⟩
theorem decV_nonneg (as ks : List Int) : 0 ≤ decV as ks := by
  unfold decV
  suffices h : ∀ (l : List Int) (a : Int), 0 ≤ a → 0 ≤ l.foldl (fun a k => a * as.length + (as.idxOf k : Int)) a from h ks 0 (by omega)
  intro l
  induction l with
  | nil => exact fun _ h => h
  | cons k l ih => exact fun a h => ih _ (Int.add_nonneg (Int.mul_nonneg h (Int.natCast_nonneg as.length)) (Int.natCast_nonneg _))
local macro_rules | `(tactic| walk_at "call ref") => `(tactic| (k_here; (with_reducible show wpAny _ _ (call (Value.ref 51) [Value.bytes _ _] _) _ _ _); k_dflt (refine' use_ctrX (decIntK _ _ _ _ _ _ _ ?v ?va ?l ?n ?kk ?sp) ?B ?F ?X ?N ?T ?G ?hk ?hd ?hu ?_ ?_; (case v => kba_ints2); (case va => kba_ints2); (case l => assumption); (case n => assumption); (case kk => first | kba_size | omega); (case sp => assumption); (case G => assumption); walk_at "MINE sidesX"); walk_at "MINE decI"))
local macro_rules | `(tactic| walk_at "MINE sidesX") => `(tactic| ((case B => k_asm); (case F => k_asm); (case X => k_asm); (case N => k_asm); (case T => k_asm); (case hk => first | exact rfl | assumption); (case hd => ktr_room); (case hu => ktr_units)))
local macro_rules | `(tactic| walk_at "MINE decI") => `(tactic| ((intro r9 h9 tk9 F9 N9 hr9; obtain ⟨hall9, t9, hr9⟩ := hr9; subst hr9; (try dsimp only); (try k_fold))))

def decL (as ks : List Int) : List Int := lstripI (List.take (clipAt as.length 1 - clipAt as.length 0) (List.drop (clipAt as.length 0) as)) (rstripI ks)
def decN (as ks : List Int) : Nat := (decV as (rstripI (decL as ks))).toNat
def decF (as ks : List Int) : List Int := List.replicate ((rstripI ks).length - (decL as ks).length) 0 ++ (iz (dg 256 (decN as ks))).reverse
def okD (as ks : List Int) : Prop := ∀ k ∈ rstripI (decL as ks), k ∈ as
theorem dec_st {as ks : List Int} : 0 ≤ decV as (rstripI (decL as ks)) ∧ ([] : List Int).length ≤ 128 ∧ carW 256 (decN as ks) (decV as (rstripI (decL as ks))) [] :=
  ⟨decV_nonneg _ _, by simp, [], rfl, rfl⟩
theorem dec_tn {V : Nat} {c : Int} {out : List Int} (hV : V < 2 ^ 128) (hc : 0 < c) (h : carW 256 V c out) : 0 ≤ c.fdiv 256 ∧ (out ++ [c.fmod 256]).length ≤ 128 ∧ carW 256 V (c.fdiv 256) (out ++ [c.fmod 256]) := by
  have h1 := carW_turn (by omega) hc h
  exact ⟨h1.1, carW_len (by omega) hV h1.2, h1.2⟩
theorem carW_end2 {V : Nat} {c : Int} {out : List Int} (h : carW 256 V c out) (hc : ¬ 0 < c) : out = iz (dg 256 V) := by
  obtain ⟨lo, rfl, e⟩ := h
  rw [show c.toNat = 0 by omega, dg_zero, List.append_nil] at e
  rw [e]
theorem carW_bytes {V : Nat} {c : Int} {out : List Int} (h : carW 256 V c out) : ∀ n ∈ out, 0 ≤ n ∧ n < 256 := by
  obtain ⟨lo, rfl, e⟩ := h
  intro n hn
  obtain ⟨d, hd, rfl⟩ := List.mem_map.mp hn
  have := dg_lt (B := 256) (by omega) V d (by rw [e]; exact List.mem_append_left _ hd)
  omega
section
variable {prog : Program} {w : World} {A : Around} {E : Value → Shared → Prop} {s : Shared} {h₀ : Heap} {L D l : Addr} {m : Str → Option Value} {news : List (Addr × Obj)}
theorem bytesRev_K {vs : List Value} {ns : List Int} {n : Nat} {Q : Value → Shared → Prop} (F : Fr h₀ L s.heap m) (N : News h₀ L s.heap news) (hI : (D, revObj l ((vs.length : Int) - 1)) ∈ news) (hm : (l, listOf vs.toArray n) ∈ news) (hi : IntsAre vs ns) (hr : ∀ n ∈ ns, 0 ≤ n ∧ n < 256) (hz : ns.length ≤ 16777216) (hh : A.handled = none)
    (hQ : ∀ b t h' k, KBw.bInts b = ns.reverse → Fr h₀ L h' m → News h₀ L h' [] → Q (.bytes b t) { s with heap := h', toks := k }) : wpAny (model prog w) A (call (.type "bytes") [.ref D]) Q E s := by
  have hN := N _ hI
  have hlen := hi.length
  refine call_bytes_rev ⟨_, (N _ hm).1, rfl, _, rfl⟩ ⟨_, hN.1, rfl, by rw [← hlen]; rfl⟩ hi hr (by rw [sizeLine_eq]; exact hz) hh fun h' t k hk => ?_
  have hne : D ≠ L := hN.2.1
  refine hQ _ t h' k (KBa.ints_make fun x hx => hr x (List.mem_reverse.mp hx)) ⟨F.ns.at' fun o ho => hk _ o (Ne.symm hne) ho, fun b o hb => hk b o (fun q => ?_) (F.keep b o hb), F.above⟩ News.nil
  have := hN.2.2
  rw [← q, hb] at this
  cases this
end
local macro_rules | `(tactic| walk_at "call type:bytes") => `(tactic| (k_here; (with_reducible show wpAny _ _ (call (Value.type "bytes") [Value.ref _]) _ _ _); k_dflt (refine' bytesRev_K ?F ?N ?I ?m ?i ?r ?z ?h ?_; (case F => k_asm); (case N => k_asm); (case I => k_mem); (case m => k_mem); (case i => assumption); (case r => exact carW_bytes (by assumption)); (case z => omega); (case h => exact rfl)); intro b9 t9 h9 k9 hb9 F9 N9))
theorem news_tail {h₀ h : Heap} {L : Addr} {p : Addr × Obj} {news : List (Addr × Obj)} (N : News h₀ L h (p :: news)) : News h₀ L h news := fun q hq => N q (.tail _ hq)
local macro_rules | `(tactic| walk_at "call builtin:list.append") => `(tactic| (k_here; (with_reducible rename News _ _ _ ((_, Obj.mk (Value.type "tuple") _ _ _) :: _ :: []) => lN9); replace lN9 := news_tail lN9))
theorem rep_ints (k : Nat) : KBw.bInts (List.replicate k [(0 : UInt8)]).flatten.toArray = List.replicate k 0 := by
  unfold KBw.bInts
  simp
local macro_rules | `(tactic| walk_at "binaryOp Add bytes bytes") => `(tactic| (k_here; (with_reducible show wpAny _ _ (binaryOp Operator.Add (Value.bytes _ _) (Value.bytes _ _)) _ _ _); (refine KBa.add_K (rep_ints _) (by kba_ints2) (by simp only [List.length_replicate, List.length_reverse] <;> omega) ?_); intro _ _ kbaApp))
theorem dec_out {as ks : List Int} {c : Int} {out : List Int} (h : carW 256 (decN as ks) c out) (hc : ¬ 0 < c) :
    List.replicate (((rstripI ks).length : Int) - ((lstripI (List.take (clipAt as.length 1 - clipAt as.length 0) (List.drop (clipAt as.length 0) as)) (rstripI ks)).length : Int)).toNat 0 ++ out.reverse = decF as ks := by
  rw [carW_end2 h hc]
  unfold decF decL
  congr 2
  omega
set_option maxHeartbeats 8000000 in
theorem dec (w : World) (v al : Array UInt8) (ks as : List Int) (t t2 : Tok) (hv : KBw.bInts v = ks) (hal : KBw.bInts al = as) (hl : as.length ≤ 59 ∧ 2 ≤ as.length) (hnd : as.Nodup) (hkl : ks.length ≤ 300) (hsp : ∀ k ∈ as, k ≠ 32)
    (hV : okD as ks → decN as ks < 2 ^ 128) :
    CtrX 12 w 60 [.bytes v t, .bytes al t2] [] (fun r => okD as ks ∧ isBts (decF as ks) r) (¬ okD as ks) := by
  k_with_none; w_top off
  dsimp only [CtrX]; k_fill
  intro mean mg mb dp un gd cn cs a0 ccd cl outer A₀ base h₀ L m s Q E BB F X T G hcs hd hu hret hexc
  have hnil : IntsAre [] [] := .nil
  have G' : Gnd w mean mg mb base (envX cn cs L a0 ccd cl :: outer) s.heap := G.push F
  walk_at "MINE enter"
  (k_with "exec While Compare cons nil" => k_while (fun _ c out => 0 ≤ c ∧ out.length ≤ 128 ∧ carW 256 (decN as ks) c out) (fun _ c out => c.toNat) "acc" "result")
  (k_with "state" => first | exact dec_st | exact dec_tn (hV (by assumption)) (by assumption) (by assumption))
  (k_with "measure" => exact car_meas (B := 256) (by omega) (by assumption))
  k_steps
  · have hO := dec_out (ks := ks) (by assumption) (by assumption)
    exact hret _ _ _ (Fr.keep (by k_asm)) ⟨by assumption, _, _, rfl, by rw [← hO]; assumption⟩
  · refine leave_onS (by assumption) (by assumption) (by assumption) (by assumption) fun h' R _ up' => ?_
    exact hexc _ _ _ _ _ (by assumption) R up'

section
set_option maxHeartbeats 8000000 in
theorem decK (w : World) (v al : Array UInt8) (ks as : List Int) (t t2 : Tok) (hv : KBw.bInts v = ks) (hal : KBw.bInts al = as) (hl : as.length ≤ 59 ∧ 2 ≤ as.length) (hnd : as.Nodup) (hkl : ks.length ≤ 300) (hsp : ∀ k ∈ as, k ≠ 32)
    (hV : okD as ks → decN as ks < 2 ^ 128) :
    CtrX 12 w 60 [.bytes v t] [(Str.ofString "alphabet", .bytes al t2), (Str.ofString "autofix", .bool false)] (fun r => okD as ks ∧ isBts (decF as ks) r) (¬ okD as ks) := by
  k_with_none; w_top off
  dsimp only [CtrX]; k_fill
  intro mean mg mb dp un gd cn cs a0 ccd cl outer A₀ base h₀ L m s Q E BB F X T G hcs hd hu hret hexc
  have hnil : IntsAre [] [] := .nil
  have G' : Gnd w mean mg mb base (envX cn cs L a0 ccd cl :: outer) s.heap := G.push F
  walk_at "MINE enter"
  (k_with "exec While Compare cons nil" => k_while (fun _ c out => 0 ≤ c ∧ out.length ≤ 128 ∧ carW 256 (decN as ks) c out) (fun _ c out => c.toNat) "acc" "result")
  (k_with "state" => first | exact dec_st | exact dec_tn (hV (by assumption)) (by assumption) (by assumption))
  (k_with "measure" => exact car_meas (B := 256) (by omega) (by assumption))
  k_steps
  · have hO := dec_out (ks := ks) (by assumption) (by assumption)
    exact hret _ _ _ (Fr.keep (by k_asm)) ⟨by assumption, _, _, rfl, by rw [← hO]; assumption⟩
  · refine leave_onS (by assumption) (by assumption) (by assumption) (by assumption) fun h' R _ up' => ?_
    exact hexc _ _ _ _ _ (by assumption) R up'
end

section
set_option maxHeartbeats 8000000 in
theorem decS (w : World) (v : Str) (al : Array UInt8) (ks as : List Int) (t t2 : Tok) (hv : cInts v = ks) (hx : ∀ k ∈ ks, k < 128 ∧ ¬ (28 ≤ k ∧ k ≤ 31)) (hal : KBw.bInts al = as) (hl : as.length ≤ 59 ∧ 2 ≤ as.length) (hnd : as.Nodup) (hkl : ks.length ≤ 300) (hsp : ∀ k ∈ as, k ≠ 32)
    (hV : okD as ks → decN as ks < 2 ^ 128) :
    CtrX 12 w 60 [.str v t, .bytes al t2] [] (fun r => okD as ks ∧ isBts (decF as ks) r) (¬ okD as ks) := by
  k_with_none; w_top off
  dsimp only [CtrX]; k_fill
  intro mean mg mb dp un gd cn cs a0 ccd cl outer A₀ base h₀ L m s Q E BB F X T G hcs hd hu hret hexc
  have hnil : IntsAre [] [] := .nil
  have G' : Gnd w mean mg mb base (envX cn cs L a0 ccd cl :: outer) s.heap := G.push F
  walk_at "MINE enter"
  (k_with "exec While Compare cons nil" => k_while (fun _ c out => 0 ≤ c ∧ out.length ≤ 128 ∧ carW 256 (decN as ks) c out) (fun _ c out => c.toNat) "acc" "result")
  (k_with "state" => first | exact dec_st | exact dec_tn (hV (by assumption)) (by assumption) (by assumption))
  (k_with "measure" => exact car_meas (B := 256) (by omega) (by assumption))
  k_steps
  · have hO := dec_out (ks := ks) (by assumption) (by assumption)
    exact hret _ _ _ (Fr.keep (by k_asm)) ⟨by assumption, _, _, rfl, by rw [← hO]; assumption⟩
  · refine leave_onS (by assumption) (by assumption) (by assumption) (by assumption) fun h' R _ up' => ?_
    exact hexc _ _ _ _ _ (by assumption) R up'
end

section
set_option maxHeartbeats 8000000 in
theorem decKS (w : World) (v : Str) (al : Array UInt8) (ks as : List Int) (t t2 : Tok) (hv : cInts v = ks) (hx : ∀ k ∈ ks, k < 128 ∧ ¬ (28 ≤ k ∧ k ≤ 31)) (hal : KBw.bInts al = as) (hl : as.length ≤ 59 ∧ 2 ≤ as.length) (hnd : as.Nodup) (hkl : ks.length ≤ 300) (hsp : ∀ k ∈ as, k ≠ 32)
    (hV : okD as ks → decN as ks < 2 ^ 128) :
    CtrX 12 w 60 [.str v t] [(Str.ofString "alphabet", .bytes al t2), (Str.ofString "autofix", .bool false)] (fun r => okD as ks ∧ isBts (decF as ks) r) (¬ okD as ks) := by
  k_with_none; w_top off
  dsimp only [CtrX]; k_fill
  intro mean mg mb dp un gd cn cs a0 ccd cl outer A₀ base h₀ L m s Q E BB F X T G hcs hd hu hret hexc
  have hnil : IntsAre [] [] := .nil
  have G' : Gnd w mean mg mb base (envX cn cs L a0 ccd cl :: outer) s.heap := G.push F
  walk_at "MINE enter"
  (k_with "exec While Compare cons nil" => k_while (fun _ c out => 0 ≤ c ∧ out.length ≤ 128 ∧ carW 256 (decN as ks) c out) (fun _ c out => c.toNat) "acc" "result")
  (k_with "state" => first | exact dec_st | exact dec_tn (hV (by assumption)) (by assumption) (by assumption))
  (k_with "measure" => exact car_meas (B := 256) (by omega) (by assumption))
  k_steps
  · have hO := dec_out (ks := ks) (by assumption) (by assumption)
    exact hret _ _ _ (Fr.keep (by k_asm)) ⟨by assumption, _, _, rfl, by rw [← hO]; assumption⟩
  · refine leave_onS (by assumption) (by assumption) (by assumption) (by assumption) fun h' R _ up' => ?_
    exact hexc _ _ _ _ _ (by assumption) R up'
end

section
theorem a0_mem {as : List Int} (h : 2 ≤ as.length) : as.getD 0 0 ∈ as := by
  rw [List.getD_eq_getElem?_getD, List.getElem?_eq_getElem (by omega)]
  exact List.getElem_mem _
theorem sg_mem {as : List Int} {d : Nat} (h : d < as.length) : as.getD d 0 ∈ as := by
  rw [List.getD_eq_getElem?_getD, List.getElem?_eq_getElem h]
  exact List.getElem_mem _
theorem sg_idx {as : List Int} (hn : as.Nodup) {d : Nat} (h : d < as.length) : as.idxOf (as.getD d 0) = d := by
  rw [List.getD_eq_getElem?_getD, List.getElem?_eq_getElem h]
  exact hn.idxOf_getElem d h
theorem nb_of {as : List Int} (S : SignsOk as) {k : Int} (h : k ∈ as) : isBl k = false := by
  have := S.rng k h
  unfold isBl
  simp only [Bool.or_eq_false_iff, beq_eq_false_iff_ne, Bool.and_eq_false_iff, decide_eq_false_iff_not]
  omega
theorem rs_blank {t bl : List Int} (hb : ∀ k ∈ bl, isBl k = true) (ht : ∀ k ∈ t, isBl k = false) : rstripI (t ++ bl) = t := by
  unfold rstripI
  have h1 : ∀ l : List Int, (∀ k ∈ l, isBl k = true) → ∀ m : List Int, (l ++ m).dropWhile isBl = m.dropWhile isBl := by
    intro l
    induction l with
    | nil => exact fun _ _ => rfl
    | cons x r ih => intro h m; rw [List.cons_append, List.dropWhile_cons, if_pos (h x (.head _)), ih (fun k hk => h k (.tail _ hk))]
  rw [List.reverse_append, h1 _ (fun k hk => hb k (List.mem_reverse.mp hk))]
  cases e : t.reverse with
  | nil => rw [List.reverse_eq_nil_iff.mp e]; rfl
  | cons x r =>
    rw [List.dropWhile_cons, if_neg, ← e, List.reverse_reverse]
    have : x ∈ t := List.mem_reverse.mp (by rw [e]; exact .head _)
    rw [ht x this]
    decide
theorem rs_last {u : List Int} {c : Int} (h : isBl c = false) : rstripI (u ++ [c]) = u ++ [c] := by
  unfold rstripI
  rw [List.reverse_append, List.reverse_singleton, List.singleton_append, List.dropWhile_cons, if_neg (by rw [h]; decide)]
  simp
theorem drop_at {p : Int → Bool} {b : Int} (v : List Int) (h : p b = false) : ∀ u : List Int, (u ++ b :: v).dropWhile p = u.dropWhile p ++ b :: v
  | [] => by rw [List.nil_append, List.dropWhile_cons, if_neg (by rw [h]; decide)]; rfl
  | x :: r => by
    rw [List.cons_append, List.dropWhile_cons, List.dropWhile_cons]
    split
    · exact drop_at v h r
    · rfl
theorem decL_eq {as ks : List Int} (hl : 2 ≤ as.length) : decL as ks = (rstripI ks).dropWhile (fun k => k == as.getD 0 0) := by
  unfold decL lstripI
  rw [pick_first hl]
  congr 1
  funext k
  show (k == as.getD 0 0 || false) = _
  simp
/-- a sign from outside within, no blank at the end: refused -/
theorem refuse {as u v : List Int} {b : Int} (S : SignsOk as) (hb : b ∉ as) (hv : ∀ c ∈ (b :: v).getLast?, isBl c = false) :
    ¬ okD as (u ++ b :: v) ∧ ¬ ∀ k ∈ rstripI (u ++ b :: v), k ∈ as := by
  obtain ⟨w, c, e⟩ : ∃ w c, b :: v = w ++ [c] := by
    rcases List.eq_nil_or_concat (b :: v) with e | ⟨w, c, e⟩
    · cases e
    · exact ⟨w, c, by rw [e, List.concat_eq_append]⟩
  have hc : isBl c = false := hv c (by rw [e]; simp)
  have e1 : rstripI (u ++ b :: v) = u ++ b :: v := by rw [e, ← List.append_assoc, rs_last hc]
  have hne : (fun k => k == as.getD 0 0) b = false := by
    show (b == as.getD 0 0) = false
    rw [beq_eq_false_iff_ne]
    intro q
    exact hb (q ▸ a0_mem S.len.2)
  constructor
  · intro hk
    refine hb (hk b ?_)
    rw [decL_eq S.len.2, e1, drop_at (p := fun k => k == as.getD 0 0) v hne u, e, ← List.append_assoc, rs_last hc, List.append_assoc, ← e]
    exact List.mem_append_right _ (.head _)
  · intro hk
    refine hb (hk b ?_)
    rw [e1]
    exact List.mem_append_right _ (.head _)
theorem refuse_near {as t : List Int} {n : Int} (S : SignsOk as) (hn : n ∉ as) (h2 : isBl n = false) :
    ¬ okD as (t ++ [n]) ∧ ¬ ∀ k ∈ rstripI (t ++ [n]), k ∈ as :=
  refuse S hn fun c hc => by
    obtain rfl : n = c := by simpa using hc
    exact h2
theorem bl_out {as : List Int} (S : SignsOk as) {b : Int} (h : isBl b = true) : b ∉ as := fun q => by
  rw [nb_of S q] at h; cases h
theorem refuse_ahead {as bl : List Int} (S : SignsOk as) (hb : ∀ k ∈ bl, isBl k = true) (hl : bl ≠ []) :
    ¬ okD as (bl ++ [as.getD 0 0]) ∧ ¬ ∀ k ∈ rstripI (bl ++ [as.getD 0 0]), k ∈ as := by
  cases bl with
  | nil => exact absurd rfl hl
  | cons b r =>
    have := refuse (u := []) (v := r ++ [as.getD 0 0]) S (bl_out S (hb b (.head _))) fun c hc => by
      have e : (b :: (r ++ [as.getD 0 0])).getLast? = some (as.getD 0 0) := by
        rw [← List.cons_append, List.getLast?_append]; rfl
      rw [e] at hc
      obtain rfl := Option.some.inj hc
      exact nb_of S (a0_mem S.len.2)
    exact this
theorem refuse_mid {as t : List Int} {b : Int} {n : Nat} (S : SignsOk as) (hb : isBl b = true) (ht : ∀ k ∈ t, k ∈ as) (hn : n < t.length) :
    ¬ okD as (t.take n ++ [b] ++ t.drop n) ∧ ¬ ∀ k ∈ rstripI (t.take n ++ [b] ++ t.drop n), k ∈ as := by
  rw [List.append_assoc, List.singleton_append]
  refine refuse S (bl_out S hb) fun c hc => nb_of S (ht c ?_)
  have hne : t.drop n ≠ [] := by
    intro e
    have := congrArg List.length e
    rw [List.length_drop] at this
    simp at this
    omega
  have hc' : c ∈ (t.drop n).getLast? := by
    obtain ⟨x, r, e⟩ : ∃ x r, t.drop n = x :: r := List.exists_cons_of_ne_nil hne
    rw [e] at hc ⊢
    rw [List.getLast?_cons_cons] at hc
    exact hc
  exact List.mem_of_mem_drop (List.mem_of_getLast? hc')
/-- the text of octets -/
def txF (as os : List Int) : List Int := List.replicate (os.takeWhile (· == 0)).length (as.getD 0 0) ++ encD as (vN os)
theorem vN_strip : ∀ os : List Int, vN (os.dropWhile (· == 0)) = vN os
  | [] => rfl
  | x :: r => by
    rw [List.dropWhile_cons]
    split
    · rename_i h
      rw [vN_strip r]
      have : x = 0 := by simpa using h
      subst this
      rfl
    · rfl
theorem lz_eq (ks : List Int) : lstripI [0] ks = ks.dropWhile (· == 0) := by
  unfold lstripI
  congr 1
  funext k
  show (k == 0 || false) = _
  simp
theorem encF_tx (as os : List Int) : encF as os = txF as os := by
  unfold encF txF
  rw [lz_eq, vN_strip]
  congr 2
  have := congrArg List.length (List.takeWhile_append_dropWhile (p := (· == 0)) (l := os))
  rw [List.length_append] at this
  omega
theorem law_tx (as os : List Int) : List.replicate (os.takeWhile (· == 0)).length (as.getD (Int.toNat 0) 0) ++ (iz (dg as.length (vN os))).reverse.map (fun k => as.getD k.toNat 0) = txF as os := by
  unfold txF encD
  congr 1
  rw [List.map_reverse]
  unfold iz
  rw [List.map_map, Int.toNat_natCast]
  rfl
theorem encD_mem {as : List Int} (h : 2 ≤ as.length) (n : Nat) : ∀ k ∈ encD as n, k ∈ as := fun k hk => by
  unfold encD at hk
  obtain ⟨d, hd, rfl⟩ := List.mem_map.mp (List.mem_reverse.mp hk)
  exact sg_mem (dg_lt h _ d hd)
theorem txF_mem {as os : List Int} (h : 2 ≤ as.length) : ∀ k ∈ txF as os, k ∈ as := fun k hk => by
  rcases List.mem_append.mp hk with hk | hk
  · rw [(List.mem_replicate.mp hk).2]; exact a0_mem h
  · exact encD_mem h _ k hk
theorem decV_snoc (as l : List Int) (k : Int) : decV as (l ++ [k]) = decV as l * as.length + (as.idxOf k : Int) := by
  unfold decV; rw [List.foldl_append]; rfl
theorem decV_dig {as : List Int} (hn : as.Nodup) : ∀ l : List Nat, (∀ d ∈ l, d < as.length) → decV as (l.map fun d => as.getD d 0).reverse = (val as.length l : Int)
  | [], _ => rfl
  | d :: r, h => by
    rw [List.map_cons, List.reverse_cons, decV_snoc, decV_dig hn r fun x hx => h x (.tail _ hx), sg_idx hn (h d (.head _)), val]
    rw [Int.natCast_add, Int.natCast_mul, Int.mul_comm, Int.add_comm]
theorem decV_enc {as : List Int} (S : SignsOk as) (n : Nat) : decV as (encD as n) = n := by
  unfold encD
  rw [decV_dig S.nd _ (fun d hd => dg_lt S.len.2 _ d hd), Int.toNat_natCast, val_dg S.len.2]
theorem decV_pad {as : List Int} (S : SignsOk as) (l : List Int) : ∀ z : Nat, decV as (List.replicate z (as.getD 0 0) ++ l) = decV as l
  | 0 => rfl
  | z + 1 => by
    rw [List.replicate_succ, List.cons_append]
    show List.foldl _ _ _ = _
    rw [List.foldl_cons]
    have e : (0 : Int) * as.length + (as.idxOf (as.getD 0 0) : Int) = 0 := by
      rw [sg_idx S.nd (by have := S.len; omega)]; simp
    rw [e]
    exact decV_pad S l z
theorem decV_tx {as : List Int} (S : SignsOk as) (os : List Int) : decV as (txF as os) = vN os := by
  unfold txF
  rw [decV_pad S, decV_enc S]
theorem dg_tail_ne {l : List Nat} {d : Nat} (h : tidy (l ++ [d])) : d ≠ 0 := by
  induction l with
  | nil => exact h
  | cons x r ih =>
    refine ih ?_
    cases r with
    | nil => exact h
    | cons y r => exact h
theorem drop_enc {as : List Int} (S : SignsOk as) (n : Nat) : (encD as n).dropWhile (fun k => k == as.getD 0 0) = encD as n := by
  unfold encD
  rw [Int.toNat_natCast]
  have ht := tidy_dg S.len.2 n
  have hd := dg_lt S.len.2 n
  rcases List.eq_nil_or_concat (dg as.length n) with e | ⟨l, d, e⟩
  · rw [e]; rfl
  · rw [List.concat_eq_append] at e
    rw [e] at ht hd ⊢
    have h0 := dg_tail_ne ht
    have h1 := hd d (by simp)
    rw [List.map_append, List.reverse_append, List.map_singleton, List.reverse_singleton, List.singleton_append, List.dropWhile_cons, if_neg]
    intro q
    have q' : as.getD d 0 = as.getD 0 0 := by simpa using q
    have i1 := sg_idx S.nd h1
    rw [q', sg_idx S.nd (by omega)] at i1
    exact h0 i1.symm
theorem drop_rep (a : Int) (l : List Int) : ∀ z : Nat, (List.replicate z a ++ l).dropWhile (fun k => k == a) = l.dropWhile (fun k => k == a)
  | 0 => rfl
  | z + 1 => by rw [List.replicate_succ, List.cons_append, List.dropWhile_cons, if_pos (by simp), drop_rep a l z]
theorem decL_tx {as os bl : List Int} (S : SignsOk as) (hb : ∀ k ∈ bl, isBl k = true) : decL as (txF as os ++ bl) = encD as (vN os) := by
  rw [decL_eq S.len.2, rs_blank hb fun k hk => nb_of S (txF_mem S.len.2 k hk)]
  unfold txF
  rw [drop_rep, drop_enc S]
theorem rs_enc {as : List Int} (S : SignsOk as) (n : Nat) : rstripI (encD as n) = encD as n := by
  have := rs_blank (bl := []) (t := encD as n) (by simp) fun k hk => nb_of S (encD_mem S.len.2 n k hk)
  rwa [List.append_nil] at this
theorem ok_tx {as os bl : List Int} (S : SignsOk as) (hb : ∀ k ∈ bl, isBl k = true) : okD as (txF as os ++ bl) := by
  unfold okD
  rw [decL_tx S hb, rs_enc S]
  exact encD_mem S.len.2 _
theorem decN_tx {as os bl : List Int} (S : SignsOk as) (hb : ∀ k ∈ bl, isBl k = true) : decN as (txF as os ++ bl) = vN os := by
  unfold decN
  rw [decL_tx S hb, rs_enc S, decV_enc S, Int.toNat_natCast]
theorem vN_val : ∀ (l : List Int), vN l.reverse = val 256 (l.map Int.toNat)
  | [] => rfl
  | x :: r => by
    rw [List.reverse_cons, vN_snoc, vN_val r, List.map_cons, val]
    omega
theorem tidy_of : ∀ {l : List Nat}, (∀ d ∈ l.getLast?, d ≠ 0) → tidy l
  | [], _ => trivial
  | [d], h => h d (by simp)
  | _ :: y :: r, h => tidy_of (l := y :: r) fun d hd => h d (by rw [List.getLast?_cons_cons]; exact hd)
theorem dg_oct {os : List Int} (h : ∀ x ∈ os, 0 ≤ x ∧ x < 256) : (iz (dg 256 (vN os))).reverse = os.dropWhile (· == 0) := by
  rw [← vN_strip]
  have h1 : ∀ x ∈ os.dropWhile (· == 0), 0 ≤ x ∧ x < 256 := fun x hx => h x ((List.dropWhile_sublist _).subset hx)
  have h2 : ∀ x ∈ (os.dropWhile (· == 0)).head?, x ≠ 0 := fun x hx => by
    have := List.head?_dropWhile_not (p := (· == 0)) (l := os)
    rw [Option.mem_def.mp hx] at this
    simpa using this
  generalize os.dropWhile (· == 0) = l at h1 h2
  have e : vN l = val 256 (l.reverse.map Int.toNat) := by
    have := vN_val l.reverse
    rwa [List.reverse_reverse] at this
  rw [e, dg_val (by omega)]
  · unfold iz
    rw [List.map_map, ← List.map_reverse, List.reverse_reverse]
    conv => rhs; rw [← List.map_id l]
    refine List.map_congr_left fun x hx => ?_
    have := h1 x hx
    show ((x.toNat : Nat) : Int) = id x
    simp only [id]
    omega
  · intro d hd
    obtain ⟨x, hx, rfl⟩ := List.mem_map.mp hd
    have := h1 x (List.mem_reverse.mp hx)
    omega
  · refine tidy_of fun d hd => ?_
    rw [List.map_reverse, List.getLast?_reverse, List.head?_map] at hd
    obtain ⟨x, hx, rfl⟩ : ∃ x, l.head? = some x ∧ x.toNat = d := by
      cases q : l.head? with
      | none => rw [q] at hd; cases hd
      | some x => rw [q] at hd; exact ⟨x, rfl, Option.some.inj hd⟩
    have h3 := h2 x hx
    have h4 := h1 x (List.mem_of_head? hx)
    omega
theorem decF_tx {as os bl : List Int} (S : SignsOk as) (hb : ∀ k ∈ bl, isBl k = true) (ho : ∀ x ∈ os, 0 ≤ x ∧ x < 256) : decF as (txF as os ++ bl) = os := by
  unfold decF
  rw [decN_tx S hb, decL_tx S hb, rs_blank hb fun k hk => nb_of S (txF_mem S.len.2 k hk), dg_oct ho]
  have e : (txF as os).length - (encD as (vN os)).length = (os.takeWhile (· == 0)).length := by
    unfold txF
    rw [List.length_append, List.length_replicate]
    omega
  rw [e]
  conv => rhs; rw [← List.takeWhile_append_dropWhile (p := (· == 0)) (l := os)]
  congr 1
  symm
  rw [List.eq_replicate_iff]
  refine ⟨rfl, fun b hb => ?_⟩
  have h3 : ∀ l : List Int, ∀ x ∈ l.takeWhile (· == 0), x = 0 := by
    intro l
    induction l with
    | nil => simp
    | cons y r ih =>
      intro x hx
      rw [List.takeWhile_cons] at hx
      split at hx
      · rename_i q
        rcases List.mem_cons.mp hx with rfl | hx
        · simpa using q
        · exact ih x hx
      · cases hx
  exact h3 os b hb
theorem rs_all {bl : List Int} (hb : ∀ k ∈ bl, isBl k = true) : rstripI bl = [] := rs_blank (t := []) hb (by simp)
theorem decL_bl {as bl : List Int} (hb : ∀ k ∈ bl, isBl k = true) : decL as bl = [] := by
  unfold decL lstripI; rw [rs_all hb]; rfl
theorem ok_bl {as bl : List Int} (hb : ∀ k ∈ bl, isBl k = true) : okD as bl := by
  unfold okD; rw [decL_bl hb, rs_all (by simp)]; simp
theorem decN_bl {as bl : List Int} (hb : ∀ k ∈ bl, isBl k = true) : decN as bl = 0 := by
  unfold decN; rw [decL_bl hb, rs_all (by simp)]; rfl
theorem decF_bl {as bl : List Int} (hb : ∀ k ∈ bl, isBl k = true) : decF as bl = [] := by
  unfold decF; rw [decN_bl hb, decL_bl hb, rs_all hb, dg_zero]; rfl
theorem vN_small {os : List Int} (ho : ∀ x ∈ os, 0 ≤ x ∧ x < 256) (hl : os.length ≤ 16) : vN os < 2 ^ 128 :=
  Nat.lt_of_lt_of_le (vN_lt os ho) (Nat.le_trans (Nat.pow_le_pow_right (by decide) hl) (by decide))
theorem hash_in {ks : List Int} : ∀ x ∈ (hashF ks).take 4, 0 ≤ x ∧ x < 256 := fun x hx => by
  unfold hashF at hx
  obtain ⟨k, _, rfl⟩ := List.mem_map.mp (List.mem_of_mem_take hx)
  exact fm_b (by omega)
/-- the number that the law adds up: ranks from the last to the first -/
def numF (rk : List Int) (B : Int) : Nat → Int
  | 0 => 0
  | k + 1 => numF rk B k + rk.reverse.getD k 0 * B ^ k
theorem numF_val {B : Nat} : ∀ (l : List Nat) (k : Nat), k ≤ l.length → numF (iz l).reverse B k + (B : Int) ^ k * (val B (l.drop k) : Int) = (val B l : Int)
  | l, 0, _ => by simp [numF]
  | l, k + 1, h => by
    have ih := numF_val (B := B) l k (by omega)
    rw [numF, List.reverse_reverse]
    rw [List.drop_eq_getElem_cons (by omega : k < l.length), val] at ih
    have e : (iz l).getD k 0 = (l[k] : Int) := by
      unfold iz
      rw [List.getD_eq_getElem?_getD, List.getElem?_map, List.getElem?_eq_getElem (by omega)]
      rfl
    rw [e, ← ih, Int.pow_succ, Int.natCast_add, Int.natCast_mul, Int.mul_add, Int.mul_assoc, Int.mul_comm (B ^ k) (l[k] : Int)]
    omega
theorem numF_all {as os : List Int} (h : 2 ≤ as.length) : numF (iz (dg as.length (vN os))).reverse as.length (iz (dg as.length (vN os))).reverse.length = vN os := by
  have := numF_val (B := as.length) (dg as.length (vN os)) _ (Nat.le_refl _)
  rw [List.drop_length, val_dg h] at this
  rw [List.length_reverse, iz_len]
  simpa [val] using this
end

local macro_rules | `(tactic| walk_at "call ref") => `(tactic| (k_here; (with_reducible show wpAny _ _ (call (Value.ref 60) [Value.bytes _ _] _) _ _ _); k_dflt (refine' use_ctrX (decK _ _ _ _ _ _ _ ?v ?va ?l ?n ?kk ?sp ?vv) ?B ?F ?X ?N ?T ?G ?hk ?hd ?hu ?_ ?_; (case v => kba_ints2); (case va => kba_ints2); (case l => assumption); (case n => assumption); (case kk => first | kba_size | omega); (case sp => assumption); (case vv => assumption); (case G => assumption); walk_at "MINE sidesX"); walk_at "MINE decO"))
local macro_rules | `(tactic| walk_at "call ref") => `(tactic| (k_here; (with_reducible show wpAny _ _ (call (Value.ref 60) [Value.str _ _] _) _ _ _); k_dflt (refine' use_ctrX (decKS _ _ _ _ _ _ _ ?v ?vx ?va ?l ?n ?kk ?sp ?vv) ?B ?F ?X ?N ?T ?G ?hk ?hd ?hu ?_ ?_; (case v => assumption); (case vx => assumption); (case va => kba_ints2); (case l => assumption); (case n => assumption); (case kk => first | kba_size | omega); (case sp => assumption); (case vv => assumption); (case G => assumption); walk_at "MINE sidesX"); walk_at "MINE decO"))
local macro_rules | `(tactic| walk_at "MINE decO") => `(tactic| (rotate_left; (exact fun _ _ _ _ _ hx => absurd (by assumption) hx); (intro r9 h9 tk9 F9 N9 hr9; obtain ⟨hok9, b9, t9, hr9, hb9⟩ := hr9; subst hr9; (try rw [‹decF _ _ = _›] at hb9); (try dsimp only); (try k_fold))))
local macro_rules | `(tactic| walk_at "call ref") => `(tactic| (k_here; (with_reducible show wpAny _ _ (call (Value.ref 115) [Value.bytes _ _] _) _ _ _); k_dflt (refine' use_ctr (hash _ _ _ _ ?v ?l) ?B ?F ?X ?N ?T ?hk ?hp ?hd ?hu ?_; (case v => kba_ints2); (case l => first | kba_size | (rw [hashF_len]; omega)); walk_at "MINE sides"); (intro r9 h9 tk9 F9 N9 hr9; obtain ⟨b9, t9, hr9, hb9⟩ := hr9; subst hr9; (try rw [‹List.take (clipAt _ (-4)) _ = _›] at hb9); (try dsimp only); (try k_fold))))
theorem bts_eq {a b : Array UInt8} (h : KBw.bInts a = KBw.bInts b) : a.toList = b.toList := by
  unfold KBw.bInts at h
  exact (List.map_inj_right (fun x y e => UInt8.toNat_inj.mp (Int.ofNat.inj e))).mp h
theorem clip4 (l : List Int) : List.take (clipAt (hashF l).length 4) (hashF l) = List.take 4 (hashF l) := by
  rw [hashF_len]; rfl
set_option maxHeartbeats 8000000 in
theorem decChk (w : World) (v al : Array UInt8) (ks as os chk : List Int) (t t2 : Tok) (hv : KBw.bInts v = ks) (hal : KBw.bInts al = as) (hl : as.length ≤ 59 ∧ 2 ≤ as.length) (hnd : as.Nodup) (hkl : ks.length ≤ 300) (hsp : ∀ k ∈ as, k ≠ 32)
    (hok : okD as ks) (hV : okD as ks → decN as ks < 2 ^ 128) (hF : decF as ks = os ++ chk) (hc : chk = (hashF (hashF os)).take 4) (hol : os.length ≤ 12) :
    CtrX 16 w 77 [.bytes v t, .bytes al t2] [(Str.ofString "sha256", .ref 115)] (isBts os) False := by
  have hc4 : chk.length = 4 := by rw [hc, List.length_take, hashF_len]; omega
  have hfL1 : (hashF (hashF os)).length = 8 := hashF_len _
  have hclip : clipAt (os ++ chk).length (-4) = os.length := by
    unfold clipAt
    simp only [List.length_append]
    split <;> omega
  have cut1 : List.take (clipAt (os ++ chk).length (-4)) (os ++ chk) = os := by rw [hclip, List.take_left']; rfl
  have cut2 : List.take ((os ++ chk).length - clipAt (os ++ chk).length (-4)) (List.drop (clipAt (os ++ chk).length (-4)) (os ++ chk)) = chk := by
    rw [hclip, List.drop_left' rfl, List.take_of_length_le]
    simp only [List.length_append]
    omega
  k_with_none; w_top off
  dsimp only [CtrX]; k_fill
  intro mean mg mb dp un gd cn cs a0 ccd cl outer A₀ base h₀ L m s Q E BB F X T G hcs hd hu hret hexc
  have hnil : IntsAre [] [] := .nil
  have G' : Gnd w mean mg mb base (envX cn cs L a0 ccd cl :: outer) s.heap := G.push F
  walk_at "MINE enter"
  k_steps
  · have k1 := ‹KBw.bInts (KBy.picked _ (some (-4)) none) = _›
    have k2 := ‹KBw.bInts (KBy.picked _ none (some 4)) = _›
    have hne := ‹(_ != _) = true›
    rw [cut2] at k1
    rw [clip4, ← hc] at k2
    rw [bts_eq (k1.trans k2.symm)] at hne
    simp at hne
  · try dsimp only
    have k0 := ‹KBw.bInts (KBy.picked _ none (some (-4))) = _›
    exact hret _ _ _ (Fr.keep (by k_asm)) ⟨_, _, rfl, by rw [k0, cut1]⟩

section
set_option maxHeartbeats 8000000 in
theorem decChkS (w : World) (v : Str) (al : Array UInt8) (ks as os chk : List Int) (t t2 : Tok) (hv : cInts v = ks) (hx : ∀ k ∈ ks, k < 128 ∧ ¬ (28 ≤ k ∧ k ≤ 31)) (hal : KBw.bInts al = as) (hl : as.length ≤ 59 ∧ 2 ≤ as.length) (hnd : as.Nodup) (hkl : ks.length ≤ 300) (hsp : ∀ k ∈ as, k ≠ 32)
    (hok : okD as ks) (hV : okD as ks → decN as ks < 2 ^ 128) (hF : decF as ks = os ++ chk) (hc : chk = (hashF (hashF os)).take 4) (hol : os.length ≤ 12) :
    CtrX 16 w 77 [.str v t, .bytes al t2] [(Str.ofString "sha256", .ref 115)] (isBts os) False := by
  have hc4 : chk.length = 4 := by rw [hc, List.length_take, hashF_len]; omega
  have hfL1 : (hashF (hashF os)).length = 8 := hashF_len _
  have hclip : clipAt (os ++ chk).length (-4) = os.length := by
    unfold clipAt
    simp only [List.length_append]
    split <;> omega
  have cut1 : List.take (clipAt (os ++ chk).length (-4)) (os ++ chk) = os := by rw [hclip, List.take_left']; rfl
  have cut2 : List.take ((os ++ chk).length - clipAt (os ++ chk).length (-4)) (List.drop (clipAt (os ++ chk).length (-4)) (os ++ chk)) = chk := by
    rw [hclip, List.drop_left' rfl, List.take_of_length_le]
    simp only [List.length_append]
    omega
  k_with_none; w_top off
  dsimp only [CtrX]; k_fill
  intro mean mg mb dp un gd cn cs a0 ccd cl outer A₀ base h₀ L m s Q E BB F X T G hcs hd hu hret hexc
  have hnil : IntsAre [] [] := .nil
  have G' : Gnd w mean mg mb base (envX cn cs L a0 ccd cl :: outer) s.heap := G.push F
  walk_at "MINE enter"
  k_steps
  · have k1 := ‹KBw.bInts (KBy.picked _ (some (-4)) none) = _›
    have k2 := ‹KBw.bInts (KBy.picked _ none (some 4)) = _›
    have hne := ‹(_ != _) = true›
    rw [cut2] at k1
    rw [clip4, ← hc] at k2
    rw [bts_eq (k1.trans k2.symm)] at hne
    simp at hne
  · try dsimp only
    have k0 := ‹KBw.bInts (KBy.picked _ none (some (-4))) = _›
    exact hret _ _ _ (Fr.keep (by k_asm)) ⟨_, _, rfl, by rw [k0, cut1]⟩
end

local macro_rules | `(tactic| walk_at "call ref") => `(tactic| (k_here; (with_reducible show wpAny _ _ (call (Value.ref 60) [Value.bytes _ _, Value.bytes _ _] _) _ _ _); k_dflt (refine' use_ctrX (dec _ _ _ _ _ _ _ ?v ?va ?l ?n ?kk ?sp ?vv) ?B ?F ?X ?N ?T ?G ?hk ?hd ?hu ?_ ?_; (case v => kba_ints2); (case va => kba_ints2); (case l => assumption); (case n => assumption); (case kk => first | kba_size | omega); (case sp => assumption); (case vv => first | assumption | exact fun hx => absurd hx (by assumption)); (case G => assumption); walk_at "MINE sidesX"); walk_at "MINE decR"))
local macro_rules | `(tactic| walk_at "call ref") => `(tactic| (k_here; (with_reducible show wpAny _ _ (call (Value.ref 51) [Value.bytes _ _, Value.bytes _ _] _) _ _ _); k_dflt (refine' use_ctrX (decInt _ _ _ _ _ _ _ ?v ?va ?l ?n ?kk ?sp) ?B ?F ?X ?N ?T ?G ?hk ?hd ?hu ?_ ?_; (case v => kba_ints2); (case va => kba_ints2); (case l => assumption); (case n => assumption); (case kk => first | kba_size | omega); (case sp => assumption); (case G => assumption); walk_at "MINE sidesX"); walk_at "MINE decR"))
local macro_rules | `(tactic| walk_at "MINE decR") => `(tactic| ((focus (intro r9 h9 tk9 F9 N9 hr9; exact absurd hr9.1 (by assumption))); (intro e9 t9 h9 tk9 vs9 hx9 hR9 hU9; (try dsimp only))))
/-- the contract of a def that catches and comes back: the frames below may have got their slots -/
abbrev CtrT (lev : Nat) (w : World) (f : Addr) (vs : List Value) (r : Value) : Prop :=
  ∀ (mean : ExcName → Option Value) (mg mb : Str → Option Value) (dp un : Nat) (gd : Option (List Code)) (cn : Str) (cs : Scope) (a : Addr) (ccd : Value) (cl : List (Str × Addr)) (outer : List Env) (A₀ : Around) (base h₀ : Heap) (L : Addr) (m : Str → Option Value) (s : Shared) (Q E : Value → Shared → Prop),
    Below A₀ base outer h₀ → Fr h₀ L s.heap m → (hd.heap_39 w.params).In h₀ → Top hd.view_39 LSN mean mg mb h₀ → Gnd w mean mg mb base outer h₀ → cs.kind = .function → dp + lev < recursionLimit → un + 10 * lev < cLine →
    (∀ g' h' tk', KtsTurn ((envX cn cs L a ccd cl :: outer).filterMap (·.frame)) s.heap g' → g'.StaysIn h' → Q r { s with heap := h', toks := tk' }) →
    wpAny (model PySem.Challenge.rw_ej5004_01.row.prog w) (ktrTop dp un gd cn cs L a ccd cl outer) (call (.ref f) vs []) Q E s
set_option maxHeartbeats 8000000 in
theorem octRef (w : World) (v al : Array UInt8) (ks as : List Int) (t t2 : Tok) (hv : KBw.bInts v = ks) (hal : KBw.bInts al = as) (hl : as.length ≤ 59 ∧ 2 ≤ as.length) (hnd : as.Nodup) (hkl : ks.length ≤ 300) (hsp : ∀ k ∈ as, k ≠ 32)
    (hbad : ¬ okD as ks) :
    CtrT 20 w 122 [.bytes v t, .bytes al t2] (.bool true) := by
  k_with_none; w_top off
  dsimp only [CtrT]; k_fill
  intro mean mg mb dp un gd cn cs a0 ccd cl outer A₀ base h₀ L m s Q E BB F X T G hcs hd hu hret
  have hnil : IntsAre [] [] := .nil
  have G' : Gnd w mean mg mb base (envX cn cs L a0 ccd cl :: outer) s.heap := G.push F
  walk_at "MINE enter"
  k_steps
  have hR9 := ‹RaisedS _ _ _ _ _ _ _ _ _›
  have hU9 := ‹Heap.UpToSlots _ _›
  refine caught_S0 (T' := "ValueError") hR9 (by assumption) (by assumption) hU9 G.has G.top G'.dicts KtsTurn.refl (by k_is) PyProof.Rows.Boot.«ValueError» (by decide) PySem.F.isExc_ValueError PySem.F.notTuple_ValueError (by kts_sub) ?_
  intro h' g' n₂ T9 F' N₂ G9 N' K' X' P' D'
  k_steps
  try dsimp only
  exact hret _ _ _ T9 (Fr.keep F')
set_option maxHeartbeats 8000000 in
theorem numRef (w : World) (v al : Array UInt8) (ks as : List Int) (t t2 : Tok) (hv : KBw.bInts v = ks) (hal : KBw.bInts al = as) (hl : as.length ≤ 59 ∧ 2 ≤ as.length) (hnd : as.Nodup) (hkl : ks.length ≤ 300) (hsp : ∀ k ∈ as, k ≠ 32)
    (hbad : ¬ ∀ k ∈ rstripI ks, k ∈ as) :
    CtrT 20 w 129 [.bytes v t, .bytes al t2] (.bool true) := by
  k_with_none; w_top off
  dsimp only [CtrT]; k_fill
  intro mean mg mb dp un gd cn cs a0 ccd cl outer A₀ base h₀ L m s Q E BB F X T G hcs hd hu hret
  have hnil : IntsAre [] [] := .nil
  have G' : Gnd w mean mg mb base (envX cn cs L a0 ccd cl :: outer) s.heap := G.push F
  walk_at "MINE enter"
  k_steps
  have hR9 := ‹RaisedS _ _ _ _ _ _ _ _ _›
  have hU9 := ‹Heap.UpToSlots _ _›
  refine caught_S0 (T' := "ValueError") hR9 (by assumption) (by assumption) hU9 G.has G.top G'.dicts KtsTurn.refl (by k_is) PyProof.Rows.Boot.«ValueError» (by decide) PySem.F.isExc_ValueError PySem.F.notTuple_ValueError (by kts_sub) ?_
  intro h' g' n₂ T9 F' N₂ G9 N' K' X' P' D'
  k_steps
  try dsimp only
  exact hret _ _ _ T9 (Fr.keep F')
theorem use_ctrT {lev : Nat} {w : World} {f : Addr} {vs : List Value} {r : Value} (C : CtrT lev w f vs r)
    {mean : ExcName → Option Value} {mg mb : Str → Option Value} {dp un : Nat} {gd : Option (List Code)} {cn : Str} {cs : Scope} {a : Addr} {ccd : Value} {cl : List (Str × Addr)} {A₀ : Around} {h₀ : Heap} {L : Addr} {m : Str → Option Value} {news : List (Addr × Obj)} {s : Shared} {Q E : Value → Shared → Prop}
    (B : Below A₀ h₀ [] h₀) (F : Fr h₀ L s.heap m) (X : (hd.heap_39 w.params).In h₀) (N : News h₀ L s.heap news) (T : Top hd.view_39 LSN mean mg mb h₀) (hk : cs.kind = .function) (hd : dp + lev < recursionLimit) (hu : un + 10 * lev < cLine)
    (ret : ∀ h' tk', Fr h₀ L h' m → News h₀ L h' news → Q r { s with heap := h', toks := tk' }) :
    wpAny (model PySem.Challenge.rw_ej5004_01.row.prog w) (ktrTop dp un gd cn cs L a ccd cl []) (call (.ref f) vs []) Q E s := by
  refine C mean mg mb dp un gd cn cs a ccd cl [] A₀ h₀ h₀ L m s Q E B F X T ⟨X, T, fun b hb => by cases hb⟩ hk hd hu fun g' h' tk' K st => ret h' tk' ⟨?_, fun b o hb => ?_, F.above⟩ fun p hp => ?_
  · refine Heap.UpToSlots.ns (fun b o hb _ => ?_) F.ns
    obtain ⟨sl, hs⟩ := K.up hb
    exact ⟨sl, st _ _ hs⟩
  · refine st _ _ (K.other b o (F.keep _ _ hb) fun hm => ?_)
    obtain ⟨env, he, hf⟩ := List.mem_filterMap.mp hm
    rw [List.mem_singleton.mp he] at hf
    have hLb : L = b := Option.some.inj hf
    have := kts_self F
    rw [hLb, hb] at this
    cases this
  · refine ⟨st _ _ (K.other _ _ (N p hp).1 fun hm => ?_), (N p hp).2⟩
    obtain ⟨env, he, hf⟩ := List.mem_filterMap.mp hm
    rw [List.mem_singleton.mp he] at hf
    exact (N p hp).2.1 (Option.some.inj hf).symm

theorem draw_k5 {k x : Int} (h0 : 0 ≤ k) (h1 : k < 0 + ((1 + x.fmod 3 - 0).toNat : Int)) : 0 ≤ 5 + k ∧ 5 + k ≤ 100 := by
  have := fm_b (x := x) (B := 3) (by omega)
  omega
theorem draw_k10 {k x : Int} (h0 : 0 ≤ k) (h1 : k < 0 + ((x.fmod 9 - 0).toNat : Int)) : 0 ≤ 10 + k ∧ 10 + k ≤ 100 := by
  have := fm_b (x := x) (B := 9) (by omega)
  omega
theorem len63 {ns : List Int} (h : ¬ ((63 : Nat) : Int) < (ns.length : Int)) : ns.length ≤ 63 := by omega
theorem len63b {ns : List Int} (h : ¬ (63 : Int) < (ns.length : Int)) : ns.length ≤ 63 := by omega
theorem sgn_ok {ks : List Int} {a b c d : Int} (h : ks = signsF a b c d) : SignsOk ks := h ▸ signs_ok a b c d
local macro_rules | `(tactic| walk_at "call ref") => `(tactic| (k_here; (with_reducible show wpAny _ _ (call (Value.ref 86) [Value.ref _, Value.int _ _] _) _ _ _); k_dflt (refine' use_ctr (draw _ _ _ _ _ _ ?v) ?B ?F ?X ?N ?T ?hk ?hp ?hd ?hu ?_; (case v => first | exact ⟨by decide, by decide⟩ | exact draw_k5 (by assumption) (by assumption) | exact draw_k10 (by assumption) (by assumption)); (case B => k_asm); (case F => k_asm); (case X => k_asm); (case N => k_asm); (case T => k_asm); (case hk => exact rfl); (case hp => exact ⟨by assumption, by assumption, by first | exact len63 (by assumption) | exact len63b (by assumption)⟩); (case hd => k_room); (case hu => ktr_units)); walk_at "MINE int"))
local macro_rules | `(tactic| walk_at "call ref") => `(tactic| (k_here; (with_reducible show wpAny _ _ (call (Value.ref 91) [Value.int _ _, Value.int _ _, Value.int _ _, Value.int _ _] _) _ _ _); k_dflt (refine' use_ctr (signs _ _ _ _ _ _ _ _ _) ?B ?F ?X ?N ?T ?hk ?hp ?hd ?hu ?_; (case B => k_asm); (case F => k_asm); (case X => k_asm); (case N => k_asm); (case T => k_asm); (case hk => exact rfl); (case hp => trivial); (case hd => k_room); (case hu => ktr_units)); walk_at "MINE sgn"))
local macro_rules | `(tactic| walk_at "MINE sgn") => `(tactic| (intro r9 h9 tk9 F9 N9 hr9; k_dflt (obtain ⟨b9, t9, hr9, hb9⟩ := hr9); subst hr9; (have hS9 := sgn_ok hb9); (clear hb9); (generalize hG9 : KBw.bInts b9 = as9 at hS9); (have hlen9 := hS9.len); (have hnd9 := hS9.nd); (have hsp9 := hS9.sp); (have hrng9 := hS9.rng); (try dsimp only); (try k_fold)))
local macro_rules | `(tactic| walk_at "MINE bts") => `(tactic| (intro r9 h9 tk9 F9 N9 hr9; k_dflt (obtain ⟨b9, t9, hr9, hb9⟩ := hr9); subst hr9; (try dsimp only); (try k_fold)))
local macro_rules | `(tactic| walk_at "MINE int") => `(tactic| (intro r9 h9 tk9 F9 N9 hr9; k_dflt (obtain ⟨t9, hr9⟩ := hr9); subst hr9; (try dsimp only); (try k_fold)))

theorem rowIn1 {g : Int → Int} {l : List Int} : KBa.In (l.map fun k => (g k).fmod 256) := fun n hn => by
  obtain ⟨x, _, rfl⟩ := List.mem_map.mp hn
  exact fm_b (by omega)
theorem rowIn2 {g : Int → Int} {l : List Int} : KBa.In ([0] ++ l.map fun k => (g k).fmod 256) := fun n hn => by
  rcases List.mem_append.mp hn with hn | hn
  · rw [List.mem_singleton.mp hn]; omega
  · exact rowIn1 n hn
theorem rowLen1 {f : Int → Int} {x : Int} : (List.map f (rangeKs 0 (x.fmod 9 - 0).toNat)).length ≤ 9 := by
  have := fm_b (x := x) (B := 9) (by omega)
  rw [List.length_map, rangeKs_length]; omega
theorem rowLen2 {f : Int → Int} {x : Int} : ([0] ++ List.map f (rangeKs 0 (x.fmod 9 - 0).toNat)).length ≤ 9 := by
  have := fm_b (x := x) (B := 9) (by omega)
  rw [List.length_append, List.length_map, rangeKs_length]; simp only [List.length_cons, List.length_nil]; omega
section
variable {prog : Program} {w : World} {A : Around} {E : Value → Shared → Prop} {s : Shared} {h₀ : Heap} {L D : Addr} {m : Str → Option Value} {news : List (Addr × Obj)}
theorem bytesRow_K {vs : List Value} {ns : List Int} {Q : Value → Shared → Prop} (F : Fr h₀ L s.heap m) (N : News h₀ L s.heap news) (hh : A.handled = none) (hl : s.heap.IsList D vs.toArray) (hi : IntsAre vs ns) (hr : KBa.In ns) (hn : ns.length ≤ 9)
    (h : ∀ b os h' t' k, KBw.bInts b = os → os.length ≤ 9 → (∀ n ∈ os, 0 ≤ n ∧ n < 256) → Fr h₀ L h' m → News h₀ L h' news → Q (.bytes b t') { s with heap := h', toks := k }) : wpAny (model prog w) A (call (.type "bytes") [.ref D]) Q E s :=
  KBa.make_K F N hh hl hi hr (by omega) fun h' t' k F' N' _ => h _ _ h' t' k (KBa.ints_make hr) hn hr F' N'
end
local macro_rules | `(tactic| walk_at "call type:bytes") => `(tactic| (k_here; (with_reducible show wpAny _ _ (call (Value.type "bytes") [Value.ref _]) _ _ _); k_dflt (refine' bytesRow_K ?kbaF ?kbaN ?kbah ?kbal ?kbai ?kbar ?kban ?_; (case kbaF => k_asm); (case kbaN => k_asm); (case kbah => rfl); (case kbal => kba_isList); (case kbai => first | kba_listInts | assumption); (case kbar => first | exact rowIn1 | exact rowIn2); (case kban => first | exact rowLen1 | exact rowLen2)); intro b9 os9 h9 t9 k9 hos9 hol9 hor9 F9 N9; (try ((rename _ ≠ _ ∧ _ => hz9); clear hz9))))
theorem rk_ok {as os : List Int} (hl : as.length ≤ 59 ∧ 2 ≤ as.length) (ho : os.length ≤ 9) (hr : ∀ n ∈ os, 0 ≤ n ∧ n < 256) :
    ((iz (dg as.length (vN os))).reverse).length ≤ 72 ∧ ∀ x ∈ (iz (dg as.length (vN os))).reverse, 0 ≤ x ∧ x < as.length := by
  refine ⟨?_, fun x hx => ?_⟩
  · rw [List.length_reverse, iz_len]
    refine dg_len hl.2 72 _ (Nat.lt_of_lt_of_le (vN_lt os hr) ?_)
    exact Nat.le_trans (Nat.pow_le_pow_right (by omega) ho) (by decide)
  · obtain ⟨d, hd, rfl⟩ := List.mem_map.mp (List.mem_reverse.mp hx)
    have := dg_lt hl.2 _ d hd
    omega
local macro_rules | `(tactic| walk_at "call ref") => `(tactic| (k_here; (with_reducible show wpAny _ _ (call (Value.ref 98) [Value.bytes _ _, Value.int _ _, Value.int _ _] _) _ _ _); k_dflt (refine' use_ctrL (carried _ _ _ _ _ _ _ ?v ?l ?bb) ?B ?F ?X ?N ?T ?hk ?hp ?hd ?hu ?_; (case v => kba_ints2); (case l => omega); (case bb => constructor <;> omega); (case B => k_asm); (case F => k_asm); (case X => k_asm); (case N => k_asm); (case T => k_asm); (case hk => exact rfl); (case hp => trivial); (case hd => k_room); (case hu => ktr_units)); (intro d9 ws9 n9 h9 tk9 F9 N9 hi9); (have hrk9 := rk_ok (by assumption) (by assumption) (by assumption)); (generalize hrd9 : (iz (dg _ (vN _))).reverse = rk9 at hi9 hrk9); (have hrl9 := hrk9.1); (have hrr9 := hrk9.2); (try dsimp only); (try k_fold)))
local macro_rules | `(tactic| walk_at "call ref") => `(tactic| (k_here; (with_reducible show wpAny _ _ (call (Value.ref 105) [Value.bytes _ _] _) _ _ _); k_dflt (refine' use_ctr (noughts _ _ _ _ ?v ?l) ?B ?F ?X ?N ?T ?hk ?hp ?hd ?hu ?_; (case v => kba_ints2); (case l => omega); (case B => k_asm); (case F => k_asm); (case X => k_asm); (case N => k_asm); (case T => k_asm); (case hk => exact rfl); (case hp => trivial); (case hd => k_room); (case hu => ktr_units)); walk_at "MINE int"))

theorem ints_rep (n : Nat) (a : Int) (t : Tok) : IntsAre (List.replicate n [Value.int a t]).flatten (List.replicate n a) := by
  induction n with
  | zero => exact .nil
  | succ n ih => exact .cons _ _ ih
section
variable {prog : Program} {w : World} {A : Around} {E : Value → Shared → Prop} {s : Shared} {h₀ : Heap} {L D : Addr} {m : Str → Option Value} {news : List (Addr × Obj)}
theorem mulOne_K {a : Int} {t : Tok} {os : List Int} {u : Tok} {Q : Value → Shared → Prop} (F : Fr h₀ L s.heap m) (N : News h₀ L s.heap news) (hl : s.heap.IsList D [Value.int a t].toArray) (ho : os.length ≤ 9)
    (h : ∀ D' vs n h' k, Fr h₀ L h' m → News h₀ L h' ((D', listOf vs.toArray n) :: news) → (∀ p ∈ news, p.1 < D') → IntsAre vs (List.replicate (os.takeWhile (· == 0)).length a) → Q (.ref D') { s with heap := h', toks := k }) :
    wpAny (model prog w) A (binaryOp .Mult (.ref D) (.int ((os.takeWhile (· == 0)).length : Int) u)) Q E s := by
  have hle : (os.takeWhile (· == 0)).length ≤ 9 := Nat.le_trans (List.takeWhile_sublist _).length_le ho
  refine KMa.mul F N hl (by omega) (by omega) (by simp only [List.length_cons, List.length_nil, Int.toNat_natCast]; omega) rfl ?_
  intro D' h' F' N' l1
  exact h D' _ 0 h' s.toks F' N' l1 (ints_rep _ a t)
end
local macro_rules | `(tactic| walk_at "binaryOp Mult ref int") => `(tactic| (k_here; (with_reducible show wpAny _ _ (binaryOp Operator.Mult (Value.ref _) (Value.int (List.length (List.takeWhile _ _) : Int) _)) _ _ _); k_dflt (refine' mulOne_K ?F ?N ?l ?o ?_; (case F => k_asm); (case N => k_asm); (case l => is_list); (case o => assumption)); intro D9 vs9 n9 h9 k9 F9 N9 l1 hi9; (try k_lt l1)))

theorem idx_lo {l : List Int} {k n : Int} (hk : k ∈ l) (h : ∀ x, x ∈ l → 0 ≤ x ∧ x < n) : 0 ≤ k := (h k hk).1
theorem idx_hi {l : List Int} {k n : Int} (hk : k ∈ l) (h : ∀ x, x ∈ l → 0 ≤ x ∧ x < n) : k < n := (h k hk).2
theorem item_K2 {prog : Program} {w : World} {A : Around} {E : Value → Shared → Prop} {s : Shared} {b : Array UInt8} {t ui : Tok} {ks : List Int} {i : Int} {value slice : PySem.Expr} {Q : Value → Shared → Prop} (hk : KBw.bInts b = ks) (hfit : ks.length ≤ 1099511627776) (h0 : 0 ≤ i) (h1 : i < (ks.length : Int))
    (h : ∀ t' k, Q (.int (ks.getD i.toNat 0) t') { s with toks := k })
    (hs : subscripted slice false (.bytes b t) (.int i ui) = operate [.bytes b t, .int i ui] (getItem (.bytes b t) (.int i ui)) := by with_unfolding_all rfl)
    (ht : ∀ r, letTemporaryGo value (.bytes b t) r = pure () := by intro _; with_unfolding_all rfl) : wpAny (model prog w) A (subscriptTail value slice (.bytes b t) (.int i ui)) Q E s :=
  KBw.item_K hk hfit h0 h1 (fun t' k _ _ => h t' k) hs ht
local macro_rules | `(tactic| walk_at "subscriptTail") => `(tactic| (k_here; (with_reducible show wpAny _ _ (subscriptTail _ _ (Value.bytes _ _) (Value.int _ _)) _ _ _); k_dflt (refine item_K2 (by assumption) (by omega) (idx_lo (by assumption) (by assumption)) (idx_hi (by assumption) (by assumption)) ?_); intro _ _))
local macro_rules | `(tactic| walk_at "eval ListComp") => `(tactic| (k_here; k_dflt (refine LCg.ListComp_U (F₀ := by k_asm) (by with_unfolding_all rfl) (by decide) (by rfl) (by decide) (by rfl) ?_); k_dflt lcg_toSrc))
theorem getD_mem {as : List Int} {k : Int} (h0 : 0 ≤ k) (h1 : k < as.length) : as.getD k.toNat 0 ∈ as := by
  rw [List.getD_eq_getElem?_getD, List.getElem?_eq_getElem (by omega)]
  exact List.getElem_mem _
/-- the text of octets -/
structure IsTx (as os tx : List Int) : Prop where
  eq : tx = txF as os
  oct : ∀ x ∈ os, 0 ≤ x ∧ x < 256
  len : os.length ≤ 13
/-- the law's text: signs for the noughts and for the ranks -/
theorem text_ok {as os rk : List Int} (hl : as.length ≤ 59 ∧ 2 ≤ as.length) (ho : os.length ≤ 9) (hr : rk.length ≤ 72) (hk : ∀ x ∈ rk, 0 ≤ x ∧ x < as.length) :
    (List.replicate (os.takeWhile (· == 0)).length (as.getD (Int.toNat 0) 0) ++ rk.map fun k => as.getD k.toNat 0).length ≤ 81 ∧
    ∀ x ∈ List.replicate (os.takeWhile (· == 0)).length (as.getD (Int.toNat 0) 0) ++ rk.map fun k => as.getD k.toNat 0, x ∈ as := by
  have hle : (os.takeWhile (· == 0)).length ≤ 9 := Nat.le_trans (List.takeWhile_sublist _).length_le ho
  refine ⟨by rw [List.length_append, List.length_replicate, List.length_map]; omega, fun x hx => ?_⟩
  rcases List.mem_append.mp hx with hx | hx
  · rw [(List.mem_replicate.mp hx).2]
    exact getD_mem (by omega) (by omega)
  · obtain ⟨k, hk9, rfl⟩ := List.mem_map.mp hx
    exact getD_mem (hk k hk9).1 (hk k hk9).2
section
variable {prog : Program} {w : World} {A : Around} {E : Value → Shared → Prop} {s : Shared} {h₀ : Heap} {L D : Addr} {m : Str → Option Value} {news : List (Addr × Obj)}
theorem bytesText_K {vs : List Value} {as os rk : List Int} {Q : Value → Shared → Prop} (F : Fr h₀ L s.heap m) (N : News h₀ L s.heap news) (hh : A.handled = none) (hl : s.heap.IsList D vs.toArray) (hi : IntsAre vs (List.replicate (os.takeWhile (· == 0)).length (as.getD (Int.toNat 0) 0) ++ rk.map fun k => as.getD k.toNat 0))
    (hal : as.length ≤ 59 ∧ 2 ≤ as.length) (hrng : ∀ k ∈ as, 33 ≤ k ∧ k ≤ 126) (ho : os.length ≤ 9) (hr : rk.length ≤ 72) (hk : ∀ x ∈ rk, 0 ≤ x ∧ x < as.length) (hor : ∀ n ∈ os, 0 ≤ n ∧ n < 256) (hrd : (iz (dg as.length (vN os))).reverse = rk)
    (h : ∀ b tx h' t' k, KBw.bInts b = tx → IsTx as os tx → tx.length ≤ 81 → (∀ x ∈ tx, x ∈ as) → Fr h₀ L h' m → News h₀ L h' news → Q (.bytes b t') { s with heap := h', toks := k }) :
    wpAny (model prog w) A (call (.type "bytes") [.ref D]) Q E s := by
  have hT := text_ok (os := os) hal ho hr hk
  have hin : KBa.In (List.replicate (os.takeWhile (· == 0)).length (as.getD (Int.toNat 0) 0) ++ rk.map fun k => as.getD k.toNat 0) := fun x hx => by
    have := hrng x (hT.2 x hx)
    omega
  exact KBa.make_K F N hh hl hi hin (by omega) fun h' t' k F' N' _ => h _ _ h' t' k (KBa.ints_make hin) ⟨by subst hrd; exact law_tx as os, hor, by omega⟩ hT.1 hT.2 F' N'
end
local macro_rules | `(tactic| walk_at "call type:bytes") => `(tactic| (k_here; (with_reducible show wpAny _ _ (call (Value.type "bytes") [Value.ref _]) _ _ _); k_dflt (refine' bytesText_K ?kbaF ?kbaN ?kbah ?kbal ?kbai ?al ?rng ?o ?r ?k ?hor ?hrd ?_; (case kbaF => k_asm); (case kbaN => k_asm); (case kbah => rfl); (case kbal => kba_isList); (case kbai => assumption); (case al => assumption); (case rng => assumption); (case o => assumption); (case r => assumption); (case k => assumption); (case hor => assumption); (case hrd => assumption)); intro b9 tx9 h9 t9 k9 htb9 htx9 htl9 hts9 F9 N9; (try ((rename _ ≠ _ ∧ _ => hz9); clear hz9))))
theorem add_sz {os rk : List Int} {a : Int} {f : Int → Int} (ho : os.length ≤ 9) (hr : rk.length ≤ 72) : (List.replicate (os.takeWhile (· == 0)).length a).length + (rk.map f).length ≤ sizeLine := by
  have hle : (os.takeWhile (· == 0)).length ≤ 9 := Nat.le_trans (List.takeWhile_sublist _).length_le ho
  rw [sizeLine_eq, List.length_replicate, List.length_map]; omega
local macro_rules | `(tactic| walk_at "binaryOp Add ref ref") => `(tactic| (k_here; (with_reducible show wpAny _ _ (binaryOp _ (Value.ref _) (Value.ref _)) _ _ _); (rename IntsAre _ (List.replicate _ _) => z9); k_dflt (refine' kmk_add_ints ?F ?N ?a ?b ?i ?j ?_ ?z; (case F => k_asm); (case N => k_asm); (case a => kba_isList); (case b => kba_isList); (case i => exact z9); (case j => assumption); (case z => exact add_sz (by assumption) (by assumption))); intro D' ws' h' F' N' l1 hI'; (try k_lt l1)))
theorem lenI_K {prog : Program} {w : World} {A : Around} {E : Value → Shared → Prop} {s : Shared} {h₀ : Heap} {L D : Addr} {news : List (Addr × Obj)} {vs : List Value} {ns : List Int} {c : Nat} {Q : Value → Shared → Prop} (N : News h₀ L s.heap news) (hm : (D, listOf vs.toArray c) ∈ news) (hi : IntsAre vs ns) (hl : ns.length ≤ 1000)
    (h : ∀ t' k, Q (.int (ns.length : Int) t') { s with toks := k }) : wpAny (model prog w) A (call (.builtin "len") [.ref D]) Q E s :=
  KM.len_K N hm (by rw [List.size_toArray, hi.length]) (by omega) (h _ _)
local macro_rules | `(tactic| walk_at "call builtin:len") => `(tactic| (k_here; (with_reducible show wpAny _ _ (call (Value.builtin "len") [Value.ref _]) _ _ _); k_dflt (refine' lenI_K ?N ?m ?i ?l ?_; (case N => k_asm); (case m => k_mem); (case i => assumption); (case l => omega)); intro _ _))

abbrev rkO {as rk : List Int} (_ : ∀ x ∈ rk, 0 ≤ x ∧ x < (as.length : Int)) : List Int := rk
abbrev asO {as rk : List Int} (_ : ∀ x ∈ rk, 0 ≤ x ∧ x < (as.length : Int)) : List Int := as
def numI (rk : List Int) (B : Int) (pre : List Int) (c : Int) : Prop := c = numF rk B pre.length
theorem num_start (rk : List Int) (B : Int) : numI rk B [] 0 := rfl
theorem num_turn {rk pre : List Int} {B c k : Int} (h : numI rk B pre c) (hk : k = 0 + (pre.length : Int)) (hl : pre.length < ((rk.length : Int) - 0).toNat) :
    numI rk B (pre ++ [k]) (c + rk.getD (-1 - k + (rk.length : Int)).toNat 0 * B ^ k.toNat) := by
  unfold numI at h ⊢
  rw [List.length_append, List.length_singleton, numF, h]
  have e1 : k.toNat = pre.length := by omega
  have e2 : (-1 - k + (rk.length : Int)).toNat = rk.length - 1 - pre.length := by omega
  rw [e1, e2]
  congr 2
  rw [List.getD_eq_getElem?_getD, List.getD_eq_getElem?_getD, List.getElem?_reverse (by omega)]
theorem num_end {rk : List Int} {B c : Int} {n : Int} (h : numI rk B (rangeKs 0 (n - 0).toNat) c) (hn : n = rk.length) : c = numF rk B rk.length := by
  unfold numI at h
  rw [rangeKs_length] at h
  rw [h, hn]
  congr 1
theorem rank_b {as rk : List Int} (h : ∀ x ∈ rk, 0 ≤ x ∧ x < (as.length : Int)) (hl : as.length ≤ 59 ∧ 2 ≤ as.length) (i : Nat) : 0 ≤ rk.getD i 0 ∧ rk.getD i 0 < 59 := by
  by_cases hi : i < rk.length
  · rw [List.getD_eq_getElem?_getD, List.getElem?_eq_getElem hi]
    have := h _ (List.getElem_mem hi)
    show 0 ≤ rk[i] ∧ rk[i] < 59
    omega
  · rw [List.getD_eq_getElem?_getD, List.getElem?_eq_none (by omega)]
    show (0 : Int) ≤ 0 ∧ (0 : Int) < 59
    omega
section
variable {prog : Program} {w : World} {A : Around} {E : Value → Shared → Prop} {s : Shared}
theorem rankMul_K {as rk : List Int} {i : Nat} {b : Int} {t u : Tok} {Q : Value → Shared → Prop} (hr : ∀ x ∈ rk, 0 ≤ x ∧ x < (as.length : Int)) (hl : as.length ≤ 59 ∧ 2 ≤ as.length)
    (h : Q (.int (rk.getD i 0 * b) s.toks) { s with toks := s.toks + 1 }) : wpAny (model prog w) A (binaryOp .Mult (.int (rk.getD i 0) t) (.int b u)) Q E s :=
  mul_int h (IntMulOk.of_left (intBits_le_64 (by have := rank_b hr hl i; omega) (by have := rank_b hr hl i; omega)))
theorem basePow_K {as rk pre : List Int} {k : Int} {t u : Tok} {Q : Value → Shared → Prop} (hk : k = 0 + (pre.length : Int)) (hlt : pre.length < ((rk.length : Int) - 0).toNat) (hrl : rk.length ≤ 72) (hl : as.length ≤ 59 ∧ 2 ≤ as.length)
    (h : Q (.int ((as.length : Int) ^ k.toNat) s.toks) { s with toks := s.toks + 1 }) : wpAny (model prog w) A (binaryOp .Pow (.int (as.length : Int) t) (.int k u)) Q E s :=
  pow_int_small (by omega) (by omega) (by rw [Int.natAbs_natCast]; omega) h
theorem rankItem_K {value slice : PySem.Expr} {h₀ : Heap} {L : Addr} {news : List (Addr × Obj)} {l : Addr} {n : Nat} {vs : List Value} {ns : List Int} {k : Int} {u : Tok} {Q : Value → Shared → Prop} (N : News h₀ L s.heap news) (hm : (l, listOf vs.toArray n) ∈ news) (hi : IntsAre vs ns)
    {pre : List Int} (hk : k = 0 + (pre.length : Int)) (hlt : pre.length < ((ns.length : Int) - 0).toNat) (hrl : ns.length ≤ 72) (h : ∀ t, Q (.int (ns.getD (-1 - k + ns.length).toNat 0) t) s)
    (hs : subscripted slice false (.ref l) (.int (-1 - k) u) = operate [.ref l, .int (-1 - k) u] (getItem (.ref l) (.int (-1 - k) u)) := by with_unfolding_all rfl) (hg : ∀ r, letTemporaryGo value (.ref l) r = pure () := by intro _; with_unfolding_all rfl) :
    wpAny (model prog w) A (subscriptTail value slice (.ref l) (.int (-1 - k) u)) Q E s :=
  item_list_ints_neg (vs := vs) ⟨_, (N _ hm).1, rfl, n, rfl⟩ hi (by omega) (by omega) (by omega) h hs hg
end
local macro_rules | `(tactic| walk_at "subscriptTail") => `(tactic| (k_here; (with_reducible show wpAny _ _ (subscriptTail _ _ (Value.ref _) (Value.int (-1 - _) _)) _ _ _); k_dflt (refine' rankItem_K ?N ?m ?i ?a ?b ?c ?_; (case N => k_asm); (case m => k_mem); (case i => assumption); (case a => assumption); (case b => assumption); (case c => assumption)); intro _))
local macro_rules | `(tactic| walk_at "binaryOp Mult int int") => `(tactic| (k_here; (with_reducible show wpAny _ _ (binaryOp _ (Value.int (List.getD _ _ _) _) (Value.int (_ ^ _) _)) _ _ _); k_dflt (refine' rankMul_K ?r ?l ?_; (case r => assumption); (case l => assumption))))
local macro_rules | `(tactic| walk_at "binaryOp Pow int int") => `(tactic| (k_here; (with_reducible show wpAny _ _ (binaryOp _ (Value.int (List.length _ : Int) _) (Value.int _ _)) _ _ _); k_dflt (refine' basePow_K ?a ?b ?c ?l ?_; (case a => assumption); (case b => assumption); (case c => assumption); (case l => assumption))))
local macro_rules | `(tactic| walk_at "pyIter ref") => `(tactic| (k_here; (have hr8 := ‹∀ x ∈ _, 0 ≤ x ∧ x < (List.length _ : Int)›); k_state (fun pre c => numI (rkO hr8) ((asO hr8).length : Int) pre c) "number"))

section
/-- a row of blanks, one to n -/
structure Blk (n : Nat) (bl : List Int) : Prop where
  all : ∀ k ∈ bl, isBl k = true
  lo : 1 ≤ bl.length
  hi : bl.length ≤ n
/-- what the decoders tell of a text -/
structure TextOk (as os ks : List Int) : Prop where
  ok : okD as ks
  V : okD as ks → decN as ks < 2 ^ 128
  F : decF as ks = os
  all : ∀ k ∈ rstripI ks, k ∈ as
  num : decV as (rstripI ks) = (vN os : Int)
  len : ks.length ≤ 300
  asc : ∀ k ∈ ks, k < 128 ∧ ¬ (28 ≤ k ∧ k ≤ 31)
structure Bad (as ks : List Int) : Prop where
  ok : ¬ okD as ks
  all : ¬ ∀ k ∈ rstripI ks, k ∈ as
  len : ks.length ≤ 300
structure Near (as nr : List Int) : Prop where
  is : ∃ n, nr = [n] ∧ isBl n = false ∧ n ∉ as
theorem bl_asc {k : Int} (h : isBl k = true) : k < 128 ∧ ¬ (28 ≤ k ∧ k ≤ 31) := by
  unfold isBl at h
  simp only [Bool.or_eq_true, beq_iff_eq, Bool.and_eq_true, decide_eq_true_eq] at h
  omega
theorem txF_len {as os : List Int} (h : 2 ≤ as.length) (ho : ∀ x ∈ os, 0 ≤ x ∧ x < 256) (hl : os.length ≤ 13) : (txF as os).length ≤ 144 := by
  unfold txF
  rw [List.length_append, List.length_replicate]
  have h1 : (os.takeWhile (· == 0)).length ≤ 13 := Nat.le_trans (List.takeWhile_sublist _).length_le hl
  have h2 := vN_small ho (by omega)
  have := encD_len (as := as) (c := (vN os : Int)) h (by omega)
  omega
theorem textOk {as os tx bl : List Int} (S : SignsOk as) (I : IsTx as os tx) (B : Blk 4 bl) : TextOk as os (tx ++ bl) := by
  obtain ⟨rfl, ho, hl⟩ := I
  have hr : rstripI (txF as os ++ bl) = txF as os := rs_blank B.all fun k hk => nb_of S (txF_mem S.len.2 k hk)
  refine ⟨ok_tx S B.all, fun _ => by rw [decN_tx S B.all]; exact vN_small ho (by omega), decF_tx S B.all ho, ?_, ?_, ?_, ?_⟩
  · rw [hr]; exact txF_mem S.len.2
  · rw [hr]; exact decV_tx S os
  · rw [List.length_append]
    have := txF_len S.len.2 ho hl
    have := B.hi
    omega
  · intro k hk
    rcases List.mem_append.mp hk with hk | hk
    · have := S.rng k (txF_mem S.len.2 k hk)
      omega
    · exact bl_asc (B.all k hk)
theorem txF_nil (as : List Int) : txF as [] = [] := by
  unfold txF
  rw [show vN [] = 0 from rfl]
  show [] ++ encD as 0 = []
  rw [encD_zero]; rfl
theorem blankOk {as bl : List Int} (S : SignsOk as) (B : Blk 4 bl) : TextOk as [] bl := by
  have := textOk (os := []) (tx := []) S ⟨(txF_nil as).symm, by simp, by simp⟩ B
  exact this
theorem kinds_all {g : Int → Int} {ls : List Int} : ∀ k ∈ ls.map (fun k' => [32, 9, 10, 13, 11, 12].getD ((g k').fmod 6).toNat 0), isBl k = true := fun k hk => by
  obtain ⟨x, _, rfl⟩ := List.mem_map.mp hk
  have h := fm_b (x := g x) (B := 6) (by omega)
  have e : ∀ i : Fin 6, isBl ([32, 9, 10, 13, 11, 12].getD i.val 0) = true := by decide
  exact e ⟨((g x).fmod 6).toNat, by omega⟩
theorem kinds_one {x : Int} : ∀ k ∈ [[32, 9, 10, 13, 11, 12].getD (x.fmod 6).toNat 0], isBl k = true := fun k hk => by
  rw [List.mem_singleton.mp hk]
  have h := fm_b (x := x) (B := 6) (by omega)
  have e : ∀ i : Fin 6, isBl ([32, 9, 10, 13, 11, 12].getD i.val 0) = true := by decide
  exact e ⟨(x.fmod 6).toNat, by omega⟩
theorem near_one {as : List Int} {x : Int} (S : SignsOk as) : isBl ([0, 28, 29, 30, 31, 127, 133, 160].getD (x.fmod 8).toNat 0) = false ∧ [0, 28, 29, 30, 31, 127, 133, 160].getD (x.fmod 8).toNat 0 ∉ as ∧
    0 ≤ ([0, 28, 29, 30, 31, 127, 133, 160] : List Int).getD (x.fmod 8).toNat 0 ∧ ([0, 28, 29, 30, 31, 127, 133, 160] : List Int).getD (x.fmod 8).toNat 0 < 256 := by
  have h := fm_b (x := x) (B := 8) (by omega)
  have e : ∀ i : Fin 8, isBl ([0, 28, 29, 30, 31, 127, 133, 160].getD i.val 0) = false ∧ 0 ≤ ([0, 28, 29, 30, 31, 127, 133, 160] : List Int).getD i.val 0 ∧ ([0, 28, 29, 30, 31, 127, 133, 160] : List Int).getD i.val 0 < 256 ∧ ¬ (33 ≤ ([0, 28, 29, 30, 31, 127, 133, 160] : List Int).getD i.val 0 ∧ ([0, 28, 29, 30, 31, 127, 133, 160] : List Int).getD i.val 0 ≤ 126) := by decide
  have := e ⟨(x.fmod 8).toNat, by omega⟩
  exact ⟨this.1, fun q => this.2.2.2 (S.rng _ q), this.2.1, this.2.2.1⟩
theorem blk_in {bl : List Int} (h : ∀ k ∈ bl, isBl k = true) : KBa.In bl := fun k hk => by
  have := h k hk
  unfold isBl at this
  simp only [Bool.or_eq_true, beq_iff_eq, Bool.and_eq_true, decide_eq_true_eq] at this
  omega
theorem fm_0 {x B : Int} (h : 0 < B) : 0 ≤ x.fmod B := (fm_b h).1
theorem fm_1 {x B : Int} (h : 0 < B) : x.fmod B < B := (fm_b h).2
theorem fm_2 {x B : Int} (h : 0 < B) (h2 : B < 2 ^ 63) : x.fmod B < 2 ^ 63 := by have := (fm_b (x := x) h).2; omega
section
variable {prog : Program} {w : World} {A : Around} {E : Value → Shared → Prop} {s : Shared} {h₀ : Heap} {L D : Addr} {m : Str → Option Value} {news : List (Addr × Obj)}
theorem blanks_K {vs : List Value} {g : Int → Int} {x : Int} {Q : Value → Shared → Prop} (F : Fr h₀ L s.heap m) (N : News h₀ L s.heap news) (hh : A.handled = none) (hl : s.heap.IsList D vs.toArray)
    (hi : IntsAre vs ((rangeKs 0 (1 + x.fmod 3 - 0).toNat).map (fun k' => [32, 9, 10, 13, 11, 12].getD ((g k').fmod 6).toNat 0)))
    (h : ∀ b bl h' t' k, KBw.bInts b = bl → Blk 3 bl → Fr h₀ L h' m → News h₀ L h' news → Q (.bytes b t') { s with heap := h', toks := k }) : wpAny (model prog w) A (call (.type "bytes") [.ref D]) Q E s := by
  have h3 := fm_b (x := x) (B := 3) (by omega)
  have hB : Blk 3 ((rangeKs 0 (1 + x.fmod 3 - 0).toNat).map (fun k' => [32, 9, 10, 13, 11, 12].getD ((g k').fmod 6).toNat 0)) :=
    ⟨kinds_all, by rw [List.length_map, rangeKs_length]; omega, by rw [List.length_map, rangeKs_length]; omega⟩
  refine KBa.make_K F N hh hl hi (blk_in hB.all) (by have := hB.hi; omega) fun h' t' k F' N' _ => h _ _ h' t' k (KBa.ints_make (blk_in hB.all)) hB F' N'
theorem blank1_K {x : Int} {t : Tok} {Q : Value → Shared → Prop} (F : Fr h₀ L s.heap m) (N : News h₀ L s.heap news) (hh : A.handled = none) (hl : s.heap.IsList D [Value.int ([32, 9, 10, 13, 11, 12].getD (x.fmod 6).toNat 0) t].toArray)
    (h : ∀ b bl h' t' k, KBw.bInts b = bl → Blk 1 bl → Fr h₀ L h' m → News h₀ L h' news → Q (.bytes b t') { s with heap := h', toks := k }) : wpAny (model prog w) A (call (.type "bytes") [.ref D]) Q E s :=
  KBa.make_K F N hh hl (.cons _ _ .nil) (blk_in kinds_one) (by simp) fun h' t' k F' N' _ => h _ _ h' t' k (KBa.ints_make (blk_in kinds_one)) ⟨kinds_one, by simp, by simp⟩ F' N'
theorem near_K {as : List Int} {x : Int} {t : Tok} {Q : Value → Shared → Prop} (S : SignsOk as) (F : Fr h₀ L s.heap m) (N : News h₀ L s.heap news) (hh : A.handled = none) (hl : s.heap.IsList D [Value.int ([0, 28, 29, 30, 31, 127, 133, 160].getD (x.fmod 8).toNat 0) t].toArray)
    (h : ∀ b nr h' t' k, KBw.bInts b = nr → Near as nr → Fr h₀ L h' m → News h₀ L h' news → Q (.bytes b t') { s with heap := h', toks := k }) : wpAny (model prog w) A (call (.type "bytes") [.ref D]) Q E s := by
  have hn := near_one (x := x) S
  have hin : KBa.In [([0, 28, 29, 30, 31, 127, 133, 160] : List Int).getD (x.fmod 8).toNat 0] := fun k hk => by
    rw [List.mem_singleton.mp hk]
    exact hn.2.2
  exact KBa.make_K F N hh hl (.cons _ _ .nil) hin (by simp) fun h' t' k F' N' _ => h _ _ h' t' k (KBa.ints_make hin) ⟨_, rfl, hn.1, hn.2.1⟩ F' N'
variable {b c : Array UInt8} {t u : Tok} {k1 k2 as os : List Int} {Q : Value → Shared → Prop}
theorem addBl_K (hb : KBw.bInts b = k1) (hc : KBw.bInts c = k2) (S : SignsOk as) (B1 : Blk 3 k1) (B2 : Blk 1 k2)
    (h : ∀ d bl t' k, KBw.bInts d = bl → Blk 4 bl → TextOk as [] bl → Q (.bytes d t') { s with toks := k }) : wpAny (model prog w) A (binaryOp .Add (.bytes b t) (.bytes c u)) Q E s := by
  have h1 := B1.hi
  have h2 := B2.hi
  have h3 := B1.lo
  have hB : Blk 4 (k1 ++ k2) := ⟨fun x hx => by
    rcases List.mem_append.mp hx with hx | hx
    · exact B1.all x hx
    · exact B2.all x hx, by rw [List.length_append]; omega, by rw [List.length_append]; omega⟩
  exact KBa.add_K hb hc (by omega) fun t' k e => h _ _ t' k e hB (blankOk S hB)
theorem addTx_K (hb : KBw.bInts b = k1) (hc : KBw.bInts c = k2) (S : SignsOk as) (I : IsTx as os k1) (B : Blk 4 k2)
    (h : ∀ d ks t' k, KBw.bInts d = ks → TextOk as os ks → Q (.bytes d t') { s with toks := k }) : wpAny (model prog w) A (binaryOp .Add (.bytes b t) (.bytes c u)) Q E s := by
  have hT := textOk S I B
  have h1 := hT.len
  rw [List.length_append] at h1
  exact KBa.add_K hb hc (by omega) fun t' k e => h _ _ t' k e hT
theorem addNear_K (hb : KBw.bInts b = k1) (hc : KBw.bInts c = k2) (S : SignsOk as) (I : IsTx as os k1) (B : Near as k2)
    (h : ∀ d ks t' k, KBw.bInts d = ks → Bad as ks → Q (.bytes d t') { s with toks := k }) : wpAny (model prog w) A (binaryOp .Add (.bytes b t) (.bytes c u)) Q E s := by
  obtain ⟨n, rfl, h1, h2⟩ := B
  have h3 := txF_len S.len.2 I.oct I.len
  have h4 := I.eq
  subst h4
  have hr := refuse_near (t := txF as os) S h2 h1
  exact KBa.add_K hb hc (by simp only [List.length_cons, List.length_nil]; omega) fun t' k e => h _ _ t' k e ⟨hr.1, hr.2, by rw [List.length_append]; simp only [List.length_cons, List.length_nil]; omega⟩
theorem take_one {as : List Int} (h : 2 ≤ as.length) : List.take (clipAt as.length 1) as = [as.getD 0 0] := by
  have := pick_first h
  have e : clipAt as.length 0 = 0 := by
    have := clipAt_nat as.length 0
    simpa using this
  rw [e] at this
  simpa using this
theorem addAhead_K (hb : KBw.bInts b = k1) (hc : KBw.bInts c = List.take (clipAt as.length 1) as) (S : SignsOk as) (B : Blk 4 k1)
    (h : ∀ d ks t' k, KBw.bInts d = ks → Bad as ks → Q (.bytes d t') { s with toks := k }) : wpAny (model prog w) A (binaryOp .Add (.bytes b t) (.bytes c u)) Q E s := by
  rw [take_one S.len.2] at hc
  have h1 := B.hi
  have hr := refuse_ahead S B.all (by intro e; have := B.lo; rw [e] at this; simp at this)
  exact KBa.add_K hb hc (by simp only [List.length_cons, List.length_nil]; omega) fun t' k e => h _ _ t' k e ⟨hr.1, hr.2, by rw [List.length_append]; simp only [List.length_cons, List.length_nil]; omega⟩
theorem clip_in {n : Nat} {i : Int} (h0 : 0 ≤ i) (h1 : i < n) : clipAt n i = i.toNat := by
  obtain ⟨j, rfl⟩ := Int.eq_ofNat_of_zero_le h0
  rw [clipAt_nat, Int.toNat_natCast]
  omega
theorem blk_one {bl : List Int} (B : Blk 4 bl) : ∃ x, List.take (clipAt bl.length 1) bl = [x] ∧ isBl x = true := by
  cases bl with
  | nil => have := B.lo; simp at this
  | cons x r =>
    refine ⟨x, ?_, B.all x (.head _)⟩
    have : clipAt (x :: r).length 1 = 1 := by
      have := clipAt_nat (x :: r).length 1
      simp at this
      simpa using this
    rw [this]; rfl
theorem addMid_K {tx bl : List Int} {x : Int} (hb : KBw.bInts b = List.take (clipAt tx.length (x.fmod tx.length)) tx ++ List.take (clipAt bl.length 1) bl)
    (hc : KBw.bInts c = List.take (tx.length - clipAt tx.length (x.fmod tx.length)) (List.drop (clipAt tx.length (x.fmod tx.length)) tx)) (S : SignsOk as) (I : IsTx as os tx) (B : Blk 4 bl) (hne : ¬ ((tx.length : Int) = 0))
    (h : ∀ d ks t' k, KBw.bInts d = ks → Bad as ks → Q (.bytes d t') { s with toks := k }) : wpAny (model prog w) A (binaryOp .Add (.bytes b t) (.bytes c u)) Q E s := by
  have h3 := txF_len S.len.2 I.oct I.len
  have hm : ∀ k ∈ tx, k ∈ as := by rw [I.eq]; exact txF_mem S.len.2
  rw [← I.eq] at h3
  have hf := fm_b (x := x) (B := (tx.length : Int)) (by omega)
  have ec := clip_in hf.1 hf.2
  obtain ⟨y, ey, hy⟩ := blk_one B
  rw [ec, ey] at hb
  rw [ec] at hc
  rw [List.take_of_length_le (by rw [List.length_drop]; omega)] at hc
  have hr := refuse_mid (n := (x.fmod tx.length).toNat) S hy hm (by omega)
  have h5 : (List.take (x.fmod tx.length).toNat tx ++ [y]).length + (List.drop (x.fmod tx.length).toNat tx).length ≤ 300 := by
    simp only [List.length_append, List.length_take, List.length_drop, List.length_cons, List.length_nil]
    omega
  exact KBa.add_K hb hc (by omega) fun t' k e => h _ _ t' k e ⟨hr.1, hr.2, by rw [List.length_append]; exact h5⟩
theorem addCut_K {tx bl : List Int} {i j : Nat} (hb : KBw.bInts b = List.take i tx) (hc : KBw.bInts c = List.take j bl) (hl : tx.length ≤ 81) (B : Blk 4 bl)
    (h : ∀ d t' k, KBw.bInts d = List.take i tx ++ List.take j bl → Q (.bytes d t') { s with toks := k }) : wpAny (model prog w) A (binaryOp .Add (.bytes b t) (.bytes c u)) Q E s :=
  KBa.add_K hb hc (by have := B.hi; simp only [List.length_take]; omega) fun t' k e => h _ t' k e
theorem lenTx_K {tx : List Int} {Q : Value → Shared → Prop} (hk : KBw.bInts b = tx) (hl : tx.length ≤ 81) (h : ∀ t' k, Q (.int (tx.length : Int) t') { s with toks := k }) : wpAny (model prog w) A (call (.builtin "len") [.bytes b t]) Q E s :=
  KBw.len_K hk (by omega) (h _ _)
theorem sz_as {as : List Int} (h : as.length ≤ 59 ∧ 2 ≤ as.length) : as.length ≤ 16777216 := by omega
theorem sz_tx {tx : List Int} (h : tx.length ≤ 81) : tx.length ≤ 16777216 := by omega
theorem sz_bl {bl : List Int} (h : Blk 4 bl) : bl.length ≤ 16777216 := by have := h.hi; omega
theorem neSame_K {ks : List Int} (hb : KBw.bInts b = ks) (hc : KBw.bInts c = ks) (h : Q (.bool false) s) : wpAny (model prog w) A (compareOp .NotEq (.bytes b t) (.bytes c u)) Q E s := by
  refine ne_bytes ?_
  rw [bts_eq (hb.trans hc.symm)]
  simpa using h
theorem neInt_K {x y : Int} (e : x = y) (h : Q (.bool false) s) : wpAny (model prog w) A (compareOp .NotEq (.int x t) (.int y u)) Q E s := by
  subst e
  refine ne_int ?_
  simpa using h
theorem num_same {as os rk : List Int} {c : Int} (S : SignsOk as) (hrd : (iz (dg as.length (vN os))).reverse = rk) (hI : numI rk (as.length : Int) (rangeKs 0 ((rk.length : Int) - 0).toNat) c) : (vN os : Int) = c := by
  have h1 := num_end hI rfl
  subst hrd
  rw [numF_all S.len.2] at h1
  exact h1.symm
end
end

section
section
variable {w : World} {v al : Array UInt8} {x : Str} {ks as os chk : List Int} {t t2 : Tok}
    {mean : ExcName → Option Value} {mg mb : Str → Option Value} {dp un : Nat} {gd : Option (List Code)} {cn : Str} {cs : Scope} {a : Addr} {ccd : Value} {cl : List (Str × Addr)} {A₀ : Around} {h₀ : Heap} {L : Addr} {m : Str → Option Value} {news : List (Addr × Obj)} {s : Shared} {Q E : Value → Shared → Prop}
theorem lawDec (hv : KBw.bInts v = ks) (hal : KBw.bInts al = as) (S : SignsOk as) (K : TextOk as os ks)
    (B : Below A₀ h₀ [] h₀) (F : Fr h₀ L s.heap m) (X : (hd.heap_39 w.params).In h₀) (N : News h₀ L s.heap news) (T : Top hd.view_39 LSN mean mg mb h₀) (hk : cs.kind = .function) (hd : dp + 12 < recursionLimit) (hu : un + 10 * 12 < cLine)
    (ret : ∀ b t h' tk', Fr h₀ L h' m → News h₀ L h' news → KBw.bInts b = os → Q (.bytes b t) { s with heap := h', toks := tk' }) :
    wpAny (model PySem.Challenge.rw_ej5004_01.row.prog w) (ktrTop dp un gd cn cs L a ccd cl []) (call (.ref 60) [.bytes v t, .bytes al t2] []) Q E s := by
  refine use_ctrX (dec w v al ks as t t2 hv hal S.len S.nd K.len S.sp K.V) B F X N T ⟨X, T, fun b hb => by cases hb⟩ hk hd hu (fun r h' tk' F' N' hr => ?_) (fun e t h' tk' vs hx => absurd K.ok hx)
  obtain ⟨_, b, t, rfl, hb⟩ := hr
  exact ret b t h' tk' F' N' (hb.trans K.F)
theorem lawDecS (hv : cInts x = ks) (hal : KBw.bInts al = as) (S : SignsOk as) (K : TextOk as os ks)
    (B : Below A₀ h₀ [] h₀) (F : Fr h₀ L s.heap m) (X : (hd.heap_39 w.params).In h₀) (N : News h₀ L s.heap news) (T : Top hd.view_39 LSN mean mg mb h₀) (hk : cs.kind = .function) (hd : dp + 12 < recursionLimit) (hu : un + 10 * 12 < cLine)
    (ret : ∀ b t h' tk', Fr h₀ L h' m → News h₀ L h' news → KBw.bInts b = os → Q (.bytes b t) { s with heap := h', toks := tk' }) :
    wpAny (model PySem.Challenge.rw_ej5004_01.row.prog w) (ktrTop dp un gd cn cs L a ccd cl []) (call (.ref 60) [.str x t, .bytes al t2] []) Q E s := by
  refine use_ctrX (decS w x al ks as t t2 hv K.asc hal S.len S.nd K.len S.sp K.V) B F X N T ⟨X, T, fun b hb => by cases hb⟩ hk hd hu (fun r h' tk' F' N' hr => ?_) (fun e t h' tk' vs hx => absurd K.ok hx)
  obtain ⟨_, b, t, rfl, hb⟩ := hr
  exact ret b t h' tk' F' N' (hb.trans K.F)
theorem lawInt (hv : KBw.bInts v = ks) (hal : KBw.bInts al = as) (S : SignsOk as) (K : TextOk as os ks)
    (B : Below A₀ h₀ [] h₀) (F : Fr h₀ L s.heap m) (X : (hd.heap_39 w.params).In h₀) (N : News h₀ L s.heap news) (T : Top hd.view_39 LSN mean mg mb h₀) (hk : cs.kind = .function) (hd : dp + 8 < recursionLimit) (hu : un + 10 * 8 < cLine)
    (ret : ∀ t h' tk', Fr h₀ L h' m → News h₀ L h' news → Q (.int (vN os : Int) t) { s with heap := h', toks := tk' }) :
    wpAny (model PySem.Challenge.rw_ej5004_01.row.prog w) (ktrTop dp un gd cn cs L a ccd cl []) (call (.ref 51) [.bytes v t, .bytes al t2] []) Q E s := by
  refine use_ctrX (decInt w v al ks as t t2 hv hal S.len S.nd K.len S.sp) B F X N T ⟨X, T, fun b hb => by cases hb⟩ hk hd hu (fun r h' tk' F' N' hr => ?_) (fun e t h' tk' vs hx => absurd K.all hx)
  obtain ⟨_, t, rfl⟩ := hr
  rw [K.num]
  exact ret t h' tk' F' N'
theorem lawIntS (hv : cInts x = ks) (hal : KBw.bInts al = as) (S : SignsOk as) (K : TextOk as os ks)
    (B : Below A₀ h₀ [] h₀) (F : Fr h₀ L s.heap m) (X : (hd.heap_39 w.params).In h₀) (N : News h₀ L s.heap news) (T : Top hd.view_39 LSN mean mg mb h₀) (hk : cs.kind = .function) (hd : dp + 8 < recursionLimit) (hu : un + 10 * 8 < cLine)
    (ret : ∀ t h' tk', Fr h₀ L h' m → News h₀ L h' news → Q (.int (vN os : Int) t) { s with heap := h', toks := tk' }) :
    wpAny (model PySem.Challenge.rw_ej5004_01.row.prog w) (ktrTop dp un gd cn cs L a ccd cl []) (call (.ref 51) [.str x t, .bytes al t2] []) Q E s := by
  refine use_ctrX (decIntS w x al ks as t t2 hv K.asc hal S.len S.nd K.len S.sp) B F X N T ⟨X, T, fun b hb => by cases hb⟩ hk hd hu (fun r h' tk' F' N' hr => ?_) (fun e t h' tk' vs hx => absurd K.all hx)
  obtain ⟨_, t, rfl⟩ := hr
  rw [K.num]
  exact ret t h' tk' F' N'
/-- the octets with their check -/
def withChk (os : List Int) : List Int := os ++ (hashF (hashF os)).take 4
theorem lawChk (hv : KBw.bInts v = ks) (hal : KBw.bInts al = as) (S : SignsOk as) (K : TextOk as (withChk os) ks) (hol : os.length ≤ 9)
    (B : Below A₀ h₀ [] h₀) (F : Fr h₀ L s.heap m) (X : (hd.heap_39 w.params).In h₀) (N : News h₀ L s.heap news) (T : Top hd.view_39 LSN mean mg mb h₀) (hk : cs.kind = .function) (hd : dp + 16 < recursionLimit) (hu : un + 10 * 16 < cLine)
    (ret : ∀ b t h' tk', Fr h₀ L h' m → News h₀ L h' news → KBw.bInts b = os → Q (.bytes b t) { s with heap := h', toks := tk' }) :
    wpAny (model PySem.Challenge.rw_ej5004_01.row.prog w) (ktrTop dp un gd cn cs L a ccd cl []) (call (.ref 77) [.bytes v t, .bytes al t2] [(Str.ofString "sha256", .ref 115)]) Q E s := by
  refine use_ctrX (decChk w v al ks as os _ t t2 hv hal S.len S.nd K.len S.sp K.ok K.V K.F rfl (by omega)) B F X N T ⟨X, T, fun b hb => by cases hb⟩ hk hd hu (fun r h' tk' F' N' hr => ?_) (fun e t h' tk' vs hx => hx.elim)
  obtain ⟨b, t, rfl, hb⟩ := hr
  exact ret b t h' tk' F' N' hb
theorem lawChkS (hv : cInts x = ks) (hal : KBw.bInts al = as) (S : SignsOk as) (K : TextOk as (withChk os) ks) (hol : os.length ≤ 9)
    (B : Below A₀ h₀ [] h₀) (F : Fr h₀ L s.heap m) (X : (hd.heap_39 w.params).In h₀) (N : News h₀ L s.heap news) (T : Top hd.view_39 LSN mean mg mb h₀) (hk : cs.kind = .function) (hd : dp + 16 < recursionLimit) (hu : un + 10 * 16 < cLine)
    (ret : ∀ b t h' tk', Fr h₀ L h' m → News h₀ L h' news → KBw.bInts b = os → Q (.bytes b t) { s with heap := h', toks := tk' }) :
    wpAny (model PySem.Challenge.rw_ej5004_01.row.prog w) (ktrTop dp un gd cn cs L a ccd cl []) (call (.ref 77) [.str x t, .bytes al t2] [(Str.ofString "sha256", .ref 115)]) Q E s := by
  refine use_ctrX (decChkS w x al ks as os _ t t2 hv K.asc hal S.len S.nd K.len S.sp K.ok K.V K.F rfl (by omega)) B F X N T ⟨X, T, fun b hb => by cases hb⟩ hk hd hu (fun r h' tk' F' N' hr => ?_) (fun e t h' tk' vs hx => hx.elim)
  obtain ⟨b, t, rfl, hb⟩ := hr
  exact ret b t h' tk' F' N' hb
theorem lawEnc (hv : KBw.bInts v = os) (hal : KBw.bInts al = as) (S : SignsOk as) (hol : os.length ≤ 9) (hor : ∀ n ∈ os, 0 ≤ n ∧ n < 256)
    (B : Below A₀ h₀ [] h₀) (F : Fr h₀ L s.heap m) (X : (hd.heap_39 w.params).In h₀) (N : News h₀ L s.heap news) (T : Top hd.view_39 LSN mean mg mb h₀) (hk : cs.kind = .function) (hd : dp + 12 < recursionLimit) (hu : un + 10 * 12 < cLine)
    (ret : ∀ b ck t h' tk', Fr h₀ L h' m → News h₀ L h' news → KBw.bInts b = ck → IsTx as (withChk os) ck → Q (.bytes b t) { s with heap := h', toks := tk' }) :
    wpAny (model PySem.Challenge.rw_ej5004_01.row.prog w) (ktrTop dp un gd cn cs L a ccd cl []) (call (.ref 68) [.bytes v t, .bytes al t2] [(Str.ofString "sha256", .ref 115)]) Q E s := by
  refine use_ctr (encCheck w v al os as t t2 hv (by omega) hal S.len) B F X N T hk trivial hd hu (fun r h' tk' F' N' hr => ?_)
  obtain ⟨b, t, rfl, hb⟩ := hr
  refine ret b _ t h' tk' F' N' hb ⟨encF_tx _ _, fun y hy => ?_, ?_⟩
  · rcases List.mem_append.mp hy with hy | hy
    · exact hor y hy
    · exact hash_in y hy
  · unfold withChk
    rw [List.length_append, List.length_take, hashF_len]
    omega
theorem lawPlain (hv : KBw.bInts v = ks) (K : TextOk as os ks)
    (B : Below A₀ h₀ [] h₀) (F : Fr h₀ L s.heap m) (X : (hd.heap_39 w.params).In h₀) (N : News h₀ L s.heap news) (T : Top hd.view_39 LSN mean mg mb h₀) (hk : cs.kind = .function) (hd : dp + 4 < recursionLimit) (hu : un + 10 * 4 < cLine)
    (ret : ∀ y t h' tk', Fr h₀ L h' m → News h₀ L h' news → cInts y = ks → Q (.str y t) { s with heap := h', toks := tk' }) :
    wpAny (model PySem.Challenge.rw_ej5004_01.row.prog w) (ktrTop dp un gd cn cs L a ccd cl []) (call (.ref 110) [.bytes v t] []) Q E s := by
  refine use_ctr (plain w v ks t hv K.len) B F X N T hk trivial hd hu (fun r h' tk' F' N' hr => ?_)
  obtain ⟨y, t, rfl, hy⟩ := hr
  exact ret y t h' tk' F' N' hy
theorem lawOct (hv : KBw.bInts v = ks) (hal : KBw.bInts al = as) (S : SignsOk as) (K : Bad as ks)
    (B : Below A₀ h₀ [] h₀) (F : Fr h₀ L s.heap m) (X : (hd.heap_39 w.params).In h₀) (N : News h₀ L s.heap news) (T : Top hd.view_39 LSN mean mg mb h₀) (hk : cs.kind = .function) (hd : dp + 20 < recursionLimit) (hu : un + 10 * 20 < cLine)
    (ret : ∀ h' tk', Fr h₀ L h' m → News h₀ L h' news → Q (.bool true) { s with heap := h', toks := tk' }) :
    wpAny (model PySem.Challenge.rw_ej5004_01.row.prog w) (ktrTop dp un gd cn cs L a ccd cl []) (call (.ref 122) [.bytes v t, .bytes al t2] []) Q E s :=
  use_ctrT (octRef w v al ks as t t2 hv hal S.len S.nd K.len S.sp K.ok) B F X N T hk hd hu ret
theorem lawNum (hv : KBw.bInts v = ks) (hal : KBw.bInts al = as) (S : SignsOk as) (K : Bad as ks)
    (B : Below A₀ h₀ [] h₀) (F : Fr h₀ L s.heap m) (X : (hd.heap_39 w.params).In h₀) (N : News h₀ L s.heap news) (T : Top hd.view_39 LSN mean mg mb h₀) (hk : cs.kind = .function) (hd : dp + 20 < recursionLimit) (hu : un + 10 * 20 < cLine)
    (ret : ∀ h' tk', Fr h₀ L h' m → News h₀ L h' news → Q (.bool true) { s with heap := h', toks := tk' }) :
    wpAny (model PySem.Challenge.rw_ej5004_01.row.prog w) (ktrTop dp un gd cn cs L a ccd cl []) (call (.ref 129) [.bytes v t, .bytes al t2] []) Q E s :=
  use_ctrT (numRef w v al ks as t t2 hv hal S.len S.nd K.len S.sp K.all) B F X N T hk hd hu ret
end
end

local macro_rules | `(tactic| walk_at "MINE sidesL") => `(tactic| ((case B => k_asm); (case F => k_asm); (case X => k_asm); (case N => k_asm); (case T => k_asm); (case hk => exact rfl); (case hd => k_room); (case hu => ktr_units)))
local macro_rules | `(tactic| walk_at "call ref") => `(tactic| (k_here; (with_reducible show wpAny _ _ (call (Value.ref 60) [Value.bytes _ _, Value.bytes _ _] _) _ _ _); k_dflt (refine' lawDec ?v ?va ?S ?K ?B ?F ?X ?N ?T ?hk ?hd ?hu ?_; (case v => kba_ints2); (case va => kba_ints2); (case S => assumption); (case K => assumption); walk_at "MINE sidesL"); intro b9 t9 h9 tk9 F9 N9 hb9; (try dsimp only); (try k_fold)))
local macro_rules | `(tactic| walk_at "call ref") => `(tactic| (k_here; (with_reducible show wpAny _ _ (call (Value.ref 60) [Value.str _ _, Value.bytes _ _] _) _ _ _); k_dflt (refine' lawDecS ?v ?va ?S ?K ?B ?F ?X ?N ?T ?hk ?hd ?hu ?_; (case v => assumption); (case va => kba_ints2); (case S => assumption); (case K => assumption); walk_at "MINE sidesL"); intro b9 t9 h9 tk9 F9 N9 hb9; (try dsimp only); (try k_fold)))
local macro_rules | `(tactic| walk_at "call ref") => `(tactic| (k_here; (with_reducible show wpAny _ _ (call (Value.ref 51) [Value.bytes _ _, Value.bytes _ _] _) _ _ _); k_dflt (refine' lawInt ?v ?va ?S ?K ?B ?F ?X ?N ?T ?hk ?hd ?hu ?_; (case v => kba_ints2); (case va => kba_ints2); (case S => assumption); (case K => assumption); walk_at "MINE sidesL"); intro t9 h9 tk9 F9 N9; (try dsimp only); (try k_fold)))
local macro_rules | `(tactic| walk_at "call ref") => `(tactic| (k_here; (with_reducible show wpAny _ _ (call (Value.ref 51) [Value.str _ _, Value.bytes _ _] _) _ _ _); k_dflt (refine' lawIntS ?v ?va ?S ?K ?B ?F ?X ?N ?T ?hk ?hd ?hu ?_; (case v => assumption); (case va => kba_ints2); (case S => assumption); (case K => assumption); walk_at "MINE sidesL"); intro t9 h9 tk9 F9 N9; (try dsimp only); (try k_fold)))
local macro_rules | `(tactic| walk_at "call ref") => `(tactic| (k_here; (with_reducible show wpAny _ _ (call (Value.ref 77) [Value.bytes _ _, Value.bytes _ _] _) _ _ _); k_dflt (refine' lawChk ?v ?va ?S ?K ?ol ?B ?F ?X ?N ?T ?hk ?hd ?hu ?_; (case v => kba_ints2); (case va => kba_ints2); (case S => assumption); (case K => assumption); (case ol => assumption); walk_at "MINE sidesL"); intro b9 t9 h9 tk9 F9 N9 hb9; (try dsimp only); (try k_fold)))
local macro_rules | `(tactic| walk_at "call ref") => `(tactic| (k_here; (with_reducible show wpAny _ _ (call (Value.ref 77) [Value.str _ _, Value.bytes _ _] _) _ _ _); k_dflt (refine' lawChkS ?v ?va ?S ?K ?ol ?B ?F ?X ?N ?T ?hk ?hd ?hu ?_; (case v => assumption); (case va => kba_ints2); (case S => assumption); (case K => assumption); (case ol => assumption); walk_at "MINE sidesL"); intro b9 t9 h9 tk9 F9 N9 hb9; (try dsimp only); (try k_fold)))
local macro_rules | `(tactic| walk_at "call ref") => `(tactic| (k_here; (with_reducible show wpAny _ _ (call (Value.ref 68) [Value.bytes _ _, Value.bytes _ _] _) _ _ _); k_dflt (refine' lawEnc ?v ?va ?S ?ol ?orr ?B ?F ?X ?N ?T ?hk ?hd ?hu ?_; (case v => kba_ints2); (case va => kba_ints2); (case S => assumption); (case ol => assumption); (case orr => assumption); walk_at "MINE sidesL"); intro b9 ck9 t9 h9 tk9 F9 N9 hb9 hck9; (try dsimp only); (try k_fold)))
local macro_rules | `(tactic| walk_at "call ref") => `(tactic| (k_here; (with_reducible show wpAny _ _ (call (Value.ref 110) [Value.bytes _ _] _) _ _ _); k_dflt (refine' lawPlain ?v ?K ?B ?F ?X ?N ?T ?hk ?hd ?hu ?_; (case v => kba_ints2); (case K => assumption); walk_at "MINE sidesL"); intro b9 t9 h9 tk9 F9 N9 hb9; (try dsimp only); (try k_fold)))
local macro_rules | `(tactic| walk_at "call ref") => `(tactic| (k_here; (with_reducible show wpAny _ _ (call (Value.ref 122) [Value.bytes _ _, Value.bytes _ _] _) _ _ _); k_dflt (refine' lawOct ?v ?va ?S ?K ?B ?F ?X ?N ?T ?hk ?hd ?hu ?_; (case v => kba_ints2); (case va => kba_ints2); (case S => assumption); (case K => assumption); walk_at "MINE sidesL"); intro h9 tk9 F9 N9; (try dsimp only); (try k_fold)))
local macro_rules | `(tactic| walk_at "call ref") => `(tactic| (k_here; (with_reducible show wpAny _ _ (call (Value.ref 129) [Value.bytes _ _, Value.bytes _ _] _) _ _ _); k_dflt (refine' lawNum ?v ?va ?S ?K ?B ?F ?X ?N ?T ?hk ?hd ?hu ?_; (case v => kba_ints2); (case va => kba_ints2); (case S => assumption); (case K => assumption); walk_at "MINE sidesL"); intro h9 tk9 F9 N9; (try dsimp only); (try k_fold)))
local macro_rules | `(tactic| walk_at "call type:bytes") => `(tactic| (k_here; (with_reducible show wpAny _ _ (call (Value.type "bytes") [Value.ref _]) _ _ _); k_dflt (first | (refine' blanks_K ?F ?N ?h ?l ?i ?_; (case F => k_asm); (case N => k_asm); (case h => rfl); (case l => kba_isList); (case i => assumption)) | (refine' blank1_K ?F ?N ?h ?l ?_; (case F => k_asm); (case N => k_asm); (case h => rfl); (case l => kba_isList)) | (refine' near_K ?S ?F ?N ?h ?l ?_; (case S => assumption); (case F => k_asm); (case N => k_asm); (case h => rfl); (case l => kba_isList))); intro b9 bl9 h9 t9 k9 hb9 hbl9 F9 N9; (try ((rename _ ≠ _ ∧ _ => hz9); clear hz9))))
local macro_rules | `(tactic| walk_at "binaryOp Add bytes bytes") => `(tactic| (k_here; (with_reducible show wpAny _ _ (binaryOp Operator.Add (Value.bytes _ _) (Value.bytes _ _)) _ _ _); k_dflt (refine' addBl_K ?a ?b ?S ?c ?d ?_; (case a => kba_ints2); (case b => kba_ints2); (case S => assumption); (case c => assumption); (case d => assumption)); intro b9 bl9 t9 k9 hb9 hbl9 hto9))
local macro_rules | `(tactic| walk_at "binaryOp Add bytes bytes") => `(tactic| (k_here; (with_reducible show wpAny _ _ (binaryOp Operator.Add (Value.bytes _ _) (Value.bytes _ _)) _ _ _); k_dflt (first | (refine' addTx_K ?a ?b ?S ?c ?d ?_; (case a => kba_ints2); (case b => kba_ints2); (case S => assumption); (case c => assumption); (case d => assumption)) | (refine' addNear_K ?a ?b ?S ?c ?d ?_; (case a => kba_ints2); (case b => kba_ints2); (case S => assumption); (case c => assumption); (case d => assumption)) | (refine' addAhead_K ?a ?b ?S ?c ?_; (case a => kba_ints2); (case b => assumption); (case S => assumption); (case c => assumption)) | (refine' addMid_K ?a ?b ?S ?I ?B ?n ?_; (case a => assumption); (case b => assumption); (case S => assumption); (case I => assumption); (case B => assumption); (case n => first | assumption | simp_all))); intro b9 ks9 t9 k9 hb9 hks9))
local macro_rules | `(tactic| walk_at "compareOp NotEq bytes bytes") => `(tactic| (k_here; (with_reducible show wpAny _ _ (compareOp _ (Value.bytes _ _) (Value.bytes _ _)) _ _ _); k_dflt (refine' neSame_K ?a ?b ?_; (case a => kba_ints2); (case b => kba_ints2))))
local macro_rules | `(tactic| walk_at "compareOp NotEq int int") => `(tactic| (k_here; (with_reducible show wpAny _ _ (compareOp _ (Value.int _ _) (Value.int _ _)) _ _ _); k_dflt (refine' neInt_K ?e ?_; (case e => first | exact num_same (by assumption) (by assumption) (by assumption) | exact rfl))))
local macro_rules | `(tactic| walk_at "subscriptTail") => `(tactic| (k_here; (with_reducible show wpAny _ _ (subscriptTail _ _ (Value.ref _) (Value.int (Int.fmod _ _) _)) _ _ _); (with_unfolding_all refine' topTupAny_K ?F ?X ?l ?i ?k3 ?k4 ?k5 ?_; (case F => k_asm); (case X => k_asm); (case l => k_is); (case i => l_ints); (case k3 => exact fm_0 (by decide)); (case k4 => exact fm_1 (by decide)); (case k5 => exact fm_2 (by decide) (by decide)); k_whole); intro _))
local macro_rules | `(tactic| walk_at "subscriptTail") => `(tactic| (k_here; (with_reducible show wpAny _ _ (subscriptTail _ (Expr.Slice _ _ none _) (Value.bytes _ _) (Value.ref _)) _ _ _); (with_reducible rename Fr _ _ _ _ => F'); (with_reducible rename News _ _ _ _ => N'); (refine KBc.slice_K (s := ⟨_, _, _, _, _⟩) F' N' (by assumption) (by constructor) (by constructor) (by first | exact sz_as (by assumption) | exact sz_tx (by assumption) | exact sz_bl (by assumption)) ?_); intro _ _ _ _ _ kbcK; (try simp only [Option.elim, KBc.clip_lit, clipAt_nat, List.drop_zero, Nat.sub_zero] at kbcK)))
local macro_rules | `(tactic| walk_at "binaryOp Add bytes bytes") => `(tactic| (k_here; (with_reducible show wpAny _ _ (binaryOp Operator.Add (Value.bytes _ _) (Value.bytes _ _)) _ _ _); k_dflt (refine' addCut_K ?a ?b ?c ?d ?_; (case a => assumption); (case b => assumption); (case c => assumption); (case d => assumption)); intro b9 t9 k9 hb9))
local macro_rules | `(tactic| walk_at "call builtin:len") => `(tactic| (k_here; (with_reducible show wpAny _ _ (call (Value.builtin "len") [Value.bytes _ _]) _ _ _); k_dflt (refine' lenTx_K ?a ?b ?_; (case a => assumption); (case b => assumption)); intro t9 k9))

theorem isB_K {prog : Program} {w : World} {A : Around} {E : Value → Shared → Prop} {s : Shared} {K : Frag} {b : Array UInt8} {t : Tok} {Q : Value → Shared → Prop} {h₀ : Heap} {L : Addr} {m : Str → Option Value} (F : Fr h₀ L s.heap m) (X : K.In h₀) (h : ∀ tk, Q (.bool true) { s with toks := tk }) :
    wpAny (model prog w) A (call (.builtin "isinstance") [.bytes b t, .type "bytes"]) Q E s :=
  kia_one (K := K) kitx_bytes (X.keeps F.keep) trivial (by rfl) (by intro q; cases q) h
local macro_rules | `(tactic| walk_at "call builtin:isinstance") => `(tactic| (k_here; (with_reducible show wpAny _ _ (call (Value.builtin "isinstance") [Value.bytes _ _, Value.type "bytes"]) _ _ _); k_dflt (refine' isB_K ?F ?X ?_; (case F => k_asm); (case X => k_asm)); intro tk9))

section
set_option maxHeartbeats 8000000 in
theorem law0 : PySem.Challenge.rw_ej5004_01.Holds := hd (by
  k_with_none; w_top off
  w_strict
    (k_go0; (all_goals try k_fold); (k_with "state" => k_dflt (first | exact num_start _ _ | exact num_turn (by assumption) (by assumption) (by assumption))); k_steps))
end

end Mine
theorem PySem.Challenge.cw_ej5004_01_holds : PySem.Challenge.rw_ej5004_01.Holds :=
  Mine.law0
