import PyProof.Rows.All
import Wide.All
import OpenK.AllK
import Wide.FinOn
import PySem.Challenge.RW_wu0008_01
open PySem PySem.Spec PySem.Calls PySem.W PyProof.Rows
set_option Elab.async false
set_option compiler.extract_closed false
set_option maxRecDepth 100000
set_option maxHeartbeats 8000000
set_option rowWalk.seconds 0
namespace Mine
open_top hd for PySem.Challenge.rw_wu0008_01
theorem calm_W0 : True := by
  w_top off
  first | walk1 | trivial
section
def LeaveM (R : Result → Shared → Prop) (v : Value) (s' : Shared) : Prop := R (.ok (.ret v)) s'

/-- an extension contract of a call -/
abbrev Con (w : World) (f : Addr) (vs : List Value) (d : Nat) (P : Heap → Prop) (R : Heap → Value → Heap → Prop) : Prop :=
  ∀ (mean : ExcName → Option Value) (mg mb : Str → Option Value) (dp un : Nat) (gd : Option (List Code)) (cn : Str) (cs : Scope) (a : Addr) (ccd : Value) (cl : List (Str × Addr)) (outer : List Env) (A₀ : Around) (base h₀ : Heap) (L : Addr) (m : Str → Option Value) (s : Shared) (Q E : Value → Shared → Prop),
    Below A₀ base outer h₀ → Fr h₀ L s.heap m → (hd.heap_39 w.params).In h₀ → Top hd.view_39 (looseW hd.view_39 [Str.ofString "COMPILER_FLAG_NAMES"]) mean mg mb h₀ → cs.kind = .function → P s.heap → dp + d < recursionLimit → un + 100 * d < cLine →
    (∀ (v : Value) (h' : Heap) (tk' : Nat), s.heap.StaysIn h' → R s.heap v h' → Q v { s with heap := h', toks := tk' }) →
    wpAny (model PySem.Challenge.rw_wu0008_01.row.prog w) (ktrTop dp un gd cn cs L a ccd cl outer) (call (.ref f) vs) Q E s

section
variable {prog : Program} {w : World} {A₀ A : Around} {s : Shared} {base h₀ : Heap} {outer : List Env} {L : Addr} {m : Str → Option Value} {env : Env} {K : Frag} {p : Program} {loose : List Str} {mean : ExcName → Option Value} {mg mb : Str → Option Value}
  {R : Result → Shared → Prop} {name qual : Str} {params : Arguments} {body : List Stmt} {scope : Scope} {dV kV doc pm cdv ct oc : Value} {an od : Option Addr} {osl : Array (Option Value)} {f : Addr} {args : Args} {binds : List (Str × Value)}

theorem enter_def (B : Below A₀ base outer h₀) (F : Fr h₀ L s.heap m) (X₀ : K.In h₀) (T : Top p loose mean mg mb h₀) (hA : A.frames = some (env :: outer)) (hf : env.frame = some L) (hke : env.scope.kind = .function)
    (ho : K.lookup f = some ⟨oc, od, .func (fnOf name qual params body scope dV kV doc pm an cdv ct), osl⟩) (hcd : codeIn K cdv qual = true) (hroom : A.depth < recursionLimit)
    (hbind : BindsTo s (fnOf name qual params body scope dV kV doc pm an cdv ct) args binds) (hloc : ∀ y ∈ binds, scope.names.lookup y.1 = some .local)
    (h : ∀ g L' h₁, s.heap = g → Fr g L' h₁ (fun y => binds.reverse.lookup y) → News g L' h₁ [] → Below A base (env :: outer) g → K.In g → Top p loose mean mg mb g →
      wpAny (model prog w) (A.deeper (envOf qual scope L' f cdv)) (execs body (envOf qual scope L' f cdv))
        (fun fl s' => LeaveM R (match fl with | .ret v => v | _ => .none) s')
        (fun e s' => wpAny (model prog w) (A.deeper (envOf qual scope L' f cdv)) (leaving (envOf qual scope L' f cdv) e) (fun _ s'' => R (.error e) s'') (fun e' s'' => R (.error e') s'') s')
        { s with heap := h₁, toks := s.toks + binds.length })
    (hco : scope.isCoroutine = false) (hgen : scope.isGenerator = false) (hk : scope.kind = .function)
    (hcell : ∀ x ∈ scope.names, x.2 ≠ .cell) : codeAny (model prog w) A (.call (.ref f) args) R s := by
  refine codeAny_call_def (fd := fnOf name qual params body scope dV kV doc pm an cdv ct) (body := body) (binds := binds) hroom ((X₀.keeps F.keep) _ _ ho) rfl (T.nolimit.keeps F.keep) (codeRec_of (X₀.keeps F.keep) hcd) rfl hbind hcell hloc (fun h₁ hns hk₁ => ?_) hco hgen hk
  exact h _ s.heap.objs.size h₁ rfl ⟨hns, hk₁, Nat.le_refl _⟩ (fun _ hp => nomatch hp) ⟨hA, fun b o e => F.keep b o (B.stays b o e), (pushX B F hf hke).frames⟩ (X₀.keeps F.keep) (T.keeps F.keep)

theorem enter_defC (B : Below A₀ base outer h₀) (F : Fr h₀ L s.heap m) (X₀ : K.In h₀) (T : Top p loose mean mg mb h₀) (hA : A.frames = some (env :: outer)) (hf : env.frame = some L) (hke : env.scope.kind = .function)
    (ho : K.lookup f = some ⟨oc, od, .func (fnOf name qual params body scope dV kV doc pm an cdv ct), osl⟩) (hcd : codeIn K cdv qual = true) (hroom : A.depth < recursionLimit)
    (hbind : BindsTo s (fnOf name qual params body scope dV kV doc pm an cdv ct) args binds) (hkind : (binds.all fun y => scope.names.lookup y.1 == some .local || scope.names.lookup y.1 == some .cell) = true)
    (hnd : ((cellsFrom 0 scope.names []).map (·.1)).Nodup)
    (h : ∀ g L' h₁ tk cells, s.heap = g → Fr g L' h₁ (bindL (envOfC qual scope L' f cdv).kindOf binds fun _ => none) → News g L' h₁ (cells ++ []) →
      CellsAre (bindC (envOfC qual scope L' f cdv).kindOf binds fun _ => none) (cellsFrom (L' + 1) scope.names []) cells → Below A base (env :: outer) g → K.In g → Top p loose mean mg mb g →
      wpAny (model prog w) (A.deeper (envOfC qual scope L' f cdv)) (execs body (envOfC qual scope L' f cdv))
        (fun fl s' => LeaveM R (match fl with | .ret v => v | _ => .none) s')
        (fun e s' => wpAny (model prog w) (A.deeper (envOfC qual scope L' f cdv)) (leaving (envOfC qual scope L' f cdv) e) (fun _ s'' => R (.error e) s'') (fun e' s'' => R (.error e') s'') s')
        { s with heap := h₁, toks := tk })
    (hco : scope.isCoroutine = false) (hgen : scope.isGenerator = false) (hk : scope.kind = .function) : codeAny (model prog w) A (.call (.ref f) args) R s := by
  refine codeAny_call_function hroom ((X₀.keeps F.keep) _ _ ho) rfl hco hgen rfl (codeRec_of (X₀.keeps F.keep) hcd) (hbind _ _ _ _ ?_)
  refine wpAny_newFunctionEnv_cells hk (kindsX hkind _) fun env' he s' x => ?_
  subst he
  refine ⟨((T.nolimit.keeps F.keep).keeps x.toInCall.keep), codeAny_func ?_⟩
  obtain ⟨h₁, tk, rfl, _⟩ := x.done
  have hk₁ := x.toInCall.keep
  obtain ⟨cells, NC, Y⟩ := Cl.news (h₀ := s.heap) (Nat.le_refl _) fun n c hm => ⟨x.cell n c (lookup_of_mem_nodup (cellsFrom_names scope.names 0 (s.heap.objs.size + 1) [] [] rfl ▸ hnd) hm), x.above n c hm⟩
  exact h _ s.heap.objs.size h₁ tk cells rfl ⟨x.toInCall.ns, hk₁, Nat.le_refl _⟩ (fun p hp => NC p (by simpa using hp)) Y ⟨hA, fun b o e => F.keep b o (B.stays b o e), (pushX B F hf hke).frames⟩ (X₀.keeps F.keep) (T.keeps F.keep)
end

theorem ext_fr {h₀ h h' : Heap} {L : Addr} {m : Str → Option Value} (F : Fr h₀ L h m) (st : h.StaysIn h') : Fr h₀ L h' m :=
  ⟨F.ns.keeps st, fun b o e => st b o (F.keep b o e), F.above⟩
theorem ext_news {h₀ h h' : Heap} {L : Addr} {news : List (Addr × Obj)} (N : News h₀ L h news) (st : h.StaysIn h') : News h₀ L h' news :=
  fun p hp => ⟨st _ _ (N p hp).1, (N p hp).2⟩
theorem ext_cons {h₀ h h' : Heap} {L l : Addr} {o : Obj} {m : Str → Option Value} {news : List (Addr × Obj)} (F : Fr h₀ L h m) (N : News h₀ L h' news) (hl : h'.get? l = some o) (hn : h.get? l = none) : News h₀ L h' ((l, o) :: news) := by
  intro p hp
  rcases List.mem_cons.mp hp with rfl | hp
  · refine ⟨hl, ?_, ?_⟩
    · obtain ⟨oL, _, _, hL, _⟩ := F.ns
      rintro rfl
      rw [hn] at hL; cases hL
    · cases hq : h₀.get? l with
      | none => rfl
      | some o' => have := F.keep _ _ hq; rw [hn] at this; cases this
  · exact N p hp
theorem ext_ne {h₀ h : Heap} {L l : Addr} {news : List (Addr × Obj)} (N : News h₀ L h news) (hn : h.get? l = none) : TLg.AllNe l news :=
  TLgL.allNe_of fun p hp => by
    rintro rfl
    have := (N p hp).1; rw [hn] at this; cases this

/-- the answer is a new list of ints -/
def RInts (ns : List Int) (h : Heap) (v : Value) (h' : Heap) : Prop := ∃ l vs n, v = .ref l ∧ h'.get? l = some (W.listOf vs.toArray n) ∧ h.get? l = none ∧ IntsAre vs ns
def RInt (n : Int) (_ : Heap) (v : Value) (_ : Heap) : Prop := ∃ t, v = .int n t
def RStr (x : Str) (_ : Heap) (v : Value) (_ : Heap) : Prop := ∃ t, v = .str x t
def RBool (b : Bool) (_ : Heap) (v : Value) (_ : Heap) : Prop := v = .bool b
/-- a tuple of a new list of ints and an int -/
def RPair (ns : List Int) (k : Int) (h : Heap) (v : Value) (h' : Heap) : Prop := ∃ q l vs t n n2, v = .ref q ∧ h'.get? q = some { cls := .type "tuple", data := .seq #[.ref l, .int k t] n } ∧ h'.get? l = some (W.listOf vs.toArray n2) ∧ h.get? l = none ∧ h.get? q = none ∧ l ≠ q ∧ IntsAre vs ns

section
variable {w : World} {f : Addr} {vs : List Value} {d : Nat} {P : Heap → Prop} {mean : ExcName → Option Value} {mg mb : Str → Option Value} {dp un : Nat} {gd : Option (List Code)} {cn : Str} {cs : Scope} {a : Addr} {ccd : Value} {cl : List (Str × Addr)} {outer : List Env} {A₀ : Around} {base h₀ : Heap} {L : Addr} {m : Str → Option Value} {s : Shared} {Q E : Value → Shared → Prop} {news : List (Addr × Obj)}

theorem use_ints {ns : List Int} (C : Con w f vs d P (RInts ns)) (B : Below A₀ base outer h₀) (F : Fr h₀ L s.heap m) (X : (hd.heap_39 w.params).In h₀) (N : News h₀ L s.heap news) (T : Top hd.view_39 (looseW hd.view_39 [Str.ofString "COMPILER_FLAG_NAMES"]) mean mg mb h₀) (hk : cs.kind = .function) (hp : P s.heap) (hdp : dp + d < recursionLimit) (hun : un + 100 * d < cLine)
    (k : ∀ l vs n h' tk', IntsAre vs ns → Fr h₀ L h' m → News h₀ L h' ((l, W.listOf vs.toArray n) :: news) → TLg.AllNe l news → Q (.ref l) { s with heap := h', toks := tk' }) :
    wpAny (model PySem.Challenge.rw_wu0008_01.row.prog w) (ktrTop dp un gd cn cs L a ccd cl outer) (call (.ref f) vs) Q E s :=
  C _ _ _ _ _ _ _ _ _ _ _ _ _ _ _ _ _ _ _ _ B F X T hk hp hdp hun fun v h' tk' st ⟨l, ws, n, e, hl, hn, hi⟩ => by
    subst e
    exact k l ws n h' tk' hi (ext_fr F st) (ext_cons F (ext_news N st) hl hn) (ext_ne N hn)
theorem use_int {n : Int} (C : Con w f vs d P (RInt n)) (B : Below A₀ base outer h₀) (F : Fr h₀ L s.heap m) (X : (hd.heap_39 w.params).In h₀) (N : News h₀ L s.heap news) (T : Top hd.view_39 (looseW hd.view_39 [Str.ofString "COMPILER_FLAG_NAMES"]) mean mg mb h₀) (hk : cs.kind = .function) (hp : P s.heap) (hdp : dp + d < recursionLimit) (hun : un + 100 * d < cLine)
    (k : ∀ t h' tk', Fr h₀ L h' m → News h₀ L h' news → Q (.int n t) { s with heap := h', toks := tk' }) :
    wpAny (model PySem.Challenge.rw_wu0008_01.row.prog w) (ktrTop dp un gd cn cs L a ccd cl outer) (call (.ref f) vs) Q E s :=
  C _ _ _ _ _ _ _ _ _ _ _ _ _ _ _ _ _ _ _ _ B F X T hk hp hdp hun fun v h' tk' st ⟨t, e⟩ => by
    subst e
    exact k t h' tk' (ext_fr F st) (ext_news N st)
theorem use_str {n : Str} (C : Con w f vs d P (RStr n)) (B : Below A₀ base outer h₀) (F : Fr h₀ L s.heap m) (X : (hd.heap_39 w.params).In h₀) (N : News h₀ L s.heap news) (T : Top hd.view_39 (looseW hd.view_39 [Str.ofString "COMPILER_FLAG_NAMES"]) mean mg mb h₀) (hk : cs.kind = .function) (hp : P s.heap) (hdp : dp + d < recursionLimit) (hun : un + 100 * d < cLine)
    (k : ∀ t h' tk', Fr h₀ L h' m → News h₀ L h' news → Q (.str n t) { s with heap := h', toks := tk' }) :
    wpAny (model PySem.Challenge.rw_wu0008_01.row.prog w) (ktrTop dp un gd cn cs L a ccd cl outer) (call (.ref f) vs) Q E s :=
  C _ _ _ _ _ _ _ _ _ _ _ _ _ _ _ _ _ _ _ _ B F X T hk hp hdp hun fun v h' tk' st ⟨t, e⟩ => by
    subst e
    exact k t h' tk' (ext_fr F st) (ext_news N st)
theorem use_bool {n : Bool} (C : Con w f vs d P (RBool n)) (B : Below A₀ base outer h₀) (F : Fr h₀ L s.heap m) (X : (hd.heap_39 w.params).In h₀) (N : News h₀ L s.heap news) (T : Top hd.view_39 (looseW hd.view_39 [Str.ofString "COMPILER_FLAG_NAMES"]) mean mg mb h₀) (hk : cs.kind = .function) (hp : P s.heap) (hdp : dp + d < recursionLimit) (hun : un + 100 * d < cLine)
    (k : ∀ h' tk', Fr h₀ L h' m → News h₀ L h' news → Q (.bool n) { s with heap := h', toks := tk' }) :
    wpAny (model PySem.Challenge.rw_wu0008_01.row.prog w) (ktrTop dp un gd cn cs L a ccd cl outer) (call (.ref f) vs) Q E s :=
  C _ _ _ _ _ _ _ _ _ _ _ _ _ _ _ _ _ _ _ _ B F X T hk hp hdp hun fun v h' tk' st e => by
    subst e
    exact k h' tk' (ext_fr F st) (ext_news N st)

theorem fin_val {Res : Heap → Value → Heap → Prop} {g : Heap} {s₀ s' : Shared} {L' : Addr} {v : Value} {m' : Str → Option Value} (hg : s₀.heap = g) (F' : Fr g L' s'.heap m') (hr : Res g v s'.heap)
    (hret : ∀ (v : Value) (h' : Heap) (tk' : Nat), s₀.heap.StaysIn h' → Res s₀.heap v h' → Q v { s₀ with heap := h', toks := tk' }) (e : s' = { s₀ with heap := s'.heap, toks := s'.toks }) : Q v s' := by
  subst hg
  rw [e]
  exact hret _ _ _ F'.keep hr
theorem rstr_of {x y : Str} {t : Tok} {g h : Heap} (e : x = y) : RStr y g (.str x t) h := ⟨t, by rw [e]⟩
theorem rint_of {x y : Int} {t : Tok} {g h : Heap} (e : x = y) : RInt y g (.int x t) h := ⟨t, by rw [e]⟩
theorem rbool_of {x y : Bool} {g h : Heap} (e : x = y) : RBool y g (.bool x) h := by rw [e]; rfl
theorem rints_of {g h : Heap} {D L' : Addr} {ys : List Value} {n : Nat} {ns : List Int} {news' : List (Addr × Obj)} (N' : News g L' h news') (hm : (D, W.listOf ys.toArray n) ∈ news') (hi : IntsAre ys ns) : RInts ns g (.ref D) h :=
  ⟨D, ys, n, rfl, (N' _ hm).1, (N' _ hm).2.2, hi⟩
theorem rpair_of {g h : Heap} {D q L' : Addr} {ys : List Value} {ns : List Int} {k k' : Int} {t : Tok} {n n2 : Nat} {news' : List (Addr × Obj)} (N' : News g L' h news') (hm : (D, W.listOf ys.toArray n2) ∈ news') (hq : (q, { cls := .type "tuple", data := .seq #[.ref D, .int k' t] n }) ∈ news') (hi : IntsAre ys ns) (e : k' = k) : RPair ns k g (.ref q) h := by
  subst e
  refine ⟨q, D, ys, t, n, n2, rfl, (N' _ hq).1, (N' _ hm).1, (N' _ hm).2.2, (N' _ hq).2.2, ?_, hi⟩
  rintro rfl
  have h1 := (N' _ hq).1
  have h2 := (N' _ hm).1
  rw [h1] at h2
  have h3 := congrArg (fun o : Option Obj => o.map (·.cls)) h2
  simp only [Option.map_some] at h3
  have h4 := Option.some.inj h3
  simp at h4
end
end
local macro_rules | `(tactic| units_room) => `(tactic| ktr_units)
theorem calm_UA : True := by
  w_top off
  first | walk1 | trivial
section
section
variable {w : World} {f : Addr} {vs : List Value} {d : Nat} {P : Heap → Prop} {mean : ExcName → Option Value} {mg mb : Str → Option Value} {dp un : Nat} {gd : Option (List Code)} {cn : Str} {cs : Scope} {a : Addr} {ccd : Value} {cl : List (Str × Addr)} {outer : List Env} {A₀ : Around} {base h₀ : Heap} {L : Addr} {m : Str → Option Value} {s : Shared} {Q E : Value → Shared → Prop} {news : List (Addr × Obj)}
end
theorem one_len (sg : Nat) : (⟨#[sg]⟩ : Str).length = 1 := by with_unfolding_all rfl
theorem ne_at_mem {l d : Addr} {o : Obj} {news : List (Addr × Obj)} (h : TLg.AllNe d news) (hm : (l, o) ∈ news) : @Ne Nat l d := TLg.AllNe.mem h _ hm
end
theorem calm_W1 : True := by
  w_top off
  first | walk1 | trivial
section
def placesL (mask wide : Int) : List Int := (rangeKs 1 (wide + 1 - 1).toNat).foldl (fun l k => if (mask.fdiv (2 ^ (k - 1).toNat)).fmod 2 = 1 then l ++ [k] else l) []

theorem places_con (w : World) (mask wide : Int) (t1 t2 : Tok) (h0 : 0 ≤ mask) (h1 : mask < 2048) (h2 : 0 ≤ wide) (h3 : wide ≤ 11) : Con w 80 [.int mask t1, .int wide t2] 3 (fun _ => True) (RInts (placesL mask wide)) := by
  unfold Con
  k_fill
  intro mean mg mb dp un gd cn cs a ccd cl outer A₀ base h₀ L m s Q E B F X T hk hP hdp hun hret
  (refine wpAny_call ?_; k_dflt (first
    | (refine' enter_def ?mek1 ?mek2 ?mek3 ?mek5 ?mekA ?mekF ?mekK ?mek6 ?mek7 ?mek8 ?mek9 ?mekB ?_ ?mec2 ?mec3 ?mec4 ?mec5; (case mekA => exact rfl); (case mekF => exact rfl); (case mekK => assumption); (case mek1 => k_asm); (case mek2 => k_asm); (case mek3 => k_asm); (case mek5 => k_asm); (case mek6 => k_is); (case mek7 => k_is); (case mek8 => ktr_room); (case mek9 => exact BindsTo.of_eq rfl); (case mec5 => decide); (case mekB => exact locs rfl); (case mec2 => exact rfl); (case mec3 => exact rfl); (case mec4 => exact rfl); k_whole; intro g' L' h' hg' F' N' B' X' T'; (try dsimp only); (try k_fold))
    | (refine' enter_defC ?mek1 ?mek2 ?mek3 ?mek5 ?mekA ?mekF ?mekK ?mek6 ?mek7 ?mek8 ?mek9 ?mekB ?mekD ?_ ?mec2 ?mec3 ?mec4; (case mekA => exact rfl); (case mekF => exact rfl); (case mekK => assumption); (case mek1 => k_asm); (case mek2 => k_asm); (case mek3 => k_asm); (case mek5 => k_asm); (case mek6 => k_is); (case mek7 => k_is); (case mek8 => ktr_room); (case mek9 => exact BindsTo.of_eq rfl); (case mekB => exact rfl); (case mekD => decide +kernel); (case mec2 => exact rfl); (case mec3 => exact rfl); (case mec4 => exact rfl); k_whole; intro g' L' h' tk' cells' hg' F' N' Y' B' X' T'; k_cells Y'; (try simp only [List.cons_append, List.nil_append] at N'); (try dsimp only); (try k_fold))))
  k_steps
  refine fin_val (by assumption) (by k_asm) ?_ hret rfl
  rename IntsAre ys _ => hI
  rename News _ _ _ _ => hN
  exact rints_of (news' := _) hN (by with_unfolding_all exact List.Mem.head _) hI

def rowS (ps : List Int) (wide : Int) (sign : Str) : Str := Txt.join (Str.ofString "") ((rangeKs 1 (wide + 1 - 1).toNat).map fun k => if k ∈ ps then Str.ofString "\"" else sign)

section

theorem row_con (w : World) (lp : Addr) (vp : List Value) (ps : List Int) (wide : Int) (sign : Str) (t1 t2 : Tok) (hi : IntsAre vp ps) (hl : ps.length ≤ 12) (h2 : 0 ≤ wide) (h3 : wide ≤ 11) (hs : sign.length = 1) :
    Con w 85 [.ref lp, .int wide t1, .str sign t2] 3 (fun h => h.IsList lp vp.toArray) (RStr (rowS ps wide sign)) := by
  unfold Con
  k_fill
  intro mean mg mb dp un gd cn cs a ccd cl outer A₀ base h₀ L m s Q E B F X T hk hP hdp hun hret
  (refine wpAny_call ?_; k_dflt (first
    | (refine' enter_def ?mek1 ?mek2 ?mek3 ?mek5 ?mekA ?mekF ?mekK ?mek6 ?mek7 ?mek8 ?mek9 ?mekB ?_ ?mec2 ?mec3 ?mec4 ?mec5; (case mekA => exact rfl); (case mekF => exact rfl); (case mekK => assumption); (case mek1 => k_asm); (case mek2 => k_asm); (case mek3 => k_asm); (case mek5 => k_asm); (case mek6 => k_is); (case mek7 => k_is); (case mek8 => ktr_room); (case mek9 => exact BindsTo.of_eq rfl); (case mec5 => decide); (case mekB => exact locs rfl); (case mec2 => exact rfl); (case mec3 => exact rfl); (case mec4 => exact rfl); k_whole; intro g' L' h' hg' F' N' B' X' T'; (try dsimp only); (try k_fold))
    | (refine' enter_defC ?mek1 ?mek2 ?mek3 ?mek5 ?mekA ?mekF ?mekK ?mek6 ?mek7 ?mek8 ?mek9 ?mekB ?mekD ?_ ?mec2 ?mec3 ?mec4; (case mekA => exact rfl); (case mekF => exact rfl); (case mekK => assumption); (case mek1 => k_asm); (case mek2 => k_asm); (case mek3 => k_asm); (case mek5 => k_asm); (case mek6 => k_is); (case mek7 => k_is); (case mek8 => ktr_room); (case mek9 => exact BindsTo.of_eq rfl); (case mekB => exact rfl); (case mekD => decide +kernel); (case mec2 => exact rfl); (case mec3 => exact rfl); (case mec4 => exact rfl); k_whole; intro g' L' h' tk' cells' hg' F' N' Y' B' X' T'; k_cells Y'; (try simp only [List.cons_append, List.nil_append] at N'); (try dsimp only); (try k_fold))))
  rename s.heap = _ => hg
  rw [hg] at hP
  repeat' (first | ((with_reducible show LCg.CompSrc _ _ _ _ _ _ _ _ _ _ _ _ _ _); (try k_fmods); refine LCg.CompSrc.range (by rfl) (by k_asm) (by k_asm) (by assumption) (by first | decide | exact small_one (by l_bnd) (by l_bnd) (by l_bnd) (by l_bnd)) (by first | exact rangeSize_nat _ _ | rfl) (by first | exact Nat.le_of_ble_eq_true rfl | (rw [PySem.sizeLine_eq]; first | omega | ((have hb9 := len_ints_list (by lay_of)); omega)) | size_fits) ?_; intro g'; (refine' kct_range _ (fun k' t' I' oI' C' oC' D' m' ys' h' tk' E' hlo' hhi' hC' hx' F' N' off' ne' => ?_) ?_); (all_goals (try (simp only [LCg.Off3, and_true] at off'))); (all_goals (try ((show KPfMark → _); intro hMark'))); kcf_last) | ((with_reducible show wpAny _ _ (call (Value.builtin "str.join") [Value.str _ _, Value.ref _]) _ _ _); (with_reducible rename CarriedAll _ (List.map _ _) => ktC); refine KT.join_1 (by first | assumption | is_list | exact News.isList (by k_asm) (by k_mem)) ktC (by intro ktA ktM; (try dsimp only); (repeat' split) <;> first | assumption | rfl | (simp_all; done)) (by simp only [rangeKs_length]; omega) ?_; intro _ _ ktE) | (k_unfold; (try dsimp only)) | walk1 | (dsimp only; walk1) | (leave1; walk_say "STEP leave1"; try dsimp only) | fail "no step")
  refine fin_val hg (by k_asm) (rstr_of ?_) hret rfl
  unfold rowS
  congr 1
  refine List.map_congr_left fun k _ => ?_
  by_cases hk : k ∈ ps <;> simp [hk]
end
end
theorem calm_W2a : True := by
  w_top off
  first | walk1 | trivial
section
theorem iand_con (w : World) (x y : Int) (t1 t2 : Tok) (h0 : 0 ≤ x) (h1 : x < 4096) (h2 : 0 ≤ y) (h3 : y < 4096) : Con w 21 [.int x t1, .int y t2] 2 (fun _ => True) (RInt (Builtin.bitAnd x y)) := by
  unfold Con
  k_fill
  intro mean mg mb dp un gd cn cs a ccd cl outer A₀ base h₀ L m s Q E B F X T hk hP hdp hun hret
  (refine wpAny_call ?_; k_dflt (first
    | (refine' enter_def ?mek1 ?mek2 ?mek3 ?mek5 ?mekA ?mekF ?mekK ?mek6 ?mek7 ?mek8 ?mek9 ?mekB ?_ ?mec2 ?mec3 ?mec4 ?mec5; (case mekA => exact rfl); (case mekF => exact rfl); (case mekK => assumption); (case mek1 => k_asm); (case mek2 => k_asm); (case mek3 => k_asm); (case mek5 => k_asm); (case mek6 => k_is); (case mek7 => k_is); (case mek8 => ktr_room); (case mek9 => exact BindsTo.of_eq rfl); (case mec5 => decide); (case mekB => exact locs rfl); (case mec2 => exact rfl); (case mec3 => exact rfl); (case mec4 => exact rfl); k_whole; intro g' L' h' hg' F' N' B' X' T'; (try dsimp only); (try k_fold))
    | (refine' enter_defC ?mek1 ?mek2 ?mek3 ?mek5 ?mekA ?mekF ?mekK ?mek6 ?mek7 ?mek8 ?mek9 ?mekB ?mekD ?_ ?mec2 ?mec3 ?mec4; (case mekA => exact rfl); (case mekF => exact rfl); (case mekK => assumption); (case mek1 => k_asm); (case mek2 => k_asm); (case mek3 => k_asm); (case mek5 => k_asm); (case mek6 => k_is); (case mek7 => k_is); (case mek8 => ktr_room); (case mek9 => exact BindsTo.of_eq rfl); (case mekB => exact rfl); (case mekD => decide +kernel); (case mec2 => exact rfl); (case mec3 => exact rfl); (case mec4 => exact rfl); k_whole; intro g' L' h' tk' cells' hg' F' N' Y' B' X' T'; k_cells Y'; (try simp only [List.cons_append, List.nil_append] at N'); (try dsimp only); (try k_fold))))
  rename s.heap = _ => hg
  k_steps
  with_unfolding_all refine fin_val (Q := Q) hg (by k_asm) (rint_of ?_) hret rfl
  rfl
theorem ish_con (w : World) (x : Int) (t1 t2 : Tok) (h0 : 0 ≤ x) (h1 : x < 4096)  : Con w 28 [.int x t1, .int 1 t2] 2 (fun _ => True) (RInt (x * 2)) := by
  unfold Con
  k_fill
  intro mean mg mb dp un gd cn cs a ccd cl outer A₀ base h₀ L m s Q E B F X T hk hP hdp hun hret
  (refine wpAny_call ?_; k_dflt (first
    | (refine' enter_def ?mek1 ?mek2 ?mek3 ?mek5 ?mekA ?mekF ?mekK ?mek6 ?mek7 ?mek8 ?mek9 ?mekB ?_ ?mec2 ?mec3 ?mec4 ?mec5; (case mekA => exact rfl); (case mekF => exact rfl); (case mekK => assumption); (case mek1 => k_asm); (case mek2 => k_asm); (case mek3 => k_asm); (case mek5 => k_asm); (case mek6 => k_is); (case mek7 => k_is); (case mek8 => ktr_room); (case mek9 => exact BindsTo.of_eq rfl); (case mec5 => decide); (case mekB => exact locs rfl); (case mec2 => exact rfl); (case mec3 => exact rfl); (case mec4 => exact rfl); k_whole; intro g' L' h' hg' F' N' B' X' T'; (try dsimp only); (try k_fold))
    | (refine' enter_defC ?mek1 ?mek2 ?mek3 ?mek5 ?mekA ?mekF ?mekK ?mek6 ?mek7 ?mek8 ?mek9 ?mekB ?mekD ?_ ?mec2 ?mec3 ?mec4; (case mekA => exact rfl); (case mekF => exact rfl); (case mekK => assumption); (case mek1 => k_asm); (case mek2 => k_asm); (case mek3 => k_asm); (case mek5 => k_asm); (case mek6 => k_is); (case mek7 => k_is); (case mek8 => ktr_room); (case mek9 => exact BindsTo.of_eq rfl); (case mekB => exact rfl); (case mekD => decide +kernel); (case mec2 => exact rfl); (case mec3 => exact rfl); (case mec4 => exact rfl); k_whole; intro g' L' h' tk' cells' hg' F' N' Y' B' X' T'; k_cells Y'; (try simp only [List.cons_append, List.nil_append] at N'); (try dsimp only); (try k_fold))))
  rename s.heap = _ => hg
  k_steps
  with_unfolding_all refine fin_val (Q := Q) hg (by k_asm) (rint_of ?_) hret rfl
  simp
end
theorem calm_W2b : True := by
  w_top off
  first | walk1 | trivial
section
theorem sub_con (w : World) (x y : Str) (t1 t2 : Tok) (h0 : x.length = 1) (h1 : y.length = 1) (hxy : x ≠ y → Txt.lower x ≠ Txt.lower y) : Con w 75 [.str x t1, .str y t2] 2 (fun _ => True) (RInt (if x = y then 0 else 2)) := by
  unfold Con
  k_fill
  intro mean mg mb dp un gd cn cs a ccd cl outer A₀ base h₀ L m s Q E B F X T hk hP hdp hun hret
  (refine wpAny_call ?_; k_dflt (first
    | (refine' enter_def ?mek1 ?mek2 ?mek3 ?mek5 ?mekA ?mekF ?mekK ?mek6 ?mek7 ?mek8 ?mek9 ?mekB ?_ ?mec2 ?mec3 ?mec4 ?mec5; (case mekA => exact rfl); (case mekF => exact rfl); (case mekK => assumption); (case mek1 => k_asm); (case mek2 => k_asm); (case mek3 => k_asm); (case mek5 => k_asm); (case mek6 => k_is); (case mek7 => k_is); (case mek8 => ktr_room); (case mek9 => exact BindsTo.of_eq rfl); (case mec5 => decide); (case mekB => exact locs rfl); (case mec2 => exact rfl); (case mec3 => exact rfl); (case mec4 => exact rfl); k_whole; intro g' L' h' hg' F' N' B' X' T'; (try dsimp only); (try k_fold))
    | (refine' enter_defC ?mek1 ?mek2 ?mek3 ?mek5 ?mekA ?mekF ?mekK ?mek6 ?mek7 ?mek8 ?mek9 ?mekB ?mekD ?_ ?mec2 ?mec3 ?mec4; (case mekA => exact rfl); (case mekF => exact rfl); (case mekK => assumption); (case mek1 => k_asm); (case mek2 => k_asm); (case mek3 => k_asm); (case mek5 => k_asm); (case mek6 => k_is); (case mek7 => k_is); (case mek8 => ktr_room); (case mek9 => exact BindsTo.of_eq rfl); (case mekB => exact rfl); (case mekD => decide +kernel); (case mec2 => exact rfl); (case mec3 => exact rfl); (case mec4 => exact rfl); k_whole; intro g' L' h' tk' cells' hg' F' N' Y' B' X' T'; k_cells Y'; (try simp only [List.cons_append, List.nil_append] at N'); (try dsimp only); (try k_fold))))
  rename s.heap = _ => hg
  k_steps
  all_goals (with_unfolding_all refine fin_val (Q := Q) hg (by k_asm) (rint_of ?_) hret rfl)
  all_goals (simp_all)
end
theorem calm_W2c : True := by
  w_top off
  first | walk1 | trivial
section
def wordsTab : List Str := [Str.ofString "OPTIMIZED", Str.ofString "NEWLOCALS", Str.ofString "VARARGS", Str.ofString "VARKEYWORDS", Str.ofString "NESTED", Str.ofString "GENERATOR", Str.ofString "NOFREE", Str.ofString "COROUTINE", Str.ofString "ITERABLE_COROUTINE", Str.ofString "ASYNC_GENERATOR"]
def wordAt (k : Int) : Str := wordsTab.getD (k - 1).toNat Str.empty
theorem wordAt_len (k : Int) : (wordAt k).length ≤ 18 := by
  unfold wordAt
  generalize (k - 1).toNat = n
  by_cases h : n < 10
  · have : ∀ i : Fin 10, (wordsTab.getD i.val Str.empty).length ≤ 18 := by decide
    exact this ⟨n, h⟩
  · rw [List.getD_eq_getElem?_getD, List.getElem?_eq_none (by simp [wordsTab]; omega)]
    decide
theorem join_any {prog : Program} {w : World} {A : Around} {E : Value → Shared → Prop} {s : Shared} {t : Tok} {Q : Value → Shared → Prop} {α : Type} {D : Addr} {ys : List Value} {l : List α} {g : α → PySem.Str} {x : PySem.Str} (B : Nat) (hl : s.heap.IsList D ys.toArray) (hc : CarriedAll ys (l.map fun a => PyData.str (g a))) (hB : ∀ a ∈ l, (g a).length ≤ B) (hn : l.length ≤ 100) (hs : x.length ≤ 16) (hb : B ≤ 100)
    (h : ∀ t' k, Q (.str (PySem.Txt.join x (l.map g)) t') { s with toks := k }) : wpAny (model prog w) A (call (.builtin "str.join") [.str x t, .ref D]) Q E s := by
  refine join_list hl (by simpa using CarriedAll.strsOf hc) ?_ h
  have h1 := sumLen_le_of_bound g B l hB
  rw [List.length_map]
  have h2 : B * l.length ≤ 100 * 100 := Nat.mul_le_mul hb hn
  have h3 : l.length * x.length ≤ 100 * 16 := Nat.mul_le_mul hn hs
  omega
def wordsS (ps : List Int) : Str := if ps = [] then Str.ofString "0x0" else Txt.join (Str.ofString ", ") (ps.map wordAt)
section
theorem words_con (w : World) (lp : Addr) (vp : List Value) (ps : List Int) (t1 : Tok) (hi : IntsAre vp ps) (hl : ps.length ≤ 12) (hb : ∀ k ∈ ps, 1 ≤ k ∧ k ≤ 10) :
    Con w 90 [.ref lp] 3 (fun h => h.IsList lp vp.toArray) (RStr (wordsS ps)) := by
  unfold Con
  k_fill
  intro mean mg mb dp un gd cn cs a ccd cl outer A₀ base h₀ L m s Q E B F X T hk hP hdp hun hret
  (refine wpAny_call ?_; k_dflt (first
    | (refine' enter_def ?mek1 ?mek2 ?mek3 ?mek5 ?mekA ?mekF ?mekK ?mek6 ?mek7 ?mek8 ?mek9 ?mekB ?_ ?mec2 ?mec3 ?mec4 ?mec5; (case mekA => exact rfl); (case mekF => exact rfl); (case mekK => assumption); (case mek1 => k_asm); (case mek2 => k_asm); (case mek3 => k_asm); (case mek5 => k_asm); (case mek6 => k_is); (case mek7 => k_is); (case mek8 => ktr_room); (case mek9 => exact BindsTo.of_eq rfl); (case mec5 => decide); (case mekB => exact locs rfl); (case mec2 => exact rfl); (case mec3 => exact rfl); (case mec4 => exact rfl); k_whole; intro g' L' h' hg' F' N' B' X' T'; (try dsimp only); (try k_fold))
    | (refine' enter_defC ?mek1 ?mek2 ?mek3 ?mek5 ?mekA ?mekF ?mekK ?mek6 ?mek7 ?mek8 ?mek9 ?mekB ?mekD ?_ ?mec2 ?mec3 ?mec4; (case mekA => exact rfl); (case mekF => exact rfl); (case mekK => assumption); (case mek1 => k_asm); (case mek2 => k_asm); (case mek3 => k_asm); (case mek5 => k_asm); (case mek6 => k_is); (case mek7 => k_is); (case mek8 => ktr_room); (case mek9 => exact BindsTo.of_eq rfl); (case mekB => exact rfl); (case mekD => decide +kernel); (case mec2 => exact rfl); (case mec3 => exact rfl); (case mec4 => exact rfl); k_whole; intro g' L' h' tk' cells' hg' F' N' Y' B' X' T'; k_cells Y'; (try simp only [List.cons_append, List.nil_append] at N'); (try dsimp only); (try k_fold))))
  rename s.heap = _ => hg
  rw [hg] at hP
  k_with "subscriptTail" => (refine item_strsA (ys := wordsTab) (l := [_, _, _, _, _, _, _, _, _, _]) (News.isList (by k_asm) (by k_mem)) (by unfold wordsTab; repeat constructor) (by have := hb _ (by assumption); omega) (by have := hb _ (by assumption); show _ < (10 : Int); omega) (by have := hb _ (by assumption); omega) ?_; intro _; try (change _ (Value.str (wordAt _) _) _))
  k_with "call builtin:str.join" => (refine join_any (g := wordAt) 18 (News.isList (by k_asm) (by k_mem)) (by assumption) (fun _ _ => wordAt_len _) (by omega) (by decide) (by decide) ?_; intro _ _)
  repeat' (first | ((with_reducible show LCg.CompSrc _ _ _ _ _ _ _ _ _ _ _ _ _ _); (try k_fmods); refine LCg.CompSrc.base (by rfl) (by k_asm) (by k_asm) (by assumption) (by kcf_size) ?_; intro g'; (refine' kct_list _ (by assumption) (fun k' t' I' oI' C' oC' D' m' ys' h' tk' E' hk' hC' hx' F' N' off' ne' => ?_) ?_); (all_goals (try (simp only [LCg.Off3, and_true] at off'))); (all_goals (try ((show KPfMark → _); intro hMark'))); kcf_last) | (k_unfold; (try dsimp only)) | walk1 | (dsimp only; walk1) | (leave1; walk_say "STEP leave1"; try dsimp only) | fail "no step")
  all_goals (with_unfolding_all refine fin_val (Q := Q) hg (by k_asm) (rstr_of ?_) hret rfl)
  all_goals unfold wordsS
  · rename decide _ = true => hd
    rw [if_pos (of_decide_eq_true hd)]
  · rename decide _ = false => hd
    rw [if_neg (of_decide_eq_false hd)]
end
end
theorem calm_W2d : True := by
  w_top off
  first | walk1 | trivial
section
def stepE (ps : List Int) (c : Bool × List Int) (k : Int) : Bool × List Int := if k ∈ ps then (!c.1, c.2) else if c.1 then (false, c.2 ++ [k - 1]) else c
def endsSt (ps pre : List Int) : Bool × List Int := pre.foldl (stepE ps) (false, [])
theorem endsSt_snoc (ps pre : List Int) (k : Int) : endsSt ps (pre ++ [k]) = stepE ps (endsSt ps pre) k := by simp [endsSt]
theorem ends_a {ps pre ends : List Int} {k : Int} {half : Bool} (hc : (ps.any fun x => x == k) = true) (h1 : (half, ends) = endsSt ps pre) (h2 : ends.length ≤ pre.length) : (!half, ends) = endsSt ps (pre ++ [k]) ∧ ends.length ≤ (pre ++ [k]).length := by
  have hk : k ∈ ps := by simpa using hc
  refine ⟨?_, by simp; omega⟩
  rw [endsSt_snoc, ← h1]; simp [stepE, hk]
theorem ends_b {ps pre ends : List Int} {k : Int} {half : Bool} (hc : (ps.any fun x => x == k) = false) (hh : half = true) (h1 : (half, ends) = endsSt ps pre) (h2 : ends.length ≤ pre.length) : (false, ends ++ [k - 1]) = endsSt ps (pre ++ [k]) ∧ (ends ++ [k - 1]).length ≤ (pre ++ [k]).length := by
  have hk : ¬ k ∈ ps := fun h => by
    have : (ps.any fun x => x == k) = true := by simpa using h
    rw [hc] at this; cases this
  subst hh
  refine ⟨?_, by simp; omega⟩
  rw [endsSt_snoc, ← h1]; simp [stepE, hk]
theorem ends_c {ps pre ends : List Int} {k : Int} {half : Bool} (hc : (ps.any fun x => x == k) = false) (hh : half = false) (h1 : (half, ends) = endsSt ps pre) (h2 : ends.length ≤ pre.length) : (half, ends) = endsSt ps (pre ++ [k]) ∧ ends.length ≤ (pre ++ [k]).length := by
  have hk : ¬ k ∈ ps := fun h => by
    have : (ps.any fun x => x == k) = true := by simpa using h
    rw [hc] at this; cases this
  subst hh
  refine ⟨?_, by simp; omega⟩
  rw [endsSt_snoc, ← h1]; simp [stepE, hk]
theorem ends_con (w : World) (lp : Addr) (vp : List Value) (ps : List Int) (wide : Int) (t1 : Tok) (hi : IntsAre vp ps) (hl : ps.length ≤ 12) (h2 : 0 ≤ wide) (h3 : wide ≤ 11) :
    Con w 97 [.ref lp, .int wide t1] 3 (fun h => h.IsList lp vp.toArray) (RInts (endsSt ps (rangeKs 1 (wide + 2 - 1).toNat)).2) := by
  unfold Con
  k_fill
  intro mean mg mb dp un gd cn cs a ccd cl outer A₀ base h₀ L m s Q E B F X T hk hP hdp hun hret
  (refine wpAny_call ?_; k_dflt (first
    | (refine' enter_def ?mek1 ?mek2 ?mek3 ?mek5 ?mekA ?mekF ?mekK ?mek6 ?mek7 ?mek8 ?mek9 ?mekB ?_ ?mec2 ?mec3 ?mec4 ?mec5; (case mekA => exact rfl); (case mekF => exact rfl); (case mekK => assumption); (case mek1 => k_asm); (case mek2 => k_asm); (case mek3 => k_asm); (case mek5 => k_asm); (case mek6 => k_is); (case mek7 => k_is); (case mek8 => ktr_room); (case mek9 => exact BindsTo.of_eq rfl); (case mec5 => decide); (case mekB => exact locs rfl); (case mec2 => exact rfl); (case mec3 => exact rfl); (case mec4 => exact rfl); k_whole; intro g' L' h' hg' F' N' B' X' T'; (try dsimp only); (try k_fold))
    | (refine' enter_defC ?mek1 ?mek2 ?mek3 ?mek5 ?mekA ?mekF ?mekK ?mek6 ?mek7 ?mek8 ?mek9 ?mekB ?mekD ?_ ?mec2 ?mec3 ?mec4; (case mekA => exact rfl); (case mekF => exact rfl); (case mekK => assumption); (case mek1 => k_asm); (case mek2 => k_asm); (case mek3 => k_asm); (case mek5 => k_asm); (case mek6 => k_is); (case mek7 => k_is); (case mek8 => ktr_room); (case mek9 => exact BindsTo.of_eq rfl); (case mekB => exact rfl); (case mekD => decide +kernel); (case mec2 => exact rfl); (case mec3 => exact rfl); (case mec4 => exact rfl); k_whole; intro g' L' h' tk' cells' hg' F' N' Y' B' X' T'; k_cells Y'; (try simp only [List.cons_append, List.nil_append] at N'); (try dsimp only); (try k_fold))))
  rename s.heap = _ => hg
  rw [hg] at hP
  k_with "pyIter ref" => k_state (fun pre half ends => (half, ends) = endsSt ps pre ∧ ends.length ≤ pre.length) "half" "ends"
  k_with "state" => exact ⟨rfl, Nat.le_refl _⟩
  k_with "state" => exact ends_a (by assumption) (by assumption) (by assumption)
  k_with "state" => exact ends_b (by assumption) (by assumption) (by assumption) (by assumption)
  k_with "state" => exact ends_c (by assumption) (by assumption) (by assumption) (by assumption)
  k_steps
  rename (_, _) = endsSt ps _ => hE
  rename IntsAre _ _ => hI
  rename News _ _ _ _ => hN
  with_unfolding_all refine fin_val (Q := Q) hg (by k_asm) ?_ hret rfl
  rw [← hE]
  exact rints_of hN (List.Mem.head _) hI
end
theorem calm_FE : True := by
  w_top off
  first | walk1 | trivial
section
def ForElseAt (prog : Program) (w : World) (A : Around) (env : Env) (x : Str) (px : Pos) (body orelse : List Stmt) (Q : Flow → Shared → Prop) (E : Value → Shared → Prop) (xv : Value) (s₁ : Shared) : Prop :=
  wpAny (model prog w) A (pyIter xv) (fun it s₂ => codeAny (model prog w) A (.forLoop (.Name x px) it body orelse env) (fun rr s' => match rr with | .ok f => Q f s' | .error e => cameBackBy (model prog w) A env E e s') s₂) E s₁
theorem For_else {prog : Program} {w : World} {A : Around} {E : Value → Shared → Prop} {s : Shared} {env : Env} {x : Str} {px pos : Pos} {iter : Expr} {body orelse : List Stmt} {Q : Flow → Shared → Prop}
    (h : wpAny (model prog w) A (eval iter env) (fun xv s₁ => ForElseAt prog w A env x px body orelse Q E xv s₁) E s) (hs : ∀ x, foldedSetIterable iter env x = pure x) :
    wpAny (model prog w) A (exec (.For (.Name x px) iter body orelse pos) env) Q E s := wpAny_For h hs
section
variable {prog : Program} {w : World} {A : Around} {E : Value → Shared → Prop} {s : Shared} {env : Env} {h₀ : Heap} {x : Str} {px : Pos} {body orelse : List Stmt} {Q : Flow → Shared → Prop}
theorem forelse {r : Addr} {t₀ u₀ v₀ : Tok} {n : Nat} {m₀ : Str → Option Value} {news : List (Addr × Obj)} (J : Nat → (Str → Option Value) → List (Addr × Obj) → Prop)
    (hh : A.handled = none) (hx : env.kindOf x = some .local) (hp : (env.scope.kind == .class || (env.scope.kind == .module && env.locals != env.globals)) = false)
    (hr : IsRange s.heap r 0 (n : Int) 1 t₀ u₀ v₀) (hsmall : Builtin.Range.small 0 (n : Int) 1 = true) (hn : Builtin.Range.rangeSize 0 (n : Int) 1 = (n : Int))
    (F : Fr h₀ env.locals s.heap m₀) (N : News h₀ env.locals s.heap news) (hj : J 0 m₀ news)
    (turn : ∀ (i : Nat) t m₁ news₁ h tk own, i < n → news₁.map (·.1) = news.map (·.1) → OwnOff own (news.map (·.1)) → J i m₁ news₁ → Fr h₀ env.locals h (fun y => if y = x then some (.int i t) else m₁ y) → News h₀ env.locals h (news₁ ++ own) →
      wpAny (model prog w) A (execs body env) (InvPostN h₀ env.locals (J (i + 1)) own (news.map (·.1)) { s with heap := h, toks := tk } Q) E { s with heap := h, toks := tk })
    (done : ∀ m₁ news₁ h tk, J n m₁ news₁ → Fr h₀ env.locals h m₁ → News h₀ env.locals h news₁ → wpAny (model prog w) A (execs orelse env) Q E { s with heap := h, toks := tk })
    (hE : PassesOwn (model prog w) A env E) :
    ForElseAt prog w A env x px body orelse Q E (.ref r) s := by
  unfold ForElseAt
  refine wpAny_pyIter_range hr hsmall ?_
  rw [hn]
  have W := Walks.range (prog := prog) (w := w) hh s.heap.objs.size 0 1 n
  have hIL : s.heap.objs.size ≠ env.locals := fun q => absurd F.ns.lt (q ▸ Nat.lt_irrefl _)
  have hI0 : h₀.get? s.heap.objs.size = none := by
    cases q : h₀.get? s.heap.objs.size with
    | none => rfl
    | some o => exact absurd (Heap.lt_size (F.keep _ _ q)) (Nat.lt_irrefl _)
  have hIN : ∀ p ∈ news, p.1 ≠ s.heap.objs.size := fun p hp q => absurd (Heap.lt_size (N p hp).1) (q ▸ Nat.lt_irrefl _)
  refine codeAny_forLoop (fun k s' => ∃ h' tk m' news' i, s' = { s with heap := h', toks := tk } ∧ IsRangeIter h' s.heap.objs.size (0 + (i : Nat) * 1) ((n : Int) - (i : Nat)) 1 ∧ Fr h₀ env.locals h' m' ∧ News h₀ env.locals h' news' ∧ news'.map (·.1) = news.map (·.1) ∧ J i m' news' ∧ i ≤ n ∧ k = n + 1 - i) ?_ (n + 1)
    ⟨_, s.toks, m₀, news, 0, rfl, ?_, F.push _, fun p hp => ⟨Heap.get?_push_of_some _ (N p hp).1, (N p hp).2⟩, rfl, hj, Nat.zero_le _, rfl⟩
  · rintro k s' ⟨h', tk, m', news', i, rfl, hst, F', N', hm', hJ, hi, rfl⟩
    have hIN' : ∀ p ∈ news', p.1 ≠ s.heap.objs.size := fun p hp q => by
      have h1 : p.1 ∈ news'.map (·.1) := List.mem_map_of_mem hp
      rw [hm'] at h1
      obtain ⟨p', hp', e⟩ := List.mem_map.mp h1
      exact hIN p' hp' (e.trans q)
    have keepF : ∀ h₁ : Heap, (∀ b o, b ∉ [s.heap.objs.size] → h'.get? b = some o → h₁.get? b = some o) → Fr h₀ env.locals h₁ m' ∧ News h₀ env.locals h₁ news' := fun h₁ hk => by
      refine ⟨⟨F'.ns.at' fun o e => hk _ o (by simpa using hIL.symm) e, fun b o e => hk b o ?_ (F'.keep b o e), F'.above⟩, fun p hp => ⟨hk _ _ (by simpa using hIN' p hp) (N' p hp).1, (N' p hp).2⟩⟩
      intro hb
      rw [List.mem_singleton.mp hb, hI0] at e
      cases e
    by_cases hlt : i < n
    · refine W.item i _ _ _ hlt hst fun v h₁ tk₁ hv hst₁ hk₁ => ?_
      obtain ⟨t, rfl⟩ := hv
      obtain ⟨F₁, N₁⟩ := keepF h₁ hk₁
      refine wpAny_assign_Name (wpAny_storeName_local hx F₁.ns (fun h₂ hn₂ hs₂ => ?_) hp)
      have hst₂ : IsRangeIter h₂ s.heap.objs.size (0 + ((i + 1 : Nat) : Int) * 1) ((n : Int) - ((i + 1 : Nat) : Int)) 1 := W.frame (i + 1) _ _ hst₁ fun b hb o e => by
        rw [List.mem_singleton.mp hb] at e ⊢
        exact (hs₂.2 _ hIL).trans e
      have F₂ := F₁.set hn₂ hs₂
      have N₂ := N₁.set hs₂
      have ei : (0 : Int) + (i : Nat) * 1 = (i : Int) := by omega
      rw [ei] at F₂
      obtain ⟨oI, hoI⟩ : ∃ oI, h₂.get? s.heap.objs.size = some oI := ⟨_, hst₂⟩
      refine wpAny_mono (wpAny_passesOwn hE (turn i t m' news' h₂ _ [(s.heap.objs.size, oI)] hlt hm' ?_ hJ F₂ ?_)) (fun f s₃ h₃ => ?_) fun _ _ e => e
      · intro p hp b hb q
        rw [List.mem_singleton.mp hp] at q
        obtain ⟨p', hp', e⟩ := List.mem_map.mp hb
        exact hIN p' hp' (e.trans q.symm)
      · intro p hp
        rcases List.mem_append.mp hp with hp | hp
        · exact N₂ p hp
        · rw [List.mem_singleton.mp hp]
          exact ⟨hoI, hIL, hI0⟩
      · have go : InvEndN h₀ env.locals (J (i + 1)) [(s.heap.objs.size, oI)] (news.map (·.1)) { s with heap := h₂, toks := tk₁ + 1 } s₃ →
            ∃ k', k' < n + 1 - i ∧ ∃ h' tk m' news' j, s₃ = { s with heap := h', toks := tk } ∧ IsRangeIter h' s.heap.objs.size (0 + (j : Nat) * 1) ((n : Int) - (j : Nat)) 1 ∧ Fr h₀ env.locals h' m' ∧ News h₀ env.locals h' news' ∧ news'.map (·.1) = news.map (·.1) ∧ J j m' news' ∧ j ≤ n ∧ k' = n + 1 - j := by
          rintro ⟨h₄, tk₄, m₄, n₄, nx, rfl, F₄, N₄, hs1, hs2, ha, hJ₄⟩
          refine ⟨n + 1 - (i + 1), by omega, h₄, tk₄, m₄, nx, i + 1, rfl, ?_, F₄, fun p hp => N₄ p (hs1 p hp), ha, hJ₄, hlt, rfl⟩
          refine W.frame (i + 1) _ _ hst₂ fun b hb o e => ?_
          rw [List.mem_singleton.mp hb] at e ⊢
          have e' : oI = o := Option.some.inj (hoI.symm.trans e)
          exact e' ▸ (N₄ _ (hs2 _ (.head _))).1
        cases f with
        | ret v => exact h₃
        | brk => exact h₃
        | next => exact go h₃
        | cont => exact go h₃
    · have e : i = n := by omega
      subst e
      refine W.done _ _ _ hst fun h₁ tk₁ hk₁ => ?_
      obtain ⟨F₁, N₁⟩ := keepF h₁ hk₁
      exact wpAny_passesOwn hE (done m' news' h₁ tk₁ hJ F₁ N₁)
  · show IsRangeIter _ _ _ _ _
    simpa using Heap.get?_push_size _ rfl
end
section
variable {prog : Program} {w : World} {A : Around} {E : Value → Shared → Prop} {s : Shared} {env : Env} {h₀ : Heap} {x : Str} {px : Pos} {body orelse : List Stmt} {Q : Flow → Shared → Prop}
theorem kst_forelse {σ : Type} {r : Addr} {t₀ u₀ v₀ : Tok} {n : Nat} {m₀ : Str → Option Value} (Led : σ → List (Addr × Obj)) (ps : σ → List (Str × Value)) (Facts : σ → Prop) (stored : List Str) (P : List Int → σ → Prop) (c₀ : σ)
    (hh : A.handled = none) (hx : env.kindOf x = some .local) (hp' : (env.scope.kind == .class || (env.scope.kind == .module && env.locals != env.globals)) = false)
    (hr : IsRange s.heap r 0 (n : Int) 1 t₀ u₀ v₀) (hsmall : Builtin.Range.small 0 (n : Int) 1 = true) (hn : Builtin.Range.rangeSize 0 (n : Int) 1 = (n : Int)) (F : Fr h₀ env.locals s.heap m₀) (N : News h₀ env.locals s.heap (Led c₀)) (hf : Facts c₀) (hk : ∀ p ∈ ps c₀, m₀ p.1 = some p.2) (hp : P [] c₀)
    (turn : ∀ (c : σ) (pre : List Int) (k : Int) t (u : Str → Option Value) h tk own, k = (pre.length : Int) → pre.length < n → OwnOff own ((Led c₀).map (·.1)) → Facts c → P pre c →
      Fr h₀ env.locals h (fun y => if y = x then some (.int k t) else kstB (fun z => if stored.contains z then u z else m₀ z) (ps c) y) → News h₀ env.locals h (Led c ++ own) →
      wpAny (model prog w) A (execs body env) (InvPostN h₀ env.locals (KstS Led ps Facts x stored m₀ P (pre ++ [k])) own ((Led c₀).map (·.1)) { s with heap := h, toks := tk } Q) E { s with heap := h, toks := tk })
    (done : ∀ (c : σ) (u : Str → Option Value) h tk, Facts c → P (rangeKs 0 n) c → Fr h₀ env.locals h (fun y => if y = x then u y else kstB (fun z => if stored.contains z then u z else m₀ z) (ps c) y) → News h₀ env.locals h (Led c) → wpAny (model prog w) A (execs orelse env) Q E { s with heap := h, toks := tk })
    (hE : PassesOwn (model prog w) A env E) :
    ForElseAt prog w A env x px body orelse Q E (.ref r) s := by
  refine forelse (news := Led c₀) (fun i m nx => KstS Led ps Facts x stored m₀ P ((rangeKs 0 n).take i) m nx) hh hx hp' hr hsmall hn F N ⟨c₀, rfl, hf, hk, fun _ _ _ _ => rfl, by simpa using hp⟩ ?_ ?_ hE
  · rintro i t m₁ nx h tk own hi _ hoff ⟨c, rfl, hf', h1, h2, hp''⟩ F₁ N₁
    have hk' : (rangeKs 0 n)[i]? = some (i : Int) := by simp [rangeKs, hi]
    have hs : (rangeKs 0 n).take (i + 1) = (rangeKs 0 n).take i ++ [(i : Int)] := by simp [List.take_add_one, hk']
    have hlen : ((rangeKs 0 n).take i).length = i := by rw [List.length_take, rangeKs_length]; omega
    rw [hs]
    exact turn c _ _ t m₁ h tk own (by rw [hlen]) (by rw [hlen]; exact hi) hoff hf' hp'' (kst_fr h1 h2 F₁) N₁
  · rintro m₁ nx h tk ⟨c, rfl, hf', h1, h2, hp''⟩ F₁ N₁
    have hl : (rangeKs 0 n).take n = rangeKs 0 n := List.take_of_length_le (Nat.le_of_eq (rangeKs_length _ _))
    rw [hl] at hp''
    exact done c m₁ h tk hf' hp'' (kst_frOut h1 h2 F₁) N₁
end
end
theorem calm_PL : True := by
  w_top off
  first | walk1 | trivial
section
def pname : List Nat → List Nat
  | [] => []
  | [c] => if c = 34 then [] else [c]
  | c :: d :: r => if c = 34 then (if d = 34 then 34 :: pname r else []) else c :: pname (d :: r)
def pnameS (x : Str) : Str := ⟨(pname x.cps.toList).toArray⟩
def PInv (x : Str) (i : Int) (d : Str) : Prop := d.cps.toList ++ pname (x.cps.toList.drop (i - 5).toNat) = pname x.cps.toList
theorem head_len (x : Str) : (Str.ofString "257 \"" ++ x).length = 5 + x.length := by rw [Str.length_append]; rfl
theorem head_list (x : Str) : (Str.ofString "257 \"" ++ x).cps.toList = [50, 53, 55, 32, 34] ++ x.cps.toList := by
  rw [Str.cps_append, Array.toList_append]; rfl
theorem slice_head (x : Str) : Txt.slice (Str.ofString "257 \"" ++ x) none (some 3) = Str.ofString "257" := by
  rw [eq_of_beq (slice_closes_to (x := Str.ofString "257 \"" ++ x) (j := 3) (by rw [head_list]; simp; omega)), head_list]
  rfl
theorem slice_mid (x : Str) : Txt.slice (Str.ofString "257 \"" ++ x) (some 3) (some 5) = Str.ofString " \"" := by
  rw [eq_of_beq (slice_closes (x := Str.ofString "257 \"" ++ x) (i := 3) (j := 5) (by rw [head_list]; simp; omega)), head_list]
  rfl
theorem item_get {x : Str} {i : Int} {c : Nat} (h0 : 0 ≤ i) (h : x.cps.toList[i.toNat]? = some c) : Txt.item x i = ⟨#[c]⟩ :=
  item_meets h0 (by rw [← Array.getElem?_toList]; exact h)
theorem cps_len (x : Str) : x.cps.toList.length = x.length := by rw [Array.length_toList]; rfl
theorem item_tail {x : Str} {i : Int} (h : 5 ≤ i) (hi : i < x.length + 5) : ∃ c r, x.cps.toList.drop (i - 5).toNat = c :: r ∧ x.cps.toList.drop (i + 1 - 5).toNat = r ∧ Txt.item (Str.ofString "257 \"" ++ x) i = ⟨#[c]⟩ := by
  have hl : (i - 5).toNat < x.cps.toList.length := by
    rw [cps_len]; omega
  refine ⟨x.cps.toList[(i - 5).toNat], x.cps.toList.drop ((i - 5).toNat + 1), List.drop_eq_getElem_cons hl, by congr 1; omega, item_get (by omega) ?_⟩
  rw [head_list, List.getElem?_append_right (by simp; omega)]
  have e : i.toNat - [50, 53, 55, 32, 34].length = (i - 5).toNat := by simp; omega
  rw [e, List.getElem?_eq_getElem hl]
theorem one_eq (c : Nat) : (⟨#[c]⟩ : Str) = Str.ofString "\"" ↔ c = 34 := by
  have e : Str.ofString "\"" = ⟨#[34]⟩ := rfl
  rw [e]
  constructor
  · intro h; cases h; rfl
  · intro h; rw [h]
theorem tail_nil {x : Str} {i : Int} (h : (x.length : Int) + 5 ≤ i) : x.cps.toList.drop (i - 5).toNat = [] := by
  refine List.drop_eq_nil_of_le ?_
  rw [cps_len]; omega
/-- a plain sign is kept -/
theorem p_plain {x d : Str} {i : Int} (h5 : 5 ≤ i) (hi : i < x.length + 5) (hp : PInv x i d) (hc : Txt.item (Str.ofString "257 \"" ++ x) i ≠ Str.ofString "\"") : PInv x (i + 1) (d ++ Txt.item (Str.ofString "257 \"" ++ x) i) := by
  obtain ⟨c, r, e1, e2, e3⟩ := item_tail h5 hi
  unfold PInv at *
  rw [e1] at hp
  rw [e2, e3, Str.cps_append, Array.toList_append, ← hp]
  rw [e3] at hc
  have hc' : ¬ c = 34 := fun q => hc ((one_eq c).mpr q)
  cases r with
  | nil => simp [pname, hc']
  | cons a r => simp [pname, hc']
/-- two marks: one is kept -/
theorem p_two {x d : Str} {i : Int} (h5 : 5 ≤ i) (hi : i + 1 < x.length + 5) (hp : PInv x i d) (hc : Txt.item (Str.ofString "257 \"" ++ x) i = Str.ofString "\"") (hd : Txt.item (Str.ofString "257 \"" ++ x) (i + 1) = Str.ofString "\"") : PInv x (i + 1 + 1) (d ++ Txt.item (Str.ofString "257 \"" ++ x) i) := by
  obtain ⟨c, r, e1, e2, e3⟩ := item_tail h5 (by omega : i < x.length + 5)
  obtain ⟨c', r', e1', e2', e3'⟩ := item_tail (by omega : 5 ≤ i + 1) hi
  rw [e3, one_eq] at hc
  rw [e3', one_eq] at hd
  subst hc hd
  unfold PInv at *
  rw [e2] at e1'
  rw [e1, e1'] at hp
  rw [e2', e3, Str.cps_append, Array.toList_append, ← hp]
  simp [pname]
/-- one mark ends it -/
theorem p_stop {x d : Str} {i : Int} (h5 : 5 ≤ i) (hi : i < x.length + 5) (hp : PInv x i d) (hc : Txt.item (Str.ofString "257 \"" ++ x) i = Str.ofString "\"")
    (hd : (x.length : Int) + 5 ≤ i + 1 ∨ (i + 1 < x.length + 5 ∧ Txt.item (Str.ofString "257 \"" ++ x) (i + 1) ≠ Str.ofString "\"")) : d = pnameS x := by
  obtain ⟨c, r, e1, e2, e3⟩ := item_tail h5 hi
  rw [e3, one_eq] at hc
  subst hc
  unfold PInv at hp
  rw [e1] at hp
  have hr : pname (34 :: r) = [] := by
    rcases hd with hd | ⟨hd, he⟩
    · rw [tail_nil hd] at e2
      subst e2; rfl
    · obtain ⟨c', r', e1', e2', e3'⟩ := item_tail (by omega : 5 ≤ i + 1) hd
      rw [e3'] at he
      have hc' : ¬ c' = 34 := fun q => he ((one_eq c').mpr q)
      rw [← e2, e1']
      simp [pname, hc']
  rw [hr, List.append_nil] at hp
  unfold pnameS
  rw [← hp]
theorem p_end {x d : Str} {i : Int} (hi : (x.length : Int) + 5 ≤ i) (hp : PInv x i d) : d = pnameS x := by
  unfold PInv at hp
  rw [tail_nil hi] at hp
  have : pname [] = [] := rfl
  rw [this, List.append_nil] at hp
  unfold pnameS
  rw [← hp]
theorem p_start (x : Str) : PInv x 5 (Str.ofString "") := by
  unfold PInv
  rfl
def PW (x : Str) (i : Int) (d : Str) : Prop := 5 ≤ i ∧ i ≤ x.length + 5 ∧ (d.length : Int) ≤ i - 5 ∧ PInv x i d
theorem pw_start (x : Str) : PW x 5 (Str.ofString "") := ⟨by omega, by omega, by decide, p_start x⟩
theorem pw_plain {x d : Str} {i : Int} (h : PW x i d) (hi : i < (Str.ofString "257 \"" ++ x).length) (hc : (Txt.item (Str.ofString "257 \"" ++ x) i == Str.ofString "\"") = false) : PW x (i + 1) (d ++ Txt.item (Str.ofString "257 \"" ++ x) i) := by
  obtain ⟨h1, h2, h3, h4⟩ := h
  rw [head_len] at hi
  refine ⟨by omega, by omega, ?_, p_plain h1 (by omega) h4 (ne_of_beq_false hc)⟩
  rw [Str.length_append, len_item]; omega
theorem pw_two {x d : Str} {i : Int} (h : PW x i d) (hi : ¬ ((Str.ofString "257 \"" ++ x).length : Int) ≤ i + 1) (hc : (Txt.item (Str.ofString "257 \"" ++ x) i == Str.ofString "\"") = true)
    (hd : (Txt.item (Str.ofString "257 \"" ++ x) (i + 1) != Str.ofString "\"") = false) : PW x (i + 1 + 1) (d ++ Txt.item (Str.ofString "257 \"" ++ x) i) := by
  obtain ⟨h1, h2, h3, h4⟩ := h
  rw [head_len] at hi
  refine ⟨by omega, by omega, ?_, p_two h1 (by omega) h4 (eq_of_beq hc) (by simpa using hd)⟩
  rw [Str.length_append, len_item]; omega
theorem pw_stop1 {x d : Str} {i : Int} (h : PW x i d) (hi : i < (Str.ofString "257 \"" ++ x).length) (hi' : ((Str.ofString "257 \"" ++ x).length : Int) ≤ i + 1) (hc : (Txt.item (Str.ofString "257 \"" ++ x) i == Str.ofString "\"") = true) : d = pnameS x := by
  obtain ⟨h1, h2, h3, h4⟩ := h
  rw [head_len] at hi hi'
  exact p_stop h1 (by omega) h4 (eq_of_beq hc) (.inl (by omega))
theorem pw_stop2 {x d : Str} {i : Int} (h : PW x i d) (hi : i < (Str.ofString "257 \"" ++ x).length) (hi' : ¬ ((Str.ofString "257 \"" ++ x).length : Int) ≤ i + 1) (hc : (Txt.item (Str.ofString "257 \"" ++ x) i == Str.ofString "\"") = true)
    (hd : (Txt.item (Str.ofString "257 \"" ++ x) (i + 1) != Str.ofString "\"") = true) : d = pnameS x := by
  obtain ⟨h1, h2, h3, h4⟩ := h
  rw [head_len] at hi hi'
  exact p_stop h1 (by omega) h4 (eq_of_beq hc) (.inr ⟨by omega, by simpa using hd⟩)
theorem pw_end {x d : Str} {i : Int} (h : PW x i d) (hi : ¬ i < ((Str.ofString "257 \"" ++ x).length : Int)) : d = pnameS x := by
  obtain ⟨h1, h2, h3, h4⟩ := h
  rw [head_len] at hi
  exact p_end (by omega) h4
end
theorem calm_ZS : True := by
  w_top off
  first | walk1 | trivial
section
section
variable {prog : Program} {w : World} {A : Around} {E : Value → Shared → Prop} {s : Shared}
theorem zs_draw (hh : A.handled = none) (it : Addr) (x : Str) (t : Tok) :
    Draws prog w A it [it] x.cps.size (fun i v => ∃ c u, x.cps[i]? = some c ∧ v = .str ⟨#[c]⟩ u) (fun i h => h.IsStrIter it (strIterType x) x t i) := by
  unfold strIterType
  cases x.cps.all (· < 128)
  · exact Draws.strWide hh it x t
  · exact Draws.strAscii hh it x t
/-- the zip of two texts and what it holds: the iterators at n and n+1, its two tuples behind them, itself last -/
def ZHas (x y : Str) (t u : Tok) (n : Addr) (k1 k2 : Nat) (f0 : Value) (h : Heap) : Prop :=
  IsZip h (n + 4) (n + 2) (n + 3) f0 ∧ IsPair h (n + 2) (.ref n) (.ref (n + 1)) ∧ (∃ a b, IsPair h (n + 3) a b) ∧ h.IsStrIter n (strIterType x) x t k1 ∧ h.IsStrIter (n + 1) (strIterType y) y u k2
theorem at_ne {n a b : Nat} (h : a ≠ b) : @Ne Addr (n + a) (n + b) := fun q => h (Nat.add_left_cancel q)
theorem at_ne0 {n a : Nat} (h : a ≠ 0) : @Ne Addr n (n + a) := fun q => h (by have : n + 0 = n + a := q; exact (Nat.add_left_cancel this).symm)
theorem si_at {h h' : Heap} {a : Addr} {ty : String} {x : Str} {t : Tok} {i : Nat} (y : h.IsStrIter a ty x t i) (k : ∀ o, h.get? a = some o → h'.get? a = some o) : h'.IsStrIter a ty x t i :=
  let ⟨o, ho, r⟩ := y; ⟨o, k o ho, r⟩
theorem zs_item {x y : Str} {t u : Tok} {n : Addr} {k : Nat} {Q : Option Value → Shared → Prop} (hh : A.handled = none) (hst : ZHas x y t u n k k .none s.heap) (hx : k < x.cps.size) (hy : k < y.cps.size)
    (hQ : ∀ h' tk v₁ v₂, (∃ c u, x.cps[k]? = some c ∧ v₁ = .str ⟨#[c]⟩ u) → (∃ c u, y.cps[k]? = some c ∧ v₂ = .str ⟨#[c]⟩ u) → ZHas x y t u n (k + 1) (k + 1) (rawInt s.heap.objs.size) h' → IsPair h' s.heap.objs.size v₁ v₂ →
      (∀ c o, c ∉ [n + 4, n + 3, n, n + 1] → s.heap.get? c = some o → h'.get? c = some o) → Q (some (.ref s.heap.objs.size)) { s with heap := h', toks := tk }) :
    wpAny (model prog w) A (pyNext (.ref (n + 4))) Q E s := by
  obtain ⟨hz, hTI, ⟨a, b, hTO⟩, h1, h2⟩ := hst
  have hT : s.TypeIs (.ref (n + 4)) "zip" := ⟨_, hz, rfl⟩
  unfold pyNext
  refine wpAny_bind (wpAny_attempt (wpAny_callSpecial?_slot (name := Str.ofString "__next__") hT F.slot_zip_next (wpAny_call_entry F.slot_zip_next hT F.entry_zip_next ?_ (F.args_zip_next_1 _))))
  show wpAny _ _ (field (.ref (n + 4)) 2 >>= _) _ _ _
  refine wpAny_bind (wpAny_field hz rfl (x := .bool false) rfl ?_)
  show wpAny _ _ (field (.ref (n + 4)) 3 >>= _) _ _ _
  refine wpAny_bind (wpAny_field hz rfl (x := .ref (n + 2)) rfl ?_)
  refine wpAny_bind (wpAny_seqItems hTI rfl ?_)
  show wpAny _ _ (Builtin.SmallTypes.ownedTupleIsFree (.ref (n + 4)) >>= _) _ _ _
  refine wpAny_bind ?_
  unfold Builtin.SmallTypes.ownedTupleIsFree
  refine wpAny_bind (wpAny_field hz rfl (x := .none) rfl (wpAny_pure ?_))
  simp only [if_true]
  refine wpAny_bind (wpAny_rule ?_)
  refine wpAny_bind (wpAny_field hz rfl (x := .ref (n + 3)) rfl ?_)
  refine wpAny_bind (wpAny_setField_rec hz (by simp) fun g1 z1 k1 => ?_)
  replace z1 : IsZip g1 (n + 4) (n + 2) (n + 3) .ellipsis := z1
  refine wpAny_bind ?_
  simp only [List.zipIdx_cons, List.zipIdx_nil, List.forIn_cons, List.forIn_nil]
  refine wpAny_bind (wpAny_bind (wpAny_onRaise ?_))
  show wpAny _ _ (Builtin.SmallTypes.nextOf (.ref n) >>= _) _ _ _
  refine wpAny_bind ((zs_draw (prog := prog) (w := w) (A := A.in1) hh n x t).item k _ _ _ hx (si_at h1 fun o e => k1.extBut _ o (at_ne0 (by decide)) e) fun v₁ g2 tk₂ p1 d1 k2 => wpAny_pure ?_)
  have o2 : IsPair g2 (n + 3) a b := k2.extBut _ _ (at_ne0 (by decide)).symm (k1.extBut _ _ (at_ne (by decide)) hTO)
  refine wpAny_bind (wpAny_seqItems o2 rfl ?_)
  refine wpAny_bind (wpAny_updateSeq_pair o2 fun g3 o3 k3 => ?_)
  replace o3 : IsPair g3 (n + 3) v₁ b := o3
  refine wpAny_bind (wpAny_letGo (wpAny_pure ?_))
  refine wpAny_bind (wpAny_bind (wpAny_onRaise ?_))
  show wpAny _ _ (Builtin.SmallTypes.nextOf (.ref (n + 1)) >>= _) _ _ _
  refine wpAny_bind ((zs_draw (prog := prog) (w := w) (A := A.in1) hh (n + 1) y u).item k _ _ _ hy (si_at h2 fun o e => k3.extBut _ o (at_ne (by decide)) (k2.extBut _ o (at_ne0 (by decide)).symm (k1.extBut _ o (at_ne (by decide)) e))) fun v₂ g4 tk₄ p2 d2 k4 => wpAny_pure ?_)
  have o4 : IsPair g4 (n + 3) v₁ b := k4.extBut _ _ (at_ne (by decide)) o3
  refine wpAny_bind (wpAny_seqItems o4 rfl ?_)
  refine wpAny_bind (wpAny_updateSeq_pair o4 fun g5 o5 k5 => ?_)
  replace o5 : IsPair g5 (n + 3) v₁ v₂ := o5
  refine wpAny_bind (wpAny_letGo (wpAny_pure (wpAny_pure ?_)))
  refine wpAny_bind (wpAny_seqItems o5 rfl ?_)
  refine wpAny_bind (wpAny_newTuple ?_)
  have hsz : g5.objs.size = s.heap.objs.size := by rw [k5.1, k4.1, k3.1, k2.1, k1.1]
  have z5 : IsZip g5 (n + 4) (n + 2) (n + 3) .ellipsis := k5.extBut _ _ (at_ne (by decide)) (k4.extBut _ _ (at_ne (by decide)) (k3.extBut _ _ (at_ne (by decide)) (k2.extBut _ _ (at_ne0 (by decide)).symm z1)))
  have keep5 : ∀ c o, c ∉ [n + 4, n + 3, n, n + 1] → s.heap.get? c = some o → g5.get? c = some o := fun c o hc e => by
    simp only [List.mem_cons, List.not_mem_nil, or_false, not_or] at hc
    exact k5.extBut _ _ hc.2.1 (k4.extBut _ _ hc.2.2.2 (k3.extBut _ _ hc.2.1 (k2.extBut _ _ hc.2.2.1 (k1.extBut _ _ hc.1 e))))
  have d1' : g5.IsStrIter n (strIterType x) x t (k + 1) := si_at d1 fun o e => k5.extBut _ o (at_ne0 (by decide)) (k4.extBut _ o (at_ne0 (by decide)) (k3.extBut _ o (at_ne0 (by decide)) e))
  have d2' : g5.IsStrIter (n + 1) (strIterType y) y u (k + 1) := si_at d2 fun o e => k5.extBut _ o (at_ne (by decide)) e
  have hTI5 : IsPair g5 (n + 2) (.ref n) (.ref (n + 1)) := keep5 _ _ (by simp) hTI
  have hlt : n + 4 < g5.objs.size := Heap.lt_size z5
  show wpAny _ _ (Builtin.SmallTypes.ownedTupleHandOut (.ref (n + 4)) (.ref g5.objs.size) >>= _) _ _ _
  refine wpAny_bind ?_
  unfold Builtin.SmallTypes.ownedTupleHandOut
  have z6 : IsZip (g5.push { cls := .type "tuple", data := .seq #[v₁, v₂] }) (n + 4) (n + 2) (n + 3) .ellipsis := Heap.get?_push_of_some _ z5
  refine wpAny_bind (wpAny_setField_rec z6 (by simp) fun g7 z7 k7 => ?_)
  replace z7 : IsZip g7 (n + 4) (n + 2) (n + 3) (rawInt g5.objs.size) := z7
  refine wpAny_setField_rec z7 (by simp) fun g8 z8 k8 => ?_
  replace z8 : IsZip g8 (n + 4) (n + 2) (n + 3) (rawInt g5.objs.size) := z8
  have up : ∀ c o, c ≠ n + 4 → g5.get? c = some o → g8.get? c = some o := fun c o hc e => k8.extBut _ _ hc (k7.extBut _ _ hc (Heap.get?_push_of_some _ e))
  have hp : IsPair g8 g5.objs.size v₁ v₂ := k8.extBut _ _ (Nat.ne_of_gt hlt) (k7.extBut _ _ (Nat.ne_of_gt hlt) (Heap.get?_push_size _ rfl))
  rw [hsz] at z8 hp
  refine wpAny_pure ⟨_, rfl, wpAny_pure ?_⟩
  rw [hsz]
  exact hQ g8 _ v₁ v₂ p1 p2 ⟨z8, up _ _ (at_ne (by decide)) hTI5, ⟨_, _, up _ _ (at_ne (by decide)) o5⟩, si_at d1' fun o e => up _ o (at_ne0 (by decide)) e, si_at d2' fun o e => up _ o (at_ne (by decide)) e⟩ hp
    fun c o hc e => up c o (fun q => hc (by simp [q])) (keep5 c o hc e)

theorem zs_end {x y : Str} {t u : Tok} {n : Addr} {Q : Option Value → Shared → Prop} (hh : A.handled = none) (hst : ZHas x y t u n x.cps.size x.cps.size .none s.heap)
    (hQ : ∀ h', (∀ c o, c ∉ [n + 4, n + 3, n, n + 1] → s.heap.get? c = some o → h'.get? c = some o) → Q none { s with heap := h' }) :
    wpAny (model prog w) A (pyNext (.ref (n + 4))) Q E s := by
  obtain ⟨hz, hTI, ⟨a, b, hTO⟩, h1, h2⟩ := hst
  have hT : s.TypeIs (.ref (n + 4)) "zip" := ⟨_, hz, rfl⟩
  unfold pyNext
  refine wpAny_bind (wpAny_attempt (wpAny_callSpecial?_slot (name := Str.ofString "__next__") hT F.slot_zip_next (wpAny_call_entry F.slot_zip_next hT F.entry_zip_next ?_ (F.args_zip_next_1 _))))
  show wpAny _ _ (field (.ref (n + 4)) 2 >>= _) _ _ _
  refine wpAny_bind (wpAny_field hz rfl (x := .bool false) rfl ?_)
  show wpAny _ _ (field (.ref (n + 4)) 3 >>= _) _ _ _
  refine wpAny_bind (wpAny_field hz rfl (x := .ref (n + 2)) rfl ?_)
  refine wpAny_bind (wpAny_seqItems hTI rfl ?_)
  show wpAny _ _ (Builtin.SmallTypes.ownedTupleIsFree (.ref (n + 4)) >>= _) _ _ _
  refine wpAny_bind ?_
  unfold Builtin.SmallTypes.ownedTupleIsFree
  refine wpAny_bind (wpAny_field hz rfl (x := .none) rfl (wpAny_pure ?_))
  simp only [if_true]
  refine wpAny_bind (wpAny_rule ?_)
  refine wpAny_bind (wpAny_field hz rfl (x := .ref (n + 3)) rfl ?_)
  refine wpAny_bind (wpAny_setField_rec hz (by simp) fun g1 z1 k1 => ?_)
  replace z1 : IsZip g1 (n + 4) (n + 2) (n + 3) .ellipsis := z1
  refine wpAny_bind ?_
  simp only [List.zipIdx_cons, List.zipIdx_nil, List.forIn_cons, List.forIn_nil]
  refine wpAny_bind (wpAny_bind (wpAny_onRaise ?_))
  show wpAny _ _ (Builtin.SmallTypes.nextOf (.ref n) >>= _) _ _ _
  refine wpAny_bind ((zs_draw (prog := prog) (w := w) (A := A.in1) hh n x t).done _ _ _ (si_at h1 fun o e => k1.extBut _ o (at_ne0 (by decide)) e) fun g2 e k2 he => ?_)
  obtain ⟨oe, hoe, hce⟩ := he
  have z2 : IsZip g2 (n + 4) (n + 2) (n + 3) .ellipsis := k2 _ _ (at_ne0 (by decide)).symm z1
  have hez : e ≠ n + 4 := fun q => by subst q; rw [z2] at hoe; cases hoe; simp at hce
  refine wpAny_setField_rec z2 (by simp) fun g3 _ k3 => ?_
  refine wpAny_bind (wpAny_isInstance (T := "StopIteration") (b := true) ⟨oe, k3.extBut _ _ hez hoe, hce⟩ isSubtype_stop ?_)
  refine wpAny_pure (hQ _ fun c o hc q => ?_)
  simp only [List.mem_cons, List.not_mem_nil, or_false, not_or] at hc
  exact k3.extBut _ _ hc.1 (k2 _ _ hc.2.2.1 (k1.extBut _ _ hc.1 q))
theorem zs_go {elts : List Expr} {x1 : Nat} {pos : Pos} {x y : Str} {t u : Tok} {n T : Addr} {k1 k2 : Nat} {Q : Unit → Shared → Prop} (hst : ZHas x y t u n k1 k2 (rawInt T) s.heap)
    (hQ : ∀ h', ZHas x y t u n k1 k2 .none h' → (∀ c o, c ≠ n + 4 → s.heap.get? c = some o → h'.get? c = some o) → Q () { s with heap := h' }) :
    wpAny (model prog w) A (letOwnedTupleGo (.Tuple elts x1 pos) (.ref (n + 4)) (.ref T)) Q E s := by
  obtain ⟨hz, hTI, ⟨a, b, hTO⟩, h1, h2⟩ := hst
  refine wpAny_letOwnedTupleGo_zip hz fun h' z' k' => hQ h' ⟨z', k'.extBut _ _ (at_ne (by decide)) hTI, ⟨a, b, k'.extBut _ _ (at_ne (by decide)) hTO⟩, si_at h1 fun o e => k'.extBut _ o (at_ne0 (by decide)) e, si_at h2 fun o e => k'.extBut _ o (at_ne (by decide)) e⟩ fun c o hc e => k'.extBut _ _ hc e
theorem zs_keep {x y : Str} {t u : Tok} {n : Addr} {k1 k2 : Nat} {f0 : Value} {h h' : Heap} (hst : ZHas x y t u n k1 k2 f0 h) (k : ∀ b o, b < n + 5 → h.get? b = some o → h'.get? b = some o) : ZHas x y t u n k1 k2 f0 h' := by
  have l : ∀ j, j < 5 → n + j < n + 5 := fun j hj => Nat.add_lt_add_left hj n
  obtain ⟨hz, hTI, ⟨a, b, hTO⟩, h1, h2⟩ := hst
  exact ⟨k _ _ (l 4 (by decide)) hz, k _ _ (l 2 (by decide)) hTI, ⟨a, b, k _ _ (l 3 (by decide)) hTO⟩, si_at h1 fun o e => k _ o (l 0 (by decide)) e, si_at h2 fun o e => k _ o (l 1 (by decide)) e⟩

abbrev siObj (x : Str) (t : Tok) : Obj := { cls := .type (strIterType x), data := .fields #[.str x t, .int 0 0] }
abbrev zsH2 (h : Heap) (x y : Str) (t u : Tok) : Heap := (h.push (siObj x t)).push (siObj y u)
abbrev zsH3 (h : Heap) (x y : Str) (t u : Tok) : Heap := (zsH2 h x y t u).push { cls := .type "tuple", data := .seq #[.ref h.objs.size, .ref (h.push (siObj x t)).objs.size] }
abbrev zsH4 (h : Heap) (x y : Str) (t u : Tok) : Heap := (zsH3 h x y t u).push { cls := .type "tuple", data := .seq #[.none, .none] }
abbrev zsH5 (h : Heap) (x y : Str) (t u : Tok) : Heap := (zsH4 h x y t u).push { cls := .type "zip", data := .fields #[.none, .bool false, .bool false, .ref (zsH2 h x y t u).objs.size, .ref (zsH3 h x y t u).objs.size] }
theorem zs_meets (x y : Str) (t u : Tok) :
    Meets (Builtin.«zip.__new__» ⟨[.type "zip", .str x t, .str y u], []⟩) (fun _ R s => R (.ok (.ret (.ref (zsH4 s.heap x y t u).objs.size))) { s with heap := zsH5 s.heap x y t u }) :=
  .of_wp fun prog w A R s h => by
    obtain ⟨hp, g, d, tk, os⟩ := s
    have hsub := sub_zip
    wp_walk using (wpAny_pyIter_strU (x := x) (t := t)), (wpAny_pyIter_strU (x := y) (t := u))
    exact ⟨_, rfl, h⟩
theorem zs_new {x y : Str} {t u : Tok} {Q : Value → Shared → Prop}
    (h : ∀ h', ZHas x y t u s.heap.objs.size 0 0 .none h' → h'.objs.size = s.heap.objs.size + 5 → (∀ c o, s.heap.get? c = some o → h'.get? c = some o) → Q (.ref (s.heap.objs.size + 4)) { s with heap := h' }) :
    wpAny (model prog w) A (call (.type "zip") [.str x t, .str y u]) Q E s := by
  refine callType_new F.called_zip (by decide) (F.typeCall_zip_2 _ _) (F.newCall_zip_2 _ _) (fun obj => F.args_object_init_3 obj _ _) F.entry_zip_new (zs_meets x y t u) ?_
  have e1 : (s.heap.push (siObj x t)).objs.size = s.heap.objs.size + 1 := Heap.size_push ..
  have e2 : (zsH2 s.heap x y t u).objs.size = s.heap.objs.size + 2 := by rw [Heap.size_push, e1]
  have e3 : (zsH3 s.heap x y t u).objs.size = s.heap.objs.size + 3 := by rw [Heap.size_push, e2]
  have e4 : (zsH4 s.heap x y t u).objs.size = s.heap.objs.size + 4 := by rw [Heap.size_push, e3]
  have e5 : (zsH5 s.heap x y t u).objs.size = s.heap.objs.size + 5 := by rw [Heap.size_push, e4]
  have g5 : (zsH5 s.heap x y t u).get? (zsH4 s.heap x y t u).objs.size = some _ := Heap.get?_push_size _ rfl
  have g4 : (zsH5 s.heap x y t u).get? (zsH3 s.heap x y t u).objs.size = some _ := Heap.get?_push_of_some _ (Heap.get?_push_size _ rfl)
  have g3 : (zsH5 s.heap x y t u).get? (zsH2 s.heap x y t u).objs.size = some _ := Heap.get?_push_of_some _ (Heap.get?_push_of_some _ (Heap.get?_push_size _ rfl))
  have g2 : (zsH5 s.heap x y t u).get? (s.heap.push (siObj x t)).objs.size = some _ := Heap.get?_push_of_some _ (Heap.get?_push_of_some _ (Heap.get?_push_of_some _ (Heap.get?_push_size _ rfl)))
  have g1 : (zsH5 s.heap x y t u).get? s.heap.objs.size = some _ := Heap.get?_push_of_some _ (Heap.get?_push_of_some _ (Heap.get?_push_of_some _ (Heap.get?_push_of_some _ (Heap.get?_push_size _ rfl))))
  show _ ∧ _
  rw [e2, e3, e4] at g5
  rw [e1, e2] at g3
  rw [e3] at g4
  rw [e1] at g2
  rw [e4]
  exact ⟨⟨_, g5, rfl⟩, h _ ⟨g5, g3, ⟨_, _, g4⟩, ⟨_, g1, rfl, rfl⟩, ⟨_, g2, rfl, rfl⟩⟩ e5 fun c o q =>
    Heap.get?_push_of_some _ (Heap.get?_push_of_some _ (Heap.get?_push_of_some _ (Heap.get?_push_of_some _ (Heap.get?_push_of_some _ q))))⟩
end
end
theorem calm_ET : True := by
  w_top off
  first | walk1 | trivial
section
section
variable {prog : Program} {w : World} {A : Around} {s : Shared} {base : Heap} {outer : List Env} {K : Frag} {p : Program} {loose : List Str} {mean : ExcName → Option Value} {mg mb : Str → Option Value}
  {R : Result → Shared → Prop} {name qual : Str} {params : Arguments} {body : List Stmt} {scope : Scope} {dV kV doc pm cdv ct oc : Value} {an od : Option Addr} {osl : Array (Option Value)} {f : Addr} {args : Args} {binds : List (Str × Value)}
/-- a call from the outermost caller -/
theorem enter_top (B : Below A base outer s.heap) (X₀ : K.In s.heap) (T : Top p loose mean mg mb s.heap)
    (ho : K.lookup f = some ⟨oc, od, .func (fnOf name qual params body scope dV kV doc pm an cdv ct), osl⟩) (hcd : codeIn K cdv qual = true) (hroom : A.depth < recursionLimit)
    (hbind : BindsTo s (fnOf name qual params body scope dV kV doc pm an cdv ct) args binds) (hkind : (binds.all fun y => scope.names.lookup y.1 == some .local || scope.names.lookup y.1 == some .cell) = true)
    (hnd : ((cellsFrom 0 scope.names []).map (·.1)).Nodup)
    (h : ∀ g L' h₁ tk cells, s.heap = g → Fr g L' h₁ (bindL (envOfC qual scope L' f cdv).kindOf binds fun _ => none) → News g L' h₁ (cells ++ []) →
      CellsAre (bindC (envOfC qual scope L' f cdv).kindOf binds fun _ => none) (cellsFrom (L' + 1) scope.names []) cells → Below A base outer g → K.In g → Top p loose mean mg mb g →
      wpAny (model prog w) (A.deeper (envOfC qual scope L' f cdv)) (execs body (envOfC qual scope L' f cdv))
        (fun fl s' => LeaveM R (match fl with | .ret v => v | _ => .none) s')
        (fun e s' => wpAny (model prog w) (A.deeper (envOfC qual scope L' f cdv)) (leaving (envOfC qual scope L' f cdv) e) (fun _ s'' => R (.error e) s'') (fun e' s'' => R (.error e') s'') s')
        { s with heap := h₁, toks := tk })
    (hco : scope.isCoroutine = false) (hgen : scope.isGenerator = false) (hk : scope.kind = .function) : codeAny (model prog w) A (.call (.ref f) args) R s := by
  refine codeAny_call_function hroom (X₀ _ _ ho) rfl hco hgen rfl (codeRec_of X₀ hcd) (hbind _ _ _ _ ?_)
  refine wpAny_newFunctionEnv_cells hk (kindsX hkind _) fun env' he s' x => ?_
  subst he
  refine ⟨(T.nolimit.keeps x.toInCall.keep), codeAny_func ?_⟩
  obtain ⟨h₁, tk, rfl, _⟩ := x.done
  have hk₁ := x.toInCall.keep
  obtain ⟨cells, NC, Y⟩ := Cl.news (h₀ := s.heap) (Nat.le_refl _) fun n c hm => ⟨x.cell n c (lookup_of_mem_nodup (cellsFrom_names scope.names 0 (s.heap.objs.size + 1) [] [] rfl ▸ hnd) hm), x.above n c hm⟩
  exact h _ s.heap.objs.size h₁ tk cells rfl ⟨x.toInCall.ns, hk₁, Nat.le_refl _⟩ (fun p hp => NC p (by simpa using hp)) Y B X₀ T
end
end
theorem calm_W7 : True := by
  w_top off
  first | walk1 | trivial
section
section
variable {prog : Program} {w : World} {A : Around} {E : Value → Shared → Prop} {s : Shared}
theorem imp2 {p q r : Prop} (h : p → q → r) (hp : p) (hq : q) : r := h hp hq
theorem lst_of_get {h : Heap} {l : Addr} {ws : List Value} {n : Nat} (e : h.get? l = some (W.listOf ws.toArray n)) : h.IsList l ws.toArray := ⟨_, e, rfl, _, rfl⟩
end
section
theorem over_con (w : World) (rp : Addr) (vs : List Value) (a b : Int) (ta tb : Tok) (l : Addr) (ws : List Value) (n : Nat) (x : Int) (tx : Tok)
    (h0 : 0 ≤ a) (h1 : a < 100) (ha : vs[a.toNat]? = some (.ref l)) (hx : 0 ≤ b → b ≤ a → ws[b.toNat]? = some (.int x tx)) :
    Con w 121 [.ref rp, .int a ta, .int b tb] 2 (fun h => h.IsList rp vs.toArray ∧ h.get? l = some (W.listOf ws.toArray n)) (RInt (if b < 0 ∨ a < b then 0 else x)) := by
  unfold Con
  k_fill
  intro mean mg mb dp un gd cn cs aa ccd cl outer A₀ base h₀ L m s Q E B F X T hk hP hdp hun hret
  (refine wpAny_call ?_; k_dflt (first
    | (refine' enter_def ?mek1 ?mek2 ?mek3 ?mek5 ?mekA ?mekF ?mekK ?mek6 ?mek7 ?mek8 ?mek9 ?mekB ?_ ?mec2 ?mec3 ?mec4 ?mec5; (case mekA => exact rfl); (case mekF => exact rfl); (case mekK => assumption); (case mek1 => k_asm); (case mek2 => k_asm); (case mek3 => k_asm); (case mek5 => k_asm); (case mek6 => k_is); (case mek7 => k_is); (case mek8 => ktr_room); (case mek9 => exact BindsTo.of_eq rfl); (case mec5 => decide); (case mekB => exact locs rfl); (case mec2 => exact rfl); (case mec3 => exact rfl); (case mec4 => exact rfl); k_whole; intro g' L' h' hg' F' N' B' X' T'; (try dsimp only); (try k_fold))
    | (refine' enter_defC ?mek1 ?mek2 ?mek3 ?mek5 ?mekA ?mekF ?mekK ?mek6 ?mek7 ?mek8 ?mek9 ?mekB ?mekD ?_ ?mec2 ?mec3 ?mec4; (case mekA => exact rfl); (case mekF => exact rfl); (case mekK => assumption); (case mek1 => k_asm); (case mek2 => k_asm); (case mek3 => k_asm); (case mek5 => k_asm); (case mek6 => k_is); (case mek7 => k_is); (case mek8 => ktr_room); (case mek9 => exact BindsTo.of_eq rfl); (case mekB => exact rfl); (case mekD => decide +kernel); (case mec2 => exact rfl); (case mec3 => exact rfl); (case mec4 => exact rfl); k_whole; intro g' L' h' tk' cells' hg' F' N' Y' B' X' T'; k_cells Y'; (try simp only [List.cons_append, List.nil_append] at N'); (try dsimp only); (try k_fold))))
  rename s.heap = _ => hg
  rw [hg] at hP
  obtain ⟨hP1, hP2⟩ := hP
  have hP3 := lst_of_get hP2
  clear hP2
  repeat' (first | ((with_reducible show wpAny _ _ (subscriptTail _ _ (Value.ref _) (Value.int _ _)) _ _ _); refine item_litK (stays_list (Fr.keep (by k_asm)) (by assumption)) (by omega) (by omega) (by first | assumption | exact imp2 (by assumption) (by omega) (by omega)) ?_) | (k_unfold; (try dsimp only)) | walk1 | (dsimp only; walk1) | (leave1; walk_say "STEP leave1"; try dsimp only) | fail "no step")
  all_goals (with_unfolding_all refine fin_val (Q := Q) hg (by k_asm) (rint_of ?_) hret rfl)
  · rw [if_pos (by omega)]
  · rw [if_pos (by omega)]
  · rw [if_neg (by omega)]
end
end
theorem calm_FL : True := by
  w_top off
  first | walk1 | trivial
section
def clr (x : Int) (i : Nat) : Int := x / 2 ^ i * 2 ^ i
def flagNames (x : Int) (i : Nat) : List Str := (List.range i).filterMap fun j => if x / 2 ^ j % 2 = 1 then some (wordsTab.getD j Str.empty) else none
theorem two_pos (i : Nat) : (0 : Int) < 2 ^ i := kbt_pos i
theorem clr_div (x : Int) (i : Nat) : clr x i / 2 ^ i = x / 2 ^ i := by
  unfold clr
  exact Int.mul_ediv_cancel _ (Int.ne_of_gt (two_pos i))
theorem clr_and (x : Int) (i : Nat) : Builtin.bitAnd (clr x i) (1 * 2 ^ i) = (x / 2 ^ i % 2) * 2 ^ i := by
  rw [Int.one_mul, kbt_bit, clr_div]
theorem div_succ (x : Int) (i : Nat) : x / 2 ^ (i + 1) = x / 2 ^ i / 2 := by
  rw [Int.pow_succ, Int.ediv_ediv_of_nonneg (Int.le_of_lt (two_pos i))]
theorem clr_succ (x : Int) (i : Nat) : clr x (i + 1) = (x / 2 ^ i / 2 * 2) * 2 ^ i := by
  unfold clr
  rw [div_succ, Int.pow_succ, Int.mul_comm ((2 : Int) ^ i) 2, Int.mul_assoc]
theorem clr_one {x : Int} {i : Nat} (h : x / 2 ^ i % 2 = 1) : Builtin.bitXor (clr x i) (1 * 2 ^ i) = clr x (i + 1) := by
  rw [bitXor_and, clr_and, clr_succ, h]
  unfold clr
  generalize (2 : Int) ^ i = p at *
  generalize x / p = q at *
  have e : q = q / 2 * 2 + 1 := by omega
  have e2 : q * p = (q / 2 * 2) * p + p := by
    conv => lhs; rw [e]
    rw [Int.add_mul, Int.one_mul]
  omega
theorem clr_zero {x : Int} {i : Nat} (h : x / 2 ^ i % 2 = 0) : clr x i = clr x (i + 1) := by
  rw [clr_succ]
  unfold clr
  have e : x / 2 ^ i = x / 2 ^ i / 2 * 2 := by omega
  exact congrArg (· * (2 : Int) ^ i) e
theorem names_succ (x : Int) (i : Nat) : flagNames x (i + 1) = flagNames x i ++ (if x / 2 ^ i % 2 = 1 then [wordsTab.getD i Str.empty] else []) := by
  unfold flagNames
  rw [List.range_succ, List.filterMap_append]
  congr 1
  by_cases h : x / 2 ^ i % 2 = 1 <;> simp [h]
theorem bit_lt {x : Int} {i : Nat} (h0 : 0 ≤ x) (h1 : x < 1024) (h : x / 2 ^ i % 2 = 1) : i < 10 := by
  refine Nat.lt_of_not_le fun hi => ?_
  have h2 : (1024 : Int) ≤ 2 ^ i := by
    have : (2 : Nat) ^ 10 ≤ 2 ^ i := Nat.pow_le_pow_right (by decide) hi
    have e := kbt_cast i
    have : (1024 : Nat) ≤ 2 ^ i := this
    omega
  have h3 : x / 2 ^ i = 0 := Int.ediv_eq_zero_of_lt h0 (by omega)
  rw [h3] at h
  cases h
theorem bit_or (x : Int) (i : Nat) : x / 2 ^ i % 2 = 0 ∨ x / 2 ^ i % 2 = 1 := by omega
theorem and_ne {x : Int} {i : Nat} (h : Builtin.bitAnd (clr x i) (1 * 2 ^ i) ≠ 0) : x / 2 ^ i % 2 = 1 := by
  rw [clr_and] at h
  rcases bit_or x i with e | e
  · rw [e] at h; simp at h
  · exact e
theorem and_eq {x : Int} {i : Nat} (h : Builtin.bitAnd (clr x i) (1 * 2 ^ i) = 0) : x / 2 ^ i % 2 = 0 := by
  rw [clr_and] at h
  rcases bit_or x i with e | e
  · exact e
  · rw [e, Int.one_mul] at h
    exact absurd h (Int.ne_of_gt (two_pos i))
theorem names_stop {x : Int} {i : Nat} (h : clr x i = 0) : ∀ k, flagNames x (i + k) = flagNames x i
  | 0 => rfl
  | k + 1 => by
    have h1 : x / 2 ^ i = 0 := by
      rcases Int.mul_eq_zero.mp h with e | e
      · exact e
      · exact absurd e (Int.ne_of_gt (two_pos i))
    have h2 : x / 2 ^ (i + k) = 0 := by
      rw [Int.pow_add, ← Int.ediv_ediv_of_nonneg (Int.le_of_lt (two_pos i)), h1, Int.zero_ediv]
    rw [← Nat.add_assoc, names_succ, h2, names_stop h k]
    simp
theorem names_zero (i : Nat) : flagNames 0 i = [] := by
  have h := names_stop (x := 0) (i := 0) (by unfold clr; simp) i
  rw [Nat.zero_add] at h
  rw [h]; rfl

def FP (x : Int) (n : Nat) (fl : Int) (ns : List Str) : Prop := fl = clr x n ∧ ns = flagNames x n ∧ (fl ≠ 0 ∨ x = 0) ∧ ns.length ≤ n
theorem fp_start (x : Int) : FP x 0 x [] := by
  refine ⟨?_, rfl, ?_, Nat.le_refl _⟩
  · unfold clr; simp
  · exact (Decidable.em (x = 0)).symm
theorem fp_len {x : Int} {n : Nat} {fl : Int} {ns : List Str} (h : FP x n fl ns) : ns.length ≤ n := h.2.2.2
theorem snoc_len (pre : List Int) (k : Int) : (pre ++ [k]).length = pre.length + 1 := by simp
theorem fp_keep {x fl k : Int} {pre : List Int} {ns : List Str} (hk : k = (pre.length : Int)) (h : FP x pre.length fl ns) (hz : Builtin.bitAnd fl (1 * 2 ^ k.toNat) = 0) : FP x (pre ++ [k]).length fl ns := by
  obtain ⟨rfl, h2, h3, h4⟩ := h
  subst hk
  rw [Int.toNat_natCast] at hz
  have b := and_eq hz
  rw [snoc_len]
  refine ⟨clr_zero b, ?_, h3, by omega⟩
  rw [names_succ, b, h2]; simp
theorem fp_bit {x fl k : Int} {pre : List Int} {ns : List Str} (hk : k = (pre.length : Int)) (h : FP x pre.length fl ns) (hz : Builtin.bitAnd fl (1 * 2 ^ k.toNat) ≠ 0) : x / 2 ^ k.toNat % 2 = 1 := by
  obtain ⟨rfl, _⟩ := h
  subst hk
  rw [Int.toNat_natCast] at hz ⊢
  exact and_ne hz
theorem fp_take {x fl k : Int} {pre : List Int} {ns : List Str} (hk : k = (pre.length : Int)) (h : FP x pre.length fl ns) (hz : Builtin.bitAnd fl (1 * 2 ^ k.toNat) ≠ 0) (hn : Builtin.bitXor fl (1 * 2 ^ k.toNat) ≠ 0) :
    FP x (pre ++ [k]).length (Builtin.bitXor fl (1 * 2 ^ k.toNat)) (ns ++ [wordsTab.getD k.toNat Str.empty]) := by
  have b := fp_bit hk h hz
  obtain ⟨rfl, h2, h3, h4⟩ := h
  subst hk
  rw [Int.toNat_natCast] at *
  rw [snoc_len]
  refine ⟨clr_one b, ?_, .inl hn, by simp; omega⟩
  rw [names_succ, b, h2]; simp
theorem fp_last {x fl k : Int} {pre : List Int} {ns : List Str} (hk : k = (pre.length : Int)) (hlt : pre.length < 32) (h : FP x pre.length fl ns) (hz : Builtin.bitAnd fl (1 * 2 ^ k.toNat) ≠ 0) (hn : Builtin.bitXor fl (1 * 2 ^ k.toNat) = 0) :
    ns ++ [wordsTab.getD k.toNat Str.empty] = if x = 0 then [Str.ofString "0x0"] else flagNames x 32 := by
  have b := fp_bit hk h hz
  obtain ⟨rfl, h2, h3, h4⟩ := h
  subst hk
  rw [Int.toNat_natCast] at *
  have hx : x ≠ 0 := by
    rintro rfl
    simp at b
  rw [if_neg hx]
  rw [clr_one b] at hn
  obtain ⟨d, hd⟩ : ∃ d, 32 = (pre.length + 1) + d := ⟨32 - (pre.length + 1), by omega⟩
  rw [hd, names_stop hn, names_succ, b, h2]; simp
theorem fp_done {x fl : Int} {ns : List Str} (h0 : 0 ≤ x) (h1 : x < 1024) (h : FP x 32 fl ns) : x = 0 ∧ fl = 0 ∧ ns = [] := by
  obtain ⟨h1', h2, h3, h4⟩ := h
  have e : fl = 0 := by
    rw [h1']; unfold clr
    rw [Int.ediv_eq_zero_of_lt h0 (by omega)]; rfl
  have hx : x = 0 := h3.resolve_left fun q => q e
  subst hx
  exact ⟨rfl, e, by rw [h2, names_zero]⟩
theorem hex_len {k : Int} (h0 : 0 ≤ k) (h : k < 32) : (baseText "0x" 16 (1 * 2 ^ k.toNat)).length ≤ sizeLine := by
  have : ∀ i : Fin 32, (baseText "0x" 16 (1 * 2 ^ i.val)).length ≤ sizeLine := by decide +kernel
  exact this ⟨k.toNat, by omega⟩
theorem hex_zero : baseText "0x" 16 0 = Str.ofString "0x0" := by decide +kernel
abbrev flagTab : List (Int × PyData) := (List.range 10).map fun i => (2 ^ i, PyData.str (wordsTab.getD i Str.empty))
theorem flag_get {prog : Program} {w : World} {A : Around} {E : Value → Shared → Prop} {s : Shared} {h₀ : Heap} {a : Addr} {k : Int} {tk u : Tok} {y : Str} {Q : Value → Shared → Prop} {D : List (Int × PyData)}
    (K : KTD.Keyed h₀ a D) (hD : D = flagTab) (hk : ∀ b o, h₀.get? b = some o → s.heap.get? b = some o) (h1 : k.toNat < 10) (h : ∀ t, Q (.str (wordsTab.getD k.toNat Str.empty) t) { s with toks := s.toks + 1 }) :
    wpAny (model prog w) A (call (.builtin "dict.get") [.ref a, .int (1 * 2 ^ k.toNat) tk, .str y u]) Q E s := by
  subst hD
  refine call_get2_intTab (K.keep hk prog w) (PyProof.V.Flat.str y u) fun v hv => ?_
  have hl : ∀ i : Nat, i < 10 → PySem.Spec.lookup (PyData.int (1 * 2 ^ i)) (flagTab.map fun p => (PyData.int p.1, p.2)) = some (PyData.str (wordsTab.getD i Str.empty))
    | 0, _ => rfl | 1, _ => rfl | 2, _ => rfl | 3, _ => rfl | 4, _ => rfl | 5, _ => rfl | 6, _ => rfl | 7, _ => rfl | 8, _ => rfl | 9, _ => rfl
  rw [hl k.toNat h1] at hv
  obtain ⟨t, rfl⟩ := hv.str_inv
  exact h t
theorem word_len (i : Nat) : (wordsTab.getD i Str.empty).length ≤ 18 := by
  have h := wordAt_len ((i : Int) + 1)
  unfold wordAt at h
  rwa [Int.add_sub_cancel, Int.toNat_natCast] at h
theorem names_len {x : Int} {n : Nat} : ∀ a ∈ flagNames x n, a.length ≤ 18 := by
  intro a ha
  unfold flagNames at ha
  obtain ⟨j, _, hj⟩ := List.mem_filterMap.mp ha
  split at hj
  · cases hj; exact word_len j
  · cases hj
theorem fp_bound {x fl : Int} {n : Nat} {ns : List Str} (h : FP x n fl ns) : ∀ a ∈ ns, a.length ≤ 18 := by
  rw [h.2.1]; exact names_len
theorem join_strs {prog : Program} {w : World} {A : Around} {E : Value → Shared → Prop} {s : Shared} {t : Tok} {Q : Value → Shared → Prop} {D : Addr} {ys : List Value} {l : List Str} {x : PySem.Str} (hl : s.heap.IsList D ys.toArray) (hc : StrsAre ys l) (hB : ∀ a ∈ l, a.length ≤ 18) (hn : l.length ≤ 100) (hs : x.length ≤ 16)
    (h : ∀ t' k, Q (.str (PySem.Txt.join x l) t') { s with toks := k }) : wpAny (model prog w) A (call (.builtin "str.join") [.str x t, .ref D]) Q E s :=
  join_any (g := fun y => y) (l := l) 18 hl hc.carried hB hn hs (by decide) (by rw [List.map_id']; exact h)
theorem strs_snoc {vs : List Value} {ns : List Str} (h : StrsAre vs ns) (x : Str) (t : Tok) : StrsAre (vs ++ [.str x t]) (ns ++ [x]) := h.append' (.cons _ _ .nil)
theorem bound_snoc {ns : List Str} {x : Str} (h : ∀ a ∈ ns, a.length ≤ 18) (hx : x.length ≤ 18) : ∀ a ∈ ns ++ [x], a.length ≤ 18 := by
  intro a ha
  rcases List.mem_append.mp ha with h1 | h1
  · exact h a h1
  · rw [List.mem_singleton.mp h1]; exact hx
end
theorem calm_W3 : True := by
  w_top off
  first | walk1 | trivial
section
section
theorem flags_con (w : World) (x : Int) (t1 : Tok) (h0 : 0 ≤ x) (h1 : x < 1024) : Con w 36 [.int x t1] 3 (fun _ => True) (RStr (Txt.join (Str.ofString ", ") (if x = 0 then [Str.ofString "0x0"] else flagNames x 32))) := by
  unfold Con
  k_fill
  intro mean mg mb dp un gd cn cs a ccd cl outer A₀ base h₀ L m s Q E B F X T hk hP hdp hun hret
  (refine wpAny_call ?_; k_dflt (first
    | (refine' enter_def ?mek1 ?mek2 ?mek3 ?mek5 ?mekA ?mekF ?mekK ?mek6 ?mek7 ?mek8 ?mek9 ?mekB ?_ ?mec2 ?mec3 ?mec4 ?mec5; (case mekA => exact rfl); (case mekF => exact rfl); (case mekK => assumption); (case mek1 => k_asm); (case mek2 => k_asm); (case mek3 => k_asm); (case mek5 => k_asm); (case mek6 => k_is); (case mek7 => k_is); (case mek8 => ktr_room); (case mek9 => exact BindsTo.of_eq rfl); (case mec5 => decide); (case mekB => exact locs rfl); (case mec2 => exact rfl); (case mec3 => exact rfl); (case mec4 => exact rfl); k_whole; intro g' L' h' hg' F' N' B' X' T'; (try dsimp only); (try k_fold))
    | (refine' enter_defC ?mek1 ?mek2 ?mek3 ?mek5 ?mekA ?mekF ?mekK ?mek6 ?mek7 ?mek8 ?mek9 ?mekB ?mekD ?_ ?mec2 ?mec3 ?mec4; (case mekA => exact rfl); (case mekF => exact rfl); (case mekK => assumption); (case mek1 => k_asm); (case mek2 => k_asm); (case mek3 => k_asm); (case mek5 => k_asm); (case mek6 => k_is); (case mek7 => k_is); (case mek8 => ktr_room); (case mek9 => exact BindsTo.of_eq rfl); (case mekB => exact rfl); (case mekD => decide +kernel); (case mec2 => exact rfl); (case mec3 => exact rfl); (case mec4 => exact rfl); k_whole; intro g' L' h' tk' cells' hg' F' N' Y' B' X' T'; k_cells Y'; (try simp only [List.cons_append, List.nil_append] at N'); (try dsimp only); (try k_fold))))
  rename s.heap = _ => hg
  k_with "call builtin:hex" => (refine P.hex_of_int ?_ (by first | exact hex_len (by omega) (by omega) | decide +kernel))
  repeat' (first | ((with_reducible show wpAny _ _ (exec (PySem.Stmt.For _ _ _ _ _) _) _ _ _); refine For_else ?_ (by intro _; with_unfolding_all rfl)) | ((with_reducible show wpAny _ _ (call (Value.builtin "dict.get") _) _ _ _); refine flag_get (by assumption) (by kernel_rfl) (Fr.keep (by k_asm)) (bit_lt (by assumption) (by assumption) (fp_bit (by assumption) (by assumption) (by assumption))) ?_; intro _) | ((with_reducible show InvEndN _ _ _ _ _ _ _); (rename News _ _ _ _ => nE'); (rename Fr _ _ _ _ => fE'); (try simp only [List.push_toArray] at nE'); first | refine kst_end ⟨_, _, _, _, _⟩ fE' nE' (by kst_in) (by intro p hp; kst_mem) (by rfl) (by exact strs_snoc (by assumption) _ _) (by kst_all) (by kst_same) (by exact fp_take (by assumption) (by assumption) (by assumption) (by assumption)) | refine kst_end ⟨_, _, _, _, _⟩ fE' nE' (by kst_in) (by intro p hp; kst_mem) (by rfl) (by assumption) (by kst_all) (by kst_same) (by exact fp_keep (by assumption) (by assumption) (by assumption))) | (k_unfold; (try dsimp only)) | walk1 | (dsimp only; walk1) | (leave1; walk_say "STEP leave1"; try dsimp only) | fail "no step")
  rename Fr _ _ _ _ => lF
  rename News _ _ _ _ => lN
  rename IsRange _ _ _ _ _ _ _ _ => rgX
  with_unfolding_all refine' kst_forelse (σ := Int × Tok × List Value × List Str × Nat) (n := 32) (fun c => [(_, W.listOf c.2.2.1.toArray c.2.2.2.2)]) (fun c => [(Str.ofString "flags", .int c.1 c.2.1)]) (fun c => StrsAre c.2.2.1 c.2.2.2.1) [Str.ofString "flag"] (fun pre c => FP x pre.length c.1 c.2.2.2.1) (x, t1, [], [], 0) ?k1 ?k2 ?k3 ?k4 ?k5 ?k6 ?k7 ?k8 ?k9 ?k10 ?k11 ?_ ?_ ?k12
  case k1 => rfl
  case k2 => rfl
  case k3 => rfl
  case k4 => exact rgX
  case k5 => decide
  case k6 => decide
  case k7 => exact lF
  case k8 => exact lN
  case k9 => exact .nil
  case k10 => kst_all
  case k11 => exact fp_start x
  case k12 => with_unfolding_all passes_own
  · rintro ⟨fl, tf, vsN, nsN, nN⟩ pre k t u h₂ tk₂ own hk1 hlt hoff hfa hp F₂ N₂
    clear lF lN
    dsimp only [kstB] at hfa hp F₂ N₂
    have hMk : KstMark := kstMark
    have hlen := fp_len hp
    have hfb := fp_bound hp
    k_with "call builtin:str.join" => ((rename News _ _ _ _ => nJ'); (simp only [List.push_toArray] at nJ'); refine join_strs (News.isList nJ' (by k_mem)) (strs_snoc (by assumption) _ _) (bound_snoc (by assumption) (word_len _)) (by simp only [List.length_append, List.length_cons, List.length_nil]; omega) (by decide) ?_; intro _ _)
    repeat' (first | ((with_reducible show wpAny _ _ (exec (PySem.Stmt.For _ _ _ _ _) _) _ _ _); refine For_else ?_ (by intro _; with_unfolding_all rfl)) | ((with_reducible show wpAny _ _ (call (Value.builtin "dict.get") _) _ _ _); refine flag_get (by assumption) (by kernel_rfl) (Fr.keep (by k_asm)) (bit_lt (by assumption) (by assumption) (fp_bit (by assumption) (by assumption) (by assumption))) ?_; intro _) | ((with_reducible show InvEndN _ _ _ _ _ _ _); (rename News _ _ _ _ => nE'); (rename Fr _ _ _ _ => fE'); (try simp only [List.push_toArray] at nE'); first | refine kst_end ⟨_, _, _, _, _⟩ fE' nE' (by kst_in) (by intro p hp; kst_mem) (by rfl) (by exact strs_snoc (by assumption) _ _) (by kst_all) (by kst_same) (by exact fp_take (by assumption) (by assumption) (by assumption) (by assumption)) | refine kst_end ⟨_, _, _, _, _⟩ fE' nE' (by kst_in) (by intro p hp; kst_mem) (by rfl) (by assumption) (by kst_all) (by kst_same) (by exact fp_keep (by assumption) (by assumption) (by assumption))) | (k_unfold; (try dsimp only)) | walk1 | (dsimp only; walk1) | (leave1; walk_say "STEP leave1"; try dsimp only) | fail "no step")
    with_unfolding_all refine fin_val (Q := Q) hg (by k_asm) (rstr_of ?_) hret rfl
    congr 1
    exact fp_last (by assumption) (by assumption) (by assumption) (by assumption) (by assumption)
  · rintro ⟨fl, tf, vsN, nsN, nN⟩ u h₂ tk₂ hfa hp F₂ N₂
    clear lF lN
    dsimp only [kstB] at hfa hp F₂ N₂
    have hMk : KstMark := kstMark
    rw [rangeKs_length] at hp
    obtain ⟨rfl, rfl, rfl⟩ := fp_done h0 h1 hp
    cases hfa
    k_with "call builtin:str.join" => (refine join_strs (l := [baseText "0x" 16 0]) (News.isList (by k_asm) (by k_mem)) (.cons _ _ .nil) (by intro a ha; rw [List.mem_singleton.mp ha]; decide +kernel) (by decide) (by decide) ?_; intro _ _)
    repeat' (first | ((with_reducible show wpAny _ _ (exec (PySem.Stmt.For _ _ _ _ _) _) _ _ _); refine For_else ?_ (by intro _; with_unfolding_all rfl)) | ((with_reducible show wpAny _ _ (call (Value.builtin "dict.get") _) _ _ _); refine flag_get (by assumption) (by kernel_rfl) (Fr.keep (by k_asm)) (bit_lt (by assumption) (by assumption) (fp_bit (by assumption) (by assumption) (by assumption))) ?_; intro _) | ((with_reducible show InvEndN _ _ _ _ _ _ _); (rename News _ _ _ _ => nE'); (rename Fr _ _ _ _ => fE'); (try simp only [List.push_toArray] at nE'); first | refine kst_end ⟨_, _, _, _, _⟩ fE' nE' (by kst_in) (by intro p hp; kst_mem) (by rfl) (by exact strs_snoc (by assumption) _ _) (by kst_all) (by kst_same) (by exact fp_take (by assumption) (by assumption) (by assumption) (by assumption)) | refine kst_end ⟨_, _, _, _, _⟩ fE' nE' (by kst_in) (by intro p hp; kst_mem) (by rfl) (by assumption) (by kst_all) (by kst_same) (by exact fp_keep (by assumption) (by assumption) (by assumption))) | (k_unfold; (try dsimp only)) | walk1 | (dsimp only; walk1) | (leave1; walk_say "STEP leave1"; try dsimp only) | fail "no step")
    with_unfolding_all refine fin_val (Q := Q) hg (by k_asm) (rstr_of ?_) hret rfl
    rw [if_pos rfl, hex_zero]
end
end
theorem calm_W4 : True := by
  w_top off
  first | walk1 | trivial
section
section
theorem parse_con (w : World) (x : Str) (t1 : Tok) (h0 : x.length ≤ 12) : Con w 68 [.str (Str.ofString "257 \"" ++ x) t1] 3 (fun _ => True) (RStr (pnameS x)) := by
  unfold Con
  k_fill
  intro mean mg mb dp un gd cn cs a ccd cl outer A₀ base h₀ L m s Q E B F X T hk hP hdp hun hret
  (refine wpAny_call ?_; k_dflt (first
    | (refine' enter_def ?mek1 ?mek2 ?mek3 ?mek5 ?mekA ?mekF ?mekK ?mek6 ?mek7 ?mek8 ?mek9 ?mekB ?_ ?mec2 ?mec3 ?mec4 ?mec5; (case mekA => exact rfl); (case mekF => exact rfl); (case mekK => assumption); (case mek1 => k_asm); (case mek2 => k_asm); (case mek3 => k_asm); (case mek5 => k_asm); (case mek6 => k_is); (case mek7 => k_is); (case mek8 => ktr_room); (case mek9 => exact BindsTo.of_eq rfl); (case mec5 => decide); (case mekB => exact locs rfl); (case mec2 => exact rfl); (case mec3 => exact rfl); (case mec4 => exact rfl); k_whole; intro g' L' h' hg' F' N' B' X' T'; (try dsimp only); (try k_fold))
    | (refine' enter_defC ?mek1 ?mek2 ?mek3 ?mek5 ?mekA ?mekF ?mekK ?mek6 ?mek7 ?mek8 ?mek9 ?mekB ?mekD ?_ ?mec2 ?mec3 ?mec4; (case mekA => exact rfl); (case mekF => exact rfl); (case mekK => assumption); (case mek1 => k_asm); (case mek2 => k_asm); (case mek3 => k_asm); (case mek5 => k_asm); (case mek6 => k_is); (case mek7 => k_is); (case mek8 => ktr_room); (case mek9 => exact BindsTo.of_eq rfl); (case mekB => exact rfl); (case mekD => decide +kernel); (case mec2 => exact rfl); (case mec3 => exact rfl); (case mec4 => exact rfl); k_whole; intro g' L' h' tk' cells' hg' F' N' Y' B' X' T'; k_cells Y'; (try simp only [List.cons_append, List.nil_append] at N'); (try dsimp only); (try k_fold))))
  rename s.heap = _ => hg
  have h6 := head_len x
  k_with "exec While Compare cons nil" => k_while (fun _ i d => 5 ≤ i ∧ i ≤ x.length + 5 ∧ (d.length : Int) ≤ i - 5 ∧ PInv x i d) (fun _ i _ => (x.length + 5 - i).toNat) "i" "dirname"
  k_with "state" => exact pw_start x
  k_with "state" => exact pw_plain ⟨by assumption, by assumption, by assumption, by assumption⟩ (by assumption) (by assumption)
  k_with "state" => exact pw_two ⟨by assumption, by assumption, by assumption, by assumption⟩ (by assumption) (by assumption) (by assumption)
  k_with "measure" => omega
  repeat' (first | ((with_reducible show wpAny _ _ (compareOp .NotEq (Value.str _ _) (Value.str _ _)) _ _ _); (first | rw [slice_head] | rw [slice_mid])) | ((with_reducible show wpAny _ _ (subscriptTail (PySem.Expr.Name _ _) (PySem.Expr.Name _ _) (Value.str _ _) (Value.int _ _)) _ _ _); refine item_str (fitsSsize_of (N := 9223372036854775808) (by omega) (by omega) (Int.le_refl _)) (by rw [head_len]; omega) (by rw [head_len]; omega) ?_; intro _) | (k_unfold; (try dsimp only)) | walk1 | (dsimp only; walk1) | (leave1; walk_say "STEP leave1"; try dsimp only) | fail "no step")
  all_goals (with_unfolding_all refine fin_val (Q := Q) hg (by k_asm) (rstr_of ?_) hret rfl)
  · exact pw_stop1 ⟨by assumption, by assumption, by assumption, by assumption⟩ (by assumption) (by assumption) (by assumption)
  · exact pw_stop2 ⟨by assumption, by assumption, by assumption, by assumption⟩ (by assumption) (by assumption) (by assumption) (by assumption)
  · exact pw_end ⟨by assumption, by assumption, by assumption, by assumption⟩ (by assumption)
end
end
theorem calm_RL : True := by
  w_top off
  first | walk1 | trivial
section
/-- how many marks -/
def qs (l : List Nat) : Nat := (l.filter (· = 34)).length
/-- the reading of a row: the ends, what is kept -/
def rd : Nat → Nat → List Nat → List Int × Int
  | 0, _, _ => ([], 0)
  | f + 1, g, r =>
    if r = [] then ([], 0) else
    if r.length ≤ (pname r).length + qs (pname r) then ([], qs (pname r)) else
    let p := rd f (g + ((pname r).length + qs (pname r)) + 1) (r.drop ((pname r).length + qs (pname r) + 1))
    (((g + ((pname r).length + qs (pname r)) + 1 : Nat) : Int) :: p.1, qs (pname r) + p.2)
theorem count_qs (x : Str) : Txt.count x (Str.ofString "\"") = qs x.cps.toList := by
  have e : Str.ofString "\"" = ⟨#[34]⟩ := rfl
  rw [e, count_cnt]
  generalize x.cps.toList = l
  induction l with
  | nil => rfl
  | cons a l ih =>
    rw [cnt_cons, ih]
    unfold qs
    by_cases h : a = 34 <;> simp [h]
    omega
theorem p_fit : ∀ l : List Nat, (pname l).length + qs (pname l) ≤ l.length
  | [] => Nat.le_refl _
  | [c] => by
    by_cases h : c = 34 <;> simp [pname, qs, h]
  | c :: d :: r => by
    by_cases h : c = 34
    · by_cases h' : d = 34
      · have := p_fit r
        have e : pname (c :: d :: r) = 34 :: pname r := by simp [pname, h, h']
        have e2 : qs (34 :: pname r) = qs (pname r) + 1 := by simp [qs]
        rw [e, e2]; simp only [List.length_cons]; omega
      · have e : pname (c :: d :: r) = [] := by simp [pname, h, h']
        rw [e]; simp [qs]
    · have := p_fit (d :: r)
      have e : pname (c :: d :: r) = c :: pname (d :: r) := by simp [pname, h]
      have e2 : qs (c :: pname (d :: r)) = qs (pname (d :: r)) := by simp [qs, h]
      rw [e, e2]; simp only [List.length_cons] at *; omega
def full (x : Str) : List Int × Int := rd (x.length + 1) 0 x.cps.toList
def RInv (x : Str) (gone kept : Int) (ends : List Int) : Prop :=
  ∃ f, x.length < f + gone.toNat ∧ ends ++ (rd f gone.toNat (x.cps.toList.drop gone.toNat)).1 = (full x).1 ∧ kept + (rd f gone.toNat (x.cps.toList.drop gone.toNat)).2 = (full x).2
def RW (x : Str) (gone kept : Int) (ends : List Int) : Prop := 0 ≤ gone ∧ gone ≤ x.length ∧ 0 ≤ kept ∧ kept ≤ gone ∧ (ends.length : Int) ≤ gone ∧ RInv x gone kept ends
theorem rw_start (x : Str) : RW x 0 0 [] := ⟨by omega, by omega, by omega, by omega, by simp, x.length + 1, by omega, rfl, by simp [full]⟩
theorem slice_cps {x : Str} {i : Int} (h0 : 0 ≤ i) (h : i ≤ x.length) : (Txt.slice x (some i) none).cps.toList = x.cps.toList.drop i.toNat := by
  rw [slice_from_eq h0 h rfl]
  simp only []
  refine List.take_of_length_le ?_
  rw [List.length_drop, cps_len]; omega
/-- what one reading takes -/
def tk (x : Str) (g : Int) : Nat := (pname (x.cps.toList.drop g.toNat)).length + qs (pname (x.cps.toList.drop g.toNat))
theorem tk_fit (x : Str) {g : Int} (h0 : 0 ≤ g) (h : g ≤ x.length) : g + tk x g ≤ x.length := by
  have := p_fit (x.cps.toList.drop g.toNat)
  rw [List.length_drop, cps_len] at this
  unfold tk; omega
theorem name_len {x : Str} {g : Int} (h0 : 0 ≤ g) (h : g ≤ x.length) : (pnameS (Txt.slice x (some g) none)).length = (pname (x.cps.toList.drop g.toNat)).length := by
  unfold pnameS
  rw [slice_cps h0 h]
  rfl
theorem name_count {x : Str} {g : Int} (h0 : 0 ≤ g) (h : g ≤ x.length) : Txt.count (pnameS (Txt.slice x (some g) none)) (Str.ofString "\"") = qs (pname (x.cps.toList.drop g.toNat)) := by
  rw [count_qs]
  unfold pnameS
  rw [slice_cps h0 h]
theorem rd_unfold (f g : Nat) (r : List Nat) (hr : r ≠ []) : rd (f + 1) g r = if r.length ≤ (pname r).length + qs (pname r) then ([], (qs (pname r) : Int)) else
    (((g + ((pname r).length + qs (pname r)) + 1 : Nat) : Int) :: (rd f (g + ((pname r).length + qs (pname r)) + 1) (r.drop ((pname r).length + qs (pname r) + 1))).1, qs (pname r) + (rd f (g + ((pname r).length + qs (pname r)) + 1) (r.drop ((pname r).length + qs (pname r) + 1))).2) := by
  rw [rd, if_neg hr]
theorem rw_step {x : Str} {g k : Int} {ends : List Int} (h : RW x g k ends) (hg : g < x.length) :
    (g + tk x g < x.length → RW x (g + tk x g + 1) (k + qs (pname (x.cps.toList.drop g.toNat))) (ends ++ [g + tk x g + 1])) ∧
    (¬ g + tk x g < x.length → RW x (g + tk x g) (k + qs (pname (x.cps.toList.drop g.toNat))) ends) := by
  obtain ⟨h1, h2, h3, h4, h5, f, h6, h7, h8⟩ := h
  obtain ⟨f, rfl⟩ : ∃ f', f = f' + 1 := ⟨f - 1, by omega⟩
  have hl : (x.cps.toList.drop g.toNat).length = x.length - g.toNat := by rw [List.length_drop, cps_len]
  have hne : x.cps.toList.drop g.toNat ≠ [] := by
    intro q; rw [q] at hl; simp at hl; omega
  rw [rd_unfold _ _ _ hne] at h7 h8
  have hfit := tk_fit x h1 h2
  have hqk : (qs (pname (x.cps.toList.drop g.toNat)) : Int) ≤ tk x g := by unfold tk; omega
  have htk : (pname (x.cps.toList.drop g.toNat)).length + qs (pname (x.cps.toList.drop g.toNat)) = tk x g := rfl
  rw [htk, hl] at h7 h8
  have hdrop : (x.cps.toList.drop g.toNat).drop (tk x g + 1) = x.cps.toList.drop (g.toNat + tk x g + 1) := by rw [List.drop_drop, Nat.add_assoc]
  constructor
  · intro hm
    rw [if_neg (by omega), hdrop] at h7 h8
    have e : (g + tk x g + 1).toNat = g.toNat + tk x g + 1 := by omega
    refine ⟨by omega, by omega, by omega, by omega, by simp; omega, f, by rw [e]; omega, ?_, ?_⟩
    · rw [e, ← h7]
      have e2 : ((g.toNat + tk x g + 1 : Nat) : Int) = g + tk x g + 1 := by omega
      rw [e2]; simp
    · rw [e, ← h8]; simp only []; omega
  · intro hm
    rw [if_pos (by omega)] at h7 h8
    have e0 : x.cps.toList.drop (g + tk x g).toNat = [] := List.drop_eq_nil_of_le (by rw [cps_len]; omega)
    have er : ∀ n m, rd n m [] = ([], 0) := by
      intro n m; cases n <;> simp [rd]
    refine ⟨by omega, by omega, by omega, by omega, by omega, f + 1, by omega, ?_, ?_⟩
    · rw [e0, er, ← h7]
    · rw [e0, er, ← h8]; simp
theorem rw_more {x : Str} {g k : Int} {ends : List Int} (h : RW x g k ends) (hg : g < x.length) (hm : g + ((pnameS (Txt.slice x (some g) none)).length + Txt.count (pnameS (Txt.slice x (some g) none)) (Str.ofString "\"")) < x.length) :
    RW x (g + ((pnameS (Txt.slice x (some g) none)).length + Txt.count (pnameS (Txt.slice x (some g) none)) (Str.ofString "\"")) + 1) (k + Txt.count (pnameS (Txt.slice x (some g) none)) (Str.ofString "\"")) (ends ++ [g + ((pnameS (Txt.slice x (some g) none)).length + Txt.count (pnameS (Txt.slice x (some g) none)) (Str.ofString "\"")) + 1]) := by
  have h0 := h.1
  have e : (((pnameS (Txt.slice x (some g) none)).length : Int) + Txt.count (pnameS (Txt.slice x (some g) none)) (Str.ofString "\"")) = (tk x g : Nat) := by
    rw [name_len h0 (by omega), name_count h0 (by omega)]; unfold tk; omega
  rw [e] at hm ⊢
  rw [name_count h0 (by omega)]
  exact (rw_step h hg).1 hm
theorem rw_last {x : Str} {g k : Int} {ends : List Int} (h : RW x g k ends) (hg : g < x.length) (hm : ¬ g + ((pnameS (Txt.slice x (some g) none)).length + Txt.count (pnameS (Txt.slice x (some g) none)) (Str.ofString "\"")) < x.length) :
    RW x (g + ((pnameS (Txt.slice x (some g) none)).length + Txt.count (pnameS (Txt.slice x (some g) none)) (Str.ofString "\""))) (k + Txt.count (pnameS (Txt.slice x (some g) none)) (Str.ofString "\"")) ends := by
  have h0 := h.1
  have e : (((pnameS (Txt.slice x (some g) none)).length : Int) + Txt.count (pnameS (Txt.slice x (some g) none)) (Str.ofString "\"")) = (tk x g : Nat) := by
    rw [name_len h0 (by omega), name_count h0 (by omega)]; unfold tk; omega
  rw [e] at hm ⊢
  rw [name_count h0 (by omega)]
  exact (rw_step h hg).2 hm
theorem rw_end {x : Str} {g k : Int} {ends : List Int} (h : RW x g k ends) (hg : ¬ g < x.length) : ends = (full x).1 ∧ k = (full x).2 := by
  obtain ⟨h1, h2, h3, h4, h5, f, h6, h7, h8⟩ := h
  have e0 : x.cps.toList.drop g.toNat = [] := List.drop_eq_nil_of_le (by rw [cps_len]; omega)
  have er : ∀ n m, rd n m [] = ([], 0) := by
    intro n m; cases n <;> simp [rd]
  rw [e0, er] at h7 h8
  exact ⟨by rw [← h7]; simp, by rw [← h8]; simp⟩
theorem pnameS_len {y : Str} {n : Nat} (h : y.length ≤ n) : (pnameS y).length ≤ n := by
  have h1 := p_fit y.cps.toList
  rw [cps_len] at h1
  have h2 : (pnameS y).length = (pname y.cps.toList).length := rfl
  omega
theorem tk_pos {x : Str} {g : Int} (h0 : 0 ≤ g) (hg : g < x.length) (hm : ¬ g + tk x g < x.length) : 1 ≤ tk x g := by
  have := tk_fit x h0 (by omega); omega
theorem nm_eq {x : Str} {g : Int} (h0 : 0 ≤ g) (h : g ≤ x.length) : ((pnameS (Txt.slice x (some g) none)).length : Int) + Txt.count (pnameS (Txt.slice x (some g) none)) (Str.ofString "\"") = (tk x g : Nat) := by
  rw [name_len h0 h, name_count h0 h]; unfold tk; omega
theorem rw_less {x : Str} {g : Int} (hm : g + ((pnameS (Txt.slice x (some g) none)).length + Txt.count (pnameS (Txt.slice x (some g) none)) (Str.ofString "\"")) < x.length) :
    ((x.length : Int) - (g + ((pnameS (Txt.slice x (some g) none)).length + Txt.count (pnameS (Txt.slice x (some g) none)) (Str.ofString "\"")) + 1)).toNat < ((x.length : Int) - g).toNat := by
  have := (count_bounds (pnameS (Txt.slice x (some g) none)) (Str.ofString "\"")).1
  omega
end
theorem calm_W5 : True := by
  w_top off
  first | walk1 | trivial
section
section
theorem read_con (w : World) (x : Str) (t1 : Tok) (h0 : x.length ≤ 12) : Con w 104 [.str x t1] 4 (fun _ => True) (RPair (full x).1 (full x).2) := by
  unfold Con
  k_fill
  intro mean mg mb dp un gd cn cs a ccd cl outer A₀ base h₀ L m s Q E B F X T hk hP hdp hun hret
  (refine wpAny_call ?_; k_dflt (first
    | (refine' enter_def ?mek1 ?mek2 ?mek3 ?mek5 ?mekA ?mekF ?mekK ?mek6 ?mek7 ?mek8 ?mek9 ?mekB ?_ ?mec2 ?mec3 ?mec4 ?mec5; (case mekA => exact rfl); (case mekF => exact rfl); (case mekK => assumption); (case mek1 => k_asm); (case mek2 => k_asm); (case mek3 => k_asm); (case mek5 => k_asm); (case mek6 => k_is); (case mek7 => k_is); (case mek8 => ktr_room); (case mek9 => exact BindsTo.of_eq rfl); (case mec5 => decide); (case mekB => exact locs rfl); (case mec2 => exact rfl); (case mec3 => exact rfl); (case mec4 => exact rfl); k_whole; intro g' L' h' hg' F' N' B' X' T'; (try dsimp only); (try k_fold))
    | (refine' enter_defC ?mek1 ?mek2 ?mek3 ?mek5 ?mekA ?mekF ?mekK ?mek6 ?mek7 ?mek8 ?mek9 ?mekB ?mekD ?_ ?mec2 ?mec3 ?mec4; (case mekA => exact rfl); (case mekF => exact rfl); (case mekK => assumption); (case mek1 => k_asm); (case mek2 => k_asm); (case mek3 => k_asm); (case mek5 => k_asm); (case mek6 => k_is); (case mek7 => k_is); (case mek8 => ktr_room); (case mek9 => exact BindsTo.of_eq rfl); (case mekB => exact rfl); (case mekD => decide +kernel); (case mec2 => exact rfl); (case mec3 => exact rfl); (case mec4 => exact rfl); k_whole; intro g' L' h' tk' cells' hg' F' N' Y' B' X' T'; k_cells Y'; (try simp only [List.cons_append, List.nil_append] at N'); (try dsimp only); (try k_fold))))
  rename s.heap = _ => hg
  have hnil : IntsAre [] [] := .nil
  k_with "exec While Compare cons nil" => k_while (fun _ g k ends => 0 ≤ g ∧ g ≤ x.length ∧ 0 ≤ k ∧ k ≤ g ∧ (ends.length : Int) ≤ g ∧ RInv x g k ends) (fun _ g _ _ => (x.length - g).toNat) "gone" "kept" "ends"
  k_with "state" => exact rw_start x
  k_with "state" => exact rw_more ⟨by assumption, by assumption, by assumption, by assumption, by assumption, by assumption⟩ (by assumption) (by assumption)
  k_with "state" => exact rw_last ⟨by assumption, by assumption, by assumption, by assumption, by assumption, by assumption⟩ (by assumption) (by assumption)
  k_with "measure" => first | omega | exact rw_less (by assumption)
  repeat' (first | ((with_reducible show wpAny _ _ (call (Value.ref 68) _) _ _ _); refine use_str (parse_con _ _ _ (by omega)) (by k_asm) (by k_asm) (by k_asm) (by k_asm) (by k_asm) rfl trivial (by ktr_room) (by ktr_units) ?_; (with_reducible rename (Txt.slice _ _ _).length ≤ _ => hsl9); intro t9 h9 tk9 F9 N9; (have hq9 := pnameS_len hsl9); (try dsimp only); (try k_fold)) | (k_unfold; (try dsimp only)) | walk1 | (dsimp only; walk1) | (leave1; walk_say "STEP leave1"; try dsimp only) | fail "no step")
  · rename RInv _ _ _ _ => hR
    rename News _ _ _ _ => hN
    rename IntsAre _ _ => hI
    have he := rw_end ⟨by assumption, by assumption, by assumption, by assumption, by assumption, hR⟩ (by assumption)
    with_unfolding_all refine fin_val (Q := Q) hg (by k_asm) ?_ hret rfl
    rw [← he.1]
    exact rpair_of (n := 0) hN (by with_unfolding_all exact .tail _ (.head _)) (by with_unfolding_all exact .head _) hI he.2
end
end
theorem calm_ZC : True := by
  w_top off
  first | walk1 | trivial
section
section
variable {prog : Program} {w : World} {A : Around} {E : Value → Shared → Prop} {s : Shared} {h₀ : Heap} {L : Addr} {m : Str → Option Value} {env : Env}
open LCg
def zLed (n : Addr) (za zb : Value) (o4 o5 : Obj) (D : Addr) (ys : List Value) : List (Addr × Obj) :=
  [(n + 4, ({ cls := .type "zip", dict := none, data := .fields #[.none, .bool false, .bool false, .ref (n + 2), .ref (n + 3)], slots := #[] } : Obj)), (n + 2, { cls := .type "tuple", data := .seq #[.ref n, .ref (n + 1)] }), (n + 3, { cls := .type "tuple", data := .seq #[za, zb] }), (n, o4), (n + 1, o5), (D, lst ys)]
def ZEnd (h₀ : Heap) (L : Addr) (m : Str → Option Value) (s₁ : Shared) (all : List (Addr × Obj)) (r : Int) (y : Value) (s₂ : Shared) : Prop :=
  ∃ h' tk, s₂ = { s₁ with heap := h', toks := tk } ∧ Fr h₀ L h' m ∧ News h₀ L h' all ∧ ∃ t, y = .int r t
theorem zend {s₁ : Shared} {all : List (Addr × Obj)} {r r' : Int} {t : Tok} {h' : Heap} {tk : Nat} (F : Fr h₀ L h' m) (N : News h₀ L h' all) (hr : r' = r) : ZEnd h₀ L m s₁ all r (.int r' t) { s₁ with heap := h', toks := tk } :=
  ⟨h', tk, rfl, F, N, t, by rw [hr]⟩
def ZSrc (prog : Program) (w : World) (A : Around) (h₀ : Heap) (L : Addr) (m : Str → Option Value) (env : Env) (elt : Expr) (a b : Str) (scope : Scope) (cl : List (Str × Addr)) (v : Str) (Q : Flow → Shared → Prop) (xv : Value) (s₁ : Shared) : Prop :=
  ∃ (x y : Str) (t u : Tok) (n : Addr) (news : List (Addr × Obj)) (f : Nat → Nat → Int), xv = .ref (n + 4) ∧ A.handled = none ∧ Fr h₀ L s₁.heap m ∧ News h₀ L s₁.heap news ∧ ZHas x y t u n 0 0 .none s₁.heap ∧ L < n ∧ (∀ p ∈ news, p.1 < n) ∧ (∀ c o, h₀.get? c = some o → c < n) ∧
    x.cps.size = y.cps.size ∧ x.cps.size ≤ sizeLine ∧
    (∀ (i c d : Nat) v₁ v₂ own C oC m₂ h tk (E' : Value → Shared → Prop), x.cps[i]? = some c → y.cps[i]? = some d → (∃ u, v₁ = .str ⟨#[c]⟩ u) → (∃ u, v₂ = .str ⟨#[d]⟩ u) → NsObj oC m₂ → m₂ a = some v₁ → m₂ b = some v₂ → Fr h₀ L h m → News h₀ L h ((C, oC) :: (own ++ news)) →
      wpAny (model prog w) A (eval elt (compEnvC scope cl C env)) (ZEnd h₀ L m { s₁ with heap := h, toks := tk } ((C, oC) :: (own ++ news)) (f c d)) E' { s₁ with heap := h, toks := tk }) ∧
    (∀ D ys h tk, IntsAre ys ((x.cps.toList.zip y.cps.toList).map fun p => f p.1 p.2) → Fr h₀ L h (fun z => if z = v then some (.ref D) else m z) → News h₀ L h ((D, lst ys) :: news) → Off1 D news → Q .next { s₁ with heap := h, toks := tk })

theorem off1_of {D : Addr} : ∀ {l : List (Addr × Obj)}, (∀ p ∈ l, @Ne Nat p.1 D) → Off1 D l
  | [], _ => trivial
  | _ :: _, h => ⟨h _ (.head _), off1_of fun p hp => h p (.tail _ hp)⟩
theorem zs_comp {elt iter : Expr} {a b v : Str} {pa pb tp pv : Pos} {kk : Nat} {scope : Scope} {cl : List (Str × Addr)} {pos spos : Pos} {Q : Flow → Shared → Prop} (F₀ : Fr h₀ L s.heap m) (hLe : env.locals = L)
    (hsw : swapsWith (.ListComp elt [⟨.Tuple [.Name a pa, .Name b pb] kk tp, iter, [], 0⟩] scope pos) (some (.Name v pv)) spos.line env = pure true)
    (hclos : closureFor scope env = pure cl) (hcell : ∀ z ∈ scope.names, z.2 ≠ .cell) (hkind : scope.kind = .function)
    (hnames : ∀ z ∈ scope.names, z.2 = .local → scope.names.lookup z.1 = some .local) (ha : scope.names.lookup a = some .local) (hb : scope.names.lookup b = some .local) (hab : a ≠ b)
    (hy : env.kindOf v = some .local) (hp : (env.scope.kind == .class || (env.scope.kind == .module && env.locals != env.globals)) = false)
    (h : wpAny (model prog w) A (eval iter env) (ZSrc prog w A h₀ L m env elt a b scope cl v Q) E s)
    (hs : ∀ x, foldedSetIterable iter env x = pure x := by intro _; rfl) :
    wpAny (model prog w) A (exec (.Assign [.Name v pv] (.ListComp elt [⟨.Tuple [.Name a pa, .Name b pb] kk tp, iter, [], 0⟩] scope pos) spos) env) Q E s := by
  subst hLe
  rw [exec_Assign_Name_used _ _ _ _ hsw]
  refine wpAny_bind (wpAny_standAt (wpAny_bind ?_))
  show wpAny _ A (do let _ ← comprehension (.ListComp elt [⟨.Tuple [.Name a pa, .Name b pb] kk tp, iter, [], 0⟩] scope pos) scope env _ (newList []) false (eval iter env) (some (assign (.Name v pv) env))) _ _ s
  refine wpAny_bind (wpAny_mono (wpAny_comprehension_free (use := some (assign (.Name v pv) env)) (Q := fun _ s' => Q .next s') rfl hs hclos hkind hnames
    (wpAny_mono h (fun xv s₁ h₁ => ?_) fun _ _ e => e)) (fun _ s' hq => wpAny_pure (wpAny_pure hq)) fun _ _ e => e)
  obtain ⟨x, y, t, u, n, news, f, rfl, hh, F, N, Z, hLn, hNn, hBn, hxy, hsz, turn, fin⟩ := h₁
  refine wpAny_pyIter_zip Z.1 ?_
  have hn5 : n + 5 ≤ s₁.heap.objs.size := Heap.lt_size Z.1
  refine wpAny_newObj_type (wpAny_newFunctionEnv hcell (by intro z hz; simp at hz) (fun h₁ hns₁ hsb₁ => ?_) hkind)
  dsimp only at hns₁ hsb₁ ⊢
  generalize hH2 : s₁.heap.push { cls := .type "list", dict := none, data := .seq ([] : List Value).toArray } = H2 at hns₁ hsb₁ ⊢
  have hC : H2.objs.size = s₁.heap.objs.size + 1 := by rw [← hH2, Heap.size_push]
  generalize hDd : s₁.heap.objs.size = D at *
  generalize hCc : H2.objs.size = C at *
  have hDC : @Ne Nat D C := by rw [hC]; exact Nat.ne_of_lt (Nat.lt_succ_self _)
  have old : ∀ c o, s₁.heap.get? c = some o → h₁.get? c = some o := fun c o e => by
    have := Heap.lt_size e
    exact hsb₁.extBut c o (by rw [hC]; rw [hDd] at this; exact Nat.ne_of_lt (Nat.lt_succ_of_lt this)) (Heap.get?_push_of_some _ (hH2 ▸ Heap.get?_push_of_some _ e))
  have hacc : h₁.get? D = some (lst []) := hsb₁.extBut _ _ hDC (Heap.get?_push_of_some _ (hH2 ▸ hDd ▸ Heap.get?_push_size _ rfl))
  have lD : n + 5 ≤ D := hn5
  have lC : n + 5 < C := by rw [hC]; exact Nat.lt_succ_of_le lD
  have hDL : @Ne Nat D env.locals := Nat.ne_of_gt (Nat.lt_of_lt_of_le hLn (Nat.le_trans (Nat.le_add_right n 5) lD))
  have hCL : @Ne Nat C env.locals := Nat.ne_of_gt (Nat.lt_trans hLn (Nat.lt_of_le_of_lt (Nat.le_add_right n 5) lC))
  have low₀ : ∀ c, n ≤ c → h₀.get? c = none := fun c hc => by
    cases e : h₀.get? c with
    | none => rfl
    | some o => exact absurd (hBn c o e) (Nat.not_lt.mpr hc)
  have hD₀ : h₀.get? D = none := low₀ D (Nat.le_trans (Nat.le_add_right n 5) lD)
  have hC₀ : h₀.get? C = none := low₀ C (Nat.le_of_lt (Nat.lt_of_le_of_lt (Nat.le_add_right n 5) lC))
  have nlow : ∀ p ∈ news, @Ne Nat p.1 C ∧ @Ne Nat p.1 D := fun p hp => ⟨Nat.ne_of_lt (Nat.lt_trans (hNn p hp) (Nat.lt_of_le_of_lt (Nat.le_add_right n 5) lC)), Nat.ne_of_lt (Nat.lt_of_lt_of_le (hNn p hp) (Nat.le_trans (Nat.le_add_right n 5) lD))⟩
  have zlow : ∀ c, c < n → c ∉ [n + 4, n + 3, n, n + 1] := fun c hc hm => by
    simp only [List.mem_cons, List.not_mem_nil, or_false] at hm
    rcases hm with q | q | q | q <;> (rw [q] at hc; exact absurd (Nat.le_of_lt hc) (by first | exact Nat.not_le_of_gt (Nat.lt_add_of_pos_right (by decide)) | exact fun _ => Nat.lt_irrefl _ hc))
  have zhigh : ∀ c, n + 5 ≤ c → c ∉ [n + 4, n + 3, n, n + 1] := fun c hc hm => by
    have q : c < n + 5 := by
      simp only [List.mem_cons, List.not_mem_nil, or_false] at hm
      rcases hm with q | q | q | q <;> rw [q]
      · exact Nat.lt_succ_self _
      · exact Nat.add_lt_add_left (by decide) n
      · exact Nat.lt_add_of_pos_right (by decide)
      · exact Nat.add_lt_add_left (by decide) n
    exact absurd hc (Nat.not_le_of_gt q)
  have loop : ∀ s₃ : Shared, s₃ = { s₁ with heap := h₁, toks := s₁.toks + ([] : List (Str × Value)).length } →
      codeAny (model prog w) A (.compLoop (.ListComp elt [⟨.Tuple [.Name a pa, .Name b pb] kk tp, iter, [], 0⟩] scope pos) 0 (.ref (n + 4)) (.ref D) (compEnvC scope cl C env))
        (fun r s' => compPost (model prog w) A E (some (assign (.Name v pv) env)) (fun _ s' => Q .next s') (.ref D) C r s') s₃ := by
    rintro s₃ rfl
    refine LCp.codeAny_compLoop_pair
      (fun k s' => ∃ h' tk i ys m', s' = { s₁ with heap := h', toks := tk } ∧ i ≤ x.cps.size ∧ k = x.cps.size + 1 - i ∧ ys.length = i ∧ ZHas x y t u n i i .none h' ∧ Fr h₀ env.locals h' m ∧ h'.Ns C m' ∧ News h₀ env.locals h' news ∧ h'.get? D = some (lst ys) ∧
        IntsAre ys (((x.cps.toList.zip y.cps.toList).take i).map fun p => f p.1 p.2)) ?_ (x.cps.size + 1)
      ⟨h₁, _, 0, [], _, rfl, Nat.zero_le _, rfl, rfl, zs_keep Z fun c o _ e => old c o e, F.keeps old, hns₁, N.grown old, hacc, .nil⟩
    rintro k s' ⟨h', tk, i, ys, m', rfl, hi, rfl, hyl, Z', F', hn', N', hD', hI'⟩
    by_cases hlt : i < x.cps.size
    · refine zs_item hh Z' hlt (hxy ▸ hlt) fun h₂ tk₂ v₁ v₂ p1 p2 Z₂ hp₂ hk₂ => ?_
      refine zs_go Z₂ fun h₃ Z₃ hk₃ => ?_
      obtain ⟨c, uc, hxc, rfl⟩ := p1
      obtain ⟨d, ud, hyd, rfl⟩ := p2
      have hT5 : n + 5 ≤ h'.objs.size := Heap.lt_size Z'.1
      have hT4 : @Ne Nat h'.objs.size (n + 4) := Nat.ne_of_gt hT5
      have kN : ∀ c o, c ∉ [n + 4, n + 3, n, n + 1] → h'.get? c = some o → h₃.get? c = some o := fun c o hc e => hk₃ c o (fun q => hc (by simp [q])) (hk₂ c o hc e)
      refine kcp_assign hh ⟨_, hk₃ _ _ hT4 hp₂, rfl, _, rfl⟩ (lookup_relabel_local ha) (lookup_relabel_local hb) (by simp [compEnvC, relabel, hkind]) (hn'.at' fun o e => kN _ o (zhigh C (Nat.le_of_lt lC)) e) fun h₅ tk₅ hn₅ hk₅ => ?_
      have k5 : ∀ c o, c ∉ [n + 4, n + 3, n, n + 1] → c ≠ C → h'.get? c = some o → h₅.get? c = some o := fun c o hc hcC e => hk₅ c o hcC (kN c o hc e)
      have Z₅ : ZHas x y t u n (i + 1) (i + 1) .none h₅ := zs_keep Z₃ fun c o hc e => hk₅ c o (fun q => by rw [q] at hc; exact absurd (Nat.lt_trans lC hc) (Nat.lt_irrefl _)) e
      have F₅ : Fr h₀ env.locals h₅ m := ⟨F'.ns.at' fun o e => k5 _ o (zlow _ hLn) (Ne.symm hCL) e, fun c o e => k5 c o (zlow c (hBn c o e)) (fun q => by rw [q, hC₀] at e; cases e) (F'.keep c o e), F'.above⟩
      have N₅ : News h₀ env.locals h₅ news := fun p hp => ⟨k5 _ _ (zlow _ (hNn p hp)) (nlow p hp).1 (N' p hp).1, (N' p hp).2⟩
      have D₅ : h₅.get? D = some (lst ys) := k5 _ _ (zhigh D lD) hDC hD'
      obtain ⟨oC, heC, hoC⟩ := ns_obj hn₅
      obtain ⟨z1, z2, ⟨za, zb, z3⟩, ⟨o4, z4, r4⟩, ⟨o5, z5, r5⟩⟩ := Z₅
      have hi1 : ∀ j, n + j ≠ env.locals ∧ h₀.get? (n + j) = none := fun j => ⟨Nat.ne_of_gt (Nat.lt_of_lt_of_le hLn (Nat.le_add_right n j)), low₀ _ (Nat.le_add_right n j)⟩
      have NO : News h₀ env.locals h₅ ((C, oC) :: (zLed n za zb o4 o5 D ys ++ news)) := by
        intro p hp
        rcases List.mem_cons.mp hp with rfl | hp
        · exact ⟨heC, hCL, hC₀⟩
        rcases List.mem_append.mp hp with hp | hp
        · simp only [zLed, List.mem_cons, List.not_mem_nil, or_false] at hp
          rcases hp with rfl | rfl | rfl | rfl | rfl | rfl
          · exact ⟨z1, hi1 4⟩
          · exact ⟨z2, hi1 2⟩
          · exact ⟨z3, hi1 3⟩
          · exact ⟨z4, hi1 0⟩
          · exact ⟨z5, hi1 1⟩
          · exact ⟨D₅, hDL, hD₀⟩
        · exact N₅ p hp
      refine wpAny_mono (turn i c d (.str ⟨#[c]⟩ uc) (.str ⟨#[d]⟩ ud) _ C oC _ h₅ tk₅ _ hxc hyd ⟨uc, rfl⟩ ⟨ud, rfl⟩ hoC (by simp [hab]) (by simp) F₅ NO) (fun r s₄ h₄ => ?_) fun _ _ e => e
      obtain ⟨h₇, tk₇, rfl, F₇, N₇, tr, rfl⟩ := h₄
      have m1 : ∀ {q : Addr × Obj}, q ∈ zLed n za zb o4 o5 D ys → h₇.get? q.1 = some q.2 :=
        fun hq => (N₇ _ (List.mem_cons_of_mem _ (List.mem_append_left _ hq))).1
      have Z₇ : ZHas x y t u n (i + 1) (i + 1) .none h₇ :=
        ⟨m1 (.head _), m1 (.tail _ (.head _)), ⟨za, zb, m1 (.tail _ (.tail _ (.head _)))⟩, ⟨o4, m1 (.tail _ (.tail _ (.tail _ (.head _)))), r4⟩, ⟨o5, m1 (.tail _ (.tail _ (.tail _ (.tail _ (.head _))))), r5⟩⟩
      have D₇ : h₇.get? D = some (lst ys) := m1 (.tail _ (.tail _ (.tail _ (.tail _ (.tail _ (.head _))))))
      have C₇ : h₇.get? C = some oC := (N₇ _ (.head _)).1
      have N₇' : News h₀ env.locals h₇ news := fun p hp => N₇ p (List.mem_cons_of_mem _ (List.mem_append_right _ hp))
      refine append_at (hsz := by show ys.toArray.size ≤ sizeLine; rw [List.size_toArray, hyl]; exact Nat.le_trans hi hsz) D₇ fun h₈ hs₈ hD₈ => ?_
      refine ⟨x.cps.size + 1 - (i + 1), by omega, h₈, tk₇, i + 1, ys ++ [.int (f c d) tr], _, rfl, hlt, rfl, by rw [List.length_append, List.length_singleton, hyl], zs_keep Z₇ fun c o hc e => hs₈.extBut c o (Nat.ne_of_lt (Nat.lt_of_lt_of_le hc lD)) e,
        F₇.change hs₈ hDL hD₀, (hoC.ns C₇).sameBut hs₈ (Ne.symm hDC), fun p hp => ⟨hs₈.extBut _ _ (nlow p hp).2 (N₇' p hp).1, (N₇' p hp).2⟩, hD₈.trans (congrArg some (lst_snoc ys _)), ?_⟩
      have hz : (x.cps.toList.zip y.cps.toList)[i]? = some (c, d) := by
        rw [List.getElem?_zip_eq_some]; simp only [Array.getElem?_toList]; exact ⟨hxc, hyd⟩
      rw [List.take_add_one, hz, Option.toList_some, List.map_append]
      exact IntsAre.append hI' (.cons _ _ .nil)
    · obtain rfl : i = x.cps.size := Nat.le_antisymm hi (Nat.not_lt.mp hlt)
      refine zs_end hh Z' fun h₂ hk₂ => ?_
      have F₂ : Fr h₀ env.locals h₂ m := ⟨F'.ns.at' fun o e => hk₂ _ o (zlow _ hLn) e, fun c o e => hk₂ c o (zlow c (hBn c o e)) (F'.keep c o e), F'.above⟩
      have N₂ : News h₀ env.locals h₂ news := fun p hp => ⟨hk₂ _ _ (zlow _ (hNn p hp)) (N' p hp).1, (N' p hp).2⟩
      have D₂ : h₂.get? D = some (lst ys) := hk₂ _ _ (zhigh D lD) hD'
      have n₂ : h₂.Ns C m' := hn'.at' fun o e => hk₂ _ o (zhigh C (Nat.le_of_lt lC)) e
      show wpAny _ A (assign (.Name v pv) env (.ref D)) _ _ _
      refine wpAny_assign_Name (wpAny_storeName_local hy F₂.ns (fun h₆ hn₆ hs₆ => ?_) hp)
      have hL₀ : h₀.get? env.locals = none := Heap.get?_none_of_le F₂.above
      have F₆ : Fr h₀ env.locals h₆ (fun z => if z = v then some (.ref D) else m z) := ⟨hn₆, fun c o e => hs₆.extBut c o (fun q => by rw [q, hL₀] at e; cases e) (F₂.keep c o e), F₂.above⟩
      refine ⟨m', n₂.sameBut hs₆ hCL, fun h'' hs'' => fin D ys h'' _ ?_ (F₆.change hs'' hCL hC₀) (fun p hp => ?_) ?_⟩
      · have e : (x.cps.toList.zip y.cps.toList).length = x.cps.size := by
          rw [List.length_zip, Array.length_toList, Array.length_toList, ← hxy, Nat.min_self]
        rw [← e, List.take_length] at hI'
        exact hI'
      · rcases List.mem_cons.mp hp with rfl | hp
        · exact ⟨hs''.extBut _ _ hDC (hs₆.extBut _ _ hDL D₂), hDL, hD₀⟩
        · exact ⟨hs''.extBut _ _ (nlow p hp).1 (hs₆.extBut _ _ (N₂ p hp).2.1 (N₂ p hp).1), (N₂ p hp).2⟩
      · exact off1_of fun p hp => (nlow p hp).2
  exact codeAny_compStart_list (loop _ rfl) (wpAny_pyIter_zip (zs_keep Z fun c o _ e => old c o e).1 (loop _ rfl))
end
end
theorem calm_CT : True := by
  w_top off
  first | walk1 | trivial
section
section
variable {prog : Program} {w : World} {A : Around} {h₀ : Heap} {L : Addr} {m : Str → Option Value} {env : Env} {ct elt : Expr} {x : Str} {scope : Scope} {cl : List (Str × Addr)} {s : Shared} {S : List (Addr × Obj) → Prop} {P : Nat → Value → Prop} {Fin : List Value → List (Addr × Obj) → Prop} {news : List (Addr × Obj)}
open LCg LCt
def TYes (news : List (Addr × Obj)) (b : Bool) (r : Int) (y : Value) (news' : List (Addr × Obj)) : Prop := news' = news ∧ b = true ∧ ∃ t : Tok, y = .int r t
def TNo (news : List (Addr × Obj)) (b : Bool) (_ : Value) (news' : List (Addr × Obj)) : Prop := news' = news ∧ b = false
theorem tyes {s₁ : Shared} {I C D : Addr} {oI oC oD : Obj} {b : Bool} {r r' : Int} {t : Tok} {h' : Heap} {tk : Nat} {all : List (Addr × Obj)}
    (F : Fr h₀ L h' m) (N : News h₀ L h' all) (sub : ∀ p ∈ (I, oI) :: (C, oC) :: (D, oD) :: news, p ∈ all) (off : Off3 I C D news) (hS : S news) (hb : b = true) (hr : r' = r) :
    CompEnd h₀ L m s₁ I oI C oC D oD S (fun y news' => TYes news b r y news') (.int r' t) { s₁ with heap := h', toks := tk } :=
  CompEnd.intro F N news sub off hS ⟨rfl, hb, t, by rw [hr]⟩
theorem tno {s₁ : Shared} {I C D : Addr} {oI oC oD : Obj} {b : Bool} {v : Value} {h' : Heap} {tk : Nat} {all : List (Addr × Obj)}
    (F : Fr h₀ L h' m) (N : News h₀ L h' all) (sub : ∀ p ∈ (I, oI) :: (C, oC) :: (D, oD) :: news, p ∈ all) (off : Off3 I C D news) (hS : S news) (hb : b = false) :
    CompEnd h₀ L m s₁ I oI C oC D oD S (fun y news' => TNo news b y news') v { s₁ with heap := h', toks := tk } :=
  CompEnd.intro F N news sub off hS ⟨rfl, hb⟩
theorem rest_T {δ : Type} {n : Nat} {ds : List δ} (R : Value → δ → Prop) (test : δ → Bool) (g : δ → Int) (hds : ds.length = n) (hP : ∀ i v, i < n → P i v → ∃ d, ds[i]? = some d ∧ R v d)
    (turn : ∀ d v I oI C oC D m₂ ys h tk (E' : Value → Shared → Prop), d ∈ ds → R v d → NsObj oC m₂ → m₂ x = some v → Fr h₀ L h m → News h₀ L h ((I, oI) :: (C, oC) :: (D, lst ys) :: news) → Off3 I C D news → ((@Ne Nat I C) ∧ (@Ne Nat I D) ∧ (@Ne Nat C D)) → KPfMark →
      wpAny (model prog w) A (isTrue ct (compEnvC scope cl C env) (eval ct (compEnvC scope cl C env))) (fun ok s' => if ok = true then
        wpAny (model prog w) A (eval elt (compEnvC scope cl C env)) (CompEnd h₀ L m { s with heap := h, toks := tk } I oI C oC D (lst ys) S (fun y news' => TYes news (test d) (g d) y news')) E' s'
        else CompEnd h₀ L m { s with heap := h, toks := tk } I oI C oC D (lst ys) S (fun y news' => TNo news (test d) y news') Value.none s') E' { s with heap := h, toks := tk })
    (fin : KPfDone (∀ ys, IntsAre ys ((ds.filter test).map g) → Fin ys news)) : CompRestT prog w A h₀ L m env ct elt x scope cl s S P Fin n 0 [] news := by
  unfold KPfDone at fin
  have key : ∀ (j i : Nat) (ys : List Value), i + j = n → IntsAre ys (((ds.take i).filter test).map g) → CompRestT prog w A h₀ L m env ct elt x scope cl s S P Fin j i ys news := by
    intro j
    induction j with
    | zero =>
      intro i ys hi hy
      rw [List.take_of_length_le (by omega)] at hy
      exact CompRestT.zero (fin ys hy)
    | succ j ih =>
      intro i ys hi hy
      refine CompRestT.succ ?_
      intro v I oI C oC D m₂ h tk E' hv hC hx F N off ne
      obtain ⟨d, hd, hR⟩ := hP i v (by omega) hv
      have ht : ds.take (i + 1) = ds.take i ++ [d] := by rw [List.take_add_one, hd]; rfl
      refine wpAny_mono (turn d v I oI C oC D m₂ ys h tk E' (List.mem_of_getElem? hd) hR hC hx F N off ne True.intro) (fun ok s₂ hq => ?_) fun _ _ e => e
      cases ok with
      | true =>
        simp only [if_true] at hq ⊢
        refine wpAny_mono hq (fun y s₃ hq' => ?_) fun _ _ e => e
        obtain ⟨h', tk', nw, e, F', N', off', hS, hn, hb, t', hy'⟩ := hq'
        rw [hn] at N' off' hS
        refine ⟨h', tk', news, e, F', N', off', hS, ?_⟩
        rw [hy']
        refine ih (i + 1) _ (by omega) ?_
        rw [ht, List.filter_append, List.map_append, List.filter_cons, if_pos hb]
        exact IntsAre.append hy (.cons (g d) t' .nil)
      | false =>
        simp only [Bool.false_eq_true, if_false] at hq ⊢
        obtain ⟨h', tk', nw, e, F', N', off', hS, hn, hb⟩ := hq
        rw [hn] at N' off' hS
        refine ⟨h', tk', news, e, F', N', off', hS, ?_⟩
        refine ih (i + 1) _ (by omega) ?_
        rw [ht, List.filter_append, List.filter_cons, hb]
        simpa using hy
  exact key n 0 [] (by omega) .nil
/-- a source of ints -/
theorem rest_TI {vs : List Value} {ns : List Int} (test : Int → Bool) (g : Int → Int) (hi : IntsAre vs ns)
    (turn : ∀ k t I oI C oC D m₂ ys h tk (E' : Value → Shared → Prop), k ∈ ns → NsObj oC m₂ → m₂ x = some (.int k t) → Fr h₀ L h m → News h₀ L h ((I, oI) :: (C, oC) :: (D, lst ys) :: news) → Off3 I C D news → ((@Ne Nat I C) ∧ (@Ne Nat I D) ∧ (@Ne Nat C D)) → KPfMark →
      wpAny (model prog w) A (isTrue ct (compEnvC scope cl C env) (eval ct (compEnvC scope cl C env))) (fun ok s' => if ok = true then
        wpAny (model prog w) A (eval elt (compEnvC scope cl C env)) (CompEnd h₀ L m { s with heap := h, toks := tk } I oI C oC D (lst ys) S (fun y news' => TYes news (test k) (g k) y news')) E' s'
        else CompEnd h₀ L m { s with heap := h, toks := tk } I oI C oC D (lst ys) S (fun y news' => TNo news (test k) y news') Value.none s') E' { s with heap := h, toks := tk })
    (fin : KPfDone (∀ ys, IntsAre ys ((ns.filter test).map g) → Fin ys news)) : CompRestT prog w A h₀ L m env ct elt x scope cl s S (fun i v => vs.toArray[i]? = some v) Fin vs.toArray.size 0 [] news :=
  rest_T (ds := ns) (fun v k => ∃ t, v = .int k t) test g (by rw [List.size_toArray]; exact hi.length.symm) (fun i v _ hv => by
    obtain ⟨k, t, e, hk⟩ := IntsAre.at hi i v (by simpa using hv)
    exact ⟨k, hk, t, e⟩) (fun d v I oI C oC D m₂ ys h tk E' hd hR hC hx F N off ne mk => by
    obtain ⟨t, rfl⟩ := hR
    exact turn d t I oI C oC D m₂ ys h tk E' hd hC hx F N off ne mk) fin
end
section
variable {prog : Program} {w : World} {A : Around} {E : Value → Shared → Prop} {s : Shared} {h₀ : Heap} {L : Addr} {m : Str → Option Value} {env : Env} {news : List (Addr × Obj)}
open LCg
theorem zs_src {elt : Expr} {a b v : Str} {scope : Scope} {cl : List (Str × Addr)} {Q : Flow → Shared → Prop} {x y : Str} {t u : Tok} (f : Nat → Nat → Int) (hh : A.handled = none) (F : Fr h₀ L s.heap m) (N : News h₀ L s.heap news) (hxy : x.cps.size = y.cps.size) (hsz : x.cps.size ≤ sizeLine)
    (turn : ∀ (i c d uc ud : Nat) own C oC m₂ h tk (E' : Value → Shared → Prop), x.cps[i]? = some c → y.cps[i]? = some d → NsObj oC m₂ → m₂ a = some (.str ⟨#[c]⟩ uc) → m₂ b = some (.str ⟨#[d]⟩ ud) → Fr h₀ L h m → News h₀ L h ((C, oC) :: (own ++ news)) →
      wpAny (model prog w) A (eval elt (compEnvC scope cl C env)) (ZEnd h₀ L m { s with heap := h, toks := tk } ((C, oC) :: (own ++ news)) (f c d)) E' { s with heap := h, toks := tk })
    (fin : ∀ D ys h tk, IntsAre ys ((x.cps.toList.zip y.cps.toList).map fun p => f p.1 p.2) → Fr h₀ L h (fun z => if z = v then some (.ref D) else m z) → News h₀ L h ((D, lst ys) :: news) → Off1 D news → Q .next { s with heap := h, toks := tk }) :
    wpAny (model prog w) A (call (.type "zip") [.str x t, .str y u]) (ZSrc prog w A h₀ L m env elt a b scope cl v Q) E s := by
  refine zs_new fun h' Z hs hk => ?_
  refine ⟨x, y, t, u, s.heap.objs.size, news, f, rfl, hh, F.keeps hk, N.grown hk, Z, F.ns.lt, fun p hp => Heap.lt_size (N p hp).1, fun c o e => Heap.lt_size (F.keep c o e), hxy, hsz, ?_, fin⟩
  rintro i c d v₁ v₂ own C oC m₂ h tk E' hc hd ⟨uc, rfl⟩ ⟨ud, rfl⟩ hC ha hb F' N'
  exact turn i c d uc ud own C oC m₂ h tk E' hc hd hC ha hb F' N'
end

theorem ext_cons2 {h₀ h h' : Heap} {L l q : Addr} {o p : Obj} {m : Str → Option Value} {news : List (Addr × Obj)} (F : Fr h₀ L h m) (N : News h₀ L h' news) (hl : h'.get? l = some o) (hn : h.get? l = none) (hq : h'.get? q = some p) (hqn : h.get? q = none) : News h₀ L h' ((q, p) :: (l, o) :: news) :=
  ext_cons F (ext_cons F N hl hn) hq hqn
section
variable {w : World} {f : Addr} {vs : List Value} {d : Nat} {P : Heap → Prop} {mean : ExcName → Option Value} {mg mb : Str → Option Value} {dp un : Nat} {gd : Option (List Code)} {cn : Str} {cs : Scope} {a : Addr} {ccd : Value} {cl : List (Str × Addr)} {outer : List Env} {A₀ : Around} {base h₀ : Heap} {L : Addr} {m : Str → Option Value} {s : Shared} {Q E : Value → Shared → Prop} {news : List (Addr × Obj)}
theorem use_pair {ns : List Int} {kk : Int} (C : Con w f vs d P (RPair ns kk)) (B : Below A₀ base outer h₀) (F : Fr h₀ L s.heap m) (X : (hd.heap_39 w.params).In h₀) (N : News h₀ L s.heap news) (T : Top hd.view_39 (looseW hd.view_39 [Str.ofString "COMPILER_FLAG_NAMES"]) mean mg mb h₀) (hk : cs.kind = .function) (hp : P s.heap) (hdp : dp + d < recursionLimit) (hun : un + 100 * d < cLine)
    (k : ∀ q l vs t n n2 h' tk', IntsAre vs ns → Fr h₀ L h' m → News h₀ L h' ((q, { cls := .type "tuple", data := .seq #[.ref l, .int kk t] n }) :: (l, W.listOf vs.toArray n2) :: news) → TLg.AllNe l news → TLg.AllNe q news → (@Ne Nat l q) → Q (.ref q) { s with heap := h', toks := tk' }) :
    wpAny (model PySem.Challenge.rw_wu0008_01.row.prog w) (ktrTop dp un gd cn cs L a ccd cl outer) (call (.ref f) vs) Q E s :=
  C _ _ _ _ _ _ _ _ _ _ _ _ _ _ _ _ _ _ _ _ B F X T hk hp hdp hun fun v h' tk' st ⟨q, l, ws, t, n, n2, e, hq, hl, hn, hqn, hne, hi⟩ => by
    subst e
    exact k q l ws t n n2 h' tk' hi (ext_fr F st) (ext_cons2 F (ext_news N st) hl hn hq hqn) (ext_ne N hn) (ext_ne N hqn) hne
end
end
theorem calm_HL : True := by
  w_top off
  first | walk1 | trivial
section
def bitAt (mask k : Int) : Bool := decide ((mask.fdiv (2 ^ (k - 1).toNat)).fmod 2 = 1)
theorem fold_filter (p : Int → Prop) [DecidablePred p] (ks acc : List Int) : ks.foldl (fun l k => if p k then l ++ [k] else l) acc = acc ++ ks.filter (fun k => decide (p k)) := by
  induction ks generalizing acc with
  | nil => simp
  | cons k r ih =>
    rw [List.foldl_cons, ih, List.filter_cons]
    by_cases h : p k <;> simp [h]
theorem placesL_eq (mask wide : Int) : placesL mask wide = (rangeKs 1 wide.toNat).filter (bitAt mask) := by
  unfold placesL
  rw [fold_filter (fun k => (mask.fdiv (2 ^ (k - 1).toNat)).fmod 2 = 1)]
  rw [show wide + 1 - 1 = wide by omega]
  rfl
theorem places_len (mask wide : Int) (h : wide ≤ 11) : (placesL mask wide).length ≤ 12 := by
  rw [placesL_eq]
  have := List.length_filter_le (bitAt mask) (rangeKs 1 wide.toNat)
  rw [rangeKs_length] at this
  omega
theorem places_mem {mask wide k : Int} : k ∈ placesL mask wide ↔ (1 ≤ k ∧ k ≤ wide) ∧ bitAt mask k = true := by
  rw [placesL_eq, List.mem_filter]
  constructor
  · rintro ⟨h, hb⟩
    have := mem_rangeKs h
    exact ⟨⟨this.1, by omega⟩, hb⟩
  · rintro ⟨⟨h1, h2⟩, hb⟩
    refine ⟨?_, hb⟩
    unfold rangeKs
    exact List.mem_map.mpr ⟨(k - 1).toNat, List.mem_range.mpr (by omega), by omega⟩
theorem places_in (mask wide : Int) (h : wide ≤ 10) : ∀ k ∈ placesL mask wide, 1 ≤ k ∧ k ≤ 10 := by
  intro k hk
  have := (places_mem.mp hk).1
  omega
theorem one_lower {c : Nat} (h : c = 34 ∨ (97 ≤ c ∧ c ≤ 122)) : Txt.lower ⟨#[c]⟩ = ⟨#[c]⟩ := by
  have e : ∀ i : _root_.Fin 123, (i.val = 34 ∨ 97 ≤ i.val) → Txt.lower ⟨#[i.val]⟩ = ⟨#[i.val]⟩ := by decide +kernel
  exact e ⟨c, by omega⟩ (by show c = 34 ∨ 97 ≤ c; omega)
theorem one_apart {c d : Nat} (hc : c = 34 ∨ (97 ≤ c ∧ c ≤ 122)) (hd : d = 34 ∨ (97 ≤ d ∧ d ≤ 122)) : (⟨#[c]⟩ : Str) ≠ ⟨#[d]⟩ → Txt.lower ⟨#[c]⟩ ≠ Txt.lower ⟨#[d]⟩ := by
  rw [one_lower hc, one_lower hd]; exact id
theorem rowS_cps (ps : List Int) (wide : Int) (sg : Nat) : (rowS ps wide ⟨#[sg]⟩).cps.toList = (rangeKs 1 wide.toNat).map fun k => if k ∈ ps then 34 else sg := by
  unfold rowS
  rw [show wide + 1 - 1 = wide by omega]
  generalize rangeKs 1 wide.toNat = ks
  have key : ∀ l : List Str, (Txt.join (Str.ofString "") l).cps.toList = l.flatMap fun x => x.cps.toList := by
    intro l
    unfold Txt.join
    rw [StrLaws.glued_eq_join]
    induction l with
    | nil => rfl
    | cons a r ih =>
      cases r with
      | nil => simp [Str.join]
      | cons b r =>
        show (a ++ Str.ofString "" ++ Str.join (Str.ofString "") (b :: r)).cps.toList = _
        rw [Str.cps_append, Str.cps_append, Array.toList_append, Array.toList_append, ih]
        have e : (Str.ofString "").cps.toList = [] := rfl
        rw [e, List.append_nil]; rfl
  rw [key]
  induction ks with
  | nil => rfl
  | cons k r ih =>
    rw [List.map_cons, List.flatMap_cons, ih, List.map_cons]
    by_cases h : k ∈ ps <;> simp [h]
    rfl
theorem rowS_code {ps : List Int} {wide : Int} {sg i c : Nat} (h : (rowS ps wide ⟨#[sg]⟩).cps[i]? = some c) : c = 34 ∨ c = sg := by
  rw [← Array.getElem?_toList, rowS_cps] at h
  obtain ⟨k, _, rfl⟩ := List.mem_map.mp (List.mem_of_getElem? h)
  by_cases h : k ∈ ps <;> simp [h]
theorem met_in {mask wide k : Int} {t : Int → Bool} (hk : k ∈ ((placesL mask wide).filter t).map fun k => k) (h : wide ≤ 10) : 1 ≤ k ∧ k ≤ 10 := by
  rw [List.map_id'] at hk
  exact places_in mask wide h k (List.mem_filter.mp hk).1
theorem isList_lst {h₀ h : Heap} {L D : Addr} {ys : List Value} {news : List (Addr × Obj)} (N : News h₀ L h news) (hm : (D, LCg.lst ys) ∈ news) : h.IsList D ys.toArray := ⟨_, (N _ hm).1, rfl, _, rfl⟩
theorem rowS_len (ps : List Int) (wide : Int) (sg : Nat) : (rowS ps wide ⟨#[sg]⟩).length = wide.toNat := by
  rw [← cps_len, rowS_cps, List.length_map, rangeKs_length]
theorem zlen (sg : Nat) (x : Str) : ((⟨#[sg]⟩ : Str) ++ x).cps.size = (x ++ (⟨#[sg]⟩ : Str)).cps.size := by
  show ((⟨#[sg]⟩ : Str) ++ x).length = (x ++ (⟨#[sg]⟩ : Str)).length
  rw [Str.length_append, Str.length_append, Nat.add_comm]
theorem zsize (sg : Nat) (ps : List Int) {wide : Int} (h : wide ≤ 11) : ((⟨#[sg]⟩ : Str) ++ rowS ps wide ⟨#[sg]⟩).cps.size ≤ sizeLine := by
  show ((⟨#[sg]⟩ : Str) ++ rowS ps wide ⟨#[sg]⟩).length ≤ sizeLine
  rw [Str.length_append, rowS_len, sizeLine_eq]
  show 1 + _ ≤ _
  omega
theorem zl_code {ps : List Int} {wide : Int} {sg i c : Nat} (h5 : 97 ≤ sg ∧ sg ≤ 122) (h : ((⟨#[sg]⟩ : Str) ++ rowS ps wide ⟨#[sg]⟩).cps[i]? = some c) : c = 34 ∨ (97 ≤ c ∧ c ≤ 122) := by
  rw [← Array.getElem?_toList, Str.cps_append, Array.toList_append] at h
  rcases List.mem_append.mp (List.mem_of_getElem? h) with q | q
  · simp only [List.mem_singleton] at q; subst q; exact .inr h5
  · obtain ⟨j, hj⟩ := List.mem_iff_getElem?.mp q
    rw [Array.getElem?_toList] at hj
    rcases rowS_code hj with e | e
    · exact .inl e
    · subst e; exact .inr h5
theorem zr_code {ps : List Int} {wide : Int} {sg i c : Nat} (h5 : 97 ≤ sg ∧ sg ≤ 122) (h : (rowS ps wide ⟨#[sg]⟩ ++ (⟨#[sg]⟩ : Str)).cps[i]? = some c) : c = 34 ∨ (97 ≤ c ∧ c ≤ 122) := by
  rw [← Array.getElem?_toList, Str.cps_append, Array.toList_append] at h
  rcases List.mem_append.mp (List.mem_of_getElem? h) with q | q
  · obtain ⟨j, hj⟩ := List.mem_iff_getElem?.mp q
    rw [Array.getElem?_toList] at hj
    rcases rowS_code hj with e | e
    · exact .inl e
    · subst e; exact .inr h5
  · simp only [List.mem_singleton] at q; subst q; exact .inr h5
theorem addl (sg : Nat) (ps : List Int) {wide : Int} (h : wide ≤ 11) : (⟨#[sg]⟩ : Str).length + (rowS ps wide ⟨#[sg]⟩).length ≤ sizeLine := by
  rw [rowS_len, sizeLine_eq]; show 1 + _ ≤ _; omega
theorem addr (sg : Nat) (ps : List Int) {wide : Int} (h : wide ≤ 11) : (rowS ps wide ⟨#[sg]⟩).length + (⟨#[sg]⟩ : Str).length ≤ sizeLine := by
  rw [Nat.add_comm]; exact addl sg ps h
theorem ends_le (ps : List Int) (l : List Int) : (endsSt ps l).2.length ≤ l.length := by
  have key : ∀ (l : List Int) (c : Bool × List Int), (l.foldl (stepE ps) c).2.length ≤ c.2.length + l.length := by
    intro l
    induction l with
    | nil => intro c; simp
    | cons k r ih =>
      intro c
      rw [List.foldl_cons]
      have h1 := ih (stepE ps c k)
      have h2 : (stepE ps c k).2.length ≤ c.2.length + 1 := by
        unfold stepE
        split
        · simp
        · split
          · simp
          · simp
      simp only [List.length_cons]; omega
  have := key l (false, [])
  simpa [endsSt] using this
theorem ends_len (ps : List Int) {wide : Int} (h : wide ≤ 11) : (endsSt ps (rangeKs 1 (wide + 2 - 1).toNat)).2.length ≤ 12 := by
  have := ends_le ps (rangeKs 1 (wide + 2 - 1).toNat)
  rw [rangeKs_length] at this
  omega
theorem my_len {prog : Program} {w : World} {A : Around} {E : Value → Shared → Prop} {s : Shared} {h₀ : Heap} {L l : Addr} {news : List (Addr × Obj)} {us : List Value} {ns : List Int} {c : Nat} {Q : Value → Shared → Prop} (N : News h₀ L s.heap news) (hm : (l, W.listOf us.toArray c) ∈ news) (e : IntsAre us ns) (hb : us.length ≤ 12)
    (h : ∀ t k, Q (.int (ns.length : Int) t) { s with toks := k }) : wpAny (model prog w) A (call (.builtin "len") [.ref l]) Q E s :=
  kst_len N hm e.length (by have := e.length; omega) (h _ _)
section
open PyProof.V
variable {prog : Program} {w : World} {A : Around} {E : Value → Shared → Prop} {s : Shared}
theorem eq_pairs {q r l l2 : Addr} {xs ys : List Value} {ns ms : List Int} {k k2 : Int} {t t2 : Tok} {n n2 : Nat} {Q : Value → Shared → Prop}
    (hq : s.heap.get? q = some { cls := .type "tuple", data := .seq #[.ref l, .int k t] n }) (hr : s.heap.get? r = some { cls := .type "tuple", data := .seq #[.ref l2, .int k2 t2] n2 })
    (hl : s.heap.IsList l xs.toArray) (hl2 : s.heap.IsList l2 ys.toArray) (hi : IntsAre xs ns) (hj : IntsAre ys ms) (hu : A.units + 64 < cLine) (h : Q (.bool (decide (ns = ms) && k == k2)) s) :
    wpAny (model prog w) A (compareOp .Eq (.ref q) (.ref r)) Q E s := by
  refine eq_dataH (reads_tuple_at hq rfl rfl (ReadsAll.cons (reads_newData hl (ke_carried hi)) (ReadsAll.cons (Reads.int _ _) ReadsAll.nil))) (reads_tuple_at hr rfl rfl (ReadsAll.cons (reads_newData hl2 (ke_carried hj)) (ReadsAll.cons (Reads.int _ _) ReadsAll.nil))) (by ked_shaped) (by ked_shaped) hu ?_
  simp only [PyData.eqv, PyData.eqvAll, ked_eqvAll, Bool.and_true]
  exact h
end
end
theorem calm_UB : True := by
  w_top off
  first | walk1 | trivial
section
section
variable {w : World} {f : Addr} {vs : List Value} {d : Nat} {P : Heap → Prop} {mean : ExcName → Option Value} {mg mb : Str → Option Value} {dp un : Nat} {gd : Option (List Code)} {cn : Str} {cs : Scope} {a : Addr} {ccd : Value} {cl : List (Str × Addr)} {outer : List Env} {A₀ : Around} {base h₀ : Heap} {L : Addr} {m : Str → Option Value} {s : Shared} {Q E : Value → Shared → Prop} {news : List (Addr × Obj)}
end
section
variable {prog : Program} {w : World} {A : Around} {E : Value → Shared → Prop} {s : Shared} {h₀ : Heap} {L : Addr} {m : Str → Option Value} {env : Env} {news : List (Addr × Obj)}
open LCg LCt
end
section
variable {w : World} {mean : ExcName → Option Value} {mg mb : Str → Option Value} {dp un : Nat} {gd : Option (List Code)} {cn : Str} {cs : Scope} {a : Addr} {ccd : Value} {cl : List (Str × Addr)} {outer : List Env} {A₀ : Around} {base h₀ : Heap} {L : Addr} {m : Str → Option Value} {s : Shared} {Q E : Value → Shared → Prop} {news : List (Addr × Obj)}
theorem row_use {lp : Addr} {vp : List Value} {ps : List Int} {wide : Int} {sign : Str} {t1 t2 : Tok} (hp : s.heap.IsList lp vp.toArray) (hi : IntsAre vp ps) (hl : ps.length ≤ 12) (h2 : 0 ≤ wide) (h3 : wide ≤ 11) (hs : sign.length = 1) (B : Below A₀ base outer h₀) (F : Fr h₀ L s.heap m) (X : (hd.heap_39 w.params).In h₀) (N : News h₀ L s.heap news) (T : Top hd.view_39 (looseW hd.view_39 [Str.ofString "COMPILER_FLAG_NAMES"]) mean mg mb h₀) (hk : cs.kind = .function) (hdp : dp + 3 < recursionLimit) (hun : un + 100 * 3 < cLine)
    (k : ∀ t h' tk', Fr h₀ L h' m → News h₀ L h' news → Q (.str (rowS ps wide sign) t) { s with heap := h', toks := tk' }) :
    wpAny (model PySem.Challenge.rw_wu0008_01.row.prog w) (ktrTop dp un gd cn cs L a ccd cl outer) (call (.ref 85) [.ref lp, .int wide t1, .str sign t2]) Q E s :=
  use_str (row_con w lp vp ps wide sign t1 t2 hi hl h2 h3 hs) B F X N T hk hp hdp hun k
end
end
theorem calm_LW : True := by
  w_top off
  first | walk1 | trivial
section
theorem rangeKs_last (a : Int) (n : Nat) : rangeKs a (n + 1) = rangeKs a n ++ [a + n] := by
  unfold rangeKs
  rw [List.range_succ, List.map_append]; rfl
theorem rangeKs_map (a : Int) (n : Nat) : rangeKs a n = (List.range n).map fun i : Nat => a + (i : Int) := rfl
theorem bitAt_nat (x : Int) (j : Nat) : bitAt x (1 + (j : Int)) = decide (x / 2 ^ j % 2 = 1) := by
  unfold bitAt
  rw [show (1 + (j : Int) - 1).toNat = j by omega, Int.fdiv_eq_ediv_of_nonneg _ (Int.le_of_lt (two_pos j)), Int.fmod_eq_emod_of_nonneg _ (by decide)]
theorem wordAt_nat (j : Nat) : wordAt (1 + (j : Int)) = wordsTab.getD j Str.empty := by
  unfold wordAt
  rw [show (1 + (j : Int) - 1).toNat = j by omega]
theorem words_of (x : Int) (l : List Nat) : ((l.map fun i : Nat => 1 + (i : Int)).filter (bitAt x)).map wordAt = l.filterMap fun j => if x / 2 ^ j % 2 = 1 then some (wordsTab.getD j Str.empty) else none := by
  induction l with
  | nil => rfl
  | cons j r ih =>
    rw [List.map_cons, List.filter_cons, bitAt_nat, List.filterMap_cons]
    by_cases h : x / 2 ^ j % 2 = 1
    · simp only [h, decide_true, if_true, List.map_cons, ih, wordAt_nat]
    · simp only [h, decide_false, if_false, Bool.false_eq_true, ih]
theorem places_words (x wide : Int) : (placesL x wide).map wordAt = flagNames x wide.toNat := by
  rw [placesL_eq, rangeKs_map, words_of]; rfl
theorem clr_over {x : Int} {n : Nat} (h0 : 0 ≤ x) (h : x < 2 ^ n) : clr x n = 0 := by
  unfold clr
  rw [Int.ediv_eq_zero_of_lt h0 h, Int.zero_mul]
theorem bits_none {x : Int} : ∀ n : Nat, (∀ j, j < n → ¬ x / 2 ^ j % 2 = 1) → clr x n = x
  | 0, _ => by unfold clr; simp
  | n + 1, h => by
    have h1 := bits_none n fun j hj => h j (by omega)
    have h2 : x / 2 ^ n % 2 = 0 := (bit_or x n).resolve_right (h n (by omega))
    rw [← clr_zero h2, h1]
theorem join_one (x y : Str) : Txt.join x [y] = y := rfl
theorem law_A {mask wide : Int} (h0 : 0 ≤ mask) (h2 : mask < 2 ^ wide.toNat) (h4 : wide ≤ 10) :
    Txt.join (Str.ofString ", ") (if mask = 0 then [Str.ofString "0x0"] else flagNames mask 32) = wordsS (placesL mask wide) := by
  have hw := places_words mask wide
  have h32 : flagNames mask 32 = flagNames mask wide.toNat := by
    obtain ⟨d, hd⟩ : ∃ d, 32 = wide.toNat + d := ⟨32 - wide.toNat, by omega⟩
    rw [hd, names_stop (clr_over h0 h2)]
  unfold wordsS
  by_cases hm : mask = 0
  · subst hm
    rw [names_zero] at hw
    rw [if_pos rfl, if_pos (List.map_eq_nil_iff.mp hw), join_one]
  · rw [if_neg hm, h32, ← hw, if_neg]
    intro hp
    refine hm ?_
    have e := clr_over h0 h2
    rw [bits_none wide.toNat fun j hj hb => ?_] at e
    · exact e
    · have : (1 + (j : Int)) ∈ placesL mask wide := places_mem.mpr ⟨⟨by omega, by omega⟩, by rw [bitAt_nat]; exact decide_eq_true hb⟩
      rw [hp] at this
      cases this
/-- & of two numbers, place by place -/
theorem and_sum : ∀ (n : Nat) (x y : Int), 0 ≤ x → 0 ≤ y → x < 2 ^ n → Builtin.bitAnd x y = ((List.range n).map fun i => if x / 2 ^ i % 2 = 1 ∧ y / 2 ^ i % 2 = 1 then (2 : Int) ^ i else 0).sum
  | 0, x, y, h0, _, h => by
    have e : x = 0 := by
      have : (2 : Int) ^ 0 = 1 := rfl
      omega
    subst e
    rw [bitAnd_comm]
    have := kbt_mask y 0
    simpa using this
  | n + 1, x, y, h0, h1, h => by
    have hp : (2 : Int) ^ (n + 1) = 2 ^ n * 2 := Int.pow_succ ..
    rw [kbt_halves, and_sum n (x / 2) (y / 2) (by omega) (by omega) (by omega), List.range_succ_eq_map, List.map_cons, List.sum_cons, List.map_map]
    have e : ∀ l : List Nat, 2 * (l.map fun i => if x / 2 / 2 ^ i % 2 = 1 ∧ y / 2 / 2 ^ i % 2 = 1 then (2 : Int) ^ i else 0).sum = (l.map ((fun i => if x / 2 ^ i % 2 = 1 ∧ y / 2 ^ i % 2 = 1 then (2 : Int) ^ i else 0) ∘ Nat.succ)).sum := by
      intro l
      induction l with
      | nil => rfl
      | cons i r ih =>
        rw [List.map_cons, List.map_cons, List.sum_cons, List.sum_cons, Int.mul_add, ih]
        congr 1
        have q : ∀ z : Int, z / 2 ^ (i + 1) = z / 2 / 2 ^ i := fun z => by
          rw [Int.pow_succ, Int.mul_comm, Int.ediv_ediv_of_nonneg (by decide)]
        show 2 * (if x / 2 / 2 ^ i % 2 = 1 ∧ y / 2 / 2 ^ i % 2 = 1 then (2 : Int) ^ i else 0) = if x / 2 ^ (i + 1) % 2 = 1 ∧ y / 2 ^ (i + 1) % 2 = 1 then (2 : Int) ^ (i + 1) else 0
        rw [q x, q y]
        split
        · rw [Int.pow_succ]; omega
        · rfl
    rw [e]
    have z0 : (2 : Int) ^ 0 = 1 := rfl
    simp only [z0, Int.ediv_one]
    omega
theorem two_bit (x : Int) (i : Nat) : (x * 2) / 2 ^ (i + 1) = x / 2 ^ i := by
  rw [Int.pow_succ, Int.mul_ediv_mul_of_pos_left _ _ (by decide)]
theorem any_below {mask wide : Int} {i : Nat} (hi : i < wide.toNat) : ((placesL mask wide).any fun x => x == 1 + (i : Int) - 1) = decide (mask * 2 / 2 ^ i % 2 = 1) := by
  rw [Bool.eq_iff_iff, List.any_eq_true, decide_eq_true_eq]
  cases i with
  | zero =>
    have z0 : (2 : Int) ^ 0 = 1 := rfl
    rw [z0, Int.ediv_one]
    constructor
    · rintro ⟨k, hk, he⟩
      have he' : k = 1 + ((0 : Nat) : Int) - 1 := by simpa using he
      have := (places_mem.mp hk).1.1
      omega
    · intro h; omega
  | succ j =>
    rw [two_bit]
    constructor
    · rintro ⟨k, hk, he⟩
      have he' : k = 1 + ((j + 1 : Nat) : Int) - 1 := by simpa using he
      have hb := (places_mem.mp hk).2
      rw [show k = 1 + (j : Int) by omega, bitAt_nat] at hb
      exact of_decide_eq_true hb
    · intro h
      exact ⟨1 + (j : Int), places_mem.mpr ⟨⟨by omega, by omega⟩, by rw [bitAt_nat]; exact decide_eq_true h⟩, by simp; omega⟩
theorem law_B {mask wide : Int} (h0 : 0 ≤ mask) (h2 : mask < 2 ^ wide.toNat) (h4 : wide ≤ 10) :
    Builtin.bitAnd mask (mask * 2) = (List.map (fun k' => if 1 ≤ k' ∧ k' ≤ 10 then (2 : Int) ^ (k' - 1).toNat else k') (List.map (fun k' => k') (List.filter (fun k' => (placesL mask wide).any fun x => x == k' - 1) (placesL mask wide)))).sum := by
  generalize hP : (fun k' => (placesL mask wide).any fun x => x == k' - 1) = P
  rw [List.map_id', and_sum wide.toNat mask (mask * 2) h0 (by omega) h2, sum_map_filter]
  have hp : ∀ i : Nat, i < wide.toNat → P (1 + (i : Int)) = decide (mask * 2 / 2 ^ i % 2 = 1) := fun i hi => by rw [← hP]; exact any_below hi
  rw [placesL_eq, sum_map_filter, rangeKs_map, List.map_map]
  refine congrArg List.sum (List.map_congr_left fun i hi => ?_)
  have hi' := List.mem_range.mp hi
  simp only [Function.comp]
  rw [bitAt_nat, hp i hi']
  have e : (if 1 ≤ 1 + (i : Int) ∧ 1 + (i : Int) ≤ 10 then (2 : Int) ^ (1 + (i : Int) - 1).toNat else 1 + (i : Int)) = 2 ^ i := by
    rw [if_pos (by omega), show (1 + (i : Int) - 1).toNat = i by omega]
  rw [e]
  by_cases b1 : mask / 2 ^ i % 2 = 1 <;> by_cases b2 : mask * 2 / 2 ^ i % 2 = 1 <;> simp [b1, b2]
/-- the sign at place k of the row -/
def codeAt (ps : List Int) (sg : Nat) (k : Int) : Nat := if k ∈ ps then 34 else sg
theorem row_left {ps : List Int} {wide : Int} {sg : Nat} (hp : ∀ k ∈ ps, 1 ≤ k ∧ k ≤ wide) : ((⟨#[sg]⟩ : Str) ++ rowS ps wide ⟨#[sg]⟩).cps.toList = (List.range (wide.toNat + 1)).map fun i : Nat => codeAt ps sg (i : Int) := by
  rw [Str.cps_append, Array.toList_append, rowS_cps, List.range_succ_eq_map, List.map_cons, List.map_map, rangeKs_map, List.map_map]
  have e : codeAt ps sg ((0 : Nat) : Int) = sg := if_neg fun h => by have := (hp _ h).1; omega
  rw [e]
  show sg :: _ = _
  congr 1
  refine List.map_congr_left fun i _ => ?_
  show codeAt ps sg (1 + (i : Int)) = codeAt ps sg ((i + 1 : Nat) : Int)
  rw [show (1 + (i : Int)) = ((i + 1 : Nat) : Int) by omega]
theorem row_right {ps : List Int} {wide : Int} {sg : Nat} (h3 : 0 ≤ wide) (hp : ∀ k ∈ ps, 1 ≤ k ∧ k ≤ wide) : (rowS ps wide ⟨#[sg]⟩ ++ (⟨#[sg]⟩ : Str)).cps.toList = (List.range (wide.toNat + 1)).map fun i : Nat => codeAt ps sg (1 + (i : Int)) := by
  rw [Str.cps_append, Array.toList_append, rowS_cps, List.range_succ, List.map_append, rangeKs_map, List.map_map]
  have e : codeAt ps sg (1 + (wide.toNat : Int)) = sg := if_neg fun h => by have := (hp _ h).2; omega
  rw [List.map_cons, e]
  rfl
theorem any_mem (ps : List Int) (k : Int) : (ps.any fun x => x == k) = decide (k ∈ ps) := by
  rw [Bool.eq_iff_iff, List.any_eq_true, decide_eq_true_eq]
  constructor
  · rintro ⟨x, hx, e⟩
    have : x = k := by simpa using e
    exact this ▸ hx
  · intro h; exact ⟨k, h, by simp⟩
theorem code_eq (ps : List Int) {sg : Nat} (h5 : 97 ≤ sg ∧ sg ≤ 122) (a b : Int) : ((⟨#[codeAt ps sg a]⟩ : Str) = ⟨#[codeAt ps sg b]⟩) ↔ (a ∈ ps ↔ b ∈ ps) := by
  have e : ((⟨#[codeAt ps sg a]⟩ : Str) = ⟨#[codeAt ps sg b]⟩) ↔ codeAt ps sg a = codeAt ps sg b := ⟨fun h => by injection h with h; simpa using h, fun h => by rw [h]⟩
  rw [e]
  unfold codeAt
  by_cases ha : a ∈ ps <;> by_cases hb : b ∈ ps <;> simp [ha, hb] <;> omega
theorem law_C {ps : List Int} {wide : Int} {sg : Nat} (h3 : 0 ≤ wide) (h5 : 97 ≤ sg ∧ sg ≤ 122) (hp : ∀ k ∈ ps, 1 ≤ k ∧ k ≤ wide) :
    List.map (fun p : Nat × Nat => if (⟨#[p.1]⟩ : Str) = ⟨#[p.2]⟩ then (0 : Int) else 2) (((⟨#[sg]⟩ : Str) ++ rowS ps wide ⟨#[sg]⟩).cps.toList.zip (rowS ps wide ⟨#[sg]⟩ ++ (⟨#[sg]⟩ : Str)).cps.toList) =
      List.map (fun k' => if ¬(ps.any fun x => x == k') = (ps.any fun x => x == k' - 1) then (2 : Int) else if ((ps.any fun x => x == k') != (ps.any fun x => x == k' - 1)) = false then 0 else k') (rangeKs 1 (wide + 2 - 1).toNat) := by
  rw [row_left hp, row_right h3 hp, List.zip_map', List.map_map, show (wide + 2 - 1).toNat = wide.toNat + 1 by omega, rangeKs_map, List.map_map]
  refine List.map_congr_left fun i _ => ?_
  simp only [Function.comp, code_eq ps h5, any_mem]
  rw [show (1 + (i : Int) - 1) = (i : Int) by omega]
  by_cases ha : (i : Int) ∈ ps <;> by_cases hb : (1 + (i : Int)) ∈ ps <;> simp [ha, hb]
/-- the ends of the odd stretches, sign by sign -/
def oe : Nat → Bool → List Nat → List Int
  | g, h, [] => if h then [(g : Int)] else []
  | g, h, c :: r => if c = 34 then oe (g + 1) (!h) r else if h then (g : Int) :: oe (g + 1) false r else oe (g + 1) false r
theorem oe_plain {c : Nat} (h : ¬ c = 34) (g : Nat) (r : List Nat) : oe g false (c :: r) = oe (g + 1) false r := by simp [oe, h]
theorem oe_two (g : Nat) (r : List Nat) : oe g false (34 :: 34 :: r) = oe (g + 2) false r := by simp [oe]
/-- one reading: up to the first odd mark, or to the end -/
theorem one_read : ∀ (l : List Nat) (g : Nat), (l.length = (pname l).length + qs (pname l) ∧ oe g false l = [] ∧ qs l = 2 * qs (pname l)) ∨
    (∃ v, l.drop ((pname l).length + qs (pname l)) = 34 :: v ∧ (pname l).length + qs (pname l) < l.length ∧ qs l = 2 * qs (pname l) + 1 + qs v ∧ oe g false l = ((g + ((pname l).length + qs (pname l)) + 1 : Nat) : Int) :: oe (g + ((pname l).length + qs (pname l)) + 1) false v)
  | [], g => .inl ⟨rfl, rfl, rfl⟩
  | [c], g => by
    by_cases h : c = 34
    · subst h
      right
      exact ⟨[], rfl, by simp [pname, qs], by simp [pname, qs], by simp [pname, qs, oe]⟩
    · left
      simp [pname, qs, h, oe]
  | c :: d :: r, g => by
    by_cases h : c = 34
    · by_cases h' : d = 34
      · subst h h'
        have e : pname (34 :: 34 :: r) = 34 :: pname r := by simp [pname]
        have e2 : ∀ l, qs (34 :: l) = qs l + 1 := fun l => by simp [qs]
        rw [e, e2, e2, e2, oe_two]; simp only [List.length_cons]
        rcases one_read r (g + 2) with ⟨h1, h2, h3⟩ | ⟨v, h1, h2, h3, h4⟩
        · left
          exact ⟨by omega, h2, by omega⟩
        · right
          refine ⟨v, ?_, by omega, by omega, ?_⟩
          · rw [show (pname r).length + 1 + (qs (pname r) + 1) = (pname r).length + qs (pname r) + 1 + 1 by omega]
            simpa using h1
          · rw [h4, show g + ((pname r).length + 1 + (qs (pname r) + 1)) = g + 2 + ((pname r).length + qs (pname r)) by omega]
      · subst h
        have e : pname (34 :: d :: r) = [] := by simp [pname, h']
        right
        rw [e]
        have e2 : ∀ l, qs (34 :: l) = qs l + 1 := fun l => by simp [qs]
        refine ⟨d :: r, rfl, by simp [qs], ?_, ?_⟩
        · rw [e2]; simp [qs]; omega
        · simp [qs, oe, h']
    · have e : pname (c :: d :: r) = c :: pname (d :: r) := by simp [pname, h]
      have e2 : ∀ l, qs (c :: l) = qs l := fun l => by simp [qs, h]
      rw [e, e2, e2, oe_plain h]; simp only [List.length_cons]
      rcases one_read (d :: r) (g + 1) with ⟨h1, h2, h3⟩ | ⟨v, h1, h2, h3, h4⟩
      · left
        simp only [List.length_cons] at h1
        exact ⟨by omega, h2, by omega⟩
      · right
        simp only [List.length_cons] at h2
        refine ⟨v, ?_, by omega, by omega, ?_⟩
        · rw [show (pname (d :: r)).length + 1 + qs (pname (d :: r)) = (pname (d :: r)).length + qs (pname (d :: r)) + 1 by omega]
          simpa using h1
        · rw [h4, show g + ((pname (d :: r)).length + 1 + qs (pname (d :: r))) = g + 1 + ((pname (d :: r)).length + qs (pname (d :: r))) by omega]
theorem rd_is : ∀ (f g : Nat) (l : List Nat), l.length < f → (rd f g l).1 = oe g false l ∧ 2 * (rd f g l).2 + (oe g false l).length = qs l
  | 0, _, _, h => by omega
  | f + 1, g, l, h => by
    by_cases hl : l = []
    · subst hl
      simp [rd, oe, qs]
    · rw [rd_unfold _ _ _ hl]
      rcases one_read l g with ⟨h1, h2, h3⟩ | ⟨v, h1, h2, h3, h4⟩
      · rw [if_pos (by omega), h2]
        refine ⟨rfl, ?_⟩
        simp only [List.length_nil]; omega
      · rw [if_neg (by omega)]
        have hv : l.drop ((pname l).length + qs (pname l) + 1) = v := by
          rw [← List.drop_drop, h1]; rfl
        have hlen : v.length < f := by
          have := congrArg List.length h1
          rw [List.length_drop, List.length_cons] at this
          omega
        rw [hv, h4]
        obtain ⟨i1, i2⟩ := rd_is f (g + ((pname l).length + qs (pname l)) + 1) v hlen
        refine ⟨by rw [i1], ?_⟩
        simp only [List.length_cons]; omega
theorem ends_fold (ps : List Int) (sg : Nat) (h34 : ¬ sg = 34) : ∀ (n g : Nat) (h : Bool) (acc : List Int), ((g + n + 1 : Nat) : Int) ∉ ps →
    ((rangeKs ((g : Int) + 1) (n + 1)).foldl (stepE ps) (h, acc)).2 = acc ++ oe g h ((rangeKs ((g : Int) + 1) n).map (codeAt ps sg))
  | 0, g, h, acc, hn => by
    rw [kll_cons]
    have e0 : ∀ a, rangeKs a 0 = [] := fun _ => rfl
    have hn' : ¬ ((g : Int) + 1) ∈ ps := by
      rw [show ((g : Int) + 1) = ((g + 0 + 1 : Nat) : Int) by omega]; exact hn
    rw [e0, e0, List.foldl_cons, List.foldl_nil, List.map_nil]
    unfold stepE
    rw [if_neg hn']
    cases h
    · simp [oe]
    · simp [oe]
  | n + 1, g, h, acc, hn => by
    rw [kll_cons, List.foldl_cons, kll_cons ((g : Int) + 1) n, List.map_cons]
    have e : ((g : Int) + 1) = ((g + 1 : Nat) : Int) := by omega
    have ih := fun h acc => ends_fold ps sg h34 n (g + 1) h acc (by rw [show g + 1 + n + 1 = g + (n + 1) + 1 by omega]; exact hn)
    rw [show ((g : Int) + 1 + 1) = ((g + 1 : Nat) : Int) + 1 by omega]
    by_cases hk : ((g : Int) + 1) ∈ ps
    · have s1 : stepE ps (h, acc) ((g : Int) + 1) = (!h, acc) := by unfold stepE; rw [if_pos hk]
      rw [s1, ih]
      have c1 : codeAt ps sg ((g : Int) + 1) = 34 := if_pos hk
      rw [c1]
      simp [oe]
    · have c1 : codeAt ps sg ((g : Int) + 1) = sg := if_neg hk
      rw [c1]
      cases h
      · have s1 : stepE ps (false, acc) ((g : Int) + 1) = (false, acc) := by unfold stepE; rw [if_neg hk]; rfl
        rw [s1, ih]
        simp [oe, h34]
      · have s1 : stepE ps (true, acc) ((g : Int) + 1) = (false, acc ++ [(g : Int)]) := by
          unfold stepE; rw [if_neg hk]
          show (false, acc ++ [(g : Int) + 1 - 1]) = _
          rw [show (g : Int) + 1 - 1 = g by omega]
        rw [s1, ih]
        simp [oe, h34]
theorem qs_row (mask wide : Int) {sg : Nat} (h34 : ¬ sg = 34) : qs ((rangeKs 1 wide.toNat).map (codeAt (placesL mask wide) sg)) = (placesL mask wide).length := by
  unfold qs
  rw [List.filter_map, List.length_map]
  conv => rhs; rw [placesL_eq]
  congr 1
  refine List.filter_congr fun k hk => ?_
  simp only [Function.comp, codeAt]
  have hk' := mem_rangeKs hk
  by_cases hb : bitAt mask k = true
  · have : k ∈ placesL mask wide := places_mem.mpr ⟨⟨hk'.1, by omega⟩, hb⟩
    simp [this, hb]
  · have : ¬ k ∈ placesL mask wide := fun h => hb (places_mem.mp h).2
    simp [this, hb, h34]
theorem law_D {mask wide : Int} {sg : Nat} (h3 : 0 ≤ wide) (h5 : 97 ≤ sg ∧ sg ≤ 122) :
    (decide ((full (rowS (placesL mask wide) wide ⟨#[sg]⟩)).1 = (endsSt (placesL mask wide) (rangeKs 1 (wide + 2 - 1).toNat)).2) &&
      (full (rowS (placesL mask wide) wide ⟨#[sg]⟩)).2 == (((placesL mask wide).length : Int) - ((endsSt (placesL mask wide) (rangeKs 1 (wide + 2 - 1).toNat)).2.length : Int)).fdiv 2) = true := by
  have h34 : ¬ sg = 34 := by omega
  have hrow : (rowS (placesL mask wide) wide ⟨#[sg]⟩).cps.toList = (rangeKs 1 wide.toNat).map (codeAt (placesL mask wide) sg) := rowS_cps _ _ _
  have hends : (endsSt (placesL mask wide) (rangeKs 1 (wide + 2 - 1).toNat)).2 = oe 0 false ((rangeKs 1 wide.toNat).map (codeAt (placesL mask wide) sg)) := by
    have := ends_fold (placesL mask wide) sg h34 wide.toNat 0 false [] (fun h => by have := (places_mem.mp h).1.2; omega)
    rw [show (wide + 2 - 1).toNat = wide.toNat + 1 by omega]
    simpa [endsSt] using this
  obtain ⟨r1, r2⟩ := rd_is ((rowS (placesL mask wide) wide ⟨#[sg]⟩).length + 1) 0 (rowS (placesL mask wide) wide ⟨#[sg]⟩).cps.toList (by rw [cps_len]; omega)
  have e1 : (full (rowS (placesL mask wide) wide ⟨#[sg]⟩)).1 = oe 0 false ((rangeKs 1 wide.toNat).map (codeAt (placesL mask wide) sg)) := by rw [← hrow]; exact r1
  have e2 : 2 * (full (rowS (placesL mask wide) wide ⟨#[sg]⟩)).2 + ((oe 0 false ((rangeKs 1 wide.toNat).map (codeAt (placesL mask wide) sg))).length : Int) = ((placesL mask wide).length : Int) := by
    rw [← qs_row mask wide h34, ← hrow]; exact r2
  rw [hends, e1, ← e2, decide_eq_true rfl, Bool.true_and, Int.fdiv_eq_ediv_of_nonneg _ (by decide)]
  simp only [beq_iff_eq]
  omega
end
theorem calm_W6 : True := by
  w_top off
  first | walk1 | trivial
section
section
theorem hands_con (w : World) (mask wide : Int) (sg : Nat) (t1 t2 t3 : Tok) (h0 : 0 ≤ mask) (h1 : mask < 1024) (h2 : mask < 2 ^ wide.toNat) (h3 : 3 ≤ wide) (h4 : wide ≤ 10) (h5 : 97 ≤ sg ∧ sg ≤ 122) :
    Con w 109 [.int mask t1, .int wide t2, .str ⟨#[sg]⟩ t3] 6 (fun _ => True) (RBool true) := by
  unfold Con
  k_fill
  intro mean mg mb dp un gd cn cs a ccd cl outer A₀ base h₀ L m s Q E B F X T hk hP hdp hun hret
  (refine wpAny_call ?_; k_dflt (first
    | (refine' enter_def ?mek1 ?mek2 ?mek3 ?mek5 ?mekA ?mekF ?mekK ?mek6 ?mek7 ?mek8 ?mek9 ?mekB ?_ ?mec2 ?mec3 ?mec4 ?mec5; (case mekA => exact rfl); (case mekF => exact rfl); (case mekK => assumption); (case mek1 => k_asm); (case mek2 => k_asm); (case mek3 => k_asm); (case mek5 => k_asm); (case mek6 => k_is); (case mek7 => k_is); (case mek8 => ktr_room); (case mek9 => exact BindsTo.of_eq rfl); (case mec5 => decide); (case mekB => exact locs rfl); (case mec2 => exact rfl); (case mec3 => exact rfl); (case mec4 => exact rfl); k_whole; intro g' L' h' hg' F' N' B' X' T'; (try dsimp only); (try k_fold))
    | (refine' enter_defC ?mek1 ?mek2 ?mek3 ?mek5 ?mekA ?mekF ?mekK ?mek6 ?mek7 ?mek8 ?mek9 ?mekB ?mekD ?_ ?mec2 ?mec3 ?mec4; (case mekA => exact rfl); (case mekF => exact rfl); (case mekK => assumption); (case mek1 => k_asm); (case mek2 => k_asm); (case mek3 => k_asm); (case mek5 => k_asm); (case mek6 => k_is); (case mek7 => k_is); (case mek8 => ktr_room); (case mek9 => exact BindsTo.of_eq rfl); (case mekB => exact rfl); (case mekD => decide +kernel); (case mec2 => exact rfl); (case mec3 => exact rfl); (case mec4 => exact rfl); k_whole; intro g' L' h' tk' cells' hg' F' N' Y' B' X' T'; k_cells Y'; (try simp only [List.cons_append, List.nil_append] at N'); (try dsimp only); (try k_fold))))
  rename s.heap = _ => hg
  have h11 : wide ≤ 11 := by omega
  repeat' (first | ((with_reducible show wpAny _ _ (call _ _) _ _ _); first | ((with_reducible show wpAny _ _ (call (Value.ref 80) _) _ _ _); refine use_ints (places_con _ _ _ _ _ (by omega) (by omega) (by omega) (by omega)) (by k_asm) (by k_asm) (by k_asm) (by k_asm) (by k_asm) rfl trivial (by ktr_room) (by ktr_units) ?_; intro l9 vs9 n9 h9 tk9 hI9 F9 N9 hne9; (have hlen9 : vs9.length ≤ 12 := by (rw [IntsAre.length hI9]; exact places_len _ _ (by omega))); (try dsimp only); (try k_fold)) | ((with_reducible show wpAny _ _ (call (Value.ref 85) _) _ _ _); refine row_use (by exact News.isList (by k_asm) (by kcf_m)) (by assumption) (by first | exact places_len _ _ (by omega) | omega) (by omega) (by omega) (by first | exact one_len _ | assumption) (by k_asm) (by k_asm) (by k_asm) (by k_asm) (by k_asm) rfl (by ktr_room) (by ktr_units) ?_; intro t9 h9 tk9 F9 N9; (try dsimp only); (try k_fold)) | ((with_reducible show wpAny _ _ (call (Value.ref 36) _) _ _ _); refine use_str (flags_con _ _ _ (by omega) (by omega)) (by k_asm) (by k_asm) (by k_asm) (by k_asm) (by k_asm) rfl trivial (by ktr_room) (by ktr_units) ?_; intro t9 h9 tk9 F9 N9; (try dsimp only); (try k_fold)) | ((with_reducible show wpAny _ _ (call (Value.ref 90) _) _ _ _); refine use_str (words_con _ _ _ _ 0 (by assumption) (places_len _ _ (by omega)) (places_in _ _ (by omega))) (by k_asm) (by k_asm) (by k_asm) (by k_asm) (by k_asm) rfl (by exact News.isList (by k_asm) (by k_mem)) (by ktr_room) (by ktr_units) ?_; intro t9 h9 tk9 F9 N9; (try dsimp only); (try k_fold)) | ((with_reducible show wpAny _ _ (call (Value.ref 28) _) _ _ _); refine use_int (ish_con _ _ _ _ (by omega) (by omega)) (by k_asm) (by k_asm) (by k_asm) (by k_asm) (by k_asm) rfl trivial (by ktr_room) (by ktr_units) ?_; intro t9 h9 tk9 F9 N9; (try dsimp only); (try k_fold)) | ((with_reducible show wpAny _ _ (call (Value.ref 21) _) _ _ _); refine use_int (iand_con _ _ _ _ _ (by omega) (by omega) (by omega) (by omega)) (by k_asm) (by k_asm) (by k_asm) (by k_asm) (by k_asm) rfl trivial (by ktr_room) (by ktr_units) ?_; intro t9 h9 tk9 F9 N9; (try dsimp only); (try k_fold)) | ((with_reducible show wpAny _ _ (call (Value.ref 75) _) _ _ _); refine use_int (sub_con _ _ _ _ _ (by rfl) (by rfl) (one_apart (by assumption) (by assumption))) (by k_asm) (by k_asm) (by k_asm) (by k_asm) (by k_asm) rfl trivial (by ktr_room) (by ktr_units) ?_; intro t9 h9 tk9 F9 N9; (try dsimp only); (try k_fold)) | ((with_reducible show wpAny _ _ (call (Value.ref 97) _) _ _ _); refine use_ints (ends_con _ _ _ _ _ _ (by assumption) (places_len _ _ (by omega)) (by omega) (by omega)) (by k_asm) (by k_asm) (by k_asm) (by k_asm) (by k_asm) rfl (by exact News.isList (by k_asm) (by k_mem)) (by ktr_room) (by ktr_units) ?_; intro l9 vs9 n9 h9 tk9 hI9 F9 N9 hne9; (have hlen9 : vs9.length ≤ 12 := by (rw [IntsAre.length hI9]; exact ends_len _ (by omega))); (try dsimp only); (try k_fold)) | ((with_reducible show wpAny _ _ (call (Value.ref 104) _) _ _ _); refine use_pair (read_con _ _ _ (by rw [rowS_len]; omega)) (by k_asm) (by k_asm) (by k_asm) (by k_asm) (by k_asm) rfl trivial (by ktr_room) (by ktr_units) ?_; intro q9 l9 vs9 t9 n9 n99 h9 tk9 hI9 F9 N9 hne9 hnq9 hlq9; (try dsimp only); (try k_fold)) | ((with_reducible show wpAny _ _ (call (Value.type "zip") _) _ _ _); refine zs_src (fun c d => if (⟨#[c]⟩ : PySem.Str) = ⟨#[d]⟩ then 0 else 2) (by with_unfolding_all rfl) (by k_asm) (by k_asm) (zlen _ _) (zsize _ _ (by assumption)) ?_ ?_; (focus (intro i9 c9 d9 uc9 ud9 own9 C9 oC9 m9 h9 tk9 E9 hc9 hd9 hC9 ha9 hb9 F9 N9; (have hcc9 := zl_code (by assumption) hc9); (have hdd9 := zr_code (by assumption) hd9); clear hc9 hd9)); (all_goals (try k_fold))) | ((with_reducible show wpAny _ _ (call (Value.builtin "sum") [Value.ref _]) _ _ _); refine sumK (by with_unfolding_all rfl) (by k_asm) (by k_asm) (isList_lst (by k_asm) (by k_mem)) (by assumption) ?_; intro h' tk' t' F' N') | ((with_reducible show wpAny _ _ (call (Value.builtin "len") [Value.ref _]) _ _ _); refine my_len (by k_asm) (by k_mem) (by assumption) (by assumption) ?_; intro _ _)) | ((with_reducible show wpAny _ _ (exec (PySem.Stmt.Assign [PySem.Expr.Name _ _] (PySem.Expr.ListComp _ [⟨PySem.Expr.Tuple [PySem.Expr.Name _ _, PySem.Expr.Name _ _] _ _, _, _, _⟩] _ _) _) _) _ _ _); refine zs_comp (F₀ := by k_asm) (by rfl) (by with_unfolding_all rfl) (by with_unfolding_all rfl) (by decide) (by rfl) (by decide) (by rfl) (by rfl) (by decide) (by rfl) (by rfl) ?_) | ((with_reducible show wpAny _ _ (exec (PySem.Stmt.Assign [_] (PySem.Expr.ListComp _ _ _ _) _) _) _ _ _); lct_look; refine LCt.Assign_ListComp_T (F₀ := by k_asm) (by rfl) (by with_unfolding_all rfl) (by with_unfolding_all rfl) (by decide) (by rfl) (by decide) (by rfl) (by rfl) (by rfl) ?_) | ((with_reducible show LCt.CompSrcT _ _ _ _ _ _ _ _ _ _ _ _ _ _ _); refine LCt.CompSrcT.ledger (by rfl) (by k_asm) (by k_asm) (by k_mem) (by (rw [PySem.sizeLine_eq, List.size_toArray]; omega)) ?_; intro g'; (refine' rest_TI _ _ (by assumption) (fun k' t' I' oI' C' oC' D' m' ys' h' tk' E' hk' hC' hx' F' N' off' ne' hMark' => ?_) ?_); (all_goals (try (simp only [LCg.Off3, and_true] at off'))); kcf_last) | ((with_reducible show LCg.CompEnd _ _ _ _ _ _ _ _ _ _ _ _ _ _); first | refine tyes (by assumption) (by assumption) (by kcf_all) (by first | assumption | (simp only [LCg.Off3, and_true]; done) | (simp only [LCg.Off3, and_true]; assumption)) (by first | lcg_src | assumption) (by assumption) (by with_unfolding_all rfl) | refine tno (by assumption) (by assumption) (by kcf_all) (by first | assumption | (simp only [LCg.Off3, and_true]; done) | (simp only [LCg.Off3, and_true]; assumption)) (by first | lcg_src | assumption) (by assumption)) | ((with_reducible show ZEnd _ _ _ _ _ _ _ _); refine zend (by assumption) (by assumption) (by rfl)) | ((with_reducible show wpAny _ _ (binaryOp .Pow (Value.int _ _) (Value.int _ _)) _ _ _); (have hb9 := met_in (by assumption) (by assumption)); refine pow_int_small (by omega) (by omega) (by decide) ?_) | ((with_reducible show wpAny _ _ (compareOp .Eq (Value.ref _) (Value.ref _)) _ _ _); refine eq_pairs (News.get (by k_asm) (by k_mem)) (News.get (by k_asm) (by k_mem)) (News.isList (by k_asm) (by k_mem)) (News.isList (by k_asm) (by k_mem)) (by assumption) (by assumption) (by units_room) ?_) | ((with_reducible show wpAny _ _ (binaryOp .Add (Value.str _ _) (Value.str _ _)) _ _ _); refine PyProof.Rows.add_str ?_ (by first | exact addl _ _ (by assumption) | exact addr _ _ (by assumption)); intro _ _) | (k_unfold; (try dsimp only)) | walk1 | (dsimp only; walk1) | (leave1; walk_say "STEP leave1"; try dsimp only) | fail "no step")
  · rename (_ != _) = true => hA
    rw [law_A h0 h2 h4] at hA
    simp at hA
  · rename Builtin.bitAnd _ _ ≠ _ => hB
    exact absurd (law_B h0 h2 h4) hB
  · with_unfolding_all refine fin_val (Q := Q) hg (by k_asm) (rbool_of ?_) hret rfl
    exact law_D (by omega) h5
  · rename ¬ _ = _ => hC
    exact absurd (law_C (by omega) h5 (fun k hk => (places_mem.mp hk).1)) hC
end
end
theorem calm_GR : True := by
  w_top off
  first | walk1 | trivial
section
/-- a turn's end where the ledger may have grown -/
def GEnd {σ : Type} (h₀ : Heap) (L : Addr) (s : Shared) (Led : σ → List (Addr × Obj)) (ps : σ → List (Str × Value)) (Facts : σ → Prop) (stored : List Str) (m₀ : Str → Option Value) (x : Str) (P : σ → List (Addr × Obj) → Prop) (adr : List Addr) (own big : List (Addr × Obj)) (s₂ : Shared) : Prop :=
  ∃ (c' : σ) (h' : Heap) (tk' : Nat) (m' : Str → Option Value) (news' own' : List (Addr × Obj)), s₂ = { s with heap := h', toks := tk' } ∧ Fr h₀ L h' m' ∧ News h₀ L h' news' ∧ (∀ p ∈ Led c', p ∈ news') ∧ (∀ p ∈ big, p ∈ news') ∧ (∀ p ∈ own', p ∈ news') ∧
    (∀ p ∈ own', p ∈ own ∨ ((∀ q ∈ big, @Ne Nat q.1 p.1) ∧ p.1 ∉ adr)) ∧ (Led c').map (·.1) = adr ∧ Facts c' ∧ (∀ p ∈ ps c', m' p.1 = some p.2) ∧ (∀ z, z ≠ x → (∀ p ∈ ps c', z ≠ p.1) → stored.contains z = false → m' z = m₀ z) ∧ P c' own'
def GPost {σ : Type} (h₀ : Heap) (L : Addr) (s : Shared) (Led : σ → List (Addr × Obj)) (ps : σ → List (Str × Value)) (Facts : σ → Prop) (stored : List Str) (m₀ : Str → Option Value) (x : Str) (P : σ → List (Addr × Obj) → Prop) (adr : List Addr) (own big : List (Addr × Obj)) (Q : Flow → Shared → Prop) (f : Flow) (s₂ : Shared) : Prop :=
  match f with
  | .ret v => Q (.ret v) s₂
  | .brk => Q .next s₂
  | _ => GEnd h₀ L s Led ps Facts stored m₀ x P adr own big s₂
structure GInv {σ : Type} (h₀ : Heap) (L : Addr) (s : Shared) (Led : σ → List (Addr × Obj)) (ps : σ → List (Str × Value)) (Facts : σ → Prop) (stored : List Str) (m₀ : Str → Option Value) (x : Str) (P : List Int → σ → List (Addr × Obj) → Prop) (adr : List Addr) (I : Addr) (a₀ : Int) (n : Nat) (h' : Heap) (m' : Str → Option Value) (c : σ) (own : List (Addr × Obj)) (i : Nat) : Prop where
  st : IsRangeIter h' I (a₀ + (i : Nat) * 1) ((n : Int) - (i : Nat)) 1
  F : Fr h₀ L h' m'
  N : News h₀ L h' (Led c ++ own)
  had : (Led c).map (·.1) = adr
  hown : ∀ p ∈ own, p.1 ≠ I ∧ p.1 ∉ adr
  hf : Facts c
  hk : ∀ p ∈ ps c, m' p.1 = some p.2
  hr : ∀ z, z ≠ x → (∀ p ∈ ps c, z ≠ p.1) → stored.contains z = false → m' z = m₀ z
  hP : P ((rangeKs a₀ n).take i) c own
  hi : i ≤ n
section
variable {prog : Program} {w : World} {A : Around} {E : Value → Shared → Prop} {s : Shared} {env : Env} {h₀ : Heap} {x : Str} {px : Pos} {body orelse : List Stmt} {Q : Flow → Shared → Prop}
theorem grow {σ : Type} {r : Addr} {a₀ b₀ : Int} {t₀ u₀ v₀ : Tok} {n : Nat} {m₀ : Str → Option Value} (Led : σ → List (Addr × Obj)) (ps : σ → List (Str × Value)) (Facts : σ → Prop) (stored : List Str) (P : List Int → σ → List (Addr × Obj) → Prop) (c₀ : σ) (own₀ : List (Addr × Obj))
    (hh : A.handled = none) (hx : env.kindOf x = some .local) (hp' : (env.scope.kind == .class || (env.scope.kind == .module && env.locals != env.globals)) = false)
    (hr : IsRange s.heap r a₀ b₀ 1 t₀ u₀ v₀) (hsmall : Builtin.Range.small a₀ b₀ 1 = true) (hn : Builtin.Range.rangeSize a₀ b₀ 1 = (n : Int)) (F : Fr h₀ env.locals s.heap m₀) (N : News h₀ env.locals s.heap (Led c₀ ++ own₀)) (hoff : ∀ p ∈ own₀, p.1 ∉ (Led c₀).map (·.1)) (hf : Facts c₀) (hk : ∀ p ∈ ps c₀, m₀ p.1 = some p.2) (hp : P [] c₀ own₀)
    (turn : ∀ (c : σ) (pre : List Int) (k : Int) (t : Tok) (u : Str → Option Value) (h : Heap) (tk : Nat) (own big : List (Addr × Obj)), k = a₀ + (pre.length : Int) → pre.length < n → (Led c).map (·.1) = (Led c₀).map (·.1) → OwnOff big ((Led c₀).map (·.1)) → (∀ p ∈ own, p ∈ big) → Facts c → P pre c own →
      Fr h₀ env.locals h (fun y => if y = x then some (.int k t) else kstB (fun z => if stored.contains z then u z else m₀ z) (ps c) y) → News h₀ env.locals h (Led c ++ big) →
      wpAny (model prog w) A (execs body env) (GPost h₀ env.locals { s with heap := h, toks := tk } Led ps Facts stored m₀ x (P (pre ++ [k])) ((Led c₀).map (·.1)) own big Q) E { s with heap := h, toks := tk })
    (done : ∀ (c : σ) (u : Str → Option Value) (h : Heap) (tk : Nat) (own : List (Addr × Obj)), (Led c).map (·.1) = (Led c₀).map (·.1) → OwnOff own ((Led c₀).map (·.1)) → Facts c → P (rangeKs a₀ n) c own → Fr h₀ env.locals h (fun y => if y = x then u y else kstB (fun z => if stored.contains z then u z else m₀ z) (ps c) y) → News h₀ env.locals h (Led c ++ own) →
      wpAny (model prog w) A (execs orelse env) Q E { s with heap := h, toks := tk })
    (hE : PassesOwn (model prog w) A env E) :
    ForElseAt prog w A env x px body orelse Q E (.ref r) s := by
  unfold ForElseAt
  refine wpAny_pyIter_range hr hsmall ?_
  rw [hn]
  have W := Walks.range (prog := prog) (w := w) hh s.heap.objs.size a₀ 1 n
  have hIL : s.heap.objs.size ≠ env.locals := fun q => absurd F.ns.lt (q ▸ Nat.lt_irrefl _)
  have hI0 : h₀.get? s.heap.objs.size = none := by
    cases q : h₀.get? s.heap.objs.size with
    | none => rfl
    | some o => exact absurd (Heap.lt_size (F.keep _ _ q)) (Nat.lt_irrefl _)
  have hIN : ∀ p ∈ Led c₀ ++ own₀, p.1 ≠ s.heap.objs.size := fun p hp => Nat.ne_of_lt (Heap.lt_size (N p hp).1)
  have hIadr : s.heap.objs.size ∉ (Led c₀).map (·.1) := fun q => by
    obtain ⟨p, hp, e⟩ := List.mem_map.mp q
    exact hIN p (List.mem_append_left _ hp) e
  refine codeAny_forLoop (fun k s' => ∃ h' tk m' c own i, s' = { s with heap := h', toks := tk } ∧ GInv h₀ env.locals s Led ps Facts stored m₀ x P ((Led c₀).map (·.1)) s.heap.objs.size a₀ n h' m' c own i ∧ k = n + 1 - i) ?_ (n + 1) ?_
  rotate_left
  · refine ⟨_, s.toks, m₀, c₀, own₀, 0, rfl, ⟨?_, F.push _, ?_, rfl, ?_, hf, hk, fun _ _ _ _ => rfl, ?_, Nat.zero_le _⟩, rfl⟩
    · show IsRangeIter _ _ _ _ _
      simpa using Heap.get?_push_size _ rfl
    · exact fun p hp => ⟨Heap.get?_push_of_some _ (N p hp).1, (N p hp).2⟩
    · exact fun p hp => ⟨hIN p (List.mem_append_right _ hp), hoff p hp⟩
    · rw [List.take_zero]; exact hp
  · rintro k s' ⟨h', tk, m', c, own, i, rfl, ⟨hst, F', N', had, hown, hfc, h1, h2, hP, hi⟩, rfl⟩
    have hLI : ∀ p ∈ Led c, p.1 ≠ s.heap.objs.size := fun p hp q => hIadr (had ▸ q ▸ List.mem_map_of_mem hp)
    have keepF : ∀ g : Heap, (∀ b o, b ∉ [s.heap.objs.size] → h'.get? b = some o → g.get? b = some o) → Fr h₀ env.locals g m' ∧ News h₀ env.locals g (Led c ++ own) := fun g hk => by
      refine ⟨⟨F'.ns.at' fun o e => hk _ o (by simpa using hIL.symm) e, fun b o e => hk b o ?_ (F'.keep b o e), F'.above⟩, fun p hp => ⟨hk _ _ ?_ (N' p hp).1, (N' p hp).2⟩⟩
      · intro hb
        rw [List.mem_singleton.mp hb, hI0] at e
        cases e
      · intro hb
        rcases List.mem_append.mp hp with hp | hp
        · exact hLI p hp (List.mem_singleton.mp hb)
        · exact (hown p hp).1 (List.mem_singleton.mp hb)
    by_cases hlt : i < n
    · refine W.item i _ _ _ hlt hst fun v h₁ tk₁ hv hst₁ hk₁ => ?_
      obtain ⟨t, rfl⟩ := hv
      obtain ⟨F₁, N₁⟩ := keepF h₁ hk₁
      refine wpAny_assign_Name (wpAny_storeName_local hx F₁.ns (fun h₂ hn₂ hs₂ => ?_) hp')
      have hst₂ : IsRangeIter h₂ s.heap.objs.size (a₀ + ((i + 1 : Nat) : Int) * 1) ((n : Int) - ((i + 1 : Nat) : Int)) 1 := W.frame (i + 1) _ _ hst₁ fun b hb o e => by
        rw [List.mem_singleton.mp hb] at e ⊢
        exact (hs₂.2 _ hIL).trans e
      have F₂ := F₁.set hn₂ hs₂
      have N₂ := N₁.set hs₂
      rw [show a₀ + (i : Nat) * 1 = a₀ + (i : Int) by omega] at F₂
      obtain ⟨oI, hoI⟩ : ∃ oI, h₂.get? s.heap.objs.size = some oI := ⟨_, hst₂⟩
      have hk' : (rangeKs a₀ n)[i]? = some (a₀ + (i : Int)) := by simp [rangeKs, hlt]
      have hs : (rangeKs a₀ n).take (i + 1) = (rangeKs a₀ n).take i ++ [a₀ + (i : Int)] := by simp [List.take_add_one, hk']
      have hlen : ((rangeKs a₀ n).take i).length = i := by rw [List.length_take, rangeKs_length]; omega
      refine wpAny_mono (wpAny_passesOwn hE (turn c ((rangeKs a₀ n).take i) (a₀ + (i : Int)) t m' h₂ _ own (own ++ [(s.heap.objs.size, oI)]) (by rw [hlen]) (by rw [hlen]; exact hlt) had ?_ (fun p hp => List.mem_append_left _ hp) hfc hP (kst_fr h1 h2 F₂) ?_)) (fun f s₃ h₃ => ?_) fun _ _ e => e
      · intro p hp b hb q
        rcases List.mem_append.mp hp with hp | hp
        · exact (hown p hp).2 (q.symm ▸ hb)
        · rw [List.mem_singleton.mp hp] at q
          have q' : b = s.heap.objs.size := q.symm
          rw [q'] at hb
          exact hIadr hb
      · intro p hp
        rcases List.mem_append.mp hp with hp | hp
        · exact N₂ p (List.mem_append_left _ hp)
        · rcases List.mem_append.mp hp with hp | hp
          · exact N₂ p (List.mem_append_right _ hp)
          · rw [List.mem_singleton.mp hp]
            exact ⟨hoI, hIL, hI0⟩
      · have go : GEnd h₀ env.locals { s with heap := h₂, toks := tk₁ + 1 } Led ps Facts stored m₀ x (P ((rangeKs a₀ n).take i ++ [a₀ + (i : Int)])) ((Led c₀).map (·.1)) own (own ++ [(s.heap.objs.size, oI)]) s₃ →
            ∃ k', k' < n + 1 - i ∧ ∃ h' tk m' c own i, s₃ = { s with heap := h', toks := tk } ∧ GInv h₀ env.locals s Led ps Facts stored m₀ x P ((Led c₀).map (·.1)) s.heap.objs.size a₀ n h' m' c own i ∧ k' = n + 1 - i := by
          rintro ⟨c', h₄, tk₄, m₄, n₄, own', rfl, F₄, N₄, sL, sB, sO, fr, ha, hf', hk4, hr4, hP4⟩
          refine ⟨n + 1 - (i + 1), by omega, h₄, tk₄, m₄, c', own', i + 1, rfl, ⟨?_, F₄, fun p hp => ?_, ha, fun p hp => ?_, hf', hk4, hr4, by rw [hs]; exact hP4, hlt⟩, rfl⟩
          · refine W.frame (i + 1) _ _ hst₂ fun b hb o e => ?_
            rw [List.mem_singleton.mp hb] at e ⊢
            have e' : oI = o := Option.some.inj (hoI.symm.trans e)
            exact e' ▸ (N₄ _ (sB (s.heap.objs.size, oI) (List.mem_append_right _ (.head _)))).1
          · rcases List.mem_append.mp hp with hp | hp
            · exact N₄ p (sL p hp)
            · exact N₄ p (sO p hp)
          · rcases fr p hp with q | q
            · exact hown p q
            · exact ⟨Ne.symm (q.1 (s.heap.objs.size, oI) (List.mem_append_right _ (.head _))), q.2⟩
        cases f with
        | ret v => exact h₃
        | brk => exact h₃
        | next => exact go h₃
        | cont => exact go h₃
    · have e : i = n := by omega
      subst e
      refine W.done _ _ _ hst fun h₁ tk₁ hk₁ => ?_
      obtain ⟨F₁, N₁⟩ := keepF h₁ hk₁
      have hl : (rangeKs a₀ i).take i = rangeKs a₀ i := List.take_of_length_le (Nat.le_of_eq (rangeKs_length _ _))
      rw [hl] at hP
      exact wpAny_passesOwn hE (done c m' h₁ tk₁ own had (fun p hp b hb q => (hown p hp).2 (q.symm ▸ hb)) hfc hP (kst_frOut h1 h2 F₁) N₁)
theorem gend {σ : Type} {Led : σ → List (Addr × Obj)} {ps : σ → List (Str × Value)} {Facts : σ → Prop} {stored : List Str} {m₀ : Str → Option Value} {P : σ → List (Addr × Obj) → Prop} {adr : List Addr} {own big : List (Addr × Obj)} {L : Addr} {h' : Heap} {tk : Nat} {m' : Str → Option Value} {news' : List (Addr × Obj)} (c' : σ) (own' : List (Addr × Obj))
    (F : Fr h₀ L h' m') (N : News h₀ L h' news') (sL : ∀ p ∈ Led c', p ∈ news') (sB : ∀ p ∈ big, p ∈ news') (sO : ∀ p ∈ own', p ∈ news') (fr : ∀ p ∈ own', p ∈ own ∨ ((∀ q ∈ big, @Ne Nat q.1 p.1) ∧ p.1 ∉ adr)) (ha : (Led c').map (·.1) = adr) (hf : Facts c') (hk : ∀ p ∈ ps c', m' p.1 = some p.2)
    (hr : ∀ z, z ≠ x → (∀ p ∈ ps c', z ≠ p.1) → stored.contains z = false → m' z = m₀ z) (hp : P c' own') : GEnd h₀ L s Led ps Facts stored m₀ x P adr own big { s with heap := h', toks := tk } :=
  ⟨c', h', tk, m', news', own', rfl, F, N, sL, sB, sO, fr, ha, hf, hk, hr, hp⟩
theorem allNe_mem {d : Addr} {l : List (Addr × Obj)} (h : TLg.AllNe d l) : ∀ p ∈ l, @Ne Nat p.1 d := TLg.AllNe.mem h
end
end
theorem calm_GL : True := by
  w_top off
  first | walk1 | trivial
section
/-- one row of Gaussian numbers behind another, and the rows -/
def gNext (z : Int) (last : List Int) (a : Nat) : List Int := [1] ++ (rangeKs 1 (a - 1)).map (fun b => last.getD (b - 1).toNat 0 + z ^ b.toNat * last.getD b.toNat 0) ++ [1]
def gRow (z : Int) : Nat → List Int
  | 0 => [1]
  | a + 1 => gNext z (gRow z a) (a + 1)
def gRows (z : Int) (n : Nat) : List (List Int) := (List.range (n + 1)).map (gRow z)
theorem gRow_len (z : Int) : ∀ a, (gRow z a).length = a + 1
  | 0 => rfl
  | a + 1 => by
    show (gNext z (gRow z a) (a + 1)).length = a + 1 + 1
    unfold gNext
    simp [rangeKs_length]
theorem gRows_succ (z : Int) (n : Nat) : gRows z (n + 1) = gRows z n ++ [gNext z (gRow z n) (n + 1)] := by
  unfold gRows
  rw [List.range_succ, List.map_append]; rfl
/-- lists of ints in the ledger, behind a list of references -/
inductive RowsIn (own : List (Addr × Obj)) : List Value → List (List Int) → Prop where
  | nil : RowsIn own [] []
  | cons {l : Addr} {ws : List Value} {k : Nat} {ns : List Int} {vs : List Value} {nss : List (List Int)} : (l, W.listOf ws.toArray k) ∈ own → IntsAre ws ns → RowsIn own vs nss → RowsIn own (.ref l :: vs) (ns :: nss)
theorem RowsIn.mono {own own' : List (Addr × Obj)} {vs : List Value} {nss : List (List Int)} (h : RowsIn own vs nss) (hs : ∀ p ∈ own, p ∈ own') : RowsIn own' vs nss := by
  induction h with
  | nil => exact .nil
  | cons hm hi _ ih => exact .cons (hs _ hm) hi ih
theorem RowsIn.append {own : List (Addr × Obj)} {vs ws : List Value} {nss mss : List (List Int)} (h : RowsIn own vs nss) (h' : RowsIn own ws mss) : RowsIn own (vs ++ ws) (nss ++ mss) := by
  induction h with
  | nil => exact h'
  | cons hm hi _ ih => exact .cons hm hi ih
theorem RowsIn.length {own : List (Addr × Obj)} {vs : List Value} {nss : List (List Int)} (h : RowsIn own vs nss) : vs.length = nss.length := by
  induction h with
  | nil => rfl
  | cons _ _ _ ih => rw [List.length_cons, List.length_cons, ih]
theorem RowsIn.at {own : List (Addr × Obj)} {vs : List Value} {nss : List (List Int)} (h : RowsIn own vs nss) : ∀ {i : Nat} {ns : List Int}, nss[i]? = some ns → ∃ l ws k, vs[i]? = some (.ref l) ∧ (l, W.listOf ws.toArray k) ∈ own ∧ IntsAre ws ns := by
  induction h with
  | nil => intro i ns e; cases e
  | cons hm hi _ ih =>
    intro i ns e
    cases i with
    | zero => cases e; exact ⟨_, _, _, rfl, hm, hi⟩
    | succ i => exact ih e
theorem gRows_last (z : Int) (n : Nat) : (gRows z n)[n]? = some (gRow z n) := by simp [gRows]
theorem gRows_length (z : Int) (n : Nat) : (gRows z n).length = n + 1 := by simp [gRows]
theorem zpow_ok {z n x : Int} (hz : -1000 ≤ z ∧ z ≤ 1000) (h0 : 0 ≤ n) (hn : n ≤ 6) : IntMulOk (z ^ n.toNat) x := by
  refine IntMulOk.of_left (intBits_le_iff.mpr ?_)
  rw [Int.natAbs_pow]
  have h1 : z.natAbs ^ n.toNat ≤ 1000 ^ n.toNat := Nat.pow_le_pow_left (by omega) _
  have h2 : 1000 ^ n.toNat ≤ 1000 ^ 6 := Nat.pow_le_pow_right (by decide) (by omega)
  have h3 : 1000 ^ 6 < 2 ^ 64 := by decide
  omega
/-- the answer is a list of new lists of ints -/
def RRows (nss : List (List Int)) (h : Heap) (v : Value) (h' : Heap) : Prop :=
  ∃ D vs n own, v = .ref D ∧ h'.get? D = some (W.listOf vs.toArray n) ∧ h.get? D = none ∧ RowsIn own vs nss ∧ (∀ p ∈ own, h'.get? p.1 = some p.2 ∧ h.get? p.1 = none ∧ @Ne Nat p.1 D)
section
variable {prog : Program} {w : World} {A : Around} {E : Value → Shared → Prop} {s : Shared}
theorem my_itemI {value slice : PySem.Expr} {l : Addr} {ws : List Value} {ns : List Int} {k : Int} {u : Tok} {Q : Value → Shared → Prop}
    (hl : s.heap.IsList l ws.toArray) (hi : IntsAre ws ns) (h0 : 0 ≤ k) (hk : k < ns.length) (hhi : k < 2 ^ 63) (h : ∀ t, Q (.int (ns.getD k.toNat 0) t) s)
    (hs : subscripted slice false (.ref l) (.int k u) = operate [.ref l, .int k u] (getItem (.ref l) (.int k u)) := by with_unfolding_all rfl) :
    wpAny (model prog w) A (subscriptTail value slice (.ref l) (.int k u)) Q E s := by
  have hlen := hi.length
  have hlt : k.toNat < ws.length := by omega
  obtain ⟨x, t, hv, hx⟩ := IntsAre.at hi k.toNat ws[k.toNat] (List.getElem?_eq_getElem hlt)
  refine item_litK hl h0 hhi (v := .int x t) ?_ ?_ hs
  · rw [← hv]; exact List.getElem?_eq_getElem hlt
  · have e : ns.getD k.toNat 0 = x := by rw [List.getD_eq_getElem?_getD, hx]; rfl
    rw [← e]; exact h t
theorem my_itemN {value slice : PySem.Expr} {l : Addr} {vs : List Value} {u : Tok} {v : Value} {Q : Value → Shared → Prop}
    (hl : s.heap.IsList l vs.toArray) (hx : vs[vs.length - 1]? = some v) (h : Q v s)
    (hs : subscripted slice false (.ref l) (.int (-1) u) = operate [.ref l, .int (-1) u] (getItem (.ref l) (.int (-1) u)) := by with_unfolding_all rfl) :
    wpAny (model prog w) A (subscriptTail value slice (.ref l) (.int (-1) u)) Q E s := by
  have hlt : vs.length - 1 < vs.length := (List.getElem?_eq_some_iff.mp hx).1
  refine tail_any hl.typeIs slot_list_getitem.lookup (wpAny_getItem_list_neg hl (by decide) (by rw [List.size_toArray]; omega) (by decide) ?_ h) hs
  rw [List.size_toArray, show ((-1 : Int) + (vs.length : Int)).toNat = vs.length - 1 by omega]
  simpa using hx
end
section
variable {prog : Program} {w : World} {A : Around} {E : Value → Shared → Prop} {s : Shared} {env : Env} {h₀ : Heap} {x : Str} {px : Pos} {body orelse : List Stmt} {Q : Flow → Shared → Prop}
def gLed (a1 a3 a4 : Addr) (o2 : Obj) (c : List Value × Nat × Obj × Option Value) : List (Addr × Obj) := [(a1, W.listOf c.1.toArray c.2.1), (a3, c.2.2.1), (a4, o2)]
theorem gauss_for {r : Addr} {a₀ b₀ : Int} {t₀ u₀ v₀ : Tok} {n : Nat} {m₀ : Str → Option Value} {a1 a2 a3 a4 : Addr} {tk1 : Tok} {o o2 : Obj} {old : Option Value} (z : Int)
    (hh : A.handled = none) (hx : env.kindOf x = some .local) (hp' : (env.scope.kind == .class || (env.scope.kind == .module && env.locals != env.globals)) = false)
    (hr : IsRange s.heap r a₀ b₀ 1 t₀ u₀ v₀) (hsmall : Builtin.Range.small a₀ b₀ 1 = true) (hn : Builtin.Range.rangeSize a₀ b₀ 1 = (n : Int)) (F : Fr h₀ env.locals s.heap m₀) (N : News h₀ env.locals s.heap [(a1, W.listOf #[.ref a2] 0), (a2, W.listOf #[.int 1 tk1] 0), (a3, o), (a4, o2)])
    (hd : o.data = .cell old) (hne : a2 ∉ [a1, a3, a4])
    (turn : ∀ (vs : List Value) (nn : Nat) (ol : Obj) (oldl : Option Value) (pre : List Int) (k : Int) (t : Tok) (u : Str → Option Value) (h : Heap) (tk : Nat) (own big : List (Addr × Obj)), k = a₀ + (pre.length : Int) → pre.length < n → OwnOff big [a1, a3, a4] → (∀ p ∈ own, p ∈ big) → ol.data = .cell oldl → RowsIn own vs (gRows z pre.length) →
      Fr h₀ env.locals h (fun y => if y = x then some (.int k t) else m₀ y) → News h₀ env.locals h ((a1, W.listOf vs.toArray nn) :: (a3, ol) :: (a4, o2) :: big) →
      wpAny (model prog w) A (execs body env) (GPost h₀ env.locals { s with heap := h, toks := tk } (gLed a1 a3 a4 o2) (fun _ => []) (fun c => c.2.2.1.data = .cell c.2.2.2) [] m₀ x (fun c own => RowsIn own c.1 (gRows z (pre ++ [k]).length)) [a1, a3, a4] own big Q) E { s with heap := h, toks := tk })
    (done : ∀ (vs : List Value) (nn : Nat) (ol : Obj) (oldl : Option Value) (u : Str → Option Value) (h : Heap) (tk : Nat) (own : List (Addr × Obj)), OwnOff own [a1, a3, a4] → ol.data = .cell oldl → RowsIn own vs (gRows z n) → Fr h₀ env.locals h (fun y => if y = x then u y else m₀ y) → News h₀ env.locals h ((a1, W.listOf vs.toArray nn) :: (a3, ol) :: (a4, o2) :: own) →
      wpAny (model prog w) A (execs orelse env) Q E { s with heap := h, toks := tk })
    (hE : PassesOwn (model prog w) A env E) :
    ForElseAt prog w A env x px body orelse Q E (.ref r) s := by
  refine grow (gLed a1 a3 a4 o2) (fun _ => []) (fun c => c.2.2.1.data = .cell c.2.2.2) [] (fun pre c own => RowsIn own c.1 (gRows z pre.length)) ([.ref a2], 0, o, old) [(a2, W.listOf #[.int 1 tk1] 0)] hh hx hp' hr hsmall hn F ?_ ?_ hd (fun _ h => nomatch h) ?_ ?_ ?_ hE
  · intro p hp
    refine N p ?_
    simp only [gLed, List.cons_append, List.nil_append, List.mem_cons, List.not_mem_nil, or_false] at hp ⊢
    rcases hp with q | q | q | q
    · exact .inl q
    · exact .inr (.inr (.inl q))
    · exact .inr (.inr (.inr q))
    · exact .inr (.inl q)
  · intro p hp
    rw [List.mem_singleton.mp hp]
    exact hne
  · exact .cons (List.mem_singleton.mpr rfl) (.cons 1 tk1 .nil) .nil
  · rintro ⟨vs, nn, ol, oldl⟩ pre k t u h tk own big hk hlt _ hoff hsub hf hR F' N'
    exact turn vs nn ol oldl pre k t u h tk own big hk hlt hoff hsub hf hR F' N'
  · rintro ⟨vs, nn, ol, oldl⟩ u h tk own _ hoff hf hR F' N'
    rw [rangeKs_length] at hR
    exact done vs nn ol oldl u h tk own hoff hf hR F' N'
theorem gauss_end {a1 a3 a4 : Addr} {o2 : Obj} {m₀ : Str → Option Value} {z : Int} {pre : List Int} {k : Int} {own big : List (Addr × Obj)} {L : Addr} {h' : Heap} {tk : Nat} {m' : Str → Option Value} {news' : List (Addr × Obj)} {vs : List Value} {nn kk : Nat} {ol : Obj} {v : Value} {l : Addr} {ws : List Value} {ns : List Int}
    (hR : RowsIn own vs (gRows z pre.length)) (F : Fr h₀ L h' m') (N : News h₀ L h' news') (m1 : (a1, W.listOf (vs ++ [Value.ref l]).toArray nn) ∈ news') (m3 : (a3, ol) ∈ news') (m4 : (a4, o2) ∈ news') (mb : ∀ p ∈ big, p ∈ news') (sub : ∀ p ∈ own, p ∈ big) (ml : (l, W.listOf ws.toArray kk) ∈ news')
    (hb : ∀ q ∈ big, @Ne Nat q.1 l) (ha : l ∉ [a1, a3, a4]) (hd : ol.data = .cell (some v)) (hi : IntsAre ws ns) (hns : ns = gNext z (gRow z pre.length) (pre.length + 1)) (hr : ∀ y, y ≠ x → m' y = m₀ y) :
    GEnd h₀ L s (gLed a1 a3 a4 o2) (fun _ => []) (fun c => c.2.2.1.data = .cell c.2.2.2) [] m₀ x (fun c own => RowsIn own c.1 (gRows z (pre ++ [k]).length)) [a1, a3, a4] own big { s with heap := h', toks := tk } := by
  refine gend (vs ++ [Value.ref l], nn, ol, some v) ((l, W.listOf ws.toArray kk) :: own) F N ?_ mb ?_ ?_ rfl hd (fun _ h => nomatch h) (fun y hy _ _ => hr y hy) ?_
  · intro p hp
    simp only [gLed, List.mem_cons, List.not_mem_nil, or_false] at hp
    rcases hp with q | q | q
    · rw [q]; exact m1
    · rw [q]; exact m3
    · rw [q]; exact m4
  · intro p hp
    rcases List.mem_cons.mp hp with q | q
    · rw [q]; exact ml
    · exact mb p (sub p q)
  · intro p hp
    rcases List.mem_cons.mp hp with q | q
    · rw [q]; exact .inr ⟨hb, ha⟩
    · exact .inl q
  · show RowsIn _ (vs ++ [Value.ref l]) (gRows z (pre ++ [k]).length)
    rw [snoc_len, gRows_succ, ← hns]
    exact (hR.mono fun p hp => List.mem_cons_of_mem _ hp).append (.cons (.head _) hi .nil)
end
end
theorem calm_W8 : True := by
  w_top off
  first | walk1 | trivial
section
section
theorem gauss_con (w : World) (top z : Int) (t1 t2 : Tok) (h0 : 0 ≤ top) (h1 : top ≤ 7) (hz : -1000 ≤ z ∧ z ≤ 1000) : Con w 114 [.int top t1, .int z t2] 3 (fun _ => True) (RRows (gRows z top.toNat)) := by
  unfold Con
  k_fill
  intro mean mg mb dp un gd cn cs a ccd cl outer A₀ base h₀ L m s Q E B F X T hk hP hdp hun hret
  (refine wpAny_call ?_; k_dflt (first
    | (refine' enter_def ?mek1 ?mek2 ?mek3 ?mek5 ?mekA ?mekF ?mekK ?mek6 ?mek7 ?mek8 ?mek9 ?mekB ?_ ?mec2 ?mec3 ?mec4 ?mec5; (case mekA => exact rfl); (case mekF => exact rfl); (case mekK => assumption); (case mek1 => k_asm); (case mek2 => k_asm); (case mek3 => k_asm); (case mek5 => k_asm); (case mek6 => k_is); (case mek7 => k_is); (case mek8 => ktr_room); (case mek9 => exact BindsTo.of_eq rfl); (case mec5 => decide); (case mekB => exact locs rfl); (case mec2 => exact rfl); (case mec3 => exact rfl); (case mec4 => exact rfl); k_whole; intro g' L' h' hg' F' N' B' X' T'; (try dsimp only); (try k_fold))
    | (refine' enter_defC ?mek1 ?mek2 ?mek3 ?mek5 ?mekA ?mekF ?mekK ?mek6 ?mek7 ?mek8 ?mek9 ?mekB ?mekD ?_ ?mec2 ?mec3 ?mec4; (case mekA => exact rfl); (case mekF => exact rfl); (case mekK => assumption); (case mek1 => k_asm); (case mek2 => k_asm); (case mek3 => k_asm); (case mek5 => k_asm); (case mek6 => k_is); (case mek7 => k_is); (case mek8 => ktr_room); (case mek9 => exact BindsTo.of_eq rfl); (case mekB => exact rfl); (case mekD => decide +kernel); (case mec2 => exact rfl); (case mec3 => exact rfl); (case mec4 => exact rfl); k_whole; intro g' L' h' tk' cells' hg' F' N' Y' B' X' T'; k_cells Y'; (try simp only [List.cons_append, List.nil_append] at N'); (try dsimp only); (try k_fold))))
  rename s.heap = _ => hg
  repeat' (first | ((with_reducible show wpAny _ _ (exec (PySem.Stmt.For (PySem.Expr.Name _ _) (PySem.Expr.Call _ _ _ _) _ [] _) _) _ _ _); refine For_else ?_ (by intro _; with_unfolding_all rfl)) | ((with_reducible show wpAny _ _ (binaryOp .Pow (Value.int _ _) (Value.int _ _)) _ _ _); refine pow_int_small (by omega) (by omega) (by omega) ?_) | ((with_reducible show wpAny _ _ (binaryOp .Mult (Value.int _ _) (Value.int _ _)) _ _ _); refine mul_int ?_ (zpow_ok (by assumption) (by omega) (by omega))) | ((with_reducible show wpAny _ _ (subscriptTail _ _ (Value.ref _) (Value.int (-1) _)) _ _ _); refine my_itemN (News.isList (by k_asm) (by k_mem)) (by assumption) ?_) | ((with_reducible show wpAny _ _ (subscriptTail _ _ (Value.ref _) (Value.int _ _)) _ _ _); refine my_itemI (News.isList (by k_asm) (by kcf_m)) (by assumption) (by omega) (by rw [gRow_len]; omega) (by omega) ?_; intro _) | ((with_reducible show wpAny _ _ (eval (PySem.Expr.ListComp _ [⟨_, _, [], _⟩] _ _) _) _ _ _); refine LCg.ListComp_U (F₀ := by k_asm) (by with_unfolding_all rfl) (by decide) (by rfl) (by decide) (by rfl) ?_) | ((with_reducible show LCg.CompSrc _ _ _ _ _ _ _ _ _ _ _ _ _ _); refine LCg.CompSrc.range (by rfl) (by k_asm) (by k_asm) (by assumption) (by exact small_one (by omega) (by omega) (by omega) (by omega)) (by exact rangeSize_nat _ _) (by rw [PySem.sizeLine_eq]; omega) ?_; intro g'; (refine' kcf_range _ (fun k' t' I' oI' C' oC' D' m' ys' h' tk' E' hlo' hhi' hC' hx' F' N' off' ne' hMark' => ?_) ?_); (all_goals (try (simp only [LCg.Off3, and_true] at off'))); kcf_last) | (k_unfold; (try dsimp only)) | walk1 | (dsimp only; walk1) | (leave1; walk_say "STEP leave1"; try dsimp only) | fail "no step")
  rename Fr _ _ _ _ => lF
  rename News _ _ _ _ => lN
  rename IsRange _ _ _ _ _ _ _ _ => rgX
  with_unfolding_all refine' gauss_for (n := top.toNat) z ?k1 ?k2 ?k3 rgX ?k5 ?k6 lF lN ?k7 ?k8 ?_ ?_ ?k12
  case k1 => rfl
  case k2 => rfl
  case k3 => rfl
  case k5 => exact small_one (by omega) (by omega) (by omega) (by omega)
  case k6 => rw [rangeSize_nat, show (top + 1 - 1) = top by omega]
  case k7 => assumption
  case k8 => simp only [List.mem_cons, List.not_mem_nil, or_false, not_or]; refine ⟨?_, ?_, ?_⟩ <;> k_ne
  case k12 => with_unfolding_all passes_own
  · intro vs nn ol oldl pre k t u h₂ tk₂ own big hk1 hlt hoff hsub hol hR F₂ N₂
    clear lF lN
    have hMk : KstMark := kstMark
    have htn : (top.toNat : Int) = top := Int.toNat_of_nonneg h0
    have hkn : ((k - 1).toNat : Int) = k - 1 := Int.toNat_of_nonneg (by omega)
    obtain ⟨ll, lws, lk, hv, hm, hI⟩ := hR.at (gRows_last z pre.length)
    have hvl := hR.length
    rw [gRows_length] at hvl
    have hlast : vs[vs.length - 1]? = some (.ref ll) := by rw [hvl]; exact hv
    have hmb := hsub _ hm
    repeat' (first | ((with_reducible show wpAny _ _ (exec (PySem.Stmt.For (PySem.Expr.Name _ _) (PySem.Expr.Call _ _ _ _) _ [] _) _) _ _ _); refine For_else ?_ (by intro _; with_unfolding_all rfl)) | ((with_reducible show wpAny _ _ (binaryOp .Pow (Value.int _ _) (Value.int _ _)) _ _ _); refine pow_int_small (by omega) (by omega) (by omega) ?_) | ((with_reducible show wpAny _ _ (binaryOp .Mult (Value.int _ _) (Value.int _ _)) _ _ _); refine mul_int ?_ (zpow_ok (by assumption) (by omega) (by omega))) | ((with_reducible show wpAny _ _ (subscriptTail _ _ (Value.ref _) (Value.int (-1) _)) _ _ _); refine my_itemN (News.isList (by k_asm) (by k_mem)) (by assumption) ?_) | ((with_reducible show wpAny _ _ (subscriptTail _ _ (Value.ref _) (Value.int _ _)) _ _ _); refine my_itemI (News.isList (by k_asm) (by kcf_m)) (by assumption) (by omega) (by rw [gRow_len]; omega) (by omega) ?_; intro _) | ((with_reducible show wpAny _ _ (eval (PySem.Expr.ListComp _ [⟨_, _, [], _⟩] _ _) _) _ _ _); refine LCg.ListComp_U (F₀ := by k_asm) (by with_unfolding_all rfl) (by decide) (by rfl) (by decide) (by rfl) ?_) | ((with_reducible show LCg.CompSrc _ _ _ _ _ _ _ _ _ _ _ _ _ _); refine LCg.CompSrc.range (by rfl) (by k_asm) (by k_asm) (by assumption) (by exact small_one (by omega) (by omega) (by omega) (by omega)) (by exact rangeSize_nat _ _) (by rw [PySem.sizeLine_eq]; omega) ?_; intro g'; (refine' kcf_range _ (fun k' t' I' oI' C' oC' D' m' ys' h' tk' E' hlo' hhi' hC' hx' F' N' off' ne' hMark' => ?_) ?_); (all_goals (try (simp only [LCg.Off3, and_true] at off'))); kcf_last) | (k_unfold; (try dsimp only)) | walk1 | (dsimp only; walk1) | (leave1; walk_say "STEP leave1"; try dsimp only) | fail "no step")
    dsimp only [GPost]
    rename News _ _ _ _ => nE'
    simp only [List.push_toArray] at nE'
    rename Fr _ _ _ _ => fE'
    rename IntsAre _ (_ ++ _) => iE'
    refine gauss_end hR fE' nE' (by kcf_m) (by kcf_m) (by kcf_m) ?mb hsub (.head _) ?hb ?ha (by assumption) iE' ?hns ?hr
    case mb => kcf_all
    case hb => kst_allNe
    case ha => simp only [List.mem_cons, List.not_mem_nil, or_false, not_or]; refine ⟨?_, ?_, ?_⟩ <;> k_ne
    case hns => unfold gNext; rw [show (k - 1).toNat = pre.length + 1 - 1 by omega]
    case hr => intro y hy; exact if_neg hy
  · intro vs nn ol oldl u h₂ tk₂ own hoff hol hR F₂ N₂
    clear lF lN
    repeat' (first | ((with_reducible show wpAny _ _ (exec (PySem.Stmt.For (PySem.Expr.Name _ _) (PySem.Expr.Call _ _ _ _) _ [] _) _) _ _ _); refine For_else ?_ (by intro _; with_unfolding_all rfl)) | ((with_reducible show wpAny _ _ (binaryOp .Pow (Value.int _ _) (Value.int _ _)) _ _ _); refine pow_int_small (by omega) (by omega) (by omega) ?_) | ((with_reducible show wpAny _ _ (binaryOp .Mult (Value.int _ _) (Value.int _ _)) _ _ _); refine mul_int ?_ (zpow_ok (by assumption) (by omega) (by omega))) | ((with_reducible show wpAny _ _ (subscriptTail _ _ (Value.ref _) (Value.int (-1) _)) _ _ _); refine my_itemN (News.isList (by k_asm) (by k_mem)) (by assumption) ?_) | ((with_reducible show wpAny _ _ (subscriptTail _ _ (Value.ref _) (Value.int _ _)) _ _ _); refine my_itemI (News.isList (by k_asm) (by kcf_m)) (by assumption) (by omega) (by rw [gRow_len]; omega) (by omega) ?_; intro _) | ((with_reducible show wpAny _ _ (eval (PySem.Expr.ListComp _ [⟨_, _, [], _⟩] _ _) _) _ _ _); refine LCg.ListComp_U (F₀ := by k_asm) (by with_unfolding_all rfl) (by decide) (by rfl) (by decide) (by rfl) ?_) | ((with_reducible show LCg.CompSrc _ _ _ _ _ _ _ _ _ _ _ _ _ _); refine LCg.CompSrc.range (by rfl) (by k_asm) (by k_asm) (by assumption) (by exact small_one (by omega) (by omega) (by omega) (by omega)) (by exact rangeSize_nat _ _) (by rw [PySem.sizeLine_eq]; omega) ?_; intro g'; (refine' kcf_range _ (fun k' t' I' oI' C' oC' D' m' ys' h' tk' E' hlo' hhi' hC' hx' F' N' off' ne' hMark' => ?_) ?_); (all_goals (try (simp only [LCg.Off3, and_true] at off'))); kcf_last) | (k_unfold; (try dsimp only)) | walk1 | (dsimp only; walk1) | (leave1; walk_say "STEP leave1"; try dsimp only) | fail "no step")
    rename News _ _ _ _ => nE'
    with_unfolding_all refine fin_val (Q := Q) hg (by k_asm) ?_ hret rfl
    refine ⟨_, vs, nn, own, rfl, (nE' _ (.head _)).1, (nE' _ (.head _)).2.2, hR, fun p hp => ?_⟩
    have hp' := nE' p (.tail _ (.tail _ (.tail _ hp)))
    exact ⟨hp'.1, hp'.2.2, hoff p hp _ (.head _)⟩
end
end
theorem calm_W9 : True := by
  w_top off
  first | walk1 | trivial
section
def gAt (row : List Int) (top b : Int) : Int := if b < 0 ∨ top < b then 0 else row.getD b.toNat 0
def fivesV (row : List Int) (top z less up : Int) : Int :=
  0 - z ^ (((-1 : Int) * (5 * (-1) + less)).fdiv 2).toNat * gAt row top ((top - 5 * (-1)).fdiv 2 + up) + z ^ (((0 : Int) * (5 * 0 + less)).fdiv 2).toNat * gAt row top ((top - 5 * 0).fdiv 2 + up) - z ^ (((1 : Int) * (5 * 1 + less)).fdiv 2).toNat * gAt row top ((top - 5 * 1).fdiv 2 + up)
theorem over_row (w : World) (rp : Addr) (vs : List Value) (a b : Int) (ta tb : Tok) (l : Addr) (ws : List Value) (n : Nat) (row : List Int)
    (h0 : 0 ≤ a) (h1 : a < 100) (ha : vs[a.toNat]? = some (.ref l)) (hi : IntsAre ws row) (hlen : (row.length : Int) = a + 1) :
    Con w 121 [.ref rp, .int a ta, .int b tb] 2 (fun h => h.IsList rp vs.toArray ∧ h.get? l = some (W.listOf ws.toArray n)) (RInt (if b < 0 ∨ a < b then 0 else row.getD b.toNat 0)) := by
  by_cases hc : 0 ≤ b ∧ b ≤ a
  · have hl := hi.length
    have hlt : b.toNat < ws.length := by omega
    obtain ⟨x, t, hv, hx⟩ := IntsAre.at hi b.toNat ws[b.toNat] (List.getElem?_eq_getElem hlt)
    have e : row.getD b.toNat 0 = x := by rw [List.getD_eq_getElem?_getD, hx]; rfl
    rw [e]
    exact over_con w rp vs a b ta tb l ws n x t h0 h1 ha fun _ _ => by rw [← hv]; exact List.getElem?_eq_getElem hlt
  · exact over_con w rp vs a b ta tb l ws n (row.getD b.toNat 0) 0 h0 h1 ha fun q1 q2 => absurd ⟨q1, q2⟩ hc
theorem le_six {n : Int} (h : n ≤ 6) : n ≤ 1000000 := by omega
theorem five_ok {less up : Int} (hl : less = 1 ∧ up = 0 ∨ less = -3 ∧ up = 1) :
    0 ≤ ((-1 : Int) * (5 * (-1) + less)).fdiv 2 ∧ ((-1 : Int) * (5 * (-1) + less)).fdiv 2 ≤ 6 ∧ 0 ≤ ((0 : Int) * (5 * 0 + less)).fdiv 2 ∧ ((0 : Int) * (5 * 0 + less)).fdiv 2 ≤ 6 ∧ 0 ≤ ((1 : Int) * (5 * 1 + less)).fdiv 2 ∧ ((1 : Int) * (5 * 1 + less)).fdiv 2 ≤ 6 := by
  rcases hl with ⟨rfl, rfl⟩ | ⟨rfl, rfl⟩ <;> decide
section
theorem fives_con (w : World) (rp : Addr) (vs : List Value) (top z less up : Int) (t1 t2 t3 t4 : Tok) (l : Addr) (ws : List Value) (n : Nat) (row : List Int) (hz : -1000 ≤ z ∧ z ≤ 1000)
    (h0 : 0 ≤ top) (h1 : top < 100) (ha : vs[top.toNat]? = some (.ref l)) (hi : IntsAre ws row) (hlen : (row.length : Int) = top + 1) (hl : less = 1 ∧ up = 0 ∨ less = -3 ∧ up = 1) :
    Con w 128 [.ref rp, .int top t1, .int z t2, .int less t3, .int up t4] 3 (fun h => h.IsList rp vs.toArray ∧ h.get? l = some (W.listOf ws.toArray n)) (RInt (fivesV row top z less up)) := by
  unfold Con
  k_fill
  intro mean mg mb dp un gd cn cs aa ccd cl outer A₀ base h₀ L m s Q E B F X T hk hP hdp hun hret
  (refine wpAny_call ?_; k_dflt (first
    | (refine' enter_def ?mek1 ?mek2 ?mek3 ?mek5 ?mekA ?mekF ?mekK ?mek6 ?mek7 ?mek8 ?mek9 ?mekB ?_ ?mec2 ?mec3 ?mec4 ?mec5; (case mekA => exact rfl); (case mekF => exact rfl); (case mekK => assumption); (case mek1 => k_asm); (case mek2 => k_asm); (case mek3 => k_asm); (case mek5 => k_asm); (case mek6 => k_is); (case mek7 => k_is); (case mek8 => ktr_room); (case mek9 => exact BindsTo.of_eq rfl); (case mec5 => decide); (case mekB => exact locs rfl); (case mec2 => exact rfl); (case mec3 => exact rfl); (case mec4 => exact rfl); k_whole; intro g' L' h' hg' F' N' B' X' T'; (try dsimp only); (try k_fold))
    | (refine' enter_defC ?mek1 ?mek2 ?mek3 ?mek5 ?mekA ?mekF ?mekK ?mek6 ?mek7 ?mek8 ?mek9 ?mekB ?mekD ?_ ?mec2 ?mec3 ?mec4; (case mekA => exact rfl); (case mekF => exact rfl); (case mekK => assumption); (case mek1 => k_asm); (case mek2 => k_asm); (case mek3 => k_asm); (case mek5 => k_asm); (case mek6 => k_is); (case mek7 => k_is); (case mek8 => ktr_room); (case mek9 => exact BindsTo.of_eq rfl); (case mekB => exact rfl); (case mekD => decide +kernel); (case mec2 => exact rfl); (case mec3 => exact rfl); (case mec4 => exact rfl); k_whole; intro g' L' h' tk' cells' hg' F' N' Y' B' X' T'; k_cells Y'; (try simp only [List.cons_append, List.nil_append] at N'); (try dsimp only); (try k_fold))))
  rename s.heap = _ => hg
  rw [hg] at hP
  obtain ⟨hP1, hP2⟩ := hP
  obtain ⟨e1, e2, e3, e4, e5, e6⟩ := five_ok hl
  repeat' (first | ((with_reducible show wpAny _ _ (call (Value.ref 121) _) _ _ _); refine use_int (over_row _ _ _ _ _ _ _ _ _ _ _ (by omega) (by omega) (by assumption) (by assumption) (by assumption)) (by k_asm) (by k_asm) (by k_asm) (by k_asm) (by k_asm) rfl (by exact ⟨stays_list (Fr.keep (by k_asm)) (by assumption), Fr.keep (by k_asm) _ _ (by assumption)⟩) (by ktr_room) (by ktr_units) ?_; intro t9 h9 tk9 F9 N9; (try dsimp only); (try k_fold)) | ((with_reducible show wpAny _ _ (binaryOp .Pow (Value.int _ _) (Value.int _ _)) _ _ _); refine pow_int_small (by assumption) (le_six (by assumption)) (by omega) ?_) | ((with_reducible show wpAny _ _ (binaryOp .Mult (Value.int _ _) (Value.int _ _)) _ _ _); refine mul_int ?_ (zpow_ok (by assumption) (by assumption) (by assumption))) | (k_unfold; (try dsimp only)) | walk1 | (dsimp only; walk1) | (leave1; walk_say "STEP leave1"; try dsimp only) | fail "no step")
  with_unfolding_all refine fin_val (Q := Q) hg (by k_asm) (rint_of ?_) hret rfl
  rfl
end
end
theorem calm_LL : True := by
  w_top off
  first | walk1 | trivial
section
/-- the lists that the main loop builds, over the masks taken so far -/
def foundL (w : Int) (pre : List Int) : List (List Int) := (pre.filter fun k => Builtin.bitAnd k (k * 2) = 0).map fun k => placesL k w
def movedL (w : Int) (pre : List Int) : List (List Int) := (pre.filter fun k => Builtin.bitAnd k (k * 2) = 0).map fun k => placesL (k * 2) (w + 1)
def loneL (w : Int) (sg : Nat) (pre : List Int) : List (List Int) := (pre.filter fun k => (full (rowS (placesL k w) w ⟨#[sg]⟩)).2 = 0).map fun k => placesL k w
def oneIf (c : Prop) [Decidable c] (l : List Int) : List (List Int) := if c then [l] else []
theorem snoc_filter {f : Int → Bool} {g : Int → List Int} (pre : List Int) (k : Int) : ((pre ++ [k]).filter f).map g = (pre.filter f).map g ++ oneIf (f k = true) (g k) := by
  rw [List.filter_append, List.map_append]
  unfold oneIf
  by_cases h : f k = true
  · rw [if_pos h, List.filter_cons_of_pos h]; rfl
  · rw [if_neg h, List.filter_cons_of_neg h]; rfl
theorem foundL_snoc (w : Int) (pre : List Int) (k : Int) : foundL w (pre ++ [k]) = foundL w pre ++ oneIf (Builtin.bitAnd k (k * 2) = 0) (placesL k w) := by
  unfold foundL; rw [snoc_filter]; simp only [decide_eq_true_eq]
theorem movedL_snoc (w : Int) (pre : List Int) (k : Int) : movedL w (pre ++ [k]) = movedL w pre ++ oneIf (Builtin.bitAnd k (k * 2) = 0) (placesL (k * 2) (w + 1)) := by
  unfold movedL; rw [snoc_filter]; simp only [decide_eq_true_eq]
theorem loneL_snoc (w : Int) (sg : Nat) (pre : List Int) (k : Int) : loneL w sg (pre ++ [k]) = loneL w sg pre ++ oneIf ((full (rowS (placesL k w) w ⟨#[sg]⟩)).2 = 0) (placesL k w) := by
  unfold loneL; rw [snoc_filter]; simp only [decide_eq_true_eq]
theorem foundL_len (w : Int) (pre : List Int) : (foundL w pre).length ≤ pre.length := by unfold foundL; rw [List.length_map]; exact List.length_filter_le _ _
theorem movedL_len (w : Int) (pre : List Int) : (movedL w pre).length ≤ pre.length := by unfold movedL; rw [List.length_map]; exact List.length_filter_le _ _
theorem loneL_len (w : Int) (sg : Nat) (pre : List Int) : (loneL w sg pre).length ≤ pre.length := by unfold loneL; rw [List.length_map]; exact List.length_filter_le _ _
abbrev L3 := (List Value × Nat) × (List Value × Nat) × (List Value × Nat)
def lLed (a1 a2 a3 b1 b2 : Addr) (o1 o2 : Obj) (c : L3) : List (Addr × Obj) := [(a3, W.listOf c.2.2.1.toArray c.2.2.2), (a2, W.listOf c.2.1.1.toArray c.2.1.2), (a1, W.listOf c.1.1.toArray c.1.2), (b1, o1), (b2, o2)]
def lP (w : Int) (sg : Nat) (pre : List Int) (c : L3) (own : List (Addr × Obj)) : Prop := RowsIn own c.1.1 (foundL w pre) ∧ RowsIn own c.2.1.1 (movedL w pre) ∧ RowsIn own c.2.2.1 (loneL w sg pre)
section
variable {prog : Program} {w : World} {A : Around} {E : Value → Shared → Prop} {s : Shared} {env : Env} {h₀ : Heap} {x : Str} {px : Pos} {body orelse : List Stmt} {Q : Flow → Shared → Prop}
theorem law_for {r : Addr} {b₀ : Int} {t₀ u₀ v₀ : Tok} {n : Nat} {m₀ : Str → Option Value} {a1 a2 a3 b1 b2 : Addr} {o1 o2 : Obj} (wd : Int) (sg : Nat) (stored : List Str)
    (hh : A.handled = none) (hx : env.kindOf x = some .local) (hp' : (env.scope.kind == .class || (env.scope.kind == .module && env.locals != env.globals)) = false)
    (hr : IsRange s.heap r 0 b₀ 1 t₀ u₀ v₀) (hsmall : Builtin.Range.small 0 b₀ 1 = true) (hn : Builtin.Range.rangeSize 0 b₀ 1 = (n : Int)) (F : Fr h₀ env.locals s.heap m₀) (N : News h₀ env.locals s.heap [(a3, W.listOf #[] 0), (a2, W.listOf #[] 0), (a1, W.listOf #[] 0), (b1, o1), (b2, o2)])
    (turn : ∀ (fv mv lv : List Value) (fn mn ln : Nat) (pre : List Int) (k : Int) (t : Tok) (u : Str → Option Value) (h : Heap) (tk : Nat) (own big : List (Addr × Obj)), k = (pre.length : Int) → pre.length < n → OwnOff big [a3, a2, a1, b1, b2] → (∀ p ∈ own, p ∈ big) → RowsIn own fv (foundL wd pre) → RowsIn own mv (movedL wd pre) → RowsIn own lv (loneL wd sg pre) →
      Fr h₀ env.locals h (fun y => if y = x then some (.int k t) else if stored.contains y then u y else m₀ y) → News h₀ env.locals h ((a3, W.listOf lv.toArray ln) :: (a2, W.listOf mv.toArray mn) :: (a1, W.listOf fv.toArray fn) :: (b1, o1) :: (b2, o2) :: big) →
      wpAny (model prog w) A (execs body env) (GPost h₀ env.locals { s with heap := h, toks := tk } (lLed a1 a2 a3 b1 b2 o1 o2) (fun _ => []) (fun _ => True) stored m₀ x (lP wd sg (pre ++ [k])) [a3, a2, a1, b1, b2] own big Q) E { s with heap := h, toks := tk })
    (done : ∀ (fv mv lv : List Value) (fn mn ln : Nat) (u : Str → Option Value) (h : Heap) (tk : Nat) (own : List (Addr × Obj)), OwnOff own [a3, a2, a1, b1, b2] → RowsIn own fv (foundL wd (rangeKs 0 n)) → RowsIn own mv (movedL wd (rangeKs 0 n)) → RowsIn own lv (loneL wd sg (rangeKs 0 n)) →
      Fr h₀ env.locals h (fun y => if y = x then u y else if stored.contains y then u y else m₀ y) → News h₀ env.locals h ((a3, W.listOf lv.toArray ln) :: (a2, W.listOf mv.toArray mn) :: (a1, W.listOf fv.toArray fn) :: (b1, o1) :: (b2, o2) :: own) →
      wpAny (model prog w) A (execs orelse env) Q E { s with heap := h, toks := tk })
    (hE : PassesOwn (model prog w) A env E) :
    ForElseAt prog w A env x px body orelse Q E (.ref r) s := by
  refine grow (lLed a1 a2 a3 b1 b2 o1 o2) (fun _ => []) (fun _ => True) stored (lP wd sg) (([], 0), ([], 0), ([], 0)) [] hh hx hp' hr hsmall hn F (by rw [List.append_nil]; exact N) (fun _ h => nomatch h) trivial (fun _ h => nomatch h) ⟨.nil, .nil, .nil⟩ ?_ ?_ hE
  · rintro ⟨⟨fv, fn⟩, ⟨mv, mn⟩, ⟨lv, ln⟩⟩ pre k t u h tk own big hk hlt _ hoff hsub _ ⟨h1, h2, h3⟩ F' N'
    exact turn fv mv lv fn mn ln pre k t u h tk own big (by omega) hlt hoff hsub h1 h2 h3 F' N'
  · rintro ⟨⟨fv, fn⟩, ⟨mv, mn⟩, ⟨lv, ln⟩⟩ u h tk own _ hoff _ ⟨h1, h2, h3⟩ F' N'
    exact done fv mv lv fn mn ln u h tk own hoff h1 h2 h3 F' N'
theorem law_end {a1 a2 a3 b1 b2 : Addr} {o1 o2 : Obj} {m₀ : Str → Option Value} {wd : Int} {sg : Nat} {stored : List Str} {pre : List Int} {k : Int} {own big : List (Addr × Obj)} {L : Addr} {h' : Heap} {tk : Nat} {m' : Str → Option Value} {news' : List (Addr × Obj)} {fv mv lv xf xm xl : List Value} {fn mn ln : Nat} (new : List (Addr × Obj))
    (hF : RowsIn own fv (foundL wd pre)) (hM : RowsIn own mv (movedL wd pre)) (hL : RowsIn own lv (loneL wd sg pre)) (F : Fr h₀ L h' m') (N : News h₀ L h' news')
    (m1 : (a1, W.listOf (fv ++ xf).toArray fn) ∈ news') (m2 : (a2, W.listOf (mv ++ xm).toArray mn) ∈ news') (m3 : (a3, W.listOf (lv ++ xl).toArray ln) ∈ news') (m4 : (b1, o1) ∈ news') (m5 : (b2, o2) ∈ news') (mb : ∀ p ∈ big, p ∈ news') (sub : ∀ p ∈ own, p ∈ big) (mn' : ∀ p ∈ new, p ∈ news')
    (hb : ∀ p ∈ new, (∀ q ∈ big, @Ne Nat q.1 p.1) ∧ p.1 ∉ [a3, a2, a1, b1, b2])
    (gF : RowsIn new xf (oneIf (Builtin.bitAnd k (k * 2) = 0) (placesL k wd))) (gM : RowsIn new xm (oneIf (Builtin.bitAnd k (k * 2) = 0) (placesL (k * 2) (wd + 1)))) (gL : RowsIn new xl (oneIf ((full (rowS (placesL k wd) wd ⟨#[sg]⟩)).2 = 0) (placesL k wd)))
    (hr : ∀ y, y ≠ x → stored.contains y = false → m' y = m₀ y) :
    GEnd h₀ L s (lLed a1 a2 a3 b1 b2 o1 o2) (fun _ => []) (fun _ => True) stored m₀ x (lP wd sg (pre ++ [k])) [a3, a2, a1, b1, b2] own big { s with heap := h', toks := tk } := by
  refine gend ((fv ++ xf, fn), (mv ++ xm, mn), (lv ++ xl, ln)) (new ++ own) F N ?_ mb ?_ ?_ rfl trivial (fun _ h => nomatch h) (fun y hy _ h => hr y hy h) ⟨?_, ?_, ?_⟩
  · intro p hp
    simp only [lLed, List.mem_cons, List.not_mem_nil, or_false] at hp
    rcases hp with q | q | q | q | q
    · rw [q]; exact m3
    · rw [q]; exact m2
    · rw [q]; exact m1
    · rw [q]; exact m4
    · rw [q]; exact m5
  · intro p hp
    rcases List.mem_append.mp hp with q | q
    · exact mn' p q
    · exact mb p (sub p q)
  · intro p hp
    rcases List.mem_append.mp hp with q | q
    · exact .inr (hb p q)
    · exact .inl q
  · show RowsIn _ (fv ++ xf) (foundL wd (pre ++ [k]))
    rw [foundL_snoc]
    exact (hF.mono fun p hp => List.mem_append_right _ hp).append (gF.mono fun p hp => List.mem_append_left _ hp)
  · show RowsIn _ (mv ++ xm) (movedL wd (pre ++ [k]))
    rw [movedL_snoc]
    exact (hM.mono fun p hp => List.mem_append_right _ hp).append (gM.mono fun p hp => List.mem_append_left _ hp)
  · show RowsIn _ (lv ++ xl) (loneL wd sg (pre ++ [k]))
    rw [loneL_snoc]
    exact (hL.mono fun p hp => List.mem_append_right _ hp).append (gL.mono fun p hp => List.mem_append_left _ hp)
end
end
theorem calm_ID : True := by
  w_top off
  first | walk1 | trivial
section
/-- the lists of marks, written out -/
def lone2 (w : Int) (pre : List Int) : List (List Int) := (pre.filter fun k => decide ((((placesL k w).length : Int) - ((endsSt (placesL k w) (rangeKs 1 (w + 2 - 1).toNat)).2.length : Int)).fdiv 2 = 0)).map fun k => placesL k w
theorem lone_eq {w : Int} {sg : Nat} (hw : 0 ≤ w) (h5 : 97 ≤ sg ∧ sg ≤ 122) (pre : List Int) : loneL w sg pre = lone2 w pre := by
  unfold loneL lone2
  congr 1
  refine List.filter_congr fun k _ => ?_
  have h := law_D (mask := k) (wide := w) (sg := sg) hw h5
  rw [Bool.and_eq_true] at h
  rw [eq_of_beq h.2]
def sumAt (z : Int) (l : List (List Int)) : Int := (l.map fun d => z ^ d.sum.toNat).sum
def sized (n : Nat) (l : List (List Int)) : List (List Int) := l.filter fun d => decide ((d.length : Int) = n)
theorem f3 : foundL 3 (rangeKs 0 8) = [[], [1], [2], [3], [1, 3]] := by decide +kernel
theorem f4 : foundL 4 (rangeKs 0 16) = [[], [1], [2], [3], [1, 3], [4], [1, 4], [2, 4]] := by decide +kernel
theorem f5 : foundL 5 (rangeKs 0 32) = [[], [1], [2], [3], [1, 3], [4], [1, 4], [2, 4], [5], [1, 5], [2, 5], [3, 5], [1, 3, 5]] := by decide +kernel
theorem m3 : movedL 3 (rangeKs 0 8) = [[], [2], [3], [4], [2, 4]] := by decide +kernel
theorem m4 : movedL 4 (rangeKs 0 16) = [[], [2], [3], [4], [2, 4], [5], [2, 5], [3, 5]] := by decide +kernel
theorem m5 : movedL 5 (rangeKs 0 32) = [[], [2], [3], [4], [2, 4], [5], [2, 5], [3, 5], [6], [2, 6], [3, 6], [4, 6], [2, 4, 6]] := by decide +kernel
theorem l3 : lone2 3 (rangeKs 0 8) = [[], [1], [2], [3], [1, 3]] := by decide +kernel
theorem l4 : lone2 4 (rangeKs 0 16) = [[], [1], [2], [3], [1, 3], [4], [1, 4], [2, 4]] := by decide +kernel
theorem l5 : lone2 5 (rangeKs 0 32) = [[], [1], [2], [3], [1, 3], [4], [1, 4], [2, 4], [5], [1, 5], [2, 5], [3, 5], [1, 3, 5]] := by decide +kernel
theorem gNext_eq (z : Int) (last : List Int) (a : Nat) : gNext z last a = 1 :: ((List.range (a - 1)).map (fun (b : Nat) => last.getD b 0 + z ^ (b + 1) * last.getD (b + 1) 0) ++ [1]) := by
  unfold gNext
  rw [List.append_assoc]
  show 1 :: (_ ++ [1]) = _
  congr 2
  unfold rangeKs
  rw [List.map_map]
  refine List.map_congr_left fun b _ => ?_
  show last.getD (1 + (b : Int) - 1).toNat 0 + z ^ (1 + (b : Int)).toNat * last.getD (1 + (b : Int)).toNat 0 = _
  rw [show (1 + (b : Int) - 1).toNat = b by omega, show (1 + (b : Int)).toNat = b + 1 by omega]
theorem r0 (z : Int) : gRow z 0 = [1] := by rfl
theorem r1 (z : Int) : gRow z 1 = [1, 1] := by rfl
theorem r2 (z : Int) : gRow z 2 = [1, 1 + z, 1] := by
  rw [gRow, r1, gNext_eq]; simp [List.range_succ]; grind
theorem r3 (z : Int) : gRow z 3 = [1, 1 + z + z ^ 2, 1 + z + z ^ 2, 1] := by
  rw [gRow, r2, gNext_eq]; simp [List.range_succ]; grind
theorem r4 (z : Int) : gRow z 4 = [1, 1 + z + z ^ 2 + z ^ 3, 1 + z + 2 * z ^ 2 + z ^ 3 + z ^ 4, 1 + z + z ^ 2 + z ^ 3, 1] := by
  rw [gRow, r3, gNext_eq]; simp [List.range_succ]; grind
theorem r5 (z : Int) : gRow z 5 = [1, 1 + z + z ^ 2 + z ^ 3 + z ^ 4, 1 + z + 2 * z ^ 2 + 2 * z ^ 3 + 2 * z ^ 4 + z ^ 5 + z ^ 6, 1 + z + 2 * z ^ 2 + 2 * z ^ 3 + 2 * z ^ 4 + z ^ 5 + z ^ 6, 1 + z + z ^ 2 + z ^ 3 + z ^ 4, 1] := by
  rw [gRow, r4, gNext_eq]; simp [List.range_succ]; grind
theorem r6 (z : Int) : gRow z 6 = [1, 1 + z + z ^ 2 + z ^ 3 + z ^ 4 + z ^ 5, 1 + z + 2 * z ^ 2 + 2 * z ^ 3 + 3 * z ^ 4 + 2 * z ^ 5 + 2 * z ^ 6 + z ^ 7 + z ^ 8, 1 + z + 2 * z ^ 2 + 3 * z ^ 3 + 3 * z ^ 4 + 3 * z ^ 5 + 3 * z ^ 6 + 2 * z ^ 7 + z ^ 8 + z ^ 9, 1 + z + 2 * z ^ 2 + 2 * z ^ 3 + 3 * z ^ 4 + 2 * z ^ 5 + 2 * z ^ 6 + z ^ 7 + z ^ 8, 1 + z + z ^ 2 + z ^ 3 + z ^ 4 + z ^ 5, 1] := by
  rw [gRow, r5, gNext_eq]; simp [List.range_succ]; grind
theorem r7 (z : Int) : gRow z 7 = [1, 1 + z + z ^ 2 + z ^ 3 + z ^ 4 + z ^ 5 + z ^ 6, 1 + z + 2 * z ^ 2 + 2 * z ^ 3 + 3 * z ^ 4 + 3 * z ^ 5 + 3 * z ^ 6 + 2 * z ^ 7 + 2 * z ^ 8 + z ^ 9 + z ^ 10, 1 + z + 2 * z ^ 2 + 3 * z ^ 3 + 4 * z ^ 4 + 4 * z ^ 5 + 5 * z ^ 6 + 4 * z ^ 7 + 4 * z ^ 8 + 3 * z ^ 9 + 2 * z ^ 10 + z ^ 11 + z ^ 12, 1 + z + 2 * z ^ 2 + 3 * z ^ 3 + 4 * z ^ 4 + 4 * z ^ 5 + 5 * z ^ 6 + 4 * z ^ 7 + 4 * z ^ 8 + 3 * z ^ 9 + 2 * z ^ 10 + z ^ 11 + z ^ 12, 1 + z + 2 * z ^ 2 + 2 * z ^ 3 + 3 * z ^ 4 + 3 * z ^ 5 + 3 * z ^ 6 + 2 * z ^ 7 + 2 * z ^ 8 + z ^ 9 + z ^ 10, 1 + z + z ^ 2 + z ^ 3 + z ^ 4 + z ^ 5 + z ^ 6, 1] := by
  rw [gRow, r6, gNext_eq]; simp [List.range_succ]; grind
theorem rog_a {wd z : Int} (h : 3 ≤ wd ∧ wd ≤ 5) (i : Nat) (hi : (i : Int) ≤ wd) :
    sumAt z (sized i (foundL wd (rangeKs 0 (2 ^ wd.toNat)))) = z ^ ((i : Int) * (i : Int)).toNat * (if (i : Int) < 0 ∨ wd + 1 - (i : Int) < (i : Int) then 0 else (gRow z (wd + 1 - (i : Int)).toNat).getD (i : Int).toNat 0) := by
  have h' : wd = 3 ∨ wd = 4 ∨ wd = 5 := by omega
  rcases h' with rfl | rfl | rfl
  · rw [show (2 : Nat) ^ (3 : Int).toNat = 8 by decide, f3]
    match i, hi with
    | 0, _ => simp [sumAt, sized, r4]
    | 1, _ => simp [sumAt, sized, r3]; grind
    | 2, _ => simp [sumAt, sized, r2]
    | 3, _ => simp [sumAt, sized]
    | n + 4, hi => exfalso; omega
  · rw [show (2 : Nat) ^ (4 : Int).toNat = 16 by decide, f4]
    match i, hi with
    | 0, _ => simp [sumAt, sized, r5]
    | 1, _ => simp [sumAt, sized, r4]; grind
    | 2, _ => simp [sumAt, sized, r3]; grind
    | 3, _ => simp [sumAt, sized]
    | 4, _ => simp [sumAt, sized]
    | n + 5, hi => exfalso; omega
  · rw [show (2 : Nat) ^ (5 : Int).toNat = 32 by decide, f5]
    match i, hi with
    | 0, _ => simp [sumAt, sized, r6]
    | 1, _ => simp [sumAt, sized, r5]; grind
    | 2, _ => simp [sumAt, sized, r4]; grind
    | 3, _ => simp [sumAt, sized, r3]
    | 4, _ => simp [sumAt, sized]
    | 5, _ => simp [sumAt, sized]
    | n + 6, hi => exfalso; omega
theorem fives_at {row : List Int} {top z less up v1 v0 v2 : Int} (e1 e0 e2 : Nat) (h1 : (((-1 : Int) * (5 * (-1) + less)).fdiv 2).toNat = e1) (h0 : (((0 : Int) * (5 * 0 + less)).fdiv 2).toNat = e0) (h2 : (((1 : Int) * (5 * 1 + less)).fdiv 2).toNat = e2)
    (g1 : gAt row top ((top - 5 * (-1)).fdiv 2 + up) = v1) (g0 : gAt row top ((top - 5 * 0).fdiv 2 + up) = v0) (g2 : gAt row top ((top - 5 * 1).fdiv 2 + up) = v2) : fivesV row top z less up = 0 - z ^ e1 * v1 + z ^ e0 * v0 - z ^ e2 * v2 := by
  unfold fivesV
  rw [h1, h0, h2, g1, g0, g2]
theorem gAt_in {row : List Int} {top b b' : Int} {n : Nat} {v : Int} (e : b = b') (h : ¬ (b' < 0 ∨ top < b')) (hn : b'.toNat = n) (hv : row.getD n 0 = v) : gAt row top b = v := by
  subst e; unfold gAt; rw [if_neg h, hn, hv]
theorem gAt_out {row : List Int} {top b b' : Int} (e : b = b') (h : b' < 0 ∨ top < b') : gAt row top b = 0 := by
  subst e; unfold gAt; rw [if_pos h]
theorem rog_b3 (z : Int) : sumAt z (lone2 3 (rangeKs 0 8)) = fivesV (gRow z 4) 4 z (1) 0 := by
  rw [l3, r4, fives_at (v1 := 1) (v0 := 1 + z + 2 * z ^ 2 + z ^ 3 + z ^ 4) (v2 := 0) 2 0 3 (by decide) (by decide) (by decide) (gAt_in (b' := 4) (n := 4) (by decide) (by decide) (by decide) (by rfl)) (gAt_in (b' := 2) (n := 2) (by decide) (by decide) (by decide) (by rfl)) (gAt_out (b' := -1) (by decide) (by decide))]
  simp [sumAt]
  grind
theorem rog_b4 (z : Int) : sumAt z (lone2 4 (rangeKs 0 16)) = fivesV (gRow z 5) 5 z (1) 0 := by
  rw [l4, r5, fives_at (v1 := 1) (v0 := 1 + z + 2 * z ^ 2 + 2 * z ^ 3 + 2 * z ^ 4 + z ^ 5 + z ^ 6) (v2 := 1) 2 0 3 (by decide) (by decide) (by decide) (gAt_in (b' := 5) (n := 5) (by decide) (by decide) (by decide) (by rfl)) (gAt_in (b' := 2) (n := 2) (by decide) (by decide) (by decide) (by rfl)) (gAt_in (b' := 0) (n := 0) (by decide) (by decide) (by decide) (by rfl))]
  simp [sumAt]
  grind
theorem rog_b5 (z : Int) : sumAt z (lone2 5 (rangeKs 0 32)) = fivesV (gRow z 6) 6 z (1) 0 := by
  rw [l5, r6, fives_at (v1 := 1 + z + z ^ 2 + z ^ 3 + z ^ 4 + z ^ 5) (v0 := 1 + z + 2 * z ^ 2 + 3 * z ^ 3 + 3 * z ^ 4 + 3 * z ^ 5 + 3 * z ^ 6 + 2 * z ^ 7 + z ^ 8 + z ^ 9) (v2 := 1) 2 0 3 (by decide) (by decide) (by decide) (gAt_in (b' := 5) (n := 5) (by decide) (by decide) (by decide) (by rfl)) (gAt_in (b' := 3) (n := 3) (by decide) (by decide) (by decide) (by rfl)) (gAt_in (b' := 0) (n := 0) (by decide) (by decide) (by decide) (by rfl))]
  simp [sumAt]
  grind
theorem rog_b {wd z : Int} (h : 3 ≤ wd ∧ wd ≤ 5) :
    sumAt z (lone2 wd (rangeKs 0 (2 ^ wd.toNat))) = fivesV (gRow z (wd + 1).toNat) (wd + 1) z (1) 0 := by
  have h' : wd = 3 ∨ wd = 4 ∨ wd = 5 := by omega
  rcases h' with rfl | rfl | rfl
  · exact rog_b3 z
  · exact rog_b4 z
  · exact rog_b5 z
theorem rog_c3 (z : Int) : sumAt z (movedL 3 (rangeKs 0 8)) = fivesV (gRow z 5) 5 z (-3) 1 := by
  rw [m3, r5, fives_at (v1 := 0) (v0 := 1 + z + 2 * z ^ 2 + 2 * z ^ 3 + 2 * z ^ 4 + z ^ 5 + z ^ 6) (v2 := 1 + z + z ^ 2 + z ^ 3 + z ^ 4) 4 0 1 (by decide) (by decide) (by decide) (gAt_out (b' := 6) (by decide) (by decide)) (gAt_in (b' := 3) (n := 3) (by decide) (by decide) (by decide) (by rfl)) (gAt_in (b' := 1) (n := 1) (by decide) (by decide) (by decide) (by rfl))]
  simp [sumAt]
  grind
theorem rog_c4 (z : Int) : sumAt z (movedL 4 (rangeKs 0 16)) = fivesV (gRow z 6) 6 z (-3) 1 := by
  rw [m4, r6, fives_at (v1 := 1) (v0 := 1 + z + 2 * z ^ 2 + 2 * z ^ 3 + 3 * z ^ 4 + 2 * z ^ 5 + 2 * z ^ 6 + z ^ 7 + z ^ 8) (v2 := 1 + z + z ^ 2 + z ^ 3 + z ^ 4 + z ^ 5) 4 0 1 (by decide) (by decide) (by decide) (gAt_in (b' := 6) (n := 6) (by decide) (by decide) (by decide) (by rfl)) (gAt_in (b' := 4) (n := 4) (by decide) (by decide) (by decide) (by rfl)) (gAt_in (b' := 1) (n := 1) (by decide) (by decide) (by decide) (by rfl))]
  simp [sumAt]
  grind
theorem rog_c5 (z : Int) : sumAt z (movedL 5 (rangeKs 0 32)) = fivesV (gRow z 7) 7 z (-3) 1 := by
  rw [m5, r7, fives_at (v1 := 1) (v0 := 1 + z + 2 * z ^ 2 + 3 * z ^ 3 + 4 * z ^ 4 + 4 * z ^ 5 + 5 * z ^ 6 + 4 * z ^ 7 + 4 * z ^ 8 + 3 * z ^ 9 + 2 * z ^ 10 + z ^ 11 + z ^ 12) (v2 := 1 + z + 2 * z ^ 2 + 2 * z ^ 3 + 3 * z ^ 4 + 3 * z ^ 5 + 3 * z ^ 6 + 2 * z ^ 7 + 2 * z ^ 8 + z ^ 9 + z ^ 10) 4 0 1 (by decide) (by decide) (by decide) (gAt_in (b' := 7) (n := 7) (by decide) (by decide) (by decide) (by rfl)) (gAt_in (b' := 4) (n := 4) (by decide) (by decide) (by decide) (by rfl)) (gAt_in (b' := 2) (n := 2) (by decide) (by decide) (by decide) (by rfl))]
  simp [sumAt]
  grind
theorem rog_c {wd z : Int} (h : 3 ≤ wd ∧ wd ≤ 5) :
    sumAt z (movedL wd (rangeKs 0 (2 ^ wd.toNat))) = fivesV (gRow z (wd + 2).toNat) (wd + 2) z (-3) 1 := by
  have h' : wd = 3 ∨ wd = 4 ∨ wd = 5 := by omega
  rcases h' with rfl | rfl | rfl
  · exact rog_c3 z
  · exact rog_c4 z
  · exact rog_c5 z
theorem rog_mul {wd z : Int} (h : 3 ≤ wd ∧ wd ≤ 5) (hz : -1000 ≤ z ∧ z ≤ 1000) (i : Nat) (hi : (i : Int) ≤ wd) :
    IntMulOk (z ^ ((i : Int) * (i : Int)).toNat) (if (i : Int) < 0 ∨ wd + 1 - (i : Int) < (i : Int) then 0 else (gRow z (wd + 1 - (i : Int)).toNat).getD (i : Int).toNat 0) := by
  match i, hi with
  | 0, _ => exact zpow_ok hz (by decide) (by decide)
  | 1, _ => exact zpow_ok hz (by decide) (by decide)
  | 2, _ => exact zpow_ok hz (by decide) (by decide)
  | n + 3, hi =>
    refine IntMulOk.of_right ?_
    by_cases hc : n = 0 ∧ wd = 5
    · obtain ⟨rfl, rfl⟩ := hc
      rw [if_neg (by decide), show (5 + 1 - ((0 + 3 : Nat) : Int)).toNat = 3 by decide, r3]
      show Builtin.Int.intBits 1 ≤ 64
      decide
    · rw [if_pos (by omega)]
      decide
theorem sq_le {i : Nat} (h : i ≤ 5) : 0 ≤ (i : Int) * (i : Int) ∧ (i : Int) * (i : Int) ≤ 25 := by
  have h' : i = 0 ∨ i = 1 ∨ i = 2 ∨ i = 3 ∨ i = 4 ∨ i = 5 := by omega
  rcases h' with rfl | rfl | rfl | rfl | rfl | rfl <;> decide
/-- the members of the three lists are small -/
def SmallL (l : List (List Int)) : Prop := ∀ d ∈ l, 0 ≤ d.sum ∧ d.sum ≤ 21 ∧ d.length ≤ 12
theorem small_all {l : List (List Int)} (h : (l.all fun d => decide (0 ≤ d.sum ∧ d.sum ≤ 21 ∧ d.length ≤ 12)) = true) : SmallL l := fun d hd => of_decide_eq_true (List.all_eq_true.mp h d hd)
theorem small_found {wd : Int} (h : 3 ≤ wd ∧ wd ≤ 5) : SmallL (foundL wd (rangeKs 0 (2 ^ wd.toNat))) := by
  have h' : wd = 3 ∨ wd = 4 ∨ wd = 5 := by omega
  rcases h' with rfl | rfl | rfl
  · exact f3 ▸ small_all (by decide)
  · exact f4 ▸ small_all (by decide)
  · exact f5 ▸ small_all (by decide)
theorem small_moved {wd : Int} (h : 3 ≤ wd ∧ wd ≤ 5) : SmallL (movedL wd (rangeKs 0 (2 ^ wd.toNat))) := by
  have h' : wd = 3 ∨ wd = 4 ∨ wd = 5 := by omega
  rcases h' with rfl | rfl | rfl
  · exact m3 ▸ small_all (by decide)
  · exact m4 ▸ small_all (by decide)
  · exact m5 ▸ small_all (by decide)
theorem small_lone {wd : Int} {sg : Nat} (h : 3 ≤ wd ∧ wd ≤ 5) (h5 : 97 ≤ sg ∧ sg ≤ 122) : SmallL (loneL wd sg (rangeKs 0 (2 ^ wd.toNat))) := by
  rw [lone_eq (by omega) h5]
  have h' : wd = 3 ∨ wd = 4 ∨ wd = 5 := by omega
  rcases h' with rfl | rfl | rfl
  · exact l3 ▸ small_all (by decide)
  · exact l4 ▸ small_all (by decide)
  · exact l5 ▸ small_all (by decide)
theorem sum_bits {d : List Int} {ws : List Value} (hI : IntsAre ws d) {l : List (List Int)} (h : SmallL l) (hd : d ∈ l) : ws.length ≤ 12 ∧ 0 ≤ d.sum ∧ d.sum ≤ 21 := by
  have := h d hd
  rw [hI.length]
  exact ⟨this.2.2, this.1, this.2.1⟩
theorem gRows_at (z : Int) {n i : Nat} (h : i ≤ n) : (gRows z n)[i]? = some (gRow z i) := by
  simp [gRows, Nat.lt_succ_of_le h]
end
theorem calm_LR : True := by
  w_top off
  first | walk1 | trivial
section
theorem RowsIn.is {own : List (Addr × Obj)} {vs : List Value} {nss : List (List Int)} (h : RowsIn own vs nss) {i : Nat} {v : Value} (e : vs[i]? = some v) : ∃ d, nss[i]? = some d ∧ ∃ l ws k, v = .ref l ∧ (l, W.listOf ws.toArray k) ∈ own ∧ IntsAre ws d := by
  have hi : i < nss.length := by
    have := (List.getElem?_eq_some_iff.mp e).1
    rw [h.length] at this
    exact this
  obtain ⟨l, ws, k, hv, hm, hI⟩ := h.at (List.getElem?_eq_getElem hi)
  rw [e] at hv
  exact ⟨_, List.getElem?_eq_getElem hi, l, ws, k, Option.some.inj hv, hm, hI⟩
section
variable {prog : Program} {w : World} {A : Around} {h₀ : Heap} {L : Addr} {m : Str → Option Value} {env : Env} {ct elt : Expr} {x : Str} {scope : Scope} {cl : List (Str × Addr)} {s : Shared} {S : List (Addr × Obj) → Prop} {P : Nat → Value → Prop} {Fin : List Value → List (Addr × Obj) → Prop} {news own : List (Addr × Obj)}
open LCg LCt
/-- a source of lists, with a test -/
theorem rest_TR {vs : List Value} {nss : List (List Int)} (test : List Int → Bool) (g : List Int → Int) (hR : RowsIn own vs nss)
    (turn : ∀ d l ws c I oI C oC D m₂ ys h tk (E' : Value → Shared → Prop), d ∈ nss → (l, W.listOf ws.toArray c) ∈ own → IntsAre ws d → NsObj oC m₂ → m₂ x = some (.ref l) → Fr h₀ L h m → News h₀ L h ((I, oI) :: (C, oC) :: (D, lst ys) :: news) → Off3 I C D news → ((@Ne Nat I C) ∧ (@Ne Nat I D) ∧ (@Ne Nat C D)) → KPfMark →
      wpAny (model prog w) A (isTrue ct (compEnvC scope cl C env) (eval ct (compEnvC scope cl C env))) (fun ok s' => if ok = true then
        wpAny (model prog w) A (eval elt (compEnvC scope cl C env)) (CompEnd h₀ L m { s with heap := h, toks := tk } I oI C oC D (lst ys) S (fun y news' => TYes news (test d) (g d) y news')) E' s'
        else CompEnd h₀ L m { s with heap := h, toks := tk } I oI C oC D (lst ys) S (fun y news' => TNo news (test d) y news') Value.none s') E' { s with heap := h, toks := tk })
    (fin : KPfDone (∀ ys, IntsAre ys ((nss.filter test).map g) → Fin ys news)) : CompRestT prog w A h₀ L m env ct elt x scope cl s S (fun i v => vs.toArray[i]? = some v) Fin vs.toArray.size 0 [] news :=
  rest_T (ds := nss) (fun v d => ∃ l ws k, v = .ref l ∧ (l, W.listOf ws.toArray k) ∈ own ∧ IntsAre ws d) test g (by rw [List.size_toArray]; exact hR.length.symm)
    (fun i v _ hv => hR.is (by simpa using hv)) (fun d v I oI C oC D m₂ ys h tk E' hd hr hC hx F N off ne mk => by
    obtain ⟨l, ws, k, rfl, hm, hI⟩ := hr
    exact turn d l ws k I oI C oC D m₂ ys h tk E' hd hm hI hC hx F N off ne mk) fin
/-- a source of lists, no test -/
theorem rest_UR {vs : List Value} {nss : List (List Int)} (g : List Int → Int) (hR : RowsIn own vs nss)
    (turn : ∀ d l ws c I oI C oC D m₂ ys h tk (E' : Value → Shared → Prop), d ∈ nss → (l, W.listOf ws.toArray c) ∈ own → IntsAre ws d → NsObj oC m₂ → m₂ x = some (.ref l) → Fr h₀ L h m → News h₀ L h ((I, oI) :: (C, oC) :: (D, lst ys) :: news) → Off3 I C D news → ((@Ne Nat I C) ∧ (@Ne Nat I D) ∧ (@Ne Nat C D)) → KPfMark →
      wpAny (model prog w) A (eval elt (compEnvC scope cl C env)) (CompEnd h₀ L m { s with heap := h, toks := tk } I oI C oC D (lst ys) S (fun y news' => TYes news true (g d) y news')) E' { s with heap := h, toks := tk })
    (fin : KPfDone (∀ ys, IntsAre ys (nss.map g) → Fin ys news)) : CompRest prog w A h₀ L m env elt x scope cl s S (fun i v => vs.toArray[i]? = some v) Fin vs.toArray.size 0 [] news := by
  unfold KPfDone at fin
  rw [List.size_toArray]
  have key : ∀ (j i : Nat) (ys : List Value), i + j = vs.length → IntsAre ys ((nss.take i).map g) → CompRest prog w A h₀ L m env elt x scope cl s S (fun i v => vs.toArray[i]? = some v) Fin j i ys news := by
    intro j
    induction j with
    | zero =>
      intro i ys hi hy
      rw [List.take_of_length_le (by rw [← hR.length]; omega)] at hy
      exact CompRest.zero (fin ys hy)
    | succ j ih =>
      intro i ys hi hy
      refine CompRest.succ fun v I oI C oC D m₂ h tk E' hv hC hx F N off ne => ?_
      obtain ⟨d, hd, l, ws, k, rfl, hm, hI⟩ := hR.is (i := i) (v := v) (by simpa using hv)
      refine wpAny_mono (turn d l ws k I oI C oC D m₂ ys h tk E' (List.mem_of_getElem? hd) hm hI hC hx F N off ne True.intro) (fun y s₃ hq => ?_) fun _ _ e => e
      obtain ⟨h', tk', nw, e, F', N', off', hS, hn, _, t', hy'⟩ := hq
      rw [hn] at N' off' hS
      refine ⟨h', tk', news, e, F', N', off', hS, ?_⟩
      rw [hy']
      refine ih (i + 1) _ (by omega) ?_
      rw [List.take_add_one, hd]
      simpa using IntsAre.append hy (.cons (g d) t' .nil)
  exact key vs.length 0 [] (by omega) .nil
end
/-- names the number and the size for the sums -/
def KeyZ (_ : Int) (_ : Nat) : Prop := True
section
variable {prog : Program} {w : World} {A : Around} {h₀ : Heap} {L : Addr} {m : Str → Option Value} {env : Env} {ct elt : Expr} {x : Str} {scope : Scope} {cl : List (Str × Addr)} {s : Shared} {S : List (Addr × Obj) → Prop} {P : Nat → Value → Prop} {Fin : List Value → List (Addr × Obj) → Prop} {news own : List (Addr × Obj)}
open LCg LCt
theorem rest_TZ {vs : List Value} {nss : List (List Int)} {z : Int} {n : Nat} (_ : KeyZ z n) (hR : RowsIn own vs nss) (hS : SmallL nss)
    (turn : ∀ d l ws c I oI C oC D m₂ ys h tk (E' : Value → Shared → Prop), ws.length ≤ 12 → 0 ≤ d.sum ∧ d.sum ≤ 21 → (l, W.listOf ws.toArray c) ∈ own → IntsAre ws d → NsObj oC m₂ → m₂ x = some (.ref l) → Fr h₀ L h m → News h₀ L h ((I, oI) :: (C, oC) :: (D, lst ys) :: news) → Off3 I C D news → ((@Ne Nat I C) ∧ (@Ne Nat I D) ∧ (@Ne Nat C D)) → KPfMark →
      wpAny (model prog w) A (isTrue ct (compEnvC scope cl C env) (eval ct (compEnvC scope cl C env))) (fun ok s' => if ok = true then
        wpAny (model prog w) A (eval elt (compEnvC scope cl C env)) (CompEnd h₀ L m { s with heap := h, toks := tk } I oI C oC D (lst ys) S (fun y news' => TYes news (decide ((d.length : Int) = n)) (z ^ d.sum.toNat) y news')) E' s'
        else CompEnd h₀ L m { s with heap := h, toks := tk } I oI C oC D (lst ys) S (fun y news' => TNo news (decide ((d.length : Int) = n)) y news') Value.none s') E' { s with heap := h, toks := tk })
    (fin : KPfDone (∀ ys, IntsAre ys ((sized n nss).map fun d => z ^ d.sum.toNat) → Fin ys news)) : CompRestT prog w A h₀ L m env ct elt x scope cl s S (fun i v => vs.toArray[i]? = some v) Fin vs.toArray.size 0 [] news :=
  rest_TR (fun d => decide ((d.length : Int) = n)) (fun d => z ^ d.sum.toNat) hR (fun d l ws c I oI C oC D m₂ ys h tk E' hd hm hI hC hx F N off ne mk =>
    turn d l ws c I oI C oC D m₂ ys h tk E' (sum_bits hI hS hd).1 (sum_bits hI hS hd).2 hm hI hC hx F N off ne mk) fin
theorem rest_UZ {vs : List Value} {nss : List (List Int)} {z : Int} {n : Nat} (_ : KeyZ z n) (hR : RowsIn own vs nss) (hS : SmallL nss)
    (turn : ∀ d l ws c I oI C oC D m₂ ys h tk (E' : Value → Shared → Prop), ws.length ≤ 12 → 0 ≤ d.sum ∧ d.sum ≤ 21 → (l, W.listOf ws.toArray c) ∈ own → IntsAre ws d → NsObj oC m₂ → m₂ x = some (.ref l) → Fr h₀ L h m → News h₀ L h ((I, oI) :: (C, oC) :: (D, lst ys) :: news) → Off3 I C D news → ((@Ne Nat I C) ∧ (@Ne Nat I D) ∧ (@Ne Nat C D)) → KPfMark →
      wpAny (model prog w) A (eval elt (compEnvC scope cl C env)) (CompEnd h₀ L m { s with heap := h, toks := tk } I oI C oC D (lst ys) S (fun y news' => TYes news true (z ^ d.sum.toNat) y news')) E' { s with heap := h, toks := tk })
    (fin : KPfDone (∀ ys, IntsAre ys (nss.map fun d => z ^ d.sum.toNat) → Fin ys news)) : CompRest prog w A h₀ L m env elt x scope cl s S (fun i v => vs.toArray[i]? = some v) Fin vs.toArray.size 0 [] news :=
  rest_UR (fun d => z ^ d.sum.toNat) hR (fun d l ws c I oI C oC D m₂ ys h tk E' hd hm hI hC hx F N off ne mk =>
    turn d l ws c I oI C oC D m₂ ys h tk E' (sum_bits hI hS hd).1 (sum_bits hI hS hd).2 hm hI hC hx F N off ne mk) fin
end
section
variable {w : World} {f : Addr} {vs : List Value} {d : Nat} {P : Heap → Prop} {mean : ExcName → Option Value} {mg mb : Str → Option Value} {dp un : Nat} {gd : Option (List Code)} {cn : Str} {cs : Scope} {a : Addr} {ccd : Value} {cl : List (Str × Addr)} {outer : List Env} {A₀ : Around} {base h₀ : Heap} {L : Addr} {m : Str → Option Value} {s : Shared} {Q E : Value → Shared → Prop} {news : List (Addr × Obj)}
theorem use_rows {nss : List (List Int)} (C : Con w f vs d P (RRows nss)) (B : Below A₀ base outer h₀) (F : Fr h₀ L s.heap m) (X : (hd.heap_39 w.params).In h₀) (N : News h₀ L s.heap news) (T : Top hd.view_39 (looseW hd.view_39 [Str.ofString "COMPILER_FLAG_NAMES"]) mean mg mb h₀) (hk : cs.kind = .function) (hp : P s.heap) (hdp : dp + d < recursionLimit) (hun : un + 100 * d < cLine)
    (k : ∀ D us n own h' tk', RowsIn own us nss → Fr h₀ L h' m → News h₀ L h' ((D, W.listOf us.toArray n) :: news) → News h₀ L h' own → TLg.AllNe D news → (∀ p ∈ own, TLg.AllNe p.1 news) → Q (.ref D) { s with heap := h', toks := tk' }) :
    wpAny (model PySem.Challenge.rw_wu0008_01.row.prog w) (ktrTop dp un gd cn cs L a ccd cl outer) (call (.ref f) vs) Q E s :=
  C _ _ _ _ _ _ _ _ _ _ _ _ _ _ _ _ _ _ _ _ B F X T hk hp hdp hun fun v h' tk' st ⟨D, us, n, own, e, hl, hn, hR, ho⟩ => by
    subst e
    refine k D us n own h' tk' hR (ext_fr F st) (ext_cons F (ext_news N st) hl hn) (fun p hp => ?_) (ext_ne N hn) fun p hp => ext_ne N (ho p hp).2.1
    exact (ext_cons F (fun _ hq => nomatch hq) (ho p hp).1 (ho p hp).2.1 : News h₀ L h' [(p.1, p.2)]) p (.head _)
end
/-- the end of a turn over a loop whose variable is a cell -/
def CPost (h₀ : Heap) (L : Addr) (s : Shared) (c : Addr) (stored : List Str) (m₀ : Str → Option Value) (news own : List (Addr × Obj)) (Q : Flow → Shared → Prop) (f : Flow) (s₂ : Shared) : Prop :=
  match f with
  | .ret v => Q (.ret v) s₂
  | .brk => Q .next s₂
  | _ => ∃ (h' : Heap) (tk' : Nat) (m' : Str → Option Value) (news' : List (Addr × Obj)) (o' : Obj) (v' : Option Value), s₂ = { s with heap := h', toks := tk' } ∧ Fr h₀ L h' m' ∧ News h₀ L h' news' ∧ (c, o') ∈ news' ∧ o'.data = .cell v' ∧ (∀ p ∈ news, p ∈ news') ∧ (∀ p ∈ own, p ∈ news') ∧ ∀ y, stored.contains y = false → m' y = m₀ y
section
variable {prog : Program} {w : World} {A : Around} {E : Value → Shared → Prop} {s : Shared} {env : Env} {h₀ : Heap} {x : Str} {px : Pos} {body orelse : List Stmt} {Q : Flow → Shared → Prop}
theorem cell_for {r : Addr} {b₀ : Int} {t₀ u₀ v₀ : Tok} {n : Nat} {m₀ : Str → Option Value} {c : Addr} {o₀ : Obj} {w₀ : Option Value} {news : List (Addr × Obj)} (stored : List Str)
    (hh : A.handled = none) (hkf : env.scope.kind = .function) (hx : env.kindOf x = some .cell) (hc : env.cells.lookup x = some c) (hd : o₀.data = .cell w₀)
    (hr : IsRange s.heap r 0 b₀ 1 t₀ u₀ v₀) (hsmall : Builtin.Range.small 0 b₀ 1 = true) (hn : Builtin.Range.rangeSize 0 b₀ 1 = (n : Int)) (F : Fr h₀ env.locals s.heap m₀) (N : News h₀ env.locals s.heap ((c, o₀) :: news)) (hoff : ∀ p ∈ news, p.1 ≠ c)
    (turn : ∀ (i : Nat) (t : Tok) (o : Obj) (u : Str → Option Value) (h : Heap) (tk : Nat) (p : Addr × Obj), i < n → o.data = .cell (some (.int (i : Int) t)) →
      Fr h₀ env.locals h (fun y => if stored.contains y then u y else m₀ y) → News h₀ env.locals h ((c, o) :: p :: news) →
      wpAny (model prog w) A (execs body env) (CPost h₀ env.locals { s with heap := h, toks := tk } c stored m₀ news [p] Q) E { s with heap := h, toks := tk })
    (done : ∀ (o : Obj) (u : Str → Option Value) (h : Heap) (tk : Nat), Fr h₀ env.locals h (fun y => if stored.contains y then u y else m₀ y) → News h₀ env.locals h ((c, o) :: news) →
      wpAny (model prog w) A (execs orelse env) Q E { s with heap := h, toks := tk })
    (hE : PassesOwn (model prog w) A env E) :
    ForElseAt prog w A env x px body orelse Q E (.ref r) s := by
  unfold ForElseAt
  refine wpAny_pyIter_range hr hsmall ?_
  rw [hn]
  have W := Walks.range (prog := prog) (w := w) hh s.heap.objs.size 0 1 n
  have hIL : s.heap.objs.size ≠ env.locals := fun q => absurd F.ns.lt (q ▸ Nat.lt_irrefl _)
  have hI0 : h₀.get? s.heap.objs.size = none := by
    cases q : h₀.get? s.heap.objs.size with
    | none => rfl
    | some o => exact absurd (Heap.lt_size (F.keep _ _ q)) (Nat.lt_irrefl _)
  have hIN : ∀ p ∈ (c, o₀) :: news, p.1 ≠ s.heap.objs.size := fun p hp => Nat.ne_of_lt (Heap.lt_size (N p hp).1)
  have hcI : c ≠ s.heap.objs.size := hIN _ (.head _)
  have hcL : c ≠ env.locals := (N _ (.head _)).2.1
  have hc0 : h₀.get? c = none := (N _ (.head _)).2.2
  have frm : ∀ {h : Heap} {m' : Str → Option Value}, (∀ y, stored.contains y = false → m' y = m₀ y) → Fr h₀ env.locals h m' → Fr h₀ env.locals h (fun y => if stored.contains y then m' y else m₀ y) := fun {h m'} e F' => by
    have em : (fun y => if stored.contains y = true then m' y else m₀ y) = m' := by
      funext y
      by_cases q : stored.contains y = true
      · rw [if_pos q]
      · rw [if_neg q, e y (by simpa using q)]
    rw [em]; exact F'
  refine codeAny_forLoop (fun k s' => ∃ h' tk m' o v i, s' = { s with heap := h', toks := tk } ∧ IsRangeIter h' s.heap.objs.size (0 + (i : Nat) * 1) ((n : Int) - (i : Nat)) 1 ∧ Fr h₀ env.locals h' m' ∧ News h₀ env.locals h' ((c, o) :: news) ∧ o.data = .cell v ∧ (∀ y, stored.contains y = false → m' y = m₀ y) ∧ i ≤ n ∧ k = n + 1 - i) ?_ (n + 1) ?_
  rotate_left
  · refine ⟨_, s.toks, m₀, o₀, w₀, 0, rfl, ?_, F.push _, fun p hp => ⟨Heap.get?_push_of_some _ (N p hp).1, (N p hp).2⟩, hd, fun _ _ => rfl, Nat.zero_le _, rfl⟩
    show IsRangeIter _ _ _ _ _
    simpa using Heap.get?_push_size _ rfl
  · rintro k s' ⟨h', tk, m', o, v, i, rfl, hst, F', N', hd', hm', hi, rfl⟩
    have hIN' : ∀ p ∈ (c, o) :: news, p.1 ≠ s.heap.objs.size := fun p hp => by
      rcases List.mem_cons.mp hp with rfl | hp
      · exact hcI
      · exact hIN p (.tail _ hp)
    have keepF : ∀ g : Heap, (∀ b o, b ∉ [s.heap.objs.size] → h'.get? b = some o → g.get? b = some o) → Fr h₀ env.locals g m' ∧ News h₀ env.locals g ((c, o) :: news) := fun g hk => by
      refine ⟨⟨F'.ns.at' fun o e => hk _ o (by simpa using hIL.symm) e, fun b o e => hk b o ?_ (F'.keep b o e), F'.above⟩, fun p hp => ⟨hk _ _ ?_ (N' p hp).1, (N' p hp).2⟩⟩
      · intro hb
        rw [List.mem_singleton.mp hb, hI0] at e
        cases e
      · exact fun hb => hIN' p hp (List.mem_singleton.mp hb)
    by_cases hlt : i < n
    · refine W.item i _ _ _ hlt hst fun v h₁ tk₁ hv hst₁ hk₁ => ?_
      obtain ⟨t, rfl⟩ := hv
      obtain ⟨F₁, N₁⟩ := keepF h₁ hk₁
      refine wpAny_assign_Name (wpAny_storeName_cell hkf hx hc ⟨o, (N₁ _ (.head _)).1, hd'⟩ fun h₂ hv₂ hs₂ => ?_)
      obtain ⟨o₂, ho₂, hd₂⟩ := hv₂
      have hst₂ : IsRangeIter h₂ s.heap.objs.size (0 + ((i + 1 : Nat) : Int) * 1) ((n : Int) - ((i + 1 : Nat) : Int)) 1 := W.frame (i + 1) _ _ hst₁ fun b hb o e => by
        rw [List.mem_singleton.mp hb] at e ⊢
        exact (hs₂.2 _ (Ne.symm hcI)).trans e
      have F₂ : Fr h₀ env.locals h₂ m' := F₁.change hs₂ hcL hc0
      have N₂ : News h₀ env.locals h₂ ((c, o₂) :: news) := News.setAt (own := []) N₁ (fun _ h => nomatch h) hoff hs₂ ho₂
      rw [show (0 : Int) + (i : Nat) * 1 = (i : Int) by omega] at hd₂
      obtain ⟨oI, hoI⟩ : ∃ oI, h₂.get? s.heap.objs.size = some oI := ⟨_, hst₂⟩
      refine wpAny_mono (wpAny_passesOwn hE (turn i t o₂ m' h₂ _ (s.heap.objs.size, oI) hlt hd₂ (frm hm' F₂) ?_)) (fun f s₃ h₃ => ?_) fun _ _ e => e
      · intro p hp
        rcases List.mem_cons.mp hp with rfl | hp
        · exact N₂ _ (.head _)
        · rcases List.mem_cons.mp hp with rfl | hp
          · exact ⟨hoI, hIL, hI0⟩
          · exact N₂ p (.tail _ hp)
      · have go : (∃ (h' : Heap) (tk' : Nat) (m₂ : Str → Option Value) (news' : List (Addr × Obj)) (o' : Obj) (v' : Option Value), s₃ = { s with heap := h', toks := tk' } ∧ Fr h₀ env.locals h' m₂ ∧ News h₀ env.locals h' news' ∧ (c, o') ∈ news' ∧ o'.data = .cell v' ∧ (∀ p ∈ news, p ∈ news') ∧ (∀ p ∈ [(s.heap.objs.size, oI)], p ∈ news') ∧ ∀ y, stored.contains y = false → m₂ y = m₀ y) →
            ∃ k', k' < n + 1 - i ∧ ∃ h' tk m' o v i, s₃ = { s with heap := h', toks := tk } ∧ IsRangeIter h' s.heap.objs.size (0 + (i : Nat) * 1) ((n : Int) - (i : Nat)) 1 ∧ Fr h₀ env.locals h' m' ∧ News h₀ env.locals h' ((c, o) :: news) ∧ o.data = .cell v ∧ (∀ y, stored.contains y = false → m' y = m₀ y) ∧ i ≤ n ∧ k' = n + 1 - i := by
          rintro ⟨h₄, tk₄, m₄, n₄, o₄, v₄, rfl, F₄, N₄, hc4, hd4, sN, sO, hr4⟩
          refine ⟨n + 1 - (i + 1), by omega, h₄, tk₄, m₄, o₄, v₄, i + 1, rfl, ?_, F₄, fun p hp => ?_, hd4, hr4, hlt, rfl⟩
          · refine W.frame (i + 1) _ _ hst₂ fun b hb o e => ?_
            rw [List.mem_singleton.mp hb] at e ⊢
            have e' : oI = o := Option.some.inj (hoI.symm.trans e)
            exact e' ▸ (N₄ _ (sO (s.heap.objs.size, oI) (.head _))).1
          · rcases List.mem_cons.mp hp with rfl | hp
            · exact N₄ _ hc4
            · exact N₄ p (sN p hp)
        cases f with
        | ret v => exact h₃
        | brk => exact h₃
        | next => exact go h₃
        | cont => exact go h₃
    · have e : i = n := by omega
      subst e
      refine W.done _ _ _ hst fun h₁ tk₁ hk₁ => ?_
      obtain ⟨F₁, N₁⟩ := keepF h₁ hk₁
      exact wpAny_passesOwn hE (done o m' h₁ tk₁ (frm hm' F₁) N₁)
end
theorem cell_end {h₀ : Heap} {L c : Addr} {s : Shared} {stored : List Str} {m₀ m' : Str → Option Value} {news own news' : List (Addr × Obj)} {Q : Flow → Shared → Prop} {h' : Heap} {tk : Nat} {o' : Obj} {v' : Option Value} (F : Fr h₀ L h' m') (N : News h₀ L h' news') (mc : (c, o') ∈ news') (hd : o'.data = .cell v') (mn : ∀ p ∈ news, p ∈ news') (mo : ∀ p ∈ own, p ∈ news') (hr : ∀ y, stored.contains y = false → m' y = m₀ y) :
    CPost h₀ L s c stored m₀ news own Q .next { s with heap := h', toks := tk } := ⟨h', tk, m', news', o', v', rfl, F, N, mc, hd, mn, mo, hr⟩
section
variable {w : World} {f : Addr} {vs : List Value} {d : Nat} {P : Heap → Prop} {mean : ExcName → Option Value} {mg mb : Str → Option Value} {dp un : Nat} {gd : Option (List Code)} {cn : Str} {cs : Scope} {a : Addr} {ccd : Value} {cl : List (Str × Addr)} {outer : List Env} {A₀ : Around} {base h₀ : Heap} {L : Addr} {m : Str → Option Value} {s : Shared} {Q E : Value → Shared → Prop} {news : List (Addr × Obj)}
end
section
variable {prog : Program} {w : World} {A : Around} {h₀ : Heap} {L : Addr} {m : Str → Option Value} {env : Env} {ct elt : Expr} {x : Str} {scope : Scope} {cl : List (Str × Addr)} {s : Shared} {Fin : Shared → List Value → List (Addr × Obj) → Prop} {news own : List (Addr × Obj)} {E : Value → Shared → Prop}
open LCg LCt
theorem size_32 {vs : List Value} (h : vs.length ≤ 32) : vs.toArray.size ≤ sizeLine := by rw [PySem.sizeLine_eq, List.size_toArray]; omega
end
end
theorem calm_WB : True := by
  w_top off
  first | walk1 | trivial
section
theorem have_it {p q : Prop} (hp : p) (h : p → q) : q := h hp
theorem fr_as {h₀ h : Heap} {L : Addr} {m m' : Str → Option Value} (F : Fr h₀ L h m) (e : m = m') : Fr h₀ L h m' := e ▸ F
section
variable {prog : Program} {w : World} {A : Around} {E : Value → Shared → Prop} {s : Shared} {h₀ : Heap} {L : Addr} {m : Str → Option Value} {news : List (Addr × Obj)} {Q : Value → Shared → Prop}
theorem dflt_slice {value slice : PySem.Expr} {l : Addr} {t1 t2 t3 : Tok} {vl vu : Value} {x : Int} (F : Fr h₀ L s.heap m) (N : News h₀ L s.heap news) (hl : s.heap.IsList l [Value.int 0 t1, .int 1003 t2, .int 630 t3].toArray) (pl : IsPart vl (some x)) (pu : IsPart vu none) (h0 : 0 ≤ x)
    (h : ∀ D ws h', Fr h₀ L h' m → News h₀ L h' ((D, W.listOf (List.toArray ws) 0) :: news) → (∀ p ∈ news, p.1 < D) → IntsAre ws ([0, 1003, 630].drop x.toNat) → Q (.ref D) { s with heap := h' })
    (hs : subscripted slice false (.ref l) (.ref s.heap.objs.size) = operate [.ref s.heap.objs.size, .ref l] (getItem (.ref l) (.ref s.heap.objs.size))) (ht : ∀ r, letTemporaryGo value (.ref l) r = pure ()) :
    wpAny (model prog w) A (subscriptTail value slice (.ref l) (.ref s.heap.objs.size)) Q E { s with heap := s.heap.push { cls := .type "slice", data := .fields #[vl, vu, .none] } } := by
  have hi : IntsAre [Value.int 0 t1, .int 1003 t2, .int 630 t3] [0, 1003, 630] := .cons _ _ (.cons _ _ (.cons _ _ .nil))
  exact kmk_slice_ints F N hl pl pu hi (kmk_from hi h0) rfl (fun D ws h' F' N' l1 hI _ _ => h D ws h' F' N' l1 hI) hs ht (by show 3 ≤ _; rw [PySem.sizeLine_eq]; decide)
end
theorem ints3 {us : List Value} {f g e : Int} (h : IntsAre us [f, g, e]) : ∃ t1 t2 t3, us = [.int f t1, .int g t2, .int e t3] := by
  cases h with
  | cons _ t1 h => cases h with
    | cons _ t2 h => cases h with
      | cons _ t3 h => cases h; exact ⟨t1, t2, t3, rfl⟩
theorem sg_ok (x : Int) : 97 ≤ (97 + x.fmod 26).toNat ∧ (97 + x.fmod 26).toNat ≤ 122 := by
  have := fmod_lo x (n := 26) (by decide)
  have := fmod_hi x (n := 26) (by decide)
  omega
theorem lt_ten {x : Int} (h : x < 1024) : x < 2 ^ (Int.toNat 10) := by
  rw [show (2 : Int) ^ (Int.toNat 10) = 1024 by decide]; exact h
theorem three_eq : ∀ ns : List Int, ∃ f g e, ns.take 3 ++ ([0, 1003, 630] : List Int).drop ((ns.take 3).length : Int).toNat = [f, g, e]
  | [] => ⟨_, _, _, rfl⟩
  | [_] => ⟨_, _, _, rfl⟩
  | [_, _] => ⟨_, _, _, rfl⟩
  | [_, _, _] => ⟨_, _, _, rfl⟩
  | a :: b :: c :: _ :: _ => ⟨a, b, c, rfl⟩
theorem three_of {us : List Value} {ns : List Int} {f g e : Int} (h : IntsAre us (ns.take 3 ++ ([0, 1003, 630] : List Int).drop ((ns.take 3).length : Int).toNat)) (q : ns.take 3 ++ ([0, 1003, 630] : List Int).drop ((ns.take 3).length : Int).toNat = [f, g, e]) : ∃ t1 t2 t3, us = [.int f t1, .int g t2, .int e t3] := ints3 (q ▸ h)
theorem rs_pow {wd : Int} (h : 3 ≤ wd ∧ wd ≤ 5) : Builtin.Range.small 0 (2 ^ wd.toNat) 1 = true ∧ Builtin.Range.rangeSize 0 (2 ^ wd.toNat) 1 = ((2 ^ wd.toNat : Nat) : Int) ∧ (2 : Nat) ^ wd.toNat ≤ 32 ∧ ((2 ^ wd.toNat : Nat) : Int) = 2 ^ wd.toNat := by
  have h' : wd = 3 ∨ wd = 4 ∨ wd = 5 := by omega
  rcases h' with rfl | rfl | rfl <;> decide
theorem off5 {d : Addr} {x1 x2 x3 x4 x5 : Addr × Obj} {big : List (Addr × Obj)} (h : TLg.AllNe d (x1 :: x2 :: x3 :: x4 :: x5 :: big)) : (∀ q ∈ big, @Ne Nat q.1 d) ∧ d ∉ [x1.1, x2.1, x3.1, x4.1, x5.1] := by
  simp only [TLg.AllNe] at h
  obtain ⟨h1, h2, h3, h4, h5, h6⟩ := h
  refine ⟨allNe_mem h6, ?_⟩
  simp only [List.mem_cons, List.not_mem_nil, or_false, not_or]
  exact ⟨h1.symm, h2.symm, h3.symm, h4.symm, h5.symm⟩
theorem off6 {d : Addr} {x0 x1 x2 x3 x4 x5 : Addr × Obj} {big : List (Addr × Obj)} (h : TLg.AllNe d (x0 :: x1 :: x2 :: x3 :: x4 :: x5 :: big)) : (∀ q ∈ big, @Ne Nat q.1 d) ∧ d ∉ [x1.1, x2.1, x3.1, x4.1, x5.1] := off5 h.2
theorem rows_one {c : Prop} [Decidable c] {l : Addr} {ws : List Value} {n : Nat} {ns : List Int} {own : List (Addr × Obj)} (h : c) (hm : (l, W.listOf ws.toArray n) ∈ own) (hi : IntsAre ws ns) : RowsIn own [.ref l] (oneIf c ns) := by
  unfold oneIf; rw [if_pos h]; exact .cons hm hi .nil
theorem rows_no {c : Prop} [Decidable c] {ns : List Int} {own : List (Addr × Obj)} (h : ¬ c) : RowsIn own [] (oneIf c ns) := by
  unfold oneIf; rw [if_neg h]; exact .nil
theorem law_hr {a b x : Str} (v1 v2 v3 : Option Value) {u m₀ : Str → Option Value} : ∀ y, y ≠ x → [b, a].contains y = false → (if y = a then v1 else if y = b then v2 else if y = x then v3 else if [b, a].contains y = true then u y else m₀ y) = m₀ y := by
  intro y hy hs
  have q : y ≠ b ∧ y ≠ a := by
    constructor <;> rintro rfl <;> simp at hs
  rw [if_neg q.2, if_neg q.1, if_neg hy, hs]; rfl
theorem law_merge {h₀ h : Heap} {L : Addr} {own own2 : List (Addr × Obj)} {x0 x1 x2 x3 x4 x5 : Addr × Obj} (N : News h₀ L h (x0 :: x1 :: x2 :: x3 :: x4 :: x5 :: own)) (N2 : News h₀ L h own2) (hoff : OwnOff own [x1.1, x2.1, x3.1, x4.1, x5.1]) (hno : ∀ p ∈ own2, TLg.AllNe p.1 (x1 :: x2 :: x3 :: x4 :: x5 :: own)) :
    ∃ tl, (∀ p ∈ own, p ∈ tl) ∧ (∀ p ∈ own2, p ∈ tl) ∧ (∀ p ∈ tl, @Ne Nat p.1 x4.1) ∧ News h₀ L h (x0 :: x1 :: x2 :: x3 :: x4 :: x5 :: tl) := by
  refine ⟨own2 ++ own, fun p hp => List.mem_append_right _ hp, fun p hp => List.mem_append_left _ hp, fun p hp => ?_, fun p hp => ?_⟩
  · rcases List.mem_append.mp hp with q | q
    · have := hno p q
      simp only [TLg.AllNe] at this
      exact this.2.2.2.1.symm
    · exact hoff p q _ (.tail _ (.tail _ (.tail _ (.head _))))
  · simp only [List.mem_cons, List.mem_append] at hp
    rcases hp with q | q | q | q | q | q | q | q
    · exact N p (by simp [q])
    · exact N p (by simp [q])
    · exact N p (by simp [q])
    · exact N p (by simp [q])
    · exact N p (by simp [q])
    · exact N p (by simp [q])
    · exact N2 p q
    · exact N p (by simp [q])
theorem law_N {h₀ h : Heap} {L : Addr} {x1 x2 x3 x4 x5 x6 x7 x8 x9 xa : Addr × Obj} (N : News h₀ L h [x1, x2, x3, x4, x5, x6, x7, x8, x9, xa]) : News h₀ L h [x1, x2, x3, x9, xa] := by
  intro p hp
  refine N p ?_
  simp only [List.mem_cons, List.not_mem_nil, or_false] at hp ⊢
  rcases hp with q | q | q | q | q <;> simp [q]
section
local macro_rules | `(tactic| k_ne) => `(tactic| (refine neN ?_; (try dsimp only); first | exact Ne.symm (ne_at_mem (by with_reducible assumption) (by k_mem)) | exact ne_at_mem (by with_reducible assumption) (by k_mem)))
theorem law_hr1 {a : Str} (v1 : Option Value) {u m₀ : Str → Option Value} : ∀ y, [a].contains y = false → (if y = a then v1 else if [a].contains y = true then u y else m₀ y) = m₀ y := by
  intro y hs
  have q : y ≠ a := by rintro rfl; simp at hs
  rw [if_neg q, hs]; rfl
theorem law_fin {a b : Int} {g h' : Heap} {s : Shared} {tk : Nat} {R : Result → Shared → Prop} (e : a = b) (hg : s.heap = g) (k : g.StaysIn h') (hret : ∀ h' tk, s.heap.StaysIn h' → R (.ok (.ret (.bool true))) { s with heap := h', toks := tk }) : LeaveM R (.bool (a == b)) { s with heap := h', toks := tk } := by
  unfold LeaveM
  rw [e, beq_self_eq_true]
  exact hret _ _ (hg ▸ k)
structure AtIs (us : List Value) (n : Nat) (v : Value) : Prop where
  out : us[n]? = some v
section
variable {w : World} {mean : ExcName → Option Value} {mg mb : Str → Option Value} {dp un : Nat} {gd : Option (List Code)} {cn : Str} {cs : Scope} {a : Addr} {ccd : Value} {cl : List (Str × Addr)} {outer : List Env} {A₀ : Around} {base h₀ : Heap} {L : Addr} {m : Str → Option Value} {s : Shared} {Q E : Value → Shared → Prop} {news : List (Addr × Obj)}
theorem fives_use {rp l : Addr} {vs ws : List Value} {top z less up : Int} {t1 t2 t3 t4 : Tok} {n : Nat} {row : List Int} (ha : AtIs vs top.toNat (.ref l)) (hp : s.heap.IsList rp vs.toArray) (hq : s.heap.get? l = some (W.listOf ws.toArray n)) (hi : IntsAre ws row) (hlen : (row.length : Int) = top + 1) (hz : -1000 ≤ z ∧ z ≤ 1000) (h0 : 0 ≤ top) (h1 : top < 100) (hl : less = 1 ∧ up = 0 ∨ less = -3 ∧ up = 1) (B : Below A₀ base outer h₀) (F : Fr h₀ L s.heap m) (X : (hd.heap_39 w.params).In h₀) (N : News h₀ L s.heap news) (T : Top hd.view_39 (looseW hd.view_39 [Str.ofString "COMPILER_FLAG_NAMES"]) mean mg mb h₀) (hk : cs.kind = .function) (hdp : dp + 3 < recursionLimit) (hun : un + 100 * 3 < cLine)
    (k : ∀ t h' tk', Fr h₀ L h' m → News h₀ L h' news → Q (.int (fivesV row top z less up) t) { s with heap := h', toks := tk' }) :
    wpAny (model PySem.Challenge.rw_wu0008_01.row.prog w) (ktrTop dp un gd cn cs L a ccd cl outer) (call (.ref 128) [.ref rp, .int top t1, .int z t2, .int less t3, .int up t4]) Q E s :=
  use_int (fives_con w rp vs top z less up t1 t2 t3 t4 l ws n row hz h0 h1 ha.out hi hlen hl) B F X N T hk ⟨hp, hq⟩ hdp hun k
end
theorem law_N2 {h₀ h : Heap} {L : Addr} {tl : List (Addr × Obj)} {x0 x1 x2 x3 x4 x5 : Addr × Obj} (N : News h₀ L h (x0 :: x1 :: x2 :: x3 :: x4 :: x5 :: tl)) : News h₀ L h (x4 :: x0 :: x1 :: x2 :: x3 :: x5 :: tl) := by
  intro p hp
  refine N p ?_
  simp only [List.mem_cons] at hp ⊢
  rcases hp with q | q | q | q | q | q | q <;> simp [q]
theorem law_con (w : World) (l : Addr) (vs : List Value) (ns : List Int) (hi : IntsAre vs ns) (hlen : ns.length ≤ 63) : ∀ (mean : ExcName → Option Value) (mg mb : Str → Option Value) (s : Shared) (R : Result → Shared → Prop),
    (hd.heap_39 w.params).In s.heap → Top hd.view_39 (looseW hd.view_39 [Str.ofString "COMPILER_FLAG_NAMES"]) mean mg mb s.heap → s.heap.IsList l vs.toArray →
    (∀ h' tk, s.heap.StaysIn h' → R (.ok (.ret (.bool true))) { s with heap := h', toks := tk }) →
    codeAny (model PySem.Challenge.rw_wu0008_01.row.prog w) callerA (.call (.ref 133) ⟨[.ref l], []⟩) R s := by
  k_fill
  obtain ⟨f, g, e3, hthree⟩ := three_eq ns
  intro mean mg mb s R X T hP hret
  have K0 := below_caller s.heap
  (k_dflt (refine' enter_top ?mek1 ?mek3 ?mek5 ?mek6 ?mek7 ?mek8 ?mek9 ?mekB ?mekD ?_ ?mec2 ?mec3 ?mec4; (case mek1 => (k_asm)); (case mek3 => (k_asm)); (case mek5 => (k_asm)); (case mek6 => (k_is)); (case mek7 => (k_is)); (case mek8 => (first | decide | k_room | ktr_room)); (case mek9 => (exact BindsTo.of_eq rfl)); (case mekB => (exact rfl)); (case mekD => (decide +kernel)); (case mec2 => (exact rfl)); (case mec3 => (exact rfl)); (case mec4 => (exact rfl)); k_whole; intro g' L' h' tk' cells' hg' F' N' Y' B' X' T'; k_cells Y'; (try simp only [List.cons_append, List.nil_append] at N'); (try dsimp only); (try k_fold)))
  rename s.heap = _ => hg
  rw [hg] at hP
  rename Fr _ _ _ _ => F0
  refine have_it (fr_as (m' := fun y => if y = Str.ofString "script" then some (Value.ref l) else none) F0 (by with_unfolding_all rfl)) fun F1 => ?_
  clear F0
  (with_unfolding_all show wpAny _ (ktrTop 302 7 (some []) _ _ _ _ _ _ []) _ _ _ _)
  repeat' (first | ((with_reducible show wpAny _ _ (call _ _) _ _ _); first | ((with_reducible show wpAny _ _ (call (Value.ref 109) _) _ _ _); refine use_bool (hands_con _ _ _ _ _ _ _ (by first | omega | exact fmod_lo _ (by decide)) (by first | omega | exact fmod_hi _ (by decide)) (by first | assumption | exact lt_ten (fmod_hi _ (by decide))) (by omega) (by omega) (by first | assumption | exact sg_ok _)) (by k_asm) (by k_asm) (by k_asm) (by k_asm) (by k_asm) rfl trivial (by ktr_room) (by ktr_units) ?_; intro h9 tk9 F9 N9; (try dsimp only); (try k_fold)) | ((with_reducible show wpAny _ _ (call (Value.ref 80) _) _ _ _); refine use_ints (places_con _ _ _ _ _ (by omega) (by omega) (by omega) (by omega)) (by k_asm) (by k_asm) (by k_asm) (by k_asm) (by k_asm) rfl trivial (by ktr_room) (by ktr_units) ?_; intro l9 vs9 n9 h9 tk9 hI9 F9 N9 hne9; (have hlen9 : vs9.length ≤ 12 := by (rw [IntsAre.length hI9]; exact places_len _ _ (by omega))); (try dsimp only); (try k_fold)) | ((with_reducible show wpAny _ _ (call (Value.ref 28) _) _ _ _); refine use_int (ish_con _ _ _ _ (by omega) (by omega)) (by k_asm) (by k_asm) (by k_asm) (by k_asm) (by k_asm) rfl trivial (by ktr_room) (by ktr_units) ?_; intro t9 h9 tk9 F9 N9; (try dsimp only); (try k_fold)) | ((with_reducible show wpAny _ _ (call (Value.ref 21) _) _ _ _); refine use_int (iand_con _ _ _ _ _ (by omega) (by omega) (by omega) (by omega)) (by k_asm) (by k_asm) (by k_asm) (by k_asm) (by k_asm) rfl trivial (by ktr_room) (by ktr_units) ?_; intro t9 h9 tk9 F9 N9; (try dsimp only); (try k_fold)) | ((with_reducible show wpAny _ _ (call (Value.ref 85) _) _ _ _); refine row_use (by exact News.isList (by k_asm) (by kcf_m)) (by assumption) (by first | exact places_len _ _ (by omega) | omega) (by omega) (by omega) (by first | exact one_len _ | assumption) (by k_asm) (by k_asm) (by k_asm) (by k_asm) (by k_asm) rfl (by ktr_room) (by ktr_units) ?_; intro t9 h9 tk9 F9 N9; (try dsimp only); (try k_fold)) | ((with_reducible show wpAny _ _ (call (Value.ref 104) _) _ _ _); refine use_pair (read_con _ _ _ (by rw [rowS_len]; omega)) (by k_asm) (by k_asm) (by k_asm) (by k_asm) (by k_asm) rfl trivial (by ktr_room) (by ktr_units) ?_; intro q9 l9 vs9 t9 n9 n99 h9 tk9 hI9 F9 N9 hne9 hnq9 hlq9; (try dsimp only); (try k_fold)) | ((with_reducible show wpAny _ _ (call (Value.builtin "list.append") _) _ _ _); refine append_K (by k_asm) (by k_asm) (by k_upd) ?_ (by rw [PySem.sizeLine_eq, List.size_toArray]; omega); k_whole; intro h' F' N'; (try k_sweep)) | ((with_reducible show wpAny _ _ (call (Value.ref 114) _) _ _ _); refine use_rows (gauss_con _ _ _ _ _ (by omega) (by omega) (by assumption)) (by k_asm) (by k_asm) (by k_asm) (by k_asm) (by k_asm) rfl trivial (by ktr_room) (by ktr_units) ?_; intro D9 us9 n9 own9 h9 tk9 hR9 F9 N9 No9 hne9 hno9; (obtain ⟨tl, tl1, tl2, tl3, NM⟩ := law_merge N9 No9 (by assumption) hno9); clear N9 No9 hno9; (try dsimp only); (try k_fold)) | ((with_reducible show wpAny _ _ (call (Value.ref 121) _) _ _ _); refine use_int (over_row _ _ _ _ _ _ _ _ _ _ _ (by omega) (by omega) (AtIs.out (by assumption)) (by assumption) (by assumption)) (by k_asm) (by k_asm) (by k_asm) (by k_asm) (by k_asm) rfl (by exact ⟨News.isList (by k_asm) (by kcf_m), News.get (by k_asm) (by kcf_m)⟩) (by ktr_room) (by ktr_units) ?_; intro t9 h9 tk9 F9 N9; (try dsimp only); (try k_fold)) | ((with_reducible show wpAny _ _ (call (Value.ref 128) _) _ _ _); refine fives_use (by assumption) (by exact News.isList (by k_asm) (by kcf_m)) (by exact News.get (by k_asm) (by kcf_m)) (by assumption) (by assumption) (by assumption) (by omega) (by omega) (by decide) (by k_asm) (by k_asm) (by k_asm) (by k_asm) (by k_asm) rfl (by ktr_room) (by ktr_units) ?_; intro t9 h9 tk9 F9 N9; (try dsimp only); (try k_fold)) | ((with_reducible show wpAny _ _ (call (Value.builtin "sum") [Value.ref _]) _ _ _); refine sumK (by with_unfolding_all rfl) (by k_asm) (by k_asm) (by first | exact isList_lst (by k_asm) (by k_mem) | exact News.isList (by k_asm) (by kcf_m)) (by assumption) ?_; intro h' tk' t' F' N') | ((with_reducible show wpAny _ _ (call (Value.builtin "len") [Value.ref _]) _ _ _); refine my_len (by k_asm) (by kcf_m) (by assumption) (by assumption) ?_; intro _ _)) | ((with_reducible show wpAny _ _ (subscriptTail _ (PySem.Expr.Slice _ _ none _) (Value.ref _) (Value.ref _)) _ _ _); refine dflt_slice (by k_asm) (by k_asm) (by kmk_list) (by kmk_part) (by kmk_part) (by omega) ?_ (by with_unfolding_all rfl) (by kmk_pure); intro D' ws' h' F' N' l1 hI'; (try k_lt l1); (try k_sweep)) | ((with_reducible show wpAny _ _ (subscriptTail (PySem.Expr.Name _ _) (PySem.Expr.Constant _ _ _) (Value.ref _) (Value.int _ _)) _ _ _); refine item_litK (v := Value.int _ _) (News.isList (by k_asm) (by k_mem)) (by decide) (by decide) (by exact rfl) ?_) | ((with_reducible show wpAny _ _ (binaryOp .Add (Value.ref _) (Value.ref _)) _ _ _); refine kmk_add_ints (by k_asm) (by k_asm) (by kmk_list) (by kmk_list) (by assumption) (by assumption) ?_ (by rw [PySem.sizeLine_eq]; simp only [List.length_take, List.length_drop, List.length_cons, List.length_nil]; omega); intro D' ws' h' F' N' l1 hI'; (try k_lt l1); (try k_sweep); obtain ⟨t1, t2, t3, e0⟩ := three_of hI' (by assumption); subst e0; clear hI') | ((with_reducible show wpAny _ _ (binaryOp .Pow (Value.int _ _) (Value.int _ _)) _ _ _); refine pow_int_small (by omega) (by omega) (by omega) ?_) | ((with_reducible show wpAny _ _ (binaryOp .Mult (Value.int _ _) (Value.int _ _)) _ _ _); refine mul_int ?_ (by assumption)) | ((with_reducible show wpAny _ _ (eval (PySem.Expr.ListComp _ [⟨_, _, [_], _⟩] _ _) _) _ _ _); refine LCt.ListComp_T (F₀ := by k_asm) (by with_unfolding_all rfl) (by decide) (by rfl) (by decide) (by rfl) ?_) | ((with_reducible show wpAny _ _ (eval (PySem.Expr.ListComp _ [⟨_, _, [], _⟩] _ _) _) _ _ _); refine LCg.ListComp_U (F₀ := by k_asm) (by with_unfolding_all rfl) (by decide) (by rfl) (by decide) (by rfl) ?_) | ((with_reducible show LCt.CompSrcT _ _ _ _ _ _ _ _ _ _ _ _ _ _ _); refine LCt.CompSrcT.ledger (by rfl) (by k_asm) (by k_asm) (by kcf_m) (size_32 (by assumption)) ?_; intro g'; refine' rest_TZ (by assumption) (by assumption) (by assumption) (fun d' l' ws' c' I' oI' C' oC' D' m' ys' h' tk' E' hw' hs' hm' hI' hC' hx' F' N' off' ne' hMark' => ?_) ?_; kcf_last) | ((with_reducible show LCg.CompSrc _ _ _ _ _ _ _ _ _ _ _ _ _ _); refine LCg.CompSrc.ledger (by rfl) (by k_asm) (by k_asm) (by kcf_m) (size_32 (by assumption)) ?_; intro g'; refine' rest_UZ (by assumption) (by assumption) (by assumption) (fun d' l' ws' c' I' oI' C' oC' D' m' ys' h' tk' E' hw' hs' hm' hI' hC' hx' F' N' off' ne' hMark' => ?_) ?_; kcf_last) | ((with_reducible show LCg.CompEnd _ _ _ _ _ _ _ _ _ _ _ _ _ _); first | refine tyes (by assumption) (by assumption) (by kcf_all) (by first | assumption | (simp only [LCg.Off3, and_true]; done) | (simp only [LCg.Off3, and_true]; assumption)) (by first | lcg_src | assumption) (by first | rfl | exact decide_eq_true (by assumption)) (by with_unfolding_all rfl) | refine tno (by assumption) (by assumption) (by kcf_all) (by first | assumption | (simp only [LCg.Off3, and_true]; done) | (simp only [LCg.Off3, and_true]; assumption)) (by first | lcg_src | assumption) (by exact decide_eq_false (by assumption))) | ((first | (with_reducible show wpAny _ _ (eval (PySem.Expr.Name (Str.ofString "len") _) (compEnvC _ _ _ _)) _ _ _) | (with_reducible show wpAny _ _ (eval (PySem.Expr.Name (Str.ofString "sum") _) (compEnvC _ _ _ _)) _ _ _)); refine LCgL.ld_built (by k_asm) (by k_asm) (by k_asm) (by k_is) (by boot_by_name) (by decide) ?_) | ((with_reducible show wpAny _ _ (exec (PySem.Stmt.For (PySem.Expr.Name _ _) (PySem.Expr.Call _ _ _ _) _ [] _) _) _ _ _); refine For_else ?_ (by intro _; with_unfolding_all rfl)) | (k_unfold; (try dsimp only)) | walk1 | (dsimp only; walk1) | (leave1; walk_say "STEP leave1"; try dsimp only) | fail "no step")
  have hwd : 3 ≤ f.fmod 3 + 3 ∧ f.fmod 3 + 3 ≤ 5 := by
    have h1 := fmod_lo f (n := 3) (by decide)
    have h2 := fmod_hi f (n := 3) (by decide)
    omega
  have hzz : -1000 ≤ g.fmod 2001 - 1000 ∧ g.fmod 2001 - 1000 ≤ 1000 := by
    have h1 := fmod_lo g (n := 2001) (by decide)
    have h2 := fmod_hi g (n := 2001) (by decide)
    omega
  have hsg := sg_ok (f.fdiv 3)
  rename Fr _ _ _ _ => lF
  rename News _ _ _ _ => lN
  rename IsRange _ _ _ _ _ _ _ _ => rgX
  generalize (97 + (f.fdiv 3).fmod 26).toNat = sg at *
  generalize f.fmod 3 + 3 = wd at *
  generalize g.fmod 2001 - 1000 = z at *
  obtain ⟨r1, r2, r3, r4⟩ := rs_pow hwd
  with_unfolding_all refine' law_for (n := 2 ^ wd.toNat) wd sg [Str.ofString "marks", Str.ofString "above"] ?k1 ?k2 ?k3 rgX r1 r2 lF (law_N lN) ?_ ?_ ?k12
  case k1 => rfl
  case k2 => rfl
  case k3 => rfl
  case k12 => with_unfolding_all passes_own
  · intro fv mv lv fn mn ln pre k t u h₂ tk₂ own big hk1 hlt hoff hsub hF hM hL F₂ N₂
    clear lF lN rgX
    dsimp only [envOfC] at F₂ N₂
    have hk0 : 0 ≤ k := by omega
    have hk2 : k < 2 ^ wd.toNat := by rw [← r4]; omega
    have hk3 : k < 32 := by omega
    have hfl : fv.length ≤ 32 := by rw [hF.length]; have := foundL_len wd pre; omega
    have hml : mv.length ≤ 32 := by rw [hM.length]; have := movedL_len wd pre; omega
    have hll : lv.length ≤ 32 := by rw [hL.length]; have := loneL_len wd sg pre; omega
    repeat' (first | ((with_reducible show wpAny _ _ (call _ _) _ _ _); first | ((with_reducible show wpAny _ _ (call (Value.ref 109) _) _ _ _); refine use_bool (hands_con _ _ _ _ _ _ _ (by first | omega | exact fmod_lo _ (by decide)) (by first | omega | exact fmod_hi _ (by decide)) (by first | assumption | exact lt_ten (fmod_hi _ (by decide))) (by omega) (by omega) (by first | assumption | exact sg_ok _)) (by k_asm) (by k_asm) (by k_asm) (by k_asm) (by k_asm) rfl trivial (by ktr_room) (by ktr_units) ?_; intro h9 tk9 F9 N9; (try dsimp only); (try k_fold)) | ((with_reducible show wpAny _ _ (call (Value.ref 80) _) _ _ _); refine use_ints (places_con _ _ _ _ _ (by omega) (by omega) (by omega) (by omega)) (by k_asm) (by k_asm) (by k_asm) (by k_asm) (by k_asm) rfl trivial (by ktr_room) (by ktr_units) ?_; intro l9 vs9 n9 h9 tk9 hI9 F9 N9 hne9; (have hlen9 : vs9.length ≤ 12 := by (rw [IntsAre.length hI9]; exact places_len _ _ (by omega))); (try dsimp only); (try k_fold)) | ((with_reducible show wpAny _ _ (call (Value.ref 28) _) _ _ _); refine use_int (ish_con _ _ _ _ (by omega) (by omega)) (by k_asm) (by k_asm) (by k_asm) (by k_asm) (by k_asm) rfl trivial (by ktr_room) (by ktr_units) ?_; intro t9 h9 tk9 F9 N9; (try dsimp only); (try k_fold)) | ((with_reducible show wpAny _ _ (call (Value.ref 21) _) _ _ _); refine use_int (iand_con _ _ _ _ _ (by omega) (by omega) (by omega) (by omega)) (by k_asm) (by k_asm) (by k_asm) (by k_asm) (by k_asm) rfl trivial (by ktr_room) (by ktr_units) ?_; intro t9 h9 tk9 F9 N9; (try dsimp only); (try k_fold)) | ((with_reducible show wpAny _ _ (call (Value.ref 85) _) _ _ _); refine row_use (by exact News.isList (by k_asm) (by kcf_m)) (by assumption) (by first | exact places_len _ _ (by omega) | omega) (by omega) (by omega) (by first | exact one_len _ | assumption) (by k_asm) (by k_asm) (by k_asm) (by k_asm) (by k_asm) rfl (by ktr_room) (by ktr_units) ?_; intro t9 h9 tk9 F9 N9; (try dsimp only); (try k_fold)) | ((with_reducible show wpAny _ _ (call (Value.ref 104) _) _ _ _); refine use_pair (read_con _ _ _ (by rw [rowS_len]; omega)) (by k_asm) (by k_asm) (by k_asm) (by k_asm) (by k_asm) rfl trivial (by ktr_room) (by ktr_units) ?_; intro q9 l9 vs9 t9 n9 n99 h9 tk9 hI9 F9 N9 hne9 hnq9 hlq9; (try dsimp only); (try k_fold)) | ((with_reducible show wpAny _ _ (call (Value.builtin "list.append") _) _ _ _); refine append_K (by k_asm) (by k_asm) (by k_upd) ?_ (by rw [PySem.sizeLine_eq, List.size_toArray]; omega); k_whole; intro h' F' N'; (try k_sweep)) | ((with_reducible show wpAny _ _ (call (Value.ref 114) _) _ _ _); refine use_rows (gauss_con _ _ _ _ _ (by omega) (by omega) (by assumption)) (by k_asm) (by k_asm) (by k_asm) (by k_asm) (by k_asm) rfl trivial (by ktr_room) (by ktr_units) ?_; intro D9 us9 n9 own9 h9 tk9 hR9 F9 N9 No9 hne9 hno9; (obtain ⟨tl, tl1, tl2, tl3, NM⟩ := law_merge N9 No9 (by assumption) hno9); clear N9 No9 hno9; (try dsimp only); (try k_fold)) | ((with_reducible show wpAny _ _ (call (Value.ref 121) _) _ _ _); refine use_int (over_row _ _ _ _ _ _ _ _ _ _ _ (by omega) (by omega) (AtIs.out (by assumption)) (by assumption) (by assumption)) (by k_asm) (by k_asm) (by k_asm) (by k_asm) (by k_asm) rfl (by exact ⟨News.isList (by k_asm) (by kcf_m), News.get (by k_asm) (by kcf_m)⟩) (by ktr_room) (by ktr_units) ?_; intro t9 h9 tk9 F9 N9; (try dsimp only); (try k_fold)) | ((with_reducible show wpAny _ _ (call (Value.ref 128) _) _ _ _); refine fives_use (by assumption) (by exact News.isList (by k_asm) (by kcf_m)) (by exact News.get (by k_asm) (by kcf_m)) (by assumption) (by assumption) (by assumption) (by omega) (by omega) (by decide) (by k_asm) (by k_asm) (by k_asm) (by k_asm) (by k_asm) rfl (by ktr_room) (by ktr_units) ?_; intro t9 h9 tk9 F9 N9; (try dsimp only); (try k_fold)) | ((with_reducible show wpAny _ _ (call (Value.builtin "sum") [Value.ref _]) _ _ _); refine sumK (by with_unfolding_all rfl) (by k_asm) (by k_asm) (by first | exact isList_lst (by k_asm) (by k_mem) | exact News.isList (by k_asm) (by kcf_m)) (by assumption) ?_; intro h' tk' t' F' N') | ((with_reducible show wpAny _ _ (call (Value.builtin "len") [Value.ref _]) _ _ _); refine my_len (by k_asm) (by kcf_m) (by assumption) (by assumption) ?_; intro _ _)) | ((with_reducible show wpAny _ _ (subscriptTail _ (PySem.Expr.Slice _ _ none _) (Value.ref _) (Value.ref _)) _ _ _); refine dflt_slice (by k_asm) (by k_asm) (by kmk_list) (by kmk_part) (by kmk_part) (by omega) ?_ (by with_unfolding_all rfl) (by kmk_pure); intro D' ws' h' F' N' l1 hI'; (try k_lt l1); (try k_sweep)) | ((with_reducible show wpAny _ _ (subscriptTail (PySem.Expr.Name _ _) (PySem.Expr.Constant _ _ _) (Value.ref _) (Value.int _ _)) _ _ _); refine item_litK (v := Value.int _ _) (News.isList (by k_asm) (by k_mem)) (by decide) (by decide) (by exact rfl) ?_) | ((with_reducible show wpAny _ _ (binaryOp .Add (Value.ref _) (Value.ref _)) _ _ _); refine kmk_add_ints (by k_asm) (by k_asm) (by kmk_list) (by kmk_list) (by assumption) (by assumption) ?_ (by rw [PySem.sizeLine_eq]; simp only [List.length_take, List.length_drop, List.length_cons, List.length_nil]; omega); intro D' ws' h' F' N' l1 hI'; (try k_lt l1); (try k_sweep); obtain ⟨t1, t2, t3, e0⟩ := three_of hI' (by assumption); subst e0; clear hI') | ((with_reducible show wpAny _ _ (binaryOp .Pow (Value.int _ _) (Value.int _ _)) _ _ _); refine pow_int_small (by omega) (by omega) (by omega) ?_) | ((with_reducible show wpAny _ _ (binaryOp .Mult (Value.int _ _) (Value.int _ _)) _ _ _); refine mul_int ?_ (by assumption)) | ((with_reducible show wpAny _ _ (eval (PySem.Expr.ListComp _ [⟨_, _, [_], _⟩] _ _) _) _ _ _); refine LCt.ListComp_T (F₀ := by k_asm) (by with_unfolding_all rfl) (by decide) (by rfl) (by decide) (by rfl) ?_) | ((with_reducible show wpAny _ _ (eval (PySem.Expr.ListComp _ [⟨_, _, [], _⟩] _ _) _) _ _ _); refine LCg.ListComp_U (F₀ := by k_asm) (by with_unfolding_all rfl) (by decide) (by rfl) (by decide) (by rfl) ?_) | ((with_reducible show LCt.CompSrcT _ _ _ _ _ _ _ _ _ _ _ _ _ _ _); refine LCt.CompSrcT.ledger (by rfl) (by k_asm) (by k_asm) (by kcf_m) (size_32 (by assumption)) ?_; intro g'; refine' rest_TZ (by assumption) (by assumption) (by assumption) (fun d' l' ws' c' I' oI' C' oC' D' m' ys' h' tk' E' hw' hs' hm' hI' hC' hx' F' N' off' ne' hMark' => ?_) ?_; kcf_last) | ((with_reducible show LCg.CompSrc _ _ _ _ _ _ _ _ _ _ _ _ _ _); refine LCg.CompSrc.ledger (by rfl) (by k_asm) (by k_asm) (by kcf_m) (size_32 (by assumption)) ?_; intro g'; refine' rest_UZ (by assumption) (by assumption) (by assumption) (fun d' l' ws' c' I' oI' C' oC' D' m' ys' h' tk' E' hw' hs' hm' hI' hC' hx' F' N' off' ne' hMark' => ?_) ?_; kcf_last) | ((with_reducible show LCg.CompEnd _ _ _ _ _ _ _ _ _ _ _ _ _ _); first | refine tyes (by assumption) (by assumption) (by kcf_all) (by first | assumption | (simp only [LCg.Off3, and_true]; done) | (simp only [LCg.Off3, and_true]; assumption)) (by first | lcg_src | assumption) (by first | rfl | exact decide_eq_true (by assumption)) (by with_unfolding_all rfl) | refine tno (by assumption) (by assumption) (by kcf_all) (by first | assumption | (simp only [LCg.Off3, and_true]; done) | (simp only [LCg.Off3, and_true]; assumption)) (by first | lcg_src | assumption) (by exact decide_eq_false (by assumption))) | ((first | (with_reducible show wpAny _ _ (eval (PySem.Expr.Name (Str.ofString "len") _) (compEnvC _ _ _ _)) _ _ _) | (with_reducible show wpAny _ _ (eval (PySem.Expr.Name (Str.ofString "sum") _) (compEnvC _ _ _ _)) _ _ _)); refine LCgL.ld_built (by k_asm) (by k_asm) (by k_asm) (by k_is) (by boot_by_name) (by decide) ?_) | ((with_reducible show wpAny _ _ (exec (PySem.Stmt.For (PySem.Expr.Name _ _) (PySem.Expr.Call _ _ _ _) _ [] _) _) _ _ _); refine For_else ?_ (by intro _; with_unfolding_all rfl)) | (k_unfold; (try dsimp only)) | walk1 | (dsimp only; walk1) | (leave1; walk_say "STEP leave1"; try dsimp only) | fail "no step")
    all_goals dsimp only [GPost]
    all_goals rename News _ _ _ _ => nE
    all_goals (try simp only [List.push_toArray] at nE)
    all_goals rename Fr _ _ _ _ => fE
    all_goals rename IntsAre _ (placesL k wd) => iK
    all_goals rename TLg.AllNe _ (_ :: _ :: _ :: _ :: _ :: big) => hA1
    · rename IntsAre _ (placesL (k * 2) (wd + 1)) => iM
      rename TLg.AllNe _ (_ :: _ :: _ :: _ :: _ :: _ :: big) => hA2
      rename Builtin.bitAnd k (k * 2) = 0 => hc1
      rename (full _).2 = 0 => hc2
      refine law_end (xf := [.ref _]) (xm := [.ref _]) (xl := [.ref _]) [(_, W.listOf _ _), (_, W.listOf _ _)] hF hM hL fE nE (by kcf_m) (by kcf_m) (by kcf_m) (by kcf_m) (by kcf_m) (by kcf_all) hsub (by kcf_all) (List.forall_mem_cons.mpr ⟨off5 hA1, List.forall_mem_cons.mpr ⟨off6 hA2, List.forall_mem_nil _⟩⟩) (rows_one hc1 (.head _) iK) (rows_one hc1 (.tail _ (.head _)) iM) (rows_one hc2 (.head _) iK) (law_hr _ _ _)
    · rename IntsAre _ (placesL (k * 2) (wd + 1)) => iM
      rename TLg.AllNe _ (_ :: _ :: _ :: _ :: _ :: _ :: big) => hA2
      rename Builtin.bitAnd k (k * 2) = 0 => hc1
      rename ¬ (full _).2 = 0 => hc2
      refine law_end (xf := [.ref _]) (xm := [.ref _]) (xl := []) [(_, W.listOf _ _), (_, W.listOf _ _)] hF hM hL fE nE (by kcf_m) (by kcf_m) (by rw [List.append_nil]; kcf_m) (by kcf_m) (by kcf_m) (by kcf_all) hsub (by kcf_all) (List.forall_mem_cons.mpr ⟨off5 hA1, List.forall_mem_cons.mpr ⟨off6 hA2, List.forall_mem_nil _⟩⟩) (rows_one hc1 (.head _) iK) (rows_one hc1 (.tail _ (.head _)) iM) (rows_no hc2) (law_hr _ _ _)
    · rename ¬ Builtin.bitAnd k (k * 2) = 0 => hc1
      rename (full _).2 = 0 => hc2
      refine law_end (xf := []) (xm := []) (xl := [.ref _]) [(_, W.listOf _ _)] hF hM hL fE nE (by rw [List.append_nil]; kcf_m) (by rw [List.append_nil]; kcf_m) (by kcf_m) (by kcf_m) (by kcf_m) (by kcf_all) hsub (by kcf_all) (List.forall_mem_cons.mpr ⟨off5 hA1, List.forall_mem_nil _⟩) (rows_no hc1) (rows_no hc1) (rows_one hc2 (.head _) iK) (law_hr _ _ _)
    · rename ¬ Builtin.bitAnd k (k * 2) = 0 => hc1
      rename ¬ (full _).2 = 0 => hc2
      refine law_end (xf := []) (xm := []) (xl := []) [] hF hM hL fE nE (by rw [List.append_nil]; kcf_m) (by rw [List.append_nil]; kcf_m) (by rw [List.append_nil]; kcf_m) (by kcf_m) (by kcf_m) (by kcf_all) hsub (List.forall_mem_nil _) (List.forall_mem_nil _) (rows_no hc1) (rows_no hc1) (rows_no hc2) (law_hr _ _ _)
  · intro fv mv lv fn mn ln u h₂ tk₂ own hoff hF hM hL F₂ N₂
    clear lF lN
    dsimp only [envOfC] at F₂ N₂
    repeat' (first | ((with_reducible show wpAny _ _ (call _ _) _ _ _); first | ((with_reducible show wpAny _ _ (call (Value.ref 109) _) _ _ _); refine use_bool (hands_con _ _ _ _ _ _ _ (by first | omega | exact fmod_lo _ (by decide)) (by first | omega | exact fmod_hi _ (by decide)) (by first | assumption | exact lt_ten (fmod_hi _ (by decide))) (by omega) (by omega) (by first | assumption | exact sg_ok _)) (by k_asm) (by k_asm) (by k_asm) (by k_asm) (by k_asm) rfl trivial (by ktr_room) (by ktr_units) ?_; intro h9 tk9 F9 N9; (try dsimp only); (try k_fold)) | ((with_reducible show wpAny _ _ (call (Value.ref 80) _) _ _ _); refine use_ints (places_con _ _ _ _ _ (by omega) (by omega) (by omega) (by omega)) (by k_asm) (by k_asm) (by k_asm) (by k_asm) (by k_asm) rfl trivial (by ktr_room) (by ktr_units) ?_; intro l9 vs9 n9 h9 tk9 hI9 F9 N9 hne9; (have hlen9 : vs9.length ≤ 12 := by (rw [IntsAre.length hI9]; exact places_len _ _ (by omega))); (try dsimp only); (try k_fold)) | ((with_reducible show wpAny _ _ (call (Value.ref 28) _) _ _ _); refine use_int (ish_con _ _ _ _ (by omega) (by omega)) (by k_asm) (by k_asm) (by k_asm) (by k_asm) (by k_asm) rfl trivial (by ktr_room) (by ktr_units) ?_; intro t9 h9 tk9 F9 N9; (try dsimp only); (try k_fold)) | ((with_reducible show wpAny _ _ (call (Value.ref 21) _) _ _ _); refine use_int (iand_con _ _ _ _ _ (by omega) (by omega) (by omega) (by omega)) (by k_asm) (by k_asm) (by k_asm) (by k_asm) (by k_asm) rfl trivial (by ktr_room) (by ktr_units) ?_; intro t9 h9 tk9 F9 N9; (try dsimp only); (try k_fold)) | ((with_reducible show wpAny _ _ (call (Value.ref 85) _) _ _ _); refine row_use (by exact News.isList (by k_asm) (by kcf_m)) (by assumption) (by first | exact places_len _ _ (by omega) | omega) (by omega) (by omega) (by first | exact one_len _ | assumption) (by k_asm) (by k_asm) (by k_asm) (by k_asm) (by k_asm) rfl (by ktr_room) (by ktr_units) ?_; intro t9 h9 tk9 F9 N9; (try dsimp only); (try k_fold)) | ((with_reducible show wpAny _ _ (call (Value.ref 104) _) _ _ _); refine use_pair (read_con _ _ _ (by rw [rowS_len]; omega)) (by k_asm) (by k_asm) (by k_asm) (by k_asm) (by k_asm) rfl trivial (by ktr_room) (by ktr_units) ?_; intro q9 l9 vs9 t9 n9 n99 h9 tk9 hI9 F9 N9 hne9 hnq9 hlq9; (try dsimp only); (try k_fold)) | ((with_reducible show wpAny _ _ (call (Value.builtin "list.append") _) _ _ _); refine append_K (by k_asm) (by k_asm) (by k_upd) ?_ (by rw [PySem.sizeLine_eq, List.size_toArray]; omega); k_whole; intro h' F' N'; (try k_sweep)) | ((with_reducible show wpAny _ _ (call (Value.ref 114) _) _ _ _); refine use_rows (gauss_con _ _ _ _ _ (by omega) (by omega) (by assumption)) (by k_asm) (by k_asm) (by k_asm) (by k_asm) (by k_asm) rfl trivial (by ktr_room) (by ktr_units) ?_; intro D9 us9 n9 own9 h9 tk9 hR9 F9 N9 No9 hne9 hno9; (obtain ⟨tl, tl1, tl2, tl3, NM⟩ := law_merge N9 No9 (by assumption) hno9); clear N9 No9 hno9; (try dsimp only); (try k_fold)) | ((with_reducible show wpAny _ _ (call (Value.ref 121) _) _ _ _); refine use_int (over_row _ _ _ _ _ _ _ _ _ _ _ (by omega) (by omega) (AtIs.out (by assumption)) (by assumption) (by assumption)) (by k_asm) (by k_asm) (by k_asm) (by k_asm) (by k_asm) rfl (by exact ⟨News.isList (by k_asm) (by kcf_m), News.get (by k_asm) (by kcf_m)⟩) (by ktr_room) (by ktr_units) ?_; intro t9 h9 tk9 F9 N9; (try dsimp only); (try k_fold)) | ((with_reducible show wpAny _ _ (call (Value.ref 128) _) _ _ _); refine fives_use (by assumption) (by exact News.isList (by k_asm) (by kcf_m)) (by exact News.get (by k_asm) (by kcf_m)) (by assumption) (by assumption) (by assumption) (by omega) (by omega) (by decide) (by k_asm) (by k_asm) (by k_asm) (by k_asm) (by k_asm) rfl (by ktr_room) (by ktr_units) ?_; intro t9 h9 tk9 F9 N9; (try dsimp only); (try k_fold)) | ((with_reducible show wpAny _ _ (call (Value.builtin "sum") [Value.ref _]) _ _ _); refine sumK (by with_unfolding_all rfl) (by k_asm) (by k_asm) (by first | exact isList_lst (by k_asm) (by k_mem) | exact News.isList (by k_asm) (by kcf_m)) (by assumption) ?_; intro h' tk' t' F' N') | ((with_reducible show wpAny _ _ (call (Value.builtin "len") [Value.ref _]) _ _ _); refine my_len (by k_asm) (by kcf_m) (by assumption) (by assumption) ?_; intro _ _)) | ((with_reducible show wpAny _ _ (subscriptTail _ (PySem.Expr.Slice _ _ none _) (Value.ref _) (Value.ref _)) _ _ _); refine dflt_slice (by k_asm) (by k_asm) (by kmk_list) (by kmk_part) (by kmk_part) (by omega) ?_ (by with_unfolding_all rfl) (by kmk_pure); intro D' ws' h' F' N' l1 hI'; (try k_lt l1); (try k_sweep)) | ((with_reducible show wpAny _ _ (subscriptTail (PySem.Expr.Name _ _) (PySem.Expr.Constant _ _ _) (Value.ref _) (Value.int _ _)) _ _ _); refine item_litK (v := Value.int _ _) (News.isList (by k_asm) (by k_mem)) (by decide) (by decide) (by exact rfl) ?_) | ((with_reducible show wpAny _ _ (binaryOp .Add (Value.ref _) (Value.ref _)) _ _ _); refine kmk_add_ints (by k_asm) (by k_asm) (by kmk_list) (by kmk_list) (by assumption) (by assumption) ?_ (by rw [PySem.sizeLine_eq]; simp only [List.length_take, List.length_drop, List.length_cons, List.length_nil]; omega); intro D' ws' h' F' N' l1 hI'; (try k_lt l1); (try k_sweep); obtain ⟨t1, t2, t3, e0⟩ := three_of hI' (by assumption); subst e0; clear hI') | ((with_reducible show wpAny _ _ (binaryOp .Pow (Value.int _ _) (Value.int _ _)) _ _ _); refine pow_int_small (by omega) (by omega) (by omega) ?_) | ((with_reducible show wpAny _ _ (binaryOp .Mult (Value.int _ _) (Value.int _ _)) _ _ _); refine mul_int ?_ (by assumption)) | ((with_reducible show wpAny _ _ (eval (PySem.Expr.ListComp _ [⟨_, _, [_], _⟩] _ _) _) _ _ _); refine LCt.ListComp_T (F₀ := by k_asm) (by with_unfolding_all rfl) (by decide) (by rfl) (by decide) (by rfl) ?_) | ((with_reducible show wpAny _ _ (eval (PySem.Expr.ListComp _ [⟨_, _, [], _⟩] _ _) _) _ _ _); refine LCg.ListComp_U (F₀ := by k_asm) (by with_unfolding_all rfl) (by decide) (by rfl) (by decide) (by rfl) ?_) | ((with_reducible show LCt.CompSrcT _ _ _ _ _ _ _ _ _ _ _ _ _ _ _); refine LCt.CompSrcT.ledger (by rfl) (by k_asm) (by k_asm) (by kcf_m) (size_32 (by assumption)) ?_; intro g'; refine' rest_TZ (by assumption) (by assumption) (by assumption) (fun d' l' ws' c' I' oI' C' oC' D' m' ys' h' tk' E' hw' hs' hm' hI' hC' hx' F' N' off' ne' hMark' => ?_) ?_; kcf_last) | ((with_reducible show LCg.CompSrc _ _ _ _ _ _ _ _ _ _ _ _ _ _); refine LCg.CompSrc.ledger (by rfl) (by k_asm) (by k_asm) (by kcf_m) (size_32 (by assumption)) ?_; intro g'; refine' rest_UZ (by assumption) (by assumption) (by assumption) (fun d' l' ws' c' I' oI' C' oC' D' m' ys' h' tk' E' hw' hs' hm' hI' hC' hx' F' N' off' ne' hMark' => ?_) ?_; kcf_last) | ((with_reducible show LCg.CompEnd _ _ _ _ _ _ _ _ _ _ _ _ _ _); first | refine tyes (by assumption) (by assumption) (by kcf_all) (by first | assumption | (simp only [LCg.Off3, and_true]; done) | (simp only [LCg.Off3, and_true]; assumption)) (by first | lcg_src | assumption) (by first | rfl | exact decide_eq_true (by assumption)) (by with_unfolding_all rfl) | refine tno (by assumption) (by assumption) (by kcf_all) (by first | assumption | (simp only [LCg.Off3, and_true]; done) | (simp only [LCg.Off3, and_true]; assumption)) (by first | lcg_src | assumption) (by exact decide_eq_false (by assumption))) | ((first | (with_reducible show wpAny _ _ (eval (PySem.Expr.Name (Str.ofString "len") _) (compEnvC _ _ _ _)) _ _ _) | (with_reducible show wpAny _ _ (eval (PySem.Expr.Name (Str.ofString "sum") _) (compEnvC _ _ _ _)) _ _ _)); refine LCgL.ld_built (by k_asm) (by k_asm) (by k_asm) (by k_is) (by boot_by_name) (by decide) ?_) | ((with_reducible show wpAny _ _ (exec (PySem.Stmt.For (PySem.Expr.Name _ _) (PySem.Expr.Call _ _ _ _) _ [] _) _) _ _ _); refine For_else ?_ (by intro _; with_unfolding_all rfl)) | (k_unfold; (try dsimp only)) | walk1 | (dsimp only; walk1) | (leave1; walk_say "STEP leave1"; try dsimp only) | fail "no step")
    rename ∀ p ∈ own, p ∈ _ => t1
    rename RowsIn _ _ (gRows _ _) => hR
    rename ∀ p ∈ _, p ∈ _ => t2
    rename ∀ p : Addr × Obj, p ∈ _ → @Ne Nat p.1 _ => t3
    have hF' := hF.mono t1
    have hM' := hM.mono t1
    have hL' := hL.mono t1
    have hR' := hR.mono t2
    have sF := small_found hwd
    have sM := small_moved hwd
    have sL := small_lone hwd hsg
    have hfl : fv.length ≤ 32 := by rw [hF.length]; have := foundL_len wd (rangeKs 0 (2 ^ wd.toNat)); rw [rangeKs_length] at this; omega
    have hml : mv.length ≤ 32 := by rw [hM.length]; have := movedL_len wd (rangeKs 0 (2 ^ wd.toNat)); rw [rangeKs_length] at this; omega
    have hll : lv.length ≤ 32 := by rw [hL.length]; have := loneL_len wd sg (rangeKs 0 (2 ^ wd.toNat)); rw [rangeKs_length] at this; omega
    clear hF hM hL hR t1 t2
    rename Fr _ _ _ _ => lF
    rename News _ _ _ _ => lN
    rename IsRange _ _ _ _ _ _ _ _ => rgY
    rename RowsIn _ fv _ => hF
    rename RowsIn _ mv _ => hM
    rename RowsIn _ lv _ => hL
    rename RowsIn _ _ (gRows _ _) => hR
    (with_unfolding_all refine' cell_for (n := (wd + 1).toNat) [Str.ofString "due"] ?q1 ?q2 ?q3 ?q4 ?q5 rgY ?q6 ?q7 lF (law_N2 lN) ?q8 ?_ ?_ ?q9)
    case q1 => rfl
    case q2 => rfl
    case q3 => rfl
    case q4 => rfl
    case q5 => (with_reducible assumption)
    case q6 => exact small_one (by omega) (by omega) (by omega) (by omega)
    case q7 => rw [rangeSize_nat, show wd + 1 - 0 = wd + 1 by omega]
    case q8 =>
      refine List.forall_mem_cons.mpr ⟨?_, List.forall_mem_cons.mpr ⟨?_, List.forall_mem_cons.mpr ⟨?_, List.forall_mem_cons.mpr ⟨?_, List.forall_mem_cons.mpr ⟨?_, t3⟩⟩⟩⟩⟩
      all_goals (first | k_ne | fail)
    case q9 => with_unfolding_all passes_own
    · intro i t o u₃ h₃ tk₃ pI hi3 ho3 F₃ N₃
      clear lF lN rgY
      dsimp only [envOfC] at F₃ N₃
      have hMk : KstMark := kstMark
      have hi5 : i ≤ 5 := by omega
      have hii := sq_le hi5
      have hm1 : IntMulOk (i : Int) (i : Int) := IntMulOk.of_left (intBits_le_64 (by omega) (by omega))
      have hm2 := rog_mul hwd hzz i (by omega)
      have hrow : (List.map (fun d => z ^ d.sum.toNat) (sized i (foundL wd (rangeKs 0 (2 ^ wd.toNat))))).sum = _ := rog_a (z := z) hwd i (by omega)
      have hkey : KeyZ z i := True.intro
      obtain ⟨lr, wr, kr, hvr, hmr, hIr⟩ := hR.at (gRows_at z (n := (wd + 2).toNat) (i := (wd + 1 - (i : Int)).toNat) (by omega))
      replace hvr := AtIs.mk hvr
      have hlr : ((gRow z (wd + 1 - (i : Int)).toNat).length : Int) = wd + 1 - (i : Int) + 1 := by rw [gRow_len]; omega
      repeat' (first | ((with_reducible show wpAny _ _ (call _ _) _ _ _); first | ((with_reducible show wpAny _ _ (call (Value.ref 109) _) _ _ _); refine use_bool (hands_con _ _ _ _ _ _ _ (by first | omega | exact fmod_lo _ (by decide)) (by first | omega | exact fmod_hi _ (by decide)) (by first | assumption | exact lt_ten (fmod_hi _ (by decide))) (by omega) (by omega) (by first | assumption | exact sg_ok _)) (by k_asm) (by k_asm) (by k_asm) (by k_asm) (by k_asm) rfl trivial (by ktr_room) (by ktr_units) ?_; intro h9 tk9 F9 N9; (try dsimp only); (try k_fold)) | ((with_reducible show wpAny _ _ (call (Value.ref 80) _) _ _ _); refine use_ints (places_con _ _ _ _ _ (by omega) (by omega) (by omega) (by omega)) (by k_asm) (by k_asm) (by k_asm) (by k_asm) (by k_asm) rfl trivial (by ktr_room) (by ktr_units) ?_; intro l9 vs9 n9 h9 tk9 hI9 F9 N9 hne9; (have hlen9 : vs9.length ≤ 12 := by (rw [IntsAre.length hI9]; exact places_len _ _ (by omega))); (try dsimp only); (try k_fold)) | ((with_reducible show wpAny _ _ (call (Value.ref 28) _) _ _ _); refine use_int (ish_con _ _ _ _ (by omega) (by omega)) (by k_asm) (by k_asm) (by k_asm) (by k_asm) (by k_asm) rfl trivial (by ktr_room) (by ktr_units) ?_; intro t9 h9 tk9 F9 N9; (try dsimp only); (try k_fold)) | ((with_reducible show wpAny _ _ (call (Value.ref 21) _) _ _ _); refine use_int (iand_con _ _ _ _ _ (by omega) (by omega) (by omega) (by omega)) (by k_asm) (by k_asm) (by k_asm) (by k_asm) (by k_asm) rfl trivial (by ktr_room) (by ktr_units) ?_; intro t9 h9 tk9 F9 N9; (try dsimp only); (try k_fold)) | ((with_reducible show wpAny _ _ (call (Value.ref 85) _) _ _ _); refine row_use (by exact News.isList (by k_asm) (by kcf_m)) (by assumption) (by first | exact places_len _ _ (by omega) | omega) (by omega) (by omega) (by first | exact one_len _ | assumption) (by k_asm) (by k_asm) (by k_asm) (by k_asm) (by k_asm) rfl (by ktr_room) (by ktr_units) ?_; intro t9 h9 tk9 F9 N9; (try dsimp only); (try k_fold)) | ((with_reducible show wpAny _ _ (call (Value.ref 104) _) _ _ _); refine use_pair (read_con _ _ _ (by rw [rowS_len]; omega)) (by k_asm) (by k_asm) (by k_asm) (by k_asm) (by k_asm) rfl trivial (by ktr_room) (by ktr_units) ?_; intro q9 l9 vs9 t9 n9 n99 h9 tk9 hI9 F9 N9 hne9 hnq9 hlq9; (try dsimp only); (try k_fold)) | ((with_reducible show wpAny _ _ (call (Value.builtin "list.append") _) _ _ _); refine append_K (by k_asm) (by k_asm) (by k_upd) ?_ (by rw [PySem.sizeLine_eq, List.size_toArray]; omega); k_whole; intro h' F' N'; (try k_sweep)) | ((with_reducible show wpAny _ _ (call (Value.ref 114) _) _ _ _); refine use_rows (gauss_con _ _ _ _ _ (by omega) (by omega) (by assumption)) (by k_asm) (by k_asm) (by k_asm) (by k_asm) (by k_asm) rfl trivial (by ktr_room) (by ktr_units) ?_; intro D9 us9 n9 own9 h9 tk9 hR9 F9 N9 No9 hne9 hno9; (obtain ⟨tl, tl1, tl2, tl3, NM⟩ := law_merge N9 No9 (by assumption) hno9); clear N9 No9 hno9; (try dsimp only); (try k_fold)) | ((with_reducible show wpAny _ _ (call (Value.ref 121) _) _ _ _); refine use_int (over_row _ _ _ _ _ _ _ _ _ _ _ (by omega) (by omega) (AtIs.out (by assumption)) (by assumption) (by assumption)) (by k_asm) (by k_asm) (by k_asm) (by k_asm) (by k_asm) rfl (by exact ⟨News.isList (by k_asm) (by kcf_m), News.get (by k_asm) (by kcf_m)⟩) (by ktr_room) (by ktr_units) ?_; intro t9 h9 tk9 F9 N9; (try dsimp only); (try k_fold)) | ((with_reducible show wpAny _ _ (call (Value.ref 128) _) _ _ _); refine fives_use (by assumption) (by exact News.isList (by k_asm) (by kcf_m)) (by exact News.get (by k_asm) (by kcf_m)) (by assumption) (by assumption) (by assumption) (by omega) (by omega) (by decide) (by k_asm) (by k_asm) (by k_asm) (by k_asm) (by k_asm) rfl (by ktr_room) (by ktr_units) ?_; intro t9 h9 tk9 F9 N9; (try dsimp only); (try k_fold)) | ((with_reducible show wpAny _ _ (call (Value.builtin "sum") [Value.ref _]) _ _ _); refine sumK (by with_unfolding_all rfl) (by k_asm) (by k_asm) (by first | exact isList_lst (by k_asm) (by k_mem) | exact News.isList (by k_asm) (by kcf_m)) (by assumption) ?_; intro h' tk' t' F' N') | ((with_reducible show wpAny _ _ (call (Value.builtin "len") [Value.ref _]) _ _ _); refine my_len (by k_asm) (by kcf_m) (by assumption) (by assumption) ?_; intro _ _)) | ((with_reducible show wpAny _ _ (subscriptTail _ (PySem.Expr.Slice _ _ none _) (Value.ref _) (Value.ref _)) _ _ _); refine dflt_slice (by k_asm) (by k_asm) (by kmk_list) (by kmk_part) (by kmk_part) (by omega) ?_ (by with_unfolding_all rfl) (by kmk_pure); intro D' ws' h' F' N' l1 hI'; (try k_lt l1); (try k_sweep)) | ((with_reducible show wpAny _ _ (subscriptTail (PySem.Expr.Name _ _) (PySem.Expr.Constant _ _ _) (Value.ref _) (Value.int _ _)) _ _ _); refine item_litK (v := Value.int _ _) (News.isList (by k_asm) (by k_mem)) (by decide) (by decide) (by exact rfl) ?_) | ((with_reducible show wpAny _ _ (binaryOp .Add (Value.ref _) (Value.ref _)) _ _ _); refine kmk_add_ints (by k_asm) (by k_asm) (by kmk_list) (by kmk_list) (by assumption) (by assumption) ?_ (by rw [PySem.sizeLine_eq]; simp only [List.length_take, List.length_drop, List.length_cons, List.length_nil]; omega); intro D' ws' h' F' N' l1 hI'; (try k_lt l1); (try k_sweep); obtain ⟨t1, t2, t3, e0⟩ := three_of hI' (by assumption); subst e0; clear hI') | ((with_reducible show wpAny _ _ (binaryOp .Pow (Value.int _ _) (Value.int _ _)) _ _ _); refine pow_int_small (by omega) (by omega) (by omega) ?_) | ((with_reducible show wpAny _ _ (binaryOp .Mult (Value.int _ _) (Value.int _ _)) _ _ _); refine mul_int ?_ (by assumption)) | ((with_reducible show wpAny _ _ (eval (PySem.Expr.ListComp _ [⟨_, _, [_], _⟩] _ _) _) _ _ _); refine LCt.ListComp_T (F₀ := by k_asm) (by with_unfolding_all rfl) (by decide) (by rfl) (by decide) (by rfl) ?_) | ((with_reducible show wpAny _ _ (eval (PySem.Expr.ListComp _ [⟨_, _, [], _⟩] _ _) _) _ _ _); refine LCg.ListComp_U (F₀ := by k_asm) (by with_unfolding_all rfl) (by decide) (by rfl) (by decide) (by rfl) ?_) | ((with_reducible show LCt.CompSrcT _ _ _ _ _ _ _ _ _ _ _ _ _ _ _); refine LCt.CompSrcT.ledger (by rfl) (by k_asm) (by k_asm) (by kcf_m) (size_32 (by assumption)) ?_; intro g'; refine' rest_TZ (by assumption) (by assumption) (by assumption) (fun d' l' ws' c' I' oI' C' oC' D' m' ys' h' tk' E' hw' hs' hm' hI' hC' hx' F' N' off' ne' hMark' => ?_) ?_; kcf_last) | ((with_reducible show LCg.CompSrc _ _ _ _ _ _ _ _ _ _ _ _ _ _); refine LCg.CompSrc.ledger (by rfl) (by k_asm) (by k_asm) (by kcf_m) (size_32 (by assumption)) ?_; intro g'; refine' rest_UZ (by assumption) (by assumption) (by assumption) (fun d' l' ws' c' I' oI' C' oC' D' m' ys' h' tk' E' hw' hs' hm' hI' hC' hx' F' N' off' ne' hMark' => ?_) ?_; kcf_last) | ((with_reducible show LCg.CompEnd _ _ _ _ _ _ _ _ _ _ _ _ _ _); first | refine tyes (by assumption) (by assumption) (by kcf_all) (by first | assumption | (simp only [LCg.Off3, and_true]; done) | (simp only [LCg.Off3, and_true]; assumption)) (by first | lcg_src | assumption) (by first | rfl | exact decide_eq_true (by assumption)) (by with_unfolding_all rfl) | refine tno (by assumption) (by assumption) (by kcf_all) (by first | assumption | (simp only [LCg.Off3, and_true]; done) | (simp only [LCg.Off3, and_true]; assumption)) (by first | lcg_src | assumption) (by exact decide_eq_false (by assumption))) | ((first | (with_reducible show wpAny _ _ (eval (PySem.Expr.Name (Str.ofString "len") _) (compEnvC _ _ _ _)) _ _ _) | (with_reducible show wpAny _ _ (eval (PySem.Expr.Name (Str.ofString "sum") _) (compEnvC _ _ _ _)) _ _ _)); refine LCgL.ld_built (by k_asm) (by k_asm) (by k_asm) (by k_is) (by boot_by_name) (by decide) ?_) | ((with_reducible show wpAny _ _ (exec (PySem.Stmt.For (PySem.Expr.Name _ _) (PySem.Expr.Call _ _ _ _) _ [] _) _) _ _ _); refine For_else ?_ (by intro _; with_unfolding_all rfl)) | (k_unfold; (try dsimp only)) | walk1 | (dsimp only; walk1) | (leave1; walk_say "STEP leave1"; try dsimp only) | fail "no step")
      · (exact absurd hrow (by with_reducible assumption))
      · rename Fr _ _ _ _ => fE
        rename News _ _ _ _ => nE
        exact cell_end fE nE (by kcf_m) ho3 (by kcf_all) (by kcf_all) (law_hr1 _)
    · intro o u₃ h₃ tk₃ F₃ N₃
      clear lF lN rgY
      dsimp only [envOfC] at F₃ N₃
      have hMk : KstMark := kstMark
      have hkey : KeyZ z 0 := True.intro
      obtain ⟨lr1, wr1, kr1, hvr1, hmr1, hIr1⟩ := hR.at (gRows_at z (n := (wd + 2).toNat) (i := (wd + 1).toNat) (by omega))
      obtain ⟨lr2, wr2, kr2, hvr2, hmr2, hIr2⟩ := hR.at (gRows_at z (n := (wd + 2).toNat) (i := (wd + 2).toNat) (by omega))
      replace hvr1 := AtIs.mk hvr1
      replace hvr2 := AtIs.mk hvr2
      have hlone : (List.map (fun d => z ^ d.sum.toNat) (loneL wd sg (rangeKs 0 (2 ^ wd.toNat)))).sum = fivesV (gRow z (wd + 1).toNat) (wd + 1) z 1 0 := by rw [lone_eq (by omega) hsg]; exact rog_b hwd
      have hmov : (List.map (fun d => z ^ d.sum.toNat) (movedL wd (rangeKs 0 (2 ^ wd.toNat)))).sum = fivesV (gRow z (wd + 2).toNat) (wd + 2) z (-3) 1 := rog_c hwd
      have hlr1 : ((gRow z (wd + 1).toNat).length : Int) = wd + 1 + 1 := by rw [gRow_len]; omega
      have hlr2 : ((gRow z (wd + 2).toNat).length : Int) = wd + 2 + 1 := by rw [gRow_len]; omega
      repeat' (first | ((with_reducible show wpAny _ _ (call _ _) _ _ _); first | ((with_reducible show wpAny _ _ (call (Value.ref 109) _) _ _ _); refine use_bool (hands_con _ _ _ _ _ _ _ (by first | omega | exact fmod_lo _ (by decide)) (by first | omega | exact fmod_hi _ (by decide)) (by first | assumption | exact lt_ten (fmod_hi _ (by decide))) (by omega) (by omega) (by first | assumption | exact sg_ok _)) (by k_asm) (by k_asm) (by k_asm) (by k_asm) (by k_asm) rfl trivial (by ktr_room) (by ktr_units) ?_; intro h9 tk9 F9 N9; (try dsimp only); (try k_fold)) | ((with_reducible show wpAny _ _ (call (Value.ref 80) _) _ _ _); refine use_ints (places_con _ _ _ _ _ (by omega) (by omega) (by omega) (by omega)) (by k_asm) (by k_asm) (by k_asm) (by k_asm) (by k_asm) rfl trivial (by ktr_room) (by ktr_units) ?_; intro l9 vs9 n9 h9 tk9 hI9 F9 N9 hne9; (have hlen9 : vs9.length ≤ 12 := by (rw [IntsAre.length hI9]; exact places_len _ _ (by omega))); (try dsimp only); (try k_fold)) | ((with_reducible show wpAny _ _ (call (Value.ref 28) _) _ _ _); refine use_int (ish_con _ _ _ _ (by omega) (by omega)) (by k_asm) (by k_asm) (by k_asm) (by k_asm) (by k_asm) rfl trivial (by ktr_room) (by ktr_units) ?_; intro t9 h9 tk9 F9 N9; (try dsimp only); (try k_fold)) | ((with_reducible show wpAny _ _ (call (Value.ref 21) _) _ _ _); refine use_int (iand_con _ _ _ _ _ (by omega) (by omega) (by omega) (by omega)) (by k_asm) (by k_asm) (by k_asm) (by k_asm) (by k_asm) rfl trivial (by ktr_room) (by ktr_units) ?_; intro t9 h9 tk9 F9 N9; (try dsimp only); (try k_fold)) | ((with_reducible show wpAny _ _ (call (Value.ref 85) _) _ _ _); refine row_use (by exact News.isList (by k_asm) (by kcf_m)) (by assumption) (by first | exact places_len _ _ (by omega) | omega) (by omega) (by omega) (by first | exact one_len _ | assumption) (by k_asm) (by k_asm) (by k_asm) (by k_asm) (by k_asm) rfl (by ktr_room) (by ktr_units) ?_; intro t9 h9 tk9 F9 N9; (try dsimp only); (try k_fold)) | ((with_reducible show wpAny _ _ (call (Value.ref 104) _) _ _ _); refine use_pair (read_con _ _ _ (by rw [rowS_len]; omega)) (by k_asm) (by k_asm) (by k_asm) (by k_asm) (by k_asm) rfl trivial (by ktr_room) (by ktr_units) ?_; intro q9 l9 vs9 t9 n9 n99 h9 tk9 hI9 F9 N9 hne9 hnq9 hlq9; (try dsimp only); (try k_fold)) | ((with_reducible show wpAny _ _ (call (Value.builtin "list.append") _) _ _ _); refine append_K (by k_asm) (by k_asm) (by k_upd) ?_ (by rw [PySem.sizeLine_eq, List.size_toArray]; omega); k_whole; intro h' F' N'; (try k_sweep)) | ((with_reducible show wpAny _ _ (call (Value.ref 114) _) _ _ _); refine use_rows (gauss_con _ _ _ _ _ (by omega) (by omega) (by assumption)) (by k_asm) (by k_asm) (by k_asm) (by k_asm) (by k_asm) rfl trivial (by ktr_room) (by ktr_units) ?_; intro D9 us9 n9 own9 h9 tk9 hR9 F9 N9 No9 hne9 hno9; (obtain ⟨tl, tl1, tl2, tl3, NM⟩ := law_merge N9 No9 (by assumption) hno9); clear N9 No9 hno9; (try dsimp only); (try k_fold)) | ((with_reducible show wpAny _ _ (call (Value.ref 121) _) _ _ _); refine use_int (over_row _ _ _ _ _ _ _ _ _ _ _ (by omega) (by omega) (AtIs.out (by assumption)) (by assumption) (by assumption)) (by k_asm) (by k_asm) (by k_asm) (by k_asm) (by k_asm) rfl (by exact ⟨News.isList (by k_asm) (by kcf_m), News.get (by k_asm) (by kcf_m)⟩) (by ktr_room) (by ktr_units) ?_; intro t9 h9 tk9 F9 N9; (try dsimp only); (try k_fold)) | ((with_reducible show wpAny _ _ (call (Value.ref 128) _) _ _ _); refine fives_use (by assumption) (by exact News.isList (by k_asm) (by kcf_m)) (by exact News.get (by k_asm) (by kcf_m)) (by assumption) (by assumption) (by assumption) (by omega) (by omega) (by decide) (by k_asm) (by k_asm) (by k_asm) (by k_asm) (by k_asm) rfl (by ktr_room) (by ktr_units) ?_; intro t9 h9 tk9 F9 N9; (try dsimp only); (try k_fold)) | ((with_reducible show wpAny _ _ (call (Value.builtin "sum") [Value.ref _]) _ _ _); refine sumK (by with_unfolding_all rfl) (by k_asm) (by k_asm) (by first | exact isList_lst (by k_asm) (by k_mem) | exact News.isList (by k_asm) (by kcf_m)) (by assumption) ?_; intro h' tk' t' F' N') | ((with_reducible show wpAny _ _ (call (Value.builtin "len") [Value.ref _]) _ _ _); refine my_len (by k_asm) (by kcf_m) (by assumption) (by assumption) ?_; intro _ _)) | ((with_reducible show wpAny _ _ (subscriptTail _ (PySem.Expr.Slice _ _ none _) (Value.ref _) (Value.ref _)) _ _ _); refine dflt_slice (by k_asm) (by k_asm) (by kmk_list) (by kmk_part) (by kmk_part) (by omega) ?_ (by with_unfolding_all rfl) (by kmk_pure); intro D' ws' h' F' N' l1 hI'; (try k_lt l1); (try k_sweep)) | ((with_reducible show wpAny _ _ (subscriptTail (PySem.Expr.Name _ _) (PySem.Expr.Constant _ _ _) (Value.ref _) (Value.int _ _)) _ _ _); refine item_litK (v := Value.int _ _) (News.isList (by k_asm) (by k_mem)) (by decide) (by decide) (by exact rfl) ?_) | ((with_reducible show wpAny _ _ (binaryOp .Add (Value.ref _) (Value.ref _)) _ _ _); refine kmk_add_ints (by k_asm) (by k_asm) (by kmk_list) (by kmk_list) (by assumption) (by assumption) ?_ (by rw [PySem.sizeLine_eq]; simp only [List.length_take, List.length_drop, List.length_cons, List.length_nil]; omega); intro D' ws' h' F' N' l1 hI'; (try k_lt l1); (try k_sweep); obtain ⟨t1, t2, t3, e0⟩ := three_of hI' (by assumption); subst e0; clear hI') | ((with_reducible show wpAny _ _ (binaryOp .Pow (Value.int _ _) (Value.int _ _)) _ _ _); refine pow_int_small (by omega) (by omega) (by omega) ?_) | ((with_reducible show wpAny _ _ (binaryOp .Mult (Value.int _ _) (Value.int _ _)) _ _ _); refine mul_int ?_ (by assumption)) | ((with_reducible show wpAny _ _ (eval (PySem.Expr.ListComp _ [⟨_, _, [_], _⟩] _ _) _) _ _ _); refine LCt.ListComp_T (F₀ := by k_asm) (by with_unfolding_all rfl) (by decide) (by rfl) (by decide) (by rfl) ?_) | ((with_reducible show wpAny _ _ (eval (PySem.Expr.ListComp _ [⟨_, _, [], _⟩] _ _) _) _ _ _); refine LCg.ListComp_U (F₀ := by k_asm) (by with_unfolding_all rfl) (by decide) (by rfl) (by decide) (by rfl) ?_) | ((with_reducible show LCt.CompSrcT _ _ _ _ _ _ _ _ _ _ _ _ _ _ _); refine LCt.CompSrcT.ledger (by rfl) (by k_asm) (by k_asm) (by kcf_m) (size_32 (by assumption)) ?_; intro g'; refine' rest_TZ (by assumption) (by assumption) (by assumption) (fun d' l' ws' c' I' oI' C' oC' D' m' ys' h' tk' E' hw' hs' hm' hI' hC' hx' F' N' off' ne' hMark' => ?_) ?_; kcf_last) | ((with_reducible show LCg.CompSrc _ _ _ _ _ _ _ _ _ _ _ _ _ _); refine LCg.CompSrc.ledger (by rfl) (by k_asm) (by k_asm) (by kcf_m) (size_32 (by assumption)) ?_; intro g'; refine' rest_UZ (by assumption) (by assumption) (by assumption) (fun d' l' ws' c' I' oI' C' oC' D' m' ys' h' tk' E' hw' hs' hm' hI' hC' hx' F' N' off' ne' hMark' => ?_) ?_; kcf_last) | ((with_reducible show LCg.CompEnd _ _ _ _ _ _ _ _ _ _ _ _ _ _); first | refine tyes (by assumption) (by assumption) (by kcf_all) (by first | assumption | (simp only [LCg.Off3, and_true]; done) | (simp only [LCg.Off3, and_true]; assumption)) (by first | lcg_src | assumption) (by first | rfl | exact decide_eq_true (by assumption)) (by with_unfolding_all rfl) | refine tno (by assumption) (by assumption) (by kcf_all) (by first | assumption | (simp only [LCg.Off3, and_true]; done) | (simp only [LCg.Off3, and_true]; assumption)) (by first | lcg_src | assumption) (by exact decide_eq_false (by assumption))) | ((first | (with_reducible show wpAny _ _ (eval (PySem.Expr.Name (Str.ofString "len") _) (compEnvC _ _ _ _)) _ _ _) | (with_reducible show wpAny _ _ (eval (PySem.Expr.Name (Str.ofString "sum") _) (compEnvC _ _ _ _)) _ _ _)); refine LCgL.ld_built (by k_asm) (by k_asm) (by k_asm) (by k_is) (by boot_by_name) (by decide) ?_) | ((with_reducible show wpAny _ _ (exec (PySem.Stmt.For (PySem.Expr.Name _ _) (PySem.Expr.Call _ _ _ _) _ [] _) _) _ _ _); refine For_else ?_ (by intro _; with_unfolding_all rfl)) | (k_unfold; (try dsimp only)) | walk1 | (dsimp only; walk1) | (leave1; walk_say "STEP leave1"; try dsimp only) | fail "no step")
      · (exact absurd hlone (by with_reducible assumption))
      · rename Fr _ _ _ _ => fE
        (exact law_fin hmov hg fE.keep hret)
end
end
end Mine
open Mine
theorem PySem.Challenge.cw_wu0008_01_holds : PySem.Challenge.rw_wu0008_01.Holds := by
  refine hd ?_
  k_fill
  intro w s₀ s₁ mg mb G Y fa o pm cd doc dV kV ho hdt hcd hD hmg hg args vals as hpre hlay hrd hwl hlo
  have KX := kIn_of Y
  have X := (Ground.X G).1
  have V := (Ground.X G).2
  refine Ground.open G ?_
  intro T B D TE TW
  wrow_args hpre hlay hrd hwl hlo
  x_fa T KX hmg
  all_goals (first | refine callC_kw (enter_call ?_) | refine enter_call ?_ | refine callC_kw (enter_callW ?_) | refine enter_callW ?_ | w_how)
  w_top on
  try refine codeAny_mono ?_ (fun _ _ g => GoodW.toG g)
  rename IntsAre _ _ => hIA
  rename Heap.IsList _ _ _ => hLL
  (refine law_con w _ _ _ hIA (by omega) _ _ _ _ _ KX T hLL (fun h' tk st => ?_))
  refine ⟨.inl ⟨_, .bool true, [], rfl, raisesW_false ?c1, .bool true, ?c2, unshared_nil⟩, st, rfl, hg⟩
  case c1 => wrow_none_raised
  case c2 => wrow_post
