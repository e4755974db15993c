import PyProof.Rows.All
import Wide.All
import OpenK.AllK
import Wide.FinOn
import PySem.Challenge.RW_in0240_01
open PySem PySem.W PyProof.Rows
set_option Elab.async false
set_option maxRecDepth 100000
set_option maxHeartbeats 0
set_option linter.unusedVariables false
set_option linter.unusedSimpArgs false
set_option genSizeOf false
set_option genSizeOfSpec false
set_option genInjectivity false
namespace Mine
noncomputable section
theorem Y2 {A B : Prop} {G : Prop} (h : A ∧ B) (k : A → B → G) : G := match h with | ⟨h1, h2⟩ => k h1 h2
theorem X10 {a : Sort _} {A : a → Prop} {G : Prop} (h : ∃ x : a, A x) (k : ∀ x : a, A x → G) : G := match h with | ⟨x, h1⟩ => k x h1
theorem Y3 {A B C : Prop} {G : Prop} (h : A ∧ B ∧ C) (k : A → B → C → G) : G := match h with | ⟨h1, h2, h3⟩ => k h1 h2 h3
theorem X11 {a : Sort _} {A B : a → Prop} {G : Prop} (h : ∃ x : a, A x ∧ B x) (k : ∀ x : a, A x → B x → G) : G := match h with | ⟨x, h1, h2⟩ => k x h1 h2
theorem X20 {a b : Sort _} {A : a → b → Prop} {G : Prop} (h : ∃ x : a, ∃ y : b, A x y) (k : ∀ x : a, ∀ y : b, A x y → G) : G := match h with | ⟨x, y, h1⟩ => k x y h1
theorem Y4 {A B C D : Prop} {G : Prop} (h : A ∧ B ∧ C ∧ D) (k : A → B → C → D → G) : G := match h with | ⟨h1, h2, h3, h4⟩ => k h1 h2 h3 h4
theorem XAEA {a : Sort _} {A : Prop} {B C : a → Prop} {G : Prop} (h : A ∧ ∃ x : a, B x ∧ C x) (k : A → ∀ x : a, B x → C x → G) : G := match h with | ⟨h1, x, h2, h3⟩ => k h1 x h2 h3
theorem X12 {a : Sort _} {A B C : a → Prop} {G : Prop} (h : ∃ x : a, A x ∧ B x ∧ C x) (k : ∀ x : a, A x → B x → C x → G) : G := match h with | ⟨x, h1, h2, h3⟩ => k x h1 h2 h3
theorem X21 {a b : Sort _} {A B : a → b → Prop} {G : Prop} (h : ∃ x : a, ∃ y : b, A x y ∧ B x y) (k : ∀ x : a, ∀ y : b, A x y → B x y → G) : G := match h with | ⟨x, y, h1, h2⟩ => k x y h1 h2
theorem X30 {a b c : Sort _} {A : a → b → c → Prop} {G : Prop} (h : ∃ x : a, ∃ y : b, ∃ z : c, A x y z) (k : ∀ x : a, ∀ y : b, ∀ z : c, A x y z → G) : G := match h with | ⟨x, y, z, h1⟩ => k x y z h1
theorem Y5 {A B C D E : Prop} {G : Prop} (h : A ∧ B ∧ C ∧ D ∧ E) (k : A → B → C → D → E → G) : G := match h with | ⟨h1, h2, h3, h4, h5⟩ => k h1 h2 h3 h4 h5
theorem X22 {a b : Sort _} {A B C : a → b → Prop} {G : Prop} (h : ∃ x : a, ∃ y : b, A x y ∧ B x y ∧ C x y) (k : ∀ x : a, ∀ y : b, A x y → B x y → C x y → G) : G := match h with | ⟨x, y, h1, h2, h3⟩ => k x y h1 h2 h3
theorem X31 {a b c : Sort _} {A B : a → b → c → Prop} {G : Prop} (h : ∃ x : a, ∃ y : b, ∃ z : c, A x y z ∧ B x y z) (k : ∀ x : a, ∀ y : b, ∀ z : c, A x y z → B x y z → G) : G := match h with | ⟨x, y, z, h1, h2⟩ => k x y z h1 h2
theorem XAEAEA {a b : Sort _} {A : Prop} {B : a → Prop} {C D : a → b → Prop} {G : Prop} (h : A ∧ ∃ x : a, B x ∧ ∃ y : b, C x y ∧ D x y) (k : A → ∀ x : a, B x → ∀ y : b, C x y → D x y → G) : G := match h with | ⟨h1, x, h2, y, h3, h4⟩ => k h1 x h2 y h3 h4
theorem X32 {a b c : Sort _} {A B C : a → b → c → Prop} {G : Prop} (h : ∃ x : a, ∃ y : b, ∃ z : c, A x y z ∧ B x y z ∧ C x y z) (k : ∀ x : a, ∀ y : b, ∀ z : c, A x y z → B x y z → C x y z → G) : G := match h with | ⟨x, y, z, h1, h2, h3⟩ => k x y z h1 h2 h3
theorem X41 {a b c d : Sort _} {A B : a → b → c → d → Prop} {G : Prop} (h : ∃ x : a, ∃ y : b, ∃ z : c, ∃ u : d, A x y z u ∧ B x y z u) (k : ∀ x : a, ∀ y : b, ∀ z : c, ∀ u : d, A x y z u → B x y z u → G) : G := match h with | ⟨x, y, z, u, h1, h2⟩ => k x y z u h1 h2
theorem X50 {a b c d e : Sort _} {A : a → b → c → d → e → Prop} {G : Prop} (h : ∃ x : a, ∃ y : b, ∃ z : c, ∃ u : d, ∃ v : e, A x y z u v) (k : ∀ x : a, ∀ y : b, ∀ z : c, ∀ u : d, ∀ v : e, A x y z u v → G) : G := match h with | ⟨x, y, z, u, v, h1⟩ => k x y z u v h1
theorem nS {α : Type _} {a : α} {G : Prop} (h : none = some a) : G := nomatch h
theorem nB {G : Prop} (h : false = true) : G := nomatch h
noncomputable def mkView (p : Program) : Program := { p with main := { p.main with body := p.main.body.drop 40 } }
noncomputable def loose : List Str := [Str.ofString "_sre", Str.ofString "_wall", Str.ofString "__name__", Str.ofString "_strcoll", Str.ofString "_strxfrm", Str.ofString "CHAR_MAX", Str.ofString "_grouping_intervals", Str.ofString "_strip_padding", Str.ofString "bytes_types", Str.ofString "_bytes_from_decode_data", Str.ofString "Error", Str.ofString "_ascii_buffer", Str.ofString "_buffer", Str.ofString "_truth", Str.ofString "_B64", Str.ofString "_b64_value", Str.ofString "a2b_base64", Str.ofString "b2a_base64", Str.ofString "b64encode", Str.ofString "b64decode", Str.ofString "_twin_re_1", Str.ofString "translate", Str.ofString "_special_chars_map", Str.ofString "escape", Str.ofString "_translate", Str.ofString "_join_translated_parts", Str.ofString "_law_octets", Str.ofString "_law_b64", Str.ofString "_law_cut", Str.ofString "_law_front", Str.ofString "_law_parts", Str.ofString "_law_in", Str.ofString "_law_takes"]
noncomputable def treeOf : List Obj → Nat → BT → Option BT
  | [], _, T => some T
  | o :: l, i, T => match ((T.ins i o).get i).isSome with
    | true => treeOf l (i + 1) (T.ins i o)
    | false => none
theorem treeOf_abs {life : Life} : ∀ {l : List Obj} {i : Nat} {T T' : BT}, treeOf l i T = some T' → absHeap T' (i + l.length) life = ⟨(absHeap T i life).objs ++ l.toArray, life⟩
  | [], i, T, T', h => by
    cases h
    show absHeap T i life = _
    rw [Array.append_empty]; rfl
  | o :: l, i, T, T', h => by
    unfold treeOf at h
    cases e : ((T.ins i o).get i).isSome with
    | false => rw [e] at h; cases h
    | true =>
      rw [e] at h
      have := treeOf_abs (life := life) h
      rw [List.length_cons, show i + (l.length + 1) = i + 1 + l.length by omega, this, absHeap_ins e]
      show Heap.mk (((absHeap T i life).objs.push o) ++ l.toArray) life = _
      congr 1
      simp
noncomputable def shT (s : Shared) : Option SharedT := (treeOf s.heap.objs.toList 0 .nil).map fun T => ⟨T, s.heap.objs.size, s.heap.life, s.gens, s.drawn, s.toks, s.os⟩
theorem shT_abs {s : Shared} {t : SharedT} (h : shT s = some t) : t.abs = s := by
  obtain ⟨T, e, rfl⟩ := Option.map_eq_some_iff.mp h
  obtain ⟨⟨objs, life⟩, g, d, k, os⟩ := s
  have := treeOf_abs (life := life) e
  simp only [Nat.zero_add, Array.length_toList] at this
  show Shared.mk (absHeap T objs.size life) g d k os = _
  rw [this]
  have z : (absHeap .nil 0 life).objs = #[] := rfl
  rw [z]
  simp
noncomputable def topRunT (stp : SharedT → Thread → Option (SharedT × Thread)) (ok : Thread → Bool) : Nat → SharedT → Thread → Option SharedT
  | 0, _, _ => none
  | n + 1, s, t => match through t with
    | true => some s
    | false => match ok t with
      | false => none
      | true => match stp s t with
        | some (s', t') => topRunT stp ok n s' t'
        | none => none
theorem topRunT_of {tb : String → Option Builtin} {p : Program} {w : World} {n₀ : Nat} {ann : Option Value} : ∀ {n : Nat} {s s' : SharedT} {t : Thread}, topRunT (stepT (denote tb) p w) (stepOk n₀ ann) n s t = some s' → topRun tb p w n₀ ann n s.abs t = some s'.abs
  | 0, _, _, _, h => by cases h
  | n + 1, s, s', t, h => by
    unfold topRunT at h
    unfold topRun
    cases e : through t with
    | true => rw [e] at h; cases h; rfl
    | false =>
      rw [e] at h
      cases k : stepOk n₀ ann t with
      | false => rw [k] at h; cases h
      | true =>
        rw [k] at h
        cases hs : stepT (denote tb) p w s t with
        | none => rw [hs] at h; cases h
        | some r =>
          obtain ⟨s₂, t₂⟩ := r
          rw [hs] at h
          dsimp only at h ⊢
          rw [stepT_spec hs]
          exact topRunT_of h
noncomputable def ends (tb : String → Option Builtin) (imp : (String → Option Builtin) → Program → World → Nat → Shared → Thread → Option Shared) (st : Program → Shared × Thread) (fence : Program → Shared → Option Shared)
    (stp : (Code → Sem Fin) → Program → World → SharedT → Thread → Option (SharedT × Thread)) (den : (String → Option Builtin) → Code → Sem Fin) (ok : Nat → Option Value → Thread → Bool) (nm : Heap → Addr → Str → Option Value) (p : Program) (w : World) (N : Nat) : Option Shared :=
  ((imp tb (opening p) w N (st (opening p)).1 (st (opening p)).2).bind (fence p)).bind fun s₀ => match s₀.heap.isNs mainGlobals && s₀.gens.size == 0 with
  | true => (shT s₀).bind fun t₀ => (topRunT (stp (den tb) p w) (ok s₀.heap.objs.size (nm s₀.heap mainGlobals "__annotations__")) N t₀ (topStub p)).bind fun t₁ => match staticsOk (importedModules p.main.body) s₀.heap t₁.abs.heap && namesBound p t₁.abs.heap && gensDone t₁.abs && laidKept s₀.heap t₁.abs.heap with
      | true => some t₁.abs
      | false => none
  | false => none
theorem ends_is {p : Program} {w : World} {N : Nat} {s : Shared} (h : ends treeTable importEnds start fenceModules? stepT denote stepOk Heap.nsMap p w N = some s) : openEnds treeTable p w N = some s := by
  obtain ⟨s₀, h1, h2⟩ := Option.bind_eq_some_iff.mp h
  unfold openEnds fencedOpening
  rw [h1]
  show topFrom treeTable p w N s₀ = some s
  unfold topFrom
  cases hc : s₀.heap.isNs mainGlobals && s₀.gens.size == 0 with
  | false => rw [hc] at h2; cases h2
  | true =>
    rw [hc] at h2
    obtain ⟨t₀, h3, h4⟩ := Option.bind_eq_some_iff.mp h2
    obtain ⟨t₁, h5, h6⟩ := Option.bind_eq_some_iff.mp h4
    have h7 := topRunT_of h5
    rw [shT_abs h3] at h7
    dsimp only
    rw [h7]
    exact h6
noncomputable abbrev law1 : OpenLaw := PySem.Challenge.rw_in0240_01
noncomputable abbrev fl (w : World) (a b : Bool) : World := (w.withFollow "comprehension-iter-twice" a).withFollow "special-get-raises" b
noncomputable abbrev xt (p : Program) (s : Shared) : Bool := xlAt (mkView p) [] s && recOk (RowW.records (OpenRow.toRowW (OpenLaw.row law1))) s
open PySem.W.Fast in
noncomputable abbrev Told {α : Type} (Yf : Shared → α) (Ya : World → α) (w : World) : Prop :=
  (ends tw14364793385576792824 tw10274390034422433532 tw1435165496053646825 tw14289696077712309145 tw10156331382660048174 tw11892475500146522536 tw6613529449190102663 tw8920871248978507458 PySem.Challenge.pw_in0240_01 w 4978).map (fun s =>
   (tw4187177175401517315 (mkView PySem.Challenge.pw_in0240_01) loose (importedModules PySem.Challenge.pw_in0240_01.main.body) (fun s => xlAt (mkView PySem.Challenge.pw_in0240_01) [] s && recOk [] s) true s, Yf s)) = some (openGood (mkView PySem.Challenge.pw_in0240_01) loose, Ya w)
open PySem.W.Fast in
theorem left_of {α : Type} {Yf : Shared → α} {Ya : World → α} (h00 : ∀ w, Told Yf Ya (fl w false false)) (h01 : ∀ w, Told Yf Ya (fl w false true)) (h10 : ∀ w, Told Yf Ya (fl w true false)) (h11 : ∀ w, Told Yf Ya (fl w true true)) :
    LeftO PySem.Challenge.pw_in0240_01 (mkView PySem.Challenge.pw_in0240_01) loose (xt PySem.Challenge.pw_in0240_01) Yf Ya 4978 := by
  have key : ∀ w, Told Yf Ya w := byRow2 "special-get-raises" (byRow2 "comprehension-iter-twice" h00 h10) (byRow2 "comprehension-iter-twice" h01 h11)
  intro w
  have := key w
  unfold Told at this
  rw [← te14364793385576792824, ← te10274390034422433532, ← te1435165496053646825, ← te14289696077712309145, ← te10156331382660048174, ← te11892475500146522536, ← te6613529449190102663, ← te8920871248978507458, ← te4187177175401517315] at this
  obtain ⟨s, h1, h2⟩ := Option.map_eq_some_iff.mp this
  rw [ends_is h1]
  exact congrArg some h2
local macro_rules | `(tactic| o_head $H) => `(tactic| exact ‹False›.elim)
open PySem.W.Fast in
theorem lk : tw12908688711261696721 (tw2368527892694137696 PySem.Challenge.rw_in0240_01).prog = true := by
 delta tw12908688711261696721
 refine look_both (look_both (look_both (look_both (look_both ?_ ?_) ?_) ?_) ?_) ?_ <;> decide +kernel
open PySem.W.Fast in
theorem ws : OpenLaw.wellSaid PySem.Challenge.rw_in0240_01 = true := by
 rw [te9446332074065402090]
 delta tw9446332074065402090 tw17960256430627541270 tw2436336058641802641
 rw [lk]
 decide +kernel
theorem hd (_ : False) : PySem.Challenge.rw_in0240_01.Holds := by
  refine holds_law ws fun said => ?_
  k_head
noncomputable abbrev hx : Hook := kmHook hd.heap_1 [2,3,32,34,35,37,38,39,41,42,44,45,46,48,49,51,52,53,55,56,58,59,60,62,63,65,66,67,68,70,71,73,74,75,82,83,84,85,88,90,91,93,94,95,97,98,100,101,102,104,105,107,108,109,111,112,114,115,116,117,119,120,122,123,124,125,127,128,130,131,132,133,135,136,138,139,140,141,143,144,146,147,151,152,153,155,156,158,159,161,165,167,168,170,171,172,174,175,177,178,179,181,182,184,185,186,189,190,191,194,195,196,198,199,201,202,203,206,207,208,211,212,213,215,216,218,219,220,223,224,225,228,229] (fun _ => by kernel_rfl) [173,226]
theorem t00 : ∀ w, Told hx.obs hx.val (fl w false false) := fun w => by kernel_rfl
theorem t01 : ∀ w, Told hx.obs hx.val (fl w false true) := fun w => by kernel_rfl
theorem t10 : ∀ w, Told hx.obs hx.val (fl w true false) := fun w => by kernel_rfl
theorem t11 : ∀ w, Told hx.obs hx.val (fl w true true) := fun w => by kernel_rfl
noncomputable abbrev hd.view_39 : Program := PySem.Challenge.pw_in0240_01
open PySem.Spec PySem.Calls
theorem byG {P : Prop} (h : ∀ G : Prop,(P -> G) -> G) : P:=h P id
section
variable {w : World} {p : Program} {loose : List Str} {mean : ExcName -> Option Value} {mg mb : Str -> Option Value}
theorem con_enter {prog : Program} {K : Frag} {A : Around} {s : Shared} {R : Result -> Shared -> Prop} {name qual : Str} {params : Arguments} {body : List Stmt} {scope : Scope} {dV kV doc pm cdv ct oc : Value} {an od : Option Addr} {osl : Array (Option Value)} {f : Addr} {args : Args} {binds : List (Str × Value)}
  (X : K.In s.heap) (T : Top p loose mean mg mb s.heap)
  (ho : K.lookup f = some ⟨oc,od, .func (fnOf name qual params body scope dV kV doc pm an cdv ct),osl⟩) (hcd : codeIn K cdv qual = true) (hroom : A.depth < recursionLimit)
  (hbind : BindsTo s (fnOf name qual params body scope dV kV doc pm an cdv ct) args binds) (hloc : ∀ y ∈ binds,scope.names.lookup y.1 = some .local)
  (h : ∀ L' h₁,Fr s.heap L' h₁ (fun y => binds.reverse.lookup y) -> News s.heap L' h₁ [] ->
   wpAny (model prog w) (A.deeper (envOf qual scope L' f cdv)) (execs body (envOf qual scope L' f cdv))
    (fun fl s' => R (.ok (.ret (match fl with | .ret v => v | _ => .none))) s') (fun z9 z9 => False)
    { s with heap:=h₁,toks:=s.toks + binds.length })
  (hco : scope.isCoroutine = false) (hgen : scope.isGenerator = false) (hk : scope.kind = .function)
  (hcell : ∀ x ∈ scope.names,x.2 ≠ .cell) : codeAny (model prog w) A (.call (.ref f) args) R s:=by
 refine codeAny_call_def (fd:=fnOf name qual params body scope dV kV doc pm an cdv ct) (body:=body) (binds:=binds) hroom (X _ _ ho) rfl T.nolimit (codeRec_of X hcd) rfl hbind hcell hloc (fun h₁ hns hk₁ => ?_) hco hgen hk
 exact wpAny_mono (h s.heap.objs.size h₁ ⟨hns,hk₁,Nat.le_refl _⟩ News.nil) (fun _ _ x => x) fun _ _ x => x.elim
end
section
variable {w : World} {p : Program} {loose : List Str} {mean : ExcName -> Option Value} {mg mb : Str -> Option Value}
theorem con_enterC {prog : Program} {K : Frag} {A : Around} {s : Shared} {R : Result -> Shared -> Prop} {name qual : Str} {params : Arguments} {body : List Stmt} {scope : Scope} {dV kV doc pm cdv ct oc : Value} {an od : Option Addr} {osl : Array (Option Value)} {f : Addr} {args : Args} {binds : List (Str × Value)}
  (X : K.In s.heap) (T : Top p loose mean mg mb s.heap)
  (ho : K.lookup f = some ⟨oc,od, .func (fnOf name qual params body scope dV kV doc pm an cdv ct),osl⟩) (hcd : codeIn K cdv qual = true) (hroom : A.depth < recursionLimit)
  (hbind : BindsTo s (fnOf name qual params body scope dV kV doc pm an cdv ct) args binds)
  (hkind : (binds.all fun y => scope.names.lookup y.1 == some .local || scope.names.lookup y.1 == some .cell) = true)
  (hnd : ((cellsFrom 0 scope.names []).map (·.1)).Nodup)
  (h : ∀ L' h₁ tk cells,Fr s.heap L' h₁ (bindL (envOfC qual scope L' f cdv).kindOf binds fun z9 => none) -> News s.heap L' h₁ cells ->
   CellsAre (bindC (envOfC qual scope L' f cdv).kindOf binds fun z9 => none) (cellsFrom (L' + 1) scope.names []) cells ->
   wpAny (model prog w) (A.deeper (envOfC qual scope L' f cdv)) (execs body (envOfC qual scope L' f cdv))
    (fun fl s' => R (.ok (.ret (match fl with | .ret v => v | _ => .none))) s') (fun z9 z9 => False)
    { s with heap:=h₁,toks:=tk })
  (hco : scope.isCoroutine = false) (hgen : scope.isGenerator = false) (hk : scope.kind = .function) : codeAny (model prog w) A (.call (.ref f) args) R s:=by
 refine codeAny_call_function hroom (X _ _ ho) rfl hco hgen rfl (codeRec_of X hcd) (hbind _ _ _ _ ?_)
 refine wpAny_newFunctionEnv_cells hk (kindsX hkind _) fun env' he s' x => ?_
 subst he
 refine ⟨T.nolimit.keeps x.toInCall.keep,codeAny_func ?_⟩
 refine X21 x.done fun h₁ tk q2 _ => ?_;subst q2
 have hk₁:=x.toInCall.keep
 refine X11 (Cl.news (h₀:=s.heap) (Nat.le_refl _) fun n c hm => ⟨x.cell n c (lookup_of_mem_nodup (cellsFrom_names scope.names 0 (s.heap.objs.size + 1) [] [] rfl ▸ hnd) hm),x.above n c hm⟩) fun cells NC Y => ?_
 exact wpAny_mono (h s.heap.objs.size h₁ tk cells ⟨x.toInCall.ns,hk₁,Nat.le_refl _⟩ NC Y) (fun _ _ x => x) fun _ _ x => x.elim
end
section
noncomputable abbrev vw : Program:=hd.view_39
inductive PV where
 | int (n : Int) | bool (b : Bool) | str (x : Str) | bytes (b : Array UInt8) | val (v : Value) | lst (l : List PV) | tup (l : List PV)
noncomputable abbrev PV.none : PV:=.val .none
mutual
inductive Rep (h : Heap) (M : List Addr) : PV -> Value -> Prop
 | int (n : Int) (t : Tok) : Rep h M (.int n) (.int n t)
 | bool (b : Bool) : Rep h M (.bool b) (.bool b)
 | str (x : Str) (t : Tok) : Rep h M (.str x) (.str x t)
 | bytes (b : Array UInt8) (t : Tok) : Rep h M (.bytes b) (.bytes b t)
 | val (v : Value) : Rep h M (.val v) v
 | lst {a : Addr} {l : List PV} {vs : Array Value} {n : Nat} : h.get? a = some (W.listOf vs n) -> a ∉ M -> Reps h M l vs.toList -> Rep h M (.lst l) (.ref a)
 | tup {a : Addr} {l : List PV} {vs : Array Value} {n : Nat} : h.get? a = some { cls:=.type "tuple",data:=.seq vs n } -> a ∉ M -> Reps h M l vs.toList -> Rep h M (.tup l) (.ref a)
inductive Reps (h : Heap) (M : List Addr) : List PV -> List Value -> Prop
 | nil : Reps h M [] []
 | cons {p : PV} {v : Value} {l : List PV} {vs : List Value} : Rep h M p v -> Reps h M l vs -> Reps h M (p :: l) (v :: vs)
end
theorem len1 {α : Type} {l : List α} (h : l.length = 1) : ∃ a,l = [a]:=List.length_eq_one_iff.mp h
theorem len2 {α : Type} {l : List α} (h : l.length = 2) : ∃ a b,l = [a,b]:=by
 cases l with
 | nil => cases h
 | cons a l =>
  obtain ⟨b,rfl⟩ := len1 (Nat.succ.inj h)
  exact ⟨a,b,rfl⟩
theorem len3 {α : Type} {l : List α} (h : l.length = 3) : ∃ a b c,l = [a,b,c]:=by
 cases l with
 | nil => cases h
 | cons a l =>
  refine X20 (len2 (Nat.succ.inj h)) fun b c q2 => ?_;subst q2
  exact ⟨a,b,c,rfl⟩
theorem len4 {α : Type} {l : List α} (h : l.length = 4) : ∃ a b c d,l = [a,b,c,d]:=by
 cases l with
 | nil => cases h
 | cons a l =>
  refine X30 (len3 (Nat.succ.inj h)) fun b c d q3 => ?_;subst q3
  exact ⟨a,b,c,d,rfl⟩
section
variable {h : Heap} {M : List Addr}
theorem Reps.ind {P : List PV -> List Value -> Prop} (n : P [] []) (c : ∀ p v l vs,Rep h M p v -> Reps h M l vs -> P l vs -> P (p :: l) (v :: vs)) {l : List PV} {vs : List Value} (r : Reps h M l vs) : P l vs :=
 @Reps.rec h M (fun z9 z9 z9 => True) (fun l vs _ => P l vs) (fun z9 z9 => trivial) (fun z9 => trivial) (fun z9 z9 => trivial) (fun z9 z9 => trivial) (fun z9 => trivial) (fun z9 z9 z9 z9 => trivial) (fun z9 z9 z9 z9 => trivial) n (fun {p v l vs} a b _ ih => c p v l vs a b ih) l vs r
noncomputable def RepD (h : Heap) (M : List Addr) : PV -> Value -> Prop
 | .int n,u => ∃ t,Value.int n t = u
 | .bool b,u => Value.bool b = u
 | .str x,u => ∃ t,Value.str x t = u
 | .bytes b,u => ∃ t,Value.bytes b t = u
 | .val v,u => v = u
 | .lst l,u => ∃ a,Value.ref a = u /\ ∃ vs n,h.get? a = some (W.listOf vs n) /\ a ∉ M /\ Reps h M l vs.toList
 | .tup l,u => ∃ a,Value.ref a = u /\ ∃ vs n,h.get? a = some { cls:=.type "tuple",data:=.seq vs n } /\ a ∉ M /\ Reps h M l vs.toList
noncomputable def RepsD (h : Heap) (M : List Addr) : List PV -> List Value -> Prop
 | [],u => [] = u
 | p :: l,u => ∃ v t,v :: t = u /\ Rep h M p v /\ Reps h M l t
theorem Rep.d {p : PV} {v : Value} (r : Rep h M p v) : RepD h M p v :=
 @Rep.rec h M (fun p v _ => RepD h M p v) (fun z9 z9 z9 => True) (fun _ t => ⟨t,rfl⟩) (fun z9 => rfl) (fun _ t => ⟨t,rfl⟩) (fun _ t => ⟨t,rfl⟩) (fun z9 => rfl) (fun e m r _ => ⟨_,rfl,_,_,e,m,r⟩) (fun e m r _ => ⟨_,rfl,_,_,e,m,r⟩) trivial (fun z9 z9 z9 z9 => trivial) p v r
theorem Reps.d {l : List PV} {v : List Value} (r : Reps h M l v) : RepsD h M l v:=r.ind rfl fun _ _ _ _ a b _ => ⟨_,_,rfl,a,b⟩
theorem Rep.inV {v u : Value} (r : Rep h M (.val v) u) : v = u:=r.d
theorem Rep.inI {n : Int} {u : Value} (r : Rep h M (.int n) u) : ∃ t,Value.int n t = u:=r.d
theorem Rep.inS {x : Str} {u : Value} (r : Rep h M (.str x) u) : ∃ t,Value.str x t = u:=r.d
theorem Rep.inY {b : Array UInt8} {u : Value} (r : Rep h M (.bytes b) u) : ∃ t,Value.bytes b t = u:=r.d
theorem Rep.elV {v u : Value} {P : Value -> Prop} (r : Rep h M (.val v) u) (k : P v) : P u:=r.inV ▸ k
theorem Rep.elI {n : Int} {u : Value} {P : Value -> Prop} (r : Rep h M (.int n) u) (k : ∀ t,P (.int n t)) : P u:=r.inI.elim fun t e => e ▸ k t
theorem Rep.elB {b : Bool} {u : Value} {P : Value -> Prop} (r : Rep h M (.bool b) u) (k : P (.bool b)) : P u:=(r.d : Value.bool b = u) ▸ k
theorem Rep.elS {x : Str} {u : Value} {P : Value -> Prop} (r : Rep h M (.str x) u) (k : ∀ t,P (.str x t)) : P u:=r.inS.elim fun t e => e ▸ k t
theorem Rep.elY {b : Array UInt8} {u : Value} {P : Value -> Prop} (r : Rep h M (.bytes b) u) (k : ∀ t,P (.bytes b t)) : P u:=r.inY.elim fun t e => e ▸ k t
theorem Rep.elL {l : List PV} {u : Value} {P : Value -> Prop} (r : Rep h M (.lst l) u) (k : ∀ a vs n,h.get? a = some (W.listOf vs n) -> a ∉ M -> Reps h M l vs.toList -> P (.ref a)) : P u:=let ⟨a,e,vs,n,q,m,t⟩ := r.d;e ▸ k a vs n q m t
theorem Rep.elT {l : List PV} {u : Value} {P : Value -> Prop} (r : Rep h M (.tup l) u) (k : ∀ a vs n,h.get? a = some { cls:=.type "tuple",data:=.seq vs n } -> a ∉ M -> Reps h M l vs.toList -> P (.ref a)) : P u:=let ⟨a,e,vs,n,q,m,t⟩ := r.d;e ▸ k a vs n q m t
theorem Reps.elN {u : List Value} {P : List Value -> Prop} (r : Reps h M [] u) (k : P []) : P u:=(r.d : [] = u) ▸ k
theorem Reps.elC {p : PV} {l : List PV} {u : List Value} {P : List Value -> Prop} (r : Reps h M (p :: l) u) (k : ∀ v t,Rep h M p v -> Reps h M l t -> P (v :: t)) : P u:=let ⟨v,t,e,a,b⟩ := r.d;e ▸ k v t a b
theorem Rep.elT2 {p q : PV} {u : Value} {P : Value -> Prop} (r : Rep h M (.tup [p,q]) u) (k : ∀ a v₁ v₂ n,h.get? a = some { cls:=.type "tuple",data:=.seq #[v₁,v₂] n } -> a ∉ M -> Rep h M p v₁ -> Rep h M q v₂ -> P (.ref a)) : P u:=by
 apply r.elT
 intro a ⟨vs⟩ n e m rs
 obtain ⟨v,t,rfl,r1,rs⟩ := rs.d
 obtain ⟨v',t,rfl,r2,rs⟩ := rs.d
 obtain rfl : [] = t:=rs.d
 exact k _ _ _ _ e m r1 r2
theorem Rep.elT3 {a b c : PV} {u : Value} {P : Value -> Prop} (r : Rep h M (.tup [a,b,c]) u) (k : ∀ ad v₁ v₂ v₃ n,h.get? ad = some { cls:=.type "tuple",data:=.seq #[v₁,v₂,v₃] n } -> ad ∉ M -> Rep h M a v₁ -> Rep h M b v₂ -> Rep h M c v₃ -> P (.ref ad)) : P u:=by
 apply r.elT
 intro a ⟨vs⟩ n e m rs
 obtain ⟨v,t,rfl,r1,rs⟩ := rs.d
 obtain ⟨v',t,rfl,r2,rs⟩ := rs.d
 obtain ⟨v'',t,rfl,r3,rs⟩ := rs.d
 obtain rfl : [] = t:=rs.d
 exact k _ _ _ _ _ e m r1 r2 r3
end
noncomputable def isSeq (o : Obj) : Bool:=match o.data with | .seq _ _ => true | _ => false
noncomputable def SK (M : List Addr) (h h' : Heap) : Prop := ∀ b o,h.get? b = some o -> isSeq o = true -> b ∉ M -> h'.get? b = some o
theorem Rep.keepS {h h' : Heap} {M M' : List Addr} (k : SK M h h') (g : ∀ b o,h.get? b = some o -> isSeq o = true -> b ∉ M -> b ∉ M') {p : PV} {v : Value} (r : Rep h M p v) : Rep h' M' p v :=
 @Rep.rec h M (fun p v _ => Rep h' M' p v) (fun l vs _ => Reps h' M' l vs) .int .bool .str .bytes .val (fun e m _ ih => .lst (k _ _ e rfl m) (g _ _ e rfl m) ih) (fun e m _ ih => .tup (k _ _ e rfl m) (g _ _ e rfl m) ih) .nil (fun _ _ a b => .cons a b) p v r
theorem Reps.keepS {h h' : Heap} {M M' : List Addr} (k : SK M h h') (g : ∀ b o,h.get? b = some o -> isSeq o = true -> b ∉ M -> b ∉ M') {p : List PV} {v : List Value} (r : Reps h M p v) : Reps h' M' p v :=
 r.ind .nil fun _ _ _ _ a _ ih => .cons (a.keepS k g) ih
theorem Rep.keep {h h' : Heap} {M M' : List Addr} (k : SK M h h') (g : ∀ b o,h.get? b = some o -> b ∉ M -> b ∉ M') {p : PV} {v : Value} (r : Rep h M p v) : Rep h' M' p v:=r.keepS k fun b o e _ m => g b o e m
theorem Reps.keep {h h' : Heap} {M M' : List Addr} (k : SK M h h') (g : ∀ b o,h.get? b = some o -> b ∉ M -> b ∉ M') {p : List PV} {v : List Value} (r : Reps h M p v) : Reps h' M' p v:=r.keepS k fun b o e _ m => g b o e m
theorem Reps.length {h : Heap} {M : List Addr} {p : List PV} {v : List Value} (r : Reps h M p v) : v.length = p.length:=r.ind (P:=fun p v => v.length = p.length) rfl fun _ _ _ _ _ _ ih => congrArg (· + 1) ih
theorem Reps.snoc {h : Heap} {M : List Addr} {p : PV} {v : Value} {l : List PV} {vs : List Value} (r : Reps h M l vs) (q : Rep h M p v) : Reps h M (l ++ [p]) (vs ++ [v]):=r.ind (P:=fun l vs => Reps h M (l ++ [p]) (vs ++ [v])) (.cons q .nil) fun _ _ _ _ a _ ih => .cons a ih
theorem Reps.at {h : Heap} {M : List Addr} {l : List PV} {vs : List Value} {i : Nat} {p : PV} (r : Reps h M l vs) : l[i]? = some p -> ∃ v,vs[i]? = some v /\ Rep h M p v :=
 r.ind (P:=fun l vs => ∀ i,l[i]? = some p -> ∃ v,vs[i]? = some v /\ Rep h M p v) (fun _ e => by rw [List.getElem?_nil] at e;exact nomatch e) (fun _ _ _ _ a _ ih i => Nat.casesOn i (fun e => ⟨_,rfl,Option.some.inj e ▸ a⟩) ih) i
noncomputable abbrev Ext (h h' : Heap) : Prop := ∀ b o,h.get? b = some o -> h'.get? b = some o
theorem Ext.sk {M : List Addr} {h h' : Heap} (e : Ext h h') : SK M h h' := fun b o q _ _ => e b o q
theorem Rep.ext {h h' : Heap} {M : List Addr} {p : PV} {v : Value} (r : Rep h M p v) (e : Ext h h') : Rep h' M p v:=r.keep e.sk fun _ _ _ m => m
inductive LO where
 | list (l : List PV) | app (a : Addr) | tab | dict (w : World) (kvs : List (Str × PV)) | any
noncomputable def RepO (h : Heap) (M : List Addr) : LO -> Obj -> Prop
 | .list l,o => ∃ vs n,o = W.listOf vs n /\ Reps h M l vs.toList
 | .app a,o => o = { cls:=.type "builtin_function_or_method",data:=.fields #[.builtin "list.append", .ref a] }
 | .tab,o => ∃ ps,o = tabObj ps /\ TriplesOk ps.toList
 | .dict w kvs,o => ∃ vs,o.IsDictOf (strKind vw w) ((kvs.map (·.1)).zip vs) /\ Reps h M (kvs.map (·.2)) vs
 | .any,o => ∀ v,o.data ≠ .cell v
theorem RepO.keep {h h' : Heap} {M M' : List Addr} (k : SK M h h') (g : ∀ b o,h.get? b = some o -> b ∉ M -> b ∉ M') {l : LO} {o : Obj} (r : RepO h M l o) : RepO h' M' l o:=by
 cases l with
 | list l => refine X21 r fun vs n e r => ?_;exact ⟨vs,n,e,r.keep k g⟩
 | app a => exact r
 | tab => exact r
 | dict w kvs => refine X11 r fun vs e r => ?_;exact ⟨vs,e,r.keep k g⟩
 | any => exact r
noncomputable def At (env : Env) (h : Heap) (m : Str -> Option Value) (x : Str) (v : Value) : Prop :=
 (env.kindOf x = some .local /\ m x = some v) \/ ((env.kindOf x = some .cell \/ (env.kindOf x = some .free /\ (x == ("__classdict__" : Str)) = false)) /\ ∃ c,env.cells.lookup x = some c /\ h.IsCell c (some v))
structure Cx where
 h₀ : Heap
 M₀ : List Addr
 env : Env
 nms : List Str
 X : Shared -> Prop
structure CxOk (w : World) (C : Cx) : Prop where
 x : ∀ s h k,C.X s -> C.X { s with heap:=h,toks:=k }
 kind : C.env.scope.kind = .function
 nd : C.nms.Nodup
 dbg : ∀ x ∈ C.nms,(x == ("__debug__" : Str)) = false
 K : (hd.heap_1 w.params).In C.h₀
 T : ∃ p loose mean mg mb,Top p loose mean mg mb C.h₀
 g : C.env.globals = mainGlobals
 b : C.env.builtins = builtinsNs
 L : C.h₀.get? C.env.locals = none
 m : ∀ b ∈ C.M₀, ∃ o,C.h₀.get? b = some o
 cl : ∀ x c,(x,c) ∈ C.env.cells -> C.env.kindOf x = some .cell -> C.h₀.get? c = none /\ ∀ y c',(y,c') ∈ C.env.cells -> y ≠ x -> c' ≠ c
noncomputable abbrev Led:=List (Addr × LO)
noncomputable abbrev Led.M (led : Led) : List Addr:=led.map (·.1)
noncomputable abbrev Cx.M (C : Cx) (led : Led) : List Addr:=C.M₀ ++ led.map (·.1)
structure AS (C : Cx) (Γ : List (Option PV)) (led : Led) (s : Shared) : Prop where
 fr : ∃ m,s.heap.Ns C.env.locals m /\ ∀ (i : Nat) x pv,C.nms[i]? = some x -> Γ[i]? = some (some pv) -> ∃ v,At C.env s.heap m x v /\ Rep s.heap (C.M led) pv v
 kp : ∀ b o,C.h₀.get? b = some o -> s.heap.get? b = some o
 lg : ∀ p ∈ led,C.h₀.get? p.1 = none /\ ∃ o,s.heap.get? p.1 = some o /\ RepO s.heap (C.M led) p.2 o
 nd : (led.map (·.1)).Nodup
 ce : ∀ x c,(x,c) ∈ C.env.cells -> C.env.kindOf x = some .cell -> ∃ v₀,s.heap.IsCell c v₀
 ll : ∀ p ∈ led,p.1 ≠ C.env.locals
 x : C.X s
section
variable {w : World} {C : Cx} {A : Around} {Γ : List (Option PV)} {led : Led} {s : Shared}
theorem At.ext {env : Env} {h h' : Heap} {m : Str -> Option Value} {x : Str} {v : Value} (a : At env h m x v) (e : Ext h h') : At env h' m x v:=by
 refine Or.elim a (fun a => ?_) fun q1 => XAEAEA q1 fun k c hc o ho hd => ?_
 ·exact .inl a
 ·exact .inr ⟨k,c,hc,o,e _ _ ho,hd⟩
theorem AS.ext (Z : CxOk w C) (a : AS C Γ led s) {h' : Heap} {k : Nat} (e : Ext s.heap h') : AS C Γ led { s with heap:=h',toks:=k } := by
 refine X11 a.fr fun m F hm => ?_
 refine ⟨⟨m,F.keeps e,fun i x pv h1 h2 => ?_⟩,fun b o q => e b o (a.kp b o q),fun p hp => ?_,a.nd,fun x c h1 h2 => ?_,a.ll,Z.x _ _ _ a.x⟩
 ·refine X11 (hm i x pv h1 h2) fun v h3 h4 => ?_
  exact ⟨v,h3.ext e,h4.ext e⟩
 ·refine XAEA (a.lg p hp) fun h2 o h3 h4 => ?_
  exact ⟨h2,o,e _ _ h3,h4.keep e.sk fun _ _ _ q => q⟩
 ·refine X21 (a.ce x c h1 h2) fun v o h3 h4 => ?_
  exact ⟨v,o,e _ _ h3,h4⟩
theorem AS.tok (Z : CxOk w C) (a : AS C Γ led s) {k : Nat} : AS C Γ led { s with toks:=k } := a.ext Z (h' := s.heap) fun _ _ e => e
noncomputable def Pure (w : World) (A : Around) (C : Cx) (Γ : List (Option PV)) (led : Led) (e : Expr) (pv : PV) : Prop :=
 ∀ (s : Shared) (Q E : Value -> Shared -> Prop),AS C Γ led s -> (∀ v h k,Rep h (C.M led) pv v -> Ext s.heap h -> AS C Γ led { s with heap:=h,toks:=k } -> Q v { s with heap:=h,toks:=k }) -> wpAny (model vw w) A (eval e C.env) Q E s
noncomputable def Test (w : World) (A : Around) (C : Cx) (Γ : List (Option PV)) (led : Led) (e : Expr) (b : Bool) : Prop :=
 ∀ (s : Shared) (Q : Bool -> Shared -> Prop) (E : Value -> Shared -> Prop),AS C Γ led s -> (∀ h k,Ext s.heap h -> AS C Γ led { s with heap:=h,toks:=k } -> Q b { s with heap:=h,toks:=k }) -> wpAny (model vw w) A (isTrue e C.env (eval e C.env)) Q E s
noncomputable def Op2 (w : World) (A : Around) (f : Value -> Value -> Sem Value) (a b c : PV) : Prop :=
 ∀ (M : List Addr) (s : Shared) (Q E : Value -> Shared -> Prop) (va vb : Value),(∀ b ∈ M, ∃ o,s.heap.get? b = some o) -> Rep s.heap M a va -> Rep s.heap M b vb -> (∀ v h k,Rep h M c v -> Ext s.heap h -> Q v { s with heap:=h,toks:=k }) -> wpAny (model vw w) A (f va vb) Q E s
theorem AS.alive (Z : CxOk w C) (a : AS C Γ led s) : ∀ b ∈ C.M led, ∃ o,s.heap.get? b = some o:=fun b hb => by
 refine Or.elim (List.mem_append.mp hb) (fun hb => ?_) fun hb => ?_
 ·exact (Z.m b hb).imp fun o e => a.kp b o e
 refine X11 (List.mem_map.mp hb) fun q hq q2 => ?_;subst q2
 refine XAEA (a.lg q hq) fun _ o e _ => ?_
 exact ⟨o,e⟩
theorem noExt {h : Heap} : Ext h h:=fun _ _ e => e
theorem AS.load (Z : CxOk w C) (a : AS C Γ led s) {i : Nat} {x : Str} {pv : PV} {Q E : Value -> Shared -> Prop} (hx : C.nms[i]? = some x) (hv : Γ[i]? = some (some pv)) (h : ∀ v,Rep s.heap (C.M led) pv v -> Q v s) : wpAny (model vw w) A (loadName C.env x) Q E s:=by
 refine X11 a.fr fun m F hm => ?_
 refine X11 (hm i x pv hx hv) fun v h3 h4 => ?_
 refine Or.elim h3 (fun q1 => Y2 q1 fun k e => ?_) fun q2 => XAEA q2 fun q3 c hc hcell => Or.elim q3 (fun k => ?_) fun q4 => Y2 q4 fun k hn => ?_
 ·exact wpAny_loadName_local Z.kind k F e (h v h4)
 ·exact wpAny_loadName_cell Z.kind k hc hcell (h v h4)
 ·exact wpAny_loadName_free Z.kind k hc hcell (h v h4) hn
theorem Pure.name (Z : CxOk w C) (i : Nat) {x : Str} {pos : Pos} {pv : PV} (hx : C.nms[i]? = some x) (hv : Γ[i]? = some (some pv)) : Pure w A C Γ led (.Name x pos) pv:=fun s Q E a h =>
 wpAny_Name (a.load Z hx hv fun v r => h v s.heap s.toks r noExt a) (Z.dbg x (List.mem_of_getElem? hx))
theorem Pure.global (Z : CxOk w C) {x : Str} {pos : Pos} {v : Value} (e : nsIn (hd.heap_1 w.params) mainGlobals x = some (some v)) (hx : C.env.kindOf x = some .globalImplicit) (hd : (x == ("__debug__" : Str)) = false) :
  Pure w A C Γ led (.Name x pos) (.val v):=fun s Q E a h => by
 refine X11 a.fr fun m F hm => ?_
 refine X50 Z.T fun p loose mean mg mb T => ?_
 refine Name_function_global Z.kind hx (loadGlobal_global (env:=C.env) ?_ (mg_of Z.K T.g e) (h v s.heap s.toks (.val v) noExt a)) hd
 rw [Z.g];exact T.g.keeps a.kp
theorem Pure.globalI (Z : CxOk w C) {x : Str} {pos : Pos} {n : Int} {t : Tok} (e : nsIn (hd.heap_1 w.params) mainGlobals x = some (some (.int n t))) (hx : C.env.kindOf x = some .globalImplicit) (hd : (x == ("__debug__" : Str)) = false) :
  Pure w A C Γ led (.Name x pos) (.int n):=fun s Q E a h => Pure.global Z e hx hd s Q E a fun v h' k r => by apply Rep.elV r;exact h _ h' k (.int n t)
theorem Pure.globalB (Z : CxOk w C) {x : Str} {pos : Pos} {n : Array UInt8} {t : Tok} (e : nsIn (hd.heap_1 w.params) mainGlobals x = some (some (.bytes n t))) (hx : C.env.kindOf x = some .globalImplicit) (hd : (x == ("__debug__" : Str)) = false) :
  Pure w A C Γ led (.Name x pos) (.bytes n):=fun s Q E a h => Pure.global Z e hx hd s Q E a fun v h' k r => by apply Rep.elV r;exact h _ h' k (.bytes n t)
theorem Pure.builtin (Z : CxOk w C) {x : Str} {pos : Pos} {v : Value} (e : nsIn (hd.heap_1 w.params) mainGlobals x = some none) (hv : bootBuiltins x = some v) (hn : x ≠ "__name__") (hx : C.env.kindOf x = some .globalImplicit) (hd : (x == ("__debug__" : Str)) = false) :
  Pure w A C Γ led (.Name x pos) (.val v):=fun s Q E a h => by
 refine X11 a.fr fun m F hm => ?_
 refine X50 Z.T fun p loose mean mg mb T => ?_
 refine Name_function_global Z.kind hx (loadGlobal_builtin (env:=C.env) ?_ (mg_none_of Z.K T.g e) (by rw [Z.b];exact T.b.keeps a.kp) ((T.builtins x hn).trans hv) (h v s.heap s.toks (.val v) noExt a)) hd
 rw [Z.g];exact T.g.keeps a.kp
theorem Pure.int (Z : CxOk w C) {n : Int} {k : Nat} {pos : Pos} : Pure w A C Γ led (.Constant (.int n) k pos) (.int n):=fun _ _ _ a h => wpAny_Constant_int (h _ _ _ (.int n _) noExt (a.tok Z))
theorem Pure.str (Z : CxOk w C) {x : Str} {k : Nat} {pos : Pos} : Pure w A C Γ led (.Constant (.str x) k pos) (.str x):=fun _ _ _ a h => wpAny_Constant_str (h _ _ _ (.str x _) noExt (a.tok Z))
theorem Pure.bool {b : Bool} {k : Nat} {pos : Pos} : Pure w A C Γ led (.Constant (.bool b) k pos) (.bool b):=fun s _ _ a h => wpAny_Constant_bool (h _ s.heap s.toks (.bool b) noExt a)
theorem Pure.nil {k : Nat} {pos : Pos} : Pure w A C Γ led (.Constant .none k pos) PV.none:=fun s _ _ a h => wpAny_Constant_none (h _ s.heap s.toks (.val _) noExt a)
theorem Pure.binop (Z : CxOk w C) {op : Operator} {l r : Expr} {pos : Pos} {a b c : PV} (h1 : Pure w A C Γ led l a) (h2 : Pure w A C Γ led r b) (o : Op2 w A (binaryOp op) a b c) : Pure w A C Γ led (.BinOp l op r pos) c:=fun s Q E as h =>
 wpAny_BinOp (h1 s _ E as fun va ha ka ra ea aa => h2 _ _ E aa fun vb hb kb rb eb ab => o _ _ Q E va vb (ab.alive Z) (ra.ext eb) rb fun v hv kv rv ev => h v hv kv rv (fun x y q => ev x y (eb x y (ea x y q))) (ab.ext Z ev))
theorem Pure.cmp (Z : CxOk w C) {op : CmpOp} {l r : Expr} {pos : Pos} {a b c : PV} (h1 : Pure w A C Γ led l a) (h2 : Pure w A C Γ led r b) (o : Op2 w A (compareOp op) a b c) (hm : behindInMarks op r = false:=by with_unfolding_all rfl) : Pure w A C Γ led (.Compare l [op] [r] pos) c:=fun s Q E as h =>
 wpAny_Compare1 (h1 s _ E as fun va ha ka ra ea aa => h2 _ _ E aa fun vb hb kb rb eb ab => o _ _ Q E va vb (ab.alive Z) (ra.ext eb) rb fun v hv kv rv ev => h v hv kv rv (fun x y q => ev x y (eb x y (ea x y q))) (ab.ext Z ev)) hm
theorem Test.cmp (Z : CxOk w C) {op : CmpOp} {l r : Expr} {pos : Pos} {a b : PV} {c : Bool} (h1 : Pure w A C Γ led l a) (h2 : Pure w A C Γ led r b) (o : Op2 w A (compareOp op) a b (.bool c)) (hm : behindInMarks op r = false:=by with_unfolding_all rfl) : Test w A C Γ led (.Compare l [op] [r] pos) c:=fun s Q E as h =>
 wpAny_isTrue_Compare1 (h1 s _ E as fun va ha ka ra ea aa => h2 _ _ E aa fun vb hb kb rb eb ab => o _ _ _ E va vb (ab.alive Z) (ra.ext eb) rb fun v hv kv rv ev => by apply Rep.elB rv;exact wpAny_truthy_bool (h hv kv (fun x y q => ev x y (eb x y (ea x y q))) (ab.ext Z ev))) hm
theorem Test.not {x : Expr} {pos : Pos} {b : Bool} (h1 : Test w A C Γ led x b) : Test w A C Γ led (.UnaryOp .Not x pos) (!b):=fun s _ _ as h => isTrue_not (h1 s _ _ as fun hh k e a => h hh k e a)
theorem Test.and {x y : Expr} {pos : Pos} {a b : Bool} (h1 : Test w A C Γ led x a) (h2 : a = true -> Test w A C Γ led y b) : Test w A C Γ led (.BoolOp .And [x,y] pos) (a && b):=fun s Q E as h => by
 refine isTrue_and (h1 s _ _ as fun hh k e a1 => ?_)
 cases a with
 | false => exact h hh k e a1
 | true => exact isTrue_and (h2 rfl _ _ _ a1 fun h3 k3 e3 a3 => by
   cases b with
   | false => exact h h3 k3 (fun x y q => e3 x y (e x y q)) a3
   | true => exact isTrue_and_nil (h h3 k3 (fun x y q => e3 x y (e x y q)) a3))
theorem Test.of {e : Expr} {pv : PV} {b : Bool} (h1 : Pure w A C Γ led e pv) (ht : ∀ (M : List Addr) (s : Shared) (Q : Bool -> Shared -> Prop) (E : Value -> Shared -> Prop) v,Rep s.heap M pv v -> Q b s -> wpAny (model vw w) A (truthy v) Q E s)
  (he : ∀ whole : Sem Value,isTrue e C.env whole = (do let v <- whole;standAt e.pos;holding [v] (truthy v)):=by intro z9;rfl) : Test w A C Γ led e b:=fun s Q E as h =>
 isTrue_plain (h1 s _ E as fun v hv k r e a => ht _ _ _ _ v r (h hv k e a)) (he _)
theorem truthyI {n : Int} (M : List Addr) (s : Shared) (Q : Bool -> Shared -> Prop) (E : Value -> Shared -> Prop) (v : Value) (r : Rep s.heap M (.int n) v) (q : Q (n != 0) s) : wpAny (model vw w) A (truthy v) Q E s:=by
 (apply Rep.elI r;intro z9);exact truthy_int q
theorem truthyB {b : Bool} (M : List Addr) (s : Shared) (Q : Bool -> Shared -> Prop) (E : Value -> Shared -> Prop) (v : Value) (r : Rep s.heap M (.bool b) v) (q : Q b s) : wpAny (model vw w) A (truthy v) Q E s:=by
 apply Rep.elB r;exact wpAny_truthy_bool q
/- operations upon ints -/
theorem opI {f : Value -> Value -> Sem Value} {a b c : Int} (h : ∀ (s : Shared) (Q E : Value -> Shared -> Prop) t u,(∀ t k,Q (.int c t) { s with toks:=k }) -> wpAny (model vw w) A (f (.int a t) (.int b u)) Q E s) : Op2 w A f (.int a) (.int b) (.int c):=fun M s Q E va vb _ ra rb q => by
 (apply Rep.elI ra;intro z9);(apply Rep.elI rb;intro z9);exact h s Q E _ _ fun t k => q _ s.heap k (.int c t) noExt
theorem opC {f : Value -> Value -> Sem Value} {a b : Int} {c : Bool} (h : ∀ (s : Shared) (Q E : Value -> Shared -> Prop) t u,Q (.bool c) s -> wpAny (model vw w) A (f (.int a t) (.int b u)) Q E s) : Op2 w A f (.int a) (.int b) (.bool c):=fun M s Q E va vb _ ra rb q => by
 (apply Rep.elI ra;intro z9);(apply Rep.elI rb;intro z9);exact h s Q E _ _ (q _ s.heap s.toks (.bool c) noExt)
theorem oAdd {a b : Int} : Op2 w A (binaryOp .Add) (.int a) (.int b) (.int (a + b)):=opI fun _ _ _ _ _ q => add_int (q _ _)
theorem oSub {a b : Int} : Op2 w A (binaryOp .Sub) (.int a) (.int b) (.int (a - b)):=opI fun _ _ _ _ _ q => sub_int (q _ _)
theorem oAddI {a b : Int} : Op2 w A (inplaceOp .Add) (.int a) (.int b) (.int (a + b)):=opI fun _ _ _ _ _ q => iadd_int (q _ _)
theorem oSubI {a b : Int} : Op2 w A (inplaceOp .Sub) (.int a) (.int b) (.int (a - b)):=opI fun _ _ _ _ _ q => isub_int (q _ _)
theorem oMul {a b : Int} (hm : IntMulOk a b) : Op2 w A (binaryOp .Mult) (.int a) (.int b) (.int (a * b)):=opI fun _ _ _ _ _ q => mul_int (q _ _) hm
theorem oAnd {a b : Int} : Op2 w A (binaryOp .BitAnd) (.int a) (.int b) (.int (Builtin.bitAnd a b)):=opI fun _ _ _ _ _ q => and_int (q _ _)
theorem oOr {a b : Int} : Op2 w A (binaryOp .BitOr) (.int a) (.int b) (.int (Builtin.bitOr a b)):=opI fun _ _ _ _ _ q => or_int (q _ _)
theorem oLt {a b : Int} : Op2 w A (compareOp .Lt) (.int a) (.int b) (.bool (decide (a < b))):=opC fun _ _ _ _ _ q => PyProof.Rows.lt_int q
theorem oLe {a b : Int} : Op2 w A (compareOp .LtE) (.int a) (.int b) (.bool (decide (a <= b))):=opC fun _ _ _ _ _ q => PyProof.Rows.le_int q
theorem oGe {a b : Int} : Op2 w A (compareOp .GtE) (.int a) (.int b) (.bool (decide (a ≥ b))):=opC fun _ _ _ _ _ q => PyProof.Rows.ge_int q
theorem oEq {a b : Int} : Op2 w A (compareOp .Eq) (.int a) (.int b) (.bool (a == b)):=opC fun _ _ _ _ _ q => PyProof.Rows.eq_int q
theorem oNe {a b : Int} : Op2 w A (compareOp .NotEq) (.int a) (.int b) (.bool (a != b)):=opC fun _ _ _ _ _ q => PyProof.Rows.ne_int q
theorem opS {f : Value -> Value -> Sem Value} {a b : Str} {c : Bool} (h : ∀ (s : Shared) (Q E : Value -> Shared -> Prop) t u,Q (.bool c) s -> wpAny (model vw w) A (f (.str a t) (.str b u)) Q E s) : Op2 w A f (.str a) (.str b) (.bool c):=fun M s Q E va vb _ ra rb q => by
 (apply Rep.elS ra;intro z9);(apply Rep.elS rb;intro z9);exact h s Q E _ _ (q _ s.heap s.toks (.bool c) noExt)
theorem oEqS {a b : Str} : Op2 w A (compareOp .Eq) (.str a) (.str b) (.bool (a.cps.toList == b.cps.toList)):=opS fun _ _ _ _ _ q => P.eq_str q
theorem oNeS {a b : Str} : Op2 w A (compareOp .NotEq) (.str a) (.str b) (.bool (a.cps.toList != b.cps.toList)):=opS fun _ _ _ _ _ q => P.ne_str q
theorem oGtS {a b : Str} : Op2 w A (compareOp .Gt) (.str a) (.str b) (.bool (b.cps.toList < a.cps.toList)):=opS fun _ _ _ _ _ q => P.gt_str q
theorem oLtS {a b : Str} : Op2 w A (compareOp .Lt) (.str a) (.str b) (.bool (a.cps.toList < b.cps.toList)):=opS fun _ _ _ _ _ q => P.lt_str q
theorem oLeS {a b : Str} : Op2 w A (compareOp .LtE) (.str a) (.str b) (.bool (!(b.cps.toList < a.cps.toList))):=opS fun _ _ _ _ _ q => P.le_str q
theorem SameBut.sk {M : List Addr} {h h' : Heap} {a : Addr} {o : Obj} (hs : Heap.SameBut a h h') (e : h.get? a = some o) (q : isSeq o = false) : SK M h h' := fun b o' e' q' _ => (hs.2 b fun z => by
 subst z;rw [e] at e';obtain rfl:=Option.some.inj e';rw [q] at q';exact nB q').trans e'
noncomputable abbrev But (C : Cx) (h h' : Heap) : Prop := ∀ b o,b ≠ C.env.locals -> h.get? b = some o -> h'.get? b = some o
theorem AS.butSk (a : AS C Γ led s) {h' : Heap} (b : But C s.heap h') : SK (C.M led) s.heap h' := fun x o e q _ => b x o (fun z => by
 refine X11 a.fr fun _ q1 _ => X32 q1 fun o' es ep e' dd _ => ?_
 rw [z,e'] at e;obtain rfl:=Option.some.inj e
 unfold isSeq at q;rw [dd] at q;exact nB q) e
theorem AS.setB (Z : CxOk w C) (a : AS C Γ led s) {i : Nat} {x : Str} {pv : PV} {v : Value} (hx : C.nms[i]? = some x) (hk : C.env.kindOf x = some .local) (r : Rep s.heap (C.M led) pv v) {Q : Unit -> Shared -> Prop} {E : Value -> Shared -> Prop}
  (h : ∀ h' k,But C s.heap h' -> AS C (Γ.set i (some pv)) led { s with heap:=h',toks:=k } -> Q () { s with heap:=h',toks:=k }) : wpAny (model vw w) A (storeName C.env x v) Q E s:=by
 obtain ⟨m,F,hm⟩ := a.fr
 refine X32 (id F) fun oL es ep eL dL rL => ?_
 have qL : isSeq oL = false:=by unfold isSeq;rw [dL]
 refine wpAny_storeName_local hk F (fun h' hn hs => h h' _ (fun b o hb e => (hs.2 b hb).trans e) ?_) (by rw [Z.kind];rfl)
 have sk : SK (C.M led) s.heap h' := SameBut.sk hs eL qL
 have ne : ∀ p ∈ led,p.1 ≠ C.env.locals:=a.ll
 have cellk : ∀ c v₀,s.heap.IsCell c v₀ -> h'.IsCell c v₀:=fun c v₀ ⟨o,e,d⟩ => ⟨o,(hs.2 c fun z => by rw [z,eL] at e;obtain rfl:=Option.some.inj e;rw [dL] at d;exact Data.noConfusion d).trans e,d⟩
 refine ⟨⟨_,hn,fun j y pv' h1 h2 => ?_⟩,fun b o e => (hs.2 b fun z => by rw [z,Z.L] at e;exact nS e).trans (a.kp b o e),fun p hp => ?_,a.nd,fun y c h1 h2 => (a.ce y c h1 h2).imp fun v₀ e => cellk c v₀ e,a.ll,Z.x _ _ _ a.x⟩
 ·by_cases hj : j = i
  ·subst hj
   rw [hx] at h1
   obtain rfl:=Option.some.inj h1
   rw [List.getElem?_set] at h2
   rw [if_pos rfl] at h2
   split at h2
   ·cases h2;exact ⟨v, .inl ⟨hk,if_pos rfl⟩,r.keep sk fun _ _ _ q => q⟩
   ·exact nS h2
  ·rw [List.getElem?_set_ne (Ne.symm hj)] at h2
   refine X11 (hm j y pv' h1 h2) fun v' h3 h4 => ?_
   have hyx : y ≠ x:=fun z => by
    subst z
    exact hj ((List.getElem?_inj (List.getElem?_eq_some_iff.mp h1).1 Z.nd).mp (h1.trans hx.symm))
   refine ⟨v', ?_,h4.keep sk fun _ _ _ q => q⟩
   refine Or.elim h3 (fun q1 => Y2 q1 fun k e => ?_) fun q2 => XAEA q2 fun k c hc hcell => ?_
   ·exact .inl ⟨k,(if_neg hyx).trans e⟩
   ·exact .inr ⟨k,c,hc,cellk c _ hcell⟩
 ·refine XAEA (a.lg p hp) fun h2 o h3 h4 => ?_
  exact ⟨h2,o,(hs.2 _ (ne p hp)).trans h3,h4.keep sk fun _ _ _ q => q⟩
theorem AS.setL (Z : CxOk w C) (a : AS C Γ led s) {i : Nat} {x : Str} {pv : PV} {v : Value} (hx : C.nms[i]? = some x) (hk : C.env.kindOf x = some .local) (r : Rep s.heap (C.M led) pv v) {Q : Unit -> Shared -> Prop} {E : Value -> Shared -> Prop}
  (h : ∀ h' k,SK (C.M led) s.heap h' -> AS C (Γ.set i (some pv)) led { s with heap:=h',toks:=k } -> Q () { s with heap:=h',toks:=k }) : wpAny (model vw w) A (storeName C.env x v) Q E s :=
 a.setB Z hx hk r fun h' k b a' => h h' k (a.butSk b) a'
theorem led_inj {a : Addr} {x y : LO} : ∀ {l : Led},(l.map (·.1)).Nodup -> (a,x) ∈ l -> (a,y) ∈ l -> x = y:=fun {l} => by
 induction l with
 | nil => intro _ h;cases h
 | cons q l ih =>
  intro nd h1 h2
  rw [List.map_cons,List.nodup_cons] at nd
  refine Or.elim (List.mem_cons.mp h1) (fun e1 => ?_) fun h3 => ?_
  ·refine Or.elim (List.mem_cons.mp h2) (fun e2 => ?_) fun h4 => ?_
   ·rw [<- e1] at e2;cases e2;rfl
   ·exact absurd (List.mem_map.mpr ⟨_,h4,by rw [<- e1]⟩) nd.1
  ·refine Or.elim (List.mem_cons.mp h2) (fun e2 => ?_) fun h4 => ?_
   ·exact absurd (List.mem_map.mpr ⟨_,h3,by rw [<- e2]⟩) nd.1
   ·exact ih nd.2 h3 h4
theorem mem_of_lookup {x : Str} {c : Addr} : ∀ {l : List (Str × Addr)},l.lookup x = some c -> (x,c) ∈ l:=fun {l} h => by
 induction l with
 | nil => exact nS h
 | cons p l ih =>
  obtain ⟨y,d⟩ := p
  rw [List.lookup_cons] at h
  split at h
  ·rename_i e
   obtain rfl:=Option.some.inj h
   rw [eq_of_beq e];exact List.mem_cons_self
  ·exact List.mem_cons_of_mem _ (ih h)
theorem AS.setC (Z : CxOk w C) (a : AS C Γ led s) {i : Nat} {x : Str} {c : Addr} {pv : PV} {v : Value} (hx : C.nms[i]? = some x) (hk : C.env.kindOf x = some .cell) (hc : C.env.cells.lookup x = some c) (r : Rep s.heap (C.M led) pv v) {Q : Unit -> Shared -> Prop} {E : Value -> Shared -> Prop}
  (h : ∀ h' k,(∀ b o,b ≠ c -> s.heap.get? b = some o -> h'.get? b = some o) -> SK (C.M led) s.heap h' -> AS C (Γ.set i (some pv)) led { s with heap:=h',toks:=k } -> Q () { s with heap:=h',toks:=k }) : wpAny (model vw w) A (storeName C.env x v) Q E s:=by
 refine X11 a.fr fun m F hm => ?_
 have hmem : (x,c) ∈ C.env.cells:=mem_of_lookup hc
 refine X21 (a.ce x c hmem hk) fun v₀ oc ec dc => ?_
 refine Y2 (Z.cl x c hmem hk) fun z0 z1 => ?_
 refine wpAny_storeName_cell Z.kind hk hc ⟨oc,ec,dc⟩ fun h' hc' hs => ?_
 have keep : ∀ b o,b ≠ c -> s.heap.get? b = some o -> h'.get? b = some o:=fun b o hb e => (hs.2 b hb).trans e
 have sk : SK (C.M led) s.heap h' := fun b o e q _ => keep b o (fun z => by rw [z,ec] at e;obtain rfl:=Option.some.inj e;unfold isSeq at q;rw [dc] at q;exact nB q) e
 have toks : ({ s with heap:=h' } : Shared) = { s with heap:=h',toks:=s.toks } := rfl
 rw [toks]
 refine h h' s.toks keep sk ⟨⟨m, ?_,fun j y pv' h1 h2 => ?_⟩,fun b o e => keep b o (fun z => by rw [z,z0] at e;exact nS e) (a.kp b o e),fun p hp => ?_,a.nd,fun y c' h1 h2 => ?_,a.ll,Z.x _ _ _ a.x⟩
 ·refine X32 F fun oL es ep eL dL rL => ?_
  exact ⟨oL,es,ep,keep _ _ (fun z => by rw [z,ec] at eL;obtain rfl:=Option.some.inj eL;rw [dc] at dL;exact Data.noConfusion dL) eL,dL,rL⟩
 ·by_cases hj : j = i
  ·subst hj
   rw [hx] at h1;obtain rfl:=Option.some.inj h1
   rw [List.getElem?_set,if_pos rfl] at h2
   split at h2
   ·cases h2;exact ⟨v, .inr ⟨.inl hk,c,hc,hc'⟩,r.keep sk fun _ _ _ q => q⟩
   ·exact nS h2
  ·rw [List.getElem?_set_ne (Ne.symm hj)] at h2
   refine X11 (hm j y pv' h1 h2) fun v' h3 h4 => ?_
   have hyx : y ≠ x:=fun z => by
    subst z
    exact hj ((List.getElem?_inj (List.getElem?_eq_some_iff.mp h1).1 Z.nd).mp (h1.trans hx.symm))
   refine ⟨v', ?_,h4.keep sk fun _ _ _ q => q⟩
   refine Or.elim h3 (fun h3 => ?_) fun q1 => XAEAEA q1 fun k c' h5 o h6 h7 => ?_
   ·exact .inl h3
   ·exact .inr ⟨k,c',h5,o,keep _ _ (z1 y c' (mem_of_lookup h5) hyx) h6,h7⟩
 ·refine XAEA (a.lg p hp) fun h2 o h3 h4 => ?_
  exact ⟨h2,o,keep _ _ (fun z => by
   rw [z,ec] at h3;obtain rfl:=Option.some.inj h3
   obtain ⟨p1,p2⟩ := p
   cases p2 with
   | list l => refine X21 h4 fun vs n e _ => ?_;rw [e] at dc;exact Data.noConfusion dc
   | app b => rw [show oc = _ from h4] at dc;exact Data.noConfusion dc
   | tab => refine X11 h4 fun ps e _ => ?_;rw [e] at dc;exact Data.noConfusion dc
   | dict _ kvs => refine X11 h4 fun vs e _ => ?_;refine X22 e fun es ep _ d2 _ => ?_;rw [d2] at dc;exact Data.noConfusion dc
   | any => exact h4 _ dc) h3,h4.keep sk fun _ _ _ q => q⟩
 ·by_cases hy : y = x
  ·subst hy
   by_cases hcc : c' = c
   ·subst hcc;exact ⟨_,hc'⟩
   ·refine X21 (a.ce y c' h1 h2) fun v o h3 h4 => ?_
    exact ⟨v,o,keep _ _ hcc h3,h4⟩
  ·refine X21 (a.ce y c' h1 h2) fun v o h3 h4 => ?_
   exact ⟨v,o,keep _ _ (z1 y c' h1 hy) h3,h4⟩
theorem AS.junk (Z : CxOk w C) (a : AS C Γ led s) {J : List Addr} (hJ : ∀ b ∈ J,(b,LO.any) ∈ led) {h' : Heap} {k : Nat} (e : ∀ b o,b ∉ J -> s.heap.get? b = some o -> h'.get? b = some o) (hn : ∀ b ∈ J, ∃ o,h'.get? b = some o /\ ∀ v,o.data ≠ .cell v) : AS C Γ led { s with heap:=h',toks:=k } := by
 refine X11 a.fr fun m F hF => ?_
 have sk : SK (C.M led) s.heap h' := fun b o q _ n => e b o (fun z => n (List.mem_append_right _ (List.mem_map_of_mem (hJ b z)))) q
 have ck : ∀ c v₀,s.heap.IsCell c v₀ -> h'.IsCell c v₀:=fun c v₀ ⟨o,q,dd⟩ => ⟨o,e c o (fun z => by
  refine XAEA (a.lg _ (hJ c z)) fun _ o' h3 h4 => ?_
  rw [show s.heap.get? c = _ from h3] at q;obtain rfl:=Option.some.inj q;exact h4 _ dd) q,dd⟩
 refine ⟨⟨m, ?_,fun i x pv h1 h2 => ?_⟩,fun b o q => e b o (fun z => by rw [(a.lg _ (hJ b z)).1] at q;exact nS q) (a.kp b o q),fun p hp => ?_,a.nd,fun x c h1 h2 => (a.ce x c h1 h2).imp fun v q => ck c v q,a.ll,Z.x _ _ _ a.x⟩
 ·refine X32 F fun o es ep q dd r => ?_
  exact ⟨o,es,ep,e _ _ (fun z => a.ll _ (hJ _ z) rfl) q,dd,r⟩
 ·refine X11 (hF i x pv h1 h2) fun v h3 h4 => ?_
  refine ⟨v, ?_,h4.keep sk fun _ _ _ q => q⟩
  refine Or.elim h3 (fun h3 => ?_) fun q1 => XAEA q1 fun h3 c h5 h6 => ?_
  ·exact .inl h3
  ·exact .inr ⟨h3,c,h5,ck c _ h6⟩
 ·refine XAEA (a.lg p hp) fun h2 o h3 h4 => ?_
  by_cases hpJ : p.1 ∈ J
  ·have e2 : p.2 = .any:=by
    have h5:=hJ _ hpJ
    exact led_inj a.nd (show (p.1,p.2) ∈ led from hp) h5
   refine X11 (hn _ hpJ) fun o' h6 h7 => ?_
   obtain ⟨p1,p2⟩ := p
   dsimp only at e2
   subst e2
   exact ⟨h2,o',h6,h7⟩
  ·exact ⟨h2,o,e _ _ hpJ h3,h4.keep sk fun _ _ _ q => q⟩
noncomputable def Run (w : World) (A : Around) (C : Cx) (Γ : List (Option PV)) (led : Led) (b : List Stmt) (K : Flow -> Shared -> Prop) : Prop :=
 ∀ s,AS C Γ led s -> wpAny (model vw w) A (execs b C.env) K (fun _ _ => False) s
noncomputable def Then (w : World) (A : Around) (C : Cx) (rest : List Stmt) (K : Flow -> Shared -> Prop) : Flow -> Shared -> Prop:=fun f s => match f with | .next => wpAny (model vw w) A (execs rest C.env) K (fun _ _ => False) s | f => K f s
variable {K : Flow -> Shared -> Prop} {rest : List Stmt}
theorem Run.done (r : Run w A C Γ led rest K) : Run w A C Γ led [] (Then w A C rest K):=fun s a => wpAny_execs_nil (r s a)
theorem Run.fin (h : ∀ s,AS C Γ led s -> K .next s) : Run w A C Γ led [] K:=fun s a => wpAny_execs_nil (h s a)
theorem Run.st {st : Stmt} (h : ∀ s,AS C Γ led s -> wpAny (model vw w) A (exec st C.env) (Then w A C rest K) (fun z9 z9 => False) s) : Run w A C Γ led (st :: rest) K:=fun s a =>
 wpAny_execs_cons (wpAny_mono (h s a) (fun f s' h' => by cases f <;> exact h') fun _ _ e => e)
theorem Run.assign (Z : CxOk w C) (i : Nat) {x : Str} {p pos : Pos} {e : Expr} {pv : PV} (hx : C.nms[i]? = some x) (hk : C.env.kindOf x = some .local) (h : Pure w A C Γ led e pv) (r : Run w A C (Γ.set i (some pv)) led rest K)
  (hs : swapsWith e (some (.Name x p)) pos.line C.env = pure false) : Run w A C Γ led (.Assign [.Name x p] e pos :: rest) K :=
 .st fun s a => wpAny_Assign_Name (h s _ _ a fun v h' k rv ex a' => a'.setL Z hx hk rv fun h2 k2 _ a2 => r _ a2) hs
theorem Run.aug (Z : CxOk w C) (i : Nat) {x : Str} {p pos : Pos} {op : Operator} {e : Expr} {a b c : PV} (hx : C.nms[i]? = some x) (hk : C.env.kindOf x = some .local) (hv : Γ[i]? = some (some a)) (h : Pure w A C Γ led e b) (o : Op2 w A (inplaceOp op) a b c)
  (r : Run w A C (Γ.set i (some c)) led rest K) : Run w A C Γ led (.AugAssign (.Name x p) op e pos :: rest) K :=
 .st fun s as => wpAny_AugAssign_Name (as.load Z hx hv fun va ra => h s _ _ as fun vb hb kb rb eb ab => o _ _ _ _ va vb (ab.alive Z) (ra.ext eb) rb fun v hv kv rv ev => (ab.ext Z (k:=kv) ev).setL Z hx hk rv fun h2 k2 _ a2 => r _ a2)
theorem Run.if_ {t : Expr} {x y : List Stmt} {pos : Pos} {b : Bool} (h : Test w A C Γ led t b) (h1 : b = true -> Run w A C Γ led x (Then w A C rest K)) (h2 : b = false -> Run w A C Γ led y (Then w A C rest K)) : Run w A C Γ led (.If t x y pos :: rest) K :=
 .st fun s a => wpAny_If (h s _ _ a fun h' k ex a' => by
  cases b with
  | true => rw [if_pos rfl];exact h1 rfl _ a'
  | false => rw [if_neg Bool.false_ne_true];exact h2 rfl _ a')
theorem Run.ret {e : Expr} {pos : Pos} {pv : PV} (h : Pure w A C Γ led e pv) (hK : ∀ s v,AS C Γ led s -> Rep s.heap (C.M led) pv v -> K (.ret v) s) : Run w A C Γ led (.Return (some e) pos :: rest) K :=
 .st fun s a => wpAny_Return_some (h s _ _ a fun v h' k rv ex a' => hK _ v a' rv)
theorem Run.cont {pos : Pos} (h : ∀ s,AS C Γ led s -> K .cont s) : Run w A C Γ led (.Continue pos :: rest) K:=.st fun s a => wpAny_Continue (h s a)
theorem Run.brk {pos : Pos} (h : ∀ s,AS C Γ led s -> K .brk s) : Run w A C Γ led (.Break pos :: rest) K:=.st fun s a => wpAny_Break (h s a)
noncomputable def TurnW (w : World) (A : Around) (C : Cx) (rest : List Stmt) (K : Flow -> Shared -> Prop) (J : Nat -> List (Option PV) -> Led -> Prop) (n : Nat) : Flow -> Shared -> Prop:=fun f s => match f with
 | .next | .cont => ∃ m Γ led,m < n /\ J m Γ led /\ AS C Γ led s
 | .brk => wpAny (model vw w) A (execs rest C.env) K (fun _ _ => False) s
 | .ret v => K (.ret v) s
theorem Run.finW {J : Nat -> List (Option PV) -> Led -> Prop} {m n : Nat} (h : m < n) (j : J m Γ led) : Run w A C Γ led [] (TurnW w A C rest K J n):=Run.fin fun _ as => ⟨m,Γ,led,h,j,as⟩
theorem Run.while_ {t : Expr} {x : List Stmt} {pos : Pos} (J : Nat -> List (Option PV) -> Led -> Prop) (n₀ : Nat) (h0 : J n₀ Γ led)
  (turn : ∀ n Γ₁ led₁,J n Γ₁ led₁ -> ∃ b,Test w A C Γ₁ led₁ t b /\ (b = true -> Run w A C Γ₁ led₁ x (TurnW w A C rest K J n)) /\ (b = false -> Run w A C Γ₁ led₁ rest K)) : Run w A C Γ led (.While t x [] pos :: rest) K :=
 .st fun s a => wpAny_While (codeAny_whileLoop (fun n s' => ∃ Γ led,J n Γ led /\ AS C Γ led s') (fun n s' hI => by
  refine byG fun G kG => ?_
  refine X21 hI fun Γ₁ led₁ hJ a₁ => ?_
  refine kG ?_;clear kG G
  refine byG fun G kG => ?_
  refine X12 (turn n Γ₁ led₁ hJ) fun b ht h1 h2 => ?_
  refine kG ?_;clear kG G
  refine ht s' _ _ a₁ fun h' k ex a' => ?_
  cases b with
  | true =>
   rw [if_pos rfl]
   refine wpAny_mono (h1 rfl _ a') (fun f s₃ h₃ => ?_) fun _ _ e => e.elim
   cases f with
   | next => refine X31 h₃ fun m Γ₂ led₂ hm q => ?_;exact ⟨m,hm,Γ₂,led₂,q⟩
   | cont => refine X31 h₃ fun m Γ₂ led₂ hm q => ?_;exact ⟨m,hm,Γ₂,led₂,q⟩
   | brk => exact h₃
   | ret v => exact h₃
  | false =>
   rw [if_neg Bool.false_ne_true]
   exact wpAny_execs_nil (h2 rfl _ a')) n₀ ⟨Γ,led,h0,a⟩)
end
end
theorem noneAt {h : Heap} : h.get? h.objs.size = none:=by
 cases e : h.get? h.objs.size with
 | none => rfl
 | some o => exact absurd (Heap.lt_size e) (Nat.lt_irrefl _)
noncomputable abbrev ownT : List String := ["enumerate", "zip", "dict_itemiterator", "dict_reverseitemiterator", "odict_iterator", "itertools.zip_longest", "itertools.pairwise"]
section
variable {w : World} {C : Cx} {A : Around} {Γ : List (Option PV)} {led : Led} {s : Shared}
noncomputable def Iter (w : World) (A : Around) (s : Shared) (xv : Value) (n : Nat) (P : Nat -> Value -> Prop) (kl : List Addr) : Prop :=
 ∀ (Q E : Value -> Shared -> Prop),(∀ I fp St h₂ tk,Walks vw w A I fp [I] n P St -> St 0 h₂ -> Ext s.heap h₂ -> (∀ b ∈ fp,b = I \/ b ∈ kl) -> s.heap.get? I = none ->
  (∀ i h,St i h -> ∃ T vs d sl,h.get? I = some ⟨.type T,d, .fields vs,sl⟩ /\ ownT.contains T = false) -> Q (.ref I) { s with heap:=h₂,toks:=tk }) -> wpAny (model vw w) A (pyIter xv) Q E s
theorem Iter.list {l : Addr} {vs : Array Value} (hh : A.handled = none) (hl : s.heap.IsList l vs) : Iter w A s (.ref l) vs.size (fun i v => vs[i]? = some v) [l]:=fun Q E h => by
 refine X11 (id hl) fun ol hol _ => ?_
 refine wpAny_pyIter_list hl ?_
 refine h s.heap.objs.size [s.heap.objs.size,l] _ _ s.toks (Walks.list hh s.heap.objs.size l (Nat.ne_of_lt (Heap.lt_size hol)) vs) ⟨⟨_,Heap.get?_push_size _ rfl,rfl,rfl⟩,hl.push _⟩ (fun b o e => Heap.get?_push_of_some _ e) (fun b hb => ?_) noneAt ?_
 ·rcases List.mem_cons.mp hb with rfl | hb
  ·exact .inl rfl
  ·exact .inr hb
 ·intro i hp hq0
  refine byG fun G kG => ?_
  obtain ⟨⟨⟨c,d,dt,sl⟩,e,e1,e2⟩,_⟩ := hq0
  refine kG ?_;clear kG G
  dsimp only at e1 e2
  subst e1 e2
  exact ⟨_,_,d,sl,e,by decide⟩
theorem Iter.range {r : Addr} {a b c : Int} {t u v : Tok} (hh : A.handled = none) (hr : IsRange s.heap r a b c t u v) (hsmall : Builtin.Range.small a b c = true) (n : Nat) (hn : Builtin.Range.rangeSize a b c = (n : Int)) :
  Iter w A s (.ref r) n (fun i v => ∃ t,v = .int (a + (i : Int) * c) t) []:=fun Q E h => by
 refine wpAny_pyIter_range hr hsmall ?_
 refine h s.heap.objs.size [s.heap.objs.size] _ _ s.toks (Walks.range hh _ a c n) ?_ (fun b o e => Heap.get?_push_of_some _ e) (fun b hb => .inl (List.mem_singleton.mp hb)) noneAt ?_
 ·show (s.heap.push _).get? _ = _
  rw [hn,Heap.get?_push_size _ rfl]
  simp
 ·intro i hp st
  exact ⟨_,_,_,_,st,by decide⟩
theorem Iter.str {x : Str} {t : Tok} (hh : A.handled = none) (ha : x.cps.all (· < 128) = true) : Iter w A s (.str x t) x.cps.size (fun i v => ∃ c u,x.cps[i]? = some c /\ v = .str ⟨#[c]⟩ u) []:=fun Q E h => by
 refine wpAny_pyIter_ascii ha ?_
 refine h s.heap.objs.size [s.heap.objs.size] _ _ s.toks (Walks.strAscii hh _ x t) ⟨_,Heap.get?_push_size _ rfl,rfl,rfl⟩ (fun b o e => Heap.get?_push_of_some _ e) (fun b hb => .inl (List.mem_singleton.mp hb)) noneAt ?_
 intro i hp hq0
 refine byG fun G kG => ?_
 obtain ⟨⟨c,d,dt,sl⟩,e,e1,e2⟩ := hq0
 refine kG ?_;clear kG G
 dsimp only at e1 e2
 subst e1 e2
 exact ⟨_,_,d,sl,e,by decide⟩
theorem ownGo {target : Expr} {I : Addr} {v : Value} {Q : Unit -> Shared -> Prop} {E : Value -> Shared -> Prop} {T : String} {vs : Array Value} {d : Option Addr} {sl : Array (Option Value)}
  (ho : s.heap.get? I = some ⟨.type T,d, .fields vs,sl⟩) (hT : ownT.contains T = false) (h : Q () s) : wpAny (model vw w) A (letOwnedTupleGo target (.ref I) v) Q E s:=by
 unfold letOwnedTupleGo
 have key : ∀ a : Addr,wpAny (model vw w) A (do
   let o <- load I
   match o.cls,o.data with
   | .type n, .fields vs =>
    if ownT.contains n && vs[0]? == some (rawInt a) then
     rule "for.unpacks-the-owned-tuple"
     updateField I 0 .none
   | _,_ => pure () : Sem Unit) Q E s:=fun a => by
  refine wpAny_bind (wpAny_load ho ?_)
  dsimp only
  rw [hT,Bool.false_and,if_neg Bool.false_ne_true]
  exact wpAny_pure h
 cases target <;> first | exact wpAny_pure h | (cases v <;> first | exact wpAny_pure h | exact key _)
noncomputable def Src (w : World) (A : Around) (C : Cx) (Γ : List (Option PV)) (led : Led) (e : Expr) (n : Nat) (P : Nat -> PV) : Prop :=
 ∀ (s : Shared) (Q E : Value -> Shared -> Prop),AS C Γ led s -> (∀ xv h k p kl,AS C Γ led { s with heap:=h,toks:=k } -> Ext s.heap h -> Iter w A { s with heap:=h,toks:=k } xv n p kl -> (∀ i v,p i v -> Rep h (C.M led) (P i) v) -> (∀ b ∈ kl,b ∉ C.M led /\ ∃ o,h.get? b = some o /\ isSeq o = true) -> Q xv { s with heap:=h,toks:=k }) -> wpAny (model vw w) A (eval e C.env) Q E s
noncomputable def Asg (w : World) (A : Around) (C : Cx) (t : Expr) (Γ : List (Option PV)) (led : Led) (pv : PV) (Γ' : List (Option PV)) : Prop :=
 ∀ (s : Shared) (v : Value) (Q : Unit -> Shared -> Prop) (E : Value -> Shared -> Prop),AS C Γ led s -> Rep s.heap (C.M led) pv v -> (∀ h k,SK (C.M led) s.heap h -> AS C Γ' led { s with heap:=h,toks:=k } -> Q () { s with heap:=h,toks:=k }) -> wpAny (model vw w) A (assign t C.env v) Q E s
theorem Asg.name (Z : CxOk w C) (i : Nat) {x : Str} {p : Pos} {pv : PV} (hx : C.nms[i]? = some x) (hk : C.env.kindOf x = some .local) : Asg w A C (.Name x p) Γ led pv (Γ.set i (some pv)):=fun s v Q E a r h =>
 wpAny_assign_Name (a.setL Z hx hk r h)
noncomputable abbrev Cx.at (C : Cx) (g : Heap) : Cx := { C with h₀:=g }
theorem noneSub {h g : Heap} {b : Addr} (k : Ext h g) (e : g.get? b = none) : h.get? b = none:=by
 cases q : h.get? b with
 | none => rfl
 | some o => have:=k _ _ q;rw [e] at this;exact nS this
noncomputable def TurnF (w : World) (A : Around) (C : Cx) (g : Heap) (rest : List Stmt) (K : Flow -> Shared -> Prop) (J : List (Option PV) -> Led -> Prop) : Flow -> Shared -> Prop:=fun f s => match f with
 | .next | .cont => ∃ Γ led,J Γ led /\ AS (C.at g) Γ led s
 | .brk => ∃ Γ led,AS (C.at g) Γ led s /\ Run w A C Γ led rest K
 | .ret v => K (.ret v) s
theorem Run.finF {g : Heap} {K : Flow -> Shared -> Prop} {rest : List Stmt} {J : List (Option PV) -> Led -> Prop} (j : J Γ led) : Run w A (C.at g) Γ led [] (TurnF w A C g rest K J):=Run.fin fun _ as => ⟨Γ,led,j,as⟩
theorem AS.weak {C : Cx} {g : Heap} {Γ : List (Option PV)} {led : Led} {s : Shared} (a : AS (C.at g) Γ led s) (k : Ext C.h₀ g) : AS C Γ led s :=
 ⟨a.fr,fun b o e => a.kp b o (k b o e),fun p hp => let ⟨h1,h2⟩ := a.lg p hp; ⟨noneSub k h1,h2⟩,a.nd,a.ce,a.ll,a.x⟩
noncomputable def Cx.mut (C : Cx) (led : Led) : List Addr:=C.env.locals :: ((C.env.cells.filter fun p => C.env.kindOf p.1 == some .cell).map (·.2) ++ led.M)
theorem hid {h : Heap} {l : List Addr} {b : Addr} {o : Obj} (e : h.get? b = some o) (m : b ∉ l) : (hideAll h l).get? b = some o:=hideAll_get _ e m
theorem CxOk.hide (Z : CxOk w C) (a : AS C Γ led s) (X : List Addr) (hX : ∀ b ∈ X,C.h₀.get? b = none) : CxOk w (C.at (hideAll s.heap (X ++ C.mut led))) /\ Ext C.h₀ (hideAll s.heap (X ++ C.mut led)):=by
 have ex : Ext C.h₀ (hideAll s.heap (X ++ C.mut led)):=fun b o e => hid (a.kp b o e) fun hm => by
  refine Or.elim (List.mem_append.mp hm) (fun hm => ?_) fun hm => ?_
  ·rw [hX b hm] at e;exact nS e
  ·rcases List.mem_cons.mp hm with rfl | hm
   ·rw [Z.L] at e;exact nS e
   ·refine Or.elim (List.mem_append.mp hm) (fun hm => ?_) fun hm => ?_
    ·refine X11 (List.mem_map.mp hm) fun p hp q2 => ?_;subst q2
     refine Y2 (List.mem_filter.mp hp) fun hp hq => ?_
     rw [(Z.cl p.1 p.2 hp (eq_of_beq hq)).1] at e;exact nS e
    ·refine X11 (List.mem_map.mp hm) fun p hp q2 => ?_;subst q2
     rw [(a.lg p hp).1] at e;exact nS e
 refine X50 Z.T fun p loose mean mg mb T => ?_
 refine ⟨⟨Z.x,Z.kind,Z.nd,Z.dbg,fun b o e => ex b o (Z.K b o e),⟨p,loose,mean,mg,mb,T.keeps ex⟩,Z.g,Z.b,hideAll_none _ (List.mem_append_right _ List.mem_cons_self),fun b hb => (Z.m b hb).imp fun o e => ex b o e,fun x c h1 h2 => ⟨hideAll_none _ ?_,(Z.cl x c h1 h2).2⟩⟩,ex⟩
 exact List.mem_append_right _ (List.mem_cons_of_mem _ (List.mem_append_left _ (List.mem_map.mpr ⟨(x,c),List.mem_filter.mpr ⟨h1,by rw [h2];rfl⟩,rfl⟩)))
theorem AS.hide (a : AS C Γ led s) (X : List Addr) : AS (C.at (hideAll s.heap (X ++ C.mut led))) Γ led s :=
 ⟨a.fr,fun b o e => of_hideAll _ e,fun p hp => ⟨hideAll_none _ (List.mem_append_right _ (List.mem_cons_of_mem _ (List.mem_append_right _ (List.mem_map_of_mem hp)))),(a.lg p hp).2⟩,a.nd,a.ce,a.ll,a.x⟩
theorem AS.but (Z : CxOk w C) (a : AS C Γ led s) {I : Addr} {T : String} {vs : Array Value} {d : Option Addr} {sl : Array (Option Value)} {h' : Heap} {k : Nat} (hI : s.heap.get? I = some ⟨.type T,d, .fields vs,sl⟩) (hm : I ∉ led.M) (h0 : C.h₀.get? I = none)
  (e : ∀ b o,b ≠ I -> s.heap.get? b = some o -> h'.get? b = some o) : AS C Γ led { s with heap:=h',toks:=k } := by
 refine X11 a.fr fun m F hF => ?_
 have sk : SK (C.M led) s.heap h' := fun b o q q' _ => e b o (fun z => by rw [z,hI] at q;obtain rfl:=Option.some.inj q;exact nB q') q
 have ck : ∀ c v₀,s.heap.IsCell c v₀ -> h'.IsCell c v₀:=fun c v₀ ⟨o,q,dd⟩ => ⟨o,e c o (fun z => by rw [z,hI] at q;obtain rfl:=Option.some.inj q;exact Data.noConfusion dd) q,dd⟩
 refine ⟨⟨m, ?_,fun i x pv h1 h2 => ?_⟩,fun b o q => e b o (fun z => by rw [z,h0] at q;exact nS q) (a.kp b o q),fun p hp => ?_,a.nd,fun x c h1 h2 => (a.ce x c h1 h2).imp fun v q => ck c v q,a.ll,Z.x _ _ _ a.x⟩
 ·refine X32 F fun o es ep q dd r => ?_
  exact ⟨o,es,ep,e _ _ (fun z => by rw [z,hI] at q;obtain rfl:=Option.some.inj q;exact Data.noConfusion dd) q,dd,r⟩
 ·refine X11 (hF i x pv h1 h2) fun v h3 h4 => ?_
  refine ⟨v, ?_,h4.keep sk fun _ _ _ q => q⟩
  refine Or.elim h3 (fun h3 => ?_) fun q1 => XAEA q1 fun h3 c h5 h6 => ?_
  ·exact .inl h3
  ·exact .inr ⟨h3,c,h5,ck c _ h6⟩
 ·refine XAEA (a.lg p hp) fun h2 o h3 h4 => ?_
  exact ⟨h2,o,e _ _ (fun z => hm (z ▸ List.mem_map_of_mem hp)) h3,h4.keep sk fun _ _ _ q => q⟩
theorem AS.seqOut (Z : CxOk w C) (a : AS C Γ led s) {b : Addr} {o : Obj} (e : s.heap.get? b = some o) (q : isSeq o = true) (m : b ∉ led.M) : b ∉ C.mut led:=fun hm => by
 rcases List.mem_cons.mp hm with rfl | hm
 ·refine X11 a.fr fun _ q1 _ => X32 q1 fun o' es ep q' dd _ => ?_
  rw [e] at q';obtain rfl:=Option.some.inj q'
  unfold isSeq at q;rw [dd] at q;exact nB q
 ·refine Or.elim (List.mem_append.mp hm) (fun hm => ?_) fun hm => ?_
  ·refine X11 (List.mem_map.mp hm) fun p hp q2 => ?_;subst q2
   refine Y2 (List.mem_filter.mp hp) fun hp hq => ?_
   refine X21 (a.ce p.1 p.2 hp (eq_of_beq hq)) fun v o' q' dd => ?_
   rw [e] at q';obtain rfl:=Option.some.inj q'
   unfold isSeq at q;rw [dd] at q;exact nB q
  ·exact m hm
theorem AS.fldOut (Z : CxOk w C) (a : AS C Γ led s) {b : Addr} {T : String} {vs : Array Value} {d : Option Addr} {sl : Array (Option Value)} (e : s.heap.get? b = some ⟨.type T,d, .fields vs,sl⟩) (m : b ∉ led.M) : b ∉ C.mut led:=fun hm => by
 rcases List.mem_cons.mp hm with rfl | hm
 ·refine X11 a.fr fun _ q1 _ => X32 q1 fun o' es ep q' dd _ => ?_
  rw [e] at q';obtain rfl:=Option.some.inj q';exact Data.noConfusion dd
 ·refine Or.elim (List.mem_append.mp hm) (fun hm => ?_) fun hm => ?_
  ·refine X11 (List.mem_map.mp hm) fun p hp q2 => ?_;subst q2
   refine Y2 (List.mem_filter.mp hp) fun hp hq => ?_
   refine X21 (a.ce p.1 p.2 hp (eq_of_beq hq)) fun v o' q' dd => ?_
   rw [e] at q';obtain rfl:=Option.some.inj q';exact Data.noConfusion dd
  ·exact m hm
theorem Run.for_ {K : Flow -> Shared -> Prop} {rest : List Stmt} {target e : Expr} {body : List Stmt} {pos : Pos} {n : Nat} {P : Nat -> PV} (Z : CxOk w C) (hs : Src w A C Γ led e n P) (J : Nat -> List (Option PV) -> Led -> Prop) (h0 : J 0 Γ led) (hf : ∀ x,foldedSetIterable e C.env x = pure x)
  (turn : ∀ i Γ₁ led₁ g,i < n -> J i Γ₁ led₁ -> CxOk w (C.at g) -> Ext C.h₀ g -> ∃ Γ₂,Asg w A (C.at g) target Γ₁ led₁ (P i) Γ₂ /\ Run w A (C.at g) Γ₂ led₁ body (TurnF w A C g rest K (J (i + 1))))
  (done : ∀ Γ₁ led₁,J n Γ₁ led₁ -> Run w A C Γ₁ led₁ rest K) : Run w A C Γ led (.For target e body [] pos :: rest) K:=.st fun s a => by
 refine wpAny_For (hs s _ _ a fun xv h k p kl a1 _ hI hP hkl => ?_) hf
 refine hI _ _ fun I fp St h₂ tk W hst ex hfp hIn hcls => ?_
 have a2 : AS C Γ led { s with heap:=h₂,toks:=tk } := a1.ext Z ex
 refine byG fun G kG => ?_
 refine X41 (hcls _ _ hst) fun Tn vs d sl eI _ => ?_
 refine kG ?_;clear kG G
 have hI0 : C.h₀.get? I = none:=noneSub a1.kp hIn
 have hIM : I ∉ led.M:=fun hm => by
  refine X11 (List.mem_map.mp hm) fun q hq e => ?_
  refine XAEA (a1.lg q hq) fun _ o h3 _ => ?_
  rw [e] at h3
  rw [show h.get? I = none from hIn] at h3;exact nS h3
 refine Y2 (Z.hide a2 [I] (fun b hb => by rw [List.mem_singleton.mp hb];exact hI0)) fun ZI exI => ?_
 have aI:=a2.hide [I]
 dsimp only at ZI exI aI
 generalize hg : hideAll h₂ ([I] ++ C.mut led) = gI at ZI exI aI
 have skI : SK (C.M led) h₂ gI:=fun b o e q m' => by
  have m : b ∉ led.M:=fun z => m' (List.mem_append_right _ z)
  rw [<- hg]
  refine hid e fun hm => ?_
  refine Or.elim (List.mem_append.mp hm) (fun hm => ?_) fun hm => ?_
  ·rw [List.mem_singleton.mp hm,eI] at e;obtain rfl:=Option.some.inj e;exact nB q
  ·exact a2.seqOut Z e q m hm
 have gIn : gI.get? I = none:=by rw [<- hg];exact hideAll_none _ (List.mem_append_left _ List.mem_cons_self)
 have hIt : ∀ (i : Nat) v,p i v -> Rep gI (C.M led) (P i) v:=fun i v q => ((hP i v q).ext ex).keep skI fun _ _ _ m => m
 have hK : ∀ b ∈ kl, ∃ o,gI.get? b = some o /\ isSeq o = true:=fun b hb => by
  refine XAEA (hkl b hb) fun m o e q => ?_
  exact ⟨o,skI b o (ex b o e) q m,q⟩
 refine codeAny_forLoop_any (fun k s' => ∃ Γ' led' i,AS (C.at gI) Γ' led' s' /\ St i s'.heap /\ I ∉ led'.M /\ J i Γ' led' /\ i <= n /\ k = n + 1 - i) ?_ (n + 1) ⟨Γ,led,0,aI,hst,hIM,h0,Nat.zero_le _,rfl⟩
 intro k s' hq0
 refine byG fun G kG => ?_
 obtain ⟨Γ',led',i,a',st',hm',hJ',hi,rfl⟩ := hq0
 refine kG ?_;clear kG G
 refine byG fun G kG => ?_
 refine X41 (hcls _ _ st') fun _ _ _ _ eI' hT => ?_
 refine kG ?_;clear kG G
 have out : ∀ h₁ tk₁,(∀ b o,b ∉ [I] -> s'.heap.get? b = some o -> h₁.get? b = some o) -> AS (C.at gI) Γ' led' { s' with heap:=h₁,toks:=tk₁ } := fun h₁ tk₁ hk => a'.but ZI eI' hm' gIn fun b o hb e => hk b o (fun q => hb (List.mem_singleton.mp q)) e
 by_cases hlt : i < n
 ·refine W.item i _ _ _ hlt st' fun v h₁ tk₁ hp st₁ hk₁ => ?_
  have a₁:=out h₁ tk₁ hk₁
  refine byG fun G kG => ?_
  refine X41 (hcls _ _ st₁) fun _ _ _ _ eI₁ hT₁ => ?_
  refine kG ?_;clear kG G
  refine ownGo eI₁ hT₁ ?_
  refine Y2 (ZI.hide a₁ [] (fun b hb => nomatch hb)) fun Z₁ ex₁ => ?_
  have aH:=a₁.hide []
  dsimp only at Z₁ ex₁ aH
  generalize hg₁ : hideAll h₁ ([] ++ (C.at gI).mut led') = g₁ at Z₁ ex₁ aH
  have rI : Rep h₁ (C.M led') (P i) v:=(hIt i v hp).keep (Ext.sk a₁.kp) fun b o e hn hm => by
   refine Or.elim (List.mem_append.mp hm) (fun hm => ?_) fun hm => ?_
   ·exact hn (List.mem_append_left _ hm)
   refine X11 (List.mem_map.mp hm) fun q hq e' => ?_
   rw [<- e',show gI.get? q.1 = none from (a₁.lg q hq).1] at e;exact nS e
  refine X11 (turn i Γ' led' g₁ hlt hJ' Z₁ (fun b o e => ex₁ b o (exI b o e))) fun Γ₂ hA hR => ?_
  have inI : ∀ b o,b ∈ fp -> h₁.get? b = some o -> g₁.get? b = some o:=fun b o hb e => by
   rw [<- hg₁]
   refine hid e ?_
   rcases hfp b hb with rfl | hb
   ·exact a₁.fldOut ZI eI₁ hm'
   ·refine X11 (hK b hb) fun o' e' q => ?_
    have e2:=a₁.kp b o' e'
    rw [e] at e2;obtain rfl:=Option.some.inj e2
    refine a₁.seqOut ZI e q fun hm => ?_
    refine X11 (List.mem_map.mp hm) fun q hq e3 => ?_
    rw [<- e3,show gI.get? q.1 = none from (a₁.lg q hq).1] at e';exact nS e'
  refine wpAny_mono (hA _ v _ _ aH rI fun h₃ k₃ _ a₃ => wpAny_mono (hR _ a₃) (fun f s₄ h₄ => ?_) fun _ _ e => e.elim) (fun _ s₂ h₂ => h₂) fun _ _ e => e
  have fin : (∃ Γ led,J (i + 1) Γ led /\ AS (C.at g₁) Γ led s₄) -> ∃ m,m < n + 1 - i /\ ∃ Γ' led' i',AS (C.at gI) Γ' led' s₄ /\ St i' s₄.heap /\ I ∉ led'.M /\ J i' Γ' led' /\ i' <= n /\ m = n + 1 - i' := by
   rintro ⟨Γ₅,led₅,hJ₅,a₅⟩
   refine ⟨n + 1 - (i + 1),by lia,Γ₅,led₅,i + 1,AS.weak (C:=C.at gI) a₅ ex₁,W.frame _ _ _ st₁ fun b hb o e => a₅.kp b o (inI b o hb e),fun hm => ?_,hJ₅,hlt,rfl⟩
   refine X11 (List.mem_map.mp hm) fun q hq e3 => ?_
   have:=(a₅.lg q hq).1
   rw [e3] at this
   have hI2:=inI I _ (W.sub I List.mem_cons_self) eI₁
   rw [show (C.at g₁).h₀.get? I = g₁.get? I from rfl,hI2] at this;exact nS this.symm
  cases f with
  | ret v => exact h₄
  | brk => refine X21 h₄ fun Γ₅ led₅ a₅ r => ?_;exact r _ (a₅.weak fun b o e => ex₁ b o (exI b o e))
  | cont => exact fin h₄
  | next => exact fin h₄
 ·have hin : i = n:=by lia
  subst hin
  exact W.done _ _ _ st' fun h₁ tk₁ hk₁ => wpAny_execs_nil (done Γ' led' hJ' _ ((out h₁ tk₁ hk₁).weak exI))
end
section
variable {w : World} {C : Cx} {A : Around} {Γ : List (Option PV)} {led : Led} {s : Shared}
inductive Args (w : World) (A : Around) (C : Cx) (Γ : List (Option PV)) (led : Led) : List Expr -> List PV -> Prop
 | nil : Args w A C Γ led [] []
 | cons {e : Expr} {es : List Expr} {p : PV} {ps : List PV} (h : Pure w A C Γ led e p) (he : starEach (e :: es) C.env = (false,eval e C.env) :: starEach es C.env) (t : Args w A C Γ led es ps) : Args w A C Γ led (e :: es) (p :: ps)
theorem Args.plain (pos : Pos) {es : List Expr} {ps : List PV} (h : Args w A C Γ led es ps) : (backTo pos (starEach es C.env)).any (·.1) = false:=by
 induction h with
 | nil => rfl
 | cons h he t ih => rw [he];exact ih
theorem Args.spliced (Z : CxOk w C) (pos : Pos) {E : Value -> Shared -> Prop} {es : List Expr} {ps : List PV} (ha : Args w A C Γ led es ps) : ∀ (s : Shared) (Q : List Value -> Shared -> Prop),AS C Γ led s ->
  (∀ vs h k,Reps h (C.M led) ps vs -> Ext s.heap h -> AS C Γ led { s with heap:=h,toks:=k } -> Q vs { s with heap:=h,toks:=k }) -> wpAny (model vw w) A (PySem.spliced (backTo pos (starEach es C.env))) Q E s:=by
 induction ha with
 | nil => exact fun s Q a h => spliced_none (h [] s.heap s.toks .nil noExt a)
 | cons h1 he t ih => exact fun s Q a h => spliced_more (h1 s _ E a fun v hv k r e a1 => ih _ _ a1 fun vs h2 k2 r2 e2 a2 => h _ h2 k2 (.cons (r.ext e2) r2) (fun x y q => e2 x y (e x y q)) a2) he
noncomputable def Kp (w : World) (f : Value) : Prop:=(∃ id,f = .builtin id) \/ (∃ T,f = .type T) \/ keepIn (hd.heap_1 w.params) f = true
noncomputable def Gv (w : World) (A : Around) (f : Value) (first : List Value) (ps : List PV) (r : PV) : Prop :=
 ∀ (M : List Addr) (s : Shared) (Q E : Value -> Shared -> Prop) vs,(∀ b ∈ M, ∃ o,s.heap.get? b = some o) -> (hd.heap_1 w.params).In s.heap -> (∃ p loose mean mg mb,Top p loose mean mg mb s.heap) -> Reps s.heap M ps vs -> (∀ v h k,Rep h M r v -> Ext s.heap h -> Q v { s with heap:=h,toks:=k }) -> wpAny (model vw w) A (call f (first ++ vs)) Q E s
theorem callWX (Z : CxOk w C) {f : Value} {first : List Value} {es : List Expr} {ps : List PV} {pos : Pos} {Q E : Value -> Shared -> Prop} (hf : Kp w f) (ha : Args w A C Γ led es ps) (a : AS C Γ led s)
  (fin : ∀ vs h₁ k₁,Reps h₁ (C.M led) ps vs -> Ext s.heap h₁ -> AS C Γ led { s with heap:=h₁,toks:=k₁ } -> wpAny (model vw w) A (call f (first ++ vs)) Q E { s with heap:=h₁,toks:=k₁ }) : wpAny (model vw w) A (callWith pos f first (backTo pos (starEach es C.env)) []) Q E s:=by
 have ev : ∀ Q' : PySem.Args -> Shared -> Prop,(∀ h₁ k₁ vs,Reps h₁ (C.M led) ps vs -> Ext s.heap h₁ -> AS C Γ led { s with heap:=h₁,toks:=k₁ } -> Q' ⟨vs, []⟩ { s with heap:=h₁,toks:=k₁ }) -> wpAny (model vw w) A (evalArgs f true (backTo pos (starEach es C.env)) []) Q' E s:=fun Q' hq => by
  cases ha with
  | nil => exact evalArgs_nil3 (hq s.heap s.toks [] .nil noExt a)
  | cons h1 he t =>
   have:=(Args.cons h1 he t).spliced Z pos s (E:=E) (fun vs s' => Q' ⟨vs, []⟩ s') a fun vs h k r e a1 => hq h k vs r e a1
   rw [he] at this ⊢
   exact Calls.evalArgs_plain this
 have pl:=ha.plain pos
 rcases hf with ⟨id,rfl⟩ | ⟨T',rfl⟩ | hf
 ·exact Calls.callWith_builtin pl (ev _ fun h₁ k₁ vs r e a1 => fin vs h₁ k₁ r e a1)
 ·exact PyProof.Rows.callWith_type pl (ev _ fun h₁ k₁ vs r e a1 => fin vs h₁ k₁ r e a1)
 ·exact callWith_of (P:=fun h => (hd.heap_1 w.params).In h) (by rw [pl];rfl) (keeps_K hf) (ev _ fun h₁ k₁ vs r e a1 => ⟨fun b o e => a1.kp b o (Z.K b o e),fin vs h₁ k₁ r e a1⟩)
theorem callW (Z : CxOk w C) {f : Value} {first : List Value} {es : List Expr} {ps : List PV} {r : PV} {pos : Pos} {Q E : Value -> Shared -> Prop} (hf : Kp w f) (ha : Args w A C Γ led es ps) (hg : Gv w A f first ps r) (a : AS C Γ led s)
  (h : ∀ v h k,Rep h (C.M led) r v -> Ext s.heap h -> AS C Γ led { s with heap:=h,toks:=k } -> Q v { s with heap:=h,toks:=k }) : wpAny (model vw w) A (callWith pos f first (backTo pos (starEach es C.env)) []) Q E s :=
 callWX Z hf ha a fun vs h₁ k₁ r e a1 => by
  refine X50 Z.T fun p loose mean mg mb T => ?_
  exact hg (C.M led) _ Q E vs (a1.alive Z) (fun b o e => a1.kp b o (Z.K b o e)) ⟨p,loose,mean,mg,mb,T.keeps a1.kp⟩ r fun v h2 k r2 e2 => h v h2 k r2 (fun x y q => e2 x y (e x y q)) (a1.ext Z e2)
theorem Pure.call (Z : CxOk w C) {f : Value} {x : Str} {p pos : Pos} {es : List Expr} {ps : List PV} {r : PV} (hf : Pure w A C Γ led (.Name x p) (.val f)) (hk : Kp w f) (ha : Args w A C Γ led es ps) (hg : Gv w A f [] ps r) : Pure w A C Γ led (.Call (.Name x p) es [] pos) r:=fun s Q E a h =>
 wpAny_Call_NameR (hf s _ E a fun v h1 k1 r1 e1 a1 => by
  apply Rep.elV r1
  exact callW Z hk ha hg a1 fun v h2 k r e a2 => h v h2 k r (fun x y q => e x y (e1 x y q)) a2)
end
section
variable {w : World} {C : Cx} {A : Around} {Γ : List (Option PV)} {led : Led} {s : Shared}
noncomputable def Fn (w : World) (f : Addr) (need : Nat) (args : List PV) (r : PV) : Prop :=
 ∀ (dp un : Nat) (gd : Option (List Code)) (fr : Option (List Env)) (s : Shared) (R : Result -> Shared -> Prop) (vs : List Value) (M : List Addr),dp + need < recursionLimit -> un + 8 * need < cLine -> (hd.heap_1 w.params).In s.heap -> (∃ p loose mean mg mb,Top p loose mean mg mb s.heap) ->
  (∀ b ∈ M, ∃ o,s.heap.get? b = some o) -> Reps s.heap M args vs -> (∀ v h k,Rep h M r v -> Ext s.heap h -> R (.ok (.ret v)) { s with heap:=h,toks:=k }) -> codeAny (model vw w) { handled:=none,depth:=dp,frames:=fr,guards:=gd,units:=un } (.call (.ref f) ⟨vs, []⟩) R s
theorem Gv.fn {f : Addr} {need : Nat} {args : List PV} {r : PV} (F : Fn w f need args r) (hh : A.handled = none) (hd : A.depth + need < recursionLimit) (hu : A.units + 8 * need < cLine) : Gv w A (.ref f) [] args r:=fun M s Q E vs hM KX TX ra h => by
 obtain ⟨ha,dp,fr,gd,un⟩ := A
 dsimp only at hh hd hu
 subst hh
 exact wpAny_call (F dp un gd fr s _ vs M hd hu KX TX hM ra fun v h' k rv e => h v h' k rv e)
noncomputable def Ends (C : Cx) (r : PV) (f : Flow) (s : Shared) : Prop := ∃ v,Rep s.heap C.M₀ r v /\ (f = .ret v \/ (f = .next /\ v = .none)) /\ Ext C.h₀ s.heap /\ C.X s
theorem Ends.ret {r : PV} {v : Value} (a : AS C Γ led s) (q : Rep s.heap (C.M led) r v) : Ends C r (.ret v) s :=
 ⟨v,q.keep (Ext.sk noExt) fun _ _ _ m z => m (List.mem_append_left _ z), .inl rfl,a.kp,a.x⟩
noncomputable abbrev Around.ok (A : Around) (need : Nat) : Prop:=A.handled = none /\ A.depth + need < recursionLimit /\ A.units + 8 * need < cLine
theorem zip_sub {α β : Type} : ∀ (a : List α) (b : List β),((a.zip b).map (·.1)).Sublist a
 | [],_ => by simp
 | x :: a, [] => by simp
 | x :: a,y :: b => by simpa using zip_sub a b
theorem lookup_nd {x : Str} {v : Value} : ∀ {l : List (Str × Value)},(l.map (·.1)).Nodup -> (x,v) ∈ l -> l.lookup x = some v
 | (y,u) :: l,nd,hm => by
  rw [List.map_cons,List.nodup_cons] at nd
  rw [List.lookup_cons]
  refine Or.elim (List.mem_cons.mp hm) (fun e => ?_) fun hm => ?_
  ·cases e;simp
  ·have hne : (x == y) = false:=beq_eq_false_iff_ne.mpr fun e => nd.1 (e ▸ (List.mem_map.mpr ⟨(x,v),hm,rfl⟩))
   rw [hne]
   exact lookup_nd nd.2 hm
theorem lookup_rev_zip {nms : List Str} {vs : List Value} {i : Nat} {x : Str} {v : Value} (nd : nms.Nodup) (hz : (nms.zip vs)[i]? = some (x,v)) : (nms.zip vs).reverse.lookup x = some v :=
 lookup_nd (by rw [List.map_reverse];exact List.pairwise_reverse.mpr ((nd.sublist (zip_sub nms vs)).imp Ne.symm)) (List.mem_reverse.mpr (List.mem_of_getElem? hz))
theorem Fn.enter {f : Addr} {need : Nat} {args : List PV} {r : PV} (nms : List Str) {name qual : Str} {params : Arguments} {body : List Stmt} {scope : Scope} {dV kV doc pm cdv ct oc : Value} {an od : Option Addr} {osl : Array (Option Value)}
  (ho : (hd.heap_1 w.params).lookup f = some ⟨oc,od, .func (fnOf name qual params body scope dV kV doc pm an cdv ct),osl⟩) (hcd : codeIn (hd.heap_1 w.params) cdv qual = true)
  (hb : ∀ (s : Shared) (vs : List Value),vs.length = args.length -> (hd.heap_1 w.params).In s.heap -> BindsTo s (fnOf name qual params body scope dV kV doc pm an cdv ct) ⟨vs, []⟩ (nms.zip vs))
  (hloc : (nms.all fun x => scope.names.lookup x == some .local && !(x == ("__debug__" : Str))) = true) (nd : nms.Nodup)
  (hco : scope.isCoroutine = false) (hgen : scope.isGenerator = false) (hk : scope.kind = .function) (hcell : ∀ x ∈ scope.names,x.2 ≠ .cell)
  (run : ∀ (C : Cx) (A : Around) (L : Addr),CxOk w C -> C.env = envOf qual scope L f cdv -> C.nms = nms -> Around.ok A need -> Run w A C (args.map some ++ List.replicate nms.length none) [] body (Ends C r)) : Fn w f (need + 1) args r:=by
 intro dp un gd fr s R vs M hdp hun KX TX hM ra hret
 refine X50 (id TX) fun p loose mean mg mb T => ?_
 have hl : ∀ x ∈ nms,scope.names.lookup x = some .local /\ (x == ("__debug__" : Str)) = false:=fun x hx => by
  have:=List.all_eq_true.mp hloc x hx
  simp only [Bool.and_eq_true,beq_iff_eq,Bool.not_eq_true'] at this
  exact ⟨this.1,this.2⟩
 have hlen:=ra.length
 refine con_enter (binds:=nms.zip vs) KX T ho hcd (by dsimp only;lia) (hb s vs hlen KX) (fun y hy => (hl y.1 (List.of_mem_zip hy).1).1) (fun L' h₁ F N => ?_) hco hgen hk hcell
 have hL : s.heap.get? L' = none:=Heap.get?_none_of_le F.above
 have Z : CxOk w ⟨s.heap,M,envOf qual scope L' f cdv,nms,fun s' => s'.gens = s.gens /\ s'.drawn = s.drawn /\ s'.os = s.os⟩ :=
  ⟨fun _ _ _ x => x,hk,nd,fun x hx => (hl x hx).2,KX,TX,rfl,rfl,hL,hM,fun x c h => nomatch h⟩
 refine wpAny_mono (run _ _ L' Z rfl rfl ⟨rfl, ?_, ?_⟩ _ ⟨⟨_,F.ns,fun i x pv h1 h2 => ?_⟩,F.keep,(fun p hp => nomatch hp),List.nodup_nil,(fun x c h => nomatch h),(fun p hp => nomatch hp),rfl,rfl,rfl⟩) (fun fl s' he => ?_) fun _ _ e => e
 ·dsimp only [Around.deeper];lia
 ·dsimp only [Around.deeper];lia
 ·rw [List.getElem?_append] at h2
  split at h2
  ·rename_i hi
   rw [List.length_map] at hi
   rw [List.getElem?_map,Option.map_eq_some_iff] at h2
   refine X11 h2 fun pv' h3 h4 => ?_
   cases h4
   refine X11 (ra.at h3) fun v h5 h6 => ?_
   have hz : (nms.zip vs)[i]? = some (x,v):=by
    rw [List.getElem?_zip_eq_some];exact ⟨h1,h5⟩
   refine ⟨v, .inl ⟨?_, ?_⟩, ?_⟩
   ·exact (hl x (List.mem_of_getElem? h1)).1
   ·show (nms.zip vs).reverse.lookup x = some v
    exact lookup_rev_zip nd hz
   ·show Rep h₁ (M ++ []) pv v
    rw [List.append_nil];exact h6.ext F.keep
  ·rw [List.getElem?_replicate] at h2
   split at h2
   ·cases h2
   ·exact nS h2
 ·refine X12 he fun v rv hf q8 => Y4 q8 fun ex x1 x2 x3 => ?_
  have e : s' = { s with heap:=s'.heap,toks:=s'.toks } := by
   obtain ⟨a1,a2,a3,a4,a5⟩ := s'
   dsimp only at x1 x2 x3 ⊢
   rw [x1,x2,x3]
  have:=hret v s'.heap s'.toks rv ex
  rw [<- e] at this
  rcases hf with rfl | ⟨rfl,rfl⟩
  ·exact this
  ·exact this
end
section
variable {prog : Program} {w : World} {A : Around} {E : Value -> Shared -> Prop} {R : Result -> Shared -> Prop} {s : Shared}
theorem codeAny_compLoop_testsT {elt target iter : Expr} {ifs : List Expr} {scope : Scope} {pos : Pos} {it acc : Value} {env : Env} (I : Nat -> Shared -> Prop)
  (turn : ∀ n s,I n s -> wpAny (model prog w) A (pyNext it) (fun r s₁ => match r with
   | none => R (.ok .next) s₁
   | some v => wpAny (model prog w) A (letOwnedTupleGo target it v) (fun _ s₁' => wpAny (model prog w) A (assign target env v) (fun _ s₂ =>
     wpAny (model prog w) A (forIn ifs true fun c r => if r = true then do let ok <- isTrue c env (eval c env);pure (ForInStep.yield ok) else pure (ForInStep.yield r)) (fun ok s₃ =>
      if ok = true then wpAny (model prog w) A (eval elt env) (fun x s₄ =>
       wpAny (model prog w) A (call (.builtin "list.append") [acc,x]) (fun _ s₅ => ∃ m,m < n /\ I m s₅) (fun z9 z9 => False) s₄) (fun z9 z9 => False) s₃
      else ∃ m,m < n /\ I m s₃) (fun z9 z9 => False) s₂) (fun z9 z9 => False) s₁') (fun z9 z9 => False) s₁) (fun z9 z9 => False) s)
  (n : Nat) (h : I n s) :
  codeAny (model prog w) A (.compLoop (.ListComp elt [⟨target,iter,ifs,0⟩] scope pos) 0 it acc env) R s:=by
 refine codeAny_loop rfl I (fun n s hI => ?_) n h
 show wpAny _ A ((compTurn (.ListComp elt [⟨target,iter,ifs,0⟩] scope pos) 0 it acc env).onRaise (fun x => do noteFrame x env;theTreesLotGoes x)) _ _ s
 refine wpAny_noted ?_
 rw [compTurn_list]
 refine wpAny_bind (wpAny_standAt (wpAny_bind (wpAny_mono (turn n s hI) (fun r s₁ h₁ => ?_) fun _ _ h' => h'.elim)))
 cases r with
 | none => exact wpAny_pure h₁
 | some v =>
  refine wpAny_bind (wpAny_mono h₁ (fun _ s₂ h₂ => ?_) fun _ _ h' => h'.elim)
  refine wpAny_bind (wpAny_mono h₂ (fun _ s₂ h₂ => wpAny_bind (wpAny_mono h₂ (fun ok s₃ h₃ => ?_) fun _ _ h' => h'.elim)) fun _ _ h' => h'.elim)
  cases ok with
  | false => exact wpAny_pure ⟨rfl,h₃⟩
  | true =>
   exact wpAny_bind (wpAny_bind (wpAny_mono h₃ (fun x s₄ h₄ => wpAny_bind (wpAny_mono h₄ (fun _ s₅ h₅ => wpAny_pure (wpAny_pure ⟨rfl,h₅⟩)) fun _ _ h' => h'.elim)) fun _ _ h' => h'.elim))
end
theorem bytes_len : typeLookup (.type "bytes") "__len__" = pure (some (.builtin "bytes.__len__")):=by rw [typeLookup_type,builtinLookup_eq_fast];kernel_rfl
theorem intsGet : ∀ {vs : List Value} {ns : List Int},vs.length = ns.length -> (∀ (i : Nat) (v : Value),vs[i]? = some v -> ∃ n t,ns[i]? = some n /\ v = Value.int n t) -> IntsAre vs ns
 | [], [],_,_ => .nil
 | v :: vs,n :: ns,hl,h => by
  refine X21 (h 0 v rfl) fun n' t hn q3 => ?_;subst q3
  obtain rfl:=Option.some.inj hn
  exact .cons _ t (intsGet (by simpa using hl) fun i v hv => h (i + 1) v hv)
section
variable {prog : Program} {w : World} {A : Around} {E : Value -> Shared -> Prop} {s : Shared}
theorem extend_bytes {R : Result -> Shared -> Prop} (hh : A.handled = none) (x : Array UInt8) (t : Tok) (S : Addr) (res : Value) (c₀ : Nat) (hS : s.heap.get? S = some { cls:=.type "list",data:=.seq #[] c₀ })
  (hR : ∀ h' tk acc' c',(∀ b o,b ≠ S -> s.heap.get? b = some o -> h'.get? b = some o) -> h'.get? S = some { cls:=.type "list",dict:=none,data:=.seq acc' c',slots := #[] } ->
   ItemsOf (fun i v => ∃ c u,x[i]? = some c /\ v = .int (c.toNat : Int) u) acc' x.size -> R (.ok (.ret res)) { s with heap:=h',toks:=tk }) (hn : x.size <= sizeLine) :
  wpAny (model prog w) A.in1 (Builtin.List.listExtendWith (.ref S) (.bytes x t) res)
   (fun fin s' => match fin with | .done f => R (.ok f) s' | .again c' => c'.quiet = true /\ codeAny (model prog w) A c' R s') (fun e s' => R (.error e) s') s:=by
 have hSI : S ≠ s.heap.objs.size:=Nat.ne_of_lt (Heap.lt_size hS)
 have hSf : S ∉ [s.heap.objs.size]:=fun hm => hSI (List.mem_singleton.mp hm)
 unfold Builtin.List.listExtendWith
 refine wpAny_bind (wpAny_typeOf (T := "bytes") (v:=.bytes x t) rfl ?_)
 have h1 : Builtin.List.listSameRef (.ref S) (.bytes x t) = false:=rfl
 have h2 : (Value.type "bytes" == Value.type "list") = false:=by decide
 have h3 : (Value.type "bytes" == Value.type "tuple") = false:=by decide
 simp only [h1,h2,h3,Bool.or_false,Bool.false_eq_true,if_false]
 refine wpAny_bind (KBw.pyIter_bytes ?_)
 refine wpAny_bind (wpAny_holding ?_)
 unfold Builtin.List.listLengthHint
 refine wpAny_bind ?_
 with_reducible refine wpAny_specialOf (T := "bytes") (v:=.bytes x t) ?_ bytes_len ?_
 ·rfl
 wp_delta
 refine wpAny_bind (wpAny_isInstance (T := "bytes") (v:=.bytes x t) (b:=true) rfl (by rw [isSubtype_type];kernel_rfl) ?_)
 show wpAny _ _ (typeOf (Value.bytes x t) >>= _) _ _ _
 refine wpAny_bind (wpAny_typeOf (T := "bytes") (v:=.bytes x t) rfl ?_)
 refine wpAny_pure ?_
 rw [if_neg (by decide)]
 refine wpAny_pure ⟨plainId_quiet F.plain_extend_loop _,codeAny_extend_loopS (KBw.walks (A:=A.in1) (prog:=prog) (w:=w) hh s.heap.objs.size x t).toS hn _ hSf _ x.size 0 _ _ _ rfl (Nat.zero_le _) ?_ (Heap.get?_push_of_some _ hS) (ItemsOf.nil _) fun s' acc' c' hm hS' hacc => ?_⟩
 ·exact ⟨_,Heap.get?_push_size _ rfl,rfl,rfl⟩
 rw [Moved.eq_with hm]
 refine hR s'.heap s'.toks acc' c' (fun b ob hb e => hm.heap b ob (fun hmem => ?_) (Heap.get?_push_of_some _ e)) hS' hacc
 refine Or.elim (List.mem_cons.mp hmem) (fun e' => ?_) fun hmem => ?_
 ·exact hb e'
 ·exact absurd (Heap.lt_size e) (by rw [List.mem_singleton.mp hmem];exact Nat.lt_irrefl _)
theorem init_bytes {R : Result -> Shared -> Prop} (hh : A.handled = none) (x : Array UInt8) (t : Tok) (S : Addr) (hS : s.heap.get? S = some { cls:=.type "list",data:=.seq #[] })
  (hR : ∀ h' tk acc' c',(∀ b o,b ≠ S -> s.heap.get? b = some o -> h'.get? b = some o) -> h'.get? S = some { cls:=.type "list",dict:=none,data:=.seq acc' c',slots := #[] } ->
   ItemsOf (fun i v => ∃ c u,x[i]? = some c /\ v = .int (c.toNat : Int) u) acc' x.size -> R (.ok (.ret .none)) { s with heap:=h',toks:=tk }) (hn : x.size <= sizeLine) :
  wpAny (model prog w) A.in1 (Builtin.«list.__init__» ⟨[.ref S, .bytes x t], []⟩)
   (fun fin s' => match fin with | .done f => R (.ok f) s' | .again c' => c'.quiet = true /\ codeAny (model prog w) A c' R s') (fun e s' => R (.error e) s') s:=by
 show wpAny _ _ (do let old <- Builtin.List.listItems (.ref S);Builtin.List.listUpdate (.ref S) (fun z9 => #[]);letGo old.toList.reverse;Builtin.List.listExtendWith (.ref S) (.bytes x t) .none) _ _ s
 refine wpAny_bind ?_
 unfold Builtin.List.listItems
 refine wpAny_bind (wpAny_seqItems hS rfl (wpAny_pure ?_))
 show wpAny _ _ (updateSeq S (fun z9 => #[]) >>= fun z9 => letGo (#[] : Array Value).toList.reverse >>= fun z9 => Builtin.List.listExtendWith (.ref S) (.bytes x t) .none) _ _ s
 refine wpAny_bind (wpAny_updateSeq hS rfl ?_)
 have hS₂:=Heap.get?_update_self (Obj.mapSeq (fun z9 => (#[] : Array Value))) hS rfl
 have oth : ∀ b o,b ≠ S -> s.heap.get? b = some o -> (s.heap.update S (Obj.mapSeq (fun z9 => (#[] : Array Value)))).get? b = some o :=
  fun b o hb e => (Heap.get?_update_other _ _ (Ne.symm hb)).trans e
 refine wpAny_bind (wpAny_letGo ?_)
 refine extend_bytes (hn:=hn) hh x t S .none _ hS₂ fun h' tk acc' c' hk hS' hacc => ?_
 exact hR h' tk acc' c' (fun b o hb e => hk b o hb (oth b o hb e)) hS' hacc
theorem list_bytes {Q : Value -> Shared -> Prop} (hh : A.handled = none) (x : Array UInt8) (t : Tok)
  (hQ : ∀ h' tk acc' c',(∀ b o,s.heap.get? b = some o -> h'.get? b = some o) ->
   h'.get? s.heap.objs.size = some { cls:=.type "list",dict:=none,data:=.seq acc' c',slots := #[] } -> ItemsOf (fun i v => ∃ c u,x[i]? = some c /\ v = .int (c.toNat : Int) u) acc' x.size -> Q (.ref s.heap.objs.size) { s with heap:=h',toks:=tk }) (hn : x.size <= sizeLine) :
  wpAny (model prog w) A (call (.type "list") [.bytes x t]) Q E s:=by
 refine callType_codes (Q₁:=fun obj s₁ => obj = .ref s.heap.objs.size /\ s₁ = { s with heap:=s.heap.push { cls:=.type "list",data:=.seq #[] } }) F.called_list (F.typeCall_list_1 _) F.entry_list_init
  (code_list_new _ ⟨rfl,rfl⟩) fun obj s₁ h₁ => ?_
 obtain ⟨rfl,rfl⟩ := h₁
 have hS : (s.heap.push { cls:=.type "list",data:=.seq #[] }).get? s.heap.objs.size = some { cls:=.type "list",data:=.seq #[] } := Heap.get?_push_size _ rfl
 refine ⟨⟨_,hS,rfl⟩,F.args_list_init_2 _ _,init_bytes (A:=A.in1) (hn:=hn) hh x t _ hS fun h' tk acc' c' hk hS' hacc => ?_⟩
 exact ⟨rfl,hQ h' tk acc' c' (fun b o e => hk b o (Nat.ne_of_lt (Heap.lt_size e)) (Heap.get?_push_of_some _ e)) hS' hacc⟩
theorem joinN {x : Str} {t : Tok} {Q : Value -> Shared -> Prop} {D : Addr} {items : Array Value} {ys : List Str} (hl : s.heap.IsList D items) (hi : StrsAre items.toList ys) (hsep : x.length <= 64) (hok : (ys.map (·.length)).sum + ys.length * 64 <= 16777216)
  (h : ∀ t' k,(Txt.join x ys).length <= (ys.map (·.length)).sum + ys.length * 64 -> Q (.str (Txt.join x ys) t') { s with toks:=k }) : wpAny (model prog w) A (call (.builtin "str.join") [.str x t, .ref D]) Q E s:=join_listC hl hi hsep hok fun t' k => h t' k (by rw [show Txt.join x ys = Str.join x ys from eq_of_beq (join_closes rfl)];exact Nat.le_trans (StrLaws.join_length_le x ys) (Nat.add_le_add_left (Nat.mul_le_mul_left _ hsep) _))
end
theorem strsAt : ∀ {vs : List Value} {ns : List Str} {i : Nat},StrsAre vs ns -> i < ns.length -> ∃ t,vs[i]? = some (Value.str (ns.getD i ⟨#[]⟩) t)
 | _,_,_, .nil,h => nomatch h
 | _,_,0, .cons n t _,_ => ⟨t,rfl⟩
 | _,_,i + 1, .cons n t r,h => by
  have:=strsAt (i:=i) r (by simpa using h)
  simpa using this
noncomputable abbrev cs (x : Str) : List Nat:=x.cps.toList
noncomputable def mkS (l : List Nat) : Str:=⟨l.toArray⟩
theorem cs_mkS (l : List Nat) : cs (mkS l) = l:=by simp [cs,mkS]
theorem mkS_cs (x : Str) : mkS (cs x) = x:=by cases x;simp [cs,mkS]
theorem len_mkS (l : List Nat) : (mkS l).length = l.length:=by simp [mkS,Str.length]
theorem len_cs (x : Str) : (cs x).length = x.length:=by simp [cs,Str.length]
theorem slice_drop (l : List Nat) (n : Nat) (h : n <= l.length) : Txt.slice (mkS l) (some (n : Int)) none = mkS (l.drop n):=by
 rw [slice_from_eq (b:=((mkS l).length : Int)) (by lia) (by rw [len_mkS];lia) rfl]
 show mkS _ = mkS _
 congr 1
 show ((cs (mkS l)).drop _).take _ = _
 rw [cs_mkS,Int.toNat_natCast,List.take_of_length_le]
 rw [List.length_drop,len_mkS];lia
theorem slice_take (l : List Nat) (n : Nat) (h : n <= l.length) : Txt.slice (mkS l) none (some (n : Int)) = mkS (l.take n):=by
 have:=slice_closes_to (x:=mkS l) (j:=(n : Int)) ⟨by lia,by show (n : Int) <= (cs (mkS l)).length;rw [cs_mkS];lia⟩
 rw [eq_of_beq this]
 show mkS _ = mkS _
 have e : (List.drop (0 : Int).toNat (mkS l).cps.toList).take ((n : Int) - 0).toNat = l.take n:=by
  show ((cs (mkS l)).drop _).take _ = _
  rw [cs_mkS];simp
 rw [e]
theorem slice_mid (l : List Nat) (a b : Nat) (h : a <= b) (h' : b <= l.length) : Txt.slice (mkS l) (some (a : Int)) (some (b : Int)) = mkS ((l.drop a).take (b - a)):=by
 have:=slice_closes (x:=mkS l) (i:=(a : Int)) (j:=(b : Int)) ⟨by lia,by lia,by show (b : Int) <= (cs (mkS l)).length;rw [cs_mkS];lia⟩
 rw [eq_of_beq this]
 show mkS _ = mkS _
 congr 1
 show ((cs (mkS l)).drop _).take _ = _
 rw [cs_mkS]
 try (congr 1;lia)
theorem lk_append : typeLookup (.type "list") "append" = pure (some (.builtin "list.append")):=by rw [typeLookup_type,builtinLookup_eq_fast];kernel_rfl
theorem ty_append : typeOf (.builtin "list.append") = pure (.type "method_descriptor"):=by show builtinType _ = _;rw [builtinType_eq_fast];kernel_rfl
theorem md_get : typeLookup (.type "method_descriptor") "__get__" = pure (some (.builtin "method_descriptor.__get__")):=by rw [typeLookup_type,builtinLookup_eq_fast];kernel_rfl
theorem md_set : typeLookup (.type "method_descriptor") "__set__" = pure none:=by rw [typeLookup_type,builtinLookup_eq_fast];kernel_rfl
theorem md_del : typeLookup (.type "method_descriptor") "__delete__" = pure none:=by rw [typeLookup_type,builtinLookup_eq_fast];kernel_rfl
theorem e_mdget : entryFor table "method_descriptor.__get__" = some Builtin.«method_descriptor.__get__» := entryFor_of_tree (by kernel_rfl)
theorem c_mdget (a : Addr) : checkBuiltinCall "method_descriptor.__get__" ⟨[.builtin "list.append", .ref a, .type "list"], []⟩ = pure ():=by kernel_rfl
theorem words_A : True:=by
 k_with "A" => first | assumption | (with_reducible first | refine wpAny_pure ?_ | refine wpAny_bind ?_ | refine wpAny_holding ?_ | refine wpAny_standAt ?_ | refine wpAny_point ?_ | refine wpAny_rule ?_ | refine wpAny_letGo ?_ | refine wpAny_mkInt' ?_ | refine wpAny_fresh' ?_ | refine wpAny_alloc' ?_ | refine wpAny_attempt ?_ | refine wpAny_throw ?_ | refine wpAny_of_eq (by assumption) ?_ | refine wpAny_typeOf (by assumption) ?_ | refine wpAny_specialOf_val (by assumption) (by assumption) ?_ | refine wpAny_specialOf (by assumption) (by assumption) ?_ | refine wpAny_isInstance_val (by assumption) (by assumption) ?_ | refine wpAny_isInstance (by assumption) (by assumption) ?_ | refine wpAny_call ?_ | refine wpAny_runValue ?_ | refine wpAny_run ?_) | ((with_reducible show wpAny _ _ (load _) _ _ _;apply wpAny_load');focus (heap_get;done)) | ((with_reducible show wpAny _ _ (update _ _) _ _ _;apply wpAny_update');focus (heap_get;done)) | ((with_reducible show wpAny _ _ (loadPart _ _) _ _ _;apply wpAny_loadPart');focus (heap_get;done)) | ((with_reducible show wpAny _ _ (updatePart _ _ _) _ _ _;apply wpAny_updatePart');focus (heap_get;done)) | ((with_reducible refine wpAny_handled_none ?_ ?_);focus (assumption;done)) | ((with_reducible refine wpAny_ite_false ?_ ?_);focus (rfl;done)) | ((with_reducible refine wpAny_ite_true ?_ ?_);focus (rfl;done)) | ((with_reducible refine wpAny_ite_false ?_ ?_);focus (simp [*];done)) | ((with_reducible refine wpAny_ite_true ?_ ?_);focus (simp [*];done)) | wp_delta | with_reducible_and_instances refine wpAny_pure ?_ | with_reducible_and_instances refine wpAny_bind ?_
 trivial
theorem sub_ll : isSubtype (.type "list") (.type "list") = pure true:=by rw [isSubtype_type];kernel_rfl
section
variable {prog : Program} {w : World} {A : Around} {E : Value -> Shared -> Prop} {s : Shared}
theorem meets_ga (a : Addr) (xs : Array Value) (k : Nat) (sl : Array (Option Value)) (u : Tok) :
  Meets (Builtin.«object.__getattribute__» ⟨[.ref a, .str (Str.ofString "append") u], []⟩) (fun A R s => s.heap.get? a = some { cls:=.type "list",dict:=none,data:=.seq xs k,slots:=sl } /\ ∀ tk,R (.ok (.ret (.ref s.heap.objs.size))) { s with heap:=s.heap.push { cls:=.type "builtin_function_or_method",data:=.fields #[.builtin "list.append", .ref a] },toks:=tk }) :=
 Meets.of_wp fun prog w A R s hs => by
  obtain ⟨hp,g,d,tk,os⟩ := s
  refine Y2 hs fun hx hs => ?_
  have hT : (⟨hp,g,d,tk,os⟩ : Shared).TypeIs (.ref a) "list" := ⟨_,hx,rfl⟩
  have f1:=lk_append
  have f2:=ty_append
  have f3:=md_get
  have f4:=md_set
  have f5:=md_del
  unfold Builtin.«object.__getattribute__»
  repeat (any_goals (k_extra "A"))
  refine codeAny_call_builtin (by decide +kernel) e_mdget (wpAny_of_eq (c_mdget a) ?_)
  have f6:=sub_ll
  unfold Builtin.«method_descriptor.__get__»
  iterate 6 (k_extra "A")
  refine wpAny_pure ?_
  dsimp only
  have hb : Manifest.toldItsClass.contains "list.append" = false:=by decide +kernel
  have hv : (Value.ref a == Value.none) = false:=rfl
  have hv2 : (Value.type "list" == Value.none) = false:=rfl
  rw [hv,hv2,if_neg Bool.false_ne_true,if_neg Bool.false_ne_true]
  dsimp only
  rw [hb,if_neg Bool.false_ne_true]
  wp_delta
  refine wpAny_bind ?_
  wp_delta
  refine wpAny_bind (wpAny_of_eq (a:=(Str.ofString "append", .type "list")) (by kernel_rfl) ?_)
  dsimp only
  refine wpAny_bind (wpAny_isInstance (T := "list") (b:=true) hT f6 ?_)
  rw [if_neg (by decide)]
  refine wpAny_pure ?_
  refine wpAny_bind (wpAny_newObj_type (wpAny_pure ?_) (by size_fits))
  exact wpAny_pure ⟨_,rfl,hs _⟩
theorem am_entry : entryFor table "list.__getattribute__" = some Builtin.«object.__getattribute__» := am_entry_list_getattribute
theorem getAppend {a : Addr} {o : Obj} {xs : Array Value} {k : Nat} {Q : Value -> Shared -> Prop}
  (hx : s.heap.get? a = some o) (hc : o.cls = .type "list") (hdat : o.data = .seq xs k) (hd : o.dict = none) 
  (h : ∀ tk,Q (.ref s.heap.objs.size) { s with heap:=s.heap.push { cls:=.type "builtin_function_or_method",data:=.fields #[.builtin "list.append", .ref a] },toks:=tk }) :
  wpAny (model prog w) A (getAttr (.ref a) (Str.ofString "append") true) Q E s:=by
 obtain ⟨c,dct,dat,sl⟩ := o
 simp only at hc hdat hd
 subst hc hdat hd
 obtain ⟨hp,g,d,tk,os⟩ := s
 have hT : ∀ tk',(⟨hp,g,d,tk',os⟩ : Shared).TypeIs (.ref a) "list" := fun z9 => ⟨_,hx,rfl⟩
 have f3:=F.slot_list_getattribute.lookup
 have f4:=F.slot_list_getattribute.bind (.ref a)
 have f5:=am_list_getattr_none
 unfold getAttr getAttrBy
 repeat (any_goals (first | assumption | exact hT _ | ((with_reducible show wpAny _ _ (call (Value.builtin "list.__getattribute__") _ _) _ _ _);refine call_meets F.slot_list_getattribute (hT _) am_entry (F.args_list_getattribute_2 _ _) (meets_ga a xs k sl _) ⟨hx,fun tk' => ?_⟩) | k_extra "A"))
 exact wpAny_pure (h _)
theorem sig_some : (Manifest.signature? "list.append").isSome = true:=by decide +kernel
theorem kind_app : builtinKind "list.append" = some .method:=by decide +kernel
theorem sub_lm : isSubtype (.type "list") (.type "module") = pure false:=by rw [isSubtype_type];kernel_rfl
theorem bound_ok {a : Addr} {v : Value} {xs : Array Value} {k : Nat} {sl : Array (Option Value)} {Q : Unit -> Shared -> Prop} (hx : s.heap.get? a = some { cls:=.type "list",dict:=none,data:=.seq xs k,slots:=sl }) (h : Q () s) :
  wpAny (model prog w) A (checkBoundCall "list.append" ⟨[.ref a,v], []⟩) Q E s:=by
 have hT : s.TypeIs (.ref a) "list" := ⟨_,hx,rfl⟩
 unfold checkBoundCall
 have e : Manifest.signature? "list.append" = some ((Manifest.signature? "list.append").get sig_some):=by simp
 rw [e]
 dsimp only
 rw [kind_app]
 dsimp only
 rw [if_neg (by decide)]
 refine wpAny_bind (wpAny_isInstance (T := "list") (b:=false) hT sub_lm ?_)
 rw [if_neg (by decide +kernel)]
 obtain ⟨hp,g,d,tk,os⟩ := s
 refine wpAny_bind ?_
 unfold isType
 refine wpAny_bind ?_
 unfold loadHead
 refine wpAny_loadPart' hx (wpAny_pure ?_)
 dsimp only
 rw [if_neg Bool.false_ne_true]
 refine wpAny_bind (wpAny_typeOf hT ?_)
 dsimp only
 exact wpAny_of_eq (by kernel_rfl) h
theorem call_app {B a : Addr} {v : Value} {xs : Array Value} {k : Nat} {Q : Value -> Shared -> Prop} (hB : s.heap.get? B = some { cls:=.type "builtin_function_or_method",data:=.fields #[.builtin "list.append", .ref a] })
  (hx : s.heap.get? a = some { cls:=.type "list",data:=.seq xs k }) (hsz : xs.size <= sizeLine)
  (h : ∀ h',h'.get? a = some { cls:=.type "list",data:=.seq (xs.push v) (k + 1) } -> Heap.SameBut a s.heap h' -> Q .none { s with heap:=h' }) :
  wpAny (model prog w) A (call (.ref B) [v]) Q E s:=by
 refine wpAny_call (codeAny_of_tree ?_)
 show wpAny _ _ (callAny (.ref B) ⟨[v], []⟩) _ _ s
 simp only [callAny]
 refine wpAny_bind (wpAny_load hB ?_)
 dsimp only
 rw [if_pos (by decide)]
 refine wpAny_bind ?_
 refine bound_ok (v:=v) hx (wpAny_pure ⟨?q, ?c⟩)
 case q => exact plainId_quiet (by decide +kernel) _
 case c =>
  refine codeAny_builtin entry_list_append ?_
  show wpAny _ _ (updateSeq a (·.push v) >>= fun z9 => ret .none) _ _ s
  refine wpAny_bind ?_
  refine wpAny_updateSeq hx rfl (wpAny_pure (h _ ?_ (Heap.SameBut.update ..)))
  rw [Heap.get?_update_self _ hx (by rw [Obj.mapSeq_push_plain];rfl),Obj.mapSeq_push_plain]
noncomputable def BmAt (x : Addr) (h : Heap) : Prop := ∃ a,h.get? x = some { cls:=.type "builtin_function_or_method",data:=.fields #[.builtin "list.append", .ref a] }
theorem callWithF {M : Model} {pos : Pos} {u : Addr} {first : List Value} {args : List (Bool × Sem Value)} {Q : Value -> Shared -> Prop} (hplain : args.any (·.1) = false)
  (h : wpAny M A (evalArgs (.ref u) true args []) (fun x s₁ => BmAt u s₁.heap /\ wpAny M A (call (.ref u) (first ++ x.pos) x.kw) Q E s₁) E s) : wpAny M A (callWith pos (.ref u) first args []) Q E s:=by
 unfold callWith
 refine wpAny_bind (wpAny_holding (wpAny_mono h (fun x s₁ h₁ => wpAny_bind (wpAny_standAt ?_)) fun _ _ x => x))
 refine Y2 h₁ fun q1 hcall => X10 q1 fun a ho => ?_
 simp only [hplain,List.any_nil,Bool.or_false]
 refine wpAny_bind (m:=keeperOf (.ref u)) ?_
 unfold keeperOf
 refine wpAny_bind (wpAny_load ho ?_)
 simp only [show (Value.type "builtin_function_or_method" != Value.type "method") = true by decide,show (Value.type "builtin_function_or_method" == Value.type "builtin_function_or_method" || Value.type "builtin_function_or_method" == Value.type "method-wrapper") = true by decide,if_true]
 refine wpAny_pure ?_
 exact wpAny_bind (wpAny_mono hcall (fun r s₂ hr => wpAny_bind (wpAny_holding (wpAny_point (wpAny_pure hr)))) fun _ _ x => x)
end
inductive Nth {α : Type} : List α -> Nat -> α -> Prop
 | zero {x : α} {l : List α} : Nth (x :: l) 0 x
 | succ {x y : α} {l : List α} {n : Nat} : Nth l n x -> Nth (y :: l) (n + 1) x
theorem Nth.at {α : Type} {l : List α} {n : Nat} {x : α} (h : Nth l n x) : l[n]? = some x:=by
 induction h with
 | zero => rfl
 | succ _ ih => exact ih
inductive Put : List (Option PV) -> Nat -> PV -> List (Option PV) -> Prop
 | zero {x : Option PV} {p : PV} {l : List (Option PV)} : Put (x :: l) 0 p (some p :: l)
 | succ {y : Option PV} {p : PV} {l l' : List (Option PV)} {n : Nat} : Put l n p l' -> Put (y :: l) (n + 1) p (y :: l')
theorem Put.set {l : List (Option PV)} {n : Nat} {p : PV} {l' : List (Option PV)} (h : Put l n p l') : l' = l.set n (some p):=by
 induction h with
 | zero => rfl
 | succ _ ih => exact congrArg (_ :: ·) ih
section
variable {α : Type} {a b c d x : α} {l : List α} {n : Nat}
theorem Nth.one : Nth (a :: x :: l) 1 x:=.succ .zero
theorem Nth.two : Nth (a :: b :: x :: l) 2 x:=.succ .one
theorem Nth.three : Nth (a :: b :: c :: x :: l) 3 x:=.succ .two
theorem Nth.add4 (h : Nth l n x) : Nth (a :: b :: c :: d :: l) (n + 4) x:=.succ (.succ (.succ (.succ h)))
end
section
variable {a b c d : Option PV} {p : PV} {l l' : List (Option PV)} {n : Nat}
theorem Put.one : Put (a :: b :: l) 1 p (a :: some p :: l):=.succ .zero
theorem Put.two : Put (a :: b :: c :: l) 2 p (a :: b :: some p :: l):=.succ .one
theorem Put.three : Put (a :: b :: c :: d :: l) 3 p (a :: b :: c :: some p :: l):=.succ .two
theorem Put.add4 (h : Put l n p l') : Put (a :: b :: c :: d :: l) (n + 4) p (a :: b :: c :: d :: l'):=.succ (.succ (.succ (.succ h)))
end
section
variable {w : World} {C : Cx} {A : Around} {Γ Γ' Γ'' : List (Option PV)} {led : Led} {s : Shared}
theorem Pure.nm (Z : CxOk w C) {i : Nat} {x : Str} {pos : Pos} {pv : PV} (hx : Nth C.nms i x) (hv : Nth Γ i (some pv)) : Pure w A C Γ led (.Name x pos) pv:=Pure.name Z i hx.at hv.at
variable {K : Flow -> Shared -> Prop} {rest : List Stmt}
theorem Run.let_ (Z : CxOk w C) {i : Nat} {x : Str} {p pos : Pos} {e : Expr} {pv : PV} (h : Pure w A C Γ led e pv) (hx : Nth C.nms i x) (hk : C.env.kindOf x = some .local) (hp : Put Γ i pv Γ') (hs : swapsWith e (some (.Name x p)) pos.line C.env = pure false) (r : Run w A C Γ' led rest K) : Run w A C Γ led (.Assign [.Name x p] e pos :: rest) K:=by
 rw [hp.set] at r;exact Run.assign Z i hx.at hk h r hs
theorem Run.aug_ (Z : CxOk w C) {i : Nat} {x : Str} {p pos : Pos} {op : Operator} {e : Expr} {a b c : PV} (hx : Nth C.nms i x) (hk : C.env.kindOf x = some .local) (hv : Nth Γ i (some a)) (h : Pure w A C Γ led e b) (o : Op2 w A (inplaceOp op) a b c) (hp : Put Γ i c Γ')
  (r : Run w A C Γ' led rest K) : Run w A C Γ led (.AugAssign (.Name x p) op e pos :: rest) K:=by
 rw [hp.set] at r;exact Run.aug Z i hx.at hk hv.at h o r
theorem Asg.nm (Z : CxOk w C) {i : Nat} {x : Str} {p : Pos} {pv : PV} (hx : Nth C.nms i x) (hk : C.env.kindOf x = some .local) (hp : Put Γ i pv Γ') : Asg w A C (.Name x p) Γ led pv Γ' := by
 rw [hp.set];exact Asg.name Z i hx.at hk
theorem Ext.trans {a b c : Heap} (x : Ext a b) (y : Ext b c) : Ext a c:=fun p o e => y p o (x p o e)
theorem tupNew {h : Heap} {M : List Addr} {ps : List PV} {vs : List Value} (r : Reps h M ps vs) (hM : ∀ b ∈ M, ∃ o,h.get? b = some o) : Rep (h.push { cls:=.type "tuple",data:=.seq vs.toArray }) M (.tup ps) (.ref h.objs.size) :=
 .tup (n:=0) (Heap.get?_push_size _ rfl) (fun z => by obtain ⟨o,e⟩ := hM _ z;exact absurd (Heap.lt_size e) (Nat.lt_irrefl _)) (by simpa using r.keep (Ext.sk fun b o e => Heap.get?_push_of_some _ e) fun _ _ _ m => m)
theorem lstNew {h : Heap} {M : List Addr} {ps : List PV} {vs : List Value} (r : Reps h M ps vs) (hM : ∀ b ∈ M, ∃ o,h.get? b = some o) : Rep (h.push { cls:=.type "list",data:=.seq vs.toArray }) M (.lst ps) (.ref h.objs.size) :=
 .lst (n:=0) (Heap.get?_push_size _ rfl) (fun z => by obtain ⟨o,e⟩ := hM _ z;exact absurd (Heap.lt_size e) (Nat.lt_irrefl _)) (by simpa using r.keep (Ext.sk fun b o e => Heap.get?_push_of_some _ e) fun _ _ _ m => m)
theorem Pure.tuple (Z : CxOk w C) {es : List Expr} {ps : List PV} {k : Nat} {pos : Pos} (h : Args w A C Γ led es ps) (hl : ps.length <= 1000) : Pure w A C Γ led (.Tuple es k pos) (.tup ps):=fun s Q E a q =>
 Tuple_ (h.spliced Z pos s _ a fun vs h1 k1 r1 e1 a1 => wpAny_newTuple (q _ _ _ (tupNew r1 (a1.alive Z)) (e1.trans fun b o e => Heap.get?_push_of_some _ e) (a1.ext Z (k:=k1) fun b o e => Heap.get?_push_of_some _ e)) (by rw [r1.length,sizeLine_eq];lia))
theorem Pure.list (Z : CxOk w C) {es : List Expr} {ps : List PV} {pos : Pos} (h : Args w A C Γ led es ps) (hl : ps.length <= 1000) : Pure w A C Γ led (.List es pos) (.lst ps):=fun s Q E a q =>
 List_ (h.spliced Z pos s _ a fun vs h1 k1 r1 e1 a1 => wpAny_newList (q _ _ _ (lstNew r1 (a1.alive Z)) (e1.trans fun b o e => Heap.get?_push_of_some _ e) (a1.ext Z (k:=k1) fun b o e => Heap.get?_push_of_some _ e)) (by rw [r1.length,sizeLine_eq];lia))
theorem Asg.pair (Z : CxOk w C) (hh : A.handled = none) {t₁ t₂ : Expr} {k : Nat} {pos : Pos} {p₁ p₂ : PV} (h1 : Asg w A C t₁ Γ led p₁ Γ') (h2 : Asg w A C t₂ Γ' led p₂ Γ'') (he : assignEach [t₁,t₂] C.env = [(false,assign t₁ C.env),(false,assign t₂ C.env)]) :
  Asg w A C (.Tuple [t₁,t₂] k pos) Γ led (.tup [p₁,p₂]) Γ'' := fun s v Q E a r q => by
 apply Rep.elT2 r;intro ad v₁ v₂ n e m r₁ r₂
 refine wpAny_assign_Tuple hh ⟨_,e,rfl,_,rfl⟩ (by rw [he];rfl) (by rw [he];rfl) fun h' ex => ?_
 have ex' : Ext s.heap h' := fun b o q => ex b o (fun z => by rw [z] at q;exact absurd (Heap.lt_size q) (Nat.lt_irrefl _)) q
 have a1 : AS C Γ led { s with heap:=h',toks:=s.toks } := a.ext Z ex'
 rw [he]
 refine wpAny_assignInOrder_more (h1 _ v₁ _ _ a1 (r₁.ext ex') fun h3 k3 sk3 a3 => wpAny_assignInOrder_more (h2 _ v₂ _ _ a3 ((r₂.ext ex').keep sk3 fun _ _ _ m => m) fun h4 k4 sk4 a4 => wpAny_assignInOrder_none (q h4 k4 (fun b o e1 e2 e3 => sk4 b o (sk3 b o (ex' b o e1) e2 e3) e2 e3) a4)))
theorem Pure.itemS (Z : CxOk w C) {e i : Expr} {pos : Pos} {x : Str} {k : Int} {c : Nat} (h1 : Pure w A C Γ led e (.str x)) (h2 : Pure w A C Γ led i (.int k)) (h0 : -(x.length : Int) <= k) (hk : k < (x.length : Int)) (hn : x.length <= 16777216) (hc : (Txt.charAt x k).getD 0 = c)
  (hs : ∀ t u,subscripted i false (.str x t) (.int k u) = operate [.str x t, .int k u] (getItem (.str x t) (.int k u))) (ht : ∀ t r,letTemporaryGo e (.str x t) r = pure ()) : Pure w A C Γ led (.Subscript e i pos) (.str ⟨#[c]⟩):=fun s Q E a q =>
 Subscript_ (h1 s _ E a fun va ha ka ra ea aa => h2 _ _ E aa fun vb hb kb rb eb ab => by
  (apply Rep.elS ra;intro z9);(apply Rep.elI rb;intro z9)
  refine KXi.item rfl h0 hk hn (fun z9 => ?_) (hs _ _) (ht _)
  have e' : Txt.item x k = ⟨#[c]⟩ := by show (⟨#[(Txt.charAt x k).getD 0]⟩ : Str) = _;rw [hc]
  rw [e']
  exact q _ _ _ (.str _ _) (ea.trans eb) (ab.tok Z))
noncomputable def Part (w : World) (A : Around) (C : Cx) (Γ : List (Option PV)) (led : Led) : Option Expr -> Option Int -> Prop
 | none,none => True
 | some e,some n => Pure w A C Γ led e (.int n)
 | _,_ => False
theorem Part.ev (Z : CxOk w C) {o : Option Expr} {i : Option Int} (h : Part w A C Γ led o i) {s : Shared} {Q E : Value -> Shared -> Prop} (a : AS C Γ led s) (q : ∀ v h k,(i = none /\ v = .none \/ ∃ n t,i = some n /\ v = .int n t) -> Ext s.heap h -> AS C Γ led { s with heap:=h,toks:=k } -> Q v { s with heap:=h,toks:=k }) :
  wpAny (model vw w) A (evalPart o C.env) Q E s:=by
 cases o with
 | none =>
  cases i with
  | none => exact wpAny_of_eq (a:=Value.none) (by unfold evalPart;rfl) (q _ s.heap s.toks (.inl ⟨rfl,rfl⟩) noExt a)
  | some n => exact h.elim
 | some e =>
  cases i with
  | none => exact h.elim
  | some n =>
   have : evalPart (some e) C.env = eval e C.env:=by unfold evalPart;rfl
   rw [this]
   exact h s _ E a fun v h1 k1 r1 e1 a1 => by (apply Rep.elI r1;intro z9);exact q _ _ _ (.inr ⟨n,_,rfl,rfl⟩) e1 a1
theorem Pure.sliceS (Z : CxOk w C) {e : Expr} {lo up : Option Expr} {p pos : Pos} {x y : Str} {i j : Option Int} (h1 : Pure w A C Γ led e (.str x)) (h2 : Part w A C Γ led lo i) (h3 : Part w A C Γ led up j) (hz : x.length <= sizeLine) (hy : Txt.slice x i j = y)
  (ht : ∀ o r,letTemporaryGo e o r = pure ()) : Pure w A C Γ led (.Subscript e (.Slice lo up none p) pos) (.str y):=fun s Q E a q => by
 subst hy
 refine Subscript_Slice (h1 s _ E a fun va ha ka ra ea aa => ?_) ht
 (apply Rep.elS ra;intro z9)
 refine wpAny_Slice (h2.ev Z aa fun vi hi ki ci ei ai => h3.ev Z ai fun vj hj kj cj ej aj => ?_)
 refine wpAny_of_eq (a:=Value.none) (by unfold evalPart;rfl) ?_
 have kp : KeptH (Ext s.heap):=fun h ob k => k.trans fun b o e => Heap.get?_push_of_some _ e
 have e0 : Ext s.heap hj:=(ea.trans ei).trans ej
 have a0 : AS C Γ led { s with heap:=hj,toks:=kj } := aj
 have kpj : KeptH (Ext hj):=fun h ob k => k.trans fun b o e => Heap.get?_push_of_some _ e
 have fin : ∀ h' t' k,Ext hj h' -> Q (.str (Txt.slice x i j) t') { s with heap:=h',toks:=k } := fun h' t' k ex => q _ _ _ (.str _ _) (e0.trans ex) (a0.ext Z (k:=k) ex)
 have p0 : Ext hj (hj.push { cls:=.type "slice",data:=.fields #[vi,vj, .none] }):=fun b o e => Heap.get?_push_of_some _ e
 rcases ci with ⟨rfl,rfl⟩ | ⟨n,t,rfl,rfl⟩ <;> rcases cj with ⟨rfl,rfl⟩ | ⟨m,u,rfl,rfl⟩
 ·exact SBH.sliceItem_nn (s := { s with heap:=hj,toks:=kj }) kpj noExt fin hz
 ·exact SBH.sliceItem_ns (s := { s with heap:=hj,toks:=kj }) kpj noExt fin hz
 ·exact SBH.sliceItem_sn (s := { s with heap:=hj,toks:=kj }) kpj noExt fin hz
 ·exact SBH.sliceItem_ss (s := { s with heap:=hj,toks:=kj }) kpj noExt fin hz
theorem Pure.ite (Z : CxOk w C) {t x y : Expr} {pos : Pos} {b : Bool} {p : PV} (h : Test w A C Γ led t b) (h1 : b = true -> Pure w A C Γ led x p) (h2 : b = false -> Pure w A C Γ led y p) : Pure w A C Γ led (.IfExp t x y pos) p:=fun s Q E a q =>
 wpAny_IfExp (h s _ E a fun h' k ex a' => by
  cases b with
  | true => rw [if_pos rfl];exact h1 rfl _ _ E a' fun v h2 k2 r e a2 => q v h2 k2 r (ex.trans e) a2
  | false => rw [if_neg Bool.false_ne_true];exact h2 rfl _ _ E a' fun v h2 k2 r e a2 => q v h2 k2 r (ex.trans e) a2)
theorem Test.or {x y : Expr} {pos : Pos} {a b : Bool} (h1 : Test w A C Γ led x a) (h2 : a = false -> Test w A C Γ led y b) : Test w A C Γ led (.BoolOp .Or [x,y] pos) (a || b):=fun s Q E as h => by
 refine isTrue_or (h1 s _ _ as fun hh k e a1 => ?_)
 cases a with
 | true => exact h hh k e a1
 | false => exact isTrue_or (h2 rfl _ _ _ a1 fun h3 k3 e3 a3 => by
   cases b with
   | true => exact h h3 k3 (fun x y q => e3 x y (e x y q)) a3
   | false => exact isTrue_or_nil (h h3 k3 (fun x y q => e3 x y (e x y q)) a3))
end
inductive Swap : Led -> Addr -> LO -> LO -> Led -> Prop
 | head {a : Addr} {x y : LO} {r : Led} : Swap ((a,x) :: r) a x y ((a,y) :: r)
 | tail {a : Addr} {x y : LO} {q : Addr × LO} {r r' : Led} : Swap r a x y r' -> Swap (q :: r) a x y (q :: r')
theorem Swap.mem {led led' : Led} {a : Addr} {x y : LO} (h : Swap led a x y led') : (a,x) ∈ led:=by
 induction h with
 | head => exact List.mem_cons_self
 | tail _ ih => exact List.mem_cons_of_mem _ ih
theorem Swap.fst {led led' : Led} {a : Addr} {x y : LO} (h : Swap led a x y led') : led'.map (·.1) = led.map (·.1):=by
 induction h with
 | head => rfl
 | tail _ ih => exact congrArg (_ :: ·) ih
theorem Swap.new {led led' : Led} {a : Addr} {x y : LO} (h : Swap led a x y led') : (a,y) ∈ led' := by
 induction h with
 | head => exact List.mem_cons_self
 | tail _ ih => exact List.mem_cons_of_mem _ ih
theorem key_inj {a : Addr} {x y : LO} {l : Led} (nd : (l.map (·.1)).Nodup) (h1 : (a,x) ∈ l) (h2 : (a,y) ∈ l) : x = y:=led_inj nd h1 h2
theorem Swap.of {led led' : Led} {a : Addr} {x y : LO} (h : Swap led a x y led') : ∀ p ∈ led',(p = (a,y)) \/ p ∈ led:=by
 induction h with
 | head => exact fun p hp => (List.mem_cons.mp hp).imp_right (List.mem_cons_of_mem _)
 | tail _ ih => exact fun p hp => (List.mem_cons.mp hp).elim (fun e => .inr (e ▸ List.mem_cons_self)) fun hp => (ih p hp).imp_right (List.mem_cons_of_mem _)
section
variable {w : World} {C : Cx} {A : Around} {Γ Γ' Γ'' : List (Option PV)} {led led' : Led} {s : Shared} {K : Flow -> Shared -> Prop} {rest : List Stmt}
theorem AS.alloc (Z : CxOk w C) (a : AS C Γ led s) {o : Obj} {lo : LO} (hf : o.isFreed = false) (r : RepO s.heap (C.M led) lo o) {k : Nat} : AS C Γ ((s.heap.objs.size,lo) :: led) { s with heap:=s.heap.push o,toks:=k } := by
 have ex : Ext s.heap (s.heap.push o):=fun b o e => Heap.get?_push_of_some _ e
 have g : ∀ b o',s.heap.get? b = some o' -> b ∉ C.M led -> b ∉ C.M ((s.heap.objs.size,lo) :: led):=fun b o' e m z => by
  refine Or.elim (List.mem_append.mp z) (fun z => ?_) fun z => ?_
  ·exact m (List.mem_append_left _ z)
  ·refine Or.elim (List.mem_cons.mp z) (fun z => ?_) fun z => ?_
   ·rw [z,noneAt] at e;exact nS e
   ·exact m (List.mem_append_right _ z)
 refine X11 a.fr fun m F hm => ?_
 refine ⟨⟨m,F.keeps ex,fun i x pv h1 h2 => ?_⟩,fun b o q => ex b o (a.kp b o q),fun p hp => ?_, ?_,fun x c h1 h2 => ?_,fun p hp => ?_,Z.x _ _ _ a.x⟩
 ·refine X11 (hm i x pv h1 h2) fun v h3 h4 => ?_
  exact ⟨v,h3.ext ex,h4.keep ex.sk g⟩
 ·rcases List.mem_cons.mp hp with rfl | hp
  ·exact ⟨noneSub a.kp noneAt,o,Heap.get?_push_size _ hf,r.keep ex.sk g⟩
  ·refine XAEA (a.lg p hp) fun h2 o' h3 h4 => ?_
   exact ⟨h2,o',ex _ _ h3,h4.keep ex.sk g⟩
 ·rw [List.map_cons,List.nodup_cons]
  refine ⟨fun z => ?_,a.nd⟩
  refine X11 (List.mem_map.mp z) fun q hq e => ?_
  refine XAEA (a.lg q hq) fun _ o' h3 _ => ?_
  rw [e,noneAt] at h3;exact nS h3
 ·refine X21 (a.ce x c h1 h2) fun v o' h3 h4 => ?_
  exact ⟨v,o',ex _ _ h3,h4⟩
 ·rcases List.mem_cons.mp hp with rfl | hp
  ·exact fun z => absurd F.lt (by rw [<- z];exact Nat.lt_irrefl _)
  ·exact a.ll p hp
theorem AS.swap (Z : CxOk w C) (a : AS C Γ led s) {b : Addr} {l l' : List PV} (U : Swap led b (.list l) (.list l') led') {h' : Heap} {k : Nat} (hs : Heap.SameBut b s.heap h') (hn : ∃ o,h'.get? b = some o /\ RepO s.heap (C.M led) (.list l') o) : AS C Γ led' { s with heap:=h',toks:=k } := by
 refine XAEA (a.lg _ U.mem) fun h0 ob eb rb => ?_
 refine X21 rb fun vs n q2 _ => ?_;subst q2
 dsimp only at h0 eb
 have hM : C.M led' = C.M led:=by show C.M₀ ++ _ = C.M₀ ++ _;rw [U.fst]
 have hb : b ∈ C.M led:=List.mem_append_right _ (List.mem_map_of_mem U.mem)
 have sk : SK (C.M led) s.heap h' := fun x o e _ m => (hs.2 x fun z => m (z ▸ hb)).trans e
 have ck : ∀ c v₀,s.heap.IsCell c v₀ -> h'.IsCell c v₀:=fun c v₀ ⟨o,q,dd⟩ => ⟨o,(hs.2 c (fun z => by rw [z,eb] at q;obtain rfl:=Option.some.inj q;exact Data.noConfusion dd)).trans q,dd⟩
 refine X11 a.fr fun m F hm => ?_
 refine ⟨⟨m, ?_,fun i x pv h1 h2 => ?_⟩,fun x o q => (hs.2 x fun z => by rw [z,h0] at q;exact nS q).trans (a.kp x o q),fun p hp => ?_,by rw [U.fst];exact a.nd,fun x c h1 h2 => (a.ce x c h1 h2).imp fun v q => ck c v q,fun p hp => (U.of p hp).elim (fun e => by rw [e];exact a.ll (b, .list l) U.mem) (a.ll p),Z.x _ _ _ a.x⟩
 ·refine X32 F fun o es ep q dd r => ?_
  exact ⟨o,es,ep,(hs.2 _ (fun z => by rw [z,eb] at q;obtain rfl:=Option.some.inj q;exact Data.noConfusion dd)).trans q,dd,r⟩
 ·refine X11 (hm i x pv h1 h2) fun v h3 h4 => ?_
  refine ⟨v, ?_,by rw [hM];exact h4.keep sk fun _ _ _ q => q⟩
  refine Or.elim h3 (fun h3 => ?_) fun q1 => XAEA q1 fun h3 c h5 h6 => ?_
  ·exact .inl h3
  ·exact .inr ⟨h3,c,h5,ck c _ h6⟩
 ·by_cases hpb : p.1 = b
  ·have hpp : p = (b, .list l'):=by
    obtain ⟨p1,p2⟩ := p
    dsimp only at hpb
    subst hpb
    rw [key_inj (by rw [U.fst];exact a.nd) hp U.new]
   subst hpp
   refine X11 hn fun o e r => ?_
   exact ⟨h0,o,e,by rw [hM];exact r.keep sk fun _ _ _ q => q⟩
  ·rcases U.of p hp with e | hm'
   ·exact absurd (congrArg (·.1) e) hpb
   ·refine XAEA (a.lg p hm') fun h2 o h3 h4 => ?_
    exact ⟨h2,o,(hs.2 _ hpb).trans h3,by rw [hM];exact h4.keep sk fun _ _ _ q => q⟩
theorem AS.rep (a : AS C Γ led s) {b : Addr} {l : List PV} (hm : (b, .list l) ∈ led) : ∃ vs n,s.heap.get? b = some (W.listOf vs n) /\ Reps s.heap (C.M led) l vs.toList:=by
 refine byG fun G kG => ?_
 refine XAEA (a.lg _ hm) fun _ o e q8 => X21 q8 fun vs n q5 r => ?_;subst q5
 refine kG ?_;clear kG G
 exact ⟨vs,n,e,r⟩
theorem AS.append (Z : CxOk w C) (a : AS C Γ led s) {b : Addr} {l : List PV} {p : PV} {v : Value} {Q E : Value -> Shared -> Prop} (U : Swap led b (.list l) (.list (l ++ [p])) led') (hl : l.length <= 1000) (r : Rep s.heap (C.M led) p v)
  (q : ∀ h k,AS C Γ led' { s with heap:=h,toks:=k } -> Q .none { s with heap:=h,toks:=k }) : wpAny (model vw w) A (PySem.call (.builtin "list.append") [.ref b,v]) Q E s:=by
 refine X21 (a.rep U.mem) fun vs n e rs => ?_
 refine append_at e (fun h' hs ho => q h' s.toks (a.swap Z U hs ⟨_,ho,_,_,rfl, ?_⟩)) (by have:=rs.length;rw [Array.length_toList] at this;rw [this,sizeLine_eq];lia)
 rw [Array.toList_push];exact rs.snoc r
theorem Run.expr {e : Expr} {pos : Pos} (h : ∀ s,AS C Γ led s -> wpAny (model vw w) A (eval e C.env) (fun z9 => Then w A C rest K .next) (fun z9 z9 => False) s) (hi : interactive C.env = false) (hs : swapsWith e none pos.line C.env = pure false) : Run w A C Γ led (.Expr e pos :: rest) K :=
 .st fun s a => wpAny_Expr_any (h s a) hi hs
theorem Run.append (Z : CxOk w C) {o e : Expr} {apos pos cpos : Pos} {b : Addr} {l : List PV} {p : PV} (ho : Pure w A C Γ led o (.val (.ref b))) (he : Pure w A C Γ led e p) (U : Swap led b (.list l) (.list (l ++ [p])) led') (hl : l.length <= 1000)
  (hbase : attributeBase o "append" C.env (eval o C.env) = eval o C.env) (hline : (apos.endLine == cpos.line) = true) (htrees : backTo cpos (starEach [e] C.env) = [(false,eval e C.env)]) (hi : interactive C.env = false) (hs : swapsWith (.Call (.Attribute o "append" apos) [e] [] cpos) none pos.line C.env = pure false)
  (r : Run w A C Γ led' rest K) : Run w A C Γ led (.Expr (.Call (.Attribute o "append" apos) [e] [] cpos) pos :: rest) K :=
 Run.expr (fun s a => by
  refine wpAny_Call_append hbase (by rw [htrees];rfl) hline htrees (ho s _ _ a fun v h1 k1 r1 e1 a1 => ?_)
  apply Rep.elV r1
  refine X21 (a1.rep U.mem) fun vs n e rs => ?_
  exact ⟨b,vs,rfl,⟨_,n,e,rfl,rfl,rfl⟩,he _ _ _ a1 fun v2 h2 k2 r2 e2 a2 => a2.append Z U hl r2 fun h3 k3 a3 => r _ a3⟩) hi hs
theorem Run.newList (Z : CxOk w C) {i : Nat} {x : Str} {p pos lp : Pos} (hx : Nth C.nms i x) (hk : C.env.kindOf x = some .local) (hs : swapsWith (.List [] lp) (some (.Name x p)) pos.line C.env = pure false)
  {Γ₁ : Addr -> List (Option PV)} (hp : ∀ b,Put Γ i (.val (.ref b)) (Γ₁ b)) (r : ∀ b,Run w A C (Γ₁ b) ((b, .list []) :: led) rest K) : Run w A C Γ led (.Assign [.Name x p] (.List [] lp) pos :: rest) K :=
 .st fun s a => wpAny_Assign_Name (List_ (spliced_none (wpAny_newList (by
  have a1 : AS C Γ ((s.heap.objs.size, .list []) :: led) { s with heap:=s.heap.push { cls:=.type "list",data:=.seq ([] : List Value).toArray },toks:=s.toks } := a.alloc Z (o:=W.listOf #[] 0) (lo:=.list []) rfl ⟨#[],0,rfl, .nil⟩
  refine a1.setL Z hx.at hk (.val _) fun h2 k2 _ a2 => r s.heap.objs.size _ ?_
  rw [(hp _).set];exact a2) (Nat.zero_le _)))) hs
theorem Run.bound (Z : CxOk w C) {i : Nat} {x : Str} {o : Expr} {p pos ap : Pos} {b : Addr} {l : List PV} (ho : Pure w A C Γ led o (.val (.ref b))) (hm : (b, .list l) ∈ led) (hx : Nth C.nms i x) (hk : C.env.kindOf x = some .local) (hs : swapsWith (.Attribute o (Str.ofString "append") ap) (some (.Name x p)) pos.line C.env = pure false)
  (hev : ∀ (s : Shared) (Q E : Value -> Shared -> Prop),wpAny (model vw w) A (eval o C.env) (fun v s₁ => wpAny (model vw w) A (getAttr v (Str.ofString "append") true) Q E s₁) E s -> wpAny (model vw w) A (eval (.Attribute o (Str.ofString "append") ap) C.env) Q E s)
  {Γ₁ : Addr -> List (Option PV)} (hp : ∀ d,Put Γ i (.val (.ref d)) (Γ₁ d)) (r : ∀ d,Run w A C (Γ₁ d) ((d, .app b) :: led) rest K) : Run w A C Γ led (.Assign [.Name x p] (.Attribute o (Str.ofString "append") ap) pos :: rest) K :=
 .st fun s a => wpAny_Assign_Name (hev s _ _ (ho s _ _ a fun v h1 k1 r1 e1 a1 => by
  apply Rep.elV r1
  refine X21 (a1.rep hm) fun vs n e rs => ?_
  refine getAppend e rfl rfl rfl fun tk => ?_
  have a2 : AS C Γ ((h1.objs.size, .app b) :: led) { s with heap:=h1.push { cls:=.type "builtin_function_or_method",data:=.fields #[.builtin "list.append", .ref b] },toks:=tk } := a1.alloc Z (lo:=.app b) rfl rfl
  refine a2.setL Z hx.at hk (.val _) fun h2 k2 _ a3 => r h1.objs.size _ ?_
  rw [(hp _).set];exact a3)) hs
theorem Run.add (Z : CxOk w C) {x : Str} {e : Expr} {np cpos pos : Pos} {b d : Addr} {l : List PV} {p : PV} (hf : Pure w A C Γ led (.Name x np) (.val (.ref d))) (hm : (d, .app b) ∈ led) (he : Args w A C Γ led [e] [p]) (U : Swap led b (.list l) (.list (l ++ [p])) led') (hl : l.length <= 1000)
  (hi : interactive C.env = false) (hs : swapsWith (.Call (.Name x np) [e] [] cpos) none pos.line C.env = pure false) (r : Run w A C Γ led' rest K) : Run w A C Γ led (.Expr (.Call (.Name x np) [e] [] cpos) pos :: rest) K :=
 Run.expr (fun s a => by
  refine wpAny_Call_NameR (hf s _ _ a fun v h1 k1 r1 e1 a1 => ?_)
  apply Rep.elV r1
  have pl:=he.plain cpos
  cases he with
  | cons he hst t =>
   cases t
   have hst' : backTo cpos (starEach [e] C.env) = backTo cpos (starEach [e] C.env):=rfl
   refine callWithF pl ?_
   rw [show backTo cpos (starEach [e] C.env) = (false,eval e C.env) :: backTo cpos (starEach [] C.env) from by rw [hst];rfl]
   refine Calls.evalArgs_plain (Calls.spliced_cons (he _ _ _ a1 fun v2 h2 k2 r2 e2 a2 => spliced_none ?_))
   refine XAEA (a2.lg _ hm) fun _ o eo ro => ?_
   refine X21 (a2.rep U.mem) fun vs n ev rs => ?_
   subst ro
   refine ⟨⟨b,eo⟩,call_app eo ev ?_ fun h' ho hsb => r _ (a2.swap Z (k:=k2) U hsb ⟨_,ho,_,_,rfl, ?_⟩)⟩
   ·have:=rs.length;rw [Array.length_toList] at this;rw [this,sizeLine_eq];lia
   ·rw [Array.toList_push];exact rs.snoc r2) hi hs
end
section
variable {w : World} {C : Cx} {A : Around} {Γ Γ' Γ'' : List (Option PV)} {led led' : Led} {s : Shared} {K : Flow -> Shared -> Prop} {rest : List Stmt}
noncomputable def Mt (w : World) (A : Around) (p : PV) (name : Str) (f : Value) : Prop := ∀ (M : List Addr) (s : Shared) (pl : Sem Bool) (Q : Value × List Value -> Shared -> Prop) (E : Value -> Shared -> Prop) v,Rep s.heap M p v -> Q (f, [v]) s -> wpAny (model vw w) A (getMethod v name pl) Q E s
theorem mStr {x : Str} {name : Str} {id : String} (h : ∀ (s : Shared) (t : Tok) (pl : Sem Bool) (Q : Value × List Value -> Shared -> Prop) (E : Value -> Shared -> Prop),Q (.builtin id, [.str x t]) s -> wpAny (model vw w) A (getMethod (.str x t) name pl) Q E s) : Mt w A (.str x) name (.builtin id):=fun M s pl Q E v r q => by
 refine X10 (Rep.inS r) fun _ q1 => ?_;subst q1;with_reducible exact h s _ pl Q E q
noncomputable def Gm (w : World) (A : Around) (f : Value) (p : PV) (ps : List PV) (r : PV) : Prop :=
 ∀ (M : List Addr) (s : Shared) (Q E : Value -> Shared -> Prop) v vs,(∀ b ∈ M, ∃ o,s.heap.get? b = some o) -> Rep s.heap M p v -> Reps s.heap M ps vs -> (∀ v h k,Rep h M r v -> Ext s.heap h -> Q v { s with heap:=h,toks:=k }) -> wpAny (model vw w) A (call f (v :: vs)) Q E s
theorem Pure.meth (Z : CxOk w C) {o : Expr} {name : Str} {apos pos : Pos} {es : List Expr} {p : PV} {ps : List PV} {r : PV} {id : String} (ho : Pure w A C Γ led o p) (hm : Mt w A p name (.builtin id)) (ha : Args w A C Γ led es ps) (hg : Gm w A (.builtin id) p ps r)
  (he : ∃ pl : Sem Bool,eval (.Call (.Attribute o name apos) es [] pos) C.env = (do
   let ov <- eval o C.env
   standAt apos.atName
   let (f,first) <- holding [ov] (getMethod ov name pl)
   callWith pos f first (backTo pos (starEach es C.env)) (backToKw pos (keywordEach [] C.env)))) : Pure w A C Γ led (.Call (.Attribute o name apos) es [] pos) r:=fun s Q E a h => by
 obtain ⟨pl,he⟩ := he
 refine methodCall_KW (ho s _ E a fun v h1 k1 r1 e1 a1 => hm _ _ pl _ _ _ r1 ?_) he
 have pl:=ha.plain pos
 have fin : ∀ h₂ k₂ vs,Reps h₂ (C.M led) ps vs -> Ext h1 h₂ -> AS C Γ led { s with heap:=h₂,toks:=k₂ } -> wpAny (model vw w) A (PySem.call (.builtin id) ([v] ++ vs)) Q E { s with heap:=h₂,toks:=k₂ } := fun h₂ k₂ vs r e a2 =>
  hg (C.M led) _ Q E v vs (a2.alive Z) (r1.ext e) r fun v3 h3 k3 r3 e3 => h v3 h3 k3 r3 ((e1.trans e).trans e3) (a2.ext Z e3)
 refine Calls.callWith_builtin pl ?_
 cases ha with
 | nil => exact evalArgs_nil3 (fin h1 k1 [] .nil noExt a1)
 | cons h2 hst t =>
  have:=(Args.cons h2 hst t).spliced Z pos { s with heap:=h1,toks:=k1 } (E:=E) (fun vs s' => wpAny (model vw w) A (PySem.call (.builtin id) ([v] ++ vs)) Q E s') a1 fun vs h k r e a2 => fin h k vs r e a2
  rw [hst] at this ⊢
  exact Calls.evalArgs_plain this
theorem Pure.itemL (Z : CxOk w C) {e i : Expr} {pos : Pos} {l : List PV} {k : Int} {p : PV} (h1 : Pure w A C Γ led e (.lst l)) (h2 : Pure w A C Γ led i (.int k)) (h0 : 0 <= k) (hk : l[k.toNat]? = some p) (hl : l.length <= 1000)
  (hs : ∀ b u,subscripted i false (.ref b) (.int k u) = operate [.ref b, .int k u] (getItem (.ref b) (.int k u))) (ht : ∀ b r,letTemporaryGo e (.ref b) r = pure ()) : Pure w A C Γ led (.Subscript e i pos) p:=fun s Q E a q =>
 Subscript_ (h1 s _ E a fun va ha ka ra ea aa => h2 _ _ E aa fun vb hb kb rb eb ab => by
  (apply Rep.elI rb;intro z9)
  have ra:=ra.ext eb
  apply Rep.elL ra;intro ad vs n e m rs
  refine X11 (rs.at hk) fun v hv rv => ?_
  have hlt : k.toNat < l.length:=(List.getElem?_eq_some_iff.mp hk).1
  exact item_list (items:=vs) ⟨_,e,rfl,_,rfl⟩ h0 (by lia) (by rw [<- Array.getElem?_toList];exact hv) (q v hb kb rv (ea.trans eb) ab) (hs _ _) (ht _))
theorem Pure.itemO (Z : CxOk w C) {e i : Expr} {pos : Pos} {b : Addr} {l : List PV} {k : Int} {p : PV} (h1 : Pure w A C Γ led e (.val (.ref b))) (hm : (b, .list l) ∈ led) (h2 : Pure w A C Γ led i (.int k)) (h0 : 0 <= k) (hk : l[k.toNat]? = some p) (hl : l.length <= 1000)
  (hs : ∀ b u,subscripted i false (.ref b) (.int k u) = operate [.ref b, .int k u] (getItem (.ref b) (.int k u))) (ht : ∀ b r,letTemporaryGo e (.ref b) r = pure ()) : Pure w A C Γ led (.Subscript e i pos) p:=fun s Q E a q =>
 Subscript_ (h1 s _ E a fun va ha ka ra ea aa => h2 _ _ E aa fun vb hb kb rb eb ab => by
  (apply Rep.elI rb;intro z9);apply Rep.elV ra
  refine X21 (ab.rep hm) fun vs n e rs => ?_
  refine X11 (rs.at hk) fun v hv rv => ?_
  have hlt : k.toNat < l.length:=(List.getElem?_eq_some_iff.mp hk).1
  exact item_list (items:=vs) ⟨_,e,rfl,_,rfl⟩ h0 (by lia) (by rw [<- Array.getElem?_toList];exact hv) (q v hb kb rv (ea.trans eb) ab) (hs _ _) (ht _))
theorem Run.assert (Z : CxOk w C) {t : Expr} {m : Option Expr} {pos : Pos} (h : Test w A C Γ led t true) (r : Run w A C Γ led rest K) : Run w A C Γ led (.Assert t m pos :: rest) K :=
 .st fun s a => wpAny_Assert_holds (h s _ _ a fun h' k ex a' => ⟨rfl,r _ a'⟩)
theorem Pure.fstr (Z : CxOk w C) {a b x y : Str} {e : Expr} {k1 k2 : Nat} {p1 p2 p3 pos : Pos} (h : Pure w A C Γ led e (.str x)) (hy : Str.empty ++ a ++ x ++ b = y) (hz : a.length + x.length + b.length <= 1000) : Pure w A C Γ led (.JoinedStr [.Constant (.str a) k1 p1, .FormattedValue e (-1) none p2, .Constant (.str b) k2 p3] pos) (.str y):=fun s Q E as q => by
 have l1 : (Str.empty ++ a).length = a.length:=by rw [Str.length_append];show 0 + _ = _;lia
 have l2 : (Str.empty ++ a ++ x).length = a.length + x.length:=by rw [Str.length_append,l1]
 have l3 : (Str.empty ++ a ++ x ++ b).length = a.length + x.length + b.length:=by rw [Str.length_append,l2]
 have sz : ∀ n,n <= 1000 -> n <= sizeLine:=fun n h => by rw [sizeLine_eq];lia
 refine JoinedStr_many (joinParts_cons (wpAny_Constant_str ⟨sz _ (by lia),joinParts_cons (FormattedValue_plain (h _ _ E (as.tok Z) fun v h1 k1 r1 e1 a1 => ?_))⟩))
 (apply Rep.elS r1;intro z9)
 refine formatField_str (fun t' tk => ⟨sz _ (by lia),joinParts_consE (joinParts_cons (wpAny_Constant_str ⟨sz _ (by lia),joinParts_nilE (joinParts_nil ?_ (sz _ (by lia)))⟩))⟩) (sz _ (by lia))
 rw [hy]
 exact q _ _ _ (.str _ _) e1 (a1.tok Z)
theorem oIsNotS {x : Str} {v : Value} (hv : v = .none \/ ∃ a,v = .ref a) : Op2 w A (compareOp .IsNot) (.str x) (.val v) (.bool true):=fun M s Q E va vb _ ra rb q => by
 (apply Rep.elS ra;intro z9);apply Rep.elV rb
 rcases hv with rfl | ⟨a,rfl⟩
 ·exact wpAny_of_eq (a:=.bool true) rfl (q _ s.heap s.toks (.bool _) noExt)
 ·exact wpAny_of_eq (a:=.bool true) rfl (q _ s.heap s.toks (.bool _) noExt)
theorem oIsNotO {v : Value} (hv : v = .none \/ ∃ a,v = .ref a) : Op2 w A (compareOp .IsNot) (.val v) (.val v) (.bool false):=fun M s Q E va vb _ ra rb q => by
 apply Rep.elV ra;apply Rep.elV rb
 rcases hv with rfl | ⟨a,rfl⟩
 ·exact wpAny_of_eq (a:=.bool false) rfl (q _ s.heap s.toks (.bool _) noExt)
 ·exact wpAny_isNot_ref_self (q _ s.heap s.toks (.bool _) noExt)
theorem oIsO {v : Value} (hv : v = .none \/ ∃ a,v = .ref a) : Op2 w A (compareOp .Is) (.val v) (.val v) (.bool true):=fun M s Q E va vb _ ra rb q => by
 apply Rep.elV ra;apply Rep.elV rb
 rcases hv with rfl | ⟨a,rfl⟩
 ·exact wpAny_of_eq (a:=.bool true) rfl (q _ s.heap s.toks (.bool _) noExt)
 ·exact wpAny_is_ref_self (q _ s.heap s.toks (.bool _) noExt)
theorem gLenL {l : List PV} (hl : l.length <= 1000) : Gv w A (.builtin "len") [] [.lst l] (.int l.length):=fun M s Q E vs hM KX TX ra q => by
 apply Reps.elC ra;intro _ _ r t
 apply Reps.elN t
 apply Rep.elL r;intro ad vs n e m rs
 have hz:=rs.length
 rw [Array.length_toList] at hz
 refine PyProof.Rows.len_list (items:=vs) ⟨_,e,rfl,_,rfl⟩ (by lia) ?_
 rw [hz]
 exact q _ s.heap _ (.int _ _) noExt
theorem gLenS {x : Str} (hl : x.length <= sizeLine) : Gv w A (.builtin "len") [] [.str x] (.int x.length):=fun M s Q E vs hM KX TX ra q => by
 apply Reps.elC ra;intro _ _ r t
 apply Reps.elN t;(apply Rep.elS r;intro z9);exact P.len_str (by rw [sizeLine_eq] at hl;lia) (q _ s.heap _ (.int _ _) noExt)
theorem Reps.strs {h : Heap} {M : List Addr} : ∀ {ys : List Str} {vs : List Value},Reps h M (ys.map .str) vs -> StrsAre vs ys
 | [],_, .nil => .nil
 | y :: ys,_, .cons r t => by (apply Rep.elS r;intro z9);exact .cons _ _ t.strs
theorem gJoin {x y : Str} {ys : List Str} (hsep : x.length <= 64) (hok : (ys.map (·.length)).sum + ys.length * 64 <= 16777216) (hy : Txt.join x ys = y) : Gm w A (.builtin "str.join") (.str x) [.lst (ys.map .str)] (.str y):=fun M s Q E v vs hM r ra q => by
 subst hy
 (apply Rep.elS r;intro z9)
 apply Reps.elC ra;intro _ _ r t
 apply Reps.elN t
 apply Rep.elL r;intro ad vs n e m rs
 exact join_listC (items:=vs) ⟨_,e,rfl,_,rfl⟩ rs.strs hsep hok fun t' k => q _ s.heap k (.str _ _) noExt
theorem mJoin {x : Str} : Mt w A (.str x) "join" (.builtin "str.join"):=mStr fun s t pl Q E q => by with_reducible exact GM.join q
end
inductive Drop : Led -> Addr -> LO -> Led -> Prop
 | head {a : Addr} {x : LO} {r : Led} : Drop ((a,x) :: r) a x r
 | tail {a : Addr} {x : LO} {q : Addr × LO} {r r' : Led} : Drop r a x r' -> Drop (q :: r) a x (q :: r')
theorem Drop.mem {led led' : Led} {a : Addr} {x : LO} (h : Drop led a x led') : (a,x) ∈ led:=by
 induction h with
 | head => exact List.mem_cons_self
 | tail _ ih => exact List.mem_cons_of_mem _ ih
theorem Drop.sub {led led' : Led} {a : Addr} {x : LO} (h : Drop led a x led') : ∀ p ∈ led',p ∈ led:=by
 induction h with
 | head => exact fun p hp => List.mem_cons_of_mem _ hp
 | tail _ ih => exact fun p hp => (List.mem_cons.mp hp).elim (fun e => e ▸ List.mem_cons_self) fun hp => List.mem_cons_of_mem _ (ih p hp)
theorem Drop.nd {led led' : Led} {a : Addr} {x : LO} (h : Drop led a x led') : (led.map (·.1)).Nodup -> (led'.map (·.1)).Nodup /\ a ∉ led'.map (·.1):=by
 induction h with
 | head => exact fun h => (List.nodup_cons.mp h).symm
 | tail d ih =>
  intro h
  have h:=List.nodup_cons.mp h
  have i:=ih h.2
  exact ⟨List.nodup_cons.mpr ⟨fun z => (List.mem_map.mp z).elim fun p hp => h.1 (List.mem_map.mpr ⟨p,d.sub p hp.1,hp.2⟩),i.1⟩,fun z => (List.mem_cons.mp z).elim (fun z => h.1 (z ▸ List.mem_map_of_mem d.mem)) i.2⟩
section
variable {w : World} {C : Cx} {A : Around} {Γ Γ' Γ'' : List (Option PV)} {led led' : Led} {s : Shared} {K : Flow -> Shared -> Prop} {rest : List Stmt}
theorem AS.freeze (Z : CxOk w C) (a : AS C Γ led s) {i : Nat} {b : Addr} {l : List PV} (hn : Nth Γ i (some (.val (.ref b)))) (D : Drop led b (.list l) led') (hp : Put Γ i (.lst l) Γ') : AS C Γ' led' s:=by
 refine Y2 (D.nd a.nd) fun nd nb => ?_
 have g : ∀ x o,s.heap.get? x = some o -> x ∉ C.M led -> x ∉ C.M led' := fun x o _ m z => by
  refine Or.elim (List.mem_append.mp z) (fun z => ?_) fun z => ?_
  ·exact m (List.mem_append_left _ z)
  ·refine X11 (List.mem_map.mp z) fun p hp e => ?_
   exact m (List.mem_append_right _ (List.mem_map.mpr ⟨p,D.sub p hp,e⟩))
 refine X11 a.fr fun m F hm => ?_
 refine XAEA (a.lg _ D.mem) fun h0 _ eb q8 => X21 q8 fun vs n q5 rs => ?_;subst q5
 have new : Rep s.heap (C.M led') (.lst l) (.ref b):=.lst eb (fun z => by
  refine Or.elim (List.mem_append.mp z) (fun z => ?_) fun z => ?_
  ·refine X10 (Z.m _ z) fun o e => ?_
   rw [show C.h₀.get? b = none from h0] at e;exact nS e
  ·exact nb z) (rs.keep (Ext.sk noExt) g)
 refine ⟨⟨m,F,fun j x pv h1 h2 => ?_⟩,a.kp,fun p hp => ?_,nd,a.ce,fun p hp => a.ll p (D.sub p hp),a.x⟩
 ·rw [hp.set,List.getElem?_set] at h2
  split at h2
  ·rename_i hij
   subst hij
   split at h2
   ·cases h2
    refine X11 (hm _ x _ h1 hn.at) fun v h3 h4 => ?_
    obtain rfl:=Rep.inV h4
    exact ⟨_,h3,new⟩
   ·exact nS h2
  ·refine X11 (hm j x pv h1 h2) fun v h3 h4 => ?_
   exact ⟨v,h3,h4.keep (Ext.sk noExt) g⟩
 ·refine XAEA (a.lg p (D.sub p hp)) fun h2 o h3 h4 => ?_
  exact ⟨h2,o,h3,h4.keep (Ext.sk noExt) g⟩
theorem Run.freeze (Z : CxOk w C) {i : Nat} {b : Addr} {l : List PV} {bs : List Stmt} (D : Drop led b (.list l) led') (hn : Nth Γ i (some (.val (.ref b)))) (hp : Put Γ i (.lst l) Γ') (r : Run w A C Γ' led' bs K) : Run w A C Γ led bs K:=fun s a => r s (a.freeze Z hn D hp)
theorem Rep.tup2 {h : Heap} {M : List Addr} {p q : PV} {v : Value} (r : Rep h M (.tup [p,q]) v) : ∃ a v₁ v₂ n,v = .ref a /\ h.get? a = some { cls:=.type "tuple",data:=.seq #[v₁,v₂] n } /\ Rep h M p v₁ /\ Rep h M q v₂:=by
 apply Rep.elT2 r;intro ad v₁ v₂ n e m r₁ r₂;exact ⟨_,_,_,n,rfl,e,r₁,r₂⟩
theorem Run.let2 (Z : CxOk w C) (hh : A.handled = none) {i j : Nat} {x y : Str} {k1 k2 : Nat} {p1 p2 p3 p4 pos : Pos} {e f : Expr} {p q : PV} (he : Args w A C Γ led [e,f] [p,q]) (hx : Nth C.nms i x) (hy : Nth C.nms j y) (kx : C.env.kindOf x = some .local) (ky : C.env.kindOf y = some .local) (hq : Put Γ j q Γ') (hp : Put Γ' i p Γ'')
  (hs : swapsWithSole [.Tuple [.Name x p1, .Name y p2] k1 p3] (.Tuple [e,f] k2 p4) pos.line C.env = pure false) (hw : swappedStores [.Tuple [.Name x p1, .Name y p2] k1 p3] (.Tuple [e,f] k2 p4) C.env = pure (some [x,y]))
  (r : Run w A C Γ'' led rest K) : Run w A C Γ led (.Assign [.Tuple [.Name x p1, .Name y p2] k1 p3] (.Tuple [e,f] k2 p4) pos :: rest) K :=
 .st fun s a => Assign_Tuple_swapped (Pure.tuple Z he (Nat.le_of_ble_eq_true rfl) s _ _ a fun v h1 k1 r1 e1 a1 => by
  refine byG fun G kG => ?_
  refine X41 r1.tup2 fun ad v₁ v₂ n q4 q8 => Y3 q8 fun e r₁ r₂ => ?_;subst q4
  refine kG ?_;clear kG G
  refine wpAny_unpackItems_tuple (items := #[v₁,v₂]) hh ⟨_,e,rfl,_,rfl⟩ fun h' ex => ?_
  have ex' : Ext h1 h' := fun b o q => ex b o (fun z => by rw [z] at q;exact absurd (Heap.lt_size q) (Nat.lt_irrefl _)) q
  have a2 : AS C Γ led { s with heap:=h',toks:=k1 } := a1.ext Z ex'
  refine wpAny_assignInOrder_more (wpAny_bindName (a2.setL Z hy.at ky (r₂.ext ex') fun h3 k3 sk a3 => wpAny_assignInOrder_more (wpAny_bindName (a3.setL Z hx.at kx ((r₁.ext ex').keep sk fun _ _ _ m => m) fun h4 k4 _ a4 => wpAny_assignInOrder_none (r _ ?_)))))
  rw [hp.set,hq.set];exact a4) hs hw
theorem wturn {t : Expr} {P R : Prop} {b : Bool} (ht : Test w A C Γ led t b) (h1 : b = true -> P) (h2 : b = false -> R) : ∃ b,Test w A C Γ led t b /\ (b = true -> P) /\ (b = false -> R):=⟨b,ht,h1,h2⟩
theorem Test.as {t : Expr} {b c : Bool} (h : Test w A C Γ led t b) (e : b = c) : Test w A C Γ led t c:=e ▸ h
end
theorem cs_app (x y : Str) : cs (x ++ y) = cs x ++ cs y:=by show (x ++ y).cps.toList = _;rw [Str.cps_append,Array.toList_append]
theorem join_nil_cs : ∀ ys : List Str,cs (Txt.join (Str.ofString "") ys) = (ys.map cs).flatten:=fun ys => by
 rw [eq_of_beq (join_closes (sep:=Str.ofString "") (ys:=ys) rfl)]
 have e0 : cs (Str.ofString "") = []:=by decide +kernel
 induction ys with
 | nil => rfl
 | cons x l ih =>
  cases l with
  | nil => show cs x = _;simp
  | cons y l =>
   show cs (x ++ Str.ofString "" ++ Str.join (Str.ofString "") (y :: l)) = _
   rw [cs_app,cs_app,e0,ih]
   simp
theorem cs_inj {x y : Str} (h : cs x = cs y) : x = y:=by rw [<- mkS_cs x, <- mkS_cs y,h]
section
open PySem.Builtin PySem.Builtin.Re
theorem slot_sub : Slot "re.Pattern" "sub" "re.Pattern.sub" :=
 Slot.of (owner := "re.Pattern") (n := "sub") (by rw [typeLookup_type,builtinLookup_eq_fast];kernel_rfl) (by decide +kernel) (by decide +kernel) (by decide +kernel)
  (.inr (by decide +kernel)) (by rw [isSubtype_type];kernel_rfl)
theorem type_sub : typeOf (.builtin "re.Pattern.sub") = pure (.type "method_descriptor"):=by show builtinType _ = _;rw [builtinType_eq_fast];kernel_rfl
theorem entry_sub : entryFor table "re.Pattern.sub" = some Builtin.«re.Pattern.sub» := entryFor_of_tree (by kernel_rfl)
theorem entry_loop : entryFor table "re.Pattern.sub.loop" = some Builtin.«re.Pattern.sub.loop» := entryFor_of_tree (by kernel_rfl)
theorem args_sub (a b c : Value) : argsOk "re.Pattern.sub" ⟨[a,b,c], []⟩ := by unfold argsOk;kernel_rfl
theorem named (Pt lam : Addr) (x : PySem.Str) (t : Tok) : reNamed "re.Pattern.sub" "sub" ["repl", "string", "count"] 2 [.ref lam, .str x t] [] = pure [some (.ref lam),some (.str x t),none]:=by kernel_rfl
theorem fn_call : typeLookup (.type "function") "__call__" = pure (some (.builtin "function.__call__")):=by rw [typeLookup_type,builtinLookup_eq_fast];kernel_rfl
noncomputable def codeW : Array Nat := #[14,14,4,1,1,9,0,64,0,1342177280,0,0,0,0,0,17,0,13,11,9,0,64,0,1342177280,0,0,0,0,0,17,1,1]
noncomputable def codeV : Array Value:=codeW.map (fun (n : Nat) => rawInt (n : Int))
section
variable {prog : Program} {w : World} {A : Around} {E : Value -> Shared -> Prop} {s : Shared}
theorem drive {m : Sre.M} {n : Nat} {Q : Sre.M -> Shared -> Prop} (hn : 0 < n) (hd : (m.runFor reTurnSteps).outcome.isSome = true) (h : Q (m.runFor reTurnSteps) s) : wpAny (model prog w) A (reDrive n m) Q E s:=by
 cases n with
 | zero => exact absurd hn (Nat.lt_irrefl _)
 | succ n =>
  unfold reDrive
  dsimp only
  rw [if_pos hd]
  exact wpAny_pure h
theorem runEnd {m : Sre.M} {Q : Option Sre.M -> Shared -> Prop} (ho : (m.runFor reTurnSteps).outcome = some .failed) (h : Q none s) : wpAny (model prog w) A (reRunToEnd m) Q E s:=by
 unfold reRunToEnd
 refine wpAny_bind (drive (by decide) (by rw [ho];rfl) ?_)
 refine wpAny_bind (wpAny_forIn_list _ (fun _ _ s' => s' = s) _ (fun x rest b s' hq => ?_) (fun b s' e => ?_) _ _ rfl)
 ·subst hq
  split
  ·exact wpAny_bind (wpAny_rule (wpAny_pure rfl))
  ·exact wpAny_pure rfl
 ·subst e
  rw [ho]
  exact wpAny_pure h
theorem pa_pattern : PlainAttrs "re.Pattern" :=
 ⟨⟨"object.__getattribute__",by rw [typeLookup_type,builtinLookup_eq_fast];kernel_rfl,by decide +kernel⟩,by rw [typeLookup_type,builtinLookup_eq_fast];kernel_rfl⟩
theorem sub_getm {a : Addr} {o : Obj} {pl : Sem Bool} {Q : Value × List Value -> Shared -> Prop} (ho : s.heap.get? a = some o) (hc : o.cls = .type "re.Pattern") (hd : o.dict = none) (h : Q (.builtin "re.Pattern.sub", [.ref a]) s) : wpAny (model prog w) A (getMethod (.ref a) "sub" pl) Q E s :=
 getMethod_builtin ⟨o,ho,hc⟩ pa_pattern slot_sub type_sub (fun b e => by cases e;exact ⟨o,ho,hd⟩) h
noncomputable def patObj (pt : Value) (u v : Tok) (C : Addr) : Obj := { cls:=.type "re.Pattern",data:=.fields #[pt, .int 32 u, .int 1 v, .none, .none, .ref C, .int 0 0] }
theorem rawItems_ok {C : Addr} {n : Nat} {Q : Array Int -> Shared -> Prop} (hC : s.heap.get? C = some { cls:=.type "tuple",data:=.seq codeV n }) (h : Q (codeW.map fun (n : Nat) => (n : Int)) s) : wpAny (model prog w) A (reRawItems (.ref C)) Q E s:=by
 unfold reRawItems
 refine wpAny_bind (wpAny_seqItems hC rfl ?_)
 refine wpAny_pure ?_
 have e : Array.map reRawOf ((some codeV).getD #[]) = codeW.map fun (n : Nat) => (n : Int):=by
  show Array.map reRawOf (codeW.map (fun (n : Nat) => rawInt (n : Int))) = _
  rw [Array.map_map];rfl
 rw [e]
 exact h
theorem whole_ok {P C : Addr} {pt : Value} {u v : Tok} {n : Nat} {x : PySem.Str} {t : Tok} {Q : ReTarget -> Shared -> Prop} (hP : s.heap.get? P = some (patObj pt u v C)) (hC : s.heap.get? C = some { cls:=.type "tuple",data:=.seq codeV n })
  (h : Q { pattern:=.ref P,string:=.str x t,code:=codeW,text:=x.cps,kind:=0,groups:=1,pos:=0,lim:=x.cps.size } s) : wpAny (model prog w) A (reWholeTarget (.ref P) (.str x t)) Q E s:=by
 unfold reWholeTarget
 refine wpAny_bind (wpAny_fieldsOf hP rfl ?_)
 refine wpAny_bind (wpAny_of_eq (a:=(x.cps,0)) rfl ?_)
 dsimp only
 refine wpAny_ite_false (by rfl) ?_
 refine wpAny_ite_false (by rfl) ?_
 refine wpAny_bind (wpAny_of_eq (a:=()) rfl ?_)
 refine wpAny_bind (rawItems_ok hC ?_)
 refine wpAny_pure ?_
 have e : Array.map (fun (x : Int) => x.toNat) (Array.map (fun (n : Nat) => (n : Int)) codeW) = codeW:=by
  rw [Array.map_map]
  exact (congrArg (fun f => Array.map f codeW) (funext fun n => Int.toNat_natCast n)).trans (Array.map_id _)
 rw [e]
 exact h
theorem loop_ok {P C lam l : Addr} {pt : Value} {u v : Tok} {n : Nat} {x : PySem.Str} {t : Tok} {R : Result -> Shared -> Prop} {m : Nat} (hP : s.heap.get? P = some (patObj pt u v C)) (hC : s.heap.get? C = some { cls:=.type "tuple",data:=.seq codeV n })
  (hl : s.heap.get? l = some { cls:=.type "list",data:=.seq #[] m }) (hx : 0 < x.cps.size) (hx' : x.cps.size <= 1000) (hfail : ((Sre.forSearch codeW x.cps 1 0 x.cps.size false).runFor reTurnSteps).outcome = some .failed)
  (h : ∀ t' h' k,(∀ b o,b ≠ l -> s.heap.get? b = some o -> h'.get? b = some o) -> R (.ok (.ret (.str x t'))) { s with heap:=h',toks:=k }) :
  codeAny (model prog w) A (.builtin "re.Pattern.sub.loop" ⟨[.ref P, .str x t, .ref lam,rawInt 1,rawInt 0,rawInt 0,rawInt 0,rawInt 0, .bool false, .ref l, .bool false], []⟩) R s:=by
 refine codeAny_builtin entry_loop ?_
 unfold Builtin.«re.Pattern.sub.loop»
 dsimp only [rawInt]
 refine wpAny_bind (whole_ok hP hC ?_)
 refine wpAny_ite_false (by rfl) ?_
 refine wpAny_bind (wpAny_ite_false (by rfl) ?_)
 show wpAny _ _ (reRunToEnd (Sre.forSearch codeW x.cps 1 0 x.cps.size false)) _ _ _
 refine runEnd hfail ?_
 dsimp only
 rw [if_pos (show (0 : Int).toNat < x.cps.size from hx)]
 have ex : (⟨x.cps.extract (0 : Int).toNat x.cps.size⟩ : PySem.Str) = x:=by cases x;simp
 have e0 : (⟨x.cps.extract 0 0⟩ : PySem.Str) = Str.ofString "" := by simp;rfl
 have hxl : x.length <= sizeLine:=by rw [sizeLine_eq];show x.cps.size <= _;lia
 unfold reSlice
 refine wpAny_bind (wpAny_ite_true (by rfl) ?_)
 rw [ex]
 refine wpAny_mkStr ?_ hxl
 refine wpAny_bind (wpAny_updateSeq (o := { cls:=.type "list",data:=.seq #[] m }) hl rfl ?_)
 refine wpAny_bind (wpAny_ite_true (by rfl) ?_)
 rw [e0]
 refine wpAny_mkStr ?_ (by rw [sizeLine_eq];decide)
 have hl2:=Heap.get?_update_self (h:=s.heap) (Obj.mapSeq fun a => a.push (.str x s.toks)) hl rfl
 refine wpAny_bind (wpAny_seqItems (o:=Obj.mapSeq (fun a => a.push (.str x s.toks)) { cls:=.type "list",data:=.seq #[] m }) hl2 rfl ?_)
 dsimp only
 rw [if_neg (by simp)]
 refine wpAny_bind ?_
 have hL : Heap.IsList (s.heap.update l (Obj.mapSeq fun a => a.push (.str x s.toks))) l #[.str x s.toks]:=⟨_,hl2,rfl,_,rfl⟩
 show wpAny _ _ (call (.builtin "str.join") [Value.str (Str.ofString "") (s.toks + 1),Value.ref l]) _ _ _
 refine joinN (ys := [x]) hL (.cons x _ .nil) (by decide) (by have : x.length = x.cps.size:=rfl;simp;lia) fun t' k _ => ?_
 have ej : Txt.join (Str.ofString "") [x] = x:=by rw [show Txt.join (Str.ofString "") [x] = Str.join (Str.ofString "") [x] from eq_of_beq (join_closes rfl)];rfl
 rw [ej]
 refine wpAny_ite_false (by rfl) (wpAny_pure ?_)
 exact h t' _ k fun b o hb e => (Heap.get?_update_other _ _ (Ne.symm hb)).trans e
theorem sub_call {P C lam : Addr} {pt : Value} {u v : Tok} {n : Nat} {x : PySem.Str} {t : Tok} {Q : Value -> Shared -> Prop} (hP : s.heap.get? P = some (patObj pt u v C)) (hC : s.heap.get? C = some { cls:=.type "tuple",data:=.seq codeV n })
  (hl : s.TypeIs (.ref lam) "function") (hx : 0 < x.cps.size) (hx' : x.cps.size <= 1000) (hfail : ((Sre.forSearch codeW x.cps 1 0 x.cps.size false).runFor reTurnSteps).outcome = some .failed)
  (h : ∀ t' h' k,(∀ b o,s.heap.get? b = some o -> h'.get? b = some o) -> Q (.str x t') { s with heap:=h',toks:=k }) :
  wpAny (model prog w) A (call (.builtin "re.Pattern.sub") [.ref P, .ref lam, .str x t]) Q E s:=by
 refine wpAny_call (codeAny_call_builtin slot_sub.plain entry_sub (slot_sub.check _ _ _ _ _ _ _ _ ⟨_,hP,rfl⟩ (args_sub _ _ _) ?_))
 show wpAny _ _ (reSubstitute "re.Pattern.sub" "sub" false ⟨[.ref P, .ref lam, .str x t], []⟩) _ _ _
 unfold reSubstitute
 dsimp only
 refine wpAny_bind (wpAny_of_eq (named P lam x t) ?_)
 dsimp only
 refine wpAny_bind (wpAny_pure ?_)
 refine wpAny_bind (wpAny_specialOf hl fn_call ?_)
 refine wpAny_ite_true (by rfl) ?_
 refine wpAny_bind (wpAny_pure ?_)
 refine wpAny_ite_true (by rfl) ?_
 refine wpAny_bind (wpAny_pure ?_)
 refine wpAny_bind (wpAny_holding (whole_ok hP hC ?_))
 refine wpAny_ite_true (by rfl) ?_
 refine wpAny_bind ?_
 unfold reNotHeld
 refine wpAny_bind (wpAny_isInstance (T := "str") (b:=false) rfl (by rw [isSubtype_type];kernel_rfl) ?_)
 refine wpAny_ite_false (by rfl) ?_
 dsimp only
 refine wpAny_pure ?_
 refine wpAny_bind (wpAny_newList ?_)
 refine wpAny_pure ⟨plainId_quiet (by decide +kernel) _, ?_⟩
 refine loop_ok (lam:=lam) (m:=0) (Heap.get?_push_of_some _ hP) (Heap.get?_push_of_some _ hC) (Heap.get?_push_size _ rfl) hx hx' hfail fun t' h' k hk => ?_
 exact h t' h' k fun b o e => hk b o (Nat.ne_of_lt (Heap.lt_size e)) (Heap.get?_push_of_some _ e)
end
end
theorem bitOr_nonneg {x y : Int} (hx : 0 <= x) (hy : 0 <= y) : Builtin.bitOr x y = ((x.toNat ||| y.toNat : Nat) : Int):=by
 unfold Builtin.bitOr Builtin.bitAnd Builtin.bitNot
 have h1 : decide (0 <= -x - 1) = false:=decide_eq_false (by lia -abstractProof)
 have h2 : decide (0 <= -y - 1) = false:=decide_eq_false (by lia -abstractProof)
 simp only [h1,h2]
 have e1 : (-(-x - 1) - 1).toNat = x.toNat:=by congr 1;lia -abstractProof
 have e2 : (-(-y - 1) - 1).toNat = y.toNat:=by congr 1;lia -abstractProof
 rw [e1,e2];lia -abstractProof
theorem bitOr256 {x b : Int} (hx : 0 <= x) (hb : 0 <= b) (hb' : b < 256) : Builtin.bitOr (x * 256) b = x * 256 + b:=by
 rw [bitOr_nonneg (by lia -abstractProof) hb]
 have e : (x * 256).toNat = x.toNat <<< 8:=by rw [Nat.shiftLeft_eq];lia -abstractProof
 rw [e, <- Nat.shiftLeft_add_eq_or_of_lt (by lia -abstractProof),Nat.shiftLeft_eq]
 lia -abstractProof
theorem bitOrP {x b : Int} (k : Nat) (hx : 0 <= x) (hb : 0 <= b) (hb' : b < 2 ^ k) : Builtin.bitOr (x * 2 ^ k) b = x * 2 ^ k + b:=by
 refine X10 (Int.eq_ofNat_of_zero_le hx) fun m q1 => ?_;subst q1
 refine X10 (Int.eq_ofNat_of_zero_le hb) fun n q1 => ?_;subst q1
 have hn : n < 2 ^ k:=by exact_mod_cast hb'
 have h0 : (0 : Int) <= (m : Int) * 2 ^ k:=Int.mul_nonneg (by lia -abstractProof) (by exact_mod_cast Nat.zero_le (2 ^ k))
 rw [bitOr_nonneg h0 hb]
 have e : ((m : Int) * 2 ^ k).toNat = m <<< k:=by rw [Nat.shiftLeft_eq];exact_mod_cast Int.toNat_natCast (m * 2 ^ k)
 rw [e,Int.toNat_natCast, <- Nat.shiftLeft_add_eq_or_of_lt hn,Nat.shiftLeft_eq]
 push_cast;rfl
theorem r63 (x : Int) : 0 <= Builtin.bitAnd x 63 /\ Builtin.bitAnd x 63 < 64:=by rw [bitAnd_m6];lia -abstractProof
theorem r3 (x : Int) : 0 <= Builtin.bitAnd x 3 * 2 ^ Int.toNat 4 /\ Builtin.bitAnd x 3 * 2 ^ Int.toNat 4 < 64:=by rw [bitAnd_m2,show (2 : Int) ^ Int.toNat 4 = 16 from rfl];lia -abstractProof
theorem r15 (x : Int) : 0 <= Builtin.bitAnd x 15 * 2 ^ Int.toNat 2 /\ Builtin.bitAnd x 15 * 2 ^ Int.toNat 2 < 64:=by rw [bitAnd_m4,show (2 : Int) ^ Int.toNat 2 = 4 from rfl];lia -abstractProof
theorem n0 : (0 : Int).natAbs < 2 ^ 64:=by decide
theorem n65535 (x : Int) : (Builtin.bitAnd x 65535).natAbs < 2 ^ 64:=by rw [bitAnd_m16];lia -abstractProof
theorem n3 (x : Int) : (Builtin.bitAnd x 3).natAbs < 2 ^ 64:=by rw [bitAnd_m2];lia -abstractProof
theorem n15 (x : Int) : (Builtin.bitAnd x 15).natAbs < 2 ^ 64:=by rw [bitAnd_m4];lia -abstractProof
noncomputable def B64L : List UInt8 := [65,66,67,68,69,70,71,72,73,74,75,76,77,78,79,80,81,82,83,84,85,86,87,88,89,90,97,98,99,100,101,102,103,104,105,106,107,108,109,110,111,112,113,114,115,116,117,118,119,120,121,122,48,49,50,51,52,53,54,55,56,57,43,47]
noncomputable def B64at (i : Int) : UInt8:=B64L.getD i.toNat 0
section
variable {prog : Program} {w : World} {A : Around} {E : Value -> Shared -> Prop} {s : Shared}
theorem b64_at {value slice : Expr} {i : Int} {t u : Tok} {Q : Value -> Shared -> Prop} (h0 : 0 <= i /\ i < 64) (h : Q (.int ((B64at i).toNat) s.toks) { s with toks:=s.toks + 1 })
  (hs : subscripted slice false (.bytes B64L.toArray t) (.int i u) = operate [.bytes B64L.toArray t, .int i u] (getItem (.bytes B64L.toArray t) (.int i u)))
  (ht : ∀ r,letTemporaryGo value (.bytes B64L.toArray t) r = pure ()) :
  wpAny (model prog w) A (subscriptTail value slice (.bytes B64L.toArray t) (.int i u)) Q E s :=
 subscriptTail_builtin (typeIs_bytes _ _ _) FB.slot_bytes_getitem.lookup (getItem_bytes (by decide) h0.1 h0.2 h) hs ht
theorem u8r (x : UInt8) : (0 : Int) <= (x.toNat : Int) /\ (x.toNat : Int) < 256:=by have:=x.toNat_lt;lia -abstractProof
theorem inR_nil : ∀ n ∈ ([] : List Int),0 <= n /\ n < 256:=fun _ h => nomatch h
theorem inR_lit {x : Int} {ns : List Int} (hx : 0 <= x /\ x < 256) (h : ∀ n ∈ ns,0 <= n /\ n < 256) : ∀ n ∈ (x :: ns),0 <= n /\ n < 256:=fun n hn => by
 rcases List.mem_cons.mp hn with rfl | hn
 ·exact hx
 ·exact h n hn
theorem bInts1 (a : UInt8) : KBw.bInts #[a] = [(a.toNat : Int)]:=rfl
theorem bInts2 (a b : UInt8) : KBw.bInts #[a,b] = [(a.toNat : Int),(b.toNat : Int)]:=rfl
theorem bInts3 (a b c : UInt8) : KBw.bInts #[a,b,c] = [(a.toNat : Int),(b.toNat : Int),(c.toNat : Int)]:=rfl
noncomputable def b64v (c : Int) : Int:=if 65 <= c /\ c <= 90 then c - 65 else if 97 <= c /\ c <= 122 then c - 71 else if 48 <= c /\ c <= 57 then c + 4 else if c = 43 then 62 else if c = 47 then 63 else 64
noncomputable def sg (n : Nat) : UInt8:=B64L.getD n 0
theorem sg_all : ∀ n : Nat,n < 64 -> (sg n).toNat ≠ 61 /\ (sg n).toNat < 128 /\ b64v ((sg n).toNat : Int) = n:=by decide
theorem sg_ne (n : Nat) (h : n < 64) : ((sg n).toNat : Int) ≠ 61:=by have:=(sg_all n h).1;lia -abstractProof
theorem fdivN (x : Int) (n : Nat) : x.fdiv (n : Int) = x / n:=Int.fdiv_eq_ediv_of_nonneg _ (by lia -abstractProof)
theorem fdiv4 (x : Int) : x.fdiv 4 = x / 4:=fdivN x 4
theorem fdiv16 (x : Int) : x.fdiv 16 = x / 16:=fdivN x 16
theorem eqA {a b : Nat} (ha : a < 64) (hb : b < 64) : Builtin.bitOr ((a : Int) * 2 ^ Int.toNat 2) ((b : Int).fdiv (2 ^ Int.toNat 4)) = ((a * 4 + b / 16 : Nat) : Int):=by
 have e : (b : Int).fdiv (2 ^ Int.toNat 4) = (b : Int) / 16:=fdiv16 _
 rw [e,bitOrP _ (by lia -abstractProof) (by lia -abstractProof) (by rw [show (2 : Int) ^ Int.toNat 2 = 4 from rfl];lia -abstractProof),show (2 : Int) ^ Int.toNat 2 = 4 from rfl];lia -abstractProof
theorem eqB {b c : Nat} (hb : b < 64) (hc : c < 64) : Builtin.bitOr (Builtin.bitAnd (b : Int) 15 * 2 ^ Int.toNat 4) ((c : Int).fdiv (2 ^ Int.toNat 2)) = ((b % 16 * 16 + c / 4 : Nat) : Int):=by
 have e : (c : Int).fdiv (2 ^ Int.toNat 2) = (c : Int) / 4:=fdiv4 _
 rw [e,bitAnd_m4,bitOrP _ (by lia -abstractProof) (by lia -abstractProof) (by rw [show (2 : Int) ^ Int.toNat 4 = 16 from rfl];lia -abstractProof),show (2 : Int) ^ Int.toNat 4 = 16 from rfl];lia -abstractProof
theorem eqC {c d : Nat} (hc : c < 64) (hd : d < 64) : Builtin.bitOr (Builtin.bitAnd (c : Int) 3 * 2 ^ Int.toNat 6) (d : Int) = ((c % 4 * 64 + d : Nat) : Int):=by
 rw [bitAnd_m2,bitOrP _ (by lia -abstractProof) (by lia -abstractProof) (by rw [show (2 : Int) ^ Int.toNat 6 = 64 from rfl];lia -abstractProof),show (2 : Int) ^ Int.toNat 6 = 64 from rfl];lia -abstractProof
theorem rbA {a b : Nat} (ha : a < 64) (hb : b < 64) : 0 <= Builtin.bitOr ((a : Int) * 2 ^ Int.toNat 2) ((b : Int).fdiv (2 ^ Int.toNat 4)) /\ Builtin.bitOr ((a : Int) * 2 ^ Int.toNat 2) ((b : Int).fdiv (2 ^ Int.toNat 4)) < 256:=by rw [eqA ha hb];lia -abstractProof
theorem rbB {b c : Nat} (hb : b < 64) (hc : c < 64) : 0 <= Builtin.bitOr (Builtin.bitAnd (b : Int) 15 * 2 ^ Int.toNat 4) ((c : Int).fdiv (2 ^ Int.toNat 2)) /\ Builtin.bitOr (Builtin.bitAnd (b : Int) 15 * 2 ^ Int.toNat 4) ((c : Int).fdiv (2 ^ Int.toNat 2)) < 256:=by rw [eqB hb hc];lia -abstractProof
theorem rbC {c d : Nat} (hc : c < 64) (hd : d < 64) : 0 <= Builtin.bitOr (Builtin.bitAnd (c : Int) 3 * 2 ^ Int.toNat 6) (d : Int) /\ Builtin.bitOr (Builtin.bitAnd (c : Int) 3 * 2 ^ Int.toNat 6) (d : Int) < 256:=by rw [eqC hc hd];lia -abstractProof
noncomputable def lc1 (x : UInt8) : Int:=Builtin.bitAnd (Builtin.bitOr (0 * 2 ^ Int.toNat 8) (x.toNat : Int)) 65535
theorem lc1_is (x : UInt8) : lc1 x = x.toNat:=by
 unfold lc1
 have:=u8r x
 rw [show (0 * 2 ^ Int.toNat 8 : Int) = 0 * 256 from rfl,bitOr256 (by lia -abstractProof) (by lia -abstractProof) (by lia -abstractProof),bitAnd_m16];lia -abstractProof
noncomputable def lc2 (a : Int) (y : UInt8) : Int:=Builtin.bitAnd (Builtin.bitOr (a * 2 ^ Int.toNat 8) (y.toNat : Int)) 65535
theorem lc2_is {a : Int} (h0 : 0 <= a) (y : UInt8) : lc2 a y = (a * 256 + y.toNat) % 65536:=by
 unfold lc2
 have:=u8r y
 rw [show (2 ^ Int.toNat 8 : Int) = 256 from rfl,bitOr256 (by lia -abstractProof) (by lia -abstractProof) (by lia -abstractProof),bitAnd_m16]
theorem lcA (x : UInt8) : Builtin.bitAnd (Builtin.bitOr (0 * 2 ^ Int.toNat 8) (x.toNat : Int)) 65535 = (x.toNat : Int):=lc1_is x
theorem lcB {a : Int} (h0 : 0 <= a) (y : UInt8) : Builtin.bitAnd (Builtin.bitOr (a * 2 ^ Int.toNat 8) (y.toNat : Int)) 65535 = (a * 256 + y.toNat) % 65536:=lc2_is h0 y
end
section
open PySem.Builtin PySem.Builtin._codecs
theorem forIn4 {β : Type} {init s1 s2 : β} {f : Nat -> β -> Sem (ForInStep β)} (h1 : f 0 init = pure (.yield s1)) (h2 : f 1 s1 = pure (.done s2)) : (forIn [: 4] init f : Sem β) = pure s2:=by
 rw [Std.Legacy.Range.forIn_eq_forIn_range']
 show forIn [0,1,2,3] init f = _
 rw [List.forIn_cons,h1]
 show forIn [1,2,3] s1 f = _
 rw [List.forIn_cons,h2]
 rfl
theorem enc4 (id : String) (self : Value) (a b c d : Nat) (ha : a < 128) (hb : b < 128) (hc : c < 128) (hd : d < 128) :
  encodeNarrow id asciiCodec none self ⟨#[a,b,c,d]⟩ = pure #[a.toUInt8,b.toUInt8,c.toUInt8,d.toUInt8]:=by
 have bad : ∀ x,x < 128 -> asciiCodec.bad x = false:=fun x h => decide_eq_false (Nat.not_le.mpr h)
 have e : Array.findIdx? asciiCodec.bad #[a,b,c,d] = none:=by
  rw [List.findIdx?_toArray,List.findIdx?_eq_none_iff]
  intro x hx
  simp only [List.mem_cons,List.not_mem_nil,or_false] at hx
  rcases hx with rfl | rfl | rfl | rfl <;> exact bad _ (by assumption)
 have z : ∀ n,n <= 4 -> ¬ (n > sizeLine):=fun n h => by rw [sizeLine_eq];exact Nat.not_lt.mpr (Nat.le_trans h (by decide))
 unfold encodeNarrow
 dsimp only
 refine (congrArg (· >>= _) (forIn4 (s1:=((4 : Nat), #[a.toUInt8,b.toUInt8,c.toUInt8,d.toUInt8],({} : Faults))) (s2:=((4 : Nat), #[a.toUInt8,b.toUInt8,c.toUInt8,d.toUInt8],({} : Faults))) ?_ ?_)).trans ?_
 ·refine (if_neg (z 0 (by decide))).trans ((if_pos (congrArg (!·) (bad a ha))).trans ?_)
  show pure (ForInStep.yield (0 + (Array.findIdx? asciiCodec.bad #[a,b,c,d]).getD 4,Array.foldl (fun acc y => acc ++ (asciiCodec.bytesOf y).toArray) #[] (#[a,b,c,d].extract 0 ((Array.findIdx? asciiCodec.bad #[a,b,c,d]).getD 4)),_)) = _
  rw [e]
  rfl
 ·exact if_neg (z 4 (by decide))
 ·rfl
theorem forInS {f : Nat -> Nat × Array Nat × Faults -> Sem (ForInStep (Nat × Array Nat × Faults))} {g : Nat -> Nat} {st : Faults} (h : ∀ k p out,p < 4 -> out.size <= 4 -> f k (p,out,st) = pure (.yield (p + 1,out ++ #[g p],st))) : (forIn [: 4] (0, #[],st) f : Sem (Nat × Array Nat × Faults)) = pure (4, #[g 0,g 1,g 2,g 3],st):=by
 rw [Std.Legacy.Range.forIn_eq_forIn_range']
 show forIn [0,1,2,3] _ f = _
 rw [List.forIn_cons,h _ _ _ (by decide) (by decide)]
 show forIn [1,2,3] _ f = _
 rw [List.forIn_cons,h _ _ _ (by decide) (Nat.le_of_ble_eq_true rfl)]
 show forIn [2,3] _ f = _
 rw [List.forIn_cons,h _ _ _ (by decide) (Nat.le_of_ble_eq_true rfl)]
 show forIn [3] _ f = _
 rw [List.forIn_cons,h _ _ _ (by decide) (Nat.le_of_ble_eq_true rfl)]
 rfl
theorem dec4 (id : String) (a b c d : UInt8) (ha : a.toNat < 128) (hb : b.toNat < 128) (hc : c.toNat < 128) (hd : d.toNat < 128) :
  runDecoder id asciiDecoder none true #[a,b,c,d] 0 [] = pure (#[a.toNat,b.toNat,c.toNat,d.toNat],4):=by
 have hg : ∀ p,p < 4 -> ((#[a,b,c,d] : Array UInt8).getD p 0).toNat < 128:=fun p hp => by
  rcases (by lia : p = 0 \/ p = 1 \/ p = 2 \/ p = 3) with rfl | rfl | rfl | rfl
  ·exact ha
  ·exact hb
  ·exact hc
  ·exact hd
 unfold runDecoder
 dsimp only
 refine (congrArg (· >>= _) (forInS (g:=fun p => ((#[a,b,c,d] : Array UInt8).getD p 0).toNat) fun k p out hp ho => ?_)).trans rfl
 refine (if_neg (by rw [sizeLine_eq];exact Nat.not_lt.mpr (Nat.le_trans ho (by decide)))).trans ((if_neg (Nat.not_le.mpr hp)).trans ?_)
 have hf : asciiDecoder.find true #[a,b,c,d] p = Found.char ((#[a,b,c,d] : Array UInt8).getD p 0).toNat (p + 1):=if_pos (hg p hp)
 rw [hf]
 rfl
end
section
theorem slot_tr : Slot "bytes" "translate" "bytes.translate" :=
 Slot.of (owner := "bytes") (n := "translate") (by rw [typeLookup_type,builtinLookup_eq_fast];kernel_rfl) (by decide +kernel) (by decide +kernel) (by decide +kernel)
  (.inr (by decide +kernel)) (by rw [isSubtype_type];kernel_rfl)
theorem type_tr : typeOf (.builtin "bytes.translate") = pure (.type "method_descriptor"):=by show builtinType _ = _;rw [builtinType_eq_fast];kernel_rfl
theorem entry_tr : entryFor table "bytes.translate" = some Builtin.«bytes.translate» := entryFor_of_tree (by kernel_rfl)
theorem args_tr (a b : Value) : argsOk "bytes.translate" ⟨[a,b], []⟩ := by unfold argsOk;kernel_rfl
theorem entry_mt : entryFor table "bytes.maketrans" = some Builtin.«bytes.maketrans» := entryFor_of_tree (by kernel_rfl)
theorem check_mt (a b : Value) : checkBuiltinCall "bytes.maketrans" ⟨[a,b], []⟩ = pure ():=by kernel_rfl
theorem plain_mt : plainId "bytes.maketrans" = true:=by decide +kernel
end
section
open PySem.Builtin PySem.Builtin._codecs
section
variable {prog : Program} {w : World} {M : Model} {A : Around} {E : Value -> Shared -> Prop} {s : Shared} {K : Frag} {h₀ : Heap} {L : Addr} {m : PySem.Str -> Option Value} {news : List (Addr × Obj)}
theorem encode_getm {x : Str} {t : Tok} {pl : Sem Bool} {Q : Value × List Value -> Shared -> Prop} (h : Q (.builtin "str.encode", [.str x t]) s) : wpAny M A (getMethod (.str x t) "encode" pl) Q E s :=
 by
 with_reducible refine getMethod_builtin (typeIs_str _ _ _) F.plainAttrs_str F.slot_str_encode F.type_str_encode ?_ ?_
 ·exact fun _ e => nomatch e
 ·exact h
theorem encode_tree2 (x : Str) (t u : Tok) : «str.encode» ⟨[.str x t, .str (Str.ofString "ascii") u], []⟩ = (do ret (<- encodeRoad "str.encode" (.str x t) x (Str.ofString "ascii") none)):=by kernel_rfl
theorem encode_road (x : Str) (self : Value) (id : String) : encodeRoad id self x (Str.ofString "ascii") none = (encodeNarrow id asciiCodec none self x >>= fun b => mkBytes b):=by kernel_rfl
theorem encode_call {x : Str} {t u : Tok} {b : Array UInt8} {Q : Value -> Shared -> Prop} (he : encodeNarrow "str.encode" asciiCodec none (.str x t) x = pure b) (hz : b.size <= sizeLine) (h : ∀ t' k,Q (.bytes b t') { s with toks:=k }) :
  wpAny (model prog w) A (call (.builtin "str.encode") [.str x t, .str (Str.ofString "ascii") u]) Q E s:=by
 refine call_meets (S:=fun _ R s => ∀ t' k,R (.ok (.ret (.bytes b t'))) { s with toks:=k }) F.slot_str_encode (typeIs_str _ _ _) F.entry_str_encode (F.args_str_encode_2 _ _) ?_ h
 refine .of_wp fun prog w A R s hS => ?_
 rw [encode_tree2,encode_road,he]
 exact wpAny_bind (wpAny_bind (wpAny_pure (wpAny_mkBytes (wpAny_pure ⟨_,rfl,hS _ _⟩) hz)))
theorem tr_getm {b : Array UInt8} {t : Tok} {pl : Sem Bool} {Q : Value × List Value -> Shared -> Prop} (h : Q (.builtin "bytes.translate", [.bytes b t]) s) : wpAny M A (getMethod (.bytes b t) "translate" pl) Q E s:=by
 with_reducible exact KBd.method_of (.bytes b t) (typeIs_bytes _ _ _) slot_tr type_tr KBd.noRef h
noncomputable def trOut (b tab : Array UInt8) : Array UInt8:=(b.filter (!(#[] : Array UInt8).contains ·)).map fun c => tab.getD c.toNat c
theorem tr_tree (b tab : Array UInt8) (t u : Tok) : «bytes.translate» ⟨[.bytes b t, .bytes tab u], []⟩ = (Bytes.bytesLike "bytes.translate" (.bytes tab u) >>= fun z =>
  if (z.size != 256) = true then (do rule "bytes.translate.table-size";raiseError "ValueError" "translation table must be 256 characters long";(if trOut b z == b then (do rule "bytes.translate.unchanged";ret (.bytes b t)) else mkBytes (trOut b z) >>= fun v => ret v))
  else (if trOut b z == b then (do rule "bytes.translate.unchanged";ret (.bytes b t)) else mkBytes (trOut b z) >>= fun v => ret v)):=by kernel_rfl
theorem tr_call {b tab : Array UInt8} {t u : Tok} {Q : Value -> Shared -> Prop} (hs : tab.size = 256) (hz : (trOut b tab).size <= sizeLine) (h : ∀ t' k,Q (.bytes (trOut b tab) t') { s with toks:=k }) :
  wpAny (model prog w) A (call (.builtin "bytes.translate") [.bytes b t, .bytes tab u]) Q E s:=by
 refine call_meets (S:=fun _ R s => ∀ t' k,R (.ok (.ret (.bytes (trOut b tab) t'))) { s with toks:=k }) slot_tr (typeIs_bytes _ _ _) entry_tr (args_tr _ _) ?_ h
 refine .of_wp fun prog w A R s hS => ?_
 rw [tr_tree]
 refine wpAny_bind (wpAny_of_eq KBd.like_eq ?_)
 rw [if_neg (by simp [hs])]
 split
 ·rename_i q
  refine wpAny_bind (wpAny_rule (wpAny_pure ⟨_,rfl, ?_⟩))
  have:=hS t s.toks
  rw [eq_of_beq q] at this
  exact this
 ·exact wpAny_bind (wpAny_mkBytes (wpAny_pure ⟨_,rfl,hS _ _⟩) hz)
noncomputable def mtOut (frm to : Array UInt8) : Array UInt8:=(frm.toList.zip to.toList).foldl (fun t (f,x) => t.setIfInBounds f.toNat x) ((Array.range 256).map (·.toUInt8))
theorem mtOut_size (a b : Array UInt8) : (mtOut a b).size = 256:=by
 unfold mtOut
 have : ∀ (l : List (UInt8 × UInt8)) (t : Array UInt8),(l.foldl (fun t (f,x) => t.setIfInBounds f.toNat x) t).size = t.size:=by
  intro l
  induction l with
  | nil => intro t;rfl
  | cons p r ih => intro t;rw [List.foldl_cons,ih];simp
 rw [this];simp
theorem trOut_eq (b tab : Array UInt8) : trOut b tab = b.map fun c => tab.getD c.toNat c:=by
 unfold trOut
 congr 1
 simp
theorem trOut_fit (b tab : Array UInt8) (h : b.size = 4) : (trOut b tab).size <= sizeLine:=by
 rw [trOut_eq,Array.size_map,h,sizeLine_eq];decide
theorem mt_tree (a b : Array UInt8) (t u : Tok) : «bytes.maketrans» ⟨[.bytes a t, .bytes b u], []⟩ = (Bytes.bytesLike "bytes.maketrans" (.bytes a t) >>= fun x => Bytes.bytesLike "bytes.maketrans" (.bytes b u) >>= fun y =>
  if (x.size != y.size) = true then (do rule "bytes.maketrans.sizes";raiseError "ValueError" "maketrans arguments must have same length";mkBytes (mtOut x y) >>= fun v => ret v) else mkBytes (mtOut x y) >>= fun v => ret v):=by kernel_rfl
theorem mt_call {a b : Array UInt8} {t u : Tok} {Q : Value -> Shared -> Prop} (hs : a.size = b.size) (hz : (mtOut a b).size <= sizeLine) (h : ∀ t' k,Q (.bytes (mtOut a b) t') { s with toks:=k }) :
  wpAny (model prog w) A (call (.builtin "bytes.maketrans") [.bytes a t, .bytes b u]) Q E s:=by
 refine wpAny_call (codeAny_call_builtin plain_mt entry_mt (wpAny_of_eq (check_mt _ _) ?_))
 rw [mt_tree]
 refine wpAny_bind (wpAny_of_eq KBd.like_eq ?_)
 refine wpAny_bind (wpAny_of_eq KBd.like_eq ?_)
 rw [if_neg (by simp [hs])]
 exact wpAny_bind (wpAny_mkBytes (wpAny_pure (h _ _)) hz)
end
end
section
open PySem.Builtin PySem.Builtin.Str
section
variable {prog : Program} {w : World} {M : Model} {A : Around} {E : Value -> Shared -> Prop} {s : Shared} {K : Frag} {h₀ : Heap} {L : Addr} {m : PySem.Str -> Option Value} {news : List (Addr × Obj)}
theorem trs_getm {b : PySem.Str} {t : Tok} {pl : Sem Bool} {Q : Value × List Value -> Shared -> Prop} (h : Q (.builtin "str.translate", [.str b t]) s) : wpAny M A (getMethod (.str b t) "translate" pl) Q E s:=by
 with_reducible exact GM.of (.str b t) (typeIs_str _ _ _) F.slot_str_translate F.type_str_translate GM.noRef h
noncomputable def Kept (s s' : Shared) : Prop := ∃ h tk,s' = { s with heap:=h,toks:=tk } /\ ∀ b o,s.heap.get? b = some o -> h.get? b = some o
theorem wpAny_forIn1 {β : Type} {c : Nat} {b : β} {f : Nat -> β -> Sem (ForInStep β)} {Q : β -> Shared -> Prop} (h : wpAny M A (f c b) (fun r s' => Q (match r with | .done x => x | .yield x => x) s') E s) : wpAny M A (forIn (#[c] : Array Nat) b f) Q E s:=by
 rw [<- Array.forIn_toList]
 show wpAny M A (forIn [c] b f) Q E s
 rw [List.forIn_cons]
 refine wpAny_bind (wpAny_mono h (fun r s' hq => ?_) fun _ _ e => e)
 cases r
 ·exact wpAny_pure hq
 ·exact wpAny_pure hq
theorem trs_one {c : Nat} {t : Tok} {table : Value} {mp : Mapped} {res : PySem.Str} {Q : Fin -> Shared -> Prop} (hc : c < 128) (hmp : (mp = .keep /\ (⟨#[c]⟩ : PySem.Str) = res) \/ (mp = .text res /\ res.length = 2))
  (hT : ∀ s' (Q' : Mapped -> Shared -> Prop),Kept s s' -> (∀ s'',Kept s s'' -> Q' mp s'') -> wpAny (model prog w) A (tableLookup table c) Q' E s')
  (h : ∀ s' u,Kept s s' -> Q (.done (.ret (.str res u))) s') :
  wpAny (model prog w) A (Builtin.«str.translate» ⟨[.str ⟨#[c]⟩ t,table], []⟩) Q E s:=by
 have hl : res.length <= 2:=by
  rcases hmp with ⟨_,rfl⟩ | ⟨_,e⟩
  ·exact (by decide : 1 <= 2)
  ·exact Nat.le_of_eq e
 have fin : ∀ s',Kept s s' -> wpAny (model prog w) A (retStr ⟨List.foldl (fun acc (p : PySem.Str) => acc ++ p.cps) #[] [res].reverse⟩) Q E s' := fun s' hk => by
  obtain ⟨h1,tk,rfl,hk⟩ := hk
  rw [show (⟨List.foldl (fun acc (p : PySem.Str) => acc ++ p.cps) #[] [res].reverse⟩ : PySem.Str) = res by simp]
  exact wpAny_bind (wpAny_mkStr (wpAny_pure (h _ _ ⟨_,_,rfl,hk⟩)) (by rw [sizeLine_eq];exact Nat.le_trans hl (by decide)))
 have tl : ∀ n,n <= 2 -> decide (tooLong n = true) = false:=fun n hn => by
  unfold tooLong
  rw [sizeLine_eq]
  exact decide_eq_false fun e => absurd (of_decide_eq_true e) (Nat.not_lt.mpr (Nat.le_trans hn (by decide)))
 show wpAny _ A (strOneArg "translate" ⟨[.str ⟨#[c]⟩ t,table], []⟩ >>= fun x => _) Q E s
 refine wpAny_bind (wpAny_of_eq (a:=(.str ⟨#[c]⟩ t,⟨#[c]⟩,table)) rfl ?_)
 dsimp only
 refine wpAny_ite_false (by simp [Str.length]) ?_
 refine wpAny_bind (wpAny_forIn1 (wpAny_ite_false rfl (wpAny_ite_true (by simp [hc]) ?_)))
 refine wpAny_bind (hT _ _ ⟨_,_,rfl,fun _ _ e => e⟩ fun s2 hk2 => ?_)
 refine byG fun G kG => ?_
 rcases hmp with ⟨rfl,rfl⟩ | ⟨rfl,hu⟩
 ·exact kG (wpAny_bind (wpAny_pure (wpAny_pure (wpAny_ite_false (tl _ hl) (fin _ hk2)))))
 ·refine kG ?_
  clear kG
  have hn : ∀ y : Option (Option Nat),(if (res.length == 1 && res.cps.all fun x => decide (x < 128)) = true then y else none) = none:=fun y => if_neg (by rw [hu];exact Bool.false_ne_true)
  dsimp only
  rw [hn]
  refine wpAny_bind (wpAny_pure ?_)
  exact wpAny_bind (wpAny_rule (wpAny_ite_false rfl (wpAny_bind (hT _ _ hk2 fun s3 hk3 => wpAny_pure (wpAny_ite_false (tl _ (by show 0 + res.length <= 2;rw [Nat.zero_add];exact hl)) (fin _ hk3))))))
theorem look_hit {c : Nat} {d : Addr} {f : Int -> Option Value} {x : PySem.Str} {u : Tok} {Q : Mapped -> Shared -> Prop} (hm : s.heap.MapOf (intKind prog w) d f) (hv : f (c : Int) = some (.str x u)) (h : ∀ tk,Q (.text x) { s with toks:=tk }) :
  wpAny (model prog w) A (tableLookup (.ref d) c) Q E s:=by
 unfold tableLookup
 refine wpAny_bind (wpAny_attempt (wpAny_bind (wpAny_mkInt ?_)))
 refine wpAny_getItem_of (knd:=intKind prog w) (s := { s with toks:=s.toks + 1 }) (intKind_is prog w (c : Int) _) hm hv ?_
 exact wpAny_pure (h _)
theorem look_miss {c : Nat} {d : Addr} {f : Int -> Option Value} {Q : Mapped -> Shared -> Prop} (hd : (d == sysModules) = false) (hh : A.handled = none) (hm : s.heap.MapOf (intKind prog w) d f) (hv : f (c : Int) = none) (h : ∀ s',Kept s s' -> Q .keep s') :
  wpAny (model prog w) A (tableLookup (.ref d) c) Q E s:=by
 unfold tableLookup
 refine wpAny_bind (wpAny_attempt (wpAny_bind (wpAny_mkInt ?_)))
 refine wpAny_getItem_missing_of (knd:=intKind prog w) (s := { s with toks:=s.toks + 1 }) (intKind_is prog w (c : Int) _) hd hh hm hv (fun h' e hn => ?_)
 refine X22 hn.there fun ob t he hc _ => ?_
 dsimp only
 refine wpAny_bind (wpAny_isInstance (T := "KeyError") (b:=true) ⟨ob,he,hc⟩ (by rw [isSubtype_type];kernel_rfl) ?_)
 rw [if_pos rfl]
 exact wpAny_bind (wpAny_rule (wpAny_pure (h _ ⟨h',_,rfl,hn.keeps⟩)))
theorem mapKept {s' : Shared} {d : Addr} {f : Int -> Option Value} (hm : s.heap.MapOf (intKind prog w) d f) (hk : Kept s s') : s'.heap.MapOf (intKind prog w) d f:=by
 obtain ⟨h,tk,rfl,hk⟩ := hk
 exact let ⟨o,es,ep,ho,r⟩ := hm; ⟨o,es,ep,hk _ _ ho,r⟩
theorem Kept.trans {s s' s'' : Shared} (a : Kept s s') (b : Kept s' s'') : Kept s s'' := by
 refine X21 a fun h tk q2 hk => ?_;subst q2
 refine X21 b fun h2 tk2 q2 hk2 => ?_;subst q2
 exact ⟨h2,tk2,rfl,fun b o e => hk2 b o (hk b o e)⟩
noncomputable def trsOut (f : Int -> Option Value) (c : Nat) : Option PySem.Str :=
 match f (c : Int) with
 | none => some ⟨#[c]⟩
 | some (.str x _) => if x.length = 2 then some x else none
 | _ => none
theorem trs_call {c : Nat} {t : Tok} {d : Addr} {f : Int -> Option Value} {res : PySem.Str} {Q : Value -> Shared -> Prop} (hh : A.handled = none) (hc : c < 128) (hd : (d == sysModules) = false) (hm : s.heap.MapOf (intKind prog w) d f) (hres : trsOut f c = some res)
  (h : ∀ s' u,Kept s s' -> Q (.str res u) s') :
  wpAny (model prog w) A (call (.builtin "str.translate") [.str ⟨#[c]⟩ t, .ref d]) Q E s:=by
 have hA : A.in1.handled = none:=hh
 refine wpAny_call_entry F.slot_str_translate (typeIs_str _ _ _) F.entry_str_translate ?_ (F.args_str_translate_2 _ _)
 unfold trsOut at hres
 cases hf : f (c : Int) with
 | none =>
  rw [hf] at hres
  exact trs_one (mp:=.keep) hc (.inl ⟨rfl,Option.some.inj hres⟩) (fun s' Q' hk hQ => look_miss hd hA (mapKept hm hk) hf fun s'' hk' => hQ _ (hk.trans hk')) (fun s' u hk => ⟨_,rfl,h s' u hk⟩)
 | some v =>
  rw [hf] at hres
  obtain ⟨u,rfl,hl⟩ : ∃ u,v = .str res u /\ res.length = 2:=by
   cases v <;> try (cases hres;done)
   rename_i x u
   dsimp only at hres
   split at hres
   ·obtain rfl:=Option.some.inj hres;exact ⟨u,rfl,by assumption⟩
   ·exact nS hres
  exact trs_one (mp:=.text res) hc (.inr ⟨rfl,hl⟩) (fun s' Q' hk hQ => look_hit (mapKept hm hk) hf fun tk => hQ _ (hk.trans ⟨_,_,rfl,fun _ _ e => e⟩)) (fun s' u hk => ⟨_,rfl,h s' u hk⟩)
noncomputable def KeysI : List DictEntry -> Prop
 | [] => True
 | e :: r => (∃ k t,e.key = .int k t /\ e.hash = hashInt k) /\ KeysI r
theorem KeysI.all {l : List DictEntry} (h : KeysI l) : ∀ e ∈ l, ∃ k t,e.key = .int k t /\ e.hash = hashInt k:=by
 induction l with
 | nil => exact fun e he => absurd he List.not_mem_nil
 | cons x r ih =>
  intro e he
  obtain ⟨h1,h2⟩ := h
  rcases List.mem_cons.mp he with rfl | he
  ·exact h1
  ·exact ih h2 e he
theorem mapOfI {h : Heap} {a : Addr} {es : Array DictEntry} {n : Nat} (X : K.In h) (hl : K.lookup a = some ⟨.type "dict",none, .dict es n, #[]⟩) (hk : KeysI es.toList) : h.MapOf (intKind prog w) a (fun k => findBy Value.isInt es k) :=
 ⟨_,es,n,X _ _ hl,⟨rfl,rfl,rfl⟩,rfl,fun e he => by
  refine X21 (hk.all e (Array.mem_toList_iff.mpr he)) fun x t e1 e2 => ?_
  exact ⟨x,by rw [e1];exact intKind_is prog w x t,e2⟩,fun z9 => rfl⟩
end
end
noncomputable def escS (c : Nat) : Str:=if c = 43 then Str.ofString "\\+" else if c = 45 then Str.ofString "\\-" else ⟨#[c]⟩
noncomputable def goodC (c : Nat) : Bool:=(48 <= c && c <= 57) || (65 <= c && c <= 90) || (97 <= c && c <= 122) || c == 43 || c == 45 || c == 47 || c == 61 || c == 95
theorem goodC_lt {c : Nat} (h : goodC c = true) : c < 128:=by
 simp [goodC] at h;lia
theorem all128 {es : Array DictEntry} (h : ∀ c : Fin 128,goodC c.1 = true -> trsOut (fun k => findBy Value.isInt es k) c.1 = some (escS c.1)) (c : Nat) (hc : goodC c = true) : trsOut (fun k => findBy Value.isInt es k) c = some (escS c):=h ⟨c,goodC_lt hc⟩ hc
section
open PySem.Builtin PySem.Builtin.Str
structure Off (f : Nat) (i : Int) (d : Nat) : Prop where
 eq : i = (f : Int) + d
theorem off (d : Nat) {f : Nat} {i : Int} (h : i = (f : Int) + d) : Off f i d:=⟨h⟩
structure PatIs (pat : PySem.Str) (f : Nat) (fr br : List Nat) : Prop where
 eq : pat = mkS (fr ++ br)
 len : fr.length = f
 small : (fr ++ br).length <= 100
theorem PatIs.length {pat : PySem.Str} {f : Nat} {fr br : List Nat} (h : PatIs pat f fr br) : pat.length = f + br.length:=by
 rw [h.eq,len_mkS,List.length_append,h.len]
theorem PatIs.at {pat : PySem.Str} {f : Nat} {fr br : List Nat} (h : PatIs pat f fr br) (d : Nat) : pat.cps[f + d]? = br[d]? := by
 have e : pat.cps[f + d]? = (cs pat)[f + d]? := by simp
 rw [e,h.eq,cs_mkS, <- h.len,List.getElem?_append_right (by lia)]
 congr 1;lia
theorem PatIs.item {pat : PySem.Str} {f : Nat} {fr br : List Nat} {i : Int} {d : Nat} (h : PatIs pat f fr br) (o : Off f i d) (hd : d < br.length) : Txt.item pat i = ⟨#[br.getD d 0]⟩ := by
 have hl:=h.length
 unfold Txt.item Txt.charAt
 have e : seqIndex? i pat.length = some (f + d):=by
  have:=o.eq
  have h1 : ¬ i < 0:=by lia
  have h2 : i < (pat.length : Int):=by lia
  have h3 : 0 <= i:=by lia
  have h4 : i.toNat = f + d:=by lia
  simp [seqIndex?,h1,h2,h3,h4]
 rw [e]
 show (⟨#[(pat.cps[f + d]?).getD 0]⟩ : PySem.Str) = _
 rw [h.at d]
 simp [List.getD_eq_getElem?_getD]
theorem PatIs.slice {pat : PySem.Str} {f : Nat} {fr br : List Nat} {i j : Int} {a b : Nat} (h : PatIs pat f fr br) (oi : Off f i a) (oj : Off f j b) (hab : a <= b) (hb : b <= br.length) : Txt.slice pat (some i) (some j) = mkS ((br.drop a).take (b - a)):=by
 have e1 : i = ((f + a : Nat) : Int):=by have:=oi.eq;lia
 have e2 : j = ((f + b : Nat) : Int):=by have:=oj.eq;lia
 rw [e1,e2,h.eq,slice_mid _ _ _ (by lia) (by rw [List.length_append,h.len];lia)]
 congr 1
 rw [<- h.len,List.drop_append]
 have e3 : fr.length + a - fr.length = a:=by lia
 rw [e3,List.drop_eq_nil_of_le (by lia),List.nil_append]
 congr 1;lia
theorem subShift (fr br : List Nat) (sub : PySem.Str) (i : Nat) : subAt (mkS (fr ++ br)) sub (fr.length + i) = subAt (mkS br) sub i:=by
 rw [StrLaws.subAt_eq,StrLaws.subAt_eq]
 show (((cs (mkS (fr ++ br))).drop (fr.length + i)).take _ == _) = (((cs (mkS br)).drop i).take _ == _)
 rw [cs_mkS,cs_mkS,List.drop_append,List.drop_eq_nil_of_le (by lia),List.nil_append]
 congr 3;lia
theorem occShift (fr br : List Nat) (sub : PySem.Str) (b limit : Nat) : ∀ (l : List Nat) (acc : Array Nat) (free : Nat),
  (forIn (l.map (fr.length + ·)) (acc.map (fr.length + ·),fr.length + free) (StrLaws.occBody (mkS (fr ++ br)) sub (fr.length + b) limit)).run.fst = ((forIn l (acc,free) (StrLaws.occBody (mkS br) sub b limit)).run.fst).map (fr.length + ·)
 | [],acc,free => by simp
 | i :: l,acc,free => by
  rw [List.map_cons,List.forIn_cons,List.forIn_cons]
  unfold StrLaws.occBody
  rw [subShift]
  by_cases c : ((acc.size < limit /\ free <= i) /\ i + sub.length <= b) /\ subAt (mkS br) sub i = true
  ·rw [if_pos c,if_pos ⟨⟨⟨by simpa using c.1.1.1,by show fr.length + free <= fr.length + i;lia⟩,by lia⟩,c.2⟩]
   have ih:=occShift fr br sub b limit l (acc.push i) (i + sub.length)
   rw [Array.map_push,show fr.length + (i + sub.length) = fr.length + i + sub.length by lia] at ih
   exact ih
  ·rw [if_neg c,if_neg (fun q => c ⟨⟨⟨by simpa using q.1.1.1,by have : fr.length + free <= fr.length + i:=q.1.1.2;lia⟩,by have:=q.1.2;lia⟩,q.2⟩)]
   exact occShift fr br sub b limit l acc free
theorem occ_shift (fr br : List Nat) (sub : PySem.Str) (a b limit : Nat) : occurrences (mkS (fr ++ br)) sub (fr.length + a) (fr.length + b) limit = (occurrences (mkS br) sub a b limit).map (fr.length + ·):=by
 rw [StrLaws.occ_eq,StrLaws.occ_eq]
 have e : List.range' (fr.length + a) (fr.length + b + 1 - (fr.length + a)) = (List.range' a (b + 1 - a)).map (fr.length + ·):=by
  rw [List.map_add_range']
  congr 1;lia
 have:=occShift fr br sub b limit (List.range' a (b + 1 - a)) #[] a
 rw [e]
 rw [show (#[] : Array Nat).map (fr.length + ·) = #[] from by simp] at this
 rw [this,Array.toList_map]
section
variable {prog : Program} {w : World} {A : Around} {E : Value -> Shared -> Prop} {s : Shared}
theorem gives_find4 (x y : PySem.Str) (i j : Int) (t u v v' : Tok) (hj : 0 <= j) (hj' : j <= x.length) : Gives («str.find» ⟨[.str x t, .str y u, .int i v, .int j v'], []⟩) (.int (match occurrences x y (fromIndex x.length i) j.toNat 1 with | k :: _ => (k : Int) | [] => -1)):=by
 show Gives (match occurrences x y (fromIndex x.length i) (min (fromIndex x.length j) x.length) 1 with | k :: _ => retInt k | [] => (do rule "str.find.not-found";retInt (-1))) _
 have e : min (fromIndex x.length j) x.length = j.toNat:=by
  unfold fromIndex
  rw [if_neg (by lia)]
  lia
 rw [e]
 cases occurrences x y (fromIndex x.length i) j.toNat 1 with
 | nil => exact .rule (.of_eq rfl)
 | cons k _ => exact .of_eq rfl
theorem find_pat {pat : PySem.Str} {f : Nat} {fr br : List Nat} {i j : Int} {a b : Nat} {r : Option Nat} {t u v v' : Tok} {Q : Value -> Shared -> Prop} (h : PatIs pat f fr br) (oi : Off f i a) (oj : Off f j b) (hb : b <= br.length) (he : (occurrences (mkS br) (Str.ofString "-") a b 1).head? = r)
  (hq : ∀ t',Q (.int (match r with | some k => (f : Int) + k | none => -1) t') { s with toks:=s.toks + 1 }) : wpAny (model prog w) A (call (.builtin "str.find") [.str pat t, .str (Str.ofString "-") u, .int i v, .int j v']) Q E s:=by
 have hi:=oi.eq
 have hj:=oj.eq
 have hl:=h.length
 refine call_gives F.slot_str_find (typeIs_str _ _ _) F.entry_str_find (F.args_str_find_4 _ _ _ _) (gives_find4 pat _ i j t u v v' (by lia) (by lia)) ?_
 have e1 : fromIndex pat.length i = fr.length + a:=by unfold fromIndex;rw [if_neg (by lia),h.len];lia
 have e2 : j.toNat = fr.length + b:=by rw [h.len];lia
 rw [e1,e2,h.eq,occ_shift]
 subst he
 have:=hq s.toks
 cases ho : occurrences (mkS br) (Str.ofString "-") a b 1 with
 | nil => rw [ho] at this;exact this
 | cons k l =>
  rw [ho] at this
  rw [List.map_cons]
  have e3 : ((fr.length + k : Nat) : Int) = (f : Int) + k:=by rw [h.len];lia
  show Q (.int ((fr.length + k : Nat) : Int) _) _
  rw [e3]
  exact this
theorem notinS {x y : PySem.Str} {b : Bool} {t u : Tok} {Q : Value -> Shared -> Prop} (h : (Builtin.Str.occurrences x y 0 x.length 1).isEmpty = b) (hq : Q (.bool b) s) : wpAny (model prog w) A (compareOp .NotIn (.str y u) (.str x t)) Q E s:=PyProof.Rows.notIn_str (by rw [h];cases b <;> exact hq)
theorem replace_none {x y z : PySem.Str} {t u v : Tok} {Q : Value -> Shared -> Prop} (he : (occurrences x y 0 x.length (x.length + 1)).isEmpty = true) (hq : Q (.str x t) s) :
  wpAny (model prog w) A (call (.builtin "str.replace") [.str x t, .str y u, .str z v]) Q E s:=by
 have e : ((occurrences x y 0 x.length (x.length + 1)).isEmpty || (y.length == 0 && z.length == 0)) = true:=by rw [he];rfl
 refine call_gives F.slot_str_replace (typeIs_str _ _ _) F.entry_str_replace (F.args_str_replace_3 _ _ _) (gives_str_replace x y z t u v fun q => by rw [e] at q;exact nB q.symm) ?_
 rw [if_pos e]
 exact hq
end
end
section
variable {M : Model} {A : Around} {E : Value -> Shared -> Prop} {s : Shared} {h : Heap} {P : Addr} {ps : Array Value} {mg mb : Str -> Option Value} {p : Program} {loose : List Str} {mean : ExcName -> Option Value}
noncomputable def hide (h : Heap) (P : Addr) : Heap:=hideAll h [P]
theorem hide_get {b : Addr} {o : Obj} (hP : h.get? P = some (tabObj ps)) (e : h.get? b = some o) (hn : o ≠ tabObj ps) : (hide h P).get? b = some o :=
 hideAll_get _ e fun q => by
  rw [List.mem_singleton.mp q,hP] at e
  exact hn (Option.some.inj e).symm
theorem hide_ns {a : Addr} {mm : Str -> Option Value} (hP : h.get? P = some (tabObj ps)) (x : h.Ns a mm) : (hide h P).Ns a mm :=
 let ⟨o,es,ep,e,hd,r⟩ := x; ⟨o,es,ep,hide_get hP e (fun q => by rw [q] at hd;exact Data.noConfusion hd),hd,r⟩
theorem hide_top (hP : h.get? P = some (tabObj ps)) (T : Top p loose mean mg mb h) :
  Top topProg (loose ++ (recsOf p).map (·.name) ++ (litsOf p).map (·.1) ++ (clssOf p loose).map (·.name)) mean mg mb (hide h P) where
 g:=hide_ns hP T.g
 b:=hide_ns hP T.b
 nolimit:=let ⟨mc,a,r⟩ := T.nolimit; ⟨mc,hide_ns hP a,r⟩
 nodigits:=let ⟨mc,a,r⟩ := T.nodigits; ⟨mc,hide_ns hP a,r⟩
 fn:=fun d hd => absurd (show d ∈ ([] : List DefRec) from hd) List.not_mem_nil
 own:=fun o ho => absurd (show o ∈ ([] : List OwnSpec) from ho) List.not_mem_nil
 const:=fun x d e => by exact nS (show (none : Option PyData) = some d from e)
 free:=fun x h1 h2 _ _ _ => T.free x h1 (fun q => h2 (List.mem_append_left _ (List.mem_append_left _ (List.mem_append_left _ q))))
  (fun q => h2 (List.mem_append_left _ (List.mem_append_left _ (List.mem_append_right _ q)))) (fun q => h2 (List.mem_append_left _ (List.mem_append_right _ q))) fun q => h2 (List.mem_append_right _ q)
 builtins:=T.builtins
 tab:=fun d hd => absurd (show d ∈ ([] : List DefRec) from hd) List.not_mem_nil
 bmain:=let ⟨bm,ob,a1,a2,a3,a4,r⟩ := T.bmain; ⟨bm,ob,a1,a2,hide_get hP a3 (fun q => by rw [q] at a4;exact Value.noConfusion a4),a4,r⟩
 seer:=fun e => absurd (show false = true from e) Bool.false_ne_true
theorem hide_K {K : Frag} (hP : h.get? P = some (tabObj ps)) (X : K.In h) (hK : noTabs K = true) : K.In (hide h P):=fun a o e => by
 refine hide_get hP (X a o e) fun q => ?_
 have h2:=List.all_eq_true.mp hK (a,o) (mem_of_lookupK e)
 subst q
 exact absurd (show false = true from h2) Bool.false_ne_true
theorem hide_none : (hide h P).get? P = none:=hideAll_none _ List.mem_cons_self
theorem hide_sub {b : Addr} {o : Obj} (e : (hide h P).get? b = some o) : h.get? b = some o:=of_hideAll _ e
theorem genCode {env : Env} {c : Addr} {pos : Pos} {qualname : Str} {scope : Scope} {Q : Value -> Shared -> Prop} (hc : env.code = .ref c) (C : CodeHd s.heap c P) (hP : s.heap.get? P = some (tabObj ps)) (ht : TriplesOk ps.toList)
  (hQ : ∀ code h' tk ps',Heap.ExtBut P s.heap h' -> h'.get? P = some (tabObj ps') -> TriplesOk ps'.toList -> Q code { s with heap:=h',toks:=tk }) :
  wpAny M A (genexprCode env pos qualname scope) Q E s:=by
 refine X50 C fun o vs file tf flags q8 => X41 q8 fun tg inF text tt ho q8 => Y5 q8 fun hcl hd h11' h11 q8 => Y5 q8 fun h2 h7 h9 h10 hne => ?_
 unfold genexprCode codeAt
 rw [hc,if_neg (show ¬ ((Value.ref c == Value.none) = true) from Bool.false_ne_true)]
 refine wpAny_bind (wpAny_fieldsOf ho hd ?_)
 rw [h11]
 refine wpAny_bind (wpAny_fieldsOf hP rfl ?_)
 cases hnf : codeAmong pos ps.toList with
 | some cv => exact wpAny_pure (hQ cv s.heap s.toks ps (Heap.ExtBut.refl _ _) hP ht)
 | none =>
  rw [h2,h7,h9,h10]
  refine wpAny_bind (wpAny_newCode fun c' P' h' tk hk hc' hP' hcode' hrec' => ?_)
  have hop' := hk _ _ hP
  refine wpAny_bind (wpAny_updateFieldsOfTheText hop' rfl ?_)
  have hnew : (Obj.mapFields (fun vs => if (codeAmong pos vs.toList).isSome = true then vs else vs ++ #[rawInt pos.line,rawInt pos.col, .ref c']) (tabObj ps)) = tabObj (ps ++ #[rawInt pos.line,rawInt pos.col, .ref c']):=by
   simp [Obj.mapFields,hnf]
  have hget:=Heap.get?_update_self (h:=h') (fun o => Obj.mapFields (fun vs => if (codeAmong pos vs.toList).isSome = true then vs else
   vs ++ #[rawInt pos.line,rawInt pos.col, .ref c']) o) hop' (Obj.isFreed_of_fields (by rw [hnew]))
  rw [hnew] at hget
  refine wpAny_bind (wpAny_fieldsOf hget rfl ?_)
  have hl : (ps ++ #[rawInt pos.line,rawInt pos.col,Value.ref c']).toList = ps.toList ++ [rawInt pos.line,rawInt pos.col, .ref c']:=by simp
  rw [hl,codeAmong_snoc _ ht hnf]
  exact wpAny_pure (hQ _ _ _ (ps ++ #[rawInt pos.line,rawInt pos.col,Value.ref c']) (fun b o' hb e => ((Heap.SameBut.update ..).extBut b o' hb (hk b o' e))) hget (by rw [hl];exact TriplesOk_snoc _ _ _ _ ht))
end
section
variable {M : Model} {A : Around} {E : Value -> Shared -> Prop} {s : Shared} {P c : Addr} {ps : Array Value} {mg mb : Str -> Option Value} {p : Program} {loose : List Str} {mean : ExcName -> Option Value} {h₀ : Heap} {L : Addr} {m : Str -> Option Value} {news : List (Addr × Obj)} {g : Obj -> List (Addr × Obj)}
theorem lam_ext {env : Env} {params : Arguments} {body : Expr} {scope : Scope} {pos : Pos} {clos : List (Str × Addr)} {Q : Value -> Shared -> Prop} (hdef : defaultsOf params env = ([], [])) (hcl : closureFor scope env = pure clos) (hge0 : env.globals = mainGlobals) (hcode : env.code = .ref c)
  (k : ∀ b o,h₀.get? b = some o -> s.heap.get? b = some o) (hP0 : h₀.get? P = none) (hP : s.heap.get? P = some (tabObj ps)) (T : Top p loose mean mg mb h₀) (C : CodeHd h₀ c P) (ht : TriplesOk ps.toList)
  (h : ∀ f fo ps' h' tk,(∀ b o,b ≠ P -> s.heap.get? b = some o -> h'.get? b = some o) -> h'.get? P = some (tabObj ps') -> TriplesOk ps'.toList -> h'.get? f = some fo -> fo.cls = .type "function" -> Q (.ref f) { s with heap:=h',toks:=tk }) :
  wpAny M A (eval (.Lambda params body scope pos) env) Q E s:=by
 refine kla_eval hdef ?_
 have hgs:=T.g.keeps k
 refine byG fun G kG => ?_
 refine X22 T.bmain fun bm ob b1 b2 q8 => Y4 q8 fun b3 b4 b5 b6 => ?_
 refine kG ?_;clear kG G
 have hgP : mainGlobals ≠ P:=fun q => by
  refine X32 hgs fun o es ep e hd _ => ?_
  rw [q,hP] at e;obtain rfl:=Option.some.inj e;exact Data.noConfusion hd
 have hbP : bm ≠ P:=fun q => by
  have e:=k _ _ b3
  rw [q,hP] at e;obtain rfl:=Option.some.inj e;exact Value.noConfusion b4
 have hbG : bm ≠ mainGlobals:=fun q => by
  refine X32 T.g fun o es ep e hd _ => ?_
  rw [q,e] at b3;obtain rfl:=Option.some.inj b3;rw [hd] at b6;exact Data.noConfusion b6
 have hBA : s.heap.BuiltinsAt mg P:=⟨bm,ob,b1,b2,hbG,hbP,k _ _ b3,b4,b5,b6⟩
 have fin : ∀ (fo : Obj) (ps' : Array Value) (h' : Heap) (tk : Nat),Heap.ExtBut P s.heap h' -> h'.get? P = some (tabObj ps') -> TriplesOk ps'.toList -> fo.cls = .type "function" -> fo.isFreed = false ->
   Q (.ref h'.objs.size) { s with heap:=h'.push fo,toks:=tk } := fun fo ps' h' tk hx hP' ht' hc hfr =>
  h _ fo ps' _ tk (fun b o hb e => Heap.get?_push_of_some _ (hx b o hb e)) (Heap.get?_push_of_some _ hP') ht' (Heap.get?_push_size _ hfr) hc
 cases hnf : codeAmong pos ps.toList with
 | some cv =>
  refine kla_makeFunctionHit (mg:=mg) hcl hge0 hgs hcode (C.keeps k) hP ht hnf hBA fun ctv h' tk hk hsz => ?_
  exact fin _ ps h' tk (fun b o _ e => hk b o e) (hk _ _ hP) ht rfl rfl
 | none =>
  refine kla_makeFunction (mg:=mg) hcl hge0 hgs hcode (C.keeps k) hP ht hnf hgP hBA fun c' ctv h' tk hx hge hlt hrec htb => ?_
  refine fin _ _ h' tk hx htb ?_ rfl rfl
  have hl : (ps ++ #[rawInt pos.line,rawInt pos.col,Value.ref c']).toList = ps.toList ++ [rawInt pos.line,rawInt pos.col, .ref c']:=by simp
  rw [hl];exact TriplesOk_snoc _ _ _ _ ht
end
section
variable {prog : Program} {w : World} {A : Around} {E : Value -> Shared -> Prop} {s : Shared} {P c : Addr} {ps : Array Value} {mg mb : Str -> Option Value} {p : Program} {loose : List Str} {mean : ExcName -> Option Value} {h₀ : Heap} {L : Addr} {m : Str -> Option Value} {news : List (Addr × Obj)} {g : Obj -> List (Addr × Obj)}
noncomputable def JoinReady (prog : Program) (w : World) (A : Around) (a : Addr) (k : Nat) (tx : List Str) (s : Shared) : Prop :=
 ∃ fp wr gn St,WalksS prog w A.in1.in1 a fp wr (GenOnlyQ gn) tx.length (fun j v => ∃ y u,tx[j]? = some y /\ v = .str y u) St /\ St 0 s /\ (∀ i s,St i s -> s.TypeIs (.ref a) "generator") /\ a ∈ fp /\ (∀ b ∈ fp,b < s.heap.objs.size) /\ ∀ b ∈ wr,k <= b
theorem join_ext {a : Addr} {k : Nat} {tx : List Str} {x : Str} {t : Tok} {Q : Value -> Shared -> Prop} (J : JoinReady prog w A a k tx s) (hok : JoinOk x tx = true) (hsz : tx.length <= sizeLine)
  (h : ∀ h' tk gs t',(∀ b o,b < k -> s.heap.get? b = some o -> h'.get? b = some o) -> (AllBare s.gens -> AllBare gs) -> Q (.str (Txt.join x tx) t') { s with heap:=h',toks:=tk,gens:=gs }) :
  wpAny (model prog w) A (call (.builtin "str.join") [.str x t, .ref a]) Q E s:=by
 refine byG fun G kG => ?_
 refine X41 J fun fp wr gn St W q8 => Y5 q8 fun hst hT ha hfp hwr => ?_
 refine kG ?_;clear kG G
 refine SC.joinGen W hT hst hfp ha (fun j v hv => let ⟨y,u,_,e⟩ := hv; ⟨y,u,e⟩) (fun s' lt hm hacc => ?_) hsz
 have hl : lt.map (·.1) = tx:=by
  apply List.ext_getElem?
  intro j
  have hsz : lt.length = tx.length:=by simpa [strValues] using hacc.1
  by_cases hj : j < tx.length
  ·have hj' : j < lt.length:=hsz ▸ hj
   refine X21 (hacc.2 j (.str lt[j].1 lt[j].2) (by simp [strValues,List.getElem?_eq_getElem hj'])) fun y u hy hv => ?_
   injection hv with h1 _
   rw [hy]
   simp [List.getElem?_eq_getElem hj',h1]
  ·rw [List.getElem?_eq_none (by simpa [hsz] using Nat.le_of_not_lt hj),List.getElem?_eq_none (by simpa using Nat.le_of_not_lt hj)]
 rw [hl]
 refine ⟨hok,fun t' k' => ?_⟩
 have hkeep : ∀ b o,b < k -> s.heap.get? b = some o -> s'.heap.get? b = some o:=fun b o hb e => hm.heap b o (fun q => absurd (hwr b q) (Nat.not_le.mpr hb)) e
 have:=h s'.heap k' s'.gens t' hkeep (fun hb => hb.moved hm.gens)
 have e : ({ s' with toks:=k' } : Shared) = { s with heap:=s'.heap,toks:=k',gens:=s'.gens } := by
  obtain ⟨a1,a2,a3,a4,a5⟩ := s'
  have h1:=hm.drawn
  have h2:=hm.os
  dsimp only at h1 h2 ⊢
  rw [h1,h2]
 rw [e]
 exact this
theorem passing_all (n : Nat) : passing (fun z9 => true) n 0 = List.range n:=by
 unfold passing;simp
theorem gen_ext {env : Env} {elt iter : Expr} {x : Str} {px : Pos} {scope : Scope} {cl : List (Str × Addr)} {pos : Pos} {l : Addr} {items : Array Value} {n : Nat} {ts : List Str} {φ : Str -> Str} {Q : Value -> Shared -> Prop}
  (hh : A.handled = none) (hco : scope.isCoroutine = false) (hclos : closureFor scope env = pure cl) (hcell : ∀ y ∈ scope.names,y.2 ≠ .cell) (h0 : scope.names.lookup (".0" : Str) = some NameKind.local)
  (hx : scope.names.lookup x = some .local) (hkind : scope.kind = .function) (hroom : A.depth < recursionLimit) (hge0 : env.globals = mainGlobals) (hcode : env.code = .ref c)
  (k : ∀ b o,h₀.get? b = some o -> s.heap.get? b = some o) (hP0 : h₀.get? P = none) (hP : s.heap.get? P = some (tabObj ps)) (T : Top p loose mean mg mb h₀) (C : CodeHd h₀ c P) (ht : TriplesOk ps.toList)
  (hl : s.heap.get? l = some (W.listOf items n)) (hts : StrsAre items.toList ts) (hlP : l ≠ P)
  (hit : ∀ (Q' : Value -> Shared -> Prop),Q' (.ref l) s -> wpAny (model prog w) A (eval iter env) Q' E s)
  (hel : ∀ (A' : Around) E' (Cn : Addr) (code : Value) (bi : Addr) y t (s₂ : Shared) m₂,y ∈ ts -> A'.handled = none -> s₂.heap.Ns Cn m₂ -> m₂ x = some (.str y t) ->
   wpAny (model prog w) A' (eval elt (genEnv scope cl Cn code bi env)) (fun v s₃ => (∃ u,v = .str (φ y) u) /\ Keeps s₂ s₃) E' s₂)
  (h : ∀ a h' tk gs ps',(∀ b o,b ≠ P -> s.heap.get? b = some o -> h'.get? b = some o) -> h'.get? P = some (tabObj ps') -> TriplesOk ps'.toList -> gs.bare = true -> JoinReady prog w A a s.heap.objs.size (ts.map φ) { s with gens:=s.gens.push gs,toks:=tk,heap:=h' } ->
   Q (.ref a) { s with gens:=s.gens.push gs,toks:=tk,heap:=h' })
  (hs : ∀ x,genFold iter env x = pure x) :
  wpAny (model prog w) A (eval (.GeneratorExp elt [⟨.Name x px,iter, [],0⟩] scope pos) env) Q E s:=by
 have hgs:=T.g.keeps k
 refine byG fun G kG => ?_
 refine X22 T.bmain fun bm ob b1 b2 q8 => Y4 q8 fun b3 b4 b5 b6 => ?_
 refine kG ?_;clear kG G
 have hgP : mainGlobals ≠ P:=fun q => by
  refine X32 hgs fun o es ep e hd _ => ?_
  rw [q,hP] at e;obtain rfl:=Option.some.inj e;exact Data.noConfusion hd
 have hbP : bm ≠ P:=fun q => by
  have e:=k _ _ b3
  rw [q,hP] at e;obtain rfl:=Option.some.inj e;exact Value.noConfusion b4
 have hlim : s.heap.NoLimit:=T.nolimit.keeps k
 refine X11 T.nolimit fun mc hmc _ => ?_
 have hcP : cStatics ≠ P:=fun q => by
  refine X32 (hmc.keeps k) fun o es ep e hd _ => ?_
  rw [q,hP] at e;obtain rfl:=Option.some.inj e;exact Data.noConfusion hd
 have hIl : s.heap.IsList l items:=⟨_,hl,rfl,_,rfl⟩
 have hlt : l < s.heap.objs.size:=Heap.lt_size hl
 have hPlt : P < s.heap.objs.size:=Heap.lt_size hP
 refine wpAny_GeneratorExp_walksQ hh hco hclos hcell h0 hx hkind hroom (hit _ ?_) hs
 refine wpAny_pyIter_list hIl ⟨hlim.keeps fun b o e => Heap.get?_push_of_some _ e, ?_⟩
 refine genCode (P:=P) (ps:=ps) (s := { s with heap:=s.heap.push { cls:=.type "list_iterator",data:=.fields #[.ref l, .int 0 0] } }) hcode ((C.keeps k).keeps fun b o e => Heap.get?_push_of_some _ e) (Heap.get?_push_of_some _ hP) ht fun code h₃ tk₃ ps' hx₃ hP₃ ht₃ => ?_
 have k₃ : ∀ b o,b ≠ P -> s.heap.get? b = some o -> h₃.get? b = some o:=fun b o hb e => hx₃ b o hb (Heap.get?_push_of_some _ e)
 have hI₃ : h₃.get? s.heap.objs.size = some { cls:=.type "list_iterator",data:=.fields #[.ref l, .int 0 0] } := hx₃ _ _ (Nat.ne_of_gt hPlt) (Heap.get?_push_size _ rfl)
 have hg₃ : h₃.Ns env.globals mg:=by rw [hge0];exact hgs.at' fun o e => k₃ _ o hgP e
 refine wpAny_builtinsFor hg₃ b1 b2 (k₃ _ _ hbP (k _ _ b3)) b4 b5 b6 ?_
 have hlim₃ : h₃.NoLimit:=by
  refine X11 hlim fun mc' hn hr => ?_
  exact ⟨mc',hn.at' fun o e => k₃ _ o hcP e,hr⟩
 have hIlt : s.heap.objs.size < h₃.objs.size:=Heap.lt_size hI₃
 refine ⟨s.heap.objs.size, [s.heap.objs.size,l], [s.heap.objs.size],items.size,_,_,fun z9 => true,fun i v => ∃ u,v = .str (φ (ts.getD i ⟨#[]⟩)) u,rfl,fun A' hA' => Walks.list hA' s.heap.objs.size l (Nat.ne_of_lt hlt) items,⟨⟨_,hI₃,rfl,rfl⟩,_,k₃ _ _ hlP hl,rfl,_,rfl⟩, ?_,hlim₃, ?_, ?_, ?_⟩
 ·intro b hb
  rcases List.mem_cons.mp hb with rfl | hb
  ·exact hIlt
  ·rw [List.mem_singleton.mp hb];exact Nat.lt_trans hlt hIlt
 ·intro hb
  have e1:=List.mem_singleton.mp hb
  refine X11 hlim fun mc' hn _ => ?_
  exact absurd hn.lt (e1 ▸ Nat.lt_irrefl _)
 ·intro href _
  refine ⟨fun A' E' i v s₂ m₂ hA' hP' hn hm' _ => ?_,fun A' E' i v s₂ m₂ hA' hP' _ hn hm' _ => ?_⟩
  ·rw [List.forIn_nil]
   exact wpAny_pure ⟨rfl,⟨s₂.heap,s₂.toks,rfl,fun _ _ e => e⟩⟩
  ·have hi : i < ts.length:=by
    rw [<- hts.length]
    have:=(Array.getElem?_eq_some_iff.mp hP').1
    simpa using this
   refine X10 (strsAt hts hi) fun t e => ?_
   have e' : items[i]? = some (.str (ts.getD i ⟨#[]⟩) t):=by rw [<- Array.getElem?_toList];exact e
   rw [hP'] at e'
   obtain rfl:=Option.some.inj e'
   refine hel A' E' _ code _ _ t s₂ m₂ ?_ hA' hn hm'
   rw [List.getD_eq_getElem?_getD,List.getElem?_eq_getElem hi]
   exact List.getElem_mem hi
 ·intro a h₅ tk gs hb ha hsz k₅ W hst
  have n0 : (passing (fun z9 => true) items.size 0).length = (ts.map φ).length:=by rw [passing_all,List.length_range,List.length_map, <- hts.length];simp
  have k5' : ∀ b o,b ≠ P -> s.heap.get? b = some o -> h₅.get? b = some o:=fun b o hb e => k₅ b o (k₃ b o hb e)
  refine h a h₅ tk gs ps' k5' (k₅ _ _ hP₃) ht₃ hb ?_
  have W' : WalksS prog w A.in1.in1 a (a :: h₃.objs.size :: List.range h₃.objs.size) (h₃.objs.size :: [s.heap.objs.size]) (GenOnlyQ s.gens.size) (ts.map φ).length (fun j v => ∃ y u,(ts.map φ)[j]? = some y /\ v = .str y u) (GenAt prog w A.in4 a s.gens.size h₃.objs.size (List.range h₃.objs.size) [s.heap.objs.size] (fun z9 => true) items.size (fun i v => ∃ u,v = .str (φ (ts.getD i ⟨#[]⟩)) u)):=by
   have V:=W.in4_2
   rw [n0] at V
   exact { sub:=V.sub,grefl:=V.grefl,gtrans:=V.gtrans,frame:=V.frame,done:=V.done,self:=V.self,item:=fun j s Q E hj st hQ => V.item j s Q E hj st fun v s' hP st' hm => hQ v s' (by
        obtain ⟨i,hi,u,rfl⟩ := hP
        rw [passing_all] at hi
        have hj' : j < ts.length:=by rw [List.length_map] at hj;exact hj
        have e1 : i = j:=by
         rw [List.getElem?_range (by rw [<- hts.length] at hj';simpa using hj')] at hi
         exact (Option.some.inj hi).symm
        subst e1
        refine ⟨_,u, ?_,rfl⟩
        rw [List.getElem?_map,List.getElem?_eq_getElem hj',List.getD_eq_getElem?_getD,List.getElem?_eq_getElem hj']
        rfl) st' hm }
  refine ⟨_,_,_,_,W',hst,fun i s' hi => hi.1.typeIs,List.mem_cons_self,fun b hb => ?_,fun b hb => ?_⟩
  ·show b < h₅.objs.size
   rw [hsz]
   rcases List.mem_cons.mp hb with rfl | hb
   ·exact Nat.lt_succ_self _
   ·rcases List.mem_cons.mp hb with rfl | hb
    ·exact Nat.lt_succ_of_lt ha
    ·exact Nat.lt_succ_of_lt (Nat.lt_trans (List.mem_range.mp hb) ha)
  ·rcases List.mem_cons.mp hb with rfl | hb
   ·exact Nat.le_of_lt hIlt
   ·rw [List.mem_singleton.mp hb];exact Nat.le_refl _
end
section
variable {w : World} {C : Cx} {A : Around} {Γ Γ' : List (Option PV)} {led led' : Led} {s : Shared} {K : Flow -> Shared -> Prop} {rest : List Stmt}
noncomputable def FnT (w : World) (f : Addr) (need : Nat) (args : List PV) (r : PV) : Prop :=
 ∀ (dp un : Nat) (gd : Option (List Code)) (fr : Option (List Env)) (s : Shared) (R : Result -> Shared -> Prop) (vs : List Value) (M : List Addr) (ps : Array Value),dp + need < recursionLimit -> un + 8 * need < cLine -> (hd.heap_1 w.params).In s.heap -> (∃ p loose mean mg mb,Top p loose mean mg mb s.heap) ->
  s.heap.get? 173 = some (tabObj ps) -> TriplesOk ps.toList -> (∀ b ∈ M, ∃ o,s.heap.get? b = some o) -> Reps s.heap M args vs ->
  (∀ v h k gs ps',Rep h M r v -> (∀ b o,b ≠ 173 -> s.heap.get? b = some o -> h.get? b = some o) -> h.get? 173 = some (tabObj ps') -> TriplesOk ps'.toList -> (AllBare s.gens -> AllBare gs) -> R (.ok (.ret v)) { s with heap:=h,toks:=k,gens:=gs }) ->
  codeAny (model vw w) { handled:=none,depth:=dp,frames:=fr,guards:=gd,units:=un } (.call (.ref f) ⟨vs, []⟩) R s
noncomputable def EndsT (C : Cx) (r : PV) (f : Flow) (s : Shared) : Prop := ∃ v,Rep s.heap (173 :: C.M₀) r v /\ f = .ret v /\ Ext C.h₀ s.heap /\ C.X s /\ ∃ ps,s.heap.get? 173 = some (tabObj ps) /\ TriplesOk ps.toList
theorem EndsT.ret {r : PV} {v : Value} (a : AS C Γ led s) (hm : ((173 : Addr),LO.tab) ∈ led) (q : Rep s.heap (C.M led) r v) : EndsT C r (.ret v) s:=by
 refine XAEAEA (a.lg _ hm) fun _ o e ps q4 t => ?_;subst q4
 exact ⟨v,q.keep (Ext.sk noExt) (fun _ _ _ m z => m (by
  rcases List.mem_cons.mp z with rfl | z
  ·exact List.mem_append_right _ (List.mem_map_of_mem hm)
  ·exact List.mem_append_left _ z)),rfl,a.kp,a.x,ps,e,t⟩
structure Roof (C : Cx) : Prop where
 up : C.h₀.objs.size <= C.env.locals
theorem FnT.enter {f : Addr} {need : Nat} {args : List PV} {r : PV} (nms : List Str) {name qual : Str} {params : Arguments} {body : List Stmt} {scope : Scope} {dV kV doc pm cdv ct oc : Value} {an od : Option Addr} {osl : Array (Option Value)}
  (ho : (hd.heap_1 w.params).lookup f = some ⟨oc,od, .func (fnOf name qual params body scope dV kV doc pm an cdv ct),osl⟩) (hcd : codeIn (hd.heap_1 w.params) cdv qual = true) (hK : noTabs (hd.heap_1 w.params) = true)
  (hb : ∀ (s : Shared) (vs : List Value),vs.length = args.length -> (hd.heap_1 w.params).In s.heap -> BindsTo s (fnOf name qual params body scope dV kV doc pm an cdv ct) ⟨vs, []⟩ (nms.zip vs))
  (hloc : (nms.all fun x => scope.names.lookup x == some .local && !(x == ("__debug__" : Str))) = true) (nd : nms.Nodup)
  (hco : scope.isCoroutine = false) (hgen : scope.isGenerator = false) (hk : scope.kind = .function) (hcell : ∀ x ∈ scope.names,x.2 ≠ .cell)
  (run : ∀ (C : Cx) (A : Around) (L : Addr) (g₀ : Array GenState),CxOk w C -> Roof C -> C.env = envOf qual scope L f cdv -> C.nms = nms -> Around.ok A need -> (∀ s h k gs,C.X s -> (AllBare s.gens -> AllBare gs) -> C.X { s with heap:=h,toks:=k,gens:=gs }) -> Run w A C (args.map some ++ List.replicate nms.length none) [(173, .tab)] body (EndsT C r)) : FnT w f (need + 1) args r:=by
 intro dp un gd fr s R vs M ps hdp hun KX TX hP ht hM ra hret
 refine X50 (id TX) fun p loose mean mg mb T => ?_
 have hl : ∀ x ∈ nms,scope.names.lookup x = some .local /\ (x == ("__debug__" : Str)) = false:=fun x hx => by
  have:=List.all_eq_true.mp hloc x hx
  simp only [Bool.and_eq_true,beq_iff_eq,Bool.not_eq_true'] at this
  exact ⟨this.1,this.2⟩
 have hlen:=ra.length
 refine con_enter (binds:=nms.zip vs) KX T ho hcd (by dsimp only;lia) (hb s vs hlen KX) (fun y hy => (hl y.1 (List.of_mem_zip hy).1).1) (fun L' h₁ F N => ?_) hco hgen hk hcell
 have hL0 : s.heap.get? L' = none:=Heap.get?_none_of_le F.above
 have hP1 : h₁.get? 173 = some (tabObj ps):=F.keep _ _ hP
 have h173 : (173 : Addr) ≠ L' := fun z => by rw [<- z,hP] at hL0;exact nS hL0.symm
 have hsub : ∀ b o,(hide s.heap 173).get? b = some o -> s.heap.get? b = some o:=fun b o e => hide_sub e
 let M₀:=M.filter fun b => b != 173
 have Z : CxOk w ⟨hide s.heap 173,M₀,envOf qual scope L' f cdv,nms,fun s' => (AllBare s.gens -> AllBare s'.gens) /\ s'.drawn = s.drawn /\ s'.os = s.os⟩ :=
  ⟨fun _ _ _ x => x,hk,nd,fun x hx => (hl x hx).2,hide_K hP KX hK,⟨_,_,_,_,_,hide_top hP T⟩,rfl,rfl,noneSub hsub hL0,fun b hb => by
   refine Y2 (List.mem_filter.mp hb) fun hb hne => ?_
   refine X10 (hM b hb) fun o e => ?_
   exact ⟨o,hideAll_get _ e fun q => by rw [List.mem_singleton.mp q] at hne;simp at hne⟩,fun x c h => nomatch h⟩
 have rr : ∀ {pv : PV} {v : Value},Rep s.heap M pv v -> Rep h₁ (M₀ ++ [173]) pv v:=fun r => r.keepS (Ext.sk F.keep) fun b o e q m z => by
  refine Or.elim (List.mem_append.mp z) (fun z => ?_) fun z => ?_
  ·exact m (List.mem_filter.mp z).1
  ·rw [List.mem_singleton.mp z,hP] at e
   obtain rfl:=Option.some.inj e;exact nB q
 refine wpAny_mono (run _ _ L' s.gens Z ⟨Nat.le_trans (Nat.le_of_eq (hideAll_size _ _)) F.above⟩ rfl rfl ⟨rfl, ?_, ?_⟩ (fun s' h k gs x e => ⟨fun z => e (x.1 z),x.2⟩) _ ⟨⟨_,F.ns,fun i x pv h1 h2 => ?_⟩,fun b o e => F.keep b o (hsub b o e),(fun q hq => ?_),(by show List.Nodup [173];simp),(fun x c h => nomatch h),(fun q hq => by rw [List.mem_singleton.mp hq];exact h173),id,rfl,rfl⟩) (fun fl s' he => ?_) fun _ _ e => e
 ·dsimp only [Around.deeper];lia
 ·dsimp only [Around.deeper];lia
 ·rw [List.getElem?_append] at h2
  split at h2
  ·rw [List.getElem?_map,Option.map_eq_some_iff] at h2
   obtain ⟨pv',h3,h4⟩ := h2
   obtain rfl:=Option.some.inj h4
   refine X11 (ra.at h3) fun v h5 h6 => ?_
   have hz : (nms.zip vs)[i]? = some (x,v):=by
    rw [List.getElem?_zip_eq_some];exact ⟨h1,h5⟩
   exact ⟨v, .inl ⟨(hl x (List.mem_of_getElem? h1)).1,lookup_rev_zip nd hz⟩,rr h6⟩
  ·rw [List.getElem?_replicate] at h2
   split at h2
   ·cases h2
   ·exact nS h2
 ·rw [List.mem_singleton.mp hq]
  exact ⟨hide_none,_,hP1,ps,rfl,ht⟩
 ·refine X12 he fun v rv q1 q0 => Y3 q0 fun ex q2 q0 => X11 q0 fun ps' hP' ht' => Y3 q2 fun x1 x2 x3 => ?_;subst q1
  have e : s' = { s with heap:=s'.heap,toks:=s'.toks,gens:=s'.gens } := by
   obtain ⟨a1,a2,a3,a4,a5⟩ := s'
   dsimp only at x2 x3 ⊢
   rw [x2,x3]
  have:=hret v s'.heap s'.toks s'.gens ps' (rv.keep (Ext.sk noExt) fun b o _ m z => m (by
   by_cases hb : b = 173
   ·rw [hb];exact List.mem_cons_self
   ·exact List.mem_cons_of_mem _ (List.mem_filter.mpr ⟨z,by simpa using hb⟩))) (fun b o hb e => ex b o (hideAll_get _ e fun q => hb (List.mem_singleton.mp q))) hP' ht' x1
  rw [<- e] at this
  exact this
end
theorem patAt (w : World) : ∃ pt u v n,(hd.heap_1 w.params).lookup (152 : Addr) = some (patObj pt u v 151) /\ (hd.heap_1 w.params).lookup (151 : Addr) = some { cls:=.type "tuple",data:=.seq codeV n } := by
 refine ⟨?a, ?b, ?c, ?d, ?e, ?f⟩
 case e => with_unfolding_all rfl
 case f => with_unfolding_all rfl
section
variable {w : World} {C : Cx} {A : Around} {Γ Γ' : List (Option PV)} {led led' : Led} {s : Shared} {K : Flow -> Shared -> Prop} {rest : List Stmt}
theorem AS.tab (a : AS C Γ led s) (hm : ((173 : Addr),LO.tab) ∈ led) {h' : Heap} {k : Nat} {gs : Array GenState} {ps' : Array Value} (e : ∀ b o,b ≠ 173 -> s.heap.get? b = some o -> h'.get? b = some o) (hP' : h'.get? 173 = some (tabObj ps')) (ht' : TriplesOk ps'.toList) (x : C.X { s with heap:=h',toks:=k,gens:=gs }) :
  AS C Γ led { s with heap:=h',toks:=k,gens:=gs } := by
 refine XAEAEA (a.lg _ hm) fun h0 _ eP ps q4 _ => ?_;subst q4
 dsimp only at h0 eP
 have hM : (173 : Addr) ∈ C.M led:=List.mem_append_right _ (List.mem_map_of_mem hm)
 have sk : SK (C.M led) s.heap h' := fun b o q _ m => e b o (fun z => m (z ▸ hM)) q
 have ck : ∀ c v₀,s.heap.IsCell c v₀ -> h'.IsCell c v₀:=fun c v₀ ⟨o,q,dd⟩ => ⟨o,e c o (fun z => by rw [z,eP] at q;obtain rfl:=Option.some.inj q;exact Data.noConfusion dd) q,dd⟩
 refine X11 a.fr fun m F hF => ?_
 refine ⟨⟨m, ?_,fun i x pv h1 h2 => ?_⟩,fun b o q => e b o (fun z => by rw [z,h0] at q;exact nS q) (a.kp b o q),fun p hp => ?_,a.nd,fun x c h1 h2 => (a.ce x c h1 h2).imp fun v q => ck c v q,a.ll,x⟩
 ·refine X32 F fun o es ep q dd r => ?_
  exact ⟨o,es,ep,e _ _ (fun z => by rw [z,eP] at q;obtain rfl:=Option.some.inj q;exact Data.noConfusion dd) q,dd,r⟩
 ·refine X11 (hF i x pv h1 h2) fun v h3 h4 => ?_
  refine ⟨v, ?_,h4.keep sk fun _ _ _ q => q⟩
  refine Or.elim h3 (fun h3 => ?_) fun q1 => XAEA q1 fun h3 c h5 h6 => ?_
  ·exact .inl h3
  ·exact .inr ⟨h3,c,h5,ck c _ h6⟩
 ·by_cases hp1 : p.1 = 173
  ·have : p.2 = .tab:=key_inj a.nd (show (p.1,p.2) ∈ led from hp) (hp1 ▸ hm)
   obtain ⟨p1,p2⟩ := p
   dsimp only at hp1 this
   subst hp1 this
   exact ⟨h0,_,hP',ps',rfl,ht'⟩
  ·refine XAEA (a.lg p hp) fun h2 o h3 h4 => ?_
   exact ⟨h2,o,e _ _ hp1 h3,h4.keep sk fun _ _ _ q => q⟩
theorem Run.sub (Z : CxOk w C) (hX : ∀ s h k gs,C.X s -> (AllBare s.gens -> AllBare gs) -> C.X { s with heap:=h,toks:=k,gens:=gs }) {i : Nat} {x rn : Str} {rp ap p pos lpos cpos : Pos} {params : Arguments} {body e : Expr} {scope : Scope} {clos : List (Str × Addr)} {c : Addr} {y : Str}
  (hm : ((173 : Addr),LO.tab) ∈ led) (hr : Pure w A C Γ led (.Name rn rp) (.val (.ref 152))) (hy : Pure w A C Γ led e (.str y)) (hx : Nth C.nms i x) (hk : C.env.kindOf x = some .local) (hp : Put Γ i (.str y) Γ')
  (hdef : defaultsOf params C.env = ([], [])) (hcl : closureFor scope C.env = pure clos) (hcode : C.env.code = .ref c) (hcd : codeHdIn (hd.heap_1 w.params) c 173 = true) (y0 : 0 < y.cps.size) (y1 : y.cps.size <= 1000)
  (hfail : ((Sre.forSearch codeW y.cps 1 0 y.cps.size false).runFor Builtin.Re.reTurnSteps).outcome = some .failed)
  (he : ∃ pl : Sem Bool,eval (.Call (.Attribute (.Name rn rp) "sub" ap) [.Lambda params body scope lpos,e] [] cpos) C.env = (do
   let ov <- eval (.Name rn rp) C.env
   standAt ap.atName
   let (f,first) <- holding [ov] (getMethod ov "sub" pl)
   callWith cpos f first (backTo cpos (starEach [.Lambda params body scope lpos,e] C.env)) (backToKw cpos (keywordEach [] C.env))))
  (hst : starEach [.Lambda params body scope lpos,e] C.env = [(false,eval (.Lambda params body scope lpos) C.env),(false,eval e C.env)])
  (hs : swapsWith (.Call (.Attribute (.Name rn rp) "sub" ap) [.Lambda params body scope lpos,e] [] cpos) (some (.Name x p)) pos.line C.env = pure false)
  (r : Run w A C Γ' led rest K) : Run w A C Γ led (.Assign [.Name x p] (.Call (.Attribute (.Name rn rp) "sub" ap) [.Lambda params body scope lpos,e] [] cpos) pos :: rest) K :=
 .st fun s a => wpAny_Assign_Name (by
  refine X10 he fun pl he => ?_
  refine methodCall_KW (hr s _ _ a fun v h1 k1 r1 e1 a1 => ?_) he
  apply Rep.elV r1
  refine byG fun G kG => ?_
  refine X41 (patAt w) fun pt u v n q1 q2 => ?_
  refine kG ?_;clear kG G
  refine byG fun G kG => ?_
  refine X50 Z.T fun p' loose mean mg mb T => ?_
  refine kG ?_;clear kG G
  have g1:=a1.kp _ _ (Z.K _ _ q1)
  refine sub_getm g1 rfl rfl ?_
  refine byG fun G kG => ?_
  refine XAEAEA (a1.lg _ hm) fun h0 _ eP ps q4 ht => ?_;subst q4
  refine kG ?_;clear kG G
  refine Calls.callWith_builtin (by rw [hst];rfl) ?_
  rw [hst]
  refine Calls.evalArgs_plain (Calls.spliced_cons (lam_ext (h₀:=C.h₀) hdef hcl Z.g hcode a1.kp h0 eP T (codeHd_of_K Z.K hcd) ht fun f fo ps' h2 tk2 e2 hP2 ht2 hf2 hfc2 => ?_))
  have a2 : AS C Γ led { s with heap:=h2,toks:=tk2 } := AS.tab (gs:=s.gens) a1 hm e2 hP2 ht2 (hX _ _ _ _ a1.x id)
  refine Calls.spliced_cons (hy _ _ _ a2 fun vy h3 k3 r3 e3 a3 => Calls.spliced_nil ?_)
  (apply Rep.elS r3;intro z9)
  refine sub_call (lam:=f) (a3.kp _ _ (Z.K _ _ q1)) (a3.kp _ _ (Z.K _ _ q2)) ⟨fo,e3 _ _ hf2,hfc2⟩ y0 y1 hfail fun t' h4 k4 e4 => ?_
  have a4 : AS C Γ led { s with heap:=h4,toks:=k4 } := a3.ext Z e4
  refine a4.setL Z hx.at hk (.str _ _) fun h5 k5 _ a5 => r _ ?_
  rw [hp.set];exact a5) hs
theorem Run.genJoin (Z : CxOk w C) (hA : Around.ok A 1) (hX : ∀ s h k gs,C.X s -> (AllBare s.gens -> AllBare gs) -> C.X { s with heap:=h,toks:=k,gens:=gs }) {i j : Nat} {x y cn : Str} {sep : Str} {k0 : Nat} {sp ap p pos cpos gpos yp cnp : Pos} {elt : Expr} {scope : Scope} {clos : List (Str × Addr)} {c l : Addr} {ts : List Str} {φ : Str -> Str}
  (hm : ((173 : Addr),LO.tab) ∈ led) {tl : List PV} (hl : (l,LO.list tl) ∈ led) (htl : tl = ts.map .str) (hcn : Nth C.nms j cn) (hv : Nth Γ j (some (.val (.ref l)))) (hx : Nth C.nms i x) (hk : C.env.kindOf x = some .local) {yv : Str} (hyv : Txt.join sep (ts.map φ) = yv) (hp : Put Γ i (.str yv) Γ')
  (hco : scope.isCoroutine = false) (hcl : closureFor scope C.env = pure clos) (hcell : ∀ y ∈ scope.names,y.2 ≠ .cell) (hz : scope.names.lookup (".0" : Str) = some NameKind.local) (hy : scope.names.lookup y = some .local) (hkind : scope.kind = .function)
  (hcode : C.env.code = .ref c) (hcd : codeHdIn (hd.heap_1 w.params) c 173 = true)
  (hel : ∀ (A' : Around) E' (Cn : Addr) (code : Value) (bi : Addr) z t (s₂ : Shared) m₂,z ∈ ts -> A'.handled = none -> s₂.heap.Ns Cn m₂ -> m₂ y = some (.str z t) -> wpAny (model vw w) A' (eval elt (genEnv scope clos Cn code bi C.env)) (fun v s₃ => (∃ u,v = .str (φ z) u) /\ Keeps s₂ s₃) E' s₂)
  (hok : JoinOk sep (ts.map φ) = true) (hsz : ts.length <= 1000) (hgf : ∀ x,genFold (.Name cn cnp) C.env x = pure x)
  (he : ∃ pl : Sem Bool,eval (.Call (.Attribute (.Constant (.str sep) k0 sp) "join" ap) [.GeneratorExp elt [⟨.Name y yp, .Name cn cnp, [],0⟩] scope gpos] [] cpos) C.env = (do
   let ov <- eval (.Constant (.str sep) k0 sp) C.env
   standAt ap.atName
   let (f,first) <- holding [ov] (getMethod ov "join" pl)
   callWith cpos f first (backTo cpos (starEach [.GeneratorExp elt [⟨.Name y yp, .Name cn cnp, [],0⟩] scope gpos] C.env)) (backToKw cpos (keywordEach [] C.env))))
  (hst : starEach [.GeneratorExp elt [⟨.Name y yp, .Name cn cnp, [],0⟩] scope gpos] C.env = [(false,eval (.GeneratorExp elt [⟨.Name y yp, .Name cn cnp, [],0⟩] scope gpos) C.env)])
  (hs : swapsWith (.Call (.Attribute (.Constant (.str sep) k0 sp) "join" ap) [.GeneratorExp elt [⟨.Name y yp, .Name cn cnp, [],0⟩] scope gpos] [] cpos) (some (.Name x p)) pos.line C.env = pure false)
  (r : Run w A C Γ' led rest K) : Run w A C Γ led (.Assign [.Name x p] (.Call (.Attribute (.Constant (.str sep) k0 sp) "join" ap) [.GeneratorExp elt [⟨.Name y yp, .Name cn cnp, [],0⟩] scope gpos] [] cpos) pos :: rest) K :=
 .st fun s a => wpAny_Assign_Name (by
  subst htl hyv
  refine X10 he fun pl he => ?_
  refine methodCall_KW (wpAny_Constant_str (GM.join ?_)) he
  refine Calls.callWith_builtin (by rw [hst];rfl) ?_
  rw [hst]
  have a0 : AS C Γ led { s with toks:=s.toks + 1 } := a.tok Z
  refine byG fun G kG => ?_
  refine X50 Z.T fun p' loose mean mg mb T => ?_
  refine kG ?_;clear kG G
  refine byG fun G kG => ?_
  refine XAEAEA (a0.lg _ hm) fun h0 _ eP ps q4 ht => ?_;subst q4
  refine kG ?_;clear kG G
  refine X21 (a0.rep hl) fun vs n el rs => ?_
  refine Calls.evalArgs_plain (Calls.spliced_cons (gen_ext (h₀:=C.h₀) (x:=y) (l:=l) (items:=vs) (n:=n) (ts:=ts) (φ:=φ) hA.1 hco hcl hcell hz hy hkind (by have:=hA.2.1;lia) Z.g hcode a0.kp h0 eP T (codeHd_of_K Z.K hcd) ht el rs.strs (fun z => by rw [z,eP] at el;cases el) (fun Q' hq => ?_) hel (fun ag h1 tk1 gs1 ps1 e1 hP1 ht1 hb1 J => ?_) hgf))
  ·refine wpAny_Name (a0.load Z hcn.at hv.at fun v r => ?_) (Z.dbg cn (List.mem_of_getElem? hcn.at))
   apply Rep.elV r;exact hq
  ·refine Calls.spliced_nil (join_ext J hok (by rw [List.length_map,sizeLine_eq];lia) fun h2 tk2 gs2 t2 e2 hg2 => ?_)
   have e3 : ∀ b o,b ≠ 173 -> s.heap.get? b = some o -> h2.get? b = some o:=fun b o hb e => e2 b o (Heap.lt_size e) (e1 b o hb e)
   have a2 : AS C Γ led { s with heap:=h2,toks:=tk2,gens:=gs2 } := AS.tab a hm e3 (e2 _ _ (Heap.lt_size eP) hP1) ht1 (hX _ _ _ _ a.x fun hb => hg2 (hb.push hb1))
   refine a2.setL Z hx.at hk (.str _ _) fun h5 k5 _ a5 => r _ ?_
   rw [hp.set];exact a5) hs
end
section
variable {w : World} {C : Cx} {A : Around} {Γ Γ' : List (Option PV)} {led led' : Led} {s : Shared} {K : Flow -> Shared -> Prop} {rest : List Stmt}
theorem Test.andT {x y : Expr} {pos : Pos} (h1 : Test w A C Γ led x true) (h2 : Test w A C Γ led y true) : Test w A C Γ led (.BoolOp .And [x,y] pos) true:=Test.and (a:=true) (b:=true) h1 fun z9 => h2
theorem Test.andF {x y : Expr} {pos : Pos} (h1 : Test w A C Γ led x true) (h2 : Test w A C Γ led y false) : Test w A C Γ led (.BoolOp .And [x,y] pos) false:=Test.and (a:=true) (b:=false) h1 fun z9 => h2
theorem Test.andN {x y : Expr} {pos : Pos} (h1 : Test w A C Γ led x false) : Test w A C Γ led (.BoolOp .And [x,y] pos) false:=Test.and (a:=false) (b:=true) h1 fun h => nomatch h
theorem Test.orR {x y : Expr} {pos : Pos} {b : Bool} (h1 : Test w A C Γ led x false) (h2 : Test w A C Γ led y b) : Test w A C Γ led (.BoolOp .Or [x,y] pos) b:=Test.or (a:=false) (b:=b) h1 fun z9 => h2
theorem Test.notF {x : Expr} {pos : Pos} (h : Test w A C Γ led x true) : Test w A C Γ led (.UnaryOp .Not x pos) false:=Test.not h
theorem Run.ifT {t : Expr} {x y : List Stmt} {pos : Pos} (h : Test w A C Γ led t true) (r : Run w A C Γ led x (Then w A C rest K)) : Run w A C Γ led (.If t x y pos :: rest) K:=Run.if_ h (fun z9 => r) fun h => nomatch h
theorem Run.ifF {t : Expr} {x y : List Stmt} {pos : Pos} (h : Test w A C Γ led t false) (r : Run w A C Γ led y (Then w A C rest K)) : Run w A C Γ led (.If t x y pos :: rest) K:=Run.if_ h (fun h => nomatch h) fun z9 => r
noncomputable def WT (w : World) (A : Around) (C : Cx) (t : Expr) (x rest : List Stmt) (K : Flow -> Shared -> Prop) : Nat -> List (Option PV) -> Led -> Prop
 | 0,_,_ => False
 | n + 1,Γ,led => ∃ b,Test w A C Γ led t b /\ (b = true -> Run w A C Γ led x (fun f s => match f with
   | .next | .cont => ∃ Γ led,WT w A C t x rest K n Γ led /\ AS C Γ led s
   | .brk => wpAny (model vw w) A (execs rest C.env) K (fun _ _ => False) s
   | .ret v => K (.ret v) s)) /\ (b = false -> Run w A C Γ led rest K)
noncomputable def TurnU (w : World) (A : Around) (C : Cx) (t : Expr) (x rest : List Stmt) (K : Flow -> Shared -> Prop) (n : Nat) : Flow -> Shared -> Prop:=fun f s => match f with
 | .next | .cont => ∃ Γ led,WT w A C t x rest K n Γ led /\ AS C Γ led s
 | .brk => wpAny (model vw w) A (execs rest C.env) K (fun _ _ => False) s
 | .ret v => K (.ret v) s
theorem Run.whileU (k : Nat) {t : Expr} {x : List Stmt} {pos : Pos} (h : WT w A C t x rest K k Γ led) : Run w A C Γ led (.While t x [] pos :: rest) K :=
 Run.while_ (WT w A C t x rest K) k h fun n Γ₁ led₁ hJ => by
  cases n with
  | zero => exact hJ.elim
  | succ n =>
   refine X12 hJ fun b h1 h2 h3 => ?_
   refine ⟨b,h1,fun hb s a => wpAny_mono (h2 hb s a) (fun f s' h => ?_) fun _ _ e => e,h3⟩
   cases f with
   | next => refine X21 h fun Γ led q a => ?_;exact ⟨n,Γ,led,Nat.lt_succ_self _,q,a⟩
   | cont => refine X21 h fun Γ led q a => ?_;exact ⟨n,Γ,led,Nat.lt_succ_self _,q,a⟩
   | brk => exact h
   | ret v => exact h
theorem WT.yes {t : Expr} {x : List Stmt} {n : Nat} (h : Test w A C Γ led t true) (r : Run w A C Γ led x (TurnU w A C t x rest K n)) : WT w A C t x rest K (n + 1) Γ led:=⟨true,h,(fun z9 => r),fun h => nomatch h⟩
theorem WT.no {t : Expr} {x : List Stmt} {n : Nat} (h : Test w A C Γ led t false) (r : Run w A C Γ led rest K) : WT w A C t x rest K (n + 1) Γ led:=⟨false,h,(fun h => nomatch h),fun z9 => r⟩
theorem Run.again {t : Expr} {x : List Stmt} {n : Nat} (h : WT w A C t x rest K n Γ led) : Run w A C Γ led [] (TurnU w A C t x rest K n):=Run.fin fun s a => ⟨Γ,led,h,a⟩
theorem Run.forget {b : Addr} {lo : LO} {bs : List Stmt} (D : Drop led b lo led') (r : Run w A C Γ led' bs K) : Run w A C Γ led bs K:=fun s a => r s (by
 have g : ∀ x o,s.heap.get? x = some o -> x ∉ C.M led -> x ∉ C.M led' := fun x o _ m z => by
  refine Or.elim (List.mem_append.mp z) (fun z => ?_) fun z => ?_
  ·exact m (List.mem_append_left _ z)
  ·refine X11 (List.mem_map.mp z) fun p hp e => ?_
   exact m (List.mem_append_right _ (List.mem_map.mpr ⟨p,D.sub p hp,e⟩))
 refine X11 a.fr fun m F hm => ?_
 refine ⟨⟨m,F,fun j x pv h1 h2 => ?_⟩,a.kp,fun p hp => ?_,(D.nd a.nd).1,a.ce,fun p hp => a.ll p (D.sub p hp),a.x⟩
 ·refine X11 (hm j x pv h1 h2) fun v h3 h4 => ?_
  exact ⟨v,h3,h4.keep (Ext.sk noExt) g⟩
 ·refine XAEA (a.lg p (D.sub p hp)) fun h2 o h3 h4 => ?_
  exact ⟨h2,o,h3,h4.keep (Ext.sk noExt) g⟩)
/- a text of which a part is known -/
theorem Pure.itemP (Z : CxOk w C) {e i : Expr} {pos : Pos} {pat : Str} {f d : Nat} {fr br : List Nat} {k : Int} {c : Nat} (h1 : Pure w A C Γ led e (.str pat)) (h2 : Pure w A C Γ led i (.int k)) (h : PatIs pat f fr br) (o : Off f k d) (hd : d < br.length) (hc : br.getD d 0 = c)
  (hs : ∀ t u,subscripted i false (.str pat t) (.int k u) = operate [.str pat t, .int k u] (getItem (.str pat t) (.int k u))) (ht : ∀ t r,letTemporaryGo e (.str pat t) r = pure ()) : Pure w A C Γ led (.Subscript e i pos) (.str ⟨#[c]⟩):=by
 have hl:=h.length
 have ho:=o.eq
 have hsm:=h.small
 rw [List.length_append,h.len] at hsm
 refine Pure.itemS Z h1 h2 (by lia) (by lia) (by lia) ?_ hs ht
 have:=h.item o hd
 rw [hc] at this
 have e : (⟨#[(Txt.charAt pat k).getD 0]⟩ : Str) = ⟨#[c]⟩ := this
 simpa using e
theorem Pure.sliceP (Z : CxOk w C) {e i j : Expr} {p pos : Pos} {pat : Str} {f a b : Nat} {fr br : List Nat} {k l : Int} {y : Str} (h1 : Pure w A C Γ led e (.str pat)) (h2 : Pure w A C Γ led i (.int k)) (h3 : Pure w A C Γ led j (.int l)) (h : PatIs pat f fr br) (oi : Off f k a) (oj : Off f l b) (hab : a <= b) (hb : b <= br.length) (hy : mkS ((br.drop a).take (b - a)) = y)
  (ht : ∀ o r,letTemporaryGo e o r = pure ()) : Pure w A C Γ led (.Subscript e (.Slice (some i) (some j) none p) pos) (.str y):=by
 have hl:=h.length
 have hsm:=h.small
 rw [List.length_append,h.len] at hsm
 exact Pure.sliceS Z (i:=some k) (j:=some l) h1 h2 h3 (by rw [sizeLine_eq];lia) ((h.slice oi oj hab hb).trans hy) ht
theorem gFindS {pat : Str} {f a b n : Nat} {fr br : List Nat} {k l : Int} (h : PatIs pat f fr br) (oi : Off f k a) (oj : Off f l b) (hb : b <= br.length) (he : (Builtin.Str.occurrences (mkS br) (Str.ofString "-") a b 1).head? = some n) :
  Gm w A (.builtin "str.find") (.str pat) [.str (Str.ofString "-"), .int k, .int l] (.int ((f : Int) + n)):=fun M s Q E v vs hM rv ra q => by
 (apply Rep.elS rv;intro z9)
 apply Reps.elC ra;intro _ _ r1 t
 apply Reps.elC t;intro _ _ r2 t
 apply Reps.elC t;intro _ _ r3 t
 apply Reps.elN t;(apply Rep.elS r1;intro z9);(apply Rep.elI r2;intro z9);(apply Rep.elI r3;intro z9)
 exact find_pat h oi oj hb he fun t' => q _ s.heap _ (.int _ _) noExt
theorem gFindN {pat : Str} {f a b : Nat} {fr br : List Nat} {k l : Int} (h : PatIs pat f fr br) (oi : Off f k a) (oj : Off f l b) (hb : b <= br.length) (he : (Builtin.Str.occurrences (mkS br) (Str.ofString "-") a b 1).head? = none) :
  Gm w A (.builtin "str.find") (.str pat) [.str (Str.ofString "-"), .int k, .int l] (.int (-1)):=fun M s Q E v vs hM rv ra q => by
 (apply Rep.elS rv;intro z9)
 apply Reps.elC ra;intro _ _ r1 t
 apply Reps.elC t;intro _ _ r2 t
 apply Reps.elC t;intro _ _ r3 t
 apply Reps.elN t;(apply Rep.elS r1;intro z9);(apply Rep.elI r2;intro z9);(apply Rep.elI r3;intro z9)
 exact find_pat h oi oj hb he fun t' => q _ s.heap _ (.int _ _) noExt
theorem mFind {x : Str} : Mt w A (.str x) "find" (.builtin "str.find"):=mStr fun s t pl Q E q => by with_reducible exact GM.find q
theorem mRepl {x : Str} : Mt w A (.str x) "replace" (.builtin "str.replace"):=mStr fun s t pl Q E q => by with_reducible exact GM.replace q
theorem gRepl0 {x y z : Str} (he : (Builtin.Str.occurrences x y 0 x.length (x.length + 1)).isEmpty = true) : Gm w A (.builtin "str.replace") (.str x) [.str y, .str z] (.str x):=fun M s Q E v vs hM rv ra q => by
 (apply Rep.elS rv;intro z9)
 apply Reps.elC ra;intro _ _ r1 t
 apply Reps.elC t;intro _ _ r2 t
 apply Reps.elN t;(apply Rep.elS r1;intro z9);(apply Rep.elS r2;intro z9);exact replace_none he (q _ s.heap s.toks (.str _ _) noExt)
theorem oNotInS {x y : Str} {b : Bool} (h : (Builtin.Str.occurrences x y 0 x.length 1).isEmpty = b) : Op2 w A (compareOp .NotIn) (.str y) (.str x) (.bool b):=fun M s Q E va vb _ ra rb q => by
 (apply Rep.elS ra;intro z9);(apply Rep.elS rb;intro z9);exact notinS h (q _ s.heap s.toks (.bool _) noExt)
theorem truthyS {x : Str} (M : List Addr) (s : Shared) (Q : Bool -> Shared -> Prop) (E : Value -> Shared -> Prop) (v : Value) (r : Rep s.heap M (.str x) v) (hx : x.length <= 1000) (q : ∀ k,Q ((x.length : Int) != 0) { s with toks:=k }) : wpAny (model vw w) A (truthy v) Q E s:=by
 (apply Rep.elS r;intro z9);exact P.truthy_str (by lia) (q _)
theorem Test.str (Z : CxOk w C) {e : Expr} {x : Str} {b : Bool} (h1 : Pure w A C Γ led e (.str x)) (hx : x.length <= 1000) (hb : ((x.length : Int) != 0) = b) (he : ∀ whole : Sem Value,isTrue e C.env whole = (do let v <- whole;standAt e.pos;holding [v] (truthy v))) : Test w A C Γ led e b:=fun s Q E as h =>
 isTrue_plain (h1 s _ E as fun v hv k r e a => truthyS _ _ _ _ v r hx fun k2 => by rw [hb];exact h hv k2 e (a.tok Z)) (he _)
theorem Src.range3 (Z : CxOk w C) (hh : A.handled = none) {x : Str} {np pos : Pos} {es : List Expr} {a b c : Int} {n : Nat} (hf : Pure w A C Γ led (.Name x np) (.val (.type "range"))) (ha : Args w A C Γ led es [.int a, .int b, .int c]) (hc : c ≠ 0) (hsm : Builtin.Range.small a b c = true) (hn : Builtin.Range.rangeSize a b c = (n : Int))
  (hp : Builtin.divisionGoesByPylong (b - a) c = false) : Src w A C Γ led (.Call (.Name x np) es [] pos) n (fun i => .int (a + (i : Int) * c)):=fun s Q E as h =>
 wpAny_Call_NameR (hf s _ E as fun v h1 k1 r1 e1 a1 => by
  apply Rep.elV r1
  refine callWX Z (.inr (.inl ⟨_,rfl⟩)) ha a1 fun vs h2 k2 rs e2 a2 => ?_
  apply Reps.elC rs;intro _ _ r1 t
  apply Reps.elC t;intro _ _ r2 t
  apply Reps.elC t;intro _ _ r3 t
  apply Reps.elN t;(apply Rep.elI r1;intro z9);(apply Rep.elI r2;intro z9);(apply Rep.elI r3;intro z9)
  refine call_range_3 hc ?_ (.inl hp)
  refine h _ _ _ _ [] (a2.ext Z fun b o e => Heap.get?_push_of_some _ e) (fun b o e => Heap.get?_push_of_some _ (e2 b o (e1 b o e))) (Iter.range hh (Heap.get?_push_size _ rfl) hsm n hn) (fun i v q => ?_) (fun b hb => nomatch hb)
  obtain ⟨t,rfl⟩ := q
  exact .int _ _)
theorem Pure.iteT (Z : CxOk w C) {t x y : Expr} {pos : Pos} {p : PV} (h : Test w A C Γ led t true) (h1 : Pure w A C Γ led x p) : Pure w A C Γ led (.IfExp t x y pos) p:=Pure.ite Z h (fun z9 => h1) fun h => nomatch h
theorem Pure.iteF (Z : CxOk w C) {t x y : Expr} {pos : Pos} {p : PV} (h : Test w A C Γ led t false) (h1 : Pure w A C Γ led y p) : Pure w A C Γ led (.IfExp t x y pos) p:=Pure.ite Z h (fun h => nomatch h) fun z9 => h1
theorem Pure.neg (Z : CxOk w C) {x : Expr} {pos : Pos} {a : Int} (h : Pure w A C Γ led x (.int a)) : Pure w A C Γ led (.UnaryOp .USub x pos) (.int (-a)):=fun s Q E as q =>
 wpAny_UnaryOp (h s _ E as fun v h1 k1 r1 e1 a1 => by (apply Rep.elI r1;intro z9);exact neg_int (q _ _ _ (.int _ _) e1 (a1.tok Z)))
theorem Pure.lenO (Z : CxOk w C) {x : Str} {np pos : Pos} {e : Expr} {b : Addr} {l : List PV} (hf : Pure w A C Γ led (.Name x np) (.val (.builtin "len"))) (he : Args w A C Γ led [e] [.val (.ref b)]) (hm : (b, .list l) ∈ led) (hl : l.length <= 1000) : Pure w A C Γ led (.Call (.Name x np) [e] [] pos) (.int l.length):=fun s Q E as h =>
 wpAny_Call_NameR (hf s _ E as fun v h1 k1 r1 e1 a1 => by
  apply Rep.elV r1
  refine callWX Z (.inl ⟨_,rfl⟩) he a1 fun vs h2 k2 rs e2 a2 => ?_
  apply Reps.elC rs;intro _ _ r1 t
  apply Reps.elN t;apply Rep.elV r1
  refine X21 (a2.rep hm) fun vs n e rs => ?_
  have hz:=rs.length
  rw [Array.length_toList] at hz
  refine PyProof.Rows.len_list (items:=vs) ⟨_,e,rfl,_,rfl⟩ (by lia) ?_
  rw [hz]
  exact h _ h2 _ (.int _ _) (e1.trans e2) (a2.tok Z))
theorem Test.true (k : Nat) {pos : Pos} : Test w A C Γ led (.Constant (.bool .true) k pos) .true:=Test.of Pure.bool truthyB
noncomputable def FT (w : World) (A : Around) (C : Cx) (target : Expr) (body rest : List Stmt) (K : Flow -> Shared -> Prop) (P : Nat -> PV) : Nat -> Nat -> List (Option PV) -> Led -> Prop
 | 0,_,Γ,led => Run w A C Γ led rest K
 | k + 1,i,Γ,led => ∀ g,CxOk w (C.at g) -> Ext C.h₀ g -> ∃ Γ₂,Asg w A (C.at g) target Γ led (P i) Γ₂ /\ Run w A (C.at g) Γ₂ led body (TurnF w A C g rest K (FT w A C target body rest K P k (i + 1)))
theorem Run.forU {target e : Expr} {body : List Stmt} {pos : Pos} {n : Nat} {P : Nat -> PV} (Z : CxOk w C) (hs : Src w A C Γ led e n P) (hf : ∀ x,foldedSetIterable e C.env x = pure x) (h : FT w A C target body rest K P n 0 Γ led) : Run w A C Γ led (.For target e body [] pos :: rest) K :=
 Run.for_ Z hs (fun i Γ led => i <= n /\ FT w A C target body rest K P (n - i) i Γ led) ⟨Nat.zero_le _,h⟩ hf (fun i Γ₁ led₁ g hi hJ Zg ex => by
  obtain ⟨_,hJ⟩ := hJ
  rw [show n - i = (n - (i + 1)) + 1 by lia] at hJ
  refine X11 (hJ g Zg ex) fun Γ₂ hA hR => ?_
  refine ⟨Γ₂,hA,fun s a => wpAny_mono (hR s a) (fun f s' h => ?_) fun _ _ e => e⟩
  cases f with
  | next => refine X21 h fun Γ led q a => ?_;exact ⟨Γ,led,⟨hi,q⟩,a⟩
  | cont => refine X21 h fun Γ led q a => ?_;exact ⟨Γ,led,⟨hi,q⟩,a⟩
  | brk => exact h
  | ret v => exact h) fun Γ₁ led₁ hJ => by
   refine Y2 hJ fun _ hJ => ?_
   rw [Nat.sub_self] at hJ
   exact hJ
theorem FT.go {target : Expr} {body : List Stmt} {P : Nat -> PV} {k i : Nat} {Γ₂ : List (Option PV)} (hA : ∀ g,CxOk w (C.at g) -> Asg w A (C.at g) target Γ led (P i) Γ₂) (h : ∀ g,CxOk w (C.at g) -> Run w A (C.at g) Γ₂ led body (TurnF w A C g rest K (FT w A C target body rest K P k (i + 1)))) : FT w A C target body rest K P (k + 1) i Γ led :=
 fun g Zg _ => ⟨Γ₂,hA g Zg,h g Zg⟩
theorem FT.fin {target : Expr} {body : List Stmt} {P : Nat -> PV} {i : Nat} (h : Run w A C Γ led rest K) : FT w A C target body rest K P 0 i Γ led:=h
end
section
variable {w : World} {C : Cx} {A : Around} {Γ Γ' : List (Option PV)} {led led' : Led} {s : Shared} {K : Flow -> Shared -> Prop} {rest : List Stmt}
noncomputable def JoinIf (C : Cx) (J : List (Option PV) -> Led -> Prop) : Flow -> Shared -> Prop:=fun f s => match f with
 | .next => ∃ Γ led,J Γ led /\ AS C Γ led s
 | _ => False
theorem Run.ifJ (J : List (Option PV) -> Led -> Prop) {t : Expr} {x y : List Stmt} {pos : Pos} {b : Bool} (h : Test w A C Γ led t b) (h1 : b = true -> Run w A C Γ led x (JoinIf C J)) (h2 : b = false -> Run w A C Γ led y (JoinIf C J)) (r : ∀ Γ led,J Γ led -> Run w A C Γ led rest K) : Run w A C Γ led (.If t x y pos :: rest) K:=by
 have g : ∀ l,Run w A C Γ led l (JoinIf C J) -> Run w A C Γ led l (Then w A C rest K):=fun l h s a => wpAny_mono (h s a) (fun f s' h => by
  cases f with
  | next => refine X21 h fun Γ led q a => ?_;exact r Γ led q _ a
  | cont => exact h.elim
  | brk => exact h.elim
  | ret v => exact h.elim) fun _ _ e => e
 exact Run.if_ h (fun e => g _ (h1 e)) fun e => g _ (h2 e)
theorem Run.finJ {J : List (Option PV) -> Led -> Prop} (h : J Γ led) : Run w A C Γ led [] (JoinIf C J):=Run.fin fun s a => ⟨Γ,led,h,a⟩
theorem oInTup {y : Str} {ts : List Str} {b : Bool} (hb : (ts.any (· == y)) = b) : Op2 w A (compareOp .In) (.str y) (.tup (ts.map .str)) (.bool b):=fun M s Q E va vb _ ra rb q => by
 subst hb
 apply Rep.elS ra;intro t
 apply Rep.elT rb;intro _ _ _ e m r
 exact in_tuple_strs ⟨_,e,rfl,_,rfl⟩ r.strs (q _ s.heap s.toks (.bool _) noExt)
theorem oInTup2 {y a b : Str} {r : Bool} (hb : ([a,b].any (· == y)) = r) : Op2 w A (compareOp .In) (.str y) (.tup [.str a, .str b]) (.bool r):=oInTup (ts := [a,b]) hb
theorem replace_some {x y z r : Str} {t u v : Tok} {A : Around} {E : Value -> Shared -> Prop} {Q : Value -> Shared -> Prop} (hu : u ≠ 0) (hv : v ≠ 0) (huv : u ≠ v) (he : (Builtin.Str.occurrences x y 0 x.length (x.length + 1)).isEmpty = false) (hy : (y.length == 0) = false) (hyz : (y == z) = false)
  (hl : Builtin.Str.tooLong (x.length + (Builtin.Str.occurrences x y 0 x.length (x.length + 1)).length * z.length) = false) (hr : Builtin.Str.glued z (Builtin.Str.partsBetween x (Builtin.Str.occurrences x y 0 x.length (x.length + 1)) y.length) = r) (hrl : r.length <= sizeLine)
  (hq : ∀ t' k,Q (.str r t') { s with toks:=k }) : wpAny (model vw w) A (call (.builtin "str.replace") [.str x t, .str y u, .str z v]) Q E s:=by
 have e : ((Builtin.Str.occurrences x y 0 x.length (x.length + 1)).isEmpty || (y.length == 0 && z.length == 0)) = false:=by rw [he,hy];rfl
 refine call_gives F.slot_str_replace (typeIs_str _ _ _) F.entry_str_replace (F.args_str_replace_3 _ _ _) (gives_str_replace x y z t u v fun z9 => ⟨by simp [hu,hv],by simpa using huv,hyz,hl⟩) ?_
 rw [if_neg (by rw [e];exact Bool.false_ne_true),hr]
 exact ⟨hrl,hq _ _⟩
noncomputable def esc2 (z : Str) : Str:=if z = mkS [45,95] then Str.ofString "\\-_" else z
noncomputable def okZ (z : Str) : Bool:=(Builtin.Str.occurrences z (Str.ofString "\\") 0 z.length (z.length + 1)).isEmpty && (z == mkS [45,95] || (Builtin.Str.occurrences z (Str.ofString "-") 0 z.length (z.length + 1)).isEmpty && z != mkS [45,95])
theorem el_rep {env : Env} {x z : Str} {t : Tok} {m : Str -> Option Value} {a1 a2 p1 p2 p3 p4 p5 p6 px : Pos} {k1 k2 k3 k4 : Nat} {E : Value -> Shared -> Prop} (hk : env.scope.kind = .function) (hx : env.kindOf x = some .local) (hd : (x == ("__debug__" : Str)) = false) (hns : s.heap.Ns env.locals m) (hv : m x = some (.str z t)) (hz : okZ z = true)
  (he1 : ∃ pl : Sem Bool,eval (.Call (.Attribute (.Name x px) "replace" a1) [.Constant (.str (Str.ofString "\\")) k1 p1, .Constant (.str (Str.ofString "\\\\")) k2 p2] [] p3) env = (do
   let ov <- eval (.Name x px) env
   standAt a1.atName
   let (f,first) <- holding [ov] (getMethod ov "replace" pl)
   callWith p3 f first (backTo p3 (starEach [.Constant (.str (Str.ofString "\\")) k1 p1, .Constant (.str (Str.ofString "\\\\")) k2 p2] env)) (backToKw p3 (keywordEach [] env))))
  (he2 : ∃ pl : Sem Bool,eval (.Call (.Attribute (.Call (.Attribute (.Name x px) "replace" a1) [.Constant (.str (Str.ofString "\\")) k1 p1, .Constant (.str (Str.ofString "\\\\")) k2 p2] [] p3) "replace" a2) [.Constant (.str (Str.ofString "-")) k3 p4, .Constant (.str (Str.ofString "\\-")) k4 p5] [] p6) env = (do
   let ov <- eval (.Call (.Attribute (.Name x px) "replace" a1) [.Constant (.str (Str.ofString "\\")) k1 p1, .Constant (.str (Str.ofString "\\\\")) k2 p2] [] p3) env
   standAt a2.atName
   let (f,first) <- holding [ov] (getMethod ov "replace" pl)
   callWith p6 f first (backTo p6 (starEach [.Constant (.str (Str.ofString "-")) k3 p4, .Constant (.str (Str.ofString "\\-")) k4 p5] env)) (backToKw p6 (keywordEach [] env)))) :
  wpAny (model vw w) A (eval (.Call (.Attribute (.Call (.Attribute (.Name x px) "replace" a1) [.Constant (.str (Str.ofString "\\")) k1 p1, .Constant (.str (Str.ofString "\\\\")) k2 p2] [] p3) "replace" a2) [.Constant (.str (Str.ofString "-")) k3 p4, .Constant (.str (Str.ofString "\\-")) k4 p5] [] p6) env)
   (fun v s₃ => (∃ u,v = .str (esc2 z) u) /\ Keeps s s₃) E s:=by
 refine X10 he2 fun pl2 he2 => ?_
 obtain ⟨pl1,he1⟩ := he1
 simp only [okZ,Bool.and_eq_true,Bool.or_eq_true,beq_iff_eq,bne_iff_ne] at hz
 have st : ∀ (y y' : Str) k k' p q,starEach [.Constant (.str y) k p, .Constant (.str y') k' q] env = [(false,eval (.Constant (.str y) k p) env),(false,eval (.Constant (.str y') k' q) env)]:=fun z9 z9 z9 z9 z9 z9 => rfl
 refine methodCall_KW (methodCall_KW (wpAny_Name (wpAny_loadName_local hk hx hns hv ?_) hd) he1) he2
 with_reducible refine GM.replace ?_
 refine Calls.callWith_builtin (by rw [st];rfl) ?_
 rw [st]
 refine Calls.evalArgs_plain (Calls.spliced_cons (wpAny_Constant_str (k:=k1) (pos:=p1) (Calls.spliced_cons (wpAny_Constant_str (k:=k2) (pos:=p2) (Calls.spliced_nil ?_)))))
 refine replace_none hz.1 ?_
 with_reducible refine GM.replace ?_
 refine Calls.callWith_builtin (by rw [st];rfl) ?_
 rw [st]
 refine Calls.evalArgs_plain (Calls.spliced_cons (wpAny_Constant_str (k:=k3) (pos:=p4) (Calls.spliced_cons (wpAny_Constant_str (k:=k4) (pos:=p5) (Calls.spliced_nil ?_)))))
 refine Or.elim hz.2 (fun h => ?_) fun q1 => Y2 q1 fun h h' => ?_
 ·subst h
  refine replace_some (r:=Str.ofString "\\-_") (Nat.succ_ne_zero _) (Nat.succ_ne_zero _) (Nat.ne_of_lt (Nat.lt_succ_self _)) (by decide +kernel) (by decide +kernel) (by decide +kernel) (by decide +kernel) (by decide +kernel) (by rw [sizeLine_eq];decide) fun t' k => ⟨⟨t',by rw [esc2,if_pos rfl]⟩, ?_⟩
  exact ⟨_,_,rfl,fun b o e => e⟩
 ·refine replace_none h ⟨⟨t,by rw [esc2,if_neg h']⟩, ?_⟩
  exact ⟨_,_,rfl,fun b o e => e⟩
theorem Run.brkTW {J : Nat -> List (Option PV) -> Led -> Prop} {n : Nat} {r1 r2 : List Stmt} {pos : Pos} (r : Run w A C Γ led rest K) : Run w A C Γ led (.Break pos :: r1) (Then w A C r2 (TurnW w A C rest K J n)):=Run.brk fun s a => r s a
theorem Pure.lastO (Z : CxOk w C) {e i : Expr} {pos : Pos} {b : Addr} {l : List PV} {p : PV} (h1 : Pure w A C Γ led e (.val (.ref b))) (hm : (b, .list l) ∈ led) (h2 : Pure w A C Γ led i (.int (-1))) (h0 : 1 <= l.length) (hk : l[l.length - 1]? = some p)
  (hs : ∀ b u,subscripted i false (.ref b) (.int (-1) u) = operate [.ref b, .int (-1) u] (getItem (.ref b) (.int (-1) u))) : Pure w A C Γ led (.Subscript e i pos) p:=fun s Q E a q =>
 Subscript_ (h1 s _ E a fun va ha ka ra ea aa => h2 _ _ E aa fun vb hb kb rb eb ab => by
  (apply Rep.elI rb;intro z9);apply Rep.elV ra
  refine X21 (ab.rep hm) fun vs n e rs => ?_
  refine X11 (rs.at hk) fun v hv rv => ?_
  have hz:=rs.length
  rw [Array.length_toList] at hz
  have hl : hb.IsList b vs:=⟨_,e,rfl,_,rfl⟩
  exact tail_any hl.typeIs slot_list_getitem.lookup (wpAny_getItem_list_neg hl (by decide) (by lia) (by decide) (by
   rw [show ((-1 : Int) + (vs.size : Int)).toNat = l.length - 1 by lia, <- Array.getElem?_toList];exact hv) (q v hb kb rv (ea.trans eb) ab)) (hs _ _))
theorem Test.lst (Z : CxOk w C) {e : Expr} {b : Addr} {l : List PV} {r : Bool} (h1 : Pure w A C Γ led e (.val (.ref b))) (hm : (b, .list l) ∈ led) (hl : l.length <= 1000) (hb : (!l.isEmpty) = r) (he : ∀ whole : Sem Value,isTrue e C.env whole = (do let v <- whole;standAt e.pos;holding [v] (truthy v))) : Test w A C Γ led e r:=fun s Q E as h =>
 isTrue_plain (h1 s _ E as fun v hv k r e a => by
  apply Rep.elV r
  clear r
  refine X21 (a.rep hm) fun vs n e1 rs => ?_
  have hz:=rs.length
  rw [Array.length_toList] at hz
  refine wpAny_truthy_list ⟨_,e1,rfl,_,rfl⟩ (by lia) ?_
  have : (!vs.isEmpty) = r:=by
   rw [<- hb];congr 1
   rw [Bool.eq_iff_iff,Array.isEmpty_iff_size_eq_zero,List.isEmpty_iff_length_eq_zero,hz]
  rw [this]
  exact h hv _ e (a.tok Z)) (he _)
end
structure Gr (T : List Addr) (s s' : Shared) : Prop where
 ext : ∀ b o,b ∉ T -> s.heap.get? b = some o -> s'.heap.get? b = some o
 gens : T = [] -> s'.gens = s.gens
 drawn : T = [] -> s'.drawn = s.drawn
 os : s'.os = s.os
theorem Gr.step {T : List Addr} {s₁ s : Shared} (g : Gr T s₁ s) {h : Heap} {k : Nat} (e : ∀ b o,b ∉ T -> s₁.heap.get? b = some o -> s.heap.get? b = some o -> h.get? b = some o) : Gr T s₁ { s with heap:=h,toks:=k } :=
 ⟨fun b o n q => e b o n q (g.ext b o n q),g.gens,g.drawn,g.os⟩
theorem Gr.trans {T : List Addr} {a b c : Shared} (x : Gr T a b) (y : Gr T b c) : Gr T a c:=⟨fun p o n e => y.ext p o n (x.ext p o n e),fun e => (y.gens e).trans (x.gens e),fun e => (y.drawn e).trans (x.drawn e),y.os.trans x.os⟩
theorem Gr.ofExt {T : List Addr} {s : Shared} {h : Heap} {k : Nat} (e : Ext s.heap h) : Gr T s { s with heap:=h,toks:=k } := ⟨fun b o _ q => e b o q,fun z9 => rfl,fun z9 => rfl,rfl⟩
theorem Gr.pre {T : List Addr} {s s' : Shared} {h : Heap} {k : Nat} (e : Ext s.heap h) (g : Gr T { s with heap:=h,toks:=k } s') : Gr T s s' := ⟨fun b o n q => g.ext b o n (e b o q),g.gens,g.drawn,g.os⟩
theorem Gr.eq {s s' : Shared} (g : Gr [] s s') : s' = { s with heap:=s'.heap,toks:=s'.toks } := by
 obtain ⟨a1,a2,a3,a4,a5⟩ := s'
 have h1:=g.gens rfl
 have h2:=g.drawn rfl
 have h3:=g.os
 dsimp only at h1 h2 h3 ⊢
 rw [h1,h2,h3]
noncomputable abbrev Tabs (T : List Addr) (led : Led) : Prop := ∀ t ∈ T,(t,LO.tab) ∈ led
section
variable {w : World} {C : Cx} {A : Around} {Γ Γ' Γ'' : List (Option PV)} {led led' : Led} {s : Shared} {T : List Addr}
theorem Tabs.tail {q : Addr × LO} (h : Tabs T led) : Tabs T (q :: led):=fun t ht => List.mem_cons_of_mem _ (h t ht)
theorem AS.tabAt (a : AS C Γ led s) (hT : Tabs T led) {t : Addr} (ht : t ∈ T) : ∃ ps,s.heap.get? t = some (tabObj ps) /\ TriplesOk ps.toList:=by
 refine XAEAEA (a.lg _ (hT t ht)) fun _ o e ps q4 k => ?_;subst q4
 exact ⟨ps,e,k⟩
theorem Gr.sk (g : Gr T s s') (hT : Tabs T led) : SK (C.M led) s.heap s'.heap:=fun b o e _ m => g.ext b o (fun z => m (List.mem_append_right _ (List.mem_map_of_mem (hT b z)))) e
theorem AS.gr {C' : Cx} {s' : Shared} (a : AS C Γ led s) (hT : Tabs T led) (g : Gr T s s') (ht : ∀ t ∈ T, ∃ ps,s'.heap.get? t = some (tabObj ps) /\ TriplesOk ps.toList) (x : C.X s') : AS C Γ led s' := by
 have sk : SK (C.M led) s.heap s'.heap:=g.sk hT
 have nT : ∀ b,(∀ p ∈ led,p.1 ≠ b) -> b ∉ T:=fun b h z => h _ (hT b z) rfl
 have ck : ∀ c v₀,s.heap.IsCell c v₀ -> s'.heap.IsCell c v₀:=fun c v₀ ⟨o,q,dd⟩ => ⟨o,g.ext c o (fun z => by
  refine X11 (a.tabAt hT z) fun ps e _ => ?_
  rw [e] at q;obtain rfl:=Option.some.inj q;exact Data.noConfusion dd) q,dd⟩
 refine X11 a.fr fun m F hF => ?_
 refine ⟨⟨m, ?_,fun i x pv h1 h2 => ?_⟩,fun b o q => g.ext b o (fun z => by rw [(a.lg _ (hT b z)).1] at q;exact nS q) (a.kp b o q),fun p hp => ?_,a.nd,fun x c h1 h2 => (a.ce x c h1 h2).imp fun v q => ck c v q,a.ll,x⟩
 ·refine X32 F fun o es ep q dd r => ?_
  exact ⟨o,es,ep,g.ext _ _ (nT _ a.ll) q,dd,r⟩
 ·refine X11 (hF i x pv h1 h2) fun v h3 h4 => ?_
  refine ⟨v, ?_,h4.keep sk fun _ _ _ q => q⟩
  refine Or.elim h3 (fun h3 => ?_) fun q1 => XAEA q1 fun h3 c h5 h6 => ?_
  ·exact .inl h3
  ·exact .inr ⟨h3,c,h5,ck c _ h6⟩
 ·by_cases hp1 : p.1 ∈ T
  ·have e2 : p.2 = .tab:=key_inj a.nd (show (p.1,p.2) ∈ led from hp) (hT _ hp1)
   obtain ⟨p1,p2⟩ := p
   dsimp only at hp1 e2
   subst e2
   refine X11 (ht _ hp1) fun ps e k => ?_
   exact ⟨(a.lg _ hp).1,_,e,ps,rfl,k⟩
  ·refine XAEA (a.lg p hp) fun h2 o h3 h4 => ?_
   exact ⟨h2,o,g.ext _ _ hp1 h3,h4.keep sk fun _ _ _ q => q⟩
noncomputable def PureT (T : List Addr) (w : World) (A : Around) (C : Cx) (Γ : List (Option PV)) (led : Led) (e : Expr) (pv : PV) : Prop :=
 ∀ (s : Shared) (Q E : Value -> Shared -> Prop),AS C Γ led s -> (∀ v s',Rep s'.heap (C.M led) pv v -> Gr T s s' -> AS C Γ led s' -> Q v s') -> wpAny (model vw w) A (eval e C.env) Q E s
theorem Pure.toT {e : Expr} {pv : PV} (h : Pure w A C Γ led e pv) : PureT T w A C Γ led e pv:=fun s Q E a q => h s Q E a fun v h' k r e a' => q v _ r (.ofExt e) a'
theorem PureT.toPure {e : Expr} {pv : PV} (h : PureT [] w A C Γ led e pv) : Pure w A C Γ led e pv:=fun s Q E a q => h s Q E a fun v s' r g a' => by
 have e:=g.eq
 have e2 : Ext s.heap s'.heap:=fun b o q => g.ext b o (fun z => nomatch z) q
 rw [e] at a'
 rw [e]
 exact q v _ _ r e2 a'
noncomputable def AsgB (w : World) (A : Around) (C : Cx) (t : Expr) (Γ : List (Option PV)) (led : Led) (pv : PV) (Γ' : List (Option PV)) : Prop :=
 ∀ (s : Shared) (v : Value) (Q : Unit -> Shared -> Prop) (E : Value -> Shared -> Prop),AS C Γ led s -> Rep s.heap (C.M led) pv v -> (∀ h k,But C s.heap h -> AS C Γ' led { s with heap:=h,toks:=k } -> Q () { s with heap:=h,toks:=k }) -> wpAny (model vw w) A (assign t C.env v) Q E s
theorem AsgB.nm (Z : CxOk w C) {i : Nat} {x : Str} {p : Pos} {pv : PV} (hx : Nth C.nms i x) (hk : C.env.kindOf x = some .local) (hp : Put Γ i pv Γ') : AsgB w A C (.Name x p) Γ led pv Γ' := by
 rw [hp.set]
 exact fun s v Q E a r h => wpAny_assign_Name (a.setB Z hx.at hk r h)
theorem AsgB.pair (Z : CxOk w C) (hh : A.handled = none) {t₁ t₂ : Expr} {k : Nat} {pos : Pos} {p₁ p₂ : PV} (h1 : AsgB w A C t₁ Γ led p₁ Γ') (h2 : AsgB w A C t₂ Γ' led p₂ Γ'') (he : assignEach [t₁,t₂] C.env = [(false,assign t₁ C.env),(false,assign t₂ C.env)]) :
  AsgB w A C (.Tuple [t₁,t₂] k pos) Γ led (.tup [p₁,p₂]) Γ'' := fun s v Q E a r q => by
 apply Rep.elT2 r;intro ad v₁ v₂ n e m r₁ r₂
 refine wpAny_assign_Tuple hh ⟨_,e,rfl,_,rfl⟩ (by rw [he];rfl) (by rw [he];rfl) fun h' ex => ?_
 have ex' : Ext s.heap h' := fun b o q => ex b o (fun z => by rw [z] at q;exact absurd (Heap.lt_size q) (Nat.lt_irrefl _)) q
 have a1 : AS C Γ led { s with heap:=h',toks:=s.toks } := a.ext Z ex'
 rw [he]
 refine wpAny_assignInOrder_more (h1 _ v₁ _ _ a1 (r₁.ext ex') fun h3 k3 b3 a3 => wpAny_assignInOrder_more (h2 _ v₂ _ _ a3 ((r₂.ext ex').keep (a1.butSk b3) fun _ _ _ m => m) fun h4 k4 b4 a4 => wpAny_assignInOrder_none (q h4 k4 (fun b o hb e => b4 b o hb (b3 b o hb (ex' b o e))) a4)))
theorem AS.forget (a : AS C Γ led s) (h : ∀ (i : Nat) pv,Γ'[i]? = some (some pv) -> Γ[i]? = some (some pv)) : AS C Γ' led s:=by
 refine X11 a.fr fun m F hm => ?_
 exact ⟨⟨m,F,fun i x pv h1 h2 => hm i x pv h1 (h i pv h2)⟩,a.kp,a.lg,a.nd,a.ce,a.ll,a.x⟩
noncomputable def Tests (w : World) (A : Around) (C : Cx) (Γ : List (Option PV)) (led : Led) : List Expr -> Bool -> Prop
 | [],b => b = true
 | [c],b => Test w A C Γ led c b
 | _,_ => False
theorem Tests.run (Z : CxOk w C) {ifs : List Expr} {b : Bool} (h : Tests w A C Γ led ifs b) {Q : Bool -> Shared -> Prop} {E : Value -> Shared -> Prop} (a : AS C Γ led s) (q : ∀ h k,Ext s.heap h -> AS C Γ led { s with heap:=h,toks:=k } -> Q b { s with heap:=h,toks:=k }) :
  wpAny (model vw w) A (forIn ifs true fun c r => if r = true then do let ok <- isTrue c C.env (eval c C.env);pure (ForInStep.yield ok) else pure (ForInStep.yield r)) Q E s:=by
 cases ifs with
 | nil => rw [show b = true from h] at q;exact wpAny_pure (q s.heap s.toks noExt a)
 | cons c t =>
  cases t with
  | cons _ _ => exact h.elim
  | nil =>
   rw [List.forIn_cons]
   refine wpAny_bind ?_
   rw [if_pos rfl]
   refine wpAny_bind ((show Test w A C Γ led c b from h) s _ _ a fun h k e a1 => ?_)
   exact wpAny_pure (wpAny_pure (q h k e a1))
structure CTurn (T : List Addr) (w : World) (A : Around) (C : Cx) (target elt : Expr) (ifs : List Expr) (Γ Γ₁ : List (Option PV)) (led : Led) (pv : PV) (b : Bool) (r : PV) : Prop where
 asg : AsgB w A C target Γ led pv Γ₁
 sub : ∀ (k : Nat) q,Γ[k]? = some (some q) -> Γ₁[k]? = some (some q)
 tests : Tests w A C Γ₁ led ifs b
 elt : b = true -> PureT T w A C Γ₁ led elt r
theorem compRunT (Z : CxOk w C) (hT : Tabs T led) {target iter elt : Expr} {ifs : List Expr} {scope : Scope} {pos : Pos} {D I : Addr} {fp : List Addr} {n : Nat} {P' : Nat -> Value -> Prop} {St : Nat -> Heap -> Prop} {P F : Nat -> PV} {p : Nat -> Bool} {R : Result -> Shared -> Prop} {s₁ : Shared}
  (W : Walks vw w A I fp [I] n P' St) (hcls : ∀ i h,St i h -> ∃ T vs d sl,h.get? I = some ⟨.type T,d, .fields vs,sl⟩ /\ ownT.contains T = false) (hI0 : C.h₀.get? I = none) (hIM : I ∉ led.M) (hID : I ≠ D) (hfp : ∀ b ∈ fp,b ≠ C.env.locals /\ b ≠ D /\ b ∉ T)
  (hold : ∀ b o,s₁.heap.get? b = some o -> b ≠ C.env.locals /\ b ≠ D /\ b ≠ I) (hit : ∀ i v,P' i v -> ∀ h,Ext C.h₀ h -> Rep h (C.M ((D, .list []) :: led)) (P i) v) (hn : n <= 1000)
  (turn : ∀ i l,i < n -> ∃ Γ₁,CTurn T w A C target elt ifs Γ Γ₁ ((D, .list l) :: led) (P i) (p i) (F i))
  (a : AS C Γ ((D, .list []) :: led) s) (hst : St 0 s.heap) (hk : Gr T s₁ s)
  (hR : ∀ s',AS C Γ ((D, .list (((List.range n).filter p).map F)) :: led) s' -> Gr T s₁ s' -> R (.ok .next) s') :
  codeAny (model vw w) A (.compLoop (.ListComp elt [⟨target,iter,ifs,0⟩] scope pos) 0 (.ref I) (.ref D) C.env) R s:=by
 have hM : ∀ l,C.M ((D, .list l) :: led) = C.M ((D, .list []) :: led):=fun l => rfl
 have hTD : ∀ l,Tabs T ((D,LO.list l) :: led):=fun l => hT.tail
 refine codeAny_compLoop_testsT (fun k s' => ∃ i,AS C Γ ((D, .list (((List.range i).filter p).map F)) :: led) s' /\ St i s'.heap /\ Gr T s₁ s' /\ i <= n /\ k = n + 1 - i) ?_ (n + 1) ?_
 ·intro k s' hq0
  refine byG fun G kG => ?_
  obtain ⟨i,a',st',ek,hi,rfl⟩ := hq0
  refine kG ?_;clear kG G
  refine byG fun G kG => ?_
  refine X41 (hcls _ _ st') fun _ _ _ _ eI' hTI => ?_
  refine kG ?_;clear kG G
  have hIM' : I ∉ Led.M ((D,LO.list (((List.range i).filter p).map F)) :: led):=fun hm => by
   refine Or.elim (List.mem_cons.mp hm) (fun hm => ?_) fun hm => ?_
   ·exact hID hm
   ·exact hIM hm
  have out : ∀ h₁ tk₁,(∀ b o,b ∉ [I] -> s'.heap.get? b = some o -> h₁.get? b = some o) -> AS C Γ ((D, .list (((List.range i).filter p).map F)) :: led) { s' with heap:=h₁,toks:=tk₁ } := fun h₁ tk₁ hk => a'.but Z eI' hIM' hI0 fun b o hb e => hk b o (fun q => hb (List.mem_singleton.mp q)) e
  by_cases hlt : i < n
  ·refine W.item i _ _ _ hlt st' fun v h₁ tk₁ hp st₁ hk₁ => ?_
   have a₁:=out h₁ tk₁ hk₁
   have e₁ : Gr T s₁ { s' with heap:=h₁,toks:=tk₁ } := ek.step fun b o _ e q => hk₁ b o (fun z => (hold b o e).2.2 (List.mem_singleton.mp z)) q
   refine byG fun G kG => ?_
   refine X41 (hcls _ _ st₁) fun _ _ _ _ eI₁ hT₁ => ?_
   refine kG ?_;clear kG G
   refine ownGo eI₁ hT₁ ?_
   refine X10 (turn i (((List.range i).filter p).map F) hlt) fun Γ₁ Tn => ?_
   refine Tn.asg _ v _ _ a₁ (hit i v hp _ a₁.kp) fun h₂ k₂ b₂ a₂ => ?_
   have e₂ : Gr T s₁ { s' with heap:=h₂,toks:=k₂ } := e₁.step fun b o _ e q => b₂ b o (hold b o e).1 q
   have st₂ : St (i + 1) h₂:=W.frame _ _ _ st₁ fun b hb o e => b₂ b o (hfp b hb).1 e
   refine Tn.tests.run Z a₂ fun h₃ k₃ x₃ a₃ => ?_
   have st₃ : St (i + 1) h₃:=W.frame _ _ _ st₂ fun b hb o e => x₃ b o e
   have e₃ : Gr T s₁ { s' with heap:=h₃,toks:=k₃ } := e₂.step fun b o _ e q => x₃ b o q
   have hr : (List.range (i + 1)).filter p = (List.range i).filter p ++ (if p i = true then [i] else []):=by
    rw [List.range_succ,List.filter_append];congr 1
    by_cases hpi : p i = true <;> simp [hpi]
   by_cases hpi : p i = true
   ·rw [if_pos hpi]
    refine Tn.elt hpi _ _ _ a₃ fun y s₄ r₄ g₄ a₄ => ?_
    refine X21 (a₄.rep List.mem_cons_self) fun vs nn eD rs => ?_
    have hl : (((List.range i).filter p).map F).length <= 1000:=by
     rw [List.length_map]
     have:=List.length_filter_le p (List.range i)
     rw [List.length_range] at this
     lia
    refine append_at eD (fun h₅ hs₅ ho => ?_) (by have:=rs.length;rw [Array.length_toList] at this;rw [this,sizeLine_eq];lia)
    have a₅:=a₄.swap (k:=s₄.toks) Z (Swap.head (y:=.list (((List.range i).filter p).map F ++ [F i]))) hs₅ ⟨_,ho,_,_,rfl,by rw [Array.toList_push];exact rs.snoc r₄⟩
    refine ⟨n + 1 - (i + 1),by lia,i + 1, ?_,W.frame _ _ _ st₃ fun b hb o e => (hs₅.2 b (hfp b hb).2.1).trans (g₄.ext b o (hfp b hb).2.2 e),(e₃.trans g₄).step (k:=s₄.toks) fun b o _ e q => (hs₅.2 b (hold b o e).2.1).trans q,hlt,rfl⟩
    rw [hr,if_pos hpi,List.map_append]
    exact a₅.forget Tn.sub
   ·rw [if_neg hpi]
    refine ⟨n + 1 - (i + 1),by lia,i + 1, ?_,st₃,e₃,hlt,rfl⟩
    rw [hr,if_neg hpi,List.append_nil]
    exact a₃.forget Tn.sub
  ·have hin : i = n:=by lia
   subst hin
   refine W.done _ _ _ st' fun h₁ tk₁ hk₁ => ?_
   exact hR _ (out h₁ tk₁ hk₁) (ek.step fun b o _ e q => hk₁ b o (fun z => (hold b o e).2.2 (List.mem_singleton.mp z)) q)
 ·exact ⟨0,a,hst,hk,Nat.zero_le _,rfl⟩
noncomputable abbrev Cx.inner (C : Cx) (g : Heap) (scope : Scope) (cl : List (Str × Addr)) (Cn : Addr) (nms : List Str) : Cx:=⟨g,C.M₀,compEnvC scope cl Cn C.env,nms,C.X⟩
theorem cellsIn : ∀ (names : List (Str × NameKind)) (h : Heap) (acc : List (Str × Addr)) (p : Str × Addr),p ∈ cellsFrom h.objs.size names acc -> p ∈ acc \/ ((pushCells h names).IsCell p.2 none /\ h.objs.size <= p.2):=fun names => by
 induction names with
 | nil => exact fun h acc p hp => .inl hp
 | cons q r ih =>
  obtain ⟨x,k⟩ := q
  intro h acc p hp
  unfold cellsFrom at hp
  unfold pushCells
  split at hp
  ·rename_i hk
   rw [if_pos hk]
   rw [show h.objs.size + 1 = (h.push { cls:=.type "cell",data:=.cell none }).objs.size from (Heap.size_push ..).symm] at hp
   refine Or.elim (ih _ _ _ hp) (fun hp => ?_) fun q1 => Y2 q1 fun h1 h2 => ?_
   ·rcases List.mem_cons.mp hp with rfl | hp
    ·exact .inr ⟨⟨_,pushCells_keeps _ _ _ _ (Heap.get?_push_size _ rfl),rfl⟩,Nat.le_refl _⟩
    ·exact .inl hp
   ·rw [Heap.size_push] at h2
    exact .inr ⟨h1,Nat.le_of_succ_le h2⟩
  ·rename_i hk
   rw [if_neg hk]
   exact ih _ _ _ hp
theorem cellsDiff : ∀ (names : List (Str × NameKind)) (n : Nat) (acc : List (Str × Addr)),(∀ p ∈ acc,p.2 < n) -> (∀ p ∈ acc, ∀ q ∈ acc,q.1 ≠ p.1 -> q.2 ≠ p.2) -> ∀ p ∈ cellsFrom n names acc, ∀ q ∈ cellsFrom n names acc,q.1 ≠ p.1 -> q.2 ≠ p.2:=fun names => by
 induction names with
 | nil => exact fun n acc _ h => h
 | cons q r ih =>
  obtain ⟨x,k⟩ := q
  intro n acc h1 h2
  unfold cellsFrom
  split
  ·refine ih _ _ (fun p hp => ?_) fun p hp q hq ne => ?_
   ·rcases List.mem_cons.mp hp with rfl | hp
    ·exact Nat.lt_succ_self _
    ·exact Nat.lt_succ_of_lt (h1 p hp)
   ·rcases List.mem_cons.mp hp with rfl | hp
    ·rcases List.mem_cons.mp hq with rfl | hq
     ·exact absurd rfl ne
     ·exact Nat.ne_of_lt (h1 q hq)
    ·rcases List.mem_cons.mp hq with rfl | hq
     ·exact Nat.ne_of_gt (h1 p hp)
     ·exact h2 p hp q hq ne
  ·exact ih _ _ h1 h2
theorem cellsNone : ∀ {names : List (Str × NameKind)} {n : Nat} {acc : List (Str × Addr)},(∀ y ∈ names,y.2 ≠ .cell) -> cellsFrom n names acc = acc:=fun {names} => by
 induction names with
 | nil => exact fun z9 => rfl
 | cons q r ih =>
  obtain ⟨x,k⟩ := q
  intro n acc h
  have hk : (k == NameKind.cell) = false:=by simpa using h _ List.mem_cons_self
  unfold cellsFrom
  rw [hk]
  exact ih fun y hy => h y (List.mem_cons_of_mem _ hy)
structure CIn (T : List Addr) (w : World) (A : Around) (C : Cx) (Γ Γ₀ : List (Option PV)) (led : Led) (scope : Scope) (cl : List (Str × Addr)) (nms : List Str) (lo : LO) (n : Nat) (P : Nat -> PV) (s : Shared) (g : Heap) (Cn D I : Addr) (fp : List Addr) (P' : Nat -> Value -> Prop) (St : Nat -> Heap -> Prop) (s₁ s₃ : Shared) : Prop where
 Wk : Walks vw w A I fp [I] n P' St
 cls : ∀ i h,St i h -> ∃ T vs d sl,h.get? I = some ⟨.type T,d, .fields vs,sl⟩ /\ ownT.contains T = false
 gI : g.get? I = none
 IM : I ∉ led.M
 ID : I ≠ D
 fpo : ∀ b ∈ fp,b ≠ Cn /\ b ≠ D /\ b ∉ T /\ b < Cn
 hold : ∀ b o,s₁.heap.get? b = some o -> b ≠ Cn /\ b ≠ D /\ b ≠ I /\ b < Cn
 hit : ∀ i v,P' i v -> ∀ h,Ext g h -> Rep h (C.M ((D,lo) :: led)) (P i) v
 Z : CxOk w (C.inner g scope (cellsFrom (Cn + 1) scope.names cl) Cn nms)
 a : AS (C.inner g scope (cellsFrom (Cn + 1) scope.names cl) Cn nms) Γ₀ ((D,lo) :: led) s₃
 st : St 0 s₃.heap
 gr : Gr T s₁ s₃
 a1 : AS C Γ led s₁
 g1 : Gr T s s₁
 n1 : s.heap.get? Cn = none
 D1 : s₁.heap.get? D = none
 bd : ∀ b o,s₁.heap.get? b = some o -> b < D
theorem comp_in (Z : CxOk w C) (hT : Tabs T led) {e target iter : Expr} {ifs : List Expr} {gs : List Comprehension} {scope : Scope} {pos : Pos} {cl : List (Str × Addr)} {n : Nat} {P : Nat -> PV} {newAcc : Sem Value} {oA : Obj} {lo : LO} {use : Option (Value -> Sem Unit)} {Q E : Value -> Shared -> Prop}
  (hcls : clausesOf e = ⟨target,iter,ifs,0⟩ :: gs) (hacc : ∀ (s : Shared) (Q E : Value -> Shared -> Prop),Q (.ref s.heap.objs.size) { s with heap:=s.heap.push oA } -> wpAny (model vw w) A newAcc Q E s) (hlo : ∀ h M,RepO h M lo oA) (hoA : oA.isFreed = false)
  (hstart : ∀ it acc env R s,codeAny (model vw w) A (.compLoop e 0 it acc env) R s -> wpAny (model vw w) A (pyIter it) (fun it' s' => codeAny (model vw w) A (.compLoop e 0 it' acc env) R s') (notedBy (model vw w) A env fun x s' => R (.error x) s') s -> codeAny (model vw w) A (.compStart e 0 it acc env) R s)
  (hs : Src w A C Γ led iter n P) (hclos : closureFor scope C.env = pure cl) (hkind : scope.kind = .function)
  (hnames : ∀ y ∈ scope.names,y.2 = .local -> scope.names.lookup y.1 = some .local) (hf : ∀ x,foldedSetIterable iter C.env x = pure x) (nms : List Str) (Γ₀ : List (Option PV)) (nd : nms.Nodup) (dbg : ∀ x ∈ nms,(x == ("__debug__" : Str)) = false)
  (hcl : ∀ q ∈ cl,q ∈ C.env.cells /\ C.env.kindOf q.1 = some .cell)
  (hfree : ∀ (Cn : Addr) (i : Nat) (x : Str) (pv : PV),nms[i]? = some x -> Γ₀[i]? = some (some pv) -> (compEnvC scope (cellsFrom (Cn + 1) scope.names cl) Cn C.env).kindOf x = some .cell /\ C.env.kindOf x = some .cell /\ (∃ c,(cellsFrom (Cn + 1) scope.names cl).lookup x = some c /\ C.env.cells.lookup x = some c) /\ ∃ j : Nat,C.nms[j]? = some x /\ Γ[j]? = some (some pv))
  (a : AS C Γ led s)
  (loop : ∀ (g : Heap) (Cn D I : Addr) (fp : List Addr) (P' : Nat -> Value -> Prop) (St : Nat -> Heap -> Prop) (s₁ s₃ : Shared),CIn T w A C Γ Γ₀ led scope cl nms lo n P s g Cn D I fp P' St s₁ s₃ -> codeAny (model vw w) A (.compLoop e 0 (.ref I) (.ref D) (compEnvC scope (cellsFrom (Cn + 1) scope.names cl) Cn C.env)) (compPost (model vw w) A E use Q (.ref D) Cn) s₃) :
  wpAny (model vw w) A (comprehension e scope C.env pos newAcc false (eval iter C.env) use) Q E s:=by
 refine wpAny_comprehension_free (use:=use) hcls hf hclos hkind hnames (hs s _ E a fun xv h k pI kl a1 ex1 hI hP hkl => hI _ E fun I fp St h₂ tk Wk hst ex hfp hIn hcls => ?_)
 have a2 : AS C Γ led { s with heap:=h₂,toks:=tk } := a1.ext Z ex
 refine byG fun G kG => ?_
 refine X41 (hcls _ _ hst) fun Tn vs d sl eI _ => ?_
 refine kG ?_;clear kG G
 have hI0 : C.h₀.get? I = none:=noneSub a1.kp hIn
 have hIM : I ∉ led.M:=fun hm => by
  refine X11 (List.mem_map.mp hm) fun q hq e => ?_
  refine XAEA (a1.lg q hq) fun _ o h3 _ => ?_
  rw [e] at h3
  rw [show h.get? I = none from hIn] at h3;exact nS h3
 refine Y2 (Z.hide a2 [I] (fun b hb => by rw [List.mem_singleton.mp hb];exact hI0)) fun ZI exI => ?_
 dsimp only at ZI exI
 refine hacc _ _ _ ?_
 simp only [newFunctionEnv,Option.isSome_some,if_true]
 refine wpAny_bind (wpAny_alloc (wpAny_bind (wpAny_layCells _ (fun name kind cells => by cases hkc : kind == NameKind.cell <;> simp [hkc]) _ _ _ _ ?_)))
 rw [List.forIn_nil]
 refine wpAny_bind (wpAny_pure (wpAny_pure ?_))
 dsimp only
 generalize hg : hideAll h₂ ([I] ++ C.mut led) = g at ZI exI
 generalize hH2 : h₂.push oA = H2
 generalize hH3 : H2.push { cls:=.type "dict",data:=.dict #[] } = H3
 have hC3 : H3.objs.size = H2.objs.size + 1:=by rw [<- hH3,Heap.size_push]
 have kC : Ext H3 (pushCells H3 scope.names):=fun b o e => pushCells_keeps _ _ b o e
 have hns : (pushCells H3 scope.names).Ns H2.objs.size fun z9 => none:=(hH3 ▸ Heap.Ns.new H2 (.type "dict")).keeps kC
 rw [hC3]
 have hcm:=cellsIn scope.names H3 cl
 rw [hC3] at hcm
 generalize hH4 : pushCells H3 scope.names = h₃ at hns kC hcm ⊢
 have hC : H2.objs.size = h₂.objs.size + 1:=by rw [<- hH2,Heap.size_push]
 have below : ∀ b,b < h₂.objs.size -> b ≠ H2.objs.size /\ b ≠ h₂.objs.size:=fun b hb => ⟨by rw [hC];exact Nat.ne_of_lt (Nat.lt_succ_of_lt hb),Nat.ne_of_lt hb⟩
 have old : Ext h₂ h₃:=fun b o e => kC b o (hH3 ▸ Heap.get?_push_of_some _ (hH2 ▸ Heap.get?_push_of_some _ e))
 have eD : h₃.get? h₂.objs.size = some oA:=kC _ _ (hH3 ▸ Heap.get?_push_of_some _ (hH2 ▸ Heap.get?_push_size _ hoA))
 have gle : Ext g h₂:=fun b o e => by rw [<- hg] at e;exact of_hideAll _ e
 have gI : g.get? I = none:=by rw [<- hg];exact hideAll_none _ (List.mem_append_left _ List.mem_cons_self)
 have hIlt : I < h₂.objs.size:=Heap.lt_size eI
 have above : ∀ b,h₂.objs.size <= b -> g.get? b = none:=fun b hb => by
  cases e : g.get? b with
  | none => rfl
  | some o => exact absurd (Heap.lt_size (gle _ _ e)) (Nat.not_lt.mpr hb)
 have gl : ∀ q ∈ led,g.get? q.1 = none:=fun q hq => by
  rw [<- hg];exact hideAll_none _ (List.mem_append_right _ (List.mem_cons_of_mem _ (List.mem_append_right _ (List.mem_map_of_mem hq))))
 have hDl : h₂.objs.size ∉ led.M:=fun hm => by
  refine X11 (List.mem_map.mp hm) fun q hq e => ?_
  refine XAEA (a2.lg q hq) fun _ o h3 _ => ?_
  rw [e] at h3
  exact absurd (Heap.lt_size h3) (Nat.lt_irrefl _)
 have cLt : ∀ p ∈ cl,p.2 < h₂.objs.size:=fun p hp => by
  refine X21 (a2.ce _ _ (hcl _ hp).1 (hcl _ hp).2) fun v o h3 _ => ?_
  exact Heap.lt_size h3
 have ZC : CxOk w (C.inner g scope (cellsFrom (H2.objs.size + 1) scope.names cl) H2.objs.size nms) :=
  ⟨Z.x,hkind,nd,dbg,ZI.K,ZI.T,Z.g,Z.b,above _ (by rw [hC];exact Nat.le_succ _),ZI.m,fun x c h1 _ => ⟨(hcm _ h1).elim (fun h => (ZI.cl x c (hcl _ h).1 (hcl _ h).2).1) fun h => above _ (by rw [hC] at h;exact Nat.le_of_succ_le (Nat.le_of_succ_le h.2)),fun y c' h3 ne => cellsDiff scope.names _ cl (fun p hp => by rw [hC];exact Nat.lt_succ_of_lt (Nat.lt_succ_of_lt (cLt p hp))) (fun p hp q hq ne => (ZI.cl p.1 p.2 (hcl _ hp).1 (hcl _ hp).2).2 _ _ (hcl _ hq).1 ne) _ h1 _ h3 ne⟩⟩
 have mm : ∀ b o,h₂.get? b = some o -> b ∉ C.M led -> b ∉ (C.inner g scope (cellsFrom (H2.objs.size + 1) scope.names cl) H2.objs.size nms).M ((h₂.objs.size,lo) :: led):=fun b o e m z => by
  refine Or.elim (List.mem_append.mp z) (fun z => ?_) fun z => ?_
  ·exact m (List.mem_append_left _ z)
  ·refine Or.elim (List.mem_cons.mp z) (fun z => ?_) fun z => ?_
   ·rw [z] at e;exact absurd (Heap.lt_size e) (Nat.lt_irrefl _)
   ·exact m (List.mem_append_right _ z)
 have aC : AS (C.inner g scope (cellsFrom (H2.objs.size + 1) scope.names cl) H2.objs.size nms) Γ₀ ((h₂.objs.size,lo) :: led) { s with heap:=h₃,toks:=tk } := by
  refine ⟨⟨_,hns,fun i x pv h1 h2 => ?_⟩,fun b o e => old b o (gle b o e),fun q hq => ?_,List.nodup_cons.mpr ⟨hDl,a2.nd⟩,fun x c h1 _ => ?_,fun q hq => ?_,Z.x _ _ _ a.x⟩
  ·refine byG fun G kG => ?_
   refine Y4 (hfree H2.objs.size i x pv h1 h2) fun k1 k2 q1 q0 => X11 q0 fun j j1 j2 => X11 q1 fun c c1 c2 => ?_
   refine kG ?_;clear kG G
   refine X11 a2.fr fun m Fm hm => ?_
   refine X11 (hm j x pv j1 j2) fun v h3 h4 => ?_
   refine ⟨v, .inr ⟨.inl k1,c,c1, ?_⟩,h4.keep (Ext.sk old) mm⟩
   refine Or.elim h3 (fun q1 => Y2 q1 fun h3 _ => ?_) fun q2 => XAEAEA q2 fun _ c' h5 o h6 h7 => ?_
   ·rw [k2] at h3;cases h3
   ·rw [c2] at h5;obtain rfl:=Option.some.inj h5
    exact ⟨o,old _ _ h6,h7⟩
  ·rcases List.mem_cons.mp hq with rfl | hq
   ·exact ⟨above _ (Nat.le_refl _),_,eD,hlo _ _⟩
   ·refine XAEA (a2.lg q hq) fun _ o h3 h4 => ?_
    exact ⟨gl q hq,o,old _ _ h3,h4.keep (Ext.sk old) mm⟩
  ·refine Or.elim (hcm _ h1) (fun h1 => ?_) fun h1 => ?_
   ·refine X21 (a2.ce x c (hcl _ h1).1 (hcl _ h1).2) fun v o h3 h4 => ?_
    exact ⟨v,o,old _ _ h3,h4⟩
   ·exact ⟨_,h1.1⟩
  ·show q.1 ≠ H2.objs.size
   rcases List.mem_cons.mp hq with rfl | hq
   ·rw [hC];exact Nat.ne_of_lt (Nat.lt_succ_self _)
   ·refine XAEA (a2.lg q hq) fun _ o h3 _ => ?_
    exact (below _ (Heap.lt_size h3)).1
 have skI : SK (C.M led) h₂ g:=fun b o e q m' => by
  have m : b ∉ led.M:=fun z => m' (List.mem_append_right _ z)
  rw [<- hg]
  refine hid e fun hm => ?_
  refine Or.elim (List.mem_append.mp hm) (fun hm => ?_) fun hm => ?_
  ·rw [List.mem_singleton.mp hm,eI] at e;obtain rfl:=Option.some.inj e;exact nB q
  ·exact a2.seqOut Z e q m hm
 have hfp' : ∀ b ∈ fp,b < h₂.objs.size:=fun b hb => by
  rcases hfp b hb with rfl | hb
  ·exact hIlt
  ·refine XAEA (hkl b hb) fun _ o e _ => ?_
   exact Heap.lt_size (ex b o e)
 have hst₃ : St 0 h₃:=Wk.frame _ _ _ hst fun b _ o e => old b o e
 have nTk : ∀ b o,h₂.get? b = some o -> (isSeq o = true \/ b = I) -> b ∉ T:=fun b o e k z => by
  refine X11 (a2.tabAt hT z) fun ps e2 _ => ?_
  rcases k with k | rfl
  ·rw [show h₂.get? b = _ from e2] at e;obtain rfl:=Option.some.inj e;exact nB k
  ·exact hIM (List.mem_map_of_mem (hT _ z))
 have hfpT : ∀ b ∈ fp,b ∉ T:=fun b hb => by
  rcases hfp b hb with rfl | hb
  ·exact nTk _ _ eI (.inr rfl)
  ·refine XAEA (hkl b hb) fun _ o e q => ?_
   exact nTk _ o (ex b o e) (.inl q)
 have low : ∀ b,b < h₂.objs.size -> b < H2.objs.size:=fun b hb => by rw [hC];exact Nat.lt_succ_of_lt hb
 have Lp:=loop g H2.objs.size h₂.objs.size I fp pI St { s with heap:=h,toks:=k } { s with heap:=h₃,toks:=tk } ⟨Wk,hcls,gI,hIM,Nat.ne_of_lt hIlt,fun b hb => ⟨(below b (hfp' b hb)).1,(below b (hfp' b hb)).2,hfpT b hb,low b (hfp' b hb)⟩,fun b o e => ⟨(below b (Heap.lt_size (ex b o e))).1,(below b (Heap.lt_size (ex b o e))).2,(fun z => by rw [z,show h.get? I = none from hIn] at e;exact nS e),low b (Heap.lt_size (ex b o e))⟩,fun i v hv h' e' => (((hP i v hv).ext ex).keep skI fun b o e m => mm b o e m).ext e',ZC,aC,hst₃,⟨fun b o _ e => old b o (ex b o e),fun z9 => rfl,fun z9 => rfl,rfl⟩,a1, .ofExt ex1, ?_, ?_,fun b o e => Heap.lt_size (ex b o e)⟩
 ·exact hstart _ _ _ _ _ Lp (Wk.self 0 _ _ _ hst₃ Lp)
 ·cases e : s.heap.get? H2.objs.size with
  | none => rfl
  | some o => exact absurd (Heap.lt_size (ex _ _ (ex1 _ _ e))) (by rw [hC];exact Nat.not_lt.mpr (Nat.le_succ _))
 ·show h.get? h₂.objs.size = none
  cases e : h.get? h₂.objs.size with
  | none => rfl
  | some o => exact absurd (Heap.lt_size (ex _ _ e)) (Nat.lt_irrefl _)
noncomputable def EvC (T : List Addr) (w : World) (A : Around) (C : Cx) (Γ : List (Option PV)) (led : Led) (X : Option (Value -> Sem Unit) -> Sem Value) (P : Led -> PV -> Prop) : Prop :=
 ∀ (use : Option (Value -> Sem Unit)) (s : Shared) (Q E : Value -> Shared -> Prop),AS C Γ led s -> (∀ s₄ v Cn m led' pv,P led' pv -> s.heap.get? Cn = none -> Cn ∉ led'.M -> s₄.heap.Ns Cn m -> Gr T s s₄ -> AS C Γ led' s₄ -> Rep s₄.heap (C.M led') pv v -> compPost (model vw w) A E use Q v Cn (.ok .next) s₄) -> wpAny (model vw w) A (X use) Q E s
theorem AS.butN (Z : CxOk w C) (a : AS C Γ led s) {I : Addr} {m₁ : Str -> Option Value} {h' : Heap} {k : Nat} (hI : s.heap.Ns I m₁) (hL : I ≠ C.env.locals) (hm : I ∉ led.M) (h0 : C.h₀.get? I = none)
  (hs : Heap.SameBut I s.heap h') : AS C Γ led { s with heap:=h',toks:=k } /\ SK (C.M led) s.heap h' := by
 refine X32 hI fun oI es ep hI dI rI => ?_
 have e : ∀ b o,b ≠ I -> s.heap.get? b = some o -> h'.get? b = some o:=fun b o n q => hs.extBut b o n q
 refine X11 a.fr fun m F hF => ?_
 have sk : SK (C.M led) s.heap h' := fun b o q q' _ => e b o (fun z => by rw [z,hI] at q;obtain rfl:=Option.some.inj q;unfold isSeq at q';rw [dI] at q';exact nB q') q
 have ck : ∀ c v₀,s.heap.IsCell c v₀ -> h'.IsCell c v₀:=fun c v₀ ⟨o,q,dd⟩ => ⟨o,e c o (fun z => by rw [z,hI] at q;obtain rfl:=Option.some.inj q;rw [dI] at dd;exact Data.noConfusion dd) q,dd⟩
 refine ⟨⟨⟨m, ?_,fun i x pv h1 h2 => ?_⟩,fun b o q => e b o (fun z => by rw [z,h0] at q;exact nS q) (a.kp b o q),fun p hp => ?_,a.nd,fun x c h1 h2 => (a.ce x c h1 h2).imp fun v q => ck c v q,a.ll,Z.x _ _ _ a.x⟩,sk⟩
 ·refine X32 F fun o es ep q dd r => ?_
  exact ⟨o,es,ep,e _ _ (Ne.symm hL) q,dd,r⟩
 ·refine X11 (hF i x pv h1 h2) fun v h3 h4 => ?_
  refine ⟨v, ?_,h4.keep sk fun _ _ _ q => q⟩
  refine Or.elim h3 (fun h3 => ?_) fun q1 => XAEA q1 fun h3 c h5 h6 => ?_
  ·exact .inl h3
  ·exact .inr ⟨h3,c,h5,ck c _ h6⟩
 ·refine XAEA (a.lg p hp) fun h2 o h3 h4 => ?_
  exact ⟨h2,o,e _ _ (fun z => hm (z ▸ List.mem_map_of_mem hp)) h3,h4.keep sk fun _ _ _ q => q⟩
theorem AS.notL (a : AS C Γ led s) {I : Addr} (h : s.heap.get? I = none) : I ≠ C.env.locals:=fun z => by
 refine X11 a.fr fun _ q1 _ => X32 q1 fun o es ep q dd r => ?_
 rw [z,q] at h;exact nS h.symm
theorem EvC.pureT (Z : CxOk w C) {X : Option (Value -> Sem Unit) -> Sem Value} {e : Expr} {pv : PV} (h : EvC T w A C Γ led X fun l q => l = led /\ q = pv) (he : eval e C.env = X none) : PureT T w A C Γ led e pv:=fun s Q E a q => by
 rw [he]
 refine h none s Q E a fun s₄ v Cn m led' pv' e1 hn hm F g a4 r => ?_
 obtain ⟨rfl,rfl⟩ := e1
 refine ⟨m,F,fun h' hs => ?_⟩
 refine Y2 (a4.butN (k:=s₄.toks) Z F (a.notL hn) hm (noneSub a.kp hn) hs) fun a5 sk => ?_
 exact q v _ (r.keep sk fun _ _ _ z => z) (g.step (k:=s₄.toks) fun b o _ e q => hs.extBut b o (fun z => by rw [z,hn] at e;exact nS e) q) a5
theorem Run.letC (Z : CxOk w C) {K : Flow -> Shared -> Prop} {rest : List Stmt} {i : Nat} {x : Str} {p pos : Pos} {e : Expr} {X : Option (Value -> Sem Unit) -> Sem Value} {P : Led -> PV -> Prop} (h : EvC T w A C Γ led X P) (hx : Nth C.nms i x) (hk : C.env.kindOf x = some .local)
  (hs : swapsWith e (some (.Name x p)) pos.line C.env = pure true) (hu : ∀ u,evalThenUse e C.env u = (X (some u) >>= fun z9 => pure ())) (r : ∀ led' pv,P led' pv -> ∃ Γ',Put Γ i pv Γ' /\ Run w A C Γ' led' rest K) : Run w A C Γ led (.Assign [.Name x p] e pos :: rest) K :=
 .st fun s a => by
  rw [exec_Assign_Name_used _ _ _ _ hs,hu]
  refine wpAny_bind (wpAny_standAt (wpAny_bind (wpAny_bind (h _ s _ _ a fun s₄ v Cn m led' pv' hp hn hm F g a4 rv => ?_))))
  refine X11 (r led' pv' hp) fun Γ' hΓ hr => ?_
  refine wpAny_assign_Name (a4.setB Z hx.at hk rv fun h5 k5 b5 a5 => ?_)
  have F5 : Heap.Ns h5 Cn m:=by
   refine X32 F fun o es ep q dd r => ?_
   exact ⟨o,es,ep,b5 _ _ (a.notL hn) q,dd,r⟩
  refine ⟨m,F5,fun h' hs => wpAny_pure (wpAny_pure (hr _ ?_))⟩
  rw [<- hΓ.set] at a5
  exact (a5.butN (k:=k5) Z F5 (a.notL hn) hm (noneSub a.kp hn) hs).1
theorem listOut (Z : CxOk w C) (hT : Tabs T led) {s s₁ s₄ : Shared} {Cx' : Cx} {Γ₀ : List (Option PV)} {D : Addr} {l : List PV} {R : Prop} (hM : Cx'.M₀ = C.M₀) (hX : Cx'.X = C.X) (a1 : AS C Γ led s₁) (g1 : Gr T s s₁) (n1 : s.heap.get? Cx'.env.locals = none) (D1 : s₁.heap.get? D = none) (a₄ : AS Cx' Γ₀ ((D, .list l) :: led) s₄) (e₄ : Gr T s₁ s₄) (hold : ∀ b o,s₁.heap.get? b = some o -> b ≠ Cx'.env.locals)
  (q : ∀ m,s.heap.get? Cx'.env.locals = none -> Cx'.env.locals ∉ led.M -> s₄.heap.Ns Cx'.env.locals m -> Gr T s s₄ -> AS C Γ led s₄ -> Rep s₄.heap (C.M led) (.lst l) (.ref D) -> R) : R:=by
 refine X11 (id a₄.fr) fun m Fm _ => ?_
 refine X21 (a₄.rep List.mem_cons_self) fun vs' n' eD' rs => ?_
 have lM : ∀ b ∈ C.M led, ∃ o,s₁.heap.get? b = some o:=a1.alive Z
 have hDM : D ∉ C.M led:=fun z => by refine X10 (lM _ z) fun o e => ?_;rw [D1] at e;exact nS e
 refine q m n1 (fun z => ?_) Fm (g1.trans e₄) (a1.gr (C' := C) hT e₄ (fun t ht => a₄.tabAt hT.tail ht) (hX ▸ a₄.x)) (.lst eD' hDM (rs.keep (Ext.sk noExt) fun b o _ mm z => mm ?_))
 ·refine X10 (lM _ (List.mem_append_right _ z)) fun o e => ?_;exact hold _ _ e rfl
 ·refine Or.elim (List.mem_append.mp z) (fun z => ?_) fun z => ?_
  ·exact List.mem_append_left _ (hM ▸ z)
  ·exact List.mem_append_right _ (List.mem_cons_of_mem _ z)
theorem EvC.list (Z : CxOk w C) (hT : Tabs T led) {target iter elt : Expr} {ifs : List Expr} {scope : Scope} {pos spos : Pos} {cl : List (Str × Addr)} {n : Nat} {P : Nat -> PV} (hs : Src w A C Γ led iter n P) (hclos : closureFor scope C.env = pure cl) (hcell : ∀ y ∈ scope.names,y.2 ≠ .cell) (hkind : scope.kind = .function)
  (hnames : ∀ y ∈ scope.names,y.2 = .local -> scope.names.lookup y.1 = some .local) (hf : ∀ x,foldedSetIterable iter C.env x = pure x) (nms : List Str) (Γ₀ : List (Option PV)) (nd : nms.Nodup) (dbg : ∀ x ∈ nms,(x == ("__debug__" : Str)) = false)
  (hcl : ∀ q ∈ cl,q ∈ C.env.cells /\ C.env.kindOf q.1 = some .cell)
  (hfree : ∀ (Cn : Addr) (i : Nat) (x : Str) (pv : PV),nms[i]? = some x -> Γ₀[i]? = some (some pv) -> (compEnvC scope cl Cn C.env).kindOf x = some .cell /\ C.env.kindOf x = some .cell /\ (∃ c,cl.lookup x = some c /\ C.env.cells.lookup x = some c) /\ ∃ j : Nat,C.nms[j]? = some x /\ Γ[j]? = some (some pv))
  (p : Nat -> Bool) (F : Nat -> PV) (hn : n <= 1000)
  (turn : ∀ (g : Heap) (Cn D : Addr) (i : Nat) (l : List PV),CxOk w (C.inner g scope cl Cn nms) -> i < n -> ∃ Γ₁,CTurn T w A (C.inner g scope cl Cn nms) target elt ifs Γ₀ Γ₁ ((D, .list l) :: led) (P i) (p i) (F i)) :
  EvC T w A C Γ led (fun use => comprehension (.ListComp elt [⟨target,iter,ifs,0⟩] scope pos) scope C.env spos (newList []) false (eval iter C.env) use) fun l q => l = led /\ q = .lst (((List.range n).filter p).map F):=fun use s Q E a q => by
 have hcn : ∀ Cn,cellsFrom (Cn + 1) scope.names cl = cl:=fun z9 => cellsNone hcell
 refine comp_in (lo:=.list []) (oA := { cls:=.type "list",dict:=none,data:=.seq ([] : List Value).toArray }) Z hT rfl (fun s Q E h => wpAny_newObj_type h) (fun h M => ⟨#[],0,rfl, .nil⟩) rfl (fun _ _ _ _ _ h1 h2 => codeAny_compStart_list h1 h2) hs hclos hkind hnames hf nms Γ₀ nd dbg hcl (fun Cn i x pv h1 h2 => by rw [hcn];exact hfree Cn i x pv h1 h2) a fun g Cn D I fp P' St s₁ s₃ K => ?_
 obtain ⟨Wk,cls,gI,IM,ID,fpo,hold,hit,ZK,aK,st,gr,a1,g1,n1,D1,bd⟩ := K
 rw [hcn] at ZK aK ⊢
 refine compRunT (T:=T) (s₁:=s₁) (P:=P) (F:=F) (p:=p) ZK hT Wk cls gI IM ID (fun b hb => let ⟨x,y,z,_⟩ := fpo b hb; ⟨x,y,z⟩) (fun b o e => let ⟨x,y,z,_⟩ := hold b o e; ⟨x,y,z⟩) hit hn (fun i l hi => turn g _ _ i l ZK hi) aK st gr (fun s₄ a₄ e₄ => ?_)
 exact listOut (Cx' := C.inner g scope cl Cn nms) Z hT rfl rfl a1 g1 n1 D1 a₄ e₄ (fun b o e => (hold b o e).1) fun m x1 x2 x3 x4 x5 x6 => q s₄ _ _ m led _ ⟨rfl,rfl⟩ x1 x2 x3 x4 x5 x6
theorem Src.lst (hh : A.handled = none) {e : Expr} {l : List PV} (h : Pure w A C Γ led e (.lst l)) : Src w A C Γ led e l.length (fun i => l.getD i (.bool false)):=fun s Q E as q =>
 h s _ E as fun v h1 k1 r1 e1 a1 => by
  apply Rep.elL r1;intro ad vs n e m rs
  have hz:=rs.length
  rw [Array.length_toList] at hz
  have hI : Iter w A { s with heap:=h1,toks:=k1 } (.ref ad) vs.size (fun i v => vs[i]? = some v) [ad]:=Iter.list hh ⟨_,e,rfl,_,rfl⟩
  rw [hz] at hI
  refine q _ h1 k1 _ _ a1 e1 hI (fun i v hv => ?_) (fun b hb => by rw [List.mem_singleton.mp hb];exact ⟨m,_,e,rfl⟩)
  have hi : i < l.length:=by rw [<- hz];exact (Array.getElem?_eq_some_iff.mp hv).1
  refine X11 (rs.at (List.getElem?_eq_getElem hi)) fun v' hv' rv => ?_
  rw [Array.getElem?_toList,hv] at hv'
  obtain rfl:=Option.some.inj hv'
  show Rep h1 (C.M led) (l.getD i (.bool false)) v
  rw [List.getD_eq_getElem?_getD,List.getElem?_eq_getElem hi]
  exact rv
end
section
variable {w : World} {C : Cx} {A : Around} {s : Shared} {R : Result -> Shared -> Prop} {Γ' Γ : List (Option PV)} {led : Led} {T : List Addr}
theorem compTurn_in (elt target iter : Expr) (c₁ : Comprehension) (ifs : List Expr) (scope : Scope) (pos : Pos) (it acc : Value) (env : Env) :
  compTurn (.ListComp elt [c₁,⟨target,iter,ifs,0⟩] scope pos) 1 it acc env = (do
   standAt iter.pos
   match <- pyNext it with
   | none => pure (.done .next)
   | some v =>
    letOwnedTupleGo target it v
    assign target env v
    let mut ok:=true
    for c in ifs do
     if ok then ok <- isTrue c env (eval c env)
    if ok then
     (do let _ <- call (.builtin "list.append") [acc, <- eval elt env])
    again (.compLoop (.ListComp elt [c₁,⟨target,iter,ifs,0⟩] scope pos) 1 it acc env)):=by rfl
theorem codeAny_compLoop_in {elt target iter : Expr} {c₁ : Comprehension} {ifs : List Expr} {scope : Scope} {pos : Pos} {it acc : Value} {env : Env} (I : Nat -> Shared -> Prop)
  (turn : ∀ n s,I n s -> wpAny (model vw w) A (pyNext it) (fun r s₁ => match r with
   | none => R (.ok .next) s₁
   | some v => wpAny (model vw w) A (letOwnedTupleGo target it v) (fun _ s₁' => wpAny (model vw w) A (assign target env v) (fun _ s₂ =>
     wpAny (model vw w) A (forIn ifs true fun c r => if r = true then do let ok <- isTrue c env (eval c env);pure (ForInStep.yield ok) else pure (ForInStep.yield r)) (fun ok s₃ =>
      if ok = true then wpAny (model vw w) A (eval elt env) (fun x s₄ =>
       wpAny (model vw w) A (call (.builtin "list.append") [acc,x]) (fun _ s₅ => ∃ m,m < n /\ I m s₅) (fun z9 z9 => False) s₄) (fun z9 z9 => False) s₃
      else ∃ m,m < n /\ I m s₃) (fun z9 z9 => False) s₂) (fun z9 z9 => False) s₁') (fun z9 z9 => False) s₁) (fun z9 z9 => False) s)
  (n : Nat) (h : I n s) :
  codeAny (model vw w) A (.compLoop (.ListComp elt [c₁,⟨target,iter,ifs,0⟩] scope pos) 1 it acc env) R s:=by
 refine codeAny_loop rfl I (fun n s hI => ?_) n h
 show wpAny _ A ((compTurn (.ListComp elt [c₁,⟨target,iter,ifs,0⟩] scope pos) 1 it acc env).onRaise (fun x => do noteFrame x env;theTreesLotGoes x)) _ _ s
 refine wpAny_noted ?_
 rw [compTurn_in]
 refine wpAny_bind (wpAny_standAt (wpAny_bind (wpAny_mono (turn n s hI) (fun r s₁ h₁ => ?_) fun _ _ h' => h'.elim)))
 cases r with
 | none => exact wpAny_pure h₁
 | some v =>
  refine wpAny_bind (wpAny_mono h₁ (fun _ s₂ h₂ => ?_) fun _ _ h' => h'.elim)
  refine wpAny_bind (wpAny_mono h₂ (fun _ s₂ h₂ => wpAny_bind (wpAny_mono h₂ (fun ok s₃ h₃ => ?_) fun _ _ h' => h'.elim)) fun _ _ h' => h'.elim)
  cases ok with
  | false => exact wpAny_pure ⟨rfl,h₃⟩
  | true =>
   exact wpAny_bind (wpAny_bind (wpAny_mono h₃ (fun x s₄ h₄ => wpAny_bind (wpAny_mono h₄ (fun _ s₅ h₅ => wpAny_pure (wpAny_pure ⟨rfl,h₅⟩)) fun _ _ h' => h'.elim)) fun _ _ h' => h'.elim))
theorem compTurn_out (elt target iter target₂ iter₂ : Expr) (ifs₂ : List Expr) (scope : Scope) (pos : Pos) (it acc : Value) (env : Env) :
  compTurn (.ListComp elt [⟨target,iter, [],0⟩,⟨target₂,iter₂,ifs₂,0⟩] scope pos) 0 it acc env = (do
   standAt iter.pos
   match <- pyNext it with
   | none => pure (.done .next)
   | some v =>
    letOwnedTupleGo target it v
    assign target env v
    let x <- eval iter₂ env
    standAt iter₂.pos
    let x <- foldedSetIterable iter₂ env x
    let _ <- runOwn (.compStart (.ListComp elt [⟨target,iter, [],0⟩,⟨target₂,iter₂,ifs₂,0⟩] scope pos) 1 (<- holding [x] (pyIter x)) acc env) env
    again (.compLoop (.ListComp elt [⟨target,iter, [],0⟩,⟨target₂,iter₂,ifs₂,0⟩] scope pos) 0 it acc env)):=by
 rfl
theorem codeAny_compStart_in {elt target iter : Expr} {c₁ : Comprehension} {ifs : List Expr} {scope : Scope} {pos : Pos} {it acc : Value} {env : Env}
  (h0 : codeAny (model vw w) A (.compLoop (.ListComp elt [c₁,⟨target,iter,ifs,0⟩] scope pos) 1 it acc env) R s)
  (h : wpAny (model vw w) A (pyIter it) (fun it' s' => codeAny (model vw w) A (.compLoop (.ListComp elt [c₁,⟨target,iter,ifs,0⟩] scope pos) 1 it' acc env) R s')
   (notedBy (model vw w) A env fun x s' => R (.error x) s') s) :
  codeAny (model vw w) A (.compStart (.ListComp elt [c₁,⟨target,iter,ifs,0⟩] scope pos) 1 it acc env) R s:=by
 refine codeAny_of_tree ?_
 show wpAny _ _ ((compStart (.ListComp elt [c₁,⟨target,iter,ifs,0⟩] scope pos) 1 it acc env).onRaise (fun x => do noteFrame x env;standAt theWindowsPlace)) _ _ s
 refine wpAny_notedAt ?_
 unfold compStart
 show wpAny _ _ (ask >>= _) _ _ s
 refine wpAny_bind (wpAny_askSetting (wpAny_ite ?_))
 split
 ·first
   | exact wpAny_bind (wpAny_pure (wpAny_pure (And.intro rfl h0)))
   | exact wpAny_pure (And.intro rfl h0)
 ·first
   | exact wpAny_bind (wpAny_rule (wpAny_bind (wpAny_standAt (wpAny_bind (wpAny_mono h (fun it' s' h' => wpAny_pure (And.intro rfl h')) fun _ _ x => x)))))
   | (refine wpAny_bind (wpAny_rule ?_);show wpAny _ _ (standAt iter.pos >>= _) _ _ s;exact wpAny_bind (wpAny_standAt (wpAny_bind (wpAny_mono h (fun it' s' h' => wpAny_pure (And.intro rfl h')) fun _ _ x => x))))
theorem codeAny_compLoop_out {elt target iter target₂ iter₂ : Expr} {ifs₂ : List Expr} {scope : Scope} {pos : Pos} {it acc : Value} {env : Env} (I : Nat -> Shared -> Prop) (hf : ∀ x,foldedSetIterable iter₂ env x = pure x)
  (turn : ∀ n s,I n s -> wpAny (model vw w) A (pyNext it) (fun r s₁ => match r with
   | none => R (.ok .next) s₁
   | some v => wpAny (model vw w) A (letOwnedTupleGo target it v) (fun _ s₁' => wpAny (model vw w) A (assign target env v) (fun _ s₂ =>
     wpAny (model vw w) A (eval iter₂ env) (fun x s₃ => wpAny (model vw w) A (pyIter x) (fun it' s₄ =>
      codeAny (model vw w) A (.compStart (.ListComp elt [⟨target,iter, [],0⟩,⟨target₂,iter₂,ifs₂,0⟩] scope pos) 1 it' acc env) (fun r s₅ => match r with | .ok _ => ∃ m,m < n /\ I m s₅ | .error _ => False) s₄) (fun z9 z9 => False) s₃) (fun z9 z9 => False) s₂) (fun z9 z9 => False) s₁') (fun z9 z9 => False) s₁) (fun z9 z9 => False) s)
  (n : Nat) (h : I n s) :
  codeAny (model vw w) A (.compLoop (.ListComp elt [⟨target,iter, [],0⟩,⟨target₂,iter₂,ifs₂,0⟩] scope pos) 0 it acc env) R s:=by
 refine codeAny_loop rfl I (fun n s hI => ?_) n h
 show wpAny _ A ((compTurn (.ListComp elt [⟨target,iter, [],0⟩,⟨target₂,iter₂,ifs₂,0⟩] scope pos) 0 it acc env).onRaise (fun x => do noteFrame x env;theTreesLotGoes x)) _ _ s
 refine wpAny_noted ?_
 rw [compTurn_out]
 refine wpAny_bind (wpAny_standAt (wpAny_bind (wpAny_mono (turn n s hI) (fun r s₁ h₁ => ?_) fun _ _ h' => h'.elim)))
 cases r with
 | none => exact wpAny_pure h₁
 | some v =>
  refine wpAny_bind (wpAny_mono h₁ (fun _ s₂ h₂ => ?_) fun _ _ h' => h'.elim)
  refine wpAny_bind (wpAny_mono h₂ (fun _ s₂ h₂ => wpAny_bind (wpAny_mono h₂ (fun x s₃ h₃ => ?_) fun _ _ h' => h'.elim)) fun _ _ h' => h'.elim)
  refine wpAny_bind (wpAny_standAt (wpAny_bind (wpAny_of_eq (hf x) (wpAny_bind (wpAny_holding (wpAny_mono h₃ (fun it' s₄ h₄ => ?_) fun _ _ h' => h'.elim))))))
  refine wpAny_bind (wpAny_runOwn (codeAny_mono h₄ fun r s₅ h₅ => ?_))
  cases r with
  | ok f => exact wpAny_pure ⟨rfl,h₅⟩
  | error e => exact h₅.elim
structure KG (T : List Addr) (L D : Addr) (s s' : Shared) : Prop where
 ext : ∀ b o,b ≠ L -> b ≠ D -> b ∉ T -> s.heap.get? b = some o -> s'.heap.get? b = some o
 gens : T = [] -> s'.gens = s.gens
 drawn : T = [] -> s'.drawn = s.drawn
 os : s'.os = s.os
theorem KG.step {L D : Addr} {s₁ s : Shared} (g : KG T L D s₁ s) {h : Heap} {k : Nat} (e : ∀ b o,b ≠ L -> b ≠ D -> b ∉ T -> s₁.heap.get? b = some o -> s.heap.get? b = some o -> h.get? b = some o) : KG T L D s₁ { s with heap:=h,toks:=k } :=
 ⟨fun b o n1 n2 n q => e b o n1 n2 n q (g.ext b o n1 n2 n q),g.gens,g.drawn,g.os⟩
theorem KG.gr {L D : Addr} {a b c : Shared} (x : KG T L D a b) (y : Gr T b c) : KG T L D a c:=⟨fun p o n1 n2 n e => y.ext p o n (x.ext p o n1 n2 n e),fun e => (y.gens e).trans (x.gens e),fun e => (y.drawn e).trans (x.drawn e),y.os.trans x.os⟩
theorem Gr.kg {L D : Addr} {a b c : Shared} (x : Gr T a b) (y : KG T L D b c) (h : ∀ p o,a.heap.get? p = some o -> p ≠ L /\ p ≠ D) : Gr T a c:=⟨fun p o n e => y.ext p o (h p o e).1 (h p o e).2 n (x.ext p o n e),fun e => (y.gens e).trans (x.gens e),fun e => (y.drawn e).trans (x.drawn e),y.os.trans x.os⟩
theorem compRunInT (Z : CxOk w C) (hT : Tabs T led) {target iter elt : Expr} {c₁ : Comprehension} {l₀ : List PV} {ifs : List Expr} {scope : Scope} {pos : Pos} {D I : Addr} {fp : List Addr} {n : Nat} {P' : Nat -> Value -> Prop} {St : Nat -> Heap -> Prop} {P F : Nat -> PV} {p : Nat -> Bool} {R : Result -> Shared -> Prop} {s₁ : Shared}
  (W : Walks vw w A I fp [I] n P' St) (hcls : ∀ i h,St i h -> ∃ T vs d sl,h.get? I = some ⟨.type T,d, .fields vs,sl⟩ /\ ownT.contains T = false) (hI0 : C.h₀.get? I = none) (hIM : I ∉ led.M) (hID : I ≠ D) (hfp : ∀ b ∈ fp,b ≠ C.env.locals /\ b ≠ D /\ b ∉ T)
  (hold : ∀ b o,s₁.heap.get? b = some o -> b ≠ I) (hit : ∀ i v,P' i v -> ∀ s',KG T C.env.locals D s₁ s' -> Rep s'.heap (C.M ((D, .list []) :: led)) (P i) v) (hn : l₀.length + n <= 1000)
  (turn : ∀ i l,i < n -> ∃ Γ₁,CTurn T w A C target elt ifs Γ Γ₁ ((D, .list l) :: led) (P i) (p i) (F i))
  (a : AS C Γ ((D, .list l₀) :: led) s) (hst : St 0 s.heap) (hk : KG T C.env.locals D s₁ s)
  (hR : ∀ s',AS C Γ ((D, .list (l₀ ++ ((List.range n).filter p).map F)) :: led) s' -> KG T C.env.locals D s₁ s' -> R (.ok .next) s') :
  codeAny (model vw w) A (.compLoop (.ListComp elt [c₁,⟨target,iter,ifs,0⟩] scope pos) 1 (.ref I) (.ref D) C.env) R s:=by
 have hM : ∀ l,C.M ((D, .list l) :: led) = C.M ((D, .list []) :: led):=fun l => rfl
 refine codeAny_compLoop_in (fun k s' => ∃ i,AS C Γ ((D, .list (l₀ ++ ((List.range i).filter p).map F)) :: led) s' /\ St i s'.heap /\ KG T C.env.locals D s₁ s' /\ i <= n /\ k = n + 1 - i) ?_ (n + 1) ?_
 ·intro k s' hq0
  refine byG fun G kG => ?_
  obtain ⟨i,a',st',ek,hi,rfl⟩ := hq0
  refine kG ?_;clear kG G
  refine byG fun G kG => ?_
  refine X41 (hcls _ _ st') fun _ _ _ _ eI' hTI => ?_
  refine kG ?_;clear kG G
  have hIM' : I ∉ Led.M ((D,LO.list (l₀ ++ ((List.range i).filter p).map F)) :: led):=fun hm => by
   refine Or.elim (List.mem_cons.mp hm) (fun hm => ?_) fun hm => ?_
   ·exact hID hm
   ·exact hIM hm
  have out : ∀ h₁ tk₁,(∀ b o,b ∉ [I] -> s'.heap.get? b = some o -> h₁.get? b = some o) -> AS C Γ ((D, .list (l₀ ++ ((List.range i).filter p).map F)) :: led) { s' with heap:=h₁,toks:=tk₁ } := fun h₁ tk₁ hk => a'.but Z eI' hIM' hI0 fun b o hb e => hk b o (fun q => hb (List.mem_singleton.mp q)) e
  by_cases hlt : i < n
  ·refine W.item i _ _ _ hlt st' fun v h₁ tk₁ hp st₁ hk₁ => ?_
   have a₁:=out h₁ tk₁ hk₁
   have e₁ : KG T C.env.locals D s₁ { s' with heap:=h₁,toks:=tk₁ } := ek.step fun b o _ _ _ e q => hk₁ b o (fun z => hold b o e (List.mem_singleton.mp z)) q
   refine byG fun G kG => ?_
   refine X41 (hcls _ _ st₁) fun _ _ _ _ eI₁ hT₁ => ?_
   refine kG ?_;clear kG G
   refine ownGo eI₁ hT₁ ?_
   refine X10 (turn i (l₀ ++ ((List.range i).filter p).map F) hlt) fun Γ₁ Tn => ?_
   refine Tn.asg _ v _ _ a₁ (hit i v hp _ e₁) fun h₂ k₂ b₂ a₂ => ?_
   have e₂ : KG T C.env.locals D s₁ { s' with heap:=h₂,toks:=k₂ } := e₁.step fun b o n1 _ _ e q => b₂ b o n1 q
   have st₂ : St (i + 1) h₂:=W.frame _ _ _ st₁ fun b hb o e => b₂ b o (hfp b hb).1 e
   refine Tn.tests.run Z a₂ fun h₃ k₃ x₃ a₃ => ?_
   have st₃ : St (i + 1) h₃:=W.frame _ _ _ st₂ fun b hb o e => x₃ b o e
   have e₃ : KG T C.env.locals D s₁ { s' with heap:=h₃,toks:=k₃ } := e₂.step fun b o _ _ _ e q => x₃ b o q
   have hr : (List.range (i + 1)).filter p = (List.range i).filter p ++ (if p i = true then [i] else []):=by
    rw [List.range_succ,List.filter_append];congr 1
    by_cases hpi : p i = true <;> simp [hpi]
   by_cases hpi : p i = true
   ·rw [if_pos hpi]
    refine Tn.elt hpi _ _ _ a₃ fun y s₄ r₄ g₄ a₄ => ?_
    refine X21 (a₄.rep List.mem_cons_self) fun vs nn eD rs => ?_
    have hl : (l₀ ++ ((List.range i).filter p).map F).length <= 1000:=by
     rw [List.length_append,List.length_map]
     have:=List.length_filter_le p (List.range i)
     rw [List.length_range] at this
     lia
    refine append_at eD (fun h₅ hs₅ ho => ?_) (by have:=rs.length;rw [Array.length_toList] at this;rw [this,sizeLine_eq];lia)
    have a₅:=a₄.swap (k:=s₄.toks) Z (Swap.head (y:=.list (l₀ ++ ((List.range i).filter p).map F ++ [F i]))) hs₅ ⟨_,ho,_,_,rfl,by rw [Array.toList_push];exact rs.snoc r₄⟩
    refine ⟨n + 1 - (i + 1),by lia,i + 1, ?_,W.frame _ _ _ st₃ fun b hb o e => (hs₅.2 b (hfp b hb).2.1).trans (g₄.ext b o (hfp b hb).2.2 e),(e₃.gr g₄).step (k:=s₄.toks) fun b o _ n2 _ e q => (hs₅.2 b n2).trans q,hlt,rfl⟩
    rw [hr,if_pos hpi,List.map_append, <- List.append_assoc]
    exact a₅.forget Tn.sub
   ·rw [if_neg hpi]
    refine ⟨n + 1 - (i + 1),by lia,i + 1, ?_,st₃,e₃,hlt,rfl⟩
    rw [hr,if_neg hpi,List.append_nil]
    exact a₃.forget Tn.sub
  ·have hin : i = n:=by lia
   subst hin
   refine W.done _ _ _ st' fun h₁ tk₁ hk₁ => ?_
   exact hR _ (out h₁ tk₁ hk₁) (ek.step fun b o _ _ _ e q => hk₁ b o (fun z => hold b o e (List.mem_singleton.mp z)) q)
 ·exact ⟨0,by rw [show (((List.range 0).filter p).map F) = [] from rfl,List.append_nil];exact a,hst,hk,Nat.zero_le _,rfl⟩
structure CTurn2 (T : List Addr) (w : World) (A : Around) (C : Cx) (target iter₂ target₂ elt : Expr) (ifs₂ : List Expr) (Γ Γ₁ : List (Option PV)) (D : Addr) (led : Led) (pv : PV) (n₂ : Nat) (p₂ : Nat -> Bool) (F₂ P₂ : Nat -> PV) : Prop where
 asg : ∀ l,AsgB w A C target Γ ((D, .list l) :: led) pv Γ₁
 sub : ∀ (k : Nat) q,Γ[k]? = some (some q) -> Γ₁[k]? = some (some q)
 src : ∀ l,Src w A C Γ₁ ((D, .list l) :: led) iter₂ n₂ P₂
 turn : ∀ i l,i < n₂ -> ∃ Γ₂,CTurn T w A C target₂ elt ifs₂ Γ₁ Γ₂ ((D, .list l) :: led) (P₂ i) (p₂ i) (F₂ i)
noncomputable def outL (n₂ : Nat -> Nat) (p₂ : Nat -> Nat -> Bool) (F₂ : Nat -> Nat -> PV) (n : Nat) : List PV:=(List.range n).flatMap fun i => ((List.range (n₂ i)).filter (p₂ i)).map (F₂ i)
theorem compRun2T (Z : CxOk w C) (hT : Tabs T led) {target iter elt target₂ iter₂ : Expr} {ifs₂ : List Expr} {scope : Scope} {pos : Pos} {D I : Addr} {fp : List Addr} {n : Nat} {P' : Nat -> Value -> Prop} {St : Nat -> Heap -> Prop} {P : Nat -> PV} {n₂ : Nat -> Nat} {p₂ : Nat -> Nat -> Bool} {F₂ P₂ : Nat -> Nat -> PV} {R : Result -> Shared -> Prop} {s₁ : Shared}
  (W : Walks vw w A I fp [I] n P' St) (hcls : ∀ i h,St i h -> ∃ T vs d sl,h.get? I = some ⟨.type T,d, .fields vs,sl⟩ /\ ownT.contains T = false) (hI0 : C.h₀.get? I = none) (hIM : I ∉ led.M) (hID : I ≠ D) (hfp : ∀ b ∈ fp,b ≠ C.env.locals /\ b ≠ D /\ b ∉ T)
  (hold : ∀ b o,s₁.heap.get? b = some o -> b ≠ C.env.locals /\ b ≠ D /\ b ≠ I) (hit : ∀ i v,P' i v -> ∀ h,Ext C.h₀ h -> Rep h (C.M ((D, .list []) :: led)) (P i) v) (hn : ∀ i,i <= n -> (outL n₂ p₂ F₂ i).length + n₂ i <= 1000) (hf : ∀ x,foldedSetIterable iter₂ C.env x = pure x)
  (turn : ∀ i,i < n -> ∃ Γ₁,CTurn2 T w A C target iter₂ target₂ elt ifs₂ Γ Γ₁ D led (P i) (n₂ i) (p₂ i) (F₂ i) (P₂ i))
  (a : AS C Γ ((D, .list []) :: led) s) (hst : St 0 s.heap) (hk : Gr T s₁ s)
  (hR : ∀ s',AS C Γ ((D, .list (outL n₂ p₂ F₂ n)) :: led) s' -> Gr T s₁ s' -> R (.ok .next) s') :
  codeAny (model vw w) A (.compLoop (.ListComp elt [⟨target,iter, [],0⟩,⟨target₂,iter₂,ifs₂,0⟩] scope pos) 0 (.ref I) (.ref D) C.env) R s:=by
 refine codeAny_compLoop_out (fun k s' => ∃ i,AS C Γ ((D, .list (outL n₂ p₂ F₂ i)) :: led) s' /\ St i s'.heap /\ Gr T s₁ s' /\ i <= n /\ k = n + 1 - i) hf ?_ (n + 1) ?_
 ·intro k s' hq0
  refine byG fun G kG => ?_
  obtain ⟨i,a',st',ek,hi,rfl⟩ := hq0
  refine kG ?_;clear kG G
  refine byG fun G kG => ?_
  refine X41 (hcls _ _ st') fun _ _ _ _ eI' hTI => ?_
  refine kG ?_;clear kG G
  have hIM' : I ∉ Led.M ((D,LO.list (outL n₂ p₂ F₂ i)) :: led):=fun hm => by
   refine Or.elim (List.mem_cons.mp hm) (fun hm => ?_) fun hm => ?_
   ·exact hID hm
   ·exact hIM hm
  have out : ∀ h₁ tk₁,(∀ b o,b ∉ [I] -> s'.heap.get? b = some o -> h₁.get? b = some o) -> AS C Γ ((D, .list (outL n₂ p₂ F₂ i)) :: led) { s' with heap:=h₁,toks:=tk₁ } := fun h₁ tk₁ hk => a'.but Z eI' hIM' hI0 fun b o hb e => hk b o (fun q => hb (List.mem_singleton.mp q)) e
  by_cases hlt : i < n
  ·refine W.item i _ _ _ hlt st' fun v h₁ tk₁ hp st₁ hk₁ => ?_
   have a₁:=out h₁ tk₁ hk₁
   have e₁ : Gr T s₁ { s' with heap:=h₁,toks:=tk₁ } := ek.step fun b o _ e q => hk₁ b o (fun z => (hold b o e).2.2 (List.mem_singleton.mp z)) q
   refine byG fun G kG => ?_
   refine X41 (hcls _ _ st₁) fun _ _ _ _ eI₁ hT₁ => ?_
   refine kG ?_;clear kG G
   refine ownGo eI₁ hT₁ ?_
   refine X10 (turn i hlt) fun Γ₁ Tn => ?_
   refine Tn.asg _ _ v _ _ a₁ (hit i v hp _ a₁.kp) fun h₂ k₂ b₂ a₂ => ?_
   have e₂ : Gr T s₁ { s' with heap:=h₂,toks:=k₂ } := e₁.step fun b o _ e q => b₂ b o (hold b o e).1 q
   have st₂ : St (i + 1) h₂:=W.frame _ _ _ st₁ fun b hb o e => b₂ b o (hfp b hb).1 e
   refine Tn.src _ _ _ _ a₂ fun xv h₃ k₃ pI kl a₃ x₃ hI hP hkl => hI _ _ fun J fq Sq h₄ k₄ Wk hst₄ x₄ hfq hJn hcJ => ?_
   have a₄ : AS C Γ₁ ((D, .list (outL n₂ p₂ F₂ i)) :: led) { s' with heap:=h₄,toks:=k₄ } := a₃.ext Z x₄
   refine byG fun G kG => ?_
   refine X41 (hcJ _ _ hst₄) fun _ _ _ _ eJ _ => ?_
   refine kG ?_;clear kG G
   have inM : ∀ b,b ∈ Led.M ((D,LO.list (outL n₂ p₂ F₂ i)) :: led) -> ∃ o,h₃.get? b = some o:=fun b hb => by
    refine X11 (List.mem_map.mp hb) fun q hq e => ?_
    refine XAEA (a₃.lg q hq) fun _ o h3 _ => ?_
    exact ⟨o,e ▸ h3⟩
   have neJ : ∀ b o,h₃.get? b = some o -> b ≠ J:=fun b o e z => by rw [z,show h₃.get? J = none from hJn] at e;exact nS e
   have hJM : J ∉ led.M:=fun hm => by
    refine X10 (inM J (List.mem_cons_of_mem _ hm)) fun o e => ?_;exact neJ _ _ e rfl
   refine byG fun G kG => ?_
   refine X11 (id a₃.fr) fun _ q1 _ => X32 q1 fun oL es ep eL dL rL => ?_
   refine kG ?_;clear kG G
   have hD3:=inM D List.mem_cons_self
   have ld : ∀ (b : Addr) o,h₃.get? b = some o -> isSeq o = true -> b ≠ C.env.locals:=fun b o e q z => by
    rw [z,show h₃.get? C.env.locals = some oL from eL] at e;obtain rfl:=Option.some.inj e
    unfold isSeq at q;rw [dL] at q;exact nB q
   have loop : codeAny (model vw w) A (.compLoop (.ListComp elt [⟨target,iter, [],0⟩,⟨target₂,iter₂,ifs₂,0⟩] scope pos) 1 (.ref J) (.ref D) C.env) (fun r s₅ => match r with | .ok _ => ∃ m,m < n + 1 - i /\ ∃ i,AS C Γ ((D, .list (outL n₂ p₂ F₂ i)) :: led) s₅ /\ St i s₅.heap /\ Gr T s₁ s₅ /\ i <= n /\ m = n + 1 - i | .error _ => False) { s' with heap:=h₄,toks:=k₄ } := by
    refine compRunInT (T:=T) (s₁ := { s' with heap:=h₃,toks:=k₃ }) (l₀:=outL n₂ p₂ F₂ i) (P:=P₂ i) (p:=p₂ i) (F:=F₂ i) Z hT Wk hcJ (noneSub a₃.kp hJn) hJM (fun z => ?_) (fun b hb => ?_) neJ (fun j v hv s₅ kb => ?_) (hn i hi) (fun j l hj => Tn.turn j l hj) a₄ hst₄ ⟨fun b o _ _ _ e => x₄ b o e,fun z9 => rfl,fun z9 => rfl,rfl⟩ (fun s₅ a5 kb => ?_)
    ·refine X10 hD3 fun o e => ?_;exact neJ _ _ e z.symm
    ·rcases hfq b hb with rfl | hb
     ·obtain ⟨o,e⟩ := hD3
      exact ⟨fun z => neJ _ _ eL z.symm,fun z => neJ _ _ e z.symm,fun z => hJM (List.mem_map_of_mem (hT _ z))⟩
     ·refine XAEA (hkl b hb) fun m o e q => ?_
      exact ⟨ld b o e q,fun z => m (z ▸ List.mem_append_right _ List.mem_cons_self),fun z => m (List.mem_append_right _ (List.mem_cons_of_mem _ (List.mem_map_of_mem (hT _ z))))⟩
    ·exact (hP j v hv).keep (fun b o e q m => kb.ext b o (ld b o e q) (fun z => m (z ▸ List.mem_append_right _ List.mem_cons_self)) (fun z => m (List.mem_append_right _ (List.mem_cons_of_mem _ (List.mem_map_of_mem (hT _ z))))) e) fun _ _ _ m => m
    ·refine ⟨n + 1 - (i + 1),by lia,i + 1, ?_,W.frame _ _ _ (W.frame _ _ _ st₂ fun b _ o e => x₃ b o e) fun b hb o e => kb.ext b o (hfp b hb).1 (hfp b hb).2.1 (hfp b hb).2.2 e,(e₂.trans (Gr.ofExt (k:=k₃) x₃)).kg kb fun b o e => ⟨(hold b o e).1,(hold b o e).2.1⟩,hlt,rfl⟩
     rw [show outL n₂ p₂ F₂ (i + 1) = outL n₂ p₂ F₂ i ++ ((List.range (n₂ i)).filter (p₂ i)).map (F₂ i) by rw [outL,outL,List.range_succ,List.flatMap_append];simp]
     exact a5.forget Tn.sub
   exact codeAny_compStart_in loop (Wk.self 0 _ _ _ hst₄ loop)
  ·have hin : i = n:=by lia
   subst hin
   refine W.done _ _ _ st' fun h₁ tk₁ hk₁ => ?_
   exact hR _ (out h₁ tk₁ hk₁) (ek.step fun b o _ e q => hk₁ b o (fun z => (hold b o e).2.2 (List.mem_singleton.mp z)) q)
 ·exact ⟨0,a,hst,hk,Nat.zero_le _,rfl⟩
theorem EvC.list2 (Z : CxOk w C) (hT : Tabs T led) {target iter elt target₂ iter₂ : Expr} {ifs₂ : List Expr} {scope : Scope} {pos spos : Pos} {cl : List (Str × Addr)} {n : Nat} {P : Nat -> PV} (hs : Src w A C Γ led iter n P) (hclos : closureFor scope C.env = pure cl) (hcell : ∀ y ∈ scope.names,y.2 ≠ .cell) (hkind : scope.kind = .function)
  (hnames : ∀ y ∈ scope.names,y.2 = .local -> scope.names.lookup y.1 = some .local) (hf : ∀ x,foldedSetIterable iter C.env x = pure x) (nms : List Str) (Γ₀ : List (Option PV)) (nd : nms.Nodup) (dbg : ∀ x ∈ nms,(x == ("__debug__" : Str)) = false)
  (hcl : ∀ q ∈ cl,q ∈ C.env.cells /\ C.env.kindOf q.1 = some .cell)
  (hfree : ∀ (Cn : Addr) (i : Nat) (x : Str) (pv : PV),nms[i]? = some x -> Γ₀[i]? = some (some pv) -> (compEnvC scope cl Cn C.env).kindOf x = some .cell /\ C.env.kindOf x = some .cell /\ (∃ c,cl.lookup x = some c /\ C.env.cells.lookup x = some c) /\ ∃ j : Nat,C.nms[j]? = some x /\ Γ[j]? = some (some pv))
  (n₂ : Nat -> Nat) (p₂ : Nat -> Nat -> Bool) (F₂ P₂ : Nat -> Nat -> PV) (hn : ∀ i,i <= n -> (outL n₂ p₂ F₂ i).length + n₂ i <= 1000) (hf₂ : ∀ Cn x,foldedSetIterable iter₂ (compEnvC scope cl Cn C.env) x = pure x)
  (turn : ∀ (g : Heap) (Cn D : Addr) (i : Nat),CxOk w (C.inner g scope cl Cn nms) -> i < n -> ∃ Γ₁,CTurn2 T w A (C.inner g scope cl Cn nms) target iter₂ target₂ elt ifs₂ Γ₀ Γ₁ D led (P i) (n₂ i) (p₂ i) (F₂ i) (P₂ i)) :
  EvC T w A C Γ led (fun use => comprehension (.ListComp elt [⟨target,iter, [],0⟩,⟨target₂,iter₂,ifs₂,0⟩] scope pos) scope C.env spos (newList []) false (eval iter C.env) use) fun l q => l = led /\ q = .lst (outL n₂ p₂ F₂ n):=fun use s Q E a q => by
 have hcn : ∀ Cn,cellsFrom (Cn + 1) scope.names cl = cl:=fun z9 => cellsNone hcell
 refine comp_in (lo:=.list []) (oA := { cls:=.type "list",dict:=none,data:=.seq ([] : List Value).toArray }) Z hT rfl (fun s Q E h => wpAny_newObj_type h) (fun h M => ⟨#[],0,rfl, .nil⟩) rfl (fun _ _ _ _ _ h1 h2 => codeAny_compStart_list h1 h2) hs hclos hkind hnames hf nms Γ₀ nd dbg hcl (fun Cn i x pv h1 h2 => by rw [hcn];exact hfree Cn i x pv h1 h2) a fun g Cn D I fp P' St s₁ s₃ K => ?_
 obtain ⟨Wk,cls,gI,IM,ID,fpo,hold,hit,ZK,aK,st,gr,a1,g1,n1,D1,bd⟩ := K
 rw [hcn] at ZK aK ⊢
 refine compRun2T (T:=T) (s₁:=s₁) (P:=P) (n₂:=n₂) (p₂:=p₂) (F₂:=F₂) (P₂:=P₂) ZK hT Wk cls gI IM ID (fun b hb => let ⟨x,y,z,_⟩ := fpo b hb; ⟨x,y,z⟩) (fun b o e => let ⟨x,y,z,_⟩ := hold b o e; ⟨x,y,z⟩) hit hn (hf₂ _) (fun i hi => turn g _ _ i ZK hi) aK st gr (fun s₄ a₄ e₄ => ?_)
 exact listOut (Cx' := C.inner g scope cl Cn nms) Z hT rfl rfl a1 g1 n1 D1 a₄ e₄ (fun b o e => (hold b o e).1) fun m x1 x2 x3 x4 x5 x6 => q s₄ _ _ m led _ ⟨rfl,rfl⟩ x1 x2 x3 x4 x5 x6
end
theorem cellsFrom_apart : ∀ (names : List (Str × NameKind)) (n : Nat) (acc : List (Str × Addr)),(∀ p ∈ acc,p.2 < n) -> acc.Pairwise (fun a b => a.2 ≠ b.2) -> (cellsFrom n names acc).Pairwise fun a b => a.2 ≠ b.2:=fun names => by
 induction names with
 | nil => exact fun n acc _ h => h
 | cons q r ih =>
  obtain ⟨x,k⟩ := q
  intro n acc h1 h2
  unfold cellsFrom
  split
  ·refine ih _ _ (fun p hp => ?_) (List.pairwise_cons.mpr ⟨fun p hp => Nat.ne_of_gt (h1 p hp),h2⟩)
   rcases List.mem_cons.mp hp with rfl | hp
   ·exact Nat.lt_succ_self _
   ·exact Nat.lt_succ_of_lt (h1 p hp)
  ·exact ih _ _ h1 h2
theorem apart_of {l : List (Str × Addr)} (h : l.Pairwise fun a b => a.2 ≠ b.2) {a b : Str × Addr} (ha : a ∈ l) (hb : b ∈ l) (n : a.1 ≠ b.1) : a.2 ≠ b.2:=by
 induction h with
 | nil => cases ha
 | @cons x l h1 _ ih =>
  refine Or.elim (List.mem_cons.mp ha) (fun e1 => ?_) fun h3 => ?_
  ·refine Or.elim (List.mem_cons.mp hb) (fun e2 => ?_) fun h4 => ?_
   ·exact absurd (by rw [e1,e2]) n
   ·rw [e1];exact h1 _ h4
  ·refine Or.elim (List.mem_cons.mp hb) (fun e2 => ?_) fun h4 => ?_
   ·rw [e2];exact fun z => h1 _ h3 z.symm
   ·exact ih h3 h4
theorem cellsAt {cm : Str -> Option Value} {h₀ h : Heap} {L : Addr} {cs : List (Str × Addr)} {cells : List (Addr × Obj)} (X : CellsAre cm cs cells) (N : News h₀ L h cells) {n : Str} {c : Addr} (hm : (n,c) ∈ cs) : h.IsCell c (cm n) /\ h₀.get? c = none:=by
 induction X with
 | nil => cases hm
 | cons e _ ih =>
  refine Or.elim (List.mem_cons.mp hm) (fun q => ?_) fun hm => ?_
  ·cases q
   refine Y3 (N _ List.mem_cons_self) fun n1 n2 n3 => ?_
   exact ⟨⟨_,n1,e⟩,n3⟩
  ·exact ih (fun p hp => N p (List.mem_cons_of_mem _ hp)) hm
theorem bindL_not {kf : Str -> Option NameKind} {x : Str} : ∀ {l : List (Str × Value)} {m : Str -> Option Value},x ∉ l.map (·.1) -> bindL kf l m x = m x:=fun {l} => by
 induction l with
 | nil => exact fun z9 => rfl
 | cons q r ih =>
  obtain ⟨n,v⟩ := q
  intro m h
  rw [List.map_cons,List.mem_cons,not_or] at h
  show bindL kf r _ x = _
  rw [ih h.2]
  split
  ·exact if_neg h.1
  ·rfl
theorem bindL_at {kf : Str -> Option NameKind} {x : Str} {v : Value} (k : kf x = some .local) : ∀ {l : List (Str × Value)} {m : Str -> Option Value},(l.map (·.1)).Nodup -> (x,v) ∈ l -> bindL kf l m x = some v:=fun {l} => by
 induction l with
 | nil => exact fun _ h => nomatch h
 | cons q r ih =>
  obtain ⟨n,u⟩ := q
  intro m nd h
  rw [List.map_cons,List.nodup_cons] at nd
  refine Or.elim (List.mem_cons.mp h) (fun e => ?_) fun h => ?_
  ·cases e
   show bindL kf r _ x = _
   rw [bindL_not nd.1,if_pos k]
   exact if_pos rfl
  ·exact ih nd.2 h
theorem bindC_not {kf : Str -> Option NameKind} {x : Str} : ∀ {l : List (Str × Value)} {m : Str -> Option Value},x ∉ l.map (·.1) -> bindC kf l m x = m x:=fun {l} => by
 induction l with
 | nil => exact fun z9 => rfl
 | cons q r ih =>
  obtain ⟨n,v⟩ := q
  intro m h
  rw [List.map_cons,List.mem_cons,not_or] at h
  show bindC kf r _ x = _
  rw [ih h.2]
  split
  ·rfl
  ·exact if_neg h.1
theorem bindC_at {kf : Str -> Option NameKind} {x : Str} {v : Value} (k : kf x ≠ some .local) : ∀ {l : List (Str × Value)} {m : Str -> Option Value},(l.map (·.1)).Nodup -> (x,v) ∈ l -> bindC kf l m x = some v:=fun {l} => by
 induction l with
 | nil => exact fun _ h => nomatch h
 | cons q r ih =>
  obtain ⟨n,u⟩ := q
  intro m nd h
  rw [List.map_cons,List.nodup_cons] at nd
  refine Or.elim (List.mem_cons.mp h) (fun e => ?_) fun h => ?_
  ·cases e
   show bindC kf r _ x = _
   rw [bindC_not nd.1,if_neg k]
   exact if_pos rfl
  ·exact ih nd.2 h
theorem hideTs {K : Frag} (hK : noTabs K = true) : ∀ {Ts : List Addr} {h : Heap},Ts.Nodup -> (∀ t ∈ Ts, ∃ ps,h.get? t = some (tabObj ps)) -> K.In h -> (∃ p loose mean mg mb,Top p loose mean mg mb h) -> K.In (hideAll h Ts) /\ ∃ p loose mean mg mb,Top p loose mean mg mb (hideAll h Ts):=fun {Ts} => by
 induction Ts with
 | nil => exact fun _ _ X T => ⟨X,T⟩
 | cons a r ih =>
  intro h nd ht X T
  rw [List.nodup_cons] at nd
  refine X10 (ht a List.mem_cons_self) fun ps e => ?_
  refine X50 T fun p loose mean mg mb T => ?_
  refine ih (h:=h.hide a) nd.2 (fun t h2 => ?_) (hide_K e X hK) ⟨_,_,_,_,_,hide_top e T⟩
  refine X10 (ht t (List.mem_cons_of_mem _ h2)) fun ps' e' => ?_
  exact ⟨ps',(Heap.hide_ne h (fun q : t = a => nd.1 (q ▸ h2))).trans e'⟩
section
variable {w : World} {C : Cx} {A : Around} {Γ Γ' Γ'' : List (Option PV)} {led led' : Led} {s : Shared} {T : List Addr}
noncomputable abbrev TabsH (T : List Addr) (h : Heap) : Prop := ∀ t ∈ T, ∃ ps,h.get? t = some (tabObj ps) /\ TriplesOk ps.toList
noncomputable def FnM (mk : List Value -> PySem.Args) (T : List Addr) (w : World) (f : Addr) (need : Nat) (args : List PV) (r : PV) : Prop :=
 ∀ (dp un : Nat) (gd : Option (List Code)) (fr : Option (List Env)) (s : Shared) (R : Result -> Shared -> Prop) (vs : List Value) (M : List Addr),dp + need < recursionLimit -> un + 8 * need < cLine -> (hd.heap_1 w.params).In s.heap -> (∃ p loose mean mg mb,Top p loose mean mg mb s.heap) ->
  TabsH T s.heap -> (∀ b ∈ M, ∃ o,s.heap.get? b = some o) -> Reps s.heap M args vs ->
  (∀ v s',Rep s'.heap M r v -> Gr T s s' -> TabsH T s'.heap -> (AllBare s.gens -> AllBare s'.gens) -> R (.ok (.ret v)) s') ->
  codeAny (model vw w) { handled:=none,depth:=dp,frames:=fr,guards:=gd,units:=un } (.call (.ref f) (mk vs)) R s
noncomputable abbrev FnG:=FnM fun vs => ⟨vs, []⟩
noncomputable def EndsG (T : List Addr) (C : Cx) (r : PV) (f : Flow) (s : Shared) : Prop := ∃ v,Rep s.heap (T ++ C.M₀) r v /\ (f = .ret v \/ (f = .next /\ v = .none)) /\ Ext C.h₀ s.heap /\ C.X s /\ TabsH T s.heap
theorem EndsG.ret {r : PV} {v : Value} (a : AS C Γ led s) (hT : Tabs T led) (q : Rep s.heap (C.M led) r v) : EndsG T C r (.ret v) s :=
 ⟨v,q.keep (Ext.sk noExt) (fun _ _ _ m z => m (by
  refine Or.elim (List.mem_append.mp z) (fun z => ?_) fun z => ?_
  ·exact List.mem_append_right _ (List.mem_map_of_mem (hT _ z))
  ·exact List.mem_append_left _ z)), .inl rfl,a.kp,a.x,fun t ht => a.tabAt hT ht⟩
noncomputable abbrev XOk (T : List Addr) (C : Cx) : Prop := ∀ s h k gs d,T ≠ [] -> C.X s -> (AllBare s.gens -> AllBare gs) -> C.X { s with heap:=h,toks:=k,gens:=gs,drawn:=d }
theorem FnM.enterR {mk : List Value -> PySem.Args} {f : Addr} {need : Nat} {args : List PV} {r : PV} (nms : List Str) (rest : List Str) {name qual : Str} {params : Arguments} {body : List Stmt} {scope : Scope} {dV kV doc pm cdv ct oc : Value} {an od : Option Addr} {osl : Array (Option Value)}
  (ho : (hd.heap_1 w.params).lookup f = some ⟨oc,od, .func (fnOf name qual params body scope dV kV doc pm an cdv ct),osl⟩) (hcd : codeIn (hd.heap_1 w.params) cdv qual = true) (hK : noTabs (hd.heap_1 w.params) = true) (ndT : T.Nodup)
  (hb : ∀ (s : Shared) (vs : List Value),vs.length = args.length -> (hd.heap_1 w.params).In s.heap -> (∃ h M,Reps h M args vs) -> BindsTo s (fnOf name qual params body scope dV kV doc pm an cdv ct) (mk vs) (nms.zip vs))
  (hloc : (nms.all fun x => scope.names.lookup x == some .local || scope.names.lookup x == some .cell) = true) (hdb : ((nms ++ rest).all fun x => !(x == ("__debug__" : Str))) = true) (nd : (nms ++ rest).Nodup) (hnd : ((cellsFrom 0 scope.names []).map (·.1)).Nodup)
  (hco : scope.isCoroutine = false) (hgen : scope.isGenerator = false) (hk : scope.kind = .function) (hlen : nms.length = args.length)
  (run : ∀ (C : Cx) (A : Around) (L : Addr),CxOk w C -> C.env = envOfC qual scope L f cdv -> C.nms = nms ++ rest -> Around.ok A need -> XOk T C -> Run w A C (args.map some ++ List.replicate rest.length none) (T.map fun t => (t,LO.tab)) body (EndsG T C r)) : FnM mk T w f (need + 1) args r:=by
 intro dp un gd fr s R vs M hdp hun KX TX hP hM ra hret
 refine X50 (id TX) fun p loose mean mg mb Tp => ?_
 have hvl:=ra.length
 have ndn : nms.Nodup:=nd.sublist (List.sublist_append_left _ _)
 have hl : ∀ x ∈ nms,scope.names.lookup x = some .local \/ scope.names.lookup x = some .cell:=fun x hx => by
  have:=List.all_eq_true.mp hloc x hx
  rw [Bool.or_eq_true,beq_iff_eq,beq_iff_eq] at this
  exact this
 have hz1 : ((nms.zip vs).map (·.1)).Nodup:=ndn.sublist (zip_sub nms vs)
 refine con_enterC (binds:=nms.zip vs) KX Tp ho hcd (by dsimp only;lia) (hb s vs hvl KX ⟨_,_,ra⟩) (List.all_eq_true.mpr fun y hy => ?_) hnd (fun L' h₁ tk cells F N Y => ?_) hco hgen hk
 ·have:=List.all_eq_true.mp hloc y.1 (List.of_mem_zip hy).1
  exact this
 have hL0 : s.heap.get? L' = none:=Heap.get?_none_of_le F.above
 have hsub : ∀ b o,(hideAll s.heap T).get? b = some o -> s.heap.get? b = some o:=fun b o e => of_hideAll _ e
 refine Y2 (hideTs hK ndT (fun t ht => (hP t ht).imp fun _ e => e.1) KX TX) fun K1 T1 => ?_
 let M₀:=M.filter fun b => !T.contains b
 have Z : CxOk w ⟨hideAll s.heap T,M₀,envOfC qual scope L' f cdv,nms ++ rest,fun s' => (T = [] -> s'.gens = s.gens /\ s'.drawn = s.drawn) /\ (AllBare s.gens -> AllBare s'.gens) /\ s'.os = s.os⟩ :=
  ⟨fun _ _ _ x => x,hk,nd,fun x hx => by simpa using List.all_eq_true.mp hdb x hx,K1,T1,rfl,rfl,noneSub hsub hL0,fun b hb => by
   refine Y2 (List.mem_filter.mp hb) fun hb hne => ?_
   refine X10 (hM b hb) fun o e => ?_
   exact ⟨o,hideAll_get _ e fun q => by simp [q] at hne⟩,fun x c h1 h2 => ⟨noneSub hsub (cellsAt Y N h1).2,fun y c' h3 h4 => apart_of (cellsFrom_apart scope.names (L' + 1) [] (fun _ h => nomatch h) .nil) h3 h1 h4⟩⟩
 have rr : ∀ {pv : PV} {v : Value},Rep s.heap M pv v -> Rep h₁ (M₀ ++ (T.map fun t => (t,LO.tab)).map (·.1)) pv v:=fun r => r.keepS (Ext.sk F.keep) fun b o e q m z => by
  refine Or.elim (List.mem_append.mp z) (fun z => ?_) fun z => ?_
  ·exact m (List.mem_filter.mp z).1
  ·have z : b ∈ T:=by simpa using z
   refine X11 (hP b z) fun ps e2 _ => ?_
   rw [e] at e2
   obtain rfl:=Option.some.inj e2;exact nB q
 have neL : ∀ t ∈ T,t ≠ L' := fun t ht z => by
  refine X11 (hP t ht) fun ps e2 _ => ?_
  rw [z,hL0] at e2;exact nS e2
 refine wpAny_mono (run _ _ L' Z rfl rfl ⟨rfl, ?_, ?_⟩ (fun s' h k gs d hne x e => ⟨fun z => absurd z hne,fun z => e (x.2.1 z),x.2.2⟩) _ ⟨⟨_,F.ns,fun i x pv h1 h2 => ?_⟩,fun b o e => F.keep b o (hsub b o e),(fun q hq => ?_),(by rw [List.map_map,show ((fun x : Addr × LO => x.1) ∘ fun t => (t,LO.tab)) = id from rfl,List.map_id];exact ndT),(fun x c h1 h2 => ⟨_,(cellsAt Y N h1).1⟩),(fun q hq => ?_),(fun _ => ⟨rfl,rfl⟩),id,rfl⟩) (fun fl s' he => ?_) fun _ _ e => e
 ·dsimp only [Around.deeper];lia
 ·dsimp only [Around.deeper];lia
 ·have hi : i < args.length:=by
   rw [List.getElem?_append] at h2
   split at h2
   ·rename_i hi;simpa using hi
   ·rw [List.getElem?_replicate] at h2
    split at h2 <;> cases h2
  rw [List.getElem?_append_left (by simpa using hi),List.getElem?_map,Option.map_eq_some_iff] at h2
  obtain ⟨pv',h3,h4⟩ := h2
  obtain rfl:=Option.some.inj h4
  obtain ⟨v,h5,h6⟩ := ra.at h3
  rw [show (⟨hideAll s.heap T,M₀,envOfC qual scope L' f cdv,nms ++ rest,fun s' => (T = [] -> s'.gens = s.gens /\ s'.drawn = s.drawn) /\ (AllBare s.gens -> AllBare s'.gens) /\ s'.os = s.os⟩ : Cx).nms = nms ++ rest from rfl,List.getElem?_append_left (by lia)] at h1
  have hz : (x,v) ∈ nms.zip vs:=List.mem_of_getElem? (i:=i) (by rw [List.getElem?_zip_eq_some];exact ⟨h1,h5⟩)
  refine ⟨v, ?_,rr h6⟩
  refine Or.elim (hl x (List.mem_of_getElem? h1)) (fun k => ?_) fun k => ?_
  ·exact .inl ⟨k,bindL_at k hz1 hz⟩
  ·refine X10 (Option.isSome_iff_exists.mp (cellsFrom_some scope.names (L' + 1) [] (.inl k))) fun c hc => ?_
   refine .inr ⟨.inl k,c,hc, ?_⟩
   have:=(cellsAt Y N (mem_of_lookup hc)).1
   rw [bindC_at (fun z => by rw [show (envOfC qual scope L' f cdv).kindOf x = scope.names.lookup x from rfl,k] at z;cases z) hz1 hz] at this
   exact this
 ·refine X11 (List.mem_map.mp hq) fun t ht q2 => ?_;subst q2
  refine X11 (hP t ht) fun ps e k => ?_
  exact ⟨hideAll_none _ ht,_,F.keep _ _ e,ps,rfl,k⟩
 ·refine X11 (List.mem_map.mp hq) fun t ht q2 => ?_;subst q2
  exact neL t ht
 ·refine X12 he fun v rv hf q0 => Y3 q0 fun ex q1 tb => Y3 q1 fun x1 x2 x3 => ?_
  have:=hret v s' (rv.keep (Ext.sk noExt) fun b o _ m z => m (by
   by_cases hb : b ∈ T
   ·exact List.mem_append_left _ hb
   ·exact List.mem_append_right _ (List.mem_filter.mpr ⟨z,by simpa using hb⟩))) ⟨fun b o hb e => ex b o (hideAll_get _ e hb),fun z => (x1 z).1,fun z => (x1 z).2,x3⟩ tb x2
  rcases hf with rfl | ⟨rfl,rfl⟩
  ·exact this
  ·exact this
theorem FnM.enter {mk : List Value -> PySem.Args} {f : Addr} {need : Nat} {args : List PV} {r : PV} (nms : List Str) (rest : List Str) {name qual : Str} {params : Arguments} {body : List Stmt} {scope : Scope} {dV kV doc pm cdv ct oc : Value} {an od : Option Addr} {osl : Array (Option Value)}
  (ho : (hd.heap_1 w.params).lookup f = some ⟨oc,od, .func (fnOf name qual params body scope dV kV doc pm an cdv ct),osl⟩) (hcd : codeIn (hd.heap_1 w.params) cdv qual = true) (hK : noTabs (hd.heap_1 w.params) = true) (ndT : T.Nodup)
  (hb : ∀ (s : Shared) (vs : List Value),vs.length = args.length -> (hd.heap_1 w.params).In s.heap -> BindsTo s (fnOf name qual params body scope dV kV doc pm an cdv ct) (mk vs) (nms.zip vs))
  (hloc : (nms.all fun x => scope.names.lookup x == some .local || scope.names.lookup x == some .cell) = true) (hdb : ((nms ++ rest).all fun x => !(x == ("__debug__" : Str))) = true) (nd : (nms ++ rest).Nodup) (hnd : ((cellsFrom 0 scope.names []).map (·.1)).Nodup)
  (hco : scope.isCoroutine = false) (hgen : scope.isGenerator = false) (hk : scope.kind = .function) (hlen : nms.length = args.length)
  (run : ∀ (C : Cx) (A : Around) (L : Addr),CxOk w C -> C.env = envOfC qual scope L f cdv -> C.nms = nms ++ rest -> Around.ok A need -> XOk T C -> Run w A C (args.map some ++ List.replicate rest.length none) (T.map fun t => (t,LO.tab)) body (EndsG T C r)) : FnM mk T w f (need + 1) args r :=
 FnM.enterR nms rest ho hcd hK ndT (fun s vs a b _ => hb s vs a b) hloc hdb nd hnd hco hgen hk hlen run
end
section
variable {w : World} {C : Cx} {A : Around} {Γ Γ' Γ'' : List (Option PV)} {led led' : Led} {s : Shared} {T : List Addr} {K : Flow -> Shared -> Prop} {rest : List Stmt}
theorem FnG.fn {f : Addr} {need : Nat} {args : List PV} {r : PV} (h : FnG [] w f need args r) : Fn w f need args r:=fun dp un gd fr s R vs M hd hu KX TX hM ra k =>
 h dp un gd fr s R vs M hd hu KX TX (fun _ h => nomatch h) hM ra fun v s' rv g _ _ => by
  have e:=g.eq
  have e2 : Ext s.heap s'.heap:=fun b o q => g.ext b o (fun z => nomatch z) q
  rw [e]
  exact k v _ _ rv e2
theorem FnT.G {f : Addr} {need : Nat} {args : List PV} {r : PV} (h : FnT w f need args r) : FnG [173] w f need args r:=fun dp un gd fr s R vs M hd hu KX TX hT hM ra k => by
 refine X11 (hT 173 List.mem_cons_self) fun ps e t => ?_
 exact h dp un gd fr s R vs M ps hd hu KX TX e t hM ra fun v h k2 gs ps' rv ex hP ht hb =>
  k v _ rv ⟨fun b o n e => ex b o (fun z => n (z ▸ List.mem_cons_self)) e,(fun z => nomatch z),(fun z => nomatch z),rfl⟩ (fun t h => by rw [List.mem_singleton.mp h];exact ⟨_,hP,ht⟩) hb
theorem PureT.callG (Z : CxOk w C) (hX : XOk T C) (hne : T ≠ []) {fn : Str} {fp cpos : Pos} {es : List Expr} {f : Addr} {need : Nat} {args : List PV} {q : PV}
  (F : FnG T w f need args q) (hA : Around.ok A need) (hm : Tabs T led) (hf : Pure w A C Γ led (.Name fn fp) (.val (.ref f))) (hkp : keepIn (hd.heap_1 w.params) (.ref f) = true) (ha : Args w A C Γ led es args) : PureT T w A C Γ led (.Call (.Name fn fp) es [] cpos) q:=fun s Q E a r =>
 wpAny_Call_NameR (hf s _ _ a fun v h1 k1 r1 e1 a1 => by
  apply Rep.elV r1
  refine callWX Z (.inr (.inr hkp)) ha a1 fun vs h2 k2 rs e2 a2 => ?_
  refine byG fun G kG => ?_
  refine X50 Z.T fun p' loose mean mg mb Tp => ?_
  refine kG ?_;clear kG G
  obtain ⟨ha',dp,fr,gd,un⟩ := A
  refine Y3 hA fun hh hd hu => ?_
  dsimp only at hh hd hu
  subst hh
  refine wpAny_call (F dp un gd fr _ _ vs (C.M led) hd hu (fun b o e => a2.kp b o (Z.K b o e)) ⟨_,_,_,_,_,Tp.keeps a2.kp⟩ (fun t ht => a2.tabAt hm ht) (a2.alive Z) rs fun v s' rv g ht hb => ?_)
  have x : C.X s' := by
   have:=hX { s with heap:=h2,toks:=k2 } s'.heap s'.toks s'.gens s'.drawn hne a2.x hb
   have e : s' = { ({ s with heap:=h2,toks:=k2 } : Shared) with heap:=s'.heap,toks:=s'.toks,gens:=s'.gens,drawn:=s'.drawn } := by
    obtain ⟨a1,a2,a3,a4,a5⟩ := s'
    have:=g.os
    dsimp only at this ⊢
    rw [this]
   rw [e];exact this
  exact r _ _ rv (.pre (e1.trans e2) g) (AS.gr (C' := C) a2 hm g ht x))
noncomputable def StK (C : Cx) (x : Str) : Prop:=C.env.kindOf x = some .local \/ (C.env.kindOf x = some .cell /\ ∃ c,C.env.cells.lookup x = some c)
theorem AS.set (Z : CxOk w C) (a : AS C Γ led s) {i : Nat} {x : Str} {pv : PV} {v : Value} (hx : Nth C.nms i x) (hk : StK C x) (r : Rep s.heap (C.M led) pv v) (hp : Put Γ i pv Γ') {Q : Unit -> Shared -> Prop} {E : Value -> Shared -> Prop}
  (h : ∀ h' k,SK (C.M led) s.heap h' -> AS C Γ' led { s with heap:=h',toks:=k } -> Q () { s with heap:=h',toks:=k }) : wpAny (model vw w) A (storeName C.env x v) Q E s:=by
 rw [hp.set] at h
 refine Or.elim hk (fun hk => ?_) fun q1 => Y2 q1 fun hk q0 => X10 q0 fun c hc => ?_
 ·exact a.setL Z hx.at hk r h
 ·exact a.setC Z hx.at hk hc r fun h' k _ => h h' k
theorem Run.letG (Z : CxOk w C) {i : Nat} {x : Str} {p pos : Pos} {e : Expr} {pv : PV} (h : PureT T w A C Γ led e pv) (hx : Nth C.nms i x) (hk : StK C x) (hp : Put Γ i pv Γ') (hs : swapsWith e (some (.Name x p)) pos.line C.env = pure false) (r : Run w A C Γ' led rest K) : Run w A C Γ led (.Assign [.Name x p] e pos :: rest) K :=
 .st fun s a => wpAny_Assign_Name (h s _ _ a fun v s' rv g a' => a'.set Z hx hk rv hp fun h2 k2 _ a2 => r _ a2) hs
theorem Asg.set (Z : CxOk w C) {i : Nat} {x : Str} {p : Pos} {pv : PV} (hx : Nth C.nms i x) (hk : StK C x) (hp : Put Γ i pv Γ') : Asg w A C (.Name x p) Γ led pv Γ' := fun s v Q E a r h => wpAny_assign_Name (a.set Z hx hk r hp h)
theorem Run.let2g (Z : CxOk w C) (hh : A.handled = none) {i j : Nat} {x y : Str} {k1 k2 : Nat} {p1 p2 p3 p4 pos : Pos} {e f : Expr} {p q : PV} (he : Args w A C Γ led [e,f] [p,q]) (hx : Nth C.nms i x) (hy : Nth C.nms j y) (kx : StK C x) (ky : StK C y) (hq : Put Γ j q Γ') (hp : Put Γ' i p Γ'')
  (hs : swapsWithSole [.Tuple [.Name x p1, .Name y p2] k1 p3] (.Tuple [e,f] k2 p4) pos.line C.env = pure false) (hw : swappedStores [.Tuple [.Name x p1, .Name y p2] k1 p3] (.Tuple [e,f] k2 p4) C.env = pure (some [x,y]))
  (r : Run w A C Γ'' led rest K) : Run w A C Γ led (.Assign [.Tuple [.Name x p1, .Name y p2] k1 p3] (.Tuple [e,f] k2 p4) pos :: rest) K :=
 .st fun s a => Assign_Tuple_swapped (Pure.tuple Z he (Nat.le_of_ble_eq_true rfl) s _ _ a fun v h1 k1 r1 e1 a1 => by
  refine byG fun G kG => ?_
  refine X41 r1.tup2 fun ad v₁ v₂ n q4 q8 => Y3 q8 fun e r₁ r₂ => ?_;subst q4
  refine kG ?_;clear kG G
  refine wpAny_unpackItems_tuple (items := #[v₁,v₂]) hh ⟨_,e,rfl,_,rfl⟩ fun h' ex => ?_
  have ex' : Ext h1 h' := fun b o q => ex b o (fun z => by rw [z] at q;exact absurd (Heap.lt_size q) (Nat.lt_irrefl _)) q
  have a2 : AS C Γ led { s with heap:=h',toks:=k1 } := a1.ext Z ex'
  refine wpAny_assignInOrder_more (wpAny_bindName (a2.set Z hy ky (r₂.ext ex') hq fun h3 k3 sk a3 => wpAny_assignInOrder_more (wpAny_bindName (a3.set Z hx kx ((r₁.ext ex').keep sk fun _ _ _ m => m) hp fun h4 k4 _ a4 => wpAny_assignInOrder_none (r _ a4)))))) hs hw
theorem toFn {f : Addr} {need : Nat} {args : List PV} {r : PV} (F : Fn w f need args r) (hA : Around.ok A need) : Gv w A (.ref f) [] args r:=Gv.fn F hA.1 hA.2.1 hA.2.2
/- operations -/
theorem oFDiv {a b : Int} (hb : b ≠ 0) (hs : b.natAbs < 1073741824) : Op2 w A (binaryOp .FloorDiv) (.int a) (.int b) (.int (a.fdiv b)):=opI fun _ _ _ _ _ q => floordiv_int hb (q _ _) (.inl (PyProof.noPylong_small hs))
theorem oMod {a b : Int} (hb : b ≠ 0) : Op2 w A (binaryOp .Mod) (.int a) (.int b) (.int (a.fmod b)):=opI fun _ _ _ _ _ q => mod_int' hb (q _ _)
theorem oPow {a n : Int} (hn : 0 <= n) (hn2 : n <= 1000000) (ha : a.natAbs < 2 ^ 64) : Op2 w A (binaryOp .Pow) (.int a) (.int n) (.int (a ^ n.toNat)):=opI fun _ _ _ _ _ q => pow_int_small hn hn2 ha (q _ _)
theorem oShl {a n : Int} (hn : 0 <= n) (hn2 : n <= 1000000) (ha : a.natAbs < 2 ^ 64) : Op2 w A (binaryOp .LShift) (.int a) (.int n) (.int (a * 2 ^ n.toNat)):=opI fun _ _ _ _ _ q => lshift_int_small hn hn2 ha (q _ _)
theorem oShr {a n : Int} (hn : 0 <= n) : Op2 w A (binaryOp .RShift) (.int a) (.int n) (.int (a.fdiv (2 ^ n.toNat))):=opI fun _ _ _ _ _ q => rshift_int hn (q _ _)
theorem oAddS {x y z : Str} (hz : x.length + y.length <= 1000) (e : x ++ y = z) : Op2 w A (binaryOp .Add) (.str x) (.str y) (.str z):=fun M s Q E va vb _ ra rb q => by
 subst e
 (apply Rep.elS ra;intro z9);(apply Rep.elS rb;intro z9)
 exact PyProof.Rows.add_str (fun t k => q _ s.heap k (.str _ t) noExt) (by rw [sizeLine_eq];lia)
theorem oMulS {x y : Str} {n : Int} (hx : x.length <= 16) (h0 : 0 <= n) (h1 : n <= 1000) (e : Txt.mul x n = y) : Op2 w A (binaryOp .Mult) (.str x) (.int n) (.str y):=fun M s Q E va vb _ ra rb q => by
 subst e
 (apply Rep.elS ra;intro z9);(apply Rep.elI rb;intro z9)
 exact KXi.mul rfl hx (by lia) (by lia) fun t k _ _ => q _ s.heap k (.str _ t) noExt
theorem Reps.append {h : Heap} {M : List Addr} {b : List PV} {us : List Value} : ∀ {a : List PV} {vs : List Value},Reps h M a vs -> Reps h M b us -> Reps h M (a ++ b) (vs ++ us):=fun {a} => by
 induction a with
 | nil => intro vs r r2;apply Reps.elN r;exact r2
 | cons p a ih => intro vs r r2;cases r with | cons r1 r => exact .cons r1 (ih r r2)
theorem oAddL {a b : List PV} (hz : a.length + b.length <= 1000) : Op2 w A (binaryOp .Add) (.lst a) (.lst b) (.lst (a ++ b)):=fun M s Q E va vb hM ra rb q => by
 apply Rep.elL ra;intro x vs n e m rs
 apply Rep.elL rb;intro y us k e2 m2 rs2
 have h1:=rs.length
 have h2:=rs2.length
 rw [Array.length_toList] at h1 h2
 refine PySem.P.add_list e e2 ?_ (by rw [h1,h2,sizeLine_eq];lia)
 have:=lstNew (rs.append rs2) hM
 rw [show (vs.toList ++ us.toList).toArray = vs ++ us by simp] at this
 exact q _ _ s.toks this fun b o e => Heap.get?_push_of_some _ e
theorem oInS {x y : Str} {b : Bool} (h : (!(Builtin.Str.occurrences x y 0 x.length 1).isEmpty) = b) : Op2 w A (compareOp .In) (.str y) (.str x) (.bool b):=fun M s Q E va vb _ ra rb q => by
 subst h
 (apply Rep.elS ra;intro z9);(apply Rep.elS rb;intro z9)
 exact PyProof.Rows.in_str (q _ s.heap s.toks (.bool _) noExt)
theorem oEqB {x y : Array UInt8} : Op2 w A (compareOp .Eq) (.bytes x) (.bytes y) (.bool (x.toList == y.toList)):=fun M s Q E va vb _ ra rb q => by
 (apply Rep.elY ra;intro z9);(apply Rep.elY rb;intro z9)
 exact PySem.W.eq_bytes (q _ s.heap s.toks (.bool _) noExt)
end
section
variable {w : World} {C : Cx} {A : Around} {Γ Γ' Γ'' : List (Option PV)} {led led' : Led} {s : Shared} {T : List Addr} {K : Flow -> Shared -> Prop} {rest : List Stmt}
theorem Src.ofRange (Z : CxOk w C) (hh : A.handled = none) {x : Str} {np pos : Pos} {es : List Expr} {ps : List PV} {a b c : Int} {n : Nat} (hf : Pure w A C Γ led (.Name x np) (.val (.type "range"))) (ha : Args w A C Γ led es ps)
  (hr : ∀ (s : Shared) (Q E : Value -> Shared -> Prop) M vs,Reps s.heap M ps vs -> (∀ t u v k,Q (.ref s.heap.objs.size) { s with heap:=s.heap.push { cls:=.type "range",data:=.fields #[.int a t, .int b u, .int c v] },toks:=k }) -> wpAny (model vw w) A (call (.type "range") vs) Q E s)
  (hsm : Builtin.Range.small a b c = true) (hn : Builtin.Range.rangeSize a b c = (n : Int)) : Src w A C Γ led (.Call (.Name x np) es [] pos) n (fun i => .int (a + (i : Int) * c)):=fun s Q E as h =>
 wpAny_Call_NameR (hf s _ E as fun v h1 k1 r1 e1 a1 => by
  apply Rep.elV r1
  refine callWX Z (.inr (.inl ⟨_,rfl⟩)) ha a1 fun vs h2 k2 rs e2 a2 => hr _ _ _ _ vs rs fun t u v k => ?_
  refine h _ _ _ _ [] (a2.ext Z fun b o e => Heap.get?_push_of_some _ e) (fun b o e => Heap.get?_push_of_some _ (e2 b o (e1 b o e))) (Iter.range hh (Heap.get?_push_size _ rfl) hsm n hn) (fun i v q => ?_) (fun b hb => nomatch hb)
  obtain ⟨t,rfl⟩ := q
  exact .int _ _)
theorem smallR {a b : Int} (h0 : 0 <= a) (h1 : a <= 1000) (h2 : 0 <= b /\ b <= 1000) : Builtin.Range.small a b 1 = true:=by
 have g : ∀ n : Int,0 <= n -> n <= 1000 -> Builtin.Range.rangeFitsLong n = true:=fun n h1 h2 => by
  unfold Builtin.Range.rangeFitsLong
  simp only [Bool.and_eq_true,decide_eq_true_eq]
  lia
 have hz : 0 <= Builtin.Range.rangeSize a b 1 /\ Builtin.Range.rangeSize a b 1 <= 1000:=by rw [rangeSize_one];split <;> lia
 unfold Builtin.Range.small
 rw [g a h0 h1,g b h2.1 h2.2,g 1 (by lia) (by lia),g _ hz.1 hz.2]
 simp [g b h2.1 h2.2]
theorem Src.range1 (Z : CxOk w C) (hh : A.handled = none) {x : Str} {np pos : Pos} {e : Expr} {b : Int} {n : Nat} (hf : Pure w A C Γ led (.Name x np) (.val (.type "range"))) (ha : Args w A C Γ led [e] [.int b]) (hb : b = (n : Int)) (hn : n <= 1000) : Src w A C Γ led (.Call (.Name x np) [e] [] pos) n (fun i => .int (i : Int)):=by
 have:=Src.ofRange (pos:=pos) (a:=0) (b:=b) (c:=1) (n:=n) Z hh hf ha (fun s Q E M vs r q => by
  apply Reps.elC r;intro _ _ r1 t
  apply Reps.elN t;(apply Rep.elI r1;intro z9);exact call_range_1 (q _ _ _ _)) (smallR (by lia) (by lia) (by lia)) (by rw [rangeSize_one];subst hb;split <;> lia)
 simpa using this
theorem Src.range2 (Z : CxOk w C) (hh : A.handled = none) {x : Str} {np pos : Pos} {es : List Expr} {a b : Int} {n : Nat} (hf : Pure w A C Γ led (.Name x np) (.val (.type "range"))) (ha : Args w A C Γ led es [.int a, .int b]) (ha0 : 0 <= a) (hb : b = a + (n : Int)) (hn : b <= 1000) : Src w A C Γ led (.Call (.Name x np) es [] pos) n (fun i => .int (a + (i : Int))):=by
 have:=Src.ofRange (pos:=pos) (a:=a) (b:=b) (c:=1) (n:=n) Z hh hf ha (fun s Q E M vs r q => by
  apply Reps.elC r;intro _ _ r1 t
  apply Reps.elC t;intro _ _ r2 t
  apply Reps.elN t;(apply Rep.elI r1;intro z9);(apply Rep.elI r2;intro z9);exact call_range_2 (q _ _ _ _)) (smallR (by lia) (by lia) (by lia)) (by rw [rangeSize_one];subst hb;split <;> lia)
 simpa using this
theorem Src.bytes (hh : A.handled = none) {e : Expr} {b : Array UInt8} (h : Pure w A C Γ led e (.bytes b)) : Src w A C Γ led e b.size (fun i => .int ((b.getD i 0).toNat : Int)):=fun s Q E as q =>
 h s _ E as fun v h1 k1 r1 e1 a1 => by
  apply Rep.elY r1;intro t
  refine q _ h1 k1 (fun i v => ∃ c u,b[i]? = some c /\ v = .int (c.toNat : Int) u) [] a1 e1 (fun Q E k => KBw.pyIter_bytes ?_) (fun i v hv => ?_) (fun b hb => nomatch hb)
  ·refine k _ [h1.objs.size] _ _ k1 (KBw.walks hh _ b t) ⟨_,Heap.get?_push_size _ rfl,rfl,rfl⟩ (fun b o e => Heap.get?_push_of_some _ e) (fun b hb => .inl (List.mem_singleton.mp hb)) noneAt ?_
   rintro i hp ⟨⟨c,d,dt,sl⟩,e,e1,e2⟩
   dsimp only at e1 e2
   subst e1 e2
   exact ⟨_,_,d,sl,e,by decide⟩
  ·refine X21 hv fun c u hc q3 => ?_;subst q3
   have : b.getD i 0 = c:=by rw [Array.getD_eq_getD_getElem?,hc];rfl
   show Rep h1 (C.M led) (.int ((b.getD i 0).toNat : Int)) _
   rw [this]
   exact .int _ _
theorem Src.strA (hh : A.handled = none) {e : Expr} {x : Str} (h : Pure w A C Γ led e (.str x)) (ha : x.cps.all (· < 128) = true) : Src w A C Γ led e x.cps.size (fun i => .str ⟨#[x.cps.getD i 0]⟩):=fun s Q E as q =>
 h s _ E as fun v h1 k1 r1 e1 a1 => by
  apply Rep.elS r1;intro t
  refine q _ h1 k1 _ [] a1 e1 (Iter.str hh ha) (fun i v hv => ?_) (fun b hb => nomatch hb)
  refine X21 hv fun c u hc q3 => ?_;subst q3
  have : x.cps.getD i 0 = c:=by rw [Array.getD_eq_getD_getElem?,hc];rfl
  show Rep h1 (C.M led) (.str ⟨#[x.cps.getD i 0]⟩) _
  rw [this]
  exact .str _ _
theorem Reps.ints {h : Heap} {M : List Addr} : ∀ {ns : List Int} {vs : List Value},Reps h M (ns.map .int) vs -> IntsAre vs ns:=fun {ns} => by
 induction ns with
 | nil => intro vs r;apply Reps.elN r;exact .nil
 | cons n ns ih => intro vs r;cases r with | cons r1 r => (apply Rep.elI r1;intro z9);exact .cons _ _ (ih r)
theorem Reps.ofInts {h : Heap} {M : List Addr} : ∀ {ns : List Int} {vs : List Value},IntsAre vs ns -> Reps h M (ns.map .int) vs:=fun {ns} => by
 induction ns with
 | nil => intro vs r;cases r;exact .nil
 | cons n ns ih => intro vs r;cases r with | cons n t r => exact .cons (.int _ _) (ih r)
theorem gBytes {ns : List Int} {b : Array UInt8} (hh : A.handled = none) (hr : ∀ n ∈ ns,0 <= n /\ n < 256) (hz : ns.length <= 1000) (e : byteArr ns = b) : Gv w A (.type "bytes") [] [.lst (ns.map .int)] (.bytes b):=fun M s Q E vs hM KX TX ra q => by
 subst e
 apply Reps.elC ra;intro _ _ r t
 apply Reps.elN t
 apply Rep.elL r;intro ad vs n e m rs
 have hl:=rs.length
 rw [List.length_map] at hl
 exact call_bytes_ints (vs:=vs.toList) ⟨_,e,rfl,_,rfl⟩ rs.ints hr (by rw [hl,sizeLine_eq];lia) hh fun h' t k ex => q _ h' k (.bytes _ t) ex
theorem gListB {b : Array UInt8} (hh : A.handled = none) (hz : b.size <= 1000) : Gv w A (.type "list") [] [.bytes b] (.lst ((KBw.bInts b).map .int)):=fun M s Q E vs hM KX TX ra q => by
 apply Reps.elC ra;intro _ _ r t
 apply Reps.elN t
 apply Rep.elY r;intro t
 refine list_bytes hh b t (fun h' tk acc c ex hD hacc => ?_) (by rw [sizeLine_eq];lia)
 have hi : IntsAre acc.toList (KBw.bInts b):=intsGet (by rw [Array.length_toList,hacc.1,KBw.ints_length]) fun i v hv => by
  refine X21 (hacc.2 i v (by rw [<- Array.getElem?_toList];exact hv)) fun c u hc q3 => ?_;subst q3
  exact ⟨_,u,KBw.ints_get hc,rfl⟩
 exact q _ h' tk (.lst (n:=c) hD (fun z => by refine X10 (hM _ z) fun o e => ?_;exact absurd (Heap.lt_size e) (Nat.lt_irrefl _)) (Reps.ofInts hi)) ex
theorem gSum {ns : List Int} (hh : A.handled = none) : Gv w A (.builtin "sum") [] [.lst (ns.map .int)] (.int ns.sum):=fun M s Q E vs hM KX TX ra q => by
 apply Reps.elC ra;intro _ _ r t
 apply Reps.elN t
 apply Rep.elL r;intro ad vs n e m rs
 have hi:=rs.ints
 refine X10 hi.allInts.items fun xs e2 => ?_
 have hx : vs = intItems xs:=by
  have : vs.toList.toArray = intItems xs:=e2
  simpa using this
 have hs : (numsOf vs.toList) = ns:=hi.numsOf
 refine sum_intListG (xs:=xs) hh ⟨_,e,rfl,n,by rw [hx]⟩ fun h' tk t' ex => ?_
 rw [preSum_eq,List.take_of_length_le (by simp)]
 rw [hx,nums_intItems] at hs
 rw [hs]
 exact q _ h' tk (.int _ _) ex
theorem gMin {a b : Int} (hh : A.handled = none) : Gv w A (.builtin "min") [] [.int a, .int b] (.int (if b < a then b else a)):=fun M s Q E vs hM KX TX ra q => by
 apply Reps.elC ra;intro _ _ r t
 apply Reps.elC t;intro _ _ r2 t
 apply Reps.elN t;(apply Rep.elI r;intro z9);(apply Rep.elI r2;intro z9)
 refine min_two_ints hh fun h' tk ex => q _ h' tk ?_ ex
 split <;> exact .int _ _
theorem gMax {a b : Int} (hh : A.handled = none) : Gv w A (.builtin "max") [] [.int a, .int b] (.int (if b > a then b else a)):=fun M s Q E vs hM KX TX ra q => by
 apply Reps.elC ra;intro _ _ r t
 apply Reps.elC t;intro _ _ r2 t
 apply Reps.elN t;(apply Rep.elI r;intro z9);(apply Rep.elI r2;intro z9)
 refine max_two_ints hh fun h' tk ex => q _ h' tk ?_ ex
 split <;> exact .int _ _
theorem Reps.dropR {h : Heap} {M : List Addr} : ∀ {l : List PV} {vs : List Value} (n : Nat),Reps h M l vs -> Reps h M (l.drop n) (vs.drop n):=fun {l} => by
 induction l with
 | nil => intro vs n r;apply Reps.elN r;simp;exact .nil
 | cons p l ih => intro vs n r;cases r with | cons r1 r => cases n with | zero => exact .cons r1 r | succ n => exact ih n r
theorem Reps.takeR {h : Heap} {M : List Addr} : ∀ {l : List PV} {vs : List Value} (n : Nat),Reps h M l vs -> Reps h M (l.take n) (vs.take n):=fun {l} => by
 induction l with
 | nil => intro vs n r;apply Reps.elN r;simp;exact .nil
 | cons p l ih => intro vs n r;cases r with | cons r1 r => cases n with | zero => exact .nil | succ n => exact .cons r1 (ih n r)
theorem Pure.sliceL (Z : CxOk w C) {e : Expr} {lo up : Option Expr} {p pos : Pos} {x y : List PV} {i j : Option Int} (h1 : Pure w A C Γ led e (.lst x)) (h2 : Part w A C Γ led lo i) (h3 : Part w A C Γ led up j) (hz : x.length <= 1000)
  (hy : ∀ vs : Array Value,vs.size = x.length -> ∃ k n,(slicePick vs i j none).toList = (vs.toList.drop k).take n /\ (x.drop k).take n = y) (ht : ∀ o r,letTemporaryGo e o r = pure ()) : Pure w A C Γ led (.Subscript e (.Slice lo up none p) pos) (.lst y):=fun s Q E a q => by
 refine wpAny_Subscript_list_slice (h1 s _ E a fun va ha ka ra ea aa => h2.ev Z aa fun vi hi ki ci ei ai => h3.ev Z ai fun vj hj kj cj ej aj => ?_) ht
 have ra:=(ra.ext ei).ext ej
 apply Rep.elL ra;intro ad vs n e m rs
 have hl:=rs.length
 rw [Array.length_toList] at hl
 refine X21 (hy vs hl) fun k n' e1 e2 => ?_
 refine ⟨ad,vs,i,j,rfl,⟨_,e,rfl,_,rfl⟩,by rw [hl,sizeLine_eq];lia, ?_, ?_, ?_⟩
 ·rcases ci with ⟨rfl,rfl⟩ | ⟨n,t,rfl,rfl⟩
  ·exact .none
  ·exact .int _ _
 ·rcases cj with ⟨rfl,rfl⟩ | ⟨n,t,rfl,rfl⟩
  ·exact .none
  ·exact .int _ _
 ·have e0 : Ext hj ((hj.push { cls:=.type "slice",data:=.fields #[vi,vj, .none] }).push { cls:=.type "list",data:=.seq (slicePick vs i j none) }):=fun b o e => Heap.get?_push_of_some _ (Heap.get?_push_of_some _ e)
  have r1 : Reps hj (C.M led) y (slicePick vs i j none).toList:=by rw [e1, <- e2];exact (rs.dropR k).takeR n'
  have:=lstNew (h:=hj.push { cls:=.type "slice",data:=.fields #[vi,vj, .none] }) (r1.keep (Ext.sk fun b o e => Heap.get?_push_of_some _ e) fun _ _ _ m => m) fun b hb => (aj.alive Z b hb).imp fun o e => Heap.get?_push_of_some _ e
  rw [Heap.size_push,show (slicePick vs i j none).toList.toArray = slicePick vs i j none by simp] at this
  exact q _ _ kj this (((ea.trans ei).trans ej).trans e0) (aj.ext Z e0)
theorem Pure.itemLn (Z : CxOk w C) {e i : Expr} {pos : Pos} {l : List PV} {k : Int} {p : PV} (h1 : Pure w A C Γ led e (.lst l)) (h2 : Pure w A C Γ led i (.int k)) (h0 : k < 0) (hk : -(l.length : Int) <= k) (hl : l.length <= 1000) (hp : l[(k + (l.length : Int)).toNat]? = some p)
  (hs : ∀ b u,subscripted i false (.ref b) (.int k u) = operate [.ref b, .int k u] (getItem (.ref b) (.int k u))) : Pure w A C Γ led (.Subscript e i pos) p:=fun s Q E a q =>
 Subscript_ (h1 s _ E a fun va ha ka ra ea aa => h2 _ _ E aa fun vb hb kb rb eb ab => by
  (apply Rep.elI rb;intro z9)
  have ra:=ra.ext eb
  apply Rep.elL ra;intro ad vs n e m rs
  refine X11 (rs.at hp) fun v hv rv => ?_
  have hz:=rs.length
  rw [Array.length_toList] at hz
  have hl' : hb.IsList ad vs:=⟨_,e,rfl,_,rfl⟩
  exact tail_any hl'.typeIs slot_list_getitem.lookup (wpAny_getItem_list_neg hl' h0 (by lia) (by lia) (by
   rw [hz, <- Array.getElem?_toList];exact hv) (q v hb kb rv (ea.trans eb) ab)) (hs _ _))
end
theorem noTabsK (w : World) : noTabs (hd.heap_1 w.params) = true:=by kernel_rfl
theorem noT {led : Led} : Tabs [] led:=fun _ h => absurd h List.not_mem_nil
theorem le2 {a b : PV} : [a,b].length <= 1000:=Nat.le_of_ble_eq_true rfl
theorem okA {A : Around} {n m : Nat} (h : Around.ok A m) (hn : n <= m) : Around.ok A n:=⟨h.1,Nat.lt_of_le_of_lt (Nat.add_le_add_left hn _) h.2.1,Nat.lt_of_le_of_lt (Nat.add_le_add_left (Nat.mul_le_mul_left _ hn) _) h.2.2⟩
section
variable {w : World} {C : Cx} {A : Around} {Γ : List (Option PV)} {led : Led}
theorem Pure.orB {x y : Expr} {pos : Pos} {a b : Bool} (h1 : Pure w A C Γ led x (.bool a)) (h2 : a = false -> Pure w A C Γ led y (.bool b)) : Pure w A C Γ led (.BoolOp .Or [x,y] pos) (.bool (a || b)):=fun s Q E as q =>
 BoolOp_or (h1 s _ E as fun v h k r e a1 => by
  apply Rep.elB r
  refine wpAny_truthy_bool ?_
  cases a with
  | true => exact q _ h k (.bool _) e a1
  | false => exact BoolOp_one (h2 rfl _ _ E a1 fun v h3 k3 r3 e3 a3 => q v h3 k3 r3 (e.trans e3) a3))
theorem Pure.andB {x y : Expr} {pos : Pos} {a b : Bool} (h1 : Pure w A C Γ led x (.bool a)) (h2 : a = true -> Pure w A C Γ led y (.bool b)) : Pure w A C Γ led (.BoolOp .And [x,y] pos) (.bool (a && b)):=fun s Q E as q =>
 BoolOp_and (h1 s _ E as fun v h k r e a1 => by
  apply Rep.elB r
  refine wpAny_truthy_bool ?_
  cases a with
  | false => exact q _ h k (.bool _) e a1
  | true => exact BoolOp_one (h2 rfl _ _ E a1 fun v h3 k3 r3 e3 a3 => q v h3 k3 r3 (e.trans e3) a3))
theorem Pure.chain2 (Z : CxOk w C) {l m r : Expr} {o1 o2 : CmpOp} {pos : Pos} {a b c : PV} {x y : Bool} (h1 : Pure w A C Γ led l a) (h2 : Pure w A C Γ led m b) (h3 : Pure w A C Γ led r c) (p1 : Op2 w A (compareOp o1) a b (.bool x)) (p2 : Op2 w A (compareOp o2) b c (.bool y))
  (hm : lastMarks [o1,o2] [m,r] = false:=by with_unfolding_all rfl) : Pure w A C Γ led (.Compare l [o1,o2] [m,r] pos) (.bool (x && y)):=fun s Q E as q =>
 Compare_chain (h1 s _ E as fun va ha ka ra ea aa => chain_link (h2 _ _ E aa fun vb hb kb rb eb ab => p1 _ _ _ E va vb (ab.alive Z) (ra.ext eb) rb fun v hv kv rv ev => by
  apply Rep.elB rv
  refine wpAny_truthy_bool ?_
  have a1:=ab.ext Z (k:=kv) ev
  cases x with
  | false => exact q _ hv kv (.bool _) ((ea.trans eb).trans ev) a1
  | true => exact chain_last (h3 _ _ E a1 fun vc hc kc rc ec ac => p2 _ _ _ E vb vc (ac.alive Z) ((rb.ext ev).ext ec) rc fun v h5 k5 r5 e5 => q v h5 k5 r5 ((((ea.trans eb).trans ev).trans ec).trans e5) (ac.ext Z e5)))) hm
theorem charAt_mkS (l : List Nat) (n : Nat) (h : n < l.length) : (Txt.charAt (mkS l) (n : Int)).getD 0 = l.getD n 0:=by
 have e : seqIndex? (n : Int) (mkS l).length = some n:=by
  unfold seqIndex?
  rw [len_mkS]
  have h1 : ¬ ((n : Int) < 0):=by lia
  simp [h1,h]
 unfold Txt.charAt
 rw [e,List.getD_eq_getElem?_getD]
 simp [mkS]
theorem Pure.itemC {e i : Expr} {pos : Pos} {l : List Nat} {k : Int} (n : Nat) (Z : CxOk w C) (h1 : Pure w A C Γ led e (.str (mkS l))) (h2 : Pure w A C Γ led i (.int k)) (hk : k = (n : Int)) (hn : n < l.length) (hl : l.length <= 1000)
  (hs : ∀ t u,subscripted i false (.str (mkS l) t) (.int k u) = operate [.str (mkS l) t, .int k u] (getItem (.str (mkS l) t) (.int k u))) (ht : ∀ t r,letTemporaryGo e (.str (mkS l) t) r = pure ()) : Pure w A C Γ led (.Subscript e i pos) (.str ⟨#[l.getD n 0]⟩):=by
 subst hk
 refine Pure.itemS Z h1 h2 ?_ ?_ ?_ (charAt_mkS l n hn) hs ht
 ·rw [len_mkS];lia
 ·rw [len_mkS];lia
 ·rw [len_mkS];lia
end
section
variable {w : World} {C : Cx} {A : Around} {Γ Γ' : List (Option PV)} {led led' : Led} {s : Shared}
theorem Pure.eqv {e : Expr} {p q : PV} (h : Pure w A C Γ led e p) (e2 : p = q) : Pure w A C Γ led e q:=e2 ▸ h
theorem Pure.itemA (Z : CxOk w C) {e i : Expr} {pos : Pos} {l : List PV} {k : Int} {p : PV} (h1 : Pure w A C Γ led e (.lst l)) (h2 : Pure w A C Γ led i (.int k)) (h0 : 0 <= k) (hk : l[k.toNat]? = some p) (hl : l.length <= 1000)
  (hs : ∀ b u,subscripted i false (.ref b) (.int k u) = operate [.ref b, .int k u] (getItem (.ref b) (.int k u))) : Pure w A C Γ led (.Subscript e i pos) p:=fun s Q E a q =>
 Subscript_ (h1 s _ E a fun va ha ka ra ea aa => h2 _ _ E aa fun vb hb kb rb eb ab => by
  (apply Rep.elI rb;intro z9)
  have ra:=ra.ext eb
  apply Rep.elL ra;intro ad vs n e m rs
  refine X11 (rs.at hk) fun v hv rv => ?_
  have hlt : k.toNat < l.length:=(List.getElem?_eq_some_iff.mp hk).1
  exact item_listR (items:=vs) ⟨_,e,rfl,_,rfl⟩ h0 (by lia) (by rw [<- Array.getElem?_toList];exact hv) (q v hb kb rv (ea.trans eb) ab) (hs _ _))
theorem tail_slice {prog : Program} {A : Around} {E : Value -> Shared -> Prop} {s : Shared} {value : Expr} {lo up : Option Expr} {p : Pos} {o i : Value} {T id : String} {Q : Value -> Shared -> Prop} (hT : s.TypeIs o T)
  (hl : typeLookup (.type T) "__getitem__" = pure (some (.builtin id))) (h : wpAny (model prog w) A (getItem o i) Q E s) :
  wpAny (model prog w) A (subscriptTail value (.Slice lo up none p) o i) Q E s:=by
 unfold subscriptTail
 refine wpAny_bind ?_
 rw [getitemInPython_of_ne hT.not_modules]
 refine wpAny_bind (wpAny_specialOf hT hl ?_)
 have fin : wpAny (model prog w) A (subscripted (.Slice lo up none p) false o i) (fun r s₃ => wpAny (model prog w) A (letTemporaryGo value o r >>= fun z9 => pure r) Q E s₃) E s:=by
  show wpAny (model prog w) A (operate [i,o] (getItem o i)) _ E s
  exact wpAny_operating (wpAny_mono h (fun r s₃ h₃ => wpAny_bind (wpAny_letTemporaryGo (wpAny_pure h₃))) fun _ _ x => x)
 first
  | exact wpAny_pure (wpAny_bind fin)
  | exact wpAny_bind (wpAny_pure (wpAny_bind fin))
  | exact wpAny_bind fin
theorem Pure.sliceA (Z : CxOk w C) {e : Expr} {lo up : Option Expr} {p pos : Pos} {x y : List PV} {i j : Option Int} (h1 : Pure w A C Γ led e (.lst x)) (h2 : Part w A C Γ led lo i) (h3 : Part w A C Γ led up j) (hz : x.length <= 1000)
  (hy : ∀ vs : Array Value,vs.size = x.length -> ∃ k n,(slicePick vs i j none).toList = (vs.toList.drop k).take n /\ (x.drop k).take n = y) : Pure w A C Γ led (.Subscript e (.Slice lo up none p) pos) (.lst y):=fun s Q E a q => by
 refine Subscript_ (h1 s _ E a fun va ha ka ra ea aa => wpAny_Slice (h2.ev Z aa fun vi hi ki ci ei ai => h3.ev Z ai fun vj hj kj cj ej aj => ?_))
 have ra:=(ra.ext ei).ext ej
 apply Rep.elL ra;intro ad vs n e m rs
 have hl:=rs.length
 rw [Array.length_toList] at hl
 refine X21 (hy vs hl) fun k n' e1 e2 => ?_
 have hL : hj.IsList ad vs:=⟨_,e,rfl,_,rfl⟩
 refine wpAny_pure ?_
 refine tail_slice (hL.push _).typeIs slot_list_getitem.lookup (wpAny_getItem_list_slice (hL.push _) (Heap.IsSliceOf.new ..) (lo:=i) (hi:=j) ?_ ?_ .none (by simp) ?_ (by rw [hl,sizeLine_eq];lia))
 ·rcases ci with ⟨rfl,rfl⟩ | ⟨n,t,rfl,rfl⟩
  ·exact .none
  ·exact .int _ _
 ·rcases cj with ⟨rfl,rfl⟩ | ⟨n,t,rfl,rfl⟩
  ·exact .none
  ·exact .int _ _
 ·rw [Heap.size_push]
  have e0 : Ext hj ((hj.push { cls:=.type "slice",data:=.fields #[vi,vj, .none] }).push { cls:=.type "list",data:=.seq (slicePick vs i j none) }):=fun b o e => Heap.get?_push_of_some _ (Heap.get?_push_of_some _ e)
  have r1 : Reps hj (C.M led) y (slicePick vs i j none).toList:=by rw [e1, <- e2];exact (rs.dropR k).takeR n'
  have:=lstNew (h:=hj.push { cls:=.type "slice",data:=.fields #[vi,vj, .none] }) (r1.keep (Ext.sk fun b o e => Heap.get?_push_of_some _ e) fun _ _ _ m => m) fun b hb => (aj.alive Z b hb).imp fun o e => Heap.get?_push_of_some _ e
  rw [Heap.size_push,show (slicePick vs i j none).toList.toArray = slicePick vs i j none by simp] at this
  exact q _ _ kj this (((ea.trans ei).trans ej).trans e0) (aj.ext Z e0)
theorem Pure.sliceB (Z : CxOk w C) {e : Expr} {lo up : Option Expr} {p pos : Pos} {b : Array UInt8} {i j : Option Int} (h1 : Pure w A C Γ led e (.bytes b)) (h2 : Part w A C Γ led lo i) (h3 : Part w A C Γ led up j) (hz : b.size <= 1000) (hw : KBy.whole b i j = true) : Pure w A C Γ led (.Subscript e (.Slice lo up none p) pos) (.bytes b):=fun s Q E a q => by
 refine Subscript_ (h1 s _ E a fun va ha ka ra ea aa => wpAny_Slice (h2.ev Z aa fun vi hi ki ci ei ai => h3.ev Z ai fun vj hj kj cj ej aj => ?_))
 apply Rep.elY ra;intro t
 refine wpAny_pure ?_
 have pi : IsPart vi i:=by
  rcases ci with ⟨rfl,rfl⟩ | ⟨n,t,rfl,rfl⟩
  ·exact .none
  ·exact .int _ _
 have pj : IsPart vj j:=by
  rcases cj with ⟨rfl,rfl⟩ | ⟨n,t,rfl,rfl⟩
  ·exact .none
  ·exact .int _ _
 refine tail_slice (typeIs_bytes _ _ _) FB.slot_bytes_getitem.lookup (getItem_meets (typeIs_bytes _ _ _) (by decide) FB.slot_bytes_getitem FB.entry_bytes_getitem (FB.args_bytes_getitem_2 _ _) (KBc.meets_slice2 b t _ pi pj) ⟨Heap.IsSliceOf.new _ _ _ _,Nat.le_trans (KBc.size_picked_le b i j) (by rw [sizeLine_eq];lia),fun t' k => ?_⟩)
 rw [KBc.whole_picked hw]
 have e0 : Ext hj (hj.push { cls:=.type "slice",data:=.fields #[vi,vj, .none] }):=fun b o e => Heap.get?_push_of_some _ e
 exact q _ _ k (.bytes _ _) (((ea.trans ei).trans ej).trans e0) (aj.ext Z e0)
theorem gLenBy {b : Array UInt8} (h : b.size <= 1000) : Gv w A (.builtin "len") [] [.bytes b] (.int b.size):=fun M s Q E vs hM KX TX ra q => by
 apply Reps.elC ra;intro _ _ r1 t
 apply Reps.elN t
 (apply Rep.elY r1;intro z9)
 exact KBw.len_K rfl (by rw [KBw.ints_length];lia) (by rw [KBw.ints_length];exact q _ s.heap _ (.int _ _) noExt)
theorem gTy {p : PV} {X : String} (h : ∀ (s : Shared) v,Rep s.heap [] p v \/ True -> ∀ M,Rep s.heap M p v -> s.TypeIs v X) (hnb : (Value.type X == Value.type "builtin_function_or_method") = false) : Gv w A (.type "type") [] [p] (.val (.type X)):=fun M s Q E vs hM KX TX ra q => by
 apply Reps.elC ra;intro _ _ r1 t
 apply Reps.elN t
 exact call_type_of (h s _ (.inr trivial) M r1) hnb (q _ s.heap s.toks (.val _) noExt)
theorem gTyBytes {b : Array UInt8} : Gv w A (.type "type") [] [.bytes b] (.val (.type "bytes")):=gTy (fun s v _ M r => by (apply Rep.elY r;intro z9);exact typeIs_bytes _ _ _) (by decide +kernel)
theorem gTyBool {b : Bool} : Gv w A (.type "type") [] [.bool b] (.val (.type "bool")):=gTy (fun s v _ M r => by apply Rep.elB r;exact PySem.typeIs_bool _ _) (by decide +kernel)
theorem oIsTy {X Y : String} {b : Bool} (h : (Value.type X == Value.type Y) = b) : Op2 w A (compareOp .Is) (.val (.type X)) (.val (.type Y)) (.bool b):=fun M s Q E va vb _ ra rb q => by
 apply Rep.elV ra;apply Rep.elV rb
 exact wpAny_pure (a:=Value.bool (Value.type X == Value.type Y)) (by rw [h];exact q _ s.heap s.toks (.bool _) noExt)
theorem oIsBoolN {c : Bool} : Op2 w A (compareOp .Is) (.bool c) PV.none (.bool false):=fun M s Q E va vb _ ra rb q => by
 apply Rep.elB ra;apply Rep.elV rb
 exact is_bool_none (q _ s.heap s.toks (.bool _) noExt)
theorem oIsNotBN {b : Array UInt8} : Op2 w A (compareOp .IsNot) (.bytes b) PV.none (.bool true):=fun M s Q E va vb _ ra rb q => by
 (apply Rep.elY ra;intro z9);apply Rep.elV rb
 exact isnot_none_ne (by intro h;exact Value.noConfusion h) (q _ s.heap s.toks (.bool _) noExt)
theorem oSubBB {a b : Bool} : Op2 w A (binaryOp .Sub) (.bool a) (.bool b) (.int (b2i a - b2i b)):=fun M s Q E va vb _ ra rb q => by
 apply Rep.elB ra;apply Rep.elB rb
 exact sub_bool (q _ s.heap _ (.int _ _) noExt)
theorem Test.or2 {x y : Expr} {ys : List Expr} {pos : Pos} (h1 : Test w A C Γ led x Bool.false) (h2 : Test w A C Γ led y Bool.true) : Test w A C Γ led (.BoolOp .Or (x :: y :: ys) pos) Bool.true:=fun s Q E as h =>
 isTrue_or (h1 s _ _ as fun hh k e a1 => isTrue_or (h2 _ _ _ a1 fun h3 k3 e3 a3 => h h3 k3 (fun x y q => e3 x y (e x y q)) a3))
theorem gIsSS {x : Str} : Gv w A (.builtin "isinstance") [] [.str x, .val (.type "str")] (.bool true):=fun M s Q E vs hM KX TX ra q => by
 apply Reps.elC ra;intro _ _ r1 t
 apply Reps.elC t;intro _ _ r2 t
 apply Reps.elN t;(apply Rep.elS r1;intro z9);apply Rep.elV r2
 exact IsiPair.str_str (q _ s.heap s.toks (.bool _) noExt)
theorem gBytesL {l : List PV} {ns : List Int} {b : Array UInt8} (hh : A.handled = none) (hr : ∀ n ∈ ns,0 <= n /\ n < 256) (hz : ns.length <= 1000) (e : byteArr ns = b) (hl : l = ns.map .int) : Gv w A (.type "bytes") [] [.lst l] (.bytes b):=hl ▸ gBytes hh hr hz e
theorem Test.chain2 (Z : CxOk w C) {l m r : Expr} {o1 o2 : CmpOp} {pos : Pos} {a b c : PV} {x y z : Bool} (h1 : Pure w A C Γ led l a) (h2 : Pure w A C Γ led m b) (h3 : Pure w A C Γ led r c) (p1 : Op2 w A (compareOp o1) a b (.bool x)) (p2 : Op2 w A (compareOp o2) b c (.bool y)) (hz : (x && y) = z)
  (hm : lastMarks [o1,o2] [m,r] = Bool.false:=by with_unfolding_all rfl) : Test w A C Γ led (.Compare l [o1,o2] [m,r] pos) z:=fun s Q E as q => by
 subst hz
 refine isTrue_chain (h1 s _ E as fun va ha ka ra ea aa => test_link (h2 _ _ E aa fun vb hb kb rb eb ab => p1 _ _ _ E va vb (ab.alive Z) (ra.ext eb) rb fun v hv kv rv ev => ?_)) hm
 apply Rep.elB rv
 refine wpAny_truthy_bool ?_
 have a1:=ab.ext Z (k:=kv) ev
 cases x with
 | false => exact q hv kv ((ea.trans eb).trans ev) a1
 | true => exact test_last (h3 _ _ E a1 fun vc hc kc rc ec ac => p2 _ _ _ E vb vc (ac.alive Z) ((rb.ext ev).ext ec) rc fun v h5 k5 r5 e5 => by
   apply Rep.elB r5
   exact wpAny_truthy_bool (q h5 k5 ((((ea.trans eb).trans ev).trans ec).trans e5) (ac.ext Z e5)))
theorem Pure.callKw (Z : CxOk w C) {x kn : Str} {p pos kp : Pos} {e ke : Expr} {f : Addr} {need : Nat} {a b r : PV} (hf : Pure w A C Γ led (.Name x p) (.val (.ref f))) (ha : Pure w A C Γ led e a) (hk : Pure w A C Γ led ke b) (F : FnM (fun vs => ⟨[vs.getD 0 .none], [(kn,vs.getD 1 .none)]⟩) [] w f need [a,b] r) (hA : Around.ok A need)
  (hkp : keepIn (hd.heap_1 w.params) (.ref f) = true) (he : starEach [e] C.env = (false,eval e C.env) :: starEach [] C.env) (he2 : backTo pos (starEach [e] C.env) = (false,eval e C.env) :: backTo pos (starEach [] C.env)) (hp : (backTo pos (starEach [e] C.env)).any (·.1) = false) :
  Pure w A C Γ led (.Call (.Name x p) [e] [⟨some kn,ke,kp⟩] pos) r:=fun s Q E a0 q => by
 show wpAny _ A (do callWith pos (<- eval (.Name x p) C.env) [] (backTo pos (starEach [e] C.env)) (backToKw pos (keywordEach [⟨some kn,ke,kp⟩] C.env))) Q E s
 refine wpAny_bind (hf s _ E a0 fun v g1 k1 r1 e1 a1 => ?_)
 apply Rep.elV r1
 refine callWith_KW (K:=hd.heap_1 w.params) (h₀:=C.h₀) Z.K hkp rfl (spliced_more (ha _ _ E a1 fun v g2 k2 r2 e2 a2 => spliced_none (kws_cons (hk _ _ E a2 fun v' g3 k3 r3 e3 a3 => kws_nil ⟨fun b o e => a3.kp b o (Z.K b o e), ?_⟩))) he) (by rw [hp];rfl) he
 show wpAny _ A (PySem.call (.ref f) [v] [(kn,v')]) Q E _
 refine X50 Z.T fun p' loose mean mg mb Tp => ?_
 refine Y3 hA fun hh hd' hu => ?_
 have al:=a3.alive Z
 have kx : (hd.heap_1 w.params).In g3:=fun b o e => a3.kp b o (Z.K b o e)
 have tx:=Tp.keeps (h' := g3) a3.kp
 obtain ⟨hd0,dp,fr,gd,un⟩ := A
 dsimp only at hh hd' hu
 subst hh
 refine wpAny_call (F dp un gd fr _ _ [v,v'] (C.M led) hd' hu kx ⟨_,_,_,_,_,tx⟩ (fun _ h => absurd h List.not_mem_nil) al (.cons (r2.ext e3) (.cons r3 .nil)) fun v4 s4 r4 g4 _ _ => ?_)
 have e:=g4.eq
 have e4 : Ext g3 s4.heap:=fun b o q => g4.ext b o (fun z => nomatch z) q
 rw [e]
 exact q v4 _ _ r4 (((e1.trans e2).trans e3).trans e4) (a3.ext Z e4)
end
theorem fill_N5 : True /\ (PySem.Challenge.rw_in0240_01 = PySem.Challenge.rw_in0240_01) /\ hd.heap_1 = hd.heap_1:=by
 k_fill
 exact ⟨trivial,rfl,rfl⟩
section
variable {w : World} {C : Cx} {A : Around} {Γ : List (Option PV)} {led : Led}
theorem mapEsc {h : Heap} (X : (hd.heap_1 w.params).In h) {prog : Program} (c : Nat) (hc : goodC c = true) : ∃ f,h.MapOf (intKind prog w) 161 f /\ trsOut f c = some (escS c):=by
 refine' ⟨_,mapOfI X ?hl ?hk, ?hres⟩
 case hl => k_is
 case hk => simp only [KeysI];repeat' (first | exact True.intro | refine And.intro ?_ ?_ | exact ⟨_,_,rfl,rfl⟩)
 case hres =>
  refine all128 ?_ c hc
  decide +kernel
theorem Pure.trs (Z : CxOk w C) (hh : A.handled = none) {o e : Expr} {apos pos : Pos} {c : Nat} (ho : Pure w A C Γ led o (.str ⟨#[c]⟩)) (ha : Args w A C Γ led [e] [.val (.ref 161)]) (hc : goodC c = true)
  (he : ∃ pl : Sem Bool,eval (.Call (.Attribute o (Str.ofString "translate") apos) [e] [] pos) C.env = (do
   let ov <- eval o C.env
   standAt apos.atName
   let (f,first) <- holding [ov] (getMethod ov (Str.ofString "translate") pl)
   callWith pos f first (backTo pos (starEach [e] C.env)) (backToKw pos (keywordEach [] C.env)))) : Pure w A C Γ led (.Call (.Attribute o (Str.ofString "translate") apos) [e] [] pos) (.str (escS c)):=fun s Q E a0 q => by
 obtain ⟨pl,he⟩ := he
 refine methodCall_KW (ho s _ E a0 fun v h1 k1 r1 e1 a1 => ?_) he
 obtain ⟨t0,rfl⟩ : ∃ t0,v = .str ⟨#[c]⟩ t0:=by (apply Rep.elS r1;intro z9);exact ⟨_,rfl⟩
 with_reducible refine trs_getm ?_
 have pl:=ha.plain pos
 refine Calls.callWith_builtin pl ?_
 have:=ha.spliced Z pos { s with heap:=h1,toks:=k1 } (E:=E) (fun vs s' => wpAny (model vw w) A (PySem.call (.builtin "str.translate") ([.str ⟨#[c]⟩ t0] ++ vs)) Q E s') a1 fun vs h k r e a2 => by
  apply Reps.elC r;intro _ _ r2 r
  apply Reps.elN r;apply Rep.elV r2
  refine X11 (mapEsc (w:=w) (h:=h) (fun b o e => a2.kp b o (Z.K b o e)) (prog:=vw) c hc) fun f hm hf => ?_
  refine trs_call (prog:=vw) (s := { s with heap:=h,toks:=k }) (d:=161) (f:=f) hh (goodC_lt hc) (by decide) hm hf fun s' u hk => ?_
  obtain ⟨h2,tk2,rfl,hk⟩ := hk
  exact q _ h2 tk2 (.str _ _) ((e1.trans e).trans hk) (a2.ext Z hk)
 cases ha with
 | cons h2 hst t =>
  rw [hst] at this ⊢
  exact Calls.evalArgs_plain this
end
theorem words_N5 : True:=by
 k_with "w" => first | with_reducible exact Nth.zero | with_reducible exact Nth.one | with_reducible exact Nth.two | with_reducible exact Nth.three | ((with_reducible apply Nth.add4);k_extra "w") | fail
 k_with "g" => first | ((try dsimp only);k_extra "w") | fail
 k_with "q" => first | with_reducible exact Put.zero | with_reducible exact Put.one | with_reducible exact Put.two | with_reducible exact Put.three | ((with_reducible apply Put.add4);k_extra "q") | fail
 k_with "r" => fail "no"
 k_with "c" => first | with_reducible rfl | with_reducible assumption | omega | decide | (intro _ _;with_unfolding_all rfl) | (intro _;with_unfolding_all rfl) | with_unfolding_all rfl | k_extra "r" | fail
 k_with "i" => first | with_reducible exact oAdd | with_reducible exact oSub | with_reducible exact oLt | with_reducible exact oLe | with_reducible exact oGt | with_reducible exact oGe | with_reducible exact oEq | with_reducible exact oNe | with_reducible exact oEqS | with_reducible exact oNeS | with_reducible exact oGtS | with_reducible exact oLtS | with_reducible exact oAddI | with_reducible exact oSubI | k_extra "r" | fail
 k_with "n" => first | (apply Pure.builtin Z;k_is;boot_fast;decide;rfl;decide) | fail
 k_with "n" => first | (apply Pure.global Z;k_is;rfl;decide) | fail
 k_with "o" => first | with_reducible exact Args.nil | ((with_reducible apply Args.cons);k_extra "p";rfl;k_extra "o") | fail
 k_with "p" => first | ((with_reducible show Pure _ _ _ _ _ (.BinOp ..) _;apply Pure.binop Z);k_extra "p";k_extra "p";k_extra "i") | fail
 k_with "p" => first | ((with_reducible apply Pure.itemL Z);k_extra "p";k_extra "p";k_extra "c";k_extra "r";k_extra "c";k_extra "c";k_extra "c") | fail
 k_with "p" => first | with_reducible exact Pure.int Z | with_reducible exact Pure.str Z | with_reducible exact Pure.bool | with_reducible exact Pure.nil | ((with_reducible show Pure _ _ _ _ _ (.Name ..) _;apply Pure.nm Z);k_extra "g";k_extra "w") | fail
 k_with "f" => first | ((with_reducible show Test _ _ _ _ _ (.Compare ..) _;apply Test.cmp Z);k_extra "p";k_extra "p";k_extra "i") | fail
 k_with "f" => first | ((with_reducible show Test _ _ _ _ _ (.BoolOp ..) _;apply Test.and);k_extra "f";(intro h_and;k_extra "f")) | fail
 k_with "t" => first | ((with_reducible show Run _ _ _ _ _ (.Assign [.Name ..] _ _ :: _) _;apply Run.let_ Z);k_extra "p";k_extra "g";rfl;k_extra "q";rfl) | fail
 k_with "t" => first | ((with_reducible show Run _ _ _ _ _ (.AugAssign .. :: _) _;apply Run.aug_ Z);k_extra "g";rfl;k_extra "w";k_extra "p";k_extra "i";k_extra "q") | fail
 k_with "t" => first | ((with_reducible show Run _ _ _ _ _ (.Assign _ (.List ..) _ :: _) _;apply Run.newList Z);k_extra "g";rfl;rfl;(intro b;k_extra "q");(intro b;(try dsimp only))) | fail
 k_with "t" => first | ((with_reducible show Run _ _ _ _ _ (.Expr (.Call (.Name ..) ..) _ :: _) _;apply Run.add Z);k_extra "p";k_mem;k_extra "o";k_extra "b";k_extra "c";rfl;rfl) | fail
 k_with "b" => first | with_reducible exact Swap.head | ((with_reducible apply Swap.tail);k_extra "b") | fail
 k_with "t" => first | ((with_reducible show Run _ _ _ _ _ (.Assign _ (.Attribute ..) _ :: _) _;apply Run.bound Z);k_extra "p";k_mem;k_extra "g";rfl;rfl;(intro s Q E h;exact Attribute_name h);(intro d;k_extra "q");(intro d;(try dsimp only))) | fail
 k_with "H" => first | ((with_reducible apply gLenL);k_extra "c") | ((with_reducible apply gLenS);k_extra "c") | k_extra "r" | fail
 k_with "p" => first | ((with_reducible show Pure _ _ _ _ _ (.Call ..) _;apply Pure.call Z);k_extra "n";(first | exact .inl ⟨_,rfl⟩ | exact .inr (.inl ⟨_,rfl⟩) | (refine .inr (.inr ?_);k_is));k_extra "o";k_extra "H") | fail
 k_with "t" => first | ((with_reducible show Run _ _ _ _ _ (.Assign [.Tuple ..] _ _ :: _) _;apply Run.let2 Z hA.1);k_extra "o";k_extra "g";k_extra "g";rfl;rfl;k_extra "q";k_extra "q";rfl;with_unfolding_all rfl) | fail
 k_with "f" => first | ((with_reducible show Test _ _ _ _ _ (.BoolOp ..) _;apply Test.or);k_extra "f";(intro h_or;k_extra "f")) | fail
 k_with "f" => first | ((with_reducible show Test _ _ _ _ _ (.UnaryOp ..) _;apply Test.not);k_extra "f") | fail
 k_with "t" => first | ((with_reducible show Run _ _ _ _ _ (.Assert .. :: _) _;apply Run.assert Z);k_extra "f") | fail
 k_with "j" => first | with_reducible exact Drop.head | ((with_reducible apply Drop.tail);k_extra "j") | fail
 k_with "y" => first | ((with_reducible apply Run.freeze Z);k_extra "j";k_extra "w";k_extra "q") | fail
 k_with "D" => fail "no"
 k_with "D" => first | ((with_reducible show Pure _ _ _ _ _ (.Call ..) _;apply Pure.meth Z);k_extra "p";exact mJoin;k_extra "o";k_extra "r";exact ⟨_,rfl⟩) | fail
 k_with "p" => first | k_extra "D" | fail
 k_with "h" => first | exact off 0 (by lia) | exact off 1 (by lia) | exact off 2 (by lia) | exact off 3 (by lia) | exact off 4 (by lia) | exact off 5 (by lia) | exact off 6 (by lia) | exact off 7 (by lia) | exact off 8 (by lia) | exact off 9 (by lia) | exact off 10 (by lia) | exact off 11 (by lia) | fail
 k_with "N" => fail "no"
 k_with "z" => first | exact bneT (by with_reducible assumption) | exact bneF (by with_reducible assumption) | exact decide_eq_true (by lia) | exact decide_eq_false (by lia) | with_reducible rfl | with_reducible assumption | decide +kernel | rfl | fail
 k_with "E" => first | ((with_reducible show Test _ _ _ _ _ (.Compare ..) _;apply Test.cmp Z);k_extra "p";k_extra "p";k_extra "i") | fail
 k_with "a" => first | ((with_reducible apply Test.as);k_extra "E";k_extra "z") | fail
 k_with "a" => first | ((with_reducible show Test _ _ _ _ _ (.BoolOp ..) _;apply Test.andT);k_extra "a";k_extra "a") | fail
 k_with "a" => first | ((with_reducible show Test _ _ _ _ _ (.BoolOp ..) _;apply Test.orT);k_extra "a") | ((with_reducible show Test _ _ _ _ _ (.BoolOp ..) _;apply Test.orR);k_extra "e";k_extra "a") | fail
 k_with "a" => first | ((with_reducible show Test _ _ _ _ _ (.UnaryOp ..) _;apply Test.notT);k_extra "e") | fail
 k_with "e" => first | ((with_reducible apply Test.as);k_extra "E";k_extra "z") | fail
 k_with "e" => first | ((with_reducible show Test _ _ _ _ _ (.BoolOp ..) _;apply Test.andF);k_extra "a";k_extra "e") | ((with_reducible show Test _ _ _ _ _ (.BoolOp ..) _;apply Test.andN);k_extra "e") | fail
 k_with "e" => first | ((with_reducible show Test _ _ _ _ _ (.BoolOp ..) _;apply Test.orR);k_extra "e";k_extra "e") | fail
 k_with "e" => first | ((with_reducible show Test _ _ _ _ _ (.UnaryOp ..) _;apply Test.notF);k_extra "a") | fail
 k_with "F" => first | ((with_reducible show Test _ _ _ _ _ (.Name ..) _;apply Test.str Z);k_extra "p";k_extra "c";(first | rfl | decide);(intro _;rfl)) | fail
 k_with "a" => first | k_extra "F" | fail
 k_with "e" => first | k_extra "F" | fail
 k_with "u" => first | (intro _ _;with_unfolding_all rfl) | fail
 k_with "p" => first | ((with_reducible show Pure _ _ _ _ _ (.UnaryOp ..) _;apply Pure.neg Z);k_extra "p") | fail
 k_with "p" => first | ((with_reducible apply Pure.iteT Z);k_extra "a";k_extra "p") | ((with_reducible apply Pure.iteF Z);k_extra "e";k_extra "p") | fail
 k_with "p" => first | ((with_reducible apply Pure.itemS Z);k_extra "p";k_extra "p";decide;decide;decide;rfl;k_extra "u";k_extra "u") | fail
 k_with "p" => first | ((with_reducible apply Pure.itemP Z);k_extra "p";k_extra "p";k_extra "C";k_extra "h";decide;rfl;k_extra "u";k_extra "u") | fail
 k_with "p" => first | ((with_reducible apply Pure.sliceP Z);k_extra "p";k_extra "p";k_extra "p";k_extra "C";k_extra "h";k_extra "h";decide;decide;rfl;k_extra "u") | fail
 k_with "G" => first | ((with_reducible apply gFindS);k_extra "C";k_extra "h";k_extra "h";decide;(first | exact (show _ = some 2 by decide +kernel) | exact (show _ = some 3 by decide +kernel) | exact (show _ = some 6 by decide +kernel))) | ((with_reducible apply gFindN);k_extra "C";k_extra "h";k_extra "h";decide;decide +kernel) | fail
 k_with "D" => first | ((with_reducible show Pure _ _ _ _ _ (.Call ..) _;apply Pure.meth Z);k_extra "p";exact mFind;k_extra "o";k_extra "G";exact ⟨_,rfl⟩) | fail
 k_with "D" => first | ((with_reducible show Pure _ _ _ _ _ (.Call ..) _;apply Pure.meth Z);k_extra "p";exact mRepl;k_extra "o";exact gRepl0 (by decide +kernel);exact ⟨_,rfl⟩) | fail
 k_with "i" => first | exact oNotInS (b:=false) (by decide +kernel) | exact oNotInS (b:=true) (by decide +kernel) | fail
 k_with "m" => first | k_extra "t" | ((with_reducible show Run _ _ _ _ _ (.If .. :: _) _;apply Run.ifT);k_extra "a") | ((with_reducible show Run _ _ _ _ _ (.If .. :: _) _;apply Run.ifF);k_extra "e") | with_reducible apply Run.done | with_reducible apply Run.again | ((with_reducible apply WT.yes);k_extra "a") | ((with_reducible apply WT.no);k_extra "e") | k_extra "B" | fail
 k_with "d" => first | with_reducible exact List.mem_cons_self | ((with_reducible apply List.mem_cons_of_mem);k_extra "d") | fail
 k_with "a" => first | with_reducible exact Test.true _ | fail
 k_with "t" => first | ((with_reducible show Run _ _ _ _ _ (.Expr (.Call (.Attribute ..) ..) _ :: _) _;apply Run.append Z);k_extra "p";k_extra "p";k_extra "b";k_extra "c";rfl;rfl;rfl;rfl;rfl;(try dsimp only [List.nil_append,List.cons_append])) | fail
 k_with "B" => first | with_reducible apply Run.brkTW | with_reducible apply Run.brkTU | with_reducible apply Run.brkU | fail
 k_with "p" => first | ((with_reducible apply Pure.itemO Z);k_extra "p";k_extra "d";k_extra "p";decide;rfl;decide;k_extra "u";k_extra "u") | fail
 k_with "p" => first | ((with_reducible show Pure _ _ _ _ _ (.Call ..) _;apply Pure.lenO Z);k_extra "n";k_extra "o";k_extra "d";decide) | fail
 k_with "t" => first | ((with_reducible show Run _ _ _ _ _ (.For .. :: _) _;apply Run.forU Z);(apply Src.range3 Z hA.1);k_extra "n";k_extra "o";decide;decide;(first | exact (show _ = ((1 : Nat) : Int) by decide) | exact (show _ = ((2 : Nat) : Int) by decide) | exact (show _ = ((0 : Nat) : Int) by decide));decide;(intro _;rfl)) | fail
 k_with "B" => first | with_reducible exact FT.fin | ((with_reducible apply FT.go);(intro g Z;(with_reducible apply Asg.nm Z);k_extra "g";rfl;k_extra "q");(intro g Z)) | fail
 k_with "B" => first | with_reducible apply FT.fin | fail
 k_with "B" => first | with_reducible apply Run.againF | fail
 k_with "M" => first | ((with_reducible show Run _ _ _ _ _ (.Assign _ (.Call (.Attribute ..) ..) _ :: _) _;apply Run.sub Z hX);k_extra "d";k_extra "n";k_extra "p";k_extra "g";rfl;k_extra "q";rfl;rfl;rfl;k_is;exact ok.sz.1;exact ok.sz.2.1;exact ok.sub;exact ⟨_,rfl⟩;rfl;rfl) | fail
 k_with "p" => first | ((with_reducible show Pure _ _ _ _ _ (.Tuple ..) _;apply Pure.tuple Z);k_extra "o";(exact Nat.le_of_ble_eq_true rfl)) | fail
 k_with "t" => first | k_extra "M" | fail
 k_with "p" => first | ((with_reducible show Pure _ _ _ _ _ (.JoinedStr ..) _;apply Pure.fstr Z);k_extra "p";rfl;decide) | fail
 k_with "p" => first | with_reducible exact Pure.int Z | with_reducible exact Pure.str Z | ((with_reducible show Pure _ _ _ _ _ (.Name ..) _;apply Pure.nm Z);k_extra "g";k_extra "w") | fail
 trivial
section
variable {w : World}
theorem f_escape (c : Nat) (hc : goodC c = true) : Fn w 171 2 [.str ⟨#[c]⟩] (.str (escS c)):=FnG.fn (by
 refine' FnM.enter [Str.ofString "pattern"] [] ?ho ?hcd ?hK ?ndT ?hb ?hloc ?hdb ?nd ?hnd ?hco ?hgen ?hk ?hlen ?run
 case ho | hcd => k_is
 case hK => exact noTabsK w
 case ndT => decide
 case hb =>
  intro s vs hv KX
  refine X10 (len1 hv) fun v0 q1 => ?_;subst q1
  exact BindsTo.of_eq rfl
 case hloc | hdb | nd | hnd => decide +kernel
 case hco | hgen | hk | hlen => rfl
 intro C A L Z he hn hA hX
 obtain ⟨h₀,M₀,env,nms,X⟩ := C
 dsimp only [List.cons_append,List.nil_append] at he hn
 subst he hn
 dsimp only [List.map,List.replicate,List.cons_append,List.nil_append,List.length]
 with_reducible refine' Run.ifT (Test.of (Pure.call Z ?qaz ?qbz (.cons ?qcz ?qdz (.cons ?qez ?qfz .nil)) gIsSS) truthyB ?qgz) (Run.ret (Pure.trs Z hA.1 ?qhz (.cons ?qiz ?qjz .nil) hc ?qkz) ?qlz)
 case qaz => k_extra "n"
 case qbz => exact .inl ⟨_,rfl⟩
 case qcz => k_extra "p"
 case qdz => rfl
 case qez => k_extra "n"
 case qfz => rfl
 case qgz => exact fun z9 => rfl
 case qhz => k_extra "p"
 case qiz => k_extra "n"
 case qjz => rfl
 case qkz => exact ⟨_,rfl⟩
 case qlz => exact fun s v as r => EndsG.ret as noT r)
end
theorem bneT {a b : List Nat} (h : (a == b) = false) : (a != b) = true:=by rw [bne,h];rfl
theorem bneF {a b : List Nat} (h : (a == b) = true) : (a != b) = false:=by rw [bne,h];rfl
section
variable {w : World}
noncomputable def sts : List (List Nat) := [[61,65,45,90,97,45,122], [48,45,57], [43,47], [48,45,57,95], [61,65,45,90,95], [45,95]]
noncomputable def brkT (st : List Nat) : Str:=if st = [45,95] then Str.ofString "[\\-_]" else mkS (91 :: (st ++ [93]))
noncomputable def bodT (st : List Nat) : Str:=if st = [45,95] then Str.ofString "\\-_" else mkS st
noncomputable def brOf (st : List Nat) : List Nat:=91 :: (st ++ [93,42])
noncomputable def dash (x : List Nat) (a b : Nat) : Option Nat:=(Builtin.Str.occurrences (mkS x) (Str.ofString "-") a b 1).head?
noncomputable def rc (br : List Nat) (m : Nat) : Nat -> Nat -> Nat -> Option (List (List Nat))
 | 0,_,_ => none
 | f + 1,a,b => match dash br b (m + 1) with
  | none => if a <= m then some [(br.drop a).take (m + 1 - a)] else none
  | some p => if a <= p /\ p <= m then (rc br m f (p + 1) (p + 3)).map ((br.drop a).take (p - a) :: ·) else none
noncomputable def pairOk (u v : List Nat) : Bool:=1 <= u.length && u.length <= 9 && 1 <= v.length && v.length <= 9 && !(((⟨#[(Txt.charAt (mkS v) 0).getD 0]⟩ : Str).cps.toList < (⟨#[(Txt.charAt (mkS u) (-1)).getD 0]⟩ : Str).cps.toList : Bool))
structure StOk (st : List Nat) (cks : List (List Nat)) : Prop where
 len : 2 <= st.length /\ st.length <= 7
 c93 : ∀ t,t < st.length -> ((⟨#[(brOf st).getD (t + 1) 0]⟩ : Str).cps.toList == (Str.ofString "]").cps.toList) = false
 e93 : ((⟨#[(brOf st).getD (st.length + 1) 0]⟩ : Str).cps.toList == (Str.ofString "]").cps.toList) = true
 e42 : ((⟨#[(brOf st).getD (st.length + 2) 0]⟩ : Str).cps.toList == (Str.ofString "*").cps.toList) = true
 c33 : ((⟨#[(brOf st).getD 1 0]⟩ : Str).cps.toList == (Str.ofString "!").cps.toList) = false
 slice : mkS (((brOf st).drop 1).take (st.length + 1 - 1)) = mkS st
 no : (Builtin.Str.occurrences (mkS st) (Str.ofString "-") 0 (mkS st).length 1).isEmpty = true -> (Builtin.Str.occurrences (mkS st) (Str.ofString "\\") 0 (mkS st).length ((mkS st).length + 1)).isEmpty = true /\ mkS st = bodT st
 yes : (Builtin.Str.occurrences (mkS st) (Str.ofString "-") 0 (mkS st).length 1).isEmpty = false -> rc (brOf st) st.length 4 1 2 = some cks /\ 1 <= cks.length /\ cks.length <= 3 /\ (∀ i,i < cks.length - 1 -> pairOk (cks.getD (cks.length - 1 - i - 1) []) (cks.getD (cks.length - 1 - i) []) = true) /\
  (∀ z ∈ cks.map mkS,okZ z = true) /\ Txt.join (Str.ofString "-") ((cks.map mkS).map esc2) = bodT st /\ JoinOk (Str.ofString "-") ((cks.map mkS).map esc2) = true
 sub : ((Sre.forSearch codeW (bodT st).cps 1 0 (bodT st).cps.size false).runFor Builtin.Re.reTurnSteps).outcome = some .failed
 sz : 0 < (bodT st).cps.size /\ (bodT st).cps.size <= 1000 /\ (((bodT st).length : Int) != 0) = true
 y33 : ((bodT st).cps.toList == (Str.ofString "!").cps.toList) = false
 z33 : ((⟨#[(Txt.charAt (bodT st) 0).getD 0]⟩ : Str).cps.toList == (Str.ofString "!").cps.toList) = false
 zin : ([Str.ofString "^",Str.ofString "["].any (· == (⟨#[(Txt.charAt (bodT st) 0).getD 0]⟩ : Str))) = false
 out : Str.empty ++ Str.ofString "[" ++ bodT st ++ Str.ofString "]" = brkT st
 osz : (Str.ofString "[").length + (bodT st).length + (Str.ofString "]").length <= 1000
theorem stOk (st : List Nat) (h : st ∈ sts) : ∃ cks,StOk st cks:=by
 simp only [sts,List.mem_cons,List.mem_nil_iff,or_false] at h
 rcases h with rfl | rfl | rfl | rfl | rfl | rfl
 ·exact ⟨[[61,65], [90,97], [122]],by constructor <;> first | decide +kernel | kernel_rfl⟩
 ·exact ⟨[[48], [57]],by constructor <;> first | decide +kernel | kernel_rfl⟩
 ·exact ⟨[],by constructor <;> first | decide +kernel | kernel_rfl⟩
 ·exact ⟨[[48], [57,95]],by constructor <;> first | decide +kernel | kernel_rfl⟩
 ·exact ⟨[[61,65], [90,95]],by constructor <;> first | decide +kernel | kernel_rfl⟩
 ·exact ⟨[[45,95]],by constructor <;> first | decide +kernel | kernel_rfl⟩
end
section
variable {w : World}
theorem neC {c d : Nat} (h : goodC c = true) (hd : goodC d = false) : ((⟨#[c]⟩ : Str).cps.toList == (⟨#[d]⟩ : Str).cps.toList) = false:=by
 have : c ≠ d:=fun e => by rw [e,hd] at h;exact nB h
 simpa using this
theorem g_escape {c : Nat} {A : Around} (h : goodC c = true) (hA : Around.ok A 2) : Gv w A (.ref 171) [] [.str ⟨#[c]⟩] (.str (escS c)):=toFn (f_escape c h) hA
noncomputable def TJ (fr st : List Nat) (pat : Str) (STAR : Value) (b d : Addr) (n : Nat) (Γ : List (Option PV)) (led : Led) : Prop :=
 ∃ (z1 z2 z3 z4 z5 z6 z7 z8 z9 : Option PV) (k : Int) (l : List PV),Γ = [some (.str pat),some (.val STAR),some (.str (Str.ofString ".")),some (.val (.ref b)),some (.val (.ref d)),some (.int k),some (.int pat.length),z1,z2,z3,z4,z5,z6,z7,z8,z9] /\ led = [(d, .app b),(b, .list l),(173, .tab)] /\ l.length <= 20 /\
  ((∃ k' : Nat,k' <= fr.length /\ k = k' /\ n = fr.length - k' + 2 /\ l = ((fr.take k').map escS).map .str) \/ (n = 1 /\ k = fr.length + 2 + st.length /\ l = (fr.map escS ++ [brkT st]).map .str) \/ (n = 0 /\ k = pat.length /\ l = (fr.map escS ++ [brkT st]).map .str ++ [.val STAR]))
section
variable {fr st : List Nat} {pat : Str} {STAR : Value} {b rb d cb : Addr} {n : Nat} {Γ z : List (Option PV)} {led : Led} {kj : Int} {cks : List (List Nat)}
theorem TJ.mk {z1 z2 z3 z4 z5 z6 z7 z8 z9 : Option PV} {k : Int} {l : List PV} (h1 : l.length <= 20) (h2 : (∃ k' : Nat,k' <= fr.length /\ k = k' /\ n = fr.length - k' + 2 /\ l = ((fr.take k').map escS).map .str) \/ (n = 1 /\ k = fr.length + 2 + st.length /\ l = (fr.map escS ++ [brkT st]).map .str) \/ (n = 0 /\ k = pat.length /\ l = (fr.map escS ++ [brkT st]).map .str ++ [.val STAR])) : TJ fr st pat STAR b d n [some (.str pat),some (.val STAR),some (.str (Str.ofString ".")),some (.val (.ref b)),some (.val (.ref d)),some (.int k),some (.int pat.length),z1,z2,z3,z4,z5,z6,z7,z8,z9] [(d, .app b),(b, .list l),(173, .tab)]:=⟨_,_,_,_,_,_,_,_,_,_,_,rfl,rfl,h1,h2⟩
theorem TJ.el {P : List (Option PV) -> Led -> Prop} (h : TJ fr st pat STAR b d n Γ led) (q : ∀ z1 z2 z3 z4 z5 z6 z7 z8 z9 (k : Int) (l : List PV),l.length <= 20 -> ((∃ k' : Nat,k' <= fr.length /\ k = k' /\ n = fr.length - k' + 2 /\ l = ((fr.take k').map escS).map .str) \/ (n = 1 /\ k = fr.length + 2 + st.length /\ l = (fr.map escS ++ [brkT st]).map .str) \/ (n = 0 /\ k = pat.length /\ l = (fr.map escS ++ [brkT st]).map .str ++ [.val STAR])) -> P [some (.str pat),some (.val STAR),some (.str (Str.ofString ".")),some (.val (.ref b)),some (.val (.ref d)),some (.int k),some (.int pat.length),z1,z2,z3,z4,z5,z6,z7,z8,z9] [(d, .app b),(b, .list l),(173, .tab)]) : P Γ led:=by
 obtain ⟨z1,z2,z3,z4,z5,z6,z7,z8,z9,k,l,rfl,rfl,h1,h2⟩ := h
 exact q _ _ _ _ _ _ _ _ _ _ _ h1 h2
noncomputable def J2 (fr st : List Nat) (pat : Str) (STAR : Value) (rb d : Addr) (z : List (Option PV)) (n : Nat) (Γ : List (Option PV)) (led : Led) : Prop := ∃ (kj : Int) (t : Nat),kj = fr.length + 1 + t /\ t <= st.length /\ n = st.length - t /\ Γ = some (.str pat) :: some (.val STAR) :: some (.str (Str.ofString ".")) :: some (.val (.ref rb)) :: some (.val (.ref d)) :: some (.int ((fr.length : Int) + 1)) :: some (.int pat.length) :: some (.str ⟨#[91]⟩) :: some (.int kj) :: z /\ led = [(d, .app rb),(rb, .list (((fr.take fr.length).map escS).map .str)),(173, .tab)]
theorem J2.mk {t : Nat} (h1 : kj = fr.length + 1 + t) (h2 : t <= st.length) : J2 fr st pat STAR rb d z (st.length - t) (some (.str pat) :: some (.val STAR) :: some (.str (Str.ofString ".")) :: some (.val (.ref rb)) :: some (.val (.ref d)) :: some (.int ((fr.length : Int) + 1)) :: some (.int pat.length) :: some (.str ⟨#[91]⟩) :: some (.int kj) :: z) [(d, .app rb),(rb, .list (((fr.take fr.length).map escS).map .str)),(173, .tab)]:=⟨_,_,h1,h2,rfl,rfl,rfl⟩
theorem J2.el {P : Nat -> List (Option PV) -> Led -> Prop} (h : J2 fr st pat STAR rb d z n Γ led) (q : ∀ (kj : Int) (t : Nat),kj = fr.length + 1 + t -> t <= st.length -> P (st.length - t) (some (.str pat) :: some (.val STAR) :: some (.str (Str.ofString ".")) :: some (.val (.ref rb)) :: some (.val (.ref d)) :: some (.int ((fr.length : Int) + 1)) :: some (.int pat.length) :: some (.str ⟨#[91]⟩) :: some (.int kj) :: z) [(d, .app rb),(rb, .list (((fr.take fr.length).map escS).map .str)),(173, .tab)]) : P n Γ led:=by
 refine X22 h fun kj t h1 h2 q8 => Y3 q8 fun q4 q5 q6 => ?_;subst q4;subst q5;subst q6
 exact q _ _ h1 h2
noncomputable def J3 (fr st : List Nat) (pat : Str) (STAR : Value) (rb d cb : Addr) (kj : Int) (cks : List (List Nat)) (z : List (Option PV)) (n : Nat) (Γ : List (Option PV)) (led : Led) : Prop := ∃ (ki kk : Int) (a' b' : Nat) (done more : List (List Nat)) (z6 : Option PV),ki = fr.length + a' /\ kk = fr.length + b' /\ rc (brOf st) st.length n a' b' = some more /\ done ++ more = cks /\ Γ = some (.str pat) :: some (.val STAR) :: some (.str (Str.ofString ".")) :: some (.val (.ref rb)) :: some (.val (.ref d)) :: some (.int ki) :: some (.int pat.length) :: some (.str ⟨#[91]⟩) :: some (.int kj) :: some (.str (mkS st)) :: some (.val (.ref cb)) :: some (.int kk) :: z6 :: z /\ led = [(cb, .list ((done.map mkS).map .str)),(d, .app rb),(rb, .list (((fr.take fr.length).map escS).map .str)),(173, .tab)]
theorem J3.mk {ki kk : Int} {a' b' : Nat} {done more : List (List Nat)} {z6 : Option PV} (h1 : ki = fr.length + a') (h2 : kk = fr.length + b') (h3 : rc (brOf st) st.length n a' b' = some more) (h4 : done ++ more = cks) : J3 fr st pat STAR rb d cb kj cks z n (some (.str pat) :: some (.val STAR) :: some (.str (Str.ofString ".")) :: some (.val (.ref rb)) :: some (.val (.ref d)) :: some (.int ki) :: some (.int pat.length) :: some (.str ⟨#[91]⟩) :: some (.int kj) :: some (.str (mkS st)) :: some (.val (.ref cb)) :: some (.int kk) :: z6 :: z) [(cb, .list ((done.map mkS).map .str)),(d, .app rb),(rb, .list (((fr.take fr.length).map escS).map .str)),(173, .tab)]:=⟨_,_,_,_,_,_,_,h1,h2,h3,h4,rfl,rfl⟩
theorem J3.el {P : List (Option PV) -> Led -> Prop} (h : J3 fr st pat STAR rb d cb kj cks z n Γ led) (q : ∀ (ki kk : Int) (a' b' : Nat) (done more : List (List Nat)) (z6 : Option PV),ki = fr.length + a' -> kk = fr.length + b' -> rc (brOf st) st.length n a' b' = some more -> done ++ more = cks -> P (some (.str pat) :: some (.val STAR) :: some (.str (Str.ofString ".")) :: some (.val (.ref rb)) :: some (.val (.ref d)) :: some (.int ki) :: some (.int pat.length) :: some (.str ⟨#[91]⟩) :: some (.int kj) :: some (.str (mkS st)) :: some (.val (.ref cb)) :: some (.int kk) :: z6 :: z) [(cb, .list ((done.map mkS).map .str)),(d, .app rb),(rb, .list (((fr.take fr.length).map escS).map .str)),(173, .tab)]) : P Γ led:=by
 refine X50 h fun ki kk a' b' done q8 => X22 q8 fun more z6 h1 h2 q8 => Y4 q8 fun h3 h4 q11 q12 => ?_;subst q11;subst q12
 exact q _ _ _ _ _ _ _ h1 h2 h3 h4
end
theorem downs : ∀ T : Nat,T <= 2 -> Builtin.Range.small (T : Int) 0 (-1) = true /\ Builtin.Range.rangeSize (T : Int) 0 (-1) = (T : Int) /\ Builtin.divisionGoesByPylong (0 - (T : Int)) (-1) = false:=by
 intro T hT
 have : T = 0 \/ T = 1 \/ T = 2:=by lia
 rcases this with rfl | rfl | rfl <;> exact ⟨rfl,rfl,rfl⟩
theorem f_trans (fr st : List Nat) (STAR : Value) (hS : STAR = .none \/ ∃ a,STAR = .ref a) (hst : st ∈ sts) (hfr : ∀ c ∈ fr,goodC c = true) (hfl : fr.length <= 10) :
  FnT w 178 4 [.str (mkS (fr ++ brOf st)), .val STAR, .str (Str.ofString ".")] (.lst ((fr.map escS ++ [brkT st]).map .str ++ [.val STAR])):=by
 refine X10 (stOk st hst) fun cks ok => ?_
 have hsl:=ok.len
 have hp : PatIs (mkS (fr ++ brOf st)) fr.length fr (brOf st):=⟨rfl,rfl,by simp [brOf];lia⟩
 have hl:=hp.length
 have hbl : (brOf st).length = st.length + 3:=by simp [brOf]
 rw [hbl] at hl
 generalize hpat : mkS (fr ++ brOf st) = pat at hp hl ⊢
 have hls : pat.length <= sizeLine:=by rw [sizeLine_eq];lia
 refine' FnT.enter [Str.ofString "pat",Str.ofString "STAR",Str.ofString "QUESTION_MARK",Str.ofString "res",Str.ofString "add",Str.ofString "i",Str.ofString "n",Str.ofString "c",Str.ofString "j",Str.ofString "stuff",Str.ofString "chunks",Str.ofString "k",Str.ofString "chunk"] ?ho ?hcd ?hK ?hb ?hloc ?nd ?hco ?hgen ?hk ?hcell ?run
 case ho | hcd => k_is
 case hK => kernel_rfl
 case hb =>
  intro s vs hv KX
  refine X30 (len3 hv) fun v1 v2 v3 q3 => ?_;subst q3
  exact BindsTo.of_eq rfl
 case hloc | nd => decide +kernel
 case hco | hgen | hk => rfl
 case hcell => decide
 case run =>
  intro C A L g0 Z hR he hn hA hX
  obtain ⟨h₀,M₀,env,nms,X⟩ := C
  dsimp only at he hn
  subst he hn
  dsimp only [List.map,List.replicate,List.cons_append,List.nil_append,List.length]
  k_with "r" => with_reducible assumption
  k_extra "t"
  k_extra "t"
  k_extra "t"
  have hA2 : Around.ok A 2:=⟨hA.1,by have:=hA.2.1;lia,by have:=hA.2.2;lia⟩
  have hA1 : Around.ok A 1:=⟨hA.1,by have:=hA.2.1;lia,by have:=hA.2.2;lia⟩
  obtain ⟨rb,hrb⟩ : ∃ x,x = b:=⟨_,rfl⟩
  subst hrb
  refine Run.while_ (TJ fr st pat STAR rb d) (fr.length + 2) (TJ.mk (Nat.zero_le _) (.inl ⟨0,Nat.zero_le _,rfl,rfl,rfl⟩)) ?_
  intro n Γ₁ led₁ hq0
  apply TJ.el hq0
  clear hq0
  intro z1 z2 z3 z4 z5 z6 z7 z8 z9 k l hl20 hph
  have hl1000 : l.length <= 1000:=by lia
  rcases hph with ⟨k',hk',rfl,rfl,rfl⟩ | ⟨rfl,rfl,rfl⟩ | ⟨rfl,rfl,rfl⟩
  ·by_cases hlt : k' < fr.length
   ·have hp1 : PatIs pat k' (fr.take k') (fr[k'] :: (fr.drop (k' + 1) ++ brOf st)):=by
     refine ⟨?_,by rw [List.length_take];lia, ?_⟩
     ·rw [<- hpat]
      congr 1
      conv => lhs;rw [<- List.take_append_drop k' fr]
      rw [List.append_assoc,List.drop_eq_getElem_cons hlt,List.cons_append]
     ·simp;lia
    have hgc : goodC fr[k'] = true:=hfr _ (List.getElem_mem hlt)
    have hesc : fr.take (k' + 1) = fr.take k' ++ [fr[k']]:=by rw [List.take_succ_eq_append_getElem hlt]
    generalize fr[k'] = c at hp1 hgc hesc
    have h42 : ((⟨#[c]⟩ : Str).cps.toList == (Str.ofString "*").cps.toList) = false:=neC (d:=42) hgc rfl
    have h63 : ((⟨#[c]⟩ : Str).cps.toList == (Str.ofString "?").cps.toList) = false:=neC (d:=63) hgc rfl
    have h91 : ((⟨#[c]⟩ : Str).cps.toList == (Str.ofString "[").cps.toList) = false:=neC (d:=91) hgc rfl
    k_with "p" => ((with_reducible apply Pure.itemP Z);k_extra "p";k_extra "p";exact hp1;exact off 0 (by lia);exact Nat.zero_lt_succ _;exact (show _ = c from rfl);k_extra "u";k_extra "u")
    k_with "r" => first | exact g_escape hgc hA2 | fail
    apply wturn (b:=true)
    ·k_extra "a"
    ·intro _
     repeat (k_extra "m")
     refine Run.finW ?_ (TJ.mk ?_ (.inl ⟨k' + 1,hlt,rfl,rfl, ?_⟩))
     ·lia
     ·simp only [List.length_append,List.length_map,List.length_take,List.length_cons,List.length_nil];lia
     ·rw [hesc,List.map_append,List.map_append];rfl
    ·intro h;exact nB h.symm
   ·have hkf : k' = fr.length:=by lia
    subst hkf
    have hl93:=ok.c93 0 (by lia)
    have h33:=ok.c33
    k_with "C" => exact hp
    k_with "p" => ((with_reducible apply Pure.itemP Z);k_extra "p";k_extra "p";exact hp;k_extra "h";(rw [hbl];lia);rfl;k_extra "u";k_extra "u")
    k_with "p" => ((with_reducible apply Pure.itemP Z);k_extra "p";k_extra "p";exact hp;exact off 0 (by lia);exact Nat.zero_lt_succ _;exact (show _ = 91 from rfl);k_extra "u";k_extra "u")
    apply wturn (b:=true)
    ·k_extra "a"
    ·intro _
     repeat (k_extra "m")
     refine Run.while_ (J2 fr st pat STAR rb d [z3,z4,z5,z6,z7,z8,z9]) st.length (J2.mk (t:=0) ?_ (Nat.zero_le _)) ?_
     ·lia
     intro n Γ₁ led₁ hq0
     apply J2.el hq0
     clear hq0
     intro kj t hkj ht
     k_with "h" => exact off (t + 1) (by lia)
     by_cases htl : t < st.length
     ·have ht93:=ok.c93 t htl
      apply wturn (b:=true)
      ·k_extra "a"
      ·intro _
       repeat (k_extra "m")
       exact Run.finW (by lia) (J2.mk (t:=t + 1) (by rw [hkj];rfl) htl)
      ·intro h;exact nB h.symm
     have htm : t = st.length:=by lia
     subst htm
     have hte:=ok.e93
     k_with "h" => exact off (st.length + 1) (by lia)
     apply wturn (b:=false)
     ·k_extra "e"
     ·intro h;exact nB h
     intro _
     k_with "p" => ((with_reducible apply Pure.sliceP Z);k_extra "p";k_extra "p";k_extra "p";exact hp;exact off 1 (by lia);exact off (st.length + 1) (by lia);lia;(rw [hbl];lia);exact ok.slice;k_extra "u")
     k_extra "m"
     k_extra "m"
     refine Run.ifJ (fun Γ led => ∃ ki z4 z5 z6,Γ = [some (.str pat),some (.val STAR),some (.str (Str.ofString ".")),some (.val (.ref rb)),some (.val (.ref d)),some (.int ki),some (.int pat.length),some (.str ⟨#[91]⟩),some (.int kj),some (.str (bodT st)),z4,z5,z6,z7,z8,z9] /\
      led = [(d, .app rb),(rb, .list (((fr.take fr.length).map escS).map .str)),(173, .tab)]) (Test.cmp Z (by k_extra "p") (by k_extra "p") (oNotInS rfl)) ?_ ?_ ?_
     ·intro h
      refine Y2 (ok.no h) fun h1 h2 => ?_
      k_with "D" => ((with_reducible apply Pure.meth Z);k_extra "p";exact mRepl;k_extra "o";exact gRepl0 h1;exact ⟨_,rfl⟩)
      k_extra "m"
      exact Run.finJ ⟨_,_,_,_,by rw [h2],rfl⟩
     ·intro h
      refine Y5 (ok.yes h) fun hrc hc1 hc3 hpair q8 => Y3 q8 fun hokz hjoin hjok => ?_
      have h33' := ok.c33
      repeat (k_extra "m")
      obtain ⟨cb,hcb⟩ : ∃ x,x = b:=⟨_,rfl⟩
      subst hcb
      refine Run.while_ (J3 fr st pat STAR rb d cb kj cks [z7,z8,z9]) 4 (J3.mk (a' := 1) (b' := 2) (done := []) ?_ ?_ hrc rfl) ?_
      ·rfl
      ·lia
      intro n Γ₁ led₁ hq0
      apply J3.el hq0
      clear hq0
      intro ki kk a' b' done more z6' hki hkk hr1 hdm
      k_with "a" => with_reducible exact Test.true _
      apply wturn (b:=true)
      ·exact Test.true _
      ·intro _
       cases n with
       | zero => exact nS hr1
       | succ n =>
        unfold rc at hr1
        split at hr1
        ·rename_i hnone
         split at hr1
         ·rename_i ham
          obtain rfl:=Option.some.inj hr1
          k_with "G" => ((with_reducible apply gFindN);exact hp;exact off b' (by lia);exact off (st.length + 1) (by lia);(rw [hbl];lia);exact hnone)
          k_with "p" => ((with_reducible apply Pure.sliceP Z);k_extra "p";k_extra "p";k_extra "p";exact hp;exact off a' (by lia);exact off (st.length + 1) (by lia);lia;(rw [hbl];lia);rfl;k_extra "u")
          have hcl : (mkS (List.take (st.length + 1 - a') (List.drop a' (brOf st)))).length = st.length + 1 - a' := by
           rw [len_mkS,List.length_take,List.length_drop,hbl];lia
          k_with "F" => ((with_reducible show Test _ _ _ _ _ (.Name ..) _;apply Test.str Z);k_extra "p";(rw [hcl];lia);(rw [hcl];exact bne_iff_ne.mpr (by lia));(intro _;rfl))
          have hd3 : done.length <= 3:=by have:=congrArg List.length hdm;simp at this;lia
          k_with "c" => first | (rw [List.length_map,List.length_map];omega) | fail
          repeat (k_extra "m")
          have hL : List.map PV.str (List.map mkS done) ++ [PV.str (mkS (List.take (st.length + 1 - a') (List.drop a' (brOf st))))] = (cks.map mkS).map PV.str:=by rw [<- hdm,List.map_append,List.map_append];rfl
          rw [hL]
          have hLl : ((cks.map mkS).map PV.str).length = cks.length:=by rw [List.length_map,List.length_map]
          have hT : ((((cks.map mkS).map PV.str).length : Int) - 1) = ((cks.length - 1 : Nat) : Int):=by rw [hLl];lia
          refine Y3 (downs (cks.length - 1) (by lia)) fun q1 q2 q3 => ?_
          k_with "p" => ((with_reducible apply Pure.lenO Z);k_extra "n";k_extra "o";k_extra "d";(rw [hLl];lia))
          generalize hck : some (PV.str (mkS (List.take (st.length + 1 - a') (List.drop a' (brOf st))))) = z6
          refine Run.for_ Z (n:=cks.length - 1) (P:=fun i => .int (((cks.length - 1 : Nat) : Int) + (i : Int) * (-1))) (Src.range3 Z hA.1 (by k_extra "n") (by rw [<- hT];k_extra "o") (by decide) q1 q2 q3)
           (fun i Γ led => ∃ z5,Γ = [some (.str pat),some (.val STAR),some (.str (Str.ofString ".")),some (.val (.ref rb)),some (.val (.ref d)),some (.int ki),some (.int pat.length),some (.str ⟨#[91]⟩),some (.int kj),some (.str (mkS st)),some (.val (.ref cb)),z5,z6,z7,z8,z9] /\
            led = [(cb, .list ((cks.map mkS).map .str)),(d, .app rb),(rb, .list (((fr.take fr.length).map escS).map .str)),(173, .tab)]) ⟨_,rfl,rfl⟩ (fun _ => rfl) ?_ ?_
          ·rintro i Γ₁ led₁ g hi ⟨z5',rfl,rfl⟩ Z ex
           have hpk:=hpair i hi
           have hu : cks[cks.length - 1 - i - 1]? = some (cks.getD (cks.length - 1 - i - 1) []):=by rw [List.getD_eq_getElem?_getD,List.getElem?_eq_getElem (by lia)];rfl
           have hv : cks[cks.length - 1 - i]? = some (cks.getD (cks.length - 1 - i) []):=by rw [List.getD_eq_getElem?_getD,List.getElem?_eq_getElem (by lia)];rfl
           generalize cks.getD (cks.length - 1 - i - 1) [] = u at hpk hu
           generalize cks.getD (cks.length - 1 - i) [] = v at hpk hv
           simp only [pairOk,Bool.and_eq_true,decide_eq_true_eq,Bool.not_eq_true'] at hpk
           obtain ⟨⟨⟨⟨hu1,hu9⟩,hv1⟩,hv9⟩,hpl⟩ := hpk
           have hul : (mkS u).length = u.length:=len_mkS _
           have hvl : (mkS v).length = v.length:=len_mkS _
           have hku : ((cks.map mkS).map PV.str)[(((cks.length - 1 : Nat) : Int) + (i : Int) * (-1) - 1).toNat]? = some (.str (mkS u)):=by
            rw [show (((cks.length - 1 : Nat) : Int) + (i : Int) * (-1) - 1).toNat = cks.length - 1 - i - 1 by lia,List.getElem?_map,List.getElem?_map,hu];rfl
           have hkv : ((cks.map mkS).map PV.str)[(((cks.length - 1 : Nat) : Int) + (i : Int) * (-1)).toNat]? = some (.str (mkS v)):=by
            rw [show (((cks.length - 1 : Nat) : Int) + (i : Int) * (-1)).toNat = cks.length - 1 - i by lia,List.getElem?_map,List.getElem?_map,hv];rfl
           refine ⟨_,Asg.nm Z (by k_extra "g") rfl (by k_extra "q"), ?_⟩
           k_with "p" => ((with_reducible apply Pure.itemO Z);k_extra "p";k_extra "d";k_extra "p";lia;(first | exact hku | exact hkv);(rw [hLl];lia);k_extra "u";k_extra "u")
           k_with "p" => ((with_reducible apply Pure.itemS Z);k_extra "p";k_extra "p";lia;lia;lia;rfl;k_extra "u";k_extra "u")
           repeat (k_extra "m")
           exact Run.finF ⟨_,rfl,rfl⟩
          ·rintro Γ₁ led₁ ⟨z5',rfl,rfl⟩
           with_reducible apply Run.genJoin Z hA1 hX (ts:=cks.map mkS) (φ:=esc2)
           ·k_extra "d"
           ·k_extra "d"
           ·rfl
           ·k_extra "g"
           ·k_extra "g"
           ·k_extra "g"
           ·rfl
           ·exact hjoin
           ·k_extra "q"
           ·rfl
           ·rfl
           ·decide
           ·rfl
           ·rfl
           ·rfl
           ·rfl
           ·kernel_rfl
           ·intro A' E' Cn code bi z t s₂ m₂ hz hh hns hm
            exact el_rep rfl rfl rfl hns hm (hokz z hz) ⟨_,rfl⟩ ⟨_,rfl⟩
           ·exact hjok
           ·rw [List.length_map];lia
           ·exact fun _ => rfl
           ·exact ⟨_,rfl⟩
           ·rfl
           ·rfl
           refine Run.forget Drop.head ?_
           repeat (k_extra "m")
           exact Run.finJ ⟨_,_,_,_,rfl,rfl⟩
         ·exact nS hr1
        ·rename_i p hsome
         split at hr1
         ·rename_i ham
          refine X11 (Option.map_eq_some_iff.mp hr1) fun more' hr2 q2 => ?_;subst q2
          k_with "G" => ((with_reducible apply gFindS);exact hp;exact off b' (by lia);exact off (st.length + 1) (by lia);(rw [hbl];lia);exact hsome)
          k_with "p" => ((with_reducible apply Pure.sliceP Z);k_extra "p";k_extra "p";k_extra "p";exact hp;exact off a' (by lia);exact off p (by lia);lia;(rw [hbl];lia);rfl;k_extra "u")
          have hd3 : done.length <= 3:=by have:=congrArg List.length hdm;simp at this;lia
          k_with "c" => first | (rw [List.length_map,List.length_map];omega) | fail
          repeat (k_extra "m")
          have hdn : List.map PV.str (List.map mkS done) ++ [PV.str (mkS ((List.drop a' (brOf st)).take (p - a')))] = List.map PV.str (List.map mkS (done ++ [(List.drop a' (brOf st)).take (p - a')])):=by rw [List.map_append,List.map_append];rfl
          rw [hdn]
          exact Run.finW (Nat.lt_succ_self _) (J3.mk (a' := p + 1) (b' := p + 3) (by push_cast;lia) (by push_cast;lia) hr2 (by rw [List.append_assoc];exact hdm))
         ·exact nS hr1
      ·intro h;exact nB h.symm
     ·rintro Γ₂ led₂ ⟨ki,z4,z5,z6,rfl,rfl⟩
      with_reducible apply Run.sub Z hX
      ·k_extra "d"
      ·k_extra "n"
      ·k_extra "p"
      ·k_extra "g"
      ·rfl
      ·k_extra "q"
      ·rfl
      ·rfl
      ·rfl
      ·kernel_rfl
      ·exact ok.sz.1
      ·exact ok.sz.2.1
      ·exact ok.sub
      ·exact ⟨_,rfl⟩
      ·rfl
      ·rfl
      have hy33:=ok.y33
      have hz33:=ok.z33
      k_with "p" => ((with_reducible apply Pure.itemS Z);k_extra "p";k_extra "p";(have:=ok.sz;lia);(exact Int.ofNat_lt.mpr ok.sz.1);(exact Nat.le_trans ok.sz.2.1 (by decide));rfl;k_extra "u";k_extra "u")
      k_with "i" => exact oInTup2 ok.zin
      k_with "p" => ((with_reducible apply Pure.fstr Z);k_extra "p";exact ok.out;exact ok.osz)
      k_with "F" => ((with_reducible show Test _ _ _ _ _ (.Name ..) _;apply Test.str Z);k_extra "p";exact ok.sz.2.1;exact ok.sz.2.2;(intro _;rfl))
      repeat (k_extra "m")
      refine Run.finW (m:=1) ?_ (TJ.mk ?_ (.inr (.inl ⟨rfl, ?_, ?_⟩)))
      ·lia
      ·simp only [List.length_append,List.length_map,List.length_take,List.length_cons,List.length_nil];lia
      ·rw [hkj];lia
      ·rw [List.take_length,List.map_append];rfl
    ·intro h;exact nB h.symm
  ·have h42:=ok.e42
   have hlast : ((fr.map escS ++ [brkT st]).map PV.str)[((fr.map escS ++ [brkT st]).map PV.str).length - 1]? = some (.str (brkT st)):=by
    rw [List.getElem?_map,List.length_map,List.length_append,List.length_cons,List.length_nil,List.getElem?_append_right (by lia)]
    simp
   have hl1 : 1 <= ((fr.map escS ++ [brkT st]).map PV.str).length:=by rw [List.length_map,List.length_append];exact Nat.le_add_left _ _
   have hle : (!((fr.map escS ++ [brkT st]).map PV.str).isEmpty) = true:=by simp
   have hLl : ((fr.map escS ++ [brkT st]).map PV.str).length = fr.length + 1:=by rw [List.length_map,List.length_append,List.length_map];rfl
   generalize hL : (fr.map escS ++ [brkT st]).map PV.str = L at *
   k_with "c" => with_reducible assumption
   k_with "C" => exact hp
   k_with "h" => exact off (st.length + 2) (by lia)
   k_with "p" => ((with_reducible apply Pure.itemP Z);k_extra "p";k_extra "p";exact hp;k_extra "h";(rw [hbl];lia);rfl;k_extra "u";k_extra "u")
   k_with "p" => ((with_reducible apply Pure.lastO Z);k_extra "p";k_extra "d";k_extra "p";exact hl1;exact hlast;k_extra "u")
   k_with "a" => ((with_reducible show Test _ _ _ _ _ (.Name ..) _;apply Test.lst Z);k_extra "p";k_extra "d";exact hl1000;exact hle;(intro _;rfl))
   k_with "i" => exact oIsNotS hS
   apply wturn (b:=true)
   ·k_extra "a"
   ·intro _
    repeat (k_extra "m")
    exact Run.finW (m:=0) Nat.zero_lt_one (TJ.mk (by rw [List.length_append,hLl];exact Nat.succ_le_succ (Nat.le_trans (Nat.succ_le_succ hfl) (by decide))) (.inr (.inr ⟨rfl,by lia,by rw [hL]⟩)))
   ·intro h;exact nB h.symm
  ·apply wturn (b:=false)
   ·k_extra "e"
   ·intro h;exact nB h
   intro _
   refine Run.assert Z (Test.as (Test.cmp Z (by k_extra "p") (by k_extra "p") oEq) (beq_self_eq_true _)) ?_
   k_extra "y"
   exact Run.ret (by k_extra "p") fun s v as r => EndsT.ret as (by k_extra "d") r
end
theorem words_Js : True:=by
 k_with "p" => first | ((with_reducible show Pure _ _ _ _ _ (.Subscript ..) _;apply Pure.itemL Z);k_extra "p";k_extra "p";k_extra "c";k_extra "r";k_extra "c";k_extra "c";k_extra "c") | fail
 trivial
section
variable {w : World}
theorem f_join (ys : List Str) (a : Addr) (hz : (ys.map (·.length)).sum <= 100) (hl : ys.length <= 20) : Fn w 185 2 [.lst (ys.map .str ++ [.val (.ref a)]), .val (.ref a)] (.str (mkS (cs (Str.ofString "(?s:") ++ (ys.map cs).flatten ++ cs (Str.ofString ".*)\\Z")))):=by
 have hsum : ((ys ++ [Str.ofString ".*"]).map (·.length)).sum + (ys ++ [Str.ofString ".*"]).length * 64 <= 16777216:=by
  have e2 : (Str.ofString ".*").length = 2:=by decide +kernel
  rw [List.map_append,List.sum_append,List.length_append]
  simp only [List.map_cons,List.map_nil,List.sum_cons,List.sum_nil,e2,List.length_cons,List.length_nil]
  lia
 refine' Fn.enter [Str.ofString "inp",Str.ofString "STAR",Str.ofString "res",Str.ofString "add",Str.ofString "i",Str.ofString "n",Str.ofString "fixed"] ?ho ?hcd ?hb ?hloc ?nd ?hco ?hgen ?hk ?hcell ?run
 case ho | hcd => k_is
 case hb =>
  intro s vs hv KX
  refine X20 (len2 hv) fun v1 v2 q2 => ?_;subst q2
  exact BindsTo.of_eq rfl
 case hloc | nd => decide +kernel
 case hco | hgen | hk => rfl
 case hcell => decide
 case run =>
  intro C A L Z he hn hA
  obtain ⟨h₀,M₀,env,nms,X⟩ := C
  dsimp only at he hn
  subst he hn
  dsimp only [List.map,List.replicate,List.cons_append,List.nil_append,List.length]
  k_extra "t"
  k_extra "t"
  k_with "r" => (simp only [List.length_append,List.length_map,List.length_cons,List.length_nil];lia)
  k_extra "t"
  have hlen : (ys.map PV.str ++ [PV.val (Value.ref a)]).length = ys.length + 1:=by simp
  rw [hlen]
  refine Run.while_ (fun n Γ led => ∃ k : Nat,k <= ys.length /\ n = ys.length - k /\ Γ = [some (.lst (ys.map PV.str ++ [.val (.ref a)])),some (.val (.ref a)),some (.val (.ref b)),some (.val (.ref d)),some (.int k),some (.int ((ys.length + 1 : Nat) : Int)),none,none,none] /\ led = [(d, .app b),(b, .list ((ys.take k).map .str))]) ys.length ⟨0,Nat.zero_le _,rfl,rfl,rfl⟩ ?_
  rintro n Γ₁ led₁ ⟨k,hk,rfl,rfl,rfl⟩
  by_cases hlt : k < ys.length
  ·have hit : (ys.map PV.str ++ [PV.val (Value.ref a)])[k]? = some (.str ys[k]):=by
    rw [List.getElem?_append_left (by simpa using hlt)];simp [hlt]
   k_with "r" => first | exact hit | exact oIsNotS (.inr ⟨_,rfl⟩) | (simp only [List.length_append,List.length_map,List.length_cons,List.length_nil,List.length_take];lia) | fail
   apply wturn
   ·k_extra "f"
   ·intro hb
    k_extra "t"
    k_extra "t"
    refine Run.finW ?_ ⟨k + 1,hlt,rfl,rfl, ?_⟩
    ·lia
    ·rw [List.take_succ_eq_append_getElem hlt,List.map_append];rfl
   ·intro hb
    exfalso
    simp at hb;lia
  ·have hk' : k = ys.length:=by lia
   subst hk'
   have hit : (ys.map PV.str ++ [PV.val (Value.ref a)])[ys.length]? = some (.val (.ref a)):=by
    rw [List.getElem?_append_right (by simp)];simp
   k_with "r" => first | exact hit | exact oIsNotO (.inr ⟨_,rfl⟩) | exact oIsO (.inr ⟨_,rfl⟩) | (simp only [List.length_append,List.length_map,List.length_cons,List.length_nil,List.length_take];lia) | fail
   apply wturn
   ·k_extra "f"
   ·intro hb
    exfalso
    simp at hb
   ·intro hb
    rw [List.take_length]
    refine Run.while_ (fun n Γ led => n = 1 /\ Γ = [some (.lst (ys.map PV.str ++ [.val (.ref a)])),some (.val (.ref a)),some (.val (.ref b)),some (.val (.ref d)),some (.int (ys.length : Int)),some (.int ((ys.length + 1 : Nat) : Int)),none,none,none] /\ led = [(d, .app b),(b, .list (ys.map .str))]) 1 ⟨rfl,rfl,rfl⟩ ?_
    rintro n Γ₁ led₁ ⟨rfl,rfl,rfl⟩
    apply wturn
    ·k_extra "f"
    ·intro z9
     k_extra "t"
     k_extra "t"
     refine Run.if_ (b:=true) ?_ (fun z9 => ?_) (fun h => nomatch h)
     ·apply Test.as
      k_extra "f"
      simp
     ·k_extra "t"
      refine Run.brk fun s as => ?_
      revert as;revert s
      change Run w A _ _ _ _ _
      apply Run.assert Z
      ·apply Test.as
       k_extra "f"
       simp
      k_extra "y"
      k_with "r" => (exact gJoin (ys:=ys ++ [Str.ofString ".*"]) (by decide) hsum rfl)
      rw [show ys.map PV.str ++ [PV.str (Str.ofString ".*")] = (ys ++ [Str.ofString ".*"]).map PV.str from by simp]
      k_extra "t"
      refine Run.ret (pv:=.str (mkS (cs (Str.ofString "(?s:") ++ (ys.map cs).flatten ++ cs (Str.ofString ".*)\\Z")))) ?_ ?_
      ·apply Pure.fstr Z
       k_extra "p"
       ·refine cs_inj ?_
        rw [cs_app,cs_app,cs_app,join_nil_cs,cs_mkS,List.map_append,List.flatten_append]
        have e1 : cs Str.empty = []:=rfl
        have e2 : cs (Str.ofString ".*)\\Z") = cs (Str.ofString ".*") ++ cs (Str.ofString ")\\Z"):=by decide +kernel
        rw [e1,e2]
        simp
       ·rw [<- len_cs (Txt.join _ _),join_nil_cs]
        have e3 : (Str.ofString "(?s:").length = 4:=by decide +kernel
        have e4 : (Str.ofString ")\\Z").length = 3:=by decide +kernel
        have e5 : (cs (Str.ofString ".*")).length = 2:=by decide +kernel
        rw [e3,e4,List.length_flatten,List.map_append,List.map_append,List.sum_append,List.map_map]
        have e6 : (List.length ∘ cs) = fun x : Str => x.length:=by funext x;exact len_cs x
        rw [e6]
        simp only [List.map_cons,List.map_nil,List.sum_cons,List.sum_nil,e5]
        lia
      ·intro s v as r
       exact .ret as r
    ·intro h
     exfalso;simp at h;lia
end
theorem mro_obj : mroOf (.type "object") = pure [.type "object"]:=by kernel_rfl
theorem called_object : TypeCalled "object" "object.__new__" "object.__init__" :=
 ⟨by decide +kernel,by decide +kernel,⟨_,_,mro_obj⟩,madeBy_type mro_obj (by rw [typeLookup_type,builtinLookup_eq_fast];kernel_rfl) (by decide +kernel),by decide +kernel,by rw [isSubtype_type];kernel_rfl, .of (owner := "object") (n := "__init__") (by rw [typeLookup_type,builtinLookup_eq_fast];kernel_rfl) (by decide +kernel) (by decide +kernel) (by decide +kernel)
  (by first | exact .inl (by decide +kernel) | exact .inr (by decide +kernel)) (by rw [isSubtype_type];kernel_rfl)⟩
section
variable {prog : Program} {w : World} {A : Around} {E : Value -> Shared -> Prop} {s : Shared}
theorem object_new_in : MeetsIn prog w (Builtin.«object.__new__» ⟨[.type "object"], []⟩) (fun A R s => R (.ok (.ret (Value.ref s.heap.objs.size))) { s with heap:=s.heap.push { cls:=Value.type "object",data:=.plain } }) :=
 .of_wp fun A R s h => by
  have hmro:=mro_obj
  have hmade:=called_object.made
  obtain ⟨hp,g,d,tk,os⟩ := s
  repeat (k_extra "A")
  exact ⟨_,rfl,h⟩
theorem object_init_in {self : Value} : Meets (Builtin.«object.__init__» ⟨[self], []⟩) (fun _ R s => R (.ok (.ret .none)) s):=Meets.of_wp fun prog w A R s hs => wpAny_pure ⟨_,rfl,hs⟩
theorem call_object {Q : Value -> Shared -> Prop} (h : Q (.ref s.heap.objs.size) { s with heap:=s.heap.push { cls:=.type "object",data:=.plain } }) : wpAny (model prog w) A (call (.type "object") []) Q E s :=
 callType_meetsIn (Q₁:=fun obj s₁ => s₁.TypeIs obj "object" /\ Q obj s₁) called_object (by kernel_rfl) (by kernel_rfl) (entryFor_of_tree (by kernel_rfl)) F.entry_object_init object_new_in ⟨⟨_,Heap.get?_push_size _ rfl,rfl⟩,h⟩ fun obj _ hq =>
  ⟨hq.1,F.args_object_init_1 obj,_,object_init_in,rfl,hq.2⟩
end
section
variable {w : World} {C : Cx} {A : Around} {Γ Γ' : List (Option PV)} {led led' : Led} {s : Shared} {K : Flow -> Shared -> Prop} {rest : List Stmt}
theorem Run.obj (Z : CxOk w C) {i : Nat} {x fn : Str} {p fp pos cpos : Pos} {Γ' : Addr -> List (Option PV)} (hf : Pure w A C Γ led (.Name fn fp) (.val (.type "object"))) (hx : Nth C.nms i x) (hk : C.env.kindOf x = some .local) (hs : swapsWith (.Call (.Name fn fp) [] [] cpos) (some (.Name x p)) pos.line C.env = pure false)
  (hp : ∀ a,Put Γ i (.val (.ref a)) (Γ' a)) (r : ∀ a,Run w A C (Γ' a) led rest K) : Run w A C Γ led (.Assign [.Name x p] (.Call (.Name fn fp) [] [] cpos) pos :: rest) K :=
 .st fun s a => wpAny_Assign_Name (wpAny_Call_NameR (hf s _ _ a fun v h1 k1 r1 e1 a1 => by
  apply Rep.elV r1
  refine callWX Z (.inr (.inl ⟨_,rfl⟩)) Args.nil a1 fun vs h2 k2 rs e2 a2 => ?_
  apply Reps.elN rs
  refine call_object ?_
  refine (a2.ext Z (k:=k2) fun b o e => Heap.get?_push_of_some _ e).setL Z hx.at hk (.val _) fun h5 k5 _ a5 => r h2.objs.size _ ?_
  rw [(hp _).set];exact a5)) hs
theorem Run.callT (Z : CxOk w C) (hX : ∀ s h k gs,C.X s -> (AllBare s.gens -> AllBare gs) -> C.X { s with heap:=h,toks:=k,gens:=gs }) {i : Nat} {x fn : Str} {p fp pos cpos : Pos} {es : List Expr} {f : Addr} {need : Nat} {args : List PV} {q : PV}
  (F : FnT w f need args q) (hA : Around.ok A need) (hm : ((173 : Addr),LO.tab) ∈ led) (hf : Pure w A C Γ led (.Name fn fp) (.val (.ref f))) (hkp : keepIn (hd.heap_1 w.params) (.ref f) = true) (ha : Args w A C Γ led es args) (hx : Nth C.nms i x) (hk : C.env.kindOf x = some .local) (hp : Put Γ i q Γ')
  (hs : swapsWith (.Call (.Name fn fp) es [] cpos) (some (.Name x p)) pos.line C.env = pure false) (r : Run w A C Γ' led rest K) : Run w A C Γ led (.Assign [.Name x p] (.Call (.Name fn fp) es [] cpos) pos :: rest) K :=
 .st fun s a => wpAny_Assign_Name (wpAny_Call_NameR (hf s _ _ a fun v h1 k1 r1 e1 a1 => by
  apply Rep.elV r1
  refine callWX Z (.inr (.inr hkp)) ha a1 fun vs h2 k2 rs e2 a2 => ?_
  refine byG fun G kG => ?_
  refine XAEAEA (a2.lg _ hm) fun h0 _ eP ps q4 ht => ?_;subst q4
  refine kG ?_;clear kG G
  refine byG fun G kG => ?_
  refine X50 Z.T fun p' loose mean mg mb T => ?_
  refine kG ?_;clear kG G
  refine byG fun G kG => ?_
  obtain ⟨ha',dp,fr,gd,un⟩ := A
  refine kG ?_;clear kG G
  refine Y3 hA fun hh hd hu => ?_
  dsimp only at hh hd hu
  subst hh
  refine wpAny_call (F dp un gd fr _ _ vs (C.M led) ps hd hu (fun b o e => a2.kp b o (Z.K b o e)) ⟨_,_,_,_,_,T.keeps a2.kp⟩ eP ht (a2.alive Z) rs fun v h3 k3 gs ps' rv ex hP' ht' hb => ?_)
  have a3 : AS C Γ led { s with heap:=h3,toks:=k3,gens:=gs } := a2.tab hm ex hP' ht' (hX _ _ _ _ a2.x hb)
  refine a3.setL Z hx.at hk rv fun h5 k5 _ a5 => r _ ?_
  rw [hp.set];exact a5)) hs
end
section
variable {w : World}
theorem escS_len (c : Nat) : (escS c).length <= 2:=by
 unfold escS
 split
 ·decide
 ·split
  ·decide
  ·exact Nat.le_succ 1
theorem brkT_len (st : List Nat) (h : st ∈ sts) : (brkT st).length <= 10:=by
 simp only [sts,List.mem_cons,List.mem_nil_iff,or_false] at h
 rcases h with rfl | rfl | rfl | rfl | rfl | rfl <;> decide
theorem sum_esc : ∀ fr : List Nat,((fr.map escS).map (·.length)).sum <= 2 * fr.length
 | [] => Nat.le_refl _
 | c :: t => by
  have:=sum_esc t
  have h2:=escS_len c
  simp only [List.map_cons,List.sum_cons,List.length_cons]
  lia
theorem f_translate (fr st : List Nat) (hst : st ∈ sts) (hfr : ∀ c ∈ fr,goodC c = true) (hfl : fr.length <= 10) :
  FnT w 159 6 [.str (mkS (fr ++ brOf st))] (.str (mkS (cs (Str.ofString "(?s:") ++ ((fr.map escS ++ [brkT st]).map cs).flatten ++ cs (Str.ofString ".*)\\Z")))):=by
 refine' FnT.enter [Str.ofString "pat",Str.ofString "STAR",Str.ofString "parts"] ?ho ?hcd ?hK ?hb ?hloc ?nd ?hco ?hgen ?hk ?hcell ?run
 case ho | hcd => k_is
 case hK => kernel_rfl
 case hb =>
  intro s vs hv KX
  refine X10 (len1 hv) fun v1 q1 => ?_;subst q1
  exact BindsTo.of_eq rfl
 case hloc | nd => decide +kernel
 case hco | hgen | hk => rfl
 case hcell => decide
 case run =>
  intro C A L g0 Z hR he hn hA hX
  obtain ⟨h₀,M₀,env,nms,X⟩ := C
  dsimp only at he hn
  subst he hn
  dsimp only [List.map,List.replicate,List.cons_append,List.nil_append,List.length]
  have hA4 : Around.ok A 4:=⟨hA.1,by have:=hA.2.1;lia,by have:=hA.2.2;lia⟩
  have hA2 : Around.ok A 2:=⟨hA.1,by have:=hA.2.1;lia,by have:=hA.2.2;lia⟩
  with_reducible apply Run.obj Z
  ·k_extra "n"
  ·k_extra "g"
  ·rfl
  ·rfl
  ·intro b
   k_extra "q"
  intro a
  with_reducible apply Run.callT Z hX (f_trans fr st (.ref a) (.inr ⟨a,rfl⟩) hst hfr hfl) hA4
  ·k_extra "d"
  ·k_extra "n"
  ·k_is
  ·k_extra "o"
  ·k_extra "g"
  ·rfl
  ·k_extra "q"
  ·rfl
  have hz : ((fr.map escS ++ [brkT st]).map (·.length)).sum <= 100:=by
   have h1:=sum_esc fr
   have h2:=brkT_len st hst
   simp only [List.map_append,List.sum_append,List.map_cons,List.map_nil,List.sum_cons,List.sum_nil]
   lia
  have hl : (fr.map escS ++ [brkT st]).length <= 20:=by simp;lia
  refine Run.ret (Pure.call Z (by k_extra "n") (.inr (.inr (by k_is))) (by k_extra "o") (Gv.fn (f_join (fr.map escS ++ [brkT st]) a hz hl) hA2.1 hA2.2.1 hA2.2.2)) fun s v as r => EndsT.ret as (by k_extra "d") r
end
section
variable {w : World} {C : Cx} {A : Around} {Γ Γ' Γ'' Γ₁ : List (Option PV)} {led led' : Led} {s : Shared} {T : List Addr}
theorem Put.sub {p : PV} : ∀ {l : List (Option PV)} {n : Nat} {l' : List (Option PV)},Put l n p l' -> Nth l n none -> ∀ (k : Nat) q,l[k]? = some (some q) -> l'[k]? = some (some q):=fun {l n l'} h => by
 induction h with
 | zero =>
  intro hn k q e
  cases hn
  cases k with
  | zero => cases e
  | succ k => exact e
 | succ _ ih =>
  intro hn k q e
  cases hn with
  | succ hn =>
   cases k with
   | zero => exact e
   | succ k => simpa using ih hn k q (by simpa using e)
inductive Inn (C : Cx) (scope : Scope) (cl : List (Str × Addr)) (Γ : List (Option PV)) : List Str -> List (Option PV) -> Prop
 | nil : Inn C scope cl Γ [] []
 | tgt {x : Str} {xs : List Str} {ps : List (Option PV)} (t : Inn C scope cl Γ xs ps) : Inn C scope cl Γ (x :: xs) (none :: ps)
 | cap {x : Str} {xs : List Str} {pv : PV} {ps : List (Option PV)} {j : Nat} {c : Addr} (h1 : ∀ Cn,(compEnvC scope cl Cn C.env).kindOf x = some .cell) (h2 : C.env.kindOf x = some .cell) (h3 : cl.lookup x = some c) (h4 : C.env.cells.lookup x = some c) (h5 : Nth C.nms j x) (h6 : Nth Γ j (some pv)) (t : Inn C scope cl Γ xs ps) : Inn C scope cl Γ (x :: xs) (some pv :: ps)
theorem Inn.at {scope : Scope} {cl : List (Str × Addr)} {xs : List Str} {ps : List (Option PV)} (h : Inn C scope cl Γ xs ps) (Cn : Addr) : ∀ (i : Nat) x pv,xs[i]? = some x -> ps[i]? = some (some pv) ->
  (compEnvC scope cl Cn C.env).kindOf x = some .cell /\ C.env.kindOf x = some .cell /\ (∃ c,cl.lookup x = some c /\ C.env.cells.lookup x = some c) /\ ∃ j : Nat,C.nms[j]? = some x /\ Γ[j]? = some (some pv):=by
 induction h with
 | nil => intro i x pv e;simp at e
 | tgt t ih =>
  intro i x pv e1 e2
  cases i with
  | zero => cases e2
  | succ i => exact ih i x pv (by simpa using e1) (by simpa using e2)
 | cap h1 h2 h3 h4 h5 h6 t ih =>
  intro i x pv e1 e2
  cases i with
  | zero => obtain rfl:=Option.some.inj e1;cases e2;exact ⟨h1 Cn,h2,⟨_,h3,h4⟩,_,h5.at,h6.at⟩
  | succ i => exact ih i x pv (by simpa using e1) (by simpa using e2)
theorem compLen {α : Type} {n : Nat} {p : Nat -> Bool} {F : Nat -> α} : (((List.range n).filter p).map F).length <= n:=by
 have:=List.length_filter_le p (List.range n)
 rw [List.length_range] at this
 rw [List.length_map]
 exact this
theorem CTurn.one (Z : CxOk w C) {x : Str} {px : Pos} {elt : Expr} {ifs : List Expr} {i : Nat} {pv r : PV} {b : Bool} (hx : Nth C.nms i x) (hk : C.env.kindOf x = some .local) (hn : Nth Γ i none) (hp : Put Γ i pv Γ₁) (ht : Tests w A C Γ₁ led ifs b) (he : b = true -> PureT T w A C Γ₁ led elt r) :
  ∃ Γ₁,CTurn T w A C (.Name x px) elt ifs Γ Γ₁ led pv b r:=⟨_,AsgB.nm Z hx hk hp,hp.sub hn,ht,he⟩
theorem CTurn.pair (Z : CxOk w C) (hh : A.handled = none) {x y : Str} {px py tp : Pos} {k : Nat} {elt : Expr} {ifs : List Expr} {i j : Nat} {p q r : PV} {b : Bool} (hx : Nth C.nms i x) (kx : C.env.kindOf x = some .local) (nx : Nth Γ i none) (hp : Put Γ i p Γ')
  (hy : Nth C.nms j y) (ky : C.env.kindOf y = some .local) (ny : Nth Γ' j none) (hq : Put Γ' j q Γ₁) (hea : assignEach [.Name x px, .Name y py] C.env = [(false,assign (.Name x px) C.env),(false,assign (.Name y py) C.env)])
  (ht : Tests w A C Γ₁ led ifs b) (he : b = true -> PureT T w A C Γ₁ led elt r) :
  ∃ Γ₁,CTurn T w A C (.Tuple [.Name x px, .Name y py] k tp) elt ifs Γ Γ₁ led (.tup [p,q]) b r :=
 ⟨_,AsgB.pair Z hh (AsgB.nm Z hx kx hp) (AsgB.nm Z hy ky hq) hea,fun k e h => hq.sub ny k e (hp.sub nx k e h),ht,he⟩
theorem Run.letTup (Z : CxOk w C) {K : Flow -> Shared -> Prop} {rest : List Stmt} {elts : List Expr} {k : Nat} {tp pos : Pos} {e : Expr} {pv : PV} (h : PureT T w A C Γ led e pv) (ha : Asg w A C (.Tuple elts k tp) Γ led pv Γ') (hs : swapsWithSole [.Tuple elts k tp] e pos.line C.env = pure false) (hw : swappedStores [.Tuple elts k tp] e C.env = pure none)
  (r : Run w A C Γ' led rest K) : Run w A C Γ led (.Assign [.Tuple elts k tp] e pos :: rest) K :=
 .st fun s a => Assign_Tuple (h s _ _ a fun v s' rv g a' => ha s' v _ _ a' rv fun h2 k2 _ a2 => r _ a2) hs hw
theorem Asg.pairS (Z : CxOk w C) (hh : A.handled = none) {x y : Str} {px py tp : Pos} {k : Nat} {i j : Nat} {p q : PV} (hx : Nth C.nms i x) (kx : StK C x) (hp : Put Γ i p Γ') (hy : Nth C.nms j y) (ky : StK C y) (hq : Put Γ' j q Γ'') (he : assignEach [.Name x px, .Name y py] C.env = [(false,assign (.Name x px) C.env),(false,assign (.Name y py) C.env)]) :
  Asg w A C (.Tuple [.Name x px, .Name y py] k tp) Γ led (.tup [p,q]) Γ'' := Asg.pair Z hh (Asg.set Z hx kx hp) (Asg.set Z hy ky hq) he
theorem EvC.compN (Z : CxOk w C) (hT : Tabs T led) (nms : List Str) {target iter elt : Expr} {ifs : List Expr} {scope : Scope} {pos spos : Pos} {cl : List (Str × Addr)} {n : Nat} {P : Nat -> PV} {Γ₀ : List (Option PV)} (hs : Src w A C Γ led iter n P) (hclos : closureFor scope C.env = pure cl) (hcell : (scope.names.all fun y => y.2 != .cell) = true) (hkind : scope.kind = .function)
  (hnames : (scope.names.all fun y => y.2 != .local || scope.names.lookup y.1 == some .local) = true) (hf : ∀ x,foldedSetIterable iter C.env x = pure x) (nd : nms.Nodup) (dbg : (nms.all fun x => !(x == ("__debug__" : Str))) = true)
  (hcl : (∀ q ∈ cl,q ∈ C.env.cells /\ C.env.kindOf q.1 = some .cell)) (hc : Inn C scope cl Γ nms Γ₀) (p : Nat -> Bool) (F : Nat -> PV) (hn : n <= 1000)
  (turn : ∀ (g : Heap) (Cn D : Addr) (i : Nat) (l : List PV),CxOk w (C.inner g scope cl Cn nms) -> i < n -> ∃ Γ₁,CTurn T w A (C.inner g scope cl Cn nms) target elt ifs Γ₀ Γ₁ ((D, .list l) :: led) (P i) (p i) (F i)) :
  EvC T w A C Γ led (fun use => comprehension (.ListComp elt [⟨target,iter,ifs,0⟩] scope pos) scope C.env spos (newList []) false (eval iter C.env) use) fun l q => l = led /\ q = .lst (((List.range n).filter p).map F) :=
 EvC.list Z hT hs hclos (fun y hy => by simpa using List.all_eq_true.mp hcell y hy) hkind (fun y hy e => by
  have:=List.all_eq_true.mp hnames y hy
  rw [Bool.or_eq_true,beq_iff_eq] at this
  exact this.elim (fun h => by rw [e] at h;exact nB h) id) hf nms _ nd (fun x hx => by simpa using List.all_eq_true.mp dbg x hx) hcl (fun Cn i x pv => hc.at Cn i x pv) p F hn turn
theorem PureT.compN (Z : CxOk w C) (hT : Tabs T led) (nms : List Str) {target iter elt : Expr} {ifs : List Expr} {scope : Scope} {pos : Pos} {cl : List (Str × Addr)} {n : Nat} {P : Nat -> PV} {Γ₀ : List (Option PV)} (hs : Src w A C Γ led iter n P) (hclos : closureFor scope C.env = pure cl) (hcell : (scope.names.all fun y => y.2 != .cell) = true) (hkind : scope.kind = .function)
  (hnames : (scope.names.all fun y => y.2 != .local || scope.names.lookup y.1 == some .local) = true) (hf : ∀ x,foldedSetIterable iter C.env x = pure x) (nd : nms.Nodup) (dbg : (nms.all fun x => !(x == ("__debug__" : Str))) = true)
  (hcl : (∀ q ∈ cl,q ∈ C.env.cells /\ C.env.kindOf q.1 = some .cell)) (hc : Inn C scope cl Γ nms Γ₀) (p : Nat -> Bool) (F : Nat -> PV) (hn : n <= 1000)
  (turn : ∀ (g : Heap) (Cn D : Addr) (i : Nat) (l : List PV),CxOk w (C.inner g scope cl Cn nms) -> i < n -> ∃ Γ₁,CTurn T w A (C.inner g scope cl Cn nms) target elt ifs Γ₀ Γ₁ ((D, .list l) :: led) (P i) (p i) (F i)) :
  PureT T w A C Γ led (.ListComp elt [⟨target,iter,ifs,0⟩] scope pos) (.lst (((List.range n).filter p).map F)) :=
 (EvC.compN (spos:=firstIterPos [⟨target,iter,ifs,0⟩] pos) Z hT nms hs hclos hcell hkind hnames hf nd dbg hcl hc p F hn turn).pureT Z (by rw [eval_ListComp];rfl)
theorem EvC.compN2 (Z : CxOk w C) (hT : Tabs T led) (nms : List Str) {target iter elt target₂ iter₂ : Expr} {ifs₂ : List Expr} {scope : Scope} {pos spos : Pos} {cl : List (Str × Addr)} {n : Nat} {P : Nat -> PV} {Γ₀ : List (Option PV)} (hs : Src w A C Γ led iter n P) (hclos : closureFor scope C.env = pure cl) (hcell : (scope.names.all fun y => y.2 != .cell) = true) (hkind : scope.kind = .function)
  (hnames : (scope.names.all fun y => y.2 != .local || scope.names.lookup y.1 == some .local) = true) (hf : ∀ x,foldedSetIterable iter C.env x = pure x) (nd : nms.Nodup) (dbg : (nms.all fun x => !(x == ("__debug__" : Str))) = true)
  (hcl : (∀ q ∈ cl,q ∈ C.env.cells /\ C.env.kindOf q.1 = some .cell)) (hc : Inn C scope cl Γ nms Γ₀) (n₂ : Nat -> Nat) (p₂ : Nat -> Nat -> Bool) (F₂ P₂ : Nat -> Nat -> PV) (hn : ∀ i,i <= n -> (outL n₂ p₂ F₂ i).length + n₂ i <= 1000) (hf₂ : ∀ Cn x,foldedSetIterable iter₂ (compEnvC scope cl Cn C.env) x = pure x)
  (turn : ∀ (g : Heap) (Cn D : Addr) (i : Nat),CxOk w (C.inner g scope cl Cn nms) -> i < n -> ∃ Γ₁,CTurn2 T w A (C.inner g scope cl Cn nms) target iter₂ target₂ elt ifs₂ Γ₀ Γ₁ D led (P i) (n₂ i) (p₂ i) (F₂ i) (P₂ i)) :
  EvC T w A C Γ led (fun use => comprehension (.ListComp elt [⟨target,iter, [],0⟩,⟨target₂,iter₂,ifs₂,0⟩] scope pos) scope C.env spos (newList []) false (eval iter C.env) use) fun l q => l = led /\ q = .lst (outL n₂ p₂ F₂ n) :=
 EvC.list2 Z hT hs hclos (fun y hy => by simpa using List.all_eq_true.mp hcell y hy) hkind (fun y hy e => by
  have:=List.all_eq_true.mp hnames y hy
  rw [Bool.or_eq_true,beq_iff_eq] at this
  exact this.elim (fun h => by rw [e] at h;exact nB h) id) hf nms _ nd (fun x hx => by simpa using List.all_eq_true.mp dbg x hx) hcl (fun Cn i x pv => hc.at Cn i x pv) n₂ p₂ F₂ P₂ hn hf₂ turn
theorem PureT.compN2 (Z : CxOk w C) (hT : Tabs T led) (nms : List Str) {target iter elt target₂ iter₂ : Expr} {ifs₂ : List Expr} {scope : Scope} {pos : Pos} {cl : List (Str × Addr)} {n : Nat} {P : Nat -> PV} {Γ₀ : List (Option PV)} (hs : Src w A C Γ led iter n P) (hclos : closureFor scope C.env = pure cl) (hcell : (scope.names.all fun y => y.2 != .cell) = true) (hkind : scope.kind = .function)
  (hnames : (scope.names.all fun y => y.2 != .local || scope.names.lookup y.1 == some .local) = true) (hf : ∀ x,foldedSetIterable iter C.env x = pure x) (nd : nms.Nodup) (dbg : (nms.all fun x => !(x == ("__debug__" : Str))) = true)
  (hcl : (∀ q ∈ cl,q ∈ C.env.cells /\ C.env.kindOf q.1 = some .cell)) (hc : Inn C scope cl Γ nms Γ₀) (n₂ : Nat -> Nat) (p₂ : Nat -> Nat -> Bool) (F₂ P₂ : Nat -> Nat -> PV) (hn : ∀ i,i <= n -> (outL n₂ p₂ F₂ i).length + n₂ i <= 1000) (hf₂ : ∀ Cn x,foldedSetIterable iter₂ (compEnvC scope cl Cn C.env) x = pure x)
  (turn : ∀ (g : Heap) (Cn D : Addr) (i : Nat),CxOk w (C.inner g scope cl Cn nms) -> i < n -> ∃ Γ₁,CTurn2 T w A (C.inner g scope cl Cn nms) target iter₂ target₂ elt ifs₂ Γ₀ Γ₁ D led (P i) (n₂ i) (p₂ i) (F₂ i) (P₂ i)) :
  PureT T w A C Γ led (.ListComp elt [⟨target,iter, [],0⟩,⟨target₂,iter₂,ifs₂,0⟩] scope pos) (.lst (outL n₂ p₂ F₂ n)) :=
 (EvC.compN2 (spos:=firstIterPos [⟨target,iter, [],0⟩,⟨target₂,iter₂,ifs₂,0⟩] pos) Z hT nms hs hclos hcell hkind hnames hf nd dbg hcl hc n₂ p₂ F₂ P₂ hn hf₂ turn).pureT Z (by rw [eval_ListComp];rfl)
end
noncomputable def cmpS (a b : Str) : Int:=b2i (decide (b.cps.toList < a.cps.toList)) - b2i (decide (a.cps.toList < b.cps.toList))
noncomputable def octs (x : Int) : Array UInt8:=byteArr (List.map (fun k' => ((x.fdiv 3).fdiv (256 ^ k'.toNat)).fmod 256) (rangeKs 0 (1 + x.fmod 3 - 0).toNat))
theorem sg_rng : ∀ n : Nat,n < 64 -> (n < 26 /\ (sg n).toNat = n + 65) \/ (26 <= n /\ n < 52 /\ (sg n).toNat = n + 71) \/ (52 <= n /\ n < 62 /\ (sg n).toNat + 4 = n) \/ (n = 62 /\ (sg n).toNat = 43) \/ (n = 63 /\ (sg n).toNat = 47):=by decide +kernel
theorem words_N1 : True:=by
 k_with_none
 k_with "w" => first | with_reducible exact Nth.zero | with_reducible exact Nth.one | with_reducible exact Nth.two | with_reducible exact Nth.three | ((with_reducible apply Nth.add4);k_extra "w") | fail
 k_with "g" => first | ((try dsimp only);k_extra "w") | fail
 k_with "q" => first | with_reducible exact Put.zero | with_reducible exact Put.one | with_reducible exact Put.two | with_reducible exact Put.three | ((with_reducible apply Put.add4);k_extra "q") | fail
 k_with "r" => fail "no"
 k_with "L" => fail "no"
 k_with "d" => first | with_reducible exact List.mem_cons_self | ((with_reducible apply List.mem_cons_of_mem);k_extra "d") | fail
 k_with "c" => first | with_reducible rfl | with_reducible assumption | exact Nat.le_of_ble_eq_true rfl | lia | decide | (intro _ _;with_unfolding_all rfl) | (intro _;with_unfolding_all rfl) | with_unfolding_all rfl | k_extra "r" | fail
 k_with "u" => first | (intro _ _;with_unfolding_all rfl) | fail
 k_with "s" => first | exact .inl rfl | exact .inr ⟨rfl,_,rfl⟩ | fail
 k_with "i" => first | ((with_reducible apply oAddS);k_extra "c";(first | k_extra "r" | rfl)) | k_extra "r" | fail
 k_with "i" => first | ((with_reducible apply oShl);decide;decide;k_extra "c") | ((with_reducible apply oPow);k_extra "c";k_extra "c";k_extra "c") | fail
 k_with "i" => first | ((with_reducible apply oFDiv);decide;decide) | ((with_reducible apply oMod);decide) | fail
 k_with "i" => first | with_reducible exact oAdd | with_reducible exact oSub | with_reducible exact oLt | with_reducible exact oLe | with_reducible exact oGt | with_reducible exact oGe | with_reducible exact oEq | with_reducible exact oNe | with_reducible exact oEqS | with_reducible exact oNeS | with_reducible exact oGtS | with_reducible exact oLtS | with_reducible exact oLeS | with_reducible exact oAddI | with_reducible exact oSubI | with_reducible exact oAnd | with_reducible exact oOr | ((with_reducible apply oShr);k_extra "c") | fail
 k_with "n" => first | (apply Pure.builtin Z;k_is;boot_fast;decide;rfl;decide) | fail
 k_with "n" => first | (apply Pure.global Z;k_is;rfl;decide) | fail
 k_with "o" => first | with_reducible exact Args.nil | ((with_reducible apply Args.cons);k_extra "p";rfl;k_extra "o") | fail
 k_with "k" => first | exact .inl ⟨_,rfl⟩ | exact .inr (.inl ⟨_,rfl⟩) | (refine .inr (.inr ?_);k_is) | fail
 k_with "H" => first | ((with_reducible apply gLenL);k_extra "c") | ((with_reducible apply gLenS);k_extra "c") | k_extra "r" | fail
 k_with "K" => first | exact True.intro | k_extra "p" | fail
 k_with "p" => first | ((with_reducible show Pure _ _ _ _ _ (.Call ..) _;apply Pure.call Z);k_extra "n";k_extra "k";k_extra "o";k_extra "H") | fail
 k_with "p" => first | ((with_reducible show Pure _ _ _ _ _ (.Subscript ..) _;apply Pure.itemL Z);k_extra "p";k_extra "p";k_extra "c";k_extra "r";k_extra "c";k_extra "u";k_extra "u") | fail
 k_with "p" => first | ((with_reducible show Pure _ _ _ _ _ (.UnaryOp ..) _;apply Pure.neg Z);k_extra "p") | fail
 k_with "p" => first | ((with_reducible show Pure _ _ _ _ _ (.List ..) _;apply Pure.list Z);k_extra "o";(exact Nat.le_of_ble_eq_true rfl)) | ((with_reducible show Pure _ _ _ _ _ (.Tuple ..) _;apply Pure.tuple Z);k_extra "o";(exact Nat.le_of_ble_eq_true rfl)) | fail
 k_with "p" => first | ((with_reducible show Pure _ _ _ _ _ (.BinOp ..) _;apply Pure.binop Z);k_extra "p";k_extra "p";k_extra "i") | fail
 k_with "p" => first | k_extra "L" | fail
 k_with "p" => first | with_reducible exact Pure.int Z | with_reducible exact Pure.str Z | with_reducible exact Pure.bool | with_reducible exact Pure.nil | ((with_reducible show Pure _ _ _ _ _ (.Name ..) _;apply Pure.nm Z);k_extra "g";k_extra "w") | fail
 k_with "z" => first | exact decide_eq_true (by lia) | exact decide_eq_false (by lia) | with_reducible rfl | with_reducible assumption | decide +kernel | rfl | k_extra "r" | fail
 k_with "E" => first | ((with_reducible show Test _ _ _ _ _ (.Compare ..) _;apply Test.cmp Z);k_extra "p";k_extra "p";k_extra "i") | fail
 k_with "a" => first | ((with_reducible apply Test.as);k_extra "E";k_extra "z") | fail
 k_with "a" => first | ((with_reducible show Test _ _ _ _ _ (.BoolOp ..) _;apply Test.andT);k_extra "a";k_extra "a") | fail
 k_with "a" => first | ((with_reducible show Test _ _ _ _ _ (.BoolOp ..) _;apply Test.orT);k_extra "a") | ((with_reducible show Test _ _ _ _ _ (.BoolOp ..) _;apply Test.orR);k_extra "e";k_extra "a") | fail
 k_with "a" => first | ((with_reducible show Test _ _ _ _ _ (.UnaryOp ..) _;apply Test.notT);k_extra "e") | fail
 k_with "e" => first | ((with_reducible apply Test.as);k_extra "E";k_extra "z") | fail
 k_with "e" => first | ((with_reducible show Test _ _ _ _ _ (.BoolOp ..) _;apply Test.andF);k_extra "a";k_extra "e") | ((with_reducible show Test _ _ _ _ _ (.BoolOp ..) _;apply Test.andN);k_extra "e") | fail
 k_with "e" => first | ((with_reducible show Test _ _ _ _ _ (.BoolOp ..) _;apply Test.orR);k_extra "e";k_extra "e") | fail
 k_with "e" => first | ((with_reducible show Test _ _ _ _ _ (.UnaryOp ..) _;apply Test.notF);k_extra "a") | fail
 k_with "I" => first | ((fail_if_success with_reducible show Test _ _ _ _ _ (.Compare ..) _);(with_reducible apply Test.of);k_extra "p";(first | exact truthyB | exact truthyI);(intro _;rfl)) | fail
 k_with "a" => first | ((with_reducible apply Test.as);k_extra "I";k_extra "z") | fail
 k_with "e" => first | ((with_reducible apply Test.as);k_extra "I";k_extra "z") | fail
 k_with "f" => first | ((with_reducible apply Test.of);k_extra "p";(first | exact truthyB | exact truthyI);(intro _;rfl)) | fail
 k_with "f" => first | ((with_reducible show Test _ _ _ _ _ (.Compare ..) _;apply Test.cmp Z);k_extra "p";k_extra "p";k_extra "i") | fail
 k_with "f" => first | ((with_reducible show Test _ _ _ _ _ (.BoolOp ..) _;apply Test.and);k_extra "f";(intro h_and;k_extra "f")) | fail
 k_with "f" => first | ((with_reducible show Test _ _ _ _ _ (.BoolOp ..) _;apply Test.or);k_extra "f";(intro h_or;k_extra "f")) | fail
 k_with "f" => first | ((with_reducible show Test _ _ _ _ _ (.UnaryOp ..) _;apply Test.not);k_extra "f") | fail
 k_with "b" => first | with_reducible exact Swap.head | ((with_reducible apply Swap.tail);k_extra "b") | fail
 k_with "j" => first | with_reducible exact Drop.head | ((with_reducible apply Drop.tail);k_extra "j") | fail
 k_with "y" => first | ((with_reducible apply Run.freeze Z);k_extra "j";k_extra "w";k_extra "q") | fail
 k_with "t" => first | ((with_reducible show Run _ _ _ _ _ (.Assert .. :: _) _;apply Run.assert Z);k_extra "a") | fail
 k_with "t" => first | ((with_reducible show Run _ _ _ _ _ (.Assign [.Tuple ..] _ _ :: _) _;apply Run.let2g Z hA.1);k_extra "o";k_extra "g";k_extra "g";k_extra "s";k_extra "s";k_extra "q";k_extra "q";rfl;with_unfolding_all rfl) | fail
 k_with "t" => first | ((with_reducible show Run _ _ _ _ _ (.Expr (.Call (.Attribute ..) ..) _ :: _) _;apply Run.append Z);k_extra "p";k_extra "p";k_extra "b";k_extra "c";rfl;rfl;rfl;rfl;rfl;(try dsimp only [List.nil_append,List.cons_append])) | fail
 k_with "t" => first | ((with_reducible show Run _ _ _ _ _ (.Assign [.Name ..] _ _ :: _) _;apply Run.letG (T := []) Z);(apply Pure.toT;k_extra "p");k_extra "g";k_extra "s";k_extra "q";rfl) | fail
 k_with "t" => first | ((with_reducible show Run _ _ _ _ _ (.AugAssign .. :: _) _;apply Run.aug_ Z);k_extra "g";rfl;k_extra "w";k_extra "p";k_extra "i";k_extra "q") | fail
 k_with "t" => first | ((with_reducible show Run _ _ _ _ _ (.Assign _ (.List ..) _ :: _) _;apply Run.newList Z);k_extra "g";rfl;rfl;(intro b;k_extra "q");(intro b;(try dsimp only))) | fail
 k_with "m" => first | k_extra "t" | ((with_reducible show Run _ _ _ _ _ (.If .. :: _) _;apply Run.ifT);k_extra "a") | ((with_reducible show Run _ _ _ _ _ (.If .. :: _) _;apply Run.ifF);k_extra "e") | with_reducible apply Run.done | with_reducible apply Run.again | with_reducible refine Run.whileU 12 ?_ | ((with_reducible apply WT.yes);k_extra "a") | ((with_reducible apply WT.no);k_extra "e") | k_extra "B" | fail
 k_with "x" => first | exact .nil | ((apply Inn.cap);(intro _;rfl);rfl;rfl;rfl;k_extra "g";k_extra "w";k_extra "x") | ((apply Inn.tgt);k_extra "x") | fail
 k_with "J" => first | exact List.Mem.head _ | ((refine List.Mem.tail _ ?_);k_extra "J") | fail
 k_with "v" => first | exact List.forall_mem_nil _ | ((refine List.forall_mem_cons.mpr ⟨⟨?_,rfl⟩, ?_⟩);k_extra "J";k_extra "v") | fail
 k_with "O" => first | (rfl;decide;rfl;decide;(intro _;rfl);decide;decide;k_extra "v";k_extra "x") | fail
 k_with "t" => first | ((with_reducible show Run _ _ _ _ _ (.Assign [.Tuple ..] _ _ :: _) _;apply Run.letTup (T := []) Z);(apply Pure.toT;k_extra "p");((with_reducible apply Asg.pairS Z hA.1);k_extra "g";k_extra "s";k_extra "q";k_extra "g";k_extra "s";k_extra "q";rfl);rfl;rfl) | fail
 k_with "A" => first | assumption | (with_reducible first | refine wpAny_pure ?_ | refine wpAny_bind ?_ | refine wpAny_holding ?_ | refine wpAny_standAt ?_ | refine wpAny_point ?_ | refine wpAny_rule ?_ | refine wpAny_letGo ?_ | refine wpAny_mkInt' ?_ | refine wpAny_fresh' ?_ | refine wpAny_alloc' ?_ | refine wpAny_attempt ?_ | refine wpAny_throw ?_ | refine wpAny_of_eq (by assumption) ?_ | refine wpAny_typeOf (by assumption) ?_ | refine wpAny_specialOf_val (by assumption) (by assumption) ?_ | refine wpAny_specialOf (by assumption) (by assumption) ?_ | refine wpAny_isInstance_val (by assumption) (by assumption) ?_ | refine wpAny_isInstance (by assumption) (by assumption) ?_ | refine wpAny_call ?_ | refine wpAny_runValue ?_ | refine wpAny_run ?_) | ((with_reducible show wpAny _ _ (load _) _ _ _;apply wpAny_load');focus (heap_get;done)) | ((with_reducible show wpAny _ _ (update _ _) _ _ _;apply wpAny_update');focus (heap_get;done)) | ((with_reducible show wpAny _ _ (loadPart _ _) _ _ _;apply wpAny_loadPart');focus (heap_get;done)) | ((with_reducible show wpAny _ _ (updatePart _ _ _) _ _ _;apply wpAny_updatePart');focus (heap_get;done)) | ((with_reducible refine wpAny_handled_none ?_ ?_);focus (assumption;done)) | ((with_reducible refine wpAny_ite_false ?_ ?_);focus (rfl;done)) | ((with_reducible refine wpAny_ite_true ?_ ?_);focus (rfl;done)) | ((with_reducible refine wpAny_ite_false ?_ ?_);focus (simp [*];done)) | ((with_reducible refine wpAny_ite_true ?_ ?_);focus (simp [*];done)) | wp_delta | with_reducible_and_instances refine wpAny_pure ?_ | with_reducible_and_instances refine wpAny_bind ?_
 trivial
section
variable {w : World}
theorem f_strcoll (a b : Str) : Fn w 45 1 [.str a, .str b] (.int (cmpS a b)):=FnG.fn (by
 refine' FnM.enter [Str.ofString "a",Str.ofString "b"] [] ?ho ?hcd ?hK ?ndT ?hb ?hloc ?hdb ?nd ?hnd ?hco ?hgen ?hk ?hlen ?run
 case ho | hcd => k_is
 case hK => exact noTabsK w
 case ndT => decide
 case hb =>
  intro s vs hv KX
  refine X20 (len2 hv) fun v0 v1 q2 => ?_;subst q2
  exact BindsTo.of_eq rfl
 case hloc | hdb | nd | hnd => decide +kernel
 case hco | hgen | hk | hlen => rfl
 intro C A L Z he hn hA hX
 obtain ⟨h₀,M₀,env,nms,X⟩ := C
 dsimp only [List.cons_append,List.nil_append] at he hn
 subst he hn
 dsimp only [List.map,List.replicate,List.cons_append,List.nil_append,List.length]
 with_reducible refine' Run.ret (pv:=.int (cmpS a b)) (Pure.binop Z (Pure.cmp Z ?qaz ?qbz oGtS) (Pure.cmp Z ?qcz ?qdz oLtS) oSubBB) ?qzz
 case qaz | qbz | qcz | qdz => k_extra "p"
 case qzz => exact fun s v as r => EndsG.ret as noT r)
theorem f_strxfrm (a : Str) : Fn w 52 1 [.str a] (.str a):=FnG.fn (by
 refine' FnM.enter [Str.ofString "s"] [] ?ho ?hcd ?hK ?ndT ?hb ?hloc ?hdb ?nd ?hnd ?hco ?hgen ?hk ?hlen ?run
 case ho | hcd => k_is
 case hK => exact noTabsK w
 case ndT => decide
 case hb =>
  intro s vs hv KX
  refine X10 (len1 hv) fun v0 q1 => ?_;subst q1
  exact BindsTo.of_eq rfl
 case hloc | hdb | nd | hnd => decide +kernel
 case hco | hgen | hk | hlen => rfl
 intro C A L Z he hn hA hX
 obtain ⟨h₀,M₀,env,nms,X⟩ := C
 dsimp only [List.cons_append,List.nil_append] at he hn
 subst he hn
 dsimp only [List.map,List.replicate,List.cons_append,List.nil_append,List.length]
 exact Run.ret (pv:=.str a) (by k_extra "p") fun s v as r => EndsG.ret as noT r)
theorem f_buffer (b : Array UInt8) : Fn w 101 1 [.bytes b] (.bytes b):=FnG.fn (by
 refine' FnM.enter [Str.ofString "data"] [Str.ofString "t"] ?ho ?hcd ?hK ?ndT ?hb ?hloc ?hdb ?nd ?hnd ?hco ?hgen ?hk ?hlen ?run
 case ho | hcd => k_is
 case hK => exact noTabsK w
 case ndT => decide
 case hb =>
  intro s vs hv KX
  refine X10 (len1 hv) fun v0 q1 => ?_;subst q1
  exact BindsTo.of_eq rfl
 case hloc | hdb | nd | hnd => decide +kernel
 case hco | hgen | hk | hlen => rfl
 intro C A L Z he hn hA hX
 obtain ⟨h₀,M₀,env,nms,X⟩ := C
 dsimp only [List.cons_append,List.nil_append] at he hn
 subst he hn
 dsimp only [List.map,List.replicate,List.cons_append,List.nil_append,List.length]
 with_reducible refine' Run.letG (T := []) (pv:=.val (.type "bytes")) Z (Pure.toT (Pure.call Z ?qaz ?qbz (.cons ?qcz ?qdz .nil) gTyBytes)) ?qez ?qfz ?qgz ?qhz ?qiz
 case qaz => k_extra "n"
 case qbz => k_extra "k"
 case qcz => k_extra "p"
 case qdz => rfl
 case qez => k_extra "g"
 case qfz => k_extra "s"
 case qgz => k_extra "q"
 case qhz => rfl
 with_reducible refine' Run.ifT (Test.cmp Z ?qjz ?qkz (oIsTy ?qlz)) (Run.ret ?qmz ?qnz)
 case qjz => k_extra "p"
 case qkz => k_extra "n"
 case qlz => decide +kernel
 case qmz => k_extra "p"
 case qnz => exact fun s v as r => EndsG.ret as noT r)
theorem f_ascii (b : Array UInt8) : Fn w 94 1 [.bytes b] (.bytes b):=FnG.fn (by
 refine' FnM.enter [Str.ofString "data"] [Str.ofString "t"] ?ho ?hcd ?hK ?ndT ?hb ?hloc ?hdb ?nd ?hnd ?hco ?hgen ?hk ?hlen ?run
 case ho | hcd => k_is
 case hK => exact noTabsK w
 case ndT => decide
 case hb =>
  intro s vs hv KX
  refine X10 (len1 hv) fun v0 q1 => ?_;subst q1
  exact BindsTo.of_eq rfl
 case hloc | hdb | nd | hnd => decide +kernel
 case hco | hgen | hk | hlen => rfl
 intro C A L Z he hn hA hX
 obtain ⟨h₀,M₀,env,nms,X⟩ := C
 dsimp only [List.cons_append,List.nil_append] at he hn
 subst he hn
 dsimp only [List.map,List.replicate,List.cons_append,List.nil_append,List.length]
 with_reducible refine' Run.letG (T := []) (pv:=.val (.type "bytes")) Z (Pure.toT (Pure.call Z ?qaz ?qbz (.cons ?qcz ?qdz .nil) gTyBytes)) ?qez ?qfz ?qgz ?qhz ?qiz
 case qaz => k_extra "n"
 case qbz => k_extra "k"
 case qcz => k_extra "p"
 case qdz => rfl
 case qez => k_extra "g"
 case qfz => k_extra "s"
 case qgz => k_extra "q"
 case qhz => rfl
 with_reducible refine' Run.ifF (Test.cmp Z ?qoz ?qpz (oIsTy ?qqz)) (Run.done (Run.ifT (Test.cmp Z ?qjz ?qkz (oIsTy ?qlz)) (Run.ret ?qmz ?qnz)))
 case qoz => k_extra "p"
 case qpz => k_extra "n"
 case qqz => decide +kernel
 case qjz => k_extra "p"
 case qkz => k_extra "n"
 case qlz => decide +kernel
 case qmz => k_extra "p"
 case qnz => exact fun s v as r => EndsG.ret as noT r)
theorem f_truth (b : Bool) : Fn w 108 1 [.bool b] (.bool b):=FnG.fn (by
 refine' FnM.enter [Str.ofString "x"] [Str.ofString "t"] ?ho ?hcd ?hK ?ndT ?hb ?hloc ?hdb ?nd ?hnd ?hco ?hgen ?hk ?hlen ?run
 case ho | hcd => k_is
 case hK => exact noTabsK w
 case ndT => decide
 case hb =>
  intro s vs hv KX
  refine X10 (len1 hv) fun v0 q1 => ?_;subst q1
  exact BindsTo.of_eq rfl
 case hloc | hdb | nd | hnd => decide +kernel
 case hco | hgen | hk | hlen => rfl
 intro C A L Z he hn hA hX
 obtain ⟨h₀,M₀,env,nms,X⟩ := C
 dsimp only [List.cons_append,List.nil_append] at he hn
 subst he hn
 dsimp only [List.map,List.replicate,List.cons_append,List.nil_append,List.length]
 with_reducible refine' Run.letG (T := []) (pv:=.val (.type "bool")) Z (Pure.toT (Pure.call Z ?qaz ?qbz (.cons ?qcz ?qdz .nil) gTyBool)) ?qez ?qfz ?qgz ?qhz ?qiz
 case qaz => k_extra "n"
 case qbz => k_extra "k"
 case qcz => k_extra "p"
 case qdz => rfl
 case qez => k_extra "g"
 case qfz => k_extra "s"
 case qgz => k_extra "q"
 case qhz => rfl
 with_reducible refine' Run.ifT (Test.or2 (Test.cmp Z ?qjz Pure.nil oIsBoolN) (Test.cmp Z ?qkz ?qlz (oIsTy ?qmz))) (Run.ret (pv:=.bool b) (Pure.ite (b:=b) Z (Test.of ?qnz truthyB ?qoz) (fun e => ?qpz) fun e => ?qqz) ?qrz)
 case qjz | qkz => k_extra "p"
 case qlz => k_extra "n"
 case qmz => decide +kernel
 case qnz => k_extra "p"
 case qoz => exact fun z9 => rfl
 case qpz => subst e;exact Pure.bool
 case qqz => subst e;exact Pure.bool
 case qrz => exact fun s v as r => EndsG.ret as noT r)
theorem f_b64v (n : Nat) (hn : n < 64) : Fn w 115 1 [.int ((sg n).toNat : Int)] (.int n):=FnG.fn (by
 refine' FnM.enter [Str.ofString "c"] [] ?ho ?hcd ?hK ?ndT ?hb ?hloc ?hdb ?nd ?hnd ?hco ?hgen ?hk ?hlen ?run
 case ho | hcd => k_is
 case hK => exact noTabsK w
 case ndT => decide
 case hb =>
  intro s vs hv KX
  refine X10 (len1 hv) fun v0 q1 => ?_;subst q1
  exact BindsTo.of_eq rfl
 case hloc | hdb | nd | hnd => decide +kernel
 case hco | hgen | hk | hlen => rfl
 intro C A L Z he hn hA hX
 obtain ⟨h₀,M₀,env,nms,X⟩ := C
 dsimp only [List.cons_append,List.nil_append] at he hn
 subst he hn
 dsimp only [List.map,List.replicate,List.cons_append,List.nil_append,List.length]
 have h:=sg_rng n hn
 generalize (sg n).toNat = c at h
 have dt : ∀ {a b c : Int},a <= b -> b <= c -> (decide (a <= b) && decide (b <= c)) = true:=fun h1 h2 => by rw [decide_eq_true h1,decide_eq_true h2];rfl
 have dl : ∀ {a b c : Int},b < a -> (decide (a <= b) && decide (b <= c)) = false:=fun h1 => by rw [decide_eq_false (Int.not_le.mpr h1)];rfl
 have dr : ∀ {a b c : Int},c < b -> (decide (a <= b) && decide (b <= c)) = false:=fun h1 => by rw [decide_eq_false (Int.not_le.mpr h1),Bool.and_false]
 have de : ∀ {a b : Int},a ≠ b -> (a == b) = false:=fun h => beq_eq_false_iff_ne.mpr h
 rcases h with ⟨h1,h2⟩ | ⟨h1,h2,h3⟩ | ⟨h1,h2,h3⟩ | ⟨h1,h2⟩ | ⟨h1,h2⟩
 ·with_reducible refine' Run.ifT (Test.chain2 Z ?ca0a ?ca0b ?ca0c oLe oLe ?ca0t) (Run.ret (pv:=.int n) ?car ?caz)
  case ca0a | ca0b | ca0c => k_extra "p"
  case ca0t => exact dt (by lia) (by lia)
  case car =>
   with_reducible refine' Pure.eqv ?caev (congrArg PV.int ?caeo)
   case caev => k_extra "p"
   case caeo => lia
  case caz => exact fun s v as r => EndsG.ret as noT r
 ·with_reducible refine' Run.ifF (Test.chain2 Z ?cb0a ?cb0b ?cb0c oLe oLe ?cb0t) (Run.done (Run.ifT (Test.chain2 Z ?cb1a ?cb1b ?cb1c oLe oLe ?cb1t) (Run.ret (pv:=.int n) ?cbr ?cbz)))
  case cb0a | cb0b | cb0c | cb1a | cb1b | cb1c => k_extra "p"
  case cb0t => exact dr (by lia)
  case cb1t => exact dt (by lia) (by lia)
  case cbr =>
   with_reducible refine' Pure.eqv ?cbev (congrArg PV.int ?cbeo)
   case cbev => k_extra "p"
   case cbeo => lia
  case cbz => exact fun s v as r => EndsG.ret as noT r
 ·with_reducible refine' Run.ifF (Test.chain2 Z ?cc0a ?cc0b ?cc0c oLe oLe ?cc0t) (Run.done (Run.ifF (Test.chain2 Z ?cc1a ?cc1b ?cc1c oLe oLe ?cc1t) (Run.done (Run.ifT (Test.chain2 Z ?cc2a ?cc2b ?cc2c oLe oLe ?cc2t) (Run.ret (pv:=.int n) ?ccr ?ccz)))))
  case cc0a | cc0b | cc0c | cc1a | cc1b | cc1c | cc2a | cc2b | cc2c => k_extra "p"
  case cc0t => exact dl (by lia)
  case cc1t => exact dl (by lia)
  case cc2t => exact dt (by lia) (by lia)
  case ccr =>
   with_reducible refine' Pure.eqv ?ccev (congrArg PV.int ?cceo)
   case ccev => k_extra "p"
   case cceo => lia
  case ccz => exact fun s v as r => EndsG.ret as noT r
 ·with_reducible refine' Run.ifF (Test.chain2 Z ?cd0a ?cd0b ?cd0c oLe oLe ?cd0t) (Run.done (Run.ifF (Test.chain2 Z ?cd1a ?cd1b ?cd1c oLe oLe ?cd1t) (Run.done (Run.ifF (Test.chain2 Z ?cd2a ?cd2b ?cd2c oLe oLe ?cd2t) (Run.done (Run.ifT (Test.as (Test.cmp Z ?cd8a ?cd8b oEq) ?cd8c) (Run.ret (pv:=.int n) ?cdr ?cdz)))))))
  case cd0a | cd0b | cd0c | cd1a | cd1b | cd1c | cd2a | cd2b | cd2c | cd8a | cd8b => k_extra "p"
  case cd0t => exact dl (by lia)
  case cd1t => exact dl (by lia)
  case cd2t => exact dl (by lia)
  case cd8c => exact beq_iff_eq.mpr (by lia)
  case cdr =>
   with_reducible refine' Pure.eqv ?cdev (congrArg PV.int ?cdeo)
   case cdev => k_extra "p"
   case cdeo => lia
  case cdz => exact fun s v as r => EndsG.ret as noT r
 ·with_reducible refine' Run.ifF (Test.chain2 Z ?ce0a ?ce0b ?ce0c oLe oLe ?ce0t) (Run.done (Run.ifF (Test.chain2 Z ?ce1a ?ce1b ?ce1c oLe oLe ?ce1t) (Run.done (Run.ifF (Test.chain2 Z ?ce2a ?ce2b ?ce2c oLe oLe ?ce2t) (Run.done (Run.ifF (Test.as (Test.cmp Z ?ce7a ?ce7b oEq) ?ce7c) (Run.done (Run.ifT (Test.as (Test.cmp Z ?ce8a ?ce8b oEq) ?ce8c) (Run.ret (pv:=.int n) ?cer ?cez)))))))))
  case ce0a | ce0b | ce0c | ce1a | ce1b | ce1c | ce2a | ce2b | ce2c | ce7a | ce7b | ce8a | ce8b => k_extra "p"
  case ce0t => exact dl (by lia)
  case ce1t => exact dl (by lia)
  case ce2t => exact dl (by lia)
  case ce7c => exact de (by lia)
  case ce8c => exact beq_iff_eq.mpr (by lia)
  case cer =>
   with_reducible refine' Pure.eqv ?ceev (congrArg PV.int ?ceeo)
   case ceev => k_extra "p"
   case ceeo => lia
  case cez => exact fun s v as r => EndsG.ret as noT r)
theorem f_octets (x : Int) : Fn w 190 2 [.int x] (.bytes (octs x)):=FnG.fn (by
 refine' FnM.enter [Str.ofString "x"] [] ?ho ?hcd ?hK ?ndT ?hb ?hloc ?hdb ?nd ?hnd ?hco ?hgen ?hk ?hlen ?run
 case ho | hcd => k_is
 case hK => exact noTabsK w
 case ndT => decide
 case hb =>
  intro s vs hv KX
  refine X10 (len1 hv) fun v0 q1 => ?_;subst q1
  exact BindsTo.of_eq rfl
 case hloc | hdb | nd | hnd => decide +kernel
 case hco | hgen | hk | hlen => rfl
 intro C A L Z he hn hA hX
 obtain ⟨h₀,M₀,env,nms,X⟩ := C
 dsimp only [List.cons_append,List.nil_append] at he hn
 subst he hn
 dsimp only [List.map,List.replicate,List.cons_append,List.nil_append,List.length]
 have hm : 0 <= x.fmod 3 /\ x.fmod 3 < 3:=⟨Int.fmod_nonneg_of_pos _ (by decide),Int.fmod_lt_of_pos _ (by decide)⟩
 have hk : ∀ k : Nat,k < 3 -> ((256 : Int) ^ k ≠ 0 /\ ((256 : Int) ^ k).natAbs < 1073741824):=by decide +kernel
 refine X10 (Int.eq_ofNat_of_zero_le (show 0 <= 1 + x.fmod 3 by lia)) fun n hn => ?_
 have hn3 : n <= 3:=by lia
 have e : octs x = byteArr ((List.range n).map fun i : Nat => ((x.fdiv 3).fdiv (256 ^ i)).fmod 256):=by
  unfold octs rangeKs
  rw [Int.sub_zero,hn,Int.toNat_natCast,List.map_map]
  congr 1
  refine List.map_congr_left fun i _ => ?_
  show ((x.fdiv 3).fdiv (256 ^ (0 + (i : Int)).toNat)).fmod 256 = _
  rw [Int.zero_add,Int.toNat_natCast]
 rw [e]
 with_reducible refine' Run.ret (Pure.call Z ?ra ?rb (.cons (PureT.toPure (PureT.compN Z noT [Str.ofString "k",Str.ofString "x"] (Src.range1 (n:=n) Z hA.1 ?rc (.cons (Pure.eqv ?rd (congrArg PV.int hn)) ?re .nil) rfl ?rf) ?y1 ?y2 ?y3 ?y4 ?y5 ?y6 ?y7 ?y8 ?y9 (fun z9 => true) (fun i => .int (((x.fdiv 3).fdiv (256 ^ i)).fmod 256)) ?rg ?rh)) ?ri .nil) (gBytesL (ns:=(List.range n).map fun i : Nat => ((x.fdiv 3).fdiv (256 ^ i)).fmod 256) hA.1 ?rj ?rk rfl ?rl)) ?rm
 case ra => k_extra "n"
 case rb => k_extra "k"
 case rc => k_extra "n"
 case rd => k_extra "p"
 case re => rfl
 case rf => lia
 case y1 | y2 | y3 | y4 => rfl
 case y5 => exact fun z9 => rfl
 case y6 | y7 => decide
 case y8 => k_extra "v"
 case y9 => k_extra "x"
 case rg => lia
 case ri => rfl
 case rj =>
  intro m hm
  refine X11 (List.mem_map.mp hm) fun i _ q2 => ?_;subst q2
  exact ⟨Int.fmod_nonneg_of_pos _ (by decide),Int.fmod_lt_of_pos _ (by decide)⟩
 case rk => rw [List.length_map,List.length_range];lia
 case rl => rw [List.filter_eq_self.mpr fun z9 z9 => rfl,List.map_map];rfl
 case rm => exact fun s v as r => EndsG.ret as noT r
 case rh =>
  intro g Cn D i l Z hi
  obtain ⟨k1,k2⟩ := hk i (by lia)
  refine CTurn.one Z .zero rfl .zero .zero rfl fun z9 => Pure.toT ?_
  with_reducible refine' Pure.binop Z (Pure.binop Z (Pure.binop Z ?sa ?sb (oFDiv ?sc ?sd)) (Pure.binop Z ?se ?sf (oPow (n:=(i : Int)) ?sg ?sh ?si)) (oFDiv (b:=256 ^ (i : Int).toNat) ?sj ?sk)) ?sl (oMod ?sm)
  case sa | sb => k_extra "p"
  case sc | sd => decide
  case se | sf => k_extra "p"
  case sg | sh => lia
  case si => decide
  case sj => exact k1
  case sk => exact k2
  case sl => k_extra "p"
  case sm => decide)
end
noncomputable def sp (a : Str) (i : Int) : Bool:=Txt.item a i == Str.ofString " "
section
variable {w : World} {C : Cx} {A : Around} {Γ : List (Option PV)} {led : Led}
theorem Test.sp (Z : CxOk w C) {e i : Expr} {p1 p2 pos : Pos} {kk : Nat} {x : Str} {k : Int} {b : Bool} (h1 : Pure w A C Γ led e (.str x)) (h2 : Pure w A C Γ led i (.int k)) (h0 : 0 <= k) (hk : k < (x.length : Int)) (hn : x.length <= 1000) (hb : sp x k = b)
  (hs : ∀ t u,subscripted i Bool.false (.str x t) (.int k u) = operate [.str x t, .int k u] (getItem (.str x t) (.int k u))) (ht : ∀ t r,letTemporaryGo e (.str x t) r = pure ()) : Test w A C Γ led (.Compare (.Subscript e i p1) [.Eq] [.Constant (.str (Str.ofString " ")) kk p2] pos) b:=by
 refine Test.as (Test.cmp Z (Pure.itemS Z h1 h2 (Int.le_trans (Int.neg_nonpos_of_nonneg (Int.natCast_nonneg _)) h0) hk (Nat.le_trans hn (by decide)) rfl hs ht) (Pure.str Z) oEqS) ?_
 rw [<- hb,SeqAt.str_beq]
 rfl
end
section
variable {w : World}
theorem f_strip (a : Str) (n a1 B : Nat) (hl : a.length <= 1000) (hAB : a1 + B < a.length) (hsA : ∀ i : Int,0 <= i -> i < a1 -> sp a i = true) (hA' : sp a a1 = false) (hB : ∀ i : Int,(a.length : Int) - B <= i -> i < a.length -> sp a i = true) (hB' : sp a ((a.length : Int) - 1 - B) = false) :
  Fn w 66 2 [.str a, .int n] (.str (Txt.slice a (some ((min n a1 : Nat) : Int)) (some ((a.length : Int) - (min (n - min n a1) B : Nat))))):=by
 refine FnG.fn ?_
 refine' FnM.enter [Str.ofString "s",Str.ofString "amount"] [Str.ofString "lpos",Str.ofString "rpos"] ?ho ?hcd ?hK ?ndT ?hb ?hloc ?hdb ?nd ?hnd ?hco ?hgen ?hk ?hlen ?run
 case ho | hcd => k_is
 case hK => exact noTabsK w
 case ndT => decide
 case hb =>
  intro s vs hv KX
  refine X20 (len2 hv) fun v0 v1 q2 => ?_;subst q2
  exact BindsTo.of_eq rfl
 case hloc | hdb | nd | hnd => decide +kernel
 case hco | hgen | hk | hlen => rfl
 intro C A L Z he hn hA hX
 obtain ⟨h₀,M₀,env,nms,X⟩ := C
 dsimp only [List.cons_append,List.nil_append] at he hn
 subst he hn
 dsimp only [List.map,List.replicate,List.cons_append,List.nil_append,List.length]
 generalize hM : min n a1 = M
 have hM1 : M <= n /\ M <= a1 /\ (M = n \/ M = a1):=by lia
 clear hM
 with_reducible refine' Run.letG (T := []) (pv:=.int 0) Z (Pure.toT ?aa) ?ab ?ac ?ad ?ae ?af
 case aa => k_extra "p"
 case ab => k_extra "g"
 case ac => k_extra "s"
 case ad => k_extra "q"
 case ae => rfl
 with_reducible refine' Run.while_ (fun k Γ led => ∃ i : Nat,i <= M /\ k = M - i /\ Γ = [some (.str a),some (.int ((n : Int) - (i : Int))),some (.int (i : Int)),none] /\ led = []) M ?ba ?bb
 case ba => exact ⟨0,Nat.zero_le _,rfl,by rw [show (n : Int) - ((0 : Nat) : Int) = n from Int.sub_zero _];rfl,rfl⟩
 case bb =>
  rintro k Γ₁ led₁ ⟨i,hi,rfl,rfl,rfl⟩
  have hia : (i : Int) < (a.length : Int):=by lia
  have hi0 : (0 : Int) <= (i : Int):=Int.natCast_nonneg _
  by_cases hlt : i < M
  ·refine ⟨true, ?_,fun z9 => ?_,(fun h => nomatch h)⟩
   ·with_reducible refine' Test.andT (Test.as (Test.of ?ca truthyI ?cb) ?cc) (Test.sp Z ?cd ?ce hi0 hia hl (hsA _ hi0 ?cg) ?ch ?ci)
    case ca => k_extra "p"
    case cb => exact fun z9 => rfl
    case cc => exact bne_iff_ne.mpr (by lia)
    case cd | ce => k_extra "p"
    case cg => lia
    case ch | ci => k_extra "u"
   ·with_reducible refine' Run.aug_ Z ?da ?db ?dc ?dd oAddI ?de (Run.aug_ Z ?df ?dg ?dh ?di oSubI ?dj ?dk)
    case da => k_extra "g"
    case db => rfl
    case dc => k_extra "w"
    case dd => k_extra "p"
    case de => k_extra "q"
    case df => k_extra "g"
    case dg => rfl
    case dh => k_extra "w"
    case di => k_extra "p"
    case dj => k_extra "q"
    case dk => exact Run.finW (m:=M - (i + 1)) (by lia) ⟨i + 1,hlt,rfl,by rw [show (n : Int) - ((i + 1 : Nat) : Int) = (n : Int) - (i : Int) - 1 by lia];rfl,rfl⟩
  ·have hiM : i = M:=by lia
   subst hiM
   refine ⟨false, ?_,(fun h => nomatch h),fun z9 => ?_⟩
   ·by_cases hz : i = n
    ·with_reducible refine' Test.andN (Test.as (Test.of ?ea truthyI ?eb) ?ec)
     case ea => k_extra "p"
     case eb => exact fun z9 => rfl
     case ec => rw [hz,Int.sub_self];rfl
    ·have hia1 : i = a1:=by lia
     with_reducible refine' Test.andF (Test.as (Test.of ?fa truthyI ?fb) ?fc) (Test.sp Z ?fd ?fe hi0 hia hl ?fg ?fh ?fi)
     case fa => k_extra "p"
     case fb => exact fun z9 => rfl
     case fc => exact bne_iff_ne.mpr (by lia)
     case fd | fe => k_extra "p"
     case fg => rw [hia1];exact hA'
     case fh | fi => k_extra "u"
   ·generalize hN : min (n - i) B = N
    have hN1 : N <= n - i /\ N <= B /\ (N = n - i \/ N = B):=by lia
    clear hN
    with_reducible refine' Run.letG (T := []) (pv:=.int ((a.length : Int) - 1)) Z (Pure.toT (Pure.binop Z (Pure.call Z ?ga ?gb (.cons ?gc ?gd .nil) (gLenS ?ge)) (Pure.int Z) oSub)) ?gf ?gg ?gh ?gi ?gj
    case ga => k_extra "n"
    case gb => k_extra "k"
    case gc => k_extra "p"
    case gd => rfl
    case ge => rw [sizeLine_eq];lia
    case gf => k_extra "g"
    case gg => k_extra "s"
    case gh => k_extra "q"
    case gi => rfl
    with_reducible refine' Run.while_ (fun k Γ led => ∃ j : Nat,j <= N /\ k = N - j /\ Γ = [some (.str a),some (.int ((n : Int) - (i : Int) - (j : Int))),some (.int (i : Int)),some (.int ((a.length : Int) - 1 - (j : Int)))] /\ led = []) N ?ha ?hb
    case ha => exact ⟨0,Nat.zero_le _,rfl,by rw [show (n : Int) - (i : Int) - ((0 : Nat) : Int) = (n : Int) - i from Int.sub_zero _,show (a.length : Int) - 1 - ((0 : Nat) : Int) = (a.length : Int) - 1 from Int.sub_zero _],rfl⟩
    case hb =>
     rintro k Γ₁ led₁ ⟨j,hj,rfl,rfl,rfl⟩
     have hj0 : (0 : Int) <= (a.length : Int) - 1 - (j : Int):=by lia
     have hja : (a.length : Int) - 1 - (j : Int) < (a.length : Int):=by lia
     by_cases hlt2 : j < N
     ·refine ⟨true, ?_,fun z9 => ?_,(fun h => nomatch h)⟩
      ·with_reducible refine' Test.andT (Test.as (Test.of ?ia truthyI ?ib) ?ic) (Test.sp Z ?id ?ie hj0 hja hl (hB _ ?ig hja) ?ih ?ii)
       case ia => k_extra "p"
       case ib => exact fun z9 => rfl
       case ic => exact bne_iff_ne.mpr (by lia)
       case id | ie => k_extra "p"
       case ig => lia
       case ih | ii => k_extra "u"
      ·with_reducible refine' Run.aug_ Z ?ja ?jb ?jc ?jd oSubI ?je (Run.aug_ Z ?jf ?jg ?jh ?ji oSubI ?jj ?jk)
       case ja => k_extra "g"
       case jb => rfl
       case jc => k_extra "w"
       case jd => k_extra "p"
       case je => k_extra "q"
       case jf => k_extra "g"
       case jg => rfl
       case jh => k_extra "w"
       case ji => k_extra "p"
       case jj => k_extra "q"
       case jk => exact Run.finW (m:=N - (j + 1)) (by lia) ⟨j + 1,hlt2,rfl,by rw [show (n : Int) - (i : Int) - ((j + 1 : Nat) : Int) = (n : Int) - (i : Int) - (j : Int) - 1 by lia,show (a.length : Int) - 1 - ((j + 1 : Nat) : Int) = (a.length : Int) - 1 - (j : Int) - 1 by lia],rfl⟩
     ·have hjN : j = N:=by lia
      subst hjN
      refine ⟨false, ?_,(fun h => nomatch h),fun z9 => ?_⟩
      ·by_cases hz : j = n - i
       ·with_reducible refine' Test.andN (Test.as (Test.of ?ka truthyI ?kb) ?kc)
        case ka => k_extra "p"
        case kb => exact fun z9 => rfl
        case kc => rw [show (n : Int) - (i : Int) - (j : Int) = 0 by lia];rfl
       ·have hjB : j = B:=by lia
        with_reducible refine' Test.andF (Test.as (Test.of ?la truthyI ?lb) ?lc) (Test.sp Z ?ld ?le hj0 hja hl ?lg ?lh ?li)
        case la => k_extra "p"
        case lb => exact fun z9 => rfl
        case lc => exact bne_iff_ne.mpr (by lia)
        case ld | le => k_extra "p"
        case lg => rw [hjB];exact hB'
        case lh | li => k_extra "u"
      ·with_reducible refine' Run.ret (Pure.sliceS (i:=some (i : Int)) (j:=some ((a.length : Int) - (j : Int))) Z ?ma ?mb ?mc ?me rfl ?mf) ?mg
       case ma => k_extra "p"
       case mb =>
        show Pure w A _ _ _ _ (.int (i : Int))
        k_extra "p"
       case mc =>
        show Pure w A _ _ _ _ (.int ((a.length : Int) - (j : Int)))
        with_reducible refine' Pure.eqv (p:=.int ((a.length : Int) - 1 - (j : Int) + 1)) ?mh (congrArg PV.int ?mi)
        case mh => k_extra "p"
        case mi => lia
       case me => rw [sizeLine_eq];lia
       case mf => k_extra "u"
       case mg => exact fun s v as r => EndsG.ret as noT r
end
noncomputable def letters (two : Str) : Str:=Str.ofString "ABCDEFGHIJKLMNOPQRSTUVWXYZabcdefghijklmnopqrstuvwxyz0123456789" ++ two
noncomputable def numOf (b : Array UInt8) : Int:=((List.range b.size).map fun i => (KBw.bInts b).getD i 0 * 256 ^ (2 - i)).sum
noncomputable def letAt (two : Str) (b : Array UInt8) (i : Nat) : Str:=Txt.item (letters two) (((numOf b).fdiv (64 ^ (3 - i))).fmod 64)
noncomputable def lawB (two : Str) (b : Array UInt8) : Str:=Str.ofString "" ++ Txt.join (Str.ofString "") ((List.range (b.size + 1)).map (letAt two b)) ++ Txt.mul (Str.ofString "=") (3 - (b.size : Int))
theorem whole3b {b : Array UInt8} (h1 : 1 <= b.size) (h3 : b.size <= 3) : KBy.whole b (some 0) (some 3) = true:=by
 obtain ⟨l⟩ := b
 match l,h1,h3 with
 | [x],_,_ => rfl
 | [x,y],_,_ => rfl
 | [x,y,z],_,_ => rfl
theorem letAt_len (two : Str) (b : Array UInt8) (i : Nat) : (letAt two b i).length = 1:=rfl
theorem ls_sum (two : Str) (b : Array UInt8) : ∀ l : List Nat,((l.map (letAt two b)).map (·.length)).sum = l.length
 | [] => rfl
 | a :: l => by rw [List.map_cons,List.map_cons,List.sum_cons,ls_sum two b l,List.length_cons,letAt_len,Nat.add_comm]
theorem eqs_len : ∀ n,n <= 3 -> (Txt.mul (Str.ofString "=") (3 - (n : Nat))).length <= 3:=by decide +kernel
section
variable {w : World}
theorem f_lawb64T (b : Array UInt8) (two : Str) (h1 : 1 <= b.size) (h3 : b.size <= 3) (h2 : two.length = 2) : Fn w 195 2 [.bytes b, .str two] (.str (lawB two b)):=FnG.fn (by
 refine' FnM.enter [Str.ofString "octets",Str.ofString "two"] [Str.ofString "letters",Str.ofString "told",Str.ofString "k",Str.ofString "row",Str.ofString "number"] ?ho ?hcd ?hK ?ndT ?hb ?hloc ?hdb ?nd ?hnd ?hco ?hgen ?hk ?hlen ?run
 case ho | hcd => k_is
 case hK => exact noTabsK w
 case ndT => decide
 case hb =>
  intro s vs hv KX
  refine X20 (len2 hv) fun v0 v1 q2 => ?_;subst q2
  exact BindsTo.of_eq rfl
 case hloc | hdb | nd | hnd => decide +kernel
 case hco | hgen | hk | hlen => rfl
 intro C A L Z he hn hA hX
 obtain ⟨h₀,M₀,env,nms,X⟩ := C
 dsimp only [List.cons_append,List.nil_append] at he hn
 subst he hn
 dsimp only [List.map,List.replicate,List.cons_append,List.nil_append,List.length]
 have hll : (letters two).length = 64:=by
  have:=congrArg List.length (cs_app (Str.ofString "ABCDEFGHIJKLMNOPQRSTUVWXYZabcdefghijklmnopqrstuvwxyz0123456789") two)
  rw [List.length_append] at this
  exact this.trans (by show 62 + two.length = 64;rw [h2])
 have e3 : b.size = 1 \/ b.size = 2 \/ b.size = 3:=by lia
 with_reducible refine' Run.letTup (T := []) (pv:=.tup [.str (letters two), .str (Str.ofString "")]) Z (Pure.toT (Pure.tuple Z (.cons (Pure.binop Z (Pure.str Z) ?aak (oAddS ?abk rfl)) ?ack (.cons (Pure.str Z) ?adk .nil)) le2)) (Asg.pairS Z hA.1 ?aek ?agk ?ajk ?afk ?ahk ?aik ?aok) ?akk ?alk ?amk
 case aak => k_extra "p"
 case abk => rw [h2];decide +kernel
 case ack | adk => rfl
 case aek | afk => k_extra "g"
 case agk | ahk => k_extra "s"
 case ajk | aik => k_extra "q"
 case aok | akk | alk => rfl
 with_reducible refine' Run.forU Z (Src.range3 (n:=1) Z hA.1 ?bak (.cons (Pure.int Z) ?bbk (.cons (Pure.call Z ?bck ?bdk (.cons ?bek ?bfk .nil) (gLenBy ?bgk)) ?bhk (.cons (Pure.int Z) ?bik .nil))) ?bjk ?bkk ?blk ?bmk) ?bnk (FT.go (fun g Z => Asg.set Z ?bok ?bpk ?bqk) ?brk)
 case bak => k_extra "n"
 case bbk => rfl
 case bck => k_extra "n"
 case bdk => k_extra "k"
 case bek => k_extra "p"
 case bfk => rfl
 case bgk => lia
 case bhk | bik => rfl
 case bjk => decide
 case bkk => refine Or.elim e3 (fun e => ?_) fun q1 => Or.elim q1 (fun e => ?_) fun e => ?_ <;> rw [e] <;> decide
 case blk => refine Or.elim e3 (fun e => ?_) fun q1 => Or.elim q1 (fun e => ?_) fun e => ?_ <;> rw [e] <;> decide
 case bmk => refine Or.elim e3 (fun e => ?_) fun q1 => Or.elim q1 (fun e => ?_) fun e => ?_ <;> rw [e] <;> decide
 case bnk => exact fun z9 => rfl
 case bok => k_extra "g"
 case bpk => k_extra "s"
 case bqk => k_extra "q"
 have Z0:=Z
 intro g Z
 with_reducible refine' Run.letG (T := []) (pv:=.lst ((KBw.bInts b).map .int)) Z (Pure.toT (Pure.call Z ?cak ?cbk (.cons (Pure.sliceB (i:=some 0) (j:=some 3) Z ?cck ?cdk ?cek ?cfk (whole3b h1 h3)) ?cgk .nil) (gListB hA.1 ?chk))) ?cik ?cjk ?ckk ?clk ?cmk
 case cak => k_extra "n"
 case cbk => k_extra "k"
 case cck => k_extra "p"
 case cdk =>
  show Pure w A _ _ _ _ (.int 0)
  with_reducible refine' Pure.eqv (p:=.int (0 + ((0 : Nat) : Int) * 3)) ?cok rfl
  case cok => k_extra "p"
 case cek =>
  show Pure w A _ _ _ _ (.int 3)
  with_reducible refine' Pure.eqv (p:=.int (0 + ((0 : Nat) : Int) * 3 + 3)) ?cnk rfl
  case cnk => k_extra "p"
 case cfk => lia
 case cgk => rfl
 case chk => lia
 case cik => k_extra "g"
 case cjk => k_extra "s"
 case ckk => k_extra "q"
 case clk => rfl
 have hbl : ((KBw.bInts b).map PV.int).length = b.size:=by rw [List.length_map,KBw.ints_length]
 with_reducible refine' Run.letG (T := []) (pv:=.int (numOf b)) Z (Pure.toT (Pure.call Z ?dak ?dbk (.cons (Pure.eqv (q:=.lst (((List.range b.size).map fun i => (KBw.bInts b).getD i 0 * 256 ^ (2 - i)).map .int)) (PureT.toPure (PureT.compN Z noT [Str.ofString "j",Str.ofString "row"] (Src.range1 (n:=b.size) Z hA.1 ?dck (.cons (Pure.call Z ?ddk ?dek (.cons ?dfk ?dgk .nil) (gLenL ?dhk)) ?dik .nil) ?djk ?dkk) ?y1k ?y2k ?y3k ?y4k ?y5k ?y6k ?y7k ?y8k ?y9k (fun z9 => true) (fun i => .int ((KBw.bInts b).getD i 0 * 256 ^ (2 - i))) ?dlk ?dmk)) ?dnk) ?do1k .nil) (gSum hA.1))) ?dpk ?dqk ?drk ?dsk ?dtk
 case dak => k_extra "n"
 case dbk => k_extra "k"
 case dck | ddk => k_extra "n"
 case dek => k_extra "k"
 case dfk => k_extra "p"
 case dgk => rfl
 case dhk => lia
 case dik => rfl
 case djk => rw [hbl]
 case dkk => lia
 case y1k | y2k | y3k | y4k => rfl
 case y5k => exact fun z9 => rfl
 case y6k | y7k => decide
 case y8k => k_extra "v"
 case y9k => k_extra "x"
 case dlk => lia
 case dnk => rw [List.filter_eq_self.mpr fun z9 z9 => rfl,List.map_map];rfl
 case do1k => rfl
 case dpk => k_extra "g"
 case dqk => k_extra "s"
 case drk => k_extra "q"
 case dsk => rfl
 case dmk =>
  intro g Cn D i l Z hi
  have hat : ((KBw.bInts b).map PV.int)[((i : Nat) : Int).toNat]? = some (.int ((KBw.bInts b).getD i 0)):=by
   have hi2 : i < (KBw.bInts b).length:=by rw [KBw.ints_length];exact hi
   rw [Int.toNat_natCast,List.getElem?_map,List.getElem?_eq_getElem hi2,List.getD_eq_getElem?_getD,List.getElem?_eq_getElem hi2]
   rfl
  have hin : 0 <= (KBw.bInts b).getD i 0 /\ (KBw.bInts b).getD i 0 < 256:=by
   have hi2 : i < (KBw.bInts b).length:=by rw [KBw.ints_length];exact hi
   rw [List.getD_eq_getElem?_getD,List.getElem?_eq_getElem hi2]
   exact KBw.ints_in (List.getElem_mem hi2)
  refine CTurn.one Z .zero rfl .zero .zero rfl fun z9 => Pure.toT ?_
  with_reducible refine' Pure.eqv (Pure.binop Z (Pure.itemA Z ?eak ?ebk (Int.natCast_nonneg _) hat ?eck ?edk) (Pure.binop Z (Pure.int Z) (Pure.binop Z (Pure.int Z) ?efk oSub) (oPow (n:=2 - (i : Int)) ?egk ?ehk ?eik)) (oMul (IntMulOk.of_left (PySem.intBits_le_64 ?ejk ?ekk)))) ?elk
  case eak | ebk => k_extra "p"
  case eck => rw [hbl];lia
  case edk => k_extra "u"
  case efk => k_extra "p"
  case egk | ehk => lia
  case eik => decide
  case ejk => exact Int.lt_of_lt_of_le (by decide) hin.1
  case ekk => exact Int.lt_trans hin.2 (by decide)
  case elk => rw [show (2 - (i : Int)).toNat = 2 - i by lia]
 have hls : (((List.range (b.size + 1)).map (letAt two b)).map (·.length)).sum = b.size + 1:=by rw [ls_sum,List.length_range]
 have hj : (Txt.join (Str.ofString "") ((List.range (b.size + 1)).map (letAt two b))).length = b.size + 1:=by
  have:=congrArg List.length (join_nil_cs ((List.range (b.size + 1)).map (letAt two b)))
  rw [List.length_flatten,List.map_map] at this
  exact this.trans hls
 have hq:=eqs_len b.size h3
 with_reducible refine' Run.letG (T := []) (pv:=.str (lawB two b)) Z (Pure.toT (Pure.binop Z (Pure.binop Z ?fak (Pure.meth Z (Pure.str Z) mJoin (.cons (Pure.eqv (q:=.lst (((List.range (b.size + 1)).map (letAt two b)).map .str)) (PureT.toPure (PureT.compN Z noT [Str.ofString "j",Str.ofString "letters",Str.ofString "number"] (Src.range3 (n:=b.size + 1) Z hA.1 ?fbk (.cons (Pure.int Z) ?fck (.cons (Pure.binop Z (Pure.int Z) (Pure.call Z ?fdk ?fek (.cons ?ffk ?fgk .nil) (gLenL ?fhk)) oSub) ?fik (.cons (Pure.eqv (q:=.int (-1)) ?fjk rfl) ?fkk .nil))) ?flk ?fmk ?fnk ?fok) ?z1k ?z2k ?z3k ?z4k ?z5k ?z6k ?z7k ?z8k ?z9k (fun z9 => true) (fun i => .str (letAt two b i)) ?fpk ?fqk)) ?frk) ?fsk .nil) (gJoin ?ftk ?fuk rfl) ?fvk) (oAddS ?fwk rfl)) (Pure.binop Z (Pure.str Z) (Pure.binop Z (Pure.int Z) (Pure.call Z ?gak ?gbk (.cons ?gck ?gdk .nil) (gLenL ?gek)) oSub) (oMulS ?gfk ?ggk ?ghk rfl)) (oAddS ?gik ?gjk))) ?gkk ?glk ?gmk ?gnk (Run.fin ?gok)
 case fak => k_extra "p"
 case fbk => k_extra "n"
 case fck => rfl
 case fdk => k_extra "n"
 case fek => k_extra "k"
 case ffk => k_extra "p"
 case fgk => rfl
 case fhk => lia
 case fik => rfl
 case fjk => k_extra "p"
 case fkk => rfl
 case flk => decide
 case fmk => rw [hbl];refine Or.elim e3 (fun e => ?_) fun q1 => Or.elim q1 (fun e => ?_) fun e => ?_ <;> rw [e] <;> decide
 case fnk => rw [hbl];refine Or.elim e3 (fun e => ?_) fun q1 => Or.elim q1 (fun e => ?_) fun e => ?_ <;> rw [e] <;> decide
 case fok => rw [hbl];refine Or.elim e3 (fun e => ?_) fun q1 => Or.elim q1 (fun e => ?_) fun e => ?_ <;> rw [e] <;> decide
 case z1k | z2k | z3k | z4k => rfl
 case z5k => exact fun z9 => rfl
 case z6k | z7k => decide
 case z8k => k_extra "v"
 case z9k => k_extra "x"
 case fpk => lia
 case frk => rw [List.filter_eq_self.mpr fun z9 z9 => rfl,List.map_map];rfl
 case fsk => rfl
 case ftk => decide
 case fuk => rw [hls,List.length_map,List.length_range];lia
 case fvk => exact ⟨_,rfl⟩
 case fwk => rw [hj];show 0 + _ <= _;lia
 case gak => k_extra "n"
 case gbk => k_extra "k"
 case gck => k_extra "p"
 case gdk => rfl
 case gek => lia
 case gfk => decide
 case ggk => rw [hbl];lia
 case ghk => rw [hbl];lia
 case gik =>
  rw [hbl]
  have:=congrArg List.length (cs_app (Str.ofString "") (Txt.join (Str.ofString "") ((List.range (b.size + 1)).map (letAt two b))))
  rw [List.length_append] at this
  have this : (Str.ofString "" ++ Txt.join (Str.ofString "") ((List.range (b.size + 1)).map (letAt two b))).length = 0 + (Txt.join (Str.ofString "") ((List.range (b.size + 1)).map (letAt two b))).length:=this
  rw [this,hj]
  lia
 case gjk => rw [hbl];rfl
 case gkk => k_extra "g"
 case glk => k_extra "s"
 case gmk => k_extra "q"
 case gnk => rfl
 case fqk =>
  intro g Cn D i l Z hi
  have h64 : ∀ k : Nat,k < 4 -> ((64 : Int) ^ k ≠ 0 /\ ((64 : Int) ^ k).natAbs < 1073741824):=by decide +kernel
  refine Y2 (h64 (3 - i) (by lia)) fun k1 k2 => ?_
  have hfm : 0 <= ((numOf b).fdiv (64 ^ (3 - i))).fmod 64 /\ ((numOf b).fdiv (64 ^ (3 - i))).fmod 64 < 64:=⟨Int.fmod_nonneg_of_pos _ (by decide),Int.fmod_lt_of_pos _ (by decide)⟩
  have he : (3 + (i : Int) * -1).toNat = 3 - i:=by lia
  refine CTurn.one Z .zero rfl .zero .zero rfl fun z9 => Pure.toT ?_
  with_reducible refine' Pure.eqv (Pure.itemS (x:=letters two) (k:=((numOf b).fdiv (64 ^ (3 - i))).fmod 64) Z ?hak (Pure.eqv (Pure.binop Z (Pure.binop Z ?hbk (Pure.binop Z (Pure.int Z) ?hck (oPow (n:=3 + (i : Int) * -1) ?hdk ?he1k ?hfk)) (oFDiv (b:=64 ^ (3 + (i : Int) * -1).toNat) ?hgk ?hhk)) (Pure.int Z) (oMod ?hik)) ?hjk) ?hkk ?hlk ?hmk rfl ?hnk ?hok) ?hpk
  case hpk => rfl
  case hak | hbk | hck => k_extra "p"
  case hdk | he1k => lia
  case hfk => decide
  case hgk => rw [he];exact k1
  case hhk => rw [he];exact k2
  case hik => decide
  case hjk => rw [he]
  case hkk => rw [hll];lia
  case hlk => rw [hll];lia
  case hmk => rw [hll];decide
  case hnk | hok => k_extra "u"
 case gok =>
  refine fun s as => ⟨_,_,FT.fin ?_,as⟩
  have Z:=Z0
  refine Run.ret (pv:=.str (lawB two b)) ?_ fun s v as r => EndsG.ret as noT r
  k_extra "p")
end
noncomputable def isFd (o : Obj) : Bool:=match o.data with | .fields _ => true | _ => false
noncomputable def isLI (o : Obj) : Bool:=o.cls == .type "list_iterator" && isFd o
theorem notLI {o : Obj} (h : isFd o = false) : isLI o = false:=by rw [isLI,h,Bool.and_false]
theorem RepO.keepS {h h' : Heap} {M M' : List Addr} (k : SK M h h') (g : ∀ b o,h.get? b = some o -> isSeq o = true -> b ∉ M -> b ∉ M') {l : LO} {o : Obj} (r : RepO h M l o) : RepO h' M' l o:=by
 cases l with
 | list l => refine X21 r fun vs n e r => ?_;exact ⟨vs,n,e,r.keepS k g⟩
 | app a => exact r
 | tab => exact r
 | dict w kvs => refine X11 r fun vs e r => ?_;exact ⟨vs,e,r.keepS k g⟩
 | any => exact r
section
variable {w : World} {C : Cx} {A : Around} {Γ Γ' : List (Option PV)} {led : Led} {s : Shared}
theorem AS.keepS (a : AS C Γ led s) {s' : Shared} (x : C.X s') (hc : C.env.cells = []) (hns : ∀ o,s.heap.get? C.env.locals = some o -> isFd o = false -> s'.heap.get? C.env.locals = some o) (kp : ∀ b o,C.h₀.get? b = some o -> s.heap.get? b = some o -> s'.heap.get? b = some o)
  (sk : SK (C.M led) s.heap s'.heap) (lg : ∀ p ∈ led, ∀ o,s.heap.get? p.1 = some o -> RepO s.heap (C.M led) p.2 o -> ∃ o',s'.heap.get? p.1 = some o' /\ RepO s.heap (C.M led) p.2 o') : AS C Γ led s' := by
 refine X11 a.fr fun m F hF => ?_
 refine ⟨⟨m, ?_,fun i x pv h1 h2 => ?_⟩,fun b o q => kp b o q (a.kp b o q),fun p hp => ?_,a.nd,fun x c h1 _ => ?_,a.ll,x⟩
 ·refine X32 F fun o es ep e d r => ?_
  exact ⟨o,es,ep,hns o e (by unfold isFd;rw [d]),d,r⟩
 ·refine X11 (hF i x pv h1 h2) fun v h3 h4 => ?_
  refine ⟨v, ?_,h4.keep sk fun _ _ _ q => q⟩
  refine Or.elim h3 (fun h3 => ?_) fun q1 => XAEA q1 fun _ c h5 _ => ?_
  ·exact .inl h3
  ·rw [hc] at h5;exact nS h5
 ·refine XAEA (a.lg p hp) fun h2 o h3 h4 => ?_
  refine X11 (lg p hp o h3 h4) fun o' h5 h6 => ?_
  exact ⟨h2,o',h5,h6.keep sk fun _ _ _ q => q⟩
 ·rw [hc] at h1;cases h1
theorem AS.genStep (a : AS C Γ led s) {s' : Shared} (x : C.X s') (hc : C.env.cells = []) {Lg : Addr} {g : Heap} (hg : Ext C.h₀ g) (hL : C.env.locals ≠ Lg) (hl : ∀ p ∈ led,p.1 ≠ Lg /\ p.2 ≠ .any) (h0 : g.get? Lg = none) (hq : ∀ o,s.heap.get? Lg = some o -> isSeq o = false)
  (keep : ∀ b o,b ≠ Lg -> (g.get? b = some o \/ isLI o = false) -> s.heap.get? b = some o -> s'.heap.get? b = some o) : AS C Γ led s' := by
 have sk : SK (C.M led) s.heap s'.heap:=fun b o e q _ => keep b o (fun z => by rw [z] at e;rw [hq o e] at q;exact nB q) (.inr (notLI (by unfold isFd;unfold isSeq at q;cases hd : o.data <;> rw [hd] at q <;> first | rfl | exact nB q))) e
 refine a.keepS x hc (fun o e d => keep _ o hL (.inr (notLI d)) e) (fun b o e e2 => keep b o (fun z => ?_) (.inl (hg b o e)) e2) sk fun p hp o e r => ⟨o,keep _ o (hl p hp).1 (.inr ?_) e,r⟩
 ·rw [z] at e;rw [hg _ _ e] at h0;exact nS h0.symm
 ·have hn:=(hl p hp).2
  obtain ⟨p1,p2⟩ := p
  cases p2 with
  | list l => refine X21 r fun vs n q2 _ => ?_;subst q2;rfl
  | app b => rw [show o = _ from r];rfl
  | tab => refine X11 r fun ps q1 _ => ?_;subst q1;rfl
  | dict _ kvs => refine X11 r fun vs q1 _ => X22 q1 fun es ep _ d2 _ => ?_;exact notLI (by unfold isFd;rw [d2])
  | any => exact absurd rfl hn
theorem AS.rest (a : AS C Γ led s) {s' : Shared} (e : s'.heap = s.heap) (x : C.X s') : AS C Γ led s' := by
 obtain ⟨h,g,d,t,o⟩ := s'
 dsimp only at e
 subst e
 exact ⟨a.fr,a.kp,a.lg,a.nd,a.ce,a.ll,x⟩
theorem AS.more (a : AS C Γ led s) {I : Addr} {o : Obj} (h0 : C.h₀.get? I = none) (e : s.heap.get? I = some o) (hn : ∀ v,o.data ≠ .cell v) (hq : isSeq o = false) (hl : I ∉ led.M) (hL : I ≠ C.env.locals) : AS C Γ ((I, .any) :: led) s:=by
 refine X11 a.fr fun m F hF => ?_
 have mm : ∀ b o,s.heap.get? b = some o -> isSeq o = true -> b ∉ C.M led -> b ∉ C.M ((I, .any) :: led):=fun b o' e' q m z => by
  refine Or.elim (List.mem_append.mp z) (fun z => ?_) fun z => ?_
  ·exact m (List.mem_append_left _ z)
  ·refine Or.elim (List.mem_cons.mp z) (fun z => ?_) fun z => ?_
   ·rw [z] at e';rw [e] at e';obtain rfl:=Option.some.inj e';rw [hq] at q;exact nB q
   ·exact m (List.mem_append_right _ z)
 refine ⟨⟨m,F,fun i x pv h1 h2 => ?_⟩,a.kp,fun p hp => ?_,List.nodup_cons.mpr ⟨hl,a.nd⟩,a.ce,fun p hp => ?_,a.x⟩
 ·refine X11 (hF i x pv h1 h2) fun v h3 h4 => ?_
  exact ⟨v,h3,h4.keepS (Ext.sk noExt) mm⟩
 ·rcases List.mem_cons.mp hp with rfl | hp
  ·exact ⟨h0,o,e,hn⟩
  ·refine XAEA (a.lg p hp) fun h2 o h3 h4 => ?_
   exact ⟨h2,o,h3,RepO.keepS (Ext.sk noExt) mm h4⟩
 ·rcases List.mem_cons.mp hp with rfl | hp
  ·exact hL
  ·exact a.ll p hp
end
section
variable {M : Model} {A : Around} {R : GenEnd} {Y : Protocol} {n : Nat} {s₀ : Shared} {c : Code} {fs : List Frame} {s : Shared} {env : Env}
 {K : Flow -> Sem Fin} {H : Value -> Sem Fin} {gd : Bool -> Bool} {lv : List Value -> List Value}
theorem seg_plain {st : Stmt} {rest : List Stmt}
  (h : wpAny M (A.over c fs) (exec st env) (fun f s' => f = .next /\ Seg M A R Y n s₀ c ((execs rest env).wrap K H gd lv) fs s') (fun z9 z9 => False) s) :
  Seg M A R Y n s₀ c ((execs (st :: rest) env).wrap K H gd lv) fs s:=by
 refine seg_execs_cons (seg_wrap (wpAny_mono h (fun f s' h' => ?_) fun _ _ e => e.elim))
 obtain ⟨rfl,h'⟩ := h'
 exact h'
theorem seg_If {test : Expr} {body orelse : List Stmt} {pos : Pos}
  (h : wpAny M (A.over c fs) (isTrue test env (eval test env)) (fun b s' => Seg M A R Y n s₀ c ((if b = true then execs body env else execs orelse env).wrap K H gd lv) fs s') (fun z9 z9 => False) s) :
  Seg M A R Y n s₀ c ((exec (.If test body orelse pos) env).wrap K H gd lv) fs s:=by
 have e : (exec (.If test body orelse pos) env).wrap K H gd lv = .at pos fun z9 => (isTrue test env (eval test env)).wrap (fun b => (if b = true then execs body env else execs orelse env).wrap K H gd lv) H gd lv:=by
  show (((standAt pos) >>= fun z9 => isTrue test env (eval test env) >>= fun b => if b = true then execs body env else execs orelse env) : Sem Flow).wrap K H gd lv = _
  rw [Sem.bind_eq_wrap',Sem.wrap_wrap]
  show (Sem.at pos fun z9 => _) = _
  refine congrArg (Sem.at pos) (funext fun z9 => ?_)
  rw [Sem.wrap]
  show ((isTrue test env (eval test env)) >>= fun b => if b = true then execs body env else execs orelse env).wrap K H gd lv = _
  rw [Sem.bind_eq_wrap',Sem.wrap_wrap]
  exact Sem.wrap_congr _ _ _ (fun z9 => rfl) fun z9 => rfl
 rw [e]
 exact seg_at (seg_wrap (wpAny_mono h (fun _ _ x => x) fun _ _ e => e.elim))
theorem seg_For {target iter : Expr} {body orelse : List Stmt} {pos : Pos} (hs : ∀ x,foldedSetIterable iter env x = pure x)
  (h : wpAny M (A.over c fs) (eval iter env) (fun x s₁ => wpAny M (A.over c fs) (pyIter x) (fun it s₂ => ∀ (k : Result -> Sem Fin) p,Seg M A R Y n s₀ (.forLoop target it body orelse env) (M.den (.forLoop target it body orelse env)) (.ret k none (gd false) (lv []) c p [] :: fs) s₂)
   (fun z9 z9 => False) s₁) (fun z9 z9 => False) s) :
  Seg M A R Y n s₀ c ((exec (.For target iter body orelse pos) env).wrap K H gd lv) fs s:=by
 rw [exec_For]
 refine seg_at ?_
 show Seg M A R Y n s₀ c (Sem.wrap K H gd lv (eval iter env >>= fun x => foldedSetIterable iter env x >>= fun x => (standAt iter.pos) >>= fun z9 => (holding [x] (pyIter x)) >>= fun it => runOwn (.forLoop target it body orelse env) env)) fs s
 rw [Sem.bind_eq_wrap',Sem.wrap_wrap]
 refine seg_wrap (wpAny_mono h (fun x s₁ h₁ => ?_) fun _ _ e => e.elim)
 rw [hs x]
 refine seg_at ?_
 show Seg M A R Y n s₀ c (Sem.wrap K H gd lv ((holding [x] (pyIter x)) >>= fun it => runOwn (.forLoop target it body orelse env) env)) fs s₁
 rw [Sem.bind_eq_wrap',Sem.wrap_wrap]
 refine seg_wrap (wpAny_holding (wpAny_mono h₁ (fun it s₂ h₂ => ?_) fun _ _ e => e.elim))
 exact seg_call fun p => h₂ _ p
end
section
variable {prog : Program} {w : World} {A : Around} {R : GenEnd} {Y : Protocol} {n : Nat} {s₀ : Shared} {fs : List Frame} {s : Shared} {env : Env}
theorem seg_forLoop {target : Expr} {it : Value} {body orelse : List Stmt} (ht : ∀ v,letOwnedTupleGo target it v = pure ())
  (h : wpAny (model prog w) (A.over (.forLoop target it body orelse env) fs) (pyNext it) (fun r s₁ => ∃ v,r = some v /\ wpAny (model prog w) (A.over (.forLoop target it body orelse env) fs) (assign target env v) (fun _ s₂ => ∀ H : Value -> Sem Fin,
     Seg (model prog w) A R Y n s₀ (.forLoop target it body orelse env) ((execs body env).wrap (fun f => match f with
      | .next | .cont => .pure (.again (.forLoop target it body orelse env))
      | .brk => .pure (.done .next)
      | .ret v => .pure (.done (.ret v))) H id id) fs s₂) (fun z9 z9 => False) s₁)
   (fun z9 z9 => False) s) :
  Seg (model prog w) A R Y n s₀ (.forLoop target it body orelse env) ((model prog w).den (.forLoop target it body orelse env)) fs s:=by
 show Seg _ A R Y n s₀ _ ((forTurn target it body orelse env).onRaise (fun x => do noteFrame x env;theTreesLotGoes x)) fs s
 unfold forTurn
 rw [Sem.onRaise_eq_wrap]
 refine seg_at ?_
 show Seg _ A R Y n s₀ _ (Sem.wrap _ _ _ _ ((pyNext it).onRaise (fun z9 => standAt { target.pos with line:=0 }) >>= fun r => _)) fs s
 rw [Sem.bind_eq_wrap',Sem.wrap_wrap]
 refine seg_wrap (wpAny_onRaise (wpAny_mono h (fun r s₁ h₁ => ?_) fun _ _ e => e.elim))
 obtain ⟨v,rfl,h₁⟩ := h₁
 dsimp only
 rw [ht v]
 show Seg _ A R Y n s₀ _ (Sem.wrap _ _ _ _ (assign target env v >>= fun z9 => execs body env >>= fun f => _)) fs s₁
 rw [Sem.bind_eq_wrap',Sem.wrap_wrap]
 refine seg_wrap (wpAny_mono h₁ (fun _ s₂ h₂ => ?_) fun _ _ e => e.elim)
 rw [Sem.bind_eq_wrap',Sem.wrap_wrap]
 have:=h₂ ((fun e => (do noteFrame e env;theTreesLotGoes e : Sem Unit).wrap (fun z9 => .raise e) .raise id id))
 rw [Sem.wrap_congr (execs body env) _ _ (K' := fun f => match f with
      | .next | .cont => .pure (.again (.forLoop target it body orelse env))
      | .brk => .pure (.done .next)
      | .ret v => .pure (.done (.ret v))) (H' := (fun e => (do noteFrame e env;theTreesLotGoes e : Sem Unit).wrap (fun z9 => .raise e) .raise id id))
    (fun f => by cases f <;> rfl)
    (fun e => by exact Sem.bind_eq_wrap _ _)]
 exact this
theorem pyNext_genR {E : Value -> Shared -> Prop} {a : Addr} {g n : Nat} {gs : GenState} {Y : Protocol} {Q : Option Value -> Shared -> Prop}
  (hl : s.heap.NoLimit) (hroom : A.depth < recursionLimit)
  (hg : s.heap.IsGen a g) (hgs : s.gens[g]? = some gs)
  (hgo : gs.Goes (model prog w) A.in1 (fun z9 z9 z9 z9 => False) Y n (.send .none) (s.setGen g .running))
  (hY : ∀ v s₁ gs',gs'.bare = true -> Y (n - 1) (s.setGen g .running) v s₁ (fun r' s'' => match n with
    | 0 => False
    | m + 1 => gs'.Goes (model prog w) A.in1 (fun z9 z9 z9 z9 => False) Y m r' s'') -> Q (some v) (s₁.setGen g gs')) :
  wpAny (model prog w) A (pyNext (.ref a)) Q E s:=by
 unfold pyNext
 refine wpAny_bind (wpAny_attempt (wpAny_callSpecial?_slot (name:=Str.ofString "__next__") hg.typeIs slot_gen_next
  (wpAny_call_entry slot_gen_next hg.typeIs entry_gen_next ?_ (args_gen_next _))))
 show wpAny _ A.in1 (Builtin.Generator.genWake (.ref a) (.send .none)) _ _ s
 unfold Builtin.Generator.genWake
 refine wpAny_bind (wpAny_holding (wpAny_genNumber hg (wpAny_bind (wpAny_genState hgs ?_))))
 cases gs with
 | running => exact hgo.elim
 | finished => exact hgo.elim
 | _ =>
  refine wpAny_bind (wpAny_roomToWake hl hroom ?_)
  show wpAny _ A.in1 (.resume g (.send .none) [] _) _ _ s
  refine wpAny_resumeQ hgs hgo (fun x s₁ hx => hx.elim) (fun v s₁ gs' hb hv => ?_)
  exact wpAny_pure ⟨v,rfl,wpAny_pure (hY v s₁ gs' hb hv)⟩
end
noncomputable def GoOn (cons : List Addr) (h h'' : Heap) : Prop:=(∀ b ∈ cons, ∃ o,h''.get? b = some o /\ ∀ v,o.data ≠ .cell v) /\ ∀ b o,b ∉ cons -> h.get? b = some o -> h''.get? b = some o
noncomputable def KeptG (g : Heap) (Lg : Addr) (s₀ s : Shared) : Prop := ∃ h tk,s = { s₀ with heap:=h,toks:=tk } /\ ∀ b o,b ≠ Lg -> (g.get? b = some o \/ isLI o = false) -> s₀.heap.get? b = some o -> h.get? b = some o
theorem KeptG.refl {g : Heap} {Lg : Addr} {s : Shared} : KeptG g Lg s s:=⟨s.heap,s.toks,rfl,fun _ _ _ _ e => e⟩
theorem KeptG.but {g : Heap} {Lg : Addr} {s₀ s : Shared} (k : KeptG g Lg s₀ s) {h : Heap} {tk : Nat} (e : ∀ b o,b ≠ Lg -> (g.get? b = some o \/ isLI o = false) -> s.heap.get? b = some o -> h.get? b = some o) : KeptG g Lg s₀ { s with heap:=h,toks:=tk } := by
 obtain ⟨h1,t1,rfl,k⟩ := k
 exact ⟨h,tk,rfl,fun b o n d q => e b o n d (k b o n d q)⟩
theorem KeptG.ext {g : Heap} {Lg : Addr} {s₀ s : Shared} (k : KeptG g Lg s₀ s) {h : Heap} {tk : Nat} (e : Ext s.heap h) : KeptG g Lg s₀ { s with heap:=h,toks:=tk } := k.but fun b o _ _ q => e b o q
noncomputable def GY (g : Heap) (Lg : Addr) (cons : List Addr) : Protocol:=fun n s₀ v s₁ kap => (∃ t,v = .int 4 t) /\ KeptG g Lg s₀ s₁ /\ (∃ o,s₁.heap.get? Lg = some o /\ isSeq o = false) /\ (0 < n -> ∀ s'',GoOn cons s₁.heap s''.heap -> kap (.send .none) s'')
section
variable {w : World} {C : Cx} {A A' : Around} {Γ Γ' : List (Option PV)} {led : Led} {s s₀ : Shared} {g : Heap} {Lg : Addr} {cons : List Addr} {R : GenEnd} {Y : Protocol} {n : Nat} {c : Code} {fs : List Frame} {K : Flow -> Sem Fin} {H : Value -> Sem Fin} {gd : Bool -> Bool} {lv : List Value -> List Value} {rest : List Stmt}
theorem AS.onward (Z : CxOk w C) (hx : ∀ s,C.X s) (hJ : ∀ b ∈ cons,(b,LO.any) ∈ led) (a : AS C Γ led s) {s'' : Shared} (e : GoOn cons s.heap s''.heap) : AS C Γ led s'' := (AS.junk Z a hJ (h' := s''.heap) (k:=s.toks) e.2 e.1).rest rfl (hx _)
theorem seg_set (Z : CxOk w C) {i : Nat} {x : Str} {p pos : Pos} {e : Expr} {pv : PV} (hn : C.nms[i]? = some x) (hk : C.env.kindOf x = some .local) (he : Pure w (A'.over c fs) C Γ led e pv) (hs : swapsWith e (some (.Name x p)) pos.line C.env = pure false)
  (a : AS C Γ led s) (k : KeptG g C.env.locals s₀ s) (r : ∀ s',(∀ b o,b ≠ C.env.locals -> s.heap.get? b = some o -> s'.heap.get? b = some o) -> AS C (Γ.set i (some pv)) led s' -> KeptG g C.env.locals s₀ s' -> Seg (model vw w) A' R Y n s₀ c ((execs rest C.env).wrap K H gd lv) fs s') :
  Seg (model vw w) A' R Y n s₀ c ((execs (.Assign [.Name x p] e pos :: rest) C.env).wrap K H gd lv) fs s :=
 seg_plain (wpAny_Assign_Name (he s _ _ a fun v h k1 rv ex a1 => a1.setB Z hn hk rv fun h' k' but a2 => ⟨rfl,r _ (fun b o nb e => but b o nb (ex b o e)) a2 ((k.ext (tk:=k1) ex).but fun b o nb _ q => but b o nb q)⟩) hs)
theorem seg_no {t : Expr} {body : List Stmt} {pos : Pos} (ht : Test w (A'.over c fs) C Γ led t false) (a : AS C Γ led s) (k : KeptG g Lg s₀ s)
  (r : ∀ s',Ext s.heap s'.heap -> AS C Γ led s' -> KeptG g Lg s₀ s' -> Seg (model vw w) A' R Y n s₀ c ((execs rest C.env).wrap K H gd lv) fs s') : Seg (model vw w) A' R Y n s₀ c ((execs (.If t body [] pos :: rest) C.env).wrap K H gd lv) fs s :=
 seg_plain (wpAny_If (ht s _ _ a fun h' k' ex a' => by
  rw [if_neg Bool.false_ne_true]
  exact wpAny_execs_nil ⟨rfl,r _ ex a' (k.ext ex)⟩))
theorem seg_give (Z : CxOk w C) (hx : ∀ s,C.X s) (hJ : ∀ b ∈ cons,(b,LO.any) ∈ led) (hL : C.env.locals = Lg) {e : Expr} {ypos pos : Pos} (hfs : splitAtGen fs = none) (hgd : gd false = false) (hfg : fs.any Frame.guarded = false) (hco : C.env.scope.isCoroutine = false) (hin : interactive C.env = false)
  (he : Pure w (A'.over c fs) C Γ led e (.int 4)) (a : AS C Γ led s) (k : KeptG g Lg s₀ s)
  (r : ∀ h s'',Ext s.heap h -> 0 < n -> GoOn cons h s''.heap -> AS C Γ led s'' -> Seg (model vw w) A' R (GY g Lg cons) n s'' c ((execs rest C.env).wrap K H gd lv) fs s'') :
  Seg (model vw w) A' R (GY g Lg cons) (n + 1) s₀ c ((execs (.Expr (.Yield (some e) ypos) pos :: rest) C.env).wrap K H gd lv) fs s :=
 seg_execs_cons (seg_Expr_Yield hfs hgd hfg (he s _ _ a fun v h2 k2 rv e2 a2 kap hkap => by
  (apply Rep.elI rv;intro z9)
  refine byG fun G kG => ?_
  refine X11 a2.fr fun m q1 _ => X32 q1 fun o es ep e3 d _ => ?_
  refine kG ?_;clear kG G
  exact ⟨⟨_,rfl⟩,k.ext e2,⟨o,hL ▸ e3,by unfold isSeq;rw [d]⟩,fun hn s'' hs'' => hkap .none s'' (r _ s'' e2 hn hs'' (a2.onward Z hx hJ hs''))⟩) hco hin)
theorem g_while (Z : CxOk w C) (hx : ∀ s,C.X s) (hJ : ∀ b ∈ cons,(b,LO.any) ∈ led) (hL : C.env.locals = Lg) {e test : Expr} {ypos pos : Pos} (hfs : splitAtGen fs = none) (hfg : fs.any Frame.guarded = false) (hco : C.env.scope.isCoroutine = false) (hin : interactive C.env = false)
  (ht : Test w (A'.over (.whileLoop test [.Expr (.Yield (some e) ypos) pos] [] C.env) fs) C Γ led test true) (he : Pure w (A'.over (.whileLoop test [.Expr (.Yield (some e) ypos) pos] [] C.env) fs) C Γ led e (.int 4)) :
  ∀ (n : Nat) (s₀ s : Shared),AS C Γ led s -> KeptG g Lg s₀ s -> Seg (model vw w) A' R (GY g Lg cons) (n + 1) s₀ (.whileLoop test [.Expr (.Yield (some e) ypos) pos] [] C.env) ((model vw w).den (.whileLoop test [.Expr (.Yield (some e) ypos) pos] [] C.env)) fs s
 | n,s₀,s,a,k => seg_whileLoop (ht s _ _ a fun h1 k1 e1 a1 => by
  rw [if_pos rfl]
  refine seg_give Z hx hJ hL hfs rfl hfg hco hin he a1 (k.ext e1) fun _ s'' _ hn _ a'' => seg_execs_nil (seg_again rfl ?_)
  match n,hn with
  | n + 1,_ => exact g_while Z hx hJ hL hfs hfg hco hin ht he n s'' s'' a'' .refl)
theorem seg_turn (Z : CxOk w C) {I l : Addr} {items : Array Value} {i j : Nat} {m : Int} {t : Tok} {x : Str} {p : Pos} {o : Obj} {body orelse : List Stmt} (hn : C.nms[j]? = some x) (hk : C.env.kindOf x = some .local) (ht : ∀ v,letOwnedTupleGo (.Name x p) (.ref I) v = pure ()) (hx : items[i]? = some (.int m t))
  (hol : ∀ h : Heap,h.get? l = some o -> h.IsList l items) (hIl : l ≠ I) (hlL : l ≠ C.env.locals) (hI0 : C.h₀.get? I = none) (a : AS C Γ ((I, .any) :: led) s) (k : KeptG C.h₀ C.env.locals s₀ s) (hit : s.heap.IsListIter I l i) (el : s.heap.get? l = some o)
  (r : ∀ s',AS C (Γ.set j (some (.int m))) ((I, .any) :: led) s' -> s'.heap.IsListIter I l (i + 1) -> s'.heap.get? l = some o -> KeptG C.h₀ C.env.locals s₀ s' -> ∀ H : Value -> Sem Fin,Seg (model vw w) A' R Y n s₀ (.forLoop (.Name x p) (.ref I) body orelse C.env) ((execs body C.env).wrap (fun f => match f with
      | .next | .cont => .pure (.again (.forLoop (.Name x p) (.ref I) body orelse C.env))
      | .brk => .pure (.done .next)
      | .ret v => .pure (.done (.ret v))) H id id) fs s') :
  Seg (model vw w) A' R Y n s₀ (.forLoop (.Name x p) (.ref I) body orelse C.env) ((model vw w).den (.forLoop (.Name x p) (.ref I) body orelse C.env)) fs s:=by
 refine seg_forLoop ht (wpAny_pyNext_list_item hit (hol _ el) hx fun h' hit' hs' => ⟨_,rfl, ?_⟩)
 refine X12 hit fun oI eI cI dI => ?_
 refine X12 (id hit') fun oI' eI' cI' dI' => ?_
 have hIL : I ≠ C.env.locals:=a.ll _ List.mem_cons_self
 have a1 : AS C Γ ((I, .any) :: led) { s with heap:=h' } := AS.junk Z a (J := [I]) (k:=s.toks) (fun b hb => by rw [List.mem_singleton.mp hb];exact List.mem_cons_self) (fun b o hb e => hs'.extBut b o (fun z => hb (List.mem_singleton.mpr z)) e) fun b hb => by
  rw [List.mem_singleton.mp hb]
  exact ⟨_,eI',fun v e => by rw [dI'] at e;exact Data.noConfusion e⟩
 have k1 : KeptG C.h₀ C.env.locals s₀ { s with heap:=h' } := k.but (tk:=s.toks) fun b o nb d e => hs'.extBut b o (fun z => by
  subst z
  rw [eI] at e;obtain rfl:=Option.some.inj e
  refine Or.elim d (fun d => ?_) fun d => ?_
  ·rw [hI0] at d;exact nS d
  ·unfold isLI isFd at d;rw [cI,dI] at d;exact Bool.noConfusion (show true = false from d)) e
 exact wpAny_assign_Name (a1.setB Z hn hk (.int m t) fun h2 k2 but a2 => r _ a2 ⟨oI',but _ _ hIL eI',cI',dI'⟩ (but _ _ hlL (hs'.extBut _ _ hIl el)) (k1.but (tk:=k2) fun b o nb _ e => but b o nb e))
end
section
variable {w : World} {p : Program} {loose : List Str} {mean : ExcName -> Option Value} {mg mb : Str -> Option Value}
theorem con_gen {prog : Program} {K : Frag} {A : Around} {s : Shared} {R : Result -> Shared -> Prop} {name qual : Str} {params : Arguments} {body : List Stmt} {scope : Scope} {dV kV doc pm cdv ct oc : Value} {an od : Option Addr} {osl : Array (Option Value)} {f : Addr} {args : PySem.Args} {binds : List (Str × Value)}
  (X : K.In s.heap) (T : Top p loose mean mg mb s.heap)
  (ho : K.lookup f = some ⟨oc,od, .func (fnOf name qual params body scope dV kV doc pm an cdv ct),osl⟩) (hcd : codeIn K cdv qual = true) (hroom : A.depth < recursionLimit)
  (hbind : BindsTo s (fnOf name qual params body scope dV kV doc pm an cdv ct) args binds) (hloc : ∀ y ∈ binds,scope.names.lookup y.1 = some .local)
  (h : ∀ L' h₁ tk nm qn,Fr s.heap L' h₁ (fun y => binds.reverse.lookup y) ->
   R (.ok (.ret (.ref h₁.objs.size))) { s with gens:=s.gens.push (.fresh (.func body (envOf qual scope L' f cdv))),toks:=tk,heap:=h₁.push { cls:=.type "generator",data:=.fields #[.int s.gens.size 0,nm,qn] } })
  (hco : scope.isCoroutine = false) (hgen : scope.isGenerator = true) (hk : scope.kind = .function)
  (hcell : ∀ x ∈ scope.names,x.2 ≠ .cell) : codeAny (model prog w) A (.call (.ref f) args) R s:=by
 refine codeAny_call_generator (body:=body) hroom (X _ _ ho) rfl hco hgen rfl (codeRec_of X hcd) (hbind _ _ _ _ ?_)
 refine wpAny_newFunctionEnv hcell hloc (fun h₁ hns hs => ⟨T.nolimit.fresh _ hs, ?_⟩) hk
 exact h s.heap.objs.size h₁ _ _ _ ⟨hns,fun b o e => hs.extBut b o (Nat.ne_of_lt (Heap.lt_size e)) (Heap.get?_push_of_some _ e),Nat.le_refl _⟩
end
section
variable {w : World} {C : Cx} {A : Around} {Γ : List (Option PV)} {led : Led} {s : Shared}
noncomputable def genO (k : Nat) (nm qn : Value) : Obj := { cls:=.type "generator",data:=.fields #[.int k 0,nm,qn] }
theorem gen_enter (Z : CxOk w C) (hcl : C.env.cells = []) (a : AS C Γ led s) (hh : A.handled = none) (hdp : A.depth + 2 < recursionLimit) {pv : PV} {v : Value} (rv : Rep s.heap (C.M led) pv v) (x : Str) (rest : List Str)
  {f : Addr} {name qual : Str} {params : Arguments} {body : List Stmt} {scope : Scope} {dV kV doc pm cdv ct oc : Value} {an od : Option Addr} {osl : Array (Option Value)}
  (ho : (hd.heap_1 w.params).lookup f = some ⟨oc,od, .func (fnOf name qual params body scope dV kV doc pm an cdv ct),osl⟩) (hcd : codeIn (hd.heap_1 w.params) cdv qual = true)
  (hb : ∀ (s : Shared) (v : Value),(hd.heap_1 w.params).In s.heap -> BindsTo s (fnOf name qual params body scope dV kV doc pm an cdv ct) ⟨[v], []⟩ [(x,v)])
  (hloc : scope.names.lookup x = some .local) (hdb : ((x :: rest).all fun x => !(x == ("__debug__" : Str))) = true) (nd : (x :: rest).Nodup) (hcell : ∀ y ∈ scope.names,y.2 ≠ .cell)
  (hco : scope.isCoroutine = false) (hgen : scope.isGenerator = true) (hk : scope.kind = .function)
  (run : ∀ (C' : Cx) (A' : Around) (cons : List Addr) (g : Heap) (led' : Led) (n : Nat) (s₀ : Shared) (L : Addr),CxOk w C' -> C'.env = envOf qual scope L f cdv -> C'.nms = x :: rest -> (∀ s,C'.X s) -> C'.h₀ = g -> A'.handled = none -> (∀ b ∈ cons,(b,LO.any) ∈ led') -> AS C' (some pv :: List.replicate rest.length none) led' s₀ ->
   Seg (model vw w) A' (fun z9 z9 z9 z9 => False) (GY g L cons) (n + 1) s₀ (.func body C'.env) ((model vw w).den (.func body C'.env)) [] s₀)
  {Q E : Value -> Shared -> Prop}
  (h : ∀ Lg h₁ k nm qn gst,Ext s.heap h₁ -> s.heap.get? Lg = none -> (∃ o,h₁.get? Lg = some o /\ isSeq o = false) -> Lg < h₁.objs.size -> gst.bare = true -> (∀ n s'',GoOn (C.mut led) (h₁.push (genO s.gens.size nm qn)) s''.heap -> gst.Goes (model vw w) A.in1 (fun z9 z9 z9 z9 => False) (GY (hideAll s.heap (C.mut led)) Lg (C.mut led)) (n + 1) (.send .none) s'') ->
   Q (.ref h₁.objs.size) { s with gens:=s.gens.push gst,toks:=k,heap:=h₁.push (genO s.gens.size nm qn) }) :
  wpAny (model vw w) A (call (.ref f) [v] []) Q E s:=by
 refine X50 Z.T fun p' loose mean mg mb Tp => ?_
 have kx : (hd.heap_1 w.params).In s.heap:=fun b o e => a.kp b o (Z.K b o e)
 refine Y2 (Z.hide a [] (fun b hb => nomatch hb)) fun Zg exg => ?_
 have hm : C.mut led = C.env.locals :: led.M:=by unfold Cx.mut;rw [hcl];rfl
 have alive : ∀ b ∈ C.mut led, ∃ o,s.heap.get? b = some o:=fun b hb => by
  rw [hm] at hb
  rcases List.mem_cons.mp hb with rfl | hb
  ·refine X11 a.fr fun m q1 _ => X31 q1 fun o es ep e _ => ?_;exact ⟨o,e⟩
  ·refine X11 (List.mem_map.mp hb) fun q hq q2 => ?_;subst q2
   refine XAEA (a.lg q hq) fun _ o e _ => ?_
   exact ⟨o,e⟩
 obtain ⟨ah,dp,fr,gd,un⟩ := A
 dsimp only at hh hdp
 subst hh
 refine wpAny_call (con_gen (binds := [(x,v)]) kx (Tp.keeps a.kp) ho hcd (by dsimp only;lia) (hb s v kx) (fun y hy => by rw [List.mem_singleton.mp hy];exact hloc) (fun Lg h₁ tk nm qn F => ?_) hco hgen hk hcell)
 have hL0 : s.heap.get? Lg = none:=Heap.get?_none_of_le F.above
 refine h Lg h₁ tk nm qn _ F.keep hL0 ?_ F.ns.lt rfl fun n s'' hs => ⟨rfl, ?_⟩
 ·refine X32 F.ns fun oL es ep e2 d _ => ?_
  exact ⟨oL,e2,by unfold isSeq;rw [d]⟩
 have hLc : Lg ∉ C.mut led:=fun hb => by
  refine X10 (alive _ hb) fun o e => ?_
  rw [hL0] at e;exact nS e
 have sub : ∀ b o,(hideAll s.heap (C.mut led)).get? b = some o -> s.heap.get? b = some o:=fun b o e => of_hideAll _ e
 have up : ∀ b o,b ∉ C.mut led -> s.heap.get? b = some o -> s''.heap.get? b = some o:=fun b o hb e => hs.2 b o hb (Heap.get?_push_of_some _ (F.keep b o e))
 have hM : (List.map (fun x => x.1) ((C.mut led).map fun b => (b,LO.any))) = C.mut led:=by rw [List.map_map];exact List.map_id _
 have Z' : CxOk w ⟨hideAll s.heap (C.mut led),C.M₀,envOf qual scope Lg f cdv,x :: rest,fun z9 => True⟩ :=
  ⟨fun _ _ _ x => x,hk,nd,fun x hx => by simpa using List.all_eq_true.mp hdb x hx,Zg.K,Zg.T,rfl,rfl,noneSub sub hL0,Zg.m,fun x c h1 _ => nomatch h1⟩
 refine run _ _ (C.mut led) _ ((C.mut led).map fun b => (b,LO.any)) n s'' Lg Z' rfl rfl (fun z9 => trivial) rfl rfl (fun b hb => List.mem_map_of_mem hb) ⟨⟨_,F.ns.at' fun o e => hs.2 _ o hLc (Heap.get?_push_of_some _ e),fun i y pv' h1 h2 => ?_⟩,fun b o e => ?_,fun q hq => ?_, ?_,(fun y c h1 _ => nomatch h1),fun q hq => ?_,trivial⟩
 ·cases i with
  | zero =>
   obtain rfl:=Option.some.inj h1;cases h2
   refine ⟨v, .inl ⟨hloc,by simp⟩,rv.keepS (fun b o e q m => up b o (fun z => ?_) e) fun b o e q m z => ?_⟩
   ·rw [hm] at z
    rcases List.mem_cons.mp z with rfl | z
    ·refine X11 a.fr fun _ q1 _ => X32 q1 fun oL es ep e2 d _ => ?_
     rw [e] at e2;obtain rfl:=Option.some.inj e2
     unfold isSeq at q;rw [d] at q;exact nB q
    ·exact m (List.mem_append_right _ z)
   ·refine Or.elim (List.mem_append.mp z) (fun z => ?_) fun z => ?_
    ·exact m (List.mem_append_left _ z)
    ·rw [hM,hm] at z
     rcases List.mem_cons.mp z with rfl | z
     ·refine X11 a.fr fun _ q1 _ => X32 q1 fun oL es ep e2 d _ => ?_
      rw [e] at e2;obtain rfl:=Option.some.inj e2
      unfold isSeq at q;rw [d] at q;exact nB q
     ·exact m (List.mem_append_right _ z)
  | succ i =>
   rw [List.getElem?_cons_succ,List.getElem?_replicate] at h2
   split at h2 <;> cases h2
 ·exact up b o (fun z => by rw [hideAll_none _ z] at e;exact nS e) (sub b o e)
 ·refine X11 (List.mem_map.mp hq) fun b hb q2 => ?_;subst q2
  refine X11 (hs.1 b hb) fun o e d => ?_
  exact ⟨hideAll_none _ hb,o,e,d⟩
 ·rw [hM,hm]
  exact List.nodup_cons.mpr ⟨fun z => by
   refine X11 (List.mem_map.mp z) fun q hq e => ?_
   exact a.ll q hq e,a.nd⟩
 ·refine X11 (List.mem_map.mp hq) fun b hb q2 => ?_;subst q2
  exact fun z => hLc ((show b = Lg from z) ▸ hb)
end
theorem oIsIN {w : World} {A : Around} {n : Int} : Op2 w A (compareOp .Is) (.int n) PV.none (.bool false):=fun M s Q E va vb _ ra rb q => by
 (apply Rep.elI ra;intro z9);apply Rep.elV rb
 exact wpAny_pure (a:=Value.bool false) (q _ s.heap s.toks (.bool _) noExt)
section
variable {w : World} {C : Cx} {A : Around} {Γ : List (Option PV)} {led : Led} {s : Shared}
theorem gen_cut (Z : CxOk w C) (hcl : C.env.cells = []) (a : AS C Γ led s) (hh : A.handled = none) (hdp : A.depth + 2 < recursionLimit) {v : Value} (rv : Rep s.heap (C.M led) (.lst [.int 4, .int 0]) v) {Q E : Value -> Shared -> Prop}
  (h : ∀ Lg h₁ k nm qn gst,Ext s.heap h₁ -> s.heap.get? Lg = none -> (∃ o,h₁.get? Lg = some o /\ isSeq o = false) -> Lg < h₁.objs.size -> gst.bare = true -> (∀ n s'',GoOn (C.mut led) (h₁.push (genO s.gens.size nm qn)) s''.heap -> gst.Goes (model vw w) A.in1 (fun z9 z9 z9 z9 => False) (GY (hideAll s.heap (C.mut led)) Lg (C.mut led)) (n + 1) (.send .none) s'') ->
   Q (.ref h₁.objs.size) { s with gens:=s.gens.push gst,toks:=k,heap:=h₁.push (genO s.gens.size nm qn) }) :
  wpAny (model vw w) A (call (.ref 59) [v] []) Q E s:=by
 refine' gen_enter Z hcl a hh hdp rv (Str.ofString "grouping") [Str.ofString "last_interval",Str.ofString "interval"] ?ho ?hcd ?hb ?hloc ?hdb ?nd ?hcell ?hco ?hgen ?hk ?run h
 case ho | hcd => k_is
 case hb => exact fun s v X => BindsTo.of_eq rfl
 case hloc => rfl
 case hdb | nd | hcell => decide
 case hco | hgen | hk => rfl
 clear h rv hdp hh a hcl Z
 intro C A cons g led n s₀ L Z he hn hx hg hA1 hJ a
 obtain ⟨h₀,M₀,env,nms,X⟩ := C
 dsimp only at he hn hx
 subst he hn hg
 dsimp only [List.replicate,List.length] at a ⊢
 refine seg_func ?_
 refine seg_set (g:=h₀) Z (i:=1) rfl rfl Pure.nil rfl a .refl fun s1 _ a1 k1 => ?_
 clear a
 dsimp only [List.set] at a1
 refine seg_execs_cons (seg_For (fun z9 => rfl) ?_)
 refine Pure.nm Z .zero .zero s1 _ _ a1 fun v h k rv ex a2 => ?_
 have k2:=k1.ext (tk:=k) ex
 clear k1 a1
 apply Rep.elL rv;intro l xs ln el ml rl
 obtain ⟨t4,t0,rfl⟩ : ∃ t4 t0,xs = #[.int 4 t4, .int 0 t0]:=by
  generalize hx : xs.toList = l' at rl
  cases rl with
  | cons r1 rl => cases rl with
   | cons r2 rl =>
    cases rl;obtain ⟨_,rfl⟩ := Rep.inI r1;refine X10 (Rep.inI r2) fun _ q1 => ?_;subst q1
    exact ⟨_,_,by rw [<- Array.toArray_toList (xs:=xs),hx]⟩
 refine wpAny_pyIter_list ⟨_,el,rfl,_,rfl⟩ ?_
 intro kk pp
 have alive : ∀ b ∈ led.M,b < h.objs.size:=fun b hb => by
  refine X11 (List.mem_map.mp hb) fun q hq q2 => ?_;subst q2
  refine XAEA (a2.lg q hq) fun _ o e _ => ?_
  exact Heap.lt_size e
 have hLl : L < h.objs.size:=by
  refine X11 a2.fr fun m q1 _ => X31 q1 fun o es ep e _ => ?_
  exact Heap.lt_size e
 have hI0 : h.get? h.objs.size = none:=Heap.get?_none_of_le (Nat.le_refl _)
 have eP : Ext h (h.push { cls:=.type "list_iterator",data:=.fields #[.ref l, .int 0 0] }):=fun b o e => Heap.get?_push_of_some _ e
 have a3:=(a2.ext Z (k:=k) eP).more (I:=h.objs.size) (noneSub a2.kp hI0) (Heap.get?_push_size _ rfl) (fun v e => nomatch e) rfl (fun z => Nat.lt_irrefl _ (alive _ z)) (Nat.ne_of_gt hLl)
 have k3:=k2.ext (tk:=k) eP
 have hit : (h.push { cls:=.type "list_iterator",data:=.fields #[.ref l, .int 0 0] }).IsListIter h.objs.size l 0:=⟨_,Heap.get?_push_size _ rfl,rfl,rfl⟩
 have el3:=eP _ _ el
 have hIl : l ≠ h.objs.size:=Nat.ne_of_lt (Heap.lt_size el)
 have hol : ∀ h : Heap,h.get? l = some (PySem.W.listOf #[.int 4 t4, .int 0 t0] ln) -> h.IsList l #[.int 4 t4, .int 0 t0]:=fun h e => ⟨_,e,rfl,_,rfl⟩
 have hlL : l ≠ L:=fun z => by
  refine X11 a2.fr fun m q1 _ => X32 q1 fun o es ep e d _ => ?_
  dsimp only [envOf] at e
  rw [<- z,el] at e;obtain rfl:=Option.some.inj e;exact Data.noConfusion d
 have hI : h₀.get? h.objs.size = none:=noneSub a2.kp hI0
 have hIled : h.objs.size ∉ led.M:=fun z => Nat.lt_irrefl _ (alive _ z)
 generalize h.objs.size = I at a3 k3 hit el3 hIl hI hIled
 generalize h.push _ = hp at a3 k3 hit el3
 clear a2 k2 ex hI0 alive hLl eP
 refine seg_turn Z (i:=0) (j:=2) rfl rfl (fun z9 => by with_unfolding_all rfl) rfl hol hIl hlL hI a3 k3 hit el3 fun s4 a4 hit4 el4 k4 H => ?_
 dsimp only [List.set] at a4
 clear a3 k3 hit el3
 with_reducible refine' seg_no (Test.as (Test.cmp Z (Pure.nm Z ?n1 ?n2) (Pure.globalI Z ?n3 ?n4 ?n5) oEq) ?n6) a4 k4 fun s5 e5 a5 k5 => ?n7
 case n1 => k_extra "g"
 case n2 => k_extra "w"
 case n3 => k_is
 case n4 => rfl
 case n5 | n6 => decide
 have hit5 : s5.heap.IsListIter I l 1:=let ⟨o,e,r⟩ := hit4; ⟨o,e5 _ _ e,r⟩
 have el5:=e5 _ _ el4
 clear a4 k4 hit4 el4 e5
 with_reducible refine' seg_no (Test.as (Test.cmp Z (Pure.nm Z ?m1 ?m2) (Pure.int Z) oEq) ?m3) a5 k5 fun s6 e6 a6 k6 => ?m4
 case m1 => k_extra "g"
 case m2 => k_extra "w"
 case m3 => decide
 have hit6 : s6.heap.IsListIter I l 1:=let ⟨o,e,r⟩ := hit5; ⟨o,e6 _ _ e,r⟩
 have el6:=e6 _ _ el5
 clear a5 k5 hit5 el5 e6
 have k6 : KeptG h₀ L s₀ s6:=k6
 have hJ' : ∀ b ∈ cons,(b,LO.any) ∈ (I,LO.any) :: led:=fun b hb => List.mem_cons_of_mem _ (hJ b hb)
 have hlc : l ∉ cons:=fun z => ml (List.mem_append_right _ (List.mem_map_of_mem (hJ l z)))
 have hIc : I ∉ cons:=fun z => hIled (List.mem_map_of_mem (hJ I z))
 with_reducible refine' seg_give Z hx hJ' ?y0 ?y1 ?y2 ?y3 ?y4 ?y5 (Pure.nm Z ?y6 ?y7) a6 k6 fun hq s7 eq hn hgo a7 => ?y8
 case y0 | y1 | y2 | y3 | y4 | y5 => rfl
 case y6 => k_extra "g"
 case y7 => k_extra "w"
 have hit7 : s7.heap.IsListIter I l 1:=let ⟨o,e,r⟩ := hit6; ⟨o,hgo.2 _ _ hIc (eq _ _ e),r⟩
 have el7:=hgo.2 _ _ hlc (eq _ _ el6)
 clear a6 k6 hit6 el6 eq hgo
 refine seg_set (g:=h₀) Z (i:=1) rfl rfl (Pure.nm Z (.succ (.succ .zero)) (.succ (.succ .zero))) rfl a7 .refl fun s8 e8 a8 k8 => ?_
 dsimp only [List.set] at a8
 have hit8 : s8.heap.IsListIter I l 1:=let ⟨o,e,r⟩ := hit7; ⟨o,e8 _ _ (a7.ll _ List.mem_cons_self) e,r⟩
 have el8:=e8 _ _ hlL el7
 clear a7 hit7 el7 e8
 refine seg_execs_nil (seg_again rfl ?_)
 refine seg_turn Z (i:=1) (j:=2) rfl rfl (fun z9 => by with_unfolding_all rfl) rfl hol hIl hlL hI a8 k8 hit8 el8 fun s9 a9 hit9 el9 k9 H => ?_
 dsimp only [List.set] at a9
 clear a8 k8 hit8 el8 hit9 el9
 with_reducible refine' seg_no (Test.as (Test.cmp Z (Pure.nm Z ?o1 ?o2) (Pure.globalI Z ?o3 ?o4 ?o5) oEq) ?o6) a9 k9 fun s5 e5 a5 k5 => ?o7
 case o1 => k_extra "g"
 case o2 => k_extra "w"
 case o3 => k_is
 case o4 => rfl
 case o5 | o6 => decide
 clear a9 k9 e5
 refine seg_execs_cons (seg_If (Test.as (Test.cmp Z (Pure.nm Z (.succ (.succ .zero)) (.succ (.succ .zero))) (Pure.int Z) oEq) (show ((0 : Int) == 0) = true from rfl) s5 _ _ a5 fun h6 q6 e6 a6 => ?_))
 rw [if_pos rfl]
 have k6:=k5.ext (tk:=q6) e6
 clear a5 k5 e6
 with_reducible refine' seg_no (Test.cmp Z (Pure.nm Z ?p1 ?p2) Pure.nil oIsIN) a6 k6 fun s7 e7 a7 k7 => ?p7
 case p1 => k_extra "g"
 case p2 => k_extra "w"
 refine seg_execs_cons (seg_While fun p2 => ?_)
 refine X10 (Nat.exists_eq_succ_of_ne_zero (Nat.ne_of_gt hn)) fun n' q1 => ?_;subst q1
 have k7 : KeptG h₀ L _ s7:=k7
 with_reducible refine' g_while Z hx hJ' ?r0 ?r1 ?r2 ?r3 ?r4 ?r5 ?r6 _ _ _ a7 k7
 case r0 | r1 | r2 | r3 | r4 => rfl
 case r5 => exact Test.of Pure.bool truthyB fun z9 => rfl
 case r6 => k_extra "p"
end
theorem setPush (a : Array GenState) (x y : GenState) : (a.push x).setIfInBounds a.size y = a.push y:=by
 apply Array.ext'
 simp [Array.setIfInBounds]
theorem getPush (a : Array GenState) (x : GenState) : (a.push x)[a.size]? = some x:=by simp
section
variable {w : World} {C : Cx} {A : Around} {Γ : List (Option PV)} {led : Led} {s : Shared} {K : Flow -> Shared -> Prop} {rest : List Stmt} {T : List Addr}
theorem AS.mutOk (a : AS C Γ led s) (hcl : C.env.cells = []) : ∀ b ∈ C.mut led, ∃ o,s.heap.get? b = some o /\ ∀ v,o.data ≠ .cell v:=fun b hb => by
 rw [show C.mut led = C.env.locals :: led.M by unfold Cx.mut;rw [hcl];rfl] at hb
 rcases List.mem_cons.mp hb with rfl | hb
 ·refine X11 a.fr fun m q1 _ => X32 q1 fun o es ep e d _ => ?_;exact ⟨o,e,fun v q => by rw [d] at q;exact Data.noConfusion q⟩
 ·refine X11 (List.mem_map.mp hb) fun q hq q2 => ?_;subst q2
  refine XAEA (a.lg q hq) fun _ o e r => ?_
  refine ⟨o,e,fun v dc => ?_⟩
  obtain ⟨p1,p2⟩ := q
  cases p2 with
  | list l => refine X21 r fun vs n e _ => ?_;rw [e] at dc;exact Data.noConfusion dc
  | app b => rw [show o = _ from r] at dc;exact Data.noConfusion dc
  | tab => refine X11 r fun ps e _ => ?_;rw [e] at dc;exact Data.noConfusion dc
  | dict _ kvs => refine X11 r fun vs q1 _ => X22 q1 fun es ep _ d2 _ => ?_;rw [d2] at dc;exact Data.noConfusion dc
  | any => exact r _ dc
noncomputable def TurnG (C : Cx) (K : Flow -> Shared -> Prop) (P : Prop) (J : List (Option PV) -> Led -> Prop) : Flow -> Shared -> Prop:=fun f s => match f with
 | .next => P /\ ∃ Γ led,J Γ led /\ AS C Γ led s
 | .ret v => K (.ret v) s
 | _ => False
noncomputable abbrev Cx.with (C : Cx) (g : Heap) (X : Shared -> Prop) : Cx:=⟨g,C.M₀,C.env,C.nms,X⟩
theorem AllBare.pop {a : Array GenState} {x : GenState} (h : AllBare (a.push x)) : AllBare a:=fun i g => h i (Array.mem_push.mpr (.inl g))
theorem Run.forGen (Z : CxOk w C) (hcl : C.env.cells = []) (hA : A.handled = none /\ A.depth + 2 < recursionLimit) (hne : T ≠ []) (hX : XOk T C) {gx y : Str} {gp cp yp pos : Pos} {e : Expr} {body : List Stmt} {N : Nat} {j : Nat} (hf : Pure w A C Γ led (.Name gx gp) (.val (.ref 59))) (ha : Args w A C Γ led [e] [.lst [.int 4, .int 0]])
  (hy : C.nms[j]? = some y) (hk : C.env.kindOf y = some .local) (hfs : ∀ x,foldedSetIterable (.Call (.Name gx gp) [e] [] cp) C.env x = pure x) (ht : ∀ it v,letOwnedTupleGo (.Name y yp) it v = pure ()) (ks : List Addr) (hks : led.map (·.1) = ks)
  (J : Nat -> List (Option PV) -> Led -> Prop) (h0 : J 0 Γ led) (hJ : ∀ i Γ led,J i Γ led -> led.map (·.1) = ks /\ ∀ p ∈ led,p.2 ≠ .any)
  (turn : ∀ i Γ₁ led₁ g X,i <= N -> J i Γ₁ led₁ -> CxOk w (C.with g X) -> Ext C.h₀ g -> (∀ s,X s -> C.X s) -> Run w A (C.with g X) (Γ₁.set j (some (.int 4))) led₁ body (TurnG (C.with g X) K (i < N) (J (i + 1)))) :
  Run w A C Γ led (.For (.Name y yp) (.Call (.Name gx gp) [e] [] cp) body [] pos :: rest) K:=.st fun s a => by
 refine wpAny_For (wpAny_Call_NameR (hf s _ _ a fun v h0' k0 r0 e0 a0 => ?_)) hfs
 apply Rep.elV r0
 refine callWX Z (.inr (.inr ?kp)) ha a0 fun vs h k rs ex1 a1 => ?_
 case kp => k_is
 apply Reps.elC rs;intro _ _ r1 rs
 apply Reps.elN rs
 refine gen_cut Z hcl a1 hA.1 hA.2 r1 fun Lg h₁ k1 nm qn gst eh hLg hq hlt hb hgo => ?_
 have eG : Ext h₁ (h₁.push (genO s.gens.size nm qn)):=fun b o e => Heap.get?_push_of_some _ e
 have hG:=Heap.get?_push_size (h:=h₁) (o:=genO s.gens.size nm qn) rfl
 have hLG : Lg ≠ h₁.objs.size:=Nat.ne_of_lt hlt
 have hG0 : h.get? h₁.objs.size = none:=by
  cases e : h.get? h₁.objs.size with
  | none => rfl
  | some o => exact absurd (Heap.lt_size (eh _ _ e)) (Nat.lt_irrefl _)
 refine wpAny_pyIter_gen (g:=s.gens.size) ⟨_,_,_,hG,rfl,rfl,rfl⟩ ?_
 have alive : ∀ b ∈ C.mut led, ∃ o,h.get? b = some o:=fun b hb => (a1.mutOk hcl b hb).imp fun _ e => e.1
 have hLm : Lg ∉ C.mut led:=fun z => by
  refine X10 (alive _ z) fun o e => ?_
  rw [hLg] at e;exact nS e
 have hGm : h₁.objs.size ∉ C.mut led:=fun z => by
  refine X10 (alive _ z) fun o e => ?_
  rw [hG0] at e;exact nS e
 refine Y2 (Z.hide a1 [] (fun b hb => nomatch hb)) fun ZI exI => ?_
 have aI0:=a1.hide []
 dsimp only [List.nil_append] at ZI exI aI0
 have gLg : (hideAll h (C.mut led)).get? Lg = none:=by
  cases e : (hideAll h (C.mut led)).get? Lg with
  | none => rfl
  | some o => rw [of_hideAll _ e] at hLg;exact nS hLg.symm
 generalize hideAll h (C.mut led) = gI at ZI exI aI0 gLg hgo
 have aI : AS (C.at gI) Γ led { s with heap:=h₁.push (genO s.gens.size nm qn),toks:=k1,gens:=s.gens.push gst } :=
  (aI0.ext ZI (k:=k1) (eh.trans eG)).rest rfl (hX s _ _ _ s.drawn hne a.x fun hg => hg.push hb)
 have hq' : ∃ o,(h₁.push (genO s.gens.size nm qn)).get? Lg = some o /\ isSeq o = false:=hq.imp fun o e => ⟨eG _ _ e.1,e.2⟩
 generalize h₁.push _ = hp at aI hG hq' hgo
 generalize h₁.objs.size = G at hG hLG hGm
 clear hq eG hG0 aI0 a1 a0 r1 alive hlt eh hLg
 refine codeAny_forLoop_any (fun k s' => ∃ i Γ' led' gst,k = N + 1 - i /\ i <= N /\ J i Γ' led' /\ AS (C.at gI) Γ' led' s' /\ s'.heap.get? G = some (genO s.gens.size nm qn) /\ s'.gens = s.gens.push gst /\ gst.bare = true /\ (∃ o,s'.heap.get? Lg = some o /\ isSeq o = false) /\ (∀ n s'',n = N - i -> GoOn (C.mut led) s'.heap s''.heap -> gst.Goes (model vw w) A.in1 (fun z9 z9 z9 z9 => False) (GY gI Lg (C.mut led)) (n + 1) (.send .none) s'')) ?turn (N + 1) ⟨0,Γ,led,gst,rfl,Nat.zero_le _,h0,aI,hG,rfl,hb,hq',fun n s'' hn hs => hgo _ s'' hs⟩
 intro k s' hq0
 refine byG fun G kG => ?_
 obtain ⟨i,Γ',led',gst',rfl,hi,hJi,a',eG',hgn,hb',⟨oL,eL,qL⟩,hgo'⟩ := hq0
 refine kG ?_;clear kG G
 obtain ⟨hk1,hna1⟩ := hJ _ _ _ hJi
 have hm : (C.at gI).mut led' = C.mut led:=by
  show C.env.locals :: (_ ++ led'.map (·.1)) = C.env.locals :: (_ ++ led.map (·.1))
  rw [hk1,hks]
 refine byG fun G kG => ?_
 refine X50 ZI.T fun p loose mean mg mb TI => ?_
 refine kG ?_;clear kG G
 refine pyNext_genR (g:=s.gens.size) (n:=N - i + 1) (TI.keeps a'.kp).nolimit (by lia) ⟨_,_,_,eG',rfl,rfl,rfl⟩ (by rw [hgn];exact getPush _ _) (hgo' _ _ rfl ⟨fun b hb => a'.mutOk hcl b (hm ▸ hb),fun _ _ _ e => e⟩) fun v s₁ gs' hbg hy3 => ?_
 refine byG fun G kG => ?_
 obtain ⟨⟨t,rfl⟩,⟨h3,tk3,rfl,kp3⟩,⟨oL3,eL3,qL3⟩,hgo3⟩ := hy3
 refine kG ?_;clear kG G
 have eS : ({ s'.setGen s.gens.size .running with heap:=h3,toks:=tk3 } : Shared).setGen s.gens.size gs' = { s' with heap:=h3,toks:=tk3,gens:=s.gens.push gs' } := by
  show ({ s' with heap:=h3,toks:=tk3,gens:=(s'.gens.setIfInBounds s.gens.size .running).setIfInBounds s.gens.size gs' } : Shared) = _
  rw [hgn,setPush,setPush]
 rw [eS]
 have hx3 : C.X { s' with heap:=h3,toks:=tk3,gens:=s.gens.push gs' } := hX s' h3 tk3 _ s'.drawn hne a'.x fun hg => (AllBare.pop (hgn ▸ hg)).push hbg
 have a3 : AS (C.at gI) Γ' led' { s' with heap:=h3,toks:=tk3,gens:=s.gens.push gs' } := a'.genStep hx3 hcl (Lg:=Lg) (g:=gI) noExt
  (fun z => hLm (z ▸ List.mem_cons_self)) (fun p hp => ⟨fun z => hLm (by rw [<- hm, <- z];exact List.mem_cons_of_mem _ (List.mem_append_right _ (List.mem_map_of_mem hp))),hna1 p hp⟩) gLg (fun o e => by rw [eL] at e;obtain rfl:=Option.some.inj e;exact qL) kp3
 have eG3:=kp3 G _ hLG.symm (.inr rfl) eG'
 dsimp only
 rw [ht]
 refine Y2 (ZI.hide a3 [] (fun b hb => nomatch hb)) fun Z3 ex3 => ?_
 have aH:=a3.hide []
 dsimp only [List.nil_append] at Z3 ex3 aH
 rw [hm] at Z3 ex3 aH
 have h3g : ∀ b o,b ∉ C.mut led -> h3.get? b = some o -> (hideAll h3 (C.mut led)).get? b = some o:=fun b o hb e => hid e hb
 generalize hideAll h3 (C.mut led) = g3 at Z3 ex3 aH h3g
 have ZX : CxOk w (C.with g3 fun s₂ => C.X s₂ /\ s₂.gens = s.gens.push gs'):=⟨fun s h k x => ⟨Z3.x s h k x.1,x.2⟩,Z3.kind,Z3.nd,Z3.dbg,Z3.K,Z3.T,Z3.g,Z3.b,Z3.L,Z3.m,Z3.cl⟩
 have aX : AS (C.with g3 fun s₂ => C.X s₂ /\ s₂.gens = s.gens.push gs') Γ' led' { s' with heap:=h3,toks:=tk3,gens:=s.gens.push gs' } := ⟨aH.fr,aH.kp,aH.lg,aH.nd,aH.ce,aH.ll,hx3,rfl⟩
 have hR:=turn i Γ' led' g3 _ hi hJi ZX (fun b o e => ex3 b o (exI b o e)) fun _ x => x.1
 refine wpAny_pure (wpAny_mono (Asg.name ZX j hy hk _ _ _ _ aX (.int 4 t) fun h₄ k₄ _ a₄ => wpAny_mono (hR _ a₄) (fun f s₄ h₄ => ?_) fun _ _ e => e.elim) (fun _ s₂ h₂ => h₂) fun _ _ e => e)
 cases f with
 | ret v => exact h₄
 | brk => exact h₄.elim
 | cont => exact h₄.elim
 | next =>
  refine byG fun G kG => ?_
  obtain ⟨hlt,Γ₅,led₅,hJ₅,a₅⟩ := h₄
  refine kG ?_;clear kG G
  refine ⟨N + 1 - (i + 1),by lia,i + 1,Γ₅,led₅,gs',rfl,hlt,hJ₅,⟨a₅.fr,fun b o e => a₅.kp b o (ex3 b o e),fun p hp => ?_,a₅.nd,a₅.ce,a₅.ll,a₅.x.1⟩,a₅.kp _ _ (h3g _ _ hGm eG3),a₅.x.2,hbg,⟨oL3,a₅.kp _ _ (h3g _ _ hLm eL3),qL3⟩,fun n s'' hn hs => ?_⟩
  ·refine Y2 (a₅.lg p hp) fun h1 h2 => ?_
   exact ⟨noneSub ex3 h1,h2⟩
  ·have:=hgo3 (by lia) s'' ⟨hs.1,fun b o hb e => hs.2 b o hb (a₅.kp _ _ (h3g _ _ hb e))⟩
   rw [show N - i = n + 1 by lia] at this
   exact this
end
theorem range_all' (n : Nat) : List.filter (fun _ : Nat => true) (List.range n) = List.range n:=List.filter_eq_self.mpr fun z9 z9 => rfl
theorem map_getD {α : Type} (f : Nat -> α) (l : List Nat) : List.map (fun i => f (l.toArray.getD i 0)) (List.range l.toArray.size) = l.map f:=by
 refine List.ext_getElem (by simp) fun i h1 h2 => ?_
 simp at h1 h2
 simp [h1]
theorem map_mkS {α : Type} (f : Nat -> α) (l : List Nat) : List.map (fun i => f ((mkS l).cps.getD i 0)) (List.range (mkS l).cps.size) = l.map f:=map_getD f l
noncomputable def escL (c : Nat) : Str:=if c = 43 \/ c = 45 then mkS [92,c] else ⟨#[c]⟩
noncomputable def brkL (b : Str) : Str:=if b = Str.ofString "[-_]" then Str.ofString "[\\-_]" else b
theorem occ1 : ∀ c,c < 128 -> (!(Builtin.Str.occurrences (Str.ofString "+-") ⟨#[c]⟩ 0 (Str.ofString "+-").length 1).isEmpty) = decide (c = 43 \/ c = 45):=by decide +kernel
section
variable {w : World}
theorem f_parts (fr : List Nat) (bk : Str) (hl : fr.length <= 10) (ha : (mkS fr).cps.all (· < 128) = true) (hb : bk.length <= 100) : FnG [] w 212 2 [.str (mkS fr), .str bk] (.lst (fr.map (fun c => .str (escL c)) ++ [.str (brkL bk),PV.none])):=by
 refine' FnM.enter [Str.ofString "front",Str.ofString "bracket"] [] ?ho ?hcd ?hK ?ndT ?hb ?hloc ?hdb ?nd ?hnd ?hco ?hgen ?hk ?hlen ?run
 case ho | hcd => k_is
 case hK => exact noTabsK w
 case ndT => decide
 case hb =>
  intro s vs hv KX
  refine X20 (len2 hv) fun v0 v1 q2 => ?_;subst q2
  exact BindsTo.of_eq rfl
 case hloc | hdb | nd | hnd => decide +kernel
 case hco | hgen | hk | hlen => rfl
 intro C A L Z he hn hA hX
 obtain ⟨h₀,M₀,env,nms,X⟩ := C
 dsimp only [List.cons_append,List.nil_append] at he hn
 subst he hn
 dsimp only [List.map,List.replicate,List.cons_append,List.nil_append,List.length]
 have hsz : (mkS fr).cps.size = fr.length:=by simp [mkS]
 refine Run.ret (pv:=.lst (fr.map (fun c => .str (escL c)) ++ [.str (brkL bk),PV.none])) ?_ fun s v as r => EndsG.ret as noT r
 rw [<- map_mkS (fun c => PV.str (escL c)) fr, <- range_all' (mkS fr).cps.size]
 with_reducible apply Pure.binop Z
 ·refine PureT.toPure (PureT.compN Z noT [Str.ofString "sign"] (Src.strA hA.1 ?_ ha) rfl rfl rfl rfl (fun z9 => rfl) (by decide) (by decide) (by intro q h;cases h) (by k_extra "x") (fun z9 => true) (fun i => .str (escL ((mkS fr).cps.getD i 0))) (by lia) ?_)
  ·k_extra "p"
  ·intro g Cn D i l Z hi
   have hlt : (mkS fr).cps.getD i 0 < 128:=by
    have:=Array.all_eq_true.mp ha i hi
    show (mkS fr).cps.getD i 0 < 128
    rw [Array.getD_eq_getD_getElem?,Array.getElem?_eq_getElem hi]
    simpa using this
   refine CTurn.one Z .zero rfl .zero .zero rfl fun z9 => Pure.toT ?_
   have hx : escL ((mkS fr).cps.getD i 0) = if decide ((mkS fr).cps.getD i 0 = 43 \/ (mkS fr).cps.getD i 0 = 45) = true then mkS [92,(mkS fr).cps.getD i 0] else ⟨#[(mkS fr).cps.getD i 0]⟩ := by
    unfold escL;split <;> simp_all
   rw [hx]
   refine Pure.ite Z (Test.cmp Z (by k_extra "p") (by k_extra "p") (oInS (occ1 _ hlt))) (fun e => ?_) (fun e => ?_)
   ·rw [if_pos e]
    exact Pure.binop Z (by k_extra "p") (by k_extra "p") (oAddS (by exact Nat.le_of_ble_eq_true rfl) rfl)
   ·rw [if_neg (by rw [e];exact Bool.false_ne_true)]
    k_extra "p"
 ·refine Pure.list (ps := [.str (brkL bk),PV.none]) Z ?_ ?_
  ·refine Args.cons ?_ rfl (Args.cons (by k_extra "p") rfl .nil)
   unfold brkL
   by_cases e : bk = Str.ofString "[-_]"
   ·rw [if_pos e]
    refine Pure.iteT Z (Test.as (Test.cmp Z (by k_extra "p") (by k_extra "p") oEqS) ?_) (by k_extra "p")
    rw [e];exact beq_self_eq_true _
   ·rw [if_neg e]
    refine Pure.iteF Z (Test.as (Test.cmp Z (by k_extra "p") (by k_extra "p") oEqS) ?_) (by k_extra "p")
    rw [beq_eq_false_iff_ne]
    exact fun h => e (cs_inj h)
  ·exact Nat.le_of_ble_eq_true rfl
 ·refine oAddL ?_
  have:=compLen (n:=(mkS fr).cps.size) (p:=fun z9 => true) (F:=fun i => PV.str (escL ((mkS fr).cps.getD i 0)))
  have e : (mkS fr).cps.size = fr.length:=by simp [mkS]
  simp only [List.length_cons,List.length_nil]
  lia
end
noncomputable def comF (a b : List Nat) : Nat:=((List.range 4).filter fun i => a.take (1 + i) == b.take (1 + i)).length
section
variable {w : World} {C : Cx} {A : Around} {Γ : List (Option PV)} {led : Led}
theorem Pure.sliceTo {e up : Expr} {p pos : Pos} {l : List Nat} {k : Int} (n : Nat) (Z : CxOk w C) (h1 : Pure w A C Γ led e (.str (mkS l))) (h2 : Pure w A C Γ led up (.int k)) (hk : k = (n : Int)) (hn : n <= l.length) (hl : l.length <= 1000) (ht : ∀ o r,letTemporaryGo e o r = pure ()) :
  Pure w A C Γ led (.Subscript e (.Slice none (some up) none p) pos) (.str (mkS (l.take n))):=by
 subst hk
 exact Pure.sliceS (i:=none) (j:=some (n : Int)) Z h1 True.intro h2 (by rw [len_mkS,sizeLine_eq];lia) (slice_take l n hn) ht
theorem Pure.sliceFrom {e lo : Expr} {p pos : Pos} {l : List Nat} {k : Int} (n : Nat) (Z : CxOk w C) (h1 : Pure w A C Γ led e (.str (mkS l))) (h2 : Pure w A C Γ led lo (.int k)) (hk : k = (n : Int)) (hn : n <= l.length) (hl : l.length <= 1000) (ht : ∀ o r,letTemporaryGo e o r = pure ()) :
  Pure w A C Γ led (.Subscript e (.Slice (some lo) none none p) pos) (.str (mkS (l.drop n))):=by
 subst hk
 exact Pure.sliceS (i:=some (n : Int)) (j:=none) Z h1 h2 True.intro (by rw [len_mkS,sizeLine_eq];lia) (slice_drop l n hn) ht
end
theorem comF_le (a b : List Nat) : comF a b <= 4:=by
 have:=List.length_filter_le (fun i => a.take (1 + i) == b.take (1 + i)) (List.range 4)
 rw [List.length_range] at this
 exact this
theorem words_Lf : True:=by
 k_with "L" => first | ((with_reducible show Pure _ _ _ _ _ (.Subscript ..) _;apply Pure.sliceS Z);k_extra "p";k_extra "K";k_extra "K";k_extra "c";k_extra "r";k_extra "u") | fail
 trivial
section
variable {w : World}
theorem f_front (a b : List Nat) (ha : a.length = 4) (hb : b.length = 4) : FnG [] w 207 2 [.str (mkS a), .str (mkS b)] (.str (mkS (a.take (comF a b)))):=by
 refine' FnM.enter [Str.ofString "one",Str.ofString "two"] [] ?ho ?hcd ?hK ?ndT ?hb ?hloc ?hdb ?nd ?hnd ?hco ?hgen ?hk ?hlen ?run
 case ho | hcd => k_is
 case hK => exact noTabsK w
 case ndT => decide
 case hb =>
  intro s vs hv KX
  refine X20 (len2 hv) fun v0 v1 q2 => ?_;subst q2
  exact BindsTo.of_eq rfl
 case hloc | hdb | nd | hnd => decide +kernel
 case hco | hgen | hk | hlen => rfl
 intro C A L Z he hn hA hX
 obtain ⟨h₀,M₀,env,nms,X⟩ := C
 dsimp only [List.cons_append,List.nil_append] at he hn
 subst he hn
 dsimp only [List.map,List.replicate,List.cons_append,List.nil_append,List.length]
 have la : (mkS a).length = 4:=by rw [len_mkS,ha]
 have lb : (mkS b).length = 4:=by rw [len_mkS,hb]
 refine Run.ret ?_ fun s v as r => EndsG.ret as noT r
 refine Pure.sliceTo (comF a b) Z (by k_extra "p") ?_ rfl (by rw [ha];exact comF_le a b) (by lia) (by k_extra "u")
 have hl : Gv w A (.builtin "len") [] [.lst (((List.range 4).filter fun i => a.take (1 + i) == b.take (1 + i)).map fun i : Nat => PV.int (1 + (i : Int)))] (.int (comF a b : Nat)):=by
  have h:=gLenL (w:=w) (A:=A) (l:=((List.range 4).filter fun i => a.take (1 + i) == b.take (1 + i)).map fun i : Nat => PV.int (1 + (i : Int))) (by have:=compLen (n:=4) (p:=fun i => a.take (1 + i) == b.take (1 + i)) (F:=fun i : Nat => PV.int (1 + (i : Int)));lia)
  rw [List.length_map] at h
  unfold comF
  exact h
 refine Pure.call Z (by k_extra "n") (by k_extra "k") (.cons (PureT.toPure ?_) rfl .nil) hl
 refine' PureT.compN (n:=4) Z noT [Str.ofString "k",Str.ofString "one",Str.ofString "two"] (Src.range2 (a:=1) (b:=5) (n:=4) Z hA.1 ?za ?zb ?zc ?zd ?ze) ?y1 ?y2 ?y3 ?y4 ?y5 ?y6 ?y7 ?y8 ?y9 _ _ ?yn ?yt
 case za => k_extra "n"
 case zb => k_extra "o"
 case zc | zd | ze => decide
 case y1 | y2 | y3 | y4 => rfl
 case y5 => exact fun z9 => rfl
 case y6 | y7 => decide
 case y8 => k_extra "v"
 case y9 => k_extra "x"
 case yn => decide
 intro g Cn D i l Z hi
 refine CTurn.one Z .zero rfl .zero .zero ?_ fun z9 => Pure.toT ?_
 ·refine Test.as (Test.cmp Z (Pure.sliceTo (1 + i) Z (by k_extra "p") (by k_extra "p") (by lia) (by lia) (by lia) (by k_extra "u")) (Pure.sliceTo (1 + i) Z (by k_extra "p") (by k_extra "p") (by lia) (by lia) (by lia) (by k_extra "u")) oEqS) ?_
  show (cs (mkS _) == cs (mkS _)) = _
  rw [cs_mkS,cs_mkS]
 ·k_extra "p"
end
noncomputable def chunk (x : Str) (i : Nat) : Str:=mkS (((cs x).drop (4 * i)).take 4)
section
variable {w : World}
theorem f_cut (x : Str) (N : Nat) (hx : x.length = 4 * N) (hN : N <= 200) : FnG [173] w 202 5 [.str x] (.lst (((List.range N).map (chunk x)).map .str)):=by
 refine' FnM.enter [Str.ofString "text"] [Str.ofString "pieces",Str.ofString "size"] ?ho ?hcd ?hK ?ndT ?hb ?hloc ?hdb ?nd ?hnd ?hco ?hgen ?hk ?hlen ?run
 case ho | hcd => k_is
 case hK => exact noTabsK w
 case ndT => decide
 case hb =>
  intro s vs hv KX
  refine X10 (len1 hv) fun v0 q1 => ?_;subst q1
  exact BindsTo.of_eq rfl
 case hloc | hdb | nd | hnd => decide +kernel
 case hco | hgen | hk | hlen => rfl
 intro C A L Z he hn hA hX
 obtain ⟨h₀,M₀,env,nms,X⟩ := C
 dsimp only [List.cons_append,List.nil_append] at he hn
 subst he hn
 dsimp only [List.map,List.replicate,List.cons_append,List.nil_append,List.length]
 have hl : (cs x).length = 4 * N:=hx
 with_reducible refine' Run.newList Z ?aa ?ab ?ac ?ad fun b => ?ae
 case aa => k_extra "g"
 case ab | ac => rfl
 case ad => intro b;k_extra "q"
 with_reducible refine' Run.forGen (N:=N) (j:=2) Z ?ba ?bb ?bc hX ?bd ?be ?bf ?bg ?bh ?bi _ rfl (fun i Γ led => led = [(b, .list (((List.range i).map (chunk x)).map .str)),(173, .tab)] /\ ∃ z,Γ = [some (.str (mkS ((cs x).drop (4 * i)))),some (.val (.ref b)),z]) ?bj ?bk ?bl
 case ba => rfl
 case bb => exact ⟨hA.1,by have:=hA.2.1;lia⟩
 case bc => exact List.cons_ne_nil _ _
 case bd => k_extra "n"
 case be =>
  with_reducible refine' .cons (Pure.list Z (.cons (Pure.int Z) ?qa (.cons (Pure.int Z) ?qb .nil)) ?qc) ?qd .nil
  case qa | qb => rfl
  case qc => exact Nat.le_of_ble_eq_true rfl
  case qd => rfl
 case bf | bg => rfl
 case bh => exact fun z9 => rfl
 case bi => exact fun z9 z9 => by with_unfolding_all rfl
 case bj => exact ⟨rfl,none,by rw [Nat.mul_zero,List.drop_zero,mkS_cs]⟩
 case bk =>
  rintro i Γ led ⟨rfl,z,rfl⟩
  refine ⟨rfl,fun p hp => ?_⟩
  rcases List.mem_cons.mp hp with rfl | hp
  ·exact fun z => nomatch z
  ·rw [List.mem_singleton.mp hp];exact fun z => nomatch z
 case bl =>
  rintro i Γ₁ led₁ g X' hi ⟨rfl,z,rfl⟩ Z' ex hXX
  clear Z
  have Z:=Z'
  clear Z'
  dsimp only [List.set]
  by_cases hlt : i < N
  ·have hd : ((cs x).drop (4 * i)).length = 4 * (N - i):=by rw [List.length_drop,hl];lia
   with_reducible refine' Run.ifF (Test.as (Test.cmp Z ?ca (Pure.str Z) oEqS) ?cb) (Run.done (Run.append Z ?da (Pure.sliceTo 4 Z ?db ?dc ?dd ?de ?df ?dg) ?dh ?di ?dj ?dk ?dl ?dm ?dn (Run.letG (T := []) Z (Pure.toT (Pure.sliceFrom 4 Z ?ea ?eb ?ec ?ed ?ee ?ef)) ?eg ?eh ?ei ?ej (Run.fin ?ek))))
   case ca => k_extra "p"
   case cb =>
    show (cs (mkS _) == _) = false
    rw [cs_mkS]
    cases h : (cs x).drop (4 * i) with
    | nil => rw [h] at hd;exact absurd hd (by show ¬ 0 = _;lia)
    | cons u v => rfl
   case da | db | dc => k_extra "p"
   case dd => rfl
   case de | df => lia
   case dg => k_extra "u"
   case dh => k_extra "b"
   case di => rw [List.length_map,List.length_map,List.length_range];lia
   case dj | dk | dl | dm | dn => rfl
   case ea | eb => k_extra "p"
   case ec => rfl
   case ed | ee => lia
   case ef => k_extra "u"
   case eg => k_extra "g"
   case eh => k_extra "s"
   case ei => k_extra "q"
   case ej => rfl
   case ek => exact fun s as => ⟨hlt,_,_,⟨by rw [List.range_succ,List.map_append,List.map_append];rfl,some (.int 4),by rw [List.drop_drop,show 4 * (i + 1) = 4 * i + 4 from rfl]⟩,as⟩
  ·have hiN : i = N:=by lia
   subst hiN
   with_reducible refine' Run.ifT (Test.as (Test.cmp Z ?fa (Pure.str Z) oEqS) ?fb) (Run.freeze Z ?ga ?gb ?gc (Run.ret ?gd ?ge))
   case fa => k_extra "p"
   case fb =>
    show (cs (mkS _) == _) = true
    rw [cs_mkS,List.drop_of_length_le (Nat.le_of_eq hl)];rfl
   case ga => k_extra "j"
   case gb => k_extra "w"
   case gc => k_extra "q"
   case gd => k_extra "p"
   case ge =>
    intro s v as r
    refine X12 (EndsG.ret as (fun t ht => by rw [List.mem_singleton.mp ht];exact List.mem_cons_self) r) fun v r1 r2 q8 => Y3 q8 fun r3 r4 r5 => ?_
    exact ⟨v,r1,r2,fun b o e => r3 b o (ex b o e),hXX _ r4,r5⟩
end
noncomputable def inRun (part : List Nat) (c : Nat) : Nat -> Nat -> Bool -> Option Bool
 | 0,_,_ => none
 | f + 1,k,hit => if k + 1 < part.length then
   let k1:=k + if part.getD k 0 = 92 then 1 else 0
   if k1 + 1 < part.length then
    let j:=if part.getD (k1 + 1) 0 = 45 then k1 + 2 else k1
    if j < part.length then inRun part c f (k1 + if part.getD (k1 + 1) 0 = 45 then 3 else 1) (hit || (!decide (c < part.getD k1 0) && !decide (part.getD j 0 < c))) else none
   else none
  else some hit
section
variable {w : World}
theorem lt1 (a b : Nat) : ((⟨#[a]⟩ : Str).cps.toList < (⟨#[b]⟩ : Str).cps.toList) ↔ a < b:=by
 show ([a] < [b]) ↔ a < b
 rw [List.cons_lt_cons_iff]
 simp
theorem oLe1 {A : Around} {a b : Nat} : Op2 w A (compareOp .LtE) (.str ⟨#[a]⟩) (.str ⟨#[b]⟩) (.bool (!decide (b < a))):=by
 have h:=oLeS (w:=w) (A:=A) (a:=⟨#[a]⟩) (b:=⟨#[b]⟩)
 rw [show decide ((⟨#[b]⟩ : Str).cps.toList < (⟨#[a]⟩ : Str).cps.toList) = decide (b < a) from decide_eq_decide.mpr (lt1 b a)] at h
 exact h
theorem oEq1 {A : Around} {a : Nat} {x : Str} {d : Nat} (hx : x = ⟨#[d]⟩) : Op2 w A (compareOp .Eq) (.str ⟨#[a]⟩) (.str x) (.bool (decide (a = d))):=by
 subst hx
 have h:=oEqS (w:=w) (A:=A) (a:=⟨#[a]⟩) (b:=⟨#[d]⟩)
 rw [show ((⟨#[a]⟩ : Str).cps.toList == (⟨#[d]⟩ : Str).cps.toList) = decide (a = d) by
  show ([a] == [d]) = _
  by_cases e : a = d
  ·subst e;simp
  ·simp [e]] at h
 exact h
theorem bs1 : Str.ofString "\\" = ⟨#[92]⟩ := by decide +kernel
theorem dash1 : Str.ofString "-" = ⟨#[45]⟩ := by decide +kernel
theorem f_in (part : List Nat) (c f : Nat) (r : Bool) (h3 : 3 <= part.length) (hl : part.length <= 100) (h : inRun part c f 1 false = some r) : FnG [] w 219 1 [.str (mkS part), .str ⟨#[c]⟩] (.bool r):=by
 refine' FnM.enter [Str.ofString "part",Str.ofString "sign"] [Str.ofString "k",Str.ofString "hit",Str.ofString "wide"] ?ho ?hcd ?hK ?ndT ?hb ?hloc ?hdb ?nd ?hnd ?hco ?hgen ?hk ?hlen ?run
 case ho | hcd => k_is
 case hK => exact noTabsK w
 case ndT => decide
 case hb =>
  intro s vs hv KX
  refine X20 (len2 hv) fun v0 v1 q2 => ?_;subst q2
  exact BindsTo.of_eq rfl
 case hloc | hdb | nd | hnd => decide +kernel
 case hco | hgen | hk | hlen => rfl
 intro C A L Z he hn hA hX
 obtain ⟨h₀,M₀,env,nms,X⟩ := C
 dsimp only [List.cons_append,List.nil_append] at he hn
 subst he hn
 dsimp only [List.map,List.replicate,List.cons_append,List.nil_append,List.length]
 have hz : (mkS part).length = part.length:=len_mkS part
 have hlen : (mkS part).length <= sizeLine:=by rw [hz,sizeLine_eq];lia
 k_extra "m"
 refine Run.while_ (fun n Γ led => ∃ (k : Nat) (hit : Bool) (wd : Option PV),inRun part c n k hit = some r /\ Γ = [some (.str (mkS part)),some (.str ⟨#[c]⟩),some (.int k),some (.bool hit),wd] /\ led = []) f ⟨1,false,_,h,rfl,rfl⟩ ?_
 rintro n Γ₁ led₁ ⟨k,hit,wd,hr,rfl,rfl⟩
 cases n with
 | zero => exact nS hr
 | succ n =>
  unfold inRun at hr
  by_cases hk : k + 1 < part.length
  ·rw [if_pos hk] at hr
   dsimp only at hr
   generalize hk1 : k + (if part.getD k 0 = 92 then 1 else 0) = k1 at hr
   split at hr
   ·rename_i h1
    generalize hj : (if part.getD (k1 + 1) 0 = 45 then k1 + 2 else k1) = j at hr
    split at hr
    ·rename_i h2
     refine ⟨true, ?_,(fun _ => ?_),(fun e => nomatch e)⟩
     ·k_extra "a"
     ·have e1 : ((k1 : Nat) : Int) = (k : Int) + (if part.getD k 0 = 92 then 1 else 0 : Int):=by rw [<- hk1];split <;> simp
      refine Run.letG (T := []) (pv:=.int (k1 : Int)) Z (Pure.toT ?_) (by k_extra "g") (by k_extra "s") (by k_extra "q") rfl ?_
      ·rw [e1]
       refine Pure.binop Z (by k_extra "p") (Pure.ite (b:=decide (part.getD k 0 = 92)) Z (Test.cmp Z (Pure.itemC k Z (by k_extra "p") (by k_extra "p") rfl (by lia) (by lia) (by k_extra "u") (by k_extra "u")) (by k_extra "p") (oEq1 bs1)) (fun e => ?_) (fun e => ?_)) oAdd
       ·rw [if_pos (of_decide_eq_true e)];k_extra "p"
       ·rw [if_neg (of_decide_eq_false e)];k_extra "p"
      refine Run.letG (T := []) Z (Pure.toT (Pure.cmp Z (Pure.itemC (k1 + 1) Z (by k_extra "p") (by k_extra "p") (by lia) h1 (by lia) (by k_extra "u") (by k_extra "u")) (by k_extra "p") (oEq1 dash1))) (by k_extra "g") (by k_extra "s") (by k_extra "q") rfl ?_
      refine Run.letG (T := []) Z (Pure.toT (Pure.orB (b := !decide (c < part.getD k1 0) && !decide (part.getD j 0 < c)) (by k_extra "p") fun _ => Pure.chain2 Z (Pure.itemC k1 Z (by k_extra "p") (by k_extra "p") rfl (by lia) (by lia) (by k_extra "u") (by k_extra "u")) (by k_extra "p") (Pure.itemC (k:=(j : Int)) j Z (by k_extra "p") ?_ rfl h2 (by lia) (by k_extra "u") (by k_extra "u")) oLe1 oLe1)) (by k_extra "g") (by k_extra "s") (by k_extra "q") rfl ?_
      ·rw [<- hj]
       refine Pure.ite (b:=decide (part.getD (k1 + 1) 0 = 45)) Z (Test.of (by k_extra "p") truthyB (by intro _;rfl)) (fun e => ?_) (fun e => ?_)
       ·rw [if_pos (of_decide_eq_true e),show ((k1 + 2 : Nat) : Int) = (k1 : Int) + 2 by lia];k_extra "p"
       ·rw [if_neg (of_decide_eq_false e)];k_extra "p"
      have e2 : ((k1 + (if part.getD (k1 + 1) 0 = 45 then 3 else 1) : Nat) : Int) = (k1 : Int) + (if part.getD (k1 + 1) 0 = 45 then 3 else 1 : Int):=by split <;> simp
      refine Run.letG (T := []) (pv:=.int ((k1 + (if part.getD (k1 + 1) 0 = 45 then 3 else 1) : Nat) : Int)) Z (Pure.toT ?_) (by k_extra "g") (by k_extra "s") (by k_extra "q") rfl ?_
      ·rw [e2]
       refine Pure.binop Z (by k_extra "p") (Pure.ite (b:=decide (part.getD (k1 + 1) 0 = 45)) Z (Test.of (by k_extra "p") truthyB (by intro _;rfl)) (fun e => ?_) (fun e => ?_)) oAdd
       ·rw [if_pos (of_decide_eq_true e)];k_extra "p"
       ·rw [if_neg (of_decide_eq_false e)];k_extra "p"
      exact Run.finW (Nat.lt_succ_self n) ⟨_,_,_,hr,rfl,rfl⟩
    ·exact nS hr
   ·exact nS hr
  ·rw [if_neg hk] at hr
   obtain rfl:=Option.some.inj hr
   refine ⟨false, ?_,(fun e => nomatch e),fun _ => ?_⟩
   ·k_extra "e"
   ·exact Run.ret (by k_extra "p") fun s v as r => EndsG.ret as noT r
end
structure ZAt (z TI TO i1 i2 : Addr) (St₁ St₂ : Nat -> Heap -> Prop) (k : Nat) (h : Heap) : Prop where
 zip : IsZip h z TI TO .none
 its : IsPair h TI (.ref i1) (.ref i2)
 own : ∃ a b,IsPair h TO a b
 one : St₁ k h
 two : St₂ k h
structure ZOk (z TI TO i1 i2 : Addr) (f₁ f₂ : List Addr) : Prop where
 nd : [z,TI,TO,i1,i2].Nodup
 z1 : z ∉ f₁
 z2 : z ∉ f₂
 o1 : TO ∉ f₁
 o2 : TO ∉ f₂
 x1 : i2 ∉ f₁
 x2 : i1 ∉ f₂
section
variable {w : World} {A : Around} {E : Value -> Shared -> Prop} {s : Shared} {z TI TO i1 i2 : Addr} {f₁ f₂ : List Addr} {n₁ n₂ : Nat} {P₁ P₂ : Nat -> Value -> Prop} {St₁ St₂ : Nat -> Heap -> Prop}
theorem zNext {k : Nat} (D : ZOk z TI TO i1 i2 f₁ f₂) (D₁ : Draws vw w A i1 f₁ n₁ P₁ St₁) (D₂ : Draws vw w A i2 f₂ n₂ P₂ St₂) (Z : ZAt z TI TO i1 i2 St₁ St₂ k s.heap) (h1 : k < n₁) (h2 : k < n₂) {Q : Value -> Shared -> Prop}
  (hQ : ∀ h' x y tk,P₁ k x -> P₂ k y -> IsZip h' z TI TO (rawInt s.heap.objs.size) -> IsPair h' TI (.ref i1) (.ref i2) -> IsPair h' TO x y -> St₁ (k + 1) h' -> St₂ (k + 1) h' -> IsPair h' s.heap.objs.size x y ->
   (∀ c o,c ∉ [z,TO,i1,i2] -> s.heap.get? c = some o -> h'.get? c = some o) -> Q (.ref s.heap.objs.size) { s with heap:=h',toks:=tk }) :
  wpAny (model vw w) A (Builtin.«zip.__next__» ⟨[.ref z], []⟩) (fun fin s' => ∃ v,fin = .done (.ret v) /\ Q v s') E s:=by
 obtain ⟨hz,hTI,⟨a,b,hTO⟩,st1,st2⟩ := Z
 obtain ⟨nd,nz1,nz2,no1,no2,nx1,nx2⟩ := D
 simp only [List.nodup_cons,List.mem_cons,List.not_mem_nil,or_false,not_or,not_false_eq_true,List.nodup_nil,and_true] at nd
 refine Y4 nd fun q1 q2 q3 i12 => Y4 q1 fun zTI zTO zi1 zi2 => Y3 q2 fun TITO TIi1 TIi2 => Y2 q3 fun TOi1 TOi2 => ?_
 show wpAny _ _ (field (.ref z) 2 >>= _) _ _ _
 refine wpAny_bind (wpAny_field hz rfl (x:=.bool false) rfl ?_)
 show wpAny _ _ (field (.ref z) 3 >>= _) _ _ _
 refine wpAny_bind (wpAny_field hz rfl (x:=.ref TI) rfl ?_)
 refine wpAny_bind (wpAny_seqItems hTI rfl ?_)
 show wpAny _ _ (Builtin.SmallTypes.ownedTupleIsFree (.ref z) >>= _) _ _ _
 refine wpAny_bind ?_
 unfold Builtin.SmallTypes.ownedTupleIsFree
 refine wpAny_bind (wpAny_field hz rfl (x:=.none) rfl (wpAny_pure ?_))
 simp only [if_true]
 refine wpAny_bind (wpAny_rule ?_)
 refine wpAny_bind (wpAny_field hz rfl (x:=.ref TO) rfl ?_)
 refine wpAny_bind (wpAny_setField_rec hz (by simp) fun h₁ hz₁ hs₁ => ?_)
 replace hz₁ : IsZip h₁ z TI TO .ellipsis:=hz₁
 refine wpAny_bind ?_
 simp only [List.zipIdx_cons,List.zipIdx_nil,List.forIn_cons,List.forIn_nil]
 refine wpAny_bind (wpAny_bind (wpAny_onRaise ?_))
 show wpAny _ _ (Builtin.SmallTypes.nextOf (.ref i1) >>= _) _ _ _
 have st1a : St₁ k h₁:=D₁.frame _ _ _ st1 fun c hc o e => hs₁.extBut _ _ (fun q => nz1 (q ▸ hc)) e
 refine wpAny_bind (D₁.item k _ _ _ h1 st1a fun x h₂ k₂ px st1b hs₂ => wpAny_pure ?_)
 have hTO₂ : IsPair h₂ TO a b:=hs₂.extBut _ _ TOi1 (hs₁.extBut _ _ (Ne.symm zTO) hTO)
 refine wpAny_bind (wpAny_seqItems hTO₂ rfl ?_)
 refine wpAny_bind (wpAny_updateSeq_pair hTO₂ fun h₃ hTO₃ hs₃ => ?_)
 replace hTO₃ : IsPair h₃ TO x b:=hTO₃
 refine wpAny_bind (wpAny_letGo (wpAny_pure ?_))
 refine wpAny_bind (wpAny_bind (wpAny_onRaise ?_))
 show wpAny _ _ (Builtin.SmallTypes.nextOf (.ref i2) >>= _) _ _ _
 have st2a : St₂ k h₃:=D₂.frame _ _ _ st2 fun c hc o e => hs₃.extBut _ _ (fun q => no2 (q ▸ hc)) (hs₂.extBut _ _ (fun q => nx2 (q ▸ hc)) (hs₁.extBut _ _ (fun q => nz2 (q ▸ hc)) e))
 refine wpAny_bind (D₂.item k _ _ _ h2 st2a fun y h₄ k₄ py st2b hs₄ => wpAny_pure ?_)
 have hTO₄ : IsPair h₄ TO x b:=hs₄.extBut _ _ TOi2 hTO₃
 refine wpAny_bind (wpAny_seqItems hTO₄ rfl ?_)
 refine wpAny_bind (wpAny_updateSeq_pair hTO₄ fun h₅ hTO₅ hs₅ => ?_)
 replace hTO₅ : IsPair h₅ TO x y:=hTO₅
 refine wpAny_bind (wpAny_letGo (wpAny_pure (wpAny_pure ?_)))
 refine wpAny_bind (wpAny_seqItems hTO₅ rfl ?_)
 refine wpAny_bind (wpAny_newTuple ?_)
 have hsz : h₅.objs.size = s.heap.objs.size:=by rw [hs₅.1,hs₄.1,hs₃.1,hs₂.1,hs₁.1]
 have hz₅ : IsZip h₅ z TI TO .ellipsis:=hs₅.extBut _ _ zTO (hs₄.extBut _ _ zi2 (hs₃.extBut _ _ zTO (hs₂.extBut _ _ zi1 hz₁)))
 have hk₅ : ∀ c o,c ∉ [z,TO,i1,i2] -> s.heap.get? c = some o -> h₅.get? c = some o:=fun c o hc e => by
  simp only [List.mem_cons,List.not_mem_nil,or_false,not_or] at hc
  refine Y4 hc fun c1 c2 c3 c4 => ?_
  exact hs₅.extBut _ _ c2 (hs₄.extBut _ _ c4 (hs₃.extBut _ _ c2 (hs₂.extBut _ _ c3 (hs₁.extBut _ _ c1 e))))
 have s1₅ : St₁ (k + 1) h₅:=D₁.frame _ _ _ st1b fun c hc o e => hs₅.extBut _ _ (fun q => no1 (q ▸ hc)) (hs₄.extBut _ _ (fun q => nx1 (q ▸ hc)) (hs₃.extBut _ _ (fun q => no1 (q ▸ hc)) e))
 have s2₅ : St₂ (k + 1) h₅:=D₂.frame _ _ _ st2b fun c hc o e => hs₅.extBut _ _ (fun q => no2 (q ▸ hc)) e
 have hzlt : z < h₅.objs.size:=Heap.lt_size hz₅
 show wpAny _ _ (Builtin.SmallTypes.ownedTupleHandOut (.ref z) (.ref h₅.objs.size) >>= _) _ _ _
 refine wpAny_bind ?_
 unfold Builtin.SmallTypes.ownedTupleHandOut
 have hz₆ : IsZip (h₅.push { cls:=.type "tuple",data:=.seq #[x,y] }) z TI TO .ellipsis:=Heap.get?_push_of_some _ hz₅
 refine wpAny_bind (wpAny_setField_rec hz₆ (by simp) fun h₇ hz₇ hs₇ => ?_)
 replace hz₇ : IsZip h₇ z TI TO (rawInt h₅.objs.size):=hz₇
 refine wpAny_setField_rec hz₇ (by simp) fun h₈ hz₈ hs₈ => ?_
 replace hz₈ : IsZip h₈ z TI TO (rawInt h₅.objs.size):=hz₈
 have up : ∀ c o,c ≠ z -> h₅.get? c = some o -> h₈.get? c = some o:=fun c o c1 e => hs₈.extBut _ _ c1 (hs₇.extBut _ _ c1 (Heap.get?_push_of_some _ e))
 have hT₈ : IsPair h₈ h₅.objs.size x y:=hs₈.extBut _ _ (Nat.ne_of_gt hzlt) (hs₇.extBut _ _ (Nat.ne_of_gt hzlt) (Heap.get?_push_size _ rfl))
 rw [hsz] at hz₈ hT₈
 refine wpAny_pure ⟨_,rfl, ?_⟩
 show Q (.ref h₅.objs.size) _
 rw [hsz]
 exact hQ h₈ x y k₄ px py hz₈ (up _ _ (Ne.symm zTI) (hk₅ _ _ (by simp;exact ⟨Ne.symm zTI,TITO,TIi1,TIi2⟩) hTI)) (up _ _ (Ne.symm zTO) hTO₅) (D₁.frame _ _ _ s1₅ fun c hc o e => up c o (fun q => nz1 (q ▸ hc)) e) (D₂.frame _ _ _ s2₅ fun c hc o e => up c o (fun q => nz2 (q ▸ hc)) e) hT₈
  fun c o hc e => up c o (fun q => hc (q ▸ List.mem_cons_self)) (hk₅ c o hc e)
theorem zEnd {k : Nat} (D : ZOk z TI TO i1 i2 f₁ f₂) (D₁ : Draws vw w A i1 f₁ n₁ P₁ St₁) (D₂ : Draws vw w A i2 f₂ n₂ P₂ St₂) (Z : ZAt z TI TO i1 i2 St₁ St₂ k s.heap) (hk : k = n₁ \/ k < n₁ /\ k = n₂) {Q : Fin -> Shared -> Prop}
  (hE : ∀ h' e tk,(∀ c o,c ∉ [z,TO,i1,i2] -> s.heap.get? c = some o -> h'.get? c = some o) -> (∃ o,h'.get? e = some o /\ o.cls = .type "StopIteration") -> E (.ref e) { s with heap:=h',toks:=tk }) :
  wpAny (model vw w) A (Builtin.«zip.__next__» ⟨[.ref z], []⟩) Q E s:=by
 obtain ⟨hz,hTI,⟨a,b,hTO⟩,st1,st2⟩ := Z
 obtain ⟨nd,nz1,nz2,no1,no2,nx1,nx2⟩ := D
 simp only [List.nodup_cons,List.mem_cons,List.not_mem_nil,or_false,not_or,not_false_eq_true,List.nodup_nil,and_true] at nd
 obtain ⟨⟨zTI,zTO,zi1,zi2⟩,⟨TITO,TIi1,TIi2⟩,⟨TOi1,TOi2⟩,i12⟩ := nd
 show wpAny _ _ (field (.ref z) 2 >>= _) _ _ _
 refine wpAny_bind (wpAny_field hz rfl (x:=.bool false) rfl ?_)
 show wpAny _ _ (field (.ref z) 3 >>= _) _ _ _
 refine wpAny_bind (wpAny_field hz rfl (x:=.ref TI) rfl ?_)
 refine wpAny_bind (wpAny_seqItems hTI rfl ?_)
 show wpAny _ _ (Builtin.SmallTypes.ownedTupleIsFree (.ref z) >>= _) _ _ _
 refine wpAny_bind ?_
 unfold Builtin.SmallTypes.ownedTupleIsFree
 refine wpAny_bind (wpAny_field hz rfl (x:=.none) rfl (wpAny_pure ?_))
 simp only [if_true]
 refine wpAny_bind (wpAny_rule ?_)
 refine wpAny_bind (wpAny_field hz rfl (x:=.ref TO) rfl ?_)
 refine wpAny_bind (wpAny_setField_rec hz (by simp) fun h₁ hz₁ hs₁ => ?_)
 replace hz₁ : IsZip h₁ z TI TO .ellipsis:=hz₁
 refine wpAny_bind ?_
 simp only [List.zipIdx_cons,List.zipIdx_nil,List.forIn_cons,List.forIn_nil]
 refine wpAny_bind (wpAny_bind (wpAny_onRaise ?_))
 show wpAny _ _ (Builtin.SmallTypes.nextOf (.ref i1) >>= _) _ _ _
 have st1a : St₁ k h₁:=D₁.frame _ _ _ st1 fun c hc o e => hs₁.extBut _ _ (fun q => nz1 (q ▸ hc)) e
 rcases hk with rfl | ⟨h1,rfl⟩
 ·refine wpAny_bind (D₁.done _ _ _ st1a fun h₂ e hs₂ he => ?_)
  refine X11 he fun oe hoe hce => ?_
  have hz₂ : IsZip h₂ z TI TO .ellipsis:=hs₂ _ _ zi1 hz₁
  have hez : e ≠ z:=fun x => by subst x;rw [hz₂] at hoe;obtain rfl:=Option.some.inj hoe;simp at hce
  refine wpAny_setField_rec hz₂ (by simp) fun h₃ _ hs₃ => hE h₃ e _ (fun c o hc x => ?_) ⟨oe,hs₃.extBut _ _ hez hoe,hce⟩
  simp only [List.mem_cons,List.not_mem_nil,or_false,not_or] at hc
  exact hs₃.extBut _ _ hc.1 (hs₂ _ _ hc.2.2.1 (hs₁.extBut _ _ hc.1 x))
 ·refine wpAny_bind (D₁.item _ _ _ _ h1 st1a fun x h₂ k₂ px st1b hs₂ => wpAny_pure ?_)
  have hTO₂ : IsPair h₂ TO a b:=hs₂.extBut _ _ TOi1 (hs₁.extBut _ _ (Ne.symm zTO) hTO)
  refine wpAny_bind (wpAny_seqItems hTO₂ rfl ?_)
  refine wpAny_bind (wpAny_updateSeq_pair hTO₂ fun h₃ hTO₃ hs₃ => ?_)
  refine wpAny_bind (wpAny_letGo (wpAny_pure ?_))
  refine wpAny_bind (wpAny_bind (wpAny_onRaise ?_))
  show wpAny _ _ (Builtin.SmallTypes.nextOf (.ref i2) >>= _) _ _ _
  have st2a:=D₂.frame _ _ h₃ st2 fun c hc o e => hs₃.extBut _ _ (fun q => no2 (q ▸ hc)) (hs₂.extBut _ _ (fun q => nx2 (q ▸ hc)) (hs₁.extBut _ _ (fun q => nz2 (q ▸ hc)) e))
  refine wpAny_bind (D₂.done _ _ _ st2a fun h₄ e hs₄ he => ?_)
  refine X11 he fun oe hoe hce => ?_
  have hz₄ : IsZip h₄ z TI TO .ellipsis:=hs₄ _ _ zi2 (hs₃.extBut _ _ zTO (hs₂.extBut _ _ zi1 hz₁))
  have hez : e ≠ z:=fun x => by subst x;rw [hz₄] at hoe;obtain rfl:=Option.some.inj hoe;simp at hce
  refine wpAny_setField_rec hz₄ (by simp) fun h₅ _ hs₅ => hE h₅ e _ (fun c o hc x => ?_) ⟨oe,hs₅.extBut _ _ hez hoe,hce⟩
  simp only [List.mem_cons,List.not_mem_nil,or_false,not_or] at hc
  exact hs₅.extBut _ _ hc.1 (hs₄ _ _ hc.2.2.2 (hs₃.extBut _ _ hc.2.1 (hs₂.extBut _ _ hc.2.2.1 (hs₁.extBut _ _ hc.1 x))))
theorem zTurn {k : Nat} {elts : List Expr} {kk : Nat} {pos : Pos} (D : ZOk z TI TO i1 i2 f₁ f₂) (D₁ : Draws vw w A.in1 i1 f₁ n₁ P₁ St₁) (D₂ : Draws vw w A.in1 i2 f₂ n₂ P₂ St₂) (Z : ZAt z TI TO i1 i2 St₁ St₂ k s.heap) (h1 : k < n₁) (h2 : k < n₂) {Q : Value -> Shared -> Prop} {R : Option Value -> Shared -> Prop}
  (hR : ∀ v s₁,wpAny (model vw w) A (letOwnedTupleGo (.Tuple elts kk pos) (.ref z) v) (fun _ s₂ => Q v s₂) (fun z9 z9 => False) s₁ -> R (some v) s₁)
  (hQ : ∀ T h' x y tk,P₁ k x -> P₂ k y -> s.heap.get? T = none -> h'.get? T = some { cls:=.type "tuple",data:=.seq #[x,y] } -> ZAt z TI TO i1 i2 St₁ St₂ (k + 1) h' -> (∀ c o,c ∉ [z,TO,i1,i2] -> s.heap.get? c = some o -> h'.get? c = some o) -> Q (.ref T) { s with heap:=h',toks:=tk }) :
  wpAny (model vw w) A (pyNext (.ref z)) R E s:=by
 have hT : s.TypeIs (.ref z) "zip" := ⟨_,Z.zip,rfl⟩
 have hzlt : z < s.heap.objs.size:=Heap.lt_size Z.zip
 unfold pyNext
 refine wpAny_bind (wpAny_attempt (wpAny_callSpecial?_slot (name:=Str.ofString "__next__") hT PySem.F.slot_zip_next
  (wpAny_call_entry PySem.F.slot_zip_next hT PySem.F.entry_zip_next (zNext D D₁ D₂ Z h1 h2 fun h' x y tk px py a1 a2 a3 a4 a5 a6 hk => wpAny_pure (hR _ _ ?_)) (PySem.F.args_zip_next_1 _))))
 refine wpAny_letOwnedTupleGo_zip a1 fun h₂ hz₂ hs₂ => ?_
 obtain ⟨nd,nz1,nz2,no1,no2,nx1,nx2⟩ := D
 simp only [List.nodup_cons,List.mem_cons,List.not_mem_nil,or_false,not_or,not_false_eq_true,List.nodup_nil,and_true] at nd
 refine Y4 nd fun q1 q2 q3 i12 => Y4 q1 fun zTI zTO zi1 zi2 => Y3 q2 fun TITO TIi1 TIi2 => Y2 q3 fun TOi1 TOi2 => ?_
 refine hQ _ h₂ x y tk px py noneAt (hs₂.extBut _ _ (Nat.ne_of_gt hzlt) a6) ⟨hz₂,hs₂.extBut _ _ (Ne.symm zTI) a2,⟨_,_,hs₂.extBut _ _ (Ne.symm zTO) a3⟩,D₁.frame _ _ _ a4 fun c hc o e => hs₂.extBut _ _ (fun q => nz1 (q ▸ hc)) e,D₂.frame _ _ _ a5 fun c hc o e => hs₂.extBut _ _ (fun q => nz2 (q ▸ hc)) e⟩ fun c o hc e => hs₂.extBut _ _ (fun q => hc (q ▸ List.mem_cons_self)) (hk c o hc e)
theorem zDone {k : Nat} (D : ZOk z TI TO i1 i2 f₁ f₂) (D₁ : Draws vw w A.in1 i1 f₁ n₁ P₁ St₁) (D₂ : Draws vw w A.in1 i2 f₂ n₂ P₂ St₂) (Z : ZAt z TI TO i1 i2 St₁ St₂ k s.heap) (hk : k = n₁ \/ k < n₁ /\ k = n₂) {R : Option Value -> Shared -> Prop}
  (hR : ∀ h' tk,(∀ c o,c ∉ [z,TO,i1,i2] -> s.heap.get? c = some o -> h'.get? c = some o) -> R none { s with heap:=h',toks:=tk }) : wpAny (model vw w) A (pyNext (.ref z)) R E s:=by
 have hT : s.TypeIs (.ref z) "zip" := ⟨_,Z.zip,rfl⟩
 unfold pyNext
 refine wpAny_bind (wpAny_attempt (wpAny_callSpecial?_slot (name:=Str.ofString "__next__") hT PySem.F.slot_zip_next
  (wpAny_call_entry PySem.F.slot_zip_next hT PySem.F.entry_zip_next (zEnd D D₁ D₂ Z hk fun h' e tk hk he => ?_) (PySem.F.args_zip_next_1 _))))
 refine X11 he fun o ho hc => ?_
 refine wpAny_bind (wpAny_isInstance (T := "StopIteration") (b:=true) ⟨o,ho,hc⟩ isSubtype_stop ?_)
 exact wpAny_pure (hR _ _ hk)
noncomputable abbrev zpH (h : Heap) (l : Addr) (y : Str) (t : Tok) : Heap :=
 ((((h.push { cls:=.type "list_iterator",data:=.fields #[.ref l, .int 0 0] }).push { cls:=.type "str_ascii_iterator",data:=.fields #[.str y t, .int 0 0] }).push { cls:=.type "tuple",data:=.seq #[.ref h.objs.size, .ref (h.objs.size + 1)] }).push { cls:=.type "tuple",data:=.seq #[.none, .none] }).push { cls:=.type "zip",data:=.fields #[.none, .bool false, .bool false, .ref (h.objs.size + 2), .ref (h.objs.size + 3)] }
theorem meetsZip (l : Addr) (xs : Array Value) (y : Str) (t : Tok) (ha : y.cps.all (· < 128) = true) :
  Meets (Builtin.«zip.__new__» ⟨[.type "zip", .ref l, .str y t], []⟩) (fun _ R s => s.heap.IsList l xs /\ R (.ok (.ret (.ref (s.heap.objs.size + 4)))) { s with heap:=zpH s.heap l y t }) :=
 .of_wp fun prog w A R s h => by
  obtain ⟨hp,g,d,tk,os⟩ := s;refine Y2 h fun hl1 h => ?_
  have hsub:=sub_zip
  have hL1 : Heap.IsList (Shared.heap ⟨hp,g,d,tk,os⟩) l xs:=hl1
  repeat (first | with_reducible refine wpAny_pyIter_list hL1 ?_ | with_reducible refine wpAny_pyIter_ascii ha ?_ | k_extra "A")
  refine ⟨_,rfl, ?_⟩
  simp only [Heap.size_push] at h ⊢
  exact h
theorem callZip {l : Addr} {xs : Array Value} {y : Str} {t : Tok} (ha : y.cps.all (· < 128) = true) (hl : s.heap.IsList l xs) {Q : Value -> Shared -> Prop} (h : Q (.ref (s.heap.objs.size + 4)) { s with heap:=zpH s.heap l y t }) : wpAny (model vw w) A (call (.type "zip") [.ref l, .str y t]) Q E s:=by
 have e5 : (zpH s.heap l y t).get? (s.heap.objs.size + 4) = some { cls:=.type "zip",data:=.fields #[.none, .bool false, .bool false, .ref (s.heap.objs.size + 2), .ref (s.heap.objs.size + 3)] } := by
  have:=Heap.get?_push_size (h:=(((s.heap.push { cls:=.type "list_iterator",data:=.fields #[.ref l, .int 0 0] }).push { cls:=.type "str_ascii_iterator",data:=.fields #[.str y t, .int 0 0] }).push { cls:=.type "tuple",data:=.seq #[.ref s.heap.objs.size, .ref (s.heap.objs.size + 1)] }).push { cls:=.type "tuple",data:=.seq #[.none, .none] }) (o := { cls:=.type "zip",data:=.fields #[.none, .bool false, .bool false, .ref (s.heap.objs.size + 2), .ref (s.heap.objs.size + 3)] }) rfl
  simp only [Heap.size_push] at this
  exact this
 exact callType_new PySem.F.called_zip (by decide) (PySem.F.typeCall_zip_2 _ _) (PySem.F.newCall_zip_2 _ _) (fun obj => PySem.F.args_object_init_3 obj _ _) PySem.F.entry_zip_new (meetsZip l xs y t ha) ⟨hl,⟨_,e5,rfl⟩,h⟩
end
section
variable {w : World} {A : Around} {E : Value -> Shared -> Prop} {s : Shared} {z TI TO i1 i2 : Addr} {f₁ f₂ : List Addr} {n₁ n₂ : Nat} {P₁ P₂ : Nat -> Value -> Prop} {St₁ St₂ : Nat -> Heap -> Prop}
theorem zpAt {h : Heap} {l : Addr} {y : Str} {t : Tok} {xs : Array Value} (hl : h.IsList l xs) :
  ZAt (h.objs.size + 4) (h.objs.size + 2) (h.objs.size + 3) h.objs.size (h.objs.size + 1) (fun i g => g.IsListIter h.objs.size l i /\ g.IsList l xs) (fun i g => g.IsStrIter (h.objs.size + 1) "str_ascii_iterator" y t i) 0 (zpH h l y t) /\ Ext h (zpH h l y t) /\ (zpH h l y t).objs.size = h.objs.size + 5:=by
 have s1:=Heap.size_push h { cls:=.type "list_iterator",data:=.fields #[.ref l, .int 0 0] }
 have k1 : Ext h (h.push { cls:=.type "list_iterator",data:=.fields #[.ref l, .int 0 0] }):=fun b o e => Heap.get?_push_of_some _ e
 have n1:=Heap.get?_push_size (h:=h) (o := { cls:=.type "list_iterator",data:=.fields #[.ref l, .int 0 0] }) rfl
 unfold zpH
 generalize h.push { cls:=.type "list_iterator",data:=.fields #[.ref l, .int 0 0] } = h1 at s1 k1 n1 ⊢
 have s2:=Heap.size_push h1 { cls:=.type "str_ascii_iterator",data:=.fields #[.str y t, .int 0 0] }
 have k2 : Ext h1 (h1.push { cls:=.type "str_ascii_iterator",data:=.fields #[.str y t, .int 0 0] }):=fun b o e => Heap.get?_push_of_some _ e
 have n2:=Heap.get?_push_size (h:=h1) (o := { cls:=.type "str_ascii_iterator",data:=.fields #[.str y t, .int 0 0] }) rfl
 generalize h1.push { cls:=.type "str_ascii_iterator",data:=.fields #[.str y t, .int 0 0] } = h2 at s2 k2 n2 ⊢
 have s3:=Heap.size_push h2 { cls:=.type "tuple",data:=.seq #[.ref h.objs.size, .ref (h.objs.size + 1)] }
 have k3 : Ext h2 (h2.push { cls:=.type "tuple",data:=.seq #[.ref h.objs.size, .ref (h.objs.size + 1)] }):=fun b o e => Heap.get?_push_of_some _ e
 have n3:=Heap.get?_push_size (h:=h2) (o := { cls:=.type "tuple",data:=.seq #[.ref h.objs.size, .ref (h.objs.size + 1)] }) rfl
 generalize h2.push { cls:=.type "tuple",data:=.seq #[.ref h.objs.size, .ref (h.objs.size + 1)] } = h3 at s3 k3 n3 ⊢
 have s4:=Heap.size_push h3 { cls:=.type "tuple",data:=.seq #[.none, .none] }
 have k4 : Ext h3 (h3.push { cls:=.type "tuple",data:=.seq #[.none, .none] }):=fun b o e => Heap.get?_push_of_some _ e
 have n4:=Heap.get?_push_size (h:=h3) (o := { cls:=.type "tuple",data:=.seq #[.none, .none] }) rfl
 generalize h3.push { cls:=.type "tuple",data:=.seq #[.none, .none] } = h4 at s4 k4 n4 ⊢
 have s5:=Heap.size_push h4 { cls:=.type "zip",data:=.fields #[.none, .bool false, .bool false, .ref (h.objs.size + 2), .ref (h.objs.size + 3)] }
 have k5 : Ext h4 (h4.push { cls:=.type "zip",data:=.fields #[.none, .bool false, .bool false, .ref (h.objs.size + 2), .ref (h.objs.size + 3)] }):=fun b o e => Heap.get?_push_of_some _ e
 have n5:=Heap.get?_push_size (h:=h4) (o := { cls:=.type "zip",data:=.fields #[.none, .bool false, .bool false, .ref (h.objs.size + 2), .ref (h.objs.size + 3)] }) rfl
 generalize h4.push { cls:=.type "zip",data:=.fields #[.none, .bool false, .bool false, .ref (h.objs.size + 2), .ref (h.objs.size + 3)] } = h5 at s5 k5 n5 ⊢
 rw [s1] at s2 n2
 rw [s2] at s3 n3
 rw [s3] at s4 n4
 rw [s4] at s5 n5
 have ex : Ext h h5:=fun b o e => k5 _ _ (k4 _ _ (k3 _ _ (k2 _ _ (k1 _ _ e))))
 refine ⟨⟨n5,k5 _ _ (k4 _ _ n3),⟨_,_,k5 _ _ n4⟩,⟨⟨_,k5 _ _ (k4 _ _ (k3 _ _ (k2 _ _ n1))),rfl,rfl⟩, ?_⟩,⟨_,k5 _ _ (k4 _ _ (k3 _ _ n2)),rfl,rfl⟩⟩,ex,s5⟩
 refine X11 hl fun o e r => ?_
 exact ⟨o,ex _ _ e,r⟩
theorem zpOk (n l : Nat) (hl : l < n) : ZOk (n + 4) (n + 2) (n + 3) n (n + 1) [n,l] [n + 1]:=by
 have g : ∀ a b : Nat,a < b -> (b : Addr) ∉ ([a] : List Addr):=fun a b h z => Nat.ne_of_gt h (List.mem_singleton.mp z)
 have g2 : ∀ a b c : Nat,a < b -> c < b -> (b : Addr) ∉ ([a,c] : List Addr):=fun a b c h h2 z => by
  refine Or.elim (List.mem_cons.mp z) (fun z => ?_) fun z => ?_
  ·exact Nat.ne_of_gt h z
  ·exact Nat.ne_of_gt h2 (List.mem_singleton.mp z)
 refine ⟨?_,g2 _ _ _ (by lia) (by lia),g _ _ (by lia),g2 _ _ _ (by lia) (by lia),g _ _ (by lia),g2 _ _ _ (by lia) (by lia),fun z => Nat.ne_of_lt (Nat.lt_succ_self n) (List.mem_singleton.mp z)⟩
 have k : ∀ a b : Nat,a ≠ b -> (n + a : Nat) ≠ n + b:=fun a b h z => h (Nat.add_left_cancel z)
 have e : ([n + 4,n + 2,n + 3,n,n + 1] : List Addr) = [4,2,3,0,1].map (fun i : Nat => n + i):=rfl
 rw [e]
 exact List.Pairwise.map _ (fun a b h => k a b h) (by decide : [4,2,3,0,1].Nodup)
theorem ZAt.keep {St₁ St₂ : Nat -> Heap -> Prop} {k : Nat} {h h' : Heap} (Z : ZAt z TI TO i1 i2 St₁ St₂ k h) (k1 : ∀ b ∈ [z,TI,TO], ∀ o,h.get? b = some o -> h'.get? b = some o) (a1 : St₁ k h -> St₁ k h') (a2 : St₂ k h -> St₂ k h') : ZAt z TI TO i1 i2 St₁ St₂ k h' :=
 ⟨k1 _ (by simp) _ Z.zip,k1 _ (by simp) _ Z.its,let ⟨a,b,e⟩ := Z.own; ⟨a,b,k1 _ (by simp) _ e⟩,a1 Z.one,a2 Z.two⟩
end
section
variable {w : World} {C : Cx} {A : Around} {Γ Γ₀ Γ₁ : List (Option PV)} {led led' : Led} {s : Shared}
theorem EvC.compZ (Z : CxOk w C) (hh : A.handled = none) (nms : List Str) {zn an bn : Str} {zp zpos pa pb tp pos spos : Pos} {kk : Nat} {e1 e2 elt : Expr} {scope : Scope} {cl : List (Str × Addr)} {l : List PV} {y : Str} {Γ₀ : List (Option PV)} (hz : Pure w A C Γ led (.Name zn zp) (.val (.type "zip"))) (ha : Args w A C Γ led [e1,e2] [.lst l, .str y]) (hy : y.cps.all (· < 128) = true)
  (hclos : closureFor scope C.env = pure cl) (hcell : (scope.names.all fun y => y.2 != .cell) = true) (hkind : scope.kind = .function)
  (hnames : (scope.names.all fun y => y.2 != .local || scope.names.lookup y.1 == some .local) = true) (hf : ∀ x,foldedSetIterable (.Call (.Name zn zp) [e1,e2] [] zpos) C.env x = pure x) (nd : nms.Nodup) (dbg : (nms.all fun x => !(x == ("__debug__" : Str))) = true)
  (hcl : (∀ q ∈ cl,q ∈ C.env.cells /\ C.env.kindOf q.1 = some .cell)) (hc : Inn C scope cl Γ nms Γ₀) (F : Nat -> PV) (hn : l.length <= 1000) (hm : l.length <= y.cps.size)
  (turn : ∀ (g : Heap) (Cn D : Addr) (J : Led) (i : Nat) (ls : List PV),CxOk w (C.inner g scope cl Cn nms) -> i < l.length -> ∃ Γ₁,CTurn [] w A (C.inner g scope cl Cn nms) (.Tuple [.Name an pa, .Name bn pb] kk tp) elt [] Γ₀ Γ₁ ((D, .list ls) :: (J ++ led)) (.tup [l.getD i (.bool false), .str ⟨#[y.cps.getD i 0]⟩]) true (F i)) :
  EvC [] w A C Γ led (fun use => comprehension (.ListComp elt [⟨.Tuple [.Name an pa, .Name bn pb] kk tp, .Call (.Name zn zp) [e1,e2] [] zpos, [],0⟩] scope pos) scope C.env spos (newList []) false (eval (.Call (.Name zn zp) [e1,e2] [] zpos) C.env) use) fun ld q => ld = led /\ q = .lst ((List.range l.length).map F):=fun use s Q E a q => by
 have hcell' : ∀ y ∈ scope.names,y.2 ≠ .cell:=fun y hy => by simpa using List.all_eq_true.mp hcell y hy
 refine wpAny_comprehension_free (use:=use) rfl hf hclos hkind (fun y hy e => by
  have:=List.all_eq_true.mp hnames y hy
  rw [Bool.or_eq_true,beq_iff_eq] at this
  exact this.elim (fun h => by rw [e] at h;exact nB h) id) (wpAny_Call_NameR (hz s _ E a fun v h0 k0 r0 e0 a0 => by
   apply Rep.elV r0
   refine callWX Z (.inr (.inl ⟨_,rfl⟩)) ha a0 fun vs h k rs ex1 a1 => ?_
   apply Reps.elC rs;intro _ _ r1 rs
   apply Reps.elC rs;intro _ _ r2 rs
   apply Reps.elN rs
   apply Rep.elS r2;intro t
   apply Rep.elL r1;intro la xs ln el ml rl
   have hxl:=rl.length
   rw [Array.length_toList] at hxl
   have hIl : h.IsList la xs:=⟨_,el,rfl,_,rfl⟩
   have hlt : la < h.objs.size:=Heap.lt_size el
   refine callZip hy hIl ?_
   refine Y3 (zpAt (y:=y) (t:=t) hIl) fun zat ex sz => ?_
   have ok:=zpOk h.objs.size la hlt
   dsimp only at zat ex sz ok ⊢
   generalize zpH h la y t = h₂ at zat ex sz ⊢
   generalize hn0 : h.objs.size = n0 at zat sz ok hlt ⊢
   refine wpAny_pyIter_zip zat.zip ?_
   have a2 : AS C Γ led { s with heap:=h₂,toks:=k } := a1.ext Z ex
   have new : ∀ b,n0 <= b -> h.get? b = none:=fun b hb => Heap.get?_none_of_le (by rw [hn0];exact hb)
   have hJ : ∀ b ∈ [n0 + 4,n0 + 3,n0,n0 + 1],n0 <= b /\ b < n0 + 5:=fun b hb => by
    simp only [List.mem_cons,List.not_mem_nil,or_false] at hb
    rcases hb with rfl | rfl | rfl | rfl
    ·exact ⟨Nat.le_add_right _ _,Nat.lt_succ_self _⟩
    ·exact ⟨Nat.le_add_right _ _,Nat.add_lt_add_left (by decide) n0⟩
    ·exact ⟨Nat.le_refl _,Nat.lt_add_of_pos_right (by decide)⟩
    ·exact ⟨Nat.le_add_right _ _,Nat.add_lt_add_left (by decide) n0⟩
   have hJno : ∀ g,ZAt (n0 + 4) (n0 + 2) (n0 + 3) n0 (n0 + 1) (fun i g => g.IsListIter n0 la i /\ g.IsList la xs) (fun i g => g.IsStrIter (n0 + 1) "str_ascii_iterator" y t i) g = ZAt (n0 + 4) (n0 + 2) (n0 + 3) n0 (n0 + 1) (fun i g => g.IsListIter n0 la i /\ g.IsList la xs) (fun i g => g.IsStrIter (n0 + 1) "str_ascii_iterator" y t i) g:=fun z9 => rfl
   have hJo : ∀ {i : Nat} {h' : Heap},ZAt (n0 + 4) (n0 + 2) (n0 + 3) n0 (n0 + 1) (fun i g => g.IsListIter n0 la i /\ g.IsList la xs) (fun i g => g.IsStrIter (n0 + 1) "str_ascii_iterator" y t i) i h' -> ∀ b ∈ [n0 + 4,n0 + 3,n0,n0 + 1], ∃ o,h'.get? b = some o /\ ∀ v,o.data ≠ .cell v:=fun {i h'} zz b hb => by
    simp only [List.mem_cons,List.not_mem_nil,or_false] at hb
    rcases hb with rfl | rfl | rfl | rfl
    ·exact ⟨_,zz.zip,fun v e => nomatch e⟩
    ·refine X20 zz.own fun a b e => ?_;exact ⟨_,e,fun v e => nomatch e⟩
    ·refine X12 zz.one.1 fun o e _ d => ?_;exact ⟨o,e,fun v e => by rw [d] at e;exact Data.noConfusion e⟩
    ·refine X12 zz.two fun o e _ d => ?_;exact ⟨o,e,fun v e => by rw [d] at e;exact Data.noConfusion e⟩
   clear hJno
   have hJL : ∀ b ∈ [n0 + 4,n0 + 3,n0,n0 + 1],b ∉ led.M:=fun b hb hm => by
    refine X11 (List.mem_map.mp hm) fun q hq e => ?_
    refine XAEA (a1.lg q hq) fun _ o h3 _ => ?_
    rw [e,show h.get? b = none from new b (hJ b hb).1] at h3;exact nS h3
   refine Y2 (Z.hide a2 [n0 + 4,n0 + 3,n0,n0 + 1] (fun b hb => noneSub a1.kp (new b (hJ b hb).1))) fun ZI exI => ?_
   dsimp only at ZI exI
   refine wpAny_newObj_type (wpAny_newFunctionEnv hcell' (by intro y hy;simp at hy) (fun h₃ hns hsb => ?_) hkind)
   dsimp only at hns hsb ⊢
   generalize hg : hideAll h₂ ([n0 + 4,n0 + 3,n0,n0 + 1] ++ C.mut led) = g at ZI exI
   generalize hH2 : h₂.push { cls:=.type "list",dict:=none,data:=.seq ([] : List Value).toArray } = H2 at hns hsb ⊢
   have hC : H2.objs.size = h₂.objs.size + 1:=by rw [<- hH2,Heap.size_push]
   have below : ∀ b,b < h₂.objs.size -> b ≠ H2.objs.size /\ b ≠ h₂.objs.size:=fun b hb => ⟨by rw [hC];exact Nat.ne_of_lt (Nat.lt_succ_of_lt hb),Nat.ne_of_lt hb⟩
   have low : ∀ b o,h.get? b = some o -> b < n0:=fun b o e => hn0 ▸ Heap.lt_size e
   have old : Ext h₂ h₃:=fun b o e => hsb.extBut b o (below b (Heap.lt_size e)).1 (Heap.get?_push_of_some _ (hH2 ▸ Heap.get?_push_of_some _ e))
   have eD : h₃.get? h₂.objs.size = some (PySem.W.listOf #[] 0):=hsb.extBut _ _ (by rw [hC];exact Nat.ne_of_lt (Nat.lt_succ_self _)) (Heap.get?_push_of_some _ (hH2 ▸ Heap.get?_push_size _ rfl))
   have gle : Ext g h₂:=fun b o e => by rw [<- hg] at e;exact of_hideAll _ e
   have gJ : ∀ b ∈ [n0 + 4,n0 + 3,n0,n0 + 1],g.get? b = none:=fun b hb => by rw [<- hg];exact hideAll_none _ (List.mem_append_left _ hb)
   have above : ∀ b,h₂.objs.size <= b -> g.get? b = none:=fun b hb => by
    cases e : g.get? b with
    | none => rfl
    | some o => exact absurd (Heap.lt_size (gle _ _ e)) (Nat.not_lt.mpr hb)
   have gl : ∀ q ∈ led,g.get? q.1 = none:=fun q hq => by
    rw [<- hg];exact hideAll_none _ (List.mem_append_right _ (List.mem_cons_of_mem _ (List.mem_append_right _ (List.mem_map_of_mem hq))))
   have hDl : h₂.objs.size ∉ led.M:=fun hm => by
    refine X11 (List.mem_map.mp hm) fun q hq e => ?_
    refine XAEA (a2.lg q hq) fun _ o h3 _ => ?_
    rw [e] at h3
    exact absurd (Heap.lt_size h3) (Nat.lt_irrefl _)
   have ZC : CxOk w (C.inner g scope cl H2.objs.size nms) :=
    ⟨Z.x,hkind,nd,(fun x hx => by simpa using List.all_eq_true.mp dbg x hx),ZI.K,ZI.T,Z.g,Z.b,above _ (by rw [hC];exact Nat.le_succ _),ZI.m,fun x c h1 _ =>
     let ⟨z1,z2⟩ := ZI.cl x c (hcl _ h1).1 (hcl _ h1).2
     ⟨z1,fun y c' h3 => z2 y c' (hcl _ h3).1⟩⟩
   let Jl : Led := [(n0 + 4, .any),(n0 + 3, .any),(n0, .any),(n0 + 1, .any)]
   have hJm : ∀ b ∈ [n0 + 4,n0 + 3,n0,n0 + 1],(b,LO.any) ∈ Jl:=fun b hb => by
    simp only [List.mem_cons,List.not_mem_nil,or_false] at hb
    rcases hb with rfl | rfl | rfl | rfl <;> simp [Jl]
   have hJf : Jl.map (·.1) = [n0 + 4,n0 + 3,n0,n0 + 1]:=rfl
   have mm : ∀ b o,h.get? b = some o -> b ∉ C.M led -> b ∉ (C.inner g scope cl H2.objs.size nms).M ((h₂.objs.size, .list []) :: (Jl ++ led)):=fun b o e m z => by
    refine Or.elim (List.mem_append.mp z) (fun z => ?_) fun z => ?_
    ·exact m (List.mem_append_left _ z)
    ·refine Or.elim (List.mem_cons.mp z) (fun z => ?_) fun z => ?_
     ·exact (below b (Heap.lt_size (ex b o e))).2 z
     ·rw [List.map_append,List.mem_append,hJf] at z
      refine Or.elim z (fun z => ?_) fun z => ?_
      ·exact absurd (hJ b z).1 (Nat.not_le.mpr (low b o e))
      ·exact m (List.mem_append_right _ z)
   have aC : AS (C.inner g scope cl H2.objs.size nms) Γ₀ ((h₂.objs.size, .list []) :: (Jl ++ led)) { s with heap:=h₃,toks:=k + ([] : List (Str × Value)).length } := by
    refine ⟨⟨_,hns,fun i x pv h1 h2 => ?_⟩,fun b o e => old b o (gle b o e),fun q hq => ?_, ?_,fun x c h1 _ => ?_,fun q hq => ?_,Z.x _ _ _ a.x⟩
    ·refine byG fun G kG => ?_
     refine Y4 (hc.at H2.objs.size i x pv h1 h2) fun k1 k2 q1 q0 => X11 q0 fun j j1 j2 => X11 q1 fun c c1 c2 => ?_
     refine kG ?_;clear kG G
     refine X11 a1.fr fun m Fm hm => ?_
     refine X11 (hm j x pv j1 j2) fun v h3 h4 => ?_
     refine ⟨v, .inr ⟨.inl k1,c,c1, ?_⟩,h4.keep (Ext.sk (ex.trans old)) mm⟩
     refine Or.elim h3 (fun q1 => Y2 q1 fun h3 _ => ?_) fun q2 => XAEAEA q2 fun _ c' h5 o h6 h7 => ?_
     ·rw [k2] at h3;cases h3
     ·rw [c2] at h5;obtain rfl:=Option.some.inj h5
      exact ⟨o,old _ _ (ex _ _ h6),h7⟩
    ·rcases List.mem_cons.mp hq with rfl | hq
     ·exact ⟨above _ (Nat.le_refl _),_,eD, #[],0,rfl, .nil⟩
     ·refine Or.elim (List.mem_append.mp hq) (fun hq => ?_) fun hq => ?_
      ·have hb : q.1 ∈ [n0 + 4,n0 + 3,n0,n0 + 1]:=hJf ▸ List.mem_map_of_mem hq
       have e2 : q.2 = .any:=by
        simp only [Jl,List.mem_cons,List.not_mem_nil,or_false] at hq
        rcases hq with rfl | rfl | rfl | rfl <;> rfl
       refine X11 (hJo zat q.1 hb) fun o e d => ?_
       exact ⟨gJ _ hb,o,old _ _ e,by rw [e2];exact d⟩
      ·refine XAEA (a1.lg q hq) fun _ o h3 h4 => ?_
       exact ⟨gl q hq,o,old _ _ (ex _ _ h3),h4.keep (Ext.sk (ex.trans old)) mm⟩
    ·rw [List.map_cons,List.map_append,hJf]
     refine List.nodup_cons.mpr ⟨fun z => ?_,List.nodup_append.mpr ⟨?_,a1.nd,fun x hx y hy e => hJL x hx (e ▸ hy)⟩⟩
     ·refine Or.elim (List.mem_append.mp z) (fun z => ?_) fun z => ?_
      ·exact absurd (hJ _ z).2 (by rw [sz];exact Nat.lt_irrefl _)
      ·exact hDl z
     ·have:=ok.nd
      exact this.sublist (.cons₂ _ (.cons _ (List.Sublist.refl _)))
    ·refine X21 (a2.ce x c (hcl _ h1).1 (hcl _ h1).2) fun v o h3 h4 => ?_
     exact ⟨v,o,old _ _ h3,h4⟩
    ·show q.1 ≠ H2.objs.size
     rcases List.mem_cons.mp hq with rfl | hq
     ·rw [hC];exact Nat.ne_of_lt (Nat.lt_succ_self _)
     ·refine Or.elim (List.mem_append.mp hq) (fun hq => ?_) fun hq => ?_
      ·have hb : q.1 ∈ [n0 + 4,n0 + 3,n0,n0 + 1]:=hJf ▸ List.mem_map_of_mem hq
       exact (below _ (by rw [sz];exact (hJ _ hb).2)).1
      ·refine XAEA (a2.lg q hq) fun _ o h3 _ => ?_
       exact (below _ (Heap.lt_size h3)).1
   have skI : SK (C.M led) h g:=fun b o e q m' => by
    have m : b ∉ led.M:=fun z => m' (List.mem_append_right _ z)
    rw [<- hg]
    refine hid (ex b o e) fun hm => ?_
    refine Or.elim (List.mem_append.mp hm) (fun hm => ?_) fun hm => ?_
    ·exact absurd (hJ b hm).1 (Nat.not_le.mpr (low b o e))
    ·exact a2.seqOut Z (ex b o e) q m hm
   have hit : ∀ (i : Nat) x,xs[i]? = some x -> Rep g ((C.inner g scope cl H2.objs.size nms).M ((h₂.objs.size, .list []) :: (Jl ++ led))) (l.getD i (.bool false)) x:=fun i x hx => by
    have hi : i < l.length:=by rw [<- hxl];exact (Array.getElem?_eq_some_iff.mp hx).1
    refine X11 (rl.at (List.getElem?_eq_getElem hi)) fun v' hv' rv => ?_
    rw [Array.getElem?_toList,hx] at hv'
    obtain rfl:=Option.some.inj hv'
    rw [List.getD_eq_getElem?_getD,List.getElem?_eq_getElem hi]
    exact rv.keep skI mm
   have hzl : [n0 + 4,n0 + 2,n0 + 3].all (fun b => decide (b < h₂.objs.size)) = true:=by
    rw [sz];simp
   have zk : ∀ {i : Nat} {p p' : Heap},ZAt (n0 + 4) (n0 + 2) (n0 + 3) n0 (n0 + 1) (fun i g => g.IsListIter n0 la i /\ g.IsList la xs) (fun i g => g.IsStrIter (n0 + 1) "str_ascii_iterator" y t i) i p -> (∀ b o,b < h₂.objs.size -> p.get? b = some o -> p'.get? b = some o) ->
     ZAt (n0 + 4) (n0 + 2) (n0 + 3) n0 (n0 + 1) (fun i g => g.IsListIter n0 la i /\ g.IsList la xs) (fun i g => g.IsStrIter (n0 + 1) "str_ascii_iterator" y t i) i p' := fun {i p p'} zz kk => by
    refine zz.keep (fun b hb o e => kk b o (by simpa using List.all_eq_true.mp hzl b hb) e) (fun ⟨⟨o,e,r⟩,⟨o',e',r'⟩⟩ => ⟨⟨o,kk _ _ (by rw [sz];exact Nat.lt_add_of_pos_right (by decide)) e,r⟩,⟨o',kk _ _ (by rw [sz];exact Nat.lt_add_right 5 hlt) e',r'⟩⟩) (fun ⟨o,e,r⟩ => ⟨o,kk _ _ (by rw [sz];exact Nat.add_lt_add_left (by decide) n0) e,r⟩)
   have zat3:=zk (p' := h₃) zat fun b o _ e => old b o e
   have D₁:=Draws.list (prog:=vw) (w:=w) (A:=A.in1) hh n0 la (Nat.ne_of_lt hlt) xs
   have D₂:=Draws.strAscii (prog:=vw) (w:=w) (A:=A.in1) hh (n0 + 1) y t
   have loop : codeAny (model vw w) A (.compLoop (.ListComp elt [⟨.Tuple [.Name an pa, .Name bn pb] kk tp, .Call (.Name zn zp) [e1,e2] [] zpos, [],0⟩] scope pos) 0 (.ref (n0 + 4)) (.ref h₂.objs.size) (compEnvC scope cl H2.objs.size C.env)) (compPost (model vw w) A E use Q (.ref h₂.objs.size) H2.objs.size) { s with heap:=h₃,toks:=k + ([] : List (Str × Value)).length } := by
    refine codeAny_compLoop_testsT (fun kc s' => ∃ i h' k',s' = { s with heap:=h',toks:=k' } /\ AS (C.inner g scope cl H2.objs.size nms) Γ₀ ((h₂.objs.size, .list ((List.range i).map F)) :: (Jl ++ led)) s' /\ ZAt (n0 + 4) (n0 + 2) (n0 + 3) n0 (n0 + 1) (fun i g => g.IsListIter n0 la i /\ g.IsList la xs) (fun i g => g.IsStrIter (n0 + 1) "str_ascii_iterator" y t i) i h' /\ Ext h h' /\ i <= l.length /\ kc = l.length + 1 - i) ?_ (l.length + 1) ⟨0,_,_,rfl,aC,zat3,ex.trans old,Nat.zero_le _,rfl⟩
    intro kc s' hq0
    refine byG fun G kG => ?_
    obtain ⟨i,h',k',rfl,a',zz,ek,hi,rfl⟩ := hq0
    refine kG ?_;clear kG G
    by_cases hlt2 : i < l.length
    ·refine zTurn ok D₁ D₂ zz (by rw [hxl];exact hlt2) (Nat.lt_of_lt_of_le hlt2 hm) (fun v s₁ h => h) fun Tt h₁ x yv tk px py hTn eT zz1 kp1 => ?_
     refine byG fun G kG => ?_
     refine X21 py fun c u hcu q3 => ?_;subst q3
     refine kG ?_;clear kG G
     have a₁ : AS (C.inner g scope cl H2.objs.size nms) Γ₀ ((h₂.objs.size, .list ((List.range i).map F)) :: (Jl ++ led)) { s with heap:=h₁,toks:=tk } := a'.junk ZC (fun b hb => List.mem_cons_of_mem _ (List.mem_append_left _ (hJm b hb))) kp1 (hJo zz1)
     have e₁ : Ext h h₁:=fun b o e => kp1 b o (fun z => absurd (hJ b z).1 (Nat.not_le.mpr (low b o e))) (ek b o e)
     have hyc : y.cps.getD i 0 = c:=by rw [Array.getD_eq_getD_getElem?,hcu];rfl
     have rT : Rep h₁ ((C.inner g scope cl H2.objs.size nms).M ((h₂.objs.size, .list ((List.range i).map F)) :: (Jl ++ led))) (.tup [l.getD i (.bool false), .str ⟨#[y.cps.getD i 0]⟩]) (.ref Tt) :=
      .tup (n:=0) eT (fun z => by
       refine X10 (a'.alive ZC _ z) fun o e => ?_
       rw [show h'.get? Tt = none from hTn] at e;exact nS e) (.cons ((hit i x px).ext a₁.kp) (.cons (by rw [hyc];exact .str _ _) .nil))
     refine X10 (turn g H2.objs.size h₂.objs.size Jl i ((List.range i).map F) ZC hlt2) fun Γ₁ Tn => ?_
     refine Tn.asg _ _ _ _ a₁ rT fun h₄ k₄ b₄ a₄ => ?_
     have zz4:=zk (p' := h₄) zz1 fun b o hb e => b₄ b o (below b hb).1 e
     have e₄ : Ext h h₄:=fun b o e => b₄ b o (below b (Heap.lt_size (ex b o e))).1 (e₁ b o e)
     refine Tn.tests.run ZC a₄ fun h₅ k₅ x₅ a₅ => ?_
     rw [if_pos rfl]
     refine (Tn.elt rfl).toPure _ _ _ a₅ fun v h₆ k₆ r₆ x₆ a₆ => ?_
     have zz6:=zk (p' := h₆) zz4 fun b o _ e => x₆ b o (x₅ b o e)
     refine byG fun G kG => ?_
     refine X21 (a₆.rep List.mem_cons_self) fun vs' nn eD' rs' => ?_
     refine kG ?_;clear kG G
     refine append_at eD' (fun h₇ hs₇ ho => ?_) (by have:=rs'.length;rw [Array.length_toList,List.length_map,List.length_range] at this;rw [this,sizeLine_eq];lia)
     have a₇:=a₆.swap (k:=k₆) ZC (Swap.head (y:=.list ((List.range i).map F ++ [F i]))) hs₇ ⟨_,ho,_,_,rfl,by rw [Array.toList_push];exact rs'.snoc r₆⟩
     refine ⟨l.length + 1 - (i + 1),by lia,i + 1,h₇,k₆,rfl, ?_,zk zz6 fun b o hb e => (hs₇.2 b (below b hb).2).trans e,fun b o e => (hs₇.2 b (below b (Heap.lt_size (ex b o e))).2).trans (x₆ b o (x₅ b o (e₄ b o e))),hlt2,rfl⟩
     rw [List.range_succ,List.map_append]
     exact a₇.forget Tn.sub
    ·have hin : i = l.length:=by lia
     subst hin
     refine zDone ok D₁ D₂ zz (.inl hxl.symm) fun h₁ tk kp1 => ?_
     refine X11 (id a'.fr) fun m Fm _ => ?_
     refine byG fun G kG => ?_
     refine X21 (a'.rep List.mem_cons_self) fun vs' nn eD' rs' => ?_
     refine kG ?_;clear kG G
     have nJ : ∀ b,h₂.objs.size <= b -> b ∉ [n0 + 4,n0 + 3,n0,n0 + 1]:=fun b hb z => absurd (hJ b z).2 (by rw [<- sz];exact Nat.not_lt.mpr hb)
     have e5 : Ext h h₁:=fun b o e => kp1 b o (fun z => absurd (hJ b z).1 (Nat.not_le.mpr (low b o e))) (ek b o e)
     refine q { s with heap:=h₁,toks:=tk } _ H2.objs.size m led _ ⟨rfl,rfl⟩ ?_ (fun z => ?_) (Fm.at' (fun o e => kp1 _ o (nJ _ (by show h₂.objs.size <= H2.objs.size;rw [hC];exact Nat.le_succ _)) e)) (.ofExt ((e0.trans ex1).trans e5)) (a1.ext Z e5) (.lst (kp1 _ _ (nJ _ (Nat.le_refl _)) eD') (fun hm => ?_) (rs'.keep ?_ fun b o _ m z => m ?_))
     ·cases e : s.heap.get? H2.objs.size with
      | none => rfl
      | some o => exact absurd (Heap.lt_size (ex _ _ (ex1 _ _ (e0 _ _ e)))) (by rw [hC];exact Nat.not_lt.mpr (Nat.le_succ _))
     ·refine X10 (a2.alive Z _ (List.mem_append_right _ z)) fun o e => ?_
      exact absurd (Heap.lt_size e) (by rw [hC];exact Nat.not_lt.mpr (Nat.le_succ _))
     ·refine Or.elim (List.mem_append.mp hm) (fun hm => ?_) fun hm => ?_
      ·refine X10 (Z.m _ hm) fun o e => ?_
       exact absurd (Heap.lt_size (a2.kp _ _ e)) (Nat.lt_irrefl _)
      ·exact hDl hm
     ·intro b o e qq mm'
      exact kp1 b o (fun z => mm' (List.mem_append_right _ (List.mem_cons_of_mem _ (by rw [List.map_append,List.mem_append,hJf];exact .inl z)))) e
     ·rcases List.mem_append.mp z with z | z
      ·exact List.mem_append_left _ z
      ·exact List.mem_append_right _ (List.mem_cons_of_mem _ (by rw [List.map_append,List.mem_append];exact .inr z))
   exact codeAny_compStart_list loop (wpAny_pyIter_zip zat3.zip loop)))
end
section
mutual
inductive Dat : PV -> PyData -> Prop
 | none : Dat PV.none .none
 | bool (b : Bool) : Dat (.bool b) (.bool b)
 | int (n : Int) : Dat (.int n) (.int n)
 | str (x : Str) : Dat (.str x) (.str x)
 | lst {l : List PV} {ds : List PyData} : DatAll l ds -> Dat (.lst l) (.list ds)
 | tup {l : List PV} {ds : List PyData} : DatAll l ds -> Dat (.tup l) (.tuple ds)
inductive DatAll : List PV -> List PyData -> Prop
 | nil : DatAll [] []
 | cons {p : PV} {d : PyData} {l : List PV} {ds : List PyData} : Dat p d -> DatAll l ds -> DatAll (p :: l) (d :: ds)
end
theorem Rep.reads {h : Heap} {M : List Addr} {p : PV} {v : Value} {d : PyData} (r : Rep h M p v) (k : Dat p d) : ∃ as,Reads h v d as :=
 @Dat.rec (fun p d _ => ∀ v,Rep h M p v -> ∃ as,Reads h v d as) (fun l ds _ => ∀ vs,Reps h M l vs -> ∃ as,ReadsAll h vs ds as)
  (fun v r => by apply Rep.elV r;exact ⟨_, .none⟩) (fun b v r => by apply Rep.elB r;exact ⟨_, .bool _⟩) (fun n v r => by (apply Rep.elI r;intro z9);exact ⟨_, .int _ _⟩) (fun x v r => by (apply Rep.elS r;intro z9);exact ⟨_, .str _ _⟩)
  (fun _ ih v r => by apply Rep.elL r;intro _ _ _ e m rs;exact (ih _ rs).elim fun _ h2 => ⟨_, .list e rfl rfl h2⟩)
  (fun _ ih v r => by apply Rep.elT r;intro _ _ _ e m rs;exact (ih _ rs).elim fun _ h2 => ⟨_, .tuple e rfl rfl h2⟩)
  (fun v r => by apply Reps.elN r;exact ⟨_, .nil⟩)
  (fun _ _ i1 i2 v r => by apply Reps.elC r;intro _ _ r1 r;exact (i1 _ r1).elim fun _ h1 => (i2 _ r).elim fun _ h2 => ⟨_, .cons h1 h2⟩) p d k v r
section
variable {w : World} {A : Around} {a b : PV} {da db : PyData}
theorem oNotInD {l : List PV} {ds : List PyData} (ka : DatAll l ds) (kb : Dat b db) (ha : PyData.canLayAll0 ds = true) (hb : db.canLay0 = true) (hu : A.units + 1 + min (PyData.depthAll ds) db.depth < cLine) : Op2 w A (compareOp .NotIn) b (.lst l) (.bool (!ds.any fun y => PyData.eqv y db)):=fun M s Q E va vb _ ra rb q => by
 refine X10 (ra.reads kb) fun as h1 => ?_
 refine X10 (rb.reads (.lst ka)) fun bs h2 => ?_
 exact SeqAt.notIn_list_reads h2 h1 ha hb hu (q _ s.heap s.toks (.bool _) noExt)
theorem datBools : ∀ l : List Bool,DatAll (l.map .bool) (l.map .bool):=fun l => by
 induction l with
 | nil => exact .nil
 | cons b l ih => exact .cons (.bool b) ih
theorem layBools (l : List Bool) : PyData.canLayAll0 (l.map .bool) = true:=by
 induction l with
 | nil => simp [PyData.canLayAll0]
 | cons b l ih => simp [PyData.canLayAll0,PyData.canLay0,ih]
theorem anyBools (l : List Bool) : ((l.map PyData.bool).any fun y => PyData.eqv y (.bool false)) = l.any (! ·):=by
 induction l with
 | nil => rfl
 | cons b l ih =>
  rw [List.map_cons,List.any_cons,List.any_cons,ih]
  cases b <;> simp [PyData.eqv]
theorem oNotInF {l : List Bool} (hu : A.units + 1 < cLine) : Op2 w A (compareOp .NotIn) (.bool false) (.lst (l.map .bool)) (.bool (l.all id)):=by
 have:=oNotInD (w:=w) (A:=A) (datBools l) (.bool false) (layBools l) rfl (by rw [show PyData.depth (.bool false) = 0 from by simp [PyData.depth],Nat.min_zero];exact hu)
 rw [anyBools] at this
 rw [show (l.all id) = !(l.any (! ·)) by
  clear this hu
  induction l with
  | nil => rfl
  | cons b l ih => rw [List.all_cons,List.any_cons,ih];cases b <;> simp]
 exact this
end
end
noncomputable def Fit (pl : List Nat) (c : Nat) (b : Bool) : Prop:=1 <= pl.length /\ pl.length <= 100 /\ if pl.take 1 = [91] then 3 <= pl.length /\ ∃ f,inRun pl c f 1 false = some b else b = (pl.drop (pl.length - 1) == [c])
theorem range_getT {α : Type} (l : List α) (d : α) (n : Nat) (h : l.length = n) : (List.range n).map (fun i => l.getD i d) = l:=by
 subst h
 refine List.ext_getElem (by simp) fun i h1 h2 => ?_
 simp at h1 h2
 simp [h1]
section
variable {w : World} {C : Cx} {A : Around} {Γ : List (Option PV)} {led : Led}
theorem Pure.sliceInit (Z : CxOk w C) {e up : Expr} {p pos : Pos} {l : List PV} {q : PV} (h1 : Pure w A C Γ led e (.lst (l ++ [q]))) (h2 : Pure w A C Γ led up (.int (-1))) (hl : l.length <= 100) (ht : ∀ o r,letTemporaryGo e o r = pure ()) : Pure w A C Γ led (.Subscript e (.Slice none (some up) none p) pos) (.lst l) :=
 Pure.sliceL (i:=none) (j:=some (-1)) Z h1 True.intro h2 (by rw [List.length_append];show l.length + 1 <= 1000;lia) (fun vs hv => ⟨0,vs.size - 1,by
  rw [slicePick_plain]
  simp only [Option.elim]
  rw [show (-1 : Int) = -((1 : Nat) : Int) from rfl,clipAt_neg _ 1 (Nat.le_refl _)]
  simp,by
  rw [hv,List.length_append]
  show (List.drop 0 (l ++ [q])).take (l.length + 1 - 1) = l
  simp⟩) ht
theorem slice_last (l : List Nat) (h : 1 <= l.length) : Txt.slice (mkS l) (some (-1)) none = mkS (l.drop (l.length - 1)):=by
 rw [<- slice_drop l (l.length - 1) (Nat.sub_le _ _)]
 unfold Txt.slice
 rw [PySem.StrLaws.sliceIdx_neg_lo none (mkS l).length (by decide) (by rw [len_mkS];lia),len_mkS,show (-1 : Int) + (l.length : Int) = ((l.length - 1 : Nat) : Int) by lia]
end
section
variable {w : World}
theorem f_takes (pls : List (List Nat)) (word : List Nat) (fits : List Bool) (hl : pls.length <= 10) (hlw : pls.length <= word.length) (hw : word.length <= 100) (ha : (mkS word).cps.all (· < 128) = true) (hfl : fits.length = pls.length) (hp : ∀ i,i < pls.length -> Fit (pls.getD i []) (word.getD i 0) (fits.getD i false)) :
  FnG [] w 224 4 [.lst (pls.map (fun p => .str (mkS p)) ++ [PV.none]), .str (mkS word)] (.bool (fits.all id)):=by
 refine' FnM.enter [Str.ofString "parts",Str.ofString "word"] [Str.ofString "fits"] ?ho ?hcd ?hK ?ndT ?hb ?hloc ?hdb ?nd ?hnd ?hco ?hgen ?hk ?hlen ?run
 case ho | hcd => k_is
 case hK => exact noTabsK w
 case ndT => decide
 case hb =>
  intro s vs hv KX
  refine X20 (len2 hv) fun v0 v1 q2 => ?_;subst q2
  exact BindsTo.of_eq rfl
 case hloc | hdb | nd | hnd => decide +kernel
 case hco | hgen | hk | hlen => rfl
 intro C A L Z he hn hA hX
 obtain ⟨h₀,M₀,env,nms,X⟩ := C
 dsimp only [List.cons_append,List.nil_append] at he hn
 subst he hn
 dsimp only [List.map,List.replicate,List.cons_append,List.nil_append,List.length]
 have hA1 : Around.ok A 1:=⟨hA.1,Nat.lt_of_le_of_lt (Nat.add_le_add_left (by decide) _) hA.2.1,Nat.lt_of_le_of_lt (Nat.add_le_add_left (by decide) _) hA.2.2⟩
 have hlen : (pls.map fun p => PV.str (mkS p)).length = pls.length:=List.length_map _
 refine' Run.letC (T := []) Z (EvC.compZ Z hA.1 [Str.ofString "part",Str.ofString "sign"] ?za ?zb ha ?y1 ?y2 ?y3 ?y4 ?y5 ?y6 ?y7 ?y8 ?y9 (fun i : Nat => (fits.map PV.bool).getD i (.bool false)) ?yn ?ym ?yt) ?xn rfl rfl ?xu ?xx
 case xu => exact fun u => rfl
 case xn => k_extra "g"
 case xx =>
  intro led' pv e
  obtain ⟨rfl,rfl⟩ := e
  refine ⟨_,by k_extra "q", ?_⟩
  rw [range_getT (fits.map PV.bool) (.bool false) (pls.map fun p => PV.str (mkS p)).length (by rw [List.length_map,List.length_map,hfl])]
  refine Run.ret (pv:=.bool (fits.all id)) ?_ fun s v as r => EndsG.ret as noT r
  refine Pure.eqv (p:=.bool (true && fits.all id)) (Pure.andB ?_ fun z9 => ?_) (by rw [Bool.true_and])
  ·have hz : (-((pls.map fun p => PV.str (mkS p)) ++ [PV.none]).length : Int) <= -1:=by
    rw [List.length_append,hlen]
    show -(((pls.length + 1 : Nat)) : Int) <= -1
    lia
   have hz2 : ((pls.map fun p => PV.str (mkS p)) ++ [PV.none]).length <= 1000:=by
    rw [List.length_append,hlen]
    show pls.length + 1 <= 1000
    lia
   have hz3 : ((pls.map fun p => PV.str (mkS p)) ++ [PV.none])[((-1 : Int) + (((pls.map fun p => PV.str (mkS p)) ++ [PV.none]).length : Int)).toNat]? = some PV.none:=by
    rw [List.length_append,hlen,show ((-1 : Int) + ((pls.length + [PV.none].length : Nat) : Int)).toNat = pls.length by show ((-1 : Int) + ((pls.length + 1 : Nat) : Int)).toNat = _;lia,List.getElem?_append_right (by rw [hlen];exact Nat.le_refl _),hlen,Nat.sub_self]
    rfl
   refine Pure.cmp Z (Pure.itemLn (k := -1) Z (by k_extra "p") (by k_extra "p") (by decide) hz hz2 hz3 (fun z9 z9 => rfl)) (by k_extra "p") (oIsO (.inl rfl))
  ·refine Pure.cmp Z (by k_extra "p") (by k_extra "p") (oNotInF ?_)
   have:=hA.2.2
   lia
 case za => k_extra "n"
 case zb => exact .cons (Pure.sliceInit Z (by k_extra "p") (by k_extra "p") (by rw [hlen];lia) (by k_extra "u")) rfl (.cons (by k_extra "p") rfl .nil)
 case y1 | y2 | y3 | y4 => rfl
 case y5 => exact fun z9 => rfl
 case y6 | y7 => decide
 case y8 => k_extra "v"
 case y9 => k_extra "x"
 case yn => rw [hlen];lia
 case ym => rw [hlen];show pls.length <= (mkS word).length;rw [len_mkS];exact hlw
 case yt =>
  intro g Cn D J i ls Z hi
  rw [hlen] at hi
  have e1 : (pls.map fun p => PV.str (mkS p)).getD i (.bool false) = .str (mkS (pls.getD i [])):=by simp [hi]
  have e2 : (mkS word).cps.getD i 0 = word.getD i 0:=by simp [mkS]
  have e3 : (fits.map PV.bool).getD i (.bool false) = .bool (fits.getD i false):=by simp [hfl,hi]
  rw [e1,e2,e3]
  refine Y3 (hp i hi) fun l1 l2 hf => ?_
  generalize pls.getD i [] = pl at l1 l2 hf ⊢
  generalize word.getD i 0 = c at hf ⊢
  generalize fits.getD i false = b at hf ⊢
  refine CTurn.pair Z hA.1 .zero rfl .zero .zero (.succ .zero) rfl (.succ .zero) (.succ .zero) rfl rfl fun z9 => Pure.toT ?_
  refine' Pure.ite (b:=(pl.take 1 == [91])) Z ?zt (fun e => ?_) (fun e => ?_)
  ·refine Test.as (Test.cmp Z (Pure.sliceTo (k:=1) (l:=pl) 1 Z (by k_extra "p") (by k_extra "p") rfl l1 (by lia) (by k_extra "u")) (by k_extra "p") oEqS) ?_
   show (cs (mkS _) == cs (Str.ofString "[")) = _
   rw [cs_mkS,show cs (Str.ofString "[") = [91] by decide +kernel]
  ·have e : pl.take 1 = [91]:=by simpa using e
   rw [if_pos e] at hf
   refine Y2 hf fun l3 q8 => X10 q8 fun f hf => ?_
   exact Pure.call (r:=.bool b) (ps := [.str (mkS pl), .str ⟨#[c]⟩]) Z (by k_extra "n") (by k_extra "k") (by k_extra "o") (toFn (f_in pl c f b l3 l2 hf).fn hA1)
  ·have e : ¬ pl.take 1 = [91]:=by simpa using e
   rw [if_neg e] at hf
   refine Pure.eqv (p:=.bool (cs (mkS (pl.drop (pl.length - 1))) == [c])) (Pure.cmp Z (a:=.str (mkS (pl.drop (pl.length - 1)))) (b:=.str ⟨#[c]⟩) ?_ (by k_extra "p") oEqS) ?_
   ·refine Pure.sliceS (x:=mkS pl) (i:=some (-1)) (j:=none) Z (by k_extra "p") ?_ True.intro (by rw [len_mkS,sizeLine_eq];lia) ?_ ?_
    ·show Pure w A _ _ _ _ (.int (-1))
     exact Pure.neg (a:=1) Z (Pure.int Z)
    ·exact slice_last pl l1
    ·k_extra "u"
   ·rw [hf,cs_mkS]
end
section
variable {w : World} {C : Cx} {A : Around} {Γ Γ' Γ'' : List (Option PV)} {led led' : Led}
theorem Pure.b64at (Z : CxOk w C) {e i : Expr} {pos : Pos} {k : Int} (h1 : Pure w A C Γ led e (.bytes B64L.toArray)) (h2 : Pure w A C Γ led i (.int k)) (h0 : 0 <= k /\ k < 64)
  (hs : ∀ t u,subscripted i false (.bytes B64L.toArray t) (.int k u) = operate [.bytes B64L.toArray t, .int k u] (getItem (.bytes B64L.toArray t) (.int k u))) (ht : ∀ t r,letTemporaryGo e (.bytes B64L.toArray t) r = pure ()) : Pure w A C Γ led (.Subscript e i pos) (.int ((B64at k).toNat)):=fun s Q E a q =>
 Subscript_ (h1 s _ E a fun va ha ka ra ea aa => h2 _ _ E aa fun vb hb kb rb eb ab => by
  (apply Rep.elY ra;intro z9);(apply Rep.elI rb;intro z9)
  exact b64_at h0 (q _ _ _ (.int _ _) (ea.trans eb) (ab.tok Z)) (hs _ _) (ht _))
end
theorem words_B2 : True:=by
 k_with "p" => first | ((with_reducible apply Pure.b64at Z);(apply Pure.globalB Z;k_is;rfl;decide);k_extra "p";(first | exact r63 _ | exact r3 _ | exact r15 _);k_extra "u";k_extra "u") | fail
 k_with "c" => first | exact Nat.le_of_ble_eq_true rfl | decide | exact n0 | exact n65535 _ | exact n3 _ | exact n15 _ | lia | fail
 k_with "r" => first | exact toFn (f_buffer _) hA1 | exact toFn (f_truth _) hA1 | fail
 trivial
noncomputable def lcs (row : Array UInt8) : Nat -> Int
 | 0 => 0
 | i + 1 => Builtin.bitAnd (Builtin.bitOr (lcs row i * 2 ^ Int.toNat 8) ((row.getD i 0).toNat : Int)) 65535
noncomputable def lbs : Nat -> Int
 | 0 => 0 | 1 => 2 | 2 => 4 | _ => 0
noncomputable def qB (row : Array UInt8) (i : Nat) (k : Int) : Int:=((B64at (Builtin.bitAnd ((lcs row i).fdiv (2 ^ Int.toNat k)) 63)).toNat : Int)
noncomputable def outs (row : Array UInt8) : Nat -> List Int
 | 0 => [] | 1 => [qB row 1 2] | 2 => [qB row 1 2,qB row 2 4] | _ => [qB row 1 2,qB row 2 4,qB row 3 6,qB row 3 0]
noncomputable def encI (row : Array UInt8) : List Int:=match row.size with
 | 1 => [qB row 1 2,((B64at (Builtin.bitAnd (lcs row 1) 3 * 2 ^ Int.toNat 4)).toNat : Int),61,61]
 | 2 => [qB row 1 2,qB row 2 4,((B64at (Builtin.bitAnd (lcs row 2) 15 * 2 ^ Int.toNat 2)).toNat : Int),61]
 | _ => outs row 3
section
variable {w : World}
theorem encI_in (row : Array UInt8) : ∀ n ∈ encI row,0 <= n /\ n < 256:=by
 unfold encI
 split
 ·exact inR_lit (u8r _) (inR_lit (u8r _) (inR_lit (by decide) (inR_lit (by decide) inR_nil)))
 ·exact inR_lit (u8r _) (inR_lit (u8r _) (inR_lit (u8r _) (inR_lit (by decide) inR_nil)))
 ·exact inR_lit (u8r _) (inR_lit (u8r _) (inR_lit (u8r _) (inR_lit (u8r _) inR_nil)))
theorem encI_len (row : Array UInt8) : (encI row).length = 4:=by
 unfold encI
 split <;> rfl
theorem f_b2a (row : Array UInt8) (hr : row.size <= 3) (h1 : 1 <= row.size) : FnM (fun vs => ⟨[vs.getD 0 .none], [("newline",vs.getD 1 .none)]⟩) [] w 131 2 [.bytes row, .bool false] (.bytes (byteArr (encI row))):=by
 refine' FnM.enter [Str.ofString "data",Str.ofString "newline"] [Str.ofString "bin_data",Str.ofString "out",Str.ofString "leftbits",Str.ofString "leftchar",Str.ofString "b"] ?ho ?hcd ?hK ?ndT ?hb ?hloc ?hdb ?nd ?hnd ?hco ?hgen ?hk ?hlen ?run
 case ho | hcd => k_is
 case hK => exact noTabsK w
 case ndT => decide
 case hb =>
  intro s vs hv KX
  refine X20 (len2 hv) fun v0 v1 q2 => ?_;subst q2
  exact BindsTo.of_eq rfl
 case hloc | hdb | nd | hnd => decide +kernel
 case hco | hgen | hk | hlen => rfl
 intro C A L Z he hn hA hX
 obtain ⟨h₀,M₀,env,nms,X⟩ := C
 dsimp only [List.cons_append,List.nil_append] at he hn
 subst he hn
 dsimp only [List.map,List.replicate,List.cons_append,List.nil_append,List.length]
 have hA1 : Around.ok A 1:=hA
 (repeat k_extra "m")
 refine Run.for_ Z (Src.bytes hA.1 (by k_extra "p")) (fun i Γ led => ∃ lb bb,lb = lbs i /\ Γ = [some (.bytes row),some (.bool false),some (.bytes row),some (.val (.ref b)),some (.int lb),some (.int (lcs row i)),bb] /\ led = [(b, .list ((outs row i).map .int))]) ⟨_,_,rfl,rfl,rfl⟩ (fun z9 => rfl) ?_ ?_
 ·rintro i Γ₁ led₁ g hi ⟨lb,bb,rfl,rfl,rfl⟩ Z ex
  refine ⟨_,Asg.set Z (by k_extra "g") (by k_extra "s") (by k_extra "q"), ?_⟩
  have hc : i = 0 \/ i = 1 \/ i = 2:=by lia
  rcases hc with rfl | rfl | rfl
  ·rw [show lbs 0 = 0 from rfl,show outs row 0 = [] from rfl]
   dsimp only [List.map]
   (repeat k_extra "m")
   refine Run.finF ?_
   exact ⟨_,_,rfl,rfl,rfl⟩
  ·rw [show lbs 1 = 2 from rfl,show outs row 1 = [qB row 1 2] from rfl]
   dsimp only [List.map]
   (repeat k_extra "m")
   refine Run.finF ?_
   exact ⟨_,_,rfl,rfl,rfl⟩
  ·rw [show lbs 2 = 4 from rfl,show outs row 2 = [qB row 1 2,qB row 2 4] from rfl]
   dsimp only [List.map]
   (repeat k_extra "m")
   refine Run.finF ?_
   exact ⟨_,_,rfl,rfl,rfl⟩
 ·rintro Γ₁ led₁ ⟨lb,bb,rfl,rfl,rfl⟩
  have hc : row.size = 1 \/ row.size = 2 \/ row.size = 3:=by lia
  have hin:=encI_in row
  rcases hc with hc | hc | hc
  ·rw [show encI row = [qB row 1 2,((B64at (Builtin.bitAnd (lcs row 1) 3 * 2 ^ Int.toNat 4)).toNat : Int),61,61] by (unfold encI;rw [hc];first | done | rfl)] at hin ⊢
   rw [hc,show lbs 1 = 2 from rfl,show outs row 1 = [qB row 1 2] from rfl]
   dsimp only [List.map]
   (repeat k_extra "m")
   k_extra "y"
   refine Run.ret ?_ fun s v as r => EndsG.ret as (fun t h => nomatch h) r
   with_reducible apply Pure.call Z
   ·k_extra "n"
   ·k_extra "k"
   ·k_extra "o"
   ·exact gBytesL hA.1 hin (Nat.le_of_ble_eq_true rfl) rfl rfl
  ·rw [show encI row = [qB row 1 2,qB row 2 4,((B64at (Builtin.bitAnd (lcs row 2) 15 * 2 ^ Int.toNat 2)).toNat : Int),61] by (unfold encI;rw [hc];first | done | rfl)] at hin ⊢
   rw [hc,show lbs 2 = 4 from rfl,show outs row 2 = [qB row 1 2,qB row 2 4] from rfl]
   dsimp only [List.map]
   (repeat k_extra "m")
   k_extra "y"
   refine Run.ret ?_ fun s v as r => EndsG.ret as (fun t h => nomatch h) r
   with_reducible apply Pure.call Z
   ·k_extra "n"
   ·k_extra "k"
   ·k_extra "o"
   ·exact gBytesL hA.1 hin (Nat.le_of_ble_eq_true rfl) rfl rfl
  ·rw [show encI row = outs row 3 by (unfold encI;rw [hc];first | done | rfl)] at hin ⊢
   rw [hc,show lbs 3 = 0 from rfl]
   (repeat k_extra "m")
   k_extra "y"
   refine Run.ret ?_ fun s v as r => EndsG.ret as (fun t h => nomatch h) r
   with_reducible apply Pure.call Z
   ·k_extra "n"
   ·k_extra "k"
   ·k_extra "o"
   ·exact gBytesL hA.1 hin (Nat.le_of_ble_eq_true rfl) rfl rfl
end
theorem nsm {x : Nat} (h : x < 64) : ((x : Int)).natAbs < 2 ^ 64:=by rw [Int.natAbs_natCast];lia -abstractProof
noncomputable def lcA2 (n : Nat -> Nat) : Nat -> Int
 | 0 => 0 | 1 => (n 0 : Int) | 2 => Builtin.bitAnd (n 1 : Int) 15 | 3 => Builtin.bitAnd (n 2 : Int) 3 | _ => 0
noncomputable def ouA2 (n : Nat -> Nat) : Nat -> List Int
 | 0 => [] | 1 => []
 | 2 => [Builtin.bitOr ((n 0 : Int) * 2 ^ Int.toNat 2) ((n 1 : Int).fdiv (2 ^ Int.toNat 4))]
 | 3 => [Builtin.bitOr ((n 0 : Int) * 2 ^ Int.toNat 2) ((n 1 : Int).fdiv (2 ^ Int.toNat 4)),Builtin.bitOr (Builtin.bitAnd (n 1 : Int) 15 * 2 ^ Int.toNat 4) ((n 2 : Int).fdiv (2 ^ Int.toNat 2))]
 | _ => [Builtin.bitOr ((n 0 : Int) * 2 ^ Int.toNat 2) ((n 1 : Int).fdiv (2 ^ Int.toNat 4)),Builtin.bitOr (Builtin.bitAnd (n 1 : Int) 15 * 2 ^ Int.toNat 4) ((n 2 : Int).fdiv (2 ^ Int.toNat 2)),Builtin.bitOr (Builtin.bitAnd (n 2 : Int) 3 * 2 ^ Int.toNat 6) (n 3 : Int)]
noncomputable def qpA2 : Nat -> Int
 | 0 => 0 | 1 => 1 | 2 => 2 | 3 => 3 | _ => 0
theorem ouA2_in (n : Nat -> Nat) (k : Nat) (hn : ∀ i,i < k -> n i < 64) : ∀ x ∈ ouA2 n k,0 <= x /\ x < 256:=by
 match k,hn with
 | 0,_ => exact inR_nil
 | 1,_ => exact inR_nil
 | 2,hn => exact inR_lit (rbA (hn 0 (by decide)) (hn 1 (by decide))) inR_nil
 | 3,hn => exact inR_lit (rbA (hn 0 (by decide)) (hn 1 (by decide))) (inR_lit (rbB (hn 1 (by decide)) (hn 2 (by decide))) inR_nil)
 | k + 4,hn => exact inR_lit (rbA (hn 0 (by lia -abstractProof)) (hn 1 (by lia -abstractProof))) (inR_lit (rbB (hn 1 (by lia -abstractProof)) (hn 2 (by lia -abstractProof))) (inR_lit (rbC (hn 2 (by lia -abstractProof)) (hn 3 (by lia -abstractProof))) inR_nil))
theorem ouA2_len (n : Nat -> Nat) (k : Nat) : (ouA2 n k).length <= 1000:=by
 match k with
 | 0 | 1 | 2 | 3 | k + 4 => exact Nat.le_of_ble_eq_true rfl
theorem words_A2 : True:=by
 k_with "c" => first | with_reducible rfl | with_reducible assumption | exact Nat.le_of_ble_eq_true rfl | lia -abstractProof | decide | (intro _ _;with_unfolding_all rfl) | (intro _;with_unfolding_all rfl) | with_unfolding_all rfl | k_extra "r" | fail
 k_with "z" => first | exact decide_eq_true (by lia -abstractProof) | exact decide_eq_false (by lia -abstractProof) | with_reducible rfl | with_reducible assumption | decide +kernel | rfl | k_extra "r" | fail
 k_with "c" => first | exact Nat.le_of_ble_eq_true rfl | decide | exact n0 | exact n15 _ | exact n3 _ | exact nsm hn0 | lia -abstractProof | fail
 k_with "r" => first | exact toFn (f_ascii _) hA1 | exact toFn (f_truth _) hA1 | exact toFn (f_b64v _ hv) hA1 | assumption | fail
 trivial
section
variable {w : World}
theorem f_a2b (row : Array UInt8) (n : Nat -> Nat) (k : Nat) (hk : 2 <= k) (hk4 : k <= 4) (hb : row.size = 4) (hn : ∀ i,i < k -> n i < 64) (hs : ∀ i,i < k -> row.getD i 0 = sg (n i)) (hp : ∀ i,k <= i -> i < 4 -> row.getD i 0 = 61) :
  FnM (fun vs => ⟨[vs.getD 0 .none], [("strict_mode",vs.getD 1 .none)]⟩) [] w 123 2 [.bytes row, .bool false] (.bytes (byteArr (ouA2 n k))):=by
 refine' FnM.enter [Str.ofString "data",Str.ofString "strict_mode"] [Str.ofString "ascii_data",Str.ofString "out",Str.ofString "quad_pos",Str.ofString "leftchar",Str.ofString "pads",Str.ofString "i",Str.ofString "this_ch"] ?ho ?hcd ?hK ?ndT ?hb ?hloc ?hdb ?nd ?hnd ?hco ?hgen ?hk ?hlen ?run
 case ho | hcd => k_is
 case hK => exact noTabsK w
 case ndT => decide
 case hb =>
  intro s vs hv KX
  refine X20 (len2 hv) fun v0 v1 q2 => ?_;subst q2
  exact BindsTo.of_eq rfl
 case hloc | hdb | nd | hnd => decide +kernel
 case hco | hgen | hk | hlen => rfl
 intro C A L Z he hn hA hX
 obtain ⟨h₀,M₀,env,nms,X⟩ := C
 dsimp only [List.cons_append,List.nil_append] at he hn
 subst he hn
 dsimp only [List.map,List.replicate,List.cons_append,List.nil_append,List.length]
 have hA1 : Around.ok A 1:=hA
 (repeat k_extra "m")
 refine Run.for_ Z (Src.bytes hA.1 (by k_extra "p")) (fun i Γ led => ∃ qp pd c,qp = qpA2 (min i k) /\ pd = ((i - k : Nat) : Int) /\ Γ = [some (.bytes row),some (.bool false),some (.bytes row),some (.val (.ref b)),some (.int qp),some (.int (lcA2 n (min i k))),some (.int pd),some (.int (i : Int)),c] /\ led = [(b, .list ((ouA2 n (min i k)).map .int))]) ⟨_,_,_,rfl,rfl,by rw [Nat.zero_min,Nat.zero_sub];rfl,by rw [Nat.zero_min];rfl⟩ (fun z9 => rfl) ?_ ?_
 ·intro i Γ₁ led₁ g hi hq0 Z ex
  refine byG fun G kG => ?_
  obtain ⟨qp,pd,c,rfl,rfl,rfl,rfl⟩ := hq0
  refine kG ?_;clear kG G
  refine ⟨_,Asg.set Z (by k_extra "g") (by k_extra "s") (by k_extra "q"), ?_⟩
  by_cases hik : i < k
  ·have hn0:=hn 0 (by lia -abstractProof)
   rw [hs i hik,show min i k = i by lia -abstractProof,show i - k = 0 by lia -abstractProof]
   have hv:=hn i hik
   have hne : ((((sg (n i)).toNat : Int)) == 61) = false:=by simpa using sg_ne (n i) hv
   have hc : i = 0 \/ i = 1 \/ i = 2 \/ i = 3:=by lia -abstractProof
   rcases hc with rfl | rfl | rfl | rfl
   ·rw [show qpA2 0 = 0 from rfl,show ouA2 n 0 = [] from rfl,show lcA2 n 0 = 0 from rfl]
    dsimp only [List.map]
    (repeat k_extra "m")
    refine Run.finF ?_
    rw [show min (0 + 1) k = 1 by lia -abstractProof,show 0 + 1 - k = 0 by lia -abstractProof]
    exact ⟨_,_,_,rfl,rfl,rfl,rfl⟩
   ·rw [show qpA2 1 = 1 from rfl,show ouA2 n 1 = [] from rfl,show lcA2 n 1 = (n 0 : Int) from rfl]
    dsimp only [List.map]
    (repeat k_extra "m")
    refine Run.finF ?_
    rw [show min (1 + 1) k = 2 by lia -abstractProof,show 1 + 1 - k = 0 by lia -abstractProof]
    exact ⟨_,_,_,rfl,rfl,rfl,rfl⟩
   ·rw [show qpA2 2 = 2 from rfl,show ouA2 n 2 = [Builtin.bitOr ((n 0 : Int) * 2 ^ Int.toNat 2) ((n 1 : Int).fdiv (2 ^ Int.toNat 4))] from rfl,show lcA2 n 2 = Builtin.bitAnd (n 1 : Int) 15 from rfl]
    dsimp only [List.map]
    (repeat k_extra "m")
    refine Run.finF ?_
    rw [show min (2 + 1) k = 3 by lia -abstractProof,show 2 + 1 - k = 0 by lia -abstractProof]
    exact ⟨_,_,_,rfl,rfl,rfl,rfl⟩
   ·rw [show qpA2 3 = 3 from rfl,show ouA2 n 3 = [Builtin.bitOr ((n 0 : Int) * 2 ^ Int.toNat 2) ((n 1 : Int).fdiv (2 ^ Int.toNat 4)),Builtin.bitOr (Builtin.bitAnd (n 1 : Int) 15 * 2 ^ Int.toNat 4) ((n 2 : Int).fdiv (2 ^ Int.toNat 2))] from rfl,show lcA2 n 3 = Builtin.bitAnd (n 2 : Int) 3 from rfl]
    dsimp only [List.map]
    (repeat k_extra "m")
    refine Run.finF ?_
    rw [show min (3 + 1) k = 4 by lia -abstractProof,show 3 + 1 - k = 0 by lia -abstractProof]
    exact ⟨_,_,_,rfl,rfl,rfl,rfl⟩
  ·rw [hp i (by lia -abstractProof) (by lia -abstractProof),show (((61 : UInt8).toNat : Nat) : Int) = 61 from rfl]
   have hc : k = 2 /\ i = 2 \/ k = 2 /\ i = 3 \/ k = 3 /\ i = 3:=by lia -abstractProof
   rcases hc with ⟨rfl,rfl⟩ | ⟨rfl,rfl⟩ | ⟨rfl,rfl⟩
   ·rw [show min 2 2 = 2 from rfl,show qpA2 2 = 2 from rfl,show ((2 - 2 : Nat) : Int) = 0 from rfl]
    (repeat k_extra "m")
    refine Run.cont fun s as => ?_
    refine ⟨_,_, ?_,as⟩
    exact ⟨_,_,_,rfl,rfl,rfl,rfl⟩
   ·rw [show min 3 2 = 2 from rfl,show qpA2 2 = 2 from rfl,show ((3 - 2 : Nat) : Int) = 1 from rfl]
    (repeat k_extra "m")
    refine Run.cont fun s as => ?_
    refine ⟨_,_, ?_,as⟩
    exact ⟨_,_,_,rfl,rfl,rfl,rfl⟩
   ·rw [show min 3 3 = 3 from rfl,show qpA2 3 = 3 from rfl,show ((3 - 3 : Nat) : Int) = 0 from rfl]
    (repeat k_extra "m")
    refine Run.cont fun s as => ?_
    refine ⟨_,_, ?_,as⟩
    exact ⟨_,_,_,rfl,rfl,rfl,rfl⟩
 ·intro Γ₁ led₁ hq0
  refine byG fun G kG => ?_
  obtain ⟨qp,pd,c,rfl,rfl,rfl,rfl⟩ := hq0
  refine kG ?_;clear kG G
  rw [hb,show min 4 k = k by lia -abstractProof]
  have hin:=ouA2_in n k hn
  have hlen:=ouA2_len n k
  have hc : k = 2 \/ k = 3 \/ k = 4:=by lia -abstractProof
  rcases hc with rfl | rfl | rfl
  ·rw [show qpA2 2 = 2 from rfl,show ((4 - 2 : Nat) : Int) = 2 from rfl]
   (repeat k_extra "m")
   k_extra "y"
   refine Run.ret ?_ fun s v as r => EndsG.ret as (fun t h => nomatch h) r
   with_reducible apply Pure.call Z
   ·k_extra "n"
   ·k_extra "k"
   ·k_extra "o"
   ·exact gBytesL hA.1 hin hlen rfl rfl
  ·rw [show qpA2 3 = 3 from rfl,show ((4 - 3 : Nat) : Int) = 1 from rfl]
   (repeat k_extra "m")
   k_extra "y"
   refine Run.ret ?_ fun s v as r => EndsG.ret as (fun t h => nomatch h) r
   with_reducible apply Pure.call Z
   ·k_extra "n"
   ·k_extra "k"
   ·k_extra "o"
   ·exact gBytesL hA.1 hin hlen rfl rfl
  ·rw [show qpA2 4 = 0 from rfl,show ((4 - 4 : Nat) : Int) = 0 from rfl]
   (repeat k_extra "m")
   k_extra "y"
   refine Run.ret ?_ fun s v as r => EndsG.ret as (fun t h => nomatch h) r
   with_reducible apply Pure.call Z
   ·k_extra "n"
   ·k_extra "k"
   ·k_extra "o"
   ·exact gBytesL hA.1 hin hlen rfl rfl
end
section
open PySem.Builtin PySem.Builtin._codecs
theorem typeCall_str2 (a b : Value) : checkTypeCall "str" ⟨[a,b], []⟩ = pure ():=by kernel_rfl
theorem newCall_str2 (a b : Value) : checkBuiltinCall "str.__new__" ⟨[.type "str",a,b], []⟩ = pure ():=by kernel_rfl
theorem args_dec1 (a v : Value) : argsOk "bytes.decode" ⟨[a], [(Str.ofString "encoding",v)]⟩ := by unfold argsOk;kernel_rfl
theorem road_asc {id : String} {b : Array UInt8} : decodeRoad id b (Str.ofString "ascii") none [] = (runDecoder id asciiDecoder none true b 0 [] >>= fun r => mkStr ⟨r.1⟩):=by kernel_rfl
section
variable {b : Array UInt8} {c : UInt8} {cs : List UInt8} {t u : Tok} {x : PySem.Str} {n : Nat}
theorem meets_textA {t1 t2 : Tok} {d : PySem.Str} (hd : ∀ id,runDecoder id asciiDecoder none true b 0 [] = pure (x.cps,n)) :
  Meets («_codecs.decode.text» ⟨[.bytes b t, .str (Str.ofString "ascii") t1, .none, .str d t2], []⟩) (fun _ R s => x.length <= sizeLine /\ R (.ok (.ret (.str x s.toks))) { s with toks:=s.toks + 1 }):=by
 refine .of_wp fun prog w A R s hS => ?_
 refine Y2 hS fun hsz h => ?_
 show wpAny _ _ (Bytes.bytesLike _ (.bytes b t) >>= fun r => _) _ _ s
 refine wpAny_bind (wpAny_of_eq KBd.like_eq ?_)
 refine wpAny_bind (wpAny_of_eq KBd.held_eq ?_)
 show wpAny _ _ (decodeRoad _ b (Str.ofString "ascii") none [] >>= fun v => _) _ _ s
 rw [road_asc,hd]
 refine wpAny_bind (wpAny_bind (wpAny_pure ?_))
 exact wpAny_mkStr (wpAny_pure ⟨_,rfl,h⟩) hsz
theorem entry_decA : «bytes.decode» ⟨[.bytes (c :: cs).toArray t], [(Str.ofString "encoding", .str (Str.ofString "ascii") u)]⟩ = (mkStr (Str.ofString "utf-8") >>= fun z9 => mkStr (Str.ofString "ascii") >>= fun e => mkStr (Str.ofString "bytes.decode") >>= fun d =>
  call (.builtin "_codecs.decode.text") [.bytes (c :: cs).toArray t,e, .none,d] >>= fun v => ret v):=by kernel_rfl
theorem entry_str2 : «str.__new__» ⟨[.type "str", .bytes b t, .str (Str.ofString "ascii") u], []⟩ = (mkStr (Str.ofString "ascii") >>= fun e => rule "str.__new__.decode-bytes" >>= fun z9 => call (.builtin "bytes.decode") [.bytes b t] [(Str.ofString "encoding",e)] >>= fun v => ret v):=by kernel_rfl
end
section
variable {w : World} {A : Around}
theorem decodeA {prog : Program} {s : Shared} {E : Value -> Shared -> Prop} {c : UInt8} {cs : List UInt8} {t u : Tok} {x : PySem.Str} {n : Nat} {Q : Value -> Shared -> Prop} (hd : ∀ id,runDecoder id asciiDecoder none true (c :: cs).toArray 0 [] = pure (x.cps,n)) (hsz : x.length <= 1000) (h : ∀ t' k,Q (.str x t') { s with toks:=k }) :
  wpAny (model prog w) A (call (.builtin "bytes.decode") [.bytes (c :: cs).toArray t] [(Str.ofString "encoding", .str (Str.ofString "ascii") u)]) Q E s:=by
 refine wpAny_call_entry_kw FB.slot_bytes_decode (typeIs_bytes _ _ _) FB.entry_bytes_decode ?_ (args_dec1 _ _)
 rw [entry_decA]
 refine wpAny_bind (wpAny_mkStr ?_ (by decide))
 refine wpAny_bind (wpAny_mkStr ?_ (by decide))
 refine wpAny_bind (wpAny_mkStr ?_ (by decide))
 exact wpAny_bind (call_function_meets KBd.kind_text KBd.plain_text KBd.entry_text (KBd.args_text _ _ _ _) (meets_textA hd) ⟨by rw [sizeLine_eq];lia,wpAny_pure ⟨_,rfl,h _ _⟩⟩)
theorem gStrB {b : Array UInt8} {c : UInt8} {cs : List UInt8} {x : PySem.Str} {n : Nat} (hb : b = (c :: cs).toArray) (hd : ∀ id,runDecoder id asciiDecoder none true b 0 [] = pure (x.cps,n)) (hsz : x.length <= 1000) : Gv w A (.type "str") [] [.bytes b, .str (Str.ofString "ascii")] (.str x):=fun M s Q E vs hM KX TX ra q => by
 subst hb
 apply Reps.elC ra;intro _ _ r1 t
 apply Reps.elC t;intro _ _ r2 t
 apply Reps.elN t;(apply Rep.elY r1;intro z9);(apply Rep.elS r2;intro z9)
 refine callType_new PySem.F.called_str (by decide) (typeCall_str2 _ _) (newCall_str2 _ _) (fun obj => PySem.F.args_object_init_3 obj _ _) PySem.F.entry_str_new (S:=fun _ R s => ∀ t' k,R (.ok (.ret (.str x t'))) { s with toks:=k }) (.of_wp fun prog w A R s h => ?_) ?_
 ·rw [List.nil_append,entry_str2]
  refine wpAny_bind (wpAny_mkStr ?_ (by decide))
  refine wpAny_bind (wpAny_rule ?_)
  exact wpAny_bind (decodeA hd hsz fun t' k => wpAny_pure ⟨_,rfl,h t' k⟩)
 ·exact fun t' k => ⟨typeIs_str _ _ _,q _ s.heap k (.str _ t') noExt⟩
theorem mEnc {x : Str} : Mt w A (.str x) (Str.ofString "encode") (.builtin "str.encode"):=mStr fun s t pl Q E q => by with_reducible exact encode_getm q
theorem gEnc {x : Str} {b : Array UInt8} (he : ∀ t,encodeNarrow "str.encode" asciiCodec none (.str x t) x = pure b) (hz : b.size <= 1000) : Gm w A (.builtin "str.encode") (.str x) [.str (Str.ofString "ascii")] (.bytes b):=fun M s Q E v vs hM r ra q => by
 (apply Rep.elS r;intro z9)
 apply Reps.elC ra;intro _ _ r1 t
 apply Reps.elN t;(apply Rep.elS r1;intro z9)
 exact encode_call (he _) (by rw [sizeLine_eq];lia) fun t' k => q _ s.heap k (.bytes _ _) noExt
end
section
variable {w : World} {C : Cx} {A : Around} {Γ Γ' Γ'' Γ₃ : List (Option PV)} {led led' : Led} {s : Shared} {T : List Addr} {K : Flow -> Shared -> Prop} {rest : List Stmt}
theorem Pure.takeV (Z : CxOk w C) {e up : Expr} {p pos : Pos} {a : Addr} {vs : Array Value} {ns : List Int} {k : Int} (n : Nat) (h1 : Pure w A C Γ led e (.val (.ref a))) (hl : C.h₀.IsList a vs) (hi : IntsAre vs.toList ns) (h2 : Pure w A C Γ led up (.int k)) (hk : k = (n : Int)) (hz : ns.length <= 100) (ht : ∀ o r,letTemporaryGo e o r = pure ()) : Pure w A C Γ led (.Subscript e (.Slice none (some up) none p) pos) (.lst ((ns.take n).map .int)):=fun s Q E a0 q => by
 subst hk
 refine wpAny_Subscript_list_slice (h1 s _ E a0 fun va ha ka ra ea aa => wpAny_evalPart_none (h2 _ _ E aa fun vj hj kj rj ej aj => ?_)) ht
 apply Rep.elV ra
 apply Rep.elI rj;intro tj
 have hsz : vs.size = ns.length:=by have:=hi.length;simpa using this
 have hL : hj.IsList a vs:=let ⟨o,e,r⟩ := hl; ⟨o,aj.kp _ _ e,r⟩
 refine ⟨a,vs,none,some (n : Int),rfl,hL,by rw [hsz,sizeLine_eq];lia, .none, .int _ _, ?_⟩
 have e1 : (slicePick vs none (some (n : Int)) none).toList = vs.toList.take n:=by
  rw [slicePick_plain]
  simp only [Option.elim]
  have e : clipAt vs.size (n : Int) = min n vs.size:=by
   have:=PyProof.Rows.clipAt_min (n:=vs.size) (y:=(n : Int)) (by lia)
   split at this <;> lia
  rw [e]
  simp
 have e0 : Ext hj ((hj.push { cls:=.type "slice",data:=.fields #[.none, .int (n : Int) tj, .none] }).push { cls:=.type "list",data:=.seq (slicePick vs none (some (n : Int)) none) }):=fun b o e => Heap.get?_push_of_some _ (Heap.get?_push_of_some _ e)
 have r1 : Reps hj (C.M led) ((ns.take n).map .int) (slicePick vs none (some (n : Int)) none).toList:=by
  rw [e1,List.map_take]
  exact (Reps.ofInts hi).takeR n
 have:=lstNew (h:=hj.push { cls:=.type "slice",data:=.fields #[.none, .int (n : Int) tj, .none] }) (r1.keep (Ext.sk fun b o e => Heap.get?_push_of_some _ e) fun _ _ _ m => m) fun b hb => (aj.alive Z b hb).imp fun o e => Heap.get?_push_of_some _ e
 rw [Heap.size_push,show (slicePick vs none (some (n : Int)) none).toList.toArray = slicePick vs none (some (n : Int)) none by simp] at this
 exact q _ _ kj this ((ea.trans ej).trans e0) (aj.ext Z e0)
theorem Rep.tup3 {h : Heap} {M : List Addr} {a b c : PV} {v : Value} (r : Rep h M (.tup [a,b,c]) v) : ∃ (ad : Addr) (v₁ v₂ v₃ : Value) (n : Nat),v = .ref ad /\ h.get? ad = some { cls:=.type "tuple",data:=.seq #[v₁,v₂,v₃] n } /\ Rep h M a v₁ /\ Rep h M b v₂ /\ Rep h M c v₃:=by
 apply Rep.elT3 r;intro ad v₁ v₂ v₃ n e m r₁ r₂ r₃;exact ⟨_,_,_,_,_,rfl,e,r₁,r₂,r₃⟩
theorem Run.let3g (Z : CxOk w C) (hh : A.handled = none) {i j l : Nat} {x y z : Str} {k1 k2 : Nat} {p1 p2 p5 p3 p4 pos : Pos} {e f g : Expr} {p q o : PV} (he : Args w A C Γ led [e,f,g] [p,q,o]) (hx : Nth C.nms i x) (hy : Nth C.nms j y) (hz : Nth C.nms l z) (kx : StK C x) (ky : StK C y) (kz : StK C z) (ho : Put Γ l o Γ') (hq : Put Γ' j q Γ'') (hp : Put Γ'' i p Γ₃)
  (hs : swapsWithSole [.Tuple [.Name x p1, .Name y p2, .Name z p5] k1 p3] (.Tuple [e,f,g] k2 p4) pos.line C.env = pure false) (hw : swappedStores [.Tuple [.Name x p1, .Name y p2, .Name z p5] k1 p3] (.Tuple [e,f,g] k2 p4) C.env = pure (some [x,y,z]))
  (r : Run w A C Γ₃ led rest K) : Run w A C Γ led (.Assign [.Tuple [.Name x p1, .Name y p2, .Name z p5] k1 p3] (.Tuple [e,f,g] k2 p4) pos :: rest) K :=
 .st fun s a => Assign_Tuple_swapped (Pure.tuple Z he (Nat.le_of_ble_eq_true rfl) s _ _ a fun v h1 k1 r1 e1 a1 => by
  refine byG fun G kG => ?_
  refine X50 (Rep.tup3 r1) fun ad v₁ v₂ v₃ n q8 => Y5 q8 fun q5 e r₁ r₂ r₃ => ?_;subst q5
  refine kG ?_;clear kG G
  refine wpAny_unpackItems_tuple (items := #[v₁,v₂,v₃]) hh ⟨_,e,rfl,_,rfl⟩ fun h' ex => ?_
  have ex' : Ext h1 h' := fun b o q => ex b o (fun z => by rw [z] at q;exact absurd (Heap.lt_size q) (Nat.lt_irrefl _)) q
  have a2 : AS C Γ led { s with heap:=h',toks:=k1 } := a1.ext Z ex'
  refine wpAny_assignInOrder_more (wpAny_bindName (a2.set Z hz kz (r₃.ext ex') ho fun h3 k3 sk a3 => wpAny_assignInOrder_more (wpAny_bindName (a3.set Z hy ky ((r₂.ext ex').keep sk fun _ _ _ m => m) hq fun h4 k4 sk4 a4 => wpAny_assignInOrder_more (wpAny_bindName (a4.set Z hx kx (((r₁.ext ex').keep sk fun _ _ _ m => m).keep sk4 fun _ _ _ m => m) hp fun h5 k5 _ a5 => wpAny_assignInOrder_none (r _ a5)))))))) hs hw
end
end
open PySem.Builtin PySem.Builtin._codecs in
theorem mt_getmK {prog : Program} {w : World} {A : Around} {E : Value -> Shared -> Prop} {s : Shared} {K : Frag} {pl : Sem Bool} {Q : Value × List Value -> Shared -> Prop} (X : K.In s.heap)
  (e : findCls K (.type "bytes") (.type "type") (PySem.Str.ofString "maketrans") = some (.val (.builtin "bytes.maketrans")))
  (h : Q (.builtin "bytes.maketrans", []) { s with toks:=s.toks + 1 }) :
  wpAny (model prog w) A (getMethod (.type "bytes") (PySem.Str.ofString "maketrans") pl) Q E s:=by
 have hstub : opaqueClassAbove (.type "bytes") = pure none:=by unfold opaqueClassAbove;dsimp only;rw [show Manifest.isStub "bytes" = false by decide +kernel];rfl
 have ht : typeOf (.type "bytes") = pure (.type "type"):=by first | rfl | kernel_rfl
 have L0 : Looks (model prog w) s.heap (typeOf (.type "bytes")) (.type "type"):=Looks.of_pure ht
 have hg : findIn K (.type "type") "__getattribute__" = some (some (.builtin "type.__getattribute__")):=type_tga
 unfold getMethod specialOf
 refine wpAny_bind (wpAny_bind (L0.here ((looks_findIn X hg).here ?_)))
 dsimp only
 rw [if_pos canon_tga]
 refine wpAny_bind (wpAny_mono (Q:=fun v => Q (v, [])) (E:=E) ?_ (fun _ _ z => wpAny_pure z) fun _ _ z => z)
 have LO : Looks (model prog w) s.heap (opaqueClassAbove (.type "bytes")) none:=Looks.of_pure hstub
 refine cls_open X LO L0 hg (looks_hook X (r:=none) (by rfl)) (by show subIn K _ _ = _;rfl) e ?_
 exact wpAny_pure (handed_on (by decide +kernel) h)
section
variable {w : World} {C : Cx} {A : Around} {Γ : List (Option PV)} {led : Led} {K : Flow -> Shared -> Prop} {rest : List Stmt}
theorem Pure.bytes (Z : CxOk w C) {x : List UInt8} {k : Nat} {pos : Pos} : Pure w A C Γ led (.Constant (.bytes x) k pos) (.bytes x.toArray):=fun _ _ _ a h => Constant_bytes (h _ _ _ (.bytes _ _) noExt (a.tok Z))
theorem Pure.mtr (Z : CxOk w C) {x : Str} {p apos pos : Pos} {es : List Expr} {a b : Array UInt8} (ho : Pure w A C Γ led (.Name x p) (.val (.type "bytes"))) (ha : Args w A C Γ led es [.bytes a, .bytes b]) (hs : a.size = b.size)
  (he : ∃ pl : Sem Bool,eval (.Call (.Attribute (.Name x p) (Str.ofString "maketrans") apos) es [] pos) C.env = (do
   let ov <- eval (.Name x p) C.env
   standAt apos.atName
   let (f,first) <- holding [ov] (getMethod ov (Str.ofString "maketrans") pl)
   callWith pos f first (backTo pos (starEach es C.env)) (backToKw pos (keywordEach [] C.env)))) : Pure w A C Γ led (.Call (.Attribute (.Name x p) (Str.ofString "maketrans") apos) es [] pos) (.bytes (mtOut a b)):=fun s Q E a0 q => by
 obtain ⟨pl,he⟩ := he
 refine methodCall_KW (ho s _ E a0 fun v h1 k1 r1 e1 a1 => ?_) he
 apply Rep.elV r1
 with_reducible refine mt_getmK (K:=hd.heap_1 w.params) ?_ ?_ ?_
 ·exact fun b o e => a1.kp b o (Z.K b o e)
 ·k_is
 have pl:=ha.plain pos
 refine Calls.callWith_builtin pl ?_
 cases ha with
 | cons h2 hst t =>
  have:=(Args.cons h2 hst t).spliced Z pos { s with heap:=h1,toks:=k1 + 1 } (E:=E) (fun vs s' => wpAny (model vw w) A (PySem.call (.builtin "bytes.maketrans") ([] ++ vs)) Q E s') (a1.tok Z) fun vs h k r e a2 => by
   apply Reps.elC r;intro _ _ r1 r
   apply Reps.elC r;intro _ _ r2 r
   apply Reps.elN r;(apply Rep.elY r1;intro z9);(apply Rep.elY r2;intro z9)
   exact mt_call hs (by rw [mtOut_size,sizeLine_eq];decide) fun t' k' => q _ h k' (.bytes _ _) (e1.trans e) (a2.tok Z)
  rw [hst] at this ⊢
  exact Calls.evalArgs_plain this
theorem mTr {b : Array UInt8} : Mt w A (.bytes b) (Str.ofString "translate") (.builtin "bytes.translate"):=fun M s pl Q E v r q => by
 refine X10 (Rep.inY r) fun _ q1 => ?_;subst q1;with_reducible exact tr_getm q
theorem gTr {b tab : Array UInt8} (hs : tab.size = 256) (hb : b.size = 4) : Gm w A (.builtin "bytes.translate") (.bytes b) [.bytes tab] (.bytes (trOut b tab)):=fun M s Q E v vs hM r ra q => by
 (apply Rep.elY r;intro z9)
 apply Reps.elC ra;intro _ _ r1 t
 apply Reps.elN t;(apply Rep.elY r1;intro z9)
 exact tr_call hs (trOut_fit _ _ hb) fun t' k => q _ s.heap k (.bytes _ _) noExt
theorem gIsBS {b : Array UInt8} : Gv w A (.builtin "isinstance") [] [.bytes b, .val (.type "str")] (.bool false):=fun M s Q E vs hM KX TX ra q => by
 apply Reps.elC ra;intro _ _ r1 t
 apply Reps.elC t;intro _ _ r2 t
 apply Reps.elN t;(apply Rep.elY r1;intro z9);apply Rep.elV r2
 refine call_isinstance (S:=fun _ R s => R (.ok (.ret (.bool false))) { s with toks:=s.toks + 1 }) (fun _ _ _ _ s hs => isinstance_outer (by obtain ⟨h,g,d,t,os⟩ := s;exact isinstance_nested_false_bytes (by decide +kernel) F.isi_meta_str (by rw [isSubtype_type];kernel_rfl) hs) (by intro e;exact Value.noConfusion e)) (q _ s.heap _ (.bool _) noExt)
theorem gIsBT {b : Array UInt8} : Gv w A (.builtin "isinstance") [] [.bytes b, .val (.ref 67)] (.bool true):=fun M s Q E vs hM KX TX ra q => by
 apply Reps.elC ra;intro _ _ r1 t
 apply Reps.elC t;intro _ _ r2 t
 apply Reps.elN t;(apply Rep.elY r1;intro z9);apply Rep.elV r2
 refine call_isinstance (isinstance_tuple (Tx := "bytes") (cs := [.type "bytes", .type "bytearray"]) (vs := [true,false]) ⟨.of_true F.isi_meta_bytes F.sub_bytes_bytes,fun _ _ _ _ _ _ s hs => ?_,trivial⟩) ⟨rfl,KX _ _ (by k_is),fun tk => q _ s.heap tk (.bool _) noExt⟩
 obtain ⟨h,g,d,t,os⟩ := s
 exact isinstance_nested_false_bytes (by decide +kernel) (by kernel_rfl) (by rw [isSubtype_type];kernel_rfl) (hs.2 (t + 1))
theorem Run.tryRet {e : Expr} {pos pos' : Pos} {h0 : ExceptHandler} {hs : List ExceptHandler} {pv : PV} (h : Pure w A C Γ led e pv) (hK : ∀ s v,AS C Γ led s -> Rep s.heap (C.M led) pv v -> K (.ret v) s) : Run w A C Γ led (.Try [.Return (some e) pos] (h0 :: hs) [] [] pos' :: rest) K :=
 .st fun s a => wpAny_Try_except (wpAny_execs_cons (wpAny_Return_some (h s _ _ a fun v h' k rv ex a' => hK _ v a' rv)))
end
theorem FnM.dflt {w : World} {f : Addr} {need : Nat} {a b r : PV} {c : Bool} (F : FnM (fun vs => ⟨[vs.getD 0 .none,vs.getD 1 .none], []⟩) [] w f need [a,b, .bool c] r) : Fn w f need [a,b] r:=FnG.fn fun dp un gd fr s R vs M hdp hun KX TX hP hM ra hret => by
 apply Reps.elC ra;intro _ _ r1 t
 apply Reps.elC t;intro _ _ r2 t
 apply Reps.elN t
 exact F dp un gd fr s R [_,_, .bool c] M hdp hun KX TX hP hM (.cons r1 (.cons r2 (.cons (.bool _) .nil))) hret
noncomputable def encB (row alt : Array UInt8) : Array UInt8:=trOut (byteArr (encI row)) (mtOut #[43,47] alt)
section
variable {w : World}
open PySem.Builtin PySem.Builtin._codecs
theorem f_bfdS (x : Str) (b : Array UInt8) (he : ∀ t,encodeNarrow "str.encode" asciiCodec none (.str x t) x = pure b) (hz : b.size <= 1000) : Fn w 74 1 [.str x] (.bytes b):=FnG.fn (by
 refine' FnM.enter [Str.ofString "s"] [] ?ho ?hcd ?hK ?ndT ?hb ?hloc ?hdb ?nd ?hnd ?hco ?hgen ?hk ?hlen ?run
 case ho | hcd => k_is
 case hK => exact noTabsK w
 case ndT => decide
 case hb =>
  intro s vs hv KX
  refine X10 (len1 hv) fun v0 q1 => ?_;subst q1
  exact BindsTo.of_eq rfl
 case hloc | hdb | nd | hnd => decide +kernel
 case hco | hgen | hk | hlen => rfl
 intro C A L Z he hn hA hX
 obtain ⟨h₀,M₀,env,nms,X⟩ := C
 dsimp only [List.cons_append,List.nil_append] at he hn
 subst he hn
 dsimp only [List.map,List.replicate,List.cons_append,List.nil_append,List.length]
 with_reducible refine' Run.ifT (Test.of (Pure.call Z ?qaz ?qbz (.cons ?qcz ?qdz (.cons ?qez ?qfz .nil)) gIsSS) truthyB ?qgz) (Run.tryRet (Pure.meth Z ?qhz mEnc (.cons (Pure.str Z) ?qiz .nil) (gEnc he hz) ?qjz) ?qkz)
 case qaz => k_extra "n"
 case qbz => k_extra "k"
 case qcz => k_extra "p"
 case qdz => rfl
 case qez => k_extra "n"
 case qfz => rfl
 case qgz => exact fun z9 => rfl
 case qhz => k_extra "p"
 case qiz => rfl
 case qjz => exact ⟨_,rfl⟩
 case qkz => exact fun s v as r => EndsG.ret as noT r)
theorem f_bfdB (b : Array UInt8) : Fn w 74 1 [.bytes b] (.bytes b):=FnG.fn (by
 refine' FnM.enter [Str.ofString "s"] [] ?ho ?hcd ?hK ?ndT ?hb ?hloc ?hdb ?nd ?hnd ?hco ?hgen ?hk ?hlen ?run
 case ho | hcd => k_is
 case hK => exact noTabsK w
 case ndT => decide
 case hb =>
  intro s vs hv KX
  refine X10 (len1 hv) fun v0 q1 => ?_;subst q1
  exact BindsTo.of_eq rfl
 case hloc | hdb | nd | hnd => decide +kernel
 case hco | hgen | hk | hlen => rfl
 intro C A L Z he hn hA hX
 obtain ⟨h₀,M₀,env,nms,X⟩ := C
 dsimp only [List.cons_append,List.nil_append] at he hn
 subst he hn
 dsimp only [List.map,List.replicate,List.cons_append,List.nil_append,List.length]
 with_reducible refine' Run.ifF (Test.of (Pure.call Z ?qaz ?qbz (.cons ?qcz ?qdz (.cons ?qez ?qfz .nil)) gIsBS) truthyB ?qgz) (Run.done (Run.ifT (Test.of (Pure.call Z ?raz ?rbz (.cons ?rcz ?rdz (.cons ?rez ?rfz .nil)) gIsBT) truthyB ?rgz) (Run.ret ?qhz ?qkz)))
 case qaz => k_extra "n"
 case qbz => k_extra "k"
 case qcz => k_extra "p"
 case qdz => rfl
 case qez => k_extra "n"
 case qfz => rfl
 case qgz => exact fun z9 => rfl
 case raz => k_extra "n"
 case rbz => k_extra "k"
 case rcz => k_extra "p"
 case rdz => rfl
 case rez => k_extra "n"
 case rfz => rfl
 case rgz => exact fun z9 => rfl
 case qhz => k_extra "p"
 case qkz => exact fun s v as r => EndsG.ret as noT r)
theorem f_b64encode (row alt : Array UInt8) (hr : row.size <= 3) (h1 : 1 <= row.size) (ha : alt.size = 2) : Fn w 139 3 [.bytes row, .bytes alt] (.bytes (encB row alt)):=FnG.fn (by
 refine' FnM.enter [Str.ofString "s",Str.ofString "altchars"] [Str.ofString "encoded"] ?ho ?hcd ?hK ?ndT ?hb ?hloc ?hdb ?nd ?hnd ?hco ?hgen ?hk ?hlen ?run
 case ho | hcd => k_is
 case hK => exact noTabsK w
 case ndT => decide
 case hb =>
  intro s vs hv KX
  refine X20 (len2 hv) fun v0 v1 q2 => ?_;subst q2
  exact binds_K (by assumption) rfl (by k_is) rfl rfl rfl
 case hloc | hdb | nd | hnd => decide +kernel
 case hco | hgen | hk | hlen => rfl
 intro C A L Z he hn hA hX
 obtain ⟨h₀,M₀,env,nms,X⟩ := C
 dsimp only [List.cons_append,List.nil_append] at he hn
 subst he hn
 dsimp only [List.map,List.replicate,List.cons_append,List.nil_append,List.length]
 have hez : (byteArr (encI row)).size = 4:=by unfold byteArr;rw [List.size_toArray,List.length_map,encI_len]
 with_reducible refine' Run.letG (T := []) (pv:=.bytes (byteArr (encI row))) Z (Pure.toT (Pure.callKw Z ?qaz ?qbz ?qcz (f_b2a row hr h1) hA ?qdz ?qez ?qfz ?qgz)) ?qhz ?qiz ?qjz ?qkz (Run.ifT (Test.cmp Z ?qlz Pure.nil oIsNotBN) (Run.assert Z (Test.as (Test.cmp Z (Pure.call Z ?qmz ?qnz (.cons ?qoz ?qpz .nil) (gLenBy ?qqz)) (Pure.int Z) oEq) ?qrz) (Run.ret (Pure.meth Z ?qsz mTr (.cons (Pure.mtr Z ?qtz (.cons (Pure.bytes Z) ?quz (.cons ?qvz ?qwz .nil)) ?qxz ?qyz) ?qzz .nil) (gTr ?raz hez) ?rbz) ?rcz)))
 case qaz => k_extra "n"
 case qbz => k_extra "p"
 case qcz => exact Pure.bool
 case qdz => k_is
 case qez | qfz | qgz => rfl
 case qhz => k_extra "g"
 case qiz => k_extra "s"
 case qjz => k_extra "q"
 case qkz => rfl
 case qlz => k_extra "p"
 case qmz => k_extra "n"
 case qnz => k_extra "k"
 case qoz => k_extra "p"
 case qpz => rfl
 case qqz => lia
 case qrz => rw [ha];rfl
 case qsz => k_extra "p"
 case qtz => k_extra "n"
 case quz => rfl
 case qvz => k_extra "p"
 case qwz => rfl
 case qxz => rw [ha];rfl
 case qyz => exact ⟨_,rfl⟩
 case qzz => rfl
 case raz => exact mtOut_size _ _
 case rbz => exact ⟨_,rfl⟩
 case rcz => exact fun s v as r => EndsG.ret as noT r)
theorem f_b64decode (x : Str) (b alt : Array UInt8) (n : Nat -> Nat) (k : Nat) (he : ∀ t,encodeNarrow "str.encode" asciiCodec none (.str x t) x = pure b) (hb : b.size = 4) (ha : alt.size = 2)
  (hk : 2 <= k) (hk4 : k <= 4) (hn : ∀ i,i < k -> n i < 64) (hs : ∀ i,i < k -> (trOut b (mtOut alt #[43,47])).getD i 0 = sg (n i)) (hp : ∀ i,k <= i -> i < 4 -> (trOut b (mtOut alt #[43,47])).getD i 0 = 61) : Fn w 147 3 [.str x, .bytes alt] (.bytes (byteArr (ouA2 n k))):=FnM.dflt (c:=false) (by
 refine' FnM.enterR [Str.ofString "s",Str.ofString "altchars",Str.ofString "validate"] [] ?ho ?hcd ?hK ?ndT ?hb ?hloc ?hdb ?nd ?hnd ?hco ?hgen ?hk ?hlen ?run
 case ho | hcd => k_is
 case hK => exact noTabsK w
 case ndT => decide
 case hb =>
  intro s vs hv KX hR
  refine X30 (len3 hv) fun v0 v1 v2 q3 => ?_;subst q3
  (refine X20 hR fun _ _ hR => ?_;cases hR with | cons _ hR => cases hR with | cons _ hR => cases hR with | cons hR _ => apply Rep.elB hR;exact binds_K (by assumption) rfl (by k_is) rfl rfl rfl)
 case hloc | hdb | nd | hnd => decide +kernel
 case hco | hgen | hk | hlen => rfl
 intro C A L Z he hn hA hX
 obtain ⟨h₀,M₀,env,nms,X⟩ := C
 dsimp only [List.cons_append,List.nil_append] at he hn
 subst he hn
 dsimp only [List.map,List.replicate,List.cons_append,List.nil_append,List.length]
 have htz : (trOut b (mtOut alt #[43,47])).size = 4:=by rw [trOut_eq,Array.size_map,hb]
 have hA1 : Around.ok A 1:=okA hA (by decide)
 with_reducible refine' Run.letG (T := []) (pv:=.bytes b) Z (Pure.toT (Pure.call Z ?qaz ?qbz (.cons ?qcz ?qdz .nil) (toFn (f_bfdS x b he ?qez) hA1))) ?qfz ?qgz ?qhz ?qiz (Run.ifT (Test.cmp Z ?qjz Pure.nil oIsNotBN) (Run.letG (T := []) (pv:=.bytes alt) Z (Pure.toT (Pure.call Z ?qkz ?qlz (.cons ?qmz ?qnz .nil) (toFn (f_bfdB alt) hA1))) ?qoz ?qpz ?qqz ?qrz (Run.assert Z (Test.as (Test.cmp Z (Pure.call Z ?qsz ?qtz (.cons ?quz ?qvz .nil) (gLenBy ?qwz)) (Pure.int Z) oEq) ?qxz) (Run.letG (T := []) (pv:=.bytes (trOut b (mtOut alt #[43,47]))) Z (Pure.toT (Pure.meth Z ?qyz mTr (.cons (Pure.mtr Z ?qzz (.cons ?raz ?rbz (.cons (Pure.bytes Z) ?rcz .nil)) ?rdz ?rez) ?rfz .nil) (gTr ?rgz hb) ?rhz)) ?riz ?rjz ?rkz ?rlz (Run.done (Run.ret (Pure.callKw Z ?rmz ?rnz ?roz (f_a2b (trOut b (mtOut alt #[43,47])) n k hk hk4 htz hn hs hp) hA ?rpz ?rqz ?rrz ?rsz) ?rtz))))))
 case qaz => k_extra "n"
 case qbz => k_extra "k"
 case qcz => k_extra "p"
 case qdz => rfl
 case qez => lia
 case qfz => k_extra "g"
 case qgz => k_extra "s"
 case qhz => k_extra "q"
 case qiz => rfl
 case qjz => k_extra "p"
 case qkz => k_extra "n"
 case qlz => k_extra "k"
 case qmz => k_extra "p"
 case qnz => rfl
 case qoz => k_extra "g"
 case qpz => k_extra "s"
 case qqz => k_extra "q"
 case qrz => rfl
 case qsz => k_extra "n"
 case qtz => k_extra "k"
 case quz => k_extra "p"
 case qvz => rfl
 case qwz => lia
 case qxz => rw [ha];rfl
 case qyz => k_extra "p"
 case qzz => k_extra "n"
 case raz => k_extra "p"
 case rbz | rcz => rfl
 case rdz => rw [ha];rfl
 case rez => exact ⟨_,rfl⟩
 case rfz => rfl
 case rgz => exact mtOut_size _ _
 case rhz => exact ⟨_,rfl⟩
 case riz => k_extra "g"
 case rjz => k_extra "s"
 case rkz => k_extra "q"
 case rlz => rfl
 case rmz => k_extra "n"
 case rnz | roz => k_extra "p"
 case rpz => k_is
 case rqz | rrz | rsz => rfl
 case rtz => exact fun s v as r => EndsG.ret as noT r)
end
theorem layNew_led (t : SetTable) (es : Array (Int × Value)) (h : Int) (x : Value) : (layNew t es h x).2.1.led = t.led:=by
 unfold layNew
 split
 ·dsimp only
  unfold SetTable.orStandIn
  split
  ·rfl
  ·rfl
 ·rfl
theorem layNew_plain (t : SetTable) (es : Array (Int × Value)) (h : Int) (x : Value) (hp : t.plain = false) : (layNew t es h x).2.1.plain = false:=by
 unfold layNew
 split
 ·dsimp only
  unfold SetTable.orStandIn
  split
  ·exact hp
  ·rfl
 ·rfl
theorem relayAll_led (t : SetTable) (es : Array (Int × Value)) (k : Nat) (hp : t.plain = false) : (relayAll t es k).2.1.led = t.led /\ (relayAll t es k).2.1.plain = false:=by
 unfold relayAll
 split
 ·rename_i t' order e
  have h : t'.led = t.led /\ t'.plain = t.plain:=by
   unfold SetTable.relaid SetTable.laid at e
   rw [Option.bind_eq_bind,Option.bind_eq_some_iff] at e
   obtain ⟨ow,_,e⟩ := e
   cases e
   exact ⟨rfl,rfl⟩
  dsimp only
  split
  ·exact ⟨h.1,h.2.trans hp⟩
  ·exact ⟨rfl,rfl⟩
 ·exact ⟨rfl,rfl⟩
section
variable {w : World} {A : Around} {E : Value -> Shared -> Prop} {s : Shared}
theorem wpAny_choose {M : Model} {src : Source} {n : Nat} {Q : Nat -> Shared -> Prop} (hn : n ≠ 0) (h : ∀ d i,i < n -> Q i { s with drawn:=d }) : wpAny M A (choose src n) Q E s:=fun Γ p hΓ => ⟨hn,h _ _ (Nat.mod_lt _ (Nat.pos_of_ne_zero hn))⟩
theorem eraseIdx_perm {α : Type} {xs : List α} {i : Nat} (h : i < xs.length) : (xs[i] :: xs.eraseIdx i).Perm xs:=by
 rw [List.eraseIdx_eq_take_drop_succ]
 have e : xs = xs.take i ++ xs[i] :: xs.drop (i + 1):=by rw [List.getElem_cons_drop,List.take_append_drop]
 exact List.perm_middle.symm.trans (.of_eq e.symm)
theorem wpAny_drawOrder {M : Model} {α : Type} : ∀ (n : Nat) (xs : List α) (s : Shared) (Q : List α -> Shared -> Prop),xs.length = n -> (∀ d ys,ys.Perm xs -> Q ys { s with drawn:=d }) -> wpAny M A (drawOrder n xs) Q E s:=fun n => by
 induction n with
 | zero =>
  intro xs s Q e h
  have e : xs = []:=List.length_eq_zero_iff.mp e
  subst e
  exact wpAny_pure (h s.drawn [] (.refl _))
 | succ n ih =>
  intro xs s Q e h
  cases xs with
  | nil => cases e
  | cons x xs =>
   unfold drawOrder
   refine wpAny_bind (wpAny_choose (by simp) fun d i hi => ?_)
   rw [List.getElem?_eq_getElem hi]
   refine wpAny_bind (ih _ _ _ (by rw [List.length_eraseIdx_of_lt hi];simpa using e) fun d' ys hp => ?_)
   exact wpAny_pure (h d' _ ((hp.cons _).trans (eraseIdx_perm hi)))
noncomputable abbrev byText (w : World) : Bool:=(⟨vw,w.params⟩ : Setting).params.followText "set-order"
theorem wpAny_setsByText {Q : Bool -> Shared -> Prop} (h : Q (byText w) s) : wpAny (model vw w) A setsByText Q E s:=by
 unfold setsByText
 exact wpAny_bind (wpAny_askSetting (wpAny_pure h))
noncomputable abbrev kS (w : World) : PySem.KeyKind vw w Str:=PySem.strKind vw w
noncomputable def SetO (w : World) (o : Obj) (ns : List Str) : Prop :=
 ∃ es ep t,o.ExactSet /\ o.data = .set es ep t /\ ElemsOf (kS w) es.toList /\ (∀ k,k ∈ ns ↔ ∃ e ∈ es.toList,(kS w).is k e.2 = true) /\ es.size <= ns.length /\ ns.length < scanBound /\ t.fits es.size = true /\ t.led = !byText w /\ (t.plain = true -> es.size = 0) /\ (es.toList.map fun e => strOf e.2).Nodup
theorem store_at {h : Heap} {a : Addr} {o : Obj} {es : Array (Int × Value)} {ep : Nat} {t : SetTable} (ho : h.get? a = some o) (hd : o.data = .set es ep t) (es' : Array (Int × Value)) (t' : SetTable) :
  (h.update a (Obj.putSet es' t')).get? a = some { o with data:=.set es' (ep + 1) t' } := by
 have:=Heap.get?_update_self (Obj.putSet es' t') ho (by rw [putSet_of es' t' hd];rfl)
 rw [putSet_of es' t' hd] at this;exact this
theorem addTailS {g : Bool -> Sem Unit} (hg : ∀ (b : Bool) (s₁ : Shared) (Q' : Unit -> Shared -> Prop),Q' () s₁ -> wpAny (model vw w) A (g b) Q' E s₁) {a : Addr} {o : Obj} {es : Array (Int × Value)} {ep : Nat} {t : SetTable} (ho : s.heap.get? a = some o) (hex : o.ExactSet) (hd : o.data = .set es ep t)
  {es1 : Array (Int × Value)} {t2 : SetTable} {ns : List Str} (hel1 : ElemsOf (kS w) es1.toList) (hmem1 : ∀ k',k' ∈ ns ↔ ∃ e ∈ es1.toList,(kS w).is k' e.2 = true) (hle1 : es1.size <= ns.length) (hroom : ns.length < scanBound) (hnd : (es1.toList.map fun e => strOf e.2).Nodup) (q2 : t2.plain = false /\ t2.led = !byText w /\ t2.fits es1.size = true) {wasDummy : Bool} {R : Option Bool -> Shared -> Prop}
  (h : ∀ h' o',Heap.SameBut a s.heap h' -> h'.get? a = some o' -> SetO w o' ns -> R (some true) { s with heap:=h' }) :
  wpAny (model vw w) A (do
    storeSet a es1 t2
    if (!wasDummy && t2.tooFull) = true then do
      g (relayAll t2 es1 (SetTable.grown es1.size)).2.2
      storeSet a (relayAll t2 es1 (SetTable.grown es1.size)).1 (relayAll t2 es1 (SetTable.grown es1.size)).2.1
      pure (some true)
     else pure (some true)) R E s:=by
 have hb1 : es1.size < scanBound:=Nat.lt_of_le_of_lt hle1 hroom
 refine wpAny_bind (wpAny_storeSet_of ho hd ?_ (fits_of_scanBound hb1))
 have ho1:=store_at ho hd es1 t2
 have hsb1:=Heap.SameBut.update s.heap a (Obj.putSet es1 t2)
 split
 ·have hp:=relayAll_perm t2 es1 (SetTable.grown es1.size)
  have hfr:=relayAll_fits t2 es1 (SetTable.grown es1.size)
  have hlr:=relayAll_led t2 es1 (SetTable.grown es1.size) q2.1
  generalize hRl : relayAll t2 es1 (SetTable.grown es1.size) = Rl at hp hfr hlr ⊢
  obtain ⟨es2,t3,gave2⟩ := Rl
  dsimp only at hp hfr hlr ⊢
  have hsz : es2.size = es1.size:=by rw [<- Array.length_toList,hp.length_eq,Array.length_toList]
  refine wpAny_bind (hg _ _ _ ?_)
  refine wpAny_bind (wpAny_storeSet_of ho1 rfl ?_ (fits_of_scanBound (by rw [hsz];exact hb1)))
  exact wpAny_pure (h _ _ (hsb1.trans (Heap.SameBut.update _ a _)) (store_at ho1 rfl es2 t3) ⟨es2,_,t3,hex,rfl,hel1.perm hp,fun k' => (hmem1 k').trans ⟨fun ⟨e,he,q⟩ => ⟨e,hp.mem_iff.mpr he,q⟩,fun ⟨e,he,q⟩ => ⟨e,hp.mem_iff.mp he,q⟩⟩,by rw [hsz];exact hle1,hroom,by rw [hsz] at hfr ⊢;exact hfr,hlr.1.trans q2.2.1,(fun e => by rw [hlr.2] at e;exact nB e),(hp.map _).nodup_iff.mpr hnd⟩)
 ·exact wpAny_pure (h _ _ hsb1 ho1 ⟨es1,_,t2,hex,rfl,hel1,hmem1,hle1,hroom,q2.2.2,q2.2.1,(fun e => by rw [q2.1] at e;exact nB e),hnd⟩)
theorem setAddS {a : Addr} {o : Obj} {ns : List Str} {k : Str} {u : Tok} {Q : Bool -> Shared -> Prop} (ho : s.heap.get? a = some o) (hS : SetO w o ns) (hroom : ns.length + 1 < scanBound)
  (h : ∀ b h' o',Heap.SameBut a s.heap h' -> h'.get? a = some o' -> SetO w o' (k :: ns) -> Q b { s with heap:=h' }) :
  wpAny (model vw w) A (setAddHashed a (.str k u) ((kS w).hash k)) Q E s:=by
 refine X32 hS fun es ep t hex hd q8 => Y5 q8 fun hel hmem hle hb q8 => Y4 q8 fun hf hl hpl hnd => ?_
 have hkey : (kS w).is k (.str k u) = true:=by simp [PySem.strKind,Value.isStrOf]
 have hb0 : es.size < scanBound:=by omega
 unfold setAddHashed setAddHashedIn
 refine wpAny_holding (wpAny_bind (wpAny_setState_of ho hd hf ?_))
 dsimp only
 rw [byScan_of (knd:=kS w) rfl hb0 hel]
 simp only [↓reduceIte]
 unfold setAddByScan
 refine wpAny_bind ?_
 refine wpAny_bind (wpAny_rule ?_)
 refine wpAny_bind (wpAny_setScan_of (knd:=kS w) hkey ho hd hf hel ?_)
 cases hr : List.findIdx? (fun e => (kS w).is k e.2) es.toList with
 | some j =>
  dsimp only
  refine X11 (List.findIdx?_eq_some_iff_getElem.mp hr) fun hj hpj _ => ?_
  have hSk : k ∈ ns:=(hmem k).mpr ⟨es.toList[j],List.getElem_mem hj,hpj⟩
  refine wpAny_pure (wpAny_pure ?_)
  exact h _ s.heap o (Heap.SameBut.refl a s.heap) ho ⟨es,ep,t,hex,hd,hel,fun k' => by
   rw [<- hmem k',List.mem_cons]
   exact ⟨fun hk => hk.elim (fun e => e ▸ hSk) id, .inr⟩,Nat.le_succ_of_le hle,hroom,hf,hl,hpl,hnd⟩
 | none =>
  dsimp only
  have hgw : ∀ (b : Bool) {s₁ : Shared} {Q' : Unit -> Shared -> Prop},Q' () s₁ -> wpAny (model vw w) A (match b with | true => rule "set.scan.the-table-gave-way" | false => pure ()) Q' E s₁ :=
   fun b s₁ Q' hq => by cases b <;> first | exact wpAny_pure hq | exact wpAny_rule hq
  have hperm:=layNew_perm t es ((kS w).hash k) (.str k u)
  have hfits:=layNew_fits t es ((kS w).hash k) (.str k u)
  have hled:=layNew_led t es ((kS w).hash k) (.str k u)
  have hplain:=layNew_plain t es ((kS w).hash k) (.str k u)
  generalize hL : layNew t es ((kS w).hash k) (.str k u) = L at hperm hfits hled hplain ⊢
  obtain ⟨es1,t1,wasDummy,gave⟩ := L
  dsimp only at hperm hfits hled hplain ⊢
  rw [Array.toList_push] at hperm
  have hel1 : ElemsOf (kS w) es1.toList:=(hel.push hkey rfl).perm hperm
  have hmem1 : ∀ k',k' ∈ k :: ns ↔ ∃ e ∈ es1.toList,(kS w).is k' e.2 = true:=fun k' => by
   rw [List.mem_cons,hmem k']
   constructor
   ·rintro (rfl | ⟨e,he,hp⟩)
    ·exact ⟨((kS w).hash k', .str k' u),hperm.mem_iff.mpr (List.mem_append_right _ (List.mem_singleton.mpr rfl)),hkey⟩
    ·exact ⟨e,hperm.mem_iff.mpr (List.mem_append_left _ he),hp⟩
   ·rintro ⟨e,he,hp⟩
    refine Or.elim (List.mem_append.mp (hperm.mem_iff.mp he)) (fun he => ?_) fun he => ?_
    ·exact .inr ⟨e,he,hp⟩
    ·rw [List.mem_singleton] at he;subst he
     exact .inl ((kS w).inj _ k' k hp hkey)
  have hnd1 : (es1.toList.map fun e => strOf e.2).Nodup:=by
   refine (hperm.map _).nodup_iff.mpr ?_
   rw [List.map_append,List.map_singleton]
   refine List.nodup_append.mpr ⟨hnd,by simp,fun x hx y hy e => ?_⟩
   rw [List.mem_singleton] at hy
   refine X11 (List.mem_map.mp hx) fun q hq e2 => ?_
   have hyk : y = k:=hy
   refine Y2 (hel q hq) fun q1 _ => X11 q1 fun k' hk' _ => ?_
   refine X10 (Value.isStrOf_shape hk') fun u' e3 => ?_
   have e4 : k' = k:=by rw [e3] at e2;rw [<- hyk, <- e, <- e2];rfl
   have:=List.findIdx?_eq_none_iff.mp hr q hq
   rw [e4] at hk'
   rw [show (kS w).is k q.2 = true from hk'] at this;exact nB this.symm
  have hsz1 : es1.size = es.size + 1:=by rw [<- Array.length_toList,hperm.length_eq,List.length_append,Array.length_toList];rfl
  have hb1 : es1.size < scanBound:=by omega
  have hle1 : es1.size <= (k :: ns).length:=by rw [hsz1];exact Nat.succ_le_succ hle
  refine wpAny_bind (hgw _ ?_)
  have hg : ∀ (b : Bool) (s₁ : Shared) (Q' : Unit -> Shared -> Prop),Q' () s₁ -> wpAny (model vw w) A (match b with | true => rule "set.scan.the-table-gave-way" | false => pure ()) Q' E s₁:=fun b s₁ Q' hq => hgw b hq
  split
  ·refine wpAny_bind ?_
   rw [hashByValue_scannable 8 (x:=.str k u) rfl]
   refine wpAny_pure ?_
   simp only [plainKind,Bool.false_eq_true, ↓reduceIte]
   refine addTailS (t2 := { t1 with plain:=false }) ?_ ho hex hd hel1 hmem1 hle1 hroom hnd1 ⟨rfl,hled.trans hl,SetTable.fits_plain_off hfits⟩ ?_
   ·intro b s₁ Q' hq;cases b <;> first | exact wpAny_pure hq | exact wpAny_rule hq
   ·intro h' o' hsb e hS';dsimp only;exact wpAny_pure (h _ _ _ hsb e hS')
  ·rename_i hp
   refine wpAny_bind (wpAny_pure ?_)
   simp only [↓reduceIte]
   refine addTailS ?_ ho hex hd hel1 hmem1 hle1 hroom hnd1 ⟨by simpa using hp,hled.trans hl,hfits⟩ ?_
   ·intro b s₁ Q' hq;cases b <;> first | exact wpAny_pure hq | exact wpAny_rule hq
   ·intro h' o' hsb e hS';dsimp only;exact wpAny_pure (h _ _ _ hsb e hS')
noncomputable def met (val : Nat -> Str) (i : Nat) : List Str:=((List.range i).map val).reverse
theorem met_succ (val : Nat -> Str) (i : Nat) : met val (i + 1) = val i :: met val i:=by
 unfold met;rw [List.range_succ,List.map_append,List.reverse_append];rfl
theorem met_length (val : Nat -> Str) (i : Nat) : (met val i).length = i:=by unfold met;simp
section
variable {R : Result -> Shared -> Prop} {I : Addr} {fp wr : List Addr} {G : Array GenState -> Array GenState -> Prop} {n : Nat} {P : Nat -> Value -> Prop} {St : Nat -> Shared -> Prop}
theorem setLoopS (W : WalksS vw w A.in1 I fp wr G n P St) (S : Addr) (hSf : S ∉ fp) (val : Nat -> Str) (hval : ∀ i v,P i v -> ∃ t,v = .str (val i) t) (hb : n + 1 < scanBound) :
  ∀ (k i : Nat) (s : Shared),n - i = k -> i <= n -> St i s -> (∃ o,s.heap.get? S = some o /\ SetO w o (met val i)) ->
   (∀ s',Moved (S :: wr) G s s' -> (∃ o,s'.heap.get? S = some o /\ SetO w o (met val n)) -> R (.ok (.ret .none)) s') ->
   codeAny (model vw w) A (.builtin "set.update.loop" ⟨[.ref S, .ref I], []⟩) R s:=by
 have hSw : S ∉ wr:=fun h => hSf (W.sub _ h)
 have hsub : ∀ b ∈ wr,b ∈ S :: wr:=fun b hb => List.mem_cons_of_mem _ hb
 intro k
 induction k with
 | zero =>
  intro i s hk hi hst hS hR
  have hin : i = n:=by omega
  subst hin
  refine codeAny_builtin PyProof.Rows.F.entry_set_update_loop ?_
  rw [Around.under_plainId PyProof.Rows.F.plain_set_update_loop _]
  show wpAny _ A.in1 (pyNext (.ref I) >>= _) _ _ s
  refine wpAny_bind (W.done s _ _ hst fun s' hm => ?_)
  show wpAny _ A.in1 (ret Value.none) _ _ s'
  exact wpAny_pure (hR s' (hm.mono hsub) (by
   refine X11 hS fun o ho rest => ?_
   exact ⟨o,hm.heap S _ hSw ho,rest⟩))
 | succ k ih =>
  intro i s hk hi hst hS hR
  have hlt : i < n:=by omega
  refine codeAny_builtin PyProof.Rows.F.entry_set_update_loop ?_
  rw [Around.under_plainId PyProof.Rows.F.plain_set_update_loop _]
  show wpAny _ A.in1 (pyNext (.ref I) >>= _) _ _ s
  refine wpAny_bind (W.item i s _ _ hlt hst fun v s' hP hst' hm => ?_)
  refine X10 (hval i v hP) fun t q1 => ?_;subst q1
  refine X11 hS fun o ho hS => ?_
  have ho' := hm.heap S _ hSw ho
  show wpAny _ A.in1 (holding [Value.str (val i) t] (setAdd S (.str (val i) t)) >>= _) _ _ s'
  refine wpAny_bind (wpAny_holding ?_)
  unfold setAdd
  refine wpAny_holding ?_
  refine wpAny_bind ((kS w).pyHash (k:=val i) (by simp [PySem.strKind,Value.isStrOf]) ?_)
  refine setAddS (s := { s' with toks:=s'.toks + 1 }) ho' hS (by rw [met_length];omega) fun b h' o' hsb e' hS2 => ?_
  rw [<- met_succ] at hS2
  refine wpAny_pure ⟨plainId_quiet PyProof.Rows.F.plain_set_update_loop _,ih (i + 1) _ (by omega) hlt (W.frame _ s' _ _ hst' (Nat.le_succ _) fun b hb o e => ?_) ⟨o',e',hS2⟩ fun s'' hm'' hS'' => ?_⟩
  ·rw [hsb.2 b (fun h : b = S => hSf (by rw [<- h];exact hb))];exact e
  ·refine hR s'' (Moved.trans W.gtrans ((hm.mono hsub).then_heap (Nat.le_succ _) fun b o hb e => ?_) hm'') hS''
   rw [hsb.2 b (fun h : b = S => hb (by rw [h];exact List.mem_cons_self))];exact e
end
theorem setNewS (a : Value) {Q₁ : Value -> Shared -> Prop}
  (h : Q₁ (.ref s.heap.objs.size) { s with heap:=s.heap.push { cls:=.type "set",dict:=none,data:=.set #[] 0 (.fresh 0 0 (!byText w)) } }) :
  codeAny (model vw w) A (.call (.builtin "set.__new__") ⟨[.type "set",a], []⟩) (wants Q₁ E) s:=by
 refine codeAny_of_tree ?_
 show wpAny _ A.in1 (do checkBuiltinCall "set.__new__" ⟨[.type "set",a], []⟩;again (.builtin "set.__new__" ⟨[.type "set",a], []⟩)) _ _ s
 refine wpAny_bind (wpAny_of_eq (PySem.F.newCall_set_1 a) (wpAny_pure ⟨plainId_quiet PySem.F.plain_set_new _,codeAny_builtin PySem.F.entry_set_new ?_⟩))
 rw [Around.under_plainId PySem.F.plain_set_new _]
 unfold Builtin.«set.__new__» Builtin.Frozenset.newClass
 have hsub:=sub_set_self
 obtain ⟨hp,g,d,tk,os⟩ := s
 dsimp only
 repeat (k_extra "A")
 refine wpAny_askSetting (wpAny_pure ?_)
 dsimp only
 simp only [newObj]
 refine wpAny_bind (wpAny_alloc (wpAny_pure ?_))
 exact wpAny_pure h
theorem callSetS {l : Addr} {items : Array Value} {val : Nat -> Str} {Q : Value -> Shared -> Prop} (hh : A.handled = none) (hl : s.heap.IsList l items) (hi : ∀ (i : Nat) (v : Value),items[i]? = some v -> ∃ t,v = Value.str (val i) t) (hb : items.size + 1 < scanBound)
  (h : ∀ (h' : Heap) (tk : Nat) o,h'.get? s.heap.objs.size = some o -> SetO w o (met val items.size) -> (∀ b o,b < s.heap.objs.size -> s.heap.get? b = some o -> h'.get? b = some o) -> Q (.ref s.heap.objs.size) { s with heap:=h',toks:=tk }) :
  wpAny (model vw w) A (call (.type "set") [.ref l]) Q E s:=by
 refine X20 PySem.F.called_set.mro fun c tl hmro => ?_
 have hmade:=PySem.F.called_set.made
 have hsub:=PySem.F.called_set.sub
 refine wpAny_call (codeAny_of_tree ?_)
 show wpAny _ _ (callAny (.type "set") _) _ _ _
 refine wpAny_pure ⟨Code.quiet_builtin _ (by decide +kernel),codeAny_builtin PySem.F.entry_type_call ?_⟩
 rw [Around.under_plain (weight_type_call_type "set" [.ref l] []) rfl]
 have h1:=PySem.F.called_set.notType
 have h2:=PySem.F.called_set.canCreate
 have hct:=PySem.F.typeCall_set_1 (.ref l)
 repeat (any_goals (k_extra "A"))
 refine codeAny_mono (setNewS (.ref l) (E:=E) (Q₁:=fun obj s₁ => obj = .ref s.heap.objs.size /\ s₁ = { s with heap:=s.heap.push { cls:=.type "set",dict:=none,data:=.set #[] 0 (.fresh 0 0 (!byText w)) } }) ⟨rfl,rfl⟩) fun r s₁ hr => ?_
 cases r with
 | error e => exact hr
 | ok fl =>
  cases fl with
  | ret obj =>
   obtain ⟨rfl,rfl⟩ := hr
   generalize hLed : (!byText w) = led at *
   have hS : (s.heap.push { cls:=.type "set",dict:=none,data:=.set #[] 0 (.fresh 0 0 led) }).get? s.heap.objs.size = some { cls:=.type "set",dict:=none,data:=.set #[] 0 (.fresh 0 0 led) } := Heap.get?_push_size _ rfl
   have hT : Shared.TypeIs { s with heap:=s.heap.push { cls:=.type "set",dict:=none,data:=.set #[] 0 (.fresh 0 0 led) } } (.ref s.heap.objs.size) "set" := ⟨_,hS,rfl⟩
   have hli:=PySem.F.called_set.init.lookup
   have hbi:=PySem.F.called_set.init.bind (.ref s.heap.objs.size)
   repeat (any_goals (k_extra "A"))
   refine codeAny_mono (codeAny_call_builtin (R:=wants (fun r s₂ => r = .none /\ ∃ h' tk o,s₂ = { s with heap:=h',toks:=tk } /\ h'.get? s.heap.objs.size = some o /\ SetO w o (met val items.size) /\
     (∀ b o,b < s.heap.objs.size -> s.heap.get? b = some o -> h'.get? b = some o)) E) PySem.F.called_set.init.plain PySem.F.entry_set_init (check_set_init_1 hT ?_)) fun r₂ s₂ hr₂ => ?_
   ·refine X12 hl fun ol hol hcl q8 => X10 q8 fun nl hdl => ?_
    obtain ⟨ocls,odict,odata,oslots⟩ := ol
    simp only at hcl hdl
    subst hcl;subst hdl
    have hol' : (s.heap.push { cls:=.type "set",dict:=none,data:=.set #[] 0 (.fresh 0 0 led) }).get? l = some { cls:=.type "list",dict:=odict,data:=.seq items nl,slots:=oslots } := Heap.get?_push_of_some _ hol
    have hsls:=PySem.F.sub_list_set
    have hslf:=PySem.F.sub_list_frozenset
    have hne : (Value.type "list" == Value.type "dict") = false:=by decide
    have hl1 : (s.heap.push { cls:=.type "set",dict:=none,data:=.set #[] 0 (.fresh 0 0 led) }).IsList l items:=⟨_,hol',rfl,nl,rfl⟩
    unfold Builtin.«set.__init__» noKeywords Builtin.Frozenset.updateFrom
    generalize hPI : pyIter = PI
    repeat (k_extra "A")
    subst hPI
    refine wpAny_pyIter_list hl1 ?_
    refine wpAny_bind (wpAny_runValue ?_)
    have hlS : l < s.heap.objs.size:=Heap.lt_size hol
    have hh3 : A.in1.in1.in1.handled = none:=by simp [hh]
    have hneI : l ≠ (s.heap.push { cls:=.type "set",dict:=none,data:=.set #[] 0 (.fresh 0 0 led) }).objs.size:=by
     rw [Heap.size_push];exact Nat.ne_of_lt (Nat.lt_succ_of_lt hlS)
    have hSf : s.heap.objs.size ∉ [(s.heap.push { cls:=.type "set",dict:=none,data:=.set #[] 0 (.fresh 0 0 led) }).objs.size,l]:=by
     rw [Heap.size_push];simp only [List.mem_cons,List.mem_singleton,List.not_mem_nil,or_false,not_or]
     exact ⟨Nat.ne_of_lt (Nat.lt_succ_self _),Nat.ne_of_gt hlS⟩
    refine setLoopS ((Walks.list hh3 _ l hneI items).toS) s.heap.objs.size
     hSf val hi hb (items.size - 0) 0 _ (by omega) (Nat.zero_le _)
     ⟨⟨_,Heap.get?_push_size _ rfl,rfl,rfl⟩,(hl1.push _)⟩ ?hS0 ?hR
    case hS0 =>
     exact ⟨_,Heap.get?_push_of_some _ hS, #[],0,_,⟨rfl,rfl,rfl⟩,rfl,fun e he => by simp at he,fun k => by simp [met],Nat.zero_le _,by rw [met_length];decide,by rfl,hLed.symm,(fun z9 => rfl),List.nodup_nil⟩
    case hR =>
     intro s' hm hS'
     obtain ⟨h',g',d',tk',os'⟩ := s'
     have eg : g' = s.gens:=hm.gens
     have ed : d' = s.drawn:=hm.drawn
     have eo : os' = s.os:=hm.os
     subst eg;subst ed;subst eo
     refine X11 hS' fun o e hO => ?_
     show wpAny _ _ _ _ _ _
     refine wpAny_pure ?_
     show wpAny _ _ (ret Value.none) _ _ _
     refine wpAny_pure ⟨rfl,h',tk',o,rfl,e,hO,fun b o hb e => ?_⟩
     have hb1 : b ≠ s.heap.objs.size:=Nat.ne_of_lt hb
     have hb2 : b ≠ (s.heap.push { cls:=.type "set",dict:=none,data:=.set #[] 0 (.fresh 0 0 led) }).objs.size:=by
      rw [Heap.size_push];exact Nat.ne_of_lt (Nat.lt_succ_of_lt hb)
     exact hm.heap b o (by simp only [List.mem_cons,List.mem_singleton,List.not_mem_nil,or_false,not_or];exact ⟨hb1,hb2⟩) (Heap.get?_push_of_some _ (Heap.get?_push_of_some _ e))
   ·cases r₂ with
    | error e => exact hr₂
    | ok fl₂ =>
     cases fl₂ with
     | ret r =>
      refine Y2 hr₂ fun q0 q8 => X32 q8 fun h' tk o q4 e q8 => Y2 q8 fun hO hk' => ?_;subst q0;subst q4
      repeat (any_goals (k_extra "A"))
      exact h _ _ _ e hO hk'
     | _ => exact hr₂.elim
  | _ => exact hr.elim
end
theorem owner_si : Manifest.owners.lookup (String.ofList ['r', 'o', 't', 'a', 'r', 'e', 't', 'i', '_', 't', 'e', 's'].reverse) = some Manifest.sig_set_iterator:=by kernel_rfl
theorem slot_si_next : Slot "set_iterator" "__next__" "set_iterator.__next__" :=
 .of (owner := "set_iterator") (n := "__next__") (by rw [typeLookup_type,builtinLookup_eq_fast];kernel_rfl) (by decide +kernel) (by decide +kernel) (by decide +kernel)
  (by first | exact .inl (by decide +kernel) | exact .inr (by decide +kernel)) (by rw [isSubtype_type];kernel_rfl)
theorem entry_si_next : entryFor table "set_iterator.__next__" = some Builtin.«set_iterator.__next__» := entryFor_of_tree (by kernel_rfl)
theorem args_si_next (a : Value) : argsOk "set_iterator.__next__" ⟨[a], []⟩ := by
 unfold argsOk;rw [signature?_of (id := "set_iterator.__next__") (n := ['_', '_', 't', 'x', 'e', 'n', '_', '_']) (o := ['r', 'o', 't', 'a', 'r', 'e', 't', 'i', '_', 't', 'e', 's']) (by kernel_rfl) owner_si];kernel_rfl
theorem slot_si_iter : Slot "set_iterator" "__iter__" "set_iterator.__iter__" :=
 .of (owner := "set_iterator") (n := "__iter__") (by rw [typeLookup_type,builtinLookup_eq_fast];kernel_rfl) (by decide +kernel) (by decide +kernel) (by decide +kernel)
  (by first | exact .inl (by decide +kernel) | exact .inr (by decide +kernel)) (by rw [isSubtype_type];kernel_rfl)
theorem entry_si_iter : entryFor table "set_iterator.__iter__" = some Builtin.«dict_keyiterator.__iter__» := entryFor_alias (id' := "dict_keyiterator.__iter__") (by kernel_rfl) (by decide +kernel) (by decide +kernel) (by kernel_rfl)
theorem args_si_iter (a : Value) : argsOk "set_iterator.__iter__" ⟨[a], []⟩ := by
 unfold argsOk;rw [signature?_of (id := "set_iterator.__iter__") (n := ['_', '_', 'r', 'e', 't', 'i', '_', '_']) (o := ['r', 'o', 't', 'a', 'r', 'e', 't', 'i', '_', 't', 'e', 's']) (by kernel_rfl) owner_si];kernel_rfl
theorem entry_set_iter : entryFor table "set.__iter__" = some Builtin.«frozenset.__iter__» := entryFor_alias (id' := "frozenset.__iter__") (by kernel_rfl) (by decide +kernel) (by decide +kernel) (by kernel_rfl)
noncomputable def IsSi (h : Heap) (it a : Addr) (i n ep : Nat) (first : Value) : Prop :=
 h.get? it = some { cls:=.type "set_iterator",dict:=none,data:=.fields #[first, .int i 0, .ref a, .int n 0, .int ep 0],slots := #[] }
section
variable {w : World} {A : Around} {E : Value -> Shared -> Prop} {s : Shared} {it a : Addr} {i n ep : Nat} {first : Value} {o : Obj} {es : Array (Int × Value)} {t : SetTable}
theorem stopS {h₀ : Heap} (hh : A.handled = none) {Q : Option Value -> Shared -> Prop} (hx : Heap.ExtBut it h₀ s.heap)
  (hQ : ∀ h',Heap.ExtBut it h₀ h' -> Q none { s with heap:=h' }) :
  wpAny (model vw w) A.in1 (newExc (.type "StopIteration") [] >>= fun e => raiseNew e) (fun fin s' => ∃ v,fin = Fin.done (Flow.ret v) /\ wpAny (model vw w) A (pure (some v)) Q E s') (fun e s' => wpAny (model vw w) A (do if <- isInstance e (.type "StopIteration") then pure none else throw e) Q E s') s:=by
 refine wpAny_bind ?_
 simp only [newExc,newTuple]
 refine wpAny_bind (wpAny_newObj_type ?_ (by size_fits))
 refine wpAny_bind (m:=firstArgMember _ _) (wpAny_of_eq (a:=Value.none) (by first | rfl | (simp only [firstArgMember];rfl)) ?_)
 refine wpAny_newObj_type ?_ (by size_fits)
 simp only [raiseNew]
 refine wpAny_bind (wpAny_handled ?_)
 rw [show A.in1.handled = none from hh]
 refine wpAny_bind (wpAny_pure (wpAny_throw ?_))
 refine wpAny_bind (wpAny_isInstance (T := "StopIteration") (b:=true) ⟨_,Heap.get?_push_size _ rfl,rfl⟩ isSubtype_stop ?_)
 exact wpAny_pure (hQ _ ((hx.push _).push _))
theorem next_text (hb : byText w = true) {sl : Nat} {Q : Option Value -> Shared -> Prop} (hit : IsSi s.heap it a i es.size ep (.int sl 0)) (ho : s.heap.get? a = some o) (hd : o.data = .set es ep t) (hf : t.fits es.size = true) {e : Int × Value} (hx : (pickOrder (w.params.setOrder a ep) es)[i]? = some e)
  (hQ : ∀ h',IsSi h' it a (i + 1) es.size ep (.int sl 0) -> Heap.SameBut it s.heap h' -> Q (some e.2) { s with heap:=h' }) : wpAny (model vw w) A (pyNext (.ref it)) Q E s:=by
 have hT : s.TypeIs (.ref it) "set_iterator" := ⟨_,hit,rfl⟩
 unfold pyNext
 refine wpAny_bind (wpAny_attempt (wpAny_callSpecial?_slot (name:=Str.ofString "__next__") hT slot_si_next
  (wpAny_call_entry slot_si_next hT entry_si_next ?_ (args_si_next _))))
 unfold Builtin.«set_iterator.__next__»
 refine wpAny_bind (wpAny_pure ?_)
 refine wpAny_bind (wpAny_fieldsOf hit rfl ?_)
 dsimp only [Array.toList]
 refine wpAny_bind (wpAny_setEntries_of ho hd hf ?_)
 rw [if_neg (by simp)]
 refine wpAny_bind ?_
 unfold setNext
 refine wpAny_bind (wpAny_setState_of ho hd hf ?_)
 dsimp only
 refine wpAny_bind (wpAny_setsByText ?_)
 rw [if_pos hb,if_neg (by simp)]
 refine wpAny_bind ?_
 unfold setWalk
 refine wpAny_bind (wpAny_setState_of ho hd hf ?_)
 dsimp only
 refine wpAny_bind (wpAny_setsByText ?_)
 rw [if_pos hb]
 refine wpAny_bind (wpAny_askSetting (wpAny_pure ?_))
 refine wpAny_pure ?_
 simp only [Int.toNat_natCast]
 rw [show (pickOrder ((⟨(model vw w).prog,(model vw w).w.params⟩ : Setting).params.setOrder a ep) es)[i]? = some e from hx]
 dsimp only [Option.map]
 refine wpAny_bind (wpAny_setField_rec hit (by simp) fun h₁ he₁ hs₁ => ?_)
 refine wpAny_bind (wpAny_setField_rec he₁ (by simp) fun h₂ he₂ hs₂ => ?_)
 exact wpAny_pure ⟨_,rfl,wpAny_pure (hQ h₂ (by simpa [rawInt,IsSi] using he₂) (hs₁.trans hs₂))⟩
theorem end_text (hh : A.handled = none) (hb : byText w = true) {sl : Nat} {Q : Option Value -> Shared -> Prop} (hit : IsSi s.heap it a i es.size ep (.int sl 0)) (ho : s.heap.get? a = some o) (hd : o.data = .set es ep t) (hf : t.fits es.size = true) (hx : (pickOrder (w.params.setOrder a ep) es)[i]? = none)
  (hQ : ∀ h',Heap.ExtBut it s.heap h' -> Q none { s with heap:=h' }) : wpAny (model vw w) A (pyNext (.ref it)) Q E s:=by
 have hT : s.TypeIs (.ref it) "set_iterator" := ⟨_,hit,rfl⟩
 unfold pyNext
 refine wpAny_bind (wpAny_attempt (wpAny_callSpecial?_slot (name:=Str.ofString "__next__") hT slot_si_next
  (wpAny_call_entry slot_si_next hT entry_si_next ?_ (args_si_next _))))
 unfold Builtin.«set_iterator.__next__»
 refine wpAny_bind (wpAny_pure ?_)
 refine wpAny_bind (wpAny_fieldsOf hit rfl ?_)
 dsimp only [Array.toList]
 refine wpAny_bind (wpAny_setEntries_of ho hd hf ?_)
 rw [if_neg (by simp)]
 refine wpAny_bind ?_
 unfold setNext
 refine wpAny_bind (wpAny_setState_of ho hd hf ?_)
 dsimp only
 refine wpAny_bind (wpAny_setsByText ?_)
 rw [if_pos hb,if_neg (by simp)]
 refine wpAny_bind ?_
 unfold setWalk
 refine wpAny_bind (wpAny_setState_of ho hd hf ?_)
 dsimp only
 refine wpAny_bind (wpAny_setsByText ?_)
 rw [if_pos hb]
 refine wpAny_bind (wpAny_askSetting (wpAny_pure ?_))
 refine wpAny_pure ?_
 simp only [Int.toNat_natCast]
 rw [show (pickOrder ((⟨(model vw w).prog,(model vw w).w.params⟩ : Setting).params.setOrder a ep) es)[i]? = none from hx]
 dsimp only [Option.map]
 refine wpAny_bind (wpAny_setField hit rfl (by simp) ?_)
 exact stopS hh (Heap.SameBut.update ..).extBut hQ
theorem next_small (hb : byText w = false) (hl : t.led = true) (h1 : es.size <= 1) {sl j : Nat} {Q : Option Value -> Shared -> Prop} (hit : IsSi s.heap it a i es.size ep (.int sl 0)) (ho : s.heap.get? a = some o) (hd : o.data = .set es ep t) (hf : t.fits es.size = true) {e : Int × Value} (hx : es[SetTable.below t.place sl]? = some e) (hj : t.place[SetTable.below t.place sl]? = some j)
  (hQ : ∀ h',IsSi h' it a (i + 1) es.size ep (.int (j + 1 : Nat) 0) -> Heap.SameBut it s.heap h' -> Q (some e.2) { s with heap:=h' }) : wpAny (model vw w) A (pyNext (.ref it)) Q E s:=by
 have hT : s.TypeIs (.ref it) "set_iterator" := ⟨_,hit,rfl⟩
 unfold pyNext
 refine wpAny_bind (wpAny_attempt (wpAny_callSpecial?_slot (name:=Str.ofString "__next__") hT slot_si_next
  (wpAny_call_entry slot_si_next hT entry_si_next ?_ (args_si_next _))))
 unfold Builtin.«set_iterator.__next__»
 refine wpAny_bind (wpAny_pure ?_)
 refine wpAny_bind (wpAny_fieldsOf hit rfl ?_)
 dsimp only [Array.toList]
 refine wpAny_bind (wpAny_setEntries_of ho hd hf ?_)
 rw [if_neg (by simp)]
 refine wpAny_bind ?_
 unfold setNext
 refine wpAny_bind (wpAny_setState_of ho hd hf ?_)
 dsimp only
 refine wpAny_bind (wpAny_setsByText ?_)
 rw [if_neg (by rw [hb];decide)]
 show wpAny _ _ (if (!t.plain && decide (es.size > 1)) = true then _ else _) _ _ _
 rw [if_neg (show ¬ ((!t.plain && decide (es.size > 1)) = true) by rw [decide_eq_false (by lia),Bool.and_false];decide)]
 refine wpAny_bind ?_
 show wpAny _ _ (if (!t.led && !es.isEmpty) = true then _ else pure ()) _ _ _
 rw [if_neg (by rw [hl];exact Bool.false_ne_true)]
 refine wpAny_pure (wpAny_pure ?_)
 simp only [Int.toNat_natCast]
 rw [hx,hj]
 dsimp only
 refine wpAny_bind (wpAny_setField_rec hit (by simp) fun h₁ he₁ hs₁ => ?_)
 refine wpAny_bind (wpAny_setField_rec he₁ (by simp) fun h₂ he₂ hs₂ => ?_)
 exact wpAny_pure ⟨_,rfl,wpAny_pure (hQ h₂ (by simpa [rawInt,IsSi] using he₂) (hs₁.trans hs₂))⟩
theorem end_small (hh : A.handled = none) (hb : byText w = false) (hl : t.led = true) (h1 : es.size <= 1) {sl : Nat} {Q : Option Value -> Shared -> Prop} (hit : IsSi s.heap it a i es.size ep (.int sl 0)) (ho : s.heap.get? a = some o) (hd : o.data = .set es ep t) (hf : t.fits es.size = true) (hx : es[SetTable.below t.place sl]? = none)
  (hQ : ∀ h',Heap.ExtBut it s.heap h' -> Q none { s with heap:=h' }) : wpAny (model vw w) A (pyNext (.ref it)) Q E s:=by
 have hT : s.TypeIs (.ref it) "set_iterator" := ⟨_,hit,rfl⟩
 unfold pyNext
 refine wpAny_bind (wpAny_attempt (wpAny_callSpecial?_slot (name:=Str.ofString "__next__") hT slot_si_next
  (wpAny_call_entry slot_si_next hT entry_si_next ?_ (args_si_next _))))
 unfold Builtin.«set_iterator.__next__»
 refine wpAny_bind (wpAny_pure ?_)
 refine wpAny_bind (wpAny_fieldsOf hit rfl ?_)
 dsimp only [Array.toList]
 refine wpAny_bind (wpAny_setEntries_of ho hd hf ?_)
 rw [if_neg (by simp)]
 refine wpAny_bind ?_
 unfold setNext
 refine wpAny_bind (wpAny_setState_of ho hd hf ?_)
 dsimp only
 refine wpAny_bind (wpAny_setsByText ?_)
 rw [if_neg (by rw [hb];decide)]
 show wpAny _ _ (if (!t.plain && decide (es.size > 1)) = true then _ else _) _ _ _
 rw [if_neg (show ¬ ((!t.plain && decide (es.size > 1)) = true) by rw [decide_eq_false (by lia),Bool.and_false];decide)]
 refine wpAny_bind ?_
 show wpAny _ _ (if (!t.led && !es.isEmpty) = true then _ else pure ()) _ _ _
 rw [if_neg (by rw [hl];exact Bool.false_ne_true)]
 refine wpAny_pure (wpAny_pure ?_)
 simp only [Int.toNat_natCast]
 rw [hx]
 dsimp only
 refine wpAny_bind (wpAny_setField hit rfl (by simp) ?_)
 exact stopS hh (Heap.SameBut.update ..).extBut hQ
theorem next_drawn {T : Addr} {ys : List Nat} {p : Nat} {Q : Option Value -> Shared -> Prop} (hit : IsSi s.heap it a i es.size ep (.ref T)) (ho : s.heap.get? a = some o) (hd : o.data = .set es ep t) (hf : t.fits es.size = true) (hp : s.heap.get? T = some { cls:=.type "tuple",data:=.seq (ys.map fun i : Nat => rawInt i).toArray }) (hy : ys[i]? = some p) {e : Int × Value} (hx : es[p]? = some e)
  (hQ : ∀ h',IsSi h' it a (i + 1) es.size ep (.ref T) -> Heap.SameBut it s.heap h' -> Q (some e.2) { s with heap:=h' }) : wpAny (model vw w) A (pyNext (.ref it)) Q E s:=by
 have hT : s.TypeIs (.ref it) "set_iterator" := ⟨_,hit,rfl⟩
 unfold pyNext
 refine wpAny_bind (wpAny_attempt (wpAny_callSpecial?_slot (name:=Str.ofString "__next__") hT slot_si_next
  (wpAny_call_entry slot_si_next hT entry_si_next ?_ (args_si_next _))))
 unfold Builtin.«set_iterator.__next__»
 refine wpAny_bind (wpAny_pure ?_)
 refine wpAny_bind (wpAny_fieldsOf hit rfl ?_)
 dsimp only [Array.toList]
 refine wpAny_bind (wpAny_setEntries_of ho hd hf ?_)
 rw [if_neg (by simp)]
 refine wpAny_bind ?_
 show wpAny _ _ (load T >>= _) _ _ _
 refine wpAny_bind (wpAny_load hp ?_)
 dsimp only
 refine wpAny_pure ?_
 dsimp only
 simp only [Int.toNat_natCast,List.getElem?_toArray,List.getElem?_map,hy,Option.map]
 dsimp only [rawInt]
 refine wpAny_bind ?_
 unfold setNextDrawn
 refine wpAny_bind (wpAny_setState_of ho hd hf ?_)
 dsimp only
 rw [if_neg (by simp)]
 simp only [Int.toNat_natCast,hx]
 refine wpAny_pure ?_
 refine wpAny_bind (wpAny_setField_rec hit (by simp) fun h₁ he₁ hs₁ => ?_)
 exact wpAny_pure ⟨_,rfl,wpAny_pure (hQ h₁ (by simpa [rawInt,IsSi] using he₁) hs₁)⟩
theorem end_drawn (hh : A.handled = none) {T : Addr} {ys : List Nat} {Q : Option Value -> Shared -> Prop} (hit : IsSi s.heap it a i es.size ep (.ref T)) (ho : s.heap.get? a = some o) (hd : o.data = .set es ep t) (hf : t.fits es.size = true) (hp : s.heap.get? T = some { cls:=.type "tuple",data:=.seq (ys.map fun i : Nat => rawInt i).toArray }) (hy : ys[i]? = none)
  (hQ : ∀ h',Heap.ExtBut it s.heap h' -> Q none { s with heap:=h' }) : wpAny (model vw w) A (pyNext (.ref it)) Q E s:=by
 have hT : s.TypeIs (.ref it) "set_iterator" := ⟨_,hit,rfl⟩
 unfold pyNext
 refine wpAny_bind (wpAny_attempt (wpAny_callSpecial?_slot (name:=Str.ofString "__next__") hT slot_si_next
  (wpAny_call_entry slot_si_next hT entry_si_next ?_ (args_si_next _))))
 unfold Builtin.«set_iterator.__next__»
 refine wpAny_bind (wpAny_pure ?_)
 refine wpAny_bind (wpAny_fieldsOf hit rfl ?_)
 dsimp only [Array.toList]
 refine wpAny_bind (wpAny_setEntries_of ho hd hf ?_)
 rw [if_neg (by simp)]
 refine wpAny_bind ?_
 show wpAny _ _ (load T >>= _) _ _ _
 refine wpAny_bind (wpAny_load hp ?_)
 dsimp only
 refine wpAny_pure ?_
 dsimp only
 simp only [Int.toNat_natCast,List.getElem?_toArray,List.getElem?_map,hy,Option.map]
 refine wpAny_bind (wpAny_setField_rec hit (by simp) fun h₁ he₁ hs₁ => ?_)
 refine wpAny_bind (wpAny_setField he₁ rfl (by simp) ?_)
 exact stopS (s := { s with heap:=h₁.update it _ }) hh (hs₁.trans (Heap.SameBut.update ..)).extBut hQ
theorem pick_perm {α : Type} (next : Nat -> Nat) : ∀ (fuel k : Nat) (left : List α) (out : Array α),left.length = fuel -> (pickOrder.go next fuel k left out).toList.Perm (out.toList ++ left):=fun fuel => by
 induction fuel with
 | zero =>
  intro k left out h
  have h : left = []:=List.length_eq_zero_iff.mp h
  subst h
  unfold pickOrder.go
  rw [List.append_nil]
 | succ fuel ih =>
  intro k left out h
  unfold pickOrder.go
  have hi : next k % left.length < left.length:=Nat.mod_lt _ (by lia)
  rw [List.getElem?_eq_getElem hi]
  refine (ih _ _ _ (by rw [List.length_eraseIdx_of_lt hi];lia)).trans ?_
  rw [Array.toList_push,List.append_assoc]
  exact List.Perm.append_left _ (eraseIdx_perm hi)
theorem si_self {Q : Value -> Shared -> Prop} (hit : IsSi s.heap it a i n ep first) (h : Q (.ref it) s) : wpAny (model vw w) A (pyIter (.ref it)) Q E s:=by
 have hT : s.TypeIs (.ref it) "set_iterator" := ⟨_,hit,rfl⟩
 refine wpAny_pyIter_slot hT slot_si_iter (wpAny_call_entry slot_si_iter hT entry_si_iter ?_ (args_si_iter _))
 show wpAny _ _ (ret (.ref it)) _ _ s
 exact wpAny_pure ⟨_,rfl, "set_iterator",_,hT,slot_si_next.lookup,h⟩
noncomputable abbrev Meet (ord : List (Int × Value)) (i : Nat) (v : Value) : Prop := ∃ e,ord[i]? = some e /\ v = e.2
theorem walks_text (hh : A.handled = none) (hb : byText w = true) (hd : o.data = .set es ep t) (hf : t.fits es.size = true) (hne : a ≠ it) :
  Walks vw w A it [it,a] [it] (pickOrder (w.params.setOrder a ep) es).toList.length (Meet (pickOrder (w.params.setOrder a ep) es).toList) fun i h => IsSi h it a i es.size ep (.int (0 : Nat) 0) /\ h.get? a = some o where
 sub:=fun b hb => by simp at hb;simp [hb]
 frame:=fun _ _ _ st hk => ⟨hk it (by simp) _ st.1,hk a (by simp) _ st.2⟩
 item:=fun i s Q E hi st hQ => by
  have hx : (pickOrder (w.params.setOrder a ep) es)[i]? = some (pickOrder (w.params.setOrder a ep) es).toList[i]:=by rw [<- Array.getElem?_toList,List.getElem?_eq_getElem hi]
  refine next_text hb st.1 st.2 hd hf hx fun h' h1 h2 => hQ _ h' s.toks ⟨_,List.getElem?_eq_getElem hi,rfl⟩ ⟨h1,(h2.2 a hne).trans st.2⟩ fun b o hb e => h2.extBut b o (fun z => hb (by simp [z])) e
 done:=fun s Q E st hQ => by
  refine end_text hh hb st.1 st.2 hd hf (by rw [<- Array.getElem?_toList];exact List.getElem?_eq_none (Nat.le_refl _)) fun h' h2 => hQ h' s.toks fun b o hb e => h2 b o (fun z => hb (by simp [z])) e
 self:=fun _ _ _ _ st hQ => si_self st.1 hQ
theorem below_at {p j : Nat} (h : ¬ p < j) : SetTable.below #[p] j = 0:=by
 show SetTable.below.go #[p] j 1 0 1 = 0
 unfold SetTable.below.go
 rw [if_pos (by decide)]
 show (if p < j then SetTable.below.go #[p] j 0 1 1 else SetTable.below.go #[p] j 0 0 0) = 0
 rw [if_neg h];rfl
theorem below_up {p j : Nat} (h : p < j) : SetTable.below #[p] j = 1:=by
 show SetTable.below.go #[p] j 1 0 1 = 1
 unfold SetTable.below.go
 rw [if_pos (by decide)]
 show (if p < j then SetTable.below.go #[p] j 0 1 1 else SetTable.below.go #[p] j 0 0 0) = 1
 rw [if_pos h];rfl
theorem place1 (hf : t.fits es.size = true) (h : es.size = 1) : ∃ p,t.place = #[p]:=by
 simp only [SetTable.fits,Bool.and_eq_true,beq_iff_eq,decide_eq_true_eq] at hf
 exact Array.size_eq_one_iff.mp (hf.1.trans h)
theorem walks_small (hh : A.handled = none) (hb : byText w = false) (hl : t.led = true) (h1 : es.size <= 1) (hd : o.data = .set es ep t) (hf : t.fits es.size = true) (hne : a ≠ it) :
  Walks vw w A it [it,a] [it] es.toList.length (Meet es.toList) fun i h => (∃ sl : Nat,IsSi h it a i es.size ep (.int sl 0) /\ (i = 0 /\ sl = 0 \/ i ≠ 0 /\ es[SetTable.below t.place sl]? = none)) /\ h.get? a = some o where
 sub:=fun b hb => by simp at hb;simp [hb]
 frame:=fun _ _ _ st hk => ⟨st.1.imp fun sl q => ⟨hk it (by simp) _ q.1,q.2⟩,hk a (by simp) _ st.2⟩
 item:=fun i s Q E hi st hQ => by
  rw [Array.length_toList] at hi
  have hz : es.size = 1:=by lia
  obtain ⟨p,hp⟩ := place1 hf hz
  obtain ⟨⟨sl,q1,q2⟩,q3⟩ := st
  have hi0 : i = 0:=by lia
  subst hi0
  obtain ⟨e,he⟩ := Array.size_eq_one_iff.mp hz
  rcases q2 with ⟨_,rfl⟩ | q2
  ·have hbl : SetTable.below t.place 0 = 0:=by rw [hp];exact below_at (Nat.not_lt_zero _)
   refine next_small (j:=p) (e:=e) hb hl h1 q1 q3 hd hf (by rw [hbl,he];rfl) (by rw [hbl,hp];rfl) fun h' g1 g2 => hQ _ h' s.toks ⟨e,by rw [he];rfl,rfl⟩ ⟨⟨p + 1,g1, .inr ⟨Nat.succ_ne_zero _, ?_⟩⟩,(g2.2 a hne).trans q3⟩ fun b o hb e => g2.extBut b o (fun z => hb (by simp [z])) e
   rw [hp,below_up (Nat.lt_succ_self p),he];rfl
  ·exact absurd rfl q2.1
 done:=fun s Q E st hQ => by
  obtain ⟨⟨sl,q1,q2⟩,q3⟩ := st
  refine end_small hh hb hl h1 q1 q3 hd hf ?_ fun h' h2 => hQ h' s.toks fun b o hb e => h2 b o (fun z => hb (by simp [z])) e
  rcases q2 with ⟨h0,rfl⟩ | q2
  ·rw [Array.length_toList] at h0
   exact Array.getElem?_eq_none (by lia)
  ·exact q2.2
 self:=fun _ _ _ _ st hQ => let ⟨sl,q,_⟩ := st.1;si_self q hQ
theorem walks_drawn (hh : A.handled = none) {T : Addr} {ys : List Nat} (hy : ys.Perm (List.range es.size)) (hd : o.data = .set es ep t) (hf : t.fits es.size = true) (hne : a ≠ it) (hT : T ≠ it) (d : Int × Value) :
  Walks vw w A it [it,a,T] [it] (ys.map fun p => es.toList.getD p d).length (Meet (ys.map fun p => es.toList.getD p d)) fun i h => IsSi h it a i es.size ep (.ref T) /\ h.get? a = some o /\ h.get? T = some { cls:=.type "tuple",data:=.seq (ys.map fun i : Nat => rawInt i).toArray } where
 sub:=fun b hb => by simp at hb;simp [hb]
 frame:=fun _ _ _ st hk => ⟨hk it (by simp) _ st.1,hk a (by simp) _ st.2.1,hk T (by simp) _ st.2.2⟩
 item:=fun i s Q E hi st hQ => by
  rw [List.length_map] at hi
  have hm : ys[i] < es.size:=List.mem_range.mp (hy.mem_iff.mp (List.getElem_mem hi))
  refine next_drawn (p:=ys[i]) (e:=es[ys[i]]) st.1 st.2.1 hd hf st.2.2 (List.getElem?_eq_getElem hi) (Array.getElem?_eq_getElem hm) fun h' h1 h2 => hQ _ h' s.toks ⟨es[ys[i]], ?_,rfl⟩ ⟨h1,(h2.2 a hne).trans st.2.1,(h2.2 T hT).trans st.2.2⟩ fun b o hb e => h2.extBut b o (fun z => hb (by simp [z])) e
  rw [List.getElem?_map,List.getElem?_eq_getElem hi]
  simp [hm]
 done:=fun s Q E st hQ => by
  refine end_drawn hh st.1 st.2.1 hd hf st.2.2 (List.getElem?_eq_none (by rw [List.length_map];exact Nat.le_refl _)) fun h' h2 => hQ h' s.toks fun b o hb e => h2 b o (fun z => hb (by simp [z])) e
 self:=fun _ _ _ _ st hQ => si_self st.1 hQ
end
section
variable {w : World} {A : Around} {E : Value -> Shared -> Prop} {s : Shared} {a : Addr} {o : Obj} {ns : List Str}
theorem iterSet (ho : s.heap.get? a = some o) (hS : SetO w o ns) {Q : Value -> Shared -> Prop}
  (h : ∀ (h' : Heap) d I fp ord St es ep t,o.data = .set es ep t -> ord.Perm es.toList -> Ext s.heap h' -> s.heap.get? I = none -> (∀ b ∈ fp,b < h'.objs.size /\ (b = a \/ s.heap.get? b = none)) -> (∀ A' : Around,A'.handled = none -> Walks vw w A' I fp [I] ord.length (Meet ord) St) -> St 0 h' -> Q (.ref I) { s with heap:=h',drawn:=d }) : wpAny (model vw w) A (pyIter (.ref a)) Q E s:=by
 refine byG fun G kG => ?_
 refine X32 hS fun es ep t hex hd q8 => Y5 q8 fun hel hmem hle hb q8 => Y4 q8 fun hf hl hpl hnd => ?_
 refine kG ?_;clear kG G
 have hT : s.TypeIs (.ref a) "set" := ⟨o,ho,hex.1⟩
 have hal : a < s.heap.objs.size:=Heap.lt_size ho
 refine wpAny_pyIter_slot hT PySem.F.slot_set_iter (wpAny_call_entry PySem.F.slot_set_iter hT entry_set_iter ?_ (PySem.F.args_set_iter_1 _))
 unfold Builtin.«frozenset.__iter__» Builtin.Frozenset.slot0 slotArgs
 simp only [List.isEmpty_nil,Bool.not_true,Bool.false_eq_true, ↓reduceIte,bind_assoc,List.length_nil,bne_self_eq_false]
 unfold Builtin.Frozenset.addrOf Builtin.Frozenset.sizeOf
 refine wpAny_bind (wpAny_pure ?_)
 try dsimp only
 refine wpAny_bind (wpAny_pure ?_)
 refine wpAny_bind (wpAny_bind (wpAny_setEntries_of ho hd hf (wpAny_pure ?_)))
 refine wpAny_bind ?_
 unfold setDrawn
 refine wpAny_bind (wpAny_setState_of ho hd hf ?_)
 dsimp only
 refine wpAny_bind (wpAny_setsByText (wpAny_pure ?_))
 show wpAny _ _ (if (!byText w && (!t.plain && decide (es.size > 1))) = true then _ else _) _ _ _
 have hsz : es.size <= 4096:=by have : ns.length < 4096:=hb;lia
 by_cases hdr : (!byText w && (!t.plain && decide (es.size > 1))) = true
 ·rw [if_pos hdr]
  refine wpAny_bind (wpAny_drawOrder es.size (List.range es.size) s _ (by simp) fun d ys hp => ?_)
  have hyl : ys.length = es.size:=by rw [hp.length_eq,List.length_range]
  refine wpAny_bind (wpAny_newTuple ?_ (by rw [List.length_map,hyl,sizeLine_eq];lia))
  have ho1 : (s.heap.push { cls:=.type "tuple",data:=.seq (ys.map fun i : Nat => rawInt i).toArray }).get? a = some o:=Heap.get?_push_of_some _ ho
  refine wpAny_bind (wpAny_setEpoch_of ho1 hd hf ?_)
  refine wpAny_bind ?_
  unfold newFields
  refine wpAny_newObj_type ?_
  refine wpAny_pure ⟨_,rfl, "set_iterator",_,⟨_,Heap.get?_push_size _ rfl,rfl⟩,slot_si_next.lookup, ?_⟩
  have hz1 : (s.heap.push { cls:=.type "tuple",data:=.seq (ys.map fun i : Nat => rawInt i).toArray }).objs.size = s.heap.objs.size + 1:=Heap.size_push ..
  have hT1 : (s.heap.push { cls:=.type "tuple",data:=.seq (ys.map fun i : Nat => rawInt i).toArray }).get? s.heap.objs.size = some { cls:=.type "tuple",data:=.seq (ys.map fun i : Nat => rawInt i).toArray } := Heap.get?_push_size _ rfl
  have ex1 : Ext s.heap (s.heap.push { cls:=.type "tuple",data:=.seq (ys.map fun i : Nat => rawInt i).toArray }):=fun b o e => Heap.get?_push_of_some _ e
  dsimp only
  generalize s.heap.push { cls:=.type "tuple",data:=.seq (ys.map fun i : Nat => rawInt i).toArray } = h1 at ho1 hz1 hT1 ex1 ⊢
  have hne : a ≠ h1.objs.size:=by rw [hz1];exact Nat.ne_of_lt (Nat.lt_succ_of_lt hal)
  have hne2 : s.heap.objs.size ≠ h1.objs.size:=by rw [hz1];exact Nat.ne_of_lt (Nat.lt_succ_self _)
  refine h _ d h1.objs.size [h1.objs.size,a,s.heap.objs.size] (ys.map fun p => es.toList.getD p (0, .none)) _ es ep t hd ?_ (fun b o e => Heap.get?_push_of_some _ (ex1 b o e)) (Heap.get?_none_of_le (by rw [hz1];exact Nat.le_succ _)) ?_ (fun A' hA' => walks_drawn (T:=s.heap.objs.size) hA' hp hd hf hne hne2 (0, .none)) ⟨Heap.get?_push_size _ rfl,Heap.get?_push_of_some _ ho1,Heap.get?_push_of_some _ hT1⟩
  ·have:=hp.map fun p => es.toList.getD p (0,Value.none)
   have e : (List.range es.size).map (fun p => es.toList.getD p (0,Value.none)) = es.toList:=by
    refine List.ext_getElem (by simp) fun i h1 h2 => ?_
    simp at h1 h2
    simp [h1]
   rw [e] at this
   exact this
  ·intro b hb
   rw [Heap.size_push,hz1]
   rcases List.mem_cons.mp hb with rfl | hb
   ·rw [hz1];exact ⟨Nat.lt_succ_self _, .inr (Heap.get?_none_of_le (Nat.le_succ _))⟩
   ·rcases List.mem_cons.mp hb with rfl | hb
    ·exact ⟨Nat.lt_succ_of_lt (Nat.lt_succ_of_lt hal), .inl rfl⟩
    ·rw [List.mem_singleton.mp hb];exact ⟨Nat.lt_succ_of_lt (Nat.lt_succ_self _), .inr (Heap.get?_none_of_le (Nat.le_refl _))⟩
 ·rw [if_neg hdr]
  refine wpAny_bind (wpAny_pure ?_)
  refine wpAny_bind (wpAny_setEpoch_of ho hd hf ?_)
  refine wpAny_bind ?_
  unfold newFields
  refine wpAny_newObj_type ?_
  refine wpAny_pure ⟨_,rfl, "set_iterator",_,⟨_,Heap.get?_push_size _ rfl,rfl⟩,slot_si_next.lookup, ?_⟩
  have hne : a ≠ s.heap.objs.size:=Nat.ne_of_lt hal
  have hfp : ∀ b ∈ [s.heap.objs.size,a],b < (s.heap.push { cls:=.type "set_iterator",data:=.fields #[rawInt 0,rawInt 0, .ref a,rawInt es.size,rawInt ep] }).objs.size /\ (b = a \/ s.heap.get? b = none):=fun b hb => by
   rw [Heap.size_push]
   rcases List.mem_cons.mp hb with rfl | hb
   ·exact ⟨Nat.lt_succ_self _, .inr (Heap.get?_none_of_le (Nat.le_refl _))⟩
   ·rw [List.mem_singleton.mp hb];exact ⟨Nat.lt_succ_of_lt hal, .inl rfl⟩
  have hex' : Ext s.heap (s.heap.push { cls:=.type "set_iterator",data:=.fields #[rawInt 0,rawInt 0, .ref a,rawInt es.size,rawInt ep] }):=fun b o e => Heap.get?_push_of_some _ e
  have hit : IsSi (s.heap.push { cls:=.type "set_iterator",data:=.fields #[rawInt 0,rawInt 0, .ref a,rawInt es.size,rawInt ep] }) s.heap.objs.size a 0 es.size ep (.int (0 : Nat) 0):=Heap.get?_push_size _ rfl
  by_cases hb1 : byText w = true
  ·exact h _ s.drawn _ [s.heap.objs.size,a] (pickOrder (w.params.setOrder a ep) es).toList _ es ep t hd (pick_perm _ _ _ _ _ (by rw [Array.length_toList])) hex' (Heap.get?_none_of_le (Nat.le_refl _)) hfp (fun A' hA' => walks_text hA' hb1 hd hf hne) ⟨hit,hex' _ _ ho⟩
  ·have hb1 : byText w = false:=by simpa using hb1
   have hl1 : t.led = true:=by rw [hl,hb1];rfl
   have h1 : es.size <= 1:=by
    by_cases hp : t.plain = true
    ·rw [hpl hp];exact Nat.zero_le _
    ·have hp : t.plain = false:=by simpa using hp
     rw [hb1,hp] at hdr
     simp at hdr
     exact hdr
   exact h _ s.drawn _ [s.heap.objs.size,a] es.toList _ es ep t hd (.refl _) hex' (Heap.get?_none_of_le (Nat.le_refl _)) hfp (fun A' hA' => walks_small hA' hb1 hl1 h1 hd hf hne) ⟨⟨0,hit, .inl ⟨rfl,rfl⟩⟩,hex' _ _ ho⟩
theorem owner_set_len : splitId "set.__len__" = some ("set", "__len__"):=by decide +kernel
theorem collectSet (hh : A.handled = none) (ho : s.heap.get? a = some o) (hS : SetO w o ns) {Q : List Value -> Shared -> Prop}
  (h : ∀ (h' : Heap) d tk acc ss,Ext s.heap h' -> StrsAre acc ss -> (∀ k,k ∈ ss ↔ k ∈ ns) -> ss.length <= ns.length -> ss.Nodup -> Q acc { s with heap:=h',drawn:=d,toks:=tk }) : wpAny (model vw w) A (collect (.ref a)) Q E s:=by
 have hS' := hS
 refine byG fun G kG => ?_
 refine X32 hS fun es ep t hex hd q8 => Y5 q8 fun hel hmem hle hb q8 => Y4 q8 fun hf hl hpl hnd => ?_
 refine kG ?_;clear kG G
 have hal : a < s.heap.objs.size:=Heap.lt_size ho
 have hSa : s.heap.objs.size ≠ a:=Nat.ne_of_gt hal
 unfold collect
 refine wpAny_bind (wpAny_runValue (codeAny_builtin PySem.F.entry_proto_collect ?_))
 rw [Around.under_plainId PySem.F.plain_proto_collect _]
 show wpAny _ A.in1 (newList [] >>= fun l => again (.builtin "list.__iadd__" ⟨[l, .ref a], []⟩)) _ _ s
 refine wpAny_bind (wpAny_newObj_type ?_)
 refine wpAny_pure ⟨plainId_quiet PySem.F.plain_list_iadd _,codeAny_builtin PySem.F.entry_list_iadd ?_⟩
 rw [Around.under_plainId PySem.F.plain_list_iadd _]
 show wpAny _ A.in1 (Builtin.List.listExtendWith (.ref s.heap.objs.size) (.ref a) (.ref s.heap.objs.size)) _ _ _
 have ex1 : Ext s.heap (s.heap.push { cls:=.type "list",data:=.seq ([] : List Value).toArray }):=fun b o e => Heap.get?_push_of_some _ e
 have hS₁ : (s.heap.push { cls:=.type "list",data:=.seq ([] : List Value).toArray }).get? s.heap.objs.size = some { cls:=.type "list",data:=.seq ([] : List Value).toArray } := Heap.get?_push_size _ rfl
 have hz1 : (s.heap.push { cls:=.type "list",data:=.seq ([] : List Value).toArray }).objs.size = s.heap.objs.size + 1:=Heap.size_push ..
 dsimp only
 generalize s.heap.push { cls:=.type "list",data:=.seq ([] : List Value).toArray } = h1 at ex1 hS₁ hz1 ⊢
 have ho1:=ex1 _ _ ho
 have hT : Shared.TypeIs { s with heap:=h1 } (.ref a) "set" := ⟨o,ho1,hex.1⟩
 have g1 : Builtin.List.listSameRef (.ref s.heap.objs.size) (.ref a) = false:=by simp [Builtin.List.listSameRef,hSa]
 have g2 : (Value.type "set" == Value.type "list") = false:=by decide
 have g3 : (Value.type "set" == Value.type "tuple") = false:=by decide
 unfold Builtin.List.listExtendWith
 refine wpAny_bind (wpAny_typeOf hT ?_)
 simp only [g1,g2,g3,Bool.or_false,Bool.false_eq_true,if_false]
 refine wpAny_bind (iterSet ho1 hS' fun h2 d I fp ord St es' ep' t' hd' hperm ex2 hI hfp W hst => ?_)
 rw [hd] at hd'
 cases hd'
 have hT2 : Shared.TypeIs { s with heap:=h2,drawn:=d } (.ref a) "set" := ⟨o,ex2 _ _ ho1,hex.1⟩
 refine wpAny_bind (wpAny_holding ?_)
 unfold Builtin.List.listLengthHint
 refine wpAny_bind (wpAny_specialOf hT2 PySem.F.slot_set_len.lookup ?_)
 generalize hid : ("set.__len__" : String) = id0
 wp_delta
 rw [show splitId id0 = some ("set", "__len__") from by subst hid;exact owner_set_len]
 subst hid
 refine wpAny_bind (wpAny_isInstance (b:=true) hT2 sub_set_self ?_)
 refine wpAny_bind (wpAny_typeOf hT2 ?_)
 refine wpAny_pure ?_
 rw [if_pos (by decide +kernel)]
 refine wpAny_bind (wpAny_rule ?_)
 have hS₂:=ex2 _ _ hS₁
 refine wpAny_bind ?_
 show wpAny _ A.in1 (updateSeq s.heap.objs.size (·.push .none) >>= fun z9 => updateSeq s.heap.objs.size (·.pop)) _ _ _
 refine wpAny_bind (wpAny_updateSeq hS₂ rfl ?_)
 have hS₃:=Heap.get?_update_self (Obj.mapSeq (·.push Value.none)) hS₂ rfl
 refine wpAny_updateSeq hS₃ rfl ?_
 have hS₄:=Heap.get?_update_self (Obj.mapSeq (·.pop)) hS₃ rfl
 have hSf : s.heap.objs.size ∉ fp:=fun hm => by
  refine Or.elim ((hfp _ hm).2) (fun z => ?_) fun z => ?_
  ·exact hSa z
  ·rw [show h1.get? s.heap.objs.size = none from z] at hS₁;exact nS hS₁
 have oth : ∀ b o,b ≠ s.heap.objs.size -> h2.get? b = some o -> ((h2.update s.heap.objs.size (Obj.mapSeq (·.push Value.none))).update s.heap.objs.size (Obj.mapSeq (·.pop))).get? b = some o :=
  fun b o hb e => (Heap.get?_update_other _ _ (Ne.symm hb)).trans ((Heap.get?_update_other _ _ (Ne.symm hb)).trans e)
 have hS₅ : ∃ c,((h2.update s.heap.objs.size (Obj.mapSeq (·.push Value.none))).update s.heap.objs.size (Obj.mapSeq (·.pop))).get? s.heap.objs.size = some { cls:=.type "list",dict:=none,data:=.seq #[] c,slots := #[] } := ⟨_,hS₄⟩
 dsimp only
 generalize (h2.update s.heap.objs.size (Obj.mapSeq (·.push Value.none))).update s.heap.objs.size (Obj.mapSeq (·.pop)) = h3 at hS₅ oth ⊢
 clear hS₃ hS₄
 refine X10 hS₅ fun c hS₅ => ?_
 have W1:=W A.in1 (by simp [hh])
 have hol : ord.length = es.size:=by rw [hperm.length_eq,Array.length_toList]
 have hst' := W1.frame 0 _ h3 hst fun b hb' o e => oth b o (fun z => hSf (z ▸ hb')) e
 refine wpAny_pure ⟨plainId_quiet PySem.F.plain_extend_loop _,codeAny_extend_loopS (St:=fun i s => St i s.heap) W1.toS (by rw [hol,sizeLine_eq];have : ns.length < 4096:=hb;lia) _ hSf _ ord.length 0 _ _ _ rfl (Nat.zero_le _) hst' hS₅ (ItemsOf.nil _) fun s' acc' c' hm hS' hacc => ?_⟩
 obtain ⟨h9,g9,d9,k9,o9⟩ := s'
 have eg : g9 = s.gens:=hm.gens
 have ed : d9 = d:=hm.drawn
 have eo : o9 = s.os:=hm.os
 subst eg;subst ed;subst eo
 show wpAny _ A (load s.heap.objs.size >>= _) _ _ _
 refine wpAny_bind (wpAny_load hS' ?_)
 refine wpAny_pure ?_
 have el : acc'.toList = ord.map (·.2):=by
  refine List.ext_getElem (by rw [Array.length_toList,hacc.1,List.length_map]) fun j j1 j2 => ?_
  refine X11 (hacc.2 j acc'.toList[j] (by rw [<- Array.getElem?_toList,List.getElem?_eq_getElem j1])) fun e e1 e2 => ?_
  rw [List.length_map] at j2
  rw [List.getElem?_eq_getElem j2] at e1
  obtain rfl:=Option.some.inj e1
  rw [e2,List.getElem_map]
 have hall : ∀ v ∈ acc'.toList, ∃ x t,v = .str x t:=fun v hv => by
  rw [el] at hv
  refine X11 (List.mem_map.mp hv) fun e he q2 => ?_;subst q2
  refine Y2 (hel e (hperm.mem_iff.mp he)) fun q1 _ => X11 q1 fun k hk _ => ?_
  refine X10 (Value.isStrOf_shape hk) fun t q => ?_
  exact ⟨k,t,q⟩
 refine h h9 d9 k9 _ _ (fun b o' e => hm.heap b o' ?_ (oth b o' ?_ (ex2 _ _ (ex1 _ _ e)))) (strsAre_map _ hall) (fun k => ?_) ?_ ?_
 ·have hb0 : b < s.heap.objs.size:=Heap.lt_size e
  intro hm
  refine Or.elim (List.mem_cons.mp hm) (fun z => ?_) fun z => ?_
  ·exact Nat.ne_of_lt hb0 z
  ·rw [List.mem_singleton] at z
   have e' := ex1 _ _ e
   rw [z,show h1.get? I = none from hI] at e'
   exact nS e'
 ·exact Nat.ne_of_lt (Heap.lt_size e)
 ·rw [hmem k,el,List.map_map]
  constructor
  ·intro hk
   refine X11 (List.mem_map.mp hk) fun e he q2 => ?_;subst q2
   refine Y2 (hel e (hperm.mem_iff.mp he)) fun q1 _ => X11 q1 fun k hk _ => ?_
   obtain ⟨t,q⟩ := Value.isStrOf_shape hk
   refine ⟨e,hperm.mem_iff.mp he, ?_⟩
   show (kS w).is (strOf e.2) e.2 = true
   rw [q]
   rw [q] at hk
   exact hk
  ·rintro ⟨e,he,hk⟩
   refine X10 (Value.isStrOf_shape hk) fun t q => ?_
   exact List.mem_map.mpr ⟨e,hperm.mem_iff.mpr he,by show strOf e.2 = k;rw [q];rfl⟩
 ·rw [List.length_map,Array.length_toList,hacc.1,hol]
  exact hle
 ·rw [el,List.map_map]
  exact (hperm.map fun e => strOf e.2).nodup_iff.mpr hnd
theorem sortedSet (hh : A.handled = none) (ho : s.heap.get? a = some o) (hS : SetO w o ns) (h64 : ns.length < 64) {Q : Value -> Shared -> Prop}
  (h : ∀ (h' : Heap) d tk r vs ss n,Ext s.heap h' -> s.heap.get? r = none -> h'.get? r = some (W.listOf vs n) -> StrsAre vs.toList ss -> (∀ k,k ∈ ss ↔ k ∈ ns) -> ss.length <= ns.length -> ss.Nodup -> Q (.ref r) { s with heap:=h',drawn:=d,toks:=tk }) : wpAny (model vw w) A (call (.builtin "sorted") [.ref a]) Q E s:=by
 refine Calls.call_function_entry kind_sorted plain_sorted entry_sorted (args_sorted1 _) ?_
 unfold Builtin.«sorted»
 refine wpAny_bind (m:=checkCount "sorted" 1 1 _) (wpAny_pure ?_)
 refine wpAny_bind (collectSet (A:=A.in1) (by simp [hh]) ho hS fun h' d tk vs ss ex hSt hmem hlen hnd => ?_)
 have hvl : vs.length = ss.length:=hSt.length
 have hv64 : vs.length < 64:=by lia
 refine wpAny_bind (wpAny_newList ?_ (by rw [sizeLine_eq];lia))
 have hoL : (h'.push (seqObj "list" vs.toArray 0)).get? h'.objs.size = some (seqObj "list" vs.toArray 0):=Heap.get?_push_size _ rfl
 have ex1 : Ext h' (h'.push (seqObj "list" vs.toArray 0)):=fun b o e => Heap.get?_push_of_some _ e
 have hz : (h'.push (seqObj "list" vs.toArray 0)).objs.size = h'.objs.size + 1:=size_push' ..
 show wpAny _ _ _ _ _ { s with heap:=h'.push (seqObj "list" vs.toArray 0),drawn:=d,toks:=tk }
 refine wpAny_bind (wpAny_holding (wpAny_call_entry slot_list_sort ⟨_,hoL,rfl⟩ entry_list_sort (list_sort_treeK strKind_oneLt hoL hSt.keysOf (fun v₁ v₂ rest e => keyKind_strs (by rw [<- e];exact hSt)) hv64 fun st' a1 a2 => ⟨_,rfl, ?_⟩) (args_list_sort _)))
 refine X12 (sorted_out_str hSt a1 a2) fun ss' h1 h2 h3 => ?_
 refine X10 (sortedHeap_at (vs:=vs) (out:=(arrOf st').map (·.2)) hoL) fun e he => ?_
 refine wpAny_pure ⟨_,rfl,h _ d tk h'.objs.size _ ss' e (fun b o eb => ?_) ?_ he h1 (fun k => by rw [h2.mem_iff];exact hmem k) (by rw [h2.length_eq];exact hlen) (h2.nodup_iff.mpr hnd)⟩
 ·have hb0 : b < h'.objs.size:=Heap.lt_size (ex _ _ eb)
  dsimp only
  rw [sortedHeap_old (Nat.ne_of_lt hb0) (by rw [hz];exact Nat.lt_succ_of_lt hb0)]
  exact ex1 _ _ (ex _ _ eb)
 ·cases e : s.heap.get? h'.objs.size with
  | none => rfl
  | some o' => exact absurd (Heap.lt_size (ex _ _ e)) (Nat.lt_irrefl _)
end
section
variable {w : World} {C : Cx} {A : Around} {Γ Γ' : List (Option PV)} {led : Led} {s : Shared} {T : List Addr}
theorem callOne {f : Value} (hf : (∃ id,f = .builtin id) \/ ∃ T,f = .type T) {e : Expr} {pos : Pos} {env : Env} {Q E : Value -> Shared -> Prop} (he : starEach [e] env = [(false,eval e env)]) (h : wpAny (model vw w) A (eval e env) (fun v s' => wpAny (model vw w) A (call f [v]) Q E s') E s) :
  wpAny (model vw w) A (callWith pos f [] (backTo pos (starEach [e] env)) []) Q E s:=by
 have he' : starEach [e] env = (false,eval e env) :: starEach [] env:=he
 have pl : (backTo pos (starEach [e] env)).any (·.1) = false:=by rw [he];rfl
 have ev : ∀ Q' : PySem.Args -> Shared -> Prop,(∀ v s',wpAny (model vw w) A (call f [v]) Q E s' -> Q' ⟨[v], []⟩ s') -> wpAny (model vw w) A (evalArgs f true (backTo pos (starEach [e] env)) []) Q' E s:=fun Q' hq => by
  have : wpAny (model vw w) A (PySem.spliced (backTo pos (starEach [e] env))) (fun vs s' => Q' ⟨vs, []⟩ s') E s:=spliced_more (wpAny_mono h (fun v s' hv => spliced_none (hq v s' hv)) fun _ _ x => x) he'
  rw [he'] at this ⊢
  exact Calls.evalArgs_plain this
 rcases hf with ⟨id,rfl⟩ | ⟨T',rfl⟩
 ·exact Calls.callWith_builtin pl (ev _ fun v s' q => q)
 ·exact PyProof.Rows.callWith_type pl (ev _ fun v s' q => q)
noncomputable def PureX (T : List Addr) (w : World) (A : Around) (C : Cx) (Γ : List (Option PV)) (led : Led) (e : Expr) (P : PV -> Prop) : Prop :=
 ∀ (s : Shared) (Q E : Value -> Shared -> Prop),AS C Γ led s -> (∀ v s' pv,P pv -> Rep s'.heap (C.M led) pv v -> Gr T s s' -> AS C Γ led s' -> Q v s') -> wpAny (model vw w) A (eval e C.env) Q E s
theorem Run.letX (Z : CxOk w C) {K : Flow -> Shared -> Prop} {rest : List Stmt} {i : Nat} {x : Str} {p pos : Pos} {e : Expr} {P : PV -> Prop} (h : PureX T w A C Γ led e P) (hx : Nth C.nms i x) (hk : StK C x) (hs : swapsWith e (some (.Name x p)) pos.line C.env = pure false) (r : ∀ pv,P pv -> ∃ Γ',Put Γ i pv Γ' /\ Run w A C Γ' led rest K) : Run w A C Γ led (.Assign [.Name x p] e pos :: rest) K :=
 .st fun s a => wpAny_Assign_Name (h s _ _ a fun v s' pv hp rv g a' => by
  refine X11 (r pv hp) fun Γ' hΓ hr => ?_
  exact a'.set Z hx hk rv hΓ fun h2 k2 _ a2 => hr _ a2) hs
theorem range_getD {α : Type} (l : List α) (d : α) (n : Nat) (h : l.length = n) : (List.range n).map (fun i => l.getD i d) = l:=by
 subst h
 refine List.ext_getElem (by simp) fun i h1 h2 => ?_
 simp at h1 h2
 simp [h1]
theorem strsReps {h : Heap} {M : List Addr} : ∀ {vs : List Value} {ss : List Str},StrsAre vs ss -> Reps h M (ss.map .str) vs:=fun {vs ss} hS => by
 induction hS with
 | nil => exact .nil
 | cons x t _ ih => exact .cons (.str x t) ih
theorem PureX.sortedSet (Z : CxOk w C) (hh : A.handled = none) (hX : XOk T C) (hne : T ≠ []) (hT : Tabs T led) {x1 x2 : Str} {p1 p2 pos1 pos2 : Pos} {e : Expr} {ns : List Str} (h1 : Pure w A C Γ led (.Name x1 p1) (.val (.builtin "sorted"))) (h2 : Pure w A C Γ led (.Name x2 p2) (.val (.type "set"))) (h : PureT T w A C Γ led e (.lst (ns.map .str))) (hn : ns.length < 64)
  (he : starEach [e] C.env = [(false,eval e C.env)]) : PureX T w A C Γ led (.Call (.Name x1 p1) [.Call (.Name x2 p2) [e] [] pos2] [] pos1) fun pv => ∃ fr : List Str,pv = .lst (fr.map .str) /\ (∀ k,k ∈ fr ↔ k ∈ ns) /\ fr.length <= ns.length /\ fr.Nodup:=fun s Q E a q =>
 wpAny_Call_NameR (h1 s _ E a fun v g1 k1 r1 e1 a1 => by
  apply Rep.elV r1
  refine callOne (.inl ⟨_,rfl⟩) rfl (wpAny_Call_NameR (h2 _ _ E a1 fun v g2 k2 r2 e2 a2 => ?_))
  apply Rep.elV r2
  refine callOne (.inr ⟨_,rfl⟩) he (h _ _ E a2 fun v s3 r3 g3 a3 => ?_)
  apply Rep.elL r3;intro ad vs n el m rl
  have hvl:=rl.length
  rw [Array.length_toList,List.length_map] at hvl
  refine callSetS (val:=fun i => ns.getD i ⟨#[]⟩) hh ⟨_,el,rfl,_,rfl⟩ (fun i v hv => ?_) (by rw [hvl];exact Nat.lt_of_le_of_lt (Nat.succ_le_of_lt hn) (by decide)) fun h4 k4 o ho hO e4 => ?_
  ·have hi : i < ns.length:=by rw [<- hvl];exact (Array.getElem?_eq_some_iff.mp hv).1
   refine X11 (rl.at (i:=i) (p:=.str (ns.getD i ⟨#[]⟩)) (by simp [hi])) fun v' hv' rv => ?_
   rw [Array.getElem?_toList,hv] at hv'
   obtain rfl:=Option.some.inj hv'
   (apply Rep.elS rv;intro z9)
   exact ⟨_,rfl⟩
  ·have ex4 : Ext s3.heap h4:=fun b o e => e4 b o (Heap.lt_size e) e
   refine Mine.sortedSet (s := { s3 with heap:=h4,toks:=k4 }) hh ho hO (by rw [met_length,hvl];exact hn) fun h5 d5 k5 r vs5 ss n5 ex5 hr5 e5 hSt hmem hlen hnd => ?_
   have ex : Ext s3.heap h5:=ex4.trans ex5
   have g5 : Gr T s3 { s3 with heap:=h5,drawn:=d5,toks:=k5 } := ⟨fun b o _ e => ex b o e,fun z9 => rfl,fun z => absurd z hne,rfl⟩
   refine q _ _ _ ⟨ss,rfl,fun k => ?_, ?_,hnd⟩ (.lst e5 (fun z => ?_) (strsReps hSt)) ((Gr.pre e1 (.pre e2 g3)).trans g5) (a3.gr (C' := C) hT g5 (fun t ht => ?_) ?_)
   ·rw [hmem]
    unfold met
    rw [List.mem_reverse,hvl,range_getD ns _ _ rfl]
   ·rw [met_length,hvl] at hlen;exact hlen
   ·refine X10 (a3.alive Z _ z) fun o' e' => ?_
    have:=ex4 _ _ e'
    rw [show h4.get? r = none from hr5] at this;exact nS this
   ·refine X11 (a3.tabAt hT ht) fun ps e' k => ?_
    exact ⟨ps,ex _ _ e',k⟩
   ·exact hX s3 h5 k5 s3.gens d5 hne a3.x id)
end
section
variable {w : World} {C : Cx} {A : Around} {Γ Γ' Γ'' Γ₁ : List (Option PV)} {led led' : Led} {s : Shared} {T : List Addr}
theorem AS.swapG (Z : CxOk w C) (a : AS C Γ led s) {b : Addr} {l l' : LO} (U : Swap led b l l' led') {h' : Heap} {k : Nat} (hs : Heap.SameBut b s.heap h') (hnc : ∀ o,s.heap.get? b = some o -> ∀ v,o.data ≠ .cell v) (hn : ∃ o,h'.get? b = some o /\ RepO s.heap (C.M led) l' o) : AS C Γ led' { s with heap:=h',toks:=k } := by
 refine XAEA (a.lg _ U.mem) fun h0 ob eb rb => ?_
 dsimp only at h0 eb
 have hM : C.M led' = C.M led:=by show C.M₀ ++ _ = C.M₀ ++ _;rw [U.fst]
 have hb : b ∈ C.M led:=List.mem_append_right _ (List.mem_map_of_mem U.mem)
 have sk : SK (C.M led) s.heap h' := fun x o e _ m => (hs.2 x fun z => m (z ▸ hb)).trans e
 have ck : ∀ c v₀,s.heap.IsCell c v₀ -> h'.IsCell c v₀:=fun c v₀ ⟨o,q,dd⟩ => ⟨o,(hs.2 c (fun z => by rw [z] at q;exact hnc _ q _ dd)).trans q,dd⟩
 refine X11 a.fr fun m F hm => ?_
 refine ⟨⟨m, ?_,fun i x pv h1 h2 => ?_⟩,fun x o q => (hs.2 x fun z => by rw [z,h0] at q;exact nS q).trans (a.kp x o q),fun p hp => ?_,by rw [U.fst];exact a.nd,fun x c h1 h2 => (a.ce x c h1 h2).imp fun v q => ck c v q,fun p hp => (U.of p hp).elim (fun e => by rw [e];exact a.ll (b,l) U.mem) (a.ll p),Z.x _ _ _ a.x⟩
 ·refine X32 F fun o es ep q dd r => ?_
  exact ⟨o,es,ep,(hs.2 _ (fun z => a.ll _ U.mem z.symm)).trans q,dd,r⟩
 ·refine X11 (hm i x pv h1 h2) fun v h3 h4 => ?_
  refine ⟨v, ?_,by rw [hM];exact h4.keep sk fun _ _ _ q => q⟩
  refine Or.elim h3 (fun h3 => ?_) fun q1 => XAEA q1 fun h3 c h5 h6 => ?_
  ·exact .inl h3
  ·exact .inr ⟨h3,c,h5,ck c _ h6⟩
 ·by_cases hpb : p.1 = b
  ·have hpp : p = (b,l'):=by
    obtain ⟨p1,p2⟩ := p
    dsimp only at hpb
    subst hpb
    rw [key_inj (by rw [U.fst];exact a.nd) hp U.new]
   subst hpp
   refine X11 hn fun o e r => ?_
   exact ⟨h0,o,e,by rw [hM];exact r.keep sk fun _ _ _ q => q⟩
  ·rcases U.of p hp with e | hm'
   ·exact absurd (congrArg (·.1) e) hpb
   ·refine XAEA (a.lg p hm') fun q1 o q2 q3 => ?_
    exact ⟨q1,o,(hs.2 _ hpb).trans q2,by rw [hM];exact q3.keep sk fun _ _ _ q => q⟩
theorem stored_new {kvs : List (Str × Value)} {k : Str} {v : Value} (h : k ∉ kvs.map (·.1)) : stored kvs k v = kvs ++ [(k,v)]:=by
 unfold stored
 rw [if_neg]
 intro z
 refine X11 (List.any_eq_true.mp z) fun q hq e => ?_
 exact h (List.mem_map.mpr ⟨q,hq,by simpa using e⟩)
theorem zip_snoc {α β : Type} {a : List α} {b : List β} {x : α} {y : β} (h : a.length = b.length) : (a ++ [x]).zip (b ++ [y]) = a.zip b ++ [(x,y)]:=by
 rw [List.zip_append h];rfl
theorem Put.ex {p : PV} : ∀ {l : List (Option PV)} {n : Nat} {q : Option PV},Nth l n q -> ∃ l',Put l n p l' := fun {l n q} h => by
 induction h with
 | zero => exact ⟨_, .zero⟩
 | succ _ ih => refine X10 ih fun l' h => ?_;exact ⟨_, .succ h⟩
theorem dictRun (Z : CxOk w C) (hT : Tabs T led) {kx vx iter : Expr} {x : Str} {px : Pos} {scope : Scope} {pos : Pos} {D I c : Addr} {fp : List Addr} {n i0 : Nat} {P' : Nat -> Value -> Prop} {St : Nat -> Heap -> Prop} {P F : Nat -> PV} {ks : Nat -> Str} {R : Result -> Shared -> Prop} {s₁ : Shared}
  (W : Walks vw w A I fp [I] n P' St) (hcls : ∀ i h,St i h -> ∃ T vs d sl,h.get? I = some ⟨.type T,d, .fields vs,sl⟩ /\ ownT.contains T = false) (hI0 : C.h₀.get? I = none) (hIM : I ∉ led.M) (hID : I ≠ D) (hfp : ∀ b ∈ fp,b ≠ c /\ b ≠ D /\ b ∉ T)
  (hold : ∀ b o,s₁.heap.get? b = some o -> b ≠ c /\ b ≠ D /\ b ≠ I) (hit : ∀ i v,P' i v -> ∀ h,Ext C.h₀ h -> Rep h (C.M ((D, .dict w []) :: led)) (P i) v) (hn : n <= 1000)
  (hx : Nth C.nms i0 x) (hkx : C.env.kindOf x = some .cell) (hc : C.env.cells.lookup x = some c) (hΓ : Nth Γ i0 none) (hnd : ((List.range n).map ks).Nodup)
  (key : ∀ i l Γ₁,i < n -> Put Γ i0 (P i) Γ₁ -> Pure w A C Γ₁ ((D, .dict w l) :: led) kx (.str (ks i)))
  (val : ∀ i l Γ₁,i < n -> Put Γ i0 (P i) Γ₁ -> PureT T w A C Γ₁ ((D, .dict w l) :: led) vx (F i))
  (a : AS C Γ ((D, .dict w []) :: led) s) (hst : St 0 s.heap) (hk : Gr T s₁ s)
  (hR : ∀ s',AS C Γ ((D, .dict w ((List.range n).map fun i => (ks i,F i))) :: led) s' -> Gr T s₁ s' -> R (.ok .next) s') :
  codeAny (model vw w) A (.compLoop (.DictComp kx vx [⟨.Name x px,iter, [],0⟩] scope pos) 0 (.ref I) (.ref D) C.env) R s:=by
 have hTD : ∀ l,Tabs T ((D,LO.dict w l) :: led):=fun l => hT.tail
 obtain ⟨Γ₁f,hput⟩ : ∃ f : Nat -> List (Option PV), ∀ i,Put Γ i0 (P i) (f i):=⟨fun i => (Put.ex (p:=P i) hΓ).choose,fun i => (Put.ex (p:=P i) hΓ).choose_spec⟩
 refine codeAny_compLoop_testsD (fun k s' => ∃ i,AS C Γ ((D, .dict w ((List.range i).map fun i => (ks i,F i))) :: led) s' /\ St i s'.heap /\ Gr T s₁ s' /\ i <= n /\ k = n + 1 - i) ?_ (n + 1) ⟨0,a,hst,hk,Nat.zero_le _,rfl⟩
 intro k s' hq0
 refine byG fun G kG => ?_
 obtain ⟨i,a',st',ek,hi,rfl⟩ := hq0
 refine kG ?_;clear kG G
 refine byG fun G kG => ?_
 refine X41 (hcls _ _ st') fun _ _ _ _ eI' hTI => ?_
 refine kG ?_;clear kG G
 have hIM' : I ∉ Led.M ((D,LO.dict w ((List.range i).map fun i => (ks i,F i))) :: led):=fun hm => by
  refine Or.elim (List.mem_cons.mp hm) (fun hm => ?_) fun hm => ?_
  ·exact hID hm
  ·exact hIM hm
 have out : ∀ h₁ tk₁,(∀ b o,b ∉ [I] -> s'.heap.get? b = some o -> h₁.get? b = some o) -> AS C Γ ((D, .dict w ((List.range i).map fun i => (ks i,F i))) :: led) { s' with heap:=h₁,toks:=tk₁ } := fun h₁ tk₁ hk => a'.but Z eI' hIM' hI0 fun b o hb e => hk b o (fun q => hb (List.mem_singleton.mp q)) e
 by_cases hlt : i < n
 ·refine W.item i _ _ _ hlt st' fun v h₁ tk₁ hp st₁ hk₁ => ?_
  have a₁:=out h₁ tk₁ hk₁
  have e₁ : Gr T s₁ { s' with heap:=h₁,toks:=tk₁ } := ek.step fun b o _ e q => hk₁ b o (fun z => (hold b o e).2.2 (List.mem_singleton.mp z)) q
  refine wpAny_assign_Name (a₁.setC Z hx.at hkx hc (hit i v hp _ a₁.kp) fun h₂ k₂ b₂ sk₂ a₂ => ?_)
  rw [<- (hput i).set] at a₂
  have e₂ : Gr T s₁ { s' with heap:=h₂,toks:=k₂ } := e₁.step fun b o _ e q => b₂ b o (hold b o e).1 q
  have st₂ : St (i + 1) h₂:=W.frame _ _ _ st₁ fun b hb o e => b₂ b o (hfp b hb).1 e
  rw [List.forIn_nil]
  refine wpAny_pure ?_
  rw [if_pos rfl]
  refine key i _ _ hlt (hput i) _ _ _ a₂ fun kv h₃ k₃ r₃ x₃ a₃ => ?_
  (apply Rep.elS r₃;intro z9)
  have st₃ : St (i + 1) h₃:=W.frame _ _ _ st₂ fun b hb o e => x₃ b o e
  have e₃ : Gr T s₁ { s' with heap:=h₃,toks:=k₃ } := e₂.step fun b o _ e q => x₃ b o q
  refine val i _ _ hlt (hput i) _ _ _ a₃ fun vv s₄ r₄ g₄ a₄ => ?_
  refine byG fun G kG => ?_
  refine XAEAEA (a₄.lg _ List.mem_cons_self) fun _ oD eD vs hD rs => ?_
  refine kG ?_;clear kG G
  dsimp only at eD
  have hvl : vs.length = i:=by have:=rs.length;simpa using this
  have hkn : ks i ∉ (((((List.range i).map fun i => (ks i,F i)).map (·.1)).zip vs).map (·.1)):=fun hm => by
   rw [List.map_fst_zip (by simp [hvl]),List.map_map] at hm
   have hs : ((List.range (i + 1)).map ks).Nodup:=hnd.sublist (List.Sublist.map _ (List.range_sublist.mpr hlt))
   rw [List.range_succ,List.map_append,List.map_singleton] at hs
   exact (List.nodup_append.mp hs).2.2 _ hm _ (List.mem_singleton.mpr rfl) rfl
  refine wpAny_dictSet_pairs (knd:=PySem.strKind vw w) (k:=ks i) (by simp [PySem.strKind,Value.isStrOf]) (Heap.dictOf_iff.mpr ⟨oD,eD,hD⟩) (fun h₅ hd₅ hs₅ => ?_) (by rw [List.length_zip,hvl,sizeLine_eq];simp;lia)
  rw [stored_new hkn] at hd₅
  refine X11 (Heap.dictOf_iff.mp hd₅) fun o5 e5 hD5 => ?_
  have a₅:=a₄.swapG (k:=s₄.toks + 1) Z (Swap.head (y:=.dict w ((List.range (i + 1)).map fun i => (ks i,F i)))) hs₅ (fun o e v d => by
   rw [eD] at e;obtain rfl:=Option.some.inj e
   refine X22 hD fun es ep _ d2 _ => ?_
   rw [d2] at d;exact Data.noConfusion d) ⟨o5,e5,vs ++ [vv],by
    rw [List.range_succ,List.map_append,List.map_append,List.map_singleton,List.map_singleton,zip_snoc (by simp [hvl])];exact hD5,by
    rw [List.range_succ,List.map_append,List.map_append];exact rs.snoc r₄⟩
  refine ⟨n + 1 - (i + 1),by lia,i + 1,a₅.forget ((hput i).sub hΓ),W.frame _ _ _ st₃ fun b hb o e => (hs₅.2 b (hfp b hb).2.1).trans (g₄.ext b o (hfp b hb).2.2 e),(e₃.trans g₄).step (k:=s₄.toks + 1) fun b o _ e q => (hs₅.2 b (hold b o e).2.1).trans q,hlt,rfl⟩
 ·have hin : i = n:=by lia
  subst hin
  refine W.done _ _ _ st' fun h₁ tk₁ hk₁ => ?_
  exact hR _ (out h₁ tk₁ hk₁) (ek.step fun b o _ e q => hk₁ b o (fun z => (hold b o e).2.2 (List.mem_singleton.mp z)) q)
theorem AS.grD {s' : Shared} (Z : CxOk w C) (a : AS C Γ led s) (hT : Tabs T led) (g : Gr T s s') (ht : ∀ t ∈ T, ∃ ps,s'.heap.get? t = some (tabObj ps) /\ TriplesOk ps.toList) (x : C.X s') {D : Addr} {lo : LO} {o : Obj} (hD : s.heap.get? D = none) (eD : s'.heap.get? D = some o) (rD : RepO s'.heap (C.M ((D,lo) :: led)) lo o) : AS C Γ ((D,lo) :: led) s' := by
 have a' : AS C Γ led s' := a.gr (C' := C) hT g ht x
 have sk : SK (C.M led) s.heap s'.heap:=g.sk hT
 have mm : ∀ b o,s.heap.get? b = some o -> b ∉ C.M led -> b ∉ C.M ((D,lo) :: led):=fun b o e m z => by
  refine Or.elim (List.mem_append.mp z) (fun z => ?_) fun z => ?_
  ·exact m (List.mem_append_left _ z)
  ·refine Or.elim (List.mem_cons.mp z) (fun z => ?_) fun z => ?_
   ·rw [z,hD] at e;exact nS e
   ·exact m (List.mem_append_right _ z)
 have nT : ∀ b,(∀ p ∈ led,p.1 ≠ b) -> b ∉ T:=fun b h z => h _ (hT b z) rfl
 have ck : ∀ c v₀,s.heap.IsCell c v₀ -> s'.heap.IsCell c v₀:=fun c v₀ ⟨o,q,dd⟩ => ⟨o,g.ext c o (fun z => by
  refine X11 (a.tabAt hT z) fun ps e _ => ?_
  rw [e] at q;obtain rfl:=Option.some.inj q;exact Data.noConfusion dd) q,dd⟩
 refine X11 a.fr fun m F hF => ?_
 refine ⟨⟨m, ?_,fun i x pv h1 h2 => ?_⟩,a'.kp,fun p hp => ?_,List.nodup_cons.mpr ⟨fun z => ?_,a.nd⟩,a'.ce,fun p hp => ?_,a'.x⟩
 ·refine X32 F fun o es ep q dd r => ?_
  exact ⟨o,es,ep,g.ext _ _ (nT _ a.ll) q,dd,r⟩
 ·refine X11 (hF i x pv h1 h2) fun v h3 h4 => ?_
  refine ⟨v, ?_,h4.keep sk mm⟩
  refine Or.elim h3 (fun h3 => ?_) fun q1 => XAEA q1 fun h3 c h5 h6 => ?_
  ·exact .inl h3
  ·exact .inr ⟨h3,c,h5,ck c _ h6⟩
 ·rcases List.mem_cons.mp hp with rfl | hp
  ·exact ⟨noneSub a.kp hD,o,eD,rD⟩
  ·by_cases hp1 : p.1 ∈ T
   ·have e2 : p.2 = .tab:=key_inj a.nd (show (p.1,p.2) ∈ led from hp) (hT _ hp1)
    obtain ⟨p1,p2⟩ := p
    dsimp only at hp1 e2
    subst e2
    refine X11 (ht _ hp1) fun ps e k => ?_
    exact ⟨(a.lg _ hp).1,_,e,ps,rfl,k⟩
   ·refine XAEA (a.lg p hp) fun h2 o h3 h4 => ?_
    exact ⟨h2,o,g.ext _ _ hp1 h3,h4.keep sk mm⟩
 ·refine X11 (List.mem_map.mp z) fun q hq e => ?_
  refine XAEA (a.lg q hq) fun _ o h3 _ => ?_
  rw [e,hD] at h3;exact nS h3
 ·rcases List.mem_cons.mp hp with rfl | hp
  ·exact a.notL hD
  ·exact a.ll p hp
theorem EvC.dict (Z : CxOk w C) (hT : Tabs T led) {kx vx iter : Expr} {x : Str} {px : Pos} {scope : Scope} {pos spos : Pos} {cl : List (Str × Addr)} {n i0 : Nat} {P : Nat -> PV} (hs : Src w A C Γ led iter n P) (hclos : closureFor scope C.env = pure cl) (hkind : scope.kind = .function)
  (hnames : ∀ y ∈ scope.names,y.2 = .local -> scope.names.lookup y.1 = some .local) (hf : ∀ x,foldedSetIterable iter C.env x = pure x) (nms : List Str) (Γ₀ : List (Option PV)) (nd : nms.Nodup) (dbg : ∀ x ∈ nms,(x == ("__debug__" : Str)) = false)
  (hcl : ∀ q ∈ cl,q ∈ C.env.cells /\ C.env.kindOf q.1 = some .cell)
  (hfree : ∀ (Cn : Addr) (i : Nat) (x : Str) (pv : PV),nms[i]? = some x -> Γ₀[i]? = some (some pv) -> (compEnvC scope (cellsFrom (Cn + 1) scope.names cl) Cn C.env).kindOf x = some .cell /\ C.env.kindOf x = some .cell /\ (∃ c,(cellsFrom (Cn + 1) scope.names cl).lookup x = some c /\ C.env.cells.lookup x = some c) /\ ∃ j : Nat,C.nms[j]? = some x /\ Γ[j]? = some (some pv))
  (hx : Nth nms i0 x) (hΓ : Nth Γ₀ i0 none) (hxk : ∀ Cn,(compEnvC scope (cellsFrom (Cn + 1) scope.names cl) Cn C.env).kindOf x = some .cell) (hxc : ∀ Cn : Addr,(cellsFrom (Cn + 1) scope.names cl).lookup x = some (Cn + 1))
  (ks : Nat -> Str) (F : Nat -> PV) (hn : n <= 1000) (hnd : ((List.range n).map ks).Nodup)
  (key : ∀ (g : Heap) (Cn D : Addr) (i : Nat) (l : List (Str × PV)) Γ₁,CxOk w (C.inner g scope (cellsFrom (Cn + 1) scope.names cl) Cn nms) -> i < n -> Put Γ₀ i0 (P i) Γ₁ -> Pure w A (C.inner g scope (cellsFrom (Cn + 1) scope.names cl) Cn nms) Γ₁ ((D, .dict w l) :: led) kx (.str (ks i)))
  (val : ∀ (g : Heap) (Cn D : Addr) (i : Nat) (l : List (Str × PV)) Γ₁,CxOk w (C.inner g scope (cellsFrom (Cn + 1) scope.names cl) Cn nms) -> i < n -> Put Γ₀ i0 (P i) Γ₁ -> PureT T w A (C.inner g scope (cellsFrom (Cn + 1) scope.names cl) Cn nms) Γ₁ ((D, .dict w l) :: led) vx (F i)) :
  EvC T w A C Γ led (fun use => comprehension (.DictComp kx vx [⟨.Name x px,iter, [],0⟩] scope pos) scope C.env spos newDict false (eval iter C.env) use) fun l q => ∃ D,l = (D, .dict w ((List.range n).map fun i => (ks i,F i))) :: led /\ q = .val (.ref D) /\ ∀ b o,C.h₀.get? b = some o -> b < D:=fun use s Q E a q => by
 refine comp_in (lo:=.dict w []) (oA := { cls:=.type "dict",dict:=none,data:=.dict #[] }) Z hT rfl (fun s Q E h => wpAny_newObj_type h) (fun h M => ⟨[],⟨#[],0,⟨rfl,rfl,rfl⟩,rfl,fun e he => by simp at he, .nil, .nil⟩, .nil⟩) rfl (fun _ _ _ _ _ h1 h2 => codeAny_compStart_dict h1 h2) hs hclos hkind hnames hf nms Γ₀ nd dbg hcl hfree a fun g Cn D I fp P' St s₁ s₃ K => ?_
 obtain ⟨Wk,cls,gI,IM,ID,fpo,hold,hit,ZK,aK,st,gr,a1,g1,n1,D1,bd⟩ := K
 refine dictRun (T:=T) (s₁:=s₁) (P:=P) (F:=F) (ks:=ks) (c:=Cn + 1) ZK hT Wk cls gI IM ID (fun b hb => let ⟨x,y,z,u⟩ := fpo b hb; ⟨Nat.ne_of_lt (Nat.lt_succ_of_lt u),y,z⟩) (fun b o e => let ⟨x,y,z,u⟩ := hold b o e; ⟨Nat.ne_of_lt (Nat.lt_succ_of_lt u),y,z⟩) hit hn hx (hxk Cn) (hxc Cn) hΓ hnd (fun i l Γ₁ hi hp => key g Cn D i l Γ₁ ZK hi hp) (fun i l Γ₁ hi hp => val g Cn D i l Γ₁ ZK hi hp) aK st gr (fun s₄ a₄ e₄ => ?_)
 refine X11 (id a₄.fr) fun m Fm _ => ?_
 refine XAEA (a₄.lg _ List.mem_cons_self) fun _ oD eD rD => ?_
 refine q s₄ _ Cn m _ _ ⟨D,rfl,rfl,fun b o e => bd b o (a1.kp b o e)⟩ n1 (fun z => ?_) Fm (g1.trans e₄) (a1.grD Z hT e₄ (fun t ht => a₄.tabAt hT.tail ht) a₄.x D1 eD rD) (.val _)
 refine Or.elim (List.mem_cons.mp z) (fun z => ?_) fun z => ?_
 ·exact a₄.ll _ List.mem_cons_self z.symm
 ·refine X10 (a1.alive Z _ (List.mem_append_right _ z)) fun o e => ?_
  exact (hold _ _ e).1 rfl
end
noncomputable def Dk (n : Nat) (p : PV) : Prop := ∃ d,Dat p d /\ d.canLay0 = true /\ d.depth <= n
theorem Dk.str {x : Str} (h : PyData.strOk x = true) : Dk 0 (.str x):=⟨_, .str x,by simp [PyData.canLay0,h],by simp [PyData.depth]⟩
theorem Dk.none : Dk 0 PV.none:=⟨_, .none,by simp [PyData.canLay0],by simp [PyData.depth]⟩
theorem Dk.lst {n : Nat} {l : List PV} (h : ∀ p ∈ l,Dk n p) : Dk (n + 1) (.lst l):=by
 have : ∃ ds,DatAll l ds /\ PyData.canLayAll0 ds = true /\ PyData.depthAll ds <= n:=by
  induction l with
  | nil => exact ⟨_, .nil,by simp [PyData.canLayAll0],by simp [PyData.depthAll]⟩
  | cons p l ih =>
   refine X12 (ih fun q hq => h q (List.mem_cons_of_mem _ hq)) fun ds h1 h2 h3 => ?_
   refine X12 (h p List.mem_cons_self) fun d d1 d2 d3 => ?_
   exact ⟨d :: ds, .cons d1 h1,by rw [PyData.canLayAll0,d2,h2];rfl,by rw [PyData.depthAll];omega⟩
 refine X12 this fun ds h1 h2 h3 => ?_
 exact ⟨_, .lst h1,by rw [PyData.canLay0];exact h2,by rw [PyData.depth];omega⟩
section
variable {w : World} {C : Cx} {A : Around} {Γ Γ' Γ'' Γ₁ : List (Option PV)} {led led' : Led} {s : Shared} {T : List Addr}
theorem valueAt_cons {x k : Str} {v : Value} {r : List (Str × Value)} : valueAt ((x,v) :: r) k = if x = k then some v else valueAt r k:=by
 unfold valueAt
 rw [List.find?_cons]
 by_cases h : x = k
 ·simp [h]
 ·simp [h]
theorem valueAt_zip {h : Heap} {M : List Addr} : ∀ {kvs : List (Str × PV)} {vs : List Value} {k : Str},Reps h M (kvs.map (·.2)) vs -> (∃ pv v,kvs.lookup k = some pv /\ valueAt ((kvs.map (·.1)).zip vs) k = some v /\ Rep h M pv v) \/ (kvs.lookup k = none /\ valueAt ((kvs.map (·.1)).zip vs) k = none):=fun {kvs} => by
 induction kvs with
 | nil => intro vs k r;apply Reps.elN r;exact .inr ⟨rfl,rfl⟩
 | cons q r ih =>
  obtain ⟨x,p⟩ := q
  intro vs k rs
  cases rs with
  | @cons _ v _ vs r1 rs =>
   rw [List.map_cons,List.zip_cons_cons,valueAt_cons,List.lookup_cons]
   by_cases e : x = k
   ·subst e
    rw [if_pos rfl,beq_self_eq_true]
    exact .inl ⟨p,v,rfl,rfl,r1⟩
   ·rw [if_neg e,beq_eq_false_iff_ne.mpr (Ne.symm e)]
    exact ih rs
theorem AS.drop {q : Addr × LO} (a : AS C Γ (q :: led) s) : AS C Γ led s:=by
 have mm : ∀ b o,s.heap.get? b = some o -> b ∉ C.M (q :: led) -> b ∉ C.M led:=fun b o e m z => m (by
  refine Or.elim (List.mem_append.mp z) (fun z => ?_) fun z => ?_
  ·exact List.mem_append_left _ z
  ·exact List.mem_append_right _ (List.mem_cons_of_mem _ z))
 refine X11 a.fr fun m F hF => ?_
 refine ⟨⟨m,F,fun i x pv h1 h2 => ?_⟩,a.kp,fun p hp => ?_,(List.nodup_cons.mp a.nd).2,a.ce,fun p hp => a.ll p (List.mem_cons_of_mem _ hp),a.x⟩
 ·refine X11 (hF i x pv h1 h2) fun v h3 h4 => ?_
  exact ⟨v,h3,h4.keep (Ext.sk noExt) mm⟩
 ·refine XAEA (a.lg p (List.mem_cons_of_mem _ hp)) fun h2 o h3 h4 => ?_
  exact ⟨h2,o,h3,h4.keep (Ext.sk noExt) mm⟩
noncomputable def PureL (T : List Addr) (w : World) (A : Around) (C : Cx) (Γ : List (Option PV)) (led : Led) (e : Expr) (P : Led -> PV -> Prop) : Prop :=
 ∀ (s : Shared) (Q E : Value -> Shared -> Prop),AS C Γ led s -> (∀ v s' led' pv,P led' pv -> Rep s'.heap (C.M led') pv v -> Gr T s s' -> AS C Γ led' s' -> Q v s') -> wpAny (model vw w) A (eval e C.env) Q E s
theorem EvC.pureL (Z : CxOk w C) {X : Option (Value -> Sem Unit) -> Sem Value} {e : Expr} {P : Led -> PV -> Prop} (h : EvC T w A C Γ led X P) (he : eval e C.env = X none) : PureL T w A C Γ led e P:=fun s Q E a q => by
 rw [he]
 refine h none s Q E a fun s₄ v Cn m led' pv' hp hn hm F g a4 r => ?_
 refine ⟨m,F,fun h' hs => ?_⟩
 refine Y2 (a4.butN (k:=s₄.toks) Z F (a.notL hn) hm (noneSub a.kp hn) hs) fun a5 sk => ?_
 exact q v _ _ _ hp (r.keep sk fun _ _ _ z => z) (g.step (k:=s₄.toks) fun b o _ e q => hs.extBut b o (fun z => by rw [z,hn] at e;exact nS e) q) a5
theorem keqHits {h : Heap} {M : List Addr} {kb : List (Str × PV)} {vb : List Value} (hu : A.in1.units + 64 < cLine) (hs : s.heap = h) (rb : Reps h M (kb.map (·.2)) vb) : ∀ {ka : List (Str × PV)} {va : List Value},Reps h M (ka.map (·.2)) va -> (∀ q ∈ ka,kb.lookup q.1 = some q.2 /\ Dk 64 q.2) -> KeqHits A.in1 s ((kb.map (·.1)).zip vb) ((ka.map (·.1)).zip va) true:=fun {ka} => by
 induction ka with
 | nil => intro va ra h;apply Reps.elN ra;exact .nil
 | cons q r ih =>
  obtain ⟨x,p⟩ := q
  intro va ra hq
  cases ra with
  | @cons _ v _ vs r1 ra =>
   refine XAEA (hq _ List.mem_cons_self) fun hx d d1 q8 => Y2 q8 fun d2 d3 => ?_
   have sh : SeqAt.shaped d = true:=by unfold SeqAt.shaped;rw [d2,decide_eq_true d3];rfl
   refine Or.elim (valueAt_zip (k:=x) rb) (fun q1 => X22 q1 fun pv y e1 e2 r2 => ?_) fun q2 => Y2 q2 fun e1 _ => ?_
   ·rw [hx] at e1
    obtain rfl:=Option.some.inj e1
    obtain ⟨as,h1⟩ := r1.reads d1
    refine X10 (r2.reads d1) fun bs h2 => ?_
    subst hs
    have:=keq_at h1 h2 sh sh hu
    rw [PySem.SeqAt.eqv_refl d d2] at this
    exact .hit (e:=true) (b:=true) e2 this (ih ra fun q hq' => hq q (List.mem_cons_of_mem _ hq'))
   ·rw [hx] at e1;exact nS e1.symm
theorem lookup_nodup : ∀ {kvs : List (Str × PV)},(kvs.map (·.1)).Nodup -> ∀ q ∈ kvs,kvs.lookup q.1 = some q.2:=fun {kvs} => by
 induction kvs with
 | nil => intro _ q hq;cases hq
 | cons p r ih =>
  obtain ⟨x,v⟩ := p
  intro hn q hq
  rw [List.map_cons,List.nodup_cons] at hn
  rw [List.lookup_cons]
  rcases List.mem_cons.mp hq with rfl | hq
  ·rw [beq_self_eq_true]
  ·rw [beq_eq_false_iff_ne.mpr fun z : q.1 = x => hn.1 (by show x ∈ _;rw [<- z];exact List.mem_map_of_mem hq)]
   exact ih hn.2 q hq
theorem Test.neDict (Z : CxOk w C) {l r : Expr} {pos : Pos} {D : Addr} {kvs : List (Str × PV)} (hT : Tabs [] led) (hD : (D,LO.dict w kvs) ∈ led) (hsys : D ≠ sysModules) (h1 : Pure w A C Γ led l (.val (.ref D))) (h2 : PureL [] w A C Γ led r fun ld q => ∃ D',ld = (D', .dict w kvs) :: led /\ q = .val (.ref D') /\ D' ≠ sysModules) (hk : ∀ q ∈ kvs,Dk 64 q.2) (hu : A.in1.units + 64 < cLine) (hu2 : A.units < cLine)
  (hm : behindInMarks .NotEq r = false:=by with_unfolding_all rfl) : Test w A C Γ led (.Compare l [.NotEq] [r] pos) false:=fun s Q E a q =>
 wpAny_isTrue_Compare1 (h1 s _ E a fun va ha ka ra ea aa => h2 _ _ E aa fun vb s2 led' pv hp rb g2 a2 => by
  refine X12 hp fun D' q1 q2 hs2 => ?_;subst q1;subst q2
  apply Rep.elV ra
  apply Rep.elV rb
  refine XAEAEA (a2.lg _ (List.mem_cons_of_mem _ hD)) fun _ o1 e1 v1 i1 r1 => ?_
  refine XAEAEA (a2.lg _ List.mem_cons_self) fun _ o2 e2 v2 i2 r2 => ?_
  dsimp only at e1 e2
  have hnd : (kvs.map (·.1)).Nodup:=by
   refine X22 i2 fun es ep _ _ q8 => Y3 q8 fun _ _ n => ?_
   rwa [List.map_fst_zip (by have:=r2.length;simpa using Nat.le_of_eq this.symm)] at n
  have hl1:=r1.length
  have hl2:=r2.length
  refine keq_ne (knd:=PySem.strKind vw w) (r:=Bool.true) ?_ ?_ (Heap.dictOf_iff.mpr ⟨o1,e1,i1⟩) (Heap.dictOf_iff.mpr ⟨o2,e2,i2⟩) hu2 (fun z9 => keqHits hu rfl r2 r1 fun q hq => ⟨lookup_nodup hnd q hq,hk q hq⟩) ?_
  ·exact beq_eq_false_iff_ne.mpr hsys
  ·exact beq_eq_false_iff_ne.mpr hs2
  ·have hz : (((kvs.map (·.1)).zip v1).length == ((kvs.map (·.1)).zip v2).length && Bool.true) = Bool.true:=by simp [hl1,hl2]
   rw [hz]
   refine wpAny_truthy_bool ?_
   have e:=g2.eq
   have e2 : Ext ha s2.heap:=fun b o q => g2.ext b o (fun z => nomatch z) q
   rw [e] at a2
   rw [e]
   exact q s2.heap s2.toks (ea.trans e2) a2.drop) hm
theorem Pure.getDict (Z : CxOk w C) {o ke de : Expr} {apos pos : Pos} {D : Addr} {kvs : List (Str × PV)} {k : Str} {dv r : PV} (hD : (D,LO.dict w kvs) ∈ led) (hsys : D ≠ sysModules) (h1 : Pure w A C Γ led o (.val (.ref D))) (hk : Pure w A C Γ led ke (.str k)) (hd : Pure w A C Γ led de dv) (hr : (kvs.lookup k).getD dv = r)
  (htrees : backTo pos (starEach [ke,de] C.env) = [(false,eval ke C.env),(false,eval de C.env)])
  (he : ∃ pl : Sem Bool,eval (.Call (.Attribute o (Str.ofString "get") apos) [ke,de] [] pos) C.env = (do
   let ov <- eval o C.env
   standAt apos.atName
   let (f,first) <- holding [ov] (getMethod ov (Str.ofString "get") pl)
   callWith pos f first (backTo pos (starEach [ke,de] C.env)) (backToKw pos (keywordEach [] C.env)))) : Pure w A C Γ led (.Call (.Attribute o (Str.ofString "get") apos) [ke,de] [] pos) r:=fun s Q E a q => by
 obtain ⟨pl,he⟩ := he
 refine methodCall_KW (h1 s _ E a fun v h1 k1 r1 e1 a1 => ?_) he
 apply Rep.elV r1
 refine byG fun G kG => ?_
 refine XAEAEA (a1.lg _ hD) fun h0 o1 eo v1 i1 rs => ?_
 refine kG ?_;clear kG G
 dsimp only at eo h0
 have hdo : Heap.DictOf (PySem.strKind vw w) h1 D ((kvs.map (·.1)).zip v1):=Heap.dictOf_iff.mpr ⟨o1,eo,i1⟩
 refine getMethod_builtin hdo.typeIs PySem.F.plainAttrs_dict PySem.F.slot_dict_get PySem.F.type_dict_get hdo.mapOf.noDict ?_
 rw [htrees]
 refine wpAny_dict_get2 (knd:=PySem.strKind vw w) (beq_eq_false_iff_ne.mpr hsys) (hk _ _ E a1 fun kv h2 k2 r2 e2 a2 => hd _ _ E a2 fun dvv h3 k3 r3 e3 a3 => ?_)
 (apply Rep.elS r2;intro z9)
 have ex : Ext h1 h3:=e2.trans e3
 have rs3:=Reps.keep (M' := C.M led) (Ext.sk ex) (fun _ _ _ m => m) rs
 refine ⟨k,_,by simp [PySem.strKind,Value.isStrOf],(hdo.keep ex).mapOf, ?_⟩
 refine Or.elim (valueAt_zip (k:=k) rs3) (fun q1 => X22 q1 fun pv y g1 g2 g3 => ?_) fun q2 => Y2 q2 fun g1 g2 => ?_
 ·rw [g1] at hr
  rw [g2]
  cases hr
  exact q _ h3 (k3 + 1) g3 (e1.trans ex) (a3.ext Z noExt)
 ·rw [g1] at hr
  rw [g2]
  cases hr
  exact q _ h3 (k3 + 1) r3 (e1.trans ex) (a3.ext Z noExt)
end
noncomputable def gtL : List Int -> List Int -> Bool
 | x :: xs,y :: ys => if x = y then gtL xs ys else decide (y < x)
 | _ :: _, [] => true
 | [],_ => false
section
open MeetsSeq MeetsSeq2 MeetsSeq3 SeqRoads2 SeqAt
open AutoSeq1 (wpAny_loadPart')
theorem gt_loop (l b : Addr) (items items2 : Array Value) (n n2 : Nat) (ns ms : List Int) (ia : IntsAre items.toList ns) (ib : IntsAre items2.toList ms) (k : Nat) :
  ∀ i : Nat,items.size - i = k -> i <= items.size -> i <= items2.size -> Meets (Builtin.«list.__eq__.loop» ⟨[.ref l, .ref b,rawInt i,rawInt 4], []⟩)
   (fun A R s => s.heap.get? l = some (W.listOf items n) /\ s.heap.get? b = some (W.listOf items2 n2) /\ R (.ok (.ret (.bool (gtL (ns.drop i) (ms.drop i))))) s):=by
 have la : items.size = ns.length:=by have:=ia.length;simpa using this
 have lb : items2.size = ms.length:=by have:=ib.length;simpa using this
 induction k with
 | zero =>
  intro i hk hi1' hi2' prog w A R s h
  obtain ⟨hp,g,d,tk,os⟩ := s;refine Y3 h fun hl hb h => ?_
  repeat (first | ((with_reducible show wpAny _ _ (loadPart _ _) _ _ _;first | apply AutoSeq1.wpAny_loadPart' hl | apply AutoSeq1.wpAny_loadPart' hb)) | k_extra "A")
  have hi1 : items[((i : Nat) : Int).toNat]? = none:=by simp;lia
  have hd : ns.drop i = []:=List.drop_of_length_le (by lia)
  rw [hd] at h
  rw [hi1]
  repeat (first | ((with_reducible show wpAny _ _ (loadPart _ _) _ _ _;first | apply AutoSeq1.wpAny_loadPart' hl | apply AutoSeq1.wpAny_loadPart' hb)) | k_extra "A")
  show R (.ok (.ret (.bool (decide (items.size > items2.size))))) _
  have e : decide (items.size > items2.size) = false:=decide_eq_false (by lia)
  rw [e]
  exact h
 | succ k ih =>
  intro i hk hi1' hi2' prog w A R s h
  obtain ⟨hp,g,d,tk,os⟩ := s;refine Y3 h fun hl hb h => ?_
  have hlt : i < items.size:=by lia
  have hn : i < ns.length:=by lia
  have hi1 : items[((i : Nat) : Int).toNat]? = some items[i]:=by simp [hlt]
  refine X21 (ia.at i items[i] (by simp [hlt])) fun x t ex nx => ?_
  have hd : ns.drop i = x :: ns.drop (i + 1):=by
   rw [List.drop_eq_getElem_cons hn]
   rw [List.getElem?_eq_getElem hn] at nx
   obtain rfl:=Option.some.inj nx;rfl
  by_cases hlt2 : i < items2.size
  ·have hm : i < ms.length:=by lia
   have hi2 : items2[((i : Nat) : Int).toNat]? = some items2[i]:=by simp [hlt2]
   refine X21 (ib.at i items2[i] (by simp [hlt2])) fun y u ey ny => ?_
   have hd2 : ms.drop i = y :: ms.drop (i + 1):=by
    rw [List.drop_eq_getElem_cons hm]
    rw [List.getElem?_eq_getElem hm] at ny
    obtain rfl:=Option.some.inj ny;rfl
   have hc : ((i : Int) + 1) = ((i + 1 : Nat) : Int):=by push_cast;rfl
   rw [hd,hd2] at h
   unfold gtL at h
   repeat (first | ((with_reducible show wpAny _ _ (loadPart _ _) _ _ _;first | apply AutoSeq1.wpAny_loadPart' hl | apply AutoSeq1.wpAny_loadPart' hb)) | k_extra "A")
   rw [hi1,hi2,ex,ey]
   refine wpAny_bind (SeqAt.EqAt.int_int x t y u prog w _ _ ?_)
   by_cases e : x = y
   ·rw [if_pos e] at h
    subst e
    rw [beq_self_eq_true]
    repeat (k_extra "A")
    rw [hc]
    exact ⟨plainId_quiet plain_eq_loop _,codeAny_builtin entry_eq_loop (by
     rw [Around.under_plainId plain_eq_loop _]
     exact ih (i + 1) (by lia) (by lia) (by lia) prog w A R _ ⟨hl,hb,h⟩)⟩
   ·rw [if_neg e] at h
    rw [show (x == y) = false by simpa using e]
    repeat (first | ((with_reducible show wpAny _ _ (loadPart _ _) _ _ _;first | apply AutoSeq1.wpAny_loadPart' hl | apply AutoSeq1.wpAny_loadPart' hb)) | k_extra "A")
    rw [hi1,hi2,ex,ey]
    refine wpAny_bind (PyProof.Rows.gt_int ?_)
    repeat (k_extra "A")
  ·have hm : ms.drop i = []:=List.drop_of_length_le (by lia)
   have hi2 : items2[((i : Nat) : Int).toNat]? = none:=by simp;lia
   rw [hd,hm] at h
   repeat (first | ((with_reducible show wpAny _ _ (loadPart _ _) _ _ _;first | apply AutoSeq1.wpAny_loadPart' hl | apply AutoSeq1.wpAny_loadPart' hb)) | k_extra "A")
   rw [hi1,hi2]
   repeat (first | ((with_reducible show wpAny _ _ (loadPart _ _) _ _ _;first | apply AutoSeq1.wpAny_loadPart' hl | apply AutoSeq1.wpAny_loadPart' hb)) | k_extra "A")
   show R (.ok (.ret (.bool (decide (items.size > items2.size))))) _
   have e : decide (items.size > items2.size) = true:=decide_eq_true (by lia)
   rw [e]
   exact h
theorem list_gtI (l b : Addr) (items items2 : Array Value) (n n2 : Nat) (ns ms : List Int) (ia : IntsAre items.toList ns) (ib : IntsAre items2.toList ms) :
  Meets (Builtin.«list.__gt__» ⟨[.ref l, .ref b], []⟩)
   (fun A R s => s.heap.get? l = some (W.listOf items n) /\ s.heap.get? b = some (W.listOf items2 n2) /\ R (.ok (.ret (.bool (gtL ns ms)))) s):=by
 intro prog w A R s h
 obtain ⟨hp,g,d,tk,os⟩ := s;obtain ⟨hl,hb,h⟩ := h
 have f3:=AutoSeq1.sub_list_list
 repeat (first | ((with_reducible show wpAny _ _ (loadPart _ _) _ _ _;first | apply AutoSeq1.wpAny_loadPart' hl | apply AutoSeq1.wpAny_loadPart' hb)) | k_extra "A")
 exact ⟨plainId_quiet plain_eq_loop _,codeAny_builtin entry_eq_loop (by
  rw [Around.under_plainId plain_eq_loop _]
  exact gt_loop l b items items2 n n2 ns ms ia ib _ 0 rfl (Nat.zero_le _) (Nat.zero_le _) prog w A R _ ⟨hl,hb,h⟩)⟩
variable {w : World} {A : Around}
theorem oGtI {ns ms : List Int} (hu : A.units < cLine) : Op2 w A (compareOp .Gt) (.lst (ns.map .int)) (.lst (ms.map .int)) (.bool (gtL ns ms)):=fun M s Q E va vb hM ra rb q => by
 apply Rep.elL ra;intro _ _ _ e1 m1 r1
 apply Rep.elL rb;intro _ _ _ e2 m2 r2
 exact richCompare_meets_room (op:=.Gt) ⟨_,e1,rfl⟩ ⟨_,e2,rfl⟩ F.slot_list_gt F.entry_list_gt (F.args_list_gt_2 _ _) (list_gtI _ _ _ _ _ _ ns ms (Reps.ints r1) (Reps.ints r2))
  ⟨e1,e2,show Value.bool (gtL ns ms) ≠ Value.notImplemented /\ Q (.bool (gtL ns ms)) s from ⟨(fun x => nomatch x),q _ s.heap s.toks (.bool _) noExt⟩⟩ hu
theorem oNeSame {ps : List PV} (hu : A.units < cLine) (he : ∀ p ∈ ps, ∀ (M : List Addr) (s : Shared) (v v' : Value),Rep s.heap M p v -> Rep s.heap M p v' -> SeqAt.EqAt A.in1 s v v' true) : Op2 w A (compareOp .NotEq) (.lst ps) (.lst ps) (.bool false):=fun M s Q E va vb hM ra rb q => by
 apply Rep.elL ra;intro a1 vs1 n1 e1 m1 r1
 apply Rep.elL rb;intro a2 vs2 n2 e2 m2 r2
 have l1 : vs1.size = ps.length:=by have:=r1.length;simpa using this
 have l2 : vs2.size = ps.length:=by have:=r2.length;simpa using this
 have h:=RcNeAt.lists (A:=A) (s:=s) (l:=a1) (b:=a2) (items:=vs1) (items2:=vs2) (e:=fun z9 => true) ⟨_,e1,rfl,_,rfl⟩ ⟨_,e2,rfl,_,rfl⟩ (l1.trans l2.symm) hu (fun j h1 h2 => by
  have hj : ps[j]? = some (ps[j]):=by simp [show j < ps.length by lia]
  refine X11 (r1.at hj) fun v1 f1 g1 => ?_
  refine X11 (r2.at hj) fun v2 f2 g2 => ?_
  have f1' : vs1[j] = v1:=by simpa [h1] using f1
  have f2' : vs2[j] = v2:=by simpa [h2] using f2
  rw [f1',f2']
  exact he _ (List.getElem_mem _) M s v1 v2 g1 g2)
 refine h (vw) w E Q ?_
 have e : (List.range vs1.size).all (fun z9 => true) = true:=by simp
 rw [e]
 exact q _ s.heap s.toks (.bool _) noExt
theorem oNeBL {bs : List (Array UInt8)} (hu : A.units < cLine) : Op2 w A (compareOp .NotEq) (.lst (bs.map .bytes)) (.lst (bs.map .bytes)) (.bool false):=oNeSame hu fun p hp M s v v' g1 g2 => by
 refine X11 (List.mem_map.mp hp) fun b _ q2 => ?_;subst q2
 apply Rep.elY g1;intro tk1
 apply Rep.elY g2;intro tk2
 intro prog w E Q hq
 have hb : wpAny (model prog w) A.in1 (compareOp .Eq (.bytes b tk1) (.bytes b tk2)) (fun v s' => v = .bool true /\ Q true s') E s:=PySem.W.eq_bytes (by rw [beq_self_eq_true];exact ⟨rfl,hq⟩)
 unfold eqBool
 refine wpAny_holding ?_
 refine wpAny_ite_split (fun z9 => ?_) (fun z9 => ?_)
 ·exact wpAny_bind (wpAny_rule (wpAny_pure hq))
 ·refine wpAny_bind (wpAny_mono hb (fun v s' h => ?_) fun _ _ e => e)
  obtain ⟨rfl,h⟩ := h
  exact wpAny_truthy_bool h
theorem oNeSL {bs : List Str} (hu : A.units < cLine) : Op2 w A (compareOp .NotEq) (.lst (bs.map .str)) (.lst (bs.map .str)) (.bool false):=oNeSame hu fun p hp M s v v' g1 g2 => by
 refine X11 (List.mem_map.mp hp) fun b _ q2 => ?_;subst q2
 apply Rep.elS g1;intro tk1
 apply Rep.elS g2;intro tk2
 have:=SeqAt.EqAt.str_str (A:=A.in1) (s:=s) b tk1 b tk2
 rwa [beq_self_eq_true] at this
theorem oNeIL {bs : List Int} (hu : A.units < cLine) : Op2 w A (compareOp .NotEq) (.lst (bs.map .int)) (.lst (bs.map .int)) (.bool false):=oNeSame hu fun p hp M s v v' g1 g2 => by
 refine X11 (List.mem_map.mp hp) fun b _ q2 => ?_;subst q2
 apply Rep.elI g1;intro tk1
 apply Rep.elI g2;intro tk2
 have:=SeqAt.EqAt.int_int (A:=A.in1) (s:=s) b tk1 b tk2
 rwa [beq_self_eq_true] at this
theorem oEqSL {bs : List Str} (hu : A.units < cLine) : Op2 w A (compareOp .Eq) (.lst (bs.map .str)) (.lst (bs.map .str)) (.bool true):=fun M s Q E va vb hM ra rb q => by
 apply Rep.elL ra;intro a1 vs1 n1 e1 m1 r1
 apply Rep.elL rb;intro a2 vs2 n2 e2 m2 r2
 have l1 : vs1.size = bs.length:=by have:=r1.length;simpa using this
 have l2 : vs2.size = bs.length:=by have:=r2.length;simpa using this
 have h:=SeqAt.RcAt.lists (A:=A) (s:=s) (l:=a1) (b:=a2) (items:=vs1) (items2:=vs2) (e:=fun z9 => true) ⟨_,e1,rfl,_,rfl⟩ ⟨_,e2,rfl,_,rfl⟩ (l1.trans l2.symm) hu (fun j h1 h2 => by
  have hj : (bs.map PV.str)[j]? = some (.str bs[j]):=by simp [show j < bs.length by lia]
  refine X11 (r1.at hj) fun v1 f1 g1 => ?_
  refine X11 (r2.at hj) fun v2 f2 g2 => ?_
  have f1' : vs1[j] = v1:=by simpa [h1] using f1
  have f2' : vs2[j] = v2:=by simpa [h2] using f2
  rw [f1',f2']
  apply Rep.elS g1;intro tk1
  apply Rep.elS g2;intro tk2
  have:=SeqAt.EqAt.str_str (A:=A.in1) (s:=s) bs[j] tk1 bs[j] tk2
  rwa [beq_self_eq_true] at this)
 refine h (vw) w E Q ?_
 have e : (List.range vs1.size).all (fun z9 => true) = true:=by simp
 rw [e]
 exact q _ s.heap s.toks (.bool _) noExt
theorem oNeNil {ps : List PV} (hu : A.units < cLine) : Op2 w A (compareOp .NotEq) (.lst ps) (.lst []) (.bool (!ps.isEmpty)):=fun M s Q E va vb hM ra rb q => by
 cases ps with
 | nil => exact oNeSame (ps := []) hu (fun p hp => nomatch hp) M s Q E va vb hM ra rb q
 | cons p ps =>
  apply Rep.elL ra;intro a1 vs1 n1 e1 m1 r1
  apply Rep.elL rb;intro a2 vs2 n2 e2 m2 r2
  have l1:=r1.length
  have l2:=r2.length
  simp only [Array.length_toList,List.length_cons,List.length_nil] at l1 l2
  exact RcNeAt.lists_lengths (A:=A) (s:=s) (l:=a1) (b:=a2) (items:=vs1) (items2:=vs2) ⟨_,e1,rfl,_,rfl⟩ ⟨_,e2,rfl,_,rfl⟩ (by rw [l1,l2];simp) hu vw w E Q (q _ s.heap s.toks (.bool _) noExt)
end
section
variable {w : World} {C : Cx} {A : Around} {Γ Γ' : List (Option PV)} {led led' : Led} {s : Shared} {T : List Addr} {K : Flow -> Shared -> Prop} {rest : List Stmt}
theorem gTypeI {n : Int} : Gv w A (.type "type") [] [.int n] (.val (.type "int")):=fun M s Q E vs hM KX TX ra q => by
 apply Reps.elC ra;intro _ _ r1 t
 apply Reps.elN t
 (apply Rep.elI r1;intro z9)
 exact call_type_of (typeIs_int _ _ _) (by decide +kernel) (q _ s.heap s.toks (.val _) noExt)
theorem oIsNotTy {X : String} : Op2 w A (compareOp .IsNot) (.val (.type X)) (.val (.type X)) (.bool false):=fun M s Q E va vb _ ra rb q => by
 apply Rep.elV ra;apply Rep.elV rb
 exact isnot_type_same (q _ s.heap s.toks (.bool _) noExt)
noncomputable def TestT (T : List Addr) (w : World) (A : Around) (C : Cx) (Γ : List (Option PV)) (led : Led) (e : Expr) (b : Bool) : Prop :=
 ∀ (s : Shared) (Q : Bool -> Shared -> Prop) (E : Value -> Shared -> Prop),AS C Γ led s -> (∀ s',Gr T s s' -> AS C Γ led s' -> Q b s') -> wpAny (model vw w) A (isTrue e C.env (eval e C.env)) Q E s
theorem TestT.cmp (Z : CxOk w C) {op : CmpOp} {l r : Expr} {pos : Pos} {a b : PV} {c : Bool} (h1 : PureT T w A C Γ led l a) (h2 : Pure w A C Γ led r b) (o : Op2 w A (compareOp op) a b (.bool c)) (hm : behindInMarks op r = false:=by with_unfolding_all rfl) : TestT T w A C Γ led (.Compare l [op] [r] pos) c:=fun s Q E as h =>
 wpAny_isTrue_Compare1 (h1 s _ E as fun va s1 ra g1 aa => h2 _ _ E aa fun vb hb kb rb eb ab => o _ _ _ E va vb (ab.alive Z) (ra.ext eb) rb fun v hv kv rv ev => by
  apply Rep.elB rv
  exact wpAny_truthy_bool (h _ (g1.trans ((Gr.ofExt eb).trans (Gr.ofExt (s := { s1 with heap:=hb,toks:=kb }) ev))) (ab.ext Z ev))) hm
theorem Run.ifTF {t : Expr} {x y : List Stmt} {pos : Pos} (h : TestT T w A C Γ led t false) (r : Run w A C Γ led y (Then w A C rest K)) : Run w A C Γ led (.If t x y pos :: rest) K :=
 .st fun s a => wpAny_If (h s _ _ a fun s' g a' => by
  rw [if_neg Bool.false_ne_true];exact r _ a')
theorem PureX.cmp (Z : CxOk w C) {op : CmpOp} {l r : Expr} {pos : Pos} {P : PV -> Prop} {b c : PV} (h1 : PureX T w A C Γ led l P) (h2 : Pure w A C Γ led r b) (o : ∀ a,P a -> Op2 w A (compareOp op) a b c) (hm : behindInMarks op r = false:=by with_unfolding_all rfl) : PureX T w A C Γ led (.Compare l [op] [r] pos) fun q => q = c:=fun s Q E as h =>
 wpAny_Compare1 (h1 s _ E as fun va s1 pv hp ra g1 aa => h2 _ _ E aa fun vb hb kb rb eb ab => o pv hp _ _ Q E va vb (ab.alive Z) (ra.ext eb) rb fun v hv kv rv ev => h v _ c rfl rv (g1.trans ((Gr.ofExt eb).trans (Gr.ofExt (s := { s1 with heap:=hb,toks:=kb }) ev))) (ab.ext Z ev)) hm
theorem Run.retX {e : Expr} {pos : Pos} {P : PV -> Prop} (h : PureX T w A C Γ led e P) (hK : ∀ s v pv,P pv -> AS C Γ led s -> Rep s.heap (C.M led) pv v -> K (.ret v) s) : Run w A C Γ led (.Return (some e) pos :: rest) K :=
 .st fun s a => wpAny_Return_some (h s _ _ a fun v s' pv hp rv g a' => hK _ v pv hp a' rv)
end
noncomputable def lawTw (b : Bool) : Str:=if b then Str.ofString "-_" else Str.ofString "+/"
noncomputable def altB (b : Bool) : Array UInt8:=if b then #[45,95] else #[43,47]
noncomputable def wdOf (b : Bool) (r : Array UInt8) : List Nat:=cs (lawB (lawTw b) r)
noncomputable def okR (r : Array UInt8) : Prop:=1 <= r.size /\ r.size <= 3
noncomputable def va (r : Array UInt8) (i : Nat) : Nat:=(r.getD i 0).toNat
noncomputable def sx (r : Array UInt8) (i : Nat) : Nat:=match i with
 | 0 => va r 0 / 4
 | 1 => va r 0 % 4 * 16 + va r 1 / 16
 | 2 => va r 1 % 16 * 4 + va r 2 / 64
 | _ => va r 2 % 64
noncomputable def sgL (b : Bool) : List Nat:=cs (letters (lawTw b))
noncomputable def sgc (b : Bool) (v : Nat) : Nat:=(sgL b).getD v 0
theorem va_lt (r : Array UInt8) (i : Nat) : va r i < 256:=(r.getD i 0).toNat_lt
theorem sx_lt (r : Array UInt8) (i : Nat) : sx r i < 64:=by
 have h0:=va_lt r 0
 have h1:=va_lt r 1
 have h2:=va_lt r 2
 unfold sx
 split <;> lia -abstractProof
theorem row_cases {r : Array UInt8} (h : okR r) : (∃ x,r = #[x]) \/ (∃ x y,r = #[x,y]) \/ ∃ x y z,r = #[x,y,z]:=by
 obtain ⟨l⟩ := r
 obtain ⟨h1,h3⟩ := h
 match l,h1,h3 with
 | [x],_,_ => exact .inl ⟨x,rfl⟩
 | [x,y],_,_ => exact .inr (.inl ⟨x,y,rfl⟩)
 | [x,y,z],_,_ => exact .inr (.inr ⟨x,y,z,rfl⟩)
 | x :: y :: z :: u :: l,_,h3 => simp at h3
noncomputable def wdS (b : Bool) (r : Array UInt8) : List Nat:=((List.range (r.size + 1)).map fun i => sgc b (sx r i)) ++ List.replicate (3 - r.size) 61
theorem letters_len (b : Bool) : (letters (lawTw b)).length = 64:=by cases b <;> decide +kernel
theorem cs_letAt (b : Bool) (r : Array UInt8) (i : Nat) {k : Nat} (hk : ((numOf r).fdiv (64 ^ (3 - i))).fmod 64 = (k : Int)) (h : k < 64) : cs (letAt (lawTw b) r i) = [sgc b k]:=by
 unfold letAt
 rw [hk,item_meets ⟨by lia -abstractProof,by rw [letters_len];lia -abstractProof⟩,Int.toNat_natCast]
 show [(letters (lawTw b)).cps.getD k 0] = [((letters (lawTw b)).cps.toList).getD k 0]
 rw [Array.getD_eq_getD_getElem?,List.getD_eq_getElem?_getD,Array.getElem?_toList]
theorem num1 (x : UInt8) : numOf #[x] = ((x.toNat * 65536 : Nat) : Int):=by
 unfold numOf
 rw [bInts1]
 simp [List.range_succ]
theorem num2 (x y : UInt8) : numOf #[x,y] = ((x.toNat * 65536 + y.toNat * 256 : Nat) : Int):=by
 unfold numOf
 rw [bInts2]
 simp [List.range_succ]
theorem num3 (x y z : UInt8) : numOf #[x,y,z] = ((x.toNat * 65536 + y.toNat * 256 + z.toNat : Nat) : Int):=by
 unfold numOf
 rw [bInts3]
 simp [List.range_succ]
 lia -abstractProof
theorem fdm (n d : Nat) : ((n : Int).fdiv (d : Int)).fmod 64 = ((n / d % 64 : Nat) : Int):=by
 rw [Int.fdiv_eq_ediv_of_nonneg _ (by lia -abstractProof),Int.fmod_eq_emod_of_nonneg _ (by decide)]
 push_cast
 rfl
theorem eqs0 : cs (Txt.mul (Str.ofString "=") (3 - ((1 : Nat) : Int))) = [61,61]:=by decide +kernel
theorem eqs1 : cs (Txt.mul (Str.ofString "=") (3 - ((2 : Nat) : Int))) = [61]:=by decide +kernel
theorem eqs2 : cs (Txt.mul (Str.ofString "=") (3 - ((3 : Nat) : Int))) = []:=by decide +kernel
theorem lawB_cs (two : Str) (r : Array UInt8) : cs (lawB two r) = ((List.range (r.size + 1)).map fun i => cs (letAt two r i)).flatten ++ cs (Txt.mul (Str.ofString "=") (3 - (r.size : Int))):=by
 unfold lawB
 rw [cs_app,cs_app,join_nil_cs,List.map_map]
 rfl
theorem wd_eq (b : Bool) {r : Array UInt8} (h : okR r) : wdOf b r = wdS b r:=by
 have key : ∀ i,i <= r.size -> cs (letAt (lawTw b) r i) = [sgc b (sx r i)]:=by
  intro i hi
  refine cs_letAt b r i ?_ (sx_lt r i)
  rcases row_cases h with ⟨x,rfl⟩ | ⟨x,y,rfl⟩ | ⟨x,y,z,rfl⟩
  ·have hx:=x.toNat_lt
   have hi : i = 0 \/ i = 1:=by have : (#[x] : Array UInt8).size = 1:=rfl;lia -abstractProof
   rw [num1]
   rcases hi with rfl | rfl
   ·rw [show (64 : Int) ^ (3 - 0) = ((262144 : Nat) : Int) from rfl,fdm]
    show ((_ : Nat) : Int) = ((x.toNat / 4 : Nat) : Int)
    lia -abstractProof
   ·rw [show (64 : Int) ^ (3 - 1) = ((4096 : Nat) : Int) from rfl,fdm]
    show ((_ : Nat) : Int) = ((x.toNat % 4 * 16 + 0 / 16 : Nat) : Int)
    lia -abstractProof
  ·have hx:=x.toNat_lt
   have hy:=y.toNat_lt
   have hi : i = 0 \/ i = 1 \/ i = 2:=by have : (#[x,y] : Array UInt8).size = 2:=rfl;lia -abstractProof
   rw [num2]
   rcases hi with rfl | rfl | rfl
   ·rw [show (64 : Int) ^ (3 - 0) = ((262144 : Nat) : Int) from rfl,fdm]
    show ((_ : Nat) : Int) = ((x.toNat / 4 : Nat) : Int)
    lia -abstractProof
   ·rw [show (64 : Int) ^ (3 - 1) = ((4096 : Nat) : Int) from rfl,fdm]
    show ((_ : Nat) : Int) = ((x.toNat % 4 * 16 + y.toNat / 16 : Nat) : Int)
    lia -abstractProof
   ·rw [show (64 : Int) ^ (3 - 2) = ((64 : Nat) : Int) from rfl,fdm]
    show ((_ : Nat) : Int) = ((y.toNat % 16 * 4 + 0 / 64 : Nat) : Int)
    lia -abstractProof
  ·have hx:=x.toNat_lt
   have hy:=y.toNat_lt
   have hz:=z.toNat_lt
   have hi : i = 0 \/ i = 1 \/ i = 2 \/ i = 3:=by have : (#[x,y,z] : Array UInt8).size = 3:=rfl;lia -abstractProof
   rw [num3]
   rcases hi with rfl | rfl | rfl | rfl
   ·rw [show (64 : Int) ^ (3 - 0) = ((262144 : Nat) : Int) from rfl,fdm]
    show ((_ : Nat) : Int) = ((x.toNat / 4 : Nat) : Int)
    lia -abstractProof
   ·rw [show (64 : Int) ^ (3 - 1) = ((4096 : Nat) : Int) from rfl,fdm]
    show ((_ : Nat) : Int) = ((x.toNat % 4 * 16 + y.toNat / 16 : Nat) : Int)
    lia -abstractProof
   ·rw [show (64 : Int) ^ (3 - 2) = ((64 : Nat) : Int) from rfl,fdm]
    show ((_ : Nat) : Int) = ((y.toNat % 16 * 4 + z.toNat / 64 : Nat) : Int)
    lia -abstractProof
   ·rw [show (64 : Int) ^ (3 - 3) = ((1 : Nat) : Int) from rfl,fdm]
    show ((_ : Nat) : Int) = ((z.toNat % 64 : Nat) : Int)
    lia -abstractProof
 unfold wdOf wdS
 rw [lawB_cs]
 congr 1
 ·rw [List.map_congr_left (g:=fun i => [sgc b (sx r i)]) fun i hi => key i (by have:=List.mem_range.mp hi;lia -abstractProof)]
  induction List.range (r.size + 1) with
  | nil => rfl
  | cons a l ih => rw [List.map_cons,List.map_cons,List.flatten_cons,ih];rfl
 ·rcases row_cases h with ⟨x,rfl⟩ | ⟨x,y,rfl⟩ | ⟨x,y,z,rfl⟩
  ·exact eqs0
  ·exact eqs1
  ·exact eqs2
theorem wd_len (b : Bool) (r : Array UInt8) (h : okR r) : (wdOf b r).length = 4:=by
 rw [wd_eq b h]
 unfold wdS
 rw [List.length_append,List.length_map,List.length_range,List.length_replicate]
 have:=h.1
 have:=h.2
 lia -abstractProof
theorem sgc_good : ∀ b : Bool, ∀ v,v < 64 -> goodC (sgc b v) = true:=by intro b;cases b <;> decide +kernel
theorem wd_good (b : Bool) (r : Array UInt8) (h : okR r) : ∀ c ∈ wdOf b r,goodC c = true:=by
 rw [wd_eq b h]
 intro c hc
 refine Or.elim (List.mem_append.mp hc) (fun hc => ?_) fun hc => ?_
 ·refine X11 (List.mem_map.mp hc) fun i _ q2 => ?_;subst q2
  exact sgc_good b _ (sx_lt r i)
 ·rw [List.eq_of_mem_replicate hc]
  rfl
section
noncomputable def sgN (v : Nat) : Nat:=(sg v).toNat
theorem b64_sg (k : Nat) : ((B64at (k : Int)).toNat : Int) = (sgN k : Int):=by
 unfold B64at sgN sg
 rw [Int.toNat_natCast]
theorem band63 (n : Nat) : Builtin.bitAnd (n : Int) 63 = ((n % 64 : Nat) : Int):=by rw [bitAnd_m6];omega
theorem band3 (n : Nat) : Builtin.bitAnd (n : Int) 3 = ((n % 4 : Nat) : Int):=by rw [bitAnd_m2];omega
theorem band15 (n : Nat) : Builtin.bitAnd (n : Int) 15 = ((n % 16 : Nat) : Int):=by rw [bitAnd_m4];omega
theorem lcs1 (r : Array UInt8) : lcs r 1 = (va r 0 : Int):=lcA _
theorem lcs2 (r : Array UInt8) : lcs r 2 = ((va r 0 * 256 + va r 1 : Nat) : Int):=by
 have h0:=va_lt r 0
 have h1:=va_lt r 1
 show Builtin.bitAnd (Builtin.bitOr (lcs r 1 * 2 ^ Int.toNat 8) ((r.getD 1 0).toNat : Int)) 65535 = _
 rw [lcs1,lcB (by omega)]
 show ((va r 0 : Int) * 256 + (va r 1 : Int)) % 65536 = _
 omega
theorem lcs3 (r : Array UInt8) : lcs r 3 = (((va r 0 * 256 + va r 1) * 256 + va r 2) % 65536 : Nat):=by
 have h0:=va_lt r 0
 have h1:=va_lt r 1
 have h2:=va_lt r 2
 show Builtin.bitAnd (Builtin.bitOr (lcs r 2 * 2 ^ Int.toNat 8) ((r.getD 2 0).toNat : Int)) 65535 = _
 rw [lcs2,lcB (by omega)]
 show (((va r 0 * 256 + va r 1 : Nat) : Int) * 256 + (va r 2 : Int)) % 65536 = _
 omega
theorem fdN (n d : Nat) : (n : Int).fdiv (d : Int) = ((n / d : Nat) : Int):=by
 rw [Int.fdiv_eq_ediv_of_nonneg _ (by omega)];rfl
theorem qb0 (r : Array UInt8) : qB r 1 2 = (sgN (sx r 0) : Int):=by
 have h0:=va_lt r 0
 unfold qB
 rw [lcs1,show (2 : Int) ^ Int.toNat 2 = ((4 : Nat) : Int) from rfl,fdN,band63,b64_sg]
 congr 1
 show sgN _ = sgN (va r 0 / 4)
 congr 1
 omega
theorem qb1 (r : Array UInt8) : qB r 2 4 = (sgN (sx r 1) : Int):=by
 have h0:=va_lt r 0
 have h1:=va_lt r 1
 unfold qB
 rw [lcs2,show (2 : Int) ^ Int.toNat 4 = ((16 : Nat) : Int) from rfl,fdN,band63,b64_sg]
 congr 1
 show sgN _ = sgN (va r 0 % 4 * 16 + va r 1 / 16)
 congr 1
 omega
theorem qb2 (r : Array UInt8) : qB r 3 6 = (sgN (sx r 2) : Int):=by
 have h1:=va_lt r 1
 have h2:=va_lt r 2
 unfold qB
 rw [lcs3,show (2 : Int) ^ Int.toNat 6 = ((64 : Nat) : Int) from rfl,fdN,band63,b64_sg]
 congr 1
 show sgN _ = sgN (va r 1 % 16 * 4 + va r 2 / 64)
 congr 1
 omega
theorem qb3 (r : Array UInt8) : qB r 3 0 = (sgN (sx r 3) : Int):=by
 have h2:=va_lt r 2
 unfold qB
 rw [lcs3,show (2 : Int) ^ Int.toNat 0 = ((1 : Nat) : Int) from rfl,fdN,band63,b64_sg]
 congr 1
 show sgN _ = sgN (va r 2 % 64)
 congr 1
 omega
theorem enc_sx (r : Array UInt8) (h : okR r) : encI r = (((List.range (r.size + 1)).map fun i => sgN (sx r i)) ++ List.replicate (3 - r.size) 61).map fun n : Nat => (n : Int):=by
 rcases row_cases h with ⟨x,rfl⟩ | ⟨x,y,rfl⟩ | ⟨x,y,z,rfl⟩
 ·have hx:=x.toNat_lt
  have e1:=qb0 #[x]
  have e2 : ((B64at (Builtin.bitAnd (lcs #[x] 1) 3 * 2 ^ Int.toNat 4)).toNat : Int) = (sgN (sx #[x] 1) : Int):=by
   rw [lcs1,band3,show (2 : Int) ^ Int.toNat 4 = ((16 : Nat) : Int) from rfl, <- Int.natCast_mul,b64_sg]
   congr 1
   show sgN _ = sgN (x.toNat % 4 * 16 + 0 / 16)
   congr 1
  show [qB #[x] 1 2,((B64at (Builtin.bitAnd (lcs #[x] 1) 3 * 2 ^ Int.toNat 4)).toNat : Int),61,61] = [(sgN (sx #[x] 0) : Int),(sgN (sx #[x] 1) : Int),61,61]
  rw [e1,e2]
 ·have hx:=x.toNat_lt
  have hy:=y.toNat_lt
  have e1:=qb0 #[x,y]
  have e2:=qb1 #[x,y]
  have e3 : ((B64at (Builtin.bitAnd (lcs #[x,y] 2) 15 * 2 ^ Int.toNat 2)).toNat : Int) = (sgN (sx #[x,y] 2) : Int):=by
   rw [lcs2,band15,show (2 : Int) ^ Int.toNat 2 = ((4 : Nat) : Int) from rfl, <- Int.natCast_mul,b64_sg]
   congr 1
   show sgN _ = sgN (y.toNat % 16 * 4 + 0 / 64)
   congr 1
   show (x.toNat * 256 + y.toNat) % 16 * 4 = _
   omega
  show [qB #[x,y] 1 2,qB #[x,y] 2 4,((B64at (Builtin.bitAnd (lcs #[x,y] 2) 15 * 2 ^ Int.toNat 2)).toNat : Int),61] = [(sgN (sx #[x,y] 0) : Int),(sgN (sx #[x,y] 1) : Int),(sgN (sx #[x,y] 2) : Int),61]
  rw [e1,e2,e3]
 ·have e1:=qb0 #[x,y,z]
  have e2:=qb1 #[x,y,z]
  have e3:=qb2 #[x,y,z]
  have e4:=qb3 #[x,y,z]
  show [qB #[x,y,z] 1 2,qB #[x,y,z] 2 4,qB #[x,y,z] 3 6,qB #[x,y,z] 3 0] = [(sgN (sx #[x,y,z] 0) : Int),(sgN (sx #[x,y,z] 1) : Int),(sgN (sx #[x,y,z] 2) : Int),(sgN (sx #[x,y,z] 3) : Int)]
  rw [e1,e2,e3,e4]
theorem byte_nat (l : List Nat) : byteArr (l.map fun n : Nat => (n : Int)) = (l.map Nat.toUInt8).toArray:=by
 unfold byteArr
 rw [List.map_map]
 rfl
theorem trB : ∀ b : Bool,(∀ v,v < 64 -> (mtOut #[43,47] (altB b)).getD (sgN v).toUInt8.toNat (sgN v).toUInt8 = (sgc b v).toUInt8) /\ (mtOut #[43,47] (altB b)).getD (61 : UInt8).toNat 61 = 61:=by intro b;cases b <;> decide +kernel
theorem unB : ∀ b : Bool,(∀ v,v < 64 -> (mtOut (altB b) #[43,47]).getD (sgc b v).toUInt8.toNat (sgc b v).toUInt8 = sg v) /\ (mtOut (altB b) #[43,47]).getD (61 : UInt8).toNat 61 = 61:=by intro b;cases b <;> decide +kernel
noncomputable def wdB (b : Bool) (r : Array UInt8) : Array UInt8:=((wdS b r).map Nat.toUInt8).toArray
theorem enc_wd (b : Bool) (r : Array UInt8) (h : okR r) : encB r (altB b) = wdB b r:=by
 unfold encB wdB wdS
 rw [enc_sx r h,byte_nat,trOut_eq,List.map_toArray]
 congr 1
 rw [List.map_map,List.map_append,List.map_append,List.map_map,List.map_map]
 congr 1
 ·exact List.map_congr_left fun i _ => (trB b).1 _ (sx_lt r i)
 ·rw [List.map_replicate,List.map_replicate]
  congr 1
  exact (trB b).2
theorem wdS_lt (b : Bool) (r : Array UInt8) (h : okR r) : ∀ c ∈ wdS b r,c < 128:=by
 intro c hc
 rw [<- wd_eq b h] at hc
 have:=wd_good b r h c hc
 unfold goodC at this
 simp only [Bool.or_eq_true,Bool.and_eq_true,decide_eq_true_eq,beq_iff_eq] at this
 omega
theorem wdS_four (b : Bool) (r : Array UInt8) (h : okR r) : ∃ x y z u,wdS b r = [x,y,z,u] /\ x < 128 /\ y < 128 /\ z < 128 /\ u < 128:=by
 have h1:=wd_len b r h
 rw [wd_eq b h] at h1
 refine X30 (len4 h1) fun x y z q8 => X10 q8 fun u e => ?_
 have:=wdS_lt b r h
 rw [e] at this
 exact ⟨x,y,z,u,e,this x (by simp),this y (by simp),this z (by simp),this u (by simp)⟩
theorem u8n {n : Nat} (h : n < 128) : n.toUInt8.toNat = n:=by
 show n % 256 = n
 omega
variable {w : World} {A : Around}
theorem gStr_wd (b : Bool) (r : Array UInt8) (h : okR r) : Gv w A (.type "str") [] [.bytes (encB r (altB b)), .str (Str.ofString "ascii")] (.str (mkS (wdOf b r))):=by
 refine byG fun G kG => ?_
 refine X41 (wdS_four b r h) fun x y z u e q8 => Y4 q8 fun hx hy hz hu => ?_
 refine kG ?_;clear kG G
 rw [enc_wd b r h,wd_eq b h]
 unfold wdB
 rw [e]
 refine gStrB (c:=x.toUInt8) (cs := [y.toUInt8,z.toUInt8,u.toUInt8]) (n:=4) rfl (fun id => ?_) (by rw [len_mkS];exact Nat.le_of_ble_eq_true rfl)
 have:=dec4 id x.toUInt8 y.toUInt8 z.toUInt8 u.toUInt8 (by rw [u8n hx];exact hx) (by rw [u8n hy];exact hy) (by rw [u8n hz];exact hz) (by rw [u8n hu];exact hu)
 rw [u8n hx,u8n hy,u8n hz,u8n hu] at this
 exact this
theorem enc_tw (b : Bool) (t : Tok) : PySem.Builtin._codecs.encodeNarrow "str.encode" PySem.Builtin._codecs.asciiCodec none (.str (lawTw b) t) (lawTw b) = pure (altB b):=by
 cases b
 ·kernel_rfl
 ·kernel_rfl
theorem altB_size (b : Bool) : (altB b).size = 2:=by cases b <;> rfl
theorem dec_sx (r : Array UInt8) (h : okR r) : byteArr (ouA2 (sx r) (r.size + 1)) = r:=by
 have l0:=sx_lt r 0
 have l1:=sx_lt r 1
 have l2:=sx_lt r 2
 have l3:=sx_lt r 3
 have v0:=va_lt r 0
 have v1:=va_lt r 1
 have v2:=va_lt r 2
 have e0 : sx r 0 * 4 + sx r 1 / 16 = va r 0:=by
  show va r 0 / 4 * 4 + (va r 0 % 4 * 16 + va r 1 / 16) / 16 = _
  omega
 have e1 : sx r 1 % 16 * 16 + sx r 2 / 4 = va r 1:=by
  show (va r 0 % 4 * 16 + va r 1 / 16) % 16 * 16 + (va r 1 % 16 * 4 + va r 2 / 64) / 4 = _
  omega
 have e2 : sx r 2 % 4 * 64 + sx r 3 = va r 2:=by
  show (va r 1 % 16 * 4 + va r 2 / 64) % 4 * 64 + va r 2 % 64 = _
  omega
 have one : ∀ x : UInt8,(x.toNat : Int).toNat.toUInt8 = x:=fun x => by rw [Int.toNat_natCast];simp
 rcases row_cases h with ⟨x,rfl⟩ | ⟨x,y,rfl⟩ | ⟨x,y,z,rfl⟩
 ·show byteArr [Builtin.bitOr ((sx #[x] 0 : Int) * 2 ^ Int.toNat 2) ((sx #[x] 1 : Int).fdiv (2 ^ Int.toNat 4))] = _
  rw [eqA l0 l1,e0]
  show #[((x.toNat : Int)).toNat.toUInt8] = _
  rw [one]
 ·show byteArr [Builtin.bitOr ((sx #[x,y] 0 : Int) * 2 ^ Int.toNat 2) ((sx #[x,y] 1 : Int).fdiv (2 ^ Int.toNat 4)),Builtin.bitOr (Builtin.bitAnd (sx #[x,y] 1 : Int) 15 * 2 ^ Int.toNat 4) ((sx #[x,y] 2 : Int).fdiv (2 ^ Int.toNat 2))] = _
  rw [eqA l0 l1,e0,eqB l1 l2,e1]
  show #[((x.toNat : Int)).toNat.toUInt8,((y.toNat : Int)).toNat.toUInt8] = _
  rw [one,one]
 ·show byteArr [Builtin.bitOr ((sx #[x,y,z] 0 : Int) * 2 ^ Int.toNat 2) ((sx #[x,y,z] 1 : Int).fdiv (2 ^ Int.toNat 4)),Builtin.bitOr (Builtin.bitAnd (sx #[x,y,z] 1 : Int) 15 * 2 ^ Int.toNat 4) ((sx #[x,y,z] 2 : Int).fdiv (2 ^ Int.toNat 2)),Builtin.bitOr (Builtin.bitAnd (sx #[x,y,z] 2 : Int) 3 * 2 ^ Int.toNat 6) (sx #[x,y,z] 3 : Int)] = _
  rw [eqA l0 l1,e0,eqB l1 l2,e1,eqC l2 l3,e2]
  show #[((x.toNat : Int)).toNat.toUInt8,((y.toNat : Int)).toNat.toUInt8,((z.toNat : Int)).toNat.toUInt8] = _
  rw [one,one,one]
theorem wdS_get (b : Bool) (r : Array UInt8) (h : okR r) {i : Nat} (hi : i < 4) : (wdB b r).getD i 0 = if i < r.size + 1 then (sgc b (sx r i)).toUInt8 else 61:=by
 unfold wdB wdS
 have h1:=h.1
 have h2:=h.2
 rw [Array.getD_eq_getD_getElem?,List.getElem?_toArray,List.getElem?_map]
 by_cases e : i < r.size + 1
 ·rw [List.getElem?_append_left (by simpa using e),if_pos e]
  simp [e]
 ·rw [List.getElem?_append_right (by simpa using e),if_neg e,List.length_map,List.length_range,List.getElem?_replicate,if_pos (by omega)]
  rfl
theorem f_dec' (b : Bool) (r : Array UInt8) (h : okR r) : Fn w 147 3 [.str (mkS (wdOf b r)), .bytes (altB b)] (.bytes r):=by
 refine byG fun G kG => ?_
 refine X41 (wdS_four b r h) fun x y z u e q8 => Y4 q8 fun hx hy hz hu => ?_
 refine kG ?_;clear kG G
 have h1:=h.1
 have h2:=h.2
 have hB : wdB b r = #[x.toUInt8,y.toUInt8,z.toUInt8,u.toUInt8]:=by unfold wdB;rw [e];rfl
 have hg : ∀ i,i < 4 -> (trOut (wdB b r) (mtOut (altB b) #[43,47])).getD i 0 = if i < r.size + 1 then sg (sx r i) else 61:=fun i hi => by
  have hs : (wdB b r).size = 4:=by rw [hB];rfl
  have:=wdS_get b r h hi
  rw [trOut_eq,Array.getD_eq_getD_getElem?,Array.getElem?_map]
  rw [Array.getD_eq_getD_getElem?,Array.getElem?_eq_getElem (by omega)] at this
  rw [Array.getElem?_eq_getElem (by omega)]
  have this : (wdB b r)[i] = if i < r.size + 1 then (sgc b (sx r i)).toUInt8 else 61:=this
  show (mtOut (altB b) #[43,47]).getD ((wdB b r)[i]).toNat ((wdB b r)[i]) = _
  rw [this]
  by_cases hk : i < r.size + 1
  ·rw [if_pos hk,if_pos hk]
   exact (unB b).1 _ (sx_lt r i)
  ·rw [if_neg hk,if_neg hk]
   exact (unB b).2
 have:=f_b64decode (w:=w) (mkS (wdOf b r)) (wdB b r) (altB b) (sx r) (r.size + 1) (fun t => ?_) (by rw [hB];rfl) (altB_size b) (by omega) (by omega) (fun i _ => sx_lt r i) (fun i hi => by rw [hg i (by omega),if_pos hi]) (fun i hi h4 => by rw [hg i h4,if_neg (by omega)])
 ·rw [dec_sx r h] at this
  exact this
 ·rw [wd_eq b h,e,hB]
  exact enc4 "str.encode" _ x y z u hx hy hz hu
end
noncomputable def lawBr (b : Bool) : List Str:=if b then [Str.ofString "[=A-Za-z]",Str.ofString "[0-9_]",Str.ofString "[=A-Z_]",Str.ofString "[-_]"] else [Str.ofString "[=A-Za-z]",Str.ofString "[0-9]",Str.ofString "[+/]"]
noncomputable def inB (bk : Str) (c : Nat) : Bool:=(inRun (cs (brkL bk)) c 10 1 false).getD false
noncomputable def octC (r s : Array UInt8) : Int:=if r.toList == s.toList then 0 else if gtL (KBw.bInts r) (KBw.bInts s) then 1 else -1
noncomputable def K (r : Array UInt8) (i : Nat) : Nat:=if i < r.size + 1 then sx r i + 1 else 0
noncomputable def sgk (b : Bool) : Nat -> Nat
 | 0 => 61
 | v + 1 => sgc b v
noncomputable def hd1 (l : List Int) : Int:=l.headD (-1)
theorem gt_step {l m : List Int} (hl : ∀ e ∈ l,0 <= e) (hm : ∀ e ∈ m,0 <= e) : gtL l m = true ↔ hd1 m < hd1 l \/ hd1 l = hd1 m /\ gtL l.tail m.tail = true:=by
 cases l with
 | nil =>
  cases m with
  | nil => simp [gtL]
  | cons y m =>
   have:=hm y List.mem_cons_self
   show false = true ↔ y < -1 \/ -1 = y /\ false = true
   simp
   lia
 | cons x l =>
  have hx:=hl x List.mem_cons_self
  cases m with
  | nil =>
   show true = true ↔ -1 < x \/ _
   exact ⟨fun z9 => .inl (by lia),fun z9 => rfl⟩
  | cons y m =>
   show (if x = y then gtL l m else decide (y < x)) = true ↔ y < x \/ x = y /\ gtL l m = true
   by_cases h : x = y
   ·rw [if_pos h]
    subst h
    simp
   ·rw [if_neg h]
    simp [h]
noncomputable def B (r : Array UInt8) (i : Nat) : Nat:=if i < r.size then va r i + 1 else 0
theorem bI_tail (r : Array UInt8) (i : Nat) : hd1 ((KBw.bInts r).drop i) = (B r i : Int) - 1:=by
 unfold KBw.bInts hd1 B va
 rw [<- List.map_drop,List.headD_eq_head?_getD,List.head?_map,List.head?_drop,Array.getElem?_toList]
 by_cases h : i < r.size
 ·rw [if_pos h,Array.getElem?_eq_getElem h,Array.getD_eq_getD_getElem?,Array.getElem?_eq_getElem h]
  show ((r[i]).toNat : Int) = _
  push_cast
  exact (Int.add_sub_cancel _ _).symm
 ·rw [if_neg h,Array.getElem?_eq_none (Nat.le_of_not_lt h)]
  rfl
theorem gt_B {r s : Array UInt8} (hr : okR r) (hs : okR s) : gtL (KBw.bInts r) (KBw.bInts s) = true ↔ B s 0 < B r 0 \/ B r 0 = B s 0 /\ (B s 1 < B r 1 \/ B r 1 = B s 1 /\ B s 2 < B r 2):=by
 have nn : ∀ (q : Array UInt8) (i : Nat), ∀ e ∈ (KBw.bInts q).drop i,0 <= e:=fun q i e he => (KBw.ints_in (List.mem_of_mem_drop he)).1
 have st : ∀ i,gtL ((KBw.bInts r).drop i) ((KBw.bInts s).drop i) = true ↔ B s i < B r i \/ B r i = B s i /\ gtL ((KBw.bInts r).drop (i + 1)) ((KBw.bInts s).drop (i + 1)) = true:=fun i => by
  rw [gt_step (nn r i) (nn s i),bI_tail,bI_tail,List.tail_drop,List.tail_drop]
  constructor
  ·rintro (h | ⟨h,g⟩)
   ·exact .inl (by lia)
   ·exact .inr ⟨by lia,g⟩
  ·rintro (h | ⟨h,g⟩)
   ·exact .inl (by lia)
   ·exact .inr ⟨by lia,g⟩
 have z : gtL ((KBw.bInts r).drop 3) ((KBw.bInts s).drop 3) = false:=by
  rw [List.drop_of_length_le (by rw [KBw.ints_length];exact hr.2)]
  rfl
 have h0:=st 0
 rw [List.drop_zero,List.drop_zero,st 1,st 2,z] at h0
 rw [h0]
 simp
theorem K_B {r : Array UInt8} (h : okR r) : 1 <= B r 0 /\ B r 0 <= 256 /\ B r 1 <= 256 /\ B r 2 <= 256 /\ (B r 1 = 0 -> B r 2 = 0) /\ K r 0 = (B r 0 - 1) / 4 + 1 /\ K r 1 = (B r 0 - 1) % 4 * 16 + (B r 1 - 1) / 16 + 1 /\ K r 2 = (if B r 1 = 0 then 0 else (B r 1 - 1) % 16 * 4 + (B r 2 - 1) / 64 + 1) /\ K r 3 = if B r 2 = 0 then 0 else (B r 2 - 1) % 64 + 1:=by
 have v0:=va_lt r 0
 have v1:=va_lt r 1
 have v2:=va_lt r 2
 have h1:=h.1
 have no : ∀ i, ¬ i < r.size -> va r i = 0:=fun i hi => by
  unfold va
  rw [Array.getD_eq_getD_getElem?,Array.getElem?_eq_none (Nat.le_of_not_lt hi)]
  rfl
 have e0 : B r 0 = va r 0 + 1:=if_pos h1
 have eB : ∀ i,B r i - 1 = va r i:=fun i => by
  unfold B
  split
  ·rfl
  ·rw [no i (by assumption)]
 have k1 : K r 1 = sx r 1 + 1:=if_pos (by lia)
 rw [k1,eB,eB,eB,e0]
 refine ⟨Nat.succ_pos _,v0, ?_, ?_, ?_,rfl,rfl, ?_, ?_⟩
 ·unfold B;split
  ·exact v1
  ·exact Nat.zero_le _
 ·unfold B;split
  ·exact v2
  ·exact Nat.zero_le _
 ·unfold B
  intro q
  rw [if_neg]
  intro z
  rw [if_pos (by lia)] at q
  cases q
 ·unfold B K
  by_cases q : 1 < r.size
  ·rw [if_pos q,if_neg (Nat.succ_ne_zero _),if_pos (Nat.succ_lt_succ q)];rfl
  ·rw [if_neg q,if_pos rfl,if_neg fun z => q (Nat.lt_of_succ_lt_succ z)]
 ·unfold B K
  by_cases q : 2 < r.size
  ·rw [if_pos q,if_neg (Nat.succ_ne_zero _),if_pos (Nat.succ_lt_succ q)];rfl
  ·rw [if_neg q,if_pos rfl,if_neg fun z => q (Nat.lt_of_succ_lt_succ z)]
theorem dlt {k a x : Nat} (h : a / k < x / k) : a < x:=Nat.lt_of_not_le fun z => Nat.not_le_of_lt h (Nat.div_le_div_right z)
theorem deq {k a x : Nat} (h1 : a / k = x / k) (h2 : a % k = x % k) : a = x:=by rw [<- Nat.div_add_mod a k, <- Nat.div_add_mod x k,h1,h2]
theorem dml {k a x : Nat} (h1 : a / k = x / k) (h2 : a % k < x % k) : a < x:=by
 rw [<- Nat.div_add_mod a k, <- Nat.div_add_mod x k,h1]
 exact Nat.add_lt_add_left h2 _
theorem twoLe {M h l h' l' : Nat} (hl : l < M) (hh : h < h') : h * M + l < h' * M + l' :=
 Nat.lt_of_lt_of_le (Nat.add_lt_add_left hl _) (Nat.le_trans (Nat.le_of_eq (Nat.succ_mul h M).symm) (Nat.le_trans (Nat.mul_le_mul_right M hh) (Nat.le_add_right _ _)))
theorem two {M h l h' l' : Nat} (hl : l < M) (hl' : l' < M) (e : h * M + l < h' * M + l') : h < h' \/ h = h' /\ l < l' := by
 refine Or.elim (Nat.lt_trichotomy h h') (fun q => ?_) fun q1 => Or.elim q1 (fun q => ?_) fun q => ?_
 ·exact .inl q
 ·subst q;exact .inr ⟨rfl,Nat.lt_of_add_lt_add_left e⟩
 ·exact absurd e (Nat.lt_asymm (twoLe hl' q))
theorem twoE {M h l h' l' : Nat} (hl : l < M) (hl' : l' < M) (e : h * M + l = h' * M + l') : h = h' /\ l = l' := by
 refine Or.elim (Nat.lt_trichotomy h h') (fun q => ?_) fun q1 => Or.elim q1 (fun q => ?_) fun q => ?_
 ·exact absurd e (Nat.ne_of_lt (twoLe hl q))
 ·subst q;exact ⟨rfl,Nat.add_left_cancel e⟩
 ·exact absurd e (Nat.ne_of_gt (twoLe hl' q))
theorem s1l {a x : Nat} (h : a - 1 < x - 1) : a < x:=Nat.lt_of_not_le fun z => Nat.not_le_of_lt h (Nat.sub_le_sub_right z 1)
theorem s1e {a x : Nat} (ha : a ≠ 0) (hx : x ≠ 0) (h : a - 1 = x - 1) : a = x:=by
 cases a with
 | zero => exact absurd rfl ha
 | succ a =>
  cases x with
  | zero => exact absurd rfl hx
  | succ x => exact congrArg (· + 1) h
theorem d16 {b : Nat} (h : b <= 256) : (b - 1) / 16 < 16:=Nat.div_lt_of_lt_mul (Nat.lt_of_le_of_lt (Nat.sub_le_sub_right h 1) (by decide))
theorem d64 {b : Nat} (h : b <= 256) : (b - 1) / 64 < 4:=Nat.div_lt_of_lt_mul (Nat.lt_of_le_of_lt (Nat.sub_le_sub_right h 1) (by decide))
theorem ar_lt {a b c x y z k0 k1 k2 k3 l0 l1 l2 l3 : Nat} (ha : 1 <= a /\ a <= 256 /\ b <= 256 /\ c <= 256 /\ (b = 0 -> c = 0) /\ k0 = (a - 1) / 4 + 1 /\ k1 = (a - 1) % 4 * 16 + (b - 1) / 16 + 1 /\ k2 = (if b = 0 then 0 else (b - 1) % 16 * 4 + (c - 1) / 64 + 1) /\ k3 = if c = 0 then 0 else (c - 1) % 64 + 1)
  (hx : 1 <= x /\ x <= 256 /\ y <= 256 /\ z <= 256 /\ (y = 0 -> z = 0) /\ l0 = (x - 1) / 4 + 1 /\ l1 = (x - 1) % 4 * 16 + (y - 1) / 16 + 1 /\ l2 = (if y = 0 then 0 else (y - 1) % 16 * 4 + (z - 1) / 64 + 1) /\ l3 = if z = 0 then 0 else (z - 1) % 64 + 1)
  (h : k0 < l0 \/ k0 = l0 /\ (k1 < l1 \/ k1 = l1 /\ (k2 < l2 \/ k2 = l2 /\ k3 < l3))) : a < x \/ x = a /\ (b < y \/ y = b /\ c < z):=by
 refine byG fun G kG => ?_
 obtain ⟨a1,_,a3,a4,a5,rfl,rfl,rfl,rfl⟩ := ha
 refine kG ?_;clear kG G
 refine byG fun G kG => ?_
 obtain ⟨x1,_,x3,x4,x5,rfl,rfl,rfl,rfl⟩ := hx
 refine kG ?_;clear kG G
 refine Or.elim h (fun h => ?_) fun q1 => Y2 q1 fun h0 h => ?_
 ·exact .inl (s1l (dlt (Nat.lt_of_succ_lt_succ h)))
 have h0:=Nat.succ.inj h0
 refine Or.elim h (fun h => ?_) fun q1 => Y2 q1 fun h1 h => ?_
 ·refine Or.elim (two (d16 a3) (d16 x3) (Nat.lt_of_succ_lt_succ h)) (fun q => ?_) fun q1 => Y2 q1 fun q q2 => ?_
  ·exact .inl (s1l (dml h0 q))
  ·exact .inr ⟨(s1e (Nat.ne_of_gt a1) (Nat.ne_of_gt x1) (deq h0 q)).symm, .inl (s1l (dlt q2))⟩
 refine Y2 (twoE (d16 a3) (d16 x3) (Nat.succ.inj h1)) fun q q2 => ?_
 refine .inr ⟨(s1e (Nat.ne_of_gt a1) (Nat.ne_of_gt x1) (deq h0 q)).symm, ?_⟩
 by_cases hy : y = 0
 ·rw [if_pos hy,if_pos (x5 hy)] at h
  refine Or.elim h (fun h => ?_) fun q1 => Y2 q1 fun _ h => ?_ <;> exact absurd h (Nat.not_lt_zero _)
 by_cases hb : b = 0
 ·exact .inl (by rw [hb];exact Nat.pos_of_ne_zero hy)
 rw [if_neg hy,if_neg hb] at h
 refine Or.elim h (fun h => ?_) fun q1 => Y2 q1 fun h h3 => ?_
 ·refine Or.elim (two (d64 a4) (d64 x4) (Nat.lt_of_succ_lt_succ h)) (fun w => ?_) fun q1 => Y2 q1 fun w w2 => ?_
  ·exact .inl (s1l (dml q2 w))
  ·exact .inr ⟨(s1e hb hy (deq q2 w)).symm,s1l (dlt w2)⟩
 ·refine Y2 (twoE (d64 a4) (d64 x4) (Nat.succ.inj h)) fun w w2 => ?_
  refine .inr ⟨(s1e hb hy (deq q2 w)).symm, ?_⟩
  by_cases hz : z = 0
  ·rw [if_pos hz] at h3;exact absurd h3 (Nat.not_lt_zero _)
  ·by_cases hc : c = 0
   ·rw [hc];exact Nat.pos_of_ne_zero hz
   ·rw [if_neg hz,if_neg hc] at h3
    exact s1l (dml w2 (Nat.lt_of_succ_lt_succ h3))
theorem gt_lt {r s : Array UInt8} (hr : okR r) (hs : okR s) {d : Nat} (hd : d < 4) (he : ∀ i,i < d -> K r i = K s i) (h : K r d < K s d) : gtL (KBw.bInts r) (KBw.bInts s) = false /\ gtL (KBw.bInts s) (KBw.bInts r) = true:=by
 have hd : d = 0 \/ d = 1 \/ d = 2 \/ d = 3:=by lia
 have lex : K r 0 < K s 0 \/ K r 0 = K s 0 /\ (K r 1 < K s 1 \/ K r 1 = K s 1 /\ (K r 2 < K s 2 \/ K r 2 = K s 2 /\ K r 3 < K s 3)):=by
  rcases hd with rfl | rfl | rfl | rfl
  ·exact .inl h
  ·exact .inr ⟨he 0 (by decide), .inl h⟩
  ·exact .inr ⟨he 0 (by decide), .inr ⟨he 1 (by decide), .inl h⟩⟩
  ·exact .inr ⟨he 0 (by decide), .inr ⟨he 1 (by decide), .inr ⟨he 2 (by decide),h⟩⟩⟩
 have g:=ar_lt (K_B hr) (K_B hs) lex
 refine ⟨?_,(gt_B hs hr).mpr g⟩
 rw [<- Bool.not_eq_true,gt_B hr hs]
 rintro (q | ⟨q0,q⟩) <;> refine Or.elim g (fun g => ?_) fun q1 => Y2 q1 fun g1 g => ?_
 ·exact Nat.lt_asymm q g
 ·rw [g1] at q;exact Nat.lt_irrefl _ q
 ·rw [q0] at g;exact Nat.lt_irrefl _ g
 ·refine Or.elim q (fun q => ?_) fun q1 => Y2 q1 fun q2 q3 => ?_ <;> refine Or.elim g (fun g => ?_) fun q1 => Y2 q1 fun g2 g3 => ?_
  ·exact Nat.lt_asymm q g
  ·rw [g2] at q;exact Nat.lt_irrefl _ q
  ·rw [q2] at g;exact Nat.lt_irrefl _ g
  ·exact Nat.lt_asymm q3 g3
theorem oct_lt {r s : Array UInt8} (hr : okR r) (hs : okR s) {d : Nat} (hd : d < 4) (he : ∀ i,i < d -> K r i = K s i) (h : K r d < K s d) : octC r s = -1 /\ octC s r = 1:=by
 refine Y2 (gt_lt hr hs hd he h) fun h1 h2 => ?_
 have ne : r.toList ≠ s.toList:=fun e => by
  have : r = s:=Array.toList_inj.mp e
  subst this
  exact absurd h (Nat.lt_irrefl _)
 unfold octC
 rw [show (r.toList == s.toList) = false from beq_eq_false_iff_ne.mpr ne,show (s.toList == r.toList) = false from beq_eq_false_iff_ne.mpr (Ne.symm ne),h1,h2]
 exact ⟨rfl,rfl⟩
theorem oct_eq (r : Array UInt8) : octC r r = 0:=by
 unfold octC
 rw [beq_self_eq_true]
 rfl
theorem wd_at (b : Bool) {r : Array UInt8} (h : okR r) {i : Nat} (hi : i < 4) : (wdOf b r).getD i 0 = sgk b (K r i):=by
 rw [wd_eq b h]
 have h1:=h.1
 have h2:=h.2
 unfold wdS K
 by_cases e : i < r.size + 1
 ·rw [List.getD_eq_getElem?_getD,List.getElem?_append_left (by simpa using e),if_pos e]
  simp [e,sgk]
 ·rw [List.getD_eq_getElem?_getD,List.getElem?_append_right (by simpa using e),if_neg e,List.length_map,List.length_range,List.getElem?_replicate,if_pos (by lia)]
  rfl
theorem K_lt (r : Array UInt8) (i : Nat) : K r i < 65:=by
 unfold K
 have:=sx_lt r i
 split <;> lia
theorem sgk_inj : ∀ b : Bool, ∀ u,u < 65 -> ∀ v,v < 65 -> sgk b u = sgk b v -> u = v:=by
 have h : ∀ b : Bool,(List.range 65).all (fun u => (List.range 65).all fun v => !(sgk b u == sgk b v) || u == v) = true:=by intro b;cases b <;> decide +kernel
 intro b u hu v hv e
 have:=List.all_eq_true.mp (List.all_eq_true.mp (h b) u (List.mem_range.mpr hu)) v (List.mem_range.mpr hv)
 rw [e,beq_self_eq_true] at this
 simpa using this
theorem br_both : ∀ b : Bool, ∀ u,u < 65 -> ∀ v,v < 65 -> u ≠ v -> ((lawBr b).any fun bk => inB bk (sgk b u) && inB bk (sgk b v)) = (decide (u < v) == decide (sgk b u < sgk b v)):=by
 have h : ∀ b : Bool,(List.range 65).all (fun u => (List.range 65).all fun v => u == v || (((lawBr b).any fun bk => inB bk (sgk b u) && inB bk (sgk b v)) == (decide (u < v) == decide (sgk b u < sgk b v)))) = true:=by intro b;cases b <;> decide +kernel
 intro b u hu v hv e
 have:=List.all_eq_true.mp (List.all_eq_true.mp (h b) u (List.mem_range.mpr hu)) v (List.mem_range.mpr hv)
 rw [show (u == v) = false from beq_eq_false_iff_ne.mpr e,Bool.false_or,beq_iff_eq] at this
 exact this
theorem comF_spec {a b : List Nat} (ha : a.length = 4) (hb : b.length = 4) (h : a ≠ b) : comF a b < 4 /\ a.take (comF a b) = b.take (comF a b) /\ (∀ i,i < comF a b -> a.getD i 0 = b.getD i 0) /\ a.getD (comF a b) 0 ≠ b.getD (comF a b) 0 /\ (b < a ↔ b.getD (comF a b) 0 < a.getD (comF a b) 0) /\ (a < b ↔ a.getD (comF a b) 0 < b.getD (comF a b) 0):=by
 refine X30 (len4 ha) fun a0 a1 a2 q8 => X10 q8 fun a3 q4 => ?_;subst q4
 refine X30 (len4 hb) fun b0 b1 b2 q8 => X10 q8 fun b3 q4 => ?_;subst q4
 have e : comF [a0,a1,a2,a3] [b0,b1,b2,b3] = (([0,1,2,3] : List Nat).filter fun i => [a0,a1,a2,a3].take (1 + i) == [b0,b1,b2,b3].take (1 + i)).length:=rfl
 by_cases h0 : a0 = b0
 ·subst h0
  by_cases h1 : a1 = b1
  ·subst h1
   by_cases h2 : a2 = b2
   ·subst h2
    by_cases h3 : a3 = b3
    ·subst h3;exact absurd rfl h
    ·have e : comF [a0,a1,a2,a3] [a0,a1,a2,b3] = 3:=by rw [e];simp [h3]
     rw [e]
     refine ⟨by decide,rfl,fun i hi => ?_,h3, ?_, ?_⟩
     ·match i,hi with
      | 0,_ => rfl
      | 1,_ => rfl
      | 2,_ => rfl
     ·simp [List.cons_lt_cons_iff]
     ·simp [List.cons_lt_cons_iff]
   ·have e : comF [a0,a1,a2,a3] [a0,a1,b2,b3] = 2:=by rw [e];simp [h2]
    rw [e]
    refine ⟨by decide,rfl,fun i hi => ?_,h2, ?_, ?_⟩
    ·match i,hi with
     | 0,_ => rfl
     | 1,_ => rfl
    ·simp [List.cons_lt_cons_iff,h2,Ne.symm h2]
    ·simp [List.cons_lt_cons_iff,h2,Ne.symm h2]
  ·have e : comF [a0,a1,a2,a3] [a0,b1,b2,b3] = 1:=by rw [e];simp [h1]
   rw [e]
   refine ⟨by decide,rfl,fun i hi => ?_,h1, ?_, ?_⟩
   ·match i,hi with
    | 0,_ => rfl
   ·simp [List.cons_lt_cons_iff,h1,Ne.symm h1]
   ·simp [List.cons_lt_cons_iff,h1,Ne.symm h1]
 ·have e : comF [a0,a1,a2,a3] [b0,b1,b2,b3] = 0:=by rw [e];simp [h0]
  rw [e]
  refine ⟨by decide,rfl,fun i hi => absurd hi (Nat.not_lt_zero _),h0, ?_, ?_⟩
  ·simp [List.cons_lt_cons_iff,h0,Ne.symm h0]
  ·simp [List.cons_lt_cons_iff,h0,Ne.symm h0]
noncomputable def prs (n : Nat) : List (Nat × Nat):=(List.range n).flatMap fun k => (List.range k).map fun j => (j,k)
theorem prs_succ (n : Nat) : prs (n + 1) = prs n ++ (List.range n).map fun j => (j,n):=by
 unfold prs
 rw [List.range_succ,List.flatMap_append,List.flatMap_cons,List.flatMap_nil,List.append_nil]
section
variable (lt : Nat -> Nat -> Bool) (irr : ∀ i,lt i i = false) (asy : ∀ i j,lt i j = true -> lt j i = false) (ls : Nat × Nat -> List (Nat × Nat)) (N : Nat) (h : ∀ j k,j < k -> k < N -> ls (j,k) = if lt j k then [(j,k)] else if lt k j then [(k,j)] else [])
include irr asy h
theorem rank_one (i j n : Nat) (hj : j < n) (hn : n < N) : ((ls (j,n)).filter fun q => q.2 == i).length = if i = n then (if lt j n then 1 else 0) else if i = j then (if lt n j then 1 else 0) else 0:=by
 rw [h j n hj hn]
 by_cases h1 : lt j n = true
 ·rw [if_pos h1,if_pos h1,asy j n h1]
  by_cases e : i = n
  ·subst e;simp
  ·rw [if_neg e]
   by_cases e2 : i = j
   ·subst e2;simp [Ne.symm e]
   ·simp [Ne.symm e,e2]
 ·rw [if_neg h1,if_neg h1]
  by_cases h2 : lt n j = true
  ·rw [if_pos h2,if_pos h2]
   by_cases e : i = n
   ·subst e
    have : j ≠ i:=by lia
    simp [this]
   ·rw [if_neg e]
    by_cases e2 : i = j
    ·subst e2;simp
    ·simp [e2,Ne.symm e2]
  ·rw [if_neg h2,if_neg h2]
   by_cases e : i = n <;> simp [e]
theorem rank_row (i n : Nat) (hn : n < N) : ∀ m,m <= n -> ((((List.range m).map fun j => (j,n)).flatMap ls).filter fun q => q.2 == i).length = if i = n then ((List.range m).filter fun j => lt j n).length else if i < m then (if lt n i then 1 else 0) else 0
 | 0,_ => by by_cases e : i = n <;> simp [e]
 | m + 1,hm => by
  have ih:=rank_row i n hn m (by lia)
  rw [List.range_succ,List.map_append,List.flatMap_append,List.filter_append,List.length_append,ih,List.filter_append,List.length_append]
  have one:=rank_one lt irr asy ls N h i m n (by lia) hn
  simp only [List.map_cons,List.map_nil,List.flatMap_cons,List.flatMap_nil,List.append_nil]
  rw [one]
  by_cases e : i = n
  ·rw [if_pos e,if_pos e,if_pos e]
   congr 1
   by_cases l : lt m n = true
   ·simp [l]
   ·simp [l]
  ·rw [if_neg e,if_neg e,if_neg e]
   by_cases e2 : i = m
   ·subst e2
    rw [if_neg (Nat.lt_irrefl _),if_pos rfl,if_pos (Nat.lt_succ_self _),Nat.zero_add]
   ·rw [if_neg e2]
    by_cases e3 : i < m
    ·rw [if_pos e3,if_pos (show i < m + 1 by lia),Nat.add_zero]
    ·rw [if_neg e3,if_neg (show ¬ i < m + 1 by lia)]
theorem rank_all (i : Nat) : ∀ n,n <= N -> (((prs n).flatMap ls).filter fun q => q.2 == i).length = if i < n then ((List.range n).filter fun j => lt j i).length else 0
 | 0,_ => rfl
 | n + 1,hn => by
  have ih:=rank_all i n (by lia)
  rw [prs_succ,List.flatMap_append,List.filter_append,List.length_append,ih,rank_row lt irr asy ls N h i n (by lia) n (Nat.le_refl _),List.range_succ,List.filter_append,List.length_append]
  by_cases e : i = n
  ·subst e
   rw [if_neg (Nat.lt_irrefl _),if_pos rfl,if_pos (Nat.lt_succ_self _)]
   simp [irr i]
  ·rw [if_neg e]
   by_cases e3 : i < n
   ·rw [if_pos e3,if_pos e3,if_pos (show i < n + 1 by lia)]
    congr 1
    by_cases l : lt n i = true
    ·simp [l]
    ·simp [l]
   ·rw [if_neg e3,if_neg e3,if_neg (show ¬ i < n + 1 by lia)]
end
theorem filter_le {α : Type} {p q : α -> Bool} (hpq : ∀ x,p x = true -> q x = true) : ∀ l : List α,(l.filter p).length <= (l.filter q).length
 | [] => Nat.le_refl _
 | x :: l => by
  have ih:=filter_le hpq l
  rw [List.filter_cons,List.filter_cons]
  by_cases hp : p x = true
  ·rw [if_pos hp,if_pos (hpq x hp)]
   exact Nat.succ_le_succ ih
  ·rw [if_neg hp]
   split
   ·exact Nat.le_succ_of_le ih
   ·exact ih
theorem filter_lt {α : Type} {p q : α -> Bool} (hpq : ∀ x,p x = true -> q x = true) {y : α} (hy : q y = true) (hy2 : p y = false) : ∀ {l : List α},y ∈ l -> (l.filter p).length < (l.filter q).length
 | x :: l,hm => by
  rw [List.filter_cons,List.filter_cons]
  rcases List.mem_cons.mp hm with rfl | hm
  ·rw [if_neg (by rw [hy2];exact Bool.false_ne_true),if_pos hy]
   exact Nat.lt_succ_of_le (filter_le hpq l)
  ·have ih:=filter_lt hpq hy hy2 hm
   by_cases hp : p x = true
   ·rw [if_pos hp,if_pos (hpq x hp)]
    exact Nat.succ_lt_succ ih
   ·rw [if_neg hp]
    split
    ·exact Nat.lt_succ_of_lt ih
    ·exact ih
theorem sorted_eq {α : Type} {le : α -> α -> Prop} (anti : ∀ a b,le a b -> le b a -> a = b) : ∀ {l m : List α},l.Perm m -> l.Pairwise le -> m.Pairwise le -> l = m
 | [],m,hp,_,_ => hp.nil_eq
 | a :: l, [],hp,_,_ => by have:=hp.length_eq;simp at this
 | a :: l,b :: m,hp,h1,h2 => by
  have e : a = b:=by
   refine Or.elim (List.mem_cons.mp (hp.mem_iff.mp List.mem_cons_self)) (fun e => ?_) fun ha => ?_
   ·exact e
   ·refine Or.elim (List.mem_cons.mp (hp.mem_iff.mpr (List.mem_cons_self (a:=b) (l:=m)))) (fun e => ?_) fun hb => ?_
    ·exact e.symm
    ·exact anti a b (List.rel_of_pairwise_cons h1 hb) (List.rel_of_pairwise_cons h2 ha)
  subst e
  rw [sorted_eq anti (List.perm_cons a |>.mp hp) (List.Pairwise.of_cons h1) (List.Pairwise.of_cons h2)]
theorem lst_anti {a b : List Nat} (h1 : ¬ b < a) (h2 : ¬ a < b) : a = b:=List.le_antisymm (as:=a) (bs:=b) h1 h2
theorem lst_tr {a b c : List Nat} (h1 : a < b) (h2 : b < c) : a < c:=List.lt_trans h1 h2
theorem lst_irr (a : List Nat) : ¬ a < a:=List.lt_irrefl a
section
noncomputable def lawX (ns : List Int) : List Int:=ns.take 4 ++ [0,1537,6145,50146562,25177346,11521]
noncomputable def lawB2 (ns : List Int) : Bool:=(ns.take 4).sum.fmod 2 == 1
noncomputable def lawA (t : Int) : Nat:=(1 + (t.fdiv 2).fmod 3).toNat
noncomputable def lawC (t : Int) : Nat:=(1 + (t.fdiv 6).fmod 3).toNat
theorem lawA_eq (t : Int) : 1 + (t.fdiv 2).fmod 3 = (lawA t : Int) /\ 1 <= lawA t /\ lawA t <= 3:=by
 unfold lawA
 rw [Int.fmod_eq_emod_of_nonneg _ (by decide)]
 lia -abstractProof
theorem lawC_eq (t : Int) : 1 + (t.fdiv 6).fmod 3 = (lawC t : Int) /\ 1 <= lawC t /\ lawC t <= 3:=by
 unfold lawC
 rw [Int.fmod_eq_emod_of_nonneg _ (by decide)]
 lia -abstractProof
theorem octs_ok (x : Int) : okR (octs x):=by
 unfold okR octs
 have h : 0 <= x.fmod 3 /\ x.fmod 3 < 3:=by
  rw [Int.fmod_eq_emod_of_nonneg _ (by decide)];lia -abstractProof
 have : x.fmod 3 = 0 \/ x.fmod 3 = 1 \/ x.fmod 3 = 2:=by lia -abstractProof
 unfold byteArr
 refine Or.elim this (fun e => ?_) fun q1 => Or.elim q1 (fun e => ?_) fun e => ?_ <;> rw [e] <;> simp [rangeKs]
theorem lawTw_len (b : Bool) : (lawTw b).length = 2:=by cases b <;> rfl
theorem mulSp (n : Nat) (h : n <= 3) : Txt.mul (Str.ofString " ") (n : Int) = mkS (List.replicate n 32):=by
 match n,h with
 | 0,_ => decide +kernel
 | 1,_ => decide +kernel
 | 2,_ => decide +kernel
 | 3,_ => decide +kernel
noncomputable def lawLn (b : Bool) (R : List (Array UInt8)) (m n : Nat) : List Nat:=List.replicate m 32 ++ (R.map (wdOf b)).flatten ++ List.replicate n 32
theorem flat_len (b : Bool) (R : List (Array UInt8)) (h : ∀ r ∈ R,okR r) : ((R.map (wdOf b)).flatten).length = 4 * R.length:=by
 induction R with
 | nil => rfl
 | cons r R ih =>
  rw [List.map_cons,List.flatten_cons,List.length_append,wd_len b r (h r List.mem_cons_self),ih fun q hq => h q (List.mem_cons_of_mem _ hq),List.length_cons]
  lia -abstractProof
theorem ln_len (b : Bool) (R : List (Array UInt8)) (m n : Nat) (h : ∀ r ∈ R,okR r) : (lawLn b R m n).length = m + 4 * R.length + n:=by
 unfold lawLn
 rw [List.length_append,List.length_append,flat_len b R h,List.length_replicate,List.length_replicate]
variable {w : World} {A : Around}
theorem mk_app (a b : List Nat) : mkS a ++ mkS b = mkS (a ++ b):=cs_inj (by rw [cs_app,cs_mkS,cs_mkS,cs_mkS])
theorem join_mk (l : List (List Nat)) : Txt.join (Str.ofString "") (l.map mkS) = mkS l.flatten:=cs_inj (by rw [join_nil_cs,cs_mkS,List.map_map,show (cs ∘ mkS) = id from funext cs_mkS,List.map_id])
theorem sp_mk (l : List Nat) (i : Int) (h0 : 0 <= i) (h1 : i < l.length) : sp (mkS l) i = (l.getD i.toNat 0 == 32):=by
 unfold sp
 rw [item_meets ⟨h0,by rw [len_mkS];exact h1⟩, <- SeqAt.str_beq]
 show ([(mkS l).cps.getD i.toNat 0] == (Str.ofString " ").cps.toList) = _
 rw [show (Str.ofString " ").cps.toList = [32] by decide +kernel]
 have e : (mkS l).cps.getD i.toNat 0 = l.getD i.toNat 0:=by
  show l.toArray.getD i.toNat 0 = _
  rw [Array.getD_eq_getD_getElem?,List.getElem?_toArray,List.getD_eq_getElem?_getD]
 rw [e]
 simp
theorem flat_good (b : Bool) (R : List (Array UInt8)) (h : ∀ r ∈ R,okR r) : ∀ c ∈ (R.map (wdOf b)).flatten,c ≠ 32:=by
 intro c hc
 refine X11 (List.mem_flatten.mp hc) fun l hl hc => ?_
 refine X11 (List.mem_map.mp hl) fun r hr q2 => ?_;subst q2
 intro e
 subst e
 exact absurd (wd_good b r (h r hr) 32 hc) (by decide)
theorem sp_lnA (b : Bool) (R : List (Array UInt8)) (m n : Nat) (h : ∀ r ∈ R,okR r) (h6 : 1 <= R.length) : (∀ i : Int,0 <= i -> i < m -> sp (mkS (lawLn b R m n)) i = true) /\ sp (mkS (lawLn b R m n)) m = false:=by
 have hl:=ln_len b R m n h
 have hf:=flat_len b R h
 have hg:=flat_good b R h
 have hr : (List.replicate m 32).length = m:=List.length_replicate
 constructor
 ·intro i h0 h1
  rw [sp_mk _ _ h0 (by lia -abstractProof)]
  unfold lawLn
  rw [List.append_assoc,List.getD_eq_getElem?_getD,List.getElem?_append_left (by lia -abstractProof),List.getElem?_replicate,if_pos (by lia -abstractProof)]
  rfl
 ·rw [sp_mk _ _ (by lia -abstractProof) (by lia -abstractProof),Int.toNat_natCast]
  unfold lawLn
  rw [List.append_assoc,List.getD_eq_getElem?_getD,List.getElem?_append_right (by lia -abstractProof),List.getElem?_append_left (by lia -abstractProof),hr,Nat.sub_self]
  generalize (R.map (wdOf b)).flatten = f at hf hg
  match f,hf with
  | c :: f,_ => exact beq_eq_false_iff_ne.mpr (hg c List.mem_cons_self)
  | [],hf => simp at hf;lia -abstractProof
theorem sp_lnB (b : Bool) (R : List (Array UInt8)) (m n : Nat) (h : ∀ r ∈ R,okR r) (h6 : 1 <= R.length) : (∀ i : Int,((mkS (lawLn b R m n)).length : Int) - n <= i -> i < (mkS (lawLn b R m n)).length -> sp (mkS (lawLn b R m n)) i = true) /\ sp (mkS (lawLn b R m n)) (((mkS (lawLn b R m n)).length : Int) - 1 - n) = false:=by
 have hl:=ln_len b R m n h
 have hf:=flat_len b R h
 have hg:=flat_good b R h
 have hr : (List.replicate m 32).length = m:=List.length_replicate
 have hr2 : (List.replicate n 32).length = n:=List.length_replicate
 rw [len_mkS]
 constructor
 ·intro i h0 h1
  rw [sp_mk _ _ (by lia -abstractProof) (by lia -abstractProof)]
  unfold lawLn
  rw [List.getD_eq_getElem?_getD,List.getElem?_append_right (by rw [List.length_append];lia -abstractProof),List.getElem?_replicate,if_pos (by rw [List.length_append];lia -abstractProof)]
  rfl
 ·rw [sp_mk _ _ (by lia -abstractProof) (by lia -abstractProof)]
  unfold lawLn
  have e1 : ((((List.replicate m 32 ++ (R.map (wdOf b)).flatten ++ List.replicate n 32).length : Nat) : Int) - 1 - (n : Int)).toNat = m + (4 * R.length - 1):=by
   show (((lawLn b R m n).length : Int) - 1 - (n : Int)).toNat = _
   lia -abstractProof
  rw [e1,List.getD_eq_getElem?_getD,List.getElem?_append_left (by rw [List.length_append];lia -abstractProof),List.getElem?_append_right (by lia -abstractProof),hr,Nat.add_sub_cancel_left]
  have hlt : 4 * R.length - 1 < (R.map (wdOf b)).flatten.length:=by lia -abstractProof
  rw [List.getElem?_eq_getElem hlt]
  exact beq_eq_false_iff_ne.mpr (hg _ (List.getElem_mem _))
theorem f_stripL (b : Bool) (R : List (Array UInt8)) (m n k : Nat) (h : ∀ r ∈ R,okR r) (h6 : 1 <= R.length) (h10 : R.length <= 10) (hm : m <= 3) (hn : n <= 3) : Fn w 66 2 [.str (mkS (lawLn b R m n)), .int k] (.str (Txt.slice (mkS (lawLn b R m n)) (some ((min k m : Nat) : Int)) (some (((mkS (lawLn b R m n)).length : Int) - (min (k - min k m) n : Nat))))):=by
 have hl:=ln_len b R m n h
 have ha:=sp_lnA b R m n h h6
 have hb:=sp_lnB b R m n h h6
 exact f_strip _ k m n (by rw [len_mkS];lia -abstractProof) (by rw [len_mkS];lia -abstractProof) ha.1 ha.2 hb.1 hb.2
noncomputable def wS (b : Bool) (r : Array UInt8) : PV:=.str (mkS (wdOf b r))
theorem slice_ln (b : Bool) (R : List (Array UInt8)) (m n : Nat) (h : ∀ r ∈ R,okR r) : Txt.slice (mkS (lawLn b R m n)) (some ((min (m + n) m : Nat) : Int)) (some (((mkS (lawLn b R m n)).length : Int) - (min ((m + n) - min (m + n) m) n : Nat))) = mkS (R.map (wdOf b)).flatten:=by
 have hl:=ln_len b R m n h
 have hf:=flat_len b R h
 have hr : (List.replicate m 32).length = m:=List.length_replicate
 rw [len_mkS,show min (m + n) m = m by lia -abstractProof,show (((lawLn b R m n).length : Nat) : Int) - ((min (m + n - m) n : Nat) : Int) = ((m + 4 * R.length : Nat) : Int) by lia -abstractProof,slice_mid _ _ _ (by lia -abstractProof) (by lia -abstractProof)]
 congr 1
 unfold lawLn
 rw [List.append_assoc,List.drop_append_of_le_length (by lia -abstractProof),List.drop_of_length_le (by lia -abstractProof),List.nil_append,List.take_append_of_le_length (by lia -abstractProof),List.take_of_length_le (by lia -abstractProof)]
theorem chunk_at (b : Bool) : ∀ (R : List (Array UInt8)) (h : ∀ r ∈ R,okR r) (i : Nat) (hi : i < R.length),((R.map (wdOf b)).flatten.drop (4 * i)).take 4 = wdOf b R[i]
 | r :: R,h,0,_ => by
  have:=wd_len b r (h r List.mem_cons_self)
  rw [List.map_cons,List.flatten_cons,Nat.mul_zero,List.drop_zero,List.take_append_of_le_length (by lia -abstractProof),List.take_of_length_le (by lia -abstractProof)]
  rfl
 | r :: R,h,i + 1,hi => by
  have:=wd_len b r (h r List.mem_cons_self)
  rw [List.map_cons,List.flatten_cons,List.drop_append,List.drop_of_length_le (by lia -abstractProof),List.nil_append,this,show 4 * (i + 1) - 4 = 4 * i by lia -abstractProof]
  exact chunk_at b R (fun q hq => h q (List.mem_cons_of_mem _ hq)) i (by simpa using hi)
theorem cut_ln (b : Bool) (R : List (Array UInt8)) (h : ∀ r ∈ R,okR r) : ((List.range R.length).map (chunk (mkS (R.map (wdOf b)).flatten))).map PV.str = R.map (wS b):=by
 rw [List.map_map]
 refine List.ext_getElem (by simp) fun i h1 h2 => ?_
 have hi : i < R.length:=by simpa using h2
 rw [List.getElem_map,List.getElem_map,List.getElem_range]
 show PV.str (chunk _ i) = PV.str (mkS (wdOf b R[i]))
 unfold chunk
 rw [cs_mkS,chunk_at b R h i hi]
theorem tab1 {a : Addr} {led : Led} : Tabs [a] ((a,LO.tab) :: led):=fun t ht => by rw [List.mem_singleton.mp ht];exact List.mem_cons_self
theorem wS_eq (b : Bool) (r : Array UInt8) : wS b r = .str (lawB (lawTw b) r):=by unfold wS wdOf;rw [mkS_cs]
theorem f_lawb64 (b : Bool) (r : Array UInt8) (h : okR r) : Fn w 195 2 [.bytes r, .str (lawTw b)] (wS b r):=by
 rw [wS_eq]
 exact f_lawb64T r _ h.1 h.2 (lawTw_len b)
theorem f_dec (b : Bool) (r : Array UInt8) (h : okR r) : Fn w 147 3 [wS b r, .bytes (altB b)] (.bytes r):=f_dec' b r h
theorem rd_eq (b : Bool) (R : List (Array UInt8)) : R.map (wS b) = (R.map fun r => mkS (wdOf b r)).map .str:=by rw [List.map_map];rfl
noncomputable def prV (p : Nat × Nat) : PV:=.tup [.int (p.1 : Nat), .int (p.2 : Nat)]
theorem mem_prs {n : Nat} {p : Nat × Nat} : p ∈ prs n ↔ p.1 < p.2 /\ p.2 < n:=by
 unfold prs
 rw [List.mem_flatMap]
 constructor
 ·rintro ⟨k,hk,h⟩
  refine X11 (List.mem_map.mp h) fun j hj q2 => ?_;subst q2
  exact ⟨List.mem_range.mp hj,List.mem_range.mp hk⟩
 ·rintro ⟨h1,h2⟩
  exact ⟨p.2,List.mem_range.mpr h2,List.mem_map.mpr ⟨p.1,List.mem_range.mpr h1,rfl⟩⟩
theorem outL_prs (n : Nat) : outL (fun i => i) (fun z9 z9 => true) (fun i j => .tup [.int (j : Nat), .int (i : Nat)]) n = (prs n).map prV:=by
 unfold outL prs
 rw [List.map_flatMap]
 congr 1
 funext i
 rw [List.filter_eq_self.mpr fun z9 z9 => rfl,List.map_map]
 rfl
theorem prs_len : ∀ n,n <= 10 -> (prs n).length <= 45:=by decide
noncomputable def wi (b : Bool) (R : List (Array UInt8)) (i : Nat) : List Nat:=wdOf b (R.getD i #[])
noncomputable def frL (b : Bool) (R : List (Array UInt8)) (p : Nat × Nat) : List Nat:=(wi b R p.1).take (comF (wi b R p.1) (wi b R p.2))
noncomputable def dif (b : Bool) (R : List (Array UInt8)) (p : Nat × Nat) : Bool:=wi b R p.1 != wi b R p.2
theorem rdAt (b : Bool) (R : List (Array UInt8)) {i : Nat} (h : i < R.length) : (R.map (wS b))[((i : Nat) : Int).toNat]? = some (.str (mkS (wi b R i))):=by
 rw [Int.toNat_natCast,List.getElem?_map,List.getElem?_eq_getElem h]
 show some (wS b R[i]) = _
 unfold wi wS
 rw [List.getD_eq_getElem?_getD,List.getElem?_eq_getElem h]
 rfl
theorem wi_ok (b : Bool) (R : List (Array UInt8)) (hR : ∀ r ∈ R,okR r) {i : Nat} (h : i < R.length) : (wi b R i).length = 4:=by
 unfold wi
 refine wd_len b _ (hR _ ?_)
 rw [List.getD_eq_getElem?_getD,List.getElem?_eq_getElem h]
 exact List.getElem_mem h
theorem fronts_ex (b : Bool) (R : List (Array UInt8)) {fr : List Str} (hm : ∀ k,k ∈ fr ↔ k ∈ ((prs R.length).filter (dif b R)).map fun p => mkS (frL b R p)) (hn : fr.Nodup) (hl : fr.length <= 45) : ∃ F : List (List Nat),fr = F.map mkS /\ F.Nodup /\ F.length <= 45 /\ ∀ f,f ∈ F ↔ ∃ p ∈ prs R.length,dif b R p = true /\ f = frL b R p:=by
 refine ⟨fr.map cs, ?_, ?_,by rw [List.length_map];exact hl,fun f => ?_⟩
 ·rw [List.map_map,show mkS ∘ cs = id from funext mkS_cs,List.map_id]
 ·exact (List.pairwise_map.mpr (hn.imp fun h e => h (cs_inj e)))
 ·constructor
  ·intro h
   refine X11 (List.mem_map.mp h) fun k hk q2 => ?_;subst q2
   refine X11 (List.mem_map.mp ((hm k).mp hk)) fun p hp e => ?_
   refine Y2 (List.mem_filter.mp hp) fun h1 h2 => ?_
   exact ⟨p,h1,h2,by rw [<- e,cs_mkS]⟩
  ·rintro ⟨p,h1,h2,rfl⟩
   exact List.mem_map.mpr ⟨_,(hm _).mpr (List.mem_map.mpr ⟨p,List.mem_filter.mpr ⟨h1,h2⟩,rfl⟩),cs_mkS _⟩
theorem wi_good (b : Bool) (R : List (Array UInt8)) (hR : ∀ r ∈ R,okR r) {i : Nat} (h : i < R.length) : ∀ c ∈ wi b R i,goodC c = true:=by
 unfold wi
 refine wd_good b _ (hR _ ?_)
 rw [List.getD_eq_getElem?_getD,List.getElem?_eq_getElem h]
 exact List.getElem_mem h
theorem fr_good (b : Bool) (R : List (Array UInt8)) (hR : ∀ r ∈ R,okR r) {F : List (List Nat)} (hF : ∀ f,f ∈ F ↔ ∃ p ∈ prs R.length,dif b R p = true /\ f = frL b R p) : ∀ f ∈ F,f.length <= 4 /\ ∀ c ∈ f,goodC c = true:=by
 intro f hf
 refine X12 ((hF f).mp hf) fun p hp _ q3 => ?_;subst q3
 have hp2:=mem_prs.mp hp
 have hp1 : p.1 < R.length:=Nat.lt_trans hp2.1 hp2.2
 refine ⟨?_,fun c hc => wi_good b R hR hp1 c (List.mem_of_mem_take hc)⟩
 unfold frL
 rw [List.length_take,wi_ok b R hR hp1]
 exact Nat.min_le_right _ _
theorem good_lt {c : Nat} (h : goodC c = true) : c < 128:=by
 unfold goodC at h
 simp only [Bool.or_eq_true,Bool.and_eq_true,decide_eq_true_eq,beq_iff_eq] at h
 lia -abstractProof
theorem good_ascii {l : List Nat} (h : ∀ c ∈ l,goodC c = true) : (mkS l).cps.all (· < 128) = true:=by
 show l.toArray.all (fun x => decide (x < 128)) = true
 rw [List.all_toArray,List.all_eq_true]
 exact fun c hc => decide_eq_true (good_lt (h c hc))
noncomputable def partsV (f : List Nat) (bk : Str) : PV:=.lst (f.map (fun c => .str (escL c)) ++ [.str (brkL bk),PV.none])
theorem esc_eq {c : Nat} : escS c = escL c:=by
 unfold escS escL
 by_cases h : c = 43
 ·subst h;rfl
 ·by_cases h2 : c = 45
  ·subst h2;rfl
  ·rw [if_neg h,if_neg h2,if_neg (by lia -abstractProof)]
theorem mkS_inj {a b : List Nat} (h : mkS a = mkS b) : a = b:=by
 have:=congrArg cs h
 rwa [cs_mkS,cs_mkS] at this
theorem br_st (b : Bool) : ∀ bk ∈ lawBr b, ∃ st ∈ sts,bk = mkS (91 :: (st ++ [93])) /\ brkT st = brkL bk:=by
 cases b
 ·intro bk h
  have h : bk ∈ [Str.ofString "[=A-Za-z]",Str.ofString "[0-9]",Str.ofString "[+/]"]:=h
  simp only [List.mem_cons,List.not_mem_nil,or_false] at h
  rcases h with rfl | rfl | rfl
  ·exact ⟨[61,65,45,90,97,45,122],by decide,by decide +kernel,by decide +kernel⟩
  ·exact ⟨[48,45,57],by decide,by decide +kernel,by decide +kernel⟩
  ·exact ⟨[43,47],by decide,by decide +kernel,by decide +kernel⟩
 ·intro bk h
  have h : bk ∈ [Str.ofString "[=A-Za-z]",Str.ofString "[0-9_]",Str.ofString "[=A-Z_]",Str.ofString "[-_]"]:=h
  simp only [List.mem_cons,List.not_mem_nil,or_false] at h
  rcases h with rfl | rfl | rfl | rfl
  ·exact ⟨[61,65,45,90,97,45,122],by decide,by decide +kernel,by decide +kernel⟩
  ·exact ⟨[48,45,57,95],by decide,by decide +kernel,by decide +kernel⟩
  ·exact ⟨[61,65,45,90,95],by decide,by decide +kernel,by decide +kernel⟩
  ·exact ⟨[45,95],by decide,by decide +kernel,by decide +kernel⟩
theorem br_len (b : Bool) : (lawBr b).length <= 4:=by cases b <;> exact Nat.le_of_ble_eq_true rfl
theorem br_str (b : Bool) : ∀ bk ∈ lawBr b,bk.length <= 20:=by
 intro bk h
 refine X12 (br_st b bk h) fun st hs q2 _ => ?_;subst q2
 rw [len_mkS]
 have : ∀ st ∈ sts,(91 :: (st ++ [93])).length <= 20:=by decide
 exact this st hs
noncomputable def patS (f : List Nat) (bk : Str) : Str:=mkS (f ++ (cs bk ++ [42]))
theorem pat_eq (f : List Nat) (bk : Str) : (mkS f ++ bk) ++ Str.ofString "*" = patS f bk:=cs_inj (by
 unfold patS
 rw [cs_app,cs_app,cs_mkS,cs_mkS,show cs (Str.ofString "*") = [42] by decide +kernel,List.append_assoc])
theorem pat_st (f : List Nat) {st : List Nat} : patS f (mkS (91 :: (st ++ [93]))) = mkS (f ++ brOf st):=by
 unfold patS brOf
 rw [cs_mkS]
 simp
theorem f_transL (b : Bool) (f : List Nat) (bk : Str) (h : bk ∈ lawBr b) (hg : f.length <= 4 /\ ∀ c ∈ f,goodC c = true) : FnG [173] w 178 4 [.str (patS f bk),PV.none, .str (Str.ofString ".")] (partsV f bk):=by
 refine X12 (br_st b bk h) fun st hs q2 e => ?_;subst q2
 have:=f_trans (w:=w) f st .none (.inl rfl) hs hg.2 (by lia -abstractProof)
 rw [<- pat_st,e] at this
 unfold partsV
 rw [show f.map (fun c => PV.str (escL c)) ++ [.str (brkL (mkS (91 :: (st ++ [93])))),PV.none] = (f.map escS ++ [brkL (mkS (91 :: (st ++ [93])))]).map PV.str ++ [PV.val .none] by
  rw [List.map_append,List.map_map,List.append_assoc,show (fun c => PV.str (escL c)) = PV.str ∘ escS from funext fun c => by rw [<- esc_eq];rfl]
  rfl]
 exact this.G
theorem f_partsL (b : Bool) (f : List Nat) (bk : Str) (h : bk ∈ lawBr b) (hg : f.length <= 4 /\ ∀ c ∈ f,goodC c = true) : FnG [] w 212 2 [.str (mkS f), .str bk] (partsV f bk) :=
 f_parts f bk (by lia -abstractProof) (good_ascii hg.2) (Nat.le_trans (br_str b bk h) (by decide))
noncomputable def trS (f : List Nat) (bk : Str) : Str:=mkS (cs (Str.ofString "(?s:") ++ ((f.map escL ++ [brkL bk]).map cs).flatten ++ cs (Str.ofString ".*)\\Z"))
theorem f_translateL (b : Bool) (f : List Nat) (bk : Str) (h : bk ∈ lawBr b) (hg : f.length <= 4 /\ ∀ c ∈ f,goodC c = true) : FnG [173] w 159 6 [.str (patS f bk)] (.str (trS f bk)):=by
 refine X12 (br_st b bk h) fun st hs q2 e => ?_;subst q2
 have:=f_translate (w:=w) f st hs hg.2 (by lia -abstractProof)
 rw [<- pat_st,e] at this
 unfold trS
 rw [show f.map escL = f.map escS from List.map_congr_left fun c _ => esc_eq.symm]
 exact this.G
noncomputable def toldV (b : Bool) (f : List Nat) : PV:=.lst ((lawBr b).map (partsV f))
theorem told_eq (b : Bool) (F : List (List Nat)) : ((List.range F.length).map fun i => (mkS (F.getD i []),toldV b (F.getD i []))) = F.map fun f => (mkS f,toldV b f):=by
 have:=congrArg (List.map fun f => (mkS f,toldV b f)) (range_getD F [] F.length rfl)
 rw [List.map_map] at this
 exact this
theorem Dk.up {n m : Nat} {p : PV} (h : Dk n p) (hm : n <= m) : Dk m p:=by
 refine X12 h fun d h1 h2 h3 => ?_
 exact ⟨d,h1,h2,Nat.le_trans h3 hm⟩
theorem strOk_mk {l : List Nat} (h : ∀ c ∈ l,c < 128) : PyData.strOk (mkS l) = true:=by
 show l.toArray.all (fun x => decide (x < 0x110000)) = true
 rw [List.all_toArray,List.all_eq_true]
 exact fun c hc => decide_eq_true (Nat.lt_trans (h c hc) (by decide))
theorem strOk_br (b : Bool) : ∀ bk ∈ lawBr b,PyData.strOk (brkL bk) = true:=by cases b <;> decide +kernel
theorem strOk_esc {c : Nat} (h : goodC c = true) : PyData.strOk (escL c) = true:=by
 have:=good_lt h
 unfold escL
 split
 ·exact strOk_mk (by intro x hx;simp at hx;lia -abstractProof)
 ·exact strOk_mk (l := [c]) (by intro x hx;simp at hx;lia -abstractProof)
theorem told_dk (b : Bool) {F : List (List Nat)} (h : ∀ f ∈ F,f.length <= 4 /\ ∀ c ∈ f,goodC c = true) : ∀ q ∈ F.map (fun f => (mkS f,toldV b f)),Dk 64 q.2:=by
 intro q hq
 refine X11 (List.mem_map.mp hq) fun f hf q2 => ?_;subst q2
 refine Dk.up (n:=2) (Dk.lst fun p hp => ?_) (by decide)
 refine X11 (List.mem_map.mp hp) fun bk hb q2 => ?_;subst q2
 refine Dk.lst fun p hp => ?_
 refine Or.elim (List.mem_append.mp hp) (fun hp => ?_) fun hp => ?_
 ·refine X11 (List.mem_map.mp hp) fun c hc q2 => ?_;subst q2
  exact Dk.str (strOk_esc ((h f hf).2 c hc))
 ·rcases List.mem_cons.mp hp with rfl | hp
  ·exact Dk.str (strOk_br b bk hb)
  ·rw [List.mem_singleton.mp hp]
   exact Dk.none
theorem partsV_eq (f : List Nat) (bk : Str) : partsV f bk = .lst ((f.map escL ++ [brkL bk]).map .str ++ [PV.none]):=by
 unfold partsV
 rw [List.map_append,List.map_map,List.append_assoc]
 rfl
theorem join_cs (l : List Str) : Txt.join (Str.ofString "") l = mkS (l.map cs).flatten:=cs_inj (by rw [join_nil_cs,cs_mkS])
theorem escL_len (c : Nat) : (cs (escL c)).length <= 2:=by
 unfold escL
 split
 ·rw [cs_mkS];exact Nat.le_refl _
 ·exact Nat.le_of_ble_eq_true rfl
theorem brkL_len (b : Bool) : ∀ bk ∈ lawBr b,(cs (brkL bk)).length <= 20:=by cases b <;> decide +kernel
theorem parts_len (b : Bool) (f : List Nat) (bk : Str) (h : bk ∈ lawBr b) (hf : f.length <= 4) : (((f.map escL ++ [brkL bk]).map cs).flatten).length <= 28:=by
 have h2:=brkL_len b bk h
 have : ∀ f : List Nat,(((f.map escL).map cs).flatten).length <= 2 * f.length:=by
  intro f
  induction f with
  | nil => exact Nat.le_refl _
  | cons c f ih =>
   rw [List.map_cons,List.map_cons,List.flatten_cons,List.length_append,List.length_cons]
   have:=escL_len c
   lia -abstractProof
 have:=this f
 rw [List.map_append,List.flatten_append,List.length_append]
 simp only [List.map_cons,List.map_nil,List.flatten_cons,List.flatten_nil,List.append_nil]
 lia -abstractProof
theorem sum_cs (l : List Str) : (l.map (·.length)).sum = ((l.map cs).flatten).length:=by
 rw [List.length_flatten,List.map_map]
 rfl
theorem trS_eq (f : List Nat) (bk : Str) : (Str.ofString "(?s:" ++ mkS ((f.map escL ++ [brkL bk]).map cs).flatten) ++ Str.ofString ".*)\\Z" = trS f bk:=cs_inj (by
 unfold trS
 rw [cs_app,cs_app,cs_mkS,cs_mkS])
theorem flat_str (b : Bool) (F : List (List Nat)) : (F.flatMap fun f => (lawBr b).map fun bk => PV.str (trS f bk)) = (F.flatMap fun f => (lawBr b).map (trS f)).map .str:=by
 rw [List.map_flatMap]
 simp only [List.map_map]
 rfl
noncomputable def bkL (b : Bool) (R : List (Array UInt8)) (p : Nat × Nat) : List Str:=if dif b R p then lawBr b else []
noncomputable def bothL (b : Bool) (R : List (Array UInt8)) (p : Nat × Nat) : List Str:=(bkL b R p).filter fun bk => inB bk ((wi b R p.1).getD (frL b R p).length 0) && inB bk ((wi b R p.2).getD (frL b R p).length 0)
noncomputable def ri (R : List (Array UInt8)) (i : Nat) : Array UInt8:=R.getD i #[]
noncomputable def dueI (b : Bool) (R : List (Array UInt8)) (p : Nat × Nat) : Int:=if !(bothL b R p).isEmpty then octC (ri R p.1) (ri R p.2) else 0 - octC (ri R p.1) (ri R p.2)
noncomputable def cmpI (b : Bool) (R : List (Array UInt8)) (j k : Nat) : Int:=cmpS (mkS (wi b R j)) (mkS (wi b R k))
noncomputable def lsOf (b : Bool) (R : List (Array UInt8)) (p : Nat × Nat) : List (Nat × Nat):=if dueI b R p == -1 then [(p.1,p.2)] else if dueI b R p == 1 then [(p.2,p.1)] else []
theorem lsOf_len (b : Bool) (R : List (Array UInt8)) (p : Nat × Nat) : (lsOf b R p).length <= 1:=by
 unfold lsOf
 split
 ·exact Nat.le_refl _
 ·split
  ·exact Nat.le_refl _
  ·exact Nat.zero_le _
theorem fr_len3 (b : Bool) (R : List (Array UInt8)) (hR : ∀ r ∈ R,okR r) {p : Nat × Nat} (hp : p ∈ prs R.length) (hd : dif b R p = true) : (frL b R p).length <= 3 /\ frL b R p = (wi b R p.1).take (frL b R p).length /\ frL b R p = (wi b R p.2).take (frL b R p).length:=by
 have hp2:=mem_prs.mp hp
 have hp1 : p.1 < R.length:=Nat.lt_trans hp2.1 hp2.2
 have l1:=wi_ok b R hR hp1
 have l2:=wi_ok b R hR hp2.2
 have ne : wi b R p.1 ≠ wi b R p.2:=by unfold dif at hd;simpa using hd
 refine Y3 (comF_spec l1 l2 ne) fun h4 h5 _ => ?_
 have e : (frL b R p).length = comF (wi b R p.1) (wi b R p.2):=by
  unfold frL
  rw [List.length_take,l1]
  lia -abstractProof
 rw [e]
 exact ⟨by lia -abstractProof,rfl,h5⟩
theorem lookup_told (b : Bool) (g : List Nat) : ∀ F : List (List Nat),(F.map fun f => (mkS f,toldV b f)).lookup (mkS g) = if g ∈ F then some (toldV b g) else none
 | [] => rfl
 | f :: F => by
  rw [List.map_cons,List.lookup_cons,lookup_told b g F]
  by_cases e : g = f
  ·subst e
   rw [show (mkS g == mkS g) = true from beq_self_eq_true _,if_pos List.mem_cons_self]
  ·rw [show (mkS g == mkS f) = false from beq_eq_false_iff_ne.mpr fun z => e (mkS_inj z)]
   show (if g ∈ F then some (toldV b g) else none) = _
   by_cases h : g ∈ F
   ·rw [if_pos h,if_pos (List.mem_cons_of_mem _ h)]
   ·rw [if_neg h,if_neg fun z => (List.mem_cons.mp z).elim e h]
theorem comF_self (a : List Nat) : comF a a = 4:=by
 unfold comF
 rw [List.filter_eq_self.mpr fun z9 z9 => beq_self_eq_true _]
 rfl
theorem told_get (b : Bool) (R : List (Array UInt8)) (hR : ∀ r ∈ R,okR r) {F : List (List Nat)} (hF1 : F.Nodup) (hF3 : ∀ f,f ∈ F ↔ ∃ p ∈ prs R.length,dif b R p = true /\ f = frL b R p) {p : Nat × Nat} (hp : p ∈ prs R.length) : ((F.map fun f => (mkS f,toldV b f)).lookup (mkS (frL b R p))).getD (.lst []) = .lst ((bkL b R p).map (partsV (frL b R p))):=by
 rw [lookup_told]
 unfold bkL
 by_cases hd : dif b R p = true
 ·rw [if_pos ((hF3 _).mpr ⟨p,hp,hd,rfl⟩),if_pos hd]
  rfl
 ·rw [if_neg hd,if_neg fun hf => ?_]
  ·rfl
  ·refine X12 ((hF3 _).mp hf) fun q hq hdq e => ?_
   have h3:=(fr_len3 b R hR hq hdq).1
   have hp2:=mem_prs.mp hp
   have hp1 : p.1 < R.length:=Nat.lt_trans hp2.1 hp2.2
   have ee : wi b R p.1 = wi b R p.2:=by unfold dif at hd;simpa using hd
   have l4 : (frL b R p).length = 4:=by
    unfold frL
    rw [<- ee,comF_self,List.length_take,wi_ok b R hR hp1]
    rfl
   rw [e] at l4
   lia -abstractProof
theorem br_fit : ∀ b : Bool, ∀ bk ∈ lawBr b,(cs (brkL bk)).take 1 = [91] /\ 3 <= (cs (brkL bk)).length /\ (cs (brkL bk)).length <= 100:=by intro b;cases b <;> decide +kernel
theorem br_some : ∀ b : Bool, ∀ bk ∈ lawBr b, ∀ c,c < 128 -> (inRun (cs (brkL bk)) c 10 1 false).isSome = true:=by intro b;cases b <;> decide +kernel
theorem good_91 {c : Nat} (h : goodC c = true) : c ≠ 91:=by rintro rfl;exact absurd h (by decide)
theorem fit_esc {c : Nat} (h : goodC c = true) : Fit (cs (escL c)) c true:=by
 unfold escL
 by_cases e : c = 43 \/ c = 45
 ·rw [if_pos e,cs_mkS]
  exact ⟨by show 1 <= 2;decide,by show 2 <= 100;decide,by rw [if_neg (show ¬ [92,c].take 1 = [91] by simp)];simp⟩
 ·rw [if_neg e]
  show Fit [c] c true
  exact ⟨by show 1 <= 1;decide,by show 1 <= 100;decide,by rw [if_neg (show ¬ [c].take 1 = [91] by simpa using good_91 h)];simp⟩
theorem f_takesL (b : Bool) (f word : List Nat) (bk : Str) (h : bk ∈ lawBr b) (hw : word.length = 4) (hg : ∀ c ∈ word,goodC c = true) (hf : f.length <= 3) (hp : f = word.take f.length) : FnG [] w 224 4 [partsV f bk, .str (mkS word)] (.bool (inB bk (word.getD f.length 0))):=by
 have hlt : f.length < word.length:=by lia -abstractProof
 have hgc : goodC (word.getD f.length 0) = true:=hg _ (by rw [List.getD_eq_getElem?_getD,List.getElem?_eq_getElem hlt];exact List.getElem_mem hlt)
 have hlen : (f.map (fun c => cs (escL c)) ++ [cs (brkL bk)]).length = f.length + 1:=by rw [List.length_append,List.length_map];rfl
 have:=f_takes (w:=w) (f.map (fun c => cs (escL c)) ++ [cs (brkL bk)]) word (f.map (fun z9 => true) ++ [inB bk (word.getD f.length 0)]) (by lia -abstractProof) (by lia -abstractProof) (by lia -abstractProof) (good_ascii hg) (by rw [hlen,List.length_append,List.length_map];rfl) (fun i hi => ?_)
 ·rw [show (f.map (fun z9 => true) ++ [inB bk (word.getD f.length 0)]).all id = inB bk (word.getD f.length 0) by simp] at this
  have e : (f.map (fun c => cs (escL c)) ++ [cs (brkL bk)]).map (fun p => PV.str (mkS p)) ++ [PV.none] = f.map (fun c => .str (escL c)) ++ [.str (brkL bk),PV.none]:=by
   rw [List.map_append,List.map_map,List.append_assoc,show (fun p => PV.str (mkS p)) ∘ (fun c => cs (escL c)) = fun c => PV.str (escL c) from funext fun c => by show PV.str (mkS (cs (escL c))) = _;rw [mkS_cs]]
   show _ ++ [PV.str (mkS (cs (brkL bk))),PV.none] = _
   rw [mkS_cs]
  rw [e] at this
  exact this
 ·rw [hlen] at hi
  by_cases e : i < f.length
  ·have ef : f.getD i 0 = word.getD i 0:=by
    rw [hp,List.getD_eq_getElem?_getD,List.getD_eq_getElem?_getD,List.getElem?_take]
    rw [if_pos e]
   have hfi : f.getD i 0 ∈ word:=by
    rw [ef,List.getD_eq_getElem?_getD,List.getElem?_eq_getElem (by lia -abstractProof : i < word.length)]
    exact List.getElem_mem _
   have e1 : (f.map (fun c => cs (escL c)) ++ [cs (brkL bk)]).getD i [] = cs (escL (f.getD i 0)):=by
    rw [List.getD_eq_getElem?_getD,List.getElem?_append_left (by rw [List.length_map];exact e),List.getElem?_map,List.getD_eq_getElem?_getD,List.getElem?_eq_getElem e]
    rfl
   have e2 : (f.map (fun z9 => true) ++ [inB bk (word.getD f.length 0)]).getD i false = true:=by
    rw [List.getD_eq_getElem?_getD,List.getElem?_append_left (by rw [List.length_map];exact e),List.getElem?_map,List.getElem?_eq_getElem e]
    rfl
   rw [e1,e2, <- ef]
   exact fit_esc (hg _ hfi)
  ·have ei : i = f.length:=by lia -abstractProof
   subst ei
   have e1 : (f.map (fun c => cs (escL c)) ++ [cs (brkL bk)]).getD f.length [] = cs (brkL bk):=by
    rw [List.getD_eq_getElem?_getD,List.getElem?_append_right (by rw [List.length_map];exact Nat.le_refl _),List.length_map,Nat.sub_self]
    rfl
   have e2 : (f.map (fun z9 => true) ++ [inB bk (word.getD f.length 0)]).getD f.length false = inB bk (word.getD f.length 0):=by
    rw [List.getD_eq_getElem?_getD,List.getElem?_append_right (by rw [List.length_map];exact Nat.le_refl _),List.length_map,Nat.sub_self]
    rfl
   rw [e1,e2]
   refine Y3 (br_fit b bk h) fun b1 b2 b3 => ?_
   refine ⟨by lia -abstractProof,b3, ?_⟩
   rw [if_pos b1]
   refine ⟨b2,10, ?_⟩
   have:=br_some b bk h _ (good_lt hgc)
   unfold inB
   obtain ⟨v,hv⟩ := Option.isSome_iff_exists.mp this
   rw [hv]
   rfl
theorem wi_K (b : Bool) (R : List (Array UInt8)) (hR : ∀ r ∈ R,okR r) {i j : Nat} (hi : i < R.length) (hj : j < 4) : (wi b R i).getD j 0 = sgk b (K (ri R i) j):=by
 have h : okR (R.getD i #[]):=hR _ (by rw [List.getD_eq_getElem?_getD,List.getElem?_eq_getElem hi];exact List.getElem_mem hi)
 exact wd_at b h hj
theorem wi_inj (b : Bool) (R : List (Array UInt8)) (hR : ∀ r ∈ R,okR r) {i j : Nat} (hi : i < R.length) (hj : j < R.length) (h : wi b R i = wi b R j) : octC (ri R i) (ri R j) = 0:=by
 have hri : okR (ri R i):=hR _ (by unfold ri;rw [List.getD_eq_getElem?_getD,List.getElem?_eq_getElem hi];exact List.getElem_mem hi)
 have hrj : okR (ri R j):=hR _ (by unfold ri;rw [List.getD_eq_getElem?_getD,List.getElem?_eq_getElem hj];exact List.getElem_mem hj)
 have key : ∀ k,k < 4 -> K (ri R i) k = K (ri R j) k:=fun k hk => by
  refine sgk_inj b _ (K_lt _ _) _ (K_lt _ _) ?_
  rw [<- wi_K b R hR hi hk, <- wi_K b R hR hj hk,h]
 have e : ri R i = ri R j:=by
  have s1:=hri.1
  have s2:=hri.2
  have t1:=hrj.1
  have t2:=hrj.2
  have ks : ∀ k,k < 4 -> (k < (ri R i).size + 1 ↔ k < (ri R j).size + 1):=fun k hk => by
   have:=key k hk
   unfold K at this
   split at this <;> split at this <;> lia -abstractProof
  have sz : (ri R i).size = (ri R j).size:=by
   have k2:=ks 2 (by decide)
   have k3:=ks 3 (by decide)
   lia -abstractProof
  have sxe : ∀ k,k < (ri R i).size + 1 -> sx (ri R i) k = sx (ri R j) k:=fun k hk => by
   have:=key k (by lia -abstractProof)
   unfold K at this
   rw [if_pos hk,if_pos (by lia -abstractProof)] at this
   lia -abstractProof
  have d1:=dec_sx _ hri
  have d2:=dec_sx _ hrj
  rw [<- d1, <- d2, <- sz]
  have hk : (ri R i).size = 1 \/ (ri R i).size = 2 \/ (ri R i).size = 3:=by lia -abstractProof
  refine Or.elim hk (fun e => ?_) fun q1 => Or.elim q1 (fun e => ?_) fun e => ?_
  ·rw [e] at sxe ⊢
   simp only [ouA2,sxe 0 (by decide),sxe 1 (by decide)]
  ·rw [e] at sxe ⊢
   simp only [ouA2,sxe 0 (by decide),sxe 1 (by decide),sxe 2 (by decide)]
  ·rw [e] at sxe ⊢
   simp only [ouA2,sxe 0 (by decide),sxe 1 (by decide),sxe 2 (by decide),sxe 3 (by decide)]
 rw [e]
 exact oct_eq _
theorem cmp_self (x : Str) : cmpS x x = 0:=by
 unfold cmpS
 exact Int.sub_self _
theorem cmp_lt {x y : List Nat} (h : x < y) (h2 : ¬ y < x) : cmpS (mkS x) (mkS y) = -1 /\ cmpS (mkS y) (mkS x) = 1:=by
 unfold cmpS
 show b2i (decide (cs (mkS y) < cs (mkS x))) - b2i (decide (cs (mkS x) < cs (mkS y))) = -1 /\ b2i (decide (cs (mkS x) < cs (mkS y))) - b2i (decide (cs (mkS y) < cs (mkS x))) = 1
 rw [cs_mkS,cs_mkS,decide_eq_true h,decide_eq_false h2]
 exact ⟨rfl,rfl⟩
theorem due_cmp (b : Bool) (R : List (Array UInt8)) (hR : ∀ r ∈ R,okR r) {p : Nat × Nat} (hp : p ∈ prs R.length) : dueI b R p = cmpI b R p.1 p.2 /\ 0 - dueI b R p = cmpI b R p.2 p.1:=by
 have hp2:=mem_prs.mp hp
 have hi : p.1 < R.length:=Nat.lt_trans hp2.1 hp2.2
 have hj:=hp2.2
 by_cases hd : dif b R p = true
 ·have ne : wi b R p.1 ≠ wi b R p.2:=by unfold dif at hd;simpa using hd
  refine Y5 (comF_spec (wi_ok b R hR hi) (wi_ok b R hR hj) ne) fun d4 t1 tE tN q8 => Y2 q8 fun g1 g2 => ?_
  have hl : (frL b R p).length = comF (wi b R p.1) (wi b R p.2):=by
   unfold frL
   rw [List.length_take,wi_ok b R hR hi]
   lia -abstractProof
  have hri : okR (ri R p.1):=hR _ (by unfold ri;rw [List.getD_eq_getElem?_getD,List.getElem?_eq_getElem hi];exact List.getElem_mem hi)
  have hrj : okR (ri R p.2):=hR _ (by unfold ri;rw [List.getD_eq_getElem?_getD,List.getElem?_eq_getElem hj];exact List.getElem_mem hj)
  have hb : bothL b R p = (lawBr b).filter fun bk => inB bk ((wi b R p.1).getD (comF (wi b R p.1) (wi b R p.2)) 0) && inB bk ((wi b R p.2).getD (comF (wi b R p.1) (wi b R p.2)) 0):=by
   unfold bothL bkL
   rw [if_pos hd,hl]
  generalize comF (wi b R p.1) (wi b R p.2) = d at d4 t1 tE tN g1 g2 hb
  have kE : ∀ i,i < d -> K (ri R p.1) i = K (ri R p.2) i:=fun i h => by
   refine sgk_inj b _ (K_lt _ _) _ (K_lt _ _) ?_
   rw [<- wi_K b R hR hi (by lia -abstractProof), <- wi_K b R hR hj (by lia -abstractProof),tE i h]
  rw [wi_K b R hR hi d4,wi_K b R hR hj d4] at tN g1 g2 hb
  have kN : K (ri R p.1) d ≠ K (ri R p.2) d:=fun e => tN (by rw [e])
  have bb:=br_both b _ (K_lt (ri R p.1) d) _ (K_lt (ri R p.2) d) kN
  have hbe : (!(bothL b R p).isEmpty) = ((lawBr b).any fun bk => inB bk (sgk b (K (ri R p.1) d)) && inB bk (sgk b (K (ri R p.2) d))):=by
   rw [hb]
   generalize (fun bk => inB bk (sgk b (K (ri R p.1) d)) && inB bk (sgk b (K (ri R p.2) d))) = q
   induction lawBr b with
   | nil => rfl
   | cons x l ih =>
    rw [List.filter_cons,List.any_cons, <- ih]
    cases q x <;> rfl
  unfold dueI cmpI
  rw [hbe,bb]
  have tri : sgk b (K (ri R p.1) d) < sgk b (K (ri R p.2) d) \/ sgk b (K (ri R p.2) d) < sgk b (K (ri R p.1) d):=by lia -abstractProof
  rcases Nat.lt_or_gt_of_ne kN with hk | hk
  ·refine Y2 (oct_lt hri hrj d4 kE hk) fun o1 o2 => ?_
   rw [o1,decide_eq_true hk]
   refine Or.elim tri (fun ht => ?_) fun ht => ?_
   ·refine Y2 (cmp_lt (g2.mpr ht) (fun z => by have:=g1.mp z;lia -abstractProof)) fun c1 c2 => ?_
    rw [decide_eq_true ht,c1,c2]
    exact ⟨rfl,rfl⟩
   ·refine Y2 (cmp_lt (g1.mpr ht) (fun z => by have:=g2.mp z;lia -abstractProof)) fun c1 c2 => ?_
    rw [decide_eq_false (by lia -abstractProof : ¬ sgk b (K (ri R p.1) d) < sgk b (K (ri R p.2) d)),c1,c2]
    exact ⟨rfl,rfl⟩
  ·refine Y2 (oct_lt hrj hri d4 (fun i h => (kE i h).symm) hk) fun o1 o2 => ?_
   rw [o2,decide_eq_false (by lia -abstractProof : ¬ K (ri R p.1) d < K (ri R p.2) d)]
   refine Or.elim tri (fun ht => ?_) fun ht => ?_
   ·refine Y2 (cmp_lt (g2.mpr ht) (fun z => by have:=g1.mp z;lia -abstractProof)) fun c1 c2 => ?_
    rw [decide_eq_true ht,c1,c2]
    exact ⟨rfl,rfl⟩
   ·refine Y2 (cmp_lt (g1.mpr ht) (fun z => by have:=g2.mp z;lia -abstractProof)) fun c1 c2 => ?_
    rw [decide_eq_false (by lia -abstractProof : ¬ sgk b (K (ri R p.1) d) < sgk b (K (ri R p.2) d)),c1,c2]
    exact ⟨rfl,rfl⟩
 ·have ee : wi b R p.1 = wi b R p.2:=by unfold dif at hd;simpa using hd
  have hz:=wi_inj b R hR hi hj ee
  unfold dueI cmpI
  rw [hz,ee,cmp_self]
  split <;> exact ⟨rfl,rfl⟩
theorem riAt (R : List (Array UInt8)) {i : Nat} (h : i < R.length) : (R.map PV.bytes)[((i : Nat) : Int).toNat]? = some (.bytes (ri R i)):=by
 rw [Int.toNat_natCast,List.getElem?_map,List.getElem?_eq_getElem h]
 unfold ri
 rw [List.getD_eq_getElem?_getD,List.getElem?_eq_getElem h]
 rfl
theorem ri_ok (R : List (Array UInt8)) (hR : ∀ r ∈ R,okR r) {i : Nat} (h : i < R.length) : okR (ri R i):=by
 unfold ri
 rw [List.getD_eq_getElem?_getD,List.getElem?_eq_getElem h]
 exact hR _ (List.getElem_mem h)
theorem flat_le (b : Bool) (R : List (Array UInt8)) (l : List (Nat × Nat)) : (l.flatMap (lsOf b R)).length <= l.length:=by
 induction l with
 | nil => exact Nat.le_refl _
 | cons p l ih =>
  rw [List.flatMap_cons,List.length_append,List.length_cons]
  have:=lsOf_len b R p
  lia -abstractProof
noncomputable def lsN (b : Bool) (R : List (Array UInt8)) (i : Nat) : List (Nat × Nat):=((prs R.length).take i).flatMap (lsOf b R)
theorem lsN_le (b : Bool) (R : List (Array UInt8)) (i : Nat) : (lsN b R i).length <= (prs R.length).length:=Nat.le_trans (flat_le b R _) (by rw [List.length_take];exact Nat.min_le_right _ _)
theorem lsN_succ (b : Bool) (R : List (Array UInt8)) {i : Nat} (h : i < (prs R.length).length) : lsN b R (i + 1) = lsN b R i ++ lsOf b R ((prs R.length).getD i (0,0)):=by
 unfold lsN
 rw [List.take_succ,List.flatMap_append,List.getElem?_eq_getElem h,List.getD_eq_getElem?_getD,List.getElem?_eq_getElem h]
 simp
noncomputable def lsA (b : Bool) (R : List (Array UInt8)) : List (Nat × Nat):=(prs R.length).flatMap (lsOf b R)
theorem lsN_all (b : Bool) (R : List (Array UInt8)) : lsN b R (prs R.length).length = lsA b R:=by unfold lsN lsA;rw [List.take_length]
theorem lsA_le (b : Bool) (R : List (Array UInt8)) : (lsA b R).length <= (prs R.length).length:=flat_le b R _
noncomputable def rkI (b : Bool) (R : List (Array UInt8)) (i : Nat) : Int:=(((lsA b R).filter fun q => q.2 == i).length : Nat)
theorem cmp_one {x y : List Nat} : (cmpS (mkS x) (mkS y) == -1) = decide (x < y) /\ (cmpS (mkS x) (mkS y) == 1) = decide (y < x):=by
 by_cases h : x < y
 ·have h2 : ¬ y < x:=fun z => lst_irr x (lst_tr h z)
  rw [(cmp_lt h h2).1,decide_eq_true h,decide_eq_false h2]
  exact ⟨rfl,rfl⟩
 ·by_cases h2 : y < x
  ·rw [(cmp_lt h2 h).2,decide_eq_true h2,decide_eq_false h]
   exact ⟨rfl,rfl⟩
  ·have e:=lst_anti h2 h
   subst e
   rw [cmp_self,decide_eq_false h]
   exact ⟨rfl,rfl⟩
theorem rk_lt (b : Bool) (R : List (Array UInt8)) (hR : ∀ r ∈ R,okR r) {i j : Nat} (hi : i < R.length) (hj : j < R.length) (h : wi b R j < wi b R i) : rkI b R j < rkI b R i:=by
 have key:=rank_all (fun j k => decide (wi b R j < wi b R k)) (fun i => decide_eq_false (lst_irr _)) (fun i j h => decide_eq_false fun z => lst_irr _ (lst_tr (of_decide_eq_true h) z)) (lsOf b R) R.length (fun j k hjk hk => by
  have hd:=(due_cmp b R hR (p:=(j,k)) (mem_prs.mpr ⟨hjk,hk⟩)).1
  unfold lsOf
  rw [hd]
  unfold cmpI
  refine Y2 (cmp_one (x:=wi b R j) (y:=wi b R k)) fun c1 c2 => ?_
  show (if cmpS (mkS (wi b R j)) (mkS (wi b R k)) == -1 then [(j,k)] else if cmpS (mkS (wi b R j)) (mkS (wi b R k)) == 1 then [(k,j)] else []) = _
  rw [c1,c2])
 unfold rkI lsA
 rw [key j R.length (Nat.le_refl _),key i R.length (Nat.le_refl _),if_pos hi,if_pos hj]
 exact Int.ofNat_lt.mpr (filter_lt (fun x hx => decide_eq_true (lst_tr (of_decide_eq_true hx) h)) (decide_eq_true h) (decide_eq_false (lst_irr _)) (List.mem_range.mpr hj))
theorem order_eq (b : Bool) (R : List (Array UInt8)) (hR : ∀ r ∈ R,okR r) {σ τ : List Nat} (h1 : σ.Perm (List.range R.length)) (h2 : σ.Pairwise fun i j => rkI b R i <= rkI b R j) (t1 : τ.Perm (List.range (R.map fun r => mkS (wdOf b r)).length)) (t2 : τ.Pairwise fun i j => ¬ ((id ((R.map fun r => mkS (wdOf b r)).getD j ⟨#[]⟩)).cps.toList < (id ((R.map fun r => mkS (wdOf b r)).getD i ⟨#[]⟩)).cps.toList)) :
  (τ.map fun i => (R.map fun r => mkS (wdOf b r)).getD i ⟨#[]⟩) = σ.map fun i => mkS (wi b R i):=by
 rw [List.length_map] at t1
 have at_ : ∀ i,i < R.length -> (R.map fun r => mkS (wdOf b r)).getD i ⟨#[]⟩ = mkS (wi b R i):=fun i hi => by
  unfold wi
  rw [List.getD_eq_getElem?_getD,List.getElem?_map,List.getD_eq_getElem?_getD,List.getElem?_eq_getElem hi]
  rfl
 have hτ : ∀ i ∈ τ,i < R.length:=fun i hi => List.mem_range.mp (t1.mem_iff.mp hi)
 have hσ : ∀ i ∈ σ,i < R.length:=fun i hi => List.mem_range.mp (h1.mem_iff.mp hi)
 rw [List.map_congr_left fun i hi => at_ i (hτ i hi)]
 have e : τ.map (wi b R) = σ.map (wi b R):=by
  refine sorted_eq (le:=fun x y => ¬ y < x) (fun a b h1 h2 => lst_anti h1 h2) ((t1.trans h1.symm).map _) ?_ ?_
  ·rw [List.pairwise_map]
   refine t2.imp_of_mem fun {i j} hi hj hh => ?_
   rw [at_ i (hτ i hi),at_ j (hτ j hj)] at hh
   show ¬ wi b R j < wi b R i
   intro z
   refine hh ?_
   show cs (mkS (wi b R j)) < cs (mkS (wi b R i))
   rw [cs_mkS,cs_mkS]
   exact z
  ·rw [List.pairwise_map]
   refine h2.imp_of_mem fun {i j} hi hj hh => ?_
   intro z
   have:=rk_lt b R hR (hσ i hi) (hσ j hj) z
   lia -abstractProof
 have:=congrArg (List.map mkS) e
 rw [List.map_map,List.map_map] at this
 exact this
end
theorem list_sort_key (a f : Addr) : Builtin.«list.sort» ⟨[.ref a], [(Str.ofString "key", .ref f)]⟩ = (do
  let items <- Builtin.List.listItems (.ref a)
  Builtin.List.listUpdate (.ref a) fun z9 => #[]
  let before <- seqEpoch a
  let held <- newTuple items.toList
  let keyStore <- newList []
  holding [held,keyStore] do
   rule "list.sort.key"
   for x in items do
    match <- (call (.ref f) [x]).attempt with
    | .ok k => Builtin.List.listUpdate keyStore (·.push k)
    | .error e =>
     rule "list.sort.key-raised"
     let made <- Builtin.List.listItems keyStore
     Builtin.List.listUpdate keyStore fun z9 => #[]
     letGo made.toList.reverse [e]
     Builtin.List.listUpdate (.ref a) fun z9 => items;throw e
   let keys <- Builtin.List.listItems keyStore
   let kind <- if items.size < 2 then pure general' else keyKind' keys
   let ((),s) <- (if items.size < 2 then pure () else sortRuns').run (SortSt.mk' kind (keys.zip items) #[] 7 none)
   let sorted:=(arrOf s).map (·.2)
   Builtin.List.listUpdate keyStore fun z9 => #[]
   letGo ((arrOf s).map (·.1)).toList (failedOf s).toList
   let touched:=(<- seqEpoch a) != before
   Builtin.List.listUpdate (.ref a) fun z9 => sorted
   if let some e:=failedOf s then rule "list.sort.comparison-raised";throw e
   if touched then rule "list.sort.modified";raiseError "ValueError" "list modified during sort"
   ret .none):=rfl
section
variable {w : World} {A : Around} {E : Value -> Shared -> Prop} {s : Shared}
theorem list_sort_keyed {κ : PyProof.Rows.KeyKind} (hO : κ.OneLt) {a f : Addr} {vs : List Value} {n : Nat} {g : Heap} {Key : Nat -> Value -> Prop} {P : Fin -> Shared -> Prop} (ho : s.heap.get? a = some (seqObj "list" vs.toArray n)) (hg : Ext g s.heap) (hga : g.get? a = none)
  (hcall : ∀ (i : Nat) v h k (Q E : Value -> Shared -> Prop),vs[i]? = some v -> Ext g h -> (∀ y h' k',Key i y -> Ext h h' -> Q y { s with heap:=h',toks:=k' }) -> wpAny (model vw w) A (call (.ref f) [v]) Q E { s with heap:=h,toks:=k })
  (hK : ∀ i y,Key i y -> ∃ c,κ.keyOf y = some c) (hkk : ∀ keys : List Value,keys.length = vs.length -> (∀ (i : Nat) y,keys[i]? = some y -> Key i y) -> 2 <= vs.length -> keyKind' keys.toArray = pure oneType') (h64 : vs.length < 64)
  (h : ∀ h' k (keys : List Value) st' e,keys.length = vs.length -> (∀ (i : Nat) y,keys[i]? = some y -> Key i y) -> (arrOf st').Perm (keys.toArray.zip vs.toArray) -> SortedToK κ (arrOf st') vs.length -> h'.get? a = some (seqObj "list" ((arrOf st').map (·.2)) e) -> Ext g h' -> P (.done (.ret .none)) { s with heap:=h',toks:=k }) :
  wpAny (model vw w) A (Builtin.«list.sort» ⟨[.ref a], [(Str.ofString "key", .ref f)]⟩) P E s:=by
 rw [list_sort_key]
 have ha : a < s.heap.objs.size:=Heap.lt_size ho
 refine wpAny_bind (listItems_at ho rfl ?_)
 refine wpAny_bind (listUpdate_at ho rfl ?_)
 obtain ⟨e1,ho1⟩ : ∃ e1,(s.heap.update a (Obj.mapSeq fun _ => #[])).get? a = some (seqObj "list" #[] e1):=⟨_,get?_update_seq ho (fun _ => #[])⟩
 have hg1 : Ext g (s.heap.update a (Obj.mapSeq fun _ => #[])):=fun b o e => by
  rw [Heap.get?_update_ne _ _ _ _ (fun z => by rw [z,hga] at e;exact nS e)];exact hg b o e
 have hz1 : (s.heap.update a (Obj.mapSeq fun _ => #[])).objs.size = s.heap.objs.size:=Heap.size_update ..
 refine wpAny_bind (seqEpoch_at ho1 rfl ?_)
 refine wpAny_bind (wpAny_newTuple ?_)
 refine wpAny_bind (wpAny_newList ?_)
 refine wpAny_holding ?_
 refine wpAny_bind (wpAny_rule ?_)
 have ho6 : (((s.heap.update a (Obj.mapSeq fun _ => #[])).push (seqObj "tuple" vs.toArray 0)).push (seqObj "list" #[] 0)).get? a = some (seqObj "list" #[] e1):=Heap.get?_push_of_some _ (Heap.get?_push_of_some _ ho1)
 have hg6 : Ext g (((s.heap.update a (Obj.mapSeq fun _ => #[])).push (seqObj "tuple" vs.toArray 0)).push (seqObj "list" #[] 0)):=fun b o e => Heap.get?_push_of_some _ (Heap.get?_push_of_some _ (hg1 b o e))
 have hk6 : (((s.heap.update a (Obj.mapSeq fun _ => #[])).push (seqObj "tuple" vs.toArray 0)).push (seqObj "list" #[] 0)).get? (s.heap.objs.size + 1) = some (seqObj "list" #[] 0):=by
  have:=Heap.get?_push_size (h:=(s.heap.update a (Obj.mapSeq fun _ => #[])).push (seqObj "tuple" vs.toArray 0)) (o:=seqObj "list" #[] 0) rfl
  rw [size_push',hz1] at this
  exact this
 have hsz6 : ((s.heap.update a (Obj.mapSeq fun _ => #[])).push (seqObj "tuple" vs.toArray 0)).objs.size = s.heap.objs.size + 1:=by rw [size_push',hz1]
 have hgk : g.get? (s.heap.objs.size + 1) = none:=by
  cases e : g.get? (s.heap.objs.size + 1) with
  | none => rfl
  | some o => exact absurd (Heap.lt_size (hg _ _ e)) (Nat.not_lt.mpr (Nat.le_succ _))
 have hak : a ≠ s.heap.objs.size + 1:=Nat.ne_of_lt (Nat.lt_succ_of_lt ha)
 show wpAny (model vw w) A _ P E { s with heap:=((s.heap.update a (Obj.mapSeq fun _ => #[])).push (seqObj "tuple" vs.toArray 0)).push (seqObj "list" #[] 0) }
 dsimp only
 rw [hsz6]
 generalize ((s.heap.update a (Obj.mapSeq fun _ => #[])).push (seqObj "tuple" vs.toArray 0)).push (seqObj "list" #[] 0) = h6 at ho6 hg6 hk6 ⊢
 generalize s.heap.objs.size + 1 = K at hk6 hgk hak ⊢
 rw [<- Array.forIn_toList]
 refine wpAny_bind (wpAny_forIn_list (M:=model vw w) _ (fun rest _ s' => ∃ h k done keys c,s' = { s with heap:=h,toks:=k } /\ Ext g h /\ h.get? a = some (seqObj "list" #[] e1) /\ h.get? K = some (seqObj "list" (keys : List Value).toArray c) /\ vs = done ++ rest /\ keys.length = done.length /\ ∀ (i : Nat) y,keys[i]? = some y -> Key i y) _ ?_ ?_ _ _ ⟨h6,s.toks, [], [],0,rfl,hg6,ho6,hk6,rfl,rfl,fun i y e => by simp at e⟩)
 ·intro x rest _ s' hq0
  refine byG fun G kG => ?_
  obtain ⟨h7,k7,done,keys,c,rfl,hg7,ho7,hk7,hv,hl,hy⟩ := hq0
  refine kG ?_;clear kG G
  refine wpAny_bind (wpAny_attempt (hcall done.length x h7 k7 _ _ (by rw [hv,List.getElem?_append_right (Nat.le_refl _),Nat.sub_self];rfl) hg7 fun y h8 k8 hky ex8 => ?_))
  dsimp only
  have hk8:=ex8 _ _ hk7
  have hkl : keys.length < 64:=by have:=congrArg List.length hv;rw [List.length_append] at this;lia
  refine wpAny_bind (listUpdate_at hk8 rfl ?_ (by rw [List.size_toArray,sizeLine_eq];lia) (by rw [Array.size_push,List.size_toArray,sizeLine_eq];lia))
  obtain ⟨c',hc'⟩ : ∃ c',(h8.update K (Obj.mapSeq (·.push y))).get? K = some (seqObj "list" (keys ++ [y]).toArray c'):=by
   have:=get?_update_seq hk8 (fun xs => xs.push y)
   rw [show keys.toArray.push y = (keys ++ [y]).toArray by simp] at this
   exact ⟨_,this⟩
  refine wpAny_pure ⟨h8.update K (Obj.mapSeq (·.push y)),k8,done ++ [x],keys ++ [y],c',rfl,fun b o e => ?_, ?_,hc',by rw [List.append_assoc];exact hv,by rw [List.length_append,List.length_append,hl];rfl,fun i z e => ?_⟩
  ·rw [Heap.get?_update_ne _ _ _ _ (fun z => by rw [z,hgk] at e;exact nS e)];exact ex8 _ _ (hg7 b o e)
  ·rw [Heap.get?_update_ne _ _ _ _ hak];exact ex8 _ _ ho7
  ·rw [List.getElem?_append] at e
   split at e
   ·exact hy i z e
   ·rename_i hi
    have : i = keys.length:=by
     rw [List.getElem?_eq_some_iff] at e
     obtain ⟨q,_⟩ := e
     simp at q;lia
    subst this
    rw [Nat.sub_self] at e
    obtain rfl:=Option.some.inj e
    rw [hl];exact hky
 ·intro _ s' hq0
  refine byG fun G kG => ?_
  obtain ⟨h7,k7,done,keys,c,rfl,hg7,ho7,hk7,hv,hl,hy⟩ := hq0
  refine kG ?_;clear kG G
  rw [List.append_nil] at hv
  subst hv
  refine wpAny_bind (listItems_at hk7 rfl ?_)
  have hzs : (keys.toArray.zip vs.toArray).size = vs.length:=by rw [Array.size_zip];simp [hl]
  have hKO : KeysOf κ (keys.toArray.zip vs.toArray):=fun p hp => by
   rw [Array.toList_zip] at hp
   refine X10 (List.mem_iff_getElem?.mp (List.of_mem_zip hp).1) fun i hi => ?_
   exact hK i _ (hy i _ hi)
  by_cases h2 : vs.toArray.size < 2
  ·rw [if_pos h2,if_pos h2]
   refine wpAny_bind (wpAny_pure ?_)
   rw [StateT.run_pure]
   refine wpAny_bind (wpAny_pure ?_)
   have hs0 : SortedToK κ (arrOf (SortSt.mk' general' (keys.toArray.zip vs.toArray) #[] 7 none)) vs.length:=fun i j hij hj => by
    have : i = j:=by rw [List.size_toArray] at h2;lia
    subst this;exact KeyOrd.kle_refl _
   dsimp only
   refine wpAny_bind (listUpdate_at hk7 rfl ?_ (by rw [List.size_toArray,sizeLine_eq];lia))
   refine wpAny_bind (wpAny_letGo ?_)
   have ho8 : (h7.update K (Obj.mapSeq fun _ => #[])).get? a = some (seqObj "list" #[] e1):=by rw [Heap.get?_update_ne _ _ _ _ hak];exact ho7
   refine wpAny_bind (seqEpoch_at ho8 rfl ?_)
   refine wpAny_bind (listUpdate_at ho8 rfl ?_ (hsz2:=by rw [Array.size_map,((Array.Perm.refl _) : (arrOf (SortSt.mk' general' (keys.toArray.zip vs.toArray) #[] 7 none)).Perm _).size_eq,hzs,sizeLine_eq];lia))
   simp only [bne_self_eq_false,Bool.false_eq_true,if_false]
   refine wpAny_pure (h _ k7 keys (SortSt.mk' general' (keys.toArray.zip vs.toArray) #[] 7 none) _ hl hy (Array.Perm.refl _) hs0 (by exact get?_update_seq ho8 _) fun b o e => ?_)
   rw [Heap.get?_update_ne _ _ _ _ (fun z => by rw [z,hga] at e;exact nS e),Heap.get?_update_ne _ _ _ _ (fun z => by rw [z,hgk] at e;exact nS e)]
   exact hg7 b o e
  ·rw [if_neg h2,if_neg h2]
   have h2' : 2 <= vs.length:=by rw [List.size_toArray] at h2;lia
   rw [hkk keys hl hy h2']
   refine wpAny_bind (wpAny_pure ?_)
   refine wpAny_bind (wpAny_mono (wpS_sortRunsK (κ:=κ) hO (a₀:=keys.toArray.zip vs.toArray) (st:=SortSt.mk' oneType' (keys.toArray.zip vs.toArray) #[] 7 none)
    (Q:=fun _ st' => (arrOf st').Perm (keys.toArray.zip vs.toArray) /\ failedOf st' = none /\ SortedToK κ (arrOf st') (keys.toArray.zip vs.toArray).size)
    hKO ⟨Array.Perm.refl _,rfl,rfl,rfl⟩ (by rw [hzs];exact h2') (by rw [hzs];exact h64) fun st' a1 a2 a3 => ⟨a1,a2,a3⟩) ?_ fun _ _ e => e)
   intro hq0 s' hq1
   refine byG fun G kG => ?_
   obtain ⟨⟨⟩,st'⟩ := hq0
   refine Y4 hq1 fun q0 hp hf hs => ?_;subst q0
   refine kG ?_;clear kG G
   rw [hzs] at hs
   dsimp only
   refine wpAny_bind (listUpdate_at hk7 rfl ?_ (by rw [List.size_toArray,sizeLine_eq];lia))
   refine wpAny_bind (wpAny_letGo ?_)
   have ho8 : (h7.update K (Obj.mapSeq fun _ => #[])).get? a = some (seqObj "list" #[] e1):=by rw [Heap.get?_update_ne _ _ _ _ hak];exact ho7
   refine wpAny_bind (seqEpoch_at ho8 rfl ?_)
   refine wpAny_bind (listUpdate_at ho8 rfl ?_ (hsz2:=by rw [Array.size_map,(hp : (arrOf st').Perm _).size_eq,hzs,sizeLine_eq];lia))
   rw [show failedOf st' = none from hf]
   simp only [bne_self_eq_false,Bool.false_eq_true,if_false]
   have ho9:=get?_update_seq ho8 fun _ => (arrOf st').map (·.2)
   refine wpAny_pure ?_
   refine h _ k7 keys st' _ hl hy hp hs ho9 fun b o e => ?_
   rw [Heap.get?_update_ne _ _ _ _ (fun z => by rw [z,hga] at e;exact nS e),Heap.get?_update_ne _ _ _ _ (fun z => by rw [z,hgk] at e;exact nS e)]
   exact hg7 b o e
end
@[reducible] noncomputable def intK : PyProof.Rows.KeyKind where
 α:=Int
 blt a b:=decide (a < b)
 irrefl a:=by simp
 trans a b c h1 h2:=by simp only [decide_eq_true_eq] at *;lia
 negTrans a b c h:=by simp only [decide_eq_true_eq] at *;lia
 total a b h1 h2:=by simp only [decide_eq_false_iff_not] at *;lia
 keyOf v:=match v with | .int x _ => some x | _ => none
 dflt:=0
theorem intK_oneLt : intK.OneLt:=by
 intro prog w A E s x y a b Q ha hb h
 cases x <;> simp only [intK,reduceCtorEq,Option.some.injEq] at ha
 cases y <;> simp only [intK,reduceCtorEq,Option.some.injEq] at hb
 cases ha;cases hb
 exact oneLt_int h
theorem perm_map_inv {α β : Type} {f : α -> β} {l l' : List β} (h : l.Perm l') : ∀ r,l' = r.map f -> ∃ σ : List α,σ.Perm r /\ l = σ.map f:=by
 induction h with
 | nil => intro r e;exact ⟨[],by cases r with | nil => exact .refl _ | cons _ _ => simp at e,rfl⟩
 | cons x _ ih =>
  intro r e
  cases r with
  | nil => simp at e
  | cons a r =>
   rw [List.map_cons,List.cons.injEq] at e
   refine X11 (ih r e.2) fun σ h1 h2 => ?_
   exact ⟨a :: σ,h1.cons a,by rw [List.map_cons, <- h2,e.1]⟩
 | swap x y l =>
  intro r e
  cases r with
  | nil => simp at e
  | cons a r =>
   cases r with
   | nil => simp at e
   | cons b r =>
    simp only [List.map_cons,List.cons.injEq] at e
    exact ⟨b :: a :: r, .swap a b r,by rw [List.map_cons,List.map_cons, <- e.1, <- e.2.1, <- e.2.2]⟩
 | trans _ _ ih1 ih2 =>
  intro r e
  refine X11 (ih2 r e) fun σ h1 h2 => ?_
  refine X11 (ih1 σ h2) fun τ h3 h4 => ?_
  exact ⟨τ,h3.trans h1,h4⟩
theorem args_sorted_key (a f : Value) : argsOk "sorted" ⟨[a], [(Str.ofString "key",f)]⟩ := by unfold argsOk;kernel_rfl
theorem args_list_sort_key (a f : Value) : argsOk "list.sort" ⟨[a], [(Str.ofString "key",f)]⟩ := by unfold argsOk;kernel_rfl
section
variable {w : World} {A : Around} {E : Value -> Shared -> Prop} {s : Shared}
theorem sortedBy {κ : PyProof.Rows.KeyKind} (hO : κ.OneLt) {x : Value} {fa : Addr} {n : Nat} {Vs : List Value -> Prop} (hVn : ∀ vs,Vs vs -> vs.length = n) {ks : Nat -> κ.α} {Q : Value -> Shared -> Prop}
  (hc : ∀ Q' : List Value -> Shared -> Prop,(∀ vs h' tk,Vs vs -> Ext s.heap h' -> Q' vs { s with heap:=h',toks:=tk }) -> wpAny (model vw w) A.in1 (collect x) Q' E s)
  (hcall : ∀ vs,Vs vs -> ∀ (i : Nat) v h k (Q' E' : Value -> Shared -> Prop),vs[i]? = some v -> Ext s.heap h -> (∀ y h' k',κ.keyOf y = some (ks i) -> Ext h h' -> Q' y { s with heap:=h',toks:=k' }) -> wpAny (model vw w) A.in1.in1 (call (.ref fa) [v]) Q' E' { s with heap:=h,toks:=k })
  (hkk : ∀ keys : List Value,(∀ y ∈ keys, ∃ c,κ.keyOf y = some c) -> 2 <= keys.length -> keyKind' keys.toArray = pure oneType') (h64 : n < 64)
  (h : ∀ vs h' tk r (σ : List Nat) e,Vs vs -> Ext s.heap h' -> s.heap.get? r = none -> h'.get? r = some (W.listOf (σ.map fun i => vs.getD i .none).toArray e) -> σ.Perm (List.range vs.length) -> σ.Pairwise (fun i j => κ.kle (ks i) (ks j)) -> Q (.ref r) { s with heap:=h',toks:=tk }) :
  wpAny (model vw w) A (call (.builtin "sorted") [x] [(Str.ofString "key", .ref fa)]) Q E s:=by
 refine call_function_entry_kw kind_sorted plain_sorted entry_sorted (args_sorted_key _ _) ?_
 unfold Builtin.«sorted»
 refine wpAny_bind (m:=checkCount "sorted" 1 1 _) (wpAny_pure ?_)
 refine wpAny_bind (hc _ fun vs h1 k1 hV ex1 => ?_)
 have hvn:=hVn vs hV
 refine wpAny_bind (wpAny_newList ?_ (by rw [sizeLine_eq];lia))
 have hoL : (h1.push (seqObj "list" vs.toArray 0)).get? h1.objs.size = some (seqObj "list" vs.toArray 0):=Heap.get?_push_size _ rfl
 have ex2 : Ext s.heap (h1.push (seqObj "list" vs.toArray 0)):=fun b o e => Heap.get?_push_of_some _ (ex1 b o e)
 have hr : s.heap.get? h1.objs.size = none:=by
  cases e : s.heap.get? h1.objs.size with
  | none => rfl
  | some o' => exact absurd (Heap.lt_size (ex1 _ _ e)) (Nat.lt_irrefl _)
 show wpAny _ _ _ _ _ { s with heap:=h1.push (seqObj "list" vs.toArray 0),toks:=k1 }
 refine wpAny_bind (wpAny_holding (wpAny_call_entry_kw slot_list_sort ⟨_,hoL,rfl⟩ entry_list_sort (list_sort_keyed (κ:=κ) (s := { s with heap:=h1.push (seqObj "list" vs.toArray 0),toks:=k1 }) (Key:=fun i y => κ.keyOf y = some (ks i)) hO hoL ex2 hr (fun i v h k Q' E' hv ex q => hcall vs hV i v h k Q' E' hv ex q) (fun i y e => ⟨_,e⟩) (fun keys hl hy h2 => hkk keys (fun y hy' => ?_) (by rw [hl];exact h2)) (by rw [hvn];exact h64) fun h' k keys st' e hl hy hp hs hr' ex' => ⟨_,rfl,wpAny_pure ⟨_,rfl, ?_⟩⟩) (args_list_sort_key _ _)))
 ·refine X10 (List.mem_iff_getElem?.mp hy') fun i hi => ?_
  exact ⟨_,hy i y hi⟩
 ·have hz : keys.zip vs = (List.range vs.length).map fun i => (keys.getD i .none,vs.getD i .none):=by
   refine List.ext_getElem (by simp [hl]) fun i i1 i2 => ?_
   rw [List.length_map,List.length_range] at i2
   simp [i2,hl]
  refine X11 (perm_map_inv (Array.perm_iff_toList_perm.mp hp) (List.range vs.length) (by rw [Array.toList_zip];exact hz)) fun σ h3 h4 => ?_
  have ha : arrOf st' = (σ.map fun i => (keys.getD i .none,vs.getD i .none)).toArray:=by rw [<- h4,Array.toArray_toList]
  have hσ : ∀ i ∈ σ,i < vs.length:=fun i hi => List.mem_range.mp (h3.mem_iff.mp hi)
  have hσl : σ.length = vs.length:=by rw [h3.length_eq,List.length_range]
  refine h vs h' k h1.objs.size σ e hV ex' hr ?_ h3 ?_
  ·have e2 : ((arrOf st').map (·.2)) = (σ.map fun i => vs.getD i .none).toArray:=by
    rw [ha,List.map_toArray,List.map_map]
    rfl
   rw [hr',e2]
  ·rw [List.pairwise_iff_getElem]
   intro i j hi hj hij
   have:=hs i j (Nat.le_of_lt hij) (by lia)
   have kk : ∀ (i : Nat) (hi : i < σ.length),KK κ (arrOf st') i = ks σ[i]:=fun i hi => by
    unfold KK
    rw [ha]
    have hm:=hσ _ (List.getElem_mem hi)
    simp only [List.getElem?_toArray,List.getElem?_map,List.getElem?_eq_getElem hi,Option.map]
    have hk : keys[σ[i]]? = some (keys.getD σ[i] .none):=by simp [hl,hm]
    rw [hy _ _ hk];rfl
   rw [kk i hi,kk j hj] at this
   exact this
end
section
variable {w : World} {C : Cx} {A : Around} {Γ Γ' : List (Option PV)} {led led' : Led} {s : Shared} {T : List Addr} {E : Value -> Shared -> Prop}
theorem collectL {l : Addr} {vs : Array Value} {n : Nat} (hl : s.heap.get? l = some (W.listOf vs n)) (hz : vs.size <= 1000) : ∀ Q' : List Value -> Shared -> Prop,(∀ h' tk,Ext s.heap h' -> Q' vs.toList { s with heap:=h',toks:=tk }) -> wpAny (model vw w) A (collect (.ref l)) Q' E s:=fun Q' q =>
 collect_list (vs:=vs.toList) ⟨_,hl,rfl,n,by simp⟩ (q _ s.toks fun b o e => by
  rw [Heap.get?_update_ne _ _ _ _ (Nat.ne_of_lt (Heap.lt_size e))]
  exact Heap.get?_push_of_some _ e) (by rw [Array.length_toList,sizeLine_eq];omega)
theorem collectR {r : Addr} {n : Nat} {t u v : Tok} (hh : A.handled = none) (hr : IsRange s.heap r 0 n 1 t u v) (hn : n <= 1000) (Q' : List Value -> Shared -> Prop) (q : ∀ vs h' tk,vs.length = n -> (∀ i,i < n -> ∃ t,vs[i]? = some (.int (i : Nat) t)) -> Ext s.heap h' -> Q' vs { s with heap:=h',toks:=tk }) : wpAny (model vw w) A (collect (.ref r)) Q' E s:=by
 unfold collect
 refine wpAny_bind (wpAny_runValue (codeAny_builtin PySem.F.entry_proto_collect ?_))
 rw [Around.under_plainId PySem.F.plain_proto_collect _]
 show wpAny _ A.in1 (newList [] >>= fun l => again (.builtin "list.__iadd__" ⟨[l, .ref r], []⟩)) _ _ s
 refine wpAny_bind (wpAny_newObj_type ?_)
 refine wpAny_pure ⟨plainId_quiet PySem.F.plain_list_iadd _,codeAny_builtin PySem.F.entry_list_iadd ?_⟩
 rw [Around.under_plainId PySem.F.plain_list_iadd _]
 show wpAny _ A.in1 (Builtin.List.listExtendWith (.ref s.heap.objs.size) (.ref r) (.ref s.heap.objs.size)) _ _ _
 have hS₁ : (s.heap.push { cls:=.type "list",data:=.seq ([] : List Value).toArray }).get? s.heap.objs.size = some { cls:=.type "list",data:=.seq #[] 0 } := Heap.get?_push_size _ rfl
 have ex1 : Ext s.heap (s.heap.push { cls:=.type "list",data:=.seq ([] : List Value).toArray }):=fun b o e => Heap.get?_push_of_some _ e
 have hr1:=ex1 _ _ hr
 dsimp only
 generalize s.heap.push { cls:=.type "list",data:=.seq ([] : List Value).toArray } = h1 at ex1 hS₁ hr1 ⊢
 have last : ∀ (r : Result) (s' : Shared),(∃ h' tk acc c',r = .ok (.ret (.ref s.heap.objs.size)) /\ s' = { s with heap:=h',toks:=tk } /\ h'.get? s.heap.objs.size = some { cls:=.type "list",dict:=none,data:=.seq acc c',slots := #[] } /\ Ext s.heap h' /\ ItemsOf (fun i v => ∃ t,v = .int ((0 : Int) + i * 1) t) acc n) ->
   (match r with | .ok (.ret v) => wpAny (model vw w) A (match v with | .ref a => (do match (<- load a).data with | .seq xs _ => pure xs.toList | _ => unsupported "internal:collect") | _ => unsupported "internal:collect") Q' E s' | .ok _ => False | .error e => E e s'):=by
  intro r s' hq0
  refine byG fun G kG => ?_
  refine X41 hq0 fun h' tk acc' c' q4 q8 => Y4 q8 fun q5 hS' hx hacc => ?_;subst q4;subst q5
  refine kG ?_;clear kG G
  dsimp only
  refine wpAny_bind (wpAny_load hS' ?_)
  refine wpAny_pure (q acc'.toList h' tk (by rw [Array.length_toList];exact hacc.1) (fun i hi => ?_) hx)
  have hi' : i < acc'.size:=by rw [hacc.1];exact hi
  refine X10 (hacc.2 i acc'[i] (Array.getElem?_eq_getElem hi')) fun t' e => ?_
  exact ⟨t',by rw [Array.getElem?_toList,Array.getElem?_eq_getElem hi',e,Int.zero_add,Int.mul_one]⟩
 refine wpAny_mono (wpAny_extend_range (n:=n) (s := { s with heap:=h1 }) (R:=fun r s' => ∃ h' tk acc c',r = .ok (.ret (.ref s.heap.objs.size)) /\ s' = { s with heap:=h',toks:=tk } /\ h'.get? s.heap.objs.size = some { cls:=.type "list",dict:=none,data:=.seq acc c',slots := #[] } /\ Ext s.heap h' /\ ItemsOf (fun i v => ∃ t,v = .int ((0 : Int) + i * 1) t) acc n) hh hr1 (smallR (by omega) (by omega) (by omega)) (by rw [rangeSize_one];split <;> omega) (by omega) s.heap.objs.size (.ref s.heap.objs.size) 0 hS₁ fun h' tk acc' c' hk hS' hacc => ⟨h',tk,acc',c',rfl,rfl,hS',fun b o e => hk b o (Nat.ne_of_lt (Heap.lt_size e)) (ex1 b o e),hacc⟩) (fun fin s' hf => ?_) fun e s' he => ?_
 ·cases fin with
  | done f => exact last _ _ hf
  | again c' => exact ⟨hf.1,codeAny_mono hf.2 fun r s'' hr => last _ _ hr⟩
 ·refine X41 he fun _ _ _ _ e _ => ?_
  cases e
theorem kkStrs (keys : List Value) (h : ∀ y ∈ keys, ∃ c,PyProof.Rows.strKind.keyOf y = some c) (h2 : 2 <= keys.length) : keyKind' keys.toArray = pure oneType' := by
 have hs : StrsAre keys (keys.map strOf):=strsAre_map keys fun y hy => by
  obtain ⟨c,e⟩ := h y hy
  cases y <;> simp only [PyProof.Rows.strKind,reduceCtorEq] at e
  exact ⟨_,_,rfl⟩
 cases keys with
 | nil => simp at h2
 | cons a r =>
  cases r with
  | nil => simp at h2
  | cons b r => exact keyKind_strs hs
theorem intsOf : ∀ (keys : List Value),(∀ y ∈ keys, ∃ c,intK.keyOf y = some c) -> ∃ ns,IntsAre keys ns:=fun keys => by
 induction keys with
 | nil => exact fun z9 => ⟨[], .nil⟩
 | cons y r ih =>
  intro h
  refine X10 (ih fun y hy => h y (List.mem_cons_of_mem _ hy)) fun ns hn => ?_
  refine X10 (h y List.mem_cons_self) fun c e => ?_
  cases y <;> simp only [intK,reduceCtorEq] at e
  exact ⟨_, .cons _ _ hn⟩
theorem kkInts (keys : List Value) (h : ∀ y ∈ keys, ∃ c,intK.keyOf y = some c) (h2 : 2 <= keys.length) : keyKind' keys.toArray = pure oneType' := by
 refine X10 (intsOf keys h) fun ns hs => ?_
 cases keys with
 | nil => simp at h2
 | cons a r =>
  cases r with
  | nil => simp at h2
  | cons b r => exact keyKind_ints hs
theorem repsPick {h : Heap} {M : List Addr} {ps : List PV} {vs : List Value} (d : PV) (rs : Reps h M ps vs) : ∀ {σ : List Nat},(∀ i ∈ σ,i < ps.length) -> Reps h M (σ.map fun i => ps.getD i d) (σ.map fun i => vs.getD i .none):=fun {σ} => by
 induction σ with
 | nil => exact fun z9 => .nil
 | cons i r ih =>
  intro hi
  have h1:=hi i List.mem_cons_self
  refine X11 (rs.at (List.getElem?_eq_getElem h1)) fun v e rv => ?_
  refine .cons ?_ (ih fun j hj => hi j (List.mem_cons_of_mem _ hj))
  show Rep h M (ps.getD i d) (vs.getD i .none)
  rw [List.getD_eq_getElem?_getD,List.getElem?_eq_getElem h1,List.getD_eq_getElem?_getD,e]
  exact rv
theorem PureX.sortedKey (Z : CxOk w C) {x1 fn : Str} {p1 pos kp fp : Pos} {e : Expr} {ss : List Str} {kf : Str -> Str} {fa : Addr} {need : Nat} (h1 : Pure w A C Γ led (.Name x1 p1) (.val (.builtin "sorted"))) (h : Pure w A C Γ led e (.lst (ss.map .str))) (hf : Pure w A C Γ led (.Name fn fp) (.val (.ref fa)))
  (F : ∀ x ∈ ss,Fn w fa need [.str x] (.str (kf x))) (hA : Around.ok A.in1.in1 need) (hn : ss.length < 64)
  (he : starEach [e] C.env = (false,eval e C.env) :: starEach [] C.env) (he2 : backTo pos (starEach [e] C.env) = (false,eval e C.env) :: backTo pos (starEach [] C.env)) (hp : (backTo pos (starEach [e] C.env)).any (·.1) = false) :
  PureX [] w A C Γ led (.Call (.Name x1 p1) [e] [⟨some (Str.ofString "key"), .Name fn fp,kp⟩] pos) fun pv => ∃ σ : List Nat,pv = .lst ((σ.map fun i => ss.getD i ⟨#[]⟩).map .str) /\ σ.Perm (List.range ss.length) /\ σ.Pairwise fun i j => ¬ ((kf (ss.getD j ⟨#[]⟩)).cps.toList < (kf (ss.getD i ⟨#[]⟩)).cps.toList):=fun s Q E a q => by
 show wpAny _ A (do callWith pos (<- eval (.Name x1 p1) C.env) [] (backTo pos (starEach [e] C.env)) (backToKw pos (keywordEach [⟨some (Str.ofString "key"), .Name fn fp,kp⟩] C.env))) Q E s
 refine wpAny_bind (h1 s _ E a fun v g1 k1 r1 e1 a1 => ?_)
 apply Rep.elV r1
 refine callWith_kw (spliced_more (h _ _ E a1 fun v g2 k2 r2 e2 a2 => spliced_none (kws_cons (hf _ _ E a2 fun v' g3 k3 r3 e3 a3 => kws_nil ?_))) he) he2 hp rfl rfl
 apply Rep.elV r3
 have r2:=r2.ext e3
 apply Rep.elL r2;intro ad vs n el ml rl
 have hvl:=rl.length
 rw [Array.length_toList,List.length_map] at hvl
 refine byG fun G kG => ?_
 refine X50 Z.T fun p' loose mean mg mb Tp => ?_
 refine kG ?_;clear kG G
 show wpAny _ A (call (.builtin "sorted") [.ref ad] [(Str.ofString "key", .ref fa)]) Q E _
 refine sortedBy (κ:=PyProof.Rows.strKind) (n:=ss.length) (Vs:=fun l => l = vs.toList) (s := { s with heap:=g3,toks:=k3 }) (ks:=fun i => (kf (ss.getD i ⟨#[]⟩)).cps.toList) strKind_oneLt (fun l e => by rw [e,Array.length_toList,hvl]) (fun Q' q' => collectL el (by omega) Q' fun h' tk => q' _ h' tk rfl) (fun l el i v h' k' Q' E' hv ex q' => ?_) kkStrs hn fun l h' tk r σ n' el' ex hr e' hσ hpw => ?_
 ·subst el
  have hi : i < ss.length:=by rw [<- hvl];rw [Array.getElem?_toList] at hv;exact (Array.getElem?_eq_some_iff.mp hv).1
  refine X11 (rl.at (i:=i) (p:=.str (ss.getD i ⟨#[]⟩)) (by simp [hi])) fun v' hv' rv => ?_
  rw [hv] at hv'
  obtain rfl:=Option.some.inj hv'
  have a4 : AS C Γ led { s with heap:=h',toks:=k' } := a3.ext Z ex
  refine Gv.fn (F (ss.getD i ⟨#[]⟩) (by simp [hi])) hA.1 hA.2.1 hA.2.2 (C.M led) _ Q' E' [v] (a4.alive Z) (fun b o e => a4.kp b o (Z.K b o e)) ⟨_,_,_,_,_,Tp.keeps a4.kp⟩ (.cons (rv.ext ex) .nil) fun y h5 k5 ry ex5 => q' y h5 k5 ?_ ex5
  (apply Rep.elS ry;intro z9)
  rfl
 ·subst el'
  have hsl : vs.toList.length = ss.length:=by rw [Array.length_toList,hvl]
  rw [hsl] at hσ
  have hi : ∀ i ∈ σ,i < ss.length:=fun i hi => List.mem_range.mp (hσ.mem_iff.mp hi)
  have x3 : Ext s.heap h' := ((e1.trans e2).trans e3).trans ex
  refine q _ { s with heap:=h',toks:=tk } _ ⟨σ,rfl,hσ, ?_⟩ (.lst e' (fun z => ?_) ?_) (.ofExt x3) (a3.ext Z ex)
  ·refine hpw.imp fun {i j} hij => ?_
   have : decide ((kf (ss.getD j ⟨#[]⟩)).cps.toList < (kf (ss.getD i ⟨#[]⟩)).cps.toList) = false:=hij
   simpa using this
  ·refine X10 (a3.alive Z _ z) fun o' eo => ?_
   rw [show g3.get? r = none from hr] at eo;exact nS eo
  ·have:=repsPick (.str ⟨#[]⟩) (rl.keep (Ext.sk ex) fun _ _ _ m => m) (σ:=σ) (by simpa using hi)
   rw [List.map_map]
   have e5 : (σ.map fun i => (ss.map PV.str).getD i (.str ⟨#[]⟩)) = σ.map (PV.str ∘ fun i => ss.getD i ⟨#[]⟩):=List.map_congr_left fun i hi' => by
    simp [hi i hi']
   rw [e5] at this
   exact this
end
section
variable {w : World} {C : Cx} {A : Around} {Γ Γ' : List (Option PV)} {led led' : Led} {s : Shared} {T : List Addr} {E : Value -> Shared -> Prop}
noncomputable abbrev lamCx (h : Heap) (M : List Addr) (qual : Str) (scope : Scope) (clos : List (Str × Addr)) (f : Addr) (cdv : Value) (L : Addr) (kn ln : Str) : Cx:=⟨h,M,newEnv scope L mainGlobals ((kn,L + 1) :: clos) (qual ++ ".<locals>.") (some f) cdv none builtinsNs, [kn,ln],fun _ => True⟩
theorem lamCall {f c' cl : Addr} {name qual kn ln : Str} {params : Arguments} {body : Expr} {scope : Scope} {clos : List (Str × Addr)} {pm ctv v vl : Value} {pk pl r : PV} {M : List Addr} {Q : Value -> Shared -> Prop}
  (hroom : A.depth < recursionLimit) (hf : s.heap.get? f = some (kla_obj name qual params body scope clos pm c' ctv)) (hcd : s.heap.CodeRec (.ref c') qual) (hK : (hd.heap_1 w.params).In s.heap) (hT : ∃ p loose mean mg mb,Top p loose mean mg mb s.heap)
  (hco : scope.isCoroutine = false) (hgen : scope.isGenerator = false) (hk : scope.kind = .function) (hbind : ∀ v,bindArgs (kla_fn name qual params body scope clos pm (.ref c') ctv) ⟨[v], []⟩ = pure [(kn,v)])
  (hcells : ∀ L : Addr,cellsFrom (L + 1) scope.names clos = (kn,L + 1) :: clos) (hpush : ∀ h,pushCells h scope.names = h.push { cls:=.type "cell",data:=.cell none })
  (kk : scope.names.lookup kn = some .cell) (kl : scope.names.lookup ln = some .free) (hne : kn ≠ ln) (hdb : (kn == ("__debug__" : Str)) = false) (hdb2 : (ln == ("__debug__" : Str)) = false) (hcd2 : (ln == ("__classdict__" : Str)) = false) (honly : ∀ x c,(x,c) ∈ clos -> scope.names.lookup x ≠ some .cell)
  (hclos : ∀ q ∈ clos, ∃ o,s.heap.get? q.2 = some o) (hM : ∀ b ∈ M, ∃ o,s.heap.get? b = some o) (rk : Rep s.heap M pk v) (hlc : clos.lookup ln = some cl) (hl : s.heap.IsCell cl (some vl)) (rl : Rep s.heap M pl vl)
  (ev : ∀ L,CxOk w (lamCx s.heap M qual scope clos f (.ref c') L kn ln) -> Pure w (A.deeper (newEnv scope L mainGlobals ((kn,L + 1) :: clos) (qual ++ ".<locals>.") (some f) (.ref c') none builtinsNs)) (lamCx s.heap M qual scope clos f (.ref c') L kn ln) [some pk,some pl] [] body r)
  (q : ∀ y h' k',Rep h' M r y -> Ext s.heap h' -> Q y { s with heap:=h',toks:=k' }) : wpAny (model vw w) A (call (.ref f) [v]) Q E s:=by
 refine X50 (id hT) fun p loose mean mg mb Tp => ?_
 refine wpAny_call (kla_callFunE hroom hf rfl hco hgen rfl hcd ?_)
 rw [hbind]
 refine wpAny_pure ?_
 simp only [newFunctionEnv,Option.isSome_none,Bool.false_eq_true,if_false]
 refine wpAny_bind (wpAny_alloc ?_)
 refine wpAny_bind (wpAny_layCells _ (fun name kind cells => by cases hkc : kind == NameKind.cell <;> simp [hkc]) _ _ _ _ ?_)
 have hz1 : (s.heap.push { cls:=.type "frame",data:=.dict #[] }).objs.size = s.heap.objs.size + 1:=Heap.size_push ..
 dsimp only
 rw [hpush,hz1,hcells]
 have ex1 : Ext s.heap ((s.heap.push { cls:=.type "frame",data:=.dict #[] }).push { cls:=.type "cell",data:=.cell none }):=fun b o e => Heap.get?_push_of_some _ (Heap.get?_push_of_some _ e)
 have hns : ((s.heap.push { cls:=.type "frame",data:=.dict #[] }).push { cls:=.type "cell",data:=.cell none }).Ns s.heap.objs.size fun z9 => none:=(Heap.Ns.new s.heap (.type "frame")).keeps fun b o e => Heap.get?_push_of_some _ e
 have hcc : ((s.heap.push { cls:=.type "frame",data:=.dict #[] }).push { cls:=.type "cell",data:=.cell none }).IsCell (s.heap.objs.size + 1) none:=⟨_,by rw [<- hz1];exact Heap.get?_push_size _ rfl,rfl⟩
 generalize (s.heap.push { cls:=.type "frame",data:=.dict #[] }).push { cls:=.type "cell",data:=.cell none } = h2 at ex1 hns hcc ⊢
 rw [List.forIn_cons]
 have hkl : (newEnv scope s.heap.objs.size mainGlobals ((kn,s.heap.objs.size + 1) :: clos) (qual ++ ".<locals>.") (some f) (.ref c') none builtinsNs).cells.lookup kn = some (s.heap.objs.size + 1):=by
  show List.lookup kn ((kn,s.heap.objs.size + 1) :: clos) = _
  rw [List.lookup_cons,beq_self_eq_true]
 have hll : (newEnv scope s.heap.objs.size mainGlobals ((kn,s.heap.objs.size + 1) :: clos) (qual ++ ".<locals>.") (some f) (.ref c') none builtinsNs).cells.lookup ln = some cl:=by
  show List.lookup ln ((kn,s.heap.objs.size + 1) :: clos) = _
  rw [List.lookup_cons,beq_eq_false_iff_ne.mpr (Ne.symm hne)]
  exact hlc
 refine wpAny_bind (wpAny_bind (wpAny_bind (wpAny_storeName_cell (env:=newEnv scope s.heap.objs.size mainGlobals ((kn,s.heap.objs.size + 1) :: clos) (qual ++ ".<locals>.") (some f) (.ref c') none builtinsNs) hk kk hkl hcc fun h3 hc3 hs3 => ?_)))
 refine wpAny_pure ?_
 dsimp only
 rw [List.forIn_nil]
 refine wpAny_pure (wpAny_pure ?_)
 have hLn : s.heap.get? s.heap.objs.size = none:=Heap.get?_none_of_le (Nat.le_refl _)
 have hCn : s.heap.get? (s.heap.objs.size + 1) = none:=Heap.get?_none_of_le (Nat.le_succ _)
 have ex3 : Ext s.heap h3:=fun b o e => hs3.extBut b o (fun z => by rw [z,hCn] at e;exact nS e) (ex1 b o e)
 have hns3 : h3.Ns s.heap.objs.size fun z9 => none:=hns.sameBut hs3 (Nat.ne_of_lt (Nat.lt_succ_self _))
 refine ⟨(Tp.nolimit).keeps ex3,kla_codeExpr ?_⟩
 have Z : CxOk w (lamCx s.heap M qual scope clos f (.ref c') s.heap.objs.size kn ln) :=
  ⟨fun _ _ _ x => x,hk,by simp [hne],fun x hx => by
   rcases List.mem_cons.mp hx with rfl | hx
   ·exact hdb
   ·rw [List.mem_singleton.mp hx];exact hdb2,hK,hT,rfl,rfl,hLn,hM,fun x c h1 h2 => by
   rcases List.mem_cons.mp h1 with e | h1
   ·cases e
    refine ⟨hCn,fun y c2 h3 n z => ?_⟩
    refine Or.elim (List.mem_cons.mp h3) (fun e => ?_) fun h3 => ?_
    ·cases e;exact n rfl
    ·refine X10 (hclos _ h3) fun o e => ?_
     rw [show ((y,c2) : Str × Addr).2 = c2 from rfl,z,hCn] at e;exact nS e
   ·exact absurd h2 (honly x c h1)⟩
 refine (ev s.heap.objs.size Z) { s with heap:=h3 } _ _ ⟨⟨_,hns3,fun i x pv h1 h2 => ?_⟩,ex3,fun p hp => (nomatch hp),List.nodup_nil,fun x c h1 h2 => ?_,fun p hp => (nomatch hp),trivial⟩ fun y h' k' ry ey _ => q y h' k' (ry.keep (Ext.sk noExt) fun b o _ m z => m (List.mem_append_left _ z)) (ex3.trans ey)
 ·have mm : ∀ b o,s.heap.get? b = some o -> b ∉ M -> b ∉ M ++ []:=fun b o _ m z => m (by simpa using z)
  cases i with
  | zero =>
   obtain rfl:=Option.some.inj h1;cases h2
   exact ⟨v, .inr ⟨.inl kk,_,hkl,hc3⟩,rk.keep (Ext.sk ex3) mm⟩
  | succ i =>
   cases i with
   | zero =>
    obtain rfl:=Option.some.inj h1;cases h2
    exact ⟨vl, .inr ⟨.inr ⟨kl,hcd2⟩,_,hll,hl.keeps ex3⟩,rl.keep (Ext.sk ex3) mm⟩
   | succ i => exact nS h1
 ·rcases List.mem_cons.mp h1 with e | h1
  ·cases e;exact ⟨_,hc3⟩
  ·exact absurd h2 (honly x c h1)
theorem AS.toTab (Z : CxOk w C) (a : AS C Γ led s) {P : Addr} {ps : Array Value} (hP : C.h₀.get? P = some (tabObj ps)) (ht : TriplesOk ps.toList) : AS (C.at (hideAll C.h₀ [P])) Γ ((P, .tab) :: led) s:=by
 have eP:=a.kp _ _ hP
 have sub : ∀ b o,(hideAll C.h₀ [P]).get? b = some o -> C.h₀.get? b = some o:=fun b o e => of_hideAll _ e
 have kS : ∀ {pv : PV} {v : Value},Rep s.heap (C.M led) pv v -> Rep s.heap ((C.at (hideAll C.h₀ [P])).M ((P, .tab) :: led)) pv v:=fun r => r.keepS (Ext.sk noExt) fun b o e q m z => by
  refine Or.elim (List.mem_append.mp z) (fun z => ?_) fun z => ?_
  ·exact m (List.mem_append_left _ z)
  ·refine Or.elim (List.mem_cons.mp z) (fun z => ?_) fun z => ?_
   ·rw [z,eP] at e;obtain rfl:=Option.some.inj e;exact nB q
   ·exact m (List.mem_append_right _ z)
 have kSs : ∀ {pv : List PV} {v : List Value},Reps s.heap (C.M led) pv v -> Reps s.heap ((C.at (hideAll C.h₀ [P])).M ((P, .tab) :: led)) pv v:=fun r => r.keepS (Ext.sk noExt) fun b o e q m z => by
  refine Or.elim (List.mem_append.mp z) (fun z => ?_) fun z => ?_
  ·exact m (List.mem_append_left _ z)
  ·refine Or.elim (List.mem_cons.mp z) (fun z => ?_) fun z => ?_
   ·rw [z,eP] at e;obtain rfl:=Option.some.inj e;exact nB q
   ·exact m (List.mem_append_right _ z)
 refine X11 a.fr fun m F hF => ?_
 refine ⟨⟨m,F,fun i x pv h1 h2 => ?_⟩,fun b o e => a.kp b o (sub b o e),fun p hp => ?_,List.nodup_cons.mpr ⟨fun z => ?_,a.nd⟩,a.ce,fun p hp => ?_,a.x⟩
 ·refine X11 (hF i x pv h1 h2) fun v h3 h4 => ?_
  exact ⟨v,h3,kS h4⟩
 ·rcases List.mem_cons.mp hp with rfl | hp
  ·exact ⟨hideAll_none _ List.mem_cons_self,_,eP,ps,rfl,ht⟩
  ·refine XAEA (a.lg p hp) fun h2 o h3 h4 => ?_
   refine ⟨noneSub sub h2,o,h3, ?_⟩
   obtain ⟨p1,p2⟩ := p
   cases p2 with
   | list l => refine X21 h4 fun vs n e r => ?_;exact ⟨vs,n,e,kSs r⟩
   | app b => exact h4
   | tab => exact h4
   | dict w' kvs => refine X11 h4 fun vs e r => ?_;exact ⟨vs,e,kSs r⟩
   | any => exact h4
 ·obtain ⟨q,hq,e⟩ := List.mem_map.mp z
  have:=(a.lg q hq).1
  rw [e,hP] at this;exact nS this.symm
 ·rcases List.mem_cons.mp hp with rfl | hp
  ·exact fun z => by have:=Z.L;rw [<- z,hP] at this;exact nS this.symm
  ·exact a.ll p hp
theorem CxOk.toTab (Z : CxOk w C) {P : Addr} {ps : Array Value} (hK : noTabs (hd.heap_1 w.params) = true) (hP : C.h₀.get? P = some (tabObj ps)) (hM : P ∉ C.M₀) : CxOk w (C.at (hideAll C.h₀ [P])):=by
 have sub : ∀ b o,(hideAll C.h₀ [P]).get? b = some o -> C.h₀.get? b = some o:=fun b o e => of_hideAll _ e
 refine Y2 (hideTs hK (Ts := [P]) (by simp) (fun t ht => by rw [List.mem_singleton.mp ht];exact ⟨_,hP⟩) Z.K Z.T) fun K1 T1 => ?_
 exact ⟨Z.x,Z.kind,Z.nd,Z.dbg,K1,T1,Z.g,Z.b,noneSub sub Z.L,fun b hb => (Z.m b hb).imp fun o e => hideAll_get _ e fun q => hM (List.mem_singleton.mp q ▸ hb),fun x c h1 h2 => ⟨noneSub sub (Z.cl x c h1 h2).1,(Z.cl x c h1 h2).2⟩⟩
noncomputable def RangeE (w : World) (A : Around) (C : Cx) (Γ : List (Option PV)) (led : Led) (e : Expr) (n : Nat) : Prop :=
 ∀ (s : Shared) (Q E : Value -> Shared -> Prop),AS C Γ led s -> (∀ r h k t u v,IsRange h r 0 n 1 t u v -> Ext s.heap h -> AS C Γ led { s with heap:=h,toks:=k } -> Q (.ref r) { s with heap:=h,toks:=k }) -> wpAny (model vw w) A (eval e C.env) Q E s
theorem RangeE.one (Z : CxOk w C) {x : Str} {np pos : Pos} {e : Expr} {n : Nat} (hf : Pure w A C Γ led (.Name x np) (.val (.type "range"))) (ha : Args w A C Γ led [e] [.int n]) : RangeE w A C Γ led (.Call (.Name x np) [e] [] pos) n:=fun s Q E as h =>
 wpAny_Call_NameR (hf s _ E as fun v h1 k1 r1 e1 a1 => by
  apply Rep.elV r1
  refine callWX Z (.inr (.inl ⟨_,rfl⟩)) ha a1 fun vs h2 k2 rs e2 a2 => ?_
  apply Reps.elC rs;intro _ _ r1 t
  apply Reps.elN t
  (apply Rep.elI r1;intro z9)
  refine call_range_1 ?_
  exact h _ _ _ _ _ _ (Heap.get?_push_size _ rfl) (fun b o e => Heap.get?_push_of_some _ (e2 b o (e1 b o e))) (a2.ext Z fun b o e => Heap.get?_push_of_some _ e))
theorem Run.letLam (Z : CxOk w C) {K : Flow -> Shared -> Prop} {rest : List Stmt} {i j n : Nat} {x x1 kn ln : Str} {p p1 pos cpos kp lpos : Pos} {re body : Expr} {params : Arguments} {scope : Scope} {P c cl : Addr} {pl : PV} {ks : Nat -> Int}
  (hA : Around.ok A 3) (hX : XOk [P] C) (h1 : Pure w A C Γ led (.Name x1 p1) (.val (.builtin "sorted"))) (hre : RangeE w A C Γ led re n) (hn : n < 64) (hKt : noTabs (hd.heap_1 w.params) = true) (hP : C.h₀.get? P = some (tabObj #[])) (hPM : P ∉ C.M₀) (hC : CodeHd C.h₀ c P) (hcode : C.env.code = .ref c)
  (hdef : defaultsOf params C.env = ([], [])) (hcl : closureFor scope C.env = pure [(ln,cl)]) (hlx : C.nms[j]? = some ln) (hlv : Γ[j]? = some (some pl)) (hlk : C.env.kindOf ln = some .cell) (hlc : C.env.cells.lookup ln = some cl)
  (hco : scope.isCoroutine = false) (hgen : scope.isGenerator = false) (hk : scope.kind = .function) (hbind : ∀ c' pm ctv v,bindArgs (kla_fn "<lambda>" (C.env.qual ++ "<lambda>") params body scope [(ln,cl)] pm (.ref c') ctv) ⟨[v], []⟩ = pure [(kn,v)])
  (hcells : ∀ L : Addr,cellsFrom (L + 1) scope.names [(ln,cl)] = (kn,L + 1) :: [(ln,cl)]) (hpush : ∀ h,pushCells h scope.names = h.push { cls:=.type "cell",data:=.cell none })
  (kk : scope.names.lookup kn = some .cell) (kl : scope.names.lookup ln = some .free) (hne : kn ≠ ln) (hdb : (kn == ("__debug__" : Str)) = false) (hdb2 : (ln == ("__debug__" : Str)) = false) (hcd2 : (ln == ("__classdict__" : Str)) = false)
  (he : starEach [re] C.env = (false,eval re C.env) :: starEach [] C.env) (he2 : backTo cpos (starEach [re] C.env) = (false,eval re C.env) :: backTo cpos (starEach [] C.env)) (hp2 : (backTo cpos (starEach [re] C.env)).any (·.1) = false)
  (ev : ∀ (h : Heap) (M : List Addr) (f : Addr) (cdv : Value) (L : Addr) (A' : Around) (i : Nat),Around.ok A' 1 -> i < n -> CxOk w (lamCx h M (C.env.qual ++ "<lambda>") scope [(ln,cl)] f cdv L kn ln) -> Pure w A' (lamCx h M (C.env.qual ++ "<lambda>") scope [(ln,cl)] f cdv L kn ln) [some (.int i),some pl] [] body (.int (ks i)))
  (hx : Nth C.nms i x) (hkx : C.env.kindOf x = some .local) (hs : swapsWith (.Call (.Name x1 p1) [re] [⟨some (Str.ofString "key"), .Lambda params body scope lpos,kp⟩] cpos) (some (.Name x p)) pos.line C.env = pure false)
  (r : ∀ σ : List Nat,σ.Perm (List.range n) -> σ.Pairwise (fun i j => ks i <= ks j) -> CxOk w (C.at (hideAll C.h₀ [P])) -> ∃ Γ',Put Γ i (.lst (σ.map fun i : Nat => .int i)) Γ' /\ Run w A (C.at (hideAll C.h₀ [P])) Γ' ((P, .tab) :: led) rest K) :
  Run w A C Γ led (.Assign [.Name x p] (.Call (.Name x1 p1) [re] [⟨some (Str.ofString "key"), .Lambda params body scope lpos,kp⟩] cpos) pos :: rest) K:=by
 have Z' := Z.toTab hKt hP hPM
 refine .st fun s a => wpAny_Assign_Name ?_ hs
 show wpAny _ A (do callWith cpos (<- eval (.Name x1 p1) C.env) [] (backTo cpos (starEach [re] C.env)) (backToKw cpos (keywordEach [⟨some (Str.ofString "key"), .Lambda params body scope lpos,kp⟩] C.env))) _ _ s
 refine wpAny_bind (h1 s _ _ a fun v g1 k1 r1 e1 a1 => ?_)
 apply Rep.elV r1
 refine callWith_kw (spliced_more (hre _ _ _ a1 fun rg g2 k2 t u v hrg e2 a2 => spliced_none (kws_cons (kla_eval hdef ?_))) he) he2 hp2 rfl rfl
 refine byG fun G kG => ?_
 refine X50 (id Z.T) fun p' loose mean mg mb Tp => ?_
 refine kG ?_;clear kG G
 have k:=a2.kp
 have hPs : g2.get? P = some (tabObj #[]):=k _ _ hP
 have hgs:=Tp.g.keeps k
 refine byG fun G kG => ?_
 refine X22 Tp.bmain fun bm ob b1 b2 q8 => Y4 q8 fun b3 b4 b5 b6 => ?_
 refine kG ?_;clear kG G
 have hgP : mainGlobals ≠ P:=fun q => by
  refine X32 hgs fun o es ep e hd _ => ?_
  rw [q,show g2.get? P = _ from hPs] at e;obtain rfl:=Option.some.inj e;exact Data.noConfusion hd
 have hbP : bm ≠ P:=fun q => by
  have e:=k _ _ b3
  rw [q,show g2.get? P = _ from hPs] at e;obtain rfl:=Option.some.inj e;exact Value.noConfusion b4
 have hbG : bm ≠ mainGlobals:=fun q => by
  refine X32 Tp.g fun o es ep e hd _ => ?_
  rw [q,e] at b3;obtain rfl:=Option.some.inj b3;rw [hd] at b6;exact Data.noConfusion b6
 have hBA : Heap.BuiltinsAt g2 mg P:=⟨bm,ob,b1,b2,hbG,hbP,k _ _ b3,b4,b5,b6⟩
 refine kla_makeFunction (mg:=mg) hcl Z.g hgs hcode (hC.keeps k) hPs (by exact True.intro) rfl hgP hBA fun c' ctv h3 tk hx3 hge hlt hrec htb => ?_
 refine kws_nil ?_
 have hPlt : P < h3.objs.size:=Heap.lt_size htb
 have hf5 : (h3.push (kla_obj "<lambda>" (C.env.qual ++ "<lambda>") params body scope [(ln,cl)] ((mg "__name__").getD .none) c' ctv)).get? h3.objs.size = some (kla_obj "<lambda>" (C.env.qual ++ "<lambda>") params body scope [(ln,cl)] ((mg "__name__").getD .none) c' ctv):=Heap.get?_push_size _ rfl
 have ex5 : ∀ b o,b ≠ P -> g2.get? b = some o -> (h3.push (kla_obj "<lambda>" (C.env.qual ++ "<lambda>") params body scope [(ln,cl)] ((mg "__name__").getD .none) c' ctv)).get? b = some o:=fun b o hb e => Heap.get?_push_of_some _ (hx3 b o hb e)
 have hP5:=Heap.get?_push_of_some (kla_obj "<lambda>" (C.env.qual ++ "<lambda>") params body scope [(ln,cl)] ((mg "__name__").getD .none) c' ctv) htb
 have rec5 : Heap.CodeRec (h3.push (kla_obj "<lambda>" (C.env.qual ++ "<lambda>") params body scope [(ln,cl)] ((mg "__name__").getD .none) c' ctv)) (.ref c') (C.env.qual ++ "<lambda>"):=by
  refine byG fun G kG => ?_
  refine X41 hrec fun cc oc vs tq q1 q8 => Y3 q8 fun q2 q3 q4 => ?_
  refine kG ?_;clear kG G
  exact ⟨cc,oc,vs,tq,q1,Heap.get?_push_of_some _ q2,q3,q4⟩
 generalize hfo : h3.push (kla_obj "<lambda>" (C.env.qual ++ "<lambda>") params body scope [(ln,cl)] ((mg "__name__").getD .none) c' ctv) = h5 at hf5 ex5 hP5 rec5 ⊢
 have a5 : AS (C.at (hideAll C.h₀ [P])) Γ ((P, .tab) :: led) { s with heap:=h5,toks:=tk } :=
  AS.gr (C' := C) (T := [P]) (a2.toTab Z hP True.intro) (fun t ht => by rw [List.mem_singleton.mp ht];exact List.mem_cons_self) ⟨fun b o hb e => ex5 b o (fun z => hb (List.mem_singleton.mpr z)) e,(fun z => nomatch z),(fun z => nomatch z),rfl⟩ (fun t ht => by rw [List.mem_singleton.mp ht];exact ⟨_,hP5,by simp [TriplesOk,rawInt]⟩) (Z.x { s with heap:=g2,toks:=k2 } h5 tk a2.x)
 have hrg : IsRange h5 rg 0 n 1 t u v:=ex5 _ _ (fun z => by rw [z] at hrg;rw [show g2.get? P = some _ from hrg] at hPs;cases hPs) hrg
 show wpAny _ A (call (.builtin "sorted") [.ref rg] [(Str.ofString "key", .ref h3.objs.size)]) _ _ _
 refine sortedBy (κ:=intK) (n:=n) (Vs:=fun l => l.length = n /\ ∀ i,i < n -> ∃ t,l[i]? = some (.int (i : Nat) t)) (s := { s with heap:=h5,toks:=tk }) (ks:=ks) intK_oneLt (fun l e => e.1) (fun Q' q' => collectR (A:=A.in1) hA.1 hrg (by omega) Q' fun vs h' tk' v1 v2 ex => q' vs h' tk' ⟨v1,v2⟩ ex) (fun vs hV i v h' k' Q' E' hv ex q' => ?_) kkInts hn fun vs h' tk' rr σ e hV ex hr e' hσ hpw => ?_
 ·have hi : i < n:=by rw [<- hV.1];exact (List.getElem?_eq_some_iff.mp hv).1
  obtain ⟨tv,ev1⟩ := hV.2 i hi
  rw [hv] at ev1
  obtain rfl:=Option.some.inj ev1
  have a6 : AS (C.at (hideAll C.h₀ [P])) Γ ((P, .tab) :: led) { s with heap:=h',toks:=k' } := a5.ext Z' ex
  refine X11 a6.fr fun m F hF => ?_
  refine X11 (hF j ln pl hlx hlv) fun vl hv1 hv2 => ?_
  have hcell : Heap.IsCell h' cl (some vl):=by
   refine Or.elim hv1 (fun q1 => Y2 q1 fun z _ => ?_) fun q2 => XAEA q2 fun _ c2 z2 z3 => ?_
   ·rw [show (C.at (hideAll C.h₀ [P])).env.kindOf ln = C.env.kindOf ln from rfl,hlk] at z;cases z
   ·rw [show (C.at (hideAll C.h₀ [P])).env.cells.lookup ln = C.env.cells.lookup ln from rfl,hlc] at z2;obtain rfl:=Option.some.inj z2;exact z3
  refine byG fun G kG => ?_
  refine X50 (id Z'.T) fun p9 loose9 mean9 mg9 mb9 Tp9 => ?_
  refine kG ?_;clear kG G
  refine lamCall (s := { s with heap:=h',toks:=k' }) (M:=(C.at (hideAll C.h₀ [P])).M ((P, .tab) :: led)) (pk:=.int i) (pl:=pl) (r:=.int (ks i)) (Nat.lt_of_le_of_lt (Nat.le_add_right _ _) hA.2.1) (ex _ _ hf5) (by
   refine byG fun G kG => ?_
   refine X41 rec5 fun cc oc vs tq q1 q8 => Y3 q8 fun q2 q3 q4 => ?_
   refine kG ?_;clear kG G
   exact ⟨cc,oc,vs,tq,q1,ex _ _ q2,q3,q4⟩) (fun b o e => a6.kp b o (Z'.K b o e)) ⟨_,_,_,_,_,Tp9.keeps a6.kp⟩ hco hgen hk (fun v => hbind _ _ _ v) hcells hpush kk kl hne hdb hdb2 hcd2 (fun x c hm => by
    rw [List.mem_singleton] at hm
    cases hm
    rw [kl];exact fun z => nomatch z) (fun q hq => by
    rw [List.mem_singleton.mp hq]
    refine X11 hcell fun o e _ => ?_
    exact ⟨o,e⟩) (a6.alive Z') (.int _ _) (by rw [List.lookup_cons,beq_self_eq_true]) hcell hv2 (fun L ZL => ev _ _ _ _ L _ i ⟨hA.1, ?_, ?_⟩ hi ZL) fun y h7 k7 ry ex7 => q' y h7 k7 (by (apply Rep.elI ry;intro z9);rfl) ex7
  ·dsimp only [Around.deeper]
   have:=hA.2.1
   omega
  ·dsimp only [Around.deeper]
   have:=hA.2.2
   omega
 ·obtain ⟨Γ',hΓ,hr2⟩ := r σ (by rw [<- hV.1];exact hσ) (hpw.imp fun {i j} hij => by
   have : decide (ks j < ks i) = false:=hij
   simpa using this) Z'
  have a6 : AS (C.at (hideAll C.h₀ [P])) Γ ((P, .tab) :: led) { s with heap:=h',toks:=tk' } := a5.ext Z' ex
  refine a6.setL Z' hx.at hkx (pv:=.lst (σ.map fun i : Nat => .int i)) (.lst e' (fun z => ?_) ?_) fun h8 k8 _ a8 => hr2 _ (by rw [hΓ.set];exact a8)
  ·refine X10 (a5.alive Z' _ z) fun o' eo => ?_
   rw [show h5.get? rr = none from hr] at eo;exact nS eo
  ·have hσ2 : ∀ i ∈ σ,i < n:=fun i hi => by rw [<- hV.1];exact List.mem_range.mp (hσ.mem_iff.mp hi)
   clear hσ hpw e' hr2 hΓ
   induction σ with
   | nil => exact .nil
   | cons i r ih =>
    refine X10 (hV.2 i (hσ2 i List.mem_cons_self)) fun tv e1 => ?_
    refine .cons ?_ (ih fun j hj => hσ2 j (List.mem_cons_of_mem _ hj))
    show Rep _ _ (.int (i : Nat)) (vs.getD i .none)
    rw [List.getD_eq_getElem?_getD,e1]
    exact .int _ _
end
section
variable {w : World} {C : Cx} {A : Around} {Γ Γ' Γ₀ : List (Option PV)} {led led' : Led} {s : Shared} {T : List Addr} {K : Flow -> Shared -> Prop} {rest : List Stmt}
structure CompSide (C : Cx) (scope : Scope) (cl : List (Str × Addr)) (nms : List Str) (iter : Expr) (Γ Γ₀ : List (Option PV)) : Prop where
 clos : closureFor scope C.env = pure cl
 cell : (scope.names.all fun y => y.2 != .cell) = true
 kind : scope.kind = .function
 names : (scope.names.all fun y => y.2 != .local || scope.names.lookup y.1 == some .local) = true
 f : ∀ x,foldedSetIterable iter C.env x = pure x
 nd : nms.Nodup
 dbg : (nms.all fun x => !(x == ("__debug__" : Str))) = true
 hcl : ∀ q ∈ cl,q ∈ C.env.cells /\ C.env.kindOf q.1 = some .cell
 inn : Inn C scope cl Γ nms Γ₀
theorem filter_getD {α : Type} (d : α) (p : α -> Bool) : ∀ l : List α,((List.range l.length).filter fun i => p (l.getD i d)).map (fun i => l.getD i d) = l.filter p:=by
 intro l
 have h : ((List.range l.length).map (fun i => l.getD i d)).filter p = l.filter p:=by rw [range_getD l d l.length rfl]
 rw [<- h,List.filter_map]
 rfl
theorem filter_getF {α β : Type} (d : α) (p : α -> Bool) (f : α -> β) (l : List α) : ((List.range l.length).filter fun i => p (l.getD i d)).map (fun i => f (l.getD i d)) = (l.filter p).map f:=by
 rw [<- filter_getD d p l,List.map_map];rfl
theorem getD_map {α : Type} (d : α) (v : α -> PV) (q : PV) {l : List α} {i : Nat} (h : i < l.length) : (l.map v).getD i q = v (l.getD i d):=by simp [h]
theorem getD_mem {α : Type} (d : α) {l : List α} {i : Nat} (h : i < l.length) : l.getD i d ∈ l:=by
 rw [List.getD_eq_getElem?_getD,List.getElem?_eq_getElem h]
 exact List.getElem_mem h
theorem EvC.mapF (Z : CxOk w C) (hT : Tabs T led) (hh : A.handled = none) {α : Type} (nms : List Str) {target iter elt : Expr} {ifs : List Expr} {scope : Scope} {pos spos : Pos} {cl : List (Str × Addr)} (S : CompSide C scope cl nms iter Γ Γ₀) (d : α) (xs : List α) (vf rf : α -> PV) (p : α -> Bool)
  (h : Pure w A C Γ led iter (.lst (xs.map vf))) (hn : xs.length <= 1000)
  (turn : ∀ (g : Heap) (Cn D : Addr) (l : List PV) (a : α),CxOk w (C.inner g scope cl Cn nms) -> a ∈ xs -> ∃ Γ₁,CTurn T w A (C.inner g scope cl Cn nms) target elt ifs Γ₀ Γ₁ ((D, .list l) :: led) (vf a) (p a) (rf a)) :
  EvC T w A C Γ led (fun use => comprehension (.ListComp elt [⟨target,iter,ifs,0⟩] scope pos) scope C.env spos (newList []) false (eval iter C.env) use) fun l q => l = led /\ q = .lst ((xs.filter p).map rf):=by
 have hl : (xs.map vf).length = xs.length:=List.length_map _
 have:=EvC.compN (spos:=spos) (pos:=pos) (elt:=elt) (ifs:=ifs) (target:=target) Z hT nms (Src.lst hh h) S.clos S.cell S.kind S.names S.f S.nd S.dbg S.hcl S.inn (fun i => p (xs.getD i d)) (fun i => rf (xs.getD i d)) (by lia) (fun g Cn D i l Z hi => by
  rw [getD_map d vf _ (by lia)]
  exact turn g Cn D l _ Z (getD_mem d (by lia)))
 rw [hl,filter_getF d p rf xs] at this
 exact this
theorem PureT.mapF (Z : CxOk w C) (hT : Tabs T led) (hh : A.handled = none) {α : Type} (nms : List Str) {target iter elt : Expr} {ifs : List Expr} {scope : Scope} {pos : Pos} {cl : List (Str × Addr)} (S : CompSide C scope cl nms iter Γ Γ₀) (d : α) (xs : List α) (vf rf : α -> PV) (p : α -> Bool)
  (h : Pure w A C Γ led iter (.lst (xs.map vf))) (hn : xs.length <= 1000)
  (turn : ∀ (g : Heap) (Cn D : Addr) (l : List PV) (a : α),CxOk w (C.inner g scope cl Cn nms) -> a ∈ xs -> ∃ Γ₁,CTurn T w A (C.inner g scope cl Cn nms) target elt ifs Γ₀ Γ₁ ((D, .list l) :: led) (vf a) (p a) (rf a)) :
  PureT T w A C Γ led (.ListComp elt [⟨target,iter,ifs,0⟩] scope pos) (.lst ((xs.filter p).map rf)) :=
 (EvC.mapF (spos:=firstIterPos [⟨target,iter,ifs,0⟩] pos) Z hT hh nms S d xs vf rf p h hn turn).pureT Z (by rw [eval_ListComp];rfl)
theorem filter_tt {α : Type} (l : List α) : l.filter (fun z9 => true) = l:=List.filter_eq_self.mpr fun z9 z9 => rfl
theorem PureT.mapA (Z : CxOk w C) (hT : Tabs T led) (hh : A.handled = none) {α : Type} (nms : List Str) {target iter elt : Expr} {ifs : List Expr} {scope : Scope} {pos : Pos} {cl : List (Str × Addr)} (S : CompSide C scope cl nms iter Γ Γ₀) (d : α) (xs : List α) (vf rf : α -> PV)
  (h : Pure w A C Γ led iter (.lst (xs.map vf))) (hn : xs.length <= 1000)
  (turn : ∀ (g : Heap) (Cn D : Addr) (l : List PV) (a : α),CxOk w (C.inner g scope cl Cn nms) -> a ∈ xs -> ∃ Γ₁,CTurn T w A (C.inner g scope cl Cn nms) target elt ifs Γ₀ Γ₁ ((D, .list l) :: led) (vf a) true (rf a)) :
  PureT T w A C Γ led (.ListComp elt [⟨target,iter,ifs,0⟩] scope pos) (.lst (xs.map rf)):=by
 have:=PureT.mapF (pos:=pos) Z hT hh nms S d xs vf rf (fun z9 => true) h hn turn
 rw [filter_tt] at this
 exact this
theorem outL_list {α β : Type} (xs : List α) (ys : α -> List β) (d : α) (e : α -> β) (f : α -> β -> PV) : outL (fun i => (ys (xs.getD i d)).length) (fun z9 z9 => true) (fun i j => f (xs.getD i d) ((ys (xs.getD i d)).getD j (e (xs.getD i d)))) xs.length = xs.flatMap fun a => (ys a).map (f a):=by
 unfold outL
 have h : (fun i => List.map (fun j => f (xs.getD i d) ((ys (xs.getD i d)).getD j (e (xs.getD i d)))) (List.filter ((fun z9 z9 => true) i : Nat -> Bool) (List.range (ys (xs.getD i d)).length))) = (fun a => (ys a).map (f a)) ∘ fun i => xs.getD i d:=by
  funext i
  show _ = (ys (xs.getD i d)).map (f (xs.getD i d))
  generalize xs.getD i d = a
  rw [filter_tt]
  have:=congrArg (List.map (f a)) (range_getD (ys a) (e a) (ys a).length rfl)
  rw [List.map_map] at this
  exact this
 rw [h]
 have e2 : List.flatMap ((fun a => List.map (f a) (ys a)) ∘ fun i => xs.getD i d) (List.range xs.length) = List.flatMap (fun a => List.map (f a) (ys a)) ((List.range xs.length).map fun i => xs.getD i d):=by rw [List.flatMap_map];rfl
 rw [e2,range_getD xs d xs.length rfl]
structure CIn2 (T : List Addr) (w : World) (A : Around) (C : Cx) (target iter₂ target₂ elt : Expr) (Γ Γ₁ : List (Option PV)) (D : Addr) (led : Led) (pv : PV) {β : Type} (ys : List β) (vf₂ rf : β -> PV) : Prop where
 asg : ∀ l,AsgB w A C target Γ ((D, .list l) :: led) pv Γ₁
 sub : ∀ (k : Nat) q,Γ[k]? = some (some q) -> Γ₁[k]? = some (some q)
 src : ∀ l,Pure w A C Γ₁ ((D, .list l) :: led) iter₂ (.lst (ys.map vf₂))
 turn : ∀ l b,b ∈ ys -> ∃ Γ₂,CTurn T w A C target₂ elt [] Γ₁ Γ₂ ((D, .list l) :: led) (vf₂ b) true (rf b)
theorem PureT.map2 (Z : CxOk w C) (hT : Tabs T led) (hh : A.handled = none) {α β : Type} (nms : List Str) {target iter elt target₂ iter₂ : Expr} {scope : Scope} {pos : Pos} {cl : List (Str × Addr)} (S : CompSide C scope cl nms iter Γ Γ₀) (d : α) (e : α -> β) (xs : List α) (ys : α -> List β) (vf : α -> PV) (vf₂ : α -> β -> PV) (rf : α -> β -> PV)
  (h : Pure w A C Γ led iter (.lst (xs.map vf))) (hx : xs.length <= 100) (hn : ∀ a ∈ xs,(ys a).length <= 9) (hd : (ys d).length <= 9) (hf₂ : ∀ Cn x,foldedSetIterable iter₂ (compEnvC scope cl Cn C.env) x = pure x)
  (turn : ∀ (g : Heap) (Cn D : Addr) (a : α),CxOk w (C.inner g scope cl Cn nms) -> a ∈ xs -> ∃ Γ₁,CIn2 T w A (C.inner g scope cl Cn nms) target iter₂ target₂ elt Γ₀ Γ₁ D led (vf a) (ys a) (vf₂ a) (rf a)) :
  PureT T w A C Γ led (.ListComp elt [⟨target,iter, [],0⟩,⟨target₂,iter₂, [],0⟩] scope pos) (.lst (xs.flatMap fun a => (ys a).map (rf a))):=by
 have hl : (xs.map vf).length = xs.length:=List.length_map _
 have h9 : ∀ i,(ys (xs.getD i d)).length <= 9:=fun i => by
  by_cases hi : i < xs.length
  ·exact hn _ (getD_mem d hi)
  ·rw [show xs.getD i d = d by simp [List.getD_eq_getElem?_getD,List.getElem?_eq_none (Nat.le_of_not_lt hi)]];exact hd
 have hO : ∀ i,(outL (fun i => (ys (xs.getD i d)).length) (fun z9 z9 => true) (fun i j => rf (xs.getD i d) ((ys (xs.getD i d)).getD j (e (xs.getD i d)))) i).length <= 9 * i:=fun i => by
  induction i with
  | zero => exact Nat.le_refl _
  | succ i ih =>
   have h9' := h9 i
   unfold outL at ih ⊢
   rw [List.range_succ,List.flatMap_append,List.length_append]
   simp only [List.flatMap_cons,List.flatMap_nil,List.append_nil,List.length_map,filter_tt,List.length_range] at ih ⊢
   lia
 have:=PureT.compN2 (pos:=pos) (elt:=elt) (target:=target) (target₂:=target₂) (iter₂:=iter₂) (ifs₂ := []) Z hT nms (Src.lst hh h) S.clos S.cell S.kind S.names S.f S.nd S.dbg S.hcl S.inn (fun i => (ys (xs.getD i d)).length) (fun z9 z9 => true) (fun i j => rf (xs.getD i d) ((ys (xs.getD i d)).getD j (e (xs.getD i d)))) (fun i j => ((ys (xs.getD i d)).map (vf₂ (xs.getD i d))).getD j (.bool false)) (fun i hi => by have:=hO i;have:=h9 i;lia) hf₂ (fun g Cn D i Z hi => by
  rw [getD_map d vf _ (by lia)]
  refine X10 (turn g Cn D (xs.getD i d) Z (getD_mem (l:=xs) d (by lia))) fun Γ₁ c => ?_
  refine ⟨Γ₁,c.asg,c.sub,fun l => ?_,fun j l hj => ?_⟩
  ·have:=Src.lst hh (c.src l)
   rw [List.length_map] at this
   exact this
  ·rw [getD_map (e (xs.getD i d)) _ _ hj]
   exact c.turn l _ (getD_mem _ hj))
 rw [hl,outL_list xs ys d e rf] at this
 exact this
end
section
variable {w : World} {C : Cx} {A : Around} {Γ Γ' Γ₀ : List (Option PV)} {led led' : Led} {s : Shared}
theorem sE_c {c : Const} {k : Nat} {p : Pos} {es : List Expr} {env : Env} : starEach (.Constant c k p :: es) env = (false,eval (.Constant c k p) env) :: starEach es env:=rfl
theorem sE_l {l : List Expr} {p : Pos} {es : List Expr} {env : Env} : starEach (.List l p :: es) env = (false,eval (.List l p) env) :: starEach es env:=rfl
theorem sE_t {l : List Expr} {k : Nat} {p : Pos} {es : List Expr} {env : Env} : starEach (.Tuple l k p :: es) env = (false,eval (.Tuple l k p) env) :: starEach es env:=rfl
theorem le3 {a b c : PV} : [a,b,c].length <= 1000:=Nat.le_of_ble_eq_true rfl
theorem le4 {a b c d : PV} : [a,b,c,d].length <= 1000:=Nat.le_of_ble_eq_true rfl
theorem PureL.dict (Z : CxOk w C) {T : List Addr} (hT : Tabs T led) {kx vx iter : Expr} {x : Str} {px : Pos} {scope : Scope} {pos : Pos} {cl : List (Str × Addr)} {n i0 : Nat} {P : Nat -> PV} (hs : Src w A C Γ led iter n P) (hclos : closureFor scope C.env = pure cl) (hkind : scope.kind = .function)
  (hnames : ∀ y ∈ scope.names,y.2 = .local -> scope.names.lookup y.1 = some .local) (hf : ∀ x,foldedSetIterable iter C.env x = pure x) (nms : List Str) (Γ₀ : List (Option PV)) (nd : nms.Nodup) (dbg : ∀ x ∈ nms,(x == ("__debug__" : Str)) = false)
  (hcl : ∀ q ∈ cl,q ∈ C.env.cells /\ C.env.kindOf q.1 = some .cell)
  (hfree : ∀ (Cn : Addr) (i : Nat) (x : Str) (pv : PV),nms[i]? = some x -> Γ₀[i]? = some (some pv) -> (compEnvC scope (cellsFrom (Cn + 1) scope.names cl) Cn C.env).kindOf x = some .cell /\ C.env.kindOf x = some .cell /\ (∃ c,(cellsFrom (Cn + 1) scope.names cl).lookup x = some c /\ C.env.cells.lookup x = some c) /\ ∃ j : Nat,C.nms[j]? = some x /\ Γ[j]? = some (some pv))
  (hx : Nth nms i0 x) (hΓ : Nth Γ₀ i0 none) (hxk : ∀ Cn,(compEnvC scope (cellsFrom (Cn + 1) scope.names cl) Cn C.env).kindOf x = some .cell) (hxc : ∀ Cn : Addr,(cellsFrom (Cn + 1) scope.names cl).lookup x = some (Cn + 1))
  (ks : Nat -> Str) (F : Nat -> PV) (hn : n <= 1000) (hnd : ((List.range n).map ks).Nodup)
  (key : ∀ (g : Heap) (Cn D : Addr) (i : Nat) (l : List (Str × PV)) Γ₁,CxOk w (C.inner g scope (cellsFrom (Cn + 1) scope.names cl) Cn nms) -> i < n -> Put Γ₀ i0 (P i) Γ₁ -> Pure w A (C.inner g scope (cellsFrom (Cn + 1) scope.names cl) Cn nms) Γ₁ ((D, .dict w l) :: led) kx (.str (ks i)))
  (val : ∀ (g : Heap) (Cn D : Addr) (i : Nat) (l : List (Str × PV)) Γ₁,CxOk w (C.inner g scope (cellsFrom (Cn + 1) scope.names cl) Cn nms) -> i < n -> Put Γ₀ i0 (P i) Γ₁ -> PureT T w A (C.inner g scope (cellsFrom (Cn + 1) scope.names cl) Cn nms) Γ₁ ((D, .dict w l) :: led) vx (F i))
  {kvs : List (Str × PV)} (hkv : (List.range n).map (fun i => (ks i,F i)) = kvs) {b : Addr} {o : Obj} (hb : C.h₀.get? b = some o) (hb1 : sysModules <= b) :
  PureL T w A C Γ led (.DictComp kx vx [⟨.Name x px,iter, [],0⟩] scope pos) fun ld q => ∃ D',ld = (D', .dict w kvs) :: led /\ q = .val (.ref D') /\ D' ≠ sysModules:=fun s Q E a q =>
 (EvC.dict (spos:=firstIterPos [⟨.Name x px,iter, [],0⟩] pos) Z hT hs hclos hkind hnames hf nms Γ₀ nd dbg hcl hfree hx hΓ hxk hxc ks F hn hnd key val).pureL Z (by rw [arm_eval_DictComp];rfl) s Q E a fun v s' led' pv hp rv g a' => by
  refine X12 hp fun D h1 h2 h3 => ?_
  exact q v s' led' pv ⟨D,by rw [h1,hkv],h2,Nat.ne_of_gt (Nat.lt_of_le_of_lt hb1 (h3 b o hb))⟩ rv g a'
theorem Pure.sliceInitA (Z : CxOk w C) {e up : Expr} {p pos : Pos} {l : List PV} {q : PV} (h1 : Pure w A C Γ led e (.lst (l ++ [q]))) (h2 : Pure w A C Γ led up (.int (-1))) (hl : l.length <= 100) : Pure w A C Γ led (.Subscript e (.Slice none (some up) none p) pos) (.lst l) :=
 Pure.sliceA (i:=none) (j:=some (-1)) Z h1 True.intro h2 (by rw [List.length_append];show l.length + 1 <= 1000;lia) (fun vs hv => ⟨0,vs.size - 1,by
  rw [slicePick_plain]
  simp only [Option.elim]
  rw [show (-1 : Int) = -((1 : Nat) : Int) from rfl,clipAt_neg _ 1 (Nat.le_refl _)]
  simp,by
  rw [hv,List.length_append]
  show (List.drop 0 (l ++ [q])).take (l.length + 1 - 1) = l
  simp⟩)
end
section
variable {w : World} {C : Cx} {A : Around} {Γ Γ' Γ'' : List (Option PV)} {led led' : Led} {s : Shared} {T : List Addr}
noncomputable def LawC (w : World) (f P : Addr) (need : Nat) (la : Addr) (ns : List Int) : Prop :=
 ∀ (dp un : Nat) (gd : Option (List Code)) (fr : Option (List Env)) (s : Shared) (R : Result -> Shared -> Prop),dp + need < recursionLimit -> un + 8 * need < cLine -> (hd.heap_1 w.params).In s.heap -> (∃ p loose mean mg mb,Top p loose mean mg mb s.heap) ->
  TabsH [173] s.heap -> s.heap.get? P = some (tabObj #[]) -> (∃ vs : Array Value,s.heap.IsList la vs /\ IntsAre vs.toList ns) ->
  (∀ s',Gr [173,P] s s' -> TabsH [173,P] s'.heap -> (AllBare s.gens -> AllBare s'.gens) -> R (.ok (.ret (.bool true))) s') ->
  codeAny (model vw w) { handled:=none,depth:=dp,frames:=fr,guards:=gd,units:=un } (.call (.ref f) ⟨[.ref la], []⟩) R s
noncomputable def EndsL (P : Addr) (C : Cx) (f : Flow) (s : Shared) : Prop:=f = .ret (.bool true) /\ Ext (hideAll C.h₀ [P]) s.heap /\ C.X s /\ TabsH [173,P] s.heap
theorem LawC.enter {f P la : Addr} {need : Nat} {ns : List Int} (nms : List Str) (rest : List Str) {name qual : Str} {params : Arguments} {body : List Stmt} {scope : Scope} {dV kV doc pm cdv ct oc : Value} {an od : Option Addr} {osl : Array (Option Value)}
  (ho : (hd.heap_1 w.params).lookup f = some ⟨oc,od, .func (fnOf name qual params body scope dV kV doc pm an cdv ct),osl⟩) (hcd : codeIn (hd.heap_1 w.params) cdv qual = true) (hK : noTabs (hd.heap_1 w.params) = true) (hP1 : P ≠ 173)
  (hb : ∀ (s : Shared) (vs : List Value),vs.length = [PV.val (.ref la)].length -> (hd.heap_1 w.params).In s.heap -> BindsTo s (fnOf name qual params body scope dV kV doc pm an cdv ct) ⟨vs, []⟩ (nms.zip vs))
  (hloc : (nms.all fun x => scope.names.lookup x == some .local || scope.names.lookup x == some .cell) = true) (hdb : ((nms ++ rest).all fun x => !(x == ("__debug__" : Str))) = true) (nd : (nms ++ rest).Nodup) (hnd : ((cellsFrom 0 scope.names []).map (·.1)).Nodup)
  (hco : scope.isCoroutine = false) (hgen : scope.isGenerator = false) (hk : scope.kind = .function) (hlen : nms.length = [PV.val (.ref la)].length)
  (run : ∀ (C : Cx) (A : Around) (L : Addr),CxOk w C -> C.env = envOfC qual scope L f cdv -> C.nms = nms ++ rest -> Around.ok A need -> (∀ T,XOk T C) -> C.M₀ = [] -> C.h₀.get? P = some (tabObj #[]) -> (∃ vs : Array Value,C.h₀.IsList la vs /\ IntsAre vs.toList ns) -> Run w A C ([PV.val (.ref la)].map some ++ List.replicate rest.length none) [(173,LO.tab)] body (EndsL P C)) : LawC w f P (need + 1) la ns:=by
 intro dp un gd fr s R hdp hun KX TX hP h226 hls hret
 have ra : Reps s.heap [] [PV.val (.ref la)] [Value.ref la]:=.cons (.val _) .nil
 have hls' : ∃ vs : Array Value,(hideAll s.heap [173]).IsList la vs /\ IntsAre vs.toList ns:=by
  refine X11 hls fun vs0 q1 hi => X12 q1 fun o e hc hd => ?_
  refine ⟨vs0,⟨o,hideAll_get _ e fun z => ?_,hc,hd⟩,hi⟩
  refine X11 (hP 173 List.mem_cons_self) fun ps e2 _ => ?_
  rw [List.mem_singleton.mp z,e2] at e
  obtain rfl:=Option.some.inj e;exact Value.noConfusion hc
 clear hls
 generalize [PV.val (.ref la)] = args at ra hb hlen run
 generalize [Value.ref la] = vs at ra ⊢
 have hM : ∀ b ∈ ([] : List Addr), ∃ o,s.heap.get? b = some o:=fun b hb => nomatch hb
 refine X50 (id TX) fun p loose mean mg mb Tp => ?_
 have hvl:=ra.length
 have ndn : nms.Nodup:=nd.sublist (List.sublist_append_left _ _)
 have hl : ∀ x ∈ nms,scope.names.lookup x = some .local \/ scope.names.lookup x = some .cell:=fun x hx => by
  have:=List.all_eq_true.mp hloc x hx
  rw [Bool.or_eq_true,beq_iff_eq,beq_iff_eq] at this
  exact this
 have hz1 : ((nms.zip vs).map (·.1)).Nodup:=ndn.sublist (zip_sub nms vs)
 refine con_enterC (binds:=nms.zip vs) KX Tp ho hcd (by dsimp only;lia) (hb s vs hvl KX) (List.all_eq_true.mpr fun y hy => ?_) hnd (fun L' h₁ tk cells F N Y => ?_) hco hgen hk
 ·have:=List.all_eq_true.mp hloc y.1 (List.of_mem_zip hy).1
  exact this
 have hL0 : s.heap.get? L' = none:=Heap.get?_none_of_le F.above
 have hsub : ∀ b o,(hideAll s.heap [173]).get? b = some o -> s.heap.get? b = some o:=fun b o e => of_hideAll _ e
 refine Y2 (hideTs hK (Ts := [173]) (by simp) (fun t ht => (hP t ht).imp fun _ e => e.1) KX TX) fun K1 T1 => ?_
 let M₀ : List Addr := []
 have Z : CxOk w ⟨hideAll s.heap [173],M₀,envOfC qual scope L' f cdv,nms ++ rest,fun s' => (AllBare s.gens -> AllBare s'.gens) /\ s'.os = s.os⟩ :=
  ⟨fun _ _ _ x => x,hk,nd,fun x hx => by simpa using List.all_eq_true.mp hdb x hx,K1,T1,rfl,rfl,noneSub hsub hL0,(fun b hb => nomatch hb),fun x c h1 h2 => ⟨noneSub hsub (cellsAt Y N h1).2,fun y c' h3 h4 => apart_of (cellsFrom_apart scope.names (L' + 1) [] (fun _ h => nomatch h) .nil) h3 h1 h4⟩⟩
 have rr : ∀ {pv : PV} {v : Value},Rep s.heap [] pv v -> Rep h₁ (M₀ ++ [((173 : Addr),LO.tab)].map (·.1)) pv v:=fun r => r.keepS (Ext.sk F.keep) fun b o e q m z => by
  have z : b ∈ [(173 : Addr)]:=z
  refine X11 (hP b z) fun ps e2 _ => ?_
  rw [e] at e2
  obtain rfl:=Option.some.inj e2;exact nB q
 have neL : ∀ t ∈ [(173 : Addr)],t ≠ L' := fun t ht z => by
  refine X11 (hP t ht) fun ps e2 _ => ?_
  rw [z,hL0] at e2;exact nS e2
 refine wpAny_mono (run _ _ L' Z rfl rfl ⟨rfl, ?_, ?_⟩ (fun T s' h k gs d hne x e => ⟨fun z => e (x.1 z),x.2⟩) rfl (hideAll_get _ h226 fun z => hP1 (List.mem_singleton.mp z)) hls' _ ⟨⟨_,F.ns,fun i x pv h1 h2 => ?_⟩,fun b o e => F.keep b o (hsub b o e),(fun q hq => ?_),(by simp),(fun x c h1 h2 => ⟨_,(cellsAt Y N h1).1⟩),(fun q hq => ?_),id,rfl⟩) (fun fl s' he => ?_) fun _ _ e => e
 ·dsimp only [Around.deeper];lia
 ·dsimp only [Around.deeper];lia
 ·have hi : i < args.length:=by
   rw [List.getElem?_append] at h2
   split at h2
   ·rename_i hi;simpa using hi
   ·rw [List.getElem?_replicate] at h2
    split at h2 <;> cases h2
  rw [List.getElem?_append_left (by simpa using hi),List.getElem?_map,Option.map_eq_some_iff] at h2
  refine X11 h2 fun pv' h3 h4 => ?_
  obtain rfl:=Option.some.inj h4
  refine X11 (ra.at h3) fun v h5 h6 => ?_
  rw [show (⟨hideAll s.heap [173],M₀,envOfC qual scope L' f cdv,nms ++ rest,fun s' => (AllBare s.gens -> AllBare s'.gens) /\ s'.os = s.os⟩ : Cx).nms = nms ++ rest from rfl,List.getElem?_append_left (by lia)] at h1
  have hz : (x,v) ∈ nms.zip vs:=List.mem_of_getElem? (i:=i) (by rw [List.getElem?_zip_eq_some];exact ⟨h1,h5⟩)
  refine ⟨v, ?_,rr h6⟩
  refine Or.elim (hl x (List.mem_of_getElem? h1)) (fun k => ?_) fun k => ?_
  ·exact .inl ⟨k,bindL_at k hz1 hz⟩
  ·refine X10 (Option.isSome_iff_exists.mp (cellsFrom_some scope.names (L' + 1) [] (.inl k))) fun c hc => ?_
   refine .inr ⟨.inl k,c,hc, ?_⟩
   have:=(cellsAt Y N (mem_of_lookup hc)).1
   rw [bindC_at (fun z => by rw [show (envOfC qual scope L' f cdv).kindOf x = scope.names.lookup x from rfl,k] at z;cases z) hz1 hz] at this
   exact this
 ·rw [List.mem_singleton.mp hq]
  refine X11 (hP 173 List.mem_cons_self) fun ps e k => ?_
  exact ⟨hideAll_none _ List.mem_cons_self,_,F.keep _ _ e,ps,rfl,k⟩
 ·rw [List.mem_singleton.mp hq]
  exact neL 173 List.mem_cons_self
 ·refine Y4 he fun q1 ex q2 x3 => Y2 q2 fun x1 x2 => ?_;subst q1
  exact hret s' ⟨fun b o hb e => ex b o (hideAll_get _ (hideAll_get _ e fun z => hb (by rw [List.mem_singleton.mp z];exact List.mem_cons_self)) fun z => hb (by rw [List.mem_singleton.mp z];exact List.mem_cons_of_mem _ List.mem_cons_self)),(fun z => nomatch z),(fun z => nomatch z),x2⟩ x3 x1
end
theorem words_Lw : True:=by
 k_with "l" => exact ⟨rfl,rfl,rfl,rfl,fun _ => rfl,(by decide),(by decide),(by k_extra "v"),(by k_extra "x")⟩
 trivial
section
variable {w : World}
theorem f_law (la : Addr) (ns : List Int) (hl : ns.length <= 63) : LawC w 229 226 20 la ns:=by
 refine' LawC.enter [Str.ofString "script"] [Str.ofString "numbers",Str.ofString "total",Str.ofString "two",Str.ofString "brackets",Str.ofString "rows",Str.ofString "ahead",Str.ofString "behind",Str.ofString "text",Str.ofString "many",Str.ofString "read",Str.ofString "pairs",Str.ofString "fronts",Str.ofString "told",Str.ofString "less",Str.ofString "j",Str.ofString "k",Str.ofString "both",Str.ofString "octets",Str.ofString "due",Str.ofString "compared",Str.ofString "order"] ?ho ?hcd ?hK ?hP ?hb ?hloc ?hdb ?nd ?hnd ?hco ?hgen ?hk ?hlen ?run
 case ho | hcd => k_is
 case hK => exact noTabsK w
 case hP => decide
 case hb =>
  intro s vs hv KX
  refine X10 (len1 hv) fun v0 q1 => ?_;subst q1
  exact BindsTo.of_eq rfl
 case hloc | hdb | nd | hnd => decide +kernel
 case hco | hgen | hk | hlen => rfl
 intro C A L Z he hn hA hX hM0 h226 hls
 obtain ⟨vs0,hls1,hls2⟩ := hls
 obtain ⟨h₀,M₀,env,nms,X⟩ := C
 dsimp only [List.cons_append,List.nil_append] at he hn
 subst he hn
 dsimp only [List.map,List.replicate,List.cons_append,List.nil_append,List.length]
 with_reducible refine' Run.let2g Z hA.1 (p:=.lst ((lawX ns).map .int)) (q:=.int (ns.take 4).sum) (.cons (Pure.eqv (Pure.binop Z (Pure.takeV (k:=4) Z 4 ?a1 hls1 hls2 ?b1 rfl ?c1 ?d1) (Pure.list Z (.cons ?e1 ?e1s (.cons ?f1 ?f1s (.cons ?g1 ?g1s (.cons ?h1 ?h1s (.cons ?i1 ?i1s (.cons ?j1 ?j1s .nil)))))) ?k1) (oAddL ?l1)) ?m1) ?n1 (.cons (Pure.call Z ?o1 ?p1 (.cons (Pure.takeV (k:=4) Z 4 ?q1 hls1 hls2 ?r1 rfl ?s1 ?t1) ?v1 .nil) (gSum hA.1)) ?w1 .nil)) ?x1 ?y1 ?z1 ?a2 ?b2 ?c2 ?d2 ?e2 ?f2
 case a1 | b1 => k_extra "p"
 case c1 => lia
 case d1 => k_extra "u"
 case e1 => k_extra "p"
 case e1s => rfl
 case f1 => k_extra "p"
 case f1s => rfl
 case g1 => k_extra "p"
 case g1s => rfl
 case h1 => k_extra "p"
 case h1s => rfl
 case i1 => k_extra "p"
 case i1s => rfl
 case j1 => k_extra "p"
 case j1s => rfl
 case k1 => exact Nat.le_of_ble_eq_true rfl
 case l1 =>
  rw [List.length_map,List.length_take]
  show min 4 ns.length + 6 <= 1000
  lia
 case m1 =>
  unfold lawX
  rw [List.map_append]
  rfl
 case n1 => rfl
 case o1 => k_extra "n"
 case p1 => k_extra "k"
 case q1 | r1 => k_extra "p"
 case s1 => lia
 case t1 => k_extra "u"
 case v1 | w1 => rfl
 case x1 | y1 => k_extra "g"
 case z1 | a2 => k_extra "s"
 case b2 | c2 => k_extra "q"
 case d2 | e2 => rfl
 have hm2 : (ns.take 4).sum.fmod 2 = 0 \/ (ns.take 4).sum.fmod 2 = 1:=by
  rw [Int.fmod_eq_emod_of_nonneg _ (by decide)]
  lia
 with_reducible refine' Run.letTup (T := []) (pv:=.tup [.str (lawTw (lawB2 ns)), .lst ((lawBr (lawB2 ns)).map .str)]) Z ?hz2 (Asg.pairS Z hA.1 ?a1q2 ?a2q2 ?a3 ?a4 ?a5 ?a6 ?a7) ?hsz2 ?hwz2 ?rz2
 case a1q2 => k_extra "g"
 case a2q2 => k_extra "s"
 case a3 => k_extra "q"
 case a4 => k_extra "g"
 case a5 => k_extra "s"
 case a6 => k_extra "q"
 case a7 | hsz2 | hwz2 => rfl
 case hz2 =>
  with_reducible refine Pure.toT ?_
  with_reducible refine Pure.itemA Z (Pure.list Z (.cons (Pure.tuple Z (.cons (Pure.str Z) sE_c (.cons (Pure.list Z (.cons (Pure.str Z) sE_c (.cons (Pure.str Z) sE_c (.cons (Pure.str Z) sE_c .nil))) le3) sE_l .nil)) le2) sE_t (.cons (Pure.tuple Z (.cons (Pure.str Z) sE_c (.cons (Pure.list Z (.cons (Pure.str Z) sE_c (.cons (Pure.str Z) sE_c (.cons (Pure.str Z) sE_c (.cons (Pure.str Z) sE_c .nil)))) le4) sE_l .nil)) le2) sE_t .nil)) le2) (Pure.binop Z (by k_extra "p") (by k_extra "p") (oMod (by decide))) (by lia) ?_ le2 ?hsqz2
  case hsqz2 => k_extra "u"
  unfold lawTw lawBr lawB2
  rcases hm2 with e | e <;> rw [e] <;> rfl
 have lA:=lawA_eq (ns.take 4).sum
 have lC:=lawC_eq (ns.take 4).sum
 have lX : 6 <= (lawX ns).length /\ (lawX ns).length <= 10:=by
  unfold lawX
  rw [List.length_append,List.length_take]
  show 6 <= min 4 ns.length + 6 /\ min 4 ns.length + 6 <= 10
  lia
 with_reducible refine' Run.let3g Z hA.1 (p:=.lst (((lawX ns).map octs).map .bytes)) (q:=.int (lawA (ns.take 4).sum)) (o:=.int (lawC (ns.take 4).sum)) (.cons ?e1q3 ?s1q3 (.cons ?e2q3 ?s2 (.cons ?e3 ?s3 .nil))) ?n1q3 ?n2 ?n3 ?k1q3 ?k2 ?k3 ?p1q3 ?p2 ?p3 ?hsq3z3 ?hwq3z3 ?rq3
 case s1q3 | s2 | s3 => rfl
 case n1q3 | n2 | n3 => k_extra "g"
 case k1q3 | k2 | k3 => k_extra "s"
 case p1q3 | p2 | p3 => k_extra "q"
 case hsq3z3 | hwq3z3 => rfl
 case e1q3 =>
  with_reducible refine' Pure.eqv (PureT.toPure (PureT.mapA Z noT hA.1 [Str.ofString "x"] ?csz3 0 (lawX ns) .int (fun x => .bytes (octs x)) ?hq3z3 ?hnz3 ?turnz3)) ?ez3
  case csz3 => k_extra "l"
  case hq3z3 => k_extra "p"
  case hnz3 => lia
  case ez3 => rw [List.map_map];rfl
  case turnz3 =>
   intro g Cn D l a Z ha
   exact CTurn.one Z .zero rfl .zero .zero rfl fun z9 => Pure.toT (Pure.call Z (by k_extra "n") (by k_extra "k") (.cons (by k_extra "p") rfl .nil) (toFn (f_octets a) (okA hA (by decide))))
 case e2q3 =>
  with_reducible refine Pure.eqv ?h3a (congrArg PV.int lA.1)
  k_extra "p"
 case e3 =>
  with_reducible refine Pure.eqv ?h3b (congrArg PV.int lC.1)
  k_extra "p"
 clear hm2
 have hR : ∀ r ∈ (lawX ns).map octs,okR r:=fun r hr => by
  refine X11 (List.mem_map.mp hr) fun x _ q2 => ?_;subst q2
  exact octs_ok x
 have nR : 6 <= ((lawX ns).map octs).length /\ ((lawX ns).map octs).length <= 10:=by rw [List.length_map];exact lX
 generalize (lawX ns).map octs = R at hR nR
 generalize lawB2 ns = b
 generalize lawA (ns.take 4).sum = m at lA
 generalize lawC (ns.take 4).sum = n at lC
 have lA:=lA.2
 have lC:=lC.2
 with_reducible refine' Run.letG (T := []) (pv:=.str (mkS (lawLn b R m n))) Z ?h4 ?x4 ?k4 ?p4 ?s4 ?r4
 case x4 => k_extra "g"
 case k4 => k_extra "s"
 case p4 => k_extra "q"
 case s4 => rfl
 case h4 =>
  have e1 : (List.replicate m 32).length = m:=List.length_replicate
  have e2:=flat_len b R hR
  have e3 : (List.replicate n 32).length = n:=List.length_replicate
  with_reducible refine' Pure.toT (Pure.binop Z (Pure.binop Z (a:=.str (mkS (List.replicate m 32))) (b:=.str (mkS (R.map (wdOf b)).flatten)) (Pure.binop Z (Pure.str Z) ?haz4 ?o1q4) (Pure.meth Z (Pure.str Z) mJoin (.cons ?c4 rfl .nil) ?g4 ?hez4) ?o2) (Pure.binop Z (b:=.int n) (c:=.str (mkS (List.replicate n 32))) (Pure.str Z) ?hbz4 ?o3) ?o4)
  case haz4 | hbz4 => k_extra "p"
  case o1q4 => exact oMulS (by decide) (by lia) (by lia) (mulSp m lA.2)
  case o3 => exact oMulS (by decide) (by lia) (by lia) (mulSp n lC.2)
  case c4 =>
   with_reducible refine' PureT.toPure (PureT.mapA Z noT hA.1 [Str.ofString "row",Str.ofString "two"] ?cs4 #[] R .bytes (fun r => .str (mkS (wdOf b r))) ?h4b ?hn4 ?turn4)
   case cs4 => k_extra "l"
   case h4b => k_extra "p"
   case hn4 => lia
   case turn4 =>
    intro g Cn D l r Z hr
    have ho:=hR r hr
    obtain ⟨ho1,ho3⟩ := id ho
    refine CTurn.one Z .zero rfl .zero .zero rfl fun z9 => Pure.toT ?_
    with_reducible refine' Pure.call Z ?f1q4 ?f2q4 (.cons (Pure.call Z ?f3 ?f4 (.cons ?f5 ?f5s (.cons (Pure.meth Z ?f6 mEnc (.cons (Pure.str Z) ?f8s .nil) (gEnc (b:=altB b) (enc_tw b) ?f7) ?f8) ?f9s .nil)) (toFn (f_b64encode r (altB b) ho3 ho1 (altB_size b)) (okA hA (by decide)))) ?f4s (.cons (Pure.str Z) ?f10s .nil)) (gStr_wd b r ho)
    case f1q4 => k_extra "n"
    case f2q4 => k_extra "k"
    case f3 => k_extra "n"
    case f4 => k_extra "k"
    case f5 => k_extra "p"
    case f5s => rfl
    case f6 => k_extra "p"
    case f8s => rfl
    case f7 => rw [altB_size];decide
    case f8 => exact ⟨_,rfl⟩
    case f9s | f4s | f10s => rfl
  case g4 =>
   rw [show R.map (fun r => PV.str (mkS (wdOf b r))) = ((R.map (wdOf b)).map mkS).map PV.str by rw [List.map_map,List.map_map];rfl]
   refine gJoin (by decide) ?_ (join_mk _)
   rw [List.map_map,show ((fun x => x.length) ∘ mkS : List Nat -> Nat) = List.length from funext len_mkS, <- List.length_flatten,e2,List.length_map,List.length_map]
   lia
  case hez4 => exact ⟨_,rfl⟩
  case o2 => exact oAddS (by rw [len_mkS,len_mkS];lia) (mk_app _ _)
  case o4 => exact oAddS (by rw [len_mkS,len_mkS,List.length_append];lia) (by rw [mk_app];rfl)
 have hln:=ln_len b R m n hR
 with_reducible refine' Run.for_ Z (Src.range1 Z hA.1 ?f5a (.cons ?f5b ?f5c .nil) (n:=m + n + 2) ?f5d ?f5e) (fun i Γ led => ∃ o : Option PV,Γ = [some (.val (.ref la)),some (.lst ((lawX ns).map .int)),some (.int (ns.take 4).sum),some (.str (lawTw b)),some (.lst ((lawBr b).map .str)),some (.lst (R.map .bytes)),some (.int m),some (.int n),some (.str (mkS (lawLn b R m n))),o,none,none,none,none,none,none,none,none,none,none,none,none] /\ led = [(173,LO.tab)]) ⟨_,rfl,rfl⟩ ?f5f ?turn5 ?done5
 case f5a => k_extra "n"
 case f5b => k_extra "p"
 case f5c => rfl
 case f5d => rw [Int.natCast_add,Int.natCast_add];rfl
 case f5e => lia
 case f5f => exact fun z9 => rfl
 case turn5 =>
  rintro i Γ₁ led₁ g hi ⟨o,rfl,rfl⟩ Z ex
  refine ⟨_,Asg.set Z (by k_extra "g") (by k_extra "s") (by k_extra "q"), ?_⟩
  have hz : (mkS (lawLn b R m n)).length <= 1000:=by rw [len_mkS];lia
  with_reducible refine' Run.ifF (Test.as (Test.cmp Z (Pure.call Z ?g5a ?g5b (.cons ?g5c ?g5d (.cons ?g5e ?g5f .nil)) (toFn (f_stripL b R m n i hR ?g5g nR.2 lA.2 lC.2) ?g5h)) (Pure.sliceS (i:=some (if (m : Int) < (i : Int) then (m : Int) else (i : Int))) (j:=some (((mkS (lawLn b R m n)).length : Int) - (if (0 : Int) > (if (n : Int) < (i : Int) - (m : Int) then (n : Int) else (i : Int) - (m : Int)) then (0 : Int) else (if (n : Int) < (i : Int) - (m : Int) then (n : Int) else (i : Int) - (m : Int))))) (y:=Txt.slice (mkS (lawLn b R m n)) (some ((min i m : Nat) : Int)) (some (((mkS (lawLn b R m n)).length : Int) - (min (i - min i m) n : Nat)))) Z ?g5i ?g5j ?g5k ?g5l ?g5m ?g5n) oNeS) ?g5o) (Run.done ?g5p)
  case g5a => k_extra "n"
  case g5b => k_extra "k"
  case g5c => k_extra "p"
  case g5d => rfl
  case g5e => k_extra "p"
  case g5f => rfl
  case g5g => lia
  case g5h => exact okA hA (by decide)
  case g5i => k_extra "p"
  case g5j =>
   show Pure w A _ _ _ _ _
   with_reducible refine' Pure.call Z ?h5a ?h5b (.cons ?h5c ?h5d (.cons ?h5e ?h5f .nil)) (gMin hA.1)
   case h5a => k_extra "n"
   case h5b => k_extra "k"
   case h5c => k_extra "p"
   case h5d => rfl
   case h5e => k_extra "p"
   case h5f => rfl
  case g5k =>
   show Pure w A _ _ _ _ _
   with_reducible refine' Pure.binop Z (Pure.call Z ?h5g ?h5h (.cons ?h5i ?h5j .nil) (gLenS ?h5k)) (Pure.call Z ?h5l ?h5m (.cons (Pure.call Z ?h5n ?h5o (.cons ?h5p ?h5q (.cons ?h5r ?h5s .nil)) (gMin hA.1)) ?h5t (.cons (Pure.int Z) ?h5u .nil)) (gMax hA.1)) oSub
   case h5g => k_extra "n"
   case h5h => k_extra "k"
   case h5i => k_extra "p"
   case h5j => rfl
   case h5k => rw [sizeLine_eq];lia
   case h5l => k_extra "n"
   case h5m => k_extra "k"
   case h5n => k_extra "n"
   case h5o => k_extra "k"
   case h5p => k_extra "p"
   case h5q => rfl
   case h5r => k_extra "p"
   case h5s | h5t | h5u => rfl
  case g5l => rw [sizeLine_eq];lia
  case g5m =>
   have e1 : (if (m : Int) < (i : Int) then (m : Int) else (i : Int)) = ((min i m : Nat) : Int):=by split <;> lia
   have e2 : (if (0 : Int) > (if (n : Int) < (i : Int) - (m : Int) then (n : Int) else (i : Int) - (m : Int)) then (0 : Int) else (if (n : Int) < (i : Int) - (m : Int) then (n : Int) else (i : Int) - (m : Int))) = ((min (i - min i m) n : Nat) : Int):=by
    repeat' split
    all_goals lia
   rw [e1,e2]
  case g5n => k_extra "u"
  case g5o => rw [bne_self_eq_false]
  case g5p => exact Run.finF ⟨_,rfl,rfl⟩
 rintro Γ₁ led₁ ⟨o,rfl,rfl⟩
 with_reducible refine' Run.letG (T := [173]) (pv:=.lst (R.map (wS b))) Z ?h6 ?x6 ?k6 ?p6 ?s6 ?r6
 case x6 => k_extra "g"
 case k6 => k_extra "s"
 case p6 => k_extra "q"
 case s6 => rfl
 case h6 =>
  have hc:=f_cut (w:=w) (mkS (R.map (wdOf b)).flatten) R.length (by rw [len_mkS,flat_len b R hR]) (by lia)
  rw [cut_ln b R hR] at hc
  have hs:=f_stripL (w:=w) b R m n (m + n) hR (by lia) nR.2 lA.2 lC.2
  rw [slice_ln b R m n hR] at hs
  with_reducible refine' PureT.callG Z (hX [173]) (List.cons_ne_nil _ _) hc ?a6q6 tab1 ?b6 ?c6 (.cons (Pure.call Z ?d6 ?e6 (.cons ?f6q6 ?g6 (.cons ?i6 ?j6 .nil)) (toFn hs ?l6)) ?m6 .nil)
  case a6q6 => exact okA hA (by decide)
  case b6 => k_extra "n"
  case c6 => k_is
  case d6 => k_extra "n"
  case e6 => k_extra "k"
  case f6q6 => k_extra "p"
  case g6 => rfl
  case i6 =>
   rw [Int.natCast_add]
   k_extra "p"
  case j6 => rfl
  case l6 => exact okA hA (by decide)
  case m6 => rfl
 have hu0 : A.units < cLine:=Nat.lt_of_le_of_lt (Nat.le_add_right _ _) hA.2.2
 with_reducible refine' Run.ifF (Test.orR (Test.cmp Z (b:=.lst (R.map (wS b))) ?a7q7 ?b7 ?c7) (Test.cmp Z (a:=.lst (R.map .bytes)) ?d7 ?e7 (oNeBL hu0))) (Run.done ?r7)
 case a7q7 => k_extra "p"
 case c7 => rw [rd_eq];exact oNeSL hu0
 case e7 => k_extra "p"
 case b7 =>
  with_reducible refine' PureT.toPure (PureT.mapA Z noT hA.1 [Str.ofString "row",Str.ofString "two"] ?f7q7 #[] R .bytes (wS b) ?g7 ?h7 ?i7)
  case f7q7 => k_extra "l"
  case g7 => k_extra "p"
  case h7 => lia
  case i7 =>
   intro g Cn D l r Z hr
   refine CTurn.one Z .zero rfl .zero .zero rfl fun z9 => Pure.toT ?_
   with_reducible refine' Pure.call Z ?j7 ?k7 (.cons ?l7 ?m7 (.cons ?n7 ?o7 .nil)) (toFn (f_lawb64 b r (hR r hr)) ?p7)
   case j7 => k_extra "n"
   case k7 => k_extra "k"
   case l7 => k_extra "p"
   case m7 => rfl
   case n7 => k_extra "p"
   case o7 => rfl
   case p7 => exact okA hA (by decide)
 case d7 =>
  with_reducible refine' PureT.toPure (PureT.mapA Z noT hA.1 [Str.ofString "word",Str.ofString "two"] ?q7 #[] R (wS b) .bytes ?s7 ?t7 ?u7)
  case q7 => k_extra "l"
  case s7 => k_extra "p"
  case t7 => lia
  case u7 =>
   intro g Cn D l r Z hr
   refine CTurn.one Z .zero rfl .zero .zero rfl fun z9 => Pure.toT ?_
   with_reducible refine' Pure.call Z ?v7 ?w7 (.cons ?x7 ?y7 (.cons (Pure.meth Z ?z7 mEnc (.cons (Pure.str Z) ?a7s .nil) (gEnc (b:=altB b) (enc_tw b) ?b7s) ?c7s) ?d7s .nil)) (toFn (f_dec b r (hR r hr)) ?e7s)
   case v7 => k_extra "n"
   case w7 => k_extra "k"
   case x7 => k_extra "p"
   case y7 => rfl
   case z7 => k_extra "p"
   case a7s => rfl
   case b7s => rw [altB_size];decide
   case c7s => exact ⟨_,rfl⟩
   case d7s => rfl
   case e7s => exact okA hA (by decide)
 have hml : (R.map PV.bytes).length = R.length:=List.length_map _
 have hpl : ∀ i,i <= R.length -> (outL (fun i => i) (fun z9 z9 => true) (fun i j => PV.tup [.int (j : Nat), .int (i : Nat)]) i).length + i <= 1000:=fun i hi => by
  rw [outL_prs,List.length_map]
  have:=prs_len i (by lia)
  lia
 with_reducible refine' Run.letC (T := []) Z (EvC.compN2 Z noT [Str.ofString "j",Str.ofString "k"] (Src.range1 (n:=R.length) Z hA.1 ?a8 (.cons (Pure.call Z ?b8 ?c8 (.cons ?d8 ?e8 .nil) (gLenL ?f8q8)) ?g8 .nil) ?h8 ?i8) ?j8 ?k8 ?l8 ?m8 ?n8 ?o8 ?p8 ?q8 ?r8 (fun i => i) (fun z9 z9 => true) (fun i j => .tup [.int (j : Nat), .int (i : Nat)]) (fun _ j => .int (j : Nat)) hpl ?s8 ?t8) ?u8 ?v8 ?w8 ?x8 ?y8
 case x8 => exact fun u => rfl
 case a8 | b8 => k_extra "n"
 case c8 => k_extra "k"
 case d8 => k_extra "p"
 case e8 => rfl
 case f8q8 => lia
 case g8 => rfl
 case h8 => rw [hml]
 case i8 => lia
 case j8 | k8 | l8 | m8 => rfl
 case n8 => exact fun z9 => rfl
 case o8 | p8 => decide
 case q8 => k_extra "v"
 case r8 => k_extra "x"
 case s8 => exact fun z9 z9 => rfl
 case u8 => k_extra "g"
 case v8 | w8 => rfl
 case t8 =>
  intro g Cn D i Z hi
  refine ⟨_,fun l => AsgB.nm Z (.succ .zero) rfl (.succ .zero),Put.sub (.succ .zero) (.succ .zero),fun l => ?_,fun j l hj => ?_⟩
  ·with_reducible refine' Src.range1 Z hA.1 ?z8 (.cons ?a8s ?b8s .nil) rfl ?c8s
   case z8 => k_extra "n"
   case a8s => k_extra "p"
   case b8s => rfl
   case c8s => lia
  ·refine CTurn.one Z .zero rfl .zero .zero rfl fun z9 => Pure.toT ?_
   with_reducible refine' Pure.tuple Z (.cons ?d8s ?e8s (.cons ?f8sq8 ?g8s .nil)) le2
   case d8s => k_extra "p"
   case e8s => rfl
   case f8sq8 => k_extra "p"
   case g8s => rfl
 rintro led' pv ⟨rfl,rfl⟩
 refine ⟨_,by k_extra "q", ?_⟩
 rw [outL_prs]
 have prl:=prs_len R.length nR.2
 have hrl : (R.map (wS b)).length <= 1000:=by rw [List.length_map];lia
 have hfl : ((prs R.length).filter (dif b R)).length <= 45:=Nat.le_trans (List.length_filter_le _ _) prl
 with_reducible refine' Run.letX (T := [173]) Z (PureX.sortedSet (ns:=((prs R.length).filter (dif b R)).map fun p => mkS (frL b R p)) Z hA.1 (hX [173]) (List.cons_ne_nil _ _) tab1 ?a9 ?b9 ?c9 ?d9 ?e9) ?f9 ?g9 ?h9 ?i9
 case a9 | b9 => k_extra "n"
 case d9 => rw [List.length_map];lia
 case e9 => rfl
 case f9 => k_extra "g"
 case g9 => k_extra "s"
 case h9 => rfl
 case c9 =>
  rw [show (((prs R.length).filter (dif b R)).map fun p => mkS (frL b R p)).map PV.str = ((prs R.length).filter (dif b R)).map fun p => PV.str (mkS (frL b R p)) from List.map_map]
  with_reducible refine' PureT.mapF Z tab1 hA.1 [Str.ofString "j",Str.ofString "k",Str.ofString "read"] ?j9 (0,0) (prs R.length) prV (fun p => .str (mkS (frL b R p))) (dif b R) ?k9 ?l9 ?m9
  case j9 => k_extra "l"
  case k9 => k_extra "p"
  case l9 => lia
  case m9 =>
   intro g Cn D l p Z hp
   have hp2:=(mem_prs.mp hp).2
   have hp1 : p.1 < R.length:=Nat.lt_trans (mem_prs.mp hp).1 hp2
   refine CTurn.pair Z hA.1 .zero rfl .zero .zero (.succ .zero) rfl (.succ .zero) (.succ .zero) rfl ?_ fun z9 => Pure.toT ?_
   ·show Test w A _ _ _ _ _
    with_reducible refine' Test.as (Test.cmp Z (Pure.itemA Z ?n9 ?o9 (Int.natCast_nonneg _) (rdAt b R hp1) hrl ?p9) (Pure.itemA Z ?q9 ?r9 (Int.natCast_nonneg _) (rdAt b R hp2) hrl ?s9) oNeS) ?t9
    case n9 | o9 => k_extra "p"
    case p9 => k_extra "u"
    case q9 | r9 => k_extra "p"
    case s9 => k_extra "u"
    case t9 =>
     show (cs (mkS _) != cs (mkS _)) = _
     rw [cs_mkS,cs_mkS]
     rfl
   ·with_reducible refine' Pure.call Z ?u9 ?v9 (.cons (Pure.itemA Z ?w9 ?x9 (Int.natCast_nonneg _) (rdAt b R hp1) hrl ?y9) ?z9 (.cons (Pure.itemA Z ?a9s ?b9s (Int.natCast_nonneg _) (rdAt b R hp2) hrl ?c9s) ?d9s .nil)) (toFn (f_front (wi b R p.1) (wi b R p.2) (wi_ok b R hR hp1) (wi_ok b R hR hp2)).fn ?e9s)
    case u9 => k_extra "n"
    case v9 => k_extra "k"
    case w9 | x9 => k_extra "p"
    case y9 => k_extra "u"
    case z9 => rfl
    case a9s | b9s => k_extra "p"
    case c9s => k_extra "u"
    case d9s => rfl
    case e9s => exact okA hA (by decide)
 intro pv hq0
 refine byG fun G kG => ?_
 refine X12 hq0 fun fr q1 hfm q8 => Y2 q8 fun hfl2 hfn => ?_;subst q1
 refine kG ?_;clear kG G
 refine ⟨_,by k_extra "q", ?_⟩
 refine X12 (fronts_ex b R hfm hfn (by rw [List.length_map] at hfl2;lia)) fun F q1 hF1 q8 => Y2 q8 fun hF2 hF3 => ?_;subst q1
 clear hfm hfl2 hfn hfl
 have hFg:=fr_good b R hR hF3
 have hfl : ((F.map mkS).map PV.str).length = F.length:=by rw [List.length_map,List.length_map]
 have hgd : ∀ i,i < F.length -> ((F.map mkS).map PV.str).getD i (.bool false) = .str (mkS (F.getD i [])):=fun i hi => by
  rw [List.map_map]
  exact getD_map [] (PV.str ∘ mkS) _ hi
 have hbl:=br_len b
 with_reducible refine' Run.letC (T := [173]) Z (EvC.dict Z tab1 (Src.lst hA.1 ?a10) ?b10 ?c10 ?d10 ?e10 [Str.ofString "front",Str.ofString "brackets"] [none,some (.lst ((lawBr b).map .str))] ?f10 ?g10 ?h10 ?i10 (i0:=0) ?j10 ?k10 ?l10 ?m10 (fun i => mkS (F.getD i [])) (fun i => toldV b (F.getD i [])) ?n10 ?o10 ?p10 ?q10) ?u10 ?v10 ?w10 ?x10 ?y10
 case x10 => exact fun u => rfl
 case u10 => k_extra "g"
 case v10 | w10 => rfl
 case a10 => k_extra "p"
 case b10 | c10 => rfl
 case d10 => decide
 case e10 => exact fun z9 => rfl
 case f10 | g10 => decide
 case h10 => k_extra "v"
 case i10 =>
  intro Cn i x pv h1 h2
  match i,h1,h2 with
  | 1,h1,h2 =>
   obtain rfl:=Option.some.inj h1;cases h2
   exact ⟨rfl,rfl,⟨_,rfl,rfl⟩,4,rfl,rfl⟩
 case j10 => exact .zero
 case k10 => exact .zero
 case l10 => exact fun z9 => rfl
 case m10 => exact fun z9 => rfl
 case n10 => lia
 case o10 =>
  rw [hfl,show (List.range F.length).map (fun i => mkS (F.getD i [])) = F.map mkS by
   have:=congrArg (List.map mkS) (range_getD F [] F.length rfl)
   rw [List.map_map] at this
   exact this]
  exact List.pairwise_map.mpr (hF1.imp fun h e => h (mkS_inj e))
 case p10 =>
  intro g Cn D i l Γ₁ Z hi hp
  rw [hgd i (by lia)] at hp
  cases hp
  exact Pure.nm Z .zero .zero
 case q10 =>
  intro g Cn D i l Γ₁ Z hi hp
  rw [hfl] at hi
  rw [hgd i hi] at hp
  cases hp
  have hg:=hFg _ (getD_mem [] hi)
  generalize F.getD i [] = f at hg ⊢
  have hl1:=hg.1
  unfold toldV
  with_reducible refine' PureT.mapA Z tab1.tail hA.1 [Str.ofString "bracket",Str.ofString "front"] ?r10 ⟨#[]⟩ (lawBr b) .str (partsV f) ?s10 ?t10 ?z10
  case r10 => k_extra "l"
  case s10 => k_extra "p"
  case t10 => lia
  case z10 =>
   intro g' Cn' D' l' bk Z hb
   have hbs:=br_str b bk hb
   refine CTurn.one Z .zero rfl .zero .zero rfl fun z9 => ?_
   with_reducible refine' PureT.callG Z (hX [173]) (List.cons_ne_nil _ _) (f_transL b f bk hb hg) ?a11 tab1.tail.tail ?b11 ?c11 (.cons (Pure.binop Z (Pure.binop Z ?d11 ?e11 (oAddS ?f11 rfl)) (Pure.str Z) (oAddS ?g11 (pat_eq f bk))) ?h11 (.cons Pure.nil ?i11 (.cons (Pure.str Z) ?j11 .nil)))
   case a11 => exact okA hA (by decide)
   case b11 => k_extra "n"
   case c11 => k_is
   case d11 | e11 => k_extra "p"
   case f11 => rw [len_mkS];lia
   case g11 =>
    have : (mkS f ++ bk).length = f.length + bk.length:=by
     have:=congrArg List.length (cs_app (mkS f) bk)
     rw [List.length_append,cs_mkS] at this
     exact this
    rw [this,show (Str.ofString "*").length = 1 by decide +kernel]
    lia
   case h11 | i11 | j11 => rfl
 intro led' pv hq0
 refine byG fun G kG => ?_
 obtain ⟨D,rfl,rfl,hD1⟩ := hq0
 refine kG ?_;clear kG G
 refine ⟨_,by k_extra "q", ?_⟩
 rw [hfl,told_eq b F]
 have hDs : D ≠ sysModules:=fun e => by
  have:=hD1 226 _ h226
  rw [e] at this
  exact absurd this (by decide)
 clear hD1
 with_reducible refine' Run.ifF (Test.neDict Z noT List.mem_cons_self hDs ?a12 (PureL.dict Z noT (Src.lst hA.1 ?b12) ?c12 ?d12 ?e12 ?f12 [Str.ofString "front",Str.ofString "brackets"] [none,some (.lst ((lawBr b).map .str))] ?g12 ?h12 ?i12 ?j12 (i0:=0) ?k12 ?l12 ?m12 ?n12 (fun i => mkS (F.getD i [])) (fun i => toldV b (F.getD i [])) ?o12 ?p12 ?q12 ?r12 ?s12 h226 ?t12) (told_dk b hFg) ?u12 hu0) (Run.done ?r13)
 case a12 | b12 => k_extra "p"
 case c12 | d12 => rfl
 case e12 => decide
 case f12 => exact fun z9 => rfl
 case g12 | h12 => decide
 case i12 => k_extra "v"
 case j12 =>
  intro Cn i x pv h1 h2
  match i,h1,h2 with
  | 1,h1,h2 =>
   obtain rfl:=Option.some.inj h1;cases h2
   exact ⟨rfl,rfl,⟨_,rfl,rfl⟩,4,rfl,rfl⟩
 case k12 => exact .zero
 case l12 => exact .zero
 case m12 => exact fun z9 => rfl
 case n12 => exact fun z9 => rfl
 case o12 => lia
 case p12 =>
  rw [hfl,show (List.range F.length).map (fun i => mkS (F.getD i [])) = F.map mkS by
   have:=congrArg (List.map mkS) (range_getD F [] F.length rfl)
   rw [List.map_map] at this
   exact this]
  exact List.pairwise_map.mpr (hF1.imp fun h e => h (mkS_inj e))
 case q12 =>
  intro g Cn D i l Γ₁ Z hi hp
  rw [hgd i (by lia)] at hp
  cases hp
  exact Pure.nm Z .zero .zero
 case r12 =>
  intro g Cn D i l Γ₁ Z hi hp
  rw [hfl] at hi
  rw [hgd i hi] at hp
  cases hp
  have hg:=hFg _ (getD_mem [] hi)
  generalize F.getD i [] = f at hg ⊢
  unfold toldV
  with_reducible refine' PureT.mapA Z noT hA.1 [Str.ofString "bracket",Str.ofString "front"] ?v12 ⟨#[]⟩ (lawBr b) .str (partsV f) ?w12 ?x12 ?y12
  case v12 => k_extra "l"
  case w12 => k_extra "p"
  case x12 => lia
  case y12 =>
   intro g' Cn' D' l' bk Z hb
   refine CTurn.one Z .zero rfl .zero .zero rfl fun z9 => Pure.toT ?_
   with_reducible refine' Pure.call Z ?z12 ?a13 (.cons ?b13 ?c13 (.cons ?d13 ?e13 .nil)) (toFn (f_partsL b f bk hb hg).fn ?f13)
   case z12 => k_extra "n"
   case a13 => k_extra "k"
   case b13 => k_extra "p"
   case c13 => rfl
   case d13 => k_extra "p"
   case e13 => rfl
   case f13 => exact okA hA (by decide)
 case s12 => rw [hfl,told_eq b F]
 case t12 => decide
 case u12 =>
  have:=hA.2.2
  dsimp only [Around.in1]
  lia
 with_reducible refine' Run.ifTF (T := [173]) (TestT.cmp Z (PureT.map2 Z tab1.tail hA.1 [Str.ofString "front",Str.ofString "bracket",Str.ofString "brackets"] ?a14 [] (fun z9 => ⟨#[]⟩) F (fun z9 => lawBr b) (fun f => .str (mkS f)) (fun _ bk => .str bk) (fun f bk => .str (trS f bk)) (Pure.eqv ?b14 ?c14) ?d14 ?e14 ?f14 ?g14 ?h14) (PureT.toPure (PureT.map2 Z noT hA.1 [Str.ofString "front",Str.ofString "bracket",Str.ofString "brackets"] ?a15 [] (fun z9 => ⟨#[]⟩) F (fun z9 => lawBr b) (fun f => .str (mkS f)) (fun _ bk => .str bk) (fun f bk => .str (trS f bk)) (Pure.eqv ?b15 ?c15) ?d15 ?e15 ?f15 ?g15 ?h15)) ?i14) (Run.done ?r14)
 case a14 => k_extra "l"
 case b14 => k_extra "p"
 case c14 => rw [List.map_map];rfl
 case d14 => lia
 case e14 => exact fun z9 z9 => by lia
 case f14 => lia
 case g14 => exact fun z9 z9 => rfl
 case a15 => k_extra "l"
 case b15 => k_extra "p"
 case c15 => rw [List.map_map];rfl
 case d15 => lia
 case e15 => exact fun z9 z9 => by lia
 case f15 => lia
 case g15 => exact fun z9 z9 => rfl
 case i14 => rw [flat_str];exact oNeSL hu0
 case h14 =>
  intro g Cn D' f Z hf
  show ∃ Γ₁,CIn2 _ _ _ _ _ _ _ _ _ _ _ _ (.str (mkS f)) _ _ _
  have hg:=hFg f hf
  have hl1:=hg.1
  refine ⟨_,fun l => AsgB.nm Z .zero rfl .zero,Put.sub .zero .zero,fun l => ?_,fun l bk hb => ?_⟩
  ·k_extra "p"
  ·have hbs:=br_str b bk hb
   refine CTurn.one Z (.succ .zero) rfl (.succ .zero) (.succ .zero) rfl fun z9 => ?_
   with_reducible refine' PureT.callG Z (hX [173]) (List.cons_ne_nil _ _) (f_translateL b f bk hb hg) ?j14 tab1.tail.tail ?k14 ?l14 (.cons (Pure.binop Z (Pure.binop Z (a:=.str (mkS f)) ?m14 ?n14 (oAddS ?o14 rfl)) (Pure.str Z) (oAddS ?p14 (pat_eq f bk))) ?q14 .nil)
   case j14 => exact okA hA (by decide)
   case k14 => k_extra "n"
   case l14 => k_is
   case m14 =>
    show Pure w A _ _ _ _ (.str (mkS f))
    k_extra "p"
   case n14 => k_extra "p"
   case o14 => rw [len_mkS];lia
   case p14 =>
    have : (mkS f ++ bk).length = f.length + bk.length:=by
     have:=congrArg List.length (cs_app (mkS f) bk)
     rw [List.length_append,cs_mkS] at this
     exact this
    rw [this,show (Str.ofString "*").length = 1 by decide +kernel]
    lia
   case q14 => rfl
 case h15 =>
  intro g Cn D' f Z hf
  show ∃ Γ₁,CIn2 _ _ _ _ _ _ _ _ _ _ _ _ (.str (mkS f)) _ _ _
  have hg:=hFg f hf
  have hl1:=hg.1
  refine ⟨_,fun l => AsgB.nm Z .zero rfl .zero,Put.sub .zero .zero,fun l => ?_,fun l bk hb => ?_⟩
  ·k_extra "p"
  ·have hpl:=parts_len b f bk hb hg.1
   have hfp:=(f_partsL (w:=w) b f bk hb hg).fn
   rw [partsV_eq] at hfp
   refine CTurn.one Z (.succ .zero) rfl (.succ .zero) (.succ .zero) rfl fun z9 => Pure.toT ?_
   with_reducible refine' Pure.binop Z (Pure.binop Z (Pure.str Z) (Pure.meth Z (Pure.str Z) mJoin (.cons (Pure.sliceInitA Z (Pure.call Z ?j15 ?k15 (.cons ?l15 ?m15 (.cons ?n15 ?o15 .nil)) (toFn hfp ?p15)) ?neg15 ?q15) ?r15 .nil) (gJoin ?s15 ?t15 (join_cs _)) ?u15) (oAddS ?v15 rfl)) (Pure.str Z) (oAddS ?w15 (trS_eq f bk))
   case neg15 => k_extra "p"
   case j15 => k_extra "n"
   case k15 => k_extra "k"
   case l15 =>
    show Pure w A _ _ _ _ (.str (mkS f))
    k_extra "p"
   case m15 => rfl
   case n15 => k_extra "p"
   case o15 => rfl
   case p15 => exact okA hA (by decide)
   case q15 =>
    rw [List.length_map,List.length_append,List.length_map]
    show f.length + 1 <= 100
    lia
   case r15 => rfl
   case s15 => decide
   case t15 =>
    rw [sum_cs,List.length_append,List.length_map]
    show _ + (f.length + 1) * 64 <= _
    lia
   case u15 => exact ⟨_,rfl⟩
   case v15 =>
    rw [len_mkS,show (Str.ofString "(?s:").length = 4 by decide +kernel]
    lia
   case w15 =>
    have e:=congrArg List.length (cs_app (Str.ofString "(?s:") (mkS ((f.map escL ++ [brkL bk]).map cs).flatten))
    rw [List.length_append,cs_mkS,show (cs (Str.ofString "(?s:")).length = 4 by decide +kernel] at e
    rw [show (Str.ofString "(?s:" ++ mkS ((f.map escL ++ [brkL bk]).map cs).flatten).length = 4 + (((f.map escL ++ [brkL bk]).map cs).flatten).length from e,show (Str.ofString ".*)\\Z").length = 5 by decide +kernel]
    lia
 with_reducible refine' Run.letG (T := []) (pv:=.lst []) Z (Pure.toT (Pure.list Z .nil ?a17)) ?b17 ?c17 ?d17 ?e17 ?f17
 case a17 => exact Nat.zero_le _
 case b17 => k_extra "g"
 case c17 => k_extra "s"
 case d17 => k_extra "q"
 case e17 => rfl
 have hpl : ((prs R.length).map prV).length = (prs R.length).length:=List.length_map _
 with_reducible refine' Run.for_ Z (Src.lst hA.1 ?a18) (fun i Γ led => ∃ o1 o2 o3 o4 o5 o6 : Option PV,Γ = [some (.val (.ref la)),some (.lst ((lawX ns).map .int)),some (.int (ns.take 4).sum),some (.str (lawTw b)),some (.lst ((lawBr b).map .str)),some (.lst (R.map .bytes)),some (.int m),some (.int n),some (.str (mkS (lawLn b R m n))),o,some (.lst (R.map (wS b))),some (.lst ((prs R.length).map prV)),some (.lst ((F.map mkS).map .str)),some (.val (.ref D)),some (.lst ((lsN b R i).map prV)),o1,o2,o3,o4,o5,o6,none] /\ led = [(D,LO.dict w (F.map fun f => (mkS f,toldV b f))),(173,LO.tab)]) ⟨_,_,_,_,_,_,rfl,rfl⟩ ?b18 ?turn18 ?done18
 case a18 => k_extra "p"
 case b18 => exact fun z9 => rfl
 case turn18 =>
  intro i Γ₁ led₁ g hi hq0 Z ex
  refine byG fun G kG => ?_
  refine X50 hq0 fun o1 o2 o3 o4 o5 q8 => X11 q8 fun o6 q6 q7 => ?_;subst q6;subst q7
  refine kG ?_;clear kG G
  rw [hpl] at hi
  have hp : (prs R.length).getD i (0,0) ∈ prs R.length:=getD_mem _ hi
  have hls:=lsN_succ b R hi
  rw [getD_map (0,0) prV _ hi]
  generalize (prs R.length).getD i (0,0) = p at hp hls ⊢
  have hp2:=(mem_prs.mp hp).2
  have hp1 : p.1 < R.length:=Nat.lt_trans (mem_prs.mp hp).1 hp2
  have hfr : FnG [] w 207 2 [.str (mkS (wi b R p.1)), .str (mkS (wi b R p.2))] (.str (mkS (frL b R p))):=f_front (w:=w) (wi b R p.1) (wi b R p.2) (wi_ok b R hR hp1) (wi_ok b R hR hp2)
  have hbk : (bkL b R p).length <= 4:=by
   unfold bkL
   split
   ·exact br_len b
   ·exact Nat.zero_le _
  refine ⟨_,Asg.pairS Z hA.1 (by k_extra "g") (by k_extra "s") (by k_extra "q") (by k_extra "g") (by k_extra "s") (by k_extra "q") rfl, ?_⟩
  with_reducible refine' Run.letC (T := []) Z (EvC.mapF Z noT hA.1 [Str.ofString "parts",Str.ofString "read",Str.ofString "j",Str.ofString "k"] ?c18 ⟨#[]⟩ (bkL b R p) (partsV (frL b R p)) (partsV (frL b R p)) (fun bk => inB bk ((wi b R p.1).getD (frL b R p).length 0) && inB bk ((wi b R p.2).getD (frL b R p).length 0)) ?d18 ?e18 ?f18) ?g18 ?h18 ?i18 ?j18 ?k18
  case j18 => exact fun u => rfl
  case c18 => k_extra "l"
  case e18 => lia
  case g18 => k_extra "g"
  case h18 | i18 => rfl
  case d18 =>
   with_reducible refine' Pure.getDict Z List.mem_cons_self hDs ?l18 (Pure.call Z ?m18 ?n18 (.cons (Pure.itemA Z ?o18 ?p18 (Int.natCast_nonneg _) (rdAt b R hp1) hrl ?q18) ?r18 (.cons (Pure.itemA Z ?s18 ?t18 (Int.natCast_nonneg _) (rdAt b R hp2) hrl ?u18) ?v18 .nil)) (toFn hfr.fn ?w18)) (Pure.list Z .nil (Nat.zero_le _)) (told_get b R hR hF1 hF3 hp) ?x18 ?y18
   case l18 => k_extra "p"
   case m18 => k_extra "n"
   case n18 => k_extra "k"
   case o18 | p18 => k_extra "p"
   case q18 => k_extra "u"
   case r18 => rfl
   case s18 | t18 => k_extra "p"
   case u18 => k_extra "u"
   case v18 => rfl
   case w18 => exact okA hA (by decide)
   case x18 => rfl
   case y18 => exact ⟨_,rfl⟩
  case f18 =>
   intro g' Cn D' l bk Z hb
   have hd : dif b R p = true:=by
    unfold bkL at hb
    split at hb
    ·assumption
    ·nomatch hb
   have hb : bk ∈ lawBr b:=by
    unfold bkL at hb
    rwa [if_pos hd] at hb
   obtain ⟨l3,t1,t2⟩ := fr_len3 b R hR hp hd
   refine CTurn.one Z .zero rfl .zero .zero ?_ fun z9 => Pure.toT ?_
   ·show Test w A _ _ _ _ _
    with_reducible refine' Test.and (Test.of (Pure.call Z ?a19 ?b19 (.cons ?c19 ?d19 (.cons (Pure.itemA Z ?e19 ?f19 (Int.natCast_nonneg _) (rdAt b R hp1) hrl ?g19) ?h19 .nil)) (toFn (f_takesL b (frL b R p) (wi b R p.1) bk hb (wi_ok b R hR hp1) (wi_good b R hR hp1) l3 t1).fn ?i19)) truthyB ?j19) (fun z9 => Test.of (Pure.call Z ?k19 ?l19 (.cons ?m19 ?n19 (.cons (Pure.itemA Z ?o19 ?p19 (Int.natCast_nonneg _) (rdAt b R hp2) hrl ?q19) ?r19 .nil)) (toFn (f_takesL b (frL b R p) (wi b R p.2) bk hb (wi_ok b R hR hp2) (wi_good b R hR hp2) l3 t2).fn ?s19)) truthyB ?t19)
    case a19 => k_extra "n"
    case b19 => k_extra "k"
    case c19 => k_extra "p"
    case d19 => rfl
    case e19 | f19 => k_extra "p"
    case g19 => k_extra "u"
    case h19 => rfl
    case i19 => exact okA hA (by decide)
    case j19 => exact fun z9 => rfl
    case k19 => k_extra "n"
    case l19 => k_extra "k"
    case m19 => k_extra "p"
    case n19 => rfl
    case o19 | p19 => k_extra "p"
    case q19 => k_extra "u"
    case r19 => rfl
    case s19 => exact okA hA (by decide)
    case t19 => exact fun z9 => rfl
   ·k_extra "p"
  rintro led' pv ⟨rfl,rfl⟩
  refine ⟨_,(show Put _ _ (.lst ((bothL b R p).map (partsV (frL b R p)))) _ from by k_extra "q"), ?_⟩
  have hbo : (bothL b R p).length <= 4:=Nat.le_trans (List.length_filter_le _ _) hbk
  refine Y2 (due_cmp b R hR hp) fun hd1 hd2 => ?_
  rw [hd1] at hd2
  have r1:=ri_ok R hR hp1
  have r2:=ri_ok R hR hp2
  have z1 : (ri R p.1).size <= 1000:=Nat.le_trans r1.2 (by decide)
  have z2 : (ri R p.2).size <= 1000:=Nat.le_trans r2.2 (by decide)
  have hbl2 : (R.map PV.bytes).length <= 1000:=by rw [hml];lia
  with_reducible refine' Run.letG (T := []) (pv:=.int (octC (ri R p.1) (ri R p.2))) Z ?a20 ?b20 ?c20 ?d20 ?e20 ?f20
  case b20 => k_extra "g"
  case c20 => k_extra "s"
  case d20 => k_extra "q"
  case e20 => rfl
  case a20 =>
   refine Pure.toT ?_
   unfold octC
   with_reducible refine' Pure.ite Z (Test.cmp Z (Pure.itemA Z ?g20 ?h20 (Int.natCast_nonneg _) (riAt R hp1) hbl2 ?i20) (Pure.itemA Z ?j20 ?k20 (Int.natCast_nonneg _) (riAt R hp2) hbl2 ?l20) oEqB) (fun e => ?m20) (fun e => ?n20)
   case g20 | h20 => k_extra "p"
   case i20 => k_extra "u"
   case j20 | k20 => k_extra "p"
   case l20 => k_extra "u"
   case m20 =>
    rw [if_pos e]
    k_extra "p"
   case n20 =>
    rw [if_neg (by rw [e];exact Bool.false_ne_true)]
    with_reducible refine' Pure.ite Z (Test.cmp Z (Pure.call Z ?o20 ?p20 (.cons (Pure.itemA Z ?q20 ?r20 (Int.natCast_nonneg _) (riAt R hp1) hbl2 ?s20) ?t20 .nil) (gListB hA.1 z1)) (Pure.call Z ?u20 ?v20 (.cons (Pure.itemA Z ?w20 ?x20 (Int.natCast_nonneg _) (riAt R hp2) hbl2 ?y20) ?z20 .nil) (gListB hA.1 z2)) (oGtI hu0)) (fun e2 => ?a21) (fun e2 => ?b21)
    case o20 => k_extra "n"
    case p20 => k_extra "k"
    case q20 | r20 => k_extra "p"
    case s20 => k_extra "u"
    case t20 => rfl
    case u20 => k_extra "n"
    case v20 => k_extra "k"
    case w20 | x20 => k_extra "p"
    case y20 => k_extra "u"
    case z20 => rfl
    case a21 =>
     rw [if_pos e2]
     k_extra "p"
    case b21 =>
     rw [if_neg (by rw [e2];exact Bool.false_ne_true)]
     k_extra "p"
  with_reducible refine' Run.letG (T := []) (pv:=.int (cmpI b R p.1 p.2)) Z (Pure.toT (Pure.eqv (p:=.int (dueI b R p)) ?a22 (congrArg PV.int hd1))) ?b22 ?c22 ?d22 ?e22 ?f22
  case b22 => k_extra "g"
  case c22 => k_extra "s"
  case d22 => k_extra "q"
  case e22 => rfl
  case a22 =>
   unfold dueI
   with_reducible refine' Pure.ite (b := !(bothL b R p).isEmpty) Z (Test.as (Test.cmp Z ?g22 (Pure.list Z .nil (Nat.zero_le _)) (oNeNil hu0)) ?h22) (fun e => ?i22) (fun e => ?j22)
   case g22 => k_extra "p"
   case h22 => rw [List.isEmpty_map]
   case i22 =>
    rw [if_pos e]
    k_extra "p"
   case j22 =>
    rw [if_neg (by rw [e];exact Bool.false_ne_true)]
    k_extra "p"
  with_reducible refine' Run.letG (T := []) (pv:=.lst [.int (cmpI b R p.1 p.2), .int (cmpI b R p.2 p.1)]) Z (Pure.toT (Pure.list Z (.cons (Pure.call Z ?a23 ?b23 (.cons (Pure.itemA Z ?c23 ?d23 (Int.natCast_nonneg _) (rdAt b R hp1) hrl ?e23) ?f23 (.cons (Pure.itemA Z ?g23 ?h23 (Int.natCast_nonneg _) (rdAt b R hp2) hrl ?i23) ?j23 .nil)) (toFn (f_strcoll _ _) ?k23)) ?l23 (.cons (Pure.call Z ?m23 ?n23 (.cons (Pure.itemA Z ?o23 ?p23 (Int.natCast_nonneg _) (rdAt b R hp2) hrl ?q23) ?r23 (.cons (Pure.itemA Z ?s23 ?t23 (Int.natCast_nonneg _) (rdAt b R hp1) hrl ?u23) ?v23 .nil)) (toFn (f_strcoll _ _) ?w23)) ?x23 .nil)) le2)) ?a24 ?b24 ?c24 ?d24 ?e24
  case a23 => k_extra "n"
  case b23 => k_extra "k"
  case c23 | d23 => k_extra "p"
  case e23 => k_extra "u"
  case f23 => rfl
  case g23 | h23 => k_extra "p"
  case i23 => k_extra "u"
  case j23 => rfl
  case k23 => exact okA hA (by decide)
  case l23 => rfl
  case m23 => k_extra "n"
  case n23 => k_extra "k"
  case o23 | p23 => k_extra "p"
  case q23 => k_extra "u"
  case r23 => rfl
  case s23 | t23 => k_extra "p"
  case u23 => k_extra "u"
  case v23 => rfl
  case w23 => exact okA hA (by decide)
  case x23 => rfl
  case a24 => k_extra "g"
  case b24 => k_extra "s"
  case c24 => k_extra "q"
  case d24 => rfl
  with_reducible refine' Run.ifF (Test.orR (Test.cmp Z (a:=.lst [.int (cmpI b R p.1 p.2), .int (cmpI b R p.2 p.1)]) (b:=.lst [.int (cmpI b R p.1 p.2), .int (0 - cmpI b R p.1 p.2)]) ?a25 (Pure.list Z (.cons ?b25 ?c25 (.cons (Pure.binop Z (Pure.int Z) ?d25 oSub) ?e25 .nil)) le2) ?f25) (Test.as (Test.cmp Z (PureT.toPure (PureT.mapF Z noT hA.1 [Str.ofString "number"] ?g25 0 [cmpI b R p.1 p.2,cmpI b R p.2 p.1] PV.int PV.int (fun z9 => false) ?h25 ?i25 ?j25)) (Pure.list Z .nil (Nat.zero_le _)) (oNeNil hu0)) ?k25)) (Run.done ?l25)
  case a25 | b25 => k_extra "p"
  case c25 => rfl
  case d25 => k_extra "p"
  case e25 => rfl
  case f25 =>
   rw [hd2]
   exact oNeIL (bs := [cmpI b R p.1 p.2,cmpI b R p.2 p.1]) hu0
  case g25 => k_extra "l"
  case h25 =>
   show Pure w A _ _ _ _ (.lst [.int (cmpI b R p.1 p.2), .int (cmpI b R p.2 p.1)])
   k_extra "p"
  case i25 => exact Nat.le_of_ble_eq_true rfl
  case k25 => rfl
  case j25 =>
   intro g' Cn D' l x Z hx
   refine CTurn.one Z .zero rfl .zero .zero ?_ fun h => nomatch h
   show Test w A _ _ _ _ _
   with_reducible refine' Test.cmp Z (Pure.call Z ?m25 ?n25 (.cons ?o25 ?p25 .nil) gTypeI) ?q25 oIsNotTy
   case m25 => k_extra "n"
   case n25 => k_extra "k"
   case o25 => k_extra "p"
   case p25 => rfl
   case q25 => k_extra "n"
  have hl6:=lsN_le b R i
  have hl7:=lsOf_len b R p
  with_reducible refine' Run.letG (T := []) (pv:=.lst ((lsN b R (i + 1)).map prV)) Z (Pure.toT (Pure.eqv (Pure.binop Z (a:=.lst ((lsN b R i).map prV)) (b:=.lst ((lsOf b R p).map prV)) ?a26 ?b26 (oAddL ?c26)) ?d26)) ?e26 ?f26 ?g26 ?h26 ?z26
  case a26 => k_extra "p"
  case c26 =>
   rw [List.length_map,List.length_map]
   lia
  case d26 => rw [hls,List.map_append]
  case e26 => k_extra "g"
  case f26 => k_extra "s"
  case g26 => k_extra "q"
  case h26 => rfl
  case b26 =>
   unfold lsOf
   rw [hd1]
   with_reducible refine' Pure.ite (b:=cmpI b R p.1 p.2 == -1) Z (Test.cmp Z ?i26 ?j26 oEq) (fun e => ?k26) (fun e => ?l26)
   case i26 | j26 => k_extra "p"
   case k26 =>
    rw [if_pos e]
    show Pure w A _ _ _ _ (.lst [.tup [.int (p.1 : Nat), .int (p.2 : Nat)]])
    k_extra "p"
   case l26 =>
    rw [if_neg (by rw [e];exact Bool.false_ne_true)]
    with_reducible refine' Pure.ite (b:=cmpI b R p.1 p.2 == 1) Z (Test.cmp Z ?m26 (Pure.int Z) oEq) (fun e2 => ?n26) (fun e2 => ?o26)
    case m26 => k_extra "p"
    case n26 =>
     rw [if_pos e2]
     show Pure w A _ _ _ _ (.lst [.tup [.int (p.2 : Nat), .int (p.1 : Nat)]])
     k_extra "p"
    case o26 =>
     rw [if_neg (by rw [e2];exact Bool.false_ne_true)]
     exact Pure.list Z .nil (Nat.zero_le _)
  case z26 => exact Run.finF ⟨_,_,_,_,_,_,rfl,rfl⟩
 intro Γ₁ led₁ hq0
 refine byG fun G kG => ?_
 obtain ⟨o1,o2,o3,o4,o5,o6,rfl,rfl⟩ := hq0
 refine kG ?_;clear kG G
 rw [hpl]
 rw [lsN_all]
 have hlA:=lsA_le b R
 have hM0' : (226 : Addr) ∉ M₀:=by
  have e : M₀ = []:=hM0
  rw [e]
  exact List.not_mem_nil
 with_reducible refine' Run.letLam (P:=226) (j:=14) (n:=R.length) (ks:=rkI b R) Z (okA hA (by decide)) (hX [226]) ?a27 (RangeE.one Z ?b27 (.cons (Pure.eqv (Pure.call Z ?c27 ?d27 (.cons ?e27 ?f27 .nil) (gLenL ?g27)) (congrArg PV.int (congrArg Int.ofNat hml))) ?h27 .nil)) ?i27 (noTabsK w) h226 hM0' (codeHd_of_K Z.K ?j27) ?k27 ?l27 ?m27 ?n27 ?o27 ?p27 ?q27 ?r27 ?s27 ?t27 ?u27 ?v27 ?w27 ?x27 ?y27 ?z27 ?a28 ?b28 ?c28 ?d28 ?e28 ?f28 ?g28 ?h28 ?i28 ?j28 ?k28
 case k27 => rfl
 case a27 | b27 | c27 => k_extra "n"
 case d27 => k_extra "k"
 case e27 => k_extra "p"
 case f27 => rfl
 case g27 => lia
 case h27 => rfl
 case i27 => lia
 case j27 => kernel_rfl
 case l27 | m27 | n27 | o27 | p27 | q27 | r27 | s27 | t27 => rfl
 case u27 => exact fun z9 z9 z9 z9 => rfl
 case v27 => exact fun z9 => rfl
 case w27 => exact fun z9 => rfl
 case x27 | y27 => rfl
 case z27 | a28 | b28 | c28 => decide
 case d28 | e28 | f28 => rfl
 case h28 => k_extra "g"
 case i28 | j28 => rfl
 case g28 =>
  intro h M f cdv L A' i hA' hi Z
  with_reducible refine' Pure.eqv (Pure.call Z ?a29 ?b29 (.cons (PureT.toPure (PureT.mapF Z noT hA'.1 [Str.ofString "one",Str.ofString "other",Str.ofString "k"] ?c29 (0,0) (lsA b R) prV (fun q => .int (q.1 : Nat)) (fun q => q.2 == i) ?d29 ?e29 ?f29)) ?g29 .nil) (gLenL ?h29)) ?i29
  case a29 => k_extra "n"
  case b29 => k_extra "k"
  case c29 => k_extra "l"
  case d29 => k_extra "p"
  case e29 => lia
  case g29 => rfl
  case h29 =>
   rw [List.length_map]
   have:=List.length_filter_le (fun q : Nat × Nat => q.2 == i) (lsA b R)
   lia
  case i29 =>
   rw [List.length_map]
   rfl
  case f29 =>
   intro g Cn D' l q Z hq
   refine CTurn.pair Z hA'.1 .zero rfl .zero .zero (.succ .zero) rfl (.succ .zero) (.succ .zero) rfl ?_ fun z9 => Pure.toT ?_
   ·show Test w A' _ _ _ _ _
    with_reducible refine' Test.as (Test.cmp Z ?j29 ?k29 oEq) ?l29
    case j29 | k29 => k_extra "p"
    case l29 =>
     by_cases e : q.2 = i
     ·rw [e,beq_self_eq_true,beq_self_eq_true]
     ·rw [beq_eq_false_iff_ne.mpr e,beq_eq_false_iff_ne.mpr (fun z => e (by exact_mod_cast z))]
   ·k_extra "p"
 rintro σ hσ1 hσ2 Z
 refine ⟨_,by k_extra "q", ?_⟩
 have hss : (R.map fun r => mkS (wdOf b r)).length = R.length:=List.length_map _
 with_reducible refine' Run.retX (T := []) (PureX.cmp Z (PureX.sortedKey (ss:=R.map fun r => mkS (wdOf b r)) (kf:=id) Z ?a30 ?b30 ?c30 (fun x _ => f_strxfrm x) ?d30 ?e30 ?f30 ?g30 ?h30) (PureT.toPure (PureT.mapA Z noT hA.1 [Str.ofString "k",Str.ofString "read"] ?i30 0 σ (fun i => .int (i : Nat)) (fun i => .str (mkS (wi b R i))) ?j30 ?k30 ?l30)) ?m30) ?n30
 case a30 => k_extra "n"
 case b30 =>
  rw [<- rd_eq]
  k_extra "p"
 case c30 => k_extra "n"
 case d30 =>
  show Around.ok A.in1.in1 1
  refine ⟨hA.1, ?_, ?_⟩
  ·have:=hA.2.1
   show A.depth + 1 < _
   lia
  ·have:=hA.2.2
   show A.units + 1 + 1 + 8 * 1 < cLine
   lia
 case e30 => lia
 case f30 | g30 | h30 => rfl
 case i30 => k_extra "l"
 case j30 => k_extra "p"
 case k30 =>
  have:=hσ1.length_eq
  rw [List.length_range] at this
  lia
 case l30 =>
  intro g Cn D' l i Z hi
  have hiR : i < R.length:=List.mem_range.mp (hσ1.mem_iff.mp hi)
  refine CTurn.one Z .zero rfl .zero .zero rfl fun z9 => Pure.toT ?_
  with_reducible refine' Pure.itemA Z ?o30 ?p30 (Int.natCast_nonneg _) (rdAt b R hiR) hrl ?q30
  case o30 | p30 => k_extra "p"
  case q30 => k_extra "u"
 case m30 =>
  rintro pv ⟨τ,rfl,ht1,ht2⟩
  have e:=order_eq b R hR hσ1 hσ2 ht1 ht2
  rw [e,show (σ.map fun i => PV.str (mkS (wi b R i))) = (σ.map fun i => mkS (wi b R i)).map .str from (List.map_map).symm]
  exact oEqSL hu0
 case n30 =>
  rintro s v pv rfl as r
  apply Rep.elB r
  have hT : Tabs [173,226] [((226 : Addr),LO.tab),(D,LO.dict w (F.map fun f => (mkS f,toldV b f))),(173,LO.tab)]:=fun t ht => by
   rcases List.mem_cons.mp ht with rfl | ht
   ·exact .tail _ (.tail _ (.head _))
   ·rw [List.mem_singleton.mp ht]
    exact .head _
  exact ⟨rfl,as.kp,as.x,fun t ht => as.tabAt hT ht⟩
end
section
theorem oldK_of {h h' : Heap} (k : ∀ b o,b ∉ [173,226] -> h.get? b = some o -> h'.get? b = some o) (hc1 : CodeHd h 177 173) (hc2 : CodeHd h 228 226) (h0 : ∀ P ∈ [173,226],h.get? P = some (tabObj #[])) (h1 : TabsH [173,226] h') : OldK h h' := by
 have isT : ∀ P ∈ [173,226],isCodeTable h P:=fun P hP => by
  rcases List.mem_cons.mp hP with rfl | hP
  ·refine X50 hc1 fun o vs _ _ _ q8 => X41 q8 fun _ _ _ _ a q8 => Y4 q8 fun b c d _ => ?_
   exact ⟨177,o,vs,a,b,c,d⟩
  ·rw [List.mem_singleton.mp hP]
   refine X50 hc2 fun o vs _ _ _ q8 => X41 q8 fun _ _ _ _ a q8 => Y4 q8 fun b c d _ => ?_
   exact ⟨228,o,vs,a,b,c,d⟩
 refine ⟨fun b o e => ?_,fun b o e => ?_⟩
 ·by_cases hb : b ∈ [173,226]
  ·have e2:=h0 b hb
   rw [e] at e2
   obtain rfl:=Option.some.inj e2
   refine X11 (h1 b hb) fun ps e3 _ => ?_
   exact .inr (.inl ⟨isT b hb,rfl, #[],ps,rfl,by rw [e3,Array.empty_append]⟩)
  ·exact .inl (k b o hb e)
 ·by_cases hb : b ∈ [173,226]
  ·refine X11 (h1 b hb) fun ps e3 _ => ?_
   exact ⟨_,e3⟩
  ·exact ⟨o,k b o hb e⟩
end
end
end Mine
theorem PySem.Challenge.cw_in0240_01_holds : PySem.Challenge.rw_in0240_01.Holds := by
 w_on
 refine holds_law Mine.ws fun said => ?_
 refine holds_open (q:=Mine.mkView PySem.Challenge.pw_in0240_01) (loose:=Mine.loose) (Xt:=Mine.xt PySem.Challenge.pw_in0240_01) (XP:=XL (Mine.mkView PySem.Challenge.pw_in0240_01) []) (Yf:=Hook.obs Mine.hx) (Ya:=Hook.val Mine.hx) (YP:=Hook.says Mine.hx) (N:=4978) ?hl (Hook.of Mine.hx) (Hook.keeps Mine.hx) (fun s e => xl_of s (Bool.and_eq_true_iff.mp e).1) XL.keeps (by rfl) (by rfl) (by rfl) (fun s e => recFacts_of (Bool.and_eq_true_iff.mp e).2) (by rfl) (by first | assumption | decide +kernel) (by decide +kernel) ⟨rfl,rfl,rfl,rfl,rfl,by decide +kernel⟩ ?hw ?hc
 case hl => exact Mine.left_of Mine.t00 Mine.t01 Mine.t10 Mine.t11
 case hw => w_witness2
 intro w s₀ s₁ mg mb G Y fa o pm cd doc dV kV ho hd hcd hD hmg hg args vals as hpre hlay hrd hwl hlo
 have KX:=km_in_of Y
 have TX:=km_tabs_of Y
 refine Ground.open G ?_
 intro T B D TE TW
 have hfa : fa = 229:=by
  have h:=mg_of KX T.g (n:=Str.ofString "law") (v:=.ref 229) (by k_is)
  have hmg : mg (Str.ofString "law") = some (.ref fa):=hmg
  rw [hmg] at h;cases h;rfl
 clear ho hd hcd hD hmg
 wrow_args hpre hlay hrd hwl hlo
 rename_i ns hs1 hs2 hs3 hs4 hs5 a1 a2 la vs0 a3 hL hra hw1 hr0 hI hr9 hc1 hc2
 subst hfa
 refine enter_call ?_
 refine Mine.f_law (w:=w) la ns (by omega) callerA.depth callerA.units callerA.guards callerA.frames s₁ _ (by decide) (by decide) KX ⟨_,_,_,_,_,T⟩ (fun t ht => by rw [List.mem_singleton.mp ht];exact ⟨_,TX 173 (by decide),by simp [TriplesOk]⟩) (TX 226 (by decide)) ⟨_,hL,hI⟩ fun s' g tabs gens => ?_
 refine ⟨.inl ⟨.bool true, .bool true, [],rfl,fun _ => rfl, .bool _, ?_, ?_⟩,Mine.oldK_of g.ext ?_ ?_ TX tabs,g.os,gens ?_⟩
 ·with_unfolding_all rfl
 ·intro _
  exact ⟨.nil,fun a ha => nomatch ha⟩
 ·exact codeHd_of_K KX (by kernel_rfl)
 ·exact codeHd_of_K KX (by kernel_rfl)
 ·rw [hg]
  intro i hx
  exact absurd hx (by simp)
