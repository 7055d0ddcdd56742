import PyProof.Rows.All
import Wide.All
import OpenK.AllK
import Wide.FinOn
import PySem.Challenge.RW_pd0191_01
set_option Elab.async false
set_option maxRecDepth 100000
set_option compiler.extract_closed false
namespace Mine
section
open PySem PySem.W PyProof.Rows
def vw : Program := view PySem.Challenge.pw_pd0191_01 [0, 2, 3, 4, 5, 6, 8, 9, 10, 11, 13, 15, 17, 18, 20, 22, 24, 25, 26, 27, 28, 29, 31, 32, 33, 34, 35, 36, 37, 38]
set_option maxHeartbeats 8000000 in
theorem said_ok : OpenLaw.wellSaid PySem.Challenge.rw_pd0191_01 = true := by
  unfold OpenLaw.wellSaid OpenRow.wellSaid OpenRow.partSaid looksOpen
  iterate 60 (all_goals first | (with_reducible refine look_both ?_ ?_) | skip)
  all_goals (try rewrite [Fast.te8326940854005059898])
  all_goals (try rewrite [Fast.te17119622794617984870])
  all_goals (try rewrite [Fast.te12862048085361865435])
  all_goals (try rewrite [Fast.te8377067652309620493])
  all_goals (try rewrite [Fast.te11788848310118352699])
  all_goals (try rewrite [Fast.te13582783067957832011])
  all_goals (try rewrite [Fast.te18344453789297297638])
  all_goals (decide +kernel)
noncomputable def live (o : Option Obj) : Option Obj := match o with
  | some ⟨_, _, .freed, _⟩ => none
  | o => o
noncomputable def pick (l : List Obj) : Nat → List Nat → List (Option Obj) :=
  @List.rec Obj (fun _ => Nat → List Nat → List (Option Obj)) (fun _ as => as.map fun _ => none)
    (fun x _ ih off as => @List.rec Nat (fun _ => List (Option Obj)) [] (fun a as' _ => @Bool.rec (fun _ => List (Option Obj)) (ih (off + 1) (a :: as')) (live (some x) :: ih (off + 1) as') (Nat.beq a off)) as) l
noncomputable def asc (as : List Nat) : Nat → Bool := @List.rec Nat (fun _ => Nat → Bool) (fun _ => true) (fun a _ ih off => Nat.ble off a && ih (a + 1)) as
theorem asc_cons {a off : Nat} {as : List Nat} (h : asc (a :: as) off = true) : off ≤ a ∧ asc as (a + 1) = true :=
  have q := Bool.and_eq_true_iff.mp (show (Nat.ble off a && asc as (a + 1)) = true from h)
  ⟨Nat.le_of_ble_eq_true q.1, q.2⟩
theorem asc_low {as : List Nat} : ∀ {k : Nat}, asc as k = true → ∀ b ∈ as, k ≤ b := by
  induction as with
  | nil => intro k _ b hb; cases hb
  | cons c cs ih =>
    intro k hk b hb
    have q := asc_cons hk
    rcases List.mem_cons.mp hb with rfl | hb
    · exact q.1
    · exact Nat.le_trans (Nat.le_succ_of_le q.1) (ih q.2 b hb)
theorem pick_eq {l : List Obj} : ∀ {off : Nat} {as : List Nat}, asc as off = true → (as.map fun b => live l[b - off]?) = pick l off as := by
  induction l with
  | nil => intro off as _; exact List.map_congr_left fun b _ => congrArg live List.getElem?_nil
  | cons x l ih =>
    intro off as h
    cases as with
    | nil => rfl
    | cons a as =>
      have h1 := asc_cons h
      have step : ∀ bs : List Nat, asc bs (off + 1) = true → (bs.map fun b => live (x :: l)[b - off]?) = pick l (off + 1) bs := fun bs hb => by
        rw [← ih hb]
        refine List.map_congr_left fun b hbm => ?_
        obtain ⟨k, rfl⟩ := Nat.le.dest (asc_low hb b hbm)
        rw [Nat.add_assoc off 1 k, Nat.add_sub_cancel_left, ← Nat.add_assoc off 1 k, Nat.add_sub_cancel_left, Nat.add_comm 1 k, List.getElem?_cons_succ]
      show _ = @Bool.rec (fun _ => List (Option Obj)) (pick l (off + 1) (a :: as)) (live (some x) :: pick l (off + 1) as) (Nat.beq a off)
      cases hq : Nat.beq a off with
      | true =>
        have e := Nat.eq_of_beq_eq_true hq
        subst e
        rw [List.map_cons, Nat.sub_self, List.getElem?_cons_zero, step as h1.2]
      | false =>
        have e : off + 1 ≤ a := Nat.lt_of_le_of_ne h1.1 fun q => Nat.ne_of_beq_eq_false hq q.symm
        exact step (a :: as) (Bool.and_eq_true_iff.mpr ⟨Nat.ble_eq_true_of_le e, h1.2⟩)
noncomputable def runF (w : World) : Option Shared :=
  ((Fast.tw10274390034422433532 Fast.tw14364793385576792824 (opening PySem.Challenge.rw_pd0191_01.row.prog) w 2932 (Fast.tw1435165496053646825 (opening PySem.Challenge.rw_pd0191_01.row.prog)).1 (Fast.tw1435165496053646825 (opening PySem.Challenge.rw_pd0191_01.row.prog)).2).bind (Fast.tw14289696077712309145 PySem.Challenge.rw_pd0191_01.row.prog)).bind fun s₀ =>
    match s₀.heap.isNs mainGlobals && s₀.gens.size == 0 with
    | true => (Fast.tw14082659384304107361 Fast.tw14364793385576792824 PySem.Challenge.rw_pd0191_01.row.prog w s₀.heap.objs.size (Fast.tw8920871248978507458 s₀.heap mainGlobals "__annotations__") 2932 s₀ (topStub PySem.Challenge.rw_pd0191_01.row.prog)).bind fun s₁ =>
      match staticsOk (Fast.tw5923862056798008813 (Program.main PySem.Challenge.rw_pd0191_01.row.prog).body) s₀.heap s₁.heap && namesBound PySem.Challenge.rw_pd0191_01.row.prog s₁.heap && gensDone s₁ && laidKept s₀.heap s₁.heap with
      | true => some s₁
      | false => none
    | false => none
theorem runF_eq (w : World) : openEnds treeTable PySem.Challenge.rw_pd0191_01.row.prog w 2932 = runF w := by
  unfold openEnds fencedOpening topFrom
  rewrite [Fast.te10274390034422433532, Fast.te14082659384304107361, Fast.te14289696077712309145, Fast.te1435165496053646825, Fast.te14364793385576792824, Fast.te5923862056798008813, Fast.te8920871248978507458]
  rfl
noncomputable def seenX (s : Shared) := openSeen vw [] (importedModules (Program.main PySem.Challenge.rw_pd0191_01.row.prog).body) (fun s => xlAt vw [] s && recOk (RowW.records PySem.Challenge.rw_pd0191_01.row.toRowW) s) true s
theorem seen_ok (w : World) : (runF w).map seenX = some (openGood vw []) := by
  unfold seenX
  rewrite [Fast.te4187177175401517315, Fast.te5923862056798008813]
  kernel_rfl
theorem left_ok {as : List Nat} {r : List (Option Obj)} (w : World) (q : asc as 0 = true) (h : ((runF w).map fun s => pick s.heap.objs.toList 0 as) = some r) :
    ((openEnds treeTable PySem.Challenge.rw_pd0191_01.row.prog w 2932).map fun s => (seenX s, as.map s.heap.get?)) = some (openGood vw [], r) := by
  have x := seen_ok w
  rw [runF_eq]
  cases hs : runF w with
  | none => rw [hs] at x; cases x
  | some s =>
    rw [hs, Option.map_some, Option.some.injEq] at x h
    rw [Option.map_some, x, ← h, ← pick_eq q]
    refine congrArg (fun z => some (openGood vw [], z)) (List.map_congr_left fun b _ => ?_)
    rw [Nat.sub_zero, Array.getElem?_toList]
    rfl
local macro_rules | `(tactic| o_head $H) => `(tactic| (
  refine holds_open (q := vw) (loose := []) (Xt := fun s => xlAt vw [] s && recOk (RowW.records PySem.Challenge.rw_pd0191_01.row.toRowW) s) (XP := XL vw []) (Yf := Hook.obs $H) (Ya := Hook.val $H) (YP := Hook.says $H) (N := 2932) ?hl (Hook.of $H) (Hook.keeps $H) (fun s e => xl_of s (Bool.and_eq_true_iff.mp e).1) XL.keeps (by rfl) (by rfl) (by rfl) (fun s e => recFacts_of (Bool.and_eq_true_iff.mp e).2) (by rfl) (by first | assumption | decide +kernel) (by decide +kernel) ⟨rfl, rfl, rfl, rfl, rfl, by decide +kernel⟩ ?hw ?hc
  (case hl => (intro w; exact left_ok w (by kernel_rfl) (by kernel_rfl)))))
local macro_rules | `(tactic| o_law) => `(tactic| (refine holds_law said_ok fun said => ?_))
set_option maxHeartbeats 8000000 in
open_top hd for PySem.Challenge.rw_pd0191_01
end
section
open PySem PySem.W PyProof.Rows PySem.Calls
theorem alC {α : Type} {P : α → Prop} {a : α} {l : List α} (h : P a) (H : ∀ p ∈ l, P p) : ∀ p ∈ a :: l, P p := List.forall_mem_cons.2 ⟨h, H⟩
abbrev aro (dp un : Nat) (gd : Option (List Code)) (env : Env) (outer : List Env) : Around := { handled := none, depth := dp, frames := some (env :: outer), guards := gd, units := un }
/-- a contract of a call: from any frame below, with any ledger that is `news` here -/
noncomputable def Con (w : World) (f : Addr) (vs : List Value) (dn : Nat) (news : List (Addr × Obj)) (Post : Value → List (Addr × Obj) → Prop) : Prop :=
  ∀ (dp un : Nat) (gd : Option (List Code)) (env : Env) (outer : List Env) (A₀ : Around) (base h₀ : Heap) (L : Addr) (m : Str → Option Value) (mean : ExcName → Option Value) (mg mb : Str → Option Value) (hp : Heap) (gs : Array GenState) (dr : Drawn) (tk : Nat) (os : OsState) (Q E : Value → Shared → Prop),
    Below A₀ base outer h₀ → Fr h₀ L hp m → (hd.heap_1 w.params).In h₀ → News h₀ L hp news → Top vw (looseW vw []) mean mg mb h₀ → env.frame = some L → env.scope.kind = .function → dp + dn < recursionLimit → un + 300 + 8 * dn < cLine →
    (∀ r h' tk' news', Fr h₀ L h' m → News h₀ L h' news' → Post r news' → Q r ⟨h', gs, dr, tk', os⟩) →
    wpAny (model PySem.Challenge.rw_pd0191_01.row.prog w) (aro dp un gd env outer) (call (.ref f) vs) Q E ⟨hp, gs, dr, tk, os⟩
section
variable {w : World} {f : Addr} {vs : List Value} {dn : Nat} {news : List (Addr × Obj)} {Post : Value → List (Addr × Obj) → Prop}
theorem Con.use {dp un : Nat} {gd : Option (List Code)} {env : Env} {outer : List Env} {A₀ : Around} {base h₀ : Heap} {L : Addr} {m : Str → Option Value} {mean : ExcName → Option Value} {mg mb : Str → Option Value} {hp : Heap} {gs : Array GenState} {dr : Drawn} {tk : Nat} {os : OsState} {Q E : Value → Shared → Prop}
    (C : Con w f vs dn news Post) (B : Below A₀ base outer h₀) (F : Fr h₀ L hp m) (X : (hd.heap_1 w.params).In h₀) (N : News h₀ L hp news) (T : Top vw (looseW vw []) mean mg mb h₀) (hf : env.frame = some L) (hk : env.scope.kind = .function) (hd : dp + dn < recursionLimit) (hu : un + 300 + 8 * dn < cLine)
    (ret : ∀ r h' tk' news', Fr h₀ L h' m → News h₀ L h' news' → Post r news' → Q r ⟨h', gs, dr, tk', os⟩) :
    wpAny (model PySem.Challenge.rw_pd0191_01.row.prog w) (aro dp un gd env outer) (call (.ref f) vs) Q E ⟨hp, gs, dr, tk, os⟩ := C _ _ _ _ _ _ _ _ _ _ _ _ _ _ _ _ _ _ _ _ B F X N T hf hk hd hu ret
theorem Con.useA {dp un : Nat} {gd : Option (List Code)} {env : Env} {outer : List Env} {A₀ : Around} {base h₀ : Heap} {L : Addr} {m : Str → Option Value} {mean : ExcName → Option Value} {mg mb : Str → Option Value} {hp : Heap} {gs : Array GenState} {dr : Drawn} {tk : Nat} {os : OsState} {Q E : Value → Shared → Prop}
    (C : Con w f vs dn news Post) (ret : ∀ r h' tk' news', Fr h₀ L h' m → News h₀ L h' news' → Post r news' → Q r ⟨h', gs, dr, tk', os⟩)
    (B : Below A₀ base outer h₀ := by k_asm) (F : Fr h₀ L hp m := by k_asm) (X : (hd.heap_1 w.params).In h₀ := by k_asm) (N : News h₀ L hp news := by k_asm) (T : Top vw (looseW vw []) mean mg mb h₀ := by k_asm) (hf : env.frame = some L := by first | exact rfl | assumption) (hk : env.scope.kind = .function := by first | exact rfl | assumption) (hd : dp + dn < recursionLimit := by ktr_room) (hu : un + 300 + 8 * dn < cLine := by ktr_units) :
    wpAny (model PySem.Challenge.rw_pd0191_01.row.prog w) (aro dp un gd env outer) (call (.ref f) vs) Q E ⟨hp, gs, dr, tk, os⟩ := C _ _ _ _ _ _ _ _ _ _ _ _ _ _ _ _ _ _ _ _ B F X N T hf hk hd hu ret
end
theorem filled : (fun (_ : OpenLaw) (_ : Params → Frag) => True) PySem.Challenge.rw_pd0191_01 hd.heap_1 := by
  k_fill
  trivial
end
section
open PySem PySem.W PyProof.Rows PySem.Calls
theorem sub_ss : isSubtype (.type "str") (.type "str") = pure true := by rw [isSubtype_type]; kernel_rfl
theorem kind_isn : builtinKind "issubclass.nested" = none := by decide +kernel
theorem plain_isn : plainId "issubclass.nested" = true := by decide +kernel
theorem args_isn (a b c : Value) : argsOk "issubclass.nested" ⟨[a, b, c], []⟩ := by unfold argsOk; kernel_rfl
theorem ty_str : typeOf (.type "str") = pure (.type "type") := by kernel_rfl
section
variable {prog : Program} {w : World} {A : Around} {E : Value → Shared → Prop} {s : Shared}
theorem isn_str {k : Value} {dep : Int} {tk : Tok} {Q : PySem.Fin → Shared → Prop} (hk : k = .int dep tk) (hq : Q (.done (.ret (.bool true))) s) :
    wpAny (model prog w) A (Builtin.«issubclass.nested» ⟨[.type "str", .type "str", k], []⟩) Q E s := by
  subst hk
  have hm := ty_str
  have hself := sub_ss
  repeat (any_goals (first | assumption | (rw [if_pos (by decide : (Value.type "type" == Value.type "type") = true)]) | (rw [hm]) | (rw [hself]) | wp_step))
theorem isn_tuple {tp : Addr} {cs : List Value} {Q : Value → Shared → Prop} (htp : s.heap.get? tp = some { cls := .type "tuple", data := .seq cs.toArray }) (hcs : cs = [Value.type "str", Value.type "bytes"])
    (h : ∀ tk, Q (.bool true) { s with toks := tk }) :
    wpAny (model prog w) A (call (.builtin "issubclass") [.type "str", .ref tp]) Q E s := by
  refine call_issubclass (S := fun _ R s' => s' = s ∧ ∀ tk, R (.ok (.ret (.bool true))) { s with toks := tk }) ?_ ⟨rfl, fun tk => h tk⟩
  rintro prog w A R s' ⟨rfl, hr⟩
  refine issubclass_outer ?_
  obtain ⟨hp, g, d, t, os⟩ := s'
  have hT2 : (⟨hp, g, d, t, os⟩ : Shared).TypeIs (.ref tp) "tuple" := ⟨_, htp, rfl⟩
  have f1 := F.isi_sub_tuple
  repeat (any_goals (first | assumption | wp_step))
  refine wpAny_arrayLoop ?_
  simp only [Option.getD_some, List.toList_toArray]
  subst hcs
  rw [List.forIn_cons]
  refine wpAny_bind (wpAny_bind (call_function_meets kind_isn plain_isn F.entry_issubclass_nested (args_isn _ _ _) (S := fun _ R s => R (.ok (.ret (.bool true))) s) (fun _ _ _ _ _ hs => isn_str rfl hs) ?_))
  refine wpAny_bind (m := truthy (.bool true)) (wpAny_pure ?_)
  simp only [if_true]
  refine wpAny_bind (wpAny_pure (wpAny_pure (wpAny_pure ?_)))
  repeat (any_goals (first | assumption | wp_step))
  exact hr _
end
end
section
open PySem PySem.W PyProof.Rows PySem.Calls PySem.Spec
theorem news_sub {h₀ h : Heap} {L : Addr} {n n' : List (Addr × Obj)} (N : News h₀ L h n') (hs : ∀ p ∈ n, p ∈ n') : News h₀ L h n := fun p hp => N p (hs p hp)
section
variable {prog : Program} {w : World} {A : Around} {E : Value → Shared → Prop} {hz0 : Heap} {gs : Array GenState} {dr : Drawn} {tk₀ : Nat} {os : OsState} {env : Env} {h₀ : Heap} {x : Str} {body : List Stmt} {Q : Flow → Shared → Prop}
noncomputable def TurnEd (h₀ : Heap) (L : Addr) (J : (Str → Option Value) → List (Addr × Obj) → Prop) (I : Addr) (io : Obj) (gs : Array GenState) (dr : Drawn) (os : OsState) (s₂ : Shared) : Prop :=
  ∃ h' tk m' nx, s₂ = ⟨h', gs, dr, tk, os⟩ ∧ Fr h₀ L h' m' ∧ News h₀ L h' ((I, io) :: nx) ∧ (∀ p ∈ nx, p.1 ≠ I) ∧ J m' nx
noncomputable def TurnQ (h₀ : Heap) (L : Addr) (J : (Str → Option Value) → List (Addr × Obj) → Prop) (I : Addr) (io : Obj) (gs : Array GenState) (dr : Drawn) (os : OsState) (Q : Flow → Shared → Prop) (f : Flow) (s₂ : Shared) : Prop :=
  match f with
  | .ret v => Q (.ret v) s₂
  | .brk => Q .next s₂
  | _ => TurnEd h₀ L J I io gs dr os s₂
theorem turnEd {L : Addr} {J : (Str → Option Value) → List (Addr × Obj) → Prop} {I : Addr} {io : Obj} {h' : Heap} {tk : Nat} {m' : Str → Option Value} {all : List (Addr × Obj)}
    (F : Fr h₀ L h' m') (N : News h₀ L h' all) (nx : List (Addr × Obj)) (sub : ∀ p ∈ (I, io) :: nx, p ∈ all) (off : ∀ p ∈ nx, p.1 ≠ I) (hj : J m' nx) : TurnEd h₀ L J I io gs dr os ⟨h', gs, dr, tk, os⟩ :=
  ⟨h', tk, m', nx, rfl, F, fun p hp => N p (sub p hp), off, hj⟩

/-- a for over a list of the ledger, by what holds ahead of each turn -/
theorem for_led {l : Addr} {vs : List Value} {n : Nat} {m₀ : Str → Option Value} {news : List (Addr × Obj)} (J : Nat → (Str → Option Value) → List (Addr × Obj) → Prop)
    (hh : A.handled = none) (F : Fr h₀ env.locals hz0 m₀) (N : News h₀ env.locals hz0 news) (hl : (l, listOf vs.toArray n) ∈ news)
    (h0 : J 0 m₀ news) (keep : ∀ i m nx, J i m nx → (l, listOf vs.toArray n) ∈ nx)
    (turn : ∀ i v m₁ nx I io h tk (W : Flow → Shared → Prop), (∀ f s, TurnQ h₀ env.locals (J (i + 1)) I io gs dr os Q f s → W f s) → vs[i]? = some v → J i m₁ nx → (∀ p ∈ nx, p.1 ≠ I) → Fr h₀ env.locals h (fun y => if y = x then some v else m₁ y) → News h₀ env.locals h ((I, io) :: nx) →
      wpAny (model prog w) A (execs body env) W E ⟨h, gs, dr, tk, os⟩)
    (done : ∀ m₁ nx h tk, J vs.length m₁ nx → Fr h₀ env.locals h m₁ → News h₀ env.locals h nx → Q .next ⟨h, gs, dr, tk, os⟩) :
    wpAny (model prog w) A (pyIter (.ref l)) (fun it s₂ => LoopAtV prog w A h₀ env x body Q E it s₂) E ⟨hz0, gs, dr, tk₀, os⟩ := by
  have hls : hz0.IsList l vs.toArray := ⟨_, N.get hl, rfl, _, rfl⟩
  have hlt : l < hz0.objs.size := Heap.lt_size (N.get hl)
  have hne : l ≠ hz0.objs.size := Nat.ne_of_lt hlt
  refine wpAny_pyIter_list hls ?_
  have W := Walks.list (prog := prog) (w := w) hh hz0.objs.size l hne vs.toArray
  refine ⟨_, _, _, _, _, _, m₀, news, J, rfl, W, ?_, ?_, ?_, ⟨⟨_, Heap.get?_push_size _ rfl, rfl, rfl⟩, hls.at fun o e => Heap.get?_push_of_some _ e⟩, F.push _, (fun p hp => ⟨Heap.get?_push_of_some _ (N p hp).1, (N p hp).2⟩), h0, ?_, ?_⟩
  · intro hm
    rcases List.mem_cons.mp hm with e | hm
    · exact absurd F.ns.lt (e ▸ Nat.lt_irrefl _)
    · exact (N _ hl).2.1 (List.mem_singleton.mp hm).symm
  · intro b hb
    rw [List.mem_singleton.mp hb]
    exact next_is_new F
  · intro p hp hI
    exact absurd (Heap.lt_size (N p hp).1) ((List.mem_singleton.mp hI) ▸ Nat.lt_irrefl _)
  · rintro i v m₁ news₁ s₁ own ⟨hh', tk', rfl⟩ hin hP hJ hoff hown hget hall hst F₁ N₁
    obtain ⟨io, hio, _⟩ := id hst.1
    have hmem := hall hz0.objs.size (by simp) (next_is_new F) _ hio
    have off1 : ∀ p ∈ news₁, p.1 ≠ hz0.objs.size := fun p hp e => hoff p hp (by simp [e])
    have N₂ : News h₀ env.locals hh' ((hz0.objs.size, io) :: news₁) := fun p hp => by
      rcases List.mem_cons.mp hp with rfl | hp
      · exact N₁ _ (List.mem_append_left _ hmem)
      · exact N₁ _ (List.mem_append_right _ hp)
    refine wpAny_mono (turn i v m₁ news₁ _ io hh' tk' _ (fun _ _ x => x) (by simpa using hP) hJ off1 F₁ N₂) (fun f s₂ p => ?_) fun _ _ e => e
    have fin : TurnEd h₀ env.locals (J (i + 1)) hz0.objs.size io gs dr os s₂ → LoopStepU h₀ env.locals [hz0.objs.size] own (J (i + 1)) ⟨hh', gs, dr, tk', os⟩ .next s₂ := by
      rintro ⟨h', tk, m', nx, e, F', N', ho, hj⟩
      refine ⟨rfl, h', tk, m', nx, e, F', fun p hp => ?_, fun p hp hI => ho p hp (List.mem_singleton.mp hI), hj⟩
      rcases List.mem_append.mp hp with hp | hp
      · have h1 : hh'.get? p.1 = some p.2 := hget p hp
        rcases List.mem_cons.mp (hown p hp) with h2 | h2
        · rw [h2, hio] at h1
          have h3 : p = (hz0.objs.size, io) := Prod.ext h2 (Option.some.inj h1).symm
          rw [h3]; exact N' _ List.mem_cons_self
        · have h2 := List.mem_singleton.mp h2
          have hk1 := N₂ _ (List.mem_cons_of_mem _ (keep i _ _ hJ))
          rw [h2, hk1.1] at h1
          have h3 : p = (l, listOf vs.toArray n) := Prod.ext h2 (Option.some.inj h1).symm
          rw [h3]; exact N' _ (List.mem_cons_of_mem _ (keep _ _ _ hj))
      · exact N' _ (List.mem_cons_of_mem _ hp)
    cases f with
    | ret v => exact .ret p
    | brk => exact .brk p
    | next => exact .next (fin p)
    | cont => exact .cont (fin p)
  · rintro h' tk m' news' F' N' _ hJ
    exact done m' news' h' tk (by simpa using hJ) F' N'

/-- a for over a range -/
theorem for_rng {r : Addr} {a₀ b₀ : Int} {t₀ u₀ v₀ : Tok} {n : Nat} {m₀ : Str → Option Value} {news : List (Addr × Obj)} (J : Nat → (Str → Option Value) → List (Addr × Obj) → Prop)
    (hh : A.handled = none) (hr : IsRange hz0 r a₀ b₀ 1 t₀ u₀ v₀) (hsmall : Builtin.Range.small a₀ b₀ 1 = true) (hn : Builtin.Range.rangeSize a₀ b₀ 1 = (n : Int)) (F : Fr h₀ env.locals hz0 m₀) (N : News h₀ env.locals hz0 news)
    (h0 : J 0 m₀ news)
    (turn : ∀ i t m₁ nx I io h tk (W : Flow → Shared → Prop), (∀ f s, TurnQ h₀ env.locals (J (i + 1)) I io gs dr os Q f s → W f s) → i < n → J i m₁ nx → (∀ p ∈ nx, p.1 ≠ I) → Fr h₀ env.locals h (fun y => if y = x then some (.int (a₀ + (i : Int)) t) else m₁ y) → News h₀ env.locals h ((I, io) :: nx) →
      wpAny (model prog w) A (execs body env) W E ⟨h, gs, dr, tk, os⟩)
    (done : ∀ m₁ nx h tk, J n m₁ nx → Fr h₀ env.locals h m₁ → News h₀ env.locals h nx → Q .next ⟨h, gs, dr, tk, os⟩) :
    wpAny (model prog w) A (pyIter (.ref r)) (fun it s₂ => LoopAtV prog w A h₀ env x body Q E it s₂) E ⟨hz0, gs, dr, tk₀, os⟩ := by
  refine wpAny_pyIter_range hr hsmall ?_
  have W : Walks prog w A hz0.objs.size [hz0.objs.size] [hz0.objs.size] n (fun i v => i < n ∧ ∃ t, v = .int (a₀ + i * 1) t)
      (fun i h => IsRangeIter h hz0.objs.size (a₀ + (i : Nat) * 1) ((n : Int) - (i : Nat)) 1) := (Walks.range hh _ a₀ 1 n).bound
  have hnew := next_is_new F
  refine ⟨_, _, _, n, _, _, m₀, news, J, rfl, W, ?_, ?_, ?_, (by show IsRangeIter _ _ _ _ _; rw [hn]; simpa using Heap.get?_push_size _ rfl), F.push _, (fun p hp => ⟨Heap.get?_push_of_some _ (N p hp).1, (N p hp).2⟩), h0, ?_, ?_⟩
  · intro hm
    exact absurd F.ns.lt ((List.mem_singleton.mp hm) ▸ Nat.lt_irrefl _)
  · intro b hb
    rw [List.mem_singleton.mp hb]
    exact hnew
  · intro p hp hI
    exact absurd (Heap.lt_size (N p hp).1) ((List.mem_singleton.mp hI) ▸ Nat.lt_irrefl _)
  · rintro i v m₁ news₁ s₁ own ⟨hh', tk', rfl⟩ hin ⟨_, t, rfl⟩ hJ hoff hown hget hall hst F₁ N₁
    obtain ⟨io, hio⟩ : ∃ io, hh'.get? hz0.objs.size = some io := ⟨_, hst⟩
    have hmem := hall hz0.objs.size (List.mem_singleton.mpr rfl) hnew _ hio
    have off1 : ∀ p ∈ news₁, p.1 ≠ hz0.objs.size := fun p hp e => hoff p hp (by simp [e])
    have e1 : a₀ + (i : Int) * 1 = a₀ + (i : Int) := by rw [Int.mul_one]
    rw [e1] at F₁
    have N₂ : News h₀ env.locals hh' ((hz0.objs.size, io) :: news₁) := fun p hp => by
      rcases List.mem_cons.mp hp with rfl | hp
      · exact N₁ _ (List.mem_append_left _ hmem)
      · exact N₁ _ (List.mem_append_right _ hp)
    refine wpAny_mono (turn i t m₁ news₁ _ io hh' tk' _ (fun _ _ x => x) hin hJ off1 F₁ N₂) (fun f s₂ p => ?_) fun _ _ e => e
    have fin : TurnEd h₀ env.locals (J (i + 1)) hz0.objs.size io gs dr os s₂ → LoopStepU h₀ env.locals [hz0.objs.size] own (J (i + 1)) ⟨hh', gs, dr, tk', os⟩ .next s₂ := by
      rintro ⟨h', tk, m', nx, e, F', N', ho, hj⟩
      refine ⟨rfl, h', tk, m', nx, e, F', fun p hp => ?_, fun p hp hI => ho p hp (List.mem_singleton.mp hI), hj⟩
      rcases List.mem_append.mp hp with hp | hp
      · have h1 : hh'.get? p.1 = some p.2 := hget p hp
        have h2 := List.mem_singleton.mp (hown p hp)
        rw [h2, hio] at h1
        have h3 : p = (hz0.objs.size, io) := Prod.ext h2 (Option.some.inj h1).symm
        rw [h3]; exact N' _ List.mem_cons_self
      · exact N' _ (List.mem_cons_of_mem _ hp)
    cases f with
    | ret v => exact .ret p
    | brk => exact .brk p
    | next => exact .next (fin p)
    | cont => exact .cont (fin p)
  · rintro h' tk m' news' F' N' _ hJ
    exact done m' news' h' tk hJ F' N'
end
section
variable {prog : Program} {w : World} {A : Around} {E : Value → Shared → Prop} {hz0 : Heap} {gs : Array GenState} {dr : Drawn} {tk₀ : Nat} {os : OsState} {env : Env} {h₀ : Heap} {L : Addr} {Q : Flow → Shared → Prop}
/-- what a while leaves -/
noncomputable def WhEx (h₀ : Heap) (L : Addr) (gs : Array GenState) (dr : Drawn) (os : OsState) (JE : (Str → Option Value) → List (Addr × Obj) → Prop) (s₂ : Shared) : Prop :=
  ∃ h tk m nx, s₂ = ⟨h, gs, dr, tk, os⟩ ∧ Fr h₀ L h m ∧ News h₀ L h nx ∧ JE m nx
noncomputable def WhQ (h₀ : Heap) (L : Addr) (gs : Array GenState) (dr : Drawn) (os : OsState) (J : Nat → (Str → Option Value) → List (Addr × Obj) → Prop) (JE : (Str → Option Value) → List (Addr × Obj) → Prop) (Q : Flow → Shared → Prop) (n : Nat) (f : Flow) (s₂ : Shared) : Prop :=
  match f with
  | .ret v => Q (.ret v) s₂
  | .brk => WhEx h₀ L gs dr os JE s₂
  | _ => ∃ h tk m nx n', s₂ = ⟨h, gs, dr, tk, os⟩ ∧ Fr h₀ L h m ∧ News h₀ L h nx ∧ n' < n ∧ J n' m nx
theorem while_led {test : PySem.Expr} {body : List Stmt} {pos : Pos} {m : Str → Option Value} {news : List (Addr × Obj)} (J : Nat → (Str → Option Value) → List (Addr × Obj) → Prop) (JE : (Str → Option Value) → List (Addr × Obj) → Prop) {n₀ : Nat}
    (F : Fr h₀ L hz0 m) (N : News h₀ L hz0 news) (hJ : J n₀ m news)
    (turn : ∀ n m₁ news₁ h₁ tk₁ (W : Flow → Shared → Prop) (V : Shared → Prop), (∀ f s, WhQ h₀ L gs dr os J JE Q n f s → W f s) → (∀ s, WhEx h₀ L gs dr os JE s → V s) → Fr h₀ L h₁ m₁ → News h₀ L h₁ news₁ → J n m₁ news₁ →
      wpAny (model prog w) A (PySem.isTrue test env (eval test env)) (fun b s₂ =>
        if b = true then wpAny (model prog w) A (execs body env) W E s₂ else V s₂) E ⟨h₁, gs, dr, tk₁, os⟩)
    (done : ∀ m nx h tk, JE m nx → Fr h₀ L h m → News h₀ L h nx → Q .next ⟨h, gs, dr, tk, os⟩)
    (hE : PassesOwn (model prog w) A env E := by passes_own) :
    wpAny (model prog w) A (exec (.While test body [] pos) env) Q E ⟨hz0, gs, dr, tk₀, os⟩ := by
  have core : wpAny (model prog w) A (exec (.While test body [] pos) env) (fun f s₂ => match f with | .next => WhEx h₀ L gs dr os JE s₂ | f => Q f s₂) E ⟨hz0, gs, dr, tk₀, os⟩ := by
    refine While_inv2 J F N hJ (fun n m₁ news₁ h₁ tk₁ F₁ N₁ J₁ => ?_) hE
    refine wpAny_mono (turn n m₁ news₁ h₁ tk₁ _ _ (fun _ _ x => x) (fun _ x => x) F₁ N₁ J₁) (fun b s₂ hb => ?_) fun _ _ x => x
    cases b with
    | false =>
      simp only [Bool.false_eq_true, if_false] at hb ⊢
      exact hb
    | true =>
      simp only [if_true] at hb ⊢
      refine wpAny_mono hb (fun f s₃ hf => ?_) fun _ _ x => x
      cases f with
      | next => exact hf
      | cont => exact hf
      | brk => exact hf
      | ret v => exact hf
  refine wpAny_mono core (fun f s₂ hf => ?_) fun _ _ x => x
  cases f with
  | next =>
    obtain ⟨h, tk, m, nx, rfl, F', N', hj⟩ := hf
    exact done m nx h tk hj F' N'
  | cont => exact hf
  | brk => exact hf
  | ret v => exact hf
theorem whQ_end {J : Nat → (Str → Option Value) → List (Addr × Obj) → Prop} {JE : (Str → Option Value) → List (Addr × Obj) → Prop} {n n' : Nat} {h : Heap} {tk : Nat} {m : Str → Option Value} {nx : List (Addr × Obj)} (F : Fr h₀ L h m) (N : News h₀ L h nx) (hn : n' < n) (hj : J n' m nx) :
    WhQ h₀ L gs dr os J JE Q n .next ⟨h, gs, dr, tk, os⟩ := ⟨h, tk, m, nx, n', rfl, F, N, hn, hj⟩
theorem whEx_end {JE : (Str → Option Value) → List (Addr × Obj) → Prop} {h : Heap} {tk : Nat} {m : Str → Option Value} {nx : List (Addr × Obj)} (F : Fr h₀ L h m) (N : News h₀ L h nx) (hj : JE m nx) :
    WhEx h₀ L gs dr os JE ⟨h, gs, dr, tk, os⟩ := ⟨h, tk, m, nx, rfl, F, N, hj⟩
end
section
open LCg LCt
variable {prog : Program} {w : World} {A : Around} {h₀ : Heap} {L : Addr} {m : Str → Option Value} {env : Env} {s : Shared}
theorem compEnd_map {s₁ s₂ : Shared} {I C D : Addr} {oI oC oD : Obj} {S : List (Addr × Obj) → Prop} {r r' : Value → List (Addr × Obj) → Prop} {y : Value} (h : CompEnd h₀ L m s₁ I oI C oC D oD S r y s₂) (hr : ∀ nx, r y nx → r' y nx) :
    CompEnd h₀ L m s₁ I oI C oC D oD S r' y s₂ := by
  obtain ⟨h', tk, nx, e, F, N, o, hS, hR⟩ := h
  exact ⟨h', tk, nx, e, F, N, o, hS, hr _ hR⟩
theorem comp_led {elt : Expr} {x : Str} {scope : Scope} {cl : List (Str × Addr)} {S : List (Addr × Obj) → Prop} {P : Nat → Value → Prop} {Fin : List Value → List (Addr × Obj) → Prop} (J : Nat → List Value → List (Addr × Obj) → Prop) {n : Nat}
    (turn : ∀ i ys nx v I oI C oC D m₂ h tk (E' : Value → Shared → Prop), i < n → J i ys nx → P i v → NsObj oC m₂ → m₂ x = some v → Fr h₀ L h m → News h₀ L h ((I, oI) :: (C, oC) :: (D, lst ys) :: nx) → Off3 I C D nx → ((@Ne Nat I C) ∧ (@Ne Nat I D) ∧ (@Ne Nat C D)) →
      wpAny (model prog w) A (eval elt (compEnvC scope cl C env)) (CompEnd h₀ L m ⟨h, s.gens, s.drawn, tk, s.os⟩ I oI C oC D (lst ys) S (fun y nx' => J (i + 1) (ys ++ [y]) nx')) E' ⟨h, s.gens, s.drawn, tk, s.os⟩)
    (fin : ∀ ys nx, J n ys nx → Fin ys nx) : ∀ (k i : Nat) (ys : List Value) (nx : List (Addr × Obj)), i + k = n → J i ys nx → CompRest prog w A h₀ L m env elt x scope cl s S P Fin k i ys nx
  | 0, i, ys, nx, e, hj => CompRest.zero (fin ys nx (by have h : i = n := (by omega); subst h; exact hj))
  | k + 1, i, ys, nx, e, hj => CompRest.succ fun v I oI C oC D m₂ h tk E' hP hO hm F N o ne => by
    refine wpAny_mono (turn i ys nx v I oI C oC D m₂ h tk E' (by omega) hj hP hO hm F N o ne) (fun y s₂ hy => ?_) fun _ _ z => z
    exact compEnd_map hy fun nx' hj' => comp_led J turn fin k (i + 1) (ys ++ [y]) nx' (by omega) hj'
theorem comp_ledT {ct elt : Expr} {x : Str} {scope : Scope} {cl : List (Str × Addr)} {S : List (Addr × Obj) → Prop} {P : Nat → Value → Prop} {Fin : List Value → List (Addr × Obj) → Prop} (J : Nat → List Value → List (Addr × Obj) → Prop) {n : Nat}
    (turn : ∀ i ys nx v I oI C oC D m₂ h tk (E' : Value → Shared → Prop), i < n → J i ys nx → P i v → NsObj oC m₂ → m₂ x = some v → Fr h₀ L h m → News h₀ L h ((I, oI) :: (C, oC) :: (D, lst ys) :: nx) → Off3 I C D nx → ((@Ne Nat I C) ∧ (@Ne Nat I D) ∧ (@Ne Nat C D)) →
      wpAny (model prog w) A (isTrue ct (compEnvC scope cl C env) (eval ct (compEnvC scope cl C env))) (fun ok s' => if ok = true then
        wpAny (model prog w) A (eval elt (compEnvC scope cl C env)) (CompEnd h₀ L m ⟨h, s.gens, s.drawn, tk, s.os⟩ I oI C oC D (lst ys) S (fun y nx' => J (i + 1) (ys ++ [y]) nx')) E' s'
        else CompEnd h₀ L m ⟨h, s.gens, s.drawn, tk, s.os⟩ I oI C oC D (lst ys) S (fun _ nx' => J (i + 1) ys nx') Value.none s') E' ⟨h, s.gens, s.drawn, tk, s.os⟩)
    (fin : ∀ ys nx, J n ys nx → Fin ys nx) : ∀ (k i : Nat) (ys : List Value) (nx : List (Addr × Obj)), i + k = n → J i ys nx → CompRestT prog w A h₀ L m env ct elt x scope cl s S P Fin k i ys nx
  | 0, i, ys, nx, e, hj => CompRestT.zero (fin ys nx (by have h : i = n := (by omega); subst h; exact hj))
  | k + 1, i, ys, nx, e, hj => CompRestT.succ fun v I oI C oC D m₂ h tk E' hP hO hm F N o ne => by
    refine wpAny_mono (turn i ys nx v I oI C oC D m₂ h tk E' (by omega) hj hP hO hm F N o ne) (fun ok s' hk => ?_) fun _ _ z => z
    cases ok with
    | true =>
      simp only [if_true] at hk ⊢
      exact wpAny_mono hk (fun y s₂ hy => compEnd_map hy fun nx' hj' => comp_ledT J turn fin k (i + 1) (ys ++ [y]) nx' (by omega) hj') fun _ _ z => z
    | false =>
      simp only [Bool.false_eq_true, if_false] at hk ⊢
      exact compEnd_map hk fun nx' hj' => comp_ledT J turn fin k (i + 1) ys nx' (by omega) hj'
end
end
section
open PySem PySem.W PyProof.Rows PySem.Calls PySem.Spec
/-- the order of pairs -/
noncomputable def ltP (a b : Int × Str) : Bool := if a.1 = b.1 then decide (a.2.cps.toList < b.2.cps.toList) else decide (a.1 < b.1)
abbrev tupOf (vs : List Value) (n : Nat) : Obj := { cls := .type "tuple", data := .seq vs.toArray n }
section
variable {prog : Program} {w : World} {A : Around} {E : Value → Shared → Prop} {s : Shared} {Q : Bool → Shared → Prop}
theorem eqBool_int {i j : Int} {t u : Tok} (h : Q (decide (i = j)) s) : wpAny (model prog w) A (eqBool (.int i t) (.int j u)) Q E s := by
  unfold eqBool
  refine wpAny_holding ?_
  refine wpAny_ite_split (fun hab => ?_) (fun _ => ?_)
  · have : i = j := by have := eq_of_beq hab; injection this
    exact wpAny_bind (wpAny_rule (wpAny_pure (by simpa [this] using h)))
  · refine wpAny_bind (eq_int (wpAny_truthy_bool ?_))
    have e : (i == j) = decide (i = j) := by by_cases q : i = j <;> simp [q]
    rw [e]; exact h
theorem eqBool_str {x y : Str} {t u : Tok} (h : Q (decide (x = y)) s) : wpAny (model prog w) A (eqBool (.str x t) (.str y u)) Q E s := by
  unfold eqBool
  refine wpAny_holding ?_
  refine wpAny_ite_split (fun hab => ?_) (fun _ => ?_)
  · have : x = y := by have := eq_of_beq hab; injection this
    exact wpAny_bind (wpAny_rule (wpAny_pure (by simpa [this] using h)))
  · refine wpAny_bind (eq_str (wpAny_truthy_bool ?_))
    have e : (x == y) = decide (x = y) := by by_cases q : x = y <;> simp [q]
    rw [e]; exact h
theorem rc_lt_int {i j : Int} {t u : Tok} {Q : Value → Shared → Prop} (h : Q (.bool (decide (i < j))) s) : wpAny (model prog w) A (richCompare .Lt (.int i t) (.int j u)) Q E s := lt_int h
theorem rc_lt_str {x y : Str} {t u : Tok} {Q : Value → Shared → Prop} (h : Q (.bool (decide (x.cps.toList < y.cps.toList))) s) : wpAny (model prog w) A (richCompare .Lt (.str x t) (.str y u)) Q E s := lt_str h
theorem eqBool_intT {i j : Int} {t u : Tok} (e : i = j) (h : Q true s) : wpAny (model prog w) A (eqBool (.int i t) (.int j u)) Q E s := eqBool_int (by rw [decide_eq_true e]; exact h)
theorem eqBool_intF {i j : Int} {t u : Tok} (e : ¬ i = j) (h : Q false s) : wpAny (model prog w) A (eqBool (.int i t) (.int j u)) Q E s := eqBool_int (by rw [decide_eq_false e]; exact h)
theorem eqBool_strT {x y : Str} {t u : Tok} (e : x = y) (h : Q true s) : wpAny (model prog w) A (eqBool (.str x t) (.str y u)) Q E s := eqBool_str (by rw [decide_eq_true e]; exact h)
theorem eqBool_strF {x y : Str} {t u : Tok} (e : ¬ x = y) (h : Q false s) : wpAny (model prog w) A (eqBool (.str x t) (.str y u)) Q E s := eqBool_str (by rw [decide_eq_false e]; exact h)
end
theorem str_lt_irrefl (x : List Nat) : ¬ x < x := List.lt_irrefl x
theorem str_cps_eq {x y : Str} (h : x.cps.toList = y.cps.toList) : x = y := by
  cases x; cases y; simp only [PySem.Str.mk.injEq]; exact Array.toList_inj.mp h
set_option maxHeartbeats 4000000 in
theorem tup_lt_tree (a b : Addr) (i j : Int) (x y : Str) (t u t' u' : Tok) (n k : Nat) :
    Meets (Builtin.«tuple.__lt__» ⟨[.ref a, .ref b], []⟩)
      (fun _ R s => s.heap.get? a = some (tupOf [.int i t, .str x u] n) ∧ s.heap.get? b = some (tupOf [.int j t', .str y u'] k) ∧ R (.ok (.ret (.bool (ltP (i, x) (j, y))))) s) :=
  .of_wp fun prog w A R s h => by
    obtain ⟨hp, g, d, tk, os⟩ := s; obtain ⟨hl, hb, h⟩ := h
    have f2 := AutoSeq1.sub_tuple_tuple
    by_cases e1 : i = j
    · by_cases e2 : x = y
      · wp_walk using wpAny_loadPart' hl, wpAny_loadPart' hb, eqBool_intT e1, eqBool_strT e2
        have e3 : ltP (i, x) (j, y) = false := by simp [ltP, e1, e2, str_lt_irrefl]
        rw [e3] at h
        exact ⟨_, rfl, h⟩
      · wp_walk using wpAny_loadPart' hl, wpAny_loadPart' hb, eqBool_intT e1, eqBool_strF e2, rc_lt_str
        have e3 : ltP (i, x) (j, y) = decide (x.cps.toList < y.cps.toList) := by simp [ltP, e1]
        rw [e3] at h
        exact ⟨_, rfl, h⟩
    · wp_walk using wpAny_loadPart' hl, wpAny_loadPart' hb, eqBool_intF e1, rc_lt_int
      have e3 : ltP (i, x) (j, y) = decide (i < j) := by simp [ltP, e1]
      rw [e3] at h
      exact ⟨_, rfl, h⟩
section
variable {prog : Program} {w : World} {A : Around} {E : Value → Shared → Prop} {s : Shared} {Q : Value → Shared → Prop}
theorem tup_lt {a b : Addr} {i j : Int} {x y : Str} {t u t' u' : Tok} {n k : Nat} (ha : s.heap.get? a = some (tupOf [.int i t, .str x u] n)) (hb : s.heap.get? b = some (tupOf [.int j t', .str y u'] k)) (hu : A.units < cLine)
    (h : Q (.bool (ltP (i, x) (j, y))) s) : wpAny (model prog w) A (compareOp .Lt (.ref a) (.ref b)) Q E s :=
  richCompare_meets_room (op := .Lt) ⟨_, ha, rfl⟩ ⟨_, hb, rfl⟩ F.slot_tuple_lt F.entry_tuple_lt (F.args_tuple_lt_2 _ _) (tup_lt_tree a b i j x y t u t' u' n k)
    ⟨ha, hb, show Value.bool (ltP (i, x) (j, y)) ≠ Value.notImplemented ∧ Q (.bool (ltP (i, x) (j, y))) s from ⟨(fun x => nomatch x), h⟩⟩ hu
end
end
section
open PySem PySem.W PyProof.Rows PySem.Calls PySem.Spec
noncomputable def onTop (m : Str → Option Value) : List (Str × Value) → Str → Option Value
  | [] => m
  | (x, v) :: r => fun y => if y = x then some v else onTop m r y
theorem onTop_eq {m : Str → Option Value} : ∀ {ps : List (Str × Value)}, (∀ p ∈ ps, m p.1 = some p.2) → onTop m ps = m
  | [], _ => rfl
  | (x, v) :: r, H => by
    funext y
    show (if y = x then some v else onTop m r y) = m y
    by_cases h : y = x
    · subst h; rw [if_pos rfl]; exact (H _ (.head _)).symm
    · rw [if_neg h, onTop_eq fun p hp => H p (.tail _ hp)]
theorem ft0 {m : Str → Option Value} : ∀ p ∈ ([] : List (Str × Value)), m p.1 = some p.2 := fun _ h => nomatch h
theorem ftA {m : Str → Option Value} {k : Str} {v : Value} {r : List (Str × Value)} (e : m k = some v) (H : ∀ p ∈ r, m p.1 = some p.2) : ∀ p ∈ (k, v) :: r, m p.1 = some p.2 := fun p hp => by
  rcases List.mem_cons.mp hp with rfl | hp
  · exact e
  · exact H p hp
theorem frTop {h₀ h : Heap} {L : Addr} {m : Str → Option Value} (ps : List (Str × Value)) (F : Fr h₀ L h m) (H : ∀ p ∈ ps, m p.1 = some p.2) : Fr h₀ L h (onTop m ps) := by rw [onTop_eq H]; exact F
theorem frTopC {h₀ h : Heap} {L : Addr} {m : Str → Option Value} (k : Str) (v : Value) (ps : List (Str × Value)) (F : Fr h₀ L h fun y => if y = k then some v else m y) (H : ∀ p ∈ ps, m p.1 = some p.2) : Fr h₀ L h (onTop m ((k, v) :: ps)) := by
  show Fr h₀ L h (fun y => if y = k then some v else onTop m ps y)
  rw [onTop_eq H]
  exact F
section
variable {prog : Program} {w : World} {A : Around} {E : Value → Shared → Prop} {s : Shared} {h₀ : Heap} {L : Addr} {news : List (Addr × Obj)}
theorem item_led {value slice : PySem.Expr} {l : Addr} {vs : List Value} {n : Nat} {k : Int} {u : Tok} {v : Value} {Q : Value → Shared → Prop}
    (N : News h₀ L s.heap news) (hm : (l, listOf vs.toArray n) ∈ news) (h0 : 0 ≤ k) (hhi : k < 2 ^ 63) (hx : vs[k.toNat]? = some v) (h : Q v s)
    (hs : subscripted slice false (.ref l) (.int k u) = operate [.ref l, .int k u] (getItem (.ref l) (.int k u)) := by with_unfolding_all rfl) :
    wpAny (model prog w) A (subscriptTail value slice (.ref l) (.int k u)) Q E s :=
  have hL : s.heap.IsList l vs.toArray := ⟨_, N.get hm, rfl, _, rfl⟩
  tail_any hL.typeIs slot_list_getitem.lookup (wpAny_getItem_list hL h0 hhi (by simpa using hx) h) hs
end
section
variable {prog : Program} {w : World} {A : Around} {E : Value → Shared → Prop} {hp : Heap} {gs : Array GenState} {dr : Drawn} {tk₀ : Nat} {os : OsState} {h₀ : Heap} {L D : Addr} {m : Str → Option Value} {news news' : List (Addr × Obj)} {vs : List Value} {n : Nat} {k : Int} {t : Tok}
theorem set_led {v : Value} {Q : Unit → Shared → Prop} (F : Fr h₀ L hp m) (N : News h₀ L hp news) (U : Upd D (listOf vs.toArray n) (listOf (vs.set k.toNat v).toArray n) news news') (h0 : 0 ≤ k) (h1 : k < vs.length) (hfit : k < 2 ^ 63)
    (h : ∀ h', Fr h₀ L h' m → News h₀ L h' news' → Q () ⟨h', gs, dr, tk₀, os⟩) :
    wpAny (model prog w) A (setItem (.ref D) (.int k t) v) Q E ⟨hp, gs, dr, tk₀, os⟩ := by
  obtain ⟨pre, post, rfl, rfl, a, b⟩ := U.split
  have z := N (D, listOf vs.toArray n) (List.mem_append.mpr (.inr (.head _)))
  have hs : vs.toArray.size = vs.length := by rw [List.size_toArray]
  refine ki_setAt z.1 h0 hfit (by omega) (h _ (F.change (Heap.SameBut.update ..) z.2.1 z.2.2) (ki_turn _ N a b ?_ ?_))
  · show vs.toArray.setIfInBounds k.toNat v = (vs.set k.toNat v).toArray
    apply Array.toList_inj.mp
    simp
  · simp
end
section
variable {prog : Program} {w : World} {A : Around} {E : Value → Shared → Prop} {hp : Heap} {gs : Array GenState} {dr : Drawn} {tk₀ : Nat} {os : OsState} {h₀ : Heap} {L : Addr} {news : List (Addr × Obj)} {l : Addr} {vs : List Value} {n : Nat}
theorem len_led {Q : Value → Shared → Prop} (N : News h₀ L hp news) (hm : (l, listOf vs.toArray n) ∈ news) (hf : vs.length ≤ 2 ^ 24) (h : ∀ t tk, Q (.int (vs.length : Int) t) ⟨hp, gs, dr, tk, os⟩) :
    wpAny (model prog w) A (call (.builtin "len") [.ref l]) Q E ⟨hp, gs, dr, tk₀, os⟩ :=
  len_list (items := vs.toArray) ⟨_, N.get hm, rfl, _, rfl⟩ (by rw [List.size_toArray]; omega) (by rw [List.size_toArray]; exact h _ _)
theorem truthy_led {Q : Bool → Shared → Prop} (N : News h₀ L hp news) (hm : (l, listOf vs.toArray n) ∈ news) (hf : vs.length ≤ 2 ^ 24) (h : ∀ tk, Q (decide (0 < vs.length)) ⟨hp, gs, dr, tk, os⟩) :
    wpAny (model prog w) A (truthy (.ref l)) Q E ⟨hp, gs, dr, tk₀, os⟩ := by
  refine wpAny_truthy_list (items := vs.toArray) ⟨_, N.get hm, rfl, _, rfl⟩ (by rw [List.size_toArray]; omega) ?_
  have e : (!vs.toArray.isEmpty) = decide (0 < vs.length) := by cases vs <;> simp
  rw [e]; exact h _
end
section
variable {prog : Program} {w : World} {A : Around} {E : Value → Shared → Prop} {hp : Heap} {gs : Array GenState} {dr : Drawn} {tk₀ : Nat} {os : OsState} {h₀ : Heap} {L D : Addr} {m : Str → Option Value} {news news' : List (Addr × Obj)} {vs : List Value} {n : Nat}
theorem append_led {x : Value} {Q : Value → Shared → Prop} (F : Fr h₀ L hp m) (N : News h₀ L hp news) (U : Upd D (listOf vs.toArray n) (listOf (vs ++ [x]).toArray (n + 1)) news news') (hz : vs.length ≤ 2 ^ 24)
    (h : ∀ h', Fr h₀ L h' m → News h₀ L h' news' → Q .none ⟨h', gs, dr, tk₀, os⟩) : wpAny (model prog w) A (call (.builtin "list.append") [.ref D, x]) Q E ⟨hp, gs, dr, tk₀, os⟩ :=
  append_K (its := vs.toArray) F N (by simpa using U) h (by rw [List.size_toArray, sizeLine_eq]; omega)
end
theorem kl_last_eq : ∀ {vs : List Value} (h : 0 < vs.length), kl_last vs = some (vs.dropLast, vs.getLastD Value.none)
  | [_], _ => rfl
  | a :: b :: r, _ => by
    have ih := kl_last_eq (vs := b :: r) (by simp)
    show (match kl_last (b :: r) with | some (p, y) => some (a :: p, y) | none => some ([], a)) = _
    rw [ih]
    rfl
section
variable {prog : Program} {w : World} {A : Around} {E : Value → Shared → Prop} {hp h : Heap} {gs : Array GenState} {dr : Drawn} {tk₀ : Nat} {os : OsState} {value slice : PySem.Expr} {x : Str} {t : Tok} {h₀ : Heap} {L a : Addr} {m : Str → Option Value} {news : List (Addr × Obj)} {Q : Value → Shared → Prop}
theorem slice_len_neg (x : Str) (j : Int) (h1 : j < 0) (h2 : 0 ≤ (x.length : Int) + j) : ((Txt.slice x none (some j)).length : Int) = x.length + j := by
  have e : Builtin.Str.strSliceIndices none (some j) 1 x.length = List.range ((x.length : Int) + j).toNat := by
    unfold Builtin.Str.strSliceIndices sliceRange
    simp only [show (1 : Int) > 0 by decide, if_true, if_pos h1, Int.zero_add]
    have e1 : max 0 (min (j + (x.length : Int)) (x.length : Int)) = (x.length : Int) + j := by omega
    rw [e1]
    by_cases hz : (0 : Int) < (x.length : Int) + j
    · rw [if_pos hz]
      have e2 : ((x.length : Int) + j - 0 + 1 - 1) / 1 = (x.length : Int) + j := by rw [Int.ediv_one]; omega
      rw [e2]
      conv => rhs; rw [← List.map_id (List.range ((x.length : Int) + j).toNat)]
      exact List.map_congr_left fun k _ => by simp
    · rw [if_neg hz]
      have e3 : ((x.length : Int) + j).toNat = 0 := by omega
      rw [e3]; rfl
  unfold Txt.slice
  rw [e]
  rw [if_neg (by simp only [List.length_range]; simp; omega)]
  show (((List.range ((x.length : Int) + j).toNat).filterMap (x.cps[·]?)).toArray.size : Int) = _
  rw [List.size_toArray]
  have e4 : ∀ n, n ≤ x.length → ((List.range n).filterMap (x.cps[·]?)).length = n := by
    intro n hn
    induction n with
    | zero => rfl
    | succ n ih =>
      have hlt : n < x.cps.size := hn
      have hx : x.cps[n]? = some (x.cps[n]'hlt) := Array.getElem?_eq_getElem hlt
      rw [List.range_succ, List.filterMap_append, List.length_append, ih (by omega)]
      simp [hx]
  rw [e4 _ (by omega)]
  omega
theorem slice_m_ns {j : Int} {uj : Tok} (F : Fr h₀ L h m) (N : News h₀ L h news) (ha : a = h.objs.size) (hh : hp = h.push { cls := .type "slice", data := .fields #[.none, .int j uj, .none] }) (hz : x.length ≤ 10000)
    (h0 : j < 0) (h1 : 0 ≤ (x.length : Int) + j)
    (hQ : ∀ h2 t' k, Fr h₀ L h2 m → News h₀ L h2 news → ((Txt.slice x none (some j)).length : Int) = x.length + j → Q (.str (Txt.slice x none (some j)) t') ⟨h2, gs, dr, k, os⟩)
    (hs : subscripted slice false (.str x t) (.ref a) = operate [.ref a, .str x t] (getItem (.str x t) (.ref a)) := by with_unfolding_all rfl)
    (ht : ∀ r, letTemporaryGo value (.str x t) r = pure () := by intro _; with_unfolding_all rfl) :
    wpAny (model prog w) A (subscriptTail value slice (.str x t) (.ref a)) Q E ⟨hp, gs, dr, tk₀, os⟩ := by
  subst hh; subst ha
  exact slice_strN_ns (s := ⟨h, gs, dr, tk₀, os⟩) F N (fun h2 t' k F2 N2 => hQ h2 t' k F2 N2 (slice_len_neg x j h0 h1)) hs ht (by rw [sizeLine_eq]; omega)
theorem slice_m_np {j : Int} {uj : Tok} (F : Fr h₀ L h m) (N : News h₀ L h news) (ha : a = h.objs.size) (hh : hp = h.push { cls := .type "slice", data := .fields #[.none, .int j uj, .none] }) (hz : x.length ≤ 10000) (h0 : 0 ≤ j) (h1 : j ≤ x.length)
    (hQ : ∀ h2 t' k, Fr h₀ L h2 m → News h₀ L h2 news → ((Txt.slice x none (some j)).length : Int) = j → Q (.str (Txt.slice x none (some j)) t') ⟨h2, gs, dr, k, os⟩)
    (hs : subscripted slice false (.str x t) (.ref a) = operate [.ref a, .str x t] (getItem (.str x t) (.ref a)) := by with_unfolding_all rfl)
    (ht : ∀ r, letTemporaryGo value (.str x t) r = pure () := by intro _; with_unfolding_all rfl) :
    wpAny (model prog w) A (subscriptTail value slice (.str x t) (.ref a)) Q E ⟨hp, gs, dr, tk₀, os⟩ := by
  subst hh; subst ha
  exact slice_strN_ns (s := ⟨h, gs, dr, tk₀, os⟩) F N (fun h2 t' k F2 N2 => hQ h2 t' k F2 N2 ((fact_slice_ns x j).1 h0 h1)) hs ht (by rw [sizeLine_eq]; omega)
theorem slice_m_n0 {j : Int} {uj : Tok} (F : Fr h₀ L h m) (N : News h₀ L h news) (ha : a = h.objs.size) (hh : hp = h.push { cls := .type "slice", data := .fields #[.none, .int j uj, .none] }) (hz : x.length ≤ 10000)
    (hQ : ∀ h2 t' k, Fr h₀ L h2 m → News h₀ L h2 news → (Txt.slice x none (some j)).length ≤ x.length → Q (.str (Txt.slice x none (some j)) t') ⟨h2, gs, dr, k, os⟩)
    (hs : subscripted slice false (.str x t) (.ref a) = operate [.ref a, .str x t] (getItem (.str x t) (.ref a)) := by with_unfolding_all rfl)
    (ht : ∀ r, letTemporaryGo value (.str x t) r = pure () := by intro _; with_unfolding_all rfl) :
    wpAny (model prog w) A (subscriptTail value slice (.str x t) (.ref a)) Q E ⟨hp, gs, dr, tk₀, os⟩ := by
  subst hh; subst ha
  exact slice_strN_ns (s := ⟨h, gs, dr, tk₀, os⟩) F N (fun h2 t' k F2 N2 => hQ h2 t' k F2 N2 (PyProof.Txt.length_slice_le _ _ _)) hs ht (by rw [sizeLine_eq]; omega)
theorem slice_m_s0 {j : Int} {uj : Tok} (F : Fr h₀ L h m) (N : News h₀ L h news) (ha : a = h.objs.size) (hh : hp = h.push { cls := .type "slice", data := .fields #[.int j uj, .none, .none] }) (hz : x.length ≤ 10000)
    (hQ : ∀ h2 t' k, Fr h₀ L h2 m → News h₀ L h2 news → (Txt.slice x (some j) none).length ≤ x.length → Q (.str (Txt.slice x (some j) none) t') ⟨h2, gs, dr, k, os⟩)
    (hs : subscripted slice false (.str x t) (.ref a) = operate [.ref a, .str x t] (getItem (.str x t) (.ref a)) := by with_unfolding_all rfl)
    (ht : ∀ r, letTemporaryGo value (.str x t) r = pure () := by intro _; with_unfolding_all rfl) :
    wpAny (model prog w) A (subscriptTail value slice (.str x t) (.ref a)) Q E ⟨hp, gs, dr, tk₀, os⟩ := by
  subst hh; subst ha
  exact slice_strN_sn (s := ⟨h, gs, dr, tk₀, os⟩) F N (fun h2 t' k F2 N2 => hQ h2 t' k F2 N2 (PyProof.Txt.length_slice_le _ _ _)) hs ht (by rw [sizeLine_eq]; omega)
theorem slice_all (x : Str) : Txt.slice x none none = x := by
  have e : Builtin.Str.strSliceIndices none none 1 x.length = List.range x.length := by
    unfold Builtin.Str.strSliceIndices sliceRange
    simp only [show (1 : Int) > 0 by decide, if_true]
    by_cases hz : (0 : Int) < (x.length : Int)
    · rw [if_pos hz]
      have e2 : ((x.length : Int) - 0 + 1 - 1) / 1 = (x.length : Int) := by rw [Int.ediv_one]; omega
      rw [e2]
      conv => rhs; rw [← List.map_id (List.range x.length)]
      exact List.map_congr_left fun k _ => by simp
    · rw [if_neg hz]
      have e3 : x.length = 0 := by omega
      rw [e3]; rfl
  unfold Txt.slice
  rw [e]
  rw [if_pos (by simp)]
theorem slice_m_nn (F : Fr h₀ L h m) (N : News h₀ L h news) (ha : a = h.objs.size) (hh : hp = h.push { cls := .type "slice", data := .fields #[.none, .none, .none] }) (hz : x.length ≤ 10000)
    (hQ : ∀ h2 t' k, Fr h₀ L h2 m → News h₀ L h2 news → x.length = x.length → Q (.str x t') ⟨h2, gs, dr, k, os⟩)
    (hs : subscripted slice false (.str x t) (.ref a) = operate [.ref a, .str x t] (getItem (.str x t) (.ref a)) := by with_unfolding_all rfl)
    (ht : ∀ r, letTemporaryGo value (.str x t) r = pure () := by intro _; with_unfolding_all rfl) :
    wpAny (model prog w) A (subscriptTail value slice (.str x t) (.ref a)) Q E ⟨hp, gs, dr, tk₀, os⟩ := by
  subst hh; subst ha
  exact slice_strN_nn (s := ⟨h, gs, dr, tk₀, os⟩) F N (fun h2 t' k F2 N2 => by rw [slice_all]; exact hQ h2 t' k F2 N2 rfl) hs ht (by rw [sizeLine_eq]; omega)
theorem slice_m_sn {j : Int} {uj : Tok} (F : Fr h₀ L h m) (N : News h₀ L h news) (ha : a = h.objs.size) (hh : hp = h.push { cls := .type "slice", data := .fields #[.int j uj, .none, .none] }) (hz : x.length ≤ 10000)
    (h0 : 0 ≤ j) (h1 : j ≤ x.length)
    (hQ : ∀ h2 t' k, Fr h₀ L h2 m → News h₀ L h2 news → ((Txt.slice x (some j) none).length : Int) = x.length - j → Q (.str (Txt.slice x (some j) none) t') ⟨h2, gs, dr, k, os⟩)
    (hs : subscripted slice false (.str x t) (.ref a) = operate [.ref a, .str x t] (getItem (.str x t) (.ref a)) := by with_unfolding_all rfl)
    (ht : ∀ r, letTemporaryGo value (.str x t) r = pure () := by intro _; with_unfolding_all rfl) :
    wpAny (model prog w) A (subscriptTail value slice (.str x t) (.ref a)) Q E ⟨hp, gs, dr, tk₀, os⟩ := by
  subst hh; subst ha
  exact slice_strN_sn (s := ⟨h, gs, dr, tk₀, os⟩) F N (fun h2 t' k F2 N2 => hQ h2 t' k F2 N2 ((fact_slice_sn x j).1 h0 h1)) hs ht (by rw [sizeLine_eq]; omega)
theorem slice_m_ss {i j : Int} {ui uj : Tok} (F : Fr h₀ L h m) (N : News h₀ L h news) (ha : a = h.objs.size) (hh : hp = h.push { cls := .type "slice", data := .fields #[.int i ui, .int j uj, .none] }) (hz : x.length ≤ 10000)
    (hQ : ∀ h2 t' k, Fr h₀ L h2 m → News h₀ L h2 news → (Txt.slice x (some i) (some j)).length ≤ x.length → Q (.str (Txt.slice x (some i) (some j)) t') ⟨h2, gs, dr, k, os⟩)
    (hs : subscripted slice false (.str x t) (.ref a) = operate [.ref a, .str x t] (getItem (.str x t) (.ref a)) := by with_unfolding_all rfl)
    (ht : ∀ r, letTemporaryGo value (.str x t) r = pure () := by intro _; with_unfolding_all rfl) :
    wpAny (model prog w) A (subscriptTail value slice (.str x t) (.ref a)) Q E ⟨hp, gs, dr, tk₀, os⟩ := by
  subst hh; subst ha
  exact slice_strN_ss (s := ⟨h, gs, dr, tk₀, os⟩) F N (fun h2 t' k F2 N2 => hQ h2 t' k F2 N2 (PyProof.Txt.length_slice_le _ _ _)) hs ht (by rw [sizeLine_eq]; omega)
theorem item_m {i : Int} {u : Tok} (h1 : -(x.length : Int) ≤ i) (h2 : i < x.length) (hz : x.length ≤ 10000) (h : ∀ t' tk, (Txt.item x i).length = 1 → Q (.str (Txt.item x i) t') ⟨hp, gs, dr, tk, os⟩)
    (hs : subscripted slice false (.str x t) (.int i u) = operate [.str x t, .int i u] (getItem (.str x t) (.int i u)) := by with_unfolding_all rfl)
    (ht : ∀ r, letTemporaryGo value (.str x t) r = pure () := by intro _; with_unfolding_all rfl) :
    wpAny (model prog w) A (subscriptTail value slice (.str x t) (.int i u)) Q E ⟨hp, gs, dr, tk₀, os⟩ :=
  item_str (fitsSsize_of (N := 9223372036854775808) (by omega) (by omega) (Int.le_refl _)) h1 h2 (fun e => h _ _ (by omega)) hs ht
end
theorem hs_slice {l u : Option PySem.Expr} {p : Pos} {x : Str} {t : Tok} {a : Addr} : subscripted (PySem.Expr.Slice l u none p) false (.str x t) (.ref a) = operate [.ref a, .str x t] (getItem (.str x t) (.ref a)) := by with_unfolding_all rfl
theorem hs_name {n : Str} {p : Pos} {x : Str} {t : Tok} {i : Int} {u : Tok} : subscripted (PySem.Expr.Name n p) false (.str x t) (.int i u) = operate [.str x t, .int i u] (getItem (.str x t) (.int i u)) := by with_unfolding_all rfl
theorem hs_binop {l r : PySem.Expr} {o : Operator} {p : Pos} {x : Str} {t : Tok} {i : Int} {u : Tok} : subscripted (PySem.Expr.BinOp l o r p) false (.str x t) (.int i u) = operate [.str x t, .int i u] (getItem (.str x t) (.int i u)) := by with_unfolding_all rfl
theorem ht_name {n : Str} {p : Pos} {x : Str} {t : Tok} {r : Value} : letTemporaryGo (PySem.Expr.Name n p) (.str x t) r = pure () := by with_unfolding_all rfl
theorem hl_name {n : Str} {p : Pos} {a : Addr} {i : Int} {u : Tok} : subscripted (PySem.Expr.Name n p) false (.ref a) (.int i u) = operate [.ref a, .int i u] (getItem (.ref a) (.int i u)) := by with_unfolding_all rfl
theorem hs_const {k : PySem.Const} {kk : _} {p : Pos} {x : Str} {t : Tok} {i : Int} {u : Tok} : subscripted (PySem.Expr.Constant k kk p) false (.str x t) (.int i u) = operate [.str x t, .int i u] (getItem (.str x t) (.int i u)) := by with_unfolding_all rfl
theorem hl_const {k : PySem.Const} {kk : _} {p : Pos} {a : Addr} {i : Int} {u : Tok} : subscripted (PySem.Expr.Constant k kk p) false (.ref a) (.int i u) = operate [.ref a, .int i u] (getItem (.ref a) (.int i u)) := by with_unfolding_all rfl
theorem hl_binop {l r : PySem.Expr} {o : Operator} {p : Pos} {a : Addr} {i : Int} {u : Tok} : subscripted (PySem.Expr.BinOp l o r p) false (.ref a) (.int i u) = operate [.ref a, .int i u] (getItem (.ref a) (.int i u)) := by with_unfolding_all rfl
theorem hl_unop {o : PySem.UnaryOp} {r : PySem.Expr} {p : Pos} {a : Addr} {i : Int} {u : Tok} : subscripted (PySem.Expr.UnaryOp o r p) false (.ref a) (.int i u) = operate [.ref a, .int i u] (getItem (.ref a) (.int i u)) := by with_unfolding_all rfl
section
variable {prog : Program} {w : World} {A : Around} {E : Value → Shared → Prop} {s : Shared} {hp : Heap} {gs : Array GenState} {dr : Drawn} {tk₀ : Nat} {os : OsState} {x : Str} {t : Tok} {i : Int} {Q : Bool → Shared → Prop}
theorem truthy_s (hz : x.length ≤ 10000) (h1 : ∀ tk, 0 < x.length → Q true ⟨hp, gs, dr, tk, os⟩) (h2 : ∀ tk, x.length = 0 → Q false ⟨hp, gs, dr, tk, os⟩) : wpAny (model prog w) A (truthy (.str x t)) Q E ⟨hp, gs, dr, tk₀, os⟩ := by
  refine SBL.truthy (by omega) ?_
  by_cases h : x.length = 0
  · have e : ((x.length : Int) != 0) = false := by simp [h]
    rw [e]; exact h2 _ h
  · have e : ((x.length : Int) != 0) = true := by simp; omega
    rw [e]; exact h1 _ (by omega)
theorem truthy_i (h1 : i ≠ 0 → Q true s) (h2 : i = 0 → Q false s) : wpAny (model prog w) A (truthy (.int i t)) Q E s := by
  refine PyProof.Rows.truthy_int ?_
  by_cases h : i = 0
  · have e : (i != 0) = false := by simp [h]
    rw [e]; exact h2 h
  · have e : (i != 0) = true := by simp [h]
    rw [e]; exact h1 h
theorem ite_t {P R : Prop} (h : P) : if true = true then P else R := by rw [if_pos rfl]; exact h
theorem ite_f {P R : Prop} (h : R) : if false = true then P else R := by rw [if_neg (by decide)]; exact h
end
abbrev P2 := Int × Str
abbrev p0 : P2 := (0, ⟨#[]⟩)
end
section
open PySem PySem.W PyProof.Rows PySem.Calls PySem.Spec
/-- a list of ints, by what the ints are -/
structure RowIs (vs : List Value) (ks : List Int) : Prop where
  len : vs.length = ks.length
  at_ : ∀ i, i < ks.length → ∃ t, vs[i]? = some (.int (ks.getD i 0) t)
theorem RowIs.set {vs : List Value} {ks : List Int} {k : Nat} {v : Int} {t : Tok} (R : RowIs vs ks) : RowIs (vs.set k (.int v t)) (ks.set k v) where
  len := by rw [List.length_set, List.length_set, R.len]
  at_ := by
    intro i hi
    rw [List.length_set] at hi
    by_cases h : k = i
    · subst h
      refine ⟨t, ?_⟩
      rw [List.getElem?_set_self (by rw [R.len]; exact hi), List.getD_eq_getElem?_getD, List.getElem?_set_self hi]
      rfl
    · obtain ⟨t', e⟩ := R.at_ i hi
      refine ⟨t', ?_⟩
      rw [List.getElem?_set_ne h, e, List.getD_eq_getElem?_getD, List.getD_eq_getElem?_getD, List.getElem?_set_ne h]
theorem RowIs.snoc {vs : List Value} {ks : List Int} {v : Int} {t : Tok} (R : RowIs vs ks) : RowIs (vs ++ [.int v t]) (ks ++ [v]) where
  len := by rw [List.length_append, List.length_append, R.len]; rfl
  at_ := by
    intro i hi
    have hl := R.len
    rw [List.length_append, List.length_cons, List.length_nil] at hi
    by_cases h : i < ks.length
    · obtain ⟨t', e⟩ := R.at_ i h
      refine ⟨t', ?_⟩
      rw [List.getElem?_append_left (by omega), e, List.getD_eq_getElem?_getD, List.getD_eq_getElem?_getD, List.getElem?_append_left h]
    · have h' : i = ks.length := by omega
      subst h'
      refine ⟨t, ?_⟩
      rw [← hl, List.getElem?_concat_length, hl, List.getD_eq_getElem?_getD, List.getElem?_concat_length]
      rfl
noncomputable def rowInit (n : Nat) : List Int := (List.range n).map fun (i : Nat) => 2 + (i : Int) * 2
section
variable {prog : Program} {w : World} {A : Around} {E : Value → Shared → Prop} {hp : Heap} {gs : Array GenState} {dr : Drawn} {tk₀ : Nat} {os : OsState} {h₀ : Heap} {L r l : Addr} {m : Str → Option Value} {news news' : List (Addr × Obj)} {vs : List Value} {ks : List Int} {c : Nat} {k : Int}
theorem rng2_size (n : Nat) : Builtin.Range.rangeSize 2 (2 * ((n : Int) + 1)) 2 = (n : Int) := by
  unfold Builtin.Range.rangeSize
  rw [if_pos (by decide)]
  split <;> omega
theorem rng2_small (n : Nat) (h : n ≤ 1000) : Builtin.Range.small 2 (2 * ((n : Int) + 1)) 2 = true := by
  unfold Builtin.Range.small
  rw [rng2_size]
  have e : ∀ i : Int, -5 ≤ i → i ≤ 5000 → Builtin.Range.rangeFitsLong i = true := by
    intro i h1 h2
    unfold Builtin.Range.rangeFitsLong
    rw [Bool.and_eq_true, decide_eq_true_eq, decide_eq_true_eq]
    omega
  rw [e 2 (by decide) (by decide), e (2 * ((n : Int) + 1)) (by omega) (by omega), e n (by omega) (by omega), if_pos (by decide), e _ (by omega) (by omega), Bool.or_true]
  rfl
theorem row_new {b : Int} {n : Nat} {t u v : Tok} {Q : Value → Shared → Prop} (hh : A.handled = none) (F : Fr h₀ L hp m) (N : News h₀ L hp news) (hr : IsRange hp r 2 b 2 t u v) (hb : b = 2 * ((n : Int) + 1)) (hn : n ≤ 1000)
    (h : ∀ D vs c h' tk, Fr h₀ L h' m → News h₀ L h' ((D, listOf (List.toArray vs) c) :: news) → (∀ p ∈ news, p.1 < D) → RowIs vs (rowInit n) → vs.length = n → Q (.ref D) ⟨h', gs, dr, tk, os⟩) :
    wpAny (model prog w) A (call (.type "list") [.ref r]) Q E ⟨hp, gs, dr, tk₀, os⟩ := by
  subst hb
  refine call_list_range hh hr (rng2_small n hn) (rng2_size n) (by omega) fun h' tk acc c hk hD hI => ?_
  have hD' : h'.get? hp.objs.size = some (listOf (List.toArray acc.toList) c) := by
    rw [Array.toArray_toList]
    exact hD
  refine h _ acc.toList c h' tk (F.keeps hk) (news_pushed F N hk hD' rfl) (fun p hp => Heap.lt_size (N p hp).1) ⟨?_, fun i hi => ?_⟩ ?_
  · rw [Array.length_toList, hI.1]; simp [rowInit]
  · have hi' : i < n := by simpa [rowInit] using hi
    have hi2 : i < acc.size := by rw [hI.1]; exact hi'
    obtain ⟨t, e⟩ := hI.2 i acc[i] (by simp [hi2])
    refine ⟨t, ?_⟩
    rw [Array.getElem?_toList, Array.getElem?_eq_getElem hi2, e]
    simp [rowInit, List.getD_eq_getElem?_getD, hi']
  · rw [Array.length_toList, hI.1]
theorem item_row {value slice : PySem.Expr} {u : Tok} {Q : Value → Shared → Prop} (N : News h₀ L hp news) (hm : (l, listOf vs.toArray c) ∈ news) (R : RowIs vs ks) (h0 : 0 ≤ k) (h1 : k < ks.length) (hfit : ks.length ≤ 1000)
    (h : ∀ t, Q (.int (ks.getD k.toNat 0) t) ⟨hp, gs, dr, tk₀, os⟩)
    (hs' : subscripted slice false (.ref l) (.int k u) = operate [.ref l, .int k u] (getItem (.ref l) (.int k u)) := by with_unfolding_all rfl) :
    wpAny (model prog w) A (subscriptTail value slice (.ref l) (.int k u)) Q E ⟨hp, gs, dr, tk₀, os⟩ := by
  obtain ⟨t, hv⟩ := R.at_ k.toNat (by omega)
  exact item_led (s := ⟨hp, gs, dr, tk₀, os⟩) N hm h0 (by omega) hv (h t) hs'
theorem set_row {t tv : Tok} {v : Int} {Q : Unit → Shared → Prop} (F : Fr h₀ L hp m) (N : News h₀ L hp news) (U : Upd l (listOf vs.toArray c) (listOf (vs.set k.toNat (.int v tv)).toArray c) news news') (R : RowIs vs ks) (h0 : 0 ≤ k) (h1 : k < ks.length) (hfit : ks.length ≤ 1000)
    (h : ∀ h', Fr h₀ L h' m → News h₀ L h' news' → RowIs (vs.set k.toNat (.int v tv)) (ks.set k.toNat v) → Q () ⟨h', gs, dr, tk₀, os⟩) :
    wpAny (model prog w) A (setItem (.ref l) (.int k t) (.int v tv)) Q E ⟨hp, gs, dr, tk₀, os⟩ :=
  set_led F N U h0 (by rw [R.len]; exact h1) (by omega) fun h' F' N' => h h' F' N' R.set
end
section
variable {prog : Program} {w : World} {A : Around} {E : Value → Shared → Prop} {hz0 : Heap} {gs : Array GenState} {dr : Drawn} {tk₀ : Nat} {os : OsState} {h₀ : Heap} {env : Env} {x : Str} {body : List Stmt} {Q : Flow → Shared → Prop}
/-- a for over range(n) -/
theorem for_rng0 {r : Addr} {t₀ u₀ v₀ : Tok} {n : Nat} {m₀ : Str → Option Value} {news : List (Addr × Obj)} (J : Nat → (Str → Option Value) → List (Addr × Obj) → Prop)
    (hh : A.handled = none) (hr : IsRange hz0 r 0 (n : Int) 1 t₀ u₀ v₀) (hn : n ≤ 1000) (F : Fr h₀ env.locals hz0 m₀) (N : News h₀ env.locals hz0 news)
    (h0 : J 0 m₀ news)
    (turn : ∀ i t m₁ nx I io h tk (W : Flow → Shared → Prop), (∀ f s, TurnQ h₀ env.locals (J (i + 1)) I io gs dr os Q f s → W f s) → i < n → J i m₁ nx → (∀ p ∈ nx, p.1 ≠ I) → Fr h₀ env.locals h (fun y => if y = x then some (.int (i : Int) t) else m₁ y) → News h₀ env.locals h ((I, io) :: nx) →
      wpAny (model prog w) A (execs body env) W E ⟨h, gs, dr, tk, os⟩)
    (done : ∀ m₁ nx h tk, J n m₁ nx → Fr h₀ env.locals h m₁ → News h₀ env.locals h nx → Q .next ⟨h, gs, dr, tk, os⟩) :
    wpAny (model prog w) A (pyIter (.ref r)) (fun it s₂ => LoopAtV prog w A h₀ env x body Q E it s₂) E ⟨hz0, gs, dr, tk₀, os⟩ :=
  for_rng J hh hr (small_one (by omega) (by omega) (by omega) (by omega)) (by rw [rangeSize_nat, Int.sub_zero, Int.toNat_natCast]) F N h0
    (fun i t m₁ nx I io h tk W hW hi hJ ho F N => turn i t m₁ nx I io h tk W hW hi hJ ho (by rw [Int.zero_add] at F; exact F) N) done
end
end
section
open PySem PySem.W PyProof.Rows PySem.Calls PySem.Spec
noncomputable def tupo (vs : List Value) : Obj := { cls := .type "tuple", data := .seq vs.toArray }
section
variable {prog : Program} {w : World} {A : Around} {E : Value → Shared → Prop} {hz0 : Heap} {gs : Array GenState} {dr : Drawn} {tk₀ : Nat} {os : OsState} {env : Env} {h₀ : Heap} {x : Str} {body : List Stmt} {Q : Flow → Shared → Prop}
/-- a for over a tuple of the ledger, by what holds ahead of each turn -/
theorem for_tup {l : Addr} {vs : List Value} {m₀ : Str → Option Value} {news : List (Addr × Obj)} (J : Nat → (Str → Option Value) → List (Addr × Obj) → Prop)
    (hh : A.handled = none) (F : Fr h₀ env.locals hz0 m₀) (N : News h₀ env.locals hz0 news) (hl : (l, tupo vs) ∈ news)
    (h0 : J 0 m₀ news) (keep : ∀ i m nx, J i m nx → (l, tupo vs) ∈ nx)
    (turn : ∀ i v m₁ nx I io h tk (W : Flow → Shared → Prop), (∀ f s, TurnQ h₀ env.locals (J (i + 1)) I io gs dr os Q f s → W f s) → vs[i]? = some v → J i m₁ nx → (∀ p ∈ nx, p.1 ≠ I) → Fr h₀ env.locals h (fun y => if y = x then some v else m₁ y) → News h₀ env.locals h ((I, io) :: nx) →
      wpAny (model prog w) A (execs body env) W E ⟨h, gs, dr, tk, os⟩)
    (done : ∀ m₁ nx h tk, J vs.length m₁ nx → Fr h₀ env.locals h m₁ → News h₀ env.locals h nx → Q .next ⟨h, gs, dr, tk, os⟩) :
    wpAny (model prog w) A (pyIter (.ref l)) (fun it s₂ => LoopAtV prog w A h₀ env x body Q E it s₂) E ⟨hz0, gs, dr, tk₀, os⟩ := by
  have hls : hz0.IsTuple l vs.toArray := ⟨_, N.get hl, rfl, _, rfl⟩
  have hlt : l < hz0.objs.size := Heap.lt_size (N.get hl)
  have hne : l ≠ hz0.objs.size := Nat.ne_of_lt hlt
  refine wpAny_pyIter_tuple hls ?_
  have W := Walks.tuple (prog := prog) (w := w) hh hz0.objs.size l hne vs.toArray
  refine ⟨_, _, _, _, _, _, m₀, news, J, rfl, W, ?_, ?_, ?_, ⟨⟨_, Heap.get?_push_size _ rfl, rfl, rfl⟩, hls.at fun o e => Heap.get?_push_of_some _ e⟩, F.push _, (fun p hp => ⟨Heap.get?_push_of_some _ (N p hp).1, (N p hp).2⟩), h0, ?_, ?_⟩
  · intro hm
    rcases List.mem_cons.mp hm with e | hm
    · exact absurd F.ns.lt (e ▸ Nat.lt_irrefl _)
    · exact (N _ hl).2.1 (List.mem_singleton.mp hm).symm
  · intro b hb
    rw [List.mem_singleton.mp hb]
    exact next_is_new F
  · intro p hp hI
    exact absurd (Heap.lt_size (N p hp).1) ((List.mem_singleton.mp hI) ▸ Nat.lt_irrefl _)
  · rintro i v m₁ news₁ s₁ own ⟨hh', tk', rfl⟩ hin hP hJ hoff hown hget hall hst F₁ N₁
    obtain ⟨io, hio, _⟩ := id hst.1
    have hmem := hall hz0.objs.size (by simp) (next_is_new F) _ hio
    have off1 : ∀ p ∈ news₁, p.1 ≠ hz0.objs.size := fun p hp e => hoff p hp (by simp [e])
    have N₂ : News h₀ env.locals hh' ((hz0.objs.size, io) :: news₁) := fun p hp => by
      rcases List.mem_cons.mp hp with rfl | hp
      · exact N₁ _ (List.mem_append_left _ hmem)
      · exact N₁ _ (List.mem_append_right _ hp)
    refine wpAny_mono (turn i v m₁ news₁ _ io hh' tk' _ (fun _ _ x => x) (by simpa using hP) hJ off1 F₁ N₂) (fun f s₂ p => ?_) fun _ _ e => e
    have fin : TurnEd h₀ env.locals (J (i + 1)) hz0.objs.size io gs dr os s₂ → LoopStepU h₀ env.locals [hz0.objs.size] own (J (i + 1)) ⟨hh', gs, dr, tk', os⟩ .next s₂ := by
      rintro ⟨h', tk, m', nx, e, F', N', ho, hj⟩
      refine ⟨rfl, h', tk, m', nx, e, F', fun p hp => ?_, fun p hp hI => ho p hp (List.mem_singleton.mp hI), hj⟩
      rcases List.mem_append.mp hp with hp | hp
      · have h1 : hh'.get? p.1 = some p.2 := hget p hp
        rcases List.mem_cons.mp (hown p hp) with h2 | h2
        · rw [h2, hio] at h1
          have h3 : p = (hz0.objs.size, io) := Prod.ext h2 (Option.some.inj h1).symm
          rw [h3]; exact N' _ List.mem_cons_self
        · have h2 := List.mem_singleton.mp h2
          have hk1 := N₂ _ (List.mem_cons_of_mem _ (keep i _ _ hJ))
          rw [h2, hk1.1] at h1
          have h3 : p = (l, tupo vs) := Prod.ext h2 (Option.some.inj h1).symm
          rw [h3]; exact N' _ (List.mem_cons_of_mem _ (keep _ _ _ hj))
      · exact N' _ (List.mem_cons_of_mem _ hp)
    cases f with
    | ret v => exact .ret p
    | brk => exact .brk p
    | next => exact .next (fin p)
    | cont => exact .cont (fin p)
  · rintro h' tk m' news' F' N' _ hJ
    exact done m' news' h' tk (by simpa using hJ) F' N'

end
end
open PySem PySem.W PyProof.Rows PySem.Calls PySem.Spec
set_option hygiene false
local macro_rules | `(tactic| k_mem) => `(tactic| first | exact List.mem_cons_self | assumption | (refine List.mem_cons_of_mem _ ?_; k_mem))
local macro_rules | `(tactic| k_all) => `(tactic| with_reducible assumption)
local macro_rules | `(tactic| walk_at "mine go") => `(tactic| repeat' (first | (k_unfold; (try dsimp only)) | ((fail_if_success (with_reducible show wpAny _ _ (exec (PySem.Stmt.While _ _ _ _) _) _ _ _)); (fail_if_success (with_reducible show wpAny _ _ (pyIter _) _ _ _)); first | walk1 | (dsimp only; walk1)) | (leave1; (try dsimp only)) | fail "no step"))
local macro_rules | `(tactic| walk_at "mine gf") => `(tactic| repeat' (first | (k_unfold; (try dsimp only)) | ((fail_if_success (with_reducible show wpAny _ _ (exec (PySem.Stmt.While _ _ _ _) _) _ _ _)); (fail_if_success (with_reducible show wpAny _ _ (pyIter _) _ _ _)); (fail_if_success (with_reducible show wpAny _ _ (exec (PySem.Stmt.For _ _ _ _ _) _) _ _ _)); first | walk1 | (dsimp only; walk1)) | (leave1; (try dsimp only)) | fail "no step"))
local macro_rules | `(tactic| walk_at "mine len") => `(tactic| first | omega | (simp only [List.length_append, List.length_cons, List.length_nil, List.length_dropLast, List.length_set] at *; omega))
local macro_rules | `(tactic| walk_at "mine s1") => `(tactic| (k_dflt rfl; k_dflt omega))
local macro_rules | `(tactic| walk_at "mine s3") => `(tactic| (k_dflt rfl; k_dflt omega; k_dflt omega; k_dflt omega))
local macro_rules | `(tactic| walk_at "mine r") => `(tactic| first | exact rfl | assumption)
local macro_rules | `(tactic| walk_at "mine end") => `(tactic| ((try k_sweep); (try dsimp only); (try k_fold)))
set_option hygiene true
local macro_rules | `(tactic| walk_at "subscriptTail Name Slice str ref") => `(tactic| (k_here; (with_reducible rename Fr _ _ _ _ => F'); (with_reducible rename News _ _ _ _ => N'); (first | ((with_reducible refine' slice_m_sn F' N' ?_ rfl ?_ ?_ ?_ ?_ hs_slice (fun _ => ht_name)); walk_at "mine s3") | ((with_reducible refine' slice_m_s0 F' N' ?_ rfl ?_ ?_ hs_slice (fun _ => ht_name)); walk_at "mine s1") | ((with_reducible refine' slice_m_nn F' N' ?_ rfl ?_ ?_ hs_slice (fun _ => ht_name)); walk_at "mine s1") | ((with_reducible refine' slice_m_ns F' N' ?_ rfl ?_ ?_ ?_ ?_ hs_slice (fun _ => ht_name)); walk_at "mine s3") | ((with_reducible refine' slice_m_np F' N' ?_ rfl ?_ ?_ ?_ ?_ hs_slice (fun _ => ht_name)); walk_at "mine s3") | ((with_reducible refine' slice_m_n0 F' N' ?_ rfl ?_ ?_ hs_slice (fun _ => ht_name)); walk_at "mine s1") | ((with_reducible refine' slice_m_ss F' N' ?_ rfl ?_ ?_ hs_slice (fun _ => ht_name)); walk_at "mine s1")); (intro _ _ _ _ _ _); (try k_sweep); (try dsimp only)))
set_option hygiene false
local macro_rules | `(tactic| walk_at "subscriptTail Name Name str int") => `(tactic| (k_here; (with_reducible refine item_m (by k_dflt omega) (by k_dflt omega) (by k_dflt omega) ?_ hs_name (fun _ => ht_name)); intro _ _ _))
local macro_rules | `(tactic| walk_at "subscriptTail Name BinOp str int") => `(tactic| (k_here; (with_reducible refine item_m (by k_dflt omega) (by k_dflt omega) (by k_dflt omega) ?_ hs_binop (fun _ => ht_name)); intro _ _ _))
local macro_rules | `(tactic| walk_at "truthy str") => `(tactic| (k_here; (with_reducible refine truthy_s (by k_dflt omega) ?_ ?_); all_goals intro _ _))
local macro_rules | `(tactic| walk_at "truthy int") => `(tactic| (k_here; first | ((with_reducible refine truthy_i (fun h => absurd rfl h) ?_); intro _) | ((with_reducible refine truthy_i (fun h => absurd (by k_dflt omega) h) ?_); intro _) | ((with_reducible refine truthy_i ?_ (fun h => absurd h (by k_dflt omega))); intro _) | ((with_reducible refine truthy_i ?_ ?_) <;> intro _)))
local macro_rules | `(tactic| walk_at "ite") => `(tactic| (with_reducible first | refine ite_t ?_ | refine ite_f ?_))
local macro_rules | `(tactic| walk_at "call builtin:list.append") => `(tactic| (k_here; (with_reducible show wpAny _ _ (call (Value.builtin _) [Value.ref _, _]) _ _ _); (with_reducible refine' append_led (by k_dflt assumption) (by k_dflt assumption) (by k_dflt k_upd) (by k_dflt (walk_at "mine len")) ?_); intro _ _ _; (try k_sweep)))
local macro_rules | `(tactic| walk_at "call builtin:len") => `(tactic| (k_here; (with_reducible show wpAny _ _ (call (Value.builtin "len") [Value.ref _]) _ _ _); (with_reducible refine' len_led (by k_dflt assumption) (by k_dflt k_mem) (by k_dflt (walk_at "mine len")) ?_); intro _ _))
local macro_rules | `(tactic| walk_at "truthy ref") => `(tactic| (k_here; (with_reducible refine' truthy_led (by k_dflt assumption) (by k_dflt k_mem) (by k_dflt (walk_at "mine len")) ?_); intro _))
local macro_rules | `(tactic| walk_at "subscriptTail Name Name ref int") => `(tactic| k_dflt (k_extra "SUB"))
local macro_rules | `(tactic| walk_at "subscriptTail Name Constant ref int") => `(tactic| k_dflt (k_extra "SUB"))
local macro_rules | `(tactic| walk_at "compareOp Lt ref ref") => `(tactic| k_dflt (k_extra "LT"))
local macro_rules | `(tactic| walk_at "setItem ref int ref") => `(tactic| k_dflt (k_extra "SET"))
local macro_rules | `(tactic| walk_at "call ref") => `(tactic| k_dflt (k_extra "CALL"))
local macro_rules | `(tactic| walk_at "call builtin:issubclass") => `(tactic| (k_here; (with_reducible refine' isn_tuple (by k_dflt (exact News.get (by k_asm) (by k_mem))) (by k_dflt rfl) ?_); intro _))

set_option hygiene true
section
open PySem PySem.W PyProof.Rows PySem.Calls PySem.Spec
set_option hygiene false
local macro_rules | `(tactic| omega) => `(tactic| first | lia | omega (config := {}))

set_option hygiene true
section
open PySem PySem.W PyProof.Rows PySem.Calls PySem.Spec
/-- the sift down: the rest of the work from here -/
noncomputable def sdL (x : P2) (start : Nat) (pos : Nat) (h : List P2) : List P2 :=
  if start < pos then
    if ltP x (h.getD ((pos - 1) / 2) p0) = true then sdL x start ((pos - 1) / 2) (h.set pos (h.getD ((pos - 1) / 2) p0)) else h.set pos x
  else h.set pos x
termination_by pos
decreasing_by omega
theorem sdL_go {x : P2} {start pos : Nat} {h : List P2} (h1 : start < pos) (h2 : ltP x (h.getD ((pos - 1) / 2) p0) = true) : sdL x start ((pos - 1) / 2) (h.set pos (h.getD ((pos - 1) / 2) p0)) = sdL x start pos h := by
  conv => rhs; rw [sdL, if_pos h1, if_pos h2]
theorem sdL_stop1 {x : P2} {start pos : Nat} {h : List P2} (h1 : ¬ start < pos) : sdL x start pos h = h.set pos x := by rw [sdL, if_neg h1]
theorem sdL_stop2 {x : P2} {start pos : Nat} {h : List P2} (h2 : ltP x (h.getD ((pos - 1) / 2) p0) = false) : sdL x start pos h = h.set pos x := by
  rw [sdL]
  split
  · rw [if_neg (by rw [h2]; decide)]
  · rfl
noncomputable def PairAt (st : List (Addr × Obj)) (v : Value) (p : P2) : Prop := ∃ a n t t', v = .ref a ∧ (a, tupOf [.int p.1 t, .str p.2 t'] n) ∈ st
structure PairsL (st : List (Addr × Obj)) (vs : List Value) (hs : List P2) : Prop where
  len : vs.length = hs.length
  at' : ∀ (i : Nat) (v : Value) (p : P2), vs[i]? = some v → hs[i]? = some p → PairAt st v p
theorem PairsL.get {st : List (Addr × Obj)} {vs : List Value} {hs : List P2} (P : PairsL st vs hs) {i : Nat} (hi : i < hs.length) : ∃ a n t t', vs[i]? = some (.ref a) ∧ (a, tupOf [.int (hs.getD i p0).1 t, .str (hs.getD i p0).2 t'] n) ∈ st := by
  have hi' : i < vs.length := P.len ▸ hi
  have h1 : vs[i]? = some vs[i] := by simp [hi']
  have h2 : hs[i]? = some hs[i] := by simp [hi]
  obtain ⟨a, n, t, t', e, hm⟩ := P.at' i _ _ h1 h2
  have e3 : hs.getD i p0 = hs[i] := by simp [List.getD_eq_getElem?_getD, h2]
  exact ⟨a, n, t, t', by rw [h1, e], by rw [e3]; exact hm⟩
theorem PairsL.set {st : List (Addr × Obj)} {vs : List Value} {hs : List P2} (P : PairsL st vs hs) {i : Nat} {a : Addr} {n : Nat} {p : P2} {t t' : Tok} (hm : (a, tupOf [.int p.1 t, .str p.2 t'] n) ∈ st) : PairsL st (vs.set i (.ref a)) (hs.set i p) where
  len := by simp [P.len]
  at' := fun j v q hv hq => by
    by_cases e : i = j
    · subst e
      have hl : i < vs.length := by
        rcases Nat.lt_or_ge i vs.length with h | h
        · exact h
        · rw [List.getElem?_eq_none (by simpa using h)] at hv; cases hv
      have hl' : i < hs.length := P.len ▸ hl
      rw [List.getElem?_set_self hl] at hv
      rw [List.getElem?_set_self hl'] at hq
      cases hv; cases hq
      exact ⟨a, n, t, t', rfl, hm⟩
    · rw [List.getElem?_set_ne e] at hv hq
      exact P.at' j v q hv hq
theorem PairsL.mono {st st' : List (Addr × Obj)} {vs : List Value} {hs : List P2} (P : PairsL st vs hs) (h : ∀ p ∈ st, p ∈ st') : PairsL st' vs hs where
  len := P.len
  at' := fun i v p hv hp => let ⟨a, n, t, t', e, hm⟩ := P.at' i v p hv hp; ⟨a, n, t, t', e, h _ hm⟩
theorem PairsL.snoc {st : List (Addr × Obj)} {vs : List Value} {hs : List P2} (P : PairsL st vs hs) {a : Addr} {n : Nat} {p : P2} {t t' : Tok} (hm : (a, tupOf [.int p.1 t, .str p.2 t'] n) ∈ st) : PairsL st (vs ++ [.ref a]) (hs ++ [p]) where
  len := by simp [P.len]
  at' := fun i v q hv hq => by
    rcases Nat.lt_trichotomy i vs.length with h | h | h
    · rw [List.getElem?_append_left h] at hv
      rw [List.getElem?_append_left (P.len ▸ h)] at hq
      exact P.at' i v q hv hq
    · rw [h, List.getElem?_append_right (Nat.le_refl _)] at hv
      rw [h, P.len, List.getElem?_append_right (Nat.le_refl _)] at hq
      simp only [Nat.sub_self, List.getElem?_cons_zero, Option.some.injEq] at hv hq
      subst hv; subst hq
      exact ⟨a, n, t, t', rfl, hm⟩
    · rw [List.getElem?_eq_none (by rw [List.length_append, List.length_singleton]; omega)] at hv
      cases hv
theorem PairsL.dropLast {st : List (Addr × Obj)} {vs : List Value} {hs : List P2} (P : PairsL st vs hs) : PairsL st vs.dropLast hs.dropLast where
  len := by simp [P.len]
  at' := fun i v q hv hq => by
    rw [List.getElem?_dropLast] at hv hq
    split at hv
    · split at hq
      · exact P.at' i v q hv hq
      · cases hq
    · cases hv
section
variable {prog : Program} {w : World} {A : Around} {E : Value → Shared → Prop} {s : Shared} {hp : Heap} {gs : Array GenState} {dr : Drawn} {tk₀ : Nat} {os : OsState} {h₀ : Heap} {L : Addr} {m : Str → Option Value} {news news' st : List (Addr × Obj)} {l : Addr} {vs : List Value} {hs : List P2} {n : Nat}
theorem item_pairs {value slice : PySem.Expr} {k : Int} {u : Tok} {Q : Value → Shared → Prop} (N : News h₀ L s.heap news) (hm : (l, listOf vs.toArray n) ∈ news) (P : PairsL st vs hs) (h0 : 0 ≤ k) (h1 : k < hs.length) (hfit : hs.length ≤ 1000)
    (h : ∀ b nb t t', vs[k.toNat]? = some (.ref b) → (b, tupOf [.int (hs.getD k.toNat p0).1 t, .str (hs.getD k.toNat p0).2 t'] nb) ∈ st → Q (.ref b) s)
    (hs' : subscripted slice false (.ref l) (.int k u) = operate [.ref l, .int k u] (getItem (.ref l) (.int k u)) := by with_unfolding_all rfl) :
    wpAny (model prog w) A (subscriptTail value slice (.ref l) (.int k u)) Q E s := by
  obtain ⟨b, nb, t, t', hv, hn⟩ := P.get (i := k.toNat) (by omega)
  exact item_led N hm h0 (by omega) hv (h b nb t t' hv hn) hs'
theorem set_pairs {k : Int} {t : Tok} {b : Addr} {nb : Nat} {p : P2} {tb tc : Tok} {Q : Unit → Shared → Prop} (F : Fr h₀ L hp m) (N : News h₀ L hp news) (U : Upd l (listOf vs.toArray n) (listOf (vs.set k.toNat (.ref b)).toArray n) news news') (P : PairsL st vs hs)
    (hm : (b, tupOf [.int p.1 tb, .str p.2 tc] nb) ∈ st) (h0 : 0 ≤ k) (h1 : k < hs.length) (hfit : hs.length ≤ 1000)
    (h : ∀ h', Fr h₀ L h' m → News h₀ L h' news' → PairsL st (vs.set k.toNat (.ref b)) (hs.set k.toNat p) → Q () ⟨h', gs, dr, tk₀, os⟩) :
    wpAny (model prog w) A (setItem (.ref l) (.int k t) (.ref b)) Q E ⟨hp, gs, dr, tk₀, os⟩ :=
  set_led F N U h0 (by rw [P.len]; exact h1) (by omega) fun h' F' N' => h h' F' N' (P.set hm)
theorem append_pairs {b : Addr} {nb : Nat} {p : P2} {tb tc : Tok} {Q : Value → Shared → Prop} (F : Fr h₀ L hp m) (N : News h₀ L hp news) (U : Upd l (listOf vs.toArray n) (listOf (vs ++ [Value.ref b]).toArray (n + 1)) news news') (P : PairsL st vs hs)
    (hm : (b, tupOf [.int p.1 tb, .str p.2 tc] nb) ∈ st) (hz : vs.length ≤ 2 ^ 24) (h : ∀ h', Fr h₀ L h' m → News h₀ L h' news' → PairsL st (vs ++ [Value.ref b]) (hs ++ [p]) → Q .none ⟨h', gs, dr, tk₀, os⟩) :
    wpAny (model prog w) A (call (.builtin "list.append") [.ref l, .ref b]) Q E ⟨hp, gs, dr, tk₀, os⟩ := append_led F N U hz fun h' F' N' => h h' F' N' (P.snoc hm)
theorem pop_led {Q : Value → Shared → Prop} (F : Fr h₀ L hp m) (N : News h₀ L hp news) (hne : 0 < vs.length) (U : Upd l (listOf vs.toArray n) (listOf vs.dropLast.toArray (n + 1)) news news')
    (hz : vs.length ≤ 1000) (h : ∀ h', Fr h₀ L h' m → News h₀ L h' news' → Q (vs.getLastD Value.none) ⟨h', gs, dr, tk₀, os⟩) : wpAny (model prog w) A (call (.builtin "list.pop") [.ref l]) Q E ⟨hp, gs, dr, tk₀, os⟩ :=
  kl_pop F N (kl_last_eq hne) U (by show vs.length ≤ _; rw [sizeLine_eq]; omega) h
theorem pop_pairs {Q : Value → Shared → Prop} (F : Fr h₀ L hp m) (N : News h₀ L hp news) (hne : 0 < hs.length) (U : Upd l (listOf vs.toArray n) (listOf vs.dropLast.toArray (n + 1)) news news')
    (hz : hs.length ≤ 1000) (P : PairsL st vs hs) (h : ∀ h' b nb t t', Fr h₀ L h' m → News h₀ L h' news' → (b, tupOf [.int (hs.getLastD p0).1 t, .str (hs.getLastD p0).2 t'] nb) ∈ st → PairsL st vs.dropLast hs.dropLast → hs.dropLast.length = hs.length - 1 → vs.dropLast.length = hs.length - 1 → Q (.ref b) ⟨h', gs, dr, tk₀, os⟩) :
    wpAny (model prog w) A (call (.builtin "list.pop") [.ref l]) Q E ⟨hp, gs, dr, tk₀, os⟩ := by
  have hl := P.len
  obtain ⟨b, nb, t, t', hv, hm⟩ := P.get (i := hs.length - 1) (by omega)
  have e1 : vs.getLastD Value.none = .ref b := by
    rw [List.getLastD_eq_getLast?, List.getLast?_eq_getElem?, hl, hv]; rfl
  have e2 : hs.getLastD p0 = hs.getD (hs.length - 1) p0 := by
    rw [List.getLastD_eq_getLast?, List.getLast?_eq_getElem?, List.getD_eq_getElem?_getD]
  refine pop_led F N (by omega) U (by omega) fun h' F' N' => ?_
  rw [e1]
  exact h h' b nb t t' F' N' (by rw [e2]; exact hm) P.dropLast (by simp) (by simp; omega)
end
theorem sd_pp {k : Nat} (h : 0 < k) : ((k : Int) - 1).fdiv (2 ^ Int.toNat 1) = (((k - 1) / 2 : Nat) : Int) := by
  have e : ((k : Int) - 1) = ((k - 1 : Nat) : Int) := by omega
  rw [e]
  show ((k - 1 : Nat) : Int).fdiv 2 = _
  rw [Int.fdiv_eq_ediv_of_nonneg _ (by decide)]
  rfl
theorem whQ_cont {gs : Array GenState} {dr : Drawn} {os : OsState} {h₀ : Heap} {L : Addr} {Q : Flow → Shared → Prop} {J : Nat → (Str → Option Value) → List (Addr × Obj) → Prop} {JE : (Str → Option Value) → List (Addr × Obj) → Prop} {n n' : Nat} {h : Heap} {tk : Nat} {m : Str → Option Value} {nx : List (Addr × Obj)} (F : Fr h₀ L h m) (N : News h₀ L h nx) (hn : n' < n) (hj : J n' m nx) :
    WhQ h₀ L gs dr os J JE Q n .cont ⟨h, gs, dr, tk, os⟩ := ⟨h, tk, m, nx, n', rfl, F, N, hn, hj⟩
theorem half_lt {k : Nat} {a b : List P2} (h0 : 0 < k) (hl : a.length = b.length) (h : k < b.length) : (k - 1) / 2 < a.length := by omega
theorem half_lt' {k n start : Nat} (h0 : (start : Int) < (k : Int)) (h : k < n) : (k - 1) / 2 < n := by omega
theorem half_dec {k start : Nat} (h0 : (start : Int) < (k : Int)) : (k - 1) / 2 < k := by omega
theorem half_fit {k n : Nat} (h0 : 0 < k) (h : k < n) (h3 : n ≤ 1000) : ((((k - 1) / 2 : Nat)) : Int) < 2 ^ 63 := by omega
theorem sub_of {su st : List (Addr × Obj)} {p : Addr × Obj} (h : ∀ p ∈ su, p ∈ st) (m : p ∈ su) : p ∈ st := h p m
local macro_rules | `(tactic| walk_at "subscriptTail Name Name ref int") => `(tactic| (k_here; (with_reducible refine' item_pairs (by k_dflt assumption) (by k_dflt k_mem) (by k_dflt assumption) (by k_dflt omega) (by k_dflt (walk_at "mine len")) (by k_dflt (walk_at "mine len")) ?_ hl_name); intro _ _ _ _ _ hn5; (have hq5 := sub_of (by assumption) hn5)))
local macro_rules | `(tactic| walk_at "subscriptTail Name Constant ref int") => `(tactic| (k_here; (with_reducible refine' item_pairs (by k_dflt assumption) (by k_dflt k_mem) (by k_dflt assumption) (by k_dflt omega) (by k_dflt (walk_at "mine len")) (by k_dflt (walk_at "mine len")) ?_ hl_const); intro _ _ _ _ _ hn5; (have hq5 := sub_of (by assumption) hn5)))
set_option hygiene false
local macro_rules | `(tactic| walk_at "call builtin:list.append") => `(tactic| (k_here; (with_reducible show wpAny _ _ (call (Value.builtin _) [Value.ref _, Value.ref _]) _ _ _); (with_reducible refine' append_pairs (by k_dflt assumption) (by k_dflt assumption) (by k_dflt k_upd) (by k_dflt assumption) (by k_dflt k_mem) (by k_dflt (walk_at "mine len")) ?_); intro _ _ _ _; (try k_sweep)))
local macro_rules | `(tactic| walk_at "call builtin:list.pop") => `(tactic| (k_here; (with_reducible refine' pop_pairs ?k1 ?k2 ?k3 ?k4 ?k5 ?k6 ?_); (case k1 => assumption); (case k2 => assumption); (case k4 => k_dflt k_upd); (case k6 => assumption); (case k3 => k_dflt (walk_at "mine len")); (case k5 => k_dflt (walk_at "mine len")); intro _ _ _ _ _ _ _ _ _ _ _; (try k_sweep)))
local macro_rules | `(tactic| walk_at "compareOp Lt ref ref") => `(tactic| (k_here; (with_reducible refine' tup_lt (by k_dflt (exact News.get (by assumption) (by k_mem))) (by k_dflt (exact News.get (by assumption) (by k_mem))) (by k_dflt ktr_units) ?_)))
local macro_rules | `(tactic| walk_at "setItem ref int ref") => `(tactic| (k_here; (with_reducible refine' set_pairs (by k_dflt assumption) (by k_dflt assumption) (by k_dflt k_upd) (by k_dflt assumption) (by k_dflt k_mem) (by k_dflt omega) (by k_dflt (walk_at "mine len")) (by k_dflt (walk_at "mine len")) ?_); intro _ _ _ _; (try k_sweep)))
local macro_rules | `(tactic| walk_at "subscriptTail Name Name ref int") => `(tactic| k_dflt (k_extra "SUB"))
local macro_rules | `(tactic| walk_at "subscriptTail Name Constant ref int") => `(tactic| k_dflt (k_extra "SUB"))
set_option hygiene true
set_option maxHeartbeats 8000000
inductive SdA (l : Addr) (st su : List (Addr × Obj)) (hs : List P2) (pos start : Nat) (t₁ : Tok) (a : Addr) (k : Nat) (m : Str → Option Value) (nx : List (Addr × Obj)) : Prop
  | mk (hs' : List P2) (vs' : List Value) (n' t : Nat) (h0 : nx = (l, listOf vs'.toArray n') :: st) (h1 : PairsL su vs' hs') (h2 : hs'.length = hs.length) (h3 : k < hs.length) (h4 : sdL (hs.getD pos p0) start k hs' = sdL (hs.getD pos p0) start pos hs) (h5 : m "heap" = some (.ref l)) (h6 : m "startpos" = some (.int (start : Int) t₁)) (h7 : m "newitem" = some (.ref a)) (h8 : m "pos" = some (.int (k : Int) t)) : SdA l st su hs pos start t₁ a k m nx
inductive SdB (l : Addr) (st su : List (Addr × Obj)) (hs : List P2) (pos start : Nat) (a : Addr) (m : Str → Option Value) (nx : List (Addr × Obj)) : Prop
  | mk (hs' : List P2) (vs' : List Value) (n' t k : Nat) (h0 : nx = (l, listOf vs'.toArray n') :: st) (h1 : PairsL su vs' hs') (h2 : hs'.length = hs.length) (h3 : k < hs.length) (h4 : hs'.set k (hs.getD pos p0) = sdL (hs.getD pos p0) start pos hs) (h5 : m "heap" = some (.ref l)) (h6 : m "newitem" = some (.ref a)) (h7 : m "pos" = some (.int (k : Int) t)) : SdB l st su hs pos start a m nx
theorem siftdown_con (w : World) (l : Addr) (vs : List Value) (n : Nat) (st : List (Addr × Obj)) (hs : List P2) (start pos : Nat) (t₁ t₂ : Tok) (su : List (Addr × Obj)) (hsu : ∀ p ∈ su, p ∈ st) (hP : PairsL su vs hs) (hoff : ∀ p ∈ st, p.1 ≠ l) (h2 : pos < hs.length) (h3 : hs.length ≤ 1000) :
    Con w 56 [.ref l, .int (start : Int) t₁, .int (pos : Int) t₂] 1 ((l, listOf vs.toArray n) :: st)
      (fun r news' => r = .none ∧ ∃ vs' n', news' = (l, listOf vs'.toArray n') :: st ∧ PairsL su vs' (sdL (hs.getD pos p0) start pos hs)) := by
  unfold Con
  intro dp un gd env outer A₀ base h₀ L m mean mg mb hp gs dr tk₀ os Q E B F X N T hf hk hd hu hret
  refine wpAny_call ?_
  (refine' code_def (binds := [("heap", .ref l), ("startpos", .int (start : Int) t₁), ("pos", .int (pos : Int) t₂)]) ?k1 ?k2 ?k3 ?k4 ?k5 ?kA ?kF ?kK ?k6 ?k7 ?k8 ?k9 ?kB ?_ ?c2 ?c3 ?c4 ?c5; (case kA => exact rfl); (case kF => assumption); (case kK => assumption); (case k1 => k_asm); (case k2 => k_asm); (case k3 => k_asm); (case k4 => k_asm); (case k5 => k_asm); (case k6 => k_is); (case k7 => k_is); (case k8 => ktr_room); (case k9 => exact BindsTo.of_eq rfl); (case c5 => decide); (case kB => exact locs rfl); (case c2 => exact rfl); (case c3 => exact rfl); (case c4 => exact rfl); k_whole; intro g' L' h' FG' F' N' B' X' T'; (try dsimp only); (try k_fold))
  k_with_none
  w_top off
  obtain ⟨a, na, ta, tb, hv, hm⟩ := hP.get h2
  have hms := hsu _ hm
  k_with "SUB" => refine item_led (by assumption) (by k_mem) (by omega) (by omega) hv ?_
  walk_at "mine go"
  refine while_led (SdA l st su hs pos start t₁ a)
    (SdB l st su hs pos start a) (n₀ := pos) (by assumption) (by assumption) ?_ ?_ ?_
  · exact ⟨hs, vs, n, _, rfl, hP, rfl, h2, rfl, rfl, rfl, rfl, rfl⟩
  · rintro k m₁ nx h₁ tk₁ W3 V3 hW3 hV3 F₁ N₁ ⟨hs', vs', n', t, rfl, hP', hl, hk2, he, e1, e2, e3, e4⟩
    have F₂ := frTop [("heap", .ref l), ("startpos", .int (start : Int) t₁), ("newitem", .ref a), ("pos", .int (k : Int) t)] F₁ (ftA e1 (ftA e2 (ftA e3 (ftA e4 ft0))))
    clear F₁
    k_with "SUB" =>
      have hk0 : 0 < k := by omega
      have hpp := sd_pp hk0
      rw [hpp]
      obtain ⟨b, nb, tc, td, hw, hn⟩ := hP'.get (i := (k - 1) / 2) (half_lt hk0 hl hk2)
      refine item_led (by assumption) (by k_mem) (Int.natCast_nonneg _) (half_fit hk0 hk2 h3) hw ?_
    k_with "LT" => refine tup_lt (News.get (by assumption) (.tail _ (hsu _ hm))) (News.get (by assumption) (.tail _ (hsu _ hn))) (by ktr_units) ?_
    k_with "SET" =>
      refine set_led (by assumption) (by assumption) (by k_upd) (Int.natCast_nonneg _) (by rw [hP'.len, hl]; exact Int.ofNat_lt.mpr hk2) (by rw [hP'.len, hl]; exact Nat.le_trans h3 (by decide)) ?_
      intro h5 F5 N5
    walk_at "mine go"
    · refine hW3 _ _ ?_
      refine whQ_cont (n' := (k - 1) / 2) (by assumption) (by assumption) (half_dec (by assumption)) ⟨hs'.set k (hs'.getD ((k - 1) / 2) p0), _, _, ?t0, rfl, hP'.set hn, by rw [List.length_set, hl], half_lt' (by assumption) hk2, ?g1, rfl, rfl, rfl, ?g2⟩
      case g1 => rw [← he]; exact sdL_go (by omega) (by assumption)
      case g2 => rw [← hpp]; rfl
    · refine hW3 _ _ ?_
      exact whEx_end (by assumption) (by assumption) ⟨hs', vs', n', t, k, rfl, hP', hl, hk2, by rw [← he, sdL_stop2 (by assumption)], rfl, rfl, rfl⟩
    · refine hV3 _ ?_
      exact whEx_end (by assumption) (by assumption) ⟨hs', vs', n', t, k, rfl, hP', hl, hk2, by rw [← he, sdL_stop1 (by omega)], rfl, rfl, rfl⟩
  · rintro m₁ nx h₁ tk₁ ⟨hs', vs', n', t, k, rfl, hP', hl, hk2, he, e1, e3, e4⟩ F₁ N₁
    have F₂ := frTop [("heap", .ref l), ("newitem", .ref a), ("pos", .int (k : Int) t)] F₁ (ftA e1 (ftA e3 (ftA e4 ft0)))
    clear F₁
    k_sweep
    k_with_none
    w_top off
    k_with "SET" =>
      refine set_led (by assumption) (by assumption) (by k_upd) (Int.natCast_nonneg _) (by rw [hP'.len, hl]; exact Int.ofNat_lt.mpr hk2) (by rw [hP'.len, hl]; exact Nat.le_trans h3 (by decide)) ?_
      intro h5 F5 N5
    (try dsimp only)
    walk_at "mine go"
    refine hret _ _ _ _ (by assumption) (by assumption) ⟨rfl, _, _, rfl, ?_⟩
    rw [← he]
    exact hP'.set hm

/-- the sift up: where the hole comes to lie, and the list -/
noncomputable def suL (n : Nat) (pos : Nat) (h : List P2) : Nat × List P2 :=
  if 2 * pos + 1 < n then
    if 2 * pos + 2 < n ∧ ltP (h.getD (2 * pos + 1) p0) (h.getD (2 * pos + 2) p0) = false then suL n (2 * pos + 2) (h.set pos (h.getD (2 * pos + 2) p0))
    else suL n (2 * pos + 1) (h.set pos (h.getD (2 * pos + 1) p0))
  else (pos, h)
termination_by n - pos
decreasing_by all_goals omega
theorem suL_right {n pos : Nat} {h : List P2} (h1 : 2 * pos + 2 < n) (h2 : ltP (h.getD (2 * pos + 1) p0) (h.getD (2 * pos + 2) p0) = false) : suL n (2 * pos + 2) (h.set pos (h.getD (2 * pos + 2) p0)) = suL n pos h := by
  conv => rhs; rw [suL, if_pos (by omega), if_pos ⟨h1, h2⟩]
theorem suL_left1 {n pos : Nat} {h : List P2} (h0 : 2 * pos + 1 < n) (h2 : ltP (h.getD (2 * pos + 1) p0) (h.getD (2 * pos + 2) p0) = true) : suL n (2 * pos + 1) (h.set pos (h.getD (2 * pos + 1) p0)) = suL n pos h := by
  conv => rhs; rw [suL, if_pos h0, if_neg (by rw [h2]; simp)]
theorem suL_left2 {n pos : Nat} {h : List P2} (h0 : 2 * pos + 1 < n) (h2 : ¬ 2 * pos + 2 < n) : suL n (2 * pos + 1) (h.set pos (h.getD (2 * pos + 1) p0)) = suL n pos h := by
  conv => rhs; rw [suL, if_pos h0, if_neg (fun x => h2 x.1)]
theorem suL_end {n pos : Nat} {h : List P2} (h0 : ¬ 2 * pos + 1 < n) : suL n pos h = (pos, h) := by rw [suL, if_neg h0]
noncomputable def siftupL (h : List P2) (pos : Nat) : List P2 :=
  sdL (h.getD pos p0) pos (suL h.length pos h).1 ((suL h.length pos h).2.set (suL h.length pos h).1 (h.getD pos p0))
inductive SuA (l : Addr) (st su : List (Addr × Obj)) (hs : List P2) (pos : Nat) (nv : Nat) (t₂ : Tok) (a : Addr) (k : Nat) (m : Str → Option Value) (nx : List (Addr × Obj)) : Prop
  | mk (p : Nat) (hs' : List P2) (vs' : List Value) (n' t te t5 : Nat) (z5 z6 : Int) (h0 : k = hs.length - p) (h1 : nx = (l, listOf vs'.toArray n') :: st) (h2 : PairsL su vs' hs') (h3 : hs'.length = hs.length) (h4 : p < hs.length) (h5 : suL hs.length p hs' = suL hs.length pos hs) (h6 : m "heap" = some (.ref l)) (h7 : m "endpos" = some (.int (nv : Int) te)) (h8 : m "startpos" = some (.int (pos : Int) t₂)) (h9 : m "newitem" = some (.ref a)) (h10 : m "pos" = some (.int z5 t)) (h11 : z5 = (p : Int)) (h12 : m "childpos" = some (.int z6 t5)) (h13 : z6 = 2 * (p : Int) + 1) : SuA l st su hs pos nv t₂ a k m nx
inductive SuB (l : Addr) (st su : List (Addr × Obj)) (hs : List P2) (pos : Nat) (t₂ : Tok) (a : Addr) (m : Str → Option Value) (nx : List (Addr × Obj)) : Prop
  | mk (p : Nat) (hs' : List P2) (vs' : List Value) (n' t : Nat) (h1 : nx = (l, listOf vs'.toArray n') :: st) (h2 : PairsL su vs' hs') (h3 : hs'.length = hs.length) (h4 : p < hs.length) (hn : ¬ 2 * p + 1 < hs.length) (h5 : suL hs.length p hs' = suL hs.length pos hs) (h6 : m "heap" = some (.ref l)) (h8 : m "startpos" = some (.int (pos : Int) t₂)) (h9 : m "newitem" = some (.ref a)) (h10 : m "pos" = some (.int (p : Int) t)) : SuB l st su hs pos t₂ a m nx
set_option maxHeartbeats 8000000 in
theorem siftup_con (w : World) (l : Addr) (vs : List Value) (n : Nat) (st : List (Addr × Obj)) (hs : List P2) (pos : Nat) (t₂ : Tok) (su : List (Addr × Obj)) (hsu : ∀ p ∈ su, p ∈ st) (hP : PairsL su vs hs) (hoff : ∀ p ∈ st, p.1 ≠ l) (h2 : pos < hs.length) (h3 : hs.length ≤ 1000) :
    Con w 63 [.ref l, .int (pos : Int) t₂] 2 ((l, listOf vs.toArray n) :: st)
      (fun r news' => r = .none ∧ ∃ vs' n', news' = (l, listOf vs'.toArray n') :: st ∧ PairsL su vs' (siftupL hs pos)) := by
  unfold Con
  intro dp un gd env outer A₀ base h₀ L m mean mg mb hp gs dr tk₀ os Q E B F X N T hf hk hd hu hret
  refine wpAny_call ?_
  (refine' code_def (binds := [("heap", .ref l), ("pos", .int (pos : Int) t₂)]) ?k1 ?k2 ?k3 ?k4 ?k5 ?kA ?kF ?kK ?k6 ?k7 ?k8 ?k9 ?kB ?_ ?c2 ?c3 ?c4 ?c5; (case kA => exact rfl); (case kF => assumption); (case kK => assumption); (case k1 => k_asm); (case k2 => k_asm); (case k3 => k_asm); (case k4 => k_asm); (case k5 => k_asm); (case k6 => k_is); (case k7 => k_is); (case k8 => ktr_room); (case k9 => exact BindsTo.of_eq rfl); (case c5 => decide); (case kB => exact locs rfl); (case c2 => exact rfl); (case c3 => exact rfl); (case c4 => exact rfl); k_whole; intro g' L' h' FG' F' N' B' X' T'; (try dsimp only); (try k_fold))
  k_with_none
  w_top off
  have hlen := hP.len
  obtain ⟨a, na, ta, tb, hv, hm⟩ := hP.get h2
  have hms := hsu _ hm
  k_with "SUB" => refine item_led (by assumption) (by k_mem) (by omega) (by omega) hv ?_
  walk_at "mine go"
  k_with_none
  w_top off
  refine while_led (SuA l st su hs pos vs.length t₂ a)
    (SuB l st su hs pos t₂ a) (n₀ := hs.length - pos) (by assumption) (by assumption) ?_ ?_ ?_
  · exact ⟨pos, hs, vs, n, _, _, _, _, _, rfl, rfl, hP, rfl, h2, rfl, rfl, rfl, rfl, rfl, rfl, rfl, rfl, rfl⟩
  · rintro k m₁ nx h₁ tk₁ W3 V3 hW3 hV3 F₁ N₁ ⟨p, hs', vs', n', t, te, t5, z5, z6, hk5, rfl, hP', hl, hp, he, e1, e2, e3, e4, e5, rfl, e6, rfl⟩
    have F₂ := frTop [("heap", .ref l), ("endpos", .int (vs.length : Int) te), ("startpos", .int (pos : Int) t₂), ("newitem", .ref a), ("pos", .int (p : Int) t), ("childpos", .int (2 * (p : Int) + 1) t5)] F₁ (ftA e1 (ftA e2 (ftA e3 (ftA e4 (ftA e5 (ftA e6 ft0))))))
    clear F₁
    have hlen' := hP'.len
    have q0 : ((p : Int)).toNat = p := by omega
    have q1 : (2 * (p : Int) + 1).toNat = 2 * p + 1 := by omega
    have q2 : (2 * (p : Int) + 1 + 1).toNat = 2 * p + 2 := by omega
    k_sweep
    walk_at "mine go"
    · simp only [q0, q1, q2] at *
      refine hW3 _ _ ?_
      refine whQ_end (n' := hs.length - (2 * p + 1)) (by assumption) (by assumption) (by omega) ⟨2 * p + 1, _, _, _, _, _, _, _, _, rfl, rfl, (by assumption), by rw [List.length_set, hl], by omega, ?g1x1, rfl, rfl, rfl, rfl, rfl, ?o1x1, rfl, ?o2x1⟩
      case g1x1 => rw [← he]; exact suL_left1 (by omega) (by assumption)
      case o1x1 => omega
      case o2x1 => omega
    · simp only [q0, q1, q2] at *
      refine hW3 _ _ ?_
      refine whQ_end (n' := hs.length - (2 * p + 2)) (by assumption) (by assumption) (by omega) ⟨2 * p + 2, _, _, _, _, _, _, _, _, rfl, rfl, (by assumption), by rw [List.length_set, hl], by omega, ?g1x2, rfl, rfl, rfl, rfl, rfl, ?o1x2, rfl, ?o2x2⟩
      case g1x2 => rw [← he]; exact suL_right (by omega) (by assumption)
      case o1x2 => omega
      case o2x2 => omega
    · simp only [q0, q1, q2] at *
      refine hW3 _ _ ?_
      refine whQ_end (n' := hs.length - (2 * p + 1)) (by assumption) (by assumption) (by omega) ⟨2 * p + 1, _, _, _, _, _, _, _, _, rfl, rfl, (by assumption), by rw [List.length_set, hl], by omega, ?g1x3, rfl, rfl, rfl, rfl, rfl, ?o1x3, rfl, ?o2x3⟩
      case g1x3 => rw [← he]; exact suL_left2 (by omega) (by omega)
      case o1x3 => omega
      case o2x3 => omega
    · refine hV3 _ ?_
      exact whEx_end (by assumption) (by assumption) ⟨p, hs', vs', n', t, rfl, hP', hl, hp, by omega, he, rfl, rfl, rfl, rfl⟩
  · rintro m₁ nx h₁ tk₁ ⟨p, hs', vs', n', t, rfl, hP', hl, hp, hn, he, e1, e3, e4, e5⟩ F₁ N₁
    have F₂ := frTop [("heap", .ref l), ("startpos", .int (pos : Int) t₂), ("newitem", .ref a), ("pos", .int (p : Int) t)] F₁ (ftA e1 (ftA e3 (ftA e4 (ftA e5 ft0))))
    clear F₁
    have hlen' := hP'.len
    have q0 : ((p : Int)).toNat = p := by omega
    k_sweep
    walk_at "mine go"
    have qx : ((hs'.set (p : Int).toNat (hs.getD pos p0)).getD p p0) = hs.getD pos p0 := by
      rw [q0, List.getD_eq_getElem?_getD, List.getElem?_set_self (by omega)]; rfl
    (refine Con.useA (siftdown_con w l _ _ st _ pos p _ _ su hsu (by assumption) hoff (by rw [List.length_set]; omega) (by rw [List.length_set]; omega)) ?_; rintro r9 h9 tk9 n9 F9 N9 ⟨rfl, vs9, n9', rfl, hP9⟩)
    walk_at "mine go"
    refine hret _ _ _ _ (by assumption) (by assumption) ⟨rfl, _, _, rfl, ?_⟩
    rw [qx, q0] at hP9
    unfold siftupL
    rw [← he, suL_end hn]
    exact hP9
/-- a push -/
noncomputable def pushL (hs : List P2) (x : P2) : List P2 := sdL x 0 hs.length (hs ++ [x])
set_option maxHeartbeats 8000000 in
theorem push_con (w : World) (l : Addr) (vs : List Value) (n : Nat) (st : List (Addr × Obj)) (hs : List P2) (b : Addr) (nb : Nat) (p : P2) (tb tc : Tok) (su : List (Addr × Obj)) (hsu : ∀ p ∈ su, p ∈ st) (hP : PairsL su vs hs) (hoff : ∀ p ∈ st, p.1 ≠ l) (hb : (b, tupOf [.int p.1 tb, .str p.2 tc] nb) ∈ su) (h3 : hs.length ≤ 900) :
    Con w 42 [.ref l, .ref b] 2 ((l, listOf vs.toArray n) :: st)
      (fun r news' => r = .none ∧ ∃ vs' n', news' = (l, listOf vs'.toArray n') :: st ∧ PairsL su vs' (pushL hs p)) := by
  unfold Con
  intro dp un gd env outer A₀ base h₀ L m mean mg mb hp gs dr tk₀ os Q E B F X N T hf hk hd hu hret
  refine wpAny_call ?_
  (refine' code_def (binds := [("heap", .ref l), ("item", .ref b)]) ?k1 ?k2 ?k3 ?k4 ?k5 ?kA ?kF ?kK ?k6 ?k7 ?k8 ?k9 ?kB ?_ ?c2 ?c3 ?c4 ?c5; (case kA => exact rfl); (case kF => assumption); (case kK => assumption); (case k1 => k_asm); (case k2 => k_asm); (case k3 => k_asm); (case k4 => k_asm); (case k5 => k_asm); (case k6 => k_is); (case k7 => k_is); (case k8 => ktr_room); (case k9 => exact BindsTo.of_eq rfl); (case c5 => decide); (case kB => exact locs rfl); (case c2 => exact rfl); (case c3 => exact rfl); (case c4 => exact rfl); k_whole; intro g' L' h' FG' F' N' B' X' T'; (try dsimp only); (try k_fold))
  k_with_none
  w_top off
  have hlen := hP.len
  walk_at "mine go"
  have e1 : (((vs ++ [Value.ref b]).length : Int) - 1) = ((hs.length : Nat) : Int) := by rw [List.length_append, List.length_singleton]; omega
  rw [e1]
  have e2 : (hs ++ [p]).getD hs.length p0 = p := by simp [List.getD_eq_getElem?_getD]
  (refine Con.useA (siftdown_con w l _ _ st _ 0 hs.length _ _ su hsu (by assumption) hoff (by simp) (by simp; omega)) ?_; rintro r9 h9 tk9 n9 F9 N9 ⟨rfl, vs9, n9', rfl, hP9⟩)
  walk_at "mine go"
  refine hret _ _ _ _ (by assumption) (by assumption) ⟨rfl, _, _, rfl, ?_⟩
  rw [e2] at hP9
  exact hP9
noncomputable def popL (hs : List P2) : P2 × List P2 := if hs.dropLast = [] then (hs.getLastD p0, []) else (hs.dropLast.getD 0 p0, siftupL (hs.dropLast.set 0 (hs.getLastD p0)) 0)
set_option maxHeartbeats 8000000 in
theorem pop_con (w : World) (l : Addr) (vs : List Value) (n : Nat) (st : List (Addr × Obj)) (hs : List P2) (su : List (Addr × Obj)) (hsu : ∀ p ∈ su, p ∈ st) (hP : PairsL su vs hs) (hoff : ∀ p ∈ st, p.1 ≠ l) (h2 : 0 < hs.length) (h3 : hs.length ≤ 1000) :
    Con w 49 [.ref l] 3 ((l, listOf vs.toArray n) :: st)
      (fun r news' => PairAt su r (popL hs).1 ∧ ∃ vs' n', news' = (l, listOf vs'.toArray n') :: st ∧ PairsL su vs' (popL hs).2) := by
  unfold Con
  intro dp un gd env outer A₀ base h₀ L m mean mg mb hp gs dr tk₀ os Q E B F X N T hf hk hd hu hret
  refine wpAny_call ?_
  (refine' code_def (binds := [("heap", .ref l)]) ?k1 ?k2 ?k3 ?k4 ?k5 ?kA ?kF ?kK ?k6 ?k7 ?k8 ?k9 ?kB ?_ ?c2 ?c3 ?c4 ?c5; (case kA => exact rfl); (case kF => assumption); (case kK => assumption); (case k1 => k_asm); (case k2 => k_asm); (case k3 => k_asm); (case k4 => k_asm); (case k5 => k_asm); (case k6 => k_is); (case k7 => k_is); (case k8 => ktr_room); (case k9 => exact BindsTo.of_eq rfl); (case c5 => decide); (case kB => exact locs rfl); (case c2 => exact rfl); (case c3 => exact rfl); (case c4 => exact rfl); k_whole; intro g' L' h' FG' F' N' B' X' T'; (try dsimp only); (try k_fold))
  k_with_none
  w_top off
  have hlen := hP.len
  walk_at "mine go"
  · (refine Con.useA (siftup_con w l _ _ st (hs.dropLast.set 0 (hs.getLastD p0)) 0 _ su hsu (by assumption) hoff (by simp; omega) (by simp; omega)) ?_; rintro r9 h9 tk9 n9 F9 N9 ⟨rfl, vs9, n9', rfl, hP9⟩)
    walk_at "mine go"
    have e3 : ¬ hs.dropLast = [] := fun e => by
      have := congrArg List.length e
      simp at this; omega
    refine hret _ _ _ _ (by assumption) (by assumption) ⟨?_, _, _, rfl, ?_⟩
    · unfold popL; rw [if_neg e3]
      exact ⟨_, _, _, _, rfl, by assumption⟩
    · unfold popL; rw [if_neg e3]; exact hP9
  · have e3 : hs.dropLast = [] := List.eq_nil_of_length_eq_zero (by omega)
    refine hret _ _ _ _ (by assumption) (by assumption) ⟨?_, _, _, rfl, ?_⟩
    · unfold popL; rw [if_pos e3]
      exact ⟨_, _, _, _, rfl, by assumption⟩
    · have q : PairsL su vs.dropLast hs.dropLast := by assumption
      unfold popL; rw [if_pos e3]; rw [e3] at q; exact q
end
section
open PySem PySem.W PyProof.Rows PySem.Calls PySem.Spec
/-- what a run of asks ends with, each ask (of places below n) answered by the ranks f -/
noncomputable def KOk (f : Nat → Nat) (n : Nat) {α : Type} (P : α → Prop) : KasT α → Prop
  | .ret a => P a
  | .ask i j k => i < n ∧ j < n ∧ KOk f n P (k (decide (f i < f j)))
section
variable {f : Nat → Nat} {n : Nat} {α β : Type}
theorem KOk.mono {P P' : α → Prop} (h : ∀ a, P a → P' a) : ∀ (t : KasT α), KOk f n P t → KOk f n P' t
  | .ret a, x => h a x
  | .ask _ _ k, x => ⟨x.1, x.2.1, KOk.mono h (k _) x.2.2⟩
theorem KOk.bind {P : α → Prop} {P' : β → Prop} {g : α → KasT β} (h : ∀ a, P a → KOk f n P' (g a)) : ∀ (t : KasT α), KOk f n P t → KOk f n P' (t.bind g)
  | .ret a, x => h a x
  | .ask _ _ k, x => ⟨x.1, x.2.1, KOk.bind h (k _) x.2.2⟩
theorem KOk.wp {cmp : Nat → Nat → (Bool → Shared → Prop) → Shared → Prop} {Q : α → Shared → Prop} {s : Shared} (hc : ∀ i j C, i < n → j < n → C (decide (f i < f j)) s → cmp i j C s) : ∀ (t : KasT α), KOk f n (fun a => Q a s) t → t.kasWp cmp Q s
  | .ret _, x => x
  | .ask i j k, x => hc i j _ x.1 x.2.1 (KOk.wp hc (k _) x.2.2)
noncomputable def PN (n : Nat) (p : Array Nat) : Prop := p.Perm (List.range n).toArray
theorem PN.size {p : Array Nat} (h : PN n p) : p.size = n := by
  have := h.size_eq
  simpa using this
theorem PN.lt {p : Array Nat} (h : PN n p) {k : Nat} (hk : k < n) : p.getD k 0 < n := by
  have hs := h.size
  have hm : p.getD k 0 ∈ p := by
    rw [Array.getD_eq_getD_getElem?, Array.getElem?_eq_getElem (by omega)]
    exact Array.getElem_mem _
  have h2 := (Array.Perm.mem_iff h).mp hm
  simpa using h2
noncomputable def Srt (f : Nat → Nat) (p : Array Nat) (k : Nat) : Prop := ∀ i j, i ≤ j → j < k → f (p.getD i 0) ≤ f (p.getD j 0)
noncomputable def Dsc (f : Nat → Nat) (p : Array Nat) (k : Nat) : Prop := ∀ i j, i ≤ j → j < k → f (p.getD j 0) ≤ f (p.getD i 0)
noncomputable def Eqs (f : Nat → Nat) (p : Array Nat) (a b : Nat) : Prop := ∀ i, a ≤ i → i < b → f (p.getD i 0) = f (p.getD (b - 1) 0)
theorem rev_get {p : Array Nat} {i j : Nat} (hj : j ≤ p.size) (k : Nat) : (kas_rev p i j).getD k 0 = if i ≤ k ∧ k < j then p.getD (i + j - 1 - k) 0 else p.getD k 0 := by
  unfold kas_rev
  rw [Array.getD_eq_getD_getElem?, getElem?_mirror hj _ (by omega) k, Array.getD_eq_getD_getElem?, Array.getD_eq_getD_getElem?]
  by_cases h : (i ≤ k ∧ k < i + (j - i) / 2) ∨ (j - (j - i) / 2 ≤ k ∧ k < j)
  · rw [if_pos h, if_pos (by omega)]
  · rw [if_neg h]
    split
    · have e : i + j - 1 - k = k := by omega
      rw [e]
    · rfl
theorem rev_pn {p : Array Nat} {i j : Nat} (h : PN n p) : PN n (kas_rev p i j) := (mirror_perm p i j _).trans h
theorem rev_eqs {p : Array Nat} {a b : Nat} (hb : b ≤ p.size) (h : Eqs f p a b) (k : Nat) : f ((kas_rev p a b).getD k 0) = f (p.getD k 0) := by
  rw [rev_get hb]
  split
  · rw [h _ (by omega) (by omega), h k (by omega) (by omega)]
  · rfl
theorem asc_ok : ∀ (fu k : Nat) (p : Array Nat), PN n p → 1 ≤ k → k + fu = n → Srt f p k →
    KOk f n (fun m => k ≤ m ∧ m ≤ n ∧ Srt f p m ∧ (m < n → f (p.getD m 0) < f (p.getD (m - 1) 0))) (kas_asc p fu k)
  | 0, k, p, _, _, e, h => ⟨Nat.le_refl _, by omega, h, fun _ => by omega⟩
  | fu + 1, k, p, hp, h1, e, h => by
    refine ⟨hp.lt (by omega), hp.lt (by omega), ?_⟩
    by_cases c : f (p.getD k 0) < f (p.getD (k - 1) 0)
    · simp only [decide_eq_true c, if_true]
      exact ⟨Nat.le_refl _, by omega, h, fun _ => c⟩
    · simp only [decide_eq_false c, Bool.false_eq_true, if_false]
      have h' : Srt f p (k + 1) := by
        intro i j hij hj
        by_cases q : j = k
        · subst q
          by_cases q2 : i = j
          · rw [q2]; exact Nat.le_refl _
          · have := h i (j - 1) (by omega) (by omega)
            omega
        · exact h i j hij (by omega)
      exact KOk.mono (fun m hm => ⟨by omega, hm.2⟩) _ (asc_ok fu (k + 1) p hp (by omega) (by omega) h')
theorem desc_ok : ∀ (fu : Nat) (p : Array Nat) (k q : Nat), PN n p → q + 1 ≤ k → k + fu = n → Dsc f p k → Eqs f p (k - (q + 1)) k →
    KOk f n (fun r => PN n r.1 ∧ r.2.2 + 1 ≤ r.2.1 ∧ r.2.1 ≤ n ∧ Dsc f r.1 r.2.1 ∧ Eqs f r.1 (r.2.1 - (r.2.2 + 1)) r.2.1) (kas_desc fu p k q)
  | 0, p, k, q, hp, h1, e, hd, he => ⟨hp, h1, by show k ≤ n; omega, hd, he⟩
  | fu + 1, p, k, q, hp, h1, e, hd, he => by
    have hs := hp.size
    have up : ∀ p' : Array Nat, (∀ i, f (p'.getD i 0) = f (p.getD i 0)) → f (p.getD k 0) ≤ f (p.getD (k - 1) 0) → Dsc f p' (k + 1) := by
      intro p' hq c i j hij hj
      rw [hq, hq]
      by_cases q : j = k
      · subst q
        by_cases q2 : i = j
        · rw [q2]; exact Nat.le_refl _
        · have := hd i (j - 1) (by omega) (by omega)
          omega
      · exact hd i j hij (by omega)
    have one : ∀ p' : Array Nat, Eqs f p' (k + 1 - (0 + 1)) (k + 1) := by
      intro p' i hi hj
      have : i = k + 1 - 1 := by omega
      rw [this]
    refine ⟨hp.lt (by omega), hp.lt (by omega), ?_⟩
    by_cases c : f (p.getD k 0) < f (p.getD (k - 1) 0)
    · simp only [decide_eq_true c, if_true]
      split
      · exact desc_ok fu _ (k + 1) 0 (rev_pn hp) (by omega) (by omega) (up _ (rev_eqs (by omega) he) (Nat.le_of_lt c)) (one _)
      · exact desc_ok fu _ (k + 1) 0 hp (by omega) (by omega) (up _ (fun _ => rfl) (Nat.le_of_lt c)) (one _)
    · simp only [decide_eq_false c, Bool.false_eq_true, if_false]
      refine ⟨hp.lt (by omega), hp.lt (by omega), ?_⟩
      by_cases d : f (p.getD (k - 1) 0) < f (p.getD k 0)
      · simp only [decide_eq_true d, if_true]
        exact ⟨hp, h1, by show k ≤ n; omega, hd, he⟩
      · simp only [decide_eq_false d, Bool.false_eq_true, if_false]
        refine desc_ok fu _ (k + 1) (q + 1) hp (by omega) (by omega) (up _ (fun _ => rfl) (by omega)) ?_
        intro i hi hj
        show f (p.getD i 0) = f (p.getD k 0)
        by_cases q2 : i = k
        · rw [q2]
        · rw [he i (by omega) (by omega)]; omega
noncomputable def Cnt (f : Nat → Nat) (n : Nat) (r : Nat × Array Nat) : Prop := PN n r.2 ∧ 1 ≤ r.1 ∧ r.1 ≤ n ∧ Srt f r.2 r.1
theorem tail3_ok {p : Array Nat} {k : Nat} (hp : PN n p) (h1 : 1 ≤ k) (hk : k ≤ n) (hd : Dsc f p k) : KOk f n (Cnt f n) (kas_tail3 k n p) := by
  have hs := hp.size
  refine KOk.bind (fun m hm => ?_) _ (asc_ok (n - k) k (kas_rev p 0 k) (rev_pn hp) h1 (by omega) ?_)
  · exact ⟨rev_pn hp, by show 1 ≤ m; omega, hm.2.1, hm.2.2.1⟩
  · intro i j hij hj
    rw [rev_get (by omega), rev_get (by omega), if_pos (by omega), if_pos (by omega)]
    exact hd _ _ (by omega) (by omega)
theorem descPart_ok {p : Array Nat} {k : Nat} (hp : PN n p) (h1 : 1 ≤ k) (hk : k < n) (hd : Dsc f p (k + 1)) : KOk f n (Cnt f n) (kas_descPart k n p) := by
  refine KOk.bind (fun r hr => ?_) _ (desc_ok (n - (k + 1)) p (k + 1) 0 hp (by omega) (by omega) hd ?_)
  · obtain ⟨a1, a2, a3, a4, a5⟩ := hr
    have hs := a1.size
    split
    · refine tail3_ok (rev_pn a1) (by omega) a3 ?_
      intro i j hij hj
      rw [rev_eqs (by omega) a5, rev_eqs (by omega) a5]
      exact a4 i j hij hj
    · exact tail3_ok a1 (by omega) a3 a4
  · intro i hi hj
    have : i = k + 1 - 1 := by omega
    rw [this]
theorem count_ok {p : Array Nat} (hp : PN n p) (hn : 1 ≤ n) : KOk f n (Cnt f n) (kas_count n p) := by
  have hs := hp.size
  refine KOk.bind (fun m hm => ?_) _ (asc_ok (n - 1) 1 p hp (Nat.le_refl _) (by omega) ?_)
  · obtain ⟨a1, a2, a3, a4⟩ := hm
    have one : ∀ (p' : Array Nat), (∀ i, f (p'.getD i 0) = f (p.getD i 0)) → (∀ i, i < m → f (p.getD i 0) = f (p.getD (m - 1) 0)) → m < n → Dsc f p' (m + 1) := by
      intro p' hq he hlt i j hij hj
      rw [hq, hq]
      have := a4 hlt
      by_cases q : j = m
      · subst q
        by_cases q2 : i = j
        · rw [q2]; exact Nat.le_refl _
        · rw [he i (by omega)]; omega
      · rw [he i (by omega), he j (by omega)]; exact Nat.le_refl _
    by_cases c : m = n
    · rw [if_pos (by simp [c])]
      exact ⟨hp, a1, a2, a3⟩
    · rw [if_neg (by simp [c])]
      by_cases c1 : m > 1
      · rw [if_pos c1]
        refine ⟨hp.lt (by omega), hp.lt (by omega), ?_⟩
        by_cases d : f (p.getD 0 0) < f (p.getD (m - 1) 0)
        · simp only [decide_eq_true d, if_true]
          exact ⟨hp, a1, a2, a3⟩
        · simp only [decide_eq_false d, Bool.false_eq_true, if_false]
          have he : ∀ i, i < m → f (p.getD i 0) = f (p.getD (m - 1) 0) := by
            intro i hi
            have h1 := a3 0 i (by omega) hi
            have h2 := a3 i (m - 1) (by omega) (by omega)
            omega
          refine descPart_ok (rev_pn hp) a1 (by omega) (one _ (rev_eqs (by omega) fun i _ hi => he i hi) he (by omega))
      · rw [if_neg c1]
        have hm1 : m = 1 := by omega
        subst hm1
        refine descPart_ok hp a1 (by omega) (one _ (fun _ => rfl) ?_ (by omega))
        intro i hi
        have : i = 0 := by omega
        rw [this]
  · intro i j hij hj
    have : i = j := by omega
    rw [this]; exact Nat.le_refl _
theorem place_ok {p : Array Nat} {k : Nat} (hp : PN n p) (hk : k < n) (hs : Srt f p k) : ∀ (fu l r : Nat), l ≤ r → r ≤ k → r - l ≤ fu → (∀ i, i < l → f (p.getD i 0) ≤ f (p.getD k 0)) → (∀ i, r ≤ i → i < k → f (p.getD k 0) ≤ f (p.getD i 0)) →
    KOk f n (fun m => m ≤ k ∧ (∀ i, i < m → f (p.getD i 0) ≤ f (p.getD k 0)) ∧ (∀ i, m ≤ i → i < k → f (p.getD k 0) ≤ f (p.getD i 0))) (kas_place p k fu l r)
  | 0, l, r, h1, h2, h3, h4, h5 => ⟨by omega, h4, fun i a b => h5 i (by omega) b⟩
  | fu + 1, l, r, h1, h2, h3, h4, h5 => by
    show KOk f n _ (if l ≥ r then _ else _)
    split
    · exact ⟨by omega, h4, fun i a b => h5 i (by omega) b⟩
    · refine ⟨hp.lt (by omega), hp.lt (by omega), ?_⟩
      by_cases c : f (p.getD k 0) < f (p.getD ((l + r) / 2) 0)
      · simp only [decide_eq_true c, if_true]
        refine place_ok hp hk hs fu l _ (by omega) (by omega) (by omega) h4 fun i a b => ?_
        have := hs ((l + r) / 2) i a b
        omega
      · simp only [decide_eq_false c, Bool.false_eq_true, if_false]
        refine place_ok hp hk hs fu _ r (by omega) (by omega) (by omega) (fun i a => ?_) h5
        have := hs i ((l + r) / 2) (by omega) (by omega)
        omega
theorem bin_ok : ∀ (fu : Nat) (p : Array Nat) (k : Nat), PN n p → k + fu = n → Srt f p k → KOk f n (fun p' => PN n p' ∧ Srt f p' n) (kas_bin fu p k)
  | 0, p, k, hp, e, h => ⟨hp, by have e2 : k = n := (by omega); exact e2 ▸ h⟩
  | fu + 1, p, k, hp, e, h => by
    have hs := hp.size
    refine KOk.bind (fun l hl => ?_) _ (place_ok hp (by omega) h k 0 k (by omega) (Nat.le_refl _) (by omega) (fun _ x => by omega) (fun _ x y => by omega))
    obtain ⟨b1, b2, b3⟩ := hl
    have hb : ∀ i, (bubble p k (k - l)).getD i 0 = if i = l then p.getD k 0 else if l < i ∧ i ≤ k then p.getD (i - 1) 0 else p.getD i 0 := by
      intro i
      rw [Array.getD_eq_getD_getElem?, getElem?_bubble (by omega) (k - l) (by omega) i]
      have e1 : k - (k - l) = l := by omega
      rw [e1]
      simp only [Array.getD_eq_getD_getElem?]
      split
      · rfl
      · split <;> rfl
    refine bin_ok fu _ (k + 1) ((bubble_perm p k _).trans hp) (by omega) ?_
    intro i j hij hj
    rw [hb, hb]
    by_cases q1 : i = l
    · rw [if_pos q1]
      by_cases q2 : j = l
      · rw [if_pos q2]; exact Nat.le_refl _
      · rw [if_neg q2, if_pos (by omega)]
        exact b3 _ (by omega) (by omega)
    · rw [if_neg q1]
      by_cases q2 : j = l
      · rw [if_pos q2, if_neg (by omega)]
        exact b2 i (by omega)
      · rw [if_neg q2]
        by_cases q3 : l < i ∧ i ≤ k
        · rw [if_pos q3, if_pos (by omega)]
          exact h _ _ (by omega) (by omega)
        · rw [if_neg q3]
          by_cases q4 : l < j ∧ j ≤ k
          · rw [if_pos q4]
            exact h _ _ (by omega) (by omega)
          · rw [if_neg q4]
            exact h _ _ hij (by omega)
theorem sort_ok (hn : 1 ≤ n) : KOk f n (fun p => PN n p ∧ Srt f p n) (kas_sort n) := by
  refine KOk.bind (fun r hr => ?_) _ (count_ok (p := List.toArray (List.range n)) (Array.Perm.refl _) hn)
  obtain ⟨a1, a2, a3, a4⟩ := hr
  split
  · have e : max r.1 1 = r.1 := by omega
    rw [e]
    exact bin_ok _ _ _ a1 (by omega) a4
  · have e : r.1 = n := by omega
    exact ⟨a1, e ▸ a4⟩
end
end
end
section
open PySem PySem.W PyProof.Rows PySem.Calls PySem.Spec
theorem ltP_irrefl (a : P2) : ltP a a = false := by
  unfold ltP
  rw [if_pos rfl]
  exact decide_eq_false (List.lt_irrefl _)
theorem ltP_iff (a b : P2) : ltP a b = true ↔ a.1 < b.1 ∨ (a.1 = b.1 ∧ a.2.cps.toList < b.2.cps.toList) := by
  unfold ltP
  by_cases h : a.1 = b.1
  · rw [if_pos h, decide_eq_true_eq]
    constructor
    · exact fun x => .inr ⟨h, x⟩
    · rintro (x | x)
      · omega
      · exact x.2
  · rw [if_neg h, decide_eq_true_eq]
    constructor
    · exact fun x => .inl x
    · rintro (x | x)
      · exact x
      · exact absurd x.1 h
theorem ltP_trans {a b c : P2} (h : ltP a b = true) (h' : ltP b c = true) : ltP a c = true := by
  rw [ltP_iff] at h h' ⊢
  rcases h with h | h <;> rcases h' with h' | h'
  · exact .inl (by omega)
  · exact .inl (by omega)
  · exact .inl (by omega)
  · exact .inr ⟨h.1.trans h'.1, List.lt_trans h.2 h'.2⟩
theorem ltP_total {a b : P2} (h : ltP a b = false) (h' : ltP b a = false) : a = b := by
  rw [← Bool.not_eq_true, ltP_iff] at h h'
  have e : a.1 = b.1 := by
    rcases Int.lt_trichotomy a.1 b.1 with q | q | q
    · exact absurd (.inl q) h
    · exact q
    · exact absurd (.inl q) h'
  have e2 : a.2.cps.toList = b.2.cps.toList := List.le_antisymm (List.not_lt.mp fun q => h' (.inr ⟨e.symm, q⟩)) (List.not_lt.mp fun q => h (.inr ⟨e, q⟩))
  exact Prod.ext e (str_cps_eq e2)
theorem ltP_asymm {a b : P2} (h : ltP a b = true) : ltP b a = false := by
  cases q : ltP b a with
  | false => rfl
  | true => exact absurd (ltP_trans h q) (by rw [ltP_irrefl]; decide)
noncomputable def leP (a b : P2) : Bool := !ltP b a
theorem leP_trans (a b c : P2) (h : leP a b = true) (h' : leP b c = true) : leP a c = true := by
  unfold leP at *
  rw [Bool.not_eq_true'] at *
  cases q : ltP c a with
  | false => rfl
  | true =>
    cases r : ltP b c with
    | true => rw [ltP_trans r q] at h; cases h
    | false =>
      have e := ltP_total r h'
      subst e
      rw [q] at h; cases h
theorem leP_total (a b : P2) : (leP a b || leP b a) = true := by
  unfold leP
  cases q : ltP b a with
  | false => rfl
  | true => rw [ltP_asymm q]; rfl
theorem leP_refl (a : P2) : leP a a = true := by unfold leP; rw [ltP_irrefl]; rfl
theorem leP_anti {a b : P2} (h : leP a b = true) (h' : leP b a = true) : a = b := by
  unfold leP at *
  rw [Bool.not_eq_true'] at *
  exact ltP_total h' h
noncomputable def sortL (hs : List P2) : List P2 := hs.mergeSort leP
theorem sortL_perm (hs : List P2) : (sortL hs).Perm hs := List.mergeSort_perm _ _
theorem sortL_sorted (hs : List P2) : (sortL hs).Pairwise (fun x y => leP x y = true) := List.pairwise_mergeSort leP_trans leP_total hs
theorem sortL_uniq {a hs : List P2} (p : a.Perm hs) (s : a.Pairwise (fun x y => leP x y = true)) : a = sortL hs :=
  List.Perm.eq_of_pairwise (fun _ _ _ _ => leP_anti) s (sortL_sorted hs) (p.trans (sortL_perm hs).symm)
theorem countP_lt {α : Type} {p q : α → Bool} : ∀ {l : List α}, (∀ z ∈ l, p z = true → q z = true) → ∀ x ∈ l, p x = false → q x = true → l.countP p < l.countP q
  | a :: r, h, x, hx, hp, hq => by
    have h2 : ∀ z ∈ r, p z = true → q z = true := fun z hz => h z (.tail _ hz)
    rcases List.mem_cons.mp hx with e | hx
    · subst e
      have := List.countP_mono_left h2
      rw [List.countP_cons, List.countP_cons, hp, hq]
      simp only [Bool.false_eq_true, if_false, if_true]
      omega
    · have := countP_lt h2 x hx hp hq
      rw [List.countP_cons, List.countP_cons]
      cases e : p a with
      | false => simp only [Bool.false_eq_true, if_false]; split <;> omega
      | true =>
        rw [h a (.head _) e]
        simp only [if_true]
        omega
noncomputable def rank (hs : List P2) (i : Nat) : Nat := hs.countP fun x => ltP x (hs.getD i p0)
theorem getD_mem {hs : List P2} {i : Nat} (h : i < hs.length) : hs.getD i p0 ∈ hs := by
  rw [List.getD_eq_getElem?_getD, List.getElem?_eq_getElem h]
  exact List.getElem_mem h
theorem rank_lt {hs : List P2} {i j : Nat} (hi : i < hs.length) (hj : j < hs.length) : decide (rank hs i < rank hs j) = ltP (hs.getD i p0) (hs.getD j p0) := by
  cases q : ltP (hs.getD i p0) (hs.getD j p0) with
  | true =>
    exact decide_eq_true (countP_lt (fun z _ hz => ltP_trans hz q) _ (getD_mem hi) (ltP_irrefl _) q)
  | false =>
    refine decide_eq_false (Nat.not_lt.mpr (List.countP_mono_left fun z _ hz => ?_))
    cases r : ltP z (hs.getD i p0) with
    | true => rfl
    | false =>
      cases r2 : ltP (hs.getD i p0) z with
      | true => rw [ltP_trans r2 hz] at q; cases q
      | false =>
        have e := ltP_total r r2
        rw [e, q] at hz; cases hz
theorem rank_le {hs : List P2} {i j : Nat} (hi : i < hs.length) (hj : j < hs.length) (h : rank hs i ≤ rank hs j) : leP (hs.getD i p0) (hs.getD j p0) = true := by
  unfold leP
  rw [← rank_lt hj hi, Bool.not_eq_true']
  exact decide_eq_false (by omega)
theorem out_sorted {hs : List P2} {p : Array Nat} (hp : PN hs.length p) (hs' : Srt (rank hs) p hs.length) : (p.toList.map fun i => hs.getD i p0) = sortL hs := by
  have hsz := hp.size
  refine sortL_uniq ?_ ?_
  · have h1 : (p.toList.map fun i => hs.getD i p0).Perm ((List.range hs.length).map fun i => hs.getD i p0) := List.Perm.map _ (Array.perm_iff_toList_perm.mp hp)
    have h2 : ((List.range hs.length).map fun i => hs.getD i p0) = hs := by
      refine List.ext_getElem (by simp) fun i a b => ?_
      simp at a
      simp [a]
    rw [h2] at h1
    exact h1
  · rw [List.pairwise_iff_getElem]
    intro i j hi hj hij
    simp only [List.length_map, Array.length_toList] at hi hj
    simp only [List.getElem_map, Array.getElem_toList]
    have e : ∀ k (h : k < p.size), p[k] = p.getD k 0 := fun k h => by rw [Array.getD_eq_getD_getElem?, Array.getElem?_eq_getElem h]; rfl
    rw [e i hi, e j hj]
    exact rank_le (hp.lt (by omega)) (hp.lt (by omega)) (hs' i j (by omega) (by omega))
theorem PairsL.map {st : List (Addr × Obj)} {vs : List Value} {hs : List P2} (P : PairsL st vs hs) {js : List Nat} (h : ∀ j ∈ js, j < hs.length) : PairsL st (js.map fun i => vs.getD i Value.none) (js.map fun i => hs.getD i p0) where
  len := by simp
  at' := fun i v p hv hp => by
    rw [List.getElem?_map] at hv hp
    cases e : js[i]? with
    | none => rw [e] at hv; cases hv
    | some j =>
      rw [e] at hv hp
      injection hv with hv
      injection hp with hp
      have hj := h j (List.mem_of_getElem? e)
      obtain ⟨a, n, t, t', e1, hm⟩ := P.get hj
      refine ⟨a, n, t, t', ?_, by rw [← hp]; exact hm⟩
      rw [← hv]
      show vs.getD j Value.none = _
      rw [List.getD_eq_getElem?_getD, e1]
      rfl
section
variable {prog : Program} {w : World} {A : Around} {E : Value → Shared → Prop} {s : Shared}
theorem ask_pairs {st : List (Addr × Obj)} {vs : List Value} {hs : List P2} {h₀ : Heap} {L : Addr} (N : News h₀ L s.heap st) (P : PairsL st vs hs) {i j : Nat} {C : Bool → Shared → Prop} (hi : i < hs.length) (hj : j < hs.length) (h : C (ltP (hs.getD i p0) (hs.getD j p0)) s) :
    kas_ask prog w A (tuples' true) vs i j C s := by
  obtain ⟨a, n, t, t', e1, hm1⟩ := P.get hi
  obtain ⟨b, k, u, u', e2, hm2⟩ := P.get hj
  unfold kas_ask
  rw [List.getD_eq_getElem?_getD, List.getD_eq_getElem?_getD, e1, e2]
  show wpAny _ _ (keyLt' (tuples' true) (.ref a) (.ref b)) _ _ _
  refine kat_lt (N.get hm1) rfl (N.get hm2) rfl (kat_cons ?_)
  revert h
  generalize hs.getD i p0 = x
  generalize hs.getD j p0 = y
  intro h
  obtain ⟨x1, x2⟩ := x
  obtain ⟨y1, y2⟩ := y
  by_cases q1 : x1 = y1
  · refine eqBool_intT q1 (kat_yes (kat_cons ?_))
    by_cases q2 : x2 = y2
    · refine eqBool_strT q2 (kat_yes (kat_nil ?_))
      have e3 : ltP (x1, x2) (y1, y2) = false := by subst q1; subst q2; exact ltP_irrefl _
      rw [e3] at h
      exact h
    · refine eqBool_strF q2 (kat_no (kat_one _ _ ?_))
      refine rc_lt_str ?_
      have e3 : ltP (x1, x2) (y1, y2) = decide (x2.cps.toList < y2.cps.toList) := by unfold ltP; rw [if_pos q1]
      rw [e3] at h
      exact h
  · refine eqBool_intF q1 (kat_no ?_)
    refine oneLt_int ?_
    have e3 : ltP (x1, x2) (y1, y2) = decide (x1 < y1) := by unfold ltP; rw [if_neg q1]
    rw [e3] at h
    exact h
theorem kind_pairs {h : Heap} : ∀ {vs : List Value} {hs : List P2} {st : List (Addr × Obj)}, (∀ p ∈ st, h.get? p.1 = some p.2) → PairsL st vs hs → ∃ ts : List Tok, ts.length = hs.length ∧ KatTups h vs ((hs.zip ts).map fun q => Value.int q.1.1 q.2)
  | [], [], _, _, _ => ⟨[], rfl, .nil⟩
  | [], _ :: _, _, _, P => by have := P.len; cases this
  | _ :: _, [], _, _, P => by have := P.len; cases this
  | v :: vs, p :: hs, st, hg, P => by
    obtain ⟨a, n, t, t', rfl, hm⟩ := P.at' 0 v p rfl rfl
    obtain ⟨ts, h1, h2⟩ := kind_pairs (vs := vs) (hs := hs) hg ⟨by have := P.len; simpa using this, fun i v p hv hp => P.at' (i + 1) v p (by simpa using hv) (by simpa using hp)⟩
    exact ⟨t :: ts, by simp [h1], .cons (hg _ hm) rfl rfl rfl h2⟩
theorem list_sort_few {a : Addr} {vs : List Value} {n : Nat} {P : PySem.Fin → Shared → Prop} (ho : s.heap.get? a = some (seqObj "list" vs.toArray n)) (h2 : vs.length < 2)
    (h : P (.done (.ret .none)) { s with heap := sortedHeap s.heap a vs vs.toArray }) : wpAny (model prog w) A (Builtin.«list.sort» ⟨[.ref a], []⟩) P E s := by
  rw [list_sort_plain]
  have ha : a < s.heap.objs.size := Heap.lt_size ho
  have hz : vs.toArray.size < 2 := by simpa using h2
  obtain ⟨e1, ho1⟩ : ∃ e1, (s.heap.update a (Obj.mapSeq fun _ => #[])).get? a = some (seqObj "list" #[] e1) := ⟨_, get?_update_seq ho (fun _ => #[])⟩
  have ho6 : (((s.heap.update a (Obj.mapSeq fun _ => #[])).push (seqObj "tuple" vs.toArray 0)).push (seqObj "list" #[] 0)).get? a = some (seqObj "list" #[] e1) := by
    rw [Heap.get?_push_ne _ _ _ (by rw [size_push', Heap.size_update]; exact Nat.ne_of_lt (Nat.lt_succ_of_lt ha)), Heap.get?_push_ne _ _ _ (by rw [Heap.size_update]; exact Nat.ne_of_lt ha)]
    exact ho1
  have hs1 : 1000 ≤ sizeLine := by rw [sizeLine_eq]; decide
  refine wpAny_bind (listItems_at ho rfl ?_)
  refine wpAny_bind (listUpdate_at ho rfl ?_ (by omega) (by show 0 ≤ _; omega))
  refine wpAny_bind (seqEpoch_at ho1 rfl ?_)
  refine wpAny_bind (wpAny_newTuple ?_ (by show vs.length ≤ _; omega))
  refine wpAny_bind (wpAny_newList ?_ (Nat.zero_le _))
  refine wpAny_holding ?_
  show wpAny (model prog w) A _ P E { s with heap := ((s.heap.update a (Obj.mapSeq fun _ => #[])).push (seqObj "tuple" vs.toArray 0)).push (seqObj "list" #[] 0) }
  dsimp only
  rw [if_pos hz, if_pos hz]
  refine wpAny_bind (wpAny_pure ?_)
  rw [StateT.run_pure]
  refine wpAny_bind (wpAny_pure ?_)
  dsimp only
  have e5 : (arrOf (SortSt.mk' general' (vs.toArray.zip vs.toArray) #[] 7 none)).map (·.2) = vs.toArray := by
    show (vs.toArray.zip vs.toArray).map (·.2) = vs.toArray
    apply Array.toList_inj.mp
    rw [Array.toList_map, Array.toList_zip]
    simp [List.map_snd_zip]
  rw [e5]
  refine wpAny_bind (seqEpoch_at ho6 rfl ?_)
  refine wpAny_bind (listUpdate_at ho6 rfl ?_ (by show 0 ≤ _; omega) (by show vs.toArray.size ≤ _; omega))
  simp only [bne_self_eq_false, Bool.false_eq_true, if_false]
  exact wpAny_pure h
theorem sorted_few {h₀ : Heap} {L : Addr} {m : Str → Option Value} {news : List (Addr × Obj)} {l : Addr} {vs : List Value} {Q : Value → Shared → Prop} (F : Fr h₀ L s.heap m) (N : News h₀ L s.heap news) (hl : s.heap.IsList l vs.toArray) (h2 : vs.length < 2)
    (h : ∀ D h' e, Fr h₀ L h' m → News h₀ L h' ((D, seqObj "list" vs.toArray e) :: news) → (∀ q ∈ news, q.1 < D) → Q (.ref D) { s with heap := h' }) :
    wpAny (model prog w) A (call (.builtin "sorted") [.ref l]) Q E s := by
  have hs1 : 1000 ≤ sizeLine := by rw [sizeLine_eq]; decide
  obtain ⟨e, he⟩ := sortedAll_at s.heap vs vs.toArray
  have fin := h _ _ e (F.kept fun _ _ => sortedAll_old) (N.kept_cons F (fun _ _ => sortedAll_old) (Nat.le_succ _) he) fun q hq => Nat.lt_succ_of_lt (Heap.lt_size (N q hq).1)
  refine Calls.call_function_entry kind_sorted plain_sorted entry_sorted (args_sorted1 _) ?_
  unfold Builtin.«sorted»
  refine wpAny_bind (m := checkCount "sorted" 1 1 _) (wpAny_pure ?_)
  refine wpAny_bind (collect_list hl ?_ (by omega))
  refine wpAny_bind (wpAny_newList ?_ (by omega))
  have hsz : ((s.heap.push (seqObj "list" #[] 0)).update s.heap.objs.size (Obj.mapSeq (· ++ vs.toArray))).objs.size = s.heap.objs.size + 1 := by
    rw [Heap.size_update, size_push']
  have hoL : (((s.heap.push (seqObj "list" #[] 0)).update s.heap.objs.size (Obj.mapSeq (· ++ vs.toArray))).push (seqObj "list" vs.toArray 0)).get? (s.heap.objs.size + 1) = some (seqObj "list" vs.toArray 0) := by
    rw [← hsz]; exact Heap.get?_push_size _ rfl
  show wpAny _ _ _ _ _ { s with heap := ((s.heap.push (seqObj "list" #[] 0)).update s.heap.objs.size (Obj.mapSeq (· ++ vs.toArray))).push (seqObj "list" vs.toArray 0) }
  rw [hsz]
  refine wpAny_bind (wpAny_holding (wpAny_call_entry slot_list_sort ⟨_, hoL, rfl⟩ entry_list_sort (list_sort_few hoL h2 ⟨_, rfl, ?_⟩) (args_list_sort _)))
  exact wpAny_pure ⟨_, rfl, fin⟩
theorem sorted_pairs {h₀ : Heap} {L : Addr} {m : Str → Option Value} {news st : List (Addr × Obj)} {l : Addr} {vs : List Value} {n : Nat} {hs : List P2} {Q : Value → Shared → Prop} (F : Fr h₀ L s.heap m) (N : News h₀ L s.heap news) (hm : (l, listOf vs.toArray n) ∈ news)
    (P : PairsL st vs hs) (hst : ∀ p ∈ st, p ∈ news) (h64 : hs.length < 64)
    (h : ∀ D vs' c h', Fr h₀ L h' m → News h₀ L h' ((D, listOf (List.toArray vs') c) :: news) → (∀ q ∈ news, q.1 < D) → PairsL st vs' (sortL hs) → Q (.ref D) { s with heap := h' }) :
    wpAny (model prog w) A (call (.builtin "sorted") [.ref l]) Q E s := by
  have hlen := P.len
  have hl : s.heap.IsList l vs.toArray := ⟨_, N.get hm, rfl, _, rfl⟩
  by_cases h2 : vs.length < 2
  · refine sorted_few F N hl h2 fun D h' e F' N' hD => h D vs e h' F' N' hD ?_
    have e3 : hs = sortL hs := sortL_uniq (List.Perm.refl _) (by
      rw [List.pairwise_iff_getElem]
      intro i j hi hj hij
      omega)
    rw [← e3]; exact P
  · refine kat_sorted F N hl (by omega) (by omega) fun D e1 h' F' N' hD => ?_
    have Nst : News h₀ L h' st := fun p hp => N' p (.tail _ (hst p hp))
    obtain ⟨ts, h1, h2⟩ := kind_pairs (h := h') (fun p hp => (Nst p hp).1) P
    refine kat_kind (T := .type "int") h2 (by simp [h1]; omega) ?_ rfl ?_
    · intro v hv
      obtain ⟨q, _, rfl⟩ := List.mem_map.mp hv
      exact Looks.of_pure rfl
    · show KasT.kasWp (kas_ask prog w A.in1.in1 (tuples' true) vs) _ _ _
      rw [hlen]
      refine KOk.wp (f := rank hs) (n := hs.length) (fun i j C hi hj hC => ?_) _ (KOk.mono (fun p hp => ?_) _ (sort_ok (by omega)))
      · refine ask_pairs Nst P hi hj ?_
        rw [← rank_lt hi hj]
        exact hC
      · refine KasFin.intro F' N' (.head fun q hq => Nat.ne_of_lt (hD q hq)) fun h'' c F'' N'' => h D _ c h'' F'' N'' hD ?_
        rw [← out_sorted hp.1 hp.2]
        exact P.map fun j hj => by
          obtain ⟨i, hi, e⟩ := List.mem_iff_getElem.mp hj
          have hi' : i < p.size := by simpa using hi
          have := hp.1.lt (k := i) (by rw [← hp.1.size]; exact hi')
          rw [Array.getD_eq_getD_getElem?, Array.getElem?_eq_getElem hi'] at this
          rw [← e]
          simpa using this
end
end
section
open PySem PySem.W PyProof.Rows PySem.Calls PySem.Spec
set_option hygiene false
local macro_rules | `(tactic| omega) => `(tactic| first | lia | omega (config := {}))

set_option hygiene true
section
open PySem PySem.W PyProof.Rows PySem.Calls PySem.Spec
theorem getD_set {h : List P2} {i j : Nat} {v : P2} (hi : i < h.length) : (h.set i v).getD j p0 = if i = j then v else h.getD j p0 := by
  rw [List.getD_eq_getElem?_getD, List.getElem?_set, List.getD_eq_getElem?_getD]
  by_cases e : i = j
  · subst e; simp [hi]
  · simp [e]
theorem swap_perm {l : List P2} {i j : Nat} {x : P2} (hi : i < l.length) (hj : j < l.length) (ne : i ≠ j) : ((l.set i (l.getD j p0)).set j x).Perm (l.set i x) := by
  rw [List.perm_iff_count]
  intro a
  have hj' : j < (l.set i (l.getD j p0)).length := by rw [List.length_set]; exact hj
  have e : (l.set i (l.getD j p0))[j]'hj' = l.getD j p0 := by
    refine (List.getElem_set_ne ne hj').trans ?_
    simp [hj]
  rw [List.count_set hj', e, List.count_set hi, List.count_set hi, Nat.add_sub_cancel]
theorem sdL_perm (x : P2) : ∀ (k pos : Nat) (h : List P2), pos ≤ k → pos < h.length → (sdL x 0 pos h).Perm (h.set pos x) := by
  intro k
  induction k with
  | zero =>
    intro pos h hk hp
    rw [sdL_stop1 (by omega)]
  | succ k ih =>
    intro pos h hk hp
    by_cases h1 : 0 < pos
    · cases h2 : ltP x (h.getD ((pos - 1) / 2) p0) with
      | true =>
        rw [← sdL_go h1 h2]
        exact (ih _ _ (by omega) (by rw [List.length_set]; omega)).trans (swap_perm hp (by omega) (by omega))
      | false => rw [sdL_stop2 h2]
    · rw [sdL_stop1 h1]
theorem suL_perm : ∀ (k pos : Nat) (h : List P2), h.length - pos ≤ k → pos < h.length → (suL h.length pos h).2.length = h.length ∧ (suL h.length pos h).1 < h.length ∧ h.length ≤ 2 * (suL h.length pos h).1 + 1 ∧ ∀ x, ((suL h.length pos h).2.set (suL h.length pos h).1 x).Perm (h.set pos x) := by
  intro k
  induction k with
  | zero => intro pos h hk hp; omega
  | succ k ih =>
    intro pos h hk hp
    have step : ∀ c, c < h.length → pos < c → suL h.length c (h.set pos (h.getD c p0)) = suL h.length pos h → _ := fun c hc hpc e => by
      have q := ih c (h.set pos (h.getD c p0)) (by rw [List.length_set]; omega) (by rw [List.length_set]; exact hc)
      rw [List.length_set, e] at q
      exact (⟨q.1, q.2.1, q.2.2.1, fun x => (q.2.2.2 x).trans (swap_perm hp hc (by omega))⟩ : (suL h.length pos h).2.length = h.length ∧ (suL h.length pos h).1 < h.length ∧ h.length ≤ 2 * (suL h.length pos h).1 + 1 ∧ ∀ x, ((suL h.length pos h).2.set (suL h.length pos h).1 x).Perm (h.set pos x))
    by_cases h0 : 2 * pos + 1 < h.length
    · by_cases h1 : 2 * pos + 2 < h.length
      · cases h2 : ltP (h.getD (2 * pos + 1) p0) (h.getD (2 * pos + 2) p0) with
        | false => exact step _ h1 (by omega) (suL_right h1 h2)
        | true => exact step _ h0 (by omega) (suL_left1 h0 h2)
      · exact step _ h0 (by omega) (suL_left2 h0 h1)
    · rw [suL_end h0]
      exact ⟨rfl, hp, by show h.length ≤ 2 * pos + 1; omega, fun x => List.Perm.refl _⟩
theorem set_getD_self {h : List P2} {i : Nat} : h.set i (h.getD i p0) = h := by
  by_cases hi : i < h.length
  · rw [List.getD_eq_getElem?_getD, List.getElem?_eq_getElem hi]
    exact List.set_getElem_self hi
  · exact List.set_eq_of_length_le (by omega)
theorem siftupL_perm {h : List P2} (hp : 0 < h.length) : (siftupL h 0).Perm h := by
  obtain ⟨q1, q2, q3, q4⟩ := suL_perm h.length 0 h (by omega) hp
  unfold siftupL
  refine (sdL_perm _ _ _ _ (Nat.le_refl _) (by rw [List.length_set, q1]; exact q2)).trans ?_
  rw [List.set_set]
  refine (q4 _).trans ?_
  rw [set_getD_self]
theorem pushL_perm (h : List P2) (x : P2) : (pushL h x).Perm (h ++ [x]) := by
  unfold pushL
  refine (sdL_perm x _ _ _ (Nat.le_refl _) (by simp)).trans ?_
  have e : (h ++ [x]).set h.length x = h ++ [x] := by simp
  rw [e]
theorem popL_perm {h : List P2} (hp : 0 < h.length) : ((popL h).1 :: (popL h).2).Perm h := by
  have hne : h ≠ [] := fun e => by rw [e] at hp; exact absurd hp (Nat.lt_irrefl _)
  have e1 : h.dropLast ++ [h.getLastD p0] = h := by
    conv => rhs; rw [← List.dropLast_concat_getLast hne]
    rw [List.getLastD_eq_getLast?, List.getLast?_eq_some_getLast hne]
    rfl
  unfold popL
  by_cases hd : h.dropLast = []
  · rw [if_pos hd]
    rw [hd] at e1
    exact List.Perm.of_eq e1
  · rw [if_neg hd]
    have hdl : 0 < h.dropLast.length := List.length_pos_iff.mpr hd
    generalize h.dropLast = d at *
    generalize h.getLastD p0 = z at *
    show (d.getD 0 p0 :: siftupL (d.set 0 z) 0).Perm h
    refine (List.Perm.cons _ (siftupL_perm (by rw [List.length_set]; exact hdl))).trans ?_
    rw [← e1]
    match d, hdl with
    | a :: r, _ =>
      show (a :: z :: r).Perm (a :: r ++ [z])
      exact List.Perm.cons _ (List.perm_append_singleton z r).symm
noncomputable def drainN : Nat → List P2 → List P2
  | 0, _ => []
  | n + 1, h => (popL h).1 :: drainN n (popL h).2
noncomputable def drainL (h : List P2) : List P2 := drainN h.length h
theorem popL_len {h : List P2} (hp : 0 < h.length) : (popL h).2.length = h.length - 1 := by
  have := (popL_perm hp).length_eq
  simp only [List.length_cons] at this
  omega
theorem drainN_perm : ∀ (n : Nat) (h : List P2), h.length = n → (drainN n h).Perm h
  | 0, h, e => by rw [List.length_eq_zero_iff.mp e]; exact List.Perm.refl _
  | n + 1, h, e => by
    have hp : 0 < h.length := by omega
    exact (List.Perm.cons _ (drainN_perm n _ (by rw [popL_len hp]; omega))).trans (popL_perm hp)
/-- the order -/
noncomputable def HeapP (h : List P2) : Prop := ∀ i, 0 < i → i < h.length → leP (h.getD ((i - 1) / 2) p0) (h.getD i p0) = true
structure HoleU (h : List P2) (pos : Nat) : Prop where
  far : ∀ i, 0 < i → i < h.length → i ≠ pos → (i - 1) / 2 ≠ pos → leP (h.getD ((i - 1) / 2) p0) (h.getD i p0) = true
  near : 0 < pos → ∀ i, 0 < i → i < h.length → (i - 1) / 2 = pos → leP (h.getD ((pos - 1) / 2) p0) (h.getD i p0) = true
theorem le_of_lt {a b : P2} (h : ltP a b = true) : leP a b = true := by unfold leP; rw [ltP_asymm h]; rfl
theorem le_of_nlt {a b : P2} (h : ltP b a = false) : leP a b = true := by unfold leP; rw [h]; rfl
theorem sdL_heap (x : P2) : ∀ (k pos : Nat) (h : List P2), pos ≤ k → pos < h.length → HoleU h pos → (∀ i, 0 < i → i < h.length → (i - 1) / 2 = pos → leP x (h.getD i p0) = true) → HeapP (sdL x 0 pos h) := by
  have fin : ∀ (pos : Nat) (h : List P2), pos < h.length → HoleU h pos → (∀ i, 0 < i → i < h.length → (i - 1) / 2 = pos → leP x (h.getD i p0) = true) → (0 < pos → leP (h.getD ((pos - 1) / 2) p0) x = true) → HeapP (h.set pos x) := by
    intro pos h hp H hx hpar i h0 hi
    rw [List.length_set] at hi
    rw [getD_set hp, getD_set hp]
    by_cases e1 : pos = i
    · rw [if_pos e1, if_neg (by omega)]
      subst e1
      exact hpar h0
    · rw [if_neg e1]
      by_cases e2 : pos = (i - 1) / 2
      · rw [if_pos e2]
        exact hx i h0 hi e2.symm
      · rw [if_neg e2]
        exact H.far i h0 hi (Ne.symm e1) (Ne.symm e2)
  intro k
  induction k with
  | zero =>
    intro pos h hk hp H hx
    rw [sdL_stop1 (by omega)]
    exact fin pos h hp H hx (fun q => by omega)
  | succ k ih =>
    intro pos h hk hp H hx
    by_cases h1 : 0 < pos
    · cases h2 : ltP x (h.getD ((pos - 1) / 2) p0) with
      | false =>
        rw [sdL_stop2 h2]
        exact fin pos h hp H hx (fun _ => le_of_nlt h2)
      | true =>
        rw [← sdL_go h1 h2]
        have hq : (pos - 1) / 2 ≠ pos := by omega
        refine ih _ _ (by omega) (by rw [List.length_set]; omega) ⟨?_, ?_⟩ ?_
        · intro i h0 hi n1 n2
          rw [List.length_set] at hi
          rw [getD_set hp, getD_set hp]
          by_cases e1 : pos = i
          · exact absurd (by rw [← e1]) n2
          · rw [if_neg e1]
            by_cases e2 : pos = (i - 1) / 2
            · rw [if_pos e2]
              exact H.near h1 i h0 hi e2.symm
            · rw [if_neg e2]
              exact H.far i h0 hi (Ne.symm e1) (Ne.symm e2)
        · intro hp0 i h0 hi n1
          rw [List.length_set] at hi
          rw [getD_set hp, getD_set hp, if_neg (by omega)]
          have up : leP (h.getD (((pos - 1) / 2 - 1) / 2) p0) (h.getD ((pos - 1) / 2) p0) = true := H.far _ hp0 (by omega) hq (by omega)
          by_cases e1 : pos = i
          · rw [if_pos e1]; exact up
          · rw [if_neg e1]
            refine leP_trans _ _ _ up ?_
            rw [← n1]
            exact H.far i h0 hi (Ne.symm e1) (by omega)
        · intro i h0 hi n1
          rw [List.length_set] at hi
          rw [getD_set hp]
          by_cases e1 : pos = i
          · rw [if_pos e1]; exact le_of_lt h2
          · rw [if_neg e1]
            refine leP_trans _ _ _ (le_of_lt h2) ?_
            rw [← n1]
            exact H.far i h0 hi (Ne.symm e1) (by omega)
    · rw [sdL_stop1 h1]
      exact fin pos h hp H hx (fun q => absurd q h1)
theorem suL_hole : ∀ (k pos : Nat) (h : List P2), h.length - pos ≤ k → pos < h.length → HoleU h pos → HoleU (suL h.length pos h).2 (suL h.length pos h).1 := by
  intro k
  induction k with
  | zero => intro pos h hk hp; omega
  | succ k ih =>
    intro pos h hk hp H
    have step : ∀ c, c < h.length → (c - 1) / 2 = pos → 0 < c → (∀ i, 0 < i → i < h.length → (i - 1) / 2 = pos → leP (h.getD c p0) (h.getD i p0) = true) → suL h.length c (h.set pos (h.getD c p0)) = suL h.length pos h → HoleU (suL h.length pos h).2 (suL h.length pos h).1 := by
      intro c hc hcp hc0 hmin e
      have q := ih c (h.set pos (h.getD c p0)) (by rw [List.length_set]; omega) (by rw [List.length_set]; exact hc) ?_
      · rw [List.length_set, e] at q; exact q
      · refine ⟨?_, ?_⟩
        · intro i h0 hi n1 n2
          rw [List.length_set] at hi
          rw [getD_set hp, getD_set hp]
          by_cases e1 : pos = i
          · rw [if_pos e1, if_neg (by omega)]
            subst e1
            exact H.near h0 c hc0 hc hcp
          · rw [if_neg e1]
            by_cases e2 : pos = (i - 1) / 2
            · rw [if_pos e2]; exact hmin i h0 hi e2.symm
            · rw [if_neg e2]; exact H.far i h0 hi (Ne.symm e1) (Ne.symm e2)
        · intro _ i h0 hi n1
          rw [List.length_set] at hi
          rw [getD_set hp, getD_set hp, if_pos hcp.symm, if_neg (by omega), ← n1]
          exact H.far i h0 hi (by omega) (by omega)
    have cases2 : ∀ i, 0 < i → (i - 1) / 2 = pos → i = 2 * pos + 1 ∨ i = 2 * pos + 2 := by intro i h0 h1; omega
    by_cases h0 : 2 * pos + 1 < h.length
    · by_cases h1 : 2 * pos + 2 < h.length
      · cases h2 : ltP (h.getD (2 * pos + 1) p0) (h.getD (2 * pos + 2) p0) with
        | false =>
          refine step _ h1 (by omega) (by omega) (fun i a b c => ?_) (suL_right h1 h2)
          rcases cases2 i a c with e | e
          · rw [e]; exact le_of_nlt h2
          · rw [e]; exact leP_refl _
        | true =>
          refine step _ h0 (by omega) (by omega) (fun i a b c => ?_) (suL_left1 h0 h2)
          rcases cases2 i a c with e | e
          · rw [e]; exact leP_refl _
          · rw [e]; exact le_of_lt h2
      · refine step _ h0 (by omega) (by omega) (fun i a b c => ?_) (suL_left2 h0 h1)
        rcases cases2 i a c with e | e
        · rw [e]; exact leP_refl _
        · omega
    · rw [suL_end h0]; exact H
theorem HoleU.set {h : List P2} {pos : Nat} {x : P2} (hp : pos < h.length) (H : HoleU h pos) : HoleU (h.set pos x) pos where
  far := fun i h0 hi n1 n2 => by
    rw [List.length_set] at hi
    rw [getD_set hp, getD_set hp, if_neg (Ne.symm n1), if_neg (Ne.symm n2)]
    exact H.far i h0 hi n1 n2
  near := fun q i h0 hi n1 => by
    rw [List.length_set] at hi
    rw [getD_set hp, getD_set hp, if_neg (by omega), if_neg (by omega)]
    exact H.near q i h0 hi n1
theorem pushL_heap {h : List P2} {x : P2} (H : HeapP h) : HeapP (pushL h x) := by
  have e : ∀ i, i < h.length → (h ++ [x]).getD i p0 = h.getD i p0 := fun i hi => by
    rw [List.getD_eq_getElem?_getD, List.getElem?_append_left hi, List.getD_eq_getElem?_getD]
  unfold pushL
  refine sdL_heap x _ _ _ (Nat.le_refl _) (by simp) ⟨?_, ?_⟩ ?_
  · intro i h0 hi n1 n2
    rw [List.length_append, List.length_singleton] at hi
    rw [e _ (by omega), e _ (by omega)]
    exact H i h0 (by omega)
  · intro _ i h0 hi n1
    rw [List.length_append, List.length_singleton] at hi
    omega
  · intro i h0 hi n1
    rw [List.length_append, List.length_singleton] at hi
    omega
theorem heap_root {h : List P2} (H : HeapP h) : ∀ (k i : Nat), i ≤ k → i < h.length → leP (h.getD 0 p0) (h.getD i p0) = true := by
  intro k
  induction k with
  | zero => intro i hi _; have : i = 0 := by omega
            rw [this]; exact leP_refl _
  | succ k ih =>
    intro i hi hl
    by_cases h0 : 0 < i
    · exact leP_trans _ _ _ (ih ((i - 1) / 2) (by omega) (by omega)) (H i h0 hl)
    · have : i = 0 := by omega
      rw [this]; exact leP_refl _
theorem dropLast_getD {h : List P2} {i : Nat} (hi : i < h.dropLast.length) : h.dropLast.getD i p0 = h.getD i p0 := by
  rw [List.length_dropLast] at hi
  rw [List.getD_eq_getElem?_getD, List.getElem?_dropLast, if_pos hi, List.getD_eq_getElem?_getD]
theorem popL_heap {h : List P2} (H : HeapP h) (hp : 0 < h.length) : HeapP (popL h).2 ∧ ∀ y ∈ h, leP (popL h).1 y = true := by
  have root : ∀ y ∈ h, leP (h.getD 0 p0) y = true := fun y hy => by
    obtain ⟨i, hi, e⟩ := List.mem_iff_getElem.mp hy
    have := heap_root H h.length i (by omega) hi
    have e2 : h.getD i p0 = y := by rw [List.getD_eq_getElem?_getD, List.getElem?_eq_getElem hi, ← e]; rfl
    rw [← e2]; exact this
  unfold popL
  by_cases hd : h.dropLast = []
  · rw [if_pos hd]
    refine ⟨fun i h0 hi => absurd hi (Nat.not_lt_zero _), ?_⟩
    match h, hp with
    | [a], _ =>
      intro y hy
      rw [List.mem_singleton.mp hy]
      exact leP_refl _
    | a :: b :: r, _ => cases hd
  · rw [if_neg hd]
    have hdl : 0 < h.dropLast.length := List.length_pos_iff.mpr hd
    have hdl2 := List.length_dropLast (xs := h)
    refine ⟨?_, ?_⟩
    · have HU : HoleU (h.dropLast.set 0 (h.getLastD p0)) 0 := by
        refine HoleU.set hdl ⟨?_, fun q => absurd q (Nat.lt_irrefl _)⟩
        intro i h0 hi n1 n2
        rw [dropLast_getD hi, dropLast_getD (by omega)]
        exact H i h0 (by omega)
      show HeapP (siftupL (h.dropLast.set 0 (h.getLastD p0)) 0)
      have hl : 0 < (h.dropLast.set 0 (h.getLastD p0)).length := by rw [List.length_set]; exact hdl
      generalize h.dropLast.set 0 (h.getLastD p0) = d at *
      obtain ⟨q1, q2, q3, q4⟩ := suL_perm d.length 0 d (by omega) hl
      have HV := suL_hole d.length 0 d (by omega) hl HU
      unfold siftupL
      refine sdL_heap _ _ _ _ (Nat.le_refl _) (by rw [List.length_set, q1]; exact q2) (HV.set (by rw [q1]; exact q2)) ?_
      intro i h0 hi n1
      rw [List.length_set, q1] at hi
      omega
    · show ∀ y ∈ h, leP (h.dropLast.getD 0 p0) y = true
      rw [dropLast_getD hdl]
      exact root
theorem drainN_sorted : ∀ (n : Nat) (h : List P2), h.length = n → HeapP h → (drainN n h).Pairwise (fun x y => leP x y = true)
  | 0, _, _, _ => .nil
  | n + 1, h, e, H => by
    have hp : 0 < h.length := by omega
    have q := popL_heap H hp
    have hl : (popL h).2.length = n := by rw [popL_len hp]; omega
    refine .cons (fun y hy => ?_) (drainN_sorted n _ hl q.1)
    have hy2 : y ∈ (popL h).2 := (drainN_perm n _ hl).mem_iff.mp hy
    exact q.2 y ((popL_perm hp).mem_iff.mp (List.mem_cons_of_mem _ hy2))
theorem drainL_sort {h : List P2} (H : HeapP h) : drainL h = sortL h := sortL_uniq (drainN_perm _ h rfl) (drainN_sorted _ h rfl H)
end
end
section
open PySem PySem.W PyProof.Rows PySem.Calls PySem.Spec
set_option maxHeartbeats 8000000
theorem fspath_con (w : World) (x : Str) (t₁ : Tok) (news : List (Addr × Obj)) :
    Con w 136 [.str x t₁] 1 news (fun r news' => news' = news ∧ r = .str x t₁) := by
  unfold Con
  intro dp un gd env outer A₀ base h₀ L m mean mg mb hp gs dr tk₀ os Q E B F X N T hf hk hd hu hret
  refine wpAny_call ?_
  (refine' code_def (binds := [("path", .str x t₁)]) ?k1 ?k2 ?k3 ?k4 ?k5 ?kA ?kF ?kK ?k6 ?k7 ?k8 ?k9 ?kB ?_ ?c2 ?c3 ?c4 ?c5; (case kA => exact rfl); (case kF => assumption); (case kK => assumption); (case k1 => k_asm); (case k2 => k_asm); (case k3 => k_asm); (case k4 => k_asm); (case k5 => k_asm); (case k6 => k_is); (case k7 => k_is); (case k8 => ktr_room); (case k9 => exact BindsTo.of_eq rfl); (case c5 => decide); (case kB => exact locs rfl); (case c2 => exact rfl); (case c3 => exact rfl); (case c4 => exact rfl); k_whole; intro g' L' h' FG' F' N' B' X' T'; (try dsimp only); (try k_fold))
  k_with_none
  w_top off
  walk_at "mine go"
  exact hret _ _ _ (news) (by assumption) (news_sub (by assumption) (fun _ h => by first | exact h | (simp only [List.mem_cons, List.mem_append] at h ⊢; simp only [h, true_or, or_true]))) (⟨rfl, rfl⟩)
theorem getsep_con (w : World) (x : Str) (t₁ : Tok) (news : List (Addr × Obj)) :
    Con w 150 [.str x t₁] 1 news (fun r news' => news' = news ∧ ∃ t, r = .str (Str.ofString "/") t) := by
  unfold Con
  intro dp un gd env outer A₀ base h₀ L m mean mg mb hp gs dr tk₀ os Q E B F X N T hf hk hd hu hret
  refine wpAny_call ?_
  (refine' code_def (binds := [("path", .str x t₁)]) ?k1 ?k2 ?k3 ?k4 ?k5 ?kA ?kF ?kK ?k6 ?k7 ?k8 ?k9 ?kB ?_ ?c2 ?c3 ?c4 ?c5; (case kA => exact rfl); (case kF => assumption); (case kK => assumption); (case k1 => k_asm); (case k2 => k_asm); (case k3 => k_asm); (case k4 => k_asm); (case k5 => k_asm); (case k6 => k_is); (case k7 => k_is); (case k8 => ktr_room); (case k9 => exact BindsTo.of_eq rfl); (case c5 => decide); (case kB => exact locs rfl); (case c2 => exact rfl); (case c3 => exact rfl); (case c4 => exact rfl); k_whole; intro g' L' h' FG' F' N' B' X' T'; (try dsimp only); (try k_fold))
  k_with_none
  w_top off
  walk_at "mine go"
  exact hret _ _ _ (news) (by assumption) (news_sub (by assumption) (fun _ h => by first | exact h | (simp only [List.mem_cons, List.mem_append] at h ⊢; simp only [h, true_or, or_true]))) (⟨rfl, _, rfl⟩)
local macro_rules | `(tactic| walk_at "call ref") => `(tactic| (k_here; (refine' Con.useA (fspath_con _ _ _ _) ?_); (intro _ _ _ _ _ _ P9); (obtain ⟨e8, e9⟩ := P9; replace e8 := e8.symm; subst e8; subst e9); walk_at "mine end"))
local macro_rules | `(tactic| walk_at "call ref") => `(tactic| (k_here; (refine' Con.useA (getsep_con _ _ _ _) ?_); (intro _ _ _ _ _ _ P9); (obtain ⟨e8, t9, e9⟩ := P9; replace e8 := e8.symm; subst e8; subst e9); walk_at "mine end"))
noncomputable def baseL (x : Str) : Str := Txt.slice x (some (Txt.rfind x (Str.ofString "/") + 1)) none
theorem base_con (w : World) (x : Str) (hx : x.length ≤ 1000) (t₁ : Tok) (news : List (Addr × Obj)) :
    Con w 171 [.str x t₁] 2 news (fun r news' => news' = news ∧ ∃ t, r = .str (baseL x) t) := by
  unfold Con
  intro dp un gd env outer A₀ base h₀ L m mean mg mb hp gs dr tk₀ os Q E B F X N T hf hk hd hu hret
  refine wpAny_call ?_
  (refine' code_def (binds := [("p", .str x t₁)]) ?k1 ?k2 ?k3 ?k4 ?k5 ?kA ?kF ?kK ?k6 ?k7 ?k8 ?k9 ?kB ?_ ?c2 ?c3 ?c4 ?c5; (case kA => exact rfl); (case kF => assumption); (case kK => assumption); (case k1 => k_asm); (case k2 => k_asm); (case k3 => k_asm); (case k4 => k_asm); (case k5 => k_asm); (case k6 => k_is); (case k7 => k_is); (case k8 => ktr_room); (case k9 => exact BindsTo.of_eq rfl); (case c5 => decide); (case kB => exact locs rfl); (case c2 => exact rfl); (case c3 => exact rfl); (case c4 => exact rfl); k_whole; intro g' L' h' FG' F' N' B' X' T'; (try dsimp only); (try k_fold))
  k_with_none
  w_top off
  walk_at "mine go"
  exact hret _ _ _ (news) (by assumption) (news_sub (by assumption) (fun _ h => by first | exact h | (simp only [List.mem_cons, List.mem_append] at h ⊢; simp only [h, true_or, or_true]))) (⟨rfl, _, rfl⟩)
noncomputable def headL (x : Str) : Str := Txt.slice x none (some (Txt.rfind x (Str.ofString "/") + 1))
noncomputable def dirL (x : Str) : Str := if (headL x).length = 0 then headL x else if (headL x != Txt.mul (Str.ofString "/") ((headL x).length : Int)) = true then Txt.rstripChars (headL x) (Str.ofString "/") else headL x
theorem dir_con (w : World) (x : Str) (hx : x.length ≤ 1000) (t₁ : Tok) (news : List (Addr × Obj)) :
    Con w 178 [.str x t₁] 2 news (fun r news' => news' = news ∧ ∃ t, r = .str (dirL x) t) := by
  unfold Con
  intro dp un gd env outer A₀ base h₀ L m mean mg mb hp gs dr tk₀ os Q E B F X N T hf hk hd hu hret
  refine wpAny_call ?_
  (refine' code_def (binds := [("p", .str x t₁)]) ?k1 ?k2 ?k3 ?k4 ?k5 ?kA ?kF ?kK ?k6 ?k7 ?k8 ?k9 ?kB ?_ ?c2 ?c3 ?c4 ?c5; (case kA => exact rfl); (case kF => assumption); (case kK => assumption); (case k1 => k_asm); (case k2 => k_asm); (case k3 => k_asm); (case k4 => k_asm); (case k5 => k_asm); (case k6 => k_is); (case k7 => k_is); (case k8 => ktr_room); (case k9 => exact BindsTo.of_eq rfl); (case c5 => decide); (case kB => exact locs rfl); (case c2 => exact rfl); (case c3 => exact rfl); (case c4 => exact rfl); k_whole; intro g' L' h' FG' F' N' B' X' T'; (try dsimp only); (try k_fold))
  k_with_none
  w_top off
  walk_at "mine go"
  · refine hret _ _ _ _ (by assumption) (by assumption) ⟨rfl, _, congrArg (fun z => Value.str z _) ?_⟩
    exact ((if_neg (Nat.ne_of_gt (by assumption))).trans (if_pos (by assumption))).symm
  · refine hret _ _ _ _ (by assumption) (by assumption) ⟨rfl, _, congrArg (fun z => Value.str z _) ?_⟩
    exact ((if_neg (Nat.ne_of_gt (by assumption))).trans (if_neg (by rw [Bool.not_eq_true]; assumption))).symm
  · refine hret _ _ _ _ (by assumption) (by assumption) ⟨rfl, _, congrArg (fun z => Value.str z _) ?_⟩
    exact (if_pos (by assumption)).symm
noncomputable def rootL (x : Str) : Str := if (Txt.slice x none (some 1) != Str.ofString "/") = true then Str.ofString "" else if (Txt.slice x (some 1) (some 2) != Str.ofString "/") = true then Str.ofString "/" else if (Txt.slice x (some 2) (some 3) == Str.ofString "/") = true then Str.ofString "/" else Txt.slice x none (some 2)
noncomputable def restL (x : Str) : Str := if (Txt.slice x none (some 1) != Str.ofString "/") = true then x else if (Txt.slice x (some 1) (some 2) != Str.ofString "/") = true then Txt.slice x (some 1) none else if (Txt.slice x (some 2) (some 3) == Str.ofString "/") = true then Txt.slice x (some 1) none else Txt.slice x (some 2) none
theorem splitroot_con (w : World) (x : Str) (hx : x.length ≤ 1000) (t₁ : Tok) (news : List (Addr × Obj)) :
    Con w 164 [.str x t₁] 2 news (fun r news' => ∃ D t1 t2 t3 ro re, ro = rootL x ∧ re = restL x ∧ r = .ref D ∧ (∀ p ∈ news, p.1 < D) ∧ news' = (D, ({ cls := .type "tuple", data := .seq #[.str (Str.ofString "") t1, .str ro t2, .str re t3] } : Obj)) :: news) := by
  unfold Con
  intro dp un gd env outer A₀ base h₀ L m mean mg mb hp gs dr tk₀ os Q E B F X N T hf hk hd hu hret
  refine wpAny_call ?_
  (refine' code_def (binds := [("p", .str x t₁)]) ?k1 ?k2 ?k3 ?k4 ?k5 ?kA ?kF ?kK ?k6 ?k7 ?k8 ?k9 ?kB ?_ ?c2 ?c3 ?c4 ?c5; (case kA => exact rfl); (case kF => assumption); (case kK => assumption); (case k1 => k_asm); (case k2 => k_asm); (case k3 => k_asm); (case k4 => k_asm); (case k5 => k_asm); (case k6 => k_is); (case k7 => k_is); (case k8 => ktr_room); (case k9 => exact BindsTo.of_eq rfl); (case c5 => decide); (case kB => exact locs rfl); (case c2 => exact rfl); (case c3 => exact rfl); (case c4 => exact rfl); k_whole; intro g' L' h' FG' F' N' B' X' T'; (try dsimp only); (try k_fold))
  k_with_none
  w_top off
  walk_at "mine go"
  all_goals (
    refine hret _ _ _ _ (by assumption) (by assumption) ⟨_, _, _, _, _, _, ?_, ?_, rfl, by assumption, rfl⟩
    · unfold rootL; simp only [*, if_true, if_false, Bool.false_eq_true]
    · unfold restL; simp only [*, if_true, if_false, Bool.false_eq_true])
local macro_rules | `(tactic| walk_at "call ref") => `(tactic| (k_here; (refine' Con.useA (fspath_con _ _ _ _) ?_); (intro _ _ _ _ _ _ P9); (obtain ⟨e8, e9⟩ := P9; replace e8 := e8.symm; subst e8; subst e9); walk_at "mine end"))
local macro_rules | `(tactic| walk_at "call ref") => `(tactic| (k_here; (refine' Con.useA (getsep_con _ _ _ _) ?_); (intro _ _ _ _ _ _ P9); (obtain ⟨e8, t9, e9⟩ := P9; replace e8 := e8.symm; subst e8; subst e9); walk_at "mine end"))
noncomputable def joinL (x y : Str) : Str := if Txt.startswith y (Str.ofString "/") = true then y else if x.length = 0 then y else if Txt.endswith x (Str.ofString "/") = true then x ++ y else x ++ (Str.ofString "/" ++ y)
inductive JnA (x y : Str) (t₁ t₂ : Tok) (D' : Addr) (news : List (Addr × Obj)) (j : Nat) (m : Str → Option Value) (nx : List (Addr × Obj)) : Prop
  | mk (p0 : nx = (D', tupo [.str y t₂]) :: news) (t ts : Tok) (h0 : m "a" = some (.str x t₁)) (h1 : m "sep" = some (.str (Str.ofString "/") ts)) (h2 : m "path" = some (.str (if j = 0 then x else joinL x y) t)) : JnA x y t₁ t₂ D' news j m nx
theorem join_con (w : World) (x y : Str) (hx : x.length ≤ 500) (hy : y.length ≤ 100) (t₁ t₂ : Tok) (news : List (Addr × Obj)) :
    Con w 157 [.str x t₁, .str y t₂] 2 news (fun r news' => news' = news ∧ ∃ t, r = .str (joinL x y) t) := by
  unfold Con
  intro dp un gd env outer A₀ base h₀ L m mean mg mb hp gs dr tk₀ os Q E B F X N T hf hk hd hu hret
  refine wpAny_call ?_
  k_with_none
  w_top off
  (refine' kp_rest (binds := fun D => [("a", .str x t₁), ("p", .ref D)]) ?k1 ?k2 ?k3 ?k4 ?k5 ?kA ?kF ?kK ?k6 ?k7 ?k8 ?kV ?kP ?kG ?kB ?_ ?c2 ?c3 ?c4 ?c5; (case kA => exact rfl); (case kF => assumption); (case kK => assumption); (case k1 => k_asm); (case k2 => k_asm); (case k3 => k_asm); (case k4 => k_asm); (case k5 => k_asm); (case k6 => k_is); (case k7 => k_is); (case k8 => ktr_room); (case kV => kl_lit); (case kP => exact rfl); (case kG => exact fun _ => rfl); (case kB => exact fun _ => locs rfl); (case c5 => decide); (case c2 => exact rfl); (case c3 => exact rfl); (case c4 => exact rfl); k_whole; intro D' g' L' h' l1 FG' F' N' B' X' T'; (try k_lt l1); (try dsimp only); (try k_fold))
  walk_at "mine go"
  refine wpAny_mono (E := fun _ _ => False) ?_ (fun _ _ q => q) (fun _ _ f => f.elim)
  refine For_invV g' rfl rfl ?_ (hE := .never)
  walk_at "mine go"
  refine for_tup (vs := [.str y t₂]) (JnA x y t₁ t₂ D' news) rfl (by assumption) (by assumption) (.head _) ?_ ?_ ?_ ?_
  · exact ⟨rfl, _, _, rfl, rfl, rfl⟩
  · rintro i m nx ⟨rfl, _⟩; exact .head _
  · rintro i v m₁ nx I io h₁ tk₁ W1 hW1 hv ⟨rfl, t, ts, e1, e2, e3⟩ off F₁ N₁
    match i, hv with
    | 0, hv => 
      injection hv with hv
      subst hv
      replace F₁ : Fr g' L' _ _ := F₁
      replace N₁ : News g' L' _ _ := N₁
      have F₂ := frTopC "b" (.str y t₂) [("a", .str x t₁), ("sep", .str (Str.ofString "/") ts), ("path", .str x t)] F₁ (ftA e1 (ftA e2 (ftA e3 ft0)))
      clear F₁
      k_sweep
      walk_at "mine go"
      all_goals (
        refine hW1 _ _ ?_
        refine turnEd (by assumption) (by assumption) ((D', tupo [.str y t₂]) :: news) (fun p hp => hp) off ⟨rfl, _, _, rfl, rfl, congrArg (fun z => some (Value.str z _)) ?_⟩
        show _ = joinL x y
        first
          | exact (if_pos (by assumption)).symm
          | exact ((if_neg (by rw [Bool.not_eq_true]; assumption)).trans (if_pos (by assumption))).symm
          | exact ((if_neg (by rw [Bool.not_eq_true]; assumption)).trans ((if_neg (Nat.ne_of_gt (by assumption))).trans (if_pos (by assumption)))).symm
          | exact ((if_neg (by rw [Bool.not_eq_true]; assumption)).trans ((if_neg (Nat.ne_of_gt (by assumption))).trans (if_neg (by rw [Bool.not_eq_true]; assumption)))).symm)
  · rintro m₁ nx h₁ tk₁ ⟨rfl, t, ts, e1, e2, e3⟩ F₁ N₁
    replace F₁ : Fr g' L' _ _ := F₁
    replace N₁ : News g' L' _ _ := N₁
    have F₂ := frTop [("a", .str x t₁), ("sep", .str (Str.ofString "/") ts), ("path", .str (joinL x y) t)] F₁ (ftA e1 (ftA e2 (ftA e3 ft0)))
    clear F₁
    k_sweep
    walk_at "mine go"
    exact hret _ _ _ _ (by assumption) (news_sub (by assumption) (fun p h => .tail _ h)) ⟨rfl, _, rfl⟩
end
section
open PySem PySem.W PyProof.Rows PySem.Calls PySem.Spec PyProof
/-- a list of texts, by what the texts are -/
noncomputable def TxtIs (vs : List Value) (xs : List Str) : Prop := ∃ l : List (Str × Tok), vs = strValues l ∧ l.map (·.1) = xs
theorem TxtIs.len {vs : List Value} {xs : List Str} (R : TxtIs vs xs) : vs.length = xs.length := by
  obtain ⟨l, rfl, rfl⟩ := R
  simp [strValues]
theorem TxtIs.nil : TxtIs [] [] := ⟨[], rfl, rfl⟩
theorem TxtIs.snoc {vs : List Value} {xs : List Str} {x : Str} {t : Tok} (R : TxtIs vs xs) : TxtIs (vs ++ [.str x t]) (xs ++ [x]) := by
  obtain ⟨l, rfl, rfl⟩ := R
  exact ⟨l ++ [(x, t)], by simp [strValues], by simp⟩
theorem TxtIs.drop {vs : List Value} {xs : List Str} (R : TxtIs vs xs) : TxtIs vs.dropLast xs.dropLast := by
  obtain ⟨l, rfl, rfl⟩ := R
  exact ⟨l.dropLast, by simp [strValues, List.map_dropLast], by simp [List.map_dropLast]⟩
theorem TxtIs.at_ {vs : List Value} {xs : List Str} (R : TxtIs vs xs) {i : Nat} {v : Value} (h : vs[i]? = some v) : ∃ t, v = .str (xs.getD i (Str.ofString "")) t ∧ i < xs.length := by
  obtain ⟨l, rfl, rfl⟩ := R
  unfold strValues at h
  rw [List.getElem?_map] at h
  cases e : l[i]? with
  | none => rw [e] at h; cases h
  | some p =>
    rw [e] at h
    injection h with h
    have hl : i < l.length := (List.getElem?_eq_some_iff.mp e).1
    refine ⟨p.2, ?_, by simpa using hl⟩
    rw [← h, List.getD_eq_getElem?_getD, List.getElem?_map, e]
    rfl
theorem TxtIs.get {vs : List Value} {xs : List Str} (R : TxtIs vs xs) {i : Nat} (h : i < xs.length) : ∃ t, vs[i]? = some (.str (xs.getD i (Str.ofString "")) t) := by
  have hl := R.len
  obtain ⟨t, e, _⟩ := R.at_ (List.getElem?_eq_getElem (l := vs) (i := i) (by omega))
  exact ⟨t, by rw [List.getElem?_eq_getElem (by omega), e]⟩
section
variable {prog : Program} {w : World} {A : Around} {E : Value → Shared → Prop} {hp : Heap} {gs : Array GenState} {dr : Drawn} {tk₀ : Nat} {os : OsState} {h₀ : Heap} {L D l : Addr} {m : Str → Option Value} {news news' : List (Addr × Obj)} {vs : List Value} {xs : List Str} {x y : Str} {t u : Tok} {c : Nat} {k : Int} {Q : Value → Shared → Prop}
theorem split_led (F : Fr h₀ L hp m) (N : News h₀ L hp news) (hy : (y.length == 0) = false) (hz : x.length ≤ 10000)
    (h : ∀ D vs h' k, TxtIs vs (Txt.split x y) → Fr h₀ L h' m → News h₀ L h' ((D, listOf (List.toArray vs) 0) :: news) → (∀ p ∈ news, p.1 < D) → Q (.ref D) ⟨h', gs, dr, k, os⟩) :
    wpAny (model prog w) A (call (.builtin "str.split") [.str x t, .str y u]) Q E ⟨hp, gs, dr, tk₀, os⟩ :=
  KSpl.split1 (s := ⟨hp, gs, dr, tk₀, os⟩) F N hy (fun D l h' k e _ F' N' l1 => h D (strValues l) h' k ⟨l, rfl, e⟩ F' N' l1) (by rw [sizeLine_eq]; omega)
theorem sjoin_led (N : News h₀ L hp news) (hm : (D, listOf vs.toArray c) ∈ news) (R : TxtIs vs xs) (hs : x.length ≤ 1) (hw : (xs.map (·.length)).sum + xs.length ≤ 1048576)
    (h : ∀ t' k, (Txt.join x xs).length ≤ (xs.map (·.length)).sum + xs.length → Q (.str (Txt.join x xs) t') ⟨hp, gs, dr, k, os⟩) :
    wpAny (model prog w) A (call (.builtin "str.join") [.str x t, .ref D]) Q E ⟨hp, gs, dr, tk₀, os⟩ := by
  obtain ⟨l, rfl, rfl⟩ := R
  refine join_listW (s := ⟨hp, gs, dr, tk₀, os⟩) ⟨_, N.get hm, rfl, _, rfl⟩ (strsAre_of_values l) (Nat.le_trans hs (by decide)) hw fun t' k => h t' k ?_
  have h1 := StrLaws.join_length_le x (l.map (·.1))
  have h2 : (l.map (·.1)).length * x.length ≤ (l.map (·.1)).length * 1 := Nat.mul_le_mul_left _ hs
  show (Builtin.Str.glued x (l.map (·.1))).length ≤ _
  rw [StrLaws.glued_eq_join]
  omega
theorem append_txt (F : Fr h₀ L hp m) (N : News h₀ L hp news) (U : Upd D (listOf vs.toArray c) (listOf (vs ++ [Value.str x t]).toArray (c + 1)) news news') (R : TxtIs vs xs) (hz : xs.length ≤ 1000)
    (h : ∀ h', Fr h₀ L h' m → News h₀ L h' news' → TxtIs (vs ++ [Value.str x t]) (xs ++ [x]) → Q .none ⟨h', gs, dr, tk₀, os⟩) :
    wpAny (model prog w) A (call (.builtin "list.append") [.ref D, .str x t]) Q E ⟨hp, gs, dr, tk₀, os⟩ :=
  append_led F N U (by rw [R.len]; omega) fun h' F' N' => h h' F' N' R.snoc
theorem pop_txt (F : Fr h₀ L hp m) (N : News h₀ L hp news) (hne : 0 < xs.length) (U : Upd D (listOf vs.toArray c) (listOf vs.dropLast.toArray (c + 1)) news news') (hz : xs.length ≤ 1000) (R : TxtIs vs xs)
    (h : ∀ h' r, Fr h₀ L h' m → News h₀ L h' news' → TxtIs vs.dropLast xs.dropLast → Q r ⟨h', gs, dr, tk₀, os⟩) :
    wpAny (model prog w) A (call (.builtin "list.pop") [.ref D]) Q E ⟨hp, gs, dr, tk₀, os⟩ :=
  pop_led F N (by rw [R.len]; exact hne) U (by rw [R.len]; exact hz) fun h' F' N' => h h' _ F' N' R.drop
theorem last_txt {value slice : PySem.Expr} {u : Tok} (N : News h₀ L hp news) (hm : (D, listOf vs.toArray c) ∈ news) (R : TxtIs vs xs) (h1 : 0 < xs.length) (hfit : xs.length ≤ 1000)
    (h : ∀ t, Q (.str (xs.getD (xs.length - 1) (Str.ofString "")) t) ⟨hp, gs, dr, tk₀, os⟩)
    (hs' : subscripted slice false (.ref D) (.int (-1) u) = operate [.ref D, .int (-1) u] (getItem (.ref D) (.int (-1) u)) := by with_unfolding_all rfl) :
    wpAny (model prog w) A (subscriptTail value slice (.ref D) (.int (-1) u)) Q E ⟨hp, gs, dr, tk₀, os⟩ := by
  have hl := R.len
  obtain ⟨t, e⟩ := R.get (i := xs.length - 1) (by omega)
  have hL : hp.IsList D vs.toArray := ⟨_, N.get hm, rfl, _, rfl⟩
  refine tail_any (s := ⟨hp, gs, dr, tk₀, os⟩) hL.typeIs slot_list_getitem.lookup (wpAny_getItem_list_neg hL (by decide) (by rw [List.size_toArray]; omega) (by decide) ?_ (h t)) hs'
  rw [List.size_toArray]
  have e2 : (-1 + (vs.length : Int)).toNat = xs.length - 1 := by omega
  first
    | (rw [e2]; simpa using e)
    | (rw [← e, ← e2]; simp)
end
end
section
open PySem PySem.W PyProof.Rows PySem.Calls PySem.Spec
section
variable {prog : Program} {w : World} {A : Around} {E : Value → Shared → Prop} {hp h₁ : Heap} {gs : Array GenState} {dr : Drawn} {tk₀ : Nat} {os : OsState} {h₀ : Heap} {L a b l : Addr} {m : Str → Option Value} {news : List (Addr × Obj)} {vs ws : List Value} {n k : Nat} {Q : Value → Shared → Prop}
theorem add_led (F : Fr h₀ L hp m) (N : News h₀ L hp news) (ha : (a, listOf vs.toArray n) ∈ news) (hb : (b, listOf ws.toArray k) ∈ news) (hz : vs.length + ws.length ≤ 10000)
    (h : ∀ D h', Fr h₀ L h' m → News h₀ L h' ((D, listOf (vs ++ ws).toArray 0) :: news) → (∀ p ∈ news, p.1 < D) → Q (.ref D) ⟨h', gs, dr, tk₀, os⟩) :
    wpAny (model prog w) A (binaryOp .Add (.ref a) (.ref b)) Q E ⟨hp, gs, dr, tk₀, os⟩ := by
  refine add_lists (vs := vs) (ws := ws) (hsz := by rw [sizeLine_eq]; omega) F N ⟨_, N.get ha, rfl, _, rfl⟩ ⟨_, N.get hb, rfl, _, rfl⟩ fun h' F' N' => h _ h' F' N' fun p hp => Heap.lt_size (N p hp).1
theorem newList_led {M : Model} (F : Fr h₀ L hp m) (N : News h₀ L hp news) (hz : vs.length ≤ 10000)
    (h : ∀ D h', Fr h₀ L h' m → News h₀ L h' ((D, listOf vs.toArray 0) :: news) → (∀ p ∈ news, p.1 < D) → Q (.ref D) ⟨h', gs, dr, tk₀, os⟩) : wpAny M A (newList vs) Q E ⟨hp, gs, dr, tk₀, os⟩ :=
  newList_K (s := ⟨hp, gs, dr, tk₀, os⟩) F N h (by rw [sizeLine_eq]; omega)
theorem pick_from1 (vs : List Value) : kms_pick vs (some 1) none = vs.drop 1 := by
  unfold kms_pick kms_lo kms_hi
  simp only [show ¬ (1 : Int) < 0 by decide, if_false]
  show (vs.drop (min 1 vs.length)).take _ = _
  rcases vs with _ | ⟨v, r⟩
  · rfl
  · have e : min 1 (v :: r).length = 1 := by simp only [List.length_cons]; omega
    rw [e]
    exact List.take_of_length_le (by simp)
theorem pick_tom1 (vs : List Value) : kms_pick vs none (some (-1)) = vs.dropLast := by
  unfold kms_pick kms_lo kms_hi
  simp only [show (-1 : Int) < 0 by decide, if_true, List.drop_zero]
  rw [List.dropLast_eq_take]
  rfl
theorem slice1_led {value slice : PySem.Expr} (F : Fr h₀ L h₁ m) (N : News h₀ L h₁ news) (hm : (l, listOf vs.toArray n) ∈ news) {u : Tok} (ha : a = h₁.objs.size) (hh : hp = h₁.push { cls := .type "slice", data := .fields #[.int 1 u, .none, .none] }) (hz : vs.length ≤ 10000)
    (h : ∀ D h', Fr h₀ L h' m → News h₀ L h' ((D, listOf (vs.drop 1).toArray 0) :: news) → (∀ p ∈ news, p.1 < D) → Q (.ref D) ⟨h', gs, dr, tk₀, os⟩)
    (hs : ∀ b, subscripted slice false (.ref l) (.ref b) = operate [.ref b, .ref l] (getItem (.ref l) (.ref b)) := by intro _; with_unfolding_all rfl) (ht : ∀ r, letTemporaryGo value (.ref l) r = pure () := by intro _; with_unfolding_all rfl) :
    wpAny (model prog w) A (subscriptTail value slice (.ref l) (.ref a)) Q E ⟨hp, gs, dr, tk₀, os⟩ := by
  subst ha; subst hh
  exact kms_slice_lit (s := ⟨h₁, gs, dr, tk₀, os⟩) (its := vs.toArray) (vl := .int 1 u) (vu := .none) (lo := some 1) (hi := none) F N ⟨_, N.get hm, rfl, _, rfl⟩ (by kmk_part) (by kmk_part) (by rw [List.toList_toArray]; exact pick_from1 vs) h (hs _) ht (by rw [List.size_toArray, sizeLine_eq]; omega)
theorem slicem1_led {value slice : PySem.Expr} (F : Fr h₀ L h₁ m) (N : News h₀ L h₁ news) (hm : (l, listOf vs.toArray n) ∈ news) {u : Tok} (ha : a = h₁.objs.size) (hh : hp = h₁.push { cls := .type "slice", data := .fields #[.none, .int (-1) u, .none] }) (hz : vs.length ≤ 10000)
    (h : ∀ D h', Fr h₀ L h' m → News h₀ L h' ((D, listOf vs.dropLast.toArray 0) :: news) → (∀ p ∈ news, p.1 < D) → Q (.ref D) ⟨h', gs, dr, tk₀, os⟩)
    (hs : ∀ b, subscripted slice false (.ref l) (.ref b) = operate [.ref b, .ref l] (getItem (.ref l) (.ref b)) := by intro _; with_unfolding_all rfl) (ht : ∀ r, letTemporaryGo value (.ref l) r = pure () := by intro _; with_unfolding_all rfl) :
    wpAny (model prog w) A (subscriptTail value slice (.ref l) (.ref a)) Q E ⟨hp, gs, dr, tk₀, os⟩ := by
  subst ha; subst hh
  exact kms_slice_lit (s := ⟨h₁, gs, dr, tk₀, os⟩) (its := vs.toArray) (vl := .none) (vu := .int (-1) u) (lo := none) (hi := some (-1)) F N ⟨_, N.get hm, rfl, _, rfl⟩ (by kmk_part) (by kmk_part) (by rw [List.toList_toArray]; exact pick_tom1 vs) h (hs _) ht (by rw [List.size_toArray, sizeLine_eq]; omega)
theorem neg1_led {value slice : PySem.Expr} {u : Tok} {v : Value} (N : News h₀ L hp news) (hm : (l, listOf vs.toArray n) ∈ news) (h1 : 0 < vs.length) (hfit : vs.length ≤ 10000) (hv : vs[vs.length - 1]? = some v) (h : Q v ⟨hp, gs, dr, tk₀, os⟩)
    (hs' : subscripted slice false (.ref l) (.int (-1) u) = operate [.ref l, .int (-1) u] (getItem (.ref l) (.int (-1) u)) := by with_unfolding_all rfl) :
    wpAny (model prog w) A (subscriptTail value slice (.ref l) (.int (-1) u)) Q E ⟨hp, gs, dr, tk₀, os⟩ := by
  have hL : hp.IsList l vs.toArray := ⟨_, N.get hm, rfl, _, rfl⟩
  refine tail_any (s := ⟨hp, gs, dr, tk₀, os⟩) hL.typeIs slot_list_getitem.lookup (wpAny_getItem_list_neg hL (by decide) (by rw [List.size_toArray]; omega) (by decide) ?_ h) hs'
  rw [List.size_toArray]
  have e2 : (-1 + (vs.length : Int)).toNat = vs.length - 1 := by omega
  rw [← hv, ← e2]; simp
theorem tup1_led {value slice : PySem.Expr} {u : Tok} {v : Value} {o : Obj} (N : News h₀ L hp news) (hm : (l, o) ∈ news) (hc : o.cls = .type "tuple") (hd : o.data = .seq vs.toArray n) (hl : vs.length = 2) (hv : vs[1]? = some v) (h : Q v ⟨hp, gs, dr, tk₀, os⟩)
    (hs' : subscripted slice false (.ref l) (.int 1 u) = operate [.ref l, .int 1 u] (getItem (.ref l) (.int 1 u)) := by with_unfolding_all rfl) (ht : ∀ r, letTemporaryGo value (.ref l) r = pure () := by intro _; with_unfolding_all rfl) :
    wpAny (model prog w) A (subscriptTail value slice (.ref l) (.int 1 u)) Q E ⟨hp, gs, dr, tk₀, os⟩ :=
  kim_tup (s := ⟨hp, gs, dr, tk₀, os⟩) (j := 1) N hm hc hd (by decide) (by decide) (by rw [hl]; rfl) hv h hs' ht
end
theorem hsl_slice {l u : Option PySem.Expr} {p : Pos} {a b : Addr} : subscripted (PySem.Expr.Slice l u none p) false (.ref a) (.ref b) = operate [.ref b, .ref a] (getItem (.ref a) (.ref b)) := by with_unfolding_all rfl
theorem htl_name {n : Str} {p : Pos} {a : Addr} {r : Value} : letTemporaryGo (PySem.Expr.Name n p) (.ref a) r = pure () := by with_unfolding_all rfl
theorem item_nat {prog : Program} {w : World} {A : Around} {E : Value → Shared → Prop} {hp : Heap} {gs : Array GenState} {dr : Drawn} {tk₀ : Nat} {os : OsState} {h₀ : Heap} {L l : Addr} {news : List (Addr × Obj)} {value slice : PySem.Expr} {vs : List Value} {n i : Nat} {u : Tok} {v : Value} {Q : Value → Shared → Prop}
    (N : News h₀ L hp news) (hm : (l, listOf vs.toArray n) ∈ news) (hx : vs[i]? = some v) (hz : i ≤ 10000) (h : Q v ⟨hp, gs, dr, tk₀, os⟩)
    (hs : subscripted slice false (.ref l) (.int (i : Int) u) = operate [.ref l, .int (i : Int) u] (getItem (.ref l) (.int (i : Int) u)) := by with_unfolding_all rfl) :
    wpAny (model prog w) A (subscriptTail value slice (.ref l) (.int (i : Int) u)) Q E ⟨hp, gs, dr, tk₀, os⟩ :=
  item_led (s := ⟨hp, gs, dr, tk₀, os⟩) N hm (by omega) (by omega) (by simpa using hx) h hs
theorem allLt_m {d : Nat} {l : List (Addr × Obj)} (h : AllLt d l) : ∀ p ∈ l, @LT.lt Nat _ p.1 d := by
  induction l with
  | nil => intro p hp; exact absurd hp List.not_mem_nil
  | cons q r ih =>
    intro p hp
    rcases List.mem_cons.mp hp with e | hp
    · rw [e]; exact h.1
    · exact ih h.2 p hp
/-- the least of three, the first of like ones -/
noncomputable def min3 (a b c : Int) : Int := if c < (if b < a then b else a) then c else (if b < a then b else a)
section
variable {prog : Program} {w : World} {A : Around} {E : Value → Shared → Prop} {s : Shared}
theorem args_min3 (a b c : Value) : argsOk "min" ⟨[a, b, c], []⟩ := by unfold argsOk; kernel_rfl
theorem call_min3 {a b c : Value} {Q : Value → Shared → Prop}
    (h : wpAny (model prog w) A.in1 (pyIter (.ref s.heap.objs.size)) (fun it s₂ => ∃ I fp wr n P St bt, it = .ref I ∧ Walks prog w A.in1 I fp wr n P St ∧ St 0 s₂.heap ∧ (∀ b ∈ fp, b < s₂.heap.objs.size) ∧ 0 < n ∧ CmpOf prog w A.in1 .Lt P bt ∧
      ∀ v h' tk, P (argBest bt (n - 1)) v → (∀ b o, b ∉ wr → s₂.heap.get? b = some o → h'.get? b = some o) → Q v { s₂ with heap := h', toks := tk }) E
      { s with heap := s.heap.push { cls := .type "tuple", data := .seq #[a, b, c] } }) :
    wpAny (model prog w) A (call (.builtin "min") [a, b, c]) Q E s := by
  have hname : (toString "min" ++ toString ".loop" : String) = "min.loop" := by decide
  refine call_function_tree F.kind_min F.plain_min F.entry_min (args_min3 _ _ _) ?_
  show wpAny _ A.in1 (Builtin.Builtins.bindParams "min" ["key", "default"] 0 ⟨[], []⟩ >>= _) _ _ s
  refine wpAny_bind (wpAny_of_eq (show Builtin.Builtins.bindParams "min" ["key", "default"] 0 ⟨[], []⟩ = pure [none, none] from rfl) ?_)
  show wpAny _ A.in1 (newTuple [a, b, c] >>= _) _ _ s
  refine wpAny_bind (wpAny_newObj_type ?_)
  refine wpAny_bind (wpAny_mono h (fun it s₂ h₂ => ?_) fun _ _ e => e)
  obtain ⟨I, fp, wr, n, P, St, bt, rfl, W, hst, hfp, hn, hcmp, hQ⟩ := h₂
  refine wpAny_bind (wpAny_newObj_type ?_)
  have hSf : s₂.heap.objs.size ∉ fp := fun hm => Nat.lt_irrefl _ (hfp _ hm)
  rw [hname]
  refine wpAny_pure ⟨plainId_quiet F.plain_min_loop _, codeAny_min_loop_first W bt hcmp s₂.heap.objs.size hSf hn (W.frame _ _ _ hst fun b _ o e => Heap.get?_push_of_some _ e) (Heap.get?_push_size _ rfl) fun v h' tk hP hk => ?_⟩
  exact hQ v h' tk hP fun b o hbw e => hk b o hbw (Nat.ne_of_lt (Heap.lt_size e)) (Heap.get?_push_of_some _ e)
theorem min3_led {h₀ : Heap} {L : Addr} {m : Str → Option Value} {news : List (Addr × Obj)} {a b c : Int} {t u v : Tok} {hp : Heap} {gs : Array GenState} {dr : Drawn} {tk₀ : Nat} {os : OsState} {Q : Value → Shared → Prop} (hh : A.handled = none) (F : Fr h₀ L hp m) (N : News h₀ L hp news)
    (h : ∀ h' tk t', Fr h₀ L h' m → News h₀ L h' news → Q (.int (min3 a b c) t') ⟨h', gs, dr, tk, os⟩) :
    wpAny (model prog w) A (call (.builtin "min") [.int a t, .int b u, .int c v]) Q E ⟨hp, gs, dr, tk₀, os⟩ := by
  obtain ⟨s, hs⟩ : ∃ s : Shared, s = ⟨hp, gs, dr, tk₀, os⟩ := ⟨_, rfl⟩
  have hhp : hp = s.heap := by rw [hs]
  rw [← hs]
  have hT : (s.heap.push { cls := .type "tuple", data := .seq #[.int a t, .int b u, .int c v] }).IsTuple s.heap.objs.size (intItems #[(a, t), (b, u), (c, v)]) := ⟨_, Heap.get?_push_size _ rfl, rfl, 0, by simp [intItems]⟩
  refine call_min3 (wpAny_pyIter_tuple hT ?_)
  have hsz : (s.heap.push { cls := .type "tuple", data := .seq #[.int a t, .int b u, .int c v] }).objs.size = s.heap.objs.size + 1 := Heap.size_push ..
  refine ⟨_, [_, s.heap.objs.size], [_], _, _, _, _, rfl, Walks.tuple (A := A.in1) hh _ s.heap.objs.size (by rw [hsz]; exact Nat.ne_of_lt (Nat.lt_succ_self _)) (intItems #[(a, t), (b, u), (c, v)]),
    ⟨⟨_, Heap.get?_push_size _ rfl, rfl, rfl⟩, hT.push _⟩, fun c hc => ?_, by simp [intItems], CmpOf.ints_lt (numAt #[(a, t), (b, u), (c, v)]) (fun _ _ => intItems_at), fun v' h' tk hP hk => ?_⟩
  · show c < ((s.heap.push _).push _).objs.size
    rw [Heap.size_push, hsz]
    rcases List.mem_cons.mp hc with rfl | hc
    · rw [hsz]; exact Nat.lt_succ_self _
    · rcases List.mem_cons.mp hc with rfl | hc
      · exact Nat.lt_succ_of_lt (Nat.lt_succ_self _)
      · cases hc
  · have hold : ∀ c o, s.heap.get? c = some o → h'.get? c = some o := fun c o e => by
      refine hk c o (fun hm => ?_) (Heap.get?_push_of_some _ (Heap.get?_push_of_some _ e))
      rcases List.mem_cons.mp hm with e1 | hm
      · have := Heap.lt_size e; rw [e1, hsz] at this; exact Nat.lt_irrefl _ (Nat.lt_of_succ_lt this)
      · cases hm
    have hP' : (intItems #[(a, t), (b, u), (c, v)])[argBest (fun i j => decide (numAt #[(a, t), (b, u), (c, v)] i < numAt #[(a, t), (b, u), (c, v)] j)) 2]? = some v' := by
      have hsz2 : (intItems #[(a, t), (b, u), (c, v)]).size - 1 = 2 := by simp [intItems]
      rw [← hsz2]; exact hP
    have hv : ∃ t', v' = .int (min3 a b c) t' := by
      unfold min3
      by_cases h1 : b < a
      · by_cases h2 : c < b
        · have e : argBest (fun i j => decide (numAt #[(a, t), (b, u), (c, v)] i < numAt #[(a, t), (b, u), (c, v)] j)) 2 = 2 := by simp [argBest, numAt, h1, h2]
          rw [e] at hP'
          exact ⟨v, by simpa [intItems, h1, h2] using hP'.symm⟩
        · have e : argBest (fun i j => decide (numAt #[(a, t), (b, u), (c, v)] i < numAt #[(a, t), (b, u), (c, v)] j)) 2 = 1 := by simp [argBest, numAt, h1, h2]
          rw [e] at hP'
          exact ⟨u, by simpa [intItems, h1, h2] using hP'.symm⟩
      · by_cases h2 : c < a
        · have e : argBest (fun i j => decide (numAt #[(a, t), (b, u), (c, v)] i < numAt #[(a, t), (b, u), (c, v)] j)) 2 = 2 := by simp [argBest, numAt, h1, h2]
          rw [e] at hP'
          exact ⟨v, by simpa [intItems, h1, h2] using hP'.symm⟩
        · have e : argBest (fun i j => decide (numAt #[(a, t), (b, u), (c, v)] i < numAt #[(a, t), (b, u), (c, v)] j)) 2 = 0 := by simp [argBest, numAt, h1, h2]
          rw [e] at hP'
          exact ⟨t, by simpa [intItems, h1, h2] using hP'.symm⟩
    obtain ⟨t', rfl⟩ := hv
    subst hhp
    have g1 : s.gens = gs := by rw [hs]
    have g2 : s.drawn = dr := by rw [hs]
    have g3 : s.os = os := by rw [hs]
    have := h h' tk t' (F.grownK hold) (N.grown hold)
    rw [← g1, ← g2, ← g3] at this
    exact this
end
section
variable {prog : Program} {w : World} {A : Around} {E : Value → Shared → Prop} {hz0 : Heap} {gs : Array GenState} {dr : Drawn} {tk₀ : Nat} {os : OsState} {env : Env} {h₀ : Heap} {x : Str} {body : List Stmt} {Q : Flow → Shared → Prop}
/-- a for over a list of the ledger, by what holds ahead of each turn -/
theorem for_ledc {l : Addr} {vs : List Value} {n : Nat} {m₀ : Str → Option Value} {news : List (Addr × Obj)} (J : Nat → (Str → Option Value) → List (Addr × Obj) → Prop)
    (hh : A.handled = none) (F : Fr h₀ env.locals hz0 m₀) (N : News h₀ env.locals hz0 news) (hl : (l, listOf vs.toArray n) ∈ news)
    (h0 : J 0 m₀ news) (keep : ∀ i m nx, J i m nx → (l, listOf vs.toArray n) ∈ nx)
    (turn : ∀ i v m₁ nx I io h tk (W : Flow → Shared → Prop), (∀ f s, TurnQ h₀ env.locals (J (i + 1)) I io gs dr os Q f s → W f s) → io.cls ≠ .type "tuple" → vs[i]? = some v → J i m₁ nx → (∀ p ∈ nx, p.1 ≠ I) → Fr h₀ env.locals h (fun y => if y = x then some v else m₁ y) → News h₀ env.locals h ((I, io) :: nx) →
      wpAny (model prog w) A (execs body env) W E ⟨h, gs, dr, tk, os⟩)
    (done : ∀ m₁ nx h tk, J vs.length m₁ nx → Fr h₀ env.locals h m₁ → News h₀ env.locals h nx → Q .next ⟨h, gs, dr, tk, os⟩) :
    wpAny (model prog w) A (pyIter (.ref l)) (fun it s₂ => LoopAtV prog w A h₀ env x body Q E it s₂) E ⟨hz0, gs, dr, tk₀, os⟩ := by
  have hls : hz0.IsList l vs.toArray := ⟨_, N.get hl, rfl, _, rfl⟩
  have hlt : l < hz0.objs.size := Heap.lt_size (N.get hl)
  have hne : l ≠ hz0.objs.size := Nat.ne_of_lt hlt
  refine wpAny_pyIter_list hls ?_
  have W := Walks.list (prog := prog) (w := w) hh hz0.objs.size l hne vs.toArray
  refine ⟨_, _, _, _, _, _, m₀, news, J, rfl, W, ?_, ?_, ?_, ⟨⟨_, Heap.get?_push_size _ rfl, rfl, rfl⟩, hls.at fun o e => Heap.get?_push_of_some _ e⟩, F.push _, (fun p hp => ⟨Heap.get?_push_of_some _ (N p hp).1, (N p hp).2⟩), h0, ?_, ?_⟩
  · intro hm
    rcases List.mem_cons.mp hm with e | hm
    · exact absurd F.ns.lt (e ▸ Nat.lt_irrefl _)
    · exact (N _ hl).2.1 (List.mem_singleton.mp hm).symm
  · intro b hb
    rw [List.mem_singleton.mp hb]
    exact next_is_new F
  · intro p hp hI
    exact absurd (Heap.lt_size (N p hp).1) ((List.mem_singleton.mp hI) ▸ Nat.lt_irrefl _)
  · rintro i v m₁ news₁ s₁ own ⟨hh', tk', rfl⟩ hin hP hJ hoff hown hget hall hst F₁ N₁
    obtain ⟨io, hio, hic, _⟩ := id hst.1
    have hcl : io.cls ≠ .type "tuple" := by rw [hic]; decide
    have hmem := hall hz0.objs.size (by simp) (next_is_new F) _ hio
    have off1 : ∀ p ∈ news₁, p.1 ≠ hz0.objs.size := fun p hp e => hoff p hp (by simp [e])
    have N₂ : News h₀ env.locals hh' ((hz0.objs.size, io) :: news₁) := fun p hp => by
      rcases List.mem_cons.mp hp with rfl | hp
      · exact N₁ _ (List.mem_append_left _ hmem)
      · exact N₁ _ (List.mem_append_right _ hp)
    refine wpAny_mono (turn i v m₁ news₁ _ io hh' tk' _ (fun _ _ x => x) hcl (by simpa using hP) hJ off1 F₁ N₂) (fun f s₂ p => ?_) fun _ _ e => e
    have fin : TurnEd h₀ env.locals (J (i + 1)) hz0.objs.size io gs dr os s₂ → LoopStepU h₀ env.locals [hz0.objs.size] own (J (i + 1)) ⟨hh', gs, dr, tk', os⟩ .next s₂ := by
      rintro ⟨h', tk, m', nx, e, F', N', ho, hj⟩
      refine ⟨rfl, h', tk, m', nx, e, F', fun p hp => ?_, fun p hp hI => ho p hp (List.mem_singleton.mp hI), hj⟩
      rcases List.mem_append.mp hp with hp | hp
      · have h1 : hh'.get? p.1 = some p.2 := hget p hp
        rcases List.mem_cons.mp (hown p hp) with h2 | h2
        · rw [h2, hio] at h1
          have h3 : p = (hz0.objs.size, io) := Prod.ext h2 (Option.some.inj h1).symm
          rw [h3]; exact N' _ List.mem_cons_self
        · have h2 := List.mem_singleton.mp h2
          have hk1 := N₂ _ (List.mem_cons_of_mem _ (keep i _ _ hJ))
          rw [h2, hk1.1] at h1
          have h3 : p = (l, listOf vs.toArray n) := Prod.ext h2 (Option.some.inj h1).symm
          rw [h3]; exact N' _ (List.mem_cons_of_mem _ (keep _ _ _ hj))
      · exact N' _ (List.mem_cons_of_mem _ hp)
    cases f with
    | ret v => exact .ret p
    | brk => exact .brk p
    | next => exact .next (fin p)
    | cont => exact .cont (fin p)
  · rintro h' tk m' news' F' N' _ hJ
    exact done m' news' h' tk (by simpa using hJ) F' N'
end
/-- data of texts, of pairs -/
noncomputable def txtD (xs : List Str) : List Dat := xs.map Dat.str
noncomputable def wayD (xs : List Str) : Dat := .list (txtD xs)
noncomputable def pairD (p : P2) : Dat := .tuple [.int p.1, .str p.2]
noncomputable def billD (b : List P2) : Dat := .list (b.map pairD)
theorem TxtIs.dat {vs : List Value} {xs : List Str} {st : List (Addr × Obj)} (R : TxtIs vs xs) : DatAll st vs (txtD xs) := by
  obtain ⟨l, rfl, rfl⟩ := R
  induction l with
  | nil => exact .nil
  | cons p r ih => exact .cons (.str _ _) ih
theorem txt_of_dat {st : List (Addr × Obj)} : ∀ {vs : List Value} {xs : List Str}, DatAll st vs (txtD xs) → TxtIs vs xs
  | _, [], .nil => .nil
  | v :: vs, x :: xs, .cons h r => by
    obtain ⟨l, e1, e2⟩ := txt_of_dat (xs := xs) r
    cases h with
    | str _ t => exact ⟨(x, t) :: l, by rw [e1]; rfl, by rw [← e2]; rfl⟩
theorem dec_t {p : Prop} {i : Decidable p} (h : @decide p i = true) : p := of_decide_eq_true h
theorem dec_f {p : Prop} {i : Decidable p} (h : @decide p i = false) : ¬ p := of_decide_eq_false h
theorem TxtIs.append {vs ws : List Value} {xs ys : List Str} (R : TxtIs vs xs) (R' : TxtIs ws ys) : TxtIs (vs ++ ws) (xs ++ ys) := by
  obtain ⟨l, rfl, rfl⟩ := R
  obtain ⟨l', rfl, rfl⟩ := R'
  exact ⟨l ++ l', by simp [strValues], by simp⟩
theorem TxtIs.drop1 {vs : List Value} {xs : List Str} (R : TxtIs vs xs) : TxtIs (vs.drop 1) (xs.drop 1) := by
  obtain ⟨l, rfl, rfl⟩ := R
  exact ⟨l.drop 1, by cases l <;> rfl, by cases l <;> rfl⟩
theorem PairAt.dat {st : List (Addr × Obj)} {v : Value} {p : P2} (P : PairAt st v p) : DatIn st v (pairD p) := by
  obtain ⟨a, n, t, t', rfl, hm⟩ := P
  exact .tuple hm (.cons (.int _ _) (.cons (.str _ _) .nil))
theorem PairsL.dat {st : List (Addr × Obj)} : ∀ {vs : List Value} {hs : List P2}, PairsL st vs hs → DatAll st vs (hs.map pairD)
  | [], [], _ => .nil
  | [], _ :: _, P => by have := P.len; cases this
  | _ :: _, [], P => by have := P.len; cases this
  | v :: vs, p :: hs, P => .cons (PairAt.dat (P.at' 0 v p rfl rfl)) (PairsL.dat ⟨by have := P.len; simpa using this, fun i v p hv hp => P.at' (i + 1) v p (by simpa using hv) (by simpa using hp)⟩)
theorem pairsL_of {st : List (Addr × Obj)} : ∀ {vs : List Value} {hs : List P2}, (∀ i, i < hs.length → ∃ v, vs[i]? = some v ∧ PairAt st v (hs.getD i p0)) → vs.length = hs.length → PairsL st vs hs := fun {vs hs} h hl =>
  ⟨hl, fun i v p hv hp => by
    have hi : i < hs.length := (List.getElem?_eq_some_iff.mp hp).1
    obtain ⟨v', e, P⟩ := h i hi
    rw [e] at hv
    injection hv with hv
    have e3 : hs.getD i p0 = p := by rw [List.getD_eq_getElem?_getD, hp]; rfl
    rw [← hv, ← e3]; exact P⟩
end
section
open PySem PySem.W PyProof.Rows PySem.Calls PySem.Spec
/-- what a result says: an object of its own, away from the ledger before -/
noncomputable def ResIs (news news' : List (Addr × Obj)) (r : Value) (d : Dat) : Prop := (∀ p ∈ news, p ∈ news') ∧ ∃ st, (∀ p ∈ st, p ∈ news') ∧ (∀ p ∈ st, ∀ q ∈ news, @Ne Nat p.1 q.1) ∧ DatIn st r d
theorem fresh3 {B T : Addr} {bo to : Obj} {fr news : List (Addr × Obj)} (hNB : ∀ q ∈ news, @LT.lt Nat _ q.1 B) (hBT : @LT.lt Nat _ B T) (hf : ∀ p ∈ fr, @LT.lt Nat _ B p.1) : ∀ p ∈ (T, to) :: (B, bo) :: fr, ∀ q ∈ news, @Ne Nat p.1 q.1 := by
  intro p hp q hq
  have hq := hNB q hq
  rcases List.mem_cons.mp hp with rfl | hp
  · exact Nat.ne_of_gt (Nat.lt_trans hq hBT)
  · rcases List.mem_cons.mp hp with rfl | hp
    · exact Nat.ne_of_gt hq
    · exact Nat.ne_of_gt (Nat.lt_trans hq (hf p hp))
noncomputable def SubOf (a b : List (Addr × Obj)) : Prop := ∀ p ∈ a, p ∈ b
theorem SubOf.out {a b : List (Addr × Obj)} (h : SubOf a b) {p : Addr × Obj} (m : p ∈ a) : p ∈ b := h p m
end
section
open PySem PySem.W PyProof.Rows PySem.Calls PySem.Spec
set_option maxHeartbeats 8000000
noncomputable def dig (k : Nat) : Str := Txt.item (Str.ofString "aAb") ((k % 3 : Nat) : Int)
noncomputable def nameGo : Nat → Str → Nat → Str
  | 0, s, _ => s
  | f + 1, s, k => if 0 < k / 3 then nameGo f (s ++ dig (k / 3)) (k / 3) else s
noncomputable def nameL (n : Nat) : Str := nameGo n (dig n) n
theorem fdiv3 (k : Nat) : ((k : Nat) : Int).fdiv 3 = ((k / 3 : Nat) : Int) := by
  rw [Int.fdiv_eq_ediv_of_nonneg _ (by decide)]
  rfl
theorem fmod3 (k : Nat) : ((k : Nat) : Int).fmod 3 = ((k % 3 : Nat) : Int) := by
  rw [Int.fmod_eq_emod_of_nonneg _ (by decide)]
  rfl
theorem dig_len (k : Nat) : (dig k).length = 1 := rfl
theorem dig_eq (k : Nat) : Txt.item (Str.ofString "aAb") (((k : Nat) : Int).fmod 3) = dig k := by rw [fmod3]; rfl
theorem dig_eq2 (k : Nat) : Txt.item (Str.ofString "aAb") ((((k : Nat) : Int).fdiv 3).fmod 3) = dig (k / 3) := by rw [fdiv3, fmod3]; rfl
inductive NmA (n : Nat) (news : List (Addr × Obj)) (k : Nat) (m : Str → Option Value) (nx : List (Addr × Obj)) : Prop
  | mk (s : Str) (f : Nat) (z : Int) (t ts : Tok) (h0 : news = nx) (h1 : k ≤ f) (h2 : nameGo f s k = nameL n) (h3 : s.length + k ≤ 28) (h4 : m "left" = some (.int z t)) (h5 : m "name" = some (.str s ts)) (h6 : z = (k : Int)) : NmA n news k m nx
inductive NmB (n : Nat) (news : List (Addr × Obj)) (m : Str → Option Value) (nx : List (Addr × Obj)) : Prop
  | mk (s : Str) (ts : Tok) (h0 : news = nx) (h1 : s = nameL n) (h2 : m "name" = some (.str s ts)) : NmB n news m nx
theorem name_con (w : World) (n : Nat) (t₁ : Tok) (hn : n < 27) (news : List (Addr × Obj)) :
    Con w 192 [.int (n : Int) t₁] 1 news (fun r news' => news' = news ∧ ∃ t, r = .str (nameL n) t) := by
  unfold Con
  intro dp un gd env outer A₀ base h₀ L m mean mg mb hp gs dr tk₀ os Q E B F X N T hf hk hd hu hret
  refine wpAny_call ?_
  (refine' code_def (binds := [("left", .int (n : Int) t₁)]) ?k1 ?k2 ?k3 ?k4 ?k5 ?kA ?kF ?kK ?k6 ?k7 ?k8 ?k9 ?kB ?_ ?c2 ?c3 ?c4 ?c5; (case kA => exact rfl); (case kF => assumption); (case kK => assumption); (case k1 => k_asm); (case k2 => k_asm); (case k3 => k_asm); (case k4 => k_asm); (case k5 => k_asm); (case k6 => k_is); (case k7 => k_is); (case k8 => ktr_room); (case k9 => exact BindsTo.of_eq rfl); (case c5 => decide); (case kB => exact locs rfl); (case c2 => exact rfl); (case c3 => exact rfl); (case c4 => exact rfl); k_whole; intro g' L' h' FG' F' N' B' X' T'; (try dsimp only); (try k_fold))
  k_with_none
  w_top off
  walk_at "mine go"
  refine while_led (NmA n news)
    (NmB n news) (n₀ := n) (by assumption) (by assumption) ?_ ?_ ?_
  · exact ⟨dig n, n, _, _, _, rfl, Nat.le_refl _, rfl, by rw [dig_len]; omega, rfl, congrArg (fun z => some (Value.str z _)) (dig_eq n), rfl⟩
  · rintro k m₁ nx h₁ tk₁ W3 V3 hW3 hV3 F₁ N₁ ⟨s, f, z, t, ts, rfl, hf, hg, hl, e1, e2, rfl⟩
    have F₂ := frTop [("left", .int (k : Int) t), ("name", .str s ts)] F₁ (ftA e1 (ftA e2 ft0))
    clear F₁
    have d1 := fdiv3 k
    have d2 : (Txt.item (Str.ofString "aAb") ((((k : Nat) : Int).fdiv 3).fmod 3)).length = 1 := rfl
    k_sweep
    walk_at "mine go"
    · have hk3 : 0 < k / 3 := by omega
      obtain ⟨f', rfl⟩ : ∃ f', f = f' + 1 := ⟨f - 1, by omega⟩
      refine hW3 _ _ ?_
      exact whQ_end (n' := k / 3) (by assumption) (by assumption) (by omega) ⟨s ++ dig (k / 3), f', _, _, _, rfl, by omega, by rw [← hg]; conv => (rhs; rw [nameGo, if_pos hk3]), by rw [Str.length_append, dig_len]; omega, rfl, congrArg (fun z => some (Value.str (s ++ z) _)) (dig_eq2 k), d1⟩
    · refine hV3 _ ?_
      refine whEx_end (by assumption) (by assumption) ⟨s, _, rfl, ?_, rfl⟩
      rw [← hg]
      cases f with
      | zero => rfl
      | succ f => rw [nameGo, if_neg (by omega)]
  · rintro m₁ nx h₁ tk₁ ⟨s, ts, rfl, hs, e1⟩ F₁ N₁
    have F₂ := frTop [("name", .str s ts)] F₁ (ftA e1 ft0)
    clear F₁
    k_sweep
    walk_at "mine go"
    exact hret _ _ _ _ (by assumption) (by assumption) ⟨rfl, _, congrArg (fun z => Value.str z _) hs⟩
end
section
open PySem PySem.W PyProof.Rows PySem.Calls PySem.Spec
section
open LCg
variable {prog : Program} {w : World} {A : Around} {E : Value → Shared → Prop} {s : Shared} {h₀ : Heap} {L : Addr} {m : Str → Option Value} {env : Env}
noncomputable def CompTxt (prog : Program) (w : World) (A : Around) (h₀ : Heap) (L : Addr) (m : Str → Option Value) (env : Env) (elt : Expr) (x : Str) (scope : Scope) (cl : List (Str × Addr)) (Q : Value → Shared → Prop) (xv : Value) (s₁ : Shared) : Prop :=
  ∃ y t news, xv = .str y t ∧ A.handled = none ∧ Fr h₀ L s₁.heap m ∧ News h₀ L s₁.heap news ∧ y.cps.size ≤ sizeLine ∧
    ∀ s₂ : Shared, (∃ h, s₂ = { s₁ with heap := h }) → CompRest prog w A h₀ L m env elt x scope cl s₂ (fun _ => True) (SignAt y) (FinE h₀ L m s₂ Q) y.cps.size 0 [] news
theorem ListComp_txt {elt iter : Expr} {x : Str} {px : Pos} {scope : Scope} {cl : List (Str × Addr)} {pos : Pos} {Q : Value → Shared → Prop} (hF₀ : Fr h₀ L s.heap m)
    (hclos : closureFor scope env = pure cl) (hcell : ∀ y ∈ scope.names, y.2 ≠ .cell) (hkind : scope.kind = .function)
    (hnames : ∀ y ∈ scope.names, y.2 = .local → scope.names.lookup y.1 = some .local) (hx : scope.names.lookup x = some .local)
    (h : wpAny (model prog w) A (eval iter env) (CompTxt prog w A h₀ L m env elt x scope cl Q) E s)
    (hs : ∀ x, foldedSetIterable iter env x = pure x := by intro _; rfl) :
    wpAny (model prog w) A (eval (.ListComp elt [⟨.Name x px, iter, [], 0⟩] scope pos) env) Q E s := by
  rw [eval_ListComp]
  refine wpAny_comprehension_free (use := none) rfl hs hclos hkind hnames (wpAny_mono h (fun xv s₁ h₁ => ?_) fun _ _ e => e)
  obtain ⟨y, t, news, rfl, hh, F, N, hsz, R⟩ := h₁
  have go : ∀ (cls : String) (o : Obj), o = { cls := .type cls, data := .fields #[.str y t, .int 0 0] } →
      Walks prog w A s₁.heap.objs.size [s₁.heap.objs.size] [s₁.heap.objs.size] y.cps.size (SignAt y) (fun i h => h.IsStrIter s₁.heap.objs.size cls y t i) →
      Heap.IsStrIter (s₁.heap.push o) s₁.heap.objs.size cls y t 0 →
      ∀ (RR : Value → Addr → Result → Shared → Prop), (∀ D C h tk m' ys news', Fr h₀ L h m → News h₀ L h ((D, lst ys) :: news') → Off1 D news' → h.Ns C m' → h₀.get? C = none → h₀.get? D = none → C ≠ L → D ≠ L → C ≠ D → (∀ p ∈ news', p.1 ≠ C) → FinE h₀ L m { s₁ with heap := s₁.heap.push o } Q ys news' → RR (.ref D) C (.ok .next) { s₁ with heap := h, toks := tk }) →
      wpAny (model prog w) A (newList []) (fun acc s₃ => wpAny (model prog w) A (newFunctionEnv scope env.globals cl [] env.qual none .none (some env)) (fun cenv s₄ =>
        codeAny (model prog w) A (.compStart (.ListComp elt [⟨.Name x px, iter, [], 0⟩] scope pos) 0 (.ref s₁.heap.objs.size) acc { cenv with scope := relabel scope env }) (RR acc cenv.locals) s₄) E s₃) E { s₁ with heap := s₁.heap.push o } := by
    intro cls o ho W st RR hRR
    refine block_U (s₂ := { s₁ with heap := s₁.heap.push o }) (S := fun _ => True) W hsz (fun i h st => ?_) (fun i h h' o nw st e e' _ _ _ => ?_) hcell hkind hx st (fun b hb => ?_)
      (F.keeps fun _ _ e => Heap.get?_push_of_some _ e) (N.grown fun _ _ e => Heap.get?_push_of_some _ e) (Nat.ne_of_lt F.ns.lt) (next_is_new F) (fun p hp => Nat.ne_of_lt (Heap.lt_size (N p hp).1)) trivial (R _ ⟨_, rfl⟩) hRR
    · obtain ⟨o', e, _⟩ := st
      exact ⟨o', e⟩
    · obtain ⟨o', q, r⟩ := st
      rw [e] at q; cases q
      exact ⟨o, e', r⟩
    · rw [List.mem_singleton.mp hb]
      show s₁.heap.objs.size < (s₁.heap.push _).objs.size
      rw [Heap.size_push]; exact Nat.lt_succ_self _
  have end_ : ∀ (o : Obj), ∀ D C h tk m' ys news', Fr h₀ L h m → News h₀ L h ((D, lst ys) :: news') → Off1 D news' → h.Ns C m' → h₀.get? C = none → h₀.get? D = none → C ≠ L → D ≠ L → C ≠ D → (∀ p ∈ news', p.1 ≠ C) → FinE h₀ L m { s₁ with heap := s₁.heap.push o } Q ys news' →
      (∃ m'', h.Ns C m'' ∧ ∀ h'', Heap.SameBut C h h'' → Q (.ref D) { s₁ with heap := h'', toks := tk }) := by
    intro o D C h tk m' ys news' F' N' o1 hn hC₀ hD₀ hCL hDL hCD offC fin
    refine ⟨m', hn, fun h'' hs'' => fin D h'' tk (F'.change hs'' hCL hC₀) (fun p hp => ?_) o1⟩
    refine ⟨hs''.extBut _ _ ?_ (N' p hp).1, (N' p hp).2⟩
    rcases List.mem_cons.mp hp with rfl | hp
    · exact Ne.symm hCD
    · exact offC p hp
  cases ha : y.cps.all (· < 128)
  · refine wpAny_pyIter_wide ha ?_
    exact go "str_iterator" _ rfl (Walks.strWide hh _ y t) ⟨_, Heap.get?_push_size _ rfl, rfl, rfl⟩ _ (end_ _)
  · refine wpAny_pyIter_ascii ha ?_
    exact go "str_ascii_iterator" _ rfl (Walks.strAscii hh _ y t) ⟨_, Heap.get?_push_size _ rfl, rfl, rfl⟩ _ (end_ _)
end
section
open LCg LCt
variable {prog : Program} {w : World} {A : Around} {h₀ : Heap} {L : Addr} {m : Str → Option Value} {env : Env} {s : Shared} {gs : Array GenState} {dr : Drawn} {os : OsState}
theorem comp_ledS {elt : Expr} {x : Str} {scope : Scope} {cl : List (Str × Addr)} {S : List (Addr × Obj) → Prop} {P : Nat → Value → Prop} {Fin : List Value → List (Addr × Obj) → Prop} (hs : ∃ hg tkg, s = ⟨hg, gs, dr, tkg, os⟩) (J : Nat → List Value → List (Addr × Obj) → Prop) {n : Nat}
    (turn : ∀ i ys nx v I oI C oC D m₂ h tk (E' : Value → Shared → Prop), i < n → J i ys nx → P i v → NsObj oC m₂ → m₂ x = some v → Fr h₀ L h m → News h₀ L h ((I, oI) :: (C, oC) :: (D, lst ys) :: nx) → Off3 I C D nx → ((@Ne Nat I C) ∧ (@Ne Nat I D) ∧ (@Ne Nat C D)) →
      wpAny (model prog w) A (eval elt (compEnvC scope cl C env)) (CompEnd h₀ L m ⟨h, gs, dr, tk, os⟩ I oI C oC D (lst ys) S (fun y nx' => J (i + 1) (ys ++ [y]) nx')) E' ⟨h, gs, dr, tk, os⟩)
    (fin : ∀ ys nx, J n ys nx → Fin ys nx) {nx : List (Addr × Obj)} (h0 : J 0 [] nx) : CompRest prog w A h₀ L m env elt x scope cl s S P Fin n 0 [] nx := by
  obtain ⟨hg, tkg, rfl⟩ := hs
  exact comp_led J turn fin n 0 [] nx (Nat.zero_add _) h0
theorem comp_ledTS {ct elt : Expr} {x : Str} {scope : Scope} {cl : List (Str × Addr)} {S : List (Addr × Obj) → Prop} {P : Nat → Value → Prop} {Fin : List Value → List (Addr × Obj) → Prop} (hs : ∃ hg tkg, s = ⟨hg, gs, dr, tkg, os⟩) (J : Nat → List Value → List (Addr × Obj) → Prop) {n : Nat}
    (turn : ∀ i ys nx v I oI C oC D m₂ h tk (E' : Value → Shared → Prop), i < n → J i ys nx → P i v → NsObj oC m₂ → m₂ x = some v → Fr h₀ L h m → News h₀ L h ((I, oI) :: (C, oC) :: (D, lst ys) :: nx) → Off3 I C D nx → ((@Ne Nat I C) ∧ (@Ne Nat I D) ∧ (@Ne Nat C D)) →
      wpAny (model prog w) A (isTrue ct (compEnvC scope cl C env) (eval ct (compEnvC scope cl C env))) (fun ok s' => if ok = true then
        wpAny (model prog w) A (eval elt (compEnvC scope cl C env)) (CompEnd h₀ L m ⟨h, gs, dr, tk, os⟩ I oI C oC D (lst ys) S (fun y nx' => J (i + 1) (ys ++ [y]) nx')) E' s'
        else CompEnd h₀ L m ⟨h, gs, dr, tk, os⟩ I oI C oC D (lst ys) S (fun _ nx' => J (i + 1) ys nx') Value.none s') E' ⟨h, gs, dr, tk, os⟩)
    (fin : ∀ ys nx, J n ys nx → Fin ys nx) {nx : List (Addr × Obj)} (h0 : J 0 [] nx) : CompRestT prog w A h₀ L m env ct elt x scope cl s S P Fin n 0 [] nx := by
  obtain ⟨hg, tkg, rfl⟩ := hs
  exact comp_ledT J turn fin n 0 [] nx (Nat.zero_add _) h0
end
end
section
open PySem PySem.W PyProof.Rows PySem.Calls PySem.Spec
section
variable {prog : Program} {w : World} {A : Around} {E : Value → Shared → Prop} {hz0 : Heap} {gs : Array GenState} {dr : Drawn} {tk₀ : Nat} {os : OsState} {env : Env} {h₀ : Heap} {x : Str} {body : List Stmt} {Q : Flow → Shared → Prop}
noncomputable def LoopC (prog : Program) (w : World) (A : Around) (env : Env) (x : Str) (px : Pos) (body : List Stmt) (Q : Flow → Shared → Prop) (E : Value → Shared → Prop) (it : Value) (s₂ : Shared) : Prop :=
  codeAny (model prog w) A (.forLoop (.Name x px) it body [] env) (fun r s' => match r with | .ok f => Q f s' | .error e => cameBackBy (model prog w) A env E e s') s₂
theorem For_C {s : Shared} {px pos : Pos} {iter : Expr} (h : wpAny (model prog w) A (eval iter env) (fun xv s₁ => wpAny (model prog w) A (pyIter xv) (fun it s₂ => LoopC prog w A env x px body Q E it s₂) E s₁) E s)
    (hs : ∀ x, foldedSetIterable iter env x = pure x := by intro _; rfl) : wpAny (model prog w) A (exec (.For (.Name x px) iter body [] pos) env) Q E s := wpAny_For h hs
noncomputable def CEnd (h₀ : Heap) (L c : Addr) (J : (Str → Option Value) → List (Addr × Obj) → Prop) (I : Addr) (io : Obj) (gs : Array GenState) (dr : Drawn) (os : OsState) (s₂ : Shared) : Prop :=
  ∃ h' tk m' nx oc v, s₂ = ⟨h', gs, dr, tk, os⟩ ∧ Fr h₀ L h' m' ∧ News h₀ L h' ((I, io) :: (c, oc) :: nx) ∧ oc.data = .cell v ∧ (∀ p ∈ nx, p.1 ≠ I) ∧ J m' nx
noncomputable def CQ (h₀ : Heap) (L c : Addr) (J : (Str → Option Value) → List (Addr × Obj) → Prop) (I : Addr) (io : Obj) (gs : Array GenState) (dr : Drawn) (os : OsState) (Q : Flow → Shared → Prop) (f : Flow) (s₂ : Shared) : Prop :=
  match f with
  | .ret v => Q (.ret v) s₂
  | .brk => Q .next s₂
  | _ => CEnd h₀ L c J I io gs dr os s₂
theorem cEnd {L c : Addr} {J : (Str → Option Value) → List (Addr × Obj) → Prop} {I : Addr} {io oc : Obj} {v : Option Value} {h' : Heap} {tk : Nat} {m' : Str → Option Value} {all : List (Addr × Obj)}
    (F : Fr h₀ L h' m') (N : News h₀ L h' all) (hd : oc.data = .cell v) (nx : List (Addr × Obj)) (sub : ∀ p ∈ (I, io) :: (c, oc) :: nx, p ∈ all) (off : ∀ p ∈ nx, p.1 ≠ I) (hj : J m' nx) : CEnd h₀ L c J I io gs dr os ⟨h', gs, dr, tk, os⟩ :=
  ⟨h', tk, m', nx, oc, v, rfl, F, fun p hp => N p (sub p hp), hd, off, hj⟩
/-- a for over a list of the ledger whose variable is a cell -/
theorem for_cell {px : Pos} {l c : Addr} {vs : List Value} {n : Nat} {m₀ : Str → Option Value} {news : List (Addr × Obj)} {oc : Obj} {v₀ : Option Value} (J : Nat → (Str → Option Value) → List (Addr × Obj) → Prop)
    (hh : A.handled = none) (F : Fr h₀ env.locals hz0 m₀) (N : News h₀ env.locals hz0 ((c, oc) :: news)) (hoc : oc.data = .cell v₀) (hl : (l, listOf vs.toArray n) ∈ news) (hk : env.scope.kind = .function) (hx : env.kindOf x = some .cell) (hc : env.cells.lookup x = some c)
    (h0 : J 0 m₀ news) (keep : ∀ i m nx, J i m nx → (l, listOf vs.toArray n) ∈ nx ∧ ∀ p ∈ nx, p.1 ≠ c)
    (turn : ∀ i v m₁ nx I io oc' h tk (W : Flow → Shared → Prop), (∀ f s, CQ h₀ env.locals c (J (i + 1)) I io gs dr os Q f s → W f s) → io.cls ≠ .type "tuple" → vs[i]? = some v → J i m₁ nx → (∀ p ∈ nx, p.1 ≠ I) → I ≠ c → oc'.data = .cell (some v) → Fr h₀ env.locals h m₁ → News h₀ env.locals h ((I, io) :: (c, oc') :: nx) →
      wpAny (model prog w) A (execs body env) W E ⟨h, gs, dr, tk, os⟩)
    (done : ∀ m₁ nx h tk oc' v', J vs.length m₁ nx → oc'.data = .cell v' → Fr h₀ env.locals h m₁ → News h₀ env.locals h ((c, oc') :: nx) → Q .next ⟨h, gs, dr, tk, os⟩)
    (hE : PassesOwn (model prog w) A env E := by passes_own) :
    wpAny (model prog w) A (pyIter (.ref l)) (fun it s₂ => LoopC prog w A env x px body Q E it s₂) E ⟨hz0, gs, dr, tk₀, os⟩ := by
  have hlN := N _ (List.mem_cons_of_mem _ hl)
  have hls : hz0.IsList l vs.toArray := ⟨_, hlN.1, rfl, _, rfl⟩
  have hlt : l < hz0.objs.size := Heap.lt_size hlN.1
  have hne : l ≠ hz0.objs.size := Nat.ne_of_lt hlt
  have hcN := N _ List.mem_cons_self
  have hcI : hz0.objs.size ≠ c := Nat.ne_of_gt (Heap.lt_size hcN.1)
  have hI0 : h₀.get? hz0.objs.size = none := next_is_new F
  have hIL : hz0.objs.size ≠ env.locals := Nat.ne_of_gt F.ns.lt
  refine wpAny_pyIter_list hls ?_
  have W := Walks.list (prog := prog) (w := w) hh hz0.objs.size l hne vs.toArray
  have hvz : vs.toArray.size = vs.length := by simp
  rw [hvz] at W
  refine codeAny_forLoop_any
    (fun k s' => ∃ h' tk m' nx oc' v' i, s' = ⟨h', gs, dr, tk, os⟩ ∧ (h'.IsListIter hz0.objs.size l i ∧ h'.IsList l vs.toArray) ∧ Fr h₀ env.locals h' m' ∧ News h₀ env.locals h' ((c, oc') :: nx) ∧ oc'.data = .cell v' ∧ (∀ p ∈ nx, p.1 ≠ hz0.objs.size) ∧ J i m' nx ∧ i ≤ vs.length ∧ k = vs.length + 1 - i) ?_ (vs.length + 1)
    ⟨_, tk₀, m₀, news, oc, v₀, 0, rfl, ⟨⟨_, Heap.get?_push_size _ rfl, rfl, rfl⟩, hls.at fun o e => Heap.get?_push_of_some _ e⟩, F.push _, fun p hp => ⟨Heap.get?_push_of_some _ (N p hp).1, (N p hp).2⟩, hoc, fun p hp => Nat.ne_of_lt (Heap.lt_size (N p (List.mem_cons_of_mem _ hp)).1), h0, Nat.zero_le _, rfl⟩
  rintro k s' ⟨h', tk, m', nx, oc', v', i, rfl, hst, F', N', hd', hoI, hJ, hi, rfl⟩
  have next : ∀ h₁ : Heap, (∀ b o, b ∉ [hz0.objs.size] → h'.get? b = some o → h₁.get? b = some o) → Fr h₀ env.locals h₁ m' ∧ News h₀ env.locals h₁ ((c, oc') :: nx) := fun h₁ hk₁ => by
    have nb : ∀ b, b ≠ hz0.objs.size → b ∉ [hz0.objs.size] := fun b hb hm => hb (List.mem_singleton.mp hm)
    refine ⟨⟨F'.ns.at' fun o e => hk₁ _ o (nb _ hIL.symm) e, fun b o e => hk₁ b o (nb _ fun q => by rw [q, hI0] at e; cases e) (F'.keep b o e), F'.above⟩, fun p hp => ?_⟩
    refine ⟨hk₁ _ _ (nb _ ?_) (N' p hp).1, (N' p hp).2⟩
    rcases List.mem_cons.mp hp with rfl | hp
    · exact hcI.symm
    · exact hoI p hp
  by_cases hlt : i < vs.length
  · refine W.item i _ _ _ hlt hst fun v h₁ tk₁ hP hst₁ hk₁ => ?_
    obtain ⟨F₁, N₁⟩ := next h₁ hk₁
    have hcN₁ := N₁ _ List.mem_cons_self
    obtain ⟨io, hio, hic, hid⟩ := id hst₁.1
    refine wpAny_of_eq (show letOwnedTupleGo (.Name x px) (.ref hz0.objs.size) v = pure () from rfl) ?_
    refine wpAny_assign_Name (wpAny_storeName_cell hk hx hc ⟨oc', hcN₁.1, hd'⟩ fun h₂ hv hs => ?_)
    obtain ⟨o2, ho2, hd2⟩ := hv
    have F₂ : Fr h₀ env.locals h₂ m' := ⟨F₁.ns.sameBut hs (Ne.symm hcN₁.2.1), fun b ob e => (hs.2 b fun q => by rw [q, hcN₁.2.2] at e; cases e).trans (F₁.keep b ob e), F₁.above⟩
    have N₂ : News h₀ env.locals h₂ ((hz0.objs.size, io) :: (c, o2) :: nx) := fun p hp => by
      rcases List.mem_cons.mp hp with rfl | hp
      · exact ⟨(hs.2 _ hcI).trans hio, hIL, hI0⟩
      · rcases List.mem_cons.mp hp with rfl | hp
        · exact ⟨ho2, hcN₁.2⟩
        · exact ⟨(hs.2 _ ((keep _ _ _ hJ).2 p hp)).trans (N₁ p (List.mem_cons_of_mem _ hp)).1, (N₁ p (List.mem_cons_of_mem _ hp)).2⟩
    refine wpAny_mono (wpAny_passesOwn hE (turn i v m' nx _ io o2 h₂ tk₁ _ (fun _ _ x => x) (by rw [hic]; decide) (by simpa using hP) hJ hoI hcI hd2 F₂ N₂)) (fun f s₃ h₃ => ?_) fun _ _ e => e
    have fin : CEnd h₀ env.locals c (J (i + 1)) hz0.objs.size io gs dr os s₃ → ∃ m₄, m₄ < vs.length + 1 - i ∧ ∃ h' tk m' nx oc' v' i, s₃ = ⟨h', gs, dr, tk, os⟩ ∧ (h'.IsListIter hz0.objs.size l i ∧ h'.IsList l vs.toArray) ∧ Fr h₀ env.locals h' m' ∧ News h₀ env.locals h' ((c, oc') :: nx) ∧ oc'.data = .cell v' ∧ (∀ p ∈ nx, p.1 ≠ hz0.objs.size) ∧ J i m' nx ∧ i ≤ vs.length ∧ m₄ = vs.length + 1 - i := by
      rintro ⟨h₃', tk₃, m₃, nx₃, oc₃, v₃, rfl, F₃, N₃, hd₃, ho₃, hJ₃⟩
      refine ⟨vs.length + 1 - (i + 1), by omega, h₃', tk₃, m₃, nx₃, oc₃, v₃, i + 1, rfl, ⟨⟨io, (N₃ _ List.mem_cons_self).1, hic, hid⟩, ⟨_, (N₃ _ (List.mem_cons_of_mem _ (List.mem_cons_of_mem _ (keep _ _ _ hJ₃).1))).1, rfl, _, rfl⟩⟩, F₃, fun p hp => N₃ p (List.mem_cons_of_mem _ hp), hd₃, ho₃, hJ₃, hlt, rfl⟩
    cases f with
    | ret v => exact h₃
    | brk => exact h₃
    | next => exact fin h₃
    | cont => exact fin h₃
  · have hin : i = vs.length := by omega
    subst hin
    refine W.done _ _ _ hst fun h₁ tk₁ hk₁ => wpAny_execs_nil ?_
    obtain ⟨F₁, N₁⟩ := next h₁ hk₁
    exact done m' nx h₁ tk₁ oc' v' hJ hd' F₁ N₁
end
end
section
open PySem PySem.W PyProof.Rows PySem.Calls PySem.Spec
set_option hygiene false
local macro_rules | `(tactic| omega) => `(tactic| first | lia | omega (config := {}))

set_option hygiene true
section
open PySem PySem.W PyProof.Rows PySem.Calls PySem.Spec
set_option hygiene false
local macro_rules | `(tactic| walk_at "mine gi") => `(tactic| repeat' (first | (k_unfold; (try dsimp only)) | ((fail_if_success (with_reducible show wpAny _ _ (exec (PySem.Stmt.While _ _ _ _) _) _ _ _)); (fail_if_success (with_reducible show wpAny _ _ (pyIter _) _ _ _)); (fail_if_success (with_reducible show wpAny _ _ (execs (List.cons (PySem.Stmt.If _ _ _ _) _) _) _ _ _)); first | walk1 | (dsimp only; walk1)) | (leave1; (try dsimp only)) | fail "no step"))
local macro_rules | `(tactic| walk_at "subscriptTail Name Name ref int") => `(tactic| (k_here; (with_reducible refine' item_row (by k_dflt assumption) (by k_dflt k_mem) (by k_dflt assumption) (by k_dflt omega) (by k_dflt omega) (by k_dflt omega) ?_ hl_name); intro _))
local macro_rules | `(tactic| walk_at "setItem ref int int") => `(tactic| (k_here; (with_reducible refine' set_row (by k_dflt assumption) (by k_dflt assumption) (by k_dflt k_upd) (by k_dflt assumption) (by k_dflt omega) (by k_dflt omega) (by k_dflt omega) ?_); intro _ _ _ _; (try k_sweep)))
local macro_rules | `(tactic| walk_at "call type:list") => `(tactic| (k_here; (with_reducible show wpAny _ _ (call (Value.type _) [Value.ref _]) _ _ _); (with_reducible refine' row_new (by k_dflt rfl) (by k_dflt assumption) (by k_dflt assumption) (by k_dflt assumption) (by k_dflt rfl) (by k_dflt omega) ?_); intro _ _ _ _ _ _ _ _ _ _; (try k_sweep)))
set_option hygiene true
set_option maxHeartbeats 8000000
noncomputable def subL (x y : Str) : Int := if (x == y) = true then 0 else if (Txt.lower x == Txt.lower y) = true then 1 else 2
theorem sub_con (w : World) (x y : Str) (t₁ t₂ : Tok) (hx : x.length ≤ 60) (hy : y.length ≤ 60) (news : List (Addr × Obj)) :
    Con w 28 [.str x t₁, .str y t₂] 1 news (fun r news' => news' = news ∧ ∃ t, r = .int (subL x y) t) := by
  unfold Con
  intro dp un gd env outer A₀ base h₀ L m mean mg mb hp gs dr tk₀ os Q E B F X N T hf hk hd hu hret
  refine wpAny_call ?_
  (refine' code_def (binds := [("ch_a", .str x t₁), ("ch_b", .str y t₂)]) ?k1 ?k2 ?k3 ?k4 ?k5 ?kA ?kF ?kK ?k6 ?k7 ?k8 ?k9 ?kB ?_ ?c2 ?c3 ?c4 ?c5; (case kA => exact rfl); (case kF => assumption); (case kK => assumption); (case k1 => k_asm); (case k2 => k_asm); (case k3 => k_asm); (case k4 => k_asm); (case k5 => k_asm); (case k6 => k_is); (case k7 => k_is); (case k8 => ktr_room); (case k9 => exact BindsTo.of_eq rfl); (case c5 => decide); (case kB => exact locs rfl); (case c2 => exact rfl); (case c3 => exact rfl); (case c4 => exact rfl); k_whole; intro g' L' h' FG' F' N' B' X' T'; (try dsimp only); (try k_fold))
  k_with_none
  w_top off
  walk_at "mine go"
  all_goals (refine hret _ _ _ _ (by assumption) (by assumption) ⟨rfl, _, congrArg (fun z => Value.int z _) ?_⟩; unfold subL; simp only [*, if_true, if_false, Bool.false_eq_true])
noncomputable def preN (x y : Str) (p : Nat) : Nat := if p < x.length ∧ p < y.length ∧ (Txt.item x (p : Int) == Txt.item y (p : Int)) = true then preN x y (p + 1) else p
termination_by x.length - p
decreasing_by omega
theorem preN_go {x y : Str} {p : Nat} (h1 : p < x.length) (h2 : p < y.length) (h3 : (Txt.item x (p : Int) == Txt.item y (p : Int)) = true) : preN x y (p + 1) = preN x y p := by
  conv => rhs; rw [preN, if_pos ⟨h1, h2, h3⟩]
theorem preN_stop {x y : Str} {p : Nat} (h : p < x.length → p < y.length → (Txt.item x (p : Int) == Txt.item y (p : Int)) = false) : preN x y p = p := by
  rw [preN, if_neg]
  intro ⟨h1, h2, h3⟩
  rw [h h1 h2] at h3; cases h3
theorem preN_le (x y : Str) : ∀ (k p : Nat), x.length - p ≤ k → p ≤ x.length → p ≤ y.length → preN x y p ≤ x.length ∧ preN x y p ≤ y.length := by
  intro k
  induction k with
  | zero =>
    intro p h h1 h2
    rw [preN, if_neg (by omega)]; exact ⟨h1, h2⟩
  | succ k ih =>
    intro p h h1 h2
    rw [preN]
    split
    · exact ih (p + 1) (by omega) (by omega) (by omega)
    · exact ⟨h1, h2⟩
noncomputable def sufN (x y : Str) (q : Nat) : Nat := if q < x.length ∧ q < y.length ∧ (Txt.item x (-(q : Int) - 1) == Txt.item y (-(q : Int) - 1)) = true then sufN x y (q + 1) else q
termination_by x.length - q
decreasing_by omega
theorem sufN_go {x y : Str} {p : Nat} (h1 : p < x.length) (h2 : p < y.length) (h3 : (Txt.item x (-(p : Int) - 1) == Txt.item y (-(p : Int) - 1)) = true) : sufN x y (p + 1) = sufN x y p := by
  conv => rhs; rw [sufN, if_pos ⟨h1, h2, h3⟩]
theorem sufN_stop {x y : Str} {p : Nat} (h : p < x.length → p < y.length → (Txt.item x (-(p : Int) - 1) == Txt.item y (-(p : Int) - 1)) = false) : sufN x y p = p := by
  rw [sufN, if_neg]
  intro ⟨h1, h2, h3⟩
  rw [h h1 h2] at h3; cases h3
theorem sufN_le (x y : Str) : ∀ (k p : Nat), x.length - p ≤ k → p ≤ x.length → p ≤ y.length → sufN x y p ≤ x.length ∧ sufN x y p ≤ y.length := by
  intro k
  induction k with
  | zero =>
    intro p h h1 h2
    rw [sufN, if_neg (by omega)]; exact ⟨h1, h2⟩
  | succ k ih =>
    intro p h h1 h2
    rw [sufN]
    split
    · exact ih (p + 1) (by omega) (by omega) (by omega)
    · exact ⟨h1, h2⟩
noncomputable def cutP (z : Str) (p : Nat) : Str := Txt.slice z (some (p : Int)) none
noncomputable def cutS (z : Str) (q : Nat) : Str := if q = 0 then z else Txt.slice z none (some (-(q : Int)))
structure RowSt where
  row : List Int
  dist : Int
  res : Int
  mn : Int
noncomputable def rowStep (c a : Str) (i : Nat) (s : RowSt) : RowSt :=
  let d := s.row.getD (i : Int).toNat 0
  let q := (if d < s.res then d else s.res) + 2
  let p := s.dist + subL c (Txt.item a (i : Int))
  let r := if p < q then p else q
  ⟨s.row.set (i : Int).toNat r, d, r, if r < s.mn then r else s.mn⟩
noncomputable def rowIt (c a : Str) (row : List Int) (v : Int) : Nat → RowSt
  | 0 => ⟨row, v, v, 9223372036854775807⟩
  | i + 1 => rowStep c a i (rowIt c a row v i)
noncomputable def levOut (a b : Str) (mc : Int) : Nat → Nat → List Int → Int → Int
  | 0, _, _, res => res
  | r + 1, j, row, _ => if mc < (rowIt (Txt.item b (j : Int)) a row ((j : Int) * 2) a.length).mn then mc + 1 else levOut a b mc r (j + 1) (rowIt (Txt.item b (j : Int)) a row ((j : Int) * 2) a.length).row (rowIt (Txt.item b (j : Int)) a row ((j : Int) * 2) a.length).res
theorem levOut_go {a b : Str} {mc : Int} {n j : Nat} {row : List Int} {res : Int} (hj : j < n) (h : ¬ mc < (rowIt (Txt.item b (j : Int)) a row ((j : Int) * 2) a.length).mn) :
    levOut a b mc (n - j) j row res = levOut a b mc (n - (j + 1)) (j + 1) (rowIt (Txt.item b (j : Int)) a row ((j : Int) * 2) a.length).row (rowIt (Txt.item b (j : Int)) a row ((j : Int) * 2) a.length).res := by
  have e : n - j = (n - (j + 1)) + 1 := by omega
  rw [e, levOut, if_neg h]
theorem levOut_ret {a b : Str} {mc : Int} {n j : Nat} {row : List Int} {res : Int} (hj : j < n) (h : mc < (rowIt (Txt.item b (j : Int)) a row ((j : Int) * 2) a.length).mn) :
    levOut a b mc (n - j) j row res = mc + 1 := by
  have e : n - j = (n - (j + 1)) + 1 := by omega
  rw [e, levOut, if_pos h]
theorem levOut_end {a b : Str} {mc : Int} {n : Nat} {row : List Int} {res : Int} : levOut a b mc (n - n) n row res = res := by
  rw [Nat.sub_self]; rfl
noncomputable def levD (a b : Str) (mc : Int) : Int := if mc < ((b.length : Int) - a.length) * 2 then mc + 1 else levOut a b mc b.length 0 (rowInit a.length) 0
noncomputable def levC (a b : Str) (mc : Int) : Int := if a.length = 0 ∨ b.length = 0 then 2 * ((a.length : Int) + b.length) else if 40 < a.length ∨ 40 < b.length then mc + 1 else if b.length < a.length then levD b a mc else levD a b mc
noncomputable def levL (x y : Str) (mc : Int) : Int := if (x == y) = true then 0 else levC (cutS (cutP x (preN x y 0)) (sufN (cutP x (preN x y 0)) (cutP y (preN x y 0)) 0)) (cutS (cutP y (preN x y 0)) (sufN (cutP x (preN x y 0)) (cutP y (preN x y 0)) 0)) mc
local macro_rules | `(tactic| walk_at "call ref") => `(tactic| (k_here; (refine' Con.useA (sub_con _ _ _ _ _ (by k_dflt omega) (by k_dflt omega) _) ?_); (intro _ _ _ _ _ _ P9); (obtain ⟨e8, t9, e9⟩ := P9; replace e8 := e8.symm; subst e8; subst e9); walk_at "mine end"))
theorem rowIt_len (c a : Str) (row : List Int) (v : Int) (i : Nat) : (rowIt c a row v i).row.length = row.length := by
  induction i with
  | zero => rfl
  | succ i ih => show (List.set _ _ _).length = _; rw [List.length_set, ih]
theorem cutS_0 {z : Str} {q : Nat} (h : q = 0) : cutS z q = z := by unfold cutS; rw [if_pos h]
theorem cutS_pos {z : Str} {q : Nat} (h : q > 0) : cutS z q = Txt.slice z none (some (-(q : Int))) := by unfold cutS; rw [if_neg (by omega)]
theorem joinP {G : Prop} {H P : Heap → Nat → Prop} (main : (∀ h k, H h k → P h k) → G) (key : ∀ h k, H h k → P h k) : G := main key
inductive LvA (x y : Str) (b : Int) (t₁ t₂ t₃ : Tok) (news : List (Addr × Obj)) (k : Nat) (m : Str → Option Value) (nx : List (Addr × Obj)) : Prop
  | mk (p t : Nat) (h0 : k = x.length - p) (h1 : news = nx) (h2 : p ≤ x.length) (h3 : p ≤ y.length) (h4 : preN x y p = preN x y 0) (h5 : m "a" = some (.str x t₁)) (h6 : m "b" = some (.str y t₂)) (h7 : m "max_cost" = some (.int b t₃)) (h8 : m "pre" = some (.int (p : Int) t)) : LvA x y b t₁ t₂ t₃ news k m nx
inductive LvB (x y : Str) (b : Int) (t₁ t₂ t₃ : Tok) (news : List (Addr × Obj)) (m : Str → Option Value) (nx : List (Addr × Obj)) : Prop
  | mk (t : Nat) (h0 : news = nx) (h1 : m "a" = some (.str x t₁)) (h2 : m "b" = some (.str y t₂)) (h3 : m "max_cost" = some (.int b t₃)) (h4 : m "pre" = some (.int (preN x y 0 : Int) t)) : LvB x y b t₁ t₂ t₃ news m nx
inductive LvC (x1 y1 : Str) (b : Int) (t₃ : Tok) (news : List (Addr × Obj)) (k : Nat) (m : Str → Option Value) (nx : List (Addr × Obj)) : Prop
  | mk (q ta tb t : Nat) (z : Int) (h0 : k = x1.length - q) (h1 : news = nx) (h2 : q ≤ x1.length) (h3 : q ≤ y1.length) (h4 : sufN x1 y1 q = sufN x1 y1 0) (h5 : m "a" = some (.str x1 ta)) (h6 : m "b" = some (.str y1 tb)) (h7 : m "max_cost" = some (.int b t₃)) (h8 : m "post" = some (.int z t)) (h9 : z = -(q : Int)) : LvC x1 y1 b t₃ news k m nx
inductive LvD (x1 y1 : Str) (b : Int) (t₃ : Tok) (news : List (Addr × Obj)) (m : Str → Option Value) (nx : List (Addr × Obj)) : Prop
  | mk (ta tb t : Nat) (h0 : news = nx) (h1 : m "a" = some (.str x1 ta)) (h2 : m "b" = some (.str y1 tb)) (h3 : m "max_cost" = some (.int b t₃)) (h4 : m "post" = some (.int (-(sufN x1 y1 0 : Int)) t)) : LvD x1 y1 b t₃ news m nx
inductive LvG (x y : Str) (b : Int) (t₃ : Tok) (news : List (Addr × Obj)) (SA SB : Str) (j : Nat) (m : Str → Option Value) (nx : List (Addr × Obj)) : Prop
  | mk (D : Addr) (vs : List Value) (c : Nat) (tl : List (Addr × Obj)) (row : List Int) (res : Int) (ta tb tr : Tok) (h0 : nx = (D, listOf vs.toArray c) :: tl) (h1 : (∀ p ∈ tl, p.1 ≠ D)) (h2 : (∀ p ∈ news, p ∈ tl)) (h3 : RowIs vs row) (h4 : row.length = SA.length) (h5 : j ≤ SB.length) (h6 : levL x y b = levOut SA SB b (SB.length - j) j row res) (h7 : m "a" = some (.str SA ta)) (h8 : m "b" = some (.str SB tb)) (h9 : m "max_cost" = some (.int b t₃)) (h10 : m "row" = some (.ref D)) (h11 : m "result" = some (.int res tr)) : LvG x y b t₃ news SA SB j m nx
inductive LvH (SA SB : Str) (b : Int) (t₃ : Tok) (j : Nat) (row : List Int) (I D : Addr) (io : Obj) (tl : List (Addr × Obj)) (i : Nat) (m : Str → Option Value) (nx : List (Addr × Obj)) : Prop
  | mk (vs : List Value) (c : Nat) (ta tb t1 t2 t3 t4 t5 : Tok) (h0 : nx = (I, io) :: (D, listOf vs.toArray c) :: tl) (h1 : RowIs vs (rowIt (Txt.item SB (j : Int)) SA row ((j : Int) * 2) i).row) (h2 : m "a" = some (.str SA ta)) (h3 : m "b" = some (.str SB tb)) (h4 : m "max_cost" = some (.int b t₃)) (h5 : m "row" = some (.ref D)) (h6 : m "bchar" = some (.str (Txt.item SB (j : Int)) t1)) (h7 : m "bindex" = some (.int (j : Int) t2)) (h8 : m "distance" = some (.int (rowIt (Txt.item SB (j : Int)) SA row ((j : Int) * 2) i).dist t3)) (h9 : m "result" = some (.int (rowIt (Txt.item SB (j : Int)) SA row ((j : Int) * 2) i).res t4)) (h10 : m "minimum" = some (.int (rowIt (Txt.item SB (j : Int)) SA row ((j : Int) * 2) i).mn t5)) : LvH SA SB b t₃ j row I D io tl i m nx
inductive LvE (x y : Str) (b : Int) (t₃ : Tok) (g' : Heap) (L' : Addr) (news : List (Addr × Obj)) (h : Heap) (u1 : Nat) : Prop
  | mk (m' : Str → Option Value) (SA SB : Str) (ta tb : Tok) (h0 : Fr g' L' h m') (h1 : News g' L' h news) (h2 : m' "a" = some (.str SA ta)) (h3 : m' "b" = some (.str SB tb)) (h4 : m' "max_cost" = some (.int b t₃)) (h5 : SA.length ≤ 60) (h6 : SB.length ≤ 60) (h7 : levL x y b = levC SA SB b) : LvE x y b t₃ g' L' news h u1
inductive LvF (x y : Str) (b : Int) (t₃ : Tok) (g' : Heap) (L' : Addr) (news : List (Addr × Obj)) (h : Heap) (u1 : Nat) : Prop
  | mk (m' : Str → Option Value) (SA SB : Str) (ta tb : Tok) (h0 : Fr g' L' h m') (h1 : News g' L' h news) (h2 : m' "a" = some (.str SA ta)) (h3 : m' "b" = some (.str SB tb)) (h4 : m' "max_cost" = some (.int b t₃)) (h5 : SA.length ≤ SB.length) (h6 : 0 < SA.length) (h7 : SB.length ≤ 40) (h8 : levL x y b = levD SA SB b) : LvF x y b t₃ g' L' news h u1
theorem lev_con (w : World) (x y : Str) (b : Int) (t₁ t₂ t₃ : Tok) (hx : x.length ≤ 60) (hy : y.length ≤ 60) (hb : 0 ≤ b ∧ b ≤ 1000) (news : List (Addr × Obj)) :
    Con w 35 [.str x t₁, .str y t₂, .int b t₃] 2 news (fun r news' => news' = news ∧ ∃ t, r = .int (levL x y b) t) := by
  unfold Con
  intro dp un gd env outer A₀ base h₀ L m mean mg mb hp gs dr tk₀ os Q E B F X N T hf hk hd hu hret
  refine wpAny_call ?_
  (refine' code_def (binds := [("a", .str x t₁), ("b", .str y t₂), ("max_cost", .int b t₃)]) ?k1 ?k2 ?k3 ?k4 ?k5 ?kA ?kF ?kK ?k6 ?k7 ?k8 ?k9 ?kB ?_ ?c2 ?c3 ?c4 ?c5; (case kA => exact rfl); (case kF => assumption); (case kK => assumption); (case k1 => k_asm); (case k2 => k_asm); (case k3 => k_asm); (case k4 => k_asm); (case k5 => k_asm); (case k6 => k_is); (case k7 => k_is); (case k8 => ktr_room); (case k9 => exact BindsTo.of_eq rfl); (case c5 => decide); (case kB => exact locs rfl); (case c2 => exact rfl); (case c3 => exact rfl); (case c4 => exact rfl); k_whole; intro g' L' h' FG' F' N' B' X' T'; (try dsimp only); (try k_fold))
  k_with_none
  w_top off
  walk_at "mine go"
  · refine hret _ _ _ _ (by assumption) (by assumption) ⟨rfl, _, congrArg (fun z => Value.int z _) ?_⟩; unfold levL; rw [if_pos (by assumption)]
  refine while_led (LvA x y b t₁ t₂ t₃ news)
    (LvB x y b t₁ t₂ t₃ news) (n₀ := x.length) (by assumption) (by assumption) ?_ ?_ ?_
  · exact ⟨0, _, rfl, rfl, Nat.zero_le _, Nat.zero_le _, rfl, rfl, rfl, rfl, rfl⟩
  · rintro k m₁ nx h₁ tk₁ W3 V3 hW3 hV3 F₁ N₁ ⟨p, t, hk5, rfl, hp1, hp2, he, e1, e2, e3, e4⟩
    have F₂ := frTop [("a", .str x t₁), ("b", .str y t₂), ("max_cost", .int b t₃), ("pre", .int (p : Int) t)] F₁ (ftA e1 (ftA e2 (ftA e3 (ftA e4 ft0))))
    clear F₁
    k_sweep
    walk_at "mine go"
    · refine hW3 _ _ ?_
      exact whQ_end (n' := x.length - (p + 1)) (by assumption) (by assumption) (by omega) ⟨p + 1, _, rfl, rfl, by omega, by omega, by rw [← he]; exact preN_go (by omega) (by omega) (by assumption), rfl, rfl, rfl, rfl⟩
    all_goals (
      refine hV3 _ ?_
      refine whEx_end (by assumption) (by assumption) ⟨t, rfl, rfl, rfl, rfl, ?_⟩
      rw [← he, preN_stop (by intro _ _; first | assumption | omega)]
      rfl)
  rintro m₁ nx h₁ tk₁ ⟨t, rfl, e1, e2, e3, e4⟩ F₁ N₁
  have F₂ := frTop [("a", .str x t₁), ("b", .str y t₂), ("max_cost", .int b t₃), ("pre", .int (preN x y 0 : Int) t)] F₁ (ftA e1 (ftA e2 (ftA e3 (ftA e4 ft0))))
  clear F₁
  k_sweep
  obtain ⟨hp1, hp2⟩ := preN_le x y _ 0 (Nat.le_refl _) (Nat.zero_le _) (Nat.zero_le _)
  walk_at "mine go"
  have hx1 := PyProof.Txt.length_slice_le x (some (preN x y 0 : Int)) none
  have hy1 := PyProof.Txt.length_slice_le y (some (preN x y 0 : Int)) none
  obtain ⟨x1, ex1, ec1⟩ : ∃ x1, x1 = Txt.slice x (some (preN x y 0 : Int)) none ∧ cutP x (preN x y 0) = x1 := ⟨_, rfl, rfl⟩
  obtain ⟨y1, ey1, ed1⟩ : ∃ y1, y1 = Txt.slice y (some (preN x y 0 : Int)) none ∧ cutP y (preN x y 0) = y1 := ⟨_, rfl, rfl⟩
  simp only [← ex1, ← ey1] at *
  refine while_led (LvC x1 y1 b t₃ news)
    (LvD x1 y1 b t₃ news) (n₀ := x1.length) (by assumption) (by assumption) ?_ ?_ ?_
  · exact ⟨0, _, _, _, _, rfl, rfl, Nat.zero_le _, Nat.zero_le _, rfl, rfl, rfl, rfl, rfl, rfl⟩
  · rintro k m₁ nx h₁ tk₁ W3 V3 hW3 hV3 F₁ N₁ ⟨q, ta, tb, t, z, hk5, rfl, hq1, hq2, he, e1, e2, e3, e4, hz⟩
    subst hz
    rcases Nat.eq_zero_or_pos q with h0 | h0
    all_goals (
      have F₂ := frTop [("a", .str x1 ta), ("b", .str y1 tb), ("max_cost", .int b t₃), ("post", .int (-(q : Int)) t)] F₁ (ftA e1 (ftA e2 (ftA e3 (ftA e4 ft0))))
      clear F₁
      k_sweep
      walk_at "mine go"
      all_goals first
        | (refine hW3 _ _ ?_; exact whQ_end (n' := x1.length - (q + 1)) (by assumption) (by assumption) (by omega) ⟨q + 1, _, _, _, _, rfl, rfl, by omega, by omega, by rw [← he]; exact sufN_go (by omega) (by omega) (by assumption), rfl, rfl, rfl, rfl, by omega⟩)
        | (refine hV3 _ ?_; refine whEx_end (by assumption) (by assumption) ⟨ta, tb, t, rfl, rfl, rfl, rfl, ?_⟩; rw [← he, sufN_stop (by intro _ _; first | assumption | omega)]; rfl))
  rintro m₁ nx h₁ tk₁ ⟨ta, tb, t, rfl, e1, e2, e3, e4⟩ F₁ N₁
  obtain ⟨hq1, hq2⟩ := sufN_le x1 y1 _ 0 (Nat.le_refl _) (Nat.zero_le _) (Nat.zero_le _)
  obtain ⟨q, eq1⟩ : ∃ q, sufN x1 y1 0 = q := ⟨_, rfl⟩
  rw [eq1] at e4 hq1 hq2
  have hlv : levL x y b = levC (cutS x1 q) (cutS y1 q) b := by
    unfold levL
    rw [if_neg (by rw [Bool.not_eq_true]; assumption), ec1, ed1, eq1]
  have F₂ := frTop [("a", .str x1 ta), ("b", .str y1 tb), ("max_cost", .int b t₃), ("post", .int (-(q : Int)) t)] F₁ (ftA e1 (ftA e2 (ftA e3 (ftA e4 ft0))))
  clear F₁
  k_sweep
  refine' joinP (H := (LvE x y b t₃ g' L' news)) (P := _) ?main ?key
  case main =>
    intro KEY
    rcases Nat.eq_zero_or_pos q with h0 | h0
    all_goals (
      walk_at "mine gi"
      dsimp only
      walk_at "mine gi")
    · rename_i t5y k5 l5y hE FE NE
      generalize k5 + 1 = kE
      exact KEY hE kE ⟨_, x1, y1, _, _, FE, NE, rfl, rfl, rfl, by omega, by omega, by rw [hlv, cutS_0 h0, cutS_0 h0]⟩
    · rename_i t5y k5 l5y hE FE NE
      generalize k5 + 1 = kE
      exact KEY hE kE ⟨_, Txt.slice x1 none (some (-(q : Int))), Txt.slice y1 none (some (-(q : Int))), _, _, FE, NE, rfl, rfl, rfl, by omega, by omega, by rw [hlv, cutS_pos h0, cutS_pos h0]⟩
  case key =>
    rintro hA kA ⟨m', SA, SB, ta', tb', FA, NA, e1', e2', e3', hSA, hSB, hL⟩
    have FB := frTop [("a", .str SA ta'), ("b", .str SB tb'), ("max_cost", .int b t₃)] FA (ftA e1' (ftA e2' (ftA e3' ft0)))
    clear FA F₂ N₁ hlv hq1 hq2 eq1 e1 e2 e3 e4 hp1 hp2 ec1 ed1 hx1 hy1
    k_sweep
    (try dsimp only)
    walk1
    walk_at "mine gi"
    all_goals try (
      refine hret _ _ _ _ (by assumption) (by assumption) ⟨rfl, _, congrArg (fun z => Value.int z _) ?_⟩
      rw [hL]
      unfold levC
      rw [if_pos (by omega)])
    (try dsimp only)
    walk1
    walk_at "mine gi"
    all_goals try (
      refine hret _ _ _ _ (by assumption) (by assumption) ⟨rfl, _, congrArg (fun z => Value.int z _) ?_⟩
      rw [hL]
      unfold levC
      rw [if_neg (by omega), if_pos (by omega)])
    dsimp only
    refine' joinP (H := (LvF x y b t₃ g' L' news)) (P := _) ?main2 ?key2
    case main2 =>
      intro KEY2
      walk1
      walk_at "mine gi"
      all_goals (try dsimp only)
      · rename_i hE FE NE
        exact KEY2 hE tk ⟨_, SB, SA, _, _, FE, news_sub NE (fun p hp => .tail _ hp), rfl, rfl, rfl, by omega, by omega, by omega, by rw [hL]; unfold levC; rw [if_neg (by omega), if_neg (by omega), if_pos (by omega)]⟩
      · exact KEY2 hA tk ⟨_, SA, SB, _, _, FB, NA, rfl, rfl, rfl, by omega, by omega, by omega, by rw [hL]; unfold levC; rw [if_neg (by omega), if_neg (by omega), if_neg (by omega)]⟩
    case key2 =>
      clear hL hSA hSB e1' e2' e3' FB NA
      rintro hA kA ⟨m', SA, SB, ta', tb', FA, NA, e1', e2', e3', hAB, hA0, hB4, hL⟩
      have FB := frTop [("a", .str SA ta'), ("b", .str SB tb'), ("max_cost", .int b t₃)] FA (ftA e1' (ftA e2' (ftA e3' ft0)))
      clear FA
      (try dsimp only)
      walk1
      walk_at "mine go"
      · refine hret _ _ _ _ (by assumption) (by assumption) ⟨rfl, _, congrArg (fun z => Value.int z _) ?_⟩
        rw [hL]
        unfold levD
        rw [if_pos (by omega)]
      · skip
        have hlev : levL x y b = levOut SA SB b SB.length 0 (rowInit SA.length) 0 := by
          rw [hL]
          unfold levD
          rw [if_neg (by omega)]
        clear hL
        refine for_rng0 (LvG x y b t₃ news SA SB) rfl (by assumption) (by omega) (by assumption) (by assumption) ?_ ?_ ?_
        · refine ⟨_, _, _, _, rowInit _, _, _, _, _, rfl, fun p hp => Nat.ne_of_lt ((?l : ∀ p ∈ _, p.1 < _) p hp), ?_, by assumption, by simp [rowInit], Nat.zero_le _, hlev, rfl, rfl, rfl, rfl, rfl⟩
          case l => assumption
          intro p hp; first | exact hp | exact List.mem_cons_of_mem _ hp
        · rintro j t m₁ nx I io h₁ tk₁ W1 hW1 hj ⟨D, vs, c, tl, row, res, ta', tb', tr, rfl, hD, hsub, hR, hrl, hj2, hL, e1, e2, e3, e4, e5⟩ off F₁ N₁
          replace F₁ : Fr g' L' _ _ := F₁
          replace N₁ : News g' L' _ _ := N₁
          have hID : I ≠ D := fun e => off _ (.head _) e.symm
          have F₂ := frTopC "bindex" (.int (j : Int) t) [("a", .str SA ta'), ("b", .str SB tb'), ("max_cost", .int b t₃), ("row", .ref D), ("result", .int res tr)] F₁ (ftA e1 (ftA e2 (ftA e3 (ftA e4 (ftA e5 ft0)))))
          clear F₁
          k_sweep
          walk_at "mine go"
          refine for_rng0 (LvH SA SB b t₃ j row I D io tl) rfl (by assumption) (by omega) (by assumption) (by assumption) ?_ ?_ ?_
          · exact ⟨_, _, _, _, _, _, _, _, _, rfl, hR, rfl, rfl, rfl, rfl, rfl, rfl, rfl, rfl, rfl⟩
          · rintro i t2 m₂ nx I2 io2 h₂ tk₂ W2 hW2 hi ⟨vs2, c2, ta2, tb2, u1, u2, u3, u4, u5, rfl, hR2, f1, f2, f3, f4, f5, f6, f7, f8, f9⟩ off2 F₁ N₁
            replace F₁ : Fr g' L' _ _ := F₁
            replace N₁ : News g' L' _ _ := N₁
            have hI2 : I2 ≠ I := fun e => off2 _ (.head _) e.symm
            have hI3 : I2 ≠ D := fun e => off2 _ (.tail _ (.head _)) e.symm
            have hrl2 := rowIt_len (Txt.item SB (j : Int)) SA row ((j : Int) * 2) i
            have hit : (Txt.item SB (j : Int)).length = 1 := by assumption
            have F₂ := frTopC "index" (.int (i : Int) t2) [("a", .str SA ta2), ("b", .str SB tb2), ("max_cost", .int b t₃), ("row", .ref D), ("bchar", .str (Txt.item SB (j : Int)) u1), ("bindex", .int (j : Int) u2), ("distance", .int (rowIt (Txt.item SB (j : Int)) SA row ((j : Int) * 2) i).dist u3),
              ("result", .int (rowIt (Txt.item SB (j : Int)) SA row ((j : Int) * 2) i).res u4), ("minimum", .int (rowIt (Txt.item SB (j : Int)) SA row ((j : Int) * 2) i).mn u5)] F₁ (ftA f1 (ftA f2 (ftA f3 (ftA f4 (ftA f5 (ftA f6 (ftA f7 (ftA f8 (ftA f9 ft0)))))))))
            clear F₁
            k_sweep
            walk_at "mine go"
            all_goals (
              refine hW2 _ _ ?_
              refine turnEd (by assumption) (by assumption) ((I, io) :: (D, listOf _ _) :: tl) (fun p hp => hp) ?_ ⟨_, _, _, _, _, _, _, _, _, rfl, by assumption, rfl, rfl, rfl, rfl, rfl, rfl, rfl, rfl, congrArg (fun z => some (Value.int z _)) ?_⟩
              · exact alC (hI2.symm) (alC (hI3.symm) (fun p hp => off2 _ (.tail _ (.tail _ hp))))
              · first | exact (if_pos (by assumption)).symm | exact (if_neg (by assumption)).symm)
          · rintro m₂ nx h₂ tk₂ ⟨vs2, c2, ta2, tb2, u1, u2, u3, u4, u5, rfl, hR2, f1, f2, f3, f4, f5, f6, f7, f8, f9⟩ F₁ N₁
            replace F₁ : Fr g' L' _ _ := F₁
            replace N₁ : News g' L' _ _ := N₁
            have hrl2 := rowIt_len (Txt.item SB (j : Int)) SA row ((j : Int) * 2) SA.length
            have F₂ := frTop [("a", .str SA ta2), ("b", .str SB tb2), ("max_cost", .int b t₃), ("row", .ref D), ("bchar", .str (Txt.item SB (j : Int)) u1), ("bindex", .int (j : Int) u2), ("distance", .int (rowIt (Txt.item SB (j : Int)) SA row ((j : Int) * 2) SA.length).dist u3),
              ("result", .int (rowIt (Txt.item SB (j : Int)) SA row ((j : Int) * 2) SA.length).res u4), ("minimum", .int (rowIt (Txt.item SB (j : Int)) SA row ((j : Int) * 2) SA.length).mn u5)] F₁ (ftA f1 (ftA f2 (ftA f3 (ftA f4 (ftA f5 (ftA f6 (ftA f7 (ftA f8 (ftA f9 ft0)))))))))
            clear F₁
            k_sweep
            walk_at "mine go"
            · refine hW1 _ _ ?_
              dsimp only [TurnQ]
              walk_at "mine go"
              refine hret _ _ _ _ (by assumption) (news_sub (by assumption) (fun p h => ?_)) ⟨rfl, _, congrArg (fun z => Value.int z _) ?_⟩
              · exact List.mem_cons_of_mem _ (List.mem_cons_of_mem _ (hsub p h))
              · rw [hL, levOut_ret hj (by assumption)]
            · refine hW1 _ _ ?_
              refine turnEd (by assumption) (by assumption) ((D, listOf _ _) :: tl) (fun p hp => hp) ?_ ⟨D, vs2, c2, tl, _, _, _, _, _, rfl, hD, hsub, hR2, by rw [hrl2, hrl], by omega, ?_, rfl, rfl, rfl, rfl, rfl⟩
              · exact alC (hID.symm) (fun p hp => off _ (.tail _ hp))
              · rw [hL, levOut_go hj (by assumption)]
        · rintro m₁ nx h₁ tk₁ ⟨D, vs, c, tl, row, res, ta', tb', tr, rfl, hD, hsub, hR, hrl, hj2, hL, e1, e2, e3, e4, e5⟩ F₁ N₁
          replace F₁ : Fr g' L' _ _ := F₁
          replace N₁ : News g' L' _ _ := N₁
          have F₂ := frTop [("a", .str SA ta'), ("b", .str SB tb'), ("max_cost", .int b t₃), ("row", .ref D), ("result", .int res tr)] F₁ (ftA e1 (ftA e2 (ftA e3 (ftA e4 (ftA e5 ft0)))))
          clear F₁
          k_sweep
          walk_at "mine go"
          refine hret _ _ _ _ (by assumption) (news_sub (by assumption) (fun p h => ?_)) ⟨rfl, _, congrArg (fun z => Value.int z _) ?_⟩
          · exact List.mem_cons_of_mem _ (hsub p h)
          · rw [hL, levOut_end]
end
section
open PySem PySem.W PyProof.Rows PySem.Calls PySem.Spec
set_option hygiene false
local macro_rules | `(tactic| walk_at "subscriptTail Name Name ref int") => `(tactic| (k_here; first
  | (with_reducible refine' item_row ?k1 ?k2 ?k3 ?k4 ?k5 ?k6 ?_ hl_name; (case k1 => assumption); (case k2 => k_dflt k_mem); (case k3 => assumption); (case k4 => assumption); (case k5 => assumption); (case k6 => assumption); intro _)
  | (with_reducible refine' item_nat ?k1 ?k2 ?k3 ?k4 ?_ hl_name; (case k1 => assumption); (case k2 => k_dflt k_mem); (case k3 => assumption); (case k4 => assumption))))
local macro_rules | `(tactic| walk_at "subscriptTail Name BinOp ref int") => `(tactic| (k_here; (with_reducible refine' item_row ?k1 ?k2 ?k3 ?k4 ?k5 ?k6 ?_ hl_binop; (case k1 => assumption); (case k2 => k_dflt k_mem); (case k3 => assumption); (case k4 => assumption); (case k5 => assumption); (case k6 => assumption); intro _)))
local macro_rules | `(tactic| walk_at "subscriptTail Name UnaryOp ref int") => `(tactic| (k_here; (with_reducible refine' neg1_led ?k1 ?k2 ?k3 ?k4 ?k5 ?_ hl_unop; (case k1 => assumption); (case k2 => k_dflt k_mem); (case k5 => assumption); (case k3 => assumption); (case k4 => assumption))))
local macro_rules | `(tactic| walk_at "call builtin:min") => `(tactic| (k_here; (with_reducible refine' min3_led (by k_dflt rfl) (by k_dflt assumption) (by k_dflt assumption) ?_); intro _ _ _ _ _; (try k_sweep)))
set_option hygiene true
set_option maxHeartbeats 8000000
noncomputable def farRow (x two : Str) (prev : List Int) (i : Nat) : Nat → List Int
  | 0 => [2 * (i : Int) + 2]
  | j + 1 => farRow x two prev i j ++ [min3 (prev.getD j 0 + subL x (Txt.item two (j : Int))) (prev.getD (j + 1) 0 + 2) ((farRow x two prev i j).getD j 0 + 2)]
noncomputable def row0 (n : Nat) : List Int := (List.range n).map fun (k : Nat) => 2 * (k : Int)
noncomputable def farTab (one two : Str) : Nat → List Int
  | 0 => row0 (two.length + 1)
  | i + 1 => farRow (Txt.item one (i : Int)) two (farTab one two i) i two.length
noncomputable def farL (one two : Str) : Int := (farTab one two one.length).getD two.length 0
theorem farRow_len (x two : Str) (prev : List Int) (i j : Nat) : (farRow x two prev i j).length = j + 1 := by
  induction j with
  | zero => rfl
  | succ j ih => rw [farRow, List.length_append, ih]; rfl
theorem farTab_len (one two : Str) (i : Nat) : (farTab one two i).length = two.length + 1 := by
  cases i with
  | zero => simp [farTab, row0]
  | succ i => rw [farTab, farRow_len]
theorem rowIs_of {vs : List Value} {ks : List Int} (h : IntsAre vs ks) : RowIs vs ks where
  len := h.length
  at_ := fun i hi => by
    obtain ⟨t, e⟩ := h.get i (ks[i]'hi) (List.getElem?_eq_getElem hi)
    exact ⟨t, by rw [e, List.getD_eq_getElem?_getD, List.getElem?_eq_getElem hi]; rfl⟩
theorem row0_eq (n : Nat) : List.map (fun k' => 2 * k') (rangeKs 0 ((n : Int) + 1 - 0).toNat) = row0 (n + 1) := by
  have e : ((n : Int) + 1 - 0).toNat = n + 1 := by omega
  rw [e]
  unfold row0 rangeKs
  rw [List.map_map]
  exact List.map_congr_left fun k _ => by simp
theorem change_0 {x y : Str} (h : (x == y) = true) : subL x y = 0 := by unfold subL; rw [if_pos h]
theorem change_1 {x y : Str} (h : (x == y) = false) (h' : (Txt.lower x == Txt.lower y) = true) : subL x y = 1 := by unfold subL; rw [if_neg (by rw [h]; decide), if_pos h']
theorem change_2 {x y : Str} (h : (x == y) = false) (h' : (Txt.lower x == Txt.lower y) = false) : subL x y = 2 := by unfold subL; rw [if_neg (by rw [h]; decide), if_neg (by rw [h']; decide)]
inductive FaA (x y : Str) (t₁ t₂ : Tok) (T5 : Addr) (news : List (Addr × Obj)) (i : Nat) (m : Str → Option Value) (nx : List (Addr × Obj)) : Prop
  | mk (tvs : List Value) (tn : Nat) (R : Addr) (rvs : List Value) (rn : Nat) (tl : List (Addr × Obj)) (h0 : nx = (T5, listOf tvs.toArray tn) :: tl) (h1 : (∀ p ∈ tl, p.1 ≠ T5)) (h2 : (∀ p ∈ news, p ∈ tl)) (h3 : tvs.length = i + 1) (h4 : tvs[i]? = some (.ref R)) (h5 : (R, listOf rvs.toArray rn) ∈ tl) (h6 : RowIs rvs (farTab x y i)) (h7 : i ≤ x.length) (h8 : m "one" = some (.str x t₁)) (h9 : m "two" = some (.str y t₂)) (h10 : m "table" = some (.ref T5)) : FaA x y t₁ t₂ T5 news i m nx
inductive FaB (x y : Str) (t₁ t₂ : Tok) (T5 W6 I : Addr) (io : Obj) (tvs : List Value) (tn : Nat) (tl : List (Addr × Obj)) (i : Nat) (j : Nat) (m : Str → Option Value) (nx : List (Addr × Obj)) : Prop
  | mk (wvs : List Value) (wn : Nat) (ta tb tc : Tok) (h0 : nx = (W6, listOf wvs.toArray wn) :: (I, io) :: (T5, listOf tvs.toArray tn) :: tl) (h1 : RowIs wvs (farRow (Txt.item x (i : Int)) y (farTab x y i) i j)) (h2 : m "one" = some (.str x t₁)) (h3 : m "two" = some (.str y t₂)) (h4 : m "table" = some (.ref T5)) (h5 : m "i" = some (.int (i : Int) ta)) (h6 : m "row" = some (.ref W6)) : FaB x y t₁ t₂ T5 W6 I io tvs tn tl i j m nx
theorem far_con (w : World) (x y : Str) (t₁ t₂ : Tok) (hx : x.length ≤ 60) (hy : y.length ≤ 60) (news : List (Addr × Obj)) :
    Con w 216 [.str x t₁, .str y t₂] 1 news (fun r news' => (∀ p ∈ news, p ∈ news') ∧ ∃ t, r = .int (farL x y) t) := by
  unfold Con
  intro dp un gd env outer A₀ base h₀ L m mean mg mb hp gs dr tk₀ os Q E B F X N T hf hk hd hu hret
  refine wpAny_call ?_
  (refine' code_def (binds := [("one", .str x t₁), ("two", .str y t₂)]) ?k1 ?k2 ?k3 ?k4 ?k5 ?kA ?kF ?kK ?k6 ?k7 ?k8 ?k9 ?kB ?_ ?c2 ?c3 ?c4 ?c5; (case kA => exact rfl); (case kF => assumption); (case kK => assumption); (case k1 => k_asm); (case k2 => k_asm); (case k3 => k_asm); (case k4 => k_asm); (case k5 => k_asm); (case k6 => k_is); (case k7 => k_is); (case k8 => ktr_room); (case k9 => exact BindsTo.of_eq rfl); (case c5 => decide); (case kB => exact locs rfl); (case c2 => exact rfl); (case c3 => exact rfl); (case c4 => exact rfl); k_whole; intro g' L' h' FG' F' N' B' X' T'; (try dsimp only); (try k_fold))
  k_with_none
  w_top off
  walk_at "mine go"
  rename_i D5 _ _ o5 T5 _ l5 _ _ _ hh tkk t1 u1 v1 aR aF aN aK
  have hR0 : RowIs ys (farTab x y 0) := by
    have q := rowIs_of (by assumption : IntsAre ys _)
    rw [row0_eq] at q
    exact q
  have hTn : ∀ p ∈ (D5, LCg.lst ys) :: news, p.1 ≠ T5 := by
    exact alC (Nat.ne_of_lt l5.1) (fun p hp => Nat.ne_of_lt (allLt_m l5.2 _ hp))
  refine for_rng0 (FaA x y t₁ t₂ T5 news) rfl (by assumption) (by omega) (by assumption) (by assumption) ?_ ?_ ?_
  · exact ⟨_, _, D5, ys, _, _, rfl, hTn, fun p hp => .tail _ hp, rfl, rfl, .head _, hR0, Nat.zero_le _, rfl, rfl, rfl⟩
  · rintro i ti m₁ nx I io h₁ tk₁ W1 hW1 hi ⟨tvs, tn, R, rvs, rn, tl, rfl, hoT, hsub, htl, htR, hRm, hRow, hix, e1, e2, e3⟩ off F₁ N₁
    replace F₁ : Fr g' L' _ _ := F₁
    replace N₁ : News g' L' _ _ := N₁
    have hIT : I ≠ T5 := fun e => off _ (.head _) e.symm
    have F₂ := frTopC "i" (.int (i : Int) ti) [("one", .str x t₁), ("two", .str y t₂), ("table", .ref T5)] F₁ (ftA e1 (ftA e2 (ftA e3 ft0)))
    clear F₁
    k_sweep
    walk_at "mine go"
    rename_i W6 _ l6 _ _ _ hh6 tkk6 t6 u6 v6 bR bF bN bK
    have hWT : W6 ≠ T5 := Nat.ne_of_gt l6.2.1
    have hWI : W6 ≠ I := Nat.ne_of_gt l6.1
    have hWtl : ∀ p ∈ tl, p.1 ≠ W6 := fun p hp => Nat.ne_of_lt (allLt_m l6.2.2 _ hp)
    have hfl := farTab_len x y i
    have hq0 : ((i : Nat) : Int).toNat = i := by omega
    refine for_rng0 (FaB x y t₁ t₂ T5 W6 I io tvs tn tl i) rfl (by assumption) (by omega) (by assumption) (by assumption) ?_ ?_ ?_
    · exact ⟨_, _, _, 0, 0, rfl, RowIs.snoc (vs := []) (ks := []) ⟨rfl, fun i h => absurd h (Nat.not_lt_zero _)⟩, rfl, rfl, rfl, rfl, rfl⟩
    · rintro j tj m₂ nx I2 io2 h₂ tk₂ W2 hW2 hj ⟨wvs, wn, ta, tb, tc, rfl, hW, f1, f2, f3, f4, f5⟩ off2 F₁ N₁
      replace F₁ : Fr g' L' _ _ := F₁
      replace N₁ : News g' L' _ _ := N₁
      have hI2W : I2 ≠ W6 := fun e => off2 _ (.head _) e.symm
      have hwl := hW.len
      rw [farRow_len] at hwl
      have hit : (Txt.item x (i : Int)).length = 1 := rfl
      have hit2 : (Txt.item y (j : Int)).length = 1 := rfl
      have hfw := farRow_len (Txt.item x (i : Int)) y (farTab x y i) i j
      have g1 : (0 : Int) ≤ (j : Int) := by omega
      have g2 : (j : Int) < ((farTab x y i).length : Int) := by omega
      have g3 : (farTab x y i).length ≤ 1000 := by omega
      have g4 : (0 : Int) ≤ (j : Int) + 1 := by omega
      have g5 : (j : Int) + 1 < ((farTab x y i).length : Int) := by omega
      have g6 : (j : Int) < ((farRow (Txt.item x (i : Int)) y (farTab x y i) i j).length : Int) := by omega
      have g7 : (farRow (Txt.item x (i : Int)) y (farTab x y i) i j).length ≤ 1000 := by omega
      have g8 : i ≤ 10000 := by omega
      have F₂ := frTopC "j" (.int (j : Int) tj) [("one", .str x t₁), ("two", .str y t₂), ("table", .ref T5), ("i", .int (i : Int) ta), ("row", .ref W6)] F₁ (ftA f1 (ftA f2 (ftA f3 (ftA f4 (ftA f5 ft0)))))
      clear F₁
      k_sweep
      walk_at "mine go"
      all_goals (
        refine hW2 _ _ ?_
        refine turnEd (by assumption) (by assumption) ((W6, listOf _ _) :: (I, io) :: (T5, listOf tvs.toArray tn) :: tl) (fun p hp => hp) ?_ ⟨_, _, ta, tb, tc, rfl, ?_, rfl, rfl, rfl, rfl, rfl⟩
        · exact alC (hI2W.symm) (fun p hp => off2 _ (.tail _ hp))
        · rw [farRow]
          first
            | rw [change_0 (by assumption)]
            | rw [change_1 (by assumption) (by assumption)]
            | rw [change_2 (by assumption) (by assumption)]
          exact RowIs.snoc hW)
    · rintro m₂ nx h₂ tk₂ ⟨wvs, wn, ta, tb, tc, rfl, hW, f1, f2, f3, f4, f5⟩ F₁ N₁
      replace F₁ : Fr g' L' _ _ := F₁
      replace N₁ : News g' L' _ _ := N₁
      have F₂ := frTop [("one", .str x t₁), ("two", .str y t₂), ("table", .ref T5), ("i", .int (i : Int) ta), ("row", .ref W6)] F₁ (ftA f1 (ftA f2 (ftA f3 (ftA f4 (ftA f5 ft0)))))
      clear F₁
      k_sweep
      walk_at "mine go"
      refine hW1 _ _ ?_
      refine turnEd (by assumption) (by assumption) ((T5, listOf _ _) :: (W6, listOf wvs.toArray wn) :: tl) ?_ ?_ ⟨tvs ++ [Value.ref W6], tn + 1, W6, wvs, wn, (W6, listOf wvs.toArray wn) :: tl, rfl, ?_, ?_, ?_, ?_, .head _, hW, hi, rfl, rfl, rfl⟩
      · exact alC (.tail _ (.head _)) (alC (.tail _ (.tail _ (.head _))) (alC (.head _) (fun p hp => .tail _ (.tail _ (.tail _ hp)))))
      · exact alC (hIT.symm) (alC (hWI) (fun p hp => off _ (.tail _ hp)))
      · exact alC (hWT) (fun p hp => hoT p hp)
      · exact fun p hp => List.mem_cons_of_mem _ (hsub p hp)
      · rw [List.length_append, htl]; rfl
      · rw [← htl, List.getElem?_concat_length]
  · rintro m₁ nx h₁ tk₁ ⟨tvs, tn, R, rvs, rn, tl, rfl, hoT, hsub, htl, htR, hRm, hRow, hix, e1, e2, e3⟩ F₁ N₁
    replace F₁ : Fr g' L' _ _ := F₁
    replace N₁ : News g' L' _ _ := N₁
    have hrl := hRow.len
    rw [farTab_len] at hrl
    obtain ⟨tz, hz⟩ := hRow.at_ y.length (by rw [farTab_len]; omega)
    have q1 : tvs[tvs.length - 1]? = some (.ref R) := by rw [htl]; exact htR
    have q2 : rvs[rvs.length - 1]? = some (.int (farL x y) tz) := by rw [hrl]; exact hz
    have q3 : 0 < tvs.length := by omega
    have q4 : 0 < rvs.length := by omega
    have q5 : tvs.length ≤ 10000 := by omega
    have q6 : rvs.length ≤ 10000 := by omega
    have F₂ := frTop [("table", .ref T5)] F₁ (ftA e3 ft0)
    clear F₁
    k_sweep
    walk_at "mine go"
    refine hret _ _ _ _ (by assumption) (by assumption) ⟨fun p hp => .tail _ (hsub p hp), _, rfl⟩
end
end
section
open PySem PySem.W PyProof.Rows PySem.Calls PySem.Spec
set_option hygiene false
local macro_rules | `(tactic| walk_at "call builtin:str.split") => `(tactic| (k_here; (with_reducible refine' split_led (by k_dflt assumption) (by k_dflt assumption) (by k_dflt rfl) (by k_dflt omega) ?_); intro _ _ _ _ _ _ _ _; (try k_sweep)))
local macro_rules | `(tactic| walk_at "call builtin:str.join") => `(tactic| (k_here; (with_reducible refine' sjoin_led (by k_dflt assumption) (by k_dflt k_mem) (by k_dflt assumption) (by k_dflt (exact Nat.le_of_ble_eq_true rfl)) (by k_dflt omega) ?_); intro _ _ _))
local macro_rules | `(tactic| walk_at "call builtin:list.append") => `(tactic| (k_here; (with_reducible show wpAny _ _ (call (Value.builtin _) [Value.ref _, Value.str _ _]) _ _ _); (with_reducible refine' append_txt (by k_dflt assumption) (by k_dflt assumption) (by k_dflt k_upd) (by k_dflt assumption) (by k_dflt omega) ?_); intro _ _ _ _; (try k_sweep)))
local macro_rules | `(tactic| walk_at "call builtin:list.pop") => `(tactic| (k_here; (with_reducible refine' pop_txt ?k1 ?k2 ?k3 ?k4 ?k5 ?k6 ?_); (case k1 => assumption); (case k2 => assumption); (case k4 => k_dflt k_upd); (case k6 => assumption); (case k3 => k_dflt omega); (case k5 => k_dflt omega); intro _ _ _ _ _; (try k_sweep)))
local macro_rules | `(tactic| walk_at "subscriptTail Name UnaryOp ref int") => `(tactic| (k_here; (with_reducible refine' last_txt (by k_dflt assumption) (by k_dflt k_mem) (by k_dflt assumption) (by k_dflt omega) (by k_dflt omega) ?_ hl_unop); intro _))

set_option hygiene true
section
open PySem PySem.W PyProof.Rows PySem.Calls PySem.Spec PySem.NumText PySem.W.KIN
noncomputable def partsT : List Str := [Str.ofString "a", Str.ofString "b", Str.ofString "aB", Str.ofString "BB", Str.ofString "..", Str.ofString ".", Str.ofString "", Str.ofString "Aab"]
noncomputable def figs (k : Int) : List Nat := (Nat.toDigits 10 (k.natAbs % 1000)).map Char.toNat
noncomputable def figT (c : Nat) : Str := partsT.getD ((c - 48) % 8) (Str.ofString "")
noncomputable def partsOf (k : Int) : List Str := (figs k).map figT
noncomputable def askL (k : Int) : Str := Str.ofString "/./" ++ Txt.join (Str.ofString "/") (partsOf k)
noncomputable def asksL (ks : List Int) : List Str := [Str.ofString "/aB/./ba/AAB", Str.ofString "/B/x/../A"] ++ ks.map askL
noncomputable def numT (k : Int) : Str := Str.ofString (toString ((if k < 0 then -k else k).fmod 1000))
theorem numT_cps (k : Int) : (numT k).cps.toList = figs k := by
  have e : (if k < 0 then -k else k).fmod 1000 = ((k.natAbs % 1000 : Nat) : Int) := by
    have e1 : (if k < 0 then -k else k) = ((k.natAbs : Nat) : Int) := by split <;> omega
    rw [e1, Int.fmod_eq_emod_of_nonneg _ (by decide)]
    rfl
  unfold numT figs
  rw [e]
  exact signs_num _
theorem figs_all : ∀ m, m < 1000 → (((Nat.toDigits 10 m).map Char.toNat).all (fun c => 48 ≤ c && c ≤ 57) && decide (((Nat.toDigits 10 m).map Char.toNat).length ≤ 3)) = true := by decide +kernel
theorem figs_digit {k : Int} {c : Nat} (h : c ∈ figs k) : 48 ≤ c ∧ c ≤ 57 := by
  have q := (Bool.and_eq_true_iff.mp (figs_all (k.natAbs % 1000) (Nat.mod_lt _ (by decide)))).1
  have q2 := List.all_eq_true.mp q c h
  simpa using q2
theorem figs_len (k : Int) : (figs k).length ≤ 3 := by
  have q := (Bool.and_eq_true_iff.mp (figs_all (k.natAbs % 1000) (Nat.mod_lt _ (by decide)))).2
  exact of_decide_eq_true q
theorem figT_len (c : Nat) : (figT c).length ≤ 3 := by
  have h : ∀ i, i < 8 → (partsT.getD i (Str.ofString "")).length ≤ 3 := by decide
  exact h _ (Nat.mod_lt _ (by decide))
theorem int_fig {c : Nat} (h : 48 ≤ c ∧ c ≤ 57) : PySem.intText? ⟨#[c]⟩ = some (((c - 48 : Nat)) : Int) := by
  have q := intText_digits (x := ⟨#[c]⟩) (fun d hd => by
    have e : d = c := by simpa using hd
    rw [e]; exact h) (by simp) (by show (1 : Nat) ≤ 4300; decide)
  rw [q]
  show some ((digitsVal [c] : Nat) : Int) = _
  have e : digitsVal [c] = c - 48 := by
    show 0 * 10 + (c - 48) = _
    omega
  rw [e]
theorem fmod8 (m : Nat) : (((m : Nat) : Int).fmod 8).toNat = m % 8 := by
  rw [Int.fmod_eq_emod_of_nonneg _ (by decide)]
  omega
theorem parts_sum (k : Int) : ((partsOf k).map (·.length)).sum ≤ 9 := by
  unfold partsOf
  have h := figs_len k
  have q : ∀ l : List Nat, ((l.map figT).map (·.length)).sum ≤ 3 * l.length := by
    intro l
    induction l with
    | nil => exact Nat.zero_le _
    | cons c r ih =>
      have := figT_len c
      simp only [List.map_cons, List.sum_cons, List.length_cons]
      omega
  have := q (figs k)
  omega
set_option hygiene false
local macro_rules | `(tactic| walk_at "eval ListComp") => `(tactic| (k_here; first
  | ((with_reducible show wpAny _ _ (eval (Expr.ListComp _ [⟨_, Expr.Call (Expr.Name (Str.ofString "str") _) _ _ _, _, _⟩] _ _) _) _ _ _); k_dflt (refine ListComp_txt (by k_asm) (by with_unfolding_all rfl) (by decide) (by rfl) (by decide) (by rfl) ?_))
  | k_dflt (refine LCg.ListComp_U (F₀ := by k_asm) (by with_unfolding_all rfl) (by decide) (by rfl) (by decide) (by rfl) ?_)))
local macro_rules | `(tactic| walk_at "call type:int") => `(tactic| (k_here; (with_reducible refine' call_text (by k_dflt assumption) (by k_dflt assumption) ?_)))
local macro_rules | `(tactic| walk_at "subscriptTail Name BinOp ref int") => `(tactic| (k_here; (with_reducible refine' item_led (by k_dflt assumption) (by k_dflt k_mem) (by k_dflt assumption) (by k_dflt assumption) (by k_dflt assumption) ?_ hl_binop)))
local macro_rules | `(tactic| walk_at "binaryOp Add ref ref") => `(tactic| (k_here; (with_reducible refine' add_led (by k_dflt assumption) (by k_dflt assumption) (by k_dflt k_mem) (by k_dflt k_mem) (by k_dflt assumption) ?_); intro _ _ _ _ _; (try k_sweep)))
set_option hygiene true
set_option maxHeartbeats 8000000
theorem asks_con (w : World) (l : Addr) (vs : List Value) (n : Nat) (ks : List Int) (hR : RowIs vs ks) (hk : ks.length ≤ 4) (news : List (Addr × Obj)) (hm : (l, listOf vs.toArray n) ∈ news) :
    Con w 204 [.ref l] 1 news (fun r news' => (∀ p ∈ news, p ∈ news') ∧ ∃ D dvs dn, r = .ref D ∧ (D, listOf (List.toArray dvs) dn) ∈ news' ∧ TxtIs dvs (asksL ks)) := by
  unfold Con
  intro dp un gd env outer A₀ base h₀ L m mean mg mb hp gs dr tk₀ os Q E B F X N T hf hk hd hu hret
  refine wpAny_call ?_
  (refine' code_defC (binds := [("numbers", .ref l)]) ?k1 ?k2 ?k3 ?k4 ?k5 ?kA ?kF ?kK ?k6 ?k7 ?k8 ?k9 ?kB ?kD ?_ ?c2 ?c3 ?c4; (case kA => exact rfl); (case kF => assumption); (case kK => assumption); (case k1 => k_asm); (case k2 => k_asm); (case k3 => k_asm); (case k4 => k_asm); (case k5 => k_asm); (case k6 => k_is); (case k7 => k_is); (case k8 => ktr_room); (case k9 => exact BindsTo.of_eq rfl); (case kB => exact rfl); (case kD => decide +kernel); (case c2 => exact rfl); (case c3 => exact rfl); (case c4 => exact rfl); k_whole; intro g' L' h' tk' cells' FG' F' N' Y' B' X' T' lc1; k_cells Y'; (try simp only [List.cons_append, List.nil_append] at N'); (try dsimp only); (try k_fold))
  k_with_none
  w_top off
  have hcn : ∀ p ∈ news, p.1 ≠ L' + 1 := fun p hp => Nat.ne_of_lt (Nat.lt_succ_of_lt (lc1 p hp))
  walk_at "mine go"
  rename_i P6 _ l6 _ oC dC A7 hh7 F7 N7 l7
  have hP : TxtIs _ partsT := ⟨[(Str.ofString "a", tk'), (Str.ofString "b", tk' + 1), (Str.ofString "aB", tk' + 1 + 1), (Str.ofString "BB", tk' + 1 + 1 + 1), (Str.ofString "..", tk' + 1 + 1 + 1 + 1), (Str.ofString ".", tk' + 1 + 1 + 1 + 1 + 1), (Str.ofString "", tk' + 1 + 1 + 1 + 1 + 1 + 1), (Str.ofString "Aab", tk' + 1 + 1 + 1 + 1 + 1 + 1 + 1)], rfl, rfl⟩
  obtain ⟨pvs, hpv⟩ : ∃ pvs : List Value, pvs = strValues [(Str.ofString "a", tk'), (Str.ofString "b", tk' + 1), (Str.ofString "aB", tk' + 1 + 1), (Str.ofString "BB", tk' + 1 + 1 + 1), (Str.ofString "..", tk' + 1 + 1 + 1 + 1), (Str.ofString ".", tk' + 1 + 1 + 1 + 1 + 1), (Str.ofString "", tk' + 1 + 1 + 1 + 1 + 1 + 1), (Str.ofString "Aab", tk' + 1 + 1 + 1 + 1 + 1 + 1 + 1)] := ⟨_, rfl⟩
  rw [← hpv] at hP
  replace N7 : News g' L' hh7 ((A7, W.listOf (List.toArray [Value.str (Str.ofString "/aB/./ba/AAB") tk, Value.str (Str.ofString "/B/x/../A") (tk + 1)]) 0) :: (P6, W.listOf (List.toArray pvs) 0) :: (L' + 1, oC) :: news) := by rw [hpv]; exact N7
  obtain ⟨nx0, hnx0⟩ : ∃ nx0, nx0 = ((A7, W.listOf (List.toArray [Value.str (Str.ofString "/aB/./ba/AAB") tk, Value.str (Str.ofString "/B/x/../A") (tk + 1)]) 0) :: (P6, W.listOf (List.toArray pvs) 0) :: (L' + 1, oC) :: news) := ⟨_, rfl⟩
  have hlen := hR.len
  have d1 : (L' + 1, oC) ∈ nx0 := by rw [hnx0]; exact List.mem_cons_of_mem _ (List.mem_cons_of_mem _ List.mem_cons_self)
  have d2 : (P6, W.listOf (List.toArray pvs) 0) ∈ nx0 := by rw [hnx0]; exact List.mem_cons_of_mem _ List.mem_cons_self
  have d3 : (A7, W.listOf (List.toArray [Value.str (Str.ofString "/aB/./ba/AAB") tk, Value.str (Str.ofString "/B/x/../A") (tk + 1)]) 0) ∈ nx0 := by rw [hnx0]; exact List.mem_cons_self
  have d4 : (l, listOf vs.toArray n) ∈ nx0 := by rw [hnx0]; exact List.mem_cons_of_mem _ (List.mem_cons_of_mem _ (List.mem_cons_of_mem _ hm))
  have d5 : ∀ p ∈ news, p ∈ nx0 := by rw [hnx0]; exact fun p hp => List.mem_cons_of_mem _ (List.mem_cons_of_mem _ (List.mem_cons_of_mem _ hp))
  rw [← hnx0] at N7
  clear hnx0 l7 l6 hpv
  refine LCg.CompSrc.ledger rfl F7 N7 d4 (by rw [List.size_toArray, sizeLine_eq]; omega) ?_
  intro g9
  refine comp_ledS ⟨_, _, rfl⟩ (n := vs.toArray.size) (fun i ys nx => nx = nx0 ∧ TxtIs ys ((ks.take i).map askL)) ?_ ?_ ⟨rfl, TxtIs.nil⟩
  · rintro i ys nx v I oI C oC9 D m₂ h tk9 E' hi ⟨rfl, hT⟩ hv hC hx9 F9 N9 off9 ne9
    obtain ⟨t9, ev⟩ := hR.at_ i (by rw [List.size_toArray] at hi; omega)
    rw [show vs.toArray[i]? = vs[i]? by simp, ev] at hv
    injection hv with hv
    subst hv
    obtain ⟨z, hz⟩ : ∃ z, ks.getD i 0 = z := ⟨_, rfl⟩
    rw [hz] at ev hx9
    clear F7 N7
    walk_at "mine go"
    refine ⟨numT z, _, _, rfl, rfl, F9, N9, ?_, ?_⟩
    · have q := figs_len z
      rw [← numT_cps, Array.length_toList] at q
      rw [sizeLine_eq]; omega
    rintro s₂ ⟨g2, rfl⟩
    obtain ⟨nx2, hnx2⟩ : ∃ nx2, nx2 = ((I, oI) :: (C, oC9) :: (D, LCg.lst ys) :: nx) := ⟨_, rfl⟩
    rw [← hnx2]
    have hfl : (numT z).cps.size = (figs z).length := by rw [← numT_cps, Array.length_toList]
    rw [hfl]
    refine comp_ledS ⟨_, _, rfl⟩ (n := (figs z).length) (fun j ys2 nx' => nx' = nx2 ∧ TxtIs ys2 (((figs z).take j).map figT)) ?_ ?_ ⟨rfl, TxtIs.nil⟩
    · rintro j ys2 nx' v I2 oI2 C2 oC2 D2 m₃ h2 tk2 E2 hj ⟨rfl, hT2⟩ hv2 hC2 hx2 F9 N9 off2 ne2
      have e1 : (L' + 1, oC) ∈ nx' := by rw [hnx2]; exact List.mem_cons_of_mem _ (List.mem_cons_of_mem _ (List.mem_cons_of_mem _ d1))
      have e2 : (P6, W.listOf (List.toArray pvs) 0) ∈ nx' := by rw [hnx2]; exact List.mem_cons_of_mem _ (List.mem_cons_of_mem _ (List.mem_cons_of_mem _ d2))
      obtain ⟨c, u2, ec, rfl⟩ := hv2
      have ec2 : (figs z)[j]? = some c := by rw [← numT_cps, Array.getElem?_toList]; exact ec
      have hcd := figs_digit (List.mem_of_getElem? ec2)
      have i1 := int_fig hcd
      have i2 : (⟨#[c]⟩ : Str).length ≤ 640 := by show (1 : Nat) ≤ 640; decide
      obtain ⟨tp, i3⟩ := hP.get (i := (c - 48) % 8) (Nat.mod_lt _ (by decide))
      rw [← fmod8] at i3
      have i4 : (0 : Int) ≤ (((c - 48 : Nat)) : Int).fmod 8 := by rw [Int.fmod_eq_emod_of_nonneg _ (by decide)]; omega
      have i5 : (((c - 48 : Nat)) : Int).fmod 8 < 2 ^ 63 := by rw [Int.fmod_eq_emod_of_nonneg _ (by decide)]; omega
      walk_at "mine go"
      refine LCg.CompEnd.intro F9 N9 nx' (fun p hp => hp) off2 trivial ⟨rfl, ?_⟩
      have et : (figs z).take (j + 1) = (figs z).take j ++ [c] := by rw [List.take_add_one, ec2]; rfl
      have ef : figT c = partsT.getD ((((c - 48 : Nat)) : Int).fmod 8).toNat (Str.ofString "") := by unfold figT; rw [fmod8]
      rw [et, List.map_append]
      show TxtIs _ (_ ++ [figT c])
      rw [ef]
      exact hT2.snoc
    · rintro ys2 nx' ⟨rfl, hT2⟩
      rw [List.take_length] at hT2
      replace hT2 : TxtIs ys2 (partsOf z) := hT2
      unfold LCg.FinE
      intro D3 h3 tk3 F3 N3 o3
      have hps := parts_sum z
      have hpl : (partsOf z).length ≤ 3 := by unfold partsOf; rw [List.length_map]; exact figs_len z
      replace N3 : News g' L' h3 ((D3, W.listOf (List.toArray ys2) ys2.length) :: nx') := N3
      have s1 : (Str.ofString "/./").length = 3 := rfl
      clear F9 N9
      walk_at "mine go"
      refine LCg.CompEnd.intro F3 N3 nx (by rw [hnx2]; exact fun p hp => List.mem_cons_of_mem _ hp) off9 (.inr ⟨_, d4, rfl, _, rfl⟩) ⟨rfl, ?_⟩
      have hi' : i < ks.length := by rw [List.size_toArray] at hi; omega
      have et : ks.take (i + 1) = ks.take i ++ [z] := by
        rw [List.take_add_one, ← hz, List.getD_eq_getElem?_getD, List.getElem?_eq_getElem hi']
        rfl
      rw [et, List.map_append]
      exact hT.snoc
  · rintro ys nx ⟨rfl, hT⟩
    rw [List.size_toArray, hlen, List.take_length] at hT
    unfold LCg.FinE
    intro D3 h3 tk3 F3 N3 o3
    replace N3 : News g' L' h3 ((D3, W.listOf (List.toArray ys) ys.length) :: nx) := N3
    have hyl := hT.len
    rw [List.length_map] at hyl
    have q1 : ([Value.str (Str.ofString "/aB/./ba/AAB") tk, Value.str (Str.ofString "/B/x/../A") (tk + 1)] : List Value).length + ys.length ≤ 10000 := by simp only [List.length_cons, List.length_nil]; omega
    clear F7 N7
    walk_at "mine go"
    refine hret _ _ _ _ (by assumption) (by assumption) ⟨fun p hp => .tail _ (.tail _ (d5 p hp)), _, _, _, rfl, .head _, TxtIs.append ⟨[(Str.ofString "/aB/./ba/AAB", tk), (Str.ofString "/B/x/../A", tk + 1)], rfl, rfl⟩ hT⟩
end
section
open PySem PySem.W PyProof.Rows PySem.Calls PySem.Spec
set_option maxHeartbeats 8000000
noncomputable def normStep (acc : List Str) (c : Str) : List Str :=
  if c.length = 0 then acc else if (c == Str.ofString ".") = true then acc else if (c != Str.ofString "..") = true then acc ++ [c] else
  if 0 < acc.length then (if (acc.getD (acc.length - 1) (Str.ofString "") == Str.ofString "..") = true then acc ++ [c] else acc.dropLast) else acc
noncomputable def normAcc (xs : List Str) : List Str := xs.foldl normStep []
noncomputable def normL (x : Str) : Str := Str.ofString "/" ++ Txt.join (Str.ofString "/") (normAcc (Txt.split (restL x) (Str.ofString "/")))
theorem take_step {xs : List Str} {i : Nat} (h : i < xs.length) : normAcc (xs.take (i + 1)) = normStep (normAcc (xs.take i)) (xs.getD i (Str.ofString "")) := by
  unfold normAcc
  rw [List.take_add_one, List.getElem?_eq_getElem h, List.foldl_append, List.getD_eq_getElem?_getD, List.getElem?_eq_getElem h]
  rfl
theorem sum_le : ∀ l : List Str, (∀ a ∈ l, a.length ≤ 100) → (l.map (·.length)).sum ≤ 100 * l.length := by
  intro l
  induction l with
  | nil => intro _; simp
  | cons a r ih =>
    intro h
    have h1 := h a (.head _)
    have h2 := ih fun b hb => h b (.tail _ hb)
    simp only [List.map_cons, List.sum_cons, List.length_cons]
    omega
theorem allLt_mem {d : Nat} {l : List (Addr × Obj)} (h : AllLt d l) : ∀ p ∈ l, @LT.lt Nat _ p.1 d := by
  induction l with
  | nil => intro p hp; exact absurd hp List.not_mem_nil
  | cons q r ih =>
    intro p hp
    rcases List.mem_cons.mp hp with e | hp
    · rw [e]; exact h.1
    · exact ih h.2 p hp
inductive NoA (ln D5 D9 : Addr) (vs5 : List Value) (re9 : Str) (t91 t92 t93 : Tok) (xs : List Str) (news : List (Addr × Obj)) (i : Nat) (m : Str → Option Value) (nx : List (Addr × Obj)) : Prop
  | mk (nv : List Value) (nc : Nat) (acc : List Str) (t1 t2 t3 t4 : Tok) (h0 : nx = (ln, listOf nv.toArray nc) :: (D5, listOf vs5.toArray 0) :: (D9, ({ cls := .type "tuple", data := .seq #[.str (Str.ofString "") t91, .str (Str.ofString "/") t92, .str re9 t93] } : Obj)) :: news) (h1 : TxtIs nv acc) (h2 : acc.length ≤ i) (h3 : (∀ a ∈ acc, a.length ≤ 100)) (h4 : acc = normAcc (xs.take i)) (h5 : i ≤ xs.length) (h6 : m "sep" = some (.str (Str.ofString "/") t1)) (h7 : m "dot" = some (.str (Str.ofString ".") t2)) (h8 : m "dotdot" = some (.str (Str.ofString "..") t3)) (h9 : m "initial_slashes" = some (.str (Str.ofString "/") t4)) (h10 : m "new_comps" = some (.ref ln)) : NoA ln D5 D9 vs5 re9 t91 t92 t93 xs news i m nx
theorem norm_con (w : World) (x : Str) (hx : 0 < x.length ∧ x.length ≤ 500) (hrl : rootL x = Str.ofString "/") (hre : (restL x).length ≤ 500) (hsp : (Txt.split (restL x) (Str.ofString "/")).length ≤ 100) (hw : ∀ a ∈ Txt.split (restL x) (Str.ofString "/"), a.length ≤ 100) (t₁ : Tok) (news : List (Addr × Obj)) :
    Con w 185 [.str x t₁] 3 news (fun r news' => (∃ n1 n2 n3, news' = n1 :: n2 :: n3 :: news) ∧ ∃ t, r = .str (normL x) t) := by
  unfold Con
  intro dp un gd env outer A₀ base h₀ L m mean mg mb hp gs dr tk₀ os Q E B F X N T hf hk hd hu hret
  refine wpAny_call ?_
  (refine' code_def (binds := [("path", .str x t₁)]) ?k1 ?k2 ?k3 ?k4 ?k5 ?kA ?kF ?kK ?k6 ?k7 ?k8 ?k9 ?kB ?_ ?c2 ?c3 ?c4 ?c5; (case kA => exact rfl); (case kF => assumption); (case kK => assumption); (case k1 => k_asm); (case k2 => k_asm); (case k3 => k_asm); (case k4 => k_asm); (case k5 => k_asm); (case k6 => k_is); (case k7 => k_is); (case k8 => ktr_room); (case k9 => exact BindsTo.of_eq rfl); (case c5 => decide); (case kB => exact locs rfl); (case c2 => exact rfl); (case c3 => exact rfl); (case c4 => exact rfl); k_whole; intro g' L' h' FG' F' N' B' X' T'; (try dsimp only); (try k_fold))
  k_with_none
  w_top off
  k_with "CALL" => (first
    | (refine' Con.useA (fspath_con _ _ _ _) ?_; (intro r9 h9 tk9 n9 F9 N9 P9); (obtain ⟨e8, e9⟩ := P9; replace e8 := e8.symm; subst e8; subst e9); (try k_sweep); (try dsimp only); (try k_fold))
    | (refine' Con.useA (splitroot_con _ _ (by omega) _ _) ?_; (intro r9 h9 tk9 n9 F9 N9 P9); (obtain ⟨D9, t91, t92, t93, ro9, re9, hro9, hre9, e7, l9, e8⟩ := P9; subst e8; subst e7); (try k_sweep); (try dsimp only); (try k_fold)))
  walk_at "mine go"
  rotate_left
  · omega
  rw [hrl] at hro9
  subst hro9
  rw [← hre9] at hre hsp hw
  have hs1 : (Str.ofString "/").length = 1 := rfl
  walk_at "mine go"
  refine For_invV g' rfl rfl ?_
  walk_at "mine go"
  rename_i D5 vs5 h5 tk5 R5 l5 hh2 ln hh1 l1 hh0 F5 N5
  obtain ⟨xs, hxs⟩ : ∃ xs, Txt.split re9 (Str.ofString "/") = xs := ⟨_, rfl⟩
  rw [hxs] at R5 hsp hw
  have hln1 : ln ≠ D5 := Nat.ne_of_gt l1.1
  have hln2 : ln ≠ D9 := Nat.ne_of_gt l1.2.1
  have hlen := R5.len
  refine for_led (vs := vs5) (NoA ln D5 D9 vs5 re9 t91 t92 t93 xs news) rfl (by assumption) (by assumption) (.tail _ (.head _)) ?_ ?_ ?_ ?_
  · exact ⟨[], 0, [], _, _, _, _, rfl, TxtIs.nil, Nat.zero_le _, (fun _ h => nomatch h), rfl, Nat.zero_le _, rfl, rfl, rfl, rfl, rfl⟩
  · rintro i m nx ⟨nv, nc, acc, t1, t2, t3, t4, rfl, _⟩; exact .tail _ (.head _)
  · rintro i v m₁ nx I io h₁ tk₁ W1 hW1 hv ⟨nv, nc, acc, t1, t2, t3, t4, rfl, hR, hl, hb, hacc, hi, e1, e2, e3, e4, e5⟩ off F₁ N₁
    replace F₁ : Fr g' L' _ _ := F₁
    replace N₁ : News g' L' _ _ := N₁
    obtain ⟨tc, rfl, hi2⟩ := R5.at_ hv
    have hst := take_step hi2
    rw [← hacc] at hst
    have hcl : (xs.getD i (Str.ofString "")).length ≤ 100 := hw _ (by rw [List.getD_eq_getElem?_getD, List.getElem?_eq_getElem hi2]; exact List.getElem_mem hi2)
    obtain ⟨cmp, hc⟩ : ∃ cmp, xs.getD i (Str.ofString "") = cmp := ⟨_, rfl⟩
    rw [hc] at hst hcl F₁
    have hI1 : I ≠ ln := fun e => off _ (.head _) e.symm
    have hnl := hR.len
    have hal : ∀ p ∈ (D5, listOf vs5.toArray 0) :: (D9, ({ cls := .type "tuple", data := .seq #[.str (Str.ofString "") t91, .str (Str.ofString "/") t92, .str re9 t93] } : Obj)) :: news, p.1 ≠ ln := by
      exact alC (hln1.symm) (alC (hln2.symm) (fun p hp => Nat.ne_of_lt (allLt_mem l1.2.2 _ hp)))
    have F₂ := frTopC "comp" (.str cmp tc) [("sep", .str (Str.ofString "/") t1), ("dot", .str (Str.ofString ".") t2), ("dotdot", .str (Str.ofString "..") t3), ("initial_slashes", .str (Str.ofString "/") t4), ("new_comps", .ref ln)] F₁ (ftA e1 (ftA e2 (ftA e3 (ftA e4 (ftA e5 ft0)))))
    clear F₁
    k_sweep
    walk_at "mine go"
    all_goals try omega
    all_goals (
      refine hW1 _ _ ?_
      refine turnEd (by assumption) (by assumption) ((ln, listOf _ _) :: (D5, listOf vs5.toArray 0) :: (D9, ({ cls := .type "tuple", data := .seq #[.str (Str.ofString "") t91, .str (Str.ofString "/") t92, .str re9 t93] } : Obj)) :: news) (fun p hp => hp) ?_ ⟨_, _, _, t1, t2, t3, t4, rfl, by assumption, ?_, ?_, ?_, hi2, rfl, rfl, rfl, rfl, rfl⟩
      · exact alC (hI1.symm) (fun p hp => off _ (.tail _ hp))
      · first | omega | (simp only [List.length_append, List.length_dropLast, List.length_cons, List.length_nil]; omega)
      · first
          | exact hb
          | exact fun a ha => hb a (List.dropLast_subset _ ha)
          | (intro a ha
             rcases List.mem_append.mp ha with ha | ha
             · exact hb a ha
             · rw [List.mem_singleton.mp ha]; exact hcl)
      · rw [hst]
        unfold normStep
        repeat' split
        all_goals first
          | rfl
          | contradiction
          | omega
          | exact (Bool.noConfusion ((by assumption : (cmp == Str.ofString ".") = true).symm.trans (by assumption : (cmp == Str.ofString ".") = false)))
          | exact (Bool.noConfusion ((by assumption : (cmp != Str.ofString "..") = true).symm.trans (by assumption : (cmp != Str.ofString "..") = false)))
          | exact (Bool.noConfusion ((by assumption : (acc.getD (acc.length - 1) (Str.ofString "") == Str.ofString "..") = true).symm.trans (by assumption : (acc.getD (acc.length - 1) (Str.ofString "") == Str.ofString "..") = false))))
  · rintro m₁ nx h₁ tk₁ ⟨nv, nc, acc, t1, t2, t3, t4, rfl, hR, hl, hb, hacc, hi, e1, e2, e3, e4, e5⟩ F₁ N₁
    replace F₁ : Fr g' L' _ _ := F₁
    replace N₁ : News g' L' _ _ := N₁
    rw [hlen, List.take_length] at hacc
    have hsum := sum_le acc hb
    have F₂ := frTop [("sep", .str (Str.ofString "/") t1), ("dot", .str (Str.ofString ".") t2), ("dotdot", .str (Str.ofString "..") t3), ("initial_slashes", .str (Str.ofString "/") t4), ("new_comps", .ref ln)] F₁ (ftA e1 (ftA e2 (ftA e3 (ftA e4 (ftA e5 ft0)))))
    clear F₁
    k_sweep
    walk_at "mine go"
    all_goals first
      | (exfalso; omega)
      | (refine hret _ _ _ _ (by assumption) (by assumption) ⟨⟨_, _, _, rfl⟩, _, congrArg (fun z => Value.str z _) ?_⟩
         unfold normL
         rw [hacc, ← hxs, hre9])
end
section
open PySem PySem.W PyProof.Rows PySem.Calls PySem.Spec
local macro_rules | `(tactic| walk_at "newList") => `(tactic| (k_here; (with_reducible refine' newList_led (by k_dflt assumption) (by k_dflt assumption) (by k_dflt (exact Nat.le_of_ble_eq_true rfl)) ?_); intro _ _ _ _ l1; (try k_lt l1); (try k_sweep)))
section
open PySem PySem.W PyProof.Rows PySem.Calls PySem.Spec
noncomputable def treeB : List (List Str) := [[Str.ofString "ab"], [Str.ofString "ab", Str.ofString "Ba"], [Str.ofString "ab", Str.ofString "bb"], [Str.ofString "b"], [Str.ofString "b", Str.ofString "a"], [Str.ofString "Ab"], [Str.ofString "aA"], [Str.ofString "bb"], [Str.ofString "BA"], [Str.ofString "A"], [Str.ofString "Bb"], [Str.ofString "ab", Str.ofString "Ba", Str.ofString "aAb"]]
noncomputable def namesL : List Str := [Str.ofString "ab", Str.ofString "Ba", Str.ofString "bb", Str.ofString "b", Str.ofString "a", Str.ofString "Ab", Str.ofString "aA", Str.ofString "BA", Str.ofString "A", Str.ofString "Bb", Str.ofString "aAb"] ++ (List.range 27).map nameL
noncomputable def wayAt (t : List (List Str)) (k : Int) : List Str := t.getD (k.fmod (t.length : Int)).toNat [] ++ [nameL ((k.fdiv 4).natAbs % 27)]
noncomputable def treeStep (t : List (List Str)) (k : Int) : List (List Str) := if wayAt t k ∈ t then t else t ++ [wayAt t k]
noncomputable def treeL (ks : List Int) : List (List Str) := ks.foldl treeStep treeB
structure TreeOk (b : Nat) (t : List (List Str)) : Prop where
  len : 12 ≤ t.length ∧ t.length ≤ 9 + b
  way : ∀ y ∈ t, 0 < y.length ∧ y.length ≤ b
  name : ∀ y ∈ t, ∀ s ∈ y, s ∈ namesL
theorem treeB_ok : TreeOk 3 treeB := ⟨by decide, by decide, by decide +kernel⟩
theorem idx_lt {t : List (List Str)} {k : Int} (h : 0 < t.length) : 0 ≤ k.fmod (t.length : Int) ∧ k.fmod (t.length : Int) < t.length := by
  constructor
  · exact Int.fmod_nonneg_of_pos k (by omega)
  · exact Int.fmod_lt_of_pos k (by omega)
theorem nameL_mem (n : Nat) (h : n < 27) : nameL n ∈ namesL := List.mem_append.mpr (.inr (List.mem_map.mpr ⟨n, List.mem_range.mpr h, rfl⟩))
theorem wayAt_ok {b : Nat} {t : List (List Str)} (T : TreeOk b t) (k : Int) : ((0 < (wayAt t k).length ∧ (wayAt t k).length ≤ b + 1) ∧ ∀ s ∈ wayAt t k, s ∈ namesL) := by
  have hl := T.len
  obtain ⟨i0, i1⟩ := idx_lt (t := t) (k := k) (by omega)
  have hi : (k.fmod (t.length : Int)).toNat < t.length := by omega
  have hm : t.getD (k.fmod (t.length : Int)).toNat [] ∈ t := by
    rw [List.getD_eq_getElem?_getD, List.getElem?_eq_getElem hi]
    exact List.getElem_mem hi
  have h1 := T.way _ hm
  refine ⟨?_, ?_⟩
  · unfold wayAt
    rw [List.length_append]
    simp only [List.length_cons, List.length_nil]
    omega
  · intro s hs
    rcases List.mem_append.mp hs with hs | hs
    · exact T.name _ hm s hs
    · rw [List.mem_singleton.mp hs]
      exact nameL_mem _ (Nat.mod_lt _ (by decide))
theorem treeStep_ok {b : Nat} {t : List (List Str)} (T : TreeOk b t) (k : Int) : TreeOk (b + 1) (treeStep t k) := by
  have w := wayAt_ok T k
  have hl := T.len
  unfold treeStep
  split
  · exact ⟨by omega, fun y hy => by have := T.way y hy; omega, T.name⟩
  · refine ⟨by rw [List.length_append]; simp only [List.length_cons, List.length_nil]; omega, fun y hy => ?_, fun y hy => ?_⟩
    · rcases List.mem_append.mp hy with hy | hy
      · have := T.way y hy; omega
      · rw [List.mem_singleton.mp hy]; exact w.1
    · rcases List.mem_append.mp hy with hy | hy
      · exact T.name y hy
      · rw [List.mem_singleton.mp hy]; exact w.2
theorem fold_ok : ∀ (ks : List Int) (b : Nat) (t : List (List Str)), TreeOk b t → TreeOk (b + ks.length) (ks.foldl treeStep t)
  | [], _, _, T => T
  | k :: ks, b, t, T => by
    have := fold_ok ks (b + 1) _ (treeStep_ok T k)
    rw [List.length_cons, ← Nat.add_assoc, Nat.add_right_comm]
    exact this
theorem treeL_ok (ks : List Int) : TreeOk (3 + ks.length) (treeL ks) := fold_ok ks 3 treeB treeB_ok
theorem names_ok : ∀ s ∈ namesL, (PyData.strOk s && decide (0 < s.length) && decide (s.length ≤ 3) && !(s.cps.toList.contains 47)) = true := by decide +kernel
theorem name_arg (x : Int) : (if x.fdiv 4 < 0 then -x.fdiv 4 else x.fdiv 4).fmod 27 = (((x.fdiv 4).natAbs % 27 : Nat) : Int) := by
  have e1 : (if x.fdiv 4 < 0 then -x.fdiv 4 else x.fdiv 4) = (((x.fdiv 4).natAbs : Nat) : Int) := by split <;> omega
  rw [e1, Int.fmod_eq_emod_of_nonneg _ (by decide)]
  rfl
theorem way_ok {xs : List Str} (h : ∀ s ∈ xs, s ∈ namesL) : kqdOk 8 (wayD xs) = true := by
  show (txtD xs).all (kqdOk 7) = true
  rw [List.all_eq_true]
  intro d hd
  obtain ⟨s, hs, rfl⟩ := List.mem_map.mp hd
  have := names_ok s (h s hs)
  simp only [Bool.and_eq_true] at this
  exact this.1.1.1
theorem txtD_inj : ∀ {xs ys : List Str}, txtD xs = txtD ys → xs = ys
  | [], [], _ => rfl
  | [], _ :: _, h => by cases h
  | _ :: _, [], h => by cases h
  | x :: xs, y :: ys, h => by
    injection h with h1 h2
    injection h1 with h1
    rw [h1, txtD_inj h2]
theorem wayD_mem {t : List (List Str)} {xs : List Str} : wayD xs ∈ t.map wayD ↔ xs ∈ t := by
  constructor
  · intro h
    obtain ⟨y, hy, e⟩ := List.mem_map.mp h
    injection e with e
    rw [← txtD_inj e]; exact hy
  · exact fun h => List.mem_map.mpr ⟨_, h, rfl⟩
theorem txt1 {x : Str} {t : Tok} : TxtIs [.str x t] [x] := ⟨[(x, t)], rfl, rfl⟩
theorem txt2 {x y : Str} {t u : Tok} : TxtIs [.str x t, .str y u] [x, y] := ⟨[(x, t), (y, u)], rfl, rfl⟩
theorem txt3 {x y z : Str} {t u v : Tok} : TxtIs [.str x t, .str y u, .str z v] [x, y, z] := ⟨[(x, t), (y, u), (z, v)], rfl, rfl⟩
local macro_rules | `(tactic| walk_at "binaryOp Add ref ref") => `(tactic| (k_here; (with_reducible refine' add_led (by k_dflt assumption) (by k_dflt assumption) (by k_dflt k_mem) (by k_dflt k_mem) (by k_dflt (first | assumption | (simp only [List.length_cons, List.length_nil]; omega))) ?_); intro _ _ _ _ l5; (try k_lt l5); (try k_sweep)))
set_option hygiene false
local macro_rules | `(tactic| walk_at "subscriptTail Name BinOp ref int") => `(tactic| (k_here; (with_reducible refine' item_led (by k_dflt assumption) (by k_dflt k_mem) (by k_dflt assumption) (by k_dflt assumption) (by k_dflt assumption) ?_ hl_binop)))
set_option hygiene true
local macro_rules | `(tactic| walk_at "call ref") => `(tactic| (k_here; rw [name_arg]; (refine' Con.useA (name_con _ _ _ (Nat.mod_lt _ (by decide)) _) ?_; (intro _ _ _ _ _ _ P9); (obtain ⟨e8, t9, e9⟩ := P9; replace e8 := e8.symm; subst e8; subst e9); (try k_sweep); (try dsimp only); (try k_fold))))
local macro_rules | `(tactic| walk_at "compareOp NotIn ref ref") => `(tactic| (k_here; (with_reducible refine' kqd_notIn (by k_dflt assumption) (by k_dflt k_mem) (by k_dflt rfl) (by k_dflt rfl) (by k_dflt assumption) (by k_dflt ((intro _ h9; repeat (first | exact h9 | refine List.mem_cons_of_mem _ ?_)))) (by k_dflt (exact DatIn.list (by k_mem) (TxtIs.dat (TxtIs.snoc (by assumption))))) (fun _ h => h) (by k_dflt assumption) (by k_dflt assumption) (by k_dflt (first | ktr_units | ke_room)) ?_)))
set_option maxHeartbeats 8000000
inductive TrA (ks : List Int) (T6 : Addr) (news : List (Addr × Obj)) (i : Nat) (m : Str → Option Value) (nx : List (Addr × Obj)) : Prop
  | mk (tvs : List Value) (tn : Nat) (tl : List (Addr × Obj)) (h0 : nx = (T6, listOf (List.toArray tvs) tn) :: tl) (h1 : (∀ p ∈ tl, p.1 ≠ T6)) (h2 : (∀ p ∈ news, p ∈ tl)) (h3 : DatAll tl tvs ((treeL (ks.take i)).map wayD)) (h4 : m "tree" = some (.ref T6)) : TrA ks T6 news i m nx
theorem tree_con (w : World) (l : Addr) (vs : List Value) (n : Nat) (ks : List Int) (hR : RowIs vs ks) (hk : ks.length ≤ 4) (news : List (Addr × Obj)) (hm : (l, listOf vs.toArray n) ∈ news) :
    Con w 199 [.ref l] 2 news (fun r news' => (∀ p ∈ news, p ∈ news') ∧ ∃ D dvs dn, r = .ref D ∧ (D, listOf (List.toArray dvs) dn) ∈ news' ∧ DatAll news' dvs ((treeL ks).map wayD)) := by
  unfold Con
  intro dp un gd env outer A₀ base h₀ L m mean mg mb hp gs dr tk₀ os Q E B F X N T hf hk hd hu hret
  refine wpAny_call ?_
  (refine' code_def (binds := [("numbers", .ref l)]) ?k1 ?k2 ?k3 ?k4 ?k5 ?kA ?kF ?kK ?k6 ?k7 ?k8 ?k9 ?kB ?_ ?c2 ?c3 ?c4 ?c5; (case kA => exact rfl); (case kF => assumption); (case kK => assumption); (case k1 => k_asm); (case k2 => k_asm); (case k3 => k_asm); (case k4 => k_asm); (case k5 => k_asm); (case k6 => k_is); (case k7 => k_is); (case k8 => ktr_room); (case k9 => exact BindsTo.of_eq rfl); (case c5 => decide); (case kB => exact locs rfl); (case c2 => exact rfl); (case c3 => exact rfl); (case c4 => exact rfl); k_whole; intro g' L' h' FG' F' N' B' X' T'; (try dsimp only); (try k_fold))
  k_with_none
  w_top off
  walk_at "mine gf"
  refine For_invV g' rfl rfl ?_
  walk_at "mine go"
  rename_i T6 _ l6 hh6 F6 N6
  obtain ⟨tl0, tv0, N7, hD0, ho0, hs0⟩ : ∃ tl0 tv0, News g' L' hh6 ((T6, listOf (List.toArray tv0) 0) :: tl0) ∧ DatAll tl0 tv0 (treeB.map wayD) ∧ (∀ p ∈ tl0, p.1 ≠ T6) ∧ (∀ p ∈ news, p ∈ tl0) := by
    refine ⟨_, _, N6, ?_, fun p hp => Nat.ne_of_lt ((fun {l : List (Addr × Obj)} (hp : p ∈ l) (h : AllLt T6 l) => allLt_m h p hp) hp l6), ?_⟩
    · refine' .cons (.list ?_ txt1.dat) (.cons (.list ?_ txt2.dat) (.cons (.list ?_ txt2.dat) (.cons (.list ?_ txt1.dat) (.cons (.list ?_ txt2.dat) (.cons (.list ?_ txt1.dat) (.cons (.list ?_ txt1.dat) (.cons (.list ?_ txt1.dat) (.cons (.list ?_ txt1.dat) (.cons (.list ?_ txt1.dat) (.cons (.list ?_ txt1.dat) (.cons (.list ?_ txt3.dat) .nil)))))))))))
      all_goals (repeat (first | exact List.mem_cons_self | refine List.mem_cons_of_mem _ ?_))
    · intro p hp
      repeat (first | exact hp | refine List.mem_cons_of_mem _ ?_)
  have hlen := hR.len
  clear N6 l6
  refine for_led (vs := vs) (n := n) (TrA ks T6 news) rfl (by assumption) (by assumption) (.tail _ (hs0 _ hm)) ?_ ?_ ?_ ?_
  · exact ⟨tv0, 0, tl0, rfl, ho0, hs0, hD0, rfl⟩
  · rintro i m nx ⟨tvs, tn, tl, rfl, _, hs, _⟩
    exact .tail _ (hs _ hm)
  · rintro i v m₁ nx I io h₁ tk₁ W1 hW1 hv ⟨tvs, tn, tl, rfl, ho, hs, hD, e1⟩ off F₁ N₁
    replace F₁ : Fr g' L' _ _ := F₁
    replace N₁ : News g' L' _ _ := N₁
    have hi : i < ks.length := by rw [← hlen]; exact (List.getElem?_eq_some_iff.mp hv).1
    obtain ⟨t9, ev⟩ := hR.at_ i hi
    rw [ev] at hv
    injection hv with hv
    subst hv
    obtain ⟨z, hz⟩ : ∃ z, ks.getD i 0 = z := ⟨_, rfl⟩
    rw [hz] at ev F₁
    have ht1 : treeL (ks.take (i + 1)) = treeStep (treeL (ks.take i)) z := by
      unfold treeL
      rw [List.take_add_one, ← hz, List.getD_eq_getElem?_getD, List.getElem?_eq_getElem hi, List.foldl_append]
      rfl
    have T := treeL_ok (ks.take i)
    have hti : (ks.take i).length ≤ 4 := by rw [List.length_take]; omega
    revert ht1 T hD
    generalize treeL (ks.take i) = t
    intro hD ht1 T
    have hlt : tvs.length = t.length := by rw [hD.length, List.length_map]
    have hl := T.len
    have hw := wayAt_ok T z
    have hok : ∀ d ∈ t.map wayD, kqdOk 8 d = true := by
      intro d hd
      obtain ⟨y, hy, rfl⟩ := List.mem_map.mp hd
      exact way_ok (T.name y hy)
    have hwk : kqdOk 8 (wayD (wayAt t z)) = true := way_ok hw.2
    have hj := idx_lt (t := t) (k := z) (by omega)
    have hwa : wayAt t z = t.getD (z.fmod (t.length : Int)).toNat [] ++ [nameL ((z.fdiv 4).natAbs % 27)] := rfl
    rw [← hlt] at hj hwa
    obtain ⟨j, hjj⟩ : ∃ j, (z.fmod (tvs.length : Int)).toNat = j := ⟨_, rfl⟩
    have hjl : j < (t.map wayD).length := by rw [List.length_map]; omega
    obtain ⟨v, hv, hd⟩ := hD.get hjl
    rw [hjj] at hwa
    have hm2 : t.getD j [] ∈ t := by
      rw [List.length_map] at hjl
      rw [List.getD_eq_getElem?_getD, List.getElem?_eq_getElem hjl]
      exact List.getElem_mem hjl
    have hT2 := T.way _ hm2
    have hd2 : (t.map wayD)[j]'hjl = Dat.list (txtD (t.getD j [])) := by
      rw [List.length_map] at hjl
      rw [List.getElem_map, List.getD_eq_getElem?_getD, List.getElem?_eq_getElem hjl]
      rfl
    rw [hd2] at hd
    generalize t.getD j [] = way0 at hwa hT2 hd
    cases hd with
    | @list a wvs wn _ ha hal =>
    have R0 := txt_of_dat hal
    have hwl := R0.len
    rw [hwa] at hwk
    replace hwk : kqdOk 8 (Dat.list (txtD (way0 ++ [nameL ((z.fdiv 4).natAbs % 27)]))) = true := hwk
    rw [← hjj] at hv
    have q1 : z.fmod (tvs.length : Int) < 2 ^ 63 := by omega
    have q0 := hj.1
    have q2 : tvs.length ≠ 0 := by omega
    have hIT : I ≠ T6 := fun e => off _ (.head _) e.symm
    have F₂ := frTopC "x" (.int z t9) [("tree", .ref T6)] F₁ (ftA e1 ft0)
    clear F₁
    k_sweep
    walk_at "mine go"
    · refine hW1 _ _ ?_
      refine turnEd (by assumption) (by assumption) ((T6, listOf tvs.toArray tn) :: tl) ?_ ?_ ⟨tvs, tn, tl, rfl, ho, hs, ?_, rfl⟩
      · exact alC (.tail _ (.tail _ (.head _))) (fun p hp => .tail _ (.tail _ (.tail _ hp)))
      · exact off
      · have hin : wayD (wayAt t z) ∈ t.map wayD := by
          rw [hwa]
          exact dec_t (by assumption)
        rw [ht1, treeStep, if_pos (wayD_mem.mp hin)]
        exact hD
    · rename_i tn8 _ _ _ W6 _ l6 _ hno _ F6 N6
      refine hW1 _ _ ?_
      refine turnEd (by assumption) (by assumption) ((T6, listOf (tvs ++ [Value.ref W6]).toArray (tn + 1)) :: (W6, listOf (wvs ++ [Value.str (nameL ((z.fdiv 4).natAbs % 27)) tn8]).toArray 0) :: tl) ?_ ?_ ⟨tvs ++ [Value.ref W6], tn + 1, (W6, listOf (wvs ++ [Value.str (nameL ((z.fdiv 4).natAbs % 27)) tn8]).toArray 0) :: tl, rfl, ?_, ?_, ?_, rfl⟩
      · exact alC (.tail _ (.tail _ (.head _))) (alC (.tail _ (.tail _ (.tail _ (.head _)))) (alC (.head _) (fun p hp => .tail _ (.tail _ (.tail _ (.tail _ hp))))))
      · exact alC (hIT.symm) (alC (Nat.ne_of_gt l6.2.1) (fun p hp => off _ (.tail _ hp)))
      · exact alC (Nat.ne_of_gt l6.2.2.1) (fun p hp => ho p hp)
      · exact fun p hp => List.mem_cons_of_mem _ (hs p hp)
      · have hin : ¬ wayD (wayAt t z) ∈ t.map wayD := by
          rw [hwa]
          exact dec_f (by assumption)
        rw [ht1, treeStep, if_neg fun q => hin (wayD_mem.mpr q), List.map_append, hwa]
        exact (hD.mono fun p hp => List.mem_cons_of_mem _ hp).append (DatAll.one (DatIn.list List.mem_cons_self (TxtIs.dat R0.snoc)))
  · rintro m₁ nx h₁ tk₁ ⟨tvs, tn, tl, rfl, ho, hs, hD, e1⟩ F₁ N₁
    replace F₁ : Fr g' L' _ _ := F₁
    replace N₁ : News g' L' _ _ := N₁
    rw [hlen, List.take_length] at hD
    have F₂ := frTop [("tree", .ref T6)] F₁ (ftA e1 ft0)
    clear F₁
    k_sweep
    walk_at "mine go"
    refine hret _ _ _ _ (by assumption) (by assumption) ⟨fun p hp => .tail _ (hs p hp), T6, tvs, tn, rfl, .head _, hD.mono fun p hp => .tail _ hp⟩
end
section
open PySem PySem.W PyProof.Rows PySem.Calls PySem.Spec
set_option hygiene false
local macro_rules | `(tactic| omega) => `(tactic| first | lia | omega (config := {}))

set_option hygiene true
section
open PySem PySem.W PyProof.Rows PySem.Calls PySem.Spec
local macro_rules | `(tactic| walk_at "pad") => `(tactic| skip)
noncomputable def Hold (p : Prop) : Prop := p
theorem Hold.out {p : Prop} (h : Hold p) : p := h
noncomputable def bndL : List Int := [0, 2, 3, 9]
theorem cons_of {n : Nat} : ∀ {vs : List Value} {x : Value}, vs.length = n + 1 → vs[0]? = some x → ∃ r, vs = x :: r ∧ r.length = n
  | y :: r, x, l, e => ⟨r, by rw [Option.some.inj e], Nat.succ.inj l⟩
theorem row4 {vs : List Value} {a b c d : Int} (R : RowIs vs [a, b, c, d]) : ∃ t u v w, vs = [.int a t, .int b u, .int c v, .int d w] := by
  have l := R.len
  obtain ⟨t0, e0⟩ := R.at_ 0 (Nat.le_of_ble_eq_true rfl)
  obtain ⟨t1, e1⟩ := R.at_ 1 (Nat.le_of_ble_eq_true rfl)
  obtain ⟨t2, e2⟩ := R.at_ 2 (Nat.le_of_ble_eq_true rfl)
  obtain ⟨t3, e3⟩ := R.at_ 3 (Nat.le_of_ble_eq_true rfl)
  clear R
  obtain ⟨r1, rfl, l1⟩ := cons_of (n := 3) l e0
  obtain ⟨r2, rfl, l2⟩ := cons_of (n := 2) l1 e1
  obtain ⟨r3, rfl, l3⟩ := cons_of (n := 1) l2 e2
  obtain ⟨r4, rfl, l4⟩ := cons_of (n := 0) l3 e3
  rw [List.eq_nil_of_length_eq_zero l4]
  exact ⟨t0, t1, t2, t3, rfl⟩
theorem bndAt {i : Nat} {a0 a2 a3 a9 f : Int} {u0 u2 u3 u9 : Tok} (q0 : a0 ≠ f → 0 < f ∧ 0 < a0) (q2 : a2 ≠ f → 2 < f ∧ 2 < a2) (q3 : a3 ≠ f → 3 < f ∧ 3 < a3) (q9 : a9 ≠ f → 9 < f ∧ 9 < a9) (hi : i < 4) :
    ∃ lv tl, [Value.int a0 u0, Value.int a2 u2, Value.int a3 u3, Value.int a9 u9][((i : Nat) : Int).toNat]? = some (.int lv tl) ∧ (lv ≠ f → ([0, 2, 3, 9] : List Int).getD ((i : Nat) : Int).toNat 0 < f ∧ ([0, 2, 3, 9] : List Int).getD ((i : Nat) : Int).toNat 0 < lv) := by
  match i, hi with
  | 0, _ => exact ⟨_, _, rfl, q0⟩
  | 1, _ => exact ⟨_, _, rfl, q2⟩
  | 2, _ => exact ⟨_, _, rfl, q3⟩
  | 3, _ => exact ⟨_, _, rfl, q9⟩
theorem no1 {a f b : Int} (q : a ≠ f → b < f ∧ b < a) (h : a ≠ f) (h' : f ≤ b) : False := by have := q h; omega
theorem no2 {a f b : Int} (q : a ≠ f → b < f ∧ b < a) (h : a ≠ f) (h' : a ≤ b) : False := by have := q h; omega
set_option hygiene false
local macro_rules | `(tactic| walk_at "subscriptTail Name Name ref int") => `(tactic| (k_here; (refine' item_led (by assumption) (by k_dflt k_mem) (by k_dflt omega) (by k_dflt omega) (by assumption) ?_ hl_name)))
local macro_rules | `(tactic| walk_at "eval ListComp") => `(tactic| (k_here; first
  | ((with_reducible show wpAny _ _ (eval (Expr.ListComp _ [⟨_, _, [], _⟩] _ _) _) _ _ _); k_dflt (refine LCg.ListComp_U (F₀ := by k_asm) (by with_unfolding_all rfl) (by decide) (by rfl) (by decide) (by rfl) ?_))
  | ((with_reducible show wpAny _ _ (eval (Expr.ListComp _ [⟨_, _, [_], _⟩] _ _) _) _ _ _); k_dflt (refine LCt.ListComp_T (F₀ := by k_asm) (by with_unfolding_all rfl) (by decide) (by rfl) (by decide) (by rfl) ?_))))
local macro_rules | `(tactic| walk_at "CompSrc") => `(tactic| (k_here; refine LCg.CompSrc.ledger rfl (by assumption) (by assumption) (by k_dflt k_mem) (by exact Nat.le_of_ble_eq_true rfl) ?_; intro _; refine Hold.out ?_))
set_option hygiene true
local macro_rules | `(tactic| walk_at "call ref") => `(tactic| (k_here; first
  | ((with_reducible show wpAny _ _ (call (Value.ref 216) _) _ _ _); (refine' Con.useA (far_con _ _ _ _ _ (by with_reducible assumption) (by with_reducible assumption) _) ?_); (intro _ _ _ _ _ N9 P9); (obtain ⟨hs9, t9, e9⟩ := P9; subst e9; replace N9 := news_sub N9 hs9; clear hs9); walk_at "mine end")
  | ((with_reducible show wpAny _ _ (call (Value.ref 35) _) _ _ _); (refine' Con.useA (lev_con _ _ _ _ _ _ _ (by with_reducible assumption) (by with_reducible assumption) (by with_reducible assumption) _) ?_); (intro _ _ _ _ _ N9 P9); (obtain ⟨e8, t9, e9⟩ := P9; replace e8 := e8.symm; subst e8; subst e9); walk_at "mine end")))
set_option maxHeartbeats 8000000
theorem bounded_con (w : World) (x y : Str) (t₁ t₂ : Tok) (hx : x.length ≤ 60) (hy : y.length ≤ 60) (hz : ∀ b ∈ bndL, levL x y b ≠ farL x y → b < farL x y ∧ b < levL x y b) (news : List (Addr × Obj)) :
    Con w 221 [.str x t₁, .str y t₂] 4 news (fun r news' => (∀ p ∈ news, p ∈ news') ∧ r = .bool true) := by
  obtain ⟨f, hff⟩ : ∃ f, farL x y = f := ⟨_, rfl⟩
  unfold Con
  intro dp un gd env outer A₀ base h₀ L m mean mg mb hp gs dr tk₀ os Q E B F X N T hf hk hd hu hret
  refine wpAny_call ?_
  (refine' code_defC (binds := [("one", .str x t₁), ("two", .str y t₂)]) ?k1 ?k2 ?k3 ?k4 ?k5 ?kA ?kF ?kK ?k6 ?k7 ?k8 ?k9 ?kB ?kD ?_ ?c2 ?c3 ?c4; (case kA => exact rfl); (case kF => assumption); (case kK => assumption); (case k1 => k_asm); (case k2 => k_asm); (case k3 => k_asm); (case k4 => k_asm); (case k5 => k_asm); (case k6 => k_is); (case k7 => k_is); (case k8 => ktr_room); (case k9 => exact BindsTo.of_eq rfl); (case kB => exact rfl); (case kD => decide +kernel); (case c2 => exact rfl); (case c3 => exact rfl); (case c4 => exact rfl); k_whole; intro g' L' h' tk' cells' FG' F' N' Y' B' X' T' lc1; k_cells Y'; (try simp only [List.cons_append, List.nil_append] at N'); (try dsimp only); (try k_fold))
  k_with_none
  w_top off
  rename_i o4 o3 o2 o1 d4 d3 d2 d1
  have hn1 : ∀ p ∈ news, p.1 ≠ L' + 1 := fun p hp => Nat.ne_of_lt (Nat.lt_succ_of_lt (lc1 p hp))
  have hn2 : ∀ p ∈ news, p.1 ≠ L' + 1 + 1 := fun p hp => Nat.ne_of_lt (Nat.lt_succ_of_lt (Nat.lt_succ_of_lt (lc1 p hp)))
  have hn3 : ∀ p ∈ news, p.1 ≠ L' + 1 + 1 + 1 := fun p hp => Nat.ne_of_lt (Nat.lt_succ_of_lt (Nat.lt_succ_of_lt (Nat.lt_succ_of_lt (lc1 p hp))))
  have hn4 : ∀ p ∈ news, p.1 ≠ L' + 1 + 1 + 1 + 1 := fun p hp => Nat.ne_of_lt (Nat.lt_succ_of_lt (Nat.lt_succ_of_lt (Nat.lt_succ_of_lt (Nat.lt_succ_of_lt (lc1 p hp)))))
  walk_at "mine go"
  rename_i t9 _ oP dP A7 hh7 F7 N7 l7 g9
  obtain ⟨tk1, etk⟩ : ∃ z, z = tk := ⟨_, rfl⟩
  subst etk
  unfold Hold
  refine comp_ledS ⟨_, _, rfl⟩ (n := 4) (fun i ys nx => nx = ((A7, W.listOf #[Value.int 0 tk1, Value.int 2 (tk1 + 1), Value.int 3 (tk1 + 1 + 1), Value.int 9 (tk1 + 1 + 1 + 1)] 0) :: (L' + 1 + 1 + 1 + 1, o4) :: (L' + 1 + 1 + 1, oP) :: (L' + 1 + 1, o2) :: (L' + 1, o1) :: news) ∧ RowIs ys ((bndL.take i).map (levL x y))) ?_ ?_ ⟨rfl, ⟨rfl, fun i h => absurd h (Nat.not_lt_zero _)⟩⟩
  · rintro i ys nx v I oI C oC D m₂ h tk9 E' hi ⟨rfl, hR⟩ hv hC hx9 F9 N9 off9 ne9
    obtain ⟨tb, b, rfl, hb1, hb2⟩ : ∃ tb b, v = .int b tb ∧ (0 ≤ b ∧ b ≤ 1000) ∧ bndL.take (i + 1) = bndL.take i ++ [b] := by
      match i, hi, hv with
      | 0, _, hv => exact ⟨_, _, (Option.some.inj hv).symm, by decide, rfl⟩
      | 1, _, hv => exact ⟨_, _, (Option.some.inj hv).symm, by decide, rfl⟩
      | 2, _, hv => exact ⟨_, _, (Option.some.inj hv).symm, by decide, rfl⟩
      | 3, _, hv => exact ⟨_, _, (Option.some.inj hv).symm, by decide, rfl⟩
    clear F7 N7 hv
    walk_at "mine go"
    refine LCg.CompEnd.intro (by assumption) (by assumption) _ (fun p hp => hp) off9 (.inr ⟨_, List.mem_cons_self, rfl, _, rfl⟩) ⟨rfl, ?_⟩
    rw [hb2, List.map_append]
    exact hR.snoc
  · rintro ys nx ⟨rfl, hR⟩
    unfold LCg.FinE
    intro D4 h4 tk4 F4 N4 off4
    replace N4 : News g' L' h4 ((D4, W.listOf (List.toArray ys) ys.length) :: (A7, W.listOf #[Value.int 0 tk1, Value.int 2 (tk1 + 1), Value.int 3 (tk1 + 1 + 1), Value.int 9 (tk1 + 1 + 1 + 1)] 0) :: (L' + 1 + 1 + 1 + 1, o4) :: (L' + 1 + 1 + 1, oP) :: (L' + 1 + 1, o2) :: (L' + 1, o1) :: news) := N4
    replace hR : RowIs ys [levL x y 0, levL x y 2, levL x y 3, levL x y 9] := hR
    obtain ⟨w1, w2, w3, w4, w5, w6⟩ := off4
    have w7 : A7 ≠ L' + 1 + 1 + 1 + 1 := Nat.ne_of_gt l7.1
    have q0 := hz 0 (by decide)
    have q2 := hz 2 (by decide)
    have q3 := hz 3 (by decide)
    have q9 := hz 9 (by decide)
    rw [hff] at dP q0 q2 q3 q9
    generalize levL x y 0 = a0 at hR q0
    generalize levL x y 2 = a2 at hR q2
    generalize levL x y 3 = a3 at hR q3
    generalize levL x y 9 = a9 at hR q9
    obtain ⟨u0, u2, u3, u9, rfl⟩ := row4 hR
    clear F7 N7 hR
    walk_at "mine go"
    rename_i oT F8' N8' dT _ _ _ _ _ hrg F8 N8 _
    refine LCt.CompSrcT.range (n := 4) rfl F8 N8 hrg (by decide) (by decide) (by exact Nat.le_of_ble_eq_true rfl) ?_
    intro g8
    refine comp_ledTS ⟨_, _, rfl⟩ (n := 4) (fun i ys nx => ys = [] ∧ nx = ((D4, W.listOf (List.toArray [Value.int a0 u0, Value.int a2 u2, Value.int a3 u3, Value.int a9 u9]) [Value.int a0 u0, Value.int a2 u2, Value.int a3 u3, Value.int a9 u9].length) :: (A7, W.listOf #[Value.int 0 tk1, Value.int 2 (tk1 + 1), Value.int 3 (tk1 + 1 + 1), Value.int 9 (tk1 + 1 + 1 + 1)] 0) :: (L' + 1 + 1 + 1 + 1, oT) :: (L' + 1 + 1 + 1, oP) :: (L' + 1 + 1, o2) :: (L' + 1, o1) :: news)) ?_ ?_ ⟨rfl, rfl⟩
    · rintro i ys nx v I oI C oC D m₂ h tk9 E' hi ⟨rfl, rfl⟩ ⟨tt, rfl⟩ hC hx9 F9 N9 off9 ne9
      clear F8 N8 hrg F8' N8'
      obtain ⟨lv, tl, hl, q⟩ := bndAt (u0 := u0) (u2 := u2) (u3 := u3) (u9 := u9) q0 q2 q3 q9 hi
      clear q0 q2 q3 q9
      rw [Int.zero_add] at hx9
      walk_at "mine go"
      all_goals first
        | exact (no1 q (by assumption) (by assumption)).elim
        | exact (no2 q (by assumption) (by assumption)).elim
        | exact LCg.CompEnd.intro (by assumption) (by assumption) _ (fun p hp => hp) off9 trivial ⟨by trivial, rfl⟩
        | exact LCg.CompEnd.intro (by assumption) (by assumption) _ (fun p hp => .tail _ (.tail _ hp)) off9 trivial ⟨by trivial, rfl⟩
    · rintro ys nx ⟨rfl, rfl⟩
      unfold LCg.FinE
      intro D5 h5 tk5 F5 N5 off5
      clear F8 N8 hrg F8' N8'
      walk_at "mine go"
      refine hret _ _ _ news (by assumption) (news_sub (by assumption) (fun p hp => ?_)) ⟨fun p hp => hp, rfl⟩
      k_mem
end
section
open PySem PySem.W PyProof.Rows PySem.Calls PySem.Spec
local macro_rules | `(tactic| walk_at "subscriptTail Name Slice ref ref") => `(tactic| (k_here; (with_reducible rename Fr _ _ _ _ => F'); (with_reducible rename News _ _ _ _ => N'); first | ((with_reducible refine' slice1_led F' N' ?km ?k0 ?k2 ?kz ?_ (fun _ => hsl_slice) (fun _ => htl_name)); (case k2 => with_reducible rfl); (case k0 => k_dflt rfl); (case km => k_dflt k_mem); (case kz => first | with_reducible assumption | (refine Nat.le_trans (Nat.le_of_eq (TxtIs.len (by assumption))) ?_; with_reducible assumption) | k_dflt omega); (intro _ _ _ _ l5); (try k_lt l5); (try k_sweep); (try dsimp only)) | ((with_reducible refine' slicem1_led F' N' ?km ?k0 ?k2 ?kz ?_ (fun _ => hsl_slice) (fun _ => htl_name)); (case k2 => with_reducible rfl); (case k0 => k_dflt rfl); (case km => k_dflt k_mem); (case kz => first | with_reducible assumption | (refine Nat.le_trans (Nat.le_of_eq (TxtIs.len (by assumption))) ?_; with_reducible assumption) | k_dflt omega); (intro _ _ _ _ l5); (try k_lt l5); (try k_sweep); (try dsimp only))))
section
open PySem PySem.W PyProof.Rows PySem.Calls PySem.Spec
noncomputable def priceL (part x : Str) : P2 := (levL part (baseL x) 100, baseL x)
noncomputable def heapStep (part here : Str) (h : List P2) (x : Str) : List P2 := if (dirL x == here) = true then pushL h (priceL part x) else h
noncomputable def heapOf (part here : Str) (ways : List Str) : List P2 := ways.foldl (heapStep part here) []
noncomputable def ledGo (ways : List Str) : List Str → Str → List (List P2) → Str × List (List P2)
  | [], here, bills => (here, bills)
  | p :: r, here, bills => if (p == Str.ofString "") = true then (here, bills) else if heapOf p here ways = [] then (here, bills) else
    ledGo ways r (joinL here ((drainL (heapOf p here ways)).getD 0 p0).2) (bills ++ [drainL (heapOf p here ways)])
noncomputable def ledL (ways : List Str) (asked : Str) : Str × List (List P2) := ledGo ways ((Txt.split (normL asked) (Str.ofString "/")).drop 1) (Str.ofString "/") []
theorem heapOf_spec (part here : Str) : ∀ (ways : List Str) (h : List P2), HeapP h → HeapP (ways.foldl (heapStep part here) h) ∧ (ways.foldl (heapStep part here) h).Perm (h ++ (ways.filter fun x => dirL x == here).map (priceL part))
  | [], h, H => ⟨H, by simp⟩
  | x :: r, h, H => by
    rw [List.foldl_cons]
    unfold heapStep
    by_cases c : (dirL x == here) = true
    · rw [if_pos c]
      obtain ⟨q1, q2⟩ := heapOf_spec part here r (pushL h (priceL part x)) (pushL_heap H)
      refine ⟨q1, q2.trans ?_⟩
      rw [List.filter_cons, if_pos c, List.map_cons]
      refine ((pushL_perm h _).append_right _).trans ?_
      rw [List.append_assoc]
      exact List.Perm.refl _
    · rw [if_neg c]
      obtain ⟨q1, q2⟩ := heapOf_spec part here r h H
      refine ⟨q1, q2.trans ?_⟩
      rw [List.filter_cons, if_neg c]
theorem baseL_len (x : Str) : (baseL x).length ≤ x.length := PyProof.Txt.length_slice_le _ _ _
theorem joinL_len (x y : Str) : (joinL x y).length ≤ x.length + 1 + y.length := by
  have h1 : (Str.ofString "/").length = 1 := rfl
  unfold joinL
  split
  · omega
  · split
    · omega
    · split
      · rw [Str.length_append]; omega
      · rw [Str.length_append, Str.length_append]; omega
theorem heapOf_heap (part here : Str) (ways : List Str) : HeapP (heapOf part here ways) := (heapOf_spec part here ways [] (fun i _ h => absurd h (Nat.not_lt_zero _))).1
theorem heapOf_perm (part here : Str) (ways : List Str) : (heapOf part here ways).Perm ((ways.filter fun x => dirL x == here).map (priceL part)) := by
  have := (heapOf_spec part here ways [] (fun i _ h => absurd h (Nat.not_lt_zero _))).2
  rw [List.nil_append] at this
  exact this
theorem heapOf_mem {part here : Str} {ways : List Str} {q : P2} (h : q ∈ heapOf part here ways) : ∃ x ∈ ways, q = priceL part x := by
  have h2 := (heapOf_perm part here ways).mem_iff.mp h
  obtain ⟨x, hx, rfl⟩ := List.mem_map.mp h2
  exact ⟨x, (List.mem_filter.mp hx).1, rfl⟩
theorem heapOf_len (part here : Str) (ways : List Str) : (heapOf part here ways).length ≤ ways.length := by
  rw [(heapOf_perm part here ways).length_eq, List.length_map]
  exact List.length_filter_le _ _
theorem heap_take {part here : Str} {ways : List Str} {j : Nat} (h : j < ways.length) : heapOf part here (ways.take (j + 1)) = heapStep part here (heapOf part here (ways.take j)) (ways.getD j (Str.ofString "")) := by
  unfold heapOf
  rw [List.take_add_one, List.getElem?_eq_getElem h, List.foldl_append, List.getD_eq_getElem?_getD, List.getElem?_eq_getElem h]
  rfl
theorem PairsL.only {st st' : List (Addr × Obj)} {vs : List Value} {hs : List P2} (P : PairsL st vs hs) (h : ∀ p ∈ st, p.2.cls = .type "tuple" → p ∈ st') : PairsL st' vs hs where
  len := P.len
  at' := fun i v p hv hp => let ⟨a, n, t, t', e, hm⟩ := P.at' i v p hv hp; ⟨a, n, t, t', e, h _ hm rfl⟩
theorem PairAt.only {st st' : List (Addr × Obj)} {v : Value} {p : P2} (P : PairAt st v p) (h : ∀ p ∈ st, p.2.cls = .type "tuple" → p ∈ st') : PairAt st' v p :=
  let ⟨a, n, t, t', e, hm⟩ := P; ⟨a, n, t, t', e, h _ hm rfl⟩
theorem PairsL.push {st : List (Addr × Obj)} {vs : List Value} {hs : List P2} {v : Value} {p : P2} (P : PairsL st vs hs) (h : PairAt st v p) : PairsL st (vs ++ [v]) (hs ++ [p]) := by
  obtain ⟨a, n, t, t', rfl, hm⟩ := h
  exact P.snoc hm

set_option hygiene false
local macro_rules | `(tactic| walk_at "truthy ref") => `(tactic| (k_here; (with_reducible refine' truthy_led (by k_dflt assumption) (by k_dflt k_mem) (by with_reducible assumption) ?_); intro _))
set_option hygiene true
local macro_rules | `(tactic| walk_at "call ref") => `(tactic| (k_here; first
  | ((with_reducible show wpAny _ _ (call (Value.ref 178) _) _ _ _); (refine' Con.useA (dir_con _ _ (by with_reducible assumption) _ _) ?_); (intro _ _ _ _ _ _ P9); (obtain ⟨e8, t9, e9⟩ := P9; replace e8 := e8.symm; subst e8; subst e9); walk_at "mine end")
  | ((with_reducible show wpAny _ _ (call (Value.ref 171) _) _ _ _); (refine' Con.useA (base_con _ _ (by with_reducible assumption) _ _) ?_); (intro _ _ _ _ _ _ P9); (obtain ⟨e8, t9, e9⟩ := P9; replace e8 := e8.symm; subst e8; subst e9); walk_at "mine end")
  | ((with_reducible show wpAny _ _ (call (Value.ref 35) _) _ _ _); (refine' Con.useA (lev_con _ _ _ _ _ _ _ (by with_reducible assumption) (by with_reducible assumption) (by decide) _) ?_); (intro _ _ _ _ _ _ P9); (obtain ⟨e8, t9, e9⟩ := P9; replace e8 := e8.symm; subst e8; subst e9); walk_at "mine end")
  | ((with_reducible show wpAny _ _ (call (Value.ref 157) _) _ _ _); (refine' Con.useA (join_con _ _ _ (by with_reducible assumption) (by with_reducible assumption) _ _ _) ?_); (intro _ _ _ _ _ _ P9); (obtain ⟨e8, t9, e9⟩ := P9; replace e8 := e8.symm; subst e8; subst e9); walk_at "mine end")
  | ((with_reducible show wpAny _ _ (call (Value.ref 185) _) _ _ _); k_dflt (k_extra "CALL"))))
local macro_rules | `(tactic| walk_at "compareOp Eq ref ref") => `(tactic| (k_here; (with_reducible refine' kqd_eq (by k_dflt assumption) (by k_dflt k_mem) (by k_dflt rfl) (by k_dflt rfl) (by with_reducible assumption) (by k_dflt ((intro _ h9; repeat (first | exact h9 | refine List.mem_cons_of_mem _ ?_)))) (by k_dflt k_mem) (by k_dflt rfl) (by k_dflt rfl) (by k_dflt (exact DatAll.nil)) (fun _ h => nomatch h) (by with_reducible assumption) (fun _ h => nomatch h) (by k_dflt (first | ktr_units | ke_room)) ?_)))
set_option maxHeartbeats 8000000
structure LedOk (ways : List Str) (asked : Str) : Prop where
  n : ways.length ≤ 20
  w : ∀ x ∈ ways, x.length ≤ 60 ∧ PyData.strOk (baseL x) = true
  a : 0 < asked.length ∧ asked.length ≤ 500
  r : rootL asked = Str.ofString "/"
  e : (restL asked).length ≤ 500
  s : (Txt.split (restL asked) (Str.ofString "/")).length ≤ 100
  p : ∀ a ∈ Txt.split (restL asked) (Str.ofString "/"), a.length ≤ 100
  q : (normL asked).length ≤ 1000
  u : (Txt.split (normL asked) (Str.ofString "/")).length ≤ 8
  v : ∀ a ∈ Txt.split (normL asked) (Str.ofString "/"), a.length ≤ 60
inductive LdA (B5 P5 W0 : Addr) (pvs : List Value) (res : Str × List (List P2)) (ways qs : List Str) (news : List (Addr × Obj)) (i : Nat) (m : Str → Option Value) (nx : List (Addr × Obj)) : Prop
  | mk (bvs : List Value) (bn : Nat) (tl : List (Addr × Obj)) (bills : List (List P2)) (here : Str) (th : Tok) (h0 : nx = (B5, listOf (List.toArray bvs) bn) :: tl) (h1 : (∀ p ∈ tl, p.1 ≠ B5)) (h2 : (∀ p ∈ news, p ∈ tl)) (h3 : (P5, listOf pvs.toArray 0) ∈ tl) (h4 : (∃ fr : List (Addr × Obj), (∀ p ∈ fr, p ∈ tl) ∧ (∀ p ∈ fr, @LT.lt Nat _ B5 p.1) ∧ DatAll fr bvs (bills.map billD))) (h5 : bvs.length ≤ i) (h6 : res = ledGo ways (qs.drop i) here bills) (h7 : here.length ≤ 1 + 61 * i) (h8 : m "ways" = some (.ref W0)) (h9 : m "here" = some (.str here th)) (h10 : m "bills" = some (.ref B5)) : LdA B5 P5 W0 pvs res ways qs news i m nx
inductive LdB (B5 H6 W0 : Addr) (part here : Str) (th tp : Tok) (ways : List Str) (b0 : List (Addr × Obj)) (j : Nat) (m : Str → Option Value) (nx : List (Addr × Obj)) : Prop
  | mk (hvs : List Value) (hn : Nat) (st : List (Addr × Obj)) (h0 : nx = (H6, listOf (List.toArray hvs) hn) :: st) (h1 : (∀ p ∈ st, p.1 ≠ H6)) (h2 : (∀ p ∈ b0, p ∈ st)) (h3 : (∃ fr2 : List (Addr × Obj), (∀ p ∈ fr2, p ∈ st) ∧ (∀ p ∈ fr2, @LT.lt Nat _ B5 p.1) ∧ PairsL fr2 hvs (heapOf part here (ways.take j)))) (h4 : m "ways" = some (.ref W0)) (h5 : m "here" = some (.str here th)) (h6 : m "bills" = some (.ref B5)) (h7 : m "part" = some (.str part tp)) (h8 : m "heap" = some (.ref H6)) : LdB B5 H6 W0 part here th tp ways b0 j m nx
inductive LdC (B5 H6 C8 W0 I : Addr) (io : Obj) (bvs : List Value) (bn : Nat) (here : Str) (th : Tok) (hs : List P2) (fr3 rest : List (Addr × Obj)) (k : Nat) (m : Str → Option Value) (nx : List (Addr × Obj)) : Prop
  | mk (hv2 : List Value) (hn2 : Nat) (cvs : List Value) (cn : Nat) (hs2 bs : List P2) (h0 : nx = (C8, listOf (List.toArray cvs) cn) :: (H6, listOf (List.toArray hv2) hn2) :: (B5, listOf bvs.toArray bn) :: (I, io) :: rest) (h1 : PairsL fr3 hv2 hs2) (h2 : PairsL fr3 cvs bs) (h3 : k = hs2.length) (h4 : bs ++ drainN hs2.length hs2 = drainL hs) (h5 : bs.length + hs2.length ≤ 20) (h6 : m "ways" = some (.ref W0)) (h7 : m "here" = some (.str here th)) (h8 : m "bills" = some (.ref B5)) (h9 : m "heap" = some (.ref H6)) (h10 : m "bill" = some (.ref C8)) : LdC B5 H6 C8 W0 I io bvs bn here th hs fr3 rest k m nx
inductive LdD (B5 H6 C8 W0 I : Addr) (io : Obj) (bvs : List Value) (bn : Nat) (here : Str) (th : Tok) (hs : List P2) (fr3 rest : List (Addr × Obj)) (m : Str → Option Value) (nx : List (Addr × Obj)) : Prop
  | mk (hv2 : List Value) (hn2 : Nat) (cvs : List Value) (cn : Nat) (h0 : nx = (C8, listOf (List.toArray cvs) cn) :: (H6, listOf (List.toArray hv2) hn2) :: (B5, listOf bvs.toArray bn) :: (I, io) :: rest) (h1 : PairsL fr3 cvs (drainL hs)) (h2 : m "ways" = some (.ref W0)) (h3 : m "here" = some (.str here th)) (h4 : m "bills" = some (.ref B5)) (h5 : m "bill" = some (.ref C8)) : LdD B5 H6 C8 W0 I io bvs bn here th hs fr3 rest m nx
theorem led_con (w : World) (W0 : Addr) (wvs : List Value) (wn : Nat) (ways : List Str) (asked : Str) (ta : Tok) (O : LedOk ways asked) (hR : TxtIs wvs ways) (news : List (Addr × Obj)) (hm : (W0, listOf wvs.toArray wn) ∈ news) :
    Con w 211 [.ref W0, .str asked ta] 4 news (fun r news' => ResIs news news' r (.tuple [.str (ledL ways asked).1, .list ((ledL ways asked).2.map billD)])) := by
  obtain ⟨On, Ow, Oa, Or, Oe, Os, Op, Oq, Ou, Ov⟩ := O
  obtain ⟨y, hy⟩ : ∃ y, normL asked = y := ⟨_, rfl⟩
  have NC : ∀ t news, Con w 185 [.str asked t] 3 news (fun r news' => (∃ n1 n2 n3, news' = n1 :: n2 :: n3 :: news) ∧ ∃ t, r = .str y t) := fun t news => by
    have q := norm_con w asked Oa Or Oe Os Op t news
    rw [hy] at q
    exact q
  have hled : ledL ways asked = ledGo ways ((Txt.split y (Str.ofString "/")).drop 1) (Str.ofString "/") [] := by unfold ledL; rw [hy]
  rw [hy] at Oq Ou Ov
  clear hy Or Oe Os Op
  obtain ⟨ps, hps⟩ : ∃ ps, Txt.split y (Str.ofString "/") = ps := ⟨_, rfl⟩
  have Ou' : (Txt.split y (Str.ofString "/")).length ≤ 10000 := Nat.le_trans Ou (by decide)
  rw [hps] at Ou Ov hled
  generalize ledL ways asked = res at hled
  unfold Con
  intro dp un gd env outer A₀ base h₀ L m mean mg mb hp gs dr tk₀ os Q E B F X N T hf hk hd hu hret
  refine wpAny_call ?_
  (refine' code_def (binds := [("ways", .ref W0), ("asked", .str asked ta)]) ?k1 ?k2 ?k3 ?k4 ?k5 ?kA ?kF ?kK ?k6 ?k7 ?k8 ?k9 ?kB ?_ ?c2 ?c3 ?c4 ?c5; (case kA => exact rfl); (case kF => assumption); (case kK => assumption); (case k1 => k_asm); (case k2 => k_asm); (case k3 => k_asm); (case k4 => k_asm); (case k5 => k_asm); (case k6 => k_is); (case k7 => k_is); (case k8 => ktr_room); (case k9 => exact BindsTo.of_eq rfl); (case c5 => decide); (case kB => exact locs rfl); (case c2 => exact rfl); (case c3 => exact rfl); (case c4 => exact rfl); k_whole; intro g' L' h' FG' F' N' B' X' T'; (try dsimp only); (try k_fold))
  k_with_none
  w_top off
  k_with "CALL" => (refine' Con.useA (NC _ _) ?_; (intro r9 h9 tk9 n9 F9 N9 P9); (obtain ⟨⟨z1, z2, z3, e8⟩, t9, e9⟩ := P9; subst e8; subst e9); (try k_sweep); (try dsimp only); (try k_fold))
  walk_at "mine gf"
  refine For_invV g' rfl rfl ?_
  walk_at "mine go"
  rename_i B5 _ l1a _ D5 vs5 _ _ R5 _ P5 hh5 F5 N5 l5b
  rw [hps] at R5
  have N6 : News g' L' hh5 ((B5, listOf (List.toArray []) 0) :: (P5, listOf (vs5.drop 1).toArray 0) :: news) := news_sub N5 (by
    exact alC (.tail _ (.tail _ (.tail _ (.tail _ (.tail _ (.head _)))))) (alC (.head _) (fun p hp => .tail _ (.tail _ (.tail _ (.tail _ (.tail _ (.tail _ hp))))))))
  have hBP : ∀ p ∈ (P5, listOf (vs5.drop 1).toArray 0) :: news, p.1 ≠ B5 := by
    exact alC (Nat.ne_of_gt l5b.2.2.2.2.1) (fun p hp => Nat.ne_of_lt (l1a p hp))
  have R6 := R5.drop1
  have hql : (ps.drop 1).length ≤ 8 := by rw [List.length_drop]; omega
  have hqv : ∀ a ∈ ps.drop 1, a.length ≤ 60 := fun a ha => Ov a (List.mem_of_mem_drop ha)
  have hNB : ∀ q ∈ news, @LT.lt Nat _ q.1 B5 := fun q hq => l1a q hq
  clear N5 l5b R5 hps Ou Ov l1a NC Ou'
  generalize ps.drop 1 = qs at R6 hql hqv hled
  generalize vs5.drop 1 = pvs at R6 N6 hBP
  have hpl := R6.len
  have hwl := hR.len
  refine for_ledc (vs := pvs) (n := 0) (LdA B5 P5 W0 pvs res ways qs news) rfl (by assumption) N6 (.tail _ (.head _)) ?_ ?_ ?_ ?_
  · exact ⟨[], 0, _, [], _, _, rfl, hBP, fun p hp => List.mem_cons_of_mem _ hp, .head _, ⟨[], (fun _ h => nomatch h), (fun _ h => nomatch h), .nil⟩, Nat.le_refl _, hled, by decide, rfl, rfl, rfl⟩
  · rintro i m nx ⟨bvs, bn, tl, bills, here, th, rfl, _, _, hP, _⟩
    exact .tail _ hP
  · rintro i v m₁ nx I io h₁ tk₁ W1 hW1 hioc hv ⟨bvs, bn, tl, bills, here, th, rfl, hoB, hsub, hP, ⟨fr, hft, hfB, hD⟩, hbl, hres, hhl, e1, e2, e3⟩ off F₁ N₁
    replace F₁ : Fr g' L' _ _ := F₁
    replace N₁ : News g' L' _ _ := N₁
    obtain ⟨tp, rfl, hi⟩ := R6.at_ hv
    have hpt : (qs.getD i (Str.ofString "")).length ≤ 60 := hqv _ (by rw [List.getD_eq_getElem?_getD, List.getElem?_eq_getElem hi]; exact List.getElem_mem hi)
    have hdr : qs.drop i = qs.getD i (Str.ofString "") :: qs.drop (i + 1) := by
      rw [List.drop_eq_getElem_cons hi, List.getD_eq_getElem?_getD, List.getElem?_eq_getElem hi]
      rfl
    rw [hdr] at hres
    generalize qs.getD i (Str.ofString "") = part at hv hpt hres F₁
    clear hdr
    have hIB : I ≠ B5 := fun e => off _ (.head _) e.symm
    have F₂ := frTopC "part" (.str part tp) [("ways", .ref W0), ("here", .str here th), ("bills", .ref B5)] F₁ (ftA e1 (ftA e2 (ftA e3 ft0)))
    clear F₁ N6 F5
    k_sweep
    walk_at "mine gf"
    refine For_invV g' rfl rfl ?_
    walk_at "mine go"
    rename_i H6 _ l6 hh6 F6 N6
    have hHb : ∀ p ∈ (I, io) :: (B5, listOf bvs.toArray bn) :: tl, p.1 ≠ H6 := by
      exact alC (Nat.ne_of_lt l6.1) (alC (Nat.ne_of_lt l6.2.1) (fun p hp => Nat.ne_of_lt (allLt_m l6.2.2 _ hp)))
    obtain ⟨b0, hb0⟩ : ∃ b0, b0 = ((I, io) :: (B5, listOf bvs.toArray bn) :: tl) := ⟨_, rfl⟩
    rw [← hb0] at N6 hHb
    have hBb : (B5, listOf bvs.toArray bn) ∈ b0 := by rw [hb0]; exact List.mem_cons_of_mem _ List.mem_cons_self
    have w0 : (W0, listOf wvs.toArray wn) ∈ b0 := by rw [hb0]; exact List.mem_cons_of_mem _ (List.mem_cons_of_mem _ (hsub _ hm))
    clear l6
    refine for_ledc (vs := wvs) (n := wn) (LdB B5 H6 W0 part here th tp ways b0) rfl F6 N6 (.tail _ w0) ?_ ?_ ?_ ?_
    · exact ⟨[], 0, b0, rfl, hHb, fun p hp => hp, ⟨[], (fun _ h => nomatch h), (fun _ h => nomatch h), ⟨rfl, fun i v p hv => by cases hv⟩⟩, rfl, rfl, rfl, rfl, rfl⟩
    · rintro j m nx ⟨hvs, hn, st, rfl, _, hb, _⟩
      exact .tail _ (hb _ w0)
    · rintro j v m₂ nx I2 io2 h₂ tk₂ W2 hW2 hic hv2 ⟨hvs, hn, st, rfl, hoH, hb, ⟨fr2, hf2, hf2B, hPr⟩, f1, f2, f3, f4, f5⟩ off2 F₁ N₁
      replace F₁ : Fr g' L' _ _ := F₁
      replace N₁ : News g' L' _ _ := N₁
      obtain ⟨tw, rfl, hj⟩ := hR.at_ hv2
      have hxw := Ow _ (show ways.getD j (Str.ofString "") ∈ ways by rw [List.getD_eq_getElem?_getD, List.getElem?_eq_getElem hj]; exact List.getElem_mem hj)
      have hst := heap_take (part := part) (here := here) hj
      have hhs := heapOf_len part here (ways.take j)
      rw [List.length_take] at hhs
      generalize hs1e : heapOf part here (ways.take (j + 1)) = hs1 at hst
      generalize heapOf part here (ways.take j) = hs0 at hst hhs hPr
      generalize ways.getD j (Str.ofString "") = x at hv2 hxw hst F₁
      have hx1 : x.length ≤ 1000 := by omega
      have hx2 : (baseL x).length ≤ 60 := Nat.le_trans (baseL_len x) hxw.1
      have hI2H : I2 ≠ H6 := fun e => off2 _ (.head _) e.symm
      have F₂ := frTopC "way" (.str x tw) [("ways", .ref W0), ("here", .str here th), ("bills", .ref B5), ("part", .str part tp), ("heap", .ref H6)] F₁ (ftA f1 (ftA f2 (ftA f3 (ftA f4 (ftA f5 ft0)))))
      clear F₁ N6 F6
      k_sweep
      walk_at "mine go"
      · rename_i heq _ _ _ _ _ tI _ _ tS Tp hh7 F7 N7 l7
        have hTH : Tp ≠ H6 := Nat.ne_of_gt l7.2.1
        have N8 : News g' L' hh7 ((H6, listOf hvs.toArray hn) :: (Tp, tupOf [.int (priceL part x).1 tI, .str (priceL part x).2 tS] 0) :: (I2, io2) :: st) := news_sub N7 (by
          exact alC (.tail _ (.tail _ (.head _))) (alC (.head _) (alC (.tail _ (.head _)) (fun p hp => .tail _ (.tail _ (.tail _ hp))))))
        have hoff3 : ∀ p ∈ (Tp, tupOf [.int (priceL part x).1 tI, .str (priceL part x).2 tS] 0) :: (I2, io2) :: st, p.1 ≠ H6 := by
          exact alC (hTH) (alC (hI2H) (fun p hp => hoH p hp))
        clear N7
        have hPm : PairsL ((Tp, tupOf [.int (priceL part x).1 tI, .str (priceL part x).2 tS] 0) :: fr2) hvs hs0 := hPr.mono fun p hp => List.mem_cons_of_mem _ hp
        have hBT : @LT.lt Nat _ B5 Tp := allLt_m l7.2.2 _ (hb _ hBb)
        have hsu : ∀ p ∈ (Tp, tupOf [.int (priceL part x).1 tI, .str (priceL part x).2 tS] 0) :: fr2, p ∈ (Tp, tupOf [.int (priceL part x).1 tI, .str (priceL part x).2 tS] 0) :: (I2, io2) :: st := fun p hp => by
          rcases List.mem_cons.mp hp with rfl | hp
          · exact .head _
          · exact .tail _ (.tail _ (hf2 p hp))
        (refine Con.useA (push_con w H6 hvs hn _ hs0 Tp 0 (priceL part x) tI tS _ hsu hPm hoff3 List.mem_cons_self (by omega)) ?_; rintro r9 h9 tk9 n9 F9 N9 ⟨rfl, vs9, n9', rfl, hP9⟩)
        walk_at "mine go"
        refine hW2 _ _ ?_
        refine turnEd (by assumption) (by assumption) ((H6, listOf vs9.toArray n9') :: (Tp, tupOf [.int (priceL part x).1 tI, .str (priceL part x).2 tS] 0) :: st) ?_ ?_ ⟨vs9, n9', (Tp, tupOf [.int (priceL part x).1 tI, .str (priceL part x).2 tS] 0) :: st, rfl, ?_, ?_, ?_, rfl, rfl, rfl, rfl, rfl⟩
        · exact alC (.tail _ (.tail _ (.head _))) (alC (.head _) (alC (.tail _ (.head _)) (fun p hp => .tail _ (.tail _ (.tail _ hp)))))
        · exact alC (hI2H.symm) (alC (Nat.ne_of_gt l7.1) (fun p hp => off2 _ (.tail _ hp)))
        · exact alC (hTH) (fun p hp => hoH p hp)
        · exact fun p hp => List.mem_cons_of_mem _ (hb p hp)
        · rw [hs1e, hst, heapStep, if_pos heq]
          refine ⟨_, ?_, ?_, hP9⟩
          · exact alC (.head _) (fun p hp => .tail _ (hf2 p hp))
          · exact alC (hBT) (fun p hp => hf2B p hp)
      · rename_i heq
        refine hW2 _ _ ?_
        refine turnEd (by assumption) (by assumption) ((H6, listOf hvs.toArray hn) :: st) (fun p hp => hp) off2 ⟨hvs, hn, st, rfl, hoH, hb, ?_, rfl, rfl, rfl, rfl, rfl⟩
        rw [hs1e, hst, heapStep, if_neg (by rw [heq]; decide)]
        exact ⟨fr2, hf2, hf2B, hPr⟩
    · rintro m₂ nx h₂ tk₂ ⟨hvs, hn, st, rfl, hoH, hb, ⟨fr2, hf2, hf2B, hPr⟩, f1, f2, f3, f4, f5⟩ F₁ N₁
      replace F₁ : Fr g' L' _ _ := F₁
      replace N₁ : News g' L' _ _ := N₁
      rw [hwl, List.take_length] at hPr
      have hhm : ∀ q ∈ heapOf part here ways, q.2.length ≤ 60 ∧ PyData.strOk q.2 = true := by
        intro q hq
        obtain ⟨x, hx, rfl⟩ := heapOf_mem hq
        exact ⟨Nat.le_trans (baseL_len x) (Ow x hx).1, (Ow x hx).2⟩
      have hhl2 := heapOf_len part here ways
      rw [ledGo] at hres
      generalize heapOf part here ways = hs at hPr hres hhm hhl2
      have hB6 : (B5, listOf bvs.toArray bn) ∈ st := hb _ (by rw [hb0]; exact List.mem_cons_of_mem _ List.mem_cons_self)
      have hI6 : (I, io) ∈ st := hb _ (by rw [hb0]; exact List.mem_cons_self)
      have hfn : ∀ p ∈ st, ∀ q ∈ st, p.1 = q.1 → p.2 = q.2 := by
        intro p hp q hq e
        have q1 := (N₁ _ (List.mem_cons_of_mem _ hp)).1
        have q2 := (N₁ _ (List.mem_cons_of_mem _ hq)).1
        rw [e, q2] at q1
        exact (Option.some.inj q1).symm
      have hHB : H6 ≠ B5 := fun e => hoH _ hB6 e.symm
      have hHI : H6 ≠ I := fun e => hoH _ hI6 e.symm
      obtain ⟨rest, hrs⟩ : ∃ rest, rest = st.filter fun p => decide (p.1 ≠ B5 ∧ p.1 ≠ I) := ⟨_, rfl⟩
      have hrin : ∀ p ∈ st, p.1 ≠ B5 → p.1 ≠ I → p ∈ rest := fun p hp hne hni => by rw [hrs]; exact List.mem_filter.mpr ⟨hp, decide_eq_true ⟨hne, hni⟩⟩
      have hrst : ∀ p ∈ rest, p ∈ st := fun p hp => by rw [hrs] at hp; exact (List.mem_filter.mp hp).1
      have hrB : ∀ p ∈ rest, p.1 ≠ B5 := fun p hp => by rw [hrs] at hp; exact (of_decide_eq_true (List.mem_filter.mp hp).2).1
      have hrI : ∀ p ∈ rest, p.1 ≠ I := fun p hp => by rw [hrs] at hp; exact (of_decide_eq_true (List.mem_filter.mp hp).2).2
      have hrH : ∀ p ∈ rest, p.1 ≠ H6 := fun p hp => hoH p (hrst p hp)
      obtain ⟨fr3, hf3⟩ : ∃ fr3, fr3 = fr2.filter fun p => decide (p.1 ≠ I) := ⟨_, rfl⟩
      have hPr2 : PairsL fr3 hvs hs := hPr.only fun p hp hc => by
        rw [hf3]
        refine List.mem_filter.mpr ⟨hp, decide_eq_true fun e => ?_⟩
        rw [hfn p (hf2 p hp) _ hI6 e] at hc
        exact hioc hc
      have hf3r : ∀ p ∈ fr3, p ∈ rest := fun p hp => by
        rw [hf3] at hp
        have q := List.mem_filter.mp hp
        exact hrin p (hf2 p q.1) (Nat.ne_of_gt (hf2B p q.1)) (of_decide_eq_true q.2)
      have hf3B : ∀ p ∈ fr3, @LT.lt Nat _ B5 p.1 := fun p hp => by
        rw [hf3] at hp
        exact hf2B p (List.mem_filter.mp hp).1
      have hrtl : ∀ p ∈ tl, p ∈ rest := fun p hp => hrin p (hb _ (by rw [hb0]; exact List.mem_cons_of_mem _ (List.mem_cons_of_mem _ hp))) (hoB p hp) (off p (List.mem_cons_of_mem _ hp))
      have N2 : News g' L' h₂ ((H6, listOf hvs.toArray hn) :: (B5, listOf bvs.toArray bn) :: (I, io) :: rest) := news_sub N₁ (by
        exact alC (.head _) (alC (.tail _ hB6) (alC (.tail _ hI6) (fun p hp => .tail _ (hrst p hp)))))
      have hftr : ∀ p ∈ fr, p ∈ rest := fun p hp => hrtl p (hft p hp)
      clear hrs hfn N₁ hb hb0 hPr hoH hHb w0 hB6 hrin hrst hI6 hf3 hf2 hf2B hBb hft
      have hD1 : DatAll rest hvs (hs.map pairD) := (hPr2.mono hf3r).dat
      have hok : ∀ d ∈ hs.map pairD, kqdOk 8 d = true := by
        intro d hd
        obtain ⟨q, hq, rfl⟩ := List.mem_map.mp hd
        show ([Dat.int q.1, Dat.str q.2].all (kqdOk 7)) = true
        simp only [List.all_cons, List.all_nil, kqdOk, (hhm q hq).2, Bool.and_true]
      have F₂ := frTop [("ways", .ref W0), ("here", .str here th), ("bills", .ref B5), ("part", .str part tp), ("heap", .ref H6)] F₁ (ftA f1 (ftA f2 (ftA f3 (ftA f4 (ftA f5 ft0)))))
      clear F₁
      dsimp only
      walk_at "mine go"
      · rename_i hpe T8 hh8 F8 N8 l8
        refine hW1 _ _ ?_
        dsimp only [TurnQ]
        walk_at "mine go"
        refine hret _ _ _ _ (by assumption) (by assumption) ⟨fun p hp => List.mem_cons_of_mem _ (List.mem_cons_of_mem _ (List.mem_cons_of_mem _ (List.mem_cons_of_mem _ (hrtl p (hsub p hp))))), (T8, ({ cls := .type "tuple", data := .seq #[Value.str here th, Value.ref B5] } : Obj)) :: (B5, listOf bvs.toArray bn) :: fr, ?_, fresh3 hNB l8.2.1 hfB, ?_⟩
        rotate_left
        · rw [hres, if_pos hpe]
          exact .tuple (vs := [.str here th, .ref B5]) List.mem_cons_self (.cons (.str _ _) (.cons (.list (vs := bvs) (List.mem_cons_of_mem _ List.mem_cons_self) (hD.mono fun p hp => List.mem_cons_of_mem _ (List.mem_cons_of_mem _ hp))) .nil))
        · exact alC (.head _) (alC (.tail _ (.tail _ (.head _))) (fun p hp => .tail _ (.tail _ (.tail _ (.tail _ (hftr p hp))))))
      · rename_i hpe E8 _ _ hne T8 hh8 F8 N8 l8
        refine hW1 _ _ ?_
        dsimp only [TurnQ]
        walk_at "mine go"
        refine hret _ _ _ _ (by assumption) (by assumption) ⟨fun p hp => List.mem_cons_of_mem _ (List.mem_cons_of_mem _ (List.mem_cons_of_mem _ (List.mem_cons_of_mem _ (List.mem_cons_of_mem _ (hrtl p (hsub p hp)))))), (T8, ({ cls := .type "tuple", data := .seq #[Value.str here th, Value.ref B5] } : Obj)) :: (B5, listOf bvs.toArray bn) :: fr, ?_, fresh3 hNB l8.2.2.1 hfB, ?_⟩
        rotate_left
        · have hse : hs = [] := List.map_eq_nil_iff.mp (dec_t hne)
          rw [hres, if_neg (by rw [hpe]; decide), if_pos hse]
          exact .tuple (vs := [.str here th, .ref B5]) List.mem_cons_self (.cons (.str _ _) (.cons (.list (vs := bvs) (List.mem_cons_of_mem _ List.mem_cons_self) (hD.mono fun p hp => List.mem_cons_of_mem _ (List.mem_cons_of_mem _ hp))) .nil))
        · exact alC (.head _) (alC (.tail _ (.tail _ (.tail _ (.head _)))) (fun p hp => .tail _ (.tail _ (.tail _ (.tail _ (.tail _ (hftr p hp)))))))
      · rename_i hpe E8 _ _ hne _ C8 _ l8 hh8 F8 N8
        have hse : hs ≠ [] := fun e => dec_f hne (by rw [e]; rfl)
        rw [if_neg (by rw [hpe]; decide), if_neg hse] at hres
        have hHC := l8.2.1
        have hBC := l8.2.2.1
        have hIC := l8.2.2.2.1
        have hrC : ∀ p ∈ rest, p.1 ≠ C8 := fun p hp => Nat.ne_of_lt (allLt_m l8.2.2.2.2 p hp)
        have N9 : News g' L' hh8 ((C8, listOf (List.toArray []) 0) :: (H6, listOf hvs.toArray hn) :: (B5, listOf bvs.toArray bn) :: (I, io) :: rest) := news_sub N8 (by
          exact alC (.head _) (fun p hp => .tail _ (.tail _ hp)))
        clear N8 l8
        refine while_led (LdC B5 H6 C8 W0 I io bvs bn here th hs fr3 rest)
          (LdD B5 H6 C8 W0 I io bvs bn here th hs fr3 rest) (n₀ := hs.length) (by assumption) N9 ?_ ?_ ?_
        · exact ⟨hvs, hn, [], 0, hs, [], rfl, hPr2, ⟨rfl, fun i v p hv => by cases hv⟩, rfl, rfl, by simp only [List.length_nil]; omega, rfl, rfl, rfl, rfl, rfl⟩
        · rintro k m₃ nx h₃ tk₃ W3 V3 hW3 hV3 F₁ N₁ ⟨hv2, hn2, cvs, cn, hs2, bs, rfl, hP2, hC2, hk5, hdr, hle, f1, f2, f3, f4, f5⟩
          have F₂ := frTop [("ways", .ref W0), ("here", .str here th), ("bills", .ref B5), ("heap", .ref H6), ("bill", .ref C8)] F₁ (ftA f1 (ftA f2 (ftA f3 (ftA f4 (ftA f5 ft0)))))
          clear F₁ F8 N9
          have hvl := hP2.len
          have hcl := hC2.len
          have hz1 : hv2.length ≤ 2 ^ 24 := by omega
          k_sweep
          walk_at "mine go"
          · rename_i hpos
            have hp2 : 0 < hs2.length := by omega
            have hl3 : hs2.length ≤ 1000 := by omega
            have N10 : News g' L' h₃ ((H6, listOf (List.toArray hv2) hn2) :: (C8, listOf (List.toArray cvs) cn) :: (B5, listOf bvs.toArray bn) :: (I, io) :: rest) := news_sub N₁ (by
              exact alC (.tail _ (.head _)) (alC (.head _) (fun p hp => .tail _ (.tail _ hp))))
            have hoff4 : ∀ p ∈ (C8, listOf (List.toArray cvs) cn) :: (B5, listOf bvs.toArray bn) :: (I, io) :: rest, p.1 ≠ H6 := by
              exact alC (Nat.ne_of_gt hHC) (alC (hHB.symm) (alC (hHI.symm) (fun p hp => hrH p hp)))
            have hoffC : ∀ p ∈ (B5, listOf bvs.toArray bn) :: (I, io) :: rest, p.1 ≠ C8 := by
              exact alC (Nat.ne_of_lt hBC) (alC (Nat.ne_of_lt hIC) (fun p hp => hrC p hp))
            have hsu : ∀ p ∈ fr3, p ∈ (C8, listOf (List.toArray cvs) cn) :: (B5, listOf bvs.toArray bn) :: (I, io) :: rest := fun p hp => List.mem_cons_of_mem _ (List.mem_cons_of_mem _ (List.mem_cons_of_mem _ (hf3r p hp)))
            clear N₁
            (refine Con.useA (pop_con w H6 hv2 hn2 _ hs2 _ hsu hP2 hoff4 hp2 hl3) ?_; rintro r9 h9 tk9 n9 F9 N9 ⟨hpa, vs9, n9', rfl, hP9⟩)
            have hP10 := hP9
            have hC3 := hC2.push hpa
            obtain ⟨a9, k9, ta9, tb9, rfl, hm9⟩ := hpa
            replace hm9 := hf3r _ hm9
            clear hsu
            have hne9 : H6 ≠ C8 := Nat.ne_of_lt hHC
            have hz2 : cvs.length ≤ 2 ^ 24 := by omega
            walk_at "mine go"
            have hpl2 := popL_len hp2
            refine hW3 _ _ ?_
            refine whQ_end (n' := (popL hs2).2.length) (by assumption) (news_sub (by assumption) ?_) (by omega) ⟨vs9, n9', cvs ++ [Value.ref a9], cn + 1, (popL hs2).2, bs ++ [(popL hs2).1], rfl, hP10, hC3, rfl, ?_, ?_, rfl, rfl, rfl, rfl, rfl⟩
            · exact alC (.tail _ (.head _)) (alC (.head _) (fun p hp => .tail _ (.tail _ hp)))
            · rw [← hdr]
              obtain ⟨n2, hn2e⟩ : ∃ n2, hs2.length = n2 + 1 := ⟨hs2.length - 1, by omega⟩
              rw [hpl2, hn2e, Nat.add_sub_cancel, drainN, List.append_assoc]
              rfl
            · rw [List.length_append, List.length_singleton]; omega
          · rename_i hneg
            have hz0 : hs2.length = 0 := by omega
            refine hV3 _ ?_
            refine whEx_end (by assumption) (by assumption) ⟨hv2, hn2, cvs, cn, rfl, ?_, rfl, rfl, rfl, rfl⟩
            rw [hz0, drainN, List.append_nil] at hdr
            rw [← hdr]
            exact hC2
        · rintro m₃ nx h₃ tk₃ ⟨hv2, hn2, cvs, cn, rfl, hC2, f1, f2, f3, f4⟩ F₁ N₁
          replace F₁ : Fr g' L' _ _ := F₁
          replace N₁ : News g' L' _ _ := N₁
          have hdm : ∀ q ∈ drainL hs, q.2.length ≤ 60 := fun q hq => (hhm q ((drainN_perm _ hs rfl).mem_iff.mp hq)).1
          have hdl : 0 < (drainL hs).length := by
            have q := (drainN_perm _ hs rfl).length_eq
            have q2 := List.length_pos_iff.mpr hse
            show 0 < (drainN hs.length hs).length
            omega
          have hj1 : ((drainL hs).getD 0 p0).2.length ≤ 60 := hdm _ (getD_mem hdl)
          obtain ⟨b0, nb0, t0, u0, hc0, hm0⟩ := hC2.get (i := 0) hdl
          replace hm0 := hf3r _ hm0
          generalize (drainL hs).getD 0 p0 = fst at *
          have hIBr : ∀ p ∈ (I, io) :: rest, p.1 ≠ B5 := by
            exact alC (hIB) (fun p hp => hrB p hp)
          have hx5 : here.length ≤ 500 := by omega
          have hy5 : fst.2.length ≤ 100 := by omega
          have hjl := joinL_len here fst.2
          have hbz : bvs.length ≤ 2 ^ 24 := by omega
          k_with "SUB" => first
            | refine item_led (by assumption) (by k_mem) (by decide) (by decide) (by exact hc0) ?_ hl_const
            | refine tup1_led (by assumption) (List.mem_cons_of_mem _ (List.mem_cons_of_mem _ (List.mem_cons_of_mem _ (List.mem_cons_of_mem _ hm0)))) rfl rfl rfl rfl ?_ hl_const (fun _ => htl_name)
          have F₂ := frTop [("ways", .ref W0), ("here", .str here th), ("bills", .ref B5), ("bill", .ref C8)] F₁ (ftA f1 (ftA f2 (ftA f3 (ftA f4 ft0))))
          clear F₁ F8 N9
          dsimp only
          walk_at "mine go"
          refine hW1 _ _ ?_
          refine turnEd (by assumption) (by assumption) ((B5, listOf (bvs ++ [Value.ref C8]).toArray (bn + 1)) :: (C8, listOf cvs.toArray cn) :: rest) ?_ ?_ ⟨bvs ++ [Value.ref C8], bn + 1, (C8, listOf cvs.toArray cn) :: rest, bills ++ [drainL hs], joinL here fst.2, _, rfl, ?_, ?_, List.mem_cons_of_mem _ (hrtl _ hP), ?_, ?_, hres, ?_, rfl, rfl, rfl⟩
          · exact alC (.tail _ (.tail _ (.tail _ (.head _)))) (alC (.tail _ (.tail _ (.head _))) (alC (.head _) (fun p hp => .tail _ (.tail _ (.tail _ (.tail _ hp))))))
          · exact alC (hIB.symm) (alC (Nat.ne_of_gt hIC) (fun p hp => hrI p hp))
          · exact alC (Nat.ne_of_gt hBC) (fun p hp => hrB p hp)
          · exact fun p hp => List.mem_cons_of_mem _ (hrtl p (hsub p hp))
          · refine ⟨(C8, listOf cvs.toArray cn) :: (fr ++ fr3), ?_, ?_, ?_⟩
            · intro p hp
              rcases List.mem_cons.mp hp with rfl | hp
              · exact .head _
              · rcases List.mem_append.mp hp with hp | hp
                · exact .tail _ (hftr p hp)
                · exact .tail _ (hf3r p hp)
            · intro p hp
              rcases List.mem_cons.mp hp with rfl | hp
              · exact hBC
              · rcases List.mem_append.mp hp with hp | hp
                · exact hfB p hp
                · exact hf3B p hp
            · rw [List.map_append]
              exact (hD.mono fun p hp => List.mem_cons_of_mem _ (List.mem_append.mpr (.inl hp))).append (DatAll.one (DatIn.list List.mem_cons_self (hC2.dat.mono fun p hp => List.mem_cons_of_mem _ (List.mem_append.mpr (.inr hp)))))
          · rw [List.length_append, List.length_singleton]; omega
          · omega
  · rintro m₁ nx h₁ tk₁ ⟨bvs, bn, tl, bills, here, th, rfl, hoB, hsub, hP, ⟨fr, hft, hfB, hD⟩, hbl, hres, hhl, e1, e2, e3⟩ F₁ N₁
    replace F₁ : Fr g' L' _ _ := F₁
    replace N₁ : News g' L' _ _ := N₁
    rw [hpl, List.drop_length, ledGo] at hres
    have F₂ := frTop [("here", .str here th), ("bills", .ref B5)] F₁ (ftA e2 (ftA e3 ft0))
    clear F₁
    k_sweep
    walk_at "mine go"
    rename_i T8 hh8 F8 N8 l8 _ _ _ _
    refine hret _ _ _ _ (by assumption) (by assumption) ⟨fun p hp => List.mem_cons_of_mem _ (List.mem_cons_of_mem _ (hsub p hp)), (T8, ({ cls := .type "tuple", data := .seq #[Value.str here th, Value.ref B5] } : Obj)) :: (B5, listOf bvs.toArray bn) :: fr, ?_, fresh3 hNB l8.1 hfB, ?_⟩
    rotate_left
    · rw [hres]
      exact .tuple (vs := [.str here th, .ref B5]) List.mem_cons_self (.cons (.str _ _) (.cons (.list (vs := bvs) (List.mem_cons_of_mem _ List.mem_cons_self) (hD.mono fun p hp => List.mem_cons_of_mem _ (List.mem_cons_of_mem _ hp))) .nil))
    · exact alC (.head _) (alC (.tail _ (.head _)) (fun p hp => .tail _ (.tail _ (hft p hp))))
end
section
open PySem PySem.W PyProof.Rows PySem.Calls PySem.Spec
local macro_rules | `(tactic| walk_at "pad") => `(tactic| skip)
noncomputable def wkStep (ps : List Str) (p : Str) : List Str := if (p == Str.ofString "..") = true then ps.dropLast else if ([Str.ofString "", Str.ofString "."].any fun x => x == p) = true then ps else ps ++ [p]
noncomputable def partsW (asked : Str) : List Str := (Txt.split asked (Str.ofString "/")).foldl wkStep []
noncomputable def priceW (part : Str) (y : List Str) : P2 := (farL part (y.getD (y.length - 1) (Str.ofString "")), y.getD (y.length - 1) (Str.ofString ""))
noncomputable def kidsW (tree : List (List Str)) (part : Str) (row : List Str) : List P2 := (tree.filter fun y => decide (y.dropLast = row)).map (priceW part)
noncomputable def billW (tree : List (List Str)) (part : Str) (row : List Str) : List P2 := sortL (kidsW tree part row)
noncomputable def hereW (row : List Str) : Str := Str.ofString "/" ++ Txt.join (Str.ofString "/") row
noncomputable def wkGo (tree : List (List Str)) : List Str → List Str → List (List P2) → Str × List (List P2)
  | [], row, bills => (hereW row, bills)
  | p :: r, row, bills => if billW tree p row = [] then (hereW row, bills) else wkGo tree r (row ++ [((billW tree p row).getD 0 p0).2]) (bills ++ [billW tree p row])
noncomputable def walkL (tree : List (List Str)) (asked : Str) : Str × List (List P2) := wkGo tree (partsW asked) [] []
theorem wk_take {xs : List Str} {i : Nat} (h : i < xs.length) : (xs.take (i + 1)).foldl wkStep [] = wkStep ((xs.take i).foldl wkStep []) (xs.getD i (Str.ofString "")) := by
  rw [List.take_add_one, List.getElem?_eq_getElem h, List.foldl_append, List.getD_eq_getElem?_getD, List.getElem?_eq_getElem h]
  rfl
theorem wk_spec : ∀ (xs acc : List Str), (xs.foldl wkStep acc).length ≤ acc.length + xs.length ∧ ∀ a ∈ xs.foldl wkStep acc, a ∈ acc ∨ a ∈ xs
  | [], acc => ⟨Nat.le_refl _, fun a h => .inl h⟩
  | x :: xs, acc => by
    obtain ⟨h1, h2⟩ := wk_spec xs (wkStep acc x)
    have q : (wkStep acc x).length ≤ acc.length + 1 ∧ ∀ a ∈ wkStep acc x, a ∈ acc ∨ a = x := by
      unfold wkStep
      split
      · exact ⟨by rw [List.length_dropLast]; omega, fun a h => .inl (List.dropLast_subset _ h)⟩
      · split
        · exact ⟨by omega, fun a h => .inl h⟩
        · refine ⟨by rw [List.length_append]; simp, fun a h => ?_⟩
          rcases List.mem_append.mp h with h | h
          · exact .inl h
          · exact .inr (List.mem_singleton.mp h)
    rw [List.foldl_cons, List.length_cons]
    refine ⟨by omega, fun a h => ?_⟩
    rcases h2 a h with h | h
    · rcases q.2 a h with h | h
      · exact .inl h
      · exact .inr (h ▸ List.mem_cons_self)
    · exact .inr (List.mem_cons_of_mem _ h)
theorem kids_take {tree : List (List Str)} {part : Str} {row : List Str} {j : Nat} (h : j < tree.length) : kidsW (tree.take (j + 1)) part row = if (tree.getD j []).dropLast = row then kidsW (tree.take j) part row ++ [priceW part (tree.getD j [])] else kidsW (tree.take j) part row := by
  unfold kidsW
  rw [List.take_add_one, List.getElem?_eq_getElem h, List.filter_append, List.map_append, List.getD_eq_getElem?_getD, List.getElem?_eq_getElem h]
  show _ ++ List.map _ (List.filter _ [tree[j]]) = if (tree[j]).dropLast = row then _ ++ [priceW part tree[j]] else _
  by_cases c : (tree[j]).dropLast = row
  · rw [if_pos c, List.filter_cons, if_pos (decide_eq_true c)]
    rfl
  · rw [if_neg c, List.filter_cons, if_neg (by simp [c])]
    simp
theorem kids_len (tree : List (List Str)) (part : Str) (row : List Str) : (kidsW tree part row).length ≤ tree.length := by
  unfold kidsW
  rw [List.length_map]
  exact List.length_filter_le _ _
theorem PairsL.only2 {st st' : List (Addr × Obj)} {vs : List Value} {hs : List P2} (P : PairsL st vs hs) (h : ∀ p ∈ st, ∀ us n, p.2 = tupOf us n → p ∈ st') : PairsL st' vs hs where
  len := P.len
  at' := fun i v p hv hp => let ⟨a, n, t, t', e, hm⟩ := P.at' i v p hv hp; ⟨a, n, t, t', e, h _ hm _ _ rfl⟩
theorem names_sum (xs : List Str) (h : ∀ s ∈ xs, s ∈ namesL) (hl : xs.length ≤ 1000) : ((xs.map (·.length)).sum + xs.length) ≤ 1048576 := by
  have q : ∀ xs : List Str, (∀ s ∈ xs, s ∈ namesL) → (xs.map (·.length)).sum ≤ 3 * xs.length := by
    intro xs
    induction xs with
    | nil => intro _; exact Nat.zero_le _
    | cons x r ih =>
      intro h
      have h1 := names_ok x (h x List.mem_cons_self)
      simp only [Bool.and_eq_true, decide_eq_true_eq] at h1
      have h2 := ih fun s hs => h s (List.mem_cons_of_mem _ hs)
      simp only [List.map_cons, List.sum_cons, List.length_cons]
      omega
  have := q xs h
  omega
local macro_rules | `(tactic| walk_at "binaryOp Add ref ref") => `(tactic| (k_here; (with_reducible refine' add_led (by k_dflt assumption) (by k_dflt assumption) (by k_dflt k_mem) (by k_dflt k_mem) (by k_dflt (first | with_reducible assumption | (simp only [List.length_cons, List.length_nil]; omega))) ?_); intro _ _ _ _ l5; (try k_lt l5); (try k_sweep)))
set_option hygiene false
local macro_rules | `(tactic| walk_at "eval ListComp") => `(tactic| (k_here; k_dflt (refine LCt.ListComp_T (F₀ := by k_asm) (by with_unfolding_all rfl) (by decide) (by rfl) (by decide) (by rfl) ?_)))
set_option hygiene true
local macro_rules | `(tactic| walk_at "call ref") => `(tactic| (k_here; first
  | ((with_reducible show wpAny _ _ (call (Value.ref 216) _) _ _ _); (refine' Con.useA (far_con _ _ _ _ _ (by with_reducible assumption) (by with_reducible assumption) _) ?_); (intro _ _ _ _ _ _ P9); (obtain ⟨hs9, t9, e9⟩ := P9; subst e9; have q91 := hs9 _ (List.mem_cons_of_mem _ List.mem_cons_self); have q92 := hs9 _ (List.mem_cons_of_mem _ (List.mem_cons_of_mem _ List.mem_cons_self))); walk_at "mine end")))
local macro_rules | `(tactic| walk_at "compareOp Eq ref ref") => `(tactic| (k_here; first
  | ((with_reducible refine' kqd_eq ?zN ?za ?zb ?zc ?zd ?ze ?zf ?zg ?zi ?zj ?zk ?zl ?zm ?zn ?_); (case zN => assumption); (case za => k_dflt k_mem); (case zb => k_dflt rfl); (case zc => k_dflt rfl); (case zd => with_reducible assumption); (case zf => k_dflt k_mem); (case zg => k_dflt rfl); (case zi => k_dflt rfl); (case zj => with_reducible assumption); (case ze => exact fun _ h => absurd h List.not_mem_nil); (case zk => exact fun _ h => absurd h List.not_mem_nil); (case zl => with_reducible assumption); (case zm => with_reducible assumption); (case zn => first | ktr_units | ke_room))
  | ((with_reducible refine' kqd_eq (by k_dflt assumption) (by k_dflt k_mem) (by k_dflt rfl) (by k_dflt rfl) (by k_dflt (exact PairsL.dat (by assumption))) (by k_dflt ((intro _ h9; repeat (first | exact h9 | exact SubOf.out (by assumption) h9 | refine List.mem_cons_of_mem _ ?_)))) (by k_dflt k_mem) (by k_dflt rfl) (by k_dflt rfl) (by k_dflt (exact DatAll.nil (news := []))) (by k_dflt (exact fun _ h => absurd h List.not_mem_nil)) (by with_reducible assumption) (by k_dflt (exact fun _ h => absurd h List.not_mem_nil)) (by k_dflt (first | ktr_units | ke_room)) ?_))))
set_option hygiene false
local macro_rules | `(tactic| walk_at "subscriptTail Name UnaryOp ref int") => `(tactic| (k_here; (with_reducible refine' neg1_led ?k1 ?k2 ?k3 ?k4 ?k5 ?_ hl_unop; (case k1 => assumption); (case k2 => first | k_dflt k_mem | (refine (‹∀ p ∈ _, p ∈ _›) _ ?_; k_dflt k_mem)); (case k5 => assumption); (case k3 => assumption); (case k4 => assumption))))
set_option hygiene true
local macro_rules | `(tactic| walk_at "call builtin:sorted") => `(tactic| (k_here; (with_reducible show wpAny _ _ (call (Value.builtin "sorted") [Value.ref _]) _ _ _); (refine' sorted_pairs (by assumption) (by assumption) (by k_dflt k_mem) (by with_reducible assumption) (by (intro _ h9; repeat (first | exact h9 | exact SubOf.out (by assumption) h9 | refine List.mem_cons_of_mem _ ?_))) (by with_reducible assumption) ?_); intro _ _ _ _ _ _ l5 _; (try k_lt l5); (try k_sweep)))
set_option maxHeartbeats 8000000
structure WalkOk (tree : List (List Str)) (asked : Str) : Prop where
  t : ∃ b, b ≤ 7 ∧ TreeOk b tree
  a : asked.length ≤ 1000
  s : (Txt.split asked (Str.ofString "/")).length ≤ 8
  p : ∀ a ∈ Txt.split asked (Str.ofString "/"), a.length ≤ 60 ∧ PyData.strOk a = true
inductive WkA (T0 L' : Addr) (ps : List Str) (b0 : List (Addr × Obj)) (i : Nat) (m : Str → Option Value) (nx : List (Addr × Obj)) : Prop
  | mk (A : Addr) (avs : List Value) (an : Nat) (h0 : (A, listOf (List.toArray avs) an) ∈ nx) (h1 : TxtIs avs ((ps.take i).foldl wkStep [])) (h2 : (∀ p ∈ b0, p ∈ nx)) (h3 : (∀ p ∈ nx, p.1 ≠ L' + 1)) (h4 : i ≤ ps.length) (h5 : m "tree" = some (.ref T0)) (h6 : m "parts" = some (.ref A)) : WkA T0 L' ps b0 i m nx
inductive WkB (T0 A B7 L' : Addr) (avs : List Value) (an : Nat) (tree : List (List Str)) (qs : List Str) (res : Str × List (List P2)) (news : List (Addr × Obj)) (i : Nat) (m : Str → Option Value) (nx : List (Addr × Obj)) : Prop
  | mk (bvs : List Value) (bn : Nat) (R : Addr) (rvs : List Value) (rn : Nat) (tl : List (Addr × Obj)) (oR : Obj) (bills : List (List P2)) (row : List Str) (h0 : nx = (B7, listOf (List.toArray bvs) bn) :: (L' + 1 + 1, oR) :: tl) (h1 : oR.data = .cell (some (.ref R))) (h2 : (R, listOf (List.toArray rvs) rn) ∈ tl) (h3 : TxtIs rvs row) (h4 : (∀ p ∈ tl, p.1 ≠ B7)) (h5 : (∀ p ∈ tl, p.1 ≠ L' + 1 + 1)) (h6 : (∀ p ∈ tl, p.1 ≠ L' + 1)) (h7 : (A, listOf (List.toArray avs) an) ∈ tl) (h8 : (∀ p ∈ news, p ∈ tl)) (h9 : (∃ fr : List (Addr × Obj), (∀ p ∈ fr, p ∈ tl) ∧ (∀ p ∈ fr, @LT.lt Nat _ B7 p.1) ∧ DatAll fr bvs (bills.map billD))) (h10 : bvs.length ≤ i) (h11 : row.length ≤ i) (h12 : (∀ s ∈ row, s ∈ namesL)) (h13 : res = wkGo tree (qs.drop i) row bills) (h14 : m "tree" = some (.ref T0)) (h15 : m "bills" = some (.ref B7)) : WkB T0 A B7 L' avs an tree qs res news i m nx
theorem walked_con (w : World) (T0 : Addr) (tvs : List Value) (tn : Nat) (tree : List (List Str)) (asked : Str) (ta : Tok) (O : WalkOk tree asked) (news : List (Addr × Obj)) (hm : (T0, listOf tvs.toArray tn) ∈ news) (hT : DatAll news tvs (tree.map wayD)) :
    Con w 226 [.ref T0, .str asked ta] 4 news (fun r news' => ResIs news news' r (.tuple [.str (walkL tree asked).1, .list ((walkL tree asked).2.map billD)])) := by
  obtain ⟨⟨b, Ob, OT⟩, Oa, Os, Op⟩ := O
  have hwk : walkL tree asked = wkGo tree ((Txt.split asked (Str.ofString "/")).foldl wkStep []) [] [] := rfl
  obtain ⟨ps, hps⟩ : ∃ ps, Txt.split asked (Str.ofString "/") = ps := ⟨_, rfl⟩
  rw [hps] at Os Op hwk
  generalize walkL tree asked = res at hwk
  unfold Con
  intro dp un gd env outer A₀ base h₀ L m mean mg mb hp gs dr tk₀ os Q E B F X N T hf hk hd hu hret
  refine wpAny_call ?_
  (refine' code_defC (binds := [("tree", .ref T0), ("asked", .str asked ta)]) ?k1 ?k2 ?k3 ?k4 ?k5 ?kA ?kF ?kK ?k6 ?k7 ?k8 ?k9 ?kB ?kD ?_ ?c2 ?c3 ?c4; (case kA => exact rfl); (case kF => assumption); (case kK => assumption); (case k1 => k_asm); (case k2 => k_asm); (case k3 => k_asm); (case k4 => k_asm); (case k5 => k_asm); (case k6 => k_is); (case k7 => k_is); (case k8 => ktr_room); (case k9 => exact BindsTo.of_eq rfl); (case kB => exact rfl); (case kD => decide +kernel); (case c2 => exact rfl); (case c3 => exact rfl); (case c4 => exact rfl); k_whole; intro g' L' h' tk' cells' FG' F' N' Y' B' X' T' lc1; k_cells Y'; (try simp only [List.cons_append, List.nil_append] at N'); (try dsimp only); (try k_fold))
  k_with_none
  w_top off
  have hn1 : ∀ p ∈ news, p.1 ≠ L' + 1 := fun p hp => Nat.ne_of_lt (Nat.lt_succ_of_lt (lc1 p hp))
  have hn2 : ∀ p ∈ news, p.1 ≠ L' + 1 + 1 := fun p hp => Nat.ne_of_lt (Nat.lt_succ_of_lt (Nat.lt_succ_of_lt (lc1 p hp)))
  walk_at "mine gf"
  refine For_C ?_
  walk_at "mine go"
  rename_i oR oP dR dP A5 _ l5a _ D5 vs5 hh5 _ R5 F5 N5 l5b
  rw [hps] at R5
  have hpl := R5.len
  obtain ⟨b0, hb0⟩ : ∃ b0, b0 = ((D5, listOf vs5.toArray 0) :: (L' + 1 + 1, oR) :: news) := ⟨_, rfl⟩
  have bD : (D5, listOf vs5.toArray 0) ∈ b0 := by rw [hb0]; exact List.mem_cons_self
  have bR : (L' + 1 + 1, oR) ∈ b0 := by rw [hb0]; exact List.mem_cons_of_mem _ List.mem_cons_self
  have bn : ∀ p ∈ news, p ∈ b0 := by rw [hb0]; exact fun p hp => List.mem_cons_of_mem _ (List.mem_cons_of_mem _ hp)
  have N6 : News g' L' hh5 ((L' + 1, oP) :: (A5, listOf (List.toArray []) 0) :: b0) := by
    rw [hb0]
    refine news_sub N5 ?_
    exact alC (.tail _ (.tail _ (.tail _ (.head _)))) (alC (.tail _ (.head _)) (alC (.head _) (alC (.tail _ (.tail _ (.head _))) (fun p hp => .tail _ (.tail _ (.tail _ (.tail _ hp)))))))
  have hoP : ∀ p ∈ (A5, listOf (List.toArray []) 0) :: b0, p.1 ≠ L' + 1 := by
    rw [hb0]
    exact alC (Nat.ne_of_gt l5a.2.1) (alC (Nat.ne_of_gt (l5b (L' + 1, oP) (.tail _ (.tail _ (.head _))))) (alC (Nat.ne_of_gt (Nat.lt_succ_self _)) (fun p hp => hn1 p hp)))
  clear N5 l5b l5a hb0
  refine for_cell (c := L' + 1) (vs := vs5) (n := 0) (oc := oP) (v₀ := _) (WkA T0 L' ps b0) rfl F5 N6 dP (List.mem_cons_of_mem _ bD) rfl rfl rfl ?_ ?_ ?_ ?_
  · exact ⟨A5, [], 0, List.mem_cons_self, TxtIs.nil, fun p hp => List.mem_cons_of_mem _ hp, hoP, Nat.zero_le _, rfl, rfl⟩
  · rintro i m nx ⟨A, avs, an, _, _, hb, ho, _⟩
    exact ⟨hb _ bD, ho⟩
  · rintro i v m₁ nx I io oc h₁ tk₁ W1 hW1 hic hv ⟨A, avs, an, hA, hR, hb, ho, hi, e1, e2⟩ off hIc hoc F₁ N₁
    replace F₁ : Fr g' L' _ _ := F₁
    replace N₁ : News g' L' _ _ := N₁
    obtain ⟨tp, rfl, hi2⟩ := R5.at_ hv
    have hpt := Op _ (show ps.getD i (Str.ofString "") ∈ ps by rw [List.getD_eq_getElem?_getD, List.getElem?_eq_getElem hi2]; exact List.getElem_mem hi2)
    have hst := wk_take hi2
    have hwl := (wk_spec (ps.take i) []).1
    rw [List.length_take, List.length_nil] at hwl
    generalize hac : (ps.take (i + 1)).foldl wkStep [] = a1 at hst
    generalize (ps.take i).foldl wkStep [] = a0 at hst hwl hR
    generalize ps.getD i (Str.ofString "") = part at hv hpt hst hoc
    have hal := hR.len
    have hz1 : avs.length ≤ 10000 := by omega
    have F₂ := frTop [("tree", .ref T0), ("parts", .ref A)] F₁ (ftA e1 (ftA e2 ft0))
    clear F₁ N6 F5
    k_sweep
    walk_at "mine go"
    · rename_i hdd _ Dn _ ln hh6 F6 N6
      refine hW1 _ _ ?_
      refine cEnd F6 N6 hoc ((Dn, listOf avs.dropLast.toArray 0) :: nx) ?_ ?_ ⟨Dn, avs.dropLast, 0, List.mem_cons_self, ?_, fun p hp => List.mem_cons_of_mem _ (hb p hp), ?_, hi2, rfl, rfl⟩
      · exact alC (.tail _ (.head _)) (alC (.tail _ (.tail _ (.head _))) (alC (.head _) (fun p hp => .tail _ (.tail _ (.tail _ hp)))))
      · exact alC (Nat.ne_of_gt ln.1) (fun p hp => off p hp)
      · rw [hac, hst, wkStep, if_pos hdd]
        exact hR.drop
      · exact alC (Nat.ne_of_gt ln.2.1) (fun p hp => ho p hp)
    · rename_i hdd _ En hh6 F6 N6 ln hin
      refine hW1 _ _ ?_
      refine cEnd F6 N6 hoc nx (fun p hp => List.mem_cons_of_mem _ hp) off ⟨A, avs, an, hA, ?_, hb, ho, hi2, rfl, rfl⟩
      rw [hac, hst, wkStep, if_neg (by rw [hdd]; decide), if_pos hin]
      exact hR
    · rename_i hdd _ En _ l1n hin _ Fn _ l2n Dn _ ln hh6 F6 N6
      refine hW1 _ _ ?_
      refine cEnd F6 N6 hoc ((Dn, listOf (avs ++ [Value.str part tp]).toArray 0) :: nx) ?_ ?_ ⟨Dn, avs ++ [Value.str part tp], 0, List.mem_cons_self, ?_, fun p hp => List.mem_cons_of_mem _ (hb p hp), ?_, hi2, rfl, rfl⟩
      · exact alC (.tail _ (.tail _ (.tail _ (.head _)))) (alC (.tail _ (.tail _ (.tail _ (.tail _ (.head _))))) (alC (.head _) (fun p hp => .tail _ (.tail _ (.tail _ (.tail _ (.tail _ hp)))))))
      · exact alC (Nat.ne_of_gt ln.2.2.1) (fun p hp => off p hp)
      · rw [hac, hst, wkStep, if_neg (by rw [hdd]; decide), if_neg (by rw [hin]; decide)]
        exact hR.snoc
      · exact alC (Nat.ne_of_gt ln.2.2.2.1) (fun p hp => ho p hp)
  · rintro m₁ nx h₁ tk₁ oc v' ⟨A, avs, an, hA, hR, hb, ho, hi, e1, e2⟩ hoc F₁ N₁
    replace F₁ : Fr g' L' _ _ := F₁
    replace N₁ : News g' L' _ _ := N₁
    rw [hpl, List.take_length] at hR
    obtain ⟨hql, hqm⟩ := wk_spec ps []
    rw [List.length_nil, Nat.zero_add] at hql
    generalize ps.foldl wkStep [] = qs at hR hql hqm hwk
    have hqv : ∀ a ∈ qs, a.length ≤ 60 ∧ PyData.strOk a = true := fun a ha => (hqm a ha).elim (fun h => absurd h List.not_mem_nil) (Op a)
    have hqn : qs.length ≤ 8 := by omega
    have hal := hR.len
    have hAR : A ≠ L' + 1 + 1 := by
      intro e
      have q1 := (N₁ _ (List.mem_cons_of_mem _ hA)).1
      have q2 := (N₁ _ (List.mem_cons_of_mem _ (hb _ bR))).1
      rw [e, q2] at q1
      have q3 : oR = listOf (List.toArray avs) an := Option.some.inj q1
      rw [q3] at dR
      have q4 : Data.seq _ _ = Data.cell _ := dR
      cases q4
    have hRr : ∀ p ∈ (L' + 1, oc) :: (A, listOf (List.toArray avs) an) :: news, p.1 ≠ L' + 1 + 1 := by
      exact alC (Nat.ne_of_lt (Nat.lt_succ_self _)) (alC (hAR) (fun p hp => hn2 p hp))
    have N7 : News g' L' h₁ ((L' + 1 + 1, oR) :: (L' + 1, oc) :: (A, listOf (List.toArray avs) an) :: news) := news_sub N₁ (by
      exact alC (.tail _ (hb _ bR)) (alC (.head _) (alC (.tail _ hA) (fun p hp => .tail _ (hb _ (bn p hp))))))
    have hAP : A ≠ L' + 1 := ho _ hA
    have F₂ := frTop [("tree", .ref T0), ("parts", .ref A)] F₁ (ftA e1 (ftA e2 ft0))
    clear F₁ N₁ N6 F5 hA hb ho R5 hpl hqm Op Os bD bR bn
    dsimp only
    walk_at "mine gf"
    refine For_C ?_
    walk_at "mine go"
    rename_i R7 _ l7 _ oR7 dR7 B7 _ l8 hh8 F8 N8
    have hB1 : B7 ≠ L' + 1 := Nat.ne_of_gt l8.2.2.1
    have hB2 : B7 ≠ L' + 1 + 1 := Nat.ne_of_gt l8.2.1
    have hlt1 : @LT.lt Nat _ (L' + 1) B7 := l8.2.2.1
    have hlt2 : @LT.lt Nat _ (L' + 1 + 1) B7 := l8.2.1
    have hNB : ∀ q ∈ news, @LT.lt Nat _ q.1 B7 := allLt_m l8.2.2.2.2
    have N9 : News g' L' hh8 ((L' + 1, oc) :: (B7, listOf (List.toArray []) 0) :: (L' + 1 + 1, oR7) :: (R7, listOf (List.toArray []) 0) :: (A, listOf (List.toArray avs) an) :: news) := news_sub N8 (by
      exact alC (.tail _ (.tail _ (.tail _ (.head _)))) (alC (.head _) (alC (.tail _ (.tail _ (.head _))) (alC (.tail _ (.head _)) (fun p hp => .tail _ (.tail _ (.tail _ (.tail _ hp))))))))
    refine for_cell (c := L' + 1) (vs := avs) (n := an) (oc := oc) (v₀ := _) (WkB T0 A B7 L' avs an tree qs res news) rfl F8 N9 hoc (List.mem_cons_of_mem _ (List.mem_cons_of_mem _ (List.mem_cons_of_mem _ List.mem_cons_self))) rfl rfl rfl ?_ ?_ ?_ ?_
    · refine ⟨[], 0, R7, [], 0, (R7, listOf (List.toArray []) 0) :: (A, listOf (List.toArray avs) an) :: news, oR7, [], [], rfl, dR7, List.mem_cons_self, TxtIs.nil, ?_, ?_, ?_, List.mem_cons_of_mem _ List.mem_cons_self, fun p hp => List.mem_cons_of_mem _ (List.mem_cons_of_mem _ hp), ⟨[], (fun _ h => nomatch h), (fun _ h => nomatch h), .nil⟩, Nat.le_refl _, Nat.le_refl _, (fun _ h => nomatch h), hwk, rfl, rfl⟩
      · exact alC (Nat.ne_of_lt l8.1) (alC (Nat.ne_of_lt l8.2.2.2.1) (fun p hp => Nat.ne_of_lt (allLt_m l8.2.2.2.2 p hp)))
      · exact alC (Nat.ne_of_gt l7.1) (fun p hp => hRr p (List.mem_cons_of_mem _ hp))
      · exact alC (Nat.ne_of_gt l7.2.1) (alC (hAP) (fun p hp => hn1 p hp))
    · rintro i m nx ⟨bvs, bn, R, rvs, rn, tl, oR2, bills, row, rfl, _, _, _, _, _, h3, hA, _⟩
      refine ⟨List.mem_cons_of_mem _ (List.mem_cons_of_mem _ hA), ?_⟩
      exact alC (hB1) (alC (Nat.ne_of_gt (Nat.lt_succ_self _)) (fun p hp => h3 p hp))
    · rintro i v m₁ nx I io oc2 h₁ tk₁ W1 hW1 hic hv ⟨bvs, bn, R, rvs, rn, tl, oR2, bills, row, rfl, hoR2, hRm, hRt, t1, t2, t3, hA, hns, ⟨fr, hft, hfB, hD⟩, hbl, hrl, hrn, hres, e1, e2⟩ off hIc hoc2 F₁ N₁
      replace F₁ : Fr g' L' _ _ := F₁
      replace N₁ : News g' L' _ _ := N₁
      obtain ⟨tp, rfl, hi2⟩ := hR.at_ hv
      have hpt := hqv _ (show qs.getD i (Str.ofString "") ∈ qs by rw [List.getD_eq_getElem?_getD, List.getElem?_eq_getElem hi2]; exact List.getElem_mem hi2)
      have hdr : qs.drop i = qs.getD i (Str.ofString "") :: qs.drop (i + 1) := by
        rw [List.drop_eq_getElem_cons hi2, List.getD_eq_getElem?_getD, List.getElem?_eq_getElem hi2]
        rfl
      rw [hdr, wkGo] at hres
      generalize qs.getD i (Str.ofString "") = part at hv hpt hres hoc2
      clear hdr
      have F₂ := frTop [("tree", .ref T0), ("bills", .ref B7)] F₁ (ftA e1 (ftA e2 ft0))
      clear F₁ N8 N9 F8
      k_sweep
      walk_at "mine go"
      obtain ⟨b1, hb1⟩ : ∃ b1, b1 = ((I, io) :: (L' + 1, oc2) :: (B7, listOf bvs.toArray bn) :: (L' + 1 + 1, oR2) :: tl) := ⟨_, rfl⟩
      have c1 : (L' + 1, oc2) ∈ b1 := by rw [hb1]; exact List.mem_cons_of_mem _ List.mem_cons_self
      have c2 : (L' + 1 + 1, oR2) ∈ b1 := by rw [hb1]; exact List.mem_cons_of_mem _ (List.mem_cons_of_mem _ (List.mem_cons_of_mem _ List.mem_cons_self))
      have ctl : ∀ p ∈ tl, p ∈ b1 := by rw [hb1]; exact fun p hp => List.mem_cons_of_mem _ (List.mem_cons_of_mem _ (List.mem_cons_of_mem _ (List.mem_cons_of_mem _ hp)))
      have cB0 : (B7, listOf bvs.toArray bn) ∈ b1 := by rw [hb1]; exact List.mem_cons_of_mem _ (List.mem_cons_of_mem _ List.mem_cons_self)
      have c3 : (T0, listOf tvs.toArray tn) ∈ b1 := ctl _ (hns _ hm)
      rw [← hb1] at N₁
      have hTl := hT.length
      rw [List.length_map] at hTl
      have hOTl := OT.len
      refine LCt.CompSrcT.ledger rfl F₂ N₁ c3 (by rw [List.size_toArray, sizeLine_eq]; omega) ?_
      intro g9
      refine comp_ledTS ⟨_, _, rfl⟩ (n := tvs.toArray.size) (fun j ys nx => (∃ fr2 : List (Addr × Obj), (∀ p ∈ fr2, p ∈ nx) ∧ (∀ p ∈ fr2, @LT.lt Nat _ B7 p.1) ∧ PairsL fr2 ys (kidsW (tree.take j) part row)) ∧ ∀ p ∈ b1, p ∈ nx) ?_ ?_ ⟨⟨[], (fun _ h => nomatch h), (fun _ h => nomatch h), ⟨rfl, fun i v p hv => by cases hv⟩⟩, fun p hp => hp⟩
      · rintro j ys nx v I3 oI3 C3 oC3 D3 m₂ h tk9 E' hj ⟨⟨fr2, hf2, hf2B, hP⟩, hb⟩ hv3 hC hx3 F9 N9 off9 ne9
        have hj2 : j < tree.length := by rw [List.size_toArray] at hj; omega
        obtain ⟨v2, hv4, hd⟩ := hT.get (k := j) (by rw [List.length_map]; exact hj2)
        rw [show tvs.toArray[j]? = tvs[j]? by simp, hv4] at hv3
        injection hv3 with hv3
        subst hv3
        have hy2 : (tree.map wayD)[j]'(by rw [List.length_map]; exact hj2) = Dat.list (txtD (tree.getD j [])) := by
          rw [List.getElem_map, List.getD_eq_getElem?_getD, List.getElem?_eq_getElem hj2]
          rfl
        rw [hy2] at hd
        have hym : tree.getD j [] ∈ tree := by rw [List.getD_eq_getElem?_getD, List.getElem?_eq_getElem hj2]; exact List.getElem_mem hj2
        have hkt := kids_take (part := part) (row := row) hj2
        have hyl := OT.way _ hym
        have hyn := OT.name _ hym
        generalize kidsW (tree.take (j + 1)) part row = ks1 at hkt ⊢
        generalize kidsW (tree.take j) part row = ks0 at hkt hP
        generalize tree.getD j [] = y at hd hkt hyl hyn
        cases hd with
        | @list a wvs wn _ ha hal =>
        have R0 := txt_of_dat hal
        have hwl := R0.len
        have ham : (a, listOf wvs.toArray wn) ∈ nx := hb _ (ctl _ (hns _ ha))
        have hcm : (L' + 1, oc2) ∈ nx := hb _ c1
        have hcm2 : (L' + 1 + 1, oR2) ∈ nx := hb _ c2
        have hRn : (R, listOf (List.toArray rvs) rn) ∈ nx := hb _ (ctl _ hRm)
        have hd1 : DatAll [] wvs.dropLast (txtD y.dropLast) := R0.drop.dat
        have hd2 : DatAll [] rvs (txtD row) := hRt.dat
        have okT : ∀ xs : List Str, (∀ s ∈ xs, s ∈ namesL) → ∀ d ∈ txtD xs, kqdOk 8 d = true := by
          intro xs hx d hd
          obtain ⟨s, hs, rfl⟩ := List.mem_map.mp hd
          have := names_ok s (hx s hs)
          simp only [Bool.and_eq_true] at this
          exact this.1.1.1
        have ok1 : ∀ d ∈ txtD y.dropLast, kqdOk 8 d = true := okT _ fun s hs => hyn s (List.dropLast_subset _ hs)
        have ok2 : ∀ d ∈ txtD row, kqdOk 8 d = true := okT _ hrn
        obtain ⟨tl9, hl9⟩ := R0.get (i := y.length - 1) (by omega)
        rw [← hwl] at hl9
        have hwp : 0 < wvs.length := by omega
        have hwz : wvs.length ≤ 10000 := by omega
        have hnl : (y.getD (wvs.length - 1) (Str.ofString "")).length ≤ 60 := by
          have h1 : y.getD (wvs.length - 1) (Str.ofString "") ∈ y := by
            rw [List.getD_eq_getElem?_getD, List.getElem?_eq_getElem (by omega)]
            exact List.getElem_mem (by omega)
          have h2 := names_ok _ (hyn _ h1)
          simp only [Bool.and_eq_true, decide_eq_true_eq] at h2
          omega
        have hpl6 : part.length ≤ 60 := hpt.1
        clear okT N₁ F₂
        walk_at "mine go"
        · rename_i Dn _ ln heq _ _ _ n9 hs9 t9 q91 q92 Tp hh7 F7 N7 l7
          have hpw : priceW part y = (farL part (y.getD (wvs.length - 1) (Str.ofString "")), y.getD (wvs.length - 1) (Str.ofString "")) := by unfold priceW; rw [hwl]
          rw [if_pos (txtD_inj (dec_t heq)), hpw] at hkt
          have hnin : ∀ p ∈ (I3, oI3) :: (C3, oC3) :: (D3, LCg.lst ys) :: nx, p ∈ n9 := fun p hp => hs9 p (List.mem_cons_of_mem _ hp)
          refine LCg.CompEnd.intro F7 N7 ((Tp, tupOf [.int (farL part (y.getD (wvs.length - 1) (Str.ofString ""))) t9, .str (y.getD (wvs.length - 1) (Str.ofString "")) tl9] 0) :: nx) ?_ ?_ (.inr ⟨_, List.mem_cons_of_mem _ (hb _ c3), rfl, _, rfl⟩) ⟨?_, fun p hp => List.mem_cons_of_mem _ (hb p hp)⟩
          · exact alC (.tail _ q91) (alC (.tail _ q92) (alC (.tail _ (hnin _ (.tail _ (.tail _ (.head _))))) (alC (.head _) (fun p hp => .tail _ (hnin _ (.tail _ (.tail _ (.tail _ hp))))))))
          · exact ⟨⟨Nat.ne_of_gt (l7 _ q91), Nat.ne_of_gt (l7 _ q92), Nat.ne_of_gt (l7 (D3, LCg.lst ys) (hnin _ (.tail _ (.tail _ (.head _)))))⟩, off9⟩
          · rw [hkt]
            refine ⟨(Tp, tupOf [.int (farL part (y.getD (wvs.length - 1) (Str.ofString ""))) t9, .str (y.getD (wvs.length - 1) (Str.ofString "")) tl9] 0) :: fr2, ?_, ?_, (hP.mono fun p hp => List.mem_cons_of_mem _ hp).snoc List.mem_cons_self⟩
            · exact alC (.head _) (fun p hp => .tail _ (hf2 p hp))
            · exact alC (l7 (B7, listOf bvs.toArray bn) (hnin _ (.tail _ (.tail _ (.tail _ (hb _ cB0)))))) (fun p hp => hf2B p hp)
        · rename_i Dn hh7 F7 N7 ln heq
          refine LCg.CompEnd.intro F7 N7 nx (fun p hp => List.mem_cons_of_mem _ hp) off9 (.inr ⟨_, hb _ c3, rfl, _, rfl⟩) ⟨?_, hb⟩
          rw [hkt, if_neg fun e => dec_f heq (by rw [e])]
          exact ⟨fr2, hf2, hf2B, hP⟩
      · rintro ys nx ⟨⟨fr2, hf2, hf2B, hP⟩, hb⟩
        rw [List.size_toArray, hTl, List.take_length] at hP
        unfold LCg.FinE
        intro D4 h4 tk4 F4 N4 o4
        replace N4 : News g' L' h4 ((D4, listOf (List.toArray ys) ys.length) :: nx) := N4
        have h64 : (kidsW tree part row).length < 64 := Nat.lt_of_le_of_lt (kids_len tree part row) (by omega)
        have hbm : ∀ q ∈ sortL (kidsW tree part row), q.2 ∈ namesL := by
          intro q hq
          have hq2 := (sortL_perm _).mem_iff.mp hq
          obtain ⟨y, hy, rfl⟩ := List.mem_map.mp hq2
          have hy2 := (List.mem_filter.mp hy).1
          have hyl := OT.way _ hy2
          refine OT.name _ hy2 _ ?_
          show y.getD (y.length - 1) (Str.ofString "") ∈ y
          rw [List.getD_eq_getElem?_getD, List.getElem?_eq_getElem (by omega)]
          exact List.getElem_mem (by omega)
        have hokb : ∀ d ∈ (sortL (kidsW tree part row)).map pairD, kqdOk 8 d = true := by
          intro d hd
          obtain ⟨q, hq, rfl⟩ := List.mem_map.mp hd
          have h2 := names_ok _ (hbm q hq)
          simp only [Bool.and_eq_true] at h2
          show ([Dat.int q.1, Dat.str q.2].all (kqdOk 7)) = true
          simp only [List.all_cons, List.all_nil, kqdOk, h2.1.1.1, Bool.and_true]
        have hrsum : ((row.map (·.length)).sum + row.length) ≤ 1048576 := names_sum row hrn (by omega)
        have hbz : bvs.length ≤ 2 ^ 24 := by omega
        have cB : (B7, listOf bvs.toArray bn) ∈ nx := hb _ (by rw [hb1]; exact List.mem_cons_of_mem _ (List.mem_cons_of_mem _ List.mem_cons_self))
        have cI : (I, io) ∈ nx := hb _ (by rw [hb1]; exact List.mem_cons_self)
        have c2n := hb _ c2
        have c1n := hb _ c1
        have fnN : ∀ p ∈ nx, ∀ q ∈ nx, p.1 = q.1 → p.2 = q.2 := by
          intro p hp q hq e
          have q1 := (N4 _ (List.mem_cons_of_mem _ hp)).1
          have q2 := (N4 _ (List.mem_cons_of_mem _ hq)).1
          rw [e, q2] at q1
          exact (Option.some.inj q1).symm
        obtain ⟨rest, hrs⟩ : ∃ rest, rest = nx.filter fun p => decide (p.1 ≠ B7 ∧ p.1 ≠ L' + 1 + 1 ∧ p.1 ≠ L' + 1 ∧ p.1 ≠ I) := ⟨_, rfl⟩
        have hrin : ∀ p ∈ nx, p.1 ≠ B7 → p.1 ≠ L' + 1 + 1 → p.1 ≠ L' + 1 → p.1 ≠ I → p ∈ rest := fun p hp a1 a2 a3 a4 => by rw [hrs]; exact List.mem_filter.mpr ⟨hp, decide_eq_true ⟨a1, a2, a3, a4⟩⟩
        have hrnx : ∀ p ∈ rest, p ∈ nx := fun p hp => by rw [hrs] at hp; exact (List.mem_filter.mp hp).1
        have hrne : ∀ p ∈ rest, p.1 ≠ B7 ∧ p.1 ≠ L' + 1 + 1 ∧ p.1 ≠ L' + 1 ∧ p.1 ≠ I := fun p hp => by rw [hrs] at hp; exact of_decide_eq_true (List.mem_filter.mp hp).2
        have hrtl : ∀ p ∈ tl, p ∈ rest := fun p hp => hrin p (hb _ (ctl _ hp)) (t1 p hp) (t2 p hp) (t3 p hp) (off p (List.mem_cons_of_mem _ (List.mem_cons_of_mem _ hp)))
        obtain ⟨fr3, hf3⟩ : ∃ fr3, fr3 = fr2.filter fun p => decide (p.1 ≠ I) := ⟨_, rfl⟩
        have hP5 : PairsL fr3 ys (kidsW tree part row) := hP.only2 fun p hp us n e => by
          rw [hf3]
          refine List.mem_filter.mpr ⟨hp, decide_eq_true fun q => ?_⟩
          have := fnN p (hf2 p hp) _ cI q
          rw [e] at this
          exact hic (by rw [← show tupOf us n = io from this])
        have hf3s : SubOf fr3 rest := fun p hp => by
          rw [hf3] at hp
          have q := List.mem_filter.mp hp
          have qB := hf2B p q.1
          exact hrin p (hf2 p q.1) (Nat.ne_of_gt qB) (Nat.ne_of_gt (Nat.lt_trans hlt2 qB)) (Nat.ne_of_gt (Nat.lt_trans hlt1 qB)) (of_decide_eq_true q.2)
        have hf3B : ∀ p ∈ fr3, @LT.lt Nat _ B7 p.1 := fun p hp => by
          rw [hf3] at hp
          exact hf2B p (List.mem_filter.mp hp).1
        have hftr : ∀ p ∈ fr, p ∈ rest := fun p hp => hrtl p (hft p hp)
        have hD4 : ∀ p ∈ nx, p.1 ≠ D4 := fun p hp => by
          have q : LCg.Off3 D4 D4 D4 nx := by
            have : ∀ (l : List (Addr × Obj)), LCg.Off1 D4 l → LCg.Off3 D4 D4 D4 l := by
              intro l
              induction l with
              | nil => exact fun _ => trivial
              | cons q r ih => exact fun x => ⟨⟨x.1, x.1, x.1⟩, ih x.2⟩
            exact this nx o4
          exact (q.mem p hp).1
        have hD4B : D4 ≠ B7 := fun e => hD4 _ cB e.symm
        have hD4R : D4 ≠ L' + 1 + 1 := fun e => hD4 _ c2n e.symm
        have hIR : I ≠ L' + 1 + 1 := fun e => off (L' + 1 + 1, oR2) (List.mem_cons_of_mem _ List.mem_cons_self) e.symm
        have hIB : I ≠ B7 := fun e => off (B7, listOf bvs.toArray bn) List.mem_cons_self e.symm
        have hKR : ∀ p ∈ (L' + 1, oc2) :: (I, io) :: rest, p.1 ≠ L' + 1 + 1 := by
          exact alC (Nat.ne_of_lt (Nat.lt_succ_self _)) (alC (hIR) (fun p hp => (hrne p hp).2.1))
        have hKB : ∀ p ∈ (L' + 1 + 1, oR2) :: (L' + 1, oc2) :: (I, io) :: rest, p.1 ≠ B7 := by
          exact alC (hB2.symm) (alC (hB1.symm) (alC (hIB) (fun p hp => (hrne p hp).1)))
        have N5 : News g' L' h4 ((D4, listOf (List.toArray ys) ys.length) :: (B7, listOf bvs.toArray bn) :: (L' + 1 + 1, oR2) :: (L' + 1, oc2) :: (I, io) :: rest) := news_sub N4 (by
          exact alC (.head _) (alC (.tail _ cB) (alC (.tail _ c2n) (alC (.tail _ c1n) (alC (.tail _ cI) (fun p hp => .tail _ (hrnx p hp)))))))
        have hRr2 : (R, listOf (List.toArray rvs) rn) ∈ rest := hrtl _ hRm
        have hrvl := hRt.len
        have hrz : rvs.length + 1 ≤ 10000 := by omega
        clear N4 hP hb fnN hrin hrnx hrs c1 c2 ctl c3 hb1 o4 hD4 cB cI c1n c2n hf3 hf2 hf2B cB0 hft
        rw [show billW tree part row = sortL (kidsW tree part row) from rfl] at hres
        iterate 2 (all_goals (first | (k_unfold; (try dsimp only)) | walk1 | (dsimp only; walk1)))
        rename_i D6 vs6 c6 hh6 F6 N6 P6 l6
        by_cases hse : sortL (kidsW tree part row) = []
        · k_with "SUB" => exact absurd (show (sortL (kidsW tree part row)).map pairD = [] by rw [hse]; rfl) (dec_f (by assumption))
          walk_at "mine go"
          refine hW1 _ _ ?_
          dsimp only [CQ]
          walk_at "mine go"
          rename_i tS _ _ T8 _ _ _ l8 _ _ _ _
          refine hret _ _ _ _ (by assumption) (by assumption) ⟨fun p hp => by repeat (first | exact hrtl _ (hns _ hp) | refine List.mem_cons_of_mem _ ?_), (T8, ({ cls := .type "tuple", data := .seq #[Value.str (Str.ofString "/" ++ Txt.join (Str.ofString "/") row) tS, Value.ref B7] } : Obj)) :: (B7, listOf bvs.toArray bn) :: fr, ?_, fresh3 hNB l8.2.2.2.1 hfB, ?_⟩
          rotate_left
          · rw [hres, if_pos hse]
            exact .tuple (vs := [.str (Str.ofString "/" ++ Txt.join (Str.ofString "/") row) tS, .ref B7]) List.mem_cons_self (.cons (.str _ _) (.cons (.list (vs := bvs) (n := bn) (List.mem_cons_of_mem _ List.mem_cons_self) (hD.mono fun p hp => List.mem_cons_of_mem _ (List.mem_cons_of_mem _ hp))) .nil))
          · intro p hp
            rcases List.mem_cons.mp hp with rfl | hp
            · exact .head _
            · rcases List.mem_cons.mp hp with rfl | hp
              · exact .tail _ (.tail _ (.tail _ (.tail _ (.head _))))
              · have hp := hftr p hp
                repeat (first | exact hp | refine List.mem_cons_of_mem _ ?_)
        · have hbl0 : 0 < (sortL (kidsW tree part row)).length := List.length_pos_iff.mpr hse
          obtain ⟨b0, nb0, t0, u0, hc0, hm0⟩ := P6.get (i := 0) hbl0
          replace hm0 := hf3s.out hm0
          have hfn := hbm _ (getD_mem hbl0)
          rw [if_neg hse] at hres
          generalize (sortL (kidsW tree part row)).getD 0 p0 = fst at hm0 hfn hres
          k_with "SUB" => first
            | refine item_led (by assumption) (by k_mem) (by decide) (by decide) (by exact hc0) ?_ hl_const
            | refine tup1_led (by assumption) (by repeat (first | exact hm0 | refine List.mem_cons_of_mem _ ?_)) rfl rfl rfl rfl ?_ hl_const (fun _ => htl_name)
          walk_at "mine go"
          · exact absurd (List.map_eq_nil_iff.mp (dec_t (by assumption))) hse
          · rename_i Rn _ ln hh9 oR9 F9 N9 dR9
            have hIR9 : ∀ p ∈ (Rn, listOf (rvs ++ [Value.str fst.2 u0]).toArray 0) :: (D6, listOf vs6.toArray c6) :: rest, p.1 ≠ B7 ∧ p.1 ≠ L' + 1 + 1 ∧ p.1 ≠ L' + 1 ∧ p.1 ≠ I := by
              exact alC (⟨Nat.ne_of_gt ln.2.2.2.2.1, Nat.ne_of_gt ln.2.2.2.2.2.1, Nat.ne_of_gt ln.2.2.2.2.2.2.1, Nat.ne_of_gt ln.2.2.2.2.2.2.2.1⟩) (alC (⟨Nat.ne_of_gt l6.2.1, Nat.ne_of_gt l6.2.2.1, Nat.ne_of_gt l6.2.2.2.1, Nat.ne_of_gt l6.2.2.2.2.1⟩) (fun p hp => hrne p hp))
            have hin9 : ∀ p ∈ rest, p ∈ (Rn, listOf (rvs ++ [Value.str fst.2 u0]).toArray 0) :: (D6, listOf vs6.toArray c6) :: rest := fun p hp => List.mem_cons_of_mem _ (List.mem_cons_of_mem _ hp)
            refine hW1 _ _ ?_
            refine cEnd F9 N9 hoc2 ((B7, listOf (bvs ++ [Value.ref D6]).toArray (bn + 1)) :: (L' + 1 + 1, oR9) :: (Rn, listOf (rvs ++ [Value.str fst.2 u0]).toArray 0) :: (D6, listOf vs6.toArray c6) :: rest) ?_ ?_ ⟨bvs ++ [Value.ref D6], bn + 1, Rn, rvs ++ [Value.str fst.2 u0], 0, _, oR9, bills ++ [sortL (kidsW tree part row)], row ++ [fst.2], rfl, dR9, List.mem_cons_self, hRt.snoc, fun p hp => (hIR9 p hp).1, fun p hp => (hIR9 p hp).2.1, fun p hp => (hIR9 p hp).2.2.1, hin9 _ (hrtl _ hA), fun p hp => hin9 _ (hrtl _ (hns p hp)), ?_, ?_, ?_, ?_, hres, rfl, rfl⟩
            · exact alC (.tail _ (.tail _ (.tail _ (.tail _ (.tail _ (.tail _ (.tail _ (.tail _ (.head _))))))))) (alC (.tail _ (.tail _ (.tail _ (.tail _ (.tail _ (.tail _ (.tail _ (.head _)))))))) (alC (.tail _ (.tail _ (.tail _ (.tail _ (.tail _ (.head _)))))) (alC (.tail _ (.tail _ (.tail _ (.tail _ (.tail _ (.tail _ (.head _))))))) (alC (.head _) (alC (.tail _ (.tail _ (.tail _ (.head _)))) (fun p hp => .tail _ (.tail _ (.tail _ (.tail _ (.tail _ (.tail _ (.tail _ (.tail _ (.tail _ hp))))))))))))))
            · exact alC (hIB.symm) (alC (hIR.symm) (fun p hp => (hIR9 p hp).2.2.2))
            · rw [List.map_append]
              refine ⟨(D6, listOf vs6.toArray c6) :: (fr ++ fr3), ?_, ?_, (hD.mono fun p hp => List.mem_cons_of_mem _ (List.mem_append.mpr (.inl hp))).append (DatAll.one (DatIn.list List.mem_cons_self (P6.dat.mono fun p hp => List.mem_cons_of_mem _ (List.mem_append.mpr (.inr hp)))))⟩
              · intro p hp
                rcases List.mem_cons.mp hp with rfl | hp
                · exact .tail _ (.head _)
                · rcases List.mem_append.mp hp with hp | hp
                  · exact hin9 _ (hftr p hp)
                  · exact hin9 _ (hf3s.out hp)
              · intro p hp
                rcases List.mem_cons.mp hp with rfl | hp
                · exact l6.2.1
                · rcases List.mem_append.mp hp with hp | hp
                  · exact hfB p hp
                  · exact hf3B p hp
            · rw [List.length_append, List.length_singleton]; omega
            · rw [List.length_append, List.length_singleton]; omega
            · intro s hs
              rcases List.mem_append.mp hs with h | h
              · exact hrn s h
              · rw [List.mem_singleton.mp h]; exact hfn
    · rintro m₁ nx h₁ tk₁ oc2 v2 ⟨bvs, bn, R, rvs, rn, tl, oR2, bills, row, rfl, hoR2, hRm, hRt, t1, t2, t3, hA, hns, ⟨fr, hft, hfB, hD⟩, hbl, hrl, hrn, hres, e1, e2⟩ hoc2 F₁ N₁
      replace F₁ : Fr g' L' _ _ := F₁
      replace N₁ : News g' L' _ _ := N₁
      rw [hal, List.drop_length, wkGo] at hres
      have hrsum : ((row.map (·.length)).sum + row.length) ≤ 1048576 := names_sum row hrn (by omega)
      have F₂ := frTop [("bills", .ref B7)] F₁ (ftA e2 ft0)
      clear F₁ N8 N9 F8
      k_sweep
      walk_at "mine go"
      rename_i tS _ _ T8 _ _ _ l8 _ _ _ _
      refine hret _ _ _ _ (by assumption) (by assumption) ⟨fun p hp => List.mem_cons_of_mem _ (List.mem_cons_of_mem _ (List.mem_cons_of_mem _ (List.mem_cons_of_mem _ (hns p hp)))), (T8, ({ cls := .type "tuple", data := .seq #[Value.str (Str.ofString "/" ++ Txt.join (Str.ofString "/") row) tS, Value.ref B7] } : Obj)) :: (B7, listOf bvs.toArray bn) :: fr, ?_, fresh3 hNB l8.2.1 hfB, ?_⟩
      rotate_left
      · rw [hres]
        exact .tuple (vs := [.str (Str.ofString "/" ++ Txt.join (Str.ofString "/") row) tS, .ref B7]) List.mem_cons_self (.cons (.str _ _) (.cons (.list (vs := bvs) (n := bn) (List.mem_cons_of_mem _ List.mem_cons_self) (hD.mono fun p hp => List.mem_cons_of_mem _ (List.mem_cons_of_mem _ hp))) .nil))
      · exact alC (.head _) (alC (.tail _ (.tail _ (.head _))) (fun p hp => .tail _ (.tail _ (.tail _ (.tail _ (hft p hp))))))
end
end
end
end
end
section
open PySem PySem.W PyProof.Rows PySem.Calls PySem.Spec
theorem str_ext {a b : Str} (h : a.cps.toList = b.cps.toList) : a = b := Str.ext' (Array.toList_inj.mp h)
theorem li_append (a b : Str) : (a ++ b).cps.toList = a.cps.toList ++ b.cps.toList := by
  show (a.cps ++ b.cps).toList = _
  rw [Array.toList_append]
theorem li_len (a : Str) : a.cps.toList.length = a.length := by simp [Str.length]
theorem sl_eq : Str.ofString "/" = ⟨#[47]⟩ := by decide +kernel
theorem sl_li : (Str.ofString "/").cps.toList = [47] := by rw [sl_eq]
noncomputable def Free (x : Str) : Prop := 47 ∉ x.cps.toList
noncomputable def jn : List (List Nat) → List Nat
  | [] => []
  | [x] => x
  | x :: y :: r => x ++ 47 :: jn (y :: r)
theorem join_eq (xs : List Str) : Txt.join (Str.ofString "/") xs = Str.join (Str.ofString "/") xs := StrLaws.glued_eq_join _ _
theorem join_li : ∀ xs : List Str, (Str.join (Str.ofString "/") xs).cps.toList = jn (xs.map fun x => x.cps.toList)
  | [] => rfl
  | [x] => rfl
  | x :: y :: r => by
    show (x ++ Str.ofString "/" ++ Str.join (Str.ofString "/") (y :: r)).cps.toList = x.cps.toList ++ 47 :: jn (y.cps.toList :: r.map fun x => x.cps.toList)
    rw [li_append, li_append, join_li (y :: r), sl_li, List.append_assoc]
    rfl
theorem cut_inj : ∀ {a b r r' : List Nat}, a ++ 47 :: r = b ++ 47 :: r' → 47 ∉ a → 47 ∉ b → a = b ∧ r = r'
  | [], [], r, r', h, _, _ => ⟨rfl, (List.cons.inj h).2⟩
  | [], x :: b, r, r', h, _, hb => absurd (List.mem_cons.mpr (.inl (List.cons.inj h).1)) hb
  | x :: a, [], r, r', h, ha, _ => absurd (List.mem_cons.mpr (.inl (List.cons.inj h).1.symm)) ha
  | x :: a, y :: b, r, r', h, ha, hb => by
    have h' := List.cons.inj h
    obtain ⟨h1, h2⟩ := cut_inj (a := a) (b := b) h'.2 (fun q => ha (List.mem_cons_of_mem _ q)) (fun q => hb (List.mem_cons_of_mem _ q))
    exact ⟨by rw [h'.1, h1], h2⟩
theorem jn_inj : ∀ {p q : List (List Nat)}, p ≠ [] → q ≠ [] → (∀ x ∈ p, 47 ∉ x) → (∀ x ∈ q, 47 ∉ x) → jn p = jn q → p = q
  | [], _, h, _, _, _, _ => absurd rfl h
  | _ :: _, [], _, h, _, _, _ => absurd rfl h
  | [x], [y], _, _, _, _, h => by rw [show x = y from h]
  | [x], y :: z :: r, _, _, hp, _, h => by
    have h : x = y ++ 47 :: jn (z :: r) := h
    exact absurd (by rw [h]; simp) (hp x List.mem_cons_self)
  | y :: z :: r, [x], _, _, _, hq, h => by
    have h : y ++ 47 :: jn (z :: r) = x := h
    exact absurd (by rw [← h]; simp) (hq x List.mem_cons_self)
  | x :: x' :: p, y :: y' :: q, _, _, hp, hq, h => by
    have h : x ++ 47 :: jn (x' :: p) = y ++ 47 :: jn (y' :: q) := h
    obtain ⟨h1, h2⟩ := cut_inj h (hp x List.mem_cons_self) (hq y List.mem_cons_self)
    have h3 := jn_inj (p := x' :: p) (q := y' :: q) (by simp) (by simp) (fun z hz => hp z (List.mem_cons_of_mem _ hz)) (fun z hz => hq z (List.mem_cons_of_mem _ hz)) h2
    rw [h1, h3]
theorem li_inj : ∀ {xs ys : List Str}, (xs.map fun x => x.cps.toList) = (ys.map fun x => x.cps.toList) → xs = ys
  | [], [], _ => rfl
  | [], _ :: _, h => nomatch h
  | _ :: _, [], h => nomatch h
  | x :: xs, y :: ys, h => by
    have h' := List.cons.inj h
    rw [str_ext h'.1, li_inj h'.2]
theorem split_ne (x y : Str) : Txt.split x y ≠ [] := by
  unfold Txt.split
  split
  · simp
  · split
    · simp
    · rw [StrLaws.partsBetween_eq]
      obtain ⟨p, r, e⟩ := StrLaws.partsFrom_ne x y.length 0 (Builtin.Str.occurrences x y 0 x.length (x.length + 1))
      rw [e]; simp
theorem split_join {xs : List Str} (hx : xs ≠ []) (hf : ∀ x ∈ xs, Free x) : Txt.split (Txt.join (Str.ofString "/") xs) (Str.ofString "/") = xs := by
  rw [join_eq]
  have h := StrLaws.join_split (Str.join (Str.ofString "/") xs) (Str.ofString "/")
  have hs := split_ne (Str.join (Str.ofString "/") xs) (Str.ofString "/")
  have h2 : ∀ p ∈ Txt.split (Str.join (Str.ofString "/") xs) (Str.ofString "/"), 47 ∉ p.cps.toList := by
    rw [sl_eq]; exact StrLaws.split_free _ 47
  generalize Txt.split (Str.join (Str.ofString "/") xs) (Str.ofString "/") = ys at h hs h2
  have e := congrArg (fun z : Str => z.cps.toList) h
  simp only [join_li] at e
  refine li_inj (jn_inj ?_ ?_ ?_ ?_ e)
  · simp [hs]
  · simp [hx]
  · intro z hz
    obtain ⟨a, ha, rfl⟩ := List.mem_map.mp hz
    exact h2 a ha
  · intro z hz
    obtain ⟨a, ha, rfl⟩ := List.mem_map.mp hz
    exact hf a ha
theorem free_nil : Free (Str.ofString "") := by unfold Free; decide +kernel
theorem nil_li : (Str.ofString "").cps.toList = [] := by decide +kernel
theorem join_cons (x : Str) {xs : List Str} (h : xs ≠ []) : Txt.join (Str.ofString "/") (x :: xs) = x ++ Str.ofString "/" ++ Txt.join (Str.ofString "/") xs := by
  rw [join_eq, join_eq]
  match xs, h with
  | y :: r, _ => rfl
theorem nil_append (x : Str) : Str.ofString "" ++ x = x := str_ext (by rw [li_append, nil_li]; rfl)
theorem append_nil' (x : Str) : x ++ Str.ofString "" = x := str_ext (by rw [li_append, nil_li, List.append_nil])
/-- '/' and the joined row, cut at '/' -/
theorem split_way {row : List Str} (hr : row ≠ []) (hf : ∀ x ∈ row, Free x) : Txt.split (Str.ofString "/" ++ Txt.join (Str.ofString "/") row) (Str.ofString "/") = Str.ofString "" :: row := by
  have e : Str.ofString "/" ++ Txt.join (Str.ofString "/") row = Txt.join (Str.ofString "/") (Str.ofString "" :: row) := by rw [join_cons _ hr, nil_append]
  rw [e]
  exact split_join (by simp) fun x hx => by
    rcases List.mem_cons.mp hx with rfl | hx
    · exact free_nil
    · exact hf x hx
theorem split_way0 : Txt.split (Str.ofString "/" ++ Txt.join (Str.ofString "/") []) (Str.ofString "/") = [Str.ofString "", Str.ofString ""] := by
  have e : Str.ofString "/" ++ Txt.join (Str.ofString "/") [] = Txt.join (Str.ofString "/") [Str.ofString "", Str.ofString ""] := by decide +kernel
  rw [e]
  exact split_join (by simp) fun x hx => by
    simp only [List.mem_cons, List.not_mem_nil, or_false, or_self] at hx
    rw [hx]; exact free_nil
theorem jn_snoc : ∀ {xs : List (List Nat)} (n : List Nat), xs ≠ [] → jn (xs ++ [n]) = jn xs ++ 47 :: n
  | [], _, h => absurd rfl h
  | [x], n, _ => rfl
  | x :: y :: r, n, _ => by
    show x ++ 47 :: jn ((y :: r) ++ [n]) = (x ++ 47 :: jn (y :: r)) ++ 47 :: n
    rw [jn_snoc n (by simp)]; simp
theorem way_li (row : List Str) : (Str.ofString "/" ++ Txt.join (Str.ofString "/") row).cps.toList = 47 :: jn (row.map fun x => x.cps.toList) := by
  rw [li_append, sl_li, join_eq, join_li]; rfl
/-- where the last '/' stands -/
theorem rfind_li {x : Str} {p n : List Nat} (h : x.cps.toList = p ++ 47 :: n) (hn : 47 ∉ n) : Txt.rfind x (Str.ofString "/") = (p.length : Int) := by
  have hp : x.cps.toList[p.length]? = some 47 := by rw [h]; simp
  rcases rfind_whole x (Str.ofString "/") with ⟨_, hno⟩ | ⟨i, e, hi, hlast⟩
  · refine absurd ?_ (hno p.length)
    rw [sl_eq]; exact (StrLaws.subAt_one x 47 p.length).mpr hp
  · rw [e]
    rw [sl_eq] at hi hlast
    have hi' := (StrLaws.subAt_one x 47 i).mp hi
    have h1 : p.length ≤ i := Nat.le_of_not_lt fun q => hlast p.length q ((StrLaws.subAt_one x 47 p.length).mpr hp)
    by_cases h2 : i = p.length
    · rw [h2]
    · refine absurd ?_ hn
      rw [h, List.getElem?_append_right h1] at hi'
      have e2 : i - p.length = (i - p.length - 1) + 1 := by omega
      rw [e2, List.getElem?_cons_succ] at hi'
      exact List.mem_of_getElem? hi'
theorem from_li {x : Str} {i : Int} (h : 0 ≤ i ∧ i ≤ x.cps.toList.length) : (Txt.slice x (some i) none).cps.toList = x.cps.toList.drop i.toNat := by
  have e := StrLaws.sliceText_from h
  have e' : Txt.slice x (some i) none = _ := e
  rw [e']
  show (x.cps.toList.drop i.toNat).take _ = _
  exact List.take_of_length_le (by rw [List.length_drop]; omega)
theorem to_li {x : Str} {i : Int} (h : 0 ≤ i ∧ i ≤ x.cps.toList.length) : (Txt.slice x none (some i)).cps.toList = x.cps.toList.take i.toNat := by
  have e := StrLaws.sliceText_to h
  have e' : Txt.slice x none (some i) = _ := e
  rw [e']
  show (x.cps.toList.drop 0).take (i - 0).toNat = _
  rw [List.drop_zero, Int.sub_zero]
theorem base_li {x n : Str} {p : List Nat} (h : x.cps.toList = p ++ 47 :: n.cps.toList) (hn : Free n) : baseL x = n := by
  unfold baseL
  rw [rfind_li h hn]
  refine str_ext ?_
  rw [from_li ⟨by omega, by rw [h]; simp; omega⟩, h]
  have e : ((p.length : Int) + 1).toNat = p.length + 1 := by omega
  rw [e, List.drop_append]; simp
theorem head_li {x : Str} {p n : List Nat} (h : x.cps.toList = p ++ 47 :: n) (hn : 47 ∉ n) : (headL x).cps.toList = p ++ [47] := by
  unfold headL
  rw [rfind_li h hn, to_li ⟨by omega, by rw [h]; simp; omega⟩, h]
  have e : ((p.length : Int) + 1).toNat = p.length + 1 := by omega
  rw [e, List.take_append, List.take_of_length_le (by omega)]; simp
theorem dir_root {x n : Str} (h : x.cps.toList = 47 :: n.cps.toList) (hn : Free n) : dirL x = Str.ofString "/" := by
  have e : headL x = Str.ofString "/" := str_ext (by rw [head_li (p := []) h hn, sl_li]; rfl)
  unfold dirL
  rw [e]
  decide +kernel
theorem rstrip_li {x : Str} {p : List Nat} {c : Nat} (h : x.cps.toList = p ++ [c] ++ [47]) (hc : c ≠ 47) : (Txt.rstripChars x (Str.ofString "/")).cps.toList = p ++ [c] := by
  unfold Txt.rstripChars
  rw [PyProof.Rows.stripBy_eq, StrLaws.strSub_toList]
  have l : x.length = p.length + 2 := by rw [← li_len, h]; simp
  have e : stripHi (Str.ofString "/").cps.contains true x (stripLo (Str.ofString "/").cps.contains false x) = p.length + 1 := by
    simp only [stripHi, stripLo, if_true, Bool.false_eq_true, if_false]
    rw [List.drop_zero, h, l, sl_eq]
    have hc' : ((#[47] : Array Nat).contains c) = false := by simp; exact fun q => hc q
    rw [List.reverse_append, List.reverse_append]
    show p.length + 2 - (List.takeWhile _ (47 :: c :: p.reverse)).length = _
    rw [List.takeWhile_cons_of_pos (by simp), List.takeWhile_cons_of_neg (by rw [hc']; decide)]
    rfl
  have e0 : stripLo (Str.ofString "/").cps.contains false x = 0 := by unfold stripLo; rw [if_neg (by decide)]
  rw [e, e0, h]
  rw [List.drop_zero, Nat.sub_zero, List.take_append, List.take_of_length_le (by simp)]; simp
theorem mul_li : ∀ n : Nat, ∀ c ∈ (Txt.mul (Str.ofString "/") (n : Int)).cps.toList, c = 47 := by
  intro n c hc
  unfold Txt.mul at hc
  split at hc
  · exact nomatch hc
  · split at hc
    · rw [sl_li] at hc; exact List.mem_singleton.mp hc
    · have key : ∀ (k : Nat) (a : Array Nat), (∀ c ∈ a.toList, c = 47) → ∀ c ∈ ((List.replicate k (Str.ofString "/").cps).foldl (· ++ ·) a).toList, c = 47 := by
        intro k
        induction k with
        | zero => exact fun a h => h
        | succ k ih =>
          intro a h
          rw [List.replicate_succ, List.foldl_cons]
          refine ih _ ?_
          intro c hc
          rw [Array.toList_append] at hc
          rcases List.mem_append.mp hc with hc | hc
          · exact h c hc
          · rw [sl_li] at hc; exact List.mem_singleton.mp hc
      exact key _ _ (fun c hc => absurd hc (by simp)) c hc
theorem dir_deep {x y n : Str} {p : List Nat} {c : Nat} (hy : y.cps.toList = p ++ [c]) (hc : c ≠ 47) (h : x.cps.toList = y.cps.toList ++ 47 :: n.cps.toList) (hn : Free n) : dirL x = y := by
  have e : (headL x).cps.toList = p ++ [c] ++ [47] := by rw [head_li h hn, hy]
  unfold dirL
  have l : (headL x).length = p.length + 2 := by rw [← li_len, e]; simp
  rw [if_neg (by omega)]
  have hne : headL x ≠ Txt.mul (Str.ofString "/") ((headL x).length : Int) := by
    intro q
    have := mul_li (headL x).length c (by rw [← q, e]; simp)
    exact hc this
  rw [if_pos (by simpa using hne)]
  refine str_ext ?_
  rw [rstrip_li e hc, hy]
end
section
open PySem PySem.W PyProof.Rows PySem.Calls PySem.Spec
set_option maxHeartbeats 8000000
theorem name_free {s : Str} (h : s ∈ namesL) : Free s := by
  have q := names_ok s h
  simp only [Bool.and_eq_true, Bool.not_eq_true', decide_eq_true_eq] at q
  intro hm
  have := q.2
  rw [List.contains_iff_mem.mpr hm] at this
  cases this
theorem name_pos {s : Str} (h : s ∈ namesL) : 0 < s.length ∧ s.length ≤ 3 := by
  have q := names_ok s h
  simp only [Bool.and_eq_true, Bool.not_eq_true', decide_eq_true_eq] at q
  exact ⟨q.1.1.2, q.1.2⟩
theorem name_strOk {s : Str} (h : s ∈ namesL) : PyData.strOk s = true := by
  have q := names_ok s h
  simp only [Bool.and_eq_true] at q
  exact q.1.1.1
/-- the last sign of a text that is free of '/' and not empty -/
theorem last_sign {s : Str} (h : Free s) (hp : 0 < s.length) : ∃ q c, s.cps.toList = q ++ [c] ∧ c ≠ 47 := by
  have hne : s.cps.toList ≠ [] := fun e => by rw [← li_len, e] at hp; exact absurd hp (by decide)
  refine ⟨s.cps.toList.dropLast, s.cps.toList.getLast hne, (List.dropLast_concat_getLast hne).symm, fun e => h ?_⟩
  rw [← e]; exact List.getLast_mem hne
theorem jn_end : ∀ {xs : List Str}, xs ≠ [] → (∀ x ∈ xs, Free x ∧ 0 < x.length) → ∃ q c, jn (xs.map fun x => x.cps.toList) = q ++ [c] ∧ c ≠ 47
  | [], h, _ => absurd rfl h
  | [x], _, h => last_sign (h x List.mem_cons_self).1 (h x List.mem_cons_self).2
  | x :: y :: r, _, h => by
    obtain ⟨q, c, e, hc⟩ := jn_end (xs := y :: r) (by simp) (fun z hz => h z (List.mem_cons_of_mem _ hz))
    refine ⟨x.cps.toList ++ 47 :: q, c, ?_, hc⟩
    show x.cps.toList ++ 47 :: jn ((y :: r).map fun x => x.cps.toList) = _
    rw [e]; simp
theorem here_li (row : List Str) : (hereW row).cps.toList = 47 :: jn (row.map fun x => x.cps.toList) := way_li row
theorem here_end {row : List Str} (hr : row ≠ []) (h : ∀ x ∈ row, Free x ∧ 0 < x.length) : ∃ q c, (hereW row).cps.toList = q ++ [c] ∧ c ≠ 47 := by
  obtain ⟨q, c, e, hc⟩ := jn_end hr h
  exact ⟨47 :: q, c, by rw [here_li, e]; rfl, hc⟩
theorem here_snoc_li {row : List Str} (n : Str) (hr : row ≠ []) : (hereW (row ++ [n])).cps.toList = (hereW row).cps.toList ++ 47 :: n.cps.toList := by
  rw [here_li, here_li, List.map_append]
  show 47 :: jn (row.map _ ++ [n.cps.toList]) = _
  rw [jn_snoc _ (by simpa using hr)]; rfl
theorem here_nil : hereW [] = Str.ofString "/" := by unfold hereW; decide +kernel
theorem here_one_li (n : Str) : (hereW [n]).cps.toList = 47 :: n.cps.toList := here_li [n]
theorem base_here {row : List Str} {n : Str} (hn : Free n) : baseL (hereW (row ++ [n])) = n := by
  by_cases hr : row = []
  · subst hr; exact base_li (p := []) (here_one_li n) hn
  · exact base_li (here_snoc_li n hr) hn
theorem dir_here {row : List Str} {n : Str} (hf : ∀ x ∈ row, Free x ∧ 0 < x.length) (hn : Free n) : dirL (hereW (row ++ [n])) = hereW row := by
  by_cases hr : row = []
  · subst hr; rw [here_nil]; exact dir_root (here_one_li n) hn
  · obtain ⟨q, c, e, hc⟩ := here_end hr hf
    exact dir_deep e hc (here_snoc_li n hr) hn
theorem here_inj {row row' : List Str} (hf : ∀ x ∈ row, Free x ∧ 0 < x.length) (hf' : ∀ x ∈ row', Free x ∧ 0 < x.length) (h : hereW row = hereW row') : row = row' := by
  by_cases hr : row = []
  · by_cases hr' : row' = []
    · rw [hr, hr']
    · obtain ⟨q, c, e, hc⟩ := here_end hr' hf'
      rw [← h, hr, here_nil, sl_li] at e
      have := congrArg List.getLast? e
      simp at this
      exact absurd this.symm hc
  · by_cases hr' : row' = []
    · obtain ⟨q, c, e, hc⟩ := here_end hr hf
      rw [h, hr', here_nil, sl_li] at e
      have := congrArg List.getLast? e
      simp at this
      exact absurd this.symm hc
    · have e1 := split_way hr (fun x hx => (hf x hx).1)
      have e2 := split_way hr' (fun x hx => (hf' x hx).1)
      have e3 : Str.ofString "/" ++ Txt.join (Str.ofString "/") row = Str.ofString "/" ++ Txt.join (Str.ofString "/") row' := h
      rw [e3, e2] at e1
      exact (List.cons.inj e1).2.symm
theorem starts_li (y : Str) : Txt.startswith y (Str.ofString "/") = true ↔ y.cps.toList[0]? = some 47 := by
  rw [sl_eq]
  unfold Txt.startswith
  rw [Bool.and_eq_true, decide_eq_true_eq]
  exact StrLaws.subAt_one y 47 0
theorem ends_li {x : Str} (hx : 0 < x.length) : Txt.endswith x (Str.ofString "/") = true ↔ x.cps.toList[x.length - 1]? = some 47 := by
  rw [sl_eq]
  unfold Txt.endswith
  rw [Bool.and_eq_true, decide_eq_true_eq]
  refine Iff.trans ?_ (StrLaws.subAt_one x 47 (x.length - 1))
  show 0 + 1 ≤ x.length ∧ Builtin.Str.subAt x ⟨#[47]⟩ (x.length - 1) = true ↔ x.length - 1 + 1 ≤ x.length ∧ _
  constructor
  · exact fun h => ⟨by omega, h.2⟩
  · exact fun h => ⟨by omega, h.2⟩
theorem join_here {row : List Str} {n : Str} (hf : ∀ x ∈ row, Free x ∧ 0 < x.length) (hn : Free n) : joinL (hereW row) n = hereW (row ++ [n]) := by
  have l0 : 0 < (hereW row).length := by rw [← li_len, here_li]; simp
  unfold joinL
  rw [if_neg, if_neg (by omega)]
  · by_cases hr : row = []
    · subst hr
      rw [here_nil, if_pos (by decide +kernel)]
      refine str_ext ?_
      rw [li_append, sl_li]
      exact (here_one_li n).symm
    · obtain ⟨q, c, e, hc⟩ := here_end hr hf
      rw [if_neg]
      · refine str_ext ?_
        rw [li_append, li_append, sl_li, here_snoc_li n hr]; rfl
      · rw [ends_li l0, ← li_len, e]
        simp
        exact hc
  · rw [starts_li]
    exact fun h => hn (List.mem_of_getElem? h)
noncomputable def askP : List Str := [Str.ofString "a", Str.ofString "b", Str.ofString "aB", Str.ofString "BB", Str.ofString "Aab", Str.ofString "ba", Str.ofString "AAB", Str.ofString "B", Str.ofString "A"]
theorem askP_ne : ∀ p ∈ askP, (p == Str.ofString "") = false := by decide +kernel
noncomputable def PriceOk : Prop := ∀ p ∈ askP, ∀ n ∈ namesL, levL p n 100 = farL p n
theorem way_parts {y : List Str} (hy : 0 < y.length) : y = y.dropLast ++ [y.getD (y.length - 1) (Str.ofString "")] := by
  have hne : y ≠ [] := fun e => by subst e; exact absurd hy (by decide)
  have e : y.getD (y.length - 1) (Str.ofString "") = y.getLast hne := by
    rw [List.getD_eq_getElem?_getD, List.getElem?_eq_getElem (by omega), List.getLast_eq_getElem]; rfl
  rw [e]; exact (List.dropLast_concat_getLast hne).symm
theorem last_mem {y : List Str} (hy : 0 < y.length) : y.getD (y.length - 1) (Str.ofString "") ∈ y := by
  rw [List.getD_eq_getElem?_getD, List.getElem?_eq_getElem (by omega)]
  exact List.getElem_mem _
theorem kids_eq (PO : PriceOk) {tree : List (List Str)} {b : Nat} (T : TreeOk b tree) {p : Str} (hp : p ∈ askP) {row : List Str} (hrow : ∀ s ∈ row, s ∈ namesL) :
    ((tree.map hereW).filter fun x => dirL x == hereW row).map (priceL p) = kidsW tree p row := by
  unfold kidsW
  rw [List.filter_map, List.map_map]
  have fr : ∀ {l : List Str}, (∀ s ∈ l, s ∈ namesL) → ∀ x ∈ l, Free x ∧ 0 < x.length := fun h x hx => ⟨name_free (h x hx), (name_pos (h x hx)).1⟩
  have e1 : tree.filter ((fun x => dirL x == hereW row) ∘ hereW) = tree.filter (fun y => decide (y.dropLast = row)) := by
    refine List.filter_congr fun y hy => ?_
    have hl := (T.way y hy).1
    have hn := T.name y hy
    have hd : ∀ s ∈ y.dropLast, s ∈ namesL := fun s hs => hn s (List.dropLast_subset _ hs)
    show (dirL (hereW y) == hereW row) = _
    conv => lhs; rw [way_parts hl]
    rw [dir_here (fr hd) (name_free (hn _ (last_mem hl)))]
    rw [Bool.eq_iff_iff, beq_iff_eq, decide_eq_true_eq]
    exact ⟨here_inj (fr hd) (fr hrow), fun h => by rw [h]⟩
  rw [e1]
  refine List.map_congr_left fun y hy => ?_
  have hy := (List.mem_filter.mp hy).1
  have hl := (T.way y hy).1
  have hn := T.name y hy
  have hm := hn _ (last_mem hl)
  show priceL p (hereW y) = priceW p y
  unfold priceL priceW
  have e2 : baseL (hereW y) = y.getD (y.length - 1) (Str.ofString "") := by
    conv => lhs; rw [way_parts hl]
    exact base_here (name_free hm)
  rw [e2, PO p hp _ hm]
theorem drain_eq (PO : PriceOk) {tree : List (List Str)} {b : Nat} (T : TreeOk b tree) {p : Str} (hp : p ∈ askP) {row : List Str} (hrow : ∀ s ∈ row, s ∈ namesL) :
    drainL (heapOf p (hereW row) (tree.map hereW)) = billW tree p row := by
  have hpm := heapOf_perm p (hereW row) (tree.map hereW)
  rw [kids_eq PO T hp hrow] at hpm
  have hh := heapOf_heap p (hereW row) (tree.map hereW)
  generalize heapOf p (hereW row) (tree.map hereW) = h at hpm hh
  exact sortL_uniq ((drainN_perm _ h rfl).trans hpm) (drainN_sorted _ h rfl hh)
theorem empty_iff (PO : PriceOk) {tree : List (List Str)} {b : Nat} (T : TreeOk b tree) {p : Str} (hp : p ∈ askP) {row : List Str} (hrow : ∀ s ∈ row, s ∈ namesL) :
    heapOf p (hereW row) (tree.map hereW) = [] ↔ billW tree p row = [] := by
  have hpm := heapOf_perm p (hereW row) (tree.map hereW)
  rw [kids_eq PO T hp hrow] at hpm
  have hs := sortL_perm (kidsW tree p row)
  have l := (hpm.trans hs.symm).length_eq
  unfold billW
  rw [← List.length_eq_zero_iff, ← List.length_eq_zero_iff, l]
theorem bill_name {tree : List (List Str)} {b : Nat} (T : TreeOk b tree) {p : Str} {row : List Str} (h : billW tree p row ≠ []) : ((billW tree p row).getD 0 p0).2 ∈ namesL := by
  have hs := sortL_perm (kidsW tree p row)
  have hl : 0 < (billW tree p row).length := List.length_pos_iff.mpr h
  have hm : (billW tree p row).getD 0 p0 ∈ billW tree p row := getD_mem hl
  have hk : (billW tree p row).getD 0 p0 ∈ kidsW tree p row := hs.mem_iff.mp hm
  unfold kidsW at hk
  obtain ⟨y, hy, e⟩ := List.mem_map.mp hk
  rw [← e]
  have hy := (List.mem_filter.mp hy).1
  exact T.name y hy _ (last_mem (T.way y hy).1)
theorem go_eq (PO : PriceOk) {tree : List (List Str)} {b : Nat} (T : TreeOk b tree) : ∀ (ps row : List Str) (bills : List (List P2)), (∀ p ∈ ps, p ∈ askP) → (∀ s ∈ row, s ∈ namesL) →
    ledGo (tree.map hereW) ps (hereW row) bills = wkGo tree ps row bills
  | [], row, bills, _, _ => rfl
  | p :: r, row, bills, hps, hrow => by
    have hp := hps p List.mem_cons_self
    have fr : ∀ x ∈ row, Free x ∧ 0 < x.length := fun x hx => ⟨name_free (hrow x hx), (name_pos (hrow x hx)).1⟩
    rw [ledGo, wkGo, if_neg (by rw [askP_ne p hp]; decide), drain_eq PO T hp hrow]
    by_cases c : billW tree p row = []
    · rw [if_pos c, if_pos ((empty_iff PO T hp hrow).mpr c)]
    · rw [if_neg c, if_neg (fun q => c ((empty_iff PO T hp hrow).mp q))]
      have hn := bill_name T c
      rw [join_here fr (name_free hn)]
      refine go_eq PO T r _ _ (fun q hq => hps q (List.mem_cons_of_mem _ hq)) (fun s hs => ?_)
      rcases List.mem_append.mp hs with hs | hs
      · exact hrow s hs
      · rw [List.mem_singleton.mp hs]; exact hn
/-- normpath's walk over the parts and the plain one -/
theorem step_eq {acc : List Str} (c : Str) (h : Str.ofString ".." ∉ acc) : normStep acc c = wkStep acc c ∧ Str.ofString ".." ∉ wkStep acc c := by
  have nil_len : (Str.ofString "").length = 0 := by decide +kernel
  have e0 : c.length = 0 ↔ c = Str.ofString "" := by
    constructor
    · intro q
      refine str_ext ?_
      rw [nil_li]
      exact List.length_eq_zero_iff.mp (by rw [li_len]; exact q)
    · intro q; rw [q]; exact nil_len
  have d1 : (Str.ofString "" == Str.ofString "..") = false := by decide +kernel
  have d2 : (Str.ofString "." == Str.ofString "..") = false := by decide +kernel
  have d3 : Str.ofString ".." ≠ Str.ofString "" := by decide +kernel
  have d4 : Str.ofString ".." ≠ Str.ofString "." := by decide +kernel
  unfold normStep wkStep
  by_cases c1 : c = Str.ofString ".."
  · subst c1
    have b1 : (Str.ofString ".." == Str.ofString ".") = false := by decide +kernel
    have b2 : (Str.ofString ".." != Str.ofString "..") = false := by decide +kernel
    have b3 : (Str.ofString ".." == Str.ofString "..") = true := by decide +kernel
    rw [if_neg (fun q => d3 (e0.mp q)), b1, b2, b3]
    simp only [if_true, Bool.false_eq_true, if_false]
    refine ⟨?_, fun q => h (List.dropLast_subset _ q)⟩
    split
    · rename_i hl
      rw [if_neg]
      intro q
      refine h ?_
      have q2 := eq_of_beq q
      rw [← q2]
      rw [List.getD_eq_getElem?_getD, List.getElem?_eq_getElem (by omega)]
      exact List.getElem_mem _
    · rename_i hl
      have : acc = [] := List.length_eq_zero_iff.mp (by omega)
      rw [this]; rfl
  · have k1 : (c == Str.ofString "..") = false := by simpa using c1
    have k2 : (c != Str.ofString "..") = true := by simpa using c1
    rw [k1]
    by_cases c2 : c = Str.ofString ""
    · subst c2
      rw [if_pos nil_len, if_neg (by decide), if_pos (by simp)]
      exact ⟨rfl, h⟩
    · rw [if_neg (fun q => c2 (e0.mp q))]
      by_cases c3 : c = Str.ofString "."
      · subst c3
        rw [if_pos (by simp), if_neg (by decide), if_pos (by simp)]
        exact ⟨rfl, h⟩
      · rw [if_neg (by simpa using c3), if_pos k2, if_neg (by decide), if_neg]
        · refine ⟨rfl, fun q => ?_⟩
          rcases List.mem_append.mp q with q | q
          · exact h q
          · exact c1 (List.mem_singleton.mp q).symm
        · intro q
          simp only [List.any_cons, List.any_nil, Bool.or_false, Bool.or_eq_true, beq_iff_eq] at q
          rcases q with q | q
          · exact c2 q.symm
          · exact c3 q.symm
theorem acc_eq : ∀ (xs acc : List Str), Str.ofString ".." ∉ acc → xs.foldl normStep acc = xs.foldl wkStep acc
  | [], _, _ => rfl
  | x :: xs, acc, h => by
    have q := step_eq x h
    rw [List.foldl_cons, List.foldl_cons, q.1]
    exact acc_eq xs _ q.2
theorem wk_in : ∀ (xs acc : List Str), ∀ a ∈ xs.foldl wkStep acc, a ∈ acc ∨ (a ∈ xs ∧ a ≠ Str.ofString "" ∧ a ≠ Str.ofString "." ∧ a ≠ Str.ofString "..")
  | [], acc, a, h => .inl h
  | x :: xs, acc, a, h => by
    rw [List.foldl_cons] at h
    rcases wk_in xs _ a h with h | ⟨h, hr⟩
    · unfold wkStep at h
      split at h
      · exact .inl (List.dropLast_subset _ h)
      · rename_i n1
        split at h
        · exact .inl h
        · rename_i n2
          rcases List.mem_append.mp h with h | h
          · exact .inl h
          · have e := List.mem_singleton.mp h
            subst e
            refine .inr ⟨List.mem_cons_self, ?_, ?_, ?_⟩
            · rintro rfl; exact n2 (by simp)
            · rintro rfl; exact n2 (by simp)
            · rintro rfl; exact n1 (by simp)
    · exact .inr ⟨List.mem_cons_of_mem _ h, hr⟩
/-- what the two walks want of an asked text -/
structure AskOk (asked : Str) : Prop where
  e : normAcc (Txt.split (restL asked) (Str.ofString "/")) = partsW asked
  p : ∀ a ∈ partsW asked, a ∈ askP
theorem askP_free : ∀ p ∈ askP, (!(p.cps.toList.contains 47)) = true := by decide +kernel
theorem askP_Free {p : Str} (h : p ∈ askP) : Free p := by
  have q := askP_free p h
  rw [Bool.not_eq_true'] at q
  intro hm
  rw [List.contains_iff_mem.mpr hm] at q
  cases q
theorem led_eq (PO : PriceOk) {tree : List (List Str)} {b : Nat} (T : TreeOk b tree) {asked : Str} (A : AskOk asked) : ledL (tree.map hereW) asked = walkL tree asked := by
  unfold ledL walkL normL
  rw [A.e]
  have hp := A.p
  generalize partsW asked = ps at hp
  by_cases c : ps = []
  · subst c
    rw [split_way0]
    show ledGo (tree.map hereW) [Str.ofString ""] (Str.ofString "/") [] = wkGo tree [] [] []
    rw [ledGo, if_pos (by decide +kernel), wkGo, here_nil]
  · rw [split_way c (fun x hx => askP_Free (hp x hx))]
    show ledGo (tree.map hereW) ps (Str.ofString "/") [] = _
    rw [← here_nil]
    exact go_eq PO T ps [] [] hp (fun _ h => nomatch h)
end
section
open PySem PySem.W PyProof.Rows PySem.Calls PySem.Spec
theorem price_ok : PriceOk := by
  unfold PriceOk askP
  refine alC ?_ (alC ?_ (alC ?_ (alC ?_ (alC ?_ (alC ?_ (alC ?_ (alC ?_ (alC ?_ fun _ h => nomatch h))))))))
  all_goals decide +kernel
theorem bnd1 : ∀ b ∈ bndL, levL (Str.ofString "later") (Str.ofString "Taler") b ≠ farL (Str.ofString "later") (Str.ofString "Taler") → b < farL (Str.ofString "later") (Str.ofString "Taler") ∧ b < levL (Str.ofString "later") (Str.ofString "Taler") b := by decide +kernel
theorem bnd2 : ∀ b ∈ bndL, levL (Str.ofString "BA") (Str.ofString "aAb") b ≠ farL (Str.ofString "BA") (Str.ofString "aAb") → b < farL (Str.ofString "BA") (Str.ofString "aAb") ∧ b < levL (Str.ofString "BA") (Str.ofString "aAb") b := by decide +kernel
theorem long1 : levL (Txt.mul (Str.ofString "x") 41) (Str.ofString "yz") 5 = 6 := by decide +kernel
theorem long2 : levL (Txt.mul (Str.ofString "x") 41 ++ Str.ofString "y") (Txt.mul (Str.ofString "x") 41) 5 = 2 := by decide +kernel
theorem ask1_ok : AskOk (Str.ofString "/aB/./ba/AAB") := ⟨by decide +kernel, by decide +kernel⟩
theorem ask2_ok : AskOk (Str.ofString "/B/x/../A") := ⟨by decide +kernel, by decide +kernel⟩
theorem parts_free' : ∀ p ∈ partsT, (!(p.cps.toList.contains 47)) = true := by decide +kernel
theorem parts_cases : ∀ a ∈ partsT, a ≠ Str.ofString "" → a ≠ Str.ofString "." → a ≠ Str.ofString ".." → a ∈ askP := by decide +kernel
theorem figT_mem (c : Nat) : figT c ∈ partsT := by
  unfold figT
  have h : (c - 48) % 8 < partsT.length := Nat.mod_lt _ (by decide)
  rw [List.getD_eq_getElem?_getD, List.getElem?_eq_getElem h]
  exact List.getElem_mem h
theorem partsOf_mem (k : Int) : ∀ a ∈ partsOf k, a ∈ partsT := by
  intro a h
  unfold partsOf at h
  obtain ⟨c, _, rfl⟩ := List.mem_map.mp h
  exact figT_mem c
theorem figs_ne : ∀ m, m < 1000 → ((Nat.toDigits 10 m).map Char.toNat).isEmpty = false := by decide +kernel
theorem partsOf_ne (k : Int) : partsOf k ≠ [] := by
  unfold partsOf figs
  have := figs_ne (k.natAbs % 1000) (Nat.mod_lt _ (by decide))
  intro h
  rw [List.map_eq_nil_iff] at h
  rw [h] at this
  cases this
theorem partT_Free {p : Str} (h : p ∈ partsT) : Free p := by
  have q := parts_free' p h
  rw [Bool.not_eq_true'] at q
  intro hm
  rw [List.contains_iff_mem.mpr hm] at q
  cases q
theorem dot_li : (Str.ofString ".").cps.toList = [46] := by decide +kernel
theorem pre_li : (Str.ofString "/./").cps.toList = [47, 46, 47] := by decide +kernel
theorem dot_free : Free (Str.ofString ".") := by unfold Free; rw [dot_li]; decide
/-- what stands behind the first '/' -/
theorem one_li {x : Str} {r : List Nat} (h : x.cps.toList = 47 :: 46 :: r) : rootL x = Str.ofString "/" ∧ restL x = ⟨(46 :: r).toArray⟩ := by
  have l : x.cps.toList.length = r.length + 2 := by rw [h]; rfl
  have e1 : Txt.slice x none (some 1) = Str.ofString "/" := str_ext (by rw [to_li ⟨by decide, by rw [l]; omega⟩, h, sl_li]; rfl)
  have e2 : Txt.slice x (some 1) (some 2) = Str.ofString "." := by
    have e : Txt.slice x (some 1) (some 2) = _ := StrLaws.sliceText_plain (x := x) (i := 1) (j := 2) ⟨by decide, by decide, by rw [l]; omega⟩
    rw [e]
    refine str_ext ?_
    rw [h, dot_li]; rfl
  have e3 : Txt.slice x (some 1) none = ⟨(46 :: r).toArray⟩ := str_ext (by rw [from_li ⟨by decide, by rw [l]; omega⟩, h]; rfl)
  unfold rootL restL
  rw [e1, e2, e3]
  rw [if_neg (by decide +kernel), if_pos (by decide +kernel), if_neg (by decide +kernel), if_pos (by decide +kernel)]
  exact ⟨rfl, rfl⟩
theorem ask_li (k : Int) : (askL k).cps.toList = 47 :: 46 :: 47 :: jn ((partsOf k).map fun x => x.cps.toList) := by
  unfold askL
  rw [li_append, pre_li, join_eq, join_li]; rfl
theorem ask_root (k : Int) : rootL (askL k) = Str.ofString "/" := (one_li (ask_li k)).1
theorem ask_rest (k : Int) : restL (askL k) = Txt.join (Str.ofString "/") (Str.ofString "." :: partsOf k) := by
  rw [(one_li (ask_li k)).2, join_cons _ (partsOf_ne k)]
  refine str_ext ?_
  rw [li_append, li_append, dot_li, sl_li, join_eq, join_li]; rfl
theorem ask_split (k : Int) : Txt.split (askL k) (Str.ofString "/") = Str.ofString "" :: Str.ofString "." :: partsOf k := by
  have e : askL k = Txt.join (Str.ofString "/") (Str.ofString "" :: Str.ofString "." :: partsOf k) := by
    refine str_ext ?_
    rw [join_cons _ (by simp), join_cons _ (partsOf_ne k), ask_li, li_append, li_append, li_append, li_append, nil_li, dot_li, sl_li, join_eq, join_li]; rfl
  rw [e]
  exact split_join (by simp) fun x hx => by
    rcases List.mem_cons.mp hx with rfl | hx
    · exact free_nil
    · rcases List.mem_cons.mp hx with rfl | hx
      · exact dot_free
      · exact partT_Free (partsOf_mem k x hx)
theorem rest_split (k : Int) : Txt.split (restL (askL k)) (Str.ofString "/") = Str.ofString "." :: partsOf k := by
  rw [ask_rest]
  exact split_join (by simp) fun x hx => by
    rcases List.mem_cons.mp hx with rfl | hx
    · exact dot_free
    · exact partT_Free (partsOf_mem k x hx)
theorem ask_parts (k : Int) : partsW (askL k) = (partsOf k).foldl wkStep [] := by
  unfold partsW
  rw [ask_split, List.foldl_cons, List.foldl_cons]
  have e : wkStep (wkStep [] (Str.ofString "")) (Str.ofString ".") = [] := by decide +kernel
  rw [e]
theorem ask_ok (k : Int) : AskOk (askL k) where
  e := by
    unfold normAcc
    rw [rest_split, ask_parts, List.foldl_cons]
    have e : normStep [] (Str.ofString ".") = [] := by decide +kernel
    rw [e]
    exact acc_eq _ _ (by simp)
  p := by
    intro a h
    rw [ask_parts] at h
    rcases wk_in _ _ a h with h | ⟨h, h1, h2, h3⟩
    · exact nomatch h
    · exact parts_cases a (partsOf_mem k a h) h1 h2 h3
theorem asks_ok (ks : List Int) : ∀ a ∈ asksL ks, AskOk a := by
  intro a h
  unfold asksL at h
  rcases List.mem_append.mp h with h | h
  · rcases List.mem_cons.mp h with rfl | h
    · exact ask1_ok
    · rw [List.mem_singleton.mp h]; exact ask2_ok
  · obtain ⟨k, _, rfl⟩ := List.mem_map.mp h
    exact ask_ok k
/-- the sizes that led and walked want -/
structure AskSz (asked : Str) : Prop where
  a : 0 < asked.length ∧ asked.length ≤ 100
  r : rootL asked = Str.ofString "/"
  e : (restL asked).length ≤ 100
  s : (Txt.split (restL asked) (Str.ofString "/")).length ≤ 6
  p : ∀ a ∈ Txt.split (restL asked) (Str.ofString "/"), a.length ≤ 60
  s2 : (Txt.split asked (Str.ofString "/")).length ≤ 6
  p2 : ∀ a ∈ Txt.split asked (Str.ofString "/"), a.length ≤ 60 ∧ PyData.strOk a = true
theorem ask1_sz : AskSz (Str.ofString "/aB/./ba/AAB") := ⟨by decide +kernel, by decide +kernel, by decide +kernel, by decide +kernel, by decide +kernel, by decide +kernel, by decide +kernel⟩
theorem ask2_sz : AskSz (Str.ofString "/B/x/../A") := ⟨by decide +kernel, by decide +kernel, by decide +kernel, by decide +kernel, by decide +kernel, by decide +kernel, by decide +kernel⟩
theorem parts_sz : ∀ a ∈ Str.ofString "" :: Str.ofString "." :: partsT, a.length ≤ 3 ∧ PyData.strOk a = true := by decide +kernel
theorem join_len (xs : List Str) (h : ∀ a ∈ xs, a.length ≤ 3) : (Txt.join (Str.ofString "/") xs).length ≤ 4 * xs.length := by
  rw [join_eq]
  have q := StrLaws.join_length_le (Str.ofString "/") xs
  have e : (Str.ofString "/").length = 1 := by decide +kernel
  have s := StrLaws.sumLen_le xs h
  rw [e] at q
  omega
theorem partsOf_len (k : Int) : (partsOf k).length ≤ 3 := by unfold partsOf; rw [List.length_map]; exact figs_len k
theorem ask_sz (k : Int) : AskSz (askL k) := by
  have l := partsOf_len k
  have m2 : ∀ a ∈ Str.ofString "" :: Str.ofString "." :: partsOf k, a ∈ Str.ofString "" :: Str.ofString "." :: partsT := by
    intro a ha
    rcases List.mem_cons.mp ha with rfl | ha
    · exact .head _
    · rcases List.mem_cons.mp ha with rfl | ha
      · exact .tail _ (.head _)
      · exact .tail _ (.tail _ (partsOf_mem k a ha))
  have m3 : ∀ a ∈ Str.ofString "." :: partsOf k, a.length ≤ 3 := fun a ha => (parts_sz a (m2 a (.tail _ ha))).1
  have jl := join_len (partsOf k) (fun a ha => m3 a (.tail _ ha))
  have jl2 := join_len _ m3
  rw [List.length_cons] at jl2
  have pl : (Str.ofString "/./").length = 3 := by decide +kernel
  refine ⟨?_, ask_root k, ?_, ?_, ?_, ?_, ?_⟩
  · unfold askL
    rw [Str.length_append, pl]; omega
  · rw [ask_rest]; omega
  · rw [rest_split, List.length_cons]; omega
  · rw [rest_split]; exact fun a ha => Nat.le_trans (m3 a ha) (by decide)
  · rw [ask_split, List.length_cons, List.length_cons]; omega
  · rw [ask_split]
    exact fun a ha => ⟨Nat.le_trans (parts_sz a (m2 a ha)).1 (by decide), (parts_sz a (m2 a ha)).2⟩
theorem asks_sz (ks : List Int) : ∀ a ∈ asksL ks, AskSz a := by
  intro a h
  unfold asksL at h
  rcases List.mem_append.mp h with h | h
  · rcases List.mem_cons.mp h with rfl | h
    · exact ask1_sz
    · rw [List.mem_singleton.mp h]; exact ask2_sz
  · obtain ⟨k, _, rfl⟩ := List.mem_map.mp h
    exact ask_sz k
theorem walk_ok (ks : List Int) (hk : ks.length ≤ 4) {asked : Str} (S : AskSz asked) : WalkOk (treeL ks) asked where
  t := ⟨3 + ks.length, by omega, treeL_ok ks⟩
  a := Nat.le_trans S.a.2 (by decide)
  s := Nat.le_trans S.s2 (by decide)
  p := S.p2
theorem askP_len : ∀ p ∈ askP, p.length ≤ 3 := by decide +kernel
theorem part_len {asked : Str} (S : AskSz asked) : (partsW asked).length ≤ 6 := by
  have := (wk_spec (Txt.split asked (Str.ofString "/")) []).1
  have s := S.s2
  unfold partsW
  simp only [List.length_nil] at this
  omega
theorem way_ok' {b : Nat} {t : List (List Str)} (T : TreeOk b t) (hb : b ≤ 7) {y : List Str} (hy : y ∈ t) : (hereW y).length ≤ 60 ∧ PyData.strOk (baseL (hereW y)) = true := by
  have hw := T.way y hy
  have hn := T.name y hy
  have jl := join_len y (fun a ha => (name_pos (hn a ha)).2)
  have e : (Str.ofString "/").length = 1 := by decide +kernel
  refine ⟨?_, ?_⟩
  · unfold hereW
    rw [Str.length_append, e]; omega
  · have hm := hn _ (last_mem hw.1)
    have e2 : baseL (hereW y) = y.getD (y.length - 1) (Str.ofString "") := by
      conv => lhs; rw [way_parts hw.1]
      exact base_here (name_free hm)
    rw [e2]
    exact name_strOk hm
theorem led_ok (ks : List Int) (hk : ks.length ≤ 4) {asked : Str} (S : AskSz asked) (A : AskOk asked) : LedOk ((treeL ks).map hereW) asked := by
  have T := treeL_ok ks
  have hl := T.len
  have hN : normL asked = hereW (partsW asked) := by unfold normL; rw [A.e]; rfl
  have pl := part_len S
  have p3 : ∀ a ∈ partsW asked, a.length ≤ 3 := fun a ha => askP_len a (A.p a ha)
  have jl := join_len (partsW asked) p3
  have e : (Str.ofString "/").length = 1 := by decide +kernel
  have en : (Str.ofString "").length = 0 := by decide +kernel
  refine ⟨?_, ?_, ⟨S.a.1, Nat.le_trans S.a.2 (by decide)⟩, S.r, Nat.le_trans S.e (by decide), Nat.le_trans S.s (by decide), fun a ha => Nat.le_trans (S.p a ha) (by decide), ?_, ?_, ?_⟩
  · rw [List.length_map]; omega
  · intro x hx
    obtain ⟨y, hy, rfl⟩ := List.mem_map.mp hx
    exact way_ok' T (by omega) hy
  · rw [hN]
    unfold hereW
    rw [Str.length_append, e]; omega
  · rw [hN]
    by_cases c : partsW asked = []
    · rw [c]; unfold hereW; rw [split_way0]; decide
    · unfold hereW; rw [split_way c (fun x hx => askP_Free (A.p x hx)), List.length_cons]; omega
  · rw [hN]
    by_cases c : partsW asked = []
    · rw [c]; unfold hereW; rw [split_way0]
      intro a ha
      simp only [List.mem_cons, List.not_mem_nil, or_false, or_self] at ha
      rw [ha, en]; decide
    · unfold hereW; rw [split_way c (fun x hx => askP_Free (A.p x hx))]
      intro a ha
      rcases List.mem_cons.mp ha with rfl | ha
      · rw [en]; decide
      · exact Nat.le_trans (p3 a ha) (by decide)
/-- the plain law -/
theorem plain_law (ks js : List Int) : (asksL js).map (fun a => ledL ((treeL ks).map hereW) a) = (asksL js).map (fun a => walkL (treeL ks) a) :=
  List.map_congr_left fun a ha => led_eq price_ok (treeL_ok ks) (asks_ok js a ha)
end
section
open PySem PySem.W PyProof.Rows PySem.Calls PySem.Spec
noncomputable def noCell (o : Obj) : Bool := match o.data with | .cell _ => false | _ => true
theorem noCell_f {o : Obj} {x : Option Value} (h : o.data = .cell x) : noCell o = false := by unfold noCell; rw [h]
mutual
theorem DatIn.only {st st' : List (Addr × Obj)} (h : ∀ p ∈ st, noCell p.2 = true → p ∈ st') : ∀ {v : Value} {d : Dat}, DatIn st v d → DatIn st' v d
  | _, _, .none => .none
  | _, _, .bool b => .bool b
  | _, _, .int i t => .int i t
  | _, _, .str x t => .str x t
  | _, _, .bytes b t => .bytes b t
  | _, _, .tuple hm r => .tuple (h _ hm rfl) (DatAll.only h r)
  | _, _, .list hm r => .list (h _ hm rfl) (DatAll.only h r)
theorem DatAll.only {st st' : List (Addr × Obj)} (h : ∀ p ∈ st, noCell p.2 = true → p ∈ st') : ∀ {vs : List Value} {ds : List Dat}, DatAll st vs ds → DatAll st' vs ds
  | _, _, .nil => .nil
  | _, _, .cons a r => .cons (DatIn.only h a) (DatAll.only h r)
end
theorem split_cells {h₀ h : Heap} {L c1 c2 : Addr} {n9 : List (Addr × Obj)} {o1 o2 : Obj} {x1 x2 : Option Value} (N : News h₀ L h n9) (m1 : (c1, o1) ∈ n9) (m2 : (c2, o2) ∈ n9) (d1 : o1.data = .cell x1) (d2 : o2.data = .cell x2) :
    ∃ rt, News h₀ L h ((c2, o2) :: (c1, o1) :: rt) ∧ (∀ p ∈ rt, p.1 ≠ c1) ∧ (∀ p ∈ rt, p.1 ≠ c2) ∧ (∀ p ∈ n9, noCell p.2 = true → p ∈ rt) := by
  have ne : ∀ {c : Addr} {o : Obj} {x : Option Value}, (c, o) ∈ n9 → o.data = .cell x → ∀ p ∈ n9.filter (fun p => noCell p.2), p.1 ≠ c := by
    intro c o x hm hd p hp e
    obtain ⟨hp, hc⟩ := List.mem_filter.mp hp
    have q1 := (N _ hp).1
    have q2 := (N _ hm).1
    rw [e, q2] at q1
    rw [← Option.some.inj q1, noCell_f hd] at hc
    cases hc
  refine ⟨n9.filter (fun p => noCell p.2), fun p hp => ?_, ne m1 d1, ne m2 d2, fun p hp hc => List.mem_filter.mpr ⟨hp, hc⟩⟩
  rcases List.mem_cons.mp hp with rfl | hp
  · exact N _ m2
  · rcases List.mem_cons.mp hp with rfl | hp
    · exact N _ m1
    · exact N _ (List.mem_filter.mp hp).1
theorem turn_res {nx n9 : List (Addr × Obj)} {I C D : Addr} {oI oC : Obj} {ys : List Value} {ds : List Dat} {r : Value} {d : Dat} (off : LCg.Off3 I C D nx) (R : ResIs ((I, oI) :: (C, oC) :: (D, LCg.lst ys) :: nx) n9 r d) (hD : DatAll nx ys ds) :
    ∃ nx', (∀ p ∈ (I, oI) :: (C, oC) :: (D, LCg.lst ys) :: nx', p ∈ n9) ∧ LCg.Off3 I C D nx' ∧ (∀ p ∈ nx, p ∈ nx') ∧ DatAll nx' (ys ++ [r]) (ds ++ [d]) := by
  obtain ⟨hs, st, hst, hne, hr⟩ := R
  have q : ∀ p ∈ n9, p.1 ≠ I → p.1 ≠ C → p.1 ≠ D → p ∈ n9.filter (fun p => decide (p.1 ≠ I ∧ p.1 ≠ C ∧ p.1 ≠ D)) := fun p hp a b c => List.mem_filter.mpr ⟨hp, decide_eq_true ⟨a, b, c⟩⟩
  have hsub : ∀ p ∈ nx, p ∈ n9.filter (fun p => decide (p.1 ≠ I ∧ p.1 ≠ C ∧ p.1 ≠ D)) := fun p hp => by
    have o := off.mem p hp
    exact q p (hs p (.tail _ (.tail _ (.tail _ hp)))) o.1 o.2.1 o.2.2
  refine ⟨n9.filter (fun p => decide (p.1 ≠ I ∧ p.1 ≠ C ∧ p.1 ≠ D)), ?_, ?_, hsub, ?_⟩
  · exact alC (hs _ (.head _)) (alC (hs _ (.tail _ (.head _))) (alC (hs _ (.tail _ (.tail _ (.head _)))) (fun p hp => (List.mem_filter.mp hp).1)))
  · refine LCg.Off3.of fun p hp => ?_
    exact of_decide_eq_true (List.mem_filter.mp hp).2
  · refine (hD.mono hsub).append (DatAll.one (hr.mono fun p hp => ?_))
    exact q p (hst p hp) (hne p hp (I, oI) (.head _)) (hne p hp (C, oC) (.tail _ (.head _))) (hne p hp (D, LCg.lst ys) (.tail _ (.tail _ (.head _))))
noncomputable def resD (x : Str × List (List P2)) : Dat := .tuple [.str x.1, .list (x.2.map billD)]
theorem jn_mem : ∀ {xs : List (List Nat)} {c : Nat}, c ∈ jn xs → c = 47 ∨ ∃ x ∈ xs, c ∈ x
  | [], c, h => nomatch h
  | [x], c, h => .inr ⟨x, .head _, h⟩
  | x :: y :: r, c, h => by
    have h : c ∈ x ++ 47 :: jn (y :: r) := h
    rcases List.mem_append.mp h with h | h
    · exact .inr ⟨x, .head _, h⟩
    · rcases List.mem_cons.mp h with h | h
      · exact .inl h
      · rcases jn_mem h with h | ⟨z, hz, h⟩
        · exact .inl h
        · exact .inr ⟨z, .tail _ hz, h⟩
theorem strOk_iff {x : Str} : PyData.strOk x = true ↔ ∀ c ∈ x.cps.toList, c < 0x110000 := by
  unfold PyData.strOk
  rw [← Array.all_toList, List.all_eq_true]
  exact ⟨fun h c hc => of_decide_eq_true (h c hc), fun h c hc => decide_eq_true (h c hc)⟩
theorem here_ok {row : List Str} (h : ∀ s ∈ row, s ∈ namesL) : PyData.strOk (hereW row) = true := by
  rw [strOk_iff, here_li]
  intro c hc
  rcases List.mem_cons.mp hc with rfl | hc
  · decide
  · rcases jn_mem hc with rfl | ⟨x, hx, hc⟩
    · decide
    · obtain ⟨s, hs, rfl⟩ := List.mem_map.mp hx
      exact strOk_iff.mp (name_strOk (h s hs)) c hc
theorem bill_names {tree : List (List Str)} {b : Nat} (T : TreeOk b tree) {p : Str} {row : List Str} : ∀ q ∈ billW tree p row, q.2 ∈ namesL := by
  intro q hq
  have hk : q ∈ kidsW tree p row := (sortL_perm (kidsW tree p row)).mem_iff.mp hq
  unfold kidsW at hk
  obtain ⟨y, hy, e⟩ := List.mem_map.mp hk
  rw [← e]
  have hy := (List.mem_filter.mp hy).1
  exact T.name y hy _ (last_mem (T.way y hy).1)
theorem wk_ok {tree : List (List Str)} {b : Nat} (T : TreeOk b tree) : ∀ (ps row : List Str) (bills : List (List P2)), (∀ s ∈ row, s ∈ namesL) → (∀ b ∈ bills, ∀ q ∈ b, q.2 ∈ namesL) →
    PyData.strOk (wkGo tree ps row bills).1 = true ∧ ∀ b ∈ (wkGo tree ps row bills).2, ∀ q ∈ b, q.2 ∈ namesL
  | [], row, bills, hr, hb => ⟨here_ok hr, hb⟩
  | p :: r, row, bills, hr, hb => by
    rw [wkGo]
    split
    · exact ⟨here_ok hr, hb⟩
    · rename_i c
      refine wk_ok T r _ _ (fun s hs => ?_) (fun b hb' => ?_)
      · rcases List.mem_append.mp hs with hs | hs
        · exact hr s hs
        · rw [List.mem_singleton.mp hs]; exact bill_name T c
      · rcases List.mem_append.mp hb' with h | h
        · exact hb b h
        · rw [List.mem_singleton.mp h]; exact bill_names T
theorem res_ok {tree : List (List Str)} {b : Nat} (T : TreeOk b tree) (asked : Str) : kqdOk 8 (resD (walkL tree asked)) = true := by
  have h := wk_ok T (partsW asked) [] [] (fun _ h => nomatch h) (fun _ h => nomatch h)
  have e : walkL tree asked = wkGo tree (partsW asked) [] [] := rfl
  rw [← e] at h
  show ([Dat.str (walkL tree asked).1, Dat.list ((walkL tree asked).2.map billD)].all (kqdOk 7)) = true
  have h2 : kqdOk 7 (Dat.list ((walkL tree asked).2.map billD)) = true := by
    show (((walkL tree asked).2.map billD).all (kqdOk 6)) = true
    rw [List.all_eq_true]
    intro d hd
    obtain ⟨bl, hbl, rfl⟩ := List.mem_map.mp hd
    show ((bl.map pairD).all (kqdOk 5)) = true
    rw [List.all_eq_true]
    intro d hd
    obtain ⟨q, hq, rfl⟩ := List.mem_map.mp hd
    show ([Dat.int q.1, Dat.str q.2].all (kqdOk 4)) = true
    simp only [List.all_cons, List.all_nil, kqdOk, name_strOk (h.2 bl hbl q hq), Bool.and_true]
  simp only [List.all_cons, List.all_nil, h2, Bool.and_true]
  exact h.1
theorem ress_ok (ks : List Int) (as : List Str) : ∀ d ∈ as.map (fun a => resD (walkL (treeL ks) a)), kqdOk 8 d = true := by
  intro d hd
  obtain ⟨a, _, rfl⟩ := List.mem_map.mp hd
  exact res_ok (treeL_ok ks) a
/-- led, told by the plain walk -/
theorem led_con' (w : World) (W0 : Addr) (wvs : List Value) (wn : Nat) (ks js : List Int) (hk : ks.length ≤ 4) (asked : Str) (ta : Tok) (ha : asked ∈ asksL js) (hR : TxtIs wvs ((treeL ks).map hereW)) (news : List (Addr × Obj)) (hm : (W0, listOf wvs.toArray wn) ∈ news) :
    Con w 211 [.ref W0, .str asked ta] 4 news (fun r news' => ResIs news news' r (resD (walkL (treeL ks) asked))) := by
  have h := led_con w W0 wvs wn ((treeL ks).map hereW) asked ta (led_ok ks hk (asks_sz js asked ha) (asks_ok js asked ha)) hR news hm
  rw [led_eq price_ok (treeL_ok ks) (asks_ok js asked ha)] at h
  exact h
theorem walked_con' (w : World) (T0 : Addr) (tvs : List Value) (tn : Nat) (ks js : List Int) (hk : ks.length ≤ 4) (asked : Str) (ta : Tok) (ha : asked ∈ asksL js) (news : List (Addr × Obj)) (hm : (T0, listOf tvs.toArray tn) ∈ news) (hT : DatAll news tvs ((treeL ks).map wayD)) :
    Con w 226 [.ref T0, .str asked ta] 4 news (fun r news' => ResIs news news' r (resD (walkL (treeL ks) asked))) :=
  walked_con w T0 tvs tn (treeL ks) asked ta (walk_ok ks hk (asks_sz js asked ha)) news hm hT
end
section
open PySem PySem.W PyProof.Rows PySem.Calls PySem.Spec
theorem ints_take {vs : List Value} {ks : List Int} {n : Nat} (h : IntsAre vs (List.take n ks)) : ∃ k : List Int, k.length ≤ n ∧ IntsAre vs k := ⟨_, List.length_take_le _ _, h⟩
theorem ints_take2 {vs : List Value} {ks : List Int} {n : Nat} (h : IntsAre vs (List.take (min 6 n - 4) ks)) : ∃ k : List Int, k.length ≤ 4 ∧ IntsAre vs k := ⟨_, Nat.le_trans (List.length_take_le _ _) (by omega), h⟩
theorem dec_rfl {α : Type} {a : α} {i : Decidable (a = a)} : @decide (a = a) i = true := @decide_eq_true _ i rfl
theorem asks_len (js : List Int) : (asksL js).length = 2 + js.length := by unfold asksL; rw [List.length_append, List.length_map]; rfl
set_option hygiene false
local macro_rules | `(tactic| walk_at "call builtin:str.join") => `(tactic| (k_here; (with_reducible refine' sjoin_led (by k_dflt assumption) (by k_dflt k_mem) (by k_dflt assumption) (by k_dflt (exact Nat.le_of_ble_eq_true rfl)) (by k_dflt assumption) ?_); intro _ _ _))
local macro_rules | `(tactic| walk_at "eval ListComp") => `(tactic| (k_here; k_dflt (refine LCg.ListComp_U (F₀ := by k_asm) (by with_unfolding_all rfl) (by decide) (by rfl) (by decide) (by rfl) ?_)))
local macro_rules | `(tactic| walk_at "CompSrc") => `(tactic| (k_here; refine Hold.out ?_))
local macro_rules | `(tactic| walk_at "mine gs") => `(tactic| repeat' (first | (k_unfold; (try dsimp only)) | ((fail_if_success (with_reducible show wpAny _ _ (exec (PySem.Stmt.While _ _ _ _) _) _ _ _)); (fail_if_success (with_reducible show wpAny _ _ (pyIter _) _ _ _)); (fail_if_success (with_reducible show wpAny _ _ (call (Value.ref _) [Value.ref _]) _ _ _)); (fail_if_success (with_reducible show wpAny _ _ (call (Value.ref _) [Value.ref _, Value.str _ _]) _ _ _)); first | walk1 | (dsimp only; walk1)) | (leave1; (try dsimp only)) | fail "no step"))
set_option hygiene true
local macro_rules | `(tactic| walk_at "call ref") => `(tactic| (k_here; first
  | ((with_reducible show wpAny _ _ (call (Value.ref 221) _) _ _ _); k_dflt ((refine' Con.useA (bounded_con _ _ _ _ _ (by decide +kernel) (by decide +kernel) (by first | exact bnd1 | exact bnd2) _) ?_); (intro _ _ _ _ _ N9 P9); (obtain ⟨hs9, e9⟩ := P9; subst e9; replace N9 := news_sub N9 hs9; clear hs9); walk_at "mine end"))
  | ((with_reducible show wpAny _ _ (call (Value.ref 35) _) _ _ _); k_dflt ((refine' Con.useA (lev_con _ _ _ _ _ _ _ (by decide +kernel) (by decide +kernel) (by decide) _) ?_); (intro _ _ _ _ _ N9 P9); (obtain ⟨e8, t9, e9⟩ := P9; replace e8 := e8.symm; subst e8; (first | rw [long1] at e9 | rw [long2] at e9); subst e9); walk_at "mine end"))))
set_option maxHeartbeats 8000000
theorem law_holds : PySem.Challenge.rw_pd0191_01.Holds := hd (by
  k_with_none
  w_top off
  k_go0
  (all_goals try k_fold)
  rename_i w s₀ s₁ mg mb G Y fa o pm doc ho hg KX X V GL T B TE TW wa wb M wc wd hcd ks hs hlay0 hL1 hr1 hl2 we wf lS svs wi hL ra wr1 r0 hI hr hc1 hc2 K0 hD h1 tk1 F1 oW oD dW dD N0 X0
  walk_at "mine gs"
  rename IntsAre _ (List.take 4 _) => hI4
  obtain ⟨k4, hk4, hI5⟩ := ints_take hI4
  (refine' Con.useA (tree_con _ _ _ _ k4 (rowIs_of hI5) hk4 _ List.mem_cons_self) ?_; (intro r9 h9 tk9 n9 F9 N9 P9); (obtain ⟨hs9, D1, dvs, dn, e9, hD1, hA1⟩ := P9; subst e9); (try k_sweep); (try dsimp only); (try k_fold))
  obtain ⟨rt, N10, rD, rW, rin⟩ := split_cells N9 (hs9 _ (.tail _ (.tail _ (.head _)))) (hs9 _ (.tail _ (.head _))) dD dW
  have hD2 := rin _ hD1 rfl
  have hA2 := DatAll.only rin hA1
  clear N9 hD1 hA1 hs9 rin
  walk_at "mine gs"
  rename_i h5 oD2 F5 N5 dD2
  unfold Hold
  have hdl : dvs.length = (treeL k4).length := by rw [hA2.length, List.length_map]
  have TO := treeL_ok k4
  have hTl := TO.len
  refine LCg.CompSrc.ledger rfl F5 N5 (.tail _ (.tail _ hD2)) (by rw [List.size_toArray, sizeLine_eq]; omega) ?_
  intro g9
  refine comp_ledS ⟨_, _, rfl⟩ (n := dvs.toArray.size) (fun i ys nx => nx = ((s₁.heap.objs.size + 1 + 1, oW) :: (s₁.heap.objs.size + 1, oD2) :: rt) ∧ TxtIs ys (((treeL k4).take i).map hereW)) ?_ ?_ ⟨rfl, TxtIs.nil⟩
  · rintro i ys nx v I oI C oC D m₂ h tk9 E' hi ⟨rfl, hR⟩ hv hC hx9 F9 N9 off9 ne9
    have hi2 : i < (treeL k4).length := by rw [List.size_toArray] at hi; omega
    obtain ⟨v2, hv2, hd⟩ := hA2.get (k := i) (by rw [List.length_map]; exact hi2)
    rw [show dvs.toArray[i]? = dvs[i]? by simp, hv2] at hv
    injection hv with hv
    subst hv
    have hy2 : ((treeL k4).map wayD)[i]'(by rw [List.length_map]; exact hi2) = Dat.list (txtD ((treeL k4).getD i [])) := by
      rw [List.getElem_map, List.getD_eq_getElem?_getD, List.getElem?_eq_getElem hi2]
      rfl
    rw [hy2] at hd
    have hym : (treeL k4).getD i [] ∈ treeL k4 := by rw [List.getD_eq_getElem?_getD, List.getElem?_eq_getElem hi2]; exact List.getElem_mem hi2
    have htk : (treeL k4).take (i + 1) = (treeL k4).take i ++ [(treeL k4).getD i []] := by
      rw [List.take_add_one, List.getElem?_eq_getElem hi2, List.getD_eq_getElem?_getD, List.getElem?_eq_getElem hi2]
      rfl
    generalize (treeL k4).getD i [] = y at hd hym htk
    have hyl := TO.way y hym
    have hsum : ((y.map (·.length)).sum + y.length) ≤ 1048576 := names_sum y (TO.name y hym) (by omega)
    cases hd with
    | @list a wvs wn _ ha hal =>
    have R0 := txt_of_dat hal
    clear F5 N5 hal
    walk_at "mine gs"
    refine LCg.CompEnd.intro (by assumption) (by assumption) _ (fun p hp => hp) off9 (.inr ⟨_, .tail _ (.tail _ hD2), rfl, _, rfl⟩) ⟨rfl, ?_⟩
    rw [htk, List.map_append]
    exact hR.snoc
  · rintro ys nx ⟨rfl, hR⟩
    rw [List.size_toArray, hdl, List.take_length] at hR
    unfold LCg.FinE
    intro D4 h4 tk4 F4 N4 off4
    replace N4 : News s₁.heap s₁.heap.objs.size h4 ((D4, listOf (List.toArray ys) ys.length) :: (s₁.heap.objs.size + 1 + 1, oW) :: (s₁.heap.objs.size + 1, oD2) :: rt) := N4
    obtain ⟨w1, w2, w3⟩ := off4
    clear F5 N5
    walk_at "mine gs"
    rename_i _ oW2 dW2 D5 ws5 h6 F6 N6 hI6 _ _ l6
    obtain ⟨k6, hk6, hI7⟩ := ints_take2 hI6
    (refine' Con.useA (asks_con _ _ _ _ k6 (rowIs_of hI7) hk6 _ List.mem_cons_self) ?_; (intro r9 h9 tk9 n9 F9 N9 P9); (obtain ⟨hs9, C1, cvs, cn, e9, hC1, hA9⟩ := P9; subst e9); (try k_sweep); (try dsimp only); (try k_fold))
    have mWy := hs9 _ (.tail _ (.head _))
    have mW := hs9 _ (.tail _ (.tail _ (.head _)))
    have mD := hs9 _ (.tail _ (.tail _ (.tail _ (.head _))))
    have mT := hs9 _ (.tail _ (.tail _ (.tail _ (.tail _ hD2))))
    have hA3 := hA2.mono fun p hp => hs9 p (.tail _ (.tail _ (.tail _ (.tail _ hp))))
    (try clear N4); (try clear hI6); (try clear hI7); (try clear l6); (try clear hI4); (try clear rD); (try clear rW); (try clear hA2); (try clear hD2); (try clear w3); (try clear hs9)
    have hcl := hA9.len
    have hal := asks_len k6
    walk_at "mine gs"
    rename Fr _ _ _ _ => F7
    rename News _ _ _ _ => N7
    unfold Hold
    refine LCg.CompSrc.ledger rfl F7 N7 hC1 (by rw [List.size_toArray, sizeLine_eq]; omega) ?_
    intro g8
    refine comp_ledS ⟨_, _, rfl⟩ (n := cvs.toArray.size) (fun i zs nx => (∀ p ∈ n9, p ∈ nx) ∧ DatAll nx zs (((asksL k6).take i).map fun a => resD (walkL (treeL k4) a))) ?_ ?_ ⟨fun p hp => hp, .nil⟩
    · rintro i zs nx v I oI C oC D m₂ h tk9 E' hi ⟨hb, hZ⟩ hv hC hx9 F9 N9 off9 ne9
      obtain ⟨tp, rfl, hi2⟩ := hA9.at_ (show cvs[i]? = some v by rw [← hv]; simp)
      have hym : (asksL k6).getD i (Str.ofString "") ∈ asksL k6 := by rw [List.getD_eq_getElem?_getD, List.getElem?_eq_getElem hi2]; exact List.getElem_mem hi2
      have htk : (asksL k6).take (i + 1) = (asksL k6).take i ++ [(asksL k6).getD i (Str.ofString "")] := by
        rw [List.take_add_one, List.getElem?_eq_getElem hi2, List.getD_eq_getElem?_getD, List.getElem?_eq_getElem hi2]
        rfl
      generalize (asksL k6).getD i (Str.ofString "") = asked at hym htk hx9 hv
      have mW' := hb _ mW
      have mWy' := hb _ mWy
      clear F7 N7
      walk_at "mine gs"
      (refine' Con.useA (led_con' w D4 ys _ k4 k6 hk4 asked tp hym hR _ (.tail _ (.tail _ (.tail _ (hb _ mWy))))) ?_; (intro r9 h9 tk9 n9 F9 N9 P9); (obtain ⟨nx', hin, hoff, hsb, hZ'⟩ := turn_res off9 P9 hZ); (try k_sweep); (try dsimp only); (try k_fold))
      refine LCg.CompEnd.intro (by assumption) N9 nx' hin hoff (.inr ⟨_, hsb _ (hb _ hC1), rfl, _, rfl⟩) ⟨fun p hp => hsb p (hb p hp), ?_⟩
      rw [htk, List.map_append]
      exact hZ'
    · rintro zs nx ⟨hb, hZ⟩
      unfold LCg.FinE
      intro D6 h7 tk7 F8 N8 off7
      clear F7 N7
      rw [List.size_toArray, hcl, List.take_length] at hZ
      replace N8 : News s₁.heap s₁.heap.objs.size h7 ((D6, listOf (List.toArray zs) zs.length) :: nx) := N8
      obtain ⟨b7, hb7⟩ : ∃ b7, b7 = ((D6, listOf (List.toArray zs) zs.length) :: nx) := ⟨_, rfl⟩
      have m6 : (D6, listOf (List.toArray zs) zs.length) ∈ b7 := by rw [hb7]; exact .head _
      have hbb : ∀ p ∈ n9, p ∈ b7 := by rw [hb7]; exact fun p hp => .tail _ (hb p hp)
      have hZ7 : DatAll b7 zs ((asksL k6).map fun a => resD (walkL (treeL k4) a)) := by rw [hb7]; exact hZ.mono fun p hp => .tail _ hp
      rw [← hb7] at N8
      clear hb7 hZ off7 hb
      walk_at "mine gs"
      rename Fr _ _ _ _ => F7
      rename News _ _ _ _ => N7
      unfold Hold
      refine LCg.CompSrc.ledger rfl F7 N7 (hbb _ hC1) (by rw [List.size_toArray, sizeLine_eq]; omega) ?_
      intro g7
      refine comp_ledS ⟨_, _, rfl⟩ (n := cvs.toArray.size) (fun i us nx => (∀ p ∈ b7, p ∈ nx) ∧ DatAll nx us (((asksL k6).take i).map fun a => resD (walkL (treeL k4) a))) ?_ ?_ ⟨fun p hp => hp, .nil⟩
      · rintro i us nx v I oI C oC D m₂ h tk9 E' hi ⟨hb, hZ⟩ hv hC hx9 F9 N9 off9 ne9
        obtain ⟨tp, rfl, hi2⟩ := hA9.at_ (show cvs[i]? = some v by rw [← hv]; simp)
        have hym : (asksL k6).getD i (Str.ofString "") ∈ asksL k6 := by rw [List.getD_eq_getElem?_getD, List.getElem?_eq_getElem hi2]; exact List.getElem_mem hi2
        have htk : (asksL k6).take (i + 1) = (asksL k6).take i ++ [(asksL k6).getD i (Str.ofString "")] := by
          rw [List.take_add_one, List.getElem?_eq_getElem hi2, List.getD_eq_getElem?_getD, List.getElem?_eq_getElem hi2]
          rfl
        generalize (asksL k6).getD i (Str.ofString "") = asked at hym htk hx9 hv
        have mD' := hb _ (hbb _ mD)
        have mT' := hb _ (hbb _ mT)
        clear F7 N7
        walk_at "mine gs"
        have hA4 : DatAll ((I, oI) :: (C, oC) :: (D, LCg.lst us) :: nx) dvs ((treeL k4).map wayD) := hA3.mono fun p hp => .tail _ (.tail _ (.tail _ (hb _ (hbb p hp))))
        (refine' Con.useA (walked_con' w D1 dvs _ k4 k6 hk4 asked tp hym _ (.tail _ (.tail _ (.tail _ (hb _ (hbb _ mT))))) hA4) ?_; (intro r9 h9 tk9 n9 F9 N9 P9); (obtain ⟨nx', hin, hoff, hsb, hZ'⟩ := turn_res off9 P9 hZ); (try k_sweep); (try dsimp only); (try k_fold))
        refine LCg.CompEnd.intro (by assumption) N9 nx' hin hoff (.inr ⟨_, hsb _ (hb _ (hbb _ hC1)), rfl, _, rfl⟩) ⟨fun p hp => hsb p (hb p hp), ?_⟩
        rw [htk, List.map_append]
        exact hZ'
      · rintro us nx2 ⟨hb, hZ⟩
        rw [List.size_toArray, hcl, List.take_length] at hZ
        unfold LCg.FinE
        intro D7 h8 tk8 F9 N9 off9
        replace N9 : News s₁.heap s₁.heap.objs.size h8 ((D7, listOf (List.toArray us) us.length) :: nx2) := N9
        have hok := ress_ok k4 (asksL k6)
        clear F7 N7
        refine kqd_eq N9 (.tail _ (hb _ m6)) rfl rfl hZ7 (fun p hp => .tail _ (hb p hp)) (.head _) rfl rfl hZ (fun p hp => .tail _ hp) hok hok (by first | ktr_units | ke_room) ?_
        rw [dec_rfl]
        dsimp only
        k_steps)
end
end Mine
open PySem PySem.W PyProof.Rows
set_option maxHeartbeats 8000000 in
theorem PySem.Challenge.cw_pd0191_01_holds : PySem.Challenge.rw_pd0191_01.Holds := by
  exact Mine.law_holds
