import PyProof.Rows.All
import Wide.All
import OpenK.AllK
import Wide.FinOn
import PySem.Challenge.RW_sw0067_01
open PySem PySem.W PySem.Spec PySem.Calls PyProof.Rows
set_option Elab.async false
set_option maxRecDepth 100000
set_option maxHeartbeats 8000000
namespace Mine
theorem pick {T G : Prop} (_ : T) (g : G) : G := g
/-- says nothing («False → ..») and proves nothing further on: k_head is run here only because it lays the two constants hd.heap_1 (the written part of the top's heap) and hd.view_1 (the text's view); the head itself is hdl below -/
theorem hd (f : False) : PySem.Challenge.rw_sw0067_01.row.Holds := by
  w_on
  have said : PySem.Challenge.rw_sw0067_01.row.wellSaid = true := f.elim
  refine' pick ?hl (pick ?hw (pick ?hc ?main))
  case' main => k_head
  case hl => exact f.elim
  case hw => exact f.elim
  case hc => exact f.elim
/-! the top's run by the kernel, turned by the library's own quick twins of importEnds, start, fenceModules?, topRun, treeTable, openSeen -/
theorem as_ok (P : Params) : ([2, 3, 15, 17, 18, 20, 21, 22, 24, 25, 27, 28, 29, 31, 32, 34, 35, 36, 38, 39, 41, 42, 43, 45, 46, 48, 49, 50, 52, 53, 55, 56, 57, 59, 60, 62, 63, 64, 66, 67, 69, 70, 71, 73, 74, 76, 77, 78, 80, 81, 83, 84, 85, 87, 88, 90, 91, 92, 94, 95, 97, 98, 99, 101, 102, 104, 105, 106, 108, 109, 111, 112, 113, 115, 116, 118, 119, 120, 122, 123, 125, 126, 137, 139, 140, 142, 143, 144, 146, 147, 149, 150, 151, 153, 154, 156, 157, 158, 160, 161, 163, 164, 165, 167, 168, 170, 171, 172, 174, 175, 177, 178, 179, 181, 182, 184, 185, 186, 187, 188, 189, 190, 193, 196, 197, 198, 201, 202, 203, 205, 206, 208, 209, 210, 212, 213, 215, 216, 217, 220, 221, 222, 225, 226, 227, 230, 231] : List Addr) = (hd.heap_1 P).map (·.1) := by kernel_rfl
noncomputable abbrev hk : Hook := kHook hd.heap_1 [2, 3, 15, 17, 18, 20, 21, 22, 24, 25, 27, 28, 29, 31, 32, 34, 35, 36, 38, 39, 41, 42, 43, 45, 46, 48, 49, 50, 52, 53, 55, 56, 57, 59, 60, 62, 63, 64, 66, 67, 69, 70, 71, 73, 74, 76, 77, 78, 80, 81, 83, 84, 85, 87, 88, 90, 91, 92, 94, 95, 97, 98, 99, 101, 102, 104, 105, 106, 108, 109, 111, 112, 113, 115, 116, 118, 119, 120, 122, 123, 125, 126, 137, 139, 140, 142, 143, 144, 146, 147, 149, 150, 151, 153, 154, 156, 157, 158, 160, 161, 163, 164, 165, 167, 168, 170, 171, 172, 174, 175, 177, 178, 179, 181, 182, 184, 185, 186, 187, 188, 189, 190, 193, 196, 197, 198, 201, 202, 203, 205, 206, 208, 209, 210, 212, 213, 215, 216, 217, 220, 221, 222, 225, 226, 227, 230, 231] as_ok
noncomputable abbrev lv : List (PySem.Str × WData) := [(Str.ofString "ONE_THIRD", WData.float 4599676419421066581), (Str.ofString "ONE_SIXTH", WData.float 4595172819793696085), (Str.ofString "TWO_THIRD", WData.float 4604180019048437077)]
noncomputable abbrev lo : List PySem.Str := [Str.ofString "ONE_THIRD", Str.ofString "ONE_SIXTH", Str.ofString "TWO_THIRD", Str.ofString "Whitespace"]
noncomputable def xt (s : Shared) : Bool := xlAt hd.view_1 lv s && recOk PySem.Challenge.rw_sw0067_01.row.toRowW.records s
theorem run_f (w : World) : (openEnds treeTable PySem.Challenge.pw_sw0067_01 (w.withFollow "special-get-raises" false) 2684).map (fun s => (openSeen hd.view_1 lo (importedModules PySem.Challenge.pw_sw0067_01.main.body) xt true s, hk.obs s)) = some (openGood hd.view_1 lo, hk.val (w.withFollow "special-get-raises" false)) := by
  delta openEnds fencedOpening topFrom
  rw [PySem.W.Fast.te14082659384304107361, PySem.W.Fast.te10274390034422433532, PySem.W.Fast.te14289696077712309145, PySem.W.Fast.te1435165496053646825, PySem.W.Fast.te14364793385576792824, PySem.W.Fast.te4187177175401517315]
  kernel_rfl
theorem run_t (w : World) : (openEnds treeTable PySem.Challenge.pw_sw0067_01 (w.withFollow "special-get-raises" true) 2684).map (fun s => (openSeen hd.view_1 lo (importedModules PySem.Challenge.pw_sw0067_01.main.body) xt true s, hk.obs s)) = some (openGood hd.view_1 lo, hk.val (w.withFollow "special-get-raises" true)) := by
  delta openEnds fencedOpening topFrom
  rw [PySem.W.Fast.te14082659384304107361, PySem.W.Fast.te10274390034422433532, PySem.W.Fast.te14289696077712309145, PySem.W.Fast.te1435165496053646825, PySem.W.Fast.te14364793385576792824, PySem.W.Fast.te4187177175401517315]
  kernel_rfl
theorem hl : LeftO PySem.Challenge.pw_sw0067_01 hd.view_1 lo xt hk.obs hk.val 2684 :=
  byRow2 "special-get-raises" (P := fun w => (openEnds treeTable PySem.Challenge.pw_sw0067_01 w 2684).map (fun s => (openSeen hd.view_1 lo (importedModules PySem.Challenge.pw_sw0067_01.main.body) xt true s, hk.obs s)) = some (openGood hd.view_1 lo, hk.val w)) run_f run_t
theorem said : PySem.Challenge.rw_sw0067_01.wellSaid = true := by rw [PySem.W.Fast.te9446332074065402090]; kernel_rfl
theorem hdl (d : DefRec) (kwd : List (Str × Expr)) (hdef : defOf hd.view_1 PySem.Challenge.rw_sw0067_01.row.name = some (d, kwd)) (hp : PySem.Challenge.rw_sw0067_01.row.prog.theDef PySem.Challenge.rw_sw0067_01.row.name = some (d.params, d.body, d.scope))
    (hw : kwWritten? d.params.kwonlyargs d.params.kw_defaults = some kwd) (call : WalkO hd.view_1 lo (XL hd.view_1 lv) hk.says PySem.Challenge.rw_sw0067_01.row.toRowW d kwd fun f vs => PySem.call f vs) : PySem.Challenge.rw_sw0067_01.Holds := by
  w_on
  refine holds_law said fun said => ?_
  refine holds_open (q := hd.view_1) (loose := lo) (Xt := xt) (XP := XL hd.view_1 lv) (Yf := hk.obs) (Ya := hk.val) (YP := hk.says) (N := 2684) hl hk.of hk.keeps (fun s e => xl_of s (Bool.and_eq_true_iff.mp e).1) XL.keeps hdef hp hw (fun s e => recFacts_of (Bool.and_eq_true_iff.mp e).2) (by rfl) (by assumption) (by decide +kernel) ⟨rfl, rfl, rfl, rfl, rfl, by decide +kernel⟩ ?hw call
  w_witness2
noncomputable abbrev VW := hd.view_1
noncomputable abbrev LS : List Str := looseW hd.view_1 [Str.ofString "ONE_THIRD", Str.ofString "ONE_SIXTH", Str.ofString "TWO_THIRD", Str.ofString "Whitespace"]
noncomputable abbrev PG := PySem.Challenge.rw_sw0067_01.row.prog
/-- a heap that has grown -/
noncomputable def Gr (h h' : Heap) : Prop := ∀ b o, h.get? b = some o → h'.get? b = some o
theorem Gr.refl (h : Heap) : Gr h h := fun _ _ e => e
theorem Gr.trans {a b c : Heap} (x : Gr a b) (y : Gr b c) : Gr a c := fun p o e => y p o (x p o e)
theorem Fr.gr {h₀ h : Heap} {L : Addr} {m : Str → Option Value} (F : Fr h₀ L h m) : Gr h₀ h := F.keep
theorem Gr.news {h₀ h h' : Heap} {L : Addr} {news : List (Addr × Obj)} (x : Gr h h') (N : News h₀ L h news) : News h₀ L h' news := fun p hp => ⟨x _ _ (N p hp).1, (N p hp).2⟩
theorem Gr.fr {h₀ h h' : Heap} {L : Addr} {m : Str → Option Value} (x : Gr h h') (F : Fr h₀ L h m) : Fr h₀ L h' m := F.keeps x
theorem Gr.list {h h' : Heap} {a : Addr} {its : Array Value} (x : Gr h h') (e : h.IsList a its) : h'.IsList a its := let ⟨o, ho, r⟩ := e; ⟨o, x _ _ ho, r⟩
theorem Gr.tup {h h' : Heap} {a : Addr} {its : Array Value} (x : Gr h h') (e : IsTup h a its) : IsTup h' a its := let ⟨o, ho, r⟩ := e; ⟨o, x _ _ ho, r⟩
/-- a pure def's claim: called on a heap that is as Pre says, it comes back, nothing that stood has changed, and Post holds of the heap before, the heap behind and the value -/
noncomputable abbrev PCl (w : World) (mean : ExcName → Option Value) (mg mb : Str → Option Value) (r : Nat) (f : Addr) (Pre : Heap → Prop) (vs : List Value) (Post : Heap → Heap → Value → Prop) : Prop :=
  ∀ (dp un : Nat) (gd : Option (List Code)) (cn : Str) (cs : Scope) (a : Addr) (ccd : Value) (cl : List (Str × Addr)) (outer : List Env) (A₀ : Around) (base h₀ : Heap) (L : Addr) (m : Str → Option Value) (s : Shared) (Q E : Value → Shared → Prop),
    Below A₀ base outer h₀ → Fr h₀ L s.heap m → (hd.heap_1 w.params).In h₀ → Top VW LS mean mg mb h₀ → cs.kind = .function → dp + r < recursionLimit → un + 8 * r < cLine → Pre s.heap →
    (∀ (v : Value) (h' : Heap) (tk' : Nat), Gr s.heap h' → Post s.heap h' v → Q v { s with heap := h', toks := tk' }) →
    wpAny (model PG w) (ktrTop dp un gd cn cs L a ccd cl outer) (call (.ref f) vs) Q E s
section
variable {prog : Program} {w : World} {A A₀ : Around} {s : Shared} {K : Frag} {L : Addr} {h₀ base : Heap} {m mg mb : Str → Option Value} {p : Program} {loose : List Str} {mean : ExcName → Option Value}
theorem enterP {env : Env} {outer : List Env} {R : Result → Shared → Prop} {name qual : Str} {params : Arguments} {body : List Stmt} {scope : Scope} {dV kV doc pm cdv ct oc : Value} {an od : Option Addr} {osl : Array (Option Value)} {f : Addr} {args : Args} {binds : List (Str × Value)}
    (B : Below A₀ base outer h₀) (F : Fr h₀ L s.heap m) (X₀ : K.In h₀) (T : Top p loose mean mg mb h₀) (hA : A.frames = some (env :: outer)) (hf : env.frame = some L) (hke : env.scope.kind = .function)
    (ho : K.lookup f = some ⟨oc, od, .func (fnOf name qual params body scope dV kV doc pm an cdv ct), osl⟩) (hcd : codeIn K cdv qual = true) (hroom : A.depth < recursionLimit)
    (hbind : BindsTo s (fnOf name qual params body scope dV kV doc pm an cdv ct) args binds) (hloc : ∀ y ∈ binds, scope.names.lookup y.1 = some .local)
    (h : ∀ L' h₁, Fr s.heap L' h₁ (fun y => binds.reverse.lookup y) → News s.heap L' h₁ [] → Below A base (env :: outer) s.heap → K.In s.heap → Top p loose mean mg mb s.heap →
      wpAny (model prog w) (A.deeper (envOf qual scope L' f cdv)) (execs body (envOf qual scope L' f cdv))
        (fun fl s' => LeaveK h₀ L m s.heap R (match fl with | .ret v => v | _ => .none) s')
        (fun e s' => wpAny (model prog w) (A.deeper (envOf qual scope L' f cdv)) (leaving (envOf qual scope L' f cdv) e) (fun _ s'' => R (.error e) s'') (fun e' s'' => R (.error e') s'') s')
        { s with heap := h₁, toks := s.toks + binds.length })
    (hco : scope.isCoroutine = false) (hgen : scope.isGenerator = false) (hk : scope.kind = .function)
    (hcell : ∀ x ∈ scope.names, x.2 ≠ .cell) : codeAny (model prog w) A (.call (.ref f) args) R s := by
  obtain ⟨_, BG, _, lv⟩ := groundX (R := R) B F (News.nil (h₀ := h₀) (h := s.heap) (L := L)) hA hf hke
  refine codeAny_call_def (fd := fnX name qual params body scope [] dV kV doc pm an cdv ct) (body := body) (binds := binds) hroom ((X₀.keeps F.keep) _ _ ho) rfl (T.nolimit.keeps F.keep) (codeRec_of (X₀.keeps F.keep) hcd) rfl hbind hcell hloc (fun h₁ hns hk₁ => ?_) hco hgen hk
  exact wpAny_mono (h s.heap.objs.size h₁ ⟨hns, fun b o e => hk₁ b o e, Nat.le_refl _⟩ News.nil BG (X₀.keeps F.keep) (T.keeps F.keep)) (fun fl s' hl => lv _ _ hl) fun _ _ y => y
end
/-- the ledger's addresses are not D -/
noncomputable def AllNe (d : Nat) : List (Addr × Obj) → Prop
  | [] => True
  | p :: r => @Ne Nat p.1 d ∧ AllNe d r
theorem allNe_of {d : Addr} : ∀ {l : List (Addr × Obj)}, (∀ p ∈ l, p.1 ≠ d) → AllNe d l
  | [], _ => trivial
  | p :: _, h => ⟨h p (.head _), allNe_of fun q hq => h q (.tail _ hq)⟩
theorem AllNe.all {d : Addr} {l : List (Addr × Obj)} (x : AllNe d l) : ∀ p ∈ l, p.1 ≠ d := by
  induction l with
  | nil => intro p hp; cases hp
  | cons q r ih =>
    intro p hp
    rcases List.mem_cons.mp hp with rfl | hp
    · exact x.1
    · exact ih x.2 p hp
/-- an object that is new, onto the ledger -/
theorem newOn {h₀ h h' : Heap} {L D : Addr} {o : Obj} {m : Str → Option Value} {news : List (Addr × Obj)} (F : Fr h₀ L h m) (N : News h₀ L h news) (g : Gr h h') (n : h.get? D = none) (e : h'.get? D = some o) : News h₀ L h' ((D, o) :: news) ∧ AllNe D news := by
  refine ⟨fun p hp => ?_, allNe_of fun p hp q => ?_⟩
  · rcases List.mem_cons.mp hp with rfl | hp
    · refine ⟨e, fun q => ?_, ?_⟩
      · obtain ⟨oL, _, _, hL, _⟩ := F.ns
        rw [show D = L from q, hL] at n; cases n
      · cases q : h₀.get? D with
        | none => rfl
        | some o' => rw [F.keep _ _ q] at n; cases n
    · exact g.news N p hp
  · rw [← q, (N p hp).1] at n; cases n
section
variable {w : World} {mean : ExcName → Option Value} {mg mb : Str → Option Value} {r f : Nat} {Pre : Heap → Prop} {vs : List Value} {Post : Heap → Heap → Value → Prop} {dp un : Nat} {gd : Option (List Code)} {cn : Str} {cs : Scope} {a : Addr} {ccd : Value} {cl : List (Str × Addr)} {outer : List Env} {A₀ : Around} {base h₀ : Heap} {L : Addr} {m : Str → Option Value} {s : Shared} {Q E : Value → Shared → Prop} {news : List (Addr × Obj)}
theorem useP (C : PCl w mean mg mb r f Pre vs Post) (hB : Below A₀ base outer h₀) (F : Fr h₀ L s.heap m) (N : News h₀ L s.heap news) (X : (hd.heap_1 w.params).In h₀) (T : Top VW LS mean mg mb h₀) (hk : cs.kind = .function) (hd : dp + r < recursionLimit) (hu : un + 8 * r < cLine) (hP : Pre s.heap)
    (h : ∀ (v : Value) (h' : Heap) (tk' : Nat), Gr s.heap h' → Fr h₀ L h' m → News h₀ L h' news → Post s.heap h' v → Q v { s with heap := h', toks := tk' }) :
    wpAny (model PG w) (ktrTop dp un gd cn cs L a ccd cl outer) (call (.ref f) vs) Q E s :=
  C _ _ _ _ _ _ _ _ _ _ _ _ _ _ _ _ _ hB F X T hk hd hu hP fun v h' tk' g p => h v h' tk' g (g.fr F) (g.news N) p
end
example : hd.heap_1 = hd.heap_1 ∧ PySem.Challenge.rw_sw0067_01 = PySem.Challenge.rw_sw0067_01 := by
  k_fill; exact ⟨rfl, rfl⟩
local macro_rules | `(tactic| cell_enter) => `(tactic| (refine' enterP ?k1 ?k2 ?k3 ?k5 ?kA ?kF ?kK ?k6 ?k7 ?k8 ?k9 ?kB ?_ ?c2 ?c3 ?c4 ?c5; (case kA => exact rfl); (case kF => exact rfl); (case kK => assumption); (case k1 => k_asm); (case k2 => k_asm); (case k3 => k_asm); (case k5 => k_asm); (case k6 => k_is); (case k7 => k_is); (case k8 => ktr_room); (case k9 => exact BindsTo.of_eq rfl); (case c5 => decide); (case kB => exact locs rfl); (case c2 => exact rfl); (case c3 => exact rfl); (case c4 => exact rfl); k_whole; intro L' h' F' N' B' X' T'; (try dsimp only); (try k_fold)))
section Fl1
example : True := by w_top off; exact trivial
noncomputable abbrev f0 : UInt64 := 0
noncomputable abbrev f1 : UInt64 := 4607182418800017408
noncomputable abbrev f6 : UInt64 := 4618441417868443648
noncomputable abbrev fHalf : UInt64 := 4602678819172646912
noncomputable abbrev fThird : UInt64 := 4599676419421066581
noncomputable abbrev fSixth : UInt64 := 4595172819793696085
noncomputable abbrev fTwoThird : UInt64 := 4604180019048437077
/-- _v -/
noncomputable def vF (a b c : UInt64) : UInt64 :=
  if (Float64.cmp (Float64.divmod c f1).snd fSixth == some Ordering.lt) = true then Float64.add a (Float64.mul (Float64.mul (Float64.sub b a) (Float64.divmod c f1).snd) f6)
  else if (Float64.cmp (Float64.divmod c f1).snd fHalf == some Ordering.lt) = true then b
  else if (Float64.cmp (Float64.divmod c f1).snd fTwoThird == some Ordering.lt) = true then Float64.add a (Float64.mul (Float64.mul (Float64.sub b a) (Float64.sub fTwoThird (Float64.divmod c f1).snd)) f6)
  else a
theorem if_no {b : Bool} (h : b = false) : ¬ b = true := by rw [h]; decide
theorem v_cl (w mean mg mb) (a b c : UInt64) (ta tb tc : Tok) : PCl w mean mg mb 2 42 (fun _ => True) [.float a ta, .float b tb, .float c tc] (fun _ _ v => ∃ t, v = .float (vF a b c) t) := by
  intro dp un gd cn cs fa ccd cl outer A₀ base h₀ L m s Q E hB hF hK hT hk hd hu hP hret
  refine wpAny_call ?_
  k_dflt cell_enter
  k_steps
  all_goals (refine hret _ _ _ (Fr.gr (by assumption)) ⟨_, congrArg (Value.float · _) ?_⟩; unfold vF)
  · exact (if_pos (by assumption)).symm
  · rw [if_neg (if_no (by assumption))]; exact (if_pos (by assumption)).symm
  · rw [if_neg (if_no (by assumption)), if_neg (if_no (by assumption))]; exact (if_pos (by assumption)).symm
  · rw [if_neg (if_no (by assumption)), if_neg (if_no (by assumption)), if_neg (if_no (by assumption))]
section
variable {w : World} {mean : ExcName → Option Value} {mg mb : Str → Option Value} {dp un : Nat} {gd : Option (List Code)} {cn : Str} {cs : Scope} {a : Addr} {ccd : Value} {cl : List (Str × Addr)} {outer : List Env} {A₀ : Around} {base h₀ : Heap} {L : Addr} {m : Str → Option Value} {s : Shared} {Q E : Value → Shared → Prop} {news : List (Addr × Obj)}
theorem use_v {x y z : UInt64} {tx ty tz : Tok} (hB : Below A₀ base outer h₀) (F : Fr h₀ L s.heap m) (N : News h₀ L s.heap news) (X : (hd.heap_1 w.params).In h₀) (T : Top VW LS mean mg mb h₀) (hk : cs.kind = .function) (hd : dp + 2 < recursionLimit) (hu : un + 8 * 2 < cLine)
    (h : ∀ t h' tk', Fr h₀ L h' m → News h₀ L h' news → Q (.float (vF x y z) t) { s with heap := h', toks := tk' }) :
    wpAny (model PG w) (ktrTop dp un gd cn cs L a ccd cl outer) (call (.ref 42) [.float x tx, .float y ty, .float z tz]) Q E s :=
  useP (v_cl w mean mg mb x y z tx ty tz) hB F N X T hk hd hu trivial fun v h' tk' _ F' N' ⟨t, e⟩ => e ▸ h t h' tk' F' N'
end
/-- a new tuple of three floats -/
noncomputable def Tri (F : UInt64 × UInt64 × UInt64) (h h' : Heap) (v : Value) : Prop := ∃ D t1 t2 t3, v = .ref D ∧ h.get? D = none ∧ h'.get? D = some ({ cls := .type "tuple", data := .seq #[.float F.1 t1, .float F.2.1 t2, .float F.2.2 t3] } : Obj)
theorem tri_of {h h' : Heap} {L D : Addr} {x y z : UInt64} {t1 t2 t3 : Tok} {rest : List (Addr × Obj)} {F : UInt64 × UInt64 × UInt64} (N : News h L h' ((D, ({ cls := .type "tuple", data := .seq #[.float x t1, .float y t2, .float z t3] } : Obj)) :: rest)) (e : F = (x, y, z)) : Tri F h h' (.ref D) := by
  subst e
  exact ⟨D, t1, t2, t3, rfl, (N _ (.head _)).2.2, (N _ (.head _)).1⟩
/-- hls_to_rgb at lightness one half, saturation one -/
noncomputable def hlsM2 : UInt64 := Float64.mul fHalf (Float64.add f1 f1)
noncomputable def hlsM1 : UInt64 := Float64.sub (Float64.mul 4611686018427387904 fHalf) hlsM2
noncomputable def hlsF (a : UInt64) : UInt64 × UInt64 × UInt64 := (vF hlsM1 hlsM2 (Float64.add a fThird), vF hlsM1 hlsM2 a, vF hlsM1 hlsM2 (Float64.sub a fThird))
theorem no_of {b : Bool} {P : Prop} (h : b = true) (h' : b = false) : P := by rw [h] at h'; cases h'
local macro_rules | `(tactic| walk_at "call ref") => `(tactic| (k_here; (with_reducible show wpAny _ _ (call (Value.ref 42) [Value.float _ _, Value.float _ _, Value.float _ _]) _ _ _); k_dflt (refine' use_v ?kB ?kF ?kN ?kX ?kT ?kk ?kd ?ku ?_; (case kB => k_asm); (case kF => k_asm); (case kN => k_asm); (case kX => k_asm); (case kT => k_asm); (case kk => first | exact rfl | assumption); (case kd => ktr_room); (case ku => ktr_units)); intro t' h' tk' F' N'; (try dsimp only); walk_say "CUT v"))
theorem hls_cl (w mean mg mb) (a : UInt64) (ta tb tc : Tok) : PCl w mean mg mb 4 35 (fun _ => True) [.float a ta, .float fHalf tb, .float f1 tc] (Tri (hlsF a)) := by
  intro dp un gd cn cs fa ccd cl outer A₀ base h₀ L m s Q E hB hF hK hT hk hd hu hP hret
  refine wpAny_call ?_
  k_dflt cell_enter
  k_steps
  · exact no_of (by assumption : (Float64.cmp f1 0 == some Ordering.eq) = true) (by decide +kernel)
  · exact hret _ _ _ (Fr.gr (by assumption)) (tri_of (by assumption) rfl)
  · exact no_of (b := Float64.cmp fHalf 4602678819172646912 == some Ordering.lt || Float64.cmp fHalf 4602678819172646912 == some Ordering.eq) (by decide +kernel) (by assumption)
/-- hsv_to_rgb at saturation one, value one -/
noncomputable def hsvI (a : UInt64) : Int := Flt.toInt Float64.truncOf (Float64.mul a f6)
noncomputable def hsvOk (a : UInt64) : Prop := Float64.isNaN (Float64.mul a f6) = false ∧ Float64.isInf (Float64.mul a f6) = false ∧ (hsvI a).natAbs < 1000
noncomputable def hsvP : UInt64 := Float64.mul f1 (Float64.sub f1 f1)
noncomputable def hsvQ (a : UInt64) : UInt64 := Float64.mul f1 (Float64.sub f1 (Float64.mul f1 (Float64.sub (Float64.mul a f6) (Float64.ofInt (hsvI a)))))
noncomputable def hsvT (a : UInt64) : UInt64 := Float64.mul f1 (Float64.sub f1 (Float64.mul f1 (Float64.sub f1 (Float64.sub (Float64.mul a f6) (Float64.ofInt (hsvI a))))))
noncomputable def hsvF (a : UInt64) : UInt64 × UInt64 × UInt64 :=
  if (hsvI a).fmod 6 = 0 then (f1, hsvT a, hsvP)
  else if (hsvI a).fmod 6 = 1 then (hsvQ a, f1, hsvP)
  else if (hsvI a).fmod 6 = 2 then (hsvP, f1, hsvT a)
  else if (hsvI a).fmod 6 = 3 then (hsvP, hsvQ a, f1)
  else if (hsvI a).fmod 6 = 4 then (hsvT a, hsvP, f1)
  else (f1, hsvP, hsvQ a)
theorem hsv0 {a : UInt64} (h : (hsvI a).fmod 6 = 0) : hsvF a = (f1, hsvT a, hsvP) := by unfold hsvF; rw [h]; rfl
theorem hsv1 {a : UInt64} (h : (hsvI a).fmod 6 = 1) : hsvF a = (hsvQ a, f1, hsvP) := by unfold hsvF; rw [h]; rfl
theorem hsv2 {a : UInt64} (h : (hsvI a).fmod 6 = 2) : hsvF a = (hsvP, f1, hsvT a) := by unfold hsvF; rw [h]; rfl
theorem hsv3 {a : UInt64} (h : (hsvI a).fmod 6 = 3) : hsvF a = (hsvP, hsvQ a, f1) := by unfold hsvF; rw [h]; rfl
theorem hsv4 {a : UInt64} (h : (hsvI a).fmod 6 = 4) : hsvF a = (hsvT a, hsvP, f1) := by unfold hsvF; rw [h]; rfl
theorem hsv5 {a : UInt64} (h : (hsvI a).fmod 6 = 5) : hsvF a = (f1, hsvP, hsvQ a) := by unfold hsvF; rw [h]; rfl
theorem fmod6 {i : Int} {P : Prop} (h0 : i.fmod 6 ≠ 0) (h1 : i.fmod 6 ≠ 1) (h2 : i.fmod 6 ≠ 2) (h3 : i.fmod 6 ≠ 3) (h4 : i.fmod 6 ≠ 4) (h5 : i.fmod 6 ≠ 5) : P := by
  have a := Int.fmod_nonneg_of_pos i (b := 6) (by decide)
  have b := Int.fmod_lt_of_pos i (b := 6) (by decide)
  omega
theorem big_no {n : Nat} {P : Prop} (h : 2 ^ 1024 - 2 ^ 970 ≤ n) (h' : n < 1000) : P := by
  have : 1000 ≤ 2 ^ 1024 - 2 ^ 970 := by decide +kernel
  exact absurd (Nat.le_trans this h) (Nat.not_le.mpr h')
theorem hsvrgb_cl (w mean mg mb) (a : UInt64) (ok : hsvOk a) (ta tb tc : Tok) : PCl w mean mg mb 2 56 (fun _ => True) [.float a ta, .float f1 tb, .float f1 tc] (Tri (hsvF a)) := by
  intro dp un gd cn cs fa ccd cl outer A₀ base h₀ L m s Q E hB hF hK hT hk hd hu hP hret
  refine wpAny_call ?_
  k_dflt cell_enter
  k_steps
  · exact no_of (by assumption : (Float64.cmp f1 0 == some Ordering.eq) = true) (by decide +kernel)
  · exact no_of (by assumption) ok.1
  · exact no_of (by assumption) ok.2.1
  · exact big_no (by assumption) ok.2.2
  · exact hret _ _ _ (Fr.gr (by assumption)) (tri_of (by assumption) (hsv0 (by assumption)))
  · exact hret _ _ _ (Fr.gr (by assumption)) (tri_of (by assumption) (hsv1 (by assumption)))
  · exact hret _ _ _ (Fr.gr (by assumption)) (tri_of (by assumption) (hsv2 (by assumption)))
  · exact hret _ _ _ (Fr.gr (by assumption)) (tri_of (by assumption) (hsv3 (by assumption)))
  · exact hret _ _ _ (Fr.gr (by assumption)) (tri_of (by assumption) (hsv4 (by assumption)))
  · exact hret _ _ _ (Fr.gr (by assumption)) (tri_of (by assumption) (hsv5 (by assumption)))
  · exact fmod6 (by assumption : (hsvI a).fmod 6 ≠ 0) (by assumption) (by assumption) (by assumption) (by assumption) (by assumption)
end Fl1
section Fl2
example : True := by w_top off; exact trivial
section
variable {prog : Program} {w : World} {A : Around} {E : Value → Shared → Prop} {s : Shared} {Q : Value → Shared → Prop} {h₀ : Heap} {L : Addr} {m : Str → Option Value} {news : List (Addr × Obj)}
noncomputable def ltB (x y : UInt64) : Bool := Float64.cmp x y == some Ordering.lt
noncomputable def maxF (x y z : UInt64) : UInt64 := if ltB (if ltB x y then y else x) z then z else if ltB x y then y else x
noncomputable def minF (x y z : UInt64) : UInt64 := if ltB z (if ltB y x then y else x) then z else if ltB y x then y else x
theorem three_up {a b c : Value} {op : CmpOp} {bt : Nat → Nat → Bool}
    (hcmp : CmpOf prog w A.in1 op (fun i v => #[a, b, c][i]? = some v) bt) (hh : A.handled = none)
    (h : ∀ v h' tk, #[a, b, c][argBest bt 2]? = some v → Gr s.heap h' → Q v { s with heap := h', toks := tk }) :
    wpAny (model prog w) A.in1 (pyIter (.ref s.heap.objs.size)) (fun it s₂ => ∃ I fp wr n P St bt, it = .ref I ∧ Walks prog w A.in1 I fp wr n P St ∧ St 0 s₂.heap ∧ (∀ b ∈ fp, b < s₂.heap.objs.size) ∧ 0 < n ∧ CmpOf prog w A.in1 op P bt ∧
      ∀ v h' tk, P (argBest bt (n - 1)) v → (∀ b o, b ∉ wr → s₂.heap.get? b = some o → h'.get? b = some o) → Q v { s₂ with heap := h', toks := tk }) E
      { s with heap := s.heap.push { cls := .type "tuple", data := .seq #[a, b, c] } } := by
  have hT : (s.heap.push { cls := .type "tuple", data := .seq #[a, b, c] }).IsTuple s.heap.objs.size #[a, b, c] := ⟨_, Heap.get?_push_size _ rfl, rfl, 0, rfl⟩
  have hsz : (s.heap.push { cls := .type "tuple", data := .seq #[a, b, c] }).objs.size = s.heap.objs.size + 1 := Heap.size_push ..
  refine wpAny_pyIter_tuple hT ⟨_, [_, s.heap.objs.size], [_], _, _, _, _, rfl, Walks.tuple (A := A.in1) hh _ s.heap.objs.size (by rw [hsz]; exact Nat.ne_of_lt (Nat.lt_succ_self _)) #[a, b, c],
    ⟨⟨_, Heap.get?_push_size _ rfl, rfl, rfl⟩, hT.push _⟩, fun d hd => ?_, by simp, hcmp, fun v h' tk hP hk => h v h' tk hP fun d o e => ?_⟩
  · show d < ((s.heap.push _).push _).objs.size
    rw [Heap.size_push, hsz]
    rcases List.mem_cons.mp hd with rfl | hd
    · rw [hsz]; exact Nat.lt_succ_self _
    · rcases List.mem_cons.mp hd with rfl | hd
      · exact Nat.lt_succ_of_lt (Nat.lt_succ_self _)
      · cases hd
  · refine hk d o (fun hm => ?_) (Heap.get?_push_of_some _ (Heap.get?_push_of_some _ e))
    rcases List.mem_cons.mp hm with e1 | hm
    · have := Heap.lt_size e; rw [e1, hsz] at this; exact Nat.lt_irrefl _ (Nat.lt_of_succ_lt this)
    · cases hm
theorem max3_ff {x y z : UInt64} {t u v : Tok} (hh : A.handled = none) (F : Fr h₀ L s.heap m) (N : News h₀ L s.heap news)
    (h : ∀ t' h' tk, Fr h₀ L h' m → News h₀ L h' news → Q (.float (maxF x y z) t') { s with heap := h', toks := tk }) :
    wpAny (model prog w) A (call (.builtin "max") [.float x t, .float y u, .float z v]) Q E s := by
  refine call_max_three (three_up (Flt.cmpOf_gt #[.float x t, .float y u, .float z v] (by intro v hv; simp at hv; rcases hv with rfl | rfl | rfl <;> exact .float _ _)) hh fun r h' tk e g => ?_)
  have : ∃ t', r = .float (maxF x y z) t' := by
    unfold maxF
    cases c1 : ltB x y
    · cases c2 : ltB x z
      · exact ⟨t, by simpa [argBest, Flt.ltV, show (Float64.cmp x y == some Ordering.lt) = false from c1, show (Float64.cmp x z == some Ordering.lt) = false from c2, c2] using e.symm⟩
      · exact ⟨v, by simpa [argBest, Flt.ltV, show (Float64.cmp x y == some Ordering.lt) = false from c1, show (Float64.cmp x z == some Ordering.lt) = true from c2, c2] using e.symm⟩
    · cases c2 : ltB y z
      · exact ⟨u, by simpa [argBest, Flt.ltV, show (Float64.cmp x y == some Ordering.lt) = true from c1, show (Float64.cmp y z == some Ordering.lt) = false from c2, c2] using e.symm⟩
      · exact ⟨v, by simpa [argBest, Flt.ltV, show (Float64.cmp x y == some Ordering.lt) = true from c1, show (Float64.cmp y z == some Ordering.lt) = true from c2, c2] using e.symm⟩
  obtain ⟨t', rfl⟩ := this
  exact h t' h' tk (g.fr F) (g.news N)
theorem min3_ff {x y z : UInt64} {t u v : Tok} (hh : A.handled = none) (F : Fr h₀ L s.heap m) (N : News h₀ L s.heap news)
    (h : ∀ t' h' tk, Fr h₀ L h' m → News h₀ L h' news → Q (.float (minF x y z) t') { s with heap := h', toks := tk }) :
    wpAny (model prog w) A (call (.builtin "min") [.float x t, .float y u, .float z v]) Q E s := by
  refine call_min_three (three_up (Flt.cmpOf_lt #[.float x t, .float y u, .float z v] (by intro v hv; simp at hv; rcases hv with rfl | rfl | rfl <;> exact .float _ _)) hh fun r h' tk e g => ?_)
  have : ∃ t', r = .float (minF x y z) t' := by
    unfold minF
    cases c1 : ltB y x
    · cases c2 : ltB z x
      · exact ⟨t, by simpa [argBest, Flt.ltV, show (Float64.cmp y x == some Ordering.lt) = false from c1, show (Float64.cmp z x == some Ordering.lt) = false from c2, c2] using e.symm⟩
      · exact ⟨v, by simpa [argBest, Flt.ltV, show (Float64.cmp y x == some Ordering.lt) = false from c1, show (Float64.cmp z x == some Ordering.lt) = true from c2, c2] using e.symm⟩
    · cases c2 : ltB z y
      · exact ⟨u, by simpa [argBest, Flt.ltV, show (Float64.cmp y x == some Ordering.lt) = true from c1, show (Float64.cmp z y == some Ordering.lt) = false from c2, c2] using e.symm⟩
      · exact ⟨v, by simpa [argBest, Flt.ltV, show (Float64.cmp y x == some Ordering.lt) = true from c1, show (Float64.cmp z y == some Ordering.lt) = true from c2, c2] using e.symm⟩
  obtain ⟨t', rfl⟩ := this
  exact h t' h' tk (g.fr F) (g.news N)
end
local macro_rules | `(tactic| walk_at "call builtin:max") => `(tactic| (k_here; (with_reducible show wpAny _ _ (call _ [Value.float _ _, Value.float _ _, Value.float _ _]) _ _ _); k_dflt (refine' max3_ff ?kH ?kF ?kN ?_; (case kH => exact rfl); (case kF => k_asm); (case kN => k_asm)); intro t' h' tk' F' N'; (try dsimp only); walk_say "MAX3"))
local macro_rules | `(tactic| walk_at "call builtin:min") => `(tactic| (k_here; (with_reducible show wpAny _ _ (call _ [Value.float _ _, Value.float _ _, Value.float _ _]) _ _ _); k_dflt (refine' min3_ff ?kH ?kF ?kN ?_; (case kH => exact rfl); (case kF => k_asm); (case kN => k_asm)); intro t' h' tk' F' N'; (try dsimp only); walk_say "MIN3"))
noncomputable def eqB (x y : UInt64) : Bool := Float64.cmp x y == some Ordering.eq
noncomputable def hueR (x y z : UInt64) : UInt64 := Float64.sub (maxF x y z) (minF x y z)
noncomputable def hueC (x y z u : UInt64) : UInt64 := Float64.div (Float64.sub (maxF x y z) u) (hueR x y z)
noncomputable def hueE (h : UInt64) : UInt64 := (Float64.divmod (Float64.div h f6) f1).snd
noncomputable def hueF (x y z : UInt64) : UInt64 :=
  if eqB x (maxF x y z) = true then hueE (Float64.sub (hueC x y z z) (hueC x y z y))
  else if eqB y (maxF x y z) = true then hueE (Float64.sub (Float64.add 4611686018427387904 (hueC x y z x)) (hueC x y z z))
  else hueE (Float64.sub (Float64.add 4616189618054758400 (hueC x y z y)) (hueC x y z x))
theorem hue0 {x y z : UInt64} (h : eqB x (maxF x y z) = true) : hueF x y z = hueE (Float64.sub (hueC x y z z) (hueC x y z y)) := by unfold hueF; rw [if_pos h]
theorem hue1 {x y z : UInt64} (h : eqB x (maxF x y z) = false) (h' : eqB y (maxF x y z) = true) : hueF x y z = hueE (Float64.sub (Float64.add 4611686018427387904 (hueC x y z x)) (hueC x y z z)) := by unfold hueF; rw [if_neg (if_no h), if_pos h']
theorem hue2 {x y z : UInt64} (h : eqB x (maxF x y z) = false) (h' : eqB y (maxF x y z) = false) : hueF x y z = hueE (Float64.sub (Float64.add 4616189618054758400 (hueC x y z y)) (hueC x y z x)) := by unfold hueF; rw [if_neg (if_no h), if_neg (if_no h')]
/-- a new tuple of three floats, the first one known -/
noncomputable def Tri1 (f : UInt64) (h h' : Heap) (v : Value) : Prop := ∃ D t1 b t2 c t3, v = .ref D ∧ h.get? D = none ∧ h'.get? D = some ({ cls := .type "tuple", data := .seq #[.float f t1, .float b t2, .float c t3] } : Obj)
theorem tri1_of {h h' : Heap} {L D : Addr} {x y z f : UInt64} {t1 t2 t3 : Tok} {rest : List (Addr × Obj)} (N : News h L h' ((D, ({ cls := .type "tuple", data := .seq #[.float x t1, .float y t2, .float z t3] } : Obj)) :: rest)) (e : f = x) : Tri1 f h h' (.ref D) := by
  subst e
  exact ⟨D, t1, y, t2, z, t3, rfl, (N _ (.head _)).2.2, (N _ (.head _)).1⟩
structure HueOk (x y z : UInt64) : Prop where
  ne : eqB (minF x y z) (maxF x y z) = false
  max : Float64.isZero (maxF x y z) = false
  range : Float64.isZero (hueR x y z) = false
  sum : Float64.isZero (Float64.add (maxF x y z) (minF x y z)) = false
  two : Float64.isZero (Float64.sub (Float64.sub 4611686018427387904 (maxF x y z)) (minF x y z)) = false
theorem rgbhsv_cl (w mean mg mb) (x y z : UInt64) (ok : HueOk x y z) (ta tb tc : Tok) : PCl w mean mg mb 2 49 (fun _ => True) [.float x ta, .float y tb, .float z tc] (Tri1 (hueF x y z)) := by
  intro dp un gd cn cs fa ccd cl outer A₀ base h₀ L m s Q E hB hF hK hT hk hd hu hP hret
  refine wpAny_call ?_
  k_dflt cell_enter
  k_steps
  · exact no_of (by assumption) ok.ne
  · exact no_of (by assumption) ok.max
  · exact no_of (by assumption) ok.range
  · exact hret _ _ _ (Fr.gr (by assumption)) (tri1_of (by assumption) (hue0 (by assumption)))
  · exact hret _ _ _ (Fr.gr (by assumption)) (tri1_of (by assumption) (hue1 (by assumption) (by assumption)))
  · exact hret _ _ _ (Fr.gr (by assumption)) (tri1_of (by assumption) (hue2 (by assumption) (by assumption)))
theorem rgbhls_cl (w mean mg mb) (x y z : UInt64) (ok : HueOk x y z) (ta tb tc : Tok) : PCl w mean mg mb 2 28 (fun _ => True) [.float x ta, .float y tb, .float z tc] (Tri1 (hueF x y z)) := by
  intro dp un gd cn cs fa ccd cl outer A₀ base h₀ L m s Q E hB hF hK hT hk hd hu hP hret
  refine wpAny_call ?_
  k_dflt cell_enter
  k_steps
  all_goals first
    | exact no_of (by assumption) ok.ne
    | exact no_of (by assumption) ok.range
    | exact no_of (by assumption) ok.sum
    | exact no_of (by assumption) ok.two
    | exact hret _ _ _ (Fr.gr (by assumption)) (tri1_of (by assumption) (hue0 (by assumption)))
    | exact hret _ _ _ (Fr.gr (by assumption)) (tri1_of (by assumption) (hue1 (by assumption) (by assumption)))
    | exact hret _ _ _ (Fr.gr (by assumption)) (tri1_of (by assumption) (hue2 (by assumption) (by assumption)))
end Fl2
section Pa1
example : True := by w_top off; exact trivial
section
variable {prog : Program} {w : World} {A : Around} {E : Value → Shared → Prop} {s : Shared} {h₀ : Heap} {L : Addr} {m : Str → Option Value} {env : Env}
/-- a list made by a comprehension over a tuple that stood before the call -/
theorem comp_tup {elt iter : Expr} {x : Str} {px : Pos} {scope : Scope} {cl : List (Str × Addr)} {pos : Pos} {Q : Value → Shared → Prop}
    (_F₀ : Fr h₀ L s.heap m) (hclos : closureFor scope env = pure cl) (hcell : ∀ y ∈ scope.names, y.2 ≠ .cell) (hkind : scope.kind = .function)
    (hnames : ∀ y ∈ scope.names, y.2 = .local → scope.names.lookup y.1 = some .local) (hx : scope.names.lookup x = some .local)
    (h : wpAny (model prog w) A (eval iter env) (fun xv s₁ => ∃ ax its news, xv = .ref ax ∧ A.handled = none ∧ Fr h₀ L s₁.heap m ∧ News h₀ L s₁.heap news ∧ h₀.IsTuple ax its ∧ its.size ≤ sizeLine ∧
      ∀ s₂ : Shared, (∃ h, s₂ = { s₁ with heap := h }) → LCg.CompRest prog w A h₀ L m env elt x scope cl s₂ (fun _ => True) (fun i v => its[i]? = some v) (LCg.FinE h₀ L m s₂ Q) its.size 0 [] news) E s)
    (hs : ∀ x, foldedSetIterable iter env x = pure x := by intro _; rfl) :
    wpAny (model prog w) A (eval (.ListComp elt [⟨.Name x px, iter, [], 0⟩] scope pos) env) Q E s := by
  rw [eval_ListComp]
  refine wpAny_comprehension_free (use := none) rfl hs hclos hkind hnames (wpAny_mono h (fun xv s₁ h₁ => ?_) fun _ _ e => e)
  obtain ⟨ax, its, news, rfl, hh, F, N, hT₀, hsz, R⟩ := h₁
  have hT : s₁.heap.IsTuple ax its := hT₀.at fun o e => F.keep ax o e
  have hlt : ax < s₁.heap.objs.size := by obtain ⟨_, e, _⟩ := hT; exact Heap.lt_size e
  refine wpAny_pyIter_tuple hT ?_
  have up : Gr s₁.heap (s₁.heap.push { cls := .type "tuple_iterator", data := .fields #[.ref ax, .int 0 0] }) := fun b o e => Heap.get?_push_of_some _ e
  refine LCg.block_U (S := fun _ => True) (Walks.tuple hh s₁.heap.objs.size ax (Nat.ne_of_lt hlt) its) hsz (fun i h st => by obtain ⟨o, e, _⟩ := st.1; exact ⟨o, e⟩)
    (fun i h h' o nw st e e' k _ _ => ⟨by obtain ⟨o', q, r⟩ := st.1; rw [e] at q; cases q; exact ⟨o, e', r⟩, hT₀.at fun o e => k ax o e⟩) hcell hkind hx ⟨⟨_, Heap.get?_push_size _ rfl, rfl, rfl⟩, hT.at fun o e => up _ _ e⟩ (fun b hb => ?_)
    (up.fr F) (up.news N) (Nat.ne_of_lt F.ns.lt) (next_is_new F) (fun p hp => Nat.ne_of_lt (Heap.lt_size (N p hp).1)) trivial (R _ ⟨_, rfl⟩) ?_
  · show b < (s₁.heap.push _).objs.size
    rw [Heap.size_push]
    rcases List.mem_cons.mp hb with rfl | hb
    · exact Nat.lt_succ_self _
    · rw [List.mem_singleton.mp hb]; exact Nat.lt_succ_of_lt hlt
  · intro D C h' tk m' ys news' F' N' o1 hn hC₀ hD₀ hCL hDL hCD offC fin
    refine ⟨m', hn, fun h'' hs'' => fin D h'' tk (F'.change hs'' hCL hC₀) (fun p hp => ?_) o1⟩
    refine ⟨hs''.extBut _ _ ?_ (N' p hp).1, (N' p hp).2⟩
    rcases List.mem_cons.mp hp with rfl | hp
    · exact Ne.symm hCD
    · exact offC p hp
end
/-- _law_parts -/
noncomputable def partX (p : UInt64) : UInt64 := Float64.add (Float64.mul (Float64.ofInt 60) p) fHalf
noncomputable def partI (p : UInt64) : Int := Flt.toInt Float64.truncOf (partX p)
structure PartOk (p : UInt64) : Prop where
  nan : Float64.isNaN (partX p) = false
  inf : Float64.isInf (partX p) = false
  lt : (partI p).natAbs < 1000
noncomputable abbrev tri3 (x y z : UInt64) (t1 t2 t3 : Tok) : Array Value := #[.float x t1, .float y t2, .float z t3]
/-- a new object -/
noncomputable def NewO (P : Obj → Prop) (h h' : Heap) (v : Value) : Prop := ∃ D o, v = .ref D ∧ h.get? D = none ∧ h'.get? D = some o ∧ P o
theorem newO_of {P : Obj → Prop} {h h' : Heap} {L D : Addr} {o : Obj} {rest : List (Addr × Obj)} (N : News h L h' ((D, o) :: rest)) (p : P o) : NewO P h h' (.ref D) := ⟨D, o, rfl, (N _ (.head _)).2.2, (N _ (.head _)).1, p⟩
/-- a list of these ints -/
noncomputable def IsInts (ns : List Int) (o : Obj) : Prop := ∃ vs n, IntsAre vs ns ∧ o = ({ cls := .type "list", data := .seq vs.toArray n } : Obj)
theorem parts_cl (w mean mg mb) (D : Addr) (x y z : UInt64) (ta tb tc : Tok) (ox : PartOk x) (oy : PartOk y) (oz : PartOk z) : PCl w mean mg mb 2 197 (fun h => h.IsTuple D (tri3 x y z ta tb tc)) [.ref D] (NewO (IsInts [partI x, partI y, partI z])) := by
  intro dp un gd cn cs fa ccd cl outer A₀ base h₀ L m s Q E hB hF hK hT hk hd hu hP hret
  refine wpAny_call ?_
  k_dflt cell_enter
  iterate 3 walk1
  k_dflt (refine comp_tup (by k_asm) (by rfl) (by decide) (by rfl) (by decide) (by rfl) ?_)
  walk1
  refine ⟨D, tri3 x y z ta tb tc, [], rfl, rfl, by assumption, by assumption, hP, by exact Nat.le_of_ble_eq_true rfl, ?_⟩
  rintro _ ⟨g', rfl⟩
  show LCg.CompRest _ _ _ _ _ _ _ _ _ _ _ _ _ _ _ 3 0 [] []
  k_steps
  all_goals first
    | exact no_of (by assumption) ox.nan
    | exact no_of (by assumption) ox.inf
    | exact no_of (by assumption) oy.nan
    | exact no_of (by assumption) oy.inf
    | exact no_of (by assumption) oz.nan
    | exact no_of (by assumption) oz.inf
    | exact big_no (by assumption) ox.lt
    | exact big_no (by assumption) oy.lt
    | exact big_no (by assumption) oz.lt
    | exact hret _ _ _ (Fr.gr (by assumption)) (newO_of (by assumption) ⟨_, _, .cons _ _ (.cons _ _ (.cons _ _ .nil)), rfl⟩)
end Pa1
section Ix0
local macro_rules | `(tactic| walk_at "no such step") => `(tactic| fail "none")
example : True := by w_top off; exact trivial
section
variable {prog : Program} {w : World} {A : Around} {s : Shared} {env : Env} {R : Result → Shared → Prop} {base : Heap}
noncomputable def FindQ (s : Shared) (base : Heap) (L : Addr) (M : Str → Option Value) (own : List (Addr × Obj)) (last : Prop) (R : Result → Shared → Prop) (f : Flow) (s₂ : Shared) : Prop := match f with
  | .next => ¬ last ∧ ∃ h₂ tk₂, s₂ = { s with heap := h₂, toks := tk₂ } ∧ Fr base L h₂ M ∧ News base L h₂ own
  | .ret v => last ∧ R (.ok (.ret v)) s₂
  | _ => False
/-- a loop over enumerate of a list that stood before the call, which leaves at place k -/
theorem enum_find {xi xv : Str} {pi pv pt : Pos} {x1} {body orelse : List Stmt} {e it l : Addr} {items : Array Value} {m : Str → Option Value} {k : Nat}
    (hh : A.handled = none) (hxi : env.kindOf xi = some .local) (hxv : env.kindOf xv = some .local)
    (hp : (env.scope.kind == .class || (env.scope.kind == .module && env.locals != env.globals)) = false)
    (hl₀ : base.IsList l items) (hk : k < items.size) (F : Fr base env.locals s.heap m) (he : IsEnum s.heap e it 0 .none) (hit : s.heap.IsListIter it l 0)
    (he0 : base.get? e = none) (hit0 : base.get? it = none) (hei : e ≠ it) (heL : e ≠ env.locals) (hiL : it ≠ env.locals)
    (step : ∀ i v tk h₁ tk₁ oe oit, items[i]? = some v → i ≤ k → Fr base env.locals h₁ (fun y => if y = xv then some v else if y = xi then some (.int i tk) else m y) → News base env.locals h₁ [(e, oe), (it, oit)] →
      wpAny (model prog w) A (execs body env) (FindQ s base env.locals (fun y => if y = xv then some v else if y = xi then some (.int i tk) else m y) [(e, oe), (it, oit)] (i = k) R) (notedBy (model prog w) A env fun e s' => R (.error e) s') { s with heap := h₁, toks := tk₁ }) :
    codeAny (model prog w) A (.forLoop (.Tuple [.Name xi pi, .Name xv pv] x1 pt) (.ref e) body orelse env) R s := by
  obtain ⟨ol₀, hol₀, _⟩ := id hl₀
  have hlL : l ≠ env.locals := fun q => by
    have := Heap.lt_size hol₀
    have a := F.above
    rw [show l = env.locals from q] at this
    exact absurd (Nat.lt_of_lt_of_le this a) (Nat.lt_irrefl _)
  have hle : l ≠ e := fun q => by rw [show l = e from q, he0] at hol₀; cases hol₀
  have hli : l ≠ it := fun q => by rw [show l = it from q, hit0] at hol₀; cases hol₀
  refine codeAny_forLoop_any
    (fun j s' => ∃ h' tk m' i old, s' = { s with heap := h', toks := tk } ∧ IsEnum h' e it ((i : Nat) : Int) old ∧ h'.IsListIter it l i ∧ Fr base env.locals h' m' ∧ (∀ y, y ≠ xi → y ≠ xv → m' y = m y) ∧ i ≤ k ∧ j = k + 1 - i) ?_ (k + 1)
    ⟨s.heap, s.toks, m, 0, .none, rfl, he, hit, F, fun _ _ _ => rfl, Nat.zero_le _, rfl⟩
  rintro j s' ⟨H, tk, m', i, old, rfl, he', hit', F', hm', hi, rfl⟩
  have hlt : i < items.size := Nat.lt_of_le_of_lt hi hk
  have hv : items[i]? = some items[i] := Array.getElem?_eq_getElem hlt
  generalize items[i] = v at hv
  have hl' : H.IsList l items := Gr.list F'.keep hl₀
  have hn' := F'.ns
  have heH : e < H.objs.size := Heap.lt_size he'
  have hLH : env.locals < H.objs.size := hn'.lt
  obtain ⟨oi, hoi, _⟩ := id hit'
  have hiH : it < H.objs.size := Heap.lt_size hoi
  refine wpAny_pyNext_enum_item he' hit' hl' hv hei fun h₁ heo hit₁ ht₁ hz₁ hk₁ => ?_
  refine wpAny_letOwnedTupleGo_enum heo fun h₂ he₂ hs₂ => ?_
  replace hs₂ : Heap.SameBut e h₁ h₂ := hs₂
  have ht₂ : h₂.IsTuple H.objs.size #[.int i tk, v] := ⟨_, (hs₂.2 _ (Nat.ne_of_gt heH)).trans ht₁, rfl, _, rfl⟩
  have hz₂ : h₂.objs.size = H.objs.size + 1 := hs₂.1.trans hz₁
  refine wpAny_assign_Tuple hh ht₂ rfl rfl fun h₃ hx₃ => ?_
  replace hx₃ : Heap.ExtBut h₂.objs.size h₂ h₃ := hx₃
  have old₃ : ∀ b o, b < H.objs.size → h₂.get? b = some o → h₃.get? b = some o := fun b o hb x => hx₃ b o (by rw [hz₂]; exact Nat.ne_of_lt (Nat.lt_succ_of_lt hb)) x
  have hn₃ : h₃.Ns env.locals m' := (hn'.at fun o x => hk₁ _ o (Ne.symm heL) (Ne.symm hiL) x).sameBut hs₂ (Ne.symm heL) |>.at fun o x => old₃ _ o hLH x
  show wpAny _ A (do holding [v] (assign (.Name xi pi) env (.int i tk)); do holding [] (assign (.Name xv pv) env v); pure ()) _ _ _
  refine wpAny_bind (wpAny_holding (wpAny_assign_Name (wpAny_storeName_local hxi hn₃ (fun h₄ hn₄ hs₄ => ?_) hp)))
  replace hs₄ : Heap.SameBut env.locals h₃ h₄ := hs₄
  refine wpAny_bind (wpAny_holding (wpAny_assign_Name (wpAny_storeName_local hxv hn₄ (fun h₅ hn₅ hs₅ => wpAny_pure ?_) hp)))
  replace hs₅ : Heap.SameBut env.locals h₄ h₅ := hs₅
  have up : ∀ b o, b ≠ env.locals → b < H.objs.size → h₂.get? b = some o → h₅.get? b = some o := fun b o hbL hb x => hs₅.extBut b o hbL (hs₄.extBut b o hbL (old₃ b o hb x))
  have he₅ : IsEnum h₅ e it (((i + 1 : Nat) : Nat) : Int) v := by
    have : ((i + 1 : Nat) : Int) = (i : Int) + 1 := by push_cast; rfl
    rw [this]; exact up e _ heL heH he₂
  have hit₅ : h₅.IsListIter it l (i + 1) := (hit₁.extBut hs₂.extBut (Ne.symm hei)).at fun o x => up it o hiL hiH x
  obtain ⟨oit, hoit, rit⟩ := id hit₅
  have F₅ : Fr base env.locals h₅ (fun y => if y = xv then some v else if y = xi then some (.int i tk) else m y) := by
    refine ⟨?_, fun b o x => ?_, F'.above⟩
    · have : (fun y => if y = xv then some v else if y = xi then some (Value.int i tk) else m y) = (fun y => if y = xv then some v else if y = xi then some (Value.int i tk) else m' y) := by
        funext y
        by_cases h1 : y = xv
        · simp [h1]
        · by_cases h2 : y = xi
          · simp [h2]
          · simp only [if_neg h1, if_neg h2]; exact (hm' y h2 h1).symm
      rw [this]; exact hn₅
    · have hbe : b ≠ e := fun q => by rw [show b = e from q, he0] at x; cases x
      have hbi : b ≠ it := fun q => by rw [show b = it from q, hit0] at x; cases x
      have hbL : b ≠ env.locals := fun q => by
        have := Heap.lt_size x
        rw [show b = env.locals from q] at this
        exact absurd (Nat.lt_of_lt_of_le this F'.above) (Nat.lt_irrefl _)
      have xH := F'.keep b o x
      exact up b o hbL (Heap.lt_size xH) (hs₂.extBut b o hbe (hk₁ b o hbe hbi xH))
  have N₅ : News base env.locals h₅ [(e, _), (it, oit)] := fun p hp => by
    rcases List.mem_cons.mp hp with rfl | hp
    · exact ⟨he₅, heL, he0⟩
    · obtain rfl := List.mem_singleton.mp hp
      exact ⟨hoit, hiL, hit0⟩
  refine wpAny_mono (step i v tk h₅ _ _ oit hv hi F₅ N₅) (fun f s₃ h₆ => ?_) fun _ _ x => x
  cases f with
  | ret v => exact h₆.2
  | brk => exact h₆.elim
  | cont => exact h₆.elim
  | next =>
    obtain ⟨hlast, h₂, tk₂, rfl, F₆, N₆⟩ := h₆
    have hik : i + 1 ≤ k := Nat.lt_of_le_of_ne hi hlast
    refine ⟨k + 1 - (i + 1), by omega, h₂, tk₂, _, i + 1, v, rfl, (N₆ _ (.head _)).1, ⟨oit, (N₆ _ (.tail _ (.head _))).1, rit⟩, F₆, fun y h1 h2 => by simp [h1, h2], hik, rfl⟩
end
end Ix0
section Ix1
local macro_rules | `(tactic| walk_at "no such step") => `(tactic| fail "none")
local macro_rules | `(tactic| walk_at "no such step") => `(tactic| fail "none")
example : True := by w_top off; exact trivial
section
variable {prog : Program} {w : World} {A : Around} {E : Value → Shared → Prop} {s : Shared} {env : Env}
theorem For_enum_find {Q : Flow → Shared → Prop} {xi xv : Str} {pi pv pt pos : Pos} {x1} {iter : Expr} {body orelse : List Stmt}
    (hh : A.handled = none) (hxi : env.kindOf xi = some .local) (hxv : env.kindOf xv = some .local)
    (hp : (env.scope.kind == .class || (env.scope.kind == .module && env.locals != env.globals)) = false)
    (h : wpAny (model prog w) A (eval iter env) (fun xval s₁ => ∃ (e it l : Addr) (items : Array Value) (m : Str → Option Value) (k : Nat) (base : Heap),
      xval = .ref e ∧ base.IsList l items ∧ k < items.size ∧ Fr base env.locals s₁.heap m ∧ IsEnum s₁.heap e it 0 .none ∧ s₁.heap.IsListIter it l 0 ∧ base.get? e = none ∧ base.get? it = none ∧ e ≠ it ∧ e ≠ env.locals ∧ it ≠ env.locals ∧
      ∀ i v tk h₁ tk₁ oe oit, items[i]? = some v → i ≤ k → Fr base env.locals h₁ (fun y => if y = xv then some v else if y = xi then some (.int i tk) else m y) → News base env.locals h₁ [(e, oe), (it, oit)] →
        wpAny (model prog w) A (execs body env) (FindQ s₁ base env.locals (fun y => if y = xv then some v else if y = xi then some (.int i tk) else m y) [(e, oe), (it, oit)] (i = k) (fun r s' => match r with | .ok f => Q f s' | .error e => E e s')) E { s₁ with heap := h₁, toks := tk₁ }) E s)
    (hs : ∀ x, foldedSetIterable iter env x = pure x := by intro _; rfl)
    (hE : PassesOwn (model prog w) A env E := by passes_own) :
    wpAny (model prog w) A (exec (.For (.Tuple [.Name xi pi, .Name xv pv] x1 pt) iter body orelse pos) env) Q E s := by
  refine wpAny_For (wpAny_mono h (fun xval s₁ h₁ => ?_) fun _ _ x => x) hs
  obtain ⟨e, it, l, items, m, k, base, rfl, hl, hk, F, he, hit, he0, hit0, hei, heL, hiL, step⟩ := h₁
  refine wpAny_pyIter_enum he (enum_find (R := fun r s' => match r with | .ok f => Q f s' | .error e => cameBackBy (model prog w) A env E e s') hh hxi hxv hp hl hk F he hit he0 hit0 hei heL hiL fun i v tk h₁ tk₁ oe oit hv hi F₁ N₁ => wpAny_passesOwn hE ?_)
  refine wpAny_mono (step i v tk h₁ tk₁ oe oit hv hi F₁ N₁) (fun f s₂ q => ?_) fun _ _ x => x
  cases f <;> exact q
theorem enum_new {base : Heap} {L l : Addr} {items : Array Value} {n : Nat} {m : Str → Option Value} {Q : Value → Shared → Prop} (F : Fr base L s.heap m)
    (hl : base.get? l = some { cls := .type "list", dict := none, data := .seq items n, slots := #[] })
    (h : ∀ e it h', Fr base L h' m → IsEnum h' e it 0 .none → h'.IsListIter it l 0 → base.get? e = none → base.get? it = none → e ≠ it → e ≠ L → it ≠ L → Q (.ref e) { s with heap := h' }) :
    wpAny (model prog w) A (call (.type "enumerate") [.ref l]) Q E s := by
  refine call_enumerate_1 (F.keep _ _ hl) fun h' he hit hz hk => ?_
  have old : ∀ a, s.heap.objs.size ≤ a → base.get? a = none := fun a ha => by
    cases q : base.get? a with
    | none => rfl
    | some o => exact absurd (Heap.lt_size (F.keep _ _ q)) (Nat.not_lt.mpr ha)
  have hL : L < s.heap.objs.size := F.ns.lt
  exact h _ _ h' (F.keeps hk) he hit (old _ (Nat.le_succ _)) (old _ (Nat.le_refl _)) (Nat.succ_ne_self _) (Nat.ne_of_gt (Nat.lt_succ_of_lt hL)) (Nat.ne_of_gt hL)
end
theorem is_lists {M : Model} {A : Around} {E : Value → Shared → Prop} {s : Shared} {base : Heap} {L x y : Addr} {m : Str → Option Value} {xs ys : Array Value} {Q : Value → Shared → Prop} (F : Fr base L s.heap m) (hx : base.IsList x xs) (hy : base.IsList y ys) (hne : x ≠ y) (h : Q (.bool false) s) :
    wpAny M A (compareOp .Is (.ref x) (.ref y)) Q E s := by
  obtain ⟨ox, hox, hcx, _⟩ := hx
  obtain ⟨oy, hoy, _⟩ := hy
  exact kto_is (F.keep _ _ hox) (F.keep _ _ hoy) hne (by rw [hcx]; simp) h
local macro_rules | `(tactic| walk_at "compareOp Is ref ref") => `(tactic| (k_here; (with_reducible show wpAny _ _ (compareOp CmpOp.Is (Value.ref _) (Value.ref _)) _ _ _); k_dflt (refine is_lists (by k_asm) (by assumption) (by assumption) (by assumption) ?_)))
/-- indexOf: what is asked of the heap -/
structure IdxPre (P X : Addr) (refs : Array Value) (n : Nat) (ns : Nat → List Int) (nx : List Int) (h : Heap) : Prop where
  list : h.get? P = some { cls := .type "list", dict := none, data := .seq refs n, slots := #[] }
  rows : ∀ i v, refs[i]? = some v → ∃ r vs, v = .ref r ∧ h.IsList r vs.toArray ∧ IntsAre vs (ns i) ∧ r ≠ X
  key : ∃ vx, h.IsList X vx.toArray ∧ IntsAre vx nx
theorem idx_cl (w mean mg mb) (P X : Addr) (refs : Array Value) (n : Nat) (ns : Nat → List Int) (nx : List Int) (k : Nat) (hk : k < refs.size) (hke : ns k = nx) (hne : ∀ i, i < k → ns i ≠ nx) :
    PCl w mean mg mb 12 126 (IdxPre P X refs n ns nx) [.ref P, .ref X] (fun _ _ v => ∃ t, v = .int k t) := by
  intro dp un gd cn cs fa ccd cl outer A₀ base h₀ L m s Q E hB hF hK hT hkk hd hu hP hret
  obtain ⟨hPl, hPr, vx, hX, hXi⟩ := hP
  have hPL : s.heap.IsList P refs := ⟨_, hPl, rfl, _, rfl⟩
  refine wpAny_call ?_
  k_dflt cell_enter
  iterate 2 walk1
  k_dflt (refine For_enum_find (by rfl) (by rfl) (by rfl) (by rfl) ?_)
  k_steps
  refine enum_new (by assumption) hPl fun e it h' F' he hit he0 hit0 hei heL hiL => ⟨e, it, P, refs, _, k, s.heap, rfl, hPL, hk, F', he, hit, he0, hit0, hei, heL, hiL, ?_⟩
  intro i v tk h₁ tk₁ oe oit hv hi F₁ N₁
  obtain ⟨r, vs, rfl, hr, hvs, hrX⟩ := hPr i v hv
  k_steps
  · have hik : i = k := Nat.le_antisymm hi (Nat.not_lt.mp fun q => hne i q (by assumption))
    refine And.intro hik ?_
    k_steps
    exact hret _ _ _ (Fr.gr (by assumption)) ⟨_, by rw [hik]⟩
  · exact ⟨fun q => absurd (q ▸ hke) (by assumption), _, _, rfl, by assumption, by assumption⟩
end Ix1
section Lp1
example : True := by w_top off; exact trivial
section
variable {prog : Program} {w : World} {A : Around} {E : Value → Shared → Prop} {s : Shared} {env : Env} {h₀ : Heap} {L : Addr} {m : Str → Option Value}
theorem compRest_ind {elt : Expr} {x : Str} {scope : Scope} {cl : List (Str × Addr)} {S : List (Addr × Obj) → Prop} {P : Nat → Value → Prop} {Fin : List Value → List (Addr × Obj) → Prop} {n : Nat} {news : List (Addr × Obj)}
    (Inv : Nat → List Value → List (Addr × Obj) → Prop) (h0 : Inv 0 [] news)
    (step : ∀ i ys news', i < n → Inv i ys news' → ∀ v I oI C oC D m₂ h tk (E' : Value → Shared → Prop), P i v → LCg.NsObj oC m₂ → m₂ x = some v → Fr h₀ L h m → News h₀ L h ((I, oI) :: (C, oC) :: (D, LCg.lst ys) :: news') → LCg.Off3 I C D news' → ((@Ne Nat I C) ∧ (@Ne Nat I D) ∧ (@Ne Nat C D)) →
      wpAny (model prog w) A (eval elt (compEnvC scope cl C env)) (LCg.CompEnd h₀ L m { s with heap := h, toks := tk } I oI C oC D (LCg.lst ys) S (fun y news'' => Inv (i + 1) (ys ++ [y]) news'')) E' { s with heap := h, toks := tk })
    (fin : ∀ ys news', Inv n ys news' → Fin ys news') : LCg.CompRest prog w A h₀ L m env elt x scope cl s S P Fin n 0 [] news := by
  have all : ∀ k i ys news', i + k = n → Inv i ys news' → LCg.CompRest prog w A h₀ L m env elt x scope cl s S P Fin k i ys news' := by
    intro k
    induction k with
    | zero => intro i ys news' e q; exact fin ys news' (by rw [← e]; exact q)
    | succ k ih =>
      intro i ys news' e q
      refine LCg.CompRest.succ fun v I oI C oC D m₂ h tk E' hP hC hx F N off ne => ?_
      refine wpAny_mono (step i ys news' (by omega) q v I oI C oC D m₂ h tk E' hP hC hx F N off ne) (fun y s₂ hq => ?_) fun _ _ e => e
      obtain ⟨h', tk', news'', rfl, F', N', off', hS, r⟩ := hq
      exact ⟨h', tk', news'', rfl, F', N', off', hS, ih (i + 1) _ _ (by omega) r⟩
  exact all n 0 [] news (Nat.zero_add n) h0
theorem rangeRest_ind {x : Str} {body : List Stmt} {Q : Flow → Shared → Prop} {I : Addr} {a : Int} {n : Nat} {news : List (Addr × Obj)} (J : Nat → (Str → Option Value) → List (Addr × Obj) → Prop) (h0 : J 0 m news)
    (turn : ∀ i m news t h tk, i < n → J i m news → Fr h₀ env.locals h (fun y => if y = x then some (.int (a + (i : Int)) t) else m y) → News h₀ env.locals h ((I, itR (a + ((i + 1 : Nat) : Int)) ((n : Int) - ((i + 1 : Nat) : Int))) :: news) →
      wpAny (model prog w) A (execs body env) (UnrPost h₀ env.locals { s with heap := h, toks := tk } I (itR (a + ((i + 1 : Nat) : Int)) ((n : Int) - ((i + 1 : Nat) : Int))) (J (i + 1)) Q) E { s with heap := h, toks := tk })
    (done : ∀ m news h tk, J n m news → Fr h₀ env.locals h m → News h₀ env.locals h news → Q .next { s with heap := h, toks := tk }) : RangeRest prog w A E h₀ env x body Q s I a n n 0 m news := by
  have all : ∀ k i m news, i + k = n → J i m news → RangeRest prog w A E h₀ env x body Q s I a n k i m news := by
    intro k
    induction k with
    | zero => intro i m news e q; exact RangeRest.zero fun h tk F N => done m news h tk (by rw [← e]; exact q) F N
    | succ k ih =>
      intro i m news e q
      refine RangeRest.succ fun t h tk F N => wpAny_mono (turn i m news t h tk (by omega) q F N) (fun f s₂ hq => ?_) fun _ _ e => e
      have up : UnrEnd h₀ env.locals { s with heap := h, toks := tk } I (itR (a + ((i + 1 : Nat) : Int)) ((n : Int) - ((i + 1 : Nat) : Int))) (J (i + 1)) s₂ → UnrEnd h₀ env.locals { s with heap := h, toks := tk } I (itR (a + ((i + 1 : Nat) : Int)) ((n : Int) - ((i + 1 : Nat) : Int))) (RangeRest prog w A E h₀ env x body Q s I a n k (i + 1)) s₂ := by
        rintro ⟨h', tk', m', news', e', F', N', off, r⟩
        exact ⟨h', tk', m', news', e', F', N', off, ih _ _ _ (by omega) r⟩
      cases f with
      | ret v => exact hq
      | brk => exact hq
      | next => exact up hq
      | cont => exact up hq
  exact all n 0 m news (Nat.zero_add n) h0
theorem listRest_ind {x : Str} {body : List Stmt} {Q : Flow → Shared → Prop} {I : Addr} {lp : Addr × Obj} {vs : List Value} {news : List (Addr × Obj)} (J : Nat → (Str → Option Value) → List (Addr × Obj) → Prop) (h0 : J 0 m news)
    (turn : ∀ i v m news (it : Obj) h tk, vs[i]? = some v → J i m news → it.cls = .type "list_iterator" → Fr h₀ env.locals h (fun y => if y = x then some v else m y) → News h₀ env.locals h ((I, it) :: news) →
      wpAny (model prog w) A (execs body env) (UnrPost h₀ env.locals { s with heap := h, toks := tk } I it (fun m' n' => lp ∈ n' ∧ J (i + 1) m' n') Q) E { s with heap := h, toks := tk })
    (done : ∀ m news h tk, J vs.length m news → Fr h₀ env.locals h m → News h₀ env.locals h news → Q .next { s with heap := h, toks := tk }) : ListRest prog w A E h₀ env x body Q s I lp vs m news := by
  have all : ∀ r i m news, vs.drop i = r → i ≤ vs.length → J i m news → ListRest prog w A E h₀ env x body Q s I lp r m news := by
    intro r
    induction r with
    | nil =>
      intro i m news e hi q
      have : i = vs.length := Nat.le_antisymm hi (by simpa using e)
      exact ListRest.zero fun h tk F N => done m news h tk (by rw [← this]; exact q) F N
    | cons v r ih =>
      intro i m news e hi q
      have hv : vs[i]? = some v := by
        have := congrArg (·[0]?) e
        simpa using this
      have hr : vs.drop (i + 1) = r := by
        have := congrArg (List.drop 1) e
        simpa [List.drop_drop] using this
      have hi' : i + 1 ≤ vs.length := by
        have := List.getElem?_eq_some_iff.mp hv
        exact this.1
      refine ListRest.succ fun it h tk hit F N => wpAny_mono (turn i v m news it h tk hv q hit F N) (fun f s₂ hq => ?_) fun _ _ e => e
      have up : UnrEnd h₀ env.locals { s with heap := h, toks := tk } I it (fun m' n' => lp ∈ n' ∧ J (i + 1) m' n') s₂ → UnrEnd h₀ env.locals { s with heap := h, toks := tk } I it (fun m' n' => lp ∈ n' ∧ ListRest prog w A E h₀ env x body Q s I lp r m' n') s₂ := by
        rintro ⟨h', tk', m', news', e', F', N', off, hl, q⟩
        exact ⟨h', tk', m', news', e', F', N', off, hl, ih _ _ _ hr hi' q⟩
      cases f with
      | ret v => exact hq
      | brk => exact hq
      | next => exact up hq
      | cont => exact up hq
  exact all vs 0 m news rfl (Nat.zero_le _) h0
end
end Lp1
section Lp2
local macro_rules | `(tactic| walk_at "no such step") => `(tactic| fail "none")
example : True := by w_top off; exact trivial
noncomputable def updL : List Str → (Str → Option Value) → (Str → Option Value) → Str → Option Value
  | [], _, m => m
  | x :: r, a, m => fun y => if y = x then a x else updL r a m y
theorem updL_eq {m m' : Str → Option Value} : ∀ (xs : List Str), (∀ y, y ∉ xs → m' y = m y) → m' = updL xs m' m
  | xs, h => by
    have aux : ∀ (xs : List Str) (y : Str), (y ∉ xs → m' y = m y) → m' y = updL xs m' m y := by
      intro xs
      induction xs with
      | nil => intro y h; exact h (by simp)
      | cons x r ih =>
        intro y h
        show _ = if y = x then m' x else updL r m' m y
        by_cases e : y = x
        · rw [if_pos e, e]
        · rw [if_neg e]; exact ih y fun hn => h (by simp [e, hn])
    exact funext fun y => aux xs y (h y)
noncomputable def Stopped (P : Prop) : Prop := P
theorem stopped {P : Prop} (h : Stopped P) : P := h
section
variable {prog : Program} {w : World} {A : Around} {E : Value → Shared → Prop} {s : Shared} {env : Env} {h₀ : Heap} {L : Addr} {m : Str → Option Value}
theorem listRest_upd {x : Str} {body : List Stmt} {Q : Flow → Shared → Prop} {I : Addr} {lp : Addr × Obj} {vs : List Value} {news : List (Addr × Obj)} (xs : List Str) (J : Nat → List (Addr × Obj) → Prop) (h0 : J 0 news)
    (turn : ∀ i v a news (it : Obj) h tk, vs[i]? = some v → J i news → it.cls = .type "list_iterator" → Fr h₀ env.locals h (fun y => if y = x then some v else updL xs a m y) → News h₀ env.locals h ((I, it) :: news) →
      wpAny (model prog w) A (execs body env) (UnrPost h₀ env.locals { s with heap := h, toks := tk } I it (fun m' n' => lp ∈ n' ∧ (∀ y, y ∉ x :: xs → m' y = m y) ∧ J (i + 1) n') Q) E { s with heap := h, toks := tk })
    (done : ∀ a news h tk, J vs.length news → Fr h₀ env.locals h (updL (x :: xs) a m) → News h₀ env.locals h news → Q .next { s with heap := h, toks := tk }) : ListRest prog w A E h₀ env x body Q s I lp vs m news := by
  refine listRest_ind (fun i m' n' => (∀ y, y ∉ x :: xs → m' y = m y) ∧ J i n') ⟨fun _ _ => rfl, h0⟩ (fun i v m₁ n₁ it h tk hv hJ hit F N => ?_) fun m₁ n₁ h tk hJ F N => ?_
  · have e : (fun y => if y = x then some v else m₁ y) = fun y => if y = x then some v else updL xs m₁ m y := by
      have := updL_eq (x :: xs) hJ.1
      funext y
      by_cases q : y = x
      · simp [q]
      · rw [if_neg q, if_neg q, this]
        show (if y = x then _ else _) = _
        rw [if_neg q, ← this]
    rw [e] at F
    exact turn i v m₁ n₁ it h tk hv hJ.2 hit F N
  · exact done m₁ n₁ h tk hJ.2 ((updL_eq (x :: xs) hJ.1) ▸ F) N
theorem rangeRest_upd {x : Str} {body : List Stmt} {Q : Flow → Shared → Prop} {I : Addr} {a₀ : Int} {n : Nat} {news : List (Addr × Obj)} (xs : List Str) (J : Nat → List (Addr × Obj) → Prop) (h0 : J 0 news)
    (turn : ∀ i a news t h tk, i < n → J i news → Fr h₀ env.locals h (fun y => if y = x then some (.int (a₀ + (i : Int)) t) else updL xs a m y) → News h₀ env.locals h ((I, itR (a₀ + ((i + 1 : Nat) : Int)) ((n : Int) - ((i + 1 : Nat) : Int))) :: news) →
      wpAny (model prog w) A (execs body env) (UnrPost h₀ env.locals { s with heap := h, toks := tk } I (itR (a₀ + ((i + 1 : Nat) : Int)) ((n : Int) - ((i + 1 : Nat) : Int))) (fun m' n' => (∀ y, y ∉ x :: xs → m' y = m y) ∧ J (i + 1) n') Q) E { s with heap := h, toks := tk })
    (done : ∀ a news h tk, J n news → Fr h₀ env.locals h (updL (x :: xs) a m) → News h₀ env.locals h news → Q .next { s with heap := h, toks := tk }) : RangeRest prog w A E h₀ env x body Q s I a₀ n n 0 m news := by
  refine rangeRest_ind (fun i m' n' => (∀ y, y ∉ x :: xs → m' y = m y) ∧ J i n') ⟨fun _ _ => rfl, h0⟩ (fun i m₁ n₁ t h tk hi hJ F N => ?_) fun m₁ n₁ h tk hJ F N => ?_
  · have e : (fun y => if y = x then some (Value.int (a₀ + (i : Int)) t) else m₁ y) = fun y => if y = x then some (Value.int (a₀ + (i : Int)) t) else updL xs m₁ m y := by
      have := updL_eq (x :: xs) hJ.1
      funext y
      by_cases q : y = x
      · simp [q]
      · rw [if_neg q, if_neg q, this]
        show (if y = x then _ else _) = _
        rw [if_neg q, ← this]
    rw [e] at F
    exact turn i m₁ n₁ t h tk hi hJ.2 F N
  · exact done m₁ n₁ h tk hJ.2 ((updL_eq (x :: xs) hJ.1) ▸ F) N
end
end Lp2
section Lp3
example : True := by w_top off; exact trivial
noncomputable def setL : List (Str × Value) → (Str → Option Value) → Str → Option Value
  | [], m => m
  | p :: r, m => fun y => if y = p.1 then some p.2 else setL r m y
theorem setL_at {m m' : Str → Option Value} {y : Str} : ∀ {ps : List (Str × Value)}, (∀ p ∈ ps, m' p.1 = some p.2) → (y ∉ ps.map (·.1) → m' y = m y) → m' y = setL ps m y
  | [], _, h => h (by simp)
  | p :: r, hp, h => by
    show _ = if y = p.1 then some p.2 else setL r m y
    by_cases e : y = p.1
    · rw [if_pos e, e]; exact hp p (.head _)
    · rw [if_neg e]; exact setL_at (fun q hq => hp q (.tail _ hq)) fun hn => h (by
        rw [List.map_cons, List.mem_cons]; exact fun q => q.elim e hn)
/-- the locals after some turns: ps told anew, x any, the others as before -/
noncomputable def StM (x : Str) (ps : List (Str × Value)) (m m' : Str → Option Value) : Prop := (∀ p ∈ ps, m' p.1 = some p.2) ∧ ∀ y, y ∉ x :: ps.map (·.1) → m' y = m y
theorem StM.turn {x : Str} {ps : List (Str × Value)} {m m' : Str → Option Value} {v : Value} (h : StM x ps m m') : (fun y => if y = x then some v else m' y) = fun y => if y = x then some v else setL ps m y := by
  funext y
  by_cases e : y = x
  · simp [e]
  · simp only [if_neg e]; exact setL_at h.1 fun hn => h.2 y (by rw [List.mem_cons]; exact fun q => q.elim e hn)
theorem StM.done {x : Str} {ps : List (Str × Value)} {m m' : Str → Option Value} (h : StM x ps m m') : m' = updL [x] m' (setL ps m) := by
  funext y
  show _ = if y = x then m' x else setL ps m y
  by_cases e : y = x
  · rw [if_pos e, e]
  · rw [if_neg e]; exact setL_at h.1 fun hn => h.2 y (by rw [List.mem_cons]; exact fun q => q.elim e hn)
theorem StM.start {x : Str} {ps : List (Str × Value)} {m : Str → Option Value} (h : ∀ p ∈ ps, m p.1 = some p.2) : StM x ps m m := ⟨h, fun _ _ => rfl⟩
section
variable {prog : Program} {w : World} {A : Around} {E : Value → Shared → Prop} {s : Shared} {env : Env} {h₀ : Heap} {x : Str} {body : List Stmt} {Q : Flow → Shared → Prop}
/-- a loop over a list of ints that stood: the locals ps of a state -/
theorem iter_st {σ : Type} (ps : σ → List (Str × Value)) (ok : Nat → σ → Prop) {l : Addr} {vs : List Value} {ns : List Int} {m₀ : Str → Option Value} {news : List (Addr × Obj)}
    (hh : A.handled = none) (hl : h₀.IsList l vs.toArray) (hi : IntsAre vs ns) (F : Fr h₀ env.locals s.heap m₀) (N : News h₀ env.locals s.heap news) (c₀ : σ) (h0 : ok 0 c₀) (hm : ∀ p ∈ ps c₀, m₀ p.1 = some p.2)
    (turn : ∀ i n t c h tk own, ns[i]? = some n → ok i c → Fr h₀ env.locals h (fun y => if y = x then some (.int n t) else setL (ps c) m₀ y) → News h₀ env.locals h (own ++ news) →
      wpAny (model prog w) A (execs body env) (InvPost h₀ env.locals (fun m' => ∃ c', ok (i + 1) c' ∧ StM x (ps c') m₀ m') (own ++ news) { s with heap := h, toks := tk } Q) E { s with heap := h, toks := tk })
    (done : ∀ a c h tk, ok ns.length c → Fr h₀ env.locals h (updL [x] a (setL (ps c) m₀)) → News h₀ env.locals h news → Q .next { s with heap := h, toks := tk }) :
    wpAny (model prog w) A (pyIter (.ref l)) (fun it s₂ => LoopAtV prog w A h₀ env x body Q E it s₂) E s := by
  refine iter_inv (fun i m' => ∃ c, ok i c ∧ StM x (ps c) m₀ m') hh hl hi F N ⟨c₀, h0, .start hm⟩ ?_ ?_
  · rintro i n t m₁ h tk own hin ⟨c, hc, hs⟩ F' N'
    rw [hs.turn] at F'
    exact turn i n t c h tk own hin hc F' N'
  · rintro m₁ h tk ⟨c, hc, hs⟩ F' N'
    exact done m₁ c h tk hc (hs.done ▸ F') N'
theorem strRest_ind {I : Addr} {l : List Str} {m : Str → Option Value} {news : List (Addr × Obj)} (J : Nat → (Str → Option Value) → List (Addr × Obj) → Prop) (h0 : J 0 m news)
    (turn : ∀ i c m news u (it : Obj) h tk, l[i]? = some c → J i m news → Fr h₀ env.locals h (fun y => if y = x then some (.str c u) else m y) → News h₀ env.locals h ((I, it) :: news) →
      wpAny (model prog w) A (execs body env) (UnrPost h₀ env.locals { s with heap := h, toks := tk } I it (J (i + 1)) Q) E { s with heap := h, toks := tk })
    (done : ∀ m news h tk, J l.length m news → Fr h₀ env.locals h m → News h₀ env.locals h news → Q .next { s with heap := h, toks := tk }) : StrRest prog w A E h₀ env x body Q s I l m news := by
  have all : ∀ r i m news, l.drop i = r → i ≤ l.length → J i m news → StrRest prog w A E h₀ env x body Q s I r m news := by
    intro r
    induction r with
    | nil =>
      intro i m news e hi q
      have : i = l.length := Nat.le_antisymm hi (by simpa using e)
      exact StrRest.zero fun h tk F N => done m news h tk (by rw [← this]; exact q) F N
    | cons v r ih =>
      intro i m news e hi q
      have hv : l[i]? = some v := by
        have := congrArg (·[0]?) e
        simpa using this
      have hr : l.drop (i + 1) = r := by
        have := congrArg (List.drop 1) e
        simpa [List.drop_drop] using this
      have hi' : i + 1 ≤ l.length := (List.getElem?_eq_some_iff.mp hv).1
      refine StrRest.succ fun u it h tk F N => wpAny_mono (turn i v m news u it h tk hv q F N) (fun f s₂ hq => ?_) fun _ _ e => e
      have up : UnrEnd h₀ env.locals { s with heap := h, toks := tk } I it (J (i + 1)) s₂ → UnrEnd h₀ env.locals { s with heap := h, toks := tk } I it (StrRest prog w A E h₀ env x body Q s I r) s₂ := by
        rintro ⟨h', tk', m', news', e', F', N', off, q⟩
        exact ⟨h', tk', m', news', e', F', N', off, ih _ _ _ hr hi' q⟩
      cases f with
      | ret v => exact hq
      | brk => exact hq
      | next => exact up hq
      | cont => exact up hq
  exact all l 0 m news rfl (Nat.zero_le _) h0
/-- a loop over a text: the locals ps and the ledger Led of a state -/
theorem strRest_st {σ : Type} (ps : σ → List (Str × Value)) (Led : σ → List (Addr × Obj)) (ok : Nat → σ → Prop) {I : Addr} {l : List Str} {m : Str → Option Value} {news : List (Addr × Obj)} (c₀ : σ) (hn : news = Led c₀) (h0 : ok 0 c₀) (hm : ∀ p ∈ ps c₀, m p.1 = some p.2)
    (turn : ∀ i ch c u (it : Obj) h tk, l[i]? = some ch → ok i c → Fr h₀ env.locals h (fun y => if y = x then some (.str ch u) else setL (ps c) m y) → News h₀ env.locals h ((I, it) :: Led c) →
      wpAny (model prog w) A (execs body env) (UnrPost h₀ env.locals { s with heap := h, toks := tk } I it (fun m' n' => ∃ c', n' = Led c' ∧ ok (i + 1) c' ∧ StM x (ps c') m m') Q) E { s with heap := h, toks := tk })
    (done : ∀ a c h tk, ok l.length c → Fr h₀ env.locals h (updL [x] a (setL (ps c) m)) → News h₀ env.locals h (Led c) → Q .next { s with heap := h, toks := tk }) : StrRest prog w A E h₀ env x body Q s I l m news := by
  refine strRest_ind (fun i m' n' => ∃ c, n' = Led c ∧ ok i c ∧ StM x (ps c) m m') ⟨c₀, hn, h0, .start hm⟩ ?_ ?_
  · rintro i ch m₁ n₁ u it h tk hv ⟨c, rfl, hc, hs⟩ F' N'
    rw [hs.turn] at F'
    exact turn i ch c u it h tk hv hc F' N'
  · rintro m₁ n₁ h tk ⟨c, rfl, hc, hs⟩ F' N'
    exact done m₁ c h tk hc (hs.done ▸ F') N'
/-- a loop over a range: the locals ps and the ledger Led of a state -/
theorem rangeRest_st {σ : Type} (ps : σ → List (Str × Value)) (Led : σ → List (Addr × Obj)) (ok : Nat → σ → Prop) {I : Addr} {a : Int} {n : Nat} {m : Str → Option Value} {news : List (Addr × Obj)} (c₀ : σ) (hn : news = Led c₀) (h0 : ok 0 c₀) (hm : ∀ p ∈ ps c₀, m p.1 = some p.2)
    (turn : ∀ i c t h tk, i < n → ok i c → Fr h₀ env.locals h (fun y => if y = x then some (.int (a + (i : Int)) t) else setL (ps c) m y) → News h₀ env.locals h ((I, itR (a + ((i + 1 : Nat) : Int)) ((n : Int) - ((i + 1 : Nat) : Int))) :: Led c) →
      wpAny (model prog w) A (execs body env) (UnrPost h₀ env.locals { s with heap := h, toks := tk } I (itR (a + ((i + 1 : Nat) : Int)) ((n : Int) - ((i + 1 : Nat) : Int))) (fun m' n' => ∃ c', n' = Led c' ∧ ok (i + 1) c' ∧ StM x (ps c') m m') Q) E { s with heap := h, toks := tk })
    (done : ∀ b c h tk, ok n c → Fr h₀ env.locals h (updL [x] b (setL (ps c) m)) → News h₀ env.locals h (Led c) → Q .next { s with heap := h, toks := tk }) : RangeRest prog w A E h₀ env x body Q s I a n n 0 m news := by
  refine rangeRest_ind (fun i m' n' => ∃ c, n' = Led c ∧ ok i c ∧ StM x (ps c) m m') ⟨c₀, hn, h0, .start hm⟩ ?_ ?_
  · rintro i m₁ n₁ t h tk hv ⟨c, rfl, hc, hs⟩ F' N'
    rw [hs.turn] at F'
    exact turn i c t h tk hv hc F' N'
  · rintro m₁ n₁ h tk ⟨c, rfl, hc, hs⟩ F' N'
    exact done m₁ c h tk hc (hs.done ▸ F') N'
end
end Lp3
section Ft1
example : True := by w_top off; exact trivial
local macro_rules | `(tactic| k_room) => `(tactic| ktr_room)
local macro_rules | `(tactic| walk_at "exec For Name Name cons nil") => `(tactic| (k_here; refine stopped ?_))
local macro_rules | `(tactic| walk_at "exec For Name Call cons nil") => `(tactic| (k_here; refine stopped ?_))
local macro_rules | `(tactic| walk_at "call ref") => `(tactic| (k_here; (with_reducible show wpAny _ _ (call (Value.ref 126) [Value.ref _, Value.ref _]) _ _ _); refine stopped ?_))
local macro_rules | `(tactic| walk_at "UnrEnd") => `(tactic| (refine stopped ?_))
/-- the mirrored hue, in whole steps -/
noncomputable def mir (m k j : Int) : Int := (2 * k - j) % m
noncomputable def InR (m x : Int) : Prop := 0 ≤ x ∧ x < m
theorem mir_in {m : Int} (hm : InR 7 m ∧ 1 < m) (k j : Int) : InR m (mir m k j) := ⟨Int.emod_nonneg _ (by have := hm.2; omega), Int.emod_lt_of_pos _ (by have := hm.2; omega)⟩
/-- a row of the mirrors' table -/
noncomputable def RowAt (m k : Int) (r : Addr) (h : Heap) : Prop := ∃ vs, h.IsList r vs ∧ ∀ j, InR m j → ∃ t, vs[j.toNat]? = some (.int (mir m k j) t)
/-- the mirrors' table -/
noncomputable def TableAt (m : Int) (T : Addr) (h : Heap) : Prop := ∃ vs, h.IsList T vs ∧ ∀ k, InR m k → ∃ r, vs[k.toNat]? = some (.ref r) ∧ RowAt m k r h
theorem RowAt.gr {m k : Int} {r : Addr} {h h' : Heap} (g : Gr h h') (x : RowAt m k r h) : RowAt m k r h' := let ⟨vs, hl, q⟩ := x; ⟨vs, g.list hl, q⟩
theorem TableAt.gr {m : Int} {T : Addr} {h h' : Heap} (g : Gr h h') (x : TableAt m T h) : TableAt m T h' := let ⟨vs, hl, q⟩ := x; ⟨vs, g.list hl, fun k hk => let ⟨r, a, b⟩ := q k hk; ⟨r, a, b.gr g⟩⟩
section
variable {prog : Program} {w : World} {A : Around} {E : Value → Shared → Prop} {s : Shared} {base : Heap} {L a : Addr} {mm : Str → Option Value} {m k j : Int} {u : Tok} {value slice : PySem.Expr} {Q : Value → Shared → Prop}
theorem in63 {m k : Int} (hm : InR 7 m ∧ 1 < m) (hk : InR m k) : k < 2 ^ 63 := by have := hm.1.2; have := hk.2; omega
theorem sub_table (hm : InR 7 m ∧ 1 < m) (F : Fr base L s.heap mm) (x : TableAt m a base) (hk : InR m k) (h : ∀ r, RowAt m k r base → Q (.ref r) s)
    (hs : subscripted slice false (.ref a) (.int k u) = operate [.ref a, .int k u] (getItem (.ref a) (.int k u)) := by with_unfolding_all rfl) :
    wpAny (model prog w) A (subscriptTail value slice (.ref a) (.int k u)) Q E s := by
  obtain ⟨vs, hl, q⟩ := x
  obtain ⟨r, hr, hrow⟩ := q k hk
  have hL : s.heap.IsList a vs := Gr.list F.keep hl
  exact tail_any hL.typeIs slot_list_getitem.lookup (wpAny_getItem_list hL hk.1 (in63 hm hk) hr (h r hrow)) hs
theorem sub_row (hm : InR 7 m ∧ 1 < m) (F : Fr base L s.heap mm) (x : RowAt m k a base) (hj : InR m j) (h : ∀ t, Q (.int (mir m k j) t) s)
    (hs : subscripted slice false (.ref a) (.int j u) = operate [.ref a, .int j u] (getItem (.ref a) (.int j u)) := by with_unfolding_all rfl) :
    wpAny (model prog w) A (subscriptTail value slice (.ref a) (.int j u)) Q E s := by
  obtain ⟨vs, hl, q⟩ := x
  obtain ⟨t, ht⟩ := q j hj
  have hL : s.heap.IsList a vs := Gr.list F.keep hl
  exact tail_any hL.typeIs slot_list_getitem.lookup (wpAny_getItem_list hL hj.1 (in63 hm hj) ht (h t)) hs
end
local macro_rules | `(tactic| walk_at "subscriptTail") => `(tactic| (k_here; (with_reducible show wpAny _ _ (subscriptTail _ _ (Value.ref _) (Value.int _ _)) _ _ _); k_dflt (first
  | (refine sub_table (by assumption) (by k_asm) (by assumption) (by first | assumption | exact mir_in (by assumption) _ _) ?_; intro r' hr')
  | (refine sub_row (by assumption) (by k_asm) (by assumption) (by first | assumption | exact mir_in (by assumption) _ _) ?_; intro t'))))
/-- _law_feet: n crossings -/
noncomputable def feetS (m c : Int) : Nat → Int × Int → Int × Int
  | 0, p => p
  | n + 1, p => feetS m c n (if c > 0 then (p.2, mir m p.2 p.1) else (mir m p.1 p.2, p.1))
noncomputable def feetF (m c l r : Int) : List Int := [(feetS m c c.natAbs (l, r)).1, (feetS m c c.natAbs (l, r)).2]
noncomputable def stepF (m c : Int) (p : Int × Int) : Int × Int := if c > 0 then (p.2, mir m p.2 p.1) else (mir m p.1 p.2, p.1)
theorem feetS_succ (m c : Int) : ∀ (n : Nat) (p : Int × Int), feetS m c (n + 1) p = stepF m c (feetS m c n p)
  | 0, _ => rfl
  | n + 1, p => feetS_succ m c n (stepF m c p)
theorem absF (c : Int) : (if c < 0 then -c else c) = ((c.natAbs : Nat) : Int) := by split <;> omega
theorem small_4 {n : Nat} (h : n < 4) : Builtin.Range.small 0 (n : Int) 1 = true ∧ Builtin.Range.rangeSize 0 (n : Int) 1 = ((n : Nat) : Int) := by
  have : n = 0 ∨ n = 1 ∨ n = 2 ∨ n = 3 := by omega
  rcases this with rfl | rfl | rfl | rfl <;> exact ⟨by decide, by decide⟩
theorem small_abs {c : Int} (hc : -4 < c ∧ c < 4) : Builtin.Range.small 0 (if c < 0 then -c else c) 1 = true ∧ Builtin.Range.rangeSize 0 (if c < 0 then -c else c) 1 = ((c.natAbs : Nat) : Int) := by
  rw [absF]; exact small_4 (by omega)
theorem feet_cl (w mean mg mb) (m c l r : Int) (T : Addr) (hm : InR 7 m ∧ 1 < m) (hl : InR m l) (hr : InR m r) (hc : -4 < c ∧ c < 4) (tl tr tc : Tok) : PCl w mean mg mb 4 209 (TableAt m T) [.int l tl, .int r tr, .int c tc, .ref T] (NewO (IsInts (feetF m c l r))) := by
  intro dp un gd cn cs fa ccd cl outer A₀ base h₀ L m' s Q E hB hF hK hT hkk hd hu hP hret
  have hcs := small_abs hc
  refine wpAny_call ?_
  k_dflt cell_enter
  k_steps
  rename_i F1 N1 _ _ _
  unfold Stopped
  k_dflt (refine For_invVF F1 (by rfl) (by rfl) ?_)
  iterate 13 walk1
  rename_i hr2 F2 N2 _
  k_dflt (refine iter_rangeUnr (n := c.natAbs) (by rfl) hr2 hcs.1 hcs.2 F2 N2 fun I hI => rangeRest_st (σ := Int × Int × Tok × Tok) (fun q => [(Str.ofString "left", .int q.1 q.2.2.1), (Str.ofString "right", .int q.2.1 q.2.2.2)]) (fun _ => []) (fun i q => (q.1, q.2.1) = feetS m c i (l, r) ∧ InR m q.1 ∧ InR m q.2.1) (l, r, tl, tr) rfl ⟨rfl, hl, hr⟩ (fun q hq => by cases hq with | head => rfl | tail _ h => cases h with | head => rfl | tail _ h => cases h) ?_ ?_)
  · rintro i ⟨x, y, tx, ty⟩ u h tk hi ⟨hok, hx, hy⟩ F N
    try k_fold
    dsimp only at hok hx hy F
    k_steps
    · rename_i F8 N8
      unfold Stopped
      refine UnrEnd.intro F8 N8 [] ?sub1 ?off1 ⟨(y, mir m y x, ?ta1, ?tb1), ?nn1, ⟨?ok1, hy, mir_in hm _ _⟩, ⟨?pq1, ?pr1⟩⟩
      case pq1 =>
        intro q hq
        cases hq with
        | head => rfl
        | tail _ h => cases h with
          | head => rfl
          | tail _ h => cases h
      case sub1 =>
        intro q hq
        cases hq with
        | head => k_mem
        | tail _ h => cases h
      case off1 => intro q hq; cases hq
      case nn1 => rfl
      case ok1 => rw [feetS_succ, ← hok]; simp only [stepF]; rw [if_pos (show c > 0 by omega)]
      case pr1 =>
        intro z hz
        simp only [List.map, List.mem_cons, List.not_mem_nil, or_false, not_or] at hz
        simp [hz.1, hz.2.1, hz.2.2, setL]
    · rename_i F8 N8
      unfold Stopped
      refine UnrEnd.intro F8 N8 [] ?sub2 ?off2 ⟨(mir m x y, x, ?ta2, ?tb2), ?nn2, ⟨?ok2, mir_in hm _ _, hx⟩, ⟨?pq2, ?pr2⟩⟩
      case pq2 =>
        intro q hq
        cases hq with
        | head => rfl
        | tail _ h => cases h with
          | head => rfl
          | tail _ h => cases h
      case sub2 =>
        intro q hq
        cases hq with
        | head => k_mem
        | tail _ h => cases h
      case off2 => intro q hq; cases hq
      case nn2 => rfl
      case ok2 => rw [feetS_succ, ← hok]; simp only [stepF]; rw [if_neg (show ¬ c > 0 by omega)]
      case pr2 =>
        intro z hz
        simp only [List.map, List.mem_cons, List.not_mem_nil, or_false, not_or] at hz
        simp [hz.1, hz.2.1, hz.2.2, setL]
  · rintro a ⟨x, y, tx, ty⟩ h tk ⟨hok, hx, hy⟩ F N
    have e : feetF m c l r = [x, y] := by
      have h1 := congrArg Prod.fst hok
      have h2 := congrArg Prod.snd hok
      unfold feetF; rw [← h1, ← h2]
    k_steps
    exact hret _ _ _ (Fr.gr (by assumption)) (by rw [e]; exact newO_of (by assumption) ⟨_, _, .cons _ _ (.cons _ _ .nil), rfl⟩)
end Ft1
section Pu1
example : True := by w_top off; exact trivial
noncomputable def hueP (m i : Int) : UInt64 := Float64.ofFrac (decide (i < 0) != decide (m < 0)) i.natAbs m.natAbs
noncomputable def lightF (n : Int) : UInt64 := Float64.ofFrac (decide (n < 0) != decide ((60 : Int) < 0)) n.natAbs (60 : Int).natAbs
noncomputable def partsF (p : UInt64 × UInt64 × UInt64) : List Int := [partI p.1, partI p.2.1, partI p.2.2]
noncomputable def paintT (m i : Int) : UInt64 × UInt64 × UInt64 := hsvF (hueP m i)
noncomputable def paintF (m i : Int) : List Int := partsF (paintT m i)
noncomputable def hueL (m i : Int) : UInt64 := hueF (lightF (partI (paintT m i).1)) (lightF (partI (paintT m i).2.1)) (lightF (partI (paintT m i).2.2))
noncomputable def turnF (m i j : Int) : UInt64 := Float64.sub (Float64.mul (Float64.ofInt 2) (hueL m i)) (hueL m j)
noncomputable def negF (t : UInt64) : Bool := Float64.cmpInt t 0 == some Ordering.lt
noncomputable def madeF (t : UInt64) : UInt64 × UInt64 × UInt64 := if negF t then hlsF t else hsvF t
noncomputable def hsvOkB (a : UInt64) : Bool := !Float64.isNaN (Float64.mul a f6) && !Float64.isInf (Float64.mul a f6) && decide ((hsvI a).natAbs < 1000)
noncomputable def partOkB (p : UInt64) : Bool := !Float64.isNaN (partX p) && !Float64.isInf (partX p) && decide ((partI p).natAbs < 1000)
noncomputable def partsOkB (p : UInt64 × UInt64 × UInt64) : Bool := partOkB p.1 && partOkB p.2.1 && partOkB p.2.2
noncomputable def hueOkB (x y z : UInt64) : Bool := !eqB (minF x y z) (maxF x y z) && !Float64.isZero (maxF x y z) && !Float64.isZero (hueR x y z) && !Float64.isZero (Float64.add (maxF x y z) (minF x y z)) && !Float64.isZero (Float64.sub (Float64.sub 4611686018427387904 (maxF x y z)) (minF x y z))
noncomputable def goodP (m i : Int) : Bool := hsvOkB (hueP m i) && partsOkB (paintT m i) && hueOkB (lightF (partI (paintT m i).1)) (lightF (partI (paintT m i).2.1)) (lightF (partI (paintT m i).2.2)) && decide (paintF m i = paintF m i)
noncomputable def goodC (m i j : Int) : Bool := (negF (turnF m i j) || hsvOkB (turnF m i j)) && partsOkB (madeF (turnF m i j)) && decide (partsF (madeF (turnF m i j)) = paintF m (mir m i j)) && (List.range (mir m i j).toNat).all fun k => decide (paintF m k ≠ paintF m (mir m i j))
theorem all_good : ([2, 3, 4, 5, 6] : List Nat).all (fun m => (List.range m).all fun i => goodP m i && (List.range m).all fun j => goodC m i j) = true := by decide +kernel
end Pu1
section Us1
local macro_rules | `(tactic| walk_at "no such step") => `(tactic| fail "none")
example : True := by w_top off; exact trivial
noncomputable abbrev triO (F : UInt64 × UInt64 × UInt64) (t1 t2 t3 : Tok) : Obj := { cls := .type "tuple", data := .seq #[.float F.1 t1, .float F.2.1 t2, .float F.2.2 t3] }
section
variable {w : World} {mean : ExcName → Option Value} {mg mb : Str → Option Value} {dp un : Nat} {gd : Option (List Code)} {cn : Str} {cs : Scope} {a : Addr} {ccd : Value} {cl : List (Str × Addr)} {outer : List Env} {A₀ : Around} {base h₀ : Heap} {L : Addr} {m : Str → Option Value} {s : Shared} {Q E : Value → Shared → Prop} {news : List (Addr × Obj)}
theorem use_hsv {x : UInt64} {t1 t2 t3 : Tok} (hB : Below A₀ base outer h₀) (F : Fr h₀ L s.heap m) (N : News h₀ L s.heap news) (X : (hd.heap_1 w.params).In h₀) (T : Top VW LS mean mg mb h₀) (hk : cs.kind = .function) (hd : dp + 2 < recursionLimit) (hu : un + 8 * 2 < cLine) (ok : hsvOk x)
    (h : ∀ D t1 t2 t3 h' tk', Fr h₀ L h' m → News h₀ L h' ((D, triO (hsvF x) t1 t2 t3) :: news) → AllNe D news → Q (.ref D) { s with heap := h', toks := tk' }) :
    wpAny (model PG w) (ktrTop dp un gd cn cs L a ccd cl outer) (call (.ref 56) [.float x t1, .float f1 t2, .float f1 t3]) Q E s :=
  useP (hsvrgb_cl w mean mg mb x ok t1 t2 t3) hB F N X T hk hd hu trivial fun v h' tk' g F' N' hx => by obtain ⟨D, t1, t2, t3, e, n, o⟩ := hx; subst e; exact h D t1 t2 t3 h' tk' F' (newOn F N g n o).1 (newOn F N g n o).2
theorem use_hls {x : UInt64} {t1 t2 t3 : Tok} (hB : Below A₀ base outer h₀) (F : Fr h₀ L s.heap m) (N : News h₀ L s.heap news) (X : (hd.heap_1 w.params).In h₀) (T : Top VW LS mean mg mb h₀) (hk : cs.kind = .function) (hd : dp + 4 < recursionLimit) (hu : un + 8 * 4 < cLine)
    (h : ∀ D t1 t2 t3 h' tk', Fr h₀ L h' m → News h₀ L h' ((D, triO (hlsF x) t1 t2 t3) :: news) → AllNe D news → Q (.ref D) { s with heap := h', toks := tk' }) :
    wpAny (model PG w) (ktrTop dp un gd cn cs L a ccd cl outer) (call (.ref 35) [.float x t1, .float fHalf t2, .float f1 t3]) Q E s :=
  useP (hls_cl w mean mg mb x t1 t2 t3) hB F N X T hk hd hu trivial fun v h' tk' g F' N' hx => by obtain ⟨D, t1, t2, t3, e, n, o⟩ := hx; subst e; exact h D t1 t2 t3 h' tk' F' (newOn F N g n o).1 (newOn F N g n o).2
theorem use_rgbhsv {x y z : UInt64} {t1 t2 t3 : Tok} (hB : Below A₀ base outer h₀) (F : Fr h₀ L s.heap m) (N : News h₀ L s.heap news) (X : (hd.heap_1 w.params).In h₀) (T : Top VW LS mean mg mb h₀) (hk : cs.kind = .function) (hd : dp + 2 < recursionLimit) (hu : un + 8 * 2 < cLine) (ok : HueOk x y z)
    (h : ∀ D t1 b t2 c t3 h' tk', Fr h₀ L h' m → News h₀ L h' ((D, ({ cls := .type "tuple", data := .seq #[.float (hueF x y z) t1, .float b t2, .float c t3] } : Obj)) :: news) → AllNe D news → Q (.ref D) { s with heap := h', toks := tk' }) :
    wpAny (model PG w) (ktrTop dp un gd cn cs L a ccd cl outer) (call (.ref 49) [.float x t1, .float y t2, .float z t3]) Q E s :=
  useP (rgbhsv_cl w mean mg mb x y z ok t1 t2 t3) hB F N X T hk hd hu trivial fun v h' tk' g F' N' hx => by obtain ⟨D, t1, b, t2, c, t3, e, n, o⟩ := hx; subst e; exact h D t1 b t2 c t3 h' tk' F' (newOn F N g n o).1 (newOn F N g n o).2
theorem use_rgbhls {x y z : UInt64} {t1 t2 t3 : Tok} (hB : Below A₀ base outer h₀) (F : Fr h₀ L s.heap m) (N : News h₀ L s.heap news) (X : (hd.heap_1 w.params).In h₀) (T : Top VW LS mean mg mb h₀) (hk : cs.kind = .function) (hd : dp + 2 < recursionLimit) (hu : un + 8 * 2 < cLine) (ok : HueOk x y z)
    (h : ∀ D t1 b t2 c t3 h' tk', Fr h₀ L h' m → News h₀ L h' ((D, ({ cls := .type "tuple", data := .seq #[.float (hueF x y z) t1, .float b t2, .float c t3] } : Obj)) :: news) → AllNe D news → Q (.ref D) { s with heap := h', toks := tk' }) :
    wpAny (model PG w) (ktrTop dp un gd cn cs L a ccd cl outer) (call (.ref 28) [.float x t1, .float y t2, .float z t3]) Q E s :=
  useP (rgbhls_cl w mean mg mb x y z ok t1 t2 t3) hB F N X T hk hd hu trivial fun v h' tk' g F' N' hx => by obtain ⟨D, t1, b, t2, c, t3, e, n, o⟩ := hx; subst e; exact h D t1 b t2 c t3 h' tk' F' (newOn F N g n o).1 (newOn F N g n o).2
theorem use_parts {D : Addr} {G : UInt64 × UInt64 × UInt64} {t1 t2 t3 : Tok} (hB : Below A₀ base outer h₀) (F : Fr h₀ L s.heap m) (N : News h₀ L s.heap news) (X : (hd.heap_1 w.params).In h₀) (T : Top VW LS mean mg mb h₀) (hk : cs.kind = .function) (hd : dp + 2 < recursionLimit) (hu : un + 8 * 2 < cLine)
    (hm : (D, triO G t1 t2 t3) ∈ news) (ok : PartOk G.1 ∧ PartOk G.2.1 ∧ PartOk G.2.2)
    (h : ∀ D' o h' tk', Fr h₀ L h' m → News h₀ L h' ((D', o) :: news) → AllNe D' news → IsInts (partsF G) o → Q (.ref D') { s with heap := h', toks := tk' }) :
    wpAny (model PG w) (ktrTop dp un gd cn cs L a ccd cl outer) (call (.ref 197) [.ref D]) Q E s :=
  useP (parts_cl w mean mg mb D G.1 G.2.1 G.2.2 t1 t2 t3 ok.1 ok.2.1 ok.2.2) hB F N X T hk hd hu ⟨_, (N _ hm).1, rfl, _, rfl⟩ fun v h' tk' g F' N' hx => by obtain ⟨D', o, e, n, ho, p⟩ := hx; subst e; exact h D' o h' tk' F' (newOn F N g n ho).1 (newOn F N g n ho).2 p
theorem use_idx {P X' : Addr} {refs : Array Value} {n : Nat} {ns : Nat → List Int} {nx : List Int} {k : Nat} (hB : Below A₀ base outer h₀) (F : Fr h₀ L s.heap m) (N : News h₀ L s.heap news) (X : (hd.heap_1 w.params).In h₀) (T : Top VW LS mean mg mb h₀) (hk : cs.kind = .function) (hd : dp + 12 < recursionLimit) (hu : un + 8 * 12 < cLine)
    (hP : IdxPre P X' refs n ns nx s.heap) (hkn : k < refs.size) (he : ns k = nx) (hne : ∀ i, i < k → ns i ≠ nx)
    (h : ∀ t h' tk', Fr h₀ L h' m → News h₀ L h' news → Q (.int k t) { s with heap := h', toks := tk' }) :
    wpAny (model PG w) (ktrTop dp un gd cn cs L a ccd cl outer) (call (.ref 126) [.ref P, .ref X']) Q E s :=
  useP (idx_cl w mean mg mb P X' refs n ns nx k hkn he hne) hB F N X T hk hd hu hP fun v h' tk' g F' N' hx => by obtain ⟨t, e⟩ := hx; subst e; exact h t h' tk' F' N'
end
/-- goodP and goodC, as facts -/
theorem hsvOk_of {a : UInt64} (h : hsvOkB a = true) : hsvOk a := by
  simp only [hsvOkB, Bool.and_eq_true, Bool.not_eq_true', decide_eq_true_eq] at h
  exact ⟨h.1.1, h.1.2, h.2⟩
theorem partOk_of {a : UInt64} (h : partOkB a = true) : PartOk a := by
  simp only [partOkB, Bool.and_eq_true, Bool.not_eq_true', decide_eq_true_eq] at h
  exact ⟨h.1.1, h.1.2, h.2⟩
theorem partsOk_of {G : UInt64 × UInt64 × UInt64} (h : partsOkB G = true) : PartOk G.1 ∧ PartOk G.2.1 ∧ PartOk G.2.2 := by
  simp only [partsOkB, Bool.and_eq_true] at h
  exact ⟨partOk_of h.1.1, partOk_of h.1.2, partOk_of h.2⟩
theorem hueOk_of {x y z : UInt64} (h : hueOkB x y z = true) : HueOk x y z := by
  simp only [hueOkB, Bool.and_eq_true, Bool.not_eq_true'] at h
  exact ⟨h.1.1.1.1, h.1.1.1.2, h.1.1.2, h.1.2, h.2⟩
structure GoodP (m i : Int) : Prop where
  hsv : hsvOk (hueP m i)
  parts : PartOk (paintT m i).1 ∧ PartOk (paintT m i).2.1 ∧ PartOk (paintT m i).2.2
  hue : HueOk (lightF (partI (paintT m i).1)) (lightF (partI (paintT m i).2.1)) (lightF (partI (paintT m i).2.2))
structure GoodC (m i j : Int) : Prop where
  hsv : negF (turnF m i j) = false → hsvOk (turnF m i j)
  parts : PartOk (madeF (turnF m i j)).1 ∧ PartOk (madeF (turnF m i j)).2.1 ∧ PartOk (madeF (turnF m i j)).2.2
  found : paintF m ((mir m i j).toNat : Nat) = partsF (madeF (turnF m i j))
  first : ∀ k : Nat, k < (mir m i j).toNat → paintF m k ≠ partsF (madeF (turnF m i j))
theorem good_both {m i : Nat} (hm : 2 ≤ m ∧ m < 7) (hi : i < m) : goodP m i = true ∧ ∀ j : Nat, j < m → goodC m i j = true := by
  have h := List.all_eq_true.mp all_good m (by
    have : m = 2 ∨ m = 3 ∨ m = 4 ∨ m = 5 ∨ m = 6 := by omega
    rcases this with rfl | rfl | rfl | rfl | rfl <;> simp)
  have h' := List.all_eq_true.mp h i (by simpa using hi)
  rw [Bool.and_eq_true] at h'
  exact ⟨h'.1, fun j hj => List.all_eq_true.mp h'.2 j (by simpa using hj)⟩
theorem goodP_at {m i : Nat} (hm : 2 ≤ m ∧ m < 7) (hi : i < m) : GoodP m i := by
  have h := (good_both hm hi).1
  simp only [goodP, Bool.and_eq_true] at h
  exact ⟨hsvOk_of h.1.1.1, partsOk_of h.1.1.2, hueOk_of h.1.2⟩
theorem goodC_at {m i j : Nat} (hm : 2 ≤ m ∧ m < 7) (hi : i < m) (hj : j < m) : GoodC m i j := by
  have h := (good_both hm hi).2 j hj
  simp only [goodC, Bool.and_eq_true, Bool.or_eq_true, decide_eq_true_eq, List.all_eq_true, List.mem_range] at h
  obtain ⟨⟨⟨h1, h2⟩, h3⟩, h4⟩ := h
  have hin := mir_in (m := m) ⟨⟨by omega, by omega⟩, by omega⟩ i j
  have hc : (((mir m i j).toNat : Nat) : Int) = mir m i j := Int.toNat_of_nonneg hin.1
  refine ⟨fun q => hsvOk_of ?_, partsOk_of h2, by rw [hc]; exact h3.symm, fun k hk => by rw [h3]; exact h4 k hk⟩
  rcases h1 with h1 | h1
  · rw [q] at h1; cases h1
  · exact h1
end Us1
section Mi1
example : True := by w_top off; exact trivial
/-- the paints made so far: their addresses in order, each a list of its ints -/
noncomputable def Paints (n : Int) (i : Nat) (ys : List Value) (els : List (Addr × Obj)) : Prop := ys.length = i ∧ ∀ k, k < i → ∃ r o, ys[k]? = some (.ref r) ∧ (r, o) ∈ els ∧ IsInts (paintF n k) o
theorem Paints.nil {n : Int} : Paints n 0 [] [] := ⟨rfl, fun k hk => absurd hk (Nat.not_lt_zero _)⟩
theorem Paints.snoc {n : Int} {i : Nat} {ys : List Value} {els : List (Addr × Obj)} {r : Addr} {o : Obj} (x : Paints n i ys els) (p : IsInts (paintF n i) o) : Paints n (i + 1) (ys ++ [.ref r]) (els ++ [(r, o)]) := by
  refine ⟨by rw [List.length_append, x.1]; rfl, fun k hk => ?_⟩
  by_cases h : k < i
  · obtain ⟨r', o', a, b, c⟩ := x.2 k h
    exact ⟨r', o', by rw [List.getElem?_append_left (by rw [x.1]; exact h)]; exact a, List.mem_append_left _ b, c⟩
  · obtain rfl : k = i := by omega
    exact ⟨r, o, by rw [List.getElem?_append_right (by rw [x.1]; exact Nat.le_refl _), x.1, Nat.sub_self]; rfl, by simp, p⟩
noncomputable def MirPost (n : Int) (h h' : Heap) (v : Value) : Prop := ∃ (T : Addr) (tl : List (Addr × Obj)), v = .ref T ∧ (∀ p : Addr × Obj, p ∈ tl → h.get? p.1 = none ∧ h'.get? p.1 = some p.2) ∧ ∀ h'' : Heap, (∀ p : Addr × Obj, p ∈ tl → h''.get? p.1 = some p.2) → TableAt n T h''
theorem off3_append {I C D : Addr} : ∀ {l l' : List (Addr × Obj)}, LCg.Off3 I C D l → LCg.Off3 I C D l' → LCg.Off3 I C D (l ++ l')
  | [], _, _, h => h
  | _ :: _, _, h, h' => ⟨h.1, off3_append h.2 h'⟩
theorem off3_left {I C D : Addr} : ∀ {l l' : List (Addr × Obj)}, LCg.Off3 I C D (l ++ l') → LCg.Off3 I C D l
  | [], _, _ => trivial
  | _ :: _, _, h => ⟨h.1, off3_left h.2⟩
theorem off3_right {I C D : Addr} : ∀ {l l' : List (Addr × Obj)}, LCg.Off3 I C D (l ++ l') → LCg.Off3 I C D l'
  | [], _, h => h
  | _ :: _, _, h => off3_right h.2
theorem small_n {n : Nat} (hn : n < 7) : Builtin.Range.small 0 (n : Int) 1 = true ∧ Builtin.Range.rangeSize 0 (n : Int) 1 = ((n : Nat) : Int) := by
  have : n = 0 ∨ n = 1 ∨ n = 2 ∨ n = 3 ∨ n = 4 ∨ n = 5 ∨ n = 6 := by omega
  rcases this with rfl | rfl | rfl | rfl | rfl | rfl | rfl <;> exact ⟨by decide, by decide⟩
/-- the hues told so far -/
noncomputable def Hues (n : Int) (i : Nat) (us : List Value) : Prop := us.length = i ∧ ∀ k, k < i → ∃ t, us[k]? = some (.float (hueL n k) t)
theorem Hues.nil {n : Int} : Hues n 0 [] := ⟨rfl, fun k hk => absurd hk (Nat.not_lt_zero _)⟩
theorem Hues.snoc {n : Int} {i : Nat} {us : List Value} {t : Tok} (x : Hues n i us) : Hues n (i + 1) (us ++ [.float (hueL n i) t]) := by
  refine ⟨by rw [List.length_append, x.1]; rfl, fun k hk => ?_⟩
  by_cases h : k < i
  · obtain ⟨t', a⟩ := x.2 k h
    exact ⟨t', by rw [List.getElem?_append_left (by rw [x.1]; exact h)]; exact a⟩
  · obtain rfl : k = i := by omega
    exact ⟨t, by rw [List.getElem?_append_right (by rw [x.1]; exact Nat.le_refl _), x.1, Nat.sub_self]; rfl⟩
theorem allLt_ne {d : Addr} : ∀ {l : List (Addr × Obj)}, AllLt d l → ∀ p ∈ l, p.1 ≠ d
  | _, h, p, hp => by
    rename_i l
    induction l with
    | nil => cases hp
    | cons q r ih =>
      rcases List.mem_cons.mp hp with rfl | hp
      · exact Nat.ne_of_lt h.1
      · exact ih h.2 hp
theorem small_size {vs : List Value} (h : vs.length ≤ 9) : vs.toArray.size ≤ sizeLine := by
  rw [List.size_toArray]; exact Nat.le_trans h (by decide)
theorem madeN {t : UInt64} (h : negF t = true) : madeF t = hlsF t := by unfold madeF; rw [if_pos h]
theorem madeP {t : UInt64} (h : negF t = false) : madeF t = hsvF t := by unfold madeF; rw [if_neg (if_no h)]
theorem GoodC.partsN {m i j : Int} (g : GoodC m i j) (h : negF (turnF m i j) = true) : PartOk (hlsF (turnF m i j)).1 ∧ PartOk (hlsF (turnF m i j)).2.1 ∧ PartOk (hlsF (turnF m i j)).2.2 := by have := g.parts; rw [madeN h] at this; exact this
theorem GoodC.partsP {m i j : Int} (g : GoodC m i j) (h : negF (turnF m i j) = false) : PartOk (hsvF (turnF m i j)).1 ∧ PartOk (hsvF (turnF m i j)).2.1 ∧ PartOk (hsvF (turnF m i j)).2.2 := by have := g.parts; rw [madeP h] at this; exact this
/-- the cells of a row told so far -/
noncomputable def Cells (n : Int) (i : Nat) (j : Nat) (cs : List Value) : Prop := cs.length = j ∧ ∀ k, k < j → ∃ t, cs[k]? = some (.int (((mir n i k).toNat : Nat) : Int) t)
theorem Cells.nil {n : Int} {i : Nat} : Cells n i 0 [] := ⟨rfl, fun k hk => absurd hk (Nat.not_lt_zero _)⟩
theorem Cells.snoc {n : Int} {i j : Nat} {cs : List Value} {t : Tok} (x : Cells n i j cs) : Cells n i (j + 1) (cs ++ [.int (((mir n i j).toNat : Nat) : Int) t]) := by
  refine ⟨by rw [List.length_append, x.1]; rfl, fun k hk => ?_⟩
  by_cases h : k < j
  · obtain ⟨t', a⟩ := x.2 k h
    exact ⟨t', by rw [List.getElem?_append_left (by rw [x.1]; exact h)]; exact a⟩
  · obtain rfl : k = j := by omega
    exact ⟨t, by rw [List.getElem?_append_right (by rw [x.1]; exact Nat.le_refl _), x.1, Nat.sub_self]; rfl⟩
/-- the rows made so far -/
noncomputable def Rows' (n : Nat) (i : Nat) (refs : List Value) (rows : List (Addr × Obj)) : Prop := refs.length = i ∧ ∀ k, k < i → ∃ r vs nc, refs[k]? = some (.ref r) ∧ (r, W.listOf vs.toArray nc) ∈ rows ∧ Cells n k n vs
theorem Rows'.nil {n : Nat} : Rows' n 0 [] [] := ⟨rfl, fun k hk => absurd hk (Nat.not_lt_zero _)⟩
theorem Rows'.snoc {n i : Nat} {refs : List Value} {rows : List (Addr × Obj)} {r : Addr} {vs : List Value} {nc : Nat} (x : Rows' n i refs rows) (c : Cells n i n vs) : Rows' n (i + 1) (refs ++ [.ref r]) ((r, W.listOf vs.toArray nc) :: rows) := by
  refine ⟨by rw [List.length_append, x.1]; rfl, fun k hk => ?_⟩
  by_cases h : k < i
  · obtain ⟨r', vs', nc', a, b, c'⟩ := x.2 k h
    exact ⟨r', vs', nc', by rw [List.getElem?_append_left (by rw [x.1]; exact h)]; exact a, .tail _ b, c'⟩
  · obtain rfl : k = i := by omega
    exact ⟨r, vs, nc, by rw [List.getElem?_append_right (by rw [x.1]; exact Nat.le_refl _), x.1, Nat.sub_self]; rfl, .head _, c⟩
theorem table_of {n : Nat} {T : Addr} {refs : List Value} {nt : Nat} {rows : List (Addr × Obj)} (hn : 2 ≤ n ∧ n < 7) (x : Rows' n n refs rows) {h : Heap} (e : ∀ p : Addr × Obj, p ∈ (T, W.listOf refs.toArray nt) :: rows → h.get? p.1 = some p.2) : TableAt n T h := by
  refine ⟨refs.toArray, ⟨_, e _ (.head _), rfl, _, rfl⟩, fun k hk => ?_⟩
  have hkn : k.toNat < n := by have := hk.1; have := hk.2; omega
  obtain ⟨r, vs, nc, a, b, c⟩ := x.2 k.toNat hkn
  refine ⟨r, by simpa using a, vs.toArray, ⟨_, e _ (.tail _ b), rfl, _, rfl⟩, fun j hj => ?_⟩
  have hjn : j.toNat < n := by have := hj.1; have := hj.2; omega
  obtain ⟨t, q⟩ := c.2 j.toNat hjn
  have e1 : ((k.toNat : Nat) : Int) = k := Int.toNat_of_nonneg hk.1
  have e2 : ((j.toNat : Nat) : Int) = j := Int.toNat_of_nonneg hj.1
  rw [e1, e2] at q
  have hin := mir_in (m := n) ⟨⟨by omega, by omega⟩, by omega⟩ k j
  rw [Int.toNat_of_nonneg hin.1] at q
  exact ⟨t, by simpa using q⟩
theorem idxPre_of {n : Nat} {ys : List Value} {els news : List (Addr × Obj)} {h₀ h : Heap} {L P X : Addr} {o : Obj} {nx : List Int} (hp : Paints n n ys els) (N : News h₀ L h news) (hP : (P, LCg.lst ys) ∈ news) (hels : ∀ p ∈ els, p ∈ news) (hX : (X, o) ∈ news) (hne : ∀ p ∈ els, p.1 ≠ X) (io : IsInts nx o) :
    IdxPre P X ys.toArray ys.length (fun k => paintF n k) nx h := by
  refine ⟨(N _ hP).1, fun i v hv => ?_, ?_⟩
  · have hi : i < n := by
      have := (Array.getElem?_eq_some_iff.mp hv).1
      simpa [hp.1] using this
    obtain ⟨r, o', hr, hro, vs, k, hvs, rfl⟩ := hp.2 i hi
    have : v = .ref r := by
      have : ys[i]? = some v := by simpa using hv
      exact Option.some.inj (this.symm.trans hr)
    exact ⟨r, vs, this, ⟨_, (N _ (hels _ hro)).1, rfl, _, rfl⟩, hvs, hne _ hro⟩
  · obtain ⟨vs, k, hvs, rfl⟩ := io
    exact ⟨vs, ⟨_, (N _ hX).1, rfl, _, rfl⟩, hvs⟩
section
variable {prog : Program} {w : World} {A : Around} {E : Value → Shared → Prop} {s : Shared} {h₀ : Heap} {L a : Addr} {news : List (Addr × Obj)} {u : Tok} {value slice : PySem.Expr} {Q : Value → Shared → Prop}
theorem sub_tup0 {v : Value} {r : List Value} {n : Nat} (N : News h₀ L s.heap news) (hm : (a, ({ cls := .type "tuple", data := .seq (v :: r).toArray n } : Obj)) ∈ news) (h : Q v s)
    (hs : subscripted slice false (.ref a) (.int 0 u) = operate [.ref a, .int 0 u] (getItem (.ref a) (.int 0 u)) := by with_unfolding_all rfl) :
    wpAny (model prog w) A (subscriptTail value slice (.ref a) (.int 0 u)) Q E s :=
  item_tupleT (l := v :: r) ⟨_, (N _ hm).1, rfl, n, rfl⟩ (by decide) (by decide) (j := 0) (by simp [seqIndex?]) rfl h hs
theorem sub_lstN {v : Value} {vs : List Value} {n : Nat} {k : Int} (N : News h₀ L s.heap news) (hm : (a, ({ cls := .type "list", data := .seq vs.toArray n } : Obj)) ∈ news) (h0 : 0 ≤ k) (hk : k < 2 ^ 63) (hx : vs[k.toNat]? = some v) (h : Q v s)
    (hs : subscripted slice false (.ref a) (.int k u) = operate [.ref a, .int k u] (getItem (.ref a) (.int k u)) := by with_unfolding_all rfl) :
    wpAny (model prog w) A (subscriptTail value slice (.ref a) (.int k u)) Q E s := by
  have hL : s.heap.IsList a vs.toArray := ⟨_, (N _ hm).1, rfl, n, rfl⟩
  exact tail_any hL.typeIs slot_list_getitem.lookup (wpAny_getItem_list hL h0 hk (by simpa using hx) h) hs
end
section
variable {prog : Program} {w : World} {A A₀ : Around} {s : Shared} {K : Frag} {L : Addr} {h₀ base : Heap} {m mg mb : Str → Option Value} {p : Program} {loose : List Str} {mean : ExcName → Option Value}
theorem enterPC {env : Env} {outer : List Env} {R : Result → Shared → Prop} {name qual : Str} {params : Arguments} {body : List Stmt} {scope : Scope} {dV kV doc pm cdv ct oc : Value} {an od : Option Addr} {osl : Array (Option Value)} {f : Addr} {args : Args} {binds : List (Str × Value)}
    (B : Below A₀ base outer h₀) (F : Fr h₀ L s.heap m) (X₀ : K.In h₀) (T : Top p loose mean mg mb h₀) (hA : A.frames = some (env :: outer)) (hf : env.frame = some L) (hke : env.scope.kind = .function)
    (ho : K.lookup f = some ⟨oc, od, .func (fnOf name qual params body scope dV kV doc pm an cdv ct), osl⟩) (hcd : codeIn K cdv qual = true) (hroom : A.depth < recursionLimit)
    (hbind : BindsTo s (fnOf name qual params body scope dV kV doc pm an cdv ct) args binds) (hkind : (binds.all fun y => scope.names.lookup y.1 == some .local || scope.names.lookup y.1 == some .cell) = true)
    (hnd : ((cellsFrom 0 scope.names []).map (·.1)).Nodup)
    (h : ∀ L' h₁ tk cells, Fr s.heap L' h₁ (bindL (envOfC qual scope L' f cdv).kindOf binds fun _ => none) → News s.heap L' h₁ cells →
      CellsAre (bindC (envOfC qual scope L' f cdv).kindOf binds fun _ => none) (cellsFrom (L' + 1) scope.names []) cells → Below A base (env :: outer) s.heap → K.In s.heap → Top p loose mean mg mb s.heap →
      wpAny (model prog w) (A.deeper (envOfC qual scope L' f cdv)) (execs body (envOfC qual scope L' f cdv))
        (fun fl s' => LeaveK h₀ L m s.heap R (match fl with | .ret v => v | _ => .none) s')
        (fun e s' => wpAny (model prog w) (A.deeper (envOfC qual scope L' f cdv)) (leaving (envOfC qual scope L' f cdv) e) (fun _ s'' => R (.error e) s'') (fun e' s'' => R (.error e') s'') s')
        { s with heap := h₁, toks := tk })
    (hco : scope.isCoroutine = false) (hgen : scope.isGenerator = false) (hk : scope.kind = .function) : codeAny (model prog w) A (.call (.ref f) args) R s := by
  obtain ⟨_, BG, _, lv⟩ := groundX (R := R) B F (News.nil (h₀ := h₀) (h := s.heap) (L := L)) hA hf hke
  refine codeAny_call_function hroom ((X₀.keeps F.keep) _ _ ho) rfl hco hgen rfl (codeRec_of (X₀.keeps F.keep) hcd) (hbind _ _ _ _ ?_)
  refine wpAny_newFunctionEnv_cells hk (kindsX hkind _) fun env' he s' x => ?_
  subst he
  refine ⟨(T.nolimit.keeps F.keep).keeps x.toInCall.keep, codeAny_func ?_⟩
  obtain ⟨h₁, tk, rfl, _⟩ := x.done
  have hk₁ := x.toInCall.keep
  obtain ⟨cells, NC, Y⟩ := Cl.news (h₀ := s.heap) (Nat.le_refl _) fun n c hm => ⟨x.cell n c (lookup_of_mem_nodup (cellsFrom_names scope.names 0 (s.heap.objs.size + 1) [] [] rfl ▸ hnd) hm), x.above n c hm⟩
  exact wpAny_mono (h s.heap.objs.size h₁ tk cells ⟨x.toInCall.ns, fun b o e => hk₁ b o e, Nat.le_refl _⟩ NC Y BG (X₀.keeps F.keep) (T.keeps F.keep)) (fun fl s' hl => lv _ _ hl) fun _ _ y => y
end
local macro_rules | `(tactic| cell_enter) => `(tactic| (refine' enterPC ?k1 ?k2 ?k3 ?k5 ?kA ?kF ?kK ?k6 ?k7 ?k8 ?k9 ?kB ?kD ?_ ?c2 ?c3 ?c4; (case kA => exact rfl); (case kF => exact rfl); (case kK => assumption); (case k1 => k_asm); (case k2 => k_asm); (case k3 => k_asm); (case k5 => k_asm); (case k6 => k_is); (case k7 => k_is); (case k8 => ktr_room); (case k9 => exact BindsTo.of_eq rfl); (case kB => exact rfl); (case kD => decide +kernel); (case c2 => exact rfl); (case c3 => exact rfl); (case c4 => exact rfl); k_whole; intro L' h' tk' cells' F' N' Y' B' X' T'; k_cells Y'; (try simp only [List.cons_append, List.nil_append] at N'); (try dsimp only); (try k_fold)))
local macro_rules | `(tactic| walk_at "call ref") => `(tactic| (k_here; (with_reducible show wpAny _ _ (call (Value.ref 56) [Value.float _ _, Value.float _ _, Value.float _ _]) _ _ _); k_dflt (refine' use_hsv ?kB ?kF ?kN ?kX ?kT ?kk ?kd ?ku ?ko ?_; (case kB => k_asm); (case kF => k_asm); (case kN => k_asm); (case kX => k_asm); (case kT => k_asm); (case kk => first | exact rfl | assumption); (case kd => ktr_room); (case ku => ktr_units); (case ko => first | assumption | exact GoodC.hsv (by assumption) (by assumption))); intro D' t1' t2' t3' h' tk' F' N' ne'; (try simp only [AllNe] at ne'); (try dsimp only); walk_say "CUT use_hsv"))
local macro_rules | `(tactic| walk_at "call ref") => `(tactic| (k_here; (with_reducible show wpAny _ _ (call (Value.ref 35) [Value.float _ _, Value.float _ _, Value.float _ _]) _ _ _); k_dflt (refine' use_hls ?kB ?kF ?kN ?kX ?kT ?kk ?kd ?ku  ?_; (case kB => k_asm); (case kF => k_asm); (case kN => k_asm); (case kX => k_asm); (case kT => k_asm); (case kk => first | exact rfl | assumption); (case kd => ktr_room); (case ku => ktr_units)); intro D' t1' t2' t3' h' tk' F' N' ne'; (try simp only [AllNe] at ne'); (try dsimp only); walk_say "CUT use_hls"))
local macro_rules | `(tactic| walk_at "call ref") => `(tactic| (k_here; (with_reducible show wpAny _ _ (call (Value.ref 49) [Value.float _ _, Value.float _ _, Value.float _ _]) _ _ _); k_dflt (refine' use_rgbhsv ?kB ?kF ?kN ?kX ?kT ?kk ?kd ?ku ?ko ?_; (case kB => k_asm); (case kF => k_asm); (case kN => k_asm); (case kX => k_asm); (case kT => k_asm); (case kk => first | exact rfl | assumption); (case kd => ktr_room); (case ku => ktr_units); (case ko => assumption)); intro D' t1' b' t2' c' t3' h' tk' F' N' ne'; (try simp only [AllNe] at ne'); (try dsimp only); walk_say "CUT use_rgbhsv"))
local macro_rules | `(tactic| walk_at "call ref") => `(tactic| (k_here; (with_reducible show wpAny _ _ (call (Value.ref 28) [Value.float _ _, Value.float _ _, Value.float _ _]) _ _ _); k_dflt (refine' use_rgbhls ?kB ?kF ?kN ?kX ?kT ?kk ?kd ?ku ?ko ?_; (case kB => k_asm); (case kF => k_asm); (case kN => k_asm); (case kX => k_asm); (case kT => k_asm); (case kk => first | exact rfl | assumption); (case kd => ktr_room); (case ku => ktr_units); (case ko => assumption)); intro D' t1' b' t2' c' t3' h' tk' F' N' ne'; (try simp only [AllNe] at ne'); (try dsimp only); walk_say "CUT use_rgbhls"))
local macro_rules | `(tactic| walk_at "call ref") => `(tactic| (k_here; (with_reducible show wpAny _ _ (call (Value.ref 197) [Value.ref _]) _ _ _); k_dflt (refine' use_parts ?kB ?kF ?kN ?kX ?kT ?kk ?kd ?ku ?km ?ko ?_; (case kB => k_asm); (case kF => k_asm); (case kN => k_asm); (case kX => k_asm); (case kT => k_asm); (case kk => first | exact rfl | assumption); (case kd => ktr_room); (case ku => ktr_units); (case km => ((with_reducible repeat (first | exact List.mem_cons_self | refine List.mem_cons_of_mem _ ?_)); done)); (case ko => first | assumption | exact GoodC.partsN (by assumption) (by assumption) | exact GoodC.partsP (by assumption) (by assumption))); intro D' o' h' tk' F' N' ne' io'; (try simp only [AllNe] at ne'); (try dsimp only); walk_say "CUT use_parts"))
local macro_rules | `(tactic| k_room) => `(tactic| ktr_room)
local macro_rules | `(tactic| walk_at "exec For Name Name cons nil") => `(tactic| (k_here; refine stopped ?_))
local macro_rules | `(tactic| walk_at "exec For Name Call cons nil") => `(tactic| (k_here; refine stopped ?_))
local macro_rules | `(tactic| walk_at "call ref") => `(tactic| (k_here; (with_reducible show wpAny _ _ (call (Value.ref 126) [Value.ref _, Value.ref _]) _ _ _); refine stopped ?_))
local macro_rules | `(tactic| walk_at "LeaveK") => `(tactic| (k_dflt (refine' leaveK_ ?k1 ?k2 ?_; (case k1 => k_asm); (case k2 => k_asm); k_whole); intro kF kN; (try dsimp only)))
local macro_rules | `(tactic| size_fits) => `(tactic| exact small_size (by assumption))
local macro_rules | `(tactic| k_all) => `(tactic| first | exact (by assumption) | exact allLt_ne (by first | assumption | exact And.right (And.right (by assumption)) | exact And.right (And.right (And.right (by assumption)))))
local macro_rules | `(tactic| walk_at "CompEnd") => `(tactic| (k_dflt (refine LCg.CompEnd.intro (by assumption) (by assumption) _ (fun _ hp => hp) (by assumption) (by assumption) ?_)))
local macro_rules | `(tactic| walk_at "subscriptTail") => `(tactic| (k_here; (with_reducible show wpAny _ _ (subscriptTail _ _ (Value.ref _) (Value.int _ _)) _ _ _); k_dflt (refine' sub_lstN ?N ?m ?h0 ?hk ?hx ?_; (case N => k_asm); (case m => ((with_reducible repeat (first | exact List.mem_cons_self | refine List.mem_cons_of_mem _ ?_)); done)); (case h0 => decide); (case hk => decide); (case hx => rfl); k_whole)))
local macro_rules | `(tactic| walk_at "subscriptTail") => `(tactic| (k_here; (with_reducible show wpAny _ _ (subscriptTail _ _ (Value.ref _) (Value.int 0 _)) _ _ _); k_dflt (refine' sub_tup0 ?N ?m ?_; (case N => k_asm); (case m => ((with_reducible repeat (first | exact List.mem_cons_self | refine List.mem_cons_of_mem _ ?_)); done)); k_whole)))
local macro_rules | `(tactic| walk_at "subscriptTail Name Constant ref int") => `(tactic| (k_here; (with_reducible show wpAny _ _ (subscriptTail _ _ (Value.ref _) (Value.int _ _)) _ _ _); k_dflt (refine' sub_lstN ?N ?m ?h0 ?hk ?hx ?_; (case N => k_asm); (case m => ((with_reducible repeat (first | exact List.mem_cons_self | refine List.mem_cons_of_mem _ ?_)); done)); (case h0 => decide); (case hk => decide); (case hx => rfl); k_whole)))
local macro_rules | `(tactic| walk_at "subscriptTail Name Constant ref int") => `(tactic| (k_here; (with_reducible show wpAny _ _ (subscriptTail _ _ (Value.ref _) (Value.int 0 _)) _ _ _); k_dflt (refine' sub_tup0 ?N ?m ?_; (case N => k_asm); (case m => ((with_reducible repeat (first | exact List.mem_cons_self | refine List.mem_cons_of_mem _ ?_)); done)); k_whole)))
local macro_rules | `(tactic| walk_at "subscriptTail Name Name ref int") => `(tactic| (k_here; (with_reducible show wpAny _ _ (subscriptTail _ _ (Value.ref _) (Value.int _ _)) _ _ _); k_dflt (refine' sub_lstN ?N ?m ?h0 ?hk ?hx ?_; (case N => k_asm); (case m => ((with_reducible repeat (first | exact List.mem_cons_self | refine List.mem_cons_of_mem _ ?_)); done)); (case h0 => decide); (case hk => decide); (case hx => rfl); k_whole)))
local macro_rules | `(tactic| walk_at "subscriptTail Name Name ref int") => `(tactic| (k_here; (with_reducible show wpAny _ _ (subscriptTail _ _ (Value.ref _) (Value.int 0 _)) _ _ _); k_dflt (refine' sub_tup0 ?N ?m ?_; (case N => k_asm); (case m => ((with_reducible repeat (first | exact List.mem_cons_self | refine List.mem_cons_of_mem _ ?_)); done)); k_whole)))
theorem mirrors_cl (w mean mg mb) (n : Nat) (hn : 2 ≤ n ∧ n < 7) (ta : Tok) : PCl w mean mg mb 20 202 (fun _ => True) [.int (n : Int) ta] (MirPost n) := by
  intro dp un gd cn cs fa ccd cl outer A₀ base h₀ L m s Q E hB hF hK hT hkk hd hu hP hret
  refine wpAny_call ?_
  k_dflt cell_enter
  rename_i Lc _ _ _ _ _ _ oC hoC N0
  walk1
  k_dflt (refine LCg.Assign_ListComp_U (F₀ := by k_asm) (by rfl) (by with_unfolding_all rfl) (by with_unfolding_all rfl) (by decide) (by rfl) (by decide) (by rfl) (by rfl) (by rfl) ?_)
  iterate 7 walk1
  k_dflt (refine LCg.CompSrc.range (n := n) (by rfl) (by k_asm) (by k_asm) (by assumption) (small_n hn.2).1 (small_n hn.2).2 (by have := hn.2; exact Nat.le_trans (Nat.le_of_lt this) (by decide)) ?_)
  intro g'
  refine compRest_ind (fun i ys news' => ∃ els, news' = (Lc + 1, oC) :: els ∧ Paints n i ys els) ⟨[], rfl, Paints.nil⟩ ?_ ?_
  · rintro i ys _ hi ⟨els, rfl, hp⟩ v I oI C oC' D m₂ h tk E' ⟨t, rfl⟩ hC hx F N off ne
    try k_fold
    have gp := goodP_at hn hi
    have g1 := gp.hsv
    have g2 := gp.parts
    rw [← Int.zero_add (i : Int)] at g1 g2
    k_steps
    rename_i D2 o2 h2 tk2 F2 N2 ne2 io2
    rw [Int.zero_add] at io2
    refine LCg.CompEnd.intro F2 N2 ((Lc + 1, oC) :: (els ++ [(D2, o2)])) (fun p hp => ?_) ⟨off.1, off3_append off.2 ⟨⟨ne2.2.1.symm, ne2.2.2.1.symm, ne2.2.2.2.1.symm⟩, trivial⟩⟩ trivial ⟨els ++ [(D2, o2)], rfl, hp.snoc io2⟩
    simp only [List.mem_cons, List.mem_append, List.not_mem_nil, or_false] at hp ⊢
    rcases hp with rfl | rfl | rfl | rfl | hp | rfl <;> simp [*]
  · rintro ys _ ⟨els, rfl, hp⟩
    unfold LCg.FinA
    intro P h tk F N o1
    k_steps
    rename_i up _ upl _ lw _ lwl _ F1 N1
    unfold Stopped
    k_dflt (refine For_invVF F1 (by rfl) (by rfl) ?_)
    walk1
    k_dflt (refine iter_listUnr (lo := LCg.lst ys) (vs := ys) (by rfl) F1 N1 (by k_mem) (by rfl) (by rfl) fun I hI => listRest_upd [Str.ofString "light"] (fun i news => ∃ us ls nu nl, Hues n i us ∧ Hues n i ls ∧ news = (lw, W.listOf ls.toArray nl) :: (up, W.listOf us.toArray nu) :: (P, LCg.lst ys) :: (Lc + 1, oC) :: els) ⟨[], [], 0, 0, Hues.nil, Hues.nil, rfl⟩ ?_ ?_)
    · rintro i v a _ it h tk hv ⟨us, ls, nu, nl, hus, hls, rfl⟩ hit F N
      try k_fold
      replace hI := allLt_of hI
      simp only [AllLt, and_true] at hI
      have hi : i < n := by
        have := (List.getElem?_eq_some_iff.mp hv).1
        rw [hp.1] at this; exact this
      obtain ⟨r, o, hr, hro, vs, k, hvs, rfl⟩ := hp.2 i hi
      obtain rfl : v = .ref r := Option.some.inj (hv.symm.trans hr)
      have gp := goodP_at hn hi
      have g3 := gp.hue
      have hh : hueL n i = hueF (lightF (partI (paintT n i).1)) (lightF (partI (paintT n i).2.1)) (lightF (partI (paintT n i).2.2)) := rfl
      have b1 := gp.parts.1.lt
      have b2 := gp.parts.2.1.lt
      have b3 := gp.parts.2.2.lt
      change IntsAre vs [partI (paintT n i).1, partI (paintT n i).2.1, partI (paintT n i).2.2] at hvs
      generalize partI (paintT n i).1 = a1 at hvs g3 hh b1
      generalize partI (paintT n i).2.1 = a2 at hvs g3 hh b2
      generalize partI (paintT n i).2.2 = a3 at hvs g3 hh b3
      replace b1 : -1000 < a1 ∧ a1 < 1000 := by omega
      replace b2 : -1000 < a2 ∧ a2 < 1000 := by omega
      replace b3 : -1000 < a3 ∧ a3 < 1000 := by omega
      rcases hvs with _ | ⟨_, t1, hvs⟩
      rcases hvs with _ | ⟨_, t2, hvs⟩
      rcases hvs with _ | ⟨_, t3, hvs⟩
      rcases hvs with _ | _
      clear gp
      have hus9 : us.length ≤ 9 := by rw [hus.1]; omega
      have hls9 : ls.length ≤ 9 := by rw [hls.1]; omega
      have hsrc : LCg.SrcAt s.heap r [Value.int a1 t1, .int a2 t2, .int a3 t3].toArray ((I, it) :: (lw, W.listOf ls.toArray nl) :: (up, W.listOf us.toArray nu) :: (P, LCg.lst ys) :: (Lc + 1, oC) :: els) := Or.inr ⟨_, .tail _ (.tail _ (.tail _ (.tail _ (.tail _ hro)))), rfl, _, rfl⟩
      walk1
      k_dflt (refine LCg.Assign_ListComp_U (F₀ := by k_asm) (by rfl) (by with_unfolding_all rfl) (by with_unfolding_all rfl) (by decide) (by rfl) (by decide) (by rfl) (by rfl) (by rfl) ?_)
      walk1
      k_dflt (refine LCg.CompSrc.ledger (its := [Value.int a1 t1, .int a2 t2, .int a3 t3].toArray) (k := k) (by rfl) (by k_asm) (by k_asm) (.tail _ (.tail _ (.tail _ (.tail _ (.tail _ hro))))) (by exact Nat.le_of_ble_eq_true rfl) ?_)
      intro g'
      lcg_lit
      k_steps
      rename_i F9 N9
      simp only [List.push_toArray] at N9
      have eus : ∀ t, Hues n (i + 1) (us ++ [Value.float (hueF (lightF a1) (lightF a2) (lightF a3)) t]) := fun t => by
        have := hus.snoc (t := t); rw [hh] at this; exact this
      have els' : ∀ t, Hues n (i + 1) (ls ++ [Value.float (hueF (lightF a1) (lightF a2) (lightF a3)) t]) := fun t => by
        have := hls.snoc (t := t); rw [hh] at this; exact this
      refine UnrEnd.intro F9 N9 ((lw, W.listOf (ls ++ [Value.float (hueF (lightF a1) (lightF a2) (lightF a3)) _]).toArray (nl + 1)) :: (up, W.listOf (us ++ [Value.float (hueF (lightF a1) (lightF a2) (lightF a3)) _]).toArray (nu + 1)) :: (P, LCg.lst ys) :: (Lc + 1, oC) :: els)
        (fun p hp => .tail _ (.tail _ (.tail _ hp))) (allLt_ne hI) ⟨.tail _ (.tail _ (.head _)), fun y hy => ?_, _, _, _, _, eus _, els' _, rfl⟩
      simp only [List.mem_cons, List.not_mem_nil, or_false, not_or] at hy
      simp [hy.1, hy.2, updL]
    · rintro a _ h tk ⟨us, ls, nu, nl, hus, hls, rfl⟩ F N
      try k_fold
      rw [hp.1] at hus hls
      k_steps
      rename_i T _ F1 N1 Tl _ F1 N1
      unfold Stopped
      k_dflt (refine For_invVF F1 (by rfl) (by rfl) ?_)
      walk1
      k_dflt (refine iter_listUnr (lo := W.listOf us.toArray nu) (vs := us) (n := nu) (by rfl) F1 N1 (.tail _ (.tail _ (.head _))) (by rfl) (by rfl) fun I2 hI2 => listRest_upd [Str.ofString "row", Str.ofString "lower", Str.ofString "turn", Str.ofString "made"] (fun i news => ∃ rows refs nt, Rows' n i refs rows ∧ (∀ p ∈ rows, p.1 ≠ T ∧ p.1 ≠ I2) ∧ news = (T, W.listOf refs.toArray nt) :: (rows ++ ((lw, W.listOf ls.toArray nl) :: (up, W.listOf us.toArray nu) :: (P, LCg.lst ys) :: (Lc + 1, oC) :: els))) ⟨[], [], 0, Rows'.nil, (fun _ h => nomatch h), rfl⟩ ?_ ?_)
      · rintro i v a2 _ it h tk hv ⟨rows, refs, nt, hrows, hrT, rfl⟩ hit F N
        try k_fold
        replace hI2 := allLt_of hI2
        have hi : i < n := by
          have := (List.getElem?_eq_some_iff.mp hv).1
          rw [hus.1] at this; exact this
        obtain ⟨tu, hu⟩ := hus.2 i hi
        obtain rfl : v = .float (hueL n i) tu := Option.some.inj (hv.symm.trans hu)
        k_steps
        rename_i row _ F1 N1 rowl _ F1 N1
        unfold Stopped
        k_dflt (refine For_invVF F1 (by rfl) (by rfl) ?_)
        walk1
        k_dflt (refine iter_listUnr (lo := W.listOf ls.toArray nl) (vs := ls) (n := nl) (by rfl) F1 N1 (.tail _ (.tail _ (.tail _ (List.mem_append_right _ (.head _))))) (by rfl) (by rfl) fun I3 hI3 => listRest_upd [Str.ofString "turn", Str.ofString "made"] (fun j news => ∃ cs nc, Cells n i j cs ∧ news = (row, W.listOf cs.toArray nc) :: (I2, it) :: (T, W.listOf refs.toArray nt) :: (rows ++ ((lw, W.listOf ls.toArray nl) :: (up, W.listOf us.toArray nu) :: (P, LCg.lst ys) :: (Lc + 1, oC) :: els))) ⟨[], 0, Cells.nil, rfl⟩ ?_ ?_)
        · rintro j v a3 _ it2 h tk hv ⟨cs, nc, hcs, rfl⟩ hit2 F N
          try k_fold
          replace hI3 := allLt_of hI3
          have hI3' := hI3
          simp only [AllLt] at hI3
          have hj : j < n := by
            have := (List.getElem?_eq_some_iff.mp hv).1
            rw [hls.1] at this; exact this
          obtain ⟨tl, hl⟩ := hls.2 j hj
          obtain rfl : v = .float (hueL n j) tl := Option.some.inj (hv.symm.trans hl)
          have gc := goodC_at hn hi hj
          have hcs9 : cs.length ≤ 9 := by rw [hcs.1]; omega
          have hmir := mir_in (m := n) ⟨⟨by omega, by omega⟩, by omega⟩ i j
          have hkn : (mir n i j).toNat < ys.toArray.size := by
            rw [List.size_toArray, hp.1]; have := hmir.1; have := hmir.2; omega
          k_steps
          all_goals (
            rename_i D2 o2 h2 tk2 F9 N9 ne9 io9
            unfold Stopped
            have hP9 : ∀ (x y : Addr × Obj), (P, LCg.lst ys) ∈ x :: y :: (I3, it2) :: (row, W.listOf cs.toArray nc) :: (I2, it) :: (T, W.listOf refs.toArray nt) :: (rows ++ ((lw, W.listOf ls.toArray nl) :: (up, W.listOf us.toArray nu) :: (P, LCg.lst ys) :: (Lc + 1, oC) :: els)) := fun x y =>
              .tail _ (.tail _ (.tail _ (.tail _ (.tail _ (.tail _ (List.mem_append_right _ (.tail _ (.tail _ (.head _)))))))))
            have hE9 : ∀ (x y p : Addr × Obj), p ∈ els → p ∈ x :: y :: (I3, it2) :: (row, W.listOf cs.toArray nc) :: (I2, it) :: (T, W.listOf refs.toArray nt) :: (rows ++ ((lw, W.listOf ls.toArray nl) :: (up, W.listOf us.toArray nu) :: (P, LCg.lst ys) :: (Lc + 1, oC) :: els)) := fun x y p hp =>
              .tail _ (.tail _ (.tail _ (.tail _ (.tail _ (.tail _ (List.mem_append_right _ (.tail _ (.tail _ (.tail _ (.tail _ hp))))))))))
            have hne9 : ∀ p ∈ els, p.1 ≠ D2 := fun p hp => AllNe.all ne9.2.2.2.2.2 p (List.mem_append_right _ (.tail _ (.tail _ (.tail _ (.tail _ hp)))))
            k_dflt (refine use_idx (k := (mir n i j).toNat) (by k_asm) F9 N9 (by k_asm) (by k_asm) (by rfl) (by ktr_room) (by ktr_units) (idxPre_of hp N9 (hP9 _ _) (hE9 _ _) (.head _) hne9 io9) hkn (gc.found.trans (congrArg partsF (by first | exact madeN (by assumption) | exact madeP (by assumption)))) (fun q hq e => gc.first q hq (e.trans (congrArg partsF (by first | exact madeN (by assumption) | exact madeP (by assumption))).symm)) ?_)
            intro t9 h9 tk9 F8 N8
            k_steps)
          all_goals (
            rename_i F7 N7
            simp only [List.push_toArray] at N7
            refine UnrEnd.intro F7 N7 ((row, W.listOf (cs ++ [Value.int _ t9]).toArray (nc + 1)) :: (I2, it) :: (T, W.listOf refs.toArray nt) :: (rows ++ ((lw, W.listOf ls.toArray nl) :: (up, W.listOf us.toArray nu) :: (P, LCg.lst ys) :: (Lc + 1, oC) :: els))) (fun p hp => .tail _ (.tail _ hp)) (allLt_ne hI3') ⟨.tail _ (.tail _ (.tail _ (List.mem_append_right _ (.head _)))), fun y hy => ?_, _, _, hcs.snoc, rfl⟩
            simp only [List.mem_cons, List.not_mem_nil, or_false, not_or] at hy
            simp [hy.1, hy.2, updL])
        · rintro a3 _ h tk ⟨cs, nc, hcs, rfl⟩ F N
          try k_fold
          rw [hls.1] at hcs
          have hrefs9 : refs.length ≤ 9 := by rw [hrows.1]; omega
          have hTI : @LT.lt Nat _ T I2 := hI2.1
          have hTn : ∀ p ∈ rows ++ ((lw, W.listOf ls.toArray nl) :: (up, W.listOf us.toArray nu) :: (P, LCg.lst ys) :: (Lc + 1, oC) :: els), p.1 ≠ T := fun p hp => (List.mem_append.mp hp).elim (fun h => (hrT p h).1) (allLt_ne (show AllLt T ((lw, W.listOf ls.toArray nl) :: (up, W.listOf us.toArray nu) :: (P, LCg.lst ys) :: (Lc + 1, oC) :: els) from Tl) p)
          k_steps
          rename_i F7 N7
          simp only [List.push_toArray] at N7
          refine UnrEnd.intro F7 N7 ((T, W.listOf (refs ++ [Value.ref row]).toArray (nt + 1)) :: (((row, W.listOf cs.toArray nc) :: rows) ++ ((lw, W.listOf ls.toArray nl) :: (up, W.listOf us.toArray nu) :: (P, LCg.lst ys) :: (Lc + 1, oC) :: els))) (fun p hp => ?_) (fun p hp => ?_) ⟨.tail _ (List.mem_append_right _ (.tail _ (.head _))), fun y hy => ?_, _, _, _, hrows.snoc hcs, fun p hp => ?_, rfl⟩
          · rw [List.cons_append] at hp
            rcases List.mem_cons.mp hp with rfl | hp
            · exact .tail _ (.head _)
            · rcases List.mem_cons.mp hp with rfl | hp
              · exact .tail _ (.tail _ (.head _))
              · rcases List.mem_cons.mp hp with rfl | hp
                · exact .head _
                · exact .tail _ (.tail _ (.tail _ hp))
          · simp only [List.cons_append, List.mem_cons] at hp
            rcases hp with rfl | rfl | hp
            · exact Nat.ne_of_lt hTI
            · exact Ne.symm (Nat.ne_of_lt rowl.1)
            · exact (List.mem_append.mp hp).elim (fun h => (hrT p h).2) (allLt_ne hI2.2 p)
          · simp only [List.mem_cons, List.not_mem_nil, or_false, not_or] at hy
            simp [hy.1, hy.2, updL]
          · rcases List.mem_cons.mp hp with rfl | hp
            · exact ⟨Ne.symm (Nat.ne_of_lt rowl.2.1), Ne.symm (Nat.ne_of_lt rowl.1)⟩
            · exact hrT p hp
      · rintro a2 _ h tk ⟨rows, refs, nt, hrows, hrT, rfl⟩ F N
        try k_fold
        rw [hus.1] at hrows
        k_steps
        refine hret _ _ _ (Fr.gr F) ?_
        refine ⟨T, (T, W.listOf refs.toArray nt) :: rows, rfl, fun p hp => ?_, fun h'' e => table_of hn hrows e⟩
        have hp' : p ∈ (T, W.listOf refs.toArray nt) :: (rows ++ ((lw, W.listOf ls.toArray nl) :: (up, W.listOf us.toArray nu) :: (P, LCg.lst ys) :: (Lc + 1, oC) :: els)) := by
          rcases List.mem_cons.mp hp with rfl | hp
          · exact .head _
          · exact .tail _ (List.mem_append_left _ hp)
        exact ⟨(N p hp').2.2, (N p hp').1⟩
end Mi1
section Ld1
example : True := by w_top off; exact trivial
local macro_rules | `(tactic| k_room) => `(tactic| ktr_room)
local macro_rules | `(tactic| walk_at "exec For Name Name cons nil") => `(tactic| (k_here; refine stopped ?_))
local macro_rules | `(tactic| walk_at "exec For Name Call cons nil") => `(tactic| (k_here; refine stopped ?_))
local macro_rules | `(tactic| walk_at "call ref") => `(tactic| (k_here; (with_reducible show wpAny _ _ (call (Value.ref 126) [Value.ref _, Value.ref _]) _ _ _); refine stopped ?_))
local macro_rules | `(tactic| walk_at "exec For Name Attribute cons nil") => `(tactic| (k_here; refine stopped ?_))
local macro_rules | `(tactic| walk_at "LeaveK") => `(tactic| (k_dflt (refine' leaveK_ ?k1 ?k2 ?_; (case k1 => k_asm); (case k2 => k_asm); k_whole); intro kF kN; (try (dsimp only [InitBack]; refine ⟨rfl, ?_⟩)); (try dsimp only)))
/-- the text's signs for a list of runs -/
noncomputable def runL : List Nat → List Nat
  | [] => []
  | r :: rs => List.replicate r 32 ++ (9 :: runL rs)
theorem runL_snoc : ∀ (rs : List Nat) (r : Nat), runL (rs ++ [r]) = runL rs ++ (List.replicate r 32 ++ [9])
  | [], r => by simp [runL]
  | q :: rs, r => by simp [runL, runL_snoc rs r]
noncomputable def IntL (rs : List Nat) : List Int := rs.map fun (r : Nat) => (r : Int)
theorem runL_len {rs : List Nat} (h : ∀ r ∈ rs, r ≤ 25) : (runL rs).length ≤ 26 * rs.length := by
  induction rs with
  | nil => exact Nat.le_refl _
  | cons r rs ih =>
    have a := ih fun q hq => h q (.tail _ hq)
    have b := h r (.head _)
    simp only [runL, List.length_append, List.length_cons, List.length_replicate]
    omega
theorem sp_mul {r : Nat} (h : r ≤ 25) : (Txt.mul (Str.ofString " ") (r : Int)).cps.toList = List.replicate r 32 := by
  have : r ∈ List.range 26 := List.mem_range.mpr (by omega)
  revert r
  decide
/-- what Whitespace.__init__ has counted -/
structure PS where
  n : Nat
  b : Nat
  nt : Nat
  cnt : List Int
noncomputable def PS.tab (p : PS) : List Int := if p.b < p.cnt.length then p.cnt else p.cnt ++ (List.replicate ((p.b : Int) - (p.cnt.length : Int) + 1).toNat [(0 : Int)]).flatten
noncomputable def PS.step (p : PS) (c : Nat) : PS := if c = 32 then ⟨p.n + 1, p.b + 1, p.nt, p.cnt⟩ else ⟨p.n + 1, 0, p.nt + 1, p.tab.set p.b (p.tab.getD p.b 0 + 1)⟩
noncomputable def pst (l : List Nat) : PS := l.foldl PS.step ⟨0, 0, 0, []⟩
theorem rep_len (k : Nat) : (List.replicate k [(0 : Int)]).flatten.length = k := by simp
theorem PS.tab_len (p : PS) : p.tab.length = if p.b < p.cnt.length then p.cnt.length else p.b + 1 := by
  unfold PS.tab
  split
  · rfl
  · rw [List.length_append, rep_len]; omega
theorem pst_snoc (l : List Nat) (c : Nat) : pst (l ++ [c]) = (pst l).step c := by simp [pst]
theorem pst_len (l : List Nat) : (pst l).b ≤ l.length ∧ (pst l).cnt.length ≤ l.length ∧ (pst l).n = l.length ∧ (pst l).nt ≤ l.length := by
  have : ∀ r : List Nat, (pst r.reverse).b ≤ r.length ∧ (pst r.reverse).cnt.length ≤ r.length ∧ (pst r.reverse).n = r.length ∧ (pst r.reverse).nt ≤ r.length := by
    intro r
    induction r with
    | nil => simp [pst]
    | cons c r ih =>
      rw [List.reverse_cons, pst_snoc, List.length_cons]
      generalize pst r.reverse = p at ih ⊢
      obtain ⟨a, b, d, e⟩ := ih
      unfold PS.step
      split
      · exact ⟨by simpa using a, Nat.le_succ_of_le b, by simpa using d, Nat.le_succ_of_le e⟩
      · refine ⟨Nat.zero_le _, ?_, by simpa using d, by simpa using e⟩
        show (p.tab.set _ _).length ≤ _
        rw [List.length_set, p.tab_len]
        split <;> omega
  have h := this l.reverse
  rwa [List.reverse_reverse, List.length_reverse] at h
theorem runL_mem : ∀ {rs : List Nat} {c : Nat}, c ∈ runL rs → c = 32 ∨ c = 9
  | [], _, h => by cases h
  | r :: rs, c, h => by
    rcases List.mem_append.mp h with h | h
    · exact .inl (List.eq_of_mem_replicate h)
    · rcases List.mem_cons.mp h with h | h
      · exact .inr h
      · exact runL_mem h
structure WSt where
  p : PS
  C : Addr
  vs : List Value
  k : Nat
  tn : Tok
  tb : Tok
  tt : Tok
noncomputable def wsPs (c : WSt) : List (Str × Value) := [(Str.ofString "n", .int (c.p.n : Int) c.tn), (Str.ofString "b", .int (c.p.b : Int) c.tb), (Str.ofString "nt", .int (c.p.nt : Int) c.tt), (Str.ofString "count", .ref c.C)]
theorem News.del2 {h₀ h : Heap} {L : Addr} {a b : Addr × Obj} {r : List (Addr × Obj)} (N : News h₀ L h (a :: b :: r)) : News h₀ L h (a :: r) := fun p hp => by
  rcases List.mem_cons.mp hp with rfl | hp
  · exact N _ (.head _)
  · exact N _ (.tail _ (.tail _ hp))
/-- the state after i signs of the text t -/
noncomputable def wsOk (t : List Nat) (I X D : Addr) (i : Nat) (c : WSt) : Prop := c.p = pst (t.take i) ∧ IntsAre c.vs c.p.cnt ∧ i ≤ t.length ∧ c.C ≠ I ∧ @LT.lt Nat _ X c.C ∧ @LT.lt Nat _ D c.C
theorem strRest_ws {prog : Program} {w : World} {A : Around} {E : Value → Shared → Prop} {s : Shared} {env : Env} {h₀ : Heap} {x : Str} {body : List Stmt} {Q : Flow → Shared → Prop} {I C₀ X D : Addr} {rest : List (Addr × Obj)} {m : Str → Option Value} {tx : Str} (t : List Nat) (ht : tx.cps.toList = t ++ [120]) (hm9 : ∀ c ∈ t, c = 32 ∨ c = 9) (hI : C₀ ≠ I) (hX : @LT.lt Nat _ X C₀) (hD : @LT.lt Nat _ D C₀) {tn tb tt : Tok}
    (hm1 : m (Str.ofString "n") = some (.int 0 tn)) (hm2 : m (Str.ofString "b") = some (.int 0 tb)) (hm3 : m (Str.ofString "nt") = some (.int 0 tt)) (hm4 : m (Str.ofString "count") = some (.ref C₀))
    (turn : ∀ i c u (it : Obj) h tk ch, wsOk t I X D i c → c.p.b ≤ i → c.p.cnt.length ≤ i → t.take (i + 1) = t.take i ++ [ch] ∧ i < t.length → (ch = 32 ∨ ch = 9) → Fr h₀ env.locals h (fun y => if y = x then some (.str ⟨#[ch]⟩ u) else setL (wsPs c) m y) → News h₀ env.locals h ((I, it) :: (c.C, W.listOf c.vs.toArray c.k) :: rest) →
      wpAny (model prog w) A (execs body env) (UnrPost h₀ env.locals { s with heap := h, toks := tk } I it (fun m' n' => ∃ c', n' = (c'.C, W.listOf c'.vs.toArray c'.k) :: rest ∧ wsOk t I X D (i + 1) c' ∧ StM x (wsPs c') m m') Q) E { s with heap := h, toks := tk })
    (last : ∀ c u (it : Obj) h tk, c.p = pst t → IntsAre c.vs c.p.cnt → c.p.cnt.length ≤ t.length → (@Ne Nat c.C I) → (@LT.lt Nat _ X c.C) → (@LT.lt Nat _ D c.C) → Fr h₀ env.locals h (fun y => if y = x then some (.str ⟨#[120]⟩ u) else setL (wsPs c) m y) → News h₀ env.locals h ((I, it) :: (c.C, W.listOf c.vs.toArray c.k) :: rest) →
      wpAny (model prog w) A (execs body env) (fun f s' => f = .brk ∧ Q .next s') E { s with heap := h, toks := tk }) :
    StrRest prog w A E h₀ env x body Q s I (tx.cps.toList.map fun c => (⟨#[c]⟩ : Str)) m ((C₀, W.listOf #[] 0) :: rest) := by
  refine strRest_st wsPs (fun c => (c.C, W.listOf c.vs.toArray c.k) :: rest) (wsOk t I X D) ⟨⟨0, 0, 0, []⟩, C₀, [], 0, tn, tb, tt⟩ rfl ⟨rfl, .nil, Nat.zero_le _, hI, hX, hD⟩ (fun p hp => ?_) ?_ ?_
  · unfold wsPs at hp
    simp only [List.mem_cons, List.not_mem_nil, or_false] at hp
    rcases hp with rfl | rfl | rfl | rfl
    · exact hm1
    · exact hm2
    · exact hm3
    · exact hm4
  · intro i ch c u it h tk hch hok F N
    rw [ht, List.getElem?_map] at hch
    obtain ⟨k, hk, rfl⟩ := Option.map_eq_some_iff.mp hch
    by_cases hi : i < t.length
    · rw [List.getElem?_append_left hi] at hk
      have l := pst_len (t.take i)
      rw [← hok.1, List.length_take, Nat.min_eq_left hok.2.2.1] at l
      exact turn i c u it h tk k hok l.1 l.2.1 ⟨by rw [List.take_add_one, hk]; rfl, hi⟩ (hm9 _ (List.mem_of_getElem? hk)) F N
    · have hil : i = t.length := Nat.le_antisymm hok.2.2.1 (Nat.le_of_not_lt hi)
      subst hil
      rw [List.getElem?_append_right (Nat.le_refl _), Nat.sub_self] at hk
      obtain rfl : 120 = k := Option.some.inj hk
      have hp := hok.1
      rw [List.take_length] at hp
      refine wpAny_mono (last c u it h tk hp hok.2.1 (hp ▸ (pst_len t).2.1) hok.2.2.2.1 hok.2.2.2.2.1 hok.2.2.2.2.2 F N) (fun f s' q => ?_) fun _ _ e => e
      obtain ⟨rfl, q⟩ := q
      exact q
  · intro a c h tk hok
    have := hok.2.2.1
    rw [List.length_map, ht, List.length_append] at this
    exact absurd this (by simp)
theorem ws_end {g h' : Heap} {L I C2 X D : Addr} {it : Obj} {s₁ : Shared} {tk : Nat} {m m' : Str → Option Value} {vs2 : List Value} {k2 i : Nat} {all rest : List (Addr × Obj)} {t : List Nat} {p' : PS} (F : Fr g L h' m') (N : News g L h' all) (sub : ∀ q ∈ (I, it) :: (C2, W.listOf vs2.toArray k2) :: rest, q ∈ all) (hoff : ∀ q ∈ rest, q.1 ≠ I) (hp' : p' = pst (t.take (i + 1))) (hi : IntsAre vs2 p'.cnt) (hl : i + 1 ≤ t.length) (hCI : C2 ≠ I) (hX : @LT.lt Nat _ X C2) (hD : @LT.lt Nat _ D C2) {tn tb tt : Tok}
    (h1 : m' (Str.ofString "n") = some (.int (p'.n : Int) tn)) (h2 : m' (Str.ofString "b") = some (.int (p'.b : Int) tb)) (h3 : m' (Str.ofString "nt") = some (.int (p'.nt : Int) tt)) (h4 : m' (Str.ofString "count") = some (.ref C2))
    (h5 : ∀ y, y ≠ Str.ofString "ch" → y ≠ Str.ofString "n" → y ≠ Str.ofString "b" → y ≠ Str.ofString "nt" → y ≠ Str.ofString "count" → m' y = m y) :
    UnrEnd g L s₁ I it (fun m' n' => ∃ c' : WSt, n' = (c'.C, W.listOf c'.vs.toArray c'.k) :: rest ∧ wsOk t I X D (i + 1) c' ∧ StM (Str.ofString "ch") (wsPs c') m m') { s₁ with heap := h', toks := tk } := by
  refine UnrEnd.intro F N ((C2, W.listOf vs2.toArray k2) :: rest) sub (fun q hq => ?_) ⟨⟨p', C2, vs2, k2, tn, tb, tt⟩, rfl, ⟨hp', hi, hl, hCI, hX, hD⟩, fun q hq => ?_, fun y hy => ?_⟩
  · rcases List.mem_cons.mp hq with rfl | hq
    · exact hCI
    · exact hoff q hq
  · unfold wsPs at hq
    simp only [List.mem_cons, List.not_mem_nil, or_false] at hq
    rcases hq with rfl | rfl | rfl | rfl
    · exact h1
    · exact h2
    · exact h3
    · exact h4
  · unfold wsPs at hy
    simp only [List.map, List.mem_cons, List.not_mem_nil, or_false, not_or] at hy
    exact h5 y hy.1 hy.2.1 hy.2.2.1 hy.2.2.2.1 hy.2.2.2.2
theorem ws_sub {q a b t1 t2 c : Addr × Obj} {rest : List (Addr × Obj)} (h : q ∈ a :: b :: rest) : q ∈ b :: t1 :: t2 :: a :: c :: rest := by
  rcases List.mem_cons.mp h with rfl | h
  · exact .tail _ (.tail _ (.tail _ (.head _)))
  · rcases List.mem_cons.mp h with rfl | h
    · exact .head _
    · exact .tail _ (.tail _ (.tail _ (.tail _ (.tail _ h))))
/-- the object's fields -/
noncomputable abbrev leadDict (w : World) (k1 k2 k3 k4 k5 : Tok) (raw : Value) (n nt : Nat) (tn tt : Tok) (NT : Addr) (si : Value) : Obj :=
  dictOf [⟨PyData.keyHash w.params (Str.ofString "raw"), .str (Str.ofString "raw") k1, raw⟩, ⟨PyData.keyHash w.params (Str.ofString "n"), .str (Str.ofString "n") k2, .int (n : Int) tn⟩, ⟨PyData.keyHash w.params (Str.ofString "nt"), .str (Str.ofString "nt") k3, .int (nt : Int) tt⟩,
    ⟨PyData.keyHash w.params (Str.ofString "norm"), .str (Str.ofString "norm") k4, .ref NT⟩, ⟨PyData.keyHash w.params (Str.ofString "is_simple"), .str (Str.ofString "is_simple") k5, si⟩] 5
noncomputable abbrev leadObjs (w : World) (X D NT CT : Addr) (vs : List Value) (k1 k2 k3 k4 k5 : Tok) (raw si : Value) (n b nt : Nat) (tn tb tt : Tok) : List (Addr × Obj) :=
  [(X, instObj 188 D), (D, leadDict w k1 k2 k3 k4 k5 raw n nt tn tt NT si), (NT, { cls := .type "tuple", data := .seq #[.ref CT, .int (b : Int) tb] }), (CT, { cls := .type "tuple", data := .seq vs.toArray })]
noncomputable def LeadPost (w : World) (p : PS) (h h' : Heap) (v : Value) : Prop := ∃ X D NT CT vs k1 k2 k3 k4 k5 raw si tn tb tt, v = .ref X ∧ IntsAre vs p.cnt ∧ ∀ q ∈ leadObjs w X D NT CT vs k1 k2 k3 k4 k5 raw si p.n p.b p.nt tn tb tt, h.get? q.1 = none ∧ h'.get? q.1 = some q.2
theorem lead_news {h₀ h : Heap} {L : Addr} {a b i c x d : Addr × Obj} (N : News h₀ L h [a, b, i, c, x, d]) : ∀ q ∈ [x, d, a, b], h₀.get? q.1 = none ∧ h.get? q.1 = some q.2 := by
  intro q hq
  have : q ∈ [a, b, i, c, x, d] := by
    simp only [List.mem_cons, List.not_mem_nil, or_false] at hq ⊢
    rcases hq with rfl | rfl | rfl | rfl <;> simp
  exact ⟨(N q this).2.2, (N q this).1⟩
theorem lead_cl (w mean mg mb) (rs : List Nat) (hl : rs.length ≤ 9) (hr : ∀ r ∈ rs, r ≤ 25) (R : Addr) : PCl w mean mg mb 12 216 (fun h => ∃ vs, h.IsList R vs.toArray ∧ IntsAre vs (IntL rs)) [.ref R] (LeadPost w (pst (runL rs))) := by
  intro dp un gd cn cs fa ccd cl outer A₀ base h₀ L m s Q E hB hF hK hT hkk hd hu hP hret
  obtain ⟨vs, hvs, hia⟩ := hP
  refine wpAny_call ?_
  k_dflt cell_enter
  k_steps
  rename_i F1 N1
  unfold Stopped
  k_dflt (refine For_invVF F1 (by rfl) (by rfl) ?_)
  walk1
  k_dflt (refine iter_st (σ := Str × Tok) (fun c => [(Str.ofString "text", .str c.1 c.2)]) (fun i c => c.1.cps.toList = runL (rs.take i)) (by rfl) hvs hia F1 N1 (Str.ofString "", _) (by rfl) (fun p hp => by cases hp with | head => rfl | tail _ h => cases h) ?_ ?_)
  · rintro i n t ⟨T, tT⟩ h tk own hin hT F N
    try k_fold
    obtain ⟨r, hri, rfl⟩ : ∃ r, rs[i]? = some r ∧ (r : Int) = n := by
      simpa [IntL] using hin
    have hr25 : r ≤ 25 := hr r (List.mem_of_getElem? hri)
    have hTl : T.length ≤ 1000 := by
      have : T.length = (runL (rs.take i)).length := by rw [← hT, Array.length_toList]; rfl
      have b := runL_len (rs := rs.take i) fun q hq => hr q (List.mem_of_mem_take hq)
      have : (rs.take i).length ≤ 9 := Nat.le_trans (List.length_take_le' _ _) hl
      omega
    have hrn : (r : Int) ≤ 25 := by omega
    k_steps
    have ht : rs.take (i + 1) = rs.take i ++ [r] := by rw [List.take_add_one, hri]; rfl
    refine InvEnd.intro (by assumption) (by assumption) ?sub ⟨(T ++ (Txt.mul (Str.ofString " ") (r : Int) ++ Str.ofString "\t"), ?tt), ?ok, ?atp, ?off⟩
    case sub => intro p hp; exact hp
    case atp =>
      intro p hp
      simp only [List.mem_cons, List.not_mem_nil, or_false] at hp
      obtain rfl := hp; rfl
    · rw [ht, runL_snoc, Str.cps_append, Str.cps_append, Array.toList_append, Array.toList_append, hT, sp_mul hr25]; rfl
    · intro y hy
      simp only [List.map, List.mem_cons, List.not_mem_nil, or_false, not_or] at hy
      simp [hy.1, hy.2, setL]
  · rintro a ⟨T, tT⟩ h tk hT F N
    try k_fold
    have hTl : T.length ≤ 1000 := by
      have : T.length = (runL (rs.take (IntL rs).length)).length := by rw [← hT, Array.length_toList]; rfl
      have b := runL_len (rs := rs.take (IntL rs).length) fun q hq => hr q (List.mem_of_mem_take hq)
      have : (rs.take (IntL rs).length).length ≤ 9 := Nat.le_trans (List.length_take_le' _ _) hl
      omega
    rw [IntL, List.length_map, List.take_length] at hT
    k_steps
    rename_i X D _ _ _ _ hDX g LI _ _ _ _ _ _ _ DT _ l1 _ _ _ _ C _ lC _ _ _ _ F3 N3
    unfold Stopped
    k_dflt (refine For_invVF F3 (by rfl) (by rfl) ?_)
    k_steps
    k_dflt (refine iter_strUnr (l := (T ++ Str.ofString "x").cps.toList.map fun c => (⟨#[c]⟩ : Str)) (by rfl) F3 (News.del2 N3) (by rfl) fun I hI => strRest_ws (X := X) (D := D) (runL rs) (by rw [Str.cps_append, Array.toList_append, hT]; rfl) (fun c hc => runL_mem hc) (Nat.ne_of_lt (hI _ (.head _))) lC.2.1 lC.2.2 (by rfl) (by rfl) (by rfl) (by rfl) ?_ ?_)
    · rintro i ⟨p, C', vs', k', tn', tb', tt'⟩ u it h tk ch ⟨hp, hi, hil, hCI, hXC, hDC⟩ hb hc hch h32 F N
      try k_fold
      have hXI : @LT.lt Nat _ X I := hI _ (.tail _ (.head _))
      have hDI : @LT.lt Nat _ D I := hI _ (.tail _ (.tail _ (.head _)))
      dsimp only at hp hi hCI hXC hDC hb hc F N
      have hR := runL_len hr
      have hi999 : i ≤ 300 := by omega
      have hCI' : @Ne Nat C' I := hCI
      have hoff : ∀ (dd : Obj) (q : Addr × Obj), q ∈ [(X, instObj 188 D), (D, dd)] → q.1 ≠ I := fun dd q hq => by
        rcases List.mem_cons.mp hq with rfl | hq
        · exact Nat.ne_of_lt hXI
        · rw [List.mem_singleton.mp hq]; exact Nat.ne_of_lt hDI
      rcases h32 with rfl | rfl
      · k_steps
        rename_i F4 N4
        exact ws_end (p' := ⟨p.n + 1, p.b + 1, p.nt, p.cnt⟩) F4 N4 (fun q hq => hq) (hoff _) (by rw [hch.1, pst_snoc, ← hp]; rfl) hi hch.2 hCI hXC hDC (by rfl) (by rfl) (by rfl) (by rfl) (fun y h1 h2 h3 h4 h5 => by simp [h1, h2, h3, h4, h5, setL, wsPs])
      · k_steps
        · rename_i lt4 _ _ _ hi4 _ _ _ F4 N4
          have hlt : ¬ p.b < p.cnt.length := by omega
          have et : p.tab = p.cnt ++ (List.replicate ((p.b : Int) - (p.cnt.length : Int) + 1).toNat [(0 : Int)]).flatten := if_neg hlt
          refine ws_end (p' := ⟨p.n + 1, 0, p.nt + 1, p.tab.set p.b (p.tab.getD p.b 0 + 1)⟩) F4 N4 (fun q hq => ws_sub hq) (hoff _) (by rw [hch.1, pst_snoc, ← hp]; rfl) (by rw [et]; exact hi4) hch.2 ?_ ?_ ?_ (by rfl) (by rfl) (by rfl) (by rfl) (fun y h1 h2 h3 h4 h5 => by simp [h1, h2, h3, h4, h5, setL, wsPs])
          · exact Nat.ne_of_gt lt4.2.2.1
          · exact lt4.2.2.2.2.1
          · exact lt4.2.2.2.2.2
        · rename_i hi4 _ _ _ F4 N4
          have hlt : p.b < p.cnt.length := by omega
          have et : p.tab = p.cnt := if_pos hlt
          exact ws_end (p' := ⟨p.n + 1, 0, p.nt + 1, p.tab.set p.b (p.tab.getD p.b 0 + 1)⟩) F4 N4 (fun q hq => hq) (hoff _) (by rw [hch.1, pst_snoc, ← hp]; rfl) (by rw [et]; exact hi4) hch.2 hCI hXC hDC (by rfl) (by rfl) (by rfl) (by rfl) (fun y h1 h2 h3 h4 h5 => by simp [h1, h2, h3, h4, h5, setL, wsPs])
    · rintro ⟨p, C', vs', k', tn', tb', tt'⟩ u it h tk hp hi hc hCI hXC hDC F N
      try k_fold
      have hXI : @LT.lt Nat _ X I := hI _ (.tail _ (.head _))
      have hDI : @LT.lt Nat _ D I := hI _ (.tail _ (.tail _ (.head _)))
      dsimp only at hp hi hCI hXC hDC hc F N
      have hR := runL_len hr
      have hc999 : p.cnt.length ≤ 300 := by omega
      k_steps
      rename_i CT _ _ NT _ F4 N4 l4
      have hne : @Ne Nat CT D := fun e => by
        have h1 := (N4 _ (.tail _ (.head _))).1
        have h2 := (N4 _ (.tail _ (.tail _ (.tail _ (.tail _ (.tail _ (.head _))))))).1
        rw [show CT = D from e] at h1
        have h3 := congrArg Obj.cls (Option.some.inj (h1.symm.trans h2))
        exact absurd (Value.type.inj h3) (by decide)
      k_steps
      rename_i KF KN _ _
      exact hret _ _ _ (Fr.gr KF) ⟨X, D, NT, CT, vs', _, _, _, _, _, _, _, _, _, _, rfl, by rw [← hp]; exact hi, by rw [← hp]; exact lead_news KN⟩
end Ld1
section In1
local macro_rules | `(tactic| walk_at "no such step") => `(tactic| fail "none")
example : True := by w_top off; exact trivial
local macro_rules | `(tactic| k_room) => `(tactic| ktr_room)
local macro_rules | `(tactic| walk_at "exec For Name Name cons nil") => `(tactic| (k_here; refine stopped ?_))
local macro_rules | `(tactic| walk_at "exec For Name Call cons nil") => `(tactic| (k_here; refine stopped ?_))
local macro_rules | `(tactic| walk_at "call ref") => `(tactic| (k_here; (with_reducible show wpAny _ _ (call (Value.ref 126) [Value.ref _, Value.ref _]) _ _ _); refine stopped ?_))
local macro_rules | `(tactic| walk_at "UnrEnd") => `(tactic| (refine stopped ?_))
local macro_rules | `(tactic| walk_at "LeaveK") => `(tactic| (k_dflt (refine' leaveK_ ?k1 ?k2 ?_; (case k1 => k_asm); (case k2 => k_asm); k_whole); intro kF kN; (try (dsimp only [InitBack]; refine ⟨rfl, ?_⟩)); (try dsimp only)))
theorem instAt_gr {h h' : Heap} {x C : Addr} {ox : Obj} {od : Option Obj} (g : Gr h h') (I : InstAt h x ox C od) : InstAt h' x ox C od := by
  obtain ⟨a, b, c, d⟩ := I
  refine ⟨g _ _ a, b, c, ?_⟩
  revert d
  cases ox.dict <;> cases od <;> intro d
  · exact d
  · exact d
  · exact d
  · exact g _ _ d
local macro_rules | `(tactic| k_inst) => `(tactic| exact instAt_gr (Fr.gr (by k_asm)) (by assumption))
section
variable {prog : Program} {w : World} {A : Around} {E : Value → Shared → Prop} {s : Shared} {base : Heap} {L t : Addr} {m : Str → Option Value} {vs : List Value} {ns : List Int} {Q : Value → Shared → Prop} {k : Int} {u : Tok} {value slice : PySem.Expr}
theorem lenT (F : Fr base L s.heap m) (ht : IsTup base t vs.toArray) (hi : IntsAre vs ns) (hl : ns.length ≤ 300) (h : ∀ tk k, Q (.int (ns.length : Int) tk) { s with toks := k }) : wpAny (model prog w) A (call (.builtin "len") [.ref t]) Q E s := by
  have e : vs.toArray.size = ns.length := by rw [List.size_toArray, hi.length]
  exact len_tuple (Gr.tup F.keep ht) (by rw [e]; omega) (by rw [e]; exact h _ _)
theorem itemT (F : Fr base L s.heap m) (ht : IsTup base t vs.toArray) (hi : IntsAre vs ns) (hl : ns.length ≤ 300) (h0 : 0 ≤ k) (h1 : k < ns.length) (h : ∀ tk, Q (.int (ns.getD k.toNat 0) tk) s)
    (hs : subscripted slice false (.ref t) (.int k u) = operate [.ref t, .int k u] (getItem (.ref t) (.int k u)) := by with_unfolding_all rfl) : wpAny (model prog w) A (subscriptTail value slice (.ref t) (.int k u)) Q E s := by
  have hk : k.toNat < ns.length := by omega
  obtain ⟨tk, hx⟩ := hi.get k.toNat ns[k.toNat] (List.getElem?_eq_getElem hk)
  refine item_tupleT (j := k.toNat) (Gr.tup F.keep ht) (by omega) (by omega) ?_ hx ?_ hs
  · have hv : vs.length = ns.length := hi.length
    obtain ⟨j, rfl⟩ := Int.eq_ofNat_of_zero_le h0
    unfold seqIndex?
    have : ¬ ((j : Int) < 0) := by omega
    simp only [this, if_false]
    rw [if_pos (by simp only [Bool.and_eq_true, decide_eq_true_eq]; omega)]
  · have := h tk
    rwa [show ns.getD k.toNat 0 = ns[k.toNat] by simp [List.getD, hk]] at this
end
local macro_rules | `(tactic| walk_at "call builtin:len") => `(tactic| (k_here; (with_reducible show wpAny _ _ (call (Value.builtin _) [Value.ref _]) _ _ _); k_dflt (refine' lenT ?F ?t ?i ?l ?_; (case F => k_asm); (case t => assumption); (case i => assumption); (case l => first | assumption | omega); k_whole); intro _ _))
local macro_rules | `(tactic| walk_at "subscriptTail Name Name ref int") => `(tactic| (k_here; (with_reducible show wpAny _ _ (subscriptTail _ _ (Value.ref _) (Value.int _ _)) _ _ _); k_dflt (refine' itemT ?F ?t ?i ?l ?a ?b ?_; (case F => k_asm); (case t => assumption); (case i => assumption); (case l => first | assumption | omega); (case a => omega); (case b => omega); k_whole); intro _))
/-- what indent_level tells, after i turns -/
noncomputable def indS (cnt : List Int) (t : Int) : Nat → Int
  | 0 => 0
  | i + 1 => indS cnt t i + (t + (i : Int)).fdiv t * cnt.getD (t + (i : Int)).toNat 0
noncomputable def indF (p : PS) (t : Int) : Int := (p.b : Int) + t * (indS p.cnt t ((p.cnt.length : Int) - t).toNat + (p.nt : Int))
noncomputable def longF (p : PS) : Int := if (p.b : Int) > (p.cnt.length : Int) - 1 then (p.b : Int) else (p.cnt.length : Int) - 1
noncomputable def LeadAt (w : World) (p : PS) (v : Value) (h : Heap) : Prop := ∃ X D NT CT vs k1 k2 k3 k4 k5 raw si tn tb tt, v = .ref X ∧ IntsAre vs p.cnt ∧ ∀ q ∈ leadObjs w X D NT CT vs k1 k2 k3 k4 k5 raw si p.n p.b p.nt tn tb tt, h.get? q.1 = some q.2
theorem size_ab (a b : Int) : Builtin.Range.rangeSize a b 1 = (((b - a).toNat : Nat) : Int) := by
  unfold Builtin.Range.rangeSize
  rw [if_pos (by decide)]
  split
  · rw [Int.ediv_one]; omega
  · omega
theorem fitsL {a : Int} (h : 0 ≤ a ∧ a ≤ 1000) : Builtin.Range.rangeFitsLong a = true := by
  unfold Builtin.Range.rangeFitsLong
  simp only [Bool.and_eq_true, decide_eq_true_eq]
  omega
theorem small_ab {t l : Nat} (h1 : t ≤ 100) (h2 : l ≤ 300) : Builtin.Range.small (t : Int) (l : Int) 1 = true := by
  unfold Builtin.Range.small
  rw [size_ab, fitsL (by omega), fitsL (by omega), fitsL (by omega), fitsL (by omega), if_pos (by decide), fitsL (by omega)]
  simp
theorem getD_le {l : List Int} (h : ∀ x ∈ l, 0 ≤ x ∧ x ≤ 300) (k : Nat) : 0 ≤ l.getD k 0 ∧ l.getD k 0 ≤ 300 := by
  by_cases hk : k < l.length
  · have : l.getD k 0 = l[k] := by simp [List.getD, hk]
    rw [this]; exact h _ (List.getElem_mem hk)
  · have : l.getD k 0 = 0 := by simp [List.getD, Nat.le_of_not_lt hk]
    rw [this]; decide
theorem st_end {σ : Type} {ps : σ → List (Str × Value)} {Led : σ → List (Addr × Obj)} {ok : σ → Prop} {g h' : Heap} {L I : Addr} {it : Obj} {s₁ : Shared} {tk : Nat} {x : Str} {m m' : Str → Option Value} {all : List (Addr × Obj)} (c' : σ) (F : Fr g L h' m') (N : News g L h' all) (sub : ∀ q ∈ (I, it) :: Led c', q ∈ all) (off : ∀ q ∈ Led c', q.1 ≠ I) (hok : ok c') (hs : StM x (ps c') m m') :
    UnrEnd g L s₁ I it (fun m' n' => ∃ c', n' = Led c' ∧ ok c' ∧ StM x (ps c') m m') { s₁ with heap := h', toks := tk } := UnrEnd.intro F N _ sub off ⟨c', rfl, hok, hs⟩
theorem longest_cl (w mean mg mb) (p : PS) (hp : p.cnt.length ≤ 300 ∧ p.b ≤ 300) (v : Value) : PCl w mean mg mb 8 150 (LeadAt w p v) [v] (fun _ _ r => ∃ t, r = .int (longF p) t) := by
  intro dp un gd cn cs fa ccd cl outer A₀ base h₀ L m s Q E hB hF hK hT hkk hd hu hP hret
  obtain ⟨X, D, NT, CT, vs, k1, k2, k3, k4, k5, raw, si, tn, tb, tt, rfl, hi, hq⟩ := hP
  have hX : InstAt s.heap X (instObj 188 D) 188 (some (leadDict w k1 k2 k3 k4 k5 raw p.n p.nt tn tt NT si)) := ⟨hq _ (.head _), rfl, rfl, hq _ (.tail _ (.head _))⟩
  have hNT : IsTup s.heap NT [Value.ref CT, .int (p.b : Int) tb].toArray := ⟨_, hq _ (.tail _ (.tail _ (.head _))), rfl, _, rfl⟩
  have hCT : IsTup s.heap CT vs.toArray := ⟨_, hq _ (.tail _ (.tail _ (.tail _ (.head _)))), rfl, _, rfl⟩
  have hp1 := hp.1
  refine wpAny_call ?_
  k_dflt cell_enter
  k_steps
  exact hret _ _ _ (Fr.gr (by assumption)) ⟨_, rfl⟩
theorem indent_cl (w mean mg mb) (p : PS) (hp : p.cnt.length ≤ 300 ∧ p.b ≤ 300 ∧ p.nt ≤ 300 ∧ ∀ x ∈ p.cnt, 0 ≤ x ∧ x ≤ 300) (v : Value) (t : Nat) (ht : 1 ≤ t ∧ t ≤ 100) (tt0 : Tok) : PCl w mean mg mb 8 157 (LeadAt w p v) [v, .int (t : Int) tt0] (fun _ _ r => ∃ u, r = .int (indF p t) u) := by
  intro dp un gd cn cs fa ccd cl outer A₀ base h₀ L m s Q E hB hF hK hT hkk hd hu hP hret
  obtain ⟨X, D, NT, CT, vs, k1, k2, k3, k4, k5, raw, si, tn, tb, tt, rfl, hi, hq⟩ := hP
  have hX : InstAt s.heap X (instObj 188 D) 188 (some (leadDict w k1 k2 k3 k4 k5 raw p.n p.nt tn tt NT si)) := ⟨hq _ (.head _), rfl, rfl, hq _ (.tail _ (.head _))⟩
  have hNT : IsTup s.heap NT [Value.ref CT, .int (p.b : Int) tb].toArray := ⟨_, hq _ (.tail _ (.tail _ (.head _))), rfl, _, rfl⟩
  have hCT : IsTup s.heap CT vs.toArray := ⟨_, hq _ (.tail _ (.tail _ (.tail _ (.head _)))), rfl, _, rfl⟩
  have hp1 := hp.1
  refine wpAny_call ?_
  k_dflt cell_enter
  k_steps
  rename_i F1 N1
  unfold Stopped
  k_dflt (refine For_invVF F1 (by rfl) (by rfl) ?_)
  iterate 15 walk1
  rename_i hR F2 N2 _
  k_dflt (refine iter_rangeUnr (n := ((p.cnt.length : Int) - t).toNat) (by rfl) hR (small_ab ht.2 hp1) (size_ab _ _) F2 News.nil fun I hI => rangeRest_st (σ := Int × Tok) (fun c => [(Str.ofString "il", .int c.1 c.2)]) (fun _ => []) (fun i c => c.1 = indS p.cnt t i) (0, _) rfl rfl (fun q hq => by cases hq with | head => rfl | tail _ h => cases h) ?_ ?_)
  · rintro i ⟨il, tl⟩ u h tk hi2 hok F N
    try k_fold
    have hgd := getD_le hp.2.2.2 ((t : Int) + (i : Int)).toNat
    have hi3 : (t : Int) + (i : Int) < (p.cnt.length : Int) := by omega
    k_steps
    rename_i F4 N4
    unfold Stopped
    refine st_end (σ := Int × Tok) (il + ((t : Int) + (i : Int)).fdiv (t : Int) * p.cnt.getD ((t : Int) + (i : Int)).toNat 0, ?tq) F4 N4 ?sub3 ?off3 ?ok3 ⟨?pq, ?pr⟩
    case sub3 => intro q hq; exact hq
    case off3 => intro q hq; cases hq
    case pq => intro q hq; cases hq with | head => rfl | tail _ h => cases h
    case pr =>
      intro y hy
      simp only [List.map, List.mem_cons, List.not_mem_nil, or_false, not_or] at hy
      simp [hy.1, hy.2, setL]
    case ok3 => dsimp only at hok ⊢; rw [hok]; rfl
  · rintro a ⟨il, tl⟩ h tk hok F N
    try k_fold
    k_steps
    dsimp only at hok
    subst hok
    exact hret _ _ _ (Fr.gr (by assumption)) ⟨_, rfl⟩
end In1
section Co1
example : True := by w_top off; exact trivial
local macro_rules | `(tactic| k_room) => `(tactic| ktr_room)
local macro_rules | `(tactic| walk_at "exec For Name Name cons nil") => `(tactic| (k_here; refine stopped ?_))
local macro_rules | `(tactic| walk_at "exec For Name Call cons nil") => `(tactic| (k_here; refine stopped ?_))
local macro_rules | `(tactic| walk_at "call ref") => `(tactic| (k_here; (with_reducible show wpAny _ _ (call (Value.ref 126) [Value.ref _, Value.ref _]) _ _ _); refine stopped ?_))
local macro_rules | `(tactic| walk_at "UnrEnd") => `(tactic| (refine stopped ?_))
local macro_rules | `(tactic| walk_at "LeaveK") => `(tactic| (k_dflt (refine' leaveK_ ?k1 ?k2 ?_; (case k1 => k_asm); (case k2 => k_asm); k_whole); intro kF kN; (try (dsimp only [InitBack]; refine ⟨rfl, ?_⟩)); (try dsimp only)))
/-- several new objects, onto the ledger -/
theorem newsOn {h₀ h h' : Heap} {L : Addr} {m : Str → Option Value} {news objs : List (Addr × Obj)} (F : Fr h₀ L h m) (N : News h₀ L h news) (g : Gr h h') (n : ∀ q ∈ objs, h.get? q.1 = none ∧ h'.get? q.1 = some q.2) : News h₀ L h' (objs ++ news) := fun p hp => by
  rcases List.mem_append.mp hp with hp | hp
  · exact (newOn (o := p.2) F N g (n p hp).1 (n p hp).2).1 p (.head _)
  · exact g.news N p hp
theorem LeadAt.of {w : World} {p : PS} {h₀ h : Heap} {L X D NT CT : Addr} {vs : List Value} {k1 k2 k3 k4 k5 : Tok} {raw si : Value} {tn tb tt : Tok} {news : List (Addr × Obj)} (N : News h₀ L h news) (hs : ∀ q ∈ leadObjs w X D NT CT vs k1 k2 k3 k4 k5 raw si p.n p.b p.nt tn tb tt, q ∈ news) (hi : IntsAre vs p.cnt) : LeadAt w p (.ref X) h :=
  ⟨X, D, NT, CT, vs, k1, k2, k3, k4, k5, raw, si, tn, tb, tt, rfl, hi, fun q hq => (N q (hs q hq)).1⟩
section
variable {w : World} {mean : ExcName → Option Value} {mg mb : Str → Option Value} {dp un : Nat} {gd : Option (List Code)} {cn : Str} {cs : Scope} {a : Addr} {ccd : Value} {cl : List (Str × Addr)} {outer : List Env} {A₀ : Around} {base h₀ : Heap} {L : Addr} {m : Str → Option Value} {s : Shared} {Q E : Value → Shared → Prop} {news : List (Addr × Obj)}
theorem use_lead {R : Addr} {vs : List Value} {k : Nat} (rs : List Nat) (hl : rs.length ≤ 9) (hr : ∀ r ∈ rs, r ≤ 25) (hB : Below A₀ base outer h₀) (F : Fr h₀ L s.heap m) (N : News h₀ L s.heap news) (X : (hd.heap_1 w.params).In h₀) (T : Top VW LS mean mg mb h₀) (hk : cs.kind = .function) (hd : dp + 12 < recursionLimit) (hu : un + 8 * 12 < cLine)
    (hR : (R, W.listOf vs.toArray k) ∈ news) (hi : IntsAre vs (IntL rs))
    (h : ∀ X D NT CT us k1 k2 k3 k4 k5 raw si tn tb tt h' tk', Fr h₀ L h' m → News h₀ L h' (leadObjs w X D NT CT us k1 k2 k3 k4 k5 raw si (pst (runL rs)).n (pst (runL rs)).b (pst (runL rs)).nt tn tb tt ++ news) → IntsAre us (pst (runL rs)).cnt → Q (.ref X) { s with heap := h', toks := tk' }) :
    wpAny (model PG w) (ktrTop dp un gd cn cs L a ccd cl outer) (call (.ref 216) [.ref R]) Q E s :=
  useP (lead_cl w mean mg mb rs hl hr R) hB F N X T hk hd hu ⟨vs, ⟨_, (N _ hR).1, rfl, k, rfl⟩, hi⟩ fun v h' tk' g F' _ hx => by
    obtain ⟨X, D, NT, CT, us, k1, k2, k3, k4, k5, raw, si, tn, tb, tt, e, hu', n⟩ := hx
    subst e; exact h X D NT CT us k1 k2 k3 k4 k5 raw si tn tb tt h' tk' F' (newsOn F N g n) hu'
theorem use_longest {v : Value} (p : PS) (hp : p.cnt.length ≤ 300 ∧ p.b ≤ 300) (hB : Below A₀ base outer h₀) (F : Fr h₀ L s.heap m) (N : News h₀ L s.heap news) (X : (hd.heap_1 w.params).In h₀) (T : Top VW LS mean mg mb h₀) (hk : cs.kind = .function) (hd : dp + 8 < recursionLimit) (hu : un + 8 * 8 < cLine)
    (hl : LeadAt w p v s.heap) (h : ∀ t h' tk', Fr h₀ L h' m → News h₀ L h' news → Q (.int (longF p) t) { s with heap := h', toks := tk' }) :
    wpAny (model PG w) (ktrTop dp un gd cn cs L a ccd cl outer) (call (.ref 150) [v]) Q E s :=
  useP (longest_cl w mean mg mb p hp v) hB F N X T hk hd hu hl fun r h' tk' _ F' N' hx => by obtain ⟨t, e⟩ := hx; subst e; exact h t h' tk' F' N'
theorem use_indent {v : Value} {tt0 : Tok} (p : PS) (hp : p.cnt.length ≤ 300 ∧ p.b ≤ 300 ∧ p.nt ≤ 300 ∧ ∀ x ∈ p.cnt, 0 ≤ x ∧ x ≤ 300) (t : Nat) (ht : 1 ≤ t ∧ t ≤ 100) (hB : Below A₀ base outer h₀) (F : Fr h₀ L s.heap m) (N : News h₀ L s.heap news) (X : (hd.heap_1 w.params).In h₀) (T : Top VW LS mean mg mb h₀) (hk : cs.kind = .function) (hd : dp + 8 < recursionLimit) (hu : un + 8 * 8 < cLine)
    (hl : LeadAt w p v s.heap) (h : ∀ t' h' tk', Fr h₀ L h' m → News h₀ L h' news → Q (.int (indF p t) t') { s with heap := h', toks := tk' }) :
    wpAny (model PG w) (ktrTop dp un gd cn cs L a ccd cl outer) (call (.ref 157) [v, .int (t : Int) tt0]) Q E s :=
  useP (indent_cl w mean mg mb p hp v t ht tt0) hB F N X T hk hd hu hl fun r h' tk' _ F' N' hx => by obtain ⟨t', e⟩ := hx; subst e; exact h t' h' tk' F' N'
end
local macro_rules | `(tactic| walk_at "call ref") => `(tactic| (k_here; (with_reducible first | show wpAny _ _ (call (Value.ref 216) _ _) _ _ _ | show wpAny _ _ (call (Value.ref 150) _ _) _ _ _ | show wpAny _ _ (call (Value.ref 157) _ _) _ _ _); refine stopped ?_))
theorem absI (c : Int) : (if c < 0 then -c else c) = ((c.natAbs : Nat) : Int) := by split <;> omega
theorem abs3 {c0 c1 c2 : Int} (a b c : Tok) : IntsAre [Value.int (if c0 < 0 then -c0 else c0) a, Value.int (if c1 < 0 then -c1 else c1) b, Value.int (if c2 < 0 then -c2 else c2) c] (IntL [c0.natAbs, c1.natAbs, c2.natAbs]) := by
  rw [absI, absI, absI]; exact .cons _ _ (.cons _ _ (.cons _ _ .nil))
theorem small_ab2 {a b : Int} (h1 : 0 ≤ a ∧ a ≤ 1000) (h2 : 0 ≤ b ∧ b ≤ 999) : Builtin.Range.small a b 1 = true := by
  unfold Builtin.Range.small
  rw [size_ab, fitsL h1, fitsL (by omega), fitsL (by omega), fitsL (by omega), if_pos (by decide), fitsL (by omega)]
  simp
noncomputable def factB (p : PS) : Bool := decide (longF p ≤ 99) && decide (p.cnt.length ≤ 300) && decide (p.b ≤ 300) && decide (p.nt ≤ 300) && decide (p.n ≤ 300) && p.cnt.all (fun x => decide (0 ≤ x) && decide (x ≤ 300))
structure FactP (p : PS) : Prop where
  four : p.cnt.length ≤ 300 ∧ p.b ≤ 300 ∧ p.nt ≤ 300 ∧ ∀ x ∈ p.cnt, 0 ≤ x ∧ x ≤ 300
  n : p.n ≤ 300
  long : 0 ≤ longF p ∧ longF p ≤ 99
theorem factP {p : PS} (h : factB p = true) : FactP p := by
  simp only [factB, Bool.and_eq_true, decide_eq_true_eq, List.all_eq_true] at h
  exact ⟨⟨h.1.1.1.1.2, h.1.1.1.2, h.1.1.2, h.2⟩, h.1.2, by unfold longF; split <;> omega, h.1.1.1.1.1⟩
theorem fact64 : ∀ a < 4, ∀ b < 4, ∀ c < 4, factB (pst (runL [a, b, c])) = true := by decide +kernel
/-- _law_common's loop -/
noncomputable def comS (p : PS) : Nat → Int
  | 0 => 0
  | i + 1 => if indF p ((1 + i : Nat) : Int) = (p.n : Int) + (1 + (i : Int) - 1) * (p.nt : Int) then 1 + (i : Int) else comS p i
noncomputable def comF (p : PS) : Int := comS p (longF p + 1 - 1).toNat
theorem common_cl (w mean mg mb) (c0 c1 c2 : Int) (hc : (-4 < c0 ∧ c0 < 4) ∧ (-4 < c1 ∧ c1 < 4) ∧ (-4 < c2 ∧ c2 < 4)) (R : Addr) (ta tb tc : Tok) : PCl w mean mg mb 20 221 (fun h => h.IsList R #[.int c0 ta, .int c1 tb, .int c2 tc]) [.ref R] (fun _ _ r => ∃ t, r = .int (comF (pst (runL [c0.natAbs, c1.natAbs, c2.natAbs]))) t) := by
  intro dp un gd cn cs fa ccd cl outer A₀ base h₀ L m s Q E hB hF hK hT hkk hd hu hP hret
  have hsrc : ∀ news, LCg.SrcAt s.heap R #[.int c0 ta, .int c1 tb, .int c2 tc] news := fun _ => Or.inl hP
  refine wpAny_call ?_
  k_dflt cell_enter
  k_steps
  rename_i F1 N1 _
  unfold Stopped
  have hi1 := abs3 (c0 := c0) (c1 := c1) (c2 := c2)
  k_dflt (refine use_lead (vs := [_, _, _]) [c0.natAbs, c1.natAbs, c2.natAbs] (by simp) (by intro r hr; simp only [List.mem_cons, List.not_mem_nil, or_false] at hr; omega) (by k_asm) F1 N1 (by k_asm) (by k_asm) (by rfl) (by ktr_room) (by ktr_units) (.head _) (hi1 _ _ _) ?_)
  intro X D NT CT us k1 k2 k3 k4 k5 raw si tn tb' tt h2 tk2 F2 N2 hus
  have hf := factP (fact64 c0.natAbs (by omega) c1.natAbs (by omega) c2.natAbs (by omega))
  generalize pst (runL [c0.natAbs, c1.natAbs, c2.natAbs]) = p at N2 hus hf hret
  k_steps
  rename_i F3 N3
  unfold Stopped
  k_dflt (refine For_invVF F3 (by rfl) (by rfl) ?_)
  k_steps
  unfold Stopped
  k_dflt (refine use_longest p ⟨hf.four.1, hf.four.2.1⟩ (by k_asm) F3 N3 (by k_asm) (by k_asm) (by rfl) (by ktr_room) (by ktr_units) (LeadAt.of N3 (fun q hq => List.mem_append_left _ hq) hus) ?_)
  intro tl h4 tk4 F4 N4
  iterate 4 walk1
  rename_i hr5 F5 N5 _
  k_dflt (refine iter_rangeUnr (n := (longF p + 1 - 1).toNat) (by rfl) hr5 (small_ab2 (by decide) (by have := hf.long; omega)) (size_ab _ _) F5 (news := leadObjs w X D NT CT us k1 k2 k3 k4 k5 raw si p.n p.b p.nt tn tb' tt) (fun q hq => N5 q (List.mem_append_left _ hq)) fun I hI => rangeRest_st (σ := Int × Tok) (fun c => [(Str.ofString "common", .int c.1 c.2)]) (fun _ => leadObjs w X D NT CT us k1 k2 k3 k4 k5 raw si p.n p.b p.nt tn tb' tt) (fun i c => c.1 = comS p i) (0, _) rfl rfl (fun q hq => by cases hq with | head => rfl | tail _ h => cases h) ?_ ?_)
  · rintro i ⟨co, tco⟩ u h tk hi2 hok F N
    try k_fold
    have hlong := hf.long
    have hi3 : 1 + i ≤ 100 := by omega
    k_steps
    unfold Stopped
    have hnt := hf.four.2.2.1
    k_dflt (refine use_indent p hf.four (1 + i) ⟨by omega, hi3⟩ (by k_asm) F N (by k_asm) (by k_asm) (by rfl) (by ktr_room) (by ktr_units) (LeadAt.of N (fun q hq => .tail _ hq) hus) ?_)
    intro tl7 h7 tk7 F7 N7
    k_steps
    · rename_i e1 _ F8 N8
      unfold Stopped
      refine st_end (σ := Int × Tok) (1 + (i : Int), ?tq) F8 N8 ?sub3 ?off3 ?ok3 ⟨?pq, ?pr⟩
      case sub3 => intro q hq; exact hq
      case off3 => exact fun q hq => Nat.ne_of_lt (hI q hq)
      case pq => intro q hq; cases hq with | head => rfl | tail _ h => cases h
      case pr =>
        intro y hy
        simp only [List.map, List.mem_cons, List.not_mem_nil, or_false, not_or] at hy
        simp [hy.1, hy.2, setL]
      case ok3 => exact (if_pos e1).symm
    · rename_i e2
      unfold Stopped
      refine st_end (σ := Int × Tok) (co, tco) F7 N7 ?sub4 ?off4 ?ok4 ⟨?pq4, ?pr4⟩
      case sub4 => intro q hq; exact hq
      case off4 => exact fun q hq => Nat.ne_of_lt (hI q hq)
      case pq4 => intro q hq; cases hq with | head => rfl | tail _ h => cases h
      case pr4 =>
        intro y hy
        simp only [List.map, List.mem_cons, List.not_mem_nil, or_false, not_or] at hy
        simp [hy.1, hy.2, setL]
      case ok4 => exact hok.trans (if_neg e2).symm
  · rintro a ⟨co, tco⟩ h tk hok F N
    try k_fold
    k_steps
    dsimp only at hok
    subst hok
    exact hret _ _ _ (Fr.gr (by assumption)) ⟨_, rfl⟩
end Co1
section Me1
local macro_rules | `(tactic| walk_at "no such step") => `(tactic| fail "none")
example : True := by w_top off; exact trivial
local macro_rules | `(tactic| walk_at "call ref") => `(tactic| (k_here; (with_reducible first | show wpAny _ _ (call (Value.ref 216) _ _) _ _ _ | show wpAny _ _ (call (Value.ref 150) _ _) _ _ _ | show wpAny _ _ (call (Value.ref 157) _ _) _ _ _); refine stopped ?_))
local macro_rules | `(tactic| cell_enter) => `(tactic| (refine' enterPC ?k1 ?k2 ?k3 ?k5 ?kA ?kF ?kK ?k6 ?k7 ?k8 ?k9 ?kB ?kD ?_ ?c2 ?c3 ?c4; (case kA => exact rfl); (case kF => exact rfl); (case kK => assumption); (case k1 => k_asm); (case k2 => k_asm); (case k3 => k_asm); (case k5 => k_asm); (case k6 => k_is); (case k7 => k_is); (case k8 => ktr_room); (case k9 => exact BindsTo.of_eq rfl); (case kB => exact rfl); (case kD => decide +kernel); (case c2 => exact rfl); (case c3 => exact rfl); (case c4 => exact rfl); k_whole; intro L' h' tk' cells' F' N' Y' B' X' T'; k_cells Y'; (try simp only [List.cons_append, List.nil_append] at N'); (try dsimp only); (try k_fold)))
local macro_rules | `(tactic| k_room) => `(tactic| ktr_room)
local macro_rules | `(tactic| walk_at "exec For Name Name cons nil") => `(tactic| (k_here; refine stopped ?_))
local macro_rules | `(tactic| walk_at "exec For Name Call cons nil") => `(tactic| (k_here; refine stopped ?_))
local macro_rules | `(tactic| walk_at "call ref") => `(tactic| (k_here; (with_reducible show wpAny _ _ (call (Value.ref 126) [Value.ref _, Value.ref _]) _ _ _); refine stopped ?_))
local macro_rules | `(tactic| walk_at "UnrEnd") => `(tactic| (refine stopped ?_))
local macro_rules | `(tactic| walk_at "LeaveK") => `(tactic| (k_dflt (refine' leaveK_ ?k1 ?k2 ?_; (case k1 => k_asm); (case k2 => k_asm); k_whole); intro kF kN; (try (dsimp only [InitBack]; refine ⟨rfl, ?_⟩)); (try dsimp only)))
/-- the runs of _law_measure_times_size -/
noncomputable def turnsL (n r : Nat) : List Nat := (List.range (n - 1)).map fun k => (k + 1) * r
noncomputable def measF (n r : Nat) : Int := (n : Int) * ((r : Int) + (n : Int) - (r : Int) * (n : Int)) + 2 * (indF (pst (runL (turnsL n r))) (n : Int) - (n : Int) * ((n : Int) - 1))
theorem turns_len {n r : Nat} (hn : n < 7) : (turnsL n r).length ≤ 9 := by
  unfold turnsL; simp only [List.length_map, List.length_range]; omega
theorem turns_le {n r : Nat} (hn : n < 7) (hr : r < n) : ∀ x ∈ turnsL n r, x ≤ 25 := by
  intro x hx
  unfold turnsL at hx
  simp only [List.mem_map, List.mem_range] at hx
  obtain ⟨k, hk, rfl⟩ := hx
  have h1 : k + 1 ≤ 5 := by omega
  have h2 : r ≤ 5 := by omega
  exact Nat.le_trans (Nat.mul_le_mul h1 h2) (by decide)
theorem turns_eq {n : Nat} {f : Int} (hn : 2 ≤ n) (hf : 0 ≤ f) : List.map (fun k' => k' * f) (rangeKs 1 ((n : Int) - 1).toNat) = IntL (turnsL n f.toNat) := by
  obtain ⟨r, rfl⟩ := Int.eq_ofNat_of_zero_le hf
  have e : ((n : Int) - 1).toNat = n - 1 := by omega
  rw [e]
  unfold IntL turnsL rangeKs
  simp only [List.map_map]
  refine List.map_congr_left fun k _ => ?_
  show (1 + (k : Int)) * (r : Int) = (((k + 1) * r : Nat) : Int)
  rw [Int.natCast_mul, Int.natCast_add, Int.add_comm]; rfl
theorem fact20 : ∀ n < 7, ∀ r < n, factB (pst (runL (turnsL n r))) = true := by decide +kernel
theorem measure_cl (w mean mg mb) (n : Nat) (hn : 2 ≤ n ∧ n < 7) (q : Int) (hq : -1000 < q ∧ q < 1000) (ta tb : Tok) : PCl w mean mg mb 20 226 (fun _ => True) [.int q ta, .int (n : Int) tb] (fun _ _ v => ∃ t, v = .int (measF n (q.fmod (n : Int)).toNat) t) := by
  intro dp un gd cn cs fa ccd cl outer A₀ base h₀ L m s Q E hB hF hK hT hkk hd hu hP hret
  have hn0 : (n : Int) ≠ 0 := by omega
  have hn1 : (0 : Int) < (n : Int) := by omega
  have hr0 : 0 ≤ q.fmod (n : Int) := fmod_lo _ hn1
  have hr1 : q.fmod (n : Int) < (n : Int) := fmod_hi _ hn1
  refine wpAny_call ?_
  k_dflt cell_enter
  k_steps
  rename_i hI8 _ _ _ _ F1 N1 _
  unfold Stopped
  rw [turns_eq hn.1 hr0] at hI8
  have hrn : (q.fmod (n : Int)).toNat < n := by omega
  k_dflt (refine use_lead (turnsL n (q.fmod (n : Int)).toNat) (turns_len hn.2) (turns_le hn.2 hrn) (by k_asm) F1 N1 (by k_asm) (by k_asm) (by rfl) (by ktr_room) (by ktr_units) (.head _) hI8 ?_)
  intro X D NT CT us k1 k2 k3 k4 k5 raw si tn tb' tt h2 tk2 F2 N2 hus
  have hf := factP (fact20 n hn.2 _ hrn)
  k_steps

  unfold Stopped
  k_dflt (refine use_indent _ hf.four n ⟨by omega, by omega⟩ (by k_asm) F2 N2 (by k_asm) (by k_asm) (by rfl) (by ktr_room) (by ktr_units) (LeadAt.of N2 (fun q hq => List.mem_append_left _ hq) hus) ?_)
  intro tl4 h4 tk4 F4 N4
  k_steps
  have hme : (n : Int) * (q.fmod (n : Int) + (n : Int) - q.fmod (n : Int) * (n : Int)) + 2 * (indF (pst (runL (turnsL n (q.fmod (n : Int)).toNat))) (n : Int) - (n : Int) * ((n : Int) - 1)) = measF n (q.fmod (n : Int)).toNat := by
    unfold measF; rw [Int.toNat_of_nonneg hr0]
  rw [hme]
  exact hret _ _ _ (Fr.gr (by assumption)) ⟨_, rfl⟩
end Me1
section Cn1
example : True := by w_top off; exact trivial
local macro_rules | `(tactic| walk_at "call ref") => `(tactic| (k_here; (with_reducible first | show wpAny _ _ (call (Value.ref 202) _ _) _ _ _ | show wpAny _ _ (call (Value.ref 221) _ _) _ _ _ | show wpAny _ _ (call (Value.ref 226) _ _) _ _ _ | show wpAny _ _ (call (Value.ref 112) _ _) _ _ _); refine stopped ?_))
local macro_rules | `(tactic| k_room) => `(tactic| ktr_room)
local macro_rules | `(tactic| walk_at "exec For Name Name cons nil") => `(tactic| (k_here; refine stopped ?_))
local macro_rules | `(tactic| walk_at "exec For Name Call cons nil") => `(tactic| (k_here; refine stopped ?_))
local macro_rules | `(tactic| walk_at "call ref") => `(tactic| (k_here; (with_reducible show wpAny _ _ (call (Value.ref 126) [Value.ref _, Value.ref _]) _ _ _); refine stopped ?_))
local macro_rules | `(tactic| walk_at "UnrEnd") => `(tactic| (refine stopped ?_))
local macro_rules | `(tactic| walk_at "LeaveK") => `(tactic| (k_dflt (refine' leaveK_ ?k1 ?k2 ?_; (case k1 => k_asm); (case k2 => k_asm); k_whole); intro kF kN; (try (dsimp only [InitBack]; refine ⟨rfl, ?_⟩)); (try dsimp only)))
section
variable {prog : Program} {w : World} {A : Around} {E : Value → Shared → Prop} {s : Shared} {env : Env} {h₀ : Heap} {x : Str} {body : List Stmt} {Q : Flow → Shared → Prop}
/-- a loop over a list that stood, of whatever values -/
theorem iter_vals {l : Addr} {vs : List Value} {m₀ : Str → Option Value} {news : List (Addr × Obj)} (J : Nat → (Str → Option Value) → Prop)
    (hh : A.handled = none) (hl : h₀.IsList l vs.toArray) (F : Fr h₀ env.locals s.heap m₀) (N : News h₀ env.locals s.heap news) (hj : J 0 m₀)
    (turn : ∀ i v m₁ h tk own, vs[i]? = some v → J i m₁ → Fr h₀ env.locals h (fun y => if y = x then some v else m₁ y) → News h₀ env.locals h (own ++ news) →
      wpAny (model prog w) A (execs body env) (InvPost h₀ env.locals (J (i + 1)) (own ++ news) { s with heap := h, toks := tk } Q) E { s with heap := h, toks := tk })
    (done : ∀ m₁ h tk, J vs.length m₁ → Fr h₀ env.locals h m₁ → News h₀ env.locals h news → Q .next { s with heap := h, toks := tk }) :
    wpAny (model prog w) A (pyIter (.ref l)) (fun it s₂ => LoopAtV prog w A h₀ env x body Q E it s₂) E s := by
  have old : s.heap.IsList l vs.toArray := Gr.list F.keep hl
  have in0 : l < h₀.objs.size := by obtain ⟨_, e, _⟩ := id hl; exact Heap.lt_size e
  have big : h₀.objs.size < s.heap.objs.size := Nat.lt_of_le_of_lt F.above F.ns.lt
  have apart : l ≠ s.heap.objs.size := Nat.ne_of_lt (Nat.lt_trans in0 big)
  refine wpAny_pyIter_list old ?_
  have W := Walks.list (prog := prog) (w := w) hh s.heap.objs.size l apart vs.toArray
  rw [List.size_toArray] at W
  refine ⟨_, _, _, vs.length, _, _, m₀, news, fun i m₁ n₁ => n₁ = news ∧ J i m₁, rfl, W, ?_, ?_, ?_, ⟨⟨_, Heap.get?_push_size _ rfl, rfl, rfl⟩, old.at fun o e => Heap.get?_push_of_some _ e⟩, F.push _, (fun p hp => ⟨Heap.get?_push_of_some _ (N p hp).1, (N p hp).2⟩), ⟨rfl, hj⟩, ?_, ?_⟩
  · intro q
    rcases List.mem_cons.mp q with e | q
    · exact absurd F.ns.lt (e ▸ Nat.lt_irrefl _)
    · exact absurd (Nat.lt_of_lt_of_le in0 F.above) ((List.mem_singleton.mp q) ▸ Nat.lt_irrefl _)
  · intro b q
    rw [List.mem_singleton.mp q]
    exact next_is_new F
  · intro p hp q
    exact absurd (Heap.lt_size (N p hp).1) ((List.mem_singleton.mp q) ▸ Nat.lt_irrefl _)
  · rintro i v m₁ n₁ s₁ own ⟨h, tk, rfl⟩ hin hv ⟨rfl, hJ⟩ off _ _ _ _ F₁ N₁
    refine wpAny_mono (turn i v m₁ h tk own (by simpa using hv) hJ F₁ N₁) (fun f s₂ q => ?_) fun _ _ e => e
    have fin : InvEnd h₀ env.locals (J (i + 1)) (own ++ n₁) { s with heap := h, toks := tk } s₂ → LoopStepU h₀ env.locals [s.heap.objs.size] own (fun m₁ n₂ => n₂ = n₁ ∧ J (i + 1) m₁) { s with heap := h, toks := tk } .next s₂ := by
      rintro ⟨h', tk', m', n', e, F', N', sub, r⟩
      exact ⟨rfl, h', tk', m', n₁, e, F', fun p hp => N' p (sub p hp), off, rfl, r⟩
    cases f with
    | ret _ => exact .ret q
    | brk => exact .brk q
    | next => exact .next (fin q)
    | cont => exact .cont (fin q)
  · rintro h tk m₁ n₁ F' N' _ ⟨rfl, r⟩
    exact done m₁ h tk r F' N'
theorem vals_st {σ : Type} (ps : σ → List (Str × Value)) (ok : Nat → σ → Prop) {l : Addr} {vs : List Value} {m₀ : Str → Option Value} {news : List (Addr × Obj)}
    (hh : A.handled = none) (hl : h₀.IsList l vs.toArray) (F : Fr h₀ env.locals s.heap m₀) (N : News h₀ env.locals s.heap news) (c₀ : σ) (h0 : ok 0 c₀) (hm : ∀ p ∈ ps c₀, m₀ p.1 = some p.2)
    (turn : ∀ i v c h tk own, vs[i]? = some v → ok i c → Fr h₀ env.locals h (fun y => if y = x then some v else setL (ps c) m₀ y) → News h₀ env.locals h (own ++ news) →
      wpAny (model prog w) A (execs body env) (InvPost h₀ env.locals (fun m' => ∃ c', ok (i + 1) c' ∧ StM x (ps c') m₀ m') (own ++ news) { s with heap := h, toks := tk } Q) E { s with heap := h, toks := tk })
    (done : ∀ a c h tk, ok vs.length c → Fr h₀ env.locals h (updL [x] a (setL (ps c) m₀)) → News h₀ env.locals h news → Q .next { s with heap := h, toks := tk }) :
    wpAny (model prog w) A (pyIter (.ref l)) (fun it s₂ => LoopAtV prog w A h₀ env x body Q E it s₂) E s := by
  refine iter_vals (fun i m' => ∃ c, ok i c ∧ StM x (ps c) m₀ m') hh hl F N ⟨c₀, h0, .start hm⟩ ?_ ?_
  · rintro i v m₁ h tk own hv ⟨c, hc, q⟩ F' N'
    rw [q.turn] at F'
    exact turn i v c h tk own hv hc F' N'
  · rintro m₁ h tk ⟨c, hc, q⟩ F' N'
    exact done m₁ c h tk hc (q.done ▸ F') N'
end
/-- how many are True -/
noncomputable def cntB (bs : List Bool) : Nat := bs.countP id
theorem cntB_take {bs : List Bool} {i : Nat} {b : Bool} (h : bs[i]? = some b) : (cntB (bs.take (i + 1)) : Int) = if b then (cntB (bs.take i) : Int) + 1 else (cntB (bs.take i) : Int) := by
  have e : bs.take (i + 1) = bs.take i ++ [b] := by rw [List.take_succ, h]; rfl
  rw [e]
  unfold cntB
  rw [List.countP_append]
  cases b <;> simp
theorem count_cl (w mean mg mb) (bs : List Bool) (hb : bs.length ≤ 100) (R : Addr) : PCl w mean mg mb 4 112 (fun h => h.IsList R (bs.map Value.bool).toArray) [.ref R, .bool true] (fun _ _ r => ∃ t, r = .int (cntB bs) t) := by
  intro dp un gd cn cs fa ccd cl outer A₀ base h₀ L m s Q E hB hF hK hT hkk hd hu hP hret
  refine wpAny_call ?_
  k_dflt cell_enter
  k_steps
  rename_i F1 N1
  unfold Stopped
  k_dflt (refine For_invVF F1 (by rfl) (by rfl) ?_)
  walk1
  k_dflt (refine vals_st (σ := Int × Tok) (fun c => [(Str.ofString "count", .int c.1 c.2)]) (fun i c => c.1 = (cntB (bs.take i) : Int)) (by rfl) hP F1 N1 (0, _) rfl (fun q hq => by cases hq with | head => rfl | tail _ h => cases h) ?_ ?_)
  · rintro i v ⟨co, tco⟩ h tk own hv hok F N
    try k_fold
    obtain ⟨b, hb', rfl⟩ : ∃ b, bs[i]? = some b ∧ v = .bool b := by
      rw [List.getElem?_map] at hv
      cases e : bs[i]? with
      | none => rw [e] at hv; cases hv
      | some b => rw [e] at hv; cases hv; exact ⟨b, rfl, rfl⟩
    have hc := cntB_take hb'
    cases b
    · k_steps
      refine InvEnd.intro (by assumption) (by assumption) ?sub1 ⟨(co, ?tt1), ?ok1, ?atp1, ?off1⟩
      case sub1 => intro p hp; exact hp
      case atp1 =>
        intro p hp
        simp only [List.mem_cons, List.not_mem_nil, or_false] at hp
        obtain rfl := hp; rfl
      · exact hok.trans hc.symm
      · intro y hy
        simp only [List.map, List.mem_cons, List.not_mem_nil, or_false, not_or] at hy
        simp [hy.1, hy.2, setL]
    · k_steps
      refine InvEnd.intro (by assumption) (by assumption) ?sub2 ⟨(co + 1, ?tt2), ?ok2, ?atp2, ?off2⟩
      case sub2 => intro p hp; exact hp
      case atp2 =>
        intro p hp
        simp only [List.mem_cons, List.not_mem_nil, or_false] at hp
        obtain rfl := hp; rfl
      · exact (congrArg (· + 1) hok).trans hc.symm
      · intro y hy
        simp only [List.map, List.mem_cons, List.not_mem_nil, or_false, not_or] at hy
        simp [hy.1, hy.2, setL]
  · rintro a ⟨co, tco⟩ h tk hok F N
    try k_fold
    rw [List.length_map, List.take_length] at hok
    k_steps
    dsimp only at hok
    subst hok
    exact hret _ _ _ (Fr.gr (by assumption)) ⟨_, rfl⟩
end Cn1
section Ls1
example : True := by w_top off; exact trivial
section
variable {prog : Program} {w : World} {A : Around} {E : Value → Shared → Prop} {s : Shared} {h₀ : Heap} {L l : Addr} {m : Str → Option Value} {news : List (Addr × Obj)} {value slice : PySem.Expr} {vs : List Value} {ns ms : List Int} {vl vu : Value} {lo hi : Option Int} {Q : Value → Shared → Prop}
theorem sub_opsT {o i : Value} {T id : String} {ops : List Value} (hT : s.TypeIs o T)
    (hl : typeLookup (.type T) "__getitem__" = pure (some (.builtin id))) (h : wpAny (model prog w) A (getItem o i) Q E s)
    (hs : subscripted slice false o i = operate ops (getItem o i)) : wpAny (model prog w) A (subscriptTail value slice o i) Q E s := by
  unfold subscriptTail
  refine wpAny_bind ?_
  rw [getitemInPython_of_ne hT.not_modules]
  refine wpAny_bind (wpAny_specialOf hT hl ?_)
  have fin : wpAny (model prog w) A (subscripted slice false o i) (fun r s₃ => wpAny (model prog w) A (letTemporaryGo value o r >>= fun _ => pure r) Q E s₃) E s := by
    rw [hs]
    exact wpAny_operating (wpAny_mono h (fun r s₃ h₃ => wpAny_bind (wpAny_letTemporaryGo (wpAny_pure h₃))) fun _ _ x => x)
  first
    | exact wpAny_pure (wpAny_bind fin)
    | exact wpAny_bind (wpAny_pure (wpAny_bind fin))
    | exact wpAny_bind fin
/-- a slice of a list of ints; the list need not stand behind a name -/
theorem sliceT (F : Fr h₀ L s.heap m) (N : News h₀ L s.heap news) (hl : s.heap.IsList l vs.toArray) (pl : IsPart vl lo) (pu : IsPart vu hi) (hm : IntsAre (slicePick vs.toArray lo hi none).toList ms)
    (h : ∀ D ws h', Fr h₀ L h' m → News h₀ L h' ((D, listOf (List.toArray ws) 0) :: news) → (∀ p ∈ news, p.1 < D) → IntsAre ws ms → Q (.ref D) { s with heap := h' })
    (hs : subscripted slice false (.ref l) (.ref s.heap.objs.size) = operate [.ref s.heap.objs.size, .ref l] (getItem (.ref l) (.ref s.heap.objs.size))) (hz : vs.length ≤ sizeLine) :
    wpAny (model prog w) A (subscriptTail value slice (.ref l) (.ref s.heap.objs.size)) Q E { s with heap := s.heap.push { cls := .type "slice", data := .fields #[vl, vu, .none] } } := by
  refine sub_opsT (Heap.IsList.typeIs (s := { s with heap := s.heap.push { cls := .type "slice", data := .fields #[vl, vu, .none] } }) (hl.push _)) list_getitem_lookup
    (wpAny_getItem_list_slice (hl.push _) (Heap.IsSliceOf.new ..) pl pu .none (by simp) ?_ (by simpa using hz)) hs
  have N1 := News.push (F.push { cls := .type "slice", data := .fields #[vl, vu, .none] }) (N.grown fun _ _ e => Heap.get?_push_of_some _ e) { cls := .type "list", data := .seq (slicePick vs.toArray lo hi none) }
  rw [Heap.size_push] at N1
  show Q (.ref (s.heap.push _).objs.size) _
  rw [Heap.size_push]
  refine h _ (slicePick vs.toArray lo hi none).toList _ ((F.push _).push _) ?_ (fun p hp => Nat.lt_succ_of_lt (Heap.lt_size (N p hp).1)) hm
  rw [Array.toArray_toList]
  exact N1
end
theorem feet_all : ∀ n < 7, ∀ c < 7, ∀ l < n, ∀ r < n, feetF ((n : Nat) : Int) (((c : Nat) : Int) - 3) ((l : Nat) : Int) ((r : Nat) : Int) = [((l : Int) + (((c : Nat) : Int) - 3) * ((r : Int) - l)).fmod n, ((r : Int) + (((c : Nat) : Int) - 3) * ((r : Int) - l)).fmod n] := by decide +kernel
theorem feet_due {n : Nat} {c l r : Int} (hn : 2 ≤ n ∧ n < 7) (hl : InR n l) (hr : InR n r) (hc : -4 < c ∧ c < 4) : feetF n c l r = [(l + c * (r - l)).fmod n, (r + c * (r - l)).fmod n] := by
  obtain ⟨l, rfl⟩ := Int.eq_ofNat_of_zero_le hl.1
  obtain ⟨r, rfl⟩ := Int.eq_ofNat_of_zero_le hr.1
  have := feet_all n hn.2 (c + 3).toNat (by omega) l (by have := hl.2; omega) r (by have := hr.2; omega)
  rwa [show (((c + 3).toNat : Nat) : Int) - 3 = c by omega] at this
/-- the table stands as long as its objects do -/
theorem tab_of {n : Nat} {T : Addr} {tl news : List (Addr × Obj)} {h₀ h : Heap} {L : Addr} (q : ∀ h'', (∀ p ∈ tl, h''.get? p.1 = some p.2) → TableAt n T h'') (N : News h₀ L h news) (hs : ∀ p ∈ tl, p ∈ news) : TableAt n T h := q h fun p hp => (N p (hs p hp)).1
/-- the arches' joining, asked of two hues -/
noncomputable def joinB (n f c0 c1 c2 s t : Int) : Bool := decide ([(f + c0 * (f - t)).fmod n, (s + c1 * (s - f)).fmod n, (t + c2 * (t - s)).fmod n] = [(f + c1 * (s - f)).fmod n, (s + c2 * (t - s)).fmod n, (t + c0 * (f - t)).fmod n])
noncomputable def rowB (n f c0 c1 c2 s : Int) (k : Nat) : List Bool := (List.range k).map fun (t : Nat) => joinB n f c0 c1 c2 s (t : Int)
noncomputable def allB (n : Nat) (f c0 c1 c2 : Int) (k : Nat) : List Bool := (List.range k).flatMap fun (s : Nat) => rowB n f c0 c1 c2 (s : Int) n
theorem rowB_succ (n f c0 c1 c2 s : Int) (k : Nat) : rowB n f c0 c1 c2 s (k + 1) = rowB n f c0 c1 c2 s k ++ [joinB n f c0 c1 c2 s (k : Int)] := by
  unfold rowB; rw [List.range_succ, List.map_append]; rfl
theorem allB_succ (n : Nat) (f c0 c1 c2 : Int) (k : Nat) : allB n f c0 c1 c2 (k + 1) = allB n f c0 c1 c2 k ++ rowB n f c0 c1 c2 (k : Int) n := by
  unfold allB; rw [List.range_succ, List.flatMap_append, List.flatMap_singleton]
section
variable {w : World} {mean : ExcName → Option Value} {mg mb : Str → Option Value} {dp un : Nat} {gd : Option (List Code)} {cn : Str} {cs : Scope} {a : Addr} {ccd : Value} {cl : List (Str × Addr)} {outer : List Env} {A₀ : Around} {base h₀ : Heap} {L : Addr} {m : Str → Option Value} {s : Shared} {Q E : Value → Shared → Prop} {news : List (Addr × Obj)}
theorem use_mir {n : Nat} {ta : Tok} (hn : 2 ≤ n ∧ n < 7) (hB : Below A₀ base outer h₀) (F : Fr h₀ L s.heap m) (N : News h₀ L s.heap news) (X : (hd.heap_1 w.params).In h₀) (T : Top VW LS mean mg mb h₀) (hk : cs.kind = .function) (hd : dp + 20 < recursionLimit) (hu : un + 8 * 20 < cLine)
    (h : ∀ T tl h' tk', Fr h₀ L h' m → News h₀ L h' (tl ++ news) → (∀ h'', (∀ p ∈ tl, h''.get? p.1 = some p.2) → TableAt n T h'') → Q (.ref T) { s with heap := h', toks := tk' }) :
    wpAny (model PG w) (ktrTop dp un gd cn cs L a ccd cl outer) (call (.ref 202) [.int (n : Int) ta]) Q E s :=
  useP (mirrors_cl w mean mg mb n hn ta) hB F N X T hk hd hu trivial fun v h' tk' g F' _ hx => by
    obtain ⟨T, tl, e, n, q⟩ := hx
    subst e; exact h T tl h' tk' F' (newsOn F N g n) q
theorem use_feet {n : Nat} {l r c : Int} {tl tr tc : Tok} {T : Addr} (hn : 2 ≤ n ∧ n < 7) (hl : InR n l) (hr : InR n r) (hc : -4 < c ∧ c < 4) (hB : Below A₀ base outer h₀) (F : Fr h₀ L s.heap m) (N : News h₀ L s.heap news) (X : (hd.heap_1 w.params).In h₀) (T' : Top VW LS mean mg mb h₀) (hk : cs.kind = .function) (hd : dp + 4 < recursionLimit) (hu : un + 8 * 4 < cLine)
    (hT : TableAt n T s.heap)
    (h : ∀ D t1 t2 k h' tk', Fr h₀ L h' m → News h₀ L h' ((D, W.listOf #[.int ((l + c * (r - l)).fmod n) t1, .int ((r + c * (r - l)).fmod n) t2] k) :: news) → AllNe D news → Q (.ref D) { s with heap := h', toks := tk' }) :
    wpAny (model PG w) (ktrTop dp un gd cn cs L a ccd cl outer) (call (.ref 209) [.int l tl, .int r tr, .int c tc, .ref T]) Q E s :=
  useP (feet_cl w mean mg mb n c l r T ⟨⟨by omega, by omega⟩, by omega⟩ hl hr hc tl tr tc) hB F N X T' hk hd hu hT fun v h' tk' g F' N' hx => by
    obtain ⟨D, o, e, n, ho, p⟩ := hx
    subst e
    obtain ⟨vs, k, hi, rfl⟩ := p
    rw [feet_due hn hl hr hc] at hi
    cases hi with | cons _ t1 hi => cases hi with | cons _ t2 hi => cases hi; exact h D t1 t2 k h' tk' F' (newOn F N g n ho).1 (newOn F N g n ho).2
theorem use_com {c0 c1 c2 : Int} {R : Addr} {ta tb tc : Tok} {k : Nat} (hc : (-4 < c0 ∧ c0 < 4) ∧ (-4 < c1 ∧ c1 < 4) ∧ (-4 < c2 ∧ c2 < 4)) (hB : Below A₀ base outer h₀) (F : Fr h₀ L s.heap m) (N : News h₀ L s.heap news) (X : (hd.heap_1 w.params).In h₀) (T : Top VW LS mean mg mb h₀) (hk : cs.kind = .function) (hd : dp + 20 < recursionLimit) (hu : un + 8 * 20 < cLine)
    (hR : (R, W.listOf #[.int c0 ta, .int c1 tb, .int c2 tc] k) ∈ news)
    (h : ∀ t h' tk', Fr h₀ L h' m → News h₀ L h' news → Q (.int (comF (pst (runL [c0.natAbs, c1.natAbs, c2.natAbs]))) t) { s with heap := h', toks := tk' }) :
    wpAny (model PG w) (ktrTop dp un gd cn cs L a ccd cl outer) (call (.ref 221) [.ref R]) Q E s :=
  useP (common_cl w mean mg mb c0 c1 c2 hc R ta tb tc) hB F N X T hk hd hu ⟨_, (N _ hR).1, rfl, k, rfl⟩ fun v h' tk' g F' N' hx => by obtain ⟨t, e⟩ := hx; subst e; exact h t h' tk' F' N'
theorem use_meas {n : Nat} {q : Int} {ta tb : Tok} (hn : 2 ≤ n ∧ n < 7) (hq : -1000 < q ∧ q < 1000) (hB : Below A₀ base outer h₀) (F : Fr h₀ L s.heap m) (N : News h₀ L s.heap news) (X : (hd.heap_1 w.params).In h₀) (T : Top VW LS mean mg mb h₀) (hk : cs.kind = .function) (hd : dp + 20 < recursionLimit) (hu : un + 8 * 20 < cLine)
    (h : ∀ t h' tk', Fr h₀ L h' m → News h₀ L h' news → Q (.int (measF n (q.fmod (n : Int)).toNat) t) { s with heap := h', toks := tk' }) :
    wpAny (model PG w) (ktrTop dp un gd cn cs L a ccd cl outer) (call (.ref 226) [.int q ta, .int (n : Int) tb]) Q E s :=
  useP (measure_cl w mean mg mb n hn q hq ta tb) hB F N X T hk hd hu trivial fun v h' tk' g F' N' hx => by obtain ⟨t, e⟩ := hx; subst e; exact h t h' tk' F' N'
theorem use_count {bs : List Bool} {R : Addr} {k : Nat} (hb : bs.length ≤ 100) (hB : Below A₀ base outer h₀) (F : Fr h₀ L s.heap m) (N : News h₀ L s.heap news) (X : (hd.heap_1 w.params).In h₀) (T : Top VW LS mean mg mb h₀) (hk : cs.kind = .function) (hd : dp + 4 < recursionLimit) (hu : un + 8 * 4 < cLine)
    (hR : (R, W.listOf (bs.map Value.bool).toArray k) ∈ news)
    (h : ∀ t h' tk', Fr h₀ L h' m → News h₀ L h' news → Q (.int (cntB bs) t) { s with heap := h', toks := tk' }) :
    wpAny (model PG w) (ktrTop dp un gd cn cs L a ccd cl outer) (call (.ref 112) [.ref R, .bool true]) Q E s :=
  useP (count_cl w mean mg mb bs hb R) hB F N X T hk hd hu ⟨_, (N _ hR).1, rfl, k, rfl⟩ fun v h' tk' g F' N' hx => by obtain ⟨t, e⟩ := hx; subst e; exact h t h' tk' F' N'
end
end Ls1
section Fin3
local macro_rules | `(tactic| walk_at "no such step") => `(tactic| fail "none")
example : True := by w_top off; exact trivial
theorem com_gcd : ∀ a < 4, ∀ b < 4, ∀ c < 4, comF (pst (runL [a, b, c])) = (((a.gcd b).gcd c : Nat) : Int) := by decide +kernel
theorem meas_gcd : ∀ n < 7, ∀ r < n, measF n r = (n : Int) * ((n.gcd r : Nat) : Int) := by decide +kernel
theorem fm_iff {x y n : Int} (hn : 0 < n) : x.fmod n = y.fmod n ↔ ∃ k, x = y + n * k := by
  rw [Int.fmod_eq_emod_of_nonneg _ (Int.le_of_lt hn), Int.fmod_eq_emod_of_nonneg _ (Int.le_of_lt hn)]
  constructor
  · intro h
    refine ⟨x / n - y / n, ?_⟩
    have a := Int.emod_add_mul_ediv x n
    have b := Int.emod_add_mul_ediv y n
    rw [Int.mul_sub]; omega
  · rintro ⟨k, rfl⟩
    exact Int.add_mul_emod_self_left y n k
/-- the first hue may be taken as nought: the other two turn along -/
theorem perm7 {n f : Nat} (hf : f < n) (h : Nat → Nat) : ((List.range n).map fun t => h ((t + n - f) % n)).sum = ((List.range n).map h).sum := by
  obtain ⟨g, rfl⟩ : ∃ g, n = f + g := ⟨n - f, (Nat.add_sub_cancel' (Nat.le_of_lt hf)).symm⟩
  have hg : 0 < g := Nat.pos_of_lt_add_right hf
  have L : ((List.range (f + g)).map fun t => h ((t + (f + g) - f) % (f + g))).sum = ((List.range f).map fun t => h ((t + (f + g) - f) % (f + g))).sum + (((List.range g).map fun x => f + x).map fun t => h ((t + (f + g) - f) % (f + g))).sum := by
    rw [List.range_add, List.map_append, List.sum_append]
  have R : ((List.range (f + g)).map h).sum = ((List.range g).map h).sum + (((List.range f).map fun x => g + x).map h).sum := by
    rw [Nat.add_comm f g, List.range_add, List.map_append, List.sum_append]
  have e1 : ((List.range f).map fun t => h ((t + (f + g) - f) % (f + g))) = (List.range f).map fun t => h (g + t) := List.map_congr_left fun t ht => by
    have := List.mem_range.mp ht
    rw [show t + (f + g) - f = g + t by omega, Nat.mod_eq_of_lt (by omega)]
  have e2 : (((List.range g).map fun x => f + x).map fun t => h ((t + (f + g) - f) % (f + g))) = (List.range g).map h := by
    rw [List.map_map]
    refine List.map_congr_left fun t ht => ?_
    have := List.mem_range.mp ht
    show h ((f + t + (f + g) - f) % (f + g)) = h t
    rw [show f + t + (f + g) - f = t + (f + g) by omega, Nat.add_mod_right, Nat.mod_eq_of_lt (by omega)]
  rw [L, R, e1, e2, List.map_map, Nat.add_comm]
  rfl
theorem join_turn {n f s t : Nat} {c0 c1 c2 : Int} (hn : 0 < n) (hf : f < n) : joinB n f c0 c1 c2 s t = joinB n 0 c0 c1 c2 (((s + n - f) % n : Nat) : Int) (((t + n - f) % n : Nat) : Int) := by
  have hi : (0 : Int) < (n : Int) := by omega
  have tell : ∀ x : Nat, ∃ k : Int, (((x + n - f) % n : Nat) : Int) = (x : Int) - (f : Int) + (n : Int) * k := fun x => by
    refine ⟨1 - (((x + n - f) / n : Nat) : Int), ?_⟩
    have a := Nat.mod_add_div (x + n - f) n
    have b : ((x + n - f : Nat) : Int) = (x : Int) + n - f := by omega
    have d : (((x + n - f) % n : Nat) : Int) + (n : Int) * (((x + n - f) / n : Nat) : Int) = ((x + n - f : Nat) : Int) := by
      rw [← Int.natCast_mul, ← Int.natCast_add, a]
    rw [Int.mul_sub]; omega
  obtain ⟨k1, e1⟩ := tell s
  obtain ⟨k2, e2⟩ := tell t
  rw [e1, e2, Bool.eq_iff_iff]
  unfold joinB
  simp only [decide_eq_true_eq, List.cons.injEq, and_true]
  rw [fm_iff hi, fm_iff hi, fm_iff hi, fm_iff hi, fm_iff hi, fm_iff hi]
  generalize (n : Int) = N at *
  generalize (f : Int) = F at *
  generalize (s : Int) = S at *
  generalize (t : Int) = T at *
  constructor
  · rintro ⟨⟨x, hx⟩, ⟨y, hy⟩, ⟨z, hz⟩⟩
    exact ⟨⟨x - c0 * k2 - c1 * k1, by grind⟩, ⟨y + c1 * k1 - c2 * (k2 - k1), by grind⟩, ⟨z + c2 * (k2 - k1) + c0 * k2, by grind⟩⟩
  · rintro ⟨⟨x, hx⟩, ⟨y, hy⟩, ⟨z, hz⟩⟩
    exact ⟨⟨x + c0 * k2 + c1 * k1, by grind⟩, ⟨y - c1 * k1 + c2 * (k2 - k1), by grind⟩, ⟨z - c2 * (k2 - k1) - c0 * k2, by grind⟩⟩
theorem cnt_sum (bs : List Bool) : cntB bs = (bs.map Bool.toNat).sum := by
  unfold cntB
  induction bs with
  | nil => rfl
  | cons b bs ih => rw [List.countP_cons, ih, List.map_cons, List.sum_cons]; cases b <;> simp <;> omega
theorem sum_flat (l : List Nat) (g : Nat → List Bool) : ((l.flatMap g).map Bool.toNat).sum = (l.map fun x => ((g x).map Bool.toNat).sum).sum := by
  induction l with
  | nil => rfl
  | cons x l ih => rw [List.flatMap_cons, List.map_append, List.sum_append, ih, List.map_cons, List.sum_cons]
theorem all_turn {n f : Nat} {c0 c1 c2 : Int} (hf : f < n) : cntB (allB n f c0 c1 c2 n) = cntB (allB n 0 c0 c1 c2 n) := by
  have e : ∀ (F : Int) (s : Nat), ((rowB n F c0 c1 c2 s n).map Bool.toNat).sum = ((List.range n).map fun (t : Nat) => (joinB n F c0 c1 c2 (s : Int) (t : Int)).toNat).sum := fun F s => by
    unfold rowB; rw [List.map_map]; rfl
  rw [cnt_sum, cnt_sum]
  unfold allB
  rw [sum_flat, sum_flat]
  rw [← perm7 hf fun s => ((rowB n 0 c0 c1 c2 (s : Int) n).map Bool.toNat).sum]
  refine congrArg List.sum (List.map_congr_left fun s _ => ?_)
  rw [e, e, ← perm7 hf fun t => (joinB n 0 c0 c1 c2 (((s + n - f) % n : Nat) : Int) (t : Int)).toNat]
  refine congrArg List.sum (List.map_congr_left fun t _ => ?_)
  rw [join_turn (Nat.lt_of_le_of_lt (Nat.zero_le _) hf) hf]
/-- the right side, of numbers -/
noncomputable def gB (a b c : Nat) : Nat := (((a : Int) - 3).natAbs.gcd ((b : Int) - 3).natAbs).gcd ((c : Int) - 3).natAbs
noncomputable def rhsB (n a b c : Nat) : Int :=
  (n : Int) * ((n.gcd (((gB a b c : Nat) : Int).fmod n).toNat : Nat) : Int) *
    ((n : Int) * ((n.gcd ((((((a : Int) - 3) * ((b : Int) - 3) + ((b : Int) - 3) * ((c : Int) - 3) + ((c : Int) - 3) * ((a : Int) - 3)).fdiv (if 1 > ((gB a b c : Nat) : Int) then 1 else ((gB a b c : Nat) : Int))).fmod n).toNat) : Nat) : Int))
noncomputable def lawN (n a b c : Nat) : Bool := (cntB (allB n 0 ((a : Int) - 3) ((b : Int) - 3) ((c : Int) - 3) n) : Int) * ((n : Int) * (n : Int)) == rhsB n a b c
theorem law_2 : ((List.range 7).all fun a => (List.range 7).all fun b => (List.range 7).all fun c => lawN 2 a b c) = true := by decide +kernel
theorem law_3 : ((List.range 7).all fun a => (List.range 7).all fun b => (List.range 7).all fun c => lawN 3 a b c) = true := by decide +kernel
theorem law_4 : ((List.range 7).all fun a => (List.range 7).all fun b => (List.range 7).all fun c => lawN 4 a b c) = true := by decide +kernel
theorem law_5 : ((List.range 7).all fun a => (List.range 7).all fun b => (List.range 7).all fun c => lawN 5 a b c) = true := by decide +kernel
theorem law_6 : ((List.range 7).all fun a => (List.range 7).all fun b => (List.range 7).all fun c => lawN 6 a b c) = true := by decide +kernel
theorem lawN_all {n a b c : Nat} (hn : 2 ≤ n ∧ n < 7) (ha : a < 7) (hb : b < 7) (hc : c < 7) : lawN n a b c = true := by
  have use : ∀ {k : Nat}, ((List.range 7).all fun a => (List.range 7).all fun b => (List.range 7).all fun c => lawN k a b c) = true → lawN k a b c = true := fun h =>
    List.all_eq_true.mp (List.all_eq_true.mp (List.all_eq_true.mp h a (List.mem_range.mpr ha)) b (List.mem_range.mpr hb)) c (List.mem_range.mpr hc)
  have : n = 2 ∨ n = 3 ∨ n = 4 ∨ n = 5 ∨ n = 6 := by omega
  rcases this with rfl | rfl | rfl | rfl | rfl
  · exact use law_2
  · exact use law_3
  · exact use law_4
  · exact use law_5
  · exact use law_6
theorem law_nat {n f a b c : Nat} (hn : 2 ≤ n ∧ n < 7) (hf : f < n) (ha : a < 7) (hb : b < 7) (hc : c < 7) : (cntB (allB n f ((a : Int) - 3) ((b : Int) - 3) ((c : Int) - 3) n) : Int) * ((n : Int) * (n : Int)) = rhsB n a b c := by
  rw [all_turn hf]
  exact eq_of_beq (lawN_all hn ha hb hc)
theorem fmod_nat (x : Int) {n : Nat} (h : 0 < n) : (x.fmod (n : Int)).toNat < n := by
  have hi : (0 : Int) < (n : Int) := Int.ofNat_lt.mpr h
  have := fmod_lo x hi; have := fmod_hi x hi; omega
theorem tell3 {c : Int} (h : -4 < c ∧ c < 4) : ∃ a : Nat, c = (a : Int) - 3 ∧ a < 7 ∧ c.natAbs < 4 := ⟨(c + 3).toNat, by omega, by omega, by omega⟩
theorem law_true {n : Nat} {f c0 c1 c2 g : Int} (hn : 2 ≤ n ∧ n < 7) (hf : 0 ≤ f ∧ f < (n : Int)) (hc : (-4 < c0 ∧ c0 < 4) ∧ (-4 < c1 ∧ c1 < 4) ∧ (-4 < c2 ∧ c2 < 4)) (hg : comF (pst (runL [c0.natAbs, c1.natAbs, c2.natAbs])) = g) :
    (cntB (allB n f c0 c1 c2 n) : Int) * ((n : Int) * (n : Int)) = measF n (g.fmod (n : Int)).toNat * measF n (((c0 * c1 + c1 * c2 + c2 * c0).fdiv (if 1 > g then 1 else g)).fmod (n : Int)).toNat := by
  obtain ⟨f, rfl⟩ := Int.eq_ofNat_of_zero_le hf.1
  obtain ⟨a, rfl, ha, ha'⟩ := tell3 hc.1
  obtain ⟨b, rfl, hb, hb'⟩ := tell3 hc.2.1
  obtain ⟨c, rfl, hc', hc''⟩ := tell3 hc.2.2
  rw [com_gcd _ ha' _ hb' _ hc''] at hg
  subst hg
  have lt : ∀ x : Int, (x.fmod (n : Int)).toNat < n := fun x => fmod_nat x (Nat.lt_of_lt_of_le (by decide) hn.1)
  rw [meas_gcd n hn.2 _ (lt _), meas_gcd n hn.2 _ (lt _), law_nat hn (Int.ofNat_lt.mp hf.2) ha hb hc']
  rfl
end Fin3
section La5
example : True := by w_top off; exact trivial
local macro_rules | `(tactic| walk_at "call ref") => `(tactic| (k_here; (with_reducible first | show wpAny _ _ (call (Value.ref 202) _ _) _ _ _ | show wpAny _ _ (call (Value.ref 221) _ _) _ _ _ | show wpAny _ _ (call (Value.ref 226) _ _) _ _ _ | show wpAny _ _ (call (Value.ref 112) _ _) _ _ _); refine stopped ?_))
local macro_rules | `(tactic| k_room) => `(tactic| ktr_room)
local macro_rules | `(tactic| walk_at "exec For Name Call cons nil") => `(tactic| (k_here; refine stopped ?_))
local macro_rules | `(tactic| k_all) => `(tactic| exact (by assumption))
local macro_rules | `(tactic| walk_at "call ref") => `(tactic| (k_here; (with_reducible show wpAny _ _ (call (Value.ref 209) _ _) _ _ _); k_dflt (refine' use_feet ?hn ?hl ?hr ?hc ?kB ?kF ?kN ?kX ?kT ?kk ?kd ?ku ?hT ?_; (case hn => assumption); (case hl => assumption); (case hr => assumption); (case hc => first | assumption | exact And.left (by assumption) | exact And.left (And.right (by assumption)) | exact And.right (And.right (by assumption))); (case kB => k_asm); (case kF => k_asm); (case kN => k_asm); (case kX => k_asm); (case kT => k_asm); (case kk => first | exact rfl | assumption); (case kd => decide); (case ku => decide); (case hT => exact tab_of (by assumption) (by k_asm) (fun p hp => by repeat (first | exact hp | exact List.mem_append_right _ hp | refine List.mem_cons_of_mem _ ?_)))); intro D' t1' t2' k' h' tk' F' N' ne'; (try simp only [AllNe] at ne'); (try dsimp only); walk_say "CUT use_feet"))
local macro_rules | `(tactic| walk_at "UnrEnd") => `(tactic| ((with_reducible show UnrEnd _ _ _ _ _ (fun _ _ => _ ∧ _) _); refine stopped ?_))
local macro_rules | `(tactic| walk_at "LeaveK") => `(tactic| (k_dflt (refine' leaveK_ ?k1 ?k2 ?_; (case k1 => k_asm); (case k2 => k_asm); k_whole); intro kF kN; (try (dsimp only [InitBack]; refine ⟨rfl, ?_⟩)); (try dsimp only)))
theorem unr2 {h₀ : Heap} {L I : Addr} {it : Obj} {x y : Addr × Obj} {rest : (Str → Option Value) → List (Addr × Obj) → Prop} {s₁ : Shared} {h' : Heap} {tk : Nat} {m' : Str → Option Value} {post : List (Addr × Obj)} (F : Fr h₀ L h' m') (N : News h₀ L h' (x :: y :: (I, it) :: post)) (hx : x.1 ≠ I) (hy : y.1 ≠ I) (hp : ∀ p ∈ post, p.1 ≠ I) (r : rest m' (x :: y :: post)) : UnrEnd h₀ L s₁ I it rest { s₁ with heap := h', toks := tk } :=
  UnrEnd.intro F N (x :: y :: post) (fun p hp => by
    rcases List.mem_cons.mp hp with rfl | hp
    · exact .tail _ (.tail _ (.head _))
    · rcases List.mem_cons.mp hp with rfl | hp
      · exact .head _
      · rcases List.mem_cons.mp hp with rfl | hp
        · exact .tail _ (.head _)
        · exact .tail _ (.tail _ (.tail _ hp))) (fun p q => by
    rcases List.mem_cons.mp q with rfl | q
    · exact hx
    · rcases List.mem_cons.mp q with rfl | q
      · exact hy
      · exact hp p q) r
theorem offc {I : Addr} {x : Addr × Obj} {r : List (Addr × Obj)} (h : x.1 ≠ I) (k : ∀ p ∈ r, p.1 ≠ I) : ∀ p ∈ x :: r, p.1 ≠ I := fun p q => by
  rcases List.mem_cons.mp q with rfl | q
  · exact h
  · exact k p q
/-- two addresses differ; hidden from omega -/
noncomputable def HN (a b : Addr) : Prop := @Ne Nat a b
theorem HN.to {a b : Addr} (h : HN a b) : @Ne Nat a b := h
theorem HN.sym {a b : Addr} (h : HN a b) : @Ne Nat b a := fun e => h e.symm
local macro_rules | `(tactic| k_ne) => `(tactic| (refine neN ?_; (try dsimp only); first | exact HN.to (by with_reducible assumption) | exact HN.sym (by with_reducible assumption) | omega))
section
variable {prog : Program} {w : World} {A : Around} {E : Value → Shared → Prop} {s : Shared} {h₀ : Heap} {L a b : Addr} {news : List (Addr × Obj)} {Q : Value → Shared → Prop}
theorem read2 {D : Addr} {x y : Int} {t u : Tok} {k : Nat} (N : News h₀ L s.heap news) (m : (D, W.listOf #[.int x t, .int y u] k) ∈ news) : ∃ as, Reads s.heap (.ref D) (.list [.int x, .int y]) as :=
  ⟨_, reads_list_at (N.get m) rfl rfl (ReadsAll.cons (Reads.int _ _) (ReadsAll.cons (Reads.int _ _) ReadsAll.nil))⟩
theorem read3 {D a0 a1 a2 : Addr} {x0 y0 x1 y1 x2 y2 : Int} {k : Nat} (N : News h₀ L s.heap news) (m : (D, W.listOf #[.ref a0, .ref a1, .ref a2] k) ∈ news)
    (h0 : ∃ as, Reads s.heap (.ref a0) (.list [.int x0, .int y0]) as) (h1 : ∃ as, Reads s.heap (.ref a1) (.list [.int x1, .int y1]) as) (h2 : ∃ as, Reads s.heap (.ref a2) (.list [.int x2, .int y2]) as) : ∃ as, Reads s.heap (.ref D) (.list [.list [.int x0, .int y0], .list [.int x1, .int y1], .list [.int x2, .int y2]]) as := by
  obtain ⟨_, r0⟩ := h0
  obtain ⟨_, r1⟩ := h1
  obtain ⟨_, r2⟩ := h2
  exact ⟨_, reads_list_at (N.get m) rfl rfl (ReadsAll.cons r0 (ReadsAll.cons r1 (ReadsAll.cons r2 ReadsAll.nil)))⟩
/-- two lists of three pairs of ints, the same ints: not unequal -/
theorem ne_rows {x0 y0 x1 y1 x2 y2 : Int} (ra : ∃ as, Reads s.heap (.ref a) (.list [.list [.int x0, .int y0], .list [.int x1, .int y1], .list [.int x2, .int y2]]) as) (rb : ∃ as, Reads s.heap (.ref b) (.list [.list [.int x0, .int y0], .list [.int x1, .int y1], .list [.int x2, .int y2]]) as) (hu : A.units + 64 < cLine) (h : Q (.bool false) s) :
    wpAny (model prog w) A (compareOp .NotEq (.ref a) (.ref b)) Q E s := by
  obtain ⟨_, ra⟩ := ra
  obtain ⟨_, rb⟩ := rb
  refine ne_dataH ra rb (by simp [SeqAt.shaped, PyData.canLay0, PyData.canLayAll0, PyData.depth, PyData.depthAll]) (by simp [SeqAt.shaped, PyData.canLay0, PyData.canLayAll0, PyData.depth, PyData.depthAll]) hu ?_
  simpa [PyData.eqv, PyData.eqvAll] using h
end
local macro_rules | `(tactic| walk_at "compareOp NotEq ref ref") => `(tactic| (k_here; refine stopped ?_))
theorem subK {α : Type} {x : α} {a b : List α} (h : ∀ p ∈ a, p ∈ b) : ∀ p ∈ x :: a, p ∈ x :: b := fun p q => by
  rcases List.mem_cons.mp q with rfl | q
  · exact .head _
  · exact .tail _ (h p q)
theorem subS {α : Type} {x : α} {a b : List α} (h : ∀ p ∈ a, p ∈ b) : ∀ p ∈ a, p ∈ x :: b := fun p q => .tail _ (h p q)
local macro_rules | `(tactic| walk_at "compareOp Eq ref ref") => `(tactic| (k_here; refine stopped ?_))
local macro_rules | `(tactic| walk_at "CompEnd") => `(tactic| ((with_reducible show LCg.CompEnd _ _ _ _ _ _ _ _ _ _ (LCg.SrcAt _ _ #[Value.ref _, Value.ref _, Value.ref _]) _ _ _); refine stopped ?_))
section
variable {prog : Program} {w : World} {A : Around} {E : Value → Shared → Prop} {s : Shared} {h₀ : Heap} {L a : Addr} {news : List (Addr × Obj)} {u : Tok} {value slice : PySem.Expr} {Q : Value → Shared → Prop}
theorem sub_lk {v : Value} {vs : List Value} {n : Nat} {k : Int} (N : News h₀ L s.heap news) (hm : (a, W.listOf vs.toArray n) ∈ news) (h0 : 0 ≤ k) (hk : k < 2 ^ 63) (hx : vs[k.toNat]? = some v) (h : Q v s)
    (hs : subscripted slice false (.ref a) (.int k u) = operate [.ref a, .int k u] (getItem (.ref a) (.int k u)) := by with_unfolding_all rfl) :
    wpAny (model prog w) A (subscriptTail value slice (.ref a) (.int k u)) Q E s := by
  have hL : s.heap.IsList a vs.toArray := ⟨_, (N _ hm).1, rfl, n, rfl⟩
  exact tail_any hL.typeIs slot_list_getitem.lookup (wpAny_getItem_list hL h0 hk (by simpa using hx) h) hs
theorem sub_lr {v : Value} {n : Nat} {k : Int} {a0 a1 a2 : Addr} (N : News h₀ L s.heap news) (hm : (a, W.listOf #[.ref a0, .ref a1, .ref a2] n) ∈ news) (h0 : 0 ≤ k) (hk : k < 2 ^ 63) (hx : [Value.ref a0, .ref a1, .ref a2][k.toNat]? = some v) (h : Q v s)
    (hs : subscripted slice false (.ref a) (.int k u) = operate [.ref a, .int k u] (getItem (.ref a) (.int k u)) := by with_unfolding_all rfl) :
    wpAny (model prog w) A (subscriptTail value slice (.ref a) (.int k u)) Q E s := sub_lk N hm h0 hk hx h hs
end
local macro_rules | `(tactic| walk_at "subscriptTail Subscript Constant ref int") => `(tactic| (k_here; (with_reducible show wpAny _ _ (subscriptTail _ _ (Value.ref _) (Value.int _ _)) _ _ _); k_dflt (refine' sub_lk ?N ?m ?h0 ?hk ?hx ?_; (case N => k_asm); (case m => k_mem); (case h0 => decide); (case hk => decide); (case hx => rfl); k_whole)))
local macro_rules | `(tactic| walk_at "subscriptTail Name Constant ref int") => `(tactic| (k_here; (with_reducible show wpAny _ _ (subscriptTail _ _ (Value.ref _) (Value.int _ _)) _ _ _); k_dflt (refine' sub_lr ?N ?m ?h0 ?hk ?hx ?_; (case N => k_asm); (case m => k_mem); (case h0 => decide); (case hk => decide); (case hx => rfl); k_whole)))
theorem eq_three {prog : Program} {w : World} {A : Around} {E : Value → Shared → Prop} {s : Shared} {h₀ : Heap} {L a b : Addr} {news : List (Addr × Obj)} {Q : Value → Shared → Prop} {p0 p1 p2 q0 q1 q2 : Int} {t0 t1 t2 u0 u1 u2 : Tok} {k : Nat} (r : Bool) (N : News h₀ L s.heap ((b, W.listOf #[.int p0 t0, .int p1 t1, .int p2 t2] k) :: (a, LCg.lst [.int q0 u0, .int q1 u1, .int q2 u2]) :: news)) (hu : A.units + 64 < cLine) (hr : decide ([q0, q1, q2] = [p0, p1, p2]) = r) (h : Q (.bool r) s) :
    wpAny (model prog w) A (compareOp .Eq (.ref a) (.ref b)) Q E s :=
  ke_eq_ints (xs := [.int q0 u0, .int q1 u1, .int q2 u2]) (ys := [.int p0 t0, .int p1 t1, .int p2 t2]) ⟨_, (N _ (.tail _ (.head _))).1, rfl, _, rfl⟩ ⟨_, (N _ (.head _)).1, rfl, _, rfl⟩ (.cons _ _ (.cons _ _ (.cons _ _ .nil))) (.cons _ _ (.cons _ _ (.cons _ _ .nil))) hu (hr ▸ h)
theorem rowB_len (n f c0 c1 c2 s : Int) (k : Nat) : (rowB n f c0 c1 c2 s k).length = k := by unfold rowB; simp
theorem allB_len (n : Nat) (f c0 c1 c2 : Int) (k : Nat) : (allB n f c0 c1 c2 k).length = k * n := by
  induction k with
  | zero => simp [allB]
  | succ k ih => rw [allB_succ, List.length_append, ih, rowB_len, Nat.add_mul, Nat.one_mul]
theorem small_size9 {vs : List Value} (h : vs.length ≤ 100) : vs.toArray.size ≤ sizeLine := by
  rw [List.size_toArray]; exact Nat.le_trans h (by decide)
theorem small_size8 {vs : List Value} (h : vs.length ≤ 100) : vs.toArray.size < sizeLine := by
  rw [List.size_toArray]; exact Nat.lt_of_le_of_lt h (by decide)
local macro_rules | `(tactic| size_fits) => `(tactic| first | exact small_size9 (by assumption) | exact small_size8 (by assumption))
/-- the place loop: the left and the right arch's hue, the column's number, the two feet -/
noncomputable def lvF (f i j : Int) : Nat → Int
  | 0 => j
  | 1 => f
  | _ => i
noncomputable def rvF (f i j : Int) : Nat → Int
  | 0 => f
  | 1 => i
  | _ => j
noncomputable def dLF (n f i j c0 c1 c2 : Int) (p : Nat) : Int := (lvF f i j p + rvF c0 c1 c2 p * (rvF f i j p - lvF f i j p)).fmod n
noncomputable def dRF (n f i j c0 c1 c2 : Int) (p : Nat) : Int := (rvF f i j p + rvF c0 c1 c2 p * (rvF f i j p - lvF f i j p)).fmod n
/-- a pair of feet stands -/
noncomputable def FootAt (n f i j c0 c1 c2 : Int) (p : Nat) (els : List (Addr × Obj)) (v : Value) : Prop := ∃ A t u k, v = .ref A ∧ (A, W.listOf #[.int (dLF n f i j c0 c1 c2 p) t, .int (dRF n f i j c0 c1 c2 p) u] k) ∈ els
theorem FootAt.more {n f i j c0 c1 c2 : Int} {p : Nat} {els els' : List (Addr × Obj)} {v : Value} (x : FootAt n f i j c0 c1 c2 p els v) (h : ∀ q ∈ els, q ∈ els') : FootAt n f i j c0 c1 c2 p els' v := let ⟨A, t, u, k, e, m⟩ := x; ⟨A, t, u, k, e, h _ m⟩
noncomputable def Feet (n f i j c0 c1 c2 : Int) (p : Nat) (ra : List Value) (els : List (Addr × Obj)) : Prop := ra.length = p ∧ ∀ q, q < p → ∃ v, ra[q]? = some v ∧ FootAt n f i j c0 c1 c2 q els v
theorem Feet.snoc {n f i j c0 c1 c2 : Int} {p : Nat} {ra : List Value} {els els' : List (Addr × Obj)} {v : Value} (x : Feet n f i j c0 c1 c2 p ra els) (h : ∀ q ∈ els, q ∈ els') (y : FootAt n f i j c0 c1 c2 p els' v) : Feet n f i j c0 c1 c2 (p + 1) (ra ++ [v]) els' := by
  refine ⟨by rw [List.length_append, x.1]; rfl, fun q hq => ?_⟩
  by_cases e : q = p
  · subst e
    refine ⟨v, ?_, y⟩
    rw [List.getElem?_append_right (by rw [x.1]; exact Nat.le_refl _), x.1, Nat.sub_self]; rfl
  · have hq' : q < p := Nat.lt_of_le_of_ne (Nat.le_of_lt_succ hq) e
    obtain ⟨u, hu, z⟩ := x.2 q hq'
    exact ⟨u, by rw [List.getElem?_append_left (by rw [x.1]; exact hq')]; exact hu, z.more h⟩
theorem Feet.three {n f i j c0 c1 c2 : Int} {ra : List Value} {els : List (Addr × Obj)} (x : Feet n f i j c0 c1 c2 3 ra els) : ∃ A0 A1 A2 t0 u0 t1 u1 t2 u2 k0 k1 k2, ra = [.ref A0, .ref A1, .ref A2] ∧ (A0, W.listOf #[.int (dLF n f i j c0 c1 c2 0) t0, .int (dRF n f i j c0 c1 c2 0) u0] k0) ∈ els ∧ (A1, W.listOf #[.int (dLF n f i j c0 c1 c2 1) t1, .int (dRF n f i j c0 c1 c2 1) u1] k1) ∈ els ∧ (A2, W.listOf #[.int (dLF n f i j c0 c1 c2 2) t2, .int (dRF n f i j c0 c1 c2 2) u2] k2) ∈ els := by
  obtain ⟨hl, hx⟩ := x
  obtain ⟨v0, e0, A0, t0, u0, k0, rfl, m0⟩ := hx 0 (by decide)
  obtain ⟨v1, e1, A1, t1, u1, k1, rfl, m1⟩ := hx 1 (by decide)
  obtain ⟨v2, e2, A2, t2, u2, k2, rfl, m2⟩ := hx 2 (by decide)
  refine ⟨A0, A1, A2, t0, u0, t1, u1, t2, u2, k0, k1, k2, ?_, m0, m1, m2⟩
  obtain ⟨a, b, c, rfl⟩ : ∃ a b c, ra = [a, b, c] := by
    cases ra with
    | nil => cases hl
    | cons a r => cases r with
      | nil => cases hl
      | cons b r => cases r with
        | nil => cases hl
        | cons c r => cases r with
          | nil => exact ⟨a, b, c, rfl⟩
          | cons d r => simp only [List.length_cons] at hl; omega
  rw [show a = _ from Option.some.inj e0, show b = _ from Option.some.inj e1, show c = _ from Option.some.inj e2]
theorem allLt_lt {d : Addr} {l : List (Addr × Obj)} (h : AllLt d l) : ∀ p ∈ l, @LT.lt Nat _ p.1 d := by
  induction l with
  | nil => intro p hp; cases hp
  | cons q r ih =>
    intro p hp
    rcases List.mem_cons.mp hp with rfl | hp
    · exact h.1
    · exact ih h.2 p hp
theorem News.sub {h₀ h : Heap} {L : Addr} {a b : List (Addr × Obj)} (N : News h₀ L h b) (s : ∀ p ∈ a, p ∈ b) : News h₀ L h a := fun p hp => N p (s p hp)
theorem place_end {h₀ : Heap} {L K : Addr} {it : Obj} {b a d e r1 r2 r3 r4 r5 : Addr × Obj} {els tl : List (Addr × Obj)} {rest : (Str → Option Value) → List (Addr × Obj) → Prop} {s₁ : Shared} {h' : Heap} {tk : Nat} {m' : Str → Option Value} (F : Fr h₀ L h' m') (N : News h₀ L h' (b :: a :: (K, it) :: d :: e :: r1 :: r2 :: r3 :: r4 :: r5 :: (els ++ tl)))
    (off : ∀ p ∈ d :: e :: r1 :: r2 :: r3 :: r4 :: r5 :: b :: a :: (els ++ tl), p.1 ≠ K) (r : rest m' (d :: e :: r1 :: r2 :: r3 :: r4 :: r5 :: ((b :: a :: els) ++ tl))) : UnrEnd h₀ L s₁ K it rest { s₁ with heap := h', toks := tk } :=
  UnrEnd.intro F N (d :: e :: r1 :: r2 :: r3 :: r4 :: r5 :: ((b :: a :: els) ++ tl)) (fun p hp => by
    simp only [List.cons_append, List.mem_cons] at hp ⊢
    rcases hp with h | h | h | h | h | h | h | h | h | h | h <;> simp [h]) off r
theorem drawn5 (ns : List Int) : ∃ a0 a1 a2 a3 a4 : Int, ns.take 5 ++ [1, 4, 4, 4, 0].drop (ns.take 5).length = [a0, a1, a2, a3, a4] := by
  match ns with
  | [] => exact ⟨_, _, _, _, _, rfl⟩
  | [a] => exact ⟨_, _, _, _, _, rfl⟩
  | [a, b] => exact ⟨_, _, _, _, _, rfl⟩
  | [a, b, c] => exact ⟨_, _, _, _, _, rfl⟩
  | [a, b, c, d] => exact ⟨_, _, _, _, _, rfl⟩
  | a :: b :: c :: d :: e :: r => exact ⟨a, b, c, d, e, by simp⟩
theorem ints5 {us : List Value} {a0 a1 a2 a3 a4 : Int} (h : IntsAre us [a0, a1, a2, a3, a4]) : ∃ t0 t1 t2 t3 t4, us = [.int a0 t0, .int a1 t1, .int a2 t2, .int a3 t3, .int a4 t4] := by
  cases h with | cons _ t0 h => cases h with | cons _ t1 h => cases h with | cons _ t2 h => cases h with | cons _ t3 h => cases h with | cons _ t4 h => cases h; exact ⟨_, _, _, _, _, rfl⟩
noncomputable def LawPost (s : Shared) (fl : Flow) (s' : Shared) : Prop := fl = .ret (.bool true) ∧ ∃ h tk L m, s' = { s with heap := h, toks := tk } ∧ Fr s.heap L h m
theorem mid {M : Model} {A : Around} {t : Sem Flow} {P Q : Flow → Shared → Prop} {E : Value → Shared → Prop} {s : Shared} (h : wpAny M A t P (fun _ _ => False) s) (hp : ∀ fl s', P fl s' → Q fl s') : wpAny M A t Q E s :=
  wpAny_mono h hp fun _ _ e => e.elim
noncomputable def Hid (P : Prop) : Prop := P
theorem news1 {h₀ h : Heap} {L : Addr} {p : Addr × Obj} {r : List (Addr × Obj)} (N : News h₀ L h (p :: r)) : News h₀ L h [p] := fun q hq => N q (by cases hq with | head => exact .head _ | tail _ h => cases h)
theorem com_rng_all : ∀ a < 4, ∀ b < 4, ∀ c < 4, 0 ≤ comF (pst (runL [a, b, c])) ∧ comF (pst (runL [a, b, c])) ≤ 3 := by decide +kernel
theorem com_rng {a b c : Nat} (ha : a < 4) (hb : b < 4) (hc : c < 4) : 0 ≤ comF (pst (runL [a, b, c])) ∧ comF (pst (runL [a, b, c])) ≤ 3 := com_rng_all a ha b hb c hc
theorem meas_rng_all : ∀ n < 7, ∀ r < n, 0 ≤ measF n r ∧ measF n r ≤ 36 := by decide +kernel
theorem pairs_all : ∀ a < 7, ∀ b < 7, ∀ c < 7, ∀ g < 4, -1000 < (((((a : Nat) : Int) - 3) * (((b : Nat) : Int) - 3) + (((b : Nat) : Int) - 3) * (((c : Nat) : Int) - 3) + (((c : Nat) : Int) - 3) * (((a : Nat) : Int) - 3)).fdiv (if 1 > ((g : Nat) : Int) then 1 else (g : Int))) ∧ (((((a : Nat) : Int) - 3) * (((b : Nat) : Int) - 3) + (((b : Nat) : Int) - 3) * (((c : Nat) : Int) - 3) + (((c : Nat) : Int) - 3) * (((a : Nat) : Int) - 3)).fdiv (if 1 > ((g : Nat) : Int) then 1 else (g : Int))) < 1000 := by decide +kernel
theorem pairs_rng {a b c g : Int} (ha : -4 < a ∧ a < 4) (hb : -4 < b ∧ b < 4) (hc : -4 < c ∧ c < 4) (hg : 0 ≤ g ∧ g ≤ 3) : -1000 < (a * b + b * c + c * a).fdiv (if 1 > g then 1 else g) ∧ (a * b + b * c + c * a).fdiv (if 1 > g then 1 else g) < 1000 := by
  obtain ⟨a, rfl, ha', _⟩ := tell3 ha
  obtain ⟨b, rfl, hb', _⟩ := tell3 hb
  obtain ⟨c, rfl, hc', _⟩ := tell3 hc
  obtain ⟨g, rfl⟩ := Int.eq_ofNat_of_zero_le hg.1
  exact pairs_all a ha' b hb' c hc' g (Nat.lt_succ_of_le (Int.ofNat_le.mp hg.2))
theorem law_holds : PySem.Challenge.rw_sw0067_01.Holds := by
  refine hdl _ _ rfl rfl rfl ?_
  k_fill
  intro w s0 s1 mg mb G Y fa o pm cd doc dV kV ho hdt hcd hD hmg hg args vals as hpre hlay hrd hwl hlo
  have KX := kIn_of Y
  have X := (Ground.X G).1
  have V := (Ground.X G).2
  refine Ground.open G ?_
  intro T B D TE TW
  refine guard_noD D (by decide +kernel) ?_
  clear D
  obtain ⟨_, _, M⟩ := bmod_of_top T
  have TA := at_of_top T
  obtain ⟨_, _, he, B0⟩ := based_of_top T rfl hmg ho hdt
  have he' : cd = _ := he
  subst he'
  clear he hmg
  wrow_args hpre hlay hrd hwl hlo
  all_goals (
    first | refine callC_kw (enter_call ?_) | refine enter_call ?_ | refine callC_kw (enter_callW ?_) | refine enter_callW ?_ | w_how
    w_top off
    try refine codeAny_mono ?_ (fun _ _ g => GoodW.toG g)
    have K0 := below_caller (Top.heap T)
    w_call any ho hdt hcd hD T F
    clear hdt TA
    k_drop
    skip)
  all_goals try k_fold
  rename_i w9 w8 w7 w6 ns hs hlay0 hL1 hr1 hl2 w4 w3 R vs w0 hL ra w1 hI0 hI hr hcond1 hcond h1 N0
  refine mid (P := LawPost s1) ?h1 ?h2
  case h2 => 
    rintro _ _ ⟨rfl, h, tk, L', m', rfl, F'⟩
    dsimp only
    wrow_close
  clear hr hI0 w1 ra hl2 hr1 hlay0 hs hcd M TW TE B V X hg ho Y G hD hcond w0 w3 w4 w8 w9
  change Top VW LS (ExcName.means s0.heap) mg mb s1.heap at T
  change Below callerA s1.heap [] s1.heap at K0
  k_fold
  iterate 44 walk1
  rename_i F1 N1 hI1 hC1 hL1 l1
  have hz : (List.take 5 ns).length ≤ sizeLine := by rw [hC1]; exact Nat.le_trans (Nat.min_le_left _ _) (by decide)
  k_dflt (refine sliceT F1 N1 (by kmk_list) (by kmk_part) (by kmk_part) (kmk_from (.cons _ _ (.cons _ _ (.cons _ _ (.cons _ _ (.cons _ _ .nil))))) (Int.natCast_nonneg _)) ?_ (by with_unfolding_all rfl) (by show 5 ≤ _; decide))
  intro D2 ws2 h2 F2 N2 l2 hI2
  rw [Int.toNat_natCast] at hI2
  walk1
  rename_i F3 N3 hI3 l3
  replace N3 := news1 N3
  obtain ⟨a0, a1, a2, a3, a4, ed⟩ := drawn5 ns
  rw [ed] at hI3
  obtain ⟨t0, t1, t2, t3, t4, rfl⟩ := ints5 hI3
  clear hI1 hC1 hL1 l1 hz hI2 hI3 l3
  (try clear l2)
  iterate 14 walk1
  have hA := fmod_lo a0 (show (0 : Int) < 5 by decide)
  have hA' := fmod_hi a0 (show (0 : Int) < 5 by decide)
  obtain ⟨n, hn, en⟩ : ∃ n : Nat, (2 ≤ n ∧ n < 7) ∧ 2 + ([a0, a1, a2, a3, a4].getD (Int.toNat 0) 0).fmod 5 = (n : Int) := ⟨(2 + a0.fmod 5).toNat, by omega, by show 2 + a0.fmod 5 = _; omega⟩
  rw [en]
  clear hA hA' en ed
  have hc1 := And.intro (fmod_lo a1 (show (0 : Int) < 7 by decide)) (fmod_hi a1 (show (0 : Int) < 7 by decide))
  have hc2 := And.intro (fmod_lo a2 (show (0 : Int) < 7 by decide)) (fmod_hi a2 (show (0 : Int) < 7 by decide))
  have hc3 := And.intro (fmod_lo a3 (show (0 : Int) < 7 by decide)) (fmod_hi a3 (show (0 : Int) < 7 by decide))
  have hn1 : (0 : Int) < (n : Int) := by omega
  have hn0 : (n : Int) ≠ 0 := by omega
  have hf := And.intro (fmod_lo a4 hn1) (fmod_hi a4 hn1)
  k_steps
  rename_i tkA DA wsA hA hIA hCA hLA l1A lA hB l1B DB wsB hC DC hD hE tB hF DD hG l1D g I12 oI12 C12 oC12 DE12 m12 hq12 tk12 E12 hC12 ne12 hv12 hx12 off12 I11 oI11 C11 oC11 DE11 m11 hq11 tk11 E11 hC11 ne11 hv11 hx11 off11 I10 oI10 C10 oC10 DE10 m10 hq10 tk10 E10 hC10 ne10 hv10 hx10 off10 D3 hh3 tk3 o3 t3' h4 F4 N4
  clear hIA hCA hLA l1A l1B l1D o3 hC12 ne12 hv12 hx12 off12 E12 m12 hC11 ne11 hv11 hx11 off11 E11 m11 hC10 ne10 hv10 hx10 off10 E10 m10 hL hI hL1 hcond1
  unfold Stopped
  replace N4 := news1 N4
  obtain ⟨tn, tf, m0, F4⟩ : ∃ (tn tf : Tok) (m0 : Str → Option Value), Fr s1.heap s1.heap.objs.size h4 (fun y => if y = Str.ofString "first" then some (.int (a4.fmod (n : Int)) tf) else if y = Str.ofString "columns" then some (.ref D3) else if y = Str.ofString "size" then some (.int (n : Int) tn) else m0 y) := ⟨_, _, _, F4⟩
  k_dflt (refine use_mir hn K0 F4 N4 KX T (by rfl) (by decide) (by decide) ?_)
  intro T0 tl h5 tk5 F5 N5 hTab
  k_steps
  rename_i h6 l6 h6' ll6 h7 F7 N7
  unfold Stopped
  have hJt : ∀ p ∈ tl, @LT.lt Nat _ p.1 l6 := fun p hp => ll6 p (List.mem_append_left _ hp)
  have hJc : @LT.lt Nat _ D3 l6 := ll6 _ (List.mem_append_right _ (.head _))
  clear ll6
  obtain ⟨c0, c1, c2, u0, u1, u2, kc, hc, N8⟩ : ∃ (c0 c1 c2 : Int) (u0 u1 u2 : Tok) (kc : Nat), ((-4 < c0 ∧ c0 < 4) ∧ (-4 < c1 ∧ c1 < 4) ∧ (-4 < c2 ∧ c2 < 4)) ∧ News s1.heap s1.heap.objs.size h7 ((l6, W.listOf #[] 0) :: (D3, W.listOf #[.int c0 u0, .int c1 u1, .int c2 u2] kc) :: tl) := ⟨a1.fmod 7 - 3, a2.fmod 7 - 3, a3.fmod 7 - 3, _, _, _, _, ⟨⟨by omega, by omega⟩, ⟨by omega, by omega⟩, by omega, by omega⟩, fun p hp => N7 p (by
    rcases List.mem_cons.mp hp with rfl | hp
    · exact .head _
    · rcases List.mem_cons.mp hp with rfl | hp
      · exact .tail _ (List.mem_append_right _ (.head _))
      · exact .tail _ (List.mem_append_left _ hp))⟩
  clear N7 hc1 hc2 hc3
  generalize a4.fmod (n : Int) = f at F7 hf
  have hnH : Hid (2 ≤ n ∧ n < 7) := hn
  clear hn
  k_dflt (refine For_invVF F7 (by rfl) (by rfl) ?_)
  iterate 7 walk1
  rename_i hr1 F9 N9 _
  k_dflt (refine iter_rangeUnr (n := n) (by rfl) hr1 (small_n (And.right (show 2 ≤ n ∧ n < 7 from hnH))).1 (small_n (And.right (show 2 ≤ n ∧ n < 7 from hnH))).2 F9 N9 fun I hI => rangeRest_upd [Str.ofString "third", Str.ofString "arches", Str.ofString "feet", Str.ofString "due", Str.ofString "place", Str.ofString "left", Str.ofString "right", Str.ofString "way"] (fun i news => ∃ k, news = (l6, W.listOf ((allB n f c0 c1 c2 i).map Value.bool).toArray k) :: (D3, W.listOf #[.int c0 u0, .int c1 u1, .int c2 u2] kc) :: tl) ⟨0, rfl⟩ ?_ ?_)
  · rintro i a _ t h tk hi ⟨k, rfl⟩ F N
    k_fold
    simp only [Int.zero_add] at F
    have hI1 : @LT.lt Nat _ l6 I := hI _ (.head _)
    have hI2 : @LT.lt Nat _ D3 I := hI _ (.tail _ (.head _))
    have hI3 : ∀ p ∈ tl, @LT.lt Nat _ p.1 I := fun p hp => hI p (.tail _ (.tail _ hp))
    k_steps
    unfold Stopped
    k_dflt (refine For_invVF F (by rfl) (by rfl) ?_)
    iterate 7 walk1
    rename_i hr2 F10 N10 _
    k_dflt (refine iter_rangeUnr (n := n) (by rfl) hr2 (small_n (And.right (show 2 ≤ n ∧ n < 7 from hnH))).1 (small_n (And.right (show 2 ≤ n ∧ n < 7 from hnH))).2 F10 (news := (l6, W.listOf ((allB n f c0 c1 c2 i ++ rowB n f c0 c1 c2 i 0).map Value.bool).toArray k) :: (D3, W.listOf #[.int c0 u0, .int c1 u1, .int c2 u2] kc) :: (I, itR (0 + ((i + 1 : Nat) : Int)) ((n : Int) - ((i + 1 : Nat) : Int))) :: tl) ?nw fun J hJ => rangeRest_upd [Str.ofString "arches", Str.ofString "feet", Str.ofString "due", Str.ofString "place", Str.ofString "left", Str.ofString "right", Str.ofString "way"] (fun j news => ∃ k, news = (l6, W.listOf ((allB n f c0 c1 c2 i ++ rowB n f c0 c1 c2 i j).map Value.bool).toArray k) :: (D3, W.listOf #[.int c0 u0, .int c1 u1, .int c2 u2] kc) :: (I, itR (0 + ((i + 1 : Nat) : Int)) ((n : Int) - ((i + 1 : Nat) : Int))) :: tl) ⟨k, rfl⟩ ?_ ?_)
    · have e0 : allB n f c0 c1 c2 i ++ rowB n f c0 c1 c2 i 0 = allB n f c0 c1 c2 i := List.append_nil _
      rw [e0]
      intro p hp
      refine N10 p ?_
      rcases List.mem_cons.mp hp with rfl | hp
      · exact .tail _ (.head _)
      · rcases List.mem_cons.mp hp with rfl | hp
        · exact .tail _ (.tail _ (.head _))
        · rcases List.mem_cons.mp hp with rfl | hp
          · exact .head _
          · exact .tail _ (.tail _ (.tail _ hp))
    · rintro j a2 _ t2 h tk hj ⟨k2, rfl⟩ F N
      k_fold
      simp only [Int.zero_add] at F
      have hJ1 : @LT.lt Nat _ l6 J := hJ _ (.head _)
      have hJ2 : @LT.lt Nat _ D3 J := hJ _ (.tail _ (.head _))
      have hJ3 : @LT.lt Nat _ I J := hJ _ (.tail _ (.tail _ (.head _)))
      have hJ4 : ∀ p ∈ tl, @LT.lt Nat _ p.1 J := fun p hp => hJ p (.tail _ (.tail _ (.tail _ hp)))
      have hfR : InR n f := hf
      have hiR : InR n i := ⟨by omega, by omega⟩
      have hjR : InR n j := ⟨by omega, by omega⟩
      have hn : 2 ≤ n ∧ n < 7 := hnH
      k_steps
      rename_i ar0 _ _ _ lar _ _ fe0 _ lfe _ du0 _ ldu _ F0 N0
      unfold Stopped
      k_dflt (refine For_invVF F0 (by rfl) (by rfl) ?_)
      iterate 7 walk1
      rename_i isr F0 N0 _
      k_dflt (refine iter_rangeUnr (n := 3) (by rfl) isr (by decide) (by decide) F0 N0 fun K hK => rangeRest_upd [Str.ofString "left", Str.ofString "right", Str.ofString "way"] (fun p news => ∃ ra rb els ka kb, Feet n f i j c0 c1 c2 p ra els ∧ Feet n f i j c0 c1 c2 p rb els ∧ (∀ q ∈ els, HN q.1 K ∧ HN q.1 fe0 ∧ HN q.1 du0) ∧ news = (du0, W.listOf (List.toArray rb) kb) :: (fe0, W.listOf (List.toArray ra) ka) :: (ar0, W.listOf #[.int f tf, .int (i : Int) t, .int (j : Int) t2] 0) :: (J, itR (0 + ((j + 1 : Nat) : Int)) ((n : Int) - ((j + 1 : Nat) : Int))) :: (l6, W.listOf ((allB n f c0 c1 c2 i ++ rowB n f c0 c1 c2 i j).map Value.bool).toArray k2) :: (D3, W.listOf #[.int c0 u0, .int c1 u1, .int c2 u2] kc) :: (I, itR (0 + ((i + 1 : Nat) : Int)) ((n : Int) - ((i + 1 : Nat) : Int))) :: (els ++ tl)) ⟨[], [], [], 0, 0, ⟨rfl, fun q hq => absurd hq (Nat.not_lt_zero _)⟩, ⟨rfl, fun q hq => absurd hq (Nat.not_lt_zero _)⟩, (fun _ h => nomatch h), rfl⟩ ?_ ?_)
      · rintro p a3 _ tp h tk hp ⟨ra, rb, els, ka, kb, hra, hrb, hne, rfl⟩ F N
        k_fold
        have hk1 : @LT.lt Nat _ du0 K := hK _ (.head _)
        have hk2 : @LT.lt Nat _ fe0 K := hK _ (.tail _ (.head _))
        have hra9 : ra.length ≤ 100 := by rw [hra.1]; omega
        have hrb9 : rb.length ≤ 100 := by rw [hrb.1]; omega
        have tfe : ∀ q ∈ els ++ tl, q.1 ≠ fe0 := fun q hq => (List.mem_append.mp hq).elim (fun h => (hne q h).2.1) (fun h => Nat.ne_of_lt (Nat.lt_trans (hJt q h) lfe.2.2.1))
        have tdu : ∀ q ∈ els ++ tl, q.1 ≠ du0 := fun q hq => (List.mem_append.mp hq).elim (fun h => (hne q h).2.2) (fun h => Nat.ne_of_lt (Nat.lt_trans (hJt q h) ldu.2.2.2.1))
        have hpp : p = 0 ∨ p = 1 ∨ p = 2 := by omega
        rcases hpp with rfl | rfl | rfl
        · k_steps
          rename_i A _ _ _ _ _ neA _ _ _ _ B _ lB _ FZ NZ
          unfold Stopped
          simp only [List.push_toArray] at NZ
          have NY : News s1.heap _ _ ((B, W.listOf #[.int (dLF n f i j c0 c1 c2 0) _, .int (dRF n f i j c0 c1 c2 0) _] _) :: (A, W.listOf #[.int (dLF n f i j c0 c1 c2 0) _, .int (dRF n f i j c0 c1 c2 0) _] _) :: (K, _) :: (du0, W.listOf (List.toArray (rb ++ [Value.ref B])) _) :: (fe0, W.listOf (List.toArray (ra ++ [Value.ref A])) _) :: (ar0, _) :: (J, _) :: (l6, _) :: (D3, _) :: (I, _) :: (els ++ tl)) := NZ
          refine place_end FZ NY (offc (Nat.ne_of_lt hk1) (offc (Nat.ne_of_lt hk2) (offc (Nat.ne_of_lt (hK _ (.tail _ (.tail _ (.head _))))) (offc (Nat.ne_of_lt (hK _ (.tail _ (.tail _ (.tail _ (.head _)))))) (offc (Nat.ne_of_lt (hK _ (.tail _ (.tail _ (.tail _ (.tail _ (.head _))))))) (offc (Nat.ne_of_lt (hK _ (.tail _ (.tail _ (.tail _ (.tail _ (.tail _ (.head _)))))))) (offc (Nat.ne_of_lt (hK _ (.tail _ (.tail _ (.tail _ (.tail _ (.tail _ (.tail _ (.head _))))))))) (offc (Nat.ne_of_gt lB.2.1) (offc (Ne.symm neA.1) (fun q hq => (List.mem_append.mp hq).elim (fun h => (hne q h).1) (fun h => Nat.ne_of_lt (hK _ (.tail _ (.tail _ (.tail _ (.tail _ (.tail _ (.tail _ (.tail _ h))))))))))))))))))) ?_
          refine ⟨fun y hy => ?_, ra ++ [Value.ref A], rb ++ [Value.ref B], (B, _) :: (A, _) :: els, _, _, hra.snoc (fun q hq => .tail _ (.tail _ hq)) ⟨A, _, _, _, rfl, .tail _ (.head _)⟩, hrb.snoc (fun q hq => .tail _ (.tail _ hq)) ⟨B, _, _, _, rfl, .head _⟩, fun q hq => ?_, rfl⟩
          · simp only [List.mem_cons, List.not_mem_nil, or_false, not_or] at hy
            simp [hy.1, hy.2, updL]
          · rcases List.mem_cons.mp hq with rfl | hq
            · exact ⟨Nat.ne_of_gt lB.2.1, Nat.ne_of_gt lB.2.2.2.1, Nat.ne_of_gt lB.2.2.1⟩
            · rcases List.mem_cons.mp hq with rfl | hq
              · exact ⟨Ne.symm neA.1, Ne.symm neA.2.2.1, Ne.symm neA.2.1⟩
              · exact hne q hq
        · k_steps
          rename_i A _ _ _ _ _ neA _ _ _ _ B _ lB _ FZ NZ
          unfold Stopped
          simp only [List.push_toArray] at NZ
          have NY : News s1.heap _ _ ((B, W.listOf #[.int (dLF n f i j c0 c1 c2 1) _, .int (dRF n f i j c0 c1 c2 1) _] _) :: (A, W.listOf #[.int (dLF n f i j c0 c1 c2 1) _, .int (dRF n f i j c0 c1 c2 1) _] _) :: (K, _) :: (du0, W.listOf (List.toArray (rb ++ [Value.ref B])) _) :: (fe0, W.listOf (List.toArray (ra ++ [Value.ref A])) _) :: (ar0, _) :: (J, _) :: (l6, _) :: (D3, _) :: (I, _) :: (els ++ tl)) := NZ
          refine place_end FZ NY (offc (Nat.ne_of_lt hk1) (offc (Nat.ne_of_lt hk2) (offc (Nat.ne_of_lt (hK _ (.tail _ (.tail _ (.head _))))) (offc (Nat.ne_of_lt (hK _ (.tail _ (.tail _ (.tail _ (.head _)))))) (offc (Nat.ne_of_lt (hK _ (.tail _ (.tail _ (.tail _ (.tail _ (.head _))))))) (offc (Nat.ne_of_lt (hK _ (.tail _ (.tail _ (.tail _ (.tail _ (.tail _ (.head _)))))))) (offc (Nat.ne_of_lt (hK _ (.tail _ (.tail _ (.tail _ (.tail _ (.tail _ (.tail _ (.head _))))))))) (offc (Nat.ne_of_gt lB.2.1) (offc (Ne.symm neA.1) (fun q hq => (List.mem_append.mp hq).elim (fun h => (hne q h).1) (fun h => Nat.ne_of_lt (hK _ (.tail _ (.tail _ (.tail _ (.tail _ (.tail _ (.tail _ (.tail _ h))))))))))))))))))) ?_
          refine ⟨fun y hy => ?_, ra ++ [Value.ref A], rb ++ [Value.ref B], (B, _) :: (A, _) :: els, _, _, hra.snoc (fun q hq => .tail _ (.tail _ hq)) ⟨A, _, _, _, rfl, .tail _ (.head _)⟩, hrb.snoc (fun q hq => .tail _ (.tail _ hq)) ⟨B, _, _, _, rfl, .head _⟩, fun q hq => ?_, rfl⟩
          · simp only [List.mem_cons, List.not_mem_nil, or_false, not_or] at hy
            simp [hy.1, hy.2, updL]
          · rcases List.mem_cons.mp hq with rfl | hq
            · exact ⟨Nat.ne_of_gt lB.2.1, Nat.ne_of_gt lB.2.2.2.1, Nat.ne_of_gt lB.2.2.1⟩
            · rcases List.mem_cons.mp hq with rfl | hq
              · exact ⟨Ne.symm neA.1, Ne.symm neA.2.2.1, Ne.symm neA.2.1⟩
              · exact hne q hq
        · k_steps
          rename_i A _ _ _ _ _ neA _ _ _ _ B _ lB _ FZ NZ
          unfold Stopped
          simp only [List.push_toArray] at NZ
          have NY : News s1.heap _ _ ((B, W.listOf #[.int (dLF n f i j c0 c1 c2 2) _, .int (dRF n f i j c0 c1 c2 2) _] _) :: (A, W.listOf #[.int (dLF n f i j c0 c1 c2 2) _, .int (dRF n f i j c0 c1 c2 2) _] _) :: (K, _) :: (du0, W.listOf (List.toArray (rb ++ [Value.ref B])) _) :: (fe0, W.listOf (List.toArray (ra ++ [Value.ref A])) _) :: (ar0, _) :: (J, _) :: (l6, _) :: (D3, _) :: (I, _) :: (els ++ tl)) := NZ
          refine place_end FZ NY (offc (Nat.ne_of_lt hk1) (offc (Nat.ne_of_lt hk2) (offc (Nat.ne_of_lt (hK _ (.tail _ (.tail _ (.head _))))) (offc (Nat.ne_of_lt (hK _ (.tail _ (.tail _ (.tail _ (.head _)))))) (offc (Nat.ne_of_lt (hK _ (.tail _ (.tail _ (.tail _ (.tail _ (.head _))))))) (offc (Nat.ne_of_lt (hK _ (.tail _ (.tail _ (.tail _ (.tail _ (.tail _ (.head _)))))))) (offc (Nat.ne_of_lt (hK _ (.tail _ (.tail _ (.tail _ (.tail _ (.tail _ (.tail _ (.head _))))))))) (offc (Nat.ne_of_gt lB.2.1) (offc (Ne.symm neA.1) (fun q hq => (List.mem_append.mp hq).elim (fun h => (hne q h).1) (fun h => Nat.ne_of_lt (hK _ (.tail _ (.tail _ (.tail _ (.tail _ (.tail _ (.tail _ (.tail _ h))))))))))))))))))) ?_
          refine ⟨fun y hy => ?_, ra ++ [Value.ref A], rb ++ [Value.ref B], (B, _) :: (A, _) :: els, _, _, hra.snoc (fun q hq => .tail _ (.tail _ hq)) ⟨A, _, _, _, rfl, .tail _ (.head _)⟩, hrb.snoc (fun q hq => .tail _ (.tail _ hq)) ⟨B, _, _, _, rfl, .head _⟩, fun q hq => ?_, rfl⟩
          · simp only [List.mem_cons, List.not_mem_nil, or_false, not_or] at hy
            simp [hy.1, hy.2, updL]
          · rcases List.mem_cons.mp hq with rfl | hq
            · exact ⟨Nat.ne_of_gt lB.2.1, Nat.ne_of_gt lB.2.2.2.1, Nat.ne_of_gt lB.2.2.1⟩
            · rcases List.mem_cons.mp hq with rfl | hq
              · exact ⟨Ne.symm neA.1, Ne.symm neA.2.2.1, Ne.symm neA.2.1⟩
              · exact hne q hq
      · rintro a3 _ h tk ⟨ra, rb, els, ka, kb, hra, hrb, hne, rfl⟩ F N
        obtain ⟨A0, A1, A2, x1, x2, x3, x4, x5, x6, y1, y2, y3, rfl, mA0, mA1, mA2⟩ := hra.three
        obtain ⟨B0, B1, B2, z1, z2, z3, z4, z5, z6, w1, w2, w3, rfl, mB0, mB1, mB2⟩ := hrb.three
        clear hra hrb hne lar lfe ldu isr
        have hin : ∀ q ∈ els, q ∈ (du0, W.listOf #[.ref B0, .ref B1, .ref B2] kb) :: (fe0, W.listOf #[.ref A0, .ref A1, .ref A2] ka) :: (ar0, W.listOf #[.int f tf, .int (i : Int) t, .int (j : Int) t2] 0) :: (J, itR (0 + ((j + 1 : Nat) : Int)) ((n : Int) - ((j + 1 : Nat) : Int))) :: (l6, W.listOf ((allB n f c0 c1 c2 i ++ rowB n f c0 c1 c2 i j).map Value.bool).toArray k2) :: (D3, W.listOf #[.int c0 u0, .int c1 u1, .int c2 u2] kc) :: (I, itR (0 + ((i + 1 : Nat) : Int)) ((n : Int) - ((i + 1 : Nat) : Int))) :: (els ++ tl) := fun q hq => .tail _ (.tail _ (.tail _ (.tail _ (.tail _ (.tail _ (.tail _ (List.mem_append_left tl hq)))))))
        k_steps
        unfold Stopped
        k_dflt (refine ne_rows (read3 N (.tail _ (.head _)) (read2 N (hin _ mA0)) (read2 N (hin _ mA1)) (read2 N (hin _ mA2))) (read3 N (.head _) (read2 N (hin _ mB0)) (read2 N (hin _ mB1)) (read2 N (hin _ mB2))) (by ke_room) ?_)
        have N11 : News s1.heap _ _ ((A2, W.listOf #[.int (dLF n f i j c0 c1 c2 2) x5, .int (dRF n f i j c0 c1 c2 2) x6] y3) :: (A1, W.listOf #[.int (dLF n f i j c0 c1 c2 1) x3, .int (dRF n f i j c0 c1 c2 1) x4] y2) :: (A0, W.listOf #[.int (dLF n f i j c0 c1 c2 0) x1, .int (dRF n f i j c0 c1 c2 0) x2] y1) :: (fe0, W.listOf #[.ref A0, .ref A1, .ref A2] ka) :: (J, itR (0 + ((j + 1 : Nat) : Int)) ((n : Int) - ((j + 1 : Nat) : Int))) :: (l6, W.listOf ((allB n f c0 c1 c2 i ++ rowB n f c0 c1 c2 i j).map Value.bool).toArray k2) :: (D3, W.listOf #[.int c0 u0, .int c1 u1, .int c2 u2] kc) :: (I, itR (0 + ((i + 1 : Nat) : Int)) ((n : Int) - ((i + 1 : Nat) : Int))) :: tl) := fun p hp => by
          rcases List.mem_cons.mp hp with rfl | hp
          · exact N _ (hin _ mA2)
          · rcases List.mem_cons.mp hp with rfl | hp
            · exact N _ (hin _ mA1)
            · rcases List.mem_cons.mp hp with rfl | hp
              · exact N _ (hin _ mA0)
              · rcases List.mem_cons.mp hp with rfl | hp
                · exact N _ (.tail _ (.head _))
                · rcases List.mem_cons.mp hp with rfl | hp
                  · exact N _ (.tail _ (.tail _ (.tail _ (.head _))))
                  · rcases List.mem_cons.mp hp with rfl | hp
                    · exact N _ (.tail _ (.tail _ (.tail _ (.tail _ (.head _)))))
                    · rcases List.mem_cons.mp hp with rfl | hp
                      · exact N _ (.tail _ (.tail _ (.tail _ (.tail _ (.tail _ (.head _))))))
                      · rcases List.mem_cons.mp hp with rfl | hp
                        · exact N _ (.tail _ (.tail _ (.tail _ (.tail _ (.tail _ (.tail _ (.head _)))))))
                        · exact N _ (.tail _ (.tail _ (.tail _ (.tail _ (.tail _ (.tail _ (.tail _ (List.mem_append_right _ hp))))))))
        have g27 : AllLt l6 tl := allLt_of hJt
        clear N mA0 mA1 mA2 mB0 mB1 mB2 hin
        k_steps
        unfold Stopped
        rename_i offX neX _ _ _
        k_dflt (refine' LCg.CompEnd.intro ?F ?N _ (fun _ hp => hp) ?o ?S ?_; (case F => assumption); (case N => assumption); (case o => exact offX); (case S => exact Or.inr ⟨_, by k_mem, rfl, _, rfl⟩))
        clear offX neX
        k_steps
        unfold Stopped
        rename_i offX neX _ _ _
        k_dflt (refine' LCg.CompEnd.intro ?F ?N _ (fun _ hp => hp) ?o ?S ?_; (case F => assumption); (case N => assumption); (case o => exact offX); (case S => exact Or.inr ⟨_, by k_mem, rfl, _, rfl⟩))
        clear offX neX
        k_steps
        unfold Stopped
        rename_i offX neX _ _ _
        k_dflt (refine' LCg.CompEnd.intro ?F ?N _ (fun _ hp => hp) ?o ?S ?_; (case F => assumption); (case N => assumption); (case o => exact offX); (case S => exact Or.inr ⟨_, by k_mem, rfl, _, rfl⟩))
        clear offX neX
        k_steps
        rename_i o1 l7 _ F11 N12 l1
        unfold Stopped
        k_dflt (refine eq_three (joinB n f c0 c1 c2 i j) N12 (by ke_room) rfl ?_)
        have N13 := fun p hp => N12 p (subS (subS (subS (subS (subS (subS (fun _ h => h)))))) p hp)
        change News _ _ _ _ at N13
        have hlen : (List.map Value.bool (allB n f c0 c1 c2 i ++ rowB n f c0 c1 c2 i j)).length ≤ 100 := by
          rw [List.length_map, List.length_append, allB_len, rowB_len]
          have h1 : i * n ≤ 6 * 6 := Nat.mul_le_mul (by omega) (by omega)
          omega
        clear N12 o1 l1
        k_steps
        rename_i F13 N14
        unfold Stopped
        have eL : (List.map Value.bool (allB n f c0 c1 c2 i ++ rowB n f c0 c1 c2 i j)).toArray.push (Value.bool (joinB n f c0 c1 c2 i j)) = (List.map Value.bool (allB n f c0 c1 c2 i ++ rowB n f c0 c1 c2 i (j + 1))).toArray := by
          rw [rowB_succ, ← List.append_assoc, List.map_append (l₁ := allB n f c0 c1 c2 i ++ rowB n f c0 c1 c2 i j), List.push_toArray]; rfl
        rw [eL] at N14
        refine' UnrEnd.intro ?F ?N _ (fun _ hp => hp) ?o ?r
        case F => exact F13
        case N => exact N14
        case o => exact offc (Nat.ne_of_lt hJ1) (offc (Nat.ne_of_lt hJ2) (offc (Nat.ne_of_lt hJ3) (fun p hp => Nat.ne_of_lt (hJ4 p hp))))
        case r =>
          refine ⟨fun y hy => ?_, _, rfl⟩
          simp only [List.mem_cons, List.not_mem_nil, or_false, not_or] at hy
          simp [hy.1, hy.2, updL]
    · rintro a2 _ h tk ⟨k3, rfl⟩ F N
      k_steps
      unfold Stopped
      refine' UnrEnd.intro ?F ?N ((l6, W.listOf ((allB n f c0 c1 c2 (i + 1)).map Value.bool).toArray k3) :: (D3, W.listOf #[.int c0 u0, .int c1 u1, .int c2 u2] kc) :: tl) ?subO ?offO ?restO
      case F => exact F
      case N => exact N
      case subO =>
        rw [allB_succ]
        intro p hp
        rcases List.mem_cons.mp hp with rfl | hp
        · exact .tail _ (.tail _ (.head _))
        · rcases List.mem_cons.mp hp with rfl | hp
          · exact .head _
          · rcases List.mem_cons.mp hp with rfl | hp
            · exact .tail _ (.head _)
            · exact .tail _ (.tail _ (.tail _ hp))
      case offO => exact offc (Nat.ne_of_lt hI1) (offc (Nat.ne_of_lt hI2) (fun p hp => Nat.ne_of_lt (hI3 p hp)))
      case restO =>
        refine ⟨fun y hy => ?_, _, rfl⟩
        simp only [List.mem_cons, List.not_mem_nil, or_false, not_or] at hy
        simp [hy.1, hy.2, updL]
  · rintro a _ h tk ⟨k, rfl⟩ F N
    k_steps
    unfold Stopped
    have hn : 2 ≤ n ∧ n < 7 := hnH
    have hcom := com_rng (a := c0.natAbs) (b := c1.natAbs) (c := c2.natAbs) (by omega) (by omega) (by omega)
    k_dflt (refine use_com hc K0 F N KX T (by rfl) (by decide) (by decide) (by k_mem) ?_)
    intro t1' h1' tk1' F1 N1
    generalize hgE : comF (pst (runL [c0.natAbs, c1.natAbs, c2.natAbs])) = g at hcom
    have hcc := hc
    obtain ⟨hc0, hc1, hc2⟩ := hcc
    clear hn
    k_steps
    rename_i F2 N2
    unfold Stopped
    k_dflt (refine use_meas (show 2 ≤ n ∧ n < 7 from hnH) ⟨by omega, by omega⟩ K0 F2 N2 KX T (by rfl) (by decide) (by decide) ?_)
    intro t2' h2' tk2' F3 N3
    have hm1 := meas_rng_all n (And.right (show 2 ≤ n ∧ n < 7 from hnH)) (g.fmod n).toNat (by have := fmod_lo g hn1; have := fmod_hi g hn1; omega)
    generalize hM1 : measF n (g.fmod n).toNat = M1 at hm1
    k_steps
    rename_i F4 N4
    unfold Stopped
    k_dflt (refine use_meas (show 2 ≤ n ∧ n < 7 from hnH) (pairs_rng hc0 hc1 hc2 hcom) K0 F4 N4 KX T (by rfl) (by decide) (by decide) ?_)
    intro t3' h3' tk3' F5 N5
    have hm2 := meas_rng_all n (And.right (show 2 ≤ n ∧ n < 7 from hnH)) ((Int.fdiv (c0 * c1 + c1 * c2 + c2 * c0) (if 1 > g then 1 else g)).fmod n).toNat (by have := fmod_lo (Int.fdiv (c0 * c1 + c1 * c2 + c2 * c0) (if 1 > g then 1 else g)) hn1; have := fmod_hi (Int.fdiv (c0 * c1 + c1 * c2 + c2 * c0) (if 1 > g then 1 else g)) hn1; omega)
    generalize hM2 : measF n ((Int.fdiv (c0 * c1 + c1 * c2 + c2 * c0) (if 1 > g then 1 else g)).fmod n).toNat = M2 at hm2
    k_steps
    rename_i F6 N6
    unfold Stopped
    have hn : 2 ≤ n ∧ n < 7 := hnH
    have hbl : (allB n f c0 c1 c2 n).length ≤ 36 := by
      rw [allB_len]; exact Nat.mul_le_mul (show n ≤ 6 by omega) (show n ≤ 6 by omega)
    k_dflt (refine use_count (bs := allB n f c0 c1 c2 n) (by omega) K0 F6 N6 KX T (by rfl) (by decide) (by decide) (by k_mem) ?_)
    intro t4' h4' tk4' F8 N8
    have hcb : cntB (allB n f c0 c1 c2 n) ≤ 36 := Nat.le_trans (List.countP_le_length) hbl
    generalize hCB : cntB (allB n f c0 c1 c2 n) = cb at hcb
    k_steps
    have hfin := law_true (n := n) (f := f) (c0 := c0) (c1 := c1) (c2 := c2) (g := g) hn hf hc hgE
    rw [hM1, hCB] at hfin
    exact ⟨congrArg (fun b => Flow.ret (Value.bool b)) (beq_iff_eq.mpr hfin), _, _, _, _, rfl, by assumption⟩
end La5
end Mine
set_option maxHeartbeats 8000000 in
theorem PySem.Challenge.cw_sw0067_01_holds : PySem.Challenge.rw_sw0067_01.Holds := by
  exact Mine.law_holds
