import PyProof.Rows.All
import Wide.All
import OpenK.AllK
import Wide.FinOn
import PySem.Challenge.RW_im0031_01
open PySem PySem.W PyProof.Rows
set_option Elab.async false
set_option maxRecDepth 100000
set_option maxHeartbeats 8000000
set_option linter.all false
set_option compiler.extract_closed false
namespace Mine
open PySem PySem.W PySem.Calls PyProof.Rows
section
set_option maxRecDepth 1000000
set_option maxHeartbeats 0
theorem said_ok : PySem.Challenge.rw_im0031_01.wellSaid = true := by decide +kernel
noncomputable def lawView : Program := { Challenge.pw_im0031_01 with main := { Challenge.pw_im0031_01.main with body := (Challenge.pw_im0031_01.main.body.eraseIdx 10).eraseIdx 1 } }
theorem head_H (H : Hook) {d : DefRec} {kwd : List (Str × PySem.Expr)}
  (hdef : defOf lawView (OpenLaw.row PySem.Challenge.rw_im0031_01).name = some (d, kwd)) (hp : (OpenLaw.row PySem.Challenge.rw_im0031_01).prog.theDef (OpenLaw.row PySem.Challenge.rw_im0031_01).name = some (d.params, d.body, d.scope)) (hk : kwWritten? d.params.kwonlyargs d.params.kw_defaults = some kwd)
  (hl : LeftO (OpenLaw.row PySem.Challenge.rw_im0031_01).prog lawView ["Production", "Grammar", "_law_SYMBOLS"] (fun s => xlAt lawView [] s && recOk (RowW.records (OpenRow.toRowW (OpenLaw.row PySem.Challenge.rw_im0031_01))) s) (Hook.obs H) (Hook.val H) 4050)
  (hw : (OpenRow.toRowW (OpenLaw.row PySem.Challenge.rw_im0031_01)).promised)
  (hc : WalkO lawView ["Production", "Grammar", "_law_SYMBOLS"] (XL lawView []) (Hook.says H) (OpenRow.toRowW (OpenLaw.row PySem.Challenge.rw_im0031_01)) d kwd fun f vs => PySem.call f vs) : (OpenLaw.row PySem.Challenge.rw_im0031_01).Holds :=
  holds_open hl (Hook.of H) (Hook.keeps H) (fun s e => xl_of s (Bool.and_eq_true_iff.mp e).1) XL.keeps hdef hp hk (fun s e => recFacts_of (Bool.and_eq_true_iff.mp e).2) (by rfl) (row_said said_ok) (by decide +kernel) ⟨rfl, rfl, rfl, rfl, rfl, by decide +kernel⟩ hw hc
theorem boots : ∀ w : World, (fencedOpening treeTable (OpenLaw.row PySem.Challenge.rw_im0031_01).prog w 4050).map (fun s => (s.heap, s.gens, s.drawn, s.toks)) = some (boot_heap w.params, Array.mk [], boot_drawn, boot_toks) :=
  boot_open rfl (by decide) fun _ => rfl
noncomputable def topS (w : World) (os : OsState) : Shared := ⟨boot_heap w.params, Array.mk [], boot_drawn, boot_toks, os⟩
noncomputable def treeOf : BT → Nat → List Obj → BT
  | t, _, [] => t
  | t, i, o :: l => treeOf (t.ins i o) (i + 1) l
noncomputable def ofShared (s : Shared) : SharedT := ⟨treeOf .nil 0 s.heap.objs.toList, s.heap.objs.size, s.heap.life, s.gens, s.drawn, s.toks, s.os⟩
noncomputable def lookEnd (p q : Program) (loose : List PySem.Str) (Xt : Shared → Bool) {α : Type} (Yf : Shared → α) (g0 : Bool) (m0 : Nat) (ann : Option Value) (C : Code) (w : World) (s : Shared) (z : Pos) :=
  (topRun treeTable p w m0 ann 2 s ⟨doneF .next, C, z, [topFrame default]⟩).map fun s₁ =>
    (staticsOk (importedModules p.main.body) (boot_heap w.params) s₁.heap && namesBound p s₁.heap && gensDone s₁ && laidKept (boot_heap w.params) s₁.heap, openSeen q loose (importedModules p.main.body) Xt g0 s₁, Yf s₁)
theorem left_tree {p q : Program} {loose : List PySem.Str} {Xt : Shared → Bool} {α : Type} {Yf : Shared → α} {Ya : World → α} {N : Nat} {g0 : Bool} {m0 n1 n : Nat} {ann : Option Value} {bd : List Stmt} {E : Env} {T : World → OsState → SharedT}
    (b : ∀ w : World, (fencedOpening treeTable p w N).map (fun s => (s.heap, s.gens, s.drawn, s.toks)) = some (boot_heap w.params, Array.mk [], boot_drawn, boot_toks))
    (sz : ∀ w : World, ((boot_heap w.params).isNs mainGlobals, (boot_heap w.params).objs.size, (boot_heap w.params).nsMap mainGlobals "__annotations__") = (true, m0, ann))
    (pre : ∀ w os, topGo treeTable p w m0 ann n1 (topS w os) (topStub p) = some ((T w os).abs, ⟨denote treeTable (.body bd E), .body bd E, default, [topFrame default]⟩))
    (blk : ∀ w s, segRun treeTable p w m0 ann 1 1 s (blockOf bd E (.body bd E) default [topFrame default]) = some (.next, s, .body bd E, default))
    (run : ∀ w os, (segRunT treeTable p w m0 ann 1 n (T w os) (piecesOf bd E (.body bd E) default [topFrame default])).map (fun r => (r.1, r.2.2.1, lookEnd p q loose Xt Yf g0 m0 ann (.body bd E) w r.2.1.abs r.2.2.2)) = some (.next, .body bd E, some (true, openGood q loose, Ya w)))
    (le : n1 + (1 + (n + 2)) ≤ N) : LeftO p q loose Xt Yf Ya N g0 := fun w => by
  obtain ⟨⟨h, gs, d, k, os⟩, e, e'⟩ := Option.map_eq_some_iff.mp (b w)
  obtain ⟨rfl, rfl, rfl, rfl⟩ : h = boot_heap w.params ∧ gs = Array.mk [] ∧ d = boot_drawn ∧ k = boot_toks := by simpa using e'
  obtain ⟨⟨f, sT, c, z⟩, r1, r2⟩ := Option.map_eq_some_iff.mp (run w os)
  obtain ⟨q1, r2⟩ := Prod.mk.inj r2
  obtain ⟨q2, r2⟩ := Prod.mk.inj r2
  cases q1
  cases q2
  obtain ⟨s₁, f1, f2⟩ := Option.map_eq_some_iff.mp r2
  obtain ⟨l1, f2⟩ := Prod.mk.inj f2
  obtain ⟨z1, z2⟩ := Prod.mk.inj (sz w)
  obtain ⟨z2, z3⟩ := Prod.mk.inj z2
  have step := piece_app (rest := []) (segRun_of r1) (piece_nil f1)
  rw [List.append_nil] at step
  have all := topRun_mono (N - (n1 + (1 + (n + 2)))) _ _ _ _ (go_top (pre w os) (piece_block (blk w _) step))
  rw [Nat.add_sub_cancel' le] at all
  unfold openEnds
  rw [e]
  refine (?_ : (topFrom treeTable p w N (topS w os)).map _ = _)
  have top : topFrom treeTable p w N (topS w os) = some s₁ := by
    unfold topFrom
    rw [show ((topS w os).heap.isNs mainGlobals && (topS w os).gens.size == 0) = true from (congrArg (· && _) z1).trans rfl]
    rw [show (topS w os).heap.objs.size = m0 from z2, show (topS w os).heap.nsMap mainGlobals "__annotations__" = ann from z3, all]
    refine (?_ : (match staticsOk (importedModules p.main.body) (boot_heap w.params) s₁.heap && namesBound p s₁.heap && gensDone s₁ && laidKept (boot_heap w.params) s₁.heap with | true => some s₁ | false => none) = some s₁)
    rw [l1]
  rw [top]
  exact congrArg some f2
noncomputable def topE : Env := { scope := (OpenLaw.row PySem.Challenge.rw_im0031_01).prog.main.scope, locals := mainNs, globals := mainNs, cells := [], code := .ref 13, frame := some 14 }
noncomputable def topT (w : World) (os : OsState) : SharedT := match topGo treeTable (OpenLaw.row PySem.Challenge.rw_im0031_01).prog w 11 (some (.ref 6)) 12 (topS w os) (topStub (OpenLaw.row PySem.Challenge.rw_im0031_01).prog) with
  | some (s, _) => ofShared s
  | none => ofShared (topS w os)
theorem top_pre : ∀ w os, topGo treeTable (OpenLaw.row PySem.Challenge.rw_im0031_01).prog w 11 (some (.ref 6)) 12 (topS w os) (topStub (OpenLaw.row PySem.Challenge.rw_im0031_01).prog) = some ((topT w os).abs, ⟨denote treeTable (.body (behindTheImports (OpenLaw.row PySem.Challenge.rw_im0031_01).prog) topE), .body (behindTheImports (OpenLaw.row PySem.Challenge.rw_im0031_01).prog) topE, default, [topFrame default]⟩) := by
  intro w os; kernel_rfl
theorem reg_Hd : True := by
  (k_with "o_law" => (refine holds_law said_ok fun said => ?_))
  (k_with "o_hl" => (case hl => (refine left_tree (n := 2000) (m0 := 11) (ann := some (.ref 6)) (T := topT) boots (fun w => by kernel_rfl) top_pre (fun w s => by kernel_rfl) (fun w os => by kernel_rfl) (by decide))))
  trivial
local macro_rules | `(tactic| o_law) => `(tactic| k_extra "o_law")
local macro_rules | `(tactic| o_head $H:term) => `(tactic| (refine head_H $H rfl rfl rfl ?hl ?hw ?hc; k_extra "o_hl"))
open_top hd for PySem.Challenge.rw_im0031_01
end
theorem fill : PySem.Challenge.rw_im0031_01.name = PySem.Challenge.rw_im0031_01.name ∧ hd.heap_1 = hd.heap_1 := by
  k_fill
  exact ⟨rfl, rfl⟩
noncomputable def Kp (S : List Addr) (h h' : Heap) : Prop := ∀ b o, b ∉ S → h.get? b = some o → h'.get? b = some o
theorem Kp.refl {S : List Addr} {h : Heap} : Kp S h h := fun _ _ _ e => e
theorem Kp.trans {S : List Addr} {h h' h'' : Heap} (a : Kp S h h') (b : Kp S h' h'') : Kp S h h'' := fun x o n e => b x o n (a x o n e)
theorem Kp.mono {S S' : List Addr} {h h' : Heap} (a : Kp S h h') (hs : ∀ x ∈ S, x ∈ S') : Kp S' h h' := fun x o n e => a x o (fun q => n (hs x q)) e
theorem Kp.nil {S : List Addr} {h h' : Heap} (a : Kp [] h h') : Kp S h h' := a.mono fun _ q => nomatch q

theorem Fr_kp {h₀ h h' : Heap} {L : Addr} {m : Str → Option Value} {S : List Addr} (F : Fr h₀ L h m) (k : Kp S h h') (hL : L ∉ S) (hS : ∀ a ∈ S, h₀.get? a = none) : Fr h₀ L h' m :=
  ⟨F.ns.at' fun o e => k L o hL e, fun b o e => k b o (fun q => by rw [hS b q] at e; cases e) (F.keep b o e), F.above⟩
theorem News_kp {h₀ h h' : Heap} {L : Addr} {news : List (Addr × Obj)} {S : List Addr} (N : News h₀ L h news) (k : Kp S h h') (hn : ∀ p ∈ news, p.1 ∉ S) : News h₀ L h' news :=
  fun p hp => ⟨k _ _ (hn p hp) (N p hp).1, (N p hp).2⟩
theorem News_cons {h₀ h : Heap} {L : Addr} {news : List (Addr × Obj)} {a : Addr} {o : Obj} (N : News h₀ L h news) (e : h.get? a = some o) (hL : a ≠ L) (h0 : h₀.get? a = none) : News h₀ L h ((a, o) :: news) :=
  fun p hp => by
    rcases List.mem_cons.mp hp with rfl | hp
    · exact ⟨e, hL, h0⟩
    · exact N p hp

section
variable {prog : Program} {w : World} {A : Around} {s : Shared} {K : Frag} {hb : Heap} {mg mb : Str → Option Value} {p : Program} {loose : List Str}
  {R : Result → Shared → Prop} {name qual : Str} {params : Arguments} {body : List Stmt} {scope : Scope} {dV kV doc pm cdv ct oc : Value} {an od : Option Addr} {osl : Array (Option Value)} {f : Addr} {args : Args}

structure In (K : Frag) (p : Program) (loose : List Str) (mg mb : Str → Option Value) (S : List Addr) (hb h g : Heap) (L : Addr) (h₁ : Heap) : Prop where
  X : K.In g
  T : TopRead p loose mg mb g
  up : ∀ b o, h.get? b = some o → h₁.get? b = some o
  off : ∀ b o, b ∉ S → h.get? b = some o → g.get? b = some o
  hid : ∀ a ∈ S, g.get? a = none
  sub : ∀ b o, g.get? b = some o → h.get? b = some o
  loc : L = h.objs.size
  base : hb.StaysIn g

theorem enterH (S : List Addr) (binds : List (Str × Value)) (X : K.In hb) (T : TopRead p loose mg mb hb) (hs : hb.StaysIn s.heap) (hS : ∀ a ∈ S, hb.get? a = none)
    (ho : K.lookup f = some ⟨oc, od, .func (fnOf name qual params body scope dV kV doc pm an cdv ct), osl⟩) (hcd : codeIn K cdv qual = true) (hroom : A.depth < recursionLimit)
    (hbind : BindsTo s (fnOf name qual params body scope dV kV doc pm an cdv ct) args binds) (hloc : ∀ y ∈ binds, scope.names.lookup y.1 = some .local)
    (h : ∀ g L h₁ tk, Fr g L h₁ (fun y => binds.reverse.lookup y) → In K p loose mg mb S hb s.heap g L h₁ →
      wpAny (model prog w) (A.deeper (envOf qual scope L f cdv)) (execs body (envOf qual scope L f cdv))
        (fun fl s' => R (.ok (.ret (match fl with | .ret v => v | _ => .none))) s') (fun _ _ => False)
        { s with heap := h₁, toks := tk })
    (hcell : ∀ x ∈ scope.names, x.2 ≠ .cell) (hco : scope.isCoroutine = false) (hgen : scope.isGenerator = false) (hk : scope.kind = .function) :
    codeAny (model prog w) A (.call (.ref f) args) R s := by
  have Xs : K.In s.heap := X.keeps hs
  refine codeAny_call_def (fd := fnOf name qual params body scope dV kV doc pm an cdv ct) (body := body) (binds := binds) hroom (Xs _ _ ho) rfl (T.nolimit.keeps hs) (codeRec_of Xs hcd) rfl hbind hcell hloc (fun h₁ hns hk₁ => ?_) hco hgen hk
  have st : hb.StaysIn (hideAll s.heap S) := fun b o e => hideAll_get _ (hs b o e) fun q => by rw [hS b q] at e; cases e
  refine wpAny_mono (h (hideAll s.heap S) s.heap.objs.size h₁ _ ⟨hns, fun b o e => hk₁ b o (of_hideAll _ e), Nat.le_of_eq (hideAll_size _ _)⟩
    ⟨X.keeps st, T.keeps st, hk₁, fun b o n e => hideAll_get _ e n, fun a ha => hideAll_none _ ha, fun b o e => of_hideAll _ e, rfl, st⟩) (fun _ _ x => x) fun _ _ x => x.elim

theorem In.kp {S : List Addr} {h g h₁ h' : Heap} {L L' : Addr} {m : Str → Option Value} (I : In K p loose mg mb S hb h g L h₁) (F : Fr g L' h' m) : Kp S h h' :=
  fun b o n e => F.keep b o (I.off b o n e)
theorem In.new {S : List Addr} {h g h₁ h' : Heap} {L L' a : Addr} {o : Obj} {news : List (Addr × Obj)} (I : In K p loose mg mb S hb h g L h₁) (N : News g L' h' news) (hm : (a, o) ∈ news) (hS : a ∉ S) :
    h.get? a = none := by
  cases q : h.get? a with
  | none => rfl
  | some o' => have := (N _ hm).2.2; rw [I.off a o' hS q] at this; cases this
theorem In.newS {h g h₁ h' : Heap} {L L' a : Addr} {o : Obj} {news : List (Addr × Obj)} (I : In K p loose mg mb [] hb h g L h₁) (N : News g L' h' news) (hm : (a, o) ∈ news) :
    h.get? a = none := I.new N hm (fun q => nomatch q)
theorem In.put {S : List Addr} {h g h₁ : Heap} {L a : Addr} {o : Obj} {news : List (Addr × Obj)} (I : In K p loose mg mb S hb h g L h₁) (e : h.get? a = some o) (hS : a ∈ S) (N : News g L h₁ news) : News g L h₁ ((a, o) :: news) :=
  News_cons N (I.up _ _ e) (by have := Heap.lt_size e; rw [I.loc]; exact Nat.ne_of_lt this) (I.hid _ hS)

theorem enterC (S : List Addr) (binds : List (Str × Value)) (X : K.In hb) (T : TopRead p loose mg mb hb) (hs : hb.StaysIn s.heap) (hS : ∀ a ∈ S, hb.get? a = none)
    (ho : K.lookup f = some ⟨oc, od, .func (fnOf name qual params body scope dV kV doc pm an cdv ct), osl⟩) (hcd : codeIn K cdv qual = true) (hroom : A.depth < recursionLimit)
    (hbind : BindsTo s (fnOf name qual params body scope dV kV doc pm an cdv ct) args binds)
    (hkind : (binds.all fun y => scope.names.lookup y.1 == some .local || scope.names.lookup y.1 == some .cell) = true)
    (hnd : ((cellsFrom 0 scope.names []).map (·.1)).Nodup)
    (h : ∀ g L h₁ tk cells, Fr g L h₁ (bindL (envOfC qual scope L f cdv).kindOf binds fun _ => none) → News g L h₁ cells →
      CellsAre (bindC (envOfC qual scope L f cdv).kindOf binds fun _ => none) (cellsFrom (L + 1) scope.names []) cells → In K p loose mg mb S hb s.heap g L h₁ →
      wpAny (model prog w) (A.deeper (envOfC qual scope L f cdv)) (execs body (envOfC qual scope L f cdv))
        (fun fl s' => R (.ok (.ret (match fl with | .ret v => v | _ => .none))) s') (fun _ _ => False)
        { s with heap := h₁, toks := tk })
    (hco : scope.isCoroutine = false) (hgen : scope.isGenerator = false) (hk : scope.kind = .function) :
    codeAny (model prog w) A (.call (.ref f) args) R s := by
  have Xs : K.In s.heap := X.keeps hs
  have st : hb.StaysIn (hideAll s.heap S) := fun b o e => hideAll_get _ (hs b o e) fun q => by rw [hS b q] at e; cases e
  refine codeAny_call_function hroom (Xs _ _ ho) rfl hco hgen rfl (codeRec_of Xs hcd) (hbind _ _ _ _ ?_)
  refine wpAny_newFunctionEnv_cells hk (kindsX hkind _) fun env' he s' x => ?_
  subst he
  refine ⟨((T.nolimit.keeps hs)).keeps x.toInCall.keep, codeAny_func ?_⟩
  obtain ⟨h₁, tk, rfl, _⟩ := x.done
  have hk₁ := x.toInCall.keep
  obtain ⟨cells, NC, Y⟩ := Cl.news (h₀ := s.heap) (Nat.le_refl _) fun n c hm => ⟨x.cell n c (lookup_of_mem_nodup (cellsFrom_names scope.names 0 (s.heap.objs.size + 1) [] [] rfl ▸ hnd) hm), x.above n c hm⟩
  refine wpAny_mono (h (hideAll s.heap S) s.heap.objs.size h₁ tk cells ⟨x.toInCall.ns, fun b o e => hk₁ b o (of_hideAll _ e), Nat.le_of_eq (hideAll_size _ _)⟩ (fun p hp => ?_) Y
    ⟨X.keeps st, T.keeps st, hk₁, fun b o n e => hideAll_get _ e n, fun a ha => hideAll_none _ ha, fun b o e => of_hideAll _ e, rfl, st⟩) (fun _ _ x => x) fun _ _ x => x.elim
  exact ⟨(NC p hp).1, (NC p hp).2.1, Option.eq_none_iff_forall_ne_some.mpr fun o q => nomatch (of_hideAll _ q).symm.trans (NC p hp).2.2⟩
end


theorem updF_kp {h₀ h h' : Heap} {L a : Addr} {m : Str → Option Value} {news : List (Addr × Obj)} {gf : Obj → List (Addr × Obj)} {o o' : Obj} (F : Fr h₀ L h m) (N : News h₀ L h news) (U : UpdF a o news gf) (k : Kp [a] h h') (e : h'.get? a = some o') :
    Fr h₀ L h' m ∧ News h₀ L h' (gf o') := by
  obtain ⟨pre, post, rfl, hg, h1, h2⟩ := U.split
  have z := N (a, o) (List.mem_append.mpr (.inr (.head _)))
  refine ⟨Fr_kp F k (fun q => z.2.1 (List.mem_singleton.mp q).symm) (fun b hb => (List.mem_singleton.mp hb) ▸ z.2.2), fun p hp => ?_⟩
  rw [hg] at hp
  rcases List.mem_append.mp hp with hp | hp
  · have y := N p (List.mem_append.mpr (.inl hp))
    exact ⟨k _ _ (fun q => h1 p hp (List.mem_singleton.mp q)) y.1, y.2⟩
  · rcases List.mem_cons.mp hp with rfl | hp
    · exact ⟨e, z.2⟩
    · have y := N p (List.mem_append.mpr (.inr (.tail _ hp)))
      exact ⟨k _ _ (fun q => h2 p hp (List.mem_singleton.mp q)) y.1, y.2⟩
theorem grow_kp {h₀ h h' : Heap} {L r : Addr} {m : Str → Option Value} {news : List (Addr × Obj)} {o : Obj} (F : Fr h₀ L h m) (N : News h₀ L h news) (k : Kp [] h h') (hr : h.get? r = none) (e : h'.get? r = some o) :
    Fr h₀ L h' m ∧ News h₀ L h' ((r, o) :: news) ∧ ∀ p ∈ news, @Ne Nat p.1 r := by
  have F' := Fr_kp F k (fun q => nomatch q) (fun _ q => nomatch q)
  have N' := News_kp N k (fun _ _ q => nomatch q)
  obtain ⟨oL, _, _, hL, _⟩ := F.ns
  refine ⟨F', News_cons N' e (fun q => by rw [q, hL] at hr; cases hr) ?_, fun p hp q => by have := (N p hp).1; rw [q, hr] at this; cases this⟩
  cases q : h₀.get? r with
  | none => rfl
  | some o' => have := F.keep _ _ q; rw [hr] at this; cases this


theorem Fr_say {h₀ h : Heap} {L : Addr} {m : Str → Option Value} {x : Str} {v : Value} (F : Fr h₀ L h m) (e : m x = some v) : Fr h₀ L h (fun y => if y = x then some v else m y) := by
  have : (fun y => if y = x then some v else m y) = m := by
    funext y
    by_cases h : y = x
    · rw [if_pos h, h, e]
    · rw [if_neg h]
  rw [this]; exact F
theorem News_sub {h₀ h : Heap} {L : Addr} {news news' : List (Addr × Obj)} (N : News h₀ L h news) (hs : ∀ p ∈ news', p ∈ news) : News h₀ L h news' := fun p hp => N p (hs p hp)

noncomputable def Halt (P : Prop) : Prop := P
theorem halt {P : Prop} (h : Halt P) : P := h
theorem unhalt {P : Prop} (h : P) : Halt P := h

theorem sub_nil {α : Type} {l : List α} : ∀ p ∈ ([] : List α), p ∈ l := fun _ h => absurd h List.not_mem_nil
theorem sub_cons {α : Type} {l' l : List α} {a : α} (h : a ∈ l) (t : ∀ p ∈ l', p ∈ l) : ∀ p ∈ a :: l', p ∈ l := List.forall_mem_cons.mpr ⟨h, t⟩
theorem sub_app {α : Type} {l₁ l₂ l : List α} (h : ∀ p ∈ l₁, p ∈ l) (t : ∀ p ∈ l₂, p ∈ l) : ∀ p ∈ l₁ ++ l₂, p ∈ l := List.forall_mem_append.mpr ⟨h, t⟩
theorem sub_tl {α : Type} {l l' : List α} {a : α} (h : ∀ p ∈ l', p ∈ l) : ∀ p ∈ l', p ∈ a :: l := fun p q => List.mem_cons_of_mem _ (h p q)
theorem sub_lf {α : Type} {l l' m : List α} (h : ∀ p ∈ l', p ∈ l) : ∀ p ∈ l', p ∈ l ++ m := fun p q => List.mem_append_left _ (h p q)
theorem sub_rt {α : Type} {l l' m : List α} (h : ∀ p ∈ l', p ∈ l) : ∀ p ∈ l', p ∈ m ++ l := fun p q => List.mem_append_right _ (h p q)

theorem ne_lt2 {a b c : Nat} (h : a < b) (k : b < c) : a ≠ c := Nat.ne_of_lt (Nat.lt_trans h k)
theorem News_ne_cls {h₀ h : Heap} {L a b : Addr} {o o' : Obj} {news : List (Addr × Obj)} (N : News h₀ L h news) (ha : (a, o) ∈ news) (hb : (b, o') ∈ news) (hc : (o.cls == o'.cls) = false) : @Ne Nat a b := by
  rintro rfl
  have h1 := (N _ ha).1
  have h2 := (N _ hb).1
  dsimp only at h1 h2
  rw [h1] at h2
  cases h2
  simp at hc

theorem allLt_ne {d : Addr} {l : List (Addr × Obj)} (h : AllLt d l) : ∀ q ∈ l, q.1 ≠ d := fun q hq => Nat.ne_of_lt (kst_ltOf h q hq)
theorem allLt_ne' {d : Addr} {l l' : List (Addr × Obj)} (h : AllLt d (l ++ l')) : ∀ q ∈ l', q.1 ≠ d := fun q hq => allLt_ne h q (List.mem_append_right _ hq)

theorem nw_nil {adr : List Addr} {own : List (Addr × Obj)} : ∀ p ∈ ([] : List (Addr × Obj)), p.1 ∉ adr ∧ ∀ q ∈ own, q.1 ≠ p.1 := fun _ h => absurd h List.not_mem_nil
theorem nw_cons {d : Addr} {o : Obj} {nw own : List (Addr × Obj)} {adr : List Addr} (h1 : ∀ b ∈ adr, @LT.lt Nat _ b d) (h2 : ∀ q ∈ own, q.1 ≠ d) (h : ∀ p ∈ nw, p.1 ∉ adr ∧ ∀ q ∈ own, q.1 ≠ p.1) :
    ∀ p ∈ (d, o) :: nw, p.1 ∉ adr ∧ ∀ q ∈ own, q.1 ≠ p.1 := fun p hp => by
  rcases List.mem_cons.mp hp with rfl | hp
  · exact ⟨fun q => Nat.lt_irrefl _ (h1 _ q), h2⟩
  · exact h p hp
theorem lts_nil {d : Addr} : ∀ b ∈ ([] : List Addr), @LT.lt Nat _ b d := fun _ h => absurd h List.not_mem_nil
theorem lts_cons {d a : Addr} {l : List Addr} (h1 : @LT.lt Nat _ a d) (h : ∀ b ∈ l, @LT.lt Nat _ b d) : ∀ b ∈ a :: l, @LT.lt Nat _ b d := fun b hb => by
  rcases List.mem_cons.mp hb with rfl | hb
  · exact h1
  · exact h b hb

theorem off_one {l : List (Addr × Obj)} {a : Addr} (h : ∀ p ∈ l, p.1 ≠ a) : OwnOff l [a] := fun p hp b hb => (List.mem_singleton.mp hb) ▸ h p hp
theorem off_cons {l : List (Addr × Obj)} {a : Addr} {r : List Addr} (h : ∀ p ∈ l, p.1 ≠ a) (t : OwnOff l r) : OwnOff l (a :: r) := fun p hp b hb => by
  rcases List.mem_cons.mp hb with rfl | hb
  · exact h p hp
  · exact t p hp b hb
theorem off_nil {l : List (Addr × Obj)} : OwnOff l [] := fun _ _ _ hb => absurd hb List.not_mem_nil

theorem genT {M : Model} {A : Around} {α : Type} {c : Sem α} {Q : α → Shared → Prop} {E : Value → Shared → Prop} {S : Heap → Nat → Shared} {h : Heap} {t : Nat} (k : ∀ tk, wpAny M A c Q E (S h tk)) : wpAny M A c Q E (S h t) := k t
theorem all_ne {d a : Nat} {o : Obj} {l : List (Addr × Obj)} (h : AllLt d l) (m : (a, o) ∈ l) : @Ne Nat a d := Nat.ne_of_lt (kst_ltOf h _ m)
theorem letS {M : Model} {A : Around} {body : List Stmt} {env : Env} {Q : Flow → Shared → Prop} {E : Value → Shared → Prop} {s : Shared} {h : Heap} {t : Nat}
    (k : let SH : Heap → Nat → Shared := fun h t => { s with heap := h, toks := t }; let A' := A; let en := env; let Q' := Q; wpAny M A' (execs body en) Q' E (SH h t)) : wpAny M A (execs body env) Q E { s with heap := h, toks := t } := k
section SNext
theorem reg_Nx : True := by
  (k_with "m_enter" => (
    case ho => k_is
    case hcd => k_is
    case hb => exact BindsTo.of_eq rfl
    case hl => exact locs rfl
    case hc => decide
    case h1 => exact rfl
    case h2 => exact rfl
    case h3 => exact rfl))
  trivial

theorem t_names {prog : Program} {w : World} {A : Around} {s : Shared} {hb : Heap} {mg mb : Str → Option Value} {p : Program} {loose : List Str} {R : Result → Shared → Prop}
  (X : (hd.heap_1 w.params).In hb) (T : TopRead p loose mg mb hb) (hs : hb.StaysIn s.heap) (hroom : A.depth < recursionLimit)
  (post : ∀ r h' tk t1 t2 t3, Kp [] s.heap h' → s.heap.get? r = none → h'.get? r = some (W.listOf #[.str "S" t1, .str "A" t2, .str "B" t3] 0) → R (.ok (.ret (.ref r))) { s with heap := h', toks := tk }) :
  codeAny (model prog w) A (.call (.ref 259) ⟨[], []⟩) R s := by
  refine' enterH [] [] X T hs ?_ ?ho ?hcd hroom ?hb ?hl ?h ?hc ?h1 ?h2 ?h3
  walk_at "m_enter"
  · intro a ha; cases ha
  intro g L h₁ tk F I
  have X := I.X
  have T := I.T
  have N : News g L h₁ [] := News.nil
  k_steps
  rename Fr _ _ _ _ => F'
  rename News _ _ _ _ => N'
  exact post _ _ _ _ _ _ (I.kp F') (I.newS N' (.head _)) (N' _ (.head _)).1

theorem ints_pos {vs : List Value} {ns : List Int} (hI : IntsAre vs ns) (h : 0 < ns.length) : ∃ n r t ws, ns = n :: r ∧ vs = .int n t :: ws ∧ IntsAre ws r := by
  cases hI with
  | nil => simp at h
  | cons n t hI => exact ⟨_, _, _, _, rfl, rfl, hI⟩

theorem t_next {prog : Program} {w : World} {A : Around} {s : Shared} {hb : Heap} {mg mb : Str → Option Value} {p : Program} {loose : List Str} {R : Result → Shared → Prop}
  (X : (hd.heap_1 w.params).In hb) (T : TopRead p loose mg mb hb) (hs : hb.StaysIn s.heap) (hroom : A.depth < recursionLimit)
  {tape : Addr} {vs : List Value} {ns : List Int} {n : Nat} (ht : s.heap.get? tape = some (W.listOf vs.toArray n)) (hI : IntsAre vs ns) (h0 : hb.get? tape = none) (hlen : ns.length ≤ 28)
  (post : ∀ h' tk t ws n', Kp [tape] s.heap h' → h'.get? tape = some (W.listOf ws.toArray n') → IntsAre ws ns.tail → R (.ok (.ret (.int (ns.headD 0) t))) { s with heap := h', toks := tk }) :
  codeAny (model prog w) A (.call (.ref 267) ⟨[.ref tape], []⟩) R s := by
  refine' enterH [tape] [("tape", .ref tape)] X T hs ?_ ?ho ?hcd hroom ?hb ?hl ?h ?hc ?h1 ?h2 ?h3
  walk_at "m_enter"
  · intro a ha; cases List.mem_singleton.mp ha; exact h0
  intro g L h₁ tk F I
  have X := I.X
  have T := I.T
  have N : News g L h₁ [(tape, W.listOf vs.toArray n)] := I.put ht (.head _) News.nil
  k_steps
  · rename 0 < _ => hp
    obtain ⟨n, r, t, ws, rfl, rfl, hI'⟩ := ints_pos hI hp
    simp only [List.length_cons] at hlen
    refine kl_popAt F N rfl (k := 0) (p := []) (y := .int n t) (q := ws) ?_ rfl (.head (fun _ h => nomatch h)) ?_ ?_
    · simp [seqIndex?]
    · have := hI'.length
      simp [sizeLine_eq]; omega
    · intro h' F' N'
      refine post _ _ _ ws _ (I.kp F') (N' _ (.head _)).1 hI'
  · rename ¬ 0 < _ => hp
    cases hI with
    | nil => exact post _ _ _ [] _ (I.kp F) (N _ (.head _)).1 .nil
    | cons n t hI => exact absurd (Nat.succ_pos _) hp
theorem use_next {prog : Program} {w : World} {A : Around} {E : Value → Shared → Prop} {s : Shared} {mg mb : Str → Option Value} {p : Program} {loose : List Str} {g : Heap} {L : Addr} {m : Str → Option Value} {news : List (Addr × Obj)} {gf : Obj → List (Addr × Obj)} {Q : Value → Shared → Prop}
    {tape : Addr} {vs : List Value} {ns : List Int} {n : Nat}
    (F : Fr g L s.heap m) (N : News g L s.heap news) (X : (hd.heap_1 w.params).In g) (T : TopRead p loose mg mb g) (hroom : A.depth < recursionLimit) (U : UpdF tape (W.listOf vs.toArray n) news gf) (hI : IntsAre vs ns) (hlen : ns.length ≤ 28)
    (h : ∀ h' tk t ws n', IntsAre ws ns.tail → Fr g L h' m → News g L h' (gf (W.listOf ws.toArray n')) → Q (.int (ns.headD 0) t) { s with heap := h', toks := tk }) :
    wpAny (model prog w) A (call (.ref 267) [.ref tape]) Q E s := by
  obtain ⟨pre, post, rfl, hg, h1, h2⟩ := id U.split
  have z := N (tape, W.listOf vs.toArray n) (List.mem_append.mpr (.inr (.head _)))
  refine wpAny_call (t_next X T F.keep hroom z.1 hI z.2.2 hlen fun h' tk t ws n' k e hI' => ?_)
  obtain ⟨F', N'⟩ := updF_kp F N U k e
  exact h h' tk t ws n' hI' F' N'
theorem unreg_Nx : True := by
  k_with_none
  trivial
end SNext
noncomputable def sNAMES : List Str := ["S", "A", "B"]
noncomputable def sSYMS : List Str := ["S", "A", "B", "a", "b", "c"]
noncomputable def RuleOk (r : Str × List Str) : Prop := r.1 ∈ sNAMES ∧ r.2.length ≤ 3 ∧ ∀ s ∈ r.2, s ∈ sSYMS
noncomputable def sEMP : Str := "<empty>"
noncomputable def addF (acc : List Str) : List Str → List Str
  | [] => acc
  | f :: fs => if f = sEMP then addF acc fs else if f ∈ acc then addF acc fs else addF (acc ++ [f]) fs
noncomputable def firstF (C : Str → List Str) (acc : List Str) : List Str → List Str
  | [] => acc ++ [sEMP]
  | x :: r => if sEMP ∈ C x then firstF C (addF acc (C x)) r else addF acc (C x)
theorem drop_at {α : Type} {l : List α} {i : Nat} {a : α} (h : l[i]? = some a) : i < l.length ∧ l.drop i = a :: l.drop (i + 1) ∧ l.take (i + 1) = l.take i ++ [a] := by
  have hi : i < l.length := by
    rcases Nat.lt_or_ge i l.length with h' | h'
    · exact h'
    · rw [List.getElem?_eq_none h'] at h; cases h
  rw [List.getElem?_eq_getElem hi] at h
  refine ⟨hi, ?_, ?_⟩
  · rw [List.drop_eq_getElem_cons hi, Option.some.inj h]
  · rw [List.take_add_one, List.getElem?_eq_getElem hi, h]; rfl
theorem any_mem {l : List Str} {x : Str} {b : Bool} (h : (l.any fun y => y == x) = b) : decide (x ∈ l) = b := by
  rw [← h]
  cases hb : (l.any fun y => y == x) with
  | true =>
    obtain ⟨y, hy, e⟩ := List.any_eq_true.mp hb
    rw [eq_of_beq e] at hy
    exact decide_eq_true hy
  | false =>
    refine decide_eq_false fun q => ?_
    have := List.any_eq_false.mp hb x q
    simp at this
theorem beq_str {a b : Str} {r : Bool} (h : (a == b) = r) : decide (a = b) = r := by
  rw [← h]
  cases hb : a == b with
  | true => exact decide_eq_true (eq_of_beq hb)
  | false => exact decide_eq_false fun q => by rw [q] at hb; simp at hb
theorem len_addF : ∀ (fs acc : List Str), (addF acc fs).length ≤ acc.length + fs.length
  | [], acc => Nat.le_refl _
  | f :: fs, acc => by
    unfold addF
    split
    · exact Nat.le_trans (len_addF fs acc) (by simp)
    · split
      · exact Nat.le_trans (len_addF fs acc) (by simp)
      · exact Nat.le_trans (len_addF fs _) (by simp; omega)

theorem mem_addF {f : Str} : ∀ {fs acc : List Str}, f ∈ addF acc fs ↔ f ∈ acc ∨ (f ∈ fs ∧ f ≠ sEMP)
  | [], acc => by simp [addF]
  | g :: fs, acc => by
    unfold addF
    split
    · rename_i h
      rw [mem_addF]
      constructor
      · rintro (q | ⟨q, q'⟩)
        · exact .inl q
        · exact .inr ⟨.tail _ q, q'⟩
      · rintro (q | ⟨q, q'⟩)
        · exact .inl q
        · rcases List.mem_cons.mp q with rfl | q
          · exact absurd h q'
          · exact .inr ⟨q, q'⟩
    · rename_i h
      split
      · rename_i hin
        rw [mem_addF]
        constructor
        · rintro (q | ⟨q, q'⟩)
          · exact .inl q
          · exact .inr ⟨.tail _ q, q'⟩
        · rintro (q | ⟨q, q'⟩)
          · exact .inl q
          · rcases List.mem_cons.mp q with rfl | q
            · exact .inl hin
            · exact .inr ⟨q, q'⟩
      · rw [mem_addF]
        constructor
        · rintro (q | ⟨q, q'⟩)
          · rcases List.mem_append.mp q with q | q
            · exact .inl q
            · rw [List.mem_singleton.mp q]; exact .inr ⟨.head _, h⟩
          · exact .inr ⟨.tail _ q, q'⟩
        · rintro (q | ⟨q, q'⟩)
          · exact .inl (List.mem_append_left _ q)
          · rcases List.mem_cons.mp q with rfl | q
            · exact .inl (List.mem_append_right _ (.head _))
            · exact .inr ⟨q, q'⟩
noncomputable def FirstOf (C : Str → Str → Prop) (beta : List Str) (f : Str) : Prop :=
  (∃ pre x post, beta = pre ++ x :: post ∧ (∀ y ∈ pre, C y sEMP) ∧ C x f ∧ f ≠ sEMP) ∨ (f = sEMP ∧ ∀ y ∈ beta, C y sEMP)
theorem FirstOf.mono {C D : Str → Str → Prop} {beta : List Str} {f : Str} (h : FirstOf C beta f) (hs : ∀ y ∈ beta, ∀ f, C y f → D y f) : FirstOf D beta f := by
  rcases h with ⟨pre, x, post, rfl, h1, h2, h3⟩ | ⟨h1, h2⟩
  · exact .inl ⟨pre, x, post, rfl, fun y hy => hs y (List.mem_append_left _ hy) _ (h1 y hy), hs x (List.mem_append_right _ (.head _)) _ h2, h3⟩
  · exact .inr ⟨h1, fun y hy => hs y hy _ (h2 y hy)⟩
theorem mem_firstF {C : Str → List Str} {f : Str} : ∀ {beta acc : List Str}, sEMP ∉ acc → (f ∈ firstF C acc beta ↔ f ∈ acc ∨ FirstOf (fun y f => f ∈ C y) beta f)
  | [], acc, ha => by
    unfold firstF
    constructor
    · intro q
      rcases List.mem_append.mp q with q | q
      · exact .inl q
      · exact .inr (.inr ⟨List.mem_singleton.mp q, fun y hy => nomatch hy⟩)
    · rintro (q | q | q)
      · exact List.mem_append_left _ q
      · obtain ⟨pre, x, post, e, _⟩ := q
        simp at e
      · exact List.mem_append_right _ (by rw [q.1]; exact .head _)
  | x :: r, acc, ha => by
    have ha' : sEMP ∉ addF acc (C x) := fun q => by
      rcases mem_addF.mp q with q | q
      · exact ha q
      · exact q.2 rfl
    unfold firstF
    split
    · rename_i h
      rw [mem_firstF ha', mem_addF]
      constructor
      · rintro ((q | q) | q)
        · exact .inl q
        · exact .inr (.inl ⟨[], x, r, rfl, (fun _ hy => absurd hy List.not_mem_nil), q.1, q.2⟩)
        · refine .inr ?_
          rcases q with ⟨pre, z, post, rfl, h1, h2, h3⟩ | ⟨h1, h2⟩
          · refine .inl ⟨x :: pre, z, post, rfl, fun y hy => ?_, h2, h3⟩
            rcases List.mem_cons.mp hy with rfl | hy
            · exact h
            · exact h1 y hy
          · refine .inr ⟨h1, fun y hy => ?_⟩
            rcases List.mem_cons.mp hy with rfl | hy
            · exact h
            · exact h2 y hy
      · rintro (q | ⟨pre, z, post, e, h1, h2, h3⟩ | ⟨h1, h2⟩)
        · exact .inl (.inl q)
        · cases pre with
          | nil =>
            simp only [List.nil_append, List.cons.injEq] at e
            obtain ⟨rfl, rfl⟩ := e
            exact .inl (.inr ⟨h2, h3⟩)
          | cons p pre =>
            simp only [List.cons_append, List.cons.injEq] at e
            obtain ⟨rfl, rfl⟩ := e
            exact .inr (.inl ⟨pre, z, post, rfl, fun y hy => h1 y (.tail _ hy), h2, h3⟩)
        · exact .inr (.inr ⟨h1, fun y hy => h2 y (.tail _ hy)⟩)
    · rename_i h
      rw [mem_addF]
      constructor
      · rintro (q | q)
        · exact .inl q
        · exact .inr (.inl ⟨[], x, r, rfl, (fun _ hy => absurd hy List.not_mem_nil), q.1, q.2⟩)
      · rintro (q | ⟨pre, z, post, e, h1, h2, h3⟩ | ⟨h1, h2⟩)
        · exact .inl q
        · cases pre with
          | nil =>
            simp only [List.nil_append, List.cons.injEq] at e
            obtain ⟨rfl, rfl⟩ := e
            exact .inr ⟨h2, h3⟩
          | cons p pre =>
            simp only [List.cons_append, List.cons.injEq] at e
            obtain ⟨rfl, rfl⟩ := e
            exact absurd (h1 x (.head _)) h
        · exact absurd (h2 x (.head _)) h
theorem mem_first {C : Str → List Str} {f : Str} {beta : List Str} : f ∈ firstF C [] beta ↔ FirstOf (fun y f => f ∈ C y) beta f := by
  rw [mem_firstF (by simp)]
  simp
inductive Emp (rules : List (Str × List Str)) : Str → Prop
  | mk {n : Str} {b : List Str} : (n, b) ∈ rules → (∀ y ∈ b, Emp rules y) → Emp rules n
inductive Fir (rules : List (Str × List Str)) : Str → Str → Prop
  | term {t : Str} : t ∈ (["a", "b", "c"] : List Str) → Fir rules t t
  | rule {n x f : Str} {pre post : List Str} : (n, pre ++ x :: post) ∈ rules → (∀ y ∈ pre, Emp rules y) → Fir rules x f → Fir rules n f
noncomputable def FD (rules : List (Str × List Str)) (n f : Str) : Prop := (f = sEMP ∧ Emp rules n) ∨ (f ≠ sEMP ∧ Fir rules n f)
theorem fir_term {rules : List (Str × List Str)} {n f : Str} (h : Fir rules n f) : f ∈ (["a", "b", "c"] : List Str) := by
  induction h with
  | term h => exact h
  | rule _ _ _ ih => exact ih
theorem fd_mem {rules : List (Str × List Str)} {n f : Str} (h : FD rules n f) : f ∈ (["a", "b", "c", sEMP] : List Str) := by
  rcases h with ⟨rfl, _⟩ | ⟨_, h⟩
  · simp
  · have := fir_term h
    simp only [List.mem_cons, List.not_mem_nil, or_false] at this ⊢
    rcases this with q | q | q <;> simp [q]
theorem fd_rule {rules : List (Str × List Str)} {n f : Str} {b : List Str} (hr : (n, b) ∈ rules) (h : FirstOf (FD rules) b f) : FD rules n f := by
  rcases h with ⟨pre, x, post, rfl, h1, h2, h3⟩ | ⟨h1, h2⟩
  · refine .inr ⟨h3, .rule hr (fun y hy => ?_) ?_⟩
    · rcases h1 y hy with q | q
      · exact q.2
      · exact absurd rfl q.1
    · rcases h2 with q | q
      · exact absurd q.1 h3
      · exact q.2
  · refine .inl ⟨h1, .mk hr fun y hy => ?_⟩
    rcases h2 y hy with q | q
    · exact q.2
    · exact absurd rfl q.1
theorem fd_least {rules : List (Str × List Str)} {C : Str → Str → Prop} (ht : ∀ t ∈ (["a", "b", "c"] : List Str), C t t) (hc : ∀ n b f, (n, b) ∈ rules → FirstOf C b f → C n f) {n f : Str} (h : FD rules n f) : C n f := by
  have he : ∀ n, Emp rules n → C n sEMP := fun n h => by
    induction h with
    | mk hr _ ih => exact hc _ _ _ hr (.inr ⟨rfl, ih⟩)
  rcases h with ⟨rfl, h⟩ | ⟨hf, h⟩
  · exact he n h
  · induction h with
    | term h => exact ht _ h
    | rule hr hp _ ih => exact hc _ _ _ hr (.inl ⟨_, _, _, rfl, fun y hy => he y (hp y hy), ih hf, hf⟩)
inductive Fol (rules : List (Str × List Str)) : Str → Str → Prop
  | fin : Fol rules "S" "$end"
  | first {n b f : Str} {pre rest : List Str} : (n, pre ++ b :: rest) ∈ rules → FirstOf (FD rules) rest f → f ≠ sEMP → Fol rules b f
  | up {n b f : Str} {pre rest : List Str} : (n, pre ++ b :: rest) ∈ rules → (∀ y ∈ rest, Emp rules y) → Fol rules n f → Fol rules b f
noncomputable def sENDS : List Str := ["$end", "a", "b", "c"]
theorem firstOf_mem {rules : List (Str × List Str)} {b : List Str} {f : Str} (h : FirstOf (FD rules) b f) (hf : f ≠ sEMP) : f ∈ (["a", "b", "c"] : List Str) := by
  rcases h with ⟨pre, x, post, rfl, h1, h2, h3⟩ | ⟨h1, h2⟩
  · rcases h2 with q | q
    · exact absurd q.1 hf
    · exact fir_term q.2
  · exact absurd h1 hf
theorem fol_mem {rules : List (Str × List Str)} {b f : Str} (h : Fol rules b f) : f ∈ sENDS := by
  induction h with
  | fin => exact .head _
  | first _ h hf => exact .tail _ (firstOf_mem h hf)
  | up _ _ _ ih => exact ih
noncomputable def CloAt (CF C : Str → List Str) (r : Str × List Str) (i : Nat) : Prop :=
  ∀ B, r.2[i]? = some B → B ∈ sNAMES → (∀ f ∈ firstF CF [] (r.2.drop (i + 1)), f ≠ sEMP → f ∈ C B) ∧ (sEMP ∈ firstF CF [] (r.2.drop (i + 1)) → ∀ f ∈ C r.1, f ∈ C B)
theorem split_at {l pre rest : List Str} {b : Str} (h : l = pre ++ b :: rest) : l[pre.length]? = some b ∧ l.drop (pre.length + 1) = rest := by
  subst h
  constructor
  · rw [List.getElem?_append_right (Nat.le_refl _), Nat.sub_self]; rfl
  · rw [show pre ++ b :: rest = (pre ++ [b]) ++ rest by simp, List.drop_left' (by simp)]
theorem of_at {l : List Str} {i : Nat} {b : Str} (h : l[i]? = some b) : l = l.take i ++ b :: l.drop (i + 1) := by
  obtain ⟨_, h1, _⟩ := drop_at h
  rw [← h1, List.take_append_drop]
theorem fol_least {rules : List (Str × List Str)} {CF C : Str → List Str} (hok : ∀ r ∈ rules, RuleOk r) (hCF : ∀ y ∈ sSYMS, ∀ f, f ∈ CF y ↔ FD rules y f) (hS : ("$end" : Str) ∈ C "S") (hc : ∀ r ∈ rules, ∀ i, CloAt CF C r i) :
    ∀ {b f : Str}, Fol rules b f → b ∈ sNAMES → f ∈ C b := by
  intro b f h
  have hmem : ∀ {n : Str} {l rest pre : List Str} {b : Str} {f : Str}, (n, pre ++ b :: rest) ∈ rules → FirstOf (FD rules) rest f → f ∈ firstF CF [] rest := fun {n l rest pre b f} hr h =>
    mem_first.mpr (h.mono fun y hy g hg => (hCF y ((hok _ hr).2.2 y (List.mem_append_right _ (.tail _ hy))) g).mpr hg)
  induction h with
  | fin => intro _; exact hS
  | @first n b f pre rest hr h hf =>
    intro hb
    obtain ⟨e1, e2⟩ := split_at (l := pre ++ b :: rest) rfl
    refine (hc _ hr pre.length b e1 hb).1 f ?_ hf
    show f ∈ firstF CF [] ((pre ++ b :: rest).drop (pre.length + 1))
    rw [e2]; exact hmem (l := []) hr h
  | @up n b f pre rest hr h _ ih =>
    intro hb
    obtain ⟨e1, e2⟩ := split_at (l := pre ++ b :: rest) rfl
    refine (hc _ hr pre.length b e1 hb).2 ?_ f (ih (hok _ hr).1)
    show sEMP ∈ firstF CF [] ((pre ++ b :: rest).drop (pre.length + 1))
    rw [e2]; exact hmem (l := []) hr (.inr ⟨rfl, fun y hy => .inl ⟨rfl, h y hy⟩⟩)
theorem fol_first {rules : List (Str × List Str)} {CF : Str → List Str} (hok : ∀ r ∈ rules, RuleOk r) (hCF : ∀ y ∈ sSYMS, ∀ f, f ∈ CF y ↔ FD rules y f) {r : Str × List Str} {i : Nat} {b f : Str} (hr : r ∈ rules) (hi : r.2[i]? = some b) (hf : f ∈ firstF CF [] (r.2.drop (i + 1))) (h : f ≠ sEMP) : Fol rules b f := by
  have e := of_at hi
  have hr' : (r.1, r.2.take i ++ b :: r.2.drop (i + 1)) ∈ rules := by rw [← e]; exact hr
  exact .first hr' ((mem_first.mp hf).mono fun y hy g hg => (hCF y ((hok _ hr).2.2 y (List.mem_of_mem_drop hy)) g).mp hg) h
theorem fol_up {rules : List (Str × List Str)} {CF : Str → List Str} (hok : ∀ r ∈ rules, RuleOk r) (hCF : ∀ y ∈ sSYMS, ∀ f, f ∈ CF y ↔ FD rules y f) {r : Str × List Str} {i : Nat} {b f : Str} (hr : r ∈ rules) (hi : r.2[i]? = some b) (he : sEMP ∈ firstF CF [] (r.2.drop (i + 1))) (hf : Fol rules r.1 f) : Fol rules b f := by
  have e := of_at hi
  have hr' : (r.1, r.2.take i ++ b :: r.2.drop (i + 1)) ∈ rules := by rw [← e]; exact hr
  refine .up hr' (fun y hy => ?_) hf
  rcases mem_first.mp he with ⟨_, _, _, _, _, _, h3⟩ | ⟨_, h2⟩
  · exact absurd rfl h3
  · rcases (hCF y ((hok _ hr).2.2 y (List.mem_of_mem_drop hy)) _).mp (h2 y hy) with q | q
    · exact q.2
    · exact absurd rfl q.1
theorem under_make {A : Around} {C : Addr} {rest : List Value} {kw : List (Str × Value)} : A.under (.builtin "type.__call__" ⟨.ref C :: rest, kw⟩) = { A with depth := A.depth + 1, units := A.units + 1 } := by
  obtain ⟨a, b, c, d, e⟩ := A
  cases c <;> cases d <;> with_unfolding_all rfl
theorem make_A {prog : Program} {w : World} {A : Around} {K : Frag} {C : Addr} {s : Shared} {h₀ : Heap} {L : Addr} {m : Str → Option Value} {news : List (Addr × Obj)} {R : Result → Shared → Prop} {rest : List Value} {kw : List (Str × Value)} {fI : Addr} (F : Fr h₀ L s.heap m) (N : News h₀ L s.heap news) (X : K.In s.heap) (hm : makesIn K C = true)
    (hi : findIn K (.ref C) "__init__" = some (some (.ref fI))) (hf : typeIn K (.ref fI) = some (.type "function"))
    (h : ∀ x dx h', Fr h₀ L h' m → News h₀ L h' ((x, instObj C dx) :: (dx, dictOf [] 0) :: news) → (∀ p ∈ news, p.1 < dx) → dx < x →
      codeAny (model prog w) { A with depth := A.depth + 1, units := A.units + 1 } (.call (.ref fI) ⟨.ref x :: rest, kw⟩) (InitBack x R) { s with heap := h' }) :
    codeAny (model prog w) A (.call (.ref C) ⟨rest, kw⟩) R s :=
  make_K F N X hm hi hf fun x dx h' F N l1 l2 => by
    rw [under_make]; exact h x dx h' F N l1 l2
theorem after_init {g h h' : Heap} {L xp dp D : Addr} {ox od o' oD : Obj} {m : Str → Option Value} {news : List (Addr × Obj)} (F : Fr g L h m) (N : News g L h ((xp, ox) :: (dp, od) :: news)) (lx : ∀ p ∈ news, @LT.lt Nat _ p.1 dp) (ld : @LT.lt Nat _ dp xp)
    (k : Kp [dp] h h') (e : h'.get? dp = some o') (hD : h'.get? D = some oD) (hn : h.get? D = none) :
    Fr g L h' m ∧ News g L h' ((D, oD) :: (xp, ox) :: (dp, o') :: news) ∧ (∀ p ∈ (xp, ox) :: (dp, o') :: news, D ≠ p.1) := by
  have zd := N (dp, od) (.tail _ (.head _))
  obtain ⟨oL, _, _, hL, _⟩ := id F.ns
  have hne : ∀ {a o}, h.get? a = some o → D ≠ a := fun e q => by rw [q, e] at hn; cases hn
  refine ⟨Fr_kp F k (fun q => zd.2.1 (List.mem_singleton.mp q).symm) (fun a ha => (List.mem_singleton.mp ha) ▸ zd.2.2), ?_, ?_⟩
  · intro p hp
    rcases List.mem_cons.mp hp with rfl | hp
    · refine ⟨hD, hne hL, ?_⟩
      cases q : g.get? D with
      | none => rfl
      | some o => exact absurd (F.keep _ _ q) (by rw [hn]; exact fun e => nomatch e)
    · rcases List.mem_cons.mp hp with rfl | hp
      · have z := N (xp, ox) (.head _)
        exact ⟨k _ _ (fun q => absurd ld (by have q : xp = dp := List.mem_singleton.mp q; rw [q]; exact Nat.lt_irrefl _)) z.1, z.2⟩
      · rcases List.mem_cons.mp hp with rfl | hp
        · exact ⟨e, zd.2⟩
        · have z := N p (.tail _ (.tail _ hp))
          exact ⟨k _ _ (fun q => absurd (lx p hp) (by rw [List.mem_singleton.mp q]; exact Nat.lt_irrefl _)) z.1, z.2⟩
  · intro p hp
    rcases List.mem_cons.mp hp with rfl | hp
    · exact hne (N _ (.head _)).1
    · rcases List.mem_cons.mp hp with rfl | hp
      · exact hne zd.1
      · exact hne (N p (.tail _ (.tail _ hp))).1
section
variable {prog : Program} {w : World} {A₀ : Around} {E : Value → Shared → Prop} {s' : Shared} {g : Heap} {L a e : Addr} {m : Str → Option Value} {name : Str} {scope : Scope} {cd : Value} {news : List (Addr × Obj)}
  {b₀ : Stmt} {suite : List Stmt} {pos np : Pos} {rest : List ExceptHandler} {Q : Flow → Shared → Prop} {X T' : String} {x : Str} {p : Program} {loose : List Str} {mg mb : Str → Option Value} {K : Frag}
theorem clause_hitK {fl : Value} (H : TT.HeldNA g L s'.heap m e X news fl) (XK : K.In g) (T : TopRead p loose mg mb g) (ex : nsIn K mainGlobals x = some none) (hv : bootBuiltins x = some (.type T'))
    (hexc : isSubtype (.type T') (.type "BaseException") = pure true) (hnt : isSubtype (.type ((Manifest.find? T').elim "type" fun y => y.metatype)) (.type "tuple") = pure false) (hsub : isSubtype (.type X) (.type T') = pure true)
    (k : ∀ h', Fr g L h' m → News g L h' news → wpAny (model prog w) ((A₀.deeper (envOf name scope L a cd)).mark (some (.ref e))) (execs (b₀ :: suite) (envOf name scope L a cd)) Q E { s' with heap := h' })
    (hn : x ≠ "__name__" := by decide) (hk : scope.kind = .function := by rfl) (hxk : (envOf name scope L a cd).kindOf x = some .globalImplicit := by rfl) (hdb : (x == ("__debug__" : Str)) = false := by decide)
    (hE : PassesOwnAt (model prog w) ((A₀.deeper (envOf name scope L a cd)).mark (some (.ref e))) (A₀.deeper (envOf name scope L a cd)) (envOf name scope L a cd) E := by passes_own) :
    wpAny (model prog w) (A₀.deeper (envOf name scope L a cd)) (handleBy (.ref e) (envOf name scope L a cd) (.ExceptHandler (some (.Name x np)) none (b₀ :: suite) pos :: rest)) Q E s' := by
  refine wpAny_handleBy_builtin (X := X) (T := T') (b := true) hexc hnt hsub ?_
  refine Name_function_global hk hxk (loadGlobal_builtin (env := envOf name scope L a cd) (T.keeps H.held.fr.keep).g (mg_none_of XK T.g ex) (T.keeps H.held.fr.keep).b ((T.builtins x hn).trans hv) ⟨rfl, H.isA, ?_⟩) hdb
  rw [if_pos rfl]
  exact H.lands fun h' F' N' => wpAny_passesOwnAt hE (k h' F' N')
end
theorem gen_dict {prog : Program} {w : World} {K : Type} [DecidableEq K] {knd : KeyKind prog w K} {o : Obj} {kvs : List (K × Value)} {G : Prop} (_h : o.IsDictOf knd kvs) (k : ∀ o', o' = o → G) : G := k o rfl
theorem allNe_of {Lw : Addr} : ∀ {l : List (Addr × Obj)}, (∀ p ∈ l, p.1 ≠ Lw) → TLg.AllNe Lw l
  | [], _ => trivial
  | p :: l, h => ⟨h p (.head _), allNe_of fun q hq => h q (.tail _ hq)⟩
inductive StepEnd (g : Heap) (L : Addr) (Jn : (Str → Option Value) → List (Addr × Obj) → List (Addr × Obj) → Prop) (adr : List Addr) (ext own : List (Addr × Obj)) (s₁ s₂ : Shared) : Prop
  | mk (h' tk' m' news' nw) (h1 : s₂ = { s₁ with heap := h', toks := tk' }) (h2 : Fr g L h' m') (h3 : News g L h' (news' ++ (nw ++ (ext ++ own)))) (h4 : news'.map (·.1) = adr) (h5 : ∀ p ∈ nw, p.1 ∉ adr ∧ ∀ q ∈ own, q.1 ≠ p.1) (h6 : Jn m' news' (nw ++ ext)) : StepEnd g L Jn adr ext own s₁ s₂
noncomputable def StepJ (g : Heap) (L : Addr) (Jn : (Str → Option Value) → List (Addr × Obj) → List (Addr × Obj) → Prop) (adr : List Addr) (ext own : List (Addr × Obj)) (s₁ : Shared) (Q : Flow → Shared → Prop) (f : Flow) (s₂ : Shared) : Prop :=
  match f with
  | .ret v => Q (.ret v) s₂
  | .brk => Q .next s₂
  | _ => StepEnd g L Jn adr ext own s₁ s₂
section
variable {g : Heap} {L : Addr} {Jn : (Str → Option Value) → List (Addr × Obj) → List (Addr × Obj) → Prop} {adr : List Addr} {ext own news₀ : List (Addr × Obj)} {s₁ s₂ : Shared} {Q : Flow → Shared → Prop}
theorem StepJ.at {s : Shared} {h h' : Heap} {t t' : Nat} {f : Flow} (z : StepJ g L Jn adr ext own { s with heap := h, toks := t } Q f s₂) : StepJ g L Jn adr ext own { s with heap := h', toks := t' } Q f s₂ :=
  match f, z with
  | .ret _, z => z
  | .brk, z => z
  | .cont, ⟨a, b, c, d, e, f, g, h, i, j, k⟩ => ⟨a, b, c, d, e, f, g, h, i, j, k⟩
  | .next, ⟨a, b, c, d, e, f, g, h, i, j, k⟩ => ⟨a, b, c, d, e, f, g, h, i, j, k⟩
theorem StepJ.next (h : StepEnd g L Jn adr ext own s₁ s₂) : StepJ g L Jn adr ext own s₁ Q .next s₂ := h
theorem StepJ.cont (h : StepEnd g L Jn adr ext own s₁ s₂) : StepJ g L Jn adr ext own s₁ Q .cont s₂ := h
theorem StepEnd.same {h' : Heap} {tk' : Nat} {m' : Str → Option Value} (news' : List (Addr × Obj)) (F : Fr g L h' m') (N : News g L h' news₀) (hs : ∀ p ∈ news' ++ (ext ++ own), p ∈ news₀) (ha : news'.map (·.1) = adr) (hj : Jn m' news' ext) :
    StepEnd g L Jn adr ext own s₁ { s₁ with heap := h', toks := tk' } := ⟨h', tk', m', news', [], rfl, F, fun p hp => N p (hs p hp), ha, (fun _ q => absurd q List.not_mem_nil), hj⟩
theorem StepEnd.more {h' : Heap} {tk' : Nat} {m' : Str → Option Value} (news' nw : List (Addr × Obj)) (F : Fr g L h' m') (N : News g L h' news₀) (hs : ∀ p ∈ news' ++ (nw ++ (ext ++ own)), p ∈ news₀) (ha : news'.map (·.1) = adr)
    (hn : ∀ p ∈ nw, p.1 ∉ adr ∧ ∀ q ∈ own, q.1 ≠ p.1) (hj : Jn m' news' (nw ++ ext)) :
    StepEnd g L Jn adr ext own s₁ { s₁ with heap := h', toks := tk' } := ⟨h', tk', m', news', nw, rfl, F, fun p hp => N p (hs p hp), ha, hn, hj⟩
end

section
variable {prog : Program} {w : World} {A : Around} {env : Env}

theorem turnsName {x : Str} {px : Pos} {I : Addr} {fp wr : List Addr} {n : Nat} {P : Nat → Value → Prop} {St : Nat → Heap → Prop} (W : Walks prog w A I fp wr n P St) :
    KTurns prog w A (.Name x px) I fp wr n (fun i v _ => P i v) (fun i v h => P i v ∧ St (i + 1) h) St :=
  KTurns.ofWalks W fun _ v _ _ _ _ q => wpAny_of_eq (show letOwnedTupleGo (.Name x px) (.ref I) v = pure () from rfl) q
theorem turnsPairs {elts : List Expr} {x1 : Nat} {pos : Pos} {I l : Addr} {items : Array Value} (W : Walks prog w A I [I, l] [I] items.size (fun i v => items[i]? = some v) (fun i h => h.IsListIter I l i ∧ h.IsList l items)) (hr : ∀ v ∈ items, ∃ a, v = .ref a) :
    KTurns prog w A (.Tuple elts x1 pos) I [I, l] [I] items.size (fun i v _ => items[i]? = some v) (fun i v h => items[i]? = some v ∧ h.IsListIter I l (i + 1) ∧ h.IsList l items) (fun i h => h.IsListIter I l i ∧ h.IsList l items) :=
  ⟨W.sub, W.frame, fun i s Q E hi st q => W.item i s Q E hi st fun v h' tk a b => q v h' tk ⟨a, b⟩, fun i v s Q E m q => by
    obtain ⟨a, rfl⟩ := hr v (Array.mem_of_getElem? m.1)
    exact wpAny_letOwnedTupleGo_listiter m.2.1 (q s.heap m.1 m.2 fun _ _ _ e => e), W.done⟩
theorem turnsT {elts : List Expr} {x1 : Nat} {pos : Pos} {I : Addr} {fp wr : List Addr} {n : Nat} {Pt : Nat → Array Value → Prop} {St : Nat → Heap → Prop} {Mid : Nat → Addr → Heap → Prop} (W : WalksT prog w A I fp wr n Pt St Mid)
    (hT : ∀ i T h, Mid i T h → T ∉ wr) :
    KTurns prog w A (.Tuple elts x1 pos) I fp wr n (fun i v h => ∃ T vals, v = .ref T ∧ Pt i vals ∧ h.IsTuple T vals) (fun i v h => ∃ T vals, v = .ref T ∧ Pt i vals ∧ h.IsTuple T vals ∧ Mid i T h) St :=
  ⟨W.sub, W.frame, fun i s Q E hi st q => W.item i s Q E hi st fun T vals h' tk a _ b c => q _ h' tk ⟨T, vals, rfl, a, b, c⟩, fun i v s Q E m q => by
    obtain ⟨T, vals, rfl, hp, ht, hm⟩ := m
    exact W.go elts x1 pos i T s Q E hm fun h' st k => q h' ⟨T, vals, rfl, hp, ht.at fun o => k _ o (hT i T _ hm)⟩ st k, W.done⟩
inductive StJ (wr : List Addr) (n : Nat) (St : Nat → Heap → Prop) (adr : List Addr) (g : Heap) (L : Addr) (s : Shared) (J : Nat → (Str → Option Value) → List (Addr × Obj) → List (Addr × Obj) → Prop) (k : Nat) (s' : Shared) : Prop
  | mk (h' tk m' news' ext' i) (h1 : s' = { s with heap := h', toks := tk }) (h2 : St i h') (h3 : Fr g L h' m') (h4 : News g L h' (news' ++ ext')) (h5 : news'.map (·.1) = adr) (h6 : ∀ p ∈ ext', p.1 ∉ adr ∧ p.1 ∉ wr) (h7 : J i m' news' ext') (h8 : i ≤ n) (h9 : k = n + 1 - i) : StJ wr n St adr g L s J k s'
theorem forLoop_J {R : Result → Shared → Prop} {s : Shared} {target : Expr} {body orelse : List Stmt} {I : Addr} {fp wr : List Addr} {n : Nat} {P Mid : Nat → Value → Heap → Prop} {St : Nat → Heap → Prop} {m : Str → Option Value} {g : Heap}
    {news ext : List (Addr × Obj)} {adr : List Addr} (W : KTurns prog w A target I fp wr n P Mid St) (hex : ∀ i h, St i h → ∀ b ∈ wr, ∃ o, h.get? b = some o)
    (hLf : env.locals ∉ fp) (hwr : ∀ b ∈ wr, g.get? b = none) (hfa : ∀ b ∈ fp, b ∉ adr) (hadr : news.map (·.1) = adr) (hext : ∀ p ∈ ext, p.1 ∉ adr ∧ p.1 ∉ wr)
    (hst : St 0 s.heap) (F : Fr g env.locals s.heap m) (N : News g env.locals s.heap (news ++ ext))
    (J : Nat → (Str → Option Value) → List (Addr × Obj) → List (Addr × Obj) → Prop) (h0 : J 0 m news ext)
    (turn : ∀ ext own i v m₁ news₁ s₁, (∃ h tk, s₁ = { s with heap := h, toks := tk }) → i < n → P i v s₁.heap → J i m₁ news₁ ext → news₁.map (·.1) = adr → OwnOff (ext ++ own) adr → (∀ p ∈ own, p.1 ∈ fp) → (∀ b ∈ wr, ∃ o, (b, o) ∈ own) → St (i + 1) s₁.heap →
      Fr g env.locals s₁.heap m₁ → News g env.locals s₁.heap (news₁ ++ (ext ++ own)) →
      wpAny (model prog w) A (assign target env v) (fun _ s₂ =>
        wpAny (model prog w) A (execs body env) (StepJ g env.locals (J (i + 1)) adr ext own s₁ fun f s' => R (.ok f) s') (notedBy (model prog w) A env fun e s' => R (.error e) s') s₂)
          (notedBy (model prog w) A env fun e s' => R (.error e) s') s₁)
    (done : ∀ h tk m₁ news₁ ext, J n m₁ news₁ ext → news₁.map (·.1) = adr → OwnOff ext adr → Fr g env.locals h m₁ → News g env.locals h (news₁ ++ ext) →
      wpAny (model prog w) A (execs orelse env) (fun f s₃ => R (.ok f) s₃) (notedBy (model prog w) A env fun e s' => R (.error e) s') { s with heap := h, toks := tk }) :
    codeAny (model prog w) A (.forLoop target (.ref I) body orelse env) R s := by
  have hLw : env.locals ∉ wr := fun h => hLf (W.sub _ h)
  refine codeAny_forLoop_any
    (StJ wr n St adr g env.locals s J) ?_ (n + 1)
    ⟨s.heap, s.toks, m, news, ext, 0, rfl, hst, F, N, hadr, hext, h0, Nat.zero_le _, rfl⟩
  rintro k s' ⟨h', tk, m', news', ext', i, rfl, hst', F', N', ha', hext', hJ, hi, rfl⟩
  have next : ∀ h₁ : Heap, (∀ b o, b ∉ wr → h'.get? b = some o → h₁.get? b = some o) → Fr g env.locals h₁ m' ∧ News g env.locals h₁ (news' ++ ext') := fun h₁ hk₁ =>
    ⟨Fr_kp F' hk₁ hLw hwr, News_kp N' hk₁ fun p hp => (List.mem_append.mp hp).elim (fun hp q => hfa _ (W.sub _ q) (ha' ▸ List.mem_map_of_mem hp)) fun hp => (hext' p hp).2⟩
  by_cases hlt : i < n
  · refine W.item i _ _ _ hlt hst' fun v h₀ tk₁ hM₀ hk₀ => ?_
    refine W.go i v _ _ _ hM₀ fun h₁ hP hst₁ hk₁' => ?_
    have hk₁ : ∀ b o, b ∉ wr → h'.get? b = some o → h₁.get? b = some o := fun b o hb e => hk₁' b o hb (hk₀ b o hb e)
    obtain ⟨F₁, N₁⟩ := next h₁ hk₁
    have Nown : News g env.locals h₁ (PyProof.Rows.ownOf g fp h₁) := news_ownOf hLf
    have hoff : OwnOff (ext' ++ PyProof.Rows.ownOf g fp h₁) adr := fun p hp b hb e => (List.mem_append.mp hp).elim (fun hp => (hext' p hp).1 (e ▸ hb)) fun hp => hfa _ (ownOf_sub p hp) (e ▸ hb)
    have N₁' : News g env.locals h₁ (news' ++ (ext' ++ PyProof.Rows.ownOf g fp h₁)) := by
      rw [← List.append_assoc]; exact N₁.append Nown
    have hbo : ∀ b ∈ wr, ∃ o, (b, o) ∈ PyProof.Rows.ownOf g fp h₁ := fun b hb => by
      obtain ⟨o, ho⟩ := hex _ _ hst₁ b hb
      exact ⟨o, mem_ownOf (W.sub _ hb) (hwr b hb) ho⟩
    refine wpAny_mono (turn ext' (PyProof.Rows.ownOf g fp h₁) i v m' news' { s with heap := h₁, toks := tk₁ } ⟨_, _, rfl⟩ hlt hP hJ ha' hoff ownOf_sub hbo hst₁ F₁ N₁') (fun _ s₂ h₂ => wpAny_mono h₂ (fun f s₃ h₃ => ?_) fun _ _ x => x) fun _ _ x => x
    have fin : StepEnd g env.locals (J (i + 1)) adr ext' (PyProof.Rows.ownOf g fp h₁) { s with heap := h₁, toks := tk₁ } s₃ → ∃ m, m < n + 1 - i ∧ StJ wr n St adr g env.locals s J m s₃ := by
      rintro ⟨h₃', tk₃, m₂, news₂, nw, rfl, F₃, N₃, ha₃, hnw, hJ₃⟩
      refine ⟨n + 1 - (i + 1), by omega, h₃', tk₃, m₂, news₂, nw ++ ext', i + 1, rfl, ?_, F₃, fun p hp => N₃ p ?_, ha₃, fun p hp => ?_, hJ₃, hlt, rfl⟩
      · refine W.frame _ _ _ hst₁ fun b hb o e => ?_
        cases hn : g.get? b with
        | some o₀ =>
          have e' := F₁.keep b o₀ hn
          rw [e] at e'
          cases e'
          exact F₃.keep b _ hn
        | none => exact (N₃ _ (List.mem_append_right _ (List.mem_append_right _ (List.mem_append_right _ (mem_ownOf hb hn e))))).1
      · rcases List.mem_append.mp hp with hp | hp
        · exact List.mem_append_left _ hp
        · rcases List.mem_append.mp hp with hp | hp
          · exact List.mem_append_right _ (List.mem_append_left _ hp)
          · exact List.mem_append_right _ (List.mem_append_right _ (List.mem_append_left _ hp))
      · rcases List.mem_append.mp hp with hp | hp
        · refine ⟨(hnw p hp).1, fun q => ?_⟩
          obtain ⟨o, ho⟩ := hbo _ q
          exact (hnw p hp).2 _ ho rfl
        · exact hext' p hp
    cases f with
    | ret v => exact h₃
    | brk => exact h₃
    | cont => exact fin h₃
    | next => exact fin h₃
  · have hin : i = n := by omega
    subst hin
    refine W.done _ _ _ hst' fun h₁ tk₁ hk₁ => ?_
    obtain ⟨F₁, N₁⟩ := next h₁ hk₁
    exact done h₁ tk₁ m' news' ext' hJ ha' (fun p hp b hb e => (hext' p hp).1 (e ▸ hb)) F₁ N₁

inductive LoopJ (prog : Program) (w : World) (A : Around) (g : Heap) (env : Env) (target : Expr) (body orelse : List Stmt) (Q : Flow → Shared → Prop) (E : Value → Shared → Prop) (it : Value) (s₂ : Shared) : Prop
  | mk (I : Addr) (fp wr : List Addr) (n : Nat) (P Mid : Nat → Value → Heap → Prop) (St : Nat → Heap → Prop) (m : Str → Option Value) (news ext : List (Addr × Obj)) (adr : List Addr) (J : Nat → (Str → Option Value) → List (Addr × Obj) → List (Addr × Obj) → Prop)
    (h1 : it = .ref I) (h2 : KTurns prog w A target I fp wr n P Mid St) (h3 : ∀ i h, St i h → ∀ b ∈ wr, ∃ o, h.get? b = some o) (h4 : env.locals ∉ fp) (h5 : ∀ b ∈ wr, g.get? b = none) (h6 : ∀ b ∈ fp, b ∉ adr) (h7 : news.map (·.1) = adr) (h8 : ∀ p ∈ ext, p.1 ∉ adr ∧ p.1 ∉ wr)
    (h9 : St 0 s₂.heap) (h10 : Fr g env.locals s₂.heap m) (h11 : News g env.locals s₂.heap (news ++ ext)) (h12 : J 0 m news ext)
    (h13 : ∀ ext own i v m₁ news₁ s₁, (∃ h tk, s₁ = { s₂ with heap := h, toks := tk }) → i < n → P i v s₁.heap → J i m₁ news₁ ext → news₁.map (·.1) = adr → OwnOff (ext ++ own) adr → (∀ p ∈ own, p.1 ∈ fp) → (∀ b ∈ wr, ∃ o, (b, o) ∈ own) → St (i + 1) s₁.heap →
      Fr g env.locals s₁.heap m₁ → News g env.locals s₁.heap (news₁ ++ (ext ++ own)) →
      wpAny (model prog w) A (assign target env v) (fun _ s₂ =>
        wpAny (model prog w) A (execs body env) (StepJ g env.locals (J (i + 1)) adr ext own s₁ Q) E s₂) E s₁)
    (h14 : ∀ h tk m₁ news₁ ext, J n m₁ news₁ ext → news₁.map (·.1) = adr → OwnOff ext adr → Fr g env.locals h m₁ → News g env.locals h (news₁ ++ ext) → wpAny (model prog w) A (execs orelse env) Q E { s₂ with heap := h, toks := tk }) :
    LoopJ prog w A g env target body orelse Q E it s₂

theorem For_J {E : Value → Shared → Prop} {Q : Flow → Shared → Prop} {s : Shared} {target iter : Expr} {pos : Pos} {body orelse : List Stmt} (g : Heap) (hE : PassesOwn (model prog w) A env E)
    (h : wpAny (model prog w) A (eval iter env) (fun xv s₁ => wpAny (model prog w) A (pyIter xv) (fun it s₂ => LoopJ prog w A g env target body orelse Q E it s₂) E s₁) E s)
    (hs : ∀ x, foldedSetIterable iter env x = pure x) :
    wpAny (model prog w) A (exec (.For target iter body orelse pos) env) Q E s := by
  refine wpAny_For (wpAny_mono h (fun xv s₁ h₁ => wpAny_mono h₁ (fun it s₂ h₂ => ?_) fun _ _ e => e) fun _ _ e => e) hs
  obtain ⟨I, fp, wr, n, P, Mid, St, m, news, ext, adr, J, rfl, W, hex, hLf, hwr, hfa, hadr, hext, hst, F, N, h0, turn, done⟩ := h₂
  refine forLoop_J (R := fun r s' => match r with | .ok f => Q f s' | .error e => cameBackBy (model prog w) A env E e s') W hex hLf hwr hfa hadr hext hst F N J h0 ?_ ?_
  · intro ext own i v m₁ news₁ s₁ a1 a2 a3 a4 a5 a6 a7 a8 a9 a10 a11
    refine wpAny_passesOwn hE (wpAny_mono (turn ext own i v m₁ news₁ s₁ a1 a2 a3 a4 a5 a6 a7 a8 a9 a10 a11) (fun _ s₁' h₁' => ?_) fun _ _ x => x)
    exact wpAny_passesOwn hE h₁'
  · intro h tk m₁ news₁ ext a1 a2 a3 a4 a5
    exact wpAny_passesOwn hE (done h tk m₁ news₁ ext a1 a2 a3 a4 a5)

theorem For_JF {E : Value → Shared → Prop} {Q : Flow → Shared → Prop} {s : Shared} {target iter : Expr} {pos : Pos} {body orelse : List Stmt} {g : Heap} {m : Str → Option Value} (_F : Fr g env.locals s.heap m) (hE : PassesOwn (model prog w) A env E)
    (hs : ∀ x, foldedSetIterable iter env x = pure x)
    (h : wpAny (model prog w) A (eval iter env) (fun xv s₁ => wpAny (model prog w) A (pyIter xv) (fun it s₂ => LoopJ prog w A g env target body orelse Q E it s₂) E s₁) E s) :
    wpAny (model prog w) A (exec (.For target iter body orelse pos) env) Q E s := For_J g hE h hs

theorem name_J {E : Value → Shared → Prop} {s : Shared} {x : Str} {px : Pos} {v : Value} {g₁ : Heap} {m₁ : Str → Option Value} {news : List (Addr × Obj)} {Q : Shared → Prop} (F : Fr g₁ env.locals s.heap m₁) (N : News g₁ env.locals s.heap news)
    (hx : env.kindOf x = some .local) (hp : (env.scope.kind == .class || (env.scope.kind == .module && env.locals != env.globals)) = false)
    (h : ∀ h' tk, Fr g₁ env.locals h' (fun y => if y = x then some v else m₁ y) → News g₁ env.locals h' news → Q { s with heap := h', toks := tk }) :
    wpAny (model prog w) A (assign (.Name x px) env v) (fun _ s₂ => Q s₂) E s :=
  wpAny_assign_Name (wpAny_storeName_local hx F.ns (fun h₂ hn₂ hs₂ => h h₂ _ (F.set hn₂ hs₂) (N.set hs₂)) hp)
theorem pair_J {E : Value → Shared → Prop} {s : Shared} {x y : Str} {px py pos : Pos} {x1 : Nat} {a : Addr} {v1 v2 : Value} {g₁ : Heap} {m₁ : Str → Option Value} {news : List (Addr × Obj)} {Q : Shared → Prop} (hh : A.handled = none) (F : Fr g₁ env.locals s.heap m₁) (N : News g₁ env.locals s.heap news)
    (ht : s.heap.IsTuple a #[v1, v2])
    (hx : env.kindOf x = some .local) (hy : env.kindOf y = some .local) (hp : (env.scope.kind == .class || (env.scope.kind == .module && env.locals != env.globals)) = false)
    (h : ∀ h' tk, Fr g₁ env.locals h' (fun z => if z = y then some v2 else if z = x then some v1 else m₁ z) → News g₁ env.locals h' news → Q { s with heap := h', toks := tk }) :
    wpAny (model prog w) A (assign (.Tuple [.Name x px, .Name y py] x1 pos) env (.ref a)) (fun _ s₂ => Q s₂) E s := by
  refine wpAny_assign_Tuple hh ht rfl rfl fun h' hb => ?_
  have up : ∀ b o, s.heap.get? b = some o → h'.get? b = some o := fun b o e => hb b o (Nat.ne_of_lt (Heap.lt_size e)) e
  have F' : Fr g₁ env.locals h' m₁ := ⟨F.ns.at' fun o e => up _ _ e, fun b o e => up b o (F.keep b o e), F.above⟩
  have N' : News g₁ env.locals h' news := fun p hp => ⟨up _ _ (N p hp).1, (N p hp).2⟩
  refine PyProof.Rows.assignInOrder_cons ?_
  show wpAny _ _ (assign (.Name x px) env v1) _ _ _
  refine name_J F' N' hx hp fun h₂ tk₂ F₂ N₂ => ?_
  refine PyProof.Rows.assignInOrder_cons ?_
  show wpAny _ _ (assign (.Name y py) env v2) _ _ _
  refine name_J F₂ N₂ hy hp fun h₃ tk₃ F₃ N₃ => ?_
  exact PyProof.Rows.assignInOrder_nil (h h₃ tk₃ F₃ N₃)

theorem iter_gen {E : Value → Shared → Prop} {Q : Flow → Shared → Prop} {s : Shared} {target : Expr} {body orelse : List Stmt} {g : Heap} {a : Addr} {o : Obj} {n : Nat} {P Mid : Nat → Value → Heap → Prop} {St : Nat → Heap → Prop} {m : Str → Option Value} {news ext : List (Addr × Obj)}
    (J : Nat → (Str → Option Value) → List (Addr × Obj) → List (Addr × Obj) → Prop)
    (W : KTurns prog w A target s.heap.objs.size [s.heap.objs.size, a] [s.heap.objs.size] n P Mid St) (hex : ∀ i h, St i h → ∃ o, h.get? s.heap.objs.size = some o) (hst : St 0 (s.heap.push o))
    (hla : a ∉ news.map (·.1)) (F : Fr g env.locals s.heap m) (hlL : a ≠ env.locals) (N : News g env.locals s.heap (news ++ ext)) (hoff : OwnOff ext (news.map (·.1))) (h0 : J 0 m news ext)
    (turn : ∀ ext own i v m₁ news₁ s₁, (∃ h tk, s₁ = { s with heap := h, toks := tk }) → i < n → P i v s₁.heap → J i m₁ news₁ ext → news₁.map (·.1) = news.map (·.1) → OwnOff (ext ++ own) (news.map (·.1)) →
      Fr g env.locals s₁.heap m₁ → News g env.locals s₁.heap (news₁ ++ (ext ++ own)) →
      wpAny (model prog w) A (assign target env v) (fun _ s₂ =>
        wpAny (model prog w) A (execs body env) (StepJ g env.locals (J (i + 1)) (news.map (·.1)) ext own s₁ Q) E s₂) E s₁)
    (done : ∀ h tk m₁ news₁ ext, J n m₁ news₁ ext → news₁.map (·.1) = news.map (·.1) → OwnOff ext (news.map (·.1)) → Fr g env.locals h m₁ → News g env.locals h (news₁ ++ ext) →
      wpAny (model prog w) A (execs orelse env) Q E { s with heap := h, toks := tk }) :
    LoopJ prog w A g env target body orelse Q E (.ref s.heap.objs.size) { s with heap := s.heap.push o } := by
  have bel : ∀ p ∈ news ++ ext, p.1 < s.heap.objs.size := fun p hp => Heap.lt_size (N p hp).1
  have hI : g.get? s.heap.objs.size = none := by
    cases q : g.get? s.heap.objs.size with
    | none => rfl
    | some o => exact absurd (Heap.lt_size (F.keep _ _ q)) (Nat.lt_irrefl _)
  refine ⟨s.heap.objs.size, _, _, n, _, _, _, m, news, ext, news.map (·.1), J, rfl, W, ?_, ?_, ?_, ?_, rfl, ?_, hst, F.push _,
    fun p hp => ⟨Heap.get?_push_of_some _ (N p hp).1, (N p hp).2⟩, h0, ?_, ?_⟩
  · rintro i h hst b hb
    obtain ⟨o, ho⟩ := hex i h hst
    exact ⟨o, (List.mem_singleton.mp hb) ▸ ho⟩
  · intro q
    rcases List.mem_cons.mp q with q | q
    · exact absurd F.ns.lt (q ▸ Nat.lt_irrefl _)
    · exact hlL (List.mem_singleton.mp q).symm
  · intro b hb; rw [List.mem_singleton.mp hb]; exact hI
  · intro b hb q
    rcases List.mem_cons.mp hb with rfl | hb
    · obtain ⟨p, hp, e⟩ := List.mem_map.mp q
      exact absurd (bel p (List.mem_append_left _ hp)) (e ▸ Nat.lt_irrefl _)
    · exact hla (List.mem_singleton.mp hb ▸ q)
  · intro p hp
    refine ⟨fun q => hoff p hp _ q rfl, fun q => ?_⟩
    exact absurd (bel p (List.mem_append_right _ hp)) ((List.mem_singleton.mp q) ▸ Nat.lt_irrefl _)
  · rintro ext own i v m₁ news₁ s₁ ⟨hh', tk', rfl⟩ hi hP hJ ha hoff' _ _ _ F₁ N₁
    exact turn ext own i v m₁ news₁ _ ⟨_, _, rfl⟩ hi hP hJ ha hoff' F₁ N₁
  · intro h tk m₁ news₁ ext hJ ha ho F₁ N₁
    exact done h tk m₁ news₁ ext hJ ha ho F₁ N₁

theorem iter_list {E : Value → Shared → Prop} {Q : Flow → Shared → Prop} {s : Shared} {x : Str} {px : Pos} {body orelse : List Stmt} {g : Heap} {l : Addr} {items : Array Value} {m : Str → Option Value} {news ext : List (Addr × Obj)}
    (J : Nat → (Str → Option Value) → List (Addr × Obj) → List (Addr × Obj) → Prop)
    (hh : A.handled = none) (hl : s.heap.IsList l items) (hla : l ∉ news.map (·.1)) (F : Fr g env.locals s.heap m) (hlL : l ≠ env.locals) (N : News g env.locals s.heap (news ++ ext)) (hoff : OwnOff ext (news.map (·.1)))
    (hx : env.kindOf x = some .local) (hp : (env.scope.kind == .class || (env.scope.kind == .module && env.locals != env.globals)) = false) (h0 : J 0 m news ext)
    (turn : ∀ ext own i v m₁ news₁ h tk, items[i]? = some v → J i m₁ news₁ ext → news₁.map (·.1) = news.map (·.1) → OwnOff (ext ++ own) (news.map (·.1)) →
      Fr g env.locals h (fun y => if y = x then some v else m₁ y) → News g env.locals h (news₁ ++ (ext ++ own)) →
      wpAny (model prog w) A (execs body env) (StepJ g env.locals (J (i + 1)) (news.map (·.1)) ext own { s with heap := h, toks := tk } Q) E { s with heap := h, toks := tk })
    (done : ∀ h tk m₁ news₁ ext, J items.size m₁ news₁ ext → news₁.map (·.1) = news.map (·.1) → OwnOff ext (news.map (·.1)) → Fr g env.locals h m₁ → News g env.locals h (news₁ ++ ext) →
      wpAny (model prog w) A (execs orelse env) Q E { s with heap := h, toks := tk }) :
    wpAny (model prog w) A (pyIter (.ref l)) (fun it s₂ => LoopJ prog w A g env (.Name x px) body orelse Q E it s₂) E s := by
  obtain ⟨ol, hol, _⟩ := id hl
  have hlt := Heap.lt_size hol
  refine wpAny_pyIter_list hl ?_
  refine iter_gen J (turnsName (Walks.list hh s.heap.objs.size l (Nat.ne_of_lt hlt) items)) (fun i h st => let ⟨⟨o, ho, _⟩, _⟩ := st; ⟨o, ho⟩) ⟨⟨_, Heap.get?_push_size _ rfl, rfl, rfl⟩, hl.at fun o e => Heap.get?_push_of_some _ e⟩ hla F hlL N hoff h0 ?_ done
  rintro ext own i v m₁ news₁ s₁ ⟨hh', tk', rfl⟩ hi hP hJ ha hoff' F₁ N₁
  exact name_J F₁ N₁ hx hp fun h' tk F₂ N₂ => wpAny_mono (turn ext own i v m₁ news₁ h' tk hP hJ ha hoff' F₂ N₂) (fun f s₂ z => z.at) fun _ _ x => x
end
noncomputable def isNone : Unit → Value → Bool
  | _, .none => true
  | _, _ => false
theorem isNone_shape {k : Unit} {v : Value} (h : isNone k v = true) : v = .none := by cases v <;> simp_all [isNone]
theorem hash_none {prog : Program} {w : World} {A : Around} {E : Value → Shared → Prop} {s : Shared} {Q : Int → Shared → Prop} (h : Q 0xFCA86420 { s with toks := s.toks + 1 }) : wpAny (model prog w) A (pyHash .none) Q E s := by
  unfold pyHash
  have hv : [Value.none].any Value.onHeap = false := rfl
  refine wpAny_bind ?_
  rw [cRoomFor, if_neg (by rw [hv]; exact Bool.false_ne_true)]; refine wpAny_pure ?_
  refine wpAny_bind (wpAny_specialOf (typeIs_none s) F.slot_NoneType_hash.lookup ?_)
  show wpAny _ _ (if (some (Value.builtin "NoneType.__hash__") == some Value.none) = true then _ else _) Q E s
  rw [if_neg (by rw [beq_builtin_none]; exact Bool.false_ne_true)]
  refine wpAny_bind (wpAny_specialOf (typeIs_none s) F.slot_NoneType_hash.lookup ?_)
  show wpAny _ _ (callSpecialIfBoundUnlessNone? .none "__hash__" _ >>= _) Q E s
  refine wpAny_bind (wpAny_callSpecialIfBoundUnlessNone?_slot (typeIs_none s) F.slot_NoneType_hash
    (wpAny_call_entry F.slot_NoneType_hash (typeIs_none s) F.entry_NoneType_hash
      (show wpAny _ _ (do ret (← mkInt 0xFCA86420)) _ _ s from wpAny_ret_mkInt ?_) (F.args_NoneType_hash_1 _)))
  show wpAny _ _ (if (decide (-(2 : Int) ^ 63 ≤ 0xFCA86420) && decide ((0xFCA86420 : Int) < 2 ^ 63)) = true then _ else _) Q E _
  rw [if_pos (by decide)]
  exact wpAny_pure h
theorem eq_none {prog : Program} {w : World} {A : Around} {E : Value → Shared → Prop} {s : Shared} {Q : Bool → Shared → Prop} (h : Q true s) : wpAny (model prog w) A (eqBool .none .none) Q E s := by
  unfold eqBool
  refine wpAny_holding ?_
  show wpAny _ _ (if (Value.none == Value.none) = true then _ else _) _ _ _
  rw [if_pos (by decide)]
  exact wpAny_bind (wpAny_rule (wpAny_pure h))
noncomputable def noneKind (prog : Program) (w : World) : KeyKind prog w Unit :=
  ⟨isNone, fun _ => 0xFCA86420, fun _ _ _ _ _ => rfl, fun k v h => by rw [isNone_shape h]; rfl, fun hv h => by rw [isNone_shape hv]; exact hash_none h,
    fun hu hv h => by rw [isNone_shape hu, isNone_shape hv]; exact eq_none h, fun k x t v h => by simp [isNone] at h⟩
theorem empty_none {prog : Program} {w : World} {o : Obj} (h : o.IsDictOf (strKind prog w) []) : o.IsDictOf (noneKind prog w) [] := by
  obtain ⟨es, ep, h1, h2, h3, h4, h5⟩ := h
  have : es = #[] := by
    generalize e : es.toList = l at h4
    cases h4
    exact Array.toList_eq_nil_iff.mp e
  subst this
  exact ⟨#[], ep, h1, h2, fun e he => absurd he (by simp), .nil, List.nodup_nil⟩
section
variable {prog : Program} {w : World} {A : Around} {E : Value → Shared → Prop} {env : Env}

inductive StC (wr : List Addr) (n : Nat) (St : Nat → Heap → Prop) (S : List Addr) (C D : Addr) (s : Shared) (J : Nat → List Value → Heap → Prop) (k : Nat) (s' : Shared) : Prop
  | mk (h' : Heap) (tk : Nat) (m' : Str → Option Value) (ys : List Value) (h1 : s' = { s with heap := h', toks := tk }) (h2 : St ys.length h') (h3 : h'.PlainList D ys.toArray) (h4 : h'.Ns C m') (h5 : J ys.length ys h')
      (h6 : ys.length ≤ n) (h7 : k = n + 1 - ys.length) (h8 : ∀ b o, b ≠ C → b ∉ wr → b ≠ D → b ∉ S → s.heap.get? b = some o → h'.get? b = some o) : StC wr n St S C D s J k s'
inductive EndC (s₂ : Shared) (S : List Addr) (C : Addr) (J : Heap → Prop) (s₃ : Shared) : Prop
  | mk (h' : Heap) (tk : Nat) (m' : Str → Option Value) (h1 : s₃ = { s₂ with heap := h', toks := tk }) (h2 : J h') (h3 : h'.Ns C m') (h4 : Kp (C :: S) s₂.heap h') : EndC s₂ S C J s₃
theorem compLoop_eff {R : Result → Shared → Prop} {s : Shared} {elt iter : Expr} {x : Str} {px : Pos} {scope : Scope} {pos : Pos} {I D : Addr} {fp wr : List Addr} {n : Nat} {P : Nat → Value → Prop} {St : Nat → Heap → Prop}
    {cenv : Env} {m : Str → Option Value} (W : Walks prog w A I fp wr n P St) (S : List Addr) (J : Nat → List Value → Heap → Prop)
    (hx : cenv.kindOf x = some .local) (hp : (cenv.scope.kind == .class || (cenv.scope.kind == .module && cenv.locals != cenv.globals)) = false)
    (hDC : D ≠ cenv.locals) (hDf : D ∉ fp) (hCf : cenv.locals ∉ fp) (hDS : D ∉ S) (hCS : cenv.locals ∉ S) (hfS : ∀ b ∈ fp, b ∉ S)
    (hst : St 0 s.heap) (hacc : s.heap.PlainList D #[]) (hn : s.heap.Ns cenv.locals m) (hJ : J 0 [] s.heap)
    (stab : ∀ i ys h h', J i ys h → (∀ b ∈ S, ∀ o, h.get? b = some o → h'.get? b = some o) → J i ys h')
    (helt : ∀ i v ys s₂ m₂, i < n → P i v → J i ys s₂.heap → ys.length = i → s₂.heap.Ns cenv.locals m₂ → m₂ x = some v → (∃ h tk, s₂ = { s with heap := h, toks := tk }) →
      (∀ b o, b ≠ cenv.locals → b ∉ wr → b ≠ D → b ∉ S → s.heap.get? b = some o → s₂.heap.get? b = some o) →
      wpAny (model prog w) A (eval elt cenv) (fun y s₃ => EndC s₂ S cenv.locals (J (i + 1) (ys ++ [y])) s₃) (notedBy (model prog w) A cenv fun e s' => R (.error e) s') s₂)
    (hR : ∀ h' tk m' ys, h'.Ns cenv.locals m' → h'.PlainList D ys.toArray → ys.length = n → J n ys h' →
      (∀ b o, b ≠ cenv.locals → b ∉ wr → b ≠ D → b ∉ S → s.heap.get? b = some o → h'.get? b = some o) → R (.ok .next) { s with heap := h', toks := tk })
    (hsz : n ≤ sizeLine) :
    codeAny (model prog w) A (.compLoop (.ListComp elt [⟨.Name x px, iter, [], 0⟩] scope pos) 0 (.ref I) (.ref D) cenv) R s := by
  refine codeAny_compLoop_list
    (StC wr n St S cenv.locals D s J) ?_ (n + 1)
    ⟨s.heap, s.toks, m, [], rfl, hst, hacc, hn, hJ, Nat.zero_le _, rfl, fun _ _ _ _ _ _ e => e⟩
  rintro k s' ⟨H, tk, m', ys, rfl, hst', hacc', hn', hJ', hi, rfl, hk⟩
  have hCw : cenv.locals ∉ wr := fun h => hCf (W.sub _ h)
  have hDw : D ∉ wr := fun h => hDf (W.sub _ h)
  have hSw : ∀ b ∈ S, b ∉ wr := fun b hb h => hfS b (W.sub _ h) hb
  by_cases hlt : ys.length < n
  · refine W.item ys.length _ _ _ hlt hst' fun v h₁ tk₁ hPv hst₁ hk₁ => ?_
    refine wpAny_assign_Name (wpAny_storeName_local hx (hn'.at' fun o e => hk₁ _ o hCw e) (fun h₂ hn₂ hs₂ => ?_) hp)
    have up₂ : ∀ b o, b ≠ cenv.locals → b ∉ wr → H.get? b = some o → h₂.get? b = some o := fun b o hbC hbf e => hs₂.extBut b o hbC (hk₁ b o hbf e)
    have hst₂ : St (ys.length + 1) h₂ := W.frame _ _ _ hst₁ fun b hb o e => hs₂.extBut b o (fun h => hCf (h ▸ hb)) e
    have hJ₂ : J ys.length ys h₂ := stab _ _ _ _ hJ' fun b hb o e => up₂ b o (fun q => hCS (q ▸ hb)) (hSw b hb) e
    refine wpAny_mono (helt ys.length v ys _ _ hlt hPv hJ₂ rfl hn₂ (by simp) ⟨_, _, rfl⟩ fun b o hbC hbf hbD hbS e => up₂ b o hbC hbf (hk b o hbC hbf hbD hbS e)) (fun y s₃ h₃ => ?_) fun _ _ e => e
    obtain ⟨h₃, tk₃, m₃, rfl, hJ₃, hn₃, hk₃⟩ := h₃
    have nin : ∀ b, b ≠ cenv.locals → b ∉ S → b ∉ cenv.locals :: S := fun b h1 h2 q => (List.mem_cons.mp q).elim h1 h2
    have hacc₃ : h₃.PlainList D ys.toArray := hacc'.at fun o e => hk₃ _ o (nin _ hDC hDS) (up₂ D o hDC hDw e)
    have hst₃ : St (ys.length + 1) h₃ := W.frame _ _ _ hst₂ fun b hb o e => hk₃ b o (nin _ (fun q => hCf (q ▸ hb)) (hfS b hb)) e
    refine wpAny_list_append_plain (x := y) hacc₃ (fun h₄ hacc₄ hs₄ => ?_) (by rw [List.size_toArray]; omega)
    refine ⟨n + 1 - (ys.length + 1), by omega, h₄, tk₃, _, ys ++ [y], rfl, ?_, by simpa using hacc₄, hn₃.sameBut hs₄ (Ne.symm hDC), ?_, by rw [List.length_append]; exact hlt, by rw [List.length_append]; rfl, ?_⟩
    · rw [List.length_append]; exact W.frame _ _ _ hst₃ fun b hb o e => hs₄.extBut b o (fun q => hDf (q ▸ hb)) e
    · rw [List.length_append]; exact stab _ _ _ _ hJ₃ fun b hb o e => hs₄.extBut b o (fun q => hDS (q ▸ hb)) e
    · exact fun b o hbC hbf hbD hbS e => hs₄.extBut b o hbD (hk₃ b o (nin _ hbC hbS) (up₂ b o hbC hbf (hk b o hbC hbf hbD hbS e)))
  · have hin : ys.length = n := by omega
    refine W.done _ _ _ (hin ▸ hst') fun h₁ tk₁ hk₁ => ?_
    exact hR h₁ tk₁ m' ys (hn'.at' fun o e => hk₁ _ o hCw e) (hacc'.at fun o e => hk₁ _ o hDw e) hin (hin ▸ stab _ _ _ _ hJ' fun b hb o e => hk₁ b o (hSw b hb) e)
      fun b o hbC hbf hbD hbS e => hk₁ b o hbf (hk b o hbC hbf hbD hbS e)

noncomputable def restOf (g h : Heap) (S : List Addr) : List (Addr × Obj) := (List.range h.objs.size).filterMap fun b => if b ∈ S ∨ (g.get? b).isSome = true then none else (h.get? b).map fun o => (b, o)
theorem mem_restOf {g h : Heap} {S : List Addr} {b : Addr} {o : Obj} : (b, o) ∈ restOf g h S ↔ b ∉ S ∧ g.get? b = none ∧ h.get? b = some o := by
  unfold restOf
  rw [List.mem_filterMap]
  constructor
  · rintro ⟨c, _, e⟩
    split at e
    · cases e
    · rename_i hn
      obtain ⟨o', ho, e⟩ := Option.map_eq_some_iff.mp e
      cases e
      exact ⟨fun q => hn (.inl q), by cases q : g.get? b with | none => rfl | some _ => exact absurd (.inr (by rw [q]; rfl)) hn, ho⟩
  · rintro ⟨h1, h2, h3⟩
    refine ⟨b, List.mem_range.mpr (Heap.lt_size h3), ?_⟩
    rw [if_neg (by rintro (q | q); exact h1 q; rw [h2] at q; cases q), h3]
    rfl

inductive TEnd (s₁ : Shared) (g : Heap) (C : Addr) (rest : List (Addr × Obj)) (as : List Addr) (J : List (Addr × Obj) → Prop) (s₄ : Shared) : Prop
  | mk (h' : Heap) (tk' : Nat) (m' : Str → Option Value) (mut₂ : List (Addr × Obj)) (h1 : s₄ = { s₁ with heap := h', toks := tk' }) (h2 : Fr g C h' m') (h3 : News g C h' (mut₂ ++ rest)) (h4 : mut₂.map (·.1) = as) (h5 : J mut₂) : TEnd s₁ g C rest as J s₄
theorem TEnd.at {s : Shared} {h h' : Heap} {t t' : Nat} {g : Heap} {C : Addr} {rest : List (Addr × Obj)} {as : List Addr} {J : List (Addr × Obj) → Prop} {s₄ : Shared} (z : TEnd { s with heap := h, toks := t } g C rest as J s₄) : TEnd { s with heap := h', toks := t' } g C rest as J s₄ :=
  let ⟨a, b, c, d, e, f, g, h, i⟩ := z; ⟨a, b, c, d, e, f, g, h, i⟩
inductive FSrc (prog : Program) (w : World) (A : Around) (env : Env) (elt : Expr) (x : Str) (scope : Scope) (cl : List (Str × Addr)) (g : Heap) (J : Nat → List Value → List (Addr × Obj) → Prop) (Q : Value → Shared → Prop) (it : Value) (s₂ : Shared) : Prop
  | mk (I : Addr) (fp wr : List Addr) (n : Nat) (P : Nat → Value → Prop) (St : Nat → Heap → Prop) (m : Str → Option Value) (mt ext : List (Addr × Obj)) (h1 : it = .ref I) (h2 : Walks prog w A I fp wr n P St) (h3 : n ≤ sizeLine) (h4 : St 0 s₂.heap) (h5 : ∀ b ∈ fp, b < s₂.heap.objs.size)
      (h6 : ∀ b ∈ fp, b ∉ mt.map (·.1)) (h7 : ∀ p ∈ ext, p.1 ∉ wr ∧ p.1 ∉ mt.map (·.1)) (h8 : env.locals ∉ wr) (h9 : ∀ b ∈ wr, g.get? b = none) (h10 : Fr g env.locals s₂.heap m) (h11 : News g env.locals s₂.heap (mt ++ ext)) (h12 : J 0 [] mt)
      (h13 : ∀ C i v ys mut₁ own h tk (m₃ : Str → Option Value), i < n → P i v → J i ys mut₁ → ys.length = i → mut₁.map (·.1) = mt.map (·.1) → OwnOff own (mt.map (·.1)) → (∀ p ∈ mt ++ ext, @LT.lt Nat _ p.1 C) →
        Fr g C h (fun y => if y = x then some v else m₃ y) → News g C h (mut₁ ++ (ext ++ own)) →
        wpAny (model prog w) A (eval elt (compEnvC scope cl C env)) (fun y s₄ => TEnd s₂ g C (ext ++ own) (mt.map (·.1)) (J (i + 1) (ys ++ [y])) s₄) (fun _ _ => False) { s₂ with heap := h, toks := tk })
      (h14 : ∀ D h' tk ys nD mut₁, ys.length = n → J n ys mut₁ → mut₁.map (·.1) = mt.map (·.1) → Fr g env.locals h' m → News g env.locals h' ((D, W.listOf ys.toArray nD) :: (mut₁ ++ ext)) → (∀ p ∈ mut₁ ++ ext, @Ne Nat p.1 D) → Q (.ref D) { s₂ with heap := h', toks := tk }) :
      FSrc prog w A env elt x scope cl g J Q it s₂
theorem made_facts {h h₁ : Heap} {o fr : Obj} (sb : Heap.SameBut (h.push o).objs.size ((h.push o).push fr) h₁) (f : o.isFreed = false) :
    (h.push o).objs.size = h.objs.size + 1 ∧ h₁.get? h.objs.size = some o ∧ ∀ b o', h.get? b = some o' → h₁.get? b = some o' := by
  have e := Heap.size_push h o
  have up : ∀ b o', b < h.objs.size + 1 → (h.push o).get? b = some o' → h₁.get? b = some o' := fun b o' q z => sb.extBut b o' (Nat.ne_of_lt (e ▸ q)) (Heap.get?_push_of_some _ z)
  exact ⟨e, up _ _ (Nat.lt_succ_self _) (Heap.get?_push_size _ f), fun b o' z => up b o' (Nat.lt_succ_of_lt (Heap.lt_size z)) (Heap.get?_push_of_some _ z)⟩
theorem ListComp_F {s : Shared} {elt iter : Expr} {x : Str} {px : Pos} {scope : Scope} {cl : List (Str × Addr)} {pos : Pos} {Q : Value → Shared → Prop} {g : Heap} (J : Nat → List Value → List (Addr × Obj) → Prop)
    (hclos : closureFor scope env = pure cl) (hcell : ∀ y ∈ scope.names, y.2 ≠ .cell) (hkind : scope.kind = .function)
    (hnames : ∀ y ∈ scope.names, y.2 = .local → scope.names.lookup y.1 = some .local) (hx : scope.names.lookup x = some .local)
    (hs : ∀ x, foldedSetIterable iter env x = pure x)
    (h : wpAny (model prog w) A (eval iter env) (fun xv s₁ => wpAny (model prog w) A (pyIter xv) (fun it s₂ => FSrc prog w A env elt x scope cl g J Q it s₂) E s₁) E s) :
    wpAny (model prog w) A (eval (.ListComp elt [⟨.Name x px, iter, [], 0⟩] scope pos) env) Q E s := by
  rw [eval_ListComp]
  refine wpAny_comprehension_free (use := none) rfl hs hclos hkind hnames (wpAny_mono h (fun xv s₁ h₁ => wpAny_mono h₁ (fun it s₂ h₂ => ?_) fun _ _ e => e) fun _ _ e => e)
  obtain ⟨I, fp, wr, n, P, St, m, mt, ext, rfl, W, hsz, hst, hfp, hfS, hext, hLw, hwr, F, N, hJ, helt, hQ⟩ := h₂
  -- the general rule, S the addresses of mt
  let J' : Nat → List Value → Heap → Prop := fun i ys h => ∃ mut₁, mut₁.map (·.1) = mt.map (·.1) ∧ (∀ p ∈ mut₁, h.get? p.1 = some p.2) ∧ J i ys mut₁
  have stab : ∀ i ys h h', J' i ys h → (∀ b ∈ mt.map (·.1), ∀ o, h.get? b = some o → h'.get? b = some o) → J' i ys h' := by
    rintro i ys h h' ⟨mut₁, e, hg, hj⟩ k
    exact ⟨mut₁, e, fun p hp => k _ (e ▸ List.mem_map_of_mem hp) _ (hg p hp), hj⟩
  have hSb : ∀ b ∈ mt.map (·.1), b < s₂.heap.objs.size := fun b hb => by
    obtain ⟨p, hp, rfl⟩ := List.mem_map.mp hb
    exact Heap.lt_size (N p (List.mem_append_left _ hp)).1
  have hSL : env.locals ∉ mt.map (·.1) := fun q => by
    obtain ⟨p, hp, e⟩ := List.mem_map.mp q
    exact (N p (List.mem_append_left _ hp)).2.1 e
  have hSg : ∀ b ∈ mt.map (·.1), g.get? b = none := fun b hb => by
    obtain ⟨p, hp, rfl⟩ := List.mem_map.mp hb
    exact (N p (List.mem_append_left _ hp)).2.2
  refine wpAny_newObj_type (wpAny_newFunctionEnv hcell (fun _ q => absurd q List.not_mem_nil) (fun h₁ ns₁ sb₁ => ?_) hkind)
  obtain ⟨eC, at₁, old⟩ := made_facts sb₁ rfl
  dsimp only at ns₁ ⊢
  clear sb₁
  generalize (s₂.heap.push { cls := .type "list", dict := none, data := .seq ([] : List Value).toArray }).objs.size = C at eC ns₁ ⊢
  have hDC : s₂.heap.objs.size ≠ C := Nat.ne_of_lt (eC ▸ Nat.lt_succ_self _)
  have hCle : s₂.heap.objs.size ≤ C := Nat.le_of_lt (eC ▸ Nat.lt_succ_self _)
  have below : ∀ b, b < s₂.heap.objs.size → b ≠ C ∧ b ≠ s₂.heap.objs.size := fun b q => ⟨Nat.ne_of_lt (Nat.lt_of_lt_of_le q hCle), Nat.ne_of_lt q⟩
  have new : ∀ a, s₂.heap.objs.size ≤ a → a ∉ fp ∧ a ∉ mt.map (·.1) ∧ g.get? a = none := fun a le => by
    refine ⟨fun q => Nat.not_le.mpr (hfp a q) le, fun q => Nat.not_le.mpr (hSb a q) le, ?_⟩
    cases q : g.get? a with
    | none => rfl
    | some o => exact absurd le (Nat.not_le.mpr (Heap.lt_size (F.keep _ _ q)))
  obtain ⟨hDf, hDS, gD⟩ := new _ (Nat.le_refl _)
  obtain ⟨hCf, hCS, gC⟩ := new C hCle
  have hst₁ : St 0 h₁ := W.frame _ _ _ hst fun b _ o => old b o
  have loop : ∀ s₃ : Shared, s₃ = { s₂ with heap := h₁, toks := s₂.toks + ([] : List (Str × Value)).length } →
      codeAny (model prog w) A (.compLoop (.ListComp elt [⟨.Name x px, iter, [], 0⟩] scope pos) 0 (.ref I) (.ref s₂.heap.objs.size) (compEnvC scope cl C env))
        (compPost (model prog w) A E none Q (.ref s₂.heap.objs.size) C) s₃ := by
    rintro s₃ rfl
    refine compLoop_eff (cenv := compEnvC scope cl C env) W (mt.map (·.1)) J' (lookup_relabel_local hx) (by simp [compEnvC, relabel, hkind]) hDC hDf hCf hDS hCS hfS hst₁ ⟨_, at₁⟩ ns₁
      (stab _ _ _ _ ⟨mt, rfl, fun p hp => (N p (List.mem_append_left _ hp)).1, hJ⟩ fun b _ o e => old b o e) stab
      (fun i v ys s₃ m₃ hi hv hJ' hyl hn hm hs₃ hk => ?_) (fun h' tk m' ys hn hpl hyl hJ' hk => ?_) hsz
    · obtain ⟨hh, tk, rfl⟩ := hs₃
      obtain ⟨mut₁, hma, hmg, hj⟩ := hJ'
      have hk' : ∀ b o, b ∉ wr → b ∉ mt.map (·.1) → s₂.heap.get? b = some o → hh.get? b = some o := fun b o hbf hbS e => hk b o (below b (Heap.lt_size e)).1 hbf (below b (Heap.lt_size e)).2 hbS (old b o e)
      have Fc : Fr g C hh m₃ := ⟨hn, fun b o e => hk' b o (fun q => by rw [hwr b q] at e; cases e) (fun q => by rw [hSg b q] at e; cases e) (F.keep b o e), Nat.le_trans F.above (Nat.le_trans (Nat.le_of_lt F.ns.lt) hCle)⟩
      have Fc' : Fr g C hh (fun y => if y = x then some v else m₃ y) := Fr_say Fc hm
      have No : News g C hh (restOf g hh (C :: mt.map (·.1))) := fun p hp => by
        obtain ⟨h1, h2, h3⟩ := mem_restOf.mp hp
        exact ⟨h3, fun q => h1 (q ▸ .head _), h2⟩
      have Nc : News g C hh (mut₁ ++ (ext ++ restOf g hh (C :: mt.map (·.1)))) := fun p hp => by
        rcases List.mem_append.mp hp with hp | hp
        · have hb : p.1 ∈ mt.map (·.1) := hma ▸ List.mem_map_of_mem hp
          exact ⟨hmg p hp, fun q => hCS (q ▸ hb), hSg _ hb⟩
        · rcases List.mem_append.mp hp with hp | hp
          · have y := N p (List.mem_append_right _ hp)
            exact ⟨hk' _ _ (hext p hp).1 (hext p hp).2 y.1, (below _ (Heap.lt_size y.1)).1, y.2.2⟩
          · exact No p hp
      refine wpAny_mono (helt C i v ys mut₁ _ hh tk m₃ hi hv hj hyl hma (fun p hp b hb e => (mem_restOf.mp hp).1 (.tail _ (e ▸ hb))) (fun p hp => Nat.lt_of_lt_of_le (Heap.lt_size (N p hp).1) hCle) Fc' Nc) (fun y s₄ h₄ => ?_) fun _ _ x => x.elim
      obtain ⟨h₄, tk₄, m₄, mut₂, rfl, F₄, N₄, hma₂, hj₂⟩ := h₄
      refine ⟨h₄, tk₄, m₄, rfl, ⟨mut₂, hma₂, fun p hp => (N₄ p (List.mem_append_left _ hp)).1, hj₂⟩, F₄.ns, fun b o hb e => ?_⟩
      have hb1 : b ≠ C := fun q => hb (q ▸ .head _)
      have hb2 : b ∉ mt.map (·.1) := fun q => hb (.tail _ q)
      cases hg : g.get? b with
      | some o' =>
        have e' := Fc.keep b o' hg
        rw [e] at e'
        cases e'
        exact F₄.keep b _ hg
      | none => exact (N₄ (b, o) (List.mem_append_right _ (List.mem_append_right _ (mem_restOf.mpr ⟨hb, hg, e⟩)))).1
    · obtain ⟨mut₁, hma, hmg, hj⟩ := hJ'
      have hk' : ∀ b o, b ∉ wr → b ∉ mt.map (·.1) → s₂.heap.get? b = some o → h'.get? b = some o := fun b o hbf hbS e => hk b o (below b (Heap.lt_size e)).1 hbf (below b (Heap.lt_size e)).2 hbS (old b o e)
      refine ⟨m', hn, fun h'' hs'' => ?_⟩
      have hs3 : ∀ b o, b ≠ C → h'.get? b = some o → h''.get? b = some o := fun b o n e => hs''.extBut b o n e
      obtain ⟨nD, eD⟩ := hpl
      have hLlt : env.locals < s₂.heap.objs.size := F.ns.lt
      have Fx : Fr g env.locals h'' m := Fr_kp F (S := C :: (wr ++ mt.map (·.1))) (fun b o n e => hs3 b o (fun q => n (q ▸ .head _)) (hk' b o (fun q => n (.tail _ (List.mem_append_left _ q))) (fun q => n (.tail _ (List.mem_append_right _ q))) e))
        (fun q => by
          rcases List.mem_cons.mp q with q | q
          · exact (below _ hLlt).1 q
          · exact (List.mem_append.mp q).elim hLw hSL)
        (fun b hb => by
          rcases List.mem_cons.mp hb with rfl | hb
          · exact gC
          · exact (List.mem_append.mp hb).elim (hwr b) (hSg b))
      refine hQ s₂.heap.objs.size h'' tk ys nD mut₁ hyl hj hma Fx (fun p hp => ?_) (fun p hp => ?_)
      · rcases List.mem_cons.mp hp with rfl | hp
        · exact ⟨hs3 _ _ hDC eD, Nat.ne_of_gt hLlt, gD⟩
        · rcases List.mem_append.mp hp with hp | hp
          · have hb : p.1 ∈ mt.map (·.1) := hma ▸ List.mem_map_of_mem hp
            exact ⟨hs3 _ _ (fun q => hCS (q ▸ hb)) (hmg p hp), fun q => hSL (q ▸ hb), hSg _ hb⟩
          · have y := N p (List.mem_append_right _ hp)
            exact ⟨hs3 _ _ (below _ (Heap.lt_size y.1)).1 (hk' _ _ (hext p hp).1 (hext p hp).2 y.1), y.2⟩
      · rcases List.mem_append.mp hp with hp | hp
        · exact Nat.ne_of_lt (hSb _ (hma ▸ List.mem_map_of_mem hp))
        · exact Nat.ne_of_lt (Heap.lt_size (N p (List.mem_append_right _ hp)).1)
  exact codeAny_compStart_list (loop _ rfl) (W.self 0 _ _ _ hst₁ (loop _ rfl))

theorem src_range {s : Shared} {elt : Expr} {x : Str} {scope : Scope} {cl : List (Str × Addr)} {Q : Value → Shared → Prop} {g : Heap} {m : Str → Option Value} {mt ext : List (Addr × Obj)} {r : Addr} {c : Int} {t u v : Tok} (J : Nat → List Value → List (Addr × Obj) → Prop)
    (hh : A.handled = none) (F : Fr g env.locals s.heap m) (N : News g env.locals s.heap (mt ++ ext)) (hd : OwnOff ext (mt.map (·.1))) (hr : IsRange s.heap r 0 c 1 t u v) (h0 : 0 ≤ c) (h1 : c ≤ 1000) (hJ : J 0 [] mt)
    (helt : ∀ C i v ys mut₁ own h tk (m₃ : Str → Option Value), i < c.toNat → J i ys mut₁ → ys.length = i → mut₁.map (·.1) = mt.map (·.1) → OwnOff own (mt.map (·.1)) → (∀ p ∈ mt ++ ext, @LT.lt Nat _ p.1 C) →
        Fr g C h (fun y => if y = x then some v else m₃ y) → News g C h (mut₁ ++ (ext ++ own)) →
        wpAny (model prog w) A (eval elt (compEnvC scope cl C env)) (fun y s₄ => TEnd s g C (ext ++ own) (mt.map (·.1)) (J (i + 1) (ys ++ [y])) s₄)
          (fun _ _ => False) { s with heap := h, toks := tk })
    (hQ : ∀ D h' tk ys nD mut₁, ys.length = c.toNat → J c.toNat ys mut₁ → mut₁.map (·.1) = mt.map (·.1) → Fr g env.locals h' m → News g env.locals h' ((D, W.listOf ys.toArray nD) :: (mut₁ ++ ext)) → (∀ p ∈ mut₁ ++ ext, @Ne Nat p.1 D) → Q (.ref D) { s with heap := h', toks := tk }) :
    wpAny (model prog w) A (pyIter (.ref r)) (fun it s₂ => FSrc prog w A env elt x scope cl g J Q it s₂) E s := by
  refine wpAny_pyIter_range hr (small_one (by omega) (by omega) (by omega) (by omega)) ?_
  have bel : ∀ p ∈ mt ++ ext, p.1 < s.heap.objs.size := fun p hp => Heap.lt_size (N p hp).1
  have hI : g.get? s.heap.objs.size = none := by
    cases q : g.get? s.heap.objs.size with
    | none => rfl
    | some o => exact absurd (Heap.lt_size (F.keep _ _ q)) (Nat.lt_irrefl _)
  have hn : Builtin.Range.rangeSize 0 c 1 = (c.toNat : Int) := by rw [rangeSize_nat]; omega
  refine ⟨s.heap.objs.size, _, _, c.toNat, _, _, m, mt, ext, rfl, Walks.range hh s.heap.objs.size 0 1 c.toNat, by rw [sizeLine_eq]; omega, ?_, ?_, ?_, ?_, ?_, ?_, F.push _, (fun p hp => ⟨Heap.get?_push_of_some _ (N p hp).1, (N p hp).2⟩), hJ, ?_, ?_⟩
  · show IsRangeIter _ _ _ _ _
    rw [hn]; simpa using Heap.get?_push_size _ rfl
  · intro b hb; rw [List.mem_singleton.mp hb, Heap.size_push]; exact Nat.lt_succ_self _
  · intro b hb q
    obtain ⟨p, hp, e⟩ := List.mem_map.mp q
    exact absurd (bel p (List.mem_append_left _ hp)) (by rw [e, List.mem_singleton.mp hb]; exact Nat.lt_irrefl _)
  · intro p hp
    refine ⟨fun q => absurd (bel p (List.mem_append_right _ hp)) (by rw [List.mem_singleton.mp q]; exact Nat.lt_irrefl _), fun q => hd p hp _ q rfl⟩
  · intro q; exact absurd F.ns.lt (by rw [List.mem_singleton.mp q]; exact Nat.lt_irrefl _)
  · intro b hb; rw [List.mem_singleton.mp hb]; exact hI
  · intro C i v ys mut₁ own h tk m₃ hi _ hj hl hma ho hb F N
    exact wpAny_mono (helt C i v ys mut₁ own h tk m₃ hi hj hl hma ho hb F N) (fun y s₄ z => z.at) fun _ _ x => x
  · intro D h' tk ys nD mut₁ hl hj hma F N hne
    exact hQ D h' tk ys nD mut₁ hl hj hma F N hne

inductive RSrc (prog : Program) (w : World) (A : Around) (env : Env) (elt : Expr) (x : Str) (scope : Scope) (cl : List (Str × Addr)) (g : Heap) (J : Nat → List Value → List (Addr × Obj) → Prop) (Q : Value → Shared → Prop) (s₁ : Shared) (xv : Value) : Prop
  | mk (r : Addr) (c : Int) (t u v : Tok) (m : Str → Option Value) (mt ext : List (Addr × Obj)) (h1 : xv = .ref r) (h2 : IsRange s₁.heap r 0 c 1 t u v) (h3 : 0 ≤ c) (h4 : c ≤ 1000) (h5 : Fr g env.locals s₁.heap m) (h6 : News g env.locals s₁.heap (mt ++ ext)) (h7 : OwnOff ext (mt.map (·.1))) (h8 : J 0 [] mt)
      (h9 : ∀ C i v ys mut₁ own h tk (m₃ : Str → Option Value), i < c.toNat → J i ys mut₁ → ys.length = i → mut₁.map (·.1) = mt.map (·.1) → OwnOff own (mt.map (·.1)) → (∀ p ∈ mt ++ ext, @LT.lt Nat _ p.1 C) →
        Fr g C h (fun y => if y = x then some v else m₃ y) → News g C h (mut₁ ++ (ext ++ own)) →
        wpAny (model prog w) A (eval elt (compEnvC scope cl C env)) (fun y s₄ => Halt (TEnd s₁ g C (ext ++ own) (mt.map (·.1)) (J (i + 1) (ys ++ [y])) s₄)) (fun _ _ => False) { s₁ with heap := h, toks := tk })
      (h10 : ∀ D h' tk ys nD mut₁, ys.length = c.toNat → J c.toNat ys mut₁ → mut₁.map (·.1) = mt.map (·.1) → Fr g env.locals h' m → News g env.locals h' ((D, W.listOf ys.toArray nD) :: (mut₁ ++ ext)) → (∀ p ∈ mut₁ ++ ext, @Ne Nat p.1 D) → Q (.ref D) { s₁ with heap := h', toks := tk }) :
      RSrc prog w A env elt x scope cl g J Q s₁ xv
theorem ListComp_R {s : Shared} {elt iter : Expr} {x : Str} {px : Pos} {scope : Scope} {cl : List (Str × Addr)} {pos : Pos} {Q : Value → Shared → Prop} (g : Heap) (J : Nat → List Value → List (Addr × Obj) → Prop)
    (hclos : closureFor scope env = pure cl) (hcell : ∀ y ∈ scope.names, y.2 ≠ .cell) (hkind : scope.kind = .function)
    (hnames : ∀ y ∈ scope.names, y.2 = .local → scope.names.lookup y.1 = some .local) (hx : scope.names.lookup x = some .local)
    (hs : ∀ x, foldedSetIterable iter env x = pure x) (hh : A.handled = none)
    (h : wpAny (model prog w) A (eval iter env) (fun xv s₁ => Halt (RSrc prog w A env elt x scope cl g J Q s₁ xv)) E s) :
    wpAny (model prog w) A (eval (.ListComp elt [⟨.Name x px, iter, [], 0⟩] scope pos) env) Q E s := by
  refine ListComp_F (g := g) J hclos hcell hkind hnames hx hs (wpAny_mono h (fun xv s₁ h₁ => ?_) fun _ _ x => x)
  obtain ⟨r, c, t, u, v, m, mt, ext, rfl, hr, h0, h1, F, N, hd, hJ, helt, hQ⟩ := h₁
  exact src_range J hh F N hd hr h0 h1 hJ (fun C i v ys mut₁ own h tk m₃ q1 q2 q3 q4 q5 q6 q7 q8 => wpAny_mono (helt C i v ys mut₁ own h tk m₃ q1 q2 q3 q4 q5 q6 q7 q8) (fun y s₄ z => halt z) fun _ _ x => x) hQ

theorem comp_cell {M : Model} {A : Around} {E : Value → Shared → Prop} {s : Shared} {h₀ : Heap} {L : Addr} {news : List (Addr × Obj)} {scope : Scope} {cl : List (Str × Addr)} {C c : Addr} {env : Env} {x : Str} {pos : Pos} {o : Obj} {v : Value} {Q : Value → Shared → Prop}
    (hx : (compEnvC scope cl C env).kindOf x = some .cell) (N : News h₀ L s.heap news) (hc : cl.lookup x = some c) (hm : (c, o) ∈ news) (hd : o.data = .cell (some v)) (h : Q v s)
    (hk : (compEnvC scope cl C env).scope.kind = .function) (hb : (x == ("__debug__" : Str)) = false) :
    wpAny M A (eval (.Name x pos) (compEnvC scope cl C env)) Q E s := lcf_cell N hc hm hd h hk hx hb
theorem comp_local {M : Model} {A : Around} {E : Value → Shared → Prop} {s : Shared} {h₀ : Heap} {scope : Scope} {cl : List (Str × Addr)} {C : Addr} {m : Str → Option Value} {env : Env} {x : Str} {pos : Pos} {v : Value} {Q : Value → Shared → Prop}
    (hx : (compEnvC scope cl C env).kindOf x = some .local) (F : Fr h₀ C s.heap m) (hv : m x = some v) (h : Q v s)
    (hk : (compEnvC scope cl C env).scope.kind = .function) (hb : (x == ("__debug__" : Str)) = false) :
    wpAny M A (eval (.Name x pos) (compEnvC scope cl C env)) Q E s := wpAny_Name (wpAny_loadName_local hk hx F.ns hv h) hb
end
noncomputable def SrcStrs (h : Heap) (xv : Value) (ss : List Str) : Prop :=
  (∃ a vs, xv = .ref a ∧ StrsAre vs ss ∧ (h.IsList a vs.toArray ∨ h.IsTuple a vs.toArray)) ∨ (∃ x t, xv = .str x t ∧ ss = x.cps.toList.map fun c => (⟨#[c]⟩ : Str))

theorem strsAre_get {vs : List Value} {ss : List Str} (h : StrsAre vs ss) : ∀ {i : Nat} {v : Value}, vs[i]? = some v → ∃ x u, ss[i]? = some x ∧ v = .str x u := by
  induction h with
  | nil => intro i v e; simp at e
  | cons y t _ ih =>
    intro i v e
    cases i with
    | zero => simp at e; exact ⟨y, t, rfl, e.symm⟩
    | succ i => simpa using ih (by simpa using e)

section
variable {prog : Program} {w : World} {A : Around} {E : Value → Shared → Prop} {env : Env}
theorem src_strs {s : Shared} {xv : Value} {ss : List Str} {Q : Value → Shared → Prop} (hh : A.handled = none) (hs : SrcStrs s.heap xv ss)
    (h : ∀ (fp : List Addr) (P : Nat → Value → Prop) (St : Nat → Heap → Prop) (o : Obj), Walks prog w A s.heap.objs.size fp [s.heap.objs.size] ss.length P St → (∀ i v, P i v → ∃ x u, ss[i]? = some x ∧ v = .str x u) → St 0 (s.heap.push o) → (∀ b ∈ fp, b < (s.heap.push o).objs.size) →
      Q (.ref s.heap.objs.size) { s with heap := s.heap.push o }) : wpAny (model prog w) A (pyIter xv) Q E s := by
  rcases hs with ⟨a, vs, rfl, hv, hl | hl⟩ | ⟨x, t, rfl, rfl⟩
  · obtain ⟨ol, hol, _⟩ := id hl
    have hlt := Heap.lt_size hol
    have W := Walks.list (prog := prog) (w := w) hh s.heap.objs.size a (Nat.ne_of_lt hlt) vs.toArray
    have ez : vs.toArray.size = ss.length := by rw [List.size_toArray, hv.length]
    rw [ez] at W
    refine wpAny_pyIter_list hl (h _ _ _ _ W ?_ ⟨⟨_, Heap.get?_push_size _ rfl, rfl, rfl⟩, hl.at fun o e => Heap.get?_push_of_some _ e⟩ ?_)
    · intro i v e; exact strsAre_get hv (by simpa using e)
    · intro b hb
      rw [Heap.size_push]
      rcases List.mem_cons.mp hb with rfl | hb
      · exact Nat.lt_succ_self _
      · rw [List.mem_singleton.mp hb]; exact Nat.lt_succ_of_lt hlt
  · obtain ⟨ol, hol, _⟩ := id hl
    have hlt := Heap.lt_size hol
    have W := Walks.tuple (prog := prog) (w := w) hh s.heap.objs.size a (Nat.ne_of_lt hlt) vs.toArray
    have ez : vs.toArray.size = ss.length := by rw [List.size_toArray, hv.length]
    rw [ez] at W
    refine wpAny_pyIter_tuple hl (h _ _ _ _ W ?_ ⟨⟨_, Heap.get?_push_size _ rfl, rfl, rfl⟩, hl.at fun o e => Heap.get?_push_of_some _ e⟩ ?_)
    · intro i v e; exact strsAre_get hv (by simpa using e)
    · intro b hb
      rw [Heap.size_push]
      rcases List.mem_cons.mp hb with rfl | hb
      · exact Nat.lt_succ_self _
      · rw [List.mem_singleton.mp hb]; exact Nat.lt_succ_of_lt hlt
  · refine wpAny_pyIter_str fun o St W hst => h [s.heap.objs.size] (SignAt x) St o ?_ ?_ hst ?_
    · rw [List.length_map, Array.length_toList]; exact W _ hh
    · rintro i v ⟨c, u, e, rfl⟩
      refine ⟨_, u, ?_, rfl⟩
      rw [List.getElem?_map, Array.getElem?_toList, e]; rfl
    · intro b hb
      rw [List.mem_singleton.mp hb, Heap.size_push]; exact Nat.lt_succ_self _

noncomputable def onStr (p : Str → Bool) : Value → Bool
  | .str x _ => p x
  | _ => false
theorem strsAre_of {ss : List Str} : ∀ {vs : List Value}, vs.length = ss.length → (∀ (i : Nat) (v : Value), vs[i]? = some v → ∃ x u, ss[i]? = some x ∧ v = Value.str x u) → StrsAre vs ss := by
  induction ss with
  | nil => intro vs h _; cases vs with | nil => exact .nil | cons _ _ => simp at h
  | cons y ss ih =>
    intro vs h hv
    cases vs with
    | nil => simp at h
    | cons v vs =>
      obtain ⟨x, u, e, rfl⟩ := hv 0 v rfl
      cases (show y = x by simpa using e)
      exact .cons _ _ (ih (by simpa using h) fun i v e => by simpa using hv (i + 1) v (by simpa using e))
theorem paired_strs {F : Str → Value → Prop} {p : Str → Bool} : ∀ {vs : List Value} {ss : List Str} {ys : List Value}, StrsAre vs ss → Paired (fun (v y : Value) => ∃ x u, v = Value.str x u ∧ F x y) (vs.filter (onStr p)) ys → Paired F (ss.filter p) ys
  | _, _, ys, .nil, h => by cases h; exact .nil
  | _, _, ys, .cons (vs := vs) (ys := ss) x u hs, h => by
    rw [List.filter_cons] at h ⊢
    cases hp : p x with
    | false =>
      rw [show onStr p (.str x u) = false from hp] at h
      exact paired_strs hs h
    | true =>
      rw [show onStr p (.str x u) = true from hp] at h
      simp only [if_true] at h ⊢
      cases h with
      | cons h1 h2 =>
        obtain ⟨x', u', e, hf⟩ := h1
        cases e
        exact .cons hf (paired_strs hs h2)

inductive QSrc (prog : Program) (w : World) (A : Around) (env : Env) (elt : Expr) (x : Str) (ifs : List Expr) (scope : Scope) (cl : List (Str × Addr)) (g : Heap) (p : Str → Bool) (F : Str → Value → Prop) (Q : Value → Shared → Prop) (s₁ : Shared) (xv : Value) : Prop
  | mk (ss : List Str) (m : Str → Option Value) (news : List (Addr × Obj)) (h1 : SrcStrs s₁.heap xv ss) (h2 : ss.length ≤ sizeLine) (h3 : Fr g env.locals s₁.heap m) (h4 : News g env.locals s₁.heap news)
      (h5 : ∀ C z u E' (s₃ : Shared) (m₃ : Str → Option Value), z ∈ ss → (∀ q ∈ news, @LT.lt Nat _ q.1 C) → Fr g C s₃.heap (fun y => if y = x then some (.str z u) else m₃ y) → News g C s₃.heap news →
        wpAny (model prog w) A (forIn ifs true fun c r => if r = true then do let ok ← isTrue c (compEnvC scope cl C env) (eval c (compEnvC scope cl C env)); pure (ForInStep.yield ok) else pure (ForInStep.yield r))
          (fun ok s₄ => Halt (ok = p z ∧ Keeps s₃ s₄)) E' s₃)
      (h6 : ∀ C z u E' (s₃ : Shared) (m₃ : Str → Option Value), z ∈ ss → p z = true → (∀ q ∈ news, @LT.lt Nat _ q.1 C) → Fr g C s₃.heap (fun y => if y = x then some (.str z u) else m₃ y) → News g C s₃.heap news →
        wpAny (model prog w) A (eval elt (compEnvC scope cl C env)) (fun y s₄ => Halt (F z y ∧ Keeps s₃ s₄)) E' s₃)
      (h7 : ∀ D h' tk ys nD, Paired F (ss.filter p) ys → Fr g env.locals h' m → News g env.locals h' ((D, W.listOf ys.toArray nD) :: news) → (∀ q ∈ news, @Ne Nat q.1 D) → Q (.ref D) { s₁ with heap := h', toks := tk }) :
      QSrc prog w A env elt x ifs scope cl g p F Q s₁ xv
theorem ListComp_Q {s : Shared} {elt iter : Expr} {x : Str} {px : Pos} {ifs : List Expr} {scope : Scope} {cl : List (Str × Addr)} {pos : Pos} {Q : Value → Shared → Prop} (g : Heap) (p : Str → Bool) (F : Str → Value → Prop)
    (hclos : closureFor scope env = pure cl) (hcell : ∀ y ∈ scope.names, y.2 ≠ .cell) (hkind : scope.kind = .function)
    (hnames : ∀ y ∈ scope.names, y.2 = .local → scope.names.lookup y.1 = some .local) (hx : scope.names.lookup x = some .local)
    (hs : ∀ x, foldedSetIterable iter env x = pure x) (hh : A.handled = none)
    (h : wpAny (model prog w) A (eval iter env) (fun xv s₁ => Halt (QSrc prog w A env elt x ifs scope cl g p F Q s₁ xv)) E s) :
    wpAny (model prog w) A (eval (.ListComp elt [⟨.Name x px, iter, ifs, 0⟩] scope pos) env) Q E s := by
  refine wpAny_ListComp_free (onStr p) (fun (v y : Value) => ∃ x u, v = Value.str x u ∧ F x y) hclos hcell hkind hnames hx (wpAny_mono h (fun xv s₁ h₁ => ?_) fun _ _ e => e) hs
  obtain ⟨ss, m, news, hsrc, hsz, Fm, N, ht, he, hQ⟩ := h₁
  refine src_strs hh hsrc fun fp P St o W hP hst hfp => ⟨_, fp, _, _, P, St, rfl, W, hsz, hst, hfp, ?_, ?_⟩
  · have key : ∀ (C : Addr) (v : Value) (s₃ : Shared) (m₃ : Str → Option Value), (s₁.heap.push o).objs.size ≤ C → s₃.heap.Ns C m₃ → m₃ x = some v → (∀ b o', b ∉ [s₁.heap.objs.size] → (s₁.heap.push o).get? b = some o' → s₃.heap.get? b = some o') →
        Fr g C s₃.heap (fun y => if y = x then some v else m₃ y) ∧ News g C s₃.heap news ∧ ∀ q ∈ news, @LT.lt Nat _ q.1 C := by
      intro C v s₃ m₃ hC hn hm hk
      have hC' : s₁.heap.objs.size < C := by rw [Heap.size_push] at hC; exact hC
      have up : ∀ b o', s₁.heap.get? b = some o' → s₃.heap.get? b = some o' := fun b o' e => hk b o' (fun q => by have := Heap.lt_size e; rw [List.mem_singleton.mp q] at this; exact Nat.lt_irrefl _ this) (Heap.get?_push_of_some _ e)
      have bel : ∀ q ∈ news, @LT.lt Nat _ q.1 C := fun q hq => Nat.lt_trans (Heap.lt_size (N q hq).1) hC'
      refine ⟨Fr_say ⟨hn, fun b o' e => up b o' (Fm.keep b o' e), Nat.le_trans Fm.above (Nat.le_trans (Nat.le_of_lt Fm.ns.lt) (Nat.le_of_lt hC'))⟩ hm, fun q hq => ⟨up _ _ (N q hq).1, Nat.ne_of_lt (bel q hq), (N q hq).2.2⟩, bel⟩
    constructor
    · intro C i v s₃ m₃ E' hC hv hn hm hk htk
      obtain ⟨z, u, ez, rfl⟩ := hP i v hv
      obtain ⟨F3, N3, b3⟩ := key C _ s₃ m₃ hC hn hm hk
      exact ht C z u E' s₃ m₃ (List.mem_of_getElem? ez) b3 F3 N3
    · intro C i v s₃ m₃ E' hC hv hpv hn hm hk htk
      obtain ⟨z, u, ez, rfl⟩ := hP i v hv
      obtain ⟨F3, N3, b3⟩ := key C _ s₃ m₃ hC hn hm hk
      exact wpAny_mono (he C z u E' s₃ m₃ (List.mem_of_getElem? ez) hpv b3 F3 N3) (fun y s₄ h4 => ⟨⟨z, u, rfl, h4.1⟩, h4.2⟩) fun _ _ x => x
  · intro D h' tk ys vs hD hl hpl hlen hPv hpair hk
    have up : ∀ b o', s₁.heap.get? b = some o' → h'.get? b = some o' := fun b o' e => hk b o' (fun q => by have := Heap.lt_size e; rw [List.mem_singleton.mp q] at this; exact Nat.lt_irrefl _ this) (Heap.get?_push_of_some _ e)
    have hD1 : s₁.heap.get? D = none := by
      cases q : s₁.heap.get? D with
      | none => rfl
      | some o' => have := Heap.get?_push_of_some o q; rw [hD] at this; cases this
    have hv : StrsAre vs ss := strsAre_of hlen fun i v e => hP i v (hPv i v e)
    obtain ⟨nD, eD⟩ := hpl
    obtain ⟨ys, rfl⟩ : ∃ l : List Value, ys = l.toArray := ⟨ys.toList, by simp⟩
    obtain ⟨oL, _, _, hL, _⟩ := Fm.ns
    refine hQ D h' tk ys nD (paired_strs hv (by simpa using hpair)) ⟨Fm.ns.at' fun o' e => up _ _ e, fun b o' e => up b o' (Fm.keep b o' e), Fm.above⟩ ?_ ?_
    · intro q hq
      rcases List.mem_cons.mp hq with rfl | hq
      · refine ⟨eD, fun q => (by rw [show D = env.locals from q, show s₁.heap.get? env.locals = _ from hL] at hD1; cases hD1), ?_⟩
        cases q : g.get? D with
        | none => rfl
        | some o' => have := Fm.keep _ _ q; rw [hD1] at this; cases this
      · exact ⟨up _ _ (N q hq).1, (N q hq).2⟩
    · intro q hq e
      have := (N q hq).1
      rw [show q.1 = D from e, hD1] at this; cases this

theorem bools_of {F : Str → Value → Prop} {b : Str → Bool} (hF : ∀ z y, F z y → y = .bool (b z)) : ∀ {zs : List Str} {ys : List Value}, Paired F zs ys → LSm.BoolsAre ys (zs.map b)
  | _, _, .nil => .nil
  | _, _, .cons (b := y) h t => by rw [hF _ _ h]; exact .cons _ (bools_of hF t)
theorem all_strs {s : Shared} {g : Heap} {L D : Addr} {m : Str → Option Value} {news : List (Addr × Obj)} {zs : List Str} {ys : List Value} {nD : Nat} {b : Str → Bool} {Q : Value → Shared → Prop} (hh : A.handled = none)
    (F : Fr g L s.heap m) (N : News g L s.heap ((D, W.listOf ys.toArray nD) :: news)) (hp : Paired (fun z y => y = .bool (b z)) (zs.filter fun _ => true) ys)
    (h : ∀ h' tk, Fr g L h' m → News g L h' news → Q (.bool (zs.all b)) { s with heap := h', toks := tk }) : wpAny (model prog w) A (call (.builtin "all") [.ref D]) Q E s := by
  have hl : zs.filter (fun _ => true) = zs := by simp
  rw [hl] at hp
  refine LSm.all_bools F N hh ⟨_, (N _ (.head _)).1, rfl, _, rfl⟩ (bools_of (fun _ _ e => e) hp) fun h' tk F' N' => ?_
  have e : (zs.map b).all id = zs.all b := by rw [List.all_map]; rfl
  rw [e]
  exact h h' tk F' (News_sub N' fun p hp => .tail _ hp)
end
open PySem PySem.W PySem.Calls PyProof.Rows PySem.Builtin PySem.Builtin.Str
noncomputable def mapText (nm : Str) (ss : List Str) : Str := Str.empty ++ nm ++ Str.ofString " -> " ++ listText (ss.map reprText)
section
variable {prog : Program} {w : World} {A : Around} {E : Value → Shared → Prop} {s : Shared}
theorem convS_list {l : Addr} {vs : List Value} {ss : List Str} {Q : Value → Shared → Prop} (hg : A.guards = some []) (hu : A.units + 10 < cLine) (hl : s.heap.IsList l vs.toArray) (hS : StrsAre vs ss)
    (hz : ∀ y ∈ ss, (reprText y).length ≤ 1000) (hsz : (listText (ss.map reprText)).length ≤ 10000)
    (h : ∀ h' u tk, (∀ b o, s.heap.get? b = some o → h'.get? b = some o) → Q (.str (listText (ss.map reprText)) u) { s with heap := h', toks := tk }) : wpAny (model prog w) A (convS (.ref l)) Q E s := by
  obtain ⟨o, ho, hc, n, hd⟩ := hl
  have hT : s.TypeIs (.ref l) "list" := ⟨o, ho, hc⟩
  refine convS_slot (fun _ _ e => nomatch e) (by omega) hT F.slot_list_str F.slot_list_repr.toG ?_
  cases hS with
  | nil =>
    exact call_list_repr_empty hT ho hd ⟨_, _, rfl, by
      have := h s.heap s.toks (s.toks + 1) (fun _ _ e => e)
      exact this⟩
  | @cons x t vs ss r =>
    refine call_list_repr (ts := (x :: ss).map reprText) (g := []) hT hg (fun _ _ _ q => absurd q List.not_mem_nil) ho hd ?_ ?_ (fun h' u tk hk => ⟨_, _, rfl, h h' u tk hk⟩) (by rw [sizeLine_eq]; omega)
    · have := r.length
      simp [this]
    · intro i y hy
      have hS : StrsAre (Value.str x t :: vs) (x :: ss) := .cons x t r
      obtain ⟨z, u, hz1, rfl⟩ := strsAre_get hS (by simpa using hy)
      refine ⟨reprText z, by rw [List.getElem?_map, hz1]; rfl, ReprIs.str z u ?_⟩
      have := hz z (List.mem_of_getElem? hz1)
      rw [sizeLine_eq]; omega
end
section
variable {prog : Program} {w : World} {A : Around} {E : Value → Shared → Prop} {s : Shared} {h₀ : Heap} {L : Addr} {m : Str → Option Value} {news : List (Addr × Obj)}
theorem convS_N {ss : List Str} {vs : List Value} {l : Addr} {k : Nat} {Q : Value → Shared → Prop} (Fm : Fr h₀ L s.heap m) (N : News h₀ L s.heap news) (hl : (l, W.listOf vs.toArray k) ∈ news)
    (hg : A.guards = some []) (hu : A.units + 10 < cLine) (hS : StrsAre vs ss) (hz : ∀ y ∈ ss, (reprText y).length ≤ 1000) (hsz : (listText (ss.map reprText)).length ≤ 10000)
    (h : ∀ h' t' k, Fr h₀ L h' m → News h₀ L h' news → Q (.str (listText (ss.map reprText)) t') { s with heap := h', toks := k }) : wpAny (model prog w) A (convS (.ref l)) Q E s :=
  convS_list hg hu ⟨_, (N _ hl).1, rfl, k, rfl⟩ hS hz hsz fun h' t' k hk => h h' t' k ⟨Fm.ns.at' fun o e => hk _ _ e, fun b o e => hk b o (Fm.keep b o e), Fm.above⟩ (fun p hp => ⟨hk _ _ (N p hp).1, (N p hp).2⟩)
end
section
variable {prog : Program} {w : World} {A : Around} {E : Value → Shared → Prop} {s : Shared}
theorem stop_raise {P : Fin → Shared → Prop} (hh : A.handled = none) (h : ∀ h' b, (∀ b o, s.heap.get? b = some o → h'.get? b = some o) → ({ s with heap := h' } : Shared).TypeIs (.ref b) "StopIteration" → E (.ref b) { s with heap := h' }) :
    wpAny (model prog w) A (do let e ← newExc (.type "StopIteration") []; raiseNew e) P E s := by
  unfold newExc newTuple raiseNew
  wp_walk
  exact h _ _ (fun b o e => Heap.get?_push_of_some _ (Heap.get?_push_of_some _ e)) ⟨_, Heap.get?_push_size _ rfl, rfl⟩
theorem iter_on {h : Heap} {it l : Addr} {i : Nat} {o : Obj} (ho : h.get? it = some o) (hc : o.cls = .type "tuple_iterator") (hd : o.data = .fields #[.ref l, .int i 0]) :
    (h.update it (Obj.mapFields (·.setIfInBounds 1 (rawInt (i + 1))))).IsTupleIter it l (i + 1) := by
  obtain ⟨c, d, dt, sl⟩ := o
  cases hc
  cases hd
  exact ⟨_, Heap.get?_update_self _ ho rfl, rfl, rfl⟩
theorem nextOf_tuple {it l : Addr} {i : Nat} {items : Array Value} {Q : Value → Shared → Prop} (hh : A.handled = none) (hit : s.heap.IsTupleIter it l i) (hl : s.heap.IsTuple l items)
    (hQ : ∀ x h', items[i]? = some x → h'.IsTupleIter it l (i + 1) → Heap.SameBut it s.heap h' → Q x { s with heap := h' })
    (hE : items[i]? = none → ∀ h' e, Heap.ExtBut it s.heap h' → (∃ o, h'.get? e = some o ∧ o.cls = .type "StopIteration") → E (.ref e) { s with heap := h' }) :
    wpAny (model prog w) A (Builtin.SmallTypes.nextOf (.ref it)) Q E s := by
  have ty := hit.typeIs
  obtain ⟨o, ho, hc, hd⟩ := hit
  obtain ⟨ol, hol, _, nl, hdl⟩ := hl
  have body : wpAny (model prog w) A.in1 (Builtin.«tuple_iterator.__next__» ⟨[.ref it], []⟩) (fun f s' => ∃ v, f = .done (.ret v) ∧ Q v s') E s := by
    unfold Builtin.«tuple_iterator.__next__»
    wp_walk
    rw [hd]
    wp_walk
    rw [hd]
    wp_walk
    rw [hdl]
    refine wpAny_pure ?_
    dsimp only
    rw [Int.toNat_natCast]
    cases e : items[i]? with
    | some x => exact wpAny_bind (wpAny_setField ho hd (Nat.le_refl _) (wpAny_pure ⟨x, rfl, hQ x _ e (iter_on ho hc hd) (Heap.SameBut.update ..)⟩))
    | none =>
      refine wpAny_bind (wpAny_rule (wpAny_bind (wpAny_setField ho hd (Nat.zero_lt_succ _) (stop_raise hh fun h' b up ty => hE e _ b ?_ ty))))
      exact fun b o ne q => up b o ((Heap.get?_update_other _ _ (Ne.symm ne)).trans q)
  exact wpAny_bind (wpAny_callSpecial?_slot (name := Str.ofString "__next__") ty F.slot_tuple_iterator_next (wpAny_call_entry F.slot_tuple_iterator_next ty F.entry_tuple_iterator_next (wpAny_mono body (fun f s' z => by obtain ⟨v, e, q⟩ := z; exact ⟨v, e, wpAny_pure q⟩) fun _ _ x => x) (F.args_tuple_iterator_next_1 _)))
end
theorem any_through {M : Model} {A : Around} {E : Value → Shared → Prop} {s : Shared} {c : Value} {Q : Bool → Shared → Prop} (h : ∀ b, Q b s) : wpAny M A (Builtin.SmallTypes.calledThroughType c) Q E s := by
  unfold Builtin.SmallTypes.calledThroughType
  exact wpAny_bind (wpAny_stack_any fun st => wpAny_pure (h _))
theorem enum_newT (l : Addr) (items : Array Value) (n : Nat) (dct : Option Addr) (sl : Array (Option Value)) :
    Meets (Builtin.«enumerate.__new__» ⟨[.type "enumerate", .ref l], []⟩) (fun _ R s => s.heap.get? l = some { cls := .type "tuple", dict := dct, data := .seq items n, slots := sl } ∧
      R (.ok (.ret (.ref (s.heap.push { cls := .type "tuple_iterator", data := .fields #[.ref l, .int 0 0] }).objs.size)))
        { s with heap := (s.heap.push { cls := .type "tuple_iterator", data := .fields #[.ref l, .int 0 0] }).push { cls := .type "enumerate", data := .fields #[.none, .bool false, .ref s.heap.objs.size, rawInt 0, .none, .none] } }) :=
  .of_wp fun prog w A R s h => by
    have hL : s.heap.IsTuple l items := ⟨_, h.1, rfl, n, rfl⟩
    have hsub := sub_enumerate
    wp_walk using any_through
    intro b
    cases b <;> (wp_walk using wpAny_pyIter_tuple hL; exact ⟨_, rfl, h.2⟩)
theorem drawsT {prog : Program} {w : World} {A : Around} (hh : A.handled = none) (it l : Addr) (hne : l ≠ it) (items : Array Value) :
    Draws prog w A it [it, l] items.size (fun i v => items[i]? = some v) (fun i h => h.IsTupleIter it l i ∧ h.IsTuple l items) where
  live := fun _ _ ⟨⟨o, ho, _⟩, _⟩ => ⟨o, ho⟩
  frame := fun _ _ _ ⟨a, b⟩ k => ⟨a.at fun o => k it (.head _) o, b.at fun o => k l (.tail _ (.head _)) o⟩
  item := fun i s Q E hi ⟨a, b⟩ q => nextOf_tuple hh a b (fun x h' e a' sb => q x h' s.toks e ⟨a', b.extBut sb.extBut hne⟩ sb) fun e => absurd (Array.getElem?_eq_none_iff.mp e) (Nat.not_le.mpr hi)
  done := fun s Q E ⟨a, b⟩ q => nextOf_tuple hh a b (fun x h' e => nomatch (Array.getElem?_eq_none (Nat.le_refl items.size)).symm.trans e) fun _ => q
theorem two_push (h : Heap) {o1 o2 : Obj} (f1 : o1.isFreed = false) (f2 : o2.isFreed = false) :
    ((h.push o1).push o2).get? h.objs.size = some o1 ∧ ((h.push o1).push o2).get? (h.objs.size + 1) = some o2 ∧ ((h.push o1).push o2).objs.size = h.objs.size + 2 ∧ ∀ b o, h.get? b = some o → ((h.push o1).push o2).get? b = some o := by
  have e := Heap.size_push h o1
  refine ⟨Heap.get?_push_of_some _ (Heap.get?_push_size _ f1), ?_, by rw [Heap.size_push, e], fun b o q => Heap.get?_push_of_some _ (Heap.get?_push_of_some _ q)⟩
  rw [← e]; exact Heap.get?_push_size _ f2
section
variable {prog : Program} {w : World} {A : Around} {E : Value → Shared → Prop} {s : Shared}
theorem enum_tuple {l : Addr} {items : Array Value} {Q : Value → Shared → Prop} (hL : s.heap.IsTuple l items)
    (h : ∀ h', IsEnum h' (s.heap.objs.size + 1) s.heap.objs.size 0 .none → h'.IsTupleIter s.heap.objs.size l 0 → (∀ b o, s.heap.get? b = some o → h'.get? b = some o) → Q (.ref (s.heap.objs.size + 1)) { s with heap := h' }) :
    wpAny (model prog w) A (call (.type "enumerate") [.ref l]) Q E s := by
  obtain ⟨⟨_, dct, _, sl⟩, hl, rfl, n, rfl⟩ := hL
  obtain ⟨p1, p2, p3, p4⟩ := two_push s.heap (o1 := { cls := .type "tuple_iterator", data := .fields #[.ref l, .int 0 0] }) (o2 := { cls := .type "enumerate", data := .fields #[.none, .bool false, .ref s.heap.objs.size, rawInt 0, .none, .none] }) rfl rfl
  refine callType_new F.called_enumerate (by decide) (F.typeCall_enumerate_1 _) (F.newCall_enumerate_1 _) (fun obj => F.args_object_init_2 obj _) F.entry_enumerate_new (enum_newT l items n dct sl) ⟨hl, ?_⟩
  rw [Heap.size_push]
  exact ⟨⟨_, p2, rfl⟩, h _ p2 ⟨_, p1, rfl, rfl⟩ p4⟩
end

section
variable {prog : Program} {w : World} {A : Around} {env : Env} {E : Value → Shared → Prop} {Q : Flow → Shared → Prop} {s : Shared} {x y : Str} {px py pos : Pos} {x1 : Nat} {body orelse : List Stmt} {g : Heap} {a : Addr} {vs : List Value} {ss : List Str} {m : Str → Option Value} {news ext : List (Addr × Obj)}
theorem iter_strs (J : Nat → (Str → Option Value) → List (Addr × Obj) → List (Addr × Obj) → Prop)
    (hh : A.handled = none) (hl : s.heap.IsList a vs.toArray ∨ s.heap.IsTuple a vs.toArray) (hS : StrsAre vs ss) (hla : a ∉ news.map (·.1)) (F : Fr g env.locals s.heap m) (hlL : a ≠ env.locals) (N : News g env.locals s.heap (news ++ ext)) (hoff : OwnOff ext (news.map (·.1)))
    (hx : env.kindOf x = some .local) (hp : (env.scope.kind == .class || (env.scope.kind == .module && env.locals != env.globals)) = false) (h0 : J 0 m news ext)
    (turn : ∀ ext own i z u m₁ news₁ h tk, ss[i]? = some z → J i m₁ news₁ ext → news₁.map (·.1) = news.map (·.1) → OwnOff (ext ++ own) (news.map (·.1)) →
      Fr g env.locals h (fun y => if y = x then some (.str z u) else m₁ y) → News g env.locals h (news₁ ++ (ext ++ own)) →
      wpAny (model prog w) A (execs body env) (StepJ g env.locals (J (i + 1)) (news.map (·.1)) ext own { s with heap := h, toks := tk } Q) E { s with heap := h, toks := tk })
    (done : ∀ h tk m₁ news₁ ext, J ss.length m₁ news₁ ext → news₁.map (·.1) = news.map (·.1) → OwnOff ext (news.map (·.1)) → Fr g env.locals h m₁ → News g env.locals h (news₁ ++ ext) →
      wpAny (model prog w) A (execs orelse env) Q E { s with heap := h, toks := tk }) :
    wpAny (model prog w) A (pyIter (.ref a)) (fun it s₂ => LoopJ prog w A g env (.Name x px) body orelse Q E it s₂) E s := by
  have ez : vs.toArray.size = ss.length := by rw [List.size_toArray, hS.length]
  have turn' : ∀ ext own i v m₁ news₁ s₁, (∃ h tk, s₁ = { s with heap := h, toks := tk }) → i < vs.toArray.size → vs.toArray[i]? = some v → J i m₁ news₁ ext → news₁.map (·.1) = news.map (·.1) → OwnOff (ext ++ own) (news.map (·.1)) →
      Fr g env.locals s₁.heap m₁ → News g env.locals s₁.heap (news₁ ++ (ext ++ own)) →
      wpAny (model prog w) A (assign (.Name x px) env v) (fun _ s₂ =>
        wpAny (model prog w) A (execs body env) (StepJ g env.locals (J (i + 1)) (news.map (·.1)) ext own s₁ Q) E s₂) E s₁ := by
    rintro ext own i v m₁ news₁ s₁ ⟨hh', tk', rfl⟩ hi hP hJ ha hoff' F₁ N₁
    obtain ⟨z, u, ez, rfl⟩ := strsAre_get hS (by simpa using hP)
    exact name_J F₁ N₁ hx hp fun h' tk F₂ N₂ => wpAny_mono (turn ext own i z u m₁ news₁ h' tk ez hJ ha hoff' F₂ N₂) (fun f s₂ z => z.at) fun _ _ x => x
  rcases hl with hl | hl
  · obtain ⟨ol, hol, _⟩ := id hl
    have hlt := Heap.lt_size hol
    refine wpAny_pyIter_list hl ?_
    exact iter_gen J (turnsName (Walks.list hh s.heap.objs.size a (Nat.ne_of_lt hlt) vs.toArray)) (fun i h st => let ⟨⟨o, ho, _⟩, _⟩ := st; ⟨o, ho⟩) ⟨⟨_, Heap.get?_push_size _ rfl, rfl, rfl⟩, hl.at fun o e => Heap.get?_push_of_some _ e⟩ hla F hlL N hoff h0 turn' (ez ▸ done)
  · obtain ⟨ol, hol, _⟩ := id hl
    have hlt := Heap.lt_size hol
    refine wpAny_pyIter_tuple hl ?_
    exact iter_gen J (turnsName (Walks.tuple hh s.heap.objs.size a (Nat.ne_of_lt hlt) vs.toArray)) (fun i h st => let ⟨⟨o, ho, _⟩, _⟩ := st; ⟨o, ho⟩) ⟨⟨_, Heap.get?_push_size _ rfl, rfl, rfl⟩, hl.at fun o e => Heap.get?_push_of_some _ e⟩ hla F hlL N hoff h0 turn' (ez ▸ done)

end
noncomputable def Apart (news own : List (Addr × Obj)) : Prop := ∀ p ∈ news, ∀ q ∈ own, q.1 ≠ p.1
theorem Apart.nil {own : List (Addr × Obj)} : Apart [] own := fun _ h => absurd h List.not_mem_nil
theorem Apart.cons {own l : List (Addr × Obj)} {a : Addr} {o : Obj} (h1 : ∀ q ∈ own, q.1 ≠ a) (h : Apart l own) : Apart ((a, o) :: l) own := fun p hp => by
  rcases List.mem_cons.mp hp with rfl | hp
  · exact h1
  · exact h p hp
theorem Apart.append {own l l' : List (Addr × Obj)} (h1 : Apart l own) (h : Apart l' own) : Apart (l ++ l') own := fun p hp => (List.mem_append.mp hp).elim (h1 p) (h p)
theorem Apart.sub {own l l' : List (Addr × Obj)} (h : Apart l own) (hs : ∀ p ∈ l', p ∈ l) : Apart l' own := fun p hp => h p (hs p hp)
theorem Apart.adr {own l l' : List (Addr × Obj)} (h : Apart l own) (hs : ∀ p ∈ l', p.1 ∈ l.map (·.1)) : Apart l' own := fun p hp q hq e => by
  obtain ⟨p', hp', e'⟩ := List.mem_map.mp (hs p hp)
  exact h p' hp' q hq (e.trans e'.symm)
theorem Apart.tl {own l : List (Addr × Obj)} {p : Addr × Obj} (h : Apart (p :: l) own) : Apart l own := fun q hq => h q (.tail _ hq)
theorem Apart.hd {own l : List (Addr × Obj)} {a : Addr} {o : Obj} (h : Apart ((a, o) :: l) own) : ∀ q ∈ own, q.1 ≠ a := h _ (.head _)
theorem Apart.ofLt {own l : List (Addr × Obj)} {a : Addr} (h : AllLt a (l ++ own)) : ∀ q ∈ own, q.1 ≠ a := allLt_ne' h

inductive EndG (g : Heap) (L : Addr) (Jn : (Str → Option Value) → List (Addr × Obj) → Prop) (own : List (Addr × Obj)) (s₁ s₂ : Shared) : Prop
  | mk' (h' tk' m' news') (h1 : s₂ = { s₁ with heap := h', toks := tk' }) (h2 : Fr g L h' m') (h3 : News g L h' (news' ++ own)) (h4 : Apart news' own) (h5 : Jn m' news') : EndG g L Jn own s₁ s₂
noncomputable def StepG (g : Heap) (L : Addr) (Jn : (Str → Option Value) → List (Addr × Obj) → Prop) (own : List (Addr × Obj)) (s₁ : Shared) (Q : Flow → Shared → Prop) (f : Flow) (s₂ : Shared) : Prop :=
  match f with
  | .ret v => Q (.ret v) s₂
  | .brk => Q .next s₂
  | _ => EndG g L Jn own s₁ s₂
section
variable {g : Heap} {L : Addr} {Jn : (Str → Option Value) → List (Addr × Obj) → Prop} {own news₀ : List (Addr × Obj)} {s₁ s₂ : Shared} {Q : Flow → Shared → Prop}
theorem StepG.at {s : Shared} {h h' : Heap} {t t' : Nat} {f : Flow} (z : StepG g L Jn own { s with heap := h, toks := t } Q f s₂) : StepG g L Jn own { s with heap := h', toks := t' } Q f s₂ :=
  match f, z with
  | .ret _, z => z
  | .brk, z => z
  | .cont, ⟨a, b, c, d, e, f, g, h, i⟩ => ⟨a, b, c, d, e, f, g, h, i⟩
  | .next, ⟨a, b, c, d, e, f, g, h, i⟩ => ⟨a, b, c, d, e, f, g, h, i⟩
theorem StepG.next (h : EndG g L Jn own s₁ s₂) : StepG g L Jn own s₁ Q .next s₂ := h
theorem StepG.cont (h : EndG g L Jn own s₁ s₂) : StepG g L Jn own s₁ Q .cont s₂ := h
theorem EndG.mk {h' : Heap} {tk' : Nat} {m' : Str → Option Value} (news' : List (Addr × Obj)) (F : Fr g L h' m') (N : News g L h' news₀) (hs : ∀ p ∈ news' ++ own, p ∈ news₀) (ha : Apart news' own) (hj : Jn m' news') :
    EndG g L Jn own s₁ { s₁ with heap := h', toks := tk' } := ⟨h', tk', m', news', rfl, F, fun p hp => N p (hs p hp), ha, hj⟩
end

section
variable {prog : Program} {w : World} {A : Around} {env : Env}

inductive StG (wr : List Addr) (n : Nat) (St : Nat → Heap → Prop) (g : Heap) (L : Addr) (s : Shared) (J : Nat → (Str → Option Value) → List (Addr × Obj) → Prop) (k : Nat) (s' : Shared) : Prop
  | mk (h' tk m' news' i) (h1 : s' = { s with heap := h', toks := tk }) (h2 : St i h') (h3 : Fr g L h' m') (h4 : News g L h' news') (h5 : ∀ p ∈ news', p.1 ∉ wr) (h6 : J i m' news') (h7 : i ≤ n) (h8 : k = n + 1 - i) : StG wr n St g L s J k s'
theorem forLoop_G {R : Result → Shared → Prop} {s : Shared} {target : Expr} {body orelse : List Stmt} {I : Addr} {fp wr : List Addr} {n : Nat} {P Mid : Nat → Value → Heap → Prop} {St : Nat → Heap → Prop} {m : Str → Option Value} {g : Heap}
    {news : List (Addr × Obj)} {a : Addr} {oa : Obj} (W : KTurns prog w A target I fp wr n P Mid St) (hex : ∀ i h, St i h → ∀ b ∈ wr, ∃ o, h.get? b = some o)
    (hfp : ∀ b ∈ fp, b = a ∨ b ∈ wr) (hLw : env.locals ∉ wr) (hwr : ∀ b ∈ wr, g.get? b = none) (hnw : ∀ p ∈ news, p.1 ∉ wr)
    (hst : St 0 s.heap) (F : Fr g env.locals s.heap m) (N : News g env.locals s.heap news) (ha0 : s.heap.get? a = some oa)
    (J : Nat → (Str → Option Value) → List (Addr × Obj) → Prop) (h0 : J 0 m news) (hcont : ∀ i m news, J i m news → (a, oa) ∈ news ∨ g.get? a = some oa) 
    (turn : ∀ own i v m₁ news₁ s₁, (∃ h tk, s₁ = { s with heap := h, toks := tk }) → i < n → P i v s₁.heap → J i m₁ news₁ → Apart news₁ own → St (i + 1) s₁.heap →
      Fr g env.locals s₁.heap m₁ → News g env.locals s₁.heap (news₁ ++ own) →
      wpAny (model prog w) A (assign target env v) (fun _ s₂ =>
        wpAny (model prog w) A (execs body env) (StepG g env.locals (J (i + 1)) own s₁ fun f s' => R (.ok f) s') (notedBy (model prog w) A env fun e s' => R (.error e) s') s₂)
          (notedBy (model prog w) A env fun e s' => R (.error e) s') s₁)
    (done : ∀ h tk m₁ news₁, J n m₁ news₁ → Fr g env.locals h m₁ → News g env.locals h news₁ →
      wpAny (model prog w) A (execs orelse env) (fun f s₃ => R (.ok f) s₃) (notedBy (model prog w) A env fun e s' => R (.error e) s') { s with heap := h, toks := tk }) :
    codeAny (model prog w) A (.forLoop target (.ref I) body orelse env) R s := by
  refine codeAny_forLoop_any
    (StG wr n St g env.locals s J) ?_ (n + 1)
    ⟨s.heap, s.toks, m, news, 0, rfl, hst, F, N, hnw, h0, Nat.zero_le _, rfl⟩
  rintro k s' ⟨h', tk, m', news', i, rfl, hst', F', N', hnw', hJ, hi, rfl⟩
  have next : ∀ h₁ : Heap, (∀ b o, b ∉ wr → h'.get? b = some o → h₁.get? b = some o) → Fr g env.locals h₁ m' ∧ News g env.locals h₁ news' := fun h₁ hk₁ =>
    ⟨Fr_kp F' hk₁ hLw hwr, News_kp N' hk₁ fun p hp => hnw' p hp⟩
  by_cases hlt : i < n
  · refine W.item i _ _ _ hlt hst' fun v h₀ tk₁ hM₀ hk₀ => ?_
    refine W.go i v _ _ _ hM₀ fun h₁ hP hst₁ hk₁' => ?_
    have hk₁ : ∀ b o, b ∉ wr → h'.get? b = some o → h₁.get? b = some o := fun b o hb e => hk₁' b o hb (hk₀ b o hb e)
    obtain ⟨F₁, N₁⟩ := next h₁ hk₁
    have Nown : News g env.locals h₁ (PyProof.Rows.ownOf g wr h₁) := news_ownOf hLw
    have hoff : Apart news' (PyProof.Rows.ownOf g wr h₁) := fun p hp q hq e => hnw' p hp (e ▸ ownOf_sub q hq)
    have hbo : ∀ b ∈ wr, ∃ o, (b, o) ∈ PyProof.Rows.ownOf g wr h₁ := fun b hb => by
      obtain ⟨o, ho⟩ := hex _ _ hst₁ b hb
      exact ⟨o, mem_ownOf hb (hwr b hb) ho⟩
    refine wpAny_mono (turn (PyProof.Rows.ownOf g wr h₁) i v m' news' { s with heap := h₁, toks := tk₁ } ⟨_, _, rfl⟩ hlt hP hJ hoff hst₁ F₁ (N₁.append Nown)) (fun _ s₂ h₂ => wpAny_mono h₂ (fun f s₃ h₃ => ?_) fun _ _ x => x) fun _ _ x => x
    have fin : EndG g env.locals (J (i + 1)) (PyProof.Rows.ownOf g wr h₁) { s with heap := h₁, toks := tk₁ } s₃ → ∃ m, m < n + 1 - i ∧ StG wr n St g env.locals s J m s₃ := by
      rintro ⟨h₃', tk₃, m₂, news₂, rfl, F₃, N₃, ha₃, hJ₃⟩
      refine ⟨n + 1 - (i + 1), by omega, h₃', tk₃, m₂, news₂, i + 1, rfl, ?_, F₃, fun p hp => N₃ p (List.mem_append_left _ hp), fun p hp q => ?_, hJ₃, hlt, rfl⟩
      · refine W.frame _ _ _ hst₁ fun b hb o e => ?_
        cases hn : g.get? b with
        | some o₀ =>
          have e' := F₁.keep b o₀ hn
          rw [e] at e'
          cases e'
          exact F₃.keep b _ hn
        | none =>
          rcases hfp b hb with rfl | hb
          · have e1 : h₁.get? b = some oa := by
              rcases hcont _ _ _ hJ with q | q
              · exact (N₁ _ q).1
              · exact F₁.keep _ _ q
            rw [e] at e1
            cases e1
            rcases hcont _ _ _ hJ₃ with q | q
            · exact (N₃ _ (List.mem_append_left _ q)).1
            · exact F₃.keep _ _ q
          · exact (N₃ _ (List.mem_append_right _ (mem_ownOf hb hn e))).1
      · obtain ⟨o, ho⟩ := hbo _ q
        exact ha₃ p hp _ ho rfl
    cases f with
    | ret v => exact h₃
    | brk => exact h₃
    | cont => exact fin h₃
    | next => exact fin h₃
  · have hin : i = n := by omega
    subst hin
    refine W.done _ _ _ hst' fun h₁ tk₁ hk₁ => ?_
    obtain ⟨F₁, N₁⟩ := next h₁ hk₁
    exact done h₁ tk₁ m' news' hJ F₁ N₁

inductive LoopG (prog : Program) (w : World) (A : Around) (g : Heap) (env : Env) (target : Expr) (body orelse : List Stmt) (Q : Flow → Shared → Prop) (E : Value → Shared → Prop) (it : Value) (s₂ : Shared) : Prop
  | mk (I : Addr) (fp wr : List Addr) (n : Nat) (P Mid : Nat → Value → Heap → Prop) (St : Nat → Heap → Prop) (m : Str → Option Value) (news : List (Addr × Obj)) (a : Addr) (oa : Obj) (J : Nat → (Str → Option Value) → List (Addr × Obj) → Prop) (h1 : it = .ref I) (h2 : KTurns prog w A target I fp wr n P Mid St) (h3 : ∀ i h, St i h → ∀ b ∈ wr, ∃ o, h.get? b = some o) (h4 : ∀ b ∈ fp, b = a ∨ b ∈ wr) (h5 : env.locals ∉ wr) (h6 : ∀ b ∈ wr, g.get? b = none) (h7 : ∀ p ∈ news, p.1 ∉ wr)
    (h8 : St 0 s₂.heap) (h9 : Fr g env.locals s₂.heap m) (h10 : News g env.locals s₂.heap news) (h11 : s₂.heap.get? a = some oa) (h12 : J 0 m news)
    (h13 : ∀ i m news, J i m news → (a, oa) ∈ news ∨ g.get? a = some oa)
    (h14 : ∀ own i v m₁ news₁ s₁, (∃ h tk, s₁ = { s₂ with heap := h, toks := tk }) → i < n → P i v s₁.heap → J i m₁ news₁ → Apart news₁ own → St (i + 1) s₁.heap →
      Fr g env.locals s₁.heap m₁ → News g env.locals s₁.heap (news₁ ++ own) →
      wpAny (model prog w) A (assign target env v) (fun _ s₂ =>
        wpAny (model prog w) A (execs body env) (StepG g env.locals (J (i + 1)) own s₁ Q) E s₂) E s₁)
    (h15 : ∀ h tk m₁ news₁, J n m₁ news₁ → Fr g env.locals h m₁ → News g env.locals h news₁ → wpAny (model prog w) A (execs orelse env) Q E { s₂ with heap := h, toks := tk }) :
    LoopG prog w A g env target body orelse Q E it s₂

theorem For_G {E : Value → Shared → Prop} {Q : Flow → Shared → Prop} {s : Shared} {target iter : Expr} {pos : Pos} {body orelse : List Stmt} (g : Heap) (hE : PassesOwn (model prog w) A env E)
    (h : wpAny (model prog w) A (eval iter env) (fun xv s₁ => wpAny (model prog w) A (pyIter xv) (fun it s₂ => LoopG prog w A g env target body orelse Q E it s₂) E s₁) E s)
    (hs : ∀ x, foldedSetIterable iter env x = pure x) :
    wpAny (model prog w) A (exec (.For target iter body orelse pos) env) Q E s := by
  refine wpAny_For (wpAny_mono h (fun xv s₁ h₁ => wpAny_mono h₁ (fun it s₂ h₂ => ?_) fun _ _ e => e) fun _ _ e => e) hs
  obtain ⟨I, fp, wr, n, P, Mid, St, m, news, a, oa, J, rfl, W, hex, hfp, hLw, hwr, hnw, hst, F, N, ha0, h0, hcont, turn, done⟩ := h₂
  refine forLoop_G (R := fun r s' => match r with | .ok f => Q f s' | .error e => cameBackBy (model prog w) A env E e s') W hex hfp hLw hwr hnw hst F N ha0 J h0 hcont ?_ ?_
  · intro own i v m₁ news₁ s₁ a1 a2 a3 a4 a5 a6 a7 a8
    refine wpAny_passesOwn hE (wpAny_mono (turn own i v m₁ news₁ s₁ a1 a2 a3 a4 a5 a6 a7 a8) (fun _ s₁' h₁' => ?_) fun _ _ x => x)
    exact wpAny_passesOwn hE h₁'
  · intro h tk m₁ news₁ a1 a2 a3
    exact wpAny_passesOwn hE (done h tk m₁ news₁ a1 a2 a3)

theorem For_GF {E : Value → Shared → Prop} {Q : Flow → Shared → Prop} {s : Shared} {target iter : Expr} {pos : Pos} {body orelse : List Stmt} {g : Heap} {m : Str → Option Value} (_F : Fr g env.locals s.heap m) (hE : PassesOwn (model prog w) A env E)
    (hs : ∀ x, foldedSetIterable iter env x = pure x)
    (h : wpAny (model prog w) A (eval iter env) (fun xv s₁ => wpAny (model prog w) A (pyIter xv) (fun it s₂ => LoopG prog w A g env target body orelse Q E it s₂) E s₁) E s) :
    wpAny (model prog w) A (exec (.For target iter body orelse pos) env) Q E s := For_G g hE h hs

theorem iter_genG {E : Value → Shared → Prop} {Q : Flow → Shared → Prop} {s : Shared} {h₁ : Heap} {target : Expr} {body orelse : List Stmt} {g : Heap} {I a : Addr} {oa : Obj} {n : Nat} {fp wr : List Addr} {P Mid : Nat → Value → Heap → Prop} {St : Nat → Heap → Prop} {m : Str → Option Value} {news : List (Addr × Obj)}
    (J : Nat → (Str → Option Value) → List (Addr × Obj) → Prop)
    (W : KTurns prog w A target I fp wr n P Mid St) (hex : ∀ i h, St i h → ∀ b ∈ wr, ∃ o, h.get? b = some o) (hst : St 0 h₁) (hfp : ∀ b ∈ fp, b = a ∨ b ∈ wr) (hge : ∀ b ∈ wr, s.heap.objs.size ≤ b) (hk : ∀ b o, s.heap.get? b = some o → h₁.get? b = some o)
    (F : Fr g env.locals s.heap m) (N : News g env.locals s.heap news) (ha0 : s.heap.get? a = some oa) (h0 : J 0 m news) (hcont : ∀ i m news, J i m news → (a, oa) ∈ news ∨ g.get? a = some oa)
    (turn : ∀ own i v m₁ news₁ s₁, (∃ h tk, s₁ = { s with heap := h, toks := tk }) → i < n → P i v s₁.heap → J i m₁ news₁ → Apart news₁ own →
      Fr g env.locals s₁.heap m₁ → News g env.locals s₁.heap (news₁ ++ own) →
      wpAny (model prog w) A (assign target env v) (fun _ s₂ =>
        wpAny (model prog w) A (execs body env) (StepG g env.locals (J (i + 1)) own s₁ Q) E s₂) E s₁)
    (done : ∀ h tk m₁ news₁, J n m₁ news₁ → Fr g env.locals h m₁ → News g env.locals h news₁ →
      wpAny (model prog w) A (execs orelse env) Q E { s with heap := h, toks := tk }) :
    LoopG prog w A g env target body orelse Q E (.ref I) { s with heap := h₁ } := by
  have bel : ∀ p ∈ news, p.1 < s.heap.objs.size := fun p hp => Heap.lt_size (N p hp).1
  refine ⟨I, _, _, n, _, _, _, m, news, a, oa, J, rfl, W, hex, hfp, ?_, ?_, ?_, hst, ⟨F.ns.at' fun o e => hk _ _ e, fun b o e => hk b o (F.keep b o e), F.above⟩,
    fun p hp => ⟨hk _ _ (N p hp).1, (N p hp).2⟩, hk _ _ ha0, h0, hcont, ?_, ?_⟩
  · intro q
    exact absurd F.ns.lt (Nat.not_lt.mpr (hge _ q))
  · intro b hb
    cases q : g.get? b with
    | none => rfl
    | some o => exact absurd (Heap.lt_size (F.keep _ _ q)) (Nat.not_lt.mpr (hge b hb))
  · intro p hp q
    exact absurd (bel p hp) (Nat.not_lt.mpr (hge _ q))
  · rintro own i v m₁ news₁ s₁ ⟨hh', tk', rfl⟩ hi hP hJ hoff _ F₁ N₁
    exact turn own i v m₁ news₁ _ ⟨_, _, rfl⟩ hi hP hJ hoff F₁ N₁
  · intro h tk m₁ news₁ hJ F₁ N₁
    exact done h tk m₁ news₁ hJ F₁ N₁

theorem one_fp {I a : Addr} : ∀ b ∈ [I, a], b = a ∨ b ∈ [I] := fun b hb => by
  rcases List.mem_cons.mp hb with rfl | hb
  · exact .inr (.head _)
  · exact .inl (List.mem_singleton.mp hb)
theorem one_ge {I : Addr} : ∀ b ∈ [I], I ≤ b := fun b hb => by rw [List.mem_singleton.mp hb]; exact Nat.le_refl _

variable {E : Value → Shared → Prop} {Q : Flow → Shared → Prop} {s : Shared} {x y : Str} {px py pos : Pos} {x1 : Nat} {body orelse : List Stmt} {g : Heap} {a : Addr} {oa : Obj} {vs : List Value} {ss : List Str} {m : Str → Option Value} {news : List (Addr × Obj)}
theorem g_list {items : Array Value} (J : Nat → (Str → Option Value) → List (Addr × Obj) → Prop)
    (hh : A.handled = none) (ha0 : s.heap.get? a = some oa) (hl : oa.cls = .type "list" ∧ ∃ n, oa.data = .seq items n) (F : Fr g env.locals s.heap m) (N : News g env.locals s.heap news)
    (hx : env.kindOf x = some .local) (hp : (env.scope.kind == .class || (env.scope.kind == .module && env.locals != env.globals)) = false) (h0 : J 0 m news) (hcont : ∀ i m news, J i m news → (a, oa) ∈ news ∨ g.get? a = some oa)
    (turn : ∀ own i v m₁ news₁ h tk, items[i]? = some v → J i m₁ news₁ → Apart news₁ own →
      Fr g env.locals h (fun y => if y = x then some v else m₁ y) → News g env.locals h (news₁ ++ own) →
      wpAny (model prog w) A (execs body env) (StepG g env.locals (J (i + 1)) own { s with heap := h, toks := tk } Q) E { s with heap := h, toks := tk })
    (done : ∀ h tk m₁ news₁, J items.size m₁ news₁ → Fr g env.locals h m₁ → News g env.locals h news₁ →
      wpAny (model prog w) A (execs orelse env) Q E { s with heap := h, toks := tk }) :
    wpAny (model prog w) A (pyIter (.ref a)) (fun it s₂ => LoopG prog w A g env (.Name x px) body orelse Q E it s₂) E s := by
  have hlt := Heap.lt_size ha0
  have hL : s.heap.IsList a items := ⟨_, ha0, hl⟩
  refine wpAny_pyIter_list hL ?_
  refine iter_genG J (turnsName (Walks.list hh s.heap.objs.size a (Nat.ne_of_lt hlt) items)) (fun i h st b hb => let ⟨⟨o, ho, _⟩, _⟩ := st; ⟨o, (List.mem_singleton.mp hb) ▸ ho⟩) ⟨⟨_, Heap.get?_push_size _ rfl, rfl, rfl⟩, hL.at fun o e => Heap.get?_push_of_some _ e⟩ one_fp one_ge (fun b o e => Heap.get?_push_of_some _ e) F N ha0 h0 hcont ?_ done
  rintro own i v m₁ news₁ s₁ ⟨hh', tk', rfl⟩ hi hP hJ hoff' F₁ N₁
  exact name_J F₁ N₁ hx hp fun h' tk F₂ N₂ => wpAny_mono (turn own i v m₁ news₁ h' tk hP hJ hoff' F₂ N₂) (fun f s₂ z => z.at) fun _ _ x => x
theorem g_strs (J : Nat → (Str → Option Value) → List (Addr × Obj) → Prop)
    (hh : A.handled = none) (ha0 : s.heap.get? a = some oa) (hl : (oa.cls = .type "list" ∨ oa.cls = .type "tuple") ∧ ∃ n, oa.data = .seq vs.toArray n) (hS : StrsAre vs ss) (F : Fr g env.locals s.heap m) (N : News g env.locals s.heap news)
    (hx : env.kindOf x = some .local) (hp : (env.scope.kind == .class || (env.scope.kind == .module && env.locals != env.globals)) = false) (h0 : J 0 m news) (hcont : ∀ i m news, J i m news → (a, oa) ∈ news ∨ g.get? a = some oa)
    (turn : ∀ own i z u m₁ news₁ h tk, ss[i]? = some z → J i m₁ news₁ → Apart news₁ own →
      Fr g env.locals h (fun y => if y = x then some (.str z u) else m₁ y) → News g env.locals h (news₁ ++ own) →
      wpAny (model prog w) A (execs body env) (StepG g env.locals (J (i + 1)) own { s with heap := h, toks := tk } Q) E { s with heap := h, toks := tk })
    (done : ∀ h tk m₁ news₁, J ss.length m₁ news₁ → Fr g env.locals h m₁ → News g env.locals h news₁ →
      wpAny (model prog w) A (execs orelse env) Q E { s with heap := h, toks := tk }) :
    wpAny (model prog w) A (pyIter (.ref a)) (fun it s₂ => LoopG prog w A g env (.Name x px) body orelse Q E it s₂) E s := by
  have ez : vs.toArray.size = ss.length := by rw [List.size_toArray, hS.length]
  have turn' : ∀ own i v m₁ news₁ s₁, (∃ h tk, s₁ = { s with heap := h, toks := tk }) → i < vs.toArray.size → vs.toArray[i]? = some v → J i m₁ news₁ → Apart news₁ own →
      Fr g env.locals s₁.heap m₁ → News g env.locals s₁.heap (news₁ ++ own) →
      wpAny (model prog w) A (assign (.Name x px) env v) (fun _ s₂ =>
        wpAny (model prog w) A (execs body env) (StepG g env.locals (J (i + 1)) own s₁ Q) E s₂) E s₁ := by
    rintro own i v m₁ news₁ s₁ ⟨hh', tk', rfl⟩ hi hP hJ hoff' F₁ N₁
    obtain ⟨z, u, ez, rfl⟩ := strsAre_get hS (by simpa using hP)
    exact name_J F₁ N₁ hx hp fun h' tk F₂ N₂ => wpAny_mono (turn own i z u m₁ news₁ h' tk ez hJ hoff' F₂ N₂) (fun f s₂ z => z.at) fun _ _ x => x
  have hlt := Heap.lt_size ha0
  obtain ⟨hl, hd⟩ := hl
  rcases hl with hl | hl
  · have hL : s.heap.IsList a vs.toArray := ⟨_, ha0, hl, hd⟩
    refine wpAny_pyIter_list hL ?_
    exact iter_genG J (turnsName (Walks.list hh s.heap.objs.size a (Nat.ne_of_lt hlt) vs.toArray)) (fun i h st b hb => let ⟨⟨o, ho, _⟩, _⟩ := st; ⟨o, (List.mem_singleton.mp hb) ▸ ho⟩) ⟨⟨_, Heap.get?_push_size _ rfl, rfl, rfl⟩, hL.at fun o e => Heap.get?_push_of_some _ e⟩ one_fp one_ge (fun b o e => Heap.get?_push_of_some _ e) F N ha0 h0 hcont turn' (ez ▸ done)
  · have hL : s.heap.IsTuple a vs.toArray := ⟨_, ha0, hl, hd⟩
    refine wpAny_pyIter_tuple hL ?_
    exact iter_genG J (turnsName (Walks.tuple hh s.heap.objs.size a (Nat.ne_of_lt hlt) vs.toArray)) (fun i h st b hb => let ⟨⟨o, ho, _⟩, _⟩ := st; ⟨o, (List.mem_singleton.mp hb) ▸ ho⟩) ⟨⟨_, Heap.get?_push_size _ rfl, rfl, rfl⟩, hL.at fun o e => Heap.get?_push_of_some _ e⟩ one_fp one_ge (fun b o e => Heap.get?_push_of_some _ e) F N ha0 h0 hcont turn' (ez ▸ done)
theorem g_keys {kvs : List (Str × Value)} (J : Nat → (Str → Option Value) → List (Addr × Obj) → Prop)
    (hh : A.handled = none) (ha0 : s.heap.get? a = some oa) (hd : oa.IsDictOf (strKind prog w) kvs) (lo : (a == sysModules) = false) (F : Fr g env.locals s.heap m) (N : News g env.locals s.heap news)
    (hx : env.kindOf x = some .local) (hp : (env.scope.kind == .class || (env.scope.kind == .module && env.locals != env.globals)) = false) (h0 : J 0 m news) (hcont : ∀ i m news, J i m news → (a, oa) ∈ news ∨ g.get? a = some oa)
    (turn : ∀ own i z v u m₁ news₁ h tk, kvs[i]? = some (z, v) → J i m₁ news₁ → Apart news₁ own →
      Fr g env.locals h (fun y => if y = x then some (.str z u) else m₁ y) → News g env.locals h (news₁ ++ own) →
      wpAny (model prog w) A (execs body env) (StepG g env.locals (J (i + 1)) own { s with heap := h, toks := tk } Q) E { s with heap := h, toks := tk })
    (done : ∀ h tk m₁ news₁, J kvs.length m₁ news₁ → Fr g env.locals h m₁ → News g env.locals h news₁ →
      wpAny (model prog w) A (execs orelse env) Q E { s with heap := h, toks := tk }) :
    wpAny (model prog w) A (pyIter (.ref a)) (fun it s₂ => LoopG prog w A g env (.Name x px) body orelse Q E it s₂) E s := by
  obtain ⟨ep, hK⟩ := KdkAt.of hd
  have hD := hK.dictAt ha0
  have hlt := Heap.lt_size ha0
  refine wpAny_pyIter_dict lo hD ?_
  refine iter_genG J (turnsName (Walks.dictKeys hh s.heap.objs.size a (Nat.ne_of_lt hlt) kvs ep)) (fun i h st b hb => let ⟨⟨o, ho, _⟩, _⟩ := st; ⟨o, (List.mem_singleton.mp hb) ▸ ho⟩) ⟨⟨_, Heap.get?_push_size _ rfl, rfl, rfl⟩, hD.at' fun o e => Heap.get?_push_of_some _ e⟩ one_fp one_ge (fun b o e => Heap.get?_push_of_some _ e) F N ha0 h0 hcont ?_ done
  rintro own i v m₁ news₁ s₁ ⟨hh', tk', rfl⟩ hi ⟨k, x', ek, hk⟩ hJ hoff' F₁ N₁
  obtain ⟨u, rfl⟩ := Value.isStrOf_shape hk
  exact name_J F₁ N₁ hx hp fun h' tk F₂ N₂ => wpAny_mono (turn own i k x' u m₁ news₁ h' tk ek hJ hoff' F₂ N₂) (fun f s₂ z => z.at) fun _ _ x => x
theorem g_pairs {items : Array Value} (J : Nat → (Str → Option Value) → List (Addr × Obj) → Prop)
    (hh : A.handled = none) (ha0 : s.heap.get? a = some oa) (hl : oa.cls = .type "list" ∧ ∃ n, oa.data = .seq items n) (F : Fr g env.locals s.heap m) (N : News g env.locals s.heap news)
    (hx : env.kindOf x = some .local) (hy : env.kindOf y = some .local) (hp : (env.scope.kind == .class || (env.scope.kind == .module && env.locals != env.globals)) = false) (h0 : J 0 m news) (hcont : ∀ i m news, J i m news → (a, oa) ∈ news ∨ g.get? a = some oa) (hr : ∀ v ∈ items, ∃ a, v = .ref a)
    (hrow : ∀ i m news b, J i m news → items[i]? = some (.ref b) → ∃ v1 v2 n, (b, ({ cls := .type "tuple", data := .seq #[v1, v2] n } : Obj)) ∈ news)
    (turn : ∀ own i b v1 v2 n m₁ news₁ h tk, items[i]? = some (.ref b) → (b, ({ cls := .type "tuple", data := .seq #[v1, v2] n } : Obj)) ∈ news₁ → J i m₁ news₁ → Apart news₁ own →
      Fr g env.locals h (fun z => if z = y then some v2 else if z = x then some v1 else m₁ z) → News g env.locals h (news₁ ++ own) →
      wpAny (model prog w) A (execs body env) (StepG g env.locals (J (i + 1)) own { s with heap := h, toks := tk } Q) E { s with heap := h, toks := tk })
    (done : ∀ h tk m₁ news₁, J items.size m₁ news₁ → Fr g env.locals h m₁ → News g env.locals h news₁ →
      wpAny (model prog w) A (execs orelse env) Q E { s with heap := h, toks := tk }) :
    wpAny (model prog w) A (pyIter (.ref a)) (fun it s₂ => LoopG prog w A g env (.Tuple [.Name x px, .Name y py] x1 pos) body orelse Q E it s₂) E s := by
  have hlt := Heap.lt_size ha0
  have hL : s.heap.IsList a items := ⟨_, ha0, hl⟩
  refine wpAny_pyIter_list hL ?_
  refine iter_genG J (turnsPairs (Walks.list hh s.heap.objs.size a (Nat.ne_of_lt hlt) items) hr) (fun i h st b hb => let ⟨⟨o, ho, _⟩, _⟩ := st; ⟨o, (List.mem_singleton.mp hb) ▸ ho⟩) ⟨⟨_, Heap.get?_push_size _ rfl, rfl, rfl⟩, hL.at fun o e => Heap.get?_push_of_some _ e⟩ one_fp one_ge (fun b o e => Heap.get?_push_of_some _ e) F N ha0 h0 hcont ?_ done
  rintro own i v m₁ news₁ s₁ ⟨hh', tk', rfl⟩ hi hP hJ hoff' F₁ N₁
  obtain ⟨b, rfl⟩ := hr v (Array.mem_of_getElem? hP)
  obtain ⟨v1, v2, n, hm⟩ := hrow i m₁ news₁ b hJ hP
  refine pair_J hh F₁ N₁ ⟨_, (N₁ _ (List.mem_append_left _ hm)).1, rfl, n, rfl⟩ hx hy hp fun h' tk F₂ N₂ => ?_
  exact wpAny_mono (turn own i b v1 v2 n m₁ news₁ h' tk hP hm hJ hoff' F₂ N₂) (fun f s₂ z => z.at) fun _ _ x => x
theorem g_enum (J : Nat → (Str → Option Value) → List (Addr × Obj) → Prop)
    (hh : A.handled = none) (ha0 : s.heap.get? a = some oa) (hl : (oa.cls = .type "list" ∨ oa.cls = .type "tuple") ∧ ∃ n, oa.data = .seq vs.toArray n) (hS : StrsAre vs ss) (F : Fr g env.locals s.heap m) (N : News g env.locals s.heap news)
    (hx : env.kindOf x = some .local) (hy : env.kindOf y = some .local) (hp : (env.scope.kind == .class || (env.scope.kind == .module && env.locals != env.globals)) = false) (h0 : J 0 m news) (hcont : ∀ i m news, J i m news → (a, oa) ∈ news ∨ g.get? a = some oa)
    (turn : ∀ own i z t u m₁ news₁ h tk, ss[i]? = some z → J i m₁ news₁ → Apart news₁ own →
      Fr g env.locals h (fun q => if q = y then some (.str z u) else if q = x then some (.int i t) else m₁ q) → News g env.locals h (news₁ ++ own) →
      wpAny (model prog w) A (execs body env) (StepG g env.locals (J (i + 1)) own { s with heap := h, toks := tk } Q) E { s with heap := h, toks := tk })
    (done : ∀ h tk m₁ news₁, J ss.length m₁ news₁ → Fr g env.locals h m₁ → News g env.locals h news₁ →
      wpAny (model prog w) A (execs orelse env) Q E { s with heap := h, toks := tk }) :
    wpAny (model prog w) A (call (.type "enumerate") [.ref a]) (fun xv s₁ => wpAny (model prog w) A (pyIter xv) (fun it s₂ => LoopG prog w A g env (.Tuple [.Name x px, .Name y py] x1 pos) body orelse Q E it s₂) E s₁) E s := by
  have ez : vs.toArray.size = ss.length := by rw [List.size_toArray, hS.length]
  have hlt := Heap.lt_size ha0
  have fin : ∀ (h' : Heap) (ic : Nat → Heap → Prop) (_hD : Draws prog w A.in1 s.heap.objs.size [s.heap.objs.size, a] vs.toArray.size (fun i v => vs.toArray[i]? = some v) ic) (_hi : ic 0 h') (_he : IsEnum h' (s.heap.objs.size + 1) s.heap.objs.size 0 .none)
      (_hk : ∀ b o, s.heap.get? b = some o → h'.get? b = some o),
      wpAny (model prog w) A (pyIter (.ref (s.heap.objs.size + 1))) (fun it s₂ => LoopG prog w A g env (.Tuple [.Name x px, .Name y py] x1 pos) body orelse Q E it s₂) E { s with heap := h' } := by
    intro h' ic hD hi he hk
    refine wpAny_pyIter_enum he ?_
    have W := WalksT.enumerateD hD (s.heap.objs.size + 1) (Nat.succ_ne_self _) (by
      intro q
      rcases List.mem_cons.mp q with q | q
      · exact Nat.succ_ne_self _ q
      · exact absurd hlt (by rw [← List.mem_singleton.mp q]; exact Nat.not_lt.mpr (Nat.le_succ _))) (.head _)
    refine iter_genG J (turnsT W (fun i T h hM q => ?_)) ?_ ⟨⟨_, he⟩, hi⟩ ?_ ?_ hk F N ha0 h0 hcont ?_ (ez ▸ done)
    · rcases List.mem_cons.mp q with q | q
      · exact hM.2.2.1 q
      · exact hM.2.2.2 (List.mem_singleton.mp q)
    · rintro i h ⟨⟨old, ho⟩, hs⟩ b hb
      rcases List.mem_cons.mp hb with rfl | hb
      · exact ⟨_, ho⟩
      · rw [List.mem_singleton.mp hb]; exact hD.live _ _ hs
    · intro b hb
      rcases List.mem_cons.mp hb with rfl | hb
      · exact .inr (.head _)
      · rcases List.mem_cons.mp hb with rfl | hb
        · exact .inr (.tail _ (.head _))
        · exact .inl (List.mem_singleton.mp hb)
    · intro b hb
      rcases List.mem_cons.mp hb with rfl | hb
      · exact Nat.le_succ _
      · rw [List.mem_singleton.mp hb]; exact Nat.le_refl _
    · rintro own i v m₁ news₁ s₁ ⟨hh', tk', rfl⟩ hi' ⟨T, vals, rfl, ⟨t, xv, hxv, rfl⟩, hT⟩ hJ hoff' F₁ N₁
      obtain ⟨z, u, ezz, rfl⟩ := strsAre_get hS (by simpa using hxv)
      refine pair_J hh F₁ N₁ hT hx hy hp fun h' tk F₂ N₂ => ?_
      exact wpAny_mono (turn own i z t u m₁ news₁ h' tk ezz hJ hoff' F₂ N₂) (fun f s₂ z => z.at) fun _ _ x => x
  obtain ⟨hl, hd⟩ := hl
  rcases hl with hl | hl
  · have hL : s.heap.IsList a vs.toArray := ⟨_, ha0, hl, hd⟩
    exact call_enumerate_list hL fun h' he hit hz hk => fin h' _ (Draws.list (A := A.in1) hh s.heap.objs.size a (Nat.ne_of_lt hlt) vs.toArray) ⟨hit, hL.at fun o e => hk _ _ e⟩ he hk
  · have hL : s.heap.IsTuple a vs.toArray := ⟨_, ha0, hl, hd⟩
    exact enum_tuple hL fun h' he hit hk => fin h' _ (drawsT (A := A.in1) hh s.heap.objs.size a (Nat.ne_of_lt hlt) vs.toArray) ⟨hit, hL.at fun o e => hk _ _ e⟩ he hk
end
noncomputable def Has (hb h : Heap) (led : List (Addr × Obj)) : Prop := ∀ p ∈ led, h.get? p.1 = some p.2 ∧ hb.get? p.1 = none
theorem Has.base {hb h : Heap} {led : List (Addr × Obj)} (H : Has hb h led) : ∀ a ∈ led.map (·.1), hb.get? a = none := fun a ha => by
  obtain ⟨p, hp, rfl⟩ := List.mem_map.mp ha
  exact (H p hp).2
theorem In.putAll {K : Frag} {p : Program} {loose : List Str} {mg mb : Str → Option Value} {hb h g h₁ : Heap} {L : Addr} {led : List (Addr × Obj)} (I : In K p loose mg mb (led.map (·.1)) hb h g L h₁) (H : Has hb h led) : News g L h₁ led := fun q hq =>
  ⟨I.up _ _ (H q hq).1, by have := Heap.lt_size (H q hq).1; rw [I.loc]; exact Nat.ne_of_lt this, I.hid _ (List.mem_map_of_mem hq)⟩
noncomputable def Left (led : List (Addr × Obj)) (h h' : Heap) (led' : List (Addr × Obj)) : Prop := ∀ p ∈ led', h'.get? p.1 = some p.2 ∧ (p.1 ∈ led.map (·.1) ∨ h.get? p.1 = none)
theorem use_led {g h h' : Heap} {L : Addr} {m : Str → Option Value} {led led' rest : List (Addr × Obj)} (F : Fr g L h m) (N : News g L h (led ++ rest)) (ha : Apart led rest) (k : Kp (led.map (·.1)) h h') (hl : Left led h h' led') :
    Fr g L h' m ∧ News g L h' (led' ++ rest) ∧ Apart led' rest := by
  have hg : ∀ a ∈ led.map (·.1), g.get? a = none ∧ a ≠ L := fun a ha => by
    obtain ⟨p, hp, rfl⟩ := List.mem_map.mp ha
    exact ⟨(N p (List.mem_append_left _ hp)).2.2, (N p (List.mem_append_left _ hp)).2.1⟩
  obtain ⟨oL, _, _, hL, _⟩ := id F.ns
  refine ⟨Fr_kp F k (fun q => (hg _ q).2 rfl) fun a ha => (hg a ha).1, fun p hp => ?_, fun p hp q hq e => ?_⟩
  · rcases List.mem_append.mp hp with hp | hp
    · refine ⟨(hl p hp).1, ?_⟩
      rcases (hl p hp).2 with q | q
      · exact ⟨(hg _ q).2, (hg _ q).1⟩
      · refine ⟨fun e => (by rw [e, show h.get? L = _ from hL] at q; cases q), ?_⟩
        cases q' : g.get? p.1 with
        | none => rfl
        | some o => have := F.keep _ _ q'; rw [q] at this; cases this
    · have y := N p (List.mem_append_right _ hp)
      exact ⟨k _ _ (fun q => by
        obtain ⟨p', hp', e⟩ := List.mem_map.mp q
        exact ha p' hp' p hp e.symm) y.1, y.2⟩
  · rcases (hl p hp).2 with q' | q'
    · obtain ⟨p', hp', e'⟩ := List.mem_map.mp q'
      exact ha p' hp' q hq (e.trans e'.symm)
    · have := (N q (List.mem_append_right _ hq)).1
      rw [e, q'] at this; cases this
theorem In.left {K : Frag} {p : Program} {loose : List Str} {mg mb : Str → Option Value} {hb h g h₁ h' : Heap} {L L' : Addr} {led led' : List (Addr × Obj)} (I : In K p loose mg mb (led.map (·.1)) hb h g L h₁) (N : News g L' h' led') : Left led h h' led' := fun q hq => by
  refine ⟨(N q hq).1, ?_⟩
  by_cases hm : q.1 ∈ led.map (·.1)
  · exact .inl hm
  · exact .inr (I.new (a := q.1) (o := q.2) N hq hm)
theorem In.kpAll {K : Frag} {p : Program} {loose : List Str} {mg mb : Str → Option Value} {hb h g h₁ h' : Heap} {L L' : Addr} {m : Str → Option Value} {led led' : List (Addr × Obj)} (I : In K p loose mg mb (led.map (·.1)) hb h g L h₁) (H : Has hb h led) (F : Fr g L' h' m) (N : News g L' h' led') (hs : ∀ q ∈ led, q ∈ led') : Kp [] h h' := fun b o _ e => by
  by_cases hm : b ∈ led.map (·.1)
  · obtain ⟨q, hq, rfl⟩ := List.mem_map.mp hm
    have := (H q hq).1
    rw [e] at this
    cases this
    exact (N q (hs q hq)).1
  · exact I.kp F b o hm e
section
variable {prog : Program} {w : World} {A : Around} {env : Env}
noncomputable def RawR (prog : Program) (w : World) (A : Around) (env : Env) (Q : Flow → Shared → Prop) (E : Value → Shared → Prop) : Result → Shared → Prop :=
  fun r s' => match r with | .ok f => Q f s' | .error e => cameBackBy (model prog w) A env E e s'
theorem For_raw {E : Value → Shared → Prop} {Q : Flow → Shared → Prop} {s : Shared} {target iter : Expr} {pos : Pos} {body orelse : List Stmt}
    (h : wpAny (model prog w) A (eval iter env) (fun xv s₁ => wpAny (model prog w) A (pyIter xv) (fun it s₂ => codeAny (model prog w) A (.forLoop target it body orelse env) (RawR prog w A env Q E) s₂) E s₁) E s)
    (hs : ∀ x, foldedSetIterable iter env x = pure x) :
    wpAny (model prog w) A (exec (.For target iter body orelse pos) env) Q E s :=
  wpAny_For (wpAny_mono h (fun xv s₁ h₁ => wpAny_mono h₁ (fun it s₂ h₂ => h₂) fun _ _ e => e) fun _ _ e => e) hs
inductive EndL (g : Heap) (L a : Addr) (Jn : List Str → (Str → Option Value) → Prop) (rst : List (Addr × Obj)) (s s₂ : Shared) : Prop
  | mk (h' : Heap) (tk' : Nat) (m' : Str → Option Value) (vs' : List Value) (ss' : List Str) (k' : Nat) (h1 : s₂ = { s with heap := h', toks := tk' }) (h2 : Fr g L h' m') (h3 : News g L h' ((a, W.listOf vs'.toArray k') :: rst)) (h4 : StrsAre vs' ss') (h5 : Jn ss' m') : EndL g L a Jn rst s s₂
noncomputable def StepL (g : Heap) (L a : Addr) (Jn : List Str → (Str → Option Value) → Prop) (rst : List (Addr × Obj)) (s : Shared) (Q : Flow → Shared → Prop) (f : Flow) (s₂ : Shared) : Prop :=
  match f with
  | .ret v => Q (.ret v) s₂
  | .brk => Q .next s₂
  | _ => EndL g L a Jn rst s s₂
theorem StepL.next {g : Heap} {L a : Addr} {Jn : List Str → (Str → Option Value) → Prop} {rst : List (Addr × Obj)} {s s₂ : Shared} {Q : Flow → Shared → Prop}
    (h : EndL g L a Jn rst s s₂) : StepL g L a Jn rst s Q .next s₂ := h
inductive StL (B : Nat) (I a : Addr) (g : Heap) (L : Addr) (s : Shared) (rst : List (Addr × Obj)) (J : Nat → List Str → (Str → Option Value) → Prop) (n : Nat) (s' : Shared) : Prop
  | mk (h' : Heap) (tk : Nat) (m' : Str → Option Value) (vs' : List Value) (ss' : List Str) (k' i : Nat) (h1 : s' = { s with heap := h', toks := tk }) (h2 : h'.IsListIter I a i) (h3 : Fr g L h' m') (h4 : News g L h' ((a, W.listOf vs'.toArray k') :: rst)) (h5 : StrsAre vs' ss') (h6 : J i ss' m') (h7 : n = B + 1 - i) : StL B I a g L s rst J n s'
theorem grow_strs {E : Value → Shared → Prop} {Q : Flow → Shared → Prop} {s : Shared} {x : Str} {px : Pos} {body orelse : List Stmt} {g : Heap} {a : Addr} {vs : List Value} {ss : List Str} {k : Nat} {m : Str → Option Value} {rst : List (Addr × Obj)}
    (hE : PassesOwn (model prog w) A env E) (hh : A.handled = none) (F : Fr g env.locals s.heap m) (N : News g env.locals s.heap ((a, W.listOf vs.toArray k) :: rst)) (hS : StrsAre vs ss)
    (hx : env.kindOf x = some .local) (hp : (env.scope.kind == .class || (env.scope.kind == .module && env.locals != env.globals)) = false)
    (J : Nat → List Str → (Str → Option Value) → Prop) (B : Nat) (hB : ∀ i ss m, J i ss m → ss.length ≤ B) (hi0 : ∀ i ss m, J i ss m → i ≤ ss.length) (h0 : J 0 ss m)
    (turn : ∀ own i z u m₁ vs₁ ss₁ k₁ h tk, ss₁[i]? = some z → StrsAre vs₁ ss₁ → J i ss₁ m₁ → (∀ q ∈ own, q.1 ≠ a ∧ ∀ p ∈ rst, q.1 ≠ p.1) → Fr g env.locals h (fun y => if y = x then some (.str z u) else m₁ y) → News g env.locals h ((a, W.listOf vs₁.toArray k₁) :: (rst ++ own)) →
      wpAny (model prog w) A (execs body env) (StepL g env.locals a (J (i + 1)) (rst ++ own) s Q) E { s with heap := h, toks := tk })
    (done : ∀ h tk m₁ vs₁ ss₁ k₁, J ss₁.length ss₁ m₁ → StrsAre vs₁ ss₁ → Fr g env.locals h m₁ → News g env.locals h ((a, W.listOf vs₁.toArray k₁) :: rst) →
      wpAny (model prog w) A (execs orelse env) Q E { s with heap := h, toks := tk }) :
    wpAny (model prog w) A (pyIter (.ref a)) (fun it s₂ => codeAny (model prog w) A (.forLoop (.Name x px) it body orelse env) (RawR prog w A env Q E) s₂) E s := by
  have ha0 := (N _ (.head _)).1
  have hlt := Heap.lt_size ha0
  have hL : s.heap.IsList a vs.toArray := ⟨_, ha0, rfl, k, rfl⟩
  refine wpAny_pyIter_list hL ?_
  obtain ⟨I, hI⟩ : ∃ I, I = s.heap.objs.size := ⟨_, rfl⟩
  have hk0 : ∀ b o, s.heap.get? b = some o → (s.heap.push { cls := .type "list_iterator", data := .fields #[.ref a, .int 0 0] }).get? b = some o := fun b o e => Heap.get?_push_of_some _ e
  have hgI : g.get? I = none := by
    cases q : g.get? I with
    | none => rfl
    | some o => exact absurd (Heap.lt_size (F.keep _ _ q)) (by rw [hI]; exact Nat.lt_irrefl _)
  have hLI : env.locals ≠ I := fun q => absurd F.ns.lt (by rw [q, hI]; exact Nat.lt_irrefl _)
  have hIa : a ≠ I := fun q => absurd hlt (by rw [q, hI]; exact Nat.lt_irrefl _)
  have hIr : ∀ p ∈ rst, p.1 ≠ I := fun p hp q => absurd (Heap.lt_size (N p (.tail _ hp)).1) (by rw [q, hI]; exact Nat.lt_irrefl _)
  rw [← hI]
  refine codeAny_forLoop_any (R := RawR prog w A env Q E)
    (StL B I a g env.locals s rst J) ?_ (B + 1)
    ⟨_, s.toks, m, vs, ss, k, 0, rfl, ⟨_, hI ▸ Heap.get?_push_size _ rfl, rfl, rfl⟩, ⟨F.ns.at' fun o e => hk0 _ _ e, fun b o e => hk0 b o (F.keep b o e), F.above⟩, fun p hp => ⟨hk0 _ _ (N p hp).1, (N p hp).2⟩, hS, h0, rfl⟩
  rintro n s' ⟨h', tk, m', vs', ss', k', i, rfl, hit, F', N', hS', hJ, rfl⟩
  have hL' : h'.IsList a vs'.toArray := ⟨_, (N' _ (.head _)).1, rfl, k', rfl⟩
  have Wk := Walks.list (prog := prog) (w := w) (A := A) hh I a hIa vs'.toArray
  have ez : vs'.toArray.size = ss'.length := by rw [List.size_toArray, hS'.length]
  have next : ∀ h₁ : Heap, (∀ b o, b ∉ [I] → h'.get? b = some o → h₁.get? b = some o) → Fr g env.locals h₁ m' ∧ News g env.locals h₁ ((a, W.listOf vs'.toArray k') :: rst) := fun h₁ hk₁ =>
    ⟨Fr_kp F' hk₁ (fun q => hLI (List.mem_singleton.mp q)) (fun b hb => (List.mem_singleton.mp hb) ▸ hgI), News_kp N' hk₁ fun p hp q => by
      rcases List.mem_cons.mp hp with rfl | hp
      · exact hIa (List.mem_singleton.mp q)
      · exact hIr p hp (List.mem_singleton.mp q)⟩
  by_cases hlt' : i < ss'.length
  · refine Wk.item i _ _ _ (by omega) ⟨hit, hL'⟩ fun v h₁ tk₁ hP hst hk₁ => ?_
    obtain ⟨F₁, N₁⟩ := next h₁ hk₁
    obtain ⟨z, u, ezz, rfl⟩ := strsAre_get hS' (by simpa using hP)
    obtain ⟨hit1, hL1⟩ := hst
    obtain ⟨oI, hoI, hoI2⟩ := id hit1
    have N₂ : News g env.locals h₁ ((a, W.listOf vs'.toArray k') :: (rst ++ [(I, oI)])) := fun p hp => by
      rcases List.mem_cons.mp hp with rfl | hp
      · exact N₁ _ (.head _)
      · rcases List.mem_append.mp hp with hp | hp
        · exact N₁ p (.tail _ hp)
        · rw [List.mem_singleton.mp hp]; exact ⟨hoI, hLI.symm, hgI⟩
    refine wpAny_of_eq (show letOwnedTupleGo (.Name x px) (.ref I) (.str z u) = pure () from rfl) ?_
    refine wpAny_passesOwn hE (name_J (s := { s with heap := h₁, toks := tk₁ }) F₁ N₂ hx hp fun h₂ tk₂ F₂ N₂ => ?_)
    refine wpAny_passesOwn hE (wpAny_mono (turn [(I, oI)] i z u m' vs' ss' k' h₂ tk₂ ezz hS' hJ (fun q hq => ?_) F₂ N₂) (fun f s₃ h₃ => ?_) fun _ _ x => x)
    · rw [List.mem_singleton.mp hq]; exact ⟨hIa.symm, fun p hp => (hIr p hp).symm⟩
    · have fin : EndL g env.locals a (J (i + 1)) (rst ++ [(I, oI)]) s s₃ → ∃ n, n < B + 1 - i ∧ StL B I a g env.locals s rst J n s₃ := by
        rintro ⟨h₄, tk₄, m₄, vs₄, ss₄, k₄, rfl, F₄, N₄, hS₄, hJ₄⟩
        have b1 := hB _ _ _ hJ
        refine ⟨B + 1 - (i + 1), by omega, h₄, tk₄, m₄, vs₄, ss₄, k₄, i + 1, rfl, ⟨oI, (N₄ _ (.tail _ (List.mem_append_right _ (.head _)))).1, hoI2⟩, F₄, fun p hp => N₄ p ?_, hS₄, hJ₄, rfl⟩
        rcases List.mem_cons.mp hp with rfl | hp
        · exact .head _
        · exact .tail _ (List.mem_append_left _ hp)
      cases f with
      | ret v => exact h₃
      | brk => exact h₃
      | cont => exact fin h₃
      | next => exact fin h₃
  · have hin : i = ss'.length := Nat.le_antisymm (hi0 _ _ _ hJ) (Nat.not_lt.mp hlt')
    subst hin
    refine Wk.done _ _ _ (by rw [ez]; exact ⟨hit, hL'⟩) fun h₁ tk₁ hk₁ => ?_
    obtain ⟨F₁, N₁⟩ := next h₁ hk₁
    exact wpAny_passesOwn hE (done h₁ tk₁ m' vs' ss' k' hJ hS' F₁ N₁)
theorem g_range {E : Value → Shared → Prop} {Q : Flow → Shared → Prop} {s : Shared} {x : Str} {px : Pos} {body orelse : List Stmt} {g : Heap} {m : Str → Option Value} {news : List (Addr × Obj)} {r : Addr} {c : Int} {t u v : Tok}
    (J : Nat → (Str → Option Value) → List (Addr × Obj) → Prop) (hh : A.handled = none) (hg : ∃ a oa, g.get? a = some oa) (hr : IsRange s.heap r 0 c 1 t u v) (hc0 : 0 ≤ c) (hc1 : c ≤ 1000) (F : Fr g env.locals s.heap m) (N : News g env.locals s.heap news)
    (hx : env.kindOf x = some .local) (hp : (env.scope.kind == .class || (env.scope.kind == .module && env.locals != env.globals)) = false) (h0 : J 0 m news)
    (turn : ∀ own i vv m₁ news₁ h tk, i < c.toNat → J i m₁ news₁ → Apart news₁ own →
      Fr g env.locals h (fun y => if y = x then some vv else m₁ y) → News g env.locals h (news₁ ++ own) →
      wpAny (model prog w) A (execs body env) (StepG g env.locals (J (i + 1)) own { s with heap := h, toks := tk } Q) E { s with heap := h, toks := tk })
    (done : ∀ h tk m₁ news₁, J c.toNat m₁ news₁ → Fr g env.locals h m₁ → News g env.locals h news₁ →
      wpAny (model prog w) A (execs orelse env) Q E { s with heap := h, toks := tk }) :
    wpAny (model prog w) A (pyIter (.ref r)) (fun it s₂ => LoopG prog w A g env (.Name x px) body orelse Q E it s₂) E s := by
  obtain ⟨a, oa, hga⟩ := hg
  refine wpAny_pyIter_range hr (small_one (by omega) (by omega) (by omega) (by omega)) ?_
  have hn : Builtin.Range.rangeSize 0 c 1 = (c.toNat : Int) := by rw [rangeSize_nat]; omega
  refine iter_genG (a := a) (oa := oa) J (turnsName (Walks.range hh s.heap.objs.size 0 1 c.toNat)) (fun i h st b hb => ⟨_, (List.mem_singleton.mp hb) ▸ st⟩) ?_ (fun b hb => .inr hb) one_ge (fun b o e => Heap.get?_push_of_some _ e) F N (F.keep a oa hga) h0 (fun _ _ _ _ => .inr hga) ?_ done
  · show IsRangeIter _ _ _ _ _
    rw [hn]; simpa using Heap.get?_push_size _ rfl
  · rintro own i vv m₁ news₁ s₁ ⟨hh', tk', rfl⟩ hi hP hJ hoff' F₁ N₁
    exact name_J F₁ N₁ hx hp fun h' tk F₂ N₂ => wpAny_mono (turn own i vv m₁ news₁ h' tk hi hJ hoff' F₂ N₂) (fun f s₂ z => z.at) fun _ _ x => x
end
section
variable {prog : Program} {w : World} {A : Around} {env : Env}
inductive DEnd (g : Heap) (C : Addr) (own : List (Addr × Obj)) (J : List (Addr × Obj) → Prop) (s s₄ : Shared) : Prop
  | mk (h' : Heap) (tk' : Nat) (m' : Str → Option Value) (news' : List (Addr × Obj)) (h1 : s₄ = { s with heap := h', toks := tk' }) (h2 : Fr g C h' m') (h3 : News g C h' (news' ++ own)) (h4 : Apart news' own) (h5 : J news') : DEnd g C own J s s₄
theorem DEnd.at {s : Shared} {h h' : Heap} {t t' : Nat} {g : Heap} {C : Addr} {own : List (Addr × Obj)} {J : List (Addr × Obj) → Prop} {s₄ : Shared} (z : DEnd g C own J { s with heap := h, toks := t } s₄) : DEnd g C own J { s with heap := h', toks := t' } s₄ :=
  let ⟨a, b, c, d, e, f, g, h, i⟩ := z; ⟨a, b, c, d, e, f, g, h, i⟩
noncomputable def DcTurn (prog : Program) (w : World) (A : Around) (g : Heap) (x : Str) (vx : Expr) (cenv : Env) (zs : List Str) (J : Nat → List (Str × Value) → List (Addr × Obj) → Prop) (s : Shared) : Prop :=
  ∀ i z u kvs news₁ own h tk (m₃ : Str → Option Value), zs[i]? = some z → J i kvs news₁ → Apart news₁ own →
    Fr g cenv.locals h (fun y => if y = x then some (.str z u) else m₃ y) → News g cenv.locals h (news₁ ++ own) →
    wpAny (model prog w) A (eval vx cenv) (fun y s₄ => Halt (DEnd g cenv.locals own (J (i + 1) (stored kvs z y)) s s₄))
      (fun _ _ => False) { s with heap := h, toks := tk }
inductive StDc (prog : Program) (w : World) (C D L : Addr) (wr : List Addr) (zs : List Str) (St : Nat → Heap → Prop) (g : Heap) (s : Shared) (J : Nat → List (Str × Value) → List (Addr × Obj) → Prop) (k : Nat) (s' : Shared) : Prop
  | mk (h' : Heap) (tk : Nat) (m' : Str → Option Value) (kvs : List (Str × Value)) (news₁ : List (Addr × Obj)) (i : Nat) (h1 : s' = { s with heap := h', toks := tk }) (h2 : St i h') (h3 : h'.DictOf (strKind prog w) D kvs) (h4 : h'.Ns C m') (h5 : ∀ b o, g.get? b = some o → h'.get? b = some o) (h6 : ∀ o, s.heap.get? L = some o → h'.get? L = some o)
      (h7 : ∀ p ∈ news₁, h'.get? p.1 = some p.2 ∧ g.get? p.1 = none ∧ p.1 ≠ C ∧ p.1 ≠ D ∧ p.1 ≠ L ∧ p.1 ∉ wr) (h8 : J i kvs news₁) (h9 : i ≤ zs.length) (h10 : kvs.length ≤ i) (h11 : k = zs.length + 1 - i) : StDc prog w C D L wr zs St g s J k s'
theorem dc_loop {R : Result → Shared → Prop} {s : Shared} {vx iter : Expr} {x : Str} {px pk : Pos} {scope : Scope} {pos : Pos} {I D L a : Addr} {oa : Obj} {fp wr : List Addr} {zs : List Str} {P : Nat → Value → Prop} {St : Nat → Heap → Prop}
    {cenv : Env} {m : Str → Option Value} {g : Heap} {news : List (Addr × Obj)} (W : Walks prog w A I fp wr zs.length P St) (J : Nat → List (Str × Value) → List (Addr × Obj) → Prop)
    (hP : ∀ i v, P i v → ∃ z u, zs[i]? = some z ∧ v = .str z u) (hex : ∀ i h, St i h → ∀ b ∈ wr, ∃ o, h.get? b = some o) (hfp : ∀ b ∈ fp, b = a ∨ b ∈ wr)
    (hck : cenv.scope.kind = .function) (hx : cenv.kindOf x = some .local) (hp : (cenv.scope.kind == .class || (cenv.scope.kind == .module && cenv.locals != cenv.globals)) = false) (hxd : (x == ("__debug__" : Str)) = false)
    (hDC : D ≠ cenv.locals) (hDf : D ∉ fp) (hCf : cenv.locals ∉ fp) (hDL : D ≠ L) (hCL : cenv.locals ≠ L) (hLw : L ∉ wr) (hDg : g.get? D = none) (hwg : ∀ b ∈ wr, g.get? b = none) (hCg : g.objs.size ≤ cenv.locals) (hLg : g.get? L = none)
    (hLs : ∃ o, s.heap.get? L = some o) (hcont : ∀ i kvs news, J i kvs news → (a, oa) ∈ news ∨ g.get? a = some oa)
    (hst : St 0 s.heap) (hacc : s.heap.DictOf (strKind prog w) D []) (hn : s.heap.Ns cenv.locals m) (hg : ∀ b o, g.get? b = some o → s.heap.get? b = some o)
    (hN : ∀ p ∈ news, s.heap.get? p.1 = some p.2 ∧ g.get? p.1 = none ∧ p.1 ≠ cenv.locals ∧ p.1 ≠ D ∧ p.1 ≠ L ∧ p.1 ∉ wr) (hJ : J 0 [] news)
    (turn : DcTurn prog w A g x vx cenv zs J s)
    (hR : ∀ h' tk m' kvs news₁, h'.Ns cenv.locals m' → h'.DictOf (strKind prog w) D kvs → J zs.length kvs news₁ → (∀ b o, g.get? b = some o → h'.get? b = some o) → (∀ o, s.heap.get? L = some o → h'.get? L = some o) →
      (∀ p ∈ news₁, h'.get? p.1 = some p.2 ∧ g.get? p.1 = none ∧ p.1 ≠ cenv.locals ∧ p.1 ≠ D ∧ p.1 ≠ L ∧ p.1 ∉ wr) → R (.ok .next) { s with heap := h', toks := tk })
    (hsz : zs.length ≤ sizeLine) :
    codeAny (model prog w) A (.compLoop (.DictComp (.Name x pk) vx [⟨.Name x px, iter, [], 0⟩] scope pos) 0 (.ref I) (.ref D) cenv) R s := by
  refine codeAny_compLoop_testsD
    (StDc prog w cenv.locals D L wr zs St g s J) ?_ (zs.length + 1)
    ⟨s.heap, s.toks, m, [], news, 0, rfl, hst, hacc, hn, hg, fun _ e => e, hN, hJ, Nat.zero_le _, Nat.le_refl _, rfl⟩
  rintro k s' ⟨H, tk, m', kvs, news₁, i, rfl, hst', hacc', hn', hg', hL', hN', hJ', hi, hki, rfl⟩
  have hCw : cenv.locals ∉ wr := fun h => hCf (W.sub _ h)
  have hDw : D ∉ wr := fun h => hDf (W.sub _ h)
  have hCgn : g.get? cenv.locals = none := by
    cases q : g.get? cenv.locals with
    | none => rfl
    | some o => exact absurd (Heap.lt_size q) (Nat.not_lt.mpr hCg)
  by_cases hlt : i < zs.length
  · refine W.item i _ _ _ hlt hst' fun v h₁ tk₁ hPv hst₁ hk₁ => ?_
    obtain ⟨z, u, hz, rfl⟩ := hP i v hPv
    refine wpAny_assign_Name (wpAny_storeName_local hx (hn'.at' fun o e => hk₁ _ o hCw e) (fun h₂ hn₂ hs₂ => ?_) hp)
    have up₂ : ∀ b o, b ≠ cenv.locals → b ∉ wr → H.get? b = some o → h₂.get? b = some o := fun b o hbC hbf e => hs₂.extBut b o hbC (hk₁ b o hbf e)
    have hst₂ : St (i + 1) h₂ := W.frame _ _ _ hst₁ fun b hb o e => hs₂.extBut b o (fun h => hCf (h ▸ hb)) e
    have hg₂ : ∀ b o, g.get? b = some o → h₂.get? b = some o := fun b o e => up₂ b o (fun q => by rw [q, hCgn] at e; cases e) (fun q => by rw [hwg b q] at e; cases e) (hg' b o e)
    have F₂ : Fr g cenv.locals h₂ (fun y => if y = x then some (.str z u) else m' y) := ⟨hn₂, hg₂, hCg⟩
    have N₂ : News g cenv.locals h₂ (news₁ ++ restOf g h₂ (cenv.locals :: news₁.map (·.1))) := fun p hp => by
      rcases List.mem_append.mp hp with hp | hp
      · have y := hN' p hp
        exact ⟨up₂ _ _ y.2.2.1 y.2.2.2.2.2 y.1, y.2.2.1, y.2.1⟩
      · obtain ⟨h1, h2, h3⟩ := mem_restOf.mp hp
        exact ⟨h3, fun q => h1 (q ▸ .head _), h2⟩
    have hap : Apart news₁ (restOf g h₂ (cenv.locals :: news₁.map (·.1))) := fun p hp q hq e => (mem_restOf.mp hq).1 (.tail _ (e ▸ List.mem_map_of_mem hp))
    have inown : ∀ b o, b ≠ cenv.locals → (∀ p ∈ news₁, p.1 ≠ b) → g.get? b = none → h₂.get? b = some o → (b, o) ∈ restOf g h₂ (cenv.locals :: news₁.map (·.1)) := fun b o h1 h2 h3 h4 => mem_restOf.mpr ⟨fun q => by
      rcases List.mem_cons.mp q with q | q
      · exact h1 q
      · obtain ⟨p, hp, e⟩ := List.mem_map.mp q
        exact h2 p hp e, h3, h4⟩
    refine wpAny_tests_nil ?_
    show wpAny _ _ (eval (.Name x pk) cenv) _ _ _
    refine wpAny_Name (wpAny_loadName_local hck hx hn₂ (if_pos rfl) ?_) hxd
    refine wpAny_mono (turn i z u kvs news₁ _ h₂ _ m' hz hJ' hap F₂ N₂) (fun y s₄ h₄ => ?_) fun _ _ x => x.elim
    obtain ⟨h₃, tk₃, m₃, news₃, rfl, F₃, N₃, ha₃, hJ₃⟩ := halt h₄
    have N₃r : ∀ p ∈ restOf g h₂ (cenv.locals :: news₁.map (·.1)), h₃.get? p.1 = some p.2 := fun p hp => (N₃ p (List.mem_append_right _ hp)).1
    have hacc₃ : h₃.DictOf (strKind prog w) D kvs := (hacc'.at fun o e => up₂ D o hDC hDw e).at fun o e => N₃r _ (inown D o hDC (fun p hp => (hN' p hp).2.2.2.1) hDg e)
    refine wpAny_dictSet_pairs (hsz := by omega) (strKind_is _ _ _ _) hacc₃ fun h₄ hacc₄ hs₄ => ?_
    obtain ⟨oD, hoD⟩ : ∃ o, h₂.get? D = some o := let ⟨o, ho, _⟩ := Heap.dictOf_iff.mp (hacc'.at fun o e => up₂ D o hDC hDw e); ⟨o, ho⟩
    obtain ⟨oL, hoL⟩ := hLs
    have hoL₂ : h₂.get? L = some oL := up₂ L oL hCL.symm hLw (hL' oL hoL)
    have hnD : ∀ p ∈ news₃, p.1 ≠ D := fun p hp q => ha₃ p hp _ (inown D oD hDC (fun p hp => (hN' p hp).2.2.2.1) hDg hoD) q.symm
    have hnL : ∀ p ∈ news₃, p.1 ≠ L := fun p hp q => ha₃ p hp _ (inown L oL hCL.symm (fun p hp => (hN' p hp).2.2.2.2.1) hLg hoL₂) q.symm
    have wrIn : ∀ b ∈ wr, ∀ o, h₂.get? b = some o → (b, o) ∈ restOf g h₂ (cenv.locals :: news₁.map (·.1)) := fun b hb o e => inown b o (fun q => hCw (q ▸ hb)) (fun p hp q => (hN' p hp).2.2.2.2.2 (q ▸ hb)) (hwg b hb) e
    have hnw : ∀ p ∈ news₃, p.1 ∉ wr := fun p hp q => by
      obtain ⟨o, ho⟩ := hex _ _ hst₂ _ q
      exact ha₃ p hp _ (wrIn _ q o ho) rfl
    refine ⟨zs.length + 1 - (i + 1), by omega, h₄, _, m₃, stored kvs z y, news₃, i + 1, rfl, ?_, hacc₄, F₃.ns.sameBut hs₄ (Ne.symm hDC), ?_, ?_, ?_, hJ₃, hlt, ?_, rfl⟩
    · refine W.frame _ _ _ hst₂ fun b hb o e => hs₄.extBut b o (fun q => hDf (q ▸ hb)) ?_
      rcases hfp b hb with rfl | hb
      · have e1 : h₂.get? b = some oa := by
          rcases hcont _ _ _ hJ' with q | q
          · exact (N₂ _ (List.mem_append_left _ q)).1
          · exact hg₂ _ _ q
        rw [e] at e1
        cases e1
        rcases hcont _ _ _ hJ₃ with q | q
        · exact (N₃ _ (List.mem_append_left _ q)).1
        · exact F₃.keep _ _ q
      · exact N₃r _ (wrIn b hb o e)
    · exact fun b o e => hs₄.extBut b o (fun q => by rw [q, hDg] at e; cases e) (F₃.keep b o e)
    · intro o e
      rw [hoL] at e
      cases e
      exact hs₄.extBut L oL hDL.symm (N₃r _ (inown L oL hCL.symm (fun p hp => (hN' p hp).2.2.2.2.1) hLg hoL₂))
    · intro p hp
      have y' := N₃ p (List.mem_append_left _ hp)
      exact ⟨hs₄.extBut _ _ (hnD p hp) y'.1, y'.2.2, y'.2.1, hnD p hp, hnL p hp, hnw p hp⟩
    · have := stored_length_le kvs z y; omega
  · have hin : i = zs.length := by omega
    subst hin
    refine W.done _ _ _ hst' fun h₁ tk₁ hk₁ => ?_
    exact hR h₁ tk₁ m' kvs news₁ (hn'.at' fun o e => hk₁ _ o hCw e) (hacc'.at fun o e => hk₁ _ o hDw e) hJ' (fun b o e => hk₁ b o (fun q => by rw [hwg b q] at e; cases e) (hg' b o e)) (fun o e => hk₁ _ o hLw (hL' o e))
      (fun p hp => ⟨hk₁ _ _ (hN' p hp).2.2.2.2.2 (hN' p hp).1, (hN' p hp).2⟩)
theorem walks_len {I : Addr} {fp wr : List Addr} {n n' : Nat} {P : Nat → Value → Prop} {St : Nat → Heap → Prop} (h : n = n') (W : Walks prog w A I fp wr n P St) : Walks prog w A I fp wr n' P St := h ▸ W
noncomputable def SrcKeys (prog : Program) (w : World) (h : Heap) (a : Addr) (oa : Obj) (zs : List Str) : Prop :=
  h.get? a = some oa ∧ ((∃ vs, StrsAre vs zs ∧ oa.cls = .type "list" ∧ ∃ n, oa.data = .seq (vs : List Value).toArray n) ∨ (∃ kvs : List (Str × Value), oa.IsDictOf (strKind prog w) kvs ∧ zs = kvs.map (·.1) ∧ (a == sysModules) = false))
theorem src_keys {E : Value → Shared → Prop} {s : Shared} {a : Addr} {oa : Obj} {zs : List Str} {Q : Value → Shared → Prop} (hh : A.handled = none) (hs : SrcKeys prog w s.heap a oa zs)
    (h : ∀ (P : Nat → Value → Prop) (St : Nat → Heap → Prop) (o : Obj), Walks prog w A s.heap.objs.size [s.heap.objs.size, a] [s.heap.objs.size] zs.length P St → (∀ i v, P i v → ∃ z u, zs[i]? = some z ∧ v = .str z u) → (∀ i h, St i h → ∀ b ∈ [s.heap.objs.size], ∃ o, h.get? b = some o) → St 0 (s.heap.push o) →
      Q (.ref s.heap.objs.size) { s with heap := s.heap.push o }) : wpAny (model prog w) A (pyIter (.ref a)) Q E s := by
  obtain ⟨ha0, hs⟩ := hs
  have hlt := Heap.lt_size ha0
  rcases hs with ⟨vs, hv, hl⟩ | ⟨kvs, hd, rfl, lo⟩
  · have hL : s.heap.IsList a vs.toArray := ⟨_, ha0, hl⟩
    have W := Walks.list (prog := prog) (w := w) hh s.heap.objs.size a (Nat.ne_of_lt hlt) vs.toArray
    have ez : vs.toArray.size = zs.length := by rw [List.size_toArray, hv.length]
    rw [ez] at W
    refine wpAny_pyIter_list hL (h _ _ _ W ?_ (fun i h st b hb => let ⟨⟨o, ho, _⟩, _⟩ := st; ⟨o, (List.mem_singleton.mp hb) ▸ ho⟩) ⟨⟨_, Heap.get?_push_size _ rfl, rfl, rfl⟩, hL.at fun o e => Heap.get?_push_of_some _ e⟩)
    intro i v e; exact strsAre_get hv (by simpa using e)
  · obtain ⟨ep, hK⟩ := KdkAt.of hd
    have hD := hK.dictAt ha0
    have W := Walks.dictKeys hh s.heap.objs.size a (Nat.ne_of_lt hlt) kvs ep (knd := strKind prog w) (prog := prog) (w := w)
    have ez : kvs.length = (kvs.map (·.1)).length := by rw [List.length_map]
    refine wpAny_pyIter_dict lo hD (h _ _ _ (walks_len ez W) ?_ (fun i h st b hb => let ⟨⟨o, ho, _⟩, _⟩ := st; ⟨o, (List.mem_singleton.mp hb) ▸ ho⟩) ⟨⟨_, Heap.get?_push_size _ rfl, rfl, rfl⟩, hD.at' fun o e => Heap.get?_push_of_some _ e⟩)
    rintro i v ⟨k, x', ek, hk⟩
    obtain ⟨u, rfl⟩ := Value.isStrOf_shape hk
    exact ⟨k, u, by rw [List.getElem?_map, ek]; rfl, rfl⟩
inductive DSrc (prog : Program) (w : World) (A : Around) (env : Env) (vx : Expr) (x : Str) (scope : Scope) (cl : List (Str × Addr)) (g : Heap) (J : Nat → List (Str × Value) → List (Addr × Obj) → Prop) (Q : Value → Shared → Prop) (s₁ : Shared) (xv : Value) : Prop
  | mk (a : Addr) (oa : Obj) (zs : List Str) (m : Str → Option Value) (news : List (Addr × Obj)) (h1 : xv = .ref a) (h2 : SrcKeys prog w s₁.heap a oa zs) (h3 : zs.length ≤ sizeLine) (h4 : Fr g env.locals s₁.heap m) (h5 : News g env.locals s₁.heap news) (h6 : J 0 [] news)
      (h7 : ∀ i kvs news, J i kvs news → (a, oa) ∈ news ∨ g.get? a = some oa)
      (h8 : ∀ C, (∀ p ∈ news, @LT.lt Nat _ p.1 C) → DcTurn prog w A g x vx (compEnvC scope cl C env) zs J s₁)
      (h9 : ∀ D h' tk kvs oD news₁, @LT.lt Nat _ env.locals D → J zs.length kvs news₁ → Fr g env.locals h' m → News g env.locals h' ((D, oD) :: news₁) → oD.IsDictOf (strKind prog w) kvs → (∀ q ∈ news₁, @Ne Nat q.1 D) → Q (.ref D) { s₁ with heap := h', toks := tk }) :
      DSrc prog w A env vx x scope cl g J Q s₁ xv
theorem DictComp_Q {E : Value → Shared → Prop} {s : Shared} {vx iter : Expr} {x : Str} {px pk : Pos} {scope : Scope} {cl : List (Str × Addr)} {pos : Pos} {Q : Value → Shared → Prop} (g : Heap) (J : Nat → List (Str × Value) → List (Addr × Obj) → Prop)
    (hclos : closureFor scope env = pure cl) (hcell : ∀ y ∈ scope.names, y.2 ≠ .cell) (hkind : scope.kind = .function)
    (hnames : ∀ y ∈ scope.names, y.2 = .local → scope.names.lookup y.1 = some .local) (hx : scope.names.lookup x = some .local)
    (hs : ∀ x, foldedSetIterable iter env x = pure x) (hh : A.handled = none) (hxd : (x == ("__debug__" : Str)) = false)
    (h : wpAny (model prog w) A (eval iter env) (fun xv s₁ => Halt (DSrc prog w A env vx x scope cl g J Q s₁ xv)) E s) :
    wpAny (model prog w) A (eval (.DictComp (.Name x pk) vx [⟨.Name x px, iter, [], 0⟩] scope pos) env) Q E s := by
  rw [arm_eval_DictComp]
  refine wpAny_comprehension_free (use := none) rfl hs hclos hkind hnames (wpAny_mono h (fun xv s₁ h₁ => ?_) fun _ _ e => e)
  obtain ⟨a, oa, zs, m, news, rfl, hsrc, hsz, F, N, hJ, hcont, turn, hQ⟩ := halt h₁
  have ha0 := hsrc.1
  have halt' := Heap.lt_size ha0
  refine src_keys hh hsrc fun P St o W hP hex hst => ?_
  have old₀ : ∀ b o', s₁.heap.get? b = some o' → (s₁.heap.push o).get? b = some o' := fun b o' e => Heap.get?_push_of_some _ e
  have hI1 : s₁.heap.objs.size < (s₁.heap.push o).objs.size := by rw [Heap.size_push]; exact Nat.lt_succ_self _
  refine wpAny_newObj_type (wpAny_newFunctionEnv hcell (by intro y hy; simp at hy) (fun h₁ hns₁ hsb₁ => ?_) hkind)
  dsimp only at hns₁ hsb₁ ⊢
  have hnew : ((s₁.heap.push o).push { cls := .type "dict", dict := none, data := .dict #[] }).DictOf (strKind prog w) (s₁.heap.push o).objs.size [] := Heap.DictOf.new (s₁.heap.push o)
  obtain ⟨I, hI⟩ : ∃ I, I = s₁.heap.objs.size := ⟨_, rfl⟩
  obtain ⟨D, hD⟩ : ∃ D, D = (s₁.heap.push o).objs.size := ⟨_, rfl⟩
  have hDI : D = I + 1 := by rw [hD, hI, Heap.size_push]
  generalize hH2 : (s₁.heap.push o).push { cls := .type "dict", dict := none, data := .dict #[] } = H2 at hns₁ hsb₁ hnew ⊢
  obtain ⟨C, hC'⟩ : ∃ C, C = H2.objs.size := ⟨_, rfl⟩
  have hC : C = D + 1 := by rw [hC', ← hH2, Heap.size_push, hD]
  rw [← hI] at W hex ⊢
  rw [← hD] at hnew ⊢
  rw [← hC'] at hns₁ hsb₁ ⊢
  have lo : ∀ b o', s₁.heap.get? b = some o' → b < I := fun b o' e => by rw [hI]; exact Heap.lt_size e
  have loD : ∀ b o', s₁.heap.get? b = some o' → b ≠ D ∧ b ≠ C ∧ b ≠ I := fun b o' e => by
    have := lo b o' e
    refine ⟨Nat.ne_of_lt (by rw [hDI]; exact Nat.lt_succ_of_lt this), Nat.ne_of_lt (by rw [hC, hDI]; exact Nat.lt_succ_of_lt (Nat.lt_succ_of_lt this)), Nat.ne_of_lt this⟩
  have hDC : D ≠ C := by rw [hC]; exact Nat.ne_of_lt (Nat.lt_succ_self _)
  have hIC : I ≠ C := by rw [hC, hDI]; exact Nat.ne_of_lt (Nat.lt_succ_of_lt (Nat.lt_succ_self _))
  have hID : I ≠ D := by rw [hDI]; exact Nat.ne_of_lt (Nat.lt_succ_self _)
  have old1 : ∀ b o', b ≠ C → (s₁.heap.push o).get? b = some o' → h₁.get? b = some o' := fun b o' hb e => hsb₁.extBut b o' hb (Heap.get?_push_of_some _ (hH2 ▸ Heap.get?_push_of_some _ e))
  have old : ∀ b o', s₁.heap.get? b = some o' → h₁.get? b = some o' := fun b o' e => old1 b o' (loD b o' e).2.1 (old₀ b o' e)
  have hacc : h₁.DictOf (strKind prog w) D [] := hnew.at fun o' e => hsb₁.extBut _ _ hDC (Heap.get?_push_of_some _ e)
  have hltL : env.locals < I := by rw [hI]; exact F.ns.lt
  have gnone : ∀ b, I ≤ b → g.get? b = none := fun b hb => by
    cases q : g.get? b with
    | none => rfl
    | some o' => exact absurd (lo b o' (F.keep _ _ q)) (Nat.not_lt.mpr hb)
  have gL : g.get? env.locals = none := by
    cases q : g.get? env.locals with
    | none => rfl
    | some o' => exact absurd (Heap.lt_size q) (Nat.not_lt.mpr F.above)
  have hst₁ : St 0 h₁ := W.frame _ _ _ hst fun b hb o' e => old1 b o' (fun q => by
    rcases List.mem_cons.mp hb with r | r
    · exact hIC (r.symm.trans q)
    · exact (loD a _ ha0).2.1 ((List.mem_singleton.mp r).symm.trans q)) e
  obtain ⟨oL, _, _, hoL, _⟩ := id F.ns
  have hN₁ : ∀ p ∈ news, h₁.get? p.1 = some p.2 ∧ g.get? p.1 = none ∧ p.1 ≠ C ∧ p.1 ≠ D ∧ p.1 ≠ env.locals ∧ p.1 ∉ [I] := fun p hp => by
    have y := N p hp
    have z := loD _ _ y.1
    exact ⟨old _ _ y.1, y.2.2, z.2.1, z.1, y.2.1, fun q => z.2.2 (List.mem_singleton.mp q)⟩
  have loop : ∀ s₃ : Shared, s₃ = { s₁ with heap := h₁, toks := s₁.toks + ([] : List (Str × Value)).length } →
      codeAny (model prog w) A (.compLoop (.DictComp (.Name x pk) vx [⟨.Name x px, iter, [], 0⟩] scope pos) 0 (.ref I) (.ref D) (compEnvC scope cl C env))
        (compPost (model prog w) A E none Q (.ref D) C) s₃ := by
    rintro s₃ rfl
    refine dc_loop (cenv := compEnvC scope cl C env) (L := env.locals) (a := a) (oa := oa) (g := g) (news := news) W J hP hex one_fp (by simp [compEnvC, relabel, hkind]) (lookup_relabel_local hx) (by simp [compEnvC, relabel, hkind]) hxd
      hDC ?_ ?_ ?_ ?_ ?_ (gnone _ (by rw [hDI]; exact Nat.le_succ _)) ?_ ?_ gL ⟨oL, old _ _ hoL⟩ hcont hst₁ hacc hns₁ (fun b o' e => old b o' (F.keep b o' e)) hN₁ hJ ?_ ?_ hsz
    · intro q
      rcases List.mem_cons.mp q with r | r
      · exact hID r.symm
      · exact (loD a _ ha0).1 (List.mem_singleton.mp r).symm
    · intro q
      rcases List.mem_cons.mp q with r | r
      · exact hIC r.symm
      · exact (loD a _ ha0).2.1 (List.mem_singleton.mp r).symm
    · exact fun q => by have := hltL; rw [← q, hDI] at this; exact absurd this (Nat.not_lt.mpr (Nat.le_succ _))
    · intro q
      have := hltL
      rw [← show C = env.locals from q, hC, hDI] at this
      exact absurd this (Nat.not_lt.mpr (Nat.le_succ_of_le (Nat.le_succ _)))
    · exact fun q => absurd hltL (by rw [List.mem_singleton.mp q]; exact Nat.lt_irrefl _)
    · intro b hb; rw [List.mem_singleton.mp hb]; exact gnone _ (Nat.le_refl _)
    · exact Nat.le_trans F.above (Nat.le_trans (Nat.le_of_lt hltL) (by show I ≤ C; rw [hC, hDI]; exact Nat.le_succ_of_le (Nat.le_succ _)))
    · intro i z u kvs news₁ own h tk m₃ q1 q2 q3 q4 q5
      exact wpAny_mono (turn C (fun p hp => by have := lo _ _ (N p hp).1; rw [hC, hDI]; exact Nat.lt_succ_of_lt (Nat.lt_succ_of_lt this)) i z u kvs news₁ own h tk m₃ q1 q2 q3 q4 q5) (fun y s₄ z => (halt z).at) fun _ _ x => x
    · intro h' tk m' kvs news₁ hn hd hj hk hL hN
      refine ⟨m', hn, fun h'' hs'' => ?_⟩
      have up : ∀ b o', b ≠ C → h'.get? b = some o' → h''.get? b = some o' := fun b o' n e => hs''.extBut b o' n e
      obtain ⟨oD, hoD, hdd⟩ := Heap.dictOf_iff.mp hd
      have hCL : env.locals ≠ C := Nat.ne_of_lt (by rw [hC, hDI]; exact Nat.lt_succ_of_lt (Nat.lt_succ_of_lt hltL))
      refine hQ D h'' tk kvs oD news₁ (by rw [hDI]; exact Nat.lt_succ_of_lt hltL) hj ⟨F.ns.at' fun o' e => up _ _ hCL (hL _ (old _ _ e)), fun b o' e => up b o' (fun q => by rw [q, gnone C (by rw [hC, hDI]; exact Nat.le_succ_of_le (Nat.le_succ _))] at e; cases e) (hk b o' e), F.above⟩ (fun p hp => ?_) hdd fun q hq => (hN q hq).2.2.2.1
      rcases List.mem_cons.mp hp with rfl | hp
      · exact ⟨up _ _ hDC hoD, fun q => by have := hltL; rw [← show D = env.locals from q, hDI] at this; exact absurd this (Nat.not_lt.mpr (Nat.le_succ _)), gnone _ (by rw [hDI]; exact Nat.le_succ _)⟩
      · have y := hN p hp
        exact ⟨up _ _ y.2.2.1 y.1, y.2.2.2.2.1, y.2.1⟩
  exact codeAny_compStart_dict (loop _ rfl) (W.self 0 _ _ _ hst₁ (loop _ rfl))
end
noncomputable def keyS : Value → Str
  | .str x _ => x
  | _ => ""
noncomputable def keysS (es : List (Int × Value)) : List Str := es.map fun e => keyS e.2
theorem orStandIn_plain {t : SetTable} {n : Nat} (h : t.plain = false) : (t.orStandIn n).plain = false := by
  unfold SetTable.orStandIn
  split
  · exact h
  · rfl
theorem orStandIn_led {t : SetTable} {n : Nat} : (t.orStandIn n).led = t.led := by
  unfold SetTable.orStandIn
  split <;> rfl
theorem layNew_led {t : SetTable} {es : Array (Int × Value)} {h : Int} {x : Value} : (layNew t es h x).2.1.led = t.led := by
  unfold layNew
  split
  · dsimp only
    exact orStandIn_led
  · rfl
theorem relayAll_led {t : SetTable} {es : Array (Int × Value)} {n : Nat} : (relayAll t es n).2.1.led = t.led := by
  unfold relayAll
  split
  · rename_i t' order hr
    dsimp only
    split
    · unfold SetTable.relaid SetTable.laid at hr
      cases ho : SetTable.layClean (SetTable.sizeAbove n - 1) (es.map (·.1)) with
      | none => rw [ho] at hr; cases hr
      | some ow =>
        rw [ho] at hr
        cases hr
        rfl
    · rfl
  · rfl
theorem layNew_plain {t : SetTable} {es : Array (Int × Value)} {h : Int} {x : Value} (hp : t.plain = false) : (layNew t es h x).2.1.plain = false := by
  unfold layNew
  split
  · dsimp only
    exact orStandIn_plain hp
  · rfl
theorem relayAll_plain {t : SetTable} {es : Array (Int × Value)} {n : Nat} (hp : t.plain = false) : (relayAll t es n).2.1.plain = false := by
  unfold relayAll
  split
  · rename_i t' order hr
    dsimp only
    split
    · unfold SetTable.relaid SetTable.laid at hr
      cases ho : SetTable.layClean (SetTable.sizeAbove n - 1) (es.map (·.1)) with
      | none => rw [ho] at hr; cases hr
      | some ow =>
        rw [ho] at hr
        cases hr
        exact hp
    · rfl
  · rfl
section
variable {prog : Program} {w : World} {A : Around} {E : Value → Shared → Prop} {s : Shared}
structure SetDat (prog : Program) (w : World) (o : Obj) (es : Array (Int × Value)) (ep : Nat) (t : SetTable) (l : List Str) : Prop where
  ex : o.ExactSet
  dat : o.data = .set es ep t
  el : ElemsOf (strKind prog w) es.toList
  nod : (keysS es.toList).Nodup
  mem : ∀ x, x ∈ keysS es.toList ↔ x ∈ l
  bnd : es.size < scanBound
  fit : t.fits es.size = true
  mark : es.size = 0 ∨ t.plain = false
  led : w.params.followText "set-order" = false → t.led = true
noncomputable def SetL (prog : Program) (w : World) (h : Heap) (a : Addr) (l : List Str) : Prop := ∃ o es ep t, h.get? a = some o ∧ SetDat prog w o es ep t l
theorem is_key {k : Str} {v : Value} : (strKind prog w).is k v = true ↔ ∃ u, v = .str k u := by
  constructor
  · exact fun h => Value.isStrOf_shape h
  · rintro ⟨u, rfl⟩; exact strKind_is _ _ _ _
theorem el_keys {es : List (Int × Value)} (h : ElemsOf (strKind prog w) es) {k : Str} : k ∈ keysS es ↔ ∃ e ∈ es, (strKind prog w).is k e.2 = true := by
  unfold keysS
  rw [List.mem_map]
  constructor
  · rintro ⟨e, he, q⟩
    obtain ⟨⟨k', hk', _⟩, _⟩ := h e he
    obtain ⟨u, hu⟩ := is_key.mp hk'
    rw [hu] at q
    exact ⟨e, he, q ▸ hk'⟩
  · rintro ⟨e, he, q⟩
    obtain ⟨u, hu⟩ := is_key.mp q
    exact ⟨e, he, by rw [hu]; rfl⟩
theorem keysS_perm {es es' : List (Int × Value)} (h : List.Perm es es') : List.Perm (keysS es) (keysS es') := h.map _
theorem nodup_le : ∀ {l m : List Str}, l.Nodup → (∀ x ∈ l, x ∈ m) → l.length ≤ m.length
  | [], m, _, _ => Nat.zero_le _
  | x :: l, m, hn, hs => by
    have hx := hs x (.head _)
    have e := List.length_erase_of_mem hx
    have h0 : m.length ≠ 0 := fun q => by rw [List.length_eq_zero_iff.mp q] at hx; cases hx
    have := nodup_le (l := l) (m := m.erase x) (List.nodup_cons.mp hn).2 fun y hy => by
      have hne : y ≠ x := fun q => (List.nodup_cons.mp hn).1 (q ▸ hy)
      exact (List.mem_erase_of_ne hne).mpr (hs y (.tail _ hy))
    rw [List.length_cons]; omega
theorem SetDat.len {o : Obj} {es : Array (Int × Value)} {ep : Nat} {t : SetTable} {l : List Str} (D : SetDat prog w o es ep t l) : es.size ≤ l.length := by
  have := nodup_le D.nod fun x hx => (D.mem x).mp hx
  unfold keysS at this
  rw [List.length_map, Array.length_toList] at this
  exact this
theorem SetDat.store {h : Heap} {a : Addr} {o : Obj} {es : Array (Int × Value)} {ep : Nat} {t : SetTable} {l l' : List Str} {es' : Array (Int × Value)} {t' : SetTable} (D : SetDat prog w o es ep t l) (ho : h.get? a = some o)
    (hel : ElemsOf (strKind prog w) es'.toList) (hn : (keysS es'.toList).Nodup) (hm : ∀ x, x ∈ keysS es'.toList ↔ x ∈ l') (hb : es'.size < scanBound) (hf : t'.fits es'.size = true) (hk : es'.size = 0 ∨ t'.plain = false) (hld : t'.led = t.led) :
    (h.update a (Obj.putSet es' t')).get? a = some { o with data := .set es' (ep + 1) t' } ∧ SetDat prog w { o with data := .set es' (ep + 1) t' } es' (ep + 1) t' l' := by
  refine ⟨?_, D.ex, rfl, hel, hn, hm, hb, hf, hk, fun q => by rw [hld]; exact D.led q⟩
  have := Heap.get?_update_self (Obj.putSet es' t') ho (by rw [putSet_of es' t' D.dat]; rfl)
  rw [putSet_of es' t' D.dat] at this
  exact this
theorem add_tail {g : Bool → Sem Unit} (hg : ∀ (b : Bool) (s₁ : Shared) (Q' : Unit → Shared → Prop), Q' () s₁ → wpAny (model prog w) A (g b) Q' E s₁)
    {a : Addr} {o : Obj} {es : Array (Int × Value)} {ep : Nat} {t : SetTable} {l l' : List Str} (ho : s.heap.get? a = some o) (D : SetDat prog w o es ep t l)
    {es1 : Array (Int × Value)} {t2 : SetTable} (hel1 : ElemsOf (strKind prog w) es1.toList) (hn1 : (keysS es1.toList).Nodup) (hm1 : ∀ y, y ∈ keysS es1.toList ↔ y ∈ l')
    (hb1 : es1.size < scanBound) (hf2 : t2.fits es1.size = true) (hp2 : t2.plain = false) (hld : t2.led = t.led) {wasDummy : Bool} {R : Option Bool → Shared → Prop}
    (h : ∀ h', Heap.SameBut a s.heap h' → SetL prog w h' a l' → R (some true) { s with heap := h' }) :
    wpAny (model prog w) A (do
        storeSet a es1 t2
        if (!wasDummy && t2.tooFull) = true then do
            g (relayAll t2 es1 (SetTable.grown es1.size)).2.2
            storeSet a (relayAll t2 es1 (SetTable.grown es1.size)).1 (relayAll t2 es1 (SetTable.grown es1.size)).2.1
            pure (some true)
          else pure (some true)) R E s := by
  obtain ⟨ho1, D1⟩ := D.store (l' := l') ho hel1 hn1 hm1 hb1 hf2 (.inr hp2) hld
  have hsb1 := Heap.SameBut.update s.heap a (Obj.putSet es1 t2)
  refine wpAny_bind (wpAny_storeSet_of ho D.dat ?_ (fits_of_scanBound hb1))
  split
  · have hp := relayAll_perm t2 es1 (SetTable.grown es1.size)
    have hfr := relayAll_fits t2 es1 (SetTable.grown es1.size)
    have hpr := relayAll_plain (es := es1) (n := SetTable.grown es1.size) hp2
    have hlr := relayAll_led (t := t2) (es := es1) (n := SetTable.grown es1.size)
    generalize hRl : relayAll t2 es1 (SetTable.grown es1.size) = Rl at hp hfr hpr hlr ⊢
    obtain ⟨es2, t3, gave2⟩ := Rl
    dsimp only at hp hfr hpr hlr ⊢
    have hsz : es2.size = es1.size := by rw [← Array.length_toList, hp.length_eq, Array.length_toList]
    refine wpAny_bind (hg _ _ _ ?_)
    refine wpAny_bind (wpAny_storeSet_of ho1 rfl ?_ (fits_of_scanBound (by omega)))
    obtain ⟨ho2, D2⟩ := D1.store (l' := l') ho1 (hel1.perm hp) ((keysS_perm hp).nodup_iff.mpr hn1) (fun y => by rw [(keysS_perm hp).mem_iff, hm1]) (by omega) hfr (.inr hpr) hlr
    exact wpAny_pure (h _ (hsb1.trans (Heap.SameBut.update _ a _)) ⟨_, _, _, _, ho2, D2⟩)
  · exact wpAny_pure (h _ hsb1 ⟨_, _, _, _, ho1, D1⟩)
theorem set_add {a : Addr} {l : List Str} {x : Str} {u : Tok} {Q : Bool → Shared → Prop} (hS : SetL prog w s.heap a l) (hroom : l.length + 1 < scanBound)
    (h : ∀ h' b, Heap.SameBut a s.heap h' → SetL prog w h' a (l ++ [x]) → Q b { s with heap := h' }) :
    wpAny (model prog w) A (setAddHashed a (.str x u) ((strKind prog w).hash x)) Q E s := by
  obtain ⟨o, es, ep, t, ho, D⟩ := hS
  have hlen := D.len
  have hb1 : es.size + 1 < scanBound := by omega
  have hsc : (Value.str x u).scannable = true := rfl
  have hkey := strKind_is prog w x u
  unfold setAddHashed setAddHashedIn
  refine wpAny_holding (wpAny_bind (wpAny_setState_of ho D.dat D.fit ?_))
  dsimp only
  rw [byScan_of hsc D.bnd D.el]
  simp only [↓reduceIte]
  unfold setAddByScan
  refine wpAny_bind ?_
  refine wpAny_bind (wpAny_rule ?_)
  refine wpAny_bind (wpAny_setScan_of hkey ho D.dat D.fit D.el ?_)
  cases hr : List.findIdx? (fun e => (strKind prog w).is x e.2) es.toList with
  | some j =>
    dsimp only
    obtain ⟨hj, hpj, _⟩ := List.findIdx?_eq_some_iff_getElem.mp hr
    have hx : x ∈ l := (D.mem x).mp ((el_keys D.el).mpr ⟨es.toList[j], List.getElem_mem hj, hpj⟩)
    refine wpAny_pure (wpAny_pure ?_)
    have e : s = { s with heap := s.heap } := by cases s; rfl
    have := h s.heap false (Heap.SameBut.refl a s.heap) ⟨o, es, ep, t, ho, D.ex, D.dat, D.el, D.nod, fun y => by
      rw [D.mem y, List.mem_append, List.mem_singleton]
      exact ⟨.inl, fun q => q.elim id fun q => by rw [q]; exact hx⟩, D.bnd, D.fit, D.mark, D.led⟩
    rw [e]; exact this
  | none =>
    dsimp only
    have hx : x ∉ keysS es.toList := fun q => by
      obtain ⟨e, he, hp⟩ := (el_keys D.el).mp q
      have := List.findIdx?_eq_none_iff.mp hr e he
      rw [hp] at this; cases this
    have hgw : ∀ (b : Bool) {s₁ : Shared} {Q' : Unit → Shared → Prop}, Q' () s₁ → wpAny (model prog w) A (match b with | true => rule "set.scan.the-table-gave-way" | false => pure ()) Q' E s₁ :=
      fun b s₁ Q' hq => by cases b <;> first | exact wpAny_pure hq | exact wpAny_rule hq
    have hperm := layNew_perm t es ((strKind prog w).hash x) (.str x u)
    have hfits := layNew_fits t es ((strKind prog w).hash x) (.str x u)
    have hpl := @layNew_plain t es ((strKind prog w).hash x) (.str x u)
    have hll := @layNew_led t es ((strKind prog w).hash x) (.str x u)
    generalize hL : layNew t es ((strKind prog w).hash x) (.str x u) = L at hperm hfits hpl hll ⊢
    obtain ⟨es1, t1, wasDummy, gave⟩ := L
    dsimp only at hperm hfits hpl hll ⊢
    rw [Array.toList_push] at hperm
    have hel1 : ElemsOf (strKind prog w) es1.toList := (D.el.push hkey hsc).perm hperm
    have hks : List.Perm (keysS es1.toList) (keysS es.toList ++ [x]) := by
      have := keysS_perm hperm
      unfold keysS at this ⊢
      rw [List.map_append] at this
      exact this
    have hn1 : (keysS es1.toList).Nodup := hks.nodup_iff.mpr (List.nodup_append.mpr ⟨D.nod, by simp, fun y hy z hz q => by rw [List.mem_singleton.mp hz] at q; exact hx (q ▸ hy)⟩)
    have hm1 : ∀ y, y ∈ keysS es1.toList ↔ y ∈ l ++ [x] := fun y => by rw [hks.mem_iff, List.mem_append, List.mem_append, D.mem y]
    have hsz1 : es1.size = es.size + 1 := by rw [← Array.length_toList, hperm.length_eq, List.length_append, Array.length_toList]; rfl
    have hb1' : es1.size < scanBound := by omega
    refine wpAny_bind (hgw _ ?_)
    have fin : ∀ h', Heap.SameBut a s.heap h' → SetL prog w h' a (l ++ [x]) → Q true { s with heap := h' } := fun h' => h h' true
    split
    · refine wpAny_bind ?_
      rw [hashByValue_scannable 8 hsc]
      refine wpAny_pure ?_
      refine add_tail ?_ ho D hel1 hn1 hm1 hb1' ?_ ?_ ?_ ?_
      · intro b s₁ Q' hq; cases b <;> first | exact wpAny_pure hq | exact wpAny_rule hq
      · exact SetTable.fits_plain_off hfits
      · rfl
      · exact hll
      · intro h' hsb hS'; dsimp only; exact wpAny_pure (fin h' hsb hS')
    · rename_i hnp
      refine wpAny_bind (wpAny_pure ?_)
      simp only [↓reduceIte]
      refine add_tail ?_ ho D hel1 hn1 hm1 hb1' hfits (by cases q : t1.plain with | false => rfl | true => exact absurd q hnp) hll ?_
      · intro b s₁ Q' hq; cases b <;> first | exact wpAny_pure hq | exact wpAny_rule hq
      · intro h' hsb hS'; dsimp only; exact wpAny_pure (fin h' hsb hS')
theorem SetL.moved {h h' : Heap} {a : Addr} {l : List Str} (x : SetL prog w h a l) (k : ∀ o, h.get? a = some o → h'.get? a = some o) : SetL prog w h' a l :=
  let ⟨o, es, ep, t, ho, D⟩ := x; ⟨o, es, ep, t, k o ho, D⟩
theorem strs_at {vs : List Value} {ss : List Str} (h : StrsAre vs ss) : ∀ {i : Nat} {v : Value}, vs[i]? = some v → ∃ x u, ss[i]? = some x ∧ v = .str x u := by
  induction h with
  | nil => intro i v e; simp at e
  | cons y t _ ih =>
    intro i v e
    cases i with
    | zero => simp at e; exact ⟨y, t, rfl, e.symm⟩
    | succ i => simpa using ih (by simpa using e)
theorem take_snoc {ss : List Str} {i : Nat} {z : Str} (h : ss[i]? = some z) : ss.take (i + 1) = ss.take i ++ [z] := by rw [List.take_add_one, h]; rfl
theorem update_loop {I S : Addr} {fp wr : List Addr} {G : Array GenState → Array GenState → Prop} {n : Nat} {P : Nat → Value → Prop} {St : Nat → Shared → Prop} {ss : List Str}
    (W : WalksS prog w A.in1 I fp wr G n P St) (hSf : S ∉ fp) (hn : n = ss.length) (hval : ∀ i v, P i v → ∃ z u, ss[i]? = some z ∧ v = .str z u) (hb : n + 1 < scanBound)
    {R : Result → Shared → Prop} (i : Nat) (s : Shared) (hi : i ≤ n) (hst : St i s) (hS : SetL prog w s.heap S (ss.take i)) (hR : ∀ s', Moved (S :: wr) G s s' → SetL prog w s'.heap S ss → R (.ok (.ret .none)) s') :
    codeAny (model prog w) A (.builtin "set.update.loop" ⟨[.ref S, .ref I], []⟩) R s := by
  have quiet := PyProof.Rows.F.plain_set_update_loop
  have keepS : ∀ {s' : Shared} {l : List Str}, Moved wr G s s' → SetL prog w s.heap S l → SetL prog w s'.heap S l := fun m x => x.moved fun o => m.heap S o fun q => hSf (W.sub _ q)
  have wide : ∀ {s' : Shared}, Moved wr G s s' → Moved (S :: wr) G s s' := fun m => m.mono fun _ => .tail _
  refine codeAny_builtin PyProof.Rows.F.entry_set_update_loop ?_
  rw [Around.under_plainId quiet _]
  refine (?_ : wpAny (model prog w) A.in1 (pyNext (.ref I) >>= _) _ _ s)
  rcases Nat.lt_or_ge i n with lt | ge
  · refine wpAny_bind (W.item i s _ _ lt hst fun v s₁ hv st₁ m₁ => ?_)
    obtain ⟨z, u, ez, rfl⟩ := hval i v hv
    refine (?_ : wpAny (model prog w) A.in1 (holding [Value.str z u] (setAdd S (.str z u)) >>= _) _ _ s₁)
    unfold setAdd
    refine wpAny_bind (wpAny_holding (wpAny_holding (wpAny_bind ((strKind prog w).pyHash (k := z) (strKind_is _ _ _ _) ?_))))
    refine set_add (s := { s₁ with toks := s₁.toks + 1 }) (show SetL prog w s₁.heap S (ss.take i) from keepS m₁ hS) ?_ fun h₂ b sb x => ?_
    · rw [List.length_take]; exact Nat.lt_of_le_of_lt (Nat.add_le_add_right (Nat.min_le_left ..) 1) (Nat.lt_of_le_of_lt (Nat.succ_le_succ (Nat.le_of_lt lt)) hb)
    · rw [← take_snoc ez] at x
      have off : ∀ b' o, b' ≠ S → s₁.heap.get? b' = some o → h₂.get? b' = some o := fun b' o ne e => (sb.2 b' ne).trans e
      refine wpAny_pure ⟨plainId_quiet quiet _, update_loop W hSf hn hval hb (i + 1) _ lt (W.frame _ s₁ _ _ st₁ (Nat.le_succ _) fun b' hb' o e => off b' o (fun q => hSf (q ▸ hb')) e) x fun s₂ m₂ y => hR s₂ ?_ y⟩
      exact Moved.trans W.gtrans ((wide m₁).then_heap (Nat.le_succ _) fun b' o nb e => off b' o (fun q => nb (q ▸ .head _)) e) m₂
  · cases Nat.le_antisymm hi ge
    exact wpAny_bind (W.done s _ _ hst fun s₁ m₁ => wpAny_pure (hR s₁ (wide m₁) (by rw [hn, List.take_length] at hS; exact keepS m₁ hS)))
termination_by n - i
inductive NewSet (w : World) (s : Shared) (v : Value) (s₁ : Shared) : Prop
  | mk (led : Bool) (h1 : w.params.followText "set-order" = false → led = true) (h2 : v = .ref s.heap.objs.size) (h3 : s₁ = { s with heap := s.heap.push { cls := .type "set", data := .set #[] 0 (.fresh 0 0 led) } }) : NewSet w s v s₁
theorem set_made (a : Value) : codeAny (model prog w) A (.call (.builtin "set.__new__") ⟨[.type "set", a], []⟩) (wants (NewSet w s) E) s := by
  refine codeAny_of_tree (wpAny_bind (wpAny_of_eq (PySem.F.newCall_set_1 a) (wpAny_pure ⟨plainId_quiet PySem.F.plain_set_new _, codeAny_builtin PySem.F.entry_set_new ?_⟩)))
  rw [Around.under_plainId PySem.F.plain_set_new _]
  unfold Builtin.«set.__new__»
  have sub := sub_set_self
  wp_walk using wpAny_askSetting
  exact ⟨_, fun q => by show (!w.params.followText "set-order") = true; rw [q]; rfl, rfl, rfl⟩
theorem set_fill {S l : Addr} {led : Bool} {vs : List Value} {ss : List Str} {P : Fin → Shared → Prop} (hh : A.handled = none) (hS : s.heap.get? S = some { cls := .type "set", data := .set #[] 0 (.fresh 0 0 led) }) (hled : w.params.followText "set-order" = false → led = true)
    (hl : s.heap.IsList l vs.toArray) (hi : StrsAre vs ss) (hb : ss.length + 1 < scanBound) (hne : S ≠ l)
    (h : ∀ h' tk, SetL prog w h' S ss → (∀ b o, b ≠ S → s.heap.get? b = some o → h'.get? b = some o) → P (.done (.ret .none)) { s with heap := h', toks := tk }) :
    wpAny (model prog w) A (Builtin.«set.__init__» ⟨[.ref S, .ref l], []⟩) P E s := by
  have tl := hl.typeIs
  have n1 := PySem.F.sub_list_set
  have n2 := PySem.F.sub_list_frozenset
  unfold Builtin.«set.__init__»
  wp_walk using wpAny_pyIter_list hl
  obtain ⟨ol, hol, _⟩ := id hl
  have lI := Heap.lt_size hol
  have SI := Heap.lt_size hS
  refine update_loop (ss := ss) (Walks.list (A := A.in1) hh s.heap.objs.size l (Nat.ne_of_lt lI) vs.toArray).toS (fun q => ?_) (by rw [List.size_toArray, hi.length]) (fun i v e => strs_at hi (by simpa using e)) (by rw [List.size_toArray, hi.length]; exact hb) 0 _ (Nat.zero_le _)
    ⟨⟨_, Heap.get?_push_size _ rfl, rfl, rfl⟩, hl.push _⟩ ⟨_, #[], 0, _, Heap.get?_push_of_some _ hS, ⟨rfl, rfl, rfl⟩, rfl, (fun e he => by simp at he), .nil, (fun x => by simp [keysS]), by decide, rfl, .inl rfl, hled⟩ ?_
  · rcases List.mem_cons.mp q with q | q
    · exact Nat.ne_of_lt SI q
    · exact hne (List.mem_singleton.mp q)
  · rintro ⟨h', g', d', tk, o'⟩ ⟨keep, eg, ed, eo, _⟩ x
    cases (show g' = s.gens from eg)
    cases (show d' = s.drawn from ed)
    cases (show o' = s.os from eo)
    refine wpAny_pure (wpAny_pure (h h' tk x fun b o nb e => keep b o (fun q => ?_) (Heap.get?_push_of_some _ e)))
    rcases List.mem_cons.mp q with q | q
    · exact nb q
    · exact Nat.ne_of_lt (Heap.lt_size e) (List.mem_singleton.mp q)
theorem wants_cases {Q₁ : Value → Shared → Prop} {r : Result} (z : wants Q₁ E r s) : (∃ v, r = .ok (.ret v) ∧ Q₁ v s) ∨ ∃ e, r = .error e ∧ E e s := by
  rcases r with e | (_ | _ | _ | v)
  · exact .inr ⟨e, rfl, z⟩
  · exact z.elim
  · exact z.elim
  · exact z.elim
  · exact .inl ⟨v, rfl, z⟩
inductive Filled (prog : Program) (w : World) (s : Shared) (ss : List Str) (v : Value) (s' : Shared) : Prop
  | mk (h' : Heap) (tk : Nat) (h1 : v = .none) (h2 : s' = { s with heap := h', toks := tk }) (h3 : SetL prog w h' s.heap.objs.size ss) (h4 : ∀ b o, s.heap.get? b = some o → h'.get? b = some o) : Filled prog w s ss v s'
theorem call_set {l : Addr} {vs : List Value} {ss : List Str} {Q : Value → Shared → Prop}
    (hh : A.handled = none) (hl : s.heap.IsList l vs.toArray) (hi : StrsAre vs ss) (hb : ss.length + 1 < scanBound)
    (h : ∀ (h' : Heap) (tk : Nat), SetL prog w h' s.heap.objs.size ss → (∀ b o, s.heap.get? b = some o → h'.get? b = some o) → Q (.ref s.heap.objs.size) { s with heap := h', toks := tk }) :
    wpAny (model prog w) A (call (.type "set") [.ref l]) Q E s := by
  obtain ⟨_, _, m0⟩ := PySem.F.called_set.mro
  have m1 := And.intro PySem.F.called_set.made (And.intro PySem.F.called_set.sub (And.intro PySem.F.called_set.notType (And.intro PySem.F.called_set.canCreate (PySem.F.typeCall_set_1 (.ref l)))))
  obtain ⟨m1, m2, m3, m4, m5⟩ := m1
  refine wpAny_call (codeAny_of_tree (?_ : wpAny _ _ (callAny (.type "set") _) _ _ _))
  refine wpAny_pure ⟨Code.quiet_builtin _ (by decide +kernel), codeAny_builtin PySem.F.entry_type_call ?_⟩
  rw [Around.under_plain (weight_type_call_type "set" [.ref l] []) rfl]
  repeat (any_goals (first | assumption | wp_step))
  refine codeAny_mono (set_made (E := E) (.ref l)) fun r s₁ z => ?_
  rcases wants_cases z with ⟨v, rfl, led, hled, rfl, rfl⟩ | ⟨e, rfl, z⟩
  case inr => exact z
  have at₁ := Heap.get?_push_size s.heap (o := { cls := .type "set", data := .set #[] 0 (.fresh 0 0 led) }) rfl
  have ty : Shared.TypeIs { s with heap := s.heap.push { cls := .type "set", data := .set #[] 0 (.fresh 0 0 led) } } (.ref s.heap.objs.size) "set" := ⟨_, at₁, rfl⟩
  have m6 := PySem.F.called_set.init.lookup
  have m7 := PySem.F.called_set.init.bind (.ref s.heap.objs.size)
  repeat (any_goals (first | assumption | wp_step))
  refine codeAny_mono (codeAny_call_builtin (R := wants (Filled prog w s ss) E) PySem.F.called_set.init.plain PySem.F.entry_set_init (check_set_init_1 ty ?_)) fun r₂ s₂ z₂ => ?_
  · obtain ⟨ol, hol, _⟩ := id hl
    exact set_fill hh at₁ hled (hl.push _) hi hb (Nat.ne_of_gt (Heap.lt_size hol)) fun h' tk x k => ⟨h', tk, rfl, rfl, x, fun b o e => k b o (Nat.ne_of_lt (Heap.lt_size e)) (Heap.get?_push_of_some _ e)⟩
  · rcases wants_cases z₂ with ⟨v, rfl, h', tk, rfl, rfl, x, k⟩ | ⟨e, rfl, z⟩
    case inr => exact z
    repeat (any_goals (first | assumption | wp_step))
    exact h h' tk x k
end
theorem slot_setit_next : Slot "set_iterator" "__next__" "set_iterator.__next__" :=
  .of (owner := "set_iterator") (n := "__next__") (by rw [typeLookup_type, builtinLookup_eq_fast]; kernel_rfl) (by decide +kernel) (by decide +kernel) (by decide +kernel)
    (by first | exact .inl (by decide +kernel) | exact .inr (by decide +kernel)) (by rw [isSubtype_type]; kernel_rfl)
theorem entry_setit_next : entryFor table "set_iterator.__next__" = some Builtin.«set_iterator.__next__» := entryFor_of_fast (by kernel_rfl)
theorem args_setit_next (a : Value) : argsOk "set_iterator.__next__" ⟨[a], []⟩ := by unfold argsOk; kernel_rfl
theorem entry_set_iter : entryFor table "set.__iter__" = some Builtin.«frozenset.__iter__» :=
  entryFor_alias (id' := "frozenset.__iter__") (by kernel_rfl) rfl (by decide +kernel) (by kernel_rfl)
section
variable {prog : Program} {w : World} {A : Around} {E : Value → Shared → Prop} {s : Shared}
theorem wpAny_slotArgs0 {n : String} {v : Value} {Q : Value × List Value → Shared → Prop} {s : Shared} (h : Q (v, []) s) : wpAny (model prog w) A (slotArgs n 0 ⟨[v], []⟩) Q E s := by
  refine wpAny_of_eq (a := (v, [])) ?_ h
  unfold slotArgs
  simp only [List.isEmpty_nil, Bool.not_true, Bool.false_eq_true, ↓reduceIte, List.length_nil, bne_self_eq_false]
theorem any_choose {src : Source} {n : Nat} {Q : Nat → Shared → Prop} (hn : n ≠ 0) (h : ∀ i d, i < n → Q i { s with drawn := d }) : wpAny (model prog w) A (choose src n) Q E s := fun Γ p hΓ => by
  refine Eq.mpr (Sem.wp_choose _ _ _ _ _ _ src n .pure) ⟨hn, ?_⟩
  rw [Sem.wp_pure]
  exact h _ _ (Nat.mod_lt _ (Nat.pos_of_ne_zero hn))
theorem erase_perm {α : Type} : ∀ {l : List α} {i : Nat} (h : i < l.length), (l[i] :: l.eraseIdx i).Perm l
  | [], i, h => absurd h (Nat.not_lt_zero _)
  | x :: l, 0, h => List.Perm.refl _
  | x :: l, i + 1, h => (List.Perm.swap x (l[i]'(by simpa using h)) (l.eraseIdx i)).trans ((erase_perm (l := l) (i := i) (by simpa using h)).cons x)
theorem any_draw {α : Type} : ∀ {n : Nat} {xs : List α} {s : Shared} {Q : List α → Shared → Prop}, xs.length = n → (∀ ys d, ys.Perm xs → Q ys { s with drawn := d }) → wpAny (model prog w) A (drawOrder n xs) Q E s
  | 0, [], s, Q, _, h => wpAny_pure (h [] s.drawn (List.Perm.refl _))
  | 0, _ :: _, s, Q, e, h => by simp at e
  | n + 1, [], s, Q, e, h => by simp at e
  | n + 1, x :: xs, s, Q, e, h => by
    unfold drawOrder
    refine wpAny_bind (any_choose (by simp) fun i d hi => ?_)
    have hg : (x :: xs)[i]? = some (x :: xs)[i] := List.getElem?_eq_getElem hi
    rw [hg]
    dsimp only
    refine wpAny_bind (any_draw (by rw [List.length_eraseIdx_of_lt hi]; simpa using e) fun ys d' hp => ?_)
    refine wpAny_pure (h _ d' ?_)
    exact (List.Perm.cons _ hp).trans (erase_perm hi)
noncomputable def itObj (first : Value) (i : Nat) (a : Addr) (n ep : Nat) : Obj := { cls := .type "set_iterator", data := .fields #[first, rawInt i, .ref a, rawInt n, rawInt ep] }
theorem iter_set {a : Addr} {o : Obj} {es : Array (Int × Value)} {ep : Nat} {t : SetTable} {l : List Str} {Q : Value → Shared → Prop} (ho : s.heap.get? a = some o) (D : SetDat prog w o es ep t l)
    (h1 : w.params.followText "set-order" = false → 1 < es.size → ∀ (is : List Nat) d, is.Perm (List.range es.size) →
      Q (.ref (s.heap.objs.size + 1)) { s with heap := (s.heap.push { cls := .type "tuple", data := .seq (is.map fun (i : Nat) => rawInt i).toArray }).push (itObj (.ref s.heap.objs.size) 0 a es.size ep), drawn := d })
    (h2 : (w.params.followText "set-order" = true ∨ es.size ≤ 1) → Q (.ref s.heap.objs.size) { s with heap := s.heap.push (itObj (rawInt 0) 0 a es.size ep) }) :
    wpAny (model prog w) A (pyIter (.ref a)) Q E s := by
  have hT : s.TypeIs (.ref a) "set" := ⟨o, ho, D.ex.1⟩
  refine wpAny_pyIter_slot hT PySem.F.slot_set_iter (wpAny_call_entry PySem.F.slot_set_iter hT entry_set_iter ?_ (PySem.F.args_set_iter_1 _))
  unfold Builtin.«frozenset.__iter__» Builtin.Frozenset.slot0 Builtin.Frozenset.addrOf Builtin.Frozenset.sizeOf
  refine wpAny_bind (wpAny_bind (wpAny_slotArgs0 (wpAny_pure ?_)))
  dsimp only
  refine wpAny_bind (wpAny_bind (wpAny_setEntries_of ho D.dat D.fit (wpAny_pure ?_)))
  have fin : ∀ (first : Value) (s₁ : Shared), s₁.heap.get? a = some o → Q (.ref s₁.heap.objs.size) { s₁ with heap := s₁.heap.push (itObj first 0 a es.size ep) } →
      wpAny (model prog w) A.in1 (do
          let e ← setEpoch a
          let r ← newFields "set_iterator" [first, rawInt 0, Value.ref a, rawInt ↑es.size, rawInt ↑e]
          ret r) (fun fin s' => ∃ v, fin = Fin.done (Flow.ret v) ∧ ∃ T' r, s'.TypeIs v T' ∧ typeLookup (Value.type T') (Str.ofString "__next__") = pure (some r) ∧ Q v s') E s₁ := by
    intro first s₁ ho₁ hq
    refine wpAny_bind (wpAny_setEpoch_of ho₁ D.dat D.fit ?_)
    exact wpAny_bind (wpAny_newObj_type (wpAny_pure ⟨_, rfl, "set_iterator", _, ⟨_, Heap.get?_push_size _ rfl, rfl⟩, slot_setit_next.lookup, hq⟩))
  refine wpAny_bind ?_
  unfold setDrawn setsByText
  refine wpAny_bind (wpAny_setState_of ho D.dat D.fit ?_)
  refine wpAny_bind (wpAny_bind (wpAny_askSetting (wpAny_pure ?_)))
  refine wpAny_pure ?_
  show wpAny _ _ (if (!w.params.followText "set-order" && (!t.plain && decide (es.size > 1))) = true then _ else _) _ _ _
  cases hb : w.params.followText "set-order" with
  | true =>
    rw [if_neg (by simp)]
    refine wpAny_bind (wpAny_pure (fin _ s ho (h2 (.inl hb))))
  | false =>
    by_cases h1' : 1 < es.size
    · have hp : t.plain = false := D.mark.resolve_left (by omega)
      rw [if_pos (by simp [hp, h1'])]
      refine wpAny_bind (any_draw (by simp) fun is d hpm => ?_)
      have hbn : es.size < 4096 := D.bnd
      refine wpAny_bind (wpAny_newTuple ?_ (by rw [List.length_map, hpm.length_eq, List.length_range, sizeLine_eq]; omega))
      refine fin _ _ (Heap.get?_push_of_some _ ho) ?_
      have := h1 hb h1' is d hpm
      rw [← Heap.size_push s.heap { cls := .type "tuple", data := .seq (is.map fun (i : Nat) => rawInt i).toArray }] at this
      exact this
    · rw [if_neg (by simp [h1'])]
      refine wpAny_bind (wpAny_pure (fin _ s ho (h2 (.inr (by omega)))))
theorem next_drawn {it : Addr} {T : Addr} {i : Nat} {a : Addr} {ep : Nat} {s : Shared} {Q : Option Value → Shared → Prop} {o oT : Obj} {es : Array (Int × Value)} {t : SetTable} {l : List Str} {is : List Nat} {p : Nat} {e : Int × Value}
    (hit : s.heap.get? it = some (itObj (.ref T) i a es.size ep)) (ho : s.heap.get? a = some o) (D : SetDat prog w o es ep t l)
    (hT : s.heap.get? T = some oT) (hdT : oT.data = .seq (is.map fun (i : Nat) => rawInt i).toArray 0) (hi : is[i]? = some p) (he : es[p]? = some e)
    (hQ : ∀ h', h'.get? it = some (itObj (.ref T) (i + 1) a es.size ep) → Heap.SameBut it s.heap h' → Q (some e.2) { s with heap := h' }) :
    wpAny (model prog w) A (pyNext (.ref it)) Q E s := by
  have hTy : s.TypeIs (.ref it) "set_iterator" := ⟨_, hit, rfl⟩
  unfold pyNext
  refine wpAny_bind (wpAny_attempt (wpAny_callSpecial?_slot (name := Str.ofString "__next__") hTy slot_setit_next
    (wpAny_call_entry slot_setit_next hTy entry_setit_next ?_ (args_setit_next _))))
  unfold Builtin.«set_iterator.__next__»
  refine wpAny_bind (wpAny_slotArgs0 ?_)
  refine wpAny_bind (wpAny_fieldsOf hit rfl ?_)
  show wpAny _ _ (setEntries a >>= _) _ _ s
  refine wpAny_bind (wpAny_setEntries_of ho D.dat D.fit ?_)
  rw [if_neg (by simp)]
  show wpAny _ _ (seqItems? (.ref T) >>= _) _ _ s
  refine wpAny_bind (wpAny_seqItems hT hdT ?_)
  have hp : (is.map fun (i : Nat) => rawInt i).toArray[((i : Int)).toNat]? = some (rawInt p) := by simp [hi]
  dsimp only
  rw [hp]
  show wpAny _ _ (setNextDrawn a ((p : Int)).toNat ((ep : Int)).toNat >>= _) _ _ s
  rw [Int.toNat_natCast, Int.toNat_natCast]
  unfold setNextDrawn
  refine wpAny_bind (wpAny_bind (wpAny_setState_of ho D.dat D.fit ?_))
  dsimp only
  rw [if_neg (by simp), he]
  refine wpAny_pure ?_
  refine wpAny_bind (wpAny_setField hit rfl (by simp) ?_)
  refine wpAny_pure ⟨_, rfl, wpAny_pure (hQ _ ?_ (Heap.SameBut.update ..))⟩
  exact Heap.get?_update_self _ hit rfl
end
theorem slot_setit_iter : Slot "set_iterator" "__iter__" "set_iterator.__iter__" :=
  .of (owner := "set_iterator") (n := "__iter__") (by rw [typeLookup_type, builtinLookup_eq_fast]; kernel_rfl) (by decide +kernel) (by decide +kernel) (by decide +kernel)
    (by first | exact .inl (by decide +kernel) | exact .inr (by decide +kernel)) (by rw [isSubtype_type]; kernel_rfl)
theorem entry_setit_iter : entryFor table "set_iterator.__iter__" = some Builtin.«dict_keyiterator.__iter__» :=
  entryFor_alias (id' := "dict_keyiterator.__iter__") (by kernel_rfl) (by first | rfl | decide +kernel | (unfold String.splitOn; simp +decide [String.splitOnAux])) (by decide +kernel) (by kernel_rfl)
theorem args_setit_iter (a : Value) : argsOk "set_iterator.__iter__" ⟨[a], []⟩ := by unfold argsOk; kernel_rfl
theorem pick_perm {α : Type} (f : Nat → Nat) (xs : Array α) : (pickOrder f xs).toList.Perm xs.toList := by
  have : ∀ n k (left : List α) (out : Array α), left.length = n → (pickOrder.go f n k left out).toList.Perm (out.toList ++ left) := by
    intro n
    induction n with
    | zero =>
      intro k left out h
      rw [List.length_eq_zero_iff.mp h, List.append_nil]
      exact List.Perm.refl _
    | succ n ih =>
      intro k left out h
      have hlt : f k % left.length < left.length := Nat.mod_lt _ (by omega)
      unfold pickOrder.go
      rw [List.getElem?_eq_getElem hlt]
      dsimp only
      refine (ih (k + 1) _ _ (by rw [List.length_eraseIdx_of_lt hlt]; omega)).trans ?_
      rw [Array.toList_push, List.append_assoc]
      exact List.Perm.append_left _ (erase_perm hlt)
  exact this xs.size 0 xs.toList #[] (by simp)
section
variable {prog : Program} {w : World} {A : Around} {E : Value → Shared → Prop} {s : Shared}
theorem iter_setit {it : Addr} {o : Obj} {Q : Value → Shared → Prop} (hit : s.heap.get? it = some o) (hc : o.cls = .type "set_iterator") (h : Q (.ref it) s) : wpAny (model prog w) A (pyIter (.ref it)) Q E s := by
  have hT : s.TypeIs (.ref it) "set_iterator" := ⟨_, hit, hc⟩
  refine wpAny_pyIter_slot hT slot_setit_iter (wpAny_call_entry slot_setit_iter hT entry_setit_iter ?_ (args_setit_iter _))
  show wpAny _ _ (ret (.ref it)) _ _ s
  exact wpAny_pure ⟨_, rfl, "set_iterator", _, hT, slot_setit_next.lookup, h⟩
theorem setNext_text {a : Addr} {o : Obj} {es : Array (Int × Value)} {ep : Nat} {t : SetTable} {l : List Str} {slot i : Nat} (ho : s.heap.get? a = some o) (D : SetDat prog w o es ep t l)
    (hb : w.params.followText "set-order" = true) {Q : Option (Value × Nat) → Shared → Prop}
    (h : Q (((pickOrder (w.params.setOrder a ep) es)[i]?).map fun e => (e.2, slot)) s) : wpAny (model prog w) A (setNext a slot i ep) Q E s := by
  unfold setNext
  refine wpAny_bind (wpAny_setState_of ho D.dat D.fit ?_)
  unfold setsByText
  refine wpAny_bind (wpAny_bind (wpAny_askSetting (wpAny_pure ?_)))
  show wpAny _ _ (if w.params.followText "set-order" = true then _ else _) _ _ _
  rw [if_pos hb]
  dsimp only
  rw [if_neg (by simp)]
  unfold setWalk setsByText
  refine wpAny_bind (wpAny_bind (wpAny_setState_of ho D.dat D.fit ?_))
  refine wpAny_bind (wpAny_bind (wpAny_askSetting (wpAny_pure ?_)))
  show wpAny _ _ (if w.params.followText "set-order" = true then _ else _) _ _ _
  rw [if_pos hb]
  refine wpAny_bind (wpAny_askSetting (wpAny_pure ?_))
  exact wpAny_pure h
theorem setNext_place {a : Addr} {o : Obj} {es : Array (Int × Value)} {ep : Nat} {t : SetTable} {l : List Str} {slot i : Nat} (ho : s.heap.get? a = some o) (D : SetDat prog w o es ep t l)
    (hb : w.params.followText "set-order" = false) (h1 : es.size ≤ 1) {Q : Option (Value × Nat) → Shared → Prop}
    (h : Q (match es[SetTable.below t.place slot]?, t.place[SetTable.below t.place slot]? with
    | some (_, x), some j => some (x, j + 1)
    | _, _ => none) s) : wpAny (model prog w) A (setNext a slot i ep) Q E s := by
  unfold setNext
  refine wpAny_bind (wpAny_setState_of ho D.dat D.fit ?_)
  unfold setsByText
  refine wpAny_bind (wpAny_bind (wpAny_askSetting (wpAny_pure ?_)))
  show wpAny _ _ (if w.params.followText "set-order" = true then _ else _) _ _ _
  rw [if_neg (by rw [hb]; simp)]
  show wpAny _ _ (if (!t.plain && decide (es.size > 1)) = true then _ else _) _ _ _
  rw [if_neg (by simp; omega)]
  show wpAny _ _ ((if (!t.led && !es.isEmpty) = true then unsupported "set:maker-not-led" else pure ()) >>= _) _ _ _
  rw [if_neg (by rw [D.led hb]; simp)]
  exact wpAny_bind (wpAny_pure (wpAny_pure h))
theorem next_end {it : Addr} {first : Value} {i : Nat} {a : Addr} {ep : Nat} {Q : Option Value → Shared → Prop} {o : Obj} {es : Array (Int × Value)} {t : SetTable} {l : List Str} (hh : A.handled = none)
    (hit : s.heap.get? it = some (itObj first i a es.size ep)) (ho : s.heap.get? a = some o) (D : SetDat prog w o es ep t l)
    (hf : (∃ T oT, ∃ is : List Nat, first = .ref T ∧ s.heap.get? T = some oT ∧ oT.data = .seq (is.map fun (i : Nat) => rawInt i).toArray 0 ∧ is[i]? = none) ∨
      (∃ slot : Nat, first = rawInt slot ∧ ∀ (A : Around) (Q' : Option (Value × Nat) → Shared → Prop) (E' : Value → Shared → Prop), Q' none s → wpAny (model prog w) A (setNext a slot i ep) Q' E' s))
    (hQ : ∀ h', (∀ b o, b ≠ it → s.heap.get? b = some o → h'.get? b = some o) → Q none { s with heap := h' }) :
    wpAny (model prog w) A (pyNext (.ref it)) Q E s := by
  have hTy : s.TypeIs (.ref it) "set_iterator" := ⟨_, hit, rfl⟩
  have hh1 : A.in1.handled = none := hh
  unfold pyNext
  refine wpAny_bind (wpAny_attempt (wpAny_callSpecial?_slot (name := Str.ofString "__next__") hTy slot_setit_next
    (wpAny_call_entry slot_setit_next hTy entry_setit_next ?_ (args_setit_next _))))
  unfold Builtin.«set_iterator.__next__»
  refine wpAny_bind (wpAny_slotArgs0 ?_)
  refine wpAny_bind (wpAny_fieldsOf hit rfl ?_)
  show wpAny _ _ (setEntries a >>= _) _ _ s
  refine wpAny_bind (wpAny_setEntries_of ho D.dat D.fit ?_)
  rw [if_neg (by simp)]
  have fin : ∀ (h' : Heap) b, (∀ b o, b ≠ it → s.heap.get? b = some o → h'.get? b = some o) → ({ s with heap := h' } : Shared).TypeIs (.ref b) "StopIteration" →
      wpAny (model prog w) A (do if ← isInstance (.ref b) (.type "StopIteration") then pure none else throw (.ref b)) Q E { s with heap := h' } := fun h' b hk hT => by
    refine wpAny_bind (wpAny_isInstance (T := "StopIteration") (b := true) hT isSubtype_stop ?_)
    exact wpAny_pure (hQ h' hk)
  rcases hf with ⟨T, oT, is, rfl, hT, hdT, hi⟩ | ⟨slot, rfl, hN⟩
  · show wpAny _ _ (seqItems? (.ref T) >>= _) _ _ s
    refine wpAny_bind (wpAny_seqItems hT hdT ?_)
    have hp : (is.map fun (i : Nat) => rawInt i).toArray[((i : Int)).toNat]? = none := by
      rw [Int.toNat_natCast, List.getElem?_toArray, List.getElem?_map, hi]; rfl
    dsimp only
    rw [hp]
    dsimp only
    refine wpAny_bind (wpAny_setField hit rfl (by simp) ?_)
    have e1 := Heap.get?_update_self (Obj.mapFields (·.setIfInBounds 0 (rawInt 0))) hit rfl
    refine wpAny_bind (wpAny_setField e1 rfl (by simp) ?_)
    refine stop_raise hh1 fun h' b hk hT' => fin _ b (fun b o hb e => hk _ _ ?_) hT'
    exact (Heap.get?_update_other _ _ (Ne.symm hb)).trans ((Heap.get?_update_other _ _ (Ne.symm hb)).trans e)
  · show wpAny _ _ (setNext a ((slot : Int)).toNat ((i : Int)).toNat ((ep : Int)).toNat >>= _) _ _ s
    rw [Int.toNat_natCast, Int.toNat_natCast, Int.toNat_natCast]
    refine wpAny_bind (hN _ _ _ ?_)
    dsimp only
    refine wpAny_bind (wpAny_setField hit rfl (by simp) ?_)
    refine stop_raise hh1 fun h' b hk hT' => fin _ b (fun b o hb e => hk _ _ ?_) hT'
    exact (Heap.get?_update_other _ _ (Ne.symm hb)).trans e
theorem next_slot {it : Addr} {slot slot' : Nat} {i : Nat} {a : Addr} {ep : Nat} {Q : Option Value → Shared → Prop} {o : Obj} {es : Array (Int × Value)} {t : SetTable} {l : List Str} {x : Value}
    (hit : s.heap.get? it = some (itObj (rawInt slot) i a es.size ep)) (ho : s.heap.get? a = some o) (D : SetDat prog w o es ep t l)
    (hN : ∀ (A : Around) (Q' : Option (Value × Nat) → Shared → Prop) (E' : Value → Shared → Prop), Q' (some (x, slot')) s → wpAny (model prog w) A (setNext a slot i ep) Q' E' s)
    (hQ : ∀ h', h'.get? it = some (itObj (rawInt slot') (i + 1) a es.size ep) → Heap.SameBut it s.heap h' → Q (some x) { s with heap := h' }) :
    wpAny (model prog w) A (pyNext (.ref it)) Q E s := by
  have hTy : s.TypeIs (.ref it) "set_iterator" := ⟨_, hit, rfl⟩
  unfold pyNext
  refine wpAny_bind (wpAny_attempt (wpAny_callSpecial?_slot (name := Str.ofString "__next__") hTy slot_setit_next
    (wpAny_call_entry slot_setit_next hTy entry_setit_next ?_ (args_setit_next _))))
  unfold Builtin.«set_iterator.__next__»
  refine wpAny_bind (wpAny_slotArgs0 ?_)
  refine wpAny_bind (wpAny_fieldsOf hit rfl ?_)
  show wpAny _ _ (setEntries a >>= _) _ _ s
  refine wpAny_bind (wpAny_setEntries_of ho D.dat D.fit ?_)
  rw [if_neg (by simp)]
  show wpAny _ _ (setNext a ((slot : Int)).toNat ((i : Int)).toNat ((ep : Int)).toNat >>= _) _ _ s
  rw [Int.toNat_natCast, Int.toNat_natCast, Int.toNat_natCast]
  refine wpAny_bind (hN _ _ _ ?_)
  dsimp only
  refine wpAny_bind (wpAny_setField hit rfl (by simp) ?_)
  have e1 := Heap.get?_update_self (Obj.mapFields (·.setIfInBounds 0 (rawInt slot'))) hit rfl
  refine wpAny_bind (wpAny_setField e1 rfl (by simp) ?_)
  refine wpAny_pure ⟨_, rfl, wpAny_pure (hQ _ ?_ ((Heap.SameBut.update ..).trans (Heap.SameBut.update ..)))⟩
  exact Heap.get?_update_self _ e1 rfl
end
theorem below_one {xs : Array Nat} (h : xs.size = 1) : SetTable.below xs 0 = 0 ∧ ∀ j, xs[0]? = some j → SetTable.below xs (j + 1) = 1 := by
  obtain ⟨l⟩ := xs
  match l, h with
  | [j], _ =>
    refine ⟨rfl, fun j' hj => ?_⟩
    simp at hj
    subst hj
    unfold SetTable.below
    show SetTable.below.go _ _ 1 0 1 = 1
    unfold SetTable.below.go
    rw [if_pos (by decide)]
    dsimp only
    rw [if_pos (by simp)]
    unfold SetTable.below.go
    rfl
theorem below_nil {xs : Array Nat} (h : xs.size = 0) (k : Nat) : SetTable.below xs k = 0 := by
  obtain ⟨l⟩ := xs
  match l, h with
  | [], _ => rfl
theorem keys_strs {vs : List Value} (h : ∀ v ∈ vs, ∃ x u, v = .str x u) : StrsAre vs (vs.map keyS) := by
  induction vs with
  | nil => exact .nil
  | cons v l ih =>
    obtain ⟨x, u, rfl⟩ := h v (.head _)
    exact .cons x u (ih fun v hv => h v (.tail _ hv))
section
variable {prog : Program} {w : World} {A : Around} {E : Value → Shared → Prop} {s : Shared}
theorem SetDat.strs {o : Obj} {es : Array (Int × Value)} {ep : Nat} {t : SetTable} {l : List Str} (D : SetDat prog w o es ep t l) : ∀ v ∈ es.toList.map (·.2), ∃ x u, v = .str x u := fun v hv => by
  obtain ⟨e, he, rfl⟩ := List.mem_map.mp hv
  obtain ⟨⟨k, hk, _⟩, _⟩ := D.el e he
  obtain ⟨u, hu⟩ := is_key.mp hk
  exact ⟨k, u, hu⟩
theorem iter_walk {a : Addr} {o : Obj} {es : Array (Int × Value)} {ep : Nat} {t : SetTable} {l : List Str} {Q : Value → Shared → Prop} (ho : s.heap.get? a = some o) (D : SetDat prog w o es ep t l)
    (h : ∀ (I : Addr) (fp : List Addr) (ys : List Value) (h₁ : Heap) d (St : Nat → Heap → Prop), s.heap.objs.size ≤ I → (∀ b ∈ fp, b = a ∨ s.heap.objs.size ≤ b) → (∀ A : Around, A.handled = none → Walks prog w A I fp [I] ys.length (fun i v => ys[i]? = some v) St) →
      St 0 h₁ → (∀ b o, s.heap.get? b = some o → h₁.get? b = some o) → ys.Perm (es.toList.map (·.2)) → Q (.ref I) { s with heap := h₁, drawn := d }) :
    wpAny (model prog w) A (pyIter (.ref a)) Q E s := by
  have hlt := Heap.lt_size ho
  refine iter_set ho D (fun hb h1 is d hp => ?_) (fun hc => ?_)
  · have hne : a ≠ s.heap.objs.size + 1 := Nat.ne_of_lt (Nat.lt_succ_of_lt hlt)
    have hneT : s.heap.objs.size ≠ s.heap.objs.size + 1 := Nat.ne_of_lt (Nat.lt_succ_self _)
    have hl : is.length = es.size := by rw [hp.length_eq, List.length_range]
    have hT0 : (s.heap.push { cls := .type "tuple", data := .seq (is.map fun (i : Nat) => rawInt i).toArray }).get? s.heap.objs.size = some { cls := .type "tuple", data := .seq (is.map fun (i : Nat) => rawInt i).toArray } := Heap.get?_push_size _ rfl
    refine h (s.heap.objs.size + 1) [s.heap.objs.size + 1, a, s.heap.objs.size] (is.map fun p => ((es.toList.map (·.2))[p]?).getD .none) _ d
      (fun i h => h.get? (s.heap.objs.size + 1) = some (itObj (.ref s.heap.objs.size) i a es.size ep) ∧ h.get? a = some o ∧ h.get? s.heap.objs.size = some { cls := .type "tuple", data := .seq (is.map fun (i : Nat) => rawInt i).toArray })
      (Nat.le_succ _) ?_ (fun A hh => ?_) ⟨?_, Heap.get?_push_of_some _ (Heap.get?_push_of_some _ ho), Heap.get?_push_of_some _ hT0⟩ (fun b o e => Heap.get?_push_of_some _ (Heap.get?_push_of_some _ e)) ?_
    · intro b hb
      simp only [List.mem_cons, List.not_mem_nil, or_false] at hb
      rcases hb with rfl | rfl | rfl
      · exact .inr (Nat.le_succ _)
      · exact .inl rfl
      · exact .inr (Nat.le_refl _)
    · refine ⟨fun b hb => by simp at hb; simp [hb], fun i h h' st hk => ⟨hk _ (.head _) _ st.1, hk _ (.tail _ (.head _)) _ st.2.1, hk _ (.tail _ (.tail _ (.head _))) _ st.2.2⟩, ?_, ?_, fun i s₂ Q E st hQ => iter_setit st.1 rfl hQ⟩
      · intro i s₂ Q E hi st hQ
        rw [List.length_map] at hi
        have hpn : is[i] < es.size := by
          have := hp.mem_iff.mp (List.getElem_mem hi)
          exact List.mem_range.mp this
        refine next_drawn st.1 st.2.1 D st.2.2 rfl (p := is[i]) (e := es[is[i]]) (List.getElem?_eq_getElem hi) (Array.getElem?_eq_getElem hpn) fun h' hit hsb => ?_
        refine hQ _ h' _ ?_ ⟨hit, hsb.extBut _ _ hne st.2.1, hsb.extBut _ _ hneT st.2.2⟩ fun b o hb e => hsb.extBut b o (fun q => hb (q ▸ .head _)) e
        rw [List.getElem?_map, List.getElem?_eq_getElem hi]
        simp [hpn]
      · intro s₂ Q E st hQ
        rw [List.length_map] at st
        exact next_end hh st.1 st.2.1 D (.inl ⟨_, _, is, rfl, st.2.2, rfl, List.getElem?_eq_none (Nat.le_refl _)⟩) fun h' hk => hQ h' _ fun b o hb e => hk b o (fun q => hb (q ▸ .head _)) e
    · have := Heap.get?_push_size (h := s.heap.push { cls := .type "tuple", data := .seq (is.map fun (i : Nat) => rawInt i).toArray }) (o := itObj (.ref s.heap.objs.size) 0 a es.size ep) rfl
      rw [Heap.size_push] at this
      exact this
    · refine (hp.map _).trans ?_
      have e1 : (List.range es.size).map (fun p => ((es.toList.map (·.2))[p]?).getD Value.none) = es.toList.map (·.2) := by
        apply List.ext_getElem
        · simp
        · intro i h1 h2
          simp at h1
          simp [h1]
      rw [e1]
  · have hI : (s.heap.push (itObj (rawInt 0) 0 a es.size ep)).get? s.heap.objs.size = some (itObj (rawInt 0) 0 a es.size ep) := Heap.get?_push_size _ rfl
    have hne : a ≠ s.heap.objs.size := Nat.ne_of_lt hlt
    have hfp : ∀ b ∈ [s.heap.objs.size, a], b = a ∨ s.heap.objs.size ≤ b := fun b hb => by
      simp only [List.mem_cons, List.not_mem_nil, or_false] at hb
      rcases hb with rfl | rfl
      · exact .inr (Nat.le_refl _)
      · exact .inl rfl
    cases hb : w.params.followText "set-order" with
    | true =>
      have hpp := pick_perm (w.params.setOrder a ep) es
      refine h s.heap.objs.size [s.heap.objs.size, a] ((pickOrder (w.params.setOrder a ep) es).toList.map (·.2)) _ s.drawn
        (fun i h => h.get? s.heap.objs.size = some (itObj (rawInt (0 : Nat)) i a es.size ep) ∧ h.get? a = some o) (Nat.le_refl _) hfp (fun A hh => ?_) ⟨hI, Heap.get?_push_of_some _ ho⟩ (fun b o e => Heap.get?_push_of_some _ e) (hpp.map _)
      refine ⟨fun b hb => by simp at hb; simp [hb], fun i h h' st hk => ⟨hk _ (.head _) _ st.1, hk _ (.tail _ (.head _)) _ st.2⟩, ?_, ?_, fun i s₂ Q E st hQ => iter_setit st.1 rfl hQ⟩
      · intro i s₂ Q E hi st hQ
        rw [List.length_map, Array.length_toList] at hi
        refine next_slot (slot' := 0) st.1 st.2 D (x := (pickOrder (w.params.setOrder a ep) es)[i].2) (fun A Q' E' hq => setNext_text st.2 D hb ?_) fun h' hit hsb => ?_
        · rw [Array.getElem?_eq_getElem hi]; exact hq
        · exact hQ _ h' _ (by simp [hi]) ⟨hit, hsb.extBut _ _ hne st.2⟩ fun b o hb e => hsb.extBut b o (fun q => hb (q ▸ .head _)) e
      · intro s₂ Q E st hQ
        refine next_end hh st.1 st.2 D (.inr ⟨0, rfl, fun A Q' E' hq => setNext_text st.2 D hb ?_⟩) fun h' hk => hQ h' _ fun b o hb e => hk b o (fun q => hb (q ▸ .head _)) e
        rw [Array.getElem?_eq_none (by simp)]; exact hq
    | false =>
      have h1 : es.size ≤ 1 := hc.resolve_left (by rw [hb]; simp)
      have hpl : t.place.size = es.size := by
        have := D.fit
        simp only [SetTable.fits, Bool.and_eq_true, beq_iff_eq, decide_eq_true_eq] at this
        omega
      have b0 : SetTable.below t.place 0 = 0 := by
        rcases Nat.lt_or_ge t.place.size 1 with q | q
        · exact below_nil (by omega) 0
        · exact (below_one (by omega)).1
      refine h s.heap.objs.size [s.heap.objs.size, a] (es.toList.map (·.2)) _ s.drawn
        (fun i h => (∃ slot : Nat, h.get? s.heap.objs.size = some (itObj (rawInt slot) i a es.size ep) ∧ SetTable.below t.place slot = i) ∧ h.get? a = some o) (Nat.le_refl _) hfp (fun A hh => ?_) ⟨⟨0, hI, b0⟩, Heap.get?_push_of_some _ ho⟩ (fun b o e => Heap.get?_push_of_some _ e) (.refl _)
      refine ⟨fun b hb => by simp at hb; simp [hb], fun i h h' st hk => ⟨let ⟨sl, e, q⟩ := st.1; ⟨sl, hk _ (.head _) _ e, q⟩, hk _ (.tail _ (.head _)) _ st.2⟩, ?_, ?_, fun i s₂ Q E st hQ => let ⟨_, e, _⟩ := st.1; iter_setit e rfl hQ⟩
      · rintro i s₂ Q E hi ⟨⟨slot, hit, hsl⟩, hoa⟩ hQ
        rw [List.length_map, Array.length_toList] at hi
        have hi0 : i = 0 := by omega
        subst hi0
        have hp0 : 0 < t.place.size := by omega
        refine next_slot (slot' := t.place[0] + 1) hit hoa D (x := es[0].2) (fun A Q' E' hq => setNext_place hoa D hb h1 ?_) fun h' hit hsb => ?_
        · rw [hsl, Array.getElem?_eq_getElem hi, Array.getElem?_eq_getElem hp0]; exact hq
        · exact hQ _ h' _ (by simp [hi]) ⟨⟨_, hit, (below_one (by omega)).2 _ (Array.getElem?_eq_getElem hp0)⟩, hsb.extBut _ _ hne hoa⟩ fun b o hb e => hsb.extBut b o (fun q => hb (q ▸ .head _)) e
      · rintro s₂ Q E ⟨⟨slot, hit, hsl⟩, hoa⟩ hQ
        rw [List.length_map, Array.length_toList] at hit hsl
        refine next_end hh hit hoa D (.inr ⟨slot, rfl, fun A Q' E' hq => setNext_place hoa D hb h1 ?_⟩) fun h' hk => hQ h' _ fun b o hb e => hk b o (fun q => hb (q ▸ .head _)) e
        rw [hsl, Array.getElem?_eq_none (Nat.le_refl _)]; exact hq
theorem hint_set {a : Addr} {Q : Bool → Shared → Prop} (hT : s.TypeIs (.ref a) "set") (h : Q false s) : wpAny (model prog w) A (Builtin.List.listLengthHint (.ref a)) Q E s := by
  unfold Builtin.List.listLengthHint
  refine wpAny_bind (wpAny_specialOf hT PySem.F.slot_set_len.lookup ?_)
  generalize hid : ("set.__len__" : String) = id0
  wp_delta
  rw [show splitId id0 = some ("set", "__len__") from by subst hid; decide +kernel]
  subst hid
  refine wpAny_bind (wpAny_isInstance (T := "set") (b := true) hT (by rw [isSubtype_type]; kernel_rfl) ?_)
  refine wpAny_ite_split (fun hab => absurd hab (by decide)) (fun _ => ?_)
  refine wpAny_ite_split (fun _ => ?_) (fun hab => absurd (by decide +kernel) hab)
  refine wpAny_bind (wpAny_typeOf hT ?_)
  exact wpAny_pure h
theorem collect_set {a : Addr} {l : List Str} {Q : List Value → Shared → Prop} (hh : A.handled = none) (hS : SetL prog w s.heap a l)
    (h : ∀ vs ss h' d tk, StrsAre vs ss → ss.Nodup → (∀ x, x ∈ ss ↔ x ∈ l) → (∀ b o, s.heap.get? b = some o → h'.get? b = some o) → Q vs { s with heap := h', drawn := d, toks := tk }) :
    wpAny (model prog w) A (collect (.ref a)) Q E s := by
  obtain ⟨o, es, ep, t, ho, D⟩ := hS
  have hlt := Heap.lt_size ho
  unfold collect
  refine wpAny_bind (wpAny_runValue (codeAny_builtin PySem.F.entry_proto_collect ?_))
  rw [Around.under_plainId PySem.F.plain_proto_collect _]
  show wpAny _ A.in1 (newList [] >>= fun l => again (.builtin "list.__iadd__" ⟨[l, .ref a], []⟩)) _ _ s
  refine wpAny_bind (wpAny_newObj_type ?_)
  refine wpAny_pure ⟨plainId_quiet PySem.F.plain_list_iadd _, codeAny_builtin PySem.F.entry_list_iadd ?_⟩
  rw [Around.under_plainId PySem.F.plain_list_iadd _]
  have ho1 : (s.heap.push { cls := .type "list", data := .seq ([] : List Value).toArray }).get? a = some o := Heap.get?_push_of_some _ ho
  have hS1 : (s.heap.push { cls := .type "list", data := .seq ([] : List Value).toArray }).get? s.heap.objs.size = some { cls := .type "list", data := .seq ([] : List Value).toArray } := Heap.get?_push_size _ rfl
  have hSa : s.heap.objs.size ≠ a := Nat.ne_of_gt hlt
  have hT1 : ({ s with heap := s.heap.push { cls := .type "list", data := .seq ([] : List Value).toArray } } : Shared).TypeIs (.ref a) "set" := ⟨o, ho1, D.ex.1⟩
  show wpAny _ A.in1 (Builtin.List.listExtendWith (.ref s.heap.objs.size) (.ref a) (.ref s.heap.objs.size)) _ _ _
  unfold Builtin.List.listExtendWith
  refine wpAny_bind (wpAny_typeOf hT1 ?_)
  have h1 : Builtin.List.listSameRef (.ref s.heap.objs.size) (.ref a) = false := by simp [Builtin.List.listSameRef, hSa]
  have h2 : (Value.type "set" == Value.type "list") = false := by decide
  have h3 : (Value.type "set" == Value.type "tuple") = false := by decide
  simp only [h1, h2, h3, Bool.or_false, Bool.false_eq_true, if_false]
  refine wpAny_bind (iter_walk ho1 D fun I fp ys hh₁ d St hI hfp W hst hk hp => ?_)
  rw [Heap.size_push] at hI hfp
  have hSI : s.heap.objs.size ≠ I := Nat.ne_of_lt hI
  have hSf : s.heap.objs.size ∉ fp := fun hm => by
    rcases hfp _ hm with q | q
    · exact hSa q
    · exact absurd q (Nat.not_le.mpr (Nat.lt_succ_self _))
  have hfit : ys.length ≤ sizeLine := by
    rw [hp.length_eq, List.length_map, Array.length_toList, sizeLine_eq]
    have : es.size < 4096 := D.bnd
    omega
  refine wpAny_bind (wpAny_holding (hint_set ⟨o, hk _ _ ho1, D.ex.1⟩ ?_))
  rw [if_pos (by decide)]
  refine wpAny_bind (wpAny_rule ?_)
  refine wpAny_bind ?_
  show wpAny _ _ (updateSeq s.heap.objs.size (·.push .none) >>= fun _ => updateSeq s.heap.objs.size (·.pop)) _ _ _
  have hS2 := hk _ _ hS1
  refine wpAny_bind (wpAny_updateSeq hS2 rfl ?_)
  have hS3 := Heap.get?_update_self (Obj.mapSeq (·.push Value.none)) hS2 rfl
  refine wpAny_updateSeq (hz := by seq_fits) hS3 rfl ?_
  have hS4 := Heap.get?_update_self (Obj.mapSeq (·.pop)) hS3 rfl
  have oth : ∀ b o, b ≠ s.heap.objs.size → hh₁.get? b = some o → ((hh₁.update s.heap.objs.size (Obj.mapSeq (·.push Value.none))).update s.heap.objs.size (Obj.mapSeq (·.pop))).get? b = some o :=
    fun b o hb e => (Heap.get?_update_other _ _ (Ne.symm hb)).trans ((Heap.get?_update_other _ _ (Ne.symm hb)).trans e)
  refine wpAny_pure ⟨plainId_quiet PySem.F.plain_extend_loop _, codeAny_extend_loopS (W A.in1 hh).toS hfit _ hSf _ ys.length 0 _ _ _ rfl (Nat.zero_le _)
    ((W A.in1 hh).frame 0 _ _ hst fun b hb o e => oth b o (fun q => hSf (q ▸ hb)) e) hS4 (ItemsOf.nil _) fun s' acc' c' hm hS' hacc => ?_⟩
  show wpAny _ A (load s.heap.objs.size >>= _) _ _ s'
  refine wpAny_bind (wpAny_load hS' ?_)
  have eacc : acc'.toList = ys := by
    apply List.ext_getElem?
    intro i
    rcases Nat.lt_or_ge i ys.length with q | q
    · have hi : i < acc'.size := by rw [hacc.1]; exact q
      have := hacc.2 i acc'[i] (Array.getElem?_eq_getElem hi)
      rw [this]; simp [hi]
    · rw [List.getElem?_eq_none q, List.getElem?_eq_none (by rw [Array.length_toList, hacc.1]; exact q)]
  show wpAny _ A (pure acc'.toList) _ _ s'
  rw [eacc]
  have hys : ∀ v ∈ ys, ∃ x u, v = .str x u := fun v hv => D.strs v (hp.mem_iff.mp hv)
  have hks : (ys.map keyS).Perm (keysS es.toList) := by
    have := hp.map keyS
    rw [List.map_map] at this
    exact this
  obtain ⟨hP', g', d', tk', os'⟩ := s'
  have eg : g' = s.gens := hm.gens
  have ed : d' = d := hm.drawn
  have eo : os' = s.os := hm.os
  subst eg; subst ed; subst eo
  refine wpAny_pure (h ys (ys.map keyS) hP' d' tk' (keys_strs hys) (hks.nodup_iff.mpr D.nod) (fun x => by rw [hks.mem_iff, D.mem]) fun b o e => ?_)
  have hb := Heap.lt_size e
  refine hm.heap b o (fun q => ?_) (oth b o (Nat.ne_of_lt hb) (hk _ _ (Heap.get?_push_of_some _ e)))
  rcases List.mem_cons.mp q with q | q
  · exact Nat.ne_of_lt hb q
  · rw [List.mem_singleton.mp q] at hb; exact absurd hI (Nat.not_le.mpr (Nat.lt_succ_of_lt hb))
theorem sorted_set {a : Addr} {l : List Str} {Q : Value → Shared → Prop} (hh : A.handled = none) (hS : SetL prog w s.heap a l) (h64 : ∀ ss : List Str, ss.Nodup → (∀ x, x ∈ ss ↔ x ∈ l) → ss.length < 64)
    (h : ∀ r vs ss e h' d tk, s.heap.get? r = none → h'.get? r = some (W.listOf (vs : List Value).toArray e) → (∀ b o, s.heap.get? b = some o → h'.get? b = some o) → StrsAre vs ss → ss.Nodup → (∀ x, x ∈ ss ↔ x ∈ l) → sortedS ss = true →
      Q (.ref r) { s with heap := h', drawn := d, toks := tk }) :
    wpAny (model prog w) A (call (.builtin "sorted") [.ref a]) Q E s := by
  refine Calls.call_function_entry kind_sorted plain_sorted entry_sorted (args_sorted1 _) ?_
  unfold Builtin.«sorted»
  refine wpAny_bind (m := checkCount "sorted" 1 1 _) (wpAny_pure ?_)
  refine wpAny_bind (collect_set (A := A.in1) hh hS fun vs ss h₁ d tk hv hnd hm hk => ?_)
  have hlen : vs.length < 64 := by
    rw [hv.length]
    exact h64 _ hnd hm
  refine wpAny_bind (wpAny_newList ?_ (by rw [sizeLine_eq]; omega))
  have hoL : (h₁.push (seqObj "list" vs.toArray 0)).get? h₁.objs.size = some (seqObj "list" vs.toArray 0) := Heap.get?_push_size _ rfl
  show wpAny _ _ _ _ _ ({ s with heap := h₁.push (seqObj "list" vs.toArray 0), drawn := d, toks := tk } : Shared)
  refine wpAny_bind (wpAny_holding (wpAny_call_entry slot_list_sort ⟨_, hoL, rfl⟩ entry_list_sort (list_sort_treeK strKind_oneLt hoL hv.keysOf (fun v₁ v₂ rest e => keyKind_strs (by rw [← e]; exact hv)) hlen fun st' a1 a2 => ⟨_, rfl, ?_⟩) (args_list_sort _)))
  obtain ⟨ss', b1, b2, b3⟩ := sorted_out_str hv a1 a2
  obtain ⟨e, he⟩ := sortedHeap_at (out := (arrOf st').map (·.2)) hoL
  refine wpAny_pure ⟨_, rfl, h h₁.objs.size ((arrOf st').map (·.2)).toList ss' e _ d tk ?_ ?_ (fun b o e => ?_) b1 (b2.nodup_iff.mpr hnd) (fun x => by rw [b2.mem_iff, hm]) b3⟩
  · cases q : s.heap.get? h₁.objs.size with
    | none => rfl
    | some o => exact absurd (Heap.lt_size (hk _ _ q)) (Nat.lt_irrefl _)
  · rw [Array.toArray_toList]; exact he
  · have hb := Heap.lt_size (hk _ _ e)
    rw [sortedHeap_old (Nat.ne_of_lt hb) (by rw [size_push']; exact Nat.lt_succ_of_lt hb), Heap.get?_push_ne _ _ _ (Nat.ne_of_lt hb)]
    exact hk _ _ e
end
noncomputable def NoHalt : Prop := True
section SM
local macro_rules | `(tactic| k_unfold) => `(tactic| k_extra "m_U")
local macro_rules | `(tactic| walk_at "i5") => `(tactic| (intro D' h' F' N' l1; (try k_lt l1); (try k_sweep)))
local macro_rules | `(tactic| walk_at "i5d") => `(tactic| (intro h' o' F' N' hd'; (try dsimp only at N')))
local macro_rules | `(tactic| walk_at $s:str) => `(tactic| first | k_extra $s | fail)
local macro_rules | `(tactic| k_ne) => `(tactic| k_extra "m_k_ne")
local macro_rules | `(tactic| size_fits) => `(tactic| assumption)
local macro_rules | `(tactic| k_all) => `(tactic| k_extra "m_k_all")
local macro_rules | `(tactic| k_mem) => `(tactic| k_extra "m_k_mem")
local macro_rules | `(tactic| k_lt $h:ident) => `(tactic| replace $h := allLt_of $h)
theorem reg_M : True := by
  (k_with "m_S" => ((goal_lacks PySem.Heap.push); (fail_if_success (goal_lacks PySem.Shared.mk)); (with_reducible refine (?_ : wpAny _ _ _ _ _ (SH _ _))); (try ((fail_if_success (goal_lacks PySem.Shared.toks)); (with_reducible refine genT (S := SH) ?_); intro _))))
  (k_with "m_U" => (k_extra "m_S"; first | walk1 | (dsimp only; walk1)))
  (k_with "m_enter" => ((
    case ho => k_is
    case hcd => k_is
    case hb => first | exact BindsTo.of_eq rfl | exact binds_K (by assumption) rfl (by k_is) rfl rfl rfl
    case hl => exact locs rfl
    case hc => decide
    case h1 => exact rfl
    case h2 => exact rfl
    case h3 => exact rfl)))
  (k_with "m_enterC" => ((
    case ho => k_is
    case hcd => k_is
    case hb => first | exact BindsTo.of_eq rfl | exact binds_K (by assumption) rfl (by k_is) rfl rfl rfl
    case hl => exact rfl
    case hn => decide +kernel
    case h1 => exact rfl
    case h2 => exact rfl
    case h3 => exact rfl)))
  (k_with "eval ListComp" => (((fail_if_success (with_reducible rename NoHalt => nh')); refine halt ?_)))
  (k_with "eval DictComp" => (((fail_if_success (with_reducible rename NoHalt => nh')); refine halt ?_)))
  (k_with "eval Name" => (k_dflt ((with_reducible show wpAny _ _ (eval (Expr.Name _ _) (compEnvC _ _ _ _)) _ _ _); refine' comp_cell ?xq5 ?Nq5 ?cq5 ?mq5 ?dq5 ?_ ?kq5 ?bq5; (case xq5 => exact rfl); (case Nq5 => k_asm); (case cq5 => exact rfl); (case mq5 => k_mem); (case dq5 => k_asm); (case kq5 => exact rfl); (case bq5 => decide))))
  (k_with "eval Name" => (k_dflt ((with_reducible show wpAny _ _ (eval (Expr.Name _ _) (compEnvC _ _ _ _)) _ _ _); refine' comp_local ?xq6 ?Nq6 ?cq6 ?_ ?kq6 ?bq6; (case xq6 => exact rfl); (case Nq6 => k_asm); (case cq6 => exact rfl); (case kq6 => exact rfl); (case bq6 => decide))))
  (k_with "m_tail" => (first
    | exact fun _ h => h
    | ((with_reducible refine sub_tl ?_); k_extra "m_tail")
    | ((with_reducible refine sub_lf ?_); k_extra "m_tail")
    | ((with_reducible refine sub_rt ?_); k_extra "m_tail")))
  (k_with "m_in" => (first
    | exact List.Mem.head _
    | assumption
    | ((refine List.Mem.tail _ ?_); k_extra "m_in")
    | ((refine List.mem_append_left _ ?_); k_extra "m_in")
    | ((refine List.mem_append_right _ ?_); k_extra "m_in")))
  (k_with "m_sub1" => (first
    | exact sub_nil
    | ((with_reducible refine sub_cons ?_ ?_); k_extra "m_in"; k_extra "m_sub1")
    | ((with_reducible refine sub_app ?_ ?_); k_extra "m_sub1"; k_extra "m_sub1")
    | k_extra "m_tail"))
  (k_with "m_sub" => (((try dsimp only [List.cons_append, List.nil_append]); k_extra "m_sub1")))
  (k_with "m_k_ne" => ((refine neN ?_; (try dsimp only); first | assumption | exact Ne.symm (by assumption) | exact Nat.ne_of_lt (by assumption) | exact Nat.ne_of_gt (by assumption) | exact all_ne (by assumption) (by k_mem) | exact Ne.symm (all_ne (by assumption) (by k_mem)) | exact ne_lt2 (by assumption) (by assumption) | exact Ne.symm (ne_lt2 (by assumption) (by assumption)) | (refine' News_ne_cls ?nqNq11 ?nqaq11 ?nqbq11 ?nqcq11; (case nqNq11 => k_asm); (case nqaq11 => k_mem); (case nqbq11 => k_mem); (case nqcq11 => rfl)) | omega)))
  (k_with "exec While BoolOp cons nil" => (refine halt ?_))
  (k_with "exec While Constant cons nil" => (refine halt ?_))
  (k_with "exec While Compare cons nil" => (refine halt ?_))
  (k_with "compareOp NotIn ref ref" => (refine halt ?_))
  (k_with "compareOp In ref ref" => (refine halt ?_))
  (k_with "m_off" => (first | exact off_nil | ((refine off_cons ?_ ?_); k_all; k_extra "m_off")))
  (k_with "m_k_all" => (first | assumption | exact OwnOff.ne (by assumption) (by k_memK) | ((with_reducible refine List.forall_mem_append.mpr ⟨?_, ?_⟩); k_all; k_all) | ((with_reducible refine List.forall_mem_cons.mpr ⟨?_, ?_⟩); k_ne; k_all) | exact List.forall_mem_nil _ | fail "k_all"))
  (k_with "eval Name" => (k_dflt ((with_reducible show wpAny _ _ (eval (Expr.Name _ _) (compEnvC _ _ _ _)) _ _ _); refine' LCgL.ld_global ?qFq19 ?qXq19 ?qTq19 ?qeq19 ?_ ?qgq19 ?qkq19 ?qxq19 ?qdq19; (case qFq19 => k_asm); (case qXq19 => k_asm); (case qTq19 => k_asm); (case qeq19 => k_is); (case qgq19 => exact rfl); (case qkq19 => exact rfl); (case qxq19 => exact rfl); (case qdq19 => decide))))
  (k_with "m_clos" => ((
    case hclos => with_unfolding_all rfl
    case hcell => decide
    case hkind => rfl
    case hnames => decide
    case hx => rfl
    case hs => exact fun _ => rfl
    case hh => rfl)))
  (k_with "m_k_mem" => (k_dflt (first | assumption | (refine List.mem_append_left _ ?_; k_mem) | (refine List.mem_append_right _ ?_; k_mem))))
  (k_with "exec For Name Name cons nil" => (k_extra "m_for"))
  (k_with "exec For Name Name cons cons" => (k_extra "m_for"))
  (k_with "exec For Name Call cons nil" => (k_extra "m_for"))
  (k_with "exec For Name Attribute cons nil" => (k_extra "m_for"))
  (k_with "exec For Name Subscript cons nil" => (k_extra "m_for"))
  (k_with "exec For Tuple Name cons nil" => (k_extra "m_for"))
  (k_with "exec For Tuple Call cons nil" => (k_extra "m_for"))
  trivial
section SA
theorem reg_F : True := by
  (k_with "m_for" => (k_dflt ((refine' For_JF ?kFq29 ?k1q29 ?k2q29 ?_; (case kFq29 => assumption); (case k1q29 => exact PassesOwn.never); (case k2q29 => exact fun _ => rfl)))))
  trivial
section
variable {prog : Program} {w : World} {A : Around} {E : Value → Shared → Prop} {s : Shared} {h₀ : Heap} {L : Addr} {m : Str → Option Value} {news : List (Addr × Obj)}
theorem strsAre_at {vs : List Value} {ss : List Str} (h : StrsAre vs ss) : ∀ {i : Nat} {x : Str}, ss[i]? = some x → ∃ u, vs[i]? = some (.str x u) := by
  induction h with
  | nil => intro i v e; simp at e
  | cons y t _ ih =>
    intro i v e
    cases i with
    | zero => simp at e; exact ⟨t, by simp [e]⟩
    | succ i => simpa using ih (by simpa using e)
theorem r_itemList {l : Addr} {vs : List Value} {ys : List Str} {k : Int} {u : Tok} {value slice : Expr} {Q : Value → Shared → Prop} (hl : s.heap.IsList l vs.toArray) (hi : StrsAre vs ys) (h0 : 0 ≤ k) (h1 : k < ys.length) (hz : ys.length ≤ 16384)
    (h : ∀ x t, ys[k.toNat]? = some x → Q (.str x t) s) (hs : subscripted slice false (.ref l) (.int k u) = operate [.ref l, .int k u] (getItem (.ref l) (.int k u))) :
    wpAny (model prog w) A (subscriptTail value slice (.ref l) (.int k u)) Q E s := by
  have hk : k.toNat < ys.length := by omega
  obtain ⟨t, et⟩ := strsAre_at hi (List.getElem?_eq_getElem hk)
  exact tail_any hl.typeIs slot_list_getitem.lookup (wpAny_getItem_list hl h0 (by omega) (by simpa using et) (h _ _ (List.getElem?_eq_getElem hk))) hs
abbrev tupOf (vs : List Value) (n : Nat) : Obj := { cls := .type "tuple", data := .seq vs.toArray n }
theorem r_isList {l : Addr} {vs : List Value} {n : Nat} (N : News h₀ L s.heap news) (hm : (l, W.listOf vs.toArray n) ∈ news) : s.heap.IsList l vs.toArray := ⟨_, (N _ hm).1, rfl, n, rfl⟩
theorem r_isTup {l : Addr} {vs : List Value} {n : Nat} (N : News h₀ L s.heap news) (hm : (l, tupOf vs n) ∈ news) : IsTup s.heap l vs.toArray := ⟨_, (N _ hm).1, rfl, n, rfl⟩
theorem r_tupleOf {l : Addr} {vs : List Value} {Q : Value → Shared → Prop} (F : Fr h₀ L s.heap m) (N : News h₀ L s.heap news) (hl : s.heap.IsList l vs.toArray) (hz : vs.toArray.size ≤ 16384)
    (h : ∀ D h', Fr h₀ L h' m → News h₀ L h' ((D, tupOf vs 0) :: news) → (∀ p ∈ news, p.1 < D) → Q (.ref D) { s with heap := h' }) : wpAny (model prog w) A (call (.type "tuple") [.ref l]) Q E s :=
  kde_tupleOf F N hl hz (zs := vs) rfl h
theorem r_lenTup {t : Addr} {vs : List Value} {Q : Value → Shared → Prop} (ht : IsTup s.heap t vs.toArray) (hz : (vs.length : Int) < 2 ^ 63)
    (h : Q (.int vs.length (s.toks + 1)) { s with toks := s.toks + 1 + 1 }) : wpAny (model prog w) A (call (.builtin "len") [.ref t]) Q E s :=
  PyProof.Rows.len_tuple ht (by rw [List.size_toArray]; exact hz) (by rw [List.size_toArray]; exact h)
theorem r_lenList {t : Addr} {vs : List Value} {Q : Value → Shared → Prop} (ht : s.heap.IsList t vs.toArray) (hz : (vs.length : Int) < 2 ^ 63)
    (h : Q (.int vs.length (s.toks + 1)) { s with toks := s.toks + 1 + 1 }) : wpAny (model prog w) A (call (.builtin "len") [.ref t]) Q E s :=
  len_list ht (by rw [List.size_toArray]; exact hz) (by rw [List.size_toArray]; exact h)
theorem r_truthyTup {t : Addr} {vs : List Value} {Q : Bool → Shared → Prop} (ht : IsTup s.heap t vs.toArray) (hz : (vs.length : Int) < 2 ^ 63)
    (h : Q (!vs.isEmpty) { s with toks := s.toks + 1 + 1 }) : wpAny (model prog w) A (truthy (.ref t)) Q E s :=
  PyProof.Rows.truthy_tuple ht (by rw [List.size_toArray]; exact hz) (by rw [List.isEmpty_toArray]; exact h)
theorem r_truthyList {t : Addr} {vs : List Value} {Q : Bool → Shared → Prop} (ht : s.heap.IsList t vs.toArray) (hz : (vs.length : Int) < 2 ^ 63)
    (h : Q (!vs.isEmpty) { s with toks := s.toks + 1 + 1 }) : wpAny (model prog w) A (truthy (.ref t)) Q E s :=
  wpAny_truthy_list ht (by rw [List.size_toArray]; exact hz) (by rw [List.isEmpty_toArray]; exact h)
theorem r_inTup {t : Addr} {vs : List Value} {ys : List Str} {x : Str} {u : Tok} {Q : Value → Shared → Prop} (ht : IsTup s.heap t vs.toArray) (hi : StrsAre vs ys)
    (h : Q (.bool (ys.any (· == x))) s) : wpAny (model prog w) A (compareOp .In (.str x u) (.ref t)) Q E s := in_tuple_strs ht (by simpa using hi) h
theorem r_notinTup {t : Addr} {vs : List Value} {ys : List Str} {x : Str} {u : Tok} {Q : Value → Shared → Prop} (ht : IsTup s.heap t vs.toArray) (hi : StrsAre vs ys)
    (h : Q (.bool (!(ys.any (· == x)))) s) : wpAny (model prog w) A (compareOp .NotIn (.str x u) (.ref t)) Q E s := notin_tuple_strs ht (by simpa using hi) h
theorem r_joinTup {t : Addr} {vs : List Value} {ys : List Str} {x : Str} {u : Tok} {Q : Value → Shared → Prop} (ht : IsTup s.heap t vs.toArray) (hi : StrsAre vs ys) (h1 : ∀ y ∈ ys, y.length ≤ 1) (h3 : ys.length ≤ 3) (hx : x.length ≤ 4)
    (h : ∀ z t' k, z.length ≤ 1000 → Q (.str z t') { s with toks := k }) : wpAny (model prog w) A (call (.builtin "str.join") [.str x u, .ref t]) Q E s := by
  have hs : ∀ l : List Str, (∀ y ∈ l, y.length ≤ 1) → (l.map (·.length)).sum ≤ l.length := by
    intro l
    induction l with
    | nil => intro _; exact Nat.le_refl _
    | cons y l ih =>
      intro h
      have a := h y (.head _)
      have b := ih fun z hz => h z (.tail _ hz)
      simp only [List.map_cons, List.sum_cons, List.length_cons]
      omega
  have hW : Weighs ys 10 := by
    have := hs ys h1
    show _ ≤ _
    omega
  have hl := len_join_le (sep := x) hW hx
  refine join_tuple ht (by simpa using hi) ?_ fun t' k => h _ t' k (by omega)
  have := hs ys h1
  have : ys.length * x.length ≤ 3 * 4 := Nat.mul_le_mul h3 hx
  omega
theorem r_truthyDict {d : Addr} {o : Obj} {kvs : List (Str × Value)} {Q : Bool → Shared → Prop} (N : News h₀ L s.heap news) (hp : (d, o) ∈ news) (hd : o.IsDictOf (strKind prog w) kvs) (lo : (d == sysModules) = false) (hfit : (kvs.length : Int) < 2 ^ 63)
    (h : ∀ tk, Q (!kvs.isEmpty) { s with toks := tk }) : wpAny (model prog w) A (truthy (.ref d)) Q E s :=
  wpAny_truthy_dict lo (kda_dict N hp hd) hfit (by first | exact h _ | (cases kvs <;> exact h _))
theorem stored_new {kvs : List (Str × Value)} {k : Str} (h : k ∉ kvs.map (·.1)) (v : Value) : stored kvs k v = kvs ++ [(k, v)] := stored_absent (valueAt_none_of_not_mem h) v
theorem cast1 (i : Nat) : (i : Int) + 1 = ((i + 1 : Nat) : Int) := rfl
theorem r_sliceTup {t : Addr} {vs : List Value} {a : Nat} {k : Int} {u : Tok} {value slice : Expr} {m : Str → Option Value} {Q : Value → Shared → Prop} (F : Fr h₀ L s.heap m) (N : News h₀ L s.heap news) (ht : IsTup s.heap t vs.toArray) (hk : k = ((a : Nat) : Int)) (h1 : 1 ≤ a) (ha : a ≤ vs.length) (hz : vs.length ≤ 16384)
    (h : ∀ D h', Fr h₀ L h' m → News h₀ L h' ((D, tupOf (vs.drop a) 0) :: news) → (∀ p ∈ news, p.1 < D) → Q (.ref D) { s with heap := h' })
    (hs : subscripted slice false (.ref t) (.ref s.heap.objs.size) = operate [.ref s.heap.objs.size, .ref t] (getItem (.ref t) (.ref s.heap.objs.size))) (hg : ∀ r, letTemporaryGo value (.ref t) r = pure ()) :
    wpAny (model prog w) A (subscriptTail value slice (.ref t) (.ref s.heap.objs.size)) Q E { s with heap := s.heap.push { cls := .type "slice", data := .fields #[.int k u, .none, .none] } } := by
  subst hk
  refine PyProof.Rows.slice_tuple_from F N ht h1 (by rw [List.size_toArray]; exact ha) (fun h' F' N' => h _ h' F' N' fun p hp => Nat.lt_succ_of_lt (Heap.lt_size (N p hp).1)) hs hg (by rw [List.size_toArray, sizeLine_eq]; omega)
theorem pick_from1 (vs : List Value) : (slicePick vs.toArray (some 1) none none).toList = vs.drop 1 := by
  have e : sliceBounds (some 1) none none vs.toArray.size = (((min 1 vs.toArray.size : Nat) : Int), ((vs.toArray.size : Nat) : Int), 1) := by
    simp only [sliceBounds, Option.getD_none, show (1 : Int) > 0 by decide, if_true, if_neg (show ¬ ((1 : Int) < 0) by omega)]
    congr 1
    omega
  rw [kmk_pick_nat _ e]
  show (vs.drop (min 1 vs.toArray.size)).take (vs.toArray.size - min 1 vs.toArray.size) = _
  rw [List.size_toArray, kmk_drop_min, List.take_of_length_le (by rw [List.length_drop]; omega)]
theorem r_sliceList1 {t : Addr} {vs : List Value} {u : Tok} {value slice : Expr} {m : Str → Option Value} {Q : Value → Shared → Prop} (F : Fr h₀ L s.heap m) (N : News h₀ L s.heap news) (ht : s.heap.IsList t vs.toArray) (hz : vs.length ≤ 16384)
    (h : ∀ D h', Fr h₀ L h' m → News h₀ L h' ((D, W.listOf (vs.drop 1).toArray 0) :: news) → (∀ p ∈ news, p.1 < D) → Q (.ref D) { s with heap := h' })
    (hs : subscripted slice false (.ref t) (.ref s.heap.objs.size) = operate [.ref s.heap.objs.size, .ref t] (getItem (.ref t) (.ref s.heap.objs.size))) (hg : ∀ r, letTemporaryGo value (.ref t) r = pure ()) :
    wpAny (model prog w) A (subscriptTail value slice (.ref t) (.ref s.heap.objs.size)) Q E { s with heap := s.heap.push { cls := .type "slice", data := .fields #[.int 1 u, .none, .none] } } :=
  kmk_slice_lit F N ht (IsPart.int _ _) IsPart.none (pick_from1 vs) h hs hg (by rw [List.size_toArray, sizeLine_eq]; omega)
theorem r_itemL {l : Addr} {vs : List Value} {k : Int} {u : Tok} {v : Value} {value slice : Expr} {Q : Value → Shared → Prop} (hl : s.heap.IsList l vs.toArray) (h0 : 0 ≤ k) (h1 : k < 16384) (hv : vs[k.toNat]? = some v)
    (h : Q v s) (hs : subscripted slice false (.ref l) (.int k u) = operate [.ref l, .int k u] (getItem (.ref l) (.int k u))) :
    wpAny (model prog w) A (subscriptTail value slice (.ref l) (.int k u)) Q E s :=
  tail_any hl.typeIs slot_list_getitem.lookup (wpAny_getItem_list hl h0 (by omega) (by simpa using hv) h) hs
end
end SA
inductive Reach (es : List (Str × Str)) (s : Str) : Str → Prop
  | refl : Reach es s s
  | step {p q : Str} : Reach es s p → (p, q) ∈ es → Reach es s q
theorem reach_closed {es : List (Str × Str)} {s : Str} {l : List Str} (h0 : s ∈ l) (hc : ∀ p ∈ l, ∀ e ∈ es, e.1 = p → e.2 ∈ l) {t : Str} (h : Reach es s t) : t ∈ l := by
  induction h with
  | refl => exact h0
  | step _ he ih => exact hc _ ih _ he rfl
theorem reach_mem {es : List (Str × Str)} {s : Str} {l : List Str} (h0 : s ∈ l) (he : ∀ e ∈ es, e.2 ∈ l) {t : Str} (h : Reach es s t) : t ∈ l := by
  cases h with
  | refl => exact h0
  | step _ h => exact he _ h
inductive EdgeIn (led : List (Addr × Obj)) (v : Value) (e : Str × Str) : Prop
  | mk (a t1 t2 n) (h1 : v = .ref a) (h2 : (a, tupOf [.str e.1 t1, .str e.2 t2] n) ∈ led) : EdgeIn led v e
inductive EdgesIn (led : List (Addr × Obj)) : List Value → List (Str × Str) → Prop
  | nil : EdgesIn led [] []
  | cons {v vs e es} : EdgeIn led v e → EdgesIn led vs es → EdgesIn led (v :: vs) (e :: es)
theorem EdgeIn.mono {led led' : List (Addr × Obj)} {v : Value} {e : Str × Str} (h : EdgeIn led v e) (hs : ∀ p ∈ led, p ∈ led') : EdgeIn led' v e :=
  let ⟨a, t1, t2, n, h1, h2⟩ := h; ⟨a, t1, t2, n, h1, hs _ h2⟩
theorem EdgesIn.mono {led led' : List (Addr × Obj)} {vs : List Value} {es : List (Str × Str)} (h : EdgesIn led vs es) (hs : ∀ p ∈ led, p ∈ led') : EdgesIn led' vs es := by
  induction h with
  | nil => exact .nil
  | cons a _ ih => exact .cons (a.mono hs) ih
theorem EdgesIn.snoc {led : List (Addr × Obj)} {v : Value} {e : Str × Str} {vs : List Value} {es : List (Str × Str)} (h : EdgesIn led vs es) (hr : EdgeIn led v e) : EdgesIn led (vs ++ [v]) (es ++ [e]) := by
  induction h with
  | nil => exact .cons hr .nil
  | cons a _ ih => exact .cons a ih
theorem EdgesIn.length {led : List (Addr × Obj)} {vs : List Value} {es : List (Str × Str)} (h : EdgesIn led vs es) : vs.length = es.length := by
  induction h with
  | nil => rfl
  | cons _ _ ih => exact congrArg (· + 1) ih
theorem EdgesIn.get {led : List (Addr × Obj)} {vs : List Value} {es : List (Str × Str)} (h : EdgesIn led vs es) : ∀ {i : Nat} {v : Value}, vs[i]? = some v → ∃ e, es[i]? = some e ∧ EdgeIn led v e := by
  induction h with
  | nil => intro i v h; simp at h
  | cons a _ ih =>
    intro i v h
    cases i with
    | zero => cases Option.some.inj h; exact ⟨_, rfl, a⟩
    | succ i => exact ih h
theorem EdgesIn.ref {led : List (Addr × Obj)} {vs : List Value} {es : List (Str × Str)} (h : EdgesIn led vs es) : ∀ v ∈ vs, ∃ a, v = .ref a := fun v hv => by
  obtain ⟨i, hi, e⟩ := List.mem_iff_getElem.mp hv
  obtain ⟨_, _, a, _, _, _, h1, _⟩ := h.get (i := i) (v := v) (by rw [List.getElem?_eq_getElem hi, e])
  exact ⟨a, h1⟩
section SL
local macro_rules | `(tactic| k_units) => `(tactic| k_extra "m_k_units")
theorem reg_L : True := by
  (k_with "m_slice" => (k_dflt ((with_reducible show wpAny _ _ (subscriptTail _ (PySem.Expr.Slice _ none none _) (Value.ref _) (Value.ref _)) _ _ _); first
    | (refine' r_sliceList1 ?k1q31 ?k2q31 ?k3q31 ?k4q31 ?_ ?k5q31 ?k6q31; (case k1q31 => k_asm); (case k2q31 => k_asm); (case k3q31 => k_extra "m_list"); (case k4q31 => k_extra "m_lt"); (case k5q31 => with_unfolding_all rfl); (case k6q31 => intro _; with_unfolding_all rfl); walk_at "i5")
    | (refine' r_sliceTup ?k1q31 ?k2q31 ?k3q31 ?k4q31 ?k5q31 ?k6q31 ?k7q31 ?_ ?k8q31 ?k9q31; (case k1q31 => k_asm); (case k2q31 => k_asm); (case k3q31 => k_extra "m_tup"); (case k4q31 => exact cast1 _); (case k5q31 => k_extra "m_lt"); (case k6q31 => k_extra "m_lt"); (case k7q31 => k_extra "m_lt"); (case k8q31 => with_unfolding_all rfl); (case k9q31 => intro _; with_unfolding_all rfl); walk_at "i5")
    | fail "m_slice")))
  (k_with "m_list" => (first | is_list | (refine' r_isList ?qiaq32 ?qibq32; (case qiaq32 => k_asm); (case qibq32 => k_mem))))
  (k_with "m_tup" => (first | is_tup | (refine' r_isTup ?qiaq33 ?qibq33; (case qiaq33 => k_asm); (case qibq33 => k_mem))))
  (k_with "call type:tuple" => (k_dflt ((with_reducible show wpAny _ _ (call (Value.type _) [Value.ref _]) _ _ _); (refine' r_tupleOf ?k1q34 ?k2q34 ?k3q34 ?k4q34 ?_; (case k1q34 => k_asm); (case k2q34 => k_asm); (case k3q34 => k_extra "m_list"); (case k4q34 => assumption); k_whole); walk_at "i5")))
  (k_with "m_len" => (first | assumption | omega | ((try simp only [List.length_append, List.length_cons, List.length_nil, List.length_map]); omega)))
  (k_with "call builtin:len" => (k_dflt ((with_reducible show wpAny _ _ (call (Value.builtin "len") [Value.ref _]) _ _ _); first
    | (refine' r_lenList ?k1q36 ?k2q36 ?_; (case k1q36 => k_extra "m_list"); (case k2q36 => k_extra "m_len"); k_whole)
    | (refine' r_lenTup ?k1q36 ?k2q36 ?_; (case k1q36 => k_extra "m_tup"); (case k2q36 => k_extra "m_len"); k_whole)
    | fail "len")))
  (k_with "truthy ref" => (k_dflt ((with_reducible show wpAny _ _ (truthy (Value.ref _)) _ _ _); first
    | (refine' r_truthyList ?k1q37 ?k2q37 ?_; (case k1q37 => k_extra "m_list"); (case k2q37 => k_extra "m_len"); k_whole)
    | (refine' r_truthyTup ?k1q37 ?k2q37 ?_; (case k1q37 => k_extra "m_tup"); (case k2q37 => k_extra "m_len"); k_whole)
    | (refine' r_truthyDict ?k1q37 ?k2q37 ?k3q37 ?k4q37 ?k5q37 ?_; (case k1q37 => k_asm); (case k2q37 => k_mem); (case k3q37 => k_asm); (case k4q37 => assumption); (case k5q37 => k_extra "m_len"); intro _)
    | fail "truthy")))
  (k_with "compareOp In str ref" => (k_dflt ((with_reducible show wpAny _ _ (compareOp CmpOp.In (Value.str _ _) (Value.ref _)) _ _ _); first
    | (refine' in_list_strs ?k1q38 ?k2q38 ?_; (case k1q38 => k_extra "m_list"); (case k2q38 => assumption); k_whole)
    | (refine' r_inTup ?k1q38 ?k2q38 ?_; (case k1q38 => k_extra "m_tup"); (case k2q38 => assumption); k_whole)
    | fail "in")))
  (k_with "compareOp NotIn str ref" => (k_dflt ((with_reducible show wpAny _ _ (compareOp CmpOp.NotIn (Value.str _ _) (Value.ref _)) _ _ _); first
    | (refine' notin_list_strs ?k1q39 ?k2q39 ?_; (case k1q39 => k_extra "m_list"); (case k2q39 => assumption); k_whole)
    | (refine' r_notinTup ?k1q39 ?k2q39 ?_; (case k1q39 => k_extra "m_tup"); (case k2q39 => assumption); k_whole)
    | fail "notin")))
  (k_with "m_k_units" => (first | omega | (simp only [Around.deeper, Around.in1, Around.mark] at *; omega)))
  (k_with "call builtin:all" => (k_dflt ((with_reducible show wpAny _ _ (call (Value.builtin "all") [Value.ref _]) _ _ _); (refine' all_strs ?khq41 ?kFq41 ?kNq41 ?kpq41 ?_; (case kFq41 => k_asm); (case kNq41 => k_asm); (case kpq41 => assumption); (case khq41 => rfl)); intro _ _ _ _; (try simp only []))))
  (k_with "m_lt" => (first | assumption | omega))
  (k_with "subscriptTail" => (k_dflt ((with_reducible show wpAny _ _ (subscriptTail _ _ (Value.ref _) (Value.int _ _)) _ _ _); (refine' r_itemList ?k1q43 ?k2q43 ?k3q43 ?k4q43 ?k5q43 ?_ ?k6q43; (case k1q43 => k_extra "m_list"); (case k2q43 => assumption); (case k3q43 => k_extra "m_lt"); (case k4q43 => k_extra "m_lt"); (case k5q43 => k_extra "m_lt"); (case k6q43 => exact rfl)); intro _ _ _)))
  (k_with "m_din" => (first | (with_reducible assumption) | assumption | exact (rfl : _ = true) | exact (rfl : _ = false) | exact rfl))
  (k_with "m_dat" => (first | assumption | exact rfl))
  (k_with "compareOp In str ref" => (k_dflt ((with_reducible show wpAny _ _ (compareOp CmpOp.In (Value.str _ _) (Value.ref _)) _ _ _); (refine' kda_in (knd := PySem.strKind _ _) ?k1q46 ?k2q46 ?k3q46 ?k4q46 (strKind_is _ _ _ _) _ ?k6q46 ?_; (case k1q46 => k_asm); (case k2q46 => k_mem); (case k3q46 => k_asm); (case k4q46 => first | (with_reducible assumption) | assumption); (case k6q46 => k_extra "m_din")))))
  (k_with "compareOp NotIn str ref" => (k_dflt ((with_reducible show wpAny _ _ (compareOp CmpOp.NotIn (Value.str _ _) (Value.ref _)) _ _ _); (refine' kdg_notin (knd := PySem.strKind _ _) ?k1q47 ?k2q47 ?k3q47 ?k4q47 (strKind_is _ _ _ _) _ ?k6q47 ?_; (case k1q47 => k_asm); (case k2q47 => k_mem); (case k3q47 => k_asm); (case k4q47 => first | (with_reducible assumption) | assumption); (case k6q47 => k_extra "m_din")))))
  (k_with "subscriptTail" => (((with_reducible show wpAny _ _ (subscriptTail _ _ (Value.ref _) (Value.str _ _)) _ _ _); k_dflt (refine' kdt_tail ?k1q48 ?k2q48 ?k3q48 ?_ ?k4q48; (case k1q48 => k_asm); (case k2q48 => k_mem); (case k3q48 => k_asm); (case k4q48 => exact rfl)))))
  (k_with "subscriptTail" => (k_dflt ((with_reducible show wpAny _ _ (subscriptTail _ _ (Value.ref _) (Value.str _ _)) _ _ _); (refine' kda_item (knd := PySem.strKind _ _) ?k1q49 ?k2q49 ?k3q49 (strKind_is _ _ _ _) ?k4q49 ?_; (case k1q49 => k_asm); (case k2q49 => k_mem); (case k3q49 => k_asm); (case k4q49 => k_extra "m_dat")))))
  (k_with "setItem ref str" => (k_dflt ((refine' kda_set (knd := PySem.strKind _ _) ?Fq50 ?Nq50 ?Uq50 ?dq50 (strKind_is _ _ _ _) ?zq50 ?_; (case Fq50 => k_asm); (case Nq50 => k_asm); (case Uq50 => k_updF); (case dq50 => k_asm); (case zq50 => first | assumption | (rw [sizeLine_eq]; exact Nat.le_of_ble_eq_true (by with_unfolding_all rfl)))); walk_at "i5d")))
  (k_with "getAttr ref" => (k_dflt (refine' get_own ?k1q51 ?k2q51 ?k3q51 ?k4q51 ?k5q51 ?k6q51 ?k7q51 ?k8q51 ?k9q51 ?_; (case k1q51 => k_asm); (case k2q51 => k_asm); (case k3q51 => k_inst); (case k8q51 => assumption); (case k4q51 => k_is); (case k5q51 => k_is); (case k6q51 => k_is); (case k7q51 => k_is); (case k9q51 => exact rfl))))
  (k_with "call builtin:str.join" => (k_dflt ((with_reducible show wpAny _ _ (call (Value.builtin "str.join") [Value.str _ _, Value.ref _]) _ _ _); (refine' r_joinTup ?k1q52 ?k2q52 ?k3q52 ?k4q52 ?k5q52 ?_; (case k1q52 => k_extra "m_tup"); (case k2q52 => assumption); (case k3q52 => assumption); (case k4q52 => assumption); (case k5q52 => decide)); intro _ _ _ _)))
  (k_with "getMethod ref" => (k_dflt (refine' method_inst ?k1q53 ?k2q53 ?k3q53 ?k4q53 ?k5q53 ?k6q53 ?k7q53 ?_; (case k1q53 => k_asm); (case k2q53 => k_asm); (case k3q53 => k_inst); (case k7q53 => assumption); (case k4q53 => k_is); (case k5q53 => k_is); (case k6q53 => k_is))))
  (k_with "getItem ref str" => (k_dflt ((with_reducible show wpAny _ _ (getItem (Value.ref _) (Value.str _ _)) _ _ _); (refine' kdt_getItem (knd := PySem.strKind _ _) ?k1q54 ?k2q54 ?k3q54 (strKind_is _ _ _ _) ?k4q54 ?_; (case k1q54 => k_asm); (case k2q54 => k_mem); (case k3q54 => k_asm); (case k4q54 => k_extra "m_dat")))))
  (k_with "subscriptTail Name Slice ref ref" => (k_extra "m_slice"))
  (k_with "subscriptTail Attribute Slice ref ref" => (k_extra "m_slice"))
  (k_with "subscriptTail" => (k_dflt ((with_reducible show wpAny _ _ (subscriptTail _ _ (Value.ref _) (Value.int _ _)) _ _ _); (refine' r_itemL ?k1q57 ?k3q57 ?k4q57 ?k2q57 ?_ ?k6q57; (case k1q57 => k_extra "m_list"); (case k2q57 => exact rfl); (case k3q57 => decide); (case k4q57 => decide); (case k6q57 => exact rfl)))))
  trivial
section SB
theorem In.kp0 {S : List Addr} {K : Frag} {p : Program} {loose : List Str} {mg mb : Str → Option Value} {hb h g h₁ h' : Heap} {L L' : Addr} {m : Str → Option Value} (I : In K p loose mg mb S hb h g L h₁) (F : Fr g L' h' m) (hS : ∀ a ∈ S, ∀ o, h.get? a = some o → h'.get? a = some o) : Kp [] h h' := fun b o _ e => by
  by_cases hm : b ∈ S
  · exact hS b hm o e
  · exact I.kp F b o hm e
noncomputable def JRight (sl td : Addr) (ss : List Str) (news₀ : List (Addr × Obj)) (n : Nat) (m : Str → Option Value) (news : List (Addr × Obj)) : Prop :=
  ∃ k u, news = news₀ ∧ m "i" = some (.int k u) ∧ m "symbols" = some (.ref sl) ∧ m "terminals" = some (.ref td) ∧ -1 ≤ k ∧ k < ss.length ∧ n = (k + 1).toNat
theorem t_right {prog : Program} {w : World} {dp un : Nat} {fr : Option (List Env)} {gd : Option (List Code)} {s : Shared} {hb : Heap} {mg mb : Str → Option Value} {p : Program} {loose : List Str} {R : Result → Shared → Prop}
  (X : (hd.heap_1 w.params).In hb) (T : TopRead p loose mg mb hb) (hs : hb.StaysIn s.heap) (hroom : dp + 5 < recursionLimit) (hu : un + 100 < cLine)
  {sl td : Addr} {ws : List Value} {ss : List Str} {n : Nat} {ot : Obj} {kvs : List (Str × Value)} (hsl : s.heap.get? sl = some (W.listOf ws.toArray n)) (hS : StrsAre ws ss) (h3 : ss.length ≤ 3)
  (htd : s.heap.get? td = some ot) (hot : ot.IsDictOf (strKind prog w) kvs) (hmo : (td == sysModules) = false)
  (hsl0 : hb.get? sl = none) (htd0 : hb.get? td = none)
  (post : ∀ v h' tk, Kp [] s.heap h' → (v = .none ∨ ∃ x t, v = .str x t) → R (.ok (.ret v)) { s with heap := h', toks := tk }) :
  codeAny (model prog w) ⟨none, dp, fr, gd, un⟩ (.call (.ref 111) ⟨[.ref sl, .ref td], []⟩) R s := by
  refine' enterH [sl, td] [("symbols", .ref sl), ("terminals", .ref td)] X T hs ?_ ?ho ?hcd (by show dp < _; omega) ?hb ?hl ?h ?hc ?h1 ?h2 ?h3
  walk_at "m_enter"
  · intro a ha; simp only [List.mem_cons, List.not_mem_nil, or_false] at ha; rcases ha with rfl | rfl <;> assumption
  intro g L h₁ tk F I
  refine letS ?_
  intro SH A1 en Q1
  have hA1 : A1.depth = dp + 1 := rfl
  have hA2 : A1.units = un + 3 := rfl
  have X := I.X
  have T := I.T
  have N := I.put hsl (.head _) (I.put htd (.tail _ (.head _)) News.nil)
  have hw3 : ws.length ≤ 3 := by rw [hS.length]; exact h3
  have fin : ∀ h' tk v m, Fr g L h' m → News g L h' [(sl, W.listOf ws.toArray n), (td, ot)] → (v = .none ∨ ∃ x t, v = .str x t) → R (.ok (.ret v)) { s with heap := h', toks := tk } := fun h' tk v m F N hv =>
    post v h' tk (I.kp0 F (by
      intro a ha o e
      simp only [List.mem_cons, List.not_mem_nil, or_false] at ha
      rcases ha with rfl | rfl
      · rw [hsl] at e; cases e; exact (N _ (.head _)).1
      · rw [htd] at e; cases e; exact (N _ (.tail _ (.head _))).1)) hv
  have hlen := hS.length
  (try ((with_reducible show wpAny _ _ _ _ _ _); k_fold)); k_steps
  rename Fr _ _ _ _ => F
  rename News _ _ _ _ => N
  refine unhalt ?_
  refine' While_inv2 (n₀ := ss.length) (JRight sl td ss [(sl, W.listOf ws.toArray n), (td, ot)]) ?kF ?kN ?kJ ?_ ?kE
  case kF => exact F
  case kN => exact N
  case kJ => exact ⟨_, _, rfl, rfl, rfl, rfl, by omega, by omega, by omega⟩
  case kE => exact PassesOwn.never
  rintro n m₁ news₁ h₁ tk₁ F N ⟨k, u, rfl, hm1, hm2, hm3, hk1, hk2, rfl⟩
  have F := Fr_say F (x := "symbols") hm2
  have F := Fr_say F (x := "terminals") ((if_neg (by decide)).trans hm3)
  have F := Fr_say F (x := "i") ((if_neg (by decide)).trans ((if_neg (by decide)).trans hm1))
  have h16 : ss.length ≤ 16384 := by omega
  (try ((with_reducible show wpAny _ _ _ _ _ _); k_fold)); k_steps
  · exact fin _ _ _ _ (by assumption) (by assumption) (.inr ⟨_, _, rfl⟩)
  · rename Fr _ _ _ _ => F
    rename News _ _ _ _ => N
    refine ⟨_, _, _, _, k.toNat, rfl, F, N, ?_, _, _, rfl, rfl, rfl, rfl, ?_, ?_, ?_⟩ <;> omega
  · exact fin _ _ _ _ (by assumption) (by assumption) (.inl rfl)
inductive RowIn (led : List (Addr × Obj)) (v : Value) (r : Str × List Str) : Prop
  | mk (a b t n1 n2 ws) (h1 : v = .ref a) (h2 : (a, tupOf [.str r.1 t, .ref b] n1) ∈ led) (h3 : (b, tupOf ws n2) ∈ led) (h4 : StrsAre ws r.2) : RowIn led v r
inductive RowsIn (led : List (Addr × Obj)) : List Value → List (Str × List Str) → Prop
  | nil : RowsIn led [] []
  | cons {v vs r rs} : RowIn led v r → RowsIn led vs rs → RowsIn led (v :: vs) (r :: rs)

theorem RowIn.mono {led led' : List (Addr × Obj)} {v : Value} {r : Str × List Str} (h : RowIn led v r) (hs : ∀ p ∈ led, p ∈ led') : RowIn led' v r :=
  let ⟨a, b, t, n1, n2, ws, e, h1, h2, h3⟩ := h; ⟨a, b, t, n1, n2, ws, e, hs _ h1, hs _ h2, h3⟩
theorem RowsIn.mono {led led' : List (Addr × Obj)} {vs : List Value} {rs : List (Str × List Str)} (h : RowsIn led vs rs) (hs : ∀ p ∈ led, p ∈ led') : RowsIn led' vs rs := by
  induction h with
  | nil => exact .nil
  | cons a _ ih => exact .cons (a.mono hs) ih
theorem RowsIn.snoc {led : List (Addr × Obj)} {v : Value} {r : Str × List Str} {vs : List Value} {rs : List (Str × List Str)} (h : RowsIn led vs rs) (hr : RowIn led v r) : RowsIn led (vs ++ [v]) (rs ++ [r]) := by
  induction h with
  | nil => exact .cons hr .nil
  | cons a _ ih => exact .cons a ih
theorem RowsIn.length {led : List (Addr × Obj)} {vs : List Value} {rs : List (Str × List Str)} (h : RowsIn led vs rs) : vs.length = rs.length := by
  induction h with
  | nil => rfl
  | cons _ _ ih => exact congrArg (· + 1) ih

inductive JFor (L rl tape : Addr) (oc : Obj) (t7 : Tok) (i : Nat) (m : Str → Option Value) (news ext : List (Addr × Obj)) : Prop
  | mk (trs rules k tvs tns k2) (h1 : news = [(rl, W.listOf (trs : List Value).toArray k), (tape, W.listOf (tvs : List Value).toArray k2)]) (h2 : (L + 1, oc) ∈ ext) (h3 : IntsAre tvs tns) (h4 : tns.length ≤ 28) (h5 : RowsIn ext trs rules) (h6 : (∀ r ∈ rules, RuleOk r)) (h7 : rules.map (·.1) = sNAMES.take i) (h8 : m "rules" = some (.ref rl)) (h9 : m "most" = some (.int 7 t7)) : JFor L rl tape oc t7 i m news ext

theorem names_at {t1 t2 t3 : Tok} {i : Nat} {v : Value} (h : (#[Value.str "S" t1, Value.str "A" t2, Value.str "B" t3] : Array Value)[i]? = some v) :
    ∃ nm tn, v = .str nm tn ∧ sNAMES.take (i + 1) = sNAMES.take i ++ [nm] ∧ nm ∈ sNAMES := by
  match i, h with
  | 0, h => cases h; exact ⟨_, _, rfl, rfl, by decide⟩
  | 1, h => cases h; exact ⟨_, _, rfl, rfl, by decide⟩
  | 2, h => cases h; exact ⟨_, _, rfl, rfl, by decide⟩
  | n + 3, h => simp at h

inductive JComp (tape : Addr) (N : Nat) (i : Nat) (ys : List Value) (mt : List (Addr × Obj)) : Prop
  | mk (tvs tns k ss) (h1 : mt = [(tape, W.listOf (tvs : List Value).toArray k)]) (h2 : IntsAre tvs tns) (h3 : tns.length ≤ N) (h4 : StrsAre ys ss) (h5 : ∀ s ∈ ss, s ∈ sSYMS) : JComp tape N i ys mt

theorem sym_item {prog : Program} {w : World} {A : Around} {E : Value → Shared → Prop} {s : Shared} {g : Heap} {C : Addr} {m : Str → Option Value} {value slice : Expr} {k : Int} {u : Tok} {Q : Value → Shared → Prop}
    (X : (hd.heap_1 w.params).In g) (F : Fr g C s.heap m) (h0 : 0 ≤ k) (h1 : k < 6) (h : ∀ x t, x ∈ sSYMS → Q (.str x t) s)
    (hs : ∀ k : Int, subscripted slice false (.ref 260) (.int k u) = operate [.ref 260, .int k u] (getItem (.ref 260) (.int k u))) :
    wpAny (model prog w) A (subscriptTail value slice (.ref 260) (.int k u)) Q E s := by
  have : k = 0 ∨ k = 1 ∨ k = 2 ∨ k = 3 ∨ k = 4 ∨ k = 5 := by omega
  rcases this with rfl | rfl | rfl | rfl | rfl | rfl
  · exact topList_K F X (by k_is) (by decide) (by decide) rfl (h _ _ (by decide)) (hs _)
  · exact topList_K F X (by k_is) (by decide) (by decide) rfl (h _ _ (by decide)) (hs _)
  · exact topList_K F X (by k_is) (by decide) (by decide) rfl (h _ _ (by decide)) (hs _)
  · exact topList_K F X (by k_is) (by decide) (by decide) rfl (h _ _ (by decide)) (hs _)
  · exact topList_K F X (by k_is) (by decide) (by decide) rfl (h _ _ (by decide)) (hs _)
  · exact topList_K F X (by k_is) (by decide) (by decide) rfl (h _ _ (by decide)) (hs _)

theorem reg_MRules : True := by
  (k_with "subscriptTail" => (k_dflt ((with_reducible show wpAny _ _ (subscriptTail _ _ (Value.ref 260) (Value.int _ _)) _ _ _); (refine' sym_item ?Xq58 ?Fq58 ?aq58 ?bq58 ?_ ?cq58; (case Xq58 => k_asm); (case Fq58 => k_asm); (case aq58 => exact fmod_lo _ (by decide)); (case bq58 => exact fmod_hi _ (by decide)); (case cq58 => intro _; exact rfl)); intro _ _ _)))
  (k_with "subscriptTail" => (k_dflt ((with_reducible show wpAny _ _ (subscriptTail _ _ (Value.ref _) (Value.int (Int.fmod _ 3) _)) _ _ _); (refine' name_item ?nmFq59 ?aq59 ?bq59 ?_ ?cq59; (case nmFq59 => exact News.get (by k_asm) (by k_mem)); (case aq59 => exact fmod_lo _ (by decide)); (case bq59 => exact fmod_hi _ (by decide)); (case cq59 => intro _; exact rfl)); intro _ _ _)))
  trivial

noncomputable def rowDat (r : Str × List Str) : Dat := .tuple [.str r.1, .tuple (r.2.map .str)]
theorem strs_dat {led : List (Addr × Obj)} : ∀ {ws : List Value} {ss : List Str}, StrsAre ws ss → DatAll led ws (ss.map .str)
  | _, _, .nil => .nil
  | _, _, .cons x t h => .cons (.str x t) (strs_dat h)
theorem RowIn.dat {led : List (Addr × Obj)} {v : Value} {r : Str × List Str} (h : RowIn led v r) : DatIn led v (rowDat r) := by
  obtain ⟨a, b, t, n1, n2, ws, rfl, h1, h2, h3⟩ := h
  exact .tuple h1 (.cons (.str _ t) (.cons (.tuple h2 (strs_dat h3)) .nil))
theorem RowsIn.dat {led : List (Addr × Obj)} : ∀ {vs : List Value} {rs : List (Str × List Str)}, RowsIn led vs rs → DatAll led vs (rs.map rowDat)
  | _, _, .nil => .nil
  | _, _, .cons a b => .cons a.dat b.dat
theorem strOk_syms : ∀ s ∈ sSYMS, PyData.strOk s = true := by decide +kernel
theorem strOk_names : ∀ s ∈ sNAMES, PyData.strOk s = true := by decide +kernel
theorem rowDat_ok {r : Str × List Str} (h : RuleOk r) : kqdOk 8 (rowDat r) = true := by
  show ([Dat.str r.1, Dat.tuple (r.2.map .str)]).all (kqdOk 7) = true
  rw [List.all_cons, List.all_cons, List.all_nil, Bool.and_true, Bool.and_eq_true]
  refine ⟨strOk_names _ h.1, ?_⟩
  show (r.2.map Dat.str).all (kqdOk 6) = true
  rw [List.all_map, List.all_eq_true]
  exact fun s hs => strOk_syms _ (h.2.2 s hs)

theorem name_item {prog : Program} {w : World} {A : Around} {E : Value → Shared → Prop} {s : Shared} {r : Addr} {value slice : Expr} {k : Int} {u t1 t2 t3 : Tok} {Q : Value → Shared → Prop}
    (hl : s.heap.get? r = some (W.listOf #[.str "S" t1, .str "A" t2, .str "B" t3] 0)) (h0 : 0 ≤ k) (h1 : k < 3) (h : ∀ x t, x ∈ sNAMES → Q (.str x t) s)
    (hs : ∀ k : Int, subscripted slice false (.ref r) (.int k u) = operate [.ref r, .int k u] (getItem (.ref r) (.int k u))) :
    wpAny (model prog w) A (subscriptTail value slice (.ref r) (.int k u)) Q E s := by
  have hL : s.heap.IsList r #[.str "S" t1, .str "A" t2, .str "B" t3] := ⟨_, hl, rfl, 0, rfl⟩
  have : k = 0 ∨ k = 1 ∨ k = 2 := by omega
  rcases this with rfl | rfl | rfl
  · exact tail_any hL.typeIs slot_list_getitem.lookup (wpAny_getItem_list hL (by decide) (by decide) rfl (h _ _ (by decide))) (hs _)
  · exact tail_any hL.typeIs slot_list_getitem.lookup (wpAny_getItem_list hL (by decide) (by decide) rfl (h _ _ (by decide))) (hs _)
  · exact tail_any hL.typeIs slot_list_getitem.lookup (wpAny_getItem_list hL (by decide) (by decide) rfl (h _ _ (by decide))) (hs _)

inductive JWhile (L rl tape : Addr) (oc : Obj) (t7 : Tok) (n : Nat) (m : Str → Option Value) (news : List (Addr × Obj)) : Prop
  | mk (trs rules k tvs tns k2 ext) (h1 : news = (rl, W.listOf (trs : List Value).toArray k) :: (tape, W.listOf (tvs : List Value).toArray k2) :: (L + 1, oc) :: ext) (h2 : OwnOff ext [rl, tape]) (h3 : IntsAre tvs tns) (h4 : tns.length ≤ 28) (h5 : tns.length = n) (h6 : RowsIn ext trs rules) (h7 : (∀ r ∈ rules, RuleOk r)) (h8 : (rules.map (·.1)).take 3 = sNAMES) (h9 : rules.length ≤ 7) (h10 : rules.Nodup) (h11 : m "rules" = some (.ref rl)) (h12 : m "most" = some (.int 7 t7)) : JWhile L rl tape oc t7 n m news

structure GoodRules (rules : List (Str × List Str)) : Prop where
  ok : ∀ r ∈ rules, RuleOk r
  names : (rules.map (·.1)).take 3 = sNAMES
  len : rules.length ≤ 7
  nodup : rules.Nodup

theorem t_rules {prog : Program} {w : World} {A : Around} {s : Shared} {hb : Heap} {mg mb : Str → Option Value} {p : Program} {loose : List Str} {R : Result → Shared → Prop}
  (X : (hd.heap_1 w.params).In hb) (T : TopRead p loose mg mb hb) (hs : hb.StaysIn s.heap) (hroom : A.depth + 5 < recursionLimit) (hh : A.handled = none) (hu : A.units + 100 < cLine)
  {tape : Addr} {vs : List Value} {ns : List Int} {n : Nat} {t7 : Tok} (ht : s.heap.get? tape = some (W.listOf vs.toArray n)) (hI : IntsAre vs ns) (h0 : hb.get? tape = none) (hlen : ns.length ≤ 28)
  (post : ∀ r h' tk ws n' rules ext, Kp [tape] s.heap h' → s.heap.get? r = none → h'.get? r = some (W.listOf (ws : List Value).toArray n') → RowsIn ext ws rules → (∀ p ∈ ext, h'.get? p.1 = some p.2 ∧ s.heap.get? p.1 = none ∧ p.1 ≠ r) → GoodRules rules →
    R (.ok (.ret (.ref r))) { s with heap := h', toks := tk }) :
  codeAny (model prog w) A (.call (.ref 272) ⟨[.ref tape, .int 7 t7], []⟩) R s := by
  refine' enterC [tape] [("tape", .ref tape), ("most", .int 7 t7)] X T hs ?_ ?ho ?hcd (by omega) ?hb ?hl ?hn ?h ?h1 ?h2 ?h3
  walk_at "m_enterC"
  · intro a ha; cases List.mem_singleton.mp ha; exact h0
  intro g L h₁ tk cells F N Y I
  refine letS ?_
  intro SH A1 en Q1
  have hA1 : A1.depth = A.depth + 1 := rfl
  have hA2 : A1.units = A.units + 3 := rfl
  have X := I.X
  have T := I.T
  k_cells Y
  have htL : @LT.lt Nat _ tape L := I.loc ▸ Heap.lt_size ht
  have N := I.put ht (.head _) N
  (try ((with_reducible show wpAny _ _ _ _ _ _); k_fold)); k_steps
  rename_i oc hoc rl hp1 l1 _ hp2 F' N' _
  replace hoc : oc.data = .cell (some (.ref tape)) := hoc
  refine wpAny_call (t_names X T F'.keep (by (try simp only [Around.deeper]); omega) fun r h' tk t1 t2 t3 k hr e => ?_)
  obtain ⟨F2, N2, ne⟩ := grow_kp F' N' k hr e
  simp only [List.forall_mem_cons] at ne
  dsimp only
  have N3 := News_sub (news' := [(rl, W.listOf #[] 0), (tape, W.listOf vs.toArray n)] ++ [(L + 1, oc)]) N2 (fun p hp => .tail _ hp)
  refine iter_list (m := _) (JFor L rl tape oc t7) hh ⟨_, e, rfl, 0, rfl⟩ ?_ F2 ?_ N3 ?_ rfl rfl ?_ ?_ ?_
  · simp only [List.map_cons, List.map_nil, List.mem_cons, List.not_mem_nil, or_false, not_or]; exact ⟨Ne.symm ne.1, Ne.symm ne.2.1⟩
  · intro q
    obtain ⟨oL, _, _, hL, _⟩ := F'.ns
    rw [show r = L from q] at hr
    rw [show Heap.get? _ L = none from hr] at hL
    cases hL
  · show OwnOff _ [rl, tape]
    walk_at "m_off"
  · exact ⟨[], [], _, vs, ns, _, rfl, .head _, hI, hlen, .nil, (fun _ q => nomatch q), rfl, rfl, rfl⟩
  · rintro ext own i v m₁ news₁ h tk hv ⟨trs, rules, k, tvs, tns, k2, rfl, hcell, hI, hlen, hrows, hok, hnm, hm1, hm2⟩ ha hoff F N
    have F := Fr_say F (x := "rules") ((if_neg (by decide)).trans hm1)
    have F := Fr_say F (x := "most") ((if_neg (by decide)).trans ((if_neg (by decide)).trans hm2))
    have N := News_sub (news' := (rl, W.listOf trs.toArray k) :: (tape, W.listOf tvs.toArray k2) :: (L + 1, oc) :: (ext ++ own)) N (by walk_at "m_sub")
    replace hoff : OwnOff (ext ++ own) [rl, tape] := hoff
    have hz : trs.toArray.size ≤ sizeLine := by
      have e1 := hrows.length
      have e2 := congrArg List.length hnm
      have e3 := List.length_take_le' i sNAMES
      rw [List.length_map] at e2
      have e4 : sNAMES.length = 3 := rfl
      rw [List.size_toArray, sizeLine_eq]; omega
    have hN : tns.tail.length ≤ 28 := by rw [List.length_tail]; omega
    (try ((with_reducible show wpAny _ _ _ _ _ _); k_fold)); k_steps
    refine use_next F N X T (by (try simp only [Around.deeper]); omega) (by k_updF) hI hlen fun h' tk' t' tvs2 k3 hI2 F N => ?_
    try dsimp only at N
    (try ((with_reducible show wpAny _ _ _ _ _ _); k_fold)); k_steps
    rename Fr _ _ _ _ => F
    rename News _ _ _ _ => N
    refine unhalt ?_
    refine ListComp_R (cl := [("tape", L + 1)]) g (JComp tape tns.tail.length) ?hclos ?hcell ?hkind ?hnames ?hx ?hs hh ?_
    case hclos => with_unfolding_all rfl
    case hcell => decide
    case hkind => rfl
    case hnames => decide
    case hx => rfl
    case hs => exact fun _ => rfl
    (try ((with_reducible show wpAny _ _ _ _ _ _); k_fold)); k_steps
    rename Fr _ _ _ _ => F
    rename News _ _ _ _ => N
    rename IsRange _ _ _ _ _ _ _ _ => hr
    refine unhalt ?_
    refine ⟨_, _, _, _, _, _, [(tape, W.listOf tvs2.toArray k3)], (rl, W.listOf trs.toArray k) :: (L + 1, oc) :: (ext ++ own), rfl, hr, fmod_lo _ (by decide), Int.le_of_lt (Int.lt_of_lt_of_le (fmod_hi _ (by decide)) (by decide)), F, News_sub N (by walk_at "m_sub"), (by (show OwnOff _ [tape]); walk_at "m_off"),
      ⟨tvs2, _, _, [], rfl, hI2, Nat.le_refl _, .nil, fun _ q => nomatch q⟩, ?_, ?_⟩
    · rintro C j v2 ys mt1 own2 h tk m3 hj ⟨tvs, tns, kk, ss, rfl, hI, hlen, hss, hsy⟩ hyl hma ho hbel F N
      have N := News_sub (news' := (tape, W.listOf tvs.toArray kk) :: (rl, W.listOf trs.toArray k) :: (L + 1, oc) :: ((ext ++ own) ++ own2)) N (by walk_at "m_sub")
      (try ((with_reducible show wpAny _ _ _ _ _ _); k_fold)); k_steps
      replace ho : OwnOff own2 [tape] := ho
      rename Fr _ _ _ _ => F
      rename News _ _ _ _ => N
      refine use_next F N X T (by (try simp only [Around.deeper]); omega) (by k_updF) hI (by omega) fun h' tk' t' tvs3 k3 hI3 F N => ?_
      try dsimp only at N
      (try ((with_reducible show wpAny _ _ _ _ _ _); k_fold)); k_steps
      rename Fr _ _ _ _ => F
      rename News _ _ _ _ => N
      rename _ ∈ sSYMS => hx'
      exact unhalt ⟨_, _, _, [(tape, W.listOf tvs3.toArray k3)], rfl, F, News_sub N (by walk_at "m_sub"), rfl, tvs3, _, _, ss ++ [_], rfl, hI3, (by rw [List.length_tail]; omega), hss.append' (.cons _ _ .nil), fun x hx => (List.mem_append.mp hx).elim (hsy x) fun h => (List.mem_singleton.mp h) ▸ hx'⟩
    · rintro D h' tk ys nD mt1 hyl ⟨tvs3, tns3, k4, ss, rfl, hI3, hlen3, hss, hsy⟩ hma F N hne
      replace F : Fr g L h' _ := F
      replace N : News g L h' ((D, W.listOf ys.toArray nD) :: (tape, W.listOf tvs3.toArray k4) :: (rl, W.listOf trs.toArray k) :: (L + 1, oc) :: (ext ++ own)) := N
      simp only [List.cons_append, List.nil_append, List.forall_mem_cons] at hne
      obtain ⟨ne1, ne2, ne3, ne4⟩ := hne
      have hz2 : ys.toArray.size ≤ 16384 := by
        clear ne1 ne2 ne3 ne4
        have := fmod_hi (tns.headD 0) (n := 4) (by decide)
        rw [List.size_toArray, hyl]; omega
      (try ((with_reducible show wpAny _ _ _ _ _ _); k_fold)); k_steps
      rename_i T1 hp3 l3 _ T2 hp4 l4 _ hp5 F' N' _
      rw [List.push_toArray] at N'
      refine StepJ.next (StepEnd.more [(rl, W.listOf (trs ++ [Value.ref T2]).toArray (k + 1)), (tape, W.listOf tvs3.toArray k4)] [(T2, tupOf [v, Value.ref T1] 0), (T1, tupOf ys 0)] F' N' ?_ rfl ?_ ?_)
      · walk_at "m_sub"
      · exact nw_cons (lts_cons l4.2.2.2.1 (lts_cons l4.2.2.1 lts_nil)) (allLt_ne' l4.2.2.2.2.2) (nw_cons (lts_cons l3.2.2.1 (lts_cons l3.2.1 lts_nil)) (allLt_ne' l3.2.2.2.2) nw_nil)
      · obtain ⟨nm, tn, rfl, hnm1, hnm2⟩ := names_at hv
        refine ⟨_, rules ++ [(nm, ss)], _, _, _, _, rfl, .tail _ (.tail _ hcell), hI3, Nat.le_trans hlen3 hN, ((hrows.mono (by walk_at "m_sub")).snoc ⟨T2, T1, tn, 0, 0, ys, rfl, .head _, .tail _ (.head _), hss⟩), ?_, ?_, rfl, rfl⟩
        · intro r hr
          rcases List.mem_append.mp hr with hr | hr
          · exact hok r hr
          · rw [List.mem_singleton.mp hr]
            refine ⟨hnm2, ?_, hsy⟩
            clear ne1 ne2 ne3 ne4
            have := hss.length
            have := fmod_hi (tns.headD 0) (n := 4) (by decide)
            show ss.length ≤ 3
            omega
        · rw [List.map_append, hnm, hnm1]; rfl
  · rintro h tk m₁ news₁ ext ⟨trs, rules, k, tvs, tns, k2, rfl, hcell, hI, hlen, hrows, hok, hnm, hm1, hm2⟩ ha hoff F N
    (try ((with_reducible show wpAny _ _ _ _ _ _); k_fold)); k_steps
    refine unhalt ?_
    replace hoff : OwnOff ext [rl, tape] := hoff
    refine' While_inv2 (n₀ := tns.length) (JWhile L rl tape oc t7) ?kF ?kN ?kJ ?_ ?kE
    case kF => exact F
    case kN => exact News_sub N (news' := (rl, W.listOf trs.toArray k) :: (tape, W.listOf tvs.toArray k2) :: (L + 1, oc) :: ext) (by walk_at "m_sub")
    case kE => exact PassesOwn.never
    case kJ =>
      have hnm' : rules.map (·.1) = sNAMES := hnm
      have e2 := congrArg List.length hnm'
      rw [List.length_map] at e2
      have e4 : sNAMES.length = 3 := rfl
      refine ⟨trs, rules, k, tvs, tns, k2, ext, rfl, hoff, hI, hlen, rfl, hrows, hok, ?_, by omega, ?_, hm1, hm2⟩
      · rw [hnm']; rfl
      · refine List.Pairwise.of_map (S := (· ≠ ·)) (·.1) (fun a b q e => q (by rw [e])) ?_
        rw [hnm']
        exact (by decide : sNAMES.Nodup)
    rintro n m₁ news₁ h tk F N ⟨trs, rules, k, tvs, tns, k2, ext, rfl, hoff, hI, hlen, hn, hrows, hok, hnm, h7, hnd, hm1, hm2⟩
    have F := Fr_say F (x := "rules") hm1
    have F := Fr_say F (x := "most") ((if_neg (by decide)).trans hm2)
    have hlz : (trs.length : Int) < 2 ^ 63 := by rw [hrows.length]; omega
    have fin : ∀ h tk m, Fr g L h m → News g L h ((rl, W.listOf trs.toArray k) :: (tape, W.listOf tvs.toArray k2) :: (L + 1, oc) :: ext) → R (.ok (.ret (.ref rl))) { s with heap := h, toks := tk } := fun h tk m F N =>
      post rl h tk trs k rules ext (I.kp F) (I.new N (.head _) (fun q => Nat.ne_of_gt l1.1 (List.mem_singleton.mp q))) (N _ (.head _)).1 hrows
        (fun p hp => ⟨(N p (.tail _ (.tail _ (.tail _ hp)))).1, I.new N (.tail _ (.tail _ (.tail _ hp))) (fun q => hoff p hp tape (.tail _ (.head _)) (List.mem_singleton.mp q)), hoff p hp rl (.head _)⟩) ⟨hok, hnm, h7, hnd⟩
    (try ((with_reducible show wpAny _ _ _ _ _ _); k_fold)); k_steps
    rotate_left
    · rename Fr _ _ _ _ => F
      rename News _ _ _ _ => N
      exact fin _ _ _ F N
    · rename Fr _ _ _ _ => F
      rename News _ _ _ _ => N
      exact fin _ _ _ F N
    rename Fr _ _ _ _ => F
    rename News _ _ _ _ => N
    refine wpAny_call (t_names X T F.keep (by (try simp only [Around.deeper]); omega) fun r h' tk' t1 t2 t3 kk hr e => ?_)
    obtain ⟨F, N, ne⟩ := grow_kp F N kk hr e
    simp only [List.forall_mem_cons] at ne
    obtain ⟨ne1, ne2, ne3, ne4⟩ := ne
    (try ((with_reducible show wpAny _ _ _ _ _ _); k_fold)); k_steps
    rename Fr _ _ _ _ => F
    rename News _ _ _ _ => N
    refine use_next F N X T (by (try simp only [Around.deeper]); omega) (by k_updF) hI hlen fun h' tk' t' tvs2 k3 hI2 F N => ?_
    try dsimp only at N
    have hN : tns.tail.length ≤ 28 := by rw [List.length_tail]; omega
    have hN2 : tns.tail.tail.length ≤ 28 := by rw [List.length_tail]; omega
    (try ((with_reducible show wpAny _ _ _ _ _ _); k_fold)); k_steps
    rename_i nm tnm hnmem _ _ _ _
    rename Fr _ _ _ _ => F
    rename News _ _ _ _ => N
    refine use_next F N X T (by (try simp only [Around.deeper]); omega) (by k_updF) hI2 hN fun h' tk' t' tvs3 k4 hI3 F N => ?_
    try dsimp only at N
    (try ((with_reducible show wpAny _ _ _ _ _ _); k_fold)); k_steps
    rename Fr _ _ _ _ => F
    rename News _ _ _ _ => N
    refine unhalt ?_
    refine ListComp_R (cl := [("tape", L + 1)]) g (JComp tape tns.tail.tail.length) ?hclos ?hcell ?hkind ?hnames ?hx ?hs hh ?_
    case hclos => with_unfolding_all rfl
    case hcell => decide
    case hkind => rfl
    case hnames => decide
    case hx => rfl
    case hs => exact fun _ => rfl
    (try ((with_reducible show wpAny _ _ _ _ _ _); k_fold)); k_steps
    rename Fr _ _ _ _ => F
    rename News _ _ _ _ => N
    rename IsRange _ _ _ _ _ _ _ _ => hr
    refine unhalt ?_
    refine ⟨_, _, _, _, _, _, [(tape, W.listOf tvs3.toArray k4)], (r, _) :: (rl, W.listOf trs.toArray k) :: (L + 1, oc) :: ext, rfl, hr, fmod_lo _ (by decide), Int.le_of_lt (Int.lt_of_lt_of_le (fmod_hi _ (by decide)) (by decide)), F, News_sub N (by walk_at "m_sub"), (by (show OwnOff _ [tape]); walk_at "m_off"),
      ⟨tvs3, _, _, [], rfl, hI3, Nat.le_refl _, .nil, fun _ q => nomatch q⟩, ?_, ?_⟩
    · rintro C j v2 ys mt1 own2 h tk m3 hj ⟨tvs, tns, kk, ss, rfl, hI, hlen, hss, hsy⟩ hyl hma ho hbel F N
      have N := News_sub (news' := (tape, W.listOf tvs.toArray kk) :: (L + 1, oc) :: ((r, _) :: (rl, W.listOf trs.toArray k) :: (ext ++ own2))) N (by walk_at "m_sub")
      (try ((with_reducible show wpAny _ _ _ _ _ _); k_fold)); k_steps
      replace ho : OwnOff own2 [tape] := ho
      rename Fr _ _ _ _ => F
      rename News _ _ _ _ => N
      refine use_next F N X T (by (try simp only [Around.deeper]); omega) (by k_updF) hI (by omega) fun h' tk' t' tvs3 k3 hI3 F N => ?_
      try dsimp only at N
      (try ((with_reducible show wpAny _ _ _ _ _ _); k_fold)); k_steps
      rename Fr _ _ _ _ => F
      rename News _ _ _ _ => N
      rename _ ∈ sSYMS => hx'
      exact unhalt ⟨_, _, _, [(tape, W.listOf tvs3.toArray k3)], rfl, F, News_sub N (by walk_at "m_sub"), rfl, tvs3, _, _, ss ++ [_], rfl, hI3, (by rw [List.length_tail]; omega), hss.append' (.cons _ _ .nil), fun x hx => (List.mem_append.mp hx).elim (hsy x) fun h => (List.mem_singleton.mp h) ▸ hx'⟩
    · rintro D h' tk ys nD mt1 hyl ⟨tvs3, tns3, k4, ss, rfl, hI3, hlen3, hss, hsy⟩ hma F N hne
      replace F : Fr g L h' _ := F
      replace N : News g L h' ((D, W.listOf ys.toArray nD) :: (tape, W.listOf tvs3.toArray k4) :: (r, _) :: (rl, W.listOf trs.toArray k) :: (L + 1, oc) :: ext) := N
      simp only [List.cons_append, List.nil_append, List.forall_mem_cons] at hne
      obtain ⟨ne1, ne2, ne3, ne4⟩ := hne
      have hz2 : ys.toArray.size ≤ 16384 := by
        clear ne1 ne2 ne3 ne4
        have := fmod_hi (tns.tail.headD 0) (n := 4) (by decide)
        rw [List.size_toArray, hyl]; omega
      (try ((with_reducible show wpAny _ _ _ _ _ _); k_fold)); k_steps
      rename_i T1 hp3 l3 _ T2 hp4 l4 _ hp5 F N _
      have hrow : RowIn [(T2, tupOf [Value.str nm tnm, Value.ref T1] 0), (T1, tupOf ys 0)] (Value.ref T2) (nm, ss) := ⟨T2, T1, _, 0, 0, ys, rfl, .head _, .tail _ (.head _), hss⟩
      have hrok : RuleOk (nm, ss) := by
        refine ⟨hnmem, ?_, hsy⟩
        clear ne1 ne2 ne3 ne4
        have := hss.length
        have := fmod_hi (tns.tail.headD 0) (n := 4) (by decide)
        show ss.length ≤ 3
        omega
      refine unhalt ?_
      refine' kqd_notIn (n₁ := ext) ?qN ?qma ?qca ?qda ?qDa ?qsa ?qDx ?qsx ?qha ?qhd ?qhu ?_
      case qN => exact N
      case qma => k_mem
      case qca => exact rfl
      case qda => exact rfl
      case qDa => exact hrows.dat
      case qsa => walk_at "m_sub"
      case qDx => exact hrow.dat
      case qsx => walk_at "m_sub"
      case qha =>
        intro d hd
        obtain ⟨r, hr, rfl⟩ := List.mem_map.mp hd
        exact rowDat_ok (hok r hr)
      case qhd => exact rowDat_ok hrok
      case qhu => (try simp only [Around.deeper]); omega
      have hlt : tns3.length < n := by
        clear ne1 ne2 ne3 ne4
        rw [List.length_tail, List.length_tail] at hlen3
        omega
      have h28 : tns3.length ≤ 28 := by omega
      have e7 := hrows.length
      (try ((with_reducible show wpAny _ _ _ _ _ _); k_fold)); k_steps
      · rename Fr _ _ _ _ => F
        rename News _ _ _ _ => N
        exact ⟨_, _, _, (rl, W.listOf trs.toArray k) :: (tape, W.listOf tvs3.toArray k4) :: (L + 1, oc) :: ext, tns3.length, rfl, F, News_sub N (by walk_at "m_sub"), hlt, trs, rules, k, tvs3, tns3, k4, ext, rfl, hoff, hI3, h28, rfl, hrows, hok, hnm, h7, hnd, rfl, rfl⟩
      · rename Fr _ _ _ _ => F
        rename News _ _ _ _ => N
        rename decide (rowDat _ ∈ _) = _ => hd
        rename (trs.length : Int) < 7 => hl7
        rw [List.push_toArray] at N
        refine ⟨_, _, _, (rl, W.listOf (trs ++ [Value.ref T2]).toArray (k + 1)) :: (tape, W.listOf tvs3.toArray k4) :: (L + 1, oc) :: ((T2, tupOf [Value.str nm tnm, Value.ref T1] 0) :: (T1, tupOf ys 0) :: ext), tns3.length, rfl, F, News_sub N (by walk_at "m_sub"), hlt,
          _, rules ++ [(nm, ss)], _, tvs3, tns3, k4, _, rfl, (by walk_at "m_off"), hI3, h28, rfl, (hrows.mono (by walk_at "m_sub")).snoc (hrow.mono (by walk_at "m_sub")), ?_, ?_, ?_, ?_, rfl, rfl⟩
        · intro r hr
          rcases List.mem_append.mp hr with hr | hr
          · exact hok r hr
          · rw [List.mem_singleton.mp hr]; exact hrok
        · have e3 := congrArg List.length hnm
          rw [List.length_take, List.length_map] at e3
          have e4 : sNAMES.length = 3 := rfl
          rw [List.map_append, List.take_append_of_le_length (by rw [List.length_map]; omega)]
          exact hnm
        · rw [List.length_append]
          show rules.length + 1 ≤ 7
          omega
        · refine List.nodup_append.mpr ⟨hnd, List.nodup_cons.mpr ⟨List.not_mem_nil, List.nodup_nil⟩, ?_⟩
          intro a ha b hb e
          rw [List.mem_singleton.mp hb] at e
          have hd' : ¬ (rowDat (nm, ss) ∈ rules.map rowDat) := fun q => by simp only [q, decide_true] at hd; cases hd
          exact hd' (e ▸ List.mem_map_of_mem ha)
theorem unreg_MRules : True := by
  k_with_none
  (k_with "m_S" => ((goal_lacks PySem.Heap.push); (fail_if_success (goal_lacks PySem.Shared.mk)); (with_reducible refine (?_ : wpAny _ _ _ _ _ (SH _ _))); (try ((fail_if_success (goal_lacks PySem.Shared.toks)); (with_reducible refine genT (S := SH) ?_); intro _))))
  (k_with "m_U" => (k_extra "m_S"; first | walk1 | (dsimp only; walk1)))
  (k_with "m_enter" => ((
    case ho => k_is
    case hcd => k_is
    case hb => first | exact BindsTo.of_eq rfl | exact binds_K (by assumption) rfl (by k_is) rfl rfl rfl
    case hl => exact locs rfl
    case hc => decide
    case h1 => exact rfl
    case h2 => exact rfl
    case h3 => exact rfl)))
  (k_with "m_enterC" => ((
    case ho => k_is
    case hcd => k_is
    case hb => first | exact BindsTo.of_eq rfl | exact binds_K (by assumption) rfl (by k_is) rfl rfl rfl
    case hl => exact rfl
    case hn => decide +kernel
    case h1 => exact rfl
    case h2 => exact rfl
    case h3 => exact rfl)))
  (k_with "eval ListComp" => (((fail_if_success (with_reducible rename NoHalt => nh')); refine halt ?_)))
  (k_with "eval DictComp" => (((fail_if_success (with_reducible rename NoHalt => nh')); refine halt ?_)))
  (k_with "eval Name" => (k_dflt ((with_reducible show wpAny _ _ (eval (Expr.Name _ _) (compEnvC _ _ _ _)) _ _ _); refine' comp_cell ?xq5 ?Nq5 ?cq5 ?mq5 ?dq5 ?_ ?kq5 ?bq5; (case xq5 => exact rfl); (case Nq5 => k_asm); (case cq5 => exact rfl); (case mq5 => k_mem); (case dq5 => k_asm); (case kq5 => exact rfl); (case bq5 => decide))))
  (k_with "eval Name" => (k_dflt ((with_reducible show wpAny _ _ (eval (Expr.Name _ _) (compEnvC _ _ _ _)) _ _ _); refine' comp_local ?xq6 ?Nq6 ?cq6 ?_ ?kq6 ?bq6; (case xq6 => exact rfl); (case Nq6 => k_asm); (case cq6 => exact rfl); (case kq6 => exact rfl); (case bq6 => decide))))
  (k_with "m_tail" => (first
    | exact fun _ h => h
    | ((with_reducible refine sub_tl ?_); k_extra "m_tail")
    | ((with_reducible refine sub_lf ?_); k_extra "m_tail")
    | ((with_reducible refine sub_rt ?_); k_extra "m_tail")))
  (k_with "m_in" => (first
    | exact List.Mem.head _
    | assumption
    | ((refine List.Mem.tail _ ?_); k_extra "m_in")
    | ((refine List.mem_append_left _ ?_); k_extra "m_in")
    | ((refine List.mem_append_right _ ?_); k_extra "m_in")))
  (k_with "m_sub1" => (first
    | exact sub_nil
    | ((with_reducible refine sub_cons ?_ ?_); k_extra "m_in"; k_extra "m_sub1")
    | ((with_reducible refine sub_app ?_ ?_); k_extra "m_sub1"; k_extra "m_sub1")
    | k_extra "m_tail"))
  (k_with "m_sub" => (((try dsimp only [List.cons_append, List.nil_append]); k_extra "m_sub1")))
  (k_with "m_k_ne" => ((refine neN ?_; (try dsimp only); first | assumption | exact Ne.symm (by assumption) | exact Nat.ne_of_lt (by assumption) | exact Nat.ne_of_gt (by assumption) | exact all_ne (by assumption) (by k_mem) | exact Ne.symm (all_ne (by assumption) (by k_mem)) | exact ne_lt2 (by assumption) (by assumption) | exact Ne.symm (ne_lt2 (by assumption) (by assumption)) | (refine' News_ne_cls ?nqNq11 ?nqaq11 ?nqbq11 ?nqcq11; (case nqNq11 => k_asm); (case nqaq11 => k_mem); (case nqbq11 => k_mem); (case nqcq11 => rfl)) | omega)))
  (k_with "exec While BoolOp cons nil" => (refine halt ?_))
  (k_with "exec While Constant cons nil" => (refine halt ?_))
  (k_with "exec While Compare cons nil" => (refine halt ?_))
  (k_with "compareOp NotIn ref ref" => (refine halt ?_))
  (k_with "compareOp In ref ref" => (refine halt ?_))
  (k_with "m_off" => (first | exact off_nil | ((refine off_cons ?_ ?_); k_all; k_extra "m_off")))
  (k_with "m_k_all" => (first | assumption | exact OwnOff.ne (by assumption) (by k_memK) | ((with_reducible refine List.forall_mem_append.mpr ⟨?_, ?_⟩); k_all; k_all) | ((with_reducible refine List.forall_mem_cons.mpr ⟨?_, ?_⟩); k_ne; k_all) | exact List.forall_mem_nil _ | fail "k_all"))
  (k_with "eval Name" => (k_dflt ((with_reducible show wpAny _ _ (eval (Expr.Name _ _) (compEnvC _ _ _ _)) _ _ _); refine' LCgL.ld_global ?qFq19 ?qXq19 ?qTq19 ?qeq19 ?_ ?qgq19 ?qkq19 ?qxq19 ?qdq19; (case qFq19 => k_asm); (case qXq19 => k_asm); (case qTq19 => k_asm); (case qeq19 => k_is); (case qgq19 => exact rfl); (case qkq19 => exact rfl); (case qxq19 => exact rfl); (case qdq19 => decide))))
  (k_with "m_clos" => ((
    case hclos => with_unfolding_all rfl
    case hcell => decide
    case hkind => rfl
    case hnames => decide
    case hx => rfl
    case hs => exact fun _ => rfl
    case hh => rfl)))
  (k_with "m_k_mem" => (k_dflt (first | assumption | (refine List.mem_append_left _ ?_; k_mem) | (refine List.mem_append_right _ ?_; k_mem))))
  (k_with "exec For Name Name cons nil" => (k_extra "m_for"))
  (k_with "exec For Name Name cons cons" => (k_extra "m_for"))
  (k_with "exec For Name Call cons nil" => (k_extra "m_for"))
  (k_with "exec For Name Attribute cons nil" => (k_extra "m_for"))
  (k_with "exec For Name Subscript cons nil" => (k_extra "m_for"))
  (k_with "exec For Tuple Name cons nil" => (k_extra "m_for"))
  (k_with "exec For Tuple Call cons nil" => (k_extra "m_for"))
  (k_with "m_for" => (k_dflt ((refine' For_JF ?kFq29 ?k1q29 ?k2q29 ?_; (case kFq29 => assumption); (case k1q29 => exact PassesOwn.never); (case k2q29 => exact fun _ => rfl)))))
  (k_with "m_slice" => (k_dflt ((with_reducible show wpAny _ _ (subscriptTail _ (PySem.Expr.Slice _ none none _) (Value.ref _) (Value.ref _)) _ _ _); first
    | (refine' r_sliceList1 ?k1q31 ?k2q31 ?k3q31 ?k4q31 ?_ ?k5q31 ?k6q31; (case k1q31 => k_asm); (case k2q31 => k_asm); (case k3q31 => k_extra "m_list"); (case k4q31 => k_extra "m_lt"); (case k5q31 => with_unfolding_all rfl); (case k6q31 => intro _; with_unfolding_all rfl); walk_at "i5")
    | (refine' r_sliceTup ?k1q31 ?k2q31 ?k3q31 ?k4q31 ?k5q31 ?k6q31 ?k7q31 ?_ ?k8q31 ?k9q31; (case k1q31 => k_asm); (case k2q31 => k_asm); (case k3q31 => k_extra "m_tup"); (case k4q31 => exact cast1 _); (case k5q31 => k_extra "m_lt"); (case k6q31 => k_extra "m_lt"); (case k7q31 => k_extra "m_lt"); (case k8q31 => with_unfolding_all rfl); (case k9q31 => intro _; with_unfolding_all rfl); walk_at "i5")
    | fail "m_slice")))
  (k_with "m_list" => (first | is_list | (refine' r_isList ?qiaq32 ?qibq32; (case qiaq32 => k_asm); (case qibq32 => k_mem))))
  (k_with "m_tup" => (first | is_tup | (refine' r_isTup ?qiaq33 ?qibq33; (case qiaq33 => k_asm); (case qibq33 => k_mem))))
  (k_with "call type:tuple" => (k_dflt ((with_reducible show wpAny _ _ (call (Value.type _) [Value.ref _]) _ _ _); (refine' r_tupleOf ?k1q34 ?k2q34 ?k3q34 ?k4q34 ?_; (case k1q34 => k_asm); (case k2q34 => k_asm); (case k3q34 => k_extra "m_list"); (case k4q34 => assumption); k_whole); walk_at "i5")))
  (k_with "m_len" => (first | assumption | omega | ((try simp only [List.length_append, List.length_cons, List.length_nil, List.length_map]); omega)))
  (k_with "call builtin:len" => (k_dflt ((with_reducible show wpAny _ _ (call (Value.builtin "len") [Value.ref _]) _ _ _); first
    | (refine' r_lenList ?k1q36 ?k2q36 ?_; (case k1q36 => k_extra "m_list"); (case k2q36 => k_extra "m_len"); k_whole)
    | (refine' r_lenTup ?k1q36 ?k2q36 ?_; (case k1q36 => k_extra "m_tup"); (case k2q36 => k_extra "m_len"); k_whole)
    | fail "len")))
  (k_with "truthy ref" => (k_dflt ((with_reducible show wpAny _ _ (truthy (Value.ref _)) _ _ _); first
    | (refine' r_truthyList ?k1q37 ?k2q37 ?_; (case k1q37 => k_extra "m_list"); (case k2q37 => k_extra "m_len"); k_whole)
    | (refine' r_truthyTup ?k1q37 ?k2q37 ?_; (case k1q37 => k_extra "m_tup"); (case k2q37 => k_extra "m_len"); k_whole)
    | (refine' r_truthyDict ?k1q37 ?k2q37 ?k3q37 ?k4q37 ?k5q37 ?_; (case k1q37 => k_asm); (case k2q37 => k_mem); (case k3q37 => k_asm); (case k4q37 => assumption); (case k5q37 => k_extra "m_len"); intro _)
    | fail "truthy")))
  (k_with "compareOp In str ref" => (k_dflt ((with_reducible show wpAny _ _ (compareOp CmpOp.In (Value.str _ _) (Value.ref _)) _ _ _); first
    | (refine' in_list_strs ?k1q38 ?k2q38 ?_; (case k1q38 => k_extra "m_list"); (case k2q38 => assumption); k_whole)
    | (refine' r_inTup ?k1q38 ?k2q38 ?_; (case k1q38 => k_extra "m_tup"); (case k2q38 => assumption); k_whole)
    | fail "in")))
  (k_with "compareOp NotIn str ref" => (k_dflt ((with_reducible show wpAny _ _ (compareOp CmpOp.NotIn (Value.str _ _) (Value.ref _)) _ _ _); first
    | (refine' notin_list_strs ?k1q39 ?k2q39 ?_; (case k1q39 => k_extra "m_list"); (case k2q39 => assumption); k_whole)
    | (refine' r_notinTup ?k1q39 ?k2q39 ?_; (case k1q39 => k_extra "m_tup"); (case k2q39 => assumption); k_whole)
    | fail "notin")))
  (k_with "m_k_units" => (first | omega | (simp only [Around.deeper, Around.in1, Around.mark] at *; omega)))
  (k_with "call builtin:all" => (k_dflt ((with_reducible show wpAny _ _ (call (Value.builtin "all") [Value.ref _]) _ _ _); (refine' all_strs ?khq41 ?kFq41 ?kNq41 ?kpq41 ?_; (case kFq41 => k_asm); (case kNq41 => k_asm); (case kpq41 => assumption); (case khq41 => rfl)); intro _ _ _ _; (try simp only []))))
  (k_with "m_lt" => (first | assumption | omega))
  (k_with "subscriptTail" => (k_dflt ((with_reducible show wpAny _ _ (subscriptTail _ _ (Value.ref _) (Value.int _ _)) _ _ _); (refine' r_itemList ?k1q43 ?k2q43 ?k3q43 ?k4q43 ?k5q43 ?_ ?k6q43; (case k1q43 => k_extra "m_list"); (case k2q43 => assumption); (case k3q43 => k_extra "m_lt"); (case k4q43 => k_extra "m_lt"); (case k5q43 => k_extra "m_lt"); (case k6q43 => exact rfl)); intro _ _ _)))
  (k_with "m_din" => (first | (with_reducible assumption) | assumption | exact (rfl : _ = true) | exact (rfl : _ = false) | exact rfl))
  (k_with "m_dat" => (first | assumption | exact rfl))
  (k_with "compareOp In str ref" => (k_dflt ((with_reducible show wpAny _ _ (compareOp CmpOp.In (Value.str _ _) (Value.ref _)) _ _ _); (refine' kda_in (knd := PySem.strKind _ _) ?k1q46 ?k2q46 ?k3q46 ?k4q46 (strKind_is _ _ _ _) _ ?k6q46 ?_; (case k1q46 => k_asm); (case k2q46 => k_mem); (case k3q46 => k_asm); (case k4q46 => first | (with_reducible assumption) | assumption); (case k6q46 => k_extra "m_din")))))
  (k_with "compareOp NotIn str ref" => (k_dflt ((with_reducible show wpAny _ _ (compareOp CmpOp.NotIn (Value.str _ _) (Value.ref _)) _ _ _); (refine' kdg_notin (knd := PySem.strKind _ _) ?k1q47 ?k2q47 ?k3q47 ?k4q47 (strKind_is _ _ _ _) _ ?k6q47 ?_; (case k1q47 => k_asm); (case k2q47 => k_mem); (case k3q47 => k_asm); (case k4q47 => first | (with_reducible assumption) | assumption); (case k6q47 => k_extra "m_din")))))
  (k_with "subscriptTail" => (((with_reducible show wpAny _ _ (subscriptTail _ _ (Value.ref _) (Value.str _ _)) _ _ _); k_dflt (refine' kdt_tail ?k1q48 ?k2q48 ?k3q48 ?_ ?k4q48; (case k1q48 => k_asm); (case k2q48 => k_mem); (case k3q48 => k_asm); (case k4q48 => exact rfl)))))
  (k_with "subscriptTail" => (k_dflt ((with_reducible show wpAny _ _ (subscriptTail _ _ (Value.ref _) (Value.str _ _)) _ _ _); (refine' kda_item (knd := PySem.strKind _ _) ?k1q49 ?k2q49 ?k3q49 (strKind_is _ _ _ _) ?k4q49 ?_; (case k1q49 => k_asm); (case k2q49 => k_mem); (case k3q49 => k_asm); (case k4q49 => k_extra "m_dat")))))
  (k_with "setItem ref str" => (k_dflt ((refine' kda_set (knd := PySem.strKind _ _) ?Fq50 ?Nq50 ?Uq50 ?dq50 (strKind_is _ _ _ _) ?zq50 ?_; (case Fq50 => k_asm); (case Nq50 => k_asm); (case Uq50 => k_updF); (case dq50 => k_asm); (case zq50 => first | assumption | (rw [sizeLine_eq]; exact Nat.le_of_ble_eq_true (by with_unfolding_all rfl)))); walk_at "i5d")))
  (k_with "getAttr ref" => (k_dflt (refine' get_own ?k1q51 ?k2q51 ?k3q51 ?k4q51 ?k5q51 ?k6q51 ?k7q51 ?k8q51 ?k9q51 ?_; (case k1q51 => k_asm); (case k2q51 => k_asm); (case k3q51 => k_inst); (case k8q51 => assumption); (case k4q51 => k_is); (case k5q51 => k_is); (case k6q51 => k_is); (case k7q51 => k_is); (case k9q51 => exact rfl))))
  (k_with "call builtin:str.join" => (k_dflt ((with_reducible show wpAny _ _ (call (Value.builtin "str.join") [Value.str _ _, Value.ref _]) _ _ _); (refine' r_joinTup ?k1q52 ?k2q52 ?k3q52 ?k4q52 ?k5q52 ?_; (case k1q52 => k_extra "m_tup"); (case k2q52 => assumption); (case k3q52 => assumption); (case k4q52 => assumption); (case k5q52 => decide)); intro _ _ _ _)))
  (k_with "getMethod ref" => (k_dflt (refine' method_inst ?k1q53 ?k2q53 ?k3q53 ?k4q53 ?k5q53 ?k6q53 ?k7q53 ?_; (case k1q53 => k_asm); (case k2q53 => k_asm); (case k3q53 => k_inst); (case k7q53 => assumption); (case k4q53 => k_is); (case k5q53 => k_is); (case k6q53 => k_is))))
  (k_with "getItem ref str" => (k_dflt ((with_reducible show wpAny _ _ (getItem (Value.ref _) (Value.str _ _)) _ _ _); (refine' kdt_getItem (knd := PySem.strKind _ _) ?k1q54 ?k2q54 ?k3q54 (strKind_is _ _ _ _) ?k4q54 ?_; (case k1q54 => k_asm); (case k2q54 => k_mem); (case k3q54 => k_asm); (case k4q54 => k_extra "m_dat")))))
  (k_with "subscriptTail Name Slice ref ref" => (k_extra "m_slice"))
  (k_with "subscriptTail Attribute Slice ref ref" => (k_extra "m_slice"))
  (k_with "subscriptTail" => (k_dflt ((with_reducible show wpAny _ _ (subscriptTail _ _ (Value.ref _) (Value.int _ _)) _ _ _); (refine' r_itemL ?k1q57 ?k3q57 ?k4q57 ?k2q57 ?_ ?k6q57; (case k1q57 => k_extra "m_list"); (case k2q57 => exact rfl); (case k3q57 => decide); (case k4q57 => decide); (case k6q57 => exact rfl)))))
  trivial
theorem gt_true {prog : Program} {w : World} {A : Around} {E : Value → Shared → Prop} {s : Shared} {x k : Int} {t u : Tok} {Q : Value → Shared → Prop} (hlt : k < x) (h : Q (.bool true) s) : wpAny (model prog w) A (compareOp .Gt (.int x t) (.int k u)) Q E s :=
  gt_int (by first | (rw [decide_eq_true hlt]; exact h) | simpa [hlt] using h)
section Id
theorem reg_MId : True := by
  (k_with "call builtin:len" => (refine len_str (by assumption) ?_))
  (k_with "compareOp Gt int int" => (refine gt_true (by assumption) ?_))
  trivial
theorem t_ident {prog : Program} {w : World} {dp un : Nat} {fr : Option (List Env)} {gd : Option (List Code)} {s : Shared} {hb : Heap} {mg mb : Str → Option Value} {p : Program} {loose : List Str} {R : Result → Shared → Prop}
  (X : (hd.heap_1 w.params).In hb) (T : TopRead p loose mg mb hb) (hs : hb.StaysIn s.heap) (hroom : dp + 5 < recursionLimit) (hu : un + 100 < cLine)
  {x : Str} {tx : Tok} (hx : x ∈ sSYMS)
  (post : ∀ h' tk, Kp [] s.heap h' → R (.ok (.ret (.bool true))) { s with heap := h', toks := tk }) :
  codeAny (model prog w) ⟨none, dp, fr, gd, un⟩ (.call (.ref 39) ⟨[.str x tx], []⟩) R s := by
  refine' enterH [] [("s", .str x tx)] X T hs ?_ ?ho ?hcd (by show dp < _; omega) ?hb ?hl ?h ?hc ?h1 ?h2 ?h3
  walk_at "m_enter"
  · intro a ha; cases ha
  intro g L h₁ tk F I
  refine letS ?_
  intro SH A1 en Q1
  have hA1 : A1.depth = dp + 1 := rfl
  have hA2 : A1.units = un + 3 := rfl
  have X := I.X
  have T := I.T
  have N : News g L h₁ [] := News.nil
  have hp : (0 : Int) < (x.length : Int) := by exact_mod_cast (by decide +kernel : ∀ x ∈ sSYMS, 0 < x.length) x hx
  have hf : ¬ (x.length : Int) ≥ 2 ^ 63 := by have := (by decide +kernel : ∀ x ∈ sSYMS, x.length ≤ 1) x hx; omega
  (try ((with_reducible show wpAny _ _ _ _ _ _); k_fold)); k_steps
  refine unhalt ?_
  refine' ListComp_Q (cl := []) g (fun _ => true) (fun z y => y = .bool ((fun _ => true) z)) ?hclos ?hcell ?hkind ?hnames ?hx ?hs ?hh ?_
  walk_at "m_clos"
  (try ((with_reducible show wpAny _ _ _ _ _ _); k_fold)); k_steps
  rename Fr _ _ _ _ => F'
  rename News _ _ _ _ => N'
  refine unhalt ⟨_, _, _, .inr ⟨_, _, rfl, rfl⟩, Nat.le_trans ((by decide +kernel : ∀ x ∈ sSYMS, (x.cps.toList.map fun c => (⟨#[c]⟩ : Str)).length ≤ 1) x hx) (by rw [sizeLine_eq]; decide), F', N', ?_, ?_, ?_⟩
  · intro C z u E' s₃ m₃ _ _ _ _
    refine wpAny_tests_nil ?_
    exact unhalt ⟨rfl, _, _, rfl, fun _ _ e => e⟩
  · intro C z u E' s₃ m₃ hz _ hb F N
    (try ((with_reducible show wpAny _ _ _ _ _ _); k_fold)); k_steps
    refine unhalt ⟨congrArg Value.bool ?_, _, _, rfl, fun _ _ e => e⟩
    simp only [sSYMS, List.mem_cons, List.not_mem_nil, or_false] at hx
    rcases hx with rfl | rfl | rfl | rfl | rfl | rfl <;> (rw [show z = _ from List.mem_singleton.mp hz]; decide +kernel)
  · intro D h' tk ys nD hp F N _
    (try ((with_reducible show wpAny _ _ _ _ _ _); k_fold)); k_steps
    rename Fr _ _ _ _ => F
    simp only [List.all_eq_true.mpr (fun _ _ => rfl)]
    exact post _ _ (I.kp F)
end Id
theorem unreg_MId : True := by
  k_with_none
  (k_with "m_S" => ((goal_lacks PySem.Heap.push); (fail_if_success (goal_lacks PySem.Shared.mk)); (with_reducible refine (?_ : wpAny _ _ _ _ _ (SH _ _))); (try ((fail_if_success (goal_lacks PySem.Shared.toks)); (with_reducible refine genT (S := SH) ?_); intro _))))
  (k_with "m_U" => (k_extra "m_S"; first | walk1 | (dsimp only; walk1)))
  (k_with "m_enter" => ((
    case ho => k_is
    case hcd => k_is
    case hb => first | exact BindsTo.of_eq rfl | exact binds_K (by assumption) rfl (by k_is) rfl rfl rfl
    case hl => exact locs rfl
    case hc => decide
    case h1 => exact rfl
    case h2 => exact rfl
    case h3 => exact rfl)))
  (k_with "m_enterC" => ((
    case ho => k_is
    case hcd => k_is
    case hb => first | exact BindsTo.of_eq rfl | exact binds_K (by assumption) rfl (by k_is) rfl rfl rfl
    case hl => exact rfl
    case hn => decide +kernel
    case h1 => exact rfl
    case h2 => exact rfl
    case h3 => exact rfl)))
  (k_with "eval ListComp" => (((fail_if_success (with_reducible rename NoHalt => nh')); refine halt ?_)))
  (k_with "eval DictComp" => (((fail_if_success (with_reducible rename NoHalt => nh')); refine halt ?_)))
  (k_with "eval Name" => (k_dflt ((with_reducible show wpAny _ _ (eval (Expr.Name _ _) (compEnvC _ _ _ _)) _ _ _); refine' comp_cell ?xq5 ?Nq5 ?cq5 ?mq5 ?dq5 ?_ ?kq5 ?bq5; (case xq5 => exact rfl); (case Nq5 => k_asm); (case cq5 => exact rfl); (case mq5 => k_mem); (case dq5 => k_asm); (case kq5 => exact rfl); (case bq5 => decide))))
  (k_with "eval Name" => (k_dflt ((with_reducible show wpAny _ _ (eval (Expr.Name _ _) (compEnvC _ _ _ _)) _ _ _); refine' comp_local ?xq6 ?Nq6 ?cq6 ?_ ?kq6 ?bq6; (case xq6 => exact rfl); (case Nq6 => k_asm); (case cq6 => exact rfl); (case kq6 => exact rfl); (case bq6 => decide))))
  (k_with "m_tail" => (first
    | exact fun _ h => h
    | ((with_reducible refine sub_tl ?_); k_extra "m_tail")
    | ((with_reducible refine sub_lf ?_); k_extra "m_tail")
    | ((with_reducible refine sub_rt ?_); k_extra "m_tail")))
  (k_with "m_in" => (first
    | exact List.Mem.head _
    | assumption
    | ((refine List.Mem.tail _ ?_); k_extra "m_in")
    | ((refine List.mem_append_left _ ?_); k_extra "m_in")
    | ((refine List.mem_append_right _ ?_); k_extra "m_in")))
  (k_with "m_sub1" => (first
    | exact sub_nil
    | ((with_reducible refine sub_cons ?_ ?_); k_extra "m_in"; k_extra "m_sub1")
    | ((with_reducible refine sub_app ?_ ?_); k_extra "m_sub1"; k_extra "m_sub1")
    | k_extra "m_tail"))
  (k_with "m_sub" => (((try dsimp only [List.cons_append, List.nil_append]); k_extra "m_sub1")))
  (k_with "m_k_ne" => ((refine neN ?_; (try dsimp only); first | assumption | exact Ne.symm (by assumption) | exact Nat.ne_of_lt (by assumption) | exact Nat.ne_of_gt (by assumption) | exact all_ne (by assumption) (by k_mem) | exact Ne.symm (all_ne (by assumption) (by k_mem)) | exact ne_lt2 (by assumption) (by assumption) | exact Ne.symm (ne_lt2 (by assumption) (by assumption)) | (refine' News_ne_cls ?nqNq11 ?nqaq11 ?nqbq11 ?nqcq11; (case nqNq11 => k_asm); (case nqaq11 => k_mem); (case nqbq11 => k_mem); (case nqcq11 => rfl)) | omega)))
  (k_with "exec While BoolOp cons nil" => (refine halt ?_))
  (k_with "exec While Constant cons nil" => (refine halt ?_))
  (k_with "exec While Compare cons nil" => (refine halt ?_))
  (k_with "compareOp NotIn ref ref" => (refine halt ?_))
  (k_with "compareOp In ref ref" => (refine halt ?_))
  (k_with "m_off" => (first | exact off_nil | ((refine off_cons ?_ ?_); k_all; k_extra "m_off")))
  (k_with "m_k_all" => (first | assumption | exact OwnOff.ne (by assumption) (by k_memK) | ((with_reducible refine List.forall_mem_append.mpr ⟨?_, ?_⟩); k_all; k_all) | ((with_reducible refine List.forall_mem_cons.mpr ⟨?_, ?_⟩); k_ne; k_all) | exact List.forall_mem_nil _ | fail "k_all"))
  (k_with "eval Name" => (k_dflt ((with_reducible show wpAny _ _ (eval (Expr.Name _ _) (compEnvC _ _ _ _)) _ _ _); refine' LCgL.ld_global ?qFq19 ?qXq19 ?qTq19 ?qeq19 ?_ ?qgq19 ?qkq19 ?qxq19 ?qdq19; (case qFq19 => k_asm); (case qXq19 => k_asm); (case qTq19 => k_asm); (case qeq19 => k_is); (case qgq19 => exact rfl); (case qkq19 => exact rfl); (case qxq19 => exact rfl); (case qdq19 => decide))))
  (k_with "m_clos" => ((
    case hclos => with_unfolding_all rfl
    case hcell => decide
    case hkind => rfl
    case hnames => decide
    case hx => rfl
    case hs => exact fun _ => rfl
    case hh => rfl)))
  (k_with "m_k_mem" => (k_dflt (first | assumption | (refine List.mem_append_left _ ?_; k_mem) | (refine List.mem_append_right _ ?_; k_mem))))
  (k_with "exec For Name Name cons nil" => (k_extra "m_for"))
  (k_with "exec For Name Name cons cons" => (k_extra "m_for"))
  (k_with "exec For Name Call cons nil" => (k_extra "m_for"))
  (k_with "exec For Name Attribute cons nil" => (k_extra "m_for"))
  (k_with "exec For Name Subscript cons nil" => (k_extra "m_for"))
  (k_with "exec For Tuple Name cons nil" => (k_extra "m_for"))
  (k_with "exec For Tuple Call cons nil" => (k_extra "m_for"))
  (k_with "m_for" => (k_dflt ((refine' For_JF ?kFq29 ?k1q29 ?k2q29 ?_; (case kFq29 => assumption); (case k1q29 => exact PassesOwn.never); (case k2q29 => exact fun _ => rfl)))))
  (k_with "m_slice" => (k_dflt ((with_reducible show wpAny _ _ (subscriptTail _ (PySem.Expr.Slice _ none none _) (Value.ref _) (Value.ref _)) _ _ _); first
    | (refine' r_sliceList1 ?k1q31 ?k2q31 ?k3q31 ?k4q31 ?_ ?k5q31 ?k6q31; (case k1q31 => k_asm); (case k2q31 => k_asm); (case k3q31 => k_extra "m_list"); (case k4q31 => k_extra "m_lt"); (case k5q31 => with_unfolding_all rfl); (case k6q31 => intro _; with_unfolding_all rfl); walk_at "i5")
    | (refine' r_sliceTup ?k1q31 ?k2q31 ?k3q31 ?k4q31 ?k5q31 ?k6q31 ?k7q31 ?_ ?k8q31 ?k9q31; (case k1q31 => k_asm); (case k2q31 => k_asm); (case k3q31 => k_extra "m_tup"); (case k4q31 => exact cast1 _); (case k5q31 => k_extra "m_lt"); (case k6q31 => k_extra "m_lt"); (case k7q31 => k_extra "m_lt"); (case k8q31 => with_unfolding_all rfl); (case k9q31 => intro _; with_unfolding_all rfl); walk_at "i5")
    | fail "m_slice")))
  (k_with "m_list" => (first | is_list | (refine' r_isList ?qiaq32 ?qibq32; (case qiaq32 => k_asm); (case qibq32 => k_mem))))
  (k_with "m_tup" => (first | is_tup | (refine' r_isTup ?qiaq33 ?qibq33; (case qiaq33 => k_asm); (case qibq33 => k_mem))))
  (k_with "call type:tuple" => (k_dflt ((with_reducible show wpAny _ _ (call (Value.type _) [Value.ref _]) _ _ _); (refine' r_tupleOf ?k1q34 ?k2q34 ?k3q34 ?k4q34 ?_; (case k1q34 => k_asm); (case k2q34 => k_asm); (case k3q34 => k_extra "m_list"); (case k4q34 => assumption); k_whole); walk_at "i5")))
  (k_with "m_len" => (first | assumption | omega | ((try simp only [List.length_append, List.length_cons, List.length_nil, List.length_map]); omega)))
  (k_with "call builtin:len" => (k_dflt ((with_reducible show wpAny _ _ (call (Value.builtin "len") [Value.ref _]) _ _ _); first
    | (refine' r_lenList ?k1q36 ?k2q36 ?_; (case k1q36 => k_extra "m_list"); (case k2q36 => k_extra "m_len"); k_whole)
    | (refine' r_lenTup ?k1q36 ?k2q36 ?_; (case k1q36 => k_extra "m_tup"); (case k2q36 => k_extra "m_len"); k_whole)
    | fail "len")))
  (k_with "truthy ref" => (k_dflt ((with_reducible show wpAny _ _ (truthy (Value.ref _)) _ _ _); first
    | (refine' r_truthyList ?k1q37 ?k2q37 ?_; (case k1q37 => k_extra "m_list"); (case k2q37 => k_extra "m_len"); k_whole)
    | (refine' r_truthyTup ?k1q37 ?k2q37 ?_; (case k1q37 => k_extra "m_tup"); (case k2q37 => k_extra "m_len"); k_whole)
    | (refine' r_truthyDict ?k1q37 ?k2q37 ?k3q37 ?k4q37 ?k5q37 ?_; (case k1q37 => k_asm); (case k2q37 => k_mem); (case k3q37 => k_asm); (case k4q37 => assumption); (case k5q37 => k_extra "m_len"); intro _)
    | fail "truthy")))
  (k_with "compareOp In str ref" => (k_dflt ((with_reducible show wpAny _ _ (compareOp CmpOp.In (Value.str _ _) (Value.ref _)) _ _ _); first
    | (refine' in_list_strs ?k1q38 ?k2q38 ?_; (case k1q38 => k_extra "m_list"); (case k2q38 => assumption); k_whole)
    | (refine' r_inTup ?k1q38 ?k2q38 ?_; (case k1q38 => k_extra "m_tup"); (case k2q38 => assumption); k_whole)
    | fail "in")))
  (k_with "compareOp NotIn str ref" => (k_dflt ((with_reducible show wpAny _ _ (compareOp CmpOp.NotIn (Value.str _ _) (Value.ref _)) _ _ _); first
    | (refine' notin_list_strs ?k1q39 ?k2q39 ?_; (case k1q39 => k_extra "m_list"); (case k2q39 => assumption); k_whole)
    | (refine' r_notinTup ?k1q39 ?k2q39 ?_; (case k1q39 => k_extra "m_tup"); (case k2q39 => assumption); k_whole)
    | fail "notin")))
  (k_with "m_k_units" => (first | omega | (simp only [Around.deeper, Around.in1, Around.mark] at *; omega)))
  (k_with "call builtin:all" => (k_dflt ((with_reducible show wpAny _ _ (call (Value.builtin "all") [Value.ref _]) _ _ _); (refine' all_strs ?khq41 ?kFq41 ?kNq41 ?kpq41 ?_; (case kFq41 => k_asm); (case kNq41 => k_asm); (case kpq41 => assumption); (case khq41 => rfl)); intro _ _ _ _; (try simp only []))))
  (k_with "m_lt" => (first | assumption | omega))
  (k_with "subscriptTail" => (k_dflt ((with_reducible show wpAny _ _ (subscriptTail _ _ (Value.ref _) (Value.int _ _)) _ _ _); (refine' r_itemList ?k1q43 ?k2q43 ?k3q43 ?k4q43 ?k5q43 ?_ ?k6q43; (case k1q43 => k_extra "m_list"); (case k2q43 => assumption); (case k3q43 => k_extra "m_lt"); (case k4q43 => k_extra "m_lt"); (case k5q43 => k_extra "m_lt"); (case k6q43 => exact rfl)); intro _ _ _)))
  (k_with "m_din" => (first | (with_reducible assumption) | assumption | exact (rfl : _ = true) | exact (rfl : _ = false) | exact rfl))
  (k_with "m_dat" => (first | assumption | exact rfl))
  (k_with "compareOp In str ref" => (k_dflt ((with_reducible show wpAny _ _ (compareOp CmpOp.In (Value.str _ _) (Value.ref _)) _ _ _); (refine' kda_in (knd := PySem.strKind _ _) ?k1q46 ?k2q46 ?k3q46 ?k4q46 (strKind_is _ _ _ _) _ ?k6q46 ?_; (case k1q46 => k_asm); (case k2q46 => k_mem); (case k3q46 => k_asm); (case k4q46 => first | (with_reducible assumption) | assumption); (case k6q46 => k_extra "m_din")))))
  (k_with "compareOp NotIn str ref" => (k_dflt ((with_reducible show wpAny _ _ (compareOp CmpOp.NotIn (Value.str _ _) (Value.ref _)) _ _ _); (refine' kdg_notin (knd := PySem.strKind _ _) ?k1q47 ?k2q47 ?k3q47 ?k4q47 (strKind_is _ _ _ _) _ ?k6q47 ?_; (case k1q47 => k_asm); (case k2q47 => k_mem); (case k3q47 => k_asm); (case k4q47 => first | (with_reducible assumption) | assumption); (case k6q47 => k_extra "m_din")))))
  (k_with "subscriptTail" => (((with_reducible show wpAny _ _ (subscriptTail _ _ (Value.ref _) (Value.str _ _)) _ _ _); k_dflt (refine' kdt_tail ?k1q48 ?k2q48 ?k3q48 ?_ ?k4q48; (case k1q48 => k_asm); (case k2q48 => k_mem); (case k3q48 => k_asm); (case k4q48 => exact rfl)))))
  (k_with "subscriptTail" => (k_dflt ((with_reducible show wpAny _ _ (subscriptTail _ _ (Value.ref _) (Value.str _ _)) _ _ _); (refine' kda_item (knd := PySem.strKind _ _) ?k1q49 ?k2q49 ?k3q49 (strKind_is _ _ _ _) ?k4q49 ?_; (case k1q49 => k_asm); (case k2q49 => k_mem); (case k3q49 => k_asm); (case k4q49 => k_extra "m_dat")))))
  (k_with "setItem ref str" => (k_dflt ((refine' kda_set (knd := PySem.strKind _ _) ?Fq50 ?Nq50 ?Uq50 ?dq50 (strKind_is _ _ _ _) ?zq50 ?_; (case Fq50 => k_asm); (case Nq50 => k_asm); (case Uq50 => k_updF); (case dq50 => k_asm); (case zq50 => first | assumption | (rw [sizeLine_eq]; exact Nat.le_of_ble_eq_true (by with_unfolding_all rfl)))); walk_at "i5d")))
  (k_with "getAttr ref" => (k_dflt (refine' get_own ?k1q51 ?k2q51 ?k3q51 ?k4q51 ?k5q51 ?k6q51 ?k7q51 ?k8q51 ?k9q51 ?_; (case k1q51 => k_asm); (case k2q51 => k_asm); (case k3q51 => k_inst); (case k8q51 => assumption); (case k4q51 => k_is); (case k5q51 => k_is); (case k6q51 => k_is); (case k7q51 => k_is); (case k9q51 => exact rfl))))
  (k_with "call builtin:str.join" => (k_dflt ((with_reducible show wpAny _ _ (call (Value.builtin "str.join") [Value.str _ _, Value.ref _]) _ _ _); (refine' r_joinTup ?k1q52 ?k2q52 ?k3q52 ?k4q52 ?k5q52 ?_; (case k1q52 => k_extra "m_tup"); (case k2q52 => assumption); (case k3q52 => assumption); (case k4q52 => assumption); (case k5q52 => decide)); intro _ _ _ _)))
  (k_with "getMethod ref" => (k_dflt (refine' method_inst ?k1q53 ?k2q53 ?k3q53 ?k4q53 ?k5q53 ?k6q53 ?k7q53 ?_; (case k1q53 => k_asm); (case k2q53 => k_asm); (case k3q53 => k_inst); (case k7q53 => assumption); (case k4q53 => k_is); (case k5q53 => k_is); (case k6q53 => k_is))))
  (k_with "getItem ref str" => (k_dflt ((with_reducible show wpAny _ _ (getItem (Value.ref _) (Value.str _ _)) _ _ _); (refine' kdt_getItem (knd := PySem.strKind _ _) ?k1q54 ?k2q54 ?k3q54 (strKind_is _ _ _ _) ?k4q54 ?_; (case k1q54 => k_asm); (case k2q54 => k_mem); (case k3q54 => k_asm); (case k4q54 => k_extra "m_dat")))))
  (k_with "subscriptTail Name Slice ref ref" => (k_extra "m_slice"))
  (k_with "subscriptTail Attribute Slice ref ref" => (k_extra "m_slice"))
  (k_with "subscriptTail" => (k_dflt ((with_reducible show wpAny _ _ (subscriptTail _ _ (Value.ref _) (Value.int _ _)) _ _ _); (refine' r_itemL ?k1q57 ?k3q57 ?k4q57 ?k2q57 ?_ ?k6q57; (case k1q57 => k_extra "m_list"); (case k2q57 => exact rfl); (case k3q57 => decide); (case k4q57 => decide); (case k6q57 => exact rfl)))))
  trivial
inductive JUs (x dx ul D : Addr) (ES : List DictEntry) (EP : Nat) (ws : List Value) (sl : Addr) (SN : Nat) (i : Nat) (m : Str → Option Value) (news ext : List (Addr × Obj)) : Prop
  | mk (uws us k es) (h1 : news = [(ul, W.listOf (uws : List Value).toArray k)]) (h2 : StrsAre uws us) (h3 : us.length ≤ i) (h4 : (x, instObj 100 dx) ∈ ext) (h5 : (dx, dictOf es EP) ∈ ext) (h6 : es = ES) (h7 : (D, tupOf ws 0) ∈ ext) (h8 : (sl, W.listOf ws.toArray SN) ∈ ext) (h9 : m "self" = some (.ref x)) : JUs x dx ul D ES EP ws sl SN i m news ext
theorem gen_get {h : Heap} {dx : Addr} {es : List DictEntry} {ep : Nat} {G : Prop} (_e : h.get? dx = some (dictOf es ep)) (k : ∀ ES, ES = es → G) : G := k es rfl
theorem t_pinit {prog : Program} {w : World} {dp un : Nat} {fr : Option (List Env)} {gd : Option (List Code)} {s : Shared} {hb : Heap} {mg mb : Str → Option Value} {p : Program} {loose : List Str} {R : Result → Shared → Prop}
  (X : (hd.heap_1 w.params).In hb) (T : TopRead p loose mg mb hb) (hs : hb.StaysIn s.heap) (hroom : dp + 5 < recursionLimit) (hu : un + 100 < cLine)
  {x dx sl : Addr} {num : Int} {tn t1 t2 t3 : Tok} {nm : Str} {ws : List Value} {ss : List Str} {n : Nat} {prec : Value}
  (hx : s.heap.get? x = some (instObj 100 dx)) (hdx : s.heap.get? dx = some (dictOf [] 0)) (hsl : s.heap.get? sl = some (W.listOf ws.toArray n)) (hS : StrsAre ws ss) (hss : ∀ y ∈ ss, y ∈ sSYMS) (h3 : ss.length ≤ 3) (hnm : nm.length ≤ 1000)
  (hx0 : hb.get? x = none) (hdx0 : hb.get? dx = none) (hsl0 : hb.get? sl = none) (l1 : @LT.lt Nat _ dx x) (l2 : @LT.lt Nat _ sl dx)
  {args : Args} (hargs : args = ⟨[.ref x, .int num tn, .str nm t1, .ref sl, prec, .none, .str "" t2, .int 0 t3], []⟩ ∨ (args = ⟨[.ref x, .int num tn, .str nm t1, .ref sl], []⟩ ∧ prec = .ref 54 ∧ t2 = 249 ∧ t3 = 250))
  (post : ∀ h' tk es ep D t, Kp [dx] s.heap h' → h'.get? dx = some (dictOf es ep) → getL "name" es = some (some (.str nm t)) → getL "prod" es = some (some (.ref D)) → h'.get? D = some (tupOf ws 0) → s.heap.get? D = none →
    R (.ok (.ret .none)) { s with heap := h', toks := tk }) :
  codeAny (model prog w) ⟨none, dp, fr, gd, un⟩ (.call (.ref 62) args) R s := by
  have Xs : (hd.heap_1 w.params).In s.heap := X.keeps hs
  refine' enterH [x, dx, sl] [("self", .ref x), ("number", .int num tn), ("name", .str nm t1), ("prod", .ref sl), ("precedence", prec), ("func", .none), ("file", .str "" t2), ("line", .int 0 t3)] X T hs ?_ ?ho ?hcd (by show dp < _; omega) ?hb ?hl ?h ?hc ?h1 ?h2 ?h3
  case ho => k_is
  case hcd => k_is
  case hb =>
    rcases hargs with rfl | ⟨rfl, rfl, rfl, rfl⟩
    · first | exact BindsTo.of_eq rfl | exact binds_K (by assumption) rfl (by k_is) rfl rfl rfl
    · first | exact binds_K (by assumption) rfl (by k_is) rfl rfl rfl | exact BindsTo.of_eq rfl
  case hl => exact locs rfl
  case hc => decide
  case h1 => exact rfl
  case h2 => exact rfl
  case h3 => exact rfl
  · intro a ha; simp only [List.mem_cons, List.not_mem_nil, or_false] at ha; rcases ha with rfl | rfl | rfl <;> assumption
  intro g L h₁ tk F I
  refine letS ?_
  intro SH A1 en Q1
  have hA1 : A1.depth = dp + 1 := rfl
  have hA2 : A1.units = un + 3 := rfl
  have X := I.X
  have T := I.T
  have N := I.put hx (.head _) (I.put hdx (.tail _ (.head _)) (I.put hsl (.tail _ (.tail _ (.head _))) News.nil))
  have xL : @LT.lt Nat _ x L := I.loc ▸ Heap.lt_size hx
  have hlen := hS.length
  have hz2 : ws.toArray.size ≤ 16384 := by rw [List.size_toArray]; omega
  (try ((with_reducible show wpAny _ _ _ _ _ _); k_fold)); k_steps
  rename Fr _ _ _ _ => F
  rename News _ _ _ _ => N
  rename_i D _ lD _ _ _ _ _ _ _ _ _ _ _ _ _ _ _ _ _ _ _ ul _ lu _ _ _
  refine gen_get (N _ (.tail _ (.tail _ (.tail _ (.head _))))).1 fun ES hES => ?_
  rw [← hES] at N
  refine iter_strs (news := [(ul, W.listOf #[] 0)]) (ext := [(D, tupOf ws 0), (x, instObj 100 dx), (dx, dictOf ES 10), (sl, W.listOf ws.toArray n)]) (JUs x dx ul D ES 10 ws sl n) rfl (.inr ⟨_, (N _ (.tail _ (.head _))).1, rfl, _, rfl⟩) hS ?_ F ?_ N ?_ rfl rfl ?_ ?_ ?_
  · simp only [List.map_cons, List.map_nil, List.mem_cons, List.not_mem_nil, or_false]
    exact Nat.ne_of_lt lu.1
  · exact (N _ (.tail _ (.head _))).2.1
  · show OwnOff _ [ul]
    walk_at "m_off"
  · exact ⟨[], [], _, _, rfl, .nil, Nat.le_refl _, .tail _ (.head _), .tail _ (.tail _ (.head _)), rfl, .head _, .tail _ (.tail _ (.tail _ (.head _))), rfl⟩
  · rintro ext own i z u m₁ news₁ h tk hz ⟨uws, us, k, es, rfl, hU, hul, hm1, hm2, hes, hm3, hm4, hms⟩ ha hoff F N
    rw [hES] at hes
    subst hes
    have F := Fr_say F (x := "self") ((if_neg (by decide)).trans hms)
    replace hoff : OwnOff (ext ++ own) [ul] := hoff
    have hi : i < ss.length := by
      rcases Nat.lt_or_ge i ss.length with h | h
      · exact h
      · rw [List.getElem?_eq_none h] at hz; cases hz
    have hUl := hU.length
    have hsz : uws.toArray.size ≤ sizeLine := by rw [List.size_toArray, sizeLine_eq]; omega
    (try ((with_reducible show wpAny _ _ _ _ _ _); k_fold)); k_steps
    all_goals
      rename Fr _ _ _ _ => F
      rename News _ _ _ _ => N
    · refine StepJ.next (StepEnd.same [(ul, W.listOf uws.toArray k)] F N ?_ rfl ⟨_, us, _, _, rfl, hU, by omega, hm1, hm2, hES.symm, hm3, hm4, ?_⟩)
      · walk_at "m_sub"
      · rfl
    · rw [List.push_toArray] at N
      refine StepJ.next (StepEnd.same [(ul, W.listOf (uws ++ [Value.str z u]).toArray (k + 1))] F N ?_ rfl ⟨_, us ++ [z], _, _, rfl, hU.append' (.cons _ _ .nil), ?_, hm1, hm2, hES.symm, hm3, hm4, ?_⟩)
      · walk_at "m_sub"
      · rw [List.length_append]; exact Nat.succ_le_succ hul
      · rfl
  · rintro h tk m₁ news₁ ext ⟨uws, us, k, es, rfl, hU, hul, hm1, hm2, hes, hm3, hm4, hms⟩ ha hoff F N
    have F := Fr_say F (x := "self") hms
    have N := News_sub N (news' := [(ul, W.listOf uws.toArray k), (D, tupOf ws 0), (x, instObj 100 dx), (dx, dictOf es _), (sl, W.listOf ws.toArray n)]) (by
      intro p hp
      simp only [List.mem_cons, List.not_mem_nil, or_false] at hp
      rcases hp with rfl | rfl | rfl | rfl | rfl
      · exact .head _
      · exact .tail _ hm3
      · exact .tail _ hm1
      · exact .tail _ hm2
      · exact .tail _ hm4)
    rw [hES] at hes
    subst hes
    clear ha hoff hm1 hm2 hm3
    have hs1 : ∀ y ∈ ss, y.length ≤ 1 := fun y hy => (by decide : ∀ y ∈ sSYMS, y.length ≤ 1) y (hss y hy)
    have hw3 : (ws.length : Int) < 2 ^ 63 := by omega
    (try ((with_reducible show wpAny _ _ _ _ _ _); k_fold)); k_steps
    all_goals
      rename Fr _ _ _ _ => F
      rename News _ _ _ _ => N
      exact post _ _ _ _ D _ (fun b o hb e => by
        by_cases hm : b ∈ [x, dx, sl]
        · simp only [List.mem_cons, List.not_mem_nil, or_false] at hm
          rcases hm with rfl | rfl | rfl
          · rw [hx] at e; cases e; exact News.get N (by k_mem)
          · exact absurd (.head _) hb
          · rw [hsl] at e; cases e; exact News.get N (by k_mem)
        · exact I.kp F b o hm e) (News.get N (by k_mem)) rfl rfl (News.get N (by k_mem)) (I.new N (a := D) (o := tupOf ws 0) (by k_mem) (by
          simp only [List.mem_cons, List.not_mem_nil, or_false, not_or]
          exact ⟨Nat.ne_of_gt lD.1, Nat.ne_of_gt lD.2.1, Nat.ne_of_gt lD.2.2.1⟩))
end SB
section SG
theorem unreg_G : True := by
  k_with_none
  (k_with "m_S" => ((goal_lacks PySem.Heap.push); (fail_if_success (goal_lacks PySem.Shared.mk)); (with_reducible refine (?_ : wpAny _ _ _ _ _ (SH _ _))); (try ((fail_if_success (goal_lacks PySem.Shared.toks)); (with_reducible refine genT (S := SH) ?_); intro _))))
  (k_with "m_U" => (k_extra "m_S"; first | walk1 | (dsimp only; walk1)))
  (k_with "m_enter" => ((
    case ho => k_is
    case hcd => k_is
    case hb => first | exact BindsTo.of_eq rfl | exact binds_K (by assumption) rfl (by k_is) rfl rfl rfl
    case hl => exact locs rfl
    case hc => decide
    case h1 => exact rfl
    case h2 => exact rfl
    case h3 => exact rfl)))
  (k_with "m_enterC" => ((
    case ho => k_is
    case hcd => k_is
    case hb => first | exact BindsTo.of_eq rfl | exact binds_K (by assumption) rfl (by k_is) rfl rfl rfl
    case hl => exact rfl
    case hn => decide +kernel
    case h1 => exact rfl
    case h2 => exact rfl
    case h3 => exact rfl)))
  (k_with "eval ListComp" => (((fail_if_success (with_reducible rename NoHalt => nh')); refine halt ?_)))
  (k_with "eval DictComp" => (((fail_if_success (with_reducible rename NoHalt => nh')); refine halt ?_)))
  (k_with "eval Name" => (k_dflt ((with_reducible show wpAny _ _ (eval (Expr.Name _ _) (compEnvC _ _ _ _)) _ _ _); refine' comp_cell ?xq5 ?Nq5 ?cq5 ?mq5 ?dq5 ?_ ?kq5 ?bq5; (case xq5 => exact rfl); (case Nq5 => k_asm); (case cq5 => exact rfl); (case mq5 => k_mem); (case dq5 => k_asm); (case kq5 => exact rfl); (case bq5 => decide))))
  (k_with "eval Name" => (k_dflt ((with_reducible show wpAny _ _ (eval (Expr.Name _ _) (compEnvC _ _ _ _)) _ _ _); refine' comp_local ?xq6 ?Nq6 ?cq6 ?_ ?kq6 ?bq6; (case xq6 => exact rfl); (case Nq6 => k_asm); (case cq6 => exact rfl); (case kq6 => exact rfl); (case bq6 => decide))))
  (k_with "m_tail" => (first
    | exact fun _ h => h
    | ((with_reducible refine sub_tl ?_); k_extra "m_tail")
    | ((with_reducible refine sub_lf ?_); k_extra "m_tail")
    | ((with_reducible refine sub_rt ?_); k_extra "m_tail")))
  (k_with "m_in" => (first
    | exact List.Mem.head _
    | assumption
    | ((refine List.Mem.tail _ ?_); k_extra "m_in")
    | ((refine List.mem_append_left _ ?_); k_extra "m_in")
    | ((refine List.mem_append_right _ ?_); k_extra "m_in")))
  (k_with "m_sub1" => (first
    | exact sub_nil
    | ((with_reducible refine sub_cons ?_ ?_); k_extra "m_in"; k_extra "m_sub1")
    | ((with_reducible refine sub_app ?_ ?_); k_extra "m_sub1"; k_extra "m_sub1")
    | k_extra "m_tail"))
  (k_with "m_sub" => (((try dsimp only [List.cons_append, List.nil_append]); k_extra "m_sub1")))
  (k_with "m_k_ne" => ((refine neN ?_; (try dsimp only); first | assumption | exact Ne.symm (by assumption) | exact Nat.ne_of_lt (by assumption) | exact Nat.ne_of_gt (by assumption) | exact all_ne (by assumption) (by k_mem) | exact Ne.symm (all_ne (by assumption) (by k_mem)) | exact ne_lt2 (by assumption) (by assumption) | exact Ne.symm (ne_lt2 (by assumption) (by assumption)) | (refine' News_ne_cls ?nqNq11 ?nqaq11 ?nqbq11 ?nqcq11; (case nqNq11 => k_asm); (case nqaq11 => k_mem); (case nqbq11 => k_mem); (case nqcq11 => rfl)) | omega)))
  (k_with "exec While BoolOp cons nil" => (refine halt ?_))
  (k_with "exec While Constant cons nil" => (refine halt ?_))
  (k_with "exec While Compare cons nil" => (refine halt ?_))
  (k_with "compareOp NotIn ref ref" => (refine halt ?_))
  (k_with "compareOp In ref ref" => (refine halt ?_))
  (k_with "m_off" => (first | exact off_nil | ((refine off_cons ?_ ?_); k_all; k_extra "m_off")))
  (k_with "m_k_all" => (first | assumption | exact OwnOff.ne (by assumption) (by k_memK) | ((with_reducible refine List.forall_mem_append.mpr ⟨?_, ?_⟩); k_all; k_all) | ((with_reducible refine List.forall_mem_cons.mpr ⟨?_, ?_⟩); k_ne; k_all) | exact List.forall_mem_nil _ | fail "k_all"))
  (k_with "eval Name" => (k_dflt ((with_reducible show wpAny _ _ (eval (Expr.Name _ _) (compEnvC _ _ _ _)) _ _ _); refine' LCgL.ld_global ?qFq19 ?qXq19 ?qTq19 ?qeq19 ?_ ?qgq19 ?qkq19 ?qxq19 ?qdq19; (case qFq19 => k_asm); (case qXq19 => k_asm); (case qTq19 => k_asm); (case qeq19 => k_is); (case qgq19 => exact rfl); (case qkq19 => exact rfl); (case qxq19 => exact rfl); (case qdq19 => decide))))
  (k_with "m_clos" => ((
    case hclos => with_unfolding_all rfl
    case hcell => decide
    case hkind => rfl
    case hnames => decide
    case hx => rfl
    case hs => exact fun _ => rfl
    case hh => rfl)))
  (k_with "m_k_mem" => (k_dflt (first | assumption | (refine List.mem_append_left _ ?_; k_mem) | (refine List.mem_append_right _ ?_; k_mem))))
  (k_with "exec For Name Name cons nil" => (k_extra "m_for"))
  (k_with "exec For Name Name cons cons" => (k_extra "m_for"))
  (k_with "exec For Name Call cons nil" => (k_extra "m_for"))
  (k_with "exec For Name Attribute cons nil" => (k_extra "m_for"))
  (k_with "exec For Name Subscript cons nil" => (k_extra "m_for"))
  (k_with "exec For Tuple Name cons nil" => (k_extra "m_for"))
  (k_with "exec For Tuple Call cons nil" => (k_extra "m_for"))
  (k_with "m_slice" => (k_dflt ((with_reducible show wpAny _ _ (subscriptTail _ (PySem.Expr.Slice _ none none _) (Value.ref _) (Value.ref _)) _ _ _); first
    | (refine' r_sliceList1 ?k1q31 ?k2q31 ?k3q31 ?k4q31 ?_ ?k5q31 ?k6q31; (case k1q31 => k_asm); (case k2q31 => k_asm); (case k3q31 => k_extra "m_list"); (case k4q31 => k_extra "m_lt"); (case k5q31 => with_unfolding_all rfl); (case k6q31 => intro _; with_unfolding_all rfl); walk_at "i5")
    | (refine' r_sliceTup ?k1q31 ?k2q31 ?k3q31 ?k4q31 ?k5q31 ?k6q31 ?k7q31 ?_ ?k8q31 ?k9q31; (case k1q31 => k_asm); (case k2q31 => k_asm); (case k3q31 => k_extra "m_tup"); (case k4q31 => exact cast1 _); (case k5q31 => k_extra "m_lt"); (case k6q31 => k_extra "m_lt"); (case k7q31 => k_extra "m_lt"); (case k8q31 => with_unfolding_all rfl); (case k9q31 => intro _; with_unfolding_all rfl); walk_at "i5")
    | fail "m_slice")))
  (k_with "m_list" => (first | is_list | (refine' r_isList ?qiaq32 ?qibq32; (case qiaq32 => k_asm); (case qibq32 => k_mem))))
  (k_with "m_tup" => (first | is_tup | (refine' r_isTup ?qiaq33 ?qibq33; (case qiaq33 => k_asm); (case qibq33 => k_mem))))
  (k_with "call type:tuple" => (k_dflt ((with_reducible show wpAny _ _ (call (Value.type _) [Value.ref _]) _ _ _); (refine' r_tupleOf ?k1q34 ?k2q34 ?k3q34 ?k4q34 ?_; (case k1q34 => k_asm); (case k2q34 => k_asm); (case k3q34 => k_extra "m_list"); (case k4q34 => assumption); k_whole); walk_at "i5")))
  (k_with "m_len" => (first | assumption | omega | ((try simp only [List.length_append, List.length_cons, List.length_nil, List.length_map]); omega)))
  (k_with "call builtin:len" => (k_dflt ((with_reducible show wpAny _ _ (call (Value.builtin "len") [Value.ref _]) _ _ _); first
    | (refine' r_lenList ?k1q36 ?k2q36 ?_; (case k1q36 => k_extra "m_list"); (case k2q36 => k_extra "m_len"); k_whole)
    | (refine' r_lenTup ?k1q36 ?k2q36 ?_; (case k1q36 => k_extra "m_tup"); (case k2q36 => k_extra "m_len"); k_whole)
    | fail "len")))
  (k_with "truthy ref" => (k_dflt ((with_reducible show wpAny _ _ (truthy (Value.ref _)) _ _ _); first
    | (refine' r_truthyList ?k1q37 ?k2q37 ?_; (case k1q37 => k_extra "m_list"); (case k2q37 => k_extra "m_len"); k_whole)
    | (refine' r_truthyTup ?k1q37 ?k2q37 ?_; (case k1q37 => k_extra "m_tup"); (case k2q37 => k_extra "m_len"); k_whole)
    | (refine' r_truthyDict ?k1q37 ?k2q37 ?k3q37 ?k4q37 ?k5q37 ?_; (case k1q37 => k_asm); (case k2q37 => k_mem); (case k3q37 => k_asm); (case k4q37 => assumption); (case k5q37 => k_extra "m_len"); intro _)
    | fail "truthy")))
  (k_with "compareOp In str ref" => (k_dflt ((with_reducible show wpAny _ _ (compareOp CmpOp.In (Value.str _ _) (Value.ref _)) _ _ _); first
    | (refine' in_list_strs ?k1q38 ?k2q38 ?_; (case k1q38 => k_extra "m_list"); (case k2q38 => assumption); k_whole)
    | (refine' r_inTup ?k1q38 ?k2q38 ?_; (case k1q38 => k_extra "m_tup"); (case k2q38 => assumption); k_whole)
    | fail "in")))
  (k_with "compareOp NotIn str ref" => (k_dflt ((with_reducible show wpAny _ _ (compareOp CmpOp.NotIn (Value.str _ _) (Value.ref _)) _ _ _); first
    | (refine' notin_list_strs ?k1q39 ?k2q39 ?_; (case k1q39 => k_extra "m_list"); (case k2q39 => assumption); k_whole)
    | (refine' r_notinTup ?k1q39 ?k2q39 ?_; (case k1q39 => k_extra "m_tup"); (case k2q39 => assumption); k_whole)
    | fail "notin")))
  (k_with "m_k_units" => (first | omega | (simp only [Around.deeper, Around.in1, Around.mark] at *; omega)))
  (k_with "call builtin:all" => (k_dflt ((with_reducible show wpAny _ _ (call (Value.builtin "all") [Value.ref _]) _ _ _); (refine' all_strs ?khq41 ?kFq41 ?kNq41 ?kpq41 ?_; (case kFq41 => k_asm); (case kNq41 => k_asm); (case kpq41 => assumption); (case khq41 => rfl)); intro _ _ _ _; (try simp only []))))
  (k_with "m_lt" => (first | assumption | omega))
  (k_with "subscriptTail" => (k_dflt ((with_reducible show wpAny _ _ (subscriptTail _ _ (Value.ref _) (Value.int _ _)) _ _ _); (refine' r_itemList ?k1q43 ?k2q43 ?k3q43 ?k4q43 ?k5q43 ?_ ?k6q43; (case k1q43 => k_extra "m_list"); (case k2q43 => assumption); (case k3q43 => k_extra "m_lt"); (case k4q43 => k_extra "m_lt"); (case k5q43 => k_extra "m_lt"); (case k6q43 => exact rfl)); intro _ _ _)))
  (k_with "m_din" => (first | (with_reducible assumption) | assumption | exact (rfl : _ = true) | exact (rfl : _ = false) | exact rfl))
  (k_with "m_dat" => (first | assumption | exact rfl))
  (k_with "compareOp In str ref" => (k_dflt ((with_reducible show wpAny _ _ (compareOp CmpOp.In (Value.str _ _) (Value.ref _)) _ _ _); (refine' kda_in (knd := PySem.strKind _ _) ?k1q46 ?k2q46 ?k3q46 ?k4q46 (strKind_is _ _ _ _) _ ?k6q46 ?_; (case k1q46 => k_asm); (case k2q46 => k_mem); (case k3q46 => k_asm); (case k4q46 => first | (with_reducible assumption) | assumption); (case k6q46 => k_extra "m_din")))))
  (k_with "compareOp NotIn str ref" => (k_dflt ((with_reducible show wpAny _ _ (compareOp CmpOp.NotIn (Value.str _ _) (Value.ref _)) _ _ _); (refine' kdg_notin (knd := PySem.strKind _ _) ?k1q47 ?k2q47 ?k3q47 ?k4q47 (strKind_is _ _ _ _) _ ?k6q47 ?_; (case k1q47 => k_asm); (case k2q47 => k_mem); (case k3q47 => k_asm); (case k4q47 => first | (with_reducible assumption) | assumption); (case k6q47 => k_extra "m_din")))))
  (k_with "subscriptTail" => (((with_reducible show wpAny _ _ (subscriptTail _ _ (Value.ref _) (Value.str _ _)) _ _ _); k_dflt (refine' kdt_tail ?k1q48 ?k2q48 ?k3q48 ?_ ?k4q48; (case k1q48 => k_asm); (case k2q48 => k_mem); (case k3q48 => k_asm); (case k4q48 => exact rfl)))))
  (k_with "subscriptTail" => (k_dflt ((with_reducible show wpAny _ _ (subscriptTail _ _ (Value.ref _) (Value.str _ _)) _ _ _); (refine' kda_item (knd := PySem.strKind _ _) ?k1q49 ?k2q49 ?k3q49 (strKind_is _ _ _ _) ?k4q49 ?_; (case k1q49 => k_asm); (case k2q49 => k_mem); (case k3q49 => k_asm); (case k4q49 => k_extra "m_dat")))))
  (k_with "setItem ref str" => (k_dflt ((refine' kda_set (knd := PySem.strKind _ _) ?Fq50 ?Nq50 ?Uq50 ?dq50 (strKind_is _ _ _ _) ?zq50 ?_; (case Fq50 => k_asm); (case Nq50 => k_asm); (case Uq50 => k_updF); (case dq50 => k_asm); (case zq50 => first | assumption | (rw [sizeLine_eq]; exact Nat.le_of_ble_eq_true (by with_unfolding_all rfl)))); walk_at "i5d")))
  (k_with "getAttr ref" => (k_dflt (refine' get_own ?k1q51 ?k2q51 ?k3q51 ?k4q51 ?k5q51 ?k6q51 ?k7q51 ?k8q51 ?k9q51 ?_; (case k1q51 => k_asm); (case k2q51 => k_asm); (case k3q51 => k_inst); (case k8q51 => assumption); (case k4q51 => k_is); (case k5q51 => k_is); (case k6q51 => k_is); (case k7q51 => k_is); (case k9q51 => exact rfl))))
  (k_with "call builtin:str.join" => (k_dflt ((with_reducible show wpAny _ _ (call (Value.builtin "str.join") [Value.str _ _, Value.ref _]) _ _ _); (refine' r_joinTup ?k1q52 ?k2q52 ?k3q52 ?k4q52 ?k5q52 ?_; (case k1q52 => k_extra "m_tup"); (case k2q52 => assumption); (case k3q52 => assumption); (case k4q52 => assumption); (case k5q52 => decide)); intro _ _ _ _)))
  (k_with "getMethod ref" => (k_dflt (refine' method_inst ?k1q53 ?k2q53 ?k3q53 ?k4q53 ?k5q53 ?k6q53 ?k7q53 ?_; (case k1q53 => k_asm); (case k2q53 => k_asm); (case k3q53 => k_inst); (case k7q53 => assumption); (case k4q53 => k_is); (case k5q53 => k_is); (case k6q53 => k_is))))
  (k_with "getItem ref str" => (k_dflt ((with_reducible show wpAny _ _ (getItem (Value.ref _) (Value.str _ _)) _ _ _); (refine' kdt_getItem (knd := PySem.strKind _ _) ?k1q54 ?k2q54 ?k3q54 (strKind_is _ _ _ _) ?k4q54 ?_; (case k1q54 => k_asm); (case k2q54 => k_mem); (case k3q54 => k_asm); (case k4q54 => k_extra "m_dat")))))
  (k_with "subscriptTail Name Slice ref ref" => (k_extra "m_slice"))
  (k_with "subscriptTail Attribute Slice ref ref" => (k_extra "m_slice"))
  (k_with "subscriptTail" => (k_dflt ((with_reducible show wpAny _ _ (subscriptTail _ _ (Value.ref _) (Value.int _ _)) _ _ _); (refine' r_itemL ?k1q57 ?k3q57 ?k4q57 ?k2q57 ?_ ?k6q57; (case k1q57 => k_extra "m_list"); (case k2q57 => exact rfl); (case k3q57 => decide); (case k4q57 => decide); (case k6q57 => exact rfl)))))
  (k_with "m_for" => (k_dflt ((refine' For_GF ?kFq30 ?k1q30 ?k2q30 ?_; (case kFq30 => assumption); (case k1q30 => exact PassesOwn.never); (case k2q30 => exact fun _ => rfl)))))
  trivial
inductive Fam (kvs : List (Str × Value)) (led : List (Addr × Obj)) (C : Str → List Str) (x : Str) : Prop
  | mk (a ws n) (h1 : valueAt kvs x = some (.ref a)) (h2 : (a, W.listOf (ws : List Value).toArray n) ∈ led) (h3 : StrsAre ws (C x)) : Fam kvs led C x
inductive JF1 (rl it : Addr) (C : Str → List Str) (beta : List Str) (led : List (Addr × Obj)) (self : Addr) (i : Nat) (m : Str → Option Value) (news : List (Addr × Obj)) : Prop
  | mk (rs acc k) (h1 : news = (rl, W.listOf (rs : List Value).toArray k) :: led) (h2 : StrsAre rs acc) (h3 : acc.length ≤ i * 10) (h4 : firstF C [] beta = firstF C acc (beta.drop i)) (h5 : m "self" = some (.ref self)) (h6 : m "result" = some (.ref rl)) : JF1 rl it C beta led self i m news
inductive JF2 (rl : Addr) (fs acc0 : List Str) (led : List (Addr × Obj)) (self : Addr) (i : Nat) (m : Str → Option Value) (news : List (Addr × Obj)) : Prop
  | mk (rs acc k) (h1 : news = (rl, W.listOf (rs : List Value).toArray k) :: led) (h2 : StrsAre rs acc) (h3 : acc.length ≤ acc0.length + i) (h4 : addF acc0 fs = addF acc (fs.drop i)) (h5 : m "self" = some (.ref self)) (h6 : m "result" = some (.ref rl)) (h7 : m "x_produces_empty" = some (.bool (decide (sEMP ∈ fs.take i)))) : JF2 rl fs acc0 led self i m news
theorem t_first {prog : Program} {w : World} {dp un : Nat} {fr : Option (List Env)} {gd : Option (List Code)} {s : Shared} {hb : Heap} {mg mb : Str → Option Value} {p : Program} {loose : List Str} {R : Result → Shared → Prop}
  (X : (hd.heap_1 w.params).In hb) (T : TopRead p loose mg mb hb) (hs : hb.StaysIn s.heap) (hroom : dp + 5 < recursionLimit) (hu : un + 100 < cLine)
  {led : List (Addr × Obj)} (H : Has hb s.heap led) {x dx fd bt : Addr} {es : List DictEntry} {ep bn : Nat} {ofd : Obj} {kvs : List (Str × Value)} {bs : List Value} {beta : List Str} {C : Str → List Str}
  (hx : (x, instObj 248 dx) ∈ led) (hdx : (dx, dictOf es ep) ∈ led) (hF : getL "First" es = some (some (.ref fd))) (hfd : (fd, ofd) ∈ led) (hofd : ofd.IsDictOf (strKind prog w) kvs) (hmo : (fd == sysModules) = false)
  (hbt : (bt, tupOf bs bn) ∈ led) (hB : StrsAre bs beta) (h3 : beta.length ≤ 3) (hC : ∀ z ∈ beta, Fam kvs led C z ∧ (C z).length ≤ 10)
  (post : ∀ r h' tk ws n, Kp [] s.heap h' → s.heap.get? r = none → h'.get? r = some (W.listOf (ws : List Value).toArray n) → StrsAre ws (firstF C [] beta) → R (.ok (.ret (.ref r))) { s with heap := h', toks := tk }) :
  codeAny (model prog w) ⟨none, dp, fr, gd, un⟩ (.call (.ref 223) ⟨[.ref x, .ref bt], []⟩) R s := by
  have Xs : (hd.heap_1 w.params).In s.heap := X.keeps hs
  refine' enterH (led.map (·.1)) [("self", .ref x), ("beta", .ref bt)] X T hs ?_ ?ho ?hcd (by show dp < _; omega) ?hb ?hl ?h ?hc ?h1 ?h2 ?h3
  walk_at "m_enter"
  · exact H.base
  intro g L h₁ tk F I
  refine letS ?_
  intro SH A1 en Q1
  have hA1 : A1.depth = dp + 1 := rfl
  have hA2 : A1.units = un + 3 := rfl
  have X := I.X
  have T := I.T
  have N := I.putAll H
  (try ((with_reducible show wpAny _ _ _ _ _ _); k_fold)); k_steps
  rename Fr _ _ _ _ => F
  rename News _ _ _ _ => N
  rename_i rl _ l1 _ _ _
  have hne0 : ∀ q ∈ led, q.1 ≠ rl := allLt_ne l1
  have memL : ∀ {q : Addr × Obj} {l : List (Addr × Obj)} {o : Obj}, q ∈ led → q ∈ (rl, o) :: led := fun h => .tail _ h
  refine g_strs (JF1 rl bt C beta led x) rfl (N _ (.tail _ hbt)).1 ⟨.inr rfl, _, rfl⟩ hB F N rfl rfl ⟨[], [], _, rfl, .nil, Nat.le_refl _, rfl, rfl, rfl⟩ ?_ ?_ ?_
  · rintro i m news ⟨rs, acc, k, rfl, _⟩
    exact .inl (.tail _ hbt)
  · rintro own i z u m₁ news₁ h tk hz ⟨rs, acc, k, rfl, hR, hal, hacc, hm1, hm2⟩ hoff F N
    have F := Fr_say F (x := "self") ((if_neg (by decide)).trans hm1)
    have F := Fr_say F (x := "result") ((if_neg (by decide)).trans ((if_neg (by decide)).trans hm2))
    have hzm := List.mem_of_getElem? hz
    obtain ⟨⟨a, cs, cn, hv, ha, hcs⟩, hc10⟩ := hC z hzm
    obtain ⟨hi, hdrop, _⟩ := drop_at hz
    have hne := hoff.hd
    simp only [List.cons_append] at N
    (try ((with_reducible show wpAny _ _ _ _ _ _); k_fold)); k_steps
    rename Fr _ _ _ _ => F
    rename News _ _ _ _ => N
    refine g_strs (JF2 rl (C z) acc ((led : List (Addr × Obj)) ++ own) x) rfl (N _ (List.mem_append_left _ (.tail _ ha))).1 ⟨.inl rfl, _, rfl⟩ hcs F N rfl rfl ?_ ?_ ?_ ?_
    · exact ⟨rs, acc, _, rfl, hR, Nat.le_refl _, rfl, rfl, rfl, rfl⟩
    · rintro i m news ⟨rs, acc, k, rfl, _⟩
      exact .inl (.tail _ (List.mem_append_left _ ha))
    · rintro own2 j f uf m₂ news₂ h tk hf ⟨rs, acc2, k, rfl, hR, hal2, hacc2, hm1, hm2, hm3⟩ hoff2 F N
      have F := Fr_say F (x := "self") ((if_neg (by decide)).trans hm1)
      have F := Fr_say F (x := "result") ((if_neg (by decide)).trans ((if_neg (by decide)).trans hm2))
      have F := Fr_say F (x := "x_produces_empty") ((if_neg (by decide)).trans ((if_neg (by decide)).trans ((if_neg (by decide)).trans hm3)))
      simp only [List.cons_append] at N
      obtain ⟨hj, hdrop2, htake2⟩ := drop_at hf
      have hRl := hR.length
      have hsz : rs.toArray.size ≤ sizeLine := by rw [List.size_toArray, sizeLine_eq]; omega
      have hne2 := hoff2.hd
      have hne3 : ∀ q ∈ led, q.1 ≠ rl := hne0
      (try ((with_reducible show wpAny _ _ _ _ _ _); k_fold)); k_steps
      all_goals
        rename Fr _ _ _ _ => F
      · rename News _ _ _ _ => N
        rename (f == _) = true => hb
        have hb : f = sEMP := of_decide_eq_true (beq_str hb)
        refine StepG.next (EndG.mk ((rl, W.listOf rs.toArray k) :: (led ++ own)) F N (by walk_at "m_sub") hoff2 ⟨rs, acc2, k, rfl, hR, by omega, ?_, rfl, rfl, ?_⟩)
        · rw [hacc2, hdrop2, addF, if_pos hb]
        · refine congrArg (fun z => some (Value.bool z)) (Eq.symm (decide_eq_true ?_))
          rw [htake2, hb]; exact List.mem_append_right _ (.head _)
      · rename (f == _) = false => hb
        rename (acc2.any _) = true => hin
        have hb : ¬ f = sEMP := of_decide_eq_false (beq_str hb)
        have hin := of_decide_eq_true (any_mem hin)
        refine StepG.next (EndG.mk ((rl, W.listOf rs.toArray k) :: (led ++ own)) F N (by walk_at "m_sub") hoff2 ⟨rs, acc2, k, rfl, hR, by omega, ?_, rfl, rfl, ?_⟩)
        · rw [hacc2, hdrop2, addF, if_neg hb, if_pos hin]
        · refine congrArg (fun z => some (Value.bool z)) ?_
          rw [htake2]
          exact decide_eq_decide.mpr ⟨fun q => List.mem_append_left _ q, fun q => (List.mem_append.mp q).elim id fun q => absurd (List.mem_singleton.mp q).symm hb⟩
      · rename News _ _ _ _ => N
        rename (f == _) = false => hb
        rename (acc2.any _) = false => hin
        have hb : ¬ f = sEMP := of_decide_eq_false (beq_str hb)
        have hin := of_decide_eq_false (any_mem hin)
        rw [List.push_toArray] at N
        refine StepG.next (EndG.mk ((rl, W.listOf (rs ++ [Value.str f uf]).toArray (k + 1)) :: (led ++ own)) F N (by walk_at "m_sub") (Apart.cons hne2 hoff2.tl) ⟨_, acc2 ++ [f], _, rfl, hR.append' (.cons _ _ .nil), ?_, ?_, rfl, rfl, ?_⟩)
        · rw [List.length_append]; show acc2.length + 1 ≤ _; omega
        · rw [hacc2, hdrop2, addF, if_neg hb, if_neg hin]
        · refine congrArg (fun z => some (Value.bool z)) ?_
          rw [htake2]
          exact decide_eq_decide.mpr ⟨fun q => List.mem_append_left _ q, fun q => (List.mem_append.mp q).elim id fun q => absurd (List.mem_singleton.mp q).symm hb⟩
    · rintro h tk m₂ news₂ ⟨rs, acc2, k, rfl, hR, hal2, hacc2, hm1, hm2, hm3⟩ F N
      have F := Fr_say F (x := "self") hm1
      have F := Fr_say F (x := "result") ((if_neg (by decide)).trans hm2)
      have F := Fr_say F (x := "x_produces_empty") ((if_neg (by decide)).trans ((if_neg (by decide)).trans hm3))
      rw [List.take_length] at F
      rw [List.drop_length] at hacc2
      have hlast : acc2 = addF acc (C z) := hacc2.symm
      have hRl := hR.length
      obtain ⟨e, he⟩ : ∃ e, e = decide (sEMP ∈ C z) := ⟨_, rfl⟩
      rw [← he] at F
      cases e with
      | true =>
        have hb := of_decide_eq_true he.symm
        (try ((with_reducible show wpAny _ _ _ _ _ _); k_fold)); k_steps
        rename Fr _ _ _ _ => F
        refine StepG.next (EndG.mk ((rl, W.listOf rs.toArray k) :: led) F N (by walk_at "m_sub") (Apart.cons hne hoff.tl) ⟨rs, acc2, k, rfl, hR, by omega, ?_, rfl, rfl⟩)
        rw [hacc, hdrop, firstF, if_pos hb, hlast]
      | false =>
        have hb := of_decide_eq_false he.symm
        (k_steps)
        (try dsimp only)
        (try k_unfold)
        dsimp only [StepG]
        (try ((with_reducible show wpAny _ _ _ _ _ _); k_fold)); k_steps
        rename Fr _ _ _ _ => F
        refine post rl _ _ rs _ (I.kpAll H F N (by walk_at "m_sub")) (I.new N (.head _) ?_) (N _ (.head _)).1 ?_
        · intro q; obtain ⟨p, hp, e⟩ := List.mem_map.mp q; exact hne0 p hp e
        · rw [hacc, hdrop, firstF, if_neg hb, ← hlast]; exact hR
  · rintro h tk m₂ news₂ ⟨rs, acc2, k, rfl, hR, hal2, hacc2, hm1, hm2⟩ F N
    have F := Fr_say F (x := "self") hm1
    have F := Fr_say F (x := "result") ((if_neg (by decide)).trans hm2)
    rw [List.drop_length] at hacc2
    have hRl := hR.length
    have hsz : rs.toArray.size ≤ sizeLine := by rw [List.size_toArray, sizeLine_eq]; omega
    (try ((with_reducible show wpAny _ _ _ _ _ _); k_fold)); k_steps
    rename Fr _ _ _ _ => F
    rename News _ _ _ _ => N
    rw [List.push_toArray] at N
    refine post rl _ _ (rs ++ [Value.str "<empty>" _]) _ (I.kpAll H F N (by walk_at "m_sub")) (I.new N (.head _) ?_) (N _ (.head _)).1 ?_
    · intro q; obtain ⟨p, hp, e⟩ := List.mem_map.mp q; exact hne0 p hp e
    · rw [hacc2, firstF]; exact hR.append' (.cons _ _ .nil)
inductive ProdIn (led : List (Addr × Obj)) (v : Value) (r : Str × List Str) : Prop
  | mk (xp dp es ep t D n ws) (h1 : v = .ref xp) (h2 : (xp, instObj 100 dp) ∈ led) (h3 : (dp, dictOf es ep) ∈ led) (h4 : getL "name" es = some (some (.str r.1 t))) (h5 : getL "prod" es = some (some (.ref D))) (h6 : (D, tupOf ws n) ∈ led) (h7 : StrsAre ws r.2) : ProdIn led v r
inductive ProdsIn (led : List (Addr × Obj)) : List Value → List (Str × List Str) → Prop
  | nil : ProdsIn led [] []
  | cons {v vs r rs} : ProdIn led v r → ProdsIn led vs rs → ProdsIn led (v :: vs) (r :: rs)
theorem ProdIn.mono {led led' : List (Addr × Obj)} {v : Value} {r : Str × List Str} (h : ProdIn led v r) (hs : ∀ p ∈ led, p ∈ led') : ProdIn led' v r :=
  let ⟨a, b, c, d, e, f, g, i, h0, h1, h2, h3, h4, h5, h6⟩ := h; ⟨a, b, c, d, e, f, g, i, h0, hs _ h1, hs _ h2, h3, h4, hs _ h5, h6⟩
theorem ProdsIn.mono {led led' : List (Addr × Obj)} {vs : List Value} {rs : List (Str × List Str)} (h : ProdsIn led vs rs) (hs : ∀ p ∈ led, p ∈ led') : ProdsIn led' vs rs := by
  induction h with
  | nil => exact .nil
  | cons a _ ih => exact .cons (a.mono hs) ih
theorem ProdsIn.snoc {led : List (Addr × Obj)} {v : Value} {r : Str × List Str} {vs : List Value} {rs : List (Str × List Str)} (h : ProdsIn led vs rs) (hr : ProdIn led v r) : ProdsIn led (vs ++ [v]) (rs ++ [r]) := by
  induction h with
  | nil => exact .cons hr .nil
  | cons a _ ih => exact .cons a ih
theorem ProdsIn.length {led : List (Addr × Obj)} {vs : List Value} {rs : List (Str × List Str)} (h : ProdsIn led vs rs) : vs.length = rs.length := by
  induction h with
  | nil => rfl
  | cons _ _ ih => exact congrArg (· + 1) ih
theorem ProdsIn.get {led : List (Addr × Obj)} {vs : List Value} {rs : List (Str × List Str)} (h : ProdsIn led vs rs) : ∀ {i : Nat} {v : Value}, vs[i]? = some v → ∃ r, rs[i]? = some r ∧ ProdIn led v r := by
  induction h with
  | nil => intro i v h; simp at h
  | cons a _ ih =>
    intro i v h
    cases i with
    | zero => cases Option.some.inj h; exact ⟨_, rfl, a⟩
    | succ i => exact ih h

abbrev Ent := Str × Addr × List Value × Nat
noncomputable def eLed (E : List Ent) : List (Addr × Obj) := E.map fun e => (e.2.1, W.listOf e.2.2.1.toArray e.2.2.2)
noncomputable def eKvs (E : List Ent) : List (Str × Value) := E.map fun e => (e.1, .ref e.2.1)
theorem eLed_app (E E' : List Ent) : eLed (E ++ E') = eLed E ++ eLed E' := List.map_append
theorem eKvs_app (E E' : List Ent) : eKvs (E ++ E') = eKvs E ++ eKvs E' := List.map_append
theorem eKvs_keys (E : List Ent) : (eKvs E).map (·.1) = E.map (·.1) := by simp [eKvs, Function.comp_def]
noncomputable def sK1 : List Str := ["a", "b", "c", "error"]
noncomputable def sNAM2 : List Str := ["S", "B", "A"]
theorem not_in_take {l : List Str} (hn : l.Nodup) {i : Nat} {z : Str} (h : l[i]? = some z) : z ∉ l.take i := fun q => by
  obtain ⟨j, hj, e⟩ := List.mem_take_iff_getElem.mp q
  have hi := (drop_at h).1
  rw [List.getElem?_eq_getElem hi] at h
  have hji : j < i := by omega
  exact (List.pairwise_iff_getElem.mp hn) j i (by omega) hi hji (e.trans (Option.some.inj h).symm)
inductive JFam (prog : Program) (w : World) (fd : Addr) (K : List Str) (cont : Str → List Str) (rest : List (Addr × Obj)) (self : Addr) (i : Nat) (m : Str → Option Value) (news : List (Addr × Obj)) : Prop
  | mk (o E) (h1 : news = (fd, o) :: (eLed E ++ rest)) (h2 : o.IsDictOf (strKind prog w) (eKvs E)) (h3 : E.map (·.1) = K.take i) (h4 : (∀ e ∈ E, StrsAre e.2.2.1 (cont e.1))) (h5 : ((eLed E).map (·.1)).Nodup) (h6 : Apart (eLed E) ((fd, o) :: rest)) (h7 : m "self" = some (.ref self)) : JFam prog w fd K cont rest self i m news
theorem fam_step {prog : Program} {w : World} {fd l' self : Addr} {K : List Str} {cont : Str → List Str} {rest own : List (Addr × Obj)} {i : Nat} {o o' : Obj} {E : List Ent} {z : Str} {ws : List Value}
    (ho : o'.IsDictOf (strKind prog w) (stored (eKvs E) z (.ref l'))) (hk : E.map (·.1) = K.take i) (hz : K[i]? = some z) (hnK : K.Nodup) (hc : ∀ e ∈ E, StrsAre e.2.2.1 (cont e.1)) (hw : StrsAre ws (cont z)) (hn : ((eLed E).map (·.1)).Nodup)
    (hap : Apart (eLed E) ((fd, o) :: rest)) (l1 : @LT.lt Nat _ fd l' ∧ AllLt l' (eLed E ++ (rest ++ own))) (hoff : Apart ((fd, o) :: (eLed E ++ rest)) own) :
    (∀ p ∈ ((fd, o') :: (eLed (E ++ [(z, l', ws, 0)]) ++ rest)) ++ own, p ∈ (l', W.listOf ws.toArray 0) :: (fd, o') :: (eLed E ++ (rest ++ own))) ∧ Apart ((fd, o') :: (eLed (E ++ [(z, l', ws, 0)]) ++ rest)) own ∧ ∀ m, m "self" = some (.ref self) → JFam prog w fd K cont rest self (i + 1) m ((fd, o') :: (eLed (E ++ [(z, l', ws, 0)]) ++ rest)) := by
  have hl := kst_ltOf l1.2
  have lE : ∀ q ∈ eLed E, @LT.lt Nat _ q.1 l' := fun q hq => hl q (List.mem_append_left _ hq)
  have lR : ∀ q ∈ rest, @LT.lt Nat _ q.1 l' := fun q hq => hl q (List.mem_append_right _ (List.mem_append_left _ hq))
  have lO : ∀ q ∈ own, @LT.lt Nat _ q.1 l' := fun q hq => hl q (List.mem_append_right _ (List.mem_append_right _ hq))
  have e1 : eLed (E ++ [(z, l', ws, 0)]) = eLed E ++ [(l', W.listOf ws.toArray 0)] := eLed_app _ _
  have hnew : z ∉ (eKvs E).map (·.1) := by rw [eKvs_keys, hk]; exact not_in_take hnK hz
  refine ⟨?_, ?_, fun m hm => ⟨o', E ++ [(z, l', ws, 0)], rfl, ?_, ?_, ?_, ?_, ?_, hm⟩⟩
  · intro p hp
    rw [e1] at hp
    simp only [List.mem_append, List.mem_cons, List.cons_append, List.not_mem_nil, or_false] at hp ⊢
    rcases hp with hp | ((hp | hp) | hp) | hp
    · exact .inr (.inl hp)
    · exact .inr (.inr (.inl hp))
    · exact .inl hp
    · exact .inr (.inr (.inr (.inl hp)))
    · exact .inr (.inr (.inr (.inr hp)))
  · rw [e1]
    refine Apart.cons hoff.hd (Apart.append (Apart.append (hoff.tl.sub fun p hp => List.mem_append_left _ hp) (Apart.cons (fun q hq => Nat.ne_of_lt (lO q hq)) Apart.nil)) (hoff.tl.sub fun p hp => List.mem_append_right _ hp))
  · rw [eKvs_app, show eKvs [(z, l', ws, 0)] = [(z, Value.ref l')] from rfl, ← stored_new hnew]
    exact ho
  · rw [List.map_append, hk, (drop_at hz).2.2]; rfl
  · intro e he
    rcases List.mem_append.mp he with he | he
    · exact hc e he
    · rw [List.mem_singleton.mp he]; exact hw
  · rw [e1, List.map_append]
    refine List.nodup_append.mpr ⟨hn, by simp, ?_⟩
    intro a ha b hb e
    obtain ⟨q, hq, rfl⟩ := List.mem_map.mp ha
    have hb' : b = l' := by simpa using hb
    exact absurd (lE q hq) (by rw [e, hb']; exact Nat.lt_irrefl _)
  · rw [e1]
    refine Apart.append (fun p hp q hq => ?_) (Apart.cons (fun q hq => ?_) Apart.nil)
    · rcases List.mem_cons.mp hq with rfl | hq
      · exact hap p hp (fd, o) (.head _)
      · exact hap p hp q (.tail _ hq)
    · rcases List.mem_cons.mp hq with rfl | hq
      · exact Nat.ne_of_lt l1.1
      · exact Nat.ne_of_lt (lR q hq)
noncomputable def sK5 : List Str := ["a", "b", "c", "error", "$end"]
noncomputable def cont2 (z : Str) : List Str := if z ∈ sNAMES then [] else [z]
noncomputable def L3 (la : Str → Addr) (V : Str → List Value) (K : Str → Nat) : List (Addr × Obj) := [(la "S", W.listOf (V "S").toArray (K "S")), (la "A", W.listOf (V "A").toArray (K "A")), (la "B", W.listOf (V "B").toArray (K "B"))]
structure Inj3 (la : Str → Addr) : Prop where
  sa : la "S" ≠ la "A"
  sb : la "S" ≠ la "B"
  ab : la "A" ≠ la "B"
theorem fam_inj {α β : Type} {f : α → β} : ∀ {l : List α}, (l.map f).Nodup → ∀ a ∈ l, ∀ b ∈ l, f a = f b → a = b
  | x :: l, h, a, ha, b, hb, e => by
    have h' := List.nodup_cons.mp h
    cases ha with
    | head => cases hb with
      | head => rfl
      | tail _ hb => exact absurd (e ▸ List.mem_map_of_mem hb) h'.1
    | tail _ ha => cases hb with
      | head => exact absurd (e ▸ List.mem_map_of_mem ha) h'.1
      | tail _ hb => exact fam_inj h'.2 a ha b hb e
theorem val_mem : ∀ {E : List Ent}, (E.map (·.1)).Nodup → ∀ e ∈ E, valueAt (eKvs E) e.1 = some (.ref e.2.1)
  | x :: E, h, e, he => by
    have h' := List.nodup_cons.mp h
    show Option.map _ (List.find? (fun kv => decide (kv.1 = e.1)) ((x.1, Value.ref x.2.1) :: eKvs E)) = _
    cases he with
    | head => rw [List.find?_cons_of_pos (p := fun kv : Str × Value => decide (kv.1 = x.1)) (a := (x.1, Value.ref x.2.1)) (decide_eq_true rfl)]; rfl
    | tail _ he =>
      have hne : x.1 ≠ e.1 := fun q => h'.1 (by show x.1 ∈ _; rw [q]; exact List.mem_map_of_mem (f := fun y : Ent => y.1) he)
      rw [List.find?_cons_of_neg (p := fun kv : Str × Value => decide (kv.1 = e.1)) (a := (x.1, Value.ref x.2.1)) (fun q => hne (of_decide_eq_true q))]
      exact val_mem h'.2 e he
theorem fam_ent {E : List Ent} {ns : List Str} (hk : E.map (·.1) = ns) {z : Str} (hz : z ∈ ns) : ∃ e ∈ E, e.1 = z := by
  rw [← hk] at hz
  obtain ⟨e, he, h⟩ := List.mem_map.mp hz
  exact ⟨e, he, h⟩
theorem ext3 {E : List Ent} (hnk : (E.map (·.1)).Nodup) (hn : ((eLed E).map (·.1)).Nodup) (h3 : ∀ z ∈ sNAMES, ∃ e ∈ E, e.1 = z) :
    ∃ la V K, (∀ p ∈ L3 la V K, p ∈ eLed E) ∧ Inj3 la ∧ (∀ z ∈ sNAMES, (z, la z, V z, K z) ∈ E) := by
  obtain ⟨⟨_, a, u, i⟩, hS, rfl⟩ := h3 "S" (.head _)
  obtain ⟨⟨_, b, v, j⟩, hA, rfl⟩ := h3 "A" (.tail _ (.head _))
  obtain ⟨⟨_, c, x, k⟩, hB, rfl⟩ := h3 "B" (.tail _ (.tail _ (.head _)))
  have hn' : (E.map fun e => e.2.1).Nodup := by unfold eLed at hn; rw [List.map_map] at hn; exact hn
  refine ⟨fun z => if z = "S" then a else if z = "A" then b else c, fun z => if z = "S" then u else if z = "A" then v else x, fun z => if z = "S" then i else if z = "A" then j else k, ?_, ⟨?_, ?_, ?_⟩, ?_⟩
  · intro p hp
    cases hp with
    | head => exact List.mem_map_of_mem hS
    | tail _ hp => cases hp with
      | head => exact List.mem_map_of_mem hA
      | tail _ hp => cases hp with
        | head => exact List.mem_map_of_mem hB
        | tail _ hp => exact nomatch hp
  · exact fun e => absurd (congrArg (·.1) (fam_inj hn' _ hS _ hA e)) (show ¬ (Str.ofString "S" = Str.ofString "A") by decide)
  · exact fun e => absurd (congrArg (·.1) (fam_inj hn' _ hS _ hB e)) (show ¬ (Str.ofString "S" = Str.ofString "B") by decide)
  · exact fun e => absurd (congrArg (·.1) (fam_inj hn' _ hA _ hB e)) (show ¬ (Str.ofString "A" = Str.ofString "B") by decide)
  · intro z hz
    cases hz with
    | head => exact hS
    | tail _ hz => cases hz with
      | head => exact hA
      | tail _ hz => cases hz with
        | head => exact hB
        | tail _ hz => exact nomatch hz
theorem ext_fam {E : List Ent} {ns : List Str} {cont : Str → List Str} (hk : E.map (·.1) = sK5 ++ ns) (hns : ns = sNAMES ∨ ns = sNAM2) (hc : ∀ e ∈ E, StrsAre e.2.2.1 (cont e.1)) (hn : ((eLed E).map (·.1)).Nodup) :
    ∃ la V K E5, (∀ p ∈ L3 la V K ++ eLed E5, p ∈ eLed E) ∧ E5.map (·.1) = sK5 ∧ Inj3 la ∧ (∀ z ∈ sNAMES, valueAt (eKvs E) z = some (.ref (la z)) ∧ StrsAre (V z) (cont z)) ∧ (∀ e ∈ E5, valueAt (eKvs E) e.1 = some (.ref e.2.1) ∧ StrsAre e.2.2.1 (cont e.1)) ∧
      Apart (eLed E5) (L3 la V K) := by
  have e8 : E = E.take 5 ++ E.drop 5 := (List.take_append_drop 5 E).symm
  have hnk : (E.map (·.1)).Nodup := by rw [hk]; rcases hns with h | h <;> rw [h] <;> decide
  obtain ⟨la, V, K, h1, h2, h3⟩ := ext3 hnk hn fun z hz => fam_ent hk (List.mem_append_right _ (hns.elim (fun h => h ▸ hz) fun h => h ▸ (by decide : ∀ z ∈ sNAMES, z ∈ sNAM2) z hz))
  have k5 : (E.take 5).map (·.1) = sK5 := by rw [List.map_take, hk]; rfl
  have hs : ∀ e ∈ E.take 5, e ∈ E := fun e he => List.mem_of_mem_take he
  refine ⟨la, V, K, E.take 5, ?_, k5, h2, fun z hz => ⟨val_mem hnk _ (h3 z hz), hc _ (h3 z hz)⟩, fun e he => ⟨val_mem hnk _ (hs e he), hc _ (hs e he)⟩, ?_⟩
  · intro p hp
    rcases List.mem_append.mp hp with hp | hp
    · exact h1 p hp
    · obtain ⟨e, he, rfl⟩ := List.mem_map.mp hp
      exact List.mem_map_of_mem (hs e he)
  · intro p hp q hq e
    obtain ⟨x, hx, rfl⟩ := List.mem_map.mp hp
    have hn' : (E.map fun e => e.2.1).Nodup := by unfold eLed at hn; rw [List.map_map] at hn; exact hn
    have hy : ∃ z ∈ sNAMES, q = (la z, W.listOf (V z).toArray (K z)) := by
      cases hq with
      | head => exact ⟨_, .head _, rfl⟩
      | tail _ hq => cases hq with
        | head => exact ⟨_, .tail _ (.head _), rfl⟩
        | tail _ hq => cases hq with
          | head => exact ⟨_, .tail _ (.tail _ (.head _)), rfl⟩
          | tail _ hq => exact nomatch hq
    obtain ⟨z, hz, rfl⟩ := hy
    have hx5 : x.1 ∈ sK5 := k5 ▸ List.mem_map_of_mem hx
    rw [← fam_inj hn' _ (h3 z hz) _ (hs x hx) e] at hx5
    exact (by decide : ∀ z ∈ sNAMES, z ∉ sK5) z hz hx5
noncomputable def upd {α : Type} (C : Str → α) (z : Str) (v : α) : Str → α := fun y => if y = z then v else C y
theorem upd_same {α : Type} {C : Str → α} {z : Str} {v : α} : upd C z v z = v := if_pos rfl
theorem upd_ne {α : Type} {C : Str → α} {z y : Str} {v : α} (h : y ≠ z) : upd C z v y = C y := if_neg h
theorem mem_L3 {la : Str → Addr} {V : Str → List Value} {K : Str → Nat} {z : Str} (hz : z ∈ sNAMES) : (la z, W.listOf (V z).toArray (K z)) ∈ L3 la V K := by
  simp only [sNAMES, List.mem_cons, List.not_mem_nil, or_false] at hz
  rcases hz with rfl | rfl | rfl <;> simp [L3]
section
variable {prog : Program} {w : World} {A : Around} {E : Value → Shared → Prop} {s : Shared} {g : Heap} {L : Addr} {m : Str → Option Value}
theorem append_L3 {la : Str → Addr} {V : Str → List Value} {K : Str → Nat} {rst : List (Addr × Obj)} {z : Str} {x : Value} {Q : Value → Shared → Prop} (F : Fr g L s.heap m) (N : News g L s.heap (L3 la V K ++ rst)) (hz : z ∈ sNAMES) (hi : Inj3 la) (hr : ∀ z ∈ sNAMES, ∀ q ∈ rst, q.1 ≠ la z) (hsz : (V z).length ≤ 16384)
    (h : ∀ h', Fr g L h' m → News g L h' (L3 la (upd V z (V z ++ [x])) (upd K z (K z + 1)) ++ rst) → Q .none { s with heap := h' }) : wpAny (model prog w) A (call (.builtin "list.append") [.ref (la z), x]) Q E s := by
  have hs : (V z).toArray.size ≤ sizeLine := by rw [List.size_toArray, sizeLine_eq]; omega
  have hrz := hr z hz
  have e : W.listOf ((V z).toArray.push x) (K z + 1) = W.listOf (V z ++ [x]).toArray (K z + 1) := by rw [List.push_toArray]
  have U : Upd (la z) (W.listOf (V z).toArray (K z)) (W.listOf ((V z).toArray.push x) (K z + 1)) (L3 la V K ++ rst) (L3 la (upd V z (V z ++ [x])) (upd K z (K z + 1)) ++ rst) := by
    rw [e]
    simp only [sNAMES, List.mem_cons, List.not_mem_nil, or_false] at hz
    rcases hz with rfl | rfl | rfl
    · refine Upd.head ?_
      intro q hq
      rcases List.mem_cons.mp hq with rfl | hq
      · exact hi.sa.symm
      · rcases List.mem_cons.mp hq with rfl | hq
        · exact hi.sb.symm
        · exact hrz q hq
    · refine Upd.tail hi.sa (Upd.head ?_)
      intro q hq
      rcases List.mem_cons.mp hq with rfl | hq
      · exact hi.ab.symm
      · exact hrz q hq
    · refine Upd.tail hi.sb (Upd.tail hi.ab (Upd.head ?_))
      intro q hq
      exact hrz q hq
  exact append_K (hsz := hs) F N U h
end
noncomputable def Snd (rules : List (Str × List Str)) (C : Str → List Str) : Prop := (∀ z ∈ sNAMES, ∀ f ∈ C z, FD rules z f) ∧ ∀ t ∈ (["a", "b", "c"] : List Str), C t = [t]
noncomputable def tot (C : Str → List Str) : Nat := (C "S").length + (C "A").length + (C "B").length
inductive JC (la : Str → Addr) (S : (Str → List Str) → Prop) (x : Addr) (rst : List (Addr × Obj)) (C0 : Str → List Str) (ch : Str) (D : Prop) (m : Str → Option Value) (news : List (Addr × Obj)) : Prop
  | mk (V K C sc) (h1 : news = L3 la V K ++ rst) (h2 : (∀ z ∈ sNAMES, StrsAre (V z) (C z))) (h3 : S C) (h4 : (∀ z ∈ sNAMES, (C z).Nodup)) (h5 : (sc = false → C = C0 ∧ D)) (h6 : (sc = true → tot C0 < tot C)) (h7 : m "self" = some (.ref x)) (h8 : m ch = some (.bool sc)) : JC la S x rst C0 ch D m news
inductive JW (la : Str → Addr) (S : (Str → List Str) → Prop) (x : Addr) (rst : List (Addr × Obj)) (B n : Nat) (m : Str → Option Value) (news : List (Addr × Obj)) : Prop
  | mk (V K C) (h1 : news = L3 la V K ++ rst) (h2 : (∀ z ∈ sNAMES, StrsAre (V z) (C z))) (h3 : S C) (h4 : (∀ z ∈ sNAMES, (C z).Nodup)) (h5 : n = B - tot C) (h6 : m "self" = some (.ref x)) : JW la S x rst B n m news
theorem nodup_len : ∀ {l m : List Str}, l.Nodup → (∀ x ∈ l, x ∈ m) → l.length ≤ m.length
  | [], m, _, _ => Nat.zero_le _
  | x :: l, m, hn, hs => by
    have hx := hs x (.head _)
    have hn' := List.nodup_cons.mp hn
    have := nodup_len (m := m.erase x) hn'.2 fun y hy => (List.mem_erase_of_ne (fun e : y = x => hn'.1 (by rw [← e]; exact hy))).mpr (hs y (.tail _ hy))
    rw [List.length_erase_of_mem hx] at this
    have : 0 < m.length := List.length_pos_of_mem hx
    rw [List.length_cons]
    omega
theorem len4 {rules : List (Str × List Str)} {C : Str → List Str} (h : Snd rules C) (hn : ∀ z ∈ sNAMES, (C z).Nodup) : ∀ z ∈ sNAMES, (C z).length ≤ 4 := fun z hz =>
  nodup_len (m := ["a", "b", "c", sEMP]) (hn z hz) fun f hf => fd_mem (h.1 z hz f hf)
theorem tot_upd {C : Str → List Str} {z f : Str} (hz : z ∈ sNAMES) : tot (upd C z (C z ++ [f])) = tot C + 1 := by
  have e1 : ("A" : Str) ≠ "S" := by decide
  have e2 : ("B" : Str) ≠ "S" := by decide
  have e3 : ("B" : Str) ≠ "A" := by decide
  simp only [sNAMES, List.mem_cons, List.not_mem_nil, or_false] at hz
  rcases hz with rfl | rfl | rfl
  · rw [tot, upd_same, upd_ne e1, upd_ne e2, List.length_append, tot]; show _ + 1 + _ + _ = _; omega
  · rw [tot, upd_same, upd_ne e1.symm, upd_ne e3, List.length_append, tot]; show _ + (_ + 1) + _ = _; omega
  · rw [tot, upd_same, upd_ne e2.symm, upd_ne e3.symm, List.length_append, tot]; show _ + _ + (_ + 1) = _; omega
theorem jc_more {la : Str → Addr} {S : (Str → List Str) → Prop} {x : Addr} {rst : List (Addr × Obj)} {C0 : Str → List Str} {ch : Str} {D : Prop} {m : Str → Option Value} {V : Str → List Value} {K : Str → Nat} {C : Str → List Str} {sc : Bool} {z f : Str} {u : Tok}
    (hz : z ∈ sNAMES) (hV : ∀ z ∈ sNAMES, StrsAre (V z) (C z)) (hS : S (upd C z (C z ++ [f]))) (hn : ∀ z ∈ sNAMES, (C z).Nodup) (h0 : sc = false → C = C0) (h1 : sc = true → tot C0 < tot C) (hf : f ∉ C z) (hm : m "self" = some (.ref x)) (hm2 : m ch = some (.bool true)) :
    JC la S x rst C0 ch D m (L3 la (upd V z (V z ++ [Value.str f u])) (upd K z (K z + 1)) ++ rst) := by
  refine ⟨_, _, upd C z (C z ++ [f]), true, rfl, fun y hy => ?_, hS, fun y hy => ?_, (fun h => nomatch h), fun _ => ?_, hm, hm2⟩
  · by_cases e : y = z
    · subst e; rw [upd_same, upd_same]; exact (hV y hy).append' (.cons _ _ .nil)
    · rw [upd_ne e, upd_ne e]; exact hV y hy
  · by_cases e : y = z
    · subst e; rw [upd_same]
      refine List.nodup_append.mpr ⟨hn y hy, by simp, ?_⟩
      intro a ha b hb e
      rw [List.mem_singleton.mp hb] at e
      exact hf (e ▸ ha)
    · rw [upd_ne e]; exact hn y hy
  · rw [tot_upd hz]
    cases sc with
    | false => rw [h0 rfl]; exact Nat.lt_succ_self _
    | true => exact Nat.lt_succ_of_lt (h1 rfl)
noncomputable def Clo (rules : List (Str × List Str)) (C : Str → List Str) (n : Str) : Prop := ∀ r ∈ rules.filter (fun r => r.1 = n), ∀ f ∈ firstF C [] r.2, f ∈ C n
theorem snd_upd {rules : List (Str × List Str)} {C : Str → List Str} {z f : Str} (hS : Snd rules C) (hz : z ∈ sNAMES) (hf : FD rules z f) : Snd rules (upd C z (C z ++ [f])) := by
  refine ⟨fun y hy g hg => ?_, fun t ht => ?_⟩
  · by_cases e : y = z
    · subst e; rw [upd_same] at hg
      rcases List.mem_append.mp hg with hg | hg
      · exact hS.1 y hy g hg
      · rw [List.mem_singleton.mp hg]; exact hf
    · rw [upd_ne e] at hg; exact hS.1 y hy g hg
  · rw [upd_ne, hS.2 t ht]
    rintro rfl
    exact (by decide : ∀ t ∈ (["a", "b", "c"] : List Str), t ∉ sNAMES) _ ht hz
theorem sym_term {y : Str} (hy : y ∈ sSYMS) (hz : y ∉ sNAMES) : y ∈ (["a", "b", "c"] : List Str) := by
  simp only [sSYMS, sNAMES, List.mem_cons, List.not_mem_nil, or_false, not_or] at hy hz ⊢
  rcases hy with h | h | h | h | h | h
  · exact absurd h hz.1
  · exact absurd h hz.2.1
  · exact absurd h hz.2.2
  · exact .inl h
  · exact .inr (.inl h)
  · exact .inr (.inr h)
theorem snd_fd {rules : List (Str × List Str)} {C : Str → List Str} (hS : Snd rules C) {y f : Str} (hy : y ∈ sSYMS) (hf : f ∈ C y) : FD rules y f := by
  by_cases hz : y ∈ sNAMES
  · exact hS.1 y hz f hf
  · have ht : y ∈ (["a", "b", "c"] : List Str) := by
      simp only [sSYMS, sNAMES, List.mem_cons, List.not_mem_nil, or_false, not_or] at hy hz ⊢
      rcases hy with h | h | h | h | h | h
      · exact absurd h hz.1
      · exact absurd h hz.2.1
      · exact absurd h hz.2.2
      · exact .inl h
      · exact .inr (.inl h)
      · exact .inr (.inr h)
    rw [hS.2 y ht] at hf
    rw [List.mem_singleton.mp hf]
    refine .inr ⟨?_, .term ht⟩
    rintro rfl
    exact absurd ht (by decide)
theorem snd_first {rules : List (Str × List Str)} {C : Str → List Str} (hS : Snd rules C) {n f : Str} {b : List Str} (hr : (n, b) ∈ rules) (hb : ∀ y ∈ b, y ∈ sSYMS) (hf : f ∈ firstF C [] b) : FD rules n f :=
  fd_rule hr ((mem_first.mp hf).mono fun y hy g hg => snd_fd hS (hb y hy) hg)
theorem own_ne {la : Str → Addr} {V : Str → List Value} {K : Str → Nat} {rst own : List (Addr × Obj)} (hoff : Apart (L3 la V K ++ rst) own) : ∀ z ∈ sNAMES, ∀ q ∈ own, q.1 ≠ la z := fun z hz q hq => hoff _ (List.mem_append_left _ (mem_L3 hz)) q hq
theorem apart_L3 {la : Str → Addr} {V : Str → List Value} {K : Str → Nat} {own : List (Addr × Obj)} (h : ∀ z ∈ sNAMES, ∀ q ∈ own, q.1 ≠ la z) : Apart (L3 la V K) own :=
  Apart.cons (h "S" (by decide)) (Apart.cons (h "A" (by decide)) (Apart.cons (h "B" (by decide)) Apart.nil))
end SG
theorem reg_A : True := by
  (k_with "call builtin:list.append" => (k_dflt ((with_reducible show wpAny _ _ (call (Value.builtin "list.append") [Value.ref _, _]) _ _ _); (refine' append_L3 ?k1q62 ?k2q62 ?k3q62 ?k4q62 ?k5q62 ?k6q62 ?_; (case k1q62 => k_asm); (case k2q62 => k_asm); (case k3q62 => assumption); (case k4q62 => assumption); (case k5q62 => assumption); (case k6q62 => assumption)); intro _ _ _)))
  trivial
section SH
theorem t_cfirst {prog : Program} {w : World} {dp un : Nat} {fr : Option (List Env)} {gd : Option (List Code)} {s : Shared} {hb : Heap} {mg mb : Str → Option Value} {p : Program} {loose : List Str} {R : Result → Shared → Prop}
  (X : (hd.heap_1 w.params).In hb) (T : TopRead p loose mg mb hb) (hs : hb.StaysIn s.heap) (hroom : dp + 10 < recursionLimit) (hu : un + 200 < cLine)
  {rest : List (Addr × Obj)} {x dx fd td nd pn : Addr} {es : List DictEntry} {ep : Nat} {ofd otd ond opn : Obj} {kT kN kP : List (Str × Value)} {rules : List (Str × List Str)}
  (H : Has hb s.heap ((fd, ofd) :: rest)) (hfr : ∀ q ∈ rest, q.1 ≠ fd)
  (hx : (x, instObj 248 dx) ∈ rest) (hdx : (dx, dictOf es ep) ∈ rest)
  (hF : getL "First" es = some (some (.ref fd))) (hT : getL "Terminals" es = some (some (.ref td))) (hN : getL "Nonterminals" es = some (some (.ref nd))) (hP : getL "Prodnames" es = some (some (.ref pn))) (hMf : getL "_first" es = some none)
  (hofd : ofd.IsDictOf (strKind prog w) []) (hm1 : (fd == sysModules) = false) (htd : (td, otd) ∈ rest) (hotd : otd.IsDictOf (strKind prog w) kT) (hm2 : (td == sysModules) = false)
  (hnd : (nd, ond) ∈ rest) (hond : ond.IsDictOf (strKind prog w) kN) (hm3 : (nd == sysModules) = false) (hpn : (pn, opn) ∈ rest) (hopn : opn.IsDictOf (strKind prog w) kP) (hm4 : (pn == sysModules) = false)
  (hkT : kT.map (·.1) = sK1) (hkN : kN.map (·.1) = sNAMES ∨ kN.map (·.1) = sNAM2)
  (hkP : ∀ z ∈ sNAMES, ∃ a ws n, valueAt kP z = some (.ref a) ∧ (a, W.listOf (ws : List Value).toArray n) ∈ rest ∧ ProdsIn rest ws (rules.filter fun r => r.1 = z))
  (hok : ∀ r ∈ rules, RuleOk r) (hlen : rules.length ≤ 7)
  (post : ∀ h' tk o' kF la (V : Str → List Value) (K : Str → Nat) (C : Str → List Str) E5, Kp (((fd, ofd) :: rest).map (·.1)) s.heap h' → Left ((fd, ofd) :: rest) s.heap h' (L3 la V K ++ (fd, o') :: (eLed E5 ++ rest)) → o'.IsDictOf (strKind prog w) kF → kF.length = 8 →
    (∀ z ∈ sNAMES, valueAt kF z = some (.ref (la z)) ∧ StrsAre (V z) (C z) ∧ (C z).Nodup ∧ ∀ f, f ∈ C z ↔ FD rules z f) → E5.map (·.1) = sK5 → (∀ e ∈ E5, valueAt kF e.1 = some (.ref e.2.1) ∧ StrsAre e.2.2.1 [e.1]) →
    R (.ok (.ret (.ref fd))) { s with heap := h', toks := tk }) :
  codeAny (model prog w) ⟨none, dp, fr, gd, un⟩ (.call (.ref 230) ⟨[.ref x], []⟩) R s := by
  have Xs : (hd.heap_1 w.params).In s.heap := X.keeps hs
  refine' enterH (((fd, ofd) :: rest).map (·.1)) [("self", .ref x)] X T hs ?_ ?ho ?hcd (by show dp < _; omega) ?hb ?hl ?h ?hc ?h1 ?h2 ?h3
  walk_at "m_enter"
  · exact H.base
  intro g L h₁ tk F I
  refine letS ?_
  intro SH A1 en Q1
  have hA1 : A1.depth = dp + 1 := rfl
  have hA2 : A1.units = un + 3 := rfl
  have X := I.X
  have T := I.T
  have N := I.putAll H
  have lkT : kT.length = 4 := by have := congrArg List.length hkT; rw [List.length_map] at this; exact this
  have lkN : kN.length = 3 := by rcases hkN with h | h <;> (have := congrArg List.length h; rw [List.length_map] at this; exact this)
  (try ((with_reducible show wpAny _ _ _ _ _ _); k_fold)); k_steps
  rename Fr _ _ _ _ => F
  have hn0 : kT.map (·.1) = sK1.take kT.length := by rw [hkT, lkT]; rfl
  refine g_keys (JFam prog w fd sK1 (fun z => [z]) rest x) rfl (N _ (.tail _ htd)).1 hotd hm2 F N rfl rfl ⟨ofd, [], rfl, hofd, rfl, (fun _ h => nomatch h), List.nodup_nil, Apart.nil, rfl⟩ ?_ ?_ ?_
  · rintro i m news ⟨o, E, rfl, _⟩
    exact .inl (.tail _ (List.mem_append_right _ htd))
  · rintro own i z v u m₁ news₁ h tk hz ⟨o, E, rfl, ho, hk, hcon, hnd1, hap, hms⟩ hoff F N
    have F := Fr_say F (x := "self") ((if_neg (by decide)).trans hms)
    simp only [List.cons_append, List.append_assoc] at N
    have hi : i < 4 := by
      have := (drop_at hz).1
      omega
    have hE : ∀ q ∈ eLed E, q.1 ≠ fd := fun q hq e => hap q hq _ (.head _) e.symm
    have hO : ∀ q ∈ own, q.1 ≠ fd := hoff.hd
    have hEl : (eKvs E).length ≤ 4 := by
      have := congrArg List.length hk
      rw [List.length_map, List.length_take] at this
      rw [eKvs, List.length_map, this]
      exact Nat.le_trans (Nat.min_le_right _ _) (by decide)
    have hsz : (eKvs E).length ≤ sizeLine := by rw [sizeLine_eq]; omega
    have hkz : sK1[i]? = some z := by
      have := congrArg (fun l => l[i]?) hkT
      simpa [hz] using this.symm
    have hnew : z ∉ (eKvs E).map (·.1) := by
      rw [eKvs_keys, hk]
      exact not_in_take (by decide) hkz
    (try ((with_reducible show wpAny _ _ _ _ _ _); k_fold)); k_steps
    rename Fr _ _ _ _ => F
    rename News _ _ _ _ => N
    rename Obj.IsDictOf _ _ (stored _ _ _) => hd'
    rename _ ∧ AllLt _ _ => l1
    obtain ⟨q0, q1, q2⟩ := fam_step (cont := fun z => [z]) (ws := [Value.str z u]) hd' hk hkz (by decide) hcon (.cons _ _ .nil) hnd1 hap l1 hoff
    exact StepG.next (EndG.mk _ F N q0 q1 (q2 _ rfl))
  · rintro h tk m₁ news₁ ⟨o, E, rfl, ho, hk, hcon, hnd1, hap, hms⟩ F N
    have F := Fr_say F (x := "self") hms
    rw [show sK1.take kT.length = sK1 by rw [lkT]; rfl] at hk
    have hE : ∀ q ∈ eLed E, q.1 ≠ fd := fun q hq e => hap q hq _ (.head _) e.symm
    have hEl : (eKvs E).length = 4 := by
      have := congrArg List.length hk
      rw [List.length_map] at this
      rw [eKvs, List.length_map, this]; rfl
    have hsz : (eKvs E).length ≤ sizeLine := by rw [sizeLine_eq]; omega
    (try ((with_reducible show wpAny _ _ _ _ _ _); k_fold)); k_steps
    rename Fr _ _ _ _ => F
    rename News _ _ _ _ => N
    rename Obj.IsDictOf _ _ (stored _ _ _) => hd'
    rename _ ∧ AllLt _ _ => l1
    have hns : sK5 ++ kN.map (·.1) = sK5 ++ sNAMES ∨ sK5 ++ kN.map (·.1) = sK5 ++ sNAM2 := hkN.imp (fun h => by rw [h]) fun h => by rw [h]
    have hK2n : (sK5 ++ kN.map (·.1)).Nodup := by rcases hns with h | h <;> rw [h] <;> decide
    have hcon2 : ∀ e ∈ E, StrsAre e.2.2.1 (cont2 e.1) := fun e he => by
      have : e.1 ∈ sK1 := hk ▸ List.mem_map_of_mem he
      rw [show cont2 e.1 = [e.1] from if_neg fun q => (by decide : ∀ z ∈ sK1, z ∉ sNAMES) _ this q]
      exact hcon e he
    obtain ⟨q0, q1, q2⟩ := fam_step (K := sK5 ++ kN.map (·.1)) (i := 4) (cont := cont2) (ws := [Value.str "$end" _]) (own := []) hd' (by rw [hk]; rfl) rfl hK2n hcon2 (.cons _ _ .nil) hnd1 hap (by rw [List.append_nil]; exact l1) (fun _ _ _ h => nomatch h)
    rw [List.append_nil, List.append_nil] at q0
    refine g_keys (fun i => JFam prog w fd (sK5 ++ kN.map (·.1)) cont2 rest x (5 + i)) rfl (N _ (.tail _ (.tail _ (List.mem_append_right _ hnd)))).1 hond hm3 F (News_sub N q0) rfl rfl (q2 _ rfl) ?_ ?_ ?_
    · rintro i m news ⟨o, E, rfl, _⟩
      exact .inl (.tail _ (List.mem_append_right _ hnd))
    · clear hap hnd1 hcon hcon2 hk ho hE hEl hsz q0 q1 q2 hd' N F l1
      rintro own i z v u m₁ news₁ h tk hz ⟨o, E, rfl, ho, hk, hcon, hnd1, hap, hms⟩ hoff F N
      have F := Fr_say F (x := "self") ((if_neg (by decide)).trans hms)
      simp only [List.cons_append, List.append_assoc] at N
      have hi : i < 3 := by
        have := (drop_at hz).1
        omega
      have hE : ∀ q ∈ eLed E, q.1 ≠ fd := fun q hq e => hap q hq _ (.head _) e.symm
      have hO : ∀ q ∈ own, q.1 ≠ fd := hoff.hd
      have hEl : (eKvs E).length ≤ 8 := by
        have := congrArg List.length hk
        rw [List.length_map, List.length_take] at this
        rw [eKvs, List.length_map, this]
        exact Nat.le_trans (Nat.min_le_left _ _) (by omega)
      have hsz : (eKvs E).length ≤ sizeLine := by rw [sizeLine_eq]; omega
      have hkz0 : (kN.map (·.1))[i]? = some z := by rw [List.getElem?_map, hz]; rfl
      have hkz : (sK5 ++ kN.map (·.1))[5 + i]? = some z := by
        rw [List.getElem?_append_right (by show 5 ≤ _; omega)]
        show (kN.map (·.1))[5 + i - 5]? = _
        rw [Nat.add_sub_cancel_left]; exact hkz0
      have hzn : z ∈ sNAMES := by
        have := List.mem_of_getElem? hkz0
        rcases hkN with h | h <;> rw [h] at this
        · exact this
        · exact (by decide : ∀ y ∈ sNAM2, y ∈ sNAMES) _ this
      have hnew : z ∉ (eKvs E).map (·.1) := by
        rw [eKvs_keys, hk]
        exact not_in_take hK2n hkz
      (try ((with_reducible show wpAny _ _ _ _ _ _); k_fold)); k_steps
      rename Fr _ _ _ _ => F
      rename News _ _ _ _ => N
      rename Obj.IsDictOf _ _ (stored _ _ _) => hd'
      rename _ ∧ AllLt _ _ => l1
      obtain ⟨q0, q1, q2⟩ := fam_step (cont := cont2) (ws := []) hd' hk hkz hK2n hcon (by rw [show cont2 z = [] from if_pos hzn]; exact .nil) hnd1 hap l1 hoff
      exact StepG.next (EndG.mk _ F N q0 q1 (q2 _ rfl))
    · clear hap hnd1 hcon hcon2 hk ho hE hEl hsz q0 q1 q2 hd' N F l1
      rintro h tk m₁ news₁ ⟨o, E, rfl, ho, hk, hcon, hnd1, hap, hms⟩ F N
      have F := Fr_say F (x := "self") hms
      rw [show (sK5 ++ kN.map (·.1)).take (5 + kN.length) = sK5 ++ kN.map (·.1) from List.take_of_length_le (by rw [List.length_append, List.length_map]; exact Nat.le_refl _)] at hk
      obtain ⟨la, V, K, E5, hsub, hk5, hinj, hla, h5, hap5⟩ := ext_fam hk hkN hcon hnd1
      (try ((with_reducible show wpAny _ _ _ _ _ _); k_fold)); k_steps
      rename Fr _ _ _ _ => F
      rename News _ _ _ _ => N
      refine unhalt ?_
      obtain ⟨rest2, hr2⟩ : ∃ r, r = (fd, o) :: (eLed E5 ++ rest) := ⟨_, rfl⟩
      have rsub : ∀ q ∈ rest, q ∈ rest2 := fun q hq => by rw [hr2]; exact .tail _ (List.mem_append_right _ hq)
      have r_fd : (fd, o) ∈ rest2 := by rw [hr2]; exact .head _
      have r_5 : ∀ q ∈ eLed E5, q ∈ rest2 := fun q hq => by rw [hr2]; exact .tail _ (List.mem_append_left _ hq)
      have rx := rsub _ hx
      have rdx := rsub _ hdx
      have rnd := rsub _ hnd
      have rpn := rsub _ hpn
      have hap2 : ∀ z ∈ sNAMES, ∀ q ∈ rest2, q.1 ≠ la z := by
        intro z hz q hq
        have h1 : (la z, W.listOf (V z).toArray (K z)) ∈ eLed E := hsub _ (List.mem_append_left _ (mem_L3 hz))
        rw [hr2] at hq
        rcases List.mem_cons.mp hq with rfl | hq
        · exact hap _ h1 _ (.head _)
        · rcases List.mem_append.mp hq with hq | hq
          · exact (hap5 q hq _ (mem_L3 hz)).symm
          · exact hap _ h1 _ (.tail _ hq)
      have N := News_sub N (news' := L3 la V K ++ rest2) (by
        intro q hq
        rcases List.mem_append.mp hq with hq | hq
        · exact .tail _ (List.mem_append_left _ (hsub q (List.mem_append_left _ hq)))
        · rw [hr2] at hq
          rcases List.mem_cons.mp hq with rfl | hq
          · exact .head _
          · rcases List.mem_append.mp hq with hq | hq
            · exact .tail _ (List.mem_append_left _ (hsub q (List.mem_append_right _ hq)))
            · exact .tail _ (List.mem_append_right _ hq))
      have hft : ∀ t ∈ (["a", "b", "c"] : List Str), Fam (eKvs E) rest2 (fun z => [z]) t := by
        intro t ht
        have : t ∈ E5.map (·.1) := by rw [hk5]; exact (by decide : ∀ t ∈ (["a", "b", "c"] : List Str), t ∈ sK5) t ht
        obtain ⟨e, he, rfl⟩ := List.mem_map.mp this
        have h6 := h5 e he
        rw [show cont2 e.1 = [e.1] from if_neg fun q => (by decide : ∀ t ∈ (["a", "b", "c"] : List Str), t ∉ sNAMES) _ ht q] at h6
        exact ⟨e.2.1, e.2.2.1, e.2.2.2, h6.1, r_5 _ (List.mem_map_of_mem (f := fun e : Ent => (e.2.1, W.listOf e.2.2.1.toArray e.2.2.2)) he), h6.2⟩
      have hfam : ∀ (V : Str → List Value) (K : Str → Nat) (C : Str → List Str) (rst : List (Addr × Obj)), (∀ z ∈ sNAMES, StrsAre (V z) (C z)) → Snd rules C → (∀ z ∈ sNAMES, (C z).Nodup) → (∀ q ∈ rest2, q ∈ rst) → ∀ y ∈ sSYMS, Fam (eKvs E) (L3 la V K ++ rst) C y ∧ (C y).length ≤ 10 := by
        intro V K C rst hV hS hn hsub y hy
        by_cases hz : y ∈ sNAMES
        · exact ⟨⟨_, _, _, (hla y hz).1, List.mem_append_left _ (mem_L3 hz), hV y hz⟩, Nat.le_trans (len4 hS hn y hz) (by decide)⟩
        · have ht := sym_term hy hz
          obtain ⟨a, ws, n, h1, h2, h3⟩ := hft y ht
          have e := hS.2 y ht
          exact ⟨⟨a, ws, n, h1, List.mem_append_right _ (hsub _ h2), by rw [e]; exact h3⟩, by rw [e]; show 1 ≤ 10; omega⟩
      refine' While_inv2 (n₀ := 12 - tot cont2) (JW la (Snd rules) x rest2 12) ?kF ?kN ?kJ ?_ ?kE
      case kF => exact F
      case kN => exact N
      case kE => exact PassesOwn.never
      case kJ =>
        refine ⟨V, K, cont2, rfl, fun z hz => (hla z hz).2, ⟨fun z hz f hf => ?_, fun t ht => if_neg ((by decide : ∀ t ∈ (["a", "b", "c"] : List Str), t ∉ sNAMES) t ht)⟩, fun z hz => ?_, rfl, rfl⟩
        · rw [show cont2 z = [] from if_pos hz] at hf; cases hf
        · rw [show cont2 z = [] from if_pos hz]; exact List.nodup_nil
      clear N F hap hnd1 hcon hsub
      rintro n m₁ news₁ h tk F N ⟨V, K, C0, rfl, hV, hS, hn, rfl, hms⟩
      have F := Fr_say F (x := "self") hms
      (try ((with_reducible show wpAny _ _ _ _ _ _); k_fold)); k_steps
      rename Fr _ _ _ _ => F
      rename News _ _ _ _ => N
      refine g_keys (fun i => JC la (Snd rules) x rest2 C0 "some_change" (∀ n ∈ (kN.map (·.1)).take i, Clo rules C0 n)) rfl (News.get N (List.mem_append_right _ rnd)) hond hm3 F N rfl rfl ⟨V, K, C0, false, rfl, hV, hS, hn, (fun _ => ⟨rfl, fun _ h => nomatch h⟩), (fun h => nomatch h), rfl, rfl⟩ ?_ ?_ ?_
      · rintro i m news ⟨V, K, C, sc, rfl, _⟩
        exact .inl (List.mem_append_right _ rnd)
      · rintro own i z v u m₁ news₁ h tk hz ⟨V, K, C, sc, rfl, hV, hS, hn, h0, h1, hms, hsc⟩ hoff F N
        have F := Fr_say F (x := "self") ((if_neg (by decide)).trans hms)
        have F := Fr_say F (x := "some_change") ((if_neg (by decide)).trans ((if_neg (by decide)).trans hsc))
        have hkz0 : (kN.map (·.1))[i]? = some z := by rw [List.getElem?_map, hz]; rfl
        have hzn : z ∈ sNAMES := by
          have := List.mem_of_getElem? hkz0
          rcases hkN with h | h <;> rw [h] at this
          · exact this
          · exact (by decide : ∀ y ∈ sNAM2, y ∈ sNAMES) _ this
        obtain ⟨pa, pw, pk, hvp, hpa, hps⟩ := hkP z hzn
        have rpa := rsub _ hpa
        simp only [List.append_assoc] at N
        (try ((with_reducible show wpAny _ _ _ _ _ _); k_fold)); k_steps
        rename Fr _ _ _ _ => F
        refine g_list (fun j m news => JC la (Snd rules) x (rest2 ++ own) C0 "some_change" ((∀ n ∈ (kN.map (·.1)).take i, Clo rules C0 n) ∧ ∀ r ∈ (rules.filter fun r => r.1 = z).take j, ∀ f ∈ firstF C0 [] r.2, f ∈ C0 z) m news ∧ m "n" = some (.str z u)) rfl (News.get N (List.mem_append_right _ (List.mem_append_left _ rpa))) ⟨rfl, _, rfl⟩ F N rfl rfl
          ⟨⟨V, K, C, sc, rfl, hV, hS, hn, (fun e => ⟨(h0 e).1, (h0 e).2, fun _ h => nomatch h⟩), h1, rfl, rfl⟩, rfl⟩ ?_ ?_ ?_
        · rintro i m news ⟨⟨V, K, C, sc, rfl, _⟩, _⟩
          exact .inl (List.mem_append_right _ (List.mem_append_left _ rpa))
        · have hoff0 := hoff
          clear hV hS hn h0 h1 hms hsc F N hoff
          rintro own2 j pv m₁ news₁ h tk hpj ⟨⟨V, K, C, sc, rfl, hV, hS, hn, h0, h1, hms, hsc⟩, hmn⟩ hoff F N
          have F := Fr_say F (x := "self") ((if_neg (by decide)).trans hms)
          have F := Fr_say F (x := "some_change") ((if_neg (by decide)).trans ((if_neg (by decide)).trans hsc))
          have F := Fr_say F (x := "n") ((if_neg (by decide)).trans ((if_neg (by decide)).trans ((if_neg (by decide)).trans hmn)))
          obtain ⟨r, hrj, xp, dxp, esp, epp, tp, D, nD, bs, rfl, hxp, hdxp, hgn, hgp, hD, hbs⟩ := hps.get (by simpa using hpj)
          have hrj' := List.mem_filter.mp (List.mem_of_getElem? hrj)
          have hrz : r.1 = z := of_decide_eq_true hrj'.2
          have hrok := hok r hrj'.1
          have rxp := rsub _ hxp
          have rdxp := rsub _ hdxp
          have rD := rsub _ hD
          simp only [List.append_assoc] at N
          (try ((with_reducible show wpAny _ _ _ _ _ _); k_fold)); k_steps
          rename Fr _ _ _ _ => F
          have hCb := fun y hy => hfam V K C (rest2 ++ (own ++ own2)) hV hS hn (fun q hq => List.mem_append_left _ hq) y (hrok.2.2 y hy)
          refine wpAny_call ?_
          refine' t_first (dp := dp + 1) (un := un + 3) (C := C) X T ?qs ?qr ?qu ?qH (x := x) ?q1 ?q2 hF ?q3 ho hm1 ?q4 hbs hrok.2.1 hCb ?_
          case qs => exact F.keep
          case qr => omega
          case qu => omega
          case qH => exact fun q hq => ⟨(N q hq).1, (N q hq).2.2⟩
          case q1 => exact List.mem_append_right _ (List.mem_append_left _ rx)
          case q2 => exact List.mem_append_right _ (List.mem_append_left _ rdx)
          case q3 => exact List.mem_append_right _ (List.mem_append_left _ r_fd)
          case q4 => exact List.mem_append_right _ (List.mem_append_left _ rD)
          intro rl h' tk fw fn kk hrn e hfs
          obtain ⟨F, N, ne⟩ := grow_kp F N kk hrn e
          have N := News_sub N (news' := L3 la V K ++ ((rl, W.listOf fw.toArray fn) :: (rest2 ++ (own ++ own2)))) (by
            intro q hq
            rcases List.mem_append.mp hq with hq | hq
            · exact .tail _ (List.mem_append_left _ hq)
            · rcases List.mem_cons.mp hq with rfl | hq
              · exact .head _
              · exact .tail _ (List.mem_append_right _ hq))
          have nrl : ∀ z ∈ sNAMES, rl ≠ la z := fun z hz e => ne (la z, _) (List.mem_append_left _ (mem_L3 hz)) e.symm
          have no1 := own_ne hoff0
          have no2 := own_ne hoff
          have hfd : ∀ f ∈ firstF C [] r.2, FD rules z f := fun f hf => hrz ▸ snd_first hS hrj'.1 hrok.2.2 hf
          dsimp only
          refine g_strs (fun k m news => JC la (Snd rules) x ((rl, W.listOf fw.toArray fn) :: (rest2 ++ (own ++ own2))) C0 "some_change" (((∀ n ∈ (kN.map (·.1)).take i, Clo rules C0 n) ∧ ∀ r ∈ (rules.filter fun r => r.1 = z).take j, ∀ f ∈ firstF C0 [] r.2, f ∈ C0 z) ∧ C = C0 ∧ ∀ f ∈ (firstF C [] r.2).take k, f ∈ C0 z) m news ∧ m "n" = some (.str z u))
            rfl (News.get N (List.mem_append_right _ (.head _))) ⟨.inl rfl, _, rfl⟩ hfs F N rfl rfl ⟨⟨V, K, C, sc, rfl, hV, hS, hn, (fun e => ⟨(h0 e).1, (h0 e).2, (h0 e).1, fun _ h => nomatch h⟩), h1, rfl, rfl⟩, rfl⟩ ?_ ?_ ?_
          · rintro i m news ⟨⟨V, K, C, sc, rfl, _⟩, _⟩
            exact .inl (List.mem_append_right _ (.head _))
          · obtain ⟨C1, hC1⟩ : ∃ C1, C1 = C := ⟨_, rfl⟩
            rw [← hC1] at hfd hfs ⊢
            clear hV hS hn h0 h1 hms hsc F N hoff ne hCb hC1
            rintro own3 k f uf m₁ news₁ h tk hfk ⟨⟨V, K, C, sc, rfl, hV, hS, hn, h0, h1, hms, hsc⟩, hmn⟩ hoff F N
            have F := Fr_say F (x := "self") ((if_neg (by decide)).trans hms)
            have F := Fr_say F (x := "some_change") ((if_neg (by decide)).trans ((if_neg (by decide)).trans hsc))
            have F := Fr_say F (x := "n") ((if_neg (by decide)).trans ((if_neg (by decide)).trans ((if_neg (by decide)).trans hmn)))
            simp only [List.append_assoc, List.cons_append] at N
            have hlz := (hla z hzn).1
            have hVz := hV z hzn
            have hmz : (la z, W.listOf (V z).toArray (K z)) ∈ L3 la V K := mem_L3 hzn
            have hl4 : (V z).length ≤ 16384 := by rw [hVz.length]; exact Nat.le_trans (len4 hS hn z hzn) (by decide)
            have no3 := own_ne hoff
            have hrst : ∀ z ∈ sNAMES, ∀ q ∈ (rl, W.listOf fw.toArray fn) :: (rest2 ++ (own ++ (own2 ++ own3))), q.1 ≠ la z := by
              intro z hz q hq
              rcases List.mem_cons.mp hq with rfl | hq
              · exact nrl z hz
              · rcases List.mem_append.mp hq with hq | hq
                · exact hap2 z hz q hq
                · rcases List.mem_append.mp hq with hq | hq
                  · exact no1 z hz q hq
                  · rcases List.mem_append.mp hq with hq | hq
                    · exact no2 z hz q hq
                    · exact no3 z hz q hq
            (try ((with_reducible show wpAny _ _ _ _ _ _); k_fold)); k_steps
            all_goals
              rename Fr _ _ _ _ => F
              rename List.any _ _ = _ => hin
            · have hin := of_decide_eq_true (any_mem hin)
              refine StepG.next (EndG.mk (L3 la V K ++ ((rl, W.listOf fw.toArray fn) :: (rest2 ++ (own ++ own2)))) F N (by walk_at "m_sub") hoff ⟨⟨V, K, C, sc, rfl, hV, hS, hn, (fun e => ⟨(h0 e).1, (h0 e).2.1, (h0 e).2.2.1, ?_⟩), h1, rfl, rfl⟩, rfl⟩)
              intro f' hf'
              rw [(drop_at hfk).2.2] at hf'
              rcases List.mem_append.mp hf' with hf' | hf'
              · exact (h0 e).2.2.2 f' hf'
              · rw [List.mem_singleton.mp hf', ← (h0 e).1]; exact hin
            · rename News _ _ _ _ => N
              have hin := of_decide_eq_false (any_mem hin)
              have hffd := hfd f (List.mem_of_getElem? hfk)
              refine StepG.next (EndG.mk (L3 la (upd V z (V z ++ [Value.str f uf])) (upd K z (K z + 1)) ++ ((rl, W.listOf fw.toArray fn) :: (rest2 ++ (own ++ own2)))) F N (by walk_at "m_sub") ?_
                ⟨jc_more hzn hV (snd_upd hS hzn hffd) hn (fun e => (h0 e).1) h1 hin rfl rfl, rfl⟩)
              exact Apart.append (apart_L3 no3) (hoff.sub fun q hq => List.mem_append_right _ hq)
          · rintro h tk m₁ news₁ ⟨⟨V', K', C', sc', rfl, hV', hS', hn', h0', h1', hms', hsc'⟩, hmn'⟩ F N
            have F := Fr_say F (x := "self") hms'
            have F := Fr_say F (x := "some_change") ((if_neg (by decide)).trans hsc')
            have F := Fr_say F (x := "n") ((if_neg (by decide)).trans ((if_neg (by decide)).trans hmn'))
            (try ((with_reducible show wpAny _ _ _ _ _ _); k_fold)); k_steps
            rename Fr _ _ _ _ => F
            refine StepG.next (EndG.mk (L3 la V' K' ++ (rest2 ++ own)) F N (by walk_at "m_sub") (Apart.append (apart_L3 (own_ne hoff)) (hoff.sub fun q hq => List.mem_append_right _ hq)) ⟨⟨V', K', C', sc', rfl, hV', hS', hn', (fun e => ⟨(h0' e).1, (h0' e).2.1.1, ?_⟩), h1', rfl, rfl⟩, rfl⟩)
            intro r' hr' f' hf'
            rw [(drop_at hrj).2.2] at hr'
            rcases List.mem_append.mp hr' with hr' | hr'
            · exact (h0' e).2.1.2 r' hr' f' hf'
            · rw [List.mem_singleton.mp hr', ← (h0' e).2.2.1] at hf'
              exact (h0' e).2.2.2 f' (by rw [List.take_length]; exact hf')
        · rintro h tk m₁ news₁ ⟨⟨V', K', C', sc', rfl, hV', hS', hn', h0', h1', hms', hsc'⟩, hmn'⟩ F N
          have F := Fr_say F (x := "self") hms'
          have F := Fr_say F (x := "some_change") ((if_neg (by decide)).trans hsc')
          (try ((with_reducible show wpAny _ _ _ _ _ _); k_fold)); k_steps
          rename Fr _ _ _ _ => F
          refine StepG.next (EndG.mk (L3 la V' K' ++ rest2) F N (by walk_at "m_sub") (Apart.append (apart_L3 (own_ne hoff)) (hoff.sub fun q hq => List.mem_append_right _ hq)) ⟨V', K', C', sc', rfl, hV', hS', hn', (fun e => ⟨(h0' e).1, ?_⟩), h1', rfl, rfl⟩)
          intro n' hn'
          rw [(drop_at hkz0).2.2] at hn'
          rcases List.mem_append.mp hn' with hn' | hn'
          · exact (h0' e).2.1 n' hn'
          · rw [List.mem_singleton.mp hn']
            intro r' hr'
            refine (h0' e).2.2 r' ?_
            rw [List.size_toArray, hps.length, List.take_length]
            exact hr'
      · rintro h tk m₁ news₁ ⟨V', K', C', sc', rfl, hV', hS', hn', h0', h1', hms', hsc'⟩ F N
        have F := Fr_say F (x := "self") hms'
        have F := Fr_say F (x := "some_change") ((if_neg (by decide)).trans hsc')
        have h12 : tot C' ≤ 12 := by
          have a := len4 hS' hn' "S" (by decide)
          have b := len4 hS' hn' "A" (by decide)
          have c := len4 hS' hn' "B" (by decide)
          unfold tot; omega
        cases sc' with
        | true =>
          (try ((with_reducible show wpAny _ _ _ _ _ _); k_fold)); k_steps
          rename Fr _ _ _ _ => F
          have := h1' rfl
          exact ⟨_, _, _, _, 12 - tot C', rfl, F, N, by omega, V', K', C', rfl, hV', hS', hn', rfl, rfl⟩
        | false =>
          (try ((with_reducible show wpAny _ _ _ _ _ _); k_fold)); k_steps
          dsimp only [WhileStep2]
          (try ((with_reducible show wpAny _ _ _ _ _ _); k_fold)); k_steps
          rename Fr _ _ _ _ => F
          obtain ⟨rfl, hclo⟩ := h0' rfl
          rw [hr2] at N
          have hNl : ∀ z ∈ sNAMES, z ∈ (kN.map (·.1)).take kN.length := fun z hz => by
            rw [List.take_of_length_le (by rw [List.length_map]; exact Nat.le_refl _)]
            rcases hkN with h | h <;> rw [h]
            · exact hz
            · exact (by decide : ∀ y ∈ sNAMES, y ∈ sNAM2) z hz
          refine post _ _ o (eKvs E) la V' K' C' E5 (I.kp F) (I.left N) ho ?_ (fun z hz => ⟨(hla z hz).1, hV' z hz, hn' z hz, fun f => ⟨fun hf => hS'.1 z hz f hf, fun hf => ?_⟩⟩) hk5 (fun e he => ?_)
          · rw [eKvs, List.length_map]
            have := congrArg List.length hk
            rw [List.length_map, List.length_append, List.length_map, lkN] at this
            exact this
          · refine fd_least (C := fun y f => f ∈ C' y) (fun t ht => by rw [hS'.2 t ht]; exact .head _) (fun n b f hr hf => ?_) hf
            have hnn := (hok _ hr).1
            exact hclo n (hNl n hnn) (n, b) (List.mem_filter.mpr ⟨hr, decide_eq_true rfl⟩) f (mem_first.mpr hf)
          · have h6 := h5 e he
            have h7 : e.1 ∈ sK5 := hk5 ▸ List.mem_map_of_mem he
            rw [show cont2 e.1 = [e.1] from if_neg fun q => (by decide : ∀ t ∈ sK5, t ∉ sNAMES) _ h7 q] at h6
            exact h6
noncomputable def cont3 (z : Str) : List Str := if z = "S" then ["$end"] else []
theorem ext_fol {E : List Ent} {ns : List Str} {l' : Addr} {we : List Value} (hk : E.map (·.1) = ns) (hns : ns = sNAMES ∨ ns = sNAM2) (hc : ∀ e ∈ E, StrsAre e.2.2.1 []) (hn : ((eLed E).map (·.1)).Nodup) (hl : ∀ q ∈ eLed E, q.1 ≠ l') (hw : StrsAre we ["$end"]) :
    ∃ la V K, (∀ p ∈ L3 la V K, p ∈ (l', W.listOf we.toArray 0) :: eLed E) ∧ Inj3 la ∧ (∀ z ∈ sNAMES, valueAt (stored (eKvs E) "S" (.ref l')) z = some (.ref (la z)) ∧ StrsAre (V z) (cont3 z)) ∧ (stored (eKvs E) "S" (.ref l')).map (·.1) = ns := by
  have h3 : E.length = 3 := by
    have := congrArg List.length hk
    rw [List.length_map] at this
    rcases hns with rfl | rfl <;> exact this
  match E, h3 with
  | [(k1, a1, w1, n1), (k2, a2, w2, n2), (k3, a3, w3, n3)], _ =>
    simp only [eLed, List.map_cons, List.map_nil, List.nodup_cons, List.mem_cons, List.not_mem_nil, or_false, not_or, List.nodup_nil, and_true] at hn
    obtain ⟨d1, d2, _⟩ := hn
    have m2 : a2 ≠ l' := hl (a2, W.listOf w2.toArray n2) (.tail _ (.head _))
    have m3 : a3 ≠ l' := hl (a3, W.listOf w3.toArray n3) (.tail _ (.tail _ (.head _)))
    have c2 := hc (k2, a2, w2, n2) (.tail _ (.head _))
    have c3 := hc (k3, a3, w3, n3) (.tail _ (.tail _ (.head _)))
    rcases hns with rfl | rfl
    · simp only [List.map_cons, List.map_nil, sNAMES, List.cons.injEq, and_true] at hk
      obtain ⟨rfl, rfl, rfl⟩ := hk
      refine ⟨fun z => if z = "S" then l' else if z = "A" then a2 else a3, fun z => if z = "S" then we else if z = "A" then w2 else w3, fun z => if z = "S" then 0 else if z = "A" then n2 else n3, ?_, ⟨m2.symm, m3.symm, d2⟩, ?_, rfl⟩
      · show ∀ p ∈ [(l', W.listOf we.toArray 0), (a2, W.listOf w2.toArray n2), (a3, W.listOf w3.toArray n3)], _
        intro p hp
        simp only [List.mem_cons, List.not_mem_nil, or_false, eLed, List.map_cons, List.map_nil] at hp ⊢
        rcases hp with rfl | rfl | rfl <;> simp
      · intro z hz
        simp only [sNAMES, List.mem_cons, List.not_mem_nil, or_false] at hz
        rcases hz with rfl | rfl | rfl
        · exact ⟨rfl, hw⟩
        · exact ⟨rfl, c2⟩
        · exact ⟨rfl, c3⟩
    · simp only [List.map_cons, List.map_nil, sNAM2, List.cons.injEq, and_true] at hk
      obtain ⟨rfl, rfl, rfl⟩ := hk
      refine ⟨fun z => if z = "S" then l' else if z = "A" then a3 else a2, fun z => if z = "S" then we else if z = "A" then w3 else w2, fun z => if z = "S" then 0 else if z = "A" then n3 else n2, ?_, ⟨m3.symm, m2.symm, Ne.symm d2⟩, ?_, rfl⟩
      · show ∀ p ∈ [(l', W.listOf we.toArray 0), (a3, W.listOf w3.toArray n3), (a2, W.listOf w2.toArray n2)], _
        intro p hp
        simp only [List.mem_cons, List.not_mem_nil, or_false, eLed, List.map_cons, List.map_nil] at hp ⊢
        rcases hp with rfl | rfl | rfl <;> simp
      · intro z hz
        simp only [sNAMES, List.mem_cons, List.not_mem_nil, or_false] at hz
        rcases hz with rfl | rfl | rfl
        · exact ⟨rfl, hw⟩
        · exact ⟨rfl, c3⟩
        · exact ⟨rfl, c2⟩
noncomputable def SndF (rules : List (Str × List Str)) (C : Str → List Str) : Prop := (∀ z ∈ sNAMES, ∀ f ∈ C z, Fol rules z f) ∧ ("$end" : Str) ∈ C "S"
theorem len4F {rules : List (Str × List Str)} {C : Str → List Str} (h : SndF rules C) (hn : ∀ z ∈ sNAMES, (C z).Nodup) : ∀ z ∈ sNAMES, (C z).length ≤ 4 := fun z hz => nodup_len (m := sENDS) (hn z hz) fun f hf => fol_mem (h.1 z hz f hf)
theorem sndF_upd {rules : List (Str × List Str)} {C : Str → List Str} {z f : Str} (hS : SndF rules C) (hz : z ∈ sNAMES) (hf : Fol rules z f) : SndF rules (upd C z (C z ++ [f])) := by
  refine ⟨fun y hy g hg => ?_, ?_⟩
  · by_cases e : y = z
    · subst e; rw [upd_same] at hg
      rcases List.mem_append.mp hg with hg | hg
      · exact hS.1 y hy g hg
      · rw [List.mem_singleton.mp hg]; exact hf
    · rw [upd_ne e] at hg; exact hS.1 y hy g hg
  · by_cases e : "S" = z
    · rw [← e, upd_same]; exact List.mem_append_left _ hS.2
    · rw [upd_ne e]; exact hS.2
inductive JCn (la : Str → Addr) (S : (Str → List Str) → Prop) (x : Addr) (rst : List (Addr × Obj)) (C0 : Str → List Str) (ch : Str) (D : Prop) (n : Str) (vn : List Value) (kn : Nat) (cn : List Str) (m : Str → Option Value) (news : List (Addr × Obj)) : Prop
  | mk (V K C sc) (h1 : news = L3 la V K ++ rst) (h2 : (∀ z ∈ sNAMES, StrsAre (V z) (C z))) (h3 : S C) (h4 : (∀ z ∈ sNAMES, (C z).Nodup)) (h5 : (sc = false → C = C0 ∧ D)) (h6 : (sc = true → tot C0 < tot C)) (h7 : m "self" = some (.ref x)) (h8 : m ch = some (.bool sc)) (h9 : V n = vn) (h10 : K n = kn) (h11 : C n = cn) : JCn la S x rst C0 ch D n vn kn cn m news
theorem jcn_more {la : Str → Addr} {S : (Str → List Str) → Prop} {x : Addr} {rst : List (Addr × Obj)} {C0 : Str → List Str} {ch : Str} {D : Prop} {m : Str → Option Value} {V : Str → List Value} {K : Str → Nat} {C : Str → List Str} {sc : Bool} {z f n : Str} {u : Tok} {vn : List Value} {kn : Nat} {cn : List Str}
    (hz : z ∈ sNAMES) (hV : ∀ z ∈ sNAMES, StrsAre (V z) (C z)) (hS : S (upd C z (C z ++ [f]))) (hn : ∀ z ∈ sNAMES, (C z).Nodup) (h0 : sc = false → C = C0) (h1 : sc = true → tot C0 < tot C) (hf : f ∉ C z) (hm : m "self" = some (.ref x)) (hm2 : m ch = some (.bool true))
    (hne : n ≠ z) (e1 : V n = vn) (e2 : K n = kn) (e3 : C n = cn) :
    JCn la S x rst C0 ch D n vn kn cn m (L3 la (upd V z (V z ++ [Value.str f u])) (upd K z (K z + 1)) ++ rst) := by
  refine ⟨_, _, upd C z (C z ++ [f]), true, rfl, fun y hy => ?_, hS, fun y hy => ?_, (fun h => nomatch h), fun _ => ?_, hm, hm2, (upd_ne hne).trans e1, (upd_ne hne).trans e2, (upd_ne hne).trans e3⟩
  · by_cases e : y = z
    · subst e; rw [upd_same, upd_same]; exact (hV y hy).append' (.cons _ _ .nil)
    · rw [upd_ne e, upd_ne e]; exact hV y hy
  · by_cases e : y = z
    · subst e; rw [upd_same]
      refine List.nodup_append.mpr ⟨hn y hy, by simp, ?_⟩
      intro a ha b hb e
      rw [List.mem_singleton.mp hb] at e
      exact hf (e ▸ ha)
    · rw [upd_ne e]; exact hn y hy
  · rw [tot_upd hz]
    cases sc with
    | false => rw [h0 rfl]; exact Nat.lt_succ_self _
    | true => exact Nat.lt_succ_of_lt (h1 rfl)
theorem t_cfollow {prog : Program} {w : World} {dp un : Nat} {fr : Option (List Env)} {gd : Option (List Code)} {s : Shared} {hb : Heap} {mg mb : Str → Option Value} {p : Program} {loose : List Str} {R : Result → Shared → Prop}
  (X : (hd.heap_1 w.params).In hb) (T : TopRead p loose mg mb hb) (hs : hb.StaysIn s.heap) (hroom : dp + 10 < recursionLimit) (hu : un + 200 < cLine)
  {rest : List (Addr × Obj)} {x dx fd fo nd pl : Addr} {es : List DictEntry} {ep pk : Nat} {ofd ofo ond : Obj} {kF kN : List (Str × Value)} {rules : List (Str × List Str)} {p0 : Value} {ps : List Value} {CF : Str → List Str}
  (H : Has hb s.heap ((fo, ofo) :: rest)) (hfr : ∀ q ∈ rest, q.1 ≠ fo)
  (hx : (x, instObj 248 dx) ∈ rest) (hdx : (dx, dictOf es ep) ∈ rest)
  (hF : getL "First" es = some (some (.ref fd))) (hFo : getL "Follow" es = some (some (.ref fo))) (hN : getL "Nonterminals" es = some (some (.ref nd))) (hP : getL "Productions" es = some (some (.ref pl))) (hMf : getL "_first" es = some none)
  (hofo : ofo.IsDictOf (strKind prog w) []) (hm1 : (fo == sysModules) = false) (hfd : (fd, ofd) ∈ rest) (hofd : ofd.IsDictOf (strKind prog w) kF) (hm2 : (fd == sysModules) = false) (hkF : kF.length = 8)
  (hnd : (nd, ond) ∈ rest) (hond : ond.IsDictOf (strKind prog w) kN) (hm3 : (nd == sysModules) = false) (hkN : kN.map (·.1) = sNAMES ∨ kN.map (·.1) = sNAM2)
  (hpl : (pl, W.listOf (p0 :: ps).toArray pk) ∈ rest) (hps : ProdsIn rest ps rules)
  (hfam : ∀ y ∈ sSYMS, Fam kF rest CF y ∧ (CF y).length ≤ 10) (hCF : ∀ y ∈ sSYMS, ∀ f, f ∈ CF y ↔ FD rules y f)
  (hok : ∀ r ∈ rules, RuleOk r) (hlen : rules.length ≤ 7) (h0S : (rules.map (·.1)).take 3 = sNAMES)
  (post : ∀ h' tk o' kO la (V : Str → List Value) (K : Str → Nat) (C : Str → List Str), Kp (((fo, ofo) :: rest).map (·.1)) s.heap h' → Left ((fo, ofo) :: rest) s.heap h' (L3 la V K ++ (fo, o') :: rest) → o'.IsDictOf (strKind prog w) kO → kO.map (·.1) = kN.map (·.1) →
    (∀ z ∈ sNAMES, valueAt kO z = some (.ref (la z)) ∧ StrsAre (V z) (C z) ∧ (C z).Nodup ∧ ∀ f, f ∈ C z ↔ Fol rules z f) →
    R (.ok (.ret (.ref fo))) { s with heap := h', toks := tk }) :
  codeAny (model prog w) ⟨none, dp, fr, gd, un⟩ (.call (.ref 238) ⟨[.ref x], []⟩) R s := by
  have Xs : (hd.heap_1 w.params).In s.heap := X.keeps hs
  refine' enterH (((fo, ofo) :: rest).map (·.1)) [("self", .ref x), ("start", .none)] X T hs ?_ ?ho ?hcd (by show dp < _; omega) ?hb ?hl ?h ?hc ?h1 ?h2 ?h3
  walk_at "m_enter"
  · exact H.base
  intro g L h₁ tk F I
  refine letS ?_
  intro SH A1 en Q1
  have hA1 : A1.depth = dp + 1 := rfl
  have hA2 : A1.units = un + 3 := rfl
  have X := I.X
  have T := I.T
  have N := I.putAll H
  have lkN : kN.length = 3 := by rcases hkN with h | h <;> (have := congrArg List.length h; rw [List.length_map] at this; exact this)
  have hkFe : (!kF.isEmpty) = true := by cases kF with | nil => cases hkF | cons _ _ => rfl
  (try ((with_reducible show wpAny _ _ _ _ _ _); k_fold)); k_steps
  rename Fr _ _ _ _ => F
  have hKn : (kN.map (·.1)).Nodup := by rcases hkN with h | h <;> rw [h] <;> decide
  refine g_keys (fun i m news => JFam prog w fo (kN.map (·.1)) (fun _ => []) rest x i m news ∧ m "start" = some .none) rfl (News.get N (.tail _ hnd)) hond hm3 F N rfl rfl ⟨⟨ofo, [], rfl, hofo, rfl, (fun _ h => nomatch h), List.nodup_nil, Apart.nil, rfl⟩, rfl⟩ ?_ ?_ ?_
  · rintro i m news ⟨⟨o, E, rfl, _⟩, _⟩
    exact .inl (.tail _ (List.mem_append_right _ hnd))
  · rintro own i z v u m₁ news₁ h tk hz ⟨⟨o, E, rfl, ho, hk, hcon, hnd1, hap, hms⟩, hst⟩ hoff F N
    have F := Fr_say F (x := "self") ((if_neg (by decide)).trans hms)
    have F := Fr_say F (x := "start") ((if_neg (by decide)).trans ((if_neg (by decide)).trans hst))
    simp only [List.cons_append, List.append_assoc] at N
    have hE : ∀ q ∈ eLed E, q.1 ≠ fo := fun q hq e => hap q hq _ (.head _) e.symm
    have hO : ∀ q ∈ own, q.1 ≠ fo := hoff.hd
    have hi : i < 3 := by
      have := (drop_at hz).1
      omega
    have hEl : (eKvs E).length ≤ 3 := by
      have := congrArg List.length hk
      rw [List.length_map, List.length_take] at this
      rw [eKvs, List.length_map, this]
      exact Nat.le_trans (Nat.min_le_left _ _) (by omega)
    have hsz : (eKvs E).length ≤ sizeLine := by rw [sizeLine_eq]; omega
    have hkz : (kN.map (·.1))[i]? = some z := by rw [List.getElem?_map, hz]; rfl
    (try ((with_reducible show wpAny _ _ _ _ _ _); k_fold)); k_steps
    rename Fr _ _ _ _ => F
    rename News _ _ _ _ => N
    rename Obj.IsDictOf _ _ (stored _ _ _) => hd'
    rename _ ∧ AllLt _ _ => l1
    obtain ⟨q0, q1, q2⟩ := fam_step (cont := fun _ => []) (ws := []) hd' hk hkz hKn hcon .nil hnd1 hap l1 hoff
    exact StepG.next (EndG.mk _ F N q0 q1 ⟨q2 _ rfl, rfl⟩)
  · rintro h tk m₁ news₁ ⟨⟨o, E, rfl, ho, hk, hcon, hnd1, hap, hms⟩, hst⟩ F N
    have F := Fr_say F (x := "self") hms
    have F := Fr_say F (x := "start") ((if_neg (by decide)).trans hst)
    rw [show (kN.map (·.1)).take kN.length = kN.map (·.1) from List.take_of_length_le (by rw [List.length_map]; exact Nat.le_refl _)] at hk
    have hE : ∀ q ∈ eLed E, q.1 ≠ fo := fun q hq e => hap q hq _ (.head _) e.symm
    have hEl : (eKvs E).length ≤ 3 := by
      have := congrArg List.length hk
      rw [List.length_map, List.length_map] at this
      rw [eKvs, List.length_map, this]
      omega
    have hsz : (eKvs E).length ≤ sizeLine := by rw [sizeLine_eq]; omega
    obtain ⟨r0, rr, hrr, hr0⟩ : ∃ r0 rr, rules = r0 :: rr ∧ r0.1 = "S" := by
      cases rules with
      | nil => cases h0S
      | cons r0 rr => exact ⟨r0, rr, rfl, by have := congrArg (fun l => l.head?) h0S; simpa [sNAMES] using this⟩
    obtain ⟨pv, ps2, hps2, hpv⟩ : ∃ pv ps2, ps = pv :: ps2 ∧ ProdIn rest pv r0 := by
      rw [hrr] at hps
      cases hps with
      | cons a b => exact ⟨_, _, rfl, a⟩
    obtain ⟨xp, dxp, esp, epp, tp, D, nD, bs, rfl, hxp, hdxp, hgn, hgp, hD, hbs⟩ := hpv
    rw [hr0] at hgn
    have hpl1 : (pl, W.listOf (p0 :: Value.ref xp :: ps2).toArray pk) ∈ rest := hps2 ▸ hpl
    (try ((with_reducible show wpAny _ _ _ _ _ _); k_fold)); k_steps
    rename Fr _ _ _ _ => F
    rename_i l' _ _ _ l1 _ _ _ o' N hd' _
    obtain ⟨la, V, K, hsub, hinj, hla, hkeys⟩ := ext_fol (l' := l') (we := [Value.str "$end" _]) hk hkN hcon hnd1 (fun q hq => Nat.ne_of_lt (kst_ltOf l1.2 q (List.mem_append_left _ hq))) (.cons _ _ .nil)
    refine unhalt ?_
    obtain ⟨rest2, hr2⟩ : ∃ r, r = (fo, o') :: rest := ⟨_, rfl⟩
    have rsub : ∀ q ∈ rest, q ∈ rest2 := fun q hq => by rw [hr2]; exact .tail _ hq
    have r_fo : (fo, o') ∈ rest2 := by rw [hr2]; exact .head _
    have rx := rsub _ hx
    have rdx := rsub _ hdx
    have rnd := rsub _ hnd
    have rfd := rsub _ hfd
    have rpl := rsub _ hpl
    have hap2 : ∀ z ∈ sNAMES, ∀ q ∈ rest2, q.1 ≠ la z := by
      intro z hz q hq
      have h1 := hsub _ (mem_L3 (V := V) (K := K) hz)
      rw [hr2] at hq
      rcases List.mem_cons.mp h1 with h1 | h1
      · have e : la z = l' := congrArg Prod.fst h1
        rw [e]
        rcases List.mem_cons.mp hq with rfl | hq
        · exact Nat.ne_of_lt l1.1
        · exact Nat.ne_of_lt (kst_ltOf l1.2 q (List.mem_append_right _ hq))
      · rcases List.mem_cons.mp hq with rfl | hq
        · exact hap _ h1 (fo, o) (.head _)
        · exact hap _ h1 _ (.tail _ hq)
    have N := News_sub N (news' := L3 la V K ++ rest2) (by
      intro q hq
      rcases List.mem_append.mp hq with hq | hq
      · rcases List.mem_cons.mp (hsub q hq) with rfl | hq
        · exact .head _
        · exact .tail _ (.tail _ (List.mem_append_left _ hq))
      · rw [hr2] at hq
        rcases List.mem_cons.mp hq with rfl | hq
        · exact .tail _ (.head _)
        · exact .tail _ (.tail _ (List.mem_append_right _ hq)))
    have hkNm : ∀ y, (valueAt kN y).isSome = decide (y ∈ sNAMES) := fun y => by
      rw [valueAt_isSome_eq_any]
      have : (y ∈ kN.map (·.1)) ↔ y ∈ sNAMES := by
        rcases hkN with h | h <;> rw [h]
        exact ⟨fun q => (by decide : ∀ y ∈ sNAM2, y ∈ sNAMES) y q, fun q => (by decide : ∀ y ∈ sNAMES, y ∈ sNAM2) y q⟩
      by_cases hy : y ∈ sNAMES
      · rw [decide_eq_true hy]
        obtain ⟨q, hq, e⟩ := List.mem_map.mp (this.mpr hy)
        exact List.any_eq_true.mpr ⟨q, hq, decide_eq_true e⟩
      · rw [decide_eq_false hy]
        exact List.any_eq_false.mpr fun q hq e => hy (this.mp ((of_decide_eq_true e) ▸ List.mem_map_of_mem hq))
    refine' While_inv2 (n₀ := 12 - tot cont3) (JW la (SndF rules) x rest2 12) ?kF ?kN ?kJ ?_ ?kE
    case kF => exact F
    case kN => exact N
    case kE => exact PassesOwn.never
    case kJ =>
      refine ⟨V, K, cont3, rfl, fun z hz => (hla z hz).2, ⟨fun z hz f hf => ?_, .head _⟩, fun z hz => ?_, rfl, rfl⟩
      · unfold cont3 at hf
        split at hf
        · rename_i e; rw [e, List.mem_singleton.mp hf]; exact .fin
        · cases hf
      · unfold cont3; split
        · exact List.nodup_cons.mpr ⟨List.not_mem_nil, List.nodup_nil⟩
        · exact List.nodup_nil
    clear N F hap hnd1 hcon hsub hE hEl hsz
    rintro n m₁ news₁ h tk F N ⟨V, K, C0, rfl, hV, hS, hn, rfl, hms⟩
    have F := Fr_say F (x := "self") hms
    have hps7 : (p0 :: ps).length ≤ 16384 := by rw [List.length_cons, hps.length]; omega
    clear hpl1 hps2 hpl
    (try ((with_reducible show wpAny _ _ _ _ _ _); k_fold)); k_steps
    rename Fr _ _ _ _ => F
    rename News _ _ _ _ => N
    rename_i _ D1 _ l1D
    rw [show List.drop 1 (p0 :: ps) = ps from rfl] at N
    have N := News_sub N (news' := L3 la V K ++ ((D1, W.listOf ps.toArray 0) :: rest2)) (by
      intro q hq
      rcases List.mem_append.mp hq with hq | hq
      · exact .tail _ (List.mem_append_left _ hq)
      · rcases List.mem_cons.mp hq with rfl | hq
        · exact .head _
        · exact .tail _ (List.mem_append_right _ hq))
    have hapD : ∀ z ∈ sNAMES, ∀ q ∈ (D1, W.listOf ps.toArray 0) :: rest2, q.1 ≠ la z := by
      intro z hz q hq
      rcases List.mem_cons.mp hq with rfl | hq
      · exact (Nat.ne_of_lt (kst_ltOf l1D _ (List.mem_append_left _ (mem_L3 hz)))).symm
      · exact hap2 z hz q hq
    obtain ⟨rest3, hr3⟩ : ∃ r, r = (D1, W.listOf ps.toArray 0) :: rest2 := ⟨_, rfl⟩
    rw [← hr3] at hapD N
    have rsub3 : ∀ q ∈ rest, q ∈ rest3 := fun q hq => by rw [hr3]; exact .tail _ (rsub q hq)
    have r3D : (D1, W.listOf ps.toArray 0) ∈ rest3 := by rw [hr3]; exact .head _
    have r3fo : (fo, o') ∈ rest3 := by rw [hr3]; exact .tail _ r_fo
    have r3x := rsub3 _ hx
    have r3dx := rsub3 _ hdx
    have r3nd := rsub3 _ hnd
    have r3fd := rsub3 _ hfd
    refine g_list (fun j m news => JC la (SndF rules) x rest3 C0 "didadd" (∀ r ∈ rules.take j, ∀ i, CloAt CF C0 r i) m news) rfl (News.get N (List.mem_append_right _ r3D)) ⟨rfl, _, rfl⟩ F N rfl rfl
      ⟨V, K, C0, false, rfl, hV, hS, hn, (fun _ => ⟨rfl, fun _ h => nomatch h⟩), (fun h => nomatch h), rfl, rfl⟩ ?_ ?_ ?_
    · rintro i m news ⟨V, K, C, sc, rfl, _⟩
      exact .inl (List.mem_append_right _ r3D)
    · clear hV hS hn hms F N
      rintro own j pv m₁ news₁ h tk hpj ⟨V, K, C, sc, rfl, hV, hS, hn, h0, h1, hms, hsc⟩ hoff F N
      have F := Fr_say F (x := "self") ((if_neg (by decide)).trans hms)
      have F := Fr_say F (x := "didadd") ((if_neg (by decide)).trans ((if_neg (by decide)).trans hsc))
      obtain ⟨r, hrj, xp, dxp, esp, epp, tp, D, nD, bs, rfl, hxp, hdxp, hgn, hgp, hD, hbs⟩ := hps.get (by simpa using hpj)
      have hr := List.mem_of_getElem? hrj
      have hrok := hok r hr
      have rxp := rsub3 _ hxp
      have rdxp := rsub3 _ hdxp
      have rD := rsub3 _ hD
      have no1 := own_ne hoff
      simp only [List.append_assoc] at N
      (try ((with_reducible show wpAny _ _ _ _ _ _); k_fold)); k_steps
      rename Fr _ _ _ _ => F
      refine g_enum (fun i m news => JC la (SndF rules) x (rest3 ++ own) C0 "didadd" ((∀ r ∈ rules.take j, ∀ i, CloAt CF C0 r i) ∧ ∀ i', i' < i → CloAt CF C0 r i') m news ∧ m "p" = some (.ref xp)) rfl (News.get N (List.mem_append_right _ (List.mem_append_left _ rD))) ⟨.inr rfl, _, rfl⟩ hbs F N rfl rfl rfl
        ⟨⟨V, K, C, sc, rfl, hV, hS, hn, (fun e => ⟨(h0 e).1, (h0 e).2, fun _ h => absurd h (Nat.not_lt_zero _)⟩), h1, rfl, rfl⟩, rfl⟩ ?_ ?_ ?_
      · rintro i m news ⟨⟨V, K, C, sc, rfl, _⟩, _⟩
        exact .inl (List.mem_append_right _ (List.mem_append_left _ rD))
      · have hoff0 := hoff
        clear hV hS hn h0 h1 hms hsc F N hoff
        rintro own2 i B ti u m₁ news₁ h tk hiB ⟨⟨V, K, C, sc, rfl, hV, hS, hn, h0, h1, hms, hsc⟩, hmp⟩ hoff F N
        have F := Fr_say F (x := "self") ((if_neg (by decide)).trans ((if_neg (by decide)).trans hms))
        have F := Fr_say F (x := "didadd") ((if_neg (by decide)).trans ((if_neg (by decide)).trans ((if_neg (by decide)).trans hsc)))
        have F := Fr_say F (x := "p") ((if_neg (by decide)).trans ((if_neg (by decide)).trans ((if_neg (by decide)).trans ((if_neg (by decide)).trans hmp))))
        obtain ⟨hil, hidrop, _⟩ := drop_at hiB
        have hbl := hbs.length
        have hr3l := hrok.2.1
        have hk1 : 1 ≤ i + 1 := by omega
        have hk2 : i + 1 ≤ bs.length := by omega
        have hk3 : bs.length ≤ 16384 := by omega
        have no2 := own_ne hoff
        simp only [List.append_assoc] at N
        by_cases hBn : B ∈ sNAMES
        · have hBd : (valueAt kN B).isSome = true := by rw [hkNm]; exact decide_eq_true hBn
          (try ((with_reducible show wpAny _ _ _ _ _ _); k_fold)); k_steps
          rename Fr _ _ _ _ => F
          rename News _ _ _ _ => N
          rename_i _ D2 _ l1E _
          refine wpAny_call ?_
          refine' t_first (dp := dp + 1) (un := un + 3) (C := CF) (beta := r.2.drop (i + 1)) X T ?qs ?qr ?qu ?qH (x := x) ?q1 ?q2 hF ?q3 hofd hm2 ?q4 ?q5 ?q6 ?q7 ?_
          case qs => exact F.keep
          case qr => omega
          case qu => omega
          case qH => exact fun q hq => ⟨(N q hq).1, (N q hq).2.2⟩
          case q1 => exact .tail _ (List.mem_append_right _ (List.mem_append_left _ r3x))
          case q2 => exact .tail _ (List.mem_append_right _ (List.mem_append_left _ r3dx))
          case q3 => exact .tail _ (List.mem_append_right _ (List.mem_append_left _ r3fd))
          case q4 => exact .head _
          case q5 => exact hbs.drop' _
          case q6 => rw [List.length_drop]; omega
          case q7 =>
            intro y hy
            obtain ⟨⟨a, ws, n, e1, e2, e3⟩, e4⟩ := hfam y (hrok.2.2 y (List.mem_of_mem_drop hy))
            exact ⟨⟨a, ws, n, e1, .tail _ (List.mem_append_right _ (List.mem_append_left _ (rsub3 _ e2))), e3⟩, e4⟩
          intro rl h' tk fw fn kk hrn e hfs
          obtain ⟨F, N, ne⟩ := grow_kp F N kk hrn e
          have N := News_sub N (news' := L3 la V K ++ ((rl, W.listOf fw.toArray fn) :: (rest3 ++ (own ++ own2)))) (by
            intro q hq
            rcases List.mem_append.mp hq with hq | hq
            · exact .tail _ (.tail _ (List.mem_append_left _ hq))
            · rcases List.mem_cons.mp hq with rfl | hq
              · exact .head _
              · exact .tail _ (.tail _ (List.mem_append_right _ hq)))
          have nrl : ∀ z ∈ sNAMES, rl ≠ la z := fun z hz e => ne (la z, _) (.tail _ (List.mem_append_left _ (mem_L3 hz))) e.symm
          clear l1E ne e hrn kk
          have hrst : ∀ z ∈ sNAMES, ∀ q ∈ (rl, W.listOf fw.toArray fn) :: (rest3 ++ (own ++ own2)), q.1 ≠ la z := by
            intro z hz q hq
            rcases List.mem_cons.mp hq with rfl | hq
            · exact nrl z hz
            · rcases List.mem_append.mp hq with hq | hq
              · exact hapD z hz q hq
              · rcases List.mem_append.mp hq with hq | hq
                · exact no1 z hz q hq
                · exact no2 z hz q hq
          obtain ⟨rest4, hr4⟩ : ∃ r', r' = (rl, W.listOf fw.toArray fn) :: (rest3 ++ (own ++ own2)) := ⟨_, rfl⟩
          rw [← hr4] at hrst N
          have rsub4 : ∀ q ∈ rest3, q ∈ rest4 := fun q hq => by rw [hr4]; exact .tail _ (List.mem_append_left _ hq)
          have rsub4' : ∀ q ∈ rest3 ++ (own ++ own2), q ∈ rest4 := fun q hq => by rw [hr4]; exact .tail _ hq
          have r4l : (rl, W.listOf fw.toArray fn) ∈ rest4 := by rw [hr4]; exact .head _
          have r4x := rsub4 _ r3x
          have r4dx := rsub4 _ r3dx
          have r4fo := rsub4 _ r3fo
          have r4xp := rsub4 _ rxp
          have r4dxp := rsub4 _ rdxp
          have r4D := rsub4 _ rD
          have hlB := (hla B hBn).1
          have hlN := (hla r.1 hrok.1).1
          obtain ⟨D2, hD2⟩ : ∃ D2 : Prop, D2 = ((∀ r ∈ rules.take j, ∀ i, CloAt CF C0 r i) ∧ ∀ i', i' < i → CloAt CF C0 r i') := ⟨_, rfl⟩
          rw [← hD2] at h0
          obtain ⟨fs, hfs0⟩ : ∃ fs, fs = firstF CF [] (r.2.drop (i + 1)) := ⟨_, rfl⟩
          rw [← hfs0] at hfs
          dsimp only
          (try ((with_reducible show wpAny _ _ _ _ _ _); k_fold)); k_steps
          rename Fr _ _ _ _ => F
          rename News _ _ _ _ => N
          refine g_strs (fun k m news => JC la (SndF rules) x rest4 C0 "didadd" (D2 ∧ ∀ f ∈ fs.take k, f ≠ sEMP → f ∈ C0 B) m news ∧ m "p" = some (.ref xp) ∧ m "B" = some (.str B u) ∧ m "i" = some (.int i ti) ∧ m "hasempty" = some (.bool (decide (sEMP ∈ fs.take k)))) rfl (News.get N (List.mem_append_right _ r4l)) ⟨.inl rfl, _, rfl⟩ hfs F N rfl rfl
            ⟨⟨V, K, C, sc, rfl, hV, hS, hn, (fun e => ⟨(h0 e).1, (h0 e).2, fun _ h => nomatch h⟩), h1, rfl, rfl⟩, rfl, rfl, rfl, rfl⟩ ?_ ?_ ?_
          · rintro i m news ⟨⟨V, K, C, sc, rfl, _⟩, _⟩
            exact .inl (List.mem_append_right _ r4l)
          · clear hV hS hn h0 h1 hms hsc hmp F N
            rintro own3 k f uf m₁ news₁ h tk hfk ⟨⟨V, K, C, sc, rfl, hV, hS, hn, h0, h1, hms, hsc⟩, hmp, hmB, hmi, hme⟩ hoff3 F N
            have F := Fr_say F (x := "self") ((if_neg (by decide)).trans hms)
            have F := Fr_say F (x := "didadd") ((if_neg (by decide)).trans ((if_neg (by decide)).trans hsc))
            have F := Fr_say F (x := "p") ((if_neg (by decide)).trans ((if_neg (by decide)).trans ((if_neg (by decide)).trans hmp)))
            have F := Fr_say F (x := "B") ((if_neg (by decide)).trans ((if_neg (by decide)).trans ((if_neg (by decide)).trans ((if_neg (by decide)).trans hmB))))
            have F := Fr_say F (x := "i") ((if_neg (by decide)).trans ((if_neg (by decide)).trans ((if_neg (by decide)).trans ((if_neg (by decide)).trans ((if_neg (by decide)).trans hmi)))))
            have F := Fr_say F (x := "hasempty") ((if_neg (by decide)).trans ((if_neg (by decide)).trans ((if_neg (by decide)).trans ((if_neg (by decide)).trans ((if_neg (by decide)).trans ((if_neg (by decide)).trans hme))))))
            obtain ⟨_, _, htk⟩ := drop_at hfk
            have hVB := hV B hBn
            have hmB3 : (la B, W.listOf (V B).toArray (K B)) ∈ L3 la V K := mem_L3 hBn
            have hl4 : (V B).length ≤ 16384 := by rw [hVB.length]; exact Nat.le_trans (len4F hS hn B hBn) (by decide)
            have no3 := own_ne hoff3
            have hrst4 : ∀ z ∈ sNAMES, ∀ q ∈ rest4 ++ own3, q.1 ≠ la z := fun z hz q hq => (List.mem_append.mp hq).elim (hrst z hz q) (no3 z hz q)
            simp only [List.append_assoc] at N
            by_cases hf : f = sEMP
            · rw [show sEMP = Str.ofString "<empty>" from rfl] at hf
              subst hf
              (try ((with_reducible show wpAny _ _ _ _ _ _); k_fold)); k_steps
              rename Fr _ _ _ _ => F
              rename News _ _ _ _ => N
              refine StepG.next (EndG.mk (L3 la V K ++ rest4) F N (by walk_at "m_sub") hoff3 ?_)
              refine ⟨⟨V, K, C, sc, rfl, hV, hS, hn, (fun e => ⟨(h0 e).1, (h0 e).2.1, fun f' hf' hne => ?_⟩), h1, rfl, rfl⟩, rfl, rfl, rfl, ?_⟩
              · rw [htk] at hf'
                rcases List.mem_append.mp hf' with hf' | hf'
                · exact (h0 e).2.2 f' hf' hne
                · exact absurd (List.mem_singleton.mp hf') hne
              · refine congrArg (fun z => some (Value.bool z)) (Eq.symm (decide_eq_true ?_))
                rw [htk]; exact List.mem_append_right _ (.head _)
            · have hff : Fol rules B f := fol_first hok hCF hr hiB (hfs0 ▸ List.mem_of_getElem? hfk) hf
              have hdec : decide (sEMP ∈ fs.take k) = decide (sEMP ∈ fs.take (k + 1)) := by
                rw [htk]
                exact decide_eq_decide.mpr ⟨fun q => List.mem_append_left _ q, fun q => (List.mem_append.mp q).elim id fun q => absurd (List.mem_singleton.mp q).symm hf⟩
              rw [hdec] at F
              (try ((with_reducible show wpAny _ _ _ _ _ _); k_fold)); k_steps
              all_goals first
                | (exfalso; rename (f == _) = true => q; exact hf (eq_of_beq q))
                | (exfalso; rename (f != _) = false => q; exact hf (bne_eq_false_iff_eq.mp q))
                | skip
              all_goals
                rename Fr _ _ _ _ => F
                rename List.any _ _ = _ => hin
              · have hin := of_decide_eq_true (any_mem hin)
                refine StepG.next (EndG.mk (L3 la V K ++ rest4) F N (by walk_at "m_sub") hoff3 ?_)
                refine ⟨⟨V, K, C, sc, rfl, hV, hS, hn, (fun e => ⟨(h0 e).1, (h0 e).2.1, fun f' hf' hne => ?_⟩), h1, rfl, rfl⟩, rfl, rfl, rfl, rfl⟩
                rw [htk] at hf'
                rcases List.mem_append.mp hf' with hf' | hf'
                · exact (h0 e).2.2 f' hf' hne
                · rw [List.mem_singleton.mp hf', ← (h0 e).1]; exact hin
              · rename News _ _ _ _ => N
                have hin := of_decide_eq_false (any_mem hin)
                refine StepG.next (EndG.mk (L3 la (upd V B (V B ++ [Value.str f uf])) (upd K B (K B + 1)) ++ rest4) F N (by walk_at "m_sub") ?_ ?_)
                · exact Apart.append (apart_L3 no3) (hoff3.sub fun q hq => List.mem_append_right _ hq)
                · exact ⟨jc_more hBn hV (sndF_upd hS hBn hff) hn (fun e => (h0 e).1) h1 hin rfl rfl, rfl, rfl, rfl, rfl⟩
          · clear hV hS hn h0 h1 hms hsc hmp F N
            rintro h tk m₁ news₁ ⟨⟨V, K, C, sc, rfl, hV, hS, hn, h0, h1, hms, hsc⟩, hmp, hmB, hmi, hme⟩ F N
            have F := Fr_say F (x := "self") hms
            have F := Fr_say F (x := "didadd") ((if_neg (by decide)).trans hsc)
            have F := Fr_say F (x := "p") ((if_neg (by decide)).trans ((if_neg (by decide)).trans hmp))
            have F := Fr_say F (x := "B") ((if_neg (by decide)).trans ((if_neg (by decide)).trans ((if_neg (by decide)).trans hmB)))
            have F := Fr_say F (x := "i") ((if_neg (by decide)).trans ((if_neg (by decide)).trans ((if_neg (by decide)).trans ((if_neg (by decide)).trans hmi))))
            have F := Fr_say F (x := "hasempty") ((if_neg (by decide)).trans ((if_neg (by decide)).trans ((if_neg (by decide)).trans ((if_neg (by decide)).trans ((if_neg (by decide)).trans hme)))))
            rw [List.take_length] at F h0
            obtain ⟨e, he⟩ : ∃ e, e = decide (sEMP ∈ fs) := ⟨_, rfl⟩
            rw [← he] at F
            have hD3 : (bs.length : Int) < 2 ^ 63 := by omega
            have hmN3 : (la r.1, W.listOf (V r.1).toArray (K r.1)) ∈ L3 la V K := mem_L3 hrok.1
            have hlast : i + 1 = r.2.length → sEMP ∈ fs := fun q => by
              rw [hfs0, q, List.drop_length]; exact .head _
            have hr4l : ∀ q ∈ rest3 ++ own, q ∈ rest4 := fun q hq => rsub4' q ((List.mem_append.mp hq).elim (fun h => List.mem_append_left _ h) fun h => List.mem_append_right _ (List.mem_append_left _ h))
            cases e with
            | true =>
              have hes := of_decide_eq_true he.symm
              (try ((with_reducible show wpAny _ _ _ _ _ _); k_fold)); k_steps
              rename Fr _ _ _ _ => F
              have hVn := hV r.1 hrok.1
              obtain ⟨V1, hV1⟩ : ∃ q, q = V r.1 := ⟨_, rfl⟩
              obtain ⟨K1, hK1⟩ : ∃ q, q = K r.1 := ⟨_, rfl⟩
              obtain ⟨C1, hC1⟩ : ∃ q, q = C r.1 := ⟨_, rfl⟩
              rw [← hV1, ← hC1] at hVn
              have hmN4 : (la r.1, W.listOf V1.toArray K1) ∈ L3 la V K := by rw [hV1, hK1]; exact hmN3
              refine g_strs (fun k m news => JCn la (SndF rules) x rest4 C0 "didadd" ((D2 ∧ ∀ f ∈ fs, f ≠ sEMP → f ∈ C0 B) ∧ ∀ f ∈ C1.take k, f ∈ C0 B) r.1 V1 K1 C1 m news ∧ m "B" = some (.str B u) ∧ m "p" = some (.ref xp)) rfl (News.get N (List.mem_append_left _ hmN4)) ⟨.inl rfl, _, rfl⟩ hVn F N rfl rfl
                ⟨⟨V, K, C, sc, rfl, hV, hS, hn, (fun e => ⟨(h0 e).1, (h0 e).2, fun _ h => nomatch h⟩), h1, rfl, rfl, hV1.symm, hK1.symm, hC1.symm⟩, rfl, rfl⟩ ?_ ?_ ?_
              · rintro i m news ⟨⟨V, K, C, sc, rfl, _, _, _, _, _, _, _, q1, q2, _⟩, _⟩
                have := mem_L3 (la := la) (V := V) (K := K) hrok.1
                rw [q1, q2] at this
                exact .inl (List.mem_append_left _ this)
              · clear hV hS hn h0 h1 hms hsc hmp F N hmN3 hmN4 hV1 hK1 hC1
                rintro own3 k f uf m₁ news₁ h tk hfk ⟨⟨V, K, C, sc, rfl, hV, hS, hn, h0, h1, hms, hsc, q1, q2, q3⟩, hmB, hmp⟩ hoff3 F N
                have F := Fr_say F (x := "self") ((if_neg (by decide)).trans hms)
                have F := Fr_say F (x := "didadd") ((if_neg (by decide)).trans ((if_neg (by decide)).trans hsc))
                have F := Fr_say F (x := "B") ((if_neg (by decide)).trans ((if_neg (by decide)).trans ((if_neg (by decide)).trans hmB)))
                have F := Fr_say F (x := "p") ((if_neg (by decide)).trans ((if_neg (by decide)).trans ((if_neg (by decide)).trans ((if_neg (by decide)).trans hmp))))
                obtain ⟨_, _, htk⟩ := drop_at hfk
                have hVB := hV B hBn
                have hmB3 : (la B, W.listOf (V B).toArray (K B)) ∈ L3 la V K := mem_L3 hBn
                have hl4 : (V B).length ≤ 16384 := by rw [hVB.length]; exact Nat.le_trans (len4F hS hn B hBn) (by decide)
                have no3 := own_ne hoff3
                have hrst4 : ∀ z ∈ sNAMES, ∀ q ∈ rest4 ++ own3, q.1 ≠ la z := fun z hz q hq => (List.mem_append.mp hq).elim (hrst z hz q) (no3 z hz q)
                have hfC : f ∈ C r.1 := by rw [q3]; exact List.mem_of_getElem? hfk
                simp only [List.append_assoc] at N
                (try ((with_reducible show wpAny _ _ _ _ _ _); k_fold)); k_steps
                all_goals
                  rename Fr _ _ _ _ => F
                  rename List.any _ _ = _ => hin
                · have hin := of_decide_eq_true (any_mem hin)
                  refine StepG.next (EndG.mk (L3 la V K ++ rest4) F N (by walk_at "m_sub") hoff3 ?_)
                  refine ⟨⟨V, K, C, sc, rfl, hV, hS, hn, (fun e => ⟨(h0 e).1, (h0 e).2.1, fun f' hf' => ?_⟩), h1, rfl, rfl, q1, q2, q3⟩, rfl, rfl⟩
                  rw [htk] at hf'
                  rcases List.mem_append.mp hf' with hf' | hf'
                  · exact (h0 e).2.2 f' hf'
                  · rw [List.mem_singleton.mp hf', ← (h0 e).1]; exact hin
                · rename News _ _ _ _ => N
                  have hin := of_decide_eq_false (any_mem hin)
                  have hff : Fol rules B f := fol_up hok hCF hr hiB (hfs0 ▸ hes) (hS.1 r.1 hrok.1 f hfC)
                  refine StepG.next (EndG.mk (L3 la (upd V B (V B ++ [Value.str f uf])) (upd K B (K B + 1)) ++ rest4) F N (by walk_at "m_sub") ?_ ?_)
                  · exact Apart.append (apart_L3 no3) (hoff3.sub fun q hq => List.mem_append_right _ hq)
                  · exact ⟨jcn_more hBn hV (sndF_upd hS hBn hff) hn (fun e => (h0 e).1) h1 hin rfl rfl (fun e => hin (e ▸ hfC)) q1 q2 q3, rfl, rfl⟩
              · clear hV hS hn h0 h1 hms hsc hmp F N hmN3 hmN4 hV1 hK1 hC1
                rintro h tk m₁ news₁ ⟨⟨V, K, C, sc, rfl, hV, hS, hn, h0, h1, hms, hsc, q1, q2, q3⟩, hmB, hmp⟩ F N
                have F := Fr_say F (x := "self") hms
                have F := Fr_say F (x := "didadd") ((if_neg (by decide)).trans hsc)
                have F := Fr_say F (x := "p") ((if_neg (by decide)).trans ((if_neg (by decide)).trans hmp))
                (try ((with_reducible show wpAny _ _ _ _ _ _); k_fold)); k_steps
                rename Fr _ _ _ _ => F
                have N := News_sub N (news' := L3 la V K ++ ((rest3 ++ own) ++ own2)) (by
                  intro q hq
                  rcases List.mem_append.mp hq with hq | hq
                  · exact List.mem_append_left _ hq
                  · exact List.mem_append_right _ (rsub4' q (by rw [← List.append_assoc]; exact hq)))
                refine StepG.next (EndG.mk (L3 la V K ++ (rest3 ++ own)) F N (by walk_at "m_sub") (Apart.append (apart_L3 no2) (hoff.sub fun q hq => List.mem_append_right _ hq)) ?_)
                refine ⟨⟨V, K, C, sc, rfl, hV, hS, hn, (fun e => ⟨(h0 e).1, (hD2 ▸ (h0 e).2.1.1).1, fun i' hi' => ?_⟩), h1, rfl, rfl⟩, rfl⟩
                rcases Nat.lt_succ_iff_lt_or_eq.mp hi' with hi' | rfl
                · exact (hD2 ▸ (h0 e).2.1.1).2 i' hi'
                · intro B' hB' _
                  rw [hiB] at hB'
                  obtain rfl := Option.some.inj hB'
                  rw [← hfs0]
                  refine ⟨(h0 e).2.1.2, fun _ f hf => (h0 e).2.2 f ?_⟩
                  rw [List.take_length, ← q3, (h0 e).1]; exact hf
            | false =>
              have hes := of_decide_eq_false he.symm
              (try ((with_reducible show wpAny _ _ _ _ _ _); k_fold)); k_steps
              · exfalso
                rename (_ : Int) = _ - 1 => q
                exact hes (hlast (by omega))
              · rename Fr _ _ _ _ => F
                have N := News_sub N (news' := L3 la V K ++ ((rest3 ++ own) ++ own2)) (by
                  intro q hq
                  rcases List.mem_append.mp hq with hq | hq
                  · exact List.mem_append_left _ hq
                  · exact List.mem_append_right _ (rsub4' q (by rw [← List.append_assoc]; exact hq)))
                refine StepG.next (EndG.mk (L3 la V K ++ (rest3 ++ own)) F N (by walk_at "m_sub") (Apart.append (apart_L3 no2) (hoff.sub fun q hq => List.mem_append_right _ hq)) ?_)
                refine ⟨⟨V, K, C, sc, rfl, hV, hS, hn, (fun e => ⟨(h0 e).1, (hD2 ▸ (h0 e).2.1).1, fun i' hi' => ?_⟩), h1, rfl, rfl⟩, rfl⟩
                rcases Nat.lt_succ_iff_lt_or_eq.mp hi' with hi' | rfl
                · exact (hD2 ▸ (h0 e).2.1).2 i' hi'
                · intro B' hB' _
                  rw [hiB] at hB'
                  obtain rfl := Option.some.inj hB'
                  rw [← hfs0]
                  exact ⟨(h0 e).2.2, fun q => absurd q hes⟩
        · have hBd : (valueAt kN B).isSome = false := by rw [hkNm]; exact decide_eq_false hBn
          (try ((with_reducible show wpAny _ _ _ _ _ _); k_fold)); k_steps
          rename Fr _ _ _ _ => F
          refine StepG.next (EndG.mk (L3 la V K ++ (rest3 ++ own)) F N (by walk_at "m_sub") hoff ?_)
          refine ⟨⟨V, K, C, sc, rfl, hV, hS, hn, (fun e => ⟨(h0 e).1, (h0 e).2.1, ?_⟩), h1, rfl, rfl⟩, rfl⟩
          intro i' hi'
          rcases Nat.lt_succ_iff_lt_or_eq.mp hi' with hi' | rfl
          · exact (h0 e).2.2 i' hi'
          · intro B' hB' hBn'
            rw [hiB] at hB'
            exact absurd (Option.some.inj hB' ▸ hBn') hBn
      · rintro h tk m₁ news₁ ⟨⟨V', K', C', sc', rfl, hV', hS', hn', h0', h1', hms', hsc'⟩, hmp'⟩ F N
        have F := Fr_say F (x := "self") hms'
        have F := Fr_say F (x := "didadd") ((if_neg (by decide)).trans hsc')
        (try ((with_reducible show wpAny _ _ _ _ _ _); k_fold)); k_steps
        rename Fr _ _ _ _ => F
        refine StepG.next (EndG.mk (L3 la V' K' ++ rest3) F N (by walk_at "m_sub") (Apart.append (apart_L3 no1) (hoff.sub fun q hq => List.mem_append_right _ hq)) ?_)
        refine ⟨V', K', C', sc', rfl, hV', hS', hn', (fun e => ⟨(h0' e).1, fun r' hr' => ?_⟩), h1', rfl, rfl⟩
        rw [(drop_at hrj).2.2] at hr'
        rcases List.mem_append.mp hr' with hr' | hr'
        · exact (h0' e).2.1 r' hr'
        · rw [List.mem_singleton.mp hr']
          intro i'
          by_cases hi' : i' < r.2.length
          · exact (h0' e).2.2 i' hi'
          · intro B hB
            rw [List.getElem?_eq_none (Nat.not_lt.mp hi')] at hB
            cases hB
    · rintro h tk m₁ news₁ ⟨V', K', C', sc', rfl, hV', hS', hn', h0', h1', hms', hsc'⟩ F N
      have F := Fr_say F (x := "self") hms'
      have F := Fr_say F (x := "didadd") ((if_neg (by decide)).trans hsc')
      have h12 : tot C' ≤ 12 := by
        have a := len4F hS' hn' "S" (by decide)
        have b := len4F hS' hn' "A" (by decide)
        have c := len4F hS' hn' "B" (by decide)
        unfold tot; omega
      have N := News_sub N (news' := L3 la V' K' ++ rest2) (by
        intro q hq
        rcases List.mem_append.mp hq with hq | hq
        · exact List.mem_append_left _ hq
        · exact List.mem_append_right _ (by rw [hr3]; exact .tail _ hq))
      cases sc' with
      | true =>
        (try ((with_reducible show wpAny _ _ _ _ _ _); k_fold)); k_steps
        rename Fr _ _ _ _ => F
        have := h1' rfl
        exact ⟨_, _, _, _, 12 - tot C', rfl, F, N, by omega, V', K', C', rfl, hV', hS', hn', rfl, rfl⟩
      | false =>
        (try ((with_reducible show wpAny _ _ _ _ _ _); k_fold)); k_steps
        dsimp only [WhileStep2]
        (try ((with_reducible show wpAny _ _ _ _ _ _); k_fold)); k_steps
        rename Fr _ _ _ _ => F
        obtain ⟨rfl, hclo⟩ := h0' rfl
        rw [hr2] at N
        refine post _ _ o' _ la V' K' C' (I.kp F) (I.left N) hd' hkeys (fun z hz => ⟨(hla z hz).1, hV' z hz, hn' z hz, fun f => ⟨fun hf => hS'.1 z hz f hf, fun hf => ?_⟩⟩)
        refine fol_least hok hCF hS'.2 (fun r hr i => hclo r ?_ i) hf hz
        rw [List.size_toArray, hps.length, List.take_length]; exact hr
end SH
noncomputable def quoted (a : Str) : Str := ⟨#[39] ++ a.cps ++ #[39]⟩
theorem repr_sym : ∀ a ∈ sSYMS, reprText a = quoted a := by decide +kernel
noncomputable def mapText' (n : Str) (ss : List Str) : Str := Str.empty ++ n ++ Str.ofString " -> " ++ listText (ss.map quoted)
theorem mapText_eq {n : Str} {ss : List Str} (h : ∀ s ∈ ss, s ∈ sSYMS) : mapText n ss = mapText' n ss := by
  unfold mapText mapText'
  rw [show ss.map reprText = ss.map quoted from List.map_congr_left fun a ha => repr_sym a (h a ha)]
noncomputable def told (t : Str) : Str × List Str :=
  let l := t.cps.toList
  (⟨#[l.getD 0 0]⟩, (List.range ((l.length - 5) / 5)).map fun i => ⟨#[l.getD (7 + 5 * i) 0]⟩)
theorem told0 : ∀ n ∈ sNAMES, told (mapText' n []) = (n, []) := by decide +kernel
theorem told1 : ∀ n ∈ sNAMES, ∀ a ∈ sSYMS, told (mapText' n [a]) = (n, [a]) := by decide +kernel
theorem told2 : ∀ n ∈ sNAMES, ∀ a ∈ sSYMS, ∀ b ∈ sSYMS, told (mapText' n [a, b]) = (n, [a, b]) := by decide +kernel
theorem told3 : ∀ n ∈ sNAMES, ∀ a ∈ sSYMS, ∀ b ∈ sSYMS, ∀ c ∈ sSYMS, told (mapText' n [a, b, c]) = (n, [a, b, c]) := by decide +kernel
theorem told_rule {r : Str × List Str} (h : RuleOk r) : told (mapText r.1 r.2) = r := by
  obtain ⟨n, ss⟩ := r
  obtain ⟨h1, h2, h3⟩ := h
  replace h1 : n ∈ sNAMES := h1
  replace h2 : ss.length ≤ 3 := h2
  replace h3 : ∀ s ∈ ss, s ∈ sSYMS := h3
  show told (mapText n ss) = (n, ss)
  rw [mapText_eq h3]
  match ss, h2 with
  | [], _ => exact told0 n h1
  | [a], _ => exact told1 n h1 a (h3 a (by simp))
  | [a, b], _ => exact told2 n h1 a (h3 a (by simp)) b (h3 b (by simp))
  | [a, b, c], _ => exact told3 n h1 a (h3 a (by simp)) b (h3 b (by simp)) c (h3 c (by simp))
  | a :: b :: c :: d :: l, h => exact absurd h (by simp)
theorem mapText_inj {r r' : Str × List Str} (h : RuleOk r) (h' : RuleOk r') (e : mapText r.1 r.2 = mapText r'.1 r'.2) : r = r' := by
  rw [← told_rule h, ← told_rule h', e]
theorem sym_repr_len : ∀ y ∈ sSYMS, (reprText y).length ≤ 1000 := by decide +kernel
theorem sym_quoted_len : ∀ y ∈ sSYMS, (quoted y).length = 3 := by decide +kernel
theorem piled_quoted : ∀ {ss : List Str}, (∀ s ∈ ss, s ∈ sSYMS) → piled (ss.map quoted) = 5 * ss.length
  | [], _ => rfl
  | a :: l, h => by
    rw [List.map_cons, piled_cons, sym_quoted_len a (h a (.head _)), piled_quoted fun s hs => h s (.tail _ hs), List.length_cons]
    omega
theorem list_text_len {ss : List Str} (h : ∀ s ∈ ss, s ∈ sSYMS) (h3 : ss.length ≤ 3) : (listText (ss.map reprText)).length ≤ 10000 := by
  rw [show ss.map reprText = ss.map quoted from List.map_congr_left fun a ha => repr_sym a (h a ha)]
  cases ss with
  | nil => decide
  | cons a l =>
    have h0 := textFrom_length_pos (l.map quoted) 1 (("[" : Str) ++ (if (0 : Nat) > 0 then ", " else "" : String) ++ quoted a) (Nat.succ_pos 0)
    have e : ((("[" : Str) ++ (if (0 : Nat) > 0 then ", " else "" : String) ++ quoted a)).length = 1 + (quoted a).length := by
      rw [strLen_append, strLen_append]; rfl
    have hX : (listText ((a :: l).map quoted)).length = (textFrom 1 (("[" : Str) ++ (if (0 : Nat) > 0 then ", " else "" : String) ++ quoted a) (l.map quoted)).length + 1 := by
      show (textFrom 0 "[" ((a :: l).map quoted) ++ "]").length = _
      rw [strLen_append]; rfl
    rw [hX, h0, e, piled_quoted fun s hs => h s (.tail _ hs), sym_quoted_len a (h a (.head _))]
    rw [List.length_cons] at h3
    omega

noncomputable def put (a : Addr) (o : Obj) (p : Addr × Obj) : Addr × Obj := if p.1 = a then (a, o) else p
theorem put_at {a : Addr} {o o' : Obj} : put a o (a, o') = (a, o) := if_pos rfl
theorem put_ne {a b : Addr} {o o' : Obj} (h : b ≠ a) : put a o (b, o') = (b, o') := if_neg h
theorem put_off {a : Addr} {o : Obj} {l : List (Addr × Obj)} (h : ∀ q ∈ l, q.1 ≠ a) : l.map (put a o) = l := by
  induction l with
  | nil => rfl
  | cons p l ih => rw [List.map_cons, ih fun q hq => h q (.tail _ hq), show put a o p = p from if_neg (h p (.head _))]
theorem put_fst {a : Addr} {o : Obj} {l : List (Addr × Obj)} : (l.map (put a o)).map (·.1) = l.map (·.1) := by
  rw [List.map_map]
  refine List.map_congr_left fun p _ => ?_
  show (put a o p).1 = p.1
  unfold put
  split
  · rename_i h; exact h.symm
  · rfl
theorem News.put {g h h' : Heap} {L a : Addr} {o o' : Obj} {led : List (Addr × Obj)} (N : News g L h led) (hm : (a, o) ∈ led) (k : ∀ b o, b ≠ a → h.get? b = some o → h'.get? b = some o) (e : h'.get? a = some o') : News g L h' (led.map (put a o')) := by
  intro p hp
  obtain ⟨q, hq, rfl⟩ := List.mem_map.mp hp
  unfold Mine.put
  split
  · exact ⟨e, (N _ hm).2⟩
  · rename_i hne
    exact ⟨k _ _ hne (N q hq).1, (N q hq).2⟩
section
variable {prog : Program} {w : World} {A : Around} {E : Value → Shared → Prop} {s : Shared} {g : Heap} {L : Addr} {m : Str → Option Value}
theorem append_put {a : Addr} {vs : List Value} {n : Nat} {x : Value} {led : List (Addr × Obj)} {Q : Value → Shared → Prop} (F : Fr g L s.heap m) (N : News g L s.heap led) (hm : (a, W.listOf vs.toArray n) ∈ led) (hsz : vs.length ≤ 16384)
    (h : ∀ h', Fr g L h' m → News g L h' (led.map (put a (W.listOf (vs ++ [x]).toArray (n + 1)))) → Q .none { s with heap := h' }) : wpAny (model prog w) A (call (.builtin "list.append") [.ref a, x]) Q E s := by
  have hs : vs.toArray.size ≤ sizeLine := by rw [List.size_toArray, sizeLine_eq]; omega
  have z := N _ hm
  refine append_at (hsz := hs) z.1 fun h' hsb ho' => h h' (F.change hsb z.2.1 z.2.2) (Mine.News.put N hm (fun b o hb e => ?_) ?_)
  · rw [hsb.2 b hb]; exact e
  · rw [← List.push_toArray]; exact ho'
end
noncomputable def Lists (B : Nat) (pool : List (Addr × Obj)) : Prop := ∀ p ∈ pool, ∃ (vs : List Value) (n : Nat), p.2 = W.listOf vs.toArray n ∧ vs.length ≤ B
theorem Lists.get {B : Nat} {pool : List (Addr × Obj)} (h : Lists B pool) {a : Addr} (ha : a ∈ pool.map (·.1)) : ∃ (vs : List Value) (n : Nat), (a, W.listOf vs.toArray n) ∈ pool ∧ vs.length ≤ B := by
  obtain ⟨⟨a', o⟩, hp, rfl⟩ := List.mem_map.mp ha
  obtain ⟨vs, n, e, hl⟩ := h _ hp
  replace e : o = _ := e
  subst e
  exact ⟨vs, n, hp, hl⟩
theorem Lists.put {B : Nat} {pool : List (Addr × Obj)} (h : Lists B pool) {a : Addr} {vs : List Value} {n : Nat} (hl : vs.length ≤ B + 1) : Lists (B + 1) (pool.map (put a (W.listOf vs.toArray n))) := by
  intro p hp
  obtain ⟨q, hq, rfl⟩ := List.mem_map.mp hp
  unfold Mine.put
  split
  · exact ⟨vs, n, rfl, hl⟩
  · obtain ⟨vs, n, e, hl⟩ := h q hq
    exact ⟨vs, n, e, by omega⟩
theorem Lists.mono {B B' : Nat} {pool : List (Addr × Obj)} (h : Lists B pool) (hb : B ≤ B') : Lists B' pool := fun p hp => by
  obtain ⟨vs, n, e, hl⟩ := h p hp
  exact ⟨vs, n, e, by omega⟩
theorem Lists.cons {B : Nat} {pool : List (Addr × Obj)} (h : Lists B pool) {a : Addr} {n : Nat} : Lists B ((a, W.listOf #[] n) :: pool) := fun p hp => by
  rcases List.mem_cons.mp hp with rfl | hp
  · exact ⟨[], n, rfl, Nat.zero_le _⟩
  · exact h p hp
noncomputable def putE (a : Addr) (ws : List Value) (n : Nat) (e : Ent) : Ent := if e.2.1 = a then (e.1, a, ws, n) else e
theorem eLed_put {a : Addr} {ws : List Value} {n : Nat} (E : List Ent) : (eLed E).map (put a (W.listOf ws.toArray n)) = eLed (E.map (putE a ws n)) := by
  unfold eLed
  rw [List.map_map, List.map_map]
  refine List.map_congr_left fun e _ => ?_
  show put a _ (e.2.1, _) = ((putE a ws n e).2.1, W.listOf (putE a ws n e).2.2.1.toArray (putE a ws n e).2.2.2)
  unfold put putE
  by_cases h : e.2.1 = a
  · rw [if_pos h, if_pos h]
  · rw [if_neg h, if_neg h]
theorem eKvs_put {a : Addr} {ws : List Value} {n : Nat} (E : List Ent) : eKvs (E.map (putE a ws n)) = eKvs E := by
  unfold eKvs
  rw [List.map_map]
  refine List.map_congr_left fun e _ => ?_
  show ((putE a ws n e).1, Value.ref (putE a ws n e).2.1) = _
  unfold putE
  split
  · rename_i h; rw [h]
  · rfl
theorem mem_valueAt {kvs : List (Str × Value)} {k : Str} (h : k ∈ kvs.map (·.1)) : ∃ v, valueAt kvs k = some v ∧ (k, v) ∈ kvs := by
  induction kvs with
  | nil => cases h
  | cons p l ih =>
    obtain ⟨k', v'⟩ := p
    by_cases e : k' = k
    · subst e; exact ⟨v', by simp [valueAt], .head _⟩
    · have : k ∈ l.map (·.1) := by
        rcases List.mem_cons.mp h with h | h
        · exact absurd h.symm e
        · exact h
      obtain ⟨v, h1, h2⟩ := ih this
      exact ⟨v, by rw [← h1]; simp [valueAt, e], .tail _ h2⟩
noncomputable def gEs (w : World) (pl pn pm td nd fd fo pr up : Addr) (st : Value) (t0 t1 t2 t3 t4 t5 t6 t7 t8 t9 : Tok) : List DictEntry :=
  [⟨PyData.keyHash w.params "Productions", .str "Productions" t0, .ref pl⟩, ⟨PyData.keyHash w.params "Prodnames", .str "Prodnames" t1, .ref pn⟩, ⟨PyData.keyHash w.params "Prodmap", .str "Prodmap" t2, .ref pm⟩,
   ⟨PyData.keyHash w.params "Terminals", .str "Terminals" t3, .ref td⟩, ⟨PyData.keyHash w.params "Nonterminals", .str "Nonterminals" t4, .ref nd⟩, ⟨PyData.keyHash w.params "First", .str "First" t5, .ref fd⟩,
   ⟨PyData.keyHash w.params "Follow", .str "Follow" t6, .ref fo⟩, ⟨PyData.keyHash w.params "Precedence", .str "Precedence" t7, .ref pr⟩, ⟨PyData.keyHash w.params "UsedPrecedence", .str "UsedPrecedence" t8, .ref up⟩,
   ⟨PyData.keyHash w.params "Start", .str "Start" t9, st⟩]
structure GF (prog : Program) (w : World) (x dx td pr : Addr) (es : List DictEntry) (kT : List (Str × Value)) (fix : List (Addr × Obj)) : Prop where
  hx : (x, instObj 248 dx) ∈ fix
  hdx : ∃ ep, (dx, dictOf es ep) ∈ fix
  htd : ∃ ot, (td, ot) ∈ fix ∧ ot.IsDictOf (strKind prog w) kT
  hpr : ∃ op, (pr, op) ∈ fix ∧ op.IsDictOf (strKind prog w) []
  hmt : (td == sysModules) = false
  hmp : (pr == sysModules) = false
  hkT : kT.map (·.1) = sK1
  ntd : @Ne Nat td dx
  npr : @Ne Nat pr dx
theorem GF.mono {prog : Program} {w : World} {x dx td pr : Addr} {es : List DictEntry} {kT : List (Str × Value)} {fix fix' : List (Addr × Obj)} (h : GF prog w x dx td pr es kT fix) (hs : ∀ q ∈ fix, q ∈ fix') : GF prog w x dx td pr es kT fix' :=
  let ⟨a, ⟨b, b'⟩, ⟨c, c', c''⟩, ⟨d, d', d''⟩, e, f, i, j1, j2⟩ := h; ⟨hs _ a, ⟨b, hs _ b'⟩, ⟨c, hs _ c', c''⟩, ⟨d, hs _ d', d''⟩, e, f, i, j1, j2⟩
structure GM (prog : Program) (w : World) (B : Nat) (pl pn pm nd : Addr) (rules : List (Str × List Str)) (ps : List Value) (opn opm ond : Obj) (E : List Ent) (kM kN kT : List (Str × Value)) (pool fix : List (Addr × Obj)) : Prop where
  hE : opn.IsDictOf (strKind prog w) (eKvs E)
  hM : opm.IsDictOf (strKind prog w) kM
  hN : ond.IsDictOf (strKind prog w) kN
  keysM : kM.map (·.1) = rules.map fun r => mapText r.1 r.2
  prods : ProdsIn fix ps rules
  prodn : ∀ e ∈ E, ProdsIn fix e.2.2.1 (rules.filter fun r => r.1 = e.1)
  prodk : ∀ r ∈ rules, r.1 ∈ E.map (·.1)
  keysE : ∀ z ∈ E.map (·.1), z ∈ sNAMES
  poolT : ∀ t ∈ sK1, ∃ a, valueAt kT t = some (.ref a) ∧ a ∈ pool.map (·.1)
  poolN : ∀ p ∈ kN, ∃ a, p.2 = .ref a ∧ a ∈ pool.map (·.1)
  lists : Lists B pool
  keysN : ∀ z ∈ kN.map (·.1), z ∈ sNAMES
  nodN : (kN.map (·.1)).Nodup
  rulesN : ∀ r ∈ rules, r.1 ∈ kN.map (·.1)
  emptyN : rules = [] → kN = []
  headN : ∀ r ∈ rules.head?, (kN.map (·.1)).head? = some r.1
  mn : (pn == sysModules) = false
  mm : (pm == sysModules) = false
  md : (nd == sysModules) = false
structure GA (pl pn pm nd : Addr) (E : List Ent) (pool fix : List (Addr × Obj)) : Prop where
  n1 : @Ne Nat pl pn
  n2 : @Ne Nat pl pm
  n3 : @Ne Nat pl nd
  n4 : @Ne Nat pn pm
  n5 : @Ne Nat pn nd
  n6 : @Ne Nat pm nd
  e : ∀ q ∈ eLed E, q.1 ≠ pl ∧ q.1 ≠ pn ∧ q.1 ≠ pm ∧ q.1 ≠ nd
  p : ∀ q ∈ pool, q.1 ≠ pl ∧ q.1 ≠ pn ∧ q.1 ≠ pm ∧ q.1 ≠ nd
  f : ∀ q ∈ fix, q.1 ≠ pl ∧ q.1 ≠ pn ∧ q.1 ≠ pm ∧ q.1 ≠ nd
  nE : ((eLed E).map (·.1)).Nodup
  ep : ∀ q ∈ eLed E, ∀ p ∈ pool, p.1 ≠ q.1
  ef : ∀ q ∈ eLed E, ∀ p ∈ fix, p.1 ≠ q.1
  pf : ∀ q ∈ pool, ∀ p ∈ fix, p.1 ≠ q.1
noncomputable def gLed (pl pn pm nd : Addr) (p0 : Value) (ps : List Value) (k : Nat) (opn opm ond : Obj) (E : List Ent) (pool fix : List (Addr × Obj)) : List (Addr × Obj) :=
  (pl, W.listOf (p0 :: ps).toArray k) :: (pn, opn) :: (pm, opm) :: (nd, ond) :: (eLed E ++ (pool ++ fix))
inductive GS (prog : Program) (w : World) (x dx pl pn pm td nd pr : Addr) (es : List DictEntry) (rules : List (Str × List Str)) (p0 : Value) (led : List (Addr × Obj)) : Prop
  | mk (ps k opn opm ond E kM kN kT pool fix) (h1 : led = gLed pl pn pm nd p0 ps k opn opm ond E pool fix) (h2 : GM prog w (4 * rules.length + 1) pl pn pm nd rules ps opn opm ond E kM kN kT pool fix) (h3 : GA pl pn pm nd E pool fix) (h4 : GF prog w x dx td pr es kT fix) : GS prog w x dx pl pn pm td nd pr es rules p0 led
structure GE (es : List DictEntry) (pl pn pm td nd fd fo pr : Addr) : Prop where
  pl : getL "Productions" es = some (some (.ref pl))
  pn : getL "Prodnames" es = some (some (.ref pn))
  pm : getL "Prodmap" es = some (some (.ref pm))
  td : getL "Terminals" es = some (some (.ref td))
  nd : getL "Nonterminals" es = some (some (.ref nd))
  fd : getL "First" es = some (some (.ref fd))
  fo : getL "Follow" es = some (some (.ref fo))
  pr : getL "Precedence" es = some (some (.ref pr))
  m1 : getL "_first" es = some none
  m2 : getL "add_production" es = some none
  m3 : getL "set_start" es = some none
  m4 : getL "compute_first" es = some none
  m5 : getL "compute_follow" es = some none
theorem ge_of (w : World) (pl pn pm td nd fd fo pr up : Addr) (st : Value) (t0 t1 t2 t3 t4 t5 t6 t7 t8 t9 : Tok) : GE (gEs w pl pn pm td nd fd fo pr up st t0 t1 t2 t3 t4 t5 t6 t7 t8 t9) pl pn pm td nd fd fo pr :=
  ⟨rfl, rfl, rfl, rfl, rfl, rfl, rfl, rfl, rfl, rfl, rfl, rfl, rfl⟩
theorem GM.mono {prog : Program} {w : World} {B : Nat} {pl pn pm nd : Addr} {rules : List (Str × List Str)} {ps : List Value} {opn opm ond : Obj} {E : List Ent} {kM kN kT : List (Str × Value)} {pool fix fix' : List (Addr × Obj)}
    (h : GM prog w B pl pn pm nd rules ps opn opm ond E kM kN kT pool fix) (hs : ∀ q ∈ fix, q ∈ fix') : GM prog w B pl pn pm nd rules ps opn opm ond E kM kN kT pool fix' :=
  { h with prods := h.prods.mono hs, prodn := fun e he => (h.prodn e he).mono hs }
theorem GA.more {pl pn pm nd : Addr} {E : List Ent} {pool fix : List (Addr × Obj)} (h : GA pl pn pm nd E pool fix) {a : Addr} {o : Obj} (h1 : a ≠ pl) (h2 : a ≠ pn) (h3 : a ≠ pm) (h4 : a ≠ nd) (h5 : ∀ q ∈ eLed E, q.1 ≠ a) (h6 : ∀ q ∈ pool, q.1 ≠ a) : GA pl pn pm nd E pool ((a, o) :: fix) :=
  { h with
    f := fun q hq => by
      rcases List.mem_cons.mp hq with rfl | hq
      · exact ⟨h1, h2, h3, h4⟩
      · exact h.f q hq
    ef := fun q hq p hp => by
      rcases List.mem_cons.mp hp with rfl | hp
      · exact (h5 q hq).symm
      · exact h.ef q hq p hp
    pf := fun q hq p hp => by
      rcases List.mem_cons.mp hp with rfl | hp
      · exact (h6 q hq).symm
      · exact h.pf q hq p hp }
theorem Apart.gLed {pl pn pm nd : Addr} {p0 : Value} {ps : List Value} {k : Nat} {opn opm ond : Obj} {E : List Ent} {pool fix own : List (Addr × Obj)} (h : Apart (gLed pl pn pm nd p0 ps k opn opm ond E pool fix) own) {a : Addr} {o : Obj} (ha : (a, o) ∈ own) :
    a ≠ pl ∧ a ≠ pn ∧ a ≠ pm ∧ a ≠ nd ∧ (∀ q ∈ eLed E, q.1 ≠ a) ∧ ∀ q ∈ pool, q.1 ≠ a :=
  ⟨h _ (.head _) _ ha, h _ (.tail _ (.head _)) _ ha, h _ (.tail _ (.tail _ (.head _))) _ ha, h _ (.tail _ (.tail _ (.tail _ (.head _)))) _ ha,
    fun q hq => (h q (.tail _ (.tail _ (.tail _ (.tail _ (List.mem_append_left _ hq))))) _ ha).symm, fun q hq => (h q (.tail _ (.tail _ (.tail _ (.tail _ (List.mem_append_right _ (List.mem_append_left _ hq)))))) _ ha).symm⟩
theorem Fr.gen {g h : Heap} {L : Addr} {m : Str → Option Value} {G : Prop} (F : Fr g L h m) (k : ∀ m', m' = m → Fr g L h m' → G) : G := k m rfl F
structure NP (prog : Program) (w : World) (B : Nat) (oth : List Addr) (hd : Option Str) (ks : List Str) (kT : List (Str × Value)) (ond : Obj) (kN : List (Str × Value)) (pool : List (Addr × Obj)) : Prop where
  hN : ond.IsDictOf (strKind prog w) kN
  poolT : ∀ t ∈ sK1, ∃ a, valueAt kT t = some (.ref a) ∧ a ∈ pool.map (·.1)
  poolN : ∀ p ∈ kN, ∃ a, p.2 = .ref a ∧ a ∈ pool.map (·.1)
  lists : Lists B pool
  keys : ∀ z ∈ kN.map (·.1), z ∈ sNAMES
  nod : (kN.map (·.1)).Nodup
  old : ∀ z ∈ ks, z ∈ kN.map (·.1)
  head : ∀ z ∈ hd, (kN.map (·.1)).head? = some z
  off : ∀ p ∈ pool, p.1 ∉ oth
theorem NP.len {prog : Program} {w : World} {B : Nat} {oth : List Addr} {hd : Option Str} {ks : List Str} {kT kN : List (Str × Value)} {ond : Obj} {pool : List (Addr × Obj)} (h : NP prog w B oth hd ks kT ond kN pool) : kN.length ≤ 3 := by
  have := nodup_len (m := sNAMES) h.nod h.keys
  rw [List.length_map] at this
  exact this
theorem NP.add {prog : Program} {w : World} {B : Nat} {oth : List Addr} {hd : Option Str} {ks : List Str} {kT kN : List (Str × Value)} {ond ond' : Obj} {pool : List (Addr × Obj)} (h : NP prog w B oth hd ks kT ond kN pool)
    {z : Str} {l : Addr} {n : Nat} (hz : z ∈ sNAMES) (hnew : z ∉ kN.map (·.1)) (hdd : ond'.IsDictOf (strKind prog w) (stored kN z (.ref l))) (hl : l ∉ oth) {hd' : Option Str} (hh : ∀ y ∈ hd', (kN = [] ∧ y = z) ∨ (kN.map (·.1)).head? = some y) :
    NP prog w B oth hd' (z :: ks) kT ond' (stored kN z (.ref l)) ((l, W.listOf #[] n) :: pool) := by
  have e : stored kN z (.ref l) = kN ++ [(z, .ref l)] := stored_new hnew _
  rw [e] at hdd ⊢
  refine ⟨hdd, fun t ht => ?_, fun p hp => ?_, h.lists.cons, fun y hy => ?_, ?_, fun y hy => ?_, fun y hy => ?_, fun p hp => ?_⟩
  · obtain ⟨a, h1, h2⟩ := h.poolT t ht
    exact ⟨a, h1, .tail _ h2⟩
  · rcases List.mem_append.mp hp with hp | hp
    · obtain ⟨a, h1, h2⟩ := h.poolN p hp
      exact ⟨a, h1, .tail _ h2⟩
    · rw [List.mem_singleton.mp hp]; exact ⟨l, rfl, .head _⟩
  · rw [List.map_append] at hy
    rcases List.mem_append.mp hy with hy | hy
    · exact h.keys y hy
    · rw [List.mem_singleton.mp hy]; exact hz
  · rw [List.map_append]
    refine List.nodup_append.mpr ⟨h.nod, List.nodup_cons.mpr ⟨List.not_mem_nil, List.nodup_nil⟩, ?_⟩
    intro a ha b hb q
    rw [List.mem_singleton.mp hb] at q
    have q : a = z := q
    exact hnew (q ▸ ha)
  · rw [List.map_append]
    rcases List.mem_cons.mp hy with rfl | hy
    · exact List.mem_append_right _ (.head _)
    · exact List.mem_append_left _ (h.old y hy)
  · rcases hh y hy with ⟨q, rfl⟩ | q
    · rw [q]; rfl
    · cases kN with
      | nil => cases q
      | cons p kN => exact q
  · rcases List.mem_cons.mp hp with rfl | hp
    · exact hl
    · exact h.off p hp
theorem NP.old1 {prog : Program} {w : World} {B : Nat} {oth : List Addr} {hd : Option Str} {ks : List Str} {kT kN : List (Str × Value)} {ond : Obj} {pool : List (Addr × Obj)} (h : NP prog w B oth hd ks kT ond kN pool) {z : Str} (hz : z ∈ kN.map (·.1)) : NP prog w B oth hd (z :: ks) kT ond kN pool :=
  { h with old := fun y hy => (List.mem_cons.mp hy).elim (fun e => e ▸ hz) (h.old y) }
theorem NP.rehead {prog : Program} {w : World} {B : Nat} {oth : List Addr} {hd hd' : Option Str} {ks : List Str} {kT kN : List (Str × Value)} {ond : Obj} {pool : List (Addr × Obj)} (h : NP prog w B oth hd ks kT ond kN pool) (hh : ∀ y ∈ hd', (kN.map (·.1)).head? = some y) : NP prog w B oth hd' ks kT ond kN pool :=
  { h with head := hh }
theorem NP.less {prog : Program} {w : World} {B : Nat} {oth : List Addr} {hd : Option Str} {ks ks' : List Str} {kT kN : List (Str × Value)} {ond : Obj} {pool : List (Addr × Obj)} (h : NP prog w B oth hd ks kT ond kN pool) (hs : ∀ z ∈ ks', z ∈ ks) : NP prog w B oth hd ks' kT ond kN pool :=
  { h with old := fun y hy => h.old y (hs y hy) }
theorem NP.put {prog : Program} {w : World} {B : Nat} {oth : List Addr} {hd : Option Str} {ks : List Str} {kT kN : List (Str × Value)} {ond : Obj} {pool : List (Addr × Obj)} (h : NP prog w B oth hd ks kT ond kN pool)
    {a : Addr} {vs : List Value} {n : Nat} (hl : vs.length ≤ B + 1) : NP prog w (B + 1) oth hd ks kT ond kN (pool.map (put a (W.listOf vs.toArray n))) :=
  { h with
    poolT := fun t ht => by rw [put_fst]; exact h.poolT t ht
    poolN := fun t ht => by rw [put_fst]; exact h.poolN t ht
    lists := h.lists.put hl
    off := fun p hp q => by
      have : p.1 ∈ pool.map (·.1) := by rw [← put_fst (a := a) (o := W.listOf vs.toArray n)]; exact List.mem_map_of_mem hp
      obtain ⟨p', hp', e⟩ := List.mem_map.mp this
      exact h.off p' hp' (e ▸ q) }
theorem NP.mono {prog : Program} {w : World} {B B' : Nat} {oth : List Addr} {hd : Option Str} {ks : List Str} {kT kN : List (Str × Value)} {ond : Obj} {pool : List (Addr × Obj)} (h : NP prog w B oth hd ks kT ond kN pool) (hb : B ≤ B') : NP prog w B' oth hd ks kT ond kN pool :=
  { h with lists := h.lists.mono hb }
theorem NP.get {prog : Program} {w : World} {B : Nat} {oth : List Addr} {hd : Option Str} {ks : List Str} {kT kN : List (Str × Value)} {ond : Obj} {pool : List (Addr × Obj)} (h : NP prog w B oth hd ks kT ond kN pool) {z : Str} (hz : z ∈ kN.map (·.1)) :
    ∃ (a : Addr) (vs : List Value) (n : Nat), valueAt kN z = some (.ref a) ∧ (a, W.listOf vs.toArray n) ∈ pool ∧ vs.length ≤ B := by
  obtain ⟨v, h1, h2⟩ := mem_valueAt hz
  obtain ⟨a, e, ha⟩ := h.poolN _ h2
  obtain ⟨vs, n, h3, h4⟩ := h.lists.get ha
  replace e : v = .ref a := e
  exact ⟨a, vs, n, by rw [h1, e], h3, h4⟩
theorem NP.getT {prog : Program} {w : World} {B : Nat} {oth : List Addr} {hd : Option Str} {ks : List Str} {kT kN : List (Str × Value)} {ond : Obj} {pool : List (Addr × Obj)} (h : NP prog w B oth hd ks kT ond kN pool) {z : Str} (hz : z ∈ sK1) :
    ∃ (a : Addr) (vs : List Value) (n : Nat), valueAt kT z = some (.ref a) ∧ (a, W.listOf vs.toArray n) ∈ pool ∧ vs.length ≤ B := by
  obtain ⟨a, e, ha⟩ := h.poolT z hz
  obtain ⟨vs, n, h3, h4⟩ := h.lists.get ha
  exact ⟨a, vs, n, e, h3, h4⟩
noncomputable def LJ (D0 : Addr) (oD : Obj) (pl : Addr) (opl : Obj) (pn : Addr) (opn : Obj) (pm : Addr) (opm : Obj) (nd : Addr) (ond : Obj) (E : List Ent) (pool rst : List (Addr × Obj)) : List (Addr × Obj) :=
  (D0, oD) :: (pl, opl) :: (pn, opn) :: (pm, opm) :: (nd, ond) :: (eLed E ++ (pool ++ rst))
noncomputable def othA (D0 pl pn pm nd : Addr) (E : List Ent) (fx : List (Addr × Obj)) : List Addr := D0 :: pl :: pn :: pm :: nd :: ((eLed E).map (·.1) ++ fx.map (·.1))
theorem othA_off {D0 pl pn pm nd a : Addr} {E : List Ent} {fx : List (Addr × Obj)} (h : a ∉ othA D0 pl pn pm nd E fx) : D0 ≠ a ∧ pl ≠ a ∧ pn ≠ a ∧ pm ≠ a ∧ nd ≠ a ∧ (∀ q ∈ eLed E, q.1 ≠ a) ∧ ∀ q ∈ fx, q.1 ≠ a := by
  simp only [othA, List.mem_cons, List.mem_append, not_or] at h
  obtain ⟨h1, h2, h3, h4, h5, h6, h7⟩ := h
  exact ⟨Ne.symm h1, Ne.symm h2, Ne.symm h3, Ne.symm h4, Ne.symm h5, fun q hq e => h6 (e ▸ List.mem_map_of_mem hq), fun q hq e => h7 (e ▸ List.mem_map_of_mem hq)⟩
theorem othA_not {D0 pl pn pm nd a : Addr} {E : List Ent} {fx : List (Addr × Obj)} (h1 : D0 ≠ a) (h2 : pl ≠ a) (h3 : pn ≠ a) (h4 : pm ≠ a) (h5 : nd ≠ a) (h6 : ∀ q ∈ eLed E, q.1 ≠ a) (h7 : ∀ q ∈ fx, q.1 ≠ a) : a ∉ othA D0 pl pn pm nd E fx := by
  simp only [othA, List.mem_cons, List.mem_append, not_or]
  refine ⟨Ne.symm h1, Ne.symm h2, Ne.symm h3, Ne.symm h4, Ne.symm h5, fun q => ?_, fun q => ?_⟩
  · obtain ⟨p, hp, e⟩ := List.mem_map.mp q; exact h6 p hp e
  · obtain ⟨p, hp, e⟩ := List.mem_map.mp q; exact h7 p hp e
theorem lj_put {D0 pl pn pm nd a : Addr} {oD opl opn opm ond v : Obj} {E : List Ent} {pool fx own : List (Addr × Obj)} (h : a ∉ othA D0 pl pn pm nd E fx) (ho : ∀ q ∈ own, q.1 ≠ a) :
    (LJ D0 oD pl opl pn opn pm opm nd ond E pool (fx ++ own)).map (put a v) = LJ D0 oD pl opl pn opn pm opm nd ond E (pool.map (put a v)) (fx ++ own) := by
  obtain ⟨h1, h2, h3, h4, h5, h6, h7⟩ := othA_off h
  simp only [LJ, List.map_cons, List.map_append, put_ne h1, put_ne h2, put_ne h3, put_ne h4, put_ne h5, put_off h6, put_off h7, put_off ho]
theorem lj_app {D0 pl pn pm nd : Addr} {oD opl opn opm ond : Obj} {E : List Ent} {pool fx own : List (Addr × Obj)} : LJ D0 oD pl opl pn opn pm opm nd ond E pool fx ++ own = LJ D0 oD pl opl pn opn pm opm nd ond E pool (fx ++ own) := by
  simp only [LJ, List.cons_append, List.append_assoc]
theorem mem_lj {D0 pl pn pm nd : Addr} {oD opl opn opm ond : Obj} {E : List Ent} {pool rst : List (Addr × Obj)} {q : Addr × Obj} (h : q ∈ pool) : q ∈ LJ D0 oD pl opl pn opn pm opm nd ond E pool rst :=
  .tail _ (.tail _ (.tail _ (.tail _ (.tail _ (List.mem_append_right _ (List.mem_append_left _ h))))))
theorem mem_ljr {D0 pl pn pm nd : Addr} {oD opl opn opm ond : Obj} {E : List Ent} {pool rst : List (Addr × Obj)} {q : Addr × Obj} (h : q ∈ rst) : q ∈ LJ D0 oD pl opl pn opn pm opm nd ond E pool rst :=
  .tail _ (.tail _ (.tail _ (.tail _ (.tail _ (List.mem_append_right _ (List.mem_append_right _ h))))))
theorem lj_fst {D0 pl pn pm nd a : Addr} {oD opl opn opm ond v : Obj} {E : List Ent} {pool fx : List (Addr × Obj)} : (LJ D0 oD pl opl pn opn pm opm nd ond E (pool.map (put a v)) fx).map (·.1) = (LJ D0 oD pl opl pn opn pm opm nd ond E pool fx).map (·.1) := by
  simp only [LJ, List.map_cons, List.map_append, put_fst]
theorem Apart.same {own l l' : List (Addr × Obj)} (h : Apart l own) (e : l'.map (·.1) = l.map (·.1)) : Apart l' own := h.adr fun p hp => e ▸ List.mem_map_of_mem hp
theorem lj_apart {D0 pl pn pm nd l : Addr} {oD opl opn opm ond ond' ol : Obj} {E : List Ent} {pool fx own : List (Addr × Obj)} (h : Apart (LJ D0 oD pl opl pn opn pm opm nd ond E pool fx) own) (hl : ∀ q ∈ own, q.1 ≠ l) : Apart (LJ D0 oD pl opl pn opn pm opm nd ond' E ((l, ol) :: pool) fx) own := by
  intro p hp q hq
  simp only [LJ, List.mem_cons, List.mem_append] at hp
  rcases hp with rfl | rfl | rfl | rfl | rfl | hp | (rfl | hp) | hp
  · exact h (D0, oD) (.head _) q hq
  · exact h (pl, opl) (.tail _ (.head _)) q hq
  · exact h (pn, opn) (.tail _ (.tail _ (.head _))) q hq
  · exact h (pm, opm) (.tail _ (.tail _ (.tail _ (.head _)))) q hq
  · exact h (nd, ond) (.tail _ (.tail _ (.tail _ (.tail _ (.head _))))) q hq
  · exact h p (.tail _ (.tail _ (.tail _ (.tail _ (.tail _ (List.mem_append_left _ hp)))))) q hq
  · exact hl q hq
  · exact h p (mem_lj hp) q hq
  · exact h p (mem_ljr hp) q hq
theorem Fr.unsay {g h : Heap} {L : Addr} {m : Str → Option Value} {x : Str} {v : Value} (F : Fr g L h (fun y => if y = x then some v else m y)) (e : m x = some v) : Fr g L h m := by
  have : (fun y => if y = x then some v else m y) = m := by
    funext y
    by_cases h : y = x
    · rw [if_pos h, h, e]
    · rw [if_neg h]
  rwa [this] at F
theorem News.hdName {g h : Heap} {L a : Addr} {o : Obj} {l : List (Addr × Obj)} {G : Prop} (N : News g L h ((a, o) :: l)) (k : ∀ a' : Addr, a' = a → G) : G := k a rfl
theorem News.genHd {g h : Heap} {L a : Addr} {o : Obj} {l : List (Addr × Obj)} {G : Prop} (N : News g L h ((a, o) :: l)) (k : ∀ o', o' = o → News g L h ((a, o') :: l) → G) : G := k o rfl N
theorem GA.pool {D0 pl pn pm nd : Addr} {E : List Ent} {pool pool' fx : List (Addr × Obj)} (h : GA pl pn pm nd E pool fx) (ho : ∀ p ∈ pool', p.1 ∉ othA D0 pl pn pm nd E fx) : GA pl pn pm nd E pool' fx :=
  { h with
    p := fun q hq => by
      obtain ⟨_, h2, h3, h4, h5, _, _⟩ := othA_off (ho q hq)
      exact ⟨Ne.symm h2, Ne.symm h3, Ne.symm h4, Ne.symm h5⟩
    ep := fun q hq p hp => by
      obtain ⟨_, _, _, _, _, h6, _⟩ := othA_off (ho p hp)
      exact (h6 q hq).symm
    pf := fun q hq p hp => by
      obtain ⟨_, _, _, _, _, _, h7⟩ := othA_off (ho q hq)
      exact h7 p hp }
theorem GA.add {pl pn pm nd : Addr} {E : List Ent} {pool fix : List (Addr × Obj)} (h : GA pl pn pm nd E pool fix) {a : Addr} {o : Obj} (hne : ∀ q : Addr, (q = pl ∨ q = pn ∨ q = pm ∨ q = nd ∨ (∃ p ∈ eLed E, p.1 = q) ∨ ∃ p ∈ pool, p.1 = q) → a ≠ q) : GA pl pn pm nd E pool ((a, o) :: fix) :=
  h.more (hne pl (.inl rfl)) (hne pn (.inr (.inl rfl))) (hne pm (.inr (.inr (.inl rfl)))) (hne nd (.inr (.inr (.inr (.inl rfl))))) (fun q hq => (hne q.1 (.inr (.inr (.inr (.inr (.inl ⟨q, hq, rfl⟩)))))).symm) (fun q hq => (hne q.1 (.inr (.inr (.inr (.inr (.inr ⟨q, hq, rfl⟩)))))).symm)
theorem gled_pl {pl pn pm nd : Addr} {p0 x : Value} {ps : List Value} {k : Nat} {opn opm ond : Obj} {E : List Ent} {pool fix : List (Addr × Obj)} (h : GA pl pn pm nd E pool fix) :
    (gLed pl pn pm nd p0 ps k opn opm ond E pool fix).map (put pl (W.listOf ((p0 :: ps) ++ [x]).toArray (k + 1))) = gLed pl pn pm nd p0 (ps ++ [x]) (k + 1) opn opm ond E pool fix := by
  have n1 : pn ≠ pl := Ne.symm h.n1
  have n2 : pm ≠ pl := Ne.symm h.n2
  have n3 : nd ≠ pl := Ne.symm h.n3
  simp only [gLed, List.map_cons, List.map_append, put_at, put_ne n1, put_ne n2, put_ne n3, put_off (fun q hq => (h.e q hq).1), put_off (fun q hq => (h.p q hq).1), put_off (fun q hq => (h.f q hq).1)]
  rfl
theorem gled_e {pl pn pm nd a : Addr} {p0 : Value} {ps ws : List Value} {k n : Nat} {opn opm ond : Obj} {E : List Ent} {pool fix : List (Addr × Obj)} (h : GA pl pn pm nd E pool fix) {o : Obj} (ha : (a, o) ∈ eLed E) :
    (gLed pl pn pm nd p0 ps k opn opm ond E pool fix).map (put a (W.listOf ws.toArray n)) = gLed pl pn pm nd p0 ps k opn opm ond (E.map (putE a ws n)) pool fix := by
  obtain ⟨n0, n1, n2, n3⟩ := h.e _ ha
  replace n0 : pl ≠ a := Ne.symm n0
  replace n1 : pn ≠ a := Ne.symm n1
  replace n2 : pm ≠ a := Ne.symm n2
  replace n3 : nd ≠ a := Ne.symm n3
  simp only [gLed, List.map_cons, List.map_append, put_ne n0, put_ne n1, put_ne n2, put_ne n3, put_off (fun q hq => h.ep _ ha q hq), put_off (fun q hq => h.ef _ ha q hq), eLed_put]
noncomputable def JoinMark : Prop := True
theorem GM.np {prog : Program} {w : World} {B : Nat} {pl pn pm nd : Addr} {rules : List (Str × List Str)} {ps : List Value} {opn opm ond : Obj} {E : List Ent} {kM kN kT : List (Str × Value)} {pool fix : List (Addr × Obj)}
    (h : GM prog w B pl pn pm nd rules ps opn opm ond E kM kN kT pool fix) {oth : List Addr} (ho : ∀ p ∈ pool, p.1 ∉ oth) : NP prog w B oth (rules.head?.map (·.1)) (rules.map (·.1)) kT ond kN pool :=
  ⟨h.hN, h.poolT, h.poolN, h.lists, h.keysN, h.nodN, (fun z hz => by obtain ⟨r, hr, rfl⟩ := List.mem_map.mp hz; exact h.rulesN r hr), (fun z hz => by
    cases e : rules.head? with
    | none => rw [e] at hz; cases hz
    | some r => rw [e] at hz; cases hz; exact h.headN r e), ho⟩
theorem dict_nodup {prog : Program} {w : World} {K : Type} [DecidableEq K] {knd : KeyKind prog w K} {o : Obj} {kvs : List (K × Value)} (h : o.IsDictOf knd kvs) : (kvs.map (·.1)).Nodup := by
  obtain ⟨es, ep, h1, h2, h3, h4, h5⟩ := h
  exact h5
theorem gm_next {prog : Program} {w : World} {B B2 : Nat} {pl pn pm nd : Addr} {rules : List (Str × List Str)} {ps : List Value} {opn opm ond opn2 opm2 ond' : Obj} {E E2 : List Ent} {kM kN kT kN' : List (Str × Value)} {pool fc pool' c3 : List (Addr × Obj)} {oth : List Addr} {nm mk : Str} {ss : List Str} {v : Value}
    (M : GM prog w B pl pn pm nd rules ps opn opm ond E kM kN kT pool fc) (P : NP prog w B2 oth ((rules ++ [(nm, ss)]).head?.map (·.1)) (nm :: rules.map (·.1)) kT ond' kN' pool') (hc : ∀ q ∈ fc, q ∈ c3) (hB : B2 ≤ 4 * (rules ++ [(nm, ss)]).length + 1) (hp : ProdIn c3 v (nm, ss))
    (hM : opm2.IsDictOf (strKind prog w) (stored kM mk v)) (hmk : mapText nm ss = mk) (hmkn : mk ∉ kM.map (·.1)) (hE2 : opn2.IsDictOf (strKind prog w) (eKvs E2)) (hE3 : ∀ e ∈ E2, ProdsIn c3 e.2.2.1 ((rules ++ [(nm, ss)]).filter fun r => r.1 = e.1)) (hE4 : ∀ z ∈ E2.map (·.1), z ∈ sNAMES)
    (hE5 : ∀ r ∈ rules ++ [(nm, ss)], r.1 ∈ E2.map (·.1)) : GM prog w (4 * (rules ++ [(nm, ss)]).length + 1) pl pn pm nd (rules ++ [(nm, ss)]) (ps ++ [v]) opn2 opm2 ond' E2 (stored kM mk v) kN' kT pool' c3 := by
  refine ⟨hE2, hM, P.hN, ?_, (M.prods.mono hc).snoc hp, hE3, hE5, hE4, P.poolT, P.poolN, P.lists.mono hB, P.keys, P.nod, fun r hr => ?_, fun e => ?_, fun r hr => ?_, M.mn, M.mm, M.md⟩
  · rw [stored_new hmkn, List.map_append, List.map_append, M.keysM, ← hmk]; rfl
  · rcases List.mem_append.mp hr with hr | hr
    · exact P.old _ (.tail _ (List.mem_map_of_mem hr))
    · rw [List.mem_singleton.mp hr]; exact P.old _ (.head _)
  · exact absurd e (by simp)
  · refine P.head _ ?_
    rw [Option.mem_def.mp hr]
    rfl
theorem filter_same {rules : List (Str × List Str)} {nm : Str} {ss : List Str} : (rules ++ [(nm, ss)]).filter (fun r => r.1 = nm) = rules.filter (fun r => r.1 = nm) ++ [(nm, ss)] := by
  rw [List.filter_append]; simp
theorem filter_other {rules : List (Str × List Str)} {nm z : Str} {ss : List Str} (h : nm ≠ z) : (rules ++ [(nm, ss)]).filter (fun r => r.1 = z) = rules.filter (fun r => r.1 = z) := by
  rw [List.filter_append]; simp [h]
theorem e_new {prog : Program} {w : World} {B : Nat} {pl pn pm nd l : Addr} {rules : List (Str × List Str)} {ps : List Value} {opn opm ond : Obj} {E : List Ent} {kM kN kT : List (Str × Value)} {pool fc c3 : List (Addr × Obj)} {nm : Str} {ss : List Str} {v : Value} {n : Nat}
    (M : GM prog w B pl pn pm nd rules ps opn opm ond E kM kN kT pool fc) (hc : ∀ q ∈ fc, q ∈ c3) (hp : ProdIn c3 v (nm, ss)) (hrn : nm ∈ sNAMES) (hn : nm ∉ E.map (·.1)) :
    (∀ e ∈ E ++ [(nm, l, [v], n)], ProdsIn c3 e.2.2.1 ((rules ++ [(nm, ss)]).filter fun r => r.1 = e.1)) ∧ (∀ z ∈ (E ++ [(nm, l, [v], n)]).map (·.1), z ∈ sNAMES) ∧ (∀ r ∈ rules ++ [(nm, ss)], r.1 ∈ (E ++ [(nm, l, [v], n)]).map (·.1)) := by
  refine ⟨fun e he => ?_, fun z hz => ?_, fun r hr => ?_⟩
  · rcases List.mem_append.mp he with he | he
    · rw [filter_other (z := e.1) fun q : nm = e.1 => hn (by rw [q]; exact List.mem_map_of_mem he)]
      exact (M.prodn e he).mono hc
    · rw [List.mem_singleton.mp he]
      show ProdsIn c3 [v] ((rules ++ [(nm, ss)]).filter fun r => r.1 = nm)
      rw [filter_same, show rules.filter (fun r => r.1 = nm) = [] from List.filter_eq_nil_iff.mpr fun r hr q => hn ((of_decide_eq_true q) ▸ M.prodk r hr)]
      exact .cons hp .nil
  · rw [List.map_append] at hz
    rcases List.mem_append.mp hz with hz | hz
    · exact M.keysE z hz
    · rw [List.mem_singleton.mp hz]; exact hrn
  · rw [List.map_append]
    rcases List.mem_append.mp hr with hr | hr
    · exact List.mem_append_left _ (M.prodk r hr)
    · rw [List.mem_singleton.mp hr]; exact List.mem_append_right _ (.head _)
theorem nodup_inj {α β : Type} {f : α → β} {l : List α} (h : (l.map f).Nodup) {a b : α} (h1 : a ∈ l) (h2 : b ∈ l) (e : f a = f b) : a = b := by
  induction l with
  | nil => cases h1
  | cons p l ih =>
    have h := List.nodup_cons.mp h
    rcases List.mem_cons.mp h1 with e1 | h1
    · rcases List.mem_cons.mp h2 with e2 | h2
      · rw [e1, e2]
      · exact absurd (List.mem_map_of_mem (f := f) h2) (by rw [← e, e1]; exact h.1)
    · rcases List.mem_cons.mp h2 with e2 | h2
      · exact absurd (List.mem_map_of_mem (f := f) h1) (by rw [e, e2]; exact h.1)
      · exact ih h.2 h1 h2
theorem e_more {prog : Program} {w : World} {B : Nat} {pl pn pm nd a : Addr} {rules : List (Str × List Str)} {ps : List Value} {opn opm ond : Obj} {E : List Ent} {kM kN kT : List (Str × Value)} {pool fc c3 : List (Addr × Obj)} {nm : Str} {ss : List Str} {v : Value} {n : Nat} {ws : List Value}
    (M : GM prog w B pl pn pm nd rules ps opn opm ond E kM kN kT pool fc) (hnd : ((eLed E).map (·.1)).Nodup) (hc : ∀ q ∈ fc, q ∈ c3) (hp : ProdIn c3 v (nm, ss)) (he : (nm, a, ws, n) ∈ E) :
    (∀ e ∈ E.map (putE a (ws ++ [v]) (n + 1)), ProdsIn c3 e.2.2.1 ((rules ++ [(nm, ss)]).filter fun r => r.1 = e.1)) ∧ (∀ z ∈ (E.map (putE a (ws ++ [v]) (n + 1))).map (·.1), z ∈ sNAMES) ∧ (∀ r ∈ rules ++ [(nm, ss)], r.1 ∈ (E.map (putE a (ws ++ [v]) (n + 1))).map (·.1)) := by
  have ek : (E.map (putE a (ws ++ [v]) (n + 1))).map (·.1) = E.map (·.1) := by
    rw [← eKvs_keys, eKvs_put, eKvs_keys]
  have hkn : (E.map (·.1)).Nodup := by
    have := dict_nodup M.hE
    rw [eKvs_keys] at this; exact this
  have hnd' : (E.map fun e => e.2.1).Nodup := by
    have : (eLed E).map (·.1) = E.map fun e => e.2.1 := by
      unfold eLed; rw [List.map_map]; rfl
    rw [this] at hnd; exact hnd
  refine ⟨fun e' he' => ?_, fun z hz => M.keysE z (ek ▸ hz), fun r hr => ?_⟩
  · obtain ⟨e, hm, rfl⟩ := List.mem_map.mp he'
    by_cases ha : e.2.1 = a
    · have : e = (nm, a, ws, n) := nodup_inj hnd' hm he ha
      rw [show putE a (ws ++ [v]) (n + 1) e = (e.1, a, ws ++ [v], n + 1) from if_pos ha, this]
      show ProdsIn c3 (ws ++ [v]) ((rules ++ [(nm, ss)]).filter fun r => r.1 = nm)
      rw [filter_same]
      exact ((M.prodn _ he).mono hc).snoc hp
    · rw [show putE a (ws ++ [v]) (n + 1) e = e from if_neg ha, filter_other (z := e.1) fun q : nm = e.1 => ha (congrArg (fun e : Ent => e.2.1) (nodup_inj hkn he hm q)).symm]
      exact (M.prodn e hm).mono hc
  · rw [ek]
    rcases List.mem_append.mp hr with hr | hr
    · exact M.prodk r hr
    · rw [List.mem_singleton.mp hr]; exact List.mem_map_of_mem he
theorem GA.more_e {pl pn pm nd a : Addr} {E : List Ent} {pool fix : List (Addr × Obj)} {ws : List Value} {n : Nat} (h : GA pl pn pm nd E pool fix) : GA pl pn pm nd (E.map (putE a ws n)) pool fix := by
  have key : ∀ q ∈ eLed (E.map (putE a ws n)), ∃ q' ∈ eLed E, q'.1 = q.1 := fun q hq => by
    have : q.1 ∈ (eLed E).map (·.1) := by rw [← put_fst (a := a) (o := W.listOf ws.toArray n), eLed_put]; exact List.mem_map_of_mem hq
    obtain ⟨q', hq', e⟩ := List.mem_map.mp this
    exact ⟨q', hq', e⟩
  exact { h with
    e := fun q hq => by obtain ⟨q', h1, h2⟩ := key q hq; rw [← h2]; exact h.e q' h1
    nE := by rw [← eLed_put, put_fst]; exact h.nE
    ep := fun q hq p hp => by obtain ⟨q', h1, h2⟩ := key q hq; rw [← h2]; exact h.ep q' h1 p hp
    ef := fun q hq p hp => by obtain ⟨q', h1, h2⟩ := key q hq; rw [← h2]; exact h.ef q' h1 p hp }
theorem GA.new_e {pl pn pm nd l : Addr} {E : List Ent} {pool fix : List (Addr × Obj)} {ws : List Value} {n : Nat} {nm : Str} (h : GA pl pn pm nd E pool fix) (h1 : l ≠ pl ∧ l ≠ pn ∧ l ≠ pm ∧ l ≠ nd) (h2 : ∀ q ∈ eLed E, q.1 ≠ l) (h3 : ∀ q ∈ pool, q.1 ≠ l) (h4 : ∀ q ∈ fix, q.1 ≠ l) :
    GA pl pn pm nd (E ++ [(nm, l, ws, n)]) pool fix := by
  have e1 : eLed (E ++ [(nm, l, ws, n)]) = eLed E ++ [(l, W.listOf ws.toArray n)] := eLed_app _ _
  exact { h with
    e := fun q hq => by
      rw [e1] at hq
      rcases List.mem_append.mp hq with hq | hq
      · exact h.e q hq
      · rw [List.mem_singleton.mp hq]; exact h1
    nE := by
      rw [e1, List.map_append]
      refine List.nodup_append.mpr ⟨h.nE, by simp, ?_⟩
      intro a ha b hb q
      obtain ⟨p, hp, rfl⟩ := List.mem_map.mp ha
      have : b = l := by simpa using hb
      exact h2 p hp (q.trans this)
    ep := fun q hq p hp => by
      rw [e1] at hq
      rcases List.mem_append.mp hq with hq | hq
      · exact h.ep q hq p hp
      · rw [List.mem_singleton.mp hq]; exact h3 p hp
    ef := fun q hq p hp => by
      rw [e1] at hq
      rcases List.mem_append.mp hq with hq | hq
      · exact h.ef q hq p hp
      · rw [List.mem_singleton.mp hq]; exact h4 p hp }
theorem prod_off {g h : Heap} {L dx : Addr} {led fix : List (Addr × Obj)} {es : List DictEntry} {ep : Nat} {v : Value} {r : Str × List Str} (N : News g L h led) (hdx : (dx, dictOf es ep) ∈ led) (hn : getL "name" es = some none) (hs : ∀ q ∈ fix, q ∈ led) (h : ProdIn fix v r) : ProdIn (fix.filter fun q => q.1 ≠ dx) v r := by
  obtain ⟨xp, dp, es', ep', t, D, n, ws, e, h1, h2, h3, h4, h5, h6⟩ := h
  have off : ∀ {a : Addr} {o : Obj}, (a, o) ∈ fix → (o ≠ dictOf es ep) → (a, o) ∈ fix.filter fun q => q.1 ≠ dx := fun {a o} hm ho => List.mem_filter.mpr ⟨hm, decide_eq_true fun q => ho (by
    replace q : a = dx := q
    have a1 := (N _ (hs _ hm)).1
    have a2 := (N _ hdx).1
    dsimp only at a1 a2
    rw [q, a2] at a1
    exact (Option.some.inj a1).symm)⟩
  refine ⟨xp, dp, es', ep', t, D, n, ws, e, off h1 (fun q => by injection q with q; cases q), off h2 (fun q => ?_), h3, h4, off h5 (fun q => by injection q with q; injection q with q; exact absurd q (by decide)), h6⟩
  injection q with _ _ q
  injection q with q
  have q : es' = es := by have := congrArg Array.toList q; simpa using this
  rw [q, hn] at h3
  cases h3
theorem prods_off {g h : Heap} {L dx : Addr} {led fix : List (Addr × Obj)} {es : List DictEntry} {ep : Nat} (N : News g L h led) (hdx : (dx, dictOf es ep) ∈ led) (hn : getL "name" es = some none) (hs : ∀ q ∈ fix, q ∈ led) : ∀ {vs : List Value} {rs : List (Str × List Str)}, ProdsIn fix vs rs → ProdsIn (fix.filter fun q => q.1 ≠ dx) vs rs
  | _, _, .nil => .nil
  | _, _, .cons a b => .cons (prod_off N hdx hn hs a) (prods_off N hdx hn hs b)
theorem set_put {prog : Program} {w : World} {A : Around} {E : Value → Shared → Prop} {s : Shared} {g : Heap} {L : Addr} {m : Str → Option Value} {a : Addr} {p0 x : Value} {ps : List Value} {n : Nat} {t : Tok} {led : List (Addr × Obj)} {Q : Unit → Shared → Prop} (F : Fr g L s.heap m) (N : News g L s.heap led) (hm : (a, W.listOf (p0 :: ps).toArray n) ∈ led)
    (h : ∀ h', Fr g L h' m → News g L h' (led.map (put a (W.listOf (x :: ps).toArray n))) → Q () { s with heap := h' }) : wpAny (model prog w) A (setItem (.ref a) (.int 0 t) x) Q E s := by
  have z := N _ hm
  refine ki_setAt z.1 (by decide) (by decide) (by show (0 : Int) < ((p0 :: ps).toArray.size : Nat); rw [List.size_toArray, List.length_cons]; omega) (h _ (F.change (Heap.SameBut.update ..) z.2.1 z.2.2) (Mine.News.put N hm (fun b o hb e => (Heap.get?_update_other _ _ (fun q : a = b => hb q.symm)).trans e) ?_))
  have e : ((p0 :: ps).toArray.setIfInBounds (0 : Int).toNat x) = (x :: ps).toArray := by
    apply Array.toList_inj.mp; simp
  refine (get?_update_seq (c := "list") (xs := (p0 :: ps).toArray) (n := n) z.1 _).trans ?_
  rw [e]
  show some (seqObj "list" (x :: ps).toArray (if ((x :: ps).toArray.size == (p0 :: ps).toArray.size) = true then n else n + 1)) = _
  rw [if_pos (by simp)]
theorem ent_of {E : List Ent} {nm : Str} (h : nm ∈ E.map (·.1)) : ∃ (a : Addr) (ws : List Value) (n : Nat), (nm, a, ws, n) ∈ E ∧ valueAt (eKvs E) nm = some (.ref a) := by
  obtain ⟨v, h1, h2⟩ := mem_valueAt (kvs := eKvs E) (k := nm) (by rw [eKvs_keys]; exact h)
  obtain ⟨e, he, q⟩ := List.mem_map.mp h2
  obtain ⟨k, a, ws, n⟩ := e
  injection q with q1 q2
  subst q1 q2
  exact ⟨a, ws, n, he, h1⟩
theorem unreg_Gm : True := by
  k_with_none
  (k_with "m_S" => ((goal_lacks PySem.Heap.push); (fail_if_success (goal_lacks PySem.Shared.mk)); (with_reducible refine (?_ : wpAny _ _ _ _ _ (SH _ _))); (try ((fail_if_success (goal_lacks PySem.Shared.toks)); (with_reducible refine genT (S := SH) ?_); intro _))))
  (k_with "m_U" => (k_extra "m_S"; first | walk1 | (dsimp only; walk1)))
  (k_with "m_enter" => ((
    case ho => k_is
    case hcd => k_is
    case hb => first | exact BindsTo.of_eq rfl | exact binds_K (by assumption) rfl (by k_is) rfl rfl rfl
    case hl => exact locs rfl
    case hc => decide
    case h1 => exact rfl
    case h2 => exact rfl
    case h3 => exact rfl)))
  (k_with "m_enterC" => ((
    case ho => k_is
    case hcd => k_is
    case hb => first | exact BindsTo.of_eq rfl | exact binds_K (by assumption) rfl (by k_is) rfl rfl rfl
    case hl => exact rfl
    case hn => decide +kernel
    case h1 => exact rfl
    case h2 => exact rfl
    case h3 => exact rfl)))
  (k_with "eval ListComp" => (((fail_if_success (with_reducible rename NoHalt => nh')); refine halt ?_)))
  (k_with "eval DictComp" => (((fail_if_success (with_reducible rename NoHalt => nh')); refine halt ?_)))
  (k_with "eval Name" => (k_dflt ((with_reducible show wpAny _ _ (eval (Expr.Name _ _) (compEnvC _ _ _ _)) _ _ _); refine' comp_cell ?xq5 ?Nq5 ?cq5 ?mq5 ?dq5 ?_ ?kq5 ?bq5; (case xq5 => exact rfl); (case Nq5 => k_asm); (case cq5 => exact rfl); (case mq5 => k_mem); (case dq5 => k_asm); (case kq5 => exact rfl); (case bq5 => decide))))
  (k_with "eval Name" => (k_dflt ((with_reducible show wpAny _ _ (eval (Expr.Name _ _) (compEnvC _ _ _ _)) _ _ _); refine' comp_local ?xq6 ?Nq6 ?cq6 ?_ ?kq6 ?bq6; (case xq6 => exact rfl); (case Nq6 => k_asm); (case cq6 => exact rfl); (case kq6 => exact rfl); (case bq6 => decide))))
  (k_with "m_tail" => (first
    | exact fun _ h => h
    | ((with_reducible refine sub_tl ?_); k_extra "m_tail")
    | ((with_reducible refine sub_lf ?_); k_extra "m_tail")
    | ((with_reducible refine sub_rt ?_); k_extra "m_tail")))
  (k_with "m_in" => (first
    | exact List.Mem.head _
    | assumption
    | ((refine List.Mem.tail _ ?_); k_extra "m_in")
    | ((refine List.mem_append_left _ ?_); k_extra "m_in")
    | ((refine List.mem_append_right _ ?_); k_extra "m_in")))
  (k_with "m_sub1" => (first
    | exact sub_nil
    | ((with_reducible refine sub_cons ?_ ?_); k_extra "m_in"; k_extra "m_sub1")
    | ((with_reducible refine sub_app ?_ ?_); k_extra "m_sub1"; k_extra "m_sub1")
    | k_extra "m_tail"))
  (k_with "m_sub" => (((try dsimp only [List.cons_append, List.nil_append]); k_extra "m_sub1")))
  (k_with "m_k_ne" => ((refine neN ?_; (try dsimp only); first | assumption | exact Ne.symm (by assumption) | exact Nat.ne_of_lt (by assumption) | exact Nat.ne_of_gt (by assumption) | exact all_ne (by assumption) (by k_mem) | exact Ne.symm (all_ne (by assumption) (by k_mem)) | exact ne_lt2 (by assumption) (by assumption) | exact Ne.symm (ne_lt2 (by assumption) (by assumption)) | (refine' News_ne_cls ?nqNq11 ?nqaq11 ?nqbq11 ?nqcq11; (case nqNq11 => k_asm); (case nqaq11 => k_mem); (case nqbq11 => k_mem); (case nqcq11 => rfl)) | omega)))
  (k_with "exec While BoolOp cons nil" => (refine halt ?_))
  (k_with "exec While Constant cons nil" => (refine halt ?_))
  (k_with "exec While Compare cons nil" => (refine halt ?_))
  (k_with "compareOp NotIn ref ref" => (refine halt ?_))
  (k_with "compareOp In ref ref" => (refine halt ?_))
  (k_with "m_off" => (first | exact off_nil | ((refine off_cons ?_ ?_); k_all; k_extra "m_off")))
  (k_with "m_k_all" => (first | assumption | exact OwnOff.ne (by assumption) (by k_memK) | ((with_reducible refine List.forall_mem_append.mpr ⟨?_, ?_⟩); k_all; k_all) | ((with_reducible refine List.forall_mem_cons.mpr ⟨?_, ?_⟩); k_ne; k_all) | exact List.forall_mem_nil _ | fail "k_all"))
  (k_with "eval Name" => (k_dflt ((with_reducible show wpAny _ _ (eval (Expr.Name _ _) (compEnvC _ _ _ _)) _ _ _); refine' LCgL.ld_global ?qFq19 ?qXq19 ?qTq19 ?qeq19 ?_ ?qgq19 ?qkq19 ?qxq19 ?qdq19; (case qFq19 => k_asm); (case qXq19 => k_asm); (case qTq19 => k_asm); (case qeq19 => k_is); (case qgq19 => exact rfl); (case qkq19 => exact rfl); (case qxq19 => exact rfl); (case qdq19 => decide))))
  (k_with "m_clos" => ((
    case hclos => with_unfolding_all rfl
    case hcell => decide
    case hkind => rfl
    case hnames => decide
    case hx => rfl
    case hs => exact fun _ => rfl
    case hh => rfl)))
  (k_with "m_k_mem" => (k_dflt (first | assumption | (refine List.mem_append_left _ ?_; k_mem) | (refine List.mem_append_right _ ?_; k_mem))))
  (k_with "exec For Name Name cons nil" => (k_extra "m_for"))
  (k_with "exec For Name Name cons cons" => (k_extra "m_for"))
  (k_with "exec For Name Call cons nil" => (k_extra "m_for"))
  (k_with "exec For Name Attribute cons nil" => (k_extra "m_for"))
  (k_with "exec For Name Subscript cons nil" => (k_extra "m_for"))
  (k_with "exec For Tuple Name cons nil" => (k_extra "m_for"))
  (k_with "exec For Tuple Call cons nil" => (k_extra "m_for"))
  (k_with "m_slice" => (k_dflt ((with_reducible show wpAny _ _ (subscriptTail _ (PySem.Expr.Slice _ none none _) (Value.ref _) (Value.ref _)) _ _ _); first
    | (refine' r_sliceList1 ?k1q31 ?k2q31 ?k3q31 ?k4q31 ?_ ?k5q31 ?k6q31; (case k1q31 => k_asm); (case k2q31 => k_asm); (case k3q31 => k_extra "m_list"); (case k4q31 => k_extra "m_lt"); (case k5q31 => with_unfolding_all rfl); (case k6q31 => intro _; with_unfolding_all rfl); walk_at "i5")
    | (refine' r_sliceTup ?k1q31 ?k2q31 ?k3q31 ?k4q31 ?k5q31 ?k6q31 ?k7q31 ?_ ?k8q31 ?k9q31; (case k1q31 => k_asm); (case k2q31 => k_asm); (case k3q31 => k_extra "m_tup"); (case k4q31 => exact cast1 _); (case k5q31 => k_extra "m_lt"); (case k6q31 => k_extra "m_lt"); (case k7q31 => k_extra "m_lt"); (case k8q31 => with_unfolding_all rfl); (case k9q31 => intro _; with_unfolding_all rfl); walk_at "i5")
    | fail "m_slice")))
  (k_with "m_list" => (first | is_list | (refine' r_isList ?qiaq32 ?qibq32; (case qiaq32 => k_asm); (case qibq32 => k_mem))))
  (k_with "m_tup" => (first | is_tup | (refine' r_isTup ?qiaq33 ?qibq33; (case qiaq33 => k_asm); (case qibq33 => k_mem))))
  (k_with "call type:tuple" => (k_dflt ((with_reducible show wpAny _ _ (call (Value.type _) [Value.ref _]) _ _ _); (refine' r_tupleOf ?k1q34 ?k2q34 ?k3q34 ?k4q34 ?_; (case k1q34 => k_asm); (case k2q34 => k_asm); (case k3q34 => k_extra "m_list"); (case k4q34 => assumption); k_whole); walk_at "i5")))
  (k_with "m_len" => (first | assumption | omega | ((try simp only [List.length_append, List.length_cons, List.length_nil, List.length_map]); omega)))
  (k_with "call builtin:len" => (k_dflt ((with_reducible show wpAny _ _ (call (Value.builtin "len") [Value.ref _]) _ _ _); first
    | (refine' r_lenList ?k1q36 ?k2q36 ?_; (case k1q36 => k_extra "m_list"); (case k2q36 => k_extra "m_len"); k_whole)
    | (refine' r_lenTup ?k1q36 ?k2q36 ?_; (case k1q36 => k_extra "m_tup"); (case k2q36 => k_extra "m_len"); k_whole)
    | fail "len")))
  (k_with "truthy ref" => (k_dflt ((with_reducible show wpAny _ _ (truthy (Value.ref _)) _ _ _); first
    | (refine' r_truthyList ?k1q37 ?k2q37 ?_; (case k1q37 => k_extra "m_list"); (case k2q37 => k_extra "m_len"); k_whole)
    | (refine' r_truthyTup ?k1q37 ?k2q37 ?_; (case k1q37 => k_extra "m_tup"); (case k2q37 => k_extra "m_len"); k_whole)
    | (refine' r_truthyDict ?k1q37 ?k2q37 ?k3q37 ?k4q37 ?k5q37 ?_; (case k1q37 => k_asm); (case k2q37 => k_mem); (case k3q37 => k_asm); (case k4q37 => assumption); (case k5q37 => k_extra "m_len"); intro _)
    | fail "truthy")))
  (k_with "compareOp In str ref" => (k_dflt ((with_reducible show wpAny _ _ (compareOp CmpOp.In (Value.str _ _) (Value.ref _)) _ _ _); first
    | (refine' in_list_strs ?k1q38 ?k2q38 ?_; (case k1q38 => k_extra "m_list"); (case k2q38 => assumption); k_whole)
    | (refine' r_inTup ?k1q38 ?k2q38 ?_; (case k1q38 => k_extra "m_tup"); (case k2q38 => assumption); k_whole)
    | fail "in")))
  (k_with "compareOp NotIn str ref" => (k_dflt ((with_reducible show wpAny _ _ (compareOp CmpOp.NotIn (Value.str _ _) (Value.ref _)) _ _ _); first
    | (refine' notin_list_strs ?k1q39 ?k2q39 ?_; (case k1q39 => k_extra "m_list"); (case k2q39 => assumption); k_whole)
    | (refine' r_notinTup ?k1q39 ?k2q39 ?_; (case k1q39 => k_extra "m_tup"); (case k2q39 => assumption); k_whole)
    | fail "notin")))
  (k_with "m_k_units" => (first | omega | (simp only [Around.deeper, Around.in1, Around.mark] at *; omega)))
  (k_with "call builtin:all" => (k_dflt ((with_reducible show wpAny _ _ (call (Value.builtin "all") [Value.ref _]) _ _ _); (refine' all_strs ?khq41 ?kFq41 ?kNq41 ?kpq41 ?_; (case kFq41 => k_asm); (case kNq41 => k_asm); (case kpq41 => assumption); (case khq41 => rfl)); intro _ _ _ _; (try simp only []))))
  (k_with "m_lt" => (first | assumption | omega))
  (k_with "subscriptTail" => (k_dflt ((with_reducible show wpAny _ _ (subscriptTail _ _ (Value.ref _) (Value.int _ _)) _ _ _); (refine' r_itemList ?k1q43 ?k2q43 ?k3q43 ?k4q43 ?k5q43 ?_ ?k6q43; (case k1q43 => k_extra "m_list"); (case k2q43 => assumption); (case k3q43 => k_extra "m_lt"); (case k4q43 => k_extra "m_lt"); (case k5q43 => k_extra "m_lt"); (case k6q43 => exact rfl)); intro _ _ _)))
  (k_with "m_din" => (first | (with_reducible assumption) | assumption | exact (rfl : _ = true) | exact (rfl : _ = false) | exact rfl))
  (k_with "m_dat" => (first | assumption | exact rfl))
  (k_with "compareOp In str ref" => (k_dflt ((with_reducible show wpAny _ _ (compareOp CmpOp.In (Value.str _ _) (Value.ref _)) _ _ _); (refine' kda_in (knd := PySem.strKind _ _) ?k1q46 ?k2q46 ?k3q46 ?k4q46 (strKind_is _ _ _ _) _ ?k6q46 ?_; (case k1q46 => k_asm); (case k2q46 => k_mem); (case k3q46 => k_asm); (case k4q46 => first | (with_reducible assumption) | assumption); (case k6q46 => k_extra "m_din")))))
  (k_with "compareOp NotIn str ref" => (k_dflt ((with_reducible show wpAny _ _ (compareOp CmpOp.NotIn (Value.str _ _) (Value.ref _)) _ _ _); (refine' kdg_notin (knd := PySem.strKind _ _) ?k1q47 ?k2q47 ?k3q47 ?k4q47 (strKind_is _ _ _ _) _ ?k6q47 ?_; (case k1q47 => k_asm); (case k2q47 => k_mem); (case k3q47 => k_asm); (case k4q47 => first | (with_reducible assumption) | assumption); (case k6q47 => k_extra "m_din")))))
  (k_with "subscriptTail" => (((with_reducible show wpAny _ _ (subscriptTail _ _ (Value.ref _) (Value.str _ _)) _ _ _); k_dflt (refine' kdt_tail ?k1q48 ?k2q48 ?k3q48 ?_ ?k4q48; (case k1q48 => k_asm); (case k2q48 => k_mem); (case k3q48 => k_asm); (case k4q48 => exact rfl)))))
  (k_with "subscriptTail" => (k_dflt ((with_reducible show wpAny _ _ (subscriptTail _ _ (Value.ref _) (Value.str _ _)) _ _ _); (refine' kda_item (knd := PySem.strKind _ _) ?k1q49 ?k2q49 ?k3q49 (strKind_is _ _ _ _) ?k4q49 ?_; (case k1q49 => k_asm); (case k2q49 => k_mem); (case k3q49 => k_asm); (case k4q49 => k_extra "m_dat")))))
  (k_with "setItem ref str" => (k_dflt ((refine' kda_set (knd := PySem.strKind _ _) ?Fq50 ?Nq50 ?Uq50 ?dq50 (strKind_is _ _ _ _) ?zq50 ?_; (case Fq50 => k_asm); (case Nq50 => k_asm); (case Uq50 => k_updF); (case dq50 => k_asm); (case zq50 => first | assumption | (rw [sizeLine_eq]; exact Nat.le_of_ble_eq_true (by with_unfolding_all rfl)))); walk_at "i5d")))
  (k_with "getAttr ref" => (k_dflt (refine' get_own ?k1q51 ?k2q51 ?k3q51 ?k4q51 ?k5q51 ?k6q51 ?k7q51 ?k8q51 ?k9q51 ?_; (case k1q51 => k_asm); (case k2q51 => k_asm); (case k3q51 => k_inst); (case k8q51 => assumption); (case k4q51 => k_is); (case k5q51 => k_is); (case k6q51 => k_is); (case k7q51 => k_is); (case k9q51 => exact rfl))))
  (k_with "call builtin:str.join" => (k_dflt ((with_reducible show wpAny _ _ (call (Value.builtin "str.join") [Value.str _ _, Value.ref _]) _ _ _); (refine' r_joinTup ?k1q52 ?k2q52 ?k3q52 ?k4q52 ?k5q52 ?_; (case k1q52 => k_extra "m_tup"); (case k2q52 => assumption); (case k3q52 => assumption); (case k4q52 => assumption); (case k5q52 => decide)); intro _ _ _ _)))
  (k_with "getMethod ref" => (k_dflt (refine' method_inst ?k1q53 ?k2q53 ?k3q53 ?k4q53 ?k5q53 ?k6q53 ?k7q53 ?_; (case k1q53 => k_asm); (case k2q53 => k_asm); (case k3q53 => k_inst); (case k7q53 => assumption); (case k4q53 => k_is); (case k5q53 => k_is); (case k6q53 => k_is))))
  (k_with "getItem ref str" => (k_dflt ((with_reducible show wpAny _ _ (getItem (Value.ref _) (Value.str _ _)) _ _ _); (refine' kdt_getItem (knd := PySem.strKind _ _) ?k1q54 ?k2q54 ?k3q54 (strKind_is _ _ _ _) ?k4q54 ?_; (case k1q54 => k_asm); (case k2q54 => k_mem); (case k3q54 => k_asm); (case k4q54 => k_extra "m_dat")))))
  (k_with "subscriptTail Name Slice ref ref" => (k_extra "m_slice"))
  (k_with "subscriptTail Attribute Slice ref ref" => (k_extra "m_slice"))
  (k_with "subscriptTail" => (k_dflt ((with_reducible show wpAny _ _ (subscriptTail _ _ (Value.ref _) (Value.int _ _)) _ _ _); (refine' r_itemL ?k1q57 ?k3q57 ?k4q57 ?k2q57 ?_ ?k6q57; (case k1q57 => k_extra "m_list"); (case k2q57 => exact rfl); (case k3q57 => decide); (case k4q57 => decide); (case k6q57 => exact rfl)))))
  (k_with "call builtin:list.append" => (k_dflt ((with_reducible show wpAny _ _ (call (Value.builtin "list.append") [Value.ref _, _]) _ _ _); (refine' append_L3 ?k1q62 ?k2q62 ?k3q62 ?k4q62 ?k5q62 ?k6q62 ?_; (case k1q62 => k_asm); (case k2q62 => k_asm); (case k3q62 => assumption); (case k4q62 => assumption); (case k5q62 => assumption); (case k6q62 => assumption)); intro _ _ _)))
  trivial
theorem t_ginit {prog : Program} {w : World} {dp un : Nat} {fr : Option (List Env)} {gd : Option (List Code)} {s : Shared} {hb : Heap} {mg mb : Str → Option Value} {p : Program} {loose : List Str} {R : Result → Shared → Prop}
  (X : (hd.heap_1 w.params).In hb) (T : TopRead p loose mg mb hb) (hs : hb.StaysIn s.heap) (hroom : dp + 5 < recursionLimit) (hu : un + 100 < cLine)
  {x dx tl : Addr} {t1 t2 t3 : Tok} {n : Nat} (H : Has hb s.heap [(x, instObj 248 dx), (dx, dictOf [] 0), (tl, W.listOf #[.str "a" t1, .str "b" t2, .str "c" t3] n)]) (l1 : @LT.lt Nat _ dx x) (l2 : @LT.lt Nat _ tl dx)
  (post : ∀ h' tk led1 fd fo pl pn pm td nd pr ofd ofo up u0 u1 u2 u3 u4 u5 u6 u7 u8 u9, Kp ([(x, instObj 248 dx), (dx, dictOf [] 0), (tl, W.listOf #[.str "a" t1, .str "b" t2, .str "c" t3] n)].map (·.1)) s.heap h' →
    Left [(x, instObj 248 dx), (dx, dictOf [] 0), (tl, W.listOf #[.str "a" t1, .str "b" t2, .str "c" t3] n)] s.heap h' (led1 ++ [(fd, ofd), (fo, ofo)]) → Apart led1 [(fd, ofd), (fo, ofo)] → @Ne Nat fd fo →
    GS prog w x dx pl pn pm td nd pr (gEs w pl pn pm td nd fd fo pr up .none u0 u1 u2 u3 u4 u5 u6 u7 u8 u9) [] .none led1 → ofd.IsDictOf (strKind prog w) [] → ofo.IsDictOf (strKind prog w) [] → (fd == sysModules) = false → (fo == sysModules) = false →
    R (.ok (.ret .none)) { s with heap := h', toks := tk }) :
  codeAny (model prog w) ⟨none, dp, fr, gd, un⟩ (.call (.ref 137) ⟨[.ref x, .ref tl], []⟩) R s := by
  refine' enterH ([(x, instObj 248 dx), (dx, dictOf [] 0), (tl, W.listOf #[.str "a" t1, .str "b" t2, .str "c" t3] n)].map (·.1)) [("self", .ref x), ("terminals", .ref tl)] X T hs ?_ ?ho ?hcd (by show dp < _; omega) ?hb ?hl ?h ?hc ?h1 ?h2 ?h3
  walk_at "m_enter"
  · exact H.base
  intro g L h₁ tk F I
  refine letS ?_
  intro SH A1 en Q1
  have hA1 : A1.depth = dp + 1 := rfl
  have hA2 : A1.units = un + 3 := rfl
  have X := I.X
  have T := I.T
  have N := I.putAll H
  have xL : @LT.lt Nat _ x L := I.loc ▸ Heap.lt_size (H _ (.head _)).1
  (try ((with_reducible show wpAny _ _ _ _ _ _); k_fold)); k_steps
  rename Fr _ _ _ _ => F
  rename_i pl _ l1a _ _ _ pn _ opn mn hpn _ _ _ l1b _ _ _ pm _ opm mm hpm _ _ _ l1c _ _ _ td _ _ mt _ _ _ _ l1d _ _ _ _ _ l1e _ _ _ _ la _ l1f _ _ _ _ _ _ _ _ _ _ lb _ l1g _ _ _ _ _ _ _ _ _ _ lc _ l1h _ _ _ _ _ _ _ _ le _ l1i _ _ _ _ otd hotd _ nd _ ond md hond _ _ _ l1j _ _ _ fd _ ofd mf hofd _ _ _ l1k _ _ _ fo _ ofo mfo hofo _ _ _ l1l _ _ _ pr _ opr mp hopr _ _ _ l1m _ _ _ up _ led' _ _ l1n _ _ _ _ N _
  refine gen_get (N _ (.tail _ (.tail _ (.tail _ (.tail _ (.tail _ (.tail _ (.tail _ (.tail _ (.tail _ (.tail _ (.tail _ (.tail _ (.tail _ (.tail _ (.head _)))))))))))))))).1 fun ES hES => ?_
  rw [← hES] at N
  have N := News_sub N (news' := gLed pl pn pm nd .none [] 0 opn opm ond [] [(la, W.listOf #[] 0), (lb, W.listOf #[] 0), (lc, W.listOf #[] 0), (le, W.listOf #[] 0)] [(x, instObj 248 dx), (dx, dictOf ES 10), (td, otd), (pr, opr)] ++ [(fd, ofd), (fo, ofo)]) (by
    show ∀ p ∈ ((pl, W.listOf #[Value.none] 0) :: (pn, opn) :: (pm, opm) :: (nd, ond) :: (la, W.listOf #[] 0) :: (lb, W.listOf #[] 0) :: (lc, W.listOf #[] 0) :: (le, W.listOf #[] 0) :: (x, instObj 248 dx) :: (dx, dictOf ES 10) :: (td, otd) :: (pr, opr) :: (fd, ofd) :: (fo, ofo) :: []), _
    walk_at "m_sub")
  have hES2 : ES = gEs w pl pn pm td nd fd fo pr up .none _ _ _ _ _ _ _ _ _ _ := hES
  subst hES2
  refine post _ _ _ fd fo pl pn pm td nd pr ofd ofo up _ _ _ _ _ _ _ _ _ _ (I.kp F) (I.left N) ?_ ?_ ⟨[], 0, opn, opm, ond, [], [], [], _, _, _, rfl, ⟨hpn, hpm, hond, rfl, .nil, (fun _ h => nomatch h), (fun _ h => nomatch h), (fun _ h => nomatch h), ?_, (fun _ h => nomatch h), ?_, (fun _ h => nomatch h), List.nodup_nil, (fun _ h => nomatch h), (fun _ => rfl), (fun _ h => nomatch h), mn, mm, md⟩, ?_, ⟨.head _, ⟨_, .tail _ (.head _)⟩, ⟨otd, .tail _ (.tail _ (.head _)), hotd⟩, ⟨opr, .tail _ (.tail _ (.tail _ (.head _))), hopr⟩, mt, mp, rfl, (show @Ne Nat td dx by k_ne), (show @Ne Nat pr dx by k_ne)⟩⟩ hofd hofo mf mfo
  · intro p hp q hq
    simp only [gLed, eLed, List.map_nil, List.nil_append, List.cons_append, List.mem_cons, List.not_mem_nil, or_false] at hp hq
    rcases hq with rfl | rfl <;> rcases hp with rfl | rfl | rfl | rfl | rfl | rfl | rfl | rfl | rfl | rfl | rfl | rfl <;> k_ne
  · exact all_ne l1l (by k_mem)
  · intro t ht
    simp only [sK1, List.mem_cons, List.not_mem_nil, or_false] at ht
    rcases ht with rfl | rfl | rfl | rfl
    · exact ⟨la, rfl, by simp⟩
    · exact ⟨lb, rfl, by simp⟩
    · exact ⟨lc, rfl, by simp⟩
    · exact ⟨le, rfl, by simp⟩
  · intro p hp
    simp only [List.mem_cons, List.not_mem_nil, or_false] at hp
    rcases hp with rfl | rfl | rfl | rfl <;> exact ⟨[], 0, rfl, Nat.zero_le _⟩
  · refine ⟨by k_ne, by k_ne, by k_ne, by k_ne, by k_ne, by k_ne, (fun _ h => nomatch h), fun q hq => ?_, fun q hq => ?_, List.nodup_nil, (fun _ h => nomatch h), (fun _ h => nomatch h), fun q hq p hp => ?_⟩
    · simp only [List.mem_cons, List.not_mem_nil, or_false] at hq
      rcases hq with rfl | rfl | rfl | rfl <;> (refine ⟨?_, ?_, ?_, ?_⟩ <;> k_ne)
    · simp only [List.mem_cons, List.not_mem_nil, or_false] at hq
      rcases hq with rfl | rfl | rfl | rfl <;> (refine ⟨?_, ?_, ?_, ?_⟩ <;> k_ne)
    · simp only [List.mem_cons, List.not_mem_nil, or_false] at hq hp
      rcases hq with rfl | rfl | rfl | rfl <;> rcases hp with rfl | rfl | rfl | rfl <;> k_ne
section SD
theorem reg_G2 : True := by
  (k_with "m_for" => (k_dflt ((refine' For_GF ?kFq30 ?k1q30 ?k2q30 ?_; (case kFq30 => assumption); (case k1q30 => exact PassesOwn.never); (case k2q30 => exact fun _ => rfl)))))
  trivial
structure GR (prog : Program) (w : World) (x dx pl pn td nd : Addr) (es : List DictEntry) (rules : List (Str × List Str)) (rest : List (Addr × Obj)) : Prop where
  hx : (x, instObj 248 dx) ∈ rest
  hdx : ∃ ep, (dx, dictOf es ep) ∈ rest
  htd : ∃ otd kT, (td, otd) ∈ rest ∧ otd.IsDictOf (strKind prog w) kT ∧ kT.map (·.1) = sK1
  hnd : ∃ ond kN, (nd, ond) ∈ rest ∧ ond.IsDictOf (strKind prog w) kN ∧ (kN.map (·.1) = sNAMES ∨ kN.map (·.1) = sNAM2)
  hpn : ∃ opn kP, (pn, opn) ∈ rest ∧ opn.IsDictOf (strKind prog w) kP ∧ ∀ z ∈ sNAMES, ∃ a ws n, valueAt kP z = some (.ref a) ∧ (a, W.listOf (ws : List Value).toArray n) ∈ rest ∧ ProdsIn rest ws (rules.filter fun r => r.1 = z)
  hpl : ∃ p0 ps pk, (pl, W.listOf (p0 :: ps).toArray pk) ∈ rest ∧ ProdsIn rest ps rules
  m1 : (td == sysModules) = false
  m2 : (nd == sysModules) = false
  m3 : (pn == sysModules) = false
theorem keys3 {l : List Str} (hn : l.Nodup) (hs : ∀ z ∈ l, z ∈ sNAMES) (ha : ∀ z ∈ sNAMES, z ∈ l) (hh : l.head? = some ("S" : Str)) : l = sNAMES ∨ l = sNAM2 := by
  match l, hh with
  | [], h => cases h
  | a :: l, h =>
    have : a = "S" := by injection h
    subst this
    have hn := List.nodup_cons.mp hn
    have hl : ∀ z ∈ l, z = "A" ∨ z = "B" := fun z hz => by
      have := hs z (.tail _ hz)
      simp only [sNAMES, List.mem_cons, List.not_mem_nil, or_false] at this
      rcases this with rfl | h | h
      · exact absurd hz hn.1
      · exact .inl h
      · exact .inr h
    have hA : ("A" : Str) ∈ l := by
      rcases List.mem_cons.mp (ha "A" (by decide)) with h | h
      · exact absurd h (by decide)
      · exact h
    have hB : ("B" : Str) ∈ l := by
      rcases List.mem_cons.mp (ha "B" (by decide)) with h | h
      · exact absurd h (by decide)
      · exact h
    have e1 : l.length ≤ 2 := nodup_len (m := ["A", "B"]) hn.2 fun z hz => by rcases hl z hz with rfl | rfl <;> simp
    match l, hl, hA, hB, e1, hn.2 with
    | [], _, h, _, _, _ => cases h
    | [a], _, hA, hB, _, _ =>
      rw [List.mem_singleton] at hA hB
      rw [← hA] at hB
      exact absurd hB (by decide)
    | [a, b], hl, hA, hB, _, hn2 =>
      rcases hl a (.head _) with rfl | rfl
      · rcases hl b (.tail _ (.head _)) with rfl | rfl
        · exact absurd (.head _) (List.nodup_cons.mp hn2).1
        · exact .inl rfl
      · rcases hl b (.tail _ (.head _)) with rfl | rfl
        · exact .inr rfl
        · exact absurd (.head _) (List.nodup_cons.mp hn2).1
    | a :: b :: c :: l, _, _, _, h, _ => exact absurd h (by simp)
theorem mem_put {a : Addr} {o : Obj} {l : List (Addr × Obj)} {q : Addr × Obj} (h : q ∈ l) (hne : q.1 ≠ a) : q ∈ l.map (put a o) :=
  List.mem_map.mpr ⟨q, h, if_neg hne⟩
theorem mem_put_at {a : Addr} {o o' : Obj} {l : List (Addr × Obj)} (h : (a, o') ∈ l) : (a, o) ∈ l.map (put a o) :=
  List.mem_map.mpr ⟨_, h, if_pos rfl⟩
theorem ne_put {a b : Addr} {o : Obj} {l : List (Addr × Obj)} (h : ∀ q ∈ l, q.1 ≠ b) : ∀ q ∈ l.map (put a o), q.1 ≠ b := fun q hq => by
  have : q.1 ∈ l.map (·.1) := by rw [← put_fst (a := a) (o := o)]; exact List.mem_map_of_mem hq
  obtain ⟨q', hq', e⟩ := List.mem_map.mp this
  rw [← e]; exact h q' hq'
theorem genTl {g h : Heap} {L : Addr} {q : Addr × Obj} {l : List (Addr × Obj)} {G : Prop} (N : News g L h (q :: l)) (k : ∀ l', l' = l → News g L h (q :: l') → G) : G := k l rfl N
section Start
theorem reg_MStart : True := by
  (k_with "call builtin:list.append" => (refine halt ?_))
  trivial
theorem t_start {prog : Program} {w : World} {dp_ un : Nat} {fr : Option (List Env)} {gd : Option (List Code)} {s : Shared} {hb : Heap} {mg mb : Str → Option Value} {p : Program} {loose : List Str} {R : Result → Shared → Prop}
  (X : (hd.heap_1 w.params).In hb) (T : TopRead p loose mg mb hb) (hs : hb.StaysIn s.heap) (hroom : dp_ + 10 < recursionLimit) (hu : un + 200 < cLine)
  {x dx pl pn pm td nd fd fo pr up : Addr} {t0 t1 t2 t3 t4 t5 t6 t7 t8 t9 tS : Tok} {rules : List (Str × List Str)} {led : List (Addr × Obj)}
  (hG : GS prog w x dx pl pn pm td nd pr (gEs w pl pn pm td nd fd fo pr up .none t0 t1 t2 t3 t4 t5 t6 t7 t8 t9) rules .none led) (H : Has hb s.heap led) (hR : GoodRules rules)
  (post : ∀ h' tk led', Kp (led.map (·.1)) s.heap h' → Left led s.heap h' led' → GR prog w x dx pl pn td nd (gEs w pl pn pm td nd fd fo pr up (.str "S" tS) t0 t1 t2 t3 t4 t5 t6 t7 t8 t9) rules led' → R (.ok (.ret .none)) { s with heap := h', toks := tk }) :
  codeAny (model prog w) ⟨none, dp_, fr, gd, un⟩ (.call (.ref 174) ⟨[.ref x, .str "S" tS], []⟩) R s := by
  obtain ⟨ps, k, opn, opm, ond, E, kM, kN, kT, pool, fix, rfl, M, AP, GF⟩ := hG
  have Xs : (hd.heap_1 w.params).In s.heap := X.keeps hs
  refine' enterH ((gLed pl pn pm nd .none ps k opn opm ond E pool fix).map (·.1)) [("self", .ref x), ("start", .str "S" tS)] X T hs ?_ ?ho ?hcd (by show dp_ < _; omega) ?hb ?hl ?h ?hc ?h1 ?h2 ?h3
  walk_at "m_enter"
  · exact H.base
  intro g L h₁ tk F I
  refine letS ?_
  intro SH A1 en Q1
  have hA1 : A1.depth = dp_ + 1 := rfl
  have hA2 : A1.units = un + 3 := rfl
  have X := I.X
  have T := I.T
  have N := I.putAll H
  obtain ⟨hx, ⟨ep, hdx⟩, ⟨otd, htd, hotd⟩, _, hmt, _, hkT, ntd, _⟩ := GF
  have hsub : ∀ q ∈ fix, q ∈ gLed pl pn pm nd .none ps k opn opm ond E pool fix := fun q hq => .tail _ (.tail _ (.tail _ (.tail _ (List.mem_append_right _ (List.mem_append_right _ hq)))))
  have hdxl := hsub _ hdx
  have hps := prods_off N hdxl rfl hsub M.prods
  have hpe : ∀ e ∈ E, ProdsIn (fix.filter fun q => q.1 ≠ dx) e.2.2.1 (rules.filter fun r => r.1 = e.1) := fun e he => prods_off N hdxl rfl hsub (M.prodn e he)
  have nx : @Ne Nat x dx := fun q => by
    have a1 := (N _ (hsub _ hx)).1
    have a2 := (N _ hdxl).1
    dsimp only at a1 a2
    rw [show x = dx from q, a2] at a1
    injection a1 with a1
    injection a1 with a1
    cases a1
  have hxf : (x, instObj 248 dx) ∈ fix.filter fun q => q.1 ≠ dx := List.mem_filter.mpr ⟨hx, decide_eq_true nx⟩
  have htf : (td, otd) ∈ fix.filter fun q => q.1 ≠ dx := List.mem_filter.mpr ⟨htd, decide_eq_true ntd⟩
  have hfd : ∀ q ∈ fix.filter fun q => q.1 ≠ dx, q.1 ≠ dx := fun q hq => of_decide_eq_true (List.mem_filter.mp hq).2
  have hff : ∀ q ∈ fix.filter fun q => q.1 ≠ dx, q ∈ fix := fun q hq => (List.mem_filter.mp hq).1
  obtain ⟨fx, hfx⟩ : ∃ f, f = fix.filter fun q => q.1 ≠ dx := ⟨_, rfl⟩
  rw [← hfx] at hps hpe hxf htf hfd hff
  have f1 := AP.f _ hdx
  have ed : ∀ q ∈ eLed E, q.1 ≠ dx := fun q hq => (AP.ef q hq _ hdx).symm
  have pd : ∀ q ∈ pool, q.1 ≠ dx := fun q hq => (AP.pf q hq _ hdx).symm
  replace N : News g L h₁ ((dx, dictOf (gEs w pl pn pm td nd fd fo pr up .none t0 t1 t2 t3 t4 t5 t6 t7 t8 t9) ep) :: gLed pl pn pm nd .none ps k opn opm ond E pool fx) := News_sub N (by
    intro q hq
    rcases List.mem_cons.mp hq with rfl | hq
    · exact hdxl
    · simp only [gLed, List.mem_cons, List.mem_append] at hq ⊢
      rcases hq with h | h | h | h | h | h | h
      · simp [h]
      · simp [h]
      · simp [h]
      · simp [h]
      · simp [h]
      · simp [h]
      · simp [hff q h])
  have hSN : ("S" : Str) ∈ kN.map (·.1) := by
    cases rules with
    | nil => exact absurd hR.names (by decide)
    | cons r rr =>
      have h1 := hR.names
      have : r.1 = "S" := by
        rw [List.map_cons] at h1
        have := congrArg List.head? h1
        simpa [sNAMES] using this
      exact this ▸ M.rulesN r (.head _)
  have hNo := M.hN
  have hmd := M.md
  have hinS : (valueAt kN "S").isSome = true := by
    obtain ⟨v, e, _⟩ := mem_valueAt hSN
    rw [e]; rfl
  obtain ⟨aS, vS, nS, hvS, hmS, hlS⟩ : ∃ (a : Addr) (vs : List Value) (n : Nat), valueAt kN "S" = some (.ref a) ∧ (a, W.listOf vs.toArray n) ∈ pool ∧ vs.length ≤ 4 * rules.length + 1 := by
    obtain ⟨v, e, hm⟩ := mem_valueAt hSN
    obtain ⟨a, e2, ha⟩ := M.poolN _ hm
    obtain ⟨vs, n, h3, h4⟩ := M.lists.get ha
    replace e2 : v = .ref a := e2
    exact ⟨a, vs, n, by rw [e, e2], h3, h4⟩
  unfold gLed gEs at N
  (try ((with_reducible show wpAny _ _ _ _ _ _); k_fold)); k_steps
  rename Fr _ _ _ _ => F
  rename News _ _ _ _ => N
  refine News.hdName N fun sl hsl => ?_
  subst hsl
  refine wpAny_call ?_
  refine make_A (fI := 62) F N (X.keeps F.keep) (by k_is) (by k_is) (by k_is) fun xp dp h' F N lx ld => ?_
  refine' t_pinit (dp := dp_ + 2) (un := un + 4) (prec := .ref 54) (t2 := 249) (t3 := 250) (ss := ["S"]) X T ?qs ?qr ?qu (N _ (.head _)).1 (N _ (.tail _ (.head _))).1 (N _ (.tail _ (.tail _ (.head _)))).1 (.cons _ _ .nil) ?q1 ?q2 ?q3 (N _ (.head _)).2.2 (N _ (.tail _ (.head _))).2.2 (N _ (.tail _ (.tail _ (.head _)))).2.2 ld (lx _ (.head _)) (.inr ⟨rfl, rfl, rfl, rfl⟩) ?_
  case qs => exact F.keep
  case qr => omega
  case qu => omega
  case q1 => exact fun y hy => by rw [List.mem_singleton.mp hy]; decide
  case q2 => decide
  case q3 => decide
  intro h' tk' es' ep' D tD kk hdp hnm hprod hD1 hDn
  refine ⟨rfl, ?_⟩
  obtain ⟨F, N, neD⟩ := after_init F N lx ld kk hdp hD1 hDn
  obtain ⟨r0, hr0⟩ : ∃ r, r = (xp, instObj 100 dp) :: gLed pl pn pm nd .none ps k opn opm ond E pool fx := ⟨_, rfl⟩
  have z1 : ∀ q ∈ gLed pl pn pm nd .none ps k opn opm ond E pool fx, q.1 ≠ dx := by
    intro q hq
    simp only [gLed, List.mem_cons, List.mem_append] at hq
    rcases hq with rfl | rfl | rfl | rfl | h | h | h
    · exact f1.1.symm
    · exact f1.2.1.symm
    · exact f1.2.2.1.symm
    · exact f1.2.2.2.symm
    · exact ed q h
    · exact pd q h
    · exact hfd q h
  have z0 : ∀ q ∈ r0, q.1 ≠ dx := fun q hq => by
    rw [hr0] at hq
    rcases List.mem_cons.mp hq with rfl | hq
    · exact Nat.ne_of_gt (Nat.lt_trans (lx _ (.tail _ (.head _))) ld)
    · exact z1 q hq
  have hdxpl : dx ≠ pl := f1.1
  replace N : News g L h' ((dx, dictOf (gEs w pl pn pm td nd fd fo pr up .none t0 t1 t2 t3 t4 t5 t6 t7 t8 t9) ep) :: r0) := News_sub N (by
    intro q hq
    rw [hr0] at hq
    rcases List.mem_cons.mp hq with rfl | hq
    · exact .tail _ (.tail _ (.tail _ (.tail _ (.head _))))
    · rcases List.mem_cons.mp hq with rfl | hq
      · exact .tail _ (.head _)
      · exact .tail _ (.tail _ (.tail _ (.tail _ (.tail _ hq)))))
  have hx0 : (x, instObj 248 dx) ∈ r0 := hr0 ▸ .tail _ (.tail _ (.tail _ (.tail _ (.tail _ (List.mem_append_right _ (List.mem_append_right _ hxf))))))
  have hpl0 : (pl, W.listOf (Value.none :: ps).toArray k) ∈ r0 := hr0 ▸ .tail _ (.head _)
  have hnd0 : (nd, ond) ∈ r0 := hr0 ▸ .tail _ (.tail _ (.tail _ (.tail _ (.head _))))
  have hpn0 : (pn, opn) ∈ r0 := hr0 ▸ .tail _ (.tail _ (.head _))
  have he0 : ∀ q ∈ eLed E, q ∈ r0 := fun q hq => hr0 ▸ .tail _ (.tail _ (.tail _ (.tail _ (.tail _ (List.mem_append_left _ hq)))))
  have hp0 : ∀ q ∈ pool, q ∈ r0 := fun q hq => hr0 ▸ .tail _ (.tail _ (.tail _ (.tail _ (.tail _ (List.mem_append_right _ (List.mem_append_left _ hq))))))
  have hf0 : ∀ q ∈ fx, q ∈ r0 := fun q hq => hr0 ▸ .tail _ (.tail _ (.tail _ (.tail _ (.tail _ (List.mem_append_right _ (List.mem_append_right _ hq))))))
  unfold gEs at N
  (try ((with_reducible show wpAny _ _ _ _ _ _); k_fold)); k_steps
  rename Fr _ _ _ _ => F
  refine set_put F N (.tail _ hpl0) fun h' F N => ?_
  rw [List.map_cons, put_ne hdxpl] at N
  have fpl : ∀ q ∈ fx, q.1 ≠ pl := fun q hq => (AP.f q (hff q hq)).1
  have npl : nd ≠ pl := Ne.symm AP.n3
  have ppl : pn ≠ pl := Ne.symm AP.n1
  have epl : ∀ q ∈ eLed E, q.1 ≠ pl := fun q hq => (AP.e q hq).1
  have spl : aS ≠ pl := (AP.p _ hmS).1
  obtain ⟨r1, hr1⟩ : ∃ r, r = r0.map (put pl (W.listOf (Value.ref xp :: ps).toArray k)) := ⟨_, rfl⟩
  rw [← hr1] at N
  have z2 : ∀ q ∈ r1, q.1 ≠ dx := hr1 ▸ ne_put z0
  have hx1 : (x, instObj 248 dx) ∈ r1 := hr1 ▸ mem_put hx0 (fpl _ hxf)
  have hpl1 : (pl, W.listOf (Value.ref xp :: ps).toArray k) ∈ r1 := hr1 ▸ mem_put_at hpl0
  have hnd1 : (nd, ond) ∈ r1 := hr1 ▸ mem_put hnd0 npl
  have hpn1 : (pn, opn) ∈ r1 := hr1 ▸ mem_put hpn0 ppl
  have he1 : ∀ q ∈ eLed E, q ∈ r1 := fun q hq => hr1 ▸ mem_put (he0 q hq) (epl q hq)
  have hf1 : ∀ q ∈ fx, q ∈ r1 := fun q hq => hr1 ▸ mem_put (hf0 q hq) (fpl q hq)
  have hs1 : (aS, W.listOf vS.toArray nS) ∈ r1 := hr1 ▸ mem_put (hp0 _ hmS) spl
  (try ((with_reducible show wpAny _ _ _ _ _ _); k_fold)); k_steps
  rename Fr _ _ _ _ => F
  refine unhalt ?_
  refine append_put F N (.tail _ hs1) (by have := hR.len; omega) fun h' F N => ?_
  have hdxs : dx ≠ aS := (pd _ hmS).symm
  rw [List.map_cons, put_ne hdxs] at N
  have fs2 : ∀ q ∈ fx, q.1 ≠ aS := fun q hq => AP.pf _ hmS q (hff q hq)
  have ns2 : nd ≠ aS := Ne.symm (AP.p _ hmS).2.2.2
  have ps2 : pn ≠ aS := Ne.symm (AP.p _ hmS).2.1
  have ls2 : pl ≠ aS := Ne.symm (AP.p _ hmS).1
  have es2 : ∀ q ∈ eLed E, q.1 ≠ aS := fun q hq => (AP.ep q hq _ hmS).symm
  refine genTl N fun r2 hr2 N => ?_
  have z3 : ∀ q ∈ r2, q.1 ≠ dx := hr2 ▸ ne_put z2
  have hx2 : (x, instObj 248 dx) ∈ r2 := hr2 ▸ mem_put hx1 (fs2 _ hxf)
  have hpl2 : (pl, W.listOf (Value.ref xp :: ps).toArray k) ∈ r2 := hr2 ▸ mem_put hpl1 ls2
  have hnd2 : (nd, ond) ∈ r2 := hr2 ▸ mem_put hnd1 ns2
  have hpn2 : (pn, opn) ∈ r2 := hr2 ▸ mem_put hpn1 ps2
  have he2 : ∀ q ∈ eLed E, q ∈ r2 := fun q hq => hr2 ▸ mem_put (he1 q hq) (es2 q hq)
  have hf2 : ∀ q ∈ fx, q ∈ r2 := fun q hq => hr2 ▸ mem_put (hf1 q hq) (fs2 q hq)
  (try ((with_reducible show wpAny _ _ _ _ _ _); k_fold)); k_steps
  rename Fr _ _ _ _ => F
  k_dflt (refine' set_dict (es' := gEs w pl pn pm td nd fd fo pr up (.str "S" tS) t0 t1 t2 t3 t4 t5 t6 t7 t8 t9) (n' := ep) ?s1 ?s2 ?s3 ?s4 ?s5 ?s6 ?s7 ?s8 ?s9 ?s10 ?s11 (Upd.head z3) ?s13 ?_)
  case s1 => exact F
  case s2 => exact X
  case s3 => exact N
  case s4 => k_inst
  case s5 => exact rfl
  case s6 => k_is
  case s7 => k_is
  case s8 => k_is
  case s9 => k_is
  case s10 => k_get
  case s11 => with_unfolding_all rfl
  case s13 => exact Nat.le_of_ble_eq_true rfl
  intro h' F N
  (try ((with_reducible show wpAny _ _ _ _ _ _); k_fold)); k_steps
  refine post _ _ _ (I.kp F) (I.left N) ⟨.tail _ hx2, ⟨_, .head _⟩, ⟨otd, kT, .tail _ (hf2 _ htf), hotd, hkT⟩, ⟨ond, kN, .tail _ hnd2, M.hN, ?_⟩, ⟨opn, eKvs E, .tail _ hpn2, M.hE, fun z hz => ?_⟩, ⟨_, ps, k, .tail _ hpl2, hps.mono fun q hq => .tail _ (hf2 q hq)⟩, hmt, M.md, M.mn⟩
  · refine keys3 M.nodN M.keysN (fun z hz => ?_) ?_
    · have h1 : z ∈ (rules.map (·.1)).take 3 := hR.names ▸ hz
      obtain ⟨r, hr, rfl⟩ := List.mem_map.mp (List.mem_of_mem_take h1)
      exact M.rulesN r hr
    · have h1 := hR.names
      cases hrl : rules with
      | nil => rw [hrl] at h1; exact absurd h1 (by decide)
      | cons r rr =>
        have h2 := M.headN r (by rw [hrl]; rfl)
        rw [hrl, List.map_cons] at h1
        have := congrArg List.head? h1
        have h3 : r.1 = "S" := by simpa [sNAMES] using this
        rw [← h3]; exact h2
  · have h1 : z ∈ (rules.map (·.1)).take 3 := hR.names ▸ hz
    obtain ⟨r, hr, rfl⟩ := List.mem_map.mp (List.mem_of_mem_take h1)
    obtain ⟨a, ws, n, hm, hv⟩ := ent_of (M.prodk r hr)
    exact ⟨a, ws, n, hv, .tail _ (he2 _ (List.mem_map_of_mem (f := fun e : Ent => (e.2.1, W.listOf e.2.2.1.toArray e.2.2.2)) hm)), (hpe _ hm).mono fun q hq => .tail _ (hf2 q hq)⟩
end Start
theorem unreg_MStart : True := by
  k_with_none
  (k_with "m_S" => ((goal_lacks PySem.Heap.push); (fail_if_success (goal_lacks PySem.Shared.mk)); (with_reducible refine (?_ : wpAny _ _ _ _ _ (SH _ _))); (try ((fail_if_success (goal_lacks PySem.Shared.toks)); (with_reducible refine genT (S := SH) ?_); intro _))))
  (k_with "m_U" => (k_extra "m_S"; first | walk1 | (dsimp only; walk1)))
  (k_with "m_enter" => ((
    case ho => k_is
    case hcd => k_is
    case hb => first | exact BindsTo.of_eq rfl | exact binds_K (by assumption) rfl (by k_is) rfl rfl rfl
    case hl => exact locs rfl
    case hc => decide
    case h1 => exact rfl
    case h2 => exact rfl
    case h3 => exact rfl)))
  (k_with "m_enterC" => ((
    case ho => k_is
    case hcd => k_is
    case hb => first | exact BindsTo.of_eq rfl | exact binds_K (by assumption) rfl (by k_is) rfl rfl rfl
    case hl => exact rfl
    case hn => decide +kernel
    case h1 => exact rfl
    case h2 => exact rfl
    case h3 => exact rfl)))
  (k_with "eval ListComp" => (((fail_if_success (with_reducible rename NoHalt => nh')); refine halt ?_)))
  (k_with "eval DictComp" => (((fail_if_success (with_reducible rename NoHalt => nh')); refine halt ?_)))
  (k_with "eval Name" => (k_dflt ((with_reducible show wpAny _ _ (eval (Expr.Name _ _) (compEnvC _ _ _ _)) _ _ _); refine' comp_cell ?xq5 ?Nq5 ?cq5 ?mq5 ?dq5 ?_ ?kq5 ?bq5; (case xq5 => exact rfl); (case Nq5 => k_asm); (case cq5 => exact rfl); (case mq5 => k_mem); (case dq5 => k_asm); (case kq5 => exact rfl); (case bq5 => decide))))
  (k_with "eval Name" => (k_dflt ((with_reducible show wpAny _ _ (eval (Expr.Name _ _) (compEnvC _ _ _ _)) _ _ _); refine' comp_local ?xq6 ?Nq6 ?cq6 ?_ ?kq6 ?bq6; (case xq6 => exact rfl); (case Nq6 => k_asm); (case cq6 => exact rfl); (case kq6 => exact rfl); (case bq6 => decide))))
  (k_with "m_tail" => (first
    | exact fun _ h => h
    | ((with_reducible refine sub_tl ?_); k_extra "m_tail")
    | ((with_reducible refine sub_lf ?_); k_extra "m_tail")
    | ((with_reducible refine sub_rt ?_); k_extra "m_tail")))
  (k_with "m_in" => (first
    | exact List.Mem.head _
    | assumption
    | ((refine List.Mem.tail _ ?_); k_extra "m_in")
    | ((refine List.mem_append_left _ ?_); k_extra "m_in")
    | ((refine List.mem_append_right _ ?_); k_extra "m_in")))
  (k_with "m_sub1" => (first
    | exact sub_nil
    | ((with_reducible refine sub_cons ?_ ?_); k_extra "m_in"; k_extra "m_sub1")
    | ((with_reducible refine sub_app ?_ ?_); k_extra "m_sub1"; k_extra "m_sub1")
    | k_extra "m_tail"))
  (k_with "m_sub" => (((try dsimp only [List.cons_append, List.nil_append]); k_extra "m_sub1")))
  (k_with "m_k_ne" => ((refine neN ?_; (try dsimp only); first | assumption | exact Ne.symm (by assumption) | exact Nat.ne_of_lt (by assumption) | exact Nat.ne_of_gt (by assumption) | exact all_ne (by assumption) (by k_mem) | exact Ne.symm (all_ne (by assumption) (by k_mem)) | exact ne_lt2 (by assumption) (by assumption) | exact Ne.symm (ne_lt2 (by assumption) (by assumption)) | (refine' News_ne_cls ?nqNq11 ?nqaq11 ?nqbq11 ?nqcq11; (case nqNq11 => k_asm); (case nqaq11 => k_mem); (case nqbq11 => k_mem); (case nqcq11 => rfl)) | omega)))
  (k_with "exec While BoolOp cons nil" => (refine halt ?_))
  (k_with "exec While Constant cons nil" => (refine halt ?_))
  (k_with "exec While Compare cons nil" => (refine halt ?_))
  (k_with "compareOp NotIn ref ref" => (refine halt ?_))
  (k_with "compareOp In ref ref" => (refine halt ?_))
  (k_with "m_off" => (first | exact off_nil | ((refine off_cons ?_ ?_); k_all; k_extra "m_off")))
  (k_with "m_k_all" => (first | assumption | exact OwnOff.ne (by assumption) (by k_memK) | ((with_reducible refine List.forall_mem_append.mpr ⟨?_, ?_⟩); k_all; k_all) | ((with_reducible refine List.forall_mem_cons.mpr ⟨?_, ?_⟩); k_ne; k_all) | exact List.forall_mem_nil _ | fail "k_all"))
  (k_with "eval Name" => (k_dflt ((with_reducible show wpAny _ _ (eval (Expr.Name _ _) (compEnvC _ _ _ _)) _ _ _); refine' LCgL.ld_global ?qFq19 ?qXq19 ?qTq19 ?qeq19 ?_ ?qgq19 ?qkq19 ?qxq19 ?qdq19; (case qFq19 => k_asm); (case qXq19 => k_asm); (case qTq19 => k_asm); (case qeq19 => k_is); (case qgq19 => exact rfl); (case qkq19 => exact rfl); (case qxq19 => exact rfl); (case qdq19 => decide))))
  (k_with "m_clos" => ((
    case hclos => with_unfolding_all rfl
    case hcell => decide
    case hkind => rfl
    case hnames => decide
    case hx => rfl
    case hs => exact fun _ => rfl
    case hh => rfl)))
  (k_with "m_k_mem" => (k_dflt (first | assumption | (refine List.mem_append_left _ ?_; k_mem) | (refine List.mem_append_right _ ?_; k_mem))))
  (k_with "exec For Name Name cons nil" => (k_extra "m_for"))
  (k_with "exec For Name Name cons cons" => (k_extra "m_for"))
  (k_with "exec For Name Call cons nil" => (k_extra "m_for"))
  (k_with "exec For Name Attribute cons nil" => (k_extra "m_for"))
  (k_with "exec For Name Subscript cons nil" => (k_extra "m_for"))
  (k_with "exec For Tuple Name cons nil" => (k_extra "m_for"))
  (k_with "exec For Tuple Call cons nil" => (k_extra "m_for"))
  (k_with "m_slice" => (k_dflt ((with_reducible show wpAny _ _ (subscriptTail _ (PySem.Expr.Slice _ none none _) (Value.ref _) (Value.ref _)) _ _ _); first
    | (refine' r_sliceList1 ?k1q31 ?k2q31 ?k3q31 ?k4q31 ?_ ?k5q31 ?k6q31; (case k1q31 => k_asm); (case k2q31 => k_asm); (case k3q31 => k_extra "m_list"); (case k4q31 => k_extra "m_lt"); (case k5q31 => with_unfolding_all rfl); (case k6q31 => intro _; with_unfolding_all rfl); walk_at "i5")
    | (refine' r_sliceTup ?k1q31 ?k2q31 ?k3q31 ?k4q31 ?k5q31 ?k6q31 ?k7q31 ?_ ?k8q31 ?k9q31; (case k1q31 => k_asm); (case k2q31 => k_asm); (case k3q31 => k_extra "m_tup"); (case k4q31 => exact cast1 _); (case k5q31 => k_extra "m_lt"); (case k6q31 => k_extra "m_lt"); (case k7q31 => k_extra "m_lt"); (case k8q31 => with_unfolding_all rfl); (case k9q31 => intro _; with_unfolding_all rfl); walk_at "i5")
    | fail "m_slice")))
  (k_with "m_list" => (first | is_list | (refine' r_isList ?qiaq32 ?qibq32; (case qiaq32 => k_asm); (case qibq32 => k_mem))))
  (k_with "m_tup" => (first | is_tup | (refine' r_isTup ?qiaq33 ?qibq33; (case qiaq33 => k_asm); (case qibq33 => k_mem))))
  (k_with "call type:tuple" => (k_dflt ((with_reducible show wpAny _ _ (call (Value.type _) [Value.ref _]) _ _ _); (refine' r_tupleOf ?k1q34 ?k2q34 ?k3q34 ?k4q34 ?_; (case k1q34 => k_asm); (case k2q34 => k_asm); (case k3q34 => k_extra "m_list"); (case k4q34 => assumption); k_whole); walk_at "i5")))
  (k_with "m_len" => (first | assumption | omega | ((try simp only [List.length_append, List.length_cons, List.length_nil, List.length_map]); omega)))
  (k_with "call builtin:len" => (k_dflt ((with_reducible show wpAny _ _ (call (Value.builtin "len") [Value.ref _]) _ _ _); first
    | (refine' r_lenList ?k1q36 ?k2q36 ?_; (case k1q36 => k_extra "m_list"); (case k2q36 => k_extra "m_len"); k_whole)
    | (refine' r_lenTup ?k1q36 ?k2q36 ?_; (case k1q36 => k_extra "m_tup"); (case k2q36 => k_extra "m_len"); k_whole)
    | fail "len")))
  (k_with "truthy ref" => (k_dflt ((with_reducible show wpAny _ _ (truthy (Value.ref _)) _ _ _); first
    | (refine' r_truthyList ?k1q37 ?k2q37 ?_; (case k1q37 => k_extra "m_list"); (case k2q37 => k_extra "m_len"); k_whole)
    | (refine' r_truthyTup ?k1q37 ?k2q37 ?_; (case k1q37 => k_extra "m_tup"); (case k2q37 => k_extra "m_len"); k_whole)
    | (refine' r_truthyDict ?k1q37 ?k2q37 ?k3q37 ?k4q37 ?k5q37 ?_; (case k1q37 => k_asm); (case k2q37 => k_mem); (case k3q37 => k_asm); (case k4q37 => assumption); (case k5q37 => k_extra "m_len"); intro _)
    | fail "truthy")))
  (k_with "compareOp In str ref" => (k_dflt ((with_reducible show wpAny _ _ (compareOp CmpOp.In (Value.str _ _) (Value.ref _)) _ _ _); first
    | (refine' in_list_strs ?k1q38 ?k2q38 ?_; (case k1q38 => k_extra "m_list"); (case k2q38 => assumption); k_whole)
    | (refine' r_inTup ?k1q38 ?k2q38 ?_; (case k1q38 => k_extra "m_tup"); (case k2q38 => assumption); k_whole)
    | fail "in")))
  (k_with "compareOp NotIn str ref" => (k_dflt ((with_reducible show wpAny _ _ (compareOp CmpOp.NotIn (Value.str _ _) (Value.ref _)) _ _ _); first
    | (refine' notin_list_strs ?k1q39 ?k2q39 ?_; (case k1q39 => k_extra "m_list"); (case k2q39 => assumption); k_whole)
    | (refine' r_notinTup ?k1q39 ?k2q39 ?_; (case k1q39 => k_extra "m_tup"); (case k2q39 => assumption); k_whole)
    | fail "notin")))
  (k_with "m_k_units" => (first | omega | (simp only [Around.deeper, Around.in1, Around.mark] at *; omega)))
  (k_with "call builtin:all" => (k_dflt ((with_reducible show wpAny _ _ (call (Value.builtin "all") [Value.ref _]) _ _ _); (refine' all_strs ?khq41 ?kFq41 ?kNq41 ?kpq41 ?_; (case kFq41 => k_asm); (case kNq41 => k_asm); (case kpq41 => assumption); (case khq41 => rfl)); intro _ _ _ _; (try simp only []))))
  (k_with "m_lt" => (first | assumption | omega))
  (k_with "subscriptTail" => (k_dflt ((with_reducible show wpAny _ _ (subscriptTail _ _ (Value.ref _) (Value.int _ _)) _ _ _); (refine' r_itemList ?k1q43 ?k2q43 ?k3q43 ?k4q43 ?k5q43 ?_ ?k6q43; (case k1q43 => k_extra "m_list"); (case k2q43 => assumption); (case k3q43 => k_extra "m_lt"); (case k4q43 => k_extra "m_lt"); (case k5q43 => k_extra "m_lt"); (case k6q43 => exact rfl)); intro _ _ _)))
  (k_with "m_din" => (first | (with_reducible assumption) | assumption | exact (rfl : _ = true) | exact (rfl : _ = false) | exact rfl))
  (k_with "m_dat" => (first | assumption | exact rfl))
  (k_with "compareOp In str ref" => (k_dflt ((with_reducible show wpAny _ _ (compareOp CmpOp.In (Value.str _ _) (Value.ref _)) _ _ _); (refine' kda_in (knd := PySem.strKind _ _) ?k1q46 ?k2q46 ?k3q46 ?k4q46 (strKind_is _ _ _ _) _ ?k6q46 ?_; (case k1q46 => k_asm); (case k2q46 => k_mem); (case k3q46 => k_asm); (case k4q46 => first | (with_reducible assumption) | assumption); (case k6q46 => k_extra "m_din")))))
  (k_with "compareOp NotIn str ref" => (k_dflt ((with_reducible show wpAny _ _ (compareOp CmpOp.NotIn (Value.str _ _) (Value.ref _)) _ _ _); (refine' kdg_notin (knd := PySem.strKind _ _) ?k1q47 ?k2q47 ?k3q47 ?k4q47 (strKind_is _ _ _ _) _ ?k6q47 ?_; (case k1q47 => k_asm); (case k2q47 => k_mem); (case k3q47 => k_asm); (case k4q47 => first | (with_reducible assumption) | assumption); (case k6q47 => k_extra "m_din")))))
  (k_with "subscriptTail" => (((with_reducible show wpAny _ _ (subscriptTail _ _ (Value.ref _) (Value.str _ _)) _ _ _); k_dflt (refine' kdt_tail ?k1q48 ?k2q48 ?k3q48 ?_ ?k4q48; (case k1q48 => k_asm); (case k2q48 => k_mem); (case k3q48 => k_asm); (case k4q48 => exact rfl)))))
  (k_with "subscriptTail" => (k_dflt ((with_reducible show wpAny _ _ (subscriptTail _ _ (Value.ref _) (Value.str _ _)) _ _ _); (refine' kda_item (knd := PySem.strKind _ _) ?k1q49 ?k2q49 ?k3q49 (strKind_is _ _ _ _) ?k4q49 ?_; (case k1q49 => k_asm); (case k2q49 => k_mem); (case k3q49 => k_asm); (case k4q49 => k_extra "m_dat")))))
  (k_with "setItem ref str" => (k_dflt ((refine' kda_set (knd := PySem.strKind _ _) ?Fq50 ?Nq50 ?Uq50 ?dq50 (strKind_is _ _ _ _) ?zq50 ?_; (case Fq50 => k_asm); (case Nq50 => k_asm); (case Uq50 => k_updF); (case dq50 => k_asm); (case zq50 => first | assumption | (rw [sizeLine_eq]; exact Nat.le_of_ble_eq_true (by with_unfolding_all rfl)))); walk_at "i5d")))
  (k_with "getAttr ref" => (k_dflt (refine' get_own ?k1q51 ?k2q51 ?k3q51 ?k4q51 ?k5q51 ?k6q51 ?k7q51 ?k8q51 ?k9q51 ?_; (case k1q51 => k_asm); (case k2q51 => k_asm); (case k3q51 => k_inst); (case k8q51 => assumption); (case k4q51 => k_is); (case k5q51 => k_is); (case k6q51 => k_is); (case k7q51 => k_is); (case k9q51 => exact rfl))))
  (k_with "call builtin:str.join" => (k_dflt ((with_reducible show wpAny _ _ (call (Value.builtin "str.join") [Value.str _ _, Value.ref _]) _ _ _); (refine' r_joinTup ?k1q52 ?k2q52 ?k3q52 ?k4q52 ?k5q52 ?_; (case k1q52 => k_extra "m_tup"); (case k2q52 => assumption); (case k3q52 => assumption); (case k4q52 => assumption); (case k5q52 => decide)); intro _ _ _ _)))
  (k_with "getMethod ref" => (k_dflt (refine' method_inst ?k1q53 ?k2q53 ?k3q53 ?k4q53 ?k5q53 ?k6q53 ?k7q53 ?_; (case k1q53 => k_asm); (case k2q53 => k_asm); (case k3q53 => k_inst); (case k7q53 => assumption); (case k4q53 => k_is); (case k5q53 => k_is); (case k6q53 => k_is))))
  (k_with "getItem ref str" => (k_dflt ((with_reducible show wpAny _ _ (getItem (Value.ref _) (Value.str _ _)) _ _ _); (refine' kdt_getItem (knd := PySem.strKind _ _) ?k1q54 ?k2q54 ?k3q54 (strKind_is _ _ _ _) ?k4q54 ?_; (case k1q54 => k_asm); (case k2q54 => k_mem); (case k3q54 => k_asm); (case k4q54 => k_extra "m_dat")))))
  (k_with "subscriptTail Name Slice ref ref" => (k_extra "m_slice"))
  (k_with "subscriptTail Attribute Slice ref ref" => (k_extra "m_slice"))
  (k_with "subscriptTail" => (k_dflt ((with_reducible show wpAny _ _ (subscriptTail _ _ (Value.ref _) (Value.int _ _)) _ _ _); (refine' r_itemL ?k1q57 ?k3q57 ?k4q57 ?k2q57 ?_ ?k6q57; (case k1q57 => k_extra "m_list"); (case k2q57 => exact rfl); (case k3q57 => decide); (case k4q57 => decide); (case k6q57 => exact rfl)))))
  (k_with "call builtin:list.append" => (k_dflt ((with_reducible show wpAny _ _ (call (Value.builtin "list.append") [Value.ref _, _]) _ _ _); (refine' append_L3 ?k1q62 ?k2q62 ?k3q62 ?k4q62 ?k5q62 ?k6q62 ?_; (case k1q62 => k_asm); (case k2q62 => k_asm); (case k3q62 => assumption); (case k4q62 => assumption); (case k5q62 => assumption); (case k6q62 => assumption)); intro _ _ _)))
  (k_with "m_for" => (k_dflt ((refine' For_GF ?kFq30 ?k1q30 ?k2q30 ?_; (case kFq30 => assumption); (case k1q30 => exact PassesOwn.never); (case k2q30 => exact fun _ => rfl)))))
  trivial
inductive JEn (x sl : Addr) (nm : Str) (tn tf tl : Tok) (led : List (Addr × Obj)) (m : Str → Option Value) (news : List (Addr × Obj)) : Prop
  | mk  (h1 : news = led) (h2 : m "self" = some (.ref x)) (h3 : m "prodname" = some (.str nm tn)) (h4 : m "syms" = some (.ref sl)) (h5 : m "func" = some .none) (h6 : m "file" = some (.str "" tf)) (h7 : m "line" = some (.int 0 tl)) : JEn x sl nm tn tf tl led m news
theorem eq_known {prog : Program} {w : World} {A : Around} {E : Value → Shared → Prop} {s : Shared} {x y : Str} {t u : Tok} {b : Bool} {Q : Value → Shared → Prop} (hb : (x == y) = b) (h : Q (.bool b) s) : wpAny (model prog w) A (compareOp .Eq (.str x t) (.str y u)) Q E s := by
  subst hb
  exact eq_str h
theorem in_known {prog : Program} {w : World} {A : Around} {E : Value → Shared → Prop} {s : Shared} {x y : Str} {t u : Tok} {b : Bool} {Q : Value → Shared → Prop} (hb : (!(Builtin.Str.occurrences x y 0 x.length 1).isEmpty) = b) (h : Q (.bool b) s) : wpAny (model prog w) A (compareOp .In (.str y u) (.str x t)) Q E s := by
  subst hb
  exact in_str h
theorem in_list_known {prog : Program} {w : World} {A : Around} {E : Value → Shared → Prop} {s : Shared} {l : Addr} {vs : List Value} {ys : List Str} {x : Str} {u : Tok} {b : Bool} {Q : Value → Shared → Prop} (hl : s.heap.IsList l vs.toArray) (hi : StrsAre vs ys) (hb : (ys.any fun y => y == x) = b) (h : Q (.bool b) s) : wpAny (model prog w) A (compareOp .In (.str x u) (.ref l)) Q E s := by
  subst hb
  exact in_list_strs hl hi h
theorem get_empty {prog : Program} {w : World} {A : Around} {E : Value → Shared → Prop} {s : Shared} {h₀ : Heap} {L d : Addr} {news : List (Addr × Obj)} {o : Obj} {v dflt : Value} {Q : Value → Shared → Prop} (N : News h₀ L s.heap news) (hp : (d, o) ∈ news) (hd : o.IsDictOf (PySem.strKind prog w) []) (lo : (d == sysModules) = false)
    (hv : v = .none ∨ ∃ x t, v = .str x t) (h : Q dflt { s with toks := s.toks + 1 }) : wpAny (model prog w) A (call (.builtin "dict.get") [.ref d, v, dflt]) Q E s := by
  rcases hv with rfl | ⟨x, t, rfl⟩
  · exact kdg_get2 (knd := noneKind prog w) (k := ()) N hp (empty_none hd) lo rfl none rfl h
  · exact kdg_get2 (knd := PySem.strKind prog w) (k := x) N hp hd lo (strKind_is _ _ _ _) none rfl h
theorem gLed_all {pl pn pm nd : Addr} {p0 : Value} {ps : List Value} {k : Nat} {opn opm ond : Obj} {E : List Ent} {pool fix : List (Addr × Obj)} {P : Addr × Obj → Prop} (h1 : P (pl, W.listOf (p0 :: ps).toArray k)) (h2 : P (pn, opn)) (h3 : P (pm, opm)) (h4 : P (nd, ond))
    (h5 : ∀ q ∈ eLed E, P q) (h6 : ∀ q ∈ pool, P q) (h7 : ∀ q ∈ fix, P q) : ∀ q ∈ gLed pl pn pm nd p0 ps k opn opm ond E pool fix, P q :=
  List.forall_mem_cons.mpr ⟨h1, List.forall_mem_cons.mpr ⟨h2, List.forall_mem_cons.mpr ⟨h3, List.forall_mem_cons.mpr ⟨h4, List.forall_mem_append.mpr ⟨h5, List.forall_mem_append.mpr ⟨h6, h7⟩⟩⟩⟩⟩⟩
theorem gLed_le {pl pn pm nd : Addr} {p0 : Value} {ps : List Value} {k : Nat} {opn opm ond : Obj} {E E' : List Ent} {pool fix fix' rst : List (Addr × Obj)} (h5 : ∀ q ∈ eLed E', q ∈ eLed E) (h7 : ∀ q ∈ fix', q ∈ fix) :
    ∀ q ∈ gLed pl pn pm nd p0 ps k opn opm ond E' pool fix', q ∈ gLed pl pn pm nd p0 ps k opn opm ond E pool fix ++ rst :=
  gLed_all (.head _) (.tail _ (.head _)) (.tail _ (.tail _ (.head _))) (.tail _ (.tail _ (.tail _ (.head _)))) (fun q hq => List.mem_append_left _ (.tail _ (.tail _ (.tail _ (.tail _ (List.mem_append_left _ (h5 q hq)))))))
    (fun q hq => List.mem_append_left _ (.tail _ (.tail _ (.tail _ (.tail _ (List.mem_append_right _ (List.mem_append_left _ hq))))))) (fun q hq => List.mem_append_left _ (.tail _ (.tail _ (.tail _ (.tail _ (List.mem_append_right _ (List.mem_append_right _ (h7 q hq))))))))
theorem gLed_start {pl pn pm nd : Addr} {p0 : Value} {ps : List Value} {k : Nat} {opn opm ond : Obj} {E : List Ent} {pool fix : List (Addr × Obj)} {a b : Addr × Obj} :
    ∀ q ∈ gLed pl pn pm nd p0 ps k opn opm ond E pool (a :: b :: fix), q ∈ a :: (gLed pl pn pm nd p0 ps k opn opm ond E pool fix ++ [b]) :=
  gLed_all (.tail _ (.head _)) (.tail _ (.tail _ (.head _))) (.tail _ (.tail _ (.tail _ (.head _)))) (.tail _ (.tail _ (.tail _ (.tail _ (.head _)))))
    (fun q hq => .tail _ (List.mem_append_left _ (.tail _ (.tail _ (.tail _ (.tail _ (List.mem_append_left _ hq)))))))
    (fun q hq => .tail _ (List.mem_append_left _ (.tail _ (.tail _ (.tail _ (.tail _ (List.mem_append_right _ (List.mem_append_left _ hq))))))))
    (sub_cons (.head _) (sub_cons (.tail _ (List.mem_append_right _ (.head _))) fun q hq => .tail _ (List.mem_append_left _ (.tail _ (.tail _ (.tail _ (.tail _ (List.mem_append_right _ (List.mem_append_right _ hq)))))))))
theorem gLed_lj {D0 pl pn pm nd : Addr} {oD : Obj} {p0 : Value} {ps : List Value} {k : Nat} {opn opm ond : Obj} {E : List Ent} {pool fix : List (Addr × Obj)} {a b c : Addr × Obj} :
    ∀ q ∈ gLed pl pn pm nd p0 ps k opn opm ond E pool (a :: b :: c :: (D0, oD) :: fix), q ∈ a :: b :: c :: LJ D0 oD pl (W.listOf (p0 :: ps).toArray k) pn opn pm opm nd ond E pool fix :=
  gLed_all (.tail _ (.tail _ (.tail _ (.tail _ (.head _))))) (.tail _ (.tail _ (.tail _ (.tail _ (.tail _ (.head _)))))) (.tail _ (.tail _ (.tail _ (.tail _ (.tail _ (.tail _ (.head _))))))) (.tail _ (.tail _ (.tail _ (.tail _ (.tail _ (.tail _ (.tail _ (.head _))))))))
    (fun q hq => .tail _ (.tail _ (.tail _ (.tail _ (.tail _ (.tail _ (.tail _ (.tail _ (List.mem_append_left _ hq)))))))))
    (fun q hq => .tail _ (.tail _ (.tail _ (.tail _ (.tail _ (.tail _ (.tail _ (.tail _ (List.mem_append_right _ (List.mem_append_left _ hq))))))))))
    (sub_cons (.head _) (sub_cons (.tail _ (.head _)) (sub_cons (.tail _ (.tail _ (.head _))) (sub_cons (.tail _ (.tail _ (.tail _ (.head _)))) fun q hq => .tail _ (.tail _ (.tail _ (.tail _ (.tail _ (.tail _ (.tail _ (.tail _ (List.mem_append_right _ (List.mem_append_right _ hq)))))))))))))
theorem four_le {a b c d x : Addr × Obj} {l : List (Addr × Obj)} : ∀ q ∈ a :: b :: c :: d :: l, q ∈ a :: b :: c :: d :: x :: l :=
  sub_cons (.head _) (sub_cons (.tail _ (.head _)) (sub_cons (.tail _ (.tail _ (.head _))) (sub_cons (.tail _ (.tail _ (.tail _ (.head _)))) fun q hq => .tail _ (.tail _ (.tail _ (.tail _ (.tail _ hq)))))))
noncomputable def sVARS : List Str := ["self", "prodname", "syms", "func", "file", "line", "prodprec", "map", "pnumber"]
section Add
theorem reg_MAdd : True := by
  (k_with "getMethod ref" => (k_dflt ((with_reducible show wpAny _ _ (getMethod (Value.ref _) (Str.ofString "get") _) _ _ _); (refine' kdg_method (knd := PySem.strKind _ _) ?k1q64 ?k2q64 ?k3q64 ?_); (case k1q64 => k_asm); (case k2q64 => k_mem); (case k3q64 => k_asm))))
  (k_with "call builtin:dict.get" => (k_dflt ((refine' get_empty ?k1q65 ?k2q65 ?k3q65 ?k4q65 ?k5q65 ?_); (case k1q65 => k_asm); (case k2q65 => k_mem); (case k3q65 => k_asm); (case k4q65 => assumption); (case k5q65 => assumption))))
  (k_with "convS ref" => (k_dflt ((refine' convS_N ?k1q66 ?k2q66 ?k4q66 ?k5q66 ?k6q66 ?k8q66 ?k9q66 ?k0q66 ?_); (case k1q66 => k_asm); (case k2q66 => k_asm); (case k4q66 => k_mem); (case k5q66 => exact rfl); (case k6q66 => assumption); (case k8q66 => assumption); (case k9q66 => assumption); (case k0q66 => assumption); intro _ _ _ _ _)))
  (k_with "exec If" => (((fail_if_success (with_reducible rename JoinMark => jmq)); (with_reducible show wpAny _ _ (exec (Stmt.If (Expr.Compare (Expr.Name (Str.ofString "prodname") _) [CmpOp.NotIn] _ _) _ _ _) _) _ _ _); refine halt ?_)))
  (k_with "compareOp In str str" => (k_dflt ((refine' in_known ?k1q68 ?_); (case k1q68 => assumption))))
  (k_with "compareOp In str ref" => (k_dflt ((with_reducible show wpAny _ _ (compareOp CmpOp.In (Value.str _ _) (Value.ref _)) _ _ _); (refine' in_list_known ?k1q69 ?k2q69 ?k3q69 ?_; (case k1q69 => k_extra "m_list"); (case k2q69 => assumption); (case k3q69 => assumption)))))
  (k_with "compareOp Eq str str" => (k_dflt ((refine' eq_known ?k1q70 ?_); (case k1q70 => assumption))))
  (k_with "call builtin:list.append" => (refine halt ?_))
  trivial
theorem t_addp {prog : Program} {w : World} {dp_ un : Nat} {env : Env} {s : Shared} {hb : Heap} {mg mb : Str → Option Value} {p : Program} {loose : List Str} {R : Result → Shared → Prop}
  (X : (hd.heap_1 w.params).In hb) (T : TopRead p loose mg mb hb) (hs : hb.StaysIn s.heap) (hroom : dp_ + 10 < recursionLimit) (hu : un + 200 < cLine)
  {x dx pl pn pm td nd fd fo pr sl Lw : Addr} {es : List DictEntry} {rules : List (Str × List Str)} {p0 : Value} {led : List (Addr × Obj)} {nm : Str} {tn : Tok} {ws : List Value} {ss : List Str} {n : Nat} {oL : Obj}
  (hE : GE es pl pn pm td nd fd fo pr) (hG : GS prog w x dx pl pn pm td nd pr es rules p0 led) (H : Has hb s.heap ((Lw, oL) :: (led ++ [(sl, W.listOf ws.toArray n)]))) (ha : Apart led [(sl, W.listOf ws.toArray n)])
  (Fs : TI.Frs [env] [(Lw, oL)]) (hLw : ∀ q ∈ led ++ [(sl, W.listOf ws.toArray n)], q.1 ≠ Lw)
  (hS : StrsAre ws ss) (hr : RuleOk (nm, ss)) (hnew : (nm, ss) ∉ rules) (hok : ∀ r ∈ rules, RuleOk r) (hlen : rules.length ≤ 7)
  (post : ∀ h' tk led' slx, Kp (((Lw, oL) :: (led ++ [(sl, W.listOf ws.toArray n)])).map (·.1)) s.heap h' → h'.get? Lw = some { oL with slots := slx } → Left ((Lw, oL) :: (led ++ [(sl, W.listOf ws.toArray n)])) s.heap h' led' → (∀ q ∈ led', q.1 ≠ Lw) →
    GS prog w x dx pl pn pm td nd pr es (rules ++ [(nm, ss)]) p0 led' → R (.ok (.ret .none)) { s with heap := h', toks := tk }) :
  codeAny (model prog w) ⟨none, dp_, some [env], some [], un⟩ (.call (.ref 166) ⟨[.ref x, .str nm tn, .ref sl], []⟩) R s := by
  obtain ⟨ps, k, opn, opm, ond, E, kM, kN, kT, pool, fix, rfl, Mc, AP, GFc⟩ := hG
  have Xs : (hd.heap_1 w.params).In s.heap := X.keeps hs
  refine' enterH (((Lw, oL) :: (gLed pl pn pm nd p0 ps k opn opm ond E pool fix ++ [(sl, W.listOf ws.toArray n)])).map (·.1)) [("self", .ref x), ("prodname", .str nm tn), ("syms", .ref sl), ("func", .none), ("file", .str "" 395), ("line", .int 0 396)] X T hs ?_ ?ho ?hcd (by show dp_ < _; omega) ?hb ?hl ?h ?hc ?h1 ?h2 ?h3
  walk_at "m_enter"
  · exact H.base
  intro g L h₁ tk F I
  refine letS ?_
  intro SH A1 en Q1
  have hA1 : A1.depth = dp_ + 1 := rfl
  have hA2 : A1.units = un + 3 := rfl
  have X := I.X
  have T := I.T
  have N := News_sub (I.putAll H) (news' := gLed pl pn pm nd p0 ps k opn opm ond E pool ((Lw, oL) :: (sl, W.listOf ws.toArray n) :: fix)) gLed_start
  obtain ⟨a1, a2, a3, a4, a5, a6⟩ := ha.gLed (.head _)
  have hmem : ∀ q : Addr, (q = pl ∨ q = pn ∨ q = pm ∨ q = nd ∨ (∃ p ∈ eLed E, p.1 = q) ∨ ∃ p ∈ pool, p.1 = q) → ∃ o, (q, o) ∈ gLed pl pn pm nd p0 ps k opn opm ond E pool fix := by
    rintro q (rfl | rfl | rfl | rfl | ⟨p, hp, rfl⟩ | ⟨p, hp, rfl⟩)
    · exact ⟨_, .head _⟩
    · exact ⟨_, .tail _ (.head _)⟩
    · exact ⟨_, .tail _ (.tail _ (.head _))⟩
    · exact ⟨_, .tail _ (.tail _ (.tail _ (.head _)))⟩
    · exact ⟨p.2, .tail _ (.tail _ (.tail _ (.tail _ (List.mem_append_left _ hp))))⟩
    · exact ⟨p.2, .tail _ (.tail _ (.tail _ (.tail _ (List.mem_append_right _ (List.mem_append_left _ hp)))))⟩
  have hLf : ∀ q ∈ fix, q.1 ≠ Lw := fun q hq => hLw q (List.mem_append_left _ (.tail _ (.tail _ (.tail _ (.tail _ (List.mem_append_right _ (List.mem_append_right _ hq)))))))
  have hLs : sl ≠ Lw := hLw _ (List.mem_append_right _ (.head _))
  replace Mc := Mc.mono (fix' := (sl, W.listOf ws.toArray n) :: fix) fun q hq => .tail _ hq
  replace GFc := GFc.mono (fix' := (sl, W.listOf ws.toArray n) :: fix) fun q hq => .tail _ hq
  replace AP := (AP.more (o := W.listOf ws.toArray n) a1 a2 a3 a4 a5 a6).add (a := Lw) (o := oL) fun q hq => let ⟨o, ho⟩ := hmem q hq; (hLw _ (List.mem_append_left _ ho)).symm
  have hsl : (sl, W.listOf ws.toArray n) ∈ (Lw, oL) :: (sl, W.listOf ws.toArray n) :: fix := .tail _ (.head _)
  have hLm : (Lw, oL) ∈ (Lw, oL) :: (sl, W.listOf ws.toArray n) :: fix := .head _
  obtain ⟨fc, hfc⟩ : ∃ f, f = (sl, W.listOf ws.toArray n) :: fix := ⟨_, rfl⟩
  have hLc : ∀ q ∈ fc, q.1 ≠ Lw := fun q hq => by
    rw [hfc] at hq
    rcases List.mem_cons.mp hq with rfl | hq
    · exact hLs
    · exact hLf q hq
  have M := Mc.mono (fix' := (Lw, oL) :: (sl, W.listOf ws.toArray n) :: fix) fun q hq => .tail _ hq
  have GF := GFc.mono (fix' := (Lw, oL) :: (sl, W.listOf ws.toArray n) :: fix) fun q hq => .tail _ hq
  rw [← hfc] at N M GF AP hsl Mc GFc hLm
  obtain ⟨fx, hfx⟩ : ∃ f, f = (Lw, oL) :: fc := ⟨_, rfl⟩
  rw [← hfx] at N M GF AP hsl hLm
  clear a1 a2 a3 a4 a5 a6 hmem
  obtain ⟨ep, hdxc⟩ := GFc.hdx
  have hdx : (dx, dictOf es ep) ∈ fx := by rw [hfx]; exact .tail _ hdxc
  obtain ⟨hx, _, ⟨otd, htd, hotd⟩, ⟨opr, hpr, hopr⟩, hmt, hmp, hkT, _, _⟩ := GF
  obtain ⟨hrn, hr3, hrs⟩ := hr
  replace hrn : nm ∈ sNAMES := hrn
  replace hr3 : ss.length ≤ 3 := hr3
  replace hrs : ∀ s ∈ ss, s ∈ sSYMS := hrs
  have hT1 : (valueAt kT nm).isSome = false := by
    rw [valueAt_isSome_eq_any]
    refine List.any_eq_false.mpr fun q hq e => ?_
    have e := of_decide_eq_true e
    have : q.1 ∈ sK1 := hkT ▸ List.mem_map_of_mem hq
    rw [e] at this
    exact (by decide : ∀ z ∈ sNAMES, z ∉ sK1) _ hrn this
  have e1 := hE.td
  have e2 := hE.pr
  have e3 := hE.pm
  have e4 := hE.pl
  have e5 := hE.nd
  have e6 := hE.pn
  have hns : nm ∈ sSYMS := (by decide : ∀ z ∈ sNAMES, z ∈ sSYMS) _ hrn
  have hne : (nm == Str.ofString "error") = false := (by decide : ∀ z ∈ sNAMES, (z == Str.ofString "error") = false) _ hrn
  unfold gLed at N
  (try ((with_reducible show wpAny _ _ _ _ _ _); k_fold)); k_steps
  rename Fr _ _ _ _ => F
  refine wpAny_call ?_
  refine' t_ident (dp := dp_ + 1) (un := un + 3) X T ?qs ?qr ?qu hns ?_
  case qs => exact F.keep
  case qr => omega
  case qu => omega
  intro h' tk kk
  have F := Fr_kp F kk (fun q => nomatch q) (fun _ q => nomatch q)
  have N := News_kp N kk (fun _ _ q => nomatch q)
  clear kk
  dsimp only
  (try ((with_reducible show wpAny _ _ _ _ _ _); k_fold)); k_steps
  rename Fr _ _ _ _ => F
  obtain ⟨L0, hL0⟩ : ∃ l, l = (pl, W.listOf (p0 :: ps).toArray k) :: (pn, opn) :: (pm, opm) :: (nd, ond) :: (eLed E ++ (pool ++ fx)) := ⟨_, rfl⟩
  rw [← hL0] at N
  have hfl : ∀ q ∈ fx, q ∈ L0 := fun q hq => hL0 ▸ .tail _ (.tail _ (.tail _ (.tail _ (List.mem_append_right _ (List.mem_append_right _ hq)))))
  refine g_enum (fun i m news => JEn x sl nm tn 395 396 L0 m news) rfl (News.get N (hfl _ hsl)) ⟨.inl rfl, _, rfl⟩ hS F N rfl rfl rfl ⟨rfl, rfl, rfl, rfl, rfl, rfl, rfl⟩ ?_ ?_ ?_
  · rintro i m news ⟨rfl, _⟩
    exact .inl (hfl _ hsl)
  · rintro own i z ti u m₁ news₁ h tk hz ⟨rfl, m1, m2, m3, m4, m5, m6⟩ hoff F N
    have F := Fr_say F (x := "self") ((if_neg (by decide)).trans ((if_neg (by decide)).trans m1))
    have hz' := hrs z (List.mem_of_getElem? hz)
    have hend : ∀ {t0 : Nat} h' tk m', Fr g L h' m' → News g L h' (news₁ ++ own) → m' "self" = some (.ref x) → m' "prodname" = some (.str nm tn) → m' "syms" = some (.ref sl) → m' "func" = some .none → m' "file" = some (.str "" 395) → m' "line" = some (.int 0 396) →
        EndG g L (JEn x sl nm tn 395 396 news₁) own { s with heap := h, toks := t0 } { s with heap := h', toks := tk } := fun h' tk m' F N q1 q2 q3 q4 q5 q6 => EndG.mk news₁ F N (fun _ h => h) hoff ⟨rfl, q1, q2, q3, q4, q5, q6⟩
    have hz1 : z.length = 1 := (by decide : ∀ z ∈ sSYMS, z.length = 1) z hz'
    have hocc : (!(Builtin.Str.occurrences (Str.ofString "'\"") (Txt.item z 0) 0 (Str.ofString "'\"").length 1).isEmpty) = false := (by decide +kernel : ∀ z ∈ sSYMS, (!(Builtin.Str.occurrences (Str.ofString "'\"") (Txt.item z 0) 0 (Str.ofString "'\"").length 1).isEmpty) = false) z hz'
    (try ((with_reducible show wpAny _ _ _ _ _ _); k_fold)); k_steps
    rename Fr _ _ _ _ => F
    refine wpAny_call ?_
    refine' t_ident (dp := dp_ + 1) (un := un + 3) X T ?qs ?qr ?qu hz' ?_
    case qs => exact F.keep
    case qr => omega
    case qu => omega
    intro h' tk kk
    have F := Fr_kp F kk (fun q => nomatch q) (fun _ q => nomatch q)
    have N := News_kp N kk (fun _ _ q => nomatch q)
    clear kk
    dsimp only
    (try ((with_reducible show wpAny _ _ _ _ _ _); k_fold)); k_steps
    rename Fr _ _ _ _ => F
    refine StepG.next (hend _ _ _ F N rfl ?_ ?_ ?_ ?_ ?_)
    · exact (if_neg (by decide)).trans ((if_neg (by decide)).trans ((if_neg (by decide)).trans m2))
    · exact (if_neg (by decide)).trans ((if_neg (by decide)).trans ((if_neg (by decide)).trans m3))
    · exact (if_neg (by decide)).trans ((if_neg (by decide)).trans ((if_neg (by decide)).trans m4))
    · exact (if_neg (by decide)).trans ((if_neg (by decide)).trans ((if_neg (by decide)).trans m5))
    · exact (if_neg (by decide)).trans ((if_neg (by decide)).trans ((if_neg (by decide)).trans m6))
  · rintro h tk m₁ news₁ ⟨rfl, m1, m2, m3, m4, m5, m6⟩ F N
    have F := Fr_say F (x := "self") m1
    have F := Fr_say F (x := "prodname") ((if_neg (by decide)).trans m2)
    have F := Fr_say F (x := "syms") ((if_neg (by decide)).trans ((if_neg (by decide)).trans m3))
    have F := Fr_say F (x := "func") ((if_neg (by decide)).trans ((if_neg (by decide)).trans ((if_neg (by decide)).trans m4)))
    have F := Fr_say F (x := "file") ((if_neg (by decide)).trans ((if_neg (by decide)).trans ((if_neg (by decide)).trans ((if_neg (by decide)).trans m5))))
    have F := Fr_say F (x := "line") ((if_neg (by decide)).trans ((if_neg (by decide)).trans ((if_neg (by decide)).trans ((if_neg (by decide)).trans ((if_neg (by decide)).trans m6)))))
    have hpc : (ss.any fun y => y == Str.ofString "%prec") = false := List.any_eq_false.mpr fun y hy e => (by decide : ∀ z ∈ sSYMS, ¬ (z == Str.ofString "%prec") = true) y (hrs y hy) e
    have hsl1 := hfl _ hsl
    have htd1 := hfl _ htd
    have hpr1 := hfl _ hpr
    have hx1 := hfl _ hx
    have hdx1 := hfl _ hdx
    have hpl1 : (pl, W.listOf (p0 :: ps).toArray k) ∈ news₁ := hL0 ▸ .head _
    have hpm1 : (pm, opm) ∈ news₁ := hL0 ▸ .tail _ (.tail _ (.head _))
    have hM := M.hM
    have hmm := M.mm
    have hM0 : (valueAt kM (mapText nm ss)).isSome = false := by
      rw [valueAt_isSome_eq_any]
      refine List.any_eq_false.mpr fun q hq e => ?_
      have e := of_decide_eq_true e
      have hq' : q.1 ∈ rules.map fun r => mapText r.1 r.2 := M.keysM ▸ List.mem_map_of_mem hq
      obtain ⟨r, hr, e'⟩ := List.mem_map.mp hq'
      have := mapText_inj (r := r) (r' := (nm, ss)) (hok r hr) ⟨hrn, hr3, hrs⟩ (show mapText r.1 r.2 = mapText nm ss from Eq.trans e' e)
      exact hnew (this ▸ hr)
    have hpsl := M.prods.length
    have hq1 : ∀ y ∈ ss, (reprText y).length ≤ 1000 := fun y hy => sym_repr_len y (hrs y hy)
    have hq2 := list_text_len hrs hr3
    have hq3 : nm.length ≤ 1000000 := Nat.le_trans ((by decide : ∀ z ∈ sNAMES, z.length ≤ 1) nm hrn) (by omega)
    have hq4 : un + 3 + 10 < cLine := by omega
    have hq5 : ((p0 :: ps).length : Int) < 2 ^ 63 := by rw [List.length_cons]; omega
    (try ((with_reducible show wpAny _ _ _ _ _ _); k_fold)); k_steps
    rename Fr _ _ _ _ => F
    refine wpAny_call ?_
    refine' t_right (dp := dp_ + 1) (un := un + 3) (kvs := kT) X T ?qs ?qr ?qu (N _ hsl1).1 hS hr3 (N _ htd1).1 hotd hmt (N _ hsl1).2.2 (N _ htd1).2.2 ?_
    case qs => exact F.keep
    case qr => omega
    case qu => omega
    intro v h' tk kk hv
    have F := Fr_kp F kk (fun q => nomatch q) (fun _ q => nomatch q)
    have N := News_kp N kk (fun _ _ q => nomatch q)
    clear kk
    dsimp only
    (try ((with_reducible show wpAny _ _ _ _ _ _); k_fold)); k_steps
    rename Fr _ _ _ _ => F
    rename News _ _ _ _ => N
    refine News.hdName N fun D0 hD0 => ?_
    subst hD0
    rename AllLt D0 _ => l1D
    replace l1D := kst_ltOf l1D
    rename Fr _ _ _ _ => F
    rename News _ _ _ _ => N
    generalize hmk : Str.empty ++ nm ++ Str.ofString " -> " ++ listText (List.map reprText ss) = mk at F N ⊢
    replace hM0 : (valueAt kM mk).isSome = false := hmk ▸ hM0
    (try ((with_reducible show wpAny _ _ _ _ _ _); k_fold)); k_steps
    rename Fr _ _ _ _ => F
    rename News _ _ _ _ => N
    refine News.genHd N fun oD _ N => ?_
    refine Fr.gen F fun m0 hm0 F => ?_
    have g1 : m0 "self" = some (.ref x) := by rw [hm0]; rfl
    have g2 : m0 "prodname" = some (.str nm tn) := by rw [hm0]; rfl
    have g3 : m0 "syms" = some (.ref sl) := by rw [hm0]; rfl
    have g4 : m0 "func" = some .none := by rw [hm0]; rfl
    have g5 : m0 "file" = some (.str "" 395) := by rw [hm0]; rfl
    have g6 : m0 "line" = some (.int 0 396) := by rw [hm0]; rfl
    have g7 : m0 "prodprec" = some (.ref D0) := by rw [hm0]; rfl
    obtain ⟨tm, g8⟩ : ∃ tm, m0 "map" = some (.str mk tm) := ⟨_, by rw [hm0]; rfl⟩
    obtain ⟨tp, g9⟩ : ∃ tp, m0 "pnumber" = some (.int ((p0 :: ps).length : Nat) tp) := ⟨_, by rw [hm0]; rfl⟩
    clear hm0 hfl hsl1 htd1 hpr1 hx1 hdx1 hpl1 hpm1 m1 m2 m3 m4 m5 m6
    rw [hL0] at N
    rw [hL0] at l1D
    replace N : News g L _ (LJ D0 oD pl (W.listOf (p0 :: ps).toArray k) pn opn pm opm nd ond E pool fx) := N
    have hlt := l1D
    have hD : ∀ p ∈ (pl, W.listOf (p0 :: ps).toArray k) :: (pn, opn) :: (pm, opm) :: (nd, ond) :: (eLed E ++ (pool ++ fx)), D0 ≠ p.1 := fun p hp => (Nat.ne_of_lt (hlt p hp)).symm
    have hoff0 : ∀ p ∈ pool, p.1 ∉ othA D0 pl pn pm nd E fx := fun p hp => by
      obtain ⟨q1, q2, q3, q4⟩ := AP.p p hp
      exact othA_not (hD p (.tail _ (.tail _ (.tail _ (.tail _ (List.mem_append_right _ (List.mem_append_left _ hp))))))) (Ne.symm q1) (Ne.symm q2) (Ne.symm q3) (Ne.symm q4) (fun q hq => (AP.ep q hq p hp).symm) (AP.pf p hp)
    have P0 := M.np hoff0
    have n1 := AP.n1
    have n2 := AP.n2
    have n3 := AP.n3
    have n4 := AP.n4
    have n5 := AP.n5
    have n6 := AP.n6
    have hmd := M.md
    have b1 : @Ne Nat D0 nd := hD _ (.tail _ (.tail _ (.tail _ (.head _))))
    have b2 : @Ne Nat D0 pm := hD _ (.tail _ (.tail _ (.head _)))
    have b3 : @Ne Nat D0 pn := hD _ (.tail _ (.head _))
    have b4 : @Ne Nat D0 pl := hD _ (.head _)
    have c1 : ∀ q ∈ eLed E, q.1 ≠ nd := fun q hq => (AP.e q hq).2.2.2
    have c2 : ∀ q ∈ pool, q.1 ≠ nd := fun q hq => (AP.p q hq).2.2.2
    have c3 : ∀ q ∈ fx, q.1 ≠ nd := fun q hq => (AP.f q hq).2.2.2
    refine unhalt ?_
    refine wpAny_mono (Q := fun fl s' => Halt (fl = .next ∧ ∃ h' tk' ond' kN' pool', s' = { s with heap := h', toks := tk' } ∧ Fr g L h' m0 ∧ News g L h' (LJ D0 oD pl (W.listOf (p0 :: ps).toArray k) pn opn pm opm nd ond' E pool' fx) ∧
        NP prog w (4 * rules.length + 1) (othA D0 pl pn pm nd E fx) ((rules ++ [(nm, ss)]).head?.map (·.1)) (nm :: rules.map (·.1)) kT ond' kN' pool')) ?_ ?_ (fun _ _ x => x)
    · have jm : JoinMark := trivial
      have F := Fr_say F (x := "self") g1
      have F := Fr_say F (x := "prodname") ((if_neg (by decide)).trans g2)
      have hNl := P0.len
      have hNo := P0.hN
      have hNz : kN.length ≤ sizeLine := by rw [sizeLine_eq]; omega
      have hxl := mem_ljr (D0 := D0) (oD := oD) (pl := pl) (opl := W.listOf (p0 :: ps).toArray k) (pn := pn) (opn := opn) (pm := pm) (opm := opm) (nd := nd) (ond := ond) (E := E) (pool := pool) hx
      have hdxl := mem_ljr (D0 := D0) (oD := oD) (pl := pl) (opl := W.listOf (p0 :: ps).toArray k) (pn := pn) (opn := opn) (pm := pm) (opm := opm) (nd := nd) (ond := ond) (E := E) (pool := pool) hdx
      unfold LJ at N hxl hdxl
      by_cases hnk : nm ∈ kN.map (·.1)
      · have hin : (valueAt kN nm).isSome = true := by
          obtain ⟨v, e, _⟩ := mem_valueAt hnk
          rw [e]; rfl
        (try ((with_reducible show wpAny _ _ _ _ _ _); k_fold)); k_steps
        rename Fr _ _ _ _ => F
        refine unhalt ⟨rfl, _, _, ond, kN, pool, rfl, Fr.unsay (Fr.unsay F ((if_neg (by decide)).trans g2)) g1, N, (P0.old1 hnk).rehead ?_⟩
        intro y hy
        cases hrl : rules with
        | nil => rw [M.emptyN hrl] at hnk; cases hnk
        | cons r rr =>
          rw [hrl] at hy
          have := M.headN r (by rw [hrl]; rfl)
          cases hy
          exact this
      · have hin : (valueAt kN nm).isSome = false := by
          rw [valueAt_isSome_eq_any]
          refine List.any_eq_false.mpr fun q hq e => hnk ?_
          exact (of_decide_eq_true e) ▸ List.mem_map_of_mem hq
        have hmd := M.md
        (try ((with_reducible show wpAny _ _ _ _ _ _); k_fold)); k_steps
        rename Fr _ _ _ _ => F
        rename News _ _ _ _ => N
        rename Obj.IsDictOf _ _ (stored _ _ _) => hd'
        rename AllLt _ _ => l1
        obtain ⟨q1, q2, q3, q4, q5, q6⟩ := l1
        have q6 := kst_ltOf q6
        refine unhalt ⟨rfl, _, _, _, _, (_, W.listOf #[] 0) :: pool, rfl, Fr.unsay (Fr.unsay F ((if_neg (by decide)).trans g2)) g1, News_sub N ?_, P0.add hrn hnk hd' ?_ ?_⟩
        · unfold LJ; walk_at "m_sub"
        · exact othA_not (Nat.ne_of_lt q1) (Nat.ne_of_lt q2) (Nat.ne_of_lt q3) (Nat.ne_of_lt q4) (Nat.ne_of_lt q5) (fun q hq => Nat.ne_of_lt (q6 q (List.mem_append_left _ hq))) (fun q hq => Nat.ne_of_lt (q6 q (List.mem_append_right _ (List.mem_append_right _ hq))))
        · intro y hy
          cases hrl : rules with
          | nil =>
            rw [hrl] at hy
            cases hy
            exact .inl ⟨M.emptyN hrl, rfl⟩
          | cons r rr =>
            rw [hrl] at hy
            have := M.headN r (by rw [hrl]; rfl)
            cases hy
            exact .inr this
    · rintro fl s' ⟨rfl, h', tk', ond', kN', pool', rfl, F, N, P⟩
      dsimp only
      have F := Fr_say F (x := "self") g1
      have F := Fr_say F (x := "prodname") ((if_neg (by decide)).trans g2)
      have F := Fr_say F (x := "syms") ((if_neg (by decide)).trans ((if_neg (by decide)).trans g3))
      unfold LJ at N
      (try ((with_reducible show wpAny _ _ _ _ _ _); k_fold)); k_steps
      rename Fr _ _ _ _ => F
      refine g_strs (fun j m news => ∃ ond' kN' pool', news = LJ D0 oD pl (W.listOf (p0 :: ps).toArray k) pn opn pm opm nd ond' E pool' fx ∧ NP prog w (4 * rules.length + 1 + j) (othA D0 pl pn pm nd E fx) ((rules ++ [(nm, ss)]).head?.map (·.1)) (nm :: rules.map (·.1)) kT ond' kN' pool' ∧ ∀ y ∈ sVARS, m y = m0 y)
        rfl (N _ (mem_ljr hsl)).1 ⟨.inl rfl, _, rfl⟩ hS F N rfl rfl ⟨ond', kN', pool', rfl, P, ?_⟩ ?_ ?_ ?_
      · intro y hy
        simp only [sVARS, List.mem_cons, List.not_mem_nil, or_false] at hy
        rcases hy with rfl | rfl | rfl | rfl | rfl | rfl | rfl | rfl | rfl
        · exact ((if_neg (by decide)).trans ((if_neg (by decide)).trans (if_pos rfl))).trans g1.symm
        · exact ((if_neg (by decide)).trans (if_pos rfl)).trans g2.symm
        · exact (if_pos rfl).trans g3.symm
        all_goals exact (if_neg (by decide)).trans ((if_neg (by decide)).trans (if_neg (by decide)))
      · rintro j m news ⟨ond', kN', pool', rfl, _⟩
        exact .inl (mem_ljr hsl)
      · clear P N F
        rintro own j z u m₁ news₁ h tk hz ⟨ond', kN', pool', rfl, P, hk⟩ hoff F N
        have F := Fr_say F (x := "self") ((if_neg (by decide)).trans ((hk _ (by decide)).trans g1))
        have F := Fr_say F (x := "pnumber") ((if_neg (by decide)).trans ((if_neg (by decide)).trans ((hk _ (by decide)).trans g9)))
        have hz' := hrs z (List.mem_of_getElem? hz)
        have hj := (drop_at hz).1
        rw [lj_app] at N
        have hxl := mem_ljr (D0 := D0) (oD := oD) (pl := pl) (opl := W.listOf (p0 :: ps).toArray k) (pn := pn) (opn := opn) (pm := pm) (opm := opm) (nd := nd) (ond := ond') (E := E) (pool := pool') (List.mem_append_left own hx)
        have hdxl := mem_ljr (D0 := D0) (oD := oD) (pl := pl) (opl := W.listOf (p0 :: ps).toArray k) (pn := pn) (opn := opn) (pm := pm) (opm := opm) (nd := nd) (ond := ond') (E := E) (pool := pool') (List.mem_append_left own hdx)
        have htdl := mem_ljr (D0 := D0) (oD := oD) (pl := pl) (opl := W.listOf (p0 :: ps).toArray k) (pn := pn) (opn := opn) (pm := pm) (opm := opm) (nd := nd) (ond := ond') (E := E) (pool := pool') (List.mem_append_left own htd)
        have hown : ∀ {a : Addr} {vs : List Value} {n : Nat}, (a, W.listOf vs.toArray n) ∈ pool' → ∀ q ∈ own, q.1 ≠ a := fun h q hq => hoff _ (mem_lj h) q hq
        have fin : ∀ {ond2 : Obj} {kN2 : List (Str × Value)} {pool2 : List (Addr × Obj)} {a : Addr} {vs : List Value} {n : Nat} {h' : Heap} {tk' : Nat} {m'}, NP prog w (4 * rules.length + 1 + j) (othA D0 pl pn pm nd E fx) ((rules ++ [(nm, ss)]).head?.map (·.1)) (nm :: rules.map (·.1)) kT ond2 kN2 pool2 → Apart (LJ D0 oD pl (W.listOf (p0 :: ps).toArray k) pn opn pm opm nd ond2 E pool2 fx) own →
            (a, W.listOf vs.toArray n) ∈ pool2 → vs.length ≤ 4 * rules.length + 1 + j → Fr g L h' m' → News g L h' ((LJ D0 oD pl (W.listOf (p0 :: ps).toArray k) pn opn pm opm nd ond2 E pool2 (fx ++ own)).map (put a (W.listOf (vs ++ [Value.int ((p0 :: ps).length : Nat) tp]).toArray (n + 1)))) → (∀ y ∈ sVARS, m' y = m0 y) →
            EndG g L (fun m news => ∃ ond' kN' pool', news = LJ D0 oD pl (W.listOf (p0 :: ps).toArray k) pn opn pm opm nd ond' E pool' fx ∧ NP prog w (4 * rules.length + 1 + (j + 1)) (othA D0 pl pn pm nd E fx) ((rules ++ [(nm, ss)]).head?.map (·.1)) (nm :: rules.map (·.1)) kT ond' kN' pool' ∧ ∀ y ∈ sVARS, m y = m0 y) own { s with heap := h, toks := tk } { s with heap := h', toks := tk' } := by
          intro ond2 kN2 pool2 a vs n h' tk' m' P hoff hm hv F N hk
          rw [lj_put (P.off _ hm) (fun q hq => hoff _ (mem_lj hm) q hq)] at N
          refine EndG.mk (LJ D0 oD pl (W.listOf (p0 :: ps).toArray k) pn opn pm opm nd ond2 E (pool2.map (put a _)) fx) F N (by rw [lj_app]; exact fun _ h => h) (hoff.same lj_fst) ⟨_, _, _, rfl, P.put ?_, hk⟩
          rw [List.length_append]; exact Nat.succ_le_succ hv
        have keepT : ∀ y ∈ sVARS, (if y = "t" then some (Value.str z u) else m₁ y) = m0 y := fun y hy => (if_neg ((by decide : ∀ y ∈ sVARS, y ≠ "t") y hy)).trans (hk y hy)
        by_cases hzn : z ∈ sNAMES
        · have hinT : (valueAt kT z).isSome = false := by
            rw [valueAt_isSome_eq_any]
            refine List.any_eq_false.mpr fun q hq e => ?_
            have e := of_decide_eq_true e
            have : q.1 ∈ sK1 := hkT ▸ List.mem_map_of_mem hq
            rw [e] at this
            exact (by decide : ∀ z ∈ sNAMES, z ∉ sK1) _ hzn this
          have hNo := P.hN
          by_cases hkz : z ∈ kN'.map (·.1)
          · obtain ⟨a, vs, na, hva, hma, hvl⟩ := P.get hkz
            have hin : (valueAt kN' z).isSome = true := by rw [hva]; rfl
            unfold LJ at N hxl hdxl htdl
            (try ((with_reducible show wpAny _ _ _ _ _ _); k_fold)); k_steps
            rename Fr _ _ _ _ => F
            replace N : News g L _ (LJ D0 oD pl (W.listOf (p0 :: ps).toArray k) pn opn pm opm nd ond' E pool' (fx ++ own)) := N
            refine unhalt ?_
            refine append_put F N (mem_lj hma) (by omega) fun h' F N => ?_
            (try ((with_reducible show wpAny _ _ _ _ _ _); k_fold)); k_steps
            rename Fr _ _ _ _ => F
            exact StepG.next (fin P hoff hma hvl (Fr.unsay (Fr.unsay F ((if_neg (by decide)).trans ((if_neg (by decide)).trans ((hk _ (by decide)).trans g9)))) ((if_neg (by decide)).trans ((hk _ (by decide)).trans g1))) N keepT)
          · have hin : (valueAt kN' z).isSome = false := by
              rw [valueAt_isSome_eq_any]
              refine List.any_eq_false.mpr fun q hq e => hkz ?_
              exact (of_decide_eq_true e) ▸ List.mem_map_of_mem hq
            have hNl := P.len
            have hNz : kN'.length ≤ sizeLine := by rw [sizeLine_eq]; omega
            have c2 : ∀ q ∈ pool', q.1 ≠ nd := fun q hq => (othA_off (P.off q hq)).2.2.2.2.1.symm
            have c4 : ∀ q ∈ own, q.1 ≠ nd := fun q hq => hoff (nd, ond') (.tail _ (.tail _ (.tail _ (.tail _ (.head _))))) q hq
            unfold LJ at N hxl hdxl htdl
            (try ((with_reducible show wpAny _ _ _ _ _ _); k_fold)); k_steps
            rename Obj.IsDictOf _ _ (stored _ _ _) => hd'
            rename AllLt _ _ => l1
            rename News _ _ _ _ => N
            rename Fr _ _ _ _ => F
            rename_i l2 _ _ _ _ _ _ o2 _ _
            obtain ⟨q1, q2, q3, q4, q5, q6⟩ := l1
            have q6 := kst_ltOf q6
            have P2 := (P.add (n := 0) hzn hkz hd' (othA_not (Nat.ne_of_lt q1) (Nat.ne_of_lt q2) (Nat.ne_of_lt q3) (Nat.ne_of_lt q4) (Nat.ne_of_lt q5) (fun q hq => Nat.ne_of_lt (q6 q (List.mem_append_left _ hq))) (fun q hq => Nat.ne_of_lt (q6 q (List.mem_append_right _ (List.mem_append_right _ (List.mem_append_left _ hq)))))) (hd' := (rules ++ [(nm, ss)]).head?.map (·.1)) (fun y hy => .inr (P.head y hy))).less (ks' := nm :: rules.map (·.1)) (fun _ h => .tail _ h)
            have hoff2 := lj_apart (ond' := o2) (ol := W.listOf #[] 0) hoff (fun q hq => Nat.ne_of_lt (q6 q (List.mem_append_right _ (List.mem_append_right _ (List.mem_append_right _ hq)))))
            replace N := News_sub N (news' := LJ D0 oD pl (W.listOf (p0 :: ps).toArray k) pn opn pm opm nd o2 E ((l2, W.listOf #[] 0) :: pool') (fx ++ own)) (by unfold LJ; walk_at "m_sub")
            obtain ⟨pool2, hp2⟩ : ∃ p, p = (l2, W.listOf #[] 0) :: pool' := ⟨_, rfl⟩
            rw [← hp2] at N P2 hoff2
            obtain ⟨a, vs, na, hva, hma, hvl⟩ := P2.get (z := z) (by rw [stored_new hkz, List.map_append]; exact List.mem_append_right _ (.head _))
            unfold LJ at N
            (try ((with_reducible show wpAny _ _ _ _ _ _); k_fold)); k_steps
            rename Fr _ _ _ _ => F
            refine unhalt ?_
            replace N : News g L _ (LJ D0 oD pl (W.listOf (p0 :: ps).toArray k) pn opn pm opm nd o2 E pool2 (fx ++ own)) := N
            refine append_put F N (mem_lj hma) (by omega) fun h' F N => ?_
            (try ((with_reducible show wpAny _ _ _ _ _ _); k_fold)); k_steps
            rename Fr _ _ _ _ => F
            exact StepG.next (fin P2 hoff2 hma hvl (Fr.unsay (Fr.unsay F ((if_neg (by decide)).trans ((if_neg (by decide)).trans ((hk _ (by decide)).trans g9)))) ((if_neg (by decide)).trans ((hk _ (by decide)).trans g1))) N keepT)
        · obtain ⟨a, vs, na, hva, hma, hvl⟩ := P.getT (z := z) ((by decide : ∀ t ∈ (["a", "b", "c"] : List Str), t ∈ sK1) z (sym_term hz' hzn))
          have hin : (valueAt kT z).isSome = true := by rw [hva]; rfl
          unfold LJ at N hxl hdxl htdl
          (try ((with_reducible show wpAny _ _ _ _ _ _); k_fold)); k_steps
          rename Fr _ _ _ _ => F
          replace N : News g L _ (LJ D0 oD pl (W.listOf (p0 :: ps).toArray k) pn opn pm opm nd ond' E pool' (fx ++ own)) := N
          refine unhalt ?_
          refine append_put F N (mem_lj hma) (by omega) fun h' F N => ?_
          (try ((with_reducible show wpAny _ _ _ _ _ _); k_fold)); k_steps
          rename Fr _ _ _ _ => F
          exact StepG.next (fin P hoff hma hvl (Fr.unsay (Fr.unsay F ((if_neg (by decide)).trans ((if_neg (by decide)).trans ((hk _ (by decide)).trans g9)))) ((if_neg (by decide)).trans ((hk _ (by decide)).trans g1))) N keepT)
      · clear P N F
        rintro h tk m₁ news₁ ⟨ond', kN', pool', rfl, P, hk⟩ F N
        have F := Fr_say F (x := "self") ((hk _ (by decide)).trans g1)
        have F := Fr_say F (x := "prodname") ((if_neg (by decide)).trans ((hk _ (by decide)).trans g2))
        have F := Fr_say F (x := "syms") ((if_neg (by decide)).trans ((if_neg (by decide)).trans ((hk _ (by decide)).trans g3)))
        have F := Fr_say F (x := "func") ((if_neg (by decide)).trans ((if_neg (by decide)).trans ((if_neg (by decide)).trans ((hk _ (by decide)).trans g4))))
        have F := Fr_say F (x := "file") ((if_neg (by decide)).trans ((if_neg (by decide)).trans ((if_neg (by decide)).trans ((if_neg (by decide)).trans ((hk _ (by decide)).trans g5)))))
        have F := Fr_say F (x := "line") ((if_neg (by decide)).trans ((if_neg (by decide)).trans ((if_neg (by decide)).trans ((if_neg (by decide)).trans ((if_neg (by decide)).trans ((hk _ (by decide)).trans g6))))))
        have F := Fr_say F (x := "prodprec") ((if_neg (by decide)).trans ((if_neg (by decide)).trans ((if_neg (by decide)).trans ((if_neg (by decide)).trans ((if_neg (by decide)).trans ((if_neg (by decide)).trans ((hk _ (by decide)).trans g7)))))))
        have F := Fr_say F (x := "map") ((if_neg (by decide)).trans ((if_neg (by decide)).trans ((if_neg (by decide)).trans ((if_neg (by decide)).trans ((if_neg (by decide)).trans ((if_neg (by decide)).trans ((if_neg (by decide)).trans ((hk _ (by decide)).trans g8))))))))
        have F := Fr_say F (x := "pnumber") ((if_neg (by decide)).trans ((if_neg (by decide)).trans ((if_neg (by decide)).trans ((if_neg (by decide)).trans ((if_neg (by decide)).trans ((if_neg (by decide)).trans ((if_neg (by decide)).trans ((if_neg (by decide)).trans ((hk _ (by decide)).trans g9)))))))))
        replace AP := AP.pool P.off
        have lsl : (sl, W.listOf ws.toArray n) ∈ LJ D0 oD pl (W.listOf (p0 :: ps).toArray k) pn opn pm opm nd ond' E pool' fx := mem_ljr hsl
        (try ((with_reducible show wpAny _ _ _ _ _ _); k_fold)); k_steps
        rename Fr _ _ _ _ => F
        refine wpAny_call ?_
        refine make_A (fI := 62) F N (X.keeps F.keep) (by k_is) (by k_is) (by k_is) fun xp dp h' F N lx ld => ?_
        have hslm : (sl, W.listOf ws.toArray n) ∈ (xp, instObj 100 dp) :: (dp, dictOf [] 0) :: LJ D0 oD pl (W.listOf (p0 :: ps).toArray k) pn opn pm opm nd ond' E pool' fx := .tail _ (.tail _ lsl)
        refine' t_pinit (dp := dp_ + 2) (un := un + 4) X T ?qs ?qr ?qu (N _ (.head _)).1 (N _ (.tail _ (.head _))).1 (N _ hslm).1 hS hrs hr3 ?qn (N _ (.head _)).2.2 (N _ (.tail _ (.head _))).2.2 (N _ hslm).2.2 ld (lx _ lsl) (.inl rfl) ?_
        case qs => exact F.keep
        case qr => omega
        case qu => omega
        case qn => exact Nat.le_trans ((by decide : ∀ z ∈ sNAMES, z.length ≤ 1) nm hrn) (by omega)
        intro h' tk' es' ep' D tD kk hdp hnm hprod hD1 hDn
        refine ⟨rfl, ?_⟩
        obtain ⟨F, N, neD⟩ := after_init F N lx ld kk hdp hD1 hDn
        have AP2 := AP.add (a := D0) (o := oD) (by
          rintro q (rfl | rfl | rfl | rfl | ⟨p, hp, rfl⟩ | ⟨p, hp, rfl⟩)
          · exact b4
          · exact b3
          · exact b2
          · exact b1
          · exact hD _ (.tail _ (.tail _ (.tail _ (.tail _ (List.mem_append_left _ hp)))))
          · exact (othA_off (P.off p hp)).1)
        have hlj : ∀ q : Addr, (q = pl ∨ q = pn ∨ q = pm ∨ q = nd ∨ (∃ p ∈ eLed E, p.1 = q) ∨ ∃ p ∈ pool', p.1 = q) → ∃ o, (q, o) ∈ LJ D0 oD pl (W.listOf (p0 :: ps).toArray k) pn opn pm opm nd ond' E pool' fx := by
          rintro q (rfl | rfl | rfl | rfl | ⟨p, hp, rfl⟩ | ⟨p, hp, rfl⟩)
          · exact ⟨_, .tail _ (.head _)⟩
          · exact ⟨_, .tail _ (.tail _ (.head _))⟩
          · exact ⟨_, .tail _ (.tail _ (.tail _ (.head _)))⟩
          · exact ⟨_, .tail _ (.tail _ (.tail _ (.tail _ (.head _))))⟩
          · exact ⟨p.2, .tail _ (.tail _ (.tail _ (.tail _ (.tail _ (List.mem_append_left _ hp)))))⟩
          · exact ⟨p.2, mem_lj hp⟩
        replace AP2 := AP2.add (a := dp) (o := dictOf es' ep') fun q hq => let ⟨o, ho⟩ := hlj q hq; Nat.ne_of_gt (lx _ ho)
        replace AP2 := AP2.add (a := xp) (o := instObj 100 dp) fun q hq => let ⟨o, ho⟩ := hlj q hq; Nat.ne_of_gt (Nat.lt_trans (lx _ ho) ld)
        replace AP2 := AP2.add (a := D) (o := tupOf ws 0) fun q hq => let ⟨o, ho⟩ := hlj q hq; neD _ (.tail _ (.tail _ ho))
        obtain ⟨f3, hf3⟩ : ∃ f, f = (D, tupOf ws 0) :: (xp, instObj 100 dp) :: (dp, dictOf es' ep') :: (D0, oD) :: fx := ⟨_, rfl⟩
        obtain ⟨c3, hc3⟩ : ∃ f, f = (D, tupOf ws 0) :: (xp, instObj 100 dp) :: (dp, dictOf es' ep') :: (D0, oD) :: fc := ⟨_, rfl⟩
        rw [← hf3] at AP2
        have sub3 : ∀ q ∈ fx, q ∈ f3 := fun q hq => by rw [hf3]; exact .tail _ (.tail _ (.tail _ (.tail _ hq)))
        have subc : ∀ q ∈ fc, q ∈ c3 := fun q hq => by rw [hc3]; exact .tail _ (.tail _ (.tail _ (.tail _ hq)))
        have subc3 : ∀ q ∈ c3, q ∈ f3 := by rw [hc3, hf3, hfx]; exact four_le
        have hprodin : ProdIn c3 (.ref xp) (nm, ss) := ⟨xp, dp, es', ep', tD, D, 0, ws, rfl, by rw [hc3]; exact .tail _ (.head _), by rw [hc3]; exact .tail _ (.tail _ (.head _)), hnm, hprod, by rw [hc3]; exact .head _, hS⟩
        have hljL : (Lw, oL) ∈ LJ D0 oD pl (W.listOf (p0 :: ps).toArray k) pn opn pm opm nd ond' E pool' fx := mem_ljr hLm
        have hLc3 : ∀ q ∈ c3, q.1 ≠ Lw := fun q hq => by
          rw [hc3] at hq
          rcases List.mem_cons.mp hq with rfl | hq
          · exact neD _ (.tail _ (.tail _ hljL))
          · rcases List.mem_cons.mp hq with rfl | hq
            · exact Nat.ne_of_gt (Nat.lt_trans (lx _ hljL) ld)
            · rcases List.mem_cons.mp hq with rfl | hq
              · exact Nat.ne_of_gt (lx _ hljL)
              · rcases List.mem_cons.mp hq with rfl | hq
                · exact hD _ (.tail _ (.tail _ (.tail _ (.tail _ (List.mem_append_right _ (List.mem_append_right _ hLm))))))
                · exact hLc q hq
        replace N := News_sub N (news' := gLed pl pn pm nd p0 ps k opn opm ond' E pool' f3) (by rw [hf3]; exact gLed_lj)
        have hL3 : (Lw, oL) ∈ f3 := sub3 _ hLm
        have hLg : ∀ q ∈ gLed pl pn pm nd p0 ps k opn opm ond' E pool' c3, q.1 ≠ Lw := by
          have z := AP2.f _ hL3
          exact gLed_all z.1.symm z.2.1.symm z.2.2.1.symm z.2.2.2.symm (fun q hq => (AP2.ef _ hq _ hL3).symm) (fun q hq => (AP2.pf _ hq _ hL3).symm) hLc3
        have AP3 : GA pl pn pm nd E pool' c3 := { AP2 with f := fun q hq => AP2.f q (subc3 q hq), ef := fun q hq p hp => AP2.ef q hq p (subc3 p hp), pf := fun q hq p hp => AP2.pf q hq p (subc3 p hp) }
        have hx3 := sub3 _ hx
        have hdx3 := sub3 _ hdx
        have hxg : (x, instObj 248 dx) ∈ gLed pl pn pm nd p0 ps k opn opm ond' E pool' f3 := .tail _ (.tail _ (.tail _ (.tail _ (List.mem_append_right _ (List.mem_append_right _ hx3)))))
        have hdxg : (dx, dictOf es ep) ∈ gLed pl pn pm nd p0 ps k opn opm ond' E pool' f3 := .tail _ (.tail _ (.tail _ (.tail _ (List.mem_append_right _ (List.mem_append_right _ hdx3)))))
        (try ((with_reducible show wpAny _ _ _ _ _ _); k_fold)); k_steps
        rename Fr _ _ _ _ => F
        rename News _ _ _ _ => N
        refine unhalt ?_
        replace N : News g L _ (gLed pl pn pm nd p0 ps k opn opm ond' E pool' f3) := N
        refine append_put F N (.head _) (by rw [List.length_cons]; omega) fun h' F N => ?_
        rw [gled_pl AP2] at N
        have e1 : ∀ q ∈ eLed E, q.1 ≠ pm := fun q hq => (AP2.e q hq).2.2.1
        have e2 : ∀ q ∈ pool', q.1 ≠ pm := fun q hq => (AP2.p q hq).2.2.1
        have e3 : ∀ q ∈ f3, q.1 ≠ pm := fun q hq => (AP2.f q hq).2.2.1
        have hE := M.hE
        have hmn := M.mn
        have hkM : kM.length ≤ sizeLine := by
          have := congrArg List.length M.keysM
          rw [List.length_map, List.length_map] at this
          rw [sizeLine_eq]; omega
        unfold gLed at N
        have hxg : (x, instObj 248 dx) ∈ eLed E ++ (pool' ++ f3) := List.mem_append_right _ (List.mem_append_right _ hx3)
        have hdxg : (dx, dictOf es ep) ∈ eLed E ++ (pool' ++ f3) := List.mem_append_right _ (List.mem_append_right _ hdx3)
        have hmk0 : mk ∉ kM.map (·.1) := fun q => by
          obtain ⟨v, e, _⟩ := mem_valueAt q
          rw [e] at hM0; cases hM0
        by_cases hnE : nm ∈ E.map (·.1)
        · obtain ⟨a, we, ne, hme, hva⟩ := ent_of hnE
          have hal : (a, W.listOf we.toArray ne) ∈ eLed E := List.mem_map_of_mem (f := fun e : Ent => (e.2.1, W.listOf e.2.2.1.toArray e.2.2.2)) hme
          have hwl : we.length ≤ 16384 := by
            have h1 : we.length = (rules.filter fun r => r.1 = nm).length := (M.prodn _ hme).length
            have h2 : (rules.filter fun r => r.1 = nm).length ≤ rules.length := List.length_filter_le _ _
            omega
          (try ((with_reducible show wpAny _ _ _ _ _ _); k_fold)); k_steps
          rename Fr _ _ _ _ => F
          rename News _ _ _ _ => N
          rename Obj.IsDictOf _ _ (stored kM _ _) => hd'
          refine gen_dict hd' fun opm2 ho2 => ?_
          subst ho2
          refine unhalt ?_
          replace N : News g L _ (gLed pl pn pm nd p0 (ps ++ [Value.ref xp]) (k + 1) opn opm2 ond' E pool' f3) := N
          refine append_put F N (.tail _ (.tail _ (.tail _ (.tail _ (List.mem_append_left _ hal))))) hwl fun h' F N => ?_
          rw [gled_e AP2 hal] at N
          (try ((with_reducible show wpAny _ _ _ _ _ _); k_fold)); k_steps
          rename Fr _ _ _ _ => F
          obtain ⟨x1, x2, x3⟩ := e_more Mc AP3.nE subc hprodin hme
          have N2 := News_sub N (news' := gLed pl pn pm nd p0 (ps ++ [Value.ref xp]) (k + 1) opn opm2 ond' (E.map (putE a (we ++ [Value.ref xp]) (ne + 1))) pool' c3) (gLed_all (.head _) (.tail _ (.head _)) (.tail _ (.tail _ (.head _))) (.tail _ (.tail _ (.tail _ (.head _)))) (fun q hq => .tail _ (.tail _ (.tail _ (.tail _ (List.mem_append_left _ hq))))) (fun q hq => .tail _ (.tail _ (.tail _ (.tail _ (List.mem_append_right _ (List.mem_append_left _ hq)))))) (fun q hq => .tail _ (.tail _ (.tail _ (.tail _ (List.mem_append_right _ (List.mem_append_right _ (subc3 q hq))))))))
          refine post _ _ _ oL.slots (I.kp F) (News.get N (.tail _ (.tail _ (.tail _ (.tail _ (List.mem_append_right _ (List.mem_append_right _ hL3))))))) (I.left N2) ?_
            ⟨_, _, opn, opm2, ond', _, _, kN', kT, pool', c3, rfl, gm_next Mc (P.mono (Nat.le_refl _)) subc (by rw [List.length_append]; show _ ≤ 4 * (rules.length + 1) + 1; omega) hprodin hd' hmk hmk0 (by rw [eKvs_put]; exact hE) x1 x2 x3, AP3.more_e, GFc.mono subc⟩
          have z := AP2.f _ hL3
          refine gLed_all z.1.symm z.2.1.symm z.2.2.1.symm z.2.2.2.symm (fun q hq => ?_) (fun q hq => (AP2.pf _ hq _ hL3).symm) hLc3
          · rw [← eLed_put] at hq
            obtain ⟨q', hq', e⟩ := List.mem_map.mp (show q.1 ∈ (eLed E).map (·.1) from by rw [← put_fst (a := a) (o := W.listOf (we ++ [Value.ref xp]).toArray (ne + 1))]; exact List.mem_map_of_mem hq)
            rw [← e]; exact (AP2.ef _ hq' _ hL3).symm
        · have hvE : valueAt (eKvs E) nm = none := valueAt_none_of_not_mem (by rw [eKvs_keys]; exact hnE)
          (try ((with_reducible show wpAny _ _ _ _ _ _); k_fold)); k_steps
          rename Fr _ _ _ _ => F
          rename News _ _ _ _ => N
          rename Obj.IsDictOf _ _ (stored kM _ _) => hd'
          refine gen_dict hd' fun opm2 ho2 => ?_
          subst ho2
          have hpnm : (pn, opn) ∈ (pl, W.listOf (p0 :: (ps ++ [Value.ref xp])).toArray (k + 1)) :: (pn, opn) :: (pm, opm2) :: (nd, ond') :: (eLed E ++ (pool' ++ f3)) := .tail _ (.head _)
          refine wpAny_getItem_missing_of (knd := PySem.strKind prog w) (k := nm) (strKind_is _ _ _ _) hmn rfl (kda_dict N hpnm hE).mapOf hvE fun h' e hx => ?_
          replace N := News_sub N (news' := gLed pl pn pm nd p0 (ps ++ [Value.ref xp]) (k + 1) opn opm2 ond' E pool' c3 ++ [(Lw, oL)]) (sub_app (gLed_all (.head _) (.tail _ (.head _)) (.tail _ (.tail _ (.head _))) (.tail _ (.tail _ (.tail _ (.head _)))) (fun q hq => .tail _ (.tail _ (.tail _ (.tail _ (List.mem_append_left _ hq))))) (fun q hq => .tail _ (.tail _ (.tail _ (.tail _ (List.mem_append_right _ (List.mem_append_left _ hq)))))) (fun q hq => .tail _ (.tail _ (.tail _ (.tail _ (List.mem_append_right _ (List.mem_append_right _ (subc3 q hq)))))))) (sub_cons (.tail _ (.tail _ (.tail _ (.tail _ (List.mem_append_right _ (List.mem_append_right _ hL3)))))) sub_nil))
          refine TLg.noted_new1 rfl Fs hx F N (allNe_of ?_) fun h' slx Fs' Hd => ?_
          · have z := AP2.f _ hL3
            exact gLed_all z.1.symm z.2.1.symm z.2.2.1.symm z.2.2.2.symm (fun q hq => hLg q (.tail _ (.tail _ (.tail _ (.tail _ (List.mem_append_left _ hq)))))) (fun q hq => hLg q (.tail _ (.tail _ (.tail _ (.tail _ (List.mem_append_right _ (List.mem_append_left _ hq))))))) hLc3
          refine TT.HeldNA.land Hd fun h' Hd => ?_
          refine clause_hitK Hd X T (by k_is) PyProof.Rows.Boot.«KeyError» kr_isExc_KeyError kr_notTuple_KeyError (by rw [isSubtype_type]; kernel_rfl) fun h' F N => ?_
          simp only [gLed, List.cons_append, List.append_assoc] at N
          replace N : News g L _ ((pl, W.listOf (p0 :: (ps ++ [Value.ref xp])).toArray (k + 1)) :: (pn, opn) :: (pm, opm2) :: (nd, ond') :: (eLed E ++ (pool' ++ (c3 ++ [(Lw, { oL with slots := slx })])))) := N
          have hxe : (x, instObj 248 dx) ∈ (pl, W.listOf (p0 :: (ps ++ [Value.ref xp])).toArray (k + 1)) :: (pn, opn) :: (pm, opm2) :: (nd, ond') :: (eLed E ++ (pool' ++ (c3 ++ [(Lw, { oL with slots := slx })]))) := .tail _ (.tail _ (.tail _ (.tail _ (List.mem_append_right _ (List.mem_append_right _ (List.mem_append_left _ (subc _ GFc.hx)))))))
          have hdxe : (dx, dictOf es ep) ∈ (pl, W.listOf (p0 :: (ps ++ [Value.ref xp])).toArray (k + 1)) :: (pn, opn) :: (pm, opm2) :: (nd, ond') :: (eLed E ++ (pool' ++ (c3 ++ [(Lw, { oL with slots := slx })]))) := .tail _ (.tail _ (.tail _ (.tail _ (List.mem_append_right _ (List.mem_append_right _ (List.mem_append_left _ (subc _ hdxc)))))))
          have r1 : ∀ q ∈ eLed E, q.1 ≠ pn := fun q hq => (AP3.e q hq).2.1
          have r2 : ∀ q ∈ pool', q.1 ≠ pn := fun q hq => (AP3.p q hq).2.1
          have r3 : ∀ q ∈ c3, q.1 ≠ pn := fun q hq => (AP3.f q hq).2.1
          have r4 : @Ne Nat Lw pn := (AP2.f _ hL3).2.1
          have hkE : (eKvs E).length ≤ sizeLine := by
            have := nodup_len (m := sNAMES) (dict_nodup hE) (fun z hz => M.keysE z (eKvs_keys E ▸ hz))
            rw [List.length_map] at this
            have h3 : sNAMES.length = 3 := rfl
            rw [sizeLine_eq]; omega
          (try ((with_reducible show wpAny _ _ _ _ _ _); k_fold)); k_steps
          rename Fr _ _ _ _ => F
          rename News _ _ _ _ => N
          rename Obj.IsDictOf _ _ (stored (eKvs E) _ _) => hdE
          rename AllLt _ _ => l1
          refine gen_dict hdE fun opn2 ho2 => ?_
          subst ho2
          refine News.hdName N fun l2 hl2 => ?_
          subst hl2
          obtain ⟨y1, y2, y3, y4, y5⟩ := l1
          have y5 := kst_ltOf y5
          obtain ⟨x1, x2, x3⟩ := e_new (l := l2) (n := 0) Mc subc hprodin hrn hnE
          have yL : l2 ≠ Lw := Nat.ne_of_gt (y5 _ (List.mem_append_right _ (List.mem_append_right _ (List.mem_append_right _ (.head _)))))
          have ekE : eKvs (E ++ [(nm, l2, [Value.ref xp], 0)]) = stored (eKvs E) nm (.ref l2) := by rw [stored_new (by rw [eKvs_keys]; exact hnE), eKvs_app]; rfl
          have N2 := News_sub N (news' := gLed pl pn pm nd p0 (ps ++ [Value.ref xp]) (k + 1) opn2 opm2 ond' (E ++ [(nm, l2, [Value.ref xp], 0)]) pool' c3) (gLed_all (.tail _ (.head _)) (.tail _ (.tail _ (.head _))) (.tail _ (.tail _ (.tail _ (.head _)))) (.tail _ (.tail _ (.tail _ (.tail _ (.head _))))) (by rw [eLed_app]; exact sub_app (fun q hq => .tail _ (.tail _ (.tail _ (.tail _ (.tail _ (List.mem_append_left _ hq)))))) (sub_cons (.head _) sub_nil)) (fun q hq => .tail _ (.tail _ (.tail _ (.tail _ (.tail _ (List.mem_append_right _ (List.mem_append_left _ hq))))))) (fun q hq => .tail _ (.tail _ (.tail _ (.tail _ (.tail _ (List.mem_append_right _ (List.mem_append_right _ (List.mem_append_left _ hq)))))))))
          refine post _ _ _ slx (I.kp F) (News.get N (.tail _ (.tail _ (.tail _ (.tail _ (.tail _ (List.mem_append_right _ (List.mem_append_right _ (List.mem_append_right _ (.head _)))))))))) (I.left N2) ?_
            ⟨_, _, opn2, opm2, ond', _, _, kN', kT, pool', c3, rfl, gm_next Mc (P.mono (Nat.le_refl _)) subc (by rw [List.length_append]; show _ ≤ 4 * (rules.length + 1) + 1; omega) hprodin hd' hmk hmk0 (by rw [ekE]; exact hdE) x1 x2 x3,
              AP3.new_e ⟨Nat.ne_of_gt y1, Nat.ne_of_gt y2, Nat.ne_of_gt y3, Nat.ne_of_gt y4⟩ (fun q hq => Nat.ne_of_lt (y5 q (List.mem_append_left _ hq))) (fun q hq => Nat.ne_of_lt (y5 q (List.mem_append_right _ (List.mem_append_left _ hq)))) (fun q hq => Nat.ne_of_lt (y5 q (List.mem_append_right _ (List.mem_append_right _ (List.mem_append_left _ hq))))), GFc.mono subc⟩
          have z := AP2.f _ hL3
          refine gLed_all z.1.symm z.2.1.symm z.2.2.1.symm z.2.2.2.symm ?_ (fun q hq => (AP2.pf _ hq _ hL3).symm) hLc3
          rw [eLed_app]
          exact List.forall_mem_append.mpr ⟨fun q hq => (AP2.ef _ hq _ hL3).symm, List.forall_mem_singleton.mpr yL⟩
end Add
theorem unreg_MAdd : True := by
  k_with_none
  (k_with "m_S" => ((goal_lacks PySem.Heap.push); (fail_if_success (goal_lacks PySem.Shared.mk)); (with_reducible refine (?_ : wpAny _ _ _ _ _ (SH _ _))); (try ((fail_if_success (goal_lacks PySem.Shared.toks)); (with_reducible refine genT (S := SH) ?_); intro _))))
  (k_with "m_U" => (k_extra "m_S"; first | walk1 | (dsimp only; walk1)))
  (k_with "m_enter" => ((
    case ho => k_is
    case hcd => k_is
    case hb => first | exact BindsTo.of_eq rfl | exact binds_K (by assumption) rfl (by k_is) rfl rfl rfl
    case hl => exact locs rfl
    case hc => decide
    case h1 => exact rfl
    case h2 => exact rfl
    case h3 => exact rfl)))
  (k_with "m_enterC" => ((
    case ho => k_is
    case hcd => k_is
    case hb => first | exact BindsTo.of_eq rfl | exact binds_K (by assumption) rfl (by k_is) rfl rfl rfl
    case hl => exact rfl
    case hn => decide +kernel
    case h1 => exact rfl
    case h2 => exact rfl
    case h3 => exact rfl)))
  (k_with "eval ListComp" => (((fail_if_success (with_reducible rename NoHalt => nh')); refine halt ?_)))
  (k_with "eval DictComp" => (((fail_if_success (with_reducible rename NoHalt => nh')); refine halt ?_)))
  (k_with "eval Name" => (k_dflt ((with_reducible show wpAny _ _ (eval (Expr.Name _ _) (compEnvC _ _ _ _)) _ _ _); refine' comp_cell ?xq5 ?Nq5 ?cq5 ?mq5 ?dq5 ?_ ?kq5 ?bq5; (case xq5 => exact rfl); (case Nq5 => k_asm); (case cq5 => exact rfl); (case mq5 => k_mem); (case dq5 => k_asm); (case kq5 => exact rfl); (case bq5 => decide))))
  (k_with "eval Name" => (k_dflt ((with_reducible show wpAny _ _ (eval (Expr.Name _ _) (compEnvC _ _ _ _)) _ _ _); refine' comp_local ?xq6 ?Nq6 ?cq6 ?_ ?kq6 ?bq6; (case xq6 => exact rfl); (case Nq6 => k_asm); (case cq6 => exact rfl); (case kq6 => exact rfl); (case bq6 => decide))))
  (k_with "m_tail" => (first
    | exact fun _ h => h
    | ((with_reducible refine sub_tl ?_); k_extra "m_tail")
    | ((with_reducible refine sub_lf ?_); k_extra "m_tail")
    | ((with_reducible refine sub_rt ?_); k_extra "m_tail")))
  (k_with "m_in" => (first
    | exact List.Mem.head _
    | assumption
    | ((refine List.Mem.tail _ ?_); k_extra "m_in")
    | ((refine List.mem_append_left _ ?_); k_extra "m_in")
    | ((refine List.mem_append_right _ ?_); k_extra "m_in")))
  (k_with "m_sub1" => (first
    | exact sub_nil
    | ((with_reducible refine sub_cons ?_ ?_); k_extra "m_in"; k_extra "m_sub1")
    | ((with_reducible refine sub_app ?_ ?_); k_extra "m_sub1"; k_extra "m_sub1")
    | k_extra "m_tail"))
  (k_with "m_sub" => (((try dsimp only [List.cons_append, List.nil_append]); k_extra "m_sub1")))
  (k_with "m_k_ne" => ((refine neN ?_; (try dsimp only); first | assumption | exact Ne.symm (by assumption) | exact Nat.ne_of_lt (by assumption) | exact Nat.ne_of_gt (by assumption) | exact all_ne (by assumption) (by k_mem) | exact Ne.symm (all_ne (by assumption) (by k_mem)) | exact ne_lt2 (by assumption) (by assumption) | exact Ne.symm (ne_lt2 (by assumption) (by assumption)) | (refine' News_ne_cls ?nqNq11 ?nqaq11 ?nqbq11 ?nqcq11; (case nqNq11 => k_asm); (case nqaq11 => k_mem); (case nqbq11 => k_mem); (case nqcq11 => rfl)) | omega)))
  (k_with "exec While BoolOp cons nil" => (refine halt ?_))
  (k_with "exec While Constant cons nil" => (refine halt ?_))
  (k_with "exec While Compare cons nil" => (refine halt ?_))
  (k_with "compareOp NotIn ref ref" => (refine halt ?_))
  (k_with "compareOp In ref ref" => (refine halt ?_))
  (k_with "m_off" => (first | exact off_nil | ((refine off_cons ?_ ?_); k_all; k_extra "m_off")))
  (k_with "m_k_all" => (first | assumption | exact OwnOff.ne (by assumption) (by k_memK) | ((with_reducible refine List.forall_mem_append.mpr ⟨?_, ?_⟩); k_all; k_all) | ((with_reducible refine List.forall_mem_cons.mpr ⟨?_, ?_⟩); k_ne; k_all) | exact List.forall_mem_nil _ | fail "k_all"))
  (k_with "eval Name" => (k_dflt ((with_reducible show wpAny _ _ (eval (Expr.Name _ _) (compEnvC _ _ _ _)) _ _ _); refine' LCgL.ld_global ?qFq19 ?qXq19 ?qTq19 ?qeq19 ?_ ?qgq19 ?qkq19 ?qxq19 ?qdq19; (case qFq19 => k_asm); (case qXq19 => k_asm); (case qTq19 => k_asm); (case qeq19 => k_is); (case qgq19 => exact rfl); (case qkq19 => exact rfl); (case qxq19 => exact rfl); (case qdq19 => decide))))
  (k_with "m_clos" => ((
    case hclos => with_unfolding_all rfl
    case hcell => decide
    case hkind => rfl
    case hnames => decide
    case hx => rfl
    case hs => exact fun _ => rfl
    case hh => rfl)))
  (k_with "m_k_mem" => (k_dflt (first | assumption | (refine List.mem_append_left _ ?_; k_mem) | (refine List.mem_append_right _ ?_; k_mem))))
  (k_with "exec For Name Name cons nil" => (k_extra "m_for"))
  (k_with "exec For Name Name cons cons" => (k_extra "m_for"))
  (k_with "exec For Name Call cons nil" => (k_extra "m_for"))
  (k_with "exec For Name Attribute cons nil" => (k_extra "m_for"))
  (k_with "exec For Name Subscript cons nil" => (k_extra "m_for"))
  (k_with "exec For Tuple Name cons nil" => (k_extra "m_for"))
  (k_with "exec For Tuple Call cons nil" => (k_extra "m_for"))
  (k_with "m_slice" => (k_dflt ((with_reducible show wpAny _ _ (subscriptTail _ (PySem.Expr.Slice _ none none _) (Value.ref _) (Value.ref _)) _ _ _); first
    | (refine' r_sliceList1 ?k1q31 ?k2q31 ?k3q31 ?k4q31 ?_ ?k5q31 ?k6q31; (case k1q31 => k_asm); (case k2q31 => k_asm); (case k3q31 => k_extra "m_list"); (case k4q31 => k_extra "m_lt"); (case k5q31 => with_unfolding_all rfl); (case k6q31 => intro _; with_unfolding_all rfl); walk_at "i5")
    | (refine' r_sliceTup ?k1q31 ?k2q31 ?k3q31 ?k4q31 ?k5q31 ?k6q31 ?k7q31 ?_ ?k8q31 ?k9q31; (case k1q31 => k_asm); (case k2q31 => k_asm); (case k3q31 => k_extra "m_tup"); (case k4q31 => exact cast1 _); (case k5q31 => k_extra "m_lt"); (case k6q31 => k_extra "m_lt"); (case k7q31 => k_extra "m_lt"); (case k8q31 => with_unfolding_all rfl); (case k9q31 => intro _; with_unfolding_all rfl); walk_at "i5")
    | fail "m_slice")))
  (k_with "m_list" => (first | is_list | (refine' r_isList ?qiaq32 ?qibq32; (case qiaq32 => k_asm); (case qibq32 => k_mem))))
  (k_with "m_tup" => (first | is_tup | (refine' r_isTup ?qiaq33 ?qibq33; (case qiaq33 => k_asm); (case qibq33 => k_mem))))
  (k_with "call type:tuple" => (k_dflt ((with_reducible show wpAny _ _ (call (Value.type _) [Value.ref _]) _ _ _); (refine' r_tupleOf ?k1q34 ?k2q34 ?k3q34 ?k4q34 ?_; (case k1q34 => k_asm); (case k2q34 => k_asm); (case k3q34 => k_extra "m_list"); (case k4q34 => assumption); k_whole); walk_at "i5")))
  (k_with "m_len" => (first | assumption | omega | ((try simp only [List.length_append, List.length_cons, List.length_nil, List.length_map]); omega)))
  (k_with "call builtin:len" => (k_dflt ((with_reducible show wpAny _ _ (call (Value.builtin "len") [Value.ref _]) _ _ _); first
    | (refine' r_lenList ?k1q36 ?k2q36 ?_; (case k1q36 => k_extra "m_list"); (case k2q36 => k_extra "m_len"); k_whole)
    | (refine' r_lenTup ?k1q36 ?k2q36 ?_; (case k1q36 => k_extra "m_tup"); (case k2q36 => k_extra "m_len"); k_whole)
    | fail "len")))
  (k_with "truthy ref" => (k_dflt ((with_reducible show wpAny _ _ (truthy (Value.ref _)) _ _ _); first
    | (refine' r_truthyList ?k1q37 ?k2q37 ?_; (case k1q37 => k_extra "m_list"); (case k2q37 => k_extra "m_len"); k_whole)
    | (refine' r_truthyTup ?k1q37 ?k2q37 ?_; (case k1q37 => k_extra "m_tup"); (case k2q37 => k_extra "m_len"); k_whole)
    | (refine' r_truthyDict ?k1q37 ?k2q37 ?k3q37 ?k4q37 ?k5q37 ?_; (case k1q37 => k_asm); (case k2q37 => k_mem); (case k3q37 => k_asm); (case k4q37 => assumption); (case k5q37 => k_extra "m_len"); intro _)
    | fail "truthy")))
  (k_with "compareOp In str ref" => (k_dflt ((with_reducible show wpAny _ _ (compareOp CmpOp.In (Value.str _ _) (Value.ref _)) _ _ _); first
    | (refine' in_list_strs ?k1q38 ?k2q38 ?_; (case k1q38 => k_extra "m_list"); (case k2q38 => assumption); k_whole)
    | (refine' r_inTup ?k1q38 ?k2q38 ?_; (case k1q38 => k_extra "m_tup"); (case k2q38 => assumption); k_whole)
    | fail "in")))
  (k_with "compareOp NotIn str ref" => (k_dflt ((with_reducible show wpAny _ _ (compareOp CmpOp.NotIn (Value.str _ _) (Value.ref _)) _ _ _); first
    | (refine' notin_list_strs ?k1q39 ?k2q39 ?_; (case k1q39 => k_extra "m_list"); (case k2q39 => assumption); k_whole)
    | (refine' r_notinTup ?k1q39 ?k2q39 ?_; (case k1q39 => k_extra "m_tup"); (case k2q39 => assumption); k_whole)
    | fail "notin")))
  (k_with "m_k_units" => (first | omega | (simp only [Around.deeper, Around.in1, Around.mark] at *; omega)))
  (k_with "call builtin:all" => (k_dflt ((with_reducible show wpAny _ _ (call (Value.builtin "all") [Value.ref _]) _ _ _); (refine' all_strs ?khq41 ?kFq41 ?kNq41 ?kpq41 ?_; (case kFq41 => k_asm); (case kNq41 => k_asm); (case kpq41 => assumption); (case khq41 => rfl)); intro _ _ _ _; (try simp only []))))
  (k_with "m_lt" => (first | assumption | omega))
  (k_with "subscriptTail" => (k_dflt ((with_reducible show wpAny _ _ (subscriptTail _ _ (Value.ref _) (Value.int _ _)) _ _ _); (refine' r_itemList ?k1q43 ?k2q43 ?k3q43 ?k4q43 ?k5q43 ?_ ?k6q43; (case k1q43 => k_extra "m_list"); (case k2q43 => assumption); (case k3q43 => k_extra "m_lt"); (case k4q43 => k_extra "m_lt"); (case k5q43 => k_extra "m_lt"); (case k6q43 => exact rfl)); intro _ _ _)))
  (k_with "m_din" => (first | (with_reducible assumption) | assumption | exact (rfl : _ = true) | exact (rfl : _ = false) | exact rfl))
  (k_with "m_dat" => (first | assumption | exact rfl))
  (k_with "compareOp In str ref" => (k_dflt ((with_reducible show wpAny _ _ (compareOp CmpOp.In (Value.str _ _) (Value.ref _)) _ _ _); (refine' kda_in (knd := PySem.strKind _ _) ?k1q46 ?k2q46 ?k3q46 ?k4q46 (strKind_is _ _ _ _) _ ?k6q46 ?_; (case k1q46 => k_asm); (case k2q46 => k_mem); (case k3q46 => k_asm); (case k4q46 => first | (with_reducible assumption) | assumption); (case k6q46 => k_extra "m_din")))))
  (k_with "compareOp NotIn str ref" => (k_dflt ((with_reducible show wpAny _ _ (compareOp CmpOp.NotIn (Value.str _ _) (Value.ref _)) _ _ _); (refine' kdg_notin (knd := PySem.strKind _ _) ?k1q47 ?k2q47 ?k3q47 ?k4q47 (strKind_is _ _ _ _) _ ?k6q47 ?_; (case k1q47 => k_asm); (case k2q47 => k_mem); (case k3q47 => k_asm); (case k4q47 => first | (with_reducible assumption) | assumption); (case k6q47 => k_extra "m_din")))))
  (k_with "subscriptTail" => (((with_reducible show wpAny _ _ (subscriptTail _ _ (Value.ref _) (Value.str _ _)) _ _ _); k_dflt (refine' kdt_tail ?k1q48 ?k2q48 ?k3q48 ?_ ?k4q48; (case k1q48 => k_asm); (case k2q48 => k_mem); (case k3q48 => k_asm); (case k4q48 => exact rfl)))))
  (k_with "subscriptTail" => (k_dflt ((with_reducible show wpAny _ _ (subscriptTail _ _ (Value.ref _) (Value.str _ _)) _ _ _); (refine' kda_item (knd := PySem.strKind _ _) ?k1q49 ?k2q49 ?k3q49 (strKind_is _ _ _ _) ?k4q49 ?_; (case k1q49 => k_asm); (case k2q49 => k_mem); (case k3q49 => k_asm); (case k4q49 => k_extra "m_dat")))))
  (k_with "setItem ref str" => (k_dflt ((refine' kda_set (knd := PySem.strKind _ _) ?Fq50 ?Nq50 ?Uq50 ?dq50 (strKind_is _ _ _ _) ?zq50 ?_; (case Fq50 => k_asm); (case Nq50 => k_asm); (case Uq50 => k_updF); (case dq50 => k_asm); (case zq50 => first | assumption | (rw [sizeLine_eq]; exact Nat.le_of_ble_eq_true (by with_unfolding_all rfl)))); walk_at "i5d")))
  (k_with "getAttr ref" => (k_dflt (refine' get_own ?k1q51 ?k2q51 ?k3q51 ?k4q51 ?k5q51 ?k6q51 ?k7q51 ?k8q51 ?k9q51 ?_; (case k1q51 => k_asm); (case k2q51 => k_asm); (case k3q51 => k_inst); (case k8q51 => assumption); (case k4q51 => k_is); (case k5q51 => k_is); (case k6q51 => k_is); (case k7q51 => k_is); (case k9q51 => exact rfl))))
  (k_with "call builtin:str.join" => (k_dflt ((with_reducible show wpAny _ _ (call (Value.builtin "str.join") [Value.str _ _, Value.ref _]) _ _ _); (refine' r_joinTup ?k1q52 ?k2q52 ?k3q52 ?k4q52 ?k5q52 ?_; (case k1q52 => k_extra "m_tup"); (case k2q52 => assumption); (case k3q52 => assumption); (case k4q52 => assumption); (case k5q52 => decide)); intro _ _ _ _)))
  (k_with "getMethod ref" => (k_dflt (refine' method_inst ?k1q53 ?k2q53 ?k3q53 ?k4q53 ?k5q53 ?k6q53 ?k7q53 ?_; (case k1q53 => k_asm); (case k2q53 => k_asm); (case k3q53 => k_inst); (case k7q53 => assumption); (case k4q53 => k_is); (case k5q53 => k_is); (case k6q53 => k_is))))
  (k_with "getItem ref str" => (k_dflt ((with_reducible show wpAny _ _ (getItem (Value.ref _) (Value.str _ _)) _ _ _); (refine' kdt_getItem (knd := PySem.strKind _ _) ?k1q54 ?k2q54 ?k3q54 (strKind_is _ _ _ _) ?k4q54 ?_; (case k1q54 => k_asm); (case k2q54 => k_mem); (case k3q54 => k_asm); (case k4q54 => k_extra "m_dat")))))
  (k_with "subscriptTail Name Slice ref ref" => (k_extra "m_slice"))
  (k_with "subscriptTail Attribute Slice ref ref" => (k_extra "m_slice"))
  (k_with "subscriptTail" => (k_dflt ((with_reducible show wpAny _ _ (subscriptTail _ _ (Value.ref _) (Value.int _ _)) _ _ _); (refine' r_itemL ?k1q57 ?k3q57 ?k4q57 ?k2q57 ?_ ?k6q57; (case k1q57 => k_extra "m_list"); (case k2q57 => exact rfl); (case k3q57 => decide); (case k4q57 => decide); (case k6q57 => exact rfl)))))
  (k_with "call builtin:list.append" => (k_dflt ((with_reducible show wpAny _ _ (call (Value.builtin "list.append") [Value.ref _, _]) _ _ _); (refine' append_L3 ?k1q62 ?k2q62 ?k3q62 ?k4q62 ?k5q62 ?k6q62 ?_; (case k1q62 => k_asm); (case k2q62 => k_asm); (case k3q62 => assumption); (case k4q62 => assumption); (case k5q62 => assumption); (case k6q62 => assumption)); intro _ _ _)))
  (k_with "m_for" => (k_dflt ((refine' For_GF ?kFq30 ?k1q30 ?k2q30 ?_; (case kFq30 => assumption); (case k1q30 => exact PassesOwn.never); (case k2q30 => exact fun _ => rfl)))))
  trivial
structure RI (es : List (Str × Str)) (start : Str) (ss : List Str) : Prop where
  nod : ss.Nodup
  snd : ∀ t ∈ ss, Reach es start t
  st : start ∈ ss
  sym : ∀ t ∈ ss, t ∈ sSYMS
theorem RI.len {es : List (Str × Str)} {start : Str} {ss : List Str} (h : RI es start ss) : ss.length ≤ 6 := nodup_len (m := sSYMS) h.nod h.sym
structure JR (es : List (Str × Str)) (start : Str) (a el : Addr) (i : Nat) (ss : List Str) (m : Str → Option Value) : Prop where
  h1 : RI es start ss
  h2 : (∀ p ∈ ss.take i, ∀ e ∈ es, e.1 = p → e.2 ∈ ss)
  h3 : i ≤ ss.length
  h4 : m "found" = some (.ref a)
  h5 : m "edges" = some (.ref el)
section Reach
theorem reg_MReach : True := by
  (k_with "call builtin:list.append" => (refine halt ?_))
  (k_with "exec For Name Name cons nil" => (refine halt ?_))
  trivial
theorem t_reach {prog : Program} {w : World} {dp un : Nat} {fr : Option (List Env)} {gd : Option (List Code)} {s : Shared} {hb : Heap} {mg mb : Str → Option Value} {p : Program} {loose : List Str} {R : Result → Shared → Prop}
  (X : (hd.heap_1 w.params).In hb) (T : TopRead p loose mg mb hb) (hs : hb.StaysIn s.heap) (hroom : dp + 5 < recursionLimit) (hu : un + 100 < cLine)
  {led : List (Addr × Obj)} (H : Has hb s.heap led) {el : Addr} {start : Str} {ts : Tok} {evs : List Value} {es : List (Str × Str)} {ek : Nat}
  (hel : (el, W.listOf evs.toArray ek) ∈ led) (hE : EdgesIn led evs es) (hst : start ∈ sSYMS) (hes : ∀ e ∈ es, e.2 ∈ sSYMS)
  (post : ∀ r h' tk ws ss n, Kp [] s.heap h' → s.heap.get? r = none → h'.get? r = some (W.listOf (ws : List Value).toArray n) → StrsAre ws ss → ss.Nodup → (∀ t, t ∈ ss ↔ Reach es start t) → R (.ok (.ret (.ref r))) { s with heap := h', toks := tk }) :
  codeAny (model prog w) ⟨none, dp, fr, gd, un⟩ (.call (.ref 284) ⟨[.str start ts, .ref el], []⟩) R s := by
  have Xs : (hd.heap_1 w.params).In s.heap := X.keeps hs
  refine' enterH (led.map (·.1)) [("start", .str start ts), ("edges", .ref el)] X T hs ?_ ?ho ?hcd (by show dp < _; omega) ?hb ?hl ?h ?hc ?h1 ?h2 ?h3
  walk_at "m_enter"
  · exact H.base
  intro g L h₁ tk F I
  refine letS ?_
  intro SH A1 en Q1
  have hA1 : A1.depth = dp + 1 := rfl
  have hA2 : A1.units = un + 3 := rfl
  have X := I.X
  have T := I.T
  have N := I.putAll H
  (try ((with_reducible show wpAny _ _ _ _ _ _); k_fold)); k_steps
  rename Fr _ _ _ _ => F
  rename News _ _ _ _ => N
  refine unhalt ?_
  refine For_raw ?_ (fun _ => rfl)
  refine News.hdName N fun a hal => ?_
  subst hal
  rename AllLt _ _ => l1
  have hla : ∀ q ∈ led, q.1 ≠ a := allLt_ne l1
  (try ((with_reducible show wpAny _ _ _ _ _ _); k_fold)); k_steps
  rename Fr _ _ _ _ => F
  refine grow_strs (rst := led) (vs := [.str start ts]) (ss := [start]) (k := 0) PassesOwn.never rfl F N (.cons _ _ .nil) rfl rfl (JR es start a el) 6 (fun _ _ _ h => h.h1.len) (fun _ _ _ h => h.h3)
    ⟨⟨by simp, fun t ht => by rw [List.mem_singleton.mp ht]; exact .refl, .head _, fun t ht => by rw [List.mem_singleton.mp ht]; exact hst⟩, (fun _ h => nomatch h), Nat.zero_le _, rfl, rfl⟩ ?_ ?_
  · clear F N
    rintro own i z u m₁ vs₁ ss₁ k₁ h tk hz hS ⟨hR, hcl, hi, hf, hed⟩ hoff F N
    have F := Fr_say F (x := "found") ((if_neg (by decide)).trans hf)
    have F := Fr_say F (x := "edges") ((if_neg (by decide)).trans ((if_neg (by decide)).trans hed))
    have F := Fr_say F (x := "place") ((if_neg (by decide)).trans ((if_neg (by decide)).trans (if_pos rfl)))
    (try ((with_reducible show wpAny _ _ _ _ _ _); k_fold)); k_steps
    rename Fr _ _ _ _ => F
    refine g_pairs (fun j m news => ∃ vs ss k, news = (a, W.listOf (vs : List Value).toArray k) :: (led ++ own) ∧ StrsAre vs ss ∧ RI es start ss ∧ (∃ ex, ss = ss₁ ++ ex) ∧ (∀ e ∈ es.take j, e.1 = z → e.2 ∈ ss) ∧ m "found" = some (.ref a) ∧ m "edges" = some (.ref el) ∧ m "place" = some (.str z u))
      rfl (N _ (.tail _ (List.mem_append_left _ hel))).1 ⟨rfl, _, rfl⟩ F N rfl rfl rfl ⟨vs₁, ss₁, k₁, rfl, hS, hR, ⟨[], by simp⟩, (fun _ h => nomatch h), rfl, rfl, rfl⟩ ?_ (fun v hv => hE.ref v (by simpa using hv)) ?_ ?_ ?_
    · rintro j m news ⟨vs, ss, k, rfl, _⟩
      exact .inl (.tail _ (List.mem_append_left _ hel))
    · rintro j m news b ⟨vs, ss, k, rfl, _⟩ hb
      obtain ⟨e, _, a', t1, t2, n, q, hm⟩ := hE.get (by simpa using hb)
      cases q
      exact ⟨_, _, n, .tail _ (List.mem_append_left _ hm)⟩
    · clear F N hf hed
      rintro own2 j b v1 v2 n m₁ news₁ h tk hb hbm ⟨vs, ss, k, rfl, hS', hR', ⟨ex, rfl⟩, hcl2, hf, hed, hpl⟩ hoff2 F N
      obtain ⟨e, hej, a', t1, t2, n', q, hm⟩ := hE.get (i := j) (v := .ref b) (by simpa using hb)
      cases q
      have hv : v1 = .str e.1 t1 ∧ v2 = .str e.2 t2 := by
        have a1 := (N _ (List.mem_append_left _ hbm)).1
        have a2 := (N _ (List.mem_append_left _ (.tail _ (List.mem_append_left _ hm)))).1
        dsimp only at a1 a2
        rw [a2] at a1
        injection a1 with a1
        injection a1 with _ _ a1
        injection a1 with a1
        have := congrArg Array.toList a1
        simp at this
        exact ⟨this.1.symm, this.2.symm⟩
      obtain ⟨rfl, rfl⟩ := hv
      have F := Fr_say F (x := "found") ((if_neg (by decide)).trans ((if_neg (by decide)).trans hf))
      have F := Fr_say F (x := "edges") ((if_neg (by decide)).trans ((if_neg (by decide)).trans ((if_neg (by decide)).trans hed)))
      have F := Fr_say F (x := "place") ((if_neg (by decide)).trans ((if_neg (by decide)).trans ((if_neg (by decide)).trans ((if_neg (by decide)).trans hpl))))
      have hem := List.mem_of_getElem? hej
      obtain ⟨_, _, htk⟩ := drop_at hej
      simp only [List.cons_append, List.append_assoc] at N
      have hl16 : (vs.length) ≤ 16384 := by rw [hS'.length]; have := hR'.len; omega
      (try ((with_reducible show wpAny _ _ _ _ _ _); k_fold)); k_steps
      all_goals rename Fr _ _ _ _ => F
      · rename List.any _ _ = _ => hin
        have hin := of_decide_eq_true (any_mem hin)
        refine StepG.next (EndG.mk ((a, W.listOf vs.toArray k) :: (led ++ own)) F N (by walk_at "m_sub") hoff2 ⟨vs, _, k, rfl, hS', hR', ⟨ex, rfl⟩, ?_, rfl, rfl, rfl⟩)
        intro e' he' q
        rw [htk] at he'
        rcases List.mem_append.mp he' with he' | he'
        · exact hcl2 e' he' q
        · rw [List.mem_singleton.mp he']; exact hin
      · rename List.any _ _ = _ => hin
        rename (e.1 == z) = true => hez
        have hin := of_decide_eq_false (any_mem hin)
        have hez : e.1 = z := eq_of_beq hez
        refine unhalt ?_
        refine append_put F N (.head _) hl16 fun h' F N => ?_
        have hoa : ∀ q ∈ led ++ (own ++ own2), q.1 ≠ a := fun q hq => by
          rcases List.mem_append.mp hq with hq | hq
          · exact hla q hq
          · rcases List.mem_append.mp hq with hq | hq
            · exact (hoff q hq).1
            · exact hoff2.hd q hq
        rw [List.map_cons, put_at, put_off hoa] at N
        (try ((with_reducible show wpAny _ _ _ _ _ _); k_fold)); k_steps
        rename Fr _ _ _ _ => F
        have hz' : z ∈ ss₁ ++ ex := List.mem_append_left _ (List.mem_of_getElem? hz)
        refine StepG.next (EndG.mk ((a, W.listOf (vs ++ [Value.str e.2 t2]).toArray (k + 1)) :: (led ++ own)) F N (by walk_at "m_sub") (Apart.cons hoff2.hd hoff2.tl) ⟨_, ss₁ ++ (ex ++ [e.2]), _, rfl, by rw [← List.append_assoc]; exact hS'.append' (.cons _ _ .nil), ?_, ⟨_, rfl⟩, ?_, rfl, rfl, rfl⟩)
        · rw [← List.append_assoc]
          refine ⟨List.nodup_append.mpr ⟨hR'.nod, by simp, ?_⟩, fun t ht => ?_, List.mem_append_left _ hR'.st, fun t ht => ?_⟩
          · intro x hx y hy q
            rw [List.mem_singleton.mp hy] at q
            exact hin (q ▸ hx)
          · rcases List.mem_append.mp ht with ht | ht
            · exact hR'.snd t ht
            · rw [List.mem_singleton.mp ht]
              exact .step (hez ▸ hR'.snd z hz') (by rw [show (e.1, e.2) = e from rfl]; exact hem)
          · rcases List.mem_append.mp ht with ht | ht
            · exact hR'.sym t ht
            · rw [List.mem_singleton.mp ht]; exact hes e hem
        · intro e' he' q
          rw [← List.append_assoc]
          rw [htk] at he'
          rcases List.mem_append.mp he' with he' | he'
          · exact List.mem_append_left _ (hcl2 e' he' q)
          · rw [List.mem_singleton.mp he']; exact List.mem_append_right _ (.head _)
      · rename (e.1 == z) = false => hez
        refine StepG.next (EndG.mk ((a, W.listOf vs.toArray k) :: (led ++ own)) F N (by walk_at "m_sub") hoff2 ⟨vs, _, k, rfl, hS', hR', ⟨ex, rfl⟩, ?_, rfl, rfl, rfl⟩)
        intro e' he' q
        rw [htk] at he'
        rcases List.mem_append.mp he' with he' | he'
        · exact hcl2 e' he' q
        · rw [List.mem_singleton.mp he'] at q
          rw [q] at hez
          simp at hez
    · clear F N hf hed
      rintro h tk m₁ news₁ ⟨vs, ss, k, rfl, hS', hR', ⟨ex, rfl⟩, hcl2, hf, hed, hpl⟩ F N
      (try ((with_reducible show wpAny _ _ _ _ _ _); k_fold)); k_steps
      obtain ⟨hi1, _, htk⟩ := drop_at hz
      refine StepL.next ⟨_, _, _, vs, _, k, rfl, F, N, hS', hR', ?_, by rw [List.length_append]; omega, hf, hed⟩
      intro p hp e he q
      rw [List.take_append_of_le_length (by omega), htk] at hp
      rcases List.mem_append.mp hp with hp | hp
      · exact List.mem_append_left _ (hcl p hp e he q)
      · rw [List.mem_singleton.mp hp] at q
        refine hcl2 e ?_ q
        rw [List.size_toArray, hE.length, List.take_length]; exact he
  · clear F N
    rintro h tk m₁ vs₁ ss₁ k₁ ⟨hR, hcl, hi, hf, hed⟩ hS F N
    have F := Fr_say F (x := "found") hf
    (try ((with_reducible show wpAny _ _ _ _ _ _); k_fold)); k_steps
    refine post a _ _ vs₁ ss₁ k₁ (I.kpAll H F N fun q hq => .tail _ hq) (I.new N (.head _) fun q => ?_) (N _ (.head _)).1 hS hR.nod fun t => ⟨hR.snd t, fun ht => ?_⟩
    · obtain ⟨q', hq', e⟩ := List.mem_map.mp q
      exact hla q' hq' e
    · exact reach_closed hR.st (fun p hp e he q => hcl p (by rw [List.take_length]; exact hp) e he q) ht
end Reach
theorem unreg_MReach : True := by
  k_with_none
  (k_with "m_S" => ((goal_lacks PySem.Heap.push); (fail_if_success (goal_lacks PySem.Shared.mk)); (with_reducible refine (?_ : wpAny _ _ _ _ _ (SH _ _))); (try ((fail_if_success (goal_lacks PySem.Shared.toks)); (with_reducible refine genT (S := SH) ?_); intro _))))
  (k_with "m_U" => (k_extra "m_S"; first | walk1 | (dsimp only; walk1)))
  (k_with "m_enter" => ((
    case ho => k_is
    case hcd => k_is
    case hb => first | exact BindsTo.of_eq rfl | exact binds_K (by assumption) rfl (by k_is) rfl rfl rfl
    case hl => exact locs rfl
    case hc => decide
    case h1 => exact rfl
    case h2 => exact rfl
    case h3 => exact rfl)))
  (k_with "m_enterC" => ((
    case ho => k_is
    case hcd => k_is
    case hb => first | exact BindsTo.of_eq rfl | exact binds_K (by assumption) rfl (by k_is) rfl rfl rfl
    case hl => exact rfl
    case hn => decide +kernel
    case h1 => exact rfl
    case h2 => exact rfl
    case h3 => exact rfl)))
  (k_with "eval ListComp" => (((fail_if_success (with_reducible rename NoHalt => nh')); refine halt ?_)))
  (k_with "eval DictComp" => (((fail_if_success (with_reducible rename NoHalt => nh')); refine halt ?_)))
  (k_with "eval Name" => (k_dflt ((with_reducible show wpAny _ _ (eval (Expr.Name _ _) (compEnvC _ _ _ _)) _ _ _); refine' comp_cell ?xq5 ?Nq5 ?cq5 ?mq5 ?dq5 ?_ ?kq5 ?bq5; (case xq5 => exact rfl); (case Nq5 => k_asm); (case cq5 => exact rfl); (case mq5 => k_mem); (case dq5 => k_asm); (case kq5 => exact rfl); (case bq5 => decide))))
  (k_with "eval Name" => (k_dflt ((with_reducible show wpAny _ _ (eval (Expr.Name _ _) (compEnvC _ _ _ _)) _ _ _); refine' comp_local ?xq6 ?Nq6 ?cq6 ?_ ?kq6 ?bq6; (case xq6 => exact rfl); (case Nq6 => k_asm); (case cq6 => exact rfl); (case kq6 => exact rfl); (case bq6 => decide))))
  (k_with "m_tail" => (first
    | exact fun _ h => h
    | ((with_reducible refine sub_tl ?_); k_extra "m_tail")
    | ((with_reducible refine sub_lf ?_); k_extra "m_tail")
    | ((with_reducible refine sub_rt ?_); k_extra "m_tail")))
  (k_with "m_in" => (first
    | exact List.Mem.head _
    | assumption
    | ((refine List.Mem.tail _ ?_); k_extra "m_in")
    | ((refine List.mem_append_left _ ?_); k_extra "m_in")
    | ((refine List.mem_append_right _ ?_); k_extra "m_in")))
  (k_with "m_sub1" => (first
    | exact sub_nil
    | ((with_reducible refine sub_cons ?_ ?_); k_extra "m_in"; k_extra "m_sub1")
    | ((with_reducible refine sub_app ?_ ?_); k_extra "m_sub1"; k_extra "m_sub1")
    | k_extra "m_tail"))
  (k_with "m_sub" => (((try dsimp only [List.cons_append, List.nil_append]); k_extra "m_sub1")))
  (k_with "m_k_ne" => ((refine neN ?_; (try dsimp only); first | assumption | exact Ne.symm (by assumption) | exact Nat.ne_of_lt (by assumption) | exact Nat.ne_of_gt (by assumption) | exact all_ne (by assumption) (by k_mem) | exact Ne.symm (all_ne (by assumption) (by k_mem)) | exact ne_lt2 (by assumption) (by assumption) | exact Ne.symm (ne_lt2 (by assumption) (by assumption)) | (refine' News_ne_cls ?nqNq11 ?nqaq11 ?nqbq11 ?nqcq11; (case nqNq11 => k_asm); (case nqaq11 => k_mem); (case nqbq11 => k_mem); (case nqcq11 => rfl)) | omega)))
  (k_with "exec While BoolOp cons nil" => (refine halt ?_))
  (k_with "exec While Constant cons nil" => (refine halt ?_))
  (k_with "exec While Compare cons nil" => (refine halt ?_))
  (k_with "compareOp NotIn ref ref" => (refine halt ?_))
  (k_with "compareOp In ref ref" => (refine halt ?_))
  (k_with "m_off" => (first | exact off_nil | ((refine off_cons ?_ ?_); k_all; k_extra "m_off")))
  (k_with "m_k_all" => (first | assumption | exact OwnOff.ne (by assumption) (by k_memK) | ((with_reducible refine List.forall_mem_append.mpr ⟨?_, ?_⟩); k_all; k_all) | ((with_reducible refine List.forall_mem_cons.mpr ⟨?_, ?_⟩); k_ne; k_all) | exact List.forall_mem_nil _ | fail "k_all"))
  (k_with "eval Name" => (k_dflt ((with_reducible show wpAny _ _ (eval (Expr.Name _ _) (compEnvC _ _ _ _)) _ _ _); refine' LCgL.ld_global ?qFq19 ?qXq19 ?qTq19 ?qeq19 ?_ ?qgq19 ?qkq19 ?qxq19 ?qdq19; (case qFq19 => k_asm); (case qXq19 => k_asm); (case qTq19 => k_asm); (case qeq19 => k_is); (case qgq19 => exact rfl); (case qkq19 => exact rfl); (case qxq19 => exact rfl); (case qdq19 => decide))))
  (k_with "m_clos" => ((
    case hclos => with_unfolding_all rfl
    case hcell => decide
    case hkind => rfl
    case hnames => decide
    case hx => rfl
    case hs => exact fun _ => rfl
    case hh => rfl)))
  (k_with "m_k_mem" => (k_dflt (first | assumption | (refine List.mem_append_left _ ?_; k_mem) | (refine List.mem_append_right _ ?_; k_mem))))
  (k_with "exec For Name Name cons nil" => (k_extra "m_for"))
  (k_with "exec For Name Name cons cons" => (k_extra "m_for"))
  (k_with "exec For Name Call cons nil" => (k_extra "m_for"))
  (k_with "exec For Name Attribute cons nil" => (k_extra "m_for"))
  (k_with "exec For Name Subscript cons nil" => (k_extra "m_for"))
  (k_with "exec For Tuple Name cons nil" => (k_extra "m_for"))
  (k_with "exec For Tuple Call cons nil" => (k_extra "m_for"))
  (k_with "m_slice" => (k_dflt ((with_reducible show wpAny _ _ (subscriptTail _ (PySem.Expr.Slice _ none none _) (Value.ref _) (Value.ref _)) _ _ _); first
    | (refine' r_sliceList1 ?k1q31 ?k2q31 ?k3q31 ?k4q31 ?_ ?k5q31 ?k6q31; (case k1q31 => k_asm); (case k2q31 => k_asm); (case k3q31 => k_extra "m_list"); (case k4q31 => k_extra "m_lt"); (case k5q31 => with_unfolding_all rfl); (case k6q31 => intro _; with_unfolding_all rfl); walk_at "i5")
    | (refine' r_sliceTup ?k1q31 ?k2q31 ?k3q31 ?k4q31 ?k5q31 ?k6q31 ?k7q31 ?_ ?k8q31 ?k9q31; (case k1q31 => k_asm); (case k2q31 => k_asm); (case k3q31 => k_extra "m_tup"); (case k4q31 => exact cast1 _); (case k5q31 => k_extra "m_lt"); (case k6q31 => k_extra "m_lt"); (case k7q31 => k_extra "m_lt"); (case k8q31 => with_unfolding_all rfl); (case k9q31 => intro _; with_unfolding_all rfl); walk_at "i5")
    | fail "m_slice")))
  (k_with "m_list" => (first | is_list | (refine' r_isList ?qiaq32 ?qibq32; (case qiaq32 => k_asm); (case qibq32 => k_mem))))
  (k_with "m_tup" => (first | is_tup | (refine' r_isTup ?qiaq33 ?qibq33; (case qiaq33 => k_asm); (case qibq33 => k_mem))))
  (k_with "call type:tuple" => (k_dflt ((with_reducible show wpAny _ _ (call (Value.type _) [Value.ref _]) _ _ _); (refine' r_tupleOf ?k1q34 ?k2q34 ?k3q34 ?k4q34 ?_; (case k1q34 => k_asm); (case k2q34 => k_asm); (case k3q34 => k_extra "m_list"); (case k4q34 => assumption); k_whole); walk_at "i5")))
  (k_with "m_len" => (first | assumption | omega | ((try simp only [List.length_append, List.length_cons, List.length_nil, List.length_map]); omega)))
  (k_with "call builtin:len" => (k_dflt ((with_reducible show wpAny _ _ (call (Value.builtin "len") [Value.ref _]) _ _ _); first
    | (refine' r_lenList ?k1q36 ?k2q36 ?_; (case k1q36 => k_extra "m_list"); (case k2q36 => k_extra "m_len"); k_whole)
    | (refine' r_lenTup ?k1q36 ?k2q36 ?_; (case k1q36 => k_extra "m_tup"); (case k2q36 => k_extra "m_len"); k_whole)
    | fail "len")))
  (k_with "truthy ref" => (k_dflt ((with_reducible show wpAny _ _ (truthy (Value.ref _)) _ _ _); first
    | (refine' r_truthyList ?k1q37 ?k2q37 ?_; (case k1q37 => k_extra "m_list"); (case k2q37 => k_extra "m_len"); k_whole)
    | (refine' r_truthyTup ?k1q37 ?k2q37 ?_; (case k1q37 => k_extra "m_tup"); (case k2q37 => k_extra "m_len"); k_whole)
    | (refine' r_truthyDict ?k1q37 ?k2q37 ?k3q37 ?k4q37 ?k5q37 ?_; (case k1q37 => k_asm); (case k2q37 => k_mem); (case k3q37 => k_asm); (case k4q37 => assumption); (case k5q37 => k_extra "m_len"); intro _)
    | fail "truthy")))
  (k_with "compareOp In str ref" => (k_dflt ((with_reducible show wpAny _ _ (compareOp CmpOp.In (Value.str _ _) (Value.ref _)) _ _ _); first
    | (refine' in_list_strs ?k1q38 ?k2q38 ?_; (case k1q38 => k_extra "m_list"); (case k2q38 => assumption); k_whole)
    | (refine' r_inTup ?k1q38 ?k2q38 ?_; (case k1q38 => k_extra "m_tup"); (case k2q38 => assumption); k_whole)
    | fail "in")))
  (k_with "compareOp NotIn str ref" => (k_dflt ((with_reducible show wpAny _ _ (compareOp CmpOp.NotIn (Value.str _ _) (Value.ref _)) _ _ _); first
    | (refine' notin_list_strs ?k1q39 ?k2q39 ?_; (case k1q39 => k_extra "m_list"); (case k2q39 => assumption); k_whole)
    | (refine' r_notinTup ?k1q39 ?k2q39 ?_; (case k1q39 => k_extra "m_tup"); (case k2q39 => assumption); k_whole)
    | fail "notin")))
  (k_with "m_k_units" => (first | omega | (simp only [Around.deeper, Around.in1, Around.mark] at *; omega)))
  (k_with "call builtin:all" => (k_dflt ((with_reducible show wpAny _ _ (call (Value.builtin "all") [Value.ref _]) _ _ _); (refine' all_strs ?khq41 ?kFq41 ?kNq41 ?kpq41 ?_; (case kFq41 => k_asm); (case kNq41 => k_asm); (case kpq41 => assumption); (case khq41 => rfl)); intro _ _ _ _; (try simp only []))))
  (k_with "m_lt" => (first | assumption | omega))
  (k_with "subscriptTail" => (k_dflt ((with_reducible show wpAny _ _ (subscriptTail _ _ (Value.ref _) (Value.int _ _)) _ _ _); (refine' r_itemList ?k1q43 ?k2q43 ?k3q43 ?k4q43 ?k5q43 ?_ ?k6q43; (case k1q43 => k_extra "m_list"); (case k2q43 => assumption); (case k3q43 => k_extra "m_lt"); (case k4q43 => k_extra "m_lt"); (case k5q43 => k_extra "m_lt"); (case k6q43 => exact rfl)); intro _ _ _)))
  (k_with "m_din" => (first | (with_reducible assumption) | assumption | exact (rfl : _ = true) | exact (rfl : _ = false) | exact rfl))
  (k_with "m_dat" => (first | assumption | exact rfl))
  (k_with "compareOp In str ref" => (k_dflt ((with_reducible show wpAny _ _ (compareOp CmpOp.In (Value.str _ _) (Value.ref _)) _ _ _); (refine' kda_in (knd := PySem.strKind _ _) ?k1q46 ?k2q46 ?k3q46 ?k4q46 (strKind_is _ _ _ _) _ ?k6q46 ?_; (case k1q46 => k_asm); (case k2q46 => k_mem); (case k3q46 => k_asm); (case k4q46 => first | (with_reducible assumption) | assumption); (case k6q46 => k_extra "m_din")))))
  (k_with "compareOp NotIn str ref" => (k_dflt ((with_reducible show wpAny _ _ (compareOp CmpOp.NotIn (Value.str _ _) (Value.ref _)) _ _ _); (refine' kdg_notin (knd := PySem.strKind _ _) ?k1q47 ?k2q47 ?k3q47 ?k4q47 (strKind_is _ _ _ _) _ ?k6q47 ?_; (case k1q47 => k_asm); (case k2q47 => k_mem); (case k3q47 => k_asm); (case k4q47 => first | (with_reducible assumption) | assumption); (case k6q47 => k_extra "m_din")))))
  (k_with "subscriptTail" => (((with_reducible show wpAny _ _ (subscriptTail _ _ (Value.ref _) (Value.str _ _)) _ _ _); k_dflt (refine' kdt_tail ?k1q48 ?k2q48 ?k3q48 ?_ ?k4q48; (case k1q48 => k_asm); (case k2q48 => k_mem); (case k3q48 => k_asm); (case k4q48 => exact rfl)))))
  (k_with "subscriptTail" => (k_dflt ((with_reducible show wpAny _ _ (subscriptTail _ _ (Value.ref _) (Value.str _ _)) _ _ _); (refine' kda_item (knd := PySem.strKind _ _) ?k1q49 ?k2q49 ?k3q49 (strKind_is _ _ _ _) ?k4q49 ?_; (case k1q49 => k_asm); (case k2q49 => k_mem); (case k3q49 => k_asm); (case k4q49 => k_extra "m_dat")))))
  (k_with "setItem ref str" => (k_dflt ((refine' kda_set (knd := PySem.strKind _ _) ?Fq50 ?Nq50 ?Uq50 ?dq50 (strKind_is _ _ _ _) ?zq50 ?_; (case Fq50 => k_asm); (case Nq50 => k_asm); (case Uq50 => k_updF); (case dq50 => k_asm); (case zq50 => first | assumption | (rw [sizeLine_eq]; exact Nat.le_of_ble_eq_true (by with_unfolding_all rfl)))); walk_at "i5d")))
  (k_with "getAttr ref" => (k_dflt (refine' get_own ?k1q51 ?k2q51 ?k3q51 ?k4q51 ?k5q51 ?k6q51 ?k7q51 ?k8q51 ?k9q51 ?_; (case k1q51 => k_asm); (case k2q51 => k_asm); (case k3q51 => k_inst); (case k8q51 => assumption); (case k4q51 => k_is); (case k5q51 => k_is); (case k6q51 => k_is); (case k7q51 => k_is); (case k9q51 => exact rfl))))
  (k_with "call builtin:str.join" => (k_dflt ((with_reducible show wpAny _ _ (call (Value.builtin "str.join") [Value.str _ _, Value.ref _]) _ _ _); (refine' r_joinTup ?k1q52 ?k2q52 ?k3q52 ?k4q52 ?k5q52 ?_; (case k1q52 => k_extra "m_tup"); (case k2q52 => assumption); (case k3q52 => assumption); (case k4q52 => assumption); (case k5q52 => decide)); intro _ _ _ _)))
  (k_with "getMethod ref" => (k_dflt (refine' method_inst ?k1q53 ?k2q53 ?k3q53 ?k4q53 ?k5q53 ?k6q53 ?k7q53 ?_; (case k1q53 => k_asm); (case k2q53 => k_asm); (case k3q53 => k_inst); (case k7q53 => assumption); (case k4q53 => k_is); (case k5q53 => k_is); (case k6q53 => k_is))))
  (k_with "getItem ref str" => (k_dflt ((with_reducible show wpAny _ _ (getItem (Value.ref _) (Value.str _ _)) _ _ _); (refine' kdt_getItem (knd := PySem.strKind _ _) ?k1q54 ?k2q54 ?k3q54 (strKind_is _ _ _ _) ?k4q54 ?_; (case k1q54 => k_asm); (case k2q54 => k_mem); (case k3q54 => k_asm); (case k4q54 => k_extra "m_dat")))))
  (k_with "subscriptTail Name Slice ref ref" => (k_extra "m_slice"))
  (k_with "subscriptTail Attribute Slice ref ref" => (k_extra "m_slice"))
  (k_with "subscriptTail" => (k_dflt ((with_reducible show wpAny _ _ (subscriptTail _ _ (Value.ref _) (Value.int _ _)) _ _ _); (refine' r_itemL ?k1q57 ?k3q57 ?k4q57 ?k2q57 ?_ ?k6q57; (case k1q57 => k_extra "m_list"); (case k2q57 => exact rfl); (case k3q57 => decide); (case k4q57 => decide); (case k6q57 => exact rfl)))))
  (k_with "call builtin:list.append" => (k_dflt ((with_reducible show wpAny _ _ (call (Value.builtin "list.append") [Value.ref _, _]) _ _ _); (refine' append_L3 ?k1q62 ?k2q62 ?k3q62 ?k4q62 ?k5q62 ?k6q62 ?_; (case k1q62 => k_asm); (case k2q62 => k_asm); (case k3q62 => assumption); (case k4q62 => assumption); (case k5q62 => assumption); (case k6q62 => assumption)); intro _ _ _)))
  (k_with "m_for" => (k_dflt ((refine' For_GF ?kFq30 ?k1q30 ?k2q30 ?_; (case kFq30 => assumption); (case k1q30 => exact PassesOwn.never); (case k2q30 => exact fun _ => rfl)))))
  trivial
theorem RowsIn.get {led : List (Addr × Obj)} {vs : List Value} {rs : List (Str × List Str)} (h : RowsIn led vs rs) : ∀ {i : Nat} {v : Value}, vs[i]? = some v → ∃ r, rs[i]? = some r ∧ RowIn led v r := by
  induction h with
  | nil => intro i v h; simp at h
  | cons a _ ih =>
    intro i v h
    cases i with
    | zero => cases Option.some.inj h; exact ⟨_, rfl, a⟩
    | succ i => exact ih h
theorem RowsIn.ref {led : List (Addr × Obj)} {vs : List Value} {es : List (Str × List Str)} (h : RowsIn led vs es) : ∀ v ∈ vs, ∃ a, v = .ref a := fun v hv => by
  obtain ⟨i, hi, e⟩ := List.mem_iff_getElem.mp hv
  obtain ⟨_, _, a, _, _, _, _, _, h1, _⟩ := h.get (i := i) (v := v) (by rw [List.getElem?_eq_getElem hi, e])
  exact ⟨a, h1⟩
noncomputable def CloE (rules : List (Str × List Str)) (ss : List Str) : Prop := ∀ r ∈ rules, (∀ y ∈ r.2, y ∈ ss) → r.1 ∈ ss
theorem cloE_all {rules : List (Str × List Str)} {ss : List Str} (h : CloE rules ss) {t : Str} (e : Emp rules t) : t ∈ ss := by
  induction e with
  | mk hr _ ih => exact h _ hr ih
theorem emp_name {rules : List (Str × List Str)} (hok : ∀ r ∈ rules, RuleOk r) {t : Str} (e : Emp rules t) : t ∈ sNAMES := by
  cases e with
  | mk hr _ => exact (hok _ hr).1
structure VI (rules : List (Str × List Str)) (ss : List Str) : Prop where
  nod : ss.Nodup
  snd : ∀ t ∈ ss, Emp rules t
theorem VI.len {rules : List (Str × List Str)} {ss : List Str} (hok : ∀ r ∈ rules, RuleOk r) (h : VI rules ss) : ss.length ≤ 3 := nodup_len (m := sNAMES) h.nod fun t ht => emp_name hok (h.snd t ht)
theorem VI.fin {rules : List (Str × List Str)} {ss : List Str} (hok : ∀ r ∈ rules, RuleOk r) (h : VI rules ss) (hc : CloE rules ss ∨ 3 ≤ ss.length) {t : Str} : t ∈ ss ↔ Emp rules t := by
  refine ⟨h.snd t, fun e => ?_⟩
  rcases hc with hc | hc
  · exact cloE_all hc e
  · refine Decidable.byContradiction fun hn => ?_
    have : (t :: ss).length ≤ sNAMES.length := nodup_len (List.nodup_cons.mpr ⟨hn, h.nod⟩) fun x hx => by
      rcases List.mem_cons.mp hx with rfl | hx
      · exact emp_name hok e
      · exact emp_name hok (h.snd x hx)
    have e3 : sNAMES.length = 3 := rfl
    rw [List.length_cons] at this
    omega
inductive JV (rules : List (Str × List Str)) (led : List (Addr × Obj)) (l c : Addr) (oc : Obj) (rl : Addr) (i : Nat) (m : Str → Option Value) (news : List (Addr × Obj)) : Prop
  | mk (vs ss k) (h1 : news = (l, W.listOf (vs : List Value).toArray k) :: (c, oc) :: led) (h2 : StrsAre vs ss) (h3 : VI rules ss) (h4 : (CloE rules ss ∨ i ≤ ss.length)) (h5 : m "rules" = some (.ref rl)) : JV rules led l c oc rl i m news
inductive JVW (rules : List (Str × List Str)) (rest : List (Addr × Obj)) (l c : Addr) (oc : Obj) (rl : Addr) (ss₁ : List Str) (j : Nat) (m : Str → Option Value) (news : List (Addr × Obj)) : Prop
  | mk (vs ex k) (h1 : news = (l, W.listOf (vs : List Value).toArray k) :: (c, oc) :: rest) (h2 : StrsAre vs (ss₁ ++ ex)) (h3 : VI rules (ss₁ ++ ex)) (h4 : (ex = [] → CloE (rules.take j) ss₁)) (h5 : (ex ≠ [] → ¬ CloE rules ss₁)) (h6 : m "rules" = some (.ref rl)) : JVW rules rest l c oc rl ss₁ j m news
section Van
theorem reg_MVan : True := by
  (k_with "call builtin:list.append" => (refine halt ?_))
  trivial
theorem t_van {prog : Program} {w : World} {dp un : Nat} {fr : Option (List Env)} {gd : Option (List Code)} {s : Shared} {hb : Heap} {mg mb : Str → Option Value} {p : Program} {loose : List Str} {R : Result → Shared → Prop}
  (X : (hd.heap_1 w.params).In hb) (T : TopRead p loose mg mb hb) (hs : hb.StaysIn s.heap) (hroom : dp + 5 < recursionLimit) (hu : un + 100 < cLine)
  {led : List (Addr × Obj)} (H : Has hb s.heap led) {rl : Addr} {trs : List Value} {rules : List (Str × List Str)} {rk : Nat}
  (hrl : (rl, W.listOf trs.toArray rk) ∈ led) (hE : RowsIn led trs rules) (hok : ∀ r ∈ rules, RuleOk r) (hlen : rules.length ≤ 7)
  (post : ∀ r h' tk ws ss n, Kp [] s.heap h' → s.heap.get? r = none → h'.get? r = some (W.listOf (ws : List Value).toArray n) → StrsAre ws ss → ss.Nodup → (∀ t, t ∈ ss ↔ Emp rules t) → R (.ok (.ret (.ref r))) { s with heap := h', toks := tk }) :
  codeAny (model prog w) ⟨none, dp, fr, gd, un⟩ (.call (.ref 277) ⟨[.ref rl], []⟩) R s := by
  have Xs : (hd.heap_1 w.params).In s.heap := X.keeps hs
  refine' enterC (led.map (·.1)) [("rules", .ref rl)] X T hs ?_ ?ho ?hcd (by show dp < _; omega) ?hb ?hl ?hn ?h ?h1 ?h2 ?h3
  walk_at "m_enterC"
  · exact H.base
  intro g L h₁ tk cells F N Y I
  refine letS ?_
  intro SH A1 en Q1
  have hA1 : A1.depth = dp + 1 := rfl
  have hA2 : A1.units = un + 3 := rfl
  have X := I.X
  have T := I.T
  k_cells Y
  have N := N.append (I.putAll H)
  have hlL : ∀ q ∈ led, @LT.lt Nat _ q.1 L := fun q hq => by rw [I.loc]; exact Heap.lt_size (H q hq).1
  have hcl : ∀ q ∈ led, @Ne Nat q.1 (L + 1) := fun q hq => by have := hlL q hq; omega
  simp only [List.cons_append, List.nil_append] at N
  (try ((with_reducible show wpAny _ _ _ _ _ _); k_fold)); k_steps
  rename IsRange _ _ _ _ _ _ _ _ => hr
  rename Fr _ _ _ _ => F
  rename News _ _ _ _ => N
  rename _ = Data.cell (some _) => hoc
  rename And _ _ => l1
  refine News.hdName N fun l hl => ?_
  subst hl
  have hlled : ∀ q ∈ led, q.1 ≠ l := allLt_ne l1.2
  have hlc : (L + 1 : Nat) ≠ l := Nat.ne_of_lt l1.1
  refine g_range (JV rules led l (L + 1) _ rl) rfl (let ⟨o, _, _, ho, _⟩ := T.g; ⟨_, o, ho⟩) hr (by omega) (by omega) F N rfl rfl ⟨[], [], 0, rfl, .nil, ⟨.nil, fun _ h => nomatch h⟩, .inr (Nat.zero_le _), rfl⟩ ?_ ?_
  · clear F N hr
    rintro own i vv m₁ news₁ h tk hi ⟨vs, ss, k, rfl, hS, hV, hc, hm⟩ hoff F N
    have F := Fr_say F (x := "rules") ((if_neg (by decide)).trans hm)
    (try ((with_reducible show wpAny _ _ _ _ _ _); k_fold)); k_steps
    refine g_pairs (JVW rules (led ++ own) l (L + 1) _ rl ss)
      rfl (N _ (.tail _ (.tail _ (List.mem_append_left _ hrl)))).1 ⟨rfl, _, rfl⟩ F N rfl rfl rfl ⟨vs, [], k, rfl, (by rw [List.append_nil]; exact hS), (by rw [List.append_nil]; exact hV), (fun _ _ h => nomatch h), (fun h => absurd rfl h), if_pos rfl⟩ ?_ (fun v hv => hE.ref v (by simpa using hv)) ?_ ?_ ?_
    · rintro j m news ⟨vs, ex, k, rfl, _⟩
      exact .inl (.tail _ (.tail _ (List.mem_append_left _ hrl)))
    · rintro j m news b ⟨vs, ex, k, rfl, _⟩ hb
      obtain ⟨r, _, a', b', t1, n1, n2, ws, q, hm, _⟩ := hE.get (by simpa using hb)
      cases q
      exact ⟨_, _, n1, .tail _ (.tail _ (List.mem_append_left _ hm))⟩
    · clear F N hm
      rintro own2 j b v1 v2 n m₁ news₁ h tk hb hbm ⟨vs, ex, k, rfl, hS, hV', hnil, hne, hm⟩ hoff2 F N
      obtain ⟨r, hrj, a', b', t1, n1, n2, ws, q, hm1, hm2, hws⟩ := hE.get (i := j) (v := .ref b) (by simpa using hb)
      cases q
      have hv : v1 = .str r.1 t1 ∧ v2 = .ref b' := by
        have a1 := (N _ (List.mem_append_left _ hbm)).1
        have a2 := (N _ (List.mem_append_left _ (.tail _ (.tail _ (List.mem_append_left _ hm1))))).1
        dsimp only at a1 a2
        rw [a2] at a1
        injection a1 with a1
        injection a1 with _ _ a1
        injection a1 with a1
        have := congrArg Array.toList a1
        simp at this
        exact ⟨this.1.symm, this.2.symm⟩
      obtain ⟨rfl, rfl⟩ := hv
      have F := Fr_say F (x := "rules") ((if_neg (by decide)).trans ((if_neg (by decide)).trans hm))
      have hrm := List.mem_of_getElem? hrj
      have hrok := hok _ hrm
      obtain ⟨_, _, htk⟩ := drop_at hrj
      simp only [List.cons_append, List.append_assoc] at N
      have hl16 : (vs.length) ≤ 16384 := by rw [hS.length]; have := hV'.len hok; omega
      (try ((with_reducible show wpAny _ _ _ _ _ _); k_fold)); k_steps
      · rename List.any _ _ = _ => hin
        have hin := of_decide_eq_true (any_mem hin)
        rename Fr _ _ _ _ => F
        refine StepG.next (EndG.mk ((l, W.listOf vs.toArray k) :: (L + 1, _) :: (led ++ own)) F N (by walk_at "m_sub") hoff2 ⟨vs, ex, k, rfl, hS, hV', ?_, hne, rfl⟩)
        rintro rfl
        rw [List.append_nil] at hin
        intro r' hr' hy
        rw [htk] at hr'
        rcases List.mem_append.mp hr' with hr' | hr'
        · exact hnil rfl r' hr' hy
        · rw [List.mem_singleton.mp hr']; exact hin
      · rename List.any _ _ = _ => hin
        have hin := of_decide_eq_false (any_mem hin)
        refine unhalt ?_
        refine' ListComp_Q (cl := [("known", L + 1)]) g (fun _ => true) (fun z y => y = .bool ((fun z => (ss ++ ex).any fun x => x == z) z)) ?hclos ?hcell ?hkind ?hnames ?hx ?hs ?hh ?_
        walk_at "m_clos"
        (try ((with_reducible show wpAny _ _ _ _ _ _); k_fold)); k_steps
        rename Fr _ _ _ _ => F
        rename News _ _ _ _ => N
        refine unhalt ⟨r.2, _, _, .inl ⟨_, ws, rfl, hws, .inr ⟨_, (N _ (.tail _ (.tail _ (List.mem_append_left _ hm2)))).1, rfl, _, rfl⟩⟩, ?_, F, N, ?_, ?_, ?_⟩
        · rw [sizeLine_eq]; have := hrok.2.1; omega
        · intro C z u E' s₃ m₃ _ _ _ _
          refine wpAny_tests_nil ?_
          exact unhalt ⟨rfl, _, _, rfl, fun _ _ e => e⟩
        · intro C z u E' s₃ m₃ hz _ hb F N
          (try ((with_reducible show wpAny _ _ _ _ _ _); k_fold)); k_steps
          exact unhalt ⟨rfl, _, _, rfl, fun _ _ e => e⟩
        · intro D h' tk ys nD hp F N _
          have hall : ∀ {b : Bool}, (r.2.all fun z => (ss ++ ex).any fun x => x == z) = b → (b = true ↔ ∀ y ∈ r.2, y ∈ ss ++ ex) := fun {b} e => by
            rw [← e, List.all_eq_true]
            constructor
            · intro q y hy; exact of_decide_eq_true (any_mem (q y hy))
            · intro q y hy; have := any_mem (l := ss ++ ex) (x := y) rfl; rw [← this]; exact decide_eq_true (q y hy)
          (try ((with_reducible show wpAny _ _ _ _ _ _); k_fold)); k_steps
          all_goals rename Fr _ _ _ _ => F
          all_goals rename News _ _ _ _ => N
          · rename List.all _ _ = _ => ha
            have ha := (hall ha).mp rfl
            refine unhalt ?_
            refine append_put F N (.head _) hl16 fun h' F N => ?_
            have hoa : ∀ (oc : Obj), ∀ q ∈ (L + 1, oc) :: (led ++ (own ++ own2)), q.1 ≠ l := fun oc q hq => by
              rcases List.mem_cons.mp hq with rfl | hq
              · exact hlc
              · rcases List.mem_append.mp hq with hq | hq
                · exact hlled q hq
                · rcases List.mem_append.mp hq with hq | hq
                  · exact hoff.hd q hq
                  · exact hoff2.hd q hq
            rw [List.map_cons, put_at, put_off (hoa _)] at N
            (try ((with_reducible show wpAny _ _ _ _ _ _); k_fold)); k_steps
            rename Fr _ _ _ _ => F
            refine StepG.next (EndG.mk ((l, W.listOf (vs ++ [Value.str r.1 t1]).toArray (k + 1)) :: (L + 1, _) :: (led ++ own)) F N (by walk_at "m_sub") (Apart.cons hoff2.hd hoff2.tl) ⟨_, ex ++ [r.1], _, rfl, by rw [← List.append_assoc]; exact hS.append' (.cons _ _ .nil), ?_, fun q => by simp at q, fun _ => ?_, rfl⟩)
            · rw [← List.append_assoc]
              refine ⟨List.nodup_append.mpr ⟨hV'.nod, by simp, ?_⟩, fun t ht => ?_⟩
              · intro x hx y hy q
                rw [List.mem_singleton.mp hy] at q
                exact hin (q ▸ hx)
              · rcases List.mem_append.mp ht with ht | ht
                · exact hV'.snd t ht
                · rw [List.mem_singleton.mp ht]
                  exact .mk (show (r.1, r.2) ∈ rules from hrm) fun y hy => hV'.snd y (ha y hy)
            · by_cases he : ex = []
              · subst he
                rw [List.append_nil] at ha hin
                exact fun q => hin (q r hrm ha)
              · exact hne he
          · rename List.all _ _ = _ => ha
            have ha := fun q => Bool.false_ne_true ((hall ha).mpr q)
            refine StepG.next (EndG.mk ((l, W.listOf vs.toArray k) :: (L + 1, _) :: (led ++ own)) F N (by walk_at "m_sub") hoff2 ⟨vs, ex, k, rfl, hS, hV', ?_, hne, rfl⟩)
            rintro rfl
            rw [List.append_nil] at ha
            intro r' hr' hy
            rw [htk] at hr'
            rcases List.mem_append.mp hr' with hr' | hr'
            · exact hnil rfl r' hr' hy
            · rw [List.mem_singleton.mp hr'] at hy
              exact absurd hy ha
    · clear F N hm
      rintro h tk m₁ news₁ ⟨vs, ex, k, rfl, hS', hV', hnil, hne, hm⟩ F N
      (try ((with_reducible show wpAny _ _ _ _ _ _); k_fold)); k_steps
      rename Fr _ _ _ _ => F
      refine StepG.next (EndG.mk ((l, W.listOf vs.toArray k) :: (L + 1, _) :: led) F N (by walk_at "m_sub") (Apart.cons hoff.hd hoff.tl) ⟨vs, _, k, rfl, hS', hV', ?_, hm⟩)
      by_cases he : ex = []
      · subst he
        refine .inl ?_
        rw [List.append_nil]
        have := hnil rfl
        rw [List.size_toArray, hE.length, List.take_length] at this
        exact this
      · refine .inr ?_
        have h1 := hne he
        rcases hc with hc | hc
        · exact absurd hc h1
        · have : ex.length ≠ 0 := fun q => he (List.eq_nil_of_length_eq_zero q)
          rw [List.length_append]; omega
  · clear F N hr
    rintro h tk m₁ news₁ ⟨vs, ss, k, rfl, hS, hV, hc, hm⟩ F N
    (try ((with_reducible show wpAny _ _ _ _ _ _); k_fold)); k_steps
    rename Fr _ _ _ _ => F
    refine post l _ _ vs ss k (I.kpAll H F N fun q hq => .tail _ (.tail _ hq)) (I.new N (.head _) fun q => ?_) (N _ (.head _)).1 hS hV.nod fun t => hV.fin hok hc
    obtain ⟨q', hq', e⟩ := List.mem_map.mp q
    exact hlled q' hq' e
end Van
theorem unreg_MVan : True := by
  k_with_none
  (k_with "m_S" => ((goal_lacks PySem.Heap.push); (fail_if_success (goal_lacks PySem.Shared.mk)); (with_reducible refine (?_ : wpAny _ _ _ _ _ (SH _ _))); (try ((fail_if_success (goal_lacks PySem.Shared.toks)); (with_reducible refine genT (S := SH) ?_); intro _))))
  (k_with "m_U" => (k_extra "m_S"; first | walk1 | (dsimp only; walk1)))
  (k_with "m_enter" => ((
    case ho => k_is
    case hcd => k_is
    case hb => first | exact BindsTo.of_eq rfl | exact binds_K (by assumption) rfl (by k_is) rfl rfl rfl
    case hl => exact locs rfl
    case hc => decide
    case h1 => exact rfl
    case h2 => exact rfl
    case h3 => exact rfl)))
  (k_with "m_enterC" => ((
    case ho => k_is
    case hcd => k_is
    case hb => first | exact BindsTo.of_eq rfl | exact binds_K (by assumption) rfl (by k_is) rfl rfl rfl
    case hl => exact rfl
    case hn => decide +kernel
    case h1 => exact rfl
    case h2 => exact rfl
    case h3 => exact rfl)))
  (k_with "eval ListComp" => (((fail_if_success (with_reducible rename NoHalt => nh')); refine halt ?_)))
  (k_with "eval DictComp" => (((fail_if_success (with_reducible rename NoHalt => nh')); refine halt ?_)))
  (k_with "eval Name" => (k_dflt ((with_reducible show wpAny _ _ (eval (Expr.Name _ _) (compEnvC _ _ _ _)) _ _ _); refine' comp_cell ?xq5 ?Nq5 ?cq5 ?mq5 ?dq5 ?_ ?kq5 ?bq5; (case xq5 => exact rfl); (case Nq5 => k_asm); (case cq5 => exact rfl); (case mq5 => k_mem); (case dq5 => k_asm); (case kq5 => exact rfl); (case bq5 => decide))))
  (k_with "eval Name" => (k_dflt ((with_reducible show wpAny _ _ (eval (Expr.Name _ _) (compEnvC _ _ _ _)) _ _ _); refine' comp_local ?xq6 ?Nq6 ?cq6 ?_ ?kq6 ?bq6; (case xq6 => exact rfl); (case Nq6 => k_asm); (case cq6 => exact rfl); (case kq6 => exact rfl); (case bq6 => decide))))
  (k_with "m_tail" => (first
    | exact fun _ h => h
    | ((with_reducible refine sub_tl ?_); k_extra "m_tail")
    | ((with_reducible refine sub_lf ?_); k_extra "m_tail")
    | ((with_reducible refine sub_rt ?_); k_extra "m_tail")))
  (k_with "m_in" => (first
    | exact List.Mem.head _
    | assumption
    | ((refine List.Mem.tail _ ?_); k_extra "m_in")
    | ((refine List.mem_append_left _ ?_); k_extra "m_in")
    | ((refine List.mem_append_right _ ?_); k_extra "m_in")))
  (k_with "m_sub1" => (first
    | exact sub_nil
    | ((with_reducible refine sub_cons ?_ ?_); k_extra "m_in"; k_extra "m_sub1")
    | ((with_reducible refine sub_app ?_ ?_); k_extra "m_sub1"; k_extra "m_sub1")
    | k_extra "m_tail"))
  (k_with "m_sub" => (((try dsimp only [List.cons_append, List.nil_append]); k_extra "m_sub1")))
  (k_with "m_k_ne" => ((refine neN ?_; (try dsimp only); first | assumption | exact Ne.symm (by assumption) | exact Nat.ne_of_lt (by assumption) | exact Nat.ne_of_gt (by assumption) | exact all_ne (by assumption) (by k_mem) | exact Ne.symm (all_ne (by assumption) (by k_mem)) | exact ne_lt2 (by assumption) (by assumption) | exact Ne.symm (ne_lt2 (by assumption) (by assumption)) | (refine' News_ne_cls ?nqNq11 ?nqaq11 ?nqbq11 ?nqcq11; (case nqNq11 => k_asm); (case nqaq11 => k_mem); (case nqbq11 => k_mem); (case nqcq11 => rfl)) | omega)))
  (k_with "exec While BoolOp cons nil" => (refine halt ?_))
  (k_with "exec While Constant cons nil" => (refine halt ?_))
  (k_with "exec While Compare cons nil" => (refine halt ?_))
  (k_with "compareOp NotIn ref ref" => (refine halt ?_))
  (k_with "compareOp In ref ref" => (refine halt ?_))
  (k_with "m_off" => (first | exact off_nil | ((refine off_cons ?_ ?_); k_all; k_extra "m_off")))
  (k_with "m_k_all" => (first | assumption | exact OwnOff.ne (by assumption) (by k_memK) | ((with_reducible refine List.forall_mem_append.mpr ⟨?_, ?_⟩); k_all; k_all) | ((with_reducible refine List.forall_mem_cons.mpr ⟨?_, ?_⟩); k_ne; k_all) | exact List.forall_mem_nil _ | fail "k_all"))
  (k_with "eval Name" => (k_dflt ((with_reducible show wpAny _ _ (eval (Expr.Name _ _) (compEnvC _ _ _ _)) _ _ _); refine' LCgL.ld_global ?qFq19 ?qXq19 ?qTq19 ?qeq19 ?_ ?qgq19 ?qkq19 ?qxq19 ?qdq19; (case qFq19 => k_asm); (case qXq19 => k_asm); (case qTq19 => k_asm); (case qeq19 => k_is); (case qgq19 => exact rfl); (case qkq19 => exact rfl); (case qxq19 => exact rfl); (case qdq19 => decide))))
  (k_with "m_clos" => ((
    case hclos => with_unfolding_all rfl
    case hcell => decide
    case hkind => rfl
    case hnames => decide
    case hx => rfl
    case hs => exact fun _ => rfl
    case hh => rfl)))
  (k_with "m_k_mem" => (k_dflt (first | assumption | (refine List.mem_append_left _ ?_; k_mem) | (refine List.mem_append_right _ ?_; k_mem))))
  (k_with "exec For Name Name cons nil" => (k_extra "m_for"))
  (k_with "exec For Name Name cons cons" => (k_extra "m_for"))
  (k_with "exec For Name Call cons nil" => (k_extra "m_for"))
  (k_with "exec For Name Attribute cons nil" => (k_extra "m_for"))
  (k_with "exec For Name Subscript cons nil" => (k_extra "m_for"))
  (k_with "exec For Tuple Name cons nil" => (k_extra "m_for"))
  (k_with "exec For Tuple Call cons nil" => (k_extra "m_for"))
  (k_with "m_slice" => (k_dflt ((with_reducible show wpAny _ _ (subscriptTail _ (PySem.Expr.Slice _ none none _) (Value.ref _) (Value.ref _)) _ _ _); first
    | (refine' r_sliceList1 ?k1q31 ?k2q31 ?k3q31 ?k4q31 ?_ ?k5q31 ?k6q31; (case k1q31 => k_asm); (case k2q31 => k_asm); (case k3q31 => k_extra "m_list"); (case k4q31 => k_extra "m_lt"); (case k5q31 => with_unfolding_all rfl); (case k6q31 => intro _; with_unfolding_all rfl); walk_at "i5")
    | (refine' r_sliceTup ?k1q31 ?k2q31 ?k3q31 ?k4q31 ?k5q31 ?k6q31 ?k7q31 ?_ ?k8q31 ?k9q31; (case k1q31 => k_asm); (case k2q31 => k_asm); (case k3q31 => k_extra "m_tup"); (case k4q31 => exact cast1 _); (case k5q31 => k_extra "m_lt"); (case k6q31 => k_extra "m_lt"); (case k7q31 => k_extra "m_lt"); (case k8q31 => with_unfolding_all rfl); (case k9q31 => intro _; with_unfolding_all rfl); walk_at "i5")
    | fail "m_slice")))
  (k_with "m_list" => (first | is_list | (refine' r_isList ?qiaq32 ?qibq32; (case qiaq32 => k_asm); (case qibq32 => k_mem))))
  (k_with "m_tup" => (first | is_tup | (refine' r_isTup ?qiaq33 ?qibq33; (case qiaq33 => k_asm); (case qibq33 => k_mem))))
  (k_with "call type:tuple" => (k_dflt ((with_reducible show wpAny _ _ (call (Value.type _) [Value.ref _]) _ _ _); (refine' r_tupleOf ?k1q34 ?k2q34 ?k3q34 ?k4q34 ?_; (case k1q34 => k_asm); (case k2q34 => k_asm); (case k3q34 => k_extra "m_list"); (case k4q34 => assumption); k_whole); walk_at "i5")))
  (k_with "m_len" => (first | assumption | omega | ((try simp only [List.length_append, List.length_cons, List.length_nil, List.length_map]); omega)))
  (k_with "call builtin:len" => (k_dflt ((with_reducible show wpAny _ _ (call (Value.builtin "len") [Value.ref _]) _ _ _); first
    | (refine' r_lenList ?k1q36 ?k2q36 ?_; (case k1q36 => k_extra "m_list"); (case k2q36 => k_extra "m_len"); k_whole)
    | (refine' r_lenTup ?k1q36 ?k2q36 ?_; (case k1q36 => k_extra "m_tup"); (case k2q36 => k_extra "m_len"); k_whole)
    | fail "len")))
  (k_with "truthy ref" => (k_dflt ((with_reducible show wpAny _ _ (truthy (Value.ref _)) _ _ _); first
    | (refine' r_truthyList ?k1q37 ?k2q37 ?_; (case k1q37 => k_extra "m_list"); (case k2q37 => k_extra "m_len"); k_whole)
    | (refine' r_truthyTup ?k1q37 ?k2q37 ?_; (case k1q37 => k_extra "m_tup"); (case k2q37 => k_extra "m_len"); k_whole)
    | (refine' r_truthyDict ?k1q37 ?k2q37 ?k3q37 ?k4q37 ?k5q37 ?_; (case k1q37 => k_asm); (case k2q37 => k_mem); (case k3q37 => k_asm); (case k4q37 => assumption); (case k5q37 => k_extra "m_len"); intro _)
    | fail "truthy")))
  (k_with "compareOp In str ref" => (k_dflt ((with_reducible show wpAny _ _ (compareOp CmpOp.In (Value.str _ _) (Value.ref _)) _ _ _); first
    | (refine' in_list_strs ?k1q38 ?k2q38 ?_; (case k1q38 => k_extra "m_list"); (case k2q38 => assumption); k_whole)
    | (refine' r_inTup ?k1q38 ?k2q38 ?_; (case k1q38 => k_extra "m_tup"); (case k2q38 => assumption); k_whole)
    | fail "in")))
  (k_with "compareOp NotIn str ref" => (k_dflt ((with_reducible show wpAny _ _ (compareOp CmpOp.NotIn (Value.str _ _) (Value.ref _)) _ _ _); first
    | (refine' notin_list_strs ?k1q39 ?k2q39 ?_; (case k1q39 => k_extra "m_list"); (case k2q39 => assumption); k_whole)
    | (refine' r_notinTup ?k1q39 ?k2q39 ?_; (case k1q39 => k_extra "m_tup"); (case k2q39 => assumption); k_whole)
    | fail "notin")))
  (k_with "m_k_units" => (first | omega | (simp only [Around.deeper, Around.in1, Around.mark] at *; omega)))
  (k_with "call builtin:all" => (k_dflt ((with_reducible show wpAny _ _ (call (Value.builtin "all") [Value.ref _]) _ _ _); (refine' all_strs ?khq41 ?kFq41 ?kNq41 ?kpq41 ?_; (case kFq41 => k_asm); (case kNq41 => k_asm); (case kpq41 => assumption); (case khq41 => rfl)); intro _ _ _ _; (try simp only []))))
  (k_with "m_lt" => (first | assumption | omega))
  (k_with "subscriptTail" => (k_dflt ((with_reducible show wpAny _ _ (subscriptTail _ _ (Value.ref _) (Value.int _ _)) _ _ _); (refine' r_itemList ?k1q43 ?k2q43 ?k3q43 ?k4q43 ?k5q43 ?_ ?k6q43; (case k1q43 => k_extra "m_list"); (case k2q43 => assumption); (case k3q43 => k_extra "m_lt"); (case k4q43 => k_extra "m_lt"); (case k5q43 => k_extra "m_lt"); (case k6q43 => exact rfl)); intro _ _ _)))
  (k_with "m_din" => (first | (with_reducible assumption) | assumption | exact (rfl : _ = true) | exact (rfl : _ = false) | exact rfl))
  (k_with "m_dat" => (first | assumption | exact rfl))
  (k_with "compareOp In str ref" => (k_dflt ((with_reducible show wpAny _ _ (compareOp CmpOp.In (Value.str _ _) (Value.ref _)) _ _ _); (refine' kda_in (knd := PySem.strKind _ _) ?k1q46 ?k2q46 ?k3q46 ?k4q46 (strKind_is _ _ _ _) _ ?k6q46 ?_; (case k1q46 => k_asm); (case k2q46 => k_mem); (case k3q46 => k_asm); (case k4q46 => first | (with_reducible assumption) | assumption); (case k6q46 => k_extra "m_din")))))
  (k_with "compareOp NotIn str ref" => (k_dflt ((with_reducible show wpAny _ _ (compareOp CmpOp.NotIn (Value.str _ _) (Value.ref _)) _ _ _); (refine' kdg_notin (knd := PySem.strKind _ _) ?k1q47 ?k2q47 ?k3q47 ?k4q47 (strKind_is _ _ _ _) _ ?k6q47 ?_; (case k1q47 => k_asm); (case k2q47 => k_mem); (case k3q47 => k_asm); (case k4q47 => first | (with_reducible assumption) | assumption); (case k6q47 => k_extra "m_din")))))
  (k_with "subscriptTail" => (((with_reducible show wpAny _ _ (subscriptTail _ _ (Value.ref _) (Value.str _ _)) _ _ _); k_dflt (refine' kdt_tail ?k1q48 ?k2q48 ?k3q48 ?_ ?k4q48; (case k1q48 => k_asm); (case k2q48 => k_mem); (case k3q48 => k_asm); (case k4q48 => exact rfl)))))
  (k_with "subscriptTail" => (k_dflt ((with_reducible show wpAny _ _ (subscriptTail _ _ (Value.ref _) (Value.str _ _)) _ _ _); (refine' kda_item (knd := PySem.strKind _ _) ?k1q49 ?k2q49 ?k3q49 (strKind_is _ _ _ _) ?k4q49 ?_; (case k1q49 => k_asm); (case k2q49 => k_mem); (case k3q49 => k_asm); (case k4q49 => k_extra "m_dat")))))
  (k_with "setItem ref str" => (k_dflt ((refine' kda_set (knd := PySem.strKind _ _) ?Fq50 ?Nq50 ?Uq50 ?dq50 (strKind_is _ _ _ _) ?zq50 ?_; (case Fq50 => k_asm); (case Nq50 => k_asm); (case Uq50 => k_updF); (case dq50 => k_asm); (case zq50 => first | assumption | (rw [sizeLine_eq]; exact Nat.le_of_ble_eq_true (by with_unfolding_all rfl)))); walk_at "i5d")))
  (k_with "getAttr ref" => (k_dflt (refine' get_own ?k1q51 ?k2q51 ?k3q51 ?k4q51 ?k5q51 ?k6q51 ?k7q51 ?k8q51 ?k9q51 ?_; (case k1q51 => k_asm); (case k2q51 => k_asm); (case k3q51 => k_inst); (case k8q51 => assumption); (case k4q51 => k_is); (case k5q51 => k_is); (case k6q51 => k_is); (case k7q51 => k_is); (case k9q51 => exact rfl))))
  (k_with "call builtin:str.join" => (k_dflt ((with_reducible show wpAny _ _ (call (Value.builtin "str.join") [Value.str _ _, Value.ref _]) _ _ _); (refine' r_joinTup ?k1q52 ?k2q52 ?k3q52 ?k4q52 ?k5q52 ?_; (case k1q52 => k_extra "m_tup"); (case k2q52 => assumption); (case k3q52 => assumption); (case k4q52 => assumption); (case k5q52 => decide)); intro _ _ _ _)))
  (k_with "getMethod ref" => (k_dflt (refine' method_inst ?k1q53 ?k2q53 ?k3q53 ?k4q53 ?k5q53 ?k6q53 ?k7q53 ?_; (case k1q53 => k_asm); (case k2q53 => k_asm); (case k3q53 => k_inst); (case k7q53 => assumption); (case k4q53 => k_is); (case k5q53 => k_is); (case k6q53 => k_is))))
  (k_with "getItem ref str" => (k_dflt ((with_reducible show wpAny _ _ (getItem (Value.ref _) (Value.str _ _)) _ _ _); (refine' kdt_getItem (knd := PySem.strKind _ _) ?k1q54 ?k2q54 ?k3q54 (strKind_is _ _ _ _) ?k4q54 ?_; (case k1q54 => k_asm); (case k2q54 => k_mem); (case k3q54 => k_asm); (case k4q54 => k_extra "m_dat")))))
  (k_with "subscriptTail Name Slice ref ref" => (k_extra "m_slice"))
  (k_with "subscriptTail Attribute Slice ref ref" => (k_extra "m_slice"))
  (k_with "subscriptTail" => (k_dflt ((with_reducible show wpAny _ _ (subscriptTail _ _ (Value.ref _) (Value.int _ _)) _ _ _); (refine' r_itemL ?k1q57 ?k3q57 ?k4q57 ?k2q57 ?_ ?k6q57; (case k1q57 => k_extra "m_list"); (case k2q57 => exact rfl); (case k3q57 => decide); (case k4q57 => decide); (case k6q57 => exact rfl)))))
  (k_with "call builtin:list.append" => (k_dflt ((with_reducible show wpAny _ _ (call (Value.builtin "list.append") [Value.ref _, _]) _ _ _); (refine' append_L3 ?k1q62 ?k2q62 ?k3q62 ?k4q62 ?k5q62 ?k6q62 ?_; (case k1q62 => k_asm); (case k2q62 => k_asm); (case k3q62 => assumption); (case k4q62 => assumption); (case k5q62 => assumption); (case k6q62 => assumption)); intro _ _ _)))
  (k_with "m_for" => (k_dflt ((refine' For_GF ?kFq30 ?k1q30 ?k2q30 ?_; (case kFq30 => assumption); (case k1q30 => exact PassesOwn.never); (case k2q30 => exact fun _ => rfl)))))
  trivial
noncomputable def edgF (v : List Str) : List Str → List Str
  | [] => []
  | s :: r => if s ∈ v then s :: edgF v r else [s]
theorem mem_edgF {v : List Str} {s : Str} : ∀ {l : List Str}, s ∈ edgF v l ↔ ∃ pre post, l = pre ++ s :: post ∧ ∀ y ∈ pre, y ∈ v
  | [] => by simp [edgF]
  | x :: r => by
    unfold edgF
    split
    · rename_i h
      rw [List.mem_cons, mem_edgF]
      constructor
      · rintro (rfl | ⟨pre, post, rfl, hp⟩)
        · exact ⟨[], r, rfl, fun _ h => nomatch h⟩
        · refine ⟨x :: pre, post, rfl, fun y hy => ?_⟩
          rcases List.mem_cons.mp hy with rfl | hy
          · exact h
          · exact hp y hy
      · rintro ⟨pre, post, e, hp⟩
        cases pre with
        | nil => simp only [List.nil_append, List.cons.injEq] at e; exact .inl e.1.symm
        | cons p pre =>
          simp only [List.cons_append, List.cons.injEq] at e
          obtain ⟨rfl, rfl⟩ := e
          exact .inr ⟨pre, post, rfl, fun y hy => hp y (.tail _ hy)⟩
    · rename_i h
      rw [List.mem_singleton]
      constructor
      · rintro rfl; exact ⟨[], r, rfl, fun _ h => nomatch h⟩
      · rintro ⟨pre, post, e, hp⟩
        cases pre with
        | nil => simp only [List.nil_append, List.cons.injEq] at e; exact e.1.symm
        | cons p pre =>
          simp only [List.cons_append, List.cons.injEq] at e
          obtain ⟨rfl, rfl⟩ := e
          exact absurd (hp _ (.head _)) h
theorem edgF_drop {v l : List Str} : ∀ {i : Nat}, (∀ y ∈ l.take i, y ∈ v) → edgF v l = l.take i ++ edgF v (l.drop i) := by
  induction l with
  | nil => intro i _; simp [edgF]
  | cons x r ih =>
    intro i h
    cases i with
    | zero => rfl
    | succ i =>
      have hx : x ∈ v := h x (by simp)
      rw [List.take_succ_cons, List.drop_succ_cons, List.cons_append, ← ih fun y hy => h y (by rw [List.take_succ_cons]; exact .tail _ hy)]
      show (if x ∈ v then x :: edgF v r else [x]) = _
      rw [if_pos hx]
noncomputable def edgAll (v : List Str) (rules : List (Str × List Str)) : List (Str × Str) := rules.flatMap fun r => (edgF v r.2).map fun s => (r.1, s)
theorem edgAll_snoc {v : List Str} {rules : List (Str × List Str)} {r : Str × List Str} : edgAll v (rules ++ [r]) = edgAll v rules ++ (edgF v r.2).map fun s => (r.1, s) := by
  unfold edgAll
  rw [List.flatMap_append]
  simp
theorem mem_edgAll {v : List Str} {rules : List (Str × List Str)} {n s : Str} : (n, s) ∈ edgAll v rules ↔ ∃ pre post, (n, pre ++ s :: post) ∈ rules ∧ ∀ y ∈ pre, y ∈ v := by
  unfold edgAll
  rw [List.mem_flatMap]
  constructor
  · rintro ⟨r, hr, h⟩
    obtain ⟨s', hs', e⟩ := List.mem_map.mp h
    cases e
    obtain ⟨pre, post, e, hp⟩ := mem_edgF.mp hs'
    exact ⟨pre, post, by rw [← e]; exact hr, hp⟩
  · rintro ⟨pre, post, hr, hp⟩
    exact ⟨_, hr, List.mem_map.mpr ⟨s, mem_edgF.mpr ⟨pre, post, rfl, hp⟩, rfl⟩⟩
theorem reach_left {es : List (Str × Str)} {n x f : Str} (he : (n, x) ∈ es) (h : Reach es x f) : Reach es n f := by
  induction h with
  | refl => exact .step .refl he
  | step _ h ih => exact .step ih h
theorem fir_reach {rules : List (Str × List Str)} {v : List Str} (hv : ∀ t, t ∈ v ↔ Emp rules t) {z f : Str} : Fir rules z f ↔ f ∈ (["a", "b", "c"] : List Str) ∧ Reach (edgAll v rules) z f := by
  constructor
  · intro h
    refine ⟨fir_term h, ?_⟩
    induction h with
    | term _ => exact .refl
    | rule hr hp _ ih => exact reach_left (mem_edgAll.mpr ⟨_, _, hr, fun y hy => (hv y).mpr (hp y hy)⟩) ih
  · rintro ⟨hf, h⟩
    have key : ∀ {p : Str}, Reach (edgAll v rules) z p → ∀ f, Fir rules p f → Fir rules z f := fun {p} h => by
      induction h with
      | refl => exact fun _ h => h
      | step _ he ih =>
        obtain ⟨pre, post, hr, hp⟩ := mem_edgAll.mp he
        exact fun f h => ih f (.rule hr (fun y hy => (hv y).mp (hp y hy)) h)
    exact key h f (.term hf)
theorem edgF_len {v : List Str} : ∀ {l : List Str}, (edgF v l).length ≤ l.length
  | [] => Nat.le_refl _
  | x :: r => by
    unfold edgF
    split
    · rw [List.length_cons, List.length_cons]; exact Nat.succ_le_succ edgF_len
    · simp
theorem edgAll_len {v : List Str} : ∀ {rules : List (Str × List Str)}, (∀ r ∈ rules, RuleOk r) → (edgAll v rules).length ≤ 3 * rules.length
  | [], _ => Nat.le_refl _
  | r :: rs, h => by
    have ih := edgAll_len (v := v) (rules := rs) fun r hr => h r (.tail _ hr)
    have h1 := (h r (.head _)).2.1
    have h2 := edgF_len (v := v) (l := r.2)
    show ((edgF v r.2).map (fun s => (r.1, s)) ++ edgAll v rs).length ≤ _
    rw [List.length_append, List.length_map, List.length_cons]
    omega
theorem edg_sym {v : List Str} {rules : List (Str × List Str)} (hok : ∀ r ∈ rules, RuleOk r) : ∀ e ∈ edgAll v rules, e.2 ∈ sSYMS := by
  rintro ⟨n, s⟩ he
  obtain ⟨pre, post, hr, _⟩ := mem_edgAll.mp he
  exact (hok _ hr).2.2 s (List.mem_append_right _ (.head _))

noncomputable def FamIn (led : List (Addr × Obj)) (kvs : List (Str × Value)) (P : Str → List Str → Prop) : Prop := ∀ p ∈ kvs, ∃ a ws ss n, p.2 = .ref a ∧ (a, W.listOf (ws : List Value).toArray n) ∈ led ∧ StrsAre ws ss ∧ P p.1 ss
theorem FamIn.mono {led led' : List (Addr × Obj)} {kvs : List (Str × Value)} {P : Str → List Str → Prop} (h : FamIn led kvs P) (hs : ∀ p ∈ led, p ∈ led') : FamIn led' kvs P := fun p hp =>
  let ⟨a, ws, ss, n, e, hm, h1, h2⟩ := h p hp; ⟨a, ws, ss, n, e, hs _ hm, h1, h2⟩
theorem FamIn.snoc {led : List (Addr × Obj)} {kvs : List (Str × Value)} {P : Str → List Str → Prop} {z : Str} {a : Addr} {ws : List Value} {ss : List Str} {n : Nat} (h : FamIn led kvs P) (hm : (a, W.listOf ws.toArray n) ∈ led) (hs : StrsAre ws ss) (hp : P z ss) : FamIn led (kvs ++ [(z, .ref a)]) P := fun p hp' => by
  rcases List.mem_append.mp hp' with q | q
  · exact h p q
  · rw [List.mem_singleton.mp q]; exact ⟨a, ws, ss, n, rfl, hm, hs, hp⟩
noncomputable def PFir (rules : List (Str × List Str)) (z : Str) (ss : List Str) : Prop := ss.Nodup ∧ ∀ f, f ∈ ss ↔ Fir rules z f
inductive JE (v : List Str) (l c : Addr) (oc : Obj) (base own : List (Addr × Obj)) (rl vl : Addr) (es : List (Str × Str)) (m : Str → Option Value) (news : List (Addr × Obj)) : Prop
  | mk (evs k ex) (h1 : news = (l, W.listOf (evs : List Value).toArray k) :: (c, oc) :: (ex ++ base)) (h2 : EdgesIn ex evs es) (h3 : evs.length = es.length) (h4 : (∀ q ∈ ex, q.1 ≠ l)) (h5 : Apart ex own) (h6 : m "rules" = some (.ref rl)) (h7 : m "vanish" = some (.ref vl)) : JE v l c oc base own rl vl es m news
theorem StepG.brk {g : Heap} {L : Addr} {Jn : (Str → Option Value) → List (Addr × Obj) → Prop} {own : List (Addr × Obj)} {s₁ s₂ : Shared} {Q : Flow → Shared → Prop} (h : Q .next s₂) : StepG g L Jn own s₁ Q .brk s₂ := h
theorem syms_at {w : World} {g : Heap} (X : (hd.heap_1 w.params).In g) : ∃ o vs n, g.get? 260 = some o ∧ o.cls = .type "list" ∧ o.data = .seq (vs : List Value).toArray n ∧ StrsAre vs sSYMS := by
  have hL := lstK (a := 260) X (by k_is)
  obtain ⟨o, h, hc, n, hd⟩ := hL
  exact ⟨o, _, n, h, hc, hd, .cons _ _ (.cons _ _ (.cons _ _ (.cons _ _ (.cons _ _ (.cons _ _ .nil)))))⟩
theorem valueAt_off {kvs : List (Str × Value)} {k : Str} (h : k ∉ kvs.map (·.1)) : valueAt kvs k = none := by
  induction kvs with
  | nil => rfl
  | cons p l ih =>
    obtain ⟨k', v'⟩ := p
    rw [List.map_cons, List.mem_cons, not_or] at h
    show (List.find? (fun kv => kv.1 = k) ((k', v') :: l)).map _ = none
    rw [List.find?_cons_of_neg (by simpa using fun q => h.1 q.symm)]
    exact ih h.2
theorem take_new {l : List Str} (hn : l.Nodup) {i : Nat} {z : Str} (h : l[i]? = some z) : z ∉ l.take i := by
  obtain ⟨_, _, e⟩ := drop_at h
  have := (List.take_sublist (i + 1) l).nodup hn
  rw [e, List.nodup_append] at this
  exact fun q => this.2.2 z q z (.head _) rfl
theorem strs_paired {ss : List Str} {ys : List Value} (h : Paired (fun (z : Str) (y : Value) => ∃ t, y = .str z t) ss ys) : StrsAre ys ss := by
  induction h with
  | nil => exact .nil
  | cons h _ ih => obtain ⟨t, rfl⟩ := h; exact .cons _ _ ih
section Fst
theorem reg_MFst : True := by
  (k_with "call builtin:list.append" => (refine halt ?_))
  trivial
theorem t_firsts {prog : Program} {w : World} {dp un : Nat} {fr : Option (List Env)} {gd : Option (List Code)} {s : Shared} {hb : Heap} {mg mb : Str → Option Value} {p : Program} {loose : List Str} {R : Result → Shared → Prop}
  (X : (hd.heap_1 w.params).In hb) (T : TopRead p loose mg mb hb) (hs : hb.StaysIn s.heap) (hroom : dp + 10 < recursionLimit) (hu : un + 200 < cLine)
  {led : List (Addr × Obj)} (H : Has hb s.heap led) {rl vl : Addr} {trs vvs : List Value} {rules : List (Str × List Str)} {v : List Str} {rk vk : Nat}
  (hrl : (rl, W.listOf trs.toArray rk) ∈ led) (hE : RowsIn led trs rules) (hok : ∀ r ∈ rules, RuleOk r) (hlen : rules.length ≤ 7)
  (hvl : (vl, W.listOf vvs.toArray vk) ∈ led) (hvs : StrsAre vvs v) (hvE : ∀ t, t ∈ v ↔ Emp rules t) (hvn : v.length ≤ 3)
  (post : ∀ r h' tk kvs or own, Kp [] s.heap h' → (∀ p ∈ (r, or) :: own, s.heap.get? p.1 = none ∧ h'.get? p.1 = some p.2) → or.IsDictOf (strKind prog w) kvs → kvs.map (·.1) = sSYMS → FamIn own kvs (PFir rules) → (r == sysModules) = false → R (.ok (.ret (.ref r))) { s with heap := h', toks := tk }) :
  codeAny (model prog w) ⟨none, dp, fr, gd, un⟩ (.call (.ref 289) ⟨[.ref rl, .ref vl], []⟩) R s := by
  have Xs : (hd.heap_1 w.params).In s.heap := X.keeps hs
  refine' enterC (led.map (·.1)) [("rules", .ref rl), ("vanish", .ref vl)] X T hs ?_ ?ho ?hcd (by show dp < _; omega) ?hb ?hl ?hn ?h ?h1 ?h2 ?h3
  walk_at "m_enterC"
  · exact H.base
  intro g L h₁ tk cells F N Y I
  refine letS ?_
  intro SH A1 en Q1
  have hA1 : A1.depth = dp + 1 := rfl
  have hA2 : A1.units = un + 3 := rfl
  have X := I.X
  have T := I.T
  k_cells Y
  have N := N.append (I.putAll H)
  have hlL : ∀ q ∈ led, @LT.lt Nat _ q.1 L := fun q hq => by rw [I.loc]; exact Heap.lt_size (H q hq).1
  have hcl : ∀ q ∈ led, @Ne Nat q.1 (L + 1) := fun q hq => by have := hlL q hq; omega
  simp only [List.cons_append, List.nil_append] at N
  (try ((with_reducible show wpAny _ _ _ _ _ _); k_fold)); k_steps
  rename Fr _ _ _ _ => F
  rename News _ _ _ _ => N
  rename _ = Data.cell (some _) => hoc
  rename Obj => oc
  rename And _ _ => l1
  refine News.hdName N fun l hl => ?_
  subst hl
  have hlled : ∀ q ∈ led, q.1 ≠ l := allLt_ne l1.2
  have hlc : (L + 1 : Nat) ≠ l := Nat.ne_of_lt l1.1
  refine g_pairs (fun i m news => JE v l (L + 1) _ led [] rl vl (edgAll v (rules.take i)) m news) rfl (N _ (.tail _ (.tail _ hrl))).1 ⟨rfl, _, rfl⟩ F N rfl rfl rfl ⟨[], 0, [], rfl, .nil, rfl, (fun _ h => nomatch h), .nil, rfl, rfl⟩ ?_ (fun v hv => hE.ref v (by simpa using hv)) ?_ ?_ ?_
  · rintro j m news ⟨evs, k, ex, rfl, _⟩
    exact .inl (.tail _ (.tail _ (List.mem_append_right _ hrl)))
  · rintro j m news b ⟨evs, k, ex, rfl, _⟩ hb
    obtain ⟨r, _, a', b', t1, n1, n2, ws, q, hm, _⟩ := hE.get (by simpa using hb)
    cases q
    exact ⟨_, _, n1, .tail _ (.tail _ (List.mem_append_right _ hm))⟩
  · clear F N
    rintro own j b v1 v2 n m₁ news₁ h tk hb hbm ⟨evs, k, ex, rfl, hEd, _, hexl, _, hmr, hmv⟩ hoff F N
    obtain ⟨r, hrj, a', b', t1, n1, n2, ws, q, hm1, hm2, hws⟩ := hE.get (i := j) (v := .ref b) (by simpa using hb)
    cases q
    have hv : v1 = .str r.1 t1 ∧ v2 = .ref b' := by
      have a1 := (N _ (List.mem_append_left _ hbm)).1
      have a2 := (N _ (List.mem_append_left _ (.tail _ (.tail _ (List.mem_append_right _ hm1))))).1
      dsimp only at a1 a2
      rw [a2] at a1
      injection a1 with a1
      injection a1 with _ _ a1
      injection a1 with a1
      have := congrArg Array.toList a1
      simp at this
      exact ⟨this.1.symm, this.2.symm⟩
    obtain ⟨rfl, rfl⟩ := hv
    have F := Fr_say F (x := "rules") ((if_neg (by decide)).trans ((if_neg (by decide)).trans hmr))
    have F := Fr_say F (x := "vanish") ((if_neg (by decide)).trans ((if_neg (by decide)).trans ((if_neg (by decide)).trans hmv)))
    have hrm := List.mem_of_getElem? hrj
    have hrok := hok _ hrm
    obtain ⟨hjl, _, htk⟩ := drop_at hrj
    simp only [List.cons_append, List.append_assoc] at N
    (try ((with_reducible show wpAny _ _ _ _ _ _); k_fold)); k_steps
    rename Fr _ _ _ _ => F
    refine g_strs (fun i m news => JE v l (L + 1) _ (led ++ own) own rl vl (edgAll v (rules.take j) ++ (r.2.take i).map fun s => (r.1, s)) m news ∧ (∀ y ∈ r.2.take i, y ∈ v) ∧ m "name" = some (.str r.1 t1)) rfl (N _ (.tail _ (.tail _ (List.mem_append_right _ (List.mem_append_left _ hm2))))).1 ⟨.inr rfl, _, rfl⟩ hws F N rfl rfl
      ⟨⟨evs, k, ex, rfl, by simpa using hEd, by simpa using hEd.length, hexl, fun p hp => hoff p (.tail _ (.tail _ (List.mem_append_left _ hp))), rfl, rfl⟩, (by simp), rfl⟩ ?_ ?_ ?_
    · rintro i m news ⟨⟨evs, k, ex, rfl, _⟩, _⟩
      exact .inl (.tail _ (.tail _ (List.mem_append_right _ (List.mem_append_left _ hm2))))
    · clear F N hEd hmr hmv
      have hoff0 : ∀ q ∈ own, q.1 ≠ l ∧ @Ne Nat q.1 (L + 1) := fun q hq => ⟨hoff.hd q hq, hoff.tl.hd q hq⟩
      have hoffl : Apart led own := fun p hp => hoff p (.tail _ (.tail _ (List.mem_append_right _ hp)))
      clear hoff hbm
      rintro own2 i z u m₁ news₁ h tk hz ⟨⟨evs, k, ex, rfl, hEd, hel, hexl, hax, hmr, hmv⟩, hall, hmn⟩ hoff F N
      have F := Fr_say F (x := "rules") ((if_neg (by decide)).trans hmr)
      have F := Fr_say F (x := "vanish") ((if_neg (by decide)).trans ((if_neg (by decide)).trans hmv))
      have F := Fr_say F (x := "name") ((if_neg (by decide)).trans ((if_neg (by decide)).trans ((if_neg (by decide)).trans hmn)))
      obtain ⟨hil, hidrop, hitk⟩ := drop_at hz
      simp only [List.cons_append, List.append_assoc] at N
      have hl16 : (evs.length) ≤ 16384 := by
        have e1 := edgAll_len (v := v) (rules := rules.take j) fun r hr => hok r (List.mem_of_mem_take hr)
        have e2 := hrok.2.1
        have e3 := List.length_take_le i r.2
        have e4 := List.length_take_le j rules
        rw [hel, List.length_append, List.length_map]; omega
      (try ((with_reducible show wpAny _ _ _ _ _ _); k_fold)); k_steps
      rename Fr _ _ _ _ => F
      rename News _ _ _ _ => N
      rename And _ _ => lT
      refine unhalt ?_
      refine News.hdName N fun T₁ hT => ?_
      subst hT
      have N := News_sub N (news' := (l, W.listOf evs.toArray k) :: (T₁, tupOf [Value.str r.1 t1, Value.str z u] 0) :: (L + 1, _) :: (ex ++ (led ++ (own ++ own2)))) (by walk_at "m_sub")
      refine append_put F N (.head _) hl16 fun h' F N => ?_
      have hoff2 : ∀ q ∈ own2, q.1 ≠ l := hoff.hd
      have hoa : ∀ (oc : Obj), ∀ q ∈ (T₁, tupOf [Value.str r.1 t1, Value.str z u] 0) :: (L + 1, oc) :: (ex ++ (led ++ (own ++ own2))), q.1 ≠ l := fun oc q hq => by
        rcases List.mem_cons.mp hq with rfl | hq
        · exact Nat.ne_of_gt lT.1
        · rcases List.mem_cons.mp hq with rfl | hq
          · exact hlc
          · rcases List.mem_append.mp hq with hq | hq
            · exact hexl q hq
            · rcases List.mem_append.mp hq with hq | hq
              · exact hlled q hq
              · rcases List.mem_append.mp hq with hq | hq
                · exact (hoff0 q hq).1
                · exact hoff2 q hq
      rw [List.map_cons, put_at, put_off (hoa _)] at N
      have hEd' : EdgesIn ((T₁, tupOf [Value.str r.1 t1, Value.str z u] 0) :: ex) (evs ++ [.ref T₁]) (edgAll v (rules.take j) ++ (r.2.take (i + 1)).map fun s => (r.1, s)) := by
        rw [hitk, List.map_append, ← List.append_assoc]
        exact (hEd.mono fun p hp => .tail _ hp).snoc ⟨T₁, t1, u, 0, rfl, .head _⟩
      have hexl' : ∀ q ∈ (T₁, tupOf [Value.str r.1 t1, Value.str z u] 0) :: ex, q.1 ≠ l := fun q hq => by
        rcases List.mem_cons.mp hq with rfl | hq
        · exact Nat.ne_of_gt lT.1
        · exact hexl q hq
      have hTall := allLt_ne lT.2.2
      have hax' : Apart ((T₁, tupOf [Value.str r.1 t1, Value.str z u] 0) :: ex) own := Apart.cons (fun q hq => hTall q (List.mem_append_right _ (List.mem_append_right _ (List.mem_append_left _ hq)))) hax
      have hax2 : Apart ((T₁, tupOf [Value.str r.1 t1, Value.str z u] 0) :: ex) own2 := Apart.cons (fun q hq => hTall q (List.mem_append_right _ (List.mem_append_right _ (List.mem_append_right _ hq)))) fun p hp => hoff p (.tail _ (.tail _ (List.mem_append_left _ hp)))
      have hall2 : Apart (led ++ own) own2 := fun p hp => hoff p (.tail _ (.tail _ (List.mem_append_right _ hp)))
      have hc2 : ∀ q ∈ own2, @Ne Nat q.1 (L + 1) := hoff.tl.hd
      (try ((with_reducible show wpAny _ _ _ _ _ _); k_fold)); k_steps
      · rename List.any _ _ = _ => hin
        have hin := of_decide_eq_true (any_mem hin)
        rename Fr _ _ _ _ => F
        refine StepG.next (EndG.mk ((l, W.listOf (evs ++ [Value.ref T₁]).toArray (k + 1)) :: (L + 1, _) :: (((T₁, tupOf [Value.str r.1 t1, Value.str z u] 0) :: ex) ++ (led ++ own))) F N (by walk_at "m_sub") (Apart.cons hoff2 (Apart.cons hc2 (Apart.append hax2 hall2))) ⟨⟨_, _, _, rfl, hEd', hEd'.length, hexl', hax', rfl, rfl⟩, ?_, rfl⟩)
        intro y hy
        rw [hitk] at hy
        rcases List.mem_append.mp hy with hy | hy
        · exact hall y hy
        · rw [List.mem_singleton.mp hy]; exact hin
      · rename List.any _ _ = _ => hin
        have hin := of_decide_eq_false (any_mem hin)
        dsimp only
        refine StepG.brk ?_
        dsimp only
        (try ((with_reducible show wpAny _ _ _ _ _ _); k_fold)); k_steps
        rename Fr _ _ _ _ => F
        refine StepG.next (EndG.mk ((l, W.listOf (evs ++ [Value.ref T₁]).toArray (k + 1)) :: (L + 1, _) :: (((T₁, tupOf [Value.str r.1 t1, Value.str z u] 0) :: ex) ++ led)) F N (by walk_at "m_sub") (Apart.cons (fun q hq => (hoff0 q hq).1) (Apart.cons (fun q hq => (hoff0 q hq).2) (Apart.append hax' hoffl))) ⟨_, _, _, rfl, ?_, ?_, hexl', (fun _ _ _ h => absurd h List.not_mem_nil), rfl, rfl⟩)
        · have e1 : edgF v r.2 = r.2.take i ++ [z] := by
            rw [edgF_drop hall, hidrop]
            show _ ++ (if z ∈ v then _ else _) = _
            rw [if_neg hin]
          rw [htk, edgAll_snoc, e1, ← hitk]
          exact hEd'
        · have e1 : edgF v r.2 = r.2.take i ++ [z] := by
            rw [edgF_drop hall, hidrop]
            show _ ++ (if z ∈ v then _ else _) = _
            rw [if_neg hin]
          rw [htk, edgAll_snoc, e1, ← hitk]
          exact hEd'.length
    · have hoff0 : ∀ q ∈ own, q.1 ≠ l ∧ @Ne Nat q.1 (L + 1) := fun q hq => ⟨hoff.hd q hq, hoff.tl.hd q hq⟩
      have hoffl : Apart led own := fun p hp => hoff p (.tail _ (.tail _ (List.mem_append_right _ hp)))
      clear F N hEd hmr hmv
      rintro h tk m₁ news₁ ⟨⟨evs, k, ex, rfl, hEd, hel, hexl, hax, hmr, hmv⟩, hall, hmn⟩ F N
      (try ((with_reducible show wpAny _ _ _ _ _ _); k_fold)); k_steps
      rename Fr _ _ _ _ => F
      have e1 : edgF v r.2 = r.2 := by
        have := edgF_drop (v := v) (l := r.2) (i := r.2.length) hall
        rw [List.take_length, List.drop_length] at this
        rw [this]; simp [edgF]
      rw [List.take_length] at hEd hel
      refine StepG.next (EndG.mk ((l, W.listOf evs.toArray k) :: (L + 1, _) :: (ex ++ led)) F N (by walk_at "m_sub") (Apart.cons (fun q hq => (hoff0 q hq).1) (Apart.cons (fun q hq => (hoff0 q hq).2) (Apart.append hax hoffl))) ⟨_, _, _, rfl, ?_, ?_, hexl, (fun _ _ _ h => absurd h List.not_mem_nil), hmr, hmv⟩)
      · rw [htk, edgAll_snoc, e1]; exact hEd
      · rw [htk, edgAll_snoc, e1]; exact hel
  · clear F N
    rintro h tk m₁ news₁ ⟨evs, k, ex, rfl, hEd, hel, hexl, hax, hmr, hmv⟩ F N
    rw [List.size_toArray, hE.length, List.take_length] at hEd hel
    (try ((with_reducible show wpAny _ _ _ _ _ _); k_fold)); k_steps
    refine unhalt ?_
    rename Fr _ _ _ _ => F
    refine' DictComp_Q (cl := [("edges", L + 1)]) g (fun i kvs news => ∃ own, news = own ++ ((l, W.listOf evs.toArray k) :: (L + 1, oc) :: (ex ++ led)) ∧ Apart own led ∧ kvs.map (·.1) = sSYMS.take i ∧ FamIn own kvs (PFir rules)) ?hclos ?hcell ?hkind ?hnames ?hx ?hs ?hh ?hxd ?_
    case hclos => with_unfolding_all rfl
    case hcell => decide
    case hkind => rfl
    case hnames => decide
    case hx => rfl
    case hs => exact fun _ => rfl
    case hh => rfl
    case hxd => decide
    (try ((with_reducible show wpAny _ _ _ _ _ _); k_fold)); k_steps
    rename Fr _ _ _ _ => F
    obtain ⟨o6, vs6, n6, h6, hc6, hd6, hs6⟩ := syms_at X
    refine unhalt ⟨260, o6, sSYMS, _, _, rfl, ⟨F.keep _ _ h6, .inl ⟨vs6, hs6, hc6, n6, hd6⟩⟩, by rw [sizeLine_eq]; decide, F, N, ⟨[], rfl, .nil, rfl, fun _ h => nomatch h⟩, fun _ _ _ _ => .inr h6, ?_, ?_⟩
    · clear F N
      intro C hC i z u kvs news₁ own h tk m₃ hz hJ hoff F N
      obtain ⟨ow, rfl, haw, hkv, hfam⟩ := hJ
      have hzs := List.mem_of_getElem? hz
      simp only [List.append_assoc, List.cons_append] at N
      refine halt ?_
      refine' ListComp_Q (cl := []) g (fun t => decide (t ∈ (["a", "b", "c"] : List Str))) (fun z y => ∃ t, y = .str z t) ?hclos ?hcell ?hkind ?hnames ?hx ?hs ?hh ?_
      walk_at "m_clos"
      (try ((with_reducible show wpAny _ _ _ _ _ _); k_fold)); k_steps
      refine wpAny_call ?_
      refine' t_reach (dp := dp + 1) (un := un + 3) (start := z) X T ?qs ?qr ?qu (led := ow ++ (l, W.listOf evs.toArray k) :: (L + 1, oc) :: (ex ++ (led ++ own))) ?qH (el := l) (evs := evs) (ek := k) (es := edgAll v rules) ?q1 ?q2 hzs (edg_sym hok) ?_
      case qs => rename Fr _ _ _ _ => F; exact F.keep
      case qr => omega
      case qu => omega
      case qH => exact fun q hq => ⟨(N q hq).1, (N q hq).2.2⟩
      case q1 => exact List.mem_append_right _ (.head _)
      case q2 => exact hEd.mono fun q hq => List.mem_append_right _ (.tail _ (.tail _ (List.mem_append_left _ hq)))
      intro r h' tk' rws rss rn kk hrn e hrs hnd hrt
      rename Fr _ _ _ _ => F
      obtain ⟨F, N, ne⟩ := grow_kp F N kk hrn e
      have hsy : ∀ t ∈ rss, t ∈ sSYMS := fun t ht => reach_mem hzs (edg_sym hok) ((hrt t).mp ht)
      refine unhalt ⟨rss, _, _, .inl ⟨r, rws, rfl, hrs, .inl ⟨_, e, rfl, _, rfl⟩⟩, ?_, F, N, ?_, ?_, ?_⟩
      · have := nodup_len (m := sSYMS) hnd hsy
        have e6 : sSYMS.length = 6 := rfl
        rw [sizeLine_eq]; omega
      · intro C z u E' s₃ m₃ hz _ F N
        have hz := hsy z hz
        refine wpAny_tests_one ?_
        simp only [sSYMS, List.mem_cons, List.not_mem_nil, or_false] at hz
        rcases hz with rfl | rfl | rfl | rfl | rfl | rfl
        all_goals
          (try ((with_reducible show wpAny _ _ _ _ _ _); k_fold)); k_steps
          exact unhalt ⟨by decide +kernel, _, _, rfl, fun _ _ e => e⟩
      · intro C z u E' s₃ m₃ hz _ hb F N
        (try ((with_reducible show wpAny _ _ _ _ _ _); k_fold)); k_steps
        exact unhalt ⟨⟨_, rfl⟩, _, _, rfl, fun _ _ e => e⟩
      · intro D h' tk ys nD hp F N hD
        have hza : z ∉ kvs.map (·.1) := by rw [hkv]; exact take_new (by decide) hz
        have hDa : ∀ q ∈ own, q.1 ≠ D := fun q hq => hD q (.tail _ (List.mem_append_right _ (.tail _ (.tail _ (List.mem_append_right _ (List.mem_append_right _ hq))))))
        have hDl : ∀ q ∈ led, q.1 ≠ D := fun q hq => hD q (.tail _ (List.mem_append_right _ (.tail _ (.tail _ (List.mem_append_right _ (List.mem_append_left _ hq))))))
        refine unhalt ⟨_, _, _, ((D, W.listOf ys.toArray nD) :: ow) ++ ((l, W.listOf evs.toArray k) :: (L + 1, oc) :: (ex ++ led)), rfl, F, News_sub N (by walk_at "m_sub"), ?_, (D, W.listOf ys.toArray nD) :: ow, rfl, Apart.cons hDl haw, ?_, ?_⟩
        · exact Apart.append (Apart.cons hDa fun p hp => hoff p (List.mem_append_left _ hp)) fun p hp => hoff p (List.mem_append_right _ hp)
        · rw [stored_absent (valueAt_off hza), List.map_append, hkv]; exact (drop_at hz).2.2.symm
        · rw [stored_absent (valueAt_off hza)]
          refine (hfam.mono fun q hq => .tail _ hq).snoc (.head _) (strs_paired hp) ⟨hnd.filter _, fun f => ?_⟩
          rw [List.mem_filter, fir_reach hvE, hrt, decide_eq_true_iff, and_comm]
    · clear F N
      intro D h' tk kvs oD news₁ hLD hJ F N hd hD
      obtain ⟨ow, rfl, haw, hkv, hfam⟩ := hJ
      refine post D h' tk kvs oD ow (I.kpAll H F N fun q hq => .tail _ (List.mem_append_right _ (.tail _ (.tail _ (List.mem_append_right _ hq))))) ?_ hd hkv hfam (beq_eq_false_iff_ne.mpr (Nat.ne_of_gt (Nat.lt_trans (modules_low T.nolimit) (Nat.lt_of_le_of_lt F.above hLD))))
      intro p hp
      have hm : p ∈ (D, oD) :: (ow ++ ((l, W.listOf evs.toArray k) :: (L + 1, oc) :: (ex ++ led))) := by
        rcases List.mem_cons.mp hp with rfl | hp
        · exact .head _
        · exact .tail _ (List.mem_append_left _ hp)
      refine ⟨I.new N hm fun q => ?_, (N _ hm).1⟩
      obtain ⟨q', hq', e⟩ := List.mem_map.mp q
      rcases List.mem_cons.mp hp with rfl | hp
      · exact hD q' (List.mem_append_right _ (.tail _ (.tail _ (List.mem_append_right _ hq')))) e
      · exact haw p hp q' hq' e
end Fst
theorem unreg_MFst : True := by
  k_with_none
  (k_with "m_S" => ((goal_lacks PySem.Heap.push); (fail_if_success (goal_lacks PySem.Shared.mk)); (with_reducible refine (?_ : wpAny _ _ _ _ _ (SH _ _))); (try ((fail_if_success (goal_lacks PySem.Shared.toks)); (with_reducible refine genT (S := SH) ?_); intro _))))
  (k_with "m_U" => (k_extra "m_S"; first | walk1 | (dsimp only; walk1)))
  (k_with "m_enter" => ((
    case ho => k_is
    case hcd => k_is
    case hb => first | exact BindsTo.of_eq rfl | exact binds_K (by assumption) rfl (by k_is) rfl rfl rfl
    case hl => exact locs rfl
    case hc => decide
    case h1 => exact rfl
    case h2 => exact rfl
    case h3 => exact rfl)))
  (k_with "m_enterC" => ((
    case ho => k_is
    case hcd => k_is
    case hb => first | exact BindsTo.of_eq rfl | exact binds_K (by assumption) rfl (by k_is) rfl rfl rfl
    case hl => exact rfl
    case hn => decide +kernel
    case h1 => exact rfl
    case h2 => exact rfl
    case h3 => exact rfl)))
  (k_with "eval ListComp" => (((fail_if_success (with_reducible rename NoHalt => nh')); refine halt ?_)))
  (k_with "eval DictComp" => (((fail_if_success (with_reducible rename NoHalt => nh')); refine halt ?_)))
  (k_with "eval Name" => (k_dflt ((with_reducible show wpAny _ _ (eval (Expr.Name _ _) (compEnvC _ _ _ _)) _ _ _); refine' comp_cell ?xq5 ?Nq5 ?cq5 ?mq5 ?dq5 ?_ ?kq5 ?bq5; (case xq5 => exact rfl); (case Nq5 => k_asm); (case cq5 => exact rfl); (case mq5 => k_mem); (case dq5 => k_asm); (case kq5 => exact rfl); (case bq5 => decide))))
  (k_with "eval Name" => (k_dflt ((with_reducible show wpAny _ _ (eval (Expr.Name _ _) (compEnvC _ _ _ _)) _ _ _); refine' comp_local ?xq6 ?Nq6 ?cq6 ?_ ?kq6 ?bq6; (case xq6 => exact rfl); (case Nq6 => k_asm); (case cq6 => exact rfl); (case kq6 => exact rfl); (case bq6 => decide))))
  (k_with "m_tail" => (first
    | exact fun _ h => h
    | ((with_reducible refine sub_tl ?_); k_extra "m_tail")
    | ((with_reducible refine sub_lf ?_); k_extra "m_tail")
    | ((with_reducible refine sub_rt ?_); k_extra "m_tail")))
  (k_with "m_in" => (first
    | exact List.Mem.head _
    | assumption
    | ((refine List.Mem.tail _ ?_); k_extra "m_in")
    | ((refine List.mem_append_left _ ?_); k_extra "m_in")
    | ((refine List.mem_append_right _ ?_); k_extra "m_in")))
  (k_with "m_sub1" => (first
    | exact sub_nil
    | ((with_reducible refine sub_cons ?_ ?_); k_extra "m_in"; k_extra "m_sub1")
    | ((with_reducible refine sub_app ?_ ?_); k_extra "m_sub1"; k_extra "m_sub1")
    | k_extra "m_tail"))
  (k_with "m_sub" => (((try dsimp only [List.cons_append, List.nil_append]); k_extra "m_sub1")))
  (k_with "m_k_ne" => ((refine neN ?_; (try dsimp only); first | assumption | exact Ne.symm (by assumption) | exact Nat.ne_of_lt (by assumption) | exact Nat.ne_of_gt (by assumption) | exact all_ne (by assumption) (by k_mem) | exact Ne.symm (all_ne (by assumption) (by k_mem)) | exact ne_lt2 (by assumption) (by assumption) | exact Ne.symm (ne_lt2 (by assumption) (by assumption)) | (refine' News_ne_cls ?nqNq11 ?nqaq11 ?nqbq11 ?nqcq11; (case nqNq11 => k_asm); (case nqaq11 => k_mem); (case nqbq11 => k_mem); (case nqcq11 => rfl)) | omega)))
  (k_with "exec While BoolOp cons nil" => (refine halt ?_))
  (k_with "exec While Constant cons nil" => (refine halt ?_))
  (k_with "exec While Compare cons nil" => (refine halt ?_))
  (k_with "compareOp NotIn ref ref" => (refine halt ?_))
  (k_with "compareOp In ref ref" => (refine halt ?_))
  (k_with "m_off" => (first | exact off_nil | ((refine off_cons ?_ ?_); k_all; k_extra "m_off")))
  (k_with "m_k_all" => (first | assumption | exact OwnOff.ne (by assumption) (by k_memK) | ((with_reducible refine List.forall_mem_append.mpr ⟨?_, ?_⟩); k_all; k_all) | ((with_reducible refine List.forall_mem_cons.mpr ⟨?_, ?_⟩); k_ne; k_all) | exact List.forall_mem_nil _ | fail "k_all"))
  (k_with "eval Name" => (k_dflt ((with_reducible show wpAny _ _ (eval (Expr.Name _ _) (compEnvC _ _ _ _)) _ _ _); refine' LCgL.ld_global ?qFq19 ?qXq19 ?qTq19 ?qeq19 ?_ ?qgq19 ?qkq19 ?qxq19 ?qdq19; (case qFq19 => k_asm); (case qXq19 => k_asm); (case qTq19 => k_asm); (case qeq19 => k_is); (case qgq19 => exact rfl); (case qkq19 => exact rfl); (case qxq19 => exact rfl); (case qdq19 => decide))))
  (k_with "m_clos" => ((
    case hclos => with_unfolding_all rfl
    case hcell => decide
    case hkind => rfl
    case hnames => decide
    case hx => rfl
    case hs => exact fun _ => rfl
    case hh => rfl)))
  (k_with "m_k_mem" => (k_dflt (first | assumption | (refine List.mem_append_left _ ?_; k_mem) | (refine List.mem_append_right _ ?_; k_mem))))
  (k_with "exec For Name Name cons nil" => (k_extra "m_for"))
  (k_with "exec For Name Name cons cons" => (k_extra "m_for"))
  (k_with "exec For Name Call cons nil" => (k_extra "m_for"))
  (k_with "exec For Name Attribute cons nil" => (k_extra "m_for"))
  (k_with "exec For Name Subscript cons nil" => (k_extra "m_for"))
  (k_with "exec For Tuple Name cons nil" => (k_extra "m_for"))
  (k_with "exec For Tuple Call cons nil" => (k_extra "m_for"))
  (k_with "m_slice" => (k_dflt ((with_reducible show wpAny _ _ (subscriptTail _ (PySem.Expr.Slice _ none none _) (Value.ref _) (Value.ref _)) _ _ _); first
    | (refine' r_sliceList1 ?k1q31 ?k2q31 ?k3q31 ?k4q31 ?_ ?k5q31 ?k6q31; (case k1q31 => k_asm); (case k2q31 => k_asm); (case k3q31 => k_extra "m_list"); (case k4q31 => k_extra "m_lt"); (case k5q31 => with_unfolding_all rfl); (case k6q31 => intro _; with_unfolding_all rfl); walk_at "i5")
    | (refine' r_sliceTup ?k1q31 ?k2q31 ?k3q31 ?k4q31 ?k5q31 ?k6q31 ?k7q31 ?_ ?k8q31 ?k9q31; (case k1q31 => k_asm); (case k2q31 => k_asm); (case k3q31 => k_extra "m_tup"); (case k4q31 => exact cast1 _); (case k5q31 => k_extra "m_lt"); (case k6q31 => k_extra "m_lt"); (case k7q31 => k_extra "m_lt"); (case k8q31 => with_unfolding_all rfl); (case k9q31 => intro _; with_unfolding_all rfl); walk_at "i5")
    | fail "m_slice")))
  (k_with "m_list" => (first | is_list | (refine' r_isList ?qiaq32 ?qibq32; (case qiaq32 => k_asm); (case qibq32 => k_mem))))
  (k_with "m_tup" => (first | is_tup | (refine' r_isTup ?qiaq33 ?qibq33; (case qiaq33 => k_asm); (case qibq33 => k_mem))))
  (k_with "call type:tuple" => (k_dflt ((with_reducible show wpAny _ _ (call (Value.type _) [Value.ref _]) _ _ _); (refine' r_tupleOf ?k1q34 ?k2q34 ?k3q34 ?k4q34 ?_; (case k1q34 => k_asm); (case k2q34 => k_asm); (case k3q34 => k_extra "m_list"); (case k4q34 => assumption); k_whole); walk_at "i5")))
  (k_with "m_len" => (first | assumption | omega | ((try simp only [List.length_append, List.length_cons, List.length_nil, List.length_map]); omega)))
  (k_with "call builtin:len" => (k_dflt ((with_reducible show wpAny _ _ (call (Value.builtin "len") [Value.ref _]) _ _ _); first
    | (refine' r_lenList ?k1q36 ?k2q36 ?_; (case k1q36 => k_extra "m_list"); (case k2q36 => k_extra "m_len"); k_whole)
    | (refine' r_lenTup ?k1q36 ?k2q36 ?_; (case k1q36 => k_extra "m_tup"); (case k2q36 => k_extra "m_len"); k_whole)
    | fail "len")))
  (k_with "truthy ref" => (k_dflt ((with_reducible show wpAny _ _ (truthy (Value.ref _)) _ _ _); first
    | (refine' r_truthyList ?k1q37 ?k2q37 ?_; (case k1q37 => k_extra "m_list"); (case k2q37 => k_extra "m_len"); k_whole)
    | (refine' r_truthyTup ?k1q37 ?k2q37 ?_; (case k1q37 => k_extra "m_tup"); (case k2q37 => k_extra "m_len"); k_whole)
    | (refine' r_truthyDict ?k1q37 ?k2q37 ?k3q37 ?k4q37 ?k5q37 ?_; (case k1q37 => k_asm); (case k2q37 => k_mem); (case k3q37 => k_asm); (case k4q37 => assumption); (case k5q37 => k_extra "m_len"); intro _)
    | fail "truthy")))
  (k_with "compareOp In str ref" => (k_dflt ((with_reducible show wpAny _ _ (compareOp CmpOp.In (Value.str _ _) (Value.ref _)) _ _ _); first
    | (refine' in_list_strs ?k1q38 ?k2q38 ?_; (case k1q38 => k_extra "m_list"); (case k2q38 => assumption); k_whole)
    | (refine' r_inTup ?k1q38 ?k2q38 ?_; (case k1q38 => k_extra "m_tup"); (case k2q38 => assumption); k_whole)
    | fail "in")))
  (k_with "compareOp NotIn str ref" => (k_dflt ((with_reducible show wpAny _ _ (compareOp CmpOp.NotIn (Value.str _ _) (Value.ref _)) _ _ _); first
    | (refine' notin_list_strs ?k1q39 ?k2q39 ?_; (case k1q39 => k_extra "m_list"); (case k2q39 => assumption); k_whole)
    | (refine' r_notinTup ?k1q39 ?k2q39 ?_; (case k1q39 => k_extra "m_tup"); (case k2q39 => assumption); k_whole)
    | fail "notin")))
  (k_with "m_k_units" => (first | omega | (simp only [Around.deeper, Around.in1, Around.mark] at *; omega)))
  (k_with "call builtin:all" => (k_dflt ((with_reducible show wpAny _ _ (call (Value.builtin "all") [Value.ref _]) _ _ _); (refine' all_strs ?khq41 ?kFq41 ?kNq41 ?kpq41 ?_; (case kFq41 => k_asm); (case kNq41 => k_asm); (case kpq41 => assumption); (case khq41 => rfl)); intro _ _ _ _; (try simp only []))))
  (k_with "m_lt" => (first | assumption | omega))
  (k_with "subscriptTail" => (k_dflt ((with_reducible show wpAny _ _ (subscriptTail _ _ (Value.ref _) (Value.int _ _)) _ _ _); (refine' r_itemList ?k1q43 ?k2q43 ?k3q43 ?k4q43 ?k5q43 ?_ ?k6q43; (case k1q43 => k_extra "m_list"); (case k2q43 => assumption); (case k3q43 => k_extra "m_lt"); (case k4q43 => k_extra "m_lt"); (case k5q43 => k_extra "m_lt"); (case k6q43 => exact rfl)); intro _ _ _)))
  (k_with "m_din" => (first | (with_reducible assumption) | assumption | exact (rfl : _ = true) | exact (rfl : _ = false) | exact rfl))
  (k_with "m_dat" => (first | assumption | exact rfl))
  (k_with "compareOp In str ref" => (k_dflt ((with_reducible show wpAny _ _ (compareOp CmpOp.In (Value.str _ _) (Value.ref _)) _ _ _); (refine' kda_in (knd := PySem.strKind _ _) ?k1q46 ?k2q46 ?k3q46 ?k4q46 (strKind_is _ _ _ _) _ ?k6q46 ?_; (case k1q46 => k_asm); (case k2q46 => k_mem); (case k3q46 => k_asm); (case k4q46 => first | (with_reducible assumption) | assumption); (case k6q46 => k_extra "m_din")))))
  (k_with "compareOp NotIn str ref" => (k_dflt ((with_reducible show wpAny _ _ (compareOp CmpOp.NotIn (Value.str _ _) (Value.ref _)) _ _ _); (refine' kdg_notin (knd := PySem.strKind _ _) ?k1q47 ?k2q47 ?k3q47 ?k4q47 (strKind_is _ _ _ _) _ ?k6q47 ?_; (case k1q47 => k_asm); (case k2q47 => k_mem); (case k3q47 => k_asm); (case k4q47 => first | (with_reducible assumption) | assumption); (case k6q47 => k_extra "m_din")))))
  (k_with "subscriptTail" => (((with_reducible show wpAny _ _ (subscriptTail _ _ (Value.ref _) (Value.str _ _)) _ _ _); k_dflt (refine' kdt_tail ?k1q48 ?k2q48 ?k3q48 ?_ ?k4q48; (case k1q48 => k_asm); (case k2q48 => k_mem); (case k3q48 => k_asm); (case k4q48 => exact rfl)))))
  (k_with "subscriptTail" => (k_dflt ((with_reducible show wpAny _ _ (subscriptTail _ _ (Value.ref _) (Value.str _ _)) _ _ _); (refine' kda_item (knd := PySem.strKind _ _) ?k1q49 ?k2q49 ?k3q49 (strKind_is _ _ _ _) ?k4q49 ?_; (case k1q49 => k_asm); (case k2q49 => k_mem); (case k3q49 => k_asm); (case k4q49 => k_extra "m_dat")))))
  (k_with "setItem ref str" => (k_dflt ((refine' kda_set (knd := PySem.strKind _ _) ?Fq50 ?Nq50 ?Uq50 ?dq50 (strKind_is _ _ _ _) ?zq50 ?_; (case Fq50 => k_asm); (case Nq50 => k_asm); (case Uq50 => k_updF); (case dq50 => k_asm); (case zq50 => first | assumption | (rw [sizeLine_eq]; exact Nat.le_of_ble_eq_true (by with_unfolding_all rfl)))); walk_at "i5d")))
  (k_with "getAttr ref" => (k_dflt (refine' get_own ?k1q51 ?k2q51 ?k3q51 ?k4q51 ?k5q51 ?k6q51 ?k7q51 ?k8q51 ?k9q51 ?_; (case k1q51 => k_asm); (case k2q51 => k_asm); (case k3q51 => k_inst); (case k8q51 => assumption); (case k4q51 => k_is); (case k5q51 => k_is); (case k6q51 => k_is); (case k7q51 => k_is); (case k9q51 => exact rfl))))
  (k_with "call builtin:str.join" => (k_dflt ((with_reducible show wpAny _ _ (call (Value.builtin "str.join") [Value.str _ _, Value.ref _]) _ _ _); (refine' r_joinTup ?k1q52 ?k2q52 ?k3q52 ?k4q52 ?k5q52 ?_; (case k1q52 => k_extra "m_tup"); (case k2q52 => assumption); (case k3q52 => assumption); (case k4q52 => assumption); (case k5q52 => decide)); intro _ _ _ _)))
  (k_with "getMethod ref" => (k_dflt (refine' method_inst ?k1q53 ?k2q53 ?k3q53 ?k4q53 ?k5q53 ?k6q53 ?k7q53 ?_; (case k1q53 => k_asm); (case k2q53 => k_asm); (case k3q53 => k_inst); (case k7q53 => assumption); (case k4q53 => k_is); (case k5q53 => k_is); (case k6q53 => k_is))))
  (k_with "getItem ref str" => (k_dflt ((with_reducible show wpAny _ _ (getItem (Value.ref _) (Value.str _ _)) _ _ _); (refine' kdt_getItem (knd := PySem.strKind _ _) ?k1q54 ?k2q54 ?k3q54 (strKind_is _ _ _ _) ?k4q54 ?_; (case k1q54 => k_asm); (case k2q54 => k_mem); (case k3q54 => k_asm); (case k4q54 => k_extra "m_dat")))))
  (k_with "subscriptTail Name Slice ref ref" => (k_extra "m_slice"))
  (k_with "subscriptTail Attribute Slice ref ref" => (k_extra "m_slice"))
  (k_with "subscriptTail" => (k_dflt ((with_reducible show wpAny _ _ (subscriptTail _ _ (Value.ref _) (Value.int _ _)) _ _ _); (refine' r_itemL ?k1q57 ?k3q57 ?k4q57 ?k2q57 ?_ ?k6q57; (case k1q57 => k_extra "m_list"); (case k2q57 => exact rfl); (case k3q57 => decide); (case k4q57 => decide); (case k6q57 => exact rfl)))))
  (k_with "call builtin:list.append" => (k_dflt ((with_reducible show wpAny _ _ (call (Value.builtin "list.append") [Value.ref _, _]) _ _ _); (refine' append_L3 ?k1q62 ?k2q62 ?k3q62 ?k4q62 ?k5q62 ?k6q62 ?_; (case k1q62 => k_asm); (case k2q62 => k_asm); (case k3q62 => assumption); (case k4q62 => assumption); (case k5q62 => assumption); (case k6q62 => assumption)); intro _ _ _)))
  (k_with "m_for" => (k_dflt ((refine' For_GF ?kFq30 ?k1q30 ?k2q30 ?_; (case kFq30 => assumption); (case k1q30 => exact PassesOwn.never); (case k2q30 => exact fun _ => rfl)))))
  trivial
noncomputable def sABC : List Str := ["a", "b", "c"]
noncomputable def contW (CF : Str → List Str) (v rest : List Str) : List Str := (edgF v rest).flatMap CF
noncomputable def rowU (CF : Str → List Str) (v : List Str) (z : Str) (l : List Str) : Nat → List Str
  | 0 => []
  | n + 1 => rowU CF v z l n ++ (if l[n]? = some z then contW CF v (l.drop (n + 1)) else [])
noncomputable def basW (CF : Str → List Str) (v : List Str) (z : Str) (rules : List (Str × List Str)) : List Str :=
  (if z = "S" then (["$end"] : List Str) else []) ++ rules.flatMap fun r => rowU CF v z r.2 r.2.length
noncomputable def oneE (v : List Str) (name s : Str) (rest : List Str) : List (Str × Str) := if s ∈ sABC then [] else if ∀ y ∈ rest, y ∈ v then [(s, name)] else []
noncomputable def rowE (v : List Str) (name : Str) (l : List Str) : Nat → List (Str × Str)
  | 0 => []
  | n + 1 => rowE v name l n ++ (match l[n]? with | some s => oneE v name s (l.drop (n + 1)) | none => [])
noncomputable def edgW (v : List Str) (rules : List (Str × List Str)) : List (Str × Str) := rules.flatMap fun r => rowE v r.1 r.2 r.2.length
theorem basW_snoc {CF : Str → List Str} {v : List Str} {z : Str} {rules : List (Str × List Str)} {r : Str × List Str} : basW CF v z (rules ++ [r]) = basW CF v z rules ++ rowU CF v z r.2 r.2.length := by
  unfold basW
  rw [List.flatMap_append, List.append_assoc]
  simp
theorem edgW_snoc {v : List Str} {rules : List (Str × List Str)} {r : Str × List Str} : edgW v (rules ++ [r]) = edgW v rules ++ rowE v r.1 r.2 r.2.length := by
  unfold edgW
  rw [List.flatMap_append]
  simp
theorem mem_rowU {CF : Str → List Str} {v l : List Str} {z f : Str} : ∀ {n : Nat}, f ∈ rowU CF v z l n ↔ ∃ j, j < n ∧ l[j]? = some z ∧ f ∈ contW CF v (l.drop (j + 1))
  | 0 => by simp [rowU]
  | n + 1 => by
    unfold rowU
    rw [List.mem_append, mem_rowU]
    constructor
    · rintro (⟨j, h1, h2⟩ | h)
      · exact ⟨j, Nat.lt_succ_of_lt h1, h2⟩
      · split at h
        · rename_i e; exact ⟨n, Nat.lt_succ_self _, e, h⟩
        · cases h
    · rintro ⟨j, h1, h2, h3⟩
      rcases Nat.lt_succ_iff_lt_or_eq.mp h1 with q | rfl
      · exact .inl ⟨j, q, h2, h3⟩
      · right; rw [if_pos h2]; exact h3
theorem mem_rowE {v l : List Str} {name s t : Str} : ∀ {n : Nat}, (s, t) ∈ rowE v name l n ↔ t = name ∧ ∃ j, j < n ∧ l[j]? = some s ∧ s ∉ sABC ∧ ∀ y ∈ l.drop (j + 1), y ∈ v
  | 0 => by simp [rowE]
  | n + 1 => by
    unfold rowE
    rw [List.mem_append, mem_rowE]
    constructor
    · rintro (⟨rfl, j, h1, h2⟩ | h)
      · exact ⟨rfl, j, Nat.lt_succ_of_lt h1, h2⟩
      · split at h
        · rename_i s' e
          unfold oneE at h
          split at h
          · cases h
          · rename_i hs
            split at h
            · rename_i ha
              rw [List.mem_singleton] at h
              cases h
              exact ⟨rfl, n, Nat.lt_succ_self _, e, hs, ha⟩
            · cases h
        · cases h
    · rintro ⟨rfl, j, h1, h2, h3, h4⟩
      rcases Nat.lt_succ_iff_lt_or_eq.mp h1 with q | rfl
      · exact .inl ⟨rfl, j, q, h2, h3, h4⟩
      · right
        rw [h2]
        show (s, t) ∈ oneE v t s _
        unfold oneE
        rw [if_neg h3, if_pos h4]
        exact .head _
theorem mem_contW {CF : Str → List Str} {v rest : List Str} {f : Str} : f ∈ contW CF v rest ↔ ∃ pre y post, rest = pre ++ y :: post ∧ (∀ x ∈ pre, x ∈ v) ∧ f ∈ CF y := by
  unfold contW
  rw [List.mem_flatMap]
  constructor
  · rintro ⟨y, hy, hf⟩
    obtain ⟨pre, post, e, hp⟩ := mem_edgF.mp hy
    exact ⟨pre, y, post, e, hp, hf⟩
  · rintro ⟨pre, y, post, e, hp, hf⟩
    exact ⟨y, mem_edgF.mpr ⟨pre, post, e, hp⟩, hf⟩
theorem mem_basW {CF : Str → List Str} {v : List Str} {z f : Str} {rules : List (Str × List Str)} : f ∈ basW CF v z rules ↔ (z = "S" ∧ f = "$end") ∨ ∃ r ∈ rules, ∃ j, r.2[j]? = some z ∧ f ∈ contW CF v (r.2.drop (j + 1)) := by
  unfold basW
  rw [List.mem_append, List.mem_flatMap]
  constructor
  · rintro (h | ⟨r, hr, h⟩)
    · split at h
      · rename_i e; exact .inl ⟨e, List.mem_singleton.mp h⟩
      · cases h
    · obtain ⟨j, _, h2, h3⟩ := mem_rowU.mp h
      exact .inr ⟨r, hr, j, h2, h3⟩
  · rintro (⟨rfl, rfl⟩ | ⟨r, hr, j, h2, h3⟩)
    · left; rw [if_pos rfl]; exact .head _
    · exact .inr ⟨r, hr, mem_rowU.mpr ⟨j, (drop_at h2).1, h2, h3⟩⟩
theorem mem_edgW {v : List Str} {s t : Str} {rules : List (Str × List Str)} : (s, t) ∈ edgW v rules ↔ ∃ r ∈ rules, r.1 = t ∧ ∃ j, r.2[j]? = some s ∧ s ∉ sABC ∧ ∀ y ∈ r.2.drop (j + 1), y ∈ v := by
  unfold edgW
  rw [List.mem_flatMap]
  constructor
  · rintro ⟨r, hr, h⟩
    obtain ⟨rfl, j, _, h2⟩ := mem_rowE.mp h
    exact ⟨r, hr, rfl, j, h2⟩
  · rintro ⟨r, hr, rfl, j, h1, h2⟩
    exact ⟨r, hr, mem_rowE.mpr ⟨rfl, j, (drop_at h1).1, h1, h2⟩⟩
theorem name_abc {s : Str} (h : s ∈ sSYMS) : s ∈ sNAMES ∨ s ∈ sABC := by
  simp only [sSYMS, List.mem_cons, List.not_mem_nil, or_false] at h
  rcases h with rfl | rfl | rfl | rfl | rfl | rfl <;> decide
theorem name_not {s : Str} (h : s ∈ sNAMES) : s ∉ sABC := by
  simp only [sNAMES, List.mem_cons, List.not_mem_nil, or_false] at h
  rcases h with rfl | rfl | rfl <;> decide
theorem reach_left' {es : List (Str × Str)} {n x f : Str} (he : (n, x) ∈ es) (h : Reach es x f) : Reach es n f := by
  induction h with
  | refl => exact .step .refl he
  | step _ h ih => exact .step ih h
theorem fol_reach {rules : List (Str × List Str)} {v : List Str} {CF : Str → List Str} (hok : ∀ r ∈ rules, RuleOk r) (hv : ∀ t, t ∈ v ↔ Emp rules t) (hCF : ∀ y ∈ sSYMS, ∀ f, f ∈ CF y ↔ Fir rules y f) {z f : Str} (hz : z ∈ sNAMES) :
    Fol rules z f ↔ ∃ t, Reach (edgW v rules) z t ∧ f ∈ basW CF v t rules := by
  constructor
  · intro h
    induction h with
    | fin => exact ⟨"S", .refl, mem_basW.mpr (.inl ⟨rfl, rfl⟩)⟩
    | @first n b f pre rest hr h hf =>
      obtain ⟨e1, e2⟩ := split_at (l := pre ++ b :: rest) rfl
      refine ⟨b, .refl, mem_basW.mpr (.inr ⟨_, hr, pre.length, e1, ?_⟩)⟩
      show f ∈ contW CF v ((pre ++ b :: rest).drop (pre.length + 1))
      rw [e2]
      rcases h with ⟨p1, y, p2, rfl, h1, h2, h3⟩ | ⟨h1, _⟩
      · have hy : y ∈ sSYMS := (hok _ hr).2.2 y (List.mem_append_right _ (.tail _ (List.mem_append_right _ (.head _))))
        refine mem_contW.mpr ⟨p1, y, p2, rfl, fun x hx => (hv x).mpr ?_, (hCF y hy f).mpr ?_⟩
        · rcases h1 x hx with q | q
          · exact q.2
          · exact absurd rfl q.1
        · rcases h2 with q | q
          · exact absurd q.1 hf
          · exact q.2
      · exact absurd h1 hf
    | @up n b f pre rest hr h _ ih =>
      obtain ⟨t, h1, h2⟩ := ih (hok _ hr).1
      obtain ⟨e1, e2⟩ := split_at (l := pre ++ b :: rest) rfl
      refine ⟨t, reach_left' (mem_edgW.mpr ⟨_, hr, rfl, pre.length, e1, name_not hz, ?_⟩) h1, h2⟩
      show ∀ y ∈ (pre ++ b :: rest).drop (pre.length + 1), y ∈ v
      rw [e2]
      exact fun y hy => (hv y).mpr (h y hy)
  · rintro ⟨t, h1, h2⟩
    have up : ∀ {p : Str}, Reach (edgW v rules) z p → ∀ f, Fol rules p f → Fol rules z f := fun {p} h => by
      induction h with
      | refl => exact fun _ h => h
      | step _ he ih =>
        obtain ⟨r, hr, rfl, j, e, _, ha⟩ := mem_edgW.mp he
        have e' := of_at e
        refine fun f h => ih f (.up (n := r.1) (pre := r.2.take j) (rest := r.2.drop (j + 1)) (by rw [← e']; exact hr) (fun y hy => (hv y).mp (ha y hy)) h)
    refine up h1 f ?_
    rcases mem_basW.mp h2 with ⟨rfl, rfl⟩ | ⟨r, hr, j, e, hc⟩
    · exact .fin
    · obtain ⟨p1, y, p2, e2, hp, hf⟩ := mem_contW.mp hc
      have e' := of_at e
      have hy : y ∈ sSYMS := (hok _ hr).2.2 y (List.mem_of_mem_drop (i := j + 1) (by rw [e2]; exact List.mem_append_right _ (.head _)))
      have hF := (hCF y hy f).mp hf
      have hfe : f ≠ sEMP := fun q => by
        have := fir_term hF
        rw [q] at this
        revert this; decide
      refine .first (n := r.1) (pre := r.2.take j) (rest := r.2.drop (j + 1)) (by rw [← e']; exact hr) (.inl ⟨p1, y, p2, e2, fun x hx => .inl ⟨rfl, (hv x).mp (hp x hx)⟩, .inr ⟨hfe, hF⟩, hfe⟩) hfe
theorem contW_len {CF : Str → List Str} {v rest : List Str} (hr : ∀ y ∈ rest, (CF y).length ≤ 3) : (contW CF v rest).length ≤ 3 * rest.length := by
  induction rest with
  | nil => simp [contW, edgF]
  | cons x r ih =>
    have h1 := hr x (.head _)
    have h2 := ih fun y hy => hr y (.tail _ hy)
    unfold contW at h2 ⊢
    unfold edgF
    split
    · rw [List.flatMap_cons, List.length_append, List.length_cons]; omega
    · simp only [List.flatMap_cons, List.flatMap_nil, List.append_nil, List.length_cons]; omega
theorem rowU_len {CF : Str → List Str} {v l : List Str} {z : Str} (hr : ∀ y ∈ l, (CF y).length ≤ 3) (hl : l.length ≤ 3) : ∀ n, (rowU CF v z l n).length ≤ 9 * n
  | 0 => Nat.le_refl _
  | n + 1 => by
    have ih := rowU_len (v := v) (z := z) hr hl n
    have h1 := contW_len (v := v) (rest := l.drop (n + 1)) fun y hy => hr y (List.mem_of_mem_drop hy)
    rw [List.length_drop] at h1
    unfold rowU
    rw [List.length_append]
    split
    · omega
    · simp; omega
theorem basW_len {CF : Str → List Str} {v : List Str} {z : Str} : ∀ {rules : List (Str × List Str)}, (∀ r ∈ rules, RuleOk r) → (∀ y ∈ sSYMS, (CF y).length ≤ 3) → (basW CF v z rules).length ≤ 1 + 27 * rules.length
  | rules, hok, hCF => by
    unfold basW
    rw [List.length_append]
    have h1 : (if z = "S" then (["$end"] : List Str) else []).length ≤ 1 := by split <;> simp
    have h2 : ∀ rs : List (Str × List Str), (∀ r ∈ rs, RuleOk r) → (rs.flatMap fun r => rowU CF v z r.2 r.2.length).length ≤ 27 * rs.length := by
      intro rs h
      induction rs with
      | nil => simp
      | cons r rs ih =>
        have h3 := ih fun r hr => h r (.tail _ hr)
        have h4 := (h r (.head _)).2.1
        have h5 := rowU_len (v := v) (z := z) (l := r.2) (fun y hy => hCF y ((h r (.head _)).2.2 y hy)) h4 r.2.length
        rw [List.flatMap_cons, List.length_append, List.length_cons]
        omega
    have := h2 rules hok
    omega
theorem rowE_len {v l : List Str} {name : Str} : ∀ n, (rowE v name l n).length ≤ n
  | 0 => Nat.le_refl _
  | n + 1 => by
    have ih := rowE_len (v := v) (l := l) (name := name) n
    have h1 : ∀ s rest, (oneE v name s rest).length ≤ 1 := fun s rest => by
      unfold oneE; split
      · exact Nat.zero_le _
      · split
        · exact Nat.le_refl _
        · exact Nat.zero_le _
    unfold rowE
    rw [List.length_append]
    split
    · have := h1 ‹Str› (l.drop (n + 1)); omega
    · simp; omega
theorem edgW_len {v : List Str} : ∀ {rules : List (Str × List Str)}, (∀ r ∈ rules, RuleOk r) → (edgW v rules).length ≤ 3 * rules.length
  | [], _ => Nat.le_refl _
  | r :: rs, h => by
    have ih := edgW_len (v := v) (rules := rs) fun r hr => h r (.tail _ hr)
    have h1 := (h r (.head _)).2.1
    have h2 := rowE_len (v := v) (l := r.2) (name := r.1) r.2.length
    show (rowE v r.1 r.2 r.2.length ++ edgW v rs).length ≤ _
    rw [List.length_append, List.length_cons]
    omega
theorem edgW_sym {v : List Str} {rules : List (Str × List Str)} (hok : ∀ r ∈ rules, RuleOk r) : ∀ e ∈ edgW v rules, e.2 ∈ sNAMES := by
  rintro ⟨s, t⟩ he
  obtain ⟨r, hr, rfl, _⟩ := mem_edgW.mp he
  exact (hok r hr).1
theorem names_syms {s : Str} (h : s ∈ sNAMES) : s ∈ sSYMS := by
  simp only [sNAMES, List.mem_cons, List.not_mem_nil, or_false] at h
  rcases h with rfl | rfl | rfl <;> decide
theorem rowU_abc {CF : Str → List Str} {v l : List Str} {z z' : Str} {i : Nat} (h : l[i]? = some z) (hz : z ∈ sABC) (hz' : z' ∈ sNAMES) : rowU CF v z' l (i + 1) = rowU CF v z' l i := by
  show rowU CF v z' l i ++ (if l[i]? = some z' then _ else _) = _
  rw [if_neg, List.append_nil]
  intro q
  rw [h] at q
  cases q
  exact name_not hz' hz
theorem rowU_name {CF : Str → List Str} {v l : List Str} {z z' : Str} {i : Nat} (h : l[i]? = some z) : rowU CF v z' l (i + 1) = rowU CF v z' l i ++ (if z' = z then contW CF v (l.drop (i + 1)) else []) := by
  show rowU CF v z' l i ++ (if l[i]? = some z' then _ else _) = _
  by_cases q : z' = z
  · rw [if_pos q, if_pos (by rw [h, q])]
  · rw [if_neg q, if_neg (by rw [h]; exact fun e => q (Option.some.inj e).symm)]
theorem rowE_abc {v l : List Str} {name z : Str} {i : Nat} (h : l[i]? = some z) (hz : z ∈ sABC) : rowE v name l (i + 1) = rowE v name l i := by
  show rowE v name l i ++ (match l[i]? with | some s => oneE v name s (l.drop (i + 1)) | none => []) = _
  rw [h]
  show rowE v name l i ++ oneE v name z _ = _
  unfold oneE
  rw [if_pos hz, List.append_nil]
theorem rowE_yes {v l : List Str} {name z : Str} {i : Nat} (h : l[i]? = some z) (hz : z ∉ sABC) (ha : ∀ y ∈ l.drop (i + 1), y ∈ v) : rowE v name l (i + 1) = rowE v name l i ++ [(z, name)] := by
  show rowE v name l i ++ (match l[i]? with | some s => oneE v name s (l.drop (i + 1)) | none => []) = _
  rw [h]
  show rowE v name l i ++ oneE v name z _ = _
  unfold oneE
  rw [if_neg hz, if_pos ha]
theorem rowE_no {v l : List Str} {name z : Str} {i : Nat} (h : l[i]? = some z) (ha : ¬ ∀ y ∈ l.drop (i + 1), y ∈ v) : rowE v name l (i + 1) = rowE v name l i := by
  show rowE v name l i ++ (match l[i]? with | some s => oneE v name s (l.drop (i + 1)) | none => []) = _
  rw [h]
  show rowE v name l i ++ oneE v name z _ = _
  unfold oneE
  by_cases hz : z ∈ sABC
  · rw [if_pos hz, List.append_nil]
  · rw [if_neg hz, if_neg ha, List.append_nil]
theorem contW_all {CF : Str → List Str} {v rest : List Str} (ha : ∀ y ∈ rest, y ∈ v) : contW CF v rest = rest.flatMap CF := by
  have := edgF_drop (v := v) (l := rest) (i := rest.length) (by rw [List.take_length]; exact ha)
  rw [List.take_length, List.drop_length] at this
  unfold contW
  rw [this]; simp [edgF]
theorem contW_brk {CF : Str → List Str} {v rest : List Str} {i : Nat} {y : Str} (h : rest[i]? = some y) (ha : ∀ x ∈ rest.take i, x ∈ v) (hy : y ∉ v) : contW CF v rest = (rest.take i).flatMap CF ++ CF y := by
  unfold contW
  rw [edgF_drop ha, (drop_at h).2.1]
  show (rest.take i ++ (if y ∈ v then y :: edgF v (rest.drop (i + 1)) else [y])).flatMap CF = _
  rw [if_neg hy, List.flatMap_append]
  simp
noncomputable def evW (B : Str → List Str) (acc : List Str) (t : Str) : List Str := acc ++ (B t).filter fun x => decide (x ∉ acc)
theorem mem_foldEv {B : Str → List Str} {f : Str} : ∀ {rs acc : List Str}, f ∈ rs.foldl (evW B) acc ↔ f ∈ acc ∨ ∃ t ∈ rs, f ∈ B t
  | [], acc => by simp
  | t :: rs, acc => by
    rw [List.foldl_cons, mem_foldEv]
    unfold evW
    rw [List.mem_append, List.mem_filter]
    constructor
    · rintro ((h | ⟨h, _⟩) | ⟨t', h1, h2⟩)
      · exact .inl h
      · exact .inr ⟨t, .head _, h⟩
      · exact .inr ⟨t', .tail _ h1, h2⟩
    · rintro (h | ⟨t', h1, h2⟩)
      · exact .inl (.inl h)
      · rcases List.mem_cons.mp h1 with rfl | h1
        · by_cases q : f ∈ acc
          · exact .inl (.inl q)
          · exact .inl (.inr ⟨h2, by simpa using q⟩)
        · exact .inr ⟨t', h1, h2⟩
theorem foldEv_len {B : Str → List Str} {n : Nat} : ∀ {rs acc : List Str}, (∀ t ∈ rs, (B t).length ≤ n) → (rs.foldl (evW B) acc).length ≤ acc.length + n * rs.length
  | [], acc, _ => by simp
  | t :: rs, acc, h => by
    rw [List.foldl_cons]
    have h1 := foldEv_len (B := B) (n := n) (rs := rs) (acc := evW B acc t) fun t ht => h t (.tail _ ht)
    have h2 := h t (.head _)
    have h3 : ((B t).filter fun x => decide (x ∉ acc)).length ≤ (B t).length := List.length_filter_le _ _
    unfold evW at h1
    rw [List.length_append] at h1
    rw [List.length_cons, Nat.mul_succ]
    unfold evW
    omega
theorem foldEv_take {B : Str → List Str} {rs : List Str} {i : Nat} {t : Str} (h : rs[i]? = some t) : (rs.take (i + 1)).foldl (evW B) [] = evW B ((rs.take i).foldl (evW B) []) t := by
  rw [(drop_at h).2.2, List.foldl_append]
  rfl
theorem in_abc {prog : Program} {w : World} {A : Around} {E : Value → Shared → Prop} {s : Shared} {z : Str} {u t : Tok} {Q : Value → Shared → Prop} (hz : z ∈ sSYMS) (h : Q (.bool (decide (z ∈ sABC))) s) : wpAny (model prog w) A (compareOp .In (.str z u) (.str "abc" t)) Q E s := by
  refine in_str ?_
  have e : (!(Builtin.Str.occurrences "abc" z 0 (Str.length "abc") 1).isEmpty) = decide (z ∈ sABC) := by
    simp only [sSYMS, List.mem_cons, List.not_mem_nil, or_false] at hz
    rcases hz with rfl | rfl | rfl | rfl | rfl | rfl <;> decide +kernel
  rw [e]; exact h
theorem add_LS {prog : Program} {w : World} {A : Around} {E : Value → Shared → Prop} {s : Shared} {g : Heap} {L a b : Addr} {m : Str → Option Value} {news : List (Addr × Obj)} {vs ws : List Value} {Q : Value → Shared → Prop} (F : Fr g L s.heap m) (N : News g L s.heap news)
    (ha : s.heap.IsList a vs.toArray) (hb : s.heap.IsList b ws.toArray) (hz : vs.length + ws.length ≤ 10000)
    (h : ∀ D h', Fr g L h' m → News g L h' ((D, W.listOf (vs ++ ws).toArray 0) :: news) → (∀ p ∈ news, @LT.lt Nat _ p.1 D) → Q (.ref D) { s with heap := h' }) : wpAny (model prog w) A (binaryOp .Add (.ref a) (.ref b)) Q E s :=
  add_lists F N ha hb (fun h' F' N' => h _ h' F' N' fun p hp => Heap.lt_size (N p hp).1) (by rw [sizeLine_eq]; omega)
theorem kdn_strL {prog : Program} {w : World} {A : Around} {env : Env} {E : Value → Shared → Prop} {Q : Value → Shared → Prop} {s : Shared} {h₀ : Heap} {L : Addr} {m : Str → Option Value} {news : List (Addr × Obj)}
    {keys : List (Option PySem.Expr)} {values : List PySem.Expr} {pos : Pos} (q : strLits keys = true) (F : Fr h₀ L s.heap m) (N : News h₀ L s.heap news) (hbig : h₀.NoLimit)
    (hall : keys.all (·.isSome) = true) (hl : keys.length = values.length) (h0 : keys ≠ []) (hlen : keys.length ≤ 15)
    (h : ∀ (d : Addr) h' o, Fr h₀ L h' m → News h₀ L h' ((d, o) :: news) → AllLt d news → (d == sysModules) = false → o.IsDictOf (PySem.strKind prog w) [] →
      wpAny (model prog w) A (evalPairs (pairTrees keys values env pos)) (fun vs s₁ => KdnMade prog w (PySem.strKind prog w) d Q vs s₁) E { s with heap := h' }) :
    wpAny (model prog w) A (eval (.Dict keys values pos) env) Q E s := kdn_str q F N hbig hall hl h0 hlen fun d h' o F' N' l => h d h' o F' N' (allLt_of l)
noncomputable def kv3 (la : Str → Addr) : List (Str × Value) := [("S", .ref (la "S")), ("A", .ref (la "A")), ("B", .ref (la "B"))]
noncomputable def upd3 {α : Type} (f : Str → α) (z : Str) (x : α) : Str → α := fun y => if y = z then x else f y
theorem kv3_set {la : Str → Addr} {z : Str} {a : Addr} (hz : z ∈ sNAMES) : stored (kv3 la) z (.ref a) = kv3 (upd3 la z a) := by
  simp only [sNAMES, List.mem_cons, List.not_mem_nil, or_false] at hz
  rcases hz with rfl | rfl | rfl <;> rfl
theorem kv3_at {la : Str → Addr} {z : Str} (hz : z ∈ sNAMES) : valueAt (kv3 la) z = some (.ref (la z)) := by
  simp only [sNAMES, List.mem_cons, List.not_mem_nil, or_false] at hz
  rcases hz with rfl | rfl | rfl <;> rfl
theorem L3_at {la : Str → Addr} {V : Str → List Value} {K : Str → Nat} {z : Str} (hz : z ∈ sNAMES) : (la z, W.listOf (V z).toArray (K z)) ∈ L3 la V K := by
  simp only [sNAMES, List.mem_cons, List.not_mem_nil, or_false] at hz
  rcases hz with rfl | rfl | rfl
  · exact .head _
  · exact .tail _ (.head _)
  · exact .tail _ (.tail _ (.head _))
theorem L3_upd {la : Str → Addr} {V : Str → List Value} {K : Str → Nat} {z : Str} {a : Addr} {vs : List Value} : ∀ p ∈ L3 (upd3 la z a) (upd3 V z vs) (upd3 K z 0), p ∈ (a, W.listOf vs.toArray 0) :: L3 la V K := by
  intro p hp
  simp only [L3, List.mem_cons, List.not_mem_nil, or_false] at hp ⊢
  unfold upd3 at hp
  by_cases h1 : ("S" : Str) = z
  · subst h1
    rcases hp with rfl | rfl | rfl
    · exact .inl rfl
    · exact .inr (.inr (.inl rfl))
    · exact .inr (.inr (.inr rfl))
  · by_cases h2 : ("A" : Str) = z
    · subst h2
      rcases hp with rfl | rfl | rfl
      · exact .inr (.inl rfl)
      · exact .inl rfl
      · exact .inr (.inr (.inr rfl))
    · by_cases h3 : ("B" : Str) = z
      · subst h3
        rcases hp with rfl | rfl | rfl
        · exact .inr (.inl rfl)
        · exact .inr (.inr (.inl rfl))
        · exact .inl rfl
      · simp only [if_neg h1, if_neg h2, if_neg h3] at hp
        exact .inr hp
inductive JB (prog : Program) (w : World) (bl l c : Addr) (tail own : List (Addr × Obj)) (rl fl : Addr) (B : Str → List Str) (es : List (Str × Str)) (m : Str → Option Value) (news : List (Addr × Obj)) : Prop
  | mk (ob evs k ex la V K) (h1 : news = (bl, ob) :: (l, W.listOf (evs : List Value).toArray k) :: (L3 la V K ++ (ex ++ tail))) (h2 : ob.IsDictOf (strKind prog w) (kv3 la)) (h3 : (∀ z ∈ sNAMES, StrsAre (V z) (B z))) (h4 : EdgesIn ex evs es) (h5 : (∀ q ∈ L3 la V K ++ ex, q.1 ≠ bl ∧ q.1 ≠ l ∧ @Ne Nat q.1 c)) (h6 : Apart (L3 la V K ++ ex) own) (h7 : m "rules" = some (.ref rl)) (h8 : m "firsts" = some (.ref fl)) (h9 : m "base" = some (.ref bl)) (h10 : m "edges" = some (.ref l)) : JB prog w bl l c tail own rl fl B es m news
theorem L3_sub {big : List (Addr × Obj)} {la : Str → Addr} {V : Str → List Value} {K : Str → Nat} {z : Str} {a : Addr} {vs : List Value} (h0 : (a, W.listOf vs.toArray 0) ∈ big) (h1 : ∀ p ∈ L3 la V K, p ∈ big) : ∀ p ∈ L3 (upd3 la z a) (upd3 V z vs) (upd3 K z 0), p ∈ big := by
  intro p hp
  rcases List.mem_cons.mp (L3_upd p hp) with rfl | hp
  · exact h0
  · exact h1 p hp
theorem V3_upd {V : Str → List Value} {B B' : Str → List Str} {z : Str} {vs : List Value} {ss : List Str} (hV : ∀ y ∈ sNAMES, StrsAre (V y) (B y)) (h : StrsAre vs ss) (hz : B z ++ ss = B' z) (ho : ∀ y, y ≠ z → B y = B' y) : ∀ y ∈ sNAMES, StrsAre (upd3 V z (V z ++ vs) y) (B' y) := by
  intro y hy
  unfold upd3
  by_cases q : y = z
  · subst q
    rw [if_pos rfl, ← hz]
    exact (hV y hy).append' h
  · rw [if_neg q, ← ho y q]
    exact hV y hy
theorem L3_ne {P : Addr → Prop} {la : Str → Addr} {V : Str → List Value} {K : Str → Nat} {ex : List (Addr × Obj)} {z : Str} {a : Addr} {vs : List Value} (h : ∀ q ∈ L3 la V K ++ ex, P q.1) (ha : P a) : ∀ q ∈ L3 (upd3 la z a) (upd3 V z vs) (upd3 K z 0) ++ ex, P q.1 := by
  intro q hq
  rcases List.mem_append.mp hq with hq | hq
  · rcases List.mem_cons.mp (L3_upd q hq) with rfl | hq
    · exact ha
    · exact h q (List.mem_append_left _ hq)
  · exact h q (List.mem_append_right _ hq)
theorem JB_start {prog : Program} {w : World} {g h : Heap} {L bl l c lS lA lB : Addr} {tail : List (Addr × Obj)} {rl fl : Addr} {CF : Str → List Str} {v : List Str} {ob : Obj} {t : Tok} {m : Str → Option Value}
    (F : Fr g L h m) (hob : ob.IsDictOf (strKind prog w) [("S", .ref lS), ("A", .ref lA), ("B", .ref lB)]) (N : News g L h ((l, W.listOf #[] 0) :: (lB, W.listOf #[] 0) :: (lA, W.listOf #[] 0) :: (lS, W.listOf #[.str "$end" t] 0) :: (bl, ob) :: tail))
    (h1 : @Ne Nat lS bl) (h2 : @Ne Nat lA bl) (h3 : @Ne Nat lB bl) (h4 : @Ne Nat lS l) (h5 : @Ne Nat lA l) (h6 : @Ne Nat lB l) (h7 : @Ne Nat lS c) (h8 : @Ne Nat lA c) (h9 : @Ne Nat lB c) (m1 : m "rules" = some (.ref rl)) (m2 : m "firsts" = some (.ref fl)) (m3 : m "base" = some (.ref bl)) (m4 : m "edges" = some (.ref l)) :
    ∃ news, News g L h news ∧ JB prog w bl l c tail [] rl fl (fun z => basW CF v z []) (edgW v []) m news := by
  refine ⟨_, News_sub N ?_, ob, [], 0, [], (fun z => if z = "S" then lS else if z = "A" then lA else lB), (fun z => if z = "S" then [.str "$end" t] else []), (fun _ => 0), rfl, hob, ?_, .nil, ?_, fun _ _ _ h => (nomatch h), m1, m2, m3, m4⟩
  · intro p hp
    have hp : p ∈ (bl, ob) :: (l, W.listOf #[] 0) :: (lS, W.listOf #[.str "$end" t] 0) :: (lA, W.listOf #[] 0) :: (lB, W.listOf #[] 0) :: tail := hp
    simp only [List.mem_cons] at hp ⊢
    rcases hp with q | q | q | q | q | q <;> simp only [q, true_or, or_true]
  · intro z hz
    simp only [sNAMES, List.mem_cons, List.not_mem_nil, or_false] at hz
    rcases hz with rfl | rfl | rfl
    · exact .cons _ _ .nil
    · exact .nil
    · exact .nil
  · intro q hq
    have hq : q ∈ [(lS, W.listOf #[.str "$end" t] 0), (lA, W.listOf #[] 0), (lB, W.listOf #[] 0)] := hq
    simp only [List.mem_cons, List.not_mem_nil, or_false] at hq
    rcases hq with rfl | rfl | rfl
    · exact ⟨h1, h4, h7⟩
    · exact ⟨h2, h5, h8⟩
    · exact ⟨h3, h6, h9⟩
noncomputable def PFol (rules : List (Str × List Str)) (z : Str) (ss : List Str) : Prop := ss.Nodup ∧ (∀ f, f ∈ ss ↔ Fol rules z f) ∧ sortedS ss = true
inductive JN (prog : Program) (w : World) (rules : List (Str × List Str)) (nl : Addr) (onl : Obj) (fw c : Addr) (tail led : List (Addr × Obj)) (bl l : Addr) (i : Nat) (m : Str → Option Value) (news : List (Addr × Obj)) : Prop
  | mk (fo kvs oe x ow) (h1 : news = (fw, fo) :: (c, oe) :: (nl, onl) :: (ow ++ tail)) (h2 : fo.IsDictOf (strKind prog w) kvs) (h3 : kvs.map (·.1) = sNAMES.take i) (h4 : oe.data = .cell x) (h5 : FamIn ow kvs (PFol rules)) (h6 : Apart ow led) (h7 : (∀ q ∈ ow, q.1 ≠ fw ∧ @Ne Nat q.1 c)) (h8 : m "base" = some (.ref bl)) (h9 : m "edges" = some (.ref l)) (h10 : m "follows" = some (.ref fw)) : JN prog w rules nl onl fw c tail led bl l i m news
noncomputable def StepB (g : Heap) (L : Addr) (Jn JD : (Str → Option Value) → List (Addr × Obj) → Prop) (own : List (Addr × Obj)) (s₁ : Shared) (Q : Flow → Shared → Prop) (f : Flow) (s₂ : Shared) : Prop :=
  match f with
  | .ret v => Q (.ret v) s₂
  | .brk => ∃ h' tk' m' news', s₂ = { s₁ with heap := h', toks := tk' } ∧ Fr g L h' m' ∧ News g L h' news' ∧ JD m' news'
  | _ => EndG g L Jn own s₁ s₂
theorem StepB.next {g : Heap} {L : Addr} {Jn JD : (Str → Option Value) → List (Addr × Obj) → Prop} {own : List (Addr × Obj)} {s₁ s₂ : Shared} {Q : Flow → Shared → Prop} (h : EndG g L Jn own s₁ s₂) : StepB g L Jn JD own s₁ Q .next s₂ := h
theorem StepB.brk {g : Heap} {L : Addr} {Jn JD : (Str → Option Value) → List (Addr × Obj) → Prop} {own news₀ : List (Addr × Obj)} {s₁ : Shared} {Q : Flow → Shared → Prop} {h' : Heap} {tk' : Nat} {m' : Str → Option Value} (news' : List (Addr × Obj)) (F : Fr g L h' m') (N : News g L h' news₀) (hs : ∀ p ∈ news', p ∈ news₀) (hj : JD m' news') :
    StepB g L Jn JD own s₁ Q .brk { s₁ with heap := h', toks := tk' } := ⟨h', tk', m', news', rfl, F, News_sub N hs, hj⟩
section
variable {prog : Program} {w : World} {A : Around} {env : Env} {E : Value → Shared → Prop} {Q : Flow → Shared → Prop} {s : Shared} {x : Str} {px : Pos} {body : List Stmt} {g : Heap} {a : Addr} {oa : Obj} {vs : List Value} {ss : List Str} {m : Str → Option Value} {news : List (Addr × Obj)}
theorem g_strs_brk (J : Nat → (Str → Option Value) → List (Addr × Obj) → Prop) (JD : (Str → Option Value) → List (Addr × Obj) → Prop)
    (hh : A.handled = none) (ha0 : s.heap.get? a = some oa) (hl : (oa.cls = .type "list" ∨ oa.cls = .type "tuple") ∧ ∃ n, oa.data = .seq vs.toArray n) (hS : StrsAre vs ss) (F : Fr g env.locals s.heap m) (N : News g env.locals s.heap news)
    (hx : env.kindOf x = some .local) (hp : (env.scope.kind == .class || (env.scope.kind == .module && env.locals != env.globals)) = false) (h0 : J 0 m news) (hcont : ∀ i m news, J i m news → (a, oa) ∈ news ∨ g.get? a = some oa)
    (turn : ∀ own i z u m₁ news₁ h tk, ss[i]? = some z → J i m₁ news₁ → Apart news₁ own →
      Fr g env.locals h (fun y => if y = x then some (.str z u) else m₁ y) → News g env.locals h (news₁ ++ own) →
      wpAny (model prog w) A (execs body env) (StepB g env.locals (J (i + 1)) JD own { s with heap := h, toks := tk } Q) E { s with heap := h, toks := tk })
    (done : ∀ m news, J ss.length m news → JD m news)
    (after : ∀ h tk m₁ news₁, JD m₁ news₁ → Fr g env.locals h m₁ → News g env.locals h news₁ → Q .next { s with heap := h, toks := tk }) :
    wpAny (model prog w) A (pyIter (.ref a)) (fun it s₂ => LoopG prog w A g env (.Name x px) body [] Q E it s₂) E s := by
  refine g_strs J hh ha0 hl hS F N hx hp h0 hcont (fun own i z u m₁ news₁ h tk hz hJ hoff F N => wpAny_mono (turn own i z u m₁ news₁ h tk hz hJ hoff F N) (fun f s₂ hf => ?_) fun _ _ e => e) (fun h tk m₁ news₁ hJ F N => ?_)
  · cases f with
    | ret v => exact hf
    | brk =>
      obtain ⟨h', tk', m', news', rfl, F', N', hj⟩ := hf
      exact after h' tk' m' news' hj F' N'
    | cont => exact hf
    | next => exact hf
  · exact wpAny_pure (after h tk m₁ news₁ (done _ _ hJ) F N)
inductive EndD (g : Heap) (L : Addr) (Jn : (Str → Option Value) → List (Addr × Obj) → Prop) (own : List (Addr × Obj)) (s₁ s₂ : Shared) : Prop
  | mk (h' : Heap) (tk' : Nat) (d' : Drawn) (m' : Str → Option Value) (news' : List (Addr × Obj)) (h1 : s₂ = { s₁ with heap := h', toks := tk', drawn := d' }) (h2 : Fr g L h' m') (h3 : News g L h' (news' ++ own)) (h4 : Apart news' own) (h5 : Jn m' news') : EndD g L Jn own s₁ s₂
noncomputable def StepD (g : Heap) (L : Addr) (Jn : (Str → Option Value) → List (Addr × Obj) → Prop) (own : List (Addr × Obj)) (s₁ : Shared) (Q : Flow → Shared → Prop) (f : Flow) (s₂ : Shared) : Prop :=
  match f with
  | .ret v => Q (.ret v) s₂
  | .brk => Q .next s₂
  | _ => EndD g L Jn own s₁ s₂
inductive StD (n₀ : Nat) (I a : Addr) (g : Heap) (L : Addr) (s : Shared) (J : Nat → (Str → Option Value) → List (Addr × Obj) → Prop) (n : Nat) (s' : Shared) : Prop
  | mk (h' : Heap) (tk : Nat) (d : Drawn) (m' : Str → Option Value) (news' : List (Addr × Obj)) (i : Nat) (h1 : s' = { s with heap := h', toks := tk, drawn := d }) (h2 : h'.IsListIter I a i) (h3 : Fr g L h' m') (h4 : News g L h' news') (h5 : ∀ p ∈ news', p.1 ≠ I) (h6 : J i m' news') (h7 : i ≤ n₀) (h8 : n = n₀ + 1 - i) : StD n₀ I a g L s J n s'
theorem StepD.next {g : Heap} {L : Addr} {Jn : (Str → Option Value) → List (Addr × Obj) → Prop} {own news₀ : List (Addr × Obj)} {s₁ : Shared} {Q : Flow → Shared → Prop} {h' : Heap} {tk' : Nat} {d' : Drawn} {m' : Str → Option Value} (news' : List (Addr × Obj)) (F : Fr g L h' m') (N : News g L h' news₀) (hs : ∀ p ∈ news' ++ own, p ∈ news₀) (ha : Apart news' own) (hj : Jn m' news') :
    StepD g L Jn own s₁ Q .next { s₁ with heap := h', toks := tk', drawn := d' } := ⟨h', tk', d', m', news', rfl, F, fun p hp => N p (hs p hp), ha, hj⟩
theorem d_strs (J : Nat → (Str → Option Value) → List (Addr × Obj) → Prop) (hE : PassesOwn (model prog w) A env E)
    (hh : A.handled = none) (ha0 : s.heap.get? a = some oa) (hl : oa.cls = .type "list" ∧ ∃ n, oa.data = .seq vs.toArray n) (hS : StrsAre vs ss) (F : Fr g env.locals s.heap m) (N : News g env.locals s.heap news)
    (hx : env.kindOf x = some .local) (hp : (env.scope.kind == .class || (env.scope.kind == .module && env.locals != env.globals)) = false) (h0 : J 0 m news) (hcont : ∀ i m news, J i m news → (a, oa) ∈ news)
    (turn : ∀ own i z u m₁ news₁ h tk d, ss[i]? = some z → J i m₁ news₁ → Apart news₁ own →
      Fr g env.locals h (fun y => if y = x then some (.str z u) else m₁ y) → News g env.locals h (news₁ ++ own) →
      wpAny (model prog w) A (execs body env) (StepD g env.locals (J (i + 1)) own s Q) E { s with heap := h, toks := tk, drawn := d })
    (done : ∀ h tk d m₁ news₁, J ss.length m₁ news₁ → Fr g env.locals h m₁ → News g env.locals h news₁ →
      Q .next { s with heap := h, toks := tk, drawn := d }) :
    wpAny (model prog w) A (pyIter (.ref a)) (fun it s₂ => codeAny (model prog w) A (.forLoop (.Name x px) it body [] env) (RawR prog w A env Q E) s₂) E s := by
  have hlt := Heap.lt_size ha0
  have hL : s.heap.IsList a vs.toArray := ⟨_, ha0, hl⟩
  refine wpAny_pyIter_list hL ?_
  obtain ⟨I, hI⟩ : ∃ I, I = s.heap.objs.size := ⟨_, rfl⟩
  have hk0 : ∀ b o, s.heap.get? b = some o → (s.heap.push { cls := .type "list_iterator", data := .fields #[.ref a, .int 0 0] }).get? b = some o := fun b o e => Heap.get?_push_of_some _ e
  have hgI : g.get? I = none := by
    cases q : g.get? I with
    | none => rfl
    | some o => exact absurd (Heap.lt_size (F.keep _ _ q)) (by rw [hI]; exact Nat.lt_irrefl _)
  have hLI : env.locals ≠ I := fun q => absurd F.ns.lt (by rw [q, hI]; exact Nat.lt_irrefl _)
  have hIa : a ≠ I := fun q => absurd hlt (by rw [q, hI]; exact Nat.lt_irrefl _)
  have hIr : ∀ p ∈ news, p.1 ≠ I := fun p hp q => absurd (Heap.lt_size (N p hp).1) (by rw [q, hI]; exact Nat.lt_irrefl _)
  rw [← hI]
  have ez : vs.toArray.size = ss.length := by rw [List.size_toArray, hS.length]
  have Wk := Walks.list (prog := prog) (w := w) (A := A) hh I a hIa vs.toArray
  rw [ez] at Wk
  refine codeAny_forLoop_any (R := RawR prog w A env Q E)
    (StD ss.length I a g env.locals s J) ?_ (ss.length + 1)
    ⟨_, s.toks, s.drawn, m, news, 0, rfl, ⟨_, hI ▸ Heap.get?_push_size _ rfl, rfl, rfl⟩, ⟨F.ns.at' fun o e => hk0 _ _ e, fun b o e => hk0 b o (F.keep b o e), F.above⟩, fun p hp => ⟨hk0 _ _ (N p hp).1, (N p hp).2⟩, hIr, h0, Nat.zero_le _, rfl⟩
  rintro n s' ⟨h', tk, d, m', news', i, rfl, hit, F', N', hne, hJ, hi, rfl⟩
  have hL' : h'.IsList a vs.toArray := ⟨_, (N' _ (hcont _ _ _ hJ)).1, hl⟩
  have next : ∀ h₁ : Heap, (∀ b o, b ∉ [I] → h'.get? b = some o → h₁.get? b = some o) → Fr g env.locals h₁ m' ∧ News g env.locals h₁ news' := fun h₁ hk₁ =>
    ⟨Fr_kp F' hk₁ (fun q => hLI (List.mem_singleton.mp q)) (fun b hb => (List.mem_singleton.mp hb) ▸ hgI), News_kp N' hk₁ fun p hp q => hne p hp (List.mem_singleton.mp q)⟩
  by_cases hlt' : i < ss.length
  · refine Wk.item i _ _ _ hlt' ⟨hit, hL'⟩ fun v h₁ tk₁ hP hst hk₁ => ?_
    obtain ⟨F₁, N₁⟩ := next h₁ hk₁
    obtain ⟨z, u, ezz, rfl⟩ := strsAre_get hS (by simpa using hP)
    obtain ⟨hit1, hL1⟩ := hst
    obtain ⟨oI, hoI, hoI2⟩ := id hit1
    have N₂ : News g env.locals h₁ (news' ++ [(I, oI)]) := fun p hp => by
      rcases List.mem_append.mp hp with hp | hp
      · exact N₁ p hp
      · rw [List.mem_singleton.mp hp]; exact ⟨hoI, hLI.symm, hgI⟩
    refine wpAny_of_eq (show letOwnedTupleGo (.Name x px) (.ref I) (.str z u) = pure () from rfl) ?_
    refine wpAny_passesOwn hE (name_J (s := { s with heap := h₁, toks := tk₁, drawn := d }) F₁ N₂ hx hp fun h₂ tk₂ F₂ N₂ => ?_)
    refine wpAny_passesOwn hE (wpAny_mono (turn [(I, oI)] i z u m' news' h₂ tk₂ d ezz hJ (fun p hp q hq => ?_) F₂ N₂) (fun f s₃ h₃ => ?_) fun _ _ x => x)
    · rw [List.mem_singleton.mp hq]; exact (hne p hp).symm
    · have fin : EndD g env.locals (J (i + 1)) [(I, oI)] s s₃ → ∃ n, n < ss.length + 1 - i ∧ StD ss.length I a g env.locals s J n s₃ := by
        rintro ⟨h₄, tk₄, d₄, m₄, news₄, rfl, F₄, N₄, ha₄, hJ₄⟩
        exact ⟨ss.length + 1 - (i + 1), by omega, h₄, tk₄, d₄, m₄, news₄, i + 1, rfl, ⟨oI, (N₄ _ (List.mem_append_right _ (.head _))).1, hoI2⟩, F₄, fun p hp => N₄ p (List.mem_append_left _ hp), fun p hp q => ha₄ p hp _ (.head _) q.symm, hJ₄, hlt', rfl⟩
      cases f with
      | ret v => exact h₃
      | brk => exact h₃
      | cont => exact fin h₃
      | next => exact fin h₃
  · have hin : i = ss.length := Nat.le_antisymm hi (Nat.not_lt.mp hlt')
    subst hin
    refine Wk.done _ _ _ ⟨hit, hL'⟩ fun h₁ tk₁ hk₁ => ?_
    obtain ⟨F₁, N₁⟩ := next h₁ hk₁
    exact wpAny_passesOwn hE (wpAny_pure (done h₁ tk₁ d m' news' hJ F₁ N₁))
end
section Flw
theorem all_off {d : Addr} {l l' : List (Addr × Obj)} (h : AllLt d l) (s : ∀ p ∈ l', p ∈ l) : ∀ q ∈ l', q.1 ≠ d := fun q hq => allLt_ne h q (s q hq)
theorem reg_MFlw : True := by
  (k_with "m_k_all" => (exact all_off (by assumption) (by k_extra "m_tail")))
  (k_with "call builtin:list.append" => (refine halt ?_))
  (k_with "exec For Name Call cons nil" => (refine halt ?_))
  (k_with "call type:set" => (refine halt ?_))
  (k_with "call builtin:sorted" => (refine halt ?_))
  (k_with "eval Dict" => (k_dflt (refine' kdn_strL ?qq81 ?Fq81 ?Nq81 ?bq81 ?aq81 ?lq81 ?eq81 ?nq81 ?_; (case qq81 => rfl); (case Fq81 => k_asm); (case Nq81 => k_asm); (case bq81 => exact TopRead.nolimit (by assumption)); (case aq81 => rfl); (case lq81 => rfl); (case eq81 => exact List.cons_ne_nil _ _); (case nq81 => exact Nat.le_of_ble_eq_true rfl); intro _ _ _ _ _ _ _ _)))
  (k_with "compareOp In str str" => (k_dflt (refine in_abc ?hqq82 ?_; (case hqq82 => assumption))))
  (k_with "binaryOp Add ref ref" => (k_dflt ((with_reducible show wpAny _ _ (binaryOp _ (Value.ref _) (Value.ref _)) _ _ _); refine' add_LS ?k1q83 ?k2q83 ?k3q83 ?k4q83 ?k5q83 ?_; (case k1q83 => k_asm); (case k2q83 => k_asm); (case k3q83 => k_extra "m_list"); (case k4q83 => k_extra "m_list"); (case k5q83 => assumption); walk_at "i5")))
  trivial
theorem t_follows {prog : Program} {w : World} {dp un : Nat} {fr : Option (List Env)} {gd : Option (List Code)} {s : Shared} {hb : Heap} {mg mb : Str → Option Value} {p : Program} {loose : List Str} {R : Result → Shared → Prop}
  (X : (hd.heap_1 w.params).In hb) (T : TopRead p loose mg mb hb) (hs : hb.StaysIn s.heap) (hroom : dp + 10 < recursionLimit) (hu : un + 200 < cLine)
  {led : List (Addr × Obj)} (H : Has hb s.heap led) {rl vl fl : Addr} {trs vvs : List Value} {rules : List (Str × List Str)} {v : List Str} {rk vk : Nat} {ofl : Obj} {kF : List (Str × Value)} {CF : Str → List Str}
  (hrl : (rl, W.listOf trs.toArray rk) ∈ led) (hE : RowsIn led trs rules) (hok : ∀ r ∈ rules, RuleOk r) (hlen : rules.length ≤ 7)
  (hvl : (vl, W.listOf vvs.toArray vk) ∈ led) (hvs : StrsAre vvs v) (hvE : ∀ t, t ∈ v ↔ Emp rules t) (hvn : v.length ≤ 3)
  (hfl : (fl, ofl) ∈ led) (hofl : ofl.IsDictOf (strKind prog w) kF) (hflm : (fl == sysModules) = false) (hfam : ∀ y ∈ sSYMS, Fam kF led CF y) (hCF : ∀ y ∈ sSYMS, ∀ f, f ∈ CF y ↔ Fir rules y f) (hCL : ∀ y ∈ sSYMS, (CF y).length ≤ 3)
  (post : ∀ r h' tk d kvs or own, Kp [] s.heap h' → (∀ p ∈ (r, or) :: own, s.heap.get? p.1 = none ∧ h'.get? p.1 = some p.2) → or.IsDictOf (strKind prog w) kvs → kvs.map (·.1) = sNAMES →
    FamIn own kvs (fun z ss => ss.Nodup ∧ (∀ f, f ∈ ss ↔ Fol rules z f) ∧ sortedS ss = true) → (r == sysModules) = false → R (.ok (.ret (.ref r))) { s with heap := h', toks := tk, drawn := d }) :
  codeAny (model prog w) ⟨none, dp, fr, gd, un⟩ (.call (.ref 294) ⟨[.ref rl, .ref vl, .ref fl], []⟩) R s := by
  have Xs : (hd.heap_1 w.params).In s.heap := X.keeps hs
  refine' enterC (led.map (·.1)) [("rules", .ref rl), ("vanish", .ref vl), ("firsts", .ref fl)] X T hs ?_ ?ho ?hcd (by show dp < _; omega) ?hb ?hl ?hn ?h ?h1 ?h2 ?h3
  walk_at "m_enterC"
  · exact H.base
  intro g L h₁ tk cells F N Y I
  refine letS ?_
  intro SH A1 en Q1
  have hA1 : A1.depth = dp + 1 := rfl
  have hA2 : A1.units = un + 3 := rfl
  have X := I.X
  have T := I.T
  k_cells Y
  rename_i oe ov hoe hov
  have N := N.append (I.putAll H)
  have hlL : ∀ q ∈ led, @LT.lt Nat _ q.1 L := fun q hq => by rw [I.loc]; exact Heap.lt_size (H q hq).1
  simp only [List.cons_append, List.nil_append] at N
  (try ((with_reducible show wpAny _ _ _ _ _ _); k_fold)); k_steps
  rename_i bl _ _ l4 lo _ _ _ _ lS _ l3 _ _ lA _ l2 _ _ lB _ l1 _ _ ob hob _ _ _ l _ l0 _ _ F N _
  have hbl : @Ne Nat bl l := by k_ne
  have hSb : @Ne Nat lS bl := by k_ne
  have hAb : @Ne Nat lA bl := by k_ne
  have hBb : @Ne Nat lB bl := by k_ne
  have hSl : @Ne Nat lS l := by k_ne
  have hAl : @Ne Nat lA l := by k_ne
  have hBl : @Ne Nat lB l := by k_ne
  have hc1b : @Ne Nat (L + 1) bl := by k_ne
  have hc2b : @Ne Nat (L + 1 + 1) bl := by k_ne
  have hc1l : @Ne Nat (L + 1) l := by k_ne
  have hc2l : @Ne Nat (L + 1 + 1) l := by k_ne
  have hledb : ∀ q ∈ led, q.1 ≠ bl := allLt_ne l4.2.2
  have hledl : ∀ q ∈ led, q.1 ≠ l := allLt_ne l0.2.2.2.2.2.2
  obtain ⟨news, N, hJ⟩ := JB_start (rl := rl) (fl := fl) (CF := CF) (v := v) F hob N hSb hAb hBb hSl hAl hBl (c := L + 1 + 1) (by k_ne) (by k_ne) (by k_ne) rfl rfl rfl rfl
  clear l4 l3 l2 l1 l0 hob hSb hAb hBb hSl hAl hBl
  have hJ0 : ∀ {B es m news own tail}, JB prog w bl l (L + 1 + 1) tail own rl fl B es m news → ∀ q ∈ tail, q ∈ news := by
    rintro B es m news own tail ⟨ob, evs, k, ex, la, V, K, rfl, _⟩ q hq
    exact .tail _ (.tail _ (List.mem_append_right _ (List.mem_append_right _ hq)))
  refine g_pairs (fun i m news => JB prog w bl l (L + 1 + 1) ((L + 1 + 1, oe) :: (L + 1, ov) :: led) [] rl fl (fun z => basW CF v z (rules.take i)) (edgW v (rules.take i)) m news) rfl (N _ (hJ0 hJ _ (.tail _ (.tail _ hrl)))).1 ⟨rfl, _, rfl⟩ F N rfl rfl rfl hJ ?_ (fun v hv => hE.ref v (by simpa using hv)) ?_ ?_ ?_
  · intro j m news hJ
    exact .inl (hJ0 hJ _ (.tail _ (.tail _ hrl)))
  · intro j m news b hJ hb
    obtain ⟨r, _, a', b', t1, n1, n2, ws, q, hm, _⟩ := hE.get (by simpa using hb)
    cases q
    exact ⟨_, _, n1, hJ0 hJ _ (.tail _ (.tail _ hm))⟩
  · clear F N hJ
    rintro own j b v1 v2 n m₁ news₁ h tk hb hbm ⟨ob, evs, k, ex, la, V, K, rfl, hob, hV, hEd, hne, _, hm1, hm2, hm3, hm4⟩ hoff F N
    obtain ⟨r, hrj, a', b', t1, n1, n2, ws, q, hm1', hm2', hws⟩ := hE.get (i := j) (v := .ref b) (by simpa using hb)
    cases q
    have hv : v1 = .str r.1 t1 ∧ v2 = .ref b' := by
      have a1 := (N _ (List.mem_append_left _ hbm)).1
      have a2 := (N _ (List.mem_append_left _ (.tail _ (.tail _ (List.mem_append_right _ (List.mem_append_right _ (.tail _ (.tail _ hm1')))))))).1
      dsimp only at a1 a2
      rw [a2] at a1
      injection a1 with a1
      injection a1 with _ _ a1
      injection a1 with a1
      have := congrArg Array.toList a1
      simp at this
      exact ⟨this.1.symm, this.2.symm⟩
    obtain ⟨rfl, rfl⟩ := hv
    have F := Fr_say F (x := "rules") ((if_neg (by decide)).trans ((if_neg (by decide)).trans hm1))
    have F := Fr_say F (x := "firsts") ((if_neg (by decide)).trans ((if_neg (by decide)).trans ((if_neg (by decide)).trans hm2)))
    have F := Fr_say F (x := "base") ((if_neg (by decide)).trans ((if_neg (by decide)).trans ((if_neg (by decide)).trans ((if_neg (by decide)).trans hm3))))
    have F := Fr_say F (x := "edges") ((if_neg (by decide)).trans ((if_neg (by decide)).trans ((if_neg (by decide)).trans ((if_neg (by decide)).trans ((if_neg (by decide)).trans hm4)))))
    have hrm := List.mem_of_getElem? hrj
    have hrok := hok _ hrm
    obtain ⟨hjl, _, htk⟩ := drop_at hrj
    simp only [List.cons_append, List.append_assoc] at N
    (try ((with_reducible show wpAny _ _ _ _ _ _); k_fold)); k_steps
    rename Fr _ _ _ _ => F
    have hoffl : Apart led own := fun p hp => hoff p (.tail _ (.tail _ (List.mem_append_right _ (List.mem_append_right _ (.tail _ (.tail _ hp))))))
    have hoffe : Apart (L3 la V K ++ ex) own := fun p hp => hoff p (.tail _ (.tail _ ((List.mem_append.mp hp).elim (List.mem_append_left _) fun q => List.mem_append_right _ (List.mem_append_left _ q))))
    have hoffb : ∀ q ∈ own, q.1 ≠ bl := hoff.hd
    have hoffe' : ∀ q ∈ own, q.1 ≠ l := hoff.tl.hd
    have hofc1 : ∀ q ∈ own, q.1 ≠ L + 1 := hoff (L + 1, ov) (.tail _ (.tail _ (List.mem_append_right _ (List.mem_append_right _ (.tail _ (.head _))))))
    have hofc2 : ∀ q ∈ own, q.1 ≠ L + 1 + 1 := hoff (L + 1 + 1, oe) (.tail _ (.tail _ (List.mem_append_right _ (List.mem_append_right _ (.head _)))))
    clear hoff hbm
    refine g_enum (fun i m news => JB prog w bl l (L + 1 + 1) ((L + 1 + 1, oe) :: (L + 1, ov) :: (led ++ own)) own rl fl (fun z => basW CF v z (rules.take j) ++ rowU CF v z r.2 i) (edgW v (rules.take j) ++ rowE v r.1 r.2 i) m news ∧ m "name" = some (.str r.1 t1) ∧ m "symbols" = some (.ref b')) rfl
      (N _ (.tail _ (.tail _ (List.mem_append_right _ (List.mem_append_right _ (.tail _ (.tail _ (List.mem_append_left _ hm2')))))))).1 ⟨.inr rfl, _, rfl⟩ hws F N rfl rfl rfl
      ⟨⟨ob, evs, k, ex, la, V, K, rfl, hob, (fun z hz => by simpa [rowU] using hV z hz), by simpa [rowE] using hEd, hne, hoffe, rfl, rfl, rfl, rfl⟩, rfl, rfl⟩ ?_ ?_ ?_
    · rintro i m news ⟨hJ, _⟩
      exact .inl (hJ0 hJ _ (.tail _ (.tail _ (List.mem_append_left _ hm2'))))
    · clear F N hob hV hEd hne hm1 hm2 hm3 hm4 hoffe
      rintro own2 i z ti u m₁ news₁ h tk hz ⟨⟨ob, evs, k, ex, la, V, K, rfl, hob, hV, hEd, hne, hoffe, hm1, hm2, hm3, hm4⟩, hmn, hms⟩ hoff F N
      have F := Fr_say F (x := "rules") ((if_neg (by decide)).trans ((if_neg (by decide)).trans hm1))
      have F := Fr_say F (x := "firsts") ((if_neg (by decide)).trans ((if_neg (by decide)).trans ((if_neg (by decide)).trans hm2)))
      have F := Fr_say F (x := "base") ((if_neg (by decide)).trans ((if_neg (by decide)).trans ((if_neg (by decide)).trans ((if_neg (by decide)).trans hm3))))
      have F := Fr_say F (x := "edges") ((if_neg (by decide)).trans ((if_neg (by decide)).trans ((if_neg (by decide)).trans ((if_neg (by decide)).trans ((if_neg (by decide)).trans hm4)))))
      have F := Fr_say F (x := "name") ((if_neg (by decide)).trans ((if_neg (by decide)).trans ((if_neg (by decide)).trans ((if_neg (by decide)).trans ((if_neg (by decide)).trans ((if_neg (by decide)).trans hmn))))))
      have F := Fr_say F (x := "symbols") ((if_neg (by decide)).trans ((if_neg (by decide)).trans ((if_neg (by decide)).trans ((if_neg (by decide)).trans ((if_neg (by decide)).trans ((if_neg (by decide)).trans ((if_neg (by decide)).trans hms)))))))
      obtain ⟨hil, hidrop, hitk⟩ := drop_at hz
      have hzs : z ∈ sSYMS := hrok.2.2 z (List.mem_of_getElem? hz)
      have hbsl := hws.length
      have hr3l := hrok.2.1
      have hk1 : 1 ≤ i + 1 := by omega
      have hk2 : i + 1 ≤ ws.length := by omega
      have hk3 : ws.length ≤ 16384 := by omega
      simp only [List.cons_append, List.append_assoc] at N
      (try ((with_reducible show wpAny _ _ _ _ _ _); k_fold)); k_steps
      · rename _ ∈ sABC => hzA
        refine StepG.cont (EndG.mk ((bl, ob) :: (l, W.listOf evs.toArray k) :: (L3 la V K ++ (ex ++ ((L + 1 + 1, oe) :: (L + 1, ov) :: (led ++ own))))) F N (by walk_at "m_sub") hoff ⟨⟨ob, evs, k, ex, la, V, K, rfl, hob, fun z' hz' => ?_, ?_, hne, hoffe, rfl, rfl, rfl, rfl⟩, rfl, rfl⟩)
        · try dsimp only
          rw [rowU_abc hz hzA hz']; exact hV z' hz'
        · rw [rowE_abc hz hzA]; exact hEd
      · rename ¬ _ ∈ sABC => hzA
        have hzn : z ∈ sNAMES := (name_abc hzs).resolve_right hzA
        rename_i D _ _ _ lD _ _ F N _
        have hDb : @Ne Nat D bl := by k_ne
        have hDl : @Ne Nat D l := by k_ne
        have hoff2b : ∀ q ∈ own2, q.1 ≠ bl := hoff.hd
        have hoff2l : ∀ q ∈ own2, q.1 ≠ l := hoff.tl.hd
        have hoff2 : Apart ((L + 1 + 1, oe) :: (L + 1, ov) :: (led ++ own)) own2 := fun p hp => hoff p (.tail _ (.tail _ (List.mem_append_right _ (List.mem_append_right _ hp))))
        have hoffe2 : Apart (L3 la V K ++ ex) own2 := fun p hp => hoff p (.tail _ (.tail _ ((List.mem_append.mp hp).elim (List.mem_append_left _) fun q => List.mem_append_right _ (List.mem_append_left _ q))))
        have hoffe3 : Apart (L3 la V K ++ ex) (own ++ own2) := fun p hp q hq => (List.mem_append.mp hq).elim (hoffe p hp q) (hoffe2 p hp q)
        clear hoff
        refine g_strs_brk (fun q m news => JB prog w bl l (L + 1 + 1) ((D, tupOf (ws.drop (i + 1)) 0) :: (L + 1 + 1, oe) :: (L + 1, ov) :: (led ++ (own ++ own2))) (own ++ own2) rl fl (fun z' => (basW CF v z' (rules.take j) ++ rowU CF v z' r.2 i) ++ (if z' = z then ((r.2.drop (i + 1)).take q).flatMap CF else [])) (edgW v (rules.take j) ++ rowE v r.1 r.2 i) m news ∧
            (∀ y ∈ (r.2.drop (i + 1)).take q, y ∈ v) ∧ m "name" = some (.str r.1 t1) ∧ m "symbols" = some (.ref b') ∧ m "s" = some (.str z u) ∧ m "rest" = some (.ref D))
          (fun m news => JB prog w bl l (L + 1 + 1) ((D, tupOf (ws.drop (i + 1)) 0) :: (L + 1 + 1, oe) :: (L + 1, ov) :: (led ++ (own ++ own2))) (own ++ own2) rl fl (fun z' => basW CF v z' (rules.take j) ++ rowU CF v z' r.2 (i + 1)) (edgW v (rules.take j) ++ rowE v r.1 r.2 i) m news ∧
            m "name" = some (.str r.1 t1) ∧ m "symbols" = some (.ref b') ∧ m "s" = some (.str z u) ∧ m "rest" = some (.ref D))
          rfl (N _ (.head _)).1 ⟨.inr rfl, _, rfl⟩ (hws.drop' (i + 1)) F (News_sub N (news' := (bl, ob) :: (l, W.listOf evs.toArray k) :: (L3 la V K ++ (ex ++ ((D, tupOf (ws.drop (i + 1)) 0) :: (L + 1 + 1, oe) :: (L + 1, ov) :: (led ++ (own ++ own2)))))) (by walk_at "m_sub")) rfl rfl
          ⟨⟨ob, evs, k, ex, la, V, K, rfl, hob, (fun z' hz' => by simpa using hV z' hz'), hEd, hne, hoffe3, rfl, rfl, rfl, rfl⟩, (by simp), rfl, rfl, rfl, rfl⟩ ?_ ?_ ?_ ?_
        · rintro q m news ⟨hJ, _⟩
          exact .inl (hJ0 hJ _ (.head _))
        · clear F N hob hV hEd hne hm1 hm2 hm3 hm4 hmn hms hoffe hoffe2 hoffe3 lD
          rintro own3 q y uy m₁ news₁ h tk hy ⟨⟨ob, evs, k, ex, la, V, K, rfl, hob, hV, hEd, hne, hap, hm1, hm2, hm3, hm4⟩, hall, hmn, hms, hmz, hmr⟩ hoff F N
          have F := Fr_say F (x := "rules") ((if_neg (by decide)).trans hm1)
          have F := Fr_say F (x := "firsts") ((if_neg (by decide)).trans ((if_neg (by decide)).trans hm2))
          have F := Fr_say F (x := "base") ((if_neg (by decide)).trans ((if_neg (by decide)).trans ((if_neg (by decide)).trans hm3)))
          have F := Fr_say F (x := "edges") ((if_neg (by decide)).trans ((if_neg (by decide)).trans ((if_neg (by decide)).trans ((if_neg (by decide)).trans hm4))))
          have F := Fr_say F (x := "name") ((if_neg (by decide)).trans ((if_neg (by decide)).trans ((if_neg (by decide)).trans ((if_neg (by decide)).trans ((if_neg (by decide)).trans hmn)))))
          have F := Fr_say F (x := "symbols") ((if_neg (by decide)).trans ((if_neg (by decide)).trans ((if_neg (by decide)).trans ((if_neg (by decide)).trans ((if_neg (by decide)).trans ((if_neg (by decide)).trans hms))))))
          have F := Fr_say F (x := "s") ((if_neg (by decide)).trans ((if_neg (by decide)).trans ((if_neg (by decide)).trans ((if_neg (by decide)).trans ((if_neg (by decide)).trans ((if_neg (by decide)).trans ((if_neg (by decide)).trans hmz)))))))
          have F := Fr_say F (x := "rest") ((if_neg (by decide)).trans ((if_neg (by decide)).trans ((if_neg (by decide)).trans ((if_neg (by decide)).trans ((if_neg (by decide)).trans ((if_neg (by decide)).trans ((if_neg (by decide)).trans ((if_neg (by decide)).trans hmr))))))))
          obtain ⟨hql, hqdrop, hqtk⟩ := drop_at hy
          have hys : y ∈ sSYMS := hrok.2.2 y (List.mem_of_mem_drop (List.mem_of_getElem? hy))
          obtain ⟨fa, fws, fn, e1, e2, e3⟩ := hfam y hys
          have hbz : valueAt (kv3 la) z = some (.ref (la z)) := kv3_at hzn
          have hLz : (la z, W.listOf (V z).toArray (K z)) ∈ L3 la V K := L3_at hzn
          have hsz : (V z).length + fws.length ≤ 10000 := by
            have a1 := (hV z hzn).length
            have a2 := e3.length
            have a3 := hCL y hys
            have a4 := basW_len (CF := CF) (v := v) (z := z) (rules := rules.take j) (fun r hr => hok r (List.mem_of_mem_take hr)) hCL
            have a5 := rowU_len (CF := CF) (v := v) (l := r.2) (z := z) (fun y hy => hCL y (hrok.2.2 y hy)) hrok.2.1 i
            have a6 := List.length_take_le j rules
            have a7 := contW_len (CF := CF) (v := v) (rest := (r.2.drop (i + 1)).take q) fun y hy => hCL y (hrok.2.2 y (List.mem_of_mem_drop (List.mem_of_mem_take hy)))
            rw [contW_all hall] at a7
            have a8 := List.length_take_le q (r.2.drop (i + 1))
            have a9 : (r.2.drop (i + 1)).length ≤ r.2.length := by rw [List.length_drop]; omega
            try dsimp only at a1
            rw [if_pos rfl, List.length_append, List.length_append] at a1
            omega
          have hneb : ∀ q ∈ L3 la V K, q.1 ≠ bl := fun q hq => (hne q (List.mem_append_left _ hq)).1
          have hexb : ∀ q ∈ ex, q.1 ≠ bl := fun q hq => (hne q (List.mem_append_right _ hq)).1
          have hoff3b : ∀ q ∈ own3, q.1 ≠ bl := hoff.hd
          simp only [List.cons_append, List.append_assoc] at N
          (try ((with_reducible show wpAny _ _ _ _ _ _); k_fold)); k_steps
          all_goals
            rename_i D2 _ _ _ lD2 _ _ ob' F N hd' _ hin
            rw [kv3_set hzn] at hd'
            have hD2all := allLt_ne lD2.2.2
            have hne' : ∀ q ∈ L3 (upd3 la z D2) (upd3 V z (V z ++ fws)) (upd3 K z 0) ++ ex, q.1 ≠ bl ∧ q.1 ≠ l ∧ @Ne Nat q.1 (L + 1 + 1) := L3_ne (P := fun a => a ≠ bl ∧ a ≠ l ∧ @Ne Nat a (L + 1 + 1)) hne ⟨Nat.ne_of_gt lD2.1, Nat.ne_of_gt lD2.2.1, (hD2all (L + 1 + 1, oe) (List.mem_append_right _ (List.mem_append_right _ (.tail _ (.head _))))).symm⟩
            have hap' : Apart (L3 (upd3 la z D2) (upd3 V z (V z ++ fws)) (upd3 K z 0) ++ ex) (own ++ own2) := L3_ne (P := fun a => ∀ q ∈ own ++ own2, q.1 ≠ a) hap fun q hq => hD2all q (List.mem_append_right _ (List.mem_append_right _ (.tail _ (.tail _ (.tail _ (List.mem_append_right _ (by rcases List.mem_append.mp hq with hq | hq; exact List.mem_append_left _ hq; exact List.mem_append_right _ (List.mem_append_left _ hq))))))))
            have N := News_sub N (news' := (bl, ob') :: (l, W.listOf evs.toArray k) :: (L3 (upd3 la z D2) (upd3 V z (V z ++ fws)) (upd3 K z 0) ++ (ex ++ ((D, tupOf (ws.drop (i + 1)) 0) :: (L + 1 + 1, oe) :: (L + 1, ov) :: (led ++ (own ++ (own2 ++ own3))))))) (List.forall_mem_cons.mpr ⟨by walk_at "m_in", List.forall_mem_cons.mpr ⟨by walk_at "m_in", List.forall_mem_append.mpr ⟨L3_sub (.head _) (by walk_at "m_sub"), by walk_at "m_sub"⟩⟩⟩)
          · have hin := of_decide_eq_true (any_mem hin)
            have hap3 := L3_ne (P := fun a => ∀ q ∈ own3, q.1 ≠ a) (z := z) (a := D2) (vs := V z ++ fws) (K := K) hoff.tl.tl fun q hq => hD2all q (List.mem_append_right _ (List.mem_append_right _ (.tail _ (.tail _ (.tail _ (List.mem_append_right _ (List.mem_append_right _ (List.mem_append_right _ hq))))))))
            refine StepB.next (EndG.mk ((bl, ob') :: (l, W.listOf evs.toArray k) :: (L3 (upd3 la z D2) (upd3 V z (V z ++ fws)) (upd3 K z 0) ++ (ex ++ ((D, tupOf (ws.drop (i + 1)) 0) :: (L + 1 + 1, oe) :: (L + 1, ov) :: (led ++ (own ++ own2)))))) F N (by walk_at "m_sub") (Apart.cons hoff3b (Apart.cons hoff.tl.hd hap3)) ⟨⟨ob', evs, k, ex, _, _, _, rfl, hd', V3_upd hV e3 ?_ ?_, hEd, hne', hap', rfl, rfl, rfl, rfl⟩, ?_, rfl, rfl, rfl, rfl⟩)
            · rw [if_pos rfl, if_pos rfl, hqtk, List.flatMap_append, List.append_assoc]
              simp
            · intro y' hy'
              rw [if_neg hy', if_neg hy']
            · intro y' hy'
              rw [hqtk] at hy'
              rcases List.mem_append.mp hy' with hy' | hy'
              · exact hall y' hy'
              · rw [List.mem_singleton.mp hy']; exact hin
          · have hin := of_decide_eq_false (any_mem hin)
            refine StepB.brk ((bl, ob') :: (l, W.listOf evs.toArray k) :: (L3 (upd3 la z D2) (upd3 V z (V z ++ fws)) (upd3 K z 0) ++ (ex ++ ((D, tupOf (ws.drop (i + 1)) 0) :: (L + 1 + 1, oe) :: (L + 1, ov) :: (led ++ (own ++ own2)))))) F N (by walk_at "m_sub") ⟨⟨ob', evs, k, ex, _, _, _, rfl, hd', V3_upd hV e3 ?_ ?_, hEd, hne', hap', rfl, rfl, rfl, rfl⟩, rfl, rfl, rfl, rfl⟩
            · rw [if_pos rfl, rowU_name hz, if_pos rfl, contW_brk hy hall hin]
              simp only [List.append_assoc]
            · intro y' hy'
              rw [if_neg hy', rowU_name hz, if_neg hy', List.append_nil, List.append_nil]
        · rintro m news ⟨⟨ob, evs, k, ex, la, V, K, rfl, hob, hV, q4, q5, q6, q7, q8, q9, q10⟩, hall, hmm⟩
          rw [List.take_length] at hall
          refine ⟨⟨ob, evs, k, ex, la, V, K, rfl, hob, fun z' hz' => ?_, q4, q5, q6, q7, q8, q9, q10⟩, hmm⟩
          have := hV z' hz'
          try dsimp only at this ⊢
          rw [List.take_length] at this
          rw [rowU_name hz, contW_all hall, ← List.append_assoc]
          exact this
        · clear F N hob hV hEd hne hm1 hm2 hm3 hm4 hmn hms hoffe hoffe2 hoffe3 lD
          rintro h tk m₁ news₁ ⟨⟨ob, evs, k, ex, la, V, K, rfl, hob, hV, hEd, hne, hap, hm1, hm2, hm3, hm4⟩, hmn, hms, hmz, hmr⟩ F N
          have F := Fr_say F (x := "rules") hm1
          have F := Fr_say F (x := "firsts") ((if_neg (by decide)).trans hm2)
          have F := Fr_say F (x := "base") ((if_neg (by decide)).trans ((if_neg (by decide)).trans hm3))
          have F := Fr_say F (x := "edges") ((if_neg (by decide)).trans ((if_neg (by decide)).trans ((if_neg (by decide)).trans hm4)))
          have F := Fr_say F (x := "name") ((if_neg (by decide)).trans ((if_neg (by decide)).trans ((if_neg (by decide)).trans ((if_neg (by decide)).trans hmn))))
          have F := Fr_say F (x := "symbols") ((if_neg (by decide)).trans ((if_neg (by decide)).trans ((if_neg (by decide)).trans ((if_neg (by decide)).trans ((if_neg (by decide)).trans hms)))))
          have F := Fr_say F (x := "s") ((if_neg (by decide)).trans ((if_neg (by decide)).trans ((if_neg (by decide)).trans ((if_neg (by decide)).trans ((if_neg (by decide)).trans ((if_neg (by decide)).trans hmz))))))
          have F := Fr_say F (x := "rest") ((if_neg (by decide)).trans ((if_neg (by decide)).trans ((if_neg (by decide)).trans ((if_neg (by decide)).trans ((if_neg (by decide)).trans ((if_neg (by decide)).trans ((if_neg (by decide)).trans hmr)))))))
          (try ((with_reducible show wpAny _ _ _ _ _ _); k_fold)); k_steps
          refine unhalt ?_
          refine' ListComp_Q (cl := [("vanish", L + 1)]) g (fun _ => true) (fun z y => y = .bool ((fun z => v.any fun x => x == z) z)) ?hclos ?hcell ?hkind ?hnames ?hx ?hs ?hh ?_
          walk_at "m_clos"
          (try ((with_reducible show wpAny _ _ _ _ _ _); k_fold)); k_steps
          rename Fr _ _ _ _ => F
          rename News _ _ _ _ => N
          refine unhalt ⟨r.2.drop (i + 1), _, _, .inl ⟨_, ws.drop (i + 1), rfl, hws.drop' (i + 1), .inr ⟨_, (N _ (.tail _ (.tail _ (List.mem_append_right _ (List.mem_append_right _ (.head _)))))).1, rfl, _, rfl⟩⟩, ?_, F, N, ?_, ?_, ?_⟩
          · rw [sizeLine_eq, List.length_drop]; omega
          · intro C z u E' s₃ m₃ _ _ _ _
            refine wpAny_tests_nil ?_
            exact unhalt ⟨rfl, _, _, rfl, fun _ _ e => e⟩
          · intro C z u E' s₃ m₃ hz _ hb F N
            (try ((with_reducible show wpAny _ _ _ _ _ _); k_fold)); k_steps
            exact unhalt ⟨rfl, _, _, rfl, fun _ _ e => e⟩
          · intro D4 h' tk ys nD hp F N hD4
            have hall : ∀ {b : Bool}, ((r.2.drop (i + 1)).all fun z => v.any fun x => x == z) = b → (b = true ↔ ∀ y ∈ r.2.drop (i + 1), y ∈ v) := fun {b} e => by
              rw [← e, List.all_eq_true]
              constructor
              · intro q y hy; exact of_decide_eq_true (any_mem (q y hy))
              · intro q y hy; have := any_mem (l := v) (x := y) rfl; rw [← this]; exact decide_eq_true (q y hy)
            have hap2 : Apart (L3 la V K ++ ex) own2 := fun p hp q hq => hap p hp q (List.mem_append_right _ hq)
            have hap1 : Apart (L3 la V K ++ ex) own := fun p hp q hq => hap p hp q (List.mem_append_left _ hq)
            have hl16 : evs.length ≤ 16384 := by
              have a1 := edgW_len (v := v) (rules := rules.take j) fun r hr => hok r (List.mem_of_mem_take hr)
              have a2 := rowE_len (v := v) (l := r.2) (name := r.1) i
              have a3 := List.length_take_le j rules
              rw [hEd.length, List.length_append]; omega
            (try ((with_reducible show wpAny _ _ _ _ _ _); k_fold)); k_steps
            all_goals rename Fr _ _ _ _ => F
            all_goals rename News _ _ _ _ => N
            · rename List.all _ _ = _ => ha
              have ha := (hall ha).mp rfl
              refine unhalt ?_
              rename And _ _ => lT
              refine News.hdName N fun T₁ hT => ?_
              subst hT
              have hTall := allLt_ne lT.2.2
              have hTl : T₁ ≠ l := Nat.ne_of_gt lT.2.1
              have hTb : T₁ ≠ bl := Nat.ne_of_gt lT.1
              have N := News_sub N (news' := (l, W.listOf evs.toArray k) :: (T₁, tupOf [Value.str z u, Value.str r.1 t1] 0) :: (bl, ob) :: (L3 la V K ++ (ex ++ ((L + 1 + 1, oe) :: (L + 1, ov) :: (led ++ (own ++ own2)))))) (by walk_at "m_sub")
              refine append_put F N (.head _) hl16 fun h' F N => ?_
              have hoa : ∀ q ∈ (T₁, tupOf [Value.str z u, Value.str r.1 t1] 0) :: (bl, ob) :: (L3 la V K ++ (ex ++ ((L + 1 + 1, oe) :: (L + 1, ov) :: (led ++ (own ++ own2))))), q.1 ≠ l := fun q hq => by
                rcases List.mem_cons.mp hq with rfl | hq
                · exact hTl
                · rcases List.mem_cons.mp hq with rfl | hq
                  · exact hbl
                  · rcases List.mem_append.mp hq with hq | hq
                    · exact (hne q (List.mem_append_left _ hq)).2.1
                    · rcases List.mem_append.mp hq with hq | hq
                      · exact (hne q (List.mem_append_right _ hq)).2.1
                      · rcases List.mem_cons.mp hq with rfl | hq
                        · exact hc2l
                        · rcases List.mem_cons.mp hq with rfl | hq
                          · exact hc1l
                          · rcases List.mem_append.mp hq with hq | hq
                            · exact hledl q hq
                            · rcases List.mem_append.mp hq with hq | hq
                              · exact hoffe' q hq
                              · exact hoff2l q hq
              rw [List.map_cons, put_at, put_off hoa] at N
              have hTo : ∀ q ∈ own, q.1 ≠ T₁ := fun q hq => hTall q (List.mem_append_right _ (List.mem_append_right _ (.tail _ (.tail _ (.tail _ (List.mem_append_right _ (List.mem_append_left _ hq)))))))
              have hTo2 : ∀ q ∈ own2, q.1 ≠ T₁ := fun q hq => hTall q (List.mem_append_right _ (List.mem_append_right _ (.tail _ (.tail _ (.tail _ (List.mem_append_right _ (List.mem_append_right _ hq)))))))
              have mid : ∀ {o2 : List (Addr × Obj)}, Apart (L3 la V K ++ ex) o2 → (∀ q ∈ o2, q.1 ≠ T₁) → Apart (L3 la V K ++ ((T₁, tupOf [Value.str z u, Value.str r.1 t1] 0) :: ex)) o2 := fun h1 h2 p hp => by
                rcases List.mem_append.mp hp with hp | hp
                · exact h1 p (List.mem_append_left _ hp)
                · rcases List.mem_cons.mp hp with rfl | hp
                  · exact h2
                  · exact h1 p (List.mem_append_right _ hp)
              have hap2' := mid hap2 hTo2
              have hEd' : EdgesIn ((T₁, tupOf [Value.str z u, Value.str r.1 t1] 0) :: ex) (evs ++ [.ref T₁]) (edgW v (rules.take j) ++ rowE v r.1 r.2 (i + 1)) := by
                rw [rowE_yes hz hzA ha, ← List.append_assoc]
                exact (hEd.mono fun p hp => .tail _ hp).snoc ⟨T₁, u, t1, 0, rfl, .head _⟩
              have hne' : ∀ q ∈ L3 la V K ++ ((T₁, tupOf [Value.str z u, Value.str r.1 t1] 0) :: ex), q.1 ≠ bl ∧ q.1 ≠ l ∧ @Ne Nat q.1 (L + 1 + 1) := fun q hq => by
                rcases List.mem_append.mp hq with hq | hq
                · exact hne q (List.mem_append_left _ hq)
                · rcases List.mem_cons.mp hq with rfl | hq
                  · exact ⟨hTb, hTl, (hTall (L + 1 + 1, oe) (List.mem_append_right _ (List.mem_append_right _ (.tail _ (.head _))))).symm⟩
                  · exact hne q (List.mem_append_right _ hq)
              (try ((with_reducible show wpAny _ _ _ _ _ _); k_fold)); k_steps
              rename Fr _ _ _ _ => F
              refine StepG.next (EndG.mk ((bl, ob) :: (l, W.listOf (evs ++ [Value.ref T₁]).toArray (k + 1)) :: (L3 la V K ++ (((T₁, tupOf [Value.str z u, Value.str r.1 t1] 0) :: ex) ++ ((L + 1 + 1, oe) :: (L + 1, ov) :: (led ++ own))))) F N (by walk_at "m_sub")
                (Apart.cons hoff2b (Apart.cons hoff2l (fun p hp => (List.mem_append.mp hp).elim (fun q => hap2' p (List.mem_append_left _ q)) fun q => (List.mem_append.mp q).elim (fun q => hap2' p (List.mem_append_right _ q)) (hoff2 p))))
                ⟨⟨ob, _, _, _, la, V, K, rfl, hob, hV, hEd', hne', mid hap1 hTo, rfl, rfl, rfl, rfl⟩, rfl, rfl⟩)
            · rename List.all _ _ = _ => ha
              have ha := fun q => Bool.false_ne_true ((hall ha).mpr q)
              refine StepG.next (EndG.mk ((bl, ob) :: (l, W.listOf evs.toArray k) :: (L3 la V K ++ (ex ++ ((L + 1 + 1, oe) :: (L + 1, ov) :: (led ++ own))))) F N (by walk_at "m_sub")
                (Apart.cons hoff2b (Apart.cons hoff2l (fun p hp => (List.mem_append.mp hp).elim (fun q => hap2 p (List.mem_append_left _ q)) fun q => (List.mem_append.mp q).elim (fun q => hap2 p (List.mem_append_right _ q)) (hoff2 p))))
                ⟨⟨ob, evs, k, ex, la, V, K, rfl, hob, hV, ?_, hne, hap1, rfl, rfl, rfl, rfl⟩, rfl, rfl⟩)
              rw [rowE_no hz ha]; exact hEd
    · clear F N hob hV hEd hne hm1 hm2 hm3 hm4 hoffe
      rintro h tk m₁ news₁ ⟨⟨ob, evs, k, ex, la, V, K, rfl, hob, hV, hEd, hne, hoffe, hm1, hm2, hm3, hm4⟩, hmn, hms⟩ F N
      (try ((with_reducible show wpAny _ _ _ _ _ _); k_fold)); k_steps
      rename Fr _ _ _ _ => F
      refine StepG.next (EndG.mk ((bl, ob) :: (l, W.listOf evs.toArray k) :: (L3 la V K ++ (ex ++ ((L + 1 + 1, oe) :: (L + 1, ov) :: led)))) F N (by walk_at "m_sub")
        (Apart.cons hoffb (Apart.cons hoffe' (fun p hp => (List.mem_append.mp hp).elim (fun q => hoffe p (List.mem_append_left _ q)) fun q => (List.mem_append.mp q).elim (fun q => hoffe p (List.mem_append_right _ q)) ((Apart.cons hofc2 (Apart.cons hofc1 hoffl)) p))))
        ⟨ob, evs, k, ex, la, V, K, rfl, hob, (fun z' hz' => ?_), ?_, hne, (fun _ _ _ h => nomatch h), hm1, hm2, hm3, hm4⟩)
      · show StrsAre (V z') (basW CF v z' (rules.take (j + 1)))
        rw [htk, basW_snoc]; exact hV z' hz'
      · rw [htk, edgW_snoc]; exact hEd
  · clear F N hJ
    rintro h tk m₁ news₁ ⟨ob, evs, k, ex, la, V, K, rfl, hob, hV, hEd, hne, _, hm1, hm2, hm3, hm4⟩ F N
    rw [List.size_toArray, hE.length, List.take_length] at hV hEd
    have F := Fr_say F (x := "base") hm3
    have F := Fr_say F (x := "edges") ((if_neg (by decide)).trans hm4)
    (try ((with_reducible show wpAny _ _ _ _ _ _); k_fold)); k_steps
    rename Fr _ _ _ _ => F
    refine unhalt ?_
    refine For_raw ?_ (fun _ => rfl)
    (try ((with_reducible show wpAny _ _ _ _ _ _); k_fold)); k_steps
    rename News _ _ _ _ => N
    rename And _ _ => lf
    rename Obj.IsDictOf (PySem.strKind prog w) _ [] => hfo
    rename (_ == sysModules) = false => lof
    refine News.hdName N fun fw hfw => ?_
    subst hfw
    refine wpAny_call (t_names X T F.keep (by (try simp only [Around.deeper]); omega) fun nl h' tk' t1 t2 t3 kk hr e => ?_)
    obtain ⟨F, N, ne⟩ := grow_kp F N kk hr e
    dsimp only
    have hnlf : @Ne Nat fw nl := ne _ (.head _)
    have hfwb : @Ne Nat fw bl := Nat.ne_of_gt lf.1
    have hfwl : @Ne Nat fw l := Nat.ne_of_gt lf.2.1
    have hfall := allLt_ne lf.2.2
    obtain ⟨tl, htl⟩ : ∃ tl, tl = (bl, ob) :: (l, W.listOf evs.toArray k) :: (L3 la V K ++ (ex ++ ((L + 1, ov) :: led))) := ⟨_, rfl⟩
    have htlb : (bl, ob) ∈ tl := by rw [htl]; exact .head _
    have htll : (l, W.listOf evs.toArray k) ∈ tl := by rw [htl]; exact .tail _ (.head _)
    have htlL : ∀ z ∈ sNAMES, (la z, W.listOf (V z).toArray (K z)) ∈ tl := fun z hz => by rw [htl]; exact .tail _ (.tail _ (List.mem_append_left _ (L3_at hz)))
    have htle : EdgesIn tl evs (edgW v rules) := by rw [htl]; exact hEd.mono fun q hq => .tail _ (.tail _ (List.mem_append_right _ (List.mem_append_left _ hq)))
    have htlled : ∀ q ∈ led, q ∈ tl := fun q hq => by rw [htl]; exact .tail _ (.tail _ (List.mem_append_right _ (List.mem_append_right _ (.tail _ hq))))
    have htlf : ∀ q ∈ tl, q.1 ≠ fw := by
      rw [htl]
      exact List.forall_mem_cons.mpr ⟨hfwb.symm, List.forall_mem_cons.mpr ⟨hfwl.symm, List.forall_mem_append.mpr ⟨fun q hq => hfall q (List.mem_append_left _ hq), List.forall_mem_append.mpr ⟨fun q hq => hfall q (List.mem_append_right _ (List.mem_append_left _ hq)), fun q hq => hfall q (List.mem_append_right _ (List.mem_append_right _ (.tail _ hq)))⟩⟩⟩⟩
    have htlc : ∀ q ∈ tl, @Ne Nat q.1 (L + 1 + 1) := by
      rw [htl]
      exact List.forall_mem_cons.mpr ⟨hc2b.symm, List.forall_mem_cons.mpr ⟨hc2l.symm, List.forall_mem_append.mpr ⟨fun q hq => (hne q (List.mem_append_left _ hq)).2.2, List.forall_mem_append.mpr ⟨fun q hq => (hne q (List.mem_append_right _ hq)).2.2, List.forall_mem_cons.mpr ⟨Nat.ne_of_lt (Nat.lt_succ_self _), fun q hq => by have := hlL q hq; omega⟩⟩⟩⟩⟩
    have hfwc : @Ne Nat fw (L + 1 + 1) := (hfall (L + 1 + 1, oe) (List.mem_append_right _ (List.mem_append_right _ (.head _)))).symm
    have hnlc : @Ne Nat nl (L + 1 + 1) := (ne (L + 1 + 1, oe) (.tail _ (.tail _ (.tail _ (List.mem_append_right _ (List.mem_append_right _ (.head _))))))).symm
    refine d_strs (JN prog w rules nl (W.listOf #[.str "S" t1, .str "A" t2, .str "B" t3] 0) fw (L + 1 + 1) tl led bl l) (vs := [.str "S" t1, .str "A" t2, .str "B" t3]) (ss := sNAMES) PassesOwn.never rfl (N _ (.head _)).1 ⟨rfl, _, rfl⟩ (.cons _ _ (.cons _ _ (.cons _ _ .nil))) F
      (News_sub N (news' := (fw, _) :: (L + 1 + 1, oe) :: (nl, W.listOf #[.str "S" t1, .str "A" t2, .str "B" t3] 0) :: ([] ++ tl)) (by rw [htl]; walk_at "m_sub")) rfl rfl
      ⟨_, [], oe, _, [], rfl, hfo, rfl, hoe, (fun _ h => absurd h List.not_mem_nil), (fun _ h => absurd h List.not_mem_nil), (fun _ h => absurd h List.not_mem_nil), rfl, rfl, rfl⟩ ?_ ?_ ?_
    · rintro i m news ⟨fo, kvs, oe, x, ow, rfl, _⟩
      exact .tail _ (.tail _ (.head _))
    · clear F N hfo hfall lf ne kk hr e hEd hne htl hoe hov
      rintro own i z u m₁ news₁ h tk d hz ⟨fo, kvs, oe, x, ow, rfl, hfo, hkv, hoe, hfam', hlw, hne', hm1, hm2, hm3⟩ hoff F N
      have F := Fr_say F (x := "base") ((if_neg (by decide)).trans hm1)
      have F := Fr_say F (x := "edges") ((if_neg (by decide)).trans ((if_neg (by decide)).trans hm2))
      have F := Fr_say F (x := "follows") ((if_neg (by decide)).trans ((if_neg (by decide)).trans ((if_neg (by decide)).trans hm3)))
      have hzn : z ∈ sNAMES := List.mem_of_getElem? hz
      have howc : ∀ q ∈ ow, @Ne Nat q.1 (L + 1 + 1) := fun q hq => (hne' q hq).2
      have howf : ∀ q ∈ ow, q.1 ≠ fw := fun q hq => (hne' q hq).1
      have honc : ∀ q ∈ own, @Ne Nat q.1 (L + 1 + 1) := hoff.tl.hd
      have honf : ∀ q ∈ own, q.1 ≠ fw := hoff.hd
      simp only [List.cons_append, List.append_assoc] at N
      (try ((with_reducible show wpAny _ _ _ _ _ _); k_fold)); k_steps
      refine unhalt ?_
      rename_i ea _ _ _ lea _ oe2 F N hoe2
      walk_at "m_for"
      rename Fr _ _ _ _ => F
      have hec : @Ne Nat ea (L + 1 + 1) := Nat.ne_of_gt lea.2.1
      (try ((with_reducible show wpAny _ _ _ _ _ _); k_fold)); k_steps
      refine wpAny_call ?_
      refine' t_reach (dp := dp + 1) (un := un + 3) (start := z) X T ?qs ?qr ?qu (led := tl) ?qH (el := l) (evs := evs) (ek := k) (es := edgW v rules) htll htle (names_syms hzn) (fun e he => names_syms (edgW_sym hok e he)) ?_
      case qs => exact F.keep
      case qr => omega
      case qu => omega
      case qH => exact fun q hq => ⟨(N q (.tail _ (.tail _ (.tail _ (.tail _ (List.mem_append_right _ (List.mem_append_left _ hq))))))).1, (N q (.tail _ (.tail _ (.tail _ (.tail _ (List.mem_append_right _ (List.mem_append_left _ hq))))))).2.2⟩
      intro rr h' tk' rws rs rn kk hrn e hrs hnd hrt
      obtain ⟨F, N, ne⟩ := grow_kp F N kk hrn e
      have hrc : @Ne Nat rr (L + 1 + 1) := (ne (L + 1 + 1, oe2) (.tail _ (.tail _ (.head _)))).symm
      have hrf : @Ne Nat rr fw := (ne (fw, fo) (.tail _ (.head _))).symm
      have hrsn : ∀ t ∈ rs, t ∈ sNAMES := fun t ht => reach_mem hzn (edgW_sym hok) ((hrt t).mp ht)
      have hrl3 : rs.length ≤ 3 := nodup_len (m := sNAMES) hnd hrsn
      dsimp only
      refine g_strs (fun q m news => ∃ ea vsE kE oe, news = (ea, W.listOf (vsE : List Value).toArray kE) :: (L + 1 + 1, oe) :: (rr, W.listOf rws.toArray rn) :: (fw, fo) :: (nl, W.listOf #[.str "S" t1, .str "A" t2, .str "B" t3] 0) :: (ow ++ (tl ++ own)) ∧ oe.data = .cell (some (.ref ea)) ∧
          StrsAre vsE ((rs.take q).foldl (evW fun t => basW CF v t rules) []) ∧ @Ne Nat ea (L + 1 + 1) ∧ m "base" = some (.ref bl) ∧ m "edges" = some (.ref l) ∧ m "follows" = some (.ref fw) ∧ m "name" = some (.str z u))
        rfl (N _ (.head _)).1 ⟨.inl rfl, _, rfl⟩ hrs F (News_sub N (news' := (ea, W.listOf #[] 0) :: (L + 1 + 1, oe2) :: (rr, W.listOf rws.toArray rn) :: (fw, fo) :: (nl, W.listOf #[.str "S" t1, .str "A" t2, .str "B" t3] 0) :: (ow ++ (tl ++ own))) (by walk_at "m_sub")) rfl rfl
        ⟨ea, [], 0, oe2, rfl, hoe2, .nil, hec, rfl, rfl, rfl, rfl⟩ ?_ ?_ ?_
      · rintro q m news ⟨ea, vsE, kE, oe, rfl, _⟩
        exact .inl (.tail _ (.tail _ (.head _)))
      · clear F N hoe2 hm1 hm2 hm3 hec lea
        rintro own3 q y uy m₁ news₁ h tk hy ⟨ea, vsE, kE, oe, rfl, hoe, hE2, hec, hm1, hm2, hm3, hm4⟩ hoff3 F N
        have F := Fr_say F (x := "base") ((if_neg (by decide)).trans hm1)
        have F := Fr_say F (x := "edges") ((if_neg (by decide)).trans ((if_neg (by decide)).trans hm2))
        have F := Fr_say F (x := "follows") ((if_neg (by decide)).trans ((if_neg (by decide)).trans ((if_neg (by decide)).trans hm3)))
        have F := Fr_say F (x := "name") ((if_neg (by decide)).trans ((if_neg (by decide)).trans ((if_neg (by decide)).trans ((if_neg (by decide)).trans hm4))))
        have hyn : y ∈ sNAMES := hrsn y (List.mem_of_getElem? hy)
        have ho3c : ∀ q ∈ own3, @Ne Nat q.1 (L + 1 + 1) := hoff3.tl.hd
        have hby : valueAt (kv3 la) y = some (.ref (la y)) := kv3_at hyn
        have hLy := htlL y hyn
        simp only [List.cons_append, List.append_assoc] at N
        have hrok : ∀ t, (basW CF v t rules).length ≤ 190 := fun t => by
          have := basW_len (CF := CF) (v := v) (z := t) hok hCL
          omega
        have hal : ((rs.take q).foldl (evW fun t => basW CF v t rules) []).length ≤ 570 := by
          have a1 := foldEv_len (B := fun t => basW CF v t rules) (n := 190) (rs := rs.take q) (acc := []) fun t _ => hrok t
          have a2 := List.length_take_le' q rs
          refine Nat.le_trans a1 ?_
          rw [List.length_nil]
          omega
        rw [foldEv_take hy]
        generalize (rs.take q).foldl (evW fun t => basW CF v t rules) [] = acc at hE2 hal ⊢
        (try ((with_reducible show wpAny _ _ _ _ _ _); k_fold)); k_steps
        refine unhalt ?_
        refine' ListComp_Q (cl := [("every", L + 1 + 1)]) g (fun t => decide (t ∉ acc)) (fun z y => ∃ t, y = .str z t) ?hclos ?hcell ?hkind ?hnames ?hx ?hs ?hh ?_
        walk_at "m_clos"
        (try ((with_reducible show wpAny _ _ _ _ _ _); k_fold)); k_steps
        rename Fr _ _ _ _ => F
        rename News _ _ _ _ => N
        refine unhalt ⟨basW CF v y rules, _, _, .inl ⟨_, V y, rfl, hV y hyn, .inl ⟨_, (N _ (.tail _ (.tail _ (.tail _ (.tail _ (.tail _ (List.mem_append_right _ (List.mem_append_left _ hLy)))))))).1, rfl, _, rfl⟩⟩, ?_, F, N, ?_, ?_, ?_⟩
        · rw [sizeLine_eq]; have := hrok y; omega
        · intro C z u E' s₃ m₃ _ _ F N
          refine wpAny_tests_one ?_
          (try ((with_reducible show wpAny _ _ _ _ _ _); k_fold)); k_steps
          exact unhalt ⟨by rw [← any_mem (l := acc) (x := z) rfl, decide_not], _, _, rfl, fun _ _ e => e⟩
        · intro C z u E' s₃ m₃ hz _ hb F N
          (try ((with_reducible show wpAny _ _ _ _ _ _); k_fold)); k_steps
          exact unhalt ⟨⟨_, rfl⟩, _, _, rfl, fun _ _ e => e⟩
        · intro D4 h' tk ys nD hp F N hD4
          have hss := strs_paired hp
          have hsz : vsE.length + ys.length ≤ 10000 := by
            have a1 := hE2.length
            have a2 := hss.length
            have a3 := List.length_filter_le (fun t => decide (t ∉ acc)) (basW CF v y rules)
            have a4 := hrok y
            omega
          have hD4c : @Ne Nat D4 (L + 1 + 1) := (hD4 (L + 1 + 1, oe) (.tail _ (.head _))).symm
          (try ((with_reducible show wpAny _ _ _ _ _ _); k_fold)); k_steps
          rename_i D5 _ _ _ l5 _ oe' F N hoe'
          refine StepG.next (EndG.mk ((D5, W.listOf (vsE ++ ys).toArray 0) :: (L + 1 + 1, oe') :: (rr, W.listOf rws.toArray rn) :: (fw, fo) :: (nl, W.listOf #[.str "S" t1, .str "A" t2, .str "B" t3] 0) :: (ow ++ (tl ++ own))) F N (by walk_at "m_sub")
            (Apart.cons (fun q hq => allLt_ne l5.2.2.2.2.2.2 q (List.mem_append_right _ (List.mem_append_right _ (List.mem_append_right _ hq)))) (Apart.cons ho3c hoff3.tl.tl))
            ⟨D5, vsE ++ ys, 0, oe', rfl, hoe', hE2.append' hss, Nat.ne_of_gt l5.2.2.1, rfl, rfl, rfl, rfl⟩)
      · clear F N hoe2 hm1 hm2 hm3 hec lea ne e kk
        rintro h tk m₁ news₁ ⟨ea, vsE, kE, oe, rfl, hoe, hE2, hec, hm1, hm2, hm3, hm4⟩ F N
        rw [List.take_length] at hE2
        have hal : (rs.foldl (evW fun t => basW CF v t rules) []).length ≤ 570 := by
          have a1 := foldEv_len (B := fun t => basW CF v t rules) (n := 190) (rs := rs) (acc := []) fun t _ => by
            have := basW_len (CF := CF) (v := v) (z := t) hok hCL
            omega
          refine Nat.le_trans a1 ?_
          rw [List.length_nil]
          omega
        have hfol : ∀ f, f ∈ rs.foldl (evW fun t => basW CF v t rules) [] ↔ Fol rules z f := fun f => by
          rw [mem_foldEv, fol_reach hok hvE hCF hzn]
          constructor
          · rintro (h | ⟨t, h1, h2⟩)
            · cases h
            · exact ⟨t, (hrt t).mp h1, h2⟩
          · rintro ⟨t, h1, h2⟩
            exact .inr ⟨t, (hrt t).mpr h1, h2⟩
        generalize rs.foldl (evW fun t => basW CF v t rules) [] = acc at hE2 hal hfol
        have F := Fr_say F (x := "follows") hm3
        have F := Fr_say F (x := "name") ((if_neg (by decide)).trans hm4)
        (try ((with_reducible show wpAny _ _ _ _ _ _); k_fold)); k_steps
        rename Fr _ _ _ _ => F
        refine unhalt ?_
        refine call_set rfl ⟨_, (N _ (.head _)).1, rfl, kE, rfl⟩ hE2 (by show _ < 4096; omega) fun h' tk' hS hk => ?_
        have kk : Kp [] h h' := fun b o _ e => hk b o e
        have F := Fr_kp F kk (fun q => nomatch q) (fun _ q => nomatch q)
        have N := News_kp N kk (fun _ _ q => nomatch q)
        dsimp only
        (try ((with_reducible show wpAny _ _ _ _ _ _); k_fold)); k_steps
        refine unhalt ?_
        refine sorted_set rfl hS (fun ss h1 h2 => Nat.lt_of_le_of_lt (nodup_len (m := sENDS) h1 fun x hx => fol_mem ((hfol x).mp ((h2 x).mp hx))) (by decide)) fun r vs ss e h'' d' tk'' hr he hk2 hs hnd hmem hsort => ?_
        have kk2 : Kp [] h' h'' := fun b o _ e => hk2 b o e
        obtain ⟨F, N, ne⟩ := grow_kp F N kk2 hr he
        have hrf2 : @Ne Nat r fw := (ne (fw, fo) (.tail _ (.tail _ (.tail _ (.head _))))).symm
        have hrc2 : @Ne Nat r (L + 1 + 1) := (ne (L + 1 + 1, oe) (.tail _ (.head _))).symm
        have N := News_sub N (news' := (r, W.listOf vs.toArray e) :: (fw, fo) :: (L + 1 + 1, oe) :: (nl, W.listOf #[.str "S" t1, .str "A" t2, .str "B" t3] 0) :: (ow ++ (tl ++ own))) (by walk_at "m_sub")
        have hkl : kvs.length ≤ sizeLine := by
          have := congrArg List.length hkv
          have a2 := List.length_take_le' i sNAMES
          have a3 : sNAMES.length = 3 := rfl
          rw [List.length_map] at this
          rw [sizeLine_eq]; omega
        dsimp only
        (try ((with_reducible show wpAny _ _ _ _ _ _); k_fold)); k_steps
        rename_i fo' F N hd'
        have hza : z ∉ kvs.map (·.1) := by rw [hkv]; exact take_new (by decide) hz
        rw [stored_absent (valueAt_off hza)] at hd'
        have hrall : ∀ q ∈ ow ++ (tl ++ own), q.1 ≠ r := fun q hq => ne q (.tail _ (.tail _ (.tail _ (.tail _ (.tail _ hq)))))
        refine StepD.next ((fw, fo') :: (L + 1 + 1, oe) :: (nl, W.listOf #[.str "S" t1, .str "A" t2, .str "B" t3] 0) :: (((r, W.listOf vs.toArray e) :: ow) ++ tl)) F N (by walk_at "m_sub") ?_
          ⟨fo', kvs ++ [(z, .ref r)], oe, _, (r, W.listOf vs.toArray e) :: ow, rfl, hd', ?_, hoe, (hfam'.mono fun q hq => .tail _ hq).snoc (.head _) hs ⟨hnd, fun f => (hmem f).trans (hfol f), hsort⟩, ?_, ?_, hm1, hm2, rfl⟩
        · exact Apart.cons honf (Apart.cons honc (Apart.cons hoff.tl.tl.hd (Apart.cons (fun q hq => hrall q (List.mem_append_right _ (List.mem_append_right _ hq))) hoff.tl.tl.tl)))
        · rw [List.map_append, hkv]; exact (drop_at hz).2.2.symm
        · exact Apart.cons (fun q hq => hrall q (List.mem_append_right _ (List.mem_append_left _ (htlled q hq)))) hlw
        · exact List.forall_mem_cons.mpr ⟨⟨hrf2, hrc2⟩, hne'⟩
    · clear F N hfo hfall lf ne kk hr e hEd hne htl hoe hov
      rintro h tk d m₁ news₁ ⟨fo, kvs, oe, x, ow, rfl, hfo, hkv, hoe, hfam', hlw, hne', hm1, hm2, hm3⟩ F N
      have F := Fr_say F (x := "follows") hm3
      dsimp only
      (try ((with_reducible show wpAny _ _ _ _ _ _); k_fold)); k_steps
      have hm : ∀ p ∈ (fw, fo) :: ow, p ∈ (fw, fo) :: (L + 1 + 1, oe) :: (nl, W.listOf #[.str "S" t1, .str "A" t2, .str "B" t3] 0) :: (ow ++ tl) := fun p hp => by
        rcases List.mem_cons.mp hp with rfl | hp
        · exact .head _
        · exact .tail _ (.tail _ (.tail _ (List.mem_append_left _ hp)))
      refine post fw h tk d kvs fo ow (I.kpAll H F N fun q hq => .tail _ (.tail _ (.tail _ (List.mem_append_right _ (htlled q hq))))) (fun p hp => ⟨I.new N (hm p hp) fun q => ?_, (N _ (hm p hp)).1⟩) hfo hkv hfam' lof
      obtain ⟨q', hq', e⟩ := List.mem_map.mp q
      rcases List.mem_cons.mp hp with rfl | hp
      · exact htlf q' (htlled q' hq') e
      · exact hlw p hp q' hq' e
end Flw
theorem unreg_MFlw : True := by
  k_with_none
  (k_with "m_S" => ((goal_lacks PySem.Heap.push); (fail_if_success (goal_lacks PySem.Shared.mk)); (with_reducible refine (?_ : wpAny _ _ _ _ _ (SH _ _))); (try ((fail_if_success (goal_lacks PySem.Shared.toks)); (with_reducible refine genT (S := SH) ?_); intro _))))
  (k_with "m_U" => (k_extra "m_S"; first | walk1 | (dsimp only; walk1)))
  (k_with "m_enter" => ((
    case ho => k_is
    case hcd => k_is
    case hb => first | exact BindsTo.of_eq rfl | exact binds_K (by assumption) rfl (by k_is) rfl rfl rfl
    case hl => exact locs rfl
    case hc => decide
    case h1 => exact rfl
    case h2 => exact rfl
    case h3 => exact rfl)))
  (k_with "m_enterC" => ((
    case ho => k_is
    case hcd => k_is
    case hb => first | exact BindsTo.of_eq rfl | exact binds_K (by assumption) rfl (by k_is) rfl rfl rfl
    case hl => exact rfl
    case hn => decide +kernel
    case h1 => exact rfl
    case h2 => exact rfl
    case h3 => exact rfl)))
  (k_with "eval ListComp" => (((fail_if_success (with_reducible rename NoHalt => nh')); refine halt ?_)))
  (k_with "eval DictComp" => (((fail_if_success (with_reducible rename NoHalt => nh')); refine halt ?_)))
  (k_with "eval Name" => (k_dflt ((with_reducible show wpAny _ _ (eval (Expr.Name _ _) (compEnvC _ _ _ _)) _ _ _); refine' comp_cell ?xq5 ?Nq5 ?cq5 ?mq5 ?dq5 ?_ ?kq5 ?bq5; (case xq5 => exact rfl); (case Nq5 => k_asm); (case cq5 => exact rfl); (case mq5 => k_mem); (case dq5 => k_asm); (case kq5 => exact rfl); (case bq5 => decide))))
  (k_with "eval Name" => (k_dflt ((with_reducible show wpAny _ _ (eval (Expr.Name _ _) (compEnvC _ _ _ _)) _ _ _); refine' comp_local ?xq6 ?Nq6 ?cq6 ?_ ?kq6 ?bq6; (case xq6 => exact rfl); (case Nq6 => k_asm); (case cq6 => exact rfl); (case kq6 => exact rfl); (case bq6 => decide))))
  (k_with "m_tail" => (first
    | exact fun _ h => h
    | ((with_reducible refine sub_tl ?_); k_extra "m_tail")
    | ((with_reducible refine sub_lf ?_); k_extra "m_tail")
    | ((with_reducible refine sub_rt ?_); k_extra "m_tail")))
  (k_with "m_in" => (first
    | exact List.Mem.head _
    | assumption
    | ((refine List.Mem.tail _ ?_); k_extra "m_in")
    | ((refine List.mem_append_left _ ?_); k_extra "m_in")
    | ((refine List.mem_append_right _ ?_); k_extra "m_in")))
  (k_with "m_sub1" => (first
    | exact sub_nil
    | ((with_reducible refine sub_cons ?_ ?_); k_extra "m_in"; k_extra "m_sub1")
    | ((with_reducible refine sub_app ?_ ?_); k_extra "m_sub1"; k_extra "m_sub1")
    | k_extra "m_tail"))
  (k_with "m_sub" => (((try dsimp only [List.cons_append, List.nil_append]); k_extra "m_sub1")))
  (k_with "m_k_ne" => ((refine neN ?_; (try dsimp only); first | assumption | exact Ne.symm (by assumption) | exact Nat.ne_of_lt (by assumption) | exact Nat.ne_of_gt (by assumption) | exact all_ne (by assumption) (by k_mem) | exact Ne.symm (all_ne (by assumption) (by k_mem)) | exact ne_lt2 (by assumption) (by assumption) | exact Ne.symm (ne_lt2 (by assumption) (by assumption)) | (refine' News_ne_cls ?nqNq11 ?nqaq11 ?nqbq11 ?nqcq11; (case nqNq11 => k_asm); (case nqaq11 => k_mem); (case nqbq11 => k_mem); (case nqcq11 => rfl)) | omega)))
  (k_with "exec While BoolOp cons nil" => (refine halt ?_))
  (k_with "exec While Constant cons nil" => (refine halt ?_))
  (k_with "exec While Compare cons nil" => (refine halt ?_))
  (k_with "compareOp NotIn ref ref" => (refine halt ?_))
  (k_with "compareOp In ref ref" => (refine halt ?_))
  (k_with "m_off" => (first | exact off_nil | ((refine off_cons ?_ ?_); k_all; k_extra "m_off")))
  (k_with "m_k_all" => (first | assumption | exact OwnOff.ne (by assumption) (by k_memK) | ((with_reducible refine List.forall_mem_append.mpr ⟨?_, ?_⟩); k_all; k_all) | ((with_reducible refine List.forall_mem_cons.mpr ⟨?_, ?_⟩); k_ne; k_all) | exact List.forall_mem_nil _ | fail "k_all"))
  (k_with "eval Name" => (k_dflt ((with_reducible show wpAny _ _ (eval (Expr.Name _ _) (compEnvC _ _ _ _)) _ _ _); refine' LCgL.ld_global ?qFq19 ?qXq19 ?qTq19 ?qeq19 ?_ ?qgq19 ?qkq19 ?qxq19 ?qdq19; (case qFq19 => k_asm); (case qXq19 => k_asm); (case qTq19 => k_asm); (case qeq19 => k_is); (case qgq19 => exact rfl); (case qkq19 => exact rfl); (case qxq19 => exact rfl); (case qdq19 => decide))))
  (k_with "m_clos" => ((
    case hclos => with_unfolding_all rfl
    case hcell => decide
    case hkind => rfl
    case hnames => decide
    case hx => rfl
    case hs => exact fun _ => rfl
    case hh => rfl)))
  (k_with "m_k_mem" => (k_dflt (first | assumption | (refine List.mem_append_left _ ?_; k_mem) | (refine List.mem_append_right _ ?_; k_mem))))
  (k_with "exec For Name Name cons nil" => (k_extra "m_for"))
  (k_with "exec For Name Name cons cons" => (k_extra "m_for"))
  (k_with "exec For Name Call cons nil" => (k_extra "m_for"))
  (k_with "exec For Name Attribute cons nil" => (k_extra "m_for"))
  (k_with "exec For Name Subscript cons nil" => (k_extra "m_for"))
  (k_with "exec For Tuple Name cons nil" => (k_extra "m_for"))
  (k_with "exec For Tuple Call cons nil" => (k_extra "m_for"))
  (k_with "m_slice" => (k_dflt ((with_reducible show wpAny _ _ (subscriptTail _ (PySem.Expr.Slice _ none none _) (Value.ref _) (Value.ref _)) _ _ _); first
    | (refine' r_sliceList1 ?k1q31 ?k2q31 ?k3q31 ?k4q31 ?_ ?k5q31 ?k6q31; (case k1q31 => k_asm); (case k2q31 => k_asm); (case k3q31 => k_extra "m_list"); (case k4q31 => k_extra "m_lt"); (case k5q31 => with_unfolding_all rfl); (case k6q31 => intro _; with_unfolding_all rfl); walk_at "i5")
    | (refine' r_sliceTup ?k1q31 ?k2q31 ?k3q31 ?k4q31 ?k5q31 ?k6q31 ?k7q31 ?_ ?k8q31 ?k9q31; (case k1q31 => k_asm); (case k2q31 => k_asm); (case k3q31 => k_extra "m_tup"); (case k4q31 => exact cast1 _); (case k5q31 => k_extra "m_lt"); (case k6q31 => k_extra "m_lt"); (case k7q31 => k_extra "m_lt"); (case k8q31 => with_unfolding_all rfl); (case k9q31 => intro _; with_unfolding_all rfl); walk_at "i5")
    | fail "m_slice")))
  (k_with "m_list" => (first | is_list | (refine' r_isList ?qiaq32 ?qibq32; (case qiaq32 => k_asm); (case qibq32 => k_mem))))
  (k_with "m_tup" => (first | is_tup | (refine' r_isTup ?qiaq33 ?qibq33; (case qiaq33 => k_asm); (case qibq33 => k_mem))))
  (k_with "call type:tuple" => (k_dflt ((with_reducible show wpAny _ _ (call (Value.type _) [Value.ref _]) _ _ _); (refine' r_tupleOf ?k1q34 ?k2q34 ?k3q34 ?k4q34 ?_; (case k1q34 => k_asm); (case k2q34 => k_asm); (case k3q34 => k_extra "m_list"); (case k4q34 => assumption); k_whole); walk_at "i5")))
  (k_with "m_len" => (first | assumption | omega | ((try simp only [List.length_append, List.length_cons, List.length_nil, List.length_map]); omega)))
  (k_with "call builtin:len" => (k_dflt ((with_reducible show wpAny _ _ (call (Value.builtin "len") [Value.ref _]) _ _ _); first
    | (refine' r_lenList ?k1q36 ?k2q36 ?_; (case k1q36 => k_extra "m_list"); (case k2q36 => k_extra "m_len"); k_whole)
    | (refine' r_lenTup ?k1q36 ?k2q36 ?_; (case k1q36 => k_extra "m_tup"); (case k2q36 => k_extra "m_len"); k_whole)
    | fail "len")))
  (k_with "truthy ref" => (k_dflt ((with_reducible show wpAny _ _ (truthy (Value.ref _)) _ _ _); first
    | (refine' r_truthyList ?k1q37 ?k2q37 ?_; (case k1q37 => k_extra "m_list"); (case k2q37 => k_extra "m_len"); k_whole)
    | (refine' r_truthyTup ?k1q37 ?k2q37 ?_; (case k1q37 => k_extra "m_tup"); (case k2q37 => k_extra "m_len"); k_whole)
    | (refine' r_truthyDict ?k1q37 ?k2q37 ?k3q37 ?k4q37 ?k5q37 ?_; (case k1q37 => k_asm); (case k2q37 => k_mem); (case k3q37 => k_asm); (case k4q37 => assumption); (case k5q37 => k_extra "m_len"); intro _)
    | fail "truthy")))
  (k_with "compareOp In str ref" => (k_dflt ((with_reducible show wpAny _ _ (compareOp CmpOp.In (Value.str _ _) (Value.ref _)) _ _ _); first
    | (refine' in_list_strs ?k1q38 ?k2q38 ?_; (case k1q38 => k_extra "m_list"); (case k2q38 => assumption); k_whole)
    | (refine' r_inTup ?k1q38 ?k2q38 ?_; (case k1q38 => k_extra "m_tup"); (case k2q38 => assumption); k_whole)
    | fail "in")))
  (k_with "compareOp NotIn str ref" => (k_dflt ((with_reducible show wpAny _ _ (compareOp CmpOp.NotIn (Value.str _ _) (Value.ref _)) _ _ _); first
    | (refine' notin_list_strs ?k1q39 ?k2q39 ?_; (case k1q39 => k_extra "m_list"); (case k2q39 => assumption); k_whole)
    | (refine' r_notinTup ?k1q39 ?k2q39 ?_; (case k1q39 => k_extra "m_tup"); (case k2q39 => assumption); k_whole)
    | fail "notin")))
  (k_with "m_k_units" => (first | omega | (simp only [Around.deeper, Around.in1, Around.mark] at *; omega)))
  (k_with "call builtin:all" => (k_dflt ((with_reducible show wpAny _ _ (call (Value.builtin "all") [Value.ref _]) _ _ _); (refine' all_strs ?khq41 ?kFq41 ?kNq41 ?kpq41 ?_; (case kFq41 => k_asm); (case kNq41 => k_asm); (case kpq41 => assumption); (case khq41 => rfl)); intro _ _ _ _; (try simp only []))))
  (k_with "m_lt" => (first | assumption | omega))
  (k_with "subscriptTail" => (k_dflt ((with_reducible show wpAny _ _ (subscriptTail _ _ (Value.ref _) (Value.int _ _)) _ _ _); (refine' r_itemList ?k1q43 ?k2q43 ?k3q43 ?k4q43 ?k5q43 ?_ ?k6q43; (case k1q43 => k_extra "m_list"); (case k2q43 => assumption); (case k3q43 => k_extra "m_lt"); (case k4q43 => k_extra "m_lt"); (case k5q43 => k_extra "m_lt"); (case k6q43 => exact rfl)); intro _ _ _)))
  (k_with "m_din" => (first | (with_reducible assumption) | assumption | exact (rfl : _ = true) | exact (rfl : _ = false) | exact rfl))
  (k_with "m_dat" => (first | assumption | exact rfl))
  (k_with "compareOp In str ref" => (k_dflt ((with_reducible show wpAny _ _ (compareOp CmpOp.In (Value.str _ _) (Value.ref _)) _ _ _); (refine' kda_in (knd := PySem.strKind _ _) ?k1q46 ?k2q46 ?k3q46 ?k4q46 (strKind_is _ _ _ _) _ ?k6q46 ?_; (case k1q46 => k_asm); (case k2q46 => k_mem); (case k3q46 => k_asm); (case k4q46 => first | (with_reducible assumption) | assumption); (case k6q46 => k_extra "m_din")))))
  (k_with "compareOp NotIn str ref" => (k_dflt ((with_reducible show wpAny _ _ (compareOp CmpOp.NotIn (Value.str _ _) (Value.ref _)) _ _ _); (refine' kdg_notin (knd := PySem.strKind _ _) ?k1q47 ?k2q47 ?k3q47 ?k4q47 (strKind_is _ _ _ _) _ ?k6q47 ?_; (case k1q47 => k_asm); (case k2q47 => k_mem); (case k3q47 => k_asm); (case k4q47 => first | (with_reducible assumption) | assumption); (case k6q47 => k_extra "m_din")))))
  (k_with "subscriptTail" => (((with_reducible show wpAny _ _ (subscriptTail _ _ (Value.ref _) (Value.str _ _)) _ _ _); k_dflt (refine' kdt_tail ?k1q48 ?k2q48 ?k3q48 ?_ ?k4q48; (case k1q48 => k_asm); (case k2q48 => k_mem); (case k3q48 => k_asm); (case k4q48 => exact rfl)))))
  (k_with "subscriptTail" => (k_dflt ((with_reducible show wpAny _ _ (subscriptTail _ _ (Value.ref _) (Value.str _ _)) _ _ _); (refine' kda_item (knd := PySem.strKind _ _) ?k1q49 ?k2q49 ?k3q49 (strKind_is _ _ _ _) ?k4q49 ?_; (case k1q49 => k_asm); (case k2q49 => k_mem); (case k3q49 => k_asm); (case k4q49 => k_extra "m_dat")))))
  (k_with "setItem ref str" => (k_dflt ((refine' kda_set (knd := PySem.strKind _ _) ?Fq50 ?Nq50 ?Uq50 ?dq50 (strKind_is _ _ _ _) ?zq50 ?_; (case Fq50 => k_asm); (case Nq50 => k_asm); (case Uq50 => k_updF); (case dq50 => k_asm); (case zq50 => first | assumption | (rw [sizeLine_eq]; exact Nat.le_of_ble_eq_true (by with_unfolding_all rfl)))); walk_at "i5d")))
  (k_with "getAttr ref" => (k_dflt (refine' get_own ?k1q51 ?k2q51 ?k3q51 ?k4q51 ?k5q51 ?k6q51 ?k7q51 ?k8q51 ?k9q51 ?_; (case k1q51 => k_asm); (case k2q51 => k_asm); (case k3q51 => k_inst); (case k8q51 => assumption); (case k4q51 => k_is); (case k5q51 => k_is); (case k6q51 => k_is); (case k7q51 => k_is); (case k9q51 => exact rfl))))
  (k_with "call builtin:str.join" => (k_dflt ((with_reducible show wpAny _ _ (call (Value.builtin "str.join") [Value.str _ _, Value.ref _]) _ _ _); (refine' r_joinTup ?k1q52 ?k2q52 ?k3q52 ?k4q52 ?k5q52 ?_; (case k1q52 => k_extra "m_tup"); (case k2q52 => assumption); (case k3q52 => assumption); (case k4q52 => assumption); (case k5q52 => decide)); intro _ _ _ _)))
  (k_with "getMethod ref" => (k_dflt (refine' method_inst ?k1q53 ?k2q53 ?k3q53 ?k4q53 ?k5q53 ?k6q53 ?k7q53 ?_; (case k1q53 => k_asm); (case k2q53 => k_asm); (case k3q53 => k_inst); (case k7q53 => assumption); (case k4q53 => k_is); (case k5q53 => k_is); (case k6q53 => k_is))))
  (k_with "getItem ref str" => (k_dflt ((with_reducible show wpAny _ _ (getItem (Value.ref _) (Value.str _ _)) _ _ _); (refine' kdt_getItem (knd := PySem.strKind _ _) ?k1q54 ?k2q54 ?k3q54 (strKind_is _ _ _ _) ?k4q54 ?_; (case k1q54 => k_asm); (case k2q54 => k_mem); (case k3q54 => k_asm); (case k4q54 => k_extra "m_dat")))))
  (k_with "subscriptTail Name Slice ref ref" => (k_extra "m_slice"))
  (k_with "subscriptTail Attribute Slice ref ref" => (k_extra "m_slice"))
  (k_with "subscriptTail" => (k_dflt ((with_reducible show wpAny _ _ (subscriptTail _ _ (Value.ref _) (Value.int _ _)) _ _ _); (refine' r_itemL ?k1q57 ?k3q57 ?k4q57 ?k2q57 ?_ ?k6q57; (case k1q57 => k_extra "m_list"); (case k2q57 => exact rfl); (case k3q57 => decide); (case k4q57 => decide); (case k6q57 => exact rfl)))))
  (k_with "call builtin:list.append" => (k_dflt ((with_reducible show wpAny _ _ (call (Value.builtin "list.append") [Value.ref _, _]) _ _ _); (refine' append_L3 ?k1q62 ?k2q62 ?k3q62 ?k4q62 ?k5q62 ?k6q62 ?_; (case k1q62 => k_asm); (case k2q62 => k_asm); (case k3q62 => assumption); (case k4q62 => assumption); (case k5q62 => assumption); (case k6q62 => assumption)); intro _ _ _)))
  (k_with "m_for" => (k_dflt ((refine' For_GF ?kFq30 ?k1q30 ?k2q30 ?_; (case kFq30 => assumption); (case k1q30 => exact PassesOwn.never); (case k2q30 => exact fun _ => rfl)))))
  trivial
theorem fresh_N {g h h' : Heap} {L : Addr} {m : Str → Option Value} {news own : List (Addr × Obj)} (F : Fr g L h m) (N : News g L h news) (ho : ∀ p ∈ own, h.get? p.1 = none ∧ h'.get? p.1 = some p.2) : News g L h' own ∧ Apart news own := by
  obtain ⟨oL, _, _, hL, _⟩ := id F.ns
  refine ⟨fun p hp => ⟨(ho p hp).2, fun q => ?_, ?_⟩, fun p hp q hq e => ?_⟩
  · have := (ho p hp).1
    rw [q, show h.get? L = some oL from hL] at this; cases this
  · cases q : g.get? p.1 with
    | none => rfl
    | some o => have := F.keep _ _ q; rw [(ho p hp).1] at this; cases this
  · have := (ho q hq).1
    rw [e, (N p hp).1] at this; cases this
theorem use_addp {prog : Program} {w : World} {dp_ un : Nat} {env : Env} {s : Shared} {g : Heap} {L : Addr} {m : Str → Option Value} {mg mb : Str → Option Value} {p : Program} {loose : List Str} {R : Result → Shared → Prop}
  (X : (hd.heap_1 w.params).In g) (T : TopRead p loose mg mb g) (hroom : dp_ + 10 < recursionLimit) (hu : un + 200 < cLine) (hk : env.scope.kind ≠ .module) (hfr : env.frame = some L)
  {x dx pl pn pm td nd fd fo pr sl : Addr} {es : List DictEntry} {rules : List (Str × List Str)} {p0 : Value} {led rest : List (Addr × Obj)} {nm : Str} {tn : Tok} {ws : List Value} {ss : List Str} {n : Nat}
  (F : Fr g L s.heap m) (N : News g L s.heap ((led ++ [(sl, W.listOf ws.toArray n)]) ++ rest)) (hap : Apart (led ++ [(sl, W.listOf ws.toArray n)]) rest)
  (hE : GE es pl pn pm td nd fd fo pr) (hG : GS prog w x dx pl pn pm td nd pr es rules p0 led) (ha : Apart led [(sl, W.listOf ws.toArray n)])
  (hS : StrsAre ws ss) (hr : RuleOk (nm, ss)) (hnew : (nm, ss) ∉ rules) (hok : ∀ r ∈ rules, RuleOk r) (hlen : rules.length ≤ 7)
  (post : ∀ h' tk led', Fr g L h' m → News g L h' (led' ++ rest) → Apart led' rest → GS prog w x dx pl pn pm td nd pr es (rules ++ [(nm, ss)]) p0 led' → R (.ok (.ret .none)) { s with heap := h', toks := tk }) :
  codeAny (model prog w) ⟨none, dp_, some [env], some [], un⟩ (.call (.ref 166) ⟨[.ref x, .str nm tn, .ref sl], []⟩) R s := by
  obtain ⟨oL, eL, epL, hL, hdL, hkL, hfL⟩ := id F.ns
  have hLg : g.get? L = none := by
    cases q : g.get? L with
    | none => rfl
    | some o => exact absurd (Heap.lt_size q) (Nat.not_lt.mpr F.above)
  have N1 : News g L s.heap (led ++ [(sl, W.listOf ws.toArray n)]) := fun q hq => N q (List.mem_append_left _ hq)
  refine t_addp (Lw := L) (oL := oL) X T F.keep hroom hu hE hG (fun q hq => ?_) ha ⟨hk, hfr, ⟨eL, epL, hdL⟩, trivial⟩ (fun q hq => (N1 q hq).2.1) hS hr hnew hok hlen fun h' tk led' slx k hL' hl hne hG' => ?_
  · rcases List.mem_cons.mp hq with rfl | hq
    · exact ⟨hL, hLg⟩
    · exact ⟨(N1 q hq).1, (N1 q hq).2.2⟩
  · have hSg : ∀ a ∈ ((L, oL) :: (led ++ [(sl, W.listOf ws.toArray n)])).map (·.1), g.get? a = none := fun a ha' => by
      obtain ⟨q, hq, rfl⟩ := List.mem_map.mp ha'
      rcases List.mem_cons.mp hq with rfl | hq
      · exact hLg
      · exact (N1 q hq).2.2
    refine post h' tk led' ⟨⟨_, eL, epL, hL', hdL, hkL, hfL⟩, fun b o e => k b o (fun q => by rw [hSg b q] at e; cases e) (F.keep b o e), F.above⟩ (fun q hq => ?_) (fun q hq q' hq' e => ?_) hG'
    · rcases List.mem_append.mp hq with hq | hq
      · refine ⟨(hl q hq).1, hne q hq, ?_⟩
        rcases (hl q hq).2 with z | z
        · exact hSg _ z
        · cases z' : g.get? q.1 with
          | none => rfl
          | some o => have := F.keep _ _ z'; rw [z] at this; cases this
      · have y := N q (List.mem_append_right _ hq)
        refine ⟨k _ _ (fun z => ?_) y.1, y.2⟩
        obtain ⟨q', hq', e⟩ := List.mem_map.mp z
        rcases List.mem_cons.mp hq' with rfl | hq'
        · exact y.2.1 e.symm
        · exact hap q' hq' q hq e.symm
    · rcases (hl q hq).2 with z | z
      · obtain ⟨q2, hq2, e2⟩ := List.mem_map.mp z
        rcases List.mem_cons.mp hq2 with rfl | hq2
        · exact hne q hq e2.symm
        · exact hap q2 hq2 q' hq' (e.trans e2.symm)
      · have := (N q' (List.mem_append_right _ hq')).1
        rw [e, z] at this; cases this
theorem GS.hx {prog : Program} {w : World} {x dx pl pn pm td nd pr : Addr} {es : List DictEntry} {rules : List (Str × List Str)} {p0 : Value} {led : List (Addr × Obj)} (h : GS prog w x dx pl pn pm td nd pr es rules p0 led) : (x, instObj 248 dx) ∈ led := by
  obtain ⟨ps, k, opn, opm, ond, E, kM, kN, kT, pool, fix, rfl, M, AP, GF⟩ := h
  exact .tail _ (.tail _ (.tail _ (.tail _ (List.mem_append_right _ (List.mem_append_right _ GF.hx)))))
theorem GS.hdx {prog : Program} {w : World} {x dx pl pn pm td nd pr : Addr} {es : List DictEntry} {rules : List (Str × List Str)} {p0 : Value} {led : List (Addr × Obj)} (h : GS prog w x dx pl pn pm td nd pr es rules p0 led) : ∃ ep, (dx, dictOf es ep) ∈ led := by
  obtain ⟨ps, k, opn, opm, ond, E, kM, kN, kT, pool, fix, rfl, M, AP, GF⟩ := h
  obtain ⟨ep, q⟩ := GF.hdx
  exact ⟨ep, .tail _ (.tail _ (.tail _ (.tail _ (List.mem_append_right _ (List.mem_append_right _ q)))))⟩
theorem fd_abc {rules : List (Str × List Str)} (hok : ∀ r ∈ rules, RuleOk r) {t : Str} (ht : t ∈ sABC) {f : Str} : FD rules t f ↔ f = t := by
  have hn : t ∉ sNAMES := fun q => name_not q ht
  constructor
  · rintro (⟨rfl, h⟩ | ⟨_, h⟩)
    · exact absurd (emp_name hok h) hn
    · cases h with
      | term _ => rfl
      | rule hr _ _ => exact absurd (hok _ hr).1 hn
  · rintro rfl
    refine .inr ⟨fun q => ?_, .term ht⟩
    rw [q] at ht; revert ht; decide
noncomputable def CFof (C : Str → List Str) (y : Str) : List Str := if y ∈ sNAMES then C y else [y]
theorem CFof_fd {rules : List (Str × List Str)} {C : Str → List Str} (hok : ∀ r ∈ rules, RuleOk r) (hC : ∀ z ∈ sNAMES, ∀ f, f ∈ C z ↔ FD rules z f) : ∀ y ∈ sSYMS, ∀ f, f ∈ CFof C y ↔ FD rules y f := fun y hy f => by
  unfold CFof
  by_cases h : y ∈ sNAMES
  · rw [if_pos h]; exact hC y h f
  · rw [if_neg h, List.mem_singleton]
    exact (fd_abc hok ((name_abc hy).resolve_left h)).symm
theorem CFof_len {rules : List (Str × List Str)} {C : Str → List Str} (hn : ∀ z ∈ sNAMES, (C z).Nodup) (hC : ∀ z ∈ sNAMES, ∀ f, f ∈ C z ↔ FD rules z f) : ∀ y, (CFof C y).length ≤ 10 := fun y => by
  unfold CFof
  by_cases h : y ∈ sNAMES
  · rw [if_pos h]
    have := nodup_len (m := (["a", "b", "c", sEMP] : List Str)) (hn y h) fun f hf => fd_mem ((hC y h f).mp hf)
    exact Nat.le_trans this (by decide)
  · rw [if_neg h]; exact Nat.le_add_left 1 9
theorem ent_at {E : List Ent} {k : Str} (h : k ∈ E.map (·.1)) : ∃ e ∈ E, e.1 = k := List.mem_map.mp h
open PySem.Spec (ltCps)
theorem ltc_trans : ∀ {a b c : List Nat}, ltCps b a = false → ltCps c b = false → ltCps c a = false
  | [], b, [], _, _ => rfl
  | [], b, _ :: _, _, _ => rfl
  | x :: a, [], c, h1, _ => by cases h1
  | x :: a, y :: b, [], _, h2 => by cases h2
  | x :: a, y :: b, z :: c, h1, h2 => by
    simp only [ltCps, Bool.or_eq_false_iff, Bool.and_eq_false_iff, decide_eq_false_iff_not, beq_eq_false_iff_ne] at h1 h2 ⊢
    refine ⟨by omega, ?_⟩
    by_cases e : z = x
    · right
      have e1 : y = x := by omega
      have e2 : z = y := by omega
      exact ltc_trans (h1.2.resolve_left fun q => q e1) (h2.2.resolve_left fun q => q e2)
    · exact .inl e
theorem ltc_anti : ∀ {a b : List Nat}, ltCps a b = false → ltCps b a = false → a = b
  | [], [], _, _ => rfl
  | [], _ :: _, h, _ => by cases h
  | _ :: _, [], _, h => by cases h
  | x :: a, y :: b, h1, h2 => by
    simp only [ltCps, Bool.or_eq_false_iff, Bool.and_eq_false_iff, decide_eq_false_iff_not, beq_eq_false_iff_ne] at h1 h2
    have e : x = y := by omega
    subst e
    rw [ltc_anti (h1.2.resolve_left fun q => q rfl) (h2.2.resolve_left fun q => q rfl)]
theorem rising_min : ∀ {l : List Str} {p : Str}, risingS p l = true → ∀ x ∈ l, ltCps x.cps.toList p.cps.toList = false
  | [], _, _, x, hx => by cases hx
  | y :: r, p, h, x, hx => by
    have h : (!ltCps y.cps.toList p.cps.toList && risingS y r) = true := h
    rw [Bool.and_eq_true, Bool.not_eq_true'] at h
    rcases List.mem_cons.mp hx with rfl | hx
    · exact h.1
    · exact ltc_trans h.1 (rising_min h.2 x hx)
theorem rising_tl {p : Str} {l : List Str} (h : risingS p l = true) : sortedS l = true := by
  cases l with
  | nil => rfl
  | cons y r =>
    have h : (!ltCps y.cps.toList p.cps.toList && risingS y r) = true := h
    rw [Bool.and_eq_true] at h
    exact h.2
theorem sorted_same : ∀ {l l' : List Str}, l.Nodup → l'.Nodup → sortedS l = true → sortedS l' = true → (∀ x, x ∈ l ↔ x ∈ l') → l = l'
  | [], [], _, _, _, _, _ => rfl
  | [], y :: t, _, _, _, _, h => absurd ((h y).mpr (.head _)) List.not_mem_nil
  | x :: r, [], _, _, _, _, h => absurd ((h x).mp (.head _)) List.not_mem_nil
  | x :: r, y :: t, n1, n2, s1, s2, h => by
    have e : x = y := by
      have a1 : ltCps x.cps.toList y.cps.toList = false := by
        rcases List.mem_cons.mp ((h x).mp (.head _)) with e | q
        · rw [e, ltCps_eq]; exact decide_eq_false (List.lt_irrefl _)
        · exact rising_min s2 x q
      have a2 : ltCps y.cps.toList x.cps.toList = false := by
        rcases List.mem_cons.mp ((h y).mpr (.head _)) with e | q
        · rw [e, ltCps_eq]; exact decide_eq_false (List.lt_irrefl _)
        · exact rising_min s1 y q
      have := ltc_anti a1 a2
      obtain ⟨⟨cx⟩⟩ := x
      obtain ⟨⟨cy⟩⟩ := y
      exact congrArg (fun l => Str.mk ⟨l⟩) this
    subst e
    rw [List.nodup_cons] at n1 n2
    rw [sorted_same n1.2 n2.2 (rising_tl s1) (rising_tl s2) fun z => ?_]
    constructor
    · intro hz
      exact (List.mem_cons.mp ((h z).mp (.tail _ hz))).resolve_left fun e => n1.1 (e ▸ hz)
    · intro hz
      exact (List.mem_cons.mp ((h z).mpr (.tail _ hz))).resolve_left fun e => n2.1 (e ▸ hz)
section
theorem lay_strs : ∀ {ss : List Str}, (∀ x ∈ ss, PyData.strOk x = true) → PyData.canLayAll0 (ss.map .str) = true ∧ PyData.depthAll (ss.map .str) ≤ 1
  | [], _ => ⟨by simp [PyData.canLayAll0], by simp [PyData.depthAll]⟩
  | x :: r, h => by
    have ih := lay_strs (ss := r) fun y hy => h y (.tail _ hy)
    have hx := h x (.head _)
    refine ⟨by simp [PyData.canLayAll0, PyData.canLay0, ih.1, hx], ?_⟩
    have := ih.2
    simp only [List.map_cons, PyData.depthAll, PyData.depth]
    omega
theorem shaped_strs {ss : List Str} (h : ∀ x ∈ ss, PyData.strOk x = true) : SeqAt.shaped (.list (ss.map .str)) = true := by
  have h1 := lay_strs h
  have h2 : PyData.depth (.list (ss.map .str)) ≤ 64 := by simp only [PyData.depth]; omega
  show (PyData.canLay0 (.list (ss.map .str)) && decide (PyData.depth (.list (ss.map .str)) ≤ 64)) = true
  rw [Bool.and_eq_true]
  exact ⟨by simp only [PyData.canLay0]; exact h1.1, decide_eq_true h2⟩
theorem eqv_strs : ∀ ss : List Str, PyData.eqvAll (ss.map .str) (ss.map .str) = true
  | [] => by simp [PyData.eqvAll]
  | x :: r => by simp [PyData.eqvAll, PyData.eqv, eqv_strs r]
variable {prog : Program} {w : World} {A : Around} {E : Value → Shared → Prop} {s : Shared} {a b : Addr} {vs us : List Value} {ss : List Str}
theorem reads_strs {h : Heap} (hl : h.IsList a vs.toArray) (hi : StrsAre vs ss) : Reads h (.ref a) (.list (ss.map .str)) [a] := by
  obtain ⟨o, ho, hc, n, hd⟩ := hl
  exact Reads.list ho hc hd (by simpa using hi.reads h)
theorem ne_strs {Q : Value → Shared → Prop} (hl : s.heap.IsList a vs.toArray) (hi : StrsAre vs ss) (hl' : s.heap.IsList b us.toArray) (hi' : StrsAre us ss) (hok : ∀ x ∈ ss, PyData.strOk x = true) (hu : A.units + 64 < cLine)
    (h : Q (.bool false) s) : wpAny (model prog w) A (compareOp .NotEq (.ref a) (.ref b)) Q E s :=
  ne_dataH (reads_strs hl hi) (reads_strs hl' hi') (shaped_strs hok) (shaped_strs hok) hu (by rw [show PyData.eqv (.list (ss.map .str)) (.list (ss.map .str)) = true by simp only [PyData.eqv]; exact eqv_strs ss]; exact h)
theorem eqAt_strs (hl : s.heap.IsList a vs.toArray) (hi : StrsAre vs ss) (hl' : s.heap.IsList b us.toArray) (hi' : StrsAre us ss) (hok : ∀ x ∈ ss, PyData.strOk x = true) (hu : A.in1.units + 64 < cLine) : SeqAt.EqAt A.in1 s (.ref a) (.ref b) true := by
  have x := keq_at (A := A) (reads_strs hl hi) (reads_strs hl' hi') (shaped_strs hok) (shaped_strs hok) hu
  rw [show PyData.eqv (.list (ss.map .str)) (.list (ss.map .str)) = true by simp only [PyData.eqv]; exact eqv_strs ss] at x
  exact x
end
theorem fam_at {led : List (Addr × Obj)} {kvs : List (Str × Value)} {P : Str → List Str → Prop} (h : FamIn led kvs P) {z : Str} (hz : z ∈ kvs.map (·.1)) : ∃ a ws ss n, valueAt kvs z = some (.ref a) ∧ (a, W.listOf (ws : List Value).toArray n) ∈ led ∧ StrsAre ws ss ∧ P z ss := by
  obtain ⟨v, h1, h2⟩ := mem_valueAt hz
  obtain ⟨a, ws, ss, n, rfl, q1, q2, q3⟩ := h _ h2
  exact ⟨a, ws, ss, n, h1, q1, q2, q3⟩
theorem hits_all {A : Around} {s : Shared} {kb : List (Str × Value)} : ∀ {ka : List (Str × Value)}, (∀ p ∈ ka, ∃ y, valueAt kb p.1 = some y ∧ SeqAt.EqAt A s p.2 y true) → KeqHits A s kb ka true
  | [], _ => .nil
  | (k, v) :: r, h => by
    obtain ⟨y, h1, h2⟩ := h (k, v) (.head _)
    have := KeqHits.hit h1 h2 (hits_all (ka := r) fun p hp => h p (.tail _ hp))
    exact this
theorem pick_fam {led : List (Addr × Obj)} {kvs : List (Str × Value)} {P : Str → List Str → Prop} {zs : List Str} (h : FamIn led kvs P) (hz : ∀ z ∈ zs, z ∈ kvs.map (·.1)) : ∃ C : Str → List Str, ∀ y ∈ zs, Fam kvs led C y ∧ P y (C y) := by
  have h1 : ∀ y, ∃ ss, y ∈ zs → (∃ a ws n, valueAt kvs y = some (.ref a) ∧ (a, W.listOf (ws : List Value).toArray n) ∈ led ∧ StrsAre ws ss) ∧ P y ss := fun y => by
    by_cases hy : y ∈ zs
    · obtain ⟨a, ws, ss, n, q1, q2, q3, q4⟩ := fam_at h (hz y hy)
      exact ⟨ss, fun _ => ⟨⟨a, ws, n, q1, q2, q3⟩, q4⟩⟩
    · exact ⟨[], fun q => absurd q hy⟩
  exact ⟨fun y => (h1 y).choose, fun y hy => by
    obtain ⟨⟨a, ws, n, q1, q2, q3⟩, q4⟩ := (h1 y).choose_spec hy
    exact ⟨⟨a, ws, n, q1, q2, q3⟩, q4⟩⟩
inductive NestIn (led : List (Addr × Obj)) (z : Str) (y : Value) : Prop
  | mk (a ws n) (h1 : y = .ref a) (h2 : (a, W.listOf (ws : List Value).toArray n) ∈ led) (h3 : StrsAre ws [z]) : NestIn led z y
theorem reads_nest {h : Heap} {led : List (Addr × Obj)} (hl : ∀ p ∈ led, h.get? p.1 = some p.2) {zs : List Str} {ys : List Value} (hp : Paired (NestIn led) zs ys) : ∃ as, ReadsAll h ys (zs.map fun z => .list [.str z]) as := by
  induction hp with
  | nil => exact ⟨[], .nil⟩
  | cons hq _ ih =>
    obtain ⟨a, ws, n, rfl, hm, hs⟩ := hq
    obtain ⟨as, ih⟩ := ih
    exact ⟨_, ReadsAll.cons (reads_strs ⟨_, hl _ hm, rfl, n, rfl⟩ hs) ih⟩
noncomputable def sFOUR : List Str := ["a", "b", "c", "$end"]
theorem ne_nest {prog : Program} {w : World} {A : Around} {E : Value → Shared → Prop} {s : Shared} {a b : Addr} {ys ys' : List Value} {led led' : List (Addr × Obj)} {Q : Value → Shared → Prop} (hl : s.heap.IsList a ys.toArray) (hp : Paired (NestIn led) sFOUR ys) (h1 : ∀ p ∈ led, s.heap.get? p.1 = some p.2)
    (hl' : s.heap.IsList b ys'.toArray) (hp' : Paired (NestIn led') sFOUR ys') (h2 : ∀ p ∈ led', s.heap.get? p.1 = some p.2) (hu : A.units + 64 < cLine) (h : Q (.bool false) s) : wpAny (model prog w) A (compareOp .NotEq (.ref a) (.ref b)) Q E s := by
  obtain ⟨as, ra⟩ := reads_nest h1 hp
  obtain ⟨bs, rb⟩ := reads_nest h2 hp'
  obtain ⟨o, ho, hc, n, hd⟩ := hl
  obtain ⟨o', ho', hc', n', hd'⟩ := hl'
  exact ne_dataH (Reads.list ho hc hd (by simpa using ra)) (Reads.list ho' hc' hd' (by simpa using rb)) (by decide +kernel) (by decide +kernel) hu (by
    rw [show PyData.eqv (.list (sFOUR.map fun z => .list [.str z])) (.list (sFOUR.map fun z => .list [.str z])) = true by decide +kernel]; exact h)
theorem due_same {rules : List (Str × List Str)} {z : Str} {c d p q : List Str} {b : Bool} (hcn : c.Nodup) (hc : ∀ f, f ∈ c ↔ FD rules z f) (hdn : d.Nodup) (hd : ∀ f, f ∈ d ↔ Fir rules z f) (hb : b = true ↔ Emp rules z)
    (hp : p.Perm c) (hps : sortedS p = true) (hq : q.Perm (d ++ (if b then [sEMP] else []))) (hqs : sortedS q = true) : p = q ∧ ∀ x ∈ p, PyData.strOk x = true := by
  have hne : sEMP ∉ d := fun h => by
    have := fir_term ((hd _).mp h)
    revert this; decide
  have hm : ∀ x, x ∈ d ++ (if b then [sEMP] else []) ↔ FD rules z x := fun x => by
    rw [List.mem_append, hd]
    unfold FD
    constructor
    · rintro (h | h)
      · refine .inr ⟨fun e => ?_, h⟩
        have := fir_term h
        rw [e] at this
        revert this; decide
      · by_cases hbb : b = true
        · rw [if_pos hbb, List.mem_singleton] at h
          exact .inl ⟨h, hb.mp hbb⟩
        · rw [if_neg hbb] at h; cases h
    · rintro (⟨rfl, h⟩ | ⟨_, h⟩)
      · right; rw [if_pos (hb.mpr h)]; exact .head _
      · exact .inl h
  have hn2 : (d ++ (if b then [sEMP] else [])).Nodup := by
    refine List.nodup_append.mpr ⟨hdn, ?_, fun x hx y hy e => ?_⟩
    · split <;> simp
    · split at hy
      · rw [List.mem_singleton.mp hy] at e; exact hne (e ▸ hx)
      · cases hy
  refine ⟨sorted_same (hp.nodup_iff.mpr hcn) (hq.nodup_iff.mpr hn2) hps hqs fun x => by rw [hp.mem_iff, hq.mem_iff, hm, hc], fun x hx => ?_⟩
  have := fd_mem ((hc x).mp (hp.mem_iff.mp hx))
  simp only [List.mem_cons, List.not_mem_nil, or_false] at this
  rcases this with rfl | rfl | rfl | rfl <;> decide +kernel
section Law
local macro_rules | `(tactic| k_qdec) => `(tactic| decide +kernel)

theorem reg_W : True := by
  (k_with "call builtin:sorted" => (refine halt ?_))
  (k_with "compareOp NotEq ref ref" => (refine halt ?_))
  (k_with "binaryOp Add ref ref" => (k_dflt ((with_reducible show wpAny _ _ (binaryOp _ (Value.ref _) (Value.ref _)) _ _ _); refine' add_LS ?k1q86 ?k2q86 ?k3q86 ?k4q86 ?k5q86 ?_; (case k1q86 => k_asm); (case k2q86 => k_asm); (case k3q86 => k_extra "m_list"); (case k4q86 => k_extra "m_list"); (case k5q86 => first | assumption | (simp only [List.length_cons, List.length_nil]; omega)); walk_at "i5")))
  (k_with "compareOp Eq ref ref" => (refine halt ?_))
  trivial
theorem law_all : PySem.Challenge.rw_im0031_01.Holds := hd (by
  k_go0
  rename_i w s₀ s₁ mg mb G Y fa o pm doc ho hg X XP V GL T B TE TW w11 w10 M w9 w8 hcd ns hs hlay0 hL1 hr1 hl2 w6 w5 sl vs w2 hL ra w1 r0 hI hr hc1 hc2 K0 hD h₁ tk₁ F oA oB hoA hoB N X0
  have fin : ∀ {L' : Addr} {h' : Heap} {m' : Str → Option Value} (tk : Nat) (d : Drawn), Fr s₁.heap L' h' m' → GoodW PySem.Challenge.rw_im0031_01.row.claim (classAt s₀.heap) (ExcName.means s₀.heap) [ofPy (PyData.list (List.map PyData.int ns))] s₁ (.ok (.ret (.bool true))) { s₁ with heap := h', toks := tk, drawn := d } := by
    intro L' h' m' tk d F'
    refine goodW_bool F' hg (raisesW_false ?_) ?_
    · wrow_none_raised
    · wrow_post
  have T := topRead_of T
  clear G Y ho V GL B TE TW M hcd hs hlay0 hL1 hr1 hl2 ra w1 r0 hr hc2 K0 hD X0 XP
  refine wpAny_mono (?_ : wpAny _ _ _ (fun f s' => ∃ (L' : Addr) (h' : Heap) (m' : Str → Option Value) (tk : Nat) (d : Drawn), f = .ret (.bool true) ∧ Fr s₁.heap L' h' m' ∧ s' = { s₁ with heap := h', toks := tk, drawn := d }) (fun _ _ => False) _) (fun f s' hf => ?_) fun _ _ x => x.elim
  case refine_2 =>
    obtain ⟨L', h', m', tk, d, rfl, F', rfl⟩ := hf
    exact fin tk d F'
  clear fin hg
  generalize s₁.heap.objs.size = L at *
  refine letS ?_
  intro SH A1 en Q1
  have nh : NoHalt := trivial
  (try ((with_reducible show wpAny _ _ _ _ _ _); k_fold)); k_steps
  clear nh
  rename_i _ _ _ _ _ _ _ _ _ _ _ _ tvs hIt hLt tape h₂ _ F N otp _
  have hlt : ((ns.take 28).map fun k' => k'.fmod 720720).length ≤ 28 := by rw [List.length_map]; exact List.length_take_le 28 ns
  refine wpAny_call ?_
  refine' t_rules X T ?qs ?qr rfl ?qu (N _ (.head _)).1 hIt (N _ (.head _)).2.2 hlt ?_
  case qs => exact F.keep
  case qr => exact (by decide : (1 + claimMargin + 1 + 5 : Nat) < recursionLimit)
  case qu => exact Nat.le_of_ble_eq_true rfl
  intro rl h' tk' rvs rn rules ext kk hrn hre hrows hext hgood
  (try dsimp only [SH] at kk hrn hext)
  obtain ⟨Nx, hax⟩ := fresh_N F N (own := (rl, W.listOf rvs.toArray rn) :: ext) (h' := h') (List.forall_mem_cons.mpr ⟨⟨hrn, hre⟩, fun q hq => ⟨(hext q hq).2.1, (hext q hq).1⟩⟩)
  have hLtape : L ∉ [tape] := fun q => (N _ (.head _)).2.1 (List.mem_singleton.mp q).symm
  have F := Fr_kp F kk hLtape (fun a ha => (List.mem_singleton.mp ha) ▸ (N _ (.head _)).2.2)
  have N0 := News_kp (News_sub N (news' := [(L + 1 + 1, oA), (L + 1, oB)]) (by walk_at "m_sub")) kk (fun q hq z => by
    have e := List.mem_singleton.mp z
    rcases List.mem_cons.mp hq with rfl | hq
    · exact otp.2.1 e
    · rw [List.mem_singleton.mp hq] at e; exact otp.2.2 e)
  have N : News s₁.heap L h' ((L + 1 + 1, oA) :: (L + 1, oB) :: (rl, W.listOf rvs.toArray rn) :: ext) := (N0.append Nx)
  have hex1 : ∀ q ∈ ext, @Ne Nat q.1 (L + 1) := fun q hq => hax (L + 1, oB) (by walk_at "m_in") q (.tail _ hq)
  have hex2 : ∀ q ∈ ext, @Ne Nat q.1 (L + 1 + 1) := fun q hq => hax (L + 1 + 1, oA) (by walk_at "m_in") q (.tail _ hq)
  have hrl1 : @Ne Nat rl (L + 1) := hax (L + 1, oB) (by walk_at "m_in") _ (.head _)
  have hrl2 : @Ne Nat rl (L + 1 + 1) := hax (L + 1 + 1, oA) (by walk_at "m_in") _ (.head _)
  have hexr : ∀ q ∈ ext, q.1 ≠ rl := fun q hq => (hext q hq).2.2
  clear N0 Nx hax hext kk hre hrn hLtape otp hIt hLt hlt hL hI hc1
  (try dsimp only)
  (try ((with_reducible show wpAny _ _ _ _ _ _); k_fold)); k_steps
  rename_i tl _ F N ltl _
  refine wpAny_call ?_
  refine make_A (fI := 137) F N (X.keeps F.keep) (by k_is) (by k_is) (by k_is) fun xg dx h' F N lx ld => ?_
  have N3 : News s₁.heap L h' [(xg, instObj 248 dx), (dx, dictOf [] 0), (tl, _)] := News_sub N (by walk_at "m_sub")
  refine' t_ginit X T ?qs ?qr ?qu (fun q hq => ⟨(N3 q hq).1, (N3 q hq).2.2⟩) ld (lx _ (.head _)) ?_
  case qs => exact F.keep
  case qr => exact (by decide : (1 + claimMargin + 1 + 1 + 5 : Nat) < recursionLimit)
  case qu => exact Nat.le_of_ble_eq_true rfl
  intro h' tk' led1 fd fo pl pn pm td nd pr ofd ofo up u0 u1 u2 u3 u4 u5 u6 u7 u8 u9 kk hl hap hfdfo hGS hofd hofo hfm hfom
  refine ⟨rfl, ?_⟩
  (try dsimp only [SH] at kk hl)
  obtain ⟨F, N, ha⟩ := use_led (led := [(xg, instObj 248 dx), (dx, dictOf [] 0), (tl, _)]) (rest := (L + 1 + 1, oA) :: (L + 1, oB) :: (rl, W.listOf rvs.toArray rn) :: ext) F N
    (Apart.cons (fun q hq => Nat.ne_of_lt (Nat.lt_trans (lx q (.tail _ hq)) ld)) (Apart.cons (fun q hq => Nat.ne_of_lt (lx q (.tail _ hq))) (Apart.cons (allLt_ne (by exact ltl)) Apart.nil))) kk hl
  clear N3 kk hl lx ld ltl
  (try dsimp only)
  (try ((with_reducible show wpAny _ _ _ _ _ _); k_fold)); k_steps
  rename Fr _ _ _ _ => F
  rename News _ _ _ _ => N
  have hge := ge_of w pl pn pm td nd fd fo pr up .none u0 u1 u2 u3 u4 u5 u6 u7 u8 u9
  generalize hEs : gEs w pl pn pm td nd fd fo pr up Value.none u0 u1 u2 u3 u4 u5 u6 u7 u8 u9 = es0 at hGS hge
  have hga := hge.m2
  refine g_pairs (fun i m news => ∃ led, news = (L + 1 + 1, oA) :: (L + 1, oB) :: (rl, W.listOf rvs.toArray rn) :: (led ++ ((fd, ofd) :: (fo, ofo) :: ext)) ∧ GS PySem.Challenge.rw_im0031_01.row.prog w xg dx pl pn pm td nd pr es0 (rules.take i) .none led ∧
      Apart (led ++ [(fd, ofd), (fo, ofo)]) ((L + 1 + 1, oA) :: (L + 1, oB) :: (rl, W.listOf rvs.toArray rn) :: ext) ∧ Apart led [(fd, ofd), (fo, ofo)] ∧ m "grammar" = some (.ref xg) ∧ m "rules" = some (.ref rl))
    rfl (N (rl, W.listOf rvs.toArray rn) (by walk_at "m_in")).1 ⟨rfl, _, rfl⟩ F (News_sub N (news' := (L + 1 + 1, oA) :: (L + 1, oB) :: (rl, W.listOf rvs.toArray rn) :: (led1 ++ ((fd, ofd) :: (fo, ofo) :: ext))) (by walk_at "m_sub")) rfl rfl rfl ⟨led1, rfl, hGS, ha, hap, rfl, rfl⟩ ?_ (fun v hv => hrows.ref v (by simpa using hv)) ?_ ?_ ?_
  · rintro j m news ⟨led, rfl, _⟩
    exact .inl (.tail _ (.tail _ (.head _)))
  · rintro j m news b ⟨led, rfl, _⟩ hb
    obtain ⟨r, _, a', b', t1, n1, n2, ws, q, hm, _⟩ := hrows.get (by simpa using hb)
    cases q
    exact ⟨_, _, n1, .tail _ (.tail _ (.tail _ (List.mem_append_right _ (.tail _ (.tail _ hm)))))⟩
  · clear F N hGS ha hap
    rintro own j b v1 v2 n m₁ news₁ h tk hb hbm ⟨led, rfl, hGS, ha, hap, hm1, hm2⟩ hoff F N
    obtain ⟨r, hrj, a', b', t1, n1, n2, ws, q, hm1', hm2', hws⟩ := hrows.get (i := j) (v := .ref b) (by simpa using hb)
    cases q
    have hv : v1 = .str r.1 t1 ∧ v2 = .ref b' := by
      have a1 := (N _ (List.mem_append_left _ hbm)).1
      have a2 := (N _ (List.mem_append_left _ (.tail _ (.tail _ (.tail _ (List.mem_append_right _ (.tail _ (.tail _ hm1')))))))).1
      (try dsimp only [SH] at a1 a2)
      rw [a2] at a1
      injection a1 with a1
      injection a1 with _ _ a1
      injection a1 with a1
      have := congrArg Array.toList a1
      simp at this
      exact ⟨this.1.symm, this.2.symm⟩
    obtain ⟨rfl, rfl⟩ := hv
    have F := Fr_say F (x := "grammar") ((if_neg (by decide)).trans ((if_neg (by decide)).trans hm1))
    have F := Fr_say F (x := "rules") ((if_neg (by decide)).trans ((if_neg (by decide)).trans ((if_neg (by decide)).trans hm2)))
    have hrm := List.mem_of_getElem? hrj
    have hrok := hgood.ok _ hrm
    obtain ⟨hjl, hjdrop, htk⟩ := drop_at hrj
    have hxl := hGS.hx
    obtain ⟨ep, hdxl⟩ := hGS.hdx
    simp only [List.cons_append, List.append_assoc] at N
    (try ((with_reducible show wpAny _ _ _ _ _ _); k_fold)); k_steps
    refine list_copyKT F N ⟨_, (N (b', tupOf ws n2) (by walk_at "m_in")).1, rfl, _, rfl⟩ (fun sl c h' F N l1 => ?_) (by rw [List.size_toArray, hws.length, sizeLine_eq]; have := hrok.2.1; omega)
    have hslr : ∀ q ∈ (L + 1 + 1, oA) :: (L + 1, oB) :: (rl, W.listOf rvs.toArray rn) :: (fd, ofd) :: (fo, ofo) :: (ext ++ own), q.1 ≠ sl := fun q hq => Nat.ne_of_lt (l1 q (by revert q; walk_at "m_sub"))
    have hsll : ∀ q ∈ led, q.1 ≠ sl := fun q hq => Nat.ne_of_lt (l1 q (by revert q; walk_at "m_sub"))
    have hledr : Apart led ((L + 1 + 1, oA) :: (L + 1, oB) :: (rl, W.listOf rvs.toArray rn) :: (fd, ofd) :: (fo, ofo) :: (ext ++ own)) := fun p hp q hq => by
      rcases List.mem_cons.mp hq with rfl | hq
      · exact ha p (List.mem_append_left _ hp) _ (.head _)
      · rcases List.mem_cons.mp hq with rfl | hq
        · exact ha p (List.mem_append_left _ hp) _ (.tail _ (.head _))
        · rcases List.mem_cons.mp hq with rfl | hq
          · exact ha p (List.mem_append_left _ hp) _ (.tail _ (.tail _ (.head _)))
          · rcases List.mem_cons.mp hq with rfl | hq
            · exact hap p hp _ (.head _)
            · rcases List.mem_cons.mp hq with rfl | hq
              · exact hap p hp _ (.tail _ (.head _))
              · rcases List.mem_append.mp hq with hq | hq
                · exact ha p (List.mem_append_left _ hp) _ (.tail _ (.tail _ (.tail _ hq)))
                · exact hoff p (.tail _ (.tail _ (.tail _ (List.mem_append_left _ hp)))) q hq
    (try ((with_reducible show wpAny _ _ _ _ _ _); k_fold)); k_steps
    rename Fr _ _ _ _ => F
    refine wpAny_call ?_
    refine' use_addp (led := led) (n := c) (ws := ws) (rest := (L + 1 + 1, oA) :: (L + 1, oB) :: (rl, W.listOf rvs.toArray rn) :: (fd, ofd) :: (fo, ofo) :: (ext ++ own)) X T ?qr ?qu ?q1 rfl F (News_sub N ?q2) (Apart.append hledr (Apart.cons hslr Apart.nil)) hge hGS (fun p hp q hq => (List.mem_singleton.mp hq) ▸ (hsll p hp).symm) hws hrok ?q3 (fun r' hr' => hgood.ok r' (List.mem_of_mem_take hr')) ?q4 ?_
    case qr => exact (by decide : (1 + claimMargin + 1 + 10 : Nat) < recursionLimit)
    case qu => exact Nat.le_of_ble_eq_true rfl
    case q1 => exact fun e => nomatch e
    case q2 => walk_at "m_sub"
    case q3 =>
      intro hr'
      obtain ⟨k', hk', e⟩ := List.mem_take_iff_getElem.mp hr'
      have := List.pairwise_iff_getElem.mp hgood.nodup k' j (by omega) hjl (by omega)
      rw [e] at this
      have e2 : rules[j] = r := by rw [List.getElem?_eq_getElem hjl] at hrj; exact Option.some.inj hrj
      exact this e2.symm
    case q4 => exact Nat.le_trans (List.length_take_le' _ _) hgood.len
    intro h' tk' led' F N ha' hGS'
    (try dsimp only)
    refine wpAny_pure ?_
    have hao : Apart led' own := fun p hp q hq => ha' p hp q (.tail _ (.tail _ (.tail _ (.tail _ (.tail _ (List.mem_append_right _ hq))))))
    refine StepG.next (EndG.mk ((L + 1 + 1, oA) :: (L + 1, oB) :: (rl, W.listOf rvs.toArray rn) :: (led' ++ ((fd, ofd) :: (fo, ofo) :: ext))) F N (by walk_at "m_sub") (fun p hp => ?_) ⟨led', rfl, ?_, fun p hp q hq => ?_, fun p hp q hq => ha' p hp q (.tail _ (.tail _ (List.mem_cons_of_mem _ (by revert q; walk_at "m_sub")))), rfl, rfl⟩)
    · rcases List.mem_cons.mp hp with rfl | hp
      · exact hoff (L + 1 + 1, oA) (.head _)
      · rcases List.mem_cons.mp hp with rfl | hp
        · exact hoff (L + 1, oB) (.tail _ (.head _))
        · rcases List.mem_cons.mp hp with rfl | hp
          · exact hoff (rl, W.listOf rvs.toArray rn) (.tail _ (.tail _ (.head _)))
          · rcases List.mem_append.mp hp with hp | hp
            · exact hao p hp
            · exact hoff p (.tail _ (.tail _ (.tail _ (List.mem_append_right _ hp))))
    · rw [htk]; exact hGS'
    · rcases List.mem_append.mp hp with hp | hp
      · exact ha' p hp q (by revert q; walk_at "m_sub")
      · exact ha p (List.mem_append_right _ hp) q hq
  · clear F N hGS ha hap
    rintro h tk m₁ news₁ ⟨led, rfl, hGS, ha, hap, hm1, hm2⟩ F N
    rw [List.size_toArray, hrows.length, List.take_length] at hGS
    have F := Fr_say F (x := "grammar") hm1
    have F := Fr_say F (x := "rules") ((if_neg (by decide)).trans hm2)
    have hxl := hGS.hx
    obtain ⟨ep, hdxl⟩ := hGS.hdx
    have hgs := hge.m3
    (try ((with_reducible show wpAny _ _ _ _ _ _); k_fold)); k_steps
    rename Fr _ _ _ _ => F
    refine wpAny_call ?_
    refine' t_start X T ?qs ?qr ?qu (hEs ▸ hGS) ?qH hgood ?_
    case qs => exact F.keep
    case qr => exact (by decide : (1 + claimMargin + 1 + 10 : Nat) < recursionLimit)
    case qu => exact Nat.le_of_ble_eq_true rfl
    case qH => exact fun q hq => ⟨(N q (by revert q; walk_at "m_sub")).1, (N q (by revert q; walk_at "m_sub")).2.2⟩
    intro h' tk' led' kk hl hGR
    (try dsimp only [SH] at kk hl)
    have hledr : Apart led ((L + 1 + 1, oA) :: (L + 1, oB) :: (rl, W.listOf rvs.toArray rn) :: (fd, ofd) :: (fo, ofo) :: ext) := fun p hp q hq => by
      rcases List.mem_cons.mp hq with rfl | hq
      · exact ha p (List.mem_append_left _ hp) _ (.head _)
      · rcases List.mem_cons.mp hq with rfl | hq
        · exact ha p (List.mem_append_left _ hp) _ (.tail _ (.head _))
        · rcases List.mem_cons.mp hq with rfl | hq
          · exact ha p (List.mem_append_left _ hp) _ (.tail _ (.tail _ (.head _)))
          · rcases List.mem_cons.mp hq with rfl | hq
            · exact hap p hp _ (.head _)
            · rcases List.mem_cons.mp hq with rfl | hq
              · exact hap p hp _ (.tail _ (.head _))
              · exact ha p (List.mem_append_left _ hp) _ (.tail _ (.tail _ (.tail _ hq)))
    obtain ⟨F, N, ha2⟩ := use_led (led := led) (rest := (L + 1 + 1, oA) :: (L + 1, oB) :: (rl, W.listOf rvs.toArray rn) :: (fd, ofd) :: (fo, ofo) :: ext) F (News_sub N (by walk_at "m_sub")) hledr kk hl
    have hfx := ha (fd, ofd) (List.mem_append_right _ (.head _))
    have hfox := ha (fo, ofo) (List.mem_append_right _ (.tail _ (.head _)))
    clear hGS hxl hdxl hgs hge hEs hledr ha hap kk hl hm1 hm2
    obtain ⟨tS, hGR⟩ : ∃ tS, GR PySem.Challenge.rw_im0031_01.row.prog w xg dx pl pn td nd (gEs w pl pn pm td nd fd fo pr up (.str "S" tS) u0 u1 u2 u3 u4 u5 u6 u7 u8 u9) rules led' := ⟨_, hGR⟩
    have hge := ge_of w pl pn pm td nd fd fo pr up (.str "S" tS) u0 u1 u2 u3 u4 u5 u6 u7 u8 u9
    obtain ⟨es1, hEs1⟩ : ∃ es1, es1 = gEs w pl pn pm td nd fd fo pr up (.str "S" tS) u0 u1 u2 u3 u4 u5 u6 u7 u8 u9 := ⟨_, rfl⟩
    rw [← hEs1] at hGR hge
    obtain ⟨hxl, ⟨ep1, hdxl⟩, ⟨otd, kT, htd, hotd, hkT⟩, ⟨ond, kN, hnd, hond, hkN⟩, ⟨opn, kP, hpn, hopn, hkP⟩, ⟨p0, ps, pk, hpl, hps⟩, hm1, hm2, hm3⟩ := hGR
    have hgc1 := hge.m4
    (try dsimp only)
    (try ((with_reducible show wpAny _ _ _ _ _ _); k_fold)); k_steps
    (try dsimp only)
    rename Fr _ _ _ _ => F
    refine wpAny_call ?_
    have hc12 : @Ne Nat (L + 1 + 1) (L + 1) := by omega
    have hfdc1 : @Ne Nat fd (L + 1) := (hfx (L + 1, oB) (by walk_at "m_in")).symm
    have hfdc2 : @Ne Nat fd (L + 1 + 1) := (hfx (L + 1 + 1, oA) (by walk_at "m_in")).symm
    have hfoc1 : @Ne Nat fo (L + 1) := (hfox (L + 1, oB) (by walk_at "m_in")).symm
    have hfoc2 : @Ne Nat fo (L + 1 + 1) := (hfox (L + 1 + 1, oA) (by walk_at "m_in")).symm
    have N3 : News s₁.heap L h' ((fd, ofd) :: led') := News_sub N (by walk_at "m_sub")
    refine' t_cfirst (rest := led') (fd := fd) (ofd := ofd) (rules := rules) X T ?qs ?qr ?qu ?qH (fun q hq => (ha2 q hq (fd, ofd) (by walk_at "m_in")).symm) hxl hdxl hge.fd hge.td hge.nd hge.pn hge.m1 hofd hfm htd hotd hm1 hnd hond hm2 hpn hopn hm3 hkT hkN hkP hgood.ok hgood.len ?_
    case qs => exact F.keep
    case qr => exact (by decide : (1 + claimMargin + 1 + 10 : Nat) < recursionLimit)
    case qu => exact Nat.le_of_ble_eq_true rfl
    case qH => exact fun q hq => ⟨(N3 q hq).1, (N3 q hq).2.2⟩
    intro h' tk' o1 kF la V K C E5 kk hl hd1 hl8 hC hE5 hV5
    (try dsimp only [SH] at kk hl)
    obtain ⟨F, N, ha3⟩ := use_led (led := (fd, ofd) :: led') (rest := (L + 1 + 1, oA) :: (L + 1, oB) :: (rl, W.listOf rvs.toArray rn) :: (fo, ofo) :: ext) F (News_sub N (by walk_at "m_sub")) (Apart.cons (fun q hq => (List.mem_cons.mp hq).elim (fun e => by rw [e]; exact hfdc2.symm) fun hq => (List.mem_cons.mp hq).elim (fun e => by rw [e]; exact hfdc1.symm) fun hq => (List.mem_cons.mp hq).elim (fun e => by rw [e]; exact hfx (rl, W.listOf rvs.toArray rn) (by walk_at "m_in")) fun hq => (List.mem_cons.mp hq).elim (fun e => by rw [e]; exact hfdfo.symm) fun hq => hfx q (.tail _ (.tail _ (.tail _ hq)))) fun p hp q hq => ha2 p hp q (by revert q; walk_at "m_sub")) kk hl
    obtain ⟨t1, ht1⟩ : ∃ t1, t1 = L3 la V K ++ (fd, o1) :: (eLed E5 ++ led') := ⟨_, rfl⟩
    rw [← ht1] at N ha3
    have hs1 : ∀ q ∈ led', q ∈ t1 := by rw [ht1]; walk_at "m_sub"
    have hs2 : ∀ q ∈ eLed E5, q ∈ t1 := by rw [ht1]; walk_at "m_sub"
    have hs3 : ∀ q ∈ L3 la V K, q ∈ t1 := by rw [ht1]; walk_at "m_sub"
    have hs4 : (fd, o1) ∈ t1 := by rw [ht1]; walk_at "m_in"
    have ht1c1 : ∀ q ∈ t1, @Ne Nat q.1 (L + 1) := fun q hq => (ha3 q hq (L + 1, oB) (by walk_at "m_in")).symm
    have ht1c2 : ∀ q ∈ t1, @Ne Nat q.1 (L + 1 + 1) := fun q hq => (ha3 q hq (L + 1 + 1, oA) (by walk_at "m_in")).symm
    have ht1fo : ∀ q ∈ t1, q.1 ≠ fo := fun q hq => (ha3 q hq (fo, ofo) (by walk_at "m_in")).symm
    have N := News_sub N (news' := (L + 1, oB) :: (L + 1 + 1, oA) :: (rl, W.listOf rvs.toArray rn) :: (fo, ofo) :: (t1 ++ ext)) (by walk_at "m_sub")
    have hxl := hs1 _ hxl
    have hdxl := hs1 _ hdxl
    have hgc2 := hge.m5
    have ht1x : Apart t1 ((rl, W.listOf rvs.toArray rn) :: ext) := fun p hp q hq => ha3 p hp q (by revert q; walk_at "m_sub")
    have hfor : ∀ q ∈ (rl, W.listOf rvs.toArray rn) :: ext, q.1 ≠ fo := fun q hq => hfox q (by revert q; walk_at "m_sub")
    clear N3 kk hl ht1 ha3 ha2 hfx hfox hfdc1 hfdc2
    (try dsimp only)
    (try ((with_reducible show wpAny _ _ _ _ _ _); k_fold)); k_steps
    rename_i oB' F N hoB' _
    refine wpAny_call ?_
    have hCn : ∀ z ∈ sNAMES, (C z).Nodup := fun z hz => (hC z hz).2.2.1
    have hCm : ∀ z ∈ sNAMES, ∀ f, f ∈ C z ↔ FD rules z f := fun z hz => (hC z hz).2.2.2
    have hfam : ∀ y ∈ sSYMS, Fam kF t1 (CFof C) y ∧ (CFof C y).length ≤ 10 := fun y hy => by
      refine ⟨?_, CFof_len hCn hCm y⟩
      by_cases h : y ∈ sNAMES
      · obtain ⟨e1, e2, _⟩ := hC y h
        exact ⟨la y, V y, K y, e1, hs3 _ (L3_at h), by unfold CFof; rw [if_pos h]; exact e2⟩
      · have hya := (name_abc hy).resolve_left h
        have : y ∈ E5.map (·.1) := by
          rw [hE5]
          simp only [sABC, List.mem_cons, List.not_mem_nil, or_false] at hya
          rcases hya with rfl | rfl | rfl <;> decide
        obtain ⟨e, he, rfl⟩ := ent_at this
        obtain ⟨e1, e2⟩ := hV5 e he
        exact ⟨e.2.1, e.2.2.1, e.2.2.2, e1, hs2 _ (List.mem_map_of_mem he), by unfold CFof; rw [if_neg h]; exact e2⟩
    have N3 : News s₁.heap L _ ((fo, ofo) :: t1) := News_sub N (by walk_at "m_sub")
    refine' t_cfollow (rest := t1) (fo := fo) (ofo := ofo) (rules := rules) (CF := CFof C) X T ?qs ?qr ?qu ?qH ht1fo hxl hdxl hge.fd hge.fo hge.nd hge.pl hge.m1 hofo hfom hs4 hd1 hfm hl8 (hs1 _ hnd) hond hm2 hkN (hs1 _ hpl) (hps.mono hs1) hfam (CFof_fd hgood.ok hCm) hgood.ok hgood.len hgood.names ?_
    case qs => exact F.keep
    case qr => exact (by decide : (1 + claimMargin + 1 + 10 : Nat) < recursionLimit)
    case qu => exact Nat.le_of_ble_eq_true rfl
    case qH => exact fun q hq => ⟨(N3 q hq).1, (N3 q hq).2.2⟩
    intro h' tk' o2 kO la2 V2 K2 C2 kk hl hd2 hkO hC2
    (try dsimp only [SH] at kk hl)
    obtain ⟨F, N, ha4⟩ := use_led (led := (fo, ofo) :: t1) (rest := (L + 1, oB') :: (L + 1 + 1, oA) :: (rl, W.listOf rvs.toArray rn) :: ext) F (News_sub N (by walk_at "m_sub")) (Apart.cons (List.forall_mem_cons.mpr ⟨hfoc1.symm, List.forall_mem_cons.mpr ⟨hfoc2.symm, hfor⟩⟩) fun p hp => List.forall_mem_cons.mpr ⟨(ht1c1 p hp).symm, List.forall_mem_cons.mpr ⟨(ht1c2 p hp).symm, ht1x p hp⟩⟩) kk hl
    obtain ⟨t2, ht2⟩ : ∃ t2, t2 = L3 la2 V2 K2 ++ (fo, o2) :: t1 := ⟨_, rfl⟩
    rw [← ht2] at N ha4
    have hs5 : ∀ q ∈ t1, q ∈ t2 := by rw [ht2]; walk_at "m_sub"
    have hs6 : ∀ q ∈ L3 la2 V2 K2, q ∈ t2 := by rw [ht2]; walk_at "m_sub"
    have hs7 : (fo, o2) ∈ t2 := by rw [ht2]; walk_at "m_in"
    have ht2c1 : ∀ q ∈ t2, @Ne Nat q.1 (L + 1) := fun q hq => (ha4 q hq (L + 1, oB') (by walk_at "m_in")).symm
    have ht2c2 : ∀ q ∈ t2, @Ne Nat q.1 (L + 1 + 1) := fun q hq => (ha4 q hq (L + 1 + 1, oA) (by walk_at "m_in")).symm
    have N := News_sub N (news' := (L + 1 + 1, oA) :: (L + 1, oB') :: (rl, W.listOf rvs.toArray rn) :: (t2 ++ ext)) (by walk_at "m_sub")
    have hL3f : ∀ q ∈ L3 la V K, q ∈ t2 := fun q hq => hs5 q (hs3 q hq)
    have hE5f : ∀ q ∈ eLed E5, q ∈ t2 := fun q hq => hs5 q (hs2 q hq)
    have hfdt := hs5 _ hs4
    clear N3 kk hl ht2 ha4 hfam hs1 hs2 hs3 hs4 hs5 hpl hps hpn hkP hopn htd hotd hkT hge hgc1 hgc2 hxl hdxl hEs1 ht1x ht1c1 ht1c2 ht1fo hfor
    (try dsimp only)
    (try ((with_reducible show wpAny _ _ _ _ _ _); k_fold)); k_steps
    rename_i oA' F N hoA' _
    obtain ⟨t3, ht3⟩ : ∃ t3, t3 = (rl, W.listOf rvs.toArray rn) :: (t2 ++ ext) := ⟨_, rfl⟩
    rw [← ht3] at N
    have hs8 : ∀ q ∈ t2, q ∈ t3 := by rw [ht3]; walk_at "m_sub"
    have hrl3 : (rl, W.listOf rvs.toArray rn) ∈ t3 := by rw [ht3]; exact .head _
    have hrows3 : RowsIn t3 rvs rules := hrows.mono (by rw [ht3]; walk_at "m_sub")
    have hL3f : ∀ q ∈ L3 la V K, q ∈ t3 := fun q hq => hs8 q (hL3f q hq)
    have hL3g : ∀ q ∈ L3 la2 V2 K2, q ∈ t3 := fun q hq => hs8 q (hs6 q hq)
    have hE5f : ∀ q ∈ eLed E5, q ∈ t3 := fun q hq => hs8 q (hE5f q hq)
    have hfdt := hs8 _ hfdt
    have hfot := hs8 _ hs7
    clear hs8 hs6 hs7 ht3 hrows ht2c1 ht2c2
    refine wpAny_call ?_
    refine' t_van (led := t3) X T ?qs ?qr ?qu ?qH hrl3 hrows3 hgood.ok hgood.len ?_
    case qs => exact F.keep
    case qr => exact (by decide : (1 + claimMargin + 1 + 5 : Nat) < recursionLimit)
    case qu => exact Nat.le_of_ble_eq_true rfl
    case qH => exact fun q hq => ⟨(N q (by revert q; walk_at "m_sub")).1, (N q (by revert q; walk_at "m_sub")).2.2⟩
    intro vl h' tk' vvs v vk kk hrn e hvs hvn hvE
    obtain ⟨F, N, _⟩ := grow_kp F N kk hrn e
    clear kk hrn e
    (try dsimp only)
    (try ((with_reducible show wpAny _ _ _ _ _ _); k_fold)); k_steps
    rename Fr _ _ _ _ => F
    rename News _ _ _ _ => N
    have hv3 : v.length ≤ 3 := nodup_len (m := sNAMES) hvn fun t ht => emp_name hgood.ok ((hvE t).mp ht)
    refine wpAny_call ?_
    refine' t_firsts (led := (vl, W.listOf vvs.toArray vk) :: t3) X T ?qs ?qr ?qu ?qH (.tail _ hrl3) (hrows3.mono fun q hq => .tail _ hq) hgood.ok hgood.len (.head _) hvs hvE hv3 ?_
    case qs => exact F.keep
    case qr => exact (by decide : (1 + claimMargin + 1 + 10 : Nat) < recursionLimit)
    case qu => exact Nat.le_of_ble_eq_true rfl
    case qH => exact fun q hq => ⟨(N q (by revert q; walk_at "m_sub")).1, (N q (by revert q; walk_at "m_sub")).2.2⟩
    intro fl h' tk' kvF oF ow kk hfr hofF hkF hfam hflm
    obtain ⟨Nx, _⟩ := fresh_N F N hfr
    have F := Fr_kp F kk (fun q => nomatch q) (fun _ q => nomatch q)
    have N := (News_kp N kk (fun _ _ q => nomatch q)).append Nx
    obtain ⟨t4, ht4⟩ : ∃ t4, t4 = (vl, W.listOf vvs.toArray vk) :: (fl, oF) :: (t3 ++ ow) := ⟨_, rfl⟩
    have N := News_sub N (news' := (L + 1 + 1, oA') :: (L + 1, oB') :: t4) (by rw [ht4]; walk_at "m_sub")
    have hs9 : ∀ q ∈ t3, q ∈ t4 := by rw [ht4]; walk_at "m_sub"
    have hvl4 : (vl, W.listOf vvs.toArray vk) ∈ t4 := by rw [ht4]; exact .head _
    have hfl4 : (fl, oF) ∈ t4 := by rw [ht4]; exact .tail _ (.head _)
    have hfam := hfam.mono (led' := t4) (by rw [ht4]; walk_at "m_sub")
    have hrl3 := hs9 _ hrl3
    have hrows3 := hrows3.mono hs9
    have hL3f : ∀ q ∈ L3 la V K, q ∈ t4 := fun q hq => hs9 q (hL3f q hq)
    have hL3g : ∀ q ∈ L3 la2 V2 K2, q ∈ t4 := fun q hq => hs9 q (hL3g q hq)
    have hE5f : ∀ q ∈ eLed E5, q ∈ t4 := fun q hq => hs9 q (hE5f q hq)
    have hfdt := hs9 _ hfdt
    have hfot := hs9 _ hfot
    clear kk hfr Nx ht4 hs9
    (try dsimp only)
    (try ((with_reducible show wpAny _ _ _ _ _ _); k_fold)); k_steps
    rename Fr _ _ _ _ => F
    rename News _ _ _ _ => N
    refine wpAny_call ?_
    refine' t_names X T ?qs ?qr ?_
    case qs => exact F.keep
    case qr => exact (by decide : (1 + claimMargin + 1 : Nat) < recursionLimit)
    intro nl h' tk' n1 n2 n3 kk hr e
    obtain ⟨F, N, _⟩ := grow_kp F N kk hr e
    clear kk hr e
    (try dsimp only)
    refine g_strs (fun i m news => news = (nl, W.listOf #[.str "S" n1, .str "A" n2, .str "B" n3] 0) :: (L + 1 + 1, oA') :: (L + 1, oB') :: t4 ∧ m "firsts" = some (.ref fl) ∧ m "vanish" = some (.ref vl) ∧ m "rules" = some (.ref rl)) (vs := [.str "S" n1, .str "A" n2, .str "B" n3]) (ss := sNAMES)
      rfl (N _ (.head _)).1 ⟨.inl rfl, _, rfl⟩ (.cons _ _ (.cons _ _ (.cons _ _ .nil))) F N rfl rfl ⟨rfl, rfl, rfl, rfl⟩ ?_ ?_ ?_
    · rintro i m news ⟨rfl, _⟩
      exact .inl (.head _)
    · clear F N
      rintro own i z u m₁ news₁ h tk hz ⟨rfl, hm1', hm2', hm3'⟩ hoff F N
      have F := Fr_say F (x := "firsts") ((if_neg (by decide)).trans hm1')
      have F := Fr_say F (x := "vanish") ((if_neg (by decide)).trans ((if_neg (by decide)).trans hm2'))
      have F := Fr_say F (x := "rules") ((if_neg (by decide)).trans ((if_neg (by decide)).trans ((if_neg (by decide)).trans hm3')))
      have hzn : z ∈ sNAMES := List.mem_of_getElem? hz
      obtain ⟨fa2, fws, fss, fn, e1, e2, e3, e4, e5⟩ := fam_at hfam (z := z) (by rw [hkF]; exact names_syms hzn)
      obtain ⟨g1, g2, g3, g4⟩ := hC z hzn
      have hLz := hL3f _ (L3_at hzn)
      have hfl10 : fws.length ≤ 10 := by
        rw [e3.length]
        exact Nat.le_trans (nodup_len (m := (["a", "b", "c"] : List Str)) e4 fun f hf => fir_term ((e5 f).mp hf)) (by decide)
      simp only [List.cons_append] at N
      have hV64 : (V z).length < 64 := by
        rw [g2.length]
        exact Nat.lt_of_le_of_lt (nodup_len (m := (["a", "b", "c", sEMP] : List Str)) g3 fun f hf => fd_mem ((g4 f).mp hf)) (by decide)
      have hF64 : ∀ x : List Value, x.length ≤ 1 → (fws ++ x).length < 64 := fun x hx => by rw [List.length_append]; omega
      have hM4 : (la z, W.listOf (V z).toArray (K z)) ∈ t4 := hLz
      (try ((with_reducible show wpAny _ _ _ _ _ _); k_fold)); k_steps
      all_goals
        rename List.any _ _ = _ => hin
        rename_i ld _ _ _ D2 _ _ _ _ _ _ F N _ _
        refine unhalt ?_
        refine sorted_N_str (vs := V z) (ss := C z) F N ⟨_, (N (la z, W.listOf (V z).toArray (K z)) (by walk_at "m_in")).1, rfl, _, rfl⟩ g2 hV64 fun h5 p5 q5 k5 F N s5 s6 s7 => ?_
        (try dsimp only)
        (try ((with_reducible show wpAny _ _ _ _ _ _); k_fold)); k_steps
        refine unhalt ?_
      · have hin := of_decide_eq_true (any_mem hin)
        refine sorted_N_str (vs := fws ++ _) (ss := fss ++ [sEMP]) F N ⟨_, (N _ (.tail _ (.head _))).1, rfl, _, rfl⟩ (e3.append' (.cons _ _ .nil)) (hF64 _ (Nat.le_refl _)) fun h6 p6 q6 k6 F N r5 r6 r7 => ?_
        (try dsimp only)
        refine unhalt ?_
        obtain ⟨hpq, hok⟩ := due_same (b := true) g3 g4 e4 e5 ⟨fun _ => (hvE z).mp hin, fun _ => rfl⟩ s6 s7 r6 r7
        subst hpq
        refine ne_strs ⟨_, (N _ (.tail _ (.head _))).1, rfl, _, rfl⟩ s5 ⟨_, (N _ (.head _)).1, rfl, _, rfl⟩ r5 hok (Nat.le_of_ble_eq_true rfl) ?_
        (try ((with_reducible show wpAny _ _ _ _ _ _); k_fold)); k_steps
        refine StepG.next (EndG.mk ((nl, W.listOf #[.str "S" n1, .str "A" n2, .str "B" n3] 0) :: (L + 1 + 1, oA') :: (L + 1, oB') :: t4) F N (by walk_at "m_sub") hoff ⟨rfl, rfl, rfl, rfl⟩)
      · have hin := of_decide_eq_false (any_mem hin)
        refine sorted_N_str (vs := fws ++ _) (ss := fss ++ []) F N ⟨_, (N _ (.tail _ (.head _))).1, rfl, _, rfl⟩ (e3.append' .nil) (hF64 _ (Nat.zero_le _)) fun h6 p6 q6 k6 F N r5 r6 r7 => ?_
        (try dsimp only)
        refine unhalt ?_
        obtain ⟨hpq, hok⟩ := due_same (b := false) g3 g4 e4 e5 ⟨fun q => (nomatch q), fun q => absurd ((hvE z).mpr q) hin⟩ s6 s7 r6 r7
        subst hpq
        refine ne_strs ⟨_, (N _ (.tail _ (.head _))).1, rfl, _, rfl⟩ s5 ⟨_, (N _ (.head _)).1, rfl, _, rfl⟩ r5 hok (Nat.le_of_ble_eq_true rfl) ?_
        (try ((with_reducible show wpAny _ _ _ _ _ _); k_fold)); k_steps
        refine StepG.next (EndG.mk ((nl, W.listOf #[.str "S" n1, .str "A" n2, .str "B" n3] 0) :: (L + 1 + 1, oA') :: (L + 1, oB') :: t4) F N (by walk_at "m_sub") hoff ⟨rfl, rfl, rfl, rfl⟩)
    · clear F N
      rintro h tk m₁ news₁ ⟨rfl, hm1', hm2', hm3'⟩ F N
      have F := Fr_say F (x := "firsts") hm1'
      have F := Fr_say F (x := "vanish") ((if_neg (by decide)).trans hm2')
      have F := Fr_say F (x := "rules") ((if_neg (by decide)).trans ((if_neg (by decide)).trans hm3'))
      have N := News_sub N (news' := (L + 1 + 1, oA') :: (L + 1, oB') :: t4) (by walk_at "m_sub")
      clear hm1' hm2' hm3'
      (try ((with_reducible show wpAny _ _ _ _ _ _); k_fold)); k_steps
      refine unhalt ?_
      refine' ListComp_Q (cl := [("first", L + 1)]) s₁.heap (fun _ => true) (NestIn t4) ?hclos ?hcell ?hkind ?hnames ?hx ?hs ?hh ?_
      walk_at "m_clos"
      (try ((with_reducible show wpAny _ _ _ _ _ _); k_fold)); k_steps
      rename Fr _ _ _ _ => F
      rename News _ _ _ _ => N
      refine unhalt ⟨sFOUR, _, _, .inl ⟨_, _, rfl, .cons _ _ (.cons _ _ (.cons _ _ (.cons _ _ .nil))), .inl ⟨_, (N _ (.head _)).1, rfl, _, rfl⟩⟩, (by rw [sizeLine_eq]; decide), F, N, ?_, ?_, ?_⟩
      · intro C z u E' s₃ m₃ _ _ _ _
        refine wpAny_tests_nil ?_
        exact unhalt ⟨rfl, _, _, rfl, fun _ _ e => e⟩
      · intro C' z u E' s₃ m₃ hz _ hb F N
        have hz5 : z ∈ E5.map (·.1) := by
          rw [hE5]
          simp only [sFOUR, List.mem_cons, List.not_mem_nil, or_false] at hz
          rcases hz with rfl | rfl | rfl | rfl <;> decide
        obtain ⟨e, he, rfl⟩ := ent_at hz5
        obtain ⟨e1, e2⟩ := hV5 e he
        (try ((with_reducible show wpAny _ _ _ _ _ _); k_fold)); k_steps
        exact unhalt ⟨⟨_, _, _, rfl, hE5f _ (List.mem_map_of_mem he), e2⟩, _, _, rfl, fun _ _ e => e⟩
      · intro D h' tk ys nD hp F N hD
        (try ((with_reducible show wpAny _ _ _ _ _ _); k_fold)); k_steps
        rename_i r4 _ _ _ _ r3 _ _ _ _ r2 _ _ _ _ r1 _ _ _ r0 _ F N _ _
        refine unhalt ?_
        refine ne_nest (ys := ys) (ys' := [.ref r4, .ref r3, .ref r2, .ref r1]) (led := t4) ⟨_, (N (D, W.listOf ys.toArray nD) (by walk_at "m_in")).1, rfl, _, rfl⟩ hp (fun p hp => (N p (by revert p; walk_at "m_sub")).1) ⟨_, (N _ (.head _)).1, rfl, _, rfl⟩
          (.cons ⟨r4, _, _, rfl, .tail _ (.tail _ (.tail _ (.tail _ (.head _)))), .cons _ _ .nil⟩ (.cons ⟨r3, _, _, rfl, .tail _ (.tail _ (.tail _ (.head _))), .cons _ _ .nil⟩ (.cons ⟨r2, _, _, rfl, .tail _ (.tail _ (.head _)), .cons _ _ .nil⟩ (.cons ⟨r1, _, _, rfl, .tail _ (.head _), .cons _ _ .nil⟩ .nil)))) (fun p hp => (N p hp).1) (Nat.le_of_ble_eq_true rfl) ?_
        have N := News_sub N (news' := (L + 1 + 1, oA') :: (L + 1, oB') :: t4) (by walk_at "m_sub")
        (try ((with_reducible show wpAny _ _ _ _ _ _); k_fold)); k_steps
        obtain ⟨CW, hCW⟩ := pick_fam (zs := sSYMS) hfam (fun z hz => by rw [hkF]; exact hz)
        refine wpAny_call ?_
        refine' t_follows (led := t4) (CF := CW) X T ?qs ?qr ?qu ?qH hrl3 hrows3 hgood.ok hgood.len hvl4 hvs hvE hv3 hfl4 hofF hflm (fun y hy => (hCW y hy).1) (fun y hy => (hCW y hy).2.2) (fun y hy => ?q3) ?_
        case qs => exact F.keep
        case qr => exact (by decide : (1 + claimMargin + 1 + 10 : Nat) < recursionLimit)
        case qu => exact Nat.le_of_ble_eq_true rfl
        case qH => exact fun q hq => ⟨(N q (by revert q; walk_at "m_sub")).1, (N q (by revert q; walk_at "m_sub")).2.2⟩
        case q3 => exact Nat.le_trans (nodup_len (m := (["a", "b", "c"] : List Str)) (hCW y hy).2.1 fun f hf => fir_term (((hCW y hy).2.2 f).mp hf)) (by decide)
        intro fr h' tk' d kvR oR owR kk hfr hoR hkR hfamR hrm
        obtain ⟨Nx, _⟩ := fresh_N F N hfr
        have F := Fr_kp F kk (fun q => nomatch q) (fun _ q => nomatch q)
        have N := (News_kp N kk (fun _ _ q => nomatch q)).append Nx
        obtain ⟨t5, ht5⟩ : ∃ t5, t5 = (fr, oR) :: (t4 ++ owR) := ⟨_, rfl⟩
        have N := News_sub N (news' := (L + 1 + 1, oA') :: (L + 1, oB') :: t5) (by rw [ht5]; walk_at "m_sub")
        have hfr5 : (fr, oR) ∈ t5 := by rw [ht5]; exact .head _
        have hfamR := hfamR.mono (led' := t5) (by rw [ht5]; walk_at "m_sub")
        have hs9 : ∀ q ∈ t4, q ∈ t5 := by rw [ht5]; walk_at "m_sub"
        have hL3g : ∀ q ∈ L3 la2 V2 K2, q ∈ t5 := fun q hq => hs9 q (hL3g q hq)
        have hfot := hs9 _ hfot
        clear kk hfr Nx ht5 hs9 hrl3 hrows3 hvl4 hvs hfl4 hofF hflm hCW hfam hL3f hE5f hfdt hV5 hE5 hp hD
        (try dsimp only)
        (try ((with_reducible show wpAny _ _ _ _ _ _); k_fold)); k_steps
        rename Fr _ _ _ _ => F
        rename News _ _ _ _ => N
        refine unhalt ?_
        refine' DictComp_Q (cl := [("follow", L + 1 + 1)]) s₁.heap (fun i kvs news => ∃ own, news = own ++ ((L + 1 + 1, oA') :: (L + 1, oB') :: t5) ∧ kvs.map (·.1) = (kO.map (·.1)).take i ∧ FamIn own kvs (PFol rules)) ?hclos ?hcell ?hkind ?hnames ?hx ?hs ?hh ?hxd ?_
        case hclos => with_unfolding_all rfl
        case hcell => decide
        case hkind => rfl
        case hnames => decide
        case hx => rfl
        case hs => exact fun _ => rfl
        case hh => rfl
        case hxd => decide
        (try ((with_reducible show wpAny _ _ _ _ _ _); k_fold)); k_steps
        have hkO3 : kO.map (·.1) = sNAMES ∨ kO.map (·.1) = sNAM2 := by rw [hkO]; exact hkN
        have hkOn : (kO.map (·.1)).Nodup := dict_nodup hd2
        have hkOm : ∀ z ∈ kO.map (·.1), z ∈ sNAMES := by
          rcases hkO3 with e | e <;> rw [e] <;> decide
        refine unhalt ⟨fo, o2, kO.map (·.1), _, _, rfl, ⟨(N (fo, o2) (by walk_at "m_in")).1, .inr ⟨kO, hd2, rfl, hfom⟩⟩, by rw [List.length_map, sizeLine_eq]; (have := congrArg List.length hkO; rw [List.length_map, List.length_map] at this; have := (show kN.length = 3 by rcases hkN with e | e <;> (have := congrArg List.length e; rw [List.length_map] at this; exact this)); omega), F, N, ⟨[], rfl, rfl, fun _ h => absurd h List.not_mem_nil⟩, ?_, ?_, ?_⟩
        · rintro i kvs news ⟨own, rfl, _⟩
          exact .inl (List.mem_append_right _ (.tail _ (.tail _ hfot)))
        · clear F N
          intro C' hC' i z u kvs news₁ own h tk m₃ hz hJ hoff F N
          obtain ⟨ow2, rfl, hkv, hfam⟩ := hJ
          have hzm := List.mem_of_getElem? hz
          have hzn : z ∈ sNAMES := hkOm z hzm
          obtain ⟨g1, g2, g3, g4⟩ := hC2 z hzn
          have hLz := hL3g _ (L3_at hzn)
          simp only [List.append_assoc, List.cons_append] at N
          have hV64 : (V2 z).length < 64 := by
            rw [g2.length]
            exact Nat.lt_of_le_of_lt (nodup_len (m := sENDS) g3 fun f hf => fol_mem ((g4 f).mp hf)) (by decide)
          have hlo : ∀ q ∈ own, @Ne Nat q.1 (h.objs.size + 1) := fun q hq => Nat.ne_of_lt (Nat.lt_succ_of_lt (Heap.lt_size (N q (by revert q; walk_at "m_sub")).1))
          have hza : z ∉ kvs.map (·.1) := by rw [hkv]; exact take_new hkOn hz
          (try ((with_reducible show wpAny _ _ _ _ _ _); k_fold)); k_steps
          rename Fr _ _ _ _ => F
          refine unhalt ?_
          refine sorted_N_str (vs := V2 z) (ss := C2 z) F N ⟨_, (N (la2 z, W.listOf (V2 z).toArray (K2 z)) (by walk_at "m_in")).1, rfl, _, rfl⟩ g2 hV64 fun h5 p5 q5 k5 F N s5 s6 s7 => ?_
          (try dsimp only [SH] at F N)
          refine unhalt ⟨h5, _, _, ((h.objs.size + 1, seqObj "list" p5.toArray k5) :: ow2) ++ ((L + 1 + 1, oA') :: (L + 1, oB') :: t5), rfl, F, News_sub N (by walk_at "m_sub"), ?_, (h.objs.size + 1, seqObj "list" p5.toArray k5) :: ow2, rfl, ?_, ?_⟩
          · exact Apart.cons hlo hoff
          · rw [stored_absent (valueAt_off hza), List.map_append, hkv]; exact (drop_at hz).2.2.symm
          · rw [stored_absent (valueAt_off hza)]
            exact (hfam.mono fun q hq => .tail _ hq).snoc (.head _) s5 ⟨s6.nodup_iff.mpr g3, fun f => (s6.mem_iff).trans (g4 f), s7⟩
        · clear F N
          intro D2 h' tk kvD oD news₁ hLD hJ F N hdD hDn
          obtain ⟨ow2, rfl, hkv, hfamD⟩ := hJ
          rw [List.take_length] at hkv
          have hD2m : (D2 == sysModules) = false := beq_eq_false_iff_ne.mpr (Nat.ne_of_gt (Nat.lt_trans (modules_low T.nolimit) (Nat.lt_of_le_of_lt F.above hLD)))
          have hlen : kvD.length = kvR.length := by
            have a1 := congrArg List.length hkv
            have a2 := congrArg List.length hkR
            have a3 : (kO.map (·.1)).length = 3 := by rcases hkO3 with e | e <;> rw [e] <;> rfl
            have a4 : sNAMES.length = 3 := rfl
            rw [List.length_map] at a1 a2
            omega
          (try ((with_reducible show wpAny _ _ _ _ _ _); k_fold)); k_steps
          rename Fr _ _ _ _ => F
          refine unhalt ?_
          refine keq_pairs N (.head _) (show (fr, oR) ∈ _ by walk_at "m_in") hdD hoR hD2m hrm hlen (Nat.le_of_ble_eq_true rfl) (hits_all fun p hp => ?_) ?_
          · obtain ⟨a1, w1, c1, i1, b1, b2, b3, b4, b5, b6⟩ := hfamD p hp
            have hpn : p.1 ∈ sNAMES := hkOm p.1 (hkv ▸ List.mem_map_of_mem hp)
            obtain ⟨a2, w2', c2, i2, d1, d2, d3, d4, d5, d6⟩ := fam_at hfamR (z := p.1) (by rw [hkR]; exact hpn)
            have hcc : c1 = c2 := sorted_same b4 d4 b6 d6 fun x => (b5 x).trans (d5 x).symm
            subst hcc
            refine ⟨_, d1, ?_⟩
            rw [b1]
            refine eqAt_strs ⟨_, (N (a1, W.listOf w1.toArray i1) (by walk_at "m_in")).1, rfl, _, rfl⟩ b3 ⟨_, (N (a2, W.listOf w2'.toArray i2) (by walk_at "m_in")).1, rfl, _, rfl⟩ d3 (fun x hx => ?_) (Nat.le_of_ble_eq_true rfl)
            have := fol_mem ((b5 x).mp hx)
            simp only [sENDS, List.mem_cons, List.not_mem_nil, or_false] at this
            rcases this with rfl | rfl | rfl | rfl <;> decide +kernel
          · exact ⟨_, _, _, _, _, rfl, F, rfl⟩)
end Law
end SD
end SL
end SM
end Mine
theorem PySem.Challenge.cw_im0031_01_holds : PySem.Challenge.rw_im0031_01.Holds :=
  Mine.law_all
