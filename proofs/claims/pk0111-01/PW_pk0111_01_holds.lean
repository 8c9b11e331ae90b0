import PyProof.Rows.All
import Wide.All
import OpenK.AllK
import Wide.FinOn
import Lean
import PySem.Challenge.RW_pk0111_01
open PySem PySem.W PyProof.Rows
set_option Elab.async false
set_option linter.unusedVariables false
set_option maxRecDepth 100000
namespace Mine
/-- the top's run over a tree of objects -/
noncomputable def topT (ok : Nat → Option Value → Thread → Bool) (st : (Code → Sem Fin) → Program → World → SharedT → Thread → Option (SharedT × Thread)) (den : Code → Sem Fin) (p : Program) (w : World) (n₀ : Nat) (ann : Option Value) : Nat → SharedT → Thread → Option SharedT
  | 0, _, _ => none
  | n + 1, s, t => match through t with
    | true => some s
    | false => match ok n₀ ann t with
      | false => none
      | true => match st den p w s t with
        | some (s', t') => topT ok st den p w n₀ ann n s' t'
        | none => none
theorem topT_of {tb : String → Option Builtin} {p : Program} {w : World} {n₀ : Nat} {ann : Option Value} (n : Nat) : ∀ (s s' : SharedT) (t : Thread), topT stepOk stepT (denote tb) p w n₀ ann n s t = some s' → topRun tb p w n₀ ann n s.abs t = some s'.abs := by
  induction n with
  | zero => exact fun _ _ _ h => nomatch h
  | succ n ih =>
    intro s s' t h
    simp only [topT] at h
    simp only [topRun]
    split at h
    next e => rw [e]; simp only; rw [Option.some.inj h]
    next e =>
      rw [e]
      split at h
      next => exact nomatch h
      next e =>
        rw [e]
        split at h
        next e => rw [stepT_spec e]; exact ih _ _ _ h
        next => exact nomatch h
noncomputable def T0 (P : Params) : BT := (.node (boot_o_0 P) (.node (boot_o_1 P) (.node (boot_o_3 P) (.node (boot_o_7 P) .nil .nil) .nil) (.node (boot_o_5 P) (.node (boot_o_9 P) .nil .nil) .nil)) (.node (boot_o_2 P) (.node (boot_o_4 P) (.node (boot_o_8 P) .nil .nil) .nil) (.node (boot_o_6 P) (.node (boot_o_10 P) .nil .nil) .nil)))
theorem T0_heap (P : Params) : absHeap (T0 P) 11 {} = boot_heap P := by kernel_rfl
/-- the state behind the top, as the twins of the library run it -/
noncomputable abbrev behindT (p : Program) (N : Nat) (w : World) (os : OsState) : Option SharedT := topT Fast.tw6613529449190102663 Fast.tw10156331382660048174 (Fast.tw11892475500146522536 Fast.tw14364793385576792824) p w 11 (some (.ref 6)) N ⟨T0 w.params, 11, {}, Array.mk [], boot_drawn, boot_toks, os⟩ (topStub p)
theorem left_tree {p q : Program} {loose : List Str} {Xt : Shared → Bool} {α : Type} {Yf : Shared → α} {Ya : World → α} {N : Nat}
    (e : opening p = plainProg p.main.scope.names) (hN : Nat.ble 600 N = true) (f : ∀ s, fenceModules? p s = some s)
    (ha : ∀ w : World, (fun os => (behindT p N w os).map (fun s => (staticsOk (Fast.tw5923862056798008813 p.main.body) (boot_heap w.params) s.abs.heap && namesBound p s.abs.heap && gensDone s.abs && laidKept (boot_heap w.params) s.abs.heap, Yf s.abs))) = fun _ => some (true, Ya w))
    (hb : ∀ w : World, (fun os => (behindT p N w os).map (fun s => Fast.tw4187177175401517315 q loose (Fast.tw5923862056798008813 p.main.body) Xt true s.abs)) = fun _ => some (openGood q loose)) : LeftO p q loose Xt Yf Ya N := fun w => by
  simp only [behindT] at ha hb
  rw [← Fast.te6613529449190102663, ← Fast.te10156331382660048174, ← Fast.te11892475500146522536, ← Fast.te14364793385576792824, ← Fast.te5923862056798008813] at ha hb
  rw [← Fast.te4187177175401517315] at hb
  obtain ⟨s₀, e1, e2⟩ := Option.map_eq_some_iff.mp (boot_open e hN f w)
  simp only [Prod.mk.injEq] at e2
  obtain ⟨sT, h1, g⟩ := Option.map_eq_some_iff.mp (congrFun (ha w) s₀.os)
  obtain ⟨g1, g2⟩ := Prod.mk.inj g
  have g3 := congrFun (hb w) s₀.os
  simp only [h1, Option.map_some, Option.some.injEq] at g3
  have r := topT_of _ _ _ _ h1
  simp only [SharedT.abs, T0_heap] at r
  obtain ⟨x1, x2, x3, x4⟩ := e2
  have z : s₀ = ⟨boot_heap w.params, Array.mk [], boot_drawn, boot_toks, s₀.os⟩ := by cases s₀; cases x1; cases x2; cases x3; cases x4; rfl
  have z1 : ((boot_heap w.params).isNs mainGlobals && (Array.mk [] : Array GenState).size == 0) = true := by kernel_rfl
  have z2 : (boot_heap w.params).objs.size = 11 := by kernel_rfl
  have z3 : (boot_heap w.params).nsMap mainGlobals "__annotations__" = some (.ref 6) := by kernel_rfl
  have t : topFrom treeTable p w N s₀ = some sT.abs := by
    rw [z]
    simp only [topFrom, z1, z2, z3, r, Option.bind_some]
    simp only [SharedT.abs] at g1
    simp only [g1, SharedT.abs]
  rw [openEnds, e1, Option.bind_some, t, Option.map_some, g3, g2]
noncomputable def vw : Program := view PySem.Challenge.rw_pk0111_01.row.toRowW.prog [0, 2, 3, 5, 7, 8, 9, 10, 11, 13, 14, 15, 16, 17, 18]
theorem vw_def : defOf vw PySem.Challenge.rw_pk0111_01.row.name = defOf PySem.Challenge.rw_pk0111_01.row.prog PySem.Challenge.rw_pk0111_01.row.name := by kernel_rfl
local macro_rules | `(tactic| o_head $H:term) => `(tactic|
  refine (fun (hlc : _ ∧ _) => holds_open (q := vw) (loose := [PySem.Str.ofString "Whitespace"]) (Xt := fun s => xlAt vw [] s && recOk (RowW.records PySem.Challenge.rw_pk0111_01.row.toRowW) s) (XP := XL vw []) (Yf := Hook.obs $H) (Ya := Hook.val $H) (YP := Hook.says $H) (N := 1896) hlc.1 (Hook.of $H) (Hook.keeps $H) (fun s e => xl_of s (Bool.and_eq_true_iff.mp e).1) XL.keeps (vw_def.trans (by rfl)) (by rfl) (by rfl) (fun s e => recFacts_of (Bool.and_eq_true_iff.mp e).2) (by rfl) (by first | assumption | decide +kernel) (by decide +kernel) ⟨rfl, rfl, rfl, rfl, rfl, by decide +kernel⟩ ?hw hlc.2) ?hc)
set_option maxHeartbeats 8000000 in
open_top hd for PySem.Challenge.rw_pk0111_01
/-- the addresses of the written part -/
noncomputable def asK : List Addr := [2, 3, 15, 17, 18, 20, 21, 22, 24, 25, 27, 28, 29, 31, 32, 34, 35, 46, 48, 49, 51, 52, 53, 55, 56, 58, 59, 60, 62, 63, 65, 66, 67, 69, 70, 72, 73, 74, 76, 77, 79, 80, 81, 83, 84, 86, 87, 88, 90, 91, 93, 94, 95, 96, 97, 98, 99, 102, 104, 105, 107, 108, 109, 111, 112, 114, 115, 116, 119, 120, 121, 124, 125, 126, 128, 129, 131, 132, 133, 135, 136, 138, 139, 140, 142, 143, 145, 146, 147, 150, 151]
noncomputable abbrev hkK : Hook := kmHook hd.heap_39 asK (fun _ => by kernel_rfl) [134]
/-- what the top's run must show: two equations, by evaluation -/
noncomputable abbrev RunsA (w : World) : Prop := (fun os => (behindT PySem.Challenge.rw_pk0111_01.row.toRowW.prog 1896 w os).map (fun s => (staticsOk (Fast.tw5923862056798008813 PySem.Challenge.rw_pk0111_01.row.toRowW.prog.main.body) (boot_heap w.params) s.abs.heap && namesBound PySem.Challenge.rw_pk0111_01.row.toRowW.prog s.abs.heap && gensDone s.abs && laidKept (boot_heap w.params) s.abs.heap, hkK.obs s.abs))) = fun _ => some (true, hkK.val w)
noncomputable abbrev RunsB (w : World) : Prop := (fun os => (behindT PySem.Challenge.rw_pk0111_01.row.toRowW.prog 1896 w os).map (fun s => Fast.tw4187177175401517315 vw [PySem.Str.ofString "Whitespace"] (Fast.tw5923862056798008813 PySem.Challenge.rw_pk0111_01.row.toRowW.prog.main.body) (fun s => xlAt vw [] s && recOk (RowW.records PySem.Challenge.rw_pk0111_01.row.toRowW) s) true s.abs)) = fun _ => some (openGood vw [PySem.Str.ofString "Whitespace"])
theorem runs_af : ∀ w : World, RunsA (w.withFollow "special-get-raises" false) := fun w => by kernel_rfl
theorem runs_at : ∀ w : World, RunsA (w.withFollow "special-get-raises" true) := fun w => by kernel_rfl
theorem runs_bf : ∀ w : World, RunsB (w.withFollow "special-get-raises" false) := fun w => by kernel_rfl
theorem runs_bt : ∀ w : World, RunsB (w.withFollow "special-get-raises" true) := fun w => by kernel_rfl
theorem left_hd : LeftO PySem.Challenge.rw_pk0111_01.row.toRowW.prog vw [PySem.Str.ofString "Whitespace"] (fun s => xlAt vw [] s && recOk (RowW.records PySem.Challenge.rw_pk0111_01.row.toRowW) s) hkK.obs hkK.val 1896 :=
  left_tree (by kernel_rfl) (by kernel_rfl) (fun s => by kernel_rfl) (byRow2 (P := RunsA) "special-get-raises" runs_af runs_at) (byRow2 (P := RunsB) "special-get-raises" runs_bf runs_bt)
noncomputable def hd1 := fun h => hd ⟨left_hd, h⟩

inductive And3 (pa pb pc : Prop) : Prop
  | mk : pa → pb → pc → And3 pa pb pc
inductive And4 (pa pb pc pd : Prop) : Prop
  | mk : pa → pb → pc → pd → And4 pa pb pc pd
inductive And5 (pa pb pc pd pe : Prop) : Prop
  | mk : pa → pb → pc → pd → pe → And5 pa pb pc pd pe
inductive And6 (pa pb pc pd pe pf : Prop) : Prop
  | mk : pa → pb → pc → pd → pe → pf → And6 pa pb pc pd pe pf
inductive And7 (pa pb pc pd pe pf pg : Prop) : Prop
  | mk : pa → pb → pc → pd → pe → pf → pg → And7 pa pb pc pd pe pf pg
inductive And8 (pa pb pc pd pe pf pg ph : Prop) : Prop
  | mk : pa → pb → pc → pd → pe → pf → pg → ph → And8 pa pb pc pd pe pf pg ph
inductive And9 (pa pb pc pd pe pf pg ph pi : Prop) : Prop
  | mk : pa → pb → pc → pd → pe → pf → pg → ph → pi → And9 pa pb pc pd pe pf pg ph pi
inductive And10 (pa pb pc pd pe pf pg ph pi pj : Prop) : Prop
  | mk : pa → pb → pc → pd → pe → pf → pg → ph → pi → pj → And10 pa pb pc pd pe pf pg ph pi pj
inductive And11 (pa pb pc pd pe pf pg ph pi pj pk : Prop) : Prop
  | mk : pa → pb → pc → pd → pe → pf → pg → ph → pi → pj → pk → And11 pa pb pc pd pe pf pg ph pi pj pk
inductive And14 (pa pb pc pd pe pf pg ph pi pj pk pl pm pn : Prop) : Prop
  | mk : pa → pb → pc → pd → pe → pf → pg → ph → pi → pj → pk → pl → pm → pn → And14 pa pb pc pd pe pf pg ph pi pj pk pl pm pn
inductive And16 (pa pb pc pd pe pf pg ph pi pj pk pl pm pn po pp : Prop) : Prop
  | mk : pa → pb → pc → pd → pe → pf → pg → ph → pi → pj → pk → pl → pm → pn → po → pp → And16 pa pb pc pd pe pf pg ph pi pj pk pl pm pn po pp
inductive Ex2 {ta tb : Type} (P : ta → tb → Prop) : Prop
  | mk (xa : ta) (xb : tb) : P xa xb → Ex2 P
inductive Ex3 {ta tb tc : Type} (P : ta → tb → tc → Prop) : Prop
  | mk (xa : ta) (xb : tb) (xc : tc) : P xa xb xc → Ex3 P
inductive Ex4 {ta tb tc td : Type} (P : ta → tb → tc → td → Prop) : Prop
  | mk (xa : ta) (xb : tb) (xc : tc) (xd : td) : P xa xb xc xd → Ex4 P
inductive Ex5 {ta tb tc td te : Type} (P : ta → tb → tc → td → te → Prop) : Prop
  | mk (xa : ta) (xb : tb) (xc : tc) (xd : td) (xe : te) : P xa xb xc xd xe → Ex5 P
inductive Ex6 {ta tb tc td te tf : Type} (P : ta → tb → tc → td → te → tf → Prop) : Prop
  | mk (xa : ta) (xb : tb) (xc : tc) (xd : td) (xe : te) (xf : tf) : P xa xb xc xd xe xf → Ex6 P
inductive Ex7 {ta tb tc td te tf tg : Type} (P : ta → tb → tc → td → te → tf → tg → Prop) : Prop
  | mk (xa : ta) (xb : tb) (xc : tc) (xd : td) (xe : te) (xf : tf) (xg : tg) : P xa xb xc xd xe xf xg → Ex7 P
inductive Ex8 {ta tb tc td te tf tg th : Type} (P : ta → tb → tc → td → te → tf → tg → th → Prop) : Prop
  | mk (xa : ta) (xb : tb) (xc : tc) (xd : td) (xe : te) (xf : tf) (xg : tg) (xh : th) : P xa xb xc xd xe xf xg xh → Ex8 P
inductive Ex10 {ta tb tc td te tf tg th ti tj : Type} (P : ta → tb → tc → td → te → tf → tg → th → ti → tj → Prop) : Prop
  | mk (xa : ta) (xb : tb) (xc : tc) (xd : td) (xe : te) (xf : tf) (xg : tg) (xh : th) (xi : ti) (xj : tj) : P xa xb xc xd xe xf xg xh xi xj → Ex10 P
inductive Ex11 {ta tb tc td te tf tg th ti tj tk : Type} (P : ta → tb → tc → td → te → tf → tg → th → ti → tj → tk → Prop) : Prop
  | mk (xa : ta) (xb : tb) (xc : tc) (xd : td) (xe : te) (xf : tf) (xg : tg) (xh : th) (xi : ti) (xj : tj) (xk : tk) : P xa xb xc xd xe xf xg xh xi xj xk → Ex11 P
inductive Ex14 {ta tb tc td te tf tg th ti tj tk tl tm tn : Type} (P : ta → tb → tc → td → te → tf → tg → th → ti → tj → tk → tl → tm → tn → Prop) : Prop
  | mk (xa : ta) (xb : tb) (xc : tc) (xd : td) (xe : te) (xf : tf) (xg : tg) (xh : th) (xi : ti) (xj : tj) (xk : tk) (xl : tl) (xm : tm) (xn : tn) : P xa xb xc xd xe xf xg xh xi xj xk xl xm xn → Ex14 P
/-- all that stood still stands -/
noncomputable def Kp (h h' : Heap) : Prop := ∀ b o, h.get? b = some o → h'.get? b = some o
theorem Kp.refl (h : Heap) : Kp h h := fun _ _ e => e
theorem Kp.trans {a b c : Heap} (x : Kp a b) (y : Kp b c) : Kp a c := fun _ _ e => y _ _ (x _ _ e)
theorem Kp.list {h h' : Heap} (k : Kp h h') {l : Addr} {xs : Array Value} (i : h.IsList l xs) : h'.IsList l xs := i.at fun o e => k _ o e


noncomputable abbrev aTop (dp un : Nat) (gd : Option (List Code)) (outer : List Env) : Around := { handled := none, depth := dp, frames := some outer, guards := gd, units := un }

/-- the ground on which a call stands -/
structure Gr (w : World) (loose : List Str) (mean : ExcName → Option Value) (mg mb : Str → Option Value) (A : Around) (base : Heap) (outer : List Env) (h : Heap) : Prop where
  hh : A.handled = none
  B : Below A base outer h
  X : (hd.heap_39 w.params).In h
  T : Top topProg loose mean mg mb h

theorem Gr.keeps {w : World} {loose : List Str} {mean : ExcName → Option Value} {mg mb : Str → Option Value} {A : Around} {base : Heap} {outer : List Env} {h h' : Heap} (G : Gr w loose mean mg mb A base outer h) (k : Kp h h') : Gr w loose mean mg mb A base outer h' :=
  ⟨G.hh, ⟨G.B.stack, fun b o e => k b o (G.B.stays b o e), G.B.frames.of_keeps fun b o e _ => ⟨o, k b o e, rfl⟩⟩, G.X.keeps k, G.T.keeps k⟩
theorem Gr.around {w : World} {loose : List Str} {mean : ExcName → Option Value} {mg mb : Str → Option Value} {A : Around} {base : Heap} {outer : List Env} {h : Heap} (G : Gr w loose mean mg mb A base outer h) : A = aTop A.depth A.units A.guards outer := by
  obtain ⟨hd, d, fr, gs, u⟩ := A
  have h1 := G.hh
  have h2 := G.B.stack
  simp only at h1 h2
  subst h1 h2
  rfl

theorem code_pure {w : World} {A : Around} {s : Shared} {K : Frag} {base : Heap} {outer : List Env} {p : Program} {loose : List Str} {mean : ExcName → Option Value} {mg mb : Str → Option Value}
    {R : Result → Shared → Prop} {name qual : Str} {params : Arguments} {body : List Stmt} {scope : Scope} {dV kV doc pm cdv ct oc : Value} {an od : Option Addr} {osl : Array (Option Value)} {f : Addr} {args : Args} {binds : List (Str × Value)}
    (B : Below A base outer s.heap) (X : K.In s.heap) (T : Top p loose mean mg mb s.heap)
    (ho : K.lookup f = some ⟨oc, od, .func (fnOf name qual params body scope dV kV doc pm an cdv ct), osl⟩) (hcd : codeIn K cdv qual = true) (hroom : A.depth < recursionLimit)
    (hbind : BindsTo s (fnOf name qual params body scope dV kV doc pm an cdv ct) args binds) (hloc : ∀ y ∈ binds, scope.names.lookup y.1 = some .local)
    (h : ∀ g L' h₁, g = s.heap → Fr g L' h₁ (fun y => binds.reverse.lookup y) → News g L' h₁ [] → Below A base outer g → K.In g → Top p loose mean mg mb g →
      wpAny (model PySem.Challenge.rw_pk0111_01.row.prog w) (A.deeper (envOf qual scope L' f cdv)) (execs body (envOf qual scope L' f cdv))
        (fun fl s' => R (.ok (.ret (match fl with | .ret v => v | _ => .none))) s') (fun _ _ => False)
        { s with heap := h₁, toks := s.toks + binds.length })
    (hco : scope.isCoroutine = false) (hgen : scope.isGenerator = false) (hk : scope.kind = .function)
    (hcell : ∀ x ∈ scope.names, x.2 ≠ .cell) : codeAny (model PySem.Challenge.rw_pk0111_01.row.prog w) A (.call (.ref f) args) R s := by
  refine codeAny_call_def (fd := fnOf name qual params body scope dV kV doc pm an cdv ct) (body := body) (binds := binds) hroom (X _ _ ho) rfl T.nolimit (codeRec_of X hcd) rfl hbind hcell hloc (fun h₁ hns hk₁ => ?_) hco hgen hk
  exact wpAny_mono (h _ s.heap.objs.size h₁ rfl ⟨hns, hk₁, Nat.le_refl _⟩ News.nil B X T) (fun _ _ x => x) (fun _ _ x => x.elim)
end Mine
namespace Mine

/-- objects that were made between h and h' -/
noncomputable def Fresh (h h' : Heap) (objs : List (Addr × Obj)) : Prop := ∀ p ∈ objs, h'.get? p.1 = some p.2 ∧ h.get? p.1 = none
theorem Fresh.nil {h h' : Heap} : Fresh h h' [] := fun _ hp => nomatch hp
theorem Fresh.later {a b c : Heap} {objs : List (Addr × Obj)} (x : Fresh a b objs) (k : Kp b c) : Fresh a c objs := fun p hp => ⟨k _ _ (x p hp).1, (x p hp).2⟩
theorem Fresh.sooner {a b c : Heap} {objs : List (Addr × Obj)} (x : Fresh b c objs) (k : Kp a b) : Fresh a c objs := fun p hp => ⟨(x p hp).1, by
  cases e : a.get? p.1 with
  | none => rfl
  | some o => have := k _ _ e; rw [(x p hp).2] at this; cases this⟩
theorem Fresh.app {a b : Heap} {xs ys : List (Addr × Obj)} (x : Fresh a b xs) (y : Fresh a b ys) : Fresh a b (xs ++ ys) := fun p hp => (List.mem_append.mp hp).elim (x p) (y p)
theorem Fresh.cons {a b : Heap} {p : Addr × Obj} {ys : List (Addr × Obj)} (x : b.get? p.1 = some p.2 ∧ a.get? p.1 = none) (y : Fresh a b ys) : Fresh a b (p :: ys) := fun q hq => by
  rcases List.mem_cons.mp hq with rfl | hq
  · exact x
  · exact y q hq
theorem Fresh.sub {a b : Heap} {xs ys : List (Addr × Obj)} (x : Fresh a b xs) (h : ∀ p ∈ ys, p ∈ xs) : Fresh a b ys := fun p hp => x p (h p hp)
theorem Fresh.ne {h h' : Heap} {objs : List (Addr × Obj)} (x : Fresh h h' objs) {a : Addr} {o : Obj} (e : h.get? a = some o) : ∀ p ∈ objs, p.1 ≠ a := fun p hp q => by
  have := (x p hp).2; rw [q, e] at this; cases this
theorem paired_mono {α β : Type} {F G : α → β → Prop} (h : ∀ a b, F a b → G a b) : ∀ {l₁ : List α} {l₂ : List β}, Paired F l₁ l₂ → Paired G l₁ l₂
  | _, _, .nil => .nil
  | _, _, .cons x t => .cons (h _ _ x) (paired_mono h t)
theorem paired_len {α β : Type} {F : α → β → Prop} : ∀ {l₁ : List α} {l₂ : List β}, Paired F l₁ l₂ → l₁.length = l₂.length
  | _, _, .nil => rfl
  | _, _, .cons _ t => by rw [List.length_cons, List.length_cons, paired_len t]
theorem paired_get {α β : Type} {F : α → β → Prop} : ∀ {l₁ : List α} {l₂ : List β}, Paired F l₁ l₂ → ∀ {i : Nat} {a : α} {b : β}, l₁[i]? = some a → l₂[i]? = some b → F a b
  | _, _, .nil, i, a, b, h, _ => by simp at h
  | _, _, .cons x t, 0, a, b, h, h' => by simp at h h'; subst h h'; exact x
  | _, _, .cons x t, i + 1, a, b, h, h' => paired_get t (by simpa using h) (by simpa using h')

section
variable {prog : Program} {w : World} {A : Around} {R : Result → Shared → Prop} {s : Shared}

/-- one clause, turn by turn: the items as data, what is made as objects -/
theorem comp_loop {α : Type} {elt iter : Expr} {x : Str} {px : Pos} {ifs : List Expr} {scope : Scope} {pos : Pos} {I D : Addr} {fp wr : List Addr} {n : Nat} {P : Nat → Value → Prop} {St : Nat → Heap → Prop}
    {cenv : Env} {m : Str → Option Value} (W : Walks prog w A I fp wr n P St) (as : List α) (has : as.length = n) (K : α → Value → Prop) (hPK : ∀ i v a, P i v → as[i]? = some a → K a v)
    (pz : α → Bool) (G : α → Value → List (Addr × Obj) → Prop) (hG : ∀ a y os os', (∀ p ∈ os, p ∈ os') → G a y os → G a y os')
    (hlive : ∀ i h, St i h → ∀ b ∈ wr, ∃ o, h.get? b = some o)
    (hx : cenv.kindOf x = some .local) (hp : (cenv.scope.kind == .class || (cenv.scope.kind == .module && cenv.locals != cenv.globals)) = false)
    (hDC : D ≠ cenv.locals) (hDf : D ∉ fp) (hCf : cenv.locals ∉ fp)
    (hst : St 0 s.heap) (hacc : s.heap.PlainList D #[]) (hn : s.heap.Ns cenv.locals m)
    (htests : ∀ a v s₂ m₂ E', a ∈ as → K a v → s₂.heap.Ns cenv.locals m₂ → m₂ x = some v → (∀ b o, b ≠ cenv.locals → b ∉ wr → b ≠ D → s.heap.get? b = some o → s₂.heap.get? b = some o) →
      wpAny (model prog w) A (forIn ifs true fun c r => if r = true then do let ok ← isTrue c cenv (eval c cenv); pure (ForInStep.yield ok) else pure (ForInStep.yield r))
        (fun ok s₃ => ok = pz a ∧ Keeps s₂ s₃) E' s₂)
    (helt : ∀ a v s₂ m₂ E', a ∈ as → K a v → pz a = true → s₂.heap.Ns cenv.locals m₂ → m₂ x = some v → (∀ b o, b ≠ cenv.locals → b ∉ wr → b ≠ D → s.heap.get? b = some o → s₂.heap.get? b = some o) →
      wpAny (model prog w) A (eval elt cenv) (fun y s₃ => (∃ os, Fresh s₂.heap s₃.heap os ∧ G a y os) ∧ Keeps s₂ s₃) E' s₂)
    (hR : ∀ h' tk m' ys objs, h'.Ns cenv.locals m' → h'.PlainList D ys → (∀ p ∈ objs, h'.get? p.1 = some p.2 ∧ s.heap.get? p.1 = none ∧ p.1 ≠ cenv.locals ∧ p.1 ≠ D) → Paired (fun a y => G a y objs) (as.filter pz) ys.toList →
      (∀ b o, b ≠ cenv.locals → b ∉ wr → b ≠ D → s.heap.get? b = some o → h'.get? b = some o) → R (.ok .next) { s with heap := h', toks := tk })
    (hsz : n ≤ sizeLine) :
    codeAny (model prog w) A (.compLoop (.ListComp elt [⟨.Name x px, iter, ifs, 0⟩] scope pos) 0 (.ref I) (.ref D) cenv) R s := by
  refine codeAny_compLoop_tests
    (fun k s' => Ex6 fun h' tk m' ys objs i => And9 (s' = { s with heap := h', toks := tk }) (St i h') (h'.PlainList D ys) (h'.Ns cenv.locals m') ((∀ p ∈ objs, h'.get? p.1 = some p.2 ∧ s.heap.get? p.1 = none ∧ p.1 ≠ cenv.locals ∧ p.1 ≠ D ∧ p.1 ∉ wr)) (Paired (fun a y => G a y objs) ((as.take i).filter pz) ys.toList) (i ≤ n) (k = n + 1 - i) ((∀ b o, b ≠ cenv.locals → b ∉ wr → b ≠ D → s.heap.get? b = some o → h'.get? b = some o))) ?_ (n + 1)
    ⟨s.heap, s.toks, m, #[], [], 0, rfl, hst, hacc, hn, (fun _ h => nomatch h), by simpa using Paired.nil, Nat.zero_le _, rfl, fun _ _ _ _ _ e => e⟩
  rintro k s' ⟨H, tk, m', ys, objs, i, rfl, hst', hacc', hn', hob, hF, hi, rfl, hk⟩
  have hCw : cenv.locals ∉ wr := fun h => hCf (W.sub _ h)
  have hDw : D ∉ wr := fun h => hDf (W.sub _ h)
  by_cases hlt : i < n
  · refine W.item i _ _ _ hlt hst' fun v h₁ tk₁ hPv hst₁ hk₁ => ?_
    obtain ⟨a, ha⟩ : ∃ a, as[i]? = some a := ⟨_, List.getElem?_eq_getElem (by omega)⟩
    have hKa := hPK i v a hPv ha
    have hmem : a ∈ as := List.mem_of_getElem? ha
    have htk : (as.take (i + 1)) = as.take i ++ [a] := by rw [List.take_add_one, ha]; rfl
    refine wpAny_assign_Name (wpAny_storeName_local hx (hn'.at' fun o e => hk₁ _ o hCw e) (fun h₂ hn₂ hs₂ => ?_) hp)
    have up₂ : ∀ b o, b ≠ cenv.locals → b ∉ wr → H.get? b = some o → h₂.get? b = some o := fun b o hbC hbf e => hs₂.extBut b o hbC (hk₁ b o hbf e)
    have hst₂ : St (i + 1) h₂ := W.frame _ _ _ hst₁ fun b hb o e => hs₂.extBut b o (fun h => hCf (h ▸ hb)) e
    refine wpAny_mono (htests a v _ _ _ hmem hKa hn₂ (by simp) (fun b o hbC hbf hbD e => up₂ b o hbC hbf (hk b o hbC hbf hbD e))) (fun ok s₃ h₃ => ?_) fun _ _ e => e
    obtain ⟨rfl, h₃, tk₃, rfl, hk₃⟩ := h₃
    have hst₃ : St (i + 1) h₃ := W.frame _ _ _ hst₂ fun b _ o e => hk₃ b o e
    have hacc₃ : h₃.PlainList D ys := hacc'.at fun o e => hk₃ _ o (up₂ D o hDC hDw e)
    have hn₃ := hn₂.keeps hk₃
    have hob₃ : ∀ p ∈ objs, h₃.get? p.1 = some p.2 ∧ s.heap.get? p.1 = none ∧ p.1 ≠ cenv.locals ∧ p.1 ≠ D ∧ p.1 ∉ wr := fun p hp => by
      obtain ⟨q1, q2, q3, q4, q5⟩ := hob p hp
      exact ⟨hk₃ _ _ (up₂ _ _ q3 q5 q1), q2, q3, q4, q5⟩
    cases hpv : pz a with
    | false =>
      simp only [Bool.false_eq_true, if_false]
      refine ⟨n + 1 - (i + 1), by omega, h₃, tk₃, _, ys, objs, i + 1, rfl, hst₃, hacc₃, hn₃, hob₃, ?_, hlt, rfl, fun b o hbC hbf hbD e => hk₃ b o (up₂ b o hbC hbf (hk b o hbC hbf hbD e))⟩
      rw [htk, List.filter_append]; simpa [hpv] using hF
    | true =>
      simp only [if_true]
      refine wpAny_mono (helt a v _ _ _ hmem hKa hpv hn₃ (by simp) (fun b o hbC hbf hbD e => hk₃ b o (up₂ b o hbC hbf (hk b o hbC hbf hbD e)))) (fun y s₄ h₄ => ?_) fun _ _ e => e
      obtain ⟨⟨os, hos, hg⟩, h₄, tk₄, rfl, hk₄⟩ := h₄
      have hys : ys.size ≤ sizeLine := by
        have e1 := paired_len hF
        have e2 : ((as.take i).filter pz).length ≤ (as.take i).length := List.length_filter_le _ _
        have e3 : (as.take i).length ≤ i := List.length_take_le _ _
        have e4 : ys.toList.length = ys.size := by simp
        omega
      refine wpAny_list_append_plain (hsz := hys) (hacc₃.at fun o e => hk₄ _ o e) fun h₅ hl₅ hs₅ => ?_
      refine ⟨n + 1 - (i + 1), by omega, h₅, tk₄, _, ys.push y, os ++ objs, i + 1, rfl, W.frame _ _ h₅ hst₃ fun b hb o e => hs₅.extBut b o (fun h => hDf (h ▸ hb)) (hk₄ b o e), hl₅, (hn₃.keeps hk₄).sameBut hs₅ (Ne.symm hDC), ?_, ?_, hlt, rfl,
        fun b o hbC hbf hbD e => hs₅.extBut b o hbD (hk₄ b o (hk₃ b o (up₂ b o hbC hbf (hk b o hbC hbf hbD e))))⟩
      · intro p hp
        rcases List.mem_append.mp hp with hp | hp
        · have hTC : p.1 ≠ cenv.locals := by obtain ⟨_, _, _, ho, _⟩ := hn₃; exact hos.ne ho p hp
          have hTD : p.1 ≠ D := by obtain ⟨_, ho⟩ := hacc₃; exact hos.ne ho p hp
          have hTw : p.1 ∉ wr := fun hm => by obtain ⟨o, ho⟩ := hlive _ _ hst₃ p.1 hm; exact hos.ne ho p hp rfl
          refine ⟨hs₅.extBut _ _ hTD (hos p hp).1, ?_, hTC, hTD, hTw⟩
          cases e : s.heap.get? p.1 with
          | none => rfl
          | some o => exact absurd rfl (hos.ne (hk₃ _ o (up₂ _ o hTC hTw (hk _ o hTC hTw hTD e))) p hp)
        · obtain ⟨q1, q2, q3, q4, q5⟩ := hob₃ p hp
          exact ⟨hs₅.extBut _ _ q4 (hk₄ _ _ q1), q2, q3, q4, q5⟩
      · rw [htk, List.filter_append]
        have h1 : Paired (fun a y => G a y (os ++ objs)) ((as.take i).filter pz) ys.toList := paired_mono (fun a y => hG a y objs _ fun p hp => List.mem_append_right _ hp) hF
        have h2 : G a y (os ++ objs) := hG a y os _ (fun p hp => List.mem_append_left _ hp) hg
        simpa [hpv] using Paired.snoc h1 h2
  · have hin : i = n := by omega
    subst hin
    refine W.done _ _ _ hst' fun h₁ tk₁ hk₁ => ?_
    rw [List.take_of_length_le (by omega)] at hF
    exact hR h₁ tk₁ m' ys objs (hn'.at' fun o e => hk₁ _ o hCw e) (hacc'.at fun o e => hk₁ _ o hDw e) (fun p hp => by
      obtain ⟨q1, q2, q3, q4, q5⟩ := hob p hp
      exact ⟨hk₁ _ _ q5 q1, q2, q3, q4⟩) hF fun b o hbC hbf hbD e => hk₁ b o hbf (hk b o hbC hbf hbD e)
end

section
variable {prog : Program} {w : World} {A : Around} {E : Value → Shared → Prop} {env : Env}

/-- the block of a comprehension: the new list, the new names, the loop -/
theorem comp_block {e : Expr} {g : Comprehension} {rest : List Comprehension} {elt : Expr} {scope : Scope} {cl : List (Str × Addr)} {pos : Pos} {s₂ : Shared} {I : Addr} {fp wr : List Addr} {n : Nat} {P : Nat → Value → Prop}
    {St : Nat → Heap → Prop} (W : Walks prog w A I fp wr n P St) {RR : Value → Addr → Result → Shared → Prop} (ha : g.is_async = 0)
    (hcell : ∀ y ∈ scope.names, y.2 ≠ .cell) (hkind : scope.kind = .function) (hst : St 0 s₂.heap) (hfp : ∀ b ∈ fp, b < s₂.heap.objs.size)
    (he : e = .ListComp elt (g :: rest) scope pos)
    (loop : ∀ D C h₁ s₃, s₃ = { s₂ with heap := h₁ } → s₂.heap.get? D = none → s₂.heap.get? C = none → D ≠ C → D ∉ fp → C ∉ fp → s₂.heap.objs.size ≤ C → Kp s₂.heap h₁ → h₁.PlainList D #[] → h₁.Ns C (fun _ => none) → St 0 h₁ →
      codeAny (model prog w) A (.compLoop e 0 (.ref I) (.ref D) (compEnvC scope cl C env)) (RR (.ref D) C) s₃) :
    wpAny (model prog w) A (newList []) (fun acc s₃ => wpAny (model prog w) A (newFunctionEnv scope env.globals cl [] env.qual none .none (some env)) (fun cenv s₄ =>
      codeAny (model prog w) A (.compStart e 0 (.ref I) acc { cenv with scope := relabel scope env }) (RR acc cenv.locals) s₄) E s₃) E s₂ := by
  subst he
  obtain ⟨tg, it, ifs, as⟩ := g
  dsimp only at ha
  subst ha
  refine wpAny_newObj_type (wpAny_newFunctionEnv hcell (by intro y hy; simp at hy) (fun h₁ hns₁ hsb₁ => ?_) hkind)
  dsimp only at hns₁ hsb₁ ⊢
  generalize hH2 : s₂.heap.push { cls := .type "list", dict := none, data := .seq ([] : List Value).toArray } = H2 at hns₁ hsb₁ ⊢
  have hC : H2.objs.size = s₂.heap.objs.size + 1 := by rw [← hH2, Heap.size_push]
  have hDC : s₂.heap.objs.size ≠ H2.objs.size := by rw [hC]; exact Nat.ne_of_lt (Nat.lt_succ_self _)
  have hCle : s₂.heap.objs.size ≤ H2.objs.size := by rw [hC]; exact Nat.le_succ _
  have hDf : s₂.heap.objs.size ∉ fp := fun hm => Nat.lt_irrefl _ (hfp _ hm)
  have hCf : H2.objs.size ∉ fp := fun hm => by have := hfp _ hm; rw [hC] at this; exact Nat.lt_irrefl _ (Nat.lt_of_succ_lt this)
  have old : Kp s₂.heap h₁ := fun b o e => hsb₁.extBut b o (Nat.ne_of_lt (Nat.lt_of_lt_of_le (Heap.lt_size e) hCle)) (Heap.get?_push_of_some _ (hH2 ▸ Heap.get?_push_of_some _ e))
  have hacc : h₁.PlainList s₂.heap.objs.size #[] := ⟨_, hsb₁.extBut _ _ hDC (Heap.get?_push_of_some _ (hH2 ▸ Heap.get?_push_size _ rfl))⟩
  have hst₁ : St 0 h₁ := W.frame _ _ _ hst fun b _ o e => old b o e
  have fresh : ∀ a, s₂.heap.objs.size ≤ a → s₂.heap.get? a = none := fun a ha => by
    cases e : s₂.heap.get? a with
    | none => rfl
    | some o' => exact absurd (Heap.lt_size e) (Nat.not_lt.mpr ha)
  have L := loop s₂.heap.objs.size H2.objs.size h₁ { s₂ with heap := h₁, toks := s₂.toks + ([] : List (Str × Value)).length } (by simp) (fresh _ (Nat.le_refl _)) (fresh _ hCle) hDC hDf hCf hCle old hacc (by simpa using hns₁) hst₁
  exact codeAny_compStart_list L (W.self 0 _ _ _ hst₁ L)
end

section
variable {prog : Program} {w : World} {A : Around} {E : Value → Shared → Prop} {env : Env} {s : Shared}

/-- an iterable whose items are the data as -/
noncomputable def Src {α : Type} (prog : Program) (w : World) (A : Around) (xv : Value) (s₁ : Shared) (src : List Addr) (as : List α) (K : α → Value → Prop) : Prop :=
  ∀ (Q : Value → Shared → Prop) (E : Value → Shared → Prop),
    (∀ I fp wr P St h₂ tk₂, Walks prog w A I fp wr as.length P St → (∀ i v a, P i v → as[i]? = some a → K a v) → (∀ i h, St i h → ∀ b ∈ wr, ∃ o, h.get? b = some o) → St 0 h₂ → (∀ b ∈ fp, b < h₂.objs.size) → (∀ b ∈ fp, b ∈ wr ∨ b ∈ src) →
      (∀ b ∈ wr, s₁.heap.get? b = none) → Kp s₁.heap h₂ → Q (.ref I) { s₁ with heap := h₂, toks := tk₂ }) → wpAny (model prog w) A (pyIter xv) Q E s₁

theorem src_list {α : Type} {as : List α} {K : α → Value → Prop} {ax : Addr} {vs : List Value} (hh : A.handled = none) (hl : s.heap.IsList ax vs.toArray) (hp : Paired K as vs) : Src prog w A (.ref ax) s [ax] as K := by
  intro Q E h
  have hlt : ax < s.heap.objs.size := by obtain ⟨_, e, _⟩ := hl; exact Heap.lt_size e
  refine wpAny_pyIter_list hl ?_
  have W := Walks.list (prog := prog) (w := w) hh s.heap.objs.size ax (Nat.ne_of_lt hlt) vs.toArray
  have hlen : vs.toArray.size = as.length := by rw [List.size_toArray, paired_len hp]
  rw [hlen] at W
  refine h s.heap.objs.size _ _ _ _ _ s.toks W (fun i v a hv ha => paired_get hp ha (by simpa using hv)) ?_ ⟨⟨_, Heap.get?_push_size _ rfl, rfl, rfl⟩, hl.push _⟩ ?_ ?_ ?_ (fun b o e => Heap.get?_push_of_some _ e)
  · rintro i h ⟨⟨o, ho, _⟩, _⟩ b hb
    rw [List.mem_singleton.mp hb]; exact ⟨o, ho⟩
  · intro b hb
    rw [Heap.size_push]
    rcases List.mem_cons.mp hb with rfl | hb
    · exact Nat.lt_succ_self _
    · rw [List.mem_singleton.mp hb]; exact Nat.lt_succ_of_lt hlt
  · intro b hb
    rcases List.mem_cons.mp hb with rfl | hb
    · exact .inl (.head _)
    · exact .inr hb
  · intro b hb
    rw [List.mem_singleton.mp hb]
    cases e : s.heap.get? s.heap.objs.size with
    | none => rfl
    | some o => exact absurd (Heap.lt_size e) (Nat.lt_irrefl _)

/-- what the block of a comprehension does with each item -/
structure Body {α : Type} (prog : Program) (w : World) (A : Around) (env : Env) (scope : Scope) (cl : List (Str × Addr)) (x : Str) (ifs : List Expr) (elt : Expr) (as : List α) (K : α → Value → Prop) (pz : α → Bool)
    (G : α → Value → List (Addr × Obj) → Prop) (s₁ : Shared) : Prop where
  tests : ∀ C a v s₂ m₂ E', a ∈ as → K a v → s₁.heap.get? C = none → s₂.heap.Ns C m₂ → m₂ x = some v → Kp s₁.heap s₂.heap →
    wpAny (model prog w) A (forIn ifs true fun c r => if r = true then do let ok ← isTrue c (compEnvC scope cl C env) (eval c (compEnvC scope cl C env)); pure (ForInStep.yield ok) else pure (ForInStep.yield r))
      (fun ok s₃ => ok = pz a ∧ Keeps s₂ s₃) E' s₂
  elt : ∀ C a v s₂ m₂ E', a ∈ as → K a v → pz a = true → s₁.heap.get? C = none → s₂.heap.Ns C m₂ → m₂ x = some v → Kp s₁.heap s₂.heap →
    wpAny (model prog w) A (eval elt (compEnvC scope cl C env)) (fun y s₃ => (∃ os, Fresh s₂.heap s₃.heap os ∧ G a y os) ∧ Keeps s₂ s₃) E' s₂

theorem comp_any {α : Type} {as : List α} {K : α → Value → Prop} {pz : α → Bool} {G : α → Value → List (Addr × Obj) → Prop} (hG : ∀ a y os os', (∀ p ∈ os, p ∈ os') → G a y os → G a y os')
    {elt iter : Expr} {x : Str} {px : Pos} {ifs : List Expr} {scope : Scope} {cl : List (Str × Addr)} {pos : Pos} {s₁ : Shared} {xv : Value} {src : List Addr} {RR : Value → Addr → Result → Shared → Prop}
    (hcell : ∀ y ∈ scope.names, y.2 ≠ .cell) (hkind : scope.kind = .function) (hx : scope.names.lookup x = some .local)
    (hsrc : Src prog w A xv s₁ src as K) (hsz : as.length ≤ sizeLine) (hb : Body prog w A env scope cl x ifs elt as K pz G s₁)
    (hRR : ∀ D C h' tk m' ys objs, s₁.heap.get? D = none → s₁.heap.get? C = none → D ≠ C → h'.Ns C m' → h'.PlainList D ys → (∀ p ∈ objs, h'.get? p.1 = some p.2 ∧ s₁.heap.get? p.1 = none ∧ p.1 ≠ C ∧ p.1 ≠ D) →
      Paired (fun a y => G a y objs) (as.filter pz) ys.toList → Kp s₁.heap h' → RR (.ref D) C (.ok .next) { s₁ with heap := h', toks := tk }) :
    wpAny (model prog w) A (pyIter xv) (fun it s₂ => wpAny (model prog w) A (newList []) (fun acc s₃ => wpAny (model prog w) A (newFunctionEnv scope env.globals cl [] env.qual none .none (some env)) (fun cenv s₄ =>
      codeAny (model prog w) A (.compStart (.ListComp elt [⟨.Name x px, iter, ifs, 0⟩] scope pos) 0 it acc { cenv with scope := relabel scope env }) (RR acc cenv.locals) s₄) E s₃) E s₂) E s₁ := by
  refine hsrc _ _ fun I fp wr P St h₂ tk₂ W hPK hlive hst hfp _ hwr hk₂ => ?_
  refine comp_block W (g := ⟨.Name x px, iter, ifs, 0⟩) (rest := []) rfl hcell hkind hst hfp rfl ?_
  rintro D C h₁ s₃ rfl hD hC hDC hDf hCf hCle old hacc hns hst₁
  have hD₁ : s₁.heap.get? D = none := by
    cases e : s₁.heap.get? D with
    | none => rfl
    | some o => have := hk₂ _ _ e; rw [hD] at this; cases this
  have hC₁ : s₁.heap.get? C = none := by
    cases e : s₁.heap.get? C with
    | none => rfl
    | some o => have := hk₂ _ _ e; rw [hC] at this; cases this
  have up : ∀ s' : Shared, (∀ b o, b ≠ C → b ∉ wr → b ≠ D → h₁.get? b = some o → s'.heap.get? b = some o) → Kp s₁.heap s'.heap := fun s' hk b o e =>
    hk b o (by rintro rfl; rw [hC₁] at e; cases e) (fun hm => by rw [hwr b hm] at e; cases e) (by rintro rfl; rw [hD₁] at e; cases e) (old b o (hk₂ b o e))
  refine comp_loop (cenv := compEnvC scope cl C env) W as rfl K hPK pz G hG hlive (lookup_relabel_local hx) (by simp [compEnvC, relabel, hkind]) hDC hDf hCf hst₁ hacc hns
    (fun a v s₂ m₂ E' ha hK hn hm hk => hb.tests C a v s₂ m₂ E' ha hK hC₁ hn hm (up s₂ hk))
    (fun a v s₂ m₂ E' ha hK hp hn hm hk => hb.elt C a v s₂ m₂ E' ha hK hp hC₁ hn hm (up s₂ hk)) (fun h' tk m' ys objs hn' hl hob hF hk => ?_) hsz
  refine hRR D C h' tk m' ys objs hD₁ hC₁ hDC hn' hl (fun p hp => ?_) hF (up { s₁ with heap := h' } hk)
  obtain ⟨q1, q2, q3, q4⟩ := hob p hp
  refine ⟨q1, ?_, q3, q4⟩
  cases e : s₁.heap.get? p.1 with
  | none => rfl
  | some o => have := old _ _ (hk₂ _ _ e); rw [show h₁.get? p.1 = none from q2] at this; cases this

theorem lc_eval {α : Type} {as : List α} {K : α → Value → Prop} {pz : α → Bool} {G : α → Value → List (Addr × Obj) → Prop} (hG : ∀ a y os os', (∀ p ∈ os, p ∈ os') → G a y os → G a y os')
    {elt iter : Expr} {x : Str} {px : Pos} {ifs : List Expr} {scope : Scope} {cl : List (Str × Addr)} {pos : Pos} {Q : Value → Shared → Prop}
    (hclos : closureFor scope env = pure cl) (hcell : ∀ y ∈ scope.names, y.2 ≠ .cell) (hkind : scope.kind = .function)
    (hnames : ∀ y ∈ scope.names, y.2 = .local → scope.names.lookup y.1 = some .local) (hx : scope.names.lookup x = some .local)
    (hs : ∀ x, foldedSetIterable iter env x = pure x) (hsz : as.length ≤ sizeLine)
    (h : wpAny (model prog w) A (eval iter env) (fun xv s₁ => (∃ src, Src prog w A xv s₁ src as K) ∧ Body prog w A env scope cl x ifs elt as K pz G s₁ ∧
      (∀ D n ys objs h' tk, Kp s₁.heap h' → s₁.heap.get? D = none → h'.get? D = some { cls := .type "list", data := .seq ys n } → Fresh s₁.heap h' objs → (∀ p ∈ objs, p.1 ≠ D) → Paired (fun a y => G a y objs) (as.filter pz) ys.toList →
        Q (.ref D) { s₁ with heap := h', toks := tk })) E s) :
    wpAny (model prog w) A (eval (.ListComp elt [⟨.Name x px, iter, ifs, 0⟩] scope pos) env) Q E s := by
  rw [eval_ListComp]
  refine wpAny_comprehension_free (use := none) rfl hs hclos hkind hnames (wpAny_mono h (fun xv s₁ h₁ => ?_) fun _ _ e => e)
  obtain ⟨⟨src, hsrc⟩, hb, hQ⟩ := h₁
  refine comp_any (RR := fun acc C => compPost (model prog w) A E none Q acc C) hG hcell hkind hx hsrc hsz hb ?_
  rintro D C h' tk m' ys objs hD hC hDC hn ⟨n, hl⟩ hob hF hk
  refine ⟨m', hn, fun h'' hs'' => hQ D n ys objs h'' tk (fun b o e => hs''.extBut b o (by rintro rfl; rw [hC] at e; cases e) (hk b o e)) hD (hs''.extBut _ _ hDC hl) (fun p hp => ?_) (fun p hp => (hob p hp).2.2.2) hF⟩
  obtain ⟨q1, q2, q3, q4⟩ := hob p hp
  exact ⟨hs''.extBut _ _ q3 q1, q2⟩

theorem lc_assign {α : Type} {as : List α} {K : α → Value → Prop} {pz : α → Bool} {G : α → Value → List (Addr × Obj) → Prop} (hG : ∀ a y os os', (∀ p ∈ os, p ∈ os') → G a y os → G a y os')
    {elt iter : Expr} {x y : Str} {px py : Pos} {ifs : List Expr} {scope : Scope} {cl : List (Str × Addr)} {pos spos : Pos} {Q : Flow → Shared → Prop}
    (hsw : swapsWith (.ListComp elt [⟨.Name x px, iter, ifs, 0⟩] scope pos) (some (.Name y py)) spos.line env = pure true)
    (hclos : closureFor scope env = pure cl) (hcell : ∀ y ∈ scope.names, y.2 ≠ .cell) (hkind : scope.kind = .function)
    (hnames : ∀ y ∈ scope.names, y.2 = .local → scope.names.lookup y.1 = some .local) (hx : scope.names.lookup x = some .local)
    (hy : env.kindOf y = some .local) (hp : (env.scope.kind == .class || (env.scope.kind == .module && env.locals != env.globals)) = false)
    (hs : ∀ x, foldedSetIterable iter env x = pure x) (hsz : as.length ≤ sizeLine)
    (h : wpAny (model prog w) A (eval iter env) (fun xv s₁ => (∃ src, Src prog w A xv s₁ src as K) ∧ Body prog w A env scope cl x ifs elt as K pz G s₁ ∧ ∃ m, s₁.heap.Ns env.locals m ∧
      (∀ D n ys objs h' tk, (∀ b o, b ≠ env.locals → s₁.heap.get? b = some o → h'.get? b = some o) → h'.Ns env.locals (fun z => if z = y then some (.ref D) else m z) → s₁.heap.get? D = none → h'.get? D = some { cls := .type "list", data := .seq ys n } →
        Fresh s₁.heap h' objs → (∀ p ∈ objs, p.1 ≠ D) → Paired (fun a y => G a y objs) (as.filter pz) ys.toList → Q .next { s₁ with heap := h', toks := tk })) E s) :
    wpAny (model prog w) A (exec (.Assign [.Name y py] (.ListComp elt [⟨.Name x px, iter, ifs, 0⟩] scope pos) spos) env) Q E s := by
  rw [exec_Assign_Name_used _ _ _ _ hsw]
  refine wpAny_bind (wpAny_standAt (wpAny_bind ?_))
  show wpAny _ A (do let _ ← comprehension (.ListComp elt [⟨.Name x px, iter, ifs, 0⟩] scope pos) scope env _ (newList []) false (eval iter env) (some (assign (.Name y py) env))) _ _ s
  refine wpAny_bind (wpAny_mono (wpAny_comprehension_free (use := some (assign (.Name y py) env)) (Q := fun _ s' => Q .next s') rfl hs hclos hkind hnames
    (wpAny_mono h (fun xv s₁ h₁ => ?_) fun _ _ e => e)) (fun _ s' hq => wpAny_pure (wpAny_pure hq)) fun _ _ e => e)
  obtain ⟨⟨src, hsrc⟩, hb, m, hm, hQ⟩ := h₁
  refine comp_any (RR := fun acc C => compPost (model prog w) A E (some (assign (.Name y py) env)) (fun _ s' => Q .next s') acc C) hG hcell hkind hx hsrc hsz hb ?_
  rintro D C h' tk m' ys objs hD hC hDC hnC ⟨n, hl⟩ hob hF hk
  obtain ⟨oL, _, _, hoL, _⟩ := id hm
  have hLC : env.locals ≠ C := by rintro q; rw [q, hC] at hoL; cases hoL
  have hLD : env.locals ≠ D := by rintro q; rw [q, hD] at hoL; cases hoL
  show wpAny _ A (assign (.Name y py) env (.ref D)) _ _ _
  refine wpAny_assign_Name (wpAny_storeName_local hy (hm.keeps hk) (fun h₂ hn₂ hs₂ => ?_) hp)
  refine ⟨m', hnC.sameBut hs₂ (Ne.symm hLC), fun h₃ hs₃ => ?_⟩
  refine hQ D n ys objs h₃ _ (fun b o hb e => hs₃.extBut b o (by rintro rfl; rw [hC] at e; cases e) (hs₂.extBut b o hb (hk b o e))) (hn₂.sameBut hs₃ hLC) hD (hs₃.extBut _ _ hDC (hs₂.extBut _ _ (Ne.symm hLD) hl)) (fun p hp => ?_) (fun p hp => (hob p hp).2.2.2) hF
  obtain ⟨q1, q2, q3, q4⟩ := hob p hp
  have q5 : p.1 ≠ env.locals := by intro q; rw [q, hoL] at q2; cases q2
  exact ⟨hs₃.extBut _ _ q3 (hs₂.extBut _ _ q5 q1), q2⟩
end
end Mine
namespace Mine
structure End (P : Prop) : Prop where
  out : P

noncomputable abbrev IsInt (n : Int) (v : Value) : Prop := ∃ t, v = .int n t
noncomputable abbrev IsStr (x : Str) (v : Value) : Prop := ∃ t, v = .str x t
theorem strsAre {xs : List Str} {vs : List Value} (h : Paired IsStr xs vs) : StrsAre vs xs := by
  induction h with
  | nil => exact .nil
  | cons h _ ih => obtain ⟨t, rfl⟩ := h; exact .cons _ _ ih
theorem intsAre {xs : List Int} {vs : List Value} (h : Paired IsInt xs vs) : IntsAre vs xs := by
  induction h with
  | nil => exact .nil
  | cons h _ ih => obtain ⟨t, rfl⟩ := h; exact .cons _ _ ih
theorem paired_map {α β γ : Type} {F : β → γ → Prop} {f : α → β} : ∀ {l₁ : List α} {l₂ : List γ}, Paired (fun a y => F (f a) y) l₁ l₂ → Paired F (l₁.map f) l₂
  | _, _, .nil => .nil
  | _, _, .cons h t => .cons h (paired_map t)

/-- a text by its signs -/
noncomputable def sOf (l : List Nat) : Str := ⟨l.toArray⟩
theorem sOf_app (a b : List Nat) : sOf a ++ sOf b = sOf (a ++ b) := by
  show Str.mk (a.toArray ++ b.toArray) = Str.mk (a ++ b).toArray
  simp
theorem sOf_len (l : List Nat) : (sOf l).length = l.length := by show l.toArray.size = _; simp
theorem sOf_inj {a b : List Nat} (h : sOf a = sOf b) : a = b := by
  have := congrArg Str.cps h
  simpa [sOf] using this
theorem sOf_join (xs : List (List Nat)) : Str.join Str.empty (xs.map sOf) = sOf xs.flatten := by
  induction xs with
  | nil => rfl
  | cons x r ih =>
    cases r with
    | nil => simp [Str.join]
    | cons y r =>
      show sOf x ++ Str.empty ++ Str.join Str.empty ((y :: r).map sOf) = _
      rw [ih, show Str.empty = sOf [] from rfl, sOf_app, sOf_app]
      simp
/-- the signs of a lead: for each run its blanks, then a tab -/
noncomputable def pieceL (n : Int) : List Nat := List.replicate n.toNat 32 ++ [9]
noncomputable def leadL (ns : List Int) : List Nat := (ns.map pieceL).flatten
theorem foldl_app (k : Nat) (acc : Array Nat) : (List.replicate k (#[32] : Array Nat)).foldl (· ++ ·) acc = acc ++ (List.replicate k 32).toArray := by
  induction k generalizing acc with
  | zero => simp
  | succ k ih =>
    rw [List.replicate_succ, List.foldl_cons, ih, List.replicate_succ]
    apply Array.ext'
    simp
theorem mul_blank (n : Int) : Txt.mul (Str.ofString " ") n = sOf (List.replicate n.toNat 32) := by
  have e : Str.ofString " " = Str.mk #[32] := by decide +kernel
  unfold Txt.mul
  by_cases h : n < 1
  · rw [if_pos h, show n.toNat = 0 by omega]; rfl
  · rw [if_neg h]
    by_cases h1 : n = 1
    · subst h1; rw [e]; rfl
    · have : (n == 1 || (Str.ofString " ").length == 0) = false := by
        rw [e]; simp [h1, Str.length]
      rw [if_neg (by rw [this]; decide), e]
      show Str.mk _ = Str.mk _
      congr 1
      rw [foldl_app]; simp
theorem piece_eq (n : Int) : Txt.mul (Str.ofString " ") n ++ Str.ofString "\t" = sOf (pieceL n) := by
  rw [mul_blank, show Str.ofString "\t" = sOf [9] by decide +kernel, sOf_app]; rfl
theorem pieceL_len {n : Int} (h : 0 ≤ n ∧ n ≤ 5) : (pieceL n).length ≤ 6 := by
  simp only [pieceL, List.length_append, List.length_replicate, List.length_singleton]; omega

section
variable {w : World} {loose : List Str} {mean : ExcName → Option Value} {mg mb : Str → Option Value} {A : Around} {base : Heap} {outer : List Env} {s : Shared} {Q E : Value → Shared → Prop}

set_option maxHeartbeats 8000000 in
theorem lead_call {l : Addr} {vs : List Value} {ns : List Int} (G : Gr w loose mean mg mb A base outer s.heap)
    (hd : A.depth + 1 < recursionLimit) (hu : A.units + 8 < cLine) (hl : s.heap.IsList l vs.toArray) (hi : Paired IsInt ns vs) (hb : ∀ n ∈ ns, 0 ≤ n ∧ n ≤ 5) (hlen : ns.length ≤ 4)
    (hret : ∀ t h' tk', Kp s.heap h' → Q (.str (sOf (leadL ns)) t) { s with heap := h', toks := tk' }) :
    wpAny (model PySem.Challenge.rw_pk0111_01.row.prog w) A (call (.ref 125) [.ref l]) Q E s := by
  w_top off
  obtain ⟨hdl, dp, fr, gd, un⟩ := A
  obtain ⟨hh, B, X, T⟩ := G
  have hs := B.stack
  dsimp only at hh hs hd hu
  subst hh hs
  revert X; k_fill; intro X
  refine wpAny_call ?_
  k_dflt (refine' code_pure ?k1 ?k2 ?k3 ?k6 ?k7 ?k8 ?k9 ?kB ?_ ?c2 ?c3 ?c4 ?c5; (case k1 => k_asm); (case k2 => k_asm); (case k3 => k_asm);(case k6 => k_is); (case k7 => k_is); (case k8 => ktr_room); (case k9 => exact BindsTo.of_eq rfl); (case c5 => decide); (case kB => exact locs rfl); (case c2 => exact rfl); (case c3 => exact rfl); (case c4 => exact rfl))
  rintro _ L' h' rfl F' N' B' X' T'
  (try dsimp only); (try k_fold)
  repeat' (first | (k_unfold; (try dsimp only)) | ((fail_if_success (with_reducible show wpAny _ _ (eval (Expr.ListComp _ _ _ _) _) _ _ _)); walk1))
  k_dflt (refine lc_eval (as := ns) (K := IsInt) (pz := fun _ => true) (G := fun n y _ => IsStr (sOf (pieceL n)) y) (fun _ _ _ _ _ h => h) (cl := []) ?_ ?_ ?_ ?_ ?_ ?_ ?_ ?_)
  case refine_1 => with_unfolding_all rfl
  case refine_2 => decide
  case refine_3 => rfl
  case refine_4 => decide
  case refine_5 => with_unfolding_all rfl
  case refine_6 => intro _; with_unfolding_all rfl
  case refine_7 => rw [sizeLine_eq]; omega
  walk1
  refine ⟨⟨_, src_list rfl (hl.at fun o e => F'.keep _ o e) hi⟩, ⟨?_, ?_⟩, ?_⟩
  · intro C a v s₂ m₂ E' ha hK hC hn hm hk
    exact wpAny_tests_nil ⟨rfl, s₂.heap, s₂.toks, rfl, fun _ _ e => e⟩
  · rintro C a v s₂ m₂ E' ha ⟨t, rfl⟩ _ hC hn hm hk
    have := hb a ha
    refine wpAny_mono (Q := fun y s₃ => End ((∃ os, Fresh s₂.heap s₃.heap os ∧ IsStr (sOf (pieceL a)) y) ∧ Keeps s₂ s₃)) ?_ (fun _ _ h => h.out) (fun _ _ h => h)
    repeat' (first | walk1 | (dsimp only; walk1))
    refine End.mk ⟨⟨[], Fresh.nil, _, by rw [piece_eq]⟩, _, _, rfl, fun _ _ e => e⟩
  · intro D n ys objs h' tk hk hD hgD hob hne hF
    have F2 := F'.keeps hk
    have hst : StrsAre ys.toList ((ns.map pieceL).map sOf) := strsAre (paired_map (paired_map (by rw [List.filter_eq_self.mpr (fun _ _ => rfl)] at hF; exact hF)))
    walk1
    refine join_listW (ys := (ns.map pieceL).map sOf) ⟨_, hgD, rfl, n, rfl⟩ hst (by decide +kernel) ?_ ?_
    · have : ∀ l : List Int, (∀ n ∈ l, 0 ≤ n ∧ n ≤ 5) → (((l.map pieceL).map sOf).map (·.length)).sum ≤ 6 * l.length := by
        intro l hl
        induction l with
        | nil => simp
        | cons a r ih =>
          have h1 := ih fun n hn => hl n (.tail _ hn)
          have h2 := pieceL_len (hl a (.head _))
          simp only [List.map_cons, List.sum_cons, List.length_cons, sOf_len] at *
          omega
      have := this ns hb
      simp only [List.length_map]
      omega
    · intro t' k
      k_unfold
      dsimp only
      have e : Txt.join (Str.ofString "") ((ns.map pieceL).map sOf) = sOf (leadL ns) := by
        rw [show Str.ofString "" = Str.empty by decide +kernel]
        unfold Txt.join
        rw [StrLaws.glued_eq_join, sOf_join]; rfl
      rw [e]
      exact hret _ _ _ (Kp.trans (fun b o e => F'.keep b o e) hk)
end
end Mine
namespace Mine
/-- one turn of pydoc's replace -/
noncomputable def rep (x y z : Str) : Str := Str.join z (Txt.split x y)
theorem join_len (sep : Str) : ∀ ts : List Str, (Str.join sep ts).length = (ts.map (·.length)).sum + (ts.length - 1) * sep.length
  | [] => by simp [Str.join, Str.empty, Str.length]
  | [x] => by simp [Str.join]
  | x :: y :: r => by
    have ih := join_len sep (y :: r)
    show (x ++ sep ++ Str.join sep (y :: r)).length = _
    rw [Str.length_append, Str.length_append, ih]
    simp only [List.map_cons, List.sum_cons, List.length_cons, Nat.add_sub_cancel, Nat.add_mul]
    omega
theorem rep_len {x y z : Str} (h : z.length ≤ y.length) : (rep x y z).length ≤ x.length := by
  have e := congrArg Str.length (StrLaws.join_split x y)
  rw [join_len] at e
  rw [rep, join_len, ← e]
  exact Nat.add_le_add_left (Nat.mul_le_mul_left _ h) _
theorem split_weight {x y : Str} (h : 1 ≤ y.length) : ((Txt.split x y).map (·.length)).sum + (Txt.split x y).length ≤ x.length + 1 := by
  have e := congrArg Str.length (StrLaws.join_split x y)
  rw [join_len] at e
  have := Nat.mul_le_mul_left ((Txt.split x y).length - 1) h
  omega
section
variable {prog : Program} {w : World} {A : Around} {E : Value → Shared → Prop} {s : Shared}
theorem join_split_step {D : Addr} {l : List (Str × Tok)} {x y z : Str} {t : Tok} {Q : Value → Shared → Prop} (hl : s.heap.IsList D (strValues l).toArray) (ha : StrsAre (strValues l) (l.map fun x => x.1)) (ht : (l.map fun x => x.1) = Txt.split x y) (hx : x.length ≤ 24) (hy : 1 ≤ y.length) (hz : z.length ≤ y.length) (hy2 : y.length ≤ 16)
    (h : ∀ t' k, (rep x y z).length ≤ 24 → Q (.str (rep x y z) t') { s with toks := k }) : wpAny (model prog w) A (call (.builtin "str.join") [.str z t, .ref D]) Q E s := by
  rw [ht] at ha
  refine join_listW (ys := Txt.split x y) hl (by simpa using ha) (Nat.le_trans hz hy2) ?_ ?_
  · have := split_weight (x := x) hy; omega
  · intro t' k
    have e : Txt.join z (Txt.split x y) = rep x y z := by unfold Txt.join rep; rw [StrLaws.glued_eq_join]
    rw [e]
    exact h t' k (Nat.le_trans (rep_len hz) hx)
end

noncomputable def reps (x : Str) : List (Str × Str) → Str
  | [] => x
  | p :: r => reps (rep x p.1 p.2) r
noncomputable def flatP (ps : List (Str × Str)) : List Str := ps.flatMap fun p => [p.1, p.2]
noncomputable abbrev repM (x : Str) (t : Tok) (D : Addr) : Str → Option Value := fun y => if y = Str.ofString "text" then some (.str x t) else if y = Str.ofString "pairs" then some (.ref D) else none
theorem text_pairs : ¬ Str.ofString "text" = Str.ofString "pairs" := by decide +kernel
theorem lk2 {a b y : Str} {v u : Value} (h : ¬ b = a) : List.lookup y [(a, v), (b, u)] = if y = b then some u else if y = a then some v else none := by
  by_cases h1 : y = b
  · subst h1
    have : (y == a) = false := by rw [beq_eq_false_iff_ne]; exact h
    simp [List.lookup_cons, this]
  · by_cases h2 : y = a
    · subst h2; simp [List.lookup_cons, h1]
    · have e1 : (y == a) = false := by rw [beq_eq_false_iff_ne]; exact h2
      have e2 : (y == b) = false := by rw [beq_eq_false_iff_ne]; exact h1
      simp [List.lookup_cons, e1, e2, h1, h2]
theorem repM_set {x x' : Str} {t t' : Tok} {D D' : Addr} : (fun y => if y = Str.ofString "pairs" then some (Value.ref D') else if y = Str.ofString "text" then some (.str x' t') else repM x t D y) = repM x' t' D' := by
  funext y
  by_cases h1 : y = Str.ofString "text"
  · subst h1; simp [repM, text_pairs]
  · by_cases h2 : y = Str.ofString "pairs"
    · subst h2; simp [repM, Ne.symm text_pairs]
    · simp [repM, h1, h2]
theorem whl_inv {prog : Program} {w : World} {A : Around} {E : Value → Shared → Prop} {env : Env} {test : PySem.Expr} {body orelse : List Stmt} {Q : Flow → Shared → Prop} (Inv : Nat → Shared → Prop) (hE : PassesOwn (model prog w) A env E)
    (step : ∀ n s, Inv n s → (∀ m s', m < n → Inv m s' → ∀ k, WhlRest prog w A E env test body orelse Q k s') →
      wpAny (model prog w) A (isTrue test env (eval test env)) (fun b s₂ => WhlIf b (wpAny (model prog w) A (execs body env) (WhlPost prog w A E env test body orelse Q 0) E s₂) (wpAny (model prog w) A (execs orelse env) Q E s₂)) E s)
    (n : Nat) (s : Shared) (h : Inv n s) (k : Nat) : WhlRest prog w A E env test body orelse Q k s := by
  induction n using Nat.strongRecOn generalizing s k with
  | ind n ih => exact whl_turn (k := 0) hE (step n s h fun m s' hm hi k => ih m hm s' hi k)

theorem seqIdx {k : Int} {n j : Nat} (h : k = (j : Int)) (h2 : j < n) : seqIndex? k n = some j := by
  subst h
  unfold seqIndex?
  have h3 : ¬ ((j : Int) < 0) := by omega
  have h4 : (j : Int) < (n : Int) := by omega
  simp [h3, h4]
section
variable {w : World} {loose : List Str} {mean : ExcName → Option Value} {mg mb : Str → Option Value} {A₀ : Around} {base h₀ : Heap} {L : Addr} {m : Str → Option Value} {env : Env} {outer : List Env} {s : Shared} {Q E : Value → Shared → Prop}
set_option maxHeartbeats 8000000 in
theorem replace_call {dp un : Nat} {gd : Option (List Code)} {x : Str} {t : Tok} {t1 t2 t3 t4 t5 t6 t7 t8 t9 t10 t11 t12 : Tok}
    (B : Below A₀ base outer h₀) (F : Fr h₀ L s.heap m) (X : (hd.heap_39 w.params).In h₀) (T : Top topProg loose mean mg mb h₀) (hf : env.frame = some L) (hke : env.scope.kind = .function)
    (hd : dp + 1 < recursionLimit) (hu : un + 8 < cLine) (hx : x.length ≤ 24)
    (hret : ∀ t h' tk', Fr h₀ L h' m → Q (.str (reps x [(Str.ofString "     \t", Str.ofString "C"), (Str.ofString "    \t", Str.ofString "c"), (Str.ofString "   \t", Str.ofString "B"), (Str.ofString "  \t", Str.ofString "b"), (Str.ofString " \t", Str.ofString "A"), (Str.ofString "\t", Str.ofString "a")]) t) { s with heap := h', toks := tk' }) :
    wpAny (model PySem.Challenge.rw_pk0111_01.row.prog w) (aTop dp un gd (env :: outer)) (call (.ref 28) [.str x t, .str (Str.ofString "     \t") t1, .str (Str.ofString "C") t2, .str (Str.ofString "    \t") t3, .str (Str.ofString "c") t4, .str (Str.ofString "   \t") t5, .str (Str.ofString "B") t6, .str (Str.ofString "  \t") t7, .str (Str.ofString "b") t8, .str (Str.ofString " \t") t9, .str (Str.ofString "A") t10, .str (Str.ofString "\t") t11, .str (Str.ofString "a") t12]) Q E s := by
  have N : News h₀ L s.heap [] := News.nil
  revert X; k_fill; intro X
  refine wpAny_call ?_
  k_dflt (refine' kp_rest ?k1 ?k2 ?k3 ?k4 ?k5 ?kA ?kF ?kK ?k6 ?k7 ?k8 ?kV ?kP ?kG ?kB ?_ ?c2 ?c3 ?c4 ?c5; (case kA => exact rfl); (case kF => exact hf); (case kK => exact hke); (case k1 => k_asm); (case k2 => k_asm); (case k3 => k_asm); (case k4 => k_asm); (case k5 => k_asm); (case k6 => k_is); (case k7 => k_is); (case k8 => ktr_room); (case kV => kl_lit); (case kP => exact rfl); (case kG => exact fun _ => rfl); (case kB => exact fun _ => locs rfl); (case c5 => decide); (case c2 => exact rfl); (case c3 => exact rfl); (case c4 => exact rfl))
  intro D' g' L' h' l1 FG' F' N' B' X' T'
  dsimp only
  k_fold
  repeat' (first | (k_unfold; (try dsimp only)) | ((fail_if_success (with_reducible show WhlRest _ _ _ _ _ _ _ _ _ _ _)); first | (first | ((with_reducible show wpAny _ _ (subscriptTail _ _ (Value.ref _) (Value.int _ _)) _ _ _); k_dflt (first | (with_unfolding_all refine item_tupleL (j := 0) (News.isTup (by assumption) (by k_mem)) (by decide) (by decide) (seqIdx (by decide) (by simp only [List.length_cons]; omega)) rfl ?_) | (with_unfolding_all refine item_tupleL (j := 1) (News.isTup (by assumption) (by k_mem)) (by decide) (by decide) (seqIdx (by decide) (by simp only [List.length_cons]; omega)) rfl ?_))) | ((with_reducible show wpAny _ _ (truthy (Value.ref _)) _ _ _); (refine ktl_truthyK (by assumption) (by k_mem) (by first | (exact Nat.le_of_ble_eq_true rfl) | omega) ?_; (try simp only [List.isEmpty_cons, List.isEmpty_nil, Bool.not_false, Bool.not_true]))) | ((with_reducible show wpAny _ _ (subscriptTail _ _ (Value.ref _) (Value.ref _)) _ _ _); k_dflt (with_unfolding_all refine slice_tuple_from (a := 2) (by assumption) (by assumption) (News.isTup (by assumption) (by k_mem)) (by decide) (by first | assumption | exact Nat.le_of_ble_eq_true rfl) ?_); intro h' F' N'; simp only [List.drop_succ_cons, List.drop_zero] at N') | ((with_reducible show wpAny _ _ (call (Value.builtin "str.join") _) _ _ _); (refine join_split_step (by assumption) (by assumption) (by assumption) (by assumption) (by first | assumption | decide +kernel) (by first | assumption | decide +kernel) (by first | assumption | decide +kernel) ?_; intro t' k hx')) | walk1) | (dsimp only; (first | ((with_reducible show wpAny _ _ (subscriptTail _ _ (Value.ref _) (Value.int _ _)) _ _ _); k_dflt (first | (with_unfolding_all refine item_tupleL (j := 0) (News.isTup (by assumption) (by k_mem)) (by decide) (by decide) (seqIdx (by decide) (by simp only [List.length_cons]; omega)) rfl ?_) | (with_unfolding_all refine item_tupleL (j := 1) (News.isTup (by assumption) (by k_mem)) (by decide) (by decide) (seqIdx (by decide) (by simp only [List.length_cons]; omega)) rfl ?_))) | ((with_reducible show wpAny _ _ (truthy (Value.ref _)) _ _ _); (refine ktl_truthyK (by assumption) (by k_mem) (by first | (exact Nat.le_of_ble_eq_true rfl) | omega) ?_; (try simp only [List.isEmpty_cons, List.isEmpty_nil, Bool.not_false, Bool.not_true]))) | ((with_reducible show wpAny _ _ (subscriptTail _ _ (Value.ref _) (Value.ref _)) _ _ _); k_dflt (with_unfolding_all refine slice_tuple_from (a := 2) (by assumption) (by assumption) (News.isTup (by assumption) (by k_mem)) (by decide) (by first | assumption | exact Nat.le_of_ble_eq_true rfl) ?_); intro h' F' N'; simp only [List.drop_succ_cons, List.drop_zero] at N') | ((with_reducible show wpAny _ _ (call (Value.builtin "str.join") _) _ _ _); (refine join_split_step (by assumption) (by assumption) (by assumption) (by assumption) (by first | assumption | decide +kernel) (by first | assumption | decide +kernel) (by first | assumption | decide +kernel) ?_; intro t' k hx')) | walk1))))
  refine whl_inv (fun n s₁ => Ex7 fun (ps : List (Str × Str)) (x₁ : Str) (t : Tok) (D : Addr) (vs : List Value) (h₁ : Heap) (tk₁ : Nat) => And9 (s₁ = { s with heap := h₁, toks := tk₁ }) (ps.length = n) (Fr g' L' s₁.heap (repM x₁ t D)) (News g' L' s₁.heap [(D, { cls := .type "tuple", data := .seq vs.toArray })]) (Paired IsStr (flatP ps) vs) (x₁.length ≤ 24) ((∀ p ∈ ps, 1 ≤ p.1.length ∧ p.2.length ≤ p.1.length ∧ p.1.length ≤ 16)) (vs.length ≤ 20) (reps x₁ ps = reps x [(Str.ofString "     \t", Str.ofString "C"), (Str.ofString "    \t", Str.ofString "c"), (Str.ofString "   \t", Str.ofString "B"), (Str.ofString "  \t", Str.ofString "b"), (Str.ofString " \t", Str.ofString "A"), (Str.ofString "\t", Str.ofString "a")])) ?_ ?_ 6 _ ?_ _
  · first | passes_own | with_unfolding_all passes_own
  · clear F' N' hx
    rintro n s₁ ⟨ps, x₁, t, D, vs, h₁, tk₁, rfl, hn, F2, N2, hv, hx, hp, hlen, hr⟩ ih
    dsimp only at F2 N2 ⊢
    cases ps with
    | nil =>
      cases hv
      repeat' (first | (k_unfold; (try dsimp only)) | (first | (first | ((with_reducible show wpAny _ _ (subscriptTail _ _ (Value.ref _) (Value.int _ _)) _ _ _); k_dflt (first | (with_unfolding_all refine item_tupleL (j := 0) (News.isTup (by assumption) (by k_mem)) (by decide) (by decide) (seqIdx (by decide) (by simp only [List.length_cons]; omega)) rfl ?_) | (with_unfolding_all refine item_tupleL (j := 1) (News.isTup (by assumption) (by k_mem)) (by decide) (by decide) (seqIdx (by decide) (by simp only [List.length_cons]; omega)) rfl ?_))) | ((with_reducible show wpAny _ _ (truthy (Value.ref _)) _ _ _); (refine ktl_truthyK (by assumption) (by k_mem) (by first | (exact Nat.le_of_ble_eq_true rfl) | omega) ?_; (try simp only [List.isEmpty_cons, List.isEmpty_nil, Bool.not_false, Bool.not_true]))) | ((with_reducible show wpAny _ _ (subscriptTail _ _ (Value.ref _) (Value.ref _)) _ _ _); k_dflt (with_unfolding_all refine slice_tuple_from (a := 2) (by assumption) (by assumption) (News.isTup (by assumption) (by k_mem)) (by decide) (by first | assumption | exact Nat.le_of_ble_eq_true rfl) ?_); intro h' F' N'; simp only [List.drop_succ_cons, List.drop_zero] at N') | ((with_reducible show wpAny _ _ (call (Value.builtin "str.join") _) _ _ _); (refine join_split_step (by assumption) (by assumption) (by assumption) (by assumption) (by first | assumption | decide +kernel) (by first | assumption | decide +kernel) (by first | assumption | decide +kernel) ?_; intro t' k hx')) | walk1) | (dsimp only; (first | ((with_reducible show wpAny _ _ (subscriptTail _ _ (Value.ref _) (Value.int _ _)) _ _ _); k_dflt (first | (with_unfolding_all refine item_tupleL (j := 0) (News.isTup (by assumption) (by k_mem)) (by decide) (by decide) (seqIdx (by decide) (by simp only [List.length_cons]; omega)) rfl ?_) | (with_unfolding_all refine item_tupleL (j := 1) (News.isTup (by assumption) (by k_mem)) (by decide) (by decide) (seqIdx (by decide) (by simp only [List.length_cons]; omega)) rfl ?_))) | ((with_reducible show wpAny _ _ (truthy (Value.ref _)) _ _ _); (refine ktl_truthyK (by assumption) (by k_mem) (by first | (exact Nat.le_of_ble_eq_true rfl) | omega) ?_; (try simp only [List.isEmpty_cons, List.isEmpty_nil, Bool.not_false, Bool.not_true]))) | ((with_reducible show wpAny _ _ (subscriptTail _ _ (Value.ref _) (Value.ref _)) _ _ _); k_dflt (with_unfolding_all refine slice_tuple_from (a := 2) (by assumption) (by assumption) (News.isTup (by assumption) (by k_mem)) (by decide) (by first | assumption | exact Nat.le_of_ble_eq_true rfl) ?_); intro h' F' N'; simp only [List.drop_succ_cons, List.drop_zero] at N') | ((with_reducible show wpAny _ _ (call (Value.builtin "str.join") _) _ _ _); (refine join_split_step (by assumption) (by assumption) (by assumption) (by assumption) (by first | assumption | decide +kernel) (by first | assumption | decide +kernel) (by first | assumption | decide +kernel) ?_; intro t' k hx')) | walk1))))
      rename Fr h₀ _ _ _ => kF
      rw [show x₁ = _ from hr]
      exact hret _ _ _ kF
    | cons p r =>
      cases hv with | cons h1 hv => cases hv with | cons h2 hv =>
      obtain ⟨t1, rfl⟩ := h1
      obtain ⟨t2, rfl⟩ := h2
      rename_i vs'
      obtain ⟨q1, q2, q3⟩ := hp p (.head _)
      have hsep : (p.1.length == 0) = false := by rw [beq_eq_false_iff_ne]; omega
      have h20 : vs'.length ≤ 20 := by simp only [List.length_cons] at hlen; omega
      have h22 : 2 ≤ (Value.str p.1 t1 :: Value.str p.2 t2 :: vs').toArray.size := by simp
      repeat' (first | (k_unfold; (try dsimp only)) | ((fail_if_success (with_reducible show WhlRest _ _ _ _ _ _ _ _ _ _ _));first | (first | ((with_reducible show wpAny _ _ (subscriptTail _ _ (Value.ref _) (Value.int _ _)) _ _ _); k_dflt (first | (with_unfolding_all refine item_tupleL (j := 0) (News.isTup (by assumption) (by k_mem)) (by decide) (by decide) (seqIdx (by decide) (by simp only [List.length_cons]; omega)) rfl ?_) | (with_unfolding_all refine item_tupleL (j := 1) (News.isTup (by assumption) (by k_mem)) (by decide) (by decide) (seqIdx (by decide) (by simp only [List.length_cons]; omega)) rfl ?_))) | ((with_reducible show wpAny _ _ (truthy (Value.ref _)) _ _ _); (refine ktl_truthyK (by assumption) (by k_mem) (by first | (exact Nat.le_of_ble_eq_true rfl) | omega) ?_; (try simp only [List.isEmpty_cons, List.isEmpty_nil, Bool.not_false, Bool.not_true]))) | ((with_reducible show wpAny _ _ (subscriptTail _ _ (Value.ref _) (Value.ref _)) _ _ _); k_dflt (with_unfolding_all refine slice_tuple_from (a := 2) (by assumption) (by assumption) (News.isTup (by assumption) (by k_mem)) (by decide) (by first | assumption | exact Nat.le_of_ble_eq_true rfl) ?_); intro h' F' N'; simp only [List.drop_succ_cons, List.drop_zero] at N') | ((with_reducible show wpAny _ _ (call (Value.builtin "str.join") _) _ _ _); (refine join_split_step (by assumption) (by assumption) (by assumption) (by assumption) (by first | assumption | decide +kernel) (by first | assumption | decide +kernel) (by first | assumption | decide +kernel) ?_; intro t' k hx')) | walk1) | (dsimp only; (first | ((with_reducible show wpAny _ _ (subscriptTail _ _ (Value.ref _) (Value.int _ _)) _ _ _); k_dflt (first | (with_unfolding_all refine item_tupleL (j := 0) (News.isTup (by assumption) (by k_mem)) (by decide) (by decide) (seqIdx (by decide) (by simp only [List.length_cons]; omega)) rfl ?_) | (with_unfolding_all refine item_tupleL (j := 1) (News.isTup (by assumption) (by k_mem)) (by decide) (by decide) (seqIdx (by decide) (by simp only [List.length_cons]; omega)) rfl ?_))) | ((with_reducible show wpAny _ _ (truthy (Value.ref _)) _ _ _); (refine ktl_truthyK (by assumption) (by k_mem) (by first | (exact Nat.le_of_ble_eq_true rfl) | omega) ?_; (try simp only [List.isEmpty_cons, List.isEmpty_nil, Bool.not_false, Bool.not_true]))) | ((with_reducible show wpAny _ _ (subscriptTail _ _ (Value.ref _) (Value.ref _)) _ _ _); k_dflt (with_unfolding_all refine slice_tuple_from (a := 2) (by assumption) (by assumption) (News.isTup (by assumption) (by k_mem)) (by decide) (by first | assumption | exact Nat.le_of_ble_eq_true rfl) ?_); intro h' F' N'; simp only [List.drop_succ_cons, List.drop_zero] at N') | ((with_reducible show wpAny _ _ (call (Value.builtin "str.join") _) _ _ _); (refine join_split_step (by assumption) (by assumption) (by assumption) (by assumption) (by first | assumption | decide +kernel) (by first | assumption | decide +kernel) (by first | assumption | decide +kernel) ?_; intro t' k hx')) | walk1))))
      rename Fr g' _ _ _ => F3
      rename News g' _ _ _ => N3
      rw [repM_set] at F3
      refine ih r.length _ (by simp only [List.length_cons] at hn; omega) ⟨r, rep x₁ p.1 p.2, _, _, vs', _, _, rfl, rfl, F3, ?_, hv, by assumption, fun q hq => hp q (.tail _ hq), h20, hr⟩ _
      intro q hq
      rw [List.mem_singleton.mp hq]
      exact N3 _ (.head _)
  · refine ⟨[(Str.ofString "     \t", Str.ofString "C"), (Str.ofString "    \t", Str.ofString "c"), (Str.ofString "   \t", Str.ofString "B"), (Str.ofString "  \t", Str.ofString "b"), (Str.ofString " \t", Str.ofString "A"), (Str.ofString "\t", Str.ofString "a")], x, t, D', [_, _, _, _, _, _, _, _, _, _, _, _], _, _, rfl, rfl, ?_, N', ?_, hx, ?_, ?_, rfl⟩
    · have e : ∀ (m₁ m₂ : Str → Option Value), m₁ = m₂ → Fr g' L' h' m₁ → Fr g' L' h' m₂ := fun _ _ e h => e ▸ h
      refine e _ _ ?_ F'
      show (fun y => List.lookup y [(Str.ofString "pairs", Value.ref D'), (Str.ofString "text", Value.str x t)]) = _
      funext y
      exact lk2 text_pairs
    · exact .cons ⟨_, rfl⟩ (.cons ⟨_, rfl⟩ (.cons ⟨_, rfl⟩ (.cons ⟨_, rfl⟩ (.cons ⟨_, rfl⟩ (.cons ⟨_, rfl⟩ (.cons ⟨_, rfl⟩ (.cons ⟨_, rfl⟩ (.cons ⟨_, rfl⟩ (.cons ⟨_, rfl⟩ (.cons ⟨_, rfl⟩ (.cons ⟨_, rfl⟩ .nil)))))))))))
    · decide +kernel
    · show 12 ≤ 20; decide
end
end Mine
namespace Mine
open StrLaws Builtin.Str
/-- greedy replacing, on the signs -/
inductive Rps (y z : List Nat) : List Nat → List Nat → Prop
  | nil : Rps y z [] []
  | hit {r o : List Nat} : Rps y z r o → Rps y z (y ++ r) (z ++ o)
  | miss {c : Nat} {r o : List Nat} : ¬ (y <+: c :: r) → Rps y z r o → Rps y z (c :: r) (c :: o)

theorem Rps.det {y z : List Nat} (hy : y ≠ []) {l o₁ : List Nat} (h₁ : Rps y z l o₁) : ∀ {o₂ : List Nat}, Rps y z l o₂ → o₁ = o₂ := by
  induction h₁ with
  | nil =>
    intro o₂ h₂
    generalize e : ([] : List Nat) = l at h₂
    cases h₂ with
    | nil => rfl
    | hit _ => exact absurd (List.append_eq_nil_iff.mp e.symm).1 hy
    | miss _ _ => cases e
  | @hit r o _ ih =>
    intro o₂ h₂
    generalize e : y ++ r = l at h₂
    cases h₂ with
    | nil => exact absurd (List.append_eq_nil_iff.mp e).1 hy
    | hit h => rw [ih ((List.append_cancel_left e) ▸ h)]
    | miss hn _ => exact absurd (e ▸ List.prefix_append y r) hn
  | @miss c r o hn _ ih =>
    intro o₂ h₂
    generalize e : c :: r = l at h₂
    cases h₂ with
    | nil => cases e
    | hit h => exact absurd (e ▸ List.prefix_append y _) hn
    | miss _ h => cases e; rw [ih h]

section
variable {l y z : List Nat}
theorem not_at {k : Nat} (hy : 1 ≤ y.length) (h : ¬ At (sOf l) (sOf y) (sOf l).length k) : ¬ (y <+: l.drop k) := fun hp => h ⟨by
    have h1 := hp.length_le
    rw [List.length_drop] at h1
    rw [sOf_len, sOf_len]
    omega, by
    rw [subAt_eq]
    obtain ⟨r, e⟩ := hp
    show ((l.toArray.toList.drop k).take (sOf y).length == y.toArray.toList) = true
    rw [sOf_len, List.toList_toArray, List.toList_toArray, ← e, List.take_left]
    exact beq_self_eq_true _⟩
theorem miss_to (hy : 1 ≤ y.length) : ∀ (n a : Nat) {o : List Nat}, (∀ k, a ≤ k → k < a + n → ¬ At (sOf l) (sOf y) (sOf l).length k) → a + n ≤ l.length → Rps y z (l.drop (a + n)) o → Rps y z (l.drop a) ((l.drop a).take n ++ o)
  | 0, a, o, _, _, h => by simpa using h
  | n + 1, a, o, hn, hl, h => by
    have ih := miss_to hy n (a + 1) (o := o) (fun k h1 h2 => hn k (by omega) (by omega)) (by omega) (by rw [show a + 1 + n = a + (n + 1) by omega]; exact h)
    have hlt : a < l.length := by omega
    have e := List.drop_eq_getElem_cons hlt
    have h0 := not_at hy (hn a (Nat.le_refl _) (by omega))
    rw [e] at h0 ⊢
    rw [List.take_succ_cons]
    exact .miss h0 ih
theorem join_cons' (sep x : Str) {ts : List Str} (h : ∃ p r, ts = p :: r) : Str.join sep (x :: ts) = x ++ sep ++ Str.join sep ts := by
  obtain ⟨p, r, rfl⟩ := h; rfl
theorem rps_chain (hy : 1 ≤ y.length) : ∀ (cuts : List Nat) (a f : Nat), a ≤ l.length → ChainG (sOf l) (sOf y) (sOf l).length a cuts f → (∀ k, f ≤ k → ¬ At (sOf l) (sOf y) (sOf l).length k) →
    Rps y z (l.drop a) (Str.join (sOf z) (partsFrom (sOf l) (sOf y).length a cuts)).cps.toList
  | [], a, f, hl, hc, hn => by
    have e : f = a := hc
    subst e
    show Rps y z (l.drop f) (strSub (sOf l) f (sOf l).length).cps.toList
    rw [strSub_toList]
    show Rps y z (l.drop f) ((l.toArray.toList.drop f).take ((sOf l).length - f))
    rw [List.toList_toArray, sOf_len]
    have := miss_to (z := z) hy (l.length - f) f (o := []) (fun k h1 _ => hn k h1) (by omega) (by rw [List.drop_of_length_le (by omega)]; exact .nil)
    simpa using this
  | c :: r, a, f, hl, hc, hn => by
    obtain ⟨hac, ⟨hat1, hat2⟩, hgap, hrest⟩ := hc
    rw [sOf_len, sOf_len] at hat1
    have ih := rps_chain hy r (c + (sOf y).length) f (by rw [sOf_len]; exact hat1) hrest hn
    show Rps y z (l.drop a) (Str.join (sOf z) (strSub (sOf l) a c :: partsFrom (sOf l) (sOf y).length (c + (sOf y).length) r)).cps.toList
    rw [join_cons' _ _ (partsFrom_ne _ _ _ _), Str.cps_append, Str.cps_append, Array.toList_append, Array.toList_append, strSub_toList]
    show Rps y z (l.drop a) (((l.toArray.toList.drop a).take (c - a)) ++ z.toArray.toList ++ _)
    rw [List.toList_toArray, List.toList_toArray, List.append_assoc]
    refine miss_to hy (c - a) a (fun k h1 h2 => hgap k h1 (by omega)) (by omega) ?_
    rw [show a + (c - a) = c by omega]
    rw [subAt_eq] at hat2
    have e : (l.drop c).take y.length = y := by
      have := eq_of_beq hat2
      have e2 : (sOf l).cps.toList = l := by simp [sOf]
      have e3 : (sOf y).cps.toList = y := by simp [sOf]
      rw [sOf_len, e2, e3] at this
      exact this
    have e2 : l.drop c = y ++ l.drop (c + y.length) := by
      conv => lhs; rw [← List.take_append_drop y.length (l.drop c), e, List.drop_drop]
    rw [e2]
    rw [sOf_len] at ih ⊢
    exact .hit ih
theorem rep_rps (hy : 1 ≤ y.length) (hk : ∀ c ∈ l, c < 256) (hk2 : ∀ c ∈ y, c < 256) : Rps y z l (rep (sOf l) (sOf y) (sOf z)).cps.toList := by
  have kind : ∀ x : List Nat, (∀ c ∈ x, c < 256) → Builtin.Str.strKind (sOf x) = 1 := by
    intro x hx
    unfold Builtin.Str.strKind
    rw [if_pos]
    show x.toArray.all (fun c => decide (c < 256)) = true
    rw [List.all_toArray]
    exact List.all_eq_true.mpr fun c hc => decide_eq_true (hx c hc)
  have whole : (∀ k, ¬ At (sOf l) (sOf y) (sOf l).length k) → Rps y z l (sOf l).cps.toList := by
    intro hn
    have := miss_to (z := z) hy l.length 0 (o := []) (fun k _ _ => hn k) (by omega) (by rw [List.drop_of_length_le (by omega)]; exact .nil)
    simpa [sOf] using this
  unfold rep Txt.split
  split
  · rename_i h
    rw [kind l hk, kind y hk2] at h
    simp only [sOf_len, Nat.lt_irrefl, decide_false, Bool.or_false, decide_eq_true_eq] at h
    show Rps y z l (sOf l).cps.toList
    refine whole fun k hat => ?_
    have := hat.1
    rw [sOf_len, sOf_len] at this
    omega
  · obtain ⟨f, hc, hn⟩ := occ_tight (sOf l) (sOf y) (by rw [sOf_len]; exact hy)
    split
    · rename_i h
      rw [List.isEmpty_iff] at h
      rw [h] at hc
      have e : f = 0 := hc
      subst e
      exact whole fun k => hn k (Nat.zero_le _)
    · rw [partsBetween_eq]
      have := rps_chain (z := z) hy _ 0 f (Nat.zero_le _) hc hn
      simpa using this
end

/-- the letters -/
noncomputable def letter (n : Int) : Nat := [97, 65, 98, 66, 99, 67].getD n.toNat 0
noncomputable def mix (k : Int) (ns : List Int) : List Nat := (ns.map fun n => if k ≤ n then [letter n] else pieceL n).flatten
noncomputable def wordL (ns : List Int) : List Nat := ns.map letter
theorem letter_big {n : Int} (h : 0 ≤ n ∧ n ≤ 5) : 65 ≤ letter n ∧ letter n < 128 := by
  obtain ⟨h0, h5⟩ := h
  have : n = 0 ∨ n = 1 ∨ n = 2 ∨ n = 3 ∨ n = 4 ∨ n = 5 := by omega
  rcases this with rfl | rfl | rfl | rfl | rfl | rfl <;> decide
theorem pre_blank : ∀ (a b : Nat) {r : List Nat}, (List.replicate a 32 ++ [9] <+: List.replicate b 32 ++ 9 :: r) → a = b
  | 0, 0, _, _ => rfl
  | 0, b + 1, r, h => by
    rw [List.replicate_succ] at h
    have := List.cons_prefix_cons.mp h
    omega
  | a + 1, 0, r, h => by
    rw [List.replicate_succ] at h
    have := List.cons_prefix_cons.mp h
    omega
  | a + 1, b + 1, r, h => by
    rw [List.replicate_succ, List.replicate_succ] at h
    have := (List.cons_prefix_cons.mp h).2
    rw [pre_blank a b this]
theorem rps_short {z r o : List Nat} : ∀ (b a : Nat), b < a → Rps (List.replicate a 32 ++ [9]) z r o → Rps (List.replicate a 32 ++ [9]) z (List.replicate b 32 ++ 9 :: r) (List.replicate b 32 ++ 9 :: o)
  | 0, a, hb, h => .miss (fun hp => by have := pre_blank a 0 hp; omega) h
  | b + 1, a, hb, h => by
    rw [List.replicate_succ]
    refine .miss (fun hp => ?_) (rps_short b a (by omega) h)
    have := pre_blank a (b + 1) (r := r) (by rw [List.replicate_succ]; exact hp)
    omega
theorem rps_mix (k : Int) (h0 : 0 ≤ k) : ∀ ns : List Int, (∀ n ∈ ns, 0 ≤ n ∧ n ≤ 5) → Rps (pieceL k) [letter k] (mix (k + 1) ns) (mix k ns)
  | [], _ => .nil
  | n :: r, hb => by
    have ih := rps_mix k h0 r fun m hm => hb m (.tail _ hm)
    have hn := hb n (.head _)
    show Rps (pieceL k) [letter k] ((if k + 1 ≤ n then [letter n] else pieceL n) ++ mix (k + 1) r) ((if k ≤ n then [letter n] else pieceL n) ++ mix k r)
    by_cases h1 : k + 1 ≤ n
    · rw [if_pos h1, if_pos (by omega)]
      refine .miss (fun hp => ?_) ih
      have hl := letter_big hn
      unfold pieceL at hp
      cases hk : k.toNat with
      | zero =>
        rw [hk] at hp
        have := (List.cons_prefix_cons.mp hp).1
        omega
      | succ j =>
        rw [hk, List.replicate_succ] at hp
        have := (List.cons_prefix_cons.mp hp).1
        omega
    · rw [if_neg h1]
      by_cases h2 : k ≤ n
      · have e : n = k := by omega
        subst e
        rw [if_pos (Int.le_refl _)]
        exact .hit ih
      · rw [if_neg h2]
        unfold pieceL at ih ⊢
        have := rps_short (z := [letter k]) n.toNat k.toNat (by omega) ih
        simpa using this
theorem mix_small {k : Int} {ns : List Int} (hb : ∀ n ∈ ns, 0 ≤ n ∧ n ≤ 5) : ∀ c ∈ mix k ns, c < 256 := by
  intro c hc
  unfold mix at hc
  obtain ⟨l, hl, hcl⟩ := List.mem_flatten.mp hc
  obtain ⟨n, hn, rfl⟩ := List.mem_map.mp hl
  have h := letter_big (hb n hn)
  split at hcl
  · rw [List.mem_singleton.mp hcl]; omega
  · unfold pieceL at hcl
    rcases List.mem_append.mp hcl with h1 | h1
    · rw [List.eq_of_mem_replicate h1]; omega
    · rw [List.mem_singleton.mp h1]; omega
theorem piece_small (k : Int) : ∀ c ∈ pieceL k, c < 256 := by
  intro c hcl
  unfold pieceL at hcl
  rcases List.mem_append.mp hcl with h1 | h1
  · rw [List.eq_of_mem_replicate h1]; omega
  · rw [List.mem_singleton.mp h1]; omega
theorem rep_mix {k : Int} (h0 : 0 ≤ k) {ns : List Int} (hb : ∀ n ∈ ns, 0 ≤ n ∧ n ≤ 5) : rep (sOf (mix (k + 1) ns)) (sOf (pieceL k)) (sOf [letter k]) = sOf (mix k ns) := by
  have hy : 1 ≤ (pieceL k).length := by simp [pieceL]
  have h1 := rep_rps (z := [letter k]) hy (mix_small (k := k + 1) hb) (piece_small k)
  have h2 := rps_mix k h0 ns hb
  have e := h1.det (by intro e; rw [e] at hy; simp at hy) h2
  apply Str.ext'
  apply Array.toList_inj.mp
  rw [e]; simp [sOf]
theorem mix_all {ns : List Int} (hb : ∀ n ∈ ns, 0 ≤ n ∧ n ≤ 5) : mix 6 ns = leadL ns := by
  unfold mix leadL
  congr 1
  refine List.map_congr_left fun n hn => ?_
  rw [if_neg (by have := hb n hn; omega)]
theorem mix_none {ns : List Int} (hb : ∀ n ∈ ns, 0 ≤ n ∧ n ≤ 5) : mix 0 ns = wordL ns := by
  unfold mix wordL
  have : (ns.map fun n => if 0 ≤ n then [letter n] else pieceL n) = ns.map fun n => [letter n] := List.map_congr_left fun n hn => by rw [if_pos (hb n hn).1]
  rw [this]
  induction ns with
  | nil => rfl
  | cons a r ih => simp [ih (fun n hn => hb n (.tail _ hn)) (List.map_congr_left fun n hn => by rw [if_pos (hb n (.tail _ hn)).1])]
theorem reps_word {ns : List Int} (hb : ∀ n ∈ ns, 0 ≤ n ∧ n ≤ 5) :
    reps (sOf (leadL ns)) [(Str.ofString "     \t", Str.ofString "C"), (Str.ofString "    \t", Str.ofString "c"), (Str.ofString "   \t", Str.ofString "B"), (Str.ofString "  \t", Str.ofString "b"), (Str.ofString " \t", Str.ofString "A"), (Str.ofString "\t", Str.ofString "a")] = sOf (wordL ns) := by
  have e5 : Str.ofString "     \t" = sOf (pieceL 5) := by decide +kernel
  have e4 : Str.ofString "    \t" = sOf (pieceL 4) := by decide +kernel
  have e3 : Str.ofString "   \t" = sOf (pieceL 3) := by decide +kernel
  have e2 : Str.ofString "  \t" = sOf (pieceL 2) := by decide +kernel
  have e1 : Str.ofString " \t" = sOf (pieceL 1) := by decide +kernel
  have e0 : Str.ofString "\t" = sOf (pieceL 0) := by decide +kernel
  have l5 : Str.ofString "C" = sOf [letter 5] := by decide +kernel
  have l4 : Str.ofString "c" = sOf [letter 4] := by decide +kernel
  have l3 : Str.ofString "B" = sOf [letter 3] := by decide +kernel
  have l2 : Str.ofString "b" = sOf [letter 2] := by decide +kernel
  have l1 : Str.ofString "A" = sOf [letter 1] := by decide +kernel
  have l0 : Str.ofString "a" = sOf [letter 0] := by decide +kernel
  rw [e5, e4, e3, e2, e1, e0, l5, l4, l3, l2, l1, l0, ← mix_all hb]
  simp only [reps]
  rw [show (6 : Int) = 5 + 1 from rfl, rep_mix (by omega) hb, show (5 : Int) = 4 + 1 from rfl, rep_mix (by omega) hb, show (4 : Int) = 3 + 1 from rfl, rep_mix (by omega) hb, show (3 : Int) = 2 + 1 from rfl, rep_mix (by omega) hb, show (2 : Int) = 1 + 1 from rfl, rep_mix (by omega) hb, show (1 : Int) = 0 + 1 from rfl, rep_mix (by omega) hb, mix_none hb]
end Mine
namespace Mine
noncomputable abbrev envL (cn : Str) (nm : List (Str × NameKind)) (mr : List (Str × Const)) (L a : Addr) (ccd : Value) (cl : List (Str × Addr)) : Env := envX cn { kind := .function, names := nm, isGenerator := false, isCoroutine := false, more := mr } L a ccd cl

noncomputable def TurnPost (h₀ : Heap) (L : Addr) (own : List (Addr × Obj)) (Jn : (Str → Option Value) → List (Addr × Obj) → Prop) (s₁ : Shared) (Q : Flow → Shared → Prop) (f : Flow) (s₂ : Shared) : Prop :=
  match f with
  | .ret v => Q (.ret v) s₂
  | .brk => Q .next s₂
  | _ => Ex4 fun h' tk m' news₂ => And5 (s₂ = { s₁ with heap := h', toks := tk }) (Fr h₀ L h' m') (News h₀ L h' (news₂ ++ own)) (OwnOff own (news₂.map (·.1))) (Jn m' news₂)
theorem TurnPost.next {h₀ : Heap} {L : Addr} {own : List (Addr × Obj)} {Jn : (Str → Option Value) → List (Addr × Obj) → Prop} {s₁ : Shared} {Q : Flow → Shared → Prop} {h' : Heap} {tk : Nat} {m' : Str → Option Value} {news₂ : List (Addr × Obj)}
    (F : Fr h₀ L h' m') (N : News h₀ L h' (news₂ ++ own)) (o : OwnOff own (news₂.map (·.1))) (j : Jn m' news₂) : TurnPost h₀ L own Jn s₁ Q .next { s₁ with heap := h', toks := tk } := ⟨h', tk, m', news₂, rfl, F, N, o, j⟩

theorem src_str {prog : Program} {w : World} {A : Around} {s : Shared} {l : List Nat} {t : Tok} (hh : A.handled = none) (ha : ∀ c ∈ l, c < 128) : Src prog w A (.str (sOf l) t) s [] l (fun c v => IsStr (sOf [c]) v) := by
  intro Q E h
  have hall : (sOf l).cps.all (· < 128) = true := by
    show l.toArray.all (fun c => decide (c < 128)) = true
    rw [List.all_toArray]
    exact List.all_eq_true.mpr fun c hc => decide_eq_true (ha c hc)
  have W := Walks.strAscii (prog := prog) (w := w) hh s.heap.objs.size (sOf l) t
  have hlen : (sOf l).cps.size = l.length := by simp [sOf]
  rw [hlen] at W
  have hfr : s.heap.get? s.heap.objs.size = none := by
    cases e : s.heap.get? s.heap.objs.size with
    | none => rfl
    | some o => exact absurd (Heap.lt_size e) (Nat.lt_irrefl _)
  refine wpAny_pyIter_ascii hall (h s.heap.objs.size _ _ _ _ _ s.toks W ?_ ?_ ⟨_, Heap.get?_push_size _ rfl, rfl, rfl⟩ ?_ (fun b hb => .inl hb) ?_ (fun b o e => Heap.get?_push_of_some _ e))
  · rintro i v a ⟨c, u, hc, rfl⟩ ha'
    have : l[i]? = some c := by simpa [sOf] using hc
    rw [this] at ha'
    cases ha'
    exact ⟨u, rfl⟩
  · rintro i h ⟨o, ho, _⟩ b hb
    rw [List.mem_singleton.mp hb]; exact ⟨o, ho⟩
  · intro b hb
    rw [List.mem_singleton.mp hb, Heap.size_push]; exact Nat.lt_succ_self _
  · intro b hb
    rw [List.mem_singleton.mp hb]; exact hfr

section
variable {prog : Program} {w : World} {A : Around} {E : Value → Shared → Prop} {s : Shared} {env : Env} {h₀ : Heap} {x : Str} {body : List Stmt} {Q : Flow → Shared → Prop}
/-- a for over any iterable whose items are data, by what holds between the turns -/
theorem for_src {α : Type} {as : List α} {K : α → Value → Prop} {xv : Value} {src : List Addr} {m₀ : Str → Option Value} {news₀ : List (Addr × Obj)} (J : Nat → (Str → Option Value) → List (Addr × Obj) → Prop)
    (hsrc : Src prog w A xv s src as K) (hb : ∀ b ∈ src, ∃ o, h₀.get? b = some o) (F : Fr h₀ env.locals s.heap m₀) (N : News h₀ env.locals s.heap news₀) (hj : J 0 m₀ news₀)
    (turn : ∀ i a v m₁ news₁ h tk own, as[i]? = some a → K a v → J i m₁ news₁ → OwnOff own (news₁.map (·.1)) → Fr h₀ env.locals h (fun y => if y = x then some v else m₁ y) → News h₀ env.locals h (news₁ ++ own) →
      wpAny (model prog w) A (execs body env) (TurnPost h₀ env.locals own (J (i + 1)) { s with heap := h, toks := tk } Q) E { s with heap := h, toks := tk })
    (done : ∀ m₁ news₁ h tk, J as.length m₁ news₁ → Fr h₀ env.locals h m₁ → News h₀ env.locals h news₁ → Q .next { s with heap := h, toks := tk }) :
    wpAny (model prog w) A (pyIter xv) (fun it s₂ => LoopAtV prog w A h₀ env x body Q E it s₂) E s := by
  refine hsrc _ _ fun I fp wr P St h₂ tk₂ W hPK hlive hst hfp hsp hwr hk₂ => ?_
  have F2 : Fr h₀ env.locals h₂ m₀ := F.keeps hk₂
  have N2 : News h₀ env.locals h₂ news₀ := N.grown hk₂
  obtain ⟨oL, es, ep, hL, hLr⟩ := id F.ns
  have hLn : h₀.get? env.locals = none := Heap.get?_none_of_le F.above
  have hwr0 : ∀ b ∈ wr, h₀.get? b = none := fun b hw => by
    cases e : h₀.get? b with
    | none => rfl
    | some o => have := F.keep _ _ e; rw [hwr b hw] at this; cases this
  refine ⟨I, fp, wr, as.length, P, St, m₀, news₀, J, rfl, W, ?_, hwr0, ?_, hst, F2, N2, hj, ?_, ?_⟩
  · intro hm
    rcases hsp _ hm with h | h
    · rw [hwr _ h] at hL; cases hL
    · obtain ⟨o, e⟩ := hb _ h; rw [hLn] at e; cases e
  · intro p hp hw
    have := (N p hp).1
    rw [hwr _ hw] at this; cases this
  · rintro i v m₁ news₁ s₁ own ⟨hh', tk', rfl⟩ hin hP hJ hoff hown hol hall hst' F₁ N₁
    obtain ⟨a, ha⟩ : ∃ a, as[i]? = some a := ⟨_, List.getElem?_eq_getElem hin⟩
    have hwo : ∀ p ∈ own, p.1 ∈ wr := fun p hp => by
      rcases hsp _ (hown p hp) with h | h
      · exact h
      · obtain ⟨o, e⟩ := hb _ h
        have := (N₁ p (List.mem_append_left _ hp)).2.2
        rw [e] at this; cases this
    have hsep : OwnOff own (news₁.map (·.1)) := by
      intro p hp b hb' e
      obtain ⟨q, hq, rfl⟩ := List.mem_map.mp hb'
      exact hoff q hq (e ▸ hwo p hp)
    have N₂ : News h₀ env.locals hh' (news₁ ++ own) := fun p hp => N₁ p ((List.mem_append.mp hp).elim (fun h => List.mem_append.mpr (.inr h)) fun h => List.mem_append.mpr (.inl h))
    refine wpAny_mono (turn i a v m₁ news₁ hh' tk' own ha (hPK i v a hP ha) hJ hsep F₁ N₂) (fun f s₂ p => ?_) fun _ _ e => e
    have fin : (Ex4 fun h' tk m' news₂ => And5 (s₂ = { s with heap := h', toks := tk }) (Fr h₀ env.locals h' m') (News h₀ env.locals h' (news₂ ++ own)) (OwnOff own (news₂.map (·.1))) (J (i + 1) m' news₂)) →
        LoopStepU h₀ env.locals wr own (J (i + 1)) { s with heap := hh', toks := tk' } .next s₂ := by
      rintro ⟨h', tk, m', news₂, e, F', N', ho, hm⟩
      refine ⟨rfl, h', tk, m', news₂, e, F', fun p hp => N' p ((List.mem_append.mp hp).elim (fun h => List.mem_append.mpr (.inr h)) fun h => List.mem_append.mpr (.inl h)), fun p hp hw => ?_, hm⟩
      obtain ⟨o, e⟩ := hlive _ _ hst' p.1 hw
      exact ho _ (hall p.1 (W.sub _ hw) (hwr0 _ hw) o e) p.1 (List.mem_map_of_mem hp) rfl
    cases f with
    | ret v => exact LoopStepV.ret p
    | brk => exact LoopStepV.brk p
    | next => exact LoopStepV.next (fin p)
    | cont => exact LoopStepV.cont (fin p)
  · intro h' tk m' news' F' N' _ hJ
    exact done m' news' h' tk hJ F' N'
end
end Mine
namespace Mine
section
variable {prog : Program} {w : World} {A : Around} {E : Value → Shared → Prop} {s : Shared} {h₀ : Heap} {L : Addr} {m : Str → Option Value} {news news' : List (Addr × Obj)}
theorem inplace_seq {a b : Value} {T id : String} {Q : Value → Shared → Prop} (ha : s.TypeIs a T) (hb : s.TypeIs b T)
    (hi : typeLookup (.type T) (dunderI "add") = pure (some (.builtin id))) (his : isSeqSlot (some (.builtin id)) = true) (hfill : fillsNumberSlot (.type T) "add" = pure false)
    (hc : wpAny (model prog w) A (call (.builtin id) [a, b]) Q E s) : wpAny (model prog w) A (inplaceOp .Add a b) Q E s := by
  unfold inplaceOp
  refine wpAny_holding ?_
  have hfi : fillsInplaceSlot (.type T) "add" (Operator.Add == .Add) = pure false := by
    unfold fillsInplaceSlot
    show (typeLookup (.type T) (dunderI "add") >>= fun fi => pure (fi.isSome && !isSeqSlot fi)) = pure false
    rw [hi, pure_bind, his]; rfl
  have hsi : seqSlot? (.type T) (dunderI "add") = pure (some (.builtin id)) := PySem.seqSlot_of hi his
  refine wpAny_bind (wpAny_typeOf ha (wpAny_bind (wpAny_of_eq hfi ?_)))
  show wpAny _ A (if false = true then _ else _) Q E s
  rw [if_neg Bool.false_ne_true]
  refine wpAny_bind (wpAny_binaryOp1_none (nm := "add") ha hb hfill ?_)
  refine wpAny_bind (wpAny_of_eq hsi ?_)
  exact wpAny_bind (wpAny_rule hc)

theorem iadd_K {D b : Addr} {its its2 : Array Value} {n n2 : Nat} {Q : Value → Shared → Prop} (F : Fr h₀ L s.heap m) (N : News h₀ L s.heap news) (hb : (b, W.listOf its2 n2) ∈ news)
    (U : Upd D (W.listOf its n) (W.listOf (its ++ its2) (if (its ++ its2).size == its.size then n else n + 1)) news news')
    (h : ∀ h', Fr h₀ L h' m → News h₀ L h' news' → Q (.ref D) { s with heap := h' }) (hsz : its.size + its2.size ≤ sizeLine) : wpAny (model prog w) A (inplaceOp .Add (.ref D) (.ref b)) Q E s := by
  obtain ⟨pre, post, rfl, rfl, a, c⟩ := U.split
  have z := N (D, W.listOf its n) (List.mem_append.mpr (.inr (.head _)))
  have zb := (N _ hb).1
  refine inplace_seq (T := "list") ⟨_, z.1, rfl⟩ ⟨_, zb, rfl⟩ PySem.F.slot_list_iadd.lookup (by decide +kernel) noFill_list_add ?_
  refine call_meets PySem.F.slot_list_iadd ⟨_, z.1, rfl⟩ PySem.F.entry_list_iadd (PySem.F.args_list_iadd_2 _ _) (AutoSeq1.list___iadd___list_list_0 D its n b its2 n2 (extend_door hsz) (Nat.le_trans (Nat.le_add_right _ _) hsz) (Nat.le_succ_of_le hsz)) ⟨z.1, zb, ?_⟩
  have hs : Heap.SameBut D s.heap (s.heap.update D (Obj.mapSeq fun x => x ++ its2)) := Heap.SameBut.update ..
  exact h _ (F.change hs z.2.1 z.2.2) (news_set N a c hs (by rw [Heap.get?_update_self _ z.1 (by exact rfl)]; rfl))
end
theorem leadL_len {ns : List Int} (hb : ∀ n ∈ ns, 0 ≤ n ∧ n ≤ 5) (h : ns.length ≤ 4) : (sOf (leadL ns)).length ≤ 24 := by
  have : ∀ l : List Int, (∀ n ∈ l, 0 ≤ n ∧ n ≤ 5) → (leadL l).length ≤ 6 * l.length := by
    intro l hl
    induction l with
    | nil => simp [leadL]
    | cons a r ih =>
      have h1 := ih fun n hn => hl n (.tail _ hn)
      have h2 := pieceL_len (hl a (.head _))
      simp only [leadL, List.map_cons, List.flatten_cons, List.length_append, List.length_cons] at *
      omega
  have := this ns hb
  rw [sOf_len]; omega
theorem Gr.inner {w : World} {loose : List Str} {mean : ExcName → Option Value} {mg mb : Str → Option Value} {A : Around} {base g h : Heap} {outer : List Env} {env : Env} {L : Addr} {m : Str → Option Value}
    (B : Below A base outer g) (X : (hd.heap_39 w.params).In g) (T : Top topProg loose mean mg mb g) (F : Fr g L h m) (hh : A.handled = none) (hf : env.frame = some L) (hk : env.scope.kind = .function) :
    Gr w loose mean mg mb (A.deeper env) base (env :: outer) h := ⟨hh, pushX B F hf hk, X.keeps F.keep, T.keeps F.keep⟩

theorem pin1 {m : Str → Option Value} {k : Str} {v : Value} (h : m k = some v) : m = fun y => if y = k then some v else m y := by
  funext y
  by_cases e : y = k
  · subst e; simp [h]
  · simp [e]
theorem six6 {a : Int} (h : 0 ≤ a ∧ a ≤ 5) : a = 0 ∨ a = 1 ∨ a = 2 ∨ a = 3 ∨ a = 4 ∨ a = 5 := by omega
theorem src_down {prog : Program} {w : World} {A : Around} {s : Shared} {r : Addr} {t u v : Tok} (hh : A.handled = none) (hr : IsRange s.heap r 5 (-1) (-1) t u v) : Src prog w A (.ref r) s [] [5, 4, 3, 2, 1, 0] IsInt := by
  intro Q E h
  have W := Walks.range (prog := prog) (w := w) hh s.heap.objs.size 5 (-1) 6
  have hfr : s.heap.get? s.heap.objs.size = none := Heap.get?_none_of_le (Nat.le_refl _)
  refine wpAny_pyIter_range hr (by decide +kernel) ?_
  rw [show Builtin.Range.rangeSize 5 (-1) (-1) = 6 by decide +kernel]
  refine h s.heap.objs.size _ _ _ _ _ s.toks W ?_ ?_ ?_ ?_ (fun b hb => .inl hb) ?_ (fun b o e => Heap.get?_push_of_some _ e)
  · rintro i v a ⟨t, rfl⟩ ha
    refine ⟨t, ?_⟩
    have hi := (List.getElem?_eq_some_iff.mp ha).1
    have e : a = 5 + (i : Int) * -1 := by
      have : i = 0 ∨ i = 1 ∨ i = 2 ∨ i = 3 ∨ i = 4 ∨ i = 5 := by simp only [List.length_cons, List.length_nil] at hi; omega
      rcases this with rfl | rfl | rfl | rfl | rfl | rfl <;> cases ha <;> rfl
    rw [e]
  · rintro i h ho b hb
    rw [List.mem_singleton.mp hb]; exact ⟨_, ho⟩
  · have : IsRangeIter (s.heap.push { cls := .type "range_iterator", data := .fields #[rawInt 5, rawInt 6, rawInt (-1)] }) s.heap.objs.size 5 6 (-1) := Heap.get?_push_size _ rfl
    simpa using this
  · intro b hb
    rw [List.mem_singleton.mp hb, Heap.size_push]; exact Nat.lt_succ_self _
  · intro b hb
    rw [List.mem_singleton.mp hb]; exact hfr
theorem it_letter {prog : Program} {w : World} {A : Around} {E : Value → Shared → Prop} {s : Shared} {a : Int} {t ui : Tok} {value slice : Expr} {Q : Value → Shared → Prop} (ha : 0 ≤ a ∧ a ≤ 5) (h : Q (.str (sOf [letter a]) s.toks) { s with toks := s.toks + 1 })
    (hs : subscripted slice false (.str (Str.ofString "aAbBcC") t) (.int a ui) = operate [.str (Str.ofString "aAbBcC") t, .int a ui] (getItem (.str (Str.ofString "aAbBcC") t) (.int a ui)))
    (ht : ∀ r, letTemporaryGo value (.str (Str.ofString "aAbBcC") t) r = pure ()) : wpAny (model prog w) A (subscriptTail value slice (.str (Str.ofString "aAbBcC") t) (.int a ui)) Q E s := by
  have hl : (Str.ofString "aAbBcC").length = 6 := by decide +kernel
  refine item_str (fitsSsize_of (N := 9223372036854775808) (by omega) (by omega) (Int.le_refl _)) (by rw [hl]; omega) (by rw [hl]; omega) (fun _ => ?_) hs ht
  rw [show Txt.item (Str.ofString "aAbBcC") a = sOf [letter a] from ?_]
  · exact h
  · rcases six6 ha with rfl | rfl | rfl | rfl | rfl | rfl <;> decide +kernel
noncomputable def texts (z : Int) : List Str := [Txt.mul (Str.ofString " ") z ++ Str.ofString "\t", sOf [letter z]]
theorem texts_all : [5, 4, 3, 2, 1, 0].flatMap texts = [Str.ofString "     \t", Str.ofString "C", Str.ofString "    \t", Str.ofString "c", Str.ofString "   \t", Str.ofString "B", Str.ofString "  \t", Str.ofString "b", Str.ofString " \t", Str.ofString "A", Str.ofString "\t", Str.ofString "a"] := by decide +kernel
theorem pin2 {m : Str → Option Value} {k1 k2 : Str} {v1 v2 : Value} (h1 : m k1 = some v1) (h2 : m k2 = some v2) : m = fun y => if y = k1 then some v1 else if y = k2 then some v2 else m y :=
  (pin1 h1).trans (congrArg (fun f y => if y = _ then _ else f y) (pin1 h2))
theorem pin3 {m : Str → Option Value} {k1 k2 k3 : Str} {v1 v2 v3 : Value} (h1 : m k1 = some v1) (h2 : m k2 = some v2) (h3 : m k3 = some v3) : m = fun y => if y = k1 then some v1 else if y = k2 then some v2 else if y = k3 then some v3 else m y :=
  (pin1 h1).trans (congrArg (fun f y => if y = _ then _ else f y) ((pin1 h2).trans (congrArg (fun f y => if y = _ then _ else f y) (pin1 h3))))
theorem pin4 {m : Str → Option Value} {k1 k2 k3 k4 : Str} {v1 v2 v3 v4 : Value} (h1 : m k1 = some v1) (h2 : m k2 = some v2) (h3 : m k3 = some v3) (h4 : m k4 = some v4) : m = fun y => if y = k1 then some v1 else if y = k2 then some v2 else if y = k3 then some v3 else if y = k4 then some v4 else m y :=
  (pin1 h1).trans (congrArg (fun f y => if y = _ then _ else f y) ((pin1 h2).trans (congrArg (fun f y => if y = _ then _ else f y) ((pin1 h3).trans (congrArg (fun f y => if y = _ then _ else f y) (pin1 h4))))))
theorem pin7 {m : Str → Option Value} {k1 k2 k3 k4 k5 k6 k7 : Str} {v1 v2 v3 v4 v5 v6 v7 : Value} (h1 : m k1 = some v1) (h2 : m k2 = some v2) (h3 : m k3 = some v3) (h4 : m k4 = some v4) (h5 : m k5 = some v5) (h6 : m k6 = some v6) (h7 : m k7 = some v7) : m = fun y => if y = k1 then some v1 else if y = k2 then some v2 else if y = k3 then some v3 else if y = k4 then some v4 else if y = k5 then some v5 else if y = k6 then some v6 else if y = k7 then some v7 else m y :=
  (pin1 h1).trans (congrArg (fun f y => if y = _ then _ else f y) ((pin1 h2).trans (congrArg (fun f y => if y = _ then _ else f y) ((pin1 h3).trans (congrArg (fun f y => if y = _ then _ else f y) ((pin1 h4).trans (congrArg (fun f y => if y = _ then _ else f y) ((pin1 h5).trans (congrArg (fun f y => if y = _ then _ else f y) ((pin1 h6).trans (congrArg (fun f y => if y = _ then _ else f y) (pin1 h7))))))))))))
theorem pin8 {m : Str → Option Value} {k1 k2 k3 k4 k5 k6 k7 k8 : Str} {v1 v2 v3 v4 v5 v6 v7 v8 : Value} (h1 : m k1 = some v1) (h2 : m k2 = some v2) (h3 : m k3 = some v3) (h4 : m k4 = some v4) (h5 : m k5 = some v5) (h6 : m k6 = some v6) (h7 : m k7 = some v7) (h8 : m k8 = some v8) : m = fun y => if y = k1 then some v1 else if y = k2 then some v2 else if y = k3 then some v3 else if y = k4 then some v4 else if y = k5 then some v5 else if y = k6 then some v6 else if y = k7 then some v7 else if y = k8 then some v8 else m y :=
  (pin1 h1).trans (congrArg (fun f y => if y = _ then _ else f y) ((pin1 h2).trans (congrArg (fun f y => if y = _ then _ else f y) ((pin1 h3).trans (congrArg (fun f y => if y = _ then _ else f y) ((pin1 h4).trans (congrArg (fun f y => if y = _ then _ else f y) ((pin1 h5).trans (congrArg (fun f y => if y = _ then _ else f y) ((pin1 h6).trans (congrArg (fun f y => if y = _ then _ else f y) ((pin1 h7).trans (congrArg (fun f y => if y = _ then _ else f y) (pin1 h8))))))))))))))
theorem paired_app {α β : Type} {F : α → β → Prop} : ∀ {l₁ l₁' : List α} {l₂ l₂' : List β}, Paired F l₁ l₂ → Paired F l₁' l₂' → Paired F (l₁ ++ l₁') (l₂ ++ l₂')
  | _, _, _, _, .nil, h => h
  | _, _, _, _, .cons x t, h => .cons x (paired_app t h)
section
variable {w : World} {loose : List Str} {mean : ExcName → Option Value} {mg mb : Str → Option Value} {A : Around} {base : Heap} {outer : List Env} {s : Shared} {Q E : Value → Shared → Prop}
set_option maxHeartbeats 8000000 in
theorem word_call {l : Addr} {vs : List Value} {ns : List Int} (G : Gr w loose mean mg mb A base outer s.heap)
    (hd : A.depth + 2 < recursionLimit) (hu : A.units + 16 < cLine) (hl : s.heap.IsList l vs.toArray) (hi : Paired IsInt ns vs) (hb : ∀ n ∈ ns, 0 ≤ n ∧ n ≤ 5) (hlen : ns.length ≤ 4)
    (hret : ∀ t h' tk', Kp s.heap h' → Q (.str (sOf (wordL ns)) t) { s with heap := h', toks := tk' }) :
    wpAny (model PySem.Challenge.rw_pk0111_01.row.prog w) A (call (.ref 132) [.ref l]) Q E s := by
  w_top off
  obtain ⟨hdl, dp, fr, gd, un⟩ := A
  obtain ⟨hh, B, X, T⟩ := G
  have hs := B.stack
  dsimp only at hh hs hd hu
  subst hh hs
  revert X; k_fill; intro X
  refine wpAny_call ?_
  k_dflt (refine' code_pure ?k1 ?k2 ?k3 ?k6 ?k7 ?k8 ?k9 ?kB ?_ ?c2 ?c3 ?c4 ?c5; (case k1 => k_asm); (case k2 => k_asm); (case k3 => k_asm);(case k6 => k_is); (case k7 => k_is); (case k8 => ktr_room); (case k9 => exact BindsTo.of_eq rfl); (case c5 => decide); (case kB => exact locs rfl); (case c2 => exact rfl); (case c3 => exact rfl); (case c4 => exact rfl))
  rintro _ L' h' rfl F' N' B' X' T'
  (try dsimp only); (try k_fold)
  repeat' (first | (k_unfold; (try dsimp only)) | ((fail_if_success (with_reducible show wpAny _ _ (pyIter _) _ _ _)); first | walk1 | (dsimp only; walk1)))
  rename (IsRange _ _ _ _ _ _ _ _) => hrg
  rename Fr _ _ _ _ => F6
  rename News _ _ _ _ => N6
  rename_i D0 _ _ _ _ _ _ _ _ _ _ _
  refine for_src (as := [5, 4, 3, 2, 1, 0]) (K := IsInt) (fun i m₁ news₁ => Ex2 fun its k => And4 (news₁ = [(D0, W.listOf (List.toArray its) k)]) (Paired IsStr (([5, 4, 3, 2, 1, 0].take i).flatMap texts) its) (m₁ (Str.ofString "pairs") = some (.ref D0)) (m₁ (Str.ofString "runs") = some (.ref l))) (src_down rfl hrg) (fun _ h => nomatch h) F6 N6 ?_ ?_ ?_
  · exact ⟨[], _, rfl, .nil, rfl, rfl⟩
  · clear F6 N6
    rintro i a v m₁ news₁ h₁ tk₁ own hi' ⟨ta, rfl⟩ ⟨its, k, rfl, hP, mp, mr⟩ hoff F5 N5
    rw [pin2 mp mr] at F5
    clear mp mr
    have ha : 0 ≤ a ∧ a ≤ 5 := by
      have := List.mem_of_getElem? hi'
      simp only [List.mem_cons, List.not_mem_nil, or_false] at this
      omega
    have hi6 := (List.getElem?_eq_some_iff.mp hi').1
    have htk : [5, 4, 3, 2, 1, 0].take (i + 1) = [5, 4, 3, 2, 1, 0].take i ++ [a] := by rw [List.take_add_one, hi']; rfl
    have hil : its.length ≤ 12 := by
      have e := paired_len hP
      have : ∀ l : List Int, (l.flatMap texts).length = 2 * l.length := by
        intro l
        induction l with
        | nil => rfl
        | cons x r ih => rw [List.flatMap_cons, List.length_append, ih, List.length_cons]; show 2 + _ = _; omega
      rw [this, List.length_take] at e
      simp only [List.length_cons, List.length_nil] at hi6 e
      omega
    simp only [List.cons_append, List.nil_append] at N5
    repeat' (first | (k_unfold; (try dsimp only)) | ((fail_if_success (with_reducible show wpAny _ _ (subscriptTail _ _ (Value.str _ _) (Value.int _ _)) _ _ _)); first | walk1 | (dsimp only; walk1)))
    refine it_letter ha ?_ (by with_unfolding_all rfl) (by intro _; with_unfolding_all rfl)
    try dsimp only
    repeat' (first | (k_unfold; (try dsimp only)) | ((fail_if_success (with_reducible show wpAny _ _ (inplaceOp _ _ _) _ _ _)); first | walk1 | (dsimp only; walk1)))
    rename Fr _ _ _ _ => F7
    rename News _ _ _ _ => N7
    rename (_ ∧ AllLt _ own) => l1
    have hroD : ∀ p ∈ own, p.1 ≠ D0 := fun p hp => hoff p hp D0 (.head _)
    refine iadd_K F7 N7 (.head _) (Upd.tail (Nat.ne_of_gt l1.1) (Upd.head hroD)) ?_ (by rw [sizeLine_eq, List.size_toArray]; show its.length + 2 ≤ _; omega)
    intro h8 F8 N8
    try dsimp only
    repeat' (first | (k_unfold; (try dsimp only)) | (first | walk1 | (dsimp only; walk1)))
    rename Fr _ _ _ _ => F9
    rename News _ _ _ _ => N9
    rw [List.append_toArray] at N9
    refine TurnPost.next (news₂ := [_]) F9 (fun p hp => N9 p (.tail _ hp)) hoff ⟨_, _, rfl, ?_, rfl, rfl⟩
    rw [htk, List.flatMap_append]
    exact paired_app hP (.cons ⟨_, rfl⟩ (.cons ⟨_, rfl⟩ .nil))
  · clear F6 N6
    rintro m₁ news₁ h₁ tk₁ ⟨its, k, rfl, hP, mp, mr⟩ F5 N5
    rw [pin2 mp mr] at F5
    clear mp mr hrg
    have hP2 : Paired IsStr ([5, 4, 3, 2, 1, 0].flatMap texts) its := hP
    rw [texts_all] at hP2
    clear hP
    obtain _ | ⟨⟨t1, rfl⟩, hP2⟩ := hP2
    obtain _ | ⟨⟨t2, rfl⟩, hP2⟩ := hP2
    obtain _ | ⟨⟨t3, rfl⟩, hP2⟩ := hP2
    obtain _ | ⟨⟨t4, rfl⟩, hP2⟩ := hP2
    obtain _ | ⟨⟨t5, rfl⟩, hP2⟩ := hP2
    obtain _ | ⟨⟨t6, rfl⟩, hP2⟩ := hP2
    obtain _ | ⟨⟨t7, rfl⟩, hP2⟩ := hP2
    obtain _ | ⟨⟨t8, rfl⟩, hP2⟩ := hP2
    obtain _ | ⟨⟨t9, rfl⟩, hP2⟩ := hP2
    obtain _ | ⟨⟨t10, rfl⟩, hP2⟩ := hP2
    obtain _ | ⟨⟨t11, rfl⟩, hP2⟩ := hP2
    obtain _ | ⟨⟨t12, rfl⟩, hP2⟩ := hP2
    cases hP2
    try dsimp only
    repeat' (first | (k_unfold; (try dsimp only)) | ((fail_if_success (with_reducible show wpAny _ _ (call (Value.ref _) _) _ _ _)); first | walk1 | (dsimp only; walk1)))
    rename Fr _ _ _ _ => F9
    rename News _ _ _ _ => N9
    refine lead_call (Gr.inner B' X' T' F9 rfl rfl rfl) (by show dp + 1 + 1 < _; omega) (by show un + 3 + 8 < _; omega) (hl.at fun o e => F9.keep _ o e) hi hb hlen ?_
    intro t h8 tk8 hk8
    have F8 := F9.keeps hk8
    have N8 := N9.grown hk8
    clear F9 N9
    try dsimp only at F8 N8 ⊢
    repeat' (first | (k_unfold; (try dsimp only)) | ((fail_if_success (with_reducible show wpAny _ _ (call (Value.ref _) _) _ _ _)); first | walk1 | (dsimp only; walk1)))
    show wpAny _ _ (call (Value.ref 28) [.str _ _, .str _ _, .str _ _, .str _ _, .str _ _, .str _ _, .str _ _, .str _ _, .str _ _, .str _ _, .str _ _, .str _ _, .str _ _]) _ _ _
    rename Fr _ _ _ _ => F7
    k_dflt (refine replace_call B' F7 X' T' rfl rfl ?_ ?_ (leadL_len hb hlen) ?_)
    · show dp + 1 + 1 < _; omega
    · show un + 3 + 8 < _; omega
    · intro t' h7 tk7 F6
      rw [reps_word hb]
      k_unfold
      try dsimp only
      exact hret _ _ _ F6.keep
end
end Mine
namespace Mine
structure WSt where
  count : List Int
  b : Int
  n : Int
  nt : Int
noncomputable def bump (cs : List Int) (b : Nat) : List Int := (cs ++ List.replicate (b + 1 - cs.length) 0).set b ((cs ++ List.replicate (b + 1 - cs.length) 0).getD b 0 + 1)
noncomputable def wsStep (st : WSt) (c : Nat) : WSt := if c = 32 then ⟨st.count, st.b + 1, st.n + 1, st.nt⟩ else ⟨bump st.count st.b.toNat, 0, st.n + 1, st.nt + 1⟩
noncomputable def wsRun (l : List Nat) : WSt := l.foldl wsStep ⟨[], 0, 0, 0⟩
theorem wsRun_succ {l : List Nat} {i c : Nat} (h : l[i]? = some c) : wsRun (l.take (i + 1)) = wsStep (wsRun (l.take i)) c := by
  rw [List.take_add_one, h]; simp [wsRun, List.foldl_append]
theorem led_tail {P : Prop} {g h : Heap} {L : Addr} {p : Addr × Obj} {rest : List (Addr × Obj)} (N : News g L h (p :: rest)) (k : ∀ rest', rest = rest' → News g L h (p :: rest') → P) : P := k rest rfl N
theorem pin {m : Str → Option Value} {k : Str} {v : Value} (h : m k = some v) : m = fun y => if y = k then some v else m y := by
  funext y
  by_cases e : y = k
  · subst e; simp [h]
  · simp [e]
theorem all_take {l : List Nat} {i c : Nat} (h : l[i]? = some c) (hc : c = 32 ∨ c = 9) (ha : ∀ c ∈ l.take i, c = 32 ∨ c = 9) : ∀ c ∈ l.take (i + 1), c = 32 ∨ c = 9 := by
  intro d hd
  rw [List.take_add_one, h] at hd
  rcases List.mem_append.mp hd with h1 | h1
  · exact ha d h1
  · simp at h1; subst h1; exact hc
theorem drop3 {g h : Heap} {L : Addr} {p a b c : Addr × Obj} {r : List (Addr × Obj)} (N : News g L h (p :: a :: b :: c :: r)) : News g L h (p :: r) := fun q hq => N q (by
  rcases hq with _ | ⟨_, hq⟩
  · exact .head _
  · exact .tail _ (.tail _ (.tail _ (.tail _ hq))))
theorem allLt_mem {d : Addr} {l : List (Addr × Obj)} (h : AllLt d l) (p : Addr × Obj) (m : p ∈ l) : p.1 < d := by
  induction l with
  | nil => cases m
  | cons q r ih =>
    rcases List.mem_cons.mp m with rfl | m
    · exact h.1
    · exact ih h.2 m
theorem news_ne {g h : Heap} {L : Addr} {news : List (Addr × Obj)} (N : News g L h news) {a b : Addr} {o o' : Obj} (ha : (a, o) ∈ news) (hb : (b, o') ∈ news) (hne : o.cls ≠ o'.cls) : @Ne Nat a b := by
  rintro rfl
  have h1 := (N _ ha).1
  have h2 := (N _ hb).1
  dsimp only at h1 h2
  rw [h1] at h2
  cases h2
  exact hne rfl
theorem wsStep_tab {cs : List Int} {b n nt : Int} (h0 : 0 ≤ b) (h : (cs.length : Int) ≤ b) : wsStep ⟨cs, b, n, nt⟩ 9 = ⟨(cs ++ (List.replicate (b - cs.length + 1).toNat [(0 : Int)]).flatten).set b.toNat ((cs ++ (List.replicate (b - cs.length + 1).toNat [(0 : Int)]).flatten).getD b.toNat 0 + 1), 0, n + 1, nt + 1⟩ := by
  have e : (List.replicate (b - cs.length + 1).toNat [(0 : Int)]).flatten = List.replicate (b.toNat + 1 - cs.length) 0 := by
    rw [List.flatten_replicate_singleton]; congr 1; omega
  rw [e]; rfl
theorem wsStep_tab' {cs : List Int} {b n nt : Int} (h0 : 0 ≤ b) (h : ¬ (cs.length : Int) ≤ b) : wsStep ⟨cs, b, n, nt⟩ 9 = ⟨cs.set b.toNat (cs.getD b.toNat 0 + 1), 0, n + 1, nt + 1⟩ := by
  have e : b.toNat + 1 - cs.length = 0 := by omega
  show (⟨bump cs b.toNat, 0, n + 1, nt + 1⟩ : WSt) = _
  unfold bump
  rw [e]; simp

/-- enter a def over any smaller heap g, with a ledger of objects that stand beside g -/
theorem code_over {w : World} {A : Around} {s : Shared} {K : Frag} {base g : Heap} {outer : List Env} {p : Program} {loose : List Str} {mean : ExcName → Option Value} {mg mb : Str → Option Value} {objs : List (Addr × Obj)}
    {R : Result → Shared → Prop} {name qual : Str} {params : Arguments} {body : List Stmt} {scope : Scope} {dV kV doc pm cdv ct oc : Value} {an od : Option Addr} {osl : Array (Option Value)} {f : Addr} {args : Args} {binds : List (Str × Value)}
    (B : Below A base outer g) (X : K.In g) (T : Top p loose mean mg mb g) (hg : Kp g s.heap) (hsz : g.objs.size ≤ s.heap.objs.size) (hN : Fresh g s.heap objs)
    (ho : K.lookup f = some ⟨oc, od, .func (fnOf name qual params body scope dV kV doc pm an cdv ct), osl⟩) (hcd : codeIn K cdv qual = true) (hroom : A.depth < recursionLimit)
    (hbind : BindsTo s (fnOf name qual params body scope dV kV doc pm an cdv ct) args binds) (hloc : ∀ y ∈ binds, scope.names.lookup y.1 = some .local)
    (h : ∀ L' h₁, Kp s.heap h₁ → s.heap.get? L' = none → Fr g L' h₁ (fun y => binds.reverse.lookup y) → News g L' h₁ objs → Below A base outer g → K.In g → Top p loose mean mg mb g →
      wpAny (model PySem.Challenge.rw_pk0111_01.row.prog w) (A.deeper (envOf qual scope L' f cdv)) (execs body (envOf qual scope L' f cdv))
        (fun fl s' => R (.ok (.ret (match fl with | .ret v => v | _ => .none))) s') (fun _ _ => False)
        { s with heap := h₁, toks := s.toks + binds.length })
    (hco : scope.isCoroutine = false) (hgen : scope.isGenerator = false) (hk : scope.kind = .function)
    (hcell : ∀ x ∈ scope.names, x.2 ≠ .cell) : codeAny (model PySem.Challenge.rw_pk0111_01.row.prog w) A (.call (.ref f) args) R s := by
  have X' := X.keeps hg
  have T' := T.keeps hg
  refine codeAny_call_def (fd := fnOf name qual params body scope dV kV doc pm an cdv ct) (body := body) (binds := binds) hroom (X' _ _ ho) rfl T'.nolimit (codeRec_of X' hcd) rfl hbind hcell hloc (fun h₁ hns hk₁ => ?_) hco hgen hk
  have hL : s.heap.get? s.heap.objs.size = none := Heap.get?_none_of_le (Nat.le_refl _)
  refine wpAny_mono (h s.heap.objs.size h₁ hk₁ hL ⟨hns, fun b o e => hk₁ b o (hg b o e), hsz⟩ (fun p hp => ⟨hk₁ _ _ (hN p hp).1, ?_, (hN p hp).2⟩) B X T) (fun _ _ x => x) (fun _ _ x => x.elim)
  intro e
  have := (hN p hp).1
  rw [e, hL] at this
  cases this

theorem init_pure {w : World} {A : Around} {s : Shared} {K : Frag} {base : Heap} {outer : List Env} {p : Program} {loose : List Str} {mean : ExcName → Option Value} {mg mb : Str → Option Value} {C : Addr} {Q E : Value → Shared → Prop}
    {name qual : Str} {params : Arguments} {body : List Stmt} {scope : Scope} {dV kV doc pm cdv ct oc : Value} {an od : Option Addr} {osl : Array (Option Value)} {f : Addr} {rest : List Value} {binds : Addr → List (Str × Value)}
    (B : Below A base outer s.heap) (X : K.In s.heap) (T : Top p loose mean mg mb s.heap) (hm : makesIn K C = true) (hi : findIn K (.ref C) "__init__" = some (some (.ref f))) (hf : isFn K (.ref f) = true)
    (ho : K.lookup f = some ⟨oc, od, .func (fnOf name qual params body scope dV kV doc pm an cdv ct), osl⟩) (hcd : codeIn K cdv qual = true) (hroom : (A.under (.builtin "type.__call__" ⟨.ref C :: rest, []⟩)).depth < recursionLimit)
    (hbind : ∀ x s, BindsTo s (fnOf name qual params body scope dV kV doc pm an cdv ct) ⟨.ref x :: rest, []⟩ (binds x)) (hloc : ∀ x, ∀ y ∈ binds x, scope.names.lookup y.1 = some .local)
    (h : ∀ g x dx L' h₁, g = s.heap → @LT.lt Nat _ dx x → Fr g L' h₁ (fun y => (binds x).reverse.lookup y) → News g L' h₁ [(x, instObj C dx), (dx, dictOf [] 0)] → Below (A.under (.builtin "type.__call__" ⟨.ref C :: rest, []⟩)) base outer g → K.In g → Top p loose mean mg mb g →
      wpAny (model PySem.Challenge.rw_pk0111_01.row.prog w) ((A.under (.builtin "type.__call__" ⟨.ref C :: rest, []⟩)).deeper (envOf qual scope L' f cdv)) (execs body (envOf qual scope L' f cdv))
        (fun fl s' => fl = .next ∧ Q (.ref x) s') (fun _ _ => False)
        { s with heap := h₁, toks := s.toks + (binds x).length })
    (hco : scope.isCoroutine = false) (hgen : scope.isGenerator = false) (hk : scope.kind = .function)
    (hcell : ∀ x ∈ scope.names, x.2 ≠ .cell) : wpAny (model PySem.Challenge.rw_pk0111_01.row.prog w) A (call (.ref C) rest) Q E s := by
  refine wpAny_call ?_
  obtain ⟨hh, g, d, t, os⟩ := s
  dsimp only at *
  refine make_core (makes_of X hm) (looks_findIn X hi) (fun self => bind_fn X self (beq_iff_eq.mp hf)) (.inl rfl) ?_
  have k : Kp hh ((hh.push emptyDict).push (instObj C hh.objs.size)) := fun b o e => Heap.get?_push_of_some _ (Heap.get?_push_of_some _ e)
  have hx : ((hh.push emptyDict).push (instObj C hh.objs.size)).get? (hh.objs.size + 1) = some (instObj C hh.objs.size) := by heap_get
  have hd : ((hh.push emptyDict).push (instObj C hh.objs.size)).get? hh.objs.size = some emptyDict := by heap_get
  refine code_over (g := hh) (objs := [(hh.objs.size + 1, instObj C hh.objs.size), (hh.objs.size, dictOf [] 0)]) (B := ⟨B.stack, B.stays, B.frames⟩) X T k ?_ ?_ ho hcd hroom (hbind _ _) (hloc _) (fun L' h₁ hk₁ hL' F N B' X' T' => ?_) hco hgen hk hcell
  · show _ ≤ ((hh.push emptyDict).push (instObj C hh.objs.size)).objs.size
    rw [Heap.size_push, Heap.size_push]; omega
  · intro p hp
    rcases hp with _ | ⟨_, _ | ⟨_, hp⟩⟩
    · exact ⟨hx, Heap.get?_none_of_le (Nat.le_succ _)⟩
    · exact ⟨hd, Heap.get?_none_of_le (Nat.le_refl _)⟩
    · cases hp
  · refine wpAny_mono (h hh _ _ L' h₁ rfl (Nat.lt_succ_self _) F N B' X' T') (fun fl s' q => ?_) (fun _ _ h => h)
    obtain ⟨rfl, q⟩ := q
    exact ⟨rfl, q⟩

/-- a Whitespace object: what it is made of -/
noncomputable def WsObj (P : Params) (R : Addr → Obj → Prop) (x : Addr) (cs : List Int) (b nt : Int) : Prop :=
  Ex14 fun d p q its v1 v2 v5 t1 t2 t3 t4 t5 tb tt => And5 (R x (instObj 97 d)) (R d (dictOf [⟨PyData.keyHash P (Str.ofString "raw"), .str (Str.ofString "raw") t1, v1⟩, ⟨PyData.keyHash P (Str.ofString "n"), .str (Str.ofString "n") t2, v2⟩, ⟨PyData.keyHash P (Str.ofString "nt"), .str (Str.ofString "nt") t3, .int nt tt⟩, ⟨PyData.keyHash P (Str.ofString "norm"), .str (Str.ofString "norm") t4, .ref p⟩, ⟨PyData.keyHash P (Str.ofString "is_simple"), .str (Str.ofString "is_simple") t5, v5⟩] 5)) (R p { cls := .type "tuple", data := .seq #[.ref q, .int b tb] }) (R q { cls := .type "tuple", data := .seq its.toArray }) (IntsAre its cs)
section
variable {w : World} {loose : List Str} {mean : ExcName → Option Value} {mg mb : Str → Option Value} {A : Around} {base : Heap} {outer : List Env} {s : Shared} {Q E : Value → Shared → Prop}
set_option maxHeartbeats 8000000 in
theorem ws_call {l : List Nat} {t : Tok} (G : Gr w loose mean mg mb A base outer s.heap)
    (hd : A.depth + 2 < recursionLimit) (hu : A.units + 16 < cLine) (hx : l.length ≤ 24) (hl : ∀ c ∈ l, c = 32 ∨ c = 9) (hb6 : ∀ i, 0 ≤ (wsRun (l.take i)).b ∧ (wsRun (l.take i)).b ≤ 5) (hc6 : ∀ i, (wsRun (l.take i)).count.length ≤ 6)
    (hret : ∀ x h' tk' objs, Kp s.heap h' → Fresh s.heap h' objs → WsObj w.params (fun a o => (a, o) ∈ objs) x (wsRun l).count (wsRun l).b (wsRun l).nt → Q (.ref x) { s with heap := h', toks := tk' }) :
    wpAny (model PySem.Challenge.rw_pk0111_01.row.prog w) A (call (.ref 97) [.str (sOf (l ++ [120])) t]) Q E s := by
  w_top off
  obtain ⟨hdl, dp, fr, gd, un⟩ := A
  obtain ⟨hh, B, X, T⟩ := G
  have hs := B.stack
  dsimp only at hh hs hd hu
  subst hh hs
  revert X; k_fill; intro X
  k_dflt (refine' init_pure ?k1 ?k2 ?k3 ?m1 ?m2 ?m3 ?k6 ?k7 ?k8 ?k9 ?kB ?_ ?c2 ?c3 ?c4 ?c5; (case k1 => k_asm); (case k2 => k_asm); (case k3 => k_asm); (case m1 => k_is); (case m2 => k_is); (case m3 => k_is); (case k6 => k_is); (case k7 => k_is); (case k8 => ktr_room); (case k9 => (intro _ _; exact BindsTo.of_eq rfl)); (case c5 => decide); (case kB => (intro _; exact locs rfl)); (case c2 => exact rfl); (case c3 => exact rfl); (case c4 => exact rfl))
  rintro _ x' d' L' h' rfl lxd F' N' B' X' T'
  (try dsimp only); (try k_fold)
  repeat' (first | (k_unfold; (try dsimp only)) | ((fail_if_success (with_reducible show wpAny _ _ (pyIter _) _ _ _)); first | walk1 | (dsimp only; walk1)))
  rename_i D' _ lD _ _ _ _ D0 _ lD0 _ _ _ _ F5 N5
  refine led_tail N5 ?_
  clear N5
  intro rest hrest N5
  refine for_src (as := l ++ [120]) (K := fun c v => IsStr (sOf [c]) v) (fun i m₁ news₁ => Ex10 fun D its k cs b n nt tb tn tnt => And14 (wsRun ((l ++ [120]).take i) = ⟨cs, b, n, nt⟩) ((∀ c ∈ (l ++ [120]).take i, c = 32 ∨ c = 9)) (D' < D) (x' < D) (d' < D) (news₁ = (D, W.listOf its.toArray k) :: rest) (IntsAre its cs) (m₁ (Str.ofString "S") = some (.str (Str.ofString " ") 230)) (m₁ (Str.ofString "T") = some (.str (Str.ofString "\t") 231)) (m₁ (Str.ofString "self") = some (.ref x')) (m₁ (Str.ofString "count") = some (.ref D)) (m₁ (Str.ofString "b") = some (.int b tb)) (m₁ (Str.ofString "n") = some (.int n tn)) (m₁ (Str.ofString "nt") = some (.int nt tnt))) (src_str rfl ?_) (fun _ h => nomatch h) F5 N5 ?_ ?_ ?_
  · intro c hc
    rcases List.mem_append.mp hc with h | h
    · rcases hl c h with rfl | rfl <;> decide
    · rw [List.mem_singleton.mp h]; decide
  · exact ⟨D0, [], 0, [], 0, 0, 0, _, _, _, rfl, (fun c hc => by simp at hc), lD0.1, lD0.2.1, lD0.2.2, rfl, .nil, rfl, rfl, rfl, rfl, rfl, rfl, rfl⟩
  · clear F5 N5
    rintro i c v m₁ news₁ h₁ tk₁ own hi ⟨tv, rfl⟩ ⟨D, its, k, cs, b, n, nt, tb, tn, tnt, hrun, hall, o1, o2, o3, rfl, hp, mS, mT, mself, mc, mb', mn, mnt⟩ hoff F5 N5
    rw [pin7 mS mT mself mc mb' mn mnt] at F5
    have hil : i ≤ l.length := by
      have := (List.getElem?_eq_some_iff.mp hi).1
      simp only [List.length_append, List.length_singleton] at this
      omega
    have hti : (l ++ [120]).take i = l.take i := by rw [List.take_append_of_le_length hil]
    have hb6' := hb6 i
    have hc6' := hc6 i
    rw [← hti, hrun] at hb6' hc6'
    dsimp only at hb6' hc6'
    have hlen' := hp.length
    have hsucc := wsRun_succ hi
    rw [hrun] at hsucc
    subst hrest
    simp only [List.cons_append, List.nil_append, List.map_cons, List.map_nil] at N5 hoff
    clear mS mT mself mc mb' mn mnt
    by_cases h32 : c = 32
    · subst h32
      rw [show sOf [32] = Str.ofString " " by decide +kernel] at F5
      repeat' (first | (k_unfold; (try dsimp only)) | (first | walk1 | (dsimp only; walk1)))
      rename Fr _ _ _ _ => F6
      rename News _ _ _ _ => N6
      exact TurnPost.next (news₂ := _ :: _ :: _ :: [_]) F6 N6 hoff ⟨D, its, k, cs, b + 1, n + 1, nt, _, _, _, hsucc, all_take hi (.inl rfl) hall, o1, o2, o3, rfl, hp, rfl, rfl, rfl, rfl, rfl, rfl, rfl⟩
    · by_cases h9 : c = 9
      · subst h9
        rw [show sOf [9] = Str.ofString "\t" by decide +kernel] at F5
        repeat' (first | (k_unfold; (try dsimp only)) | (first | walk1 | (dsimp only; walk1)))
        · rename Fr _ _ _ _ => F6
          rename News _ _ _ _ => N6
          rename IntsAre (List.set _ _ _) _ => hI6
          rename (_ ∧ _ ∧ _ ∧ _ ∧ _ ∧ _ ∧ AllLt _ own) => l6
          obtain ⟨a1, a2, a3, a4, a5, a6, a7⟩ := l6
          rename ((cs.length : Int) ≤ b) => hle
          refine TurnPost.next (news₂ := _ :: _ :: _ :: [_]) F6 (drop3 N6) ?_ ⟨_, _, _, _, _, _, _, _, _, _, hsucc.trans (wsStep_tab hb6'.1 hle), all_take hi (.inr rfl) hall, a4, a5, a6, rfl, hI6, rfl, rfl, rfl, rfl, rfl, rfl, rfl⟩
          · intro p hp b' hb'
            rcases hb' with _ | ⟨_, hb'⟩
            · exact Nat.ne_of_lt (allLt_mem a7 p hp)
            · exact hoff p hp b' (.tail _ hb')
        · rename Fr _ _ _ _ => F6
          rename News _ _ _ _ => N6
          rename (¬ (cs.length : Int) ≤ b) => hgt
          refine ksa_set F6 N6 (Upd.head ?_) hp hb6'.1 (by omega) (by omega) ?_
          · rintro p (_ | ⟨_, _ | ⟨_, _ | ⟨_, hp⟩⟩⟩)
            · exact Nat.ne_of_lt o1
            · exact Nat.ne_of_lt o2
            · exact Nat.ne_of_lt o3
            · exact hoff p hp D (.head _)
          · intro h7 F7 N7 hi7 hl7 hs7
            clear F6 N6
            repeat' (first | (k_unfold; (try dsimp only)) | (first | walk1 | (dsimp only; walk1)))
            rename Fr _ _ _ _ => F6
            rename News _ _ _ _ => N6
            exact TurnPost.next (news₂ := _ :: _ :: _ :: [_]) F6 N6 hoff ⟨D, _, _, _, _, _, _, _, _, _, hsucc.trans (wsStep_tab' hb6'.1 hgt), all_take hi (.inr rfl) hall, o1, o2, o3, rfl, hi7, rfl, rfl, rfl, rfl, rfl, rfl, rfl⟩
      · have : c = 120 := by
          rcases List.mem_append.mp (List.mem_of_getElem? hi) with h | h
          · rcases hl c h with h | h
            · exact absurd h h32
            · exact absurd h h9
          · exact List.mem_singleton.mp h
        subst this
        rw [show sOf [120] = Str.ofString "x" by decide +kernel] at F5
        repeat' (first | (k_unfold; (try dsimp only)) | (first | walk1 | (dsimp only; walk1)))
        unfold TurnPost
        dsimp only
        have N5' : News s.heap L' h₁ [(D, W.listOf its.toArray k), _, _, _] := fun p hp => N5 p (by
          rcases hp with _ | ⟨_, _ | ⟨_, _ | ⟨_, _ | ⟨_, hp⟩⟩⟩⟩
          · exact .head _
          · exact .tail _ (.head _)
          · exact .tail _ (.tail _ (.head _))
          · exact .tail _ (.tail _ (.tail _ (.head _)))
          · cases hp)
        clear N5 hoff
        change Fr s.heap L' _ _ at F5
        have o1' := ltN o1
        have o2' := ltN o2
        have o3' := ltN o3
        repeat' (first | (k_unfold; (try dsimp only)) | (first | walk1 | (dsimp only; walk1)))
        rename Fr _ _ _ _ => F6
        rename News _ _ _ _ => N6
        have hne := news_ne N6 (.tail _ (.head _)) (.tail _ (.tail _ (.tail _ (.tail _ (.tail _ (.head _)))))) (show Value.type "tuple" ≠ Value.type "dict" by decide)
        repeat' (first | (k_unfold; (try dsimp only)) | (first | walk1 | (dsimp only; walk1)))
        rename Fr _ _ _ _ => F8
        rename News _ _ _ _ => N8
        have hil2 : i = l.length := by
          rcases Nat.lt_or_ge i l.length with h | h
          · rw [List.getElem?_append_left h] at hi
            rcases hl 120 (List.mem_of_getElem? hi) with h | h <;> cases h
          · omega
        rw [hti, hil2, List.take_length] at hrun
        rw [hrun] at hret
        exact hret x' _ _ _ F8.keep (fun p hp => ⟨(N8 p hp).1, (N8 p hp).2.2⟩) ⟨d', _, _, its, _, _, _, _, _, _, _, _, _, _, .tail _ (.tail _ (.tail _ (.tail _ (.head _)))), .tail _ (.tail _ (.tail _ (.tail _ (.tail _ (.head _))))), .head _, .tail _ (.head _), hp⟩
  · rintro m₁ news₁ h₁ tk₁ ⟨D, its, k, cs, b, n, nt, tb, tn, tnt, hrun, hall, -⟩ - -
    have := hall 120 (by rw [List.take_length]; simp)
    omega
end
end Mine
namespace Mine
noncomputable def hist (ns : List Int) : List Int := ns.foldl (fun cs n => bump cs n.toNat) []
theorem bump_len (cs : List Int) (b : Nat) : (bump cs b).length = max cs.length (b + 1) := by
  simp only [bump, List.length_set, List.length_append, List.length_replicate]; omega
theorem ws_blanks (k : Nat) : ∀ st : WSt, (List.replicate k 32).foldl wsStep st = ⟨st.count, st.b + k, st.n + k, st.nt⟩ := by
  induction k with
  | zero => intro st; simp
  | succ k ih =>
    intro st
    rw [List.replicate_succ, List.foldl_cons, ih]
    simp only [wsStep, if_true]
    congr 1 <;> omega
theorem ws_piece (n : Int) (h : 0 ≤ n) (st : WSt) (hb : st.b = 0) : (pieceL n).foldl wsStep st = ⟨bump st.count n.toNat, 0, st.n + n + 1, st.nt + 1⟩ := by
  unfold pieceL
  rw [List.foldl_append, ws_blanks]
  simp only [List.foldl_cons, List.foldl_nil, wsStep, hb]
  rw [if_neg (by decide)]
  congr 2 <;> omega
theorem leadL_cons (n : Int) (ns : List Int) : leadL (n :: ns) = pieceL n ++ leadL ns := by simp [leadL]
theorem ws_lead : ∀ (ns : List Int) (st : WSt), (∀ n ∈ ns, 0 ≤ n ∧ n ≤ 5) → st.b = 0 →
    ((leadL ns).foldl wsStep st).count = ns.foldl (fun cs n => bump cs n.toNat) st.count ∧ ((leadL ns).foldl wsStep st).b = 0 ∧ ((leadL ns).foldl wsStep st).nt = st.nt + ns.length
  | [], st, _, hb => by simp [leadL, hb]
  | n :: ns, st, h, hb => by
    rw [leadL_cons, List.foldl_append, ws_piece n (h n (.head _)).1 st hb]
    obtain ⟨h1, h2, h3⟩ := ws_lead ns ⟨bump st.count n.toNat, 0, st.n + n + 1, st.nt + 1⟩ (fun m hm => h m (.tail _ hm)) rfl
    refine ⟨h1, h2, ?_⟩
    rw [h3]; simp only [List.length_cons]; omega
theorem ws_bounds : ∀ (ns : List Int) (st : WSt) (i : Nat), (∀ n ∈ ns, 0 ≤ n ∧ n ≤ 5) → st.b = 0 → st.count.length ≤ 6 →
    (0 ≤ (((leadL ns).take i).foldl wsStep st).b ∧ (((leadL ns).take i).foldl wsStep st).b ≤ 5) ∧ (((leadL ns).take i).foldl wsStep st).count.length ≤ 6
  | [], st, i, _, hb, hc => by simp [leadL, hb, hc]
  | n :: ns, st, i, h, hb, hc => by
    have hn := h n (.head _)
    rw [leadL_cons, List.take_append]
    have hlen : (pieceL n).length = n.toNat + 1 := by simp [pieceL]
    by_cases hi : i ≤ n.toNat
    · have e1 : i - (pieceL n).length = 0 := by omega
      rw [e1, List.take_zero, List.append_nil]
      have e2 : (pieceL n).take i = List.replicate i 32 := by
        unfold pieceL
        rw [List.take_append_of_le_length (by simp; exact hi), List.take_replicate]
        congr 1; omega
      rw [e2, ws_blanks]
      dsimp only
      rw [hb]
      omega
    · have e2 : (pieceL n).take i = pieceL n := List.take_of_length_le (by omega)
      rw [e2, List.foldl_append, ws_piece n hn.1 st hb]
      refine ws_bounds ns _ _ (fun m hm => h m (.tail _ hm)) rfl ?_
      dsimp only
      rw [bump_len]
      omega
theorem leadL_chars {ns : List Int} : ∀ c ∈ leadL ns, c = 32 ∨ c = 9 := by
  intro c hc
  simp only [leadL, List.mem_flatten, List.mem_map] at hc
  obtain ⟨l, ⟨n, _, rfl⟩, hl⟩ := hc
  simp only [pieceL, List.mem_append, List.mem_replicate, List.mem_singleton] at hl
  omega
section
variable {w : World} {loose : List Str} {mean : ExcName → Option Value} {mg mb : Str → Option Value} {A : Around} {base : Heap} {outer : List Env} {s : Shared} {Q E : Value → Shared → Prop}
theorem mark_call {ns : List Int} {t : Tok} (G : Gr w loose mean mg mb A base outer s.heap)
    (hd : A.depth + 2 < recursionLimit) (hu : A.units + 16 < cLine) (hb : ∀ n ∈ ns, 0 ≤ n ∧ n ≤ 5) (hlen : ns.length ≤ 4)
    (hret : ∀ x h' tk' objs, Kp s.heap h' → Fresh s.heap h' objs → WsObj w.params (fun a o => (a, o) ∈ objs) x (hist ns) 0 ns.length → Q (.ref x) { s with heap := h', toks := tk' }) :
    wpAny (model PySem.Challenge.rw_pk0111_01.row.prog w) A (call (.ref 97) [.str (sOf (leadL ns ++ [120])) t]) Q E s := by
  obtain ⟨h1, h2, h3⟩ := ws_lead ns ⟨[], 0, 0, 0⟩ hb rfl
  have e1 : (wsRun (leadL ns)).count = hist ns := h1
  have e2 : (wsRun (leadL ns)).b = 0 := h2
  have e3 : (wsRun (leadL ns)).nt = ns.length := by rw [show wsRun (leadL ns) = (leadL ns).foldl wsStep ⟨[], 0, 0, 0⟩ from rfl, h3]; simp
  refine ws_call G hd hu (by have := leadL_len hb hlen; rwa [sOf_len] at this) leadL_chars (fun i => (ws_bounds ns _ i hb rfl (Nat.zero_le _)).1) (fun i => (ws_bounds ns _ i hb rfl (Nat.zero_le _)).2) ?_
  rw [e1, e2, e3]
  exact hret
end
end Mine
namespace Mine
theorem hidden_none {h : Heap} {l : List Addr} {b : Addr} (hb : b ∈ l) : (hideAll h l).get? b = none := by
  exact hideAll_none l hb
theorem Gr.hide {w : World} {loose : List Str} {mean : ExcName → Option Value} {mg mb : Str → Option Value} {A : Around} {base g h : Heap} {outer : List Env} {l : List Addr} (G : Gr w loose mean mg mb A base outer g) (hg : Kp g h) (hl : ∀ b ∈ l, g.get? b = none) :
    Gr w loose mean mg mb A base outer (hideAll h l) := G.keeps fun b o e => hideAll_get _ (hg b o e) fun hb => by rw [hl b hb] at e; cases e
theorem kp_hide {h h' : Heap} {l : List (Addr × Obj)} (k : Kp (hideAll h (l.map (·.1))) h') (kl : ∀ p ∈ l, h.get? p.1 = some p.2 → h'.get? p.1 = some p.2) (hl : ∀ p ∈ l, h.get? p.1 = some p.2) : Kp h h' := by
  intro b o e
  by_cases hb : b ∈ l.map (·.1)
  · obtain ⟨p, hp, rfl⟩ := List.mem_map.mp hb
    have := kl p hp (hl p hp)
    rw [hl p hp] at e
    cases e
    exact this
  · exact k b o (hideAll_get _ e hb)
theorem sub0 (objs : List (Addr × Obj)) : ∀ p ∈ ([] : List (Addr × Obj)), p ∈ objs := fun _ h => nomatch h
theorem sub4 {objs r : List (Addr × Obj)} {a b c d : Addr × Obj} (hr : ∀ p ∈ r, p ∈ objs) (ha : a ∈ objs) (hb : b ∈ objs) (hc : c ∈ objs) (hd : d ∈ objs) : ∀ p ∈ a :: b :: c :: d :: r, p ∈ objs := by
  rintro p (_ | ⟨_, _ | ⟨_, _ | ⟨_, _ | ⟨_, hp⟩⟩⟩⟩)
  · exact ha
  · exact hb
  · exact hc
  · exact hd
  · exact hr p hp
theorem none_of_mem {g h : Heap} {l : List (Addr × Obj)} {b : Addr} (hs : ∀ p ∈ l, h.get? p.1 = some p.2 ∧ g.get? p.1 = none) (hb : b ∈ l.map (·.1)) : g.get? b = none := by
  obtain ⟨p, hp, rfl⟩ := List.mem_map.mp hb
  exact (hs p hp).2
theorem ints6 {ws : List Value} {c : List Int} (h : IntsAre ws (List.take 6 (c ++ (List.replicate 6 [(0 : Int)]).flatten))) : ∃ t0 t1 t2 t3 t4 t5, ws = [.int (c.getD 0 0) t0, .int (c.getD 1 0) t1, .int (c.getD 2 0) t2, .int (c.getD 3 0) t3, .int (c.getD 4 0) t4, .int (c.getD 5 0) t5] := by
  have e : List.take 6 (c ++ (List.replicate 6 [(0 : Int)]).flatten) = [c.getD 0 0, c.getD 1 0, c.getD 2 0, c.getD 3 0, c.getD 4 0, c.getD 5 0] := by
    rcases c with _ | ⟨a, _ | ⟨b, _ | ⟨c, _ | ⟨d, _ | ⟨e, _ | ⟨f, r⟩⟩⟩⟩⟩⟩ <;> rfl
  rw [e] at h
  obtain _ | ⟨_, _, h⟩ := h
  obtain _ | ⟨_, _, h⟩ := h
  obtain _ | ⟨_, _, h⟩ := h
  obtain _ | ⟨_, _, h⟩ := h
  obtain _ | ⟨_, _, h⟩ := h
  obtain _ | ⟨_, _, h⟩ := h
  cases h
  exact ⟨_, _, _, _, _, _, rfl⟩
theorem intsLen {ws : List Value} {c : List Int} (h : IntsAre ws c) : ws.length = c.length := h.length
theorem keep10 {g h : Heap} {L : Addr} {a1 a2 a3 a4 a5 b1 b2 b3 b4 b5 : Addr × Obj} {r : List (Addr × Obj)} (N : News g L h (a1 :: a2 :: a3 :: a4 :: a5 :: b1 :: b2 :: b3 :: b4 :: b5 :: r)) : News g L h (a1 :: b1 :: r) := fun q hq => N q (by
  rcases hq with _ | ⟨_, _ | ⟨_, hq⟩⟩
  · exact .head _
  · exact .tail _ (.tail _ (.tail _ (.tail _ (.tail _ (.head _)))))
  · exact .tail _ (.tail _ (.tail _ (.tail _ (.tail _ (.tail _ (.tail _ (.tail _ (.tail _ (.tail _ hq))))))))))
noncomputable def mn (a b : Int) : Int := if b < a then b else a
noncomputable def due6 (a0 a1 a2 a3 a4 a5 b0 b1 b2 b3 b4 b5 nx ny : Int) : Int :=
  2 * (if ny > nx then ny else nx) - 2 * mn a0 b0 - 2 * mn a1 b1 - 2 * mn a2 b2 - 2 * mn a3 b3 - 2 * mn a4 b4 - 2 * mn a5 b5
   - mn (a0 - mn a0 b0) (b1 - mn a1 b1) - mn (a1 - mn a1 b1) (b0 - mn a0 b0) - mn (a2 - mn a2 b2) (b3 - mn a3 b3) - mn (a3 - mn a3 b3) (b2 - mn a2 b2) - mn (a4 - mn a4 b4) (b5 - mn a5 b5) - mn (a5 - mn a5 b5) (b4 - mn a4 b4)
noncomputable def dueL (cx cy : List Int) (nx ny : Int) : Int := due6 (cx.getD 0 0) (cx.getD 1 0) (cx.getD 2 0) (cx.getD 3 0) (cx.getD 4 0) (cx.getD 5 0) (cy.getD 0 0) (cy.getD 1 0) (cy.getD 2 0) (cy.getD 3 0) (cy.getD 4 0) (cy.getD 5 0) nx ny
theorem kp_cover {h g h' : Heap} {l : List (Addr × Obj)} {L : Addr} (hc : ∀ b o, h.get? b = some o → b ∉ l.map (·.1) → g.get? b = some o) (hl : ∀ p ∈ l, h.get? p.1 = some p.2) (k : Kp g h') (N : News g L h' l) : Kp h h' := by
  intro b o e
  by_cases hb : b ∈ l.map (·.1)
  · obtain ⟨p, hp, rfl⟩ := List.mem_map.mp hb
    rw [hl p hp] at e
    cases e
    exact (N p hp).1
  · exact k b o (hc b o e hb)
theorem kp_hide2 {h h' : Heap} {l : List (Addr × Obj)} {L : Addr} (hl : ∀ p ∈ l, h.get? p.1 = some p.2) (k : Kp (hideAll h (l.map (·.1))) h') (N : News (hideAll h (l.map (·.1))) L h' l) : Kp h h' := kp_cover (fun _ _ e hb => hideAll_get _ e hb) hl k N

theorem src_range {prog : Program} {w : World} {A : Around} {s : Shared} {r : Addr} {n : Nat} {t u v : Tok} (hh : A.handled = none) (hr : IsRange s.heap r 0 (n : Int) 1 t u v) (hn : n ≤ 64) : Src prog w A (.ref r) s [] (List.range n) (fun i v => ∃ t, v = .int (i : Nat) t) := by
  intro Q E h
  have hsz : Builtin.Range.rangeSize 0 (n : Int) 1 = (n : Int) := by
    unfold Builtin.Range.rangeSize
    simp only [show (1 : Int) > 0 by decide, if_true]
    split <;> omega
  have hsmall : Builtin.Range.small 0 (n : Int) 1 = true := by
    have : ∀ k : Nat, k ≤ 64 → Builtin.Range.small 0 (k : Int) 1 = true := by decide +kernel
    exact this n hn
  have W := Walks.range (prog := prog) (w := w) hh s.heap.objs.size 0 1 n
  have hfr : s.heap.get? s.heap.objs.size = none := Heap.get?_none_of_le (Nat.le_refl _)
  refine wpAny_pyIter_range hr hsmall ?_
  rw [hsz]
  rw [show n = (List.range n).length from (List.length_range).symm] at W
  refine h s.heap.objs.size _ _ _ _ _ s.toks W ?_ ?_ ?_ ?_ (fun b hb => .inl hb) ?_ (fun b o e => Heap.get?_push_of_some _ e)
  · rintro i v a ⟨t, rfl⟩ ha
    have e : a = i := by
      obtain ⟨h1, h2⟩ := List.getElem?_eq_some_iff.mp ha
      rw [List.getElem_range] at h2
      exact h2.symm
    subst e
    exact ⟨t, by rw [Int.zero_add, Int.mul_one]⟩
  · rintro i h ho b hb
    rw [List.mem_singleton.mp hb]; exact ⟨_, ho⟩
  · show IsRangeIter _ _ _ _ _
    rw [List.length_range]
    have : IsRangeIter (s.heap.push { cls := .type "range_iterator", data := .fields #[rawInt 0, rawInt (n : Int), rawInt 1] }) s.heap.objs.size 0 n 1 := Heap.get?_push_size _ rfl
    simpa using this
  · intro b hb
    rw [List.mem_singleton.mp hb, Heap.size_push]; exact Nat.lt_succ_self _
  · intro b hb
    rw [List.mem_singleton.mp hb]; exact hfr
end Mine
namespace Mine
structure Cov (g hs : Heap) (l : List (Addr × Obj)) : Prop where
  out : ∀ h' L, Kp g h' → News g L h' l → Kp hs h'
theorem cov_hide {g h : Heap} {l : List (Addr × Obj)} (hl : ∀ p ∈ l, h.get? p.1 = some p.2 ∧ g.get? p.1 = none) : Cov (hideAll h (l.map (·.1))) h l := ⟨fun _ _ => kp_hide2 fun p hp => (hl p hp).1⟩
theorem apart_cls {g h : Heap} {L T : Addr} {oT : Obj} {r : List (Addr × Obj)} (hT : h.get? T = some oT) (N : News g L h r) (hc : ∀ c ∈ r.map (fun p => p.2.cls), c ≠ oT.cls) : ∀ p ∈ r, p.1 ≠ T := by
  intro p hp e
  have h1 := (N p hp).1
  rw [e, hT] at h1
  cases h1
  exact hc _ (List.mem_map_of_mem hp) rfl
theorem led_abs {P : Prop} {g h hs : Heap} {L T H : Addr} {oT oH : Obj} {r : List (Addr × Obj)} (N : News g L h ((T, oT) :: (H, oH) :: r)) (hT : ∀ c ∈ r.map (fun p => p.2.cls), c ≠ oT.cls) (hH : ∀ c ∈ r.map (fun p => p.2.cls), c ≠ oH.cls) (hTH : @Ne Nat T H) (hc : Cov g hs r)
    (k : ∀ T' H' r', T' = T → H' = H → @Ne Nat T' H' → News g L h ((T, oT) :: (H, oH) :: r') → (∀ p ∈ r', p.1 ≠ T) → (∀ p ∈ r', p.1 ≠ H) → Cov g hs r' → P) : P :=
  k T H r rfl rfl hTH N (apart_cls (N _ (.head _)).1 (fun p hp => N p (.tail _ (.tail _ hp))) hT) (apart_cls (N _ (.tail _ (.head _))).1 (fun p hp => N p (.tail _ (.tail _ hp))) hH) hc
theorem cls8 : ∀ c ∈ [Value.ref 97, .type "dict", .type "tuple", .type "tuple", .ref 97, .type "dict", .type "tuple", .type "tuple"], c ≠ Value.type "list" := by decide
noncomputable def pad6 (c : List Int) : List Int := List.take 6 (c ++ (List.replicate 6 [(0 : Int)]).flatten)
theorem pad6_len (c : List Int) : (pad6 c).length = 6 := by
  simp only [pad6, List.length_take, List.length_append, List.flatten_replicate_singleton, List.length_replicate]; omega
noncomputable def run1 (cx cy : List Int) (nx ny : Int) : Nat → List Int × List Int × Int
  | 0 => (pad6 cx, pad6 cy, 2 * (if ny > nx then ny else nx))
  | i + 1 => let p := run1 cx cy nx ny i; (p.1.set i (p.1.getD i 0 - mn (p.1.getD i 0) (p.2.1.getD i 0)), p.2.1.set i (p.2.1.getD i 0 - mn (p.1.getD i 0) (p.2.1.getD i 0)), p.2.2 - 2 * mn (p.1.getD i 0) (p.2.1.getD i 0))
noncomputable def nb (i : Nat) : Nat := i + 1 - 2 * (i % 2)
theorem nb_eq : ∀ i : Nat, i < 6 → ((i : Int) + 1 - 2 * (i : Int).fmod 2).toNat = nb i := by decide
noncomputable def run2 (hs ts : List Int) (d : Int) : Nat → Int
  | 0 => d
  | i + 1 => run2 hs ts d i - mn (hs.getD i 0) (ts.getD (nb i) 0)
noncomputable def due2 (cx cy : List Int) (nx ny : Int) : Int := run2 (run1 cx cy nx ny 6).1 (run1 cx cy nx ny 6).2.1 (run1 cx cy nx ny 6).2.2 6
theorem run1_succ {cx cy : List Int} {nx ny : Int} {i : Nat} {hs ts : List Int} {d : Int} (h : run1 cx cy nx ny i = (hs, ts, d)) : run1 cx cy nx ny (i + 1) = (hs.set i (hs.getD i 0 - mn (hs.getD i 0) (ts.getD i 0)), ts.set i (ts.getD i 0 - mn (hs.getD i 0) (ts.getD i 0)), d - 2 * mn (hs.getD i 0) (ts.getD i 0)) := by
  rw [run1, h]
section
variable {w : World} {loose : List Str} {mean : ExcName → Option Value} {mg mb : Str → Option Value} {A : Around} {base g₀ : Heap} {outer : List Env} {s : Shared} {Q E : Value → Shared → Prop}
set_option maxHeartbeats 2000000 in
theorem due_call {x y : Addr} {cx cy : List Int} {nx ny : Int} {objs : List (Addr × Obj)} (G : Gr w loose mean mg mb A base outer g₀) (hg : Kp g₀ s.heap) (hf : Fresh g₀ s.heap objs)
    (hd : A.depth + 2 < recursionLimit) (hu : A.units + 16 < cLine) (W1 : WsObj w.params (fun a o => (a, o) ∈ objs) x cx 0 nx) (W2 : WsObj w.params (fun a o => (a, o) ∈ objs) y cy 0 ny) (l1 : cx.length ≤ 6) (l2 : cy.length ≤ 6)
    (hret : ∀ t h' tk', Kp s.heap h' → Q (.int (due2 cx cy nx ny) t) { s with heap := h', toks := tk' }) :
    wpAny (model PySem.Challenge.rw_pk0111_01.row.prog w) A (call (.ref 146) [.ref x, .ref y]) Q E s := by
  obtain ⟨d1, p1, q1, its1, v11, v12, v15, t11, t12, t13, t14, t15, tb1, tt1, R11, R12, R13, R14, I1⟩ := W1
  obtain ⟨d2, p2, q2, its2, v21, v22, v25, t21, t22, t23, t24, t25, tb2, tt2, R21, R22, R23, R24, I2⟩ := W2
  have hmem := sub4 (sub4 (sub0 objs) R21 R22 R23 R24) R11 R12 R13 R14
  have hsub := fun p hp => hf p (hmem p hp)
  have G' := G.hide hg (l := [x, d1, p1, q1, y, d2, p2, q2]) (fun b hb => by
    exact none_of_mem hsub hb)
  clear G
  w_top off
  obtain ⟨hdl, dp, fr, gd, un⟩ := A
  obtain ⟨hh, B, X, T⟩ := G'
  have hs := B.stack
  dsimp only at hh hs hd hu
  subst hh hs
  revert X; k_fill; intro X
  have hK : Kp (hideAll s.heap [x, d1, p1, q1, y, d2, p2, q2]) s.heap := fun b o e => of_hideAll _ e
  have hS : (hideAll s.heap [x, d1, p1, q1, y, d2, p2, q2]).objs.size ≤ s.heap.objs.size := Nat.le_of_eq (hideAll_size _ _)
  have hFr : Fresh (hideAll s.heap [x, d1, p1, q1, y, d2, p2, q2]) s.heap _ := fun p hp => ⟨(hsub p hp).1, hidden_none (List.mem_map_of_mem (f := Prod.fst) hp)⟩
  refine wpAny_call ?_
  k_dflt (refine' code_over ?k1 ?k2 ?k3 hK hS hFr ?k6 ?k7 ?k8 ?k9 ?kB ?_ ?c2 ?c3 ?c4 ?c5; (case k1 => k_asm); (case k2 => k_asm); (case k3 => k_asm);(case k6 => k_is); (case k7 => k_is); (case k8 => ktr_room); (case k9 => exact BindsTo.of_eq rfl); (case c5 => decide); (case kB => exact locs rfl); (case c2 => exact rfl); (case c3 => exact rfl); (case c4 => exact rfl))
  rintro L' h' hk₁ hL' F' N' B' X' T'
  (try dsimp only); (try k_fold)
  have hcov := cov_hide hsub
  simp only [List.map_cons, List.map_nil] at hcov
  clear X B T hFr hsub hmem
  generalize hideAll s.heap [x, d1, p1, q1, y, d2, p2, q2] = gg at *
  repeat' (first | (k_unfold; (try dsimp only)) | ((fail_if_success (with_reducible show wpAny _ _ (pyIter _) _ _ _)); first | walk1 | (dsimp only; walk1)))
  rename Fr _ _ _ _ => F6
  rename News _ _ _ _ => N6
  rename IntsAre _ (List.take 6 (cy ++ _)) => J2
  rename IntsAre _ (List.take 6 (cx ++ _)) => J1
  rw [show List.take 6 (cx ++ _) = pad6 cx from rfl] at J1
  rw [show List.take 6 (cy ++ _) = pad6 cy from rfl] at J2
  have N7 := keep10 N6
  clear N6
  refine led_abs N7 cls8 cls8 (by k_ne) hcov ?_
  clear N7 hcov
  intro DT DH r eT eH hTH N7 hrT hrH hcov
  subst eT eH
  rename (IsRange _ _ _ _ _ _ _ _) => hrg
  refine for_src (as := List.range 6) (K := fun i v => ∃ t, v = .int (i : Nat) t) (fun i m₁ news₁ => Ex8 fun wh wt kh kt hs ts d td => And9 (run1 cx cy nx ny i = (hs, ts, d)) (hs.length = 6) (ts.length = 6) (news₁ = (DT, W.listOf wt.toArray kt) :: (DH, W.listOf wh.toArray kh) :: r) (IntsAre wh hs) (IntsAre wt ts) (m₁ (Str.ofString "here") = some (.ref DH)) (m₁ (Str.ofString "there") = some (.ref DT)) (m₁ (Str.ofString "due") = some (.int d td))) (src_range rfl hrg (by decide)) (fun _ h => nomatch h) F6 N7 ?_ ?_ ?_
  · exact ⟨_, _, _, _, _, _, _, _, rfl, pad6_len _, pad6_len _, rfl, J1, J2, rfl, rfl, rfl⟩
  · clear F6 N7 J1 J2
    rintro i c v m₁ news₁ h₁ tk₁ own hi ⟨tv, rfl⟩ ⟨wh, wt, kh, kt, hs, ts, d, td, hrun, lh, lt, rfl, I1, I2, mh, mt, md⟩ hoff F5 N5
    rw [pin3 mh mt md] at F5
    obtain ⟨hi6, hic⟩ := List.getElem?_eq_some_iff.mp hi
    rw [List.getElem_range] at hic
    subst hic
    rw [List.length_range] at hi6
    have hsucc := run1_succ hrun
    simp only [List.cons_append, List.map_cons] at N5 hoff
    clear mh mt md
    have hroT : ∀ p ∈ r ++ own, p.1 ≠ DT := fun p hp => (List.mem_append.mp hp).elim (hrT p) fun h => hoff p h DT (.head _)
    have hroH : ∀ p ∈ r ++ own, p.1 ≠ DH := fun p hp => (List.mem_append.mp hp).elim (hrH p) fun h => hoff p h DH (.tail _ (.head _))
    have lw := I1.length
    have lw2 := I2.length
    repeat' (first | (k_unfold; (try dsimp only)) | (first | walk1 | (dsimp only; walk1)))
    rename Fr _ _ _ _ => F6
    rename News _ _ _ _ => N6
    refine ksa_set F6 N6 (Upd.tail hTH (Upd.head hroH)) I1 (by omega) (by omega) (by omega) ?_
    intro h7 F7 N7 hi7 hl7 hs7
    clear F6 N6
    repeat' (first | (k_unfold; (try dsimp only)) | (first | walk1 | (dsimp only; walk1)))
    rename Fr _ _ _ _ => F6
    rename News _ _ _ _ => N6
    refine ksa_set F6 N6 (Upd.head (List.forall_mem_cons.mpr ⟨fun e => hTH e.symm, hroT⟩)) I2 (by omega) (by omega) (by omega) ?_
    intro h8 F8 N8 hi8 hl8 hs8
    clear F6 N6
    repeat' (first | (k_unfold; (try dsimp only)) | (first | walk1 | (dsimp only; walk1)))
    rename Fr _ _ _ _ => F6
    rename News _ _ _ _ => N6
    exact TurnPost.next (news₂ := _ :: _ :: r) F6 N6 hoff ⟨_, _, _, _, _, _, _, _, hsucc, by simpa using lh, by simpa using lt, rfl, hi7, hi8, rfl, rfl, rfl⟩
  · clear F6 N7 J1 J2
    rintro m₁ news₁ h₁ tk₁ ⟨wh, wt, kh, kt, hs, ts, d, td, hrun, lh, lt, rfl, I1, I2, mh, mt, md⟩ F5 N5
    rw [List.length_range] at hrun
    rw [pin3 mh mt md] at F5
    clear mh mt md hrg
    unfold due2 at hret
    rw [hrun] at hret
    dsimp only at hret
    have lw := I1.length
    have lw2 := I2.length
    dsimp only
    repeat' (first | (k_unfold; (try dsimp only)) | ((fail_if_success (with_reducible show wpAny _ _ (pyIter _) _ _ _)); first | walk1 | (dsimp only; walk1)))
    rename Fr _ _ _ _ => F6
    rename News _ _ _ _ => N6
    rename (IsRange _ _ _ _ _ _ _ _) => hrg
    refine for_src (as := List.range 6) (K := fun i v => ∃ t, v = .int (i : Nat) t) (fun i m₁ news₁ => Exists fun td => And4 (news₁ = (DT, W.listOf wt.toArray kt) :: (DH, W.listOf wh.toArray kh) :: r) (m₁ (Str.ofString "here") = some (.ref DH)) (m₁ (Str.ofString "there") = some (.ref DT)) (m₁ (Str.ofString "due") = some (.int (run2 hs ts d i) td))) (src_range rfl hrg (by decide)) (fun _ h => nomatch h) F6 N6 ?_ ?_ ?_
    · exact ⟨_, rfl, rfl, rfl, rfl⟩
    · clear F6 N6
      rintro i c v m₁ news₁ h₁ tk₁ own hi ⟨tv, rfl⟩ ⟨td, rfl, mh, mt, md⟩ hoff F5 N5
      rw [pin3 mh mt md] at F5
      obtain ⟨hi6, hic⟩ := List.getElem?_eq_some_iff.mp hi
      rw [List.getElem_range] at hic
      subst hic
      rw [List.length_range] at hi6
      simp only [List.cons_append, List.map_cons] at N5 hoff
      clear mh mt md
      repeat' (first | (k_unfold; (try dsimp only)) | (first | walk1 | (dsimp only; walk1)))
      rename Fr _ _ _ _ => F6
      rename News _ _ _ _ => N6
      rw [nb_eq i hi6] at F6
      exact TurnPost.next (news₂ := _ :: _ :: r) F6 N6 hoff ⟨_, rfl, rfl, rfl, rfl⟩
    · rintro m₁ news₁ h₁ tk₁ ⟨td, rfl, mh, mt, md⟩ F5 N5
      rw [List.length_range] at md
      rw [pin md] at F5
      dsimp only
      repeat' (first | (k_unfold; (try dsimp only)) | (first | walk1 | (dsimp only; walk1)))
      rename Fr _ _ _ _ => F6
      rename News _ _ _ _ => N6
      exact hret _ _ _ (hcov.out _ _ F6.keep fun p hp => N6 p (.tail _ (.tail _ hp)))
end
end Mine
namespace Mine
open StrLaws
theorem slice_from {u : List Nat} {k : Nat} (h : k ≤ u.length) : Txt.slice (sOf u) (some (k : Int)) none = sOf (u.drop k) := by
  have h1 : sliceText (sOf u) (some (k : Int)) none = _ := sliceText_from (x := sOf u) (i := (k : Int)) (by simp [sOf]; omega)
  have h2 : Txt.slice (sOf u) (some (k : Int)) none = sliceText (sOf u) (some (k : Int)) none := rfl
  rw [h2, h1]
  simp [sOf]
  exact List.take_of_length_le (by simp)
theorem slice_all {x : Str} : Txt.slice x none none = x := by
  have h : Txt.slice x none none = sliceText x none none := rfl
  rw [h]
  have e : sliceText x none none = sliceText x (some (0 : Nat)) (some (x.length : Nat)) := by
    unfold sliceText
    rw [sliceIdx_none_lo, sliceIdx_none_hi]; rfl
  rw [e, sliceText_nat x (Nat.zero_le _) (Nat.le_refl _)]
  apply Str.ext'
  simp only [Str.length, Nat.sub_zero, List.drop_zero]
  rw [show x.cps.size = x.cps.toList.length from rfl, List.take_length]
theorem slice_to {u : List Nat} {k : Nat} (h : k ≤ u.length) (hk : 0 < k) : Txt.slice (sOf u) none (some (-(k : Int))) = sOf (u.take (u.length - k)) := by
  have h1 := sliceText_to_neg (x := sOf u) (j := -(k : Int)) (by omega) (by simp [sOf, Str.length]; omega)
  have h2 : Txt.slice (sOf u) none (some (-(k : Int))) = sliceText (sOf u) none (some (-(k : Int))) := rfl
  rw [h2, h1]
  have e : (-(k : Int) + ((sOf u).length : Int) - 0).toNat = u.length - k := by rw [sOf_len]; omega
  rw [e]; simp [sOf]

noncomputable abbrev BIG : Int := 9223372036854775807
noncomputable def low (c : Nat) : Nat := if c < 97 then c + 32 else c
noncomputable def cst (x y : Nat) : Int := if x = y then 0 else if low x = low y then 1 else 2
noncomputable def isL (c : Nat) : Prop := c = 97 ∨ c = 65 ∨ c = 98 ∨ c = 66 ∨ c = 99 ∨ c = 67
structure Inn where
  row : List Int
  dist : Int
  res : Int
  mi : Int
noncomputable def inn (y : Nat) (a : List Nat) (old : List Int) (d0 : Int) : Nat → Inn
  | 0 => ⟨old, d0, d0, BIG⟩
  | i + 1 => let p := inn y a old d0 i
    let r := mn (mn p.res (p.row.getD i 0) + 2) (p.dist + cst y (a.getD i 0))
    ⟨p.row.set i r, p.row.getD i 0, r, if r < p.mi then r else p.mi⟩
noncomputable def out (a b : List Nat) : Nat → List Int × Int
  | 0 => ((List.range a.length).map (fun i => 2 * ((i : Nat) : Int) + 2), 0)
  | j + 1 => let p := inn (b.getD j 0) a (out a b j).1 ((j : Nat) * 2) a.length; (p.row, p.res)
/-- what the rows give: the last result, or the bound and one, where a row lies above the bound -/
noncomputable def LevDP (a b : List Nat) (mc r : Int) : Prop := (∃ j, j < b.length ∧ mc < (inn (b.getD j 0) a (out a b j).1 ((j : Nat) * 2) a.length).mi ∧ r = mc + 1) ∨ r = (out a b b.length).2
noncomputable def LevRes (u v : List Nat) (mc r : Int) : Prop := (u = v ∧ r = 0) ∨ ∃ p q u' v', u = p ++ u' ++ q ∧ v = p ++ v' ++ q ∧
  (((u' = [] ∨ v' = []) ∧ r = 2 * ((u'.length : Nat) + (v'.length : Nat) : Int)) ∨ r = mc + 1 ∧ ((mc < ((v'.length : Nat) - (u'.length : Nat) : Int) * 2) ∨ (mc < ((u'.length : Nat) - (v'.length : Nat) : Int) * 2)) ∨
    (u' ≠ [] ∧ u'.length ≤ v'.length ∧ LevDP u' v' mc r) ∨ (v' ≠ [] ∧ v'.length < u'.length ∧ LevDP v' u' mc r))
theorem low_eq {x y : Nat} (hx : isL x) (hy : isL y) : (Txt.lower (sOf [x]) == Txt.lower (sOf [y])) = decide (low x = low y) := by
  rcases hx with rfl | rfl | rfl | rfl | rfl | rfl <;> rcases hy with rfl | rfl | rfl | rfl | rfl | rfl <;> decide +kernel
theorem one_eq {x y : Nat} : (sOf [x] == sOf [y]) = decide (x = y) := by
  by_cases h : x = y
  · subst h; simp
  · have : sOf [x] ≠ sOf [y] := fun e => h (by have := sOf_inj e; simpa using this)
    simp [h, this]
end Mine
namespace Mine
section
variable {w : World} {loose : List Str} {mean : ExcName → Option Value} {mg mb : Str → Option Value} {A : Around} {base : Heap} {outer : List Env} {s : Shared} {Q E : Value → Shared → Prop}
set_option maxHeartbeats 8000000 in
theorem sub_call {x y : Nat} {ta tb : Tok} (G : Gr w loose mean mg mb A base outer s.heap)
    (hd : A.depth + 1 < recursionLimit) (hu : A.units + 8 < cLine) (hx : isL x) (hy : isL y)
    (hret : ∀ t h' tk', Kp s.heap h' → Q (.int (cst x y) t) { s with heap := h', toks := tk' }) :
    wpAny (model PySem.Challenge.rw_pk0111_01.row.prog w) A (call (.ref 108) [.str (sOf [x]) ta, .str (sOf [y]) tb]) Q E s := by
  w_top off
  obtain ⟨hdl, dp, fr, gd, un⟩ := A
  obtain ⟨hh, B, X, T⟩ := G
  have hs := B.stack
  dsimp only at hh hs hd hu
  subst hh hs
  revert X; k_fill; intro X
  refine wpAny_call ?_
  k_dflt (refine' code_pure ?k1 ?k2 ?k3 ?k6 ?k7 ?k8 ?k9 ?kB ?_ ?c2 ?c3 ?c4 ?c5; (case k1 => k_asm); (case k2 => k_asm); (case k3 => k_asm);(case k6 => k_is); (case k7 => k_is); (case k8 => ktr_room); (case k9 => exact BindsTo.of_eq rfl); (case c5 => decide); (case kB => exact locs rfl); (case c2 => exact rfl); (case c3 => exact rfl); (case c4 => exact rfl))
  rintro _ L' h' rfl F' N' B' X' T'
  (try dsimp only); (try k_fold)
  have hlx : (sOf [x]).length ≤ 1 := by rw [sOf_len]; simp
  have hly : (sOf [y]).length ≤ 1 := by rw [sOf_len]; simp
  repeat' (first | (k_unfold; (try dsimp only)) | (first | walk1 | (dsimp only; walk1)))
  · rename Fr _ _ _ _ => F8
    rename (sOf [x] == sOf [y]) = true => h1
    rw [one_eq] at h1
    have h1 := of_decide_eq_true h1
    have := hret
    unfold cst at this
    rw [if_pos h1] at this
    exact this _ _ _ F8.keep
  · rename Fr _ _ _ _ => F8
    rename (sOf [x] == sOf [y]) = false => h1
    rename (Txt.lower (sOf [x]) == Txt.lower (sOf [y])) = true => h2
    rw [one_eq] at h1
    rw [low_eq hx hy] at h2
    have := hret
    unfold cst at this
    rw [if_neg (by simpa using h1), if_pos (of_decide_eq_true h2)] at this
    exact this _ _ _ F8.keep
  · rename Fr _ _ _ _ => F8
    rename (sOf [x] == sOf [y]) = false => h1
    rename (Txt.lower (sOf [x]) == Txt.lower (sOf [y])) = false => h2
    rw [one_eq] at h1
    rw [low_eq hx hy] at h2
    have := hret
    unfold cst at this
    rw [if_neg (by simpa using h1), if_neg (by simpa using h2)] at this
    exact this _ _ _ F8.keep
end
end Mine
namespace Mine
section
variable {prog : Program} {w : World} {A : Around} {E : Value → Shared → Prop} {s : Shared} {value slice : PySem.Expr} {t : Tok} {h₀ : Heap} {L : Addr} {m : Str → Option Value} {news : List (Addr × Obj)} {Q : Value → Shared → Prop} {u d : List Nat}
theorem suff_step {u v : List Nat} {j c : Nat} (hu : j < u.length) (hv : j < v.length) (hc : u[u.length - 1 - j]? = some c) (hd : v[v.length - 1 - j]? = some c) (h : u.drop (u.length - j) = v.drop (v.length - j)) : u.drop (u.length - (j + 1)) = v.drop (v.length - (j + 1)) := by
  obtain ⟨h1, h2⟩ := List.getElem?_eq_some_iff.mp hc
  obtain ⟨h3, h4⟩ := List.getElem?_eq_some_iff.mp hd
  have e1 : u.length - (j + 1) = u.length - 1 - j := by omega
  have e2 : v.length - (j + 1) = v.length - 1 - j := by omega
  rw [e1, e2, List.drop_eq_getElem_cons h1, List.drop_eq_getElem_cons h3, h2, h4, show u.length - 1 - j + 1 = u.length - j by omega, show v.length - 1 - j + 1 = v.length - j by omega, h]
theorem inn_len {y : Nat} {a : List Nat} {old : List Int} {d0 : Int} (i : Nat) : (inn y a old d0 i).row.length = old.length := by
  induction i with
  | zero => rfl
  | succ i ih => simp only [inn, List.length_set]; exact ih
theorem out_len {a b : List Nat} (j : Nat) : (out a b j).1.length = a.length := by
  induction j with
  | zero => simp [out]
  | succ j ih => simp only [out]; rw [inn_len]; exact ih
theorem inn_succ {y x : Nat} {a : List Nat} {old : List Int} {d0 : Int} {i : Nat} {I : Inn} (h : inn y a old d0 i = I) (hx : a.getD i 0 = x) : inn y a old d0 (i + 1) = ⟨I.row.set i (mn (mn I.res (I.row.getD i 0) + 2) (I.dist + cst y x)), I.row.getD i 0, mn (mn I.res (I.row.getD i 0) + 2) (I.dist + cst y x), if mn (mn I.res (I.row.getD i 0) + 2) (I.dist + cst y x) < I.mi then mn (mn I.res (I.row.getD i 0) + 2) (I.dist + cst y x) else I.mi⟩ := by
  subst h hx; rfl
theorem fr_over {g h : Heap} {k : Str} {v v' : Value} (F : Fr g L h (fun y => if y = k then some v else (if y = k then some v' else m y))) : Fr g L h (fun y => if y = k then some v else m y) := by
  have e : (fun y => if y = k then some v else (if y = k then some v' else m y)) = (fun y => if y = k then some v else m y) := by funext y; by_cases h : y = k <;> simp [h]
  rw [e] at F; exact F
theorem small_sz (h : u.length ≤ 64) : (sOf u).length ≤ sizeLine := by rw [sOf_len, sizeLine_eq]; omega
theorem sl_from {k : Nat} {ui : Tok} (e : u.drop k = d) (hk : k ≤ u.length) (hl : u.length ≤ 64) (hF : Fr h₀ L s.heap m) (hN : News h₀ L s.heap news) (h : ∀ h' t' k, Fr h₀ L h' m → News h₀ L h' news → Q (.str (sOf d) t') { s with heap := h', toks := k })
    (hs : subscripted slice false (.str (sOf u) t) (.ref s.heap.objs.size) = operate [.ref s.heap.objs.size, .str (sOf u) t] (getItem (.str (sOf u) t) (.ref s.heap.objs.size)) := by with_unfolding_all rfl)
    (ht : ∀ r, letTemporaryGo value (.str (sOf u) t) r = pure () := by intro _; with_unfolding_all rfl) :
    wpAny (model prog w) A (subscriptTail value slice (.str (sOf u) t) (.ref s.heap.objs.size)) Q E { s with heap := s.heap.push { cls := .type "slice", data := .fields #[.int (k : Nat) ui, .none, .none] } } :=
  slice_strN_sn hF hN (by rw [slice_from hk, e]; exact h) hs ht (small_sz hl)
theorem sl_to {k : Nat} {i : Int} {ui : Tok} (e : u.take (u.length - k) = d) (hi : i = -(k : Int)) (hk : k ≤ u.length) (h0 : 0 < k) (hl : u.length ≤ 64) (hF : Fr h₀ L s.heap m) (hN : News h₀ L s.heap news) (h : ∀ h' t' k, Fr h₀ L h' m → News h₀ L h' news → Q (.str (sOf d) t') { s with heap := h', toks := k })
    (hs : subscripted slice false (.str (sOf u) t) (.ref s.heap.objs.size) = operate [.ref s.heap.objs.size, .str (sOf u) t] (getItem (.str (sOf u) t) (.ref s.heap.objs.size)) := by with_unfolding_all rfl)
    (ht : ∀ r, letTemporaryGo value (.str (sOf u) t) r = pure () := by intro _; with_unfolding_all rfl) :
    wpAny (model prog w) A (subscriptTail value slice (.str (sOf u) t) (.ref s.heap.objs.size)) Q E { s with heap := s.heap.push { cls := .type "slice", data := .fields #[.none, .int i ui, .none] } } := by
  subst hi
  exact slice_strN_ns hF hN (by rw [slice_to hk h0, e]; exact h) hs ht (small_sz hl)
theorem sl_all (e : u = d) (hl : u.length ≤ 64) (hF : Fr h₀ L s.heap m) (hN : News h₀ L s.heap news) (h : ∀ h' t' k, Fr h₀ L h' m → News h₀ L h' news → Q (.str (sOf d) t') { s with heap := h', toks := k })
    (hs : subscripted slice false (.str (sOf u) t) (.ref s.heap.objs.size) = operate [.ref s.heap.objs.size, .str (sOf u) t] (getItem (.str (sOf u) t) (.ref s.heap.objs.size)) := by with_unfolding_all rfl)
    (ht : ∀ r, letTemporaryGo value (.str (sOf u) t) r = pure () := by intro _; with_unfolding_all rfl) :
    wpAny (model prog w) A (subscriptTail value slice (.str (sOf u) t) (.ref s.heap.objs.size)) Q E { s with heap := s.heap.push { cls := .type "slice", data := .fields #[.none, .none, .none] } } :=
  slice_strN_nn hF hN (by rw [slice_all, e]; exact h) hs ht (small_sz (e ▸ hl))
theorem tr_sOf {Q : Bool → Shared → Prop} (hl : u.length ≤ 64) (h : Q (!u.isEmpty) { s with toks := s.toks + 1 + 1 }) : wpAny (model prog w) A (truthy (.str (sOf u) t)) Q E s := by
  refine P.truthy_str (by rw [sOf_len]; omega) ?_
  rw [sOf_len]
  cases u with
  | nil => exact h
  | cons a r => rw [show (((a :: r).length : Int) != 0) = !(a :: r).isEmpty by simp; omega]; exact h
theorem len_sOf (hl : u.length ≤ 64) (h : Q (.int (u.length : Nat) (s.toks + 1)) { s with toks := s.toks + 1 + 1 }) : wpAny (model prog w) A (call (.builtin "len") [.str (sOf u) t]) Q E s := by
  refine PySem.P.len_str (by rw [sOf_len]; omega) ?_
  rw [sOf_len]; exact h
theorem len_sOfE {i : Int} (e : ((u.length : Nat) : Int) = i) (hl : u.length ≤ 64) (h : Q (.int i (s.toks + 1)) { s with toks := s.toks + 1 + 1 }) : wpAny (model prog w) A (call (.builtin "len") [.str (sOf u) t]) Q E s := by
  subst e; exact len_sOf hl h
theorem ints_of : ∀ (us : List Value) (f : Nat → Int), (∀ (j : Nat) (v : Value), us[j]? = some v → ∃ t, v = Value.int (f j) t) → IntsAre us ((List.range us.length).map f)
  | [], _, _ => .nil
  | v :: us, f, h => by
    obtain ⟨t, rfl⟩ := h 0 v rfl
    rw [List.length_cons, List.range_succ_eq_map, List.map_cons, List.map_map]
    exact .cons _ _ (ints_of us (f ∘ Nat.succ) fun j v hv => h (j + 1) v hv)
theorem list_range2 {r : Addr} {n : Nat} {t₀ u₀ v₀ : Tok} (hh : A.handled = none) (F : Fr h₀ L s.heap m) (N : News h₀ L s.heap news) (hr : IsRange s.heap r 2 (2 * ((n : Int) + 1)) 2 t₀ u₀ v₀) (hn : n ≤ 4)
    (h : ∀ D us c h' tk, Fr h₀ L h' m → News h₀ L h' ((D, W.listOf (List.toArray us) c) :: news) → IntsAre us ((List.range n).map fun i => 2 * ((i : Nat) : Int) + 2) → Q (.ref D) { s with heap := h', toks := tk }) :
    wpAny (model prog w) A (call (.type "list") [.ref r]) Q E s := by
  have hsz : Builtin.Range.rangeSize 2 (2 * ((n : Int) + 1)) 2 = (n : Int) := by
    have : ∀ k : Nat, k ≤ 4 → Builtin.Range.rangeSize 2 (2 * ((k : Int) + 1)) 2 = (k : Int) := by decide +kernel
    exact this n hn
  have hsm : Builtin.Range.small 2 (2 * ((n : Int) + 1)) 2 = true := by
    have : ∀ k : Nat, k ≤ 4 → Builtin.Range.small 2 (2 * ((k : Int) + 1)) 2 = true := by decide +kernel
    exact this n hn
  refine call_list_range hh hr hsm hsz (by omega) fun h' tk acc c hk hD hI => ?_
  have hD' : h'.get? s.heap.objs.size = some (W.listOf (List.toArray acc.toList) c) := by
    rw [Array.toArray_toList]
    exact hD
  refine h _ acc.toList c h' tk (F.keeps hk) (news_pushed F N hk hD' rfl) ?_
  have hl : acc.toList.length = n := by rw [Array.length_toList]; exact hI.1
  have := ints_of acc.toList (fun i => 2 * ((i : Nat) : Int) + 2) fun j v hj => by
    obtain ⟨t, rfl⟩ := hI.2 j v (by rw [← hj, Array.getElem?_toList])
    exact ⟨t, by rw [show (2 : Int) + (j : Int) * 2 = 2 * (j : Int) + 2 by omega]⟩
  rw [hl] at this
  exact this
theorem it_sOf {k : Nat} {i : Int} {c : Nat} {ui : Tok} (hi : i = (k : Int)) (hc : u[k]? = some c) (hl : u.length ≤ 64) (h : Q (.str (sOf [c]) s.toks) { s with toks := s.toks + 1 })
    (hs : subscripted slice false (.str (sOf u) t) (.int i ui) = operate [.str (sOf u) t, .int i ui] (getItem (.str (sOf u) t) (.int i ui)) := by with_unfolding_all rfl)
    (ht : ∀ r, letTemporaryGo value (.str (sOf u) t) r = pure () := by intro _; with_unfolding_all rfl) : wpAny (model prog w) A (subscriptTail value slice (.str (sOf u) t) (.int i ui)) Q E s := by
  subst hi
  obtain ⟨hk, e⟩ := List.getElem?_eq_some_iff.mp hc
  refine item_str (fitsSsize_of (N := 9223372036854775808) (by omega) (by omega) (Int.le_refl _)) (by rw [sOf_len]; omega) (by rw [sOf_len]; omega) (fun _ => ?_) hs ht
  rw [show Txt.item (sOf u) (k : Int) = sOf [c] from ?_]
  · exact h
  · have e1 : seqIndex? (k : Int) (sOf u).length = some k := seqIdx rfl (by rw [sOf_len]; exact hk)
    have e2 : (sOf u).cps[k]? = some c := by simpa [sOf] using hc
    show Str.mk #[(Txt.charAt (sOf u) (k : Int)).getD 0] = _
    rw [Txt.charAt, e1, Option.bind_some, e2]; rfl
theorem it_neg {k : Nat} {i : Int} {c : Nat} {ui : Tok} (hc : u[u.length - 1 - k]? = some c) (hk : k < u.length) (hi : i = -(k : Int) - 1) (hl : u.length ≤ 64) (h : Q (.str (sOf [c]) s.toks) { s with toks := s.toks + 1 })
    (hs : subscripted slice false (.str (sOf u) t) (.int i ui) = operate [.str (sOf u) t, .int i ui] (getItem (.str (sOf u) t) (.int i ui)) := by with_unfolding_all rfl)
    (ht : ∀ r, letTemporaryGo value (.str (sOf u) t) r = pure () := by intro _; with_unfolding_all rfl) : wpAny (model prog w) A (subscriptTail value slice (.str (sOf u) t) (.int i ui)) Q E s := by
  refine item_str (fitsSsize_of (N := 9223372036854775808) (by omega) (by omega) (Int.le_refl _)) (by rw [sOf_len]; omega) (by rw [sOf_len]; omega) (fun _ => ?_) hs ht
  rw [show Txt.item (sOf u) i = sOf [c] from ?_]
  · exact h
  · have e1 : seqIndex? i (sOf u).length = some (u.length - 1 - k) := by
      subst hi
      rw [sOf_len]
      unfold seqIndex?
      have h3 : (-(k : Int) - 1) < 0 := by omega
      have h4 : (0 : Int) ≤ -(k : Int) - 1 + (u.length : Int) := by omega
      have h5 : -(k : Int) - 1 + (u.length : Int) < (u.length : Int) := by omega
      simp [h3, h4, h5]
      omega
    have e2 : (sOf u).cps[u.length - 1 - k]? = some c := by simpa [sOf] using hc
    show Str.mk #[(Txt.charAt (sOf u) i).getD 0] = _
    rw [Txt.charAt, e1, Option.bind_some, e2]; rfl
end
local macro_rules | `(tactic| walk_at "subscriptTail Name Slice str ref") => `(tactic| ((first | (refine sl_from (by assumption) (by omega) (by omega) (by assumption) (by assumption) ?_) | (refine sl_to (by assumption) (by first | rfl | omega) (by omega) (by omega) (by omega) (by assumption) (by assumption) ?_) | (refine sl_all (by assumption) (by omega) (by assumption) (by assumption) ?_)); intro h' t' k' F' N'))
local macro_rules | `(tactic| walk_at "subscriptTail Name Name str int") => `(tactic| ((first | (refine it_sOf (by rfl) (by assumption) (by omega) ?_) | (refine it_neg (by assumption) (by assumption) (by omega) (by omega) ?_))))
local macro_rules | `(tactic| walk_at "subscriptTail Name BinOp str int") => `(tactic| ((first | (refine it_sOf (by rfl) (by assumption) (by omega) ?_) | (refine it_neg (by assumption) (by assumption) (by omega) (by omega) ?_))))
local macro_rules | `(tactic| walk_at "truthy str") => `(tactic| (refine tr_sOf (by first | omega | (simp only [List.length_cons, List.length_nil]; omega)) ?_; (try rw [(by assumption : List.isEmpty _ = false)]); (try simp only [List.isEmpty_cons, List.isEmpty_nil, Bool.not_false, Bool.not_true])))
local macro_rules | `(tactic| walk_at "call type:list") => `(tactic| (refine list_range2 rfl (by assumption) (by assumption) (by assumption) (by omega) ?_; intro D' us' c' h' tk' F' N' I'))
local macro_rules | `(tactic| walk_at "call builtin:len") => `(tactic| ((first | refine len_sOfE (by assumption) (by omega) ?_ | refine len_sOf (by first | omega | (simp only [List.length_cons, List.length_nil]; omega)) ?_)))
section
variable {w : World} {loose : List Str} {mean : ExcName → Option Value} {mg mb : Str → Option Value} {A : Around} {base : Heap} {outer : List Env} {s : Shared} {Q E : Value → Shared → Prop}
set_option maxHeartbeats 8000000 in
theorem lev_call {u v : List Nat} {ta tb tm : Tok} {mc : Int} (G : Gr w loose mean mg mb A base outer s.heap)
    (hd : A.depth + 2 < recursionLimit) (hu : A.units + 16 < cLine) (hul : u.length ≤ 4) (hvl : v.length ≤ 4) (hLu : ∀ c ∈ u, isL c) (hLv : ∀ c ∈ v, isL c)
    (hret : ∀ r t h' tk', LevRes u v mc r → Kp s.heap h' → Q (.int r t) { s with heap := h', toks := tk' }) :
    wpAny (model PySem.Challenge.rw_pk0111_01.row.prog w) A (call (.ref 115) [.str (sOf u) ta, .str (sOf v) tb, .int mc tm]) Q E s := by
  w_top off
  obtain ⟨hdl, dp, fr, gd, un⟩ := A
  obtain ⟨hh, B, X, T⟩ := G
  have hs := B.stack
  dsimp only at hh hs hd hu
  subst hh hs
  revert X; k_fill; intro X
  refine wpAny_call ?_
  k_dflt (refine' code_pure ?k1 ?k2 ?k3 ?k6 ?k7 ?k8 ?k9 ?kB ?_ ?c2 ?c3 ?c4 ?c5; (case k1 => k_asm); (case k2 => k_asm); (case k3 => k_asm);(case k6 => k_is); (case k7 => k_is); (case k8 => ktr_room); (case k9 => exact BindsTo.of_eq rfl); (case c5 => decide); (case kB => exact locs rfl); (case c2 => exact rfl); (case c3 => exact rfl); (case c4 => exact rfl))
  rintro _ L' h' rfl F' N' B' X' T'
  (try dsimp only); (try k_fold)
  repeat' (first | (k_unfold; (try dsimp only)) | ((fail_if_success (with_reducible show wpAny _ _ (exec (Stmt.While _ _ _ _) _) _ _ _)); first | walk1 | (dsimp only; walk1)))
  · refine hret 0 _ _ _ (.inl ⟨?_, rfl⟩) F'.keep
    rename (sOf u == sOf v) = true => h
    exact sOf_inj (beq_iff_eq.mp h)
  · rename Fr _ _ _ _ => F6
    refine wpAny_mono (Q := fun f s' => End (f = Flow.next ∧ Ex5 fun k t m h₁ tk₁ => And9 (s' = { s with heap := h₁, toks := tk₁ }) (k ≤ u.length) (k ≤ v.length) (u.take k = v.take k) (Fr s.heap L' h₁ m) (m (Str.ofString "pre") = some (.int (k : Nat) t)) (m (Str.ofString "a") = some (.str (sOf u) ta)) (m (Str.ofString "b") = some (.str (sOf v) tb)) (m (Str.ofString "max_cost") = some (.int mc tm)))) (whl_start 0 (whl_inv (fun n s₁ => Ex5 fun k t m h₁ tk₁ => And10 (s₁ = { s with heap := h₁, toks := tk₁ }) (u.length - k = n) (k ≤ u.length) (k ≤ v.length) (u.take k = v.take k) (Fr s.heap L' h₁ m) (m (Str.ofString "pre") = some (.int (k : Nat) t)) (m (Str.ofString "a") = some (.str (sOf u) ta)) (m (Str.ofString "b") = some (.str (sOf v) tb)) (m (Str.ofString "max_cost") = some (.int mc tm))) ?_ ?_ u.length _ ?_ _)) ?_ (fun _ _ h => h)
    · first | passes_own | with_unfolding_all passes_own
    · clear F6
      rintro n s₁ ⟨k, t, m, h₁, tk₁, rfl, hn, hk1, hk2, heq, F2, m1, m2, m3, m4⟩ ih
      rw [pin4 m1 m2 m3 m4] at F2
      clear m1 m2 m3 m4
      have N2 : News s.heap L' h₁ [] := News.nil
      try dsimp only at F2 N2 ⊢
      rcases hdu : u.drop k with _ | ⟨x, u'⟩
      · repeat' (first | (k_unfold; (try dsimp only)) | ((fail_if_success (with_reducible show WhlRest _ _ _ _ _ _ _ _ _ _ _));first | walk1 | (dsimp only; walk1)))
        rename Fr _ _ _ _ => F7
        exact End.mk ⟨rfl, k, _, _, _, _, rfl, hk1, hk2, heq, F7, rfl, rfl, rfl, rfl⟩
      · rcases hdv : v.drop k with _ | ⟨y, v'⟩
        · have hxl : (x :: u').length ≤ 64 := by rw [← hdu, List.length_drop]; omega
          simp only [List.length_cons] at hxl
          repeat' (first | (k_unfold; (try dsimp only)) | ((fail_if_success (with_reducible show WhlRest _ _ _ _ _ _ _ _ _ _ _));first | walk1 | (dsimp only; walk1)))
          rename Fr _ _ _ _ => F7
          exact End.mk ⟨rfl, k, _, _, _, _, rfl, hk1, hk2, heq, F7, rfl, rfl, rfl, rfl⟩
        · have hxl : (x :: u').length ≤ 64 := by rw [← hdu, List.length_drop]; omega
          have hyl : (y :: v').length ≤ 64 := by rw [← hdv, List.length_drop]; omega
          simp only [List.length_cons] at hxl hyl
          have hux : u[k]? = some x := by rw [← List.head?_drop, hdu]; rfl
          have hvy : v[k]? = some y := by rw [← List.head?_drop, hdv]; rfl
          have hku := (List.getElem?_eq_some_iff.mp hux).1
          have hkv := (List.getElem?_eq_some_iff.mp hvy).1
          repeat' (first | (k_unfold; (try dsimp only)) | ((fail_if_success (with_reducible show WhlRest _ _ _ _ _ _ _ _ _ _ _));first | walk1 | (dsimp only; walk1)))
          · rename Fr _ _ _ _ => F7
            rename (sOf [x] == sOf [y]) = true => hxy
            rw [one_eq] at hxy
            have hxy := of_decide_eq_true hxy
            subst hxy
            refine ih (u.length - (k + 1)) _ (by omega) ⟨k + 1, _, _, _, _, rfl, rfl, by omega, by omega, ?_, F7, rfl, rfl, rfl, rfl⟩ _
            rw [List.take_add_one, List.take_add_one, hux, hvy, heq]
          · rename Fr _ _ _ _ => F7
            exact End.mk ⟨rfl, k, _, _, _, _, rfl, hk1, hk2, heq, F7, rfl, rfl, rfl, rfl⟩
    · exact ⟨0, _, _, _, _, rfl, rfl, Nat.zero_le _, Nat.zero_le _, rfl, F6, rfl, rfl, rfl, rfl⟩
    · rintro f s' ⟨rfl, k, t, m, h₁, tk₁, rfl, hk1, hk2, heq, F2, m1, m2, m3, m4⟩
      rw [pin4 m1 m2 m3 m4] at F2
      clear F6 m1 m2 m3 m4
      have N2 : News s.heap L' h₁ [] := News.nil
      try dsimp only at F2 N2 ⊢
      obtain ⟨u1, hu1⟩ : ∃ u1, u.drop k = u1 := ⟨_, rfl⟩
      obtain ⟨v1, hv1⟩ : ∃ v1, v.drop k = v1 := ⟨_, rfl⟩
      have lu1 : u1.length ≤ 4 := by rw [← hu1, List.length_drop]; omega
      have lv1 : v1.length ≤ 4 := by rw [← hv1, List.length_drop]; omega
      repeat' (first | (k_unfold; (try dsimp only)) | ((fail_if_success (with_reducible show wpAny _ _ (exec (Stmt.While _ _ _ _) _) _ _ _)); first | walk1 | (dsimp only; walk1)))
      rename Fr _ _ _ _ => F6
      refine wpAny_mono (Q := fun f s' => End (f = Flow.next ∧ Ex8 fun j p t ta tb m h₁ tk₁ => And10 (s' = { s with heap := h₁, toks := tk₁ }) (p = -((j : Nat) : Int)) (j ≤ u1.length) (j ≤ v1.length) (u1.drop (u1.length - j) = v1.drop (v1.length - j)) (Fr s.heap L' h₁ m) (m (Str.ofString "post") = some (.int p t)) (m (Str.ofString "a") = some (.str (sOf u1) ta)) (m (Str.ofString "b") = some (.str (sOf v1) tb)) (m (Str.ofString "max_cost") = some (.int mc tm)))) (whl_start 0 (whl_inv (fun n s₁ => Ex8 fun j p t ta tb m h₁ tk₁ => And11 (s₁ = { s with heap := h₁, toks := tk₁ }) (u1.length - j = n) (p = -((j : Nat) : Int)) (j ≤ u1.length) (j ≤ v1.length) (u1.drop (u1.length - j) = v1.drop (v1.length - j)) (Fr s.heap L' h₁ m) (m (Str.ofString "post") = some (.int p t)) (m (Str.ofString "a") = some (.str (sOf u1) ta)) (m (Str.ofString "b") = some (.str (sOf v1) tb)) (m (Str.ofString "max_cost") = some (.int mc tm))) ?_ ?_ u1.length _ ?_ _)) ?_ (fun _ _ h => h)
      · first | passes_own | with_unfolding_all passes_own
      · clear F6
        rintro n s₁ ⟨j, p, t, ta', tb', m, h₁, tk₁, rfl, hn, hp, hj1, hj2, heq2, F2, m1, m2, m3, m4⟩ ih
        rw [pin4 m1 m2 m3 m4] at F2
        clear m1 m2 m3 m4
        have N2 : News s.heap L' h₁ [] := News.nil
        try dsimp only at F2 N2 ⊢
        rcases Nat.eq_zero_or_pos j with rfl | hjp
        · have hp0 : p = 0 := by rw [hp]; rfl
          subst hp0
          obtain ⟨ua, hua⟩ : ∃ ua, u1.take (u1.length - 0) = ua := ⟨_, rfl⟩
          obtain ⟨va, hva⟩ : ∃ va, v1.take (v1.length - 0) = va := ⟨_, rfl⟩
          have hual := congrArg List.length hua
          have hval := congrArg List.length hva
          rw [List.length_take] at hual hval
          have hua0 : u1 = ua := by simpa using hua
          have hva0 : v1 = va := by simpa using hva
          rcases ua with _ | ⟨x, u'⟩
          · repeat' (first | (k_unfold; (try dsimp only)) | ((fail_if_success (with_reducible show WhlRest _ _ _ _ _ _ _ _ _ _ _));first | walk1 | (dsimp only; walk1)))
            rename Fr _ _ _ _ => F7
            exact End.mk ⟨rfl, 0, _, _, _, _, _, _, _, rfl, hp, hj1, hj2, heq2, F7, rfl, rfl, rfl, rfl⟩
          · rcases va with _ | ⟨y, v'⟩
            · simp only [List.length_cons, List.length_nil] at hual hval
              repeat' (first | (k_unfold; (try dsimp only)) | ((fail_if_success (with_reducible show WhlRest _ _ _ _ _ _ _ _ _ _ _));first | walk1 | (dsimp only; walk1)))
              rename Fr _ _ _ _ => F7
              exact End.mk ⟨rfl, 0, _, _, _, _, _, _, _, rfl, hp, hj1, hj2, heq2, F7, rfl, rfl, rfl, rfl⟩
            · simp only [List.length_cons, List.length_nil] at hual hval
              have hju : 0 < u1.length := by omega
              have hjv : 0 < v1.length := by omega
              obtain ⟨c, hc⟩ : ∃ c, u1[u1.length - 1 - 0]? = some c := ⟨_, List.getElem?_eq_getElem (by omega)⟩
              obtain ⟨d, hd'⟩ : ∃ d, v1[v1.length - 1 - 0]? = some d := ⟨_, List.getElem?_eq_getElem (by omega)⟩
              repeat' (first | (k_unfold; (try dsimp only)) | ((fail_if_success (with_reducible show WhlRest _ _ _ _ _ _ _ _ _ _ _));first | walk1 | (dsimp only; walk1)))
              · rename Fr _ _ _ _ => F7
                rename (sOf [c] == sOf [d]) = true => hxy
                rw [one_eq] at hxy
                have hxy := of_decide_eq_true hxy
                subst hxy
                exact ih (u1.length - (0 + 1)) _ (by omega) ⟨0 + 1, _, _, _, _, _, _, _, rfl, rfl, by omega, by omega, by omega, suff_step hju hjv hc hd' heq2, F7, rfl, rfl, rfl, rfl⟩ _
              · rename Fr _ _ _ _ => F7
                exact End.mk ⟨rfl, 0, _, _, _, _, _, _, _, rfl, hp, hj1, hj2, heq2, F7, rfl, rfl, rfl, rfl⟩
        · have hp0 : p ≠ 0 := by omega
          obtain ⟨ua, hua⟩ : ∃ ua, u1.take (u1.length - j) = ua := ⟨_, rfl⟩
          obtain ⟨va, hva⟩ : ∃ va, v1.take (v1.length - j) = va := ⟨_, rfl⟩
          have hual := congrArg List.length hua
          have hval := congrArg List.length hva
          rw [List.length_take] at hual hval
          rcases ua with _ | ⟨x, u'⟩
          · repeat' (first | (k_unfold; (try dsimp only)) | (rename p = 0 => hz; exact absurd hz hp0) | ((fail_if_success (with_reducible show WhlRest _ _ _ _ _ _ _ _ _ _ _));first | walk1 | (dsimp only; walk1)))
            rename Fr _ _ _ _ => F7
            exact End.mk ⟨rfl, j, _, _, _, _, _, _, _, rfl, hp, hj1, hj2, heq2, F7, rfl, rfl, rfl, rfl⟩
          · rcases va with _ | ⟨y, v'⟩
            · simp only [List.length_cons, List.length_nil] at hual hval
              repeat' (first | (k_unfold; (try dsimp only)) | (rename p = 0 => hz; exact absurd hz hp0) | ((fail_if_success (with_reducible show WhlRest _ _ _ _ _ _ _ _ _ _ _));first | walk1 | (dsimp only; walk1)))
              rename Fr _ _ _ _ => F7
              exact End.mk ⟨rfl, j, _, _, _, _, _, _, _, rfl, hp, hj1, hj2, heq2, F7, rfl, rfl, rfl, rfl⟩
            · simp only [List.length_cons, List.length_nil] at hual hval
              have hju : j < u1.length := by omega
              have hjv : j < v1.length := by omega
              obtain ⟨c, hc⟩ : ∃ c, u1[u1.length - 1 - j]? = some c := ⟨_, List.getElem?_eq_getElem (by omega)⟩
              obtain ⟨d, hd'⟩ : ∃ d, v1[v1.length - 1 - j]? = some d := ⟨_, List.getElem?_eq_getElem (by omega)⟩
              repeat' (first | (k_unfold; (try dsimp only)) | (rename p = 0 => hz; exact absurd hz hp0) | ((fail_if_success (with_reducible show WhlRest _ _ _ _ _ _ _ _ _ _ _));first | walk1 | (dsimp only; walk1)))
              · rename Fr _ _ _ _ => F7
                rename (sOf [c] == sOf [d]) = true => hxy
                rw [one_eq] at hxy
                have hxy := of_decide_eq_true hxy
                subst hxy
                exact ih (u1.length - (j + 1)) _ (by omega) ⟨j + 1, _, _, _, _, _, _, _, rfl, rfl, by omega, by omega, by omega, suff_step hju hjv hc hd' heq2, F7, rfl, rfl, rfl, rfl⟩ _
              · rename Fr _ _ _ _ => F7
                exact End.mk ⟨rfl, j, _, _, _, _, _, _, _, rfl, hp, hj1, hj2, heq2, F7, rfl, rfl, rfl, rfl⟩
      · exact ⟨0, 0, _, _, _, _, _, _, rfl, rfl, rfl, Nat.zero_le _, Nat.zero_le _, by simp, F6, rfl, rfl, rfl, rfl⟩
      · rintro f s' ⟨rfl, j, p, t, ta', tb', m, h₁, tk₁, rfl, hp, hj1, hj2, heq2, F2, m1, m2, m3, m4⟩
        rw [pin4 m1 m2 m3 m4] at F2
        clear F6 m1 m2 m3 m4
        have N2 : News s.heap L' h₁ [] := News.nil
        try dsimp only at F2 N2 ⊢
        obtain ⟨u2, hu2⟩ : ∃ u2, u1.take (u1.length - j) = u2 := ⟨_, rfl⟩
        obtain ⟨v2, hv2⟩ : ∃ v2, v1.take (v1.length - j) = v2 := ⟨_, rfl⟩
        have lu2 : u2.length ≤ 4 := by rw [← hu2, List.length_take]; omega
        have lv2 : v2.length ≤ 4 := by rw [← hv2, List.length_take]; omega
        have eu : u = u.take k ++ u2 ++ u1.drop (u1.length - j) := by rw [← hu2, List.append_assoc, List.take_append_drop, ← hu1, List.take_append_drop]
        have ev : v = u.take k ++ v2 ++ u1.drop (u1.length - j) := by rw [← hv2, heq2, List.append_assoc, List.take_append_drop, ← hv1, heq, List.take_append_drop]
        repeat' (first | (k_unfold; (try dsimp only)) | ((fail_if_success (with_reducible show wpAny _ _ (exec (Stmt.Assign _ _ _) _) _ _ _)); first | walk1 | (dsimp only; walk1)))
        refine wpAny_mono (Q := fun f s' => End (f = Flow.next ∧ Ex5 fun ta tb m h₁ tk₁ => And6 (s' = { s with heap := h₁, toks := tk₁ }) (Fr s.heap L' h₁ m) (m (Str.ofString "post") = some (.int p t)) (m (Str.ofString "a") = some (.str (sOf u2) ta)) (m (Str.ofString "b") = some (.str (sOf v1) tb)) (m (Str.ofString "max_cost") = some (.int mc tm)))) ?_ ?_ (fun _ _ h => h)
        · rcases Nat.eq_zero_or_pos j with rfl | hjp
          · have hp0 : p = 0 := by rw [hp]; rfl
            subst hp0
            have h0 : u1 = u2 := by simpa using hu2
            repeat' (first | (k_unfold; (try dsimp only)) | (first | walk1 | (dsimp only; walk1)))
            rename Fr _ _ _ _ => F7
            exact End.mk ⟨rfl, _, _, _, _, _, rfl, F7, rfl, rfl, rfl, rfl⟩
          · have hp0 : p ≠ 0 := by omega
            repeat' (first | (k_unfold; (try dsimp only)) | (rename p = 0 => hz; exact absurd hz hp0) | (first | walk1 | (dsimp only; walk1)))
            rename Fr _ _ _ _ => F7
            exact End.mk ⟨rfl, _, _, _, _, _, rfl, F7, rfl, rfl, rfl, rfl⟩
        clear F2 N2
        rintro f s' ⟨rfl, ta', tb', m, h₁, tk₁, rfl, F2, m1, m2, m3, m4⟩
        rw [pin4 m1 m2 m3 m4] at F2
        clear m1 m2 m3 m4
        have N2 : News s.heap L' h₁ [] := News.nil
        try dsimp only at F2 N2 ⊢
        repeat' (first | (k_unfold; (try dsimp only)) | ((fail_if_success (with_reducible show wpAny _ _ (exec (Stmt.Assign _ _ _) _) _ _ _)); first | walk1 | (dsimp only; walk1)))
        refine wpAny_mono (Q := fun f s' => End (f = Flow.next ∧ Ex5 fun ta tb m h₁ tk₁ => And6 (s' = { s with heap := h₁, toks := tk₁ }) (Fr s.heap L' h₁ m) (m (Str.ofString "post") = some (.int p t)) (m (Str.ofString "a") = some (.str (sOf u2) ta)) (m (Str.ofString "b") = some (.str (sOf v2) tb)) (m (Str.ofString "max_cost") = some (.int mc tm)))) ?_ ?_ (fun _ _ h => h)
        · rcases Nat.eq_zero_or_pos j with rfl | hjp
          · have hp0 : p = 0 := by rw [hp]; rfl
            subst hp0
            have h0 : v1 = v2 := by simpa using hv2
            repeat' (first | (k_unfold; (try dsimp only)) | (first | walk1 | (dsimp only; walk1)))
            rename Fr _ _ _ _ => F7
            exact End.mk ⟨rfl, _, _, _, _, _, rfl, F7, rfl, rfl, rfl, rfl⟩
          · have hp0 : p ≠ 0 := by omega
            repeat' (first | (k_unfold; (try dsimp only)) | (rename p = 0 => hz; exact absurd hz hp0) | (first | walk1 | (dsimp only; walk1)))
            rename Fr _ _ _ _ => F7
            exact End.mk ⟨rfl, _, _, _, _, _, rfl, F7, rfl, rfl, rfl, rfl⟩
        clear F2 N2
        rintro f s' ⟨rfl, ta', tb', m, h₁, tk₁, rfl, F2, m1, m2, m3, m4⟩
        rw [pin4 m1 m2 m3 m4] at F2
        clear m1 m2 m3 m4
        have N2 : News s.heap L' h₁ [] := News.nil
        try dsimp only at F2 N2 ⊢
        clear hu2 hv2 heq heq2 hp hj1 hj2 hu1 hv1 hk1 hk2 lu1 lv1
        generalize u.take k = pp at *
        generalize u1.drop (u1.length - j) = qq at *
        rcases hnu : u2.isEmpty with _ | _
        · rcases hnv : v2.isEmpty with _ | _
          · repeat' (first | (k_unfold; (try dsimp only)) | ((fail_if_success (with_reducible show wpAny _ _ (exec (Stmt.If (Expr.Compare _ [CmpOp.Lt] _ _) _ _ _) _) _ _ _)); first | walk1 | (dsimp only; walk1)))
            refine wpAny_mono (Q := fun f s' => End (f = Flow.next ∧ Ex7 fun a b ta tb m h₁ tk₁ => And6 (s' = { s with heap := h₁, toks := tk₁ }) (((a = u2 ∧ b = v2 ∧ u2.length ≤ v2.length) ∨ (a = v2 ∧ b = u2 ∧ v2.length < u2.length))) (Fr s.heap L' h₁ m) (m (Str.ofString "a") = some (.str (sOf a) ta)) (m (Str.ofString "b") = some (.str (sOf b) tb)) (m (Str.ofString "max_cost") = some (.int mc tm)))) ?_ ?_ (fun _ _ h => h)
            · repeat' (first | (k_unfold; (try dsimp only)) | (first | walk1 | (dsimp only; walk1)))
              · rename Fr _ _ _ _ => F7
                exact End.mk ⟨rfl, v2, u2, _, _, _, _, _, rfl, .inr ⟨rfl, rfl, by omega⟩, F7, rfl, rfl, rfl⟩
              · rename Fr _ _ _ _ => F7
                exact End.mk ⟨rfl, u2, v2, _, _, _, _, _, rfl, .inl ⟨rfl, rfl, by omega⟩, F7, rfl, rfl, rfl⟩
            clear F2 N2
            rintro f s' ⟨rfl, a, b, ta', tb', m, h₁, tk₁, rfl, hab, F2, m1, m2, m3⟩
            rw [pin3 m1 m2 m3] at F2
            clear m1 m2 m3
            have N2 : News s.heap L' h₁ [] := News.nil
            have la : a.length ≤ 4 := by rcases hab with ⟨rfl, -, -⟩ | ⟨rfl, -, -⟩ <;> assumption
            have lb : b.length ≤ 4 := by rcases hab with ⟨-, rfl, -⟩ | ⟨-, rfl, -⟩ <;> assumption
            have lab : a.length ≤ b.length := by rcases hab with ⟨rfl, rfl, h⟩ | ⟨rfl, rfl, h⟩ <;> omega
            have hna : a ≠ [] := by rcases hab with ⟨rfl, rfl, h⟩ | ⟨rfl, rfl, h⟩ <;> (rintro rfl; simp at hnu hnv)
            have hLa : ∀ c ∈ a, isL c := by
              rcases hab with ⟨rfl, -, -⟩ | ⟨rfl, -, -⟩
              · intro c hc; exact hLu c (by rw [eu]; simp [hc])
              · intro c hc; exact hLv c (by rw [ev]; simp [hc])
            have hLb : ∀ c ∈ b, isL c := by
              rcases hab with ⟨-, rfl, -⟩ | ⟨-, rfl, -⟩
              · intro c hc; exact hLv c (by rw [ev]; simp [hc])
              · intro c hc; exact hLu c (by rw [eu]; simp [hc])
            have hcut : mc < ((b.length : Nat) - (a.length : Nat) : Int) * 2 → LevRes u v mc (mc + 1) := fun h => .inr ⟨pp, qq, u2, v2, eu, ev, .inr (.inl ⟨rfl, by rcases hab with ⟨rfl, rfl, _⟩ | ⟨rfl, rfl, _⟩<;> first | exact .inl h | exact .inr h⟩)⟩
            have hdp : ∀ r, LevDP a b mc r → LevRes u v mc r := fun r h => .inr ⟨pp, qq, u2, v2, eu, ev, by rcases hab with ⟨rfl, rfl, h'⟩ | ⟨rfl, rfl, h'⟩ <;> first | exact .inr (.inr (.inl ⟨hna, h', h⟩)) | exact .inr (.inr (.inr ⟨hna, h', h⟩))⟩
            clear hab eu ev hnu hnv lu2 lv2
            repeat' (first | (k_unfold; (try dsimp only)) | ((fail_if_success (with_reducible show wpAny _ _ (exec (Stmt.Assign [Expr.Name (Str.ofString "row") _] _ _) _) _ _ _)); first | walk1 | (dsimp only; walk1)))
            · exact hret _ _ _ _ (hcut (by assumption)) F2.keep
            refine wpAny_mono (Q := fun f s' => End (f = Flow.next ∧ Ex6 fun D its kk m h₁ tk₁ => And8 (s' = { s with heap := h₁, toks := tk₁ }) (Fr s.heap L' h₁ m) (News s.heap L' h₁ [(D, W.listOf its.toArray kk)]) (IntsAre its (out a b 0).1) (m (Str.ofString "row") = some (.ref D)) (m (Str.ofString "a") = some (.str (sOf a) ta')) (m (Str.ofString "b") = some (.str (sOf b) tb')) (m (Str.ofString "max_cost") = some (.int mc tm)))) ?_ ?_ (fun _ _ h => h)
            · repeat' (first | (k_unfold; (try dsimp only)) | (first | walk1 | (dsimp only; walk1)))
              rename Fr _ _ _ _ => F7
              rename News _ _ _ _ => N7
              rename IntsAre _ _ => I7
              exact End.mk ⟨by trivial, _, _, _, _, _, _, rfl, F7, N7, I7, rfl, rfl, rfl, rfl⟩
            clear F2 N2
            rintro f s' ⟨rfl, D, its, kk, m, h₁, tk₁, rfl, F2, N2, I2, m1, m2, m3, m4⟩
            rw [pin4 m1 m2 m3 m4] at F2
            clear m1 m2 m3 m4
            repeat' (first | (k_unfold; (try dsimp only)) | ((fail_if_success (with_reducible show wpAny _ _ (pyIter _) _ _ _)); first | walk1 | (dsimp only; walk1)))
            rename Fr _ _ _ _ => F6
            rename News _ _ _ _ => N6
            rename (IsRange _ _ _ _ _ _ _ _) => hrg
            refine for_src (as := List.range b.length) (K := fun i v => ∃ t, v = .int (i : Nat) t) (fun j m₁ news₁ => Ex3 fun its kk tr => And7 (news₁ = [(D, W.listOf its.toArray kk)]) (IntsAre its (out a b j).1) (m₁ (Str.ofString "row") = some (.ref D)) (m₁ (Str.ofString "a") = some (.str (sOf a) ta')) (m₁ (Str.ofString "b") = some (.str (sOf b) tb')) (m₁ (Str.ofString "max_cost") = some (.int mc tm)) (m₁ (Str.ofString "result") = some (.int (out a b j).2 tr))) (src_range rfl hrg (by omega)) (fun _ h => nomatch h) F6 N6 ?_ ?_ ?_
            · exact ⟨_, _, _, rfl, I2, rfl, rfl, rfl, rfl, rfl⟩
            · clear F6 N6 I2 hrg
              rintro j c v₁ m₁ news₁ h₁ tk₁ own hi ⟨tv, rfl⟩ ⟨its, kk, tr, rfl, I2, m1, m2, m3, m4, m5⟩ hoff F5 N5
              rw [pin4 m1 m2 m3 m4] at F5
              obtain ⟨hi6, hic⟩ := List.getElem?_eq_some_iff.mp hi
              rw [List.getElem_range] at hic
              subst hic
              rw [List.length_range] at hi6
              clear m1 m2 m3 m4 m5
              simp only [List.cons_append, List.nil_append, List.map_cons, List.map_nil] at N5 hoff
              obtain ⟨y, hy⟩ : ∃ y, b[j]? = some y := ⟨_, List.getElem?_eq_getElem hi6⟩
              repeat' (first | (k_unfold; (try dsimp only)) | ((fail_if_success (with_reducible show wpAny _ _ (pyIter _) _ _ _)); first | walk1 | (dsimp only; walk1)))
              rename Fr _ _ _ _ => F6
              rename News _ _ _ _ => N6
              rename (IsRange _ _ _ _ _ _ _ _) => hrg
              have hyD : b.getD j 0 = y := by rw [List.getD_eq_getElem?_getD, hy]; rfl
              have hly : isL y := hLb y (List.mem_of_getElem? hy)
              refine for_src (as := List.range a.length) (K := fun i v => ∃ t, v = .int (i : Nat) t) (fun i m₁ news₁ => Ex6 fun its kk tc td tr tn => And10 (news₁ = (D, W.listOf its.toArray kk) :: own) (IntsAre its (inn (b.getD j 0) a (out a b j).1 ((j : Nat) * 2) i).row) (m₁ (Str.ofString "row") = some (.ref D)) (m₁ (Str.ofString "a") = some (.str (sOf a) ta')) (m₁ (Str.ofString "b") = some (.str (sOf b) tb')) (m₁ (Str.ofString "max_cost") = some (.int mc tm)) (m₁ (Str.ofString "bchar") = some (.str (sOf [y]) tc)) (m₁ (Str.ofString "distance") = some (.int (inn (b.getD j 0) a (out a b j).1 ((j : Nat) * 2) i).dist td)) (m₁ (Str.ofString "result") = some (.int (inn (b.getD j 0) a (out a b j).1 ((j : Nat) * 2) i).res tr)) (m₁ (Str.ofString "minimum") = some (.int (inn (b.getD j 0) a (out a b j).1 ((j : Nat) * 2) i).mi tn))) (src_range rfl hrg (by omega)) (fun _ h => nomatch h) F6 N6 ?_ ?_ ?_
              · exact ⟨_, _, _, _, _, _, rfl, I2, rfl, rfl, rfl, rfl, rfl, rfl, rfl, rfl⟩
              · clear F6 N6 I2 hrg
                rintro i c v₁ m₁ news₁ h₁ tk₁ own' hi ⟨tv, rfl⟩ ⟨its, kk, tc, td, tr, tn, rfl, I2, m1, m2, m3, m4, m5, m6, m7, m8⟩ hoff' F5 N5
                rw [pin8 m1 m2 m3 m4 m5 m6 m7 m8] at F5
                clear m1 m2 m3 m4 m5 m6 m7 m8
                obtain ⟨hi6', hic⟩ := List.getElem?_eq_some_iff.mp hi
                rw [List.getElem_range] at hic
                subst hic
                rw [List.length_range] at hi6'
                simp only [List.cons_append, List.nil_append, List.map_cons, List.map_nil] at N5 hoff'
                obtain ⟨x, hx⟩ : ∃ x, a[i]? = some x := ⟨_, List.getElem?_eq_getElem hi6'⟩
                have hxD : a.getD i 0 = x := by rw [List.getD_eq_getElem?_getD, hx]; rfl
                have hlx : isL x := hLa x (List.mem_of_getElem? hx)
                have hrl := (inn_len (y := b.getD j 0) (a := a) (old := (out a b j).1) (d0 := (j : Nat) * 2) i).trans (out_len j)
                have hil := I2.length
                generalize hI : inn (b.getD j 0) a (out a b j).1 ((j : Nat) * 2) i = I at *
                repeat' (first | (k_unfold; (try dsimp only)) | ((fail_if_success (with_reducible show wpAny _ _ (call (Value.ref _) _) _ _ _)); first | walk1 | (dsimp only; walk1)))
                rename Fr _ _ _ _ => F7
                rename News _ _ _ _ => N7
                refine sub_call (Gr.inner B' X' T' F7 rfl rfl rfl) (by show dp + 1 + 1 < _; omega) (by show un + 3 + 8 < _; omega) hly hlx ?_
                intro t' h8 tk8 hk8
                have F8 := F7.keeps hk8
                have N8 := N7.grown hk8
                clear F7 N7
                dsimp only at F8 N8 ⊢
                repeat' (first | (k_unfold; (try dsimp only)) | (first | walk1 | (dsimp only; walk1)))
                rename Fr _ _ _ _ => F7
                rename News _ _ _ _ => N7
                have hro : ∀ p ∈ own ++ own', p.1 ≠ D := fun p hp => (List.mem_append.mp hp).elim (fun h => hoff p h D (.head _)) fun h => hoff' p h D (.head _)
                refine ksa_set F7 N7 (Upd.head hro) I2 (by omega) (by omega) (by omega) ?_
                intro h9 F9 N9 hi9 hl9 hs9
                clear F7 N7
                have hs := inn_succ hI hxD
                rw [hyD] at hs
                repeat' (first | (k_unfold; (try dsimp only)) | (first | walk1 | (dsimp only; walk1)))
                · rename Fr _ _ _ _ => F7
                  rename News _ _ _ _ => N7
                  refine TurnPost.next (news₂ := _ :: own) F7 N7 hoff' ?_
                  rw [hyD, hs]
                  rename _ < I.mi => hb
                  exact ⟨_, _, _, _, _, _, rfl, hi9, rfl, rfl, rfl, rfl, rfl, rfl, rfl, congrArg (fun z => some (Value.int z _)) (if_pos hb).symm⟩
                · rename Fr _ _ _ _ => F7
                  rename News _ _ _ _ => N7
                  refine TurnPost.next (news₂ := _ :: own) F7 N7 hoff' ?_
                  rw [hyD, hs]
                  rename ¬ _ < I.mi => hb
                  exact ⟨_, _, _, _, _, _, rfl, hi9, rfl, rfl, rfl, rfl, rfl, rfl, rfl, congrArg (fun z => some (Value.int z _)) (if_neg hb).symm⟩
              · rintro m₁ news₁ h₁ tk₁ ⟨its, kk, tc, td, tr, tn, rfl, I2, m1, m2, m3, m4, m5, m6, m7, m8⟩ F5 N5
                rw [List.length_range] at I2 m6 m7 m8
                rw [pin8 m1 m2 m3 m4 m5 m6 m7 m8] at F5
                clear m1 m2 m3 m4 m5 m6 m7 m8
                dsimp only
                repeat' (first | (k_unfold; (try dsimp only)) | (first | walk1 | (dsimp only; walk1)))
                · rename Fr _ _ _ _ => F7
                  exact hret _ _ _ _ (hdp _ (.inl ⟨j, hi6, by assumption, rfl⟩)) F7.keep
                · rename Fr _ _ _ _ => F7
                  rename News _ _ _ _ => N7
                  exact TurnPost.next (news₂ := [_]) F7 N7 hoff ⟨_, _, _, rfl, I2, rfl, rfl, rfl, rfl, rfl⟩
            · rintro m₁ news₁ h₁ tk₁ ⟨its, kk, tr, rfl, I2, m1, m2, m3, m4, m5⟩ F5 N5
              rw [List.length_range] at m5
              rw [pin m5] at F5
              dsimp only
              repeat' (first | (k_unfold; (try dsimp only)) | (first | walk1 | (dsimp only; walk1)))
              rename Fr _ _ _ _ => F7
              exact hret _ _ _ _ (hdp _ (.inr rfl)) F7.keep
          · have : v2 = [] := List.isEmpty_iff.mp hnv
            subst this
            repeat' (first | (k_unfold; (try dsimp only)) | (first | walk1 | (dsimp only; walk1)))
            rename Fr _ _ _ _ => F7
            exact hret _ _ _ _ (.inr ⟨pp, qq, u2, [], eu, ev, .inl ⟨.inr rfl, rfl⟩⟩) F7.keep
        · have : u2 = [] := List.isEmpty_iff.mp hnu
          subst this
          repeat' (first | (k_unfold; (try dsimp only)) | (first | walk1 | (dsimp only; walk1)))
          rename Fr _ _ _ _ => F7
          exact hret _ _ _ _ (.inr ⟨pp, qq, [], v2, eu, ev, .inl ⟨.inl rfl, rfl⟩⟩) F7.keep
end
end Mine
namespace Mine
theorem paired_append {α β : Type} {F : α → β → Prop} : ∀ {l₁ l₁' : List α} {l₂ l₂' : List β}, Paired F l₁ l₂ → Paired F l₁' l₂' → Paired F (l₁ ++ l₁') (l₂ ++ l₂')
  | _, _, _, _, .nil, h => h
  | _, _, _, _, .cons x t, h => .cons x (paired_append t h)
section
variable {prog : Program} {w : World} {A : Around} {R : Result → Shared → Prop} {s : Shared}
noncomputable abbrev lc2 (elt t1 i1 t2 i2 : Expr) (scope : Scope) (pos : Pos) : Expr := .ListComp elt [⟨t1, i1, [], 0⟩, ⟨t2, i2, [], 0⟩] scope pos
theorem turn2_d1 (elt t1 i1 t2 i2 : Expr) (scope : Scope) (pos : Pos) (it acc : Value) (env : Env) :
    compTurn (lc2 elt t1 i1 t2 i2 scope pos) 1 it acc env = (standAt i2.pos >>= fun _ => pyNext it >>= fun r => match r with
      | none => pure (.done .next)
      | some v => letOwnedTupleGo t2 it v >>= fun _ => assign t2 env v >>= fun _ =>
        (eval elt env >>= fun x => call (.builtin "list.append") [acc, x] >>= fun _ => pure ()) >>= fun _ =>
          again (.compLoop (lc2 elt t1 i1 t2 i2 scope pos) 1 it acc env)) := by rfl
theorem turn2_d0 (elt t1 i1 t2 i2 : Expr) (scope : Scope) (pos : Pos) (it acc : Value) (env : Env) :
    compTurn (lc2 elt t1 i1 t2 i2 scope pos) 0 it acc env = (standAt i1.pos >>= fun _ => pyNext it >>= fun r => match r with
      | none => pure (.done .next)
      | some v => letOwnedTupleGo t1 it v >>= fun _ => assign t1 env v >>= fun _ =>
        eval i2 env >>= fun x => standAt i2.pos >>= fun _ => foldedSetIterable i2 env x >>= fun x => holding [x] (pyIter x) >>= fun it2 =>
          runOwn (.compStart (lc2 elt t1 i1 t2 i2 scope pos) 1 it2 acc env) env >>= fun _ =>
          again (.compLoop (lc2 elt t1 i1 t2 i2 scope pos) 0 it acc env)) := by rfl
theorem loop2_d1 {elt t1 i1 t2 i2 : Expr} {scope : Scope} {pos : Pos} {it acc : Value} {env : Env} (I : Nat → Shared → Prop)
    (turn : ∀ n s, I n s → wpAny (model prog w) A (pyNext it) (fun r s₁ => match r with
      | none => R (.ok .next) s₁
      | some v => wpAny (model prog w) A (assign t2 env v) (fun _ s₂ => wpAny (model prog w) A (eval elt env) (fun x s₃ =>
          wpAny (model prog w) A (call (.builtin "list.append") [acc, x]) (fun _ s₄ => ∃ m, m < n ∧ I m s₄) (notedBy (model prog w) A env fun e s' => R (.error e) s') s₃)
          (notedBy (model prog w) A env fun e s' => R (.error e) s') s₂) (notedBy (model prog w) A env fun e s' => R (.error e) s') s₁) (notedBy (model prog w) A env fun e s' => R (.error e) s') s)
    (n : Nat) (h : I n s) (ht : ∀ v, letOwnedTupleGo t2 it v = pure ()) :
    codeAny (model prog w) A (.compLoop (lc2 elt t1 i1 t2 i2 scope pos) 1 it acc env) R s := by
  refine codeAny_loop rfl I (fun n s hI => ?_) n h
  show wpAny _ _ ((compTurn (lc2 elt t1 i1 t2 i2 scope pos) 1 it acc env).onRaise (fun x => do noteFrame x env; theTreesLotGoes x)) _ _ s
  refine wpAny_noted ?_
  rw [turn2_d1]
  refine wpAny_bind (wpAny_standAt (wpAny_bind (wpAny_mono (turn n s hI) (fun r s₁ h₁ => ?_) fun _ _ h' => h')))
  cases r with
  | none => exact wpAny_pure h₁
  | some v =>
    refine wpAny_bind (wpAny_of_eq (ht v) ?_)
    exact wpAny_bind (wpAny_mono h₁ (fun _ s₂ h₂ => wpAny_bind (wpAny_bind (wpAny_mono h₂ (fun x s₃ h₃ => wpAny_bind (wpAny_mono h₃
      (fun _ s₄ h₄ => wpAny_pure (wpAny_pure ⟨rfl, h₄⟩)) fun _ _ h' => h')) fun _ _ h' => h'))) fun _ _ h' => h')
theorem loop2_d0 {elt t1 i1 t2 i2 : Expr} {scope : Scope} {pos : Pos} {it acc : Value} {env : Env} (I : Nat → Shared → Prop)
    (turn : ∀ n s, I n s → wpAny (model prog w) A (pyNext it) (fun r s₁ => match r with
      | none => R (.ok .next) s₁
      | some v => wpAny (model prog w) A (assign t1 env v) (fun _ s₂ => wpAny (model prog w) A (eval i2 env) (fun x s₃ =>
          wpAny (model prog w) A (pyIter x) (fun it2 s₄ => codeAny (model prog w) A (.compStart (lc2 elt t1 i1 t2 i2 scope pos) 1 it2 acc env)
            (fun r s₅ => r = .ok .next ∧ ∃ m, m < n ∧ I m s₅) s₄) (notedBy (model prog w) A env fun e s' => R (.error e) s') s₃)
          (notedBy (model prog w) A env fun e s' => R (.error e) s') s₂) (notedBy (model prog w) A env fun e s' => R (.error e) s') s₁) (notedBy (model prog w) A env fun e s' => R (.error e) s') s)
    (n : Nat) (h : I n s) (ht : ∀ v, letOwnedTupleGo t1 it v = pure ()) (hs : ∀ x, foldedSetIterable i2 env x = pure x) :
    codeAny (model prog w) A (.compLoop (lc2 elt t1 i1 t2 i2 scope pos) 0 it acc env) R s := by
  refine codeAny_loop rfl I (fun n s hI => ?_) n h
  show wpAny _ A ((compTurn (lc2 elt t1 i1 t2 i2 scope pos) 0 it acc env).onRaise (fun x => do noteFrame x env; theTreesLotGoes x)) _ _ s
  refine wpAny_noted ?_
  rw [turn2_d0]
  refine wpAny_bind (wpAny_standAt (wpAny_bind (wpAny_mono (turn n s hI) (fun r s₁ h₁ => ?_) fun _ _ h' => h')))
  cases r with
  | none => exact wpAny_pure h₁
  | some v =>
    refine wpAny_bind (wpAny_of_eq (ht v) ?_)
    refine wpAny_bind (wpAny_mono h₁ (fun _ s₂ h₂ => wpAny_bind (wpAny_mono h₂ (fun x s₃ h₃ => wpAny_bind (wpAny_standAt (wpAny_bind (wpAny_of_eq (hs x) (wpAny_bind (wpAny_holding (wpAny_mono h₃
      (fun it2 s₄ h₄ => wpAny_bind (wpAny_runOwn (codeAny_mono (by rw [Around.mark_none]; exact h₄) (fun r s₅ h₅ => ?_)))) fun _ _ h' => h')))))))  fun _ _ h' => h')) fun _ _ h' => h')
    obtain ⟨rfl, h₅⟩ := h₅
    exact wpAny_pure ⟨rfl, h₅⟩
theorem start2_d1 {elt t1 i1 t2 i2 : Expr} {scope : Scope} {pos : Pos} {it acc : Value} {env : Env}
    (h0 : codeAny (model prog w) A (.compLoop (lc2 elt t1 i1 t2 i2 scope pos) 1 it acc env) R s)
    (h : wpAny (model prog w) A (pyIter it) (fun it' s' => codeAny (model prog w) A (.compLoop (lc2 elt t1 i1 t2 i2 scope pos) 1 it' acc env) R s')
      (notedBy (model prog w) A env fun x s' => R (.error x) s') s) :
    codeAny (model prog w) A (.compStart (lc2 elt t1 i1 t2 i2 scope pos) 1 it acc env) R s := by
  refine codeAny_of_tree ?_
  show wpAny _ _ ((compStart (lc2 elt t1 i1 t2 i2 scope pos) 1 it acc env).onRaise (fun x => do noteFrame x env; standAt theWindowsPlace)) _ _ s
  refine wpAny_notedAt ?_
  unfold compStart
  show wpAny _ _ (ask >>= _) _ _ s
  refine wpAny_bind (wpAny_askSetting (wpAny_ite ?_))
  split
  · first
      | exact wpAny_bind (wpAny_pure (wpAny_pure (And.intro rfl h0)))
      | exact wpAny_pure (And.intro rfl h0)
  · first
      | exact wpAny_bind (wpAny_rule (wpAny_bind (wpAny_standAt (wpAny_bind (wpAny_mono h (fun it' s' h' => wpAny_pure (And.intro rfl h')) fun _ _ x => x)))))
      | (refine wpAny_bind (wpAny_rule ?_); show wpAny _ _ (standAt i2.pos >>= _) _ _ s; exact wpAny_bind (wpAny_standAt (wpAny_bind (wpAny_mono h (fun it' s' h' => wpAny_pure (And.intro rfl h')) fun _ _ x => x))))

/-- the inner clause, turn by turn -/
theorem inner2 {β : Type} {elt t1 i1 i2 : Expr} {x z : Str} {pz : Pos} {scope : Scope} {pos : Pos} {I D : Addr} {fp wr : List Addr} {n : Nat} {P : Nat → Value → Prop} {St : Nat → Heap → Prop}
    {cenv : Env} {m : Str → Option Value} {vx : Value} {ys₀ : Array Value} (W : Walks prog w A I fp wr n P St) (bs : List β) (hbs : bs.length = n) (K : β → Value → Prop) (hPK : ∀ i v a, P i v → bs[i]? = some a → K a v)
    (G : β → Value → List (Addr × Obj) → Prop) (hG : ∀ a y os os', (∀ p ∈ os, p ∈ os') → G a y os → G a y os')
    (hlive : ∀ i h, St i h → ∀ b ∈ wr, ∃ o, h.get? b = some o)
    (hz : cenv.kindOf z = some .local) (hp : (cenv.scope.kind == .class || (cenv.scope.kind == .module && cenv.locals != cenv.globals)) = false)
    (hDC : D ≠ cenv.locals) (hDf : D ∉ fp) (hCf : cenv.locals ∉ fp)
    (hst : St 0 s.heap) (hacc : s.heap.PlainList D ys₀) (hn : s.heap.Ns cenv.locals m) (hmx : m x = some vx) (hxz : x ≠ z)
    (helt : ∀ a v s₂ m₂ E', a ∈ bs → K a v → s₂.heap.Ns cenv.locals m₂ → m₂ x = some vx → m₂ z = some v → (∀ b o, b ≠ cenv.locals → b ∉ wr → b ≠ D → s.heap.get? b = some o → s₂.heap.get? b = some o) →
      wpAny (model prog w) A (eval elt cenv) (fun y s₃ => (∃ os, Fresh s₂.heap s₃.heap os ∧ G a y os) ∧ Keeps s₂ s₃) E' s₂)
    (hR : ∀ h' tk m' ys objs, h'.Ns cenv.locals m' → h'.PlainList D (ys₀ ++ ys) → (∀ p ∈ objs, h'.get? p.1 = some p.2 ∧ s.heap.get? p.1 = none ∧ p.1 ≠ cenv.locals ∧ p.1 ≠ D) → Paired (fun a y => G a y objs) bs ys.toList →
      (∀ b o, b ≠ cenv.locals → b ∉ wr → b ≠ D → s.heap.get? b = some o → h'.get? b = some o) → R (.ok .next) { s with heap := h', toks := tk })
    (hsz : ys₀.size + n ≤ sizeLine) :
    codeAny (model prog w) A (.compLoop (lc2 elt t1 i1 (.Name z pz) i2 scope pos) 1 (.ref I) (.ref D) cenv) R s := by
  refine loop2_d1
    (fun k s' => Ex6 fun h' tk m' ys objs i => And10 (s' = { s with heap := h', toks := tk }) (St i h') (h'.PlainList D (ys₀ ++ ys)) (h'.Ns cenv.locals m') (m' x = some vx) ((∀ p ∈ objs, h'.get? p.1 = some p.2 ∧ s.heap.get? p.1 = none ∧ p.1 ≠ cenv.locals ∧ p.1 ≠ D ∧ p.1 ∉ wr)) (Paired (fun a y => G a y objs) (bs.take i) ys.toList) (i ≤ n) (k = n + 1 - i) ((∀ b o, b ≠ cenv.locals → b ∉ wr → b ≠ D → s.heap.get? b = some o → h'.get? b = some o))) ?_ (n + 1)
    ⟨s.heap, s.toks, m, #[], [], 0, rfl, hst, by simpa using hacc, hn, hmx, (fun _ h => nomatch h), by simpa using Paired.nil, Nat.zero_le _, rfl, fun _ _ _ _ _ e => e⟩ (fun _ => rfl)
  rintro k s' ⟨H, tk, m', ys, objs, i, rfl, hst', hacc', hn', hmx', hob, hF, hi, rfl, hk⟩
  have hCw : cenv.locals ∉ wr := fun h => hCf (W.sub _ h)
  have hDw : D ∉ wr := fun h => hDf (W.sub _ h)
  by_cases hlt : i < n
  · refine W.item i _ _ _ hlt hst' fun v h₁ tk₁ hPv hst₁ hk₁ => ?_
    obtain ⟨a, ha⟩ : ∃ a, bs[i]? = some a := ⟨_, List.getElem?_eq_getElem (by omega)⟩
    have hKa := hPK i v a hPv ha
    have hmem : a ∈ bs := List.mem_of_getElem? ha
    have htk : (bs.take (i + 1)) = bs.take i ++ [a] := by rw [List.take_add_one, ha]; rfl
    refine wpAny_assign_Name (wpAny_storeName_local hz (hn'.at' fun o e => hk₁ _ o hCw e) (fun h₂ hn₂ hs₂ => ?_) hp)
    have up₂ : ∀ b o, b ≠ cenv.locals → b ∉ wr → H.get? b = some o → h₂.get? b = some o := fun b o hbC hbf e => hs₂.extBut b o hbC (hk₁ b o hbf e)
    have hst₂ : St (i + 1) h₂ := W.frame _ _ _ hst₁ fun b hb o e => hs₂.extBut b o (fun h => hCf (h ▸ hb)) e
    have hacc₃ : h₂.PlainList D (ys₀ ++ ys) := hacc'.at fun o e => up₂ D o hDC hDw e
    have hob₃ : ∀ p ∈ objs, h₂.get? p.1 = some p.2 ∧ s.heap.get? p.1 = none ∧ p.1 ≠ cenv.locals ∧ p.1 ≠ D ∧ p.1 ∉ wr := fun p hp => by
      obtain ⟨q1, q2, q3, q4, q5⟩ := hob p hp
      exact ⟨up₂ _ _ q3 q5 q1, q2, q3, q4, q5⟩
    refine wpAny_mono (helt a v _ _ _ hmem hKa hn₂ (by rw [if_neg hxz]; exact hmx') (by simp) (fun b o hbC hbf hbD e => up₂ b o hbC hbf (hk b o hbC hbf hbD e))) (fun y s₄ h₄ => ?_) fun _ _ e => e
    obtain ⟨⟨os, hos, hg⟩, h₄, tk₄, rfl, hk₄⟩ := h₄
    have hys : (ys₀ ++ ys).size ≤ sizeLine := by
      have e1 := paired_len hF
      have e3 : (bs.take i).length ≤ i := List.length_take_le _ _
      have e4 : ys.toList.length = ys.size := by simp
      rw [Array.size_append]
      omega
    refine wpAny_list_append_plain (hsz := hys) (hacc₃.at fun o e => hk₄ _ o e) fun h₅ hl₅ hs₅ => ?_
    refine ⟨n + 1 - (i + 1), by omega, h₅, tk₄, _, ys.push y, os ++ objs, i + 1, rfl, W.frame _ _ h₅ hst₂ fun b hb o e => hs₅.extBut b o (fun h => hDf (h ▸ hb)) (hk₄ b o e), ?_, (hn₂.keeps hk₄).sameBut hs₅ (Ne.symm hDC), ?_, ?_, ?_, hlt, rfl,
      fun b o hbC hbf hbD e => hs₅.extBut b o hbD (hk₄ b o (up₂ b o hbC hbf (hk b o hbC hbf hbD e)))⟩
    · rw [← Array.push_append]; exact hl₅
    · rw [if_neg hxz]; exact hmx'
    · intro p hp
      rcases List.mem_append.mp hp with hp | hp
      · have hTC : p.1 ≠ cenv.locals := by obtain ⟨_, _, _, ho, _⟩ := hn₂; exact hos.ne ho p hp
        have hTD : p.1 ≠ D := by obtain ⟨_, ho⟩ := hacc₃; exact hos.ne ho p hp
        have hTw : p.1 ∉ wr := fun hm => by obtain ⟨o, ho⟩ := hlive _ _ hst₂ p.1 hm; exact hos.ne ho p hp rfl
        refine ⟨hs₅.extBut _ _ hTD (hos p hp).1, ?_, hTC, hTD, hTw⟩
        cases e : s.heap.get? p.1 with
        | none => rfl
        | some o => exact absurd rfl (hos.ne (up₂ _ o hTC hTw (hk _ o hTC hTw hTD e)) p hp)
      · obtain ⟨q1, q2, q3, q4, q5⟩ := hob₃ p hp
        exact ⟨hs₅.extBut _ _ q4 (hk₄ _ _ q1), q2, q3, q4, q5⟩
    · rw [htk]
      have h1 : Paired (fun a y => G a y (os ++ objs)) (bs.take i) ys.toList := paired_mono (fun a y => hG a y objs _ fun p hp => List.mem_append_right _ hp) hF
      have h2 : G a y (os ++ objs) := hG a y os _ (fun p hp => List.mem_append_left _ hp) hg
      simpa using Paired.snoc h1 h2
  · have hin : i = n := by omega
    subst hin
    refine W.done _ _ _ hst' fun h₁ tk₁ hk₁ => ?_
    rw [List.take_of_length_le (by omega)] at hF
    exact hR h₁ tk₁ m' ys objs (hn'.at' fun o e => hk₁ _ o hCw e) (hacc'.at fun o e => hk₁ _ o hDw e) (fun p hp => by
      obtain ⟨q1, q2, q3, q4, q5⟩ := hob p hp
      exact ⟨hk₁ _ _ q5 q1, q2, q3, q4⟩) hF fun b o hbC hbf hbD e => hk₁ b o hbf (hk b o hbC hbf hbD e)

theorem take_flat_le {α γ : Type} (f : α → List γ) (as : List α) (i : Nat) : ((as.take i).flatMap f).length ≤ (as.flatMap f).length := by
  conv => rhs; rw [← List.take_append_drop i as]
  rw [List.flatMap_append, List.length_append]; omega

/-- two clauses, turn by turn -/
theorem comp_loop2 {α β γ : Type} {elt i1 i2 : Expr} {x z : Str} {px pz : Pos} {scope : Scope} {pos : Pos} {I D : Addr} {fp wr : List Addr} {n : Nat} {P : Nat → Value → Prop} {St : Nat → Heap → Prop}
    {cenv : Env} {m : Str → Option Value} (W : Walks prog w A I fp wr n P St) (as : List α) (has : as.length = n) (K : α → Value → Prop) (hPK : ∀ i v a, P i v → as[i]? = some a → K a v)
    (f : α → List β) (g : α → β → γ) (K2 : β → Value → Prop) (G : γ → Value → List (Addr × Obj) → Prop) (hG : ∀ a y os os', (∀ p ∈ os, p ∈ os') → G a y os → G a y os')
    (hlive : ∀ i h, St i h → ∀ b ∈ wr, ∃ o, h.get? b = some o)
    (hx : cenv.kindOf x = some .local) (hz : cenv.kindOf z = some .local) (hxz : x ≠ z) (hp : (cenv.scope.kind == .class || (cenv.scope.kind == .module && cenv.locals != cenv.globals)) = false)
    (hfs : ∀ x, foldedSetIterable i2 cenv x = pure x)
    (hDC : D ≠ cenv.locals) (hDf : D ∉ fp) (hCf : cenv.locals ∉ fp)
    (hst : St 0 s.heap) (hacc : s.heap.PlainList D #[]) (hn : s.heap.Ns cenv.locals m)
    (hiter : ∀ a v s₂ m₂ E', a ∈ as → K a v → s₂.heap.Ns cenv.locals m₂ → m₂ x = some v → (∀ b o, b ≠ cenv.locals → b ∉ wr → b ≠ D → s.heap.get? b = some o → s₂.heap.get? b = some o) →
      wpAny (model prog w) A (eval i2 cenv) (fun xv s₃ => Src prog w A xv s₃ [] (f a) K2 ∧ Keeps s₂ s₃) E' s₂)
    (helt : ∀ a v b u s₂ m₂ E', a ∈ as → K a v → b ∈ f a → K2 b u → s₂.heap.Ns cenv.locals m₂ → m₂ x = some v → m₂ z = some u → (∀ b o, b ≠ cenv.locals → b ∉ wr → b ≠ D → s.heap.get? b = some o → s₂.heap.get? b = some o) →
      wpAny (model prog w) A (eval elt cenv) (fun y s₃ => (∃ os, Fresh s₂.heap s₃.heap os ∧ G (g a b) y os) ∧ Keeps s₂ s₃) E' s₂)
    (hR : ∀ h' tk m' ys objs, h'.Ns cenv.locals m' → h'.PlainList D ys → (∀ p ∈ objs, h'.get? p.1 = some p.2 ∧ s.heap.get? p.1 = none ∧ p.1 ≠ cenv.locals ∧ p.1 ≠ D) → Paired (fun a y => G a y objs) (as.flatMap fun a => (f a).map (g a)) ys.toList →
      (∀ b o, b ≠ cenv.locals → b ∉ wr → b ≠ D → s.heap.get? b = some o → h'.get? b = some o) → R (.ok .next) { s with heap := h', toks := tk })
    (hsz : (as.flatMap fun a => (f a).map (g a)).length ≤ sizeLine) :
    codeAny (model prog w) A (.compLoop (lc2 elt (.Name x px) i1 (.Name z pz) i2 scope pos) 0 (.ref I) (.ref D) cenv) R s := by
  refine loop2_d0
    (fun k s' => Ex6 fun h' tk m' ys objs i => And9 (s' = { s with heap := h', toks := tk }) (St i h') (h'.PlainList D ys) (h'.Ns cenv.locals m') ((∀ p ∈ objs, h'.get? p.1 = some p.2 ∧ s.heap.get? p.1 = none ∧ p.1 ≠ cenv.locals ∧ p.1 ≠ D ∧ p.1 ∉ wr)) (Paired (fun a y => G a y objs) ((as.take i).flatMap fun a => (f a).map (g a)) ys.toList) (i ≤ n) (k = n + 1 - i) ((∀ b o, b ≠ cenv.locals → b ∉ wr → b ≠ D → s.heap.get? b = some o → h'.get? b = some o))) ?_ (n + 1)
    ⟨s.heap, s.toks, m, #[], [], 0, rfl, hst, hacc, hn, (fun _ h => nomatch h), by simpa using Paired.nil, Nat.zero_le _, rfl, fun _ _ _ _ _ e => e⟩ (fun _ => rfl) hfs
  rintro k s' ⟨H, tk, m', ys, objs, i, rfl, hst', hacc', hn', hob, hF, hi, rfl, hk⟩
  have hCw : cenv.locals ∉ wr := fun h => hCf (W.sub _ h)
  have hDw : D ∉ wr := fun h => hDf (W.sub _ h)
  by_cases hlt : i < n
  · refine W.item i _ _ _ hlt hst' fun v h₁ tk₁ hPv hst₁ hk₁ => ?_
    obtain ⟨a, ha⟩ : ∃ a, as[i]? = some a := ⟨_, List.getElem?_eq_getElem (by omega)⟩
    have hKa := hPK i v a hPv ha
    have hmem : a ∈ as := List.mem_of_getElem? ha
    have htk : (as.take (i + 1)).flatMap (fun a => (f a).map (g a)) = (as.take i).flatMap (fun a => (f a).map (g a)) ++ (f a).map (g a) := by rw [List.take_add_one, ha, List.flatMap_append]; simp
    refine wpAny_assign_Name (wpAny_storeName_local hx (hn'.at' fun o e => hk₁ _ o hCw e) (fun h₂ hn₂ hs₂ => ?_) hp)
    have up₂ : ∀ b o, b ≠ cenv.locals → b ∉ wr → H.get? b = some o → h₂.get? b = some o := fun b o hbC hbf e => hs₂.extBut b o hbC (hk₁ b o hbf e)
    have hst₂ : St (i + 1) h₂ := W.frame _ _ _ hst₁ fun b hb o e => hs₂.extBut b o (fun h => hCf (h ▸ hb)) e
    refine wpAny_mono (hiter a v _ _ _ hmem hKa hn₂ (by simp) (fun b o hbC hbf hbD e => up₂ b o hbC hbf (hk b o hbC hbf hbD e))) (fun xv s₃ h₃ => ?_) fun _ _ e => e
    obtain ⟨hsrc, h₃, tk₃, rfl, hk₃⟩ := h₃
    refine hsrc _ _ fun I2 fp2 wr2 P2 St2 h₄ tk₄ W2 hPK2 hlive2 hst2 hfp2 hsp2 hwr2 hk₄ => ?_
    dsimp only at hwr2 hk₄ ⊢
    have up₄ : ∀ b o, h₂.get? b = some o → h₄.get? b = some o := fun b o e => hk₄ b o (hk₃ b o e)
    have old2 : ∀ b o, h₂.get? b = some o → b ∉ wr2 := fun b o e hm => by have := hk₃ b o e; rw [hwr2 b hm] at this; cases this
    have hf2 : ∀ b ∈ fp2, b ∈ wr2 := fun b hb => (hsp2 b hb).elim id fun h => nomatch h
    have hst₄ : St (i + 1) h₄ := W.frame _ _ _ hst₂ fun b _ o e => up₄ b o e
    have hn₄ := hn₂.keeps up₄
    have hacc₂ : h₂.PlainList D ys := hacc'.at fun o e => up₂ D o hDC hDw e
    have hacc₄ : h₄.PlainList D ys := hacc₂.at fun o e => up₄ D o e
    have hDf2 : D ∉ fp2 := fun hm => by obtain ⟨_, ho⟩ := hacc₂; exact old2 _ _ ho (hf2 _ hm)
    have hCf2 : cenv.locals ∉ fp2 := fun hm => by obtain ⟨_, _, _, ho, _⟩ := hn₂; exact old2 _ _ ho (hf2 _ hm)
    have hys : ys.size + (f a).length ≤ sizeLine := by
      have e1 := paired_len hF
      have e2 := take_flat_le (fun a => (f a).map (g a)) as (i + 1)
      rw [htk, List.length_append, List.length_map] at e2
      have e4 : ys.toList.length = ys.size := by simp
      omega
    have L : codeAny (model prog w) A (.compLoop (lc2 elt (.Name x px) i1 (.Name z pz) i2 scope pos) 1 (.ref I2) (.ref D) cenv) (fun r s₅ => r = .ok .next ∧ ∃ m, m < n + 1 - i ∧
        (Ex6 fun h' tk m' ys objs i => And9 (s₅ = { s with heap := h', toks := tk }) (St i h') (h'.PlainList D ys) (h'.Ns cenv.locals m') ((∀ p ∈ objs, h'.get? p.1 = some p.2 ∧ s.heap.get? p.1 = none ∧ p.1 ≠ cenv.locals ∧ p.1 ≠ D ∧ p.1 ∉ wr)) (Paired (fun a y => G a y objs) ((as.take i).flatMap fun a => (f a).map (g a)) ys.toList) (i ≤ n) (m = n + 1 - i) ((∀ b o, b ≠ cenv.locals → b ∉ wr → b ≠ D → s.heap.get? b = some o → h'.get? b = some o)))) { s with heap := h₄, toks := tk₄ } := by
      refine inner2 (x := x) (vx := v) (ys₀ := ys) W2 (f a) rfl K2 hPK2 (fun b y os => G (g a b) y os) (fun b y os os' => hG (g a b) y os os') hlive2 hz hp hDC hDf2 hCf2 hst2 hacc₄ hn₄ (by simp) hxz
        (fun b u s₅ m₅ E' hb hKb hn5 hmx hmz hk5 => helt a v b u s₅ m₅ E' hmem hKa hb hKb hn5 hmx hmz (fun b' o hbC hbf hbD e => ?_)) (fun h' tk' m'' ys' objs' hn5 hl5 hob5 hF5 hk5 => ?_) hys
      · have e2 := up₂ b' o hbC hbf (hk b' o hbC hbf hbD e)
        exact hk5 b' o hbC (old2 _ _ e2) hbD (up₄ _ _ e2)
      · refine ⟨rfl, n + 1 - (i + 1), by omega, h', tk', m'', ys ++ ys', objs' ++ objs, i + 1, rfl, W.frame _ _ _ hst₂ fun b hb o e => hk5 b o (fun h => hCf (h ▸ hb)) (old2 _ _ e) (fun h => hDf (h ▸ hb)) (up₄ b o e), hl5, hn5, ?_, ?_, hlt, rfl, fun b' o hbC hbf hbD e => ?_⟩
        · intro p hp
          rcases List.mem_append.mp hp with hp | hp
          · obtain ⟨q1, q2, q3, q4⟩ := hob5 p hp
            have hTw : p.1 ∉ wr := fun hm => by obtain ⟨o, ho⟩ := hlive _ _ hst₄ p.1 hm; rw [show h₄.get? p.1 = none from q2] at ho; cases ho
            refine ⟨q1, ?_, q3, q4, hTw⟩
            cases e : s.heap.get? p.1 with
            | none => rfl
            | some o => have := up₄ _ _ (up₂ _ o q3 hTw (hk _ o q3 hTw q4 e)); rw [show h₄.get? p.1 = none from q2] at this; cases this
          · obtain ⟨q1, q2, q3, q4, q5⟩ := hob p hp
            have e2 := up₂ _ _ q3 q5 q1
            exact ⟨hk5 _ _ q3 (old2 _ _ e2) q4 (up₄ _ _ e2), q2, q3, q4, q5⟩
        · rw [htk, Array.toList_append]
          refine paired_append (paired_mono (fun c y => hG c y objs _ fun p hp => List.mem_append_right _ hp) hF) (paired_map (paired_mono (fun b y => hG (g a b) y objs' _ fun p hp => List.mem_append_left _ hp) hF5))
        · have e2 := up₂ b' o hbC hbf (hk b' o hbC hbf hbD e)
          exact hk5 b' o hbC (old2 _ _ e2) hbD (up₄ _ _ e2)
    exact start2_d1 L (W2.self 0 _ _ _ hst2 L)
  · have hin : i = n := by omega
    subst hin
    refine W.done _ _ _ hst' fun h₁ tk₁ hk₁ => ?_
    rw [List.take_of_length_le (by omega)] at hF
    exact hR h₁ tk₁ m' ys objs (hn'.at' fun o e => hk₁ _ o hCw e) (hacc'.at fun o e => hk₁ _ o hDw e) (fun p hp => by
      obtain ⟨q1, q2, q3, q4, q5⟩ := hob p hp
      exact ⟨hk₁ _ _ q5 q1, q2, q3, q4⟩) hF fun b o hbC hbf hbD e => hk₁ b o hbf (hk b o hbC hbf hbD e)
end
section
variable {prog : Program} {w : World} {A : Around} {E : Value → Shared → Prop} {env : Env} {s : Shared}
/-- what the block of a two-clause comprehension does -/
structure Body2 {α β γ : Type} (prog : Program) (w : World) (A : Around) (env : Env) (scope : Scope) (cl : List (Str × Addr)) (x z : Str) (i2 elt : Expr) (as : List α) (K : α → Value → Prop) (f : α → List β) (g : α → β → γ) (K2 : β → Value → Prop)
    (G : γ → Value → List (Addr × Obj) → Prop) (s₁ : Shared) : Prop where
  iter : ∀ C a v s₂ m₂ E', a ∈ as → K a v → s₁.heap.get? C = none → s₂.heap.Ns C m₂ → m₂ x = some v → Kp s₁.heap s₂.heap →
    wpAny (model prog w) A (eval i2 (compEnvC scope cl C env)) (fun xv s₃ => Src prog w A xv s₃ [] (f a) K2 ∧ Keeps s₂ s₃) E' s₂
  elt : ∀ C a v b u s₂ m₂ E', a ∈ as → K a v → b ∈ f a → K2 b u → s₁.heap.get? C = none → s₂.heap.Ns C m₂ → m₂ x = some v → m₂ z = some u → Kp s₁.heap s₂.heap →
    wpAny (model prog w) A (eval elt (compEnvC scope cl C env)) (fun y s₃ => (∃ os, Fresh s₂.heap s₃.heap os ∧ G (g a b) y os) ∧ Keeps s₂ s₃) E' s₂

theorem lc2_assign {α β γ : Type} {as : List α} {K : α → Value → Prop} {f : α → List β} {g : α → β → γ} {K2 : β → Value → Prop} {G : γ → Value → List (Addr × Obj) → Prop} (hG : ∀ a y os os', (∀ p ∈ os, p ∈ os') → G a y os → G a y os')
    {elt iter i2 : Expr} {x y z : Str} {px py pz : Pos} {scope : Scope} {cl : List (Str × Addr)} {pos spos : Pos} {Q : Flow → Shared → Prop}
    (hsw : swapsWith (.ListComp elt [⟨.Name x px, iter, [], 0⟩, ⟨.Name z pz, i2, [], 0⟩] scope pos) (some (.Name y py)) spos.line env = pure true)
    (hclos : closureFor scope env = pure cl) (hcell : ∀ y ∈ scope.names, y.2 ≠ .cell) (hkind : scope.kind = .function)
    (hnames : ∀ y ∈ scope.names, y.2 = .local → scope.names.lookup y.1 = some .local) (hx : scope.names.lookup x = some .local) (hz : scope.names.lookup z = some .local) (hxz : x ≠ z)
    (hy : env.kindOf y = some .local) (hp : (env.scope.kind == .class || (env.scope.kind == .module && env.locals != env.globals)) = false)
    (hs : ∀ x, foldedSetIterable iter env x = pure x) (hfs : ∀ C x, foldedSetIterable i2 (compEnvC scope cl C env) x = pure x) (hsz : (as.flatMap fun a => (f a).map (g a)).length ≤ sizeLine)
    (h : wpAny (model prog w) A (eval iter env) (fun xv s₁ => (∃ src, Src prog w A xv s₁ src as K) ∧ Body2 prog w A env scope cl x z i2 elt as K f g K2 G s₁ ∧ ∃ m, s₁.heap.Ns env.locals m ∧
      (∀ D n ys objs h' tk, (∀ b o, b ≠ env.locals → s₁.heap.get? b = some o → h'.get? b = some o) → h'.Ns env.locals (fun z => if z = y then some (.ref D) else m z) → s₁.heap.get? D = none → h'.get? D = some { cls := .type "list", data := .seq ys n } →
        Fresh s₁.heap h' objs → (∀ p ∈ objs, p.1 ≠ D) → Paired (fun a y => G a y objs) (as.flatMap fun a => (f a).map (g a)) ys.toList → Q .next { s₁ with heap := h', toks := tk })) E s) :
    wpAny (model prog w) A (exec (.Assign [.Name y py] (.ListComp elt [⟨.Name x px, iter, [], 0⟩, ⟨.Name z pz, i2, [], 0⟩] scope pos) spos) env) Q E s := by
  rw [exec_Assign_Name_used _ _ _ _ hsw]
  refine wpAny_bind (wpAny_standAt (wpAny_bind ?_))
  show wpAny _ A (do let _ ← comprehension (.ListComp elt [⟨.Name x px, iter, [], 0⟩, ⟨.Name z pz, i2, [], 0⟩] scope pos) scope env _ (newList []) false (eval iter env) (some (assign (.Name y py) env))) _ _ s
  refine wpAny_bind (wpAny_mono (wpAny_comprehension_free (use := some (assign (.Name y py) env)) (Q := fun _ s' => Q .next s') rfl hs hclos hkind hnames
    (wpAny_mono h (fun xv s₁ h₁ => ?_) fun _ _ e => e)) (fun _ s' hq => wpAny_pure (wpAny_pure hq)) fun _ _ e => e)
  obtain ⟨⟨src, hsrc⟩, hb, m, hm, hQ⟩ := h₁
  refine hsrc _ _ fun I fp wr P St h₂ tk₂ W hPK hlive hst hfp _ hwr hk₂ => ?_
  refine comp_block (RR := fun acc C => compPost (model prog w) A E (some (assign (.Name y py) env)) (fun _ s' => Q .next s') acc C) W (g := ⟨.Name x px, iter, [], 0⟩) (rest := [⟨.Name z pz, i2, [], 0⟩]) rfl hcell hkind hst hfp rfl ?_
  rintro D C h₁ s₃ rfl hD hC hDC hDf hCf hCle old hacc hns hst₁
  have hD₁ : s₁.heap.get? D = none := by
    cases e : s₁.heap.get? D with
    | none => rfl
    | some o => have := hk₂ _ _ e; rw [hD] at this; cases this
  have hC₁ : s₁.heap.get? C = none := by
    cases e : s₁.heap.get? C with
    | none => rfl
    | some o => have := hk₂ _ _ e; rw [hC] at this; cases this
  have up : ∀ s' : Shared, (∀ b o, b ≠ C → b ∉ wr → b ≠ D → h₁.get? b = some o → s'.heap.get? b = some o) → Kp s₁.heap s'.heap := fun s' hk b o e =>
    hk b o (by rintro rfl; rw [hC₁] at e; cases e) (fun hm => by rw [hwr b hm] at e; cases e) (by rintro rfl; rw [hD₁] at e; cases e) (old b o (hk₂ b o e))
  refine comp_loop2 (cenv := compEnvC scope cl C env) W as rfl K hPK f g K2 G hG hlive (lookup_relabel_local hx) (lookup_relabel_local hz) hxz (by simp [compEnvC, relabel, hkind]) (hfs C) hDC hDf hCf hst₁ hacc hns
    (fun a v s₂ m₂ E' ha hK hn hm hk => hb.iter C a v s₂ m₂ E' ha hK hC₁ hn hm (up s₂ hk))
    (fun a v b u s₂ m₂ E' ha hK hb' hK2 hn hm hmz hk => hb.elt C a v b u s₂ m₂ E' ha hK hb' hK2 hC₁ hn hm hmz (up s₂ hk)) (fun h' tk m' ys objs hnC hl hob hF hk => ?_) hsz
  obtain ⟨nl, hl⟩ := hl
  have hk' : Kp s₁.heap h' := up { s₁ with heap := h' } hk
  have hob' : ∀ p ∈ objs, h'.get? p.1 = some p.2 ∧ s₁.heap.get? p.1 = none ∧ p.1 ≠ C ∧ p.1 ≠ D := fun p hp => by
    obtain ⟨q1, q2, q3, q4⟩ := hob p hp
    refine ⟨q1, ?_, q3, q4⟩
    cases e : s₁.heap.get? p.1 with
    | none => rfl
    | some o => have := old _ _ (hk₂ _ _ e); rw [show h₁.get? p.1 = none from q2] at this; cases this
  obtain ⟨oL, _, _, hoL, _⟩ := id hm
  have hLC : env.locals ≠ C := by rintro q; rw [q, hC₁] at hoL; cases hoL
  have hLD : env.locals ≠ D := by rintro q; rw [q, hD₁] at hoL; cases hoL
  show wpAny _ A (assign (.Name y py) env (.ref D)) _ _ _
  refine wpAny_assign_Name (wpAny_storeName_local hy (hm.keeps hk') (fun h₂ hn₂ hs₂ => ?_) hp)
  refine ⟨m', hnC.sameBut hs₂ (Ne.symm hLC), fun h₃ hs₃ => ?_⟩
  refine hQ D nl ys objs h₃ _ (fun b o hb e => hs₃.extBut b o (by rintro rfl; rw [hC₁] at e; cases e) (hs₂.extBut b o hb (hk' b o e))) (hn₂.sameBut hs₃ hLC) hD₁ (hs₃.extBut _ _ hDC (hs₂.extBut _ _ (Ne.symm hLD) hl)) (fun p hp => ?_) (fun p hp => (hob' p hp).2.2.2) hF
  obtain ⟨q1, q2, q3, q4⟩ := hob' p hp
  have q5 : p.1 ≠ env.locals := by intro q; rw [q, hoL] at q2; cases q2
  exact ⟨hs₃.extBut _ _ q3 (hs₂.extBut _ _ q5 q1), q2⟩
end
end Mine
namespace Mine
/-- enter a def that has cells, over a smaller heap g with a ledger of objects beside it -/
theorem code_cells {w : World} {A : Around} {s : Shared} {K : Frag} {base g : Heap} {outer : List Env} {p : Program} {loose : List Str} {mean : ExcName → Option Value} {mg mb : Str → Option Value} {objs : List (Addr × Obj)}
    {R : Result → Shared → Prop} {name qual : Str} {params : Arguments} {body : List Stmt} {scope : Scope} {dV kV doc pm cdv ct oc : Value} {an od : Option Addr} {osl : Array (Option Value)} {f : Addr} {args : Args} {binds : List (Str × Value)}
    (B : Below A base outer g) (X : K.In g) (T : Top p loose mean mg mb g) (hg : Kp g s.heap) (hsz : g.objs.size ≤ s.heap.objs.size) (hN : Fresh g s.heap objs)
    (ho : K.lookup f = some ⟨oc, od, .func (fnOf name qual params body scope dV kV doc pm an cdv ct), osl⟩) (hcd : codeIn K cdv qual = true) (hroom : A.depth < recursionLimit)
    (hbind : BindsTo s (fnOf name qual params body scope dV kV doc pm an cdv ct) args binds) (hkind : (binds.all fun y => scope.names.lookup y.1 == some .local || scope.names.lookup y.1 == some .cell) = true)
    (hnd : ((cellsFrom 0 scope.names []).map (·.1)).Nodup)
    (h : ∀ L' h₁ tk cells, Kp s.heap h₁ → s.heap.get? L' = none → Fr g L' h₁ (bindL (envOfC qual scope L' f cdv).kindOf binds fun _ => none) → News g L' h₁ (cells ++ objs) →
      CellsAre (bindC (envOfC qual scope L' f cdv).kindOf binds fun _ => none) (cellsFrom (L' + 1) scope.names []) cells → Below A base outer g → K.In g → Top p loose mean mg mb g → (∀ p ∈ objs, p.1 < L') →
      wpAny (model PySem.Challenge.rw_pk0111_01.row.prog w) (A.deeper (envOfC qual scope L' f cdv)) (execs body (envOfC qual scope L' f cdv))
        (fun fl s' => R (.ok (.ret (match fl with | .ret v => v | _ => .none))) s') (fun _ _ => False)
        { s with heap := h₁, toks := tk })
    (hco : scope.isCoroutine = false) (hgen : scope.isGenerator = false) (hk : scope.kind = .function) : codeAny (model PySem.Challenge.rw_pk0111_01.row.prog w) A (.call (.ref f) args) R s := by
  have X' := X.keeps hg
  have T' := T.keeps hg
  refine codeAny_call_function (fd := fnOf name qual params body scope dV kV doc pm an cdv ct) hroom (X' _ _ ho) rfl hco hgen rfl (codeRec_of X' hcd) (hbind _ _ _ _ ?_)
  refine wpAny_newFunctionEnv_cells hk (kindsX hkind _) fun env' he s' x => ?_
  subst he
  refine ⟨T'.nolimit.keeps x.toInCall.keep, codeAny_func ?_⟩
  obtain ⟨h₁, tk, rfl, _⟩ := x.done
  have hk₁ := x.toInCall.keep
  obtain ⟨cells, NC, Y⟩ := Cl.news (h₀ := s.heap) (Nat.le_refl _) fun n c hm => ⟨x.cell n c (lookup_of_mem_nodup (cellsFrom_names scope.names 0 (s.heap.objs.size + 1) [] [] rfl ▸ hnd) hm), x.above n c hm⟩
  have hL : s.heap.get? s.heap.objs.size = none := Heap.get?_none_of_le (Nat.le_refl _)
  refine wpAny_mono (h s.heap.objs.size h₁ tk cells hk₁ hL ⟨x.toInCall.ns, fun b o e => hk₁ b o (hg b o e), hsz⟩ (fun p hp => ?_) Y B X T (fun p hp => Heap.lt_size (hN p hp).1)) (fun fl s' hl => hl) fun _ _ y => y.elim
  rcases List.mem_append.mp hp with hp | hp
  · refine ⟨(NC p hp).1, (NC p hp).2.1, ?_⟩
    cases q : g.get? p.1 with
    | none => rfl
    | some o => have := hg _ _ q; rw [(NC p hp).2.2] at this; cases this
  · refine ⟨hk₁ _ _ (hN p hp).1, fun e => ?_, (hN p hp).2⟩
    have := (hN p hp).1
    rw [e, hL] at this
    cases this

noncomputable abbrev RowG (row : List Int) (y : Value) (os : List (Addr × Obj)) : Prop := Ex3 fun l n vs => And3 (y = .ref l) ((l, W.listOf (List.toArray vs) n) ∈ os) (IntsAre vs row)
noncomputable def rowsI (blanks : Nat) : Nat → List (List Int)
  | 0 => [[]]
  | i + 1 => (rowsI blanks i).flatMap fun row => (List.range (blanks - row.sum + 1 : Int).toNat).map fun run => row ++ [((run : Nat) : Int)]
noncomputable def rowsOf (tabs blanks : Nat) : List (List Int) := (rowsI blanks (tabs - 1)).map fun row => row ++ [(blanks - row.sum : Int)]

section
variable {prog : Program} {w : World} {A : Around} {E : Value → Shared → Prop} {s : Shared} {h₀ : Heap} {L : Addr} {m : Str → Option Value} {news : List (Addr × Obj)}
theorem kp_push (h : Heap) (o : Obj) : Kp h (h.push o) := fun _ _ e => Heap.get?_push_of_some _ e
theorem none_size (h : Heap) : h.get? h.objs.size = none := Heap.get?_none_of_le (Nat.le_refl _)
structure Grow (a b : Heap) : Prop where
  kp : Kp a b
theorem Grow.none {a b : Heap} (g : Grow a b) {d : Addr} (h : b.get? d = none) : a.get? d = none := by
  cases e : a.get? d with
  | none => rfl
  | some o => have := g.kp _ _ e; rw [h] at this; cases this
theorem fresh1 {a b : Heap} {D : Addr} {o : Obj} (h1 : b.get? D = some o) (h2 : a.get? D = none) : Fresh a b [(D, o)] := Fresh.cons ⟨h1, h2⟩ Fresh.nil
theorem newList_G {ha : Heap} {vs : List Value} {Q : Value → Shared → Prop} (g : Grow ha s.heap) (F : Fr h₀ L s.heap m) (N : News h₀ L s.heap news)
    (h : ∀ D h', Grow ha h' → ha.get? D = none → Fr h₀ L h' m → News h₀ L h' ((D, W.listOf vs.toArray 0) :: news) → (∀ p ∈ news, p.1 < D) → Q (.ref D) { s with heap := h' }) (hsz : vs.length ≤ sizeLine) : wpAny (model prog w) A (newList vs) Q E s := by
  refine wpAny_newObj_type (h s.heap.objs.size _ ⟨g.kp.trans (kp_push _ _)⟩ (g.none (none_size _)) (F.push _) (News.push F N _) fun p hp => Heap.lt_size (N p hp).1) ?_
  simpa [sizeOk] using hsz
theorem newTuple_G {ha : Heap} {vs : List Value} {Q : Value → Shared → Prop} (g : Grow ha s.heap) (F : Fr h₀ L s.heap m) (N : News h₀ L s.heap news)
    (h : ∀ D h', Grow ha h' → ha.get? D = none → Fr h₀ L h' m → News h₀ L h' ((D, ({ cls := .type "tuple", data := .seq vs.toArray } : Obj)) :: news) → (∀ p ∈ news, p.1 < D) → Q (.ref D) { s with heap := h' }) (hsz : vs.length ≤ sizeLine) : wpAny (model prog w) A (newTuple vs) Q E s := by
  refine wpAny_newObj_type (h s.heap.objs.size _ ⟨g.kp.trans (kp_push _ _)⟩ (g.none (none_size _)) (F.push _) (News.push F N _) fun p hp => Heap.lt_size (N p hp).1) ?_
  simpa [sizeOk] using hsz
theorem add_G {ha : Heap} {l b : Addr} {vs ws : List Value} {ns ms : List Int} {n n2 : Nat} {Q : Value → Shared → Prop} (g : Grow ha s.heap) (F : Fr h₀ L s.heap m) (N : News h₀ L s.heap news) (hl : (l, W.listOf vs.toArray n) ∈ news) (hb : (b, W.listOf ws.toArray n2) ∈ news)
    (hi : IntsAre vs ns) (hj : IntsAre ws ms)
    (h : ∀ D h', Grow ha h' → ha.get? D = none → Fr h₀ L h' m → News h₀ L h' ((D, W.listOf (vs ++ ws).toArray 0) :: news) → IntsAre (vs ++ ws) (ns ++ ms) → Q (.ref D) { s with heap := h' })
    (hsz : ns.length + ms.length ≤ sizeLine) :
    wpAny (model prog w) A (binaryOp .Add (.ref l) (.ref b)) Q E s := by
  refine PySem.P.add_list (N _ hl).1 (N _ hb).1 ?_ (by rw [List.size_toArray, List.size_toArray, hi.length, hj.length]; exact hsz)
  have e : vs.toArray ++ ws.toArray = (vs ++ ws).toArray := by simp
  rw [e]
  exact h s.heap.objs.size _ ⟨g.kp.trans (kp_push _ _)⟩ (g.none (none_size _)) (F.push _) (News.push F N _) (hi.append hj)
theorem sum_G {ha : Heap} {l : Addr} {vs : List Value} {ns : List Int} {n : Nat} {Q : Value → Shared → Prop} (g : Grow ha s.heap) (hh : A.handled = none) (F : Fr h₀ L s.heap m) (N : News h₀ L s.heap news) (hl : (l, W.listOf vs.toArray n) ∈ news) (hi : IntsAre vs ns)
    (h : ∀ h' tk t', Grow ha h' → Fr h₀ L h' m → News h₀ L h' news → Q (.int ns.sum t') { s with heap := h', toks := tk }) :
    wpAny (model prog w) A (call (.builtin "sum") [.ref l]) Q E s := by
  obtain ⟨xs, hx⟩ := hi.allInts.items
  have hl : s.heap.IsList l vs.toArray := ⟨_, (N _ hl).1, rfl, n, rfl⟩
  have hn : numsOf vs.toArray.toList = ns := by rw [show vs.toArray.toList = vs from rfl, hi.numsOf]
  rw [hx] at hl hn
  rw [nums_intItems] at hn
  refine sum_intListG hh hl fun h' tk t' hk => ?_
  have := h h' tk t' ⟨g.kp.trans hk⟩ (F.keeps hk) (N.grown hk)
  rw [preSum_eq, List.take_of_length_le (by simp), hn]
  exact this
end
theorem after_assign {g h h' : Heap} {L : Addr} {m m' : Str → Option Value} {news objs : List (Addr × Obj)} (F : Fr g L h m) (N : News g L h news) (hk : ∀ b o, b ≠ L → h.get? b = some o → h'.get? b = some o) (hn : h'.Ns L m') (hf : Fresh h h' objs) :
    Fr g L h' m' ∧ News g L h' (objs ++ news) := by
  refine ⟨⟨hn, fun b o e => hk b o (by rintro rfl; rw [Heap.get?_none_of_le F.above] at e; cases e) (F.keep b o e), F.above⟩, fun p hp => ?_⟩
  rcases List.mem_append.mp hp with hp | hp
  · refine ⟨(hf p hp).1, ?_, ?_⟩
    · obtain ⟨_, _, _, ho, _⟩ := F.ns
      exact hf.ne ho p hp
    · cases e : g.get? p.1 with
      | none => rfl
      | some o => have := F.keep _ _ e; rw [(hf p hp).2] at this; cases this
  · exact ⟨hk _ _ (N p hp).2.1 (N p hp).1, (N p hp).2⟩
theorem after_expr {g h h' : Heap} {L : Addr} {m : Str → Option Value} {news objs : List (Addr × Obj)} (F : Fr g L h m) (N : News g L h news) (hk : Kp h h') (hf : Fresh h h' objs) :
    Fr g L h' m ∧ News g L h' (objs ++ news) := after_assign F N (fun b o _ e => hk b o e) (F.ns.keeps hk) hf
theorem swap3 {P : Prop} {g h : Heap} {L : Addr} {a b c : Addr × Obj} (N : News g L h [a, b, c]) (k : News g L h [a, c, b] → P) : P := k fun p hp => N p (by
    rcases hp with _ | ⟨_, _ | ⟨_, _ | ⟨_, hp⟩⟩⟩
    · exact .head _
    · exact .tail _ (.tail _ (.head _))
    · exact .tail _ (.head _)
    · cases hp)
theorem rowsI_ok (blanks : Nat) : ∀ i, ∀ row ∈ rowsI blanks i, row.length = i ∧ (∀ n ∈ row, 0 ≤ n) ∧ 0 ≤ row.sum ∧ row.sum ≤ blanks
  | 0, row, h => by rw [List.mem_singleton.mp h]; simp
  | i + 1, row, h => by
    obtain ⟨r, hr, h⟩ := List.mem_flatMap.mp h
    obtain ⟨k, hk, rfl⟩ := List.mem_map.mp h
    obtain ⟨h1, h2, h3, h4⟩ := rowsI_ok blanks i r hr
    have hk := List.mem_range.mp hk
    refine ⟨by simp [h1], fun n hn => ?_, ?_, ?_⟩
    · rcases List.mem_append.mp hn with hn | hn
      · exact h2 n hn
      · rw [List.mem_singleton.mp hn]; omega
    · rw [List.sum_append]; simp only [List.sum_cons, List.sum_nil]; omega
    · rw [List.sum_append]; simp only [List.sum_cons, List.sum_nil]; omega
theorem RowG.mono (a : List Int) (y : Value) (os os' : List (Addr × Obj)) (h : ∀ p ∈ os, p ∈ os') : RowG a y os → RowG a y os' := fun ⟨l, n, vs, e, hm, hi⟩ => ⟨l, n, vs, e, h _ hm, hi⟩
theorem rowsI_len : ∀ b : Nat, b ≤ 5 → ∀ i : Nat, i ≤ 2 → (rowsI b i).length ≤ 64 := by decide +kernel
section
variable {w : World} {loose : List Str} {mean : ExcName → Option Value} {mg mb : Str → Option Value} {A : Around} {base : Heap} {outer : List Env} {s : Shared} {Q E : Value → Shared → Prop}

set_option maxHeartbeats 8000000 in
theorem rows_call {tabs blanks : Nat} {t1 t2 : Tok} (G : Gr w loose mean mg mb A base outer s.heap)
    (hd : A.depth + 1 < recursionLimit) (hu : A.units + 8 < cLine) (ht : tabs = 2 ∨ tabs = 3) (hb : blanks ≤ 5)
    (hret : ∀ D n ys objs h' tk', Kp s.heap h' → Fresh s.heap h' ((D, W.listOf (List.toArray ys) n) :: objs) → Paired (fun r y => RowG r y objs) (rowsOf tabs blanks) ys → Q (.ref D) { s with heap := h', toks := tk' }) :
    wpAny (model PySem.Challenge.rw_pk0111_01.row.prog w) A (call (.ref 120) [.int (tabs : Nat) t1, .int (blanks : Nat) t2]) Q E s := by
  w_top off
  obtain ⟨hdl, dp, fr, gd, un⟩ := A
  obtain ⟨hh, B, X, T⟩ := G
  have hs := B.stack
  dsimp only at hh hs hd hu
  subst hh hs
  revert X; k_fill; intro X
  refine wpAny_call ?_
  k_dflt (refine' code_cells (objs := []) ?k1 ?k2 ?k3 (Kp.refl _) (Nat.le_refl _) Fresh.nil ?k6 ?k7 ?k8 ?k9 ?kB ?kD ?_ ?c2 ?c3 ?c4; (case k1 => k_asm); (case k2 => k_asm); (case k3 => k_asm);(case k6 => k_is); (case k7 => k_is); (case k8 => ktr_room); (case k9 => exact BindsTo.of_eq rfl); (case kB => exact rfl); (case kD => decide +kernel); (case c2 => exact rfl); (case c3 => exact rfl); (case c4 => exact rfl))
  rintro L' h' tk' cells' hk₁ hL' F' N' Y' B' X' T' l1
  k_cells Y'
  (try simp only [List.cons_append, List.nil_append] at N')
  clear X B T l1
  (try dsimp only); (try k_fold)
  repeat' (first | (k_unfold; (try dsimp only)) | ((fail_if_success (with_reducible show wpAny _ _ (pyIter _) _ _ _)); first | (first | ((with_reducible show wpAny _ _ (call (Value.builtin "sum") _) _ _ _); (k_dflt (refine sum_G (by assumption) rfl (by k_asm) (by k_asm) (by k_mem) (by assumption) ?_); intro h' tk' t' g' F' N')) | ((with_reducible show wpAny _ _ (binaryOp Operator.Add (Value.ref _) (Value.ref _)) _ _ _); (k_dflt (refine add_G (by assumption) (by k_asm) (by k_asm) (by k_mem) (by k_mem) (by assumption) (by first | assumption | exact IntsAre.cons _ _ IntsAre.nil) ?_ (by rw [sizeLine_eq]; simp only [List.length_cons, List.length_nil]; omega)); intro D' h' g' nn' F' N' hI')) | ((with_reducible show wpAny _ _ (newList _) _ _ _); (k_dflt (refine newList_G (by assumption) (by k_asm) (by k_asm) ?_ (by first | exact Nat.le_of_ble_eq_true rfl | (simp only [List.length_cons, List.length_nil]; omega))); intro D' h' g' nn' F' N' l1; (try k_lt l1))) | walk1) | (dsimp only; (first | ((with_reducible show wpAny _ _ (call (Value.builtin "sum") _) _ _ _); (k_dflt (refine sum_G (by assumption) rfl (by k_asm) (by k_asm) (by k_mem) (by assumption) ?_); intro h' tk' t' g' F' N')) | ((with_reducible show wpAny _ _ (binaryOp Operator.Add (Value.ref _) (Value.ref _)) _ _ _); (k_dflt (refine add_G (by assumption) (by k_asm) (by k_asm) (by k_mem) (by k_mem) (by assumption) (by first | assumption | exact IntsAre.cons _ _ IntsAre.nil) ?_ (by rw [sizeLine_eq]; simp only [List.length_cons, List.length_nil]; omega)); intro D' h' g' nn' F' N' hI')) | ((with_reducible show wpAny _ _ (newList _) _ _ _); (k_dflt (refine newList_G (by assumption) (by k_asm) (by k_asm) ?_ (by first | exact Nat.le_of_ble_eq_true rfl | (simp only [List.length_cons, List.length_nil]; omega))); intro D' h' g' nn' F' N' l1; (try k_lt l1))) | walk1))))
  rename (IsRange _ _ _ _ _ _ _ _) => hrg
  rename Fr _ _ _ _ => F6
  rename News _ _ _ _ => N6
  rw [show (tabs : Int) - 1 = ((tabs - 1 : Nat) : Int) by omega] at hrg
  refine swap3 N6 ?_
  clear N6
  intro N7
  refine for_src (as := List.range (tabs - 1)) (K := fun i v => ∃ t, v = .int (i : Nat) t) (fun i m₁ news₁ => Ex5 fun D k ys objs oc => And4 (news₁ = (D, W.listOf (List.toArray ys) k) :: (L' + 1, oc) :: objs) (oc.data = .cell (some (.int (blanks : Nat) t2))) (Paired (fun r y => RowG r y objs) (rowsI blanks i) ys) (m₁ (Str.ofString "rows") = some (.ref D))) (src_range rfl hrg (by omega)) (fun _ h => nomatch h) F6 N7 ?_ ?_ ?_
  · exact ⟨_, 0, [_], [_], _, rfl, by assumption, .cons ⟨_, 0, [], rfl, .head _, .nil⟩ .nil, rfl⟩
  · clear F6 N7
    rintro i c v m₁ news₁ h₁ tk₁ own hi ⟨tv, rfl⟩ ⟨D, k, ys, objs, oc, rfl, hoc, hP, mr⟩ hoff F5 N5
    have hi2 : i + 1 ≤ 2 := by have := (List.getElem?_eq_some_iff.mp hi).1; rw [List.length_range] at this; omega
    rw [pin mr] at F5
    clear mr
    repeat' (first | (k_unfold; (try dsimp only)) | ((fail_if_success (with_reducible show wpAny _ _ (exec (Stmt.Assign _ _ _) _) _ _ _)); first | (first | ((with_reducible show wpAny _ _ (call (Value.builtin "sum") _) _ _ _); (k_dflt (refine sum_G (by assumption) rfl (by k_asm) (by k_asm) (by k_mem) (by assumption) ?_); intro h' tk' t' g' F' N')) | ((with_reducible show wpAny _ _ (binaryOp Operator.Add (Value.ref _) (Value.ref _)) _ _ _); (k_dflt (refine add_G (by assumption) (by k_asm) (by k_asm) (by k_mem) (by k_mem) (by assumption) (by first | assumption | exact IntsAre.cons _ _ IntsAre.nil) ?_ (by rw [sizeLine_eq]; simp only [List.length_cons, List.length_nil]; omega)); intro D' h' g' nn' F' N' hI')) | ((with_reducible show wpAny _ _ (newList _) _ _ _); (k_dflt (refine newList_G (by assumption) (by k_asm) (by k_asm) ?_ (by first | exact Nat.le_of_ble_eq_true rfl | (simp only [List.length_cons, List.length_nil]; omega))); intro D' h' g' nn' F' N' l1; (try k_lt l1))) | walk1) | (dsimp only; (first | ((with_reducible show wpAny _ _ (call (Value.builtin "sum") _) _ _ _); (k_dflt (refine sum_G (by assumption) rfl (by k_asm) (by k_asm) (by k_mem) (by assumption) ?_); intro h' tk' t' g' F' N')) | ((with_reducible show wpAny _ _ (binaryOp Operator.Add (Value.ref _) (Value.ref _)) _ _ _); (k_dflt (refine add_G (by assumption) (by k_asm) (by k_asm) (by k_mem) (by k_mem) (by assumption) (by first | assumption | exact IntsAre.cons _ _ IntsAre.nil) ?_ (by rw [sizeLine_eq]; simp only [List.length_cons, List.length_nil]; omega)); intro D' h' g' nn' F' N' hI')) | ((with_reducible show wpAny _ _ (newList _) _ _ _); (k_dflt (refine newList_G (by assumption) (by k_asm) (by k_asm) ?_ (by first | exact Nat.le_of_ble_eq_true rfl | (simp only [List.length_cons, List.length_nil]; omega))); intro D' h' g' nn' F' N' l1; (try k_lt l1))) | walk1))))
    k_dflt (refine lc2_assign (as := rowsI blanks i) (K := fun r y => RowG r y objs) (f := fun row => List.range (blanks - row.sum + 1 : Int).toNat) (g := fun row run => row ++ [((run : Nat) : Int)]) (K2 := fun i v => ∃ t, v = .int (i : Nat) t) (G := RowG) RowG.mono (cl := [(Str.ofString "blanks", L' + 1)]) ?_ ?_ ?_ ?_ ?_ ?_ ?_ ?_ ?_ ?_ ?_ ?_ ?_ ?_)
    case refine_1 => with_unfolding_all rfl
    case refine_2 => with_unfolding_all rfl
    case refine_3 => decide
    case refine_4 => rfl
    case refine_5 => decide
    case refine_6 => with_unfolding_all rfl
    case refine_7 => with_unfolding_all rfl
    case refine_8 => decide
    case refine_9 => with_unfolding_all rfl
    case refine_10 => with_unfolding_all rfl
    case refine_11 => intro _; with_unfolding_all rfl
    case refine_12 => intro _ _; with_unfolding_all rfl
    case refine_13 => rw [sizeLine_eq]; have := rowsI_len blanks hb (i + 1) hi2; exact Nat.le_trans this (by decide)
    (first | ((with_reducible show wpAny _ _ (call (Value.builtin "sum") _) _ _ _); (k_dflt (refine sum_G (by assumption) rfl (by k_asm) (by k_asm) (by k_mem) (by assumption) ?_); intro h' tk' t' g' F' N')) | ((with_reducible show wpAny _ _ (binaryOp Operator.Add (Value.ref _) (Value.ref _)) _ _ _); (k_dflt (refine add_G (by assumption) (by k_asm) (by k_asm) (by k_mem) (by k_mem) (by assumption) (by first | assumption | exact IntsAre.cons _ _ IntsAre.nil) ?_ (by rw [sizeLine_eq]; simp only [List.length_cons, List.length_nil]; omega)); intro D' h' g' nn' F' N' hI')) | ((with_reducible show wpAny _ _ (newList _) _ _ _); (k_dflt (refine newList_G (by assumption) (by k_asm) (by k_asm) ?_ (by first | exact Nat.le_of_ble_eq_true rfl | (simp only [List.length_cons, List.length_nil]; omega))); intro D' h' g' nn' F' N' l1; (try k_lt l1))) | walk1)
    refine ⟨⟨_, src_list rfl ⟨_, (N5 _ (.head _)).1, rfl, k, rfl⟩ hP⟩, ⟨?_, ?_⟩, _, F5.ns, ?_⟩
    · rintro C a v s₂ m₂ E' ha ⟨l, n, vs, rfl, hl, hI⟩ hC hn hm hk
      dsimp only at hk
      have F2 := F5.keeps hk
      have N2 : News s.heap L' s₂.heap [(l, W.listOf vs.toArray n), (L' + 1, oc)] := News.grown (h := h₁) (fun p hp => N5 p (by
        rcases hp with _ | ⟨_, _ | ⟨_, hp⟩⟩
        · exact .tail _ (.tail _ (List.mem_append_left _ hl))
        · exact .tail _ (.head _)
        · cases hp)) hk
      obtain ⟨q1, q2, q3, q4⟩ := rowsI_ok blanks i a ha
      clear F5 N5
      have g0 : Grow s₂.heap s₂.heap := ⟨Kp.refl _⟩
      refine wpAny_mono (Q := fun xv s₃ => End (Src PySem.Challenge.rw_pk0111_01.row.prog w _ xv s₃ [] (List.range (blanks - a.sum + 1 : Int).toNat) (fun i v => ∃ t, v = .int (i : Nat) t) ∧ Keeps s₂ s₃)) ?_ (fun _ _ h => h.out) (fun _ _ h => h)
      repeat' (first | (k_unfold; (try dsimp only)) | (first | (first | ((with_reducible show wpAny _ _ (call (Value.builtin "sum") _) _ _ _); (k_dflt (refine sum_G (by assumption) rfl (by k_asm) (by k_asm) (by k_mem) (by assumption) ?_); intro h' tk' t' g' F' N')) | ((with_reducible show wpAny _ _ (binaryOp Operator.Add (Value.ref _) (Value.ref _)) _ _ _); (k_dflt (refine add_G (by assumption) (by k_asm) (by k_asm) (by k_mem) (by k_mem) (by assumption) (by first | assumption | exact IntsAre.cons _ _ IntsAre.nil) ?_ (by rw [sizeLine_eq]; simp only [List.length_cons, List.length_nil]; omega)); intro D' h' g' nn' F' N' hI')) | ((with_reducible show wpAny _ _ (newList _) _ _ _); (k_dflt (refine newList_G (by assumption) (by k_asm) (by k_asm) ?_ (by first | exact Nat.le_of_ble_eq_true rfl | (simp only [List.length_cons, List.length_nil]; omega))); intro D' h' g' nn' F' N' l1; (try k_lt l1))) | walk1) | (dsimp only; (first | ((with_reducible show wpAny _ _ (call (Value.builtin "sum") _) _ _ _); (k_dflt (refine sum_G (by assumption) rfl (by k_asm) (by k_asm) (by k_mem) (by assumption) ?_); intro h' tk' t' g' F' N')) | ((with_reducible show wpAny _ _ (binaryOp Operator.Add (Value.ref _) (Value.ref _)) _ _ _); (k_dflt (refine add_G (by assumption) (by k_asm) (by k_asm) (by k_mem) (by k_mem) (by assumption) (by first | assumption | exact IntsAre.cons _ _ IntsAre.nil) ?_ (by rw [sizeLine_eq]; simp only [List.length_cons, List.length_nil]; omega)); intro D' h' g' nn' F' N' hI')) | ((with_reducible show wpAny _ _ (newList _) _ _ _); (k_dflt (refine newList_G (by assumption) (by k_asm) (by k_asm) ?_ (by first | exact Nat.le_of_ble_eq_true rfl | (simp only [List.length_cons, List.length_nil]; omega))); intro D' h' g' nn' F' N' l1; (try k_lt l1))) | walk1))))
      rename (IsRange _ _ _ _ _ _ _ _) => hrg
      rename Grow _ _ => g1
      rename (∀ (b : Addr) (o : Obj), _ → _) => gr1
      rw [show (blanks : Int) - a.sum + 1 = (((blanks - a.sum + 1 : Int).toNat : Nat) : Int) by omega] at hrg
      exact End.mk ⟨src_range rfl hrg (by omega), _, _, rfl, Kp.trans g1.kp gr1⟩
    · rintro C a v b u s₂ m₂ E' ha ⟨l, n, vs, rfl, hl, hI⟩ hb' ⟨tu, rfl⟩ hC hn hm hmz hk
      dsimp only at hk
      have F2 := F5.keeps hk
      have N2 : News s.heap L' s₂.heap [(l, W.listOf vs.toArray n), (L' + 1, oc)] := News.grown (h := h₁) (fun p hp => N5 p (by
        rcases hp with _ | ⟨_, _ | ⟨_, hp⟩⟩
        · exact .tail _ (.tail _ (List.mem_append_left _ hl))
        · exact .tail _ (.head _)
        · cases hp)) hk
      obtain ⟨q1, q2, q3, q4⟩ := rowsI_ok blanks i a ha
      clear F5 N5
      have g0 : Grow s₂.heap s₂.heap := ⟨Kp.refl _⟩
      refine wpAny_mono (Q := fun y s₃ => End ((∃ os, Fresh s₂.heap s₃.heap os ∧ RowG (a ++ [((b : Nat) : Int)]) y os) ∧ Keeps s₂ s₃)) ?_ (fun _ _ h => h.out) (fun _ _ h => h)
      repeat' (first | (k_unfold; (try dsimp only)) | (first | (first | ((with_reducible show wpAny _ _ (call (Value.builtin "sum") _) _ _ _); (k_dflt (refine sum_G (by assumption) rfl (by k_asm) (by k_asm) (by k_mem) (by assumption) ?_); intro h' tk' t' g' F' N')) | ((with_reducible show wpAny _ _ (binaryOp Operator.Add (Value.ref _) (Value.ref _)) _ _ _); (k_dflt (refine add_G (by assumption) (by k_asm) (by k_asm) (by k_mem) (by k_mem) (by assumption) (by first | assumption | exact IntsAre.cons _ _ IntsAre.nil) ?_ (by rw [sizeLine_eq]; simp only [List.length_cons, List.length_nil]; omega)); intro D' h' g' nn' F' N' hI')) | ((with_reducible show wpAny _ _ (newList _) _ _ _); (k_dflt (refine newList_G (by assumption) (by k_asm) (by k_asm) ?_ (by first | exact Nat.le_of_ble_eq_true rfl | (simp only [List.length_cons, List.length_nil]; omega))); intro D' h' g' nn' F' N' l1; (try k_lt l1))) | walk1) | (dsimp only; (first | ((with_reducible show wpAny _ _ (call (Value.builtin "sum") _) _ _ _); (k_dflt (refine sum_G (by assumption) rfl (by k_asm) (by k_asm) (by k_mem) (by assumption) ?_); intro h' tk' t' g' F' N')) | ((with_reducible show wpAny _ _ (binaryOp Operator.Add (Value.ref _) (Value.ref _)) _ _ _); (k_dflt (refine add_G (by assumption) (by k_asm) (by k_asm) (by k_mem) (by k_mem) (by assumption) (by first | assumption | exact IntsAre.cons _ _ IntsAre.nil) ?_ (by rw [sizeLine_eq]; simp only [List.length_cons, List.length_nil]; omega)); intro D' h' g' nn' F' N' hI')) | ((with_reducible show wpAny _ _ (newList _) _ _ _); (k_dflt (refine newList_G (by assumption) (by k_asm) (by k_asm) ?_ (by first | exact Nat.le_of_ble_eq_true rfl | (simp only [List.length_cons, List.length_nil]; omega))); intro D' h' g' nn' F' N' l1; (try k_lt l1))) | walk1))))
      rename (IntsAre _ (a ++ _)) => hI2
      rename (News _ _ _ _) => N9
      rename (Grow _ _) => g1
      rename (s₂.heap.get? _ = none) => nn1
      exact End.mk ⟨⟨_, fresh1 (N9 _ (.head _)).1 nn1, _, 0, _, rfl, .head _, hI2⟩, _, _, rfl, g1.kp⟩
    · intro D2 n2 ys2 objs2 h2 tk2 hk2 hn2 hD2 hgD2 hf2 hne2 hP2
      dsimp only at hk2 hn2 hD2 hf2
      have hfr : Fresh h₁ h2 ((D2, W.listOf ys2 n2) :: objs2) := Fresh.cons ⟨hgD2, hD2⟩ hf2
      obtain ⟨F7, N7⟩ := after_assign F5 N5 hk2 hn2 hfr
      dsimp only
      (first | ((with_reducible show wpAny _ _ (call (Value.builtin "sum") _) _ _ _); (k_dflt (refine sum_G (by assumption) rfl (by k_asm) (by k_asm) (by k_mem) (by assumption) ?_); intro h' tk' t' g' F' N')) | ((with_reducible show wpAny _ _ (binaryOp Operator.Add (Value.ref _) (Value.ref _)) _ _ _); (k_dflt (refine add_G (by assumption) (by k_asm) (by k_asm) (by k_mem) (by k_mem) (by assumption) (by first | assumption | exact IntsAre.cons _ _ IntsAre.nil) ?_ (by rw [sizeLine_eq]; simp only [List.length_cons, List.length_nil]; omega)); intro D' h' g' nn' F' N' hI')) | ((with_reducible show wpAny _ _ (newList _) _ _ _); (k_dflt (refine newList_G (by assumption) (by k_asm) (by k_asm) ?_ (by first | exact Nat.le_of_ble_eq_true rfl | (simp only [List.length_cons, List.length_nil]; omega))); intro D' h' g' nn' F' N' l1; (try k_lt l1))) | walk1)
      refine TurnPost.next (news₂ := (D2, W.listOf ys2.toList.toArray n2) :: (L' + 1, oc) :: objs2) F7 ?_ ?_ ?_
      · refine fun p hp => N7 p ?_
        rw [Array.toArray_toList] at hp
        rcases hp with _ | ⟨_, _ | ⟨_, hp⟩⟩
        · exact .head _
        · exact .tail _ (List.mem_append_right _ (.tail _ (.head _)))
        · rcases List.mem_append.mp hp with hp | hp
          · exact .tail _ (List.mem_append_left _ hp)
          · exact .tail _ (List.mem_append_right _ (.tail _ (.tail _ (List.mem_append_right _ hp))))
      · intro p hp b hb' e
        have hp1 := (N5 p (.tail _ (.tail _ (List.mem_append_right _ hp)))).1
        rcases hb' with _ | ⟨_, _ | ⟨_, hb'⟩⟩
        · exact hfr.ne hp1 _ (.head _) e.symm
        · exact hoff p hp _ (.tail _ (.head _)) e
        · obtain ⟨q, hq, rfl⟩ := List.mem_map.mp hb'
          exact hfr.ne hp1 q (.tail _ hq) e.symm
      · exact ⟨D2, n2, ys2.toList, objs2, oc, rfl, hoc, hP2, rfl⟩
  · clear F6 N7
    rintro m₁ news₁ h₁ tk₁ ⟨D, k, ys, objs, oc, rfl, hoc, hP, mr⟩ F5 N5
    rw [List.length_range] at hP
    rw [pin mr] at F5
    clear mr
    dsimp only
    repeat' (first | (k_unfold; (try dsimp only)) | ((fail_if_success (with_reducible show wpAny _ _ (eval (Expr.ListComp _ _ _ _) _) _ _ _)); first | (first | ((with_reducible show wpAny _ _ (call (Value.builtin "sum") _) _ _ _); (k_dflt (refine sum_G (by assumption) rfl (by k_asm) (by k_asm) (by k_mem) (by assumption) ?_); intro h' tk' t' g' F' N')) | ((with_reducible show wpAny _ _ (binaryOp Operator.Add (Value.ref _) (Value.ref _)) _ _ _); (k_dflt (refine add_G (by assumption) (by k_asm) (by k_asm) (by k_mem) (by k_mem) (by assumption) (by first | assumption | exact IntsAre.cons _ _ IntsAre.nil) ?_ (by rw [sizeLine_eq]; simp only [List.length_cons, List.length_nil]; omega)); intro D' h' g' nn' F' N' hI')) | ((with_reducible show wpAny _ _ (newList _) _ _ _); (k_dflt (refine newList_G (by assumption) (by k_asm) (by k_asm) ?_ (by first | exact Nat.le_of_ble_eq_true rfl | (simp only [List.length_cons, List.length_nil]; omega))); intro D' h' g' nn' F' N' l1; (try k_lt l1))) | walk1) | (dsimp only; (first | ((with_reducible show wpAny _ _ (call (Value.builtin "sum") _) _ _ _); (k_dflt (refine sum_G (by assumption) rfl (by k_asm) (by k_asm) (by k_mem) (by assumption) ?_); intro h' tk' t' g' F' N')) | ((with_reducible show wpAny _ _ (binaryOp Operator.Add (Value.ref _) (Value.ref _)) _ _ _); (k_dflt (refine add_G (by assumption) (by k_asm) (by k_asm) (by k_mem) (by k_mem) (by assumption) (by first | assumption | exact IntsAre.cons _ _ IntsAre.nil) ?_ (by rw [sizeLine_eq]; simp only [List.length_cons, List.length_nil]; omega)); intro D' h' g' nn' F' N' hI')) | ((with_reducible show wpAny _ _ (newList _) _ _ _); (k_dflt (refine newList_G (by assumption) (by k_asm) (by k_asm) ?_ (by first | exact Nat.le_of_ble_eq_true rfl | (simp only [List.length_cons, List.length_nil]; omega))); intro D' h' g' nn' F' N' l1; (try k_lt l1))) | walk1))))
    k_dflt (refine lc_eval (as := rowsI blanks (tabs - 1)) (K := fun r y => RowG r y objs) (pz := fun _ => true) (G := fun row y os => RowG (row ++ [(blanks - row.sum : Int)]) y os) (fun _ _ _ _ h => RowG.mono _ _ _ _ h) (cl := [(Str.ofString "blanks", L' + 1)]) ?_ ?_ ?_ ?_ ?_ ?_ ?_ ?_)
    case refine_1 => with_unfolding_all rfl
    case refine_2 => decide
    case refine_3 => rfl
    case refine_4 => decide
    case refine_5 => with_unfolding_all rfl
    case refine_6 => intro _; with_unfolding_all rfl
    case refine_7 => rw [sizeLine_eq]; have := rowsI_len blanks hb (tabs - 1) (by omega); exact Nat.le_trans this (by decide)
    (first | ((with_reducible show wpAny _ _ (call (Value.builtin "sum") _) _ _ _); (k_dflt (refine sum_G (by assumption) rfl (by k_asm) (by k_asm) (by k_mem) (by assumption) ?_); intro h' tk' t' g' F' N')) | ((with_reducible show wpAny _ _ (binaryOp Operator.Add (Value.ref _) (Value.ref _)) _ _ _); (k_dflt (refine add_G (by assumption) (by k_asm) (by k_asm) (by k_mem) (by k_mem) (by assumption) (by first | assumption | exact IntsAre.cons _ _ IntsAre.nil) ?_ (by rw [sizeLine_eq]; simp only [List.length_cons, List.length_nil]; omega)); intro D' h' g' nn' F' N' hI')) | ((with_reducible show wpAny _ _ (newList _) _ _ _); (k_dflt (refine newList_G (by assumption) (by k_asm) (by k_asm) ?_ (by first | exact Nat.le_of_ble_eq_true rfl | (simp only [List.length_cons, List.length_nil]; omega))); intro D' h' g' nn' F' N' l1; (try k_lt l1))) | walk1)
    refine ⟨⟨_, src_list rfl ⟨_, (N5 _ (.head _)).1, rfl, k, rfl⟩ hP⟩, ⟨?_, ?_⟩, ?_⟩
    · intro C a v s₂ m₂ E' ha hK hC hn hm hk
      exact wpAny_tests_nil ⟨rfl, s₂.heap, s₂.toks, rfl, fun _ _ e => e⟩
    · rintro C a v s₂ m₂ E' ha ⟨l, n, vs, rfl, hl, hI⟩ _ hC hn hm hk
      dsimp only at hk
      have F2 := F5.keeps hk
      have N2 : News s.heap L' s₂.heap [(l, W.listOf vs.toArray n), (L' + 1, oc)] := News.grown (h := h₁) (fun p hp => N5 p (by
        rcases hp with _ | ⟨_, _ | ⟨_, hp⟩⟩
        · exact .tail _ (.tail _ hl)
        · exact .tail _ (.head _)
        · cases hp)) hk
      obtain ⟨q1, q2, q3, q4⟩ := rowsI_ok blanks _ a ha
      clear F5 N5
      have g0 : Grow s₂.heap s₂.heap := ⟨Kp.refl _⟩
      refine wpAny_mono (Q := fun y s₃ => End ((∃ os, Fresh s₂.heap s₃.heap os ∧ RowG (a ++ [(blanks - a.sum : Int)]) y os) ∧ Keeps s₂ s₃)) ?_ (fun _ _ h => h.out) (fun _ _ h => h)
      repeat' (first | (k_unfold; (try dsimp only)) | (first | (first | ((with_reducible show wpAny _ _ (call (Value.builtin "sum") _) _ _ _); (k_dflt (refine sum_G (by assumption) rfl (by k_asm) (by k_asm) (by k_mem) (by assumption) ?_); intro h' tk' t' g' F' N')) | ((with_reducible show wpAny _ _ (binaryOp Operator.Add (Value.ref _) (Value.ref _)) _ _ _); (k_dflt (refine add_G (by assumption) (by k_asm) (by k_asm) (by k_mem) (by k_mem) (by assumption) (by first | assumption | exact IntsAre.cons _ _ IntsAre.nil) ?_ (by rw [sizeLine_eq]; simp only [List.length_cons, List.length_nil]; omega)); intro D' h' g' nn' F' N' hI')) | ((with_reducible show wpAny _ _ (newList _) _ _ _); (k_dflt (refine newList_G (by assumption) (by k_asm) (by k_asm) ?_ (by first | exact Nat.le_of_ble_eq_true rfl | (simp only [List.length_cons, List.length_nil]; omega))); intro D' h' g' nn' F' N' l1; (try k_lt l1))) | walk1) | (dsimp only; (first | ((with_reducible show wpAny _ _ (call (Value.builtin "sum") _) _ _ _); (k_dflt (refine sum_G (by assumption) rfl (by k_asm) (by k_asm) (by k_mem) (by assumption) ?_); intro h' tk' t' g' F' N')) | ((with_reducible show wpAny _ _ (binaryOp Operator.Add (Value.ref _) (Value.ref _)) _ _ _); (k_dflt (refine add_G (by assumption) (by k_asm) (by k_asm) (by k_mem) (by k_mem) (by assumption) (by first | assumption | exact IntsAre.cons _ _ IntsAre.nil) ?_ (by rw [sizeLine_eq]; simp only [List.length_cons, List.length_nil]; omega)); intro D' h' g' nn' F' N' hI')) | ((with_reducible show wpAny _ _ (newList _) _ _ _); (k_dflt (refine newList_G (by assumption) (by k_asm) (by k_asm) ?_ (by first | exact Nat.le_of_ble_eq_true rfl | (simp only [List.length_cons, List.length_nil]; omega))); intro D' h' g' nn' F' N' l1; (try k_lt l1))) | walk1))))
      rename (IntsAre _ (a ++ _)) => hI2
      rename (News _ _ _ _) => N9
      rename (Grow _ _) => g1
      rename (s₂.heap.get? _ = none) => nn1
      exact End.mk ⟨⟨_, fresh1 (N9 _ (.head _)).1 nn1, _, 0, _, rfl, .head _, hI2⟩, _, _, rfl, g1.kp⟩
    · intro D2 n2 ys2 objs2 h2 tk2 hk2 hD2 hgD2 hf2 hne2 hP2
      refine hret D2 n2 ys2.toList objs2 _ _ (Kp.trans F5.keep hk2) ?_ ?_
      · rw [Array.toArray_toList]
        exact (Fresh.cons (p := (D2, W.listOf ys2 n2)) ⟨hgD2, hD2⟩ hf2).sooner F5.keep
      · rw [List.filter_eq_self.mpr (fun _ _ => rfl)] at hP2
        exact paired_map hP2
end
end Mine
namespace Mine
noncomputable abbrev lamQual : Str := Str.ofString "_law_equal" ++ Str.ofString ".<locals>." ++ Str.ofString "<lambda>"
/-- these are the parts of the lambda that the program's _law_equal gives back -/
noncomputable def LamSrc (pr : Arguments) (b : PySem.Expr) (sc : Scope) : Prop := ∃ (P : Params) (o : Obj) (fd : FuncData) (pos pos2 : Pos), (hd.heap_39 P).lookup 139 = some o ∧ o.data = .func fd ∧ fd.body = .stmts [.Return (some (.Lambda pr b sc pos)) pos2]
theorem lamsrc_of {P : Params} {o : Obj} {fd : FuncData} {pos pos2 : Pos} {pr : Arguments} {b : PySem.Expr} {sc : Scope} (h : (hd.heap_39 P).lookup 139 = some o) (h2 : o.data = .func fd) (h3 : fd.body = .stmts [.Return (some (.Lambda pr b sc pos)) pos2]) : LamSrc pr b sc := ⟨P, o, fd, pos, pos2, h, h2, h3⟩
theorem lamsrc_elim {Q : Prop} {P : Params} {o o' : Obj} (e : (hd.heap_39 P).lookup 139 = some o) (h : (hd.heap_39 P).lookup 139 = some o') (k : o = o' → Q) : Q := k (Option.some.inj (e.symm.trans h))
/-- a lambda of _law_equal, as it lies -/
noncomputable def LamAt (R : Addr → Obj → Prop) (f x : Addr) : Prop :=
  Ex11 fun pr b sc cell oc c' occ vs t ctv pm => And7 (LamSrc pr b sc) (R f (kla_obj (Str.ofString "<lambda>") lamQual pr b sc [(Str.ofString "mark", cell)] pm c' ctv)) (R cell oc) (oc.data = .cell (some (.ref x))) (R c' occ) (occ.data = .fields vs) (vs[1]? = some (.str lamQual t))
/-- the table of _law_equal's code: empty, or with the lambda's code -/
noncomputable def TabL (ps : Array Value) (objs : List (Addr × Obj)) : Prop := ps = #[] ∨ ∃ c' occ vs t, ps = #[rawInt (125 : Nat), rawInt (11 : Nat), .ref c'] ∧ (c', occ) ∈ objs ∧ occ.data = .fields vs ∧ vs[1]? = some (.str lamQual t)
theorem TabL.mono {ps : Array Value} {a b : List (Addr × Obj)} (h : ∀ p ∈ a, p ∈ b) : TabL ps a → TabL ps b
  | .inl e => .inl e
  | .inr ⟨c', occ, vs, t, e, m, d, v⟩ => .inr ⟨c', occ, vs, t, e, h _ m, d, v⟩
theorem LamAt.mono {R R' : Addr → Obj → Prop} {f x : Addr} (h : ∀ a o, R a o → R' a o) : LamAt R f x → LamAt R' f x := by
  rintro ⟨pr, b, sc, cell, oc, c', occ, vs, t, ctv, pm, a0, a1, a2, a3, a4, a5, a6⟩
  exact ⟨pr, b, sc, cell, oc, c', occ, vs, t, ctv, pm, a0, h _ _ a1, h _ _ a2, a3, h _ _ a4, a5, a6⟩
theorem unhide {h : Heap} {b : Addr} (e : (hideAll h [134]).get? b = none) (hb : b ≠ 134) : h.get? b = none := by
  cases q : h.get? b with
  | none => rfl
  | some o => rw [hideAll_get _ q fun hm => hb (List.mem_singleton.mp hm)] at e; cases e
section
variable {w : World} {loose : List Str} {mean : ExcName → Option Value} {mg mb : Str → Option Value} {A : Around} {base g : Heap} {outer : List Env} {s : Shared} {Q E : Value → Shared → Prop}

set_option maxHeartbeats 8000000 in
theorem mkeq_call {x : Addr} {ps : Array Value} {objs : List (Addr × Obj)} (G : Gr w loose mean mg mb A base outer g) (hg : Kp g s.heap) (h134 : g.get? 134 = none) (hC : CodeHd g 138 134) (ht : s.heap.get? 134 = some (tabObj ps)) (htl : TabL ps objs) (hobjs : ∀ p ∈ objs, s.heap.get? p.1 = some p.2)
    (hd : A.depth + 1 < recursionLimit) (hu : A.units + 8 < cLine)
    (hret : ∀ f h' tk' ps' objs', (∀ b o, b ≠ 134 → s.heap.get? b = some o → h'.get? b = some o) → h'.get? 134 = some (tabObj ps') → Fresh s.heap h' objs' → TabL ps' (objs' ++ objs) → LamAt (fun a o => (a, o) ∈ objs' ++ objs) f x → Q (.ref f) { s with heap := h', toks := tk' }) :
    wpAny (model PySem.Challenge.rw_pk0111_01.row.prog w) A (call (.ref 139) [.ref x]) Q E s := by
  have G' := G.hide hg (l := [134]) (fun b hb => by rw [List.mem_singleton.mp hb]; exact h134)
  have hC' : CodeHd (hideAll s.heap [134]) 138 134 := hC.keeps fun b o e => hideAll_get _ (hg b o e) fun hb => by rw [List.mem_singleton.mp hb, h134] at e; cases e
  clear G hC
  have hK : Kp (hideAll s.heap [134]) s.heap := fun b o e => of_hideAll _ e
  have hS : (hideAll s.heap [134]).objs.size ≤ s.heap.objs.size := Nat.le_of_eq (hideAll_size _ _)
  have hFr : ∀ o, s.heap.get? 134 = some o → Fresh (hideAll s.heap [134]) s.heap [(134, o)] := fun o e => fresh1 e (hideAll_none _ (.head _))
  have hout : ∀ h', Kp (hideAll s.heap [134]) h' → ∀ b o, b ≠ 134 → s.heap.get? b = some o → h'.get? b = some o := fun h' k b o hb e => k b o (hideAll_get _ e fun hm => hb (List.mem_singleton.mp hm))
  have hun : ∀ b, b ≠ 134 → (hideAll s.heap [134]).get? b = none → s.heap.get? b = none := fun b hb e => unhide e hb
  generalize hideAll s.heap [134] = gg at *
  w_top off
  obtain ⟨hdl, dp, fr, gd, un⟩ := A
  obtain ⟨hh, B, X, T⟩ := G'
  have hs := B.stack
  dsimp only at hh hs hd hu
  subst hh hs
  revert X; k_fill; intro X
  refine wpAny_call ?_
  rcases htl with rfl | ⟨c0, occ, vs0, t0, rfl, hc0, hd0, hv0⟩
  · have hfr := hFr _ ht
    k_dflt (refine' code_cells (objs := [(134, tabObj #[])]) ?k1 ?k2 ?k3 hK hS hfr ?k6 ?k7 ?k8 ?k9 ?kB ?kD ?_ ?c2 ?c3 ?c4; (case k1 => k_asm); (case k2 => k_asm); (case k3 => k_asm);(case k6 => k_is); (case k7 => k_is); (case k8 => ktr_room); (case k9 => exact BindsTo.of_eq rfl); (case kB => exact rfl); (case kD => decide +kernel); (case c2 => exact rfl); (case c3 => exact rfl); (case c4 => exact rfl))
    rintro L' h' tk' cells' hk₁ hL' F' N' Y' B' X' T' l1
    k_cells Y'
    (try simp only [List.cons_append, List.nil_append] at N')
    have l1' : @LT.lt Nat _ 134 L' := l1 _ (.head _)
    clear X B T l1
    (try dsimp only); (try k_fold)
    repeat' (first | (k_unfold; (try dsimp only)) | (first | walk1 | (dsimp only; walk1)))
    dsimp only
    rename Fr _ _ _ _ => F6
    rename News _ _ _ _ => N6
    rename (_ = some (Value.str lamQual _)) => hvq
    rename (_ = Data.fields _) => hdq
    rename (_ = Data.cell (some (Value.ref x))) => hcq
    have n1 := (N6 _ (.head _))
    have n2 := (N6 _ (.tail _ (.head _)))
    have n3 := (N6 _ (.tail _ (.tail _ (.head _))))
    have n4 := (N6 _ (.tail _ (.tail _ (.tail _ (.head _)))))
    refine hret _ _ _ _ [(_, _), (_, _), (_, _)] (hout _ F6.keep) n4.1 (Fresh.cons ⟨n1.1, hun _ ?_ n1.2.2⟩ (Fresh.cons ⟨n2.1, hun _ ?_ n2.2.2⟩ (Fresh.cons ⟨n3.1, hun _ ?_ n3.2.2⟩ Fresh.nil))) (.inr ⟨_, _, _, _, rfl, .tail _ (.head _), hdq, hvq⟩)
      ⟨_, _, _, _, _, _, _, _, _, _, _, ?_, .head _, .tail _ (.tail _ (.head _)), hcq, .tail _ (.head _), hdq, hvq⟩
    · intro e
      have e1 := n1.1
      rw [e, n4.1] at e1
      cases e1
    · intro e
      have e1 := n2.1
      rw [e, n4.1] at e1
      cases e1
      cases hdq
      cases hvq
    · intro e
      have e1 := n3.1
      rw [e, n4.1] at e1
      cases e1
      cases hcq
    · k_dflt (refine' lamsrc_of (P := w.params) ?e1 ?e2 ?e3; (case e1 => k_is); (case e2 => exact rfl); (case e3 => exact rfl))
  · have hfr := hFr _ ht
    k_dflt (refine' code_cells (objs := [(134, tabObj #[rawInt (125 : Nat), rawInt (11 : Nat), .ref c0])]) ?k1 ?k2 ?k3 hK hS hfr ?k6 ?k7 ?k8 ?k9 ?kB ?kD ?_ ?c2 ?c3 ?c4; (case k1 => k_asm); (case k2 => k_asm); (case k3 => k_asm);(case k6 => k_is); (case k7 => k_is); (case k8 => ktr_room); (case k9 => exact BindsTo.of_eq rfl); (case kB => exact rfl); (case kD => decide +kernel); (case c2 => exact rfl); (case c3 => exact rfl); (case c4 => exact rfl))
    rintro L' h' tk' cells' hk₁ hL' F' N' Y' B' X' T' l1
    k_cells Y'
    (try simp only [List.cons_append, List.nil_append] at N')
    have l1' : @LT.lt Nat _ 134 L' := l1 _ (.head _)
    have hc1 : c0 ≠ 134 := by
      rintro rfl
      have e1 := hobjs _ hc0
      rw [ht] at e1
      cases e1
      cases hd0
      cases hv0
    clear X B T l1
    (try dsimp only); (try k_fold)
    repeat' (first | (k_unfold; (try dsimp only)) | (first | walk1 | (dsimp only; walk1)))
    dsimp only
    rename Fr _ _ _ _ => F6
    rename News _ _ _ _ => N6
    rename (_ = Data.cell (some (Value.ref x))) => hcq
    have n1 := (N6 _ (.head _))
    have n2 := (N6 _ (.tail _ (.head _)))
    have n4 := (N6 _ (.tail _ (.tail _ (.head _))))
    refine hret _ _ _ _ [(_, _), (_, _)] (hout _ F6.keep) n4.1 (Fresh.cons ⟨n1.1, hun _ ?_ n1.2.2⟩ (Fresh.cons ⟨n2.1, hun _ ?_ n2.2.2⟩ Fresh.nil)) (.inr ⟨_, _, _, _, rfl, .tail _ (.tail _ hc0), hd0, hv0⟩)
      ⟨_, _, _, _, _, _, _, _, _, _, _, ?_, .head _, .tail _ (.head _), hcq, .tail _ (.tail _ hc0), hd0, hv0⟩
    · intro e
      have e1 := n1.1
      rw [e, n4.1] at e1
      cases e1
    · intro e
      have e1 := n2.1
      rw [e, n4.1] at e1
      cases e1
      cases hcq
    · k_dflt (refine' lamsrc_of (P := w.params) ?e1 ?e2 ?e3; (case e1 => k_is); (case e2 => exact rfl); (case e3 => exact rfl))
end

/-- enter a lambda over a smaller heap g with a ledger of objects beside it -/
theorem lam_over {w : World} {A : Around} {s : Shared} {K : Frag} {base g : Heap} {outer : List Env} {p : Program} {loose : List Str} {mean : ExcName → Option Value} {mg mb : Str → Option Value} {objs : List (Addr × Obj)}
    {R : Result → Shared → Prop} {name qual : Str} {params : Arguments} {body : PySem.Expr} {scope : Scope} {cl : List (Str × Addr)} {pm ctv : Value} {c' : Addr} {f : Addr} {args : Args} {binds : List (Str × Value)}
    (B : Below A base outer g) (X : K.In g) (T : Top p loose mean mg mb g) (hg : Kp g s.heap) (hsz : g.objs.size ≤ s.heap.objs.size) (hN : Fresh g s.heap objs)
    (ho : s.heap.get? f = some (kla_obj name qual params body scope cl pm c' ctv)) (hcd : s.heap.CodeRec (.ref c') qual) (hroom : A.depth < recursionLimit)
    (hbind : bindArgs (kla_fn name qual params body scope cl pm (.ref c') ctv) args = pure binds) (hloc : ∀ y ∈ binds, scope.names.lookup y.1 = some .local)
    (h : ∀ L' h₁, Kp s.heap h₁ → s.heap.get? L' = none → Fr g L' h₁ (fun y => binds.reverse.lookup y) → News g L' h₁ objs → Below A base outer g → K.In g → Top p loose mean mg mb g →
      wpAny (model PySem.Challenge.rw_pk0111_01.row.prog w) (A.deeper (envX qual scope L' f (.ref c') cl)) (eval body (envX qual scope L' f (.ref c') cl))
        (fun v s' => R (.ok (.ret v)) s') (fun _ _ => False) { s with heap := h₁, toks := s.toks + binds.length })
    (hco : scope.isCoroutine = false) (hgen : scope.isGenerator = false) (hk : scope.kind = .function)
    (hcell : ∀ x ∈ scope.names, x.2 ≠ .cell) : codeAny (model PySem.Challenge.rw_pk0111_01.row.prog w) A (.call (.ref f) args) R s := by
  have T' := T.keeps hg
  have hL : s.heap.get? s.heap.objs.size = none := Heap.get?_none_of_le (Nat.le_refl _)
  refine kla_callFunE hroom ho rfl hco hgen rfl hcd ?_
  rw [hbind]
  refine wpAny_pure (wpAny_newFunctionEnv hcell hloc (fun h₁ hns hsb => ⟨(T'.nolimit).fresh _ hsb, ?_⟩) hk)
  show codeAny _ _ (.expr body (envX qual scope s.heap.objs.size f (.ref c') cl)) _ _
  have hk₁ : ∀ b o, s.heap.get? b = some o → h₁.get? b = some o := fun b o e => hsb.extBut b o (Nat.ne_of_lt (Heap.lt_size e)) (Heap.get?_push_of_some _ e)
  refine kla_codeExpr (wpAny_mono (h s.heap.objs.size h₁ hk₁ hL ⟨hns, fun b o e => hk₁ b o (hg b o e), hsz⟩ (fun p hp => ⟨hk₁ _ _ (hN p hp).1, ?_, (hN p hp).2⟩) B X T) (fun v s' hl => hl) fun _ _ y => y.elim)
  intro e
  have := (hN p hp).1
  rw [e, hL] at this
  cases this
end Mine
namespace Mine
theorem Gr.over (s₀ : Shared) {w : World} {loose : List Str} {mean : ExcName → Option Value} {mg mb : Str → Option Value} {A : Around} {base g h : Heap} {outer : List Env} {env : Env} {L : Addr} {m : Str → Option Value} {news : List (Addr × Obj)}
    (B : Below A base outer g) (X : (hd.heap_39 w.params).In g) (T : Top topProg loose mean mg mb g) (F : Fr g L h m) (N : News g L h news) (hh : A.handled = none) (hf : env.frame = some L) (hk : env.scope.kind = .function) :
    Gr w loose mean mg mb (A.deeper env) base (env :: outer) (hideAll h (news.map (·.1))) := by
  obtain ⟨_, BG, st, _⟩ := groundX (s := { s₀ with heap := h }) (R := fun _ _ => True) (A := A.deeper env) B F N (Around.frames_deeper B.stack) hf hk
  exact ⟨hh, BG, X.keeps st, T.keeps st⟩
theorem kp_hidden (h : Heap) (l : List Addr) : Kp (hideAll h l) h := fun _ _ e => of_hideAll _ e
theorem fresh_hidden {g h : Heap} {L : Addr} {news : List (Addr × Obj)} (N : News g L h news) : Fresh (hideAll h (news.map (·.1))) h news := fun p hp => ⟨(N p hp).1, hideAll_none _ (List.mem_map_of_mem hp)⟩
theorem over3w {s s₀ : Shared} {w : World} {loose : List Str} {mean : ExcName → Option Value} {mg mb : Str → Option Value} {A : Around} {base g h : Heap} {outer : List Env} {env : Env} {L : Addr} {m : Str → Option Value} {news : List (Addr × Obj)} {prog : Program} {α : Type} {tr : Sem α} {Q : α → Shared → Prop} {E : Value → Shared → Prop}
    (B : Below A base outer g) (X : (hd.heap_39 w.params).In g) (T : Top topProg loose mean mg mb g) (F : Fr g L h m) (N : News g L h news) (hh : A.handled = none) (hf : env.frame = some L) (hk : env.scope.kind = .function)
    (k : ∀ gg, Gr w loose mean mg mb (A.deeper env) base (env :: outer) gg → Kp g gg → Kp gg h → Fresh gg h news → wpAny (model prog w) (A.deeper env) tr Q E s) : wpAny (model prog w) (A.deeper env) tr Q E s :=
  k _ (Gr.over s₀ B X T F N hh hf hk) (fun b o e => hideAll_get _ (F.keep b o e) fun hm => by
    obtain ⟨p, hp, rfl⟩ := List.mem_map.mp hm
    rw [(N p hp).2.2] at e; cases e) (kp_hidden _ _) (fresh_hidden N)
theorem eq_norm {prog : Program} {w : World} {A : Around} {E : Value → Shared → Prop} {s : Shared} {p1 p2 q1 q2 : Addr} {its1 its2 : List Value} {cx cy : List Int} {tb1 tb2 : Tok} {Q : Value → Shared → Prop}
    (h1 : s.heap.get? p1 = some { cls := .type "tuple", data := .seq #[.ref q1, .int 0 tb1] }) (h1' : s.heap.get? q1 = some { cls := .type "tuple", data := .seq its1.toArray }) (i1 : IntsAre its1 cx)
    (h2 : s.heap.get? p2 = some { cls := .type "tuple", data := .seq #[.ref q2, .int 0 tb2] }) (h2' : s.heap.get? q2 = some { cls := .type "tuple", data := .seq its2.toArray }) (i2 : IntsAre its2 cy)
    (hu : A.units + 64 < cLine) (h : Q (.bool (decide (cx = cy))) s) : wpAny (model prog w) A (compareOp .Eq (.ref p1) (.ref p2)) Q E s := by
  refine eq_dataH (reads_tuple_at h1 rfl rfl (.cons (reads_tuple_at h1' rfl rfl ((ke_carried i1).reads _)) (.cons (.int _ _) .nil))) (reads_tuple_at h2 rfl rfl (.cons (reads_tuple_at h2' rfl rfl ((ke_carried i2).reads _)) (.cons (.int _ _) .nil))) ?_ ?_ hu ?_
  · simp [SeqAt.shaped, PyData.canLay0, PyData.canLayAll0, PyData.depth, PyData.depthAll, ke_canLayAll0, ke_depthAll]
  · simp [SeqAt.shaped, PyData.canLay0, PyData.canLayAll0, PyData.depth, PyData.depthAll, ke_canLayAll0, ke_depthAll]
  · have e : PyData.eqv (.tuple [.tuple (cx.map PyData.int), .int 0]) (.tuple [.tuple (cy.map PyData.int), .int 0]) = decide (cx = cy) := by
      simp [PyData.eqv, PyData.eqvAll, ked_eqvAll]
    rw [e]; exact h
section
variable {w : World} {loose : List Str} {mean : ExcName → Option Value} {mg mb : Str → Option Value} {A : Around} {base g₀ : Heap} {outer : List Env} {s : Shared} {Q E : Value → Shared → Prop}
set_option maxHeartbeats 2000000 in
theorem equal_call {x y : Addr} {cx cy : List Int} {nx ny : Int} {objs : List (Addr × Obj)} (G : Gr w loose mean mg mb A base outer g₀) (hg : Kp g₀ s.heap) (hf : Fresh g₀ s.heap objs)
    (hd : A.depth + 1 < recursionLimit) (hu : A.units + 128 < cLine) (W1 : WsObj w.params (fun a o => (a, o) ∈ objs) x cx 0 nx) (W2 : WsObj w.params (fun a o => (a, o) ∈ objs) y cy 0 ny)
    (l1 : cx.length ≤ 6) (l2 : cy.length ≤ 6)
    (hret : ∀ h' tk', Kp s.heap h' → Q (.bool (decide (cx = cy))) { s with heap := h', toks := tk' }) :
    wpAny (model PySem.Challenge.rw_pk0111_01.row.prog w) A (call (.ref 73) [.ref x, .ref y]) Q E s := by
  obtain ⟨d1, p1, q1, its1, v11, v12, v15, t11, t12, t13, t14, t15, tb1, tt1, R11, R12, R13, R14, I1⟩ := W1
  obtain ⟨d2, p2, q2, its2, v21, v22, v25, t21, t22, t23, t24, t25, tb2, tt2, R21, R22, R23, R24, I2⟩ := W2
  have hmem := sub4 (sub4 (sub0 objs) R21 R22 R23 R24) R11 R12 R13 R14
  have hsub := fun p hp => hf p (hmem p hp)
  have G' := G.hide hg (l := [x, d1, p1, q1, y, d2, p2, q2]) (fun b hb => by
    exact none_of_mem hsub hb)
  clear G
  w_top off
  obtain ⟨hdl, dp, fr, gd, un⟩ := A
  obtain ⟨hh, B, X, T⟩ := G'
  have hs := B.stack
  dsimp only at hh hs hd hu
  subst hh hs
  revert X; k_fill; intro X
  have hK : Kp (hideAll s.heap [x, d1, p1, q1, y, d2, p2, q2]) s.heap := fun b o e => of_hideAll _ e
  have hS : (hideAll s.heap [x, d1, p1, q1, y, d2, p2, q2]).objs.size ≤ s.heap.objs.size := Nat.le_of_eq (hideAll_size _ _)
  have hFr : Fresh (hideAll s.heap [x, d1, p1, q1, y, d2, p2, q2]) s.heap _ := fun p hp => ⟨(hsub p hp).1, hidden_none (List.mem_map_of_mem (f := Prod.fst) hp)⟩
  have hcov := cov_hide hsub
  simp only [List.map_cons, List.map_nil] at hcov
  clear hsub hmem
  generalize hideAll s.heap [x, d1, p1, q1, y, d2, p2, q2] = gg at *
  refine wpAny_call ?_
  k_dflt (refine' code_over ?k1 ?k2 ?k3 hK hS hFr ?k6 ?k7 ?k8 ?k9 ?kB ?_ ?c2 ?c3 ?c4 ?c5; (case k1 => k_asm); (case k2 => k_asm); (case k3 => k_asm);(case k6 => k_is); (case k7 => k_is); (case k8 => ktr_room); (case k9 => exact BindsTo.of_eq rfl); (case c5 => decide); (case kB => exact locs rfl); (case c2 => exact rfl); (case c3 => exact rfl); (case c4 => exact rfl))
  rintro L' h' hk₁ hL' F' N' B' X' T'
  (try dsimp only); (try k_fold)
  clear X B T hFr
  repeat' (first | (k_unfold; (try dsimp only)) | ((fail_if_success (with_reducible show wpAny _ _ (compareOp _ _ _) _ _ _)); first | walk1 | (dsimp only; walk1)))
  rename Fr _ _ _ _ => F6
  rename News _ _ _ _ => N6
  refine eq_norm (N6 _ (.tail _ (.tail _ (.head _)))).1 (N6 _ (.tail _ (.tail _ (.tail _ (.head _))))).1 I1 (N6 _ (.tail _ (.tail _ (.tail _ (.tail _ (.tail _ (.tail _ (.head _)))))))).1 (N6 _ (.tail _ (.tail _ (.tail _ (.tail _ (.tail _ (.tail _ (.tail _ (.head _))))))))).1 I2 ?_ ?_
  · show un + 3 + 64 < _; omega
  · repeat' (first | (k_unfold; (try dsimp only)) | (first | walk1 | (dsimp only; walk1)))
    exact hret _ _ (hcov.out _ _ F6.keep N6)
set_option maxHeartbeats 2000000 in
theorem lam_call {f T x y : Addr} {v0 v2 : Value} {cx cy : List Int} {nx ny : Int} {objs : List (Addr × Obj)} (G : Gr w loose mean mg mb A base outer g₀) (hg : Kp g₀ s.heap) (hf : Fresh g₀ s.heap objs)
    (hd : A.depth + 2 < recursionLimit) (hu : A.units + 160 < cLine) (hT : (T, ({ cls := .type "tuple", data := .seq #[v0, .ref x, v2] } : Obj)) ∈ objs) (W1 : WsObj w.params (fun a o => (a, o) ∈ objs) x cx 0 nx) (W2 : WsObj w.params (fun a o => (a, o) ∈ objs) y cy 0 ny)
    (hl : LamAt (fun a o => (a, o) ∈ objs) f y) (l1 : cx.length ≤ 6) (l2 : cy.length ≤ 6)
    (hret : ∀ h' tk', Kp s.heap h' → Q (.bool (decide (cx = cy))) { s with heap := h', toks := tk' }) :
    wpAny (model PySem.Challenge.rw_pk0111_01.row.prog w) A (call (.ref f) [.ref T]) Q E s := by
  obtain ⟨d1, p1, q1, its1, v11, v12, v15, t11, t12, t13, t14, t15, tb1, tt1, R11, R12, R13, R14, I1⟩ := W1
  obtain ⟨d2, p2, q2, its2, v21, v22, v25, t21, t22, t23, t24, t25, tb2, tt2, R21, R22, R23, R24, I2⟩ := W2
  obtain ⟨pr, lb, sc, cell, oc, c', occ, vs, tq, ctv, pm, ⟨P9, o9, fd9, pos9, pos8, e9, e8, e7⟩, L1, L2, L3, L4, L5, L6⟩ := hl
  have hmem := sub4 (sub4 (sub4 (sub0 objs) R21 R22 R23 R24) R11 R12 R13 R14) hT L1 L2 L4
  have hsub := fun p hp => hf p (hmem p hp)
  have G' := G.hide hg (l := [T, f, cell, c', x, d1, p1, q1, y, d2, p2, q2]) (fun b hb => by
    exact none_of_mem hsub hb)
  clear G
  w_top off
  obtain ⟨hdl, dp, fr, gd, un⟩ := A
  obtain ⟨hh, B, X, T0⟩ := G'
  have hs := B.stack
  dsimp only at hh hs hd hu
  subst hh hs
  revert X; k_fill; intro X
  refine' lamsrc_elim e9 ?h9 ?_
  case h9 => k_is
  intro e6
  subst e6
  cases e8
  cases e7
  clear e9
  have hK : Kp (hideAll s.heap [T, f, cell, c', x, d1, p1, q1, y, d2, p2, q2]) s.heap := fun b o e => of_hideAll _ e
  have hS : (hideAll s.heap [T, f, cell, c', x, d1, p1, q1, y, d2, p2, q2]).objs.size ≤ s.heap.objs.size := Nat.le_of_eq (hideAll_size _ _)
  have hFr : Fresh (hideAll s.heap [T, f, cell, c', x, d1, p1, q1, y, d2, p2, q2]) s.heap _ := fun p hp => ⟨(hsub p hp).1, hidden_none (List.mem_map_of_mem (f := Prod.fst) hp)⟩
  have hfo := (hf _ L1).1
  have hcr : s.heap.CodeRec (.ref c') lamQual := ⟨c', occ, vs, tq, rfl, (hf _ L4).1, L5, L6⟩
  have hcov := cov_hide hsub
  simp only [List.map_cons, List.map_nil] at hcov
  clear hsub hmem
  generalize hideAll s.heap [T, f, cell, c', x, d1, p1, q1, y, d2, p2, q2] = gg at *
  refine wpAny_call ?_
  k_dflt (refine' lam_over ?k1 ?k2 ?k3 hK hS hFr hfo hcr ?k8 ?k9 ?kB ?_ ?c2 ?c3 ?c4 ?c5; (case k1 => k_asm); (case k2 => k_asm); (case k3 => k_asm);(case k8 => ktr_room); (case k9 => exact rfl); (case c5 => decide); (case kB => exact locs rfl); (case c2 => exact rfl); (case c3 => exact rfl); (case c4 => exact rfl))
  rintro L' h' hk₁ hL' F' N' B' X' T'
  (try dsimp only); (try k_fold)
  clear X B T0 hFr
  repeat' (first | (k_unfold; (try dsimp only)) | ((fail_if_success (with_reducible show wpAny _ _ (eval (Expr.Name (Str.ofString "mark") _) _) _ _ _)); first | walk1 | (dsimp only; walk1)))
  rename News _ _ _ _ => N6
  rename Fr _ _ _ _ => F6
  k_dflt (refine nameX_F (c := cell) N6 ?_ (.tail _ (.tail _ (.head _))) L3 ?_ ?_ ?_)
  · rfl
  · repeat' (first | (k_unfold; (try dsimp only)) | ((fail_if_success (with_reducible show wpAny _ _ (call (Value.ref _) _) _ _ _)); first | walk1 | (dsimp only; walk1)))
    refine over3w (s₀ := s) B' X' T' F6 N6 rfl rfl rfl fun g2 G2 _ K2 Fr2 => ?_
    refine equal_call (nx := nx) (ny := ny) G2 K2 Fr2 ?_ ?_ ⟨d1, p1, q1, its1, v11, v12, v15, t11, t12, t13, t14, t15, tb1, tt1, ?_, ?_, ?_, ?_, I1⟩ ⟨d2, p2, q2, its2, v21, v22, v25, t21, t22, t23, t24, t25, tb2, tt2, ?_, ?_, ?_, ?_, I2⟩ l1 l2 ?_
    · show dp + 1 + 1 < _; omega
    · show un + 3 + 128 < _; omega
    · k_mem
    · k_mem
    · k_mem
    · k_mem
    · iterate 8 (refine List.Mem.tail _ ?_)
      k_mem
    · iterate 8 (refine List.Mem.tail _ ?_)
      k_mem
    · iterate 8 (refine List.Mem.tail _ ?_)
      k_mem
    · iterate 8 (refine List.Mem.tail _ ?_)
      k_mem
    · intro h2 tk2 kp2
      have F7 := F6.keeps kp2
      have N7 := N6.grown kp2
      exact hret _ _ (hcov.out _ _ F7.keep N7)
  · rfl
  · rfl
end
end Mine
namespace Mine
theorem WsObj.monoG {P : Params} {R R' : Addr → Obj → Prop} {x : Addr} {cs : List Int} {b nt : Int} (h : ∀ a o, R a o → R' a o) (W : WsObj P R x cs b nt) : WsObj P R' x cs b nt := by
  obtain ⟨d, p, q, its, v1, v2, v5, t1, t2, t3, t4, t5, tb, tt, a1, a2, a3, a4, a5⟩ := W
  exact ⟨d, p, q, its, v1, v2, v5, t1, t2, t3, t4, t5, tb, tt, h _ _ a1, h _ _ a2, h _ _ a3, h _ _ a4, a5⟩
/-- a tuple whose second item is a Whitespace -/
noncomputable def ItemG {α : Type} (P : Params) (cs : α → List Int) (nt : α → Int) (a : α) (v : Value) (os : List (Addr × Obj)) : Prop :=
  Ex4 fun T v0 x v2 => And3 (v = .ref T) ((T, ({ cls := .type "tuple", data := .seq #[v0, .ref x, v2] } : Obj)) ∈ os) (WsObj P (fun a o => (a, o) ∈ os) x (cs a) 0 (nt a))
section
variable {w : World} {loose : List Str} {mean : ExcName → Option Value} {mg mb : Str → Option Value} {A : Around} {base g₀ : Heap} {outer : List Env} {s : Shared} {Q E : Value → Shared → Prop}
set_option maxHeartbeats 2000000 in
theorem split_call0 {α : Type} {cs : α → List Int} {nt : α → Int} {as : List α} {l f y : Addr} {vs : List Value} {n : Nat} {cy : List Int} {ny : Int} {objs : List (Addr × Obj)} (K : α → Value → Prop) (G : Gr w loose mean mg mb A base outer g₀) (hg : Kp g₀ s.heap) (hf : Fresh g₀ s.heap objs)
    (hd : A.depth + 3 < recursionLimit) (hu : A.units + 200 < cLine) (hl : s.heap.get? l = some (W.listOf vs.toArray n)) (hlo : ∀ p ∈ objs, p.1 ≠ l) (hv : Paired K as vs) (hK : ∀ a v, a ∈ as → K a v → ItemG w.params cs nt a v objs) (hcs : ∀ a ∈ as, (cs a).length ≤ 6) (hlen : as.length ≤ 64)
    (hL : LamAt (fun a o => (a, o) ∈ objs) f y) (hy : WsObj w.params (fun a o => (a, o) ∈ objs) y cy 0 ny) (hcy : cy.length ≤ 6)
    (hret : ∀ T Y N ys ns k1 k2 h' tk', Kp s.heap h' → Fresh s.heap h' [(T, ({ cls := .type "tuple", data := .seq #[.ref Y, .ref N] } : Obj)), (Y, W.listOf (List.toArray ys) k1), (N, W.listOf (List.toArray ns) k2)] →
      Paired K (as.filter fun a => decide (cs a = cy)) ys → Paired K (as.filter fun a => !decide (cs a = cy)) ns → Q (.ref T) { s with heap := h', toks := tk' }) :
    wpAny (model PySem.Challenge.rw_pk0111_01.row.prog w) A (call (.ref 35) [.ref l, .ref f]) Q E s := by
  have G' := G.hide hg (l := objs.map (·.1)) (fun b hb => none_of_mem hf hb)
  clear G
  w_top off
  obtain ⟨hdl, dp, fr, gd, un⟩ := A
  obtain ⟨hh, B, X, T0⟩ := G'
  have hs := B.stack
  dsimp only at hh hs hd hu
  subst hh hs
  revert X; k_fill; intro X
  have hK2 : Kp (hideAll s.heap (objs.map (·.1))) s.heap := fun b o e => of_hideAll _ e
  have hS : (hideAll s.heap (objs.map (·.1))).objs.size ≤ s.heap.objs.size := Nat.le_of_eq (hideAll_size _ _)
  have hFr : Fresh (hideAll s.heap (objs.map (·.1))) s.heap objs := fun p hp => ⟨(hf p hp).1, hidden_none (List.mem_map_of_mem (f := Prod.fst) hp)⟩
  have hcov := cov_hide hf
  have hlg : (hideAll s.heap (objs.map (·.1))).get? l = some (W.listOf vs.toArray n) := hideAll_get _ hl fun hm => by
    obtain ⟨p, hp, e⟩ := List.mem_map.mp hm
    exact hlo p hp e
  have hun : ∀ b, (∀ p ∈ objs, p.1 ≠ b) → (hideAll s.heap (objs.map (·.1))).get? b = none → s.heap.get? b = none := by
    intro b hb e
    cases q : s.heap.get? b with
    | none => rfl
    | some o =>
      rw [hideAll_get _ q fun hm => by
        obtain ⟨p, hp, e⟩ := List.mem_map.mp hm
        exact hb p hp e] at e
      cases e
  generalize hideAll s.heap (objs.map (·.1)) = gg at *
  refine wpAny_call ?_
  k_dflt (refine' code_over ?k1 ?k2 ?k3 hK2 hS hFr ?k6 ?k7 ?k8 ?k9 ?kB ?_ ?c2 ?c3 ?c4 ?c5; (case k1 => k_asm); (case k2 => k_asm); (case k3 => k_asm); (case k6 => k_is); (case k7 => k_is); (case k8 => ktr_room); (case k9 => exact BindsTo.of_eq rfl); (case c5 => decide); (case kB => exact locs rfl); (case c2 => exact rfl); (case c3 => exact rfl); (case c4 => exact rfl))
  rintro L' h' hk₁ hL' F' N' B' X' T'
  (try dsimp only); (try k_fold)
  clear X B T0
  repeat' (first | (k_unfold; (try dsimp only)) | ((fail_if_success (with_reducible show wpAny _ _ (pyIter _) _ _ _)); first | walk1 | (dsimp only; walk1)))
  rename Fr _ _ _ _ => F6
  rename News _ _ _ _ => N6
  rename (_ ∧ AllLt _ objs) => l1
  rename_i Y0 _ l0 _ N0 _ _
  with_unfolding_all refine For_invVF F6 rfl rfl ?_
  walk1
  have hne0 : ∀ p ∈ objs, p.1 ≠ Y0 := fun p hp => Nat.ne_of_lt (l0 p hp)
  have hne1 : ∀ p ∈ objs, p.1 ≠ N0 := fun p hp => Nat.ne_of_lt (allLt_mem l1.2 p hp)
  have hne2 : Y0 ≠ N0 := Nat.ne_of_lt l1.1
  refine for_src (as := as) (K := K) (fun i m₁ news₁ => Ex4 fun ys ns k1 k2 => And6 (news₁ = (N0, W.listOf (List.toArray ns) k2) :: (Y0, W.listOf (List.toArray ys) k1) :: objs) (Paired K ((as.take i).filter fun a => decide (cs a = cy)) ys) (Paired K ((as.take i).filter fun a => !decide (cs a = cy)) ns) (m₁ (Str.ofString "yes") = some (.ref Y0)) (m₁ (Str.ofString "no") = some (.ref N0)) (m₁ (Str.ofString "predicate") = some (.ref f))) (src_list rfl ⟨_, F6.keep _ _ hlg, rfl, n, rfl⟩ hv) ?_ F6 N6 ?_ ?_ ?_
  · intro b hb
    rw [List.mem_singleton.mp hb]; exact ⟨_, hlg⟩
  · exact ⟨[], [], _, _, rfl, .nil, .nil, rfl, rfl, rfl⟩
  · clear F6 N6
    rintro i a v m₁ news₁ h₁ tk₁ own hi hKa ⟨ys, ns, k1, k2, rfl, hy1, hn1, my, mn, mp⟩ hoff F5 N5
    rw [pin3 my mn mp] at F5
    clear my mn mp
    have ham := List.mem_of_getElem? hi
    have hia := (List.getElem?_eq_some_iff.mp hi).1
    obtain ⟨T, v0, x, v2, rfl, hT, hW⟩ := hK a v ham hKa
    simp only [List.cons_append] at N5
    have hroN : ∀ p ∈ (Y0, W.listOf (List.toArray ys) k1) :: (objs ++ own), p.1 ≠ N0 := by
      intro p hp
      rcases List.mem_cons.mp hp with rfl | hp
      · exact hne2
      · rcases List.mem_append.mp hp with hp | hp
        · exact hne1 p hp
        · exact hoff p hp N0 (.head _)
    have hroY : ∀ p ∈ objs ++ own, p.1 ≠ Y0 := fun p hp => (List.mem_append.mp hp).elim (hne0 p) fun h => hoff p h Y0 (.tail _ (.head _))
    have e1 := paired_len hy1
    have e2 := paired_len hn1
    have e3 := List.length_filter_le (fun a => decide (cs a = cy)) (as.take i)
    have e4 := List.length_filter_le (fun a => !decide (cs a = cy)) (as.take i)
    have e5 := List.length_take_le i as
    have htk : as.take (i + 1) = as.take i ++ [a] := by rw [List.take_add_one, hi]; rfl
    repeat' (first | (k_unfold; (try dsimp only)) | ((fail_if_success (with_reducible show wpAny _ _ (call (Value.ref _) _) _ _ _)); first | walk1 | (dsimp only; walk1)))
    have hLf : FnAt f h₁ := by
      obtain ⟨pr, lb, sc, cell, oc, c', occ, vsq, tq, ctv, pm, _, L1, _⟩ := hL
      exact ⟨_, _, _, _, (N5 _ (.tail _ (.tail _ (List.mem_append_left _ L1)))).1⟩
    k_dflt (refine callWith_F hLf ?_)
    repeat' (first | (k_unfold; (try dsimp only)) | ((fail_if_success (with_reducible show _ ∧ _)); first | walk1 | (dsimp only; walk1)))
    refine ⟨hLf, ?_⟩
    refine over3w (s₀ := s) B' X' T' F5 N5 rfl rfl rfl fun g2 G2 _ K2 Fr2 => ?_
    · have hsub : ∀ p ∈ objs, p ∈ (N0, W.listOf (List.toArray ns) k2) :: (Y0, W.listOf (List.toArray ys) k1) :: (objs ++ own) := fun p hp => .tail _ (.tail _ (List.mem_append_left _ hp))
      refine lam_call G2 K2 Fr2 ?_ ?_ (hsub _ hT) (hW.monoG fun a o h => hsub _ h) (hy.monoG fun a o h => hsub _ h) (hL.mono fun a o h => hsub _ h) (hcs a ham) hcy ?_
      · show dp + 1 + 2 < _; omega
      · show un + 3 + 160 < _; omega
      · intro h2 tk2 kp2
        replace F5 := F5.keeps kp2
        replace N5 := N5.grown kp2
        clear Fr2 K2 G2
        try dsimp only
        by_cases hc : cs a = cy
        · rw [decide_eq_true hc]
          repeat' (first | (k_unfold; (try dsimp only)) | ((fail_if_success (with_reducible show wpAny _ _ (call (Value.builtin _) _) _ _ _)); first | walk1 | (dsimp only; walk1)))
          refine append_K F5 N5 (Upd.tail (fun e => hne2 e.symm) (Upd.head hroY)) ?_ (by rw [sizeLine_eq, List.size_toArray]; omega)
          intro h3 F6 N6
          try dsimp only
          repeat' (first | (k_unfold; (try dsimp only)) | (first | walk1 | (dsimp only; walk1)))
          rw [List.push_toArray] at N6
          refine TurnPost.next (news₂ := _ :: _ :: objs) F6 N6 hoff ⟨_, _, _, _, rfl, ?_, ?_, rfl, rfl, rfl⟩
          · rw [htk, List.filter_append]
            simpa [hc] using Paired.snoc hy1 hKa
          · rw [htk, List.filter_append]
            simpa [hc] using hn1
        · rw [decide_eq_false hc]
          repeat' (first | (k_unfold; (try dsimp only)) | ((fail_if_success (with_reducible show wpAny _ _ (call (Value.builtin _) _) _ _ _)); first | walk1 | (dsimp only; walk1)))
          refine append_K F5 N5 (Upd.head hroN) ?_ (by rw [sizeLine_eq, List.size_toArray]; omega)
          intro h3 F6 N6
          try dsimp only
          repeat' (first | (k_unfold; (try dsimp only)) | (first | walk1 | (dsimp only; walk1)))
          rw [List.push_toArray] at N6
          refine TurnPost.next (news₂ := _ :: _ :: objs) F6 N6 hoff ⟨_, _, _, _, rfl, ?_, ?_, rfl, rfl, rfl⟩
          · rw [htk, List.filter_append]
            simpa [hc] using hy1
          · rw [htk, List.filter_append]
            simpa [hc] using Paired.snoc hn1 hKa
  · clear F6 N6
    rintro m₁ news₁ h₁ tk₁ ⟨ys, ns, k1, k2, rfl, hy1, hn1, my, mn, mp⟩ F5 N5
    rw [pin2 my mn] at F5
    clear my mn mp
    rw [List.take_length] at hy1 hn1
    try dsimp only
    repeat' (first | (k_unfold; (try dsimp only)) | ((fail_if_success (with_reducible show wpAny _ _ (newTuple _) _ _ _)); first | walk1 | (dsimp only; walk1)))
    refine newTuple_G ⟨Kp.refl _⟩ F5 N5 ?_ (by rw [sizeLine_eq]; show 2 ≤ _; decide)
    intro T h3 g3 nT F6 N6 _
    try dsimp only
    repeat' (first | (k_unfold; (try dsimp only)) | (first | walk1 | (dsimp only; walk1)))
    rename (∀ p ∈ (N0, _) :: (Y0, _) :: objs, p.1 < T) => hltT
    have m1 := N6 _ (.head _)
    have m2 := N6 _ (.tail _ (.head _))
    have m3 := N6 _ (.tail _ (.tail _ (.head _)))
    refine hret T Y0 N0 ys ns k1 k2 h3 _ (hcov.out _ _ F6.keep fun p hp => N6 p (.tail _ (.tail _ (.tail _ hp)))) ?_ hy1 hn1
    exact Fresh.cons ⟨m1.1, hun _ (fun p hp => Nat.ne_of_lt (hltT p (.tail _ (.tail _ hp)))) m1.2.2⟩ (Fresh.cons ⟨m3.1, hun _ hne0 m3.2.2⟩ (Fresh.cons ⟨m2.1, hun _ hne1 m2.2.2⟩ Fresh.nil))
theorem ne_lst {o : Obj} {vs : List Value} {n : Nat} {c : Value} (e : o.cls = c) (h : c ≠ .type "list") : o ≠ W.listOf vs.toArray n := fun q => h (by rw [← e, q])
theorem WsObj.mono' {P : Params} {R R' : Addr → Obj → Prop} {x : Addr} {cs : List Int} {b nt : Int} {vs : List Value} {n : Nat} (h : ∀ a o, o ≠ W.listOf vs.toArray n → R a o → R' a o) (W : WsObj P R x cs b nt) : WsObj P R' x cs b nt := by
  obtain ⟨d, p, q, its, v1, v2, v5, t1, t2, t3, t4, t5, tb, tt, a1, a2, a3, a4, a5⟩ := W
  exact ⟨d, p, q, its, v1, v2, v5, t1, t2, t3, t4, t5, tb, tt, h _ _ (ne_lst (c := .ref 97) rfl (by decide)) a1, h _ _ (ne_lst (c := .type "dict") rfl (by decide)) a2, h _ _ (ne_lst (c := .type "tuple") rfl (by decide)) a3, h _ _ (ne_lst (c := .type "tuple") rfl (by decide)) a4, a5⟩
theorem LamAt.mono' {R R' : Addr → Obj → Prop} {f x : Addr} {vs : List Value} {n : Nat} (h : ∀ a o, o ≠ W.listOf vs.toArray n → R a o → R' a o) : LamAt R f x → LamAt R' f x := by
  rintro ⟨pr, lb, sc, cell, oc, c', occ, vs, t, ctv, pm, a0, a1, a2, a3, a4, a5, a6⟩
  exact ⟨pr, lb, sc, cell, oc, c', occ, vs, t, ctv, pm, a0, h _ _ (ne_lst (c := .type "function") rfl (by decide)) a1, h _ _ (by intro e; rw [e] at a3; cases a3) a2, a3, h _ _ (by intro e; rw [e] at a5; cases a5) a4, a5, a6⟩
theorem split_call {α : Type} {cs : α → List Int} {nt : α → Int} {as : List α} {l f y : Addr} {vs : List Value} {n : Nat} {cy : List Int} {ny : Int} {objs : List (Addr × Obj)} (K : α → Value → Prop) (G : Gr w loose mean mg mb A base outer g₀) (hg : Kp g₀ s.heap) (hf : Fresh g₀ s.heap objs)
    (hd : A.depth + 3 < recursionLimit) (hu : A.units + 200 < cLine) (hl : (l, W.listOf vs.toArray n) ∈ objs) (hv : Paired K as vs) (hK : ∀ a v, a ∈ as → K a v → ItemG w.params cs nt a v objs) (hcs : ∀ a ∈ as, (cs a).length ≤ 6) (hlen : as.length ≤ 64)
    (hL : LamAt (fun a o => (a, o) ∈ objs) f y) (hy : WsObj w.params (fun a o => (a, o) ∈ objs) y cy 0 ny) (hcy : cy.length ≤ 6)
    (hret : ∀ T Y N ys ns k1 k2 h' tk', Kp s.heap h' → Fresh s.heap h' [(T, ({ cls := .type "tuple", data := .seq #[.ref Y, .ref N] } : Obj)), (Y, W.listOf (List.toArray ys) k1), (N, W.listOf (List.toArray ns) k2)] →
      Paired K (as.filter fun a => decide (cs a = cy)) ys → Paired K (as.filter fun a => !decide (cs a = cy)) ns → Q (.ref T) { s with heap := h', toks := tk' }) :
    wpAny (model PySem.Challenge.rw_pk0111_01.row.prog w) A (call (.ref 35) [.ref l, .ref f]) Q E s := by
  have hel := (hf _ hl).1
  have hsub : ∀ a o, o ≠ W.listOf vs.toArray n → (a, o) ∈ objs → (a, o) ∈ objs.filter fun p => !Nat.beq p.1 l := by
    intro a o hne hm
    refine List.mem_filter.mpr ⟨hm, ?_⟩
    have : a ≠ l := by
      rintro rfl
      have e := (hf _ hm).1
      rw [hel] at e
      exact hne (Option.some.inj e).symm
    cases q : Nat.beq a l with
    | false => rfl
    | true => exact absurd (Nat.eq_of_beq_eq_true q) this
  refine split_call0 (nt := nt) (objs := objs.filter fun p => !Nat.beq p.1 l) K G hg (hf.sub fun p hp => (List.mem_filter.mp hp).1) hd hu hel ?_ hv ?_ hcs hlen (hL.mono' hsub) (hy.mono' hsub) hcy hret
  · intro p hp e
    have := (List.mem_filter.mp hp).2
    rw [e, Nat.beq_refl] at this
    cases this
  · intro a v ha hk
    obtain ⟨T, v0, x, v2, e, hT, hW⟩ := hK a v ha hk
    exact ⟨T, v0, x, v2, e, hsub _ _ (ne_lst (c := .type "tuple") rfl (by decide)) hT, hW.mono' hsub⟩
end
end Mine
namespace Mine
theorem mn_eq (a b : Int) : mn a b = min a b := by unfold mn; split <;> omega
/-- what a pair of letters (x, X) gains: p, P of them here, q, Q there -/
noncomputable def gn (p P q Q : Nat) : Int := 2 * min (p : Int) q + 2 * min (P : Int) Q + min ((p : Int) - min (p : Int) q) ((Q : Int) - min (P : Int) Q) + min ((P : Int) - min (P : Int) Q) ((q : Int) - min (p : Int) q)
theorem gn_at (p P q Q : Nat) (a b c d : Int) (h1 : min (p : Int) q = a) (h2 : min (P : Int) Q = b) (h3 : min ((p : Int) - a) ((Q : Int) - b) = c) (h4 : min ((P : Int) - b) ((q : Int) - a) = d) : gn p P q Q = 2 * a + 2 * b + c + d := by
  subst h1 h2 h3 h4; rfl
theorem gn_cases (p P q Q : Nat) : (p ≤ q ∧ P ≤ Q ∧ gn p P q Q = 2 * p + 2 * P) ∨ (q ≤ p ∧ Q ≤ P ∧ gn p P q Q = 2 * q + 2 * Q) ∨ (q ≤ p ∧ P ≤ Q ∧ p + P ≤ q + Q ∧ gn p P q Q = p + q + 2 * P) ∨ (q ≤ p ∧ P ≤ Q ∧ q + Q ≤ p + P ∧ gn p P q Q = 2 * q + P + Q) ∨
    (p ≤ q ∧ Q ≤ P ∧ p + P ≤ q + Q ∧ gn p P q Q = 2 * p + P + Q) ∨ (p ≤ q ∧ Q ≤ P ∧ q + Q ≤ p + P ∧ gn p P q Q = p + q + 2 * Q) := by
  rcases Nat.le_total p q with h | h
  · rcases Nat.le_total P Q with k | k
    · have := gn_at p P q Q p P 0 0 (Int.min_eq_left (by omega)) (Int.min_eq_left (by omega)) (by rw [Int.sub_self]; exact Int.min_eq_left (by omega)) (by rw [Int.sub_self]; exact Int.min_eq_left (by omega))
      exact .inl ⟨h, k, by omega⟩
    · rcases Nat.le_total (p + P) (q + Q) with m | m
      · have := gn_at p P q Q p Q 0 (P - Q) (Int.min_eq_left (by omega)) (Int.min_eq_right (by omega)) (by rw [Int.sub_self, Int.sub_self]; rfl) (Int.min_eq_left (by omega))
        exact .inr (.inr (.inr (.inr (.inl ⟨h, k, m, by omega⟩))))
      · have := gn_at p P q Q p Q 0 (q - p) (Int.min_eq_left (by omega)) (Int.min_eq_right (by omega)) (by rw [Int.sub_self, Int.sub_self]; rfl) (Int.min_eq_right (by omega))
        exact .inr (.inr (.inr (.inr (.inr ⟨h, k, m, by omega⟩))))
  · rcases Nat.le_total P Q with k | k
    · rcases Nat.le_total (p + P) (q + Q) with m | m
      · have := gn_at p P q Q q P (p - q) 0 (Int.min_eq_right (by omega)) (Int.min_eq_left (by omega)) (Int.min_eq_left (by omega)) (by rw [Int.sub_self, Int.sub_self]; rfl)
        exact .inr (.inr (.inl ⟨h, k, m, by omega⟩))
      · have := gn_at p P q Q q P (Q - P) 0 (Int.min_eq_right (by omega)) (Int.min_eq_left (by omega)) (Int.min_eq_right (by omega)) (by rw [Int.sub_self, Int.sub_self]; rfl)
        exact .inr (.inr (.inr (.inl ⟨h, k, m, by omega⟩)))
    · have := gn_at p P q Q q Q 0 0 (Int.min_eq_right (by omega)) (Int.min_eq_right (by omega)) (by rw [Int.sub_self]; exact Int.min_eq_right (by omega)) (by rw [Int.sub_self]; exact Int.min_eq_right (by omega))
      exact .inr (.inl ⟨h, k, by omega⟩)
/-- the least of six sums -/
structure Six (v : Int) (p P q Q : Nat) : Prop where
  a : v ≤ 2 * p + 2 * P
  b : v ≤ 2 * q + 2 * Q
  c : v ≤ p + q + 2 * P
  d : v ≤ 2 * q + P + Q
  e : v ≤ 2 * p + P + Q
  f : v ≤ p + q + 2 * Q
theorem le_gn {v : Int} {p P q Q : Nat} (h : Six v p P q Q) : v ≤ gn p P q Q := by
  rcases gn_cases p P q Q with ⟨_, _, e⟩ | ⟨_, _, e⟩ | ⟨_, _, _, e⟩ | ⟨_, _, _, e⟩ | ⟨_, _, _, e⟩ | ⟨_, _, _, e⟩ <;> rw [e]
  · exact h.a
  · exact h.b
  · exact h.c
  · exact h.d
  · exact h.e
  · exact h.f
theorem gn_six (p P q Q : Nat) : Six (gn p P q Q) p P q Q := by
  rcases gn_cases p P q Q with ⟨_, _, e⟩ | ⟨_, _, e⟩ | ⟨_, _, _, e⟩ | ⟨_, _, _, e⟩ | ⟨_, _, _, e⟩ | ⟨_, _, _, e⟩ <;> rw [e] <;> constructor <;> omega
theorem gn_mono {p P q Q p' P' q' Q' : Nat} (h1 : p ≤ p') (h2 : P ≤ P') (h3 : q ≤ q') (h4 : Q ≤ Q') : gn p P q Q ≤ gn p' P' q' Q' := by
  obtain ⟨a, b, c, d, e, f⟩ := gn_six p P q Q
  exact le_gn ⟨by omega, by omega, by omega, by omega, by omega, by omega⟩
theorem gn_up {v : Int} {p P q Q p' P' q' Q' : Nat} (ha : v + 2 * p + 2 * P ≤ 2 * p' + 2 * P') (hb : v + 2 * q + 2 * Q ≤ 2 * q' + 2 * Q') (hc : v + p + q + 2 * P ≤ p' + q' + 2 * P') (hd : v + 2 * q + P + Q ≤ 2 * q' + P' + Q') (he : v + 2 * p + P + Q ≤ 2 * p' + P' + Q') (hf : v + p + q + 2 * Q ≤ p' + q' + 2 * Q') : gn p P q Q + v ≤ gn p' P' q' Q' := by
  obtain ⟨a, b, c, d, e, f⟩ := gn_six p P q Q
  exact le_gn ⟨by omega, by omega, by omega, by omega, by omega, by omega⟩
theorem gn_s1 (p P q Q : Nat) : gn (p + 1) P (q + 1) Q = gn p P q Q + 2 := by
  have h := gn_up (v := 2) (p := p) (P := P) (q := q) (Q := Q) (p' := p + 1) (P' := P) (q' := q + 1) (Q' := Q) (by omega) (by omega) (by omega) (by omega) (by omega) (by omega)
  have k := gn_up (v := -2) (p := p + 1) (P := P) (q := q + 1) (Q := Q) (p' := p) (P' := P) (q' := q) (Q' := Q) (by omega) (by omega) (by omega) (by omega) (by omega) (by omega)
  omega
theorem gn_comm (p P q Q : Nat) : gn p P q Q = gn q Q p P := by
  have h : ∀ p P q Q : Nat, gn p P q Q ≤ gn q Q p P := fun p P q Q => by
    obtain ⟨a, b, c, d, e, f⟩ := gn_six p P q Q
    exact le_gn ⟨b, a, by omega, by omega, by omega, by omega⟩
  exact Int.le_antisymm (h _ _ _ _) (h _ _ _ _)
theorem gn_swap (p P q Q : Nat) : gn P p Q q = gn p P q Q := by
  have h : ∀ p P q Q : Nat, gn p P q Q ≤ gn P p Q q := fun p P q Q => by
    obtain ⟨a, b, c, d, e, f⟩ := gn_six p P q Q
    exact le_gn ⟨by omega, by omega, by omega, by omega, by omega, by omega⟩
  exact Int.le_antisymm (h _ _ _ _) (h _ _ _ _)
theorem gn_h1 (p P q Q : Nat) : gn p P q Q + 1 ≤ gn (p + 1) P q (Q + 1) := gn_up (by omega) (by omega) (by omega) (by omega) (by omega) (by omega)
theorem gn_nonneg (p P q Q : Nat) : 0 ≤ gn p P q Q := le_gn ⟨by omega, by omega, by omega, by omega, by omega, by omega⟩
theorem gn_zero {p P q Q : Nat} (h1 : p = 0 ∨ q = 0) (h2 : P = 0 ∨ Q = 0) (h3 : p = 0 ∨ Q = 0) (h4 : P = 0 ∨ q = 0) : gn p P q Q = 0 := by
  have h0 := gn_nonneg p P q Q
  obtain ⟨a, b, -, -, -, -⟩ := gn_six p P q Q
  by_cases k : p = 0
  · by_cases m : P = 0 <;> omega
  · omega
theorem gn_pQ (p Q : Nat) : gn p 0 0 Q = min (p : Int) Q := by
  have := gn_at p 0 0 Q 0 0 (min (p : Int) Q) 0 (Int.min_eq_right (by omega)) (Int.min_eq_left (by omega)) (by rw [Int.sub_zero, Int.sub_zero]) (by rfl)
  omega
theorem gn_one (p Q : Nat) : gn (p + 1) 0 0 (Q + 1) = gn p 0 0 Q + 1 := by rw [gn_pQ, gn_pQ]; omega
noncomputable def gw (x X : Nat) (a b : List Nat) : Int := gn (a.count x) (a.count X) (b.count x) (b.count X)
theorem gw_flip (x X : Nat) (a b : List Nat) : gw X x a b = gw x X a b := gn_swap _ _ _ _
noncomputable def gS (a b : List Nat) : Int := gw 97 65 a b + gw 98 66 a b + gw 99 67 a b
noncomputable def dueW (a b : List Nat) : Int := 2 * max (a.length : Int) (b.length : Int) - gw 97 65 a b - gw 98 66 a b - gw 99 67 a b
theorem dueW_gS (a b : List Nat) : dueW a b = 2 * max (a.length : Int) (b.length : Int) - gS a b := by unfold dueW gS; omega
theorem cnt_snoc (a : List Nat) (x c : Nat) : (a ++ [x]).count c = a.count c + (if x = c then 1 else 0) := by
  rw [List.count_append, List.count_singleton]; simp
theorem cnt_hit (a : List Nat) (x : Nat) : (a ++ [x]).count x = a.count x + 1 := by rw [cnt_snoc, if_pos rfl]
theorem cnt_miss (a : List Nat) {x c : Nat} (h : x ≠ c) : (a ++ [x]).count c = a.count c := by rw [cnt_snoc, if_neg h, Nat.add_zero]
theorem gw_mono {a a' b b' : List Nat} (ha : a.Sublist a') (hb : b.Sublist b') (u U : Nat) : gw u U a b ≤ gw u U a' b' := gn_mono (ha.count_le u) (ha.count_le U) (hb.count_le u) (hb.count_le U)
theorem gS_mono {a a' b b' : List Nat} (ha : a.Sublist a') (hb : b.Sublist b') : gS a b ≤ gS a' b' := Int.add_le_add (Int.add_le_add (gw_mono ha hb _ _) (gw_mono ha hb _ _)) (gw_mono ha hb _ _)
theorem gw_same (a b : List Nat) {u U : Nat} (h : u ≠ U) : gw u U (a ++ [u]) (b ++ [u]) = gw u U a b + 2 := by
  unfold gw; rw [cnt_hit, cnt_hit, cnt_miss _ h, cnt_miss _ h, gn_s1]
theorem gw_half (a b : List Nat) {u U : Nat} (h : u ≠ U) : gw u U a b + 1 ≤ gw u U (a ++ [u]) (b ++ [U]) := by
  unfold gw; rw [cnt_hit, cnt_hit, cnt_miss _ h, cnt_miss _ h.symm]; exact gn_h1 _ _ _ _
theorem gw_miss (a b : List Nat) {u U x y : Nat} (h1 : x ≠ u) (h2 : x ≠ U) (h3 : y ≠ u) (h4 : y ≠ U) : gw u U (a ++ [x]) (b ++ [y]) = gw u U a b := by
  unfold gw; rw [cnt_miss _ h1, cnt_miss _ h2, cnt_miss _ h3, cnt_miss _ h4]
/-- the six letters, pair by pair -/
inductive Pair : Nat → Nat → Prop
  | a : Pair 97 65
  | b : Pair 98 66
  | c : Pair 99 67
theorem gS_pair {a b : List Nat} {x y u U : Nat} {k : Int} (p : Pair u U) (hx : x = u ∨ x = U) (hy : y = u ∨ y = U) (h : gw u U (a ++ [x]) (b ++ [y]) = gw u U a b + k) : gS (a ++ [x]) (b ++ [y]) = gS a b + k := by
  unfold gS
  cases p
  · rw [h, gw_miss a b (by omega) (by omega) (by omega) (by omega), gw_miss a b (by omega) (by omega) (by omega) (by omega)]; omega
  · rw [h, gw_miss a b (by omega) (by omega) (by omega) (by omega), gw_miss a b (by omega) (by omega) (by omega) (by omega)]; omega
  · rw [h, gw_miss a b (by omega) (by omega) (by omega) (by omega), gw_miss a b (by omega) (by omega) (by omega) (by omega)]; omega
theorem Pair.ne {u U : Nat} (p : Pair u U) : u ≠ U := by cases p <;> decide
theorem isL_pair {x : Nat} (h : isL x) : ∃ u U, Pair u U ∧ (x = u ∨ x = U) := by
  rcases h with rfl | rfl | rfl | rfl | rfl | rfl
  · exact ⟨_, _, .a, .inl rfl⟩
  · exact ⟨_, _, .a, .inr rfl⟩
  · exact ⟨_, _, .b, .inl rfl⟩
  · exact ⟨_, _, .b, .inr rfl⟩
  · exact ⟨_, _, .c, .inl rfl⟩
  · exact ⟨_, _, .c, .inr rfl⟩
theorem low_pairs {x y : Nat} (hx : isL x) (hy : isL y) (h : low x = low y) (hne : x ≠ y) : Pair x y ∨ Pair y x := by
  rcases hx with rfl | rfl | rfl | rfl | rfl | rfl <;> rcases hy with rfl | rfl | rfl | rfl | rfl | rfl <;> first | exact absurd rfl hne | exact .inl (by constructor) | exact .inr (by constructor) | exact absurd h (by decide)
theorem gw_same' (a b : List Nat) {u U x : Nat} (h : u ≠ U) (hx : x = u ∨ x = U) : gw u U (a ++ [x]) (b ++ [x]) = gw u U a b + 2 := by
  rcases hx with rfl | rfl
  · exact gw_same a b h
  · rw [← gw_flip u, ← gw_flip u]; exact gw_same a b h.symm
theorem gS_same (a b : List Nat) {x : Nat} (hx : isL x) : gS (a ++ [x]) (b ++ [x]) = gS a b + 2 := by
  obtain ⟨u, U, p, h⟩ := isL_pair hx
  exact gS_pair p h h (gw_same' a b p.ne h)
theorem gS_half (a b : List Nat) {x y : Nat} (p : Pair x y) : gS a b + 1 ≤ gS (a ++ [x]) (b ++ [y]) ∧ gS a b + 1 ≤ gS (a ++ [y]) (b ++ [x]) := by
  have h1 := gw_half a b p.ne
  have h2 := gw_half a b p.ne.symm
  rw [gw_flip x, gw_flip x] at h2
  have e1 := gS_pair (a := a) (b := b) (x := x) (y := y) (k := gw x y (a ++ [x]) (b ++ [y]) - gw x y a b) p (.inl rfl) (.inr rfl) (by omega)
  have e2 := gS_pair (a := a) (b := b) (x := y) (y := x) (k := gw x y (a ++ [y]) (b ++ [x]) - gw x y a b) p (.inr rfl) (.inl rfl) (by omega)
  omega
theorem snoc_len (a : List Nat) (x : Nat) : ((a ++ [x]).length : Int) = a.length + 1 := by rw [List.length_append, List.length_singleton]; omega
theorem dueW_l {a b : List Nat} {x : Nat} (hx : isL x) : dueW (a ++ [x]) b ≤ 2 + dueW a b := by
  have := gS_mono (List.sublist_append_left a [x]) (List.Sublist.refl b)
  rw [dueW_gS, dueW_gS, snoc_len]
  omega
theorem dueW_r {a b : List Nat} {x : Nat} (hx : isL x) : dueW a (b ++ [x]) ≤ 2 + dueW a b := by
  have := gS_mono (List.Sublist.refl a) (List.sublist_append_left b [x])
  rw [dueW_gS, dueW_gS, snoc_len]
  omega
theorem dueW_up {a b : List Nat} {x y : Nat} {k : Int} (h : gS a b + k ≤ gS (a ++ [x]) (b ++ [y])) : dueW (a ++ [x]) (b ++ [y]) ≤ 2 - k + dueW a b := by
  rw [dueW_gS, dueW_gS, snoc_len, snoc_len]
  omega
theorem dueW_s {a b : List Nat} {x y : Nat} (hx : isL x) (hy : isL y) : dueW (a ++ [x]) (b ++ [y]) ≤ cst y x + dueW a b := by
  unfold cst
  by_cases h : y = x
  · subst h
    rw [if_pos rfl]
    exact dueW_up (k := 2) (Int.le_of_eq (gS_same a b hx).symm)
  · rw [if_neg h]
    by_cases k : low y = low x
    · rw [if_pos k]
      refine dueW_up (k := 1) ?_
      rcases low_pairs hy hx k h with p | p
      · exact (gS_half a b p).2
      · exact (gS_half a b p).1
    · rw [if_neg k]
      refine dueW_up (k := 0) ?_
      have := gS_mono (List.sublist_append_left a [x]) (List.sublist_append_left b [y])
      omega
end Mine
namespace Mine
theorem take_snoc {a : List Nat} {i : Nat} (h : i < a.length) : a.take (i + 1) = a.take i ++ [a.getD i 0] := by
  rw [List.take_add_one, List.getElem?_eq_getElem h, List.getD_eq_getElem?_getD, List.getElem?_eq_getElem h]; rfl
theorem mem_getD {a : List Nat} {i : Nat} (h : i < a.length) : a.getD i 0 ∈ a := by
  rw [List.getD_eq_getElem?_getD, List.getElem?_eq_getElem h]; exact List.getElem_mem h
theorem cst_le (x y : Nat) : 0 ≤ cst x y ∧ cst x y ≤ 2 := by unfold cst; split <;> (try split) <;> omega
theorem cst_comm (x y : Nat) : cst x y = cst y x := by
  unfold cst
  by_cases h : x = y
  · subst h; rfl
  · rw [if_neg h, if_neg (Ne.symm h)]
    by_cases h2 : low x = low y
    · rw [if_pos h2, if_pos h2.symm]
    · rw [if_neg h2, if_neg (Ne.symm h2)]
theorem gn_00 (q Q : Nat) : gn 0 0 q Q = 0 := gn_zero (.inl rfl) (.inl rfl) (.inl rfl) (.inl rfl)
theorem gn_00' (q Q : Nat) : gn q Q 0 0 = 0 := gn_zero (.inr rfl) (.inr rfl) (.inr rfl) (.inr rfl)
theorem dueW_nil_l (b : List Nat) : dueW [] b = 2 * b.length := by
  simp only [dueW, gw, List.count_nil, gn_00, List.length_nil]; omega
theorem dueW_nil_r (b : List Nat) : dueW b [] = 2 * b.length := by
  simp only [dueW, gw, List.count_nil, gn_00', List.length_nil]; omega
theorem getD_set_self {l : List Int} {i : Nat} {v : Int} (h : i < l.length) : (l.set i v).getD i 0 = v := by
  simp [List.getD_eq_getElem?_getD, h]
theorem getD_set_ne {l : List Int} {i k : Nat} {v : Int} (h : i ≠ k) : (l.set i v).getD k 0 = l.getD k 0 := by
  simp [List.getD_eq_getElem?_getD, List.getElem?_set_ne h]
theorem inn_lower {a b : List Nat} {j : Nat} (ha : ∀ c ∈ a, isL c) (hb : ∀ c ∈ b, isL c) (hj : j < b.length) {old : List Int} (hlen : old.length = a.length)
    (hold : ∀ k, k < a.length → dueW (a.take (k + 1)) (b.take j) ≤ old.getD k 0) : ∀ i, i ≤ a.length →
    (∀ k, k < i → dueW (a.take (k + 1)) (b.take (j + 1)) ≤ (inn (b.getD j 0) a old ((j : Nat) * 2) i).row.getD k 0) ∧ (∀ k, i ≤ k → (inn (b.getD j 0) a old ((j : Nat) * 2) i).row.getD k 0 = old.getD k 0) ∧
    (inn (b.getD j 0) a old ((j : Nat) * 2) i).row.length = a.length ∧
    dueW (a.take i) (b.take j) ≤ (inn (b.getD j 0) a old ((j : Nat) * 2) i).dist ∧ (i < a.length → dueW (a.take (i + 1)) (b.take (j + 1)) ≤ (inn (b.getD j 0) a old ((j : Nat) * 2) i).res + 2) ∧ (0 < i → dueW (a.take i) (b.take (j + 1)) ≤ (inn (b.getD j 0) a old ((j : Nat) * 2) i).res)
  | 0, _ => by
    have hbt : (b.take j).length = j := by rw [List.length_take]; omega
    refine ⟨fun k h => absurd h (Nat.not_lt_zero _), fun k _ => rfl, hlen, ?_, fun h => ?_, fun h => absurd h (Nat.lt_irrefl _)⟩
    · rw [List.take_zero, dueW_nil_l, hbt]; show _ ≤ ((j : Nat) : Int) * 2; omega
    · rw [take_snoc h, take_snoc hj]
      have := dueW_s (a := a.take 0) (b := b.take j) (ha _ (mem_getD h)) (hb _ (mem_getD hj))
      rw [List.take_zero, dueW_nil_l, hbt] at this
      have c2 := (cst_le (b.getD j 0) (a.getD 0 0)).2
      show _ ≤ ((j : Nat) : Int) * 2 + 2
      rw [List.take_zero]
      omega
  | i + 1, hi => by
    obtain ⟨h1, h2, h3, h4, h5, h6⟩ := inn_lower ha hb hj hlen hold i (by omega)
    have hil : i < a.length := by omega
    generalize hI : inn (b.getD j 0) a old ((j : Nat) * 2) i = I at h1 h2 h3 h4 h5 h6
    have hs : inn (b.getD j 0) a old ((j : Nat) * 2) (i + 1) = ⟨I.row.set i (mn (mn I.res (I.row.getD i 0) + 2) (I.dist + cst (b.getD j 0) (a.getD i 0))), I.row.getD i 0, mn (mn I.res (I.row.getD i 0) + 2) (I.dist + cst (b.getD j 0) (a.getD i 0)), if mn (mn I.res (I.row.getD i 0) + 2) (I.dist + cst (b.getD j 0) (a.getD i 0)) < I.mi then mn (mn I.res (I.row.getD i 0) + 2) (I.dist + cst (b.getD j 0) (a.getD i 0)) else I.mi⟩ := by
      subst hI; rfl
    have e2 := h2 i (Nat.le_refl _)
    have o2 := hold i hil
    have hax := ha _ (mem_getD hil)
    have hby := hb _ (mem_getD hj)
    have hr : dueW (a.take (i + 1)) (b.take (j + 1)) ≤ mn (mn I.res (I.row.getD i 0) + 2) (I.dist + cst (b.getD j 0) (a.getD i 0)) := by
      have q1 := h5 hil
      have q2 := dueW_r (a := a.take (i + 1)) (b := b.take j) hby
      have q3 := dueW_s (a := a.take i) (b := b.take j) hax hby
      rw [← take_snoc hj] at q2 q3
      rw [← take_snoc hil] at q3
      rw [mn_eq, mn_eq, e2]
      omega
    rw [hs]
    dsimp only
    generalize mn (mn I.res (I.row.getD i 0) + 2) (I.dist + cst (b.getD j 0) (a.getD i 0)) = r at hr ⊢
    refine ⟨fun k hk => ?_, fun k hk => ?_, by rw [List.length_set]; exact h3, ?_, fun h => ?_, fun _ => hr⟩
    · by_cases e : i = k
      · subst e; rw [getD_set_self (by omega)]; exact hr
      · rw [getD_set_ne e]; exact h1 k (by omega)
    · rw [getD_set_ne (by omega)]; exact h2 k (by omega)
    · rw [e2]; exact o2
    · have := dueW_l (a := a.take (i + 1)) (b := b.take (j + 1)) (ha _ (mem_getD h))
      rw [← take_snoc h] at this
      omega
end Mine
namespace Mine
theorem row0 {n k : Nat} (h : k < n) : ((List.range n).map (fun i => 2 * ((i : Nat) : Int) + 2)).getD k 0 = 2 * (k : Int) + 2 := by
  rw [List.getD_eq_getElem?_getD, List.getElem?_map, List.getElem?_range h]; rfl
theorem out_lower {a b : List Nat} (ha : ∀ c ∈ a, isL c) (hb : ∀ c ∈ b, isL c) (hna : 0 < a.length) : ∀ j, j ≤ b.length →
    (∀ k, k < a.length → dueW (a.take (k + 1)) (b.take j) ≤ (out a b j).1.getD k 0) ∧ (out a b j).1.length = a.length ∧ (0 < j → dueW a (b.take j) ≤ (out a b j).2)
  | 0, _ => by
    refine ⟨fun k hk => ?_, by simp [out], fun h => absurd h (Nat.lt_irrefl _)⟩
    show _ ≤ ((List.range a.length).map (fun i => 2 * ((i : Nat) : Int) + 2)).getD k 0
    rw [row0 hk, List.take_zero, dueW_nil_r, List.length_take]; omega
  | j + 1, hj => by
    obtain ⟨h1, h2, _⟩ := out_lower ha hb hna j (by omega)
    obtain ⟨q1, _, q3, _, _, q6⟩ := inn_lower ha hb (show j < b.length by omega) h2 h1 a.length (Nat.le_refl _)
    refine ⟨q1, q3, fun _ => ?_⟩
    have := q6 hna
    rw [List.take_length] at this
    exact this
theorem dueW_comm (a b : List Nat) : dueW a b = dueW b a := by
  simp only [dueW, gw, gn_comm (a.count _)]; omega
theorem dueW_perm {a a' b b' : List Nat} (h1 : a.Perm a') (h2 : b.Perm b') : dueW a b = dueW a' b' := by
  simp only [dueW, gw, h1.count_eq, h2.count_eq, h1.length_eq, h2.length_eq]
theorem dueW_app {u v : List Nat} : ∀ (q : List Nat), (∀ c ∈ q, isL c) → dueW (u ++ q) (v ++ q) ≤ dueW u v := by
  intro q
  induction q generalizing u v with
  | nil => intro _; simp
  | cons x q ih =>
    intro h
    have h1 := ih (u := u ++ [x]) (v := v ++ [x]) fun c hc => h c (.tail _ hc)
    have h2 := dueW_s (a := u) (b := v) (h x (.head _)) (h x (.head _))
    have h3 : cst x x = 0 := by simp [cst]
    simp only [List.append_assoc, List.singleton_append] at h1
    omega
theorem dueW_self {u : List Nat} (h : ∀ c ∈ u, isL c) : dueW u u ≤ 0 := by
  have := dueW_app (u := []) (v := []) u h
  rw [List.nil_append, dueW_nil_l] at this
  exact this
theorem dueW_strip {p q u v : List Nat} (hp : ∀ c ∈ p, isL c) (hq : ∀ c ∈ q, isL c) : dueW (p ++ u ++ q) (p ++ v ++ q) ≤ dueW u v := by
  refine Int.le_trans (dueW_app q hq) ?_
  rw [dueW_perm (List.perm_append_comm (l₁ := p) (l₂ := u)) (List.perm_append_comm (l₁ := p) (l₂ := v))]
  exact dueW_app p hp
theorem dp_lower {a b : List Nat} {mc r d : Int} (ha : ∀ c ∈ a, isL c) (hb : ∀ c ∈ b, isL c) (hna : a ≠ []) (hab : a.length ≤ b.length) (hd : d ≤ mc + 1) (hdd : d ≤ dueW a b) (h : LevDP a b mc r) : d ≤ r := by
  have hna' : 0 < a.length := List.length_pos_iff.mpr hna
  rcases h with ⟨_, _, _, rfl⟩ | rfl
  · exact hd
  · have := (out_lower ha hb hna' b.length (Nat.le_refl _)).2.2 (by omega)
    rw [List.take_length] at this
    omega
/-- whatever the distance gives lies at or above the due, if the bound and one do -/
theorem lev_lower {u v : List Nat} {mc r : Int} (hu : ∀ c ∈ u, isL c) (hv : ∀ c ∈ v, isL c) (hd : dueW u v ≤ mc + 1) (h : LevRes u v mc r) : dueW u v ≤ r := by
  rcases h with ⟨rfl, rfl⟩ | ⟨p, q, u', v', rfl, rfl, h⟩
  · exact dueW_self hu
  · have hs : dueW (p ++ u' ++ q) (p ++ v' ++ q) ≤ dueW u' v' := dueW_strip (fun c hc => hu c (by simp [hc])) (fun c hc => hu c (by simp [hc]))
    have hu' : ∀ c ∈ u', isL c := fun c hc => hu c (by simp [hc])
    have hv' : ∀ c ∈ v', isL c := fun c hc => hv c (by simp [hc])
    rcases h with ⟨h | h, rfl⟩ | ⟨rfl, _⟩ | ⟨h1, h2, h3⟩ | ⟨h1, h2, h3⟩
    · subst h; rw [dueW_nil_l] at hs; simp only [List.length_nil]; omega
    · subst h; rw [dueW_nil_r] at hs; simp only [List.length_nil]; omega
    · exact hd
    · exact dp_lower hu' hv' h1 h2 hd hs h3
    · exact dp_lower hv' hu' h1 (by omega) hd (by rw [dueW_comm v' u']; exact hs) h3
end Mine
namespace Mine
/-- an alignment of two words and its cost -/
inductive Path : List Nat → List Nat → Int → Prop
  | nil : Path [] [] 0
  | sub {a b : List Nat} {c : Int} (x y : Nat) : Path a b c → Path (x :: a) (y :: b) (c + cst y x)
  | del {a b : List Nat} {c : Int} (x : Nat) : Path a b c → Path (x :: a) b (c + 2)
  | ins {a b : List Nat} {c : Int} (y : Nat) : Path a b c → Path a (y :: b) (c + 2)
theorem Path.cast {a b : List Nat} {c c' : Int} (h : Path a b c) (e : c = c') : Path a b c' := e ▸ h
theorem Path.nonneg {a b : List Nat} {c : Int} (h : Path a b c) : 0 ≤ c := by
  induction h with
  | nil => exact Int.le_refl _
  | sub x y _ ih => have := (cst_le y x).1; omega
  | del x _ ih => omega
  | ins y _ ih => omega
theorem Path.symm {a b : List Nat} {c : Int} (h : Path a b c) : Path b a c := by
  induction h with
  | nil => exact .nil
  | sub x y _ ih => rw [cst_comm]; exact .sub y x ih
  | del x _ ih => exact .ins x ih
  | ins y _ ih => exact .del y ih
theorem Path.snocS {a b : List Nat} {c : Int} (h : Path a b c) (x y : Nat) : Path (a ++ [x]) (b ++ [y]) (c + cst y x) := by
  induction h with
  | nil => exact .sub x y .nil
  | sub x' y' _ ih => exact (Path.sub x' y' ih).cast (by omega)
  | del x' _ ih => exact (Path.del x' ih).cast (by omega)
  | ins y' _ ih => exact (Path.ins y' ih).cast (by omega)
theorem Path.snocD {a b : List Nat} {c : Int} (h : Path a b c) (x : Nat) : Path (a ++ [x]) b (c + 2) := by
  induction h with
  | nil => exact .del x .nil
  | sub x' y' _ ih => exact (Path.sub x' y' ih).cast (by omega)
  | del x' _ ih => exact (Path.del x' ih).cast (by omega)
  | ins y' _ ih => exact (Path.ins y' ih).cast (by omega)
theorem Path.snocI {a b : List Nat} {c : Int} (h : Path a b c) (y : Nat) : Path a (b ++ [y]) (c + 2) := (h.symm.snocD y).symm
theorem Path.rev {a b : List Nat} {c : Int} (h : Path a b c) : Path a.reverse b.reverse c := by
  induction h with
  | nil => exact .nil
  | sub x y _ ih => rw [List.reverse_cons, List.reverse_cons]; exact ih.snocS x y
  | del x _ ih => rw [List.reverse_cons]; exact ih.snocD x
  | ins y _ ih => rw [List.reverse_cons]; exact ih.snocI y
theorem Path.dropR {a b b' : List Nat} {c : Int} {y : Nat} (h : Path a b' c) (e : b' = y :: b) : ∃ c', c' ≤ c + 2 ∧ Path a b c' := by
  induction h generalizing y b with
  | nil => cases e
  | sub x' y' h ih => cases e; exact ⟨_, by have := (cst_le y' x').1; omega, .del x' h⟩
  | del x' _ ih => obtain ⟨c', h1, h2⟩ := ih e; exact ⟨_, by omega, .del x' h2⟩
  | ins y' h _ => cases e; exact ⟨_, by omega, h⟩
theorem Path.dropL {a b : List Nat} {c : Int} {x : Nat} (h : Path (x :: a) b c) : ∃ c', c' ≤ c + 2 ∧ Path a b c' := by
  obtain ⟨c', h1, h2⟩ := h.symm.dropR rfl; exact ⟨c', h1, h2.symm⟩
theorem Path.strip1 {a b : List Nat} {c : Int} {x : Nat} (h : Path (x :: a) (x :: b) c) : ∃ c', c' ≤ c ∧ Path a b c' := by
  cases h with
  | sub _ _ h => exact ⟨_, by have := (cst_le x x).1; omega, h⟩
  | del _ h => obtain ⟨c', h1, h2⟩ := h.dropR rfl; exact ⟨c', by omega, h2⟩
  | ins _ h => obtain ⟨c', h1, h2⟩ := h.dropL; exact ⟨c', by omega, h2⟩
theorem Path.stripP {a b : List Nat} : ∀ (p : List Nat) {c : Int}, Path (p ++ a) (p ++ b) c → ∃ c', c' ≤ c ∧ Path a b c'
  | [], c, h => ⟨c, Int.le_refl _, h⟩
  | x :: p, c, h => by
    obtain ⟨c1, h1, h2⟩ := h.strip1
    obtain ⟨c2, h3, h4⟩ := Path.stripP p h2
    exact ⟨c2, by omega, h4⟩
theorem Path.strip {a b p q : List Nat} {c : Int} (h : Path (p ++ a ++ q) (p ++ b ++ q) c) : ∃ c', c' ≤ c ∧ Path a b c' := by
  rw [List.append_assoc, List.append_assoc] at h
  obtain ⟨c1, h1, h2⟩ := Path.stripP p h
  have h3 := h2.rev
  rw [List.reverse_append, List.reverse_append] at h3
  obtain ⟨c2, h4, h5⟩ := Path.stripP _ h3
  have := h5.rev
  rw [List.reverse_reverse, List.reverse_reverse] at this
  exact ⟨c2, by omega, this⟩
/-- a path meets every row -/
theorem Path.cross {a b : List Nat} {c : Int} (h : Path a b c) : ∀ j, j ≤ b.length → ∃ i c', i ≤ a.length ∧ c' ≤ c ∧ Path (a.take i) (b.take j) c' := by
  induction h with
  | nil => intro j hj; exact ⟨0, 0, Nat.le_refl _, Int.le_refl _, by simpa using Path.nil⟩
  | @sub a b c x y h ih =>
    intro j hj
    have := h.nonneg
    have := (cst_le y x).1
    cases j with
    | zero => exact ⟨0, 0, Nat.zero_le _, by omega, Path.nil⟩
    | succ j =>
      obtain ⟨i, c', h1, h2, h3⟩ := ih j (by simpa using hj)
      exact ⟨i + 1, c' + cst y x, by simpa using h1, by omega, .sub x y h3⟩
  | @del a b c x h ih =>
    intro j hj
    obtain ⟨i, c', h1, h2, h3⟩ := ih j hj
    exact ⟨i + 1, c' + 2, by simpa using h1, by omega, .del x h3⟩
  | @ins a b c y h ih =>
    intro j hj
    have := h.nonneg
    cases j with
    | zero => exact ⟨0, 0, Nat.zero_le _, by omega, Path.nil⟩
    | succ j =>
      obtain ⟨i, c', h1, h2, h3⟩ := ih j (by simpa using hj)
      exact ⟨i, c' + 2, h1, by omega, .ins y h3⟩
theorem Path.nilL {a b : List Nat} {c : Int} (h : Path a b c) : a = [] → c = 2 * (b.length : Int) := by
  induction h with
  | nil => intro _; rfl
  | sub x y _ _ => intro e; cases e
  | del x _ _ => intro e; cases e
  | ins y _ ih => intro e; have := ih e; rw [List.length_cons]; omega
theorem Path.len {a b : List Nat} {c : Int} (h : Path a b c) : 2 * (b.length : Int) ≤ 2 * a.length + c ∧ 2 * (a.length : Int) ≤ 2 * b.length + c := by
  induction h with
  | nil => simp
  | sub x y _ ih => have := (cst_le y x).1; simp only [List.length_cons]; omega
  | del x _ ih => simp only [List.length_cons]; omega
  | ins y _ ih => simp only [List.length_cons]; omega
/-- a path by its last step -/
theorem Path.last {a b : List Nat} {x y : Nat} {c : Int} (h : Path (a ++ [x]) (b ++ [y]) c) : (∃ c', Path a b c' ∧ c = c' + cst y x) ∨ (∃ c', Path a (b ++ [y]) c' ∧ c = c' + 2) ∨ (∃ c', Path (a ++ [x]) b c' ∧ c = c' + 2) := by
  have h1 := h.rev
  rw [List.reverse_append, List.reverse_append] at h1
  have back : ∀ {u v : List Nat} {d : Int}, Path u.reverse v.reverse d → Path u v d := fun h => by
    have := h.rev; rwa [List.reverse_reverse, List.reverse_reverse] at this
  cases h1 with
  | sub _ _ h' => exact .inl ⟨_, back h', rfl⟩
  | del _ h' => exact .inr (.inl ⟨_, back (by rw [List.reverse_append]; exact h'), rfl⟩)
  | ins _ h' => exact .inr (.inr ⟨_, back (by rw [List.reverse_append]; exact h'), rfl⟩)
theorem inn_upper {a b : List Nat} {j : Nat} (hj : j < b.length) {old : List Int} (hlen : old.length = a.length)
    (hold : ∀ k, k < a.length → ∀ c, Path (a.take (k + 1)) (b.take j) c → old.getD k 0 ≤ c) : ∀ i, i ≤ a.length →
    (∀ k, k < i → ∀ c, Path (a.take (k + 1)) (b.take (j + 1)) c → (inn (b.getD j 0) a old ((j : Nat) * 2) i).row.getD k 0 ≤ c) ∧ (∀ k, i ≤ k → (inn (b.getD j 0) a old ((j : Nat) * 2) i).row.getD k 0 = old.getD k 0) ∧
    (inn (b.getD j 0) a old ((j : Nat) * 2) i).row.length = a.length ∧
    (∀ c, Path (a.take i) (b.take j) c → (inn (b.getD j 0) a old ((j : Nat) * 2) i).dist ≤ c) ∧ (∀ c, Path (a.take i) (b.take (j + 1)) c → (inn (b.getD j 0) a old ((j : Nat) * 2) i).res ≤ c) ∧
    (∀ k, k < i → (inn (b.getD j 0) a old ((j : Nat) * 2) i).mi ≤ (inn (b.getD j 0) a old ((j : Nat) * 2) i).row.getD k 0)
  | 0, _ => by
    have hbt : (b.take j).length = j := by rw [List.length_take]; omega
    have hbt1 : (b.take (j + 1)).length = j + 1 := by rw [List.length_take]; omega
    refine ⟨fun k h => absurd h (Nat.not_lt_zero _), fun k _ => rfl, hlen, fun c h => ?_, fun c h => ?_, fun k h => absurd h (Nat.not_lt_zero _)⟩
    · have := h.nilL rfl; rw [hbt] at this; show ((j : Nat) : Int) * 2 ≤ _; omega
    · have := h.nilL rfl; rw [hbt1] at this; show ((j : Nat) : Int) * 2 ≤ _; omega
  | i + 1, hi => by
    obtain ⟨h1, h2, h3, h4, h5, h6⟩ := inn_upper hj hlen hold i (by omega)
    have hil : i < a.length := by omega
    generalize hI : inn (b.getD j 0) a old ((j : Nat) * 2) i = I at h1 h2 h3 h4 h5 h6
    have hs : inn (b.getD j 0) a old ((j : Nat) * 2) (i + 1) = ⟨I.row.set i (mn (mn I.res (I.row.getD i 0) + 2) (I.dist + cst (b.getD j 0) (a.getD i 0))), I.row.getD i 0, mn (mn I.res (I.row.getD i 0) + 2) (I.dist + cst (b.getD j 0) (a.getD i 0)), if mn (mn I.res (I.row.getD i 0) + 2) (I.dist + cst (b.getD j 0) (a.getD i 0)) < I.mi then mn (mn I.res (I.row.getD i 0) + 2) (I.dist + cst (b.getD j 0) (a.getD i 0)) else I.mi⟩ := by
      subst hI; rfl
    have e2 := h2 i (Nat.le_refl _)
    have o2 := hold i hil
    have hr : ∀ c, Path (a.take (i + 1)) (b.take (j + 1)) c → mn (mn I.res (I.row.getD i 0) + 2) (I.dist + cst (b.getD j 0) (a.getD i 0)) ≤ c := by
      intro c h
      rw [take_snoc hil, take_snoc hj] at h
      rw [mn_eq, mn_eq, e2]
      rcases h.last with ⟨c', h', rfl⟩ | ⟨c', h', rfl⟩ | ⟨c', h', rfl⟩
      · have := h4 c' h'; omega
      · rw [← take_snoc hj] at h'; have := h5 c' h'; omega
      · rw [← take_snoc hil] at h'; have := o2 c' h'; omega
    rw [hs]
    dsimp only
    generalize mn (mn I.res (I.row.getD i 0) + 2) (I.dist + cst (b.getD j 0) (a.getD i 0)) = r at hr ⊢
    refine ⟨fun k hk c h => ?_, fun k hk => ?_, by rw [List.length_set]; exact h3, ?_, hr, fun k hk => ?_⟩
    · by_cases e : i = k
      · subst e; rw [getD_set_self (by omega)]; exact hr c h
      · rw [getD_set_ne e]; exact h1 k (by omega) c h
    · rw [getD_set_ne (by omega)]; exact h2 k (by omega)
    · rw [e2]; exact o2
    · by_cases e : i = k
      · subst e; rw [getD_set_self (by omega)]; split <;> omega
      · rw [getD_set_ne e]; have := h6 k (by omega); split <;> omega
theorem out_upper {a b : List Nat} (hna : 0 < a.length) : ∀ j, j ≤ b.length →
    (∀ k, k < a.length → ∀ c, Path (a.take (k + 1)) (b.take j) c → (out a b j).1.getD k 0 ≤ c) ∧ (out a b j).1.length = a.length ∧ (0 < j → ∀ c, Path a (b.take j) c → (out a b j).2 ≤ c)
  | 0, _ => by
    refine ⟨fun k hk c h => ?_, by simp [out], fun h => absurd h (Nat.lt_irrefl _)⟩
    show ((List.range a.length).map (fun i => 2 * ((i : Nat) : Int) + 2)).getD k 0 ≤ _
    have := h.symm.nilL rfl
    rw [List.length_take] at this
    rw [row0 hk]; omega
  | j + 1, hj => by
    obtain ⟨h1, h2, _⟩ := out_upper (b := b) hna j (by omega)
    obtain ⟨q1, _, q3, _, q5, _⟩ := inn_upper (show j < b.length by omega) h2 h1 a.length (Nat.le_refl _)
    refine ⟨q1, q3, fun _ c h => ?_⟩
    rw [List.take_length] at q5
    exact q5 c h
/-- each row's least lies at or below every path -/
theorem mi_upper {a b : List Nat} {c : Int} (hna : 0 < a.length) {j : Nat} (hj : j < b.length) (h : Path a b c) : (inn (b.getD j 0) a (out a b j).1 ((j : Nat) * 2) a.length).mi ≤ c := by
  obtain ⟨h1, h2, _⟩ := out_upper (b := b) hna j (by omega)
  obtain ⟨q1, _, _, _, _, q6⟩ := inn_upper hj h2 h1 a.length (Nat.le_refl _)
  obtain ⟨i, c', hi, hc, hp⟩ := h.cross (j + 1) (by omega)
  cases i with
  | succ k =>
    have := q1 k (by omega) c' hp
    have := q6 k (by omega)
    omega
  | zero =>
    have e := hp.nilL rfl
    have hbt1 : (b.take (j + 1)).length = j + 1 := by rw [List.length_take]; omega
    have hbt : (b.take j).length = j := by rw [List.length_take]; omega
    have hz : ∀ v : List Nat, Path [] v (2 * (v.length : Int)) := fun v => by
      induction v with
      | nil => exact .nil
      | cons y v ih => exact (Path.ins y ih).cast (by rw [List.length_cons]; omega)
    have h0 := (hz (b.take j)).snocS (a.getD 0 0) (b.getD j 0)
    rw [← take_snoc hj] at h0
    have e0 : ([] : List Nat) ++ [a.getD 0 0] = a.take (0 + 1) := by rw [take_snoc hna]; rfl
    rw [e0] at h0
    have := q1 0 hna _ h0
    have := q6 0 hna
    have := (cst_le (b.getD j 0) (a.getD 0 0)).2
    rw [hbt] at *
    omega
theorem dp_upper {a b : List Nat} {mc r c : Int} (hna : a ≠ []) (hab : a.length ≤ b.length) (h : Path a b c) (hr : LevDP a b mc r) : r ≤ c ∨ (mc < c ∧ r = mc + 1) := by
  have hna' : 0 < a.length := List.length_pos_iff.mpr hna
  rcases hr with ⟨j, hj, hm, rfl⟩ | rfl
  · have := mi_upper hna' hj h
    exact .inr ⟨by omega, rfl⟩
  · refine .inl ((out_upper hna' b.length (Nat.le_refl _)).2.2 (by omega) c ?_)
    rw [List.take_length]; exact h
theorem lev_upper {u v : List Nat} {mc r c : Int} (h : Path u v c) (hr : LevRes u v mc r) : r ≤ c ∨ (mc < c ∧ r = mc + 1) := by
  rcases hr with ⟨rfl, rfl⟩ | ⟨p, q, u', v', rfl, rfl, hr⟩
  · exact .inl h.nonneg
  · obtain ⟨c', hc, h'⟩ := h.strip
    have hl := h'.len
    have fin : (r ≤ c' ∨ (mc < c' ∧ r = mc + 1)) → (r ≤ c ∨ (mc < c ∧ r = mc + 1)) := fun h => by omega
    apply fin
    rcases hr with ⟨h | h, rfl⟩ | ⟨rfl, h⟩ | ⟨h1, h2, h3⟩ | ⟨h1, h2, h3⟩
    · subst h; have := h'.nilL rfl; simp only [List.length_nil]; omega
    · subst h; have := h'.symm.nilL rfl; simp only [List.length_nil]; omega
    · omega
    · exact dp_upper h1 h2 h' h3
    · exact dp_upper h1 (by omega) h'.symm h3
/-- a pair put in somewhere -/
theorem Path.put {a2 b : List Nat} {x y : Nat} : ∀ (a1 : List Nat) {c : Int}, Path (a1 ++ a2) b c → ∃ b', b'.Perm (y :: b) ∧ Path (a1 ++ x :: a2) b' (c + cst y x) := by
  intro a1 c h
  generalize e : a1 ++ a2 = a at h
  induction h generalizing a1 a2 with
  | nil =>
    obtain ⟨rfl, rfl⟩ := List.append_eq_nil_iff.mp e
    exact ⟨[y], List.Perm.refl _, .sub x y .nil⟩
  | @sub a b c x' y' h ih =>
    cases a1 with
    | nil =>
      subst e
      exact ⟨y :: y' :: b, List.Perm.refl _, (Path.sub x y (.sub x' y' h)).cast (by omega)⟩
    | cons z a1 =>
      obtain ⟨rfl, rfl⟩ := List.cons.inj e
      obtain ⟨b', h1, h2⟩ := ih a1 rfl
      exact ⟨y' :: b', (List.Perm.cons _ h1).trans (List.Perm.swap _ _ _), (Path.sub z y' h2).cast (by omega)⟩
  | @del a b c x' h ih =>
    cases a1 with
    | nil =>
      subst e
      exact ⟨y :: b, List.Perm.refl _, (Path.sub x y (.del x' h)).cast (by omega)⟩
    | cons z a1 =>
      obtain ⟨rfl, rfl⟩ := List.cons.inj e
      obtain ⟨b', h1, h2⟩ := ih a1 rfl
      exact ⟨b', h1, (Path.del z h2).cast (by omega)⟩
  | @ins a b c y' h ih =>
    obtain ⟨b', h1, h2⟩ := ih a1 e
    exact ⟨y' :: b', (List.Perm.cons _ h1).trans (List.Perm.swap _ _ _), (Path.ins y' h2).cast (by omega)⟩
theorem Path.plain : ∀ (a b : List Nat), ∃ c, c ≤ 2 * max (a.length : Int) b.length ∧ Path a b c
  | [], [] => ⟨0, by simp, .nil⟩
  | [], y :: b => by
    obtain ⟨c, h1, h2⟩ := Path.plain [] b
    exact ⟨c + 2, by simp only [List.length_cons, List.length_nil] at *; omega, .ins y h2⟩
  | x :: a, [] => by
    obtain ⟨c, h1, h2⟩ := Path.plain a []
    exact ⟨c + 2, by simp only [List.length_cons, List.length_nil] at *; omega, .del x h2⟩
  | x :: a, y :: b => by
    obtain ⟨c, h1, h2⟩ := Path.plain a b
    have := (cst_le y x).2
    exact ⟨c + cst y x, by simp only [List.length_cons] at *; omega, .sub x y h2⟩
theorem low_pair {x y : Nat} (hx : isL x) (hy : isL y) (h : low x = low y) (hne : x ≠ y) : (x, y) ∈ [(97, 65), (65, 97), (98, 66), (66, 98), (99, 67), (67, 99)] := by
  rcases hx with rfl | rfl | rfl | rfl | rfl | rfl <;> rcases hy with rfl | rfl | rfl | rfl | rfl | rfl <;> first | exact absurd rfl hne | (revert h; decide) | decide
theorem split_mem {a : List Nat} {x : Nat} (h : x ∈ a) : ∃ a1 a2, a = a1 ++ x :: a2 := List.append_of_mem h
theorem cnt_mid (a1 a2 : List Nat) (x c : Nat) : (a1 ++ x :: a2).count c = (a1 ++ a2).count c + (if x = c then 1 else 0) := by
  rw [List.count_append, List.count_cons, List.count_append]; simp only [beq_iff_eq]; omega
theorem mem_mid {a1 a2 : List Nat} {x c : Nat} (h : c ∈ a1 ++ a2) : c ∈ a1 ++ x :: a2 := by
  rcases List.mem_append.mp h with h | h
  · exact List.mem_append_left _ h
  · exact List.mem_append_right _ (.tail _ h)
theorem cnt_none {a b : List Nat} (h : ∀ x ∈ a, x ∉ b) (c : Nat) : a.count c = 0 ∨ b.count c = 0 := by
  by_cases h1 : c ∈ a
  · exact .inr (List.count_eq_zero.mpr (h c h1))
  · exact .inl (List.count_eq_zero.mpr h1)
theorem cnt_none2 {a b : List Nat} (h : ∀ x ∈ a, ∀ y ∈ b, low x ≠ low y) (c d : Nat) (e : low c = low d) : a.count c = 0 ∨ b.count d = 0 := by
  by_cases h1 : c ∈ a
  · exact .inr (List.count_eq_zero.mpr fun hd => h c h1 d hd e)
  · exact .inl (List.count_eq_zero.mpr h1)
theorem mid_perm (a1 a2 : List Nat) (x : Nat) : (a1 ++ x :: a2).Perm ((a1 ++ a2) ++ [x]) := List.perm_middle.trans (List.perm_append_comm (l₁ := [x]) (l₂ := a1 ++ a2))
theorem dueW_same (a1 a2 b1 b2 : List Nat) (x : Nat) (hx : isL x) : dueW (a1 ++ x :: a2) (b1 ++ x :: b2) = dueW (a1 ++ a2) (b1 ++ b2) := by
  rw [dueW_perm (mid_perm a1 a2 x) (mid_perm b1 b2 x), dueW_gS, dueW_gS, snoc_len, snoc_len, gS_same _ _ hx]
  omega
theorem gw_half1 (a b : List Nat) {u U : Nat} (h : u ≠ U) (k1 : b.count u = 0) (k2 : a.count U = 0) : gw u U (a ++ [u]) (b ++ [U]) = gw u U a b + 1 := by
  unfold gw; rw [cnt_hit, cnt_hit, cnt_miss _ h, cnt_miss _ h.symm, k1, k2, gn_one]
theorem gS_half1 (a b : List Nat) {x y : Nat} (p : Pair x y ∨ Pair y x) (k1 : b.count x = 0) (k2 : a.count y = 0) : gS (a ++ [x]) (b ++ [y]) = gS a b + 1 := by
  rcases p with p | p
  · exact gS_pair p (.inl rfl) (.inr rfl) (gw_half1 a b p.ne k1 k2)
  · refine gS_pair p (.inr rfl) (.inl rfl) ?_
    rw [← gw_flip y, ← gw_flip y]
    exact gw_half1 a b p.ne.symm k1 k2
theorem dueW_half (a1 a2 b1 b2 : List Nat) (x y : Nat) (hxy : (x, y) ∈ [(97, 65), (65, 97), (98, 66), (66, 98), (99, 67), (67, 99)]) (hn : ∀ z ∈ a1 ++ x :: a2, z ∉ b1 ++ y :: b2) : dueW (a1 ++ x :: a2) (b1 ++ y :: b2) = dueW (a1 ++ a2) (b1 ++ b2) + 1 := by
  have k1 : (b1 ++ b2).count x = 0 := by
    have h1 := cnt_none hn x
    have h2 := cnt_mid a1 a2 x x
    have h3 := cnt_mid b1 b2 y x
    rw [if_pos rfl] at h2
    omega
  have k2 : (a1 ++ a2).count y = 0 := by
    have h1 := cnt_none hn y
    have h2 := cnt_mid a1 a2 x y
    have h3 := cnt_mid b1 b2 y y
    rw [if_pos rfl] at h3
    omega
  have hp : Pair x y ∨ Pair y x := by
    simp only [List.mem_cons, Prod.mk.injEq, List.not_mem_nil, or_false] at hxy
    rcases hxy with ⟨rfl, rfl⟩ | ⟨rfl, rfl⟩ | ⟨rfl, rfl⟩ | ⟨rfl, rfl⟩ | ⟨rfl, rfl⟩ | ⟨rfl, rfl⟩
    · exact .inl .a
    · exact .inr .a
    · exact .inl .b
    · exact .inr .b
    · exact .inl .c
    · exact .inr .c
  rw [dueW_perm (mid_perm a1 a2 x) (mid_perm b1 b2 y), dueW_gS, dueW_gS, snoc_len, snoc_len, gS_half1 _ _ hp k1 k2]
  omega
/-- some arrangement of b has an alignment with a that costs the due -/
theorem best : ∀ (n : Nat) (a b : List Nat), a.length = n → (∀ c ∈ a, isL c) → (∀ c ∈ b, isL c) → ∃ b' c, b'.Perm b ∧ c ≤ dueW a b ∧ Path a b' c
  | n, a, b, hn, ha, hb => by
    by_cases h1 : ∃ x ∈ a, x ∈ b
    · obtain ⟨x, hxa, hxb⟩ := h1
      obtain ⟨a1, a2, rfl⟩ := split_mem hxa
      obtain ⟨b1, b2, rfl⟩ := split_mem hxb
      have hx := ha x hxa
      obtain ⟨b', c, p1, p2, p3⟩ := best (n - 1) (a1 ++ a2) (b1 ++ b2) (by simp only [List.length_append, List.length_cons] at hn ⊢; omega) (fun c hc => ha c (mem_mid hc)) (fun c hc => hb c (mem_mid hc))
      obtain ⟨b'', q1, q2⟩ := Path.put (x := x) (y := x) a1 p3
      refine ⟨b'', _, q1.trans ((List.Perm.cons _ p1).trans List.perm_middle.symm), ?_, q2⟩
      have e0 : cst x x = 0 := by simp [cst]
      have := dueW_same a1 a2 b1 b2 x hx
      omega
    · have h1' : ∀ x ∈ a, x ∉ b := fun x hx hb => h1 ⟨x, hx, hb⟩
      by_cases h2 : ∃ x ∈ a, ∃ y ∈ b, low x = low y
      · obtain ⟨x, hxa, y, hyb, hl⟩ := h2
        have hne : x ≠ y := fun e => h1' x hxa (e ▸ hyb)
        have hp := low_pair (ha x hxa) (hb y hyb) hl hne
        obtain ⟨a1, a2, rfl⟩ := split_mem hxa
        obtain ⟨b1, b2, rfl⟩ := split_mem hyb
        obtain ⟨b', c, p1, p2, p3⟩ := best (n - 1) (a1 ++ a2) (b1 ++ b2) (by simp only [List.length_append, List.length_cons] at hn ⊢; omega) (fun c hc => ha c (mem_mid hc)) (fun c hc => hb c (mem_mid hc))
        obtain ⟨b'', q1, q2⟩ := Path.put (x := x) (y := y) a1 p3
        refine ⟨b'', _, q1.trans ((List.Perm.cons _ p1).trans List.perm_middle.symm), ?_, q2⟩
        have e0 : cst y x = 1 := by unfold cst; rw [if_neg (Ne.symm hne), if_pos hl.symm]
        have := dueW_half a1 a2 b1 b2 x y hp h1'
        omega
      · have h2' : ∀ x ∈ a, ∀ y ∈ b, low x ≠ low y := fun x hx y hy e => h2 ⟨x, hx, y, hy, e⟩
        obtain ⟨c, p1, p2⟩ := Path.plain a b
        refine ⟨b, c, List.Perm.refl _, ?_, p2⟩
        have g1 : gw 97 65 a b = 0 := gn_zero (cnt_none2 h2' 97 97 rfl) (cnt_none2 h2' 65 65 rfl) (cnt_none2 h2' 97 65 rfl) (cnt_none2 h2' 65 97 rfl)
        have g2 : gw 98 66 a b = 0 := gn_zero (cnt_none2 h2' 98 98 rfl) (cnt_none2 h2' 66 66 rfl) (cnt_none2 h2' 98 66 rfl) (cnt_none2 h2' 66 98 rfl)
        have g3 : gw 99 67 a b = 0 := gn_zero (cnt_none2 h2' 99 99 rfl) (cnt_none2 h2' 67 67 rfl) (cnt_none2 h2' 99 67 rfl) (cnt_none2 h2' 67 99 rfl)
        unfold dueW
        rw [g1, g2, g3]
        omega
  termination_by n a => a.length
  decreasing_by all_goals (subst_vars; simp only [List.length_append, List.length_cons]; omega)
end Mine
namespace Mine
theorem bump_getD (cs : List Int) (b i : Nat) : (bump cs b).getD i 0 = cs.getD i 0 + (if i = b then 1 else 0) := by
  have hpad : ∀ i, (cs ++ List.replicate (b + 1 - cs.length) (0 : Int)).getD i 0 = cs.getD i 0 := by
    intro i
    rw [List.getD_eq_getElem?_getD, List.getD_eq_getElem?_getD]
    by_cases h : i < cs.length
    · rw [List.getElem?_append_left h]
    · rw [List.getElem?_append_right (by omega), List.getElem?_eq_none (show cs.length ≤ i by omega)]
      rw [List.getElem?_replicate]
      split <;> rfl
  unfold bump
  by_cases h : i = b
  · subst h
    rw [if_pos rfl, getD_set_self (by simp only [List.length_append, List.length_replicate]; omega), hpad]
  · rw [if_neg h, getD_set_ne (Ne.symm h), hpad]; omega
theorem ext_getD {a b : List Int} (hl : a.length = b.length) (h : ∀ i, a.getD i 0 = b.getD i 0) : a = b := by
  refine List.ext_getElem hl fun i h1 h2 => ?_
  have := h i
  simpa [List.getD_eq_getElem?_getD, h1, h2] using this
theorem bump_comm (cs : List Int) (a b : Nat) : bump (bump cs a) b = bump (bump cs b) a := by
  refine ext_getD ?_ fun i => ?_
  · simp only [bump_len]; omega
  · rw [bump_getD, bump_getD, bump_getD, bump_getD, Int.add_right_comm]
theorem hist_count (ns : List Int) (h : ∀ n ∈ ns, 0 ≤ n) (i : Nat) : (hist ns).getD i 0 = (ns.count (i : Int) : Nat) := by
  have : ∀ (ns : List Int) (cs : List Int), (∀ n ∈ ns, 0 ≤ n) → (ns.foldl (fun cs n => bump cs n.toNat) cs).getD i 0 = cs.getD i 0 + (ns.count (i : Int) : Nat) := by
    intro ns
    induction ns with
    | nil => intro cs _; simp
    | cons n r ih =>
      intro cs hb
      have hn := hb n (.head _)
      rw [List.foldl_cons, ih _ fun m hm => hb m (.tail _ hm), bump_getD, List.count_cons]
      by_cases e : i = n.toNat
      · rw [if_pos e, if_pos (by simp; omega)]; omega
      · rw [if_neg e, if_neg (by simp; omega)]; omega
  have := this ns [] h
  simpa [hist] using this
theorem hist_perm {r r0 : List Int} (hr : ∀ n ∈ r, 0 ≤ n) (hr0 : ∀ n ∈ r0, 0 ≤ n) : hist r = hist r0 ↔ r.Perm r0 := by
  constructor
  · intro h
    rw [List.perm_iff_count]
    intro a
    by_cases ha : 0 ≤ a
    · have h1 := hist_count r hr a.toNat
      have h2 := hist_count r0 hr0 a.toNat
      rw [h, h2] at h1
      rw [show ((a.toNat : Nat) : Int) = a by omega] at h1
      omega
    · rw [List.count_eq_zero_of_not_mem fun hm => ha (hr a hm), List.count_eq_zero_of_not_mem fun hm => ha (hr0 a hm)]
  · intro h
    unfold hist
    exact h.foldl_eq' (fun x _ y _ z => bump_comm z _ _) []
theorem sorted_eq : ∀ {a b : List Int}, a.Perm b → a.Pairwise (· ≤ ·) → b.Pairwise (· ≤ ·) → a = b
  | [], b, h, _, _ => (List.nil_perm.mp h).symm
  | x :: a, [], h, _, _ => absurd h.length_eq (by simp)
  | x :: a, y :: b, h, ha, hb => by
    have hx : y ≤ x := by
      have := h.mem_iff.mp (List.mem_cons_self (a := x) (l := a))
      rcases List.mem_cons.mp this with e | e
      · omega
      · exact (List.pairwise_cons.mp hb).1 x e
    have hy : x ≤ y := by
      have := h.mem_iff.mpr (List.mem_cons_self (a := y) (l := b))
      rcases List.mem_cons.mp this with e | e
      · omega
      · exact (List.pairwise_cons.mp ha).1 y e
    have e : x = y := by omega
    subst e
    rw [sorted_eq (List.perm_cons x |>.mp h) (List.pairwise_cons.mp ha).2 (List.pairwise_cons.mp hb).2]
theorem kind_hist {r r0 ks ks0 : List Int} (hr : ∀ n ∈ r, 0 ≤ n) (hr0 : ∀ n ∈ r0, 0 ≤ n) (p : ks.Perm r) (p0 : ks0.Perm r0) (s : ks.Pairwise (· ≤ ·)) (s0 : ks0.Pairwise (· ≤ ·)) : decide (ks = ks0) = decide (hist r = hist r0) := by
  refine decide_eq_decide.mpr ⟨fun h => ?_, fun h => ?_⟩
  · subst h
    exact (hist_perm hr hr0).mpr (p.symm.trans p0)
  · exact sorted_eq (p.trans (((hist_perm hr hr0).mp h).trans p0.symm)) s s0
theorem letter_count (ns : List Int) (h : ∀ n ∈ ns, 0 ≤ n ∧ n ≤ 5) (i : Int) (hi : 0 ≤ i ∧ i ≤ 5) : (wordL ns).count (letter i) = ns.count i := by
  induction ns with
  | nil => rfl
  | cons n r ih =>
    have hn := h n (.head _)
    have ih := ih fun m hm => h m (.tail _ hm)
    unfold wordL at ih ⊢
    rw [List.map_cons, List.count_cons, List.count_cons, ih]
    have : (letter n == letter i) = (n == i) := by
      obtain rfl | rfl | rfl | rfl | rfl | rfl : n = 0 ∨ n = 1 ∨ n = 2 ∨ n = 3 ∨ n = 4 ∨ n = 5 := by omega
      all_goals (obtain rfl | rfl | rfl | rfl | rfl | rfl : i = 0 ∨ i = 1 ∨ i = 2 ∨ i = 3 ∨ i = 4 ∨ i = 5 := by omega) <;> decide
    rw [this]
theorem pad6_eq (c : List Int) : pad6 c = [c.getD 0 0, c.getD 1 0, c.getD 2 0, c.getD 3 0, c.getD 4 0, c.getD 5 0] := by
  rcases c with _ | ⟨a, _ | ⟨b, _ | ⟨c, _ | ⟨d, _ | ⟨e, _ | ⟨f, r⟩⟩⟩⟩⟩⟩ <;> rfl
theorem due2_eq (cx cy : List Int) (nx ny : Int) : due2 cx cy nx ny = dueL cx cy nx ny := by
  unfold due2 dueL due6
  simp only [run1, run2, pad6_eq]
  rfl
theorem due_words {ns ms : List Int} (hn : ∀ n ∈ ns, 0 ≤ n ∧ n ≤ 5) (hm : ∀ n ∈ ms, 0 ≤ n ∧ n ≤ 5) : due2 (hist ns) (hist ms) ns.length ms.length = dueW (wordL ns) (wordL ms) := by
  rw [due2_eq]
  unfold dueL
  have hc := hist_count ns fun n h => (hn n h).1
  have hd := hist_count ms fun n h => (hm n h).1
  simp only [hc, hd]
  unfold dueW gw
  have e0 := letter_count ns hn 0 (by omega)
  have e1 := letter_count ns hn 1 (by omega)
  have e2 := letter_count ns hn 2 (by omega)
  have e3 := letter_count ns hn 3 (by omega)
  have e4 := letter_count ns hn 4 (by omega)
  have e5 := letter_count ns hn 5 (by omega)
  have f0 := letter_count ms hm 0 (by omega)
  have f1 := letter_count ms hm 1 (by omega)
  have f2 := letter_count ms hm 2 (by omega)
  have f3 := letter_count ms hm 3 (by omega)
  have f4 := letter_count ms hm 4 (by omega)
  have f5 := letter_count ms hm 5 (by omega)
  rw [show letter 0 = 97 by decide] at e0 f0
  rw [show letter 1 = 65 by decide] at e1 f1
  rw [show letter 2 = 98 by decide] at e2 f2
  rw [show letter 3 = 66 by decide] at e3 f3
  rw [show letter 4 = 99 by decide] at e4 f4
  rw [show letter 5 = 67 by decide] at e5 f5
  rw [e0, e1, e2, e3, e4, e5, f0, f1, f2, f3, f4, f5]
  have l1 : (wordL ns).length = ns.length := by simp [wordL]
  have l2 : (wordL ms).length = ms.length := by simp [wordL]
  rw [l1, l2]
  unfold due6 gn
  simp only [mn_eq]
  rw [show ((0 : Nat) : Int) = 0 from rfl, show ((1 : Nat) : Int) = 1 from rfl, show ((2 : Nat) : Int) = 2 from rfl, show ((3 : Nat) : Int) = 3 from rfl, show ((4 : Nat) : Int) = 4 from rfl, show ((5 : Nat) : Int) = 5 from rfl]
  generalize ns.count 0 = a0
  generalize ns.count 1 = a1
  generalize ns.count 2 = a2
  generalize ns.count 3 = a3
  generalize ns.count 4 = a4
  generalize ns.count 5 = a5
  generalize ms.count 0 = b0
  generalize ms.count 1 = b1
  generalize ms.count 2 = b2
  generalize ms.count 3 = b3
  generalize ms.count 4 = b4
  generalize ms.count 5 = b5
  have hmax : (if (ms.length : Int) > ns.length then (ms.length : Int) else ns.length) = max (ns.length : Int) ms.length := by split <;> omega
  rw [hmax]
  generalize max (ns.length : Int) ms.length = M
  generalize min (a0 : Int) b0 = m0
  generalize min (a1 : Int) b1 = m1
  generalize min (a2 : Int) b2 = m2
  generalize min (a3 : Int) b3 = m3
  generalize min (a4 : Int) b4 = m4
  generalize min (a5 : Int) b5 = m5
  generalize min ((a0 : Int) - m0) ((b1 : Int) - m1) = k0
  generalize min ((a1 : Int) - m1) ((b0 : Int) - m0) = k1
  generalize min ((a2 : Int) - m2) ((b3 : Int) - m3) = k2
  generalize min ((a3 : Int) - m3) ((b2 : Int) - m2) = k3
  generalize min ((a4 : Int) - m4) ((b5 : Int) - m5) = k4
  generalize min ((a5 : Int) - m5) ((b4 : Int) - m4) = k5
  omega
end Mine
namespace Mine
theorem perm_sum {a b : List Int} (h : a.Perm b) : a.sum = b.sum := by
  induction h with
  | nil => rfl
  | cons x _ ih => simp only [List.sum_cons, ih]
  | swap x y l => simp only [List.sum_cons]; omega
  | trans _ _ ih1 ih2 => exact ih1.trans ih2
theorem perm_lift {f : Int → Nat} : ∀ {b : List Nat} {l : List Int}, b.Perm (l.map f) → ∃ l' : List Int, l'.Perm l ∧ b = l'.map f
  | [], l, h => by
    have := h.length_eq
    rw [List.length_map] at this
    exact ⟨[], by rw [List.eq_nil_of_length_eq_zero this.symm], rfl⟩
  | x :: b, l, h => by
    have hx : x ∈ l.map f := h.mem_iff.mp (.head _)
    obtain ⟨y, hy, rfl⟩ := List.mem_map.mp hx
    obtain ⟨l1, l2, rfl⟩ := List.append_of_mem hy
    have h2 : (f y :: b).Perm (f y :: (l1 ++ l2).map f) := by
      refine h.trans ?_
      rw [List.map_append, List.map_append, List.map_cons]
      exact List.perm_middle
    obtain ⟨l', p, e⟩ := perm_lift ((List.perm_cons _).mp h2)
    exact ⟨y :: l', (p.cons y).trans List.perm_middle.symm, by rw [e]; rfl⟩
theorem rowsI_mem (b : Nat) : ∀ (i : Nat) (r : List Int), r.length = i → (∀ n ∈ r, 0 ≤ n) → r.sum ≤ b → r ∈ rowsI b i
  | 0, r, hl, _, _ => by rw [List.eq_nil_of_length_eq_zero hl]; exact .head _
  | i + 1, r, hl, h0, hs => by
    have hne : r ≠ [] := by rintro rfl; simp at hl
    have e := List.dropLast_concat_getLast hne
    generalize r.getLast hne = x at e
    generalize r.dropLast = q at e
    subst e
    have hx := h0 x (by simp)
    rw [List.sum_append] at hs
    simp only [List.sum_cons, List.sum_nil] at hs
    have hq := rowsI_mem b i q (by simpa using hl) (fun n hn => h0 n (List.mem_append_left _ hn)) (by omega)
    refine List.mem_flatMap.mpr ⟨q, hq, List.mem_map.mpr ⟨x.toNat, List.mem_range.mpr (by omega), ?_⟩⟩
    rw [show ((x.toNat : Nat) : Int) = x by omega]
theorem rowsOf_mem {t b : Nat} (ht : t = 2 ∨ t = 3) (r : List Int) (hl : r.length = t) (h0 : ∀ n ∈ r, 0 ≤ n) (hs : r.sum = b) : r ∈ rowsOf t b := by
  have hne : r ≠ [] := by rintro rfl; simp at hl; omega
  have e := List.dropLast_concat_getLast hne
  generalize r.getLast hne = x at e
  generalize r.dropLast = q at e
  subst e
  have hx := h0 x (by simp)
  rw [List.sum_append] at hs
  simp only [List.sum_cons, List.sum_nil] at hs
  have hl2 : q.length + 1 = t := by simpa using hl
  refine List.mem_map.mpr ⟨q, rowsI_mem b (t - 1) q (by omega) (fun n hn => h0 n (List.mem_append_left _ hn)) (by omega), ?_⟩
  rw [show (b : Int) - q.sum = x by omega]
theorem rowsOf_sum {t b : Nat} : ∀ r ∈ rowsOf t b, r.sum = b := by
  intro r hr
  obtain ⟨q, hq, rfl⟩ := List.mem_map.mp hr
  rw [List.sum_append]
  simp only [List.sum_cons, List.sum_nil]
  omega
theorem letter_isL {n : Int} (h : 0 ≤ n ∧ n ≤ 5) : isL (letter n) := by
  obtain rfl | rfl | rfl | rfl | rfl | rfl : n = 0 ∨ n = 1 ∨ n = 2 ∨ n = 3 ∨ n = 4 ∨ n = 5 := by omega
  all_goals (unfold isL; decide)
theorem word_isL {ns : List Int} (h : ∀ n ∈ ns, 0 ≤ n ∧ n ≤ 5) : ∀ c ∈ wordL ns, isL c := by
  intro c hc
  obtain ⟨n, hn, rfl⟩ := List.mem_map.mp hc
  exact letter_isL (h n hn)
theorem paired_mem_r {α β : Type} {F : α → β → Prop} : ∀ {l₁ : List α} {l₂ : List β}, Paired F l₁ l₂ → ∀ b ∈ l₂, ∃ a ∈ l₁, F a b
  | _, _, .cons x t, b, h => by
    rcases List.mem_cons.mp h with rfl | h
    · exact ⟨_, .head _, x⟩
    · obtain ⟨a, ha, f⟩ := paired_mem_r t b h
      exact ⟨a, .tail _ ha, f⟩
theorem paired_mem_l {α β : Type} {F : α → β → Prop} : ∀ {l₁ : List α} {l₂ : List β}, Paired F l₁ l₂ → ∀ a ∈ l₁, ∃ b ∈ l₂, F a b
  | _, _, .cons x t, a, h => by
    rcases List.mem_cons.mp h with rfl | h
    · exact ⟨_, .head _, x⟩
    · obtain ⟨b, hb, f⟩ := paired_mem_l t a h
      exact ⟨b, .tail _ hb, f⟩
/-- the least distance over a whole kind is the due -/
theorem min_part {t b : Nat} (ht : t = 2 ∨ t = 3) {runs r0 : List Int} {part : List (List Int)} {zs : List Int} {c M : Int} (hruns : ∀ n ∈ runs, 0 ≤ n ∧ n ≤ 5) (hrow : ∀ r ∈ rowsOf t b, (∀ n ∈ r, 0 ≤ n ∧ n ≤ 5) ∧ r.length = t)
    (h0 : r0 ∈ rowsOf t b) (hp : ∀ r ∈ part, r ∈ rowsOf t b ∧ hist r = hist r0) (hw : ∀ r ∈ rowsOf t b, hist r = hist r0 → r ∈ part) (hc : 0 ≤ c)
    (hz : Paired (fun r z => LevRes (wordL runs) (wordL r) (due2 (hist runs) (hist r0) runs.length r0.length - 1 + c) z) part zs) (hM : M ∈ zs) (hle : ∀ z ∈ zs, M ≤ z) : M = due2 (hist runs) (hist r0) runs.length r0.length := by
  obtain ⟨b0, l0⟩ := hrow r0 h0
  rw [due_words hruns b0] at hz ⊢
  have hperm : ∀ r ∈ part, dueW (wordL runs) (wordL r) = dueW (wordL runs) (wordL r0) := by
    intro r hr
    obtain ⟨h1, h2⟩ := hp r hr
    have := (hist_perm (fun n hn => ((hrow r h1).1 n hn).1) (fun n hn => (b0 n hn).1)).mp h2
    exact dueW_perm (List.Perm.refl _) (this.map _)
  have hlow : dueW (wordL runs) (wordL r0) ≤ M := by
    obtain ⟨r, hr, hL⟩ := paired_mem_r hz M hM
    have := lev_lower (word_isL hruns) (word_isL (hrow r (hp r hr).1).1) (by rw [hperm r hr]; omega) hL
    rw [hperm r hr] at this
    exact this
  obtain ⟨b', k, pb, hk, path⟩ := best _ (wordL runs) (wordL r0) rfl (word_isL hruns) (word_isL b0)
  obtain ⟨r', pr, e⟩ := perm_lift (f := letter) pb
  have hr' : r' ∈ rowsOf t b := rowsOf_mem ht r' (pr.length_eq.trans l0) (fun n hn => (b0 n (pr.mem_iff.mp hn)).1) ((perm_sum pr).trans (rowsOf_sum r0 h0))
  have hh : hist r' = hist r0 := (hist_perm (fun n hn => ((hrow r' hr').1 n hn).1) (fun n hn => (b0 n hn).1)).mpr pr
  obtain ⟨z, hz1, hz2⟩ := paired_mem_l hz r' (hw r' hr' hh)
  have e2 : b' = wordL r' := e
  rw [e2] at path
  have hle := hle z hz1
  rcases lev_upper path hz2 with h | ⟨h1, h2⟩
  · omega
  · omega
end Mine
namespace Mine
theorem fr_cast {g h : Heap} {L : Addr} {m m' : Str → Option Value} (F : Fr g L h m) (e : m = m') : Fr g L h m' := e ▸ F
/-- what the call's end asks, by a name of its own -/
theorem abs_qe {M : Model} {A : Around} {env : Env} {body : List Stmt} {Q : Flow → Shared → Prop} {E : Value → Shared → Prop} {s : Shared} (C : Shared → Prop) (hQ : ∀ s', C s' → Q (.ret (.bool true)) s') (hE : PassesOwn M (A.deeper env) env E)
    (k : ∀ Q' E', (∀ s', C s' → Q' (.ret (.bool true)) s') → PassesOwn M (A.deeper env) env E' → wpAny M (A.deeper env) (execs body env) Q' E' s) : wpAny M (A.deeper env) (execs body env) Q E s := k Q E hQ hE

section
variable {prog : Program} {w : World} {A : Around} {E : Value → Shared → Prop} {s : Shared} {h₀ : Heap} {L : Addr} {m : Str → Option Value} {news : List (Addr × Obj)}
theorem slice_G {ha : Heap} {value slice : Expr} {l : Addr} {items : Array Value} {vl vu vk : Value} {lo hi st : Option Int} {ops : List Value} {Q : Value → Shared → Prop} (g : Grow ha s.heap)
    (F : Fr h₀ L s.heap m) (N : News h₀ L s.heap news) (hl : s.heap.IsList l items) (pl : IsPart vl lo) (pu : IsPart vu hi) (pk : IsPart vk st) (h0 : st ≠ some 0)
    (h : ∀ D h', Grow ha h' → Fr h₀ L h' m → News h₀ L h' ((D, W.listOf (slicePick items lo hi st).toList.toArray 0) :: news) → Q (.ref D) { s with heap := h' }) (hsz : items.size ≤ sizeLine)
    (hs : subscripted slice false (.ref l) (.ref s.heap.objs.size) = operate ops (getItem (.ref l) (.ref s.heap.objs.size)))
    (ht : ∀ r, letTemporaryGo value (.ref l) r = pure ()) :
    wpAny (model prog w) A (subscriptTail value slice (.ref l) (.ref s.heap.objs.size)) Q E { s with heap := s.heap.push { cls := .type "slice", data := .fields #[vl, vu, vk] } } := by
  refine subscriptTail_ops (Heap.IsList.typeIs (s := { s with heap := s.heap.push { cls := .type "slice", data := .fields #[vl, vu, vk] } }) (hl.push _)) list_getitem_lookup
    (wpAny_getItem_list_slice (hl.push _) (Heap.IsSliceOf.new ..) pl pu pk h0 ?_ hsz) hs ht
  have N1 := News.push (F.push { cls := .type "slice", data := .fields #[vl, vu, vk] }) (N.grown fun _ _ e => Heap.get?_push_of_some _ e) { cls := .type "list", data := .seq (slicePick items lo hi st) }
  refine h _ _ ⟨(g.kp.trans (kp_push _ _)).trans (kp_push _ _)⟩ ((F.push _).push _) ?_
  rw [Array.toArray_toList]
  exact N1
end
theorem four_ints {ys : List Value} (h : Paired (fun (_ : Nat) y => ∃ z, IsInt z y) [0, 1, 2, 3] ys) : ∃ z0 z1 z2 z3 t0 t1 t2 t3, ys = [Value.int z0 t0, .int z1 t1, .int z2 t2, .int z3 t3] := by
  obtain _ | ⟨⟨z0, t0, rfl⟩, h⟩ := h
  obtain _ | ⟨⟨z1, t1, rfl⟩, h⟩ := h
  obtain _ | ⟨⟨z2, t2, rfl⟩, h⟩ := h
  obtain _ | ⟨⟨z3, t3, rfl⟩, h⟩ := h
  cases h
  exact ⟨_, _, _, _, _, _, _, _, rfl⟩
/-- the law's ledger: the cells of bound, kind and word, the table of _law_equal's code, and what the law has made -/
noncomputable abbrev led (L : Nat) (o5 o4 o3 : Obj) (ps : Array Value) (objs : List (Addr × Obj)) : List (Addr × Obj) := (L + 1 + 1 + 1 + 1 + 1, o5) :: (L + 1 + 1 + 1 + 1, o4) :: (L + 1 + 1 + 1, o3) :: (134, tabObj ps) :: objs
noncomputable def Off (L : Nat) (objs : List (Addr × Obj)) : Prop := ∀ p ∈ objs, p.1 ≠ L + 1 + 1 + 1 + 1 + 1 ∧ p.1 ≠ L + 1 + 1 + 1 + 1 ∧ p.1 ≠ L + 1 + 1 + 1 ∧ p.1 ≠ 134
theorem off_one {L : Nat} {h h' : Heap} {objs : List (Addr × Obj)} {o5 o4 o3 o0 : Obj} (e5 : h.get? (L + 1 + 1 + 1 + 1 + 1) = some o5) (e4 : h.get? (L + 1 + 1 + 1 + 1) = some o4) (e3 : h.get? (L + 1 + 1 + 1) = some o3) (e0 : h.get? 134 = some o0) (f : Fresh h h' objs) : Off L objs :=
  fun p hp => ⟨f.ne e5 p hp, f.ne e4 p hp, f.ne e3 p hp, f.ne e0 p hp⟩
theorem off_fresh {g h h' : Heap} {L : Nat} {objs objs' : List (Addr × Obj)} {o5 o4 o3 : Obj} {ps : Array Value} (N : News g L h (led L o5 o4 o3 ps objs)) (f : Fresh h h' objs') : Off L objs' :=
  off_one (N _ (.head _)).1 (N _ (.tail _ (.head _))).1 (N _ (.tail _ (.tail _ (.head _)))).1 (N _ (.tail _ (.tail _ (.tail _ (.head _))))).1 f
theorem Off.app {L : Nat} {a b : List (Addr × Obj)} (x : Off L a) (y : Off L b) : Off L (a ++ b) := fun p hp => (List.mem_append.mp hp).elim (x p) (y p)
theorem Off.sub {L : Nat} {a b : List (Addr × Obj)} (x : Off L a) (h : ∀ p ∈ b, p ∈ a) : Off L b := fun p hp => x p (h p hp)
theorem sub_nil {a : List (Addr × Obj)} : ∀ p ∈ ([] : List (Addr × Obj)), p ∈ a := fun _ h => nomatch h
theorem sub_cons {a b : List (Addr × Obj)} {x : Addr × Obj} (h : x ∈ a) (t : ∀ p ∈ b, p ∈ a) : ∀ p ∈ x :: b, p ∈ a := List.forall_mem_cons.mpr ⟨h, t⟩
theorem news_sub {g h : Heap} {L : Addr} {a b : List (Addr × Obj)} (N : News g L h a) (k : ∀ p ∈ b, p ∈ a) : News g L h b := fun p hp => N p (k p hp)
/-- new objects go behind the law's cells -/
theorem led_add {g h : Heap} {L : Nat} {o5 o4 o3 : Obj} {ps : Array Value} {a b : List (Addr × Obj)} (N : News g L h (a ++ led L o5 o4 o3 ps b)) : News g L h (led L o5 o4 o3 ps (a ++ b)) := news_sub N fun p hp => by
  rcases hp with _ | ⟨_, _ | ⟨_, _ | ⟨_, _ | ⟨_, hp⟩⟩⟩⟩
  · exact List.mem_append_right _ (.head _)
  · exact List.mem_append_right _ (.tail _ (.head _))
  · exact List.mem_append_right _ (.tail _ (.tail _ (.head _)))
  · exact List.mem_append_right _ (.tail _ (.tail _ (.tail _ (.head _))))
  · rcases List.mem_append.mp hp with hp | hp
    · exact List.mem_append_left _ hp
    · exact List.mem_append_right _ (.tail _ (.tail _ (.tail _ (.tail _ hp))))

/-- the runs of the law: the totals' rests below six -/
noncomputable def runsOf (zs : List Int) : List Int := (zs.filter fun z => decide (z.fmod 7 < 6)).map fun z => z.fmod 7
theorem runsOf_ok (zs : List Int) : ∀ n ∈ runsOf zs, 0 ≤ n ∧ n ≤ 5 := by
  intro n hn
  obtain ⟨z, hz, rfl⟩ := List.mem_map.mp hn
  have h1 := of_decide_eq_true (List.mem_filter.mp hz).2
  have h2 : 0 ≤ z.fmod 7 := Int.fmod_nonneg_of_pos z (by decide)
  omega
theorem runsOf_len {z0 z1 z2 z3 : Int} : (runsOf [z0, z1, z2, z3]).length ≤ 4 := by
  have := List.length_filter_le (fun z : Int => decide (z.fmod 7 < 6)) [z0, z1, z2, z3]
  simp only [runsOf, List.length_map]
  exact this
theorem law_room (e : Env) : (callerA.deeper e).depth + 8 < recursionLimit := by with_unfolding_all exact Nat.le_of_ble_eq_true rfl
theorem law_units (e : Env) : (callerA.deeper e).units + 512 < cLine := by with_unfolding_all exact Nat.le_of_ble_eq_true rfl
theorem lt_of_room {a b c k : Nat} (h : a + b < c) (h2 : k ≤ b) : a + k < c := by omega
theorem led_mv0 {a b : Addr × Obj} {a' : Addr × Obj} {objs : List (Addr × Obj)} (e : a' = a) : ∀ p ∈ a' :: b :: objs, p ∈ objs ++ ([a] ++ [b]) := by
  subst e
  intro p hp
  rcases hp with _ | ⟨_, _ | ⟨_, hp⟩⟩
  · exact List.mem_append_right _ (.head _)
  · exact List.mem_append_right _ (.tail _ (.head _))
  · exact List.mem_append_left _ hp
theorem led_mv {L : Nat} {o5 o4 o3 : Obj} {ps : Array Value} {a b : Addr × Obj} {a' : Addr × Obj} {objs : List (Addr × Obj)} (e : a' = a) : ∀ p ∈ led L o5 o4 o3 ps (a' :: b :: objs), p ∈ led L o5 o4 o3 ps (objs ++ ([a] ++ [b])) := by
  intro p hp
  rcases hp with _ | ⟨_, _ | ⟨_, _ | ⟨_, _ | ⟨_, hp⟩⟩⟩⟩
  · exact .head _
  · exact .tail _ (.head _)
  · exact .tail _ (.tail _ (.head _))
  · exact .tail _ (.tail _ (.tail _ (.head _)))
  · exact .tail _ (.tail _ (.tail _ (.tail _ (led_mv0 e p hp))))
section
variable {w : World} {loose : List Str} {mean : ExcName → Option Value} {mg mb : Str → Option Value} {A : Around} {base : Heap} {outer : List Env} {s : Shared} {Q E : Value → Shared → Prop}
theorem mark_callX {ns : List Int} {x : Str} {t : Tok} (hx : x = sOf (leadL ns) ++ Str.ofString "x") (G : Gr w loose mean mg mb A base outer s.heap)
    (hd : A.depth + 2 < recursionLimit) (hu : A.units + 16 < cLine) (hb : ∀ n ∈ ns, 0 ≤ n ∧ n ≤ 5) (hlen : ns.length ≤ 4)
    (hret : ∀ x h' tk' objs, Kp s.heap h' → Fresh s.heap h' objs → WsObj w.params (fun a o => (a, o) ∈ objs) x (hist ns) 0 ns.length → Q (.ref x) { s with heap := h', toks := tk' }) :
    wpAny (model PySem.Challenge.rw_pk0111_01.row.prog w) A (call (.ref 97) [.str x t]) Q E s := by
  have e : Str.ofString "x" = sOf [120] := by decide +kernel
  rw [hx, e, sOf_app]
  exact mark_call G hd hu hb hlen hret
end
theorem upd_word {L : Nat} {o5 o4 o3 : Obj} {ps : Array Value} {objs : List (Addr × Obj)} (h : Off L objs) (h0 : 134 < L) : UpdF (L + 1 + 1 + 1) o3 (led L o5 o4 o3 ps objs) (fun o => led L o5 o4 o ps objs) :=
  .tail (neN (by dsimp only; omega)) (.tail (neN (by dsimp only; omega)) (.head (List.forall_mem_cons.mpr ⟨neN (by dsimp only; omega), fun p hp => (h p hp).2.2.1⟩)))
theorem upd_kind {L : Nat} {o5 o4 o3 : Obj} {ps : Array Value} {objs : List (Addr × Obj)} (h : Off L objs) (h0 : 134 < L) : UpdF (L + 1 + 1 + 1 + 1) o4 (led L o5 o4 o3 ps objs) (fun o => led L o5 o o3 ps objs) :=
  .tail (neN (by dsimp only; omega)) (.head (List.forall_mem_cons.mpr ⟨neN (by dsimp only; omega), List.forall_mem_cons.mpr ⟨neN (by dsimp only; omega), fun p hp => (h p hp).2.1⟩⟩))
theorem upd_bound {L : Nat} {o5 o4 o3 : Obj} {ps : Array Value} {objs : List (Addr × Obj)} (h : Off L objs) (h0 : 134 < L) : UpdF (L + 1 + 1 + 1 + 1 + 1) o5 (led L o5 o4 o3 ps objs) (fun o => led L o o4 o3 ps objs) :=
  .head (List.forall_mem_cons.mpr ⟨neN (by dsimp only; omega), List.forall_mem_cons.mpr ⟨neN (by dsimp only; omega), List.forall_mem_cons.mpr ⟨neN (by dsimp only; omega), fun p hp => (h p hp).1⟩⟩⟩)

theorem sOf_letters : ∀ ns : List Int, Str.join Str.empty (ns.map fun n => sOf [letter n]) = sOf (wordL ns) := by
  intro ns
  have := sOf_join (ns.map fun n => [letter n])
  rw [List.map_map] at this
  rw [show (fun n => sOf [letter n]) = sOf ∘ fun n => [letter n] from rfl, this]
  congr 1
  clear this
  induction ns with
  | nil => rfl
  | cons n r ih => simp [wordL] at ih ⊢; exact ih
theorem six {a : Int} (h : 0 ≤ a ∧ a ≤ 5) : a = 0 ∨ a = 1 ∨ a = 2 ∨ a = 3 ∨ a = 4 ∨ a = 5 := by omega
theorem letter_lens : ∀ ns : List Int, ((ns.map fun n => sOf [letter n]).map (·.length)).sum = ns.length
  | [] => rfl
  | n :: r => by simp only [List.map_cons, List.sum_cons, letter_lens r, sOf_len, List.length_cons, List.length_nil]; omega
section
variable {prog : Program} {w : World} {A : Around} {E : Value → Shared → Prop} {s : Shared}
/-- ''.join over a list of the letters of the runs -/
theorem join_letters {D : Addr} {ys : Array Value} {n : Nat} {ns : List Int} {z : Str} {t : Tok} {Q : Value → Shared → Prop} (hz : z = Str.ofString "") (hl : s.heap.get? D = some { cls := .type "list", data := .seq ys n })
    (hp : Paired (fun n y => IsStr (sOf [letter n]) y) ns ys.toList) (hlen : ns.length ≤ 8) (h : ∀ t' k, Q (.str (sOf (wordL ns)) t') { s with toks := k }) :
    wpAny (model prog w) A (call (.builtin "str.join") [.str z t, .ref D]) Q E s := by
  subst hz
  refine join_listW (ys := ns.map fun n => sOf [letter n]) ⟨_, hl, rfl, n, rfl⟩ (strsAre (paired_map hp)) (by decide +kernel) ?_ ?_
  · rw [letter_lens, List.length_map]; omega
  · intro t' k
    have e : Txt.join (Str.ofString "") (ns.map fun n => sOf [letter n]) = sOf (wordL ns) := by
      rw [show Str.ofString "" = Str.empty by decide +kernel]
      unfold Txt.join
      rw [StrLaws.glued_eq_join, sOf_letters]
    rw [e]
    exact h t' k
end

section
variable {w : World} {loose : List Str} {mean : ExcName → Option Value} {mg mb : Str → Option Value} {A : Around} {base : Heap} {outer : List Env} {s : Shared} {Q E : Value → Shared → Prop}
theorem rows_callX {i j : Int} {t1 t2 : Tok} (h1 : 2 ≤ i ∧ i ≤ 3) (h2 : 0 ≤ j ∧ j ≤ 5) (G : Gr w loose mean mg mb A base outer s.heap)
    (hd : A.depth + 1 < recursionLimit) (hu : A.units + 8 < cLine)
    (hret : ∀ D n ys objs h' tk' tabs blanks, (tabs = 2 ∨ tabs = 3) → blanks ≤ 5 → Kp s.heap h' → Fresh s.heap h' ((D, W.listOf (List.toArray ys) n) :: objs) → Paired (fun r y => RowG r y objs) (rowsOf tabs blanks) ys → Q (.ref D) { s with heap := h', toks := tk' }) :
    wpAny (model PySem.Challenge.rw_pk0111_01.row.prog w) A (call (.ref 120) [.int i t1, .int j t2]) Q E s := by
  rw [show i = ((i.toNat : Nat) : Int) by omega, show j = ((j.toNat : Nat) : Int) by omega]
  exact rows_call G hd hu (by omega) (by omega) fun D n ys objs h' tk' k f p => hret D n ys objs h' tk' _ _ (by omega) (by omega) k f p
end
/-- what the law keeps of a row -/
noncomputable def ItemR (P : Params) (row : List Int) (v : Value) (os : List (Addr × Obj)) : Prop :=
  Ex7 fun T l n vs ks x t => And7 (v = .ref T) ((T, ({ cls := .type "tuple", data := .seq #[.ref l, .ref x, .str (sOf (wordL row)) t] } : Obj)) ∈ os) ((l, W.listOf (List.toArray vs) n) ∈ os) (IntsAre vs ks) (ks.Perm row) (ks.Pairwise (· ≤ ·)) (WsObj P (fun a o => (a, o) ∈ os) x (hist row) 0 row.length)
theorem WsObj.mono {P : Params} {R R' : Addr → Obj → Prop} {x : Addr} {cs : List Int} {b nt : Int} (h : ∀ a o, R a o → R' a o) (W : WsObj P R x cs b nt) : WsObj P R' x cs b nt := by
  obtain ⟨d, p, q, its, v1, v2, v5, t1, t2, t3, t4, t5, tb, tt, a1, a2, a3, a4, a5⟩ := W
  exact ⟨d, p, q, its, v1, v2, v5, t1, t2, t3, t4, t5, tb, tt, h _ _ a1, h _ _ a2, h _ _ a3, h _ _ a4, a5⟩
theorem ItemR.mono {P : Params} (row : List Int) (v : Value) (os os' : List (Addr × Obj)) (h : ∀ p ∈ os, p ∈ os') : ItemR P row v os → ItemR P row v os' := by
  rintro ⟨T, l, n, vs, ks, x, t, e, h1, h2, h3, h4, h5, h6⟩
  exact ⟨T, l, n, vs, ks, x, t, e, h _ h1, h _ h2, h3, h4, h5, h6.mono fun _ _ => h _⟩
theorem rowsOf_ok {tabs blanks : Nat} (ht : tabs = 2 ∨ tabs = 3) (hb : blanks ≤ 5) : ∀ row ∈ rowsOf tabs blanks, (∀ n ∈ row, 0 ≤ n ∧ n ≤ 5) ∧ row.length = tabs := by
  intro row hrow
  obtain ⟨r, hr, rfl⟩ := List.mem_map.mp hrow
  obtain ⟨h1, h2, h3, h4⟩ := rowsI_ok blanks _ r hr
  refine ⟨fun n hn => ?_, by simp [h1]; omega⟩
  rcases List.mem_append.mp hn with hn | hn
  · refine ⟨h2 n hn, ?_⟩
    have : ∀ l : List Int, (∀ n ∈ l, 0 ≤ n) → n ∈ l → n ≤ l.sum := by
      intro l hl hm
      induction l with
      | nil => cases hm
      | cons a l ih =>
        have ha := hl a (.head _)
        have hs : 0 ≤ l.sum := by
          clear ih hm
          induction l with
          | nil => exact Int.le_refl _
          | cons b l ih2 =>
            have := ih2 fun m hm => hl m (by rcases List.mem_cons.mp hm with rfl | hm; exact .head _; exact .tail _ (.tail _ hm))
            have := hl b (.tail _ (.head _))
            simp only [List.sum_cons]; omega
        simp only [List.sum_cons]
        rcases List.mem_cons.mp hm with rfl | hm
        · omega
        · have := ih (fun m hm => hl m (.tail _ hm)) hm; omega
    have := this r h2 hn
    omega
  · rw [List.mem_singleton.mp hn]; omega
theorem rowsOf_len {tabs blanks : Nat} (ht : tabs = 2 ∨ tabs = 3) (hb : blanks ≤ 5) : (rowsOf tabs blanks).length ≤ 64 := by
  rw [rowsOf, List.length_map]
  exact rowsI_len blanks hb _ (by omega)
section
variable {prog : Program} {w : World} {A : Around} {E : Value → Shared → Prop} {s : Shared} {h₀ : Heap} {L : Addr} {m : Str → Option Value} {news : List (Addr × Obj)}
theorem sorted_G {ha : Heap} {l : Addr} {vs : List Value} {ns : List Int} {n : Nat} {Q : Value → Shared → Prop} (g : Grow ha s.heap) (F : Fr h₀ L s.heap m) (N : News h₀ L s.heap news) (hl : (l, W.listOf vs.toArray n) ∈ news) (hI : IntsAre vs ns) (h64 : ns.length < 64)
    (h : ∀ D h' vs' ns' e, Grow ha h' → ha.get? D = none → Fr h₀ L h' m → News h₀ L h' ((D, W.listOf (List.toArray vs') e) :: news) → IntsAre vs' ns' → ns'.Perm ns → ns'.Pairwise (· ≤ ·) → Q (.ref D) { s with heap := h' }) :
    wpAny (model prog w) A (call (.builtin "sorted") [.ref l]) Q E s := by
  refine sorted_ints ⟨_, (N _ hl).1, rfl, n, rfl⟩ hI (by rw [hI.length]; exact h64) fun out ns' a1 a2 a3 => ?_
  obtain ⟨e, he⟩ := sortedAll_at s.heap vs out
  refine h _ _ out.toList ns' e ⟨g.kp.trans fun _ _ => sortedAll_old⟩ (g.none (Heap.get?_none_of_le (Nat.le_succ _))) (F.kept fun _ _ => sortedAll_old) ?_ a1 a2 a3
  have := N.kept_cons F (fun _ _ => sortedAll_old) (Nat.le_succ _) he
  rw [Array.toArray_toList]
  exact this
end

theorem grow_keeps {a b c : Heap} (g : Grow a b) (k : Kp b c) : Grow a c := ⟨g.kp.trans k⟩
theorem ints_paired {vs : List Value} {ns : List Int} (h : IntsAre vs ns) : Paired IsInt ns vs := by
  induction h with
  | nil => exact .nil
  | cons n t _ ih => exact .cons ⟨_, rfl⟩ ih

theorem ks_canLayAll0 : ∀ xs : List Str, (∀ x ∈ xs, PyData.strOk x = true) → PyData.canLayAll0 (xs.map PyData.str) = true
  | [], _ => rfl
  | x :: r, h => by simp [PyData.canLayAll0, PyData.canLay0, h x (.head _), ks_canLayAll0 r fun y hy => h y (.tail _ hy)]
theorem ks_depthAll : ∀ xs : List Str, PyData.depthAll (xs.map PyData.str) = 0
  | [] => rfl
  | _ :: r => by simp [PyData.depthAll, PyData.depth, ks_depthAll r]
theorem ks_shaped (xs : List Str) (h : ∀ x ∈ xs, PyData.strOk x = true) : SeqAt.shaped (.list (xs.map PyData.str)) = true := by
  simp [SeqAt.shaped, PyData.canLay0, PyData.depth, ks_canLayAll0 xs h, ks_depthAll]
theorem ks_eqvAll : ∀ ns ms : List Str, PyData.eqvAll (ns.map PyData.str) (ms.map PyData.str) = decide (ns = ms)
  | [], [] => by simp [PyData.eqvAll]
  | [], _ :: _ => by simp [PyData.eqvAll]
  | _ :: _, [] => by simp [PyData.eqvAll]
  | a :: r, b :: t => by
    simp only [List.map_cons, PyData.eqvAll, PyData.eqv, ks_eqvAll r t]
    by_cases h : a = b <;> by_cases h' : r = t <;> simp [h, h']
theorem ks_carried : ∀ {vs : List Value} {ns : List Str}, StrsAre vs ns → CarriedAll vs (ns.map PyData.str)
  | _, _, .nil => .nil
  | _, _, .cons _ t r => .cons (.str _ t) (ks_carried r)
theorem letter_small (n : Int) : letter n < 0x110000 := by
  unfold letter
  rcases n.toNat with _ | _ | _ | _ | _ | _ | k <;> simp
theorem ok_word (ns : List Int) : PyData.strOk (sOf (wordL ns)) = true := by
  unfold PyData.strOk
  show (wordL ns).toArray.all (fun c => decide (c < 0x110000)) = true
  rw [List.all_toArray]
  refine List.all_eq_true.mpr fun c hc => ?_
  obtain ⟨n, _, rfl⟩ := List.mem_map.mp hc
  exact decide_eq_true (letter_small n)
section
variable {prog : Program} {w : World} {A : Around} {E : Value → Shared → Prop} {s : Shared} {a b : Addr} {xs ys : List Value} {ns ms : List Str} {Q : Value → Shared → Prop}
theorem ne_strs (ha : s.heap.IsList a xs.toArray) (hb : s.heap.IsList b ys.toArray) (hi : StrsAre xs ns) (hj : StrsAre ys ms) (hx : ∀ x ∈ ns, PyData.strOk x = true) (hy : ∀ x ∈ ms, PyData.strOk x = true) (hu : A.units + 64 < cLine) (h : Q (.bool (!decide (ns = ms))) s) :
    wpAny (model prog w) A (compareOp .NotEq (.ref a) (.ref b)) Q E s := by
  refine ne_dataH (reads_newData ha (ks_carried hi)) (reads_newData hb (ks_carried hj)) (ks_shaped _ hx) (ks_shaped _ hy) hu ?_
  rw [show PyData.eqv (.list (ns.map PyData.str)) (.list (ms.map PyData.str)) = decide (ns = ms) by simp only [PyData.eqv]; exact ks_eqvAll ns ms]
  exact h
end

theorem ok_words {rows : List (List Int)} : ∀ x ∈ rows.map fun row => sOf (wordL row), PyData.strOk x = true := by
  intro x hx
  obtain ⟨r, _, rfl⟩ := List.mem_map.mp hx
  exact ok_word r

theorem truthy_G {prog : Program} {w : World} {A : Around} {E : Value → Shared → Prop} {s : Shared} {l : Addr} {vs : List Value} {Q : Bool → Shared → Prop} (hl : s.heap.IsList l vs.toArray) (hz : vs.length ≤ 64)
    (h : Q (!vs.isEmpty) { s with toks := s.toks + 1 + 1 }) : wpAny (model prog w) A (truthy (.ref l)) Q E s :=
  wpAny_truthy_list hl (by rw [List.size_toArray]; omega) (by rw [List.isEmpty_toArray]; exact h)
/-- what is left of the rows: whole kinds of them -/
structure Rest (tabs blanks : Nat) (rs : List (List Int)) : Prop where
  sub : ∀ r ∈ rs, r ∈ rowsOf tabs blanks
  whole : ∀ r ∈ rs, ∀ r' ∈ rowsOf tabs blanks, hist r' = hist r → r' ∈ rs
  len : rs.length ≤ 64
theorem led_front {g h : Heap} {L : Nat} {o5 o4 o3 : Obj} {ps : Array Value} {xs objs : List (Addr × Obj)} (N : News g L h (led L o5 o4 o3 ps objs)) (hoff : Off L objs) (hx : ∀ p ∈ xs, p ∈ objs) : News g L h (led L o5 o4 o3 ps (xs ++ objs)) ∧ Off L (xs ++ objs) := by
  have hs : ∀ p ∈ xs ++ objs, p ∈ objs := fun p hp => (List.mem_append.mp hp).elim (hx p) id
  refine ⟨news_sub N ?_, hoff.sub hs⟩
  rintro p (_ | ⟨_, _ | ⟨_, _ | ⟨_, _ | ⟨_, hp⟩⟩⟩⟩)
  · exact .head _
  · exact .tail _ (.head _)
  · exact .tail _ (.tail _ (.head _))
  · exact .tail _ (.tail _ (.tail _ (.head _)))
  · exact .tail _ (.tail _ (.tail _ (.tail _ (hs p hp))))

theorem hist_len {ns : List Int} (h : ∀ n ∈ ns, 0 ≤ n ∧ n ≤ 5) : (hist ns).length ≤ 6 := by
  have : ∀ (ns : List Int) (cs : List Int), (∀ n ∈ ns, 0 ≤ n ∧ n ≤ 5) → cs.length ≤ 6 → (ns.foldl (fun cs n => bump cs n.toNat) cs).length ≤ 6 := by
    intro ns
    induction ns with
    | nil => intro cs _ h; exact h
    | cons n r ih =>
      intro cs hb hc
      have hn := hb n (.head _)
      exact ih _ (fun m hm => hb m (.tail _ hm)) (by rw [bump_len]; omega)
  exact this ns [] h (Nat.zero_le _)



theorem after_mkeq {g h h' : Heap} {L : Nat} {m : Str → Option Value} {o5 o4 o3 : Obj} {ps ps' : Array Value} {objs objs' : List (Addr × Obj)} (F : Fr g L h m) (N : News g L h (led L o5 o4 o3 ps objs)) (hoff : Off L objs) (h0 : 134 < L)
    (hk : ∀ b o, b ≠ 134 → h.get? b = some o → h'.get? b = some o) (ht : h'.get? 134 = some (tabObj ps')) (hf : Fresh h h' objs') : Fr g L h' m ∧ News g L h' (led L o5 o4 o3 ps' (objs' ++ objs)) ∧ Off L (objs' ++ objs) := by
  have n134 := N _ (.tail _ (.tail _ (.tail _ (.head _))))
  have hL : L ≠ 134 := Nat.ne_of_gt h0
  refine ⟨⟨F.ns.at' fun o e => hk _ o hL e, fun b o e => hk b o ?_ (F.keep b o e), F.above⟩, ?_, (off_fresh N hf).app hoff⟩
  · rintro rfl
    rw [n134.2.2] at e; cases e
  · rintro p (_ | ⟨_, _ | ⟨_, _ | ⟨_, _ | ⟨_, hp⟩⟩⟩⟩)
    · have n := N _ (.head _)
      exact ⟨hk _ _ (neN (by dsimp only; omega)) n.1, n.2⟩
    · have n := N _ (.tail _ (.head _))
      exact ⟨hk _ _ (neN (by dsimp only; omega)) n.1, n.2⟩
    · have n := N _ (.tail _ (.tail _ (.head _)))
      exact ⟨hk _ _ (neN (by dsimp only; omega)) n.1, n.2⟩
    · exact ⟨ht, n134.2⟩
    · rcases List.mem_append.mp hp with hp | hp
      · refine ⟨(hf p hp).1, ?_, ?_⟩
        · obtain ⟨_, _, _, ho, _⟩ := F.ns
          exact hf.ne ho p hp
        · cases e : g.get? p.1 with
          | none => rfl
          | some o => have := F.keep _ _ e; rw [(hf p hp).2] at this; cases this
      · have n := N p (.tail _ (.tail _ (.tail _ (.tail _ hp))))
        exact ⟨hk _ _ (hoff p hp).2.2.2 n.1, n.2⟩
theorem item_gr {P : Params} {r : List Int} {v : Value} {os os' : List (Addr × Obj)} (h : ∀ p ∈ os, p ∈ os') : ItemR P r v os → ItemG P hist (fun r => (r.length : Int)) r v os' := by
  rintro ⟨T, l, n, vs, ks, x, t, e, hT, hl, hI, hp, hw, hW⟩
  exact ⟨T, _, x, _, e, h _ hT, hW.mono fun _ _ m => h _ m⟩


theorem wordL_len (ns : List Int) : (wordL ns).length = ns.length := by simp [wordL]
/-- the ints behind values that bear them -/
theorem ints_behind {α : Type} {R : α → Int → Prop} : ∀ {as : List α} {vs : List Value}, Paired (fun a v => ∃ z, IsInt z v ∧ R a z) as vs → ∃ zs, IntsAre vs zs ∧ Paired R as zs
  | _, _, .nil => ⟨[], .nil, .nil⟩
  | _, _, .cons ⟨z, ⟨t, e⟩, r⟩ h => by
    subst e
    obtain ⟨zs, h1, h2⟩ := ints_behind h
    exact ⟨z :: zs, .cons _ _ h1, .cons r h2⟩

set_option maxHeartbeats 0 in
theorem law_holds : PySem.Challenge.rw_pk0111_01.Holds := hd1 (by
  k_go0
  rename_i w s₀ s₁ mg mb G Y fa o pm cd doc ho hcd hg X V T B TE TW ns hs hlay0 hL hr hl2 wa wb la vs wc hL2 ra w1 r0 hI hr2 hc1 hc2 hD h₁ tk₁ o5 o4 o3 o2 o1 c5 c4 c3 c2 c1 X0 X' T' K' F' N' l0
  have hnl : vs.length ≤ 63 := by have := hI.length; omega
  have hcell : o1.data = .cell (some (.ref la)) := by with_unfolding_all exact c1
  have F0 : Fr (ghostOf s₁.heap [(138, 134)]) s₁.heap.objs.size h₁ (fun _ => none) := fr_cast F' (by with_unfolding_all rfl)
  have c2' : o2.data = .cell none := by with_unfolding_all exact c2
  have c3' : o3.data = .cell none := by with_unfolding_all exact c3
  have c4' : o4.data = .cell none := by with_unfolding_all exact c4
  have c5' : o5.data = .cell none := by with_unfolding_all exact c5
  refine abs_qe (fun s' => ∃ h' tk' L' m', s' = { heap := h', gens := s₁.gens, drawn := s₁.drawn, toks := tk', os := s₁.os } ∧ Fr (ghostOf s₁.heap [(138, 134)]) L' h' m' ∧ ∃ ps, h'.get? 134 = some (tabObj ps)) ?_ ?_ ?_
  · rintro s' ⟨h', tk', L', m', rfl, F, ps, hp⟩
    refine ⟨?_, ⟨ps, hp⟩, trivial⟩
    refine goodW_bool F hg (raisesW_false ?_) ?_
    · wrow_none_raised
    · wrow_post
  · first | passes_own | with_unfolding_all passes_own
  intro Q0 E0 hret hPO
  clear c1 c2 c3 c4 c5 X0 F' hD hc1 hc2 hr2 r0 w1 ra hL2 wc hl2 hr hL hlay0 hs hT9 TW TE B T V X hT8 hg hcd ho Y G
  have l134 : (ghostOf s₁.heap [(138, 134)]).get? 134 = none := (N' _ (.tail _ (.tail _ (.tail _ (.tail _ (.tail _ (.head _))))))).2.2
  generalize (ghostOf s₁.heap [(138, 134)]) = gg at *
  generalize s₁.heap.objs.size = L at *
  clear pm doc wa wb
  w_top off
  repeat' (first | (k_unfold; (try dsimp only)) | ((fail_if_success (with_reducible show wpAny _ _ (exec (Stmt.Assign _ (Expr.ListComp _ _ _ _) _) _) _ _ _)); first | walk1 | (dsimp only; walk1)))
  rename_i lt h₂ l1 h₃ o' F0 N' d'
  clear c2' o2
  w_top off
  revert X'; k_fill; intro X'
  k_dflt (refine lc_assign (as := List.range 4) (K := fun i v => ∃ t, v = .int (i : Nat) t) (pz := fun _ => true) (G := fun _ y _ => ∃ z, IsInt z y) (fun _ _ _ _ _ h => h) (cl := [(Str.ofString "told", L + 1 + 1), (Str.ofString "script", L + 1)]) ?_ ?_ ?_ ?_ ?_ ?_ ?_ ?_ ?_ ?_ ?_)
  case refine_1 => with_unfolding_all rfl
  case refine_2 => with_unfolding_all rfl
  case refine_3 => decide
  case refine_4 => rfl
  case refine_5 => decide
  case refine_6 => with_unfolding_all rfl
  case refine_7 => with_unfolding_all rfl
  case refine_8 => with_unfolding_all rfl
  case refine_9 => intro _; with_unfolding_all rfl
  case refine_10 => rw [sizeLine_eq]; decide
  repeat' (first | (k_unfold; (try dsimp only)) | ((fail_if_success (with_reducible show _ ∧ _)); first | walk1 | (dsimp only; walk1)))
  rename (IsRange _ _ _ _ _ _ _ _) => hrg
  rename Fr _ _ _ _ => F1
  rename News _ _ _ _ => N1
  refine ⟨⟨_, src_range rfl hrg (by decide)⟩, ⟨?_, ?_⟩, _, F1.ns, ?_⟩
  · intro C a v s₂ m₂ E' ha hK hC hn hm hk
    exact wpAny_tests_nil ⟨rfl, s₂.heap, s₂.toks, rfl, fun _ _ e => e⟩
  · rintro C a v s₂ m₂ E' ha ⟨ta, rfl⟩ _ hC hn hm hk
    dsimp only at hk
    have F2 := F1.keeps hk
    have N2 := N1.grown hk
    clear F1 N1 hC
    have ha4 := List.mem_range.mp ha
    have g0 : Grow s₂.heap s₂.heap := ⟨Kp.refl _⟩
    have hls : s₂.heap.IsList la vs.toArray := lifted.at fun o e => F2.keep _ o e
    refine wpAny_mono (Q := fun y s₃ => End ((∃ os, Fresh s₂.heap s₃.heap os ∧ ∃ z, IsInt z y) ∧ Keeps s₂ s₃)) ?_ (fun _ _ h => h.out) (fun _ _ h => h)
    repeat' (first | (k_unfold; (try dsimp only)) | ((fail_if_success (with_reducible show wpAny _ _ (subscriptTail _ _ (Value.ref _) (Value.ref _)) _ _ _)); first | walk1 | (dsimp only; walk1)))
    refine slice_G g0 F2 N2 hls (.int _ _) .none (.int _ _) (by decide) ?_ (by rw [sizeLine_eq, List.size_toArray]; omega) (by with_unfolding_all rfl) (by intro _; with_unfolding_all rfl)
    intro D h' g1 F3 N3
    dsimp only
    repeat' (first | (k_unfold; (try dsimp only)) | ((fail_if_success (with_reducible show wpAny _ _ (call (Value.builtin _) _) _ _ _)); first | walk1 | (dsimp only; walk1)))
    refine sum_G g1 rfl F3 N3 (.head _) (hI.pick _ _ _) ?_
    intro h4 tk4 t4 g4 F4 N4
    repeat' (first | (k_unfold; (try dsimp only)) | (first | walk1 | (dsimp only; walk1)))
    refine End.mk ⟨⟨[], Fresh.nil, _, _, rfl⟩, _, _, rfl, g4.kp⟩
  intro D2 n2 ys2 objs2 h2 tk2 hk2 hn2 hD2 hgD2 hf2 hne2 hP2
  dsimp only at hk2 hn2 hD2 hf2
  obtain ⟨z0, z1, z2, z3, t0, t1, t2, t3, hys⟩ := four_ints (show Paired (fun _ y => ∃ z, IsInt z y) [0, 1, 2, 3] ys2.toList from hP2)
  obtain ⟨F3, N3⟩ := after_assign F1 N1 hk2 hn2 (fresh1 hgD2 hD2)
  have hoff := off_one (N1 _ (.tail _ (.head _))).1 (N1 _ (.tail _ (.tail _ (.head _)))).1 (N1 _ (.tail _ (.tail _ (.tail _ (.head _))))).1 (N1 _ (.tail _ (.tail _ (.tail _ (.tail _ (.tail _ (.tail _ (.head _)))))))).1 (fresh1 hgD2 hD2)
  have N4 : News gg L h2 (led L o5 o4 o3 #[] [(D2, W.listOf [Value.int z0 t0, .int z1 t1, .int z2 t2, .int z3 t3].toArray n2)]) := fun p hp => N3 p (by
    rcases hp with _ | ⟨_, _ | ⟨_, _ | ⟨_, _ | ⟨_, _ | ⟨_, hp⟩⟩⟩⟩⟩
    · exact .tail _ (.tail _ (.head _))
    · exact .tail _ (.tail _ (.tail _ (.head _)))
    · exact .tail _ (.tail _ (.tail _ (.tail _ (.head _))))
    · exact .tail _ (.tail _ (.tail _ (.tail _ (.tail _ (.tail _ (.tail _ (.head _)))))))
    · rw [← hys, Array.toArray_toList]; exact .head _
    · cases hp)
  have hoff : Off L [(D2, W.listOf [Value.int z0 t0, .int z1 t1, .int z2 t2, .int z3 t3].toArray n2)] := by
    intro p hp
    rw [List.mem_singleton.mp hp]
    exact hoff (D2, W.listOf ys2 n2) (.head _)
  clear F1 N1 N3 hP2 hf2 hne2 hgD2 hD2 hn2 hk2 hys hcell d' l1
  try dsimp only
  rename_i N9 F9 h9 tk9 t9 u9 v9 a9 hof9
  clear hrg hof9 N9 F9 a9 t9 u9 v9 h9 tk9 h₁ tk₁ lt h₂ o' lifted hI hnl la vs o1 h₃
  w_top off
  revert X'; k_fill; intro X'
  walk1
  k_dflt (refine lc_assign (as := [z0, z1, z2, z3]) (K := IsInt) (pz := fun z => decide (z.fmod 7 < 6)) (G := fun z y _ => IsInt (z.fmod 7) y) (fun _ _ _ _ _ h => h) (cl := []) ?_ ?_ ?_ ?_ ?_ ?_ ?_ ?_ ?_ ?_ ?_)
  case refine_1 => with_unfolding_all rfl
  case refine_2 => with_unfolding_all rfl
  case refine_3 => decide
  case refine_4 => rfl
  case refine_5 => decide
  case refine_6 => with_unfolding_all rfl
  case refine_7 => with_unfolding_all rfl
  case refine_8 => with_unfolding_all rfl
  case refine_9 => intro _; with_unfolding_all rfl
  case refine_10 => rw [sizeLine_eq]; show 4 ≤ _; decide
  walk1
  refine ⟨⟨_, src_list rfl ⟨_, (N4 _ (.tail _ (.tail _ (.tail _ (.tail _ (.head _)))))).1, rfl, n2, rfl⟩ (.cons ⟨_, rfl⟩ (.cons ⟨_, rfl⟩ (.cons ⟨_, rfl⟩ (.cons ⟨_, rfl⟩ .nil))))⟩, ⟨?_, ?_⟩, _, F3.ns, ?_⟩
  · rintro C a v s₂ m₂ E' ha ⟨ta, rfl⟩ hC hn hm hk
    dsimp only at hk
    have F2 := F3.keeps hk
    have N2 := N4.grown hk
    clear F3 N4 hC
    refine wpAny_tests_one ?_
    refine wpAny_mono (Q := fun ok s₃ => End (ok = decide (a.fmod 7 < 6) ∧ Keeps s₂ s₃)) ?_ (fun _ _ h => h.out) (fun _ _ h => h)
    repeat' (first | (k_unfold; (try dsimp only)) | (first | walk1 | (dsimp only; walk1)))
    exact End.mk ⟨rfl, _, _, rfl, Kp.refl _⟩
  · rintro C a v s₂ m₂ E' ha ⟨ta, rfl⟩ _ hC hn hm hk
    dsimp only at hk
    have F2 := F3.keeps hk
    have N2 := N4.grown hk
    clear F3 N4 hC
    refine wpAny_mono (Q := fun y s₃ => End ((∃ os, Fresh s₂.heap s₃.heap os ∧ IsInt (a.fmod 7) y) ∧ Keeps s₂ s₃)) ?_ (fun _ _ h => h.out) (fun _ _ h => h)
    repeat' (first | (k_unfold; (try dsimp only)) | (first | walk1 | (dsimp only; walk1)))
    exact End.mk ⟨⟨[], Fresh.nil, _, rfl⟩, _, _, rfl, Kp.refl _⟩
  intro D3 n3 ys3 objs3 h3 tk3 hk3 hn3 hD3 hgD3 hf3 hne3 hP3
  dsimp only at hk3 hn3 hD3 hf3
  have hP4 : Paired IsInt (runsOf [z0, z1, z2, z3]) ys3.toList := paired_map hP3
  have hro := runsOf_ok [z0, z1, z2, z3]
  have hrl := runsOf_len (z0 := z0) (z1 := z1) (z2 := z2) (z3 := z3)
  clear hP3
  obtain ⟨F5, N5⟩ := after_assign F3 N4 hk3 hn3 (fresh1 hgD3 hD3)
  have hoff5 := (off_fresh N4 (fresh1 hgD3 hD3)).app hoff
  have N6 := led_add N5
  clear F3 N4 N5 hk3 hn3 hf3 hne3 hD3 hoff objs3
  try dsimp only
  try dsimp only at N6
  have hlead := leadL_len hro hrl
  have hIs3 : h3.IsList D3 ys3.toList.toArray := ⟨_, hgD3, rfl, n3, by simp⟩
  clear hgD3
  repeat' (first | (k_unfold; (try dsimp only)) | ((fail_if_success (with_reducible show wpAny _ _ (call (Value.ref _) _) _ _ _)); first | walk1 | (dsimp only; walk1)))
  refine lead_call (Gr.inner K' X' T' F5 rfl rfl rfl) (lt_of_room (law_room _) (by decide)) (lt_of_room (law_units _) (by decide)) hIs3 hP4 hro hrl ?_
  intro ta h4 tk4 hk4
  replace F5 := F5.keeps hk4
  replace N6 := N6.grown hk4
  replace hIs3 := hk4.list hIs3
  clear hk4
  try dsimp only
  repeat' (first | (k_unfold; (try dsimp only)) | ((fail_if_success (with_reducible show wpAny _ _ (call (Value.ref _) _) _ _ _)); first | walk1 | (dsimp only; walk1)))
  refine mark_callX rfl (Gr.inner K' X' T' F5 rfl rfl rfl) (lt_of_room (law_room _) (by decide)) (lt_of_room (law_units _) (by decide)) hro hrl ?_
  intro xm h5 tk5 objsM hk5 hf5 WM
  dsimp only at hk5 hf5
  obtain ⟨F7, N7⟩ := after_expr F5 N6 hk5 hf5
  replace hIs3 := hk5.list hIs3
  have hoff7 := (off_fresh N6 hf5).app hoff5
  have N8 := led_add N7
  have N9 : News gg L h5 (led L o5 o4 o3 #[] ((D3, W.listOf ys3.toList.toArray n3) :: (D2, W.listOf [Value.int z0 t0, .int z1 t1, .int z2 t2, .int z3 t3].toArray n2) :: objsM)) := news_sub N8 (led_mv (by simp))
  have hoff9 : Off L ((D3, W.listOf ys3.toList.toArray n3) :: (D2, W.listOf [Value.int z0 t0, .int z1 t1, .int z2 t2, .int z3 t3].toArray n2) :: objsM) := hoff7.sub (led_mv0 (by simp))
  clear F5 N6 N7 N8 hoff7 hk5 hf5 hoff5 hIs3 hlead
  try dsimp only
  repeat' (first | (k_unfold; (try dsimp only)) | ((fail_if_success (with_reducible show wpAny _ _ (call (Value.ref _) _) _ _ _)); first | walk1 | (dsimp only; walk1)))
  rename Fr _ _ _ _ => F1
  rename News _ _ _ _ => N1
  refine word_call (Gr.inner K' X' T' F1 rfl rfl rfl) (lt_of_room (law_room _) (by decide)) (lt_of_room (law_units _) (by decide)) (N1.isList (.tail _ (.tail _ (.tail _ (.tail _ (.head _)))))) hP4 hro hrl ?_
  intro tw h6 tk6 hk6
  replace F1 := F1.keeps hk6
  replace N1 := N1.grown hk6
  clear hk6
  try dsimp only
  repeat' (first | (k_unfold; (try dsimp only)) | ((fail_if_success (with_reducible show wpAny _ _ (eval (Expr.ListComp _ _ _ _) _) _ _ _)); first | (first | ((with_reducible show wpAny _ _ (storeName _ _ _) _ _ _); k_dflt (refine' storeX_C ?stS4F ?stS4N ?stS4c (upd_word (by assumption) (by assumption)) ?stS4d ?_ ?stS4a ?stS4b; (case stS4a => rfl); (case stS4b => rfl); (case stS4F => k_asm); (case stS4N => k_asm); (case stS4c => rfl); (case stS4d => k_asm); k_whole; intro h' o' F' N' d')) | walk1) | (dsimp only; (first | ((with_reducible show wpAny _ _ (storeName _ _ _) _ _ _); k_dflt (refine' storeX_C ?F ?N ?c (upd_word (by assumption) (by assumption)) ?d ?_ ?a ?b; (case a => rfl); (case b => rfl); (case F => k_asm); (case N => k_asm); (case c => rfl); (case d => k_asm); k_whole; intro h' o' F' N' d')) | walk1))))
  w_top off
  revert X'; k_fill; intro X'
  rename Fr _ _ _ _ => F1
  rename News _ _ _ _ => N1
  rename _ = Data.cell (some (Value.str _ _)) => dw
  k_dflt (refine lc_eval (as := runsOf [z0, z1, z2, z3]) (K := IsInt) (pz := fun _ => true) (G := fun n y _ => IsStr (sOf [letter n]) y) (fun _ _ _ _ _ h => h) (cl := []) ?_ ?_ ?_ ?_ ?_ ?_ ?_ ?_)
  case refine_1 => with_unfolding_all rfl
  case refine_2 => decide
  case refine_3 => rfl
  case refine_4 => decide
  case refine_5 => with_unfolding_all rfl
  case refine_6 => intro _; with_unfolding_all rfl
  case refine_7 => rw [sizeLine_eq]; omega
  walk1
  refine ⟨⟨_, src_list rfl (N1.isList (.tail _ (.tail _ (.tail _ (.tail _ (.head _)))))) hP4⟩, ⟨?_, ?_⟩, ?_⟩
  · intro C a v s₂ m₂ E' ha hK hC hn hm hk
    exact wpAny_tests_nil ⟨rfl, s₂.heap, s₂.toks, rfl, fun _ _ e => e⟩
  · rintro C a v s₂ m₂ E' ha ⟨ta, rfl⟩ _ hC hn hm hk
    dsimp only at hk
    have F2 := F1.keeps hk
    have N2 := N1.grown hk
    clear F1 N1 hC
    have ha6 := hro a ha
    refine wpAny_mono (Q := fun y s₃ => End ((∃ os, Fresh s₂.heap s₃.heap os ∧ IsStr (sOf [letter a]) y) ∧ Keeps s₂ s₃)) ?_ (fun _ _ h => h.out) (fun _ _ h => h)
    repeat' (first | (k_unfold; (try dsimp only)) | ((fail_if_success (with_reducible show wpAny _ _ (subscriptTail _ _ (Value.str _ _) (Value.int _ _)) _ _ _)); first | walk1 | (dsimp only; walk1)))
    refine it_letter ha6 ?_ (by with_unfolding_all rfl) (by intro _; with_unfolding_all rfl)
    try dsimp only
    repeat' (first | (k_unfold; (try dsimp only)) | (first | walk1 | (dsimp only; walk1)))
    exact End.mk ⟨⟨[], Fresh.nil, _, rfl⟩, _, _, rfl, Kp.refl _⟩
  intro D4 n4 ys4 objs4 h4 tk4 hk4 hD4 hgD4 hf4 hne4 hP5
  dsimp only at hk4 hD4 hf4
  replace F1 := F1.keeps hk4
  replace N1 := N1.grown hk4
  have hP6 : Paired (fun n y => IsStr (sOf [letter n]) y) (runsOf [z0, z1, z2, z3]) ys4.toList := by rw [List.filter_eq_self.mpr (fun _ _ => rfl)] at hP5; exact hP5
  clear hk4 hD4 hf4 hne4 hP5
  repeat' (first | (k_unfold; (try dsimp only)) | ((fail_if_success (with_reducible show wpAny _ _ (call (Value.builtin _) _) _ _ _)); first | walk1 | (dsimp only; walk1)))
  refine join_letters rfl hgD4 hP6 (by omega) ?_
  intro tj kj
  clear hgD4 hP6
  dsimp only
  repeat' (first | (k_unfold; (try dsimp only)) | ((fail_if_success (with_reducible show wpAny _ _ (compareOp _ _ _) _ _ _)); first | walk1 | (dsimp only; walk1)))
  refine ne_str ?_
  rw [bne_self_eq_false]
  rename Fr _ _ _ _ => F5
  rename News _ _ _ _ => N5
  have hl3 : (runsOf [z0, z1, z2, z3]).length ≤ 4 := hrl
  repeat' (first | (k_unfold; (try dsimp only)) | ((fail_if_success (with_reducible show wpAny _ _ (call (Value.ref _) _) _ _ _)); first | (first | ((with_reducible show wpAny _ _ (subscriptTail _ _ (Value.ref _) (Value.int _ _)) _ _ _); k_dflt (refine item_listL (News.isList (by k_asm) (by k_mem)) (by decide) (by decide) rfl ?_)) | walk1) | (dsimp only; (first | ((with_reducible show wpAny _ _ (subscriptTail _ _ (Value.ref _) (Value.int _ _)) _ _ _); k_dflt (refine item_listL (News.isList (by k_asm) (by k_mem)) (by decide) (by decide) rfl ?_)) | walk1))))
  clear hl3
  w_top off
  revert X'; k_fill; intro X'
  have q1 : 2 ≤ 2 + (z0.fdiv 7).fmod 2 ∧ 2 + (z0.fdiv 7).fmod 2 ≤ 3 := by
    have h1 := Int.fmod_nonneg_of_pos (z0.fdiv 7) (show (0 : Int) < 2 by decide)
    have h2 := Int.fmod_lt_of_pos (z0.fdiv 7) (show (0 : Int) < 2 by decide)
    omega
  have q2 : 0 ≤ (z1.fdiv 7).fmod 6 ∧ (z1.fdiv 7).fmod 6 ≤ 5 := by
    have h1 := Int.fmod_nonneg_of_pos (z1.fdiv 7) (show (0 : Int) < 6 by decide)
    have h2 := Int.fmod_lt_of_pos (z1.fdiv 7) (show (0 : Int) < 6 by decide)
    omega
  refine rows_callX q1 q2 (Gr.inner K' X' T' F5 rfl rfl rfl) (lt_of_room (law_room _) (by decide)) (lt_of_room (law_units _) (by decide)) ?_
  clear q1 q2
  intro DR nR ysR objsR hR tkR tabs blanks hta hbl hkR hfR hPR
  dsimp only at hkR hfR
  obtain ⟨F6, N6⟩ := after_expr F5 N5 hkR hfR
  have hoff6 := (off_fresh N5 hfR).app (by assumption : Off L ((D3, _) :: _))
  replace N6 := led_add N6
  clear F5 N5 hkR hfR
  try dsimp only
  repeat' (first | (k_unfold; (try dsimp only)) | ((fail_if_success (with_reducible show wpAny _ _ (exec (Stmt.Assign _ (Expr.ListComp _ _ _ _) _) _) _ _ _)); first | walk1 | (dsimp only; walk1)))
  rename Fr _ _ _ _ => F7
  rename News _ _ _ _ => N7
  w_top off
  revert X'; k_fill; intro X'
  k_dflt (refine lc_assign (as := rowsOf tabs blanks) (K := fun r y => RowG r y objsR) (pz := fun _ => true) (G := ItemR w.params) ItemR.mono (cl := []) ?_ ?_ ?_ ?_ ?_ ?_ ?_ ?_ ?_ ?_ ?_)
  case refine_1 => with_unfolding_all rfl
  case refine_2 => with_unfolding_all rfl
  case refine_3 => decide
  case refine_4 => rfl
  case refine_5 => decide
  case refine_6 => with_unfolding_all rfl
  case refine_7 => with_unfolding_all rfl
  case refine_8 => with_unfolding_all rfl
  case refine_9 => intro _; with_unfolding_all rfl
  case refine_10 => rw [sizeLine_eq]; exact Nat.le_trans (rowsOf_len hta hbl) (by decide)
  walk1
  refine ⟨⟨_, src_list rfl (N7.isList (.tail _ (.tail _ (.tail _ (.tail _ (.head _)))))) hPR⟩, ⟨?_, ?_⟩, _, F7.ns, ?_⟩
  · intro C a v s₂ m₂ E' ha hK hC hn hm hk
    exact wpAny_tests_nil ⟨rfl, s₂.heap, s₂.toks, rfl, fun _ _ e => e⟩
  · rintro C a v s₂ m₂ E' ha ⟨l, n, vs, rfl, hl, hI⟩ _ hC hn hm hk
    dsimp only at hk
    have F2 := F7.keeps hk
    have N2 : News gg L s₂.heap [(l, W.listOf vs.toArray n)] := News.grown (news_sub N7 (sub_cons (.tail _ (.tail _ (.tail _ (.tail _ (List.mem_append_left _ (.tail _ hl)))))) sub_nil)) hk
    obtain ⟨q1, q2⟩ := rowsOf_ok hta hbl a ha
    have q3 : a.length ≤ 4 := by omega
    clear F7 N7 hC hPR
    have g0 : Grow s₂.heap s₂.heap := ⟨Kp.refl _⟩
    have hlead := leadL_len q1 q3
    refine wpAny_mono (Q := fun y s₃ => End ((∃ os, Fresh s₂.heap s₃.heap os ∧ ItemR w.params a y os) ∧ Keeps s₂ s₃)) ?_ (fun _ _ h => h.out) (fun _ _ h => h)
    repeat' (first | (k_unfold; (try dsimp only)) | ((fail_if_success (with_reducible show wpAny _ _ (call (Value.builtin _) _) _ _ _)); first | walk1 | (dsimp only; walk1)))
    refine sorted_G g0 F2 N2 (.head _) hI (by omega) ?_
    intro DS hS vS kS eS gS nS FS NS iS pS wS
    clear F2 N2 g0
    have hnS := hn.keeps gS.kp
    try dsimp only
    repeat' (first | (k_unfold; (try dsimp only)) | ((fail_if_success (with_reducible show wpAny _ _ (call (Value.ref _) _) _ _ _)); first | walk1 | (dsimp only; walk1)))
    refine lead_call (Gr.inner K' X' T' FS rfl rfl rfl) (lt_of_room (law_room _) (by decide)) (lt_of_room (law_units _) (by decide)) (NS.isList (.tail _ (.head _))) (ints_paired hI) q1 q3 ?_
    intro tl hh4 tk4 hk4
    replace FS := FS.keeps hk4
    replace NS := NS.grown hk4
    replace gS := grow_keeps gS hk4
    replace hnS := hnS.keeps hk4
    clear hk4
    try dsimp only
    repeat' (first | (k_unfold; (try dsimp only)) | ((fail_if_success (with_reducible show wpAny _ _ (call (Value.ref _) _) _ _ _)); first | walk1 | (dsimp only; walk1)))
    refine mark_callX rfl (Gr.inner K' X' T' FS rfl rfl rfl) (lt_of_room (law_room _) (by decide)) (lt_of_room (law_units _) (by decide)) q1 q3 ?_
    intro xw hh5 tk5 objsW hk5 hf5 WW
    dsimp only at hk5 hf5
    have hf6 := hf5.sooner gS.kp
    obtain ⟨FS, NS⟩ := after_expr FS NS hk5 hf5
    replace NS := news_sub NS (b := (DS, W.listOf vS.toArray eS) :: (l, W.listOf vs.toArray n) :: objsW) (sub_cons (List.mem_append_right _ (.head _)) (sub_cons (List.mem_append_right _ (.tail _ (.head _))) (fun p hp => List.mem_append_left _ hp)))
    replace gS := grow_keeps gS hk5
    replace hnS := hnS.keeps hk5
    clear hk5 hf5
    try dsimp only
    repeat' (first | (k_unfold; (try dsimp only)) | ((fail_if_success (with_reducible show wpAny _ _ (call (Value.ref _) _) _ _ _)); first | walk1 | (dsimp only; walk1)))
    refine word_call (Gr.inner K' X' T' FS rfl rfl rfl) (lt_of_room (law_room _) (by decide)) (lt_of_room (law_units _) (by decide)) (NS.isList (.tail _ (.head _))) (ints_paired hI) q1 q3 ?_
    intro tw hh6 tk6 hk6
    replace FS := FS.keeps hk6
    replace NS := NS.grown hk6
    replace gS := grow_keeps gS hk6
    replace hf6 := hf6.later hk6
    clear hk6
    try dsimp only
    repeat' (first | (k_unfold; (try dsimp only)) | ((fail_if_success (with_reducible show wpAny _ _ (newTuple _) _ _ _)); first | walk1 | (dsimp only; walk1)))
    refine newTuple_G gS FS NS ?_ (by rw [sizeLine_eq]; show 3 ≤ _; decide)
    intro DT hT gT nT FT NT _
    try dsimp only
    refine End.mk ⟨⟨(DT, _) :: (DS, _) :: objsW, ?_, DT, DS, eS, vS, kS, xw, tw, rfl, .head _, .tail _ (.head _), iS, pS, wS, WW.mono fun _ _ h => .tail _ (.tail _ h)⟩, _, _, rfl, gT.kp⟩
    rintro p (_ | ⟨_, _ | ⟨_, hp⟩⟩)
    · exact ⟨(NT _ (.head _)).1, nT⟩
    · exact ⟨(NT _ (.tail _ (.head _))).1, nS⟩
    · exact ⟨(NT _ (.tail _ (.tail _ (.tail _ hp)))).1, (hf6 p hp).2⟩
  intro DL nL ysL objsL hL tkL hkL hnL hDL hgDL hfL hneL hPL
  dsimp only at hkL hnL hDL hfL
  rw [List.filter_eq_self.mpr (fun _ _ => rfl)] at hPL
  have hfL2 : Fresh _ hL ((DL, W.listOf ysL.toList.toArray nL) :: objsL) := Fresh.cons ⟨by rw [Array.toArray_toList]; exact hgDL, hDL⟩ hfL
  obtain ⟨F8, N8⟩ := after_assign F7 N7 hkL hnL hfL2
  have hoff8 := (off_fresh N7 hfL2).app hoff6
  replace N8 := led_add N8
  clear F7 N7 hkL hnL hDL hgDL hfL hneL hfL2
  try dsimp only
  repeat' (first | (k_unfold; (try dsimp only)) | ((fail_if_success (with_reducible show wpAny _ _ (eval (Expr.ListComp _ _ _ _) _) _ _ _)); first | walk1 | (dsimp only; walk1)))
  w_top off
  revert X'; k_fill; intro X'
  k_dflt (refine lc_eval (as := rowsOf tabs blanks) (K := fun row v => ItemR w.params row v objsL) (pz := fun _ => true) (G := fun row y _ => IsStr (sOf (wordL row)) y) (fun _ _ _ _ _ h => h) (cl := []) ?_ ?_ ?_ ?_ ?_ ?_ ?_ ?_)
  case refine_1 => with_unfolding_all rfl
  case refine_2 => decide
  case refine_3 => rfl
  case refine_4 => decide
  case refine_5 => with_unfolding_all rfl
  case refine_6 => intro _; with_unfolding_all rfl
  case refine_7 => rw [sizeLine_eq]; exact Nat.le_trans (rowsOf_len hta hbl) (by decide)
  walk1
  refine ⟨⟨_, src_list rfl (N8.isList (.tail _ (.tail _ (.tail _ (.tail _ (.head _)))))) hPL⟩, ⟨?_, ?_⟩, ?_⟩
  · intro C a v s₂ m₂ E' ha hK hC hn hm hk
    exact wpAny_tests_nil ⟨rfl, s₂.heap, s₂.toks, rfl, fun _ _ e => e⟩
  · rintro C a v s₂ m₂ E' ha ⟨T, l, n, vs, ks, x, t, rfl, hT, hl, hI, hp, hw, hW⟩ _ hC hn hm hk
    dsimp only at hk
    have F2 := F8.keeps hk
    have N2 : News gg L s₂.heap [(T, ({ cls := .type "tuple", data := .seq #[.ref l, .ref x, .str (sOf (wordL a)) t] } : Obj))] := News.grown (news_sub N8 (sub_cons (.tail _ (.tail _ (.tail _ (.tail _ (List.mem_append_left _ (.tail _ hT)))))) sub_nil)) hk
    clear F8 N8 hC hPL hoff8
    refine wpAny_mono (Q := fun y s₃ => End ((∃ os, Fresh s₂.heap s₃.heap os ∧ IsStr (sOf (wordL a)) y) ∧ Keeps s₂ s₃)) ?_ (fun _ _ h => h.out) (fun _ _ h => h)
    repeat' (first | (k_unfold; (try dsimp only)) | (first | walk1 | (dsimp only; walk1)))
    exact End.mk ⟨⟨[], Fresh.nil, _, rfl⟩, _, _, rfl, Kp.refl _⟩
  intro D4 n4 ys4 objs4 h4 tk4 hk4 hD4 hgD4 hf4 hne4 hP4w
  dsimp only at hk4 hD4 hf4
  replace F8 := F8.keeps hk4
  replace N8 := N8.grown hk4
  have hP5 : Paired (fun row y => IsStr (sOf (wordL row)) y) (rowsOf tabs blanks) ys4.toList := by rw [List.filter_eq_self.mpr (fun _ _ => rfl)] at hP4w; exact hP4w
  have hLw : h4.IsList D4 ys4.toList.toArray := ⟨_, hgD4, rfl, n4, by simp⟩
  clear hk4 hD4 hf4 hne4 hP4w hgD4
  try dsimp only
  repeat' (first | (k_unfold; (try dsimp only)) | ((fail_if_success (with_reducible show wpAny _ _ (eval (Expr.ListComp _ _ _ _) _) _ _ _)); first | walk1 | (dsimp only; walk1)))
  k_dflt (refine lc_eval (as := rowsOf tabs blanks) (K := fun row v => RowG row v objsR) (pz := fun _ => true) (G := fun row y _ => IsStr (sOf (wordL row)) y) (fun _ _ _ _ _ h => h) (cl := []) ?_ ?_ ?_ ?_ ?_ ?_ ?_ ?_)
  case refine_1 => with_unfolding_all rfl
  case refine_2 => decide
  case refine_3 => rfl
  case refine_4 => decide
  case refine_5 => with_unfolding_all rfl
  case refine_6 => intro _; with_unfolding_all rfl
  case refine_7 => rw [sizeLine_eq]; exact Nat.le_trans (rowsOf_len hta hbl) (by decide)
  walk1
  refine ⟨⟨_, src_list rfl (N8.isList (.tail _ (.tail _ (.tail _ (.tail _ (List.mem_append_right _ (.head _))))))) hPR⟩, ⟨?_, ?_⟩, ?_⟩
  · intro C a v s₂ m₂ E' ha hK hC hn hm hk
    exact wpAny_tests_nil ⟨rfl, s₂.heap, s₂.toks, rfl, fun _ _ e => e⟩
  · rintro C a v s₂ m₂ E' ha ⟨l, n, vs, rfl, hl, hI⟩ _ hC hn hm hk
    dsimp only at hk
    have F2 := F8.keeps hk
    have N2 : News gg L s₂.heap [(l, W.listOf vs.toArray n)] := News.grown (news_sub N8 (sub_cons (.tail _ (.tail _ (.tail _ (.tail _ (List.mem_append_right _ (.tail _ (List.mem_append_left _ hl))))))) sub_nil)) hk
    obtain ⟨q1, q2⟩ := rowsOf_ok hta hbl a ha
    have q3 : a.length ≤ 4 := by omega
    clear F8 N8 hC hPR hPL hoff8 hLw
    refine wpAny_mono (Q := fun y s₃ => End ((∃ os, Fresh s₂.heap s₃.heap os ∧ IsStr (sOf (wordL a)) y) ∧ Keeps s₂ s₃)) ?_ (fun _ _ h => h.out) (fun _ _ h => h)
    repeat' (first | (k_unfold; (try dsimp only)) | ((fail_if_success (with_reducible show wpAny _ _ (eval (Expr.ListComp _ _ _ _) _) _ _ _)); first | walk1 | (dsimp only; walk1)))
    k_dflt (refine lc_eval (as := a) (K := IsInt) (pz := fun _ => true) (G := fun n y _ => IsStr (sOf [letter n]) y) (fun _ _ _ _ _ h => h) (cl := []) ?_ ?_ ?_ ?_ ?_ ?_ ?_ ?_)
    case refine_1 => with_unfolding_all rfl
    case refine_2 => decide
    case refine_3 => rfl
    case refine_4 => decide
    case refine_5 => with_unfolding_all rfl
    case refine_6 => intro _; with_unfolding_all rfl
    case refine_7 => rw [sizeLine_eq]; omega
    walk1
    refine ⟨⟨_, src_list rfl (N2.isList (.head _)) (ints_paired hI)⟩, ⟨?_, ?_⟩, ?_⟩
    · intro C2 a2 v2 s₃ m₃ E3 ha2 hK2 hC2 hn2 hm2 hk2
      exact wpAny_tests_nil ⟨rfl, s₃.heap, s₃.toks, rfl, fun _ _ e => e⟩
    · rintro C2 a2 v2 s₃ m₃ E3 ha2 ⟨ta2, rfl⟩ _ hC2 hn2 hm2 hk2
      dsimp only at hk2
      replace F2 := F2.keeps hk2
      replace N2 := N2.grown hk2
      clear hC2 hn hm
      have ha6 := q1 a2 ha2
      refine wpAny_mono (Q := fun y s₄ => End ((∃ os, Fresh s₃.heap s₄.heap os ∧ IsStr (sOf [letter a2]) y) ∧ Keeps s₃ s₄)) ?_ (fun _ _ h => h.out) (fun _ _ h => h)
      repeat' (first | (k_unfold; (try dsimp only)) | ((fail_if_success (with_reducible show wpAny _ _ (subscriptTail _ _ (Value.str _ _) (Value.int _ _)) _ _ _)); first | walk1 | (dsimp only; walk1)))
      refine it_letter ha6 ?_ (by with_unfolding_all rfl) (by intro _; with_unfolding_all rfl)
      try dsimp only
      repeat' (first | (k_unfold; (try dsimp only)) | (first | walk1 | (dsimp only; walk1)))
      exact End.mk ⟨⟨[], Fresh.nil, _, rfl⟩, _, _, rfl, Kp.refl _⟩
    intro D5 n5 ys5 objs5 h5 tk5 hk5 hD5 hgD5 hf5 hne5 hP5b
    dsimp only at hk5 hD5 hf5
    replace F2 := F2.keeps hk5
    replace N2 := N2.grown hk5
    have hP6 : Paired (fun n y => IsStr (sOf [letter n]) y) a ys5.toList := by rw [List.filter_eq_self.mpr (fun _ _ => rfl)] at hP5b; exact hP5b
    clear hD5 hf5 hne5 hP5b hn hm
    try dsimp only
    repeat' (first | (k_unfold; (try dsimp only)) | ((fail_if_success (with_reducible show wpAny _ _ (call (Value.builtin _) _) _ _ _)); first | walk1 | (dsimp only; walk1)))
    refine join_letters rfl hgD5 hP6 (by omega) ?_
    intro tj kj
    try dsimp only
    repeat' (first | (k_unfold; (try dsimp only)) | (first | walk1 | (dsimp only; walk1)))
    exact End.mk ⟨⟨[], Fresh.nil, _, rfl⟩, _, _, rfl, hk5⟩
  intro D6 n6 ys6 objs6 h6 tk6 hk6 hD6 hgD6 hf6 hne6 hP6w
  dsimp only at hk6 hD6 hf6
  replace F8 := F8.keeps hk6
  replace N8 := N8.grown hk6
  replace hLw := hk6.list hLw
  have hP7 : Paired (fun row y => IsStr (sOf (wordL row)) y) (rowsOf tabs blanks) ys6.toList := by rw [List.filter_eq_self.mpr (fun _ _ => rfl)] at hP6w; exact hP6w
  have hLw2 : h6.IsList D6 ys6.toList.toArray := ⟨_, hgD6, rfl, n6, by simp⟩
  clear hk6 hD6 hf6 hne6 hP6w hgD6
  try dsimp only
  repeat' (first | (k_unfold; (try dsimp only)) | ((fail_if_success (with_reducible show wpAny _ _ (compareOp _ _ _) _ _ _)); first | walk1 | (dsimp only; walk1)))
  refine ne_strs hLw hLw2 (strsAre (paired_map hP5)) (strsAre (paired_map hP7)) ok_words ok_words (lt_of_room (law_units _) (by decide)) ?_
  rw [decide_eq_true rfl]
  clear hLw hLw2 hP5 hP7
  try dsimp only
  repeat' (first | (k_unfold; (try dsimp only)) | ((fail_if_success (with_reducible show wpAny _ _ (exec (Stmt.While _ _ _ _) _) _ _ _)); first | walk1 | (dsimp only; walk1)))
  w_top off
  revert X'; k_fill; intro X'
  rename _ = Data.cell (some (Value.str _ _)) => dw
  rename Obj => oW
  obtain ⟨LW, hLW⟩ : ∃ LW : List (Addr × Obj), LW = ((DL, W.listOf ysL.toList.toArray nL) :: objsL ++ ((DR, W.listOf ysR.toArray nR) :: objsR ++ (D3, W.listOf ys3.toList.toArray n3) :: (D2, W.listOf [Value.int z0 t0, .int z1 t1, .int z2 t2, .int z3 t3].toArray n2) :: objsM)) := ⟨_, rfl⟩
  refine whl_start 0 (whl_inv (fun n s' => Ex11 fun rs objs o5 o4 ps DLc vsL nLc m h₁ tk₁ => And16 (s' = { heap := h₁, gens := s₁.gens, drawn := s₁.drawn, toks := tk₁, os := s₁.os }) (rs.length = n) (Rest tabs blanks rs) (Fr gg L h₁ m) (News gg L h₁ (led L o5 o4 oW ps objs)) (Off L objs) (TabL ps objs) ((∃ v4, o4.data = .cell v4)) ((∃ v5, o5.data = .cell v5)) ((D2, W.listOf [Value.int z0 t0, .int z1 t1, .int z2 t2, .int z3 t3].toArray n2) ∈ objs) (WsObj w.params (fun a o => (a, o) ∈ objs) xm (hist (runsOf [z0, z1, z2, z3])) 0 (runsOf [z0, z1, z2, z3]).length) (m (Str.ofString "left") = some (.ref DLc)) (m (Str.ofString "mark") = some (.ref xm)) (m (Str.ofString "totals") = some (.ref D2)) ((DLc, W.listOf (List.toArray vsL) nLc) ∈ objs) (Paired (fun r v => ItemR w.params r v objs) rs vsL)) ?_ ?_ (rowsOf tabs blanks).length _ ?_ _)
  · exact hPO
  rotate_right
  · subst hLW
    refine ⟨rowsOf tabs blanks, _, _, _, _, DL, ysL.toList, nL, _, _, _, rfl, rfl, ⟨fun r h => h, fun _ _ r' h _ => h, rowsOf_len hta hbl⟩, F8, N8, hoff8, .inl rfl, ⟨_, c4'⟩, ⟨_, c5'⟩, ?_, ?_, rfl, rfl, rfl, List.mem_append_left _ (.head _), ?_⟩
    · exact List.mem_append_right _ (List.mem_append_right _ (.tail _ (.head _)))
    · exact WM.mono fun _ _ h => List.mem_append_right _ (List.mem_append_right _ (.tail _ (.tail _ h)))
    · exact paired_mono (fun r v => ItemR.mono r v _ _ fun p h => List.mem_append_left _ (.tail _ h)) hPL
  clear F8 N8 hLW hoff8 hPL LW WM hPR hP4
  rintro n s' ⟨rs, objs, o5, o4, ps, DLc, vsL, nLc, m, h₁, tk₁, rfl, hn, hR, F1, N1, hoff, hTL, ⟨v4, hv4⟩, ⟨v5, hv5⟩, hD2m, hWM, m1, m2, m3, hDLm, hPI⟩ ih
  rw [pin3 m1 m2 m3] at F1
  clear m1 m2 m3
  have hlv := paired_len hPI
  have hlr := hR.len
  try dsimp only
  repeat' (first | (k_unfold; (try dsimp only)) | ((fail_if_success (with_reducible show wpAny _ _ (truthy _) _ _ _)); first | walk1 | (dsimp only; walk1)))
  refine truthy_G ⟨_, (N1 _ (.tail _ (.tail _ (.tail _ (.tail _ hDLm))))).1, rfl, nLc, rfl⟩ (by omega) ?_
  rcases rs with _ | ⟨r0, rs⟩
  · cases hPI
    simp only [List.isEmpty_nil, Bool.not_true]
    repeat' (first | (k_unfold; (try dsimp only)) | (first | walk1 | (dsimp only; walk1)))
    exact hret _ ⟨_, _, _, _, rfl, F1, ps, (N1 _ (.tail _ (.tail _ (.tail _ (.head _))))).1⟩
  rcases hPI with _ | ⟨hI0, hPI⟩
  rename_i v0 vs0
  obtain ⟨T0, l0', nl0, vl0, ks0, x0, tx0, rfl, hT0, hl0, hi0, hp0, hw0, hW0⟩ := id hI0
  obtain ⟨N2, hoff2⟩ := led_front N1 hoff (xs := [(DLc, W.listOf (Value.ref T0 :: vs0).toArray nLc), (T0, ({ cls := .type "tuple", data := .seq #[.ref l0', .ref x0, .str (sOf (wordL r0)) tx0] } : Obj)), (D2, W.listOf [Value.int z0 t0, .int z1 t1, .int z2 t2, .int z3 t3].toArray n2)]) (sub_cons (hDLm) (sub_cons (hT0) (sub_cons (hD2m) sub_nil)))
  simp only [List.cons_append, List.nil_append] at N2 hoff2
  clear N1
  simp only [List.isEmpty_cons, Bool.not_false]
  repeat' (first | (k_unfold; (try dsimp only)) | ((fail_if_success (with_reducible show wpAny _ _ (call (Value.ref _) _) _ _ _)); first | (first | ((with_reducible show wpAny _ _ (subscriptTail _ _ (Value.ref _) (Value.int _ _)) _ _ _); k_dflt (refine item_listL (News.isList (by k_asm) (by k_mem)) (by decide) (by decide) rfl ?_)) | ((with_reducible show wpAny _ _ (storeName _ _ _) _ _ _); k_dflt (refine' storeX_C ?stS9F ?stS9N ?stS9c (upd_kind (by assumption) (by assumption)) ?stS9d ?_ ?stS9a ?stS9b; (case stS9a => rfl); (case stS9b => rfl); (case stS9F => k_asm); (case stS9N => k_asm); (case stS9c => rfl); (case stS9d => k_asm); k_whole; intro h' o' F' N' d')) | walk1) | (dsimp only; (first | ((with_reducible show wpAny _ _ (subscriptTail _ _ (Value.ref _) (Value.int _ _)) _ _ _); k_dflt (refine item_listL (News.isList (by k_asm) (by k_mem)) (by decide) (by decide) rfl ?_)) | ((with_reducible show wpAny _ _ (storeName _ _ _) _ _ _); k_dflt (refine' storeX_C ?F ?N ?c (upd_kind (by assumption) (by assumption)) ?d ?_ ?a ?b; (case a => rfl); (case b => rfl); (case F => k_asm); (case N => k_asm); (case c => rfl); (case d => k_asm); k_whole; intro h' o' F' N' d')) | walk1))))
  w_top off
  revert X'; k_fill; intro X'
  rename _ = Data.cell (some (Value.ref l0')) => dk
  rename Obj => oK
  rename Fr _ _ _ _ => F3
  rename News _ _ _ (led _ _ oK _ _ _) => N3
  obtain ⟨q1, q2⟩ := rowsOf_ok hta hbl r0 (hR.sub r0 (.head _))
  have q3 := hist_len q1
  have q4 := hist_len hro
  refine over3w (s₀ := s₁) K' X' T' F3 N3 rfl rfl rfl fun g2 G2 kg2 K2 Fr2 => ?_
  have hsub : ∀ a o, (a, o) ∈ objs → (a, o) ∈ led L o5 oK oW ps ((DLc, W.listOf (Value.ref T0 :: vs0).toArray nLc) :: (T0, ({ cls := .type "tuple", data := .seq #[.ref l0', .ref x0, .str (sOf (wordL r0)) tx0] } : Obj)) :: (D2, W.listOf [Value.int z0 t0, .int z1 t1, .int z2 t2, .int z3 t3].toArray n2) :: objs) :=
    fun a o h => .tail _ (.tail _ (.tail _ (.tail _ (.tail _ (.tail _ (.tail _ h))))))
  refine due_call G2 K2 Fr2 (lt_of_room (law_room _) (by decide)) (lt_of_room (law_units _) (by decide)) (hWM.mono hsub) (hW0.mono hsub) q4 q3 ?_
  intro td hd1 tkd kd
  replace F3 := F3.keeps kd
  replace N3 := N3.grown kd
  clear G2 K2 Fr2 kg2 g2 hsub kd N2 F1 hoff6 hoff9 c3' c4' c5'
  try dsimp only
  repeat' (first | (k_unfold; (try dsimp only)) | ((fail_if_success (with_reducible show wpAny _ _ (exec (Stmt.Assign _ (Expr.ListComp _ _ _ _) _) _) _ _ _)); first | (first | ((with_reducible show wpAny _ _ (subscriptTail _ _ (Value.ref _) (Value.int _ _)) _ _ _); k_dflt (refine item_listL (News.isList (by k_asm) (by k_mem)) (by decide) (by decide) rfl ?_)) | ((with_reducible show wpAny _ _ (storeName _ _ _) _ _ _); k_dflt (refine' storeX_C ?stS10F ?stS10N ?stS10c (upd_bound (by assumption) (by assumption)) ?stS10d ?_ ?stS10a ?stS10b; (case stS10a => rfl); (case stS10b => rfl); (case stS10F => k_asm); (case stS10N => k_asm); (case stS10c => rfl); (case stS10d => k_asm); k_whole; intro h' o' F' N' d')) | walk1) | (dsimp only; (first | ((with_reducible show wpAny _ _ (subscriptTail _ _ (Value.ref _) (Value.int _ _)) _ _ _); k_dflt (refine item_listL (News.isList (by k_asm) (by k_mem)) (by decide) (by decide) rfl ?_)) | ((with_reducible show wpAny _ _ (storeName _ _ _) _ _ _); k_dflt (refine' storeX_C ?F ?N ?c (upd_bound (by assumption) (by assumption)) ?d ?_ ?a ?b; (case a => rfl); (case b => rfl); (case F => k_asm); (case N => k_asm); (case c => rfl); (case d => k_asm); k_whole; intro h' o' F' N' d')) | walk1))))
  w_top off
  revert X'; k_fill; intro X'
  rename Obj => oB
  rename (oB.data = Data.cell (some (Value.int _ _))) => db
  rename Fr gg L _ _ => F4
  rename News gg L _ (led L oB oK oW ps _) => N4
  obtain ⟨tb, db⟩ : ∃ tb, oB.data = .cell (some (.int (due2 (hist (runsOf [z0, z1, z2, z3])) (hist r0) (runsOf [z0, z1, z2, z3]).length r0.length - 1 + (z2.fdiv 7).fmod 3) tb)) := ⟨_, db⟩
  have hcc : 0 ≤ (z2.fdiv 7).fmod 3 := Int.fmod_nonneg_of_pos _ (by decide)
  generalize (z2.fdiv 7).fmod 3 = cc at db hcc
  have hPA : Paired (fun r v => ItemR w.params r v objs) (r0 :: rs) (Value.ref T0 :: vs0) := .cons hI0 hPI
  have hnn : ∀ r ∈ r0 :: rs, ∀ n ∈ r, 0 ≤ n := fun r hr n hn => ((rowsOf_ok hta hbl r (hR.sub r hr)).1 n hn).1
  clear hPI
  k_dflt (refine lc_assign (as := r0 :: rs) (K := fun r v => ItemR w.params r v objs) (pz := fun r => decide (hist r = hist r0)) (G := fun r y _ => IsStr (sOf (wordL r)) y) (fun _ _ _ _ _ h => h) (cl := [(Str.ofString "kind", L + 1 + 1 + 1 + 1)]) ?_ ?_ ?_ ?_ ?_ ?_ ?_ ?_ ?_ ?_ ?_)
  case refine_1 => with_unfolding_all rfl
  case refine_2 => with_unfolding_all rfl
  case refine_3 => decide
  case refine_4 => rfl
  case refine_5 => decide
  case refine_6 => with_unfolding_all rfl
  case refine_7 => with_unfolding_all rfl
  case refine_8 => with_unfolding_all rfl
  case refine_9 => intro _; with_unfolding_all rfl
  case refine_10 => rw [sizeLine_eq]; exact Nat.le_trans hR.len (by decide)
  walk1
  refine ⟨⟨_, src_list rfl (N4.isList (.tail _ (.tail _ (.tail _ (.tail _ (.head _)))))) hPA⟩, ⟨?_, ?_⟩, _, F4.ns, ?_⟩
  · rintro C a v s₂ m₂ E' ha ⟨T, l, n', vs, ks, x, t, rfl, hT, hl, hI, hp, hw, hW⟩ hC hn2 hm hk
    dsimp only at hk
    have F2 := F4.keeps hk
    have N2 : News gg L s₂.heap [(L + 1 + 1 + 1 + 1, oK), (T, ({ cls := .type "tuple", data := .seq #[.ref l, .ref x, .str (sOf (wordL a)) t] } : Obj)), (l, W.listOf vs.toArray n'), (l0', W.listOf vl0.toArray nl0)] := News.grown (news_sub N4 (sub_cons (.tail _ (.head _)) (sub_cons (.tail _ (.tail _ (.tail _ (.tail _ (.tail _ (.tail _ (.tail _ hT))))))) (sub_cons (.tail _ (.tail _ (.tail _ (.tail _ (.tail _ (.tail _ (.tail _ hl))))))) (sub_cons (.tail _ (.tail _ (.tail _ (.tail _ (.tail _ (.tail _ (.tail _ hl0))))))) sub_nil))))) hk
    clear F4 N4 hC hPA
    refine wpAny_tests_one ?_
    refine wpAny_mono (Q := fun ok s₃ => End (ok = decide (hist a = hist r0) ∧ Keeps s₂ s₃)) ?_ (fun _ _ h => h.out) (fun _ _ h => h)
    repeat' (first | (k_unfold; (try dsimp only)) | ((fail_if_success (with_reducible show wpAny _ _ (compareOp _ _ _) _ _ _)); first | walk1 | (dsimp only; walk1)))
    refine ke_eq_ints (N2.isList (.tail _ (.tail _ (.head _)))) (N2.isList (.tail _ (.tail _ (.tail _ (.head _))))) hI hi0 (lt_of_room (law_units _) (by decide)) ?_
    rw [kind_hist (hnn a ha) (hnn r0 (.head _)) hp hp0 hw hw0]
    repeat' (first | (k_unfold; (try dsimp only)) | (first | walk1 | (dsimp only; walk1)))
    exact End.mk ⟨rfl, _, _, rfl, Kp.refl _⟩
  · rintro C a v s₂ m₂ E' ha ⟨T, l, n', vs, ks, x, t, rfl, hT, hl, hI, hp, hw, hW⟩ _ hC hn2 hm hk
    dsimp only at hk
    have F2 := F4.keeps hk
    have N2 : News gg L s₂.heap [(T, ({ cls := .type "tuple", data := .seq #[.ref l, .ref x, .str (sOf (wordL a)) t] } : Obj))] := News.grown (news_sub N4 (sub_cons (.tail _ (.tail _ (.tail _ (.tail _ (.tail _ (.tail _ (.tail _ hT))))))) sub_nil)) hk
    clear F4 N4 hC hPA
    refine wpAny_mono (Q := fun y s₃ => End ((∃ os, Fresh s₂.heap s₃.heap os ∧ IsStr (sOf (wordL a)) y) ∧ Keeps s₂ s₃)) ?_ (fun _ _ h => h.out) (fun _ _ h => h)
    repeat' (first | (k_unfold; (try dsimp only)) | (first | walk1 | (dsimp only; walk1)))
    exact End.mk ⟨⟨[], Fresh.nil, _, rfl⟩, _, _, rfl, Kp.refl _⟩
  intro DA nA ysA objsA hA tkA hkA hnA hDA hgDA hfA hneA hPAl
  dsimp only at hkA hnA hDA hfA
  obtain ⟨F5, N5⟩ := after_assign F4 N4 hkA hnA (fresh1 (show hA.get? DA = some (W.listOf ysA.toList.toArray nA) by rw [Array.toArray_toList]; exact hgDA) hDA)
  have hoff5 := (off_fresh N4 (fresh1 (show hA.get? DA = some (W.listOf ysA.toList.toArray nA) by rw [Array.toArray_toList]; exact hgDA) hDA)).app hoff2
  replace N5 := led_add N5
  simp only [List.cons_append, List.nil_append] at N5 hoff5
  clear F4 N4 hkA hnA hDA hgDA hfA hneA hoff2
  try dsimp only
  repeat' (first | (k_unfold; (try dsimp only)) | ((fail_if_success (with_reducible show wpAny _ _ (exec (Stmt.Assign _ (Expr.ListComp _ _ _ _) _) _) _ _ _)); first | walk1 | (dsimp only; walk1)))
  w_top off
  revert X'; k_fill; intro X'
  k_dflt (refine lc_assign (as := r0 :: rs) (K := fun r v => ItemR w.params r v objs) (pz := fun r => !decide (hist r = hist r0)) (G := fun r y _ => ItemR w.params r y objs) (fun _ _ _ _ _ h => h) (cl := [(Str.ofString "kind", L + 1 + 1 + 1 + 1)]) ?_ ?_ ?_ ?_ ?_ ?_ ?_ ?_ ?_ ?_ ?_)
  case refine_1 => with_unfolding_all rfl
  case refine_2 => with_unfolding_all rfl
  case refine_3 => decide
  case refine_4 => rfl
  case refine_5 => decide
  case refine_6 => with_unfolding_all rfl
  case refine_7 => with_unfolding_all rfl
  case refine_8 => with_unfolding_all rfl
  case refine_9 => intro _; with_unfolding_all rfl
  case refine_10 => rw [sizeLine_eq]; exact Nat.le_trans hR.len (by decide)
  walk1
  refine ⟨⟨_, src_list rfl (N5.isList (.tail _ (.tail _ (.tail _ (.tail _ (.tail _ (.head _))))))) hPA⟩, ⟨?_, ?_⟩, _, F5.ns, ?_⟩
  · rintro C a v s₂ m₂ E' ha ⟨T, l, n', vs, ks, x, t, rfl, hT, hl, hI, hp, hw, hW⟩ hC hn2 hm hk
    dsimp only at hk
    have F2 := F5.keeps hk
    have N2 : News gg L s₂.heap [(L + 1 + 1 + 1 + 1, oK), (T, ({ cls := .type "tuple", data := .seq #[.ref l, .ref x, .str (sOf (wordL a)) t] } : Obj)), (l, W.listOf vs.toArray n'), (l0', W.listOf vl0.toArray nl0)] := News.grown (news_sub N5 (sub_cons (.tail _ (.head _)) (sub_cons (.tail _ (.tail _ (.tail _ (.tail _ (.tail _ (.tail _ (.tail _ (.tail _ hT)))))))) (sub_cons (.tail _ (.tail _ (.tail _ (.tail _ (.tail _ (.tail _ (.tail _ (.tail _ hl)))))))) (sub_cons (.tail _ (.tail _ (.tail _ (.tail _ (.tail _ (.tail _ (.tail _ (.tail _ hl0)))))))) sub_nil))))) hk
    clear F5 N5 hC hPA
    refine wpAny_tests_one ?_
    refine wpAny_mono (Q := fun ok s₃ => End (ok = (!decide (hist a = hist r0)) ∧ Keeps s₂ s₃)) ?_ (fun _ _ h => h.out) (fun _ _ h => h)
    repeat' (first | (k_unfold; (try dsimp only)) | ((fail_if_success (with_reducible show wpAny _ _ (compareOp _ _ _) _ _ _)); first | walk1 | (dsimp only; walk1)))
    refine ke_ne_ints (N2.isList (.tail _ (.tail _ (.head _)))) (N2.isList (.tail _ (.tail _ (.tail _ (.head _))))) hI hi0 (lt_of_room (law_units _) (by decide)) ?_
    rw [kind_hist (hnn a ha) (hnn r0 (.head _)) hp hp0 hw hw0]
    repeat' (first | (k_unfold; (try dsimp only)) | (first | walk1 | (dsimp only; walk1)))
    exact End.mk ⟨rfl, _, _, rfl, Kp.refl _⟩
  · rintro C a v s₂ m₂ E' ha hIt _ hC hn2 hm hk
    dsimp only at hk
    have F2 := F5.keeps hk
    have N2 : News gg L s₂.heap [] := News.nil
    clear F5 N5 hC hPA
    refine wpAny_mono (Q := fun y s₃ => End ((∃ os, Fresh s₂.heap s₃.heap os ∧ ItemR w.params a y objs) ∧ Keeps s₂ s₃)) ?_ (fun _ _ h => h.out) (fun _ _ h => h)
    repeat' (first | (k_unfold; (try dsimp only)) | (first | walk1 | (dsimp only; walk1)))
    exact End.mk ⟨⟨[], Fresh.nil, hIt⟩, _, _, rfl, Kp.refl _⟩
  intro DB nB ysB objsB hB tkB hkB hnB hDB hgDB hfB hneB hPBp
  dsimp only at hkB hnB hDB hfB
  have hfB2 := fresh1 (show hB.get? DB = some (W.listOf ysB.toList.toArray nB) by rw [Array.toArray_toList]; exact hgDB) hDB
  obtain ⟨F6, N6⟩ := after_assign F5 N5 hkB hnB hfB2
  have hoff6 := (off_fresh N5 hfB2).app hoff5
  replace N6 := led_add N6
  simp only [List.cons_append, List.nil_append] at N6 hoff6
  clear F5 N5 hkB hnB hDB hgDB hfB hneB hfB2 hoff5
  try dsimp only
  repeat' (first | (k_unfold; (try dsimp only)) | ((fail_if_success (with_reducible show wpAny _ _ (call (Value.ref _) _) _ _ _)); first | (first | ((with_reducible show wpAny _ _ (subscriptTail _ _ (Value.ref _) (Value.int _ _)) _ _ _); k_dflt (refine item_listL (News.isList (by k_asm) (by k_mem)) (by decide) (by decide) rfl ?_)) | walk1) | (dsimp only; (first | ((with_reducible show wpAny _ _ (subscriptTail _ _ (Value.ref _) (Value.int _ _)) _ _ _); k_dflt (refine item_listL (News.isList (by k_asm) (by k_mem)) (by decide) (by decide) rfl ?_)) | walk1))))
  w_top off
  revert X'; k_fill; intro X'
  refine over3w (s₀ := s₁) K' X' T' F6 N6 rfl rfl rfl fun g2 G2 kg2 K2 Fr2 => ?_
  refine mkeq_call (objs := (DB, W.listOf ysB.toList.toArray nB) :: (DA, W.listOf ysA.toList.toArray nA) :: (DLc, W.listOf (Value.ref T0 :: vs0).toArray nLc) :: (T0, ({ cls := .type "tuple", data := .seq #[.ref l0', .ref x0, .str (sOf (wordL r0)) tx0] } : Obj)) :: (D2, W.listOf [Value.int z0 t0, .int z1 t1, .int z2 t2, .int z3 t3].toArray n2) :: objs)
    G2 K2 (Fr2 _ (.tail _ (.tail _ (.tail _ (.head _))))).2 (codeHd.keeps kg2) (N6 _ (.tail _ (.tail _ (.tail _ (.head _))))).1 (hTL.mono fun p h => .tail _ (.tail _ (.tail _ (.tail _ (.tail _ h))))) (fun p hp => (N6 p (.tail _ (.tail _ (.tail _ (.tail _ hp))))).1)
    (lt_of_room (law_room _) (by decide)) (lt_of_room (law_units _) (by decide)) ?_
  intro fL hq tkq psq objsq hkq htq hfq hTLq hLam
  dsimp only at hkq hfq
  obtain ⟨F7, N7, hoff7⟩ := after_mkeq F6 N6 hoff6 l0 hkq htq hfq
  clear F6 N6 hoff6 hkq htq hfq G2 kg2 K2 Fr2 g2 hTL
  try dsimp only
  repeat' (first | (k_unfold; (try dsimp only)) | ((fail_if_success (with_reducible show wpAny _ _ (call (Value.ref _) _) _ _ _)); first | walk1 | (dsimp only; walk1)))
  refine over3w (s₀ := s₁) K' X' T' F7 N7 rfl rfl rfl fun g2 G2 kg2 K2 Fr2 => ?_
  have hin : ∀ p ∈ objs, p ∈ led L oB oK oW psq (objsq ++ (DB, W.listOf ysB.toList.toArray nB) :: (DA, W.listOf ysA.toList.toArray nA) :: (DLc, W.listOf (Value.ref T0 :: vs0).toArray nLc) :: (T0, ({ cls := .type "tuple", data := .seq #[.ref l0', .ref x0, .str (sOf (wordL r0)) tx0] } : Obj)) :: (D2, W.listOf [Value.int z0 t0, .int z1 t1, .int z2 t2, .int z3 t3].toArray n2) :: objs) :=
    fun p hp => .tail _ (.tail _ (.tail _ (.tail _ (List.mem_append_right _ (.tail _ (.tail _ (.tail _ (.tail _ (.tail _ hp)))))))))
  refine split_call (as := r0 :: rs) (cs := hist) (nt := fun r => (r.length : Int)) (fun r v => ItemR w.params r v objs) G2 K2 Fr2 (lt_of_room (law_room _) (by decide)) (lt_of_room (law_units _) (by decide))
    (.tail _ (.tail _ (.tail _ (.tail _ (List.mem_append_right _ (.tail _ (.tail _ (.head _)))))))) hPA (fun a v _ => item_gr hin) (fun a ha => hist_len (rowsOf_ok hta hbl a (hR.sub a ha)).1) hR.len
    (hLam.mono fun a o h => .tail _ (.tail _ (.tail _ (.tail _ h)))) (hW0.mono fun a o h => hin _ h) q3 ?_
  intro TT YY NN ysY nsN k1 k2 hs tks hks hfs hYp hNp
  dsimp only at hks hfs
  obtain ⟨F8, N8⟩ := after_expr F7 N7 hks hfs
  have hoff8 := (off_fresh N7 hfs).app hoff7
  replace N8 := led_add N8
  simp only [List.cons_append, List.nil_append] at N8 hoff8
  clear F7 N7 hoff7 hks hfs G2 kg2 K2 Fr2 g2 hin hLam
  try dsimp only
  repeat' (first | (k_unfold; (try dsimp only)) | ((fail_if_success (with_reducible show wpAny _ _ (eval (Expr.ListComp _ _ _ _) _) _ _ _)); first | walk1 | (dsimp only; walk1)))
  w_top off
  revert X'; k_fill; intro X'
  rename Fr gg L _ _ => F9
  rename News gg L _ (led L oB oK oW psq _) => N9
  have hfl : ((r0 :: rs).filter fun a => decide (hist a = hist r0)).length ≤ 64 := Nat.le_trans (List.length_filter_le _ _) hR.len
  have hfn : ((r0 :: rs).filter fun a => !decide (hist a = hist r0)).length ≤ 64 := Nat.le_trans (List.length_filter_le _ _) hR.len
  k_dflt (refine lc_eval (as := ((r0 :: rs).filter fun a => decide (hist a = hist r0))) (K := fun r v => ItemR w.params r v objs) (pz := fun _ => true) (G := fun row y _ => IsStr (sOf (wordL row)) y) (fun _ _ _ _ _ h => h) (cl := []) ?_ ?_ ?_ ?_ ?_ ?_ ?_ ?_)
  case refine_1 => with_unfolding_all rfl
  case refine_2 => decide
  case refine_3 => rfl
  case refine_4 => decide
  case refine_5 => with_unfolding_all rfl
  case refine_6 => intro _; with_unfolding_all rfl
  case refine_7 => rw [sizeLine_eq]; exact Nat.le_trans hfl (by decide)
  walk1
  refine ⟨⟨_, src_list rfl (N9.isList (.tail _ (.tail _ (.tail _ (.tail _ (.tail _ (.head _))))))) hYp⟩, ⟨?_, ?_⟩, ?_⟩
  · intro C a v s₂ m₂ E' ha hK hC hn hm hk
    exact wpAny_tests_nil ⟨rfl, s₂.heap, s₂.toks, rfl, fun _ _ e => e⟩
  · rintro C a v s₂ m₂ E' ha ⟨T, l, n', vs, ks, x, t, rfl, hT, hl, hI, hp, hw, hW⟩ _ hC hn2 hm hk
    dsimp only at hk
    have F2 := F9.keeps hk
    have N2 : News gg L s₂.heap [(T, ({ cls := .type "tuple", data := .seq #[.ref l, .ref x, .str (sOf (wordL a)) t] } : Obj))] := News.grown (news_sub N9 (sub_cons (.tail _ (.tail _ (.tail _ (.tail _ (.tail _ (.tail _ (.tail _ (List.mem_append_right _ (.tail _ (.tail _ (.tail _ (.tail _ (.tail _ hT))))))))))))) sub_nil)) hk
    clear F9 N9 hC
    refine wpAny_mono (Q := fun y s₃ => End ((∃ os, Fresh s₂.heap s₃.heap os ∧ IsStr (sOf (wordL a)) y) ∧ Keeps s₂ s₃)) ?_ (fun _ _ h => h.out) (fun _ _ h => h)
    repeat' (first | (k_unfold; (try dsimp only)) | (first | walk1 | (dsimp only; walk1)))
    exact End.mk ⟨⟨[], Fresh.nil, _, rfl⟩, _, _, rfl, Kp.refl _⟩
  intro E1 n1' ys1' os1' h1' tk1' hk1' hD1' hg1' hf1' hne1' hP1'
  dsimp only at hk1' hD1' hf1'
  replace F9 := F9.keeps hk1'
  replace N9 := N9.grown hk1'
  rw [List.filter_eq_self.mpr (fun _ _ => rfl)] at hP1'
  have hL1' : h1'.IsList E1 ys1'.toList.toArray := ⟨_, hg1', rfl, n1', by simp⟩
  clear hk1' hD1' hg1' hf1' hne1'
  try dsimp only
  repeat' (first | (k_unfold; (try dsimp only)) | ((fail_if_success (with_reducible show wpAny _ _ (eval (Expr.ListComp _ _ _ _) _) _ _ _)); (fail_if_success (with_reducible show wpAny _ _ (compareOp _ _ _) _ _ _)); first | walk1 | (dsimp only; walk1)))
  refine ne_strs hL1' (N9.isList (.tail _ (.tail _ (.tail _ (.tail _ (.tail _ (.tail _ (.tail _ (List.mem_append_right _ (.tail _ (.head _))))))))))) (strsAre (paired_map hP1')) (strsAre (paired_map hPAl)) ok_words ok_words (lt_of_room (law_units _) (by decide)) ?_
  rw [decide_eq_true rfl]
  clear hL1' hP1' hPAl
  try dsimp only
  repeat' (first | (k_unfold; (try dsimp only)) | ((fail_if_success (with_reducible show wpAny _ _ (eval (Expr.ListComp _ _ _ _) _) _ _ _)); (fail_if_success (with_reducible show wpAny _ _ (compareOp _ _ _) _ _ _)); first | walk1 | (dsimp only; walk1)))
  k_dflt (refine lc_eval (as := ((r0 :: rs).filter fun a => !decide (hist a = hist r0))) (K := fun r v => ItemR w.params r v objs) (pz := fun _ => true) (G := fun row y _ => IsStr (sOf (wordL row)) y) (fun _ _ _ _ _ h => h) (cl := []) ?_ ?_ ?_ ?_ ?_ ?_ ?_ ?_)
  case refine_1 => with_unfolding_all rfl
  case refine_2 => decide
  case refine_3 => rfl
  case refine_4 => decide
  case refine_5 => with_unfolding_all rfl
  case refine_6 => intro _; with_unfolding_all rfl
  case refine_7 => rw [sizeLine_eq]; exact Nat.le_trans hfn (by decide)
  walk1
  refine ⟨⟨_, src_list rfl (N9.isList (.tail _ (.tail _ (.tail _ (.tail _ (.tail _ (.tail _ (.head _)))))))) hNp⟩, ⟨?_, ?_⟩, ?_⟩
  · intro C a v s₂ m₂ E' ha hK hC hn hm hk
    exact wpAny_tests_nil ⟨rfl, s₂.heap, s₂.toks, rfl, fun _ _ e => e⟩
  · rintro C a v s₂ m₂ E' ha ⟨T, l, n', vs, ks, x, t, rfl, hT, hl, hI, hp, hw, hW⟩ _ hC hn2 hm hk
    dsimp only at hk
    have F2 := F9.keeps hk
    have N2 : News gg L s₂.heap [(T, ({ cls := .type "tuple", data := .seq #[.ref l, .ref x, .str (sOf (wordL a)) t] } : Obj))] := News.grown (news_sub N9 (sub_cons (.tail _ (.tail _ (.tail _ (.tail _ (.tail _ (.tail _ (.tail _ (List.mem_append_right _ (.tail _ (.tail _ (.tail _ (.tail _ (.tail _ hT))))))))))))) sub_nil)) hk
    clear F9 N9 hC
    refine wpAny_mono (Q := fun y s₃ => End ((∃ os, Fresh s₂.heap s₃.heap os ∧ IsStr (sOf (wordL a)) y) ∧ Keeps s₂ s₃)) ?_ (fun _ _ h => h.out) (fun _ _ h => h)
    repeat' (first | (k_unfold; (try dsimp only)) | (first | walk1 | (dsimp only; walk1)))
    exact End.mk ⟨⟨[], Fresh.nil, _, rfl⟩, _, _, rfl, Kp.refl _⟩
  intro E2 n2' ys2' os2' h2' tk2' hk2' hD2' hg2' hf2' hne2' hP2'
  dsimp only at hk2' hD2' hf2'
  replace F9 := F9.keeps hk2'
  replace N9 := N9.grown hk2'
  rw [List.filter_eq_self.mpr (fun _ _ => rfl)] at hP2'
  have hL2' : h2'.IsList E2 ys2'.toList.toArray := ⟨_, hg2', rfl, n2', by simp⟩
  clear hk2' hD2' hg2' hf2' hne2'
  try dsimp only
  repeat' (first | (k_unfold; (try dsimp only)) | ((fail_if_success (with_reducible show wpAny _ _ (eval (Expr.ListComp _ _ _ _) _) _ _ _)); (fail_if_success (with_reducible show wpAny _ _ (compareOp _ _ _) _ _ _)); first | walk1 | (dsimp only; walk1)))
  k_dflt (refine lc_eval (as := ((r0 :: rs).filter fun a => !decide (hist a = hist r0))) (K := fun r v => ItemR w.params r v objs) (pz := fun _ => true) (G := fun row y _ => IsStr (sOf (wordL row)) y) (fun _ _ _ _ _ h => h) (cl := []) ?_ ?_ ?_ ?_ ?_ ?_ ?_ ?_)
  case refine_1 => with_unfolding_all rfl
  case refine_2 => decide
  case refine_3 => rfl
  case refine_4 => decide
  case refine_5 => with_unfolding_all rfl
  case refine_6 => intro _; with_unfolding_all rfl
  case refine_7 => rw [sizeLine_eq]; exact Nat.le_trans hfn (by decide)
  walk1
  refine ⟨⟨_, src_list rfl (N9.isList (.tail _ (.tail _ (.tail _ (.tail _ (.tail _ (.tail _ (.tail _ (List.mem_append_right _ (.head _)))))))))) hPBp⟩, ⟨?_, ?_⟩, ?_⟩
  · intro C a v s₂ m₂ E' ha hK hC hn hm hk
    exact wpAny_tests_nil ⟨rfl, s₂.heap, s₂.toks, rfl, fun _ _ e => e⟩
  · rintro C a v s₂ m₂ E' ha ⟨T, l, n', vs, ks, x, t, rfl, hT, hl, hI, hp, hw, hW⟩ _ hC hn2 hm hk
    dsimp only at hk
    have F2 := F9.keeps hk
    have N2 : News gg L s₂.heap [(T, ({ cls := .type "tuple", data := .seq #[.ref l, .ref x, .str (sOf (wordL a)) t] } : Obj))] := News.grown (news_sub N9 (sub_cons (.tail _ (.tail _ (.tail _ (.tail _ (.tail _ (.tail _ (.tail _ (List.mem_append_right _ (.tail _ (.tail _ (.tail _ (.tail _ (.tail _ hT))))))))))))) sub_nil)) hk
    clear F9 N9 hC
    refine wpAny_mono (Q := fun y s₃ => End ((∃ os, Fresh s₂.heap s₃.heap os ∧ IsStr (sOf (wordL a)) y) ∧ Keeps s₂ s₃)) ?_ (fun _ _ h => h.out) (fun _ _ h => h)
    repeat' (first | (k_unfold; (try dsimp only)) | (first | walk1 | (dsimp only; walk1)))
    exact End.mk ⟨⟨[], Fresh.nil, _, rfl⟩, _, _, rfl, Kp.refl _⟩
  intro E3 n3' ys3' os3' h3' tk3' hk3' hD3' hg3' hf3' hne3' hP3'
  dsimp only at hk3' hD3' hf3'
  replace F9 := F9.keeps hk3'
  replace N9 := N9.grown hk3'
  replace hL2' := hk3'.list hL2'
  rw [List.filter_eq_self.mpr (fun _ _ => rfl)] at hP3'
  have hL3' : h3'.IsList E3 ys3'.toList.toArray := ⟨_, hg3', rfl, n3', by simp⟩
  clear hk3' hD3' hg3' hf3' hne3'
  try dsimp only
  repeat' (first | (k_unfold; (try dsimp only)) | ((fail_if_success (with_reducible show wpAny _ _ (eval (Expr.ListComp _ _ _ _) _) _ _ _)); (fail_if_success (with_reducible show wpAny _ _ (compareOp _ _ _) _ _ _)); first | walk1 | (dsimp only; walk1)))
  refine ne_strs hL2' hL3' (strsAre (paired_map hP2')) (strsAre (paired_map hP3')) ok_words ok_words (lt_of_room (law_units _) (by decide)) ?_
  rw [decide_eq_true rfl]
  clear hL2' hP2' hL3' hP3' hPBp
  try dsimp only
  repeat' (first | (k_unfold; (try dsimp only)) | ((fail_if_success (with_reducible show wpAny _ _ (eval (Expr.ListComp _ _ _ _) _) _ _ _)); (fail_if_success (with_reducible show wpAny _ _ (compareOp _ _ _) _ _ _)); first | walk1 | (dsimp only; walk1)))
  w_top off
  revert X'; k_fill; intro X'
  k_dflt (refine lc_eval (as := (r0 :: rs).filter fun a => decide (hist a = hist r0)) (K := fun r v => ItemR w.params r v objs) (pz := fun _ => true) (G := fun row y _ => ∃ z, IsInt z y ∧ LevRes (wordL (runsOf [z0, z1, z2, z3])) (wordL row) (due2 (hist (runsOf [z0, z1, z2, z3])) (hist r0) (runsOf [z0, z1, z2, z3]).length r0.length - 1 + cc) z) (fun _ _ _ _ _ h => h) (cl := [(Str.ofString "word", L + 1 + 1 + 1), (Str.ofString "bound", L + 1 + 1 + 1 + 1 + 1)]) ?_ ?_ ?_ ?_ ?_ ?_ ?_ ?_)
  case refine_1 => with_unfolding_all rfl
  case refine_2 => decide
  case refine_3 => rfl
  case refine_4 => decide
  case refine_5 => with_unfolding_all rfl
  case refine_6 => intro _; with_unfolding_all rfl
  case refine_7 => rw [sizeLine_eq]; exact Nat.le_trans hfl (by decide)
  walk1
  refine ⟨⟨_, src_list rfl (N9.isList (.tail _ (.tail _ (.tail _ (.tail _ (.tail _ (.head _))))))) hYp⟩, ⟨?_, ?_⟩, ?_⟩
  · intro C a v s₂ m₂ E' ha hK hC hn hm hk
    exact wpAny_tests_nil ⟨rfl, s₂.heap, s₂.toks, rfl, fun _ _ e => e⟩
  · rintro C a v s₂ m₂ E' ha ⟨T, l, n', vs, ks, x, t, rfl, hT, hl, hI, hp, hw, hW⟩ _ hC hn2 hm hk
    dsimp only at hk
    have F2 := F9.keeps hk
    have N2 : News gg L s₂.heap [(L + 1 + 1 + 1 + 1 + 1, oB), (L + 1 + 1 + 1, oW), (T, ({ cls := .type "tuple", data := .seq #[.ref l, .ref x, .str (sOf (wordL a)) t] } : Obj))] := News.grown (news_sub N9 (sub_cons (.head _) (sub_cons (.tail _ (.tail _ (.head _))) (sub_cons (.tail _ (.tail _ (.tail _ (.tail _ (.tail _ (.tail _ (.tail _ (List.mem_append_right _ (.tail _ (.tail _ (.tail _ (.tail _ (.tail _ hT))))))))))))) sub_nil)))) hk
    obtain ⟨ha1, ha2⟩ := List.mem_filter.mp ha
    obtain ⟨a1, a2⟩ := rowsOf_ok hta hbl a (hR.sub a ha1)
    clear F9 N9 hC
    refine wpAny_mono (Q := fun y s₃ => End ((∃ os, Fresh s₂.heap s₃.heap os ∧ ∃ z, IsInt z y ∧ LevRes (wordL (runsOf [z0, z1, z2, z3])) (wordL a) (due2 (hist (runsOf [z0, z1, z2, z3])) (hist r0) (runsOf [z0, z1, z2, z3]).length r0.length - 1 + cc) z) ∧ Keeps s₂ s₃)) ?_ (fun _ _ h => h.out) (fun _ _ h => h)
    repeat' (first | (k_unfold; (try dsimp only)) | ((fail_if_success (with_reducible show wpAny _ _ (call (Value.ref _) _) _ _ _)); first | walk1 | (dsimp only; walk1)))
    refine lev_call (Gr.inner K' X' T' F2 rfl rfl rfl) (lt_of_room (law_room _) (by decide)) (lt_of_room (law_units _) (by decide)) (by rw [wordL_len]; exact hrl) (by rw [wordL_len]; omega) (word_isL hro) (word_isL a1) ?_
    intro rz tz hz tkz hLev hkz
    try dsimp only
    repeat' (first | (k_unfold; (try dsimp only)) | (first | walk1 | (dsimp only; walk1)))
    exact End.mk ⟨⟨[], Fresh.nil, _, ⟨_, rfl⟩, hLev⟩, _, _, rfl, hkz⟩
  intro E4 n4' ys4' os4' h4' tk4' hk4' hD4' hg4' hf4' hne4' hP4'
  dsimp only at hk4' hD4' hf4'
  replace F9 := F9.keeps hk4'
  replace N9 := N9.grown hk4'
  rw [List.filter_eq_self.mpr (fun _ _ => rfl)] at hP4'
  obtain ⟨zs, hzI, hzP⟩ := ints_behind hP4'
  have hL4' : h4'.IsList E4 ys4'.toList.toArray := ⟨_, hg4', rfl, n4', by simp⟩
  have hzl : 0 < zs.length := by
    rw [← paired_len hzP, List.filter_cons, if_pos (decide_eq_true rfl)]
    exact Nat.succ_pos _
  clear hk4' hD4' hg4' hf4' hne4' hP4'
  try dsimp only
  repeat' (first | (k_unfold; (try dsimp only)) | ((fail_if_success (with_reducible show wpAny _ _ (call (Value.builtin _) _) _ _ _)); first | walk1 | (dsimp only; walk1)))
  refine kso_min F9 N9 hL4' hzI hzl rfl ?_
  intro h5' M tM tk5' F10 N10 hM1 hM2
  have hMd := min_part (b := blanks) hta hro (rowsOf_ok hta hbl) (hR.sub r0 (.head _)) (fun r hr => ⟨hR.sub r (List.mem_filter.mp hr).1, of_decide_eq_true (List.mem_filter.mp hr).2⟩)
    (fun r hr hh => List.mem_filter.mpr ⟨hR.whole r0 (.head _) r hr hh, decide_eq_true hh⟩) hcc hzP hM1 hM2
  subst hMd
  clear hL4' hzI hzl hzP hM1 hM2 F9 N9
  try dsimp only
  repeat' (first | (k_unfold; (try dsimp only)) | ((fail_if_success (with_reducible show wpAny _ _ (compareOp _ _ _) _ _ _)); first | walk1 | (dsimp only; walk1)))
  w_top off
  revert X'; k_fill; intro X'
  refine ne_int ?_
  rw [bne_self_eq_false]
  try dsimp only
  repeat' (first | (k_unfold; (try dsimp only)) | ((fail_if_success (with_reducible show WhlRest _ _ _ _ _ _ _ _ _ _ _)); first | walk1 | (dsimp only; walk1)))
  have hlt : ((r0 :: rs).filter fun a => !decide (hist a = hist r0)).length < n := by
    rw [← hn, List.filter_cons, if_neg (by simp)]
    exact Nat.lt_succ_of_le (List.length_filter_le _ _)
  refine ih _ _ hlt ⟨(r0 :: rs).filter fun a => !decide (hist a = hist r0), _, oB, oK, psq, NN, nsN, k2, _, _, _, rfl, rfl, ⟨fun r hr => hR.sub r (List.mem_filter.mp hr).1, ?_, hfn⟩, F10, N10, hoff8, hTLq.mono ?_, ⟨_, dk⟩, ⟨_, db⟩, ?_, ?_, rfl, rfl, rfl, .tail _ (.tail _ (.head _)), ?_⟩ _
  · intro r hr r' hr' hh
    obtain ⟨h1, h2⟩ := List.mem_filter.mp hr
    refine List.mem_filter.mpr ⟨hR.whole r h1 r' hr' hh, ?_⟩
    rw [hh]; exact h2
  · exact fun p hp => .tail _ (.tail _ (.tail _ hp))
  · exact .tail _ (.tail _ (.tail _ (List.mem_append_right _ (.tail _ (.tail _ (.tail _ (.tail _ (.head _))))))))
  · exact hWM.mono fun a o h => .tail _ (.tail _ (.tail _ (List.mem_append_right _ (.tail _ (.tail _ (.tail _ (.tail _ (.tail _ h))))))))
  · exact paired_mono (fun r v => ItemR.mono r v _ _ fun p h => .tail _ (.tail _ (.tail _ (List.mem_append_right _ (.tail _ (.tail _ (.tail _ (.tail _ (.tail _ h))))))))) hNp)
end Mine
theorem PySem.Challenge.cw_pk0111_01_holds : PySem.Challenge.rw_pk0111_01.Holds := by
  exact Mine.law_holds
