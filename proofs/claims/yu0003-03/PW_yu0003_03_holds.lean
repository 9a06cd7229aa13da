import PyProof.Rows.All
import Wide.All
import OpenK.AllK
import Wide.FinOn
import PySem.Challenge.RW_yu0003_03
open PySem PySem.W PyProof.Rows
set_option Elab.async false
set_option maxRecDepth 100000
namespace Mine
abbrev pw := PySem.Challenge.pw_yu0003_03
noncomputable abbrev stepQ := @PySem.W.Fast.tw10156331382660048174
noncomputable abbrev okQ := @PySem.W.Fast.tw6613529449190102663
noncomputable abbrev denQ := @PySem.W.Fast.tw11892475500146522536
noncomputable abbrev tabQ := @PySem.W.Fast.tw14364793385576792824
noncomputable abbrev execsQ := @PySem.W.Fast.tw12563942051412417395
theorem step_eq (w : World) (s : SharedT) (t : Thread) : stepQ (denQ tabQ) pw w s t = stepT (denote treeTable) pw w s t := by
  rw [PySem.W.Fast.te10156331382660048174, PySem.W.Fast.te11892475500146522536, PySem.W.Fast.te14364793385576792824]
theorem ok_eq (n : Nat) (a : Option Value) (t : Thread) : okQ n a t = stepOk n a t := by rw [PySem.W.Fast.te6613529449190102663]
noncomputable def bootT (P : Params) : BT :=
  ((((((((((BT.nil.ins 0 (boot_o_0 P)).ins 1 (boot_o_1 P)).ins 2 (boot_o_2 P)).ins 3 (boot_o_3 P)).ins 4 (boot_o_4 P)).ins 5 (boot_o_5 P)).ins 6 (boot_o_6 P)).ins 7 (boot_o_7 P)).ins 8 (boot_o_8 P)).ins 9 (boot_o_9 P)).ins 10 (boot_o_10 P)
theorem boot_abs (P : Params) : absHeap (bootT P) 11 (boot_heap P).life = boot_heap P := by kernel_rfl
noncomputable def s0 (w : World) (os : OsState) : SharedT := ⟨bootT w.params, 11, (boot_heap w.params).life, Array.mk [], boot_drawn, boot_toks, os⟩
theorem s0_abs (w : World) (os : OsState) : (s0 w os).abs = ⟨boot_heap w.params, Array.mk [], boot_drawn, boot_toks, os⟩ := by
  show Shared.mk (absHeap (bootT w.params) 11 (boot_heap w.params).life) _ _ _ _ = _
  rw [boot_abs]
  rfl

/-- the number first, then the rest: the kernel reckons it here -/
noncomputable def force {α : Sort 1} (n : Nat) (f : Nat → α) : α := @Nat.rec (fun _ => α) (f 0) (fun m _ => f (Nat.succ m)) n
theorem force_eq {α : Sort 1} (n : Nat) (f : Nat → α) : force n f = f n := by cases n <;> rfl
noncomputable def goT (w : World) (n : Nat) : SharedT → Thread → Option (SharedT × Thread) :=
  @Nat.rec (fun _ => SharedT → Thread → Option (SharedT × Thread)) (fun s t => some (s, t)) (fun _ ih s t => match through t with
    | true => none
    | false => match okQ 11 (some (.ref 6)) t with
      | false => none
      | true => match stepQ (denQ tabQ) pw w s t with
        | some (s', t') => force s'.toks fun k => ih ⟨s'.tree, s'.n, s'.life, s'.gens, s'.drawn, k, s'.os⟩ t'
        | none => none) n
noncomputable def runT (w : World) (n : Nat) : SharedT → Thread → Option SharedT :=
  @Nat.rec (fun _ => SharedT → Thread → Option SharedT) (fun _ _ => none) (fun _ ih s t => match through t with
    | true => some s
    | false => match okQ 11 (some (.ref 6)) t with
      | false => none
      | true => match stepQ (denQ tabQ) pw w s t with
        | some (s', t') => force s'.toks fun k => ih ⟨s'.tree, s'.n, s'.life, s'.gens, s'.drawn, k, s'.os⟩ t'
        | none => none) n
theorem runT_spec {w : World} : ∀ {n : Nat} {s s' : SharedT} {t : Thread}, runT w n s t = some s' → topRun treeTable pw w 11 (some (.ref 6)) n s.abs t = some s'.abs
  | 0, _, _, _, h => by cases h
  | n + 1, s, s', t, h => by
    have h : (match through t with
      | true => some s
      | false => match okQ 11 (some (.ref 6)) t with
        | false => none
        | true => match stepQ (denQ tabQ) pw w s t with
          | some (s', t') => force s'.toks fun k => runT w n ⟨s'.tree, s'.n, s'.life, s'.gens, s'.drawn, k, s'.os⟩ t'
          | none => none) = some s' := h
    unfold topRun
    cases ht : through t with
    | true => rw [ht] at h; cases h; rfl
    | false =>
      rw [ht, ok_eq] at h
      cases hk : stepOk 11 (some (.ref 6)) t with
      | false => rw [hk] at h; cases h
      | true =>
        rw [hk, step_eq] at h
        cases hs : stepT (denote treeTable) pw w s t with
        | none => rw [hs] at h; cases h
        | some r =>
          obtain ⟨s₂, t₂⟩ := r
          rw [hs] at h
          dsimp only at h
          rw [force_eq] at h
          rw [stepT_spec hs]
          exact runT_spec h
theorem goT_run {w : World} : ∀ {n m : Nat} {s s' : SharedT} {t t' : Thread} {r : SharedT}, goT w n s t = some (s', t') → runT w m s' t' = some r → runT w (n + m) s t = some r
  | 0, m, s, s', t, t', r, h, k => by
    have h : some (s, t) = some (s', t') := h
    cases h
    rw [Nat.zero_add]; exact k
  | n + 1, m, s, s', t, t', r, h, k => by
    have h : (match through t with
      | true => none
      | false => match okQ 11 (some (.ref 6)) t with
        | false => none
        | true => match stepQ (denQ tabQ) pw w s t with
          | some (s', t') => force s'.toks fun k => goT w n ⟨s'.tree, s'.n, s'.life, s'.gens, s'.drawn, k, s'.os⟩ t'
          | none => none) = some (s', t') := h
    rw [show n + 1 + m = (n + m) + 1 by omega]
    show (match through t with
      | true => some s
      | false => match okQ 11 (some (.ref 6)) t with
        | false => none
        | true => match stepQ (denQ tabQ) pw w s t with
          | some (s', t') => force s'.toks fun k => runT w (n + m) ⟨s'.tree, s'.n, s'.life, s'.gens, s'.drawn, k, s'.os⟩ t'
          | none => none) = some r
    cases ht : through t with
    | true => rw [ht] at h; cases h
    | false =>
      rw [ht] at h
      cases hk : okQ 11 (some (.ref 6)) t with
      | false => rw [hk] at h; cases h
      | true =>
        rw [hk] at h
        cases hs : stepQ (denQ tabQ) pw w s t with
        | none => rw [hs] at h; cases h
        | some r' =>
          obtain ⟨s₂, t₂⟩ := r'
          rw [hs] at h
          dsimp only at h ⊢
          rw [force_eq] at h ⊢
          exact goT_run h k

/-! ## displays of written ints -/
noncomputable def frI {α : Type} (is : List Int) : (List Value → Sem α) → Sem α :=
  @List.rec Int (fun _ => (List Value → Sem α) → Sem α) (fun k => k []) (fun i _ ih k => .fresh fun t => ih fun vs => k (.int i t :: vs)) is
noncomputable def intOf (e : PySem.Expr) : Int := match e with
  | .Constant (.int i) _ _ => i
  | _ => 0
noncomputable def isInt (e : PySem.Expr) : Bool := match e with
  | .Constant (.int _) _ _ => true
  | _ => false
noncomputable def constInts (l : List PySem.Expr) : List Int := @List.rec PySem.Expr (fun _ => List Int) [] (fun e _ ih => intOf e :: ih) l
noncomputable def allInts (l : List PySem.Expr) : Bool := @List.rec PySem.Expr (fun _ => Bool) true (fun e _ ih => match isInt e with | true => ih | false => false) l
theorem spliced_ints {α : Type} (pos : Pos) (env : Env) : ∀ (l : List PySem.Expr), allInts l = true → ∀ f : List Value → Sem α, (spliced (backTo pos (starEach l env))).bind f = frI (constInts l) f
  | [], _, f => rfl
  | e :: l, h, f => by
    have h : (match isInt e with | true => allInts l | false => false) = true := h
    cases he : isInt e with
    | false => rw [he] at h; cases h
    | true =>
      rw [he] at h
      have ih := fun {β : Type} (f : List Value → Sem β) => spliced_ints pos env l h f
      unfold isInt at he
      split at he
      · rename_i i k p
        show Sem.fresh (fun t => ((spliced (backTo pos (starEach l env))).bind fun vs => (Sem.pure ([Value.int i t] ++ vs))).bind f) = Sem.fresh fun t => frI (constInts l) fun vs => f (Value.int i t :: vs)
        refine congrArg Sem.fresh (funext fun t => ?_)
        rw [← ih, Sem.bind_assoc]
        rfl
      · cases he
noncomputable abbrev swapQ := @PySem.W.Fast.tw7783108440312521181
noncomputable abbrev storesQ := @PySem.W.Fast.tw2470068587113613483
noncomputable abbrev swappedQ := @PySem.W.Fast.tw4016559146275205325
noncomputable abbrev eachQ := @PySem.W.Fast.tw15628205474173192105
noncomputable abbrev operQ := @PySem.W.Fast.tw8004119333741010377
noncomputable abbrev binQ := @PySem.W.Fast.tw2036766266224100846
noncomputable abbrev holdQ := @PySem.W.Fast.tw17359229931016689406

/-- a list display of written ints -/
noncomputable def evL (l : List PySem.Expr) (p : Pos) : Sem Value := (standAt p).bind fun _ => frI (constInts l) newList
theorem evL_eq {l : List PySem.Expr} (h : allInts l = true) (p : Pos) (env : Env) : eval (.List l p) env = evL l p := by
  rw [eval]
  show (standAt p).bind (fun _ => (spliced (backTo p (starEach l env))).bind newList) = _
  rw [spliced_ints p env l h]
  rfl
noncomputable def evF (l1 : List PySem.Expr) (p1 : Pos) (l2 : List PySem.Expr) (p2 p3 : Pos) : Sem Value :=
  PySem.W.R.bindR (evL l1 p1) fun a => PySem.W.R.bindR (holdQ [a] (evL l2 p2)) fun b => PySem.W.R.bindR (standAt p3) fun _ => operQ [a, b] (binQ .Add a b)
theorem evF_eq {l1 l2 : List PySem.Expr} (h1 : allInts l1 = true) (h2 : allInts l2 = true) (p1 p2 p3 : Pos) (env : Env) :
    eval (.BinOp (.List l1 p1) .Add (.List l2 p2) p3) env = evF l1 p1 l2 p2 p3 := by
  rw [eval, evL_eq h1, evL_eq h2]
  unfold evF
  rw [← PySem.W.R.bindR_eq, PySem.W.Fast.te17359229931016689406, PySem.W.Fast.te8004119333741010377, PySem.W.Fast.te2036766266224100846]
  rfl
noncomputable def execTab (x : Str) (px : Pos) (l1 : List PySem.Expr) (p1 : Pos) (l2 : List PySem.Expr) (p2 p3 p4 : Pos) (env : Env) : Sem Flow :=
  PySem.W.R.bindR (standAt p4) fun _ => PySem.W.R.bindR (swapQ [.Name x px] (.BinOp (.List l1 p1) .Add (.List l2 p2) p3) p4.line env) fun sw => match sw with
    | true => PySem.W.R.bindR (evalThenUse (.BinOp (.List l1 p1) .Add (.List l2 p2) p3) env fun v => assignAll v ((eachQ [.Name x px] env).map (·.2))) fun _ => .pure .next
    | false => PySem.W.R.bindR (evF l1 p1 l2 p2 p3) fun v => PySem.W.R.bindR (swappedQ [.Name x px] (.BinOp (.List l1 p1) .Add (.List l2 p2) p3) env) fun sn => storesQ env v sn ((eachQ [.Name x px] env).map (·.2))
theorem exec_assign (targets : List PySem.Expr) (value : PySem.Expr) (pos : Pos) (env : Env) : exec (.Assign targets value pos) env =
    (standAt pos).bind fun _ => (swapsWithSole targets value pos.line env).bind fun sw => match sw with
      | true => (evalThenUse value env fun v => assignAll v ((assignEach targets env).map (·.2))).bind fun _ => .pure .next
      | false => (eval value env).bind fun v => (swappedStores targets value env).bind fun sn => assignStores env v sn ((assignEach targets env).map (·.2)) := by
  have h : exec (.Assign targets value pos) env = (do
    standAt pos
    if ← swapsWithSole targets value pos.line env then do
      evalThenUse value env fun v => assignAll v ((assignEach targets env).map (·.2))
      pure .next
    else do
      let v ← eval value env
      assignStores env v (← swappedStores targets value env) ((assignEach targets env).map (·.2))) := by kernel_rfl
  rw [h]
  show (standAt pos).bind _ = _
  congr 1
  funext _
  show (swapsWithSole targets value pos.line env).bind _ = _
  congr 1
  funext sw
  cases sw
  · rfl
  · rfl
theorem execTab_eq {l1 l2 : List PySem.Expr} (h1 : allInts l1 = true) (h2 : allInts l2 = true) (x : Str) (px p1 p2 p3 p4 : Pos) (env : Env) :
    exec (.Assign [.Name x px] (.BinOp (.List l1 p1) .Add (.List l2 p2) p3) p4) env = execTab x px l1 p1 l2 p2 p3 p4 env := by
  rw [exec_assign, evF_eq h1 h2]
  unfold execTab
  rw [← PySem.W.R.bindR_eq, PySem.W.Fast.te7783108440312521181, PySem.W.Fast.te4016559146275205325, PySem.W.Fast.te2470068587113613483, PySem.W.Fast.te15628205474173192105]
noncomputable def execF (st : Stmt) (env : Env) : Sem Flow := match st with
  | .Assign [.Name x px] (.BinOp (.List l1 p1) .Add (.List l2 p2) p3) p4 => (match allInts l1 with
    | true => (match allInts l2 with
      | true => execTab x px l1 p1 l2 p2 p3 p4 env
      | false => exec st env)
    | false => exec st env)
  | _ => exec st env
theorem execF_eq (st : Stmt) (env : Env) : exec st env = execF st env := by
  unfold execF
  split
  · split
    · split
      · rename_i h1 _ h2; exact execTab_eq h1 h2 ..
      · rfl
    · rfl
  · rfl

/-! ## the class's body -/
noncomputable def wrapR {α β : Type} (K : α → Sem β) (H : Value → Sem β) (gd : Bool → Bool) (lv : List Value → List Value) (m : Sem α) : Sem β :=
  Sem.rec (fun a => K a) (fun e => H e) (fun w => Sem.unsupported w) (fun e => Sem.finish e)
    (fun t _ ih => Sem.rule t ih) (fun p _ ih => Sem.at p ih) (fun a p _ ih => Sem.load a p ih)
    (fun a p g _ ih => Sem.update a p g ih) (fun o _ ih => Sem.alloc o ih) (fun a _ ih => Sem.loadIfAlive a ih)
    (fun l _ ih => Sem.point (lv l) ih) (fun a _ ih => Sem.register a ih) (fun _ ih => Sem.fresh ih) (fun _ ih => Sem.ask ih)
    (fun s n _ ih => Sem.choose s n ih) (fun q l _ ih => Sem.os q (lv l) ih) (fun c h g l _ ih => Sem.call c h (gd g) (lv l) ih)
    (fun o _ ih => Sem.handled o ih) (fun c _ ih => Sem.newGen c ih) (fun g _ ih => Sem.genState g ih)
    (fun g r l _ ih => Sem.resume g r (lv l) ih) (fun v g l _ ih => Sem.yield v (gd g) (lv l) ih) (fun _ ih => Sem.stack ih)
    (fun c _ ih => Sem.fork c ih) (fun _ ih => Sem.thread ih) (fun a t d l _ ih => Sem.await a t d (lv l) ih) m
theorem wrapR_eq {α β : Type} (K : α → Sem β) (H : Value → Sem β) (gd : Bool → Bool) (lv : List Value → List Value) (m : Sem α) : m.wrap K H gd lv = wrapR K H gd lv m := by
  induction m with
  | pure | raise | unsupported | finish => rfl
  | _ => rename_i ih; simp only [Sem.wrap, ih]; rfl
noncomputable def tabsTree (env : Env) (last : Sem Fin) (l : List Stmt) : Sem Fin :=
  @List.rec Stmt (fun _ => Sem Fin) last (fun t _ ih => wrapR (fun f => match f with | .next => ih | f => doneF f) (leaveH env) id id (execF t env)) l
theorem tabsTree_eq (env : Env) (rest : List Stmt) : ∀ l : List Stmt, (execs (l ++ rest) env).wrap doneF (leaveH env) id id = tabsTree env ((execs rest env).wrap doneF (leaveH env) id id) l
  | [] => rfl
  | t :: l => by
    rw [List.cons_append, execs_cons_wrap, wrapR_eq, execF_eq]
    show wrapR _ _ _ _ _ = wrapR (fun f => match f with | .next => tabsTree env ((execs rest env).wrap doneF (leaveH env) id id) l | f => doneF f) (leaveH env) id id (execF t env)
    rw [← tabsTree_eq env rest l]
    rfl
noncomputable def lastTree (env : Env) (l3 : List Stmt) : Sem Fin := wrapR doneF (leaveH env) id id (execsQ l3 env)
noncomputable def bodyTree (env : Env) (l1 tabs l3 : List Stmt) : Sem Fin :=
  wrapR (fun f => match f with | .next => tabsTree env (lastTree env l3) tabs | f => doneF f) (leaveH env) id id (execsQ l1 env)
theorem bodyTree_eq {env : Env} {l1 tabs l3 : List Stmt} (h : blockStart (l1 ++ (tabs ++ l3)) env = .pure ()) : denote treeTable (.body (l1 ++ (tabs ++ l3)) env) = bodyTree env l1 tabs l3 := by
  rw [body_wrap, h]
  show (execs (l1 ++ (tabs ++ l3)) env).wrap doneF (leaveH env) id id = _
  rw [execs_app_wrap, wrapR_eq, tabsTree_eq, wrapR_eq doneF]
  unfold bodyTree lastTree
  rw [PySem.W.Fast.te12563942051412417395]
  rfl
noncomputable def clsS : Stmt := match pw.main.body with
  | _ :: _ :: _ :: s :: _ => s
  | _ => default
noncomputable def cb : List Stmt := match clsS with
  | .ClassDef _ _ _ b _ _ _ _ _ _ _ => b
  | _ => []
noncomputable def csc : Scope := match clsS with
  | .ClassDef _ _ _ _ _ _ sc _ _ _ _ => sc
  | _ => default
noncomputable def cenv : Env := { scope := csc, locals := 31, globals := mainGlobals, cells := [], qual := "AES.", code := .ref 34, frame := some 35, builtins := builtinsNs }
theorem cb_split : cb = cb.take 2 ++ ((cb.drop 2).take 14 ++ (cb.drop 2).drop 14) := by
  rw [List.take_append_drop, List.take_append_drop]
theorem block_pure : blockStart (cb.take 2 ++ ((cb.drop 2).take 14 ++ (cb.drop 2).drop 14)) cenv = .pure () := by
  rw [← cb_split]
  kernel_rfl

noncomputable def X (w : World) (os : OsState) : Option (SharedT × Thread) := goT w 141 (s0 w os) (topStub pw)
noncomputable def sA (w : World) (os : OsState) : SharedT := match X w os with
  | some (s, _) => s
  | none => ⟨.nil, 0, (boot_heap w.params).life, #[], boot_drawn, 0, os⟩
noncomputable def stA (w : World) (os : OsState) : List Frame := match X w os with
  | some (_, t) => t.stack
  | none => []
noncomputable def posA (w : World) (os : OsState) : Pos := match X w os with
  | some (_, t) => t.pos
  | none => ⟨0, 0, 0, 0⟩
theorem stepA (w : World) (os : OsState) : X w os = some (sA w os, ⟨denQ tabQ (.body cb cenv), .body cb cenv, posA w os, stA w os⟩) := by kernel_rfl
theorem denQ_eq (c : Code) : denQ tabQ c = denote treeTable c := by rw [PySem.W.Fast.te11892475500146522536, PySem.W.Fast.te14364793385576792824]
noncomputable def tabs : List Stmt := (cb.drop 2).take 14
noncomputable def lst : List Stmt := (cb.drop 2).drop 14
noncomputable def thA (w : World) (os : OsState) : Thread := ⟨bodyTree cenv (cb.take 2) tabs lst, .body cb cenv, posA w os, stA w os⟩
theorem bodyA : denQ tabQ (.body cb cenv) = bodyTree cenv (cb.take 2) tabs lst := by
  rw [denQ_eq]
  have h := bodyTree_eq (env := cenv) (l1 := cb.take 2) (tabs := (cb.drop 2).take 14) (l3 := (cb.drop 2).drop 14) block_pure
  rw [← cb_split] at h
  exact h
noncomputable def wF (w : World) : World := w.withFollow "special-get-raises" false
noncomputable def Y (w : World) (os : OsState) : Option (SharedT × Thread) := goT (wF w) 91 (sA (wF w) os) (thA (wF w) os)
noncomputable def sB (w : World) (os : OsState) : SharedT := match Y w os with
  | some (s, _) => s
  | none => ⟨.nil, 0, (boot_heap w.params).life, #[], boot_drawn, 0, os⟩
noncomputable def posB (w : World) (os : OsState) : Pos := match Y w os with
  | some (_, t) => t.pos
  | none => ⟨0, 0, 0, 0⟩
noncomputable def thB (w : World) (os : OsState) : Thread := ⟨tabsTree cenv (lastTree cenv lst) tabs, .body cb cenv, posB w os, stA w os⟩
theorem stepB (w : World) : ∀ os, goT w 91 (sA w os) (thA w os) = some (sB w os, thB w os) :=
  byRow2 "special-get-raises" (P := fun w => ∀ os, goT w 91 (sA w os) (thA w os) = some (sB w os, thB w os)) (fun w os => by kernel_rfl) (fun w os => by kernel_rfl) w
noncomputable def view : Program := PySem.W.view pw [0, 2, 3, 5, 6, 7, 8, 9, 10, 11, 12]
noncomputable abbrev seenQ := @PySem.W.Fast.tw4187177175401517315
noncomputable def looks {α : Type} (Xt : Shared → Bool) (Yf : Shared → α) (w : World) (s : Shared) :=
  ((staticsOk (importedModules pw.main.body) (boot_heap w.params) s.heap && namesBound pw s.heap && gensDone s && laidKept (boot_heap w.params) s.heap), seenQ view [PySem.Str.ofString "AES"] (importedModules pw.main.body) Xt true s, Yf s)
theorem opening_eq : opening pw = plainProg pw.main.scope.names := by kernel_rfl
theorem fence_eq (s : Shared) : fenceModules? pw s = some s := by kernel_rfl
theorem size_eq (P : Params) : ((boot_heap P).isNs mainGlobals && (Array.mk ([] : List GenState)).size == 0, (boot_heap P).objs.size, (boot_heap P).nsMap mainGlobals "__annotations__") = (true, 11, some (.ref 6)) := by kernel_rfl
theorem stepA' (w : World) (os : OsState) : goT w 141 (s0 w os) (topStub pw) = some (sA w os, thA w os) := by
  have h := stepA w os
  rw [bodyA] at h
  exact h
theorem left_of {α : Type} {Xt : Shared → Bool} {Yf : Shared → α} {Ya : World → α}
    (h : ∀ w os, (runT w 5000 (sB w os) (thB w os)).map (fun s => looks Xt Yf w s.abs) = some (true, openGood view [PySem.Str.ofString "AES"], Ya w)) :
    LeftO pw view [PySem.Str.ofString "AES"] Xt Yf Ya 9462 := fun w => by
  obtain ⟨⟨hp, gs, d, k, os⟩, e, e'⟩ := Option.map_eq_some_iff.mp (boot_open (p := pw) (N := 9462) opening_eq (by decide) fence_eq w)
  obtain ⟨rfl, rfl, rfl, rfl⟩ : hp = boot_heap w.params ∧ gs = Array.mk [] ∧ d = boot_drawn ∧ k = boot_toks := by simpa using e'
  obtain ⟨z1, z2, z3⟩ : _ ∧ _ ∧ _ := by simpa only [Prod.mk.injEq] using size_eq w.params
  obtain ⟨s1, hs1, hl⟩ := Option.map_eq_some_iff.mp (h w os)
  obtain ⟨l1, l2, l3⟩ : _ ∧ _ ∧ _ := by simpa only [looks, Prod.mk.injEq] using hl
  have r := runT_spec (goT_run (stepA' w os) (goT_run (stepB w os) hs1))
  rw [s0_abs] at r
  have r := topRun_mono (9462 - (141 + (91 + 5000))) _ _ _ _ r
  have t : topFrom treeTable pw w 9462 ⟨boot_heap w.params, Array.mk [], boot_drawn, boot_toks, os⟩ = some s1.abs := by
    unfold topFrom
    dsimp only
    rw [z1, z2, z3, r]
    show (match staticsOk (importedModules pw.main.body) (boot_heap w.params) s1.abs.heap && namesBound pw s1.abs.heap && gensDone s1.abs && laidKept (boot_heap w.params) s1.abs.heap with | true => _ | false => _) = _
    rw [l1]
  unfold openEnds
  rw [e]
  show ((topFrom treeTable pw w 9462 _).map _) = _
  rw [t]
  show some (_, _) = _
  rw [PySem.W.Fast.te4187177175401517315]
  show some (seenQ view [PySem.Str.ofString "AES"] (importedModules pw.main.body) Xt true s1.abs, Yf s1.abs) = _
  rw [l2, l3]
local macro_rules | `(tactic| o_head $H) => `(tactic| (
  refine holds_open (q := Mine.view) (loose := [PySem.Str.ofString "AES"]) (Xt := fun s => xlAt Mine.view [] s && recOk (RowW.records (OpenRow.toRowW (OpenLaw.row PySem.Challenge.rw_yu0003_03))) s) (XP := XL Mine.view []) (Yf := Hook.obs $H) (Ya := Hook.val $H) (YP := Hook.says $H) (N := 9462)
    ?hl (Hook.of $H) (Hook.keeps $H) (fun s e => xl_of s (Bool.and_eq_true_iff.mp e).1) XL.keeps (by rfl) (by rfl) (by rfl) (fun s e => recFacts_of (Bool.and_eq_true_iff.mp e).2) (by rfl) (by first | assumption | decide +kernel) (by decide +kernel) ⟨rfl, rfl, rfl, rfl, rfl, by decide +kernel⟩ ?hw ?hc
  (case hl => exact Mine.left_of (fun w os => by kernel_rfl))))
set_option maxHeartbeats 8000000
open_top hd for PySem.Challenge.rw_yu0003_03
end Mine
namespace Mine
theorem walk_off : True := by
  w_top off
  trivial
end Mine
namespace Mine
abbrev Ledger := List (Addr × Obj)
/-- what a call of the def at f, with these arguments and this ledger, hands back; k: the room that it asks -/
def Spec (k : Nat) (w : World) (f : Addr) (vs : List Value) (news : Ledger) (Post : Value → Ledger → Prop) : Prop :=
  ∀ (p : Program) (loose : List Str) (mean : ExcName → Option Value) (mg mb : Str → Option Value) (dp un : Nat) (gd : Option (List Code)) (cn : Str) (cs : Scope) (a : Addr) (ccd : Value) (cl : List (Str × Addr)) (outer : List Env) (A₀ : Around) (base h₀ : Heap) (L : Addr) (m : Str → Option Value) (s : Shared) (Q E : Value → Shared → Prop),
    Below A₀ base outer h₀ → Fr h₀ L s.heap m → (hd.heap_39 w.params).In h₀ → News h₀ L s.heap news → Top p loose mean mg mb h₀ → cs.kind = .function → dp + 10 * k < recursionLimit → un + 100 * k < cLine →
    (∀ r news' h' tk', Fr h₀ L h' m → News h₀ L h' news' → Post r news' → Q r { s with heap := h', toks := tk' }) →
    wpAny (model PySem.Challenge.rw_yu0003_03.row.prog w) (ktrTop dp un gd cn cs L a ccd cl outer) (call (.ref f) vs) Q E s
theorem Spec.use {k : Nat} {w : World} {f : Addr} {vs : List Value} {news : Ledger} {Post : Value → Ledger → Prop} (S : Spec k w f vs news Post)
    {p : Program} {loose : List Str} {mean : ExcName → Option Value} {mg mb : Str → Option Value} {dp un : Nat} {gd : Option (List Code)} {cn : Str} {cs : Scope} {a : Addr} {ccd : Value} {cl : List (Str × Addr)} {outer : List Env} {A₀ : Around} {base h₀ : Heap} {L : Addr} {m : Str → Option Value} {s : Shared} {Q E : Value → Shared → Prop}
    (B : Below A₀ base outer h₀) (F : Fr h₀ L s.heap m) (X : (hd.heap_39 w.params).In h₀) (N : News h₀ L s.heap news) (T : Top p loose mean mg mb h₀) (hk : cs.kind = .function) (hd : dp + 10 * k < recursionLimit) (hu : un + 100 * k < cLine)
    (ret : ∀ r news' h' tk', Fr h₀ L h' m → News h₀ L h' news' → Post r news' → Q r { s with heap := h', toks := tk' }) :
    wpAny (model PySem.Challenge.rw_yu0003_03.row.prog w) (ktrTop dp un gd cn cs L a ccd cl outer) (call (.ref f) vs) Q E s :=
  S p loose mean mg mb dp un gd cn cs a ccd cl outer A₀ base h₀ L m s Q E B F X N T hk hd hu ret
/-- a def that hands back an int and leaves the ledger -/
def SpecI (k : Nat) (w : World) (f : Addr) (vs : List Value) (news : Ledger) (i : Int) : Prop := Spec k w f vs news fun r n => n = news ∧ ∃ t, r = .int i t
theorem SpecI.use {k : Nat} {w : World} {f : Addr} {vs : List Value} {news : Ledger} {i : Int} (S : SpecI k w f vs news i)
    {p : Program} {loose : List Str} {mean : ExcName → Option Value} {mg mb : Str → Option Value} {dp un : Nat} {gd : Option (List Code)} {cn : Str} {cs : Scope} {a : Addr} {ccd : Value} {cl : List (Str × Addr)} {outer : List Env} {A₀ : Around} {base h₀ : Heap} {L : Addr} {m : Str → Option Value} {s : Shared} {Q E : Value → Shared → Prop}
    (B : Below A₀ base outer h₀) (F : Fr h₀ L s.heap m) (X : (hd.heap_39 w.params).In h₀) (N : News h₀ L s.heap news) (T : Top p loose mean mg mb h₀) (hk : cs.kind = .function) (hd : dp + 10 * k < recursionLimit) (hu : un + 100 * k < cLine)
    (ret : ∀ t h' tk', Fr h₀ L h' m → News h₀ L h' news → Q (.int i t) { s with heap := h', toks := tk' }) :
    wpAny (model PySem.Challenge.rw_yu0003_03.row.prog w) (ktrTop dp un gd cn cs L a ccd cl outer) (call (.ref f) vs) Q E s := by
  refine Spec.use S B F X N T hk hd hu ?_
  rintro r n h' tk' F' N' ⟨rfl, t, rfl⟩
  exact ret t h' tk' F' N'

def tStep (x : Int × Int × Int) : Int × Int × Int :=
  (if x.2.2.fmod 2 = 1 then Builtin.bitXor x.1 x.2.1 else x.1,
   if 2 * x.2.1 > 255 then Builtin.bitXor (2 * x.2.1) 283 else 2 * x.2.1,
   x.2.2.fdiv 2)
noncomputable def tIter : Nat → Int × Int × Int → Int × Int × Int
  | 0, x => x
  | n + 1, x => tStep (tIter n x)
@[irreducible] noncomputable def times (a b : Int) : Int := (tIter 8 (0, a, b)).1
theorem tIter_ok {pre : List Int} {k : Int} {x y z : Int × Int × Int} (h : y = tIter pre.length x) (e : z = tStep y) : z = tIter (pre ++ [k]).length x := by
  rw [List.length_append, e, h]; rfl

-- the walk: step by step, up to a loop or a loop's turn's end
local macro_rules | `(tactic| tb_start) => `(tactic| repeat' (first | (k_unfold; (try dsimp only)) | ((fail_if_success (with_reducible show wpAny _ _ (pyIter _) _ _ _)); (fail_if_success (with_reducible show InvEndN _ _ _ _ _ _ _)); first | walk1 | (dsimp only; walk1) | (leave1; try dsimp only))))

set_option maxHeartbeats 4000000 in
theorem times_spec (w : World) (a b : Int) (ta tb : Tok) (news : Ledger) : SpecI 1 w 122 [.int a ta, .int b tb] news (times a b) := by
  unfold SpecI Spec
  k_fill
  intro p loose mean mg mb dp un gd cn cs ad ccd cl outer A₀ base h₀ L m s Q E B F X N T hk hd hu hret
  refine wpAny_call ?_
  k_dflt cell_enter
  tb_start
  k_state_short (fun pre one two total => (total, one, two) = tIter pre.length (0, a, b)) "one" "two" "total"
  · tb_start
    all_goals (k_with "state" => exact tIter_ok (by assumption) (by simp [tStep, *]))
    all_goals kst_close
  · tb_start
    refine hret _ _ _ _ (by assumption) (by assumption) ⟨rfl, _, congrArg (fun x : Int => Value.int x _) ?_⟩
    unfold times
    exact congrArg Prod.fst (by assumption)

-- a call of _law_times is one step
local macro_rules | `(tactic| walk_at "call ref") => `(tactic| (k_here; (with_reducible show wpAny _ _ (call (Value.ref 122) [Value.int _ _, Value.int _ _]) _ _ _); k_dflt (refine' SpecI.use (times_spec _ _ _ _ _ _) ?k1 ?k2 ?k3 ?k4 ?k5 ?kK ?kd ?ku ?_; (case k1 => k_asm); (case k2 => k_asm); (case k3 => k_asm); (case k4 => k_asm); (case k5 => k_asm); (case kK => exact rfl); (case kd => ktr_room); (case ku => ktr_units); k_whole); intro t' h' tk' F' N'; (try dsimp only); (try k_fold)))

noncomputable def iStep (x : Int × Int) : Int × Int := (times x.1 x.1, times x.2 (times x.1 x.1))
noncomputable def iIter : Nat → Int × Int → Int × Int
  | 0, x => x
  | n + 1, x => iStep (iIter n x)
@[irreducible] noncomputable def inverse (a : Int) : Int := (iIter 7 (a, 1)).2
theorem iIter_ok {pre : List Int} {k a b : Int} {x : Int × Int} (h : (a, b) = iIter pre.length x) : (times a a, times b (times a a)) = iIter (pre ++ [k]).length x := by
  rw [List.length_append]
  show _ = iStep (iIter pre.length x)
  rw [← h]; rfl
set_option maxHeartbeats 4000000 in
theorem inverse_spec (w : World) (a : Int) (ta : Tok) (news : Ledger) : SpecI 2 w 129 [.int a ta] news (inverse a) := by
  unfold SpecI Spec
  k_fill
  intro p loose mean mg mb dp un gd cn cs ad ccd cl outer A₀ base h₀ L m s Q E B F X N T hk hd hu hret
  refine wpAny_call ?_
  k_dflt cell_enter
  tb_start
  k_state_short (fun pre square found => (square, found) = iIter pre.length (a, 1)) "square" "found"
  · tb_start
    all_goals (k_with "state" => exact iIter_ok (by assumption))
    all_goals kst_close
  · tb_start
    refine hret _ _ _ _ (by assumption) (by assumption) ⟨rfl, _, congrArg (fun x : Int => Value.int x _) ?_⟩
    unfold inverse
    exact congrArg Prod.snd (by assumption)
end Mine
namespace Mine
-- the walk: step by step, up to a loop or a loop's turn's end
local macro_rules | `(tactic| tb_start) => `(tactic| repeat' (first | (k_unfold; (try dsimp only)) | ((fail_if_success (with_reducible show wpAny _ _ (pyIter _) _ _ _)); (fail_if_success (with_reducible show InvEndN _ _ _ _ _ _ _)); first | walk1 | (dsimp only; walk1) | (leave1; try dsimp only))))
-- a call of _law_times is one step
local macro_rules | `(tactic| walk_at "call ref") => `(tactic| (k_here; (with_reducible show wpAny _ _ (call (Value.ref 122) [Value.int _ _, Value.int _ _]) _ _ _); k_dflt (refine' SpecI.use (times_spec _ _ _ _ _ _) ?k1 ?k2 ?k3 ?k4 ?k5 ?kK ?kd ?ku ?_; (case k1 => k_asm); (case k2 => k_asm); (case k3 => k_asm); (case k4 => k_asm); (case k5 => k_asm); (case kK => exact rfl); (case kd => ktr_room); (case ku => ktr_units); k_whole); intro t' h' tk' F' N'; (try dsimp only); (try k_fold)))
-- a call of _law_inverse is one step
local macro_rules | `(tactic| walk_at "call ref") => `(tactic| (k_here; (with_reducible show wpAny _ _ (call (Value.ref 129) [Value.int _ _]) _ _ _); k_dflt (refine' SpecI.use (inverse_spec _ _ _ _) ?k1 ?k2 ?k3 ?k4 ?k5 ?kK ?kd ?ku ?_; (case k1 => k_asm); (case k2 => k_asm); (case k3 => k_asm); (case k4 => k_asm); (case k5 => k_asm); (case kK => exact rfl); (case kd => ktr_room); (case ku => ktr_units); k_whole); intro t' h' tk' F' N'; (try dsimp only); (try k_fold)))
def bStep (x : Int × Int) : Int × Int := (Builtin.bitXor x.1 x.2, (2 * x.2).fmod 256 + x.2.fdiv 128)
noncomputable def bIter : Nat → Int × Int → Int × Int
  | 0, x => x
  | n + 1, x => bStep (bIter n x)
@[irreducible] noncomputable def boxed (a : Int) : Int := (bIter 5 (99, inverse a)).1
theorem bIter_ok {pre : List Int} {k a b : Int} {x : Int × Int} (h : (a, b) = bIter pre.length x) : (Builtin.bitXor a b, (2 * b).fmod 256 + b.fdiv 128) = bIter (pre ++ [k]).length x := by
  rw [List.length_append]
  show _ = bStep (bIter pre.length x)
  rw [← h]; rfl
set_option maxHeartbeats 4000000 in
theorem boxed_spec (w : World) (a : Int) (ta : Tok) (news : Ledger) : SpecI 3 w 136 [.int a ta] news (boxed a) := by
  unfold SpecI Spec
  k_fill
  intro p loose mean mg mb dp un gd cn cs ad ccd cl outer A₀ base h₀ L m s Q E B F X N T hk hd hu hret
  refine wpAny_call ?_
  k_dflt cell_enter
  tb_start
  k_state_short (fun pre total other => (total, other) = bIter pre.length (99, inverse a)) "total" "other"
  · tb_start
    all_goals (k_with "state" => exact bIter_ok (by assumption))
    all_goals kst_close
  · tb_start
    refine hret _ _ _ _ (by assumption) (by assumption) ⟨rfl, _, congrArg (fun x : Int => Value.int x _) ?_⟩
    unfold boxed
    exact congrArg Prod.fst (by assumption)

noncomputable def wIter (ns : List Int) (turn : Int) : Nat → Int
  | 0 => 0
  | n + 1 => 256 * wIter ns turn n + ns.getD (((n : Int) - turn).fmod 4).toNat 0
@[irreducible] noncomputable def wordF (ns : List Int) (turn : Int) : Int := wIter ns turn 4
theorem wIter_ok {ns : List Int} {turn : Int} {pre : List Int} {k x : Int} (h : x = wIter ns turn pre.length) (hk : k = 0 + (pre.length : Int)) : 256 * x + ns.getD ((k - turn).fmod 4).toNat 0 = wIter ns turn (pre ++ [k]).length := by
  rw [List.length_append, h, hk, Int.zero_add]; rfl
set_option maxHeartbeats 4000000 in
theorem word_spec (w : World) (l : Addr) (vs : List Value) (ns : List Int) (n : Nat) (turn : Int) (tt : Tok) (news : Ledger) (hm : (l, listOf vs.toArray n) ∈ news) (hi : IntsAre vs ns) (h4 : ns.length = 4) :
    SpecI 1 w 143 [.ref l, .int turn tt] news (wordF ns turn) := by
  unfold SpecI Spec
  k_fill
  intro p loose mean mg mb dp un gd cn cs ad ccd cl outer A₀ base h₀ L m s Q E B F X N T hk hd hu hret
  refine wpAny_call ?_
  k_dflt cell_enter
  tb_start
  k_state_short (fun pre word => word = wIter ns turn pre.length) "word"
  · tb_start
    all_goals (k_with "state" => exact wIter_ok (by assumption) (by assumption))
    all_goals kst_close
  · tb_start
    refine hret _ _ _ _ (by assumption) (by assumption) ⟨rfl, _, congrArg (fun x : Int => Value.int x _) ?_⟩
    unfold wordF
    assumption
end Mine
namespace Mine
/-! ## the tables of the class, read off the written heap -/
def P0 : Params := { strHash := fun _ => 0, shareClass := fun _ => 0, mergeTok := fun t => t, idOf := fun _ => 0, idOfShared := fun _ _ => 0, followText := fun _ => false, idOfImm := fun _ => 0 }
def intV (v : Value) : Int := match v with | .int i _ => i | _ => 0
def isV (v : Value) : Bool := match v with | .int _ _ => true | _ => false
noncomputable def tabV (a : Addr) : List Value := match (hd.heap_39 P0).lookup a with
  | some ⟨_, _, .seq xs _, _⟩ => xs.toList
  | _ => []
noncomputable def tabL (a : Addr) : List Int := (tabV a).map intV
def tabAddrs : List Addr := [37, 40, 43, 46, 49, 52, 55, 58, 61, 64, 67, 70, 73, 76, 79]
theorem tabs_in (P : Params) : tabAddrs.map (fun a => (hd.heap_39 P).lookup a) = tabAddrs.map fun a => some ⟨.type "list", none, .seq (tabV a).toArray 0, #[]⟩ := by kernel_rfl
theorem tabs_len : tabAddrs.map (fun a => (tabL a).length) = [30, 256, 256, 256, 256, 256, 256, 256, 256, 256, 256, 256, 256, 256, 256] := by kernel_rfl
theorem tabs_ints : (tabAddrs.all fun a => (tabV a).all isV) = true := by kernel_rfl
theorem ints_of : ∀ vs : List Value, vs.all isV = true → IntsAre vs (vs.map intV)
  | [], _ => .nil
  | v :: r, h => by
    rw [List.all_cons, Bool.and_eq_true] at h
    cases v with
    | int i t => exact .cons i t (ints_of r h.2)
    | _ => exact absurd h.1 Bool.false_ne_true
theorem map_at {α β : Type} {f g : α → β} : ∀ {l : List α}, l.map f = l.map g → ∀ {a : α}, a ∈ l → f a = g a
  | _ :: _, h, _, .head _ => (List.cons.inj h).1
  | _ :: _, h, _, .tail _ m => map_at (List.cons.inj h).2 m
@[irreducible] noncomputable def tabAt (a : Addr) (k : Int) : Int := (tabL a).getD k.toNat 0
section
variable {prog : Program} {w : World} {A : Around} {E : Value → Shared → Prop} {s : Shared} {h₀ : Heap} {L a : Addr} {m : Str → Option Value} {k : Int} {u : Tok} {Q : Value → Shared → Prop}
theorem tab_item {value slice : PySem.Expr} (F : Fr h₀ L s.heap m) (X : (hd.heap_39 w.params).In h₀) (ha : a ∈ tabAddrs) (h0 : 0 ≤ k) (h1 : k < ((tabL a).length : Int)) (hfit : k < 2 ^ 63) (h : ∀ t, Q (.int (tabAt a k) t) s)
    (hs : subscripted slice false (.ref a) (.int k u) = operate [.ref a, .int k u] (getItem (.ref a) (.int k u)) := by with_unfolding_all rfl) :
    wpAny (model prog w) A (subscriptTail value slice (.ref a) (.int k u)) Q E s := by
  have hK := map_at (tabs_in w.params) ha
  have hI := ints_of (tabV a) (List.all_eq_true.mp tabs_ints a ha)
  refine item_anyK (lstK (X.keeps F.keep) hK) hI h0 h1 hfit ?_ hs
  intro t
  have := h t
  unfold tabAt at this
  exact this
end
/-! ## the field's arithmetic over Nat -/
theorem nat_xor_and (m : Nat) : ∀ n : Nat, (m ^^^ n) + 2 * (m &&& n) = m + n := by
  induction m using Nat.strongRecOn with
  | ind m ih =>
    intro n
    by_cases h0 : m = 0
    · subst h0; simp
    · have ih' := ih (m / 2) (by omega) (n / 2)
      rw [← Nat.xor_div_two, ← Nat.and_div_two] at ih'
      have o1 := @Nat.xor_mod_two_eq_one m n
      have a1 := @Nat.and_mod_two_eq_one m n
      omega
theorem xor_nat (a b : Nat) : Builtin.bitXor (a : Int) (b : Int) = ((a ^^^ b : Nat) : Int) := by
  rw [bitXor_and, bitAnd_pp (Int.natCast_nonneg a) (Int.natCast_nonneg b)]
  have h := nat_xor_and a b
  simp only [Int.toNat_natCast]
  omega
def oneN (o : Nat) : Nat := Nat.xor (Nat.mul 2 o) (Nat.mul (Nat.div o 128) 283)
def totN (t o w : Nat) : Nat := Nat.xor t (Nat.mul (Nat.mod w 2) o)
noncomputable def tGo (n : Nat) : Nat → Nat → Nat → Nat := @Nat.rec (fun _ => Nat → Nat → Nat → Nat) (fun t _ _ => t)
  (fun _ ih t o w => ih (Nat.xor t (Nat.mul (Nat.mod w 2) o)) (Nat.xor (Nat.mul 2 o) (Nat.mul (Nat.div o 128) 283)) (Nat.div w 2)) n
noncomputable def timesN (a b : Nat) : Nat := tGo 8 0 a b
theorem oneN_lt {o : Nat} (h : o < 256) : oneN o < 256 := by
  have k : ∀ o < 256, oneN o < 256 := by decide +kernel
  exact k o h
theorem totN_lt {t o : Nat} (w : Nat) (ht : t < 256) (ho : o < 256) : totN t o w < 256 := by
  unfold totN
  refine Nat.xor_lt_two_pow (n := 8) ht ?_
  rcases Nat.mod_two_eq_zero_or_one w with h | h
  · show (w % 2) * o < _
    rw [h]; omega
  · show (w % 2) * o < _
    rw [h]; omega
theorem tIter_front : ∀ (n : Nat) (x : Int × Int × Int), tIter (n + 1) x = tIter n (tStep x)
  | 0, _ => rfl
  | n + 1, x => by
    show tStep (tIter (n + 1) x) = _
    rw [tIter_front n x]; rfl
theorem tStep_nat {o : Nat} (t w : Nat) (ho : o < 256) : tStep ((t : Int), (o : Int), (w : Int)) = (((totN t o w : Nat) : Int), ((oneN o : Nat) : Int), ((w / 2 : Nat) : Int)) := by
  unfold tStep
  have e2 : (2 : Int) * (o : Int) = ((2 * o : Nat) : Int) := by omega
  have e3 : (283 : Int) = ((283 : Nat) : Int) := rfl
  refine Prod.ext ?_ (Prod.ext ?_ ?_)
  · dsimp only
    have hm : (w : Int).fmod 2 = ((w % 2 : Nat) : Int) := by rw [Int.fmod_eq_emod_of_nonneg _ (by decide)]; omega
    rw [hm]
    have ht : totN t o w = t ^^^ ((w % 2) * o) := rfl
    rw [ht]
    rcases Nat.mod_two_eq_zero_or_one w with h | h
    · rw [if_neg (by omega), h, Nat.zero_mul, Nat.xor_zero]
    · rw [if_pos (by omega), h, Nat.one_mul, xor_nat]
  · dsimp only
    have hs : oneN o = (2 * o) ^^^ ((o / 128) * 283) := rfl
    rw [hs]
    by_cases h : o < 128
    · have hd : o / 128 = 0 := by omega
      rw [if_neg (by omega), hd, Nat.zero_mul, Nat.xor_zero, e2]
    · have hd : o / 128 = 1 := by omega
      rw [if_pos (by omega), hd, Nat.one_mul, e2, e3, xor_nat]
  · dsimp only
    rw [Int.fdiv_eq_ediv_of_nonneg _ (by decide)]; omega
theorem tGo_eq : ∀ (n t o w : Nat), o < 256 → (tIter n ((t : Int), (o : Int), (w : Int))).1 = ((tGo n t o w : Nat) : Int)
  | 0, _, _, _, _ => rfl
  | n + 1, t, o, w, h => by
    rw [tIter_front, tStep_nat t w h, tGo_eq n _ _ _ (oneN_lt h)]
    rfl
theorem tGo_lt : ∀ (n t o w : Nat), t < 256 → o < 256 → tGo n t o w < 256
  | 0, _, _, _, h, _ => h
  | n + 1, t, o, w, h, k => tGo_lt n _ _ _ (totN_lt w h k) (oneN_lt k)
theorem times_nat {a : Nat} (b : Nat) (h : a < 256) : times (a : Int) (b : Int) = ((timesN a b : Nat) : Int) := by
  unfold times timesN
  exact tGo_eq 8 0 a b h
theorem timesN_lt {a : Nat} (b : Nat) (h : a < 256) : timesN a b < 256 := tGo_lt 8 0 a b (by decide) h
noncomputable def iGo (n : Nat) : Nat → Nat → Nat := @Nat.rec (fun _ => Nat → Nat → Nat) (fun _ f => f) (fun _ ih s f => force (timesN s s) fun s' => force (timesN f s') fun f' => ih s' f') n
theorem iIter_front : ∀ (n : Nat) (x : Int × Int), iIter (n + 1) x = iIter n (iStep x)
  | 0, _ => rfl
  | n + 1, x => by
    show iStep (iIter (n + 1) x) = _
    rw [iIter_front n x]; rfl
theorem iGo_eq : ∀ (n s f : Nat), s < 256 → f < 256 → (iIter n ((s : Int), (f : Int))).2 = ((iGo n s f : Nat) : Int)
  | 0, _, _, _, _ => rfl
  | n + 1, s, f, hs, hf => by
    have e : iStep ((s : Int), (f : Int)) = (((timesN s s : Nat) : Int), ((timesN f (timesN s s) : Nat) : Int)) := by
      unfold iStep
      rw [times_nat s hs, times_nat _ hf]
    rw [iIter_front, e, iGo_eq n _ _ (timesN_lt s hs) (timesN_lt _ hf)]
    show _ = ((force (timesN s s) fun s' => force (timesN f s') fun f' => iGo n s' f' : Nat) : Int)
    rw [force_eq, force_eq]
noncomputable def bGo (n : Nat) : Nat → Nat → Nat := @Nat.rec (fun _ => Nat → Nat → Nat) (fun t _ => t) (fun _ ih t o => force (t ^^^ o) fun t' => force ((2 * o) % 256 + o / 128) fun o' => ih t' o') n
theorem bIter_front : ∀ (n : Nat) (x : Int × Int), bIter (n + 1) x = bIter n (bStep x)
  | 0, _ => rfl
  | n + 1, x => by
    show bStep (bIter (n + 1) x) = _
    rw [bIter_front n x]; rfl
theorem bGo_eq : ∀ (n t o : Nat), (bIter n ((t : Int), (o : Int))).1 = ((bGo n t o : Nat) : Int)
  | 0, _, _ => rfl
  | n + 1, t, o => by
    have e : bStep ((t : Int), (o : Int)) = (((t ^^^ o : Nat) : Int), (((2 * o) % 256 + o / 128 : Nat) : Int)) := by
      unfold bStep
      rw [xor_nat, Int.fmod_eq_emod_of_nonneg _ (by decide), Int.fdiv_eq_ediv_of_nonneg _ (by decide)]
      refine Prod.ext rfl ?_
      dsimp only
      omega
    rw [bIter_front, e, bGo_eq n]
    show _ = ((force (t ^^^ o) fun t' => force ((2 * o) % 256 + o / 128) fun o' => bGo n t' o' : Nat) : Int)
    rw [force_eq, force_eq]
noncomputable def boxedN (a : Nat) : Nat := force (iGo 7 a 1) fun i => bGo 5 99 i
theorem boxed_nat {a : Nat} (h : a < 256) : boxed (a : Int) = ((boxedN a : Nat) : Int) := by
  unfold boxed inverse boxedN
  rw [force_eq, show (1 : Int) = ((1 : Nat) : Int) from rfl, iGo_eq 7 a 1 h (by decide)]
  exact bGo_eq 5 99 _
def word4 (a b c d : Nat) : Nat := 256 * (256 * (256 * a + b) + c) + d
theorem word_0 (a b c d : Nat) : wordF [(a : Int), b, c, d] 0 = ((word4 a b c d : Nat) : Int) := by
  unfold wordF word4; simp [wIter]
theorem word_1 (a b c d : Nat) : wordF [(a : Int), b, c, d] 1 = ((word4 d a b c : Nat) : Int) := by
  unfold wordF word4; simp [wIter]
theorem word_2 (a b c d : Nat) : wordF [(a : Int), b, c, d] 2 = ((word4 c d a b : Nat) : Int) := by
  unfold wordF word4; simp [wIter]
theorem word_3 (a b c d : Nat) : wordF [(a : Int), b, c, d] 3 = ((word4 b c d a : Nat) : Int) := by
  unfold wordF word4; simp [wIter]
noncomputable def eqI (x : Int) (v : Nat) : Bool := match x with
  | .ofNat y => Nat.beq y v
  | _ => false
theorem eqI_eq {x : Int} {v : Nat} (h : eqI x v = true) : x = (v : Int) := by
  unfold eqI at h
  split at h
  · rw [Nat.eq_of_beq_eq_true h]; rfl
  · cases h
theorem tabAt_nat (a k : Nat) : tabAt a (k : Int) = (tabL a).getD k 0 := by unfold tabAt; rw [Int.toNat_natCast]
noncomputable def okRows (f : Nat → List Int → Bool) (n : Nat) : Nat → List (List Int) → Bool :=
  @Nat.rec (fun _ => Nat → List (List Int) → Bool) (fun _ _ => true) (fun _ ih k ls => match f k (ls.map fun l => l.headD 0) with | true => force (k + 1) fun k' => ih k' (ls.map List.tail) | false => false) n
theorem okRows_at (f : Nat → List Int → Bool) : ∀ (n k : Nat) (ls : List (List Int)), okRows f n k ls = true → ∀ j, j < n → f (k + j) (ls.map fun l => l.getD j 0) = true
  | 0, _, _, _, j, h2 => absurd h2 (Nat.not_lt_zero _)
  | n + 1, k, ls, h, j, h2 => by
    have h : (match f k (ls.map fun l => l.headD 0) with | true => force (k + 1) fun k' => okRows f n k' (ls.map List.tail) | false => false) = true := h
    cases hk : f k (ls.map fun l => l.headD 0) with
    | false => rw [hk] at h; cases h
    | true =>
      rw [hk] at h
      have h : okRows f n (k + 1) (ls.map List.tail) = true := by
        have h : (force (k + 1) fun k' => okRows f n k' (ls.map List.tail)) = true := h
        rw [force_eq] at h; exact h
      cases j with
      | zero =>
        have e : (ls.map fun l => l.getD 0 0) = ls.map fun l : List Int => l.headD 0 := List.map_congr_left fun l _ => by cases l <;> rfl
        rw [e]; exact hk
      | succ j =>
        have h3 := okRows_at f n (k + 1) _ h j (by omega)
        rw [List.map_map] at h3
        have e : (ls.map ((fun l : List Int => l.getD j 0) ∘ List.tail)) = ls.map fun l : List Int => l.getD (j + 1) 0 := List.map_congr_left fun l _ => by cases l <;> simp
        rw [e, show k + 1 + j = k + (j + 1) by omega] at h3
        exact h3
noncomputable def row1 (n : Nat) (r : List Int) : Bool := match r with
  | [s, t1, t2, t3, t4, u1, u2, u3, u4] =>
    force (boxedN n) fun b => force (timesN b 2) fun a2 => force (timesN b 3) fun a3 => force (timesN n 14) fun c14 => force (timesN n 9) fun c9 => force (timesN n 13) fun c13 => force (timesN n 11) fun c11 =>
    Nat.ble (b + 1) 256 && eqI s b && eqI ((tabL 43).getD b 0) n &&
    eqI t1 (word4 a2 b b a3) && eqI t2 (word4 a3 a2 b b) && eqI t3 (word4 b a3 a2 b) && eqI t4 (word4 b b a3 a2) &&
    eqI u1 (word4 c14 c9 c13 c11) && eqI u2 (word4 c11 c14 c9 c13) && eqI u3 (word4 c13 c11 c14 c9) && eqI u4 (word4 c9 c13 c11 c14)
  | _ => false
noncomputable def row2 (_ : Nat) (r : List Int) : Bool := match r with
  | [si, t5, t6, t7, t8] => (match si with
    | .ofNat n => force (timesN n 14) fun c14 => force (timesN n 9) fun c9 => force (timesN n 13) fun c13 => force (timesN n 11) fun c11 =>
      eqI t5 (word4 c14 c9 c13 c11) && eqI t6 (word4 c11 c14 c9 c13) && eqI t7 (word4 c13 c11 c14 c9) && eqI t8 (word4 c9 c13 c11 c14)
    | _ => false)
  | _ => false
theorem rows1 : okRows row1 256 0 [tabL 40, tabL 46, tabL 49, tabL 52, tabL 55, tabL 70, tabL 73, tabL 76, tabL 79] = true := by kernel_rfl
theorem rows2 : okRows row2 256 0 [tabL 43, tabL 58, tabL 61, tabL 64, tabL 67] = true := by kernel_rfl
structure PlaceOk (p : Int) : Prop where
  b0 : 0 ≤ boxed p
  b1 : boxed p < 256
  s : tabAt 40 p = boxed p
  si : tabAt 43 (boxed p) = p
  t1 : tabAt 46 p = wordF [times (boxed p) 2, boxed p, boxed p, times (boxed p) 3] 0
  t2 : tabAt 49 p = wordF [times (boxed p) 2, boxed p, boxed p, times (boxed p) 3] 1
  t3 : tabAt 52 p = wordF [times (boxed p) 2, boxed p, boxed p, times (boxed p) 3] 2
  t4 : tabAt 55 p = wordF [times (boxed p) 2, boxed p, boxed p, times (boxed p) 3] 3
  u1 : tabAt 70 p = wordF [times p 14, times p 9, times p 13, times p 11] 0
  u2 : tabAt 73 p = wordF [times p 14, times p 9, times p 13, times p 11] 1
  u3 : tabAt 76 p = wordF [times p 14, times p 9, times p 13, times p 11] 2
  u4 : tabAt 79 p = wordF [times p 14, times p 9, times p 13, times p 11] 3
  t5 : tabAt 58 (boxed p) = wordF [times p 14, times p 9, times p 13, times p 11] 0
  t6 : tabAt 61 (boxed p) = wordF [times p 14, times p 9, times p 13, times p 11] 1
  t7 : tabAt 64 (boxed p) = wordF [times p 14, times p 9, times p 13, times p 11] 2
  t8 : tabAt 67 (boxed p) = wordF [times p 14, times p 9, times p 13, times p 11] 3
theorem place_ok {p : Int} (h0 : 0 ≤ p) (h1 : p < 256) : PlaceOk p := by
  obtain ⟨n, rfl⟩ := Int.eq_ofNat_of_zero_le h0
  have hn : n < 256 := by omega
  have h := okRows_at row1 256 0 _ rows1 n hn
  simp only [List.map_cons, List.map_nil, row1, force_eq, Bool.and_eq_true, Nat.zero_add] at h
  obtain ⟨⟨⟨⟨⟨⟨⟨⟨⟨⟨hb, hs⟩, hsi⟩, h1⟩, h2⟩, h3⟩, h4⟩, h5⟩, h6⟩, h7⟩, h8⟩ := h
  have hb : boxedN n < 256 := Nat.le_of_ble_eq_true hb
  have g := okRows_at row2 256 0 _ rows2 (boxedN n) hb
  have hsi := eqI_eq hsi
  simp only [List.map_cons, List.map_nil, Nat.zero_add] at g
  rw [hsi] at g
  simp only [row2, force_eq, Bool.and_eq_true] at g
  obtain ⟨⟨⟨g5, g6⟩, g7⟩, g8⟩ := g
  have eb := boxed_nat hn
  have k2 : times (boxed (n : Int)) 2 = ((timesN (boxedN n) 2 : Nat) : Int) := by rw [eb]; exact times_nat 2 hb
  have k3 : times (boxed (n : Int)) 3 = ((timesN (boxedN n) 3 : Nat) : Int) := by rw [eb]; exact times_nat 3 hb
  have k14 : times (n : Int) 14 = ((timesN n 14 : Nat) : Int) := times_nat 14 hn
  have k9 : times (n : Int) 9 = ((timesN n 9 : Nat) : Int) := times_nat 9 hn
  have k13 : times (n : Int) 13 = ((timesN n 13 : Nat) : Int) := times_nat 13 hn
  have k11 : times (n : Int) 11 = ((timesN n 11 : Nat) : Int) := times_nat 11 hn
  constructor
  · rw [eb]; omega
  · rw [eb]; omega
  · rw [eb, tabAt_nat]; exact eqI_eq hs
  · rw [eb, tabAt_nat]; exact hsi
  · rw [k2, k3, eb, word_0, tabAt_nat]; exact eqI_eq h1
  · rw [k2, k3, eb, word_1, tabAt_nat]; exact eqI_eq h2
  · rw [k2, k3, eb, word_2, tabAt_nat]; exact eqI_eq h3
  · rw [k2, k3, eb, word_3, tabAt_nat]; exact eqI_eq h4
  · rw [k14, k9, k13, k11, word_0, tabAt_nat]; exact eqI_eq h5
  · rw [k14, k9, k13, k11, word_1, tabAt_nat]; exact eqI_eq h6
  · rw [k14, k9, k13, k11, word_2, tabAt_nat]; exact eqI_eq h7
  · rw [k14, k9, k13, k11, word_3, tabAt_nat]; exact eqI_eq h8
  · rw [k14, k9, k13, k11, eb, word_0, tabAt_nat]; exact eqI_eq g5
  · rw [k14, k9, k13, k11, eb, word_1, tabAt_nat]; exact eqI_eq g6
  · rw [k14, k9, k13, k11, eb, word_2, tabAt_nat]; exact eqI_eq g7
  · rw [k14, k9, k13, k11, eb, word_3, tabAt_nat]; exact eqI_eq g8
end Mine
namespace Mine
def tab256 : List Addr := [40, 43, 46, 49, 52, 55, 58, 61, 64, 67, 70, 73, 76, 79]
theorem tab256_len {a : Addr} (h : a ∈ tab256) : (tabL a).length = 256 := by
  have e : tab256.map (fun a => (tabL a).length) = tab256.map fun _ => 256 := (List.cons.inj tabs_len).2
  exact map_at e h
section
variable {prog : Program} {w : World} {A : Around} {E : Value → Shared → Prop} {s : Shared} {h₀ : Heap} {L a : Addr} {m : Str → Option Value} {k : Int} {u : Tok} {Q : Value → Shared → Prop}
theorem tab_item256 {value slice : PySem.Expr} (F : Fr h₀ L s.heap m) (X : (hd.heap_39 w.params).In h₀) (ha : a ∈ tab256) (h0 : 0 ≤ k) (h1 : k < 256) (h : ∀ t, Q (.int (tabAt a k) t) s)
    (hs : subscripted slice false (.ref a) (.int k u) = operate [.ref a, .int k u] (getItem (.ref a) (.int k u)) := by with_unfolding_all rfl) :
    wpAny (model prog w) A (subscriptTail value slice (.ref a) (.int k u)) Q E s :=
  tab_item F X (List.mem_cons_of_mem _ ha) h0 (by rw [tab256_len ha]; exact h1) (by omega) h hs
end
-- the walk: step by step, up to a loop or a loop's turn's end
local macro_rules | `(tactic| tb_start) => `(tactic| repeat' (first | (k_unfold; (try dsimp only)) | ((fail_if_success (with_reducible show wpAny _ _ (pyIter _) _ _ _)); (fail_if_success (with_reducible show InvEndN _ _ _ _ _ _ _)); first | walk1 | (dsimp only; walk1) | (leave1; try dsimp only))))
-- a call of _law_times is one step
local macro_rules | `(tactic| walk_at "call ref") => `(tactic| (k_here; (with_reducible show wpAny _ _ (call (Value.ref 122) [Value.int _ _, Value.int _ _]) _ _ _); k_dflt (refine' SpecI.use (times_spec _ _ _ _ _ _) ?k1 ?k2 ?k3 ?k4 ?k5 ?kK ?kd ?ku ?_; (case k1 => k_asm); (case k2 => k_asm); (case k3 => k_asm); (case k4 => k_asm); (case k5 => k_asm); (case kK => exact rfl); (case kd => ktr_room); (case ku => ktr_units); k_whole); intro t' h' tk' F' N'; (try dsimp only); (try k_fold)))
-- a call of _law_inverse is one step
local macro_rules | `(tactic| walk_at "call ref") => `(tactic| (k_here; (with_reducible show wpAny _ _ (call (Value.ref 129) [Value.int _ _]) _ _ _); k_dflt (refine' SpecI.use (inverse_spec _ _ _ _) ?k1 ?k2 ?k3 ?k4 ?k5 ?kK ?kd ?ku ?_; (case k1 => k_asm); (case k2 => k_asm); (case k3 => k_asm); (case k4 => k_asm); (case k5 => k_asm); (case kK => exact rfl); (case kd => ktr_room); (case ku => ktr_units); k_whole); intro t' h' tk' F' N'; (try dsimp only); (try k_fold)))
-- a call of _law_boxed is one step
local macro_rules | `(tactic| walk_at "call ref") => `(tactic| (k_here; (with_reducible show wpAny _ _ (call (Value.ref 136) [Value.int _ _]) _ _ _); k_dflt (refine' SpecI.use (boxed_spec _ _ _ _) ?k1 ?k2 ?k3 ?k4 ?k5 ?kK ?kd ?ku ?_; (case k1 => k_asm); (case k2 => k_asm); (case k3 => k_asm); (case k4 => k_asm); (case k5 => k_asm); (case kK => exact rfl); (case kd => ktr_room); (case ku => ktr_units); k_whole); intro t' h' tk' F' N'; (try dsimp only); (try k_fold)))
-- a call of _law_word is one step
local macro_rules | `(tactic| walk_at "call ref") => `(tactic| (k_here; (with_reducible show wpAny _ _ (call (Value.ref 143) [Value.ref _, Value.int _ _]) _ _ _); k_dflt (refine' SpecI.use (word_spec _ _ _ _ _ _ _ _ ?hm ?hi ?h4) ?k1 ?k2 ?k3 ?k4 ?k5 ?kK ?kd ?ku ?_; (case k1 => k_asm); (case k2 => k_asm); (case k3 => k_asm); (case k4 => k_asm); (case k5 => k_asm); (case kK => exact rfl); (case kd => ktr_room); (case ku => ktr_units); (case hm => k_mem); (case hi => first | with_reducible assumption | exact .cons _ _ (.cons _ _ (.cons _ _ (.cons _ _ .nil)))); (case h4 => rfl); k_whole); intro t' h' tk' F' N'; (try simp only [List.map_cons, List.map_nil]); (try dsimp only); (try k_fold)))
-- an item of a table
local macro_rules | `(tactic| walk_at "subscriptTail") => `(tactic| (k_here; (with_reducible show wpAny _ _ (subscriptTail _ _ (Value.ref _) (Value.int _ _)) _ _ _); k_dflt (refine' tab_item256 ?F ?X ?a ?k0 ?k1 ?_; (case a => decide); (case F => k_asm); (case X => k_asm); (case k0 => omega); (case k1 => omega); k_whole); intro _))
-- into a def whose locals a comprehension captures
local macro_rules | `(tactic| ktr_rel) => `(tactic| (refine' code_defC ?k1 ?k2 ?k3 ?k4 ?k5 ?kA ?kF ?kK ?k6 ?k7 ?k8 ?k9 ?kB ?kD ?_ ?c2 ?c3 ?c4; (case kA => exact rfl); (case kF => exact rfl); (case kK => first | exact rfl | assumption); (case k1 => k_asm); (case k2 => k_asm); (case k3 => k_asm); (case k4 => k_asm); (case k5 => k_asm); (case k6 => k_is); (case k7 => k_is); (case k8 => ktr_room); (case k9 => exact BindsTo.of_eq rfl); (case kB => exact rfl); (case kD => decide +kernel); (case c2 => exact rfl); (case c3 => exact rfl); (case c4 => exact rfl); k_whole; intro g' L' h' tk' cells' FG' F' N' Y' B' X' T' l1; (try k_lt l1); k_cells Y'; (try simp only [List.cons_append, List.nil_append] at N'); (try dsimp only); (try k_lift B'); (try k_fold)))
theorem unr_hd {h₀ : Heap} {L I : Addr} {it : Obj} {rest : (Str → Option Value) → List (Addr × Obj) → Prop} {s₁ : Shared} {h' : Heap} {tk : Nat} {m' : Str → Option Value} {news' : List (Addr × Obj)} (F : Fr h₀ L h' m') (N : News h₀ L h' ((I, it) :: news'))
    (off : AllLt I news') (r : rest m' news') : UnrEnd h₀ L s₁ I it rest { s₁ with heap := h', toks := tk } :=
  UnrEnd.intro F N news' (fun _ hp => hp) (fun p hp => Nat.ne_of_lt (kst_ltOf off p hp)) r
-- the end of a turn of a loop that is walked turn by turn, the loop's own object at the ledger's head
local macro_rules | `(tactic| walk_at "UnrEnd") => `(tactic| ((rename News _ _ _ _ => uN'); (repeat (with_reducible rename (_ ∧ _) => hc9; obtain ⟨_, _⟩ := hc9)); refine unr_hd (by assumption) uN' ?off ?_; (case off => ((simp only [AllLt]); (repeat' apply And.intro) <;> first | assumption | omega | trivial)); (try clear uN')))
-- steps with no stop at a loop
local macro_rules | `(tactic| tb_rel) => `(tactic| repeat' (first | (k_unfold; (try dsimp only)) | walk1 | (dsimp only; walk1) | (leave1; try dsimp only)))
set_option maxHeartbeats 8000000 in
theorem place_spec (w : World) (a : Int) (ta : Tok) (news : Ledger) (h0 : 0 ≤ a) (h1 : a < 256) : Spec 4 w 148 [.int a ta] news (fun r n => n = news ∧ r = .bool true) := by
  unfold Spec
  k_fill
  intro p loose mean mg mb dp un gd cn cs ad ccd cl outer A₀ base h₀ L m s Q E B F X N T hk hd hu hret
  have P := place_ok h0 h1
  obtain ⟨b0, b1, eS, eSi, e1, e2, e3, e4, f1, f2, f3, f4, g1, g2, g3, g4⟩ := P
  refine wpAny_call ?_
  k_dflt ktr_rel
  tb_rel
  all_goals first
    | exact absurd eS (by assumption) | exact absurd eSi (by assumption)
    | exact absurd e1 (by assumption) | exact absurd e2 (by assumption) | exact absurd e3 (by assumption) | exact absurd e4 (by assumption)
    | exact absurd f1 (by assumption) | exact absurd f2 (by assumption) | exact absurd f3 (by assumption) | exact absurd f4 (by assumption)
    | exact absurd g1 (by assumption) | exact absurd g2 (by assumption) | exact absurd g3 (by assumption) | exact absurd g4 (by assumption)
    | exact hret _ _ _ _ (by assumption) (cb_drop (by assumption) (by kcj_all)) ⟨rfl, rfl⟩
end Mine
namespace Mine
-- steps with no stop at a loop
local macro_rules | `(tactic| tb_rel) => `(tactic| repeat' (first | (k_unfold; (try dsimp only)) | walk1 | (dsimp only; walk1) | (leave1; try dsimp only)))
structure Cells (vs : List Value) (ns : List Int) : Prop where
  are : IntsAre vs ns
  lo : 1 ≤ ns.length
  hi : ns.length ≤ 63
  pos : ∀ x ∈ ns, 0 ≤ x
theorem fm_lo {a b : Int} (h : 0 < b) : 0 ≤ a.fmod b := by rw [Int.fmod_eq_emod_of_nonneg _ (by omega)]; exact Int.emod_nonneg _ (by omega)
theorem fm_hi {a b : Int} (h : 0 < b) : a.fmod b < b := by rw [Int.fmod_eq_emod_of_nonneg _ (by omega)]; exact Int.emod_lt_of_pos _ h
theorem Cells.set {vs : List Value} {ns : List Int} (h : Cells vs ns) {k : Nat} {v : Int} {u : Tok} (h' : IntsAre (vs.set k (.int v u)) (ns.set k v)) (hv : 0 ≤ v) : Cells (vs.set k (.int v u)) (ns.set k v) :=
  ⟨h', by rw [List.length_set]; exact h.lo, by rw [List.length_set]; exact h.hi, fun x hx => by
    rcases List.mem_or_eq_of_mem_set hx with hx | rfl
    · exact h.pos x hx
    · exact hv⟩
theorem getD_pos {ns : List Int} (h : ∀ x ∈ ns, 0 ≤ x) (k : Nat) : 0 ≤ ns.getD k 0 := by
  by_cases hk : k < ns.length
  · rw [List.getD_eq_getElem?_getD, List.getElem?_eq_getElem hk]; exact h _ (List.getElem_mem hk)
  · rw [List.getD_eq_getElem?_getD, List.getElem?_eq_none (by omega)]; exact Int.le_refl 0
theorem fdiv_pos {a b : Int} (h : 0 ≤ a) (hb : 0 < b) : 0 ≤ a.fdiv b := by rw [Int.fdiv_eq_ediv_of_nonneg _ (by omega)]; exact Int.ediv_nonneg h (by omega)
set_option maxHeartbeats 8000000 in
theorem take_spec (w : World) (st cl : Addr) (i : Int) (ti : Tok) (n1 n2 : Nat) (vs : List Value) (ns : List Int) (most : Int) (tm : Tok) (hlt : @LT.lt Nat _ cl st) (hc : Cells vs ns) (hi0 : 0 ≤ i) (hi1 : i ≤ 3) (hm0 : 0 < most) (hm1 : most ≤ 256) :
    Spec 1 w 115 [.ref st, .int most tm] [(st, listOf #[.int i ti, .ref cl] n1), (cl, listOf vs.toArray n2)] (fun r news' => ∃ j tj i' ti' vs' ns', r = .int j tj ∧ 0 ≤ j ∧ j < most ∧ news' = [(st, listOf #[.int i' ti', .ref cl] n1), (cl, listOf vs'.toArray n2)] ∧ Cells vs' ns' ∧ 0 ≤ i' ∧ i' ≤ i + 1) := by
  unfold Spec
  k_fill
  intro p loose mean mg mb dp un gd cn cs ad ccd cll outer A₀ base h₀ L m s Q E B F X N T hk hd hu hret
  have hc' := hc
  obtain ⟨hI, hl1, hl2, hpos⟩ := hc
  refine wpAny_call ?_
  k_dflt cell_enter
  tb_rel
  · exact hret _ _ _ _ (by assumption) (by assumption) ⟨_, _, i, ti, _, _, rfl, fm_lo hm0, fm_hi hm0, rfl, hc'.set (by assumption) (fdiv_pos (getD_pos hpos _) hm0), hi0, by omega⟩
  · exact hret _ _ _ _ (by assumption) (by assumption) ⟨_, _, i + 1, _, _, _, rfl, fm_lo hm0, fm_hi hm0, rfl, hc', by omega, by omega⟩
/-! ## the state -/
def SpecB (k : Nat) (w : World) (f : Addr) (vs : List Value) (news : Ledger) (Pre : Heap → Prop) (Post : Value → Ledger → Prop) : Prop :=
  ∀ (p : Program) (loose : List Str) (mean : ExcName → Option Value) (mg mb : Str → Option Value) (dp un : Nat) (gd : Option (List Code)) (cn : Str) (cs : Scope) (a : Addr) (ccd : Value) (cl : List (Str × Addr)) (outer : List Env) (A₀ : Around) (base h₀ : Heap) (L : Addr) (m : Str → Option Value) (s : Shared) (Q E : Value → Shared → Prop),
    Below A₀ base outer h₀ → Fr h₀ L s.heap m → (hd.heap_39 w.params).In h₀ → News h₀ L s.heap news → Top p loose mean mg mb h₀ → cs.kind = .function → dp + 10 * k < recursionLimit → un + 100 * k < cLine → Pre base →
    (∀ r news' h' tk', Fr h₀ L h' m → News h₀ L h' news' → Post r news' → Q r { s with heap := h', toks := tk' }) →
    wpAny (model PySem.Challenge.rw_yu0003_03.row.prog w) (ktrTop dp un gd cn cs L a ccd cl outer) (call (.ref f) vs) Q E s
set_option maxHeartbeats 8000000 in
theorem state_spec (w : World) (l : Addr) (vs : List Value) (ns : List Int) (hi : IntsAre vs ns) (h63 : ns.length ≤ 63) :
    SpecB 1 w 108 [.ref l] [] (fun base => base.IsList l vs.toArray) (fun r news' => ∃ st cl t n vs' ns', r = .ref st ∧ news' = [(st, listOf #[.int 0 t, .ref cl] 0), (cl, listOf vs'.toArray n)] ∧ @LT.lt Nat _ cl st ∧ Cells vs' ns') := by
  unfold SpecB
  k_fill
  intro p loose mean mg mb dp un gd cn cs ad ccd cll outer A₀ base h₀ L m s Q E B F X N T hk hd hu hl hret
  refine wpAny_call ?_
  k_dflt cell_enter
  tb_rel
  · refine' hret _ _ _ _ (by assumption) (cb_drop (by assumption) ?sub) ⟨_, _, _, _, _, [0], rfl, rfl, ?lt, ?cells⟩
    case sub => k_dflt exact List.forall_mem_cons.mpr ⟨by k_mem, List.forall_mem_cons.mpr ⟨by k_mem, List.forall_mem_nil _⟩⟩
    case lt => omega
    case cells => exact ⟨.cons _ _ .nil, by decide, by decide, fun x hx => by rcases List.mem_cons.mp hx with rfl | hx; exact Int.le_refl 0; cases hx⟩
  · refine' hret _ _ _ _ (by assumption) (cb_drop (by assumption) ?sub) ⟨_, _, _, _, _, _, rfl, rfl, ?lt, ?cells⟩
    case sub => k_dflt exact List.forall_mem_cons.mpr ⟨by k_mem, List.forall_mem_cons.mpr ⟨by k_mem, List.forall_mem_nil _⟩⟩
    case lt => omega
    case cells =>
      refine ⟨by assumption, ?_, ?_, fun x hx => ?_⟩
      · omega
      · rw [List.length_map, List.length_take]; omega
      · obtain ⟨y, _, rfl⟩ := List.mem_map.mp hx
        split <;> omega
end Mine
namespace Mine
/-! ## rows of four ints, kept by their addresses -/
def RowObj (o : Obj) : Prop := ∃ (vs : List Value) (ns : List Int) (n : Nat), o = listOf vs.toArray n ∧ IntsAre vs ns ∧ ns.length = 4
structure MatOk (rows : List Addr) (mat : Ledger) : Prop where
  rows_in : ∀ a ∈ rows, ∃ o, (a, o) ∈ mat
  objs : ∀ p ∈ mat, RowObj p.2
def updAt (a : Addr) (o : Obj) (l : Ledger) : Ledger := l.map fun p => if p.1 = a then (a, o) else p
theorem updAt_adr (a : Addr) (o : Obj) (l : Ledger) : (updAt a o l).map (·.1) = l.map (·.1) := by
  unfold updAt
  rw [List.map_map]
  refine List.map_congr_left fun p _ => ?_
  show (if p.1 = a then (a, o) else p).1 = p.1
  split
  · rename_i h; exact h.symm
  · rfl
theorem updAt_mem {a : Addr} {o : Obj} {l : Ledger} {p : Addr × Obj} (h : p ∈ updAt a o l) : p = (a, o) ∨ (p ∈ l ∧ p.1 ≠ a) := by
  obtain ⟨q, hq, rfl⟩ := List.mem_map.mp h
  by_cases e : q.1 = a
  · rw [if_pos e]; exact .inl rfl
  · rw [if_neg e]; exact .inr ⟨hq, e⟩
theorem MatOk.upd {rows : List Addr} {mat : Ledger} (h : MatOk rows mat) {a : Addr} {o : Obj} (ho : RowObj o) : MatOk rows (updAt a o mat) where
  rows_in := fun b hb => by
    obtain ⟨o', ho'⟩ := h.rows_in b hb
    by_cases e : b = a
    · exact ⟨o, List.mem_map.mpr ⟨(b, o'), ho', by rw [if_pos e, e]⟩⟩
    · exact ⟨o', List.mem_map.mpr ⟨(b, o'), ho', by rw [if_neg e]⟩⟩
  objs := fun p hp => by
    rcases updAt_mem hp with rfl | ⟨hp, _⟩
    · exact ho
    · exact h.objs p hp
inductive Spl (a : Addr) (mat mat' : Ledger) : Ledger → Ledger → Prop
  | tail {post : Ledger} : (∀ p ∈ post, p.1 ≠ a ∨ ¬ RowObj p.2) → Spl a mat mat' (mat ++ post) (mat' ++ post)
  | last : Spl a mat mat' mat mat'
  | cons {p : Addr × Obj} {r r' : Ledger} : (p.1 ≠ a ∨ ¬ RowObj p.2) → Spl a mat mat' r r' → Spl a mat mat' (p :: r) (p :: r')
theorem Spl.sub {a : Addr} {mat mat' : Ledger} : ∀ {l l' : Ledger}, Spl a mat mat' l l' → ∀ p ∈ mat, p ∈ l
  | _, _, .tail _, p, hp => List.mem_append_left _ hp
  | _, _, .last, p, hp => hp
  | _, _, .cons _ r, p, hp => List.mem_cons_of_mem _ (r.sub p hp)
theorem Spl.at {a : Addr} {mat mat' : Ledger} : ∀ {l l' : Ledger}, Spl a mat mat' l l' → ∀ p ∈ l', p ∈ mat' ∨ (p ∈ l ∧ (p.1 ≠ a ∨ ¬ RowObj p.2))
  | _, _, .tail h, p, hp => (List.mem_append.mp hp).elim .inl fun q => .inr ⟨List.mem_append_right _ q, h p q⟩
  | _, _, .last, p, hp => .inl hp
  | _, _, .cons h r, p, hp => by
    rcases List.mem_cons.mp hp with rfl | hp
    · exact .inr ⟨List.mem_cons_self, h⟩
    · rcases r.at p hp with q | ⟨q, e⟩
      · exact .inl q
      · exact .inr ⟨List.mem_cons_of_mem _ q, e⟩
section
variable {prog : Program} {w : World} {A : Around} {E : Value → Shared → Prop} {s : Shared} {h₀ : Heap} {L a : Addr} {m : Str → Option Value} {news mat : Ledger} {rows : List Addr} {k x : Int} {t u : Tok}
theorem mat_set {Q : Unit → Shared → Prop} (F : Fr h₀ L s.heap m) (N : News h₀ L s.heap news) (hM : MatOk rows mat) (ha : a ∈ rows) (h0 : 0 ≤ k) (h1 : k < 4) {g : Ledger → Ledger} (S : ∀ mat', Spl a mat mat' news (g mat'))
    (h : ∀ h' mat', Fr h₀ L h' m → MatOk rows mat' → mat'.map (·.1) = mat.map (·.1) → News h₀ L h' (g mat') → Q () { s with heap := h' }) :
    wpAny (model prog w) A (setItem (.ref a) (.int k t) (.int x u)) Q E s := by
  obtain ⟨o, ho⟩ := hM.rows_in a ha
  obtain ⟨vs, ns, n, rfl, hi, h4⟩ := hM.objs _ ho
  have z := N _ ((S mat).sub _ ho)
  have hl : vs.length = ns.length := hi.length
  have hs : vs.toArray.size = 4 := by rw [List.size_toArray, hl, h4]
  have ho' : RowObj (listOf (vs.set k.toNat (.int x u)).toArray n) := ⟨_, _, n, rfl, ints_set hi _, by rw [List.length_set, h4]⟩
  refine ki_setAt z.1 h0 (by omega) (by omega) (h _ (updAt a (listOf (vs.set k.toNat (.int x u)).toArray n) mat) (F.change (Heap.SameBut.update ..) z.2.1 z.2.2) (hM.upd ho') (updAt_adr ..) ?_)
  have hsb : Heap.SameBut a s.heap (s.heap.update a (Obj.mapSeq fun xs => xs.setIfInBounds k.toNat (.int x u))) := Heap.SameBut.update ..
  have keep : ∀ p ∈ news, p.1 ≠ a → (s.heap.update a (Obj.mapSeq fun xs => xs.setIfInBounds k.toNat (.int x u))).get? p.1 = some p.2 := fun p hp e => hsb.extBut _ _ e (N p hp).1
  have here : (s.heap.update a (Obj.mapSeq fun xs => xs.setIfInBounds k.toNat (.int x u))).get? a = some (listOf (vs.set k.toNat (.int x u)).toArray n) := by
    have q := PySem.IsL.update z.1 (fun xs : Array Value => xs.setIfInBounds k.toNat (.int x u))
    have e1 : vs.toArray.setIfInBounds k.toNat (.int x u) = (vs.set k.toNat (.int x u)).toArray := by
      apply Array.toList_inj.mp
      simp
    have e2 : (if (vs.set k.toNat (.int x u)).toArray.size == vs.toArray.size then n else n + 1) = n := by simp
    simp only [e1, e2] at q
    exact q
  intro p hp
  rcases (S _).at p hp with hp | ⟨hp, e⟩
  · rcases updAt_mem hp with rfl | ⟨hp, e⟩
    · exact ⟨here, z.2.1, z.2.2⟩
    · have hp' := (S mat).sub p hp
      exact ⟨keep p hp' e, (N p hp').2⟩
  · refine ⟨keep p hp ?_, (N p hp).2⟩
    rcases e with e | e
    · exact e
    · intro q
      have g1 := (N p hp).1
      rw [q, z.1] at g1
      exact e ⟨vs, ns, n, (Option.some.inj g1).symm, hi, h4⟩
theorem mat_list (N : News h₀ L s.heap news) (hM : MatOk rows mat) (ha : a ∈ rows) (sub : ∀ p ∈ mat, p ∈ news) : ∃ (vs : List Value) (ns : List Int), s.heap.IsList a vs.toArray ∧ IntsAre vs ns ∧ ns.length = 4 := by
  obtain ⟨o, ho⟩ := hM.rows_in a ha
  obtain ⟨vs, ns, n, rfl, hi, h4⟩ := hM.objs _ ho
  exact ⟨vs, ns, PySem.IsL.isList (n := n) (N _ (sub _ ho)).1, hi, h4⟩
theorem mat_item {value slice : PySem.Expr} {Q : Value → Shared → Prop} (N : News h₀ L s.heap news) (hM : MatOk rows mat) (ha : a ∈ rows) (sub : ∀ p ∈ mat, p ∈ news) (h0 : 0 ≤ k) (h1 : k < 4) (h : ∀ x t, Q (.int x t) s)
    (hs : subscripted slice false (.ref a) (.int k u) = operate [.ref a, .int k u] (getItem (.ref a) (.int k u)) := by with_unfolding_all rfl) :
    wpAny (model prog w) A (subscriptTail value slice (.ref a) (.int k u)) Q E s := by
  obtain ⟨vs, ns, hl, hi, h4⟩ := mat_list N hM ha sub
  exact item_anyK hl hi h0 (by omega) (by omega) (fun t => h _ t) hs
theorem mat_get {Q : Value → Shared → Prop} (N : News h₀ L s.heap news) (hM : MatOk rows mat) (ha : a ∈ rows) (sub : ∀ p ∈ mat, p ∈ news) (h0 : 0 ≤ k) (h1 : k < 4) (h : ∀ x t, Q (.int x t) s) :
    wpAny (model prog w) A (getItem (.ref a) (.int k u)) Q E s := by
  obtain ⟨vs, ns, hl, hi, h4⟩ := mat_list N hM ha sub
  exact getItem_intsK hl hi h0 (by omega) (by omega) (fun t => h _ t)
theorem not_row_cls {o : Obj} (h : o.cls ≠ .type "list") : ¬ RowObj o := by
  rintro ⟨vs, ns, n, rfl, _, _⟩
  exact h rfl
/-- a list of references -/
abbrev refsObj (as : List Addr) (n : Nat) : Obj := listOf (as.map Value.ref).toArray n
theorem not_row_refs {as : List Addr} {n : Nat} (h : as ≠ []) : ¬ RowObj (refsObj as n) := by
  rintro ⟨vs, ns, k, e, hi, h4⟩
  cases as with
  | nil => exact h rfl
  | cons a r =>
    have e2 : (Data.seq ((a :: r).map Value.ref).toArray n) = Data.seq vs.toArray k := congrArg Obj.data e
    have e3 : ((a :: r).map Value.ref).toArray = vs.toArray := by injection e2
    have e4 : (a :: r).map Value.ref = vs := by simpa using e3
    rw [← e4] at hi
    cases hi
theorem refs_get {Q : Value → Shared → Prop} {l : Addr} {as : List Addr} {n : Nat} (N : News h₀ L s.heap news) (hm : (l, refsObj as n) ∈ news) (h0 : 0 ≤ k) (h1 : k < (as.length : Int)) (hfit : k < 2 ^ 63) (h : Q (.ref (as.getD k.toNat 0)) s) :
    wpAny (model prog w) A (getItem (.ref l) (.int k u)) Q E s := by
  have hl : s.heap.IsList l (as.map Value.ref).toArray := PySem.IsL.isList (n := n) (N _ hm).1
  refine wpAny_getItem_list hl h0 hfit ?_ h
  have hk : k.toNat < as.length := by omega
  simp [List.getD_eq_getElem?_getD, hk]
theorem refs_item {value slice : PySem.Expr} {Q : Value → Shared → Prop} {l : Addr} {as : List Addr} {n : Nat} (N : News h₀ L s.heap news) (hm : (l, refsObj as n) ∈ news) (h0 : 0 ≤ k) (h1 : k < (as.length : Int)) (hfit : k < 2 ^ 63) (h : Q (.ref (as.getD k.toNat 0)) s)
    (hs : subscripted slice false (.ref l) (.int k u) = operate [.ref l, .int k u] (getItem (.ref l) (.int k u)) := by with_unfolding_all rfl) :
    wpAny (model prog w) A (subscriptTail value slice (.ref l) (.int k u)) Q E s := by
  have hl : s.heap.IsList l (as.map Value.ref).toArray := PySem.IsL.isList (n := n) (N _ hm).1
  exact tail_any hl.typeIs slot_list_getitem.lookup (refs_get N hm h0 h1 hfit h) hs
theorem getD_in {as : List Addr} {k : Nat} (h : k < as.length) : as.getD k 0 ∈ as := by
  rw [List.getD_eq_getElem?_getD, List.getElem?_eq_getElem h]
  exact List.getElem_mem h
end
end Mine
namespace Mine
-- steps with no stop at a loop
local macro_rules | `(tactic| tb_rel) => `(tactic| repeat' (first | (k_unfold; (try dsimp only)) | walk1 | (dsimp only; walk1) | (leave1; try dsimp only)))
-- into a def whose locals a comprehension captures
local macro_rules | `(tactic| ktr_rel) => `(tactic| (refine' code_defC ?k1 ?k2 ?k3 ?k4 ?k5 ?kA ?kF ?kK ?k6 ?k7 ?k8 ?k9 ?kB ?kD ?_ ?c2 ?c3 ?c4; (case kA => exact rfl); (case kF => exact rfl); (case kK => first | exact rfl | assumption); (case k1 => k_asm); (case k2 => k_asm); (case k3 => k_asm); (case k4 => k_asm); (case k5 => k_asm); (case k6 => k_is); (case k7 => k_is); (case k8 => ktr_room); (case k9 => exact BindsTo.of_eq rfl); (case kB => exact rfl); (case kD => decide +kernel); (case c2 => exact rfl); (case c3 => exact rfl); (case c4 => exact rfl); k_whole; intro g' L' h' tk' cells' FG' F' N' Y' B' X' T' l1; (try k_lt l1); k_cells Y'; (try simp only [List.cons_append, List.nil_append] at N'); (try dsimp only); (try k_lift B'); (try k_fold)))
section
open LCg
variable {prog : Program} {w : World} {A : Around} {s : Shared} {h₀ : Heap} {L : Addr} {m : Str → Option Value} {env : Env} {elt : PySem.Expr} {x : Str} {scope : Scope} {cl : List (Str × Addr)} {P : Nat → Value → Prop} {Fin : List Value → List (Addr × Obj) → Prop}
/-- the end of an element that is a new row -/
def RowEnd (h₀ : Heap) (L : Addr) (m : Str → Option Value) (s₁ : Shared) (all : Ledger) (y : Value) (s₂ : Shared) : Prop :=
  ∃ z o h' tk, y = .ref z ∧ s₂ = { s₁ with heap := h', toks := tk } ∧ Fr h₀ L h' m ∧ News h₀ L h' ((z, o) :: all) ∧ RowObj o ∧ ∀ p ∈ all, @LT.lt Nat _ p.1 z
theorem comp_rows (step : ∀ (all : Ledger) C oC h tk (E' : Value → Shared → Prop), (C, oC) ∈ all → Fr h₀ L h m → News h₀ L h all →
      wpAny (model prog w) A (eval elt (compEnvC scope cl C env)) (RowEnd h₀ L m { s with heap := h, toks := tk } all) E' { s with heap := h, toks := tk })
    (news : Ledger) : ∀ (k i : Nat) (as : List Addr) (mat : Ledger), MatOk as mat → (∀ as' mat', as'.length = as.length + k → MatOk as' mat' → (∀ p ∈ mat', ∀ q ∈ news, @LT.lt Nat _ q.1 p.1) → Fin (as'.map Value.ref) (mat' ++ news)) → (∀ p ∈ mat, ∀ q ∈ news, @LT.lt Nat _ q.1 p.1) →
      CompRest prog w A h₀ L m env elt x scope cl s (fun _ => True) P Fin k i (as.map Value.ref) (mat ++ news)
  | 0, i, as, mat, hM, fin, hs => CompRest.zero (fin as mat rfl hM hs)
  | k + 1, i, as, mat, hM, fin, hs => by
    refine CompRest.succ ?_
    intro v I oI C oC D m₂ h tk E' _ _ _ F N off ne
    refine wpAny_mono (step _ C oC h tk E' (List.mem_cons_of_mem _ List.mem_cons_self) F N) (fun y s₂ q => ?_) fun _ _ e => e
    obtain ⟨z, o, h', tk', rfl, rfl, F', N', hR, hlt⟩ := q
    have hz : ∀ p ∈ mat ++ news, @LT.lt Nat _ p.1 z := fun p hp => hlt p (List.mem_cons_of_mem _ (List.mem_cons_of_mem _ (List.mem_cons_of_mem _ hp)))
    refine CompEnd.intro F' N' ((z, o) :: (mat ++ news)) ?_ ⟨⟨?_, ?_, ?_⟩, off⟩ trivial ?_
    · intro p hp
      rcases List.mem_cons.mp hp with rfl | hp
      · exact List.mem_cons_of_mem _ List.mem_cons_self
      · rcases List.mem_cons.mp hp with rfl | hp
        · exact List.mem_cons_of_mem _ (List.mem_cons_of_mem _ List.mem_cons_self)
        · rcases List.mem_cons.mp hp with rfl | hp
          · exact List.mem_cons_of_mem _ (List.mem_cons_of_mem _ (List.mem_cons_of_mem _ List.mem_cons_self))
          · rcases List.mem_cons.mp hp with rfl | hp
            · exact List.mem_cons_self
            · exact List.mem_cons_of_mem _ (List.mem_cons_of_mem _ (List.mem_cons_of_mem _ (List.mem_cons_of_mem _ hp)))
    · exact Nat.ne_of_gt (hlt (I, oI) List.mem_cons_self)
    · exact Nat.ne_of_gt (hlt (C, oC) (List.mem_cons_of_mem _ List.mem_cons_self))
    · exact Nat.ne_of_gt (hlt (D, _) (List.mem_cons_of_mem _ (List.mem_cons_of_mem _ List.mem_cons_self)))
    · have e : as.map Value.ref ++ [Value.ref z] = (as ++ [z]).map Value.ref := by simp
      rw [e]
      refine comp_rows step news k (i + 1) (as ++ [z]) ((z, o) :: mat) ⟨fun a ha => ?_, fun p hp => ?_⟩ (fun as' mat' hl => fin as' mat' (by rw [hl, List.length_append]; simp; omega)) (fun p hp q hq => ?_)
      · rcases List.mem_append.mp ha with ha | ha
        · obtain ⟨o', ho'⟩ := hM.rows_in a ha
          exact ⟨o', List.mem_cons_of_mem _ ho'⟩
        · rw [List.mem_singleton.mp ha]; exact ⟨o, List.mem_cons_self⟩
      · rcases List.mem_cons.mp hp with rfl | hp
        · exact hR
        · exact hM.objs p hp
      · rcases List.mem_cons.mp hp with rfl | hp
        · exact hz q (List.mem_append_right _ hq)
        · exact hs p hp q hq
end
end Mine
namespace Mine
theorem len16 {prog : Program} {w : World} {A : Around} {E : Value → Shared → Prop} {s : Shared} {b : Array UInt8} {t : Tok} {Q : Value → Shared → Prop} (hb : b.size = 16) (h : Q (.int 16 (s.toks + 1)) { s with toks := s.toks + 1 + 1 }) :
    wpAny (model prog w) A (call (.builtin "len") [.bytes b t]) Q E s := by
  refine len_bytes (by rw [hb]; decide) ?_
  rw [hb]
  exact h
section
open LCg
variable {prog : Program} {w : World} {A : Around} {s : Shared} {h₀ : Heap} {L : Addr} {m : Str → Option Value} {env : Env} {elt : PySem.Expr} {x : Str} {scope : Scope} {cl : List (Str × Addr)} {P : Nat → Value → Prop} {Fin : List Value → List (Addr × Obj) → Prop} {news : Ledger} {n : Nat}
theorem comp_rows0 (step : ∀ (all : Ledger) C oC h tk (E' : Value → Shared → Prop), (C, oC) ∈ all → Fr h₀ L h m → News h₀ L h all →
      wpAny (model prog w) A (eval elt (compEnvC scope cl C env)) (RowEnd h₀ L m { s with heap := h, toks := tk } all) E' { s with heap := h, toks := tk })
    (fin : ∀ as mat, as.length = n → MatOk as mat → (∀ p ∈ mat, ∀ q ∈ news, @LT.lt Nat _ q.1 p.1) → Fin (as.map Value.ref) (mat ++ news)) :
    CompRest prog w A h₀ L m env elt x scope cl s (fun _ => True) P Fin n 0 [] news :=
  comp_rows step news n 0 [] [] ⟨fun _ h => (nomatch h), fun _ h => (nomatch h)⟩ (fun as mat h1 h2 h3 => fin as mat (by simpa using h1) h2 h3) (fun _ h => (nomatch h))
end
theorem row_end {h₀ h' : Heap} {L z : Addr} {m : Str → Option Value} {s₁ : Shared} {all : Ledger} {q : Addr × Obj} {vs : List Value} {ns : List Int} {n tk : Nat} {X : Prop} (F : Fr h₀ L h' m) (N : News h₀ L h' ((z, listOf vs.toArray n) :: q :: all)) (hi : IntsAre vs ns) (h4 : ns.length = 4) (hl : X ∧ AllLt z all) :
    RowEnd h₀ L m s₁ all (.ref z) { s₁ with heap := h', toks := tk } :=
  ⟨z, _, h', tk, rfl, rfl, F, fun p hp => N p (by rcases List.mem_cons.mp hp with rfl | hp; exact List.mem_cons_self; exact List.mem_cons_of_mem _ (List.mem_cons_of_mem _ hp)), ⟨vs, ns, n, rfl, hi, h4⟩, fun p hp => kst_ltOf hl.2 p hp⟩
theorem off1_mem {D : Addr} : ∀ {l : Ledger}, LCg.Off1 D l → ∀ p ∈ l, p.1 ≠ D
  | [], _, p, hp => nomatch hp
  | q :: l, h, p, hp => by
    rcases List.mem_cons.mp hp with rfl | hp
    · exact h.1
    · exact off1_mem h.2 p hp
theorem off1_right {D : Addr} {b : Ledger} : ∀ {a : Ledger}, LCg.Off1 D (a ++ b) → LCg.Off1 D b
  | [], h => h
  | _ :: _, h => off1_right h.2
theorem fin_news {h₀ h : Heap} {L D : Addr} {mat ex : Ledger} {as : List Addr} (N : News h₀ L h ((D, LCg.lst (as.map Value.ref)) :: (mat ++ ex))) (hs : ∀ p ∈ mat, ∀ q ∈ ex, @LT.lt Nat _ q.1 p.1) (off : LCg.Off1 D (mat ++ ex)) :
    News h₀ L h ((D, refsObj as as.length) :: (ex ++ mat)) ∧ OwnOff mat (D :: ex.map (·.1)) := by
  refine ⟨fun p hp => ?_, fun p hp b hb => ?_⟩
  · rcases List.mem_cons.mp hp with rfl | hp
    · have e : LCg.lst (as.map Value.ref) = refsObj as as.length := by
        show listOf _ (as.map Value.ref).length = listOf _ as.length
        rw [List.length_map]
      exact e ▸ N _ List.mem_cons_self
    · refine N p (List.mem_cons_of_mem _ (List.mem_append.mpr (List.mem_append.mp hp).symm))
  · rcases List.mem_cons.mp hb with rfl | hb
    · exact off1_mem off p (List.mem_append_left _ hp)
    · obtain ⟨q, hq, rfl⟩ := List.mem_map.mp hb
      exact Nat.ne_of_gt (hs p hp q hq)
/-- what the constructor leaves: the object, its dict, the list of the rows, the rows -/
def AesPost (w : World) (r : Value) (news' : Ledger) : Prop :=
  ∃ (x dx ke kd : Addr) (t1 t2 : Tok) (as rows : List Addr) (n : Nat) (mat : Ledger), r = .ref x ∧ as.length = 11 ∧ MatOk rows mat ∧ (∀ a ∈ as, a ∈ rows) ∧
    news' = (ke, refsObj as n) :: (x, instObj 99 dx) :: (dx, dictOf [⟨PyData.keyHash w.params "_Ke", .str "_Ke" t1, .ref ke⟩, ⟨PyData.keyHash w.params "_Kd", .str "_Kd" t2, .ref kd⟩] 2) :: mat
end Mine
namespace Mine
inductive Tl : Ledger → Ledger → Ledger → Prop
  | nil {mat : Ledger} : Tl [] mat mat
  | cons {p : Addr × Obj} {ex mat l : Ledger} : Tl ex mat l → Tl (p :: ex) mat (p :: l)
theorem Tl.eq : ∀ {ex mat l : Ledger}, Tl ex mat l → l = ex ++ mat
  | _, _, _, .nil => rfl
  | _, _, _, .cons t => congrArg _ t.eq
theorem MatOk.append {r1 r2 : List Addr} {m1 m2 : Ledger} (h1 : MatOk r1 m1) (h2 : MatOk r2 m2) : MatOk (r1 ++ r2) (m1 ++ m2) :=
  ⟨fun a ha => (List.mem_append.mp ha).elim (fun h => let ⟨o, ho⟩ := h1.rows_in a h; ⟨o, List.mem_append_left _ ho⟩) (fun h => let ⟨o, ho⟩ := h2.rows_in a h; ⟨o, List.mem_append_right _ ho⟩),
   fun p hp => (List.mem_append.mp hp).elim (h1.objs p) (h2.objs p)⟩
theorem fin_news2 {h₀ h : Heap} {L D : Addr} {mat1 mat2 ex l : Ledger} {as : List Addr} {adr : List Addr} (o1 : OwnOff mat1 adr) (N : News h₀ L h ((D, LCg.lst (as.map Value.ref)) :: (mat2 ++ l))) (t : Tl ex mat1 l) (hs : ∀ p ∈ mat2, ∀ q ∈ l, @LT.lt Nat _ q.1 p.1) (off : LCg.Off1 D (mat2 ++ l))
    (sub : ∀ b ∈ ex.map (·.1), b ∈ adr) :
    News h₀ L h ((D, refsObj as as.length) :: (ex ++ (mat1 ++ mat2))) ∧ OwnOff (mat1 ++ mat2) (D :: ex.map (·.1)) ∧ LCg.Off1 D ex := by
  have hl := t.eq
  subst hl
  refine ⟨fun p hp => ?_, fun p hp b hb => ?_, ?_⟩
  · rcases List.mem_cons.mp hp with rfl | hp
    · have e : LCg.lst (as.map Value.ref) = refsObj as as.length := by
        show listOf _ (as.map Value.ref).length = listOf _ as.length
        rw [List.length_map]
      exact e ▸ N _ List.mem_cons_self
    · refine N p (List.mem_cons_of_mem _ ?_)
      rcases List.mem_append.mp hp with hp | hp
      · exact List.mem_append_right _ (List.mem_append_left _ hp)
      · rcases List.mem_append.mp hp with hp | hp
        · exact List.mem_append_right _ (List.mem_append_right _ hp)
        · exact List.mem_append_left _ hp
  · rcases List.mem_cons.mp hb with rfl | hb
    · refine off1_mem off p ?_
      rcases List.mem_append.mp hp with hp | hp
      · exact List.mem_append_right _ (List.mem_append_right _ hp)
      · exact List.mem_append_left _ hp
    · rcases List.mem_append.mp hp with hp | hp
      · exact o1 p hp b (sub b hb)
      · obtain ⟨q, hq, rfl⟩ := List.mem_map.mp hb
        exact Nat.ne_of_gt (hs p hp q (List.mem_append_left _ hq))
  · have h1 := off1_right off
    clear N hs off sub t
    induction ex with
    | nil => trivial
    | cons p ex ih => exact ⟨h1.1, ih h1.2⟩
theorem fin_two {h₀ h : Heap} {L D : Addr} {mat1 mat2 ex l : Ledger} {as rows : List Addr} {adr : List Addr} (ok1 : MatOk rows mat1) (ok2 : MatOk as mat2) (o1 : OwnOff mat1 adr) (N : News h₀ L h ((D, LCg.lst (as.map Value.ref)) :: (mat2 ++ l))) (t : Tl ex mat1 l) (hs : ∀ p ∈ mat2, ∀ q ∈ l, @LT.lt Nat _ q.1 p.1) (off : LCg.Off1 D (mat2 ++ l))
    (sub : ∀ b ∈ ex.map (·.1), b ∈ adr) :
    ∃ mat, MatOk (rows ++ as) mat ∧ News h₀ L h ((D, refsObj as as.length) :: (ex ++ mat)) ∧ OwnOff mat (D :: ex.map (·.1)) ∧ LCg.Off1 D ex :=
  ⟨mat1 ++ mat2, ok1.append ok2, fin_news2 o1 N t hs off sub⟩
end Mine
namespace Mine
section
open LCg
variable {prog : Program} {w : World} {A : Around} {E : Value → Shared → Prop} {s : Shared} {h₀ : Heap} {L : Addr} {m : Str → Option Value} {env : Env} {elt : PySem.Expr} {x : Str} {scope : Scope} {cl : List (Str × Addr)} {P : Nat → Value → Prop} {Fin : List Value → List (Addr × Obj) → Prop} {news : Ledger} {n : Nat}
/-- the end of an element that is an int; the ledger stands as it was -/
def IntEnd (h₀ : Heap) (L : Addr) (m : Str → Option Value) (s₁ : Shared) (all : Ledger) (y : Value) (s₂ : Shared) : Prop :=
  ∃ z t h' tk, y = .int z t ∧ s₂ = { s₁ with heap := h', toks := tk } ∧ Fr h₀ L h' m ∧ News h₀ L h' all
theorem comp_ints (step : ∀ i v I oI C oC D oD m₂ h tk (E' : Value → Shared → Prop), P i v → NsObj oC m₂ → m₂ x = some v → Fr h₀ L h m → News h₀ L h ((I, oI) :: (C, oC) :: (D, oD) :: news) →
      wpAny (model prog w) A (eval elt (compEnvC scope cl C env)) (IntEnd h₀ L m { s with heap := h, toks := tk } ((I, oI) :: (C, oC) :: (D, oD) :: news)) E' { s with heap := h, toks := tk }) :
    ∀ (k i : Nat) (vs : List Value) (ns : List Int), IntsAre vs ns → (∀ vs' ns', IntsAre vs' ns' → ns'.length = ns.length + k → Fin vs' news) →
      CompRest prog w A h₀ L m env elt x scope cl s (fun _ => True) P Fin k i vs news
  | 0, i, vs, ns, hi, fin => CompRest.zero (fin vs ns hi rfl)
  | k + 1, i, vs, ns, hi, fin => by
    refine CompRest.succ ?_
    intro v I oI C oC D m₂ h tk E' hP hC hx F N off ne
    refine wpAny_mono (step i v I oI C oC D _ m₂ h tk E' hP hC hx F N) (fun y s₂ q => ?_) fun _ _ e => e
    obtain ⟨z, t, h', tk', rfl, rfl, F', N'⟩ := q
    refine CompEnd.intro F' N' news (fun p hp => hp) off trivial ?_
    refine comp_ints step k (i + 1) (vs ++ [.int z t]) (ns ++ [z]) (hi.append (.cons _ _ .nil)) (fun vs' ns' hi' hl => fin vs' ns' hi' (by rw [hl, List.length_append]; simp; omega))
def StepSrc (prog : Program) (w : World) (A : Around) (h₀ : Heap) (L : Addr) (m : Str → Option Value) (env : Env) (elt : PySem.Expr) (x : Str) (scope : Scope) (cl : List (Str × Addr)) (Fin : Shared → List Value → List (Addr × Obj) → Prop) (xv : Value) (s₁ : Shared) : Prop :=
  ∃ r a b c t u v n news, xv = .ref r ∧ A.handled = none ∧ Fr h₀ L s₁.heap m ∧ News h₀ L s₁.heap news ∧ IsRange s₁.heap r a b c t u v ∧ Builtin.Range.small a b c = true ∧ Builtin.Range.rangeSize a b c = ((n : Nat) : Int) ∧ n ≤ sizeLine ∧
      ∀ s₂ : Shared, (∃ h, s₂ = { s₁ with heap := h }) → CompRest prog w A h₀ L m env elt x scope cl s₂ (fun _ => True) (fun i v => i < n ∧ ∃ t, v = .int (a + (i : Int) * c) t) (Fin s₂) n 0 [] news
theorem assign_comp_step {iter : PySem.Expr} {y : Str} {px py : Pos} {pos spos : Pos} {Q : Flow → Shared → Prop} (F₀ : Fr h₀ L s.heap m) (hLe : env.locals = L)
    (hsw : swapsWith (.ListComp elt [⟨.Name x px, iter, [], 0⟩] scope pos) (some (.Name y py)) spos.line env = pure true)
    (hclos : closureFor scope env = pure cl) (hcell : ∀ z ∈ scope.names, z.2 ≠ .cell) (hkind : scope.kind = .function)
    (hnames : ∀ z ∈ scope.names, z.2 = .local → scope.names.lookup z.1 = some .local) (hx : scope.names.lookup x = some .local)
    (hy : env.kindOf y = some .local) (hp : (env.scope.kind == .class || (env.scope.kind == .module && env.locals != env.globals)) = false)
    (h : wpAny (model prog w) A (eval iter env) (StepSrc prog w A h₀ L m env elt x scope cl (fun s₂ => FinA h₀ L m s₂ y Q)) E s)
    (hs : ∀ x, foldedSetIterable iter env x = pure x := by intro _; rfl) :
    wpAny (model prog w) A (exec (.Assign [.Name y py] (.ListComp elt [⟨.Name x px, iter, [], 0⟩] scope pos) spos) env) Q E s := by
  subst hLe
  rw [exec_Assign_Name_used _ _ _ _ hsw]
  refine wpAny_bind (wpAny_standAt (wpAny_bind ?_))
  refine wpAny_bind (wpAny_mono (wpAny_comprehension_free (use := some (assign (.Name y py) env)) (Q := fun _ s' => Q .next s') rfl hs hclos hkind hnames
    (wpAny_mono h (fun xv s₁ h₁ => ?_) fun _ _ e => e)) (fun _ s' hq => wpAny_pure (wpAny_pure hq)) fun _ _ e => e)
  obtain ⟨r, a, b, c, t, u, v, n, news, rfl, hh, F, N, hr, hsm, hn, hsz, R⟩ := h₁
  refine wpAny_pyIter_range hr hsm ?_
  have up : ∀ b o, s₁.heap.get? b = some o → (s₁.heap.push { cls := .type "range_iterator", data := .fields #[rawInt a, rawInt (Builtin.Range.rangeSize a b c), rawInt c] }).get? b = some o := fun b o e => Heap.get?_push_of_some _ e
  refine block_U (Walks.range hh s₁.heap.objs.size a c n).bound hsz (fun i h st => ⟨_, st⟩) (fun i hA hB o nw st e e' _ _ _ => ?_) hcell hkind hx (by show IsRangeIter _ _ _ _ _; rw [hn]; simpa using Heap.get?_push_size _ rfl) (fun b hb => ?_)
    (F.keeps fun _ _ e => Heap.get?_push_of_some _ e) (N.grown fun _ _ e => Heap.get?_push_of_some _ e) (Nat.ne_of_lt F.ns.lt) (next_is_new F) (fun p hp => Nat.ne_of_lt (Heap.lt_size (N p hp).1)) trivial (R _ ⟨_, rfl⟩) ?_
  · have st' : hA.get? s₁.heap.objs.size = some _ := st
    show hB.get? s₁.heap.objs.size = some _
    rw [e', ← e]; exact st'
  · rw [List.mem_singleton.mp hb]
    show s₁.heap.objs.size < (s₁.heap.push _).objs.size
    rw [Heap.size_push]; exact Nat.lt_succ_self _
  · intro D C h' tk m' ys news' F' N' o1 hn' hC₀ hD₀ hCL hDL hCD offC fin
    refine wpAny_assign_Name (wpAny_storeName_local hy F'.ns (fun h₂ hn₂ hs₂ => ?_) hp)
    have hL₀ : h₀.get? env.locals = none := Heap.get?_none_of_le F'.above
    have F₂ : Fr h₀ env.locals h₂ (fun z => if z = y then some (.ref D) else m z) := ⟨hn₂, fun b o e => hs₂.extBut b o (fun q => by rw [q, hL₀] at e; cases e) (F'.keep b o e), F'.above⟩
    refine ⟨m', hn'.sameBut hs₂ hCL, fun h'' hs'' => fin D h'' _ (F₂.change hs'' hCL hC₀) (fun p hp => ?_) o1⟩
    refine ⟨hs''.extBut _ _ ?_ (hs₂.extBut _ _ (N' p hp).2.1 (N' p hp).1), (N' p hp).2⟩
    rcases List.mem_cons.mp hp with rfl | hp
    · exact Ne.symm hCD
    · exact offC p hp
end
end Mine
namespace Mine
open PySem.Calls PyProof.V PySem.Spec
section
variable {prog : Program} {w : World} {M : Model} {A : Around} {E : Value → Shared → Prop} {s : Shared} {value slice : PySem.Expr} {b : Array UInt8} {t : Tok} {h₀ : Heap} {L : Addr} {m : PySem.Str → Option Value} {news : List (Addr × Obj)} {l u : Value} {lo hi : Option Int} {Q : Value → Shared → Prop}
theorem slice16 (hF : Fr h₀ L s.heap m) (hN : News h₀ L s.heap news) (hb : b.size = 16) (hl : IsPart l lo) (hu : IsPart u hi)
    (h : ∀ b' h' t' k, b'.size ≤ 16 → Fr h₀ L h' m → News h₀ L h' news → Q (.bytes b' t') { s with heap := h', toks := k })
    (hs : subscripted slice false (.bytes b t) (.ref s.heap.objs.size) = operate [.ref s.heap.objs.size, .bytes b t] (getItem (.bytes b t) (.ref s.heap.objs.size)) := by with_unfolding_all rfl)
    (ht : ∀ r, letTemporaryGo value (.bytes b t) r = pure () := by intro _; with_unfolding_all rfl) :
    wpAny (model prog w) A (subscriptTail value slice (.bytes b t) (.ref s.heap.objs.size)) Q E { s with heap := s.heap.push { cls := .type "slice", data := .fields #[l, u, .none] } } :=
  KBc.slice_K hF hN rfl hl hu (by rw [KBw.ints_length, hb]; decide) (fun h' t' k F' N' _ => h _ h' t' k (hb ▸ KBc.size_picked_le b lo hi) F' N') hs ht
theorem fold_big (b : Array UInt8) (hb : b.size ≤ 16) : b.toList.foldl (fun (acc : Nat) (b : UInt8) => acc * 256 + b.toNat) 0 < 2 ^ 128 := by
  have h1 := KFB.fold_lt b.toList 0
  rw [Nat.zero_add, Nat.one_mul, Array.length_toList] at h1
  have h2 : 256 ^ b.size ≤ 256 ^ 16 := Nat.pow_le_pow_right (by decide) hb
  have h3 : (256 : Nat) ^ 16 = 2 ^ 128 := by decide
  omega
theorem grown_any {z : Int} (hz : z.natAbs < 2 ^ 130) (h : Q (.int z s.toks) { s with toks := s.toks + 1 }) : wpAny M A (mkIntGrown z) Q E s := by
  unfold mkIntGrown
  have hl : ¬ (z.natAbs.log2 ≥ bitsLine) := by
    have hb : bitsLine = 134217728 := by first | rfl | decide
    rw [hb]
    by_cases h0 : z.natAbs = 0
    · rw [h0]; decide
    · have h1 := (Nat.log2_lt h0).mpr hz
      omega
  rw [if_neg hl]
  exact wpAny_mkInt h
theorem tree_signed {ub : Tok} {P : Fin → Shared → Prop} (hl : b.size ≤ 16) (h : ∀ z, P (.done (.ret (.int z s.toks))) { s with toks := s.toks + 1 }) :
    wpAny M A (Builtin.«int.from_bytes» ⟨[.type "int", .bytes b t, .str (PySem.Str.ofString "big") ub], [(PySem.Str.ofString "signed", .bool true)]⟩) P E s := by
  unfold Builtin.«int.from_bytes»
  refine wpAny_bind (wpAny_of_eq (a := true) KFB.type_int ?_)
  refine KFB.if_not rfl ?_
  refine wpAny_bind (wpAny_of_eq (a := true) F.conv_sub_int ?_)
  refine KFB.if_not rfl ?_
  refine wpAny_bind (wpAny_of_eq (a := [some (.bytes b t), some (.str (PySem.Str.ofString "big") ub), some (.bool true)]) (by kernel_rfl) ?_)
  refine wpAny_bind (wpAny_of_eq (a := PySem.Str.ofString "big") (by kernel_rfl) ?_)
  refine wpAny_bind (wpAny_of_eq (a := true) (by first | rfl | kernel_rfl) ?_)
  refine wpAny_bind (wpAny_of_eq (a := false) (by kernel_rfl) ?_)
  refine wpAny_bind (wpAny_of_eq (a := b) rfl ?_)
  refine wpAny_bind (grown_any ?_ ?_)
  · have hq := fold_big b hl
    have e : b.toList.foldl (fun (acc : Int) (b : UInt8) => acc * 256 + (b.toNat : Int)) ((0 : Nat) : Int) = ((b.toList.foldl (fun (acc : Nat) (b : UInt8) => acc * 256 + b.toNat) 0 : Nat) : Int) := KFB.foldI_eq b.toList 0
    have h256 : (256 : Nat) ^ b.size ≤ 2 ^ 128 := by
      have h2 : 256 ^ b.size ≤ 256 ^ 16 := Nat.pow_le_pow_right (by decide) hl
      have h3 : (256 : Nat) ^ 16 = 2 ^ 128 := by decide
      omega
    simp only [Bool.false_eq_true, if_false, e, Array.length_toList]
    have h9 : ((256 : Int) ^ b.size) = (((256 : Nat) ^ b.size : Nat) : Int) := by push_cast; rfl
    rw [h9]
    generalize (256 : Nat) ^ b.size = p at h256
    generalize b.toList.foldl (fun (acc : Nat) (b : UInt8) => acc * 256 + b.toNat) 0 = f at hq
    split <;> omega
  · refine KFB.if_so (by decide +kernel) ?_
    exact wpAny_bind (wpAny_pure (wpAny_pure (h _)))
theorem check_signed {ub : Tok} {o : PySem.Str} : checkBoundCall "int.from_bytes" ⟨[.type "int", .bytes b t, .str o ub], [(PySem.Str.ofString "signed", .bool true)]⟩ = pure () := by first | kernel_rfl | rfl
theorem call_signed {x : Addr} {ub : Tok} (N : News h₀ L s.heap news) (hm : (x, KFB.bound) ∈ news) (hl : b.size ≤ 16) (h : ∀ z t' k, Q (.int z t') { s with toks := k }) :
    wpAny (model prog w) A (call (.ref x) [.bytes b t, .str (PySem.Str.ofString "big") ub] [(PySem.Str.ofString "signed", .bool true)]) Q E s := by
  have ho := KFB.at_of N hm
  refine wpAny_call (codeAny_of_tree ?_)
  show wpAny _ A.in1 (callAny (.ref x) ⟨[.bytes b t, .str _ ub], [(PySem.Str.ofString "signed", .bool true)]⟩) _ _ s
  simp only [callAny]
  refine wpAny_bind (wpAny_load ho ?_)
  simp only [KFB.bound, show (Value.type "builtin_function_or_method" == Value.type "method" || Value.type "builtin_function_or_method" == Value.type "builtin_function_or_method" || Value.type "builtin_function_or_method" == Value.type "method-wrapper") = true by decide, if_true]
  refine KFB.if_so (by decide) ?_
  refine wpAny_bind (wpAny_of_eq (a := ()) check_signed ?_)
  refine wpAny_bind (wpAny_pure (wpAny_pure ?_))
  exact ⟨KFB.quiet_fb, codeAny_builtin KFB.entry_fb (tree_signed hl fun z => h z _ _)⟩
theorem callWith_boundKw {pos : Pos} {x : Addr} {first : List Value} {args : List (Bool × Sem Value)} {kws : List (Option PySem.Str × Sem Value)} (hplain : args.any (·.1) = false) (hkw : kws.any (·.1.isNone) = false)
    (h : wpAny M A (evalArgs (.ref x) true args kws) (fun a s₁ => KFB.StandsAt x s₁.heap ∧ wpAny M A (call (.ref x) (first ++ a.pos) a.kw) Q E s₁) E s) : wpAny M A (callWith pos (.ref x) first args kws) Q E s := by
  unfold callWith
  refine wpAny_bind (wpAny_holding (wpAny_mono h (fun a s₁ h₁ => wpAny_bind (wpAny_standAt ?_)) fun _ _ x => x))
  obtain ⟨ho, hcall⟩ := h₁
  simp only [hplain, hkw, Bool.or_false]
  refine wpAny_bind (m := keeperOf (.ref x)) ?_
  unfold keeperOf
  refine wpAny_bind (wpAny_load ho ?_)
  simp only [KFB.bound, show (Value.type "builtin_function_or_method" != Value.type "method") = true by decide, show (Value.type "builtin_function_or_method" == Value.type "builtin_function_or_method" || Value.type "builtin_function_or_method" == Value.type "method-wrapper") = true by decide, if_true]
  refine wpAny_pure ?_
  exact wpAny_bind (wpAny_mono hcall (fun r s₂ hr => wpAny_bind (wpAny_holding (wpAny_point (wpAny_pure hr)))) fun _ _ x => x)
end
theorem news_tail {h₀ h : Heap} {L : Addr} {q : Addr × Obj} {l : Ledger} (N : News h₀ L h (q :: l)) : News h₀ L h l := fun p hp => N p (List.mem_cons_of_mem _ hp)
theorem fin_three {h₀ h : Heap} {L D : Addr} {mat ex l : Ledger} {rows adr : List Addr} {vs : List Value} {ns : List Int} (ok : MatOk rows mat) (own : OwnOff mat adr) (N : News h₀ L h ((D, LCg.lst vs) :: l)) (t : Tl ex mat l) (off : LCg.Off1 D l) (hi : IntsAre vs ns) (h4 : ns.length = 4) (sub : ∀ b ∈ ex.map (·.1), b ∈ adr) :
    ∃ mat', MatOk (D :: rows) mat' ∧ News h₀ L h (ex ++ mat') ∧ OwnOff mat' (ex.map (·.1)) := by
  have hl := t.eq
  subst hl
  refine ⟨(D, LCg.lst vs) :: mat, ⟨fun a ha => ?_, fun p hp => ?_⟩, fun p hp => ?_, fun p hp b hb => ?_⟩
  · rcases List.mem_cons.mp ha with rfl | ha
    · exact ⟨_, List.mem_cons_self⟩
    · obtain ⟨o, ho⟩ := ok.rows_in a ha
      exact ⟨o, List.mem_cons_of_mem _ ho⟩
  · rcases List.mem_cons.mp hp with rfl | hp
    · exact ⟨vs, ns, vs.length, rfl, hi, h4⟩
    · exact ok.objs p hp
  · rcases List.mem_append.mp hp with hp | hp
    · exact N p (List.mem_cons_of_mem _ (List.mem_append_left _ hp))
    · rcases List.mem_cons.mp hp with rfl | hp
      · exact N _ List.mem_cons_self
      · exact N p (List.mem_cons_of_mem _ (List.mem_append_right _ hp))
  · rcases List.mem_cons.mp hp with rfl | hp
    · obtain ⟨q, hq, rfl⟩ := List.mem_map.mp hb
      exact Ne.symm (off1_mem off q (List.mem_append_left _ hq))
    · exact own p hp b (sub b hb)
end Mine
namespace Mine
/-- the rows with their addresses apart from the rest -/
structure Mt (rows adr ks : List Addr) (mat : Ledger) : Prop where
  ok : MatOk rows mat
  off : OwnOff mat adr
  keys : mat.map (·.1) = ks
theorem spl_of {a : Addr} {mat mat' post : Ledger} : ∀ {ex : Ledger}, (∀ p ∈ ex, p.1 ≠ a) → (∀ p ∈ post, p.1 ≠ a) → Spl a mat mat' (ex ++ (mat ++ post)) (ex ++ (mat' ++ post))
  | [], _, h2 => .tail fun p hp => .inl (h2 p hp)
  | q :: ex, h1, h2 => .cons (.inl (h1 q List.mem_cons_self)) (spl_of (ex := ex) (fun p hp => h1 p (List.mem_cons_of_mem _ hp)) h2)
theorem spl_last {a : Addr} {mat mat' : Ledger} : ∀ {ex : Ledger}, (∀ p ∈ ex, p.1 ≠ a) → Spl a mat mat' (ex ++ mat) (ex ++ mat')
  | [], _ => .last
  | q :: ex, h1 => .cons (.inl (h1 q List.mem_cons_self)) (spl_last (ex := ex) (fun p hp => h1 p (List.mem_cons_of_mem _ hp)))
theorem off_keys {mat mat' : Ledger} {adr : List Addr} (h : OwnOff mat adr) (e : mat'.map (·.1) = mat.map (·.1)) : OwnOff mat' adr := fun p hp b hb => by
  have h1 : p.1 ∈ mat.map (·.1) := e ▸ List.mem_map_of_mem hp
  obtain ⟨q, hq, hqe⟩ := List.mem_map.mp h1
  exact hqe ▸ h q hq b hb
theorem own_rows {own mat l : Ledger} {rows : List Addr} (h : OwnOff own (l.map (·.1))) (ok : MatOk rows mat) (sub : ∀ p ∈ mat, p ∈ l) : OwnOff own rows := fun p hp b hb => by
  obtain ⟨o, ho⟩ := ok.rows_in b hb
  exact h p hp b (List.mem_map.mpr ⟨(b, o), sub _ ho, rfl⟩)
theorem OwnOff.append {a b : Ledger} {adr : List Addr} (h1 : OwnOff a adr) (h2 : OwnOff b adr) : OwnOff (a ++ b) adr := fun p hp => (List.mem_append.mp hp).elim (h1 p) (h2 p)
section
variable {prog : Program} {w : World} {A : Around} {E : Value → Shared → Prop} {s : Shared} {h₀ : Heap} {L a : Addr} {m : Str → Option Value} {l ex post mat : Ledger} {rows adr ks : List Addr} {k x : Int} {t u : Tok}
theorem mat_setP {Q : Unit → Shared → Prop} (M : Mt rows adr ks mat) (F : Fr h₀ L s.heap m) (N : News h₀ L s.heap l) (T : Tl ex (mat ++ post) l) (ho : OwnOff post rows) (sub : ∀ b ∈ ex.map (·.1), b ∈ adr) (ha : a ∈ rows) (h0 : 0 ≤ k) (h1 : k < 4)
    (h : ∀ h' mat', Fr h₀ L h' m → Mt rows adr ks mat' → News h₀ L h' (ex ++ (mat' ++ post)) → Q () { s with heap := h' }) :
    wpAny (model prog w) A (setItem (.ref a) (.int k t) (.int x u)) Q E s := by
  have hl := T.eq
  subst hl
  refine mat_set F N M.ok ha h0 h1 (g := fun mat' => ex ++ (mat' ++ post)) (fun mat' => spl_of (fun p hp => ?_) (fun p hp => ho p hp a ha)) (fun h' mat' F' ok' e N' => h h' mat' F' ⟨ok', off_keys M.off e, e.trans M.keys⟩ N')
  obtain ⟨o, ho'⟩ := M.ok.rows_in a ha
  exact Ne.symm (M.off _ ho' _ (sub _ (List.mem_map_of_mem hp)))
theorem mat_set0 {Q : Unit → Shared → Prop} (M : Mt rows adr ks mat) (F : Fr h₀ L s.heap m) (N : News h₀ L s.heap l) (T : Tl ex mat l) (sub : ∀ b ∈ ex.map (·.1), b ∈ adr) (ha : a ∈ rows) (h0 : 0 ≤ k) (h1 : k < 4)
    (h : ∀ h' mat', Fr h₀ L h' m → Mt rows adr ks mat' → News h₀ L h' (ex ++ mat') → Q () { s with heap := h' }) :
    wpAny (model prog w) A (setItem (.ref a) (.int k t) (.int x u)) Q E s := by
  have hl := T.eq
  subst hl
  refine mat_set F N M.ok ha h0 h1 (g := fun mat' => ex ++ mat') (fun mat' => spl_last (fun p hp => ?_)) (fun h' mat' F' ok' e N' => h h' mat' F' ⟨ok', off_keys M.off e, e.trans M.keys⟩ N')
  obtain ⟨o, ho'⟩ := M.ok.rows_in a ha
  exact Ne.symm (M.off _ ho' _ (sub _ (List.mem_map_of_mem hp)))
end
section
variable {prog : Program} {w : World} {A : Around} {E : Value → Shared → Prop} {s : Shared} {env : Env} {h₀ : Heap} {L : Addr} {x : Str} {body : List Stmt} {Q : Flow → Shared → Prop} {l ex mat : Ledger} {rows adr ks : List Addr}
/-- a turn's end: rows still rows, the names not stored as they were -/
abbrev MatJ (ex : Ledger) (rows adr ks : List Addr) (x : Str) (stored : List Str) (m₀ : Str → Option Value) (pre : List Int) : (Str → Option Value) → Ledger → Prop :=
  KstS (σ := Ledger) (fun mat => ex ++ mat) (fun _ => []) (fun mat => Mt rows adr ks mat) x stored m₀ (fun _ _ => True) pre
theorem mat_range {r : Addr} {a₀ b₀ : Int} {t₀ u₀ v₀ : Tok} {n : Nat} {m₀ : Str → Option Value} (stored : List Str) (M : Mt rows adr ks mat) (N : News h₀ L s.heap l) (T : Tl ex mat l) (hL : env.locals = L)
    (hh : A.handled = none) (hr : IsRange s.heap r a₀ b₀ 1 t₀ u₀ v₀) (hsmall : Builtin.Range.small a₀ b₀ 1 = true) (hn : Builtin.Range.rangeSize a₀ b₀ 1 = (n : Int)) (F : Fr h₀ L s.heap m₀)
    (turn : ∀ (mat : Ledger) (pre : List Int) (k : Int) t (u : Str → Option Value) h tk own, a₀ ≤ k → k < a₀ + (n : Int) → OwnOff own rows → Mt rows adr ks mat →
      Fr h₀ L h (fun y => if y = x then some (.int k t) else kstB (fun z => if stored.contains z then u z else m₀ z) [] y) → News h₀ L h (ex ++ (mat ++ own)) →
      wpAny (model prog w) A (execs body env) (InvPostN h₀ L (MatJ ex rows adr ks x stored m₀ (pre ++ [k])) own (ex.map (·.1) ++ ks) { s with heap := h, toks := tk } Q) E { s with heap := h, toks := tk })
    (done : ∀ (mat : Ledger) (u : Str → Option Value) h tk, Mt rows adr ks mat → Fr h₀ L h (fun y => if y = x then u y else kstB (fun z => if stored.contains z then u z else m₀ z) [] y) → News h₀ L h (ex ++ mat) → Q .next { s with heap := h, toks := tk }) :
    wpAny (model prog w) A (pyIter (.ref r)) (fun it s₂ => LoopAtV prog w A h₀ env x body Q E it s₂) E s := by
  subst hL
  have hl := T.eq
  subst hl
  refine kst_range (σ := Ledger) (fun mat => ex ++ mat) (fun _ => []) (fun mat => Mt rows adr ks mat) stored (fun _ _ => True) mat hh hr hsmall hn F N M (fun _ h => (nomatch h)) trivial ?_ ?_
  · intro c pre k t u h tk own hk hlt ho hM _ F' N'
    have e : (ex ++ mat).map (·.1) = ex.map (·.1) ++ ks := by rw [List.map_append, M.keys]
    have ho' := ho
    rw [e]
    refine turn c pre k t u h tk own (by omega) (by omega) ?_ hM F' (by rw [← List.append_assoc]; exact N')
    exact own_rows ho' M.ok fun p hp => List.mem_append_right _ hp
  · intro c u h tk hM _ F' N'
    exact done c u h tk hM F' N'
theorem mat_end {stored : List Str} {m₀ m' : Str → Option Value} {pre : List Int} {own l' : Ledger} {mat' : Ledger} {s₁ : Shared} {h' : Heap} {tk : Nat} (M : Mt rows adr ks mat') (F : Fr h₀ L h' m') (N : News h₀ L h' l') (T : Tl ex (mat' ++ own) l')
    (hr : ∀ z, z ≠ x → stored.contains z = false → m' z = m₀ z) :
    InvEndN h₀ L (MatJ ex rows adr ks x stored m₀ pre) own (ex.map (·.1) ++ ks) s₁ { s₁ with heap := h', toks := tk } := by
  have hl := T.eq
  subst hl
  refine kst_end mat' F N (fun p hp => ?_) (fun p hp => ?_) (by rw [List.map_append, M.keys]) M (fun _ h => (nomatch h)) (fun z h1 _ h2 => hr z h1 h2) trivial
  · rcases List.mem_append.mp hp with hp | hp
    · exact List.mem_append_left _ hp
    · exact List.mem_append_right _ (List.mem_append_left _ hp)
  · exact List.mem_append_right _ (List.mem_append_right _ hp)
end
theorem fd4 (k : Int) : Int.fdiv k 4 = k / 4 := Int.fdiv_eq_ediv_of_nonneg _ (by decide)
theorem fm4 (k : Int) : Int.fmod k 4 = k % 4 := Int.fmod_eq_emod_of_nonneg _ (by decide)
end Mine
namespace Mine
section
variable {prog : Program} {w : World} {A : Around} {E : Value → Shared → Prop} {s : Shared} {env : Env} {h₀ : Heap} {L : Addr} {body : List Stmt} {Q : Flow → Shared → Prop} {l ex mat : Ledger} {rows adr ks : List Addr}
/-- the state of a while: a count, the rows, two tokens -/
abbrev WSt := Nat × Ledger × Tok × Tok
abbrev MatW (h₀ : Heap) (L : Addr) (s : Shared) (ex : Ledger) (rows adr ks : List Addr) (ps : Nat → Tok → Tok → List (Str × Value)) (stored : List Str) (m₀ : Str → Option Value) (P : Nat → Prop) (μ : Nat → Nat) (Q : Flow → Shared → Prop) (c : WSt) : Flow → Shared → Prop :=
  KswPost (σ := WSt) h₀ L s (fun c => ex ++ c.2.1) (fun c => ps c.1 c.2.2.1 c.2.2.2) (fun c => Mt rows adr ks c.2.1) stored m₀ (fun c => P c.1) (fun c => μ c.1) Q c
theorem mat_while {test : PySem.Expr} {pos : Pos} {m₀ : Str → Option Value} (ps : Nat → Tok → Tok → List (Str × Value)) (stored : List Str) (P : Nat → Prop) (μ : Nat → Nat) (n₀ : Nat) (t1 t2 : Tok) (M : Mt rows adr ks mat) (N : News h₀ L s.heap l) (T : Tl ex mat l)
    (F : Fr h₀ L s.heap m₀) (hk : ∀ p ∈ ps n₀ t1 t2, m₀ p.1 = some p.2) (hp : P n₀) (hL : env.locals = L)
    (turn : ∀ (n : Nat) (t1 t2 : Tok) (mat : Ledger) (u : Str → Option Value) h tk, P n → Mt rows adr ks mat → Fr h₀ L h (kstB (fun z => if stored.contains z then u z else m₀ z) (ps n t1 t2)) → News h₀ L h (ex ++ mat) →
      wpAny (model prog w) A (isTrue test env (eval test env)) (fun b s₂ =>
        if b = true then wpAny (model prog w) A (execs body env) (MatW h₀ L s ex rows adr ks ps stored m₀ P μ Q (n, mat, t1, t2)) E s₂ else Q .next s₂) E { s with heap := h, toks := tk })
    (hE : PassesOwn (model prog w) A env E := by passes_own) :
    wpAny (model prog w) A (exec (.While test body [] pos) env) Q E s := by
  subst hL
  have hl := T.eq
  subst hl
  exact ksw_while (σ := WSt) (fun c => ex ++ c.2.1) (fun c => ps c.1 c.2.2.1 c.2.2.2) (fun c => Mt rows adr ks c.2.1) stored (fun c => P c.1) (fun c => μ c.1) (n₀, mat, t1, t2) F N M hk hp
    (fun c u h tk hM hP F' N' => turn c.1 c.2.2.1 c.2.2.2 c.2.1 u h tk hP hM F' N') hE
theorem mat_wend {ps : Nat → Tok → Tok → List (Str × Value)} {stored : List Str} {P : Nat → Prop} {μ : Nat → Nat} {m₀ m' : Str → Option Value} {c : WSt} {l' mat' : Ledger} {h' : Heap} {tk : Nat} (n' : Nat) (t1 t2 : Tok) (M : Mt rows adr ks mat') (F : Fr h₀ L h' m') (N : News h₀ L h' l') (T : Tl ex mat' l')
    (hk : ∀ p ∈ ps n' t1 t2, m' p.1 = some p.2) (hr : ∀ z, (∀ p ∈ ps n' t1 t2, z ≠ p.1) → stored.contains z = false → m' z = m₀ z) (hp : P n') (hm : μ n' < μ c.1) :
    KswEnd (σ := WSt) h₀ L s (fun c => ex ++ c.2.1) (fun c => ps c.1 c.2.2.1 c.2.2.2) (fun c => Mt rows adr ks c.2.1) stored m₀ (fun c => P c.1) (fun c => μ c.1) c { s with heap := h', toks := tk } := by
  have hl := T.eq
  subst hl
  exact ksw_end (σ := WSt) (n', mat', t1, t2) F N (fun p hp => hp) M hk hr hp hm
end
end Mine
namespace Mine
def inWord (x : Int) : Bool := match x with | .ofNat n => Nat.ble n 4294967295 | _ => false
theorem inWord_ok {x : Int} (h : inWord x = true) : 0 ≤ x ∧ x < 4294967296 := by
  cases x with
  | ofNat n => exact ⟨Int.natCast_nonneg n, Int.ofNat_lt.mpr (Nat.lt_succ_of_le (Nat.le_of_ble_eq_true h))⟩
  | negSucc n => exact absurd h Bool.false_ne_true
theorem tabs_lt : (tabAddrs.all fun a => (tabL a).all inWord) = true := by kernel_rfl
theorem tabAt_word {a : Addr} (ha : a ∈ tabAddrs) (k : Int) : 0 ≤ tabAt a k ∧ tabAt a k < 4294967296 := by
  unfold tabAt
  by_cases hk : k.toNat < (tabL a).length
  · rw [List.getD_eq_getElem?_getD, List.getElem?_eq_getElem hk]
    exact inWord_ok (List.all_eq_true.mp (List.all_eq_true.mp tabs_lt a ha) _ (List.getElem_mem hk))
  · rw [List.getD_eq_getElem?_getD, List.getElem?_eq_none (by omega)]
    decide
section
variable {prog : Program} {w : World} {A : Around} {E : Value → Shared → Prop} {s : Shared} {h₀ : Heap} {L a : Addr} {m : Str → Option Value} {k : Int} {u : Tok} {Q : Value → Shared → Prop}
theorem tab_any {value slice : PySem.Expr} (F : Fr h₀ L s.heap m) (X : (hd.heap_39 w.params).In h₀) (ha : a ∈ tab256) (h0 : 0 ≤ k) (h1 : k < 256) (h : ∀ x t, 0 ≤ x → x < 4294967296 → Q (.int x t) s)
    (hs : subscripted slice false (.ref a) (.int k u) = operate [.ref a, .int k u] (getItem (.ref a) (.int k u)) := by with_unfolding_all rfl) :
    wpAny (model prog w) A (subscriptTail value slice (.ref a) (.int k u)) Q E s :=
  tab_item256 F X ha h0 h1 (fun t => h _ t (tabAt_word (List.mem_cons_of_mem _ ha) k).1 (tabAt_word (List.mem_cons_of_mem _ ha) k).2) hs
theorem rcon_any {value slice : PySem.Expr} (F : Fr h₀ L s.heap m) (X : (hd.heap_39 w.params).In h₀) (h0 : 0 ≤ k) (h1 : k < 30) (h : ∀ x t, 0 ≤ x → x < 4294967296 → Q (.int x t) s)
    (hs : subscripted slice false (.ref 37) (.int k u) = operate [.ref 37, .int k u] (getItem (.ref 37) (.int k u)) := by with_unfolding_all rfl) :
    wpAny (model prog w) A (subscriptTail value slice (.ref 37) (.int k u)) Q E s :=
  have hl : (tabL 37).length = 30 := (List.cons.inj tabs_len).1
  tab_item F X List.mem_cons_self h0 (by rw [hl]; exact h1) (by omega) (fun t => h _ t (tabAt_word List.mem_cons_self k).1 (tabAt_word List.mem_cons_self k).2) hs
theorem lsh_any {x n : Int} {t v : Tok} (hn : 0 ≤ n) (hn2 : n ≤ 1000000) (h0 : 0 ≤ x) (h1 : x < 4294967296) (h : ∀ z, Q (.int z s.toks) { s with toks := s.toks + 1 }) : wpAny (model prog w) A (binaryOp .LShift (.int x t) (.int n v)) Q E s :=
  lshift_int_small hn hn2 (by omega) (h _)
theorem rsh_any {x n : Int} {t v : Tok} (hn : 0 ≤ n) (h : ∀ z, Q (.int z s.toks) { s with toks := s.toks + 1 }) : wpAny (model prog w) A (binaryOp .RShift (.int x t) (.int n v)) Q E s :=
  rshift_int hn (h _)
end
end Mine
namespace Mine
theorem some_int {x y : Int} {t : Tok} (h : x = y) : some (Value.int x t) = some (Value.int y t) := by rw [h]
theorem mat_wend2 {s : Shared} {h₀ : Heap} {L : Addr} {Q : Flow → Shared → Prop} {ex : Ledger} {rows adr ks : List Addr} {ps : Nat → Tok → Tok → List (Str × Value)} {stored : List Str} {P : Nat → Prop} {μ : Nat → Nat} {m₀ m' : Str → Option Value} {c : WSt} {l' mat' : Ledger} {h' : Heap} {tk : Nat} (n' : Nat) (t1 t2 : Tok) (M : Mt rows adr ks mat') (F : Fr h₀ L h' m') (N : News h₀ L h' l') (T : Tl ex mat' l')
    (hk : ∀ p ∈ ps n' t1 t2, m' p.1 = some p.2) (hr : ∀ z, (∀ p ∈ ps n' t1 t2, z ≠ p.1) → stored.contains z = false → m' z = m₀ z) (hp : P n') (hm : μ n' < μ c.1) :
    MatW h₀ L s ex rows adr ks ps stored m₀ P μ Q c .next { s with heap := h', toks := tk } :=
  mat_wend n' t1 t2 M F N T hk hr hp hm
end Mine
namespace Mine
section
variable {prog : Program} {w : World} {A : Around} {E : Value → Shared → Prop} {s : Shared} {env : Env} {h₀ : Heap} {L : Addr} {x : Str} {body : List Stmt} {Q : Flow → Shared → Prop} {l ex mat post : Ledger} {rows adr ks : List Addr}
abbrev MatJP (ex post : Ledger) (rows adr ks : List Addr) (x : Str) (stored : List Str) (m₀ : Str → Option Value) (pre : List Int) : (Str → Option Value) → Ledger → Prop :=
  KstS (σ := Ledger) (fun mat => ex ++ (mat ++ post)) (fun _ => []) (fun mat => Mt rows adr ks mat) x stored m₀ (fun _ _ => True) pre
theorem mat_rangeP {r : Addr} {a₀ b₀ : Int} {t₀ u₀ v₀ : Tok} {n : Nat} {m₀ : Str → Option Value} (stored : List Str) (M : Mt rows adr ks mat) (N : News h₀ L s.heap l) (T : Tl ex (mat ++ post) l) (hL : env.locals = L)
    (hh : A.handled = none) (hr : IsRange s.heap r a₀ b₀ 1 t₀ u₀ v₀) (hsmall : Builtin.Range.small a₀ b₀ 1 = true) (hn : Builtin.Range.rangeSize a₀ b₀ 1 = (n : Int)) (F : Fr h₀ L s.heap m₀)
    (turn : ∀ (mat : Ledger) (pre : List Int) (k : Int) t (u : Str → Option Value) h tk own, a₀ ≤ k → k < a₀ + (n : Int) → OwnOff own rows → Mt rows adr ks mat →
      Fr h₀ L h (fun y => if y = x then some (.int k t) else kstB (fun z => if stored.contains z then u z else m₀ z) [] y) → News h₀ L h (ex ++ (mat ++ (post ++ own))) →
      wpAny (model prog w) A (execs body env) (InvPostN h₀ L (MatJP ex post rows adr ks x stored m₀ (pre ++ [k])) own (ex.map (·.1) ++ (ks ++ post.map (·.1))) { s with heap := h, toks := tk } Q) E { s with heap := h, toks := tk })
    (done : ∀ (mat : Ledger) (u : Str → Option Value) h tk, Mt rows adr ks mat → Fr h₀ L h (fun y => if y = x then u y else kstB (fun z => if stored.contains z then u z else m₀ z) [] y) → News h₀ L h (ex ++ (mat ++ post)) → Q .next { s with heap := h, toks := tk }) :
    wpAny (model prog w) A (pyIter (.ref r)) (fun it s₂ => LoopAtV prog w A h₀ env x body Q E it s₂) E s := by
  subst hL
  have hl := T.eq
  subst hl
  refine kst_range (σ := Ledger) (fun mat => ex ++ (mat ++ post)) (fun _ => []) (fun mat => Mt rows adr ks mat) stored (fun _ _ => True) mat hh hr hsmall hn F N M (fun _ h => (nomatch h)) trivial ?_ ?_
  · intro c pre k t u h tk own hk hlt ho hM _ F' N'
    have e : (ex ++ (mat ++ post)).map (·.1) = ex.map (·.1) ++ (ks ++ post.map (·.1)) := by rw [List.map_append, List.map_append, M.keys]
    have ho' := ho
    rw [e]
    refine turn c pre k t u h tk own (by omega) (by omega) ?_ hM F' (by rw [List.append_assoc, List.append_assoc] at N'; exact N')
    exact own_rows ho' M.ok fun p hp => List.mem_append_right _ (List.mem_append_left _ hp)
  · intro c u h tk hM _ F' N'
    exact done c u h tk hM F' N'
theorem mat_endP {stored : List Str} {m₀ m' : Str → Option Value} {pre : List Int} {own l' : Ledger} {mat' : Ledger} {s₁ : Shared} {h' : Heap} {tk : Nat} (M : Mt rows adr ks mat') (F : Fr h₀ L h' m') (N : News h₀ L h' l') (T : Tl ex (mat' ++ (post ++ own)) l')
    (hr : ∀ z, z ≠ x → stored.contains z = false → m' z = m₀ z) :
    InvEndN h₀ L (MatJP ex post rows adr ks x stored m₀ pre) own (ex.map (·.1) ++ (ks ++ post.map (·.1))) s₁ { s₁ with heap := h', toks := tk } := by
  have hl := T.eq
  subst hl
  refine kst_end mat' F N (fun p hp => ?_) (fun p hp => ?_) (by rw [List.map_append, List.map_append, M.keys]) M (fun _ h => (nomatch h)) (fun z h1 _ h2 => hr z h1 h2) trivial
  · rcases List.mem_append.mp hp with hp | hp
    · exact List.mem_append_left _ hp
    · rcases List.mem_append.mp hp with hp | hp
      · exact List.mem_append_right _ (List.mem_append_left _ hp)
      · exact List.mem_append_right _ (List.mem_append_right _ (List.mem_append_left _ hp))
  · exact List.mem_append_right _ (List.mem_append_right _ (List.mem_append_right _ hp))
end
end Mine
namespace Mine
local macro_rules | `(tactic| ktr_rel) => `(tactic| (refine' code_defC ?k1 ?k2 ?k3 ?k4 ?k5 ?kA ?kF ?kK ?k6 ?k7 ?k8 ?k9 ?kB ?kD ?_ ?c2 ?c3 ?c4; (case kA => exact rfl); (case kF => exact rfl); (case kK => first | exact rfl | assumption); (case k1 => k_asm); (case k2 => k_asm); (case k3 => k_asm); (case k4 => k_asm); (case k5 => k_asm); (case k6 => k_is); (case k7 => k_is); (case k8 => ktr_room); (case k9 => exact BindsTo.of_eq rfl); (case kB => exact rfl); (case kD => decide +kernel); (case c2 => exact rfl); (case c3 => exact rfl); (case c4 => exact rfl); k_whole; intro g' L' h' tk' cells' FG' F' N' Y' B' X' T' l1; (try k_lt l1); k_cells Y'; (try simp only [List.cons_append, List.nil_append] at N'); (try dsimp only); (try k_lift B'); (try k_fold)))
local macro_rules | `(tactic| walk_at "eval ListComp") => `(tactic| (k_here; (with_reducible show wpAny _ _ (eval (PySem.Expr.ListComp (PySem.Expr.BinOp ..) _ _ _) _) _ _ _); k_dflt (refine LCg.ListComp_U (F₀ := by k_asm) (by rfl) (by decide) (by rfl) (by decide) (by rfl) ?_)))
local macro_rules | `(tactic| walk_at "exec Assign cons ListComp") => `(tactic| (k_here; (with_reducible show wpAny _ _ (exec (PySem.Stmt.Assign [_] (PySem.Expr.ListComp (PySem.Expr.Call ..) _ _ _) _) _) _ _ _); k_dflt (refine assign_comp_step (F₀ := by k_asm) (by rfl) (by with_unfolding_all rfl) (by with_unfolding_all rfl) (by decide) (by rfl) (by decide) (by rfl) (by rfl) (by rfl) ?_)))
local macro_rules | `(tactic| walk_at "subscriptTail") => `(tactic| (k_here; (with_reducible show wpAny _ _ (subscriptTail _ (PySem.Expr.Slice _ _ none _) (Value.bytes _ _) (Value.ref _)) _ _ _); (with_reducible rename Fr _ _ _ _ => F'); (with_reducible rename News _ _ _ _ => N'); (refine slice16 (s := ⟨_, _, _, _, _⟩) F' N' (by assumption) (by constructor) (by constructor) ?_); intro _ _ _ _ _ _ _))
local macro_rules | `(tactic| walk_at "callWith ref") => `(tactic| (k_here; (with_reducible show wpAny _ _ (callWith _ (Value.ref _) _ _ (backToKw _ _)) _ _ _); kfb_any; k_dflt (refine' callWith_boundKw rfl rfl ?_)))
local macro_rules | `(tactic| walk_at "call ref") => `(tactic| (k_here; (with_reducible show wpAny _ _ (call (Value.ref _) [Value.bytes _ _, Value.str _ _] (List.zip _ _)) _ _ _); kfb_any; k_dflt (refine call_signed (by k_asm) (by k_mem) (by assumption) ?_); intro _ _ _))
local macro_rules | `(tactic| walk_at "call builtin:len") => `(tactic| (k_here; (with_reducible show wpAny _ _ (call (Value.builtin "len") [Value.bytes _ _]) _ _ _); (refine len16 (by assumption) ?_)))
local macro_rules | `(tactic| tb_start) => `(tactic| repeat' (first | (k_unfold; (try dsimp only)) | ((fail_if_success (with_reducible show wpAny _ _ (pyIter _) _ _ _)); (fail_if_success (with_reducible show InvEndN _ _ _ _ _ _ _)); (fail_if_success (with_reducible show KswEnd _ _ _ _ _ _ _ _ _ _ _ _)); (fail_if_success (with_reducible show LCg.CompSrc _ _ _ _ _ _ _ _ _ _ _ _ _ _)); (fail_if_success (with_reducible show wpAny _ _ (exec (PySem.Stmt.While ..) _) _ _ _)); first | walk1 | (dsimp only; walk1) | (leave1; try dsimp only))))
local macro_rules | `(tactic| tb_rel) => `(tactic| repeat' (first | (k_unfold; (try dsimp only)) | walk1 | (dsimp only; walk1) | (leave1; try dsimp only)))
local macro_rules | `(tactic| walk_at "subscriptTail") => `(tactic| (k_here; (with_reducible show wpAny _ _ (subscriptTail _ _ (Value.ref _) (Value.int _ _)) _ _ _); (with_reducible rename Mt _ _ _ _ => hMt); k_dflt (refine' mat_item ?N hMt.ok ?row ?sub ?a ?b ?_; (case row => first | exact List.mem_cons_self | exact List.mem_cons_of_mem _ (List.mem_append_left _ (getD_in (by (try simp only [fm4, fd4]); omega))) | exact List.mem_cons_of_mem _ (List.mem_append_right _ (getD_in (by (try simp only [fm4, fd4]); omega)))); (case N => k_asm); (case sub => (intro p hp; repeat' (first | exact hp | exact List.mem_append_left _ hp | refine List.mem_cons_of_mem _ ?_))); (case a => (try simp only [fm4, fd4]); omega); (case b => (try simp only [fm4, fd4]); omega); k_whole); intro _ _))
local macro_rules | `(tactic| walk_at "subscriptTail") => `(tactic| (k_here; (with_reducible show wpAny _ _ (subscriptTail _ _ (Value.ref _) (Value.int _ _)) _ _ _); k_dflt (refine' refs_item ?N ?m ?a ?b ?c ?_; (case N => k_asm); (case m => k_mem); (case a => (try simp only [fm4, fd4]); omega); (case b => (try simp only [fm4, fd4]); omega); (case c => (try simp only [fm4, fd4]); omega); k_whole)))
local macro_rules | `(tactic| walk_at "setItem ref int") => `(tactic| (k_here; (with_reducible show wpAny _ _ (setItem (Value.ref _) (Value.int _ _) (Value.int _ _)) _ _ _); (with_reducible rename Mt _ _ _ _ => hMt); k_dflt (refine' mat_setP hMt ?F ?N ?T ?o ?sub ?row ?a ?b ?_; (case row => first | exact List.mem_cons_self | exact List.mem_cons_of_mem _ (List.mem_append_left _ (getD_in (by (try simp only [fm4, fd4]); omega))) | exact List.mem_cons_of_mem _ (List.mem_append_right _ (getD_in (by (try simp only [fm4, fd4]); omega)))); (case F => k_asm); (case N => k_asm); (case T => repeat constructor); (case o => first | assumption | exact OwnOff.append (by assumption) (by assumption)); (case sub => (simp only [List.map_cons, List.map_nil]; intro b hb; simp only [List.mem_cons, List.not_mem_nil, or_false] at hb ⊢; omega)); (case a => (try simp only [fm4, fd4]); omega); (case b => (try simp only [fm4, fd4]); omega); k_whole); clear hMt; intro h' mat' F' hMt' N'; (try simp only [List.cons_append, List.nil_append] at N')))
local macro_rules | `(tactic| walk_at "subscriptTail") => `(tactic| (k_here; (with_reducible show wpAny _ _ (subscriptTail _ _ (Value.ref _) (Value.int _ _)) _ _ _); k_dflt (refine' tab_any ?F ?X ?a ?k0 ?k1 ?_; (case a => decide); (case F => k_asm); (case X => k_asm); (case k0 => (try simp only [bitAnd_m8]); omega); (case k1 => (try simp only [bitAnd_m8]); omega); k_whole); intro _ _ _ _))
local macro_rules | `(tactic| walk_at "subscriptTail") => `(tactic| (k_here; (with_reducible show wpAny _ _ (subscriptTail _ _ (Value.ref 37) (Value.int _ _)) _ _ _); k_dflt (refine' rcon_any ?F ?X ?k0 ?k1 ?_; (case F => k_asm); (case X => k_asm); (case k0 => omega); (case k1 => omega); k_whole); intro _ _ _ _))
local macro_rules | `(tactic| walk_at "getItem ref int") => `(tactic| (k_here; (with_reducible show wpAny _ _ (getItem (Value.ref _) (Value.int _ _)) _ _ _); (with_reducible rename Mt _ _ _ _ => hMt); k_dflt (refine' mat_get ?N hMt.ok ?row ?sub ?a ?b ?_; (case row => first | exact List.mem_cons_self | exact List.mem_cons_of_mem _ (List.mem_append_left _ (getD_in (by (try simp only [fm4, fd4]); omega))) | exact List.mem_cons_of_mem _ (List.mem_append_right _ (getD_in (by (try simp only [fm4, fd4]); omega)))); (case N => k_asm); (case sub => (intro p hp; repeat' (first | exact hp | exact List.mem_append_left _ hp | refine List.mem_cons_of_mem _ ?_))); (case a => (try simp only [fm4, fd4]); omega); (case b => (try simp only [fm4, fd4]); omega); k_whole); intro _ _))
local macro_rules | `(tactic| walk_at "setItem ref int") => `(tactic| (k_here; (with_reducible show wpAny _ _ (setItem (Value.ref _) (Value.int _ _) (Value.int _ _)) _ _ _); (with_reducible rename Mt _ _ _ _ => hMt); k_dflt (refine' mat_set0 hMt ?F ?N ?T ?sub ?row ?a ?b ?_; (case row => first | exact List.mem_cons_self | exact List.mem_cons_of_mem _ (List.mem_append_left _ (getD_in (by (try simp only [fm4, fd4]); omega))) | exact List.mem_cons_of_mem _ (List.mem_append_right _ (getD_in (by (try simp only [fm4, fd4]); omega)))); (case F => k_asm); (case N => k_asm); (case T => repeat constructor); (case sub => (simp only [List.map_cons, List.map_nil]; intro b hb; simp only [List.mem_cons, List.not_mem_nil, or_false] at hb ⊢; omega)); (case a => (try simp only [fm4, fd4]); omega); (case b => (try simp only [fm4, fd4]); omega); k_whole); clear hMt; intro h' mat' F' hMt' N'; (try simp only [List.cons_append, List.nil_append] at N')))
local macro_rules | `(tactic| walk_at "binaryOp LShift int int") => `(tactic| (k_here; (with_reducible refine lsh_any (by decide) (by decide) (by assumption) (by assumption) ?_); intro _))
local macro_rules | `(tactic| walk_at "binaryOp RShift int int") => `(tactic| (k_here; (with_reducible refine rsh_any (by decide) ?_); intro _))
set_option maxHeartbeats 20000000 in
theorem init_spec (w : World) (b : Array UInt8) (tb : Tok) (hb : b.size = 16) :
    Spec 3 w 99 [.bytes b tb] [] (AesPost w) := by
  unfold Spec
  k_fill
  intro p loose mean mg mb dp un gd cn cs ad ccd cll outer A₀ base h₀ L m s Q E B F X N T hk hd hu hret
  k_dflt (refine' call_cls ?k1_t1 ?k2_t1 ?k3_t1 ?k4_t1 ?k5_t1 ?k6_t1 ?_; (case k1_t1 => k_asm); (case k2_t1 => k_asm); (case k3_t1 => k_asm); (case k4_t1 => exact rfl); (case k5_t1 => exact rfl); (case k6_t1 => exact rfl); k_whole)
  intro x dx h' F' N' lt1 lt2
  clear lt1
  k_lt2 lt2
  k_dflt ktr_rel
  tb_start
  · refine' LCg.CompSrc.range (n := 11) ?k1_t1 ?k2_t1 ?k3_t1 ?k4_t1 ?k5_t1 ?k6_t1 ?k7_t1 ?k8_t1
    case k1_t1 => rfl
    case k2_t1 => k_asm
    case k3_t1 => k_asm
    case k4_t1 => assumption
    case k5_t1 => first | decide | rfl
    case k6_t1 => first | rfl | decide
    case k7_t1 => exact Nat.le_of_ble_eq_true rfl
    intro g'
    refine' comp_rows0 ?step_t1 ?fin_t1
    case step_t1 =>
      intros
      tb_rel
      dsimp only
      exact row_end (by assumption) (by assumption) (by assumption) rfl (by assumption)
    case fin_t1 =>
      intro as1 mat1 len1 ok1 low1
      show LCg.FinE _ _ _ _ _ _ _
      intro D1 h1 tk1 F1 N1 off1
      obtain ⟨N2, own1⟩ := fin_news N1 low1 off1
      clear N1
      have od1 := off1_right off1
      simp only [LCg.Off1, and_true] at od1
      simp only [List.cons_append, List.nil_append, List.map_cons, List.map_nil] at N2 own1
      have kM := kstMark
      dsimp only
      tb_start
      · refine' LCg.CompSrc.range (n := 11) ?k1_t2 ?k2_t2 ?k3_t2 ?k4_t2 ?k5_t2 ?k6_t2 ?k7_t2 ?k8_t2
        case k1_t2 => rfl
        case k2_t2 => k_asm
        case k3_t2 => k_asm
        case k4_t2 => assumption
        case k5_t2 => first | decide | rfl
        case k6_t2 => first | rfl | decide
        case k7_t2 => exact Nat.le_of_ble_eq_true rfl
        intro g'
        refine' comp_rows0 ?step_t2 ?fin_t2
        case step_t2 =>
          tb_rel
          dsimp only
          exact row_end (by assumption) (by assumption) (by assumption) rfl (by assumption)
        case fin_t2 =>
          rename OwnOff _ _ => own1
          rename MatOk _ _ => ok1
          intro as2 mat2 len2 ok2 low2
          show LCg.FinE _ _ _ _ _ _ _
          intro D2 h2 tk2 F2 N1 off2
          obtain ⟨mat, ok3, N2, own2, od2⟩ := fin_two ok1 ok2 own1 N1 (by repeat constructor) low2 off2 (by simp only [List.map_cons, List.map_nil]; intro b hb; simp only [List.mem_cons, List.not_mem_nil, or_false] at hb ⊢; omega)
          clear N1
          clear ok1 ok2 own1 low2 off2
          simp only [LCg.Off1, and_true] at od2
          simp only [List.cons_append, List.nil_append, List.map_cons, List.map_nil] at N2 own2
          dsimp only
          tb_start
          · unfold StepSrc
            refine' ⟨_, _, _, _, _, _, _, 4, _, rfl, ?k1_t3, ?k2_t3, ?k3_t3, ?k4_t3, ?k5_t3, ?k6_t3, ?k7_t3, ?k8_t3⟩
            case k1_t3 => rfl
            case k2_t3 => k_asm
            case k3_t3 => k_asm
            case k4_t3 => assumption
            case k5_t3 => first | decide | rfl
            case k6_t3 => first | rfl | decide
            case k7_t3 => exact Nat.le_of_ble_eq_true rfl
            rintro _ ⟨g', rfl⟩
            refine' comp_ints ?step_t3 4 0 [] [] .nil ?fin_t3
            case step_t3 =>
              rintro i v I oI C oC D oD m₂ h tk E' ⟨hi, t, rfl⟩ hC hx F N
              generalize (0 : Int) + (i : Int) * 4 = v
              have kM := kstMark
              tb_rel
              exact ⟨_, _, _, _, rfl, rfl, by assumption, news_tail (by assumption)⟩
            case fin_t3 =>
              rename OwnOff _ _ => own2
              rename MatOk _ _ => ok2
              intro vs ns hi hl
              show LCg.FinA _ _ _ _ _ _ _ _
              intro D3 h3 tk3 F3 N3 off3
              obtain ⟨mat3, ok3, N4, own3⟩ := fin_three ok2 own2 N3 (by repeat constructor) off3 hi hl (by simp only [List.map_cons, List.map_nil]; intro b hb; simp only [List.mem_cons, List.not_mem_nil, or_false] at hb ⊢; omega)
              clear N3 off3 ok2 own2 hi hl
              simp only [List.cons_append, List.nil_append, List.map_cons, List.map_nil] at N4 own3
              dsimp only
              tb_start
              rename OwnOff _ _ => own3
              rename MatOk _ _ => ok3
              have M : Mt _ _ _ _ := ⟨ok3, own3, rfl⟩
              clear ok3 own3
              k_here
              refine' mat_range [] M ?N_t4 ?T_t4 ?hL_t4 ?k1_t4 ?k2_t4 ?k3_t4 ?k4_t4 ?k5_t4 ?turn_t4 ?done_t4
              case N_t4 => k_asm
              case T_t4 => repeat constructor
              case hL_t4 => rfl
              case k1_t4 => rfl
              case k2_t4 => assumption
              case k3_t4 => first | decide | rfl
              case k4_t4 => exact (rfl : _ = ((4 : Nat) : Int))
              case k5_t4 => k_asm
              case turn_t4 =>
                clear M
                intro mat pre k t u h tk own hk0 hk1 ho M F' N'
                simp only [List.cons_append, List.nil_append] at N'
                tb_start
                all_goals exact mat_end (by assumption) (by assumption) (by assumption) (by repeat constructor) (by intro z h1 h2; simp only [h1, if_false]; rfl)
              case done_t4 =>
                clear M
                intro mat u h tk M F' N'
                simp only [List.cons_append, List.nil_append] at N'
                tb_start
                rename Mt _ _ _ _ => M
                k_here
                refine' mat_while (fun n t1 t2 => [("t", .int (4 * (n : Int) + 4) t1), ("rconpointer", .int (n : Int) t2)]) ["tt", "i", "j"] (fun n => n ≤ 10) (fun n => 10 - n) 0 _ _ M ?N_t5 ?T_t5 ?F_t5 ?hk_t5 (by decide) rfl ?turn_t5
                case N_t5 => k_asm
                case T_t5 => repeat constructor
                case F_t5 => k_asm
                case hk_t5 =>
                  intro p hp
                  rcases List.mem_cons.mp hp with rfl | hp
                  · rfl
                  · rcases List.mem_cons.mp hp with rfl | hp
                    · rfl
                    · cases hp
                case turn_t5 =>
                  clear M
                  intro n t1 t2 mat u h tk hP M F' N'
                  simp only [List.cons_append, List.nil_append] at N'
                  tb_start
                  · rename Mt _ _ _ _ => M
                    k_here
                    refine' mat_range [] M ?N_t6 ?T_t6 ?hL_t6 ?k1_t6 ?k2_t6 ?k3_t6 ?k4_t6 ?k5_t6 ?turn_t6 ?done_t6
                    case N_t6 => k_asm
                    case T_t6 => repeat constructor
                    case hL_t6 => rfl
                    case k1_t6 => rfl
                    case k2_t6 => assumption
                    case k3_t6 => first | decide | rfl
                    case k4_t6 => exact (rfl : _ = ((3 : Nat) : Int))
                    case k5_t6 => k_asm
                    case turn_t6 =>
                      clear M
                      intro mat pre k t u h tk own hk0 hk1 ho M F' N'
                      simp only [List.cons_append, List.nil_append] at N'
                      tb_start
                      all_goals exact mat_end (by assumption) (by assumption) (by assumption) (by repeat constructor) (by intro z h1 h2; simp only [h1, if_false]; rfl)
                    case done_t6 =>
                      clear M
                      intro mat u h tk M F' N'
                      simp only [List.cons_append, List.nil_append] at N'
                      tb_start
                      rename Mt _ _ _ _ => M
                      k_here
                      refine' mat_while (fun d t1 t2 => [("j", .int (d : Int) t1), ("t", .int (4 * (n : Int) + 4 + (d : Int)) t2)]) [] (fun d => d ≤ 4) (fun d => 4 - d) 0 _ _ M ?N_t7 ?T_t7 ?F_t7 ?hk_t7 (by decide) rfl ?turn_t7
                      case N_t7 => k_asm
                      case T_t7 => repeat constructor
                      case F_t7 => k_asm
                      case hk_t7 =>
                        intro p hp
                        rcases List.mem_cons.mp hp with rfl | hp
                        · rfl
                        · rcases List.mem_cons.mp hp with rfl | hp
                          · refine some_int ?_
                            exact (Int.add_zero _).symm
                          · cases hp
                      case turn_t7 =>
                        clear M
                        intro d t1 t2 mat u h tk hd4 M F' N'
                        simp only [List.cons_append, List.nil_append] at N'
                        have k16 : Int.fdiv 16 4 = 4 := rfl
                        tb_start
                        · refine' mat_wend2 (d + 1) _ _ (by assumption) (by assumption) (by assumption) (by repeat constructor) ?hk_t7 ?hr_t7 ?hp_t7 ?hm_t7
                          case hk_t7 =>
                            have e1 : (d : Int) + 1 = ((d + 1 : Nat) : Int) := by omega
                            have e2 : 4 * (n : Int) + 4 + (d : Int) + 1 = 4 * (n : Int) + 4 + ((d + 1 : Nat) : Int) := by omega
                            intro p hp
                            rcases List.mem_cons.mp hp with rfl | hp
                            · exact some_int e1
                            · rcases List.mem_cons.mp hp with rfl | hp
                              · exact some_int e2
                              · cases hp
                          case hr_t7 =>
                            intro z h1 h2
                            have a := h1 _ List.mem_cons_self
                            have b := h1 _ (List.mem_cons_of_mem _ List.mem_cons_self)
                            dsimp only at a b
                            simp only [kstB, a, b, h2, if_false, Bool.false_eq_true, List.contains_nil]
                          case hp_t7 => show d + 1 ≤ 4; omega
                          case hm_t7 => show 4 - (d + 1) < 4 - d; omega
                        · refine' mat_wend2 (n + 1) _ _ (by assumption) (by assumption) (by assumption) (by repeat constructor) ?gk_t7 ?gr_t7 ?gp_t7 ?gm_t7
                          case gk_t7 =>
                            have hd : d = 4 := by omega
                            have e1 : 4 * (n : Int) + 4 + (d : Int) = 4 * ((n + 1 : Nat) : Int) + 4 := by omega
                            have e2 : (n : Int) + 1 = ((n + 1 : Nat) : Int) := by omega
                            intro p hp
                            rcases List.mem_cons.mp hp with rfl | hp
                            · exact some_int e1
                            · rcases List.mem_cons.mp hp with rfl | hp
                              · exact some_int e2
                              · cases hp
                          case gr_t7 =>
                            intro z h1 h2
                            have a := h1 _ List.mem_cons_self
                            have b := h1 _ (List.mem_cons_of_mem _ List.mem_cons_self)
                            dsimp only at a b
                            have h3 := h2
                            simp only [List.contains_cons, List.contains_nil, Bool.or_false, Bool.or_eq_false_iff, beq_eq_false_iff_ne, ne_eq] at h3
                            obtain ⟨c1, c2, c3⟩ := h3
                            simp only [kstB, a, b, c1, c2, c3, h2, if_false, Bool.false_eq_true, List.contains_nil]
                          case gp_t7 => show n + 1 ≤ 10; omega
                          case gm_t7 => show 10 - (n + 1) < 10 - n; omega
                  · rename Mt _ _ _ _ => M
                    k_here
                    refine' mat_range ["j", "tt"] M ?N_t9 ?T_t9 ?hL_t9 ?k1_t9 ?k2_t9 ?k3_t9 ?k4_t9 ?k5_t9 ?turn_t9 ?done_t9
                    case N_t9 => k_asm
                    case T_t9 => repeat constructor
                    case hL_t9 => rfl
                    case k1_t9 => rfl
                    case k2_t9 => assumption
                    case k3_t9 => first | decide | rfl
                    case k4_t9 => exact (rfl : _ = ((9 : Nat) : Int))
                    case k5_t9 => k_asm
                    case turn_t9 =>
                      clear M
                      intro mat pre r t u h tk own hr0 hr1 ho M F' N'
                      simp only [List.cons_append, List.nil_append] at N'
                      tb_start
                      rename Mt _ _ _ _ => M
                      k_here
                      refine' mat_rangeP ["tt"] M ?N_t10 ?T_t10 ?hL_t10 ?k1_t10 ?k2_t10 ?k3_t10 ?k4_t10 ?k5_t10 ?turn_t10 ?done_t10
                      case N_t10 => k_asm
                      case T_t10 => repeat constructor
                      case hL_t10 => rfl
                      case k1_t10 => rfl
                      case k2_t10 => assumption
                      case k3_t10 => first | decide | rfl
                      case k4_t10 => exact (rfl : _ = ((4 : Nat) : Int))
                      case k5_t10 => k_asm
                      case turn_t10 =>
                        clear M
                        intro mat pre j t u h tk own2 hj0 hj1 ho2 M F' N'
                        simp only [List.cons_append, List.nil_append] at N'
                        tb_start
                        all_goals exact mat_endP (by assumption) (by assumption) (by assumption) (by repeat constructor) (by
                          intro z h1 h2
                          have h3 := h2
                          simp only [List.contains_cons, List.contains_nil, Bool.or_false, Bool.or_eq_false_iff, beq_eq_false_iff_ne, ne_eq] at h3
                          simp only [kstB, h1, h2, h3, if_false, Bool.false_eq_true])
                      case done_t10 =>
                        clear M
                        intro mat u h tk M F' N'
                        simp only [List.cons_append, List.nil_append] at N'
                        tb_start
                        all_goals exact mat_end (by assumption) (by assumption) (by assumption) (by repeat constructor) (by
                          intro z h1 h2
                          have h3 := h2
                          simp only [List.contains_cons, List.contains_nil, Bool.or_false, Bool.or_eq_false_iff, beq_eq_false_iff_ne, ne_eq] at h3
                          obtain ⟨c1, c2⟩ := h3
                          have c3 : (["tt"] : List Str).contains z = false := by simp only [List.contains_cons, List.contains_nil, Bool.or_false, beq_eq_false_iff_ne, ne_eq]; exact c2
                          simp only [kstB, h1, h2, c1, c2, c3, if_false, Bool.false_eq_true])
                    case done_t9 =>
                      clear M
                      intro mat u h tk M F' N'
                      simp only [List.cons_append, List.nil_append] at N'
                      tb_start
                      rename News _ _ _ _ => NN
                      rename Mt _ _ _ _ => MM
                      refine' hret _ _ _ _ (by assumption) (cb_drop NN ?sub_t12) ⟨x, dx, D1, D2, tk1 + 1, tk2 + 1, as1, _, as1.length, _, rfl, len1, MM.ok, ?mem_t12, rfl⟩
                      case mem_t12 => exact fun a ha => List.mem_cons_of_mem _ (List.mem_append_left _ ha)
                      case sub_t12 =>
                        intro p hp
                        rcases List.mem_cons.mp hp with rfl | hp
                        · k_mem
                        · rcases List.mem_cons.mp hp with rfl | hp
                          · k_mem
                          · rcases List.mem_cons.mp hp with rfl | hp
                            · k_mem
                            · repeat' (first | exact hp | refine List.mem_cons_of_mem _ ?_)
end Mine
namespace Mine
section
variable {prog : Program} {w : World} {A : Around} {E : Value → Shared → Prop} {s : Shared} {h₀ : Heap} {L l : Addr} {m : Str → Option Value} {news : Ledger} {k : Int} {u : Tok} {Q : Value → Shared → Prop} {vs : List Value} {ns : List Int} {n : Nat}
/-- a list of octets -/
structure Oct (c : Nat) (vs : List Value) (ns : List Int) : Prop where
  are : IntsAre vs ns
  len : ns.length = c
  lo : ∀ x ∈ ns, 0 ≤ x ∧ x < 256
theorem oct_item {c : Nat} {value slice : PySem.Expr} (O : Oct c vs ns) (N : News h₀ L s.heap news) (hm : (l, listOf vs.toArray n) ∈ news) (h0 : 0 ≤ k) (h1 : k < (c : Int)) (hc : c < 2 ^ 60) (h : ∀ x t, 0 ≤ x → x < 4294967296 → Q (.int x t) s)
    (hs : subscripted slice false (.ref l) (.int k u) = operate [.ref l, .int k u] (getItem (.ref l) (.int k u)) := by with_unfolding_all rfl) :
    wpAny (model prog w) A (subscriptTail value slice (.ref l) (.int k u)) Q E s := by
  have hk : k.toNat < ns.length := by rw [O.len]; omega
  refine item_anyK (PySem.IsL.isList (n := n) (N _ hm).1) O.are h0 (by rw [O.len]; exact h1) (by omega) (fun t => ?_) hs
  have hx : ns.getD k.toNat 0 ∈ ns := by
    rw [List.getD_eq_getElem?_getD, List.getElem?_eq_getElem hk]
    exact List.getElem_mem hk
  have q := O.lo _ hx
  exact h _ t q.1 (by omega)
end
local macro_rules | `(tactic| tb_rel) => `(tactic| repeat' (first | (k_unfold; (try dsimp only)) | walk1 | (dsimp only; walk1) | (leave1; try dsimp only)))
local macro_rules | `(tactic| walk_at "subscriptTail") => `(tactic| (k_here; (with_reducible show wpAny _ _ (subscriptTail _ _ (Value.ref _) (Value.int _ _)) _ _ _); k_dflt (refine' oct_item (by assumption) ?N ?m ?a ?b ?c ?_; (case N => k_asm); (case m => first | k_mem | assumption); (case a => decide); (case b => decide); (case c => decide); k_whole); intro _ _ _ _))
local macro_rules | `(tactic| walk_at "binaryOp LShift int int") => `(tactic| (k_here; (with_reducible refine lsh_any (by decide) (by decide) (by assumption) (by assumption) ?_); intro _))
set_option maxHeartbeats 1000000 in
theorem compact_spec (w : World) (l : Addr) (vs : List Value) (ns : List Int) (n : Nat) (news : Ledger) (hm : (l, listOf vs.toArray n) ∈ news) (O : Oct 4 vs ns) :
    Spec 1 w 28 [.ref l] news (fun r n' => n' = news ∧ ∃ z t, r = .int z t) := by
  unfold Spec
  k_fill
  intro p loose mean mg mb dp un gd cn cs ad ccd cll outer A₀ base h₀ L m s Q E B F X N T hk hd hu hret
  refine wpAny_call ?_
  k_dflt cell_enter
  tb_rel
  exact hret _ _ _ _ (by assumption) (by assumption) ⟨rfl, _, _, rfl⟩
theorem compact_use {w : World} {l : Addr} {vs : List Value} {ns : List Int} {n : Nat} {news : Ledger}
    {p : Program} {loose : List Str} {mean : ExcName → Option Value} {mg mb : Str → Option Value} {dp un : Nat} {gd : Option (List Code)} {cn : Str} {cs : Scope} {a : Addr} {ccd : Value} {cl : List (Str × Addr)} {outer : List Env} {A₀ : Around} {base h₀ : Heap} {L : Addr} {m : Str → Option Value} {s : Shared} {Q E : Value → Shared → Prop}
    (hm : (l, listOf vs.toArray n) ∈ news) (O : Oct 4 vs ns) (B : Below A₀ base outer h₀) (F : Fr h₀ L s.heap m) (X : (hd.heap_39 w.params).In h₀) (N : News h₀ L s.heap news) (T : Top p loose mean mg mb h₀) (hk : cs.kind = .function) (hd : dp + 10 * 1 < recursionLimit) (hu : un + 100 * 1 < cLine)
    (ret : ∀ z t h' tk', Fr h₀ L h' m → News h₀ L h' news → Q (.int z t) { s with heap := h', toks := tk' }) :
    wpAny (model PySem.Challenge.rw_yu0003_03.row.prog w) (ktrTop dp un gd cn cs L a ccd cl outer) (call (.ref 28) [.ref l]) Q E s := by
  refine Spec.use (compact_spec w l vs ns n news hm O) B F X N T hk hd hu ?_
  rintro r n h' tk' F' N' ⟨rfl, z, t, rfl⟩
  exact ret z t h' tk' F' N'
end Mine
namespace Mine
theorem ints_one {vs : List Value} {a b : List Int} (h1 : IntsAre vs a) (h2 : IntsAre vs b) : a.length = b.length := h1.length.symm.trans h2.length
theorem not_row_oct {c n : Nat} {vs : List Value} {ns : List Int} (O : Oct c vs ns) (hc : c ≠ 4) : ¬ RowObj (listOf vs.toArray n) := by
  rintro ⟨vs', ns', k, e, hi, h4⟩
  have e2 : (Data.seq vs.toArray n) = Data.seq vs'.toArray k := congrArg Obj.data e
  have e3 : vs.toArray = vs'.toArray := by injection e2
  have e4 : vs = vs' := by simpa using e3
  subst e4
  have q := ints_one O.are hi
  rw [O.len, h4] at q
  exact hc q
theorem own_rowless {h₀ h : Heap} {L : Addr} {ex mat : Ledger} {rows : List Addr} (N : News h₀ L h (ex ++ mat)) (hM : MatOk rows mat) (hex : ∀ q ∈ ex, ¬ RowObj q.2) : OwnOff mat (ex.map (·.1)) := fun p hp b hb e => by
  obtain ⟨q, hq, rfl⟩ := List.mem_map.mp hb
  have g1 := (N p (List.mem_append_right _ hp)).1
  have g2 := (N q (List.mem_append_left _ hq)).1
  rw [e, g2] at g1
  exact hex q hq ((Option.some.inj g1) ▸ hM.objs p hp)
section
variable {prog : Program} {w : World} {A : Around} {E : Value → Shared → Prop} {s : Shared} {h₀ : Heap} {L l : Addr} {m : Str → Option Value} {news : Ledger} {Q : Value → Shared → Prop} {vs : List Value} {ns : List Int} {n : Nat}
theorem len_oct {c : Nat} (O : Oct c vs ns) (N : News h₀ L s.heap news) (hm : (l, listOf vs.toArray n) ∈ news) (hc : c < 2 ^ 60) (h : Q (.int (c : Int) (s.toks + 1)) { s with toks := s.toks + 1 + 1 }) :
    wpAny (model prog w) A (call (.builtin "len") [.ref l]) Q E s := by
  have q := O.len
  subst q
  exact len_ints_fit (PySem.IsL.isList (n := n) (N _ hm).1) O.are (by omega) h
theorem len_refs {as : List Addr} {c : Nat} (ha : as.length = c) (N : News h₀ L s.heap news) (hm : (l, refsObj as n) ∈ news) (hc : c < 2 ^ 60) (h : Q (.int (c : Int) (s.toks + 1)) { s with toks := s.toks + 1 + 1 }) :
    wpAny (model prog w) A (call (.builtin "len") [.ref l]) Q E s := by
  subst ha
  have e : (as.map Value.ref).toArray.size = as.length := by simp
  have hl : s.heap.IsList l (as.map Value.ref).toArray := PySem.IsL.isList (n := n) (N _ hm).1
  refine Calls.call_len_list hl (by omega) ?_
  rw [e]
  exact h
end
/-- the eleven rows of the key, among the rows -/
structure KeIn (as rows : List Addr) : Prop where
  len : as.length = 11
  sub : ∀ a ∈ as, a ∈ rows
theorem KeIn.at {as rows : List Addr} {k : Nat} (K : KeIn as rows) (h : k < 11) : as.getD k 0 ∈ rows := K.sub _ (getD_in (by rw [K.len]; exact h))
def EncPost (r : Value) (news' : Ledger) : Prop := ∃ res vs ns n, r = .ref res ∧ Oct 16 vs ns ∧ news' = [(res, listOf vs.toArray n)]
def EncPre (w : World) (x dx ke kd pl : Addr) (t1 t2 : Tok) (as : List Addr) (n n0 : Nat) (vs : List Value) (mat : Ledger) : Ledger :=
  (pl, listOf vs.toArray n0) :: (ke, refsObj as n) :: (x, instObj 99 dx) :: (dx, dictOf [⟨PyData.keyHash w.params "_Ke", .str "_Ke" t1, .ref ke⟩, ⟨PyData.keyHash w.params "_Kd", .str "_Kd" t2, .ref kd⟩] 2) :: mat
end Mine
namespace Mine
section
variable {prog : Program} {w : World} {A : Around} {E : Value → Shared → Prop} {s : Shared} {h₀ : Heap} {L l : Addr} {m : Str → Option Value} {news : Ledger} {value slice : PySem.Expr} {vs : List Value} {ns : List Int} {vl vu : Value} {x y : Int} {n : Nat} {Q : Value → Shared → Prop}
theorem slice_oct (F : Fr h₀ L s.heap m) (N : News h₀ L s.heap news) (hm : (l, listOf vs.toArray n) ∈ news) (O : Oct 16 vs ns) (pl : IsPart vl (some x)) (pu : IsPart vu (some y)) (hx : 0 ≤ x) (hxy : y = x + 4) (hy : y ≤ 16)
    (h : ∀ D ws ms h', Fr h₀ L h' m → News h₀ L h' ((D, listOf (List.toArray ws) 0) :: news) → (∀ p ∈ news, p.1 < D) → Oct 4 ws ms → Q (.ref D) { s with heap := h' })
    (hs : subscripted slice false (.ref l) (.ref s.heap.objs.size) = operate [.ref s.heap.objs.size, .ref l] (getItem (.ref l) (.ref s.heap.objs.size)) := by with_unfolding_all rfl) (ht : ∀ r, letTemporaryGo value (.ref l) r = pure () := by intro _; with_unfolding_all rfl) :
    wpAny (model prog w) A (subscriptTail value slice (.ref l) (.ref s.heap.objs.size)) Q E { s with heap := s.heap.push { cls := .type "slice", data := .fields #[vl, vu, .none] } } := by
  have hl : ((ns.drop x.toNat).take (min y.toNat ns.length - x.toNat)).length = 4 := by
    rw [List.length_take, List.length_drop, O.len]; omega
  refine kmk_slice_ints F N (PySem.IsL.isList (n := n) (N _ hm).1) pl pu O.are (kmk_run O.are hx (by omega)) hl (fun D ws h' F' N' lt hi _ _ => h D ws _ h' F' N' lt ⟨hi, hl, fun z hz => ?_⟩) hs ht (kmk_sz O.are (by rw [O.len]; exact Nat.le_of_ble_eq_true rfl))
  exact O.lo z (List.drop_subset _ _ (List.take_subset _ _ hz))
end
theorem MatOk.cons {rows : List Addr} {mat : Ledger} {a : Addr} {o : Obj} (h : MatOk rows mat) (ho : RowObj o) : MatOk (a :: rows) ((a, o) :: mat) :=
  ⟨fun b hb => by
    rcases List.mem_cons.mp hb with rfl | hb
    · exact ⟨o, List.mem_cons_self⟩
    · obtain ⟨o', h'⟩ := h.rows_in b hb
      exact ⟨o', List.mem_cons_of_mem _ h'⟩,
   fun p hp => by
    rcases List.mem_cons.mp hp with rfl | hp
    · exact ho
    · exact h.objs p hp⟩
theorem not_row_cell {o : Obj} {v : Option Value} (h : o.data = .cell v) : ¬ RowObj o := by
  rintro ⟨vs, ns, n, rfl, _, _⟩
  cases h
theorem enc_rows {h₀ h : Heap} {L D A : Addr} {ex mat l : Ledger} {rows : List Addr} {oA : Obj} {q : Addr × Obj} {vs : List Value} {ns : List Int} (ok : MatOk rows mat) (N : News h₀ L h ((D, LCg.lst vs) :: (A, oA) :: q :: l)) (T : Tl ex mat l) (hA : RowObj oA) (hi : IntsAre vs ns) (h4 : ns.length = 4)
    (hex : ∀ q ∈ ex, ¬ RowObj q.2) : ∃ mat' ks, Mt (D :: A :: rows) (ex.map (·.1)) ks mat' ∧ News h₀ L h (ex ++ mat') := by
  have hl := T.eq
  subst hl
  have N' : News h₀ L h (ex ++ ((D, LCg.lst vs) :: (A, oA) :: mat)) := fun p hp => by
    rcases List.mem_append.mp hp with hp | hp
    · exact N p (List.mem_cons_of_mem _ (List.mem_cons_of_mem _ (List.mem_cons_of_mem _ (List.mem_append_left _ hp))))
    · rcases List.mem_cons.mp hp with rfl | hp
      · exact N _ List.mem_cons_self
      · rcases List.mem_cons.mp hp with rfl | hp
        · exact N _ (List.mem_cons_of_mem _ List.mem_cons_self)
        · exact N p (List.mem_cons_of_mem _ (List.mem_cons_of_mem _ (List.mem_cons_of_mem _ (List.mem_append_right _ hp))))
  have ok' : MatOk (D :: A :: rows) ((D, LCg.lst vs) :: (A, oA) :: mat) := (ok.cons hA).cons ⟨vs, ns, vs.length, rfl, hi, h4⟩
  exact ⟨_, _, ⟨ok', own_rowless N' ok' hex, rfl⟩, N'⟩
end Mine
namespace Mine
section
variable {prog : Program} {w : World} {A : Around} {E : Value → Shared → Prop} {s : Shared} {h₀ : Heap} {L a : Addr} {m : Str → Option Value} {news mat : Ledger} {rows : List Addr}
theorem mat_copy {Q : Value → Shared → Prop} (F : Fr h₀ L s.heap m) (N : News h₀ L s.heap news) (hM : MatOk rows mat) (ha : a ∈ rows) (sub : ∀ p ∈ mat, p ∈ news)
    (h : ∀ D c h' (vs : List Value) ns, Fr h₀ L h' m → News h₀ L h' ((D, listOf vs.toArray c) :: news) → (∀ q ∈ news, q.1 < D) → IntsAre vs ns → ns.length = 4 → Q (.ref D) { s with heap := h' }) :
    wpAny (model prog w) A (call (.type "list") [.ref a]) Q E s := by
  obtain ⟨o, ho⟩ := hM.rows_in a ha
  obtain ⟨vs, ns, n, rfl, hi, h4⟩ := hM.objs _ ho
  refine kup_listOf (zs := vs) F N (sub _ ho) rfl (fun D c h' F' N' lt => h D c h' vs ns F' N' lt hi h4) ?_
  show vs.length ≤ sizeLine
  rw [hi.length, h4]
  exact Nat.le_of_ble_eq_true rfl
end
section
variable {prog : Program} {w : World} {A : Around} {E : Value → Shared → Prop} {s : Shared} {env : Env} {h₀ : Heap} {L : Addr} {x : Str} {body : List Stmt} {Q : Flow → Shared → Prop} {l ex mat : Ledger} {rows adr ks : List Addr} {tA : Addr}
/-- what a turn must show at its end -/
def EncNext (x ty : Str) (stored : List Str) (m₀ : Str → Option Value) (rows adr : List Addr) (I : Addr) (ex : Ledger) (R : (Str → Option Value) → Ledger → Prop) : Prop :=
  ∀ mat' ks' tA' m', Mt (tA' :: rows) (I :: adr) ks' mat' → m' ty = some (.ref tA') → (∀ z, z ≠ x → z ≠ ty → stored.contains z = false → m' z = m₀ z) → R m' (ex ++ mat')
theorem enc_loop {r : Addr} {a₀ b₀ : Int} {t₀ u₀ v₀ : Tok} {n : Nat} {m₀ : Str → Option Value} (ty : Str) (stored : List Str) (M : Mt (tA :: rows) adr ks mat) (N : News h₀ L s.heap l) (T : Tl ex mat l) (hL : env.locals = L)
    (hh : A.handled = none) (hr : IsRange s.heap r a₀ b₀ 1 t₀ u₀ v₀) (hsmall : Builtin.Range.small a₀ b₀ 1 = true) (hn : Builtin.Range.rangeSize a₀ b₀ 1 = (n : Int)) (F : Fr h₀ L s.heap m₀) (ht : m₀ ty = some (.ref tA))
    (turn : ∀ (R : (Str → Option Value) → Ledger → Prop) (mat : Ledger) (ks : List Addr) (tA I : Addr) (it : Obj) (k : Int) t (u : Str → Option Value) h tk, a₀ ≤ k → k < a₀ + (n : Int) → (∀ p ∈ ex, p.1 ≠ I) → Mt (tA :: rows) (I :: adr) ks mat →
      Fr h₀ L h (fun y => if y = x then some (.int k t) else kstB (fun z => if stored.contains z then u z else m₀ z) [(ty, .ref tA)] y) → News h₀ L h ((I, it) :: (ex ++ mat)) →
      EncNext x ty stored m₀ rows adr I ex R →
      wpAny (model prog w) A (execs body env) (UnrPost h₀ L { s with heap := h, toks := tk } I it R Q) E { s with heap := h, toks := tk })
    (done : ∀ (mat : Ledger) (ks : List Addr) (tA : Addr) (u : Str → Option Value) h tk, Mt (tA :: rows) adr ks mat →
      Fr h₀ L h (fun y => if y = x then u y else kstB (fun z => if stored.contains z then u z else m₀ z) [(ty, .ref tA)] y) → News h₀ L h (ex ++ mat) → Q .next { s with heap := h, toks := tk }) :
    wpAny (model prog w) A (pyIter (.ref r)) (fun it s₂ => LoopAtV prog w A h₀ env x body Q E it s₂) E s := by
  subst hL
  have hl := T.eq
  subst hl
  refine iter_rangeUnr hh hr hsmall hn F N (fun I hI => ?_)
  have exI : ∀ p ∈ ex, p.1 ≠ I := fun p hp => Nat.ne_of_lt (hI p (List.mem_append_left _ hp))
  have key : ∀ (k i : Nat) (mat : Ledger) (ks : List Addr) (tA : Addr) (m : Str → Option Value), i + k = n → Mt (tA :: rows) (I :: adr) ks mat → m ty = some (.ref tA) → (∀ z, z ≠ x → z ≠ ty → stored.contains z = false → m z = m₀ z) →
      RangeRest prog w A E h₀ env x body Q s I a₀ n k i m (ex ++ mat) := by
    intro k
    induction k with
    | zero =>
      intro i mat ks tA m _ hM ht' hr'
      refine RangeRest.zero (fun h tk F' N' => done mat ks tA m h tk ⟨hM.ok, fun p hp b hb => hM.off p hp b (List.mem_cons_of_mem _ hb), hM.keys⟩ (kst_frOut (fun p hp => ?_) (fun z h1 h2 h3 => hr' z h1 (h2 _ List.mem_cons_self) h3) F') N')
      rw [List.mem_singleton.mp hp]; exact ht'
    | succ k ih =>
      intro i mat ks tA m hik hM ht' hr'
      refine RangeRest.succ (fun t h tk F' N' => turn _ mat ks tA I _ (a₀ + (i : Int)) t m h tk (by omega) (by omega) exI hM (kst_fr (fun p hp => ?_) (fun z h1 h2 h3 => hr' z h1 (h2 _ List.mem_cons_self) h3) F') N' ?_)
      · rw [List.mem_singleton.mp hp]; exact ht'
      · intro mat' ks' tA' m' hM' ht2 hr2
        exact ih (i + 1) mat' ks' tA' m' (by omega) hM' ht2 hr2
  refine key n 0 mat ks tA m₀ (by omega) ⟨M.ok, fun p hp b hb => ?_, M.keys⟩ ht (fun _ _ _ _ => rfl)
  rcases List.mem_cons.mp hb with rfl | hb
  · exact Nat.ne_of_lt (hI p (List.mem_append_right _ hp))
  · exact M.off p hp b hb
theorem enc_end {R : (Str → Option Value) → Ledger → Prop} {ty : Str} {stored : List Str} {m₀ m' : Str → Option Value} {I D : Addr} {it : Obj} {vs : List Value} {ns : List Int} {c : Nat} {s₁ : Shared} {h' : Heap} {tk : Nat} {mat' l' : Ledger}
    (next : EncNext x ty stored m₀ rows adr I ex R) (M : Mt (tA :: rows) (I :: adr) ks mat') (F : Fr h₀ L h' m') (N : News h₀ L h' ((D, listOf vs.toArray c) :: l')) (T : Tl ((I, it) :: ex) mat' l') (hi : IntsAre vs ns) (h4 : ns.length = 4) (lt : AllLt D l') (hadr : ex.map (·.1) = adr)
    (exI : ∀ p ∈ ex, p.1 ≠ I) (ht : m' ty = some (.ref D)) (hr : ∀ z, z ≠ x → z ≠ ty → stored.contains z = false → m' z = m₀ z) : UnrEnd h₀ L s₁ I it R { s₁ with heap := h', toks := tk } := by
  have hl := T.eq
  subst hl
  have ltD := fun p hp => kst_ltOf lt p hp
  have ok2 : MatOk (D :: rows) ((D, listOf vs.toArray c) :: mat') := by
    have q : MatOk rows mat' := ⟨fun b hb => M.ok.rows_in b (List.mem_cons_of_mem _ hb), M.ok.objs⟩
    exact q.cons ⟨vs, ns, c, rfl, hi, h4⟩
  refine UnrEnd.intro F N (ex ++ ((D, listOf vs.toArray c) :: mat')) (fun p hp => ?_) (fun p hp => ?_) (next _ _ D m' ⟨ok2, fun p hp b hb => ?_, rfl⟩ ht hr)
  · rcases List.mem_cons.mp hp with rfl | hp
    · exact List.mem_cons_of_mem _ List.mem_cons_self
    · rcases List.mem_append.mp hp with hp | hp
      · exact List.mem_cons_of_mem _ (List.mem_cons_of_mem _ (List.mem_append_left _ hp))
      · rcases List.mem_cons.mp hp with rfl | hp
        · exact List.mem_cons_self
        · exact List.mem_cons_of_mem _ (List.mem_cons_of_mem _ (List.mem_append_right _ hp))
  · rcases List.mem_append.mp hp with hp | hp
    · exact exI p hp
    · rcases List.mem_cons.mp hp with rfl | hp
      · exact Ne.symm (Nat.ne_of_lt (ltD (I, it) List.mem_cons_self))
      · exact M.off p hp I List.mem_cons_self
  · rcases List.mem_cons.mp hp with rfl | hp
    · rcases List.mem_cons.mp hb with rfl | hb
      · exact Ne.symm (Nat.ne_of_lt (ltD (b, it) List.mem_cons_self))
      · rw [← hadr] at hb
        obtain ⟨q, hq, rfl⟩ := List.mem_map.mp hb
        exact Ne.symm (Nat.ne_of_lt (ltD q (List.mem_cons_of_mem _ (List.mem_append_left _ hq))))
    · exact M.off p hp b hb
end

end Mine
namespace Mine
section
variable {prog : Program} {w : World} {A : Around} {E : Value → Shared → Prop} {s : Shared} {env : Env} {h₀ : Heap} {L res : Addr} {x : Str} {body : List Stmt} {Q : Flow → Shared → Prop} {l ex mat : Ledger} {rows adr ks : List Addr} {tA : Addr}
theorem Oct.snoc {c : Nat} {vs : List Value} {ns : List Int} {z : Int} {t : Tok} (O : Oct c vs ns) (h : 0 ≤ z ∧ z < 256) : Oct (c + 1) (vs ++ [.int z t]) (ns ++ [z]) :=
  ⟨O.are.append (.cons _ _ .nil), by rw [List.length_append, O.len]; rfl, fun y hy => by
    rcases List.mem_append.mp hy with hy | hy
    · exact O.lo y hy
    · rw [List.mem_singleton.mp hy]; exact h⟩
theorem m8_oct (z : Int) : 0 ≤ Builtin.bitAnd z 255 ∧ Builtin.bitAnd z 255 < 256 := by rw [bitAnd_m8]; omega
theorem oct_append {prog : Program} {w : World} {A : Around} {E : Value → Shared → Prop} {s : Shared} {h₀ : Heap} {L res : Addr} {m : Str → Option Value} {ex mat own l : Ledger} {adr : List Addr} {vs : List Value} {ns : List Int} {c d : Nat} {z : Int} {t : Tok} {Q : Value → Shared → Prop}
    (O : Oct d vs ns) (F : Fr h₀ L s.heap m) (N : News h₀ L s.heap ((res, listOf vs.toArray c) :: l)) (T : Tl ex (mat ++ own) l) (hm : OwnOff mat (res :: adr)) (ho : OwnOff own (res :: adr)) (hex : ∀ b ∈ ex.map (·.1), @LT.lt Nat _ b res) (hz : 0 ≤ z ∧ z < 256) (hd : d ≤ 1000)
    (h : ∀ h' c' vs' ns', Fr h₀ L h' m → News h₀ L h' ((res, listOf (List.toArray vs') c') :: l) → Oct (d + 1) vs' ns' → Q .none { s with heap := h' }) :
    wpAny (model prog w) A (call (.builtin "list.append") [.ref res, .int z t]) Q E s := by
  have hl := T.eq
  subst hl
  refine append_head F N (fun p hp => ?_) (fun h' F' N' => h h' (c + 1) (vs ++ [.int z t]) (ns ++ [z]) F' ?_ (O.snoc hz)) ?_
  · rcases List.mem_append.mp hp with hp | hp
    · exact Nat.ne_of_lt (hex _ (List.mem_map_of_mem hp))
    · rcases List.mem_append.mp hp with hp | hp
      · exact hm p hp res List.mem_cons_self
      · exact ho p hp res List.mem_cons_self
  · have e : vs.toArray.push (Value.int z t) = (vs ++ [Value.int z t]).toArray := by simp
    rw [e] at N'
    exact N'
  · have e : vs.toArray.size = d := by rw [List.size_toArray, O.are.length, O.len]
    rw [e, PySem.sizeLine_eq]
    omega
/-- the state of the last loop: the items so far -/
abbrev RSt := List Value × List Int × Nat
abbrev ResJ (res : Addr) (ex mat : Ledger) (x : Str) (stored : List Str) (m₀ : Str → Option Value) (pre : List Int) : (Str → Option Value) → Ledger → Prop :=
  KstS (σ := RSt) (fun c => (res, listOf c.1.toArray c.2.2) :: (ex ++ mat)) (fun _ => []) (fun _ => True) x stored m₀ (fun pre c => Oct (4 * pre.length) c.1 c.2.1) pre
theorem res_range {r : Addr} {a₀ b₀ : Int} {t₀ u₀ v₀ : Tok} {n n0 : Nat} {m₀ : Str → Option Value} (stored : List Str) (M : Mt rows adr ks mat) (N : News h₀ L s.heap ((res, listOf #[] n0) :: l)) (T : Tl ex mat l) (lt : AllLt res l) (hadr : ex.map (·.1) = adr) (hL : env.locals = L)
    (hh : A.handled = none) (hr : IsRange s.heap r a₀ b₀ 1 t₀ u₀ v₀) (hsmall : Builtin.Range.small a₀ b₀ 1 = true) (hn : Builtin.Range.rangeSize a₀ b₀ 1 = (n : Int)) (F : Fr h₀ L s.heap m₀)
    (turn : ∀ (vs : List Value) (ns : List Int) (c : Nat) (pre : List Int) (k : Int) t (u : Str → Option Value) h tk own, a₀ ≤ k → k < a₀ + (n : Int) → pre.length < n → OwnOff own (res :: adr) → OwnOff mat (res :: adr) → Oct (4 * pre.length) vs ns →
      Fr h₀ L h (fun y => if y = x then some (.int k t) else kstB (fun z => if stored.contains z then u z else m₀ z) [] y) → News h₀ L h ((res, listOf vs.toArray c) :: (ex ++ (mat ++ own))) →
      wpAny (model prog w) A (execs body env) (InvPostN h₀ L (ResJ res ex mat x stored m₀ (pre ++ [k])) own (res :: (adr ++ ks)) { s with heap := h, toks := tk } Q) E { s with heap := h, toks := tk })
    (done : ∀ (vs : List Value) (ns : List Int) (c : Nat) (u : Str → Option Value) h tk, Oct (4 * n) vs ns → Fr h₀ L h (fun y => if y = x then u y else kstB (fun z => if stored.contains z then u z else m₀ z) [] y) → News h₀ L h ((res, listOf vs.toArray c) :: (ex ++ mat)) → Q .next { s with heap := h, toks := tk }) :
    wpAny (model prog w) A (pyIter (.ref r)) (fun it s₂ => LoopAtV prog w A h₀ env x body Q E it s₂) E s := by
  subst hL
  have hl := T.eq
  subst hl
  subst hadr
  have offM : OwnOff mat (res :: ex.map (·.1)) := fun p hp b hb => by
    rcases List.mem_cons.mp hb with rfl | hb
    · exact Nat.ne_of_lt (kst_ltOf lt p (List.mem_append_right _ hp))
    · exact M.off p hp b hb
  refine kst_range (σ := RSt) (fun c => (res, listOf c.1.toArray c.2.2) :: (ex ++ mat)) (fun _ => []) (fun _ => True) stored (fun pre c => Oct (4 * pre.length) c.1 c.2.1) ([], [], n0) hh hr hsmall hn F N trivial (fun _ h => (nomatch h)) ⟨.nil, rfl, fun _ h => (nomatch h)⟩ ?_ ?_
  · intro c pre k t u h tk own hk hlt ho _ hO F' N'
    have e : ((res, listOf ([] : List Value).toArray n0) :: (ex ++ mat)).map (·.1) = res :: (ex.map (·.1) ++ ks) := by rw [List.map_cons, List.map_append, M.keys]
    have ho' := ho
    rw [e]
    refine turn c.1 c.2.1 c.2.2 pre k t u h tk own (by omega) (by omega) hlt (fun p hp b hb => ?_) offM hO F' (by rw [List.cons_append, List.append_assoc] at N'; exact N')
    refine ho' p hp b ?_
    rcases List.mem_cons.mp hb with rfl | hb
    · exact List.mem_cons_self
    · refine List.mem_cons_of_mem _ ?_
      rw [List.map_append]
      exact List.mem_append_left _ hb
  · intro c u h tk _ hO F' N'
    have q : (rangeKs a₀ n).length = n := rangeKs_length ..
    rw [q] at hO
    exact done c.1 c.2.1 c.2.2 u h tk hO F' N'
theorem res_end {stored : List Str} {m₀ m' : Str → Option Value} {pre : List Int} {k : Int} {own l' : Ledger} {vs : List Value} {ns : List Int} {c d : Nat} {s₁ : Shared} {h' : Heap} {tk : Nat} (M : Mt rows adr ks mat) (F : Fr h₀ L h' m') (N : News h₀ L h' ((res, listOf vs.toArray c) :: l')) (T : Tl ex (mat ++ own) l')
    (O : Oct d vs ns) (hd : d = 4 * pre.length + 4) (hr : ∀ z, z ≠ x → stored.contains z = false → m' z = m₀ z) :
    InvEndN h₀ L (ResJ res ex mat x stored m₀ (pre ++ [k])) own (res :: (ex.map (·.1) ++ ks)) s₁ { s₁ with heap := h', toks := tk } := by
  have hl := T.eq
  subst hl
  subst hd
  refine kst_end (σ := RSt) (vs, ns, c) F N (fun p hp => ?_) (fun p hp => ?_) (by rw [List.map_cons, List.map_append, M.keys]) trivial (fun _ h => (nomatch h)) (fun z h1 _ h2 => hr z h1 h2) (by rw [List.length_append]; exact O)
  · rcases List.mem_cons.mp hp with rfl | hp
    · exact List.mem_cons_self
    · refine List.mem_cons_of_mem _ ?_
      rcases List.mem_append.mp hp with hp | hp
      · exact List.mem_append_left _ hp
      · exact List.mem_append_right _ (List.mem_append_left _ hp)
  · exact List.mem_cons_of_mem _ (List.mem_append_right _ (List.mem_append_right _ hp))
end

end Mine
namespace Mine
local macro_rules | `(tactic| ktr_rel) => `(tactic| (refine' code_defC ?k1 ?k2 ?k3 ?k4 ?k5 ?kA ?kF ?kK ?k6 ?k7 ?k8 ?k9 ?kB ?kD ?_ ?c2 ?c3 ?c4; (case kA => exact rfl); (case kF => exact rfl); (case kK => first | exact rfl | assumption); (case k1 => k_asm); (case k2 => k_asm); (case k3 => k_asm); (case k4 => k_asm); (case k5 => k_asm); (case k6 => k_is); (case k7 => k_is); (case k8 => ktr_room); (case k9 => exact BindsTo.of_eq rfl); (case kB => exact rfl); (case kD => decide +kernel); (case c2 => exact rfl); (case c3 => exact rfl); (case c4 => exact rfl); k_whole; intro g' L' h' tk' cells' FG' F' N' Y' B' X' T' l1; (try k_lt l1); k_cells Y'; (try simp only [List.cons_append, List.nil_append] at N'); (try dsimp only); (try k_lift B'); (try k_fold)))
local macro_rules | `(tactic| walk_at "call builtin:len") => `(tactic| (k_here; (with_reducible show wpAny _ _ (call (Value.builtin "len") [Value.ref _]) _ _ _); k_dflt (first | (refine' len_oct (by assumption) ?N ?m ?c ?_; (case N => k_asm); (case m => k_mem); (case c => decide); k_whole) | (refine' len_refs (by assumption) ?N ?m ?c ?_; (case N => k_asm); (case m => k_mem); (case c => decide); k_whole))))
local macro_rules | `(tactic| walk_at "exec Assign cons ListComp") => `(tactic| (k_here; (with_reducible show wpAny _ _ (exec (PySem.Stmt.Assign [_] (PySem.Expr.ListComp (PySem.Expr.BinOp ..) _ _ _) _) _) _ _ _); k_dflt (refine assign_comp_step (F₀ := by k_asm) (by rfl) (by with_unfolding_all rfl) (by with_unfolding_all rfl) (by decide) (by rfl) (by decide) (by rfl) (by rfl) (by rfl) ?_)))
local macro_rules | `(tactic| tb_rel) => `(tactic| repeat' (first | (k_unfold; (try dsimp only)) | walk1 | (dsimp only; walk1) | (leave1; try dsimp only)))
local macro_rules | `(tactic| walk_at "subscriptTail") => `(tactic| (k_here; (with_reducible show wpAny _ _ (subscriptTail _ (PySem.Expr.Slice _ _ none _) (Value.ref _) (Value.ref _)) _ _ _); k_dflt (refine' slice_oct (s := ⟨_, _, _, _, _⟩) ?F ?N ?m (by assumption) (by constructor) (by constructor) ?a ?b ?c ?_; (case F => k_asm); (case N => k_asm); (case m => k_mem); (case a => omega); (case b => omega); (case c => omega); k_whole); intro D' ws' ms' h' F' N' l1 O'; (try k_lt l1)))
local macro_rules | `(tactic| walk_at "call ref") => `(tactic| (k_here; (with_reducible show wpAny _ _ (call (Value.ref 28) [Value.ref _]) _ _ _); k_dflt (refine' compact_use ?hm ?hO ?k1 ?k2 ?k3 ?k4 ?k5 ?kK ?kd ?ku ?_; (case k4 => k_asm); (case hm => k_mem); (case hO => assumption); (case k1 => k_asm); (case k2 => k_asm); (case k3 => k_asm); (case k5 => k_asm); (case kK => exact rfl); (case kd => ktr_room); (case ku => ktr_units); k_whole); intro z' t' h' tk' F' N'; (try dsimp only); (try k_fold)))
local macro_rules | `(tactic| walk_at "subscriptTail") => `(tactic| (k_here; (with_reducible show wpAny _ _ (subscriptTail _ _ (Value.ref _) (Value.int _ _)) _ _ _); (with_reducible rename MatOk _ _ => hMt); k_dflt (refine' mat_item ?N hMt ?row ?sub ?a ?b ?_; (case row => exact KeIn.at (by assumption) (by omega)); (case N => k_asm); (case sub => (intro p hp; repeat' (first | exact hp | exact List.mem_append_left _ hp | refine List.mem_cons_of_mem _ ?_))); (case a => omega); (case b => omega); k_whole); intro _ _))
local macro_rules | `(tactic| walk_at "subscriptTail") => `(tactic| (k_here; (with_reducible show wpAny _ _ (subscriptTail _ _ (Value.ref _) (Value.int _ _)) _ _ _); k_dflt (refine' refs_item ?N ?m ?a ?b ?c ?_; (case N => k_asm); (case m => k_mem); (case a => (try simp only [fm4, fd4]); omega); (case b => (try simp only [fm4, fd4]); omega); (case c => (try simp only [fm4, fd4]); omega); k_whole)))
local macro_rules | `(tactic| tb_start) => `(tactic| repeat' (first | (k_unfold; (try dsimp only)) | ((fail_if_success (with_reducible show wpAny _ _ (pyIter _) _ _ _)); (fail_if_success (with_reducible show InvEndN _ _ _ _ _ _ _)); (fail_if_success (with_reducible show UnrEnd _ _ _ _ _ _ _)); (fail_if_success (with_reducible show LCg.CompSrc _ _ _ _ _ _ _ _ _ _ _ _ _ _)); first | walk1 | (dsimp only; walk1) | (leave1; try dsimp only))))
local macro_rules | `(tactic| walk_at "subscriptTail") => `(tactic| (k_here; (with_reducible show wpAny _ _ (subscriptTail _ _ (Value.ref _) (Value.int _ _)) _ _ _); (with_reducible rename Mt _ _ _ _ => hMt); k_dflt (refine' mat_item ?N hMt.ok ?row ?sub ?a ?b ?_; (case row => first | exact List.mem_cons_self | exact List.mem_cons_of_mem _ List.mem_cons_self | exact List.mem_cons_of_mem _ (List.mem_cons_of_mem _ (KeIn.at (by assumption) (by omega)))); (case N => k_asm); (case sub => (intro p hp; repeat' (first | exact hp | exact List.mem_append_left _ hp | refine List.mem_cons_of_mem _ ?_))); (case a => (try simp only [fm4]); omega); (case b => (try simp only [fm4]); omega); k_whole); intro _ _))
local macro_rules | `(tactic| walk_at "subscriptTail") => `(tactic| (k_here; (with_reducible show wpAny _ _ (subscriptTail _ _ (Value.ref _) (Value.int _ _)) _ _ _); k_dflt (refine' refs_item ?N ?m ?a ?b ?c ?_; (case N => k_asm); (case m => k_mem); (case a => omega); (case b => omega); (case c => omega); k_whole)))
local macro_rules | `(tactic| walk_at "subscriptTail") => `(tactic| (k_here; (with_reducible show wpAny _ _ (subscriptTail _ _ (Value.ref _) (Value.int _ _)) _ _ _); k_dflt (refine' tab_any ?F ?X ?a ?k0 ?k1 ?_; (case a => decide); (case F => k_asm); (case X => k_asm); (case k0 => (simp only [bitAnd_m8]); omega); (case k1 => (simp only [bitAnd_m8]); omega); k_whole); intro _ _ _ _))
local macro_rules | `(tactic| walk_at "setItem ref int") => `(tactic| (k_here; (with_reducible show wpAny _ _ (setItem (Value.ref _) (Value.int _ _) (Value.int _ _)) _ _ _); (with_reducible rename Mt _ _ _ _ => hMt); k_dflt (refine' mat_setP hMt ?F ?N ?T ?o ?sub ?row ?a ?b ?_; (case row => first | exact List.mem_cons_self | exact List.mem_cons_of_mem _ List.mem_cons_self | exact List.mem_cons_of_mem _ (List.mem_cons_of_mem _ (KeIn.at (by assumption) (by omega)))); (case F => k_asm); (case N => k_asm); (case T => repeat constructor); (case o => assumption); (case sub => (simp only [List.map_cons, List.map_nil]; intro b hb; simp only [List.mem_cons, List.not_mem_nil, or_false] at hb ⊢; omega)); (case a => omega); (case b => omega); k_whole); clear hMt; intro h' mat' F' hMt' N'; (try simp only [List.cons_append, List.nil_append] at N')))
local macro_rules | `(tactic| walk_at "binaryOp RShift int int") => `(tactic| (k_here; (with_reducible refine rsh_any (by decide) ?_); intro _))
local macro_rules | `(tactic| walk_at "call type:list") => `(tactic| (k_here; (with_reducible show wpAny _ _ (call (Value.type "list") [Value.ref _]) _ _ _); (with_reducible rename Mt _ _ _ _ => hMt); k_dflt (refine' mat_copy ?F ?N hMt.ok ?row ?sub ?_; (case row => first | exact List.mem_cons_self | exact List.mem_cons_of_mem _ List.mem_cons_self | exact List.mem_cons_of_mem _ (List.mem_cons_of_mem _ (KeIn.at (by assumption) (by omega)))); (case F => k_asm); (case N => k_asm); (case sub => (intro p hp; repeat' (first | exact hp | exact List.mem_append_left _ hp | refine List.mem_cons_of_mem _ ?_))); k_whole); intro D' c' h' vs' ns' F' N' l1 hi' h4'; (try k_lt l1)))
local macro_rules | `(tactic| walk_at "call builtin:list.append") => `(tactic| (k_here; (with_reducible show wpAny _ _ (call (Value.builtin "list.append") [Value.ref _, Value.int _ _]) _ _ _); (with_reducible rename Oct _ _ _ => hOct); k_dflt (refine' oct_append hOct ?F ?N ?T ?m ?o ?x ?z ?d ?_; (case F => k_asm); (case N => k_asm); (case T => repeat constructor); (case m => assumption); (case o => assumption); (case x => (simp only [List.map_cons, List.map_nil]; intro b hb; simp only [List.mem_cons, List.not_mem_nil, or_false] at hb; omega)); (case z => exact m8_oct _); (case d => omega); k_whole); clear hOct; intro h' c' vs' ns' F' N' hOct'))
set_option maxHeartbeats 20000000 in
theorem encrypt_spec (w : World) (x dx ke kd pl : Addr) (tk1 tk2 : Tok) (as rows : List Addr) (n n0 : Nat) (mat : Ledger) (vs : List Value) (ns : List Int) (hK : KeIn as rows) (hM : MatOk rows mat) (hO : Oct 16 vs ns) :
    Spec 2 w 89 [.ref x, .ref pl] (EncPre w x dx ke kd pl tk1 tk2 as n n0 vs mat) EncPost := by
  unfold Spec EncPre
  k_fill
  intro p loose mean mg mb dp un gd cn cs ad ccd cll outer A₀ base h₀ L m s Q E B F X N T hk hd hu hret
  have h11 := hK.len
  have own0 : OwnOff mat [pl, ke, x, dx] := by
    refine own_rowless (ex := [_, _, _, _]) N hM fun q hq => ?_
    rcases List.mem_cons.mp hq with rfl | hq
    · exact not_row_oct hO (by decide)
    · rcases List.mem_cons.mp hq with rfl | hq
      · exact not_row_refs (by intro e; rw [e] at h11; cases h11)
      · rcases List.mem_cons.mp hq with rfl | hq
        · exact not_row_cls (by intro e; cases e)
        · rcases List.mem_cons.mp hq with rfl | hq
          · exact not_row_cls (by intro e; exact absurd (Value.type.inj e) (by decide))
          · cases hq
  refine wpAny_call ?_
  k_dflt ktr_rel
  have kM := kstMark
  tb_start
  · unfold StepSrc
    refine' ⟨_, _, _, _, _, _, _, 4, _, rfl, ?k1_e2, ?k2_e2, ?k3_e2, ?k4_e2, ?k5_e2, ?k6_e2, ?k7_e2, ?k8_e2⟩
    case k1_e2 => rfl
    case k2_e2 => k_asm
    case k3_e2 => k_asm
    case k4_e2 => assumption
    case k5_e2 => first | decide | rfl
    case k6_e2 => first | rfl | decide
    case k7_e2 => exact Nat.le_of_ble_eq_true rfl
    rintro _ ⟨g', rfl⟩
    refine' comp_ints ?step_e2 4 0 [] [] .nil ?fin_e2
    case step_e2 =>
      rintro i v I oI C oC D oD m₂ h tk E' ⟨hi, t, rfl⟩ hC hx F N
      have hv : 0 ≤ (0 : Int) + (i : Int) * 1 ∧ (0 : Int) + (i : Int) * 1 < 4 := by omega
      generalize (0 : Int) + (i : Int) * 1 = v at hv
      obtain ⟨hv0, hv1⟩ := hv
      tb_rel
      exact ⟨_, _, _, _, rfl, rfl, by assumption, cb_drop (by assumption) (fun p hp => List.mem_cons_of_mem _ hp)⟩
    case fin_e2 =>
      intro vs1 ns1 hi1 hl1
      show LCg.FinA _ _ _ _ _ _ _ _
      intro D3 h3 tk3 F3 N3 off3
      rename MatOk _ _ => ok0
      obtain ⟨mat1, ks1, M1, N1⟩ := enc_rows ok0 N3 (by repeat constructor) ⟨_, [0, 0, 0, 0], _, rfl, .cons _ _ (.cons _ _ (.cons _ _ (.cons _ _ .nil))), rfl⟩ hi1 hl1 (fun q hq => by
        rcases List.mem_cons.mp hq with rfl | hq
        · exact not_row_cell (by assumption)
        · rcases List.mem_cons.mp hq with rfl | hq
          · exact not_row_cell (by assumption)
          · rcases List.mem_cons.mp hq with rfl | hq
            · exact not_row_oct hO (by decide)
            · rcases List.mem_cons.mp hq with rfl | hq
              · exact not_row_refs (by intro e; rw [e] at h11; cases h11)
              · rcases List.mem_cons.mp hq with rfl | hq
                · exact not_row_cls (by intro e; cases e)
                · rcases List.mem_cons.mp hq with rfl | hq
                  · exact not_row_cls (by intro e; exact absurd (Value.type.inj e) (by decide))
                  · cases hq)
      clear N3 off3 own0 hi1 hl1
      simp only [List.cons_append, List.nil_append, List.map_cons, List.map_nil] at M1 N1
      dsimp only
      tb_start
      rename Mt _ _ _ _ => M
      k_here
      refine' enc_loop "t" ["i"] M ?N_e3 ?T_e3 ?hL_e3 ?k1_e3 ?k2_e3 ?k3_e3 ?k4_e3 ?k5_e3 ?ht_e3 ?turn_e3 ?done_e3
      case N_e3 => k_asm
      case T_e3 => repeat constructor
      case hL_e3 => rfl
      case k1_e3 => rfl
      case k2_e3 => assumption
      case k3_e3 => first | decide | rfl
      case k4_e3 => exact (rfl : _ = ((9 : Nat) : Int))
      case k5_e3 => k_asm
      case ht_e3 => rfl
      case turn_e3 =>
        clear M
        intro R mat2 ks2 tA I it r t u h tk hr0 hr1 exI M F' N' next
        simp only [List.cons_append, List.nil_append, List.map_cons, List.map_nil] at N' M
        tb_start
        rename Mt _ _ _ _ => M
        have exI2 := exI
        simp only [List.forall_mem_cons, List.not_mem_nil, false_imp_iff, implies_true, and_true] at exI2
        k_here
        refine' mat_range [] M ?N_e4 ?T_e4 ?hL_e4 ?k1_e4 ?k2_e4 ?k3_e4 ?k4_e4 ?k5_e4 ?turn_e4 ?done_e4
        case N_e4 => k_asm
        case T_e4 => repeat constructor
        case hL_e4 => rfl
        case k1_e4 => rfl
        case k2_e4 => assumption
        case k3_e4 => first | decide | rfl
        case k4_e4 => exact (rfl : _ = ((4 : Nat) : Int))
        case k5_e4 => k_asm
        case turn_e4 =>
          clear M
          intro mat pre i t u h tk own hi0 hi1 ho M F' N'
          simp only [List.cons_append, List.nil_append] at N'
          tb_start
          all_goals exact mat_end (by assumption) (by assumption) (by assumption) (by repeat constructor) (by intro z h1 h2; simp only [h1, if_false]; rfl)
        case done_e4 =>
          clear M
          intro mat u h tk M F' N'
          simp only [List.cons_append, List.nil_append] at N'
          tb_start
          exact enc_end next (by assumption) (by assumption) (by assumption) (by repeat constructor) (by assumption) (by assumption) (by assumption) (by rfl) exI rfl (by
            intro z h1 h2 h3
            have h4 := h3
            simp only [List.contains_cons, List.contains_nil, Bool.or_false, beq_eq_false_iff_ne, ne_eq] at h4
            simp only [kstB, h1, h2, h3, h4, if_false, Bool.false_eq_true, List.contains_nil])
      case done_e3 =>
        clear M
        intro mat2 ks2 tA u h tk M F' N'
        simp only [List.cons_append, List.nil_append, List.map_cons, List.map_nil] at N' M
        tb_start
        rename Mt _ _ _ _ => M
        k_here
        refine' res_range ["tt"] M ?N_e5 ?T_e5 ?lt_e5 ?hadr_e5 ?hL_e5 ?k1_e5 ?k2_e5 ?k3_e5 ?k4_e5 ?k5_e5 ?turn_e5 ?done_e5
        case N_e5 => k_asm
        case T_e5 => repeat constructor
        case lt_e5 => assumption
        case hadr_e5 => rfl
        case hL_e5 => rfl
        case k1_e5 => rfl
        case k2_e5 => assumption
        case k3_e5 => first | decide | rfl
        case k4_e5 => exact (rfl : _ = ((4 : Nat) : Int))
        case k5_e5 => k_asm
        case turn_e5 =>
          intro vs2 ns2 c pre i t u h tk own hi0 hi1 hpre ho hoM O F' N'
          simp only [List.cons_append, List.nil_append] at N'
          have kM := kstMark
          tb_start
          refine' res_end ?rM_e5 ?rF_e5 ?rN_e5 ?rT_e5 ?rO_e5 ?rd_e5 ?rr_e5
          case rM_e5 => assumption
          case rF_e5 => assumption
          case rN_e5 => assumption
          case rT_e5 => repeat constructor
          case rO_e5 => assumption
          case rd_e5 => omega
          case rr_e5 =>
            intro z h1 h2
            have h3 := h2
            simp only [List.contains_cons, List.contains_nil, Bool.or_false, beq_eq_false_iff_ne, ne_eq] at h3
            simp only [kstB, h1, h2, h3, if_false, Bool.false_eq_true, List.contains_nil]
        case done_e5 =>
          intro vs2 ns2 c u h tk O F' N'
          simp only [List.cons_append, List.nil_append] at N'
          tb_start
          rename News _ _ _ _ => NN
          exact hret _ _ _ _ (by assumption) (cb_drop NN (by kcj_all)) ⟨_, _, _, _, rfl, O, rfl⟩
end Mine
namespace Mine
/-! ## rcon: the powers of 2 -/
noncomputable def rIter : Nat → Int
  | 0 => 1
  | n + 1 => times (rIter n) 2
noncomputable def rGo (n : Nat) : Nat := @Nat.rec (fun _ => Nat) 1 (fun _ r => force r fun r' => timesN r' 2) n
theorem rGo_succ (n : Nat) : rGo (n + 1) = timesN (rGo n) 2 := by
  show force (rGo n) (fun r' => timesN r' 2) = _
  rw [force_eq]
theorem rIter_eq : ∀ n : Nat, rIter n = ((rGo n : Nat) : Int) ∧ rGo n < 256
  | 0 => ⟨rfl, by show (1 : Nat) < 256; decide⟩
  | n + 1 => by
    have h := rIter_eq n
    refine ⟨?_, ?_⟩
    · show times (rIter n) 2 = _
      rw [h.1, rGo_succ]
      exact times_nat 2 h.2
    · rw [rGo_succ]
      exact timesN_lt 2 h.2
theorem rcon_all : (List.range 30).map (fun k => (tabL 37).getD k 0) = (List.range 30).map fun k => ((rGo k : Nat) : Int) := by kernel_rfl
theorem rcon_ok {k : Nat} (h : k < 30) : tabAt 37 (k : Int) = rIter k := by
  rw [(rIter_eq k).1]
  unfold tabAt
  exact map_at rcon_all (List.mem_range.mpr h)
end Mine
namespace Mine

theorem state_use {w : World} {l : Addr} {vs : List Value} {ns : List Int} {news : Ledger} {p : Program} {loose : List Str} {mean : ExcName → Option Value} {mg mb : Str → Option Value} {dp un : Nat} {gd : Option (List Code)} {cn : Str} {cs : Scope} {a : Addr} {ccd : Value} {cl' : List (Str × Addr)} {outer : List Env} {A₀ : Around} {base h₀ : Heap} {L : Addr} {m : Str → Option Value} {s : Shared} {Q E : Value → Shared → Prop}
    (hi : IntsAre vs ns) (h63 : ns.length ≤ 63) (hb : base.IsList l vs.toArray) (B : Below A₀ base outer h₀) (F : Fr h₀ L s.heap m) (X : (hd.heap_39 w.params).In h₀) (N : News h₀ L s.heap news) (T : Top p loose mean mg mb h₀) (hk : cs.kind = .function) (hd : dp + 10 * 1 < recursionLimit) (hu : un + 100 * 1 < cLine)
    (ret : ∀ st cl t n vs' ns' h' tk', Fr h₀ L h' m → News h₀ L h' [(st, listOf #[.int 0 t, .ref cl] 0), (cl, listOf (List.toArray vs') n)] → @LT.lt Nat _ cl st → Cells vs' ns' → Q (.ref st) { s with heap := h', toks := tk' }) :
    wpAny (model PySem.Challenge.rw_yu0003_03.row.prog w) (ktrTop dp un gd cn cs L a ccd cl' outer) (call (.ref 108) [.ref l]) Q E s := by
  refine state_spec w l vs ns hi h63 p loose mean mg mb dp un gd cn cs a ccd cl' outer A₀ base h₀ L m s Q E B F X (fun _ h => (nomatch h)) T hk hd hu hb ?_
  rintro r n' h' tk' F' N' ⟨st, cl, t, n, vs', ns', rfl, rfl, lt, hc⟩
  exact ret st cl t n vs' ns' h' tk' F' N' lt hc
theorem take_use {w : World} {st cl : Addr} {i : Int} {ti : Tok} {n1 n2 : Nat} {vs : List Value} {ns : List Int} {most : Int} {tm : Tok} {news : Ledger} {p : Program} {loose : List Str} {mean : ExcName → Option Value} {mg mb : Str → Option Value} {dp un : Nat} {gd : Option (List Code)} {cn : Str} {cs : Scope} {a : Addr} {ccd : Value} {cl' : List (Str × Addr)} {outer : List Env} {A₀ : Around} {base h₀ : Heap} {L : Addr} {m : Str → Option Value} {s : Shared} {Q E : Value → Shared → Prop}
    (m1 : (st, listOf #[.int i ti, .ref cl] n1) ∈ news) (m2 : (cl, listOf vs.toArray n2) ∈ news) (hlt : @LT.lt Nat _ cl st) (hc : Cells vs ns) (hi0 : 0 ≤ i) (hi1 : i ≤ 3) (hm0 : 0 < most) (hm1 : most ≤ 256) (B : Below A₀ base outer h₀) (F : Fr h₀ L s.heap m) (X : (hd.heap_39 w.params).In h₀) (N : News h₀ L s.heap news) (T : Top p loose mean mg mb h₀) (hk : cs.kind = .function) (hd : dp + 10 * 1 < recursionLimit) (hu : un + 100 * 1 < cLine)
    (ret : ∀ j tj i' ti' vs' ns' h' tk', Fr h₀ L h' m → News h₀ L h' [(st, listOf #[.int i' ti', .ref cl] n1), (cl, listOf (List.toArray vs') n2)] → 0 ≤ j → j < most → Cells vs' ns' → 0 ≤ i' → i' ≤ i + 1 → Q (.int j tj) { s with heap := h', toks := tk' }) :
    wpAny (model PySem.Challenge.rw_yu0003_03.row.prog w) (ktrTop dp un gd cn cs L a ccd cl' outer) (call (.ref 115) [.ref st, .int most tm]) Q E s := by
  refine Spec.use (take_spec w st cl i ti n1 n2 vs ns most tm hlt hc hi0 hi1 hm0 hm1) B F X (fun q hq => ?_) T hk hd hu ?_
  · rcases List.mem_cons.mp hq with rfl | hq
    · exact N _ m1
    · rw [List.mem_singleton.mp hq]; exact N _ m2
  · rintro r n' h' tk' F' N' ⟨j, tj, i', ti', vs', ns', rfl, j0, j1, rfl, hc', a0, a1⟩
    exact ret j tj i' ti' vs' ns' h' tk' F' N' j0 j1 hc' a0 a1
theorem place_use {w : World} {b : Int} {tb : Tok} {news : Ledger} {p : Program} {loose : List Str} {mean : ExcName → Option Value} {mg mb : Str → Option Value} {dp un : Nat} {gd : Option (List Code)} {cn : Str} {cs : Scope} {a : Addr} {ccd : Value} {cl' : List (Str × Addr)} {outer : List Env} {A₀ : Around} {base h₀ : Heap} {L : Addr} {m : Str → Option Value} {s : Shared} {Q E : Value → Shared → Prop}
    (h0 : 0 ≤ b) (h1 : b < 256) (B : Below A₀ base outer h₀) (F : Fr h₀ L s.heap m) (X : (hd.heap_39 w.params).In h₀) (N : News h₀ L s.heap news) (T : Top p loose mean mg mb h₀) (hk : cs.kind = .function) (hd : dp + 10 * 4 < recursionLimit) (hu : un + 100 * 4 < cLine)
    (ret : ∀ h' tk', Fr h₀ L h' m → News h₀ L h' news → Q (.bool true) { s with heap := h', toks := tk' }) :
    wpAny (model PySem.Challenge.rw_yu0003_03.row.prog w) (ktrTop dp un gd cn cs L a ccd cl' outer) (call (.ref 148) [.int b tb]) Q E s := by
  refine Spec.use (place_spec w b tb news h0 h1) B F X N T hk hd hu ?_
  rintro r n' h' tk' F' N' ⟨rfl, rfl⟩
  exact ret h' tk' F' N'
theorem init_use {w : World} {b : Array UInt8} {tb : Tok} {news : Ledger} {p : Program} {loose : List Str} {mean : ExcName → Option Value} {mg mb : Str → Option Value} {dp un : Nat} {gd : Option (List Code)} {cn : Str} {cs : Scope} {a : Addr} {ccd : Value} {cl' : List (Str × Addr)} {outer : List Env} {A₀ : Around} {base h₀ : Heap} {L : Addr} {m : Str → Option Value} {s : Shared} {Q E : Value → Shared → Prop}
    (hb : b.size = 16) (B : Below A₀ base outer h₀) (F : Fr h₀ L s.heap m) (X : (hd.heap_39 w.params).In h₀) (N : News h₀ L s.heap news) (T : Top p loose mean mg mb h₀) (hk : cs.kind = .function) (hd : dp + 10 * 3 < recursionLimit) (hu : un + 100 * 3 < cLine)
    (ret : ∀ x dx ke kd t1 t2 as rows n mat h' tk', Fr h₀ L h' m → News h₀ L h' ((ke, refsObj as n) :: (x, instObj 99 dx) :: (dx, dictOf [⟨PyData.keyHash w.params "_Ke", .str "_Ke" t1, .ref ke⟩, ⟨PyData.keyHash w.params "_Kd", .str "_Kd" t2, .ref kd⟩] 2) :: mat) → KeIn as rows → MatOk rows mat → Q (.ref x) { s with heap := h', toks := tk' }) :
    wpAny (model PySem.Challenge.rw_yu0003_03.row.prog w) (ktrTop dp un gd cn cs L a ccd cl' outer) (call (.ref 99) [.bytes b tb]) Q E s := by
  refine Spec.use (init_spec w b tb hb) B F X (fun _ h => (nomatch h)) T hk hd hu ?_
  rintro r n' h' tk' F' N' ⟨x, dx, ke, kd, t1, t2, as, rows, n, mat, rfl, h11, ok, sub, rfl⟩
  exact ret x dx ke kd t1 t2 as rows n mat h' tk' F' N' ⟨h11, sub⟩ ok
theorem enc_use {w : World} {x dx ke kd pl : Addr} {t1 t2 : Tok} {as rows : List Addr} {n n0 : Nat} {mat news : Ledger} {vs : List Value} {ns : List Int} {p : Program} {loose : List Str} {mean : ExcName → Option Value} {mg mb : Str → Option Value} {dp un : Nat} {gd : Option (List Code)} {cn : Str} {cs : Scope} {a : Addr} {ccd : Value} {cl' : List (Str × Addr)} {outer : List Env} {A₀ : Around} {base h₀ : Heap} {L : Addr} {m : Str → Option Value} {s : Shared} {Q E : Value → Shared → Prop}
    (hK : KeIn as rows) (hM : MatOk rows mat) (hO : Oct 16 vs ns) (m1 : (pl, listOf vs.toArray n0) ∈ news) (m2 : (ke, refsObj as n) ∈ news) (m3 : (x, instObj 99 dx) ∈ news) (m4 : (dx, dictOf [⟨PyData.keyHash w.params "_Ke", .str "_Ke" t1, .ref ke⟩, ⟨PyData.keyHash w.params "_Kd", .str "_Kd" t2, .ref kd⟩] 2) ∈ news) (m5 : ∀ p ∈ mat, p ∈ news) (B : Below A₀ base outer h₀) (F : Fr h₀ L s.heap m) (X : (hd.heap_39 w.params).In h₀) (N : News h₀ L s.heap news) (T : Top p loose mean mg mb h₀) (hk : cs.kind = .function) (hd : dp + 10 * 2 < recursionLimit) (hu : un + 100 * 2 < cLine)
    (ret : ∀ res vs' ns' n' h' tk', Fr h₀ L h' m → News h₀ L h' [(res, listOf (List.toArray vs') n')] → Oct 16 vs' ns' → Q (.ref res) { s with heap := h', toks := tk' }) :
    wpAny (model PySem.Challenge.rw_yu0003_03.row.prog w) (ktrTop dp un gd cn cs L a ccd cl' outer) (call (.ref 89) [.ref x, .ref pl]) Q E s := by
  refine Spec.use (encrypt_spec w x dx ke kd pl t1 t2 as rows n n0 mat vs ns hK hM hO) B F X (fun q hq => ?_) T hk hd hu ?_
  · rcases List.mem_cons.mp hq with rfl | hq
    · exact N _ m1
    · rcases List.mem_cons.mp hq with rfl | hq
      · exact N _ m2
      · rcases List.mem_cons.mp hq with rfl | hq
        · exact N _ m3
        · rcases List.mem_cons.mp hq with rfl | hq
          · exact N _ m4
          · exact N _ (m5 _ hq)
  · rintro r n' h' tk' F' N' ⟨res, vs', ns', n2, rfl, O, rfl⟩
    exact ret res vs' ns' n2 h' tk' F' N' O
theorem rep_oct {j : Int} {t : Tok} (h0 : 0 ≤ j) (h1 : j < 256) : Oct 16 (List.replicate (Int.toNat 16) [Value.int j t]).flatten (List.replicate (Int.toNat 16) [j]).flatten := by
  refine ⟨?_, rfl, fun y hy => ?_⟩
  · show IntsAre [.int j t, .int j t, .int j t, .int j t, .int j t, .int j t, .int j t, .int j t, .int j t, .int j t, .int j t, .int j t, .int j t, .int j t, .int j t, .int j t] [j, j, j, j, j, j, j, j, j, j, j, j, j, j, j, j]
    repeat constructor
  · obtain ⟨l, hl, hy⟩ := List.mem_flatten.mp hy
    rw [List.eq_of_mem_replicate hl] at hy
    rw [List.mem_singleton.mp hy]
    exact ⟨h0, h1⟩
theorem oct_bytes {prog : Program} {w : World} {A : Around} {E : Value → Shared → Prop} {s : Shared} {h₀ : Heap} {L l : Addr} {m : Str → Option Value} {news : Ledger} {vs : List Value} {ns : List Int} {n : Nat} {Q : Value → Shared → Prop} (O : Oct 16 vs ns) (F : Fr h₀ L s.heap m) (N : News h₀ L s.heap news) (hm : (l, listOf vs.toArray n) ∈ news) (hh : A.handled = none)
    (h : ∀ (b : Array UInt8) h' t k, b.size = 16 → Fr h₀ L h' m → News h₀ L h' news → Q (.bytes b t) { s with heap := h', toks := k }) : wpAny (model prog w) A (call (.type "bytes") [.ref l]) Q E s :=
  bytes_K F N (PySem.IsL.isList (n := n) (N _ hm).1) O.are O.lo (by rw [O.are.length, O.len]; exact Nat.le_of_ble_eq_true rfl) hh (fun h' t k F' N' _ => h _ h' t k (by rw [List.size_toArray, List.length_map, O.len]) F' N')
section
variable {prog : Program} {w : World} {A : Around} {E : Value → Shared → Prop} {s : Shared} {h₀ : Heap} {L a : Addr} {m : Str → Option Value} {k : Int} {u : Tok} {Q : Value → Shared → Prop}
theorem rcon_item {value slice : PySem.Expr} (F : Fr h₀ L s.heap m) (X : (hd.heap_39 w.params).In h₀) {x : Int} (e : tabAt 37 k = x) (h0 : 0 ≤ k) (h1 : k < 30) (h : ∀ t, Q (.int x t) s)
    (hs : subscripted slice false (.ref 37) (.int k u) = operate [.ref 37, .int k u] (getItem (.ref 37) (.int k u)) := by with_unfolding_all rfl) :
    wpAny (model prog w) A (subscriptTail value slice (.ref 37) (.int k u)) Q E s :=
  have hl : (tabL 37).length = 30 := (List.cons.inj tabs_len).1
  tab_item F X List.mem_cons_self h0 (by rw [hl]; exact h1) (by omega) (fun t => e ▸ h t) hs
end
theorem rcon_val {x j : Int} (h : x = rIter (rangeKs 0 (j - 0).toNat).length) (h0 : 0 ≤ j) (h1 : j < 30) : tabAt 37 j = x := by
  rw [h, rangeKs_length]
  have e : ((j - 0).toNat : Int) = j := by omega
  have q := rcon_ok (k := (j - 0).toNat) (by omega)
  rw [e] at q
  exact q
section
open LCg
variable {prog : Program} {w : World} {A : Around} {E : Value → Shared → Prop} {s : Shared} {h₀ : Heap} {L : Addr} {m : Str → Option Value} {env : Env} {elt : PySem.Expr} {x : Str} {scope : Scope} {cl : List (Str × Addr)} {Fin : List Value → List (Addr × Obj) → Prop} {news : Ledger} {n : Nat}
/-- the end of an element that is True -/
def TrueEnd (h₀ : Heap) (L : Addr) (m : Str → Option Value) (s₁ : Shared) (all : Ledger) (y : Value) (s₂ : Shared) : Prop :=
  ∃ h' tk, y = .bool true ∧ s₂ = { s₁ with heap := h', toks := tk } ∧ Fr h₀ L h' m ∧ News h₀ L h' all
theorem trues_snoc {ys : List Value} {i : Nat} (h : LSm.BoolsAre ys (List.replicate i true)) : LSm.BoolsAre (ys ++ [.bool true]) (List.replicate (i + 1) true) := by
  rw [List.replicate_succ']
  exact kbo_app h (.cons _ .nil)
theorem comp_trues {ax : Addr} {its : Array Value} (hS : SrcAt h₀ ax its news) (step : ∀ (i : Nat) v I oI C oC D oD m₂ h tk (E' : Value → Shared → Prop), its[i]? = some v → NsObj oC m₂ → m₂ x = some v → Fr h₀ L h m → News h₀ L h ((I, oI) :: (C, oC) :: (D, oD) :: news) →
      wpAny (model prog w) A (eval elt (compEnvC scope cl C env)) (TrueEnd h₀ L m { s with heap := h, toks := tk } ((I, oI) :: (C, oC) :: (D, oD) :: news)) E' { s with heap := h, toks := tk }) :
    ∀ (k i : Nat) (ys : List Value), LSm.BoolsAre ys (List.replicate i true) → (∀ ys', LSm.BoolsAre ys' (List.replicate (i + k) true) → Fin ys' news) →
      CompRest prog w A h₀ L m env elt x scope cl s (SrcAt h₀ ax its) (fun i v => its[i]? = some v) Fin k i ys news
  | 0, i, ys, hi, fin => CompRest.zero (fin ys hi)
  | k + 1, i, ys, hi, fin => by
    refine CompRest.succ ?_
    intro v I oI C oC D m₂ h tk E' hP hC hx F N off ne
    refine wpAny_mono (step i v I oI C oC D _ m₂ h tk E' hP hC hx F N) (fun y s₂ q => ?_) fun _ _ e => e
    obtain ⟨h', tk', rfl, rfl, F', N'⟩ := q
    refine CompEnd.intro F' N' news (fun p hp => hp) off hS ?_
    refine comp_trues hS step k (i + 1) (ys ++ [.bool true]) (trues_snoc hi) (fun ys' hi' => fin ys' ?_)
    have e : i + (k + 1) = i + 1 + k := by omega
    rw [e]
    exact hi'
theorem oct_get : ∀ {vs : List Value} {ns : List Int} {i : Nat} {v : Value}, IntsAre vs ns → (∀ x ∈ ns, 0 ≤ x ∧ x < 256) → vs[i]? = some v → ∃ z t, v = .int z t ∧ 0 ≤ z ∧ z < 256
  | _, _, i, _, .nil, _, h => by simp at h
  | _, _, 0, _, .cons z t _, hb, h => by
    have e := Option.some.inj h
    exact ⟨z, t, e.symm, hb z List.mem_cons_self⟩
  | _, _, i + 1, _, .cons z t r, hb, h => oct_get r (fun x hx => hb x (List.mem_cons_of_mem _ hx)) (by simpa using h)
theorem all_true {vs : List Value} {l : Addr} {c : Nat} {Q : Value → Shared → Prop} (F : Fr h₀ L s.heap m) (N : News h₀ L s.heap news) (hh : A.handled = none) (hm : (l, listOf vs.toArray n) ∈ news) (hb : LSm.BoolsAre vs (List.replicate c true))
    (h : ∀ h' tk, Fr h₀ L h' m → News h₀ L h' news → Q (.bool true) { s with heap := h', toks := tk }) : wpAny (model prog w) A (call (.builtin "all") [.ref l]) Q E s := by
  refine LSm.all_bools F N hh (PySem.IsL.isList (n := n) (N _ hm).1) hb (fun h' tk F' N' => ?_)
  have e : (List.replicate c true).all id = true := by
    rw [List.all_eq_true]
    intro b hb
    exact List.eq_of_mem_replicate hb
  rw [e]
  exact h h' tk F' N'
end
theorem rIter_ok {pre : List Int} {k x : Int} (h : x = rIter pre.length) : times x 2 = rIter (pre ++ [k]).length := by rw [List.length_append, h]; rfl
section
open LCg
variable {prog : Program} {w : World} {A : Around} {E : Value → Shared → Prop} {s₁ : Shared} {h₀ : Heap} {L res : Addr} {m : Str → Option Value} {env : Env} {elt : PySem.Expr} {x : Str} {scope : Scope} {cl : List (Str × Addr)} {Fin : Shared → List Value → List (Addr × Obj) → Prop} {n : Nat} {vs : List Value} {ns : List Int}
theorem told_src (O : Oct 16 vs ns) (hh : A.handled = none) (F : Fr h₀ L s₁.heap m) (N : News h₀ L s₁.heap [(res, listOf vs.toArray n)])
    (step : ∀ z t I oI C oC D oD m₂ h tk (E' : Value → Shared → Prop), 0 ≤ z → z < 256 → NsObj oC m₂ → m₂ x = some (.int z t) → Fr h₀ L h m → News h₀ L h [(I, oI), (C, oC), (D, oD), (res, listOf vs.toArray n)] →
      wpAny (model prog w) A (eval elt (compEnvC scope cl C env)) (TrueEnd h₀ L m { s₁ with heap := h, toks := tk } [(I, oI), (C, oC), (D, oD), (res, listOf vs.toArray n)]) E' { s₁ with heap := h, toks := tk })
    (fin : ∀ g ys', LSm.BoolsAre ys' (List.replicate 16 true) → Fin { s₁ with heap := g } ys' [(res, listOf vs.toArray n)]) :
    CompSrc prog w A h₀ L m env elt x scope cl Fin (.ref res) s₁ := by
  have e16 : vs.toArray.size = 16 := by rw [List.size_toArray, O.are.length, O.len]
  refine CompSrc.ledger hh F N List.mem_cons_self (by rw [e16]; exact Nat.le_of_ble_eq_true rfl) (fun g' => ?_)
  rw [e16]
  refine comp_trues (.inr ⟨_, List.mem_cons_self, rfl, _, rfl⟩) ?_ 16 0 [] .nil (fun ys' hb' => fin g' ys' hb')
  intro i v I oI C oC D oD m₂ h tk E' hv hC hx F' N'
  obtain ⟨z, t, rfl, hz0, hz1⟩ := oct_get O.are O.lo (by simpa using hv)
  exact step z t I oI C oC D oD m₂ h tk E' hz0 hz1 hC hx F' N'
end
end Mine
namespace Mine
local macro_rules | `(tactic| walk_at "call ref") => `(tactic| (k_here; (with_reducible show wpAny _ _ (call (Value.ref 122) [Value.int _ _, Value.int _ _]) _ _ _); k_dflt (refine' SpecI.use (times_spec _ _ _ _ _ _) ?k1 ?k2 ?k3 ?k4 ?k5 ?kK ?kd ?ku ?_; (case k4 => k_asm); (case k1 => k_asm); (case k2 => k_asm); (case k3 => k_asm); (case k5 => k_asm); (case kK => exact rfl); (case kd => ktr_room); (case ku => ktr_units); k_whole); intro t' h' tk' F' N'; (try dsimp only); (try k_fold)))
local macro_rules | `(tactic| walk_at "call ref") => `(tactic| (k_here; (with_reducible show wpAny _ _ (call (Value.ref 108) [Value.ref _]) _ _ _); k_dflt (refine' state_use ?hi ?h63 ?hb ?k1 ?k2 ?k3 ?k4 ?k5 ?kK ?kd ?ku ?_; (case k4 => k_asm); (case hi => assumption); (case h63 => omega); (case hb => assumption); (case k1 => k_asm); (case k2 => k_asm); (case k3 => k_asm); (case k5 => k_asm); (case kK => exact rfl); (case kd => ktr_room); (case ku => ktr_units); k_whole); intro st' cl' t' n' vs' ns' h' tk' F' N' lt' hc'; (try dsimp only); (try k_fold)))
local macro_rules | `(tactic| walk_at "call ref") => `(tactic| (k_here; (with_reducible show wpAny _ _ (call (Value.ref 115) [Value.ref _, Value.int _ _]) _ _ _); k_dflt (refine' take_use ?m1 ?m2 ?hlt ?hc ?hi0 ?hi1 ?hm0 ?hm1 ?k1 ?k2 ?k3 ?k4 ?k5 ?kK ?kd ?ku ?_; (case k4 => k_asm); (case m1 => k_mem); (case m2 => k_mem); (case hlt => assumption); (case hc => assumption); (case hi0 => omega); (case hi1 => omega); (case hm0 => omega); (case hm1 => omega); (case k1 => k_asm); (case k2 => k_asm); (case k3 => k_asm); (case k5 => k_asm); (case kK => exact rfl); (case kd => ktr_room); (case ku => ktr_units); k_whole); intro j' tj' i' ti' vs' ns' h' tk' F' N' j0' j1' hc' a0' a1'; (try dsimp only); (try k_fold)))
local macro_rules | `(tactic| walk_at "call ref") => `(tactic| (k_here; (with_reducible show wpAny _ _ (call (Value.ref 148) [Value.int _ _]) _ _ _); k_dflt (refine' place_use ?h0 ?h1 ?k1 ?k2 ?k3 ?k4 ?k5 ?kK ?kd ?ku ?_; (case k4 => k_asm); (case h0 => omega); (case h1 => omega); (case k1 => k_asm); (case k2 => k_asm); (case k3 => k_asm); (case k5 => k_asm); (case kK => exact rfl); (case kd => ktr_room); (case ku => ktr_units); k_whole); intro h' tk' F' N'; (try dsimp only); (try k_fold)))
local macro_rules | `(tactic| walk_at "call ref") => `(tactic| (k_here; (with_reducible show wpAny _ _ (call (Value.ref 99) [Value.bytes _ _]) _ _ _); k_dflt (refine' init_use ?hb ?k1 ?k2 ?k3 ?k4 ?k5 ?kK ?kd ?ku ?_; (case k4 => k_asm); (case hb => first | assumption | rfl | decide); (case k1 => k_asm); (case k2 => k_asm); (case k3 => k_asm); (case k5 => k_asm); (case kK => exact rfl); (case kd => ktr_room); (case ku => ktr_units); k_whole); intro x' dx' ke' kd' t1' t2' as' rows' n' mat' h' tk' F' N' hK' hM'; (try dsimp only); (try k_fold)))
local macro_rules | `(tactic| walk_at "call ref") => `(tactic| (k_here; (with_reducible show wpAny _ _ (call (Value.ref 89) [Value.ref _, Value.ref _]) _ _ _); k_dflt (refine' enc_use ?hK ?hM ?hO ?m1 ?m2 ?m3 ?m4 ?m5 ?k1 ?k2 ?k3 ?k4 ?k5 ?kK ?kd ?ku ?_; (case k4 => k_asm); (case m1 => k_mem); (case m2 => k_mem); (case m3 => k_mem); (case m4 => k_mem); (case hK => assumption); (case hM => assumption); (case m5 => (intro p hp; repeat' (first | exact hp | refine List.mem_cons_of_mem _ ?_))); (case hO => exact rep_oct (by omega) (by omega)); (case k1 => k_asm); (case k2 => k_asm); (case k3 => k_asm); (case k5 => k_asm); (case kK => exact rfl); (case kd => ktr_room); (case ku => ktr_units); k_whole); intro res' vs' ns' n' h' tk' F' N' hO'; (try dsimp only); (try k_fold)))
local macro_rules | `(tactic| walk_at "call type:bytes") => `(tactic| (k_here; (with_reducible show wpAny _ _ (call (Value.type "bytes") [Value.ref _]) _ _ _); k_dflt (refine' oct_bytes ?O ?F ?N ?m ?hh ?_; (case F => k_asm); (case N => k_asm); (case m => k_mem); (case O => exact rep_oct (by omega) (by omega)); (case hh => rfl); k_whole); intro b' h' t' k' hb' F' N'))
local macro_rules | `(tactic| walk_at "subscriptTail") => `(tactic| (k_here; (with_reducible show wpAny _ _ (subscriptTail _ _ (Value.ref 37) (Value.int _ _)) _ _ _); k_dflt (refine' rcon_item ?F ?X ?e ?k0 ?k1 ?_; (case e => assumption); (case F => k_asm); (case X => k_asm); (case k0 => omega); (case k1 => omega); k_whole); intro _))
local macro_rules | `(tactic| walk_at "call builtin:len") => `(tactic| (k_here; (with_reducible show wpAny _ _ (call (Value.builtin "len") [Value.ref _]) _ _ _); k_dflt (refine' len_oct (by assumption) ?N ?m ?c ?_; (case N => k_asm); (case m => k_mem); (case c => decide); k_whole)))
local macro_rules | `(tactic| walk_at "eval ListComp") => `(tactic| (k_here; (with_reducible show wpAny _ _ (eval (PySem.Expr.ListComp (PySem.Expr.BoolOp ..) _ _ _) _) _ _ _); k_dflt (refine LCg.ListComp_U (F₀ := by k_asm) (by rfl) (by decide) (by rfl) (by decide) (by rfl) ?_)))
local macro_rules | `(tactic| walk_at "call builtin:all") => `(tactic| (k_here; (with_reducible show wpAny _ _ (call (Value.builtin "all") [Value.ref _]) _ _ _); k_dflt (refine' all_true ?F ?N ?hh ?m ?b ?_; (case F => k_asm); (case N => k_asm); (case hh => rfl); (case m => k_mem); (case b => assumption)); intro h' tk' F' N'))
local macro_rules | `(tactic| tb_start) => `(tactic| repeat' (first | (k_unfold; (try dsimp only)) | ((fail_if_success (with_reducible show wpAny _ _ (pyIter _) _ _ _)); (fail_if_success (with_reducible show InvEndN _ _ _ _ _ _ _)); (fail_if_success (with_reducible show LCg.CompSrc _ _ _ _ _ _ _ _ _ _ _ _ _ _)); first | walk1 | (dsimp only; walk1) | (leave1; try dsimp only))))
local macro_rules | `(tactic| tb_rel) => `(tactic| repeat' (first | (k_unfold; (try dsimp only)) | walk1 | (dsimp only; walk1) | (leave1; try dsimp only)))
set_option maxHeartbeats 20000000 in
theorem law_holds : PySem.Challenge.rw_yu0003_03.Holds := hd (by
  k_go0
  (all_goals try k_fold)
  tb_start
  k_state_short (fun pre value => value = rIter pre.length) "value"
  · skip
    tb_start
    all_goals (k_with "state" => exact rIter_ok (by assumption))
    all_goals kst_close
  · skip
    have kR := rcon_val kInv (by omega) (by omega)
    clear kInv
    tb_start
    · rename (_ ≠ _) => hne
      exact absurd rfl hne
    · refine' told_src ?kO_m4 ?k1_m4 ?k2_m4 ?k3_m4 ?step_m4 ?fin_m4
      case kO_m4 => assumption
      case k1_m4 => rfl
      case k2_m4 => k_asm
      case k3_m4 => assumption
      case step_m4 =>
        intro z t I oI C oC D oD m₂ h tk E' hz0 hz1 hC hx F N
        tb_rel
        exact ⟨_, _, congrArg Value.bool (decide_eq_true hz1), rfl, by assumption, by assumption⟩
      case fin_m4 =>
        intro g' ys' hb'
        show LCg.FinE _ _ _ _ _ _ _
        intro D9 h9 tk9 F9 N9 off9
        dsimp only
        tb_rel
        refine goodW_bool (by assumption) (by assumption) (raisesW_false ?_) ?_
        · wrow_none_raised
        · first | kc_post | wrow_post)
end Mine
theorem PySem.Challenge.cw_yu0003_03_holds : PySem.Challenge.rw_yu0003_03.Holds := by
  exact Mine.law_holds
